import JvmDerived
import JvmDerived.Pilot.@@N@@Statement
import JvmDerived.Pilot.@@N@@Code
set_option linter.unusedVariables false
set_option linter.unusedSimpArgs false
namespace Jvm.RoadKit
open Sem ClassFile Op Lib Jvm.Stand Jvm.Free Jvm.LawKit
section OwnKit
variable {p : Program} {l : Launch} {e : Env} {R : Room} {s : State} {m : MethodId} {args : Array Value} {below : List Frame} {meth : Method} {c : Code} {T : State} {locs : List Loc} {cells slots : Nat}
theorem retI (X : Stand p l e R s m args below meth c T locs cells slots) (hx : p.tables.exec = Jvm.exec) {pc : Nat} {Ls : Array Slot} {z : Int32} {rest : List Value} (hret : meth.sig.returnType = some .int) (hd : decode c.code pc = .ok (.ireturn, 1)) {fs : List Frame}
    (hl : ∀ (f : JFrame) (acts : List Action), f.method = m → f.locked = none → f.entered = [] → (doReturn e (T.setTop f) acts (some (.int z))).1 = T.setFrames fs) : Steps p.tables e below (T.setTop (mkF m pc Ls (.int z :: rest))) (T.setFrames fs) := by
  have hm' : T.vm.method? m = some meth := X.method'
  have hn : narrow .int (.int z) = .int z := rfl
  show Steps p.tables e below (T.setTop { method := m, pc := pc, locals := Ls, stack := _ :: rest, locked := none }) _
  jvm_step X.here [X.here.top, hx, hd, hm', hret, hn]
  first | (intro acts; rw [hl _ acts rfl rfl rfl]) | rw [hl _ _ rfl rfl rfl]
  exact Steps.refl _
/-- from this state and frame the run comes to an end that P says -/
def own_Go (tb : Tables) (e : Env) (below : List Frame) (P : State → Outcome → Prop) (T : State) (g : JFrame) : Prop := ∃ s₂ o, Steps tb e below (T.setTop g) s₂ ∧ P s₂ o
theorem own_go {tb : Tables} {P : State → Outcome → Prop} {T' : State} {g g' : JFrame} (st : ∀ t, Steps tb e below (T'.setTop g') t → Steps tb e below (T.setTop g) t) (k : own_Go tb e below P T' g') : own_Go tb e below P T g := by
  obtain ⟨s, o, h, q⟩ := k
  exact ⟨s, o, st s h, q⟩
/-- how a body ends: what it returned, its heap and the places that it wrote stand in Q -/
def own_P (below : List Frame) (s : State) (Q : Option Value → Heap → List Loc → Prop) (k n : Nat) (s₂ : State) (o : Outcome) : Prop := s₂.status = .running ∧ Ended s₂ below o ∧ ∃ v L, o = .returned v ∧ Q v s₂.heap L ∧ FrameEnd s o s₂ L k n
theorem own_leave (X : Stand p l e R s m args below meth c T locs cells slots) {Q : Option Value → Heap → List Loc → Prop} {k n : Nat} {v : Option Value} {g : JFrame} (hlk : meth.locks = false) (hv : meth.sig.returnType = none → v = none) (hq : Q v T.heap locs) (hk : cells ≤ k) (hn : slots ≤ n)
    (hst : ∀ fs, (∀ (f : JFrame) (acts : List Action), f.method = m → f.locked = none → f.entered = [] → (doReturn e (T.setTop f) acts v).1 = T.setFrames fs) → Steps p.tables e below (T.setTop g) (T.setFrames fs)) : own_Go p.tables e below (own_P below s Q k n) T g := by
  obtain ⟨fs, hr, hrun, hended, hW, hsame⟩ := X.leave (v := v) hv hlk
  exact ⟨_, _, hst fs hr, hrun, hended, _, _, rfl, hq, ⟨_, rfl⟩, hW, hsame.mono hk hn⟩
section Rets
variable {Q : Option Value → Heap → List Loc → Prop} {k n : Nat} {pc : Nat} {Ls : Array Slot} {rest : List Value}
theorem own_retI (X : Stand p l e R s m args below meth c T locs cells slots) (hx : p.tables.exec = Jvm.exec) {z : Int32} (hret : meth.sig.returnType = some .int) (hlk : meth.locks = false) (hd : decode c.code pc = .ok (.ireturn, 1)) (hk : cells ≤ k) (hn : slots ≤ n) (hq : Q (some (.int z)) T.heap locs) : own_Go p.tables e below (own_P below s Q k n) T (mkF m pc Ls (.int z :: rest)) :=
  own_leave X hlk (fun h => by rw [hret] at h; cases h) hq hk hn (fun fs hr => retI X hx hret hd hr)
theorem own_retN (X : Stand p l e R s m args below meth c T locs cells slots) (hx : p.tables.exec = Jvm.exec) {z : Int32} {t : FieldType} (hret : meth.sig.returnType = some t) (ht : t = .boolean ∨ t = .byte ∨ t = .char ∨ t = .short) (hlk : meth.locks = false) (hd : decode c.code pc = .ok (.ireturn, 1)) (hk : cells ≤ k) (hn : slots ≤ n) (hq : Q (some (.int (nar t z))) T.heap locs) : own_Go p.tables e below (own_P below s Q k n) T (mkF m pc Ls (.int z :: rest)) :=
  own_leave X hlk (fun h => by rw [hret] at h; cases h) hq hk hn (fun fs hr => retN X hx hret ht hd hr)
theorem own_retJ (X : Stand p l e R s m args below meth c T locs cells slots) (hx : p.tables.exec = Jvm.exec) {z : Int64} (hret : meth.sig.returnType = some .long) (hlk : meth.locks = false) (hd : decode c.code pc = .ok (.lreturn, 1)) (hk : cells ≤ k) (hn : slots ≤ n) (hq : Q (some (.long z)) T.heap locs) : own_Go p.tables e below (own_P below s Q k n) T (mkF m pc Ls (.long z :: rest)) :=
  own_leave X hlk (fun h => by rw [hret] at h; cases h) hq hk hn (fun fs hr => retOut X hx hret rfl (Or.inr (Or.inl ⟨rfl, rfl, z, rfl⟩)) hd hr)
theorem own_narR {t : FieldType} {v : Value} (ht : t.isReference = true) : narrow t v = v := by
  cases t <;> simp [FieldType.isReference] at ht <;> rfl
theorem own_retR (X : Stand p l e R s m args below meth c T locs cells slots) (hx : p.tables.exec = Jvm.exec) {z : Value} {t : FieldType} (hret : meth.sig.returnType = some t) (ht : t.isReference = true) (hz : z.isRef = true) (hlk : meth.locks = false) (hd : decode c.code pc = .ok (.areturn, 1)) (hk : cells ≤ k) (hn : slots ≤ n) (hq : Q (some z) T.heap locs) : own_Go p.tables e below (own_P below s Q k n) T (mkF m pc Ls (z :: rest)) :=
  own_leave X hlk (fun h => by rw [hret] at h; cases h) hq hk hn (fun fs hr => retOut X hx hret (own_narR ht) (Or.inr (Or.inr (Or.inr (Or.inr ⟨rfl, ht, hz⟩)))) hd hr)
theorem own_retV (X : Stand p l e R s m args below meth c T locs cells slots) (hx : p.tables.exec = Jvm.exec) (hret : meth.sig.returnType = none) (hlk : meth.locks = false) (hd : decode c.code pc = .ok (.return_, 1)) (hk : cells ≤ k) (hn : slots ≤ n) (hq : Q none T.heap locs) : own_Go p.tables e below (own_P below s Q k n) T (mkF m pc Ls []) :=
  own_leave X hlk (fun _ => rfl) hq hk hn (fun fs hr => X.returnOut hx hret hd hr)
end Rets
/-- a body's contract at one call: its arguments, the heap at the call, what it leaves -/
abbrev own_Met (l : Launch) (y : MethodName) (bytes : ByteArray) (maxL : Nat) (ret : Option FieldType) (ws : List Cond) (rm : Room) (Z : State) (as' : Array Value) (h0 : Heap) (Q : Option Value → Heap → List Loc → Prop) : Prop :=
  MetFree l y (head1 (Cond.code y bytes maxL ret :: ws) rm) (fun a U => a = as' ∧ Z.Warmed39 U.vm ∧ U.heap = h0) (fun _ _ _ _ _ => True) (fun _ U o U' => ∃ v L, o = .returned v ∧ Q v U'.heap L ∧ FrameEnd U o U' L rm.cells rm.slots)
theorem own_body {y : MethodName} {bytes : ByteArray} {maxL : Nat} {ret : Option FieldType} {ws : List Cond} {rm : Room} {Z : State} {as' : Array Value} {h0 : Heap} {Q : Option Value → Heap → List Loc → Prop} (hpl : plainFor y = true)
    (H : ∀ (p : Program) (e : Env) (s : State) (m : MethodId) (below : List Frame) (meth : Method) (c : Code) (s₁ : State), Stand p l e rm s m as' below meth c s₁ [] 0 0 → p.tables.exec = Jvm.exec → c.code = bytes → c.maxLocals = maxL → s.vm.findClass y.cls = some m.cls → meth.name = y.name → meth.sig.returnType = ret → meth.locks = false → Z.Warmed39 s.vm → s₁.heap = h0 → own_Go p.tables e below (own_P below s Q rm.cells rm.slots) s₁ (entryFrame m as' maxL)) :
    own_Met l y bytes maxL ret ws rm Z as' h0 Q := by
  refine MetFree.of_bodySF hpl hisR ?_
  intro p e s m args below meth c s₁ Bd hml hP hK
  obtain ⟨rfl, hZ, hh⟩ := hP
  exact H p e s m below meth c s₁ (Stand.of_body Bd) Bd.exec Bd.bytes hml (findClass_of_methodNamed Bd.named) (name_of_methodNamed Bd.named Bd.method).1 Bd.returns Bd.notSynchronized hZ (by rw [← hh, Bd.state]; rfl)
theorem own_cast {tb : Tables} {P : State → Outcome → Prop} {g g' : JFrame} (q : g = g') (k : own_Go tb e below P T g') : own_Go tb e below P T g := q ▸ k
section Calls
variable {Z : State} {a0 : Array Value} {h : Heap} {own : String} {index : Nat} {y : MethodName} {bytes : ByteArray} {maxL : Nat} {ret : Option FieldType} {rm : Room} {Q : Option Value → Heap → List Loc → Prop}
theorem own_callS (X : Stand p l e R s m args below meth c T locs cells slots) (hx : p.tables.exec = Jvm.exec) (hZ : Z.Warmed39 s.vm) (hown : s.vm.findClass own = some m.cls) (w1 : (Cond.methodLink own index y).before a0 Z = true) (w2 : (Cond.static y).before a0 Z = true) (w3 : (Cond.initialized y.cls).before a0 Z = true) (w4 : (Cond.code y bytes maxL ret).before a0 Z = true)
    (hy : y.cls ≠ "java/lang/invoke/MethodHandle" ∧ y.cls ≠ "java/lang/invoke/VarHandle") (eT : T.heap = h) {argsL rest : List Value} (hM : own_Met l y bytes maxL ret [] rm Z argsL.toArray h Q) (W : Nat) (hf : rm.frames + 1 ≤ R.frames) (hl : W + (maxL + 11) + rm.locals ≤ R.locals) (hc : cells + rm.cells ≤ R.cells) (hs : slots + rm.slots ≤ R.slots)
    {g : JFrame} (hg : g.method = m) (hsize : g.locals.size = c.maxLocals) (hlen : ∀ sig, parseMethodDescriptor y.desc = some sig → argsL.length = sig.parameters.length) (hstack : g.stack = argsL.reverse ++ rest) (hW : 2 * g.monitorRoom + (rest.map fun v => v.category).sum ≤ W) (hdg : decode c.code g.pc = .ok (.invokestatic index, 3)) :
    ∃ (v : Option Value) (T' : State) (h' : Heap) (L : List Loc), Stand p l e R s m args below meth c T' (locs ++ L) (cells + rm.cells) (slots + rm.slots) ∧ T'.heap = h' ∧ Q v h' L ∧ ∀ t, Steps p.tables e below (T'.setTop { g with pc := g.pc + 3, stack := v.toList ++ rest }) t → Steps p.tables e below (T.setTop g) t := by
  obtain ⟨v, _, ⟨T', L', k', n'⟩, -, X', ⟨Lc, hQ, l', y', z'⟩, st⟩ := Jvm.LawKit.callS X hx hown (mvT hZ w1) (mvT hZ w2) (mvT hZ w3) (mvT hZ w4) hy (backOf (W := W) hM hZ w4 w3 hf hl) hg hsize hlen hstack hW hdg (fun _ _ => ⟨rfl, eT, hc, hs⟩)
  dsimp only [Pt.U, Pt.locs, Pt.cells, Pt.slots] at X' l' y' z' st hQ
  subst l' y' z'
  exact ⟨v, T', _, Lc, X', rfl, hQ, st⟩
theorem own_callI (X : Stand p l e R s m args below meth c T locs cells slots) (hx : p.tables.exec = Jvm.exec) (hZ : Z.Warmed39 s.vm) (hn : y.name = "<init>") (hown : s.vm.findClass own = some m.cls) (w1 : (Cond.methodLink own index y).before a0 Z = true) (w2 : (Cond.instanceMethod y).before a0 Z = true) (w3 : (Cond.initialized y.cls).before a0 Z = true) (w4 : (Cond.code y bytes maxL none).before a0 Z = true)
    (hy : y.cls ≠ "java/lang/invoke/MethodHandle" ∧ y.cls ≠ "java/lang/invoke/VarHandle") (eT : T.heap = h) {a : Addr} {argsL rest : List Value} (hM : own_Met l y bytes maxL none [] rm Z (.ref a :: argsL).toArray h Q) (W : Nat) (hf : rm.frames + 1 ≤ R.frames) (hl : W + (maxL + 11) + rm.locals ≤ R.locals) (hc : cells + rm.cells ≤ R.cells) (hs : slots + rm.slots ≤ R.slots)
    {g : JFrame} (hg : g.method = m) (hsize : g.locals.size = c.maxLocals) (hlen : ∀ sig, parseMethodDescriptor y.desc = some sig → argsL.length = sig.parameters.length) (hstack : g.stack = argsL.reverse ++ .ref a :: rest) (hW : 2 * g.monitorRoom + (rest.map fun v => v.category).sum ≤ W) (hdg : decode c.code g.pc = .ok (.invokespecial index, 3)) :
    ∃ (v : Option Value) (T' : State) (h' : Heap) (L : List Loc), Stand p l e R s m args below meth c T' (locs ++ L) (cells + rm.cells) (slots + rm.slots) ∧ T'.heap = h' ∧ Q v h' L ∧ ∀ t, Steps p.tables e below (T'.setTop { g with pc := g.pc + 3, stack := v.toList ++ rest }) t → Steps p.tables e below (T.setTop g) t := by
  obtain ⟨v, _, ⟨T', L', k', n'⟩, -, X', ⟨Lc, hQ, l', y', z'⟩, st⟩ := X.specialBack hx hn hown (mvT hZ w1) (mvT hZ w2) (mvT hZ w4) hy (backOf (W := W) hM hZ w4 w3 hf hl) hg hsize (Steps.refl _) hlen hstack hW hdg (fun _ _ => ⟨rfl, eT, hc, hs⟩)
  dsimp only [Pt.U, Pt.locs, Pt.cells, Pt.slots] at X' l' y' z' st hQ
  subst l' y' z'
  exact ⟨v, T', _, Lc, X', rfl, hQ, fun t k => st.trans k⟩
theorem own_callV {C : String} {z : MethodName} (X : Stand p l e R s m args below meth c T locs cells slots) (hx : p.tables.exec = Jvm.exec) (hZ : Z.Warmed39 s.vm) (hown : s.vm.findClass own = some m.cls) (w1 : (Cond.methodLink own index y).before a0 Z = true) (w2 : (Cond.declares y).before a0 Z = true) (w3 : (Cond.selects C y z).before a0 Z = true) (hnf : NotFace s y) (w5 : (Cond.instanceMethod z).before a0 Z = true) (w6 : (Cond.initialized z.cls).before a0 Z = true) (w4 : (Cond.code z bytes maxL ret).before a0 Z = true)
    (hy : y.cls ≠ "java/lang/invoke/MethodHandle" ∧ y.cls ≠ "java/lang/invoke/VarHandle") (eT : T.heap = h) {a : Addr} (E : Exa Z h a C) {argsL rest : List Value} (hM : own_Met l z bytes maxL ret [] rm Z (.ref a :: argsL).toArray h Q) (W : Nat) (hf : rm.frames + 1 ≤ R.frames) (hl : W + (maxL + 11) + rm.locals ≤ R.locals) (hc : cells + rm.cells ≤ R.cells) (hs : slots + rm.slots ≤ R.slots)
    {g : JFrame} (hg : g.method = m) (hsize : g.locals.size = c.maxLocals) (hlen : ∀ sig, parseMethodDescriptor y.desc = some sig → argsL.length = sig.parameters.length) (hstack : g.stack = argsL.reverse ++ .ref a :: rest) (hW : 2 * g.monitorRoom + (rest.map fun v => v.category).sum ≤ W) (hdg : decode c.code g.pc = .ok (.invokevirtual index, 3)) :
    ∃ (v : Option Value) (T' : State) (h' : Heap) (L : List Loc), Stand p l e R s m args below meth c T' (locs ++ L) (cells + rm.cells) (slots + rm.slots) ∧ T'.heap = h' ∧ Q v h' L ∧ ∀ t, Steps p.tables e below (T'.setTop { g with pc := g.pc + 3, stack := v.toList ++ rest }) t → Steps p.tables e below (T.setTop g) t := by
  obtain ⟨cq, kq, qa, qb, qc⟩ := isOf hZ eT E
  obtain ⟨v, _, ⟨T', L', k', n'⟩, -, X', ⟨Lc, hQ, l', y', z'⟩, st⟩ := X.virtualBack hx hown (mvT hZ w1) (mvT hZ w2) hnf (mvT hZ w3) (mvT hZ w5) hy (backOf (W := W) hM hZ w4 w6 hf hl) qa qc hg hsize (Steps.refl _) hlen hstack hW hdg (fun _ _ => ⟨rfl, eT, hc, hs⟩)
  dsimp only [Pt.U, Pt.locs, Pt.cells, Pt.slots] at X' l' y' z' st hQ
  subst l' y' z'
  exact ⟨v, T', _, Lc, X', rfl, hQ, fun t k => st.trans k⟩
theorem own_callP (X : Stand p l e R s m args below meth c T locs cells slots) (hx : p.tables.exec = Jvm.exec) (hZ : Z.Warmed39 s.vm) (hown : s.vm.findClass own = some m.cls) (w1 : (Cond.methodLink own index y).before a0 Z = true) (w2 : (Cond.instanceMethod y).before a0 Z = true) (w3 : (Cond.selects y.cls y y).before a0 Z = true) (w5 : (Cond.privateMethod y).before a0 Z = true) (w6 : (Cond.initialized y.cls).before a0 Z = true) (w4 : (Cond.code y bytes maxL ret).before a0 Z = true)
    (hy : y.cls ≠ "java/lang/invoke/MethodHandle" ∧ y.cls ≠ "java/lang/invoke/VarHandle") (eT : T.heap = h) {a : Addr} {C : String} (E : Exa Z h a C) {argsL rest : List Value} (hM : own_Met l y bytes maxL ret [] rm Z (.ref a :: argsL).toArray h Q) (W : Nat) (hf : rm.frames + 1 ≤ R.frames) (hl : W + (maxL + 11) + rm.locals ≤ R.locals) (hc : cells + rm.cells ≤ R.cells) (hs : slots + rm.slots ≤ R.slots)
    {g : JFrame} (hg : g.method = m) (hsize : g.locals.size = c.maxLocals) (hlen : ∀ sig, parseMethodDescriptor y.desc = some sig → argsL.length = sig.parameters.length) (hstack : g.stack = argsL.reverse ++ .ref a :: rest) (hW : 2 * g.monitorRoom + (rest.map fun v => v.category).sum ≤ W) (hdg : decode c.code g.pc = .ok (.invokevirtual index, 3)) :
    ∃ (v : Option Value) (T' : State) (h' : Heap) (L : List Loc), Stand p l e R s m args below meth c T' (locs ++ L) (cells + rm.cells) (slots + rm.slots) ∧ T'.heap = h' ∧ Q v h' L ∧ ∀ t, Steps p.tables e below (T'.setTop { g with pc := g.pc + 3, stack := v.toList ++ rest }) t → Steps p.tables e below (T.setTop g) t := by
  obtain ⟨cq, q1, q2⟩ := E.cell
  obtain ⟨v, _, ⟨T', L', k', n'⟩, -, X', ⟨Lc, hQ, l', y', z'⟩, st⟩ := X.privateBack hx hown (mvT hZ w1) (mvT hZ w2) (mvT hZ w3) (Cond.privateMethod_at (mvP hZ w5 (args := #[]))) (mvT hZ w4) hy (backOf (W := W) hM hZ w4 w6 hf hl) hg hsize (Steps.refl _) (by rw [eT]; exact q1) q2 hlen hstack hW hdg (fun _ _ => ⟨rfl, eT, hc, hs⟩)
  dsimp only [Pt.U, Pt.locs, Pt.cells, Pt.slots] at X' l' y' z' st hQ
  subst l' y' z'
  exact ⟨v, T', _, Lc, X', rfl, hQ, fun t k => st.trans k⟩
theorem own_callF {C : String} {z : MethodName} {count : Nat} (X : Stand p l e R s m args below meth c T locs cells slots) (hx : p.tables.exec = Jvm.exec) (hZ : Z.Warmed39 s.vm) (hown : s.vm.findClass own = some m.cls) (w1 : (Cond.methodLink own index y).before a0 Z = true) (w2 : (Cond.declares y).before a0 Z = true) (w3 : (Cond.interfaceMethod y.cls y.cls y.name y.desc).before args s = true) (w5 : (Cond.selects C y z).before a0 Z = true) (w7 : (Cond.instanceMethod z).before a0 Z = true) (w8 : (Cond.publicMethod z).before a0 Z = true) (w9 : (Cond.unhidden C y.name y.desc).before a0 Z = true) (w10 : (Cond.castable C y.cls).before a0 Z = true) (w6 : (Cond.initialized z.cls).before a0 Z = true) (w4 : (Cond.code z bytes maxL ret).before a0 Z = true)
    (hy : y.cls ≠ "java/lang/invoke/MethodHandle" ∧ y.cls ≠ "java/lang/invoke/VarHandle") (eT : T.heap = h) {a : Addr} (E : Exa Z h a C) {argsL rest : List Value} (hM : own_Met l z bytes maxL ret [] rm Z (.ref a :: argsL).toArray h Q) (W : Nat) (hf : rm.frames + 1 ≤ R.frames) (hl : W + (maxL + 11) + rm.locals ≤ R.locals) (hc : cells + rm.cells ≤ R.cells) (hs : slots + rm.slots ≤ R.slots)
    {g : JFrame} (hg : g.method = m) (hsize : g.locals.size = c.maxLocals) (hlen : ∀ sig, parseMethodDescriptor y.desc = some sig → argsL.length = sig.parameters.length) (hstack : g.stack = argsL.reverse ++ .ref a :: rest) (hW : 2 * g.monitorRoom + (rest.map fun v => v.category).sum ≤ W) (hdg : decode c.code g.pc = .ok (.invokeinterface index count, 5)) :
    ∃ (v : Option Value) (T' : State) (h' : Heap) (L : List Loc), Stand p l e R s m args below meth c T' (locs ++ L) (cells + rm.cells) (slots + rm.slots) ∧ T'.heap = h' ∧ Q v h' L ∧ ∀ t, Steps p.tables e below (T'.setTop { g with pc := g.pc + 5, stack := v.toList ++ rest }) t → Steps p.tables e below (T.setTop g) t := by
  obtain ⟨cq, kq, qa, qb, qc⟩ := isOf hZ eT E
  obtain ⟨v, _, ⟨T', L', k', n'⟩, -, X', ⟨Lc, hQ, l', y', z'⟩, st⟩ := X.interfaceBack hx hown (mvT hZ w1) (mvT hZ w2) w3 (mvT hZ w5) (mvT hZ w7) (mvT hZ w8) (mvT hZ w9) (mvT hZ w10) hy (backOf (W := W) hM hZ w4 w6 hf hl) qa qb qc hg hsize (Steps.refl _) hlen hstack hW hdg (fun _ _ => ⟨rfl, eT, hc, hs⟩)
  dsimp only [Pt.U, Pt.locs, Pt.cells, Pt.slots] at X' l' y' z' st hQ
  subst l' y' z'
  exact ⟨v, T', _, Lc, X', rfl, hQ, fun t k => st.trans k⟩
end Calls
end OwnKit
end Jvm.RoadKit
namespace Jvm.Pilot.@@N@@
open Jvm Jvm.ClassFile Sem Op Lib Jvm.Free Jvm.Stand Jvm.LawKit Jvm.RoadKit Bundle Jvm.Pilot.@@N@@.Jvm.D
def own_a (f : Nat → Int32) (p en : Int32) : Int32 := if p < en then f (p).toNatClampNeg &&& (255 : Int32) else (-1 : Int32)
def own_hr (q e : Int32) : Int32 := if q < e then (1 : Int32) else (0 : Int32)
def own_spec (f : Nat → Int32) (s en : Int32) : Int32 × Int32 := if (own_a f s en) < (0 : Int32) then ((-1 : Int32), en - s) else if (own_a f s en) < (128 : Int32) then ((own_a f s en), (1 : Int32)) else if (own_a f (s + (1 : Int32)) en) < (0 : Int32) then ((-1 : Int32), en - s) else if (own_a f (s + (1 : Int32)) en) < (128 : Int32) then ((((own_a f s en) - (128 : Int32)) + ((own_a f (s + (1 : Int32)) en) * (128 : Int32))), (2 : Int32)) else if (own_a f (s + (2 : Int32)) en) < (0 : Int32) then ((-1 : Int32), en - s) else if (own_a f (s + (2 : Int32)) en) < (128 : Int32) then (((((own_a f s en) - (128 : Int32)) + (((own_a f (s + (1 : Int32)) en) - (128 : Int32)) * (128 : Int32))) + ((own_a f (s + (2 : Int32)) en) * (16384 : Int32))), (3 : Int32)) else if (own_a f (s + (3 : Int32)) en) < (0 : Int32) then ((-1 : Int32), en - s) else if (own_a f (s + (3 : Int32)) en) < (128 : Int32) then ((((((own_a f s en) - (128 : Int32)) + (((own_a f (s + (1 : Int32)) en) - (128 : Int32)) * (128 : Int32))) + (((own_a f (s + (2 : Int32)) en) - (128 : Int32)) * (16384 : Int32))) + ((own_a f (s + (3 : Int32)) en) * (2097152 : Int32))), (4 : Int32)) else if (own_a f (s + (4 : Int32)) en) < (0 : Int32) then ((-1 : Int32), en - s) else if (own_a f (s + (4 : Int32)) en) < (128 : Int32) then (if (7 : Int32) < (own_a f (s + (4 : Int32)) en) then ((-1 : Int32), (5 : Int32)) else (((((((own_a f s en) - (128 : Int32)) + (((own_a f (s + (1 : Int32)) en) - (128 : Int32)) * (128 : Int32))) + (((own_a f (s + (2 : Int32)) en) - (128 : Int32)) * (16384 : Int32))) + (((own_a f (s + (3 : Int32)) en) - (128 : Int32)) * (2097152 : Int32))) + ((own_a f (s + (4 : Int32)) en) * (268435456 : Int32))), (5 : Int32))) else ((-1 : Int32), (5 : Int32))
theorem own_e0 : (0 : Int32).toInt = 0 := by decide
theorem own_lt {x y : Int32} (h : x.toInt < y.toInt) : x < y := Int32.lt_iff_toInt_lt.mpr h
theorem own_nlt {x y : Int32} (h : y.toInt ≤ x.toInt) : ¬ x < y := fun q => by rw [Int32.lt_iff_toInt_lt] at q; omega
theorem own_nlt' {y : Int32} (h : ¬ (7 : Int32) < y) : y.toInt ≤ 7 := by
  rw [Int32.lt_iff_toInt_lt] at h
  have e : (7 : Int32).toInt = 7 := by decide
  omega
theorem own_inc (j n : Int32) (h : j < n) : (j + (1 : Int32)).toInt = j.toInt + 1 := by
  have a := c_iadd j (1 : Int32)
  have r := rng32 j
  have r2 := rng32 n
  have r3 := rng32 (j + (1 : Int32))
  have e1 : (1 : Int32).toInt = 1 := by decide
  rw [e1] at a
  rw [Int32.lt_iff_toInt_lt] at h
  omega
theorem own_cancel (s e : Int32) : s + (e - s) = e := Int32.toInt_inj.mp (by
  have a := c_iadd s (e - s)
  have b := c_isub e s
  have r1 := rng32 s
  have r2 := rng32 e
  have r3 := rng32 (s + (e - s))
  omega)
theorem own_tA {f : Nat → Int32} {p sj en c : Int32} (hsj : sj.toInt = p.toInt) (hlt : p.toInt < en.toInt) (hc : c = (f (p).toNatClampNeg &&& (255 : Int32))) : own_a f sj en = c := by
  have e : sj = p := Int32.toInt_inj.mp hsj
  rw [own_a, e, if_pos (own_lt hlt), hc]
theorem own_tC {x c : Int32} (hc : c = (x &&& (255 : Int32))) : 0 ≤ c.toInt ∧ c.toInt ≤ 255 := by
  have a := c_mask x (255 : Int32) 8 (by decide) (by decide)
  rw [hc]
  omega
theorem own_256 : ∀ k : Fin 256, ((Int32.ofNat k.1 &&& (128 : Int32)) = (0 : Int32)) ↔ k.1 < 128 := by decide +kernel
theorem own_t128 {c : Int32} (h : 0 ≤ c.toInt ∧ c.toInt ≤ 255) : (c &&& (128 : Int32)) = (0 : Int32) ↔ c.toInt < 128 := by
  have e : c = Int32.ofNat c.toInt.toNat := Int32.toInt_inj.mp (by rw [Int32.toInt_ofNat_of_lt (by omega)]; omega)
  have q := own_256 ⟨c.toInt.toNat, by omega⟩
  rw [← e] at q
  rw [q]
  show c.toInt.toNat < 128 ↔ _
  omega
theorem own_sk0 {s : Int32} (h : 0 ≤ s.toInt) (h' : s.toInt ≤ 1000) : (s).toInt = s.toInt + 0 := by omega
theorem own_sk1 {s : Int32} (h : 0 ≤ s.toInt) (h' : s.toInt ≤ 1000) : (s + (1 : Int32)).toInt = s.toInt + 1 := by
  have a := c_iadd s (1 : Int32)
  have r := rng32 (s + (1 : Int32))
  have e : (1 : Int32).toInt = 1 := by decide
  rw [e] at a
  omega
theorem own_step1 {s p : Int32} (h : 0 ≤ s.toInt) (h' : s.toInt ≤ 1000) (u : p.toInt = s.toInt + 1) : p = s + (1 : Int32) := Int32.toInt_inj.mp (by rw [own_sk1 h h', u])
theorem own_sk2 {s : Int32} (h : 0 ≤ s.toInt) (h' : s.toInt ≤ 1000) : (s + (2 : Int32)).toInt = s.toInt + 2 := by
  have a := c_iadd s (2 : Int32)
  have r := rng32 (s + (2 : Int32))
  have e : (2 : Int32).toInt = 2 := by decide
  rw [e] at a
  omega
theorem own_step2 {s p : Int32} (h : 0 ≤ s.toInt) (h' : s.toInt ≤ 1000) (u : p.toInt = s.toInt + 2) : p = s + (2 : Int32) := Int32.toInt_inj.mp (by rw [own_sk2 h h', u])
theorem own_sk3 {s : Int32} (h : 0 ≤ s.toInt) (h' : s.toInt ≤ 1000) : (s + (3 : Int32)).toInt = s.toInt + 3 := by
  have a := c_iadd s (3 : Int32)
  have r := rng32 (s + (3 : Int32))
  have e : (3 : Int32).toInt = 3 := by decide
  rw [e] at a
  omega
theorem own_step3 {s p : Int32} (h : 0 ≤ s.toInt) (h' : s.toInt ≤ 1000) (u : p.toInt = s.toInt + 3) : p = s + (3 : Int32) := Int32.toInt_inj.mp (by rw [own_sk3 h h', u])
theorem own_sk4 {s : Int32} (h : 0 ≤ s.toInt) (h' : s.toInt ≤ 1000) : (s + (4 : Int32)).toInt = s.toInt + 4 := by
  have a := c_iadd s (4 : Int32)
  have r := rng32 (s + (4 : Int32))
  have e : (4 : Int32).toInt = 4 := by decide
  rw [e] at a
  omega
theorem own_step4 {s p : Int32} (h : 0 ≤ s.toInt) (h' : s.toInt ≤ 1000) (u : p.toInt = s.toInt + 4) : p = s + (4 : Int32) := Int32.toInt_inj.mp (by rw [own_sk4 h h', u])
theorem own_sk5 {s : Int32} (h : 0 ≤ s.toInt) (h' : s.toInt ≤ 1000) : (s + (5 : Int32)).toInt = s.toInt + 5 := by
  have a := c_iadd s (5 : Int32)
  have r := rng32 (s + (5 : Int32))
  have e : (5 : Int32).toInt = 5 := by decide
  rw [e] at a
  omega
theorem own_step5 {s p : Int32} (h : 0 ≤ s.toInt) (h' : s.toInt ≤ 1000) (u : p.toInt = s.toInt + 5) : p = s + (5 : Int32) := Int32.toInt_inj.mp (by rw [own_sk5 h h', u])
theorem own_128 : (128 : Int32).toInt = 128 := by decide
theorem own_lo {x : Int32} (h : 128 ≤ x.toInt) : ¬ x < (0 : Int32) ∧ ¬ x < (128 : Int32) := ⟨own_nlt (by rw [own_e0]; omega), own_nlt (by rw [own_128]; exact h)⟩
theorem own_spA0 {f : Nat → Int32} {s en : Int32}  (hz : ¬ s < en) : own_spec f s en = ((-1 : Int32), en - s) := by
  have z : own_a f s en = (-1 : Int32) := by rw [own_a, if_neg hz]
  unfold own_spec
  rw [z, if_pos (by decide)]
theorem own_spB0 {f : Nat → Int32} {s en : Int32} {c0 : Int32} (ha0 : own_a f s en = c0) (hd : 0 ≤ c0.toInt) (hh : c0.toInt < 128) : own_spec f s en = (c0, (1 : Int32)) := by
  have n1 : ¬ c0 < (0 : Int32) := own_nlt (by rw [own_e0]; omega)
  have n2 : c0 < (128 : Int32) := own_lt (by rw [own_128]; exact hh)
  unfold own_spec
  rw [ha0, if_neg n1, if_pos n2]
theorem own_spA1 {f : Nat → Int32} {s en : Int32} {c0 : Int32} (ha0 : own_a f s en = c0) (hb0 : 128 ≤ c0.toInt) (hz : ¬ (s + (1 : Int32)) < en) : own_spec f s en = ((-1 : Int32), en - s) := by
  have z : own_a f (s + (1 : Int32)) en = (-1 : Int32) := by rw [own_a, if_neg hz]
  unfold own_spec
  rw [ha0]
  rw [z, if_neg (own_lo hb0).1, if_neg (own_lo hb0).2, if_pos (by decide)]
theorem own_spB1 {f : Nat → Int32} {s en : Int32} {c0 c1 : Int32} (ha0 : own_a f s en = c0) (hb0 : 128 ≤ c0.toInt) (ha1 : own_a f (s + (1 : Int32)) en = c1) (hd : 0 ≤ c1.toInt) (hh : c1.toInt < 128) : own_spec f s en = (((c0 - (128 : Int32)) + (c1 * (128 : Int32))), (2 : Int32)) := by
  have n1 : ¬ c1 < (0 : Int32) := own_nlt (by rw [own_e0]; omega)
  have n2 : c1 < (128 : Int32) := own_lt (by rw [own_128]; exact hh)
  unfold own_spec
  rw [ha0, ha1, if_neg (own_lo hb0).1, if_neg (own_lo hb0).2, if_neg n1, if_pos n2]
theorem own_spA2 {f : Nat → Int32} {s en : Int32} {c0 c1 : Int32} (ha0 : own_a f s en = c0) (hb0 : 128 ≤ c0.toInt) (ha1 : own_a f (s + (1 : Int32)) en = c1) (hb1 : 128 ≤ c1.toInt) (hz : ¬ (s + (2 : Int32)) < en) : own_spec f s en = ((-1 : Int32), en - s) := by
  have z : own_a f (s + (2 : Int32)) en = (-1 : Int32) := by rw [own_a, if_neg hz]
  unfold own_spec
  rw [ha0, ha1]
  rw [z, if_neg (own_lo hb0).1, if_neg (own_lo hb0).2, if_neg (own_lo hb1).1, if_neg (own_lo hb1).2, if_pos (by decide)]
theorem own_spB2 {f : Nat → Int32} {s en : Int32} {c0 c1 c2 : Int32} (ha0 : own_a f s en = c0) (hb0 : 128 ≤ c0.toInt) (ha1 : own_a f (s + (1 : Int32)) en = c1) (hb1 : 128 ≤ c1.toInt) (ha2 : own_a f (s + (2 : Int32)) en = c2) (hd : 0 ≤ c2.toInt) (hh : c2.toInt < 128) : own_spec f s en = ((((c0 - (128 : Int32)) + ((c1 - (128 : Int32)) * (128 : Int32))) + (c2 * (16384 : Int32))), (3 : Int32)) := by
  have n1 : ¬ c2 < (0 : Int32) := own_nlt (by rw [own_e0]; omega)
  have n2 : c2 < (128 : Int32) := own_lt (by rw [own_128]; exact hh)
  unfold own_spec
  rw [ha0, ha1, ha2, if_neg (own_lo hb0).1, if_neg (own_lo hb0).2, if_neg (own_lo hb1).1, if_neg (own_lo hb1).2, if_neg n1, if_pos n2]
theorem own_spA3 {f : Nat → Int32} {s en : Int32} {c0 c1 c2 : Int32} (ha0 : own_a f s en = c0) (hb0 : 128 ≤ c0.toInt) (ha1 : own_a f (s + (1 : Int32)) en = c1) (hb1 : 128 ≤ c1.toInt) (ha2 : own_a f (s + (2 : Int32)) en = c2) (hb2 : 128 ≤ c2.toInt) (hz : ¬ (s + (3 : Int32)) < en) : own_spec f s en = ((-1 : Int32), en - s) := by
  have z : own_a f (s + (3 : Int32)) en = (-1 : Int32) := by rw [own_a, if_neg hz]
  unfold own_spec
  rw [ha0, ha1, ha2]
  rw [z, if_neg (own_lo hb0).1, if_neg (own_lo hb0).2, if_neg (own_lo hb1).1, if_neg (own_lo hb1).2, if_neg (own_lo hb2).1, if_neg (own_lo hb2).2, if_pos (by decide)]
theorem own_spB3 {f : Nat → Int32} {s en : Int32} {c0 c1 c2 c3 : Int32} (ha0 : own_a f s en = c0) (hb0 : 128 ≤ c0.toInt) (ha1 : own_a f (s + (1 : Int32)) en = c1) (hb1 : 128 ≤ c1.toInt) (ha2 : own_a f (s + (2 : Int32)) en = c2) (hb2 : 128 ≤ c2.toInt) (ha3 : own_a f (s + (3 : Int32)) en = c3) (hd : 0 ≤ c3.toInt) (hh : c3.toInt < 128) : own_spec f s en = (((((c0 - (128 : Int32)) + ((c1 - (128 : Int32)) * (128 : Int32))) + ((c2 - (128 : Int32)) * (16384 : Int32))) + (c3 * (2097152 : Int32))), (4 : Int32)) := by
  have n1 : ¬ c3 < (0 : Int32) := own_nlt (by rw [own_e0]; omega)
  have n2 : c3 < (128 : Int32) := own_lt (by rw [own_128]; exact hh)
  unfold own_spec
  rw [ha0, ha1, ha2, ha3, if_neg (own_lo hb0).1, if_neg (own_lo hb0).2, if_neg (own_lo hb1).1, if_neg (own_lo hb1).2, if_neg (own_lo hb2).1, if_neg (own_lo hb2).2, if_neg n1, if_pos n2]
theorem own_spA4 {f : Nat → Int32} {s en : Int32} {c0 c1 c2 c3 : Int32} (ha0 : own_a f s en = c0) (hb0 : 128 ≤ c0.toInt) (ha1 : own_a f (s + (1 : Int32)) en = c1) (hb1 : 128 ≤ c1.toInt) (ha2 : own_a f (s + (2 : Int32)) en = c2) (hb2 : 128 ≤ c2.toInt) (ha3 : own_a f (s + (3 : Int32)) en = c3) (hb3 : 128 ≤ c3.toInt) (hz : ¬ (s + (4 : Int32)) < en) : own_spec f s en = ((-1 : Int32), en - s) := by
  have z : own_a f (s + (4 : Int32)) en = (-1 : Int32) := by rw [own_a, if_neg hz]
  unfold own_spec
  rw [ha0, ha1, ha2, ha3]
  rw [z, if_neg (own_lo hb0).1, if_neg (own_lo hb0).2, if_neg (own_lo hb1).1, if_neg (own_lo hb1).2, if_neg (own_lo hb2).1, if_neg (own_lo hb2).2, if_neg (own_lo hb3).1, if_neg (own_lo hb3).2, if_pos (by decide)]
theorem own_spB4 {f : Nat → Int32} {s en : Int32} {c0 c1 c2 c3 c4 : Int32} (ha0 : own_a f s en = c0) (hb0 : 128 ≤ c0.toInt) (ha1 : own_a f (s + (1 : Int32)) en = c1) (hb1 : 128 ≤ c1.toInt) (ha2 : own_a f (s + (2 : Int32)) en = c2) (hb2 : 128 ≤ c2.toInt) (ha3 : own_a f (s + (3 : Int32)) en = c3) (hb3 : 128 ≤ c3.toInt) (ha4 : own_a f (s + (4 : Int32)) en = c4) (hd : 0 ≤ c4.toInt) (hh : c4.toInt < 128) (hc : ¬ (7 : Int32) < c4) : own_spec f s en = ((((((c0 - (128 : Int32)) + ((c1 - (128 : Int32)) * (128 : Int32))) + ((c2 - (128 : Int32)) * (16384 : Int32))) + ((c3 - (128 : Int32)) * (2097152 : Int32))) + (c4 * (268435456 : Int32))), (5 : Int32)) := by
  have n1 : ¬ c4 < (0 : Int32) := own_nlt (by rw [own_e0]; omega)
  have n2 : c4 < (128 : Int32) := own_lt (by rw [own_128]; exact hh)
  unfold own_spec
  rw [ha0, ha1, ha2, ha3, ha4, if_neg (own_lo hb0).1, if_neg (own_lo hb0).2, if_neg (own_lo hb1).1, if_neg (own_lo hb1).2, if_neg (own_lo hb2).1, if_neg (own_lo hb2).2, if_neg (own_lo hb3).1, if_neg (own_lo hb3).2, if_neg n1, if_pos n2, if_neg hc]
theorem own_spO4 {f : Nat → Int32} {s en : Int32} {c0 c1 c2 c3 c4 : Int32} (ha0 : own_a f s en = c0) (hb0 : 128 ≤ c0.toInt) (ha1 : own_a f (s + (1 : Int32)) en = c1) (hb1 : 128 ≤ c1.toInt) (ha2 : own_a f (s + (2 : Int32)) en = c2) (hb2 : 128 ≤ c2.toInt) (ha3 : own_a f (s + (3 : Int32)) en = c3) (hb3 : 128 ≤ c3.toInt) (ha4 : own_a f (s + (4 : Int32)) en = c4) (hb4 : 128 ≤ c4.toInt) : own_spec f s en = ((-1 : Int32), (5 : Int32)) := by
  unfold own_spec
  rw [ha0, ha1, ha2, ha3, ha4, if_neg (own_lo hb0).1, if_neg (own_lo hb0).2, if_neg (own_lo hb1).1, if_neg (own_lo hb1).2, if_neg (own_lo hb2).1, if_neg (own_lo hb2).2, if_neg (own_lo hb3).1, if_neg (own_lo hb3).2, if_neg (own_lo hb4).1, if_neg (own_lo hb4).2]
theorem own_spG4 {f : Nat → Int32} {s en : Int32} {c0 c1 c2 c3 c4 : Int32} (ha0 : own_a f s en = c0) (hb0 : 128 ≤ c0.toInt) (ha1 : own_a f (s + (1 : Int32)) en = c1) (hb1 : 128 ≤ c1.toInt) (ha2 : own_a f (s + (2 : Int32)) en = c2) (hb2 : 128 ≤ c2.toInt) (ha3 : own_a f (s + (3 : Int32)) en = c3) (hb3 : 128 ≤ c3.toInt) (ha4 : own_a f (s + (4 : Int32)) en = c4) (hd : 0 ≤ c4.toInt) (hh : c4.toInt < 128) (hc : (7 : Int32) < c4) : own_spec f s en = ((-1 : Int32), (5 : Int32)) := by
  have n1 : ¬ c4 < (0 : Int32) := own_nlt (by rw [own_e0]; omega)
  have n2 : c4 < (128 : Int32) := own_lt (by rw [own_128]; exact hh)
  unfold own_spec
  rw [ha0, ha1, ha2, ha3, ha4, if_neg (own_lo hb0).1, if_neg (own_lo hb0).2, if_neg (own_lo hb1).1, if_neg (own_lo hb1).2, if_neg (own_lo hb2).1, if_neg (own_lo hb2).2, if_neg (own_lo hb3).1, if_neg (own_lo hb3).2, if_neg n1, if_pos n2, if_pos hc]
theorem own_sub128 {c : Int32} (h : 0 ≤ c.toInt ∧ c.toInt ≤ 255) : (c - (128 : Int32)).toInt = c.toInt - 128 := by
  have a := c_isub c (128 : Int32)
  have r := rng32 (c - (128 : Int32))
  have e : (128 : Int32).toInt = 128 := by decide
  rw [e] at a
  omega
theorem own_addx {x y : Int32} {z : Int} (h : x.toInt + y.toInt = z) (hz : -2147483648 ≤ z ∧ z < 2147483648) : (x + y).toInt = z := by
  have a := c_iadd x y
  have r := rng32 (x + y)
  omega
theorem own_mulW1 {x : Int32} (h : 0 ≤ x.toInt ∧ x.toInt ≤ 255) : (x * (128 : Int32)).toInt = x.toInt * 128 := by
  have a := c_imul x (128 : Int32)
  have r := rng32 (x * (128 : Int32))
  have e : (128 : Int32).toInt = 128 := by decide
  rw [e] at a
  omega
theorem own_mulS1 {x : Int32} (h : 0 ≤ x.toInt ∧ x.toInt ≤ 255) : ((x - (128 : Int32)) * (128 : Int32)).toInt = (x.toInt - 128) * 128 := by
  have s := own_sub128 h
  have a := c_imul (x - (128 : Int32)) (128 : Int32)
  have r := rng32 ((x - (128 : Int32)) * (128 : Int32))
  have e : (128 : Int32).toInt = 128 := by decide
  rw [e, s] at a
  omega
theorem own_mulW2 {x : Int32} (h : 0 ≤ x.toInt ∧ x.toInt ≤ 255) : (x * (16384 : Int32)).toInt = x.toInt * 16384 := by
  have a := c_imul x (16384 : Int32)
  have r := rng32 (x * (16384 : Int32))
  have e : (16384 : Int32).toInt = 16384 := by decide
  rw [e] at a
  omega
theorem own_mulS2 {x : Int32} (h : 0 ≤ x.toInt ∧ x.toInt ≤ 255) : ((x - (128 : Int32)) * (16384 : Int32)).toInt = (x.toInt - 128) * 16384 := by
  have s := own_sub128 h
  have a := c_imul (x - (128 : Int32)) (16384 : Int32)
  have r := rng32 ((x - (128 : Int32)) * (16384 : Int32))
  have e : (16384 : Int32).toInt = 16384 := by decide
  rw [e, s] at a
  omega
theorem own_mulW3 {x : Int32} (h : 0 ≤ x.toInt ∧ x.toInt ≤ 255) : (x * (2097152 : Int32)).toInt = x.toInt * 2097152 := by
  have a := c_imul x (2097152 : Int32)
  have r := rng32 (x * (2097152 : Int32))
  have e : (2097152 : Int32).toInt = 2097152 := by decide
  rw [e] at a
  omega
theorem own_mulS3 {x : Int32} (h : 0 ≤ x.toInt ∧ x.toInt ≤ 255) : ((x - (128 : Int32)) * (2097152 : Int32)).toInt = (x.toInt - 128) * 2097152 := by
  have s := own_sub128 h
  have a := c_imul (x - (128 : Int32)) (2097152 : Int32)
  have r := rng32 ((x - (128 : Int32)) * (2097152 : Int32))
  have e : (2097152 : Int32).toInt = 2097152 := by decide
  rw [e, s] at a
  omega
theorem own_mulW4 {x : Int32} (h : 0 ≤ x.toInt ∧ x.toInt ≤ 7) : (x * (268435456 : Int32)).toInt = x.toInt * 268435456 := by
  have a := c_imul x (268435456 : Int32)
  have r := rng32 (x * (268435456 : Int32))
  have e : (268435456 : Int32).toInt = 268435456 := by decide
  rw [e] at a
  omega
theorem own_tR0 (r c : Int32) (hr : 0 ≤ r.toInt ∧ r.toInt < 1) (hx : c.toInt % 128 * 1 + 1 ≤ 2147483648) : (r ||| ((c &&& (127 : Int32)) <<< ((0 : Int32) &&& 31))).toInt = r.toInt + c.toInt % 128 * 1 := by
  have a := c_mask c (127 : Int32) 7 (by decide) (by decide)
  have b := c_ishl (c &&& (127 : Int32)) (0 : Int32) 0 (by decide)
  have r1 := rng32 ((c &&& (127 : Int32)) <<< ((0 : Int32) &&& 31))
  have r2 := rng32 (r ||| ((c &&& (127 : Int32)) <<< ((0 : Int32) &&& 31)))
  have e : ((c &&& (127 : Int32)) <<< ((0 : Int32) &&& 31)).toInt = c.toInt % 128 * 1 := by omega
  have o := c_or' r ((c &&& (127 : Int32)) <<< ((0 : Int32) &&& 31)) 0 (by decide) 1 (by decide) (by omega) (by omega) (by omega)
  omega
theorem own_val0 {r c0 : Int32} (hd0 : 0 ≤ c0.toInt ∧ c0.toInt ≤ 255) (h : r.toInt = c0.toInt * 1) : r = c0 := Int32.toInt_inj.mp (by
  rw [Int.mul_one] at h
  exact h)
theorem own_tR1 (r c : Int32) (hr : 0 ≤ r.toInt ∧ r.toInt < 128) (hx : c.toInt % 128 * 128 + 128 ≤ 2147483648) : (r ||| ((c &&& (127 : Int32)) <<< ((7 : Int32) &&& 31))).toInt = r.toInt + c.toInt % 128 * 128 := by
  have a := c_mask c (127 : Int32) 7 (by decide) (by decide)
  have b := c_ishl (c &&& (127 : Int32)) (7 : Int32) 7 (by decide)
  have r1 := rng32 ((c &&& (127 : Int32)) <<< ((7 : Int32) &&& 31))
  have r2 := rng32 (r ||| ((c &&& (127 : Int32)) <<< ((7 : Int32) &&& 31)))
  have e : ((c &&& (127 : Int32)) <<< ((7 : Int32) &&& 31)).toInt = c.toInt % 128 * 128 := by omega
  have o := c_or' r ((c &&& (127 : Int32)) <<< ((7 : Int32) &&& 31)) 7 (by decide) 128 (by decide) (by omega) (by omega) (by omega)
  omega
theorem own_val1 {r c0 c1 : Int32} (hd0 : 0 ≤ c0.toInt ∧ c0.toInt ≤ 255) (hd1 : 0 ≤ c1.toInt ∧ c1.toInt ≤ 255) (h : r.toInt = (c0.toInt - 128) * 1 + c1.toInt * 128) : r = ((c0 - (128 : Int32)) + (c1 * (128 : Int32))) := Int32.toInt_inj.mp (by
  rw [Int.mul_one] at h
  have z1 : -2147483648 ≤ (c0.toInt - 128) + c1.toInt * 128 ∧ (c0.toInt - 128) + c1.toInt * 128 < 2147483648 := by omega
  have t0 : (c0 - (128 : Int32)).toInt = (c0.toInt - 128) := own_sub128 hd0
  have m1 : (c1 * (128 : Int32)).toInt = c1.toInt * 128 := own_mulW1 hd1
  have t1 : ((c0 - (128 : Int32)) + (c1 * (128 : Int32))).toInt = (c0.toInt - 128) + c1.toInt * 128 := own_addx (by rw [t0, m1]) z1
  rw [h, t1])
theorem own_tR2 (r c : Int32) (hr : 0 ≤ r.toInt ∧ r.toInt < 16384) (hx : c.toInt % 128 * 16384 + 16384 ≤ 2147483648) : (r ||| ((c &&& (127 : Int32)) <<< ((14 : Int32) &&& 31))).toInt = r.toInt + c.toInt % 128 * 16384 := by
  have a := c_mask c (127 : Int32) 7 (by decide) (by decide)
  have b := c_ishl (c &&& (127 : Int32)) (14 : Int32) 14 (by decide)
  have r1 := rng32 ((c &&& (127 : Int32)) <<< ((14 : Int32) &&& 31))
  have r2 := rng32 (r ||| ((c &&& (127 : Int32)) <<< ((14 : Int32) &&& 31)))
  have e : ((c &&& (127 : Int32)) <<< ((14 : Int32) &&& 31)).toInt = c.toInt % 128 * 16384 := by omega
  have o := c_or' r ((c &&& (127 : Int32)) <<< ((14 : Int32) &&& 31)) 14 (by decide) 16384 (by decide) (by omega) (by omega) (by omega)
  omega
theorem own_val2 {r c0 c1 c2 : Int32} (hd0 : 0 ≤ c0.toInt ∧ c0.toInt ≤ 255) (hd1 : 0 ≤ c1.toInt ∧ c1.toInt ≤ 255) (hd2 : 0 ≤ c2.toInt ∧ c2.toInt ≤ 255) (h : r.toInt = (c0.toInt - 128) * 1 + (c1.toInt - 128) * 128 + c2.toInt * 16384) : r = (((c0 - (128 : Int32)) + ((c1 - (128 : Int32)) * (128 : Int32))) + (c2 * (16384 : Int32))) := Int32.toInt_inj.mp (by
  rw [Int.mul_one] at h
  have z1 : -2147483648 ≤ (c0.toInt - 128) + (c1.toInt - 128) * 128 ∧ (c0.toInt - 128) + (c1.toInt - 128) * 128 < 2147483648 := by omega
  have z2 : -2147483648 ≤ (c0.toInt - 128) + (c1.toInt - 128) * 128 + c2.toInt * 16384 ∧ (c0.toInt - 128) + (c1.toInt - 128) * 128 + c2.toInt * 16384 < 2147483648 := by omega
  have t0 : (c0 - (128 : Int32)).toInt = (c0.toInt - 128) := own_sub128 hd0
  have m1 : ((c1 - (128 : Int32)) * (128 : Int32)).toInt = (c1.toInt - 128) * 128 := own_mulS1 hd1
  have t1 : ((c0 - (128 : Int32)) + ((c1 - (128 : Int32)) * (128 : Int32))).toInt = (c0.toInt - 128) + (c1.toInt - 128) * 128 := own_addx (by rw [t0, m1]) z1
  have m2 : (c2 * (16384 : Int32)).toInt = c2.toInt * 16384 := own_mulW2 hd2
  have t2 : (((c0 - (128 : Int32)) + ((c1 - (128 : Int32)) * (128 : Int32))) + (c2 * (16384 : Int32))).toInt = (c0.toInt - 128) + (c1.toInt - 128) * 128 + c2.toInt * 16384 := own_addx (by rw [t1, m2]) z2
  rw [h, t2])
theorem own_tR3 (r c : Int32) (hr : 0 ≤ r.toInt ∧ r.toInt < 2097152) (hx : c.toInt % 128 * 2097152 + 2097152 ≤ 2147483648) : (r ||| ((c &&& (127 : Int32)) <<< ((21 : Int32) &&& 31))).toInt = r.toInt + c.toInt % 128 * 2097152 := by
  have a := c_mask c (127 : Int32) 7 (by decide) (by decide)
  have b := c_ishl (c &&& (127 : Int32)) (21 : Int32) 21 (by decide)
  have r1 := rng32 ((c &&& (127 : Int32)) <<< ((21 : Int32) &&& 31))
  have r2 := rng32 (r ||| ((c &&& (127 : Int32)) <<< ((21 : Int32) &&& 31)))
  have e : ((c &&& (127 : Int32)) <<< ((21 : Int32) &&& 31)).toInt = c.toInt % 128 * 2097152 := by omega
  have o := c_or' r ((c &&& (127 : Int32)) <<< ((21 : Int32) &&& 31)) 21 (by decide) 2097152 (by decide) (by omega) (by omega) (by omega)
  omega
theorem own_val3 {r c0 c1 c2 c3 : Int32} (hd0 : 0 ≤ c0.toInt ∧ c0.toInt ≤ 255) (hd1 : 0 ≤ c1.toInt ∧ c1.toInt ≤ 255) (hd2 : 0 ≤ c2.toInt ∧ c2.toInt ≤ 255) (hd3 : 0 ≤ c3.toInt ∧ c3.toInt ≤ 255) (h : r.toInt = (c0.toInt - 128) * 1 + (c1.toInt - 128) * 128 + (c2.toInt - 128) * 16384 + c3.toInt * 2097152) : r = ((((c0 - (128 : Int32)) + ((c1 - (128 : Int32)) * (128 : Int32))) + ((c2 - (128 : Int32)) * (16384 : Int32))) + (c3 * (2097152 : Int32))) := Int32.toInt_inj.mp (by
  rw [Int.mul_one] at h
  have z1 : -2147483648 ≤ (c0.toInt - 128) + (c1.toInt - 128) * 128 ∧ (c0.toInt - 128) + (c1.toInt - 128) * 128 < 2147483648 := by omega
  have z2 : -2147483648 ≤ (c0.toInt - 128) + (c1.toInt - 128) * 128 + (c2.toInt - 128) * 16384 ∧ (c0.toInt - 128) + (c1.toInt - 128) * 128 + (c2.toInt - 128) * 16384 < 2147483648 := by omega
  have z3 : -2147483648 ≤ (c0.toInt - 128) + (c1.toInt - 128) * 128 + (c2.toInt - 128) * 16384 + c3.toInt * 2097152 ∧ (c0.toInt - 128) + (c1.toInt - 128) * 128 + (c2.toInt - 128) * 16384 + c3.toInt * 2097152 < 2147483648 := by omega
  have t0 : (c0 - (128 : Int32)).toInt = (c0.toInt - 128) := own_sub128 hd0
  have m1 : ((c1 - (128 : Int32)) * (128 : Int32)).toInt = (c1.toInt - 128) * 128 := own_mulS1 hd1
  have t1 : ((c0 - (128 : Int32)) + ((c1 - (128 : Int32)) * (128 : Int32))).toInt = (c0.toInt - 128) + (c1.toInt - 128) * 128 := own_addx (by rw [t0, m1]) z1
  have m2 : ((c2 - (128 : Int32)) * (16384 : Int32)).toInt = (c2.toInt - 128) * 16384 := own_mulS2 hd2
  have t2 : (((c0 - (128 : Int32)) + ((c1 - (128 : Int32)) * (128 : Int32))) + ((c2 - (128 : Int32)) * (16384 : Int32))).toInt = (c0.toInt - 128) + (c1.toInt - 128) * 128 + (c2.toInt - 128) * 16384 := own_addx (by rw [t1, m2]) z2
  have m3 : (c3 * (2097152 : Int32)).toInt = c3.toInt * 2097152 := own_mulW3 hd3
  have t3 : ((((c0 - (128 : Int32)) + ((c1 - (128 : Int32)) * (128 : Int32))) + ((c2 - (128 : Int32)) * (16384 : Int32))) + (c3 * (2097152 : Int32))).toInt = (c0.toInt - 128) + (c1.toInt - 128) * 128 + (c2.toInt - 128) * 16384 + c3.toInt * 2097152 := own_addx (by rw [t2, m3]) z3
  rw [h, t3])
theorem own_tR4 (r c : Int32) (hr : 0 ≤ r.toInt ∧ r.toInt < 268435456) (hx : c.toInt % 128 * 268435456 + 268435456 ≤ 2147483648) : (r ||| ((c &&& (127 : Int32)) <<< ((28 : Int32) &&& 31))).toInt = r.toInt + c.toInt % 128 * 268435456 := by
  have a := c_mask c (127 : Int32) 7 (by decide) (by decide)
  have b := c_ishl (c &&& (127 : Int32)) (28 : Int32) 28 (by decide)
  have r1 := rng32 ((c &&& (127 : Int32)) <<< ((28 : Int32) &&& 31))
  have r2 := rng32 (r ||| ((c &&& (127 : Int32)) <<< ((28 : Int32) &&& 31)))
  have e : ((c &&& (127 : Int32)) <<< ((28 : Int32) &&& 31)).toInt = c.toInt % 128 * 268435456 := by omega
  have o := c_or' r ((c &&& (127 : Int32)) <<< ((28 : Int32) &&& 31)) 28 (by decide) 268435456 (by decide) (by omega) (by omega) (by omega)
  omega
theorem own_val4 {r c0 c1 c2 c3 c4 : Int32} (hd0 : 0 ≤ c0.toInt ∧ c0.toInt ≤ 255) (hd1 : 0 ≤ c1.toInt ∧ c1.toInt ≤ 255) (hd2 : 0 ≤ c2.toInt ∧ c2.toInt ≤ 255) (hd3 : 0 ≤ c3.toInt ∧ c3.toInt ≤ 255) (hd4 : 0 ≤ c4.toInt ∧ c4.toInt ≤ 7) (h : r.toInt = (c0.toInt - 128) * 1 + (c1.toInt - 128) * 128 + (c2.toInt - 128) * 16384 + (c3.toInt - 128) * 2097152 + c4.toInt * 268435456) : r = (((((c0 - (128 : Int32)) + ((c1 - (128 : Int32)) * (128 : Int32))) + ((c2 - (128 : Int32)) * (16384 : Int32))) + ((c3 - (128 : Int32)) * (2097152 : Int32))) + (c4 * (268435456 : Int32))) := Int32.toInt_inj.mp (by
  rw [Int.mul_one] at h
  have z1 : -2147483648 ≤ (c0.toInt - 128) + (c1.toInt - 128) * 128 ∧ (c0.toInt - 128) + (c1.toInt - 128) * 128 < 2147483648 := by omega
  have z2 : -2147483648 ≤ (c0.toInt - 128) + (c1.toInt - 128) * 128 + (c2.toInt - 128) * 16384 ∧ (c0.toInt - 128) + (c1.toInt - 128) * 128 + (c2.toInt - 128) * 16384 < 2147483648 := by omega
  have z3 : -2147483648 ≤ (c0.toInt - 128) + (c1.toInt - 128) * 128 + (c2.toInt - 128) * 16384 + (c3.toInt - 128) * 2097152 ∧ (c0.toInt - 128) + (c1.toInt - 128) * 128 + (c2.toInt - 128) * 16384 + (c3.toInt - 128) * 2097152 < 2147483648 := by omega
  have z4 : -2147483648 ≤ (c0.toInt - 128) + (c1.toInt - 128) * 128 + (c2.toInt - 128) * 16384 + (c3.toInt - 128) * 2097152 + c4.toInt * 268435456 ∧ (c0.toInt - 128) + (c1.toInt - 128) * 128 + (c2.toInt - 128) * 16384 + (c3.toInt - 128) * 2097152 + c4.toInt * 268435456 < 2147483648 := by omega
  have t0 : (c0 - (128 : Int32)).toInt = (c0.toInt - 128) := own_sub128 hd0
  have m1 : ((c1 - (128 : Int32)) * (128 : Int32)).toInt = (c1.toInt - 128) * 128 := own_mulS1 hd1
  have t1 : ((c0 - (128 : Int32)) + ((c1 - (128 : Int32)) * (128 : Int32))).toInt = (c0.toInt - 128) + (c1.toInt - 128) * 128 := own_addx (by rw [t0, m1]) z1
  have m2 : ((c2 - (128 : Int32)) * (16384 : Int32)).toInt = (c2.toInt - 128) * 16384 := own_mulS2 hd2
  have t2 : (((c0 - (128 : Int32)) + ((c1 - (128 : Int32)) * (128 : Int32))) + ((c2 - (128 : Int32)) * (16384 : Int32))).toInt = (c0.toInt - 128) + (c1.toInt - 128) * 128 + (c2.toInt - 128) * 16384 := own_addx (by rw [t1, m2]) z2
  have m3 : ((c3 - (128 : Int32)) * (2097152 : Int32)).toInt = (c3.toInt - 128) * 2097152 := own_mulS3 hd3
  have t3 : ((((c0 - (128 : Int32)) + ((c1 - (128 : Int32)) * (128 : Int32))) + ((c2 - (128 : Int32)) * (16384 : Int32))) + ((c3 - (128 : Int32)) * (2097152 : Int32))).toInt = (c0.toInt - 128) + (c1.toInt - 128) * 128 + (c2.toInt - 128) * 16384 + (c3.toInt - 128) * 2097152 := own_addx (by rw [t2, m3]) z3
  have m4 : (c4 * (268435456 : Int32)).toInt = c4.toInt * 268435456 := own_mulW4 hd4
  have t4 : (((((c0 - (128 : Int32)) + ((c1 - (128 : Int32)) * (128 : Int32))) + ((c2 - (128 : Int32)) * (16384 : Int32))) + ((c3 - (128 : Int32)) * (2097152 : Int32))) + (c4 * (268435456 : Int32))).toInt = (c0.toInt - 128) + (c1.toInt - 128) * 128 + (c2.toInt - 128) * 16384 + (c3.toInt - 128) * 2097152 + c4.toInt * 268435456 := own_addx (by rw [t3, m4]) z4
  rw [h, t4])
theorem own_getD : ∀ (zs : List Int32) (i : Nat), (zs.map Value.int).getD i (.int (0 : Int32)) = .int (zs.getD i (0 : Int32))
  | [], _ => rfl
  | _ :: _, 0 => rfl
  | _ :: t, i + 1 => own_getD t i
theorem own_all : ∀ (zs : List Int32), (∀ z ∈ zs, 0 ≤ z.toInt ∧ z.toInt ≤ 127) → ∀ i : Nat, 0 ≤ (zs.getD i (0 : Int32)).toInt ∧ (zs.getD i (0 : Int32)).toInt ≤ 127
  | [], _, _ => by rw [show ([] : List Int32).getD _ (0 : Int32) = (0 : Int32) from rfl, own_e0]; omega
  | a :: _, h, 0 => h a (List.mem_cons_self ..)
  | _ :: t, h, i + 1 => own_all t (fun z hz => h z (List.mem_cons_of_mem _ hz)) i
theorem own_byte (x : Int32) : 0 ≤ (nar .byte ((x &&& (127 : Int32))).toInt8.toInt32).toInt ∧ (nar .byte ((x &&& (127 : Int32))).toInt8.toInt32).toInt ≤ 127 := by
  have a := c_mask x (127 : Int32) 7 (by decide) (by decide)
  have b := c_i2b (x &&& (127 : Int32))
  have c := c_i2b ((x &&& (127 : Int32))).toInt8.toInt32
  show 0 ≤ (((x &&& (127 : Int32))).toInt8.toInt32.toInt8.toInt32).toInt ∧ (((x &&& (127 : Int32))).toInt8.toInt32.toInt8.toInt32).toInt ≤ 127
  omega
theorem own_off (p : Int32) : 0 ≤ ((p &&& (2147483647 : Int32)) % (5 : Int32)).toInt ∧ ((p &&& (2147483647 : Int32)) % (5 : Int32)).toInt ≤ 4 := by
  have a := c_mask p (2147483647 : Int32) 31 (by decide) (by decide)
  have b := (c_irem (p &&& (2147483647 : Int32)) (5 : Int32) 5 (by decide)).1 (by omega)
  omega
theorem own_5 {o : Int32} (h : 0 ≤ o.toInt ∧ o.toInt ≤ 4) : ((5 : Int32) - o).toInt = 5 - o.toInt := by
  have a := c_isub (5 : Int32) o
  have r := rng32 ((5 : Int32) - o)
  have e : (5 : Int32).toInt = 5 := by decide
  rw [e] at a
  omega
theorem own_nz {o : Int32} (h : 0 ≤ o.toInt ∧ o.toInt ≤ 4) : ((5 : Int32) - o) ≠ 0 := fun q => by
  have a := own_5 h
  rw [q] at a
  have e0 := own_e0
  omega
theorem own_len (x o : Int32) (h : 0 ≤ o.toInt ∧ o.toInt ≤ 4) : 0 ≤ ((x &&& (2147483647 : Int32)) % ((5 : Int32) - o)).toInt ∧ o.toInt + ((x &&& (2147483647 : Int32)) % ((5 : Int32) - o)).toInt ≤ 4 := by
  have a := c_mask x (2147483647 : Int32) 31 (by decide) (by decide)
  have b := own_5 h
  have c := (c_iremV (x &&& (2147483647 : Int32)) ((5 : Int32) - o)).1 (by omega) (by omega)
  omega
theorem own_sum {o l : Int32} (h : 0 ≤ o.toInt ∧ o.toInt ≤ 4) (h' : 0 ≤ l.toInt ∧ o.toInt + l.toInt ≤ 4) : (o + l).toInt = o.toInt + l.toInt := by
  have a := c_iadd o l
  have r := rng32 (o + l)
  omega
theorem own_one {f : Nat → Int32} (h : ∀ i : Nat, 0 ≤ (f i).toInt ∧ (f i).toInt ≤ 127) {s en : Int32} (hl : s < en) : own_spec f s en = (f (s).toNatClampNeg, (1 : Int32)) := by
  have b := h (s).toNatClampNeg
  have a := c_mask (f (s).toNatClampNeg) (255 : Int32) 8 (by decide) (by decide)
  have e : (f (s).toNatClampNeg &&& (255 : Int32)) = f (s).toNatClampNeg := Int32.toInt_inj.mp (by omega)
  exact own_spB0 (by rw [own_a, if_pos hl, e]) (by omega) (by omega)
theorem own_bnd {s en : Int32} (h1 : 0 ≤ s.toInt) (h2 : s.toInt ≤ en.toInt) (h3 : en.toInt ≤ 4) : 0 ≤ s.toInt ∧ s.toInt ≤ en.toInt ∧ en.toInt ≤ (4 : Int32).toInt ∧ (4 : Int32).toInt ≤ 1000 := by
  have e : (4 : Int32).toInt = 4 := by decide
  rw [e]
  omega
theorem own_addone1 (o : Int32) : o + (1 : Int32) + (1 : Int32) = o + (2 : Int32) := by rw [Int32.add_assoc]; rfl
theorem own_addone2 (o : Int32) : o + (2 : Int32) + (1 : Int32) = o + (3 : Int32) := by rw [Int32.add_assoc]; rfl
theorem d1_0 : decode prog_2_method_1_code 0 = .ok (.aload_n 0, 1) := by decide +kernel
theorem d1_1 : decode prog_2_method_1_code 1 = .ok (.invokespecial 1, 3) := by decide +kernel
theorem d1_4 : decode prog_2_method_1_code 4 = .ok (.aload_n 0, 1) := by decide +kernel
theorem d1_5 : decode prog_2_method_1_code 5 = .ok (.aload_n 1, 1) := by decide +kernel
theorem d1_6 : decode prog_2_method_1_code 6 = .ok (.putfield 7, 3) := by decide +kernel
theorem d1_9 : decode prog_2_method_1_code 9 = .ok (.aload_n 0, 1) := by decide +kernel
theorem d1_10 : decode prog_2_method_1_code 10 = .ok (.iload_n 2, 1) := by decide +kernel
theorem d1_11 : decode prog_2_method_1_code 11 = .ok (.putfield 13, 3) := by decide +kernel
theorem d1_14 : decode prog_2_method_1_code 14 = .ok (.aload_n 0, 1) := by decide +kernel
theorem d1_15 : decode prog_2_method_1_code 15 = .ok (.iload_n 2, 1) := by decide +kernel
theorem d1_16 : decode prog_2_method_1_code 16 = .ok (.iload_n 3, 1) := by decide +kernel
theorem d1_17 : decode prog_2_method_1_code 17 = .ok (.iadd, 1) := by decide +kernel
theorem d1_18 : decode prog_2_method_1_code 18 = .ok (.putfield 17, 3) := by decide +kernel
theorem d1_21 : decode prog_2_method_1_code 21 = .ok (.return_, 1) := by decide +kernel
theorem d3_0 : decode prog_2_method_2_code 0 = .ok (.aload_n 0, 1) := by decide +kernel
theorem d3_1 : decode prog_2_method_2_code 1 = .ok (.getfield 13, 3) := by decide +kernel
theorem d3_4 : decode prog_2_method_2_code 4 = .ok (.aload_n 0, 1) := by decide +kernel
theorem d3_5 : decode prog_2_method_2_code 5 = .ok (.getfield 17, 3) := by decide +kernel
theorem d3_8 : decode prog_2_method_2_code 8 = .ok (.if_icmp .ge 7, 3) := by decide +kernel
theorem d3_11 : decode prog_2_method_2_code 11 = .ok (.iconst 1, 1) := by decide +kernel
theorem d3_12 : decode prog_2_method_2_code 12 = .ok (.goto 4, 3) := by decide +kernel
theorem d3_15 : decode prog_2_method_2_code 15 = .ok (.iconst 0, 1) := by decide +kernel
theorem d3_16 : decode prog_2_method_2_code 16 = .ok (.ireturn, 1) := by decide +kernel
theorem d4_0 : decode prog_2_method_3_code 0 = .ok (.iconst 0, 1) := by decide +kernel
theorem d4_1 : decode prog_2_method_3_code 1 = .ok (.istore_n 1, 1) := by decide +kernel
theorem d4_2 : decode prog_2_method_3_code 2 = .ok (.iconst 0, 1) := by decide +kernel
theorem d4_3 : decode prog_2_method_3_code 3 = .ok (.istore_n 2, 1) := by decide +kernel
theorem d4_4 : decode prog_2_method_3_code 4 = .ok (.iload_n 2, 1) := by decide +kernel
theorem d4_5 : decode prog_2_method_3_code 5 = .ok (.bipush 32, 2) := by decide +kernel
theorem d4_7 : decode prog_2_method_3_code 7 = .ok (.if_icmp .ge 78, 3) := by decide +kernel
theorem d4_10 : decode prog_2_method_3_code 10 = .ok (.aload_n 0, 1) := by decide +kernel
theorem d4_11 : decode prog_2_method_3_code 11 = .ok (.getfield 13, 3) := by decide +kernel
theorem d4_14 : decode prog_2_method_3_code 14 = .ok (.aload_n 0, 1) := by decide +kernel
theorem d4_15 : decode prog_2_method_3_code 15 = .ok (.getfield 17, 3) := by decide +kernel
theorem d4_18 : decode prog_2_method_3_code 18 = .ok (.if_icmp .ne 5, 3) := by decide +kernel
theorem d4_21 : decode prog_2_method_3_code 21 = .ok (.iconst (-1), 1) := by decide +kernel
theorem d4_22 : decode prog_2_method_3_code 22 = .ok (.ireturn, 1) := by decide +kernel
theorem d4_23 : decode prog_2_method_3_code 23 = .ok (.aload_n 0, 1) := by decide +kernel
theorem d4_24 : decode prog_2_method_3_code 24 = .ok (.getfield 7, 3) := by decide +kernel
theorem d4_27 : decode prog_2_method_3_code 27 = .ok (.aload_n 0, 1) := by decide +kernel
theorem d4_28 : decode prog_2_method_3_code 28 = .ok (.dup, 1) := by decide +kernel
theorem d4_29 : decode prog_2_method_3_code 29 = .ok (.getfield 13, 3) := by decide +kernel
theorem d4_32 : decode prog_2_method_3_code 32 = .ok (.dup_x1, 1) := by decide +kernel
theorem d4_33 : decode prog_2_method_3_code 33 = .ok (.iconst 1, 1) := by decide +kernel
theorem d4_34 : decode prog_2_method_3_code 34 = .ok (.iadd, 1) := by decide +kernel
theorem d4_35 : decode prog_2_method_3_code 35 = .ok (.putfield 13, 3) := by decide +kernel
theorem d4_38 : decode prog_2_method_3_code 38 = .ok (.baload, 1) := by decide +kernel
theorem d4_39 : decode prog_2_method_3_code 39 = .ok (.sipush 255, 3) := by decide +kernel
theorem d4_42 : decode prog_2_method_3_code 42 = .ok (.iand, 1) := by decide +kernel
theorem d4_43 : decode prog_2_method_3_code 43 = .ok (.istore_n 3, 1) := by decide +kernel
theorem d4_44 : decode prog_2_method_3_code 44 = .ok (.iload_n 1, 1) := by decide +kernel
theorem d4_45 : decode prog_2_method_3_code 45 = .ok (.iload_n 3, 1) := by decide +kernel
theorem d4_46 : decode prog_2_method_3_code 46 = .ok (.bipush 127, 2) := by decide +kernel
theorem d4_48 : decode prog_2_method_3_code 48 = .ok (.iand, 1) := by decide +kernel
theorem d4_49 : decode prog_2_method_3_code 49 = .ok (.iload_n 2, 1) := by decide +kernel
theorem d4_50 : decode prog_2_method_3_code 50 = .ok (.ishl, 1) := by decide +kernel
theorem d4_51 : decode prog_2_method_3_code 51 = .ok (.ior, 1) := by decide +kernel
theorem d4_52 : decode prog_2_method_3_code 52 = .ok (.istore_n 1, 1) := by decide +kernel
theorem d4_53 : decode prog_2_method_3_code 53 = .ok (.iload_n 3, 1) := by decide +kernel
theorem d4_54 : decode prog_2_method_3_code 54 = .ok (.sipush 128, 3) := by decide +kernel
theorem d4_57 : decode prog_2_method_3_code 57 = .ok (.iand, 1) := by decide +kernel
theorem d4_58 : decode prog_2_method_3_code 58 = .ok (.ifCond .ne 21, 3) := by decide +kernel
theorem d4_61 : decode prog_2_method_3_code 61 = .ok (.iload_n 2, 1) := by decide +kernel
theorem d4_62 : decode prog_2_method_3_code 62 = .ok (.bipush 28, 2) := by decide +kernel
theorem d4_64 : decode prog_2_method_3_code 64 = .ok (.if_icmp .ne 13, 3) := by decide +kernel
theorem d4_67 : decode prog_2_method_3_code 67 = .ok (.iload_n 3, 1) := by decide +kernel
theorem d4_68 : decode prog_2_method_3_code 68 = .ok (.bipush 7, 2) := by decide +kernel
theorem d4_70 : decode prog_2_method_3_code 70 = .ok (.if_icmp .le 7, 3) := by decide +kernel
theorem d4_73 : decode prog_2_method_3_code 73 = .ok (.iconst (-1), 1) := by decide +kernel
theorem d4_74 : decode prog_2_method_3_code 74 = .ok (.goto 4, 3) := by decide +kernel
theorem d4_77 : decode prog_2_method_3_code 77 = .ok (.iload_n 1, 1) := by decide +kernel
theorem d4_78 : decode prog_2_method_3_code 78 = .ok (.ireturn, 1) := by decide +kernel
theorem d4_79 : decode prog_2_method_3_code 79 = .ok (.iinc 2 7, 3) := by decide +kernel
theorem d4_82 : decode prog_2_method_3_code 82 = .ok (.goto (-78), 3) := by decide +kernel
theorem d4_85 : decode prog_2_method_3_code 85 = .ok (.iconst (-1), 1) := by decide +kernel
theorem d4_86 : decode prog_2_method_3_code 86 = .ok (.ireturn, 1) := by decide +kernel
theorem pd0 : parseMethodDescriptor "([BII)V" = some ⟨[(.array .byte), .int, .int], none⟩ := by decide +kernel
theorem pd1 : parseMethodDescriptor "()Z" = some ⟨[], some .boolean⟩ := by decide +kernel
theorem pd2 : parseMethodDescriptor "()I" = some ⟨[], some .int⟩ := by decide +kernel
set_option maxRecDepth 65536 in
set_option maxHeartbeats 40000000 in
theorem rm1 (l : Launch) (Z : State) (a0 : Array Value) (hw : ∀ d ∈ tables_1, d.before a0 Z = true) (ws : List Jvm.Cond) (a1 a2 : Addr) (p3 p4 : Int32) (h0 : Heap) (n0 : Nat) (Z0 : n0 ≤ h0.size) (E_a1 : Exa Z h0 a1 "com/example/cranfield/cranfield/engine/ByteReader") (F_b : Fld Z h0 a1 "com/example/cranfield/cranfield/engine/ByteReader" "bytes" "[B" .null) (F_p : Fld Z h0 a1 "com/example/cranfield/cranfield/engine/ByteReader" "position" "I" (.int (0 : Int32))) (F_e : Fld Z h0 a1 "com/example/cranfield/cranfield/engine/ByteReader" "end" "I" (.int (0 : Int32))) (g_a1 : n0 ≤ a1) :
    own_Met l (⟨"com/example/cranfield/cranfield/engine/ByteReader", "<init>", "([BII)V"⟩ : MethodName) prog_2_method_1_code 4 none ws ({ frames := 1, cells := 0, slots := 0, locals := 12 } : Room) Z #[(.ref a1), (.ref a2), (.int p3), (.int p4)] h0 (fun v h L => v = none ∧ Fr n0 L ∧ Keep h0 h [a1] ∧ Exa Z h a1 "com/example/cranfield/cranfield/engine/ByteReader" ∧ Fld Z h a1 "com/example/cranfield/cranfield/engine/ByteReader" "bytes" "[B" (.ref a2) ∧ Fld Z h a1 "com/example/cranfield/cranfield/engine/ByteReader" "position" "I" (.int p3) ∧ Fld Z h a1 "com/example/cranfield/cranfield/engine/ByteReader" "end" "I" (.int (p3 + p4))) := by
  refine own_body (plainFor_of_name (by first | (simp [plainName, overriddenIn]; done) | decide +kernel)) ?_
  intro p e s m below meth c s₁ X0 hx hby hml hown hnm hret hlk hZ e0
  have N0 := Fr.nil n0
  refine own_cast (show entryFrame m #[(.ref a1), (.ref a2), (.int p3), (.int p4)] 4 = mkF m 0 #[.val (.ref a1), .val (.ref a2), .val (.int p3), .val (.int p4)] [] from by first | (simp [entryFrame, mkF, argsToLocals, Value.category]; done) | rfl) ?_
  show own_Go _ _ _ _ s₁ (mkF m 0 #[.val (.ref a1), .val (.ref a2), .val (.int p3), .val (.int p4)] [])
  refine own_go (fun _ k => XS.aloadN X0.here hx rfl (hb hby d1_0) rfl rfl k) ?_
  show own_Go _ _ _ _ s₁ (mkF m 1 #[.val (.ref a1), .val (.ref a2), .val (.int p3), .val (.int p4)] [(.ref a1)])
  obtain ⟨T1, X1, e1, st1⟩ := initO X0 hx hZ hown (hw _ (List.mem_of_getElem? (i := 8) rfl)) (hw _ (List.mem_of_getElem? (i := 9) rfl)) (hw _ (List.mem_of_getElem? (i := 10) rfl)) e0 (g := (mkF m 1 #[.val (.ref a1), .val (.ref a2), .val (.int p3), .val (.int p4)] [(.ref a1)])) rfl (by rw [hml]; rfl) rfl (hb hby d1_1) (by decide) (W := 0) (Nat.le_of_eq rfl) (by decide)
  refine own_go (st1) ?_
  show own_Go _ _ _ _ T1 (mkF m 4 #[.val (.ref a1), .val (.ref a2), .val (.int p3), .val (.int p4)] [])
  refine own_go (fun _ k => XS.aloadN X1.here hx rfl (hb hby d1_4) rfl rfl k) ?_
  show own_Go _ _ _ _ T1 (mkF m 5 #[.val (.ref a1), .val (.ref a2), .val (.int p3), .val (.int p4)] [(.ref a1)])
  refine own_go (fun _ k => XS.aloadN X1.here hx rfl (hb hby d1_5) rfl rfl k) ?_
  show own_Go _ _ _ _ T1 (mkF m 6 #[.val (.ref a1), .val (.ref a2), .val (.int p3), .val (.int p4)] [(.ref a2), (.ref a1)])
  obtain ⟨T2, h2, X2, e2, W2, st2⟩ := putF X1 hx hZ hown (host := "") (Or.inl (hw _ (List.mem_of_getElem? (i := 11) rfl))) Via.refl e1 F_b E_a1 (Or.inr ⟨(hw _ (List.mem_of_getElem? (i := 12) rfl)), rfl, hnm⟩) (hw _ (List.mem_of_getElem? (i := 3) rfl)) (ty := (.array .byte)) (by decide) rfl rfl (g := (mkF m 6 #[.val (.ref a1), .val (.ref a2), .val (.int p3), .val (.int p4)] [(.ref a2), (.ref a1)])) rfl rfl (hb hby d1_6)
  refine own_go (st2) ?_
  have Fw2 := F_b.same W2
  have N2 := Fr.snoc X2 N0 g_a1
  show own_Go _ _ _ _ T2 (mkF m 9 #[.val (.ref a1), .val (.ref a2), .val (.int p3), .val (.int p4)] [])
  refine own_go (fun _ k => XS.aloadN X2.here hx rfl (hb hby d1_9) rfl rfl k) ?_
  show own_Go _ _ _ _ T2 (mkF m 10 #[.val (.ref a1), .val (.ref a2), .val (.int p3), .val (.int p4)] [(.ref a1)])
  refine own_go (fun _ k => XS.iloadN X2.here hx rfl (hb hby d1_10) rfl k) ?_
  show own_Go _ _ _ _ T2 (mkF m 11 #[.val (.ref a1), .val (.ref a2), .val (.int p3), .val (.int p4)] [(.int p3), (.ref a1)])
  have f4 := (F_p.other W2 (Or.inr (slot_ne (Or.inl (hw _ (List.mem_of_getElem? (i := 14) rfl))) (Or.inr (hw _ (List.mem_of_getElem? (i := 12) rfl))) (by decide) (t := .int) (t' := (.array .byte)) (by decide) (by decide))))
  have f5 := (E_a1.wr W2)
  obtain ⟨T3, h3, X3, e3, W3, st3⟩ := putF X2 hx hZ hown (host := "") (Or.inl (hw _ (List.mem_of_getElem? (i := 13) rfl))) Via.refl e2 f4 f5 (Or.inl (hw _ (List.mem_of_getElem? (i := 14) rfl))) (hw _ (List.mem_of_getElem? (i := 3) rfl)) (ty := .int) (by decide) rfl rfl (g := (mkF m 11 #[.val (.ref a1), .val (.ref a2), .val (.int p3), .val (.int p4)] [(.int p3), (.ref a1)])) rfl rfl (hb hby d1_11)
  refine own_go (st3) ?_
  have Fw3 := f4.same W3
  have N3 := Fr.snoc X3 N2 g_a1
  show own_Go _ _ _ _ T3 (mkF m 14 #[.val (.ref a1), .val (.ref a2), .val (.int p3), .val (.int p4)] [])
  refine own_go (fun _ k => XS.aloadN X3.here hx rfl (hb hby d1_14) rfl rfl k) ?_
  show own_Go _ _ _ _ T3 (mkF m 15 #[.val (.ref a1), .val (.ref a2), .val (.int p3), .val (.int p4)] [(.ref a1)])
  refine own_go (fun _ k => XS.iloadN X3.here hx rfl (hb hby d1_15) rfl k) ?_
  show own_Go _ _ _ _ T3 (mkF m 16 #[.val (.ref a1), .val (.ref a2), .val (.int p3), .val (.int p4)] [(.int p3), (.ref a1)])
  refine own_go (fun _ k => XS.iloadN X3.here hx rfl (hb hby d1_16) rfl k) ?_
  show own_Go _ _ _ _ T3 (mkF m 17 #[.val (.ref a1), .val (.ref a2), .val (.int p3), .val (.int p4)] [(.int p4), (.int p3), (.ref a1)])
  refine own_go (fun _ k => XS.iadd X3.here hx rfl (hb hby d1_17) rfl k) ?_
  show own_Go _ _ _ _ T3 (mkF m 18 #[.val (.ref a1), .val (.ref a2), .val (.int p3), .val (.int p4)] [(.int (p3 + p4)), (.ref a1)])
  have f7 := ((F_e.other W2 (Or.inr (slot_ne (Or.inr (hw _ (List.mem_of_getElem? (i := 16) rfl))) (Or.inr (hw _ (List.mem_of_getElem? (i := 12) rfl))) (by decide) (t := .int) (t' := (.array .byte)) (by decide) (by decide)))).other W3 (Or.inr (slot_ne (Or.inr (hw _ (List.mem_of_getElem? (i := 16) rfl))) (Or.inl (hw _ (List.mem_of_getElem? (i := 14) rfl))) (by decide) (t := .int) (t' := .int) (by decide) (by decide))))
  have f8 := (f5.wr W3)
  obtain ⟨T6, h6, X6, e6, W6, st6⟩ := putF X3 hx hZ hown (host := "") (Or.inl (hw _ (List.mem_of_getElem? (i := 15) rfl))) Via.refl e3 f7 f8 (Or.inr ⟨(hw _ (List.mem_of_getElem? (i := 16) rfl)), rfl, hnm⟩) (hw _ (List.mem_of_getElem? (i := 3) rfl)) (ty := .int) (by decide) rfl rfl (g := (mkF m 18 #[.val (.ref a1), .val (.ref a2), .val (.int p3), .val (.int p4)] [(.int (p3 + p4)), (.ref a1)])) rfl rfl (hb hby d1_18)
  refine own_go (st6) ?_
  have Fw6 := f7.same W6
  have N6 := Fr.snoc X6 N3 g_a1
  show own_Go _ _ _ _ T6 (mkF m 21 #[.val (.ref a1), .val (.ref a2), .val (.int p3), .val (.int p4)] [])
  have f9 := ((((Keep.refl h0 [a1]).wr W2 (Or.inl (List.mem_of_getElem? (i := 0) rfl))).wr W3 (Or.inl (List.mem_of_getElem? (i := 0) rfl))).wr W6 (Or.inl (List.mem_of_getElem? (i := 0) rfl)))
  have f10 := (f8.wr W6)
  have f11 := ((Fw2.other W3 (Or.inr (slot_ne (Or.inr (hw _ (List.mem_of_getElem? (i := 12) rfl))) (Or.inl (hw _ (List.mem_of_getElem? (i := 14) rfl))) (by decide) (t := (.array .byte)) (t' := .int) (by decide) (by decide)))).other W6 (Or.inr (slot_ne (Or.inr (hw _ (List.mem_of_getElem? (i := 12) rfl))) (Or.inr (hw _ (List.mem_of_getElem? (i := 16) rfl))) (by decide) (t := (.array .byte)) (t' := .int) (by decide) (by decide))))
  have f12 := (Fw3.other W6 (Or.inr (slot_ne (Or.inl (hw _ (List.mem_of_getElem? (i := 14) rfl))) (Or.inr (hw _ (List.mem_of_getElem? (i := 16) rfl))) (by decide) (t := .int) (t' := .int) (by decide) (by decide))))
  exact own_retV X6 hx hret hlk (hb hby d1_21) (by decide) (by decide) (by first | exact ⟨rfl, N6, f9, f10, f11, f12, Fw6⟩ | (rw [e6]; exact ⟨rfl, N6, f9, f10, f11, f12, Fw6⟩))
set_option maxRecDepth 65536 in
set_option maxHeartbeats 40000000 in
theorem rm2 (l : Launch) (Z : State) (a0 : Array Value) (hw : ∀ d ∈ tables_1, d.before a0 Z = true) (ws : List Jvm.Cond) (a1 : Addr) (q e' : Int32) (h0 : Heap) (n0 : Nat) (Z0 : n0 ≤ h0.size) (F_p : Fld Z h0 a1 "com/example/cranfield/cranfield/engine/ByteReader" "position" "I" (.int q)) (F_e : Fld Z h0 a1 "com/example/cranfield/cranfield/engine/ByteReader" "end" "I" (.int e')) :
    own_Met l (⟨"com/example/cranfield/cranfield/engine/ByteReader", "hasRemaining", "()Z"⟩ : MethodName) prog_2_method_2_code 1 (some .boolean) ws ({ frames := 0, cells := 0, slots := 0, locals := 0 } : Room) Z #[(.ref a1)] h0 (fun v h L => v = some (.int (own_hr q e')) ∧ Fr n0 L ∧ h0 = h) := by
  refine own_body (plainFor_of_name (by first | (simp [plainName, overriddenIn]; done) | decide +kernel)) ?_
  intro p e s m below meth c s₁ X0 hx hby hml hown hnm hret hlk hZ e0
  have N0 := Fr.nil n0
  refine own_cast (show entryFrame m #[(.ref a1)] 1 = mkF m 0 #[.val (.ref a1)] [] from by first | (simp [entryFrame, mkF, argsToLocals, Value.category]; done) | rfl) ?_
  show own_Go _ _ _ _ s₁ (mkF m 0 #[.val (.ref a1)] [])
  refine own_go (fun _ k => XS.aloadN X0.here hx rfl (hb hby d3_0) rfl rfl k) ?_
  show own_Go _ _ _ _ s₁ (mkF m 1 #[.val (.ref a1)] [(.ref a1)])
  obtain ⟨T13, X13, e13, st13⟩ := getF X0 hx hZ hown (host := "") (Or.inl (hw _ (List.mem_of_getElem? (i := 13) rfl))) Via.refl e0 F_p (g := (mkF m 1 #[.val (.ref a1)] [(.ref a1)])) rfl rfl (hb hby d3_1)
  refine own_go (st13) ?_
  show own_Go _ _ _ _ T13 (mkF m 4 #[.val (.ref a1)] [(.int q)])
  refine own_go (fun _ k => XS.aloadN X13.here hx rfl (hb hby d3_4) rfl rfl k) ?_
  show own_Go _ _ _ _ T13 (mkF m 5 #[.val (.ref a1)] [(.ref a1), (.int q)])
  obtain ⟨T14, X14, e14, st14⟩ := getF X13 hx hZ hown (host := "") (Or.inl (hw _ (List.mem_of_getElem? (i := 15) rfl))) Via.refl e13 F_e (g := (mkF m 5 #[.val (.ref a1)] [(.ref a1), (.int q)])) rfl rfl (hb hby d3_5)
  refine own_go (st14) ?_
  show own_Go _ _ _ _ T14 (mkF m 8 #[.val (.ref a1)] [(.int e'), (.int q)])
  by_cases hc : q < e'
  · skip
    refine own_go (fun _ k => XS.icmpNo X14.here hx rfl (hb hby d3_8) rfl (tlt hc).2.1 k) ?_
    show own_Go _ _ _ _ T14 (mkF m 11 #[.val (.ref a1)] [])
    refine own_go (fun _ k => XS.iconst X14.here hx rfl (hb hby d3_11) k) ?_
    show own_Go _ _ _ _ T14 (mkF m 12 #[.val (.ref a1)] [(.int (1 : Int32))])
    refine own_go (fun _ k => XS.goto X14.here hx rfl (pc0 := 12) (pc' := 16) rfl (hb hby d3_12) (by decide) (by decide) k) ?_
    show own_Go _ _ _ _ T14 (mkF m 16 #[.val (.ref a1)] [(.int (1 : Int32))])
    exact own_retN X14 hx hret (by simp) hlk (hb hby d3_16) (by decide) (by decide) (by first | exact ⟨by rw [own_hr, if_pos hc]; rfl, N0, rfl⟩ | (rw [e14]; exact ⟨by rw [own_hr, if_pos hc]; rfl, N0, rfl⟩))
  · skip
    refine own_go (fun _ k => XS.icmpYes X14.here hx rfl (pc0 := 8) (pc' := 15) rfl (hb hby d3_8) rfl (flt hc).2.1 (by decide) (by decide) k) ?_
    show own_Go _ _ _ _ T14 (mkF m 15 #[.val (.ref a1)] [])
    refine own_go (fun _ k => XS.iconst X14.here hx rfl (hb hby d3_15) k) ?_
    show own_Go _ _ _ _ T14 (mkF m 16 #[.val (.ref a1)] [(.int (0 : Int32))])
    exact own_retN X14 hx hret (by simp) hlk (hb hby d3_16) (by decide) (by decide) (by first | exact ⟨by rw [own_hr, if_neg hc]; rfl, N0, rfl⟩ | (rw [e14]; exact ⟨by rw [own_hr, if_neg hc]; rfl, N0, rfl⟩))
set_option maxRecDepth 65536 in
set_option maxHeartbeats 40000000 in
theorem rm3 (l : Launch) (Z : State) (a0 : Array Value) (hw : ∀ d ∈ tables_1, d.before a0 Z = true) (ws : List Jvm.Cond) (a1 a2 : Addr) (s0 en : Int32) (kk : ClassId) (nn : Int32) (vs : List Value) (dv : Value) (f : Nat → Int32) (h0 : Heap) (n0 : Nat) (Z0 : n0 ≤ h0.size) (E_a1 : Exa Z h0 a1 "com/example/cranfield/cranfield/engine/ByteReader") (F_b : Fld Z h0 a1 "com/example/cranfield/cranfield/engine/ByteReader" "bytes" "[B" (.ref a2)) (F_p : Fld Z h0 a1 "com/example/cranfield/cranfield/engine/ByteReader" "position" "I" (.int s0)) (F_e : Fld Z h0 a1 "com/example/cranfield/cranfield/engine/ByteReader" "end" "I" (.int en)) (g_a1 : n0 ≤ a1) (ne_1_2 : a2 ≠ a1) (V_a2 : Arv Z h0 a2 kk .byte nn vs dv) (hf : ∀ i : Nat, vs.getD i dv = .int (f i)) (hs : 0 ≤ s0.toInt ∧ s0.toInt ≤ en.toInt ∧ en.toInt ≤ nn.toInt ∧ nn.toInt ≤ 1000) :
    own_Met l (⟨"com/example/cranfield/cranfield/engine/ByteReader", "readVarInt", "()I"⟩ : MethodName) prog_2_method_3_code 4 (some .int) ws ({ frames := 0, cells := 0, slots := 0, locals := 0 } : Room) Z #[(.ref a1)] h0 (fun v h L => v = some (.int (own_spec f s0 en).1) ∧ Fr n0 L ∧ Keep h0 h [a1] ∧ Exa Z h a1 "com/example/cranfield/cranfield/engine/ByteReader" ∧ Fld Z h a1 "com/example/cranfield/cranfield/engine/ByteReader" "bytes" "[B" (.ref a2) ∧ Fld Z h a1 "com/example/cranfield/cranfield/engine/ByteReader" "position" "I" (.int (s0 + (own_spec f s0 en).2)) ∧ Fld Z h a1 "com/example/cranfield/cranfield/engine/ByteReader" "end" "I" (.int en)) := by
  refine own_body (plainFor_of_name (by first | (simp [plainName, overriddenIn]; done) | decide +kernel)) ?_
  intro p e s m below meth c s₁ X0 hx hby hml hown hnm hret hlk hZ e0
  have N0 := Fr.nil n0
  refine own_cast (show entryFrame m #[(.ref a1)] 4 = mkF m 0 #[.val (.ref a1), .unset, .unset, .unset] [] from by first | (simp [entryFrame, mkF, argsToLocals, Value.category]; done) | rfl) ?_
  obtain ⟨hs1, hs2, hs3, hs4⟩ := hs
  have u0 : (s0).toInt = s0.toInt + 0 := by omega
  have v0 : (0 : Int32).toInt = 0 := by decide
  show own_Go _ _ _ _ s₁ (mkF m 0 #[.val (.ref a1), .unset, .unset, .unset] [])
  refine own_go (fun _ k => XS.iconst X0.here hx rfl (hb hby d4_0) k) ?_
  show own_Go _ _ _ _ s₁ (mkF m 1 #[.val (.ref a1), .unset, .unset, .unset] [(.int (0 : Int32))])
  refine own_go (fun _ k => XS.istoreN X0.here hx rfl (hb hby d4_1) rfl (l' := #[.val (.ref a1), .val (.int (0 : Int32)), .unset, .unset]) rfl k) ?_
  show own_Go _ _ _ _ s₁ (mkF m 2 #[.val (.ref a1), .val (.int (0 : Int32)), .unset, .unset] [])
  refine own_go (fun _ k => XS.iconst X0.here hx rfl (hb hby d4_2) k) ?_
  show own_Go _ _ _ _ s₁ (mkF m 3 #[.val (.ref a1), .val (.int (0 : Int32)), .unset, .unset] [(.int (0 : Int32))])
  refine own_go (fun _ k => XS.istoreN X0.here hx rfl (hb hby d4_3) rfl (l' := #[.val (.ref a1), .val (.int (0 : Int32)), .val (.int (0 : Int32)), .unset]) rfl k) ?_
  show own_Go _ _ _ _ s₁ (mkF m 4 #[.val (.ref a1), .val (.int (0 : Int32)), .val (.int (0 : Int32)), .unset] [])
  refine own_go (fun _ k => XS.iloadN X0.here hx rfl (hb hby d4_4) rfl k) ?_
  show own_Go _ _ _ _ s₁ (mkF m 5 #[.val (.ref a1), .val (.int (0 : Int32)), .val (.int (0 : Int32)), .unset] [(.int (0 : Int32))])
  refine own_go (fun _ k => XS.bipush X0.here hx rfl (hb hby d4_5) k) ?_
  show own_Go _ _ _ _ s₁ (mkF m 7 #[.val (.ref a1), .val (.int (0 : Int32)), .val (.int (0 : Int32)), .unset] [(.int (32 : Int32)), (.int (0 : Int32))])
  refine own_go (fun _ k => XS.icmpNo X0.here hx rfl (hb hby d4_7) rfl (tlt (by decide)).2.1 k) ?_
  show own_Go _ _ _ _ s₁ (mkF m 10 #[.val (.ref a1), .val (.int (0 : Int32)), .val (.int (0 : Int32)), .unset] [])
  refine own_go (fun _ k => XS.aloadN X0.here hx rfl (hb hby d4_10) rfl rfl k) ?_
  show own_Go _ _ _ _ s₁ (mkF m 11 #[.val (.ref a1), .val (.int (0 : Int32)), .val (.int (0 : Int32)), .unset] [(.ref a1)])
  obtain ⟨T15, X15, e15, st15⟩ := getF X0 hx hZ hown (host := "") (Or.inl (hw _ (List.mem_of_getElem? (i := 13) rfl))) Via.refl e0 F_p (g := (mkF m 11 #[.val (.ref a1), .val (.int (0 : Int32)), .val (.int (0 : Int32)), .unset] [(.ref a1)])) rfl rfl (hb hby d4_11)
  refine own_go (st15) ?_
  show own_Go _ _ _ _ T15 (mkF m 14 #[.val (.ref a1), .val (.int (0 : Int32)), .val (.int (0 : Int32)), .unset] [(.int s0)])
  refine own_go (fun _ k => XS.aloadN X15.here hx rfl (hb hby d4_14) rfl rfl k) ?_
  show own_Go _ _ _ _ T15 (mkF m 15 #[.val (.ref a1), .val (.int (0 : Int32)), .val (.int (0 : Int32)), .unset] [(.ref a1), (.int s0)])
  obtain ⟨T16, X16, e16, st16⟩ := getF X15 hx hZ hown (host := "") (Or.inl (hw _ (List.mem_of_getElem? (i := 15) rfl))) Via.refl e15 F_e (g := (mkF m 15 #[.val (.ref a1), .val (.int (0 : Int32)), .val (.int (0 : Int32)), .unset] [(.ref a1), (.int s0)])) rfl rfl (hb hby d4_15)
  refine own_go (st16) ?_
  show own_Go _ _ _ _ T16 (mkF m 18 #[.val (.ref a1), .val (.int (0 : Int32)), .val (.int (0 : Int32)), .unset] [(.int en), (.int s0)])
  by_cases he0 : s0 = en
  · skip
    refine own_go (fun _ k => XS.icmpNo X16.here hx rfl (hb hby d4_18) rfl (teq he0).2 k) ?_
    have heT := congrArg Int32.toInt he0
    have hz : ¬ s0 < en := own_nlt (by rw [own_sk0 hs1 (by omega)] <;> omega)
    show own_Go _ _ _ _ T16 (mkF m 21 #[.val (.ref a1), .val (.int (0 : Int32)), .val (.int (0 : Int32)), .unset] [])
    refine own_go (fun _ k => XS.iconst X16.here hx rfl (hb hby d4_21) k) ?_
    show own_Go _ _ _ _ T16 (mkF m 22 #[.val (.ref a1), .val (.int (0 : Int32)), .val (.int (0 : Int32)), .unset] [(.int (-1 : Int32))])
    have hsp := own_spA0 (f := f)  hz
    have hv : (-1 : Int32) = (own_spec f s0 en).1 := Eq.trans (rfl) (congrArg Prod.fst hsp).symm
    have hp : s0 = s0 + (own_spec f s0 en).2 := Eq.trans ((he0.trans (own_cancel s0 en).symm)) (congrArg (fun z : Int32 × Int32 => s0 + z.2) hsp).symm
    rw [hp] at F_p
    exact own_retI X16 hx hret hlk (hb hby d4_22) (by decide) (by decide) (by first | exact ⟨by rw [hv], N0, (Keep.refl h0 [a1]), E_a1, F_b, F_p, F_e⟩ | (rw [e16]; exact ⟨by rw [hv], N0, (Keep.refl h0 [a1]), E_a1, F_b, F_p, F_e⟩))
  · skip
    refine own_go (fun _ k => XS.icmpYes X16.here hx rfl (pc0 := 18) (pc' := 23) rfl (hb hby d4_18) rfl (feq he0).2 (by decide) (by decide) k) ?_
    have hq0 : ¬ s0.toInt = en.toInt := fun q => he0 (Int32.toInt_inj.mp q)
    have hlt0 : s0.toInt < en.toInt := by omega
    have hn0 : ¬ s0 < 0 := own_nlt (by show (0 : Int32).toInt ≤ _; rw [own_e0]; omega)
    show own_Go _ _ _ _ T16 (mkF m 23 #[.val (.ref a1), .val (.int (0 : Int32)), .val (.int (0 : Int32)), .unset] [])
    refine own_go (fun _ k => XS.aloadN X16.here hx rfl (hb hby d4_23) rfl rfl k) ?_
    show own_Go _ _ _ _ T16 (mkF m 24 #[.val (.ref a1), .val (.int (0 : Int32)), .val (.int (0 : Int32)), .unset] [(.ref a1)])
    obtain ⟨T17, X17, e17, st17⟩ := getF X16 hx hZ hown (host := "") (Or.inl (hw _ (List.mem_of_getElem? (i := 11) rfl))) Via.refl e16 F_b (g := (mkF m 24 #[.val (.ref a1), .val (.int (0 : Int32)), .val (.int (0 : Int32)), .unset] [(.ref a1)])) rfl rfl (hb hby d4_24)
    refine own_go (st17) ?_
    show own_Go _ _ _ _ T17 (mkF m 27 #[.val (.ref a1), .val (.int (0 : Int32)), .val (.int (0 : Int32)), .unset] [(.ref a2)])
    refine own_go (fun _ k => XS.aloadN X17.here hx rfl (hb hby d4_27) rfl rfl k) ?_
    show own_Go _ _ _ _ T17 (mkF m 28 #[.val (.ref a1), .val (.int (0 : Int32)), .val (.int (0 : Int32)), .unset] [(.ref a1), (.ref a2)])
    refine own_go (fun _ k => XS.dup X17.here hx rfl (hb hby d4_28) rfl rfl k) ?_
    show own_Go _ _ _ _ T17 (mkF m 29 #[.val (.ref a1), .val (.int (0 : Int32)), .val (.int (0 : Int32)), .unset] [(.ref a1), (.ref a1), (.ref a2)])
    obtain ⟨T18, X18, e18, st18⟩ := getF X17 hx hZ hown (host := "") (Or.inl (hw _ (List.mem_of_getElem? (i := 13) rfl))) Via.refl e17 F_p (g := (mkF m 29 #[.val (.ref a1), .val (.int (0 : Int32)), .val (.int (0 : Int32)), .unset] [(.ref a1), (.ref a1), (.ref a2)])) rfl rfl (hb hby d4_29)
    refine own_go (st18) ?_
    show own_Go _ _ _ _ T18 (mkF m 32 #[.val (.ref a1), .val (.int (0 : Int32)), .val (.int (0 : Int32)), .unset] [(.int s0), (.ref a1), (.ref a2)])
    refine own_go (fun _ k => XS.dupX1 X18.here hx rfl (hb hby d4_32) rfl rfl rfl k) ?_
    show own_Go _ _ _ _ T18 (mkF m 33 #[.val (.ref a1), .val (.int (0 : Int32)), .val (.int (0 : Int32)), .unset] [(.int s0), (.ref a1), (.int s0), (.ref a2)])
    refine own_go (fun _ k => XS.iconst X18.here hx rfl (hb hby d4_33) k) ?_
    show own_Go _ _ _ _ T18 (mkF m 34 #[.val (.ref a1), .val (.int (0 : Int32)), .val (.int (0 : Int32)), .unset] [(.int (1 : Int32)), (.int s0), (.ref a1), (.int s0), (.ref a2)])
    refine own_go (fun _ k => XS.iadd X18.here hx rfl (hb hby d4_34) rfl k) ?_
    show own_Go _ _ _ _ T18 (mkF m 35 #[.val (.ref a1), .val (.int (0 : Int32)), .val (.int (0 : Int32)), .unset] [(.int (s0 + (1 : Int32))), (.ref a1), (.int s0), (.ref a2)])
    obtain ⟨p1, hp1⟩ : ∃ z : Int32, z = (s0 + (1 : Int32)) := ⟨_, rfl⟩
    rw [← hp1]
    show own_Go _ _ _ _ T18 (mkF m 35 #[.val (.ref a1), .val (.int (0 : Int32)), .val (.int (0 : Int32)), .unset] [(.int p1), (.ref a1), (.int s0), (.ref a2)])
    obtain ⟨T19, h19, X19, e19, W19, st19⟩ := putF X18 hx hZ hown (host := "") (Or.inl (hw _ (List.mem_of_getElem? (i := 13) rfl))) Via.refl e18 F_p E_a1 (Or.inl (hw _ (List.mem_of_getElem? (i := 14) rfl))) (hw _ (List.mem_of_getElem? (i := 3) rfl)) (ty := .int) (by decide) rfl rfl (g := (mkF m 35 #[.val (.ref a1), .val (.int (0 : Int32)), .val (.int (0 : Int32)), .unset] [(.int p1), (.ref a1), (.int s0), (.ref a2)])) rfl rfl (hb hby d4_35)
    refine own_go (st19) ?_
    have Fw19 := F_p.same W19
    have N19 := Fr.snoc X19 N0 g_a1
    show own_Go _ _ _ _ T19 (mkF m 38 #[.val (.ref a1), .val (.int (0 : Int32)), .val (.int (0 : Int32)), .unset] [(.int s0), (.ref a2)])
    have f21 := (V_a2.other W19 ne_1_2)
    obtain ⟨cl20, Ar20, q20, S20, M20, H20, G20⟩ := f21
    have V20 : Arv Z h19 a2 kk .byte nn _ _ := ⟨cl20, Ar20, q20, S20, M20, H20, G20⟩
    have hin20 : ¬ (s0 < 0 ∨ cl20.slots.size ≤ (s0).toNatClampNeg) := inb_of S20 ⟨hn0, own_lt (by omega)⟩
    have hat20 : cl20.slots[(s0).toNatClampNeg]? = some (.int (f (s0).toNatClampNeg)) := H20.at hin20 (hf _)
    refine own_go (X19.baloadBytes hx (j := s0) (v := (.int (f (s0).toNatClampNeg))) (by rw [e19]; exact Ar20.1) (State.isArrayOf_alike hZ.alike Ar20.2.1) Ar20.2.2 hin20 hat20 (g := (mkF m 38 #[.val (.ref a1), .val (.int (0 : Int32)), .val (.int (0 : Int32)), .unset] [(.int s0), (.ref a2)])) rfl rfl (hb hby d4_38)) ?_
    show own_Go _ _ _ _ T19 (mkF m 39 #[.val (.ref a1), .val (.int (0 : Int32)), .val (.int (0 : Int32)), .unset] [(.int (f (s0).toNatClampNeg))])
    refine own_go (fun _ k => XS.sipush X19.here hx rfl (hb hby d4_39) k) ?_
    show own_Go _ _ _ _ T19 (mkF m 42 #[.val (.ref a1), .val (.int (0 : Int32)), .val (.int (0 : Int32)), .unset] [(.int (255 : Int32)), (.int (f (s0).toNatClampNeg))])
    refine own_go (fun _ k => XS.iand X19.here hx rfl (hb hby d4_42) rfl k) ?_
    show own_Go _ _ _ _ T19 (mkF m 43 #[.val (.ref a1), .val (.int (0 : Int32)), .val (.int (0 : Int32)), .unset] [(.int ((f (s0).toNatClampNeg) &&& (255 : Int32)))])
    obtain ⟨c0, hc0⟩ : ∃ z : Int32, z = ((f (s0).toNatClampNeg) &&& (255 : Int32)) := ⟨_, rfl⟩
    rw [← hc0]
    have ha0 : own_a f s0 en = c0 := own_tA (by rw [own_sk0 hs1 (by omega)] <;> omega) hlt0 hc0
    have hd0 := own_tC hc0
    have u1 : p1.toInt = s0.toInt + 1 := by rw [hp1, own_inc _ _ (own_lt hlt0)] <;> omega
    show own_Go _ _ _ _ T19 (mkF m 43 #[.val (.ref a1), .val (.int (0 : Int32)), .val (.int (0 : Int32)), .unset] [(.int c0)])
    refine own_go (fun _ k => XS.istoreN X19.here hx rfl (hb hby d4_43) rfl (l' := #[.val (.ref a1), .val (.int (0 : Int32)), .val (.int (0 : Int32)), .val (.int c0)]) rfl k) ?_
    show own_Go _ _ _ _ T19 (mkF m 44 #[.val (.ref a1), .val (.int (0 : Int32)), .val (.int (0 : Int32)), .val (.int c0)] [])
    refine own_go (fun _ k => XS.iloadN X19.here hx rfl (hb hby d4_44) rfl k) ?_
    show own_Go _ _ _ _ T19 (mkF m 45 #[.val (.ref a1), .val (.int (0 : Int32)), .val (.int (0 : Int32)), .val (.int c0)] [(.int (0 : Int32))])
    refine own_go (fun _ k => XS.iloadN X19.here hx rfl (hb hby d4_45) rfl k) ?_
    show own_Go _ _ _ _ T19 (mkF m 46 #[.val (.ref a1), .val (.int (0 : Int32)), .val (.int (0 : Int32)), .val (.int c0)] [(.int c0), (.int (0 : Int32))])
    refine own_go (fun _ k => XS.bipush X19.here hx rfl (hb hby d4_46) k) ?_
    show own_Go _ _ _ _ T19 (mkF m 48 #[.val (.ref a1), .val (.int (0 : Int32)), .val (.int (0 : Int32)), .val (.int c0)] [(.int (127 : Int32)), (.int c0), (.int (0 : Int32))])
    refine own_go (fun _ k => XS.iand X19.here hx rfl (hb hby d4_48) rfl k) ?_
    show own_Go _ _ _ _ T19 (mkF m 49 #[.val (.ref a1), .val (.int (0 : Int32)), .val (.int (0 : Int32)), .val (.int c0)] [(.int (c0 &&& (127 : Int32))), (.int (0 : Int32))])
    refine own_go (fun _ k => XS.iloadN X19.here hx rfl (hb hby d4_49) rfl k) ?_
    show own_Go _ _ _ _ T19 (mkF m 50 #[.val (.ref a1), .val (.int (0 : Int32)), .val (.int (0 : Int32)), .val (.int c0)] [(.int (0 : Int32)), (.int (c0 &&& (127 : Int32))), (.int (0 : Int32))])
    refine own_go (fun _ k => XS.ishl X19.here hx rfl (hb hby d4_50) rfl k) ?_
    show own_Go _ _ _ _ T19 (mkF m 51 #[.val (.ref a1), .val (.int (0 : Int32)), .val (.int (0 : Int32)), .val (.int c0)] [(.int ((c0 &&& (127 : Int32)) <<< ((0 : Int32) &&& 31))), (.int (0 : Int32))])
    refine own_go (fun _ k => XS.ior X19.here hx rfl (hb hby d4_51) rfl k) ?_
    show own_Go _ _ _ _ T19 (mkF m 52 #[.val (.ref a1), .val (.int (0 : Int32)), .val (.int (0 : Int32)), .val (.int c0)] [(.int ((0 : Int32) ||| ((c0 &&& (127 : Int32)) <<< ((0 : Int32) &&& 31))))])
    obtain ⟨r1, hr1⟩ : ∃ z : Int32, z = ((0 : Int32) ||| ((c0 &&& (127 : Int32)) <<< ((0 : Int32) &&& 31))) := ⟨_, rfl⟩
    rw [← hr1]
    show own_Go _ _ _ _ T19 (mkF m 52 #[.val (.ref a1), .val (.int (0 : Int32)), .val (.int (0 : Int32)), .val (.int c0)] [(.int r1)])
    refine own_go (fun _ k => XS.istoreN X19.here hx rfl (hb hby d4_52) rfl (l' := #[.val (.ref a1), .val (.int r1), .val (.int (0 : Int32)), .val (.int c0)]) rfl k) ?_
    show own_Go _ _ _ _ T19 (mkF m 53 #[.val (.ref a1), .val (.int r1), .val (.int (0 : Int32)), .val (.int c0)] [])
    refine own_go (fun _ k => XS.iloadN X19.here hx rfl (hb hby d4_53) rfl k) ?_
    show own_Go _ _ _ _ T19 (mkF m 54 #[.val (.ref a1), .val (.int r1), .val (.int (0 : Int32)), .val (.int c0)] [(.int c0)])
    refine own_go (fun _ k => XS.sipush X19.here hx rfl (hb hby d4_54) k) ?_
    show own_Go _ _ _ _ T19 (mkF m 57 #[.val (.ref a1), .val (.int r1), .val (.int (0 : Int32)), .val (.int c0)] [(.int (128 : Int32)), (.int c0)])
    refine own_go (fun _ k => XS.iand X19.here hx rfl (hb hby d4_57) rfl k) ?_
    show own_Go _ _ _ _ T19 (mkF m 58 #[.val (.ref a1), .val (.int r1), .val (.int (0 : Int32)), .val (.int c0)] [(.int (c0 &&& (128 : Int32)))])
    by_cases hg0 : (c0 &&& (128 : Int32)) = (0 : Int32)
    · skip
      refine own_go (fun _ k => XS.ifNo X19.here hx rfl (hb hby d4_58) rfl ((if0 _ _).trans (teq hg0).2) k) ?_
      have hh := (own_t128 hd0).mp hg0
      show own_Go _ _ _ _ T19 (mkF m 61 #[.val (.ref a1), .val (.int r1), .val (.int (0 : Int32)), .val (.int c0)] [])
      refine own_go (fun _ k => XS.iloadN X19.here hx rfl (hb hby d4_61) rfl k) ?_
      show own_Go _ _ _ _ T19 (mkF m 62 #[.val (.ref a1), .val (.int r1), .val (.int (0 : Int32)), .val (.int c0)] [(.int (0 : Int32))])
      refine own_go (fun _ k => XS.bipush X19.here hx rfl (hb hby d4_62) k) ?_
      show own_Go _ _ _ _ T19 (mkF m 64 #[.val (.ref a1), .val (.int r1), .val (.int (0 : Int32)), .val (.int c0)] [(.int (28 : Int32)), (.int (0 : Int32))])
      refine own_go (fun _ k => XS.icmpYes X19.here hx rfl (pc0 := 64) (pc' := 77) rfl (hb hby d4_64) rfl (feq (by decide)).2 (by decide) (by decide) k) ?_
      have v1 : r1.toInt = (0 : Int32).toInt + c0.toInt % 128 * 1 := by rw [hr1]; exact own_tR0 _ _ (by omega) (by omega)
      show own_Go _ _ _ _ T19 (mkF m 77 #[.val (.ref a1), .val (.int r1), .val (.int (0 : Int32)), .val (.int c0)] [])
      refine own_go (fun _ k => XS.iloadN X19.here hx rfl (hb hby d4_77) rfl k) ?_
      show own_Go _ _ _ _ T19 (mkF m 78 #[.val (.ref a1), .val (.int r1), .val (.int (0 : Int32)), .val (.int c0)] [(.int r1)])
      have f22 := ((Keep.refl h0 [a1]).wr W19 (Or.inl (List.mem_of_getElem? (i := 0) rfl)))
      have f23 := (E_a1.wr W19)
      have f24 := (F_b.other W19 (Or.inr (slot_ne (Or.inr (hw _ (List.mem_of_getElem? (i := 12) rfl))) (Or.inl (hw _ (List.mem_of_getElem? (i := 14) rfl))) (by decide) (t := (.array .byte)) (t' := .int) (by decide) (by decide))))
      have f25 := (F_e.other W19 (Or.inr (slot_ne (Or.inr (hw _ (List.mem_of_getElem? (i := 16) rfl))) (Or.inl (hw _ (List.mem_of_getElem? (i := 14) rfl))) (by decide) (t := .int) (t' := .int) (by decide) (by decide))))
      have hsp := own_spB0  ha0 hd0.1 hh
      have hv : r1 = (own_spec f s0 en).1 := Eq.trans (own_val0 hd0 (by omega)) (congrArg Prod.fst hsp).symm
      have hp : p1 = s0 + (own_spec f s0 en).2 := Eq.trans (own_step1 hs1 (by omega) (by omega)) (congrArg (fun z : Int32 × Int32 => s0 + z.2) hsp).symm
      rw [hp] at Fw19
      exact own_retI X19 hx hret hlk (hb hby d4_78) (by decide) (by decide) (by first | exact ⟨by rw [hv], N19, f22, f23, f24, Fw19, f25⟩ | (rw [e19]; exact ⟨by rw [hv], N19, f22, f23, f24, Fw19, f25⟩))
    · skip
      refine own_go (fun _ k => XS.ifYes X19.here hx rfl (pc0 := 58) (pc' := 79) rfl (hb hby d4_58) rfl ((if0 _ _).trans (feq hg0).2) (by decide) (by decide) k) ?_
      have hb0 : 128 ≤ c0.toInt := by
        have hx' : ¬ c0.toInt < 128 := fun q => hg0 ((own_t128 hd0).mpr q)
        omega
      have v1 : r1.toInt = (0 : Int32).toInt + c0.toInt % 128 * 1 := by rw [hr1]; exact own_tR0 _ _ (by omega) (by omega)
      show own_Go _ _ _ _ T19 (mkF m 79 #[.val (.ref a1), .val (.int r1), .val (.int (0 : Int32)), .val (.int c0)] [])
      refine own_go (fun _ k => XS.iinc X19.here hx rfl (hb hby d4_79) rfl (l' := #[.val (.ref a1), .val (.int r1), .val (.int ((0 : Int32) + (7 : Int32))), .val (.int c0)]) rfl k) ?_
      show own_Go _ _ _ _ T19 (mkF m 82 #[.val (.ref a1), .val (.int r1), .val (.int ((0 : Int32) + (7 : Int32))), .val (.int c0)] [])
      rw [show ((0 : Int32) + (7 : Int32)) = (7 : Int32) from by decide]
      show own_Go _ _ _ _ T19 (mkF m 82 #[.val (.ref a1), .val (.int r1), .val (.int (7 : Int32)), .val (.int c0)] [])
      refine own_go (fun _ k => XS.goto X19.here hx rfl (pc0 := 82) (pc' := 4) rfl (hb hby d4_82) (by decide) (by decide) k) ?_
      show own_Go _ _ _ _ T19 (mkF m 4 #[.val (.ref a1), .val (.int r1), .val (.int (7 : Int32)), .val (.int c0)] [])
      refine own_go (fun _ k => XS.iloadN X19.here hx rfl (hb hby d4_4) rfl k) ?_
      show own_Go _ _ _ _ T19 (mkF m 5 #[.val (.ref a1), .val (.int r1), .val (.int (7 : Int32)), .val (.int c0)] [(.int (7 : Int32))])
      refine own_go (fun _ k => XS.bipush X19.here hx rfl (hb hby d4_5) k) ?_
      show own_Go _ _ _ _ T19 (mkF m 7 #[.val (.ref a1), .val (.int r1), .val (.int (7 : Int32)), .val (.int c0)] [(.int (32 : Int32)), (.int (7 : Int32))])
      refine own_go (fun _ k => XS.icmpNo X19.here hx rfl (hb hby d4_7) rfl (tlt (by decide)).2.1 k) ?_
      show own_Go _ _ _ _ T19 (mkF m 10 #[.val (.ref a1), .val (.int r1), .val (.int (7 : Int32)), .val (.int c0)] [])
      refine own_go (fun _ k => XS.aloadN X19.here hx rfl (hb hby d4_10) rfl rfl k) ?_
      show own_Go _ _ _ _ T19 (mkF m 11 #[.val (.ref a1), .val (.int r1), .val (.int (7 : Int32)), .val (.int c0)] [(.ref a1)])
      obtain ⟨T26, X26, e26, st26⟩ := getF X19 hx hZ hown (host := "") (Or.inl (hw _ (List.mem_of_getElem? (i := 13) rfl))) Via.refl e19 Fw19 (g := (mkF m 11 #[.val (.ref a1), .val (.int r1), .val (.int (7 : Int32)), .val (.int c0)] [(.ref a1)])) rfl rfl (hb hby d4_11)
      refine own_go (st26) ?_
      show own_Go _ _ _ _ T26 (mkF m 14 #[.val (.ref a1), .val (.int r1), .val (.int (7 : Int32)), .val (.int c0)] [(.int p1)])
      refine own_go (fun _ k => XS.aloadN X26.here hx rfl (hb hby d4_14) rfl rfl k) ?_
      show own_Go _ _ _ _ T26 (mkF m 15 #[.val (.ref a1), .val (.int r1), .val (.int (7 : Int32)), .val (.int c0)] [(.ref a1), (.int p1)])
      have f27 := (F_e.other W19 (Or.inr (slot_ne (Or.inr (hw _ (List.mem_of_getElem? (i := 16) rfl))) (Or.inl (hw _ (List.mem_of_getElem? (i := 14) rfl))) (by decide) (t := .int) (t' := .int) (by decide) (by decide))))
      obtain ⟨T28, X28, e28, st28⟩ := getF X26 hx hZ hown (host := "") (Or.inl (hw _ (List.mem_of_getElem? (i := 15) rfl))) Via.refl e26 f27 (g := (mkF m 15 #[.val (.ref a1), .val (.int r1), .val (.int (7 : Int32)), .val (.int c0)] [(.ref a1), (.int p1)])) rfl rfl (hb hby d4_15)
      refine own_go (st28) ?_
      show own_Go _ _ _ _ T28 (mkF m 18 #[.val (.ref a1), .val (.int r1), .val (.int (7 : Int32)), .val (.int c0)] [(.int en), (.int p1)])
      by_cases he1 : p1 = en
      · skip
        refine own_go (fun _ k => XS.icmpNo X28.here hx rfl (hb hby d4_18) rfl (teq he1).2 k) ?_
        have heT := congrArg Int32.toInt he1
        have hz : ¬ (s0 + (1 : Int32)) < en := own_nlt (by rw [own_sk1 hs1 (by omega)] <;> omega)
        show own_Go _ _ _ _ T28 (mkF m 21 #[.val (.ref a1), .val (.int r1), .val (.int (7 : Int32)), .val (.int c0)] [])
        refine own_go (fun _ k => XS.iconst X28.here hx rfl (hb hby d4_21) k) ?_
        show own_Go _ _ _ _ T28 (mkF m 22 #[.val (.ref a1), .val (.int r1), .val (.int (7 : Int32)), .val (.int c0)] [(.int (-1 : Int32))])
        have f29 := ((Keep.refl h0 [a1]).wr W19 (Or.inl (List.mem_of_getElem? (i := 0) rfl)))
        have f30 := (E_a1.wr W19)
        have f31 := (F_b.other W19 (Or.inr (slot_ne (Or.inr (hw _ (List.mem_of_getElem? (i := 12) rfl))) (Or.inl (hw _ (List.mem_of_getElem? (i := 14) rfl))) (by decide) (t := (.array .byte)) (t' := .int) (by decide) (by decide))))
        have hsp := own_spA1 (f := f) ha0 hb0 hz
        have hv : (-1 : Int32) = (own_spec f s0 en).1 := Eq.trans (rfl) (congrArg Prod.fst hsp).symm
        have hp : p1 = s0 + (own_spec f s0 en).2 := Eq.trans ((he1.trans (own_cancel s0 en).symm)) (congrArg (fun z : Int32 × Int32 => s0 + z.2) hsp).symm
        rw [hp] at Fw19
        exact own_retI X28 hx hret hlk (hb hby d4_22) (by decide) (by decide) (by first | exact ⟨by rw [hv], N19, f29, f30, f31, Fw19, f27⟩ | (rw [e28]; exact ⟨by rw [hv], N19, f29, f30, f31, Fw19, f27⟩))
      · skip
        refine own_go (fun _ k => XS.icmpYes X28.here hx rfl (pc0 := 18) (pc' := 23) rfl (hb hby d4_18) rfl (feq he1).2 (by decide) (by decide) k) ?_
        have hq1 : ¬ p1.toInt = en.toInt := fun q => he1 (Int32.toInt_inj.mp q)
        have hlt1 : p1.toInt < en.toInt := by omega
        have hn1 : ¬ p1 < 0 := own_nlt (by show (0 : Int32).toInt ≤ _; rw [own_e0]; omega)
        show own_Go _ _ _ _ T28 (mkF m 23 #[.val (.ref a1), .val (.int r1), .val (.int (7 : Int32)), .val (.int c0)] [])
        refine own_go (fun _ k => XS.aloadN X28.here hx rfl (hb hby d4_23) rfl rfl k) ?_
        show own_Go _ _ _ _ T28 (mkF m 24 #[.val (.ref a1), .val (.int r1), .val (.int (7 : Int32)), .val (.int c0)] [(.ref a1)])
        have f32 := (F_b.other W19 (Or.inr (slot_ne (Or.inr (hw _ (List.mem_of_getElem? (i := 12) rfl))) (Or.inl (hw _ (List.mem_of_getElem? (i := 14) rfl))) (by decide) (t := (.array .byte)) (t' := .int) (by decide) (by decide))))
        obtain ⟨T33, X33, e33, st33⟩ := getF X28 hx hZ hown (host := "") (Or.inl (hw _ (List.mem_of_getElem? (i := 11) rfl))) Via.refl e28 f32 (g := (mkF m 24 #[.val (.ref a1), .val (.int r1), .val (.int (7 : Int32)), .val (.int c0)] [(.ref a1)])) rfl rfl (hb hby d4_24)
        refine own_go (st33) ?_
        show own_Go _ _ _ _ T33 (mkF m 27 #[.val (.ref a1), .val (.int r1), .val (.int (7 : Int32)), .val (.int c0)] [(.ref a2)])
        refine own_go (fun _ k => XS.aloadN X33.here hx rfl (hb hby d4_27) rfl rfl k) ?_
        show own_Go _ _ _ _ T33 (mkF m 28 #[.val (.ref a1), .val (.int r1), .val (.int (7 : Int32)), .val (.int c0)] [(.ref a1), (.ref a2)])
        refine own_go (fun _ k => XS.dup X33.here hx rfl (hb hby d4_28) rfl rfl k) ?_
        show own_Go _ _ _ _ T33 (mkF m 29 #[.val (.ref a1), .val (.int r1), .val (.int (7 : Int32)), .val (.int c0)] [(.ref a1), (.ref a1), (.ref a2)])
        obtain ⟨T34, X34, e34, st34⟩ := getF X33 hx hZ hown (host := "") (Or.inl (hw _ (List.mem_of_getElem? (i := 13) rfl))) Via.refl e33 Fw19 (g := (mkF m 29 #[.val (.ref a1), .val (.int r1), .val (.int (7 : Int32)), .val (.int c0)] [(.ref a1), (.ref a1), (.ref a2)])) rfl rfl (hb hby d4_29)
        refine own_go (st34) ?_
        show own_Go _ _ _ _ T34 (mkF m 32 #[.val (.ref a1), .val (.int r1), .val (.int (7 : Int32)), .val (.int c0)] [(.int p1), (.ref a1), (.ref a2)])
        refine own_go (fun _ k => XS.dupX1 X34.here hx rfl (hb hby d4_32) rfl rfl rfl k) ?_
        show own_Go _ _ _ _ T34 (mkF m 33 #[.val (.ref a1), .val (.int r1), .val (.int (7 : Int32)), .val (.int c0)] [(.int p1), (.ref a1), (.int p1), (.ref a2)])
        refine own_go (fun _ k => XS.iconst X34.here hx rfl (hb hby d4_33) k) ?_
        show own_Go _ _ _ _ T34 (mkF m 34 #[.val (.ref a1), .val (.int r1), .val (.int (7 : Int32)), .val (.int c0)] [(.int (1 : Int32)), (.int p1), (.ref a1), (.int p1), (.ref a2)])
        refine own_go (fun _ k => XS.iadd X34.here hx rfl (hb hby d4_34) rfl k) ?_
        show own_Go _ _ _ _ T34 (mkF m 35 #[.val (.ref a1), .val (.int r1), .val (.int (7 : Int32)), .val (.int c0)] [(.int (p1 + (1 : Int32))), (.ref a1), (.int p1), (.ref a2)])
        obtain ⟨p2, hp2⟩ : ∃ z : Int32, z = (p1 + (1 : Int32)) := ⟨_, rfl⟩
        rw [← hp2]
        show own_Go _ _ _ _ T34 (mkF m 35 #[.val (.ref a1), .val (.int r1), .val (.int (7 : Int32)), .val (.int c0)] [(.int p2), (.ref a1), (.int p1), (.ref a2)])
        have f36 := (E_a1.wr W19)
        obtain ⟨T35, h35, X35, e35, W35, st35⟩ := putF X34 hx hZ hown (host := "") (Or.inl (hw _ (List.mem_of_getElem? (i := 13) rfl))) Via.refl e34 Fw19 f36 (Or.inl (hw _ (List.mem_of_getElem? (i := 14) rfl))) (hw _ (List.mem_of_getElem? (i := 3) rfl)) (ty := .int) (by decide) rfl rfl (g := (mkF m 35 #[.val (.ref a1), .val (.int r1), .val (.int (7 : Int32)), .val (.int c0)] [(.int p2), (.ref a1), (.int p1), (.ref a2)])) rfl rfl (hb hby d4_35)
        refine own_go (st35) ?_
        have Fw35 := Fw19.same W35
        have N35 := Fr.snoc X35 N19 g_a1
        show own_Go _ _ _ _ T35 (mkF m 38 #[.val (.ref a1), .val (.int r1), .val (.int (7 : Int32)), .val (.int c0)] [(.int p1), (.ref a2)])
        have f38 := (V20.other W35 ne_1_2)
        obtain ⟨cl37, Ar37, q37, S37, M37, H37, G37⟩ := f38
        have V37 : Arv Z h35 a2 kk .byte nn _ _ := ⟨cl37, Ar37, q37, S37, M37, H37, G37⟩
        have hin37 : ¬ (p1 < 0 ∨ cl37.slots.size ≤ (p1).toNatClampNeg) := inb_of S37 ⟨hn1, own_lt (by omega)⟩
        have hat37 : cl37.slots[(p1).toNatClampNeg]? = some (.int (f (p1).toNatClampNeg)) := H37.at hin37 (hf _)
        refine own_go (X35.baloadBytes hx (j := p1) (v := (.int (f (p1).toNatClampNeg))) (by rw [e35]; exact Ar37.1) (State.isArrayOf_alike hZ.alike Ar37.2.1) Ar37.2.2 hin37 hat37 (g := (mkF m 38 #[.val (.ref a1), .val (.int r1), .val (.int (7 : Int32)), .val (.int c0)] [(.int p1), (.ref a2)])) rfl rfl (hb hby d4_38)) ?_
        show own_Go _ _ _ _ T35 (mkF m 39 #[.val (.ref a1), .val (.int r1), .val (.int (7 : Int32)), .val (.int c0)] [(.int (f (p1).toNatClampNeg))])
        refine own_go (fun _ k => XS.sipush X35.here hx rfl (hb hby d4_39) k) ?_
        show own_Go _ _ _ _ T35 (mkF m 42 #[.val (.ref a1), .val (.int r1), .val (.int (7 : Int32)), .val (.int c0)] [(.int (255 : Int32)), (.int (f (p1).toNatClampNeg))])
        refine own_go (fun _ k => XS.iand X35.here hx rfl (hb hby d4_42) rfl k) ?_
        show own_Go _ _ _ _ T35 (mkF m 43 #[.val (.ref a1), .val (.int r1), .val (.int (7 : Int32)), .val (.int c0)] [(.int ((f (p1).toNatClampNeg) &&& (255 : Int32)))])
        obtain ⟨c1, hc1⟩ : ∃ z : Int32, z = ((f (p1).toNatClampNeg) &&& (255 : Int32)) := ⟨_, rfl⟩
        rw [← hc1]
        have ha1 : own_a f (s0 + (1 : Int32)) en = c1 := own_tA (by rw [own_sk1 hs1 (by omega)] <;> omega) hlt1 hc1
        have hd1 := own_tC hc1
        have u2 : p2.toInt = s0.toInt + 2 := by rw [hp2, own_inc _ _ (own_lt hlt1)] <;> omega
        show own_Go _ _ _ _ T35 (mkF m 43 #[.val (.ref a1), .val (.int r1), .val (.int (7 : Int32)), .val (.int c0)] [(.int c1)])
        refine own_go (fun _ k => XS.istoreN X35.here hx rfl (hb hby d4_43) rfl (l' := #[.val (.ref a1), .val (.int r1), .val (.int (7 : Int32)), .val (.int c1)]) rfl k) ?_
        show own_Go _ _ _ _ T35 (mkF m 44 #[.val (.ref a1), .val (.int r1), .val (.int (7 : Int32)), .val (.int c1)] [])
        refine own_go (fun _ k => XS.iloadN X35.here hx rfl (hb hby d4_44) rfl k) ?_
        show own_Go _ _ _ _ T35 (mkF m 45 #[.val (.ref a1), .val (.int r1), .val (.int (7 : Int32)), .val (.int c1)] [(.int r1)])
        refine own_go (fun _ k => XS.iloadN X35.here hx rfl (hb hby d4_45) rfl k) ?_
        show own_Go _ _ _ _ T35 (mkF m 46 #[.val (.ref a1), .val (.int r1), .val (.int (7 : Int32)), .val (.int c1)] [(.int c1), (.int r1)])
        refine own_go (fun _ k => XS.bipush X35.here hx rfl (hb hby d4_46) k) ?_
        show own_Go _ _ _ _ T35 (mkF m 48 #[.val (.ref a1), .val (.int r1), .val (.int (7 : Int32)), .val (.int c1)] [(.int (127 : Int32)), (.int c1), (.int r1)])
        refine own_go (fun _ k => XS.iand X35.here hx rfl (hb hby d4_48) rfl k) ?_
        show own_Go _ _ _ _ T35 (mkF m 49 #[.val (.ref a1), .val (.int r1), .val (.int (7 : Int32)), .val (.int c1)] [(.int (c1 &&& (127 : Int32))), (.int r1)])
        refine own_go (fun _ k => XS.iloadN X35.here hx rfl (hb hby d4_49) rfl k) ?_
        show own_Go _ _ _ _ T35 (mkF m 50 #[.val (.ref a1), .val (.int r1), .val (.int (7 : Int32)), .val (.int c1)] [(.int (7 : Int32)), (.int (c1 &&& (127 : Int32))), (.int r1)])
        refine own_go (fun _ k => XS.ishl X35.here hx rfl (hb hby d4_50) rfl k) ?_
        show own_Go _ _ _ _ T35 (mkF m 51 #[.val (.ref a1), .val (.int r1), .val (.int (7 : Int32)), .val (.int c1)] [(.int ((c1 &&& (127 : Int32)) <<< ((7 : Int32) &&& 31))), (.int r1)])
        refine own_go (fun _ k => XS.ior X35.here hx rfl (hb hby d4_51) rfl k) ?_
        show own_Go _ _ _ _ T35 (mkF m 52 #[.val (.ref a1), .val (.int r1), .val (.int (7 : Int32)), .val (.int c1)] [(.int (r1 ||| ((c1 &&& (127 : Int32)) <<< ((7 : Int32) &&& 31))))])
        obtain ⟨r2, hr2⟩ : ∃ z : Int32, z = (r1 ||| ((c1 &&& (127 : Int32)) <<< ((7 : Int32) &&& 31))) := ⟨_, rfl⟩
        rw [← hr2]
        show own_Go _ _ _ _ T35 (mkF m 52 #[.val (.ref a1), .val (.int r1), .val (.int (7 : Int32)), .val (.int c1)] [(.int r2)])
        refine own_go (fun _ k => XS.istoreN X35.here hx rfl (hb hby d4_52) rfl (l' := #[.val (.ref a1), .val (.int r2), .val (.int (7 : Int32)), .val (.int c1)]) rfl k) ?_
        show own_Go _ _ _ _ T35 (mkF m 53 #[.val (.ref a1), .val (.int r2), .val (.int (7 : Int32)), .val (.int c1)] [])
        refine own_go (fun _ k => XS.iloadN X35.here hx rfl (hb hby d4_53) rfl k) ?_
        show own_Go _ _ _ _ T35 (mkF m 54 #[.val (.ref a1), .val (.int r2), .val (.int (7 : Int32)), .val (.int c1)] [(.int c1)])
        refine own_go (fun _ k => XS.sipush X35.here hx rfl (hb hby d4_54) k) ?_
        show own_Go _ _ _ _ T35 (mkF m 57 #[.val (.ref a1), .val (.int r2), .val (.int (7 : Int32)), .val (.int c1)] [(.int (128 : Int32)), (.int c1)])
        refine own_go (fun _ k => XS.iand X35.here hx rfl (hb hby d4_57) rfl k) ?_
        show own_Go _ _ _ _ T35 (mkF m 58 #[.val (.ref a1), .val (.int r2), .val (.int (7 : Int32)), .val (.int c1)] [(.int (c1 &&& (128 : Int32)))])
        by_cases hg1 : (c1 &&& (128 : Int32)) = (0 : Int32)
        · skip
          refine own_go (fun _ k => XS.ifNo X35.here hx rfl (hb hby d4_58) rfl ((if0 _ _).trans (teq hg1).2) k) ?_
          have hh := (own_t128 hd1).mp hg1
          show own_Go _ _ _ _ T35 (mkF m 61 #[.val (.ref a1), .val (.int r2), .val (.int (7 : Int32)), .val (.int c1)] [])
          refine own_go (fun _ k => XS.iloadN X35.here hx rfl (hb hby d4_61) rfl k) ?_
          show own_Go _ _ _ _ T35 (mkF m 62 #[.val (.ref a1), .val (.int r2), .val (.int (7 : Int32)), .val (.int c1)] [(.int (7 : Int32))])
          refine own_go (fun _ k => XS.bipush X35.here hx rfl (hb hby d4_62) k) ?_
          show own_Go _ _ _ _ T35 (mkF m 64 #[.val (.ref a1), .val (.int r2), .val (.int (7 : Int32)), .val (.int c1)] [(.int (28 : Int32)), (.int (7 : Int32))])
          refine own_go (fun _ k => XS.icmpYes X35.here hx rfl (pc0 := 64) (pc' := 77) rfl (hb hby d4_64) rfl (feq (by decide)).2 (by decide) (by decide) k) ?_
          have v2 : r2.toInt = r1.toInt + c1.toInt % 128 * 128 := by rw [hr2]; exact own_tR1 _ _ (by omega) (by omega)
          show own_Go _ _ _ _ T35 (mkF m 77 #[.val (.ref a1), .val (.int r2), .val (.int (7 : Int32)), .val (.int c1)] [])
          refine own_go (fun _ k => XS.iloadN X35.here hx rfl (hb hby d4_77) rfl k) ?_
          show own_Go _ _ _ _ T35 (mkF m 78 #[.val (.ref a1), .val (.int r2), .val (.int (7 : Int32)), .val (.int c1)] [(.int r2)])
          have f39 := (((Keep.refl h0 [a1]).wr W19 (Or.inl (List.mem_of_getElem? (i := 0) rfl))).wr W35 (Or.inl (List.mem_of_getElem? (i := 0) rfl)))
          have f40 := (f36.wr W35)
          have f41 := (f32.other W35 (Or.inr (slot_ne (Or.inr (hw _ (List.mem_of_getElem? (i := 12) rfl))) (Or.inl (hw _ (List.mem_of_getElem? (i := 14) rfl))) (by decide) (t := (.array .byte)) (t' := .int) (by decide) (by decide))))
          have f42 := (f27.other W35 (Or.inr (slot_ne (Or.inr (hw _ (List.mem_of_getElem? (i := 16) rfl))) (Or.inl (hw _ (List.mem_of_getElem? (i := 14) rfl))) (by decide) (t := .int) (t' := .int) (by decide) (by decide))))
          have hsp := own_spB1 ha0 hb0 ha1 hd1.1 hh
          have hv : r2 = (own_spec f s0 en).1 := Eq.trans (own_val1 hd0 hd1 (by omega)) (congrArg Prod.fst hsp).symm
          have hp : p2 = s0 + (own_spec f s0 en).2 := Eq.trans (own_step2 hs1 (by omega) (by omega)) (congrArg (fun z : Int32 × Int32 => s0 + z.2) hsp).symm
          rw [hp] at Fw35
          exact own_retI X35 hx hret hlk (hb hby d4_78) (by decide) (by decide) (by first | exact ⟨by rw [hv], N35, f39, f40, f41, Fw35, f42⟩ | (rw [e35]; exact ⟨by rw [hv], N35, f39, f40, f41, Fw35, f42⟩))
        · skip
          refine own_go (fun _ k => XS.ifYes X35.here hx rfl (pc0 := 58) (pc' := 79) rfl (hb hby d4_58) rfl ((if0 _ _).trans (feq hg1).2) (by decide) (by decide) k) ?_
          have hb1 : 128 ≤ c1.toInt := by
            have hx' : ¬ c1.toInt < 128 := fun q => hg1 ((own_t128 hd1).mpr q)
            omega
          have v2 : r2.toInt = r1.toInt + c1.toInt % 128 * 128 := by rw [hr2]; exact own_tR1 _ _ (by omega) (by omega)
          show own_Go _ _ _ _ T35 (mkF m 79 #[.val (.ref a1), .val (.int r2), .val (.int (7 : Int32)), .val (.int c1)] [])
          refine own_go (fun _ k => XS.iinc X35.here hx rfl (hb hby d4_79) rfl (l' := #[.val (.ref a1), .val (.int r2), .val (.int ((7 : Int32) + (7 : Int32))), .val (.int c1)]) rfl k) ?_
          show own_Go _ _ _ _ T35 (mkF m 82 #[.val (.ref a1), .val (.int r2), .val (.int ((7 : Int32) + (7 : Int32))), .val (.int c1)] [])
          rw [show ((7 : Int32) + (7 : Int32)) = (14 : Int32) from by decide]
          show own_Go _ _ _ _ T35 (mkF m 82 #[.val (.ref a1), .val (.int r2), .val (.int (14 : Int32)), .val (.int c1)] [])
          refine own_go (fun _ k => XS.goto X35.here hx rfl (pc0 := 82) (pc' := 4) rfl (hb hby d4_82) (by decide) (by decide) k) ?_
          show own_Go _ _ _ _ T35 (mkF m 4 #[.val (.ref a1), .val (.int r2), .val (.int (14 : Int32)), .val (.int c1)] [])
          refine own_go (fun _ k => XS.iloadN X35.here hx rfl (hb hby d4_4) rfl k) ?_
          show own_Go _ _ _ _ T35 (mkF m 5 #[.val (.ref a1), .val (.int r2), .val (.int (14 : Int32)), .val (.int c1)] [(.int (14 : Int32))])
          refine own_go (fun _ k => XS.bipush X35.here hx rfl (hb hby d4_5) k) ?_
          show own_Go _ _ _ _ T35 (mkF m 7 #[.val (.ref a1), .val (.int r2), .val (.int (14 : Int32)), .val (.int c1)] [(.int (32 : Int32)), (.int (14 : Int32))])
          refine own_go (fun _ k => XS.icmpNo X35.here hx rfl (hb hby d4_7) rfl (tlt (by decide)).2.1 k) ?_
          show own_Go _ _ _ _ T35 (mkF m 10 #[.val (.ref a1), .val (.int r2), .val (.int (14 : Int32)), .val (.int c1)] [])
          refine own_go (fun _ k => XS.aloadN X35.here hx rfl (hb hby d4_10) rfl rfl k) ?_
          show own_Go _ _ _ _ T35 (mkF m 11 #[.val (.ref a1), .val (.int r2), .val (.int (14 : Int32)), .val (.int c1)] [(.ref a1)])
          obtain ⟨T43, X43, e43, st43⟩ := getF X35 hx hZ hown (host := "") (Or.inl (hw _ (List.mem_of_getElem? (i := 13) rfl))) Via.refl e35 Fw35 (g := (mkF m 11 #[.val (.ref a1), .val (.int r2), .val (.int (14 : Int32)), .val (.int c1)] [(.ref a1)])) rfl rfl (hb hby d4_11)
          refine own_go (st43) ?_
          show own_Go _ _ _ _ T43 (mkF m 14 #[.val (.ref a1), .val (.int r2), .val (.int (14 : Int32)), .val (.int c1)] [(.int p2)])
          refine own_go (fun _ k => XS.aloadN X43.here hx rfl (hb hby d4_14) rfl rfl k) ?_
          show own_Go _ _ _ _ T43 (mkF m 15 #[.val (.ref a1), .val (.int r2), .val (.int (14 : Int32)), .val (.int c1)] [(.ref a1), (.int p2)])
          have f44 := (f27.other W35 (Or.inr (slot_ne (Or.inr (hw _ (List.mem_of_getElem? (i := 16) rfl))) (Or.inl (hw _ (List.mem_of_getElem? (i := 14) rfl))) (by decide) (t := .int) (t' := .int) (by decide) (by decide))))
          obtain ⟨T45, X45, e45, st45⟩ := getF X43 hx hZ hown (host := "") (Or.inl (hw _ (List.mem_of_getElem? (i := 15) rfl))) Via.refl e43 f44 (g := (mkF m 15 #[.val (.ref a1), .val (.int r2), .val (.int (14 : Int32)), .val (.int c1)] [(.ref a1), (.int p2)])) rfl rfl (hb hby d4_15)
          refine own_go (st45) ?_
          show own_Go _ _ _ _ T45 (mkF m 18 #[.val (.ref a1), .val (.int r2), .val (.int (14 : Int32)), .val (.int c1)] [(.int en), (.int p2)])
          by_cases he2 : p2 = en
          · skip
            refine own_go (fun _ k => XS.icmpNo X45.here hx rfl (hb hby d4_18) rfl (teq he2).2 k) ?_
            have heT := congrArg Int32.toInt he2
            have hz : ¬ (s0 + (2 : Int32)) < en := own_nlt (by rw [own_sk2 hs1 (by omega)] <;> omega)
            show own_Go _ _ _ _ T45 (mkF m 21 #[.val (.ref a1), .val (.int r2), .val (.int (14 : Int32)), .val (.int c1)] [])
            refine own_go (fun _ k => XS.iconst X45.here hx rfl (hb hby d4_21) k) ?_
            show own_Go _ _ _ _ T45 (mkF m 22 #[.val (.ref a1), .val (.int r2), .val (.int (14 : Int32)), .val (.int c1)] [(.int (-1 : Int32))])
            have f46 := (((Keep.refl h0 [a1]).wr W19 (Or.inl (List.mem_of_getElem? (i := 0) rfl))).wr W35 (Or.inl (List.mem_of_getElem? (i := 0) rfl)))
            have f47 := (f36.wr W35)
            have f48 := (f32.other W35 (Or.inr (slot_ne (Or.inr (hw _ (List.mem_of_getElem? (i := 12) rfl))) (Or.inl (hw _ (List.mem_of_getElem? (i := 14) rfl))) (by decide) (t := (.array .byte)) (t' := .int) (by decide) (by decide))))
            have hsp := own_spA2 (f := f) ha0 hb0 ha1 hb1 hz
            have hv : (-1 : Int32) = (own_spec f s0 en).1 := Eq.trans (rfl) (congrArg Prod.fst hsp).symm
            have hp : p2 = s0 + (own_spec f s0 en).2 := Eq.trans ((he2.trans (own_cancel s0 en).symm)) (congrArg (fun z : Int32 × Int32 => s0 + z.2) hsp).symm
            rw [hp] at Fw35
            exact own_retI X45 hx hret hlk (hb hby d4_22) (by decide) (by decide) (by first | exact ⟨by rw [hv], N35, f46, f47, f48, Fw35, f44⟩ | (rw [e45]; exact ⟨by rw [hv], N35, f46, f47, f48, Fw35, f44⟩))
          · skip
            refine own_go (fun _ k => XS.icmpYes X45.here hx rfl (pc0 := 18) (pc' := 23) rfl (hb hby d4_18) rfl (feq he2).2 (by decide) (by decide) k) ?_
            have hq2 : ¬ p2.toInt = en.toInt := fun q => he2 (Int32.toInt_inj.mp q)
            have hlt2 : p2.toInt < en.toInt := by omega
            have hn2 : ¬ p2 < 0 := own_nlt (by show (0 : Int32).toInt ≤ _; rw [own_e0]; omega)
            show own_Go _ _ _ _ T45 (mkF m 23 #[.val (.ref a1), .val (.int r2), .val (.int (14 : Int32)), .val (.int c1)] [])
            refine own_go (fun _ k => XS.aloadN X45.here hx rfl (hb hby d4_23) rfl rfl k) ?_
            show own_Go _ _ _ _ T45 (mkF m 24 #[.val (.ref a1), .val (.int r2), .val (.int (14 : Int32)), .val (.int c1)] [(.ref a1)])
            have f49 := (f32.other W35 (Or.inr (slot_ne (Or.inr (hw _ (List.mem_of_getElem? (i := 12) rfl))) (Or.inl (hw _ (List.mem_of_getElem? (i := 14) rfl))) (by decide) (t := (.array .byte)) (t' := .int) (by decide) (by decide))))
            obtain ⟨T50, X50, e50, st50⟩ := getF X45 hx hZ hown (host := "") (Or.inl (hw _ (List.mem_of_getElem? (i := 11) rfl))) Via.refl e45 f49 (g := (mkF m 24 #[.val (.ref a1), .val (.int r2), .val (.int (14 : Int32)), .val (.int c1)] [(.ref a1)])) rfl rfl (hb hby d4_24)
            refine own_go (st50) ?_
            show own_Go _ _ _ _ T50 (mkF m 27 #[.val (.ref a1), .val (.int r2), .val (.int (14 : Int32)), .val (.int c1)] [(.ref a2)])
            refine own_go (fun _ k => XS.aloadN X50.here hx rfl (hb hby d4_27) rfl rfl k) ?_
            show own_Go _ _ _ _ T50 (mkF m 28 #[.val (.ref a1), .val (.int r2), .val (.int (14 : Int32)), .val (.int c1)] [(.ref a1), (.ref a2)])
            refine own_go (fun _ k => XS.dup X50.here hx rfl (hb hby d4_28) rfl rfl k) ?_
            show own_Go _ _ _ _ T50 (mkF m 29 #[.val (.ref a1), .val (.int r2), .val (.int (14 : Int32)), .val (.int c1)] [(.ref a1), (.ref a1), (.ref a2)])
            obtain ⟨T51, X51, e51, st51⟩ := getF X50 hx hZ hown (host := "") (Or.inl (hw _ (List.mem_of_getElem? (i := 13) rfl))) Via.refl e50 Fw35 (g := (mkF m 29 #[.val (.ref a1), .val (.int r2), .val (.int (14 : Int32)), .val (.int c1)] [(.ref a1), (.ref a1), (.ref a2)])) rfl rfl (hb hby d4_29)
            refine own_go (st51) ?_
            show own_Go _ _ _ _ T51 (mkF m 32 #[.val (.ref a1), .val (.int r2), .val (.int (14 : Int32)), .val (.int c1)] [(.int p2), (.ref a1), (.ref a2)])
            refine own_go (fun _ k => XS.dupX1 X51.here hx rfl (hb hby d4_32) rfl rfl rfl k) ?_
            show own_Go _ _ _ _ T51 (mkF m 33 #[.val (.ref a1), .val (.int r2), .val (.int (14 : Int32)), .val (.int c1)] [(.int p2), (.ref a1), (.int p2), (.ref a2)])
            refine own_go (fun _ k => XS.iconst X51.here hx rfl (hb hby d4_33) k) ?_
            show own_Go _ _ _ _ T51 (mkF m 34 #[.val (.ref a1), .val (.int r2), .val (.int (14 : Int32)), .val (.int c1)] [(.int (1 : Int32)), (.int p2), (.ref a1), (.int p2), (.ref a2)])
            refine own_go (fun _ k => XS.iadd X51.here hx rfl (hb hby d4_34) rfl k) ?_
            show own_Go _ _ _ _ T51 (mkF m 35 #[.val (.ref a1), .val (.int r2), .val (.int (14 : Int32)), .val (.int c1)] [(.int (p2 + (1 : Int32))), (.ref a1), (.int p2), (.ref a2)])
            obtain ⟨p3, hp3⟩ : ∃ z : Int32, z = (p2 + (1 : Int32)) := ⟨_, rfl⟩
            rw [← hp3]
            show own_Go _ _ _ _ T51 (mkF m 35 #[.val (.ref a1), .val (.int r2), .val (.int (14 : Int32)), .val (.int c1)] [(.int p3), (.ref a1), (.int p2), (.ref a2)])
            have f53 := (f36.wr W35)
            obtain ⟨T52, h52, X52, e52, W52, st52⟩ := putF X51 hx hZ hown (host := "") (Or.inl (hw _ (List.mem_of_getElem? (i := 13) rfl))) Via.refl e51 Fw35 f53 (Or.inl (hw _ (List.mem_of_getElem? (i := 14) rfl))) (hw _ (List.mem_of_getElem? (i := 3) rfl)) (ty := .int) (by decide) rfl rfl (g := (mkF m 35 #[.val (.ref a1), .val (.int r2), .val (.int (14 : Int32)), .val (.int c1)] [(.int p3), (.ref a1), (.int p2), (.ref a2)])) rfl rfl (hb hby d4_35)
            refine own_go (st52) ?_
            have Fw52 := Fw35.same W52
            have N52 := Fr.snoc X52 N35 g_a1
            show own_Go _ _ _ _ T52 (mkF m 38 #[.val (.ref a1), .val (.int r2), .val (.int (14 : Int32)), .val (.int c1)] [(.int p2), (.ref a2)])
            have f55 := (V37.other W52 ne_1_2)
            obtain ⟨cl54, Ar54, q54, S54, M54, H54, G54⟩ := f55
            have V54 : Arv Z h52 a2 kk .byte nn _ _ := ⟨cl54, Ar54, q54, S54, M54, H54, G54⟩
            have hin54 : ¬ (p2 < 0 ∨ cl54.slots.size ≤ (p2).toNatClampNeg) := inb_of S54 ⟨hn2, own_lt (by omega)⟩
            have hat54 : cl54.slots[(p2).toNatClampNeg]? = some (.int (f (p2).toNatClampNeg)) := H54.at hin54 (hf _)
            refine own_go (X52.baloadBytes hx (j := p2) (v := (.int (f (p2).toNatClampNeg))) (by rw [e52]; exact Ar54.1) (State.isArrayOf_alike hZ.alike Ar54.2.1) Ar54.2.2 hin54 hat54 (g := (mkF m 38 #[.val (.ref a1), .val (.int r2), .val (.int (14 : Int32)), .val (.int c1)] [(.int p2), (.ref a2)])) rfl rfl (hb hby d4_38)) ?_
            show own_Go _ _ _ _ T52 (mkF m 39 #[.val (.ref a1), .val (.int r2), .val (.int (14 : Int32)), .val (.int c1)] [(.int (f (p2).toNatClampNeg))])
            refine own_go (fun _ k => XS.sipush X52.here hx rfl (hb hby d4_39) k) ?_
            show own_Go _ _ _ _ T52 (mkF m 42 #[.val (.ref a1), .val (.int r2), .val (.int (14 : Int32)), .val (.int c1)] [(.int (255 : Int32)), (.int (f (p2).toNatClampNeg))])
            refine own_go (fun _ k => XS.iand X52.here hx rfl (hb hby d4_42) rfl k) ?_
            show own_Go _ _ _ _ T52 (mkF m 43 #[.val (.ref a1), .val (.int r2), .val (.int (14 : Int32)), .val (.int c1)] [(.int ((f (p2).toNatClampNeg) &&& (255 : Int32)))])
            obtain ⟨c2, hc2⟩ : ∃ z : Int32, z = ((f (p2).toNatClampNeg) &&& (255 : Int32)) := ⟨_, rfl⟩
            rw [← hc2]
            have ha2 : own_a f (s0 + (2 : Int32)) en = c2 := own_tA (by rw [own_sk2 hs1 (by omega)] <;> omega) hlt2 hc2
            have hd2 := own_tC hc2
            have u3 : p3.toInt = s0.toInt + 3 := by rw [hp3, own_inc _ _ (own_lt hlt2)] <;> omega
            show own_Go _ _ _ _ T52 (mkF m 43 #[.val (.ref a1), .val (.int r2), .val (.int (14 : Int32)), .val (.int c1)] [(.int c2)])
            refine own_go (fun _ k => XS.istoreN X52.here hx rfl (hb hby d4_43) rfl (l' := #[.val (.ref a1), .val (.int r2), .val (.int (14 : Int32)), .val (.int c2)]) rfl k) ?_
            show own_Go _ _ _ _ T52 (mkF m 44 #[.val (.ref a1), .val (.int r2), .val (.int (14 : Int32)), .val (.int c2)] [])
            refine own_go (fun _ k => XS.iloadN X52.here hx rfl (hb hby d4_44) rfl k) ?_
            show own_Go _ _ _ _ T52 (mkF m 45 #[.val (.ref a1), .val (.int r2), .val (.int (14 : Int32)), .val (.int c2)] [(.int r2)])
            refine own_go (fun _ k => XS.iloadN X52.here hx rfl (hb hby d4_45) rfl k) ?_
            show own_Go _ _ _ _ T52 (mkF m 46 #[.val (.ref a1), .val (.int r2), .val (.int (14 : Int32)), .val (.int c2)] [(.int c2), (.int r2)])
            refine own_go (fun _ k => XS.bipush X52.here hx rfl (hb hby d4_46) k) ?_
            show own_Go _ _ _ _ T52 (mkF m 48 #[.val (.ref a1), .val (.int r2), .val (.int (14 : Int32)), .val (.int c2)] [(.int (127 : Int32)), (.int c2), (.int r2)])
            refine own_go (fun _ k => XS.iand X52.here hx rfl (hb hby d4_48) rfl k) ?_
            show own_Go _ _ _ _ T52 (mkF m 49 #[.val (.ref a1), .val (.int r2), .val (.int (14 : Int32)), .val (.int c2)] [(.int (c2 &&& (127 : Int32))), (.int r2)])
            refine own_go (fun _ k => XS.iloadN X52.here hx rfl (hb hby d4_49) rfl k) ?_
            show own_Go _ _ _ _ T52 (mkF m 50 #[.val (.ref a1), .val (.int r2), .val (.int (14 : Int32)), .val (.int c2)] [(.int (14 : Int32)), (.int (c2 &&& (127 : Int32))), (.int r2)])
            refine own_go (fun _ k => XS.ishl X52.here hx rfl (hb hby d4_50) rfl k) ?_
            show own_Go _ _ _ _ T52 (mkF m 51 #[.val (.ref a1), .val (.int r2), .val (.int (14 : Int32)), .val (.int c2)] [(.int ((c2 &&& (127 : Int32)) <<< ((14 : Int32) &&& 31))), (.int r2)])
            refine own_go (fun _ k => XS.ior X52.here hx rfl (hb hby d4_51) rfl k) ?_
            show own_Go _ _ _ _ T52 (mkF m 52 #[.val (.ref a1), .val (.int r2), .val (.int (14 : Int32)), .val (.int c2)] [(.int (r2 ||| ((c2 &&& (127 : Int32)) <<< ((14 : Int32) &&& 31))))])
            obtain ⟨r3, hr3⟩ : ∃ z : Int32, z = (r2 ||| ((c2 &&& (127 : Int32)) <<< ((14 : Int32) &&& 31))) := ⟨_, rfl⟩
            rw [← hr3]
            show own_Go _ _ _ _ T52 (mkF m 52 #[.val (.ref a1), .val (.int r2), .val (.int (14 : Int32)), .val (.int c2)] [(.int r3)])
            refine own_go (fun _ k => XS.istoreN X52.here hx rfl (hb hby d4_52) rfl (l' := #[.val (.ref a1), .val (.int r3), .val (.int (14 : Int32)), .val (.int c2)]) rfl k) ?_
            show own_Go _ _ _ _ T52 (mkF m 53 #[.val (.ref a1), .val (.int r3), .val (.int (14 : Int32)), .val (.int c2)] [])
            refine own_go (fun _ k => XS.iloadN X52.here hx rfl (hb hby d4_53) rfl k) ?_
            show own_Go _ _ _ _ T52 (mkF m 54 #[.val (.ref a1), .val (.int r3), .val (.int (14 : Int32)), .val (.int c2)] [(.int c2)])
            refine own_go (fun _ k => XS.sipush X52.here hx rfl (hb hby d4_54) k) ?_
            show own_Go _ _ _ _ T52 (mkF m 57 #[.val (.ref a1), .val (.int r3), .val (.int (14 : Int32)), .val (.int c2)] [(.int (128 : Int32)), (.int c2)])
            refine own_go (fun _ k => XS.iand X52.here hx rfl (hb hby d4_57) rfl k) ?_
            show own_Go _ _ _ _ T52 (mkF m 58 #[.val (.ref a1), .val (.int r3), .val (.int (14 : Int32)), .val (.int c2)] [(.int (c2 &&& (128 : Int32)))])
            by_cases hg2 : (c2 &&& (128 : Int32)) = (0 : Int32)
            · skip
              refine own_go (fun _ k => XS.ifNo X52.here hx rfl (hb hby d4_58) rfl ((if0 _ _).trans (teq hg2).2) k) ?_
              have hh := (own_t128 hd2).mp hg2
              show own_Go _ _ _ _ T52 (mkF m 61 #[.val (.ref a1), .val (.int r3), .val (.int (14 : Int32)), .val (.int c2)] [])
              refine own_go (fun _ k => XS.iloadN X52.here hx rfl (hb hby d4_61) rfl k) ?_
              show own_Go _ _ _ _ T52 (mkF m 62 #[.val (.ref a1), .val (.int r3), .val (.int (14 : Int32)), .val (.int c2)] [(.int (14 : Int32))])
              refine own_go (fun _ k => XS.bipush X52.here hx rfl (hb hby d4_62) k) ?_
              show own_Go _ _ _ _ T52 (mkF m 64 #[.val (.ref a1), .val (.int r3), .val (.int (14 : Int32)), .val (.int c2)] [(.int (28 : Int32)), (.int (14 : Int32))])
              refine own_go (fun _ k => XS.icmpYes X52.here hx rfl (pc0 := 64) (pc' := 77) rfl (hb hby d4_64) rfl (feq (by decide)).2 (by decide) (by decide) k) ?_
              have v3 : r3.toInt = r2.toInt + c2.toInt % 128 * 16384 := by rw [hr3]; exact own_tR2 _ _ (by omega) (by omega)
              show own_Go _ _ _ _ T52 (mkF m 77 #[.val (.ref a1), .val (.int r3), .val (.int (14 : Int32)), .val (.int c2)] [])
              refine own_go (fun _ k => XS.iloadN X52.here hx rfl (hb hby d4_77) rfl k) ?_
              show own_Go _ _ _ _ T52 (mkF m 78 #[.val (.ref a1), .val (.int r3), .val (.int (14 : Int32)), .val (.int c2)] [(.int r3)])
              have f56 := ((((Keep.refl h0 [a1]).wr W19 (Or.inl (List.mem_of_getElem? (i := 0) rfl))).wr W35 (Or.inl (List.mem_of_getElem? (i := 0) rfl))).wr W52 (Or.inl (List.mem_of_getElem? (i := 0) rfl)))
              have f57 := (f53.wr W52)
              have f58 := (f49.other W52 (Or.inr (slot_ne (Or.inr (hw _ (List.mem_of_getElem? (i := 12) rfl))) (Or.inl (hw _ (List.mem_of_getElem? (i := 14) rfl))) (by decide) (t := (.array .byte)) (t' := .int) (by decide) (by decide))))
              have f59 := (f44.other W52 (Or.inr (slot_ne (Or.inr (hw _ (List.mem_of_getElem? (i := 16) rfl))) (Or.inl (hw _ (List.mem_of_getElem? (i := 14) rfl))) (by decide) (t := .int) (t' := .int) (by decide) (by decide))))
              have hsp := own_spB2 ha0 hb0 ha1 hb1 ha2 hd2.1 hh
              have hv : r3 = (own_spec f s0 en).1 := Eq.trans (own_val2 hd0 hd1 hd2 (by omega)) (congrArg Prod.fst hsp).symm
              have hp : p3 = s0 + (own_spec f s0 en).2 := Eq.trans (own_step3 hs1 (by omega) (by omega)) (congrArg (fun z : Int32 × Int32 => s0 + z.2) hsp).symm
              rw [hp] at Fw52
              exact own_retI X52 hx hret hlk (hb hby d4_78) (by decide) (by decide) (by first | exact ⟨by rw [hv], N52, f56, f57, f58, Fw52, f59⟩ | (rw [e52]; exact ⟨by rw [hv], N52, f56, f57, f58, Fw52, f59⟩))
            · skip
              refine own_go (fun _ k => XS.ifYes X52.here hx rfl (pc0 := 58) (pc' := 79) rfl (hb hby d4_58) rfl ((if0 _ _).trans (feq hg2).2) (by decide) (by decide) k) ?_
              have hb2 : 128 ≤ c2.toInt := by
                have hx' : ¬ c2.toInt < 128 := fun q => hg2 ((own_t128 hd2).mpr q)
                omega
              have v3 : r3.toInt = r2.toInt + c2.toInt % 128 * 16384 := by rw [hr3]; exact own_tR2 _ _ (by omega) (by omega)
              show own_Go _ _ _ _ T52 (mkF m 79 #[.val (.ref a1), .val (.int r3), .val (.int (14 : Int32)), .val (.int c2)] [])
              refine own_go (fun _ k => XS.iinc X52.here hx rfl (hb hby d4_79) rfl (l' := #[.val (.ref a1), .val (.int r3), .val (.int ((14 : Int32) + (7 : Int32))), .val (.int c2)]) rfl k) ?_
              show own_Go _ _ _ _ T52 (mkF m 82 #[.val (.ref a1), .val (.int r3), .val (.int ((14 : Int32) + (7 : Int32))), .val (.int c2)] [])
              rw [show ((14 : Int32) + (7 : Int32)) = (21 : Int32) from by decide]
              show own_Go _ _ _ _ T52 (mkF m 82 #[.val (.ref a1), .val (.int r3), .val (.int (21 : Int32)), .val (.int c2)] [])
              refine own_go (fun _ k => XS.goto X52.here hx rfl (pc0 := 82) (pc' := 4) rfl (hb hby d4_82) (by decide) (by decide) k) ?_
              show own_Go _ _ _ _ T52 (mkF m 4 #[.val (.ref a1), .val (.int r3), .val (.int (21 : Int32)), .val (.int c2)] [])
              refine own_go (fun _ k => XS.iloadN X52.here hx rfl (hb hby d4_4) rfl k) ?_
              show own_Go _ _ _ _ T52 (mkF m 5 #[.val (.ref a1), .val (.int r3), .val (.int (21 : Int32)), .val (.int c2)] [(.int (21 : Int32))])
              refine own_go (fun _ k => XS.bipush X52.here hx rfl (hb hby d4_5) k) ?_
              show own_Go _ _ _ _ T52 (mkF m 7 #[.val (.ref a1), .val (.int r3), .val (.int (21 : Int32)), .val (.int c2)] [(.int (32 : Int32)), (.int (21 : Int32))])
              refine own_go (fun _ k => XS.icmpNo X52.here hx rfl (hb hby d4_7) rfl (tlt (by decide)).2.1 k) ?_
              show own_Go _ _ _ _ T52 (mkF m 10 #[.val (.ref a1), .val (.int r3), .val (.int (21 : Int32)), .val (.int c2)] [])
              refine own_go (fun _ k => XS.aloadN X52.here hx rfl (hb hby d4_10) rfl rfl k) ?_
              show own_Go _ _ _ _ T52 (mkF m 11 #[.val (.ref a1), .val (.int r3), .val (.int (21 : Int32)), .val (.int c2)] [(.ref a1)])
              obtain ⟨T60, X60, e60, st60⟩ := getF X52 hx hZ hown (host := "") (Or.inl (hw _ (List.mem_of_getElem? (i := 13) rfl))) Via.refl e52 Fw52 (g := (mkF m 11 #[.val (.ref a1), .val (.int r3), .val (.int (21 : Int32)), .val (.int c2)] [(.ref a1)])) rfl rfl (hb hby d4_11)
              refine own_go (st60) ?_
              show own_Go _ _ _ _ T60 (mkF m 14 #[.val (.ref a1), .val (.int r3), .val (.int (21 : Int32)), .val (.int c2)] [(.int p3)])
              refine own_go (fun _ k => XS.aloadN X60.here hx rfl (hb hby d4_14) rfl rfl k) ?_
              show own_Go _ _ _ _ T60 (mkF m 15 #[.val (.ref a1), .val (.int r3), .val (.int (21 : Int32)), .val (.int c2)] [(.ref a1), (.int p3)])
              have f61 := (f44.other W52 (Or.inr (slot_ne (Or.inr (hw _ (List.mem_of_getElem? (i := 16) rfl))) (Or.inl (hw _ (List.mem_of_getElem? (i := 14) rfl))) (by decide) (t := .int) (t' := .int) (by decide) (by decide))))
              obtain ⟨T62, X62, e62, st62⟩ := getF X60 hx hZ hown (host := "") (Or.inl (hw _ (List.mem_of_getElem? (i := 15) rfl))) Via.refl e60 f61 (g := (mkF m 15 #[.val (.ref a1), .val (.int r3), .val (.int (21 : Int32)), .val (.int c2)] [(.ref a1), (.int p3)])) rfl rfl (hb hby d4_15)
              refine own_go (st62) ?_
              show own_Go _ _ _ _ T62 (mkF m 18 #[.val (.ref a1), .val (.int r3), .val (.int (21 : Int32)), .val (.int c2)] [(.int en), (.int p3)])
              by_cases he3 : p3 = en
              · skip
                refine own_go (fun _ k => XS.icmpNo X62.here hx rfl (hb hby d4_18) rfl (teq he3).2 k) ?_
                have heT := congrArg Int32.toInt he3
                have hz : ¬ (s0 + (3 : Int32)) < en := own_nlt (by rw [own_sk3 hs1 (by omega)] <;> omega)
                show own_Go _ _ _ _ T62 (mkF m 21 #[.val (.ref a1), .val (.int r3), .val (.int (21 : Int32)), .val (.int c2)] [])
                refine own_go (fun _ k => XS.iconst X62.here hx rfl (hb hby d4_21) k) ?_
                show own_Go _ _ _ _ T62 (mkF m 22 #[.val (.ref a1), .val (.int r3), .val (.int (21 : Int32)), .val (.int c2)] [(.int (-1 : Int32))])
                have f63 := ((((Keep.refl h0 [a1]).wr W19 (Or.inl (List.mem_of_getElem? (i := 0) rfl))).wr W35 (Or.inl (List.mem_of_getElem? (i := 0) rfl))).wr W52 (Or.inl (List.mem_of_getElem? (i := 0) rfl)))
                have f64 := (f53.wr W52)
                have f65 := (f49.other W52 (Or.inr (slot_ne (Or.inr (hw _ (List.mem_of_getElem? (i := 12) rfl))) (Or.inl (hw _ (List.mem_of_getElem? (i := 14) rfl))) (by decide) (t := (.array .byte)) (t' := .int) (by decide) (by decide))))
                have hsp := own_spA3 (f := f) ha0 hb0 ha1 hb1 ha2 hb2 hz
                have hv : (-1 : Int32) = (own_spec f s0 en).1 := Eq.trans (rfl) (congrArg Prod.fst hsp).symm
                have hp : p3 = s0 + (own_spec f s0 en).2 := Eq.trans ((he3.trans (own_cancel s0 en).symm)) (congrArg (fun z : Int32 × Int32 => s0 + z.2) hsp).symm
                rw [hp] at Fw52
                exact own_retI X62 hx hret hlk (hb hby d4_22) (by decide) (by decide) (by first | exact ⟨by rw [hv], N52, f63, f64, f65, Fw52, f61⟩ | (rw [e62]; exact ⟨by rw [hv], N52, f63, f64, f65, Fw52, f61⟩))
              · skip
                refine own_go (fun _ k => XS.icmpYes X62.here hx rfl (pc0 := 18) (pc' := 23) rfl (hb hby d4_18) rfl (feq he3).2 (by decide) (by decide) k) ?_
                have hq3 : ¬ p3.toInt = en.toInt := fun q => he3 (Int32.toInt_inj.mp q)
                have hlt3 : p3.toInt < en.toInt := by omega
                have hn3 : ¬ p3 < 0 := own_nlt (by show (0 : Int32).toInt ≤ _; rw [own_e0]; omega)
                show own_Go _ _ _ _ T62 (mkF m 23 #[.val (.ref a1), .val (.int r3), .val (.int (21 : Int32)), .val (.int c2)] [])
                refine own_go (fun _ k => XS.aloadN X62.here hx rfl (hb hby d4_23) rfl rfl k) ?_
                show own_Go _ _ _ _ T62 (mkF m 24 #[.val (.ref a1), .val (.int r3), .val (.int (21 : Int32)), .val (.int c2)] [(.ref a1)])
                have f66 := (f49.other W52 (Or.inr (slot_ne (Or.inr (hw _ (List.mem_of_getElem? (i := 12) rfl))) (Or.inl (hw _ (List.mem_of_getElem? (i := 14) rfl))) (by decide) (t := (.array .byte)) (t' := .int) (by decide) (by decide))))
                obtain ⟨T67, X67, e67, st67⟩ := getF X62 hx hZ hown (host := "") (Or.inl (hw _ (List.mem_of_getElem? (i := 11) rfl))) Via.refl e62 f66 (g := (mkF m 24 #[.val (.ref a1), .val (.int r3), .val (.int (21 : Int32)), .val (.int c2)] [(.ref a1)])) rfl rfl (hb hby d4_24)
                refine own_go (st67) ?_
                show own_Go _ _ _ _ T67 (mkF m 27 #[.val (.ref a1), .val (.int r3), .val (.int (21 : Int32)), .val (.int c2)] [(.ref a2)])
                refine own_go (fun _ k => XS.aloadN X67.here hx rfl (hb hby d4_27) rfl rfl k) ?_
                show own_Go _ _ _ _ T67 (mkF m 28 #[.val (.ref a1), .val (.int r3), .val (.int (21 : Int32)), .val (.int c2)] [(.ref a1), (.ref a2)])
                refine own_go (fun _ k => XS.dup X67.here hx rfl (hb hby d4_28) rfl rfl k) ?_
                show own_Go _ _ _ _ T67 (mkF m 29 #[.val (.ref a1), .val (.int r3), .val (.int (21 : Int32)), .val (.int c2)] [(.ref a1), (.ref a1), (.ref a2)])
                obtain ⟨T68, X68, e68, st68⟩ := getF X67 hx hZ hown (host := "") (Or.inl (hw _ (List.mem_of_getElem? (i := 13) rfl))) Via.refl e67 Fw52 (g := (mkF m 29 #[.val (.ref a1), .val (.int r3), .val (.int (21 : Int32)), .val (.int c2)] [(.ref a1), (.ref a1), (.ref a2)])) rfl rfl (hb hby d4_29)
                refine own_go (st68) ?_
                show own_Go _ _ _ _ T68 (mkF m 32 #[.val (.ref a1), .val (.int r3), .val (.int (21 : Int32)), .val (.int c2)] [(.int p3), (.ref a1), (.ref a2)])
                refine own_go (fun _ k => XS.dupX1 X68.here hx rfl (hb hby d4_32) rfl rfl rfl k) ?_
                show own_Go _ _ _ _ T68 (mkF m 33 #[.val (.ref a1), .val (.int r3), .val (.int (21 : Int32)), .val (.int c2)] [(.int p3), (.ref a1), (.int p3), (.ref a2)])
                refine own_go (fun _ k => XS.iconst X68.here hx rfl (hb hby d4_33) k) ?_
                show own_Go _ _ _ _ T68 (mkF m 34 #[.val (.ref a1), .val (.int r3), .val (.int (21 : Int32)), .val (.int c2)] [(.int (1 : Int32)), (.int p3), (.ref a1), (.int p3), (.ref a2)])
                refine own_go (fun _ k => XS.iadd X68.here hx rfl (hb hby d4_34) rfl k) ?_
                show own_Go _ _ _ _ T68 (mkF m 35 #[.val (.ref a1), .val (.int r3), .val (.int (21 : Int32)), .val (.int c2)] [(.int (p3 + (1 : Int32))), (.ref a1), (.int p3), (.ref a2)])
                obtain ⟨p4, hp4⟩ : ∃ z : Int32, z = (p3 + (1 : Int32)) := ⟨_, rfl⟩
                rw [← hp4]
                show own_Go _ _ _ _ T68 (mkF m 35 #[.val (.ref a1), .val (.int r3), .val (.int (21 : Int32)), .val (.int c2)] [(.int p4), (.ref a1), (.int p3), (.ref a2)])
                have f70 := (f53.wr W52)
                obtain ⟨T69, h69, X69, e69, W69, st69⟩ := putF X68 hx hZ hown (host := "") (Or.inl (hw _ (List.mem_of_getElem? (i := 13) rfl))) Via.refl e68 Fw52 f70 (Or.inl (hw _ (List.mem_of_getElem? (i := 14) rfl))) (hw _ (List.mem_of_getElem? (i := 3) rfl)) (ty := .int) (by decide) rfl rfl (g := (mkF m 35 #[.val (.ref a1), .val (.int r3), .val (.int (21 : Int32)), .val (.int c2)] [(.int p4), (.ref a1), (.int p3), (.ref a2)])) rfl rfl (hb hby d4_35)
                refine own_go (st69) ?_
                have Fw69 := Fw52.same W69
                have N69 := Fr.snoc X69 N52 g_a1
                show own_Go _ _ _ _ T69 (mkF m 38 #[.val (.ref a1), .val (.int r3), .val (.int (21 : Int32)), .val (.int c2)] [(.int p3), (.ref a2)])
                have f72 := (V54.other W69 ne_1_2)
                obtain ⟨cl71, Ar71, q71, S71, M71, H71, G71⟩ := f72
                have V71 : Arv Z h69 a2 kk .byte nn _ _ := ⟨cl71, Ar71, q71, S71, M71, H71, G71⟩
                have hin71 : ¬ (p3 < 0 ∨ cl71.slots.size ≤ (p3).toNatClampNeg) := inb_of S71 ⟨hn3, own_lt (by omega)⟩
                have hat71 : cl71.slots[(p3).toNatClampNeg]? = some (.int (f (p3).toNatClampNeg)) := H71.at hin71 (hf _)
                refine own_go (X69.baloadBytes hx (j := p3) (v := (.int (f (p3).toNatClampNeg))) (by rw [e69]; exact Ar71.1) (State.isArrayOf_alike hZ.alike Ar71.2.1) Ar71.2.2 hin71 hat71 (g := (mkF m 38 #[.val (.ref a1), .val (.int r3), .val (.int (21 : Int32)), .val (.int c2)] [(.int p3), (.ref a2)])) rfl rfl (hb hby d4_38)) ?_
                show own_Go _ _ _ _ T69 (mkF m 39 #[.val (.ref a1), .val (.int r3), .val (.int (21 : Int32)), .val (.int c2)] [(.int (f (p3).toNatClampNeg))])
                refine own_go (fun _ k => XS.sipush X69.here hx rfl (hb hby d4_39) k) ?_
                show own_Go _ _ _ _ T69 (mkF m 42 #[.val (.ref a1), .val (.int r3), .val (.int (21 : Int32)), .val (.int c2)] [(.int (255 : Int32)), (.int (f (p3).toNatClampNeg))])
                refine own_go (fun _ k => XS.iand X69.here hx rfl (hb hby d4_42) rfl k) ?_
                show own_Go _ _ _ _ T69 (mkF m 43 #[.val (.ref a1), .val (.int r3), .val (.int (21 : Int32)), .val (.int c2)] [(.int ((f (p3).toNatClampNeg) &&& (255 : Int32)))])
                obtain ⟨c3, hc3⟩ : ∃ z : Int32, z = ((f (p3).toNatClampNeg) &&& (255 : Int32)) := ⟨_, rfl⟩
                rw [← hc3]
                have ha3 : own_a f (s0 + (3 : Int32)) en = c3 := own_tA (by rw [own_sk3 hs1 (by omega)] <;> omega) hlt3 hc3
                have hd3 := own_tC hc3
                have u4 : p4.toInt = s0.toInt + 4 := by rw [hp4, own_inc _ _ (own_lt hlt3)] <;> omega
                show own_Go _ _ _ _ T69 (mkF m 43 #[.val (.ref a1), .val (.int r3), .val (.int (21 : Int32)), .val (.int c2)] [(.int c3)])
                refine own_go (fun _ k => XS.istoreN X69.here hx rfl (hb hby d4_43) rfl (l' := #[.val (.ref a1), .val (.int r3), .val (.int (21 : Int32)), .val (.int c3)]) rfl k) ?_
                show own_Go _ _ _ _ T69 (mkF m 44 #[.val (.ref a1), .val (.int r3), .val (.int (21 : Int32)), .val (.int c3)] [])
                refine own_go (fun _ k => XS.iloadN X69.here hx rfl (hb hby d4_44) rfl k) ?_
                show own_Go _ _ _ _ T69 (mkF m 45 #[.val (.ref a1), .val (.int r3), .val (.int (21 : Int32)), .val (.int c3)] [(.int r3)])
                refine own_go (fun _ k => XS.iloadN X69.here hx rfl (hb hby d4_45) rfl k) ?_
                show own_Go _ _ _ _ T69 (mkF m 46 #[.val (.ref a1), .val (.int r3), .val (.int (21 : Int32)), .val (.int c3)] [(.int c3), (.int r3)])
                refine own_go (fun _ k => XS.bipush X69.here hx rfl (hb hby d4_46) k) ?_
                show own_Go _ _ _ _ T69 (mkF m 48 #[.val (.ref a1), .val (.int r3), .val (.int (21 : Int32)), .val (.int c3)] [(.int (127 : Int32)), (.int c3), (.int r3)])
                refine own_go (fun _ k => XS.iand X69.here hx rfl (hb hby d4_48) rfl k) ?_
                show own_Go _ _ _ _ T69 (mkF m 49 #[.val (.ref a1), .val (.int r3), .val (.int (21 : Int32)), .val (.int c3)] [(.int (c3 &&& (127 : Int32))), (.int r3)])
                refine own_go (fun _ k => XS.iloadN X69.here hx rfl (hb hby d4_49) rfl k) ?_
                show own_Go _ _ _ _ T69 (mkF m 50 #[.val (.ref a1), .val (.int r3), .val (.int (21 : Int32)), .val (.int c3)] [(.int (21 : Int32)), (.int (c3 &&& (127 : Int32))), (.int r3)])
                refine own_go (fun _ k => XS.ishl X69.here hx rfl (hb hby d4_50) rfl k) ?_
                show own_Go _ _ _ _ T69 (mkF m 51 #[.val (.ref a1), .val (.int r3), .val (.int (21 : Int32)), .val (.int c3)] [(.int ((c3 &&& (127 : Int32)) <<< ((21 : Int32) &&& 31))), (.int r3)])
                refine own_go (fun _ k => XS.ior X69.here hx rfl (hb hby d4_51) rfl k) ?_
                show own_Go _ _ _ _ T69 (mkF m 52 #[.val (.ref a1), .val (.int r3), .val (.int (21 : Int32)), .val (.int c3)] [(.int (r3 ||| ((c3 &&& (127 : Int32)) <<< ((21 : Int32) &&& 31))))])
                obtain ⟨r4, hr4⟩ : ∃ z : Int32, z = (r3 ||| ((c3 &&& (127 : Int32)) <<< ((21 : Int32) &&& 31))) := ⟨_, rfl⟩
                rw [← hr4]
                show own_Go _ _ _ _ T69 (mkF m 52 #[.val (.ref a1), .val (.int r3), .val (.int (21 : Int32)), .val (.int c3)] [(.int r4)])
                refine own_go (fun _ k => XS.istoreN X69.here hx rfl (hb hby d4_52) rfl (l' := #[.val (.ref a1), .val (.int r4), .val (.int (21 : Int32)), .val (.int c3)]) rfl k) ?_
                show own_Go _ _ _ _ T69 (mkF m 53 #[.val (.ref a1), .val (.int r4), .val (.int (21 : Int32)), .val (.int c3)] [])
                refine own_go (fun _ k => XS.iloadN X69.here hx rfl (hb hby d4_53) rfl k) ?_
                show own_Go _ _ _ _ T69 (mkF m 54 #[.val (.ref a1), .val (.int r4), .val (.int (21 : Int32)), .val (.int c3)] [(.int c3)])
                refine own_go (fun _ k => XS.sipush X69.here hx rfl (hb hby d4_54) k) ?_
                show own_Go _ _ _ _ T69 (mkF m 57 #[.val (.ref a1), .val (.int r4), .val (.int (21 : Int32)), .val (.int c3)] [(.int (128 : Int32)), (.int c3)])
                refine own_go (fun _ k => XS.iand X69.here hx rfl (hb hby d4_57) rfl k) ?_
                show own_Go _ _ _ _ T69 (mkF m 58 #[.val (.ref a1), .val (.int r4), .val (.int (21 : Int32)), .val (.int c3)] [(.int (c3 &&& (128 : Int32)))])
                by_cases hg3 : (c3 &&& (128 : Int32)) = (0 : Int32)
                · skip
                  refine own_go (fun _ k => XS.ifNo X69.here hx rfl (hb hby d4_58) rfl ((if0 _ _).trans (teq hg3).2) k) ?_
                  have hh := (own_t128 hd3).mp hg3
                  show own_Go _ _ _ _ T69 (mkF m 61 #[.val (.ref a1), .val (.int r4), .val (.int (21 : Int32)), .val (.int c3)] [])
                  refine own_go (fun _ k => XS.iloadN X69.here hx rfl (hb hby d4_61) rfl k) ?_
                  show own_Go _ _ _ _ T69 (mkF m 62 #[.val (.ref a1), .val (.int r4), .val (.int (21 : Int32)), .val (.int c3)] [(.int (21 : Int32))])
                  refine own_go (fun _ k => XS.bipush X69.here hx rfl (hb hby d4_62) k) ?_
                  show own_Go _ _ _ _ T69 (mkF m 64 #[.val (.ref a1), .val (.int r4), .val (.int (21 : Int32)), .val (.int c3)] [(.int (28 : Int32)), (.int (21 : Int32))])
                  refine own_go (fun _ k => XS.icmpYes X69.here hx rfl (pc0 := 64) (pc' := 77) rfl (hb hby d4_64) rfl (feq (by decide)).2 (by decide) (by decide) k) ?_
                  have v4 : r4.toInt = r3.toInt + c3.toInt % 128 * 2097152 := by rw [hr4]; exact own_tR3 _ _ (by omega) (by omega)
                  show own_Go _ _ _ _ T69 (mkF m 77 #[.val (.ref a1), .val (.int r4), .val (.int (21 : Int32)), .val (.int c3)] [])
                  refine own_go (fun _ k => XS.iloadN X69.here hx rfl (hb hby d4_77) rfl k) ?_
                  show own_Go _ _ _ _ T69 (mkF m 78 #[.val (.ref a1), .val (.int r4), .val (.int (21 : Int32)), .val (.int c3)] [(.int r4)])
                  have f73 := (((((Keep.refl h0 [a1]).wr W19 (Or.inl (List.mem_of_getElem? (i := 0) rfl))).wr W35 (Or.inl (List.mem_of_getElem? (i := 0) rfl))).wr W52 (Or.inl (List.mem_of_getElem? (i := 0) rfl))).wr W69 (Or.inl (List.mem_of_getElem? (i := 0) rfl)))
                  have f74 := (f70.wr W69)
                  have f75 := (f66.other W69 (Or.inr (slot_ne (Or.inr (hw _ (List.mem_of_getElem? (i := 12) rfl))) (Or.inl (hw _ (List.mem_of_getElem? (i := 14) rfl))) (by decide) (t := (.array .byte)) (t' := .int) (by decide) (by decide))))
                  have f76 := (f61.other W69 (Or.inr (slot_ne (Or.inr (hw _ (List.mem_of_getElem? (i := 16) rfl))) (Or.inl (hw _ (List.mem_of_getElem? (i := 14) rfl))) (by decide) (t := .int) (t' := .int) (by decide) (by decide))))
                  have hsp := own_spB3 ha0 hb0 ha1 hb1 ha2 hb2 ha3 hd3.1 hh
                  have hv : r4 = (own_spec f s0 en).1 := Eq.trans (own_val3 hd0 hd1 hd2 hd3 (by omega)) (congrArg Prod.fst hsp).symm
                  have hp : p4 = s0 + (own_spec f s0 en).2 := Eq.trans (own_step4 hs1 (by omega) (by omega)) (congrArg (fun z : Int32 × Int32 => s0 + z.2) hsp).symm
                  rw [hp] at Fw69
                  exact own_retI X69 hx hret hlk (hb hby d4_78) (by decide) (by decide) (by first | exact ⟨by rw [hv], N69, f73, f74, f75, Fw69, f76⟩ | (rw [e69]; exact ⟨by rw [hv], N69, f73, f74, f75, Fw69, f76⟩))
                · skip
                  refine own_go (fun _ k => XS.ifYes X69.here hx rfl (pc0 := 58) (pc' := 79) rfl (hb hby d4_58) rfl ((if0 _ _).trans (feq hg3).2) (by decide) (by decide) k) ?_
                  have hb3 : 128 ≤ c3.toInt := by
                    have hx' : ¬ c3.toInt < 128 := fun q => hg3 ((own_t128 hd3).mpr q)
                    omega
                  have v4 : r4.toInt = r3.toInt + c3.toInt % 128 * 2097152 := by rw [hr4]; exact own_tR3 _ _ (by omega) (by omega)
                  show own_Go _ _ _ _ T69 (mkF m 79 #[.val (.ref a1), .val (.int r4), .val (.int (21 : Int32)), .val (.int c3)] [])
                  refine own_go (fun _ k => XS.iinc X69.here hx rfl (hb hby d4_79) rfl (l' := #[.val (.ref a1), .val (.int r4), .val (.int ((21 : Int32) + (7 : Int32))), .val (.int c3)]) rfl k) ?_
                  show own_Go _ _ _ _ T69 (mkF m 82 #[.val (.ref a1), .val (.int r4), .val (.int ((21 : Int32) + (7 : Int32))), .val (.int c3)] [])
                  rw [show ((21 : Int32) + (7 : Int32)) = (28 : Int32) from by decide]
                  show own_Go _ _ _ _ T69 (mkF m 82 #[.val (.ref a1), .val (.int r4), .val (.int (28 : Int32)), .val (.int c3)] [])
                  refine own_go (fun _ k => XS.goto X69.here hx rfl (pc0 := 82) (pc' := 4) rfl (hb hby d4_82) (by decide) (by decide) k) ?_
                  show own_Go _ _ _ _ T69 (mkF m 4 #[.val (.ref a1), .val (.int r4), .val (.int (28 : Int32)), .val (.int c3)] [])
                  refine own_go (fun _ k => XS.iloadN X69.here hx rfl (hb hby d4_4) rfl k) ?_
                  show own_Go _ _ _ _ T69 (mkF m 5 #[.val (.ref a1), .val (.int r4), .val (.int (28 : Int32)), .val (.int c3)] [(.int (28 : Int32))])
                  refine own_go (fun _ k => XS.bipush X69.here hx rfl (hb hby d4_5) k) ?_
                  show own_Go _ _ _ _ T69 (mkF m 7 #[.val (.ref a1), .val (.int r4), .val (.int (28 : Int32)), .val (.int c3)] [(.int (32 : Int32)), (.int (28 : Int32))])
                  refine own_go (fun _ k => XS.icmpNo X69.here hx rfl (hb hby d4_7) rfl (tlt (by decide)).2.1 k) ?_
                  show own_Go _ _ _ _ T69 (mkF m 10 #[.val (.ref a1), .val (.int r4), .val (.int (28 : Int32)), .val (.int c3)] [])
                  refine own_go (fun _ k => XS.aloadN X69.here hx rfl (hb hby d4_10) rfl rfl k) ?_
                  show own_Go _ _ _ _ T69 (mkF m 11 #[.val (.ref a1), .val (.int r4), .val (.int (28 : Int32)), .val (.int c3)] [(.ref a1)])
                  obtain ⟨T77, X77, e77, st77⟩ := getF X69 hx hZ hown (host := "") (Or.inl (hw _ (List.mem_of_getElem? (i := 13) rfl))) Via.refl e69 Fw69 (g := (mkF m 11 #[.val (.ref a1), .val (.int r4), .val (.int (28 : Int32)), .val (.int c3)] [(.ref a1)])) rfl rfl (hb hby d4_11)
                  refine own_go (st77) ?_
                  show own_Go _ _ _ _ T77 (mkF m 14 #[.val (.ref a1), .val (.int r4), .val (.int (28 : Int32)), .val (.int c3)] [(.int p4)])
                  refine own_go (fun _ k => XS.aloadN X77.here hx rfl (hb hby d4_14) rfl rfl k) ?_
                  show own_Go _ _ _ _ T77 (mkF m 15 #[.val (.ref a1), .val (.int r4), .val (.int (28 : Int32)), .val (.int c3)] [(.ref a1), (.int p4)])
                  have f78 := (f61.other W69 (Or.inr (slot_ne (Or.inr (hw _ (List.mem_of_getElem? (i := 16) rfl))) (Or.inl (hw _ (List.mem_of_getElem? (i := 14) rfl))) (by decide) (t := .int) (t' := .int) (by decide) (by decide))))
                  obtain ⟨T79, X79, e79, st79⟩ := getF X77 hx hZ hown (host := "") (Or.inl (hw _ (List.mem_of_getElem? (i := 15) rfl))) Via.refl e77 f78 (g := (mkF m 15 #[.val (.ref a1), .val (.int r4), .val (.int (28 : Int32)), .val (.int c3)] [(.ref a1), (.int p4)])) rfl rfl (hb hby d4_15)
                  refine own_go (st79) ?_
                  show own_Go _ _ _ _ T79 (mkF m 18 #[.val (.ref a1), .val (.int r4), .val (.int (28 : Int32)), .val (.int c3)] [(.int en), (.int p4)])
                  by_cases he4 : p4 = en
                  · skip
                    refine own_go (fun _ k => XS.icmpNo X79.here hx rfl (hb hby d4_18) rfl (teq he4).2 k) ?_
                    have heT := congrArg Int32.toInt he4
                    have hz : ¬ (s0 + (4 : Int32)) < en := own_nlt (by rw [own_sk4 hs1 (by omega)] <;> omega)
                    show own_Go _ _ _ _ T79 (mkF m 21 #[.val (.ref a1), .val (.int r4), .val (.int (28 : Int32)), .val (.int c3)] [])
                    refine own_go (fun _ k => XS.iconst X79.here hx rfl (hb hby d4_21) k) ?_
                    show own_Go _ _ _ _ T79 (mkF m 22 #[.val (.ref a1), .val (.int r4), .val (.int (28 : Int32)), .val (.int c3)] [(.int (-1 : Int32))])
                    have f80 := (((((Keep.refl h0 [a1]).wr W19 (Or.inl (List.mem_of_getElem? (i := 0) rfl))).wr W35 (Or.inl (List.mem_of_getElem? (i := 0) rfl))).wr W52 (Or.inl (List.mem_of_getElem? (i := 0) rfl))).wr W69 (Or.inl (List.mem_of_getElem? (i := 0) rfl)))
                    have f81 := (f70.wr W69)
                    have f82 := (f66.other W69 (Or.inr (slot_ne (Or.inr (hw _ (List.mem_of_getElem? (i := 12) rfl))) (Or.inl (hw _ (List.mem_of_getElem? (i := 14) rfl))) (by decide) (t := (.array .byte)) (t' := .int) (by decide) (by decide))))
                    have hsp := own_spA4 (f := f) ha0 hb0 ha1 hb1 ha2 hb2 ha3 hb3 hz
                    have hv : (-1 : Int32) = (own_spec f s0 en).1 := Eq.trans (rfl) (congrArg Prod.fst hsp).symm
                    have hp : p4 = s0 + (own_spec f s0 en).2 := Eq.trans ((he4.trans (own_cancel s0 en).symm)) (congrArg (fun z : Int32 × Int32 => s0 + z.2) hsp).symm
                    rw [hp] at Fw69
                    exact own_retI X79 hx hret hlk (hb hby d4_22) (by decide) (by decide) (by first | exact ⟨by rw [hv], N69, f80, f81, f82, Fw69, f78⟩ | (rw [e79]; exact ⟨by rw [hv], N69, f80, f81, f82, Fw69, f78⟩))
                  · skip
                    refine own_go (fun _ k => XS.icmpYes X79.here hx rfl (pc0 := 18) (pc' := 23) rfl (hb hby d4_18) rfl (feq he4).2 (by decide) (by decide) k) ?_
                    have hq4 : ¬ p4.toInt = en.toInt := fun q => he4 (Int32.toInt_inj.mp q)
                    have hlt4 : p4.toInt < en.toInt := by omega
                    have hn4 : ¬ p4 < 0 := own_nlt (by show (0 : Int32).toInt ≤ _; rw [own_e0]; omega)
                    show own_Go _ _ _ _ T79 (mkF m 23 #[.val (.ref a1), .val (.int r4), .val (.int (28 : Int32)), .val (.int c3)] [])
                    refine own_go (fun _ k => XS.aloadN X79.here hx rfl (hb hby d4_23) rfl rfl k) ?_
                    show own_Go _ _ _ _ T79 (mkF m 24 #[.val (.ref a1), .val (.int r4), .val (.int (28 : Int32)), .val (.int c3)] [(.ref a1)])
                    have f83 := (f66.other W69 (Or.inr (slot_ne (Or.inr (hw _ (List.mem_of_getElem? (i := 12) rfl))) (Or.inl (hw _ (List.mem_of_getElem? (i := 14) rfl))) (by decide) (t := (.array .byte)) (t' := .int) (by decide) (by decide))))
                    obtain ⟨T84, X84, e84, st84⟩ := getF X79 hx hZ hown (host := "") (Or.inl (hw _ (List.mem_of_getElem? (i := 11) rfl))) Via.refl e79 f83 (g := (mkF m 24 #[.val (.ref a1), .val (.int r4), .val (.int (28 : Int32)), .val (.int c3)] [(.ref a1)])) rfl rfl (hb hby d4_24)
                    refine own_go (st84) ?_
                    show own_Go _ _ _ _ T84 (mkF m 27 #[.val (.ref a1), .val (.int r4), .val (.int (28 : Int32)), .val (.int c3)] [(.ref a2)])
                    refine own_go (fun _ k => XS.aloadN X84.here hx rfl (hb hby d4_27) rfl rfl k) ?_
                    show own_Go _ _ _ _ T84 (mkF m 28 #[.val (.ref a1), .val (.int r4), .val (.int (28 : Int32)), .val (.int c3)] [(.ref a1), (.ref a2)])
                    refine own_go (fun _ k => XS.dup X84.here hx rfl (hb hby d4_28) rfl rfl k) ?_
                    show own_Go _ _ _ _ T84 (mkF m 29 #[.val (.ref a1), .val (.int r4), .val (.int (28 : Int32)), .val (.int c3)] [(.ref a1), (.ref a1), (.ref a2)])
                    obtain ⟨T85, X85, e85, st85⟩ := getF X84 hx hZ hown (host := "") (Or.inl (hw _ (List.mem_of_getElem? (i := 13) rfl))) Via.refl e84 Fw69 (g := (mkF m 29 #[.val (.ref a1), .val (.int r4), .val (.int (28 : Int32)), .val (.int c3)] [(.ref a1), (.ref a1), (.ref a2)])) rfl rfl (hb hby d4_29)
                    refine own_go (st85) ?_
                    show own_Go _ _ _ _ T85 (mkF m 32 #[.val (.ref a1), .val (.int r4), .val (.int (28 : Int32)), .val (.int c3)] [(.int p4), (.ref a1), (.ref a2)])
                    refine own_go (fun _ k => XS.dupX1 X85.here hx rfl (hb hby d4_32) rfl rfl rfl k) ?_
                    show own_Go _ _ _ _ T85 (mkF m 33 #[.val (.ref a1), .val (.int r4), .val (.int (28 : Int32)), .val (.int c3)] [(.int p4), (.ref a1), (.int p4), (.ref a2)])
                    refine own_go (fun _ k => XS.iconst X85.here hx rfl (hb hby d4_33) k) ?_
                    show own_Go _ _ _ _ T85 (mkF m 34 #[.val (.ref a1), .val (.int r4), .val (.int (28 : Int32)), .val (.int c3)] [(.int (1 : Int32)), (.int p4), (.ref a1), (.int p4), (.ref a2)])
                    refine own_go (fun _ k => XS.iadd X85.here hx rfl (hb hby d4_34) rfl k) ?_
                    show own_Go _ _ _ _ T85 (mkF m 35 #[.val (.ref a1), .val (.int r4), .val (.int (28 : Int32)), .val (.int c3)] [(.int (p4 + (1 : Int32))), (.ref a1), (.int p4), (.ref a2)])
                    obtain ⟨p5, hp5⟩ : ∃ z : Int32, z = (p4 + (1 : Int32)) := ⟨_, rfl⟩
                    rw [← hp5]
                    show own_Go _ _ _ _ T85 (mkF m 35 #[.val (.ref a1), .val (.int r4), .val (.int (28 : Int32)), .val (.int c3)] [(.int p5), (.ref a1), (.int p4), (.ref a2)])
                    have f87 := (f70.wr W69)
                    obtain ⟨T86, h86, X86, e86, W86, st86⟩ := putF X85 hx hZ hown (host := "") (Or.inl (hw _ (List.mem_of_getElem? (i := 13) rfl))) Via.refl e85 Fw69 f87 (Or.inl (hw _ (List.mem_of_getElem? (i := 14) rfl))) (hw _ (List.mem_of_getElem? (i := 3) rfl)) (ty := .int) (by decide) rfl rfl (g := (mkF m 35 #[.val (.ref a1), .val (.int r4), .val (.int (28 : Int32)), .val (.int c3)] [(.int p5), (.ref a1), (.int p4), (.ref a2)])) rfl rfl (hb hby d4_35)
                    refine own_go (st86) ?_
                    have Fw86 := Fw69.same W86
                    have N86 := Fr.snoc X86 N69 g_a1
                    show own_Go _ _ _ _ T86 (mkF m 38 #[.val (.ref a1), .val (.int r4), .val (.int (28 : Int32)), .val (.int c3)] [(.int p4), (.ref a2)])
                    have f89 := (V71.other W86 ne_1_2)
                    obtain ⟨cl88, Ar88, q88, S88, M88, H88, G88⟩ := f89
                    have V88 : Arv Z h86 a2 kk .byte nn _ _ := ⟨cl88, Ar88, q88, S88, M88, H88, G88⟩
                    have hin88 : ¬ (p4 < 0 ∨ cl88.slots.size ≤ (p4).toNatClampNeg) := inb_of S88 ⟨hn4, own_lt (by omega)⟩
                    have hat88 : cl88.slots[(p4).toNatClampNeg]? = some (.int (f (p4).toNatClampNeg)) := H88.at hin88 (hf _)
                    refine own_go (X86.baloadBytes hx (j := p4) (v := (.int (f (p4).toNatClampNeg))) (by rw [e86]; exact Ar88.1) (State.isArrayOf_alike hZ.alike Ar88.2.1) Ar88.2.2 hin88 hat88 (g := (mkF m 38 #[.val (.ref a1), .val (.int r4), .val (.int (28 : Int32)), .val (.int c3)] [(.int p4), (.ref a2)])) rfl rfl (hb hby d4_38)) ?_
                    show own_Go _ _ _ _ T86 (mkF m 39 #[.val (.ref a1), .val (.int r4), .val (.int (28 : Int32)), .val (.int c3)] [(.int (f (p4).toNatClampNeg))])
                    refine own_go (fun _ k => XS.sipush X86.here hx rfl (hb hby d4_39) k) ?_
                    show own_Go _ _ _ _ T86 (mkF m 42 #[.val (.ref a1), .val (.int r4), .val (.int (28 : Int32)), .val (.int c3)] [(.int (255 : Int32)), (.int (f (p4).toNatClampNeg))])
                    refine own_go (fun _ k => XS.iand X86.here hx rfl (hb hby d4_42) rfl k) ?_
                    show own_Go _ _ _ _ T86 (mkF m 43 #[.val (.ref a1), .val (.int r4), .val (.int (28 : Int32)), .val (.int c3)] [(.int ((f (p4).toNatClampNeg) &&& (255 : Int32)))])
                    obtain ⟨c4, hc4⟩ : ∃ z : Int32, z = ((f (p4).toNatClampNeg) &&& (255 : Int32)) := ⟨_, rfl⟩
                    rw [← hc4]
                    have ha4 : own_a f (s0 + (4 : Int32)) en = c4 := own_tA (by rw [own_sk4 hs1 (by omega)] <;> omega) hlt4 hc4
                    have hd4 := own_tC hc4
                    have u5 : p5.toInt = s0.toInt + 5 := by rw [hp5, own_inc _ _ (own_lt hlt4)] <;> omega
                    show own_Go _ _ _ _ T86 (mkF m 43 #[.val (.ref a1), .val (.int r4), .val (.int (28 : Int32)), .val (.int c3)] [(.int c4)])
                    refine own_go (fun _ k => XS.istoreN X86.here hx rfl (hb hby d4_43) rfl (l' := #[.val (.ref a1), .val (.int r4), .val (.int (28 : Int32)), .val (.int c4)]) rfl k) ?_
                    show own_Go _ _ _ _ T86 (mkF m 44 #[.val (.ref a1), .val (.int r4), .val (.int (28 : Int32)), .val (.int c4)] [])
                    refine own_go (fun _ k => XS.iloadN X86.here hx rfl (hb hby d4_44) rfl k) ?_
                    show own_Go _ _ _ _ T86 (mkF m 45 #[.val (.ref a1), .val (.int r4), .val (.int (28 : Int32)), .val (.int c4)] [(.int r4)])
                    refine own_go (fun _ k => XS.iloadN X86.here hx rfl (hb hby d4_45) rfl k) ?_
                    show own_Go _ _ _ _ T86 (mkF m 46 #[.val (.ref a1), .val (.int r4), .val (.int (28 : Int32)), .val (.int c4)] [(.int c4), (.int r4)])
                    refine own_go (fun _ k => XS.bipush X86.here hx rfl (hb hby d4_46) k) ?_
                    show own_Go _ _ _ _ T86 (mkF m 48 #[.val (.ref a1), .val (.int r4), .val (.int (28 : Int32)), .val (.int c4)] [(.int (127 : Int32)), (.int c4), (.int r4)])
                    refine own_go (fun _ k => XS.iand X86.here hx rfl (hb hby d4_48) rfl k) ?_
                    show own_Go _ _ _ _ T86 (mkF m 49 #[.val (.ref a1), .val (.int r4), .val (.int (28 : Int32)), .val (.int c4)] [(.int (c4 &&& (127 : Int32))), (.int r4)])
                    refine own_go (fun _ k => XS.iloadN X86.here hx rfl (hb hby d4_49) rfl k) ?_
                    show own_Go _ _ _ _ T86 (mkF m 50 #[.val (.ref a1), .val (.int r4), .val (.int (28 : Int32)), .val (.int c4)] [(.int (28 : Int32)), (.int (c4 &&& (127 : Int32))), (.int r4)])
                    refine own_go (fun _ k => XS.ishl X86.here hx rfl (hb hby d4_50) rfl k) ?_
                    show own_Go _ _ _ _ T86 (mkF m 51 #[.val (.ref a1), .val (.int r4), .val (.int (28 : Int32)), .val (.int c4)] [(.int ((c4 &&& (127 : Int32)) <<< ((28 : Int32) &&& 31))), (.int r4)])
                    refine own_go (fun _ k => XS.ior X86.here hx rfl (hb hby d4_51) rfl k) ?_
                    show own_Go _ _ _ _ T86 (mkF m 52 #[.val (.ref a1), .val (.int r4), .val (.int (28 : Int32)), .val (.int c4)] [(.int (r4 ||| ((c4 &&& (127 : Int32)) <<< ((28 : Int32) &&& 31))))])
                    obtain ⟨r5, hr5⟩ : ∃ z : Int32, z = (r4 ||| ((c4 &&& (127 : Int32)) <<< ((28 : Int32) &&& 31))) := ⟨_, rfl⟩
                    rw [← hr5]
                    show own_Go _ _ _ _ T86 (mkF m 52 #[.val (.ref a1), .val (.int r4), .val (.int (28 : Int32)), .val (.int c4)] [(.int r5)])
                    refine own_go (fun _ k => XS.istoreN X86.here hx rfl (hb hby d4_52) rfl (l' := #[.val (.ref a1), .val (.int r5), .val (.int (28 : Int32)), .val (.int c4)]) rfl k) ?_
                    show own_Go _ _ _ _ T86 (mkF m 53 #[.val (.ref a1), .val (.int r5), .val (.int (28 : Int32)), .val (.int c4)] [])
                    refine own_go (fun _ k => XS.iloadN X86.here hx rfl (hb hby d4_53) rfl k) ?_
                    show own_Go _ _ _ _ T86 (mkF m 54 #[.val (.ref a1), .val (.int r5), .val (.int (28 : Int32)), .val (.int c4)] [(.int c4)])
                    refine own_go (fun _ k => XS.sipush X86.here hx rfl (hb hby d4_54) k) ?_
                    show own_Go _ _ _ _ T86 (mkF m 57 #[.val (.ref a1), .val (.int r5), .val (.int (28 : Int32)), .val (.int c4)] [(.int (128 : Int32)), (.int c4)])
                    refine own_go (fun _ k => XS.iand X86.here hx rfl (hb hby d4_57) rfl k) ?_
                    show own_Go _ _ _ _ T86 (mkF m 58 #[.val (.ref a1), .val (.int r5), .val (.int (28 : Int32)), .val (.int c4)] [(.int (c4 &&& (128 : Int32)))])
                    by_cases hg4 : (c4 &&& (128 : Int32)) = (0 : Int32)
                    · skip
                      refine own_go (fun _ k => XS.ifNo X86.here hx rfl (hb hby d4_58) rfl ((if0 _ _).trans (teq hg4).2) k) ?_
                      have hh := (own_t128 hd4).mp hg4
                      show own_Go _ _ _ _ T86 (mkF m 61 #[.val (.ref a1), .val (.int r5), .val (.int (28 : Int32)), .val (.int c4)] [])
                      refine own_go (fun _ k => XS.iloadN X86.here hx rfl (hb hby d4_61) rfl k) ?_
                      show own_Go _ _ _ _ T86 (mkF m 62 #[.val (.ref a1), .val (.int r5), .val (.int (28 : Int32)), .val (.int c4)] [(.int (28 : Int32))])
                      refine own_go (fun _ k => XS.bipush X86.here hx rfl (hb hby d4_62) k) ?_
                      show own_Go _ _ _ _ T86 (mkF m 64 #[.val (.ref a1), .val (.int r5), .val (.int (28 : Int32)), .val (.int c4)] [(.int (28 : Int32)), (.int (28 : Int32))])
                      refine own_go (fun _ k => XS.icmpNo X86.here hx rfl (hb hby d4_64) rfl (teq rfl).2 k) ?_
                      show own_Go _ _ _ _ T86 (mkF m 67 #[.val (.ref a1), .val (.int r5), .val (.int (28 : Int32)), .val (.int c4)] [])
                      refine own_go (fun _ k => XS.iloadN X86.here hx rfl (hb hby d4_67) rfl k) ?_
                      show own_Go _ _ _ _ T86 (mkF m 68 #[.val (.ref a1), .val (.int r5), .val (.int (28 : Int32)), .val (.int c4)] [(.int c4)])
                      refine own_go (fun _ k => XS.bipush X86.here hx rfl (hb hby d4_68) k) ?_
                      show own_Go _ _ _ _ T86 (mkF m 70 #[.val (.ref a1), .val (.int r5), .val (.int (28 : Int32)), .val (.int c4)] [(.int (7 : Int32)), (.int c4)])
                      by_cases h7 : (7 : Int32) < c4
                      · skip
                        refine own_go (fun _ k => XS.icmpNo X86.here hx rfl (hb hby d4_70) rfl (tlt h7).2.2.2 k) ?_
                        show own_Go _ _ _ _ T86 (mkF m 73 #[.val (.ref a1), .val (.int r5), .val (.int (28 : Int32)), .val (.int c4)] [])
                        refine own_go (fun _ k => XS.iconst X86.here hx rfl (hb hby d4_73) k) ?_
                        show own_Go _ _ _ _ T86 (mkF m 74 #[.val (.ref a1), .val (.int r5), .val (.int (28 : Int32)), .val (.int c4)] [(.int (-1 : Int32))])
                        refine own_go (fun _ k => XS.goto X86.here hx rfl (pc0 := 74) (pc' := 78) rfl (hb hby d4_74) (by decide) (by decide) k) ?_
                        show own_Go _ _ _ _ T86 (mkF m 78 #[.val (.ref a1), .val (.int r5), .val (.int (28 : Int32)), .val (.int c4)] [(.int (-1 : Int32))])
                        have f90 := ((((((Keep.refl h0 [a1]).wr W19 (Or.inl (List.mem_of_getElem? (i := 0) rfl))).wr W35 (Or.inl (List.mem_of_getElem? (i := 0) rfl))).wr W52 (Or.inl (List.mem_of_getElem? (i := 0) rfl))).wr W69 (Or.inl (List.mem_of_getElem? (i := 0) rfl))).wr W86 (Or.inl (List.mem_of_getElem? (i := 0) rfl)))
                        have f91 := (f87.wr W86)
                        have f92 := (f83.other W86 (Or.inr (slot_ne (Or.inr (hw _ (List.mem_of_getElem? (i := 12) rfl))) (Or.inl (hw _ (List.mem_of_getElem? (i := 14) rfl))) (by decide) (t := (.array .byte)) (t' := .int) (by decide) (by decide))))
                        have f93 := (f78.other W86 (Or.inr (slot_ne (Or.inr (hw _ (List.mem_of_getElem? (i := 16) rfl))) (Or.inl (hw _ (List.mem_of_getElem? (i := 14) rfl))) (by decide) (t := .int) (t' := .int) (by decide) (by decide))))
                        have hsp := own_spG4 ha0 hb0 ha1 hb1 ha2 hb2 ha3 hb3 ha4 hd4.1 hh h7
                        have hv : (-1 : Int32) = (own_spec f s0 en).1 := Eq.trans (rfl) (congrArg Prod.fst hsp).symm
                        have hp : p5 = s0 + (own_spec f s0 en).2 := Eq.trans (own_step5 hs1 (by omega) (by omega)) (congrArg (fun z : Int32 × Int32 => s0 + z.2) hsp).symm
                        rw [hp] at Fw86
                        exact own_retI X86 hx hret hlk (hb hby d4_78) (by decide) (by decide) (by first | exact ⟨by rw [hv], N86, f90, f91, f92, Fw86, f93⟩ | (rw [e86]; exact ⟨by rw [hv], N86, f90, f91, f92, Fw86, f93⟩))
                      · skip
                        refine own_go (fun _ k => XS.icmpYes X86.here hx rfl (pc0 := 70) (pc' := 77) rfl (hb hby d4_70) rfl (flt h7).2.2.2 (by decide) (by decide) k) ?_
                        have h7' := own_nlt' h7
                        have v5 : r5.toInt = r4.toInt + c4.toInt % 128 * 268435456 := by rw [hr5]; exact own_tR4 _ _ (by omega) (by omega)
                        show own_Go _ _ _ _ T86 (mkF m 77 #[.val (.ref a1), .val (.int r5), .val (.int (28 : Int32)), .val (.int c4)] [])
                        refine own_go (fun _ k => XS.iloadN X86.here hx rfl (hb hby d4_77) rfl k) ?_
                        show own_Go _ _ _ _ T86 (mkF m 78 #[.val (.ref a1), .val (.int r5), .val (.int (28 : Int32)), .val (.int c4)] [(.int r5)])
                        have f94 := ((((((Keep.refl h0 [a1]).wr W19 (Or.inl (List.mem_of_getElem? (i := 0) rfl))).wr W35 (Or.inl (List.mem_of_getElem? (i := 0) rfl))).wr W52 (Or.inl (List.mem_of_getElem? (i := 0) rfl))).wr W69 (Or.inl (List.mem_of_getElem? (i := 0) rfl))).wr W86 (Or.inl (List.mem_of_getElem? (i := 0) rfl)))
                        have f95 := (f87.wr W86)
                        have f96 := (f83.other W86 (Or.inr (slot_ne (Or.inr (hw _ (List.mem_of_getElem? (i := 12) rfl))) (Or.inl (hw _ (List.mem_of_getElem? (i := 14) rfl))) (by decide) (t := (.array .byte)) (t' := .int) (by decide) (by decide))))
                        have f97 := (f78.other W86 (Or.inr (slot_ne (Or.inr (hw _ (List.mem_of_getElem? (i := 16) rfl))) (Or.inl (hw _ (List.mem_of_getElem? (i := 14) rfl))) (by decide) (t := .int) (t' := .int) (by decide) (by decide))))
                        have hsp := own_spB4 ha0 hb0 ha1 hb1 ha2 hb2 ha3 hb3 ha4 hd4.1 hh h7
                        have hv : r5 = (own_spec f s0 en).1 := Eq.trans (own_val4 hd0 hd1 hd2 hd3 ⟨hd4.1, h7'⟩ (by omega)) (congrArg Prod.fst hsp).symm
                        have hp : p5 = s0 + (own_spec f s0 en).2 := Eq.trans (own_step5 hs1 (by omega) (by omega)) (congrArg (fun z : Int32 × Int32 => s0 + z.2) hsp).symm
                        rw [hp] at Fw86
                        exact own_retI X86 hx hret hlk (hb hby d4_78) (by decide) (by decide) (by first | exact ⟨by rw [hv], N86, f94, f95, f96, Fw86, f97⟩ | (rw [e86]; exact ⟨by rw [hv], N86, f94, f95, f96, Fw86, f97⟩))
                    · skip
                      refine own_go (fun _ k => XS.ifYes X86.here hx rfl (pc0 := 58) (pc' := 79) rfl (hb hby d4_58) rfl ((if0 _ _).trans (feq hg4).2) (by decide) (by decide) k) ?_
                      have hb4 : 128 ≤ c4.toInt := by
                        have hx' : ¬ c4.toInt < 128 := fun q => hg4 ((own_t128 hd4).mpr q)
                        omega
                      show own_Go _ _ _ _ T86 (mkF m 79 #[.val (.ref a1), .val (.int r5), .val (.int (28 : Int32)), .val (.int c4)] [])
                      refine own_go (fun _ k => XS.iinc X86.here hx rfl (hb hby d4_79) rfl (l' := #[.val (.ref a1), .val (.int r5), .val (.int ((28 : Int32) + (7 : Int32))), .val (.int c4)]) rfl k) ?_
                      show own_Go _ _ _ _ T86 (mkF m 82 #[.val (.ref a1), .val (.int r5), .val (.int ((28 : Int32) + (7 : Int32))), .val (.int c4)] [])
                      rw [show ((28 : Int32) + (7 : Int32)) = (35 : Int32) from by decide]
                      show own_Go _ _ _ _ T86 (mkF m 82 #[.val (.ref a1), .val (.int r5), .val (.int (35 : Int32)), .val (.int c4)] [])
                      refine own_go (fun _ k => XS.goto X86.here hx rfl (pc0 := 82) (pc' := 4) rfl (hb hby d4_82) (by decide) (by decide) k) ?_
                      show own_Go _ _ _ _ T86 (mkF m 4 #[.val (.ref a1), .val (.int r5), .val (.int (35 : Int32)), .val (.int c4)] [])
                      refine own_go (fun _ k => XS.iloadN X86.here hx rfl (hb hby d4_4) rfl k) ?_
                      show own_Go _ _ _ _ T86 (mkF m 5 #[.val (.ref a1), .val (.int r5), .val (.int (35 : Int32)), .val (.int c4)] [(.int (35 : Int32))])
                      refine own_go (fun _ k => XS.bipush X86.here hx rfl (hb hby d4_5) k) ?_
                      show own_Go _ _ _ _ T86 (mkF m 7 #[.val (.ref a1), .val (.int r5), .val (.int (35 : Int32)), .val (.int c4)] [(.int (32 : Int32)), (.int (35 : Int32))])
                      refine own_go (fun _ k => XS.icmpYes X86.here hx rfl (pc0 := 7) (pc' := 85) rfl (hb hby d4_7) rfl (flt (by decide)).2.1 (by decide) (by decide) k) ?_
                      show own_Go _ _ _ _ T86 (mkF m 85 #[.val (.ref a1), .val (.int r5), .val (.int (35 : Int32)), .val (.int c4)] [])
                      refine own_go (fun _ k => XS.iconst X86.here hx rfl (hb hby d4_85) k) ?_
                      show own_Go _ _ _ _ T86 (mkF m 86 #[.val (.ref a1), .val (.int r5), .val (.int (35 : Int32)), .val (.int c4)] [(.int (-1 : Int32))])
                      have f98 := ((((((Keep.refl h0 [a1]).wr W19 (Or.inl (List.mem_of_getElem? (i := 0) rfl))).wr W35 (Or.inl (List.mem_of_getElem? (i := 0) rfl))).wr W52 (Or.inl (List.mem_of_getElem? (i := 0) rfl))).wr W69 (Or.inl (List.mem_of_getElem? (i := 0) rfl))).wr W86 (Or.inl (List.mem_of_getElem? (i := 0) rfl)))
                      have f99 := (f87.wr W86)
                      have f100 := (f83.other W86 (Or.inr (slot_ne (Or.inr (hw _ (List.mem_of_getElem? (i := 12) rfl))) (Or.inl (hw _ (List.mem_of_getElem? (i := 14) rfl))) (by decide) (t := (.array .byte)) (t' := .int) (by decide) (by decide))))
                      have f101 := (f78.other W86 (Or.inr (slot_ne (Or.inr (hw _ (List.mem_of_getElem? (i := 16) rfl))) (Or.inl (hw _ (List.mem_of_getElem? (i := 14) rfl))) (by decide) (t := .int) (t' := .int) (by decide) (by decide))))
                      have hsp := own_spO4 ha0 hb0 ha1 hb1 ha2 hb2 ha3 hb3 ha4 hb4
                      have hv : (-1 : Int32) = (own_spec f s0 en).1 := Eq.trans (rfl) (congrArg Prod.fst hsp).symm
                      have hp : p5 = s0 + (own_spec f s0 en).2 := Eq.trans (own_step5 hs1 (by omega) (by omega)) (congrArg (fun z : Int32 × Int32 => s0 + z.2) hsp).symm
                      rw [hp] at Fw86
                      exact own_retI X86 hx hret hlk (hb hby d4_86) (by decide) (by decide) (by first | exact ⟨by rw [hv], N86, f98, f99, f100, Fw86, f101⟩ | (rw [e86]; exact ⟨by rw [hv], N86, f98, f99, f100, Fw86, f101⟩))
set_option maxRecDepth 65536 in
set_option maxHeartbeats 40000000 in
theorem rm0 (l : Launch) (Z : State) (a0 : Array Value) (hw : ∀ d ∈ tables_1, d.before a0 Z = true) (ws : List Jvm.Cond) (p1 p2 p3 : Int32) (h0 : Heap) (n0 : Nat) (Z0 : n0 ≤ h0.size) :
    own_Met l x code maxLocals ret ws room_1 Z #[(.int p1), (.int p2), (.int p3)] h0 (fun v h L => v = some (.int 1) ∧ Fr n0 L) := by
  refine own_body (plainFor_of_name (by first | (simp [plainName, overriddenIn]; done) | decide +kernel)) ?_
  intro p e s m below meth c s₁ X0 hx hby hml hown hnm hret hlk hZ e0
  have N0 := Fr.nil n0
  refine own_cast (show entryFrame m #[(.int p1), (.int p2), (.int p3)] maxLocals = mkF m 0 #[.val (.int p1), .val (.int p2), .val (.int p3), .unset, .unset, .unset, .unset, .unset, .unset, .unset, .unset, .unset, .unset] [] from by first | (simp [entryFrame, mkF, argsToLocals, Value.category, maxLocals]; done) | rfl) ?_
  show own_Go _ _ _ _ s₁ (mkF m 0 #[.val (.int p1), .val (.int p2), .val (.int p3), .unset, .unset, .unset, .unset, .unset, .unset, .unset, .unset, .unset, .unset] [])
  refine own_go (fun _ k => XS.iconst X0.here hx rfl (hb hby at_0) k) ?_
  show own_Go _ _ _ _ s₁ (mkF m 1 #[.val (.int p1), .val (.int p2), .val (.int p3), .unset, .unset, .unset, .unset, .unset, .unset, .unset, .unset, .unset, .unset] [(.int (4 : Int32))])
  obtain ⟨T102, h102, k102, X102, e102, E102, A102, st102⟩ := newP X0 hx hZ (hw _ (List.mem_of_getElem? (i := 0) rfl)) e0 (g := (mkF m 1 #[.val (.int p1), .val (.int p2), .val (.int p3), .unset, .unset, .unset, .unset, .unset, .unset, .unset, .unset, .unset, .unset] [(.int (4 : Int32))])) rfl (hb hby at_1) rfl (by decide) (cap := 4) (by decide) (by decide) (by decide) (by decide)
  obtain ⟨b102, g102⟩ : ∃ z, z = h0.size := ⟨_, rfl⟩
  rw [← g102] at A102 st102
  refine own_go (st102) ?_
  have g_b102 : n0 ≤ b102 := Nat.le_trans Z0 (Nat.le_of_eq g102.symm)
  have V102 : Arv Z h102 b102 k102 .byte (4 : Int32) [(.int (0 : Int32)), (.int (0 : Int32)), (.int (0 : Int32)), (.int (0 : Int32))] (.int (0 : Int32)) := (Arv.new A102 (by decide)).pad (pad_rep [] (.int (0 : Int32)) 4)
  show own_Go _ _ _ _ T102 (mkF m 3 #[.val (.int p1), .val (.int p2), .val (.int p3), .unset, .unset, .unset, .unset, .unset, .unset, .unset, .unset, .unset, .unset] [(.ref b102)])
  refine own_go (fun _ k => XS.astoreN X102.here hx rfl (hb hby at_3) rfl rfl (l' := #[.val (.int p1), .val (.int p2), .val (.int p3), .val (.ref b102), .unset, .unset, .unset, .unset, .unset, .unset, .unset, .unset, .unset]) rfl k) ?_
  show own_Go _ _ _ _ T102 (mkF m 4 #[.val (.int p1), .val (.int p2), .val (.int p3), .val (.ref b102), .unset, .unset, .unset, .unset, .unset, .unset, .unset, .unset, .unset] [])
  refine own_go (fun _ k => XS.aloadN X102.here hx rfl (hb hby at_4) rfl rfl k) ?_
  show own_Go _ _ _ _ T102 (mkF m 5 #[.val (.int p1), .val (.int p2), .val (.int p3), .val (.ref b102), .unset, .unset, .unset, .unset, .unset, .unset, .unset, .unset, .unset] [(.ref b102)])
  refine own_go (fun _ k => XS.iconst X102.here hx rfl (hb hby at_5) k) ?_
  show own_Go _ _ _ _ T102 (mkF m 6 #[.val (.int p1), .val (.int p2), .val (.int p3), .val (.ref b102), .unset, .unset, .unset, .unset, .unset, .unset, .unset, .unset, .unset] [(.int (0 : Int32)), (.ref b102)])
  refine own_go (fun _ k => XS.iloadN X102.here hx rfl (hb hby at_6) rfl k) ?_
  show own_Go _ _ _ _ T102 (mkF m 7 #[.val (.int p1), .val (.int p2), .val (.int p3), .val (.ref b102), .unset, .unset, .unset, .unset, .unset, .unset, .unset, .unset, .unset] [(.int p1), (.int (0 : Int32)), (.ref b102)])
  refine own_go (fun _ k => XS.bipush X102.here hx rfl (hb hby at_7) k) ?_
  show own_Go _ _ _ _ T102 (mkF m 9 #[.val (.int p1), .val (.int p2), .val (.int p3), .val (.ref b102), .unset, .unset, .unset, .unset, .unset, .unset, .unset, .unset, .unset] [(.int (127 : Int32)), (.int p1), (.int (0 : Int32)), (.ref b102)])
  refine own_go (fun _ k => XS.iand X102.here hx rfl (hb hby at_9) rfl k) ?_
  show own_Go _ _ _ _ T102 (mkF m 10 #[.val (.int p1), .val (.int p2), .val (.int p3), .val (.ref b102), .unset, .unset, .unset, .unset, .unset, .unset, .unset, .unset, .unset] [(.int (p1 &&& (127 : Int32))), (.int (0 : Int32)), (.ref b102)])
  refine own_go (fun _ k => XS.i2b X102.here hx rfl (hb hby at_10) rfl k) ?_
  show own_Go _ _ _ _ T102 (mkF m 11 #[.val (.int p1), .val (.int p2), .val (.int p3), .val (.ref b102), .unset, .unset, .unset, .unset, .unset, .unset, .unset, .unset, .unset] [(.int ((p1 &&& (127 : Int32))).toInt8.toInt32), (.int (0 : Int32)), (.ref b102)])
  obtain ⟨cl103, Ar103, q103, S103, M103, H103, G103⟩ := V102
  have hin103 : ¬ ((0 : Int32) < 0 ∨ cl103.slots.size ≤ ((0 : Int32)).toNatClampNeg) := inb_of S103 ⟨by decide, by decide⟩
  obtain ⟨T103, h103, X103, e103, W103, st103⟩ := stB X102 hx hZ e102 Ar103 (j := (0 : Int32)) hin103 (g := (mkF m 11 #[.val (.int p1), .val (.int p2), .val (.int p3), .val (.ref b102), .unset, .unset, .unset, .unset, .unset, .unset, .unset, .unset, .unset] [(.int ((p1 &&& (127 : Int32))).toInt8.toInt32), (.int (0 : Int32)), (.ref b102)])) rfl rfl (hb hby at_11)
  refine own_go (st103) ?_
  have V103 : Arv Z h103 b102 k102 .byte (4 : Int32) [(.int (nar .byte ((p1 &&& (127 : Int32))).toInt8.toInt32)), (.int (0 : Int32)), (.int (0 : Int32)), (.int (0 : Int32))] (.int (0 : Int32)) := Arv.set Ar103 q103 S103 M103 H103 G103 (fits_nar_byte _) W103 0 rfl (Nat.le_of_ble_eq_true rfl)
  have N103 := Fr.snoc X103 N0 g_b102
  show own_Go _ _ _ _ T103 (mkF m 12 #[.val (.int p1), .val (.int p2), .val (.int p3), .val (.ref b102), .unset, .unset, .unset, .unset, .unset, .unset, .unset, .unset, .unset] [])
  refine own_go (fun _ k => XS.aloadN X103.here hx rfl (hb hby at_12) rfl rfl k) ?_
  show own_Go _ _ _ _ T103 (mkF m 13 #[.val (.int p1), .val (.int p2), .val (.int p3), .val (.ref b102), .unset, .unset, .unset, .unset, .unset, .unset, .unset, .unset, .unset] [(.ref b102)])
  refine own_go (fun _ k => XS.iconst X103.here hx rfl (hb hby at_13) k) ?_
  show own_Go _ _ _ _ T103 (mkF m 14 #[.val (.int p1), .val (.int p2), .val (.int p3), .val (.ref b102), .unset, .unset, .unset, .unset, .unset, .unset, .unset, .unset, .unset] [(.int (1 : Int32)), (.ref b102)])
  refine own_go (fun _ k => XS.iloadN X103.here hx rfl (hb hby at_14) rfl k) ?_
  show own_Go _ _ _ _ T103 (mkF m 15 #[.val (.int p1), .val (.int p2), .val (.int p3), .val (.ref b102), .unset, .unset, .unset, .unset, .unset, .unset, .unset, .unset, .unset] [(.int p1), (.int (1 : Int32)), (.ref b102)])
  refine own_go (fun _ k => XS.bipush X103.here hx rfl (hb hby at_15) k) ?_
  show own_Go _ _ _ _ T103 (mkF m 17 #[.val (.int p1), .val (.int p2), .val (.int p3), .val (.ref b102), .unset, .unset, .unset, .unset, .unset, .unset, .unset, .unset, .unset] [(.int (8 : Int32)), (.int p1), (.int (1 : Int32)), (.ref b102)])
  refine own_go (fun _ k => XS.iushr X103.here hx rfl (hb hby at_17) rfl k) ?_
  show own_Go _ _ _ _ T103 (mkF m 18 #[.val (.int p1), .val (.int p2), .val (.int p3), .val (.ref b102), .unset, .unset, .unset, .unset, .unset, .unset, .unset, .unset, .unset] [(.int ((p1).toUInt32 >>> ((8 : Int32) &&& 31).toUInt32).toInt32), (.int (1 : Int32)), (.ref b102)])
  refine own_go (fun _ k => XS.bipush X103.here hx rfl (hb hby at_18) k) ?_
  show own_Go _ _ _ _ T103 (mkF m 20 #[.val (.int p1), .val (.int p2), .val (.int p3), .val (.ref b102), .unset, .unset, .unset, .unset, .unset, .unset, .unset, .unset, .unset] [(.int (127 : Int32)), (.int ((p1).toUInt32 >>> ((8 : Int32) &&& 31).toUInt32).toInt32), (.int (1 : Int32)), (.ref b102)])
  refine own_go (fun _ k => XS.iand X103.here hx rfl (hb hby at_20) rfl k) ?_
  show own_Go _ _ _ _ T103 (mkF m 21 #[.val (.int p1), .val (.int p2), .val (.int p3), .val (.ref b102), .unset, .unset, .unset, .unset, .unset, .unset, .unset, .unset, .unset] [(.int (((p1).toUInt32 >>> ((8 : Int32) &&& 31).toUInt32).toInt32 &&& (127 : Int32))), (.int (1 : Int32)), (.ref b102)])
  refine own_go (fun _ k => XS.i2b X103.here hx rfl (hb hby at_21) rfl k) ?_
  show own_Go _ _ _ _ T103 (mkF m 22 #[.val (.int p1), .val (.int p2), .val (.int p3), .val (.ref b102), .unset, .unset, .unset, .unset, .unset, .unset, .unset, .unset, .unset] [(.int ((((p1).toUInt32 >>> ((8 : Int32) &&& 31).toUInt32).toInt32 &&& (127 : Int32))).toInt8.toInt32), (.int (1 : Int32)), (.ref b102)])
  obtain ⟨cl104, Ar104, q104, S104, M104, H104, G104⟩ := V103
  have hin104 : ¬ ((1 : Int32) < 0 ∨ cl104.slots.size ≤ ((1 : Int32)).toNatClampNeg) := inb_of S104 ⟨by decide, by decide⟩
  obtain ⟨T104, h104, X104, e104, W104, st104⟩ := stB X103 hx hZ e103 Ar104 (j := (1 : Int32)) hin104 (g := (mkF m 22 #[.val (.int p1), .val (.int p2), .val (.int p3), .val (.ref b102), .unset, .unset, .unset, .unset, .unset, .unset, .unset, .unset, .unset] [(.int ((((p1).toUInt32 >>> ((8 : Int32) &&& 31).toUInt32).toInt32 &&& (127 : Int32))).toInt8.toInt32), (.int (1 : Int32)), (.ref b102)])) rfl rfl (hb hby at_22)
  refine own_go (st104) ?_
  have V104 : Arv Z h104 b102 k102 .byte (4 : Int32) [(.int (nar .byte ((p1 &&& (127 : Int32))).toInt8.toInt32)), (.int (nar .byte ((((p1).toUInt32 >>> ((8 : Int32) &&& 31).toUInt32).toInt32 &&& (127 : Int32))).toInt8.toInt32)), (.int (0 : Int32)), (.int (0 : Int32))] (.int (0 : Int32)) := Arv.set Ar104 q104 S104 M104 H104 G104 (fits_nar_byte _) W104 1 rfl (Nat.le_of_ble_eq_true rfl)
  have N104 := Fr.snoc X104 N103 g_b102
  show own_Go _ _ _ _ T104 (mkF m 23 #[.val (.int p1), .val (.int p2), .val (.int p3), .val (.ref b102), .unset, .unset, .unset, .unset, .unset, .unset, .unset, .unset, .unset] [])
  refine own_go (fun _ k => XS.aloadN X104.here hx rfl (hb hby at_23) rfl rfl k) ?_
  show own_Go _ _ _ _ T104 (mkF m 24 #[.val (.int p1), .val (.int p2), .val (.int p3), .val (.ref b102), .unset, .unset, .unset, .unset, .unset, .unset, .unset, .unset, .unset] [(.ref b102)])
  refine own_go (fun _ k => XS.iconst X104.here hx rfl (hb hby at_24) k) ?_
  show own_Go _ _ _ _ T104 (mkF m 25 #[.val (.int p1), .val (.int p2), .val (.int p3), .val (.ref b102), .unset, .unset, .unset, .unset, .unset, .unset, .unset, .unset, .unset] [(.int (2 : Int32)), (.ref b102)])
  refine own_go (fun _ k => XS.iloadN X104.here hx rfl (hb hby at_25) rfl k) ?_
  show own_Go _ _ _ _ T104 (mkF m 26 #[.val (.int p1), .val (.int p2), .val (.int p3), .val (.ref b102), .unset, .unset, .unset, .unset, .unset, .unset, .unset, .unset, .unset] [(.int p1), (.int (2 : Int32)), (.ref b102)])
  refine own_go (fun _ k => XS.bipush X104.here hx rfl (hb hby at_26) k) ?_
  show own_Go _ _ _ _ T104 (mkF m 28 #[.val (.int p1), .val (.int p2), .val (.int p3), .val (.ref b102), .unset, .unset, .unset, .unset, .unset, .unset, .unset, .unset, .unset] [(.int (16 : Int32)), (.int p1), (.int (2 : Int32)), (.ref b102)])
  refine own_go (fun _ k => XS.iushr X104.here hx rfl (hb hby at_28) rfl k) ?_
  show own_Go _ _ _ _ T104 (mkF m 29 #[.val (.int p1), .val (.int p2), .val (.int p3), .val (.ref b102), .unset, .unset, .unset, .unset, .unset, .unset, .unset, .unset, .unset] [(.int ((p1).toUInt32 >>> ((16 : Int32) &&& 31).toUInt32).toInt32), (.int (2 : Int32)), (.ref b102)])
  refine own_go (fun _ k => XS.bipush X104.here hx rfl (hb hby at_29) k) ?_
  show own_Go _ _ _ _ T104 (mkF m 31 #[.val (.int p1), .val (.int p2), .val (.int p3), .val (.ref b102), .unset, .unset, .unset, .unset, .unset, .unset, .unset, .unset, .unset] [(.int (127 : Int32)), (.int ((p1).toUInt32 >>> ((16 : Int32) &&& 31).toUInt32).toInt32), (.int (2 : Int32)), (.ref b102)])
  refine own_go (fun _ k => XS.iand X104.here hx rfl (hb hby at_31) rfl k) ?_
  show own_Go _ _ _ _ T104 (mkF m 32 #[.val (.int p1), .val (.int p2), .val (.int p3), .val (.ref b102), .unset, .unset, .unset, .unset, .unset, .unset, .unset, .unset, .unset] [(.int (((p1).toUInt32 >>> ((16 : Int32) &&& 31).toUInt32).toInt32 &&& (127 : Int32))), (.int (2 : Int32)), (.ref b102)])
  refine own_go (fun _ k => XS.i2b X104.here hx rfl (hb hby at_32) rfl k) ?_
  show own_Go _ _ _ _ T104 (mkF m 33 #[.val (.int p1), .val (.int p2), .val (.int p3), .val (.ref b102), .unset, .unset, .unset, .unset, .unset, .unset, .unset, .unset, .unset] [(.int ((((p1).toUInt32 >>> ((16 : Int32) &&& 31).toUInt32).toInt32 &&& (127 : Int32))).toInt8.toInt32), (.int (2 : Int32)), (.ref b102)])
  obtain ⟨cl105, Ar105, q105, S105, M105, H105, G105⟩ := V104
  have hin105 : ¬ ((2 : Int32) < 0 ∨ cl105.slots.size ≤ ((2 : Int32)).toNatClampNeg) := inb_of S105 ⟨by decide, by decide⟩
  obtain ⟨T105, h105, X105, e105, W105, st105⟩ := stB X104 hx hZ e104 Ar105 (j := (2 : Int32)) hin105 (g := (mkF m 33 #[.val (.int p1), .val (.int p2), .val (.int p3), .val (.ref b102), .unset, .unset, .unset, .unset, .unset, .unset, .unset, .unset, .unset] [(.int ((((p1).toUInt32 >>> ((16 : Int32) &&& 31).toUInt32).toInt32 &&& (127 : Int32))).toInt8.toInt32), (.int (2 : Int32)), (.ref b102)])) rfl rfl (hb hby at_33)
  refine own_go (st105) ?_
  have V105 : Arv Z h105 b102 k102 .byte (4 : Int32) [(.int (nar .byte ((p1 &&& (127 : Int32))).toInt8.toInt32)), (.int (nar .byte ((((p1).toUInt32 >>> ((8 : Int32) &&& 31).toUInt32).toInt32 &&& (127 : Int32))).toInt8.toInt32)), (.int (nar .byte ((((p1).toUInt32 >>> ((16 : Int32) &&& 31).toUInt32).toInt32 &&& (127 : Int32))).toInt8.toInt32)), (.int (0 : Int32))] (.int (0 : Int32)) := Arv.set Ar105 q105 S105 M105 H105 G105 (fits_nar_byte _) W105 2 rfl (Nat.le_of_ble_eq_true rfl)
  have N105 := Fr.snoc X105 N104 g_b102
  show own_Go _ _ _ _ T105 (mkF m 34 #[.val (.int p1), .val (.int p2), .val (.int p3), .val (.ref b102), .unset, .unset, .unset, .unset, .unset, .unset, .unset, .unset, .unset] [])
  refine own_go (fun _ k => XS.aloadN X105.here hx rfl (hb hby at_34) rfl rfl k) ?_
  show own_Go _ _ _ _ T105 (mkF m 35 #[.val (.int p1), .val (.int p2), .val (.int p3), .val (.ref b102), .unset, .unset, .unset, .unset, .unset, .unset, .unset, .unset, .unset] [(.ref b102)])
  refine own_go (fun _ k => XS.iconst X105.here hx rfl (hb hby at_35) k) ?_
  show own_Go _ _ _ _ T105 (mkF m 36 #[.val (.int p1), .val (.int p2), .val (.int p3), .val (.ref b102), .unset, .unset, .unset, .unset, .unset, .unset, .unset, .unset, .unset] [(.int (3 : Int32)), (.ref b102)])
  refine own_go (fun _ k => XS.iloadN X105.here hx rfl (hb hby at_36) rfl k) ?_
  show own_Go _ _ _ _ T105 (mkF m 37 #[.val (.int p1), .val (.int p2), .val (.int p3), .val (.ref b102), .unset, .unset, .unset, .unset, .unset, .unset, .unset, .unset, .unset] [(.int p1), (.int (3 : Int32)), (.ref b102)])
  refine own_go (fun _ k => XS.bipush X105.here hx rfl (hb hby at_37) k) ?_
  show own_Go _ _ _ _ T105 (mkF m 39 #[.val (.int p1), .val (.int p2), .val (.int p3), .val (.ref b102), .unset, .unset, .unset, .unset, .unset, .unset, .unset, .unset, .unset] [(.int (24 : Int32)), (.int p1), (.int (3 : Int32)), (.ref b102)])
  refine own_go (fun _ k => XS.iushr X105.here hx rfl (hb hby at_39) rfl k) ?_
  show own_Go _ _ _ _ T105 (mkF m 40 #[.val (.int p1), .val (.int p2), .val (.int p3), .val (.ref b102), .unset, .unset, .unset, .unset, .unset, .unset, .unset, .unset, .unset] [(.int ((p1).toUInt32 >>> ((24 : Int32) &&& 31).toUInt32).toInt32), (.int (3 : Int32)), (.ref b102)])
  refine own_go (fun _ k => XS.bipush X105.here hx rfl (hb hby at_40) k) ?_
  show own_Go _ _ _ _ T105 (mkF m 42 #[.val (.int p1), .val (.int p2), .val (.int p3), .val (.ref b102), .unset, .unset, .unset, .unset, .unset, .unset, .unset, .unset, .unset] [(.int (127 : Int32)), (.int ((p1).toUInt32 >>> ((24 : Int32) &&& 31).toUInt32).toInt32), (.int (3 : Int32)), (.ref b102)])
  refine own_go (fun _ k => XS.iand X105.here hx rfl (hb hby at_42) rfl k) ?_
  show own_Go _ _ _ _ T105 (mkF m 43 #[.val (.int p1), .val (.int p2), .val (.int p3), .val (.ref b102), .unset, .unset, .unset, .unset, .unset, .unset, .unset, .unset, .unset] [(.int (((p1).toUInt32 >>> ((24 : Int32) &&& 31).toUInt32).toInt32 &&& (127 : Int32))), (.int (3 : Int32)), (.ref b102)])
  refine own_go (fun _ k => XS.i2b X105.here hx rfl (hb hby at_43) rfl k) ?_
  show own_Go _ _ _ _ T105 (mkF m 44 #[.val (.int p1), .val (.int p2), .val (.int p3), .val (.ref b102), .unset, .unset, .unset, .unset, .unset, .unset, .unset, .unset, .unset] [(.int ((((p1).toUInt32 >>> ((24 : Int32) &&& 31).toUInt32).toInt32 &&& (127 : Int32))).toInt8.toInt32), (.int (3 : Int32)), (.ref b102)])
  obtain ⟨cl106, Ar106, q106, S106, M106, H106, G106⟩ := V105
  have hin106 : ¬ ((3 : Int32) < 0 ∨ cl106.slots.size ≤ ((3 : Int32)).toNatClampNeg) := inb_of S106 ⟨by decide, by decide⟩
  obtain ⟨T106, h106, X106, e106, W106, st106⟩ := stB X105 hx hZ e105 Ar106 (j := (3 : Int32)) hin106 (g := (mkF m 44 #[.val (.int p1), .val (.int p2), .val (.int p3), .val (.ref b102), .unset, .unset, .unset, .unset, .unset, .unset, .unset, .unset, .unset] [(.int ((((p1).toUInt32 >>> ((24 : Int32) &&& 31).toUInt32).toInt32 &&& (127 : Int32))).toInt8.toInt32), (.int (3 : Int32)), (.ref b102)])) rfl rfl (hb hby at_44)
  refine own_go (st106) ?_
  have V106 : Arv Z h106 b102 k102 .byte (4 : Int32) [(.int (nar .byte ((p1 &&& (127 : Int32))).toInt8.toInt32)), (.int (nar .byte ((((p1).toUInt32 >>> ((8 : Int32) &&& 31).toUInt32).toInt32 &&& (127 : Int32))).toInt8.toInt32)), (.int (nar .byte ((((p1).toUInt32 >>> ((16 : Int32) &&& 31).toUInt32).toInt32 &&& (127 : Int32))).toInt8.toInt32)), (.int (nar .byte ((((p1).toUInt32 >>> ((24 : Int32) &&& 31).toUInt32).toInt32 &&& (127 : Int32))).toInt8.toInt32))] (.int (0 : Int32)) := Arv.set Ar106 q106 S106 M106 H106 G106 (fits_nar_byte _) W106 3 rfl (Nat.le_of_ble_eq_true rfl)
  have N106 := Fr.snoc X106 N105 g_b102
  show own_Go _ _ _ _ T106 (mkF m 45 #[.val (.int p1), .val (.int p2), .val (.int p3), .val (.ref b102), .unset, .unset, .unset, .unset, .unset, .unset, .unset, .unset, .unset] [])
  refine own_go (fun _ k => XS.iloadN X106.here hx rfl (hb hby at_45) rfl k) ?_
  show own_Go _ _ _ _ T106 (mkF m 46 #[.val (.int p1), .val (.int p2), .val (.int p3), .val (.ref b102), .unset, .unset, .unset, .unset, .unset, .unset, .unset, .unset, .unset] [(.int p2)])
  refine own_go (X106.ldcInt hx hown (mvT hZ (hw _ (List.mem_of_getElem? (i := 1) rfl))) (g := (mkF m 46 #[.val (.int p1), .val (.int p2), .val (.int p3), .val (.ref b102), .unset, .unset, .unset, .unset, .unset, .unset, .unset, .unset, .unset] [(.int p2)])) rfl (hb hby at_46)) ?_
  show own_Go _ _ _ _ T106 (mkF m 48 #[.val (.int p1), .val (.int p2), .val (.int p3), .val (.ref b102), .unset, .unset, .unset, .unset, .unset, .unset, .unset, .unset, .unset] [(.int (2147483647 : Int32)), (.int p2)])
  refine own_go (fun _ k => XS.iand X106.here hx rfl (hb hby at_48) rfl k) ?_
  show own_Go _ _ _ _ T106 (mkF m 49 #[.val (.int p1), .val (.int p2), .val (.int p3), .val (.ref b102), .unset, .unset, .unset, .unset, .unset, .unset, .unset, .unset, .unset] [(.int (p2 &&& (2147483647 : Int32)))])
  refine own_go (fun _ k => XS.iconst X106.here hx rfl (hb hby at_49) k) ?_
  show own_Go _ _ _ _ T106 (mkF m 50 #[.val (.int p1), .val (.int p2), .val (.int p3), .val (.ref b102), .unset, .unset, .unset, .unset, .unset, .unset, .unset, .unset, .unset] [(.int (5 : Int32)), (.int (p2 &&& (2147483647 : Int32)))])
  refine own_go (fun _ k => iremM X106 hx rfl (hb hby at_50) rfl (by decide) k) ?_
  show own_Go _ _ _ _ T106 (mkF m 51 #[.val (.int p1), .val (.int p2), .val (.int p3), .val (.ref b102), .unset, .unset, .unset, .unset, .unset, .unset, .unset, .unset, .unset] [(.int ((p2 &&& (2147483647 : Int32)) % (5 : Int32)))])
  obtain ⟨off, hoff⟩ : ∃ z : Int32, z = ((p2 &&& (2147483647 : Int32)) % (5 : Int32)) := ⟨_, rfl⟩
  rw [← hoff]
  have ho : 0 ≤ off.toInt ∧ off.toInt ≤ 4 := by rw [hoff]; exact own_off p2
  show own_Go _ _ _ _ T106 (mkF m 51 #[.val (.int p1), .val (.int p2), .val (.int p3), .val (.ref b102), .unset, .unset, .unset, .unset, .unset, .unset, .unset, .unset, .unset] [(.int off)])
  refine own_go (fun _ k => XS.istore X106.here hx rfl (hb hby at_51) rfl (l' := #[.val (.int p1), .val (.int p2), .val (.int p3), .val (.ref b102), .val (.int off), .unset, .unset, .unset, .unset, .unset, .unset, .unset, .unset]) rfl k) ?_
  show own_Go _ _ _ _ T106 (mkF m 53 #[.val (.int p1), .val (.int p2), .val (.int p3), .val (.ref b102), .val (.int off), .unset, .unset, .unset, .unset, .unset, .unset, .unset, .unset] [])
  refine own_go (fun _ k => XS.iloadN X106.here hx rfl (hb hby at_53) rfl k) ?_
  show own_Go _ _ _ _ T106 (mkF m 54 #[.val (.int p1), .val (.int p2), .val (.int p3), .val (.ref b102), .val (.int off), .unset, .unset, .unset, .unset, .unset, .unset, .unset, .unset] [(.int p3)])
  refine own_go (X106.ldcInt hx hown (mvT hZ (hw _ (List.mem_of_getElem? (i := 1) rfl))) (g := (mkF m 54 #[.val (.int p1), .val (.int p2), .val (.int p3), .val (.ref b102), .val (.int off), .unset, .unset, .unset, .unset, .unset, .unset, .unset, .unset] [(.int p3)])) rfl (hb hby at_54)) ?_
  show own_Go _ _ _ _ T106 (mkF m 56 #[.val (.int p1), .val (.int p2), .val (.int p3), .val (.ref b102), .val (.int off), .unset, .unset, .unset, .unset, .unset, .unset, .unset, .unset] [(.int (2147483647 : Int32)), (.int p3)])
  refine own_go (fun _ k => XS.iand X106.here hx rfl (hb hby at_56) rfl k) ?_
  show own_Go _ _ _ _ T106 (mkF m 57 #[.val (.int p1), .val (.int p2), .val (.int p3), .val (.ref b102), .val (.int off), .unset, .unset, .unset, .unset, .unset, .unset, .unset, .unset] [(.int (p3 &&& (2147483647 : Int32)))])
  refine own_go (fun _ k => XS.iconst X106.here hx rfl (hb hby at_57) k) ?_
  show own_Go _ _ _ _ T106 (mkF m 58 #[.val (.int p1), .val (.int p2), .val (.int p3), .val (.ref b102), .val (.int off), .unset, .unset, .unset, .unset, .unset, .unset, .unset, .unset] [(.int (5 : Int32)), (.int (p3 &&& (2147483647 : Int32)))])
  refine own_go (fun _ k => XS.iload X106.here hx rfl (hb hby at_58) rfl k) ?_
  show own_Go _ _ _ _ T106 (mkF m 60 #[.val (.int p1), .val (.int p2), .val (.int p3), .val (.ref b102), .val (.int off), .unset, .unset, .unset, .unset, .unset, .unset, .unset, .unset] [(.int off), (.int (5 : Int32)), (.int (p3 &&& (2147483647 : Int32)))])
  refine own_go (fun _ k => XS.isub X106.here hx rfl (hb hby at_60) rfl k) ?_
  show own_Go _ _ _ _ T106 (mkF m 61 #[.val (.int p1), .val (.int p2), .val (.int p3), .val (.ref b102), .val (.int off), .unset, .unset, .unset, .unset, .unset, .unset, .unset, .unset] [(.int ((5 : Int32) - off)), (.int (p3 &&& (2147483647 : Int32)))])
  refine own_go (fun _ k => iremM X106 hx rfl (hb hby at_61) rfl (own_nz ho) k) ?_
  show own_Go _ _ _ _ T106 (mkF m 62 #[.val (.int p1), .val (.int p2), .val (.int p3), .val (.ref b102), .val (.int off), .unset, .unset, .unset, .unset, .unset, .unset, .unset, .unset] [(.int ((p3 &&& (2147483647 : Int32)) % ((5 : Int32) - off)))])
  obtain ⟨len, hlen⟩ : ∃ z : Int32, z = ((p3 &&& (2147483647 : Int32)) % ((5 : Int32) - off)) := ⟨_, rfl⟩
  rw [← hlen]
  have hl : 0 ≤ len.toInt ∧ off.toInt + len.toInt ≤ 4 := by rw [hlen]; exact own_len _ off ho
  obtain ⟨f, hff⟩ : ∃ f : Nat → Int32, f = fun i => ([(nar .byte ((p1 &&& (127 : Int32))).toInt8.toInt32), (nar .byte ((((p1).toUInt32 >>> ((8 : Int32) &&& 31).toUInt32).toInt32 &&& (127 : Int32))).toInt8.toInt32), (nar .byte ((((p1).toUInt32 >>> ((16 : Int32) &&& 31).toUInt32).toInt32 &&& (127 : Int32))).toInt8.toInt32), (nar .byte ((((p1).toUInt32 >>> ((24 : Int32) &&& 31).toUInt32).toInt32 &&& (127 : Int32))).toInt8.toInt32)] : List Int32).getD i (0 : Int32) := ⟨_, rfl⟩
  have hf : ∀ i : Nat, ([(.int (nar .byte ((p1 &&& (127 : Int32))).toInt8.toInt32)), (.int (nar .byte ((((p1).toUInt32 >>> ((8 : Int32) &&& 31).toUInt32).toInt32 &&& (127 : Int32))).toInt8.toInt32)), (.int (nar .byte ((((p1).toUInt32 >>> ((16 : Int32) &&& 31).toUInt32).toInt32 &&& (127 : Int32))).toInt8.toInt32)), (.int (nar .byte ((((p1).toUInt32 >>> ((24 : Int32) &&& 31).toUInt32).toInt32 &&& (127 : Int32))).toInt8.toInt32))] : List Value).getD i (.int (0 : Int32)) = .int (f i) := fun i => by rw [hff]; exact own_getD [(nar .byte ((p1 &&& (127 : Int32))).toInt8.toInt32), (nar .byte ((((p1).toUInt32 >>> ((8 : Int32) &&& 31).toUInt32).toInt32 &&& (127 : Int32))).toInt8.toInt32), (nar .byte ((((p1).toUInt32 >>> ((16 : Int32) &&& 31).toUInt32).toInt32 &&& (127 : Int32))).toInt8.toInt32), (nar .byte ((((p1).toUInt32 >>> ((24 : Int32) &&& 31).toUInt32).toInt32 &&& (127 : Int32))).toInt8.toInt32)] i
  have hz7 : ∀ z ∈ ([(nar .byte ((p1 &&& (127 : Int32))).toInt8.toInt32), (nar .byte ((((p1).toUInt32 >>> ((8 : Int32) &&& 31).toUInt32).toInt32 &&& (127 : Int32))).toInt8.toInt32), (nar .byte ((((p1).toUInt32 >>> ((16 : Int32) &&& 31).toUInt32).toInt32 &&& (127 : Int32))).toInt8.toInt32), (nar .byte ((((p1).toUInt32 >>> ((24 : Int32) &&& 31).toUInt32).toInt32 &&& (127 : Int32))).toInt8.toInt32)] : List Int32), 0 ≤ z.toInt ∧ z.toInt ≤ 127 := by
    intro z hz
    simp only [List.mem_cons, List.not_mem_nil, or_false] at hz
    rcases hz with rfl | rfl | rfl | rfl <;> exact own_byte _
  have hf7 : ∀ i : Nat, 0 ≤ (f i).toInt ∧ (f i).toInt ≤ 127 := fun i => by rw [hff]; exact own_all _ hz7 i
  obtain ⟨en, hen⟩ : ∃ z : Int32, z = off + len := ⟨_, rfl⟩
  have hE : en.toInt = off.toInt + len.toInt := by rw [hen]; exact own_sum ho hl
  have hz0 : off.toInt ≤ 1000 := by omega
  have i1 := own_sk1 ho.1 hz0
  have i2 := own_sk2 ho.1 hz0
  have i3 := own_sk3 ho.1 hz0
  have i4 := own_sk4 ho.1 hz0
  show own_Go _ _ _ _ T106 (mkF m 62 #[.val (.int p1), .val (.int p2), .val (.int p3), .val (.ref b102), .val (.int off), .unset, .unset, .unset, .unset, .unset, .unset, .unset, .unset] [(.int len)])
  refine own_go (fun _ k => XS.istore X106.here hx rfl (hb hby at_62) rfl (l' := #[.val (.int p1), .val (.int p2), .val (.int p3), .val (.ref b102), .val (.int off), .val (.int len), .unset, .unset, .unset, .unset, .unset, .unset, .unset]) rfl k) ?_
  show own_Go _ _ _ _ T106 (mkF m 64 #[.val (.int p1), .val (.int p2), .val (.int p3), .val (.ref b102), .val (.int off), .val (.int len), .unset, .unset, .unset, .unset, .unset, .unset, .unset] [])
  have f108 := (Nat.le_trans (Nat.le_trans (Nat.le_trans (Nat.le_trans (Nat.le_trans Z0 E102.1) (Keep.of_wr W103).1) (Keep.of_wr W104).1) (Keep.of_wr W105).1) (Keep.of_wr W106).1)
  obtain ⟨T107, h107, X107, e107, E107, A107, D107, -, st107⟩ := newO X106 hx hZ hown (hw _ (List.mem_of_getElem? (i := 2) rfl)) (hw _ (List.mem_of_getElem? (i := 3) rfl)) (hw _ (List.mem_of_getElem? (i := 4) rfl)) e106 (g := (mkF m 64 #[.val (.int p1), .val (.int p2), .val (.int p3), .val (.ref b102), .val (.int off), .val (.int len), .unset, .unset, .unset, .unset, .unset, .unset, .unset] [])) rfl (hb hby at_64) (by decide) (by decide)
  obtain ⟨b107, g107⟩ : ∃ z, z = h106.size := ⟨_, rfl⟩
  rw [← g107] at A107 D107 st107
  refine own_go (st107) ?_
  have g_b107 : n0 ≤ b107 := Nat.le_trans f108 (Nat.le_of_eq g107.symm)
  have o_b107 : b102 < b107 := Nat.lt_of_lt_of_le V106.lt (Nat.le_of_eq g107.symm)
  have F107_bytes : Fld Z h107 b107 "com/example/cranfield/cranfield/engine/ByteReader" "bytes" "[B" .null := D107 (Or.inr (hw _ (List.mem_of_getElem? (i := 12) rfl))) (ty := (.array .byte)) (by decide)
  have F107_position : Fld Z h107 b107 "com/example/cranfield/cranfield/engine/ByteReader" "position" "I" (.int (0 : Int32)) := D107 (Or.inl (hw _ (List.mem_of_getElem? (i := 14) rfl))) (ty := .int) (by decide)
  have F107_end : Fld Z h107 b107 "com/example/cranfield/cranfield/engine/ByteReader" "end" "I" (.int (0 : Int32)) := D107 (Or.inr (hw _ (List.mem_of_getElem? (i := 16) rfl))) (ty := .int) (by decide)
  show own_Go _ _ _ _ T107 (mkF m 67 #[.val (.int p1), .val (.int p2), .val (.int p3), .val (.ref b102), .val (.int off), .val (.int len), .unset, .unset, .unset, .unset, .unset, .unset, .unset] [(.ref b107)])
  refine own_go (fun _ k => XS.dup X107.here hx rfl (hb hby at_67) rfl rfl k) ?_
  show own_Go _ _ _ _ T107 (mkF m 68 #[.val (.int p1), .val (.int p2), .val (.int p3), .val (.ref b102), .val (.int off), .val (.int len), .unset, .unset, .unset, .unset, .unset, .unset, .unset] [(.ref b107), (.ref b107)])
  refine own_go (fun _ k => XS.aloadN X107.here hx rfl (hb hby at_68) rfl rfl k) ?_
  show own_Go _ _ _ _ T107 (mkF m 69 #[.val (.int p1), .val (.int p2), .val (.int p3), .val (.ref b102), .val (.int off), .val (.int len), .unset, .unset, .unset, .unset, .unset, .unset, .unset] [(.ref b102), (.ref b107), (.ref b107)])
  refine own_go (fun _ k => XS.iload X107.here hx rfl (hb hby at_69) rfl k) ?_
  show own_Go _ _ _ _ T107 (mkF m 71 #[.val (.int p1), .val (.int p2), .val (.int p3), .val (.ref b102), .val (.int off), .val (.int len), .unset, .unset, .unset, .unset, .unset, .unset, .unset] [(.int off), (.ref b102), (.ref b107), (.ref b107)])
  refine own_go (fun _ k => XS.iload X107.here hx rfl (hb hby at_71) rfl k) ?_
  show own_Go _ _ _ _ T107 (mkF m 73 #[.val (.int p1), .val (.int p2), .val (.int p3), .val (.ref b102), .val (.int off), .val (.int len), .unset, .unset, .unset, .unset, .unset, .unset, .unset] [(.int len), (.int off), (.ref b102), (.ref b107), (.ref b107)])
  have f109 := (Nat.le_trans f108 E107.1)
  obtain ⟨v110, T110, h110, L110, X110, e110, hQ110, st110⟩ := own_callI X107 hx hZ rfl hown (hw _ (List.mem_of_getElem? (i := 5) rfl)) (hw _ (List.mem_of_getElem? (i := 6) rfl)) (hw _ (List.mem_of_getElem? (i := 4) rfl)) (hw _ (List.mem_of_getElem? (i := 7) rfl)) (by decide) e107 (a := b107) (argsL := [(.ref b102), (.int off), (.int len)]) (rest := [(.ref b107)]) (rm1 l Z a0 hw [] b107 b102 off len h107 n0 f109 A107 F107_bytes F107_position F107_end g_b107) 1 (by decide) (by decide) (by decide) (by decide) (g := (mkF m 73 #[.val (.int p1), .val (.int p2), .val (.int p3), .val (.ref b102), .val (.int off), .val (.int len), .unset, .unset, .unset, .unset, .unset, .unset, .unset] [(.int len), (.int off), (.ref b102), (.ref b107), (.ref b107)])) rfl (by rw [hml]; rfl) (lenOf pd0 rfl) rfl (Nat.le_of_eq rfl) (hb hby at_73)
  obtain ⟨rfl, N110q, K110, E110x, F110b, F110p, F110e⟩ := hQ110
  refine own_go (st110) ?_
  have N110 := Fr.app N106 N110q
  rw [← hen] at F110e
  have cs : len.toInt = 0 ∨ len.toInt = 1 ∨ len.toInt = 2 ∨ len.toInt = 3 ∨ len.toInt = 4 := by omega
  rcases cs with hc | hc | hc | hc | hc
  · skip
    show own_Go _ _ _ _ T110 (mkF m 76 #[.val (.int p1), .val (.int p2), .val (.int p3), .val (.ref b102), .val (.int off), .val (.int len), .unset, .unset, .unset, .unset, .unset, .unset, .unset] [(.ref b107)])
    refine own_go (fun _ k => XS.astore X110.here hx rfl (hb hby at_76) rfl rfl (l' := #[.val (.int p1), .val (.int p2), .val (.int p3), .val (.ref b102), .val (.int off), .val (.int len), .val (.ref b107), .unset, .unset, .unset, .unset, .unset, .unset]) rfl k) ?_
    show own_Go _ _ _ _ T110 (mkF m 78 #[.val (.int p1), .val (.int p2), .val (.int p3), .val (.ref b102), .val (.int off), .val (.int len), .val (.ref b107), .unset, .unset, .unset, .unset, .unset, .unset] [])
    refine own_go (fun _ k => XS.aload X110.here hx rfl (hb hby at_78) rfl rfl k) ?_
    show own_Go _ _ _ _ T110 (mkF m 80 #[.val (.int p1), .val (.int p2), .val (.int p3), .val (.ref b102), .val (.int off), .val (.int len), .val (.ref b107), .unset, .unset, .unset, .unset, .unset, .unset] [(.ref b107)])
    have f111 := (Nat.le_trans f109 K110.1)
    obtain ⟨v112, T112, h112, L112, X112, e112, hQ112, st112⟩ := own_callV X110 hx hZ hown (hw _ (List.mem_of_getElem? (i := 17) rfl)) (hw _ (List.mem_of_getElem? (i := 18) rfl)) (hw _ (List.mem_of_getElem? (i := 20) rfl)) (notFace_of_selects (args := #[]) (mvT hZ (hw _ (List.mem_of_getElem? (i := 20) rfl)))) (hw _ (List.mem_of_getElem? (i := 19) rfl)) (hw _ (List.mem_of_getElem? (i := 4) rfl)) (hw _ (List.mem_of_getElem? (i := 21) rfl)) (by decide) e110 E110x (argsL := []) (rest := []) (rm2 l Z a0 hw [] b107 off en h110 n0 f111 F110p F110e) 0 (by decide) (by decide) (by decide) (by decide) (g := (mkF m 80 #[.val (.int p1), .val (.int p2), .val (.int p3), .val (.ref b102), .val (.int off), .val (.int len), .val (.ref b107), .unset, .unset, .unset, .unset, .unset, .unset] [(.ref b107)])) rfl (by rw [hml]; rfl) (lenOf pd1 rfl) rfl (Nat.le_of_eq rfl) (hb hby at_80)
    obtain ⟨rfl, N112q, rfl⟩ := hQ112
    refine own_go (st112) ?_
    have N112 := Fr.app N110 N112q
    show own_Go _ _ _ _ T112 (mkF m 83 #[.val (.int p1), .val (.int p2), .val (.int p3), .val (.ref b102), .val (.int off), .val (.int len), .val (.ref b107), .unset, .unset, .unset, .unset, .unset, .unset] [(.int (own_hr off en))])
    refine own_go (fun _ k => XS.iload X112.here hx rfl (hb hby at_83) rfl k) ?_
    show own_Go _ _ _ _ T112 (mkF m 85 #[.val (.int p1), .val (.int p2), .val (.int p3), .val (.ref b102), .val (.int off), .val (.int len), .val (.ref b107), .unset, .unset, .unset, .unset, .unset, .unset] [(.int len), (.int (own_hr off en))])
    refine own_go (fun _ k => XS.ifYes X112.here hx rfl (pc0 := 85) (pc' := 92) rfl (hb hby at_85) rfl ((if0 _ _).trans (flt (own_nlt (by show _ ≤ (0 : Int); omega))).2.2.2) (by decide) (by decide) k) ?_
    show own_Go _ _ _ _ T112 (mkF m 92 #[.val (.int p1), .val (.int p2), .val (.int p3), .val (.ref b102), .val (.int off), .val (.int len), .val (.ref b107), .unset, .unset, .unset, .unset, .unset, .unset] [(.int (own_hr off en))])
    refine own_go (fun _ k => XS.iconst X112.here hx rfl (hb hby at_92) k) ?_
    show own_Go _ _ _ _ T112 (mkF m 93 #[.val (.int p1), .val (.int p2), .val (.int p3), .val (.ref b102), .val (.int off), .val (.int len), .val (.ref b107), .unset, .unset, .unset, .unset, .unset, .unset] [(.int (0 : Int32)), (.int (own_hr off en))])
    refine own_go (fun _ k => XS.icmpYes X112.here hx rfl (pc0 := 93) (pc' := 98) rfl (hb hby at_93) rfl (teq (by rw [own_hr, if_neg (own_nlt (by omega))])).1 (by decide) (by decide) k) ?_
    show own_Go _ _ _ _ T112 (mkF m 98 #[.val (.int p1), .val (.int p2), .val (.int p3), .val (.ref b102), .val (.int off), .val (.int len), .val (.ref b107), .unset, .unset, .unset, .unset, .unset, .unset] [])
    refine own_go (fun _ k => XS.aload X112.here hx rfl (hb hby at_98) rfl rfl k) ?_
    show own_Go _ _ _ _ T112 (mkF m 100 #[.val (.int p1), .val (.int p2), .val (.int p3), .val (.ref b102), .val (.int off), .val (.int len), .val (.ref b107), .unset, .unset, .unset, .unset, .unset, .unset] [(.ref b107)])
    have f113 := ((V106.ext E107).keep K110 (ninS (Nat.ne_of_lt o_b107) nin0))
    have sp0 : own_spec f off en = ((-1 : Int32), en - off) := own_spA0 (own_nlt (by omega))
    obtain ⟨v114, T114, h114, L114, X114, e114, hQ114, st114⟩ := own_callV X112 hx hZ hown (hw _ (List.mem_of_getElem? (i := 22) rfl)) (hw _ (List.mem_of_getElem? (i := 23) rfl)) (hw _ (List.mem_of_getElem? (i := 25) rfl)) (notFace_of_selects (args := #[]) (mvT hZ (hw _ (List.mem_of_getElem? (i := 25) rfl)))) (hw _ (List.mem_of_getElem? (i := 24) rfl)) (hw _ (List.mem_of_getElem? (i := 4) rfl)) (hw _ (List.mem_of_getElem? (i := 26) rfl)) (by decide) e112 E110x (argsL := []) (rest := []) (rm3 l Z a0 hw [] b107 b102 off en k102 (4 : Int32) _ _ f h110 n0 f111 E110x F110b F110p F110e g_b107 (Nat.ne_of_lt o_b107) f113 hf (own_bnd (by omega) (by omega) (by omega))) 0 (by decide) (by decide) (by decide) (by decide) (g := (mkF m 100 #[.val (.int p1), .val (.int p2), .val (.int p3), .val (.ref b102), .val (.int off), .val (.int len), .val (.ref b107), .unset, .unset, .unset, .unset, .unset, .unset] [(.ref b107)])) rfl (by rw [hml]; rfl) (lenOf pd2 rfl) rfl (Nat.le_of_eq rfl) (hb hby at_100)
    obtain ⟨rfl, N114q, K114, E114x, F114b, F114p, F114e⟩ := hQ114
    refine own_go (st114) ?_
    have N114 := Fr.app N112 N114q
    show own_Go _ _ _ _ T114 (mkF m 103 #[.val (.int p1), .val (.int p2), .val (.int p3), .val (.ref b102), .val (.int off), .val (.int len), .val (.ref b107), .unset, .unset, .unset, .unset, .unset, .unset] [(.int (own_spec f off en).1)])
    rw [show (own_spec f off en).1 = (-1 : Int32) from by rw [sp0]]
    rw [sp0, show off + (((-1 : Int32), en - off) : Int32 × Int32).2 = off from (own_cancel _ _).trans (Int32.toInt_inj.mp (by omega))] at F114p
    show own_Go _ _ _ _ T114 (mkF m 103 #[.val (.int p1), .val (.int p2), .val (.int p3), .val (.ref b102), .val (.int off), .val (.int len), .val (.ref b107), .unset, .unset, .unset, .unset, .unset, .unset] [(.int (-1 : Int32))])
    refine own_go (fun _ k => XS.istore X114.here hx rfl (hb hby at_103) rfl (l' := #[.val (.int p1), .val (.int p2), .val (.int p3), .val (.ref b102), .val (.int off), .val (.int len), .val (.ref b107), .val (.int (-1 : Int32)), .unset, .unset, .unset, .unset, .unset]) rfl k) ?_
    show own_Go _ _ _ _ T114 (mkF m 105 #[.val (.int p1), .val (.int p2), .val (.int p3), .val (.ref b102), .val (.int off), .val (.int len), .val (.ref b107), .val (.int (-1 : Int32)), .unset, .unset, .unset, .unset, .unset] [])
    refine own_go (fun _ k => XS.iload X114.here hx rfl (hb hby at_105) rfl k) ?_
    show own_Go _ _ _ _ T114 (mkF m 107 #[.val (.int p1), .val (.int p2), .val (.int p3), .val (.ref b102), .val (.int off), .val (.int len), .val (.ref b107), .val (.int (-1 : Int32)), .unset, .unset, .unset, .unset, .unset] [(.int len)])
    refine own_go (fun _ k => XS.ifYes X114.here hx rfl (pc0 := 107) (pc' := 117) rfl (hb hby at_107) rfl ((if0 _ _).trans (flt (own_nlt (by show _ ≤ (0 : Int); omega))).2.2.2) (by decide) (by decide) k) ?_
    show own_Go _ _ _ _ T114 (mkF m 117 #[.val (.int p1), .val (.int p2), .val (.int p3), .val (.ref b102), .val (.int off), .val (.int len), .val (.ref b107), .val (.int (-1 : Int32)), .unset, .unset, .unset, .unset, .unset] [])
    refine own_go (fun _ k => XS.iconst X114.here hx rfl (hb hby at_117) k) ?_
    show own_Go _ _ _ _ T114 (mkF m 118 #[.val (.int p1), .val (.int p2), .val (.int p3), .val (.ref b102), .val (.int off), .val (.int len), .val (.ref b107), .val (.int (-1 : Int32)), .unset, .unset, .unset, .unset, .unset] [(.int (-1 : Int32))])
    refine own_go (fun _ k => XS.istore X114.here hx rfl (hb hby at_118) rfl (l' := #[.val (.int p1), .val (.int p2), .val (.int p3), .val (.ref b102), .val (.int off), .val (.int len), .val (.ref b107), .val (.int (-1 : Int32)), .val (.int (-1 : Int32)), .unset, .unset, .unset, .unset]) rfl k) ?_
    show own_Go _ _ _ _ T114 (mkF m 120 #[.val (.int p1), .val (.int p2), .val (.int p3), .val (.ref b102), .val (.int off), .val (.int len), .val (.ref b107), .val (.int (-1 : Int32)), .val (.int (-1 : Int32)), .unset, .unset, .unset, .unset] [])
    refine own_go (fun _ k => XS.iload X114.here hx rfl (hb hby at_120) rfl k) ?_
    show own_Go _ _ _ _ T114 (mkF m 122 #[.val (.int p1), .val (.int p2), .val (.int p3), .val (.ref b102), .val (.int off), .val (.int len), .val (.ref b107), .val (.int (-1 : Int32)), .val (.int (-1 : Int32)), .unset, .unset, .unset, .unset] [(.int (-1 : Int32))])
    refine own_go (fun _ k => XS.iload X114.here hx rfl (hb hby at_122) rfl k) ?_
    show own_Go _ _ _ _ T114 (mkF m 124 #[.val (.int p1), .val (.int p2), .val (.int p3), .val (.ref b102), .val (.int off), .val (.int len), .val (.ref b107), .val (.int (-1 : Int32)), .val (.int (-1 : Int32)), .unset, .unset, .unset, .unset] [(.int (-1 : Int32)), (.int (-1 : Int32))])
    refine own_go (fun _ k => XS.icmpYes X114.here hx rfl (pc0 := 124) (pc' := 129) rfl (hb hby at_124) rfl (teq rfl).1 (by decide) (by decide) k) ?_
    show own_Go _ _ _ _ T114 (mkF m 129 #[.val (.int p1), .val (.int p2), .val (.int p3), .val (.ref b102), .val (.int off), .val (.int len), .val (.ref b107), .val (.int (-1 : Int32)), .val (.int (-1 : Int32)), .unset, .unset, .unset, .unset] [])
    refine own_go (fun _ k => XS.aload X114.here hx rfl (hb hby at_129) rfl rfl k) ?_
    show own_Go _ _ _ _ T114 (mkF m 131 #[.val (.int p1), .val (.int p2), .val (.int p3), .val (.ref b102), .val (.int off), .val (.int len), .val (.ref b107), .val (.int (-1 : Int32)), .val (.int (-1 : Int32)), .unset, .unset, .unset, .unset] [(.ref b107)])
    have f115 := (Nat.le_trans f111 K114.1)
    obtain ⟨v116, T116, h116, L116, X116, e116, hQ116, st116⟩ := own_callV X114 hx hZ hown (hw _ (List.mem_of_getElem? (i := 17) rfl)) (hw _ (List.mem_of_getElem? (i := 18) rfl)) (hw _ (List.mem_of_getElem? (i := 20) rfl)) (notFace_of_selects (args := #[]) (mvT hZ (hw _ (List.mem_of_getElem? (i := 20) rfl)))) (hw _ (List.mem_of_getElem? (i := 19) rfl)) (hw _ (List.mem_of_getElem? (i := 4) rfl)) (hw _ (List.mem_of_getElem? (i := 21) rfl)) (by decide) e114 E114x (argsL := []) (rest := []) (rm2 l Z a0 hw [] b107 off en h114 n0 f115 F114p F114e) 0 (by decide) (by decide) (by decide) (by decide) (g := (mkF m 131 #[.val (.int p1), .val (.int p2), .val (.int p3), .val (.ref b102), .val (.int off), .val (.int len), .val (.ref b107), .val (.int (-1 : Int32)), .val (.int (-1 : Int32)), .unset, .unset, .unset, .unset] [(.ref b107)])) rfl (by rw [hml]; rfl) (lenOf pd1 rfl) rfl (Nat.le_of_eq rfl) (hb hby at_131)
    obtain ⟨rfl, N116q, rfl⟩ := hQ116
    refine own_go (st116) ?_
    have N116 := Fr.app N114 N116q
    show own_Go _ _ _ _ T116 (mkF m 134 #[.val (.int p1), .val (.int p2), .val (.int p3), .val (.ref b102), .val (.int off), .val (.int len), .val (.ref b107), .val (.int (-1 : Int32)), .val (.int (-1 : Int32)), .unset, .unset, .unset, .unset] [(.int (own_hr off en))])
    refine own_go (fun _ k => XS.iload X116.here hx rfl (hb hby at_134) rfl k) ?_
    show own_Go _ _ _ _ T116 (mkF m 136 #[.val (.int p1), .val (.int p2), .val (.int p3), .val (.ref b102), .val (.int off), .val (.int len), .val (.ref b107), .val (.int (-1 : Int32)), .val (.int (-1 : Int32)), .unset, .unset, .unset, .unset] [(.int len), (.int (own_hr off en))])
    refine own_go (fun _ k => XS.iconst X116.here hx rfl (hb hby at_136) k) ?_
    show own_Go _ _ _ _ T116 (mkF m 137 #[.val (.int p1), .val (.int p2), .val (.int p3), .val (.ref b102), .val (.int off), .val (.int len), .val (.ref b107), .val (.int (-1 : Int32)), .val (.int (-1 : Int32)), .unset, .unset, .unset, .unset] [(.int (1 : Int32)), (.int len), (.int (own_hr off en))])
    refine own_go (fun _ k => XS.icmpYes X116.here hx rfl (pc0 := 137) (pc' := 144) rfl (hb hby at_137) rfl (flt (own_nlt (by show _ ≤ (1 : Int); omega))).2.2.2 (by decide) (by decide) k) ?_
    show own_Go _ _ _ _ T116 (mkF m 144 #[.val (.int p1), .val (.int p2), .val (.int p3), .val (.ref b102), .val (.int off), .val (.int len), .val (.ref b107), .val (.int (-1 : Int32)), .val (.int (-1 : Int32)), .unset, .unset, .unset, .unset] [(.int (own_hr off en))])
    refine own_go (fun _ k => XS.iconst X116.here hx rfl (hb hby at_144) k) ?_
    show own_Go _ _ _ _ T116 (mkF m 145 #[.val (.int p1), .val (.int p2), .val (.int p3), .val (.ref b102), .val (.int off), .val (.int len), .val (.ref b107), .val (.int (-1 : Int32)), .val (.int (-1 : Int32)), .unset, .unset, .unset, .unset] [(.int (0 : Int32)), (.int (own_hr off en))])
    refine own_go (fun _ k => XS.icmpYes X116.here hx rfl (pc0 := 145) (pc' := 150) rfl (hb hby at_145) rfl (teq (by rw [own_hr, if_neg (own_nlt (by omega))])).1 (by decide) (by decide) k) ?_
    show own_Go _ _ _ _ T116 (mkF m 150 #[.val (.int p1), .val (.int p2), .val (.int p3), .val (.ref b102), .val (.int off), .val (.int len), .val (.ref b107), .val (.int (-1 : Int32)), .val (.int (-1 : Int32)), .unset, .unset, .unset, .unset] [])
    refine own_go (fun _ k => XS.aload X116.here hx rfl (hb hby at_150) rfl rfl k) ?_
    show own_Go _ _ _ _ T116 (mkF m 152 #[.val (.int p1), .val (.int p2), .val (.int p3), .val (.ref b102), .val (.int off), .val (.int len), .val (.ref b107), .val (.int (-1 : Int32)), .val (.int (-1 : Int32)), .unset, .unset, .unset, .unset] [(.ref b107)])
    have f117 := (f113.keep K114 (ninS (Nat.ne_of_lt o_b107) nin0))
    have sp1 : own_spec f off en = ((-1 : Int32), en - off) := own_spA0 (own_nlt (by omega))
    obtain ⟨v118, T118, h118, L118, X118, e118, hQ118, st118⟩ := own_callV X116 hx hZ hown (hw _ (List.mem_of_getElem? (i := 22) rfl)) (hw _ (List.mem_of_getElem? (i := 23) rfl)) (hw _ (List.mem_of_getElem? (i := 25) rfl)) (notFace_of_selects (args := #[]) (mvT hZ (hw _ (List.mem_of_getElem? (i := 25) rfl)))) (hw _ (List.mem_of_getElem? (i := 24) rfl)) (hw _ (List.mem_of_getElem? (i := 4) rfl)) (hw _ (List.mem_of_getElem? (i := 26) rfl)) (by decide) e116 E114x (argsL := []) (rest := []) (rm3 l Z a0 hw [] b107 b102 off en k102 (4 : Int32) _ _ f h114 n0 f115 E114x F114b F114p F114e g_b107 (Nat.ne_of_lt o_b107) f117 hf (own_bnd (by omega) (by omega) (by omega))) 0 (by decide) (by decide) (by decide) (by decide) (g := (mkF m 152 #[.val (.int p1), .val (.int p2), .val (.int p3), .val (.ref b102), .val (.int off), .val (.int len), .val (.ref b107), .val (.int (-1 : Int32)), .val (.int (-1 : Int32)), .unset, .unset, .unset, .unset] [(.ref b107)])) rfl (by rw [hml]; rfl) (lenOf pd2 rfl) rfl (Nat.le_of_eq rfl) (hb hby at_152)
    obtain ⟨rfl, N118q, K118, E118x, F118b, F118p, F118e⟩ := hQ118
    refine own_go (st118) ?_
    have N118 := Fr.app N116 N118q
    show own_Go _ _ _ _ T118 (mkF m 155 #[.val (.int p1), .val (.int p2), .val (.int p3), .val (.ref b102), .val (.int off), .val (.int len), .val (.ref b107), .val (.int (-1 : Int32)), .val (.int (-1 : Int32)), .unset, .unset, .unset, .unset] [(.int (own_spec f off en).1)])
    rw [show (own_spec f off en).1 = (-1 : Int32) from by rw [sp1]]
    rw [sp1, show off + (((-1 : Int32), en - off) : Int32 × Int32).2 = off from (own_cancel _ _).trans (Int32.toInt_inj.mp (by omega))] at F118p
    show own_Go _ _ _ _ T118 (mkF m 155 #[.val (.int p1), .val (.int p2), .val (.int p3), .val (.ref b102), .val (.int off), .val (.int len), .val (.ref b107), .val (.int (-1 : Int32)), .val (.int (-1 : Int32)), .unset, .unset, .unset, .unset] [(.int (-1 : Int32))])
    refine own_go (fun _ k => XS.istore X118.here hx rfl (hb hby at_155) rfl (l' := #[.val (.int p1), .val (.int p2), .val (.int p3), .val (.ref b102), .val (.int off), .val (.int len), .val (.ref b107), .val (.int (-1 : Int32)), .val (.int (-1 : Int32)), .val (.int (-1 : Int32)), .unset, .unset, .unset]) rfl k) ?_
    show own_Go _ _ _ _ T118 (mkF m 157 #[.val (.int p1), .val (.int p2), .val (.int p3), .val (.ref b102), .val (.int off), .val (.int len), .val (.ref b107), .val (.int (-1 : Int32)), .val (.int (-1 : Int32)), .val (.int (-1 : Int32)), .unset, .unset, .unset] [])
    refine own_go (fun _ k => XS.iload X118.here hx rfl (hb hby at_157) rfl k) ?_
    show own_Go _ _ _ _ T118 (mkF m 159 #[.val (.int p1), .val (.int p2), .val (.int p3), .val (.ref b102), .val (.int off), .val (.int len), .val (.ref b107), .val (.int (-1 : Int32)), .val (.int (-1 : Int32)), .val (.int (-1 : Int32)), .unset, .unset, .unset] [(.int len)])
    refine own_go (fun _ k => XS.iconst X118.here hx rfl (hb hby at_159) k) ?_
    show own_Go _ _ _ _ T118 (mkF m 160 #[.val (.int p1), .val (.int p2), .val (.int p3), .val (.ref b102), .val (.int off), .val (.int len), .val (.ref b107), .val (.int (-1 : Int32)), .val (.int (-1 : Int32)), .val (.int (-1 : Int32)), .unset, .unset, .unset] [(.int (1 : Int32)), (.int len)])
    refine own_go (fun _ k => XS.icmpYes X118.here hx rfl (pc0 := 160) (pc' := 172) rfl (hb hby at_160) rfl (flt (own_nlt (by show _ ≤ (1 : Int); omega))).2.2.2 (by decide) (by decide) k) ?_
    show own_Go _ _ _ _ T118 (mkF m 172 #[.val (.int p1), .val (.int p2), .val (.int p3), .val (.ref b102), .val (.int off), .val (.int len), .val (.ref b107), .val (.int (-1 : Int32)), .val (.int (-1 : Int32)), .val (.int (-1 : Int32)), .unset, .unset, .unset] [])
    refine own_go (fun _ k => XS.iconst X118.here hx rfl (hb hby at_172) k) ?_
    show own_Go _ _ _ _ T118 (mkF m 173 #[.val (.int p1), .val (.int p2), .val (.int p3), .val (.ref b102), .val (.int off), .val (.int len), .val (.ref b107), .val (.int (-1 : Int32)), .val (.int (-1 : Int32)), .val (.int (-1 : Int32)), .unset, .unset, .unset] [(.int (-1 : Int32))])
    refine own_go (fun _ k => XS.istore X118.here hx rfl (hb hby at_173) rfl (l' := #[.val (.int p1), .val (.int p2), .val (.int p3), .val (.ref b102), .val (.int off), .val (.int len), .val (.ref b107), .val (.int (-1 : Int32)), .val (.int (-1 : Int32)), .val (.int (-1 : Int32)), .val (.int (-1 : Int32)), .unset, .unset]) rfl k) ?_
    show own_Go _ _ _ _ T118 (mkF m 175 #[.val (.int p1), .val (.int p2), .val (.int p3), .val (.ref b102), .val (.int off), .val (.int len), .val (.ref b107), .val (.int (-1 : Int32)), .val (.int (-1 : Int32)), .val (.int (-1 : Int32)), .val (.int (-1 : Int32)), .unset, .unset] [])
    refine own_go (fun _ k => XS.iload X118.here hx rfl (hb hby at_175) rfl k) ?_
    show own_Go _ _ _ _ T118 (mkF m 177 #[.val (.int p1), .val (.int p2), .val (.int p3), .val (.ref b102), .val (.int off), .val (.int len), .val (.ref b107), .val (.int (-1 : Int32)), .val (.int (-1 : Int32)), .val (.int (-1 : Int32)), .val (.int (-1 : Int32)), .unset, .unset] [(.int (-1 : Int32))])
    refine own_go (fun _ k => XS.iload X118.here hx rfl (hb hby at_177) rfl k) ?_
    show own_Go _ _ _ _ T118 (mkF m 179 #[.val (.int p1), .val (.int p2), .val (.int p3), .val (.ref b102), .val (.int off), .val (.int len), .val (.ref b107), .val (.int (-1 : Int32)), .val (.int (-1 : Int32)), .val (.int (-1 : Int32)), .val (.int (-1 : Int32)), .unset, .unset] [(.int (-1 : Int32)), (.int (-1 : Int32))])
    refine own_go (fun _ k => XS.icmpYes X118.here hx rfl (pc0 := 179) (pc' := 184) rfl (hb hby at_179) rfl (teq rfl).1 (by decide) (by decide) k) ?_
    show own_Go _ _ _ _ T118 (mkF m 184 #[.val (.int p1), .val (.int p2), .val (.int p3), .val (.ref b102), .val (.int off), .val (.int len), .val (.ref b107), .val (.int (-1 : Int32)), .val (.int (-1 : Int32)), .val (.int (-1 : Int32)), .val (.int (-1 : Int32)), .unset, .unset] [])
    refine own_go (fun _ k => XS.aload X118.here hx rfl (hb hby at_184) rfl rfl k) ?_
    show own_Go _ _ _ _ T118 (mkF m 186 #[.val (.int p1), .val (.int p2), .val (.int p3), .val (.ref b102), .val (.int off), .val (.int len), .val (.ref b107), .val (.int (-1 : Int32)), .val (.int (-1 : Int32)), .val (.int (-1 : Int32)), .val (.int (-1 : Int32)), .unset, .unset] [(.ref b107)])
    have f119 := (Nat.le_trans f115 K118.1)
    obtain ⟨v120, T120, h120, L120, X120, e120, hQ120, st120⟩ := own_callV X118 hx hZ hown (hw _ (List.mem_of_getElem? (i := 17) rfl)) (hw _ (List.mem_of_getElem? (i := 18) rfl)) (hw _ (List.mem_of_getElem? (i := 20) rfl)) (notFace_of_selects (args := #[]) (mvT hZ (hw _ (List.mem_of_getElem? (i := 20) rfl)))) (hw _ (List.mem_of_getElem? (i := 19) rfl)) (hw _ (List.mem_of_getElem? (i := 4) rfl)) (hw _ (List.mem_of_getElem? (i := 21) rfl)) (by decide) e118 E118x (argsL := []) (rest := []) (rm2 l Z a0 hw [] b107 off en h118 n0 f119 F118p F118e) 0 (by decide) (by decide) (by decide) (by decide) (g := (mkF m 186 #[.val (.int p1), .val (.int p2), .val (.int p3), .val (.ref b102), .val (.int off), .val (.int len), .val (.ref b107), .val (.int (-1 : Int32)), .val (.int (-1 : Int32)), .val (.int (-1 : Int32)), .val (.int (-1 : Int32)), .unset, .unset] [(.ref b107)])) rfl (by rw [hml]; rfl) (lenOf pd1 rfl) rfl (Nat.le_of_eq rfl) (hb hby at_186)
    obtain ⟨rfl, N120q, rfl⟩ := hQ120
    refine own_go (st120) ?_
    have N120 := Fr.app N118 N120q
    show own_Go _ _ _ _ T120 (mkF m 189 #[.val (.int p1), .val (.int p2), .val (.int p3), .val (.ref b102), .val (.int off), .val (.int len), .val (.ref b107), .val (.int (-1 : Int32)), .val (.int (-1 : Int32)), .val (.int (-1 : Int32)), .val (.int (-1 : Int32)), .unset, .unset] [(.int (own_hr off en))])
    refine own_go (fun _ k => XS.iload X120.here hx rfl (hb hby at_189) rfl k) ?_
    show own_Go _ _ _ _ T120 (mkF m 191 #[.val (.int p1), .val (.int p2), .val (.int p3), .val (.ref b102), .val (.int off), .val (.int len), .val (.ref b107), .val (.int (-1 : Int32)), .val (.int (-1 : Int32)), .val (.int (-1 : Int32)), .val (.int (-1 : Int32)), .unset, .unset] [(.int len), (.int (own_hr off en))])
    refine own_go (fun _ k => XS.iconst X120.here hx rfl (hb hby at_191) k) ?_
    show own_Go _ _ _ _ T120 (mkF m 192 #[.val (.int p1), .val (.int p2), .val (.int p3), .val (.ref b102), .val (.int off), .val (.int len), .val (.ref b107), .val (.int (-1 : Int32)), .val (.int (-1 : Int32)), .val (.int (-1 : Int32)), .val (.int (-1 : Int32)), .unset, .unset] [(.int (2 : Int32)), (.int len), (.int (own_hr off en))])
    refine own_go (fun _ k => XS.icmpYes X120.here hx rfl (pc0 := 192) (pc' := 199) rfl (hb hby at_192) rfl (flt (own_nlt (by show _ ≤ (2 : Int); omega))).2.2.2 (by decide) (by decide) k) ?_
    show own_Go _ _ _ _ T120 (mkF m 199 #[.val (.int p1), .val (.int p2), .val (.int p3), .val (.ref b102), .val (.int off), .val (.int len), .val (.ref b107), .val (.int (-1 : Int32)), .val (.int (-1 : Int32)), .val (.int (-1 : Int32)), .val (.int (-1 : Int32)), .unset, .unset] [(.int (own_hr off en))])
    refine own_go (fun _ k => XS.iconst X120.here hx rfl (hb hby at_199) k) ?_
    show own_Go _ _ _ _ T120 (mkF m 200 #[.val (.int p1), .val (.int p2), .val (.int p3), .val (.ref b102), .val (.int off), .val (.int len), .val (.ref b107), .val (.int (-1 : Int32)), .val (.int (-1 : Int32)), .val (.int (-1 : Int32)), .val (.int (-1 : Int32)), .unset, .unset] [(.int (0 : Int32)), (.int (own_hr off en))])
    refine own_go (fun _ k => XS.icmpYes X120.here hx rfl (pc0 := 200) (pc' := 205) rfl (hb hby at_200) rfl (teq (by rw [own_hr, if_neg (own_nlt (by omega))])).1 (by decide) (by decide) k) ?_
    show own_Go _ _ _ _ T120 (mkF m 205 #[.val (.int p1), .val (.int p2), .val (.int p3), .val (.ref b102), .val (.int off), .val (.int len), .val (.ref b107), .val (.int (-1 : Int32)), .val (.int (-1 : Int32)), .val (.int (-1 : Int32)), .val (.int (-1 : Int32)), .unset, .unset] [])
    refine own_go (fun _ k => XS.aload X120.here hx rfl (hb hby at_205) rfl rfl k) ?_
    show own_Go _ _ _ _ T120 (mkF m 207 #[.val (.int p1), .val (.int p2), .val (.int p3), .val (.ref b102), .val (.int off), .val (.int len), .val (.ref b107), .val (.int (-1 : Int32)), .val (.int (-1 : Int32)), .val (.int (-1 : Int32)), .val (.int (-1 : Int32)), .unset, .unset] [(.ref b107)])
    have f121 := (f117.keep K118 (ninS (Nat.ne_of_lt o_b107) nin0))
    have sp2 : own_spec f off en = ((-1 : Int32), en - off) := own_spA0 (own_nlt (by omega))
    obtain ⟨v122, T122, h122, L122, X122, e122, hQ122, st122⟩ := own_callV X120 hx hZ hown (hw _ (List.mem_of_getElem? (i := 22) rfl)) (hw _ (List.mem_of_getElem? (i := 23) rfl)) (hw _ (List.mem_of_getElem? (i := 25) rfl)) (notFace_of_selects (args := #[]) (mvT hZ (hw _ (List.mem_of_getElem? (i := 25) rfl)))) (hw _ (List.mem_of_getElem? (i := 24) rfl)) (hw _ (List.mem_of_getElem? (i := 4) rfl)) (hw _ (List.mem_of_getElem? (i := 26) rfl)) (by decide) e120 E118x (argsL := []) (rest := []) (rm3 l Z a0 hw [] b107 b102 off en k102 (4 : Int32) _ _ f h118 n0 f119 E118x F118b F118p F118e g_b107 (Nat.ne_of_lt o_b107) f121 hf (own_bnd (by omega) (by omega) (by omega))) 0 (by decide) (by decide) (by decide) (by decide) (g := (mkF m 207 #[.val (.int p1), .val (.int p2), .val (.int p3), .val (.ref b102), .val (.int off), .val (.int len), .val (.ref b107), .val (.int (-1 : Int32)), .val (.int (-1 : Int32)), .val (.int (-1 : Int32)), .val (.int (-1 : Int32)), .unset, .unset] [(.ref b107)])) rfl (by rw [hml]; rfl) (lenOf pd2 rfl) rfl (Nat.le_of_eq rfl) (hb hby at_207)
    obtain ⟨rfl, N122q, K122, E122x, F122b, F122p, F122e⟩ := hQ122
    refine own_go (st122) ?_
    have N122 := Fr.app N120 N122q
    show own_Go _ _ _ _ T122 (mkF m 210 #[.val (.int p1), .val (.int p2), .val (.int p3), .val (.ref b102), .val (.int off), .val (.int len), .val (.ref b107), .val (.int (-1 : Int32)), .val (.int (-1 : Int32)), .val (.int (-1 : Int32)), .val (.int (-1 : Int32)), .unset, .unset] [(.int (own_spec f off en).1)])
    rw [show (own_spec f off en).1 = (-1 : Int32) from by rw [sp2]]
    rw [sp2, show off + (((-1 : Int32), en - off) : Int32 × Int32).2 = off from (own_cancel _ _).trans (Int32.toInt_inj.mp (by omega))] at F122p
    show own_Go _ _ _ _ T122 (mkF m 210 #[.val (.int p1), .val (.int p2), .val (.int p3), .val (.ref b102), .val (.int off), .val (.int len), .val (.ref b107), .val (.int (-1 : Int32)), .val (.int (-1 : Int32)), .val (.int (-1 : Int32)), .val (.int (-1 : Int32)), .unset, .unset] [(.int (-1 : Int32))])
    refine own_go (fun _ k => XS.istore X122.here hx rfl (hb hby at_210) rfl (l' := #[.val (.int p1), .val (.int p2), .val (.int p3), .val (.ref b102), .val (.int off), .val (.int len), .val (.ref b107), .val (.int (-1 : Int32)), .val (.int (-1 : Int32)), .val (.int (-1 : Int32)), .val (.int (-1 : Int32)), .val (.int (-1 : Int32)), .unset]) rfl k) ?_
    show own_Go _ _ _ _ T122 (mkF m 212 #[.val (.int p1), .val (.int p2), .val (.int p3), .val (.ref b102), .val (.int off), .val (.int len), .val (.ref b107), .val (.int (-1 : Int32)), .val (.int (-1 : Int32)), .val (.int (-1 : Int32)), .val (.int (-1 : Int32)), .val (.int (-1 : Int32)), .unset] [])
    refine own_go (fun _ k => XS.iload X122.here hx rfl (hb hby at_212) rfl k) ?_
    show own_Go _ _ _ _ T122 (mkF m 214 #[.val (.int p1), .val (.int p2), .val (.int p3), .val (.ref b102), .val (.int off), .val (.int len), .val (.ref b107), .val (.int (-1 : Int32)), .val (.int (-1 : Int32)), .val (.int (-1 : Int32)), .val (.int (-1 : Int32)), .val (.int (-1 : Int32)), .unset] [(.int len)])
    refine own_go (fun _ k => XS.iconst X122.here hx rfl (hb hby at_214) k) ?_
    show own_Go _ _ _ _ T122 (mkF m 215 #[.val (.int p1), .val (.int p2), .val (.int p3), .val (.ref b102), .val (.int off), .val (.int len), .val (.ref b107), .val (.int (-1 : Int32)), .val (.int (-1 : Int32)), .val (.int (-1 : Int32)), .val (.int (-1 : Int32)), .val (.int (-1 : Int32)), .unset] [(.int (2 : Int32)), (.int len)])
    refine own_go (fun _ k => XS.icmpYes X122.here hx rfl (pc0 := 215) (pc' := 227) rfl (hb hby at_215) rfl (flt (own_nlt (by show _ ≤ (2 : Int); omega))).2.2.2 (by decide) (by decide) k) ?_
    show own_Go _ _ _ _ T122 (mkF m 227 #[.val (.int p1), .val (.int p2), .val (.int p3), .val (.ref b102), .val (.int off), .val (.int len), .val (.ref b107), .val (.int (-1 : Int32)), .val (.int (-1 : Int32)), .val (.int (-1 : Int32)), .val (.int (-1 : Int32)), .val (.int (-1 : Int32)), .unset] [])
    refine own_go (fun _ k => XS.iconst X122.here hx rfl (hb hby at_227) k) ?_
    show own_Go _ _ _ _ T122 (mkF m 228 #[.val (.int p1), .val (.int p2), .val (.int p3), .val (.ref b102), .val (.int off), .val (.int len), .val (.ref b107), .val (.int (-1 : Int32)), .val (.int (-1 : Int32)), .val (.int (-1 : Int32)), .val (.int (-1 : Int32)), .val (.int (-1 : Int32)), .unset] [(.int (-1 : Int32))])
    refine own_go (fun _ k => XS.istore X122.here hx rfl (hb hby at_228) rfl (l' := #[.val (.int p1), .val (.int p2), .val (.int p3), .val (.ref b102), .val (.int off), .val (.int len), .val (.ref b107), .val (.int (-1 : Int32)), .val (.int (-1 : Int32)), .val (.int (-1 : Int32)), .val (.int (-1 : Int32)), .val (.int (-1 : Int32)), .val (.int (-1 : Int32))]) rfl k) ?_
    show own_Go _ _ _ _ T122 (mkF m 230 #[.val (.int p1), .val (.int p2), .val (.int p3), .val (.ref b102), .val (.int off), .val (.int len), .val (.ref b107), .val (.int (-1 : Int32)), .val (.int (-1 : Int32)), .val (.int (-1 : Int32)), .val (.int (-1 : Int32)), .val (.int (-1 : Int32)), .val (.int (-1 : Int32))] [])
    refine own_go (fun _ k => XS.iload X122.here hx rfl (hb hby at_230) rfl k) ?_
    show own_Go _ _ _ _ T122 (mkF m 232 #[.val (.int p1), .val (.int p2), .val (.int p3), .val (.ref b102), .val (.int off), .val (.int len), .val (.ref b107), .val (.int (-1 : Int32)), .val (.int (-1 : Int32)), .val (.int (-1 : Int32)), .val (.int (-1 : Int32)), .val (.int (-1 : Int32)), .val (.int (-1 : Int32))] [(.int (-1 : Int32))])
    refine own_go (fun _ k => XS.iload X122.here hx rfl (hb hby at_232) rfl k) ?_
    show own_Go _ _ _ _ T122 (mkF m 234 #[.val (.int p1), .val (.int p2), .val (.int p3), .val (.ref b102), .val (.int off), .val (.int len), .val (.ref b107), .val (.int (-1 : Int32)), .val (.int (-1 : Int32)), .val (.int (-1 : Int32)), .val (.int (-1 : Int32)), .val (.int (-1 : Int32)), .val (.int (-1 : Int32))] [(.int (-1 : Int32)), (.int (-1 : Int32))])
    refine own_go (fun _ k => XS.icmpYes X122.here hx rfl (pc0 := 234) (pc' := 239) rfl (hb hby at_234) rfl (teq rfl).1 (by decide) (by decide) k) ?_
    show own_Go _ _ _ _ T122 (mkF m 239 #[.val (.int p1), .val (.int p2), .val (.int p3), .val (.ref b102), .val (.int off), .val (.int len), .val (.ref b107), .val (.int (-1 : Int32)), .val (.int (-1 : Int32)), .val (.int (-1 : Int32)), .val (.int (-1 : Int32)), .val (.int (-1 : Int32)), .val (.int (-1 : Int32))] [])
    refine own_go (fun _ k => XS.aload X122.here hx rfl (hb hby at_239) rfl rfl k) ?_
    show own_Go _ _ _ _ T122 (mkF m 241 #[.val (.int p1), .val (.int p2), .val (.int p3), .val (.ref b102), .val (.int off), .val (.int len), .val (.ref b107), .val (.int (-1 : Int32)), .val (.int (-1 : Int32)), .val (.int (-1 : Int32)), .val (.int (-1 : Int32)), .val (.int (-1 : Int32)), .val (.int (-1 : Int32))] [(.ref b107)])
    have f123 := (Nat.le_trans f119 K122.1)
    obtain ⟨v124, T124, h124, L124, X124, e124, hQ124, st124⟩ := own_callV X122 hx hZ hown (hw _ (List.mem_of_getElem? (i := 17) rfl)) (hw _ (List.mem_of_getElem? (i := 18) rfl)) (hw _ (List.mem_of_getElem? (i := 20) rfl)) (notFace_of_selects (args := #[]) (mvT hZ (hw _ (List.mem_of_getElem? (i := 20) rfl)))) (hw _ (List.mem_of_getElem? (i := 19) rfl)) (hw _ (List.mem_of_getElem? (i := 4) rfl)) (hw _ (List.mem_of_getElem? (i := 21) rfl)) (by decide) e122 E122x (argsL := []) (rest := []) (rm2 l Z a0 hw [] b107 off en h122 n0 f123 F122p F122e) 0 (by decide) (by decide) (by decide) (by decide) (g := (mkF m 241 #[.val (.int p1), .val (.int p2), .val (.int p3), .val (.ref b102), .val (.int off), .val (.int len), .val (.ref b107), .val (.int (-1 : Int32)), .val (.int (-1 : Int32)), .val (.int (-1 : Int32)), .val (.int (-1 : Int32)), .val (.int (-1 : Int32)), .val (.int (-1 : Int32))] [(.ref b107)])) rfl (by rw [hml]; rfl) (lenOf pd1 rfl) rfl (Nat.le_of_eq rfl) (hb hby at_241)
    obtain ⟨rfl, N124q, rfl⟩ := hQ124
    refine own_go (st124) ?_
    have N124 := Fr.app N122 N124q
    show own_Go _ _ _ _ T124 (mkF m 244 #[.val (.int p1), .val (.int p2), .val (.int p3), .val (.ref b102), .val (.int off), .val (.int len), .val (.ref b107), .val (.int (-1 : Int32)), .val (.int (-1 : Int32)), .val (.int (-1 : Int32)), .val (.int (-1 : Int32)), .val (.int (-1 : Int32)), .val (.int (-1 : Int32))] [(.int (own_hr off en))])
    refine own_go (fun _ k => XS.iload X124.here hx rfl (hb hby at_244) rfl k) ?_
    show own_Go _ _ _ _ T124 (mkF m 246 #[.val (.int p1), .val (.int p2), .val (.int p3), .val (.ref b102), .val (.int off), .val (.int len), .val (.ref b107), .val (.int (-1 : Int32)), .val (.int (-1 : Int32)), .val (.int (-1 : Int32)), .val (.int (-1 : Int32)), .val (.int (-1 : Int32)), .val (.int (-1 : Int32))] [(.int len), (.int (own_hr off en))])
    refine own_go (fun _ k => XS.iconst X124.here hx rfl (hb hby at_246) k) ?_
    show own_Go _ _ _ _ T124 (mkF m 247 #[.val (.int p1), .val (.int p2), .val (.int p3), .val (.ref b102), .val (.int off), .val (.int len), .val (.ref b107), .val (.int (-1 : Int32)), .val (.int (-1 : Int32)), .val (.int (-1 : Int32)), .val (.int (-1 : Int32)), .val (.int (-1 : Int32)), .val (.int (-1 : Int32))] [(.int (3 : Int32)), (.int len), (.int (own_hr off en))])
    refine own_go (fun _ k => XS.icmpYes X124.here hx rfl (pc0 := 247) (pc' := 254) rfl (hb hby at_247) rfl (flt (own_nlt (by show _ ≤ (3 : Int); omega))).2.2.2 (by decide) (by decide) k) ?_
    show own_Go _ _ _ _ T124 (mkF m 254 #[.val (.int p1), .val (.int p2), .val (.int p3), .val (.ref b102), .val (.int off), .val (.int len), .val (.ref b107), .val (.int (-1 : Int32)), .val (.int (-1 : Int32)), .val (.int (-1 : Int32)), .val (.int (-1 : Int32)), .val (.int (-1 : Int32)), .val (.int (-1 : Int32))] [(.int (own_hr off en))])
    refine own_go (fun _ k => XS.iconst X124.here hx rfl (hb hby at_254) k) ?_
    show own_Go _ _ _ _ T124 (mkF m 255 #[.val (.int p1), .val (.int p2), .val (.int p3), .val (.ref b102), .val (.int off), .val (.int len), .val (.ref b107), .val (.int (-1 : Int32)), .val (.int (-1 : Int32)), .val (.int (-1 : Int32)), .val (.int (-1 : Int32)), .val (.int (-1 : Int32)), .val (.int (-1 : Int32))] [(.int (0 : Int32)), (.int (own_hr off en))])
    refine own_go (fun _ k => XS.icmpNo X124.here hx rfl (hb hby at_255) rfl (teq (by rw [own_hr, if_neg (own_nlt (by omega))])).2 k) ?_
    show own_Go _ _ _ _ T124 (mkF m 258 #[.val (.int p1), .val (.int p2), .val (.int p3), .val (.ref b102), .val (.int off), .val (.int len), .val (.ref b107), .val (.int (-1 : Int32)), .val (.int (-1 : Int32)), .val (.int (-1 : Int32)), .val (.int (-1 : Int32)), .val (.int (-1 : Int32)), .val (.int (-1 : Int32))] [])
    refine own_go (fun _ k => XS.iconst X124.here hx rfl (hb hby at_258) k) ?_
    show own_Go _ _ _ _ T124 (mkF m 259 #[.val (.int p1), .val (.int p2), .val (.int p3), .val (.ref b102), .val (.int off), .val (.int len), .val (.ref b107), .val (.int (-1 : Int32)), .val (.int (-1 : Int32)), .val (.int (-1 : Int32)), .val (.int (-1 : Int32)), .val (.int (-1 : Int32)), .val (.int (-1 : Int32))] [(.int (1 : Int32))])
    refine own_go (fun _ k => XS.goto X124.here hx rfl (pc0 := 259) (pc' := 263) rfl (hb hby at_259) (by decide) (by decide) k) ?_
    show own_Go _ _ _ _ T124 (mkF m 263 #[.val (.int p1), .val (.int p2), .val (.int p3), .val (.ref b102), .val (.int off), .val (.int len), .val (.ref b107), .val (.int (-1 : Int32)), .val (.int (-1 : Int32)), .val (.int (-1 : Int32)), .val (.int (-1 : Int32)), .val (.int (-1 : Int32)), .val (.int (-1 : Int32))] [(.int (1 : Int32))])
    exact own_retN X124 hx hret (by simp) hlk (hb hby at_263) (by decide) (by decide) (by first | exact ⟨rfl, N124⟩ | (rw [e124]; exact ⟨rfl, N124⟩))
  · skip
    show own_Go _ _ _ _ T110 (mkF m 76 #[.val (.int p1), .val (.int p2), .val (.int p3), .val (.ref b102), .val (.int off), .val (.int len), .unset, .unset, .unset, .unset, .unset, .unset, .unset] [(.ref b107)])
    refine own_go (fun _ k => XS.astore X110.here hx rfl (hb hby at_76) rfl rfl (l' := #[.val (.int p1), .val (.int p2), .val (.int p3), .val (.ref b102), .val (.int off), .val (.int len), .val (.ref b107), .unset, .unset, .unset, .unset, .unset, .unset]) rfl k) ?_
    show own_Go _ _ _ _ T110 (mkF m 78 #[.val (.int p1), .val (.int p2), .val (.int p3), .val (.ref b102), .val (.int off), .val (.int len), .val (.ref b107), .unset, .unset, .unset, .unset, .unset, .unset] [])
    refine own_go (fun _ k => XS.aload X110.here hx rfl (hb hby at_78) rfl rfl k) ?_
    show own_Go _ _ _ _ T110 (mkF m 80 #[.val (.int p1), .val (.int p2), .val (.int p3), .val (.ref b102), .val (.int off), .val (.int len), .val (.ref b107), .unset, .unset, .unset, .unset, .unset, .unset] [(.ref b107)])
    have f125 := (Nat.le_trans f109 K110.1)
    obtain ⟨v126, T126, h126, L126, X126, e126, hQ126, st126⟩ := own_callV X110 hx hZ hown (hw _ (List.mem_of_getElem? (i := 17) rfl)) (hw _ (List.mem_of_getElem? (i := 18) rfl)) (hw _ (List.mem_of_getElem? (i := 20) rfl)) (notFace_of_selects (args := #[]) (mvT hZ (hw _ (List.mem_of_getElem? (i := 20) rfl)))) (hw _ (List.mem_of_getElem? (i := 19) rfl)) (hw _ (List.mem_of_getElem? (i := 4) rfl)) (hw _ (List.mem_of_getElem? (i := 21) rfl)) (by decide) e110 E110x (argsL := []) (rest := []) (rm2 l Z a0 hw [] b107 off en h110 n0 f125 F110p F110e) 0 (by decide) (by decide) (by decide) (by decide) (g := (mkF m 80 #[.val (.int p1), .val (.int p2), .val (.int p3), .val (.ref b102), .val (.int off), .val (.int len), .val (.ref b107), .unset, .unset, .unset, .unset, .unset, .unset] [(.ref b107)])) rfl (by rw [hml]; rfl) (lenOf pd1 rfl) rfl (Nat.le_of_eq rfl) (hb hby at_80)
    obtain ⟨rfl, N126q, rfl⟩ := hQ126
    refine own_go (st126) ?_
    have N126 := Fr.app N110 N126q
    show own_Go _ _ _ _ T126 (mkF m 83 #[.val (.int p1), .val (.int p2), .val (.int p3), .val (.ref b102), .val (.int off), .val (.int len), .val (.ref b107), .unset, .unset, .unset, .unset, .unset, .unset] [(.int (own_hr off en))])
    refine own_go (fun _ k => XS.iload X126.here hx rfl (hb hby at_83) rfl k) ?_
    show own_Go _ _ _ _ T126 (mkF m 85 #[.val (.int p1), .val (.int p2), .val (.int p3), .val (.ref b102), .val (.int off), .val (.int len), .val (.ref b107), .unset, .unset, .unset, .unset, .unset, .unset] [(.int len), (.int (own_hr off en))])
    refine own_go (fun _ k => XS.ifNo X126.here hx rfl (hb hby at_85) rfl ((if0 _ _).trans (tlt (own_lt (by show (0 : Int) < _; omega))).2.2.2) k) ?_
    show own_Go _ _ _ _ T126 (mkF m 88 #[.val (.int p1), .val (.int p2), .val (.int p3), .val (.ref b102), .val (.int off), .val (.int len), .val (.ref b107), .unset, .unset, .unset, .unset, .unset, .unset] [(.int (own_hr off en))])
    refine own_go (fun _ k => XS.iconst X126.here hx rfl (hb hby at_88) k) ?_
    show own_Go _ _ _ _ T126 (mkF m 89 #[.val (.int p1), .val (.int p2), .val (.int p3), .val (.ref b102), .val (.int off), .val (.int len), .val (.ref b107), .unset, .unset, .unset, .unset, .unset, .unset] [(.int (1 : Int32)), (.int (own_hr off en))])
    refine own_go (fun _ k => XS.goto X126.here hx rfl (pc0 := 89) (pc' := 93) rfl (hb hby at_89) (by decide) (by decide) k) ?_
    show own_Go _ _ _ _ T126 (mkF m 93 #[.val (.int p1), .val (.int p2), .val (.int p3), .val (.ref b102), .val (.int off), .val (.int len), .val (.ref b107), .unset, .unset, .unset, .unset, .unset, .unset] [(.int (1 : Int32)), (.int (own_hr off en))])
    refine own_go (fun _ k => XS.icmpYes X126.here hx rfl (pc0 := 93) (pc' := 98) rfl (hb hby at_93) rfl (teq (by rw [own_hr, if_pos (own_lt (by omega))])).1 (by decide) (by decide) k) ?_
    show own_Go _ _ _ _ T126 (mkF m 98 #[.val (.int p1), .val (.int p2), .val (.int p3), .val (.ref b102), .val (.int off), .val (.int len), .val (.ref b107), .unset, .unset, .unset, .unset, .unset, .unset] [])
    refine own_go (fun _ k => XS.aload X126.here hx rfl (hb hby at_98) rfl rfl k) ?_
    show own_Go _ _ _ _ T126 (mkF m 100 #[.val (.int p1), .val (.int p2), .val (.int p3), .val (.ref b102), .val (.int off), .val (.int len), .val (.ref b107), .unset, .unset, .unset, .unset, .unset, .unset] [(.ref b107)])
    have f127 := ((V106.ext E107).keep K110 (ninS (Nat.ne_of_lt o_b107) nin0))
    have sp0 : own_spec f off en = (f (off).toNatClampNeg, (1 : Int32)) := own_one hf7 (own_lt (by omega))
    obtain ⟨v128, T128, h128, L128, X128, e128, hQ128, st128⟩ := own_callV X126 hx hZ hown (hw _ (List.mem_of_getElem? (i := 22) rfl)) (hw _ (List.mem_of_getElem? (i := 23) rfl)) (hw _ (List.mem_of_getElem? (i := 25) rfl)) (notFace_of_selects (args := #[]) (mvT hZ (hw _ (List.mem_of_getElem? (i := 25) rfl)))) (hw _ (List.mem_of_getElem? (i := 24) rfl)) (hw _ (List.mem_of_getElem? (i := 4) rfl)) (hw _ (List.mem_of_getElem? (i := 26) rfl)) (by decide) e126 E110x (argsL := []) (rest := []) (rm3 l Z a0 hw [] b107 b102 off en k102 (4 : Int32) _ _ f h110 n0 f125 E110x F110b F110p F110e g_b107 (Nat.ne_of_lt o_b107) f127 hf (own_bnd (by omega) (by omega) (by omega))) 0 (by decide) (by decide) (by decide) (by decide) (g := (mkF m 100 #[.val (.int p1), .val (.int p2), .val (.int p3), .val (.ref b102), .val (.int off), .val (.int len), .val (.ref b107), .unset, .unset, .unset, .unset, .unset, .unset] [(.ref b107)])) rfl (by rw [hml]; rfl) (lenOf pd2 rfl) rfl (Nat.le_of_eq rfl) (hb hby at_100)
    obtain ⟨rfl, N128q, K128, E128x, F128b, F128p, F128e⟩ := hQ128
    refine own_go (st128) ?_
    have N128 := Fr.app N126 N128q
    show own_Go _ _ _ _ T128 (mkF m 103 #[.val (.int p1), .val (.int p2), .val (.int p3), .val (.ref b102), .val (.int off), .val (.int len), .val (.ref b107), .unset, .unset, .unset, .unset, .unset, .unset] [(.int (own_spec f off en).1)])
    rw [show (own_spec f off en).1 = (f (off).toNatClampNeg) from by rw [sp0]]
    rw [sp0, show off + ((f (off).toNatClampNeg, (1 : Int32)) : Int32 × Int32).2 = (off + (1 : Int32)) from rfl] at F128p
    show own_Go _ _ _ _ T128 (mkF m 103 #[.val (.int p1), .val (.int p2), .val (.int p3), .val (.ref b102), .val (.int off), .val (.int len), .val (.ref b107), .unset, .unset, .unset, .unset, .unset, .unset] [(.int (f (off).toNatClampNeg))])
    refine own_go (fun _ k => XS.istore X128.here hx rfl (hb hby at_103) rfl (l' := #[.val (.int p1), .val (.int p2), .val (.int p3), .val (.ref b102), .val (.int off), .val (.int len), .val (.ref b107), .val (.int (f (off).toNatClampNeg)), .unset, .unset, .unset, .unset, .unset]) rfl k) ?_
    show own_Go _ _ _ _ T128 (mkF m 105 #[.val (.int p1), .val (.int p2), .val (.int p3), .val (.ref b102), .val (.int off), .val (.int len), .val (.ref b107), .val (.int (f (off).toNatClampNeg)), .unset, .unset, .unset, .unset, .unset] [])
    refine own_go (fun _ k => XS.iload X128.here hx rfl (hb hby at_105) rfl k) ?_
    show own_Go _ _ _ _ T128 (mkF m 107 #[.val (.int p1), .val (.int p2), .val (.int p3), .val (.ref b102), .val (.int off), .val (.int len), .val (.ref b107), .val (.int (f (off).toNatClampNeg)), .unset, .unset, .unset, .unset, .unset] [(.int len)])
    refine own_go (fun _ k => XS.ifNo X128.here hx rfl (hb hby at_107) rfl ((if0 _ _).trans (tlt (own_lt (by show (0 : Int) < _; omega))).2.2.2) k) ?_
    show own_Go _ _ _ _ T128 (mkF m 110 #[.val (.int p1), .val (.int p2), .val (.int p3), .val (.ref b102), .val (.int off), .val (.int len), .val (.ref b107), .val (.int (f (off).toNatClampNeg)), .unset, .unset, .unset, .unset, .unset] [])
    refine own_go (fun _ k => XS.aloadN X128.here hx rfl (hb hby at_110) rfl rfl k) ?_
    show own_Go _ _ _ _ T128 (mkF m 111 #[.val (.int p1), .val (.int p2), .val (.int p3), .val (.ref b102), .val (.int off), .val (.int len), .val (.ref b107), .val (.int (f (off).toNatClampNeg)), .unset, .unset, .unset, .unset, .unset] [(.ref b102)])
    refine own_go (fun _ k => XS.iload X128.here hx rfl (hb hby at_111) rfl k) ?_
    show own_Go _ _ _ _ T128 (mkF m 113 #[.val (.int p1), .val (.int p2), .val (.int p3), .val (.ref b102), .val (.int off), .val (.int len), .val (.ref b107), .val (.int (f (off).toNatClampNeg)), .unset, .unset, .unset, .unset, .unset] [(.int off), (.ref b102)])
    have f130 := (f127.keep K128 (ninS (Nat.ne_of_lt o_b107) nin0))
    obtain ⟨cl129, Ar129, q129, S129, M129, H129, G129⟩ := f130
    have V129 : Arv Z h128 b102 k102 .byte (4 : Int32) _ _ := ⟨cl129, Ar129, q129, S129, M129, H129, G129⟩
    have hin129 : ¬ (off < 0 ∨ cl129.slots.size ≤ (off).toNatClampNeg) := inb_of S129 ⟨own_nlt (by show (0 : Int32).toInt ≤ _; rw [own_e0]; omega), own_lt (by show _ < (4 : Int); omega)⟩
    have hat129 : cl129.slots[(off).toNatClampNeg]? = some (.int (f (off).toNatClampNeg)) := H129.at hin129 (hf _)
    refine own_go (X128.baloadBytes hx (j := off) (v := (.int (f (off).toNatClampNeg))) (by rw [e128]; exact Ar129.1) (State.isArrayOf_alike hZ.alike Ar129.2.1) Ar129.2.2 hin129 hat129 (g := (mkF m 113 #[.val (.int p1), .val (.int p2), .val (.int p3), .val (.ref b102), .val (.int off), .val (.int len), .val (.ref b107), .val (.int (f (off).toNatClampNeg)), .unset, .unset, .unset, .unset, .unset] [(.int off), (.ref b102)])) rfl rfl (hb hby at_113)) ?_
    show own_Go _ _ _ _ T128 (mkF m 114 #[.val (.int p1), .val (.int p2), .val (.int p3), .val (.ref b102), .val (.int off), .val (.int len), .val (.ref b107), .val (.int (f (off).toNatClampNeg)), .unset, .unset, .unset, .unset, .unset] [(.int (f (off).toNatClampNeg))])
    refine own_go (fun _ k => XS.goto X128.here hx rfl (pc0 := 114) (pc' := 118) rfl (hb hby at_114) (by decide) (by decide) k) ?_
    show own_Go _ _ _ _ T128 (mkF m 118 #[.val (.int p1), .val (.int p2), .val (.int p3), .val (.ref b102), .val (.int off), .val (.int len), .val (.ref b107), .val (.int (f (off).toNatClampNeg)), .unset, .unset, .unset, .unset, .unset] [(.int (f (off).toNatClampNeg))])
    refine own_go (fun _ k => XS.istore X128.here hx rfl (hb hby at_118) rfl (l' := #[.val (.int p1), .val (.int p2), .val (.int p3), .val (.ref b102), .val (.int off), .val (.int len), .val (.ref b107), .val (.int (f (off).toNatClampNeg)), .val (.int (f (off).toNatClampNeg)), .unset, .unset, .unset, .unset]) rfl k) ?_
    show own_Go _ _ _ _ T128 (mkF m 120 #[.val (.int p1), .val (.int p2), .val (.int p3), .val (.ref b102), .val (.int off), .val (.int len), .val (.ref b107), .val (.int (f (off).toNatClampNeg)), .val (.int (f (off).toNatClampNeg)), .unset, .unset, .unset, .unset] [])
    refine own_go (fun _ k => XS.iload X128.here hx rfl (hb hby at_120) rfl k) ?_
    show own_Go _ _ _ _ T128 (mkF m 122 #[.val (.int p1), .val (.int p2), .val (.int p3), .val (.ref b102), .val (.int off), .val (.int len), .val (.ref b107), .val (.int (f (off).toNatClampNeg)), .val (.int (f (off).toNatClampNeg)), .unset, .unset, .unset, .unset] [(.int (f (off).toNatClampNeg))])
    refine own_go (fun _ k => XS.iload X128.here hx rfl (hb hby at_122) rfl k) ?_
    show own_Go _ _ _ _ T128 (mkF m 124 #[.val (.int p1), .val (.int p2), .val (.int p3), .val (.ref b102), .val (.int off), .val (.int len), .val (.ref b107), .val (.int (f (off).toNatClampNeg)), .val (.int (f (off).toNatClampNeg)), .unset, .unset, .unset, .unset] [(.int (f (off).toNatClampNeg)), (.int (f (off).toNatClampNeg))])
    refine own_go (fun _ k => XS.icmpYes X128.here hx rfl (pc0 := 124) (pc' := 129) rfl (hb hby at_124) rfl (teq rfl).1 (by decide) (by decide) k) ?_
    show own_Go _ _ _ _ T128 (mkF m 129 #[.val (.int p1), .val (.int p2), .val (.int p3), .val (.ref b102), .val (.int off), .val (.int len), .val (.ref b107), .val (.int (f (off).toNatClampNeg)), .val (.int (f (off).toNatClampNeg)), .unset, .unset, .unset, .unset] [])
    refine own_go (fun _ k => XS.aload X128.here hx rfl (hb hby at_129) rfl rfl k) ?_
    show own_Go _ _ _ _ T128 (mkF m 131 #[.val (.int p1), .val (.int p2), .val (.int p3), .val (.ref b102), .val (.int off), .val (.int len), .val (.ref b107), .val (.int (f (off).toNatClampNeg)), .val (.int (f (off).toNatClampNeg)), .unset, .unset, .unset, .unset] [(.ref b107)])
    have f131 := (Nat.le_trans f125 K128.1)
    obtain ⟨v132, T132, h132, L132, X132, e132, hQ132, st132⟩ := own_callV X128 hx hZ hown (hw _ (List.mem_of_getElem? (i := 17) rfl)) (hw _ (List.mem_of_getElem? (i := 18) rfl)) (hw _ (List.mem_of_getElem? (i := 20) rfl)) (notFace_of_selects (args := #[]) (mvT hZ (hw _ (List.mem_of_getElem? (i := 20) rfl)))) (hw _ (List.mem_of_getElem? (i := 19) rfl)) (hw _ (List.mem_of_getElem? (i := 4) rfl)) (hw _ (List.mem_of_getElem? (i := 21) rfl)) (by decide) e128 E128x (argsL := []) (rest := []) (rm2 l Z a0 hw [] b107 (off + (1 : Int32)) en h128 n0 f131 F128p F128e) 0 (by decide) (by decide) (by decide) (by decide) (g := (mkF m 131 #[.val (.int p1), .val (.int p2), .val (.int p3), .val (.ref b102), .val (.int off), .val (.int len), .val (.ref b107), .val (.int (f (off).toNatClampNeg)), .val (.int (f (off).toNatClampNeg)), .unset, .unset, .unset, .unset] [(.ref b107)])) rfl (by rw [hml]; rfl) (lenOf pd1 rfl) rfl (Nat.le_of_eq rfl) (hb hby at_131)
    obtain ⟨rfl, N132q, rfl⟩ := hQ132
    refine own_go (st132) ?_
    have N132 := Fr.app N128 N132q
    show own_Go _ _ _ _ T132 (mkF m 134 #[.val (.int p1), .val (.int p2), .val (.int p3), .val (.ref b102), .val (.int off), .val (.int len), .val (.ref b107), .val (.int (f (off).toNatClampNeg)), .val (.int (f (off).toNatClampNeg)), .unset, .unset, .unset, .unset] [(.int (own_hr (off + (1 : Int32)) en))])
    refine own_go (fun _ k => XS.iload X132.here hx rfl (hb hby at_134) rfl k) ?_
    show own_Go _ _ _ _ T132 (mkF m 136 #[.val (.int p1), .val (.int p2), .val (.int p3), .val (.ref b102), .val (.int off), .val (.int len), .val (.ref b107), .val (.int (f (off).toNatClampNeg)), .val (.int (f (off).toNatClampNeg)), .unset, .unset, .unset, .unset] [(.int len), (.int (own_hr (off + (1 : Int32)) en))])
    refine own_go (fun _ k => XS.iconst X132.here hx rfl (hb hby at_136) k) ?_
    show own_Go _ _ _ _ T132 (mkF m 137 #[.val (.int p1), .val (.int p2), .val (.int p3), .val (.ref b102), .val (.int off), .val (.int len), .val (.ref b107), .val (.int (f (off).toNatClampNeg)), .val (.int (f (off).toNatClampNeg)), .unset, .unset, .unset, .unset] [(.int (1 : Int32)), (.int len), (.int (own_hr (off + (1 : Int32)) en))])
    refine own_go (fun _ k => XS.icmpYes X132.here hx rfl (pc0 := 137) (pc' := 144) rfl (hb hby at_137) rfl (flt (own_nlt (by show _ ≤ (1 : Int); omega))).2.2.2 (by decide) (by decide) k) ?_
    show own_Go _ _ _ _ T132 (mkF m 144 #[.val (.int p1), .val (.int p2), .val (.int p3), .val (.ref b102), .val (.int off), .val (.int len), .val (.ref b107), .val (.int (f (off).toNatClampNeg)), .val (.int (f (off).toNatClampNeg)), .unset, .unset, .unset, .unset] [(.int (own_hr (off + (1 : Int32)) en))])
    refine own_go (fun _ k => XS.iconst X132.here hx rfl (hb hby at_144) k) ?_
    show own_Go _ _ _ _ T132 (mkF m 145 #[.val (.int p1), .val (.int p2), .val (.int p3), .val (.ref b102), .val (.int off), .val (.int len), .val (.ref b107), .val (.int (f (off).toNatClampNeg)), .val (.int (f (off).toNatClampNeg)), .unset, .unset, .unset, .unset] [(.int (0 : Int32)), (.int (own_hr (off + (1 : Int32)) en))])
    refine own_go (fun _ k => XS.icmpYes X132.here hx rfl (pc0 := 145) (pc' := 150) rfl (hb hby at_145) rfl (teq (by rw [own_hr, if_neg (own_nlt (by omega))])).1 (by decide) (by decide) k) ?_
    show own_Go _ _ _ _ T132 (mkF m 150 #[.val (.int p1), .val (.int p2), .val (.int p3), .val (.ref b102), .val (.int off), .val (.int len), .val (.ref b107), .val (.int (f (off).toNatClampNeg)), .val (.int (f (off).toNatClampNeg)), .unset, .unset, .unset, .unset] [])
    refine own_go (fun _ k => XS.aload X132.here hx rfl (hb hby at_150) rfl rfl k) ?_
    show own_Go _ _ _ _ T132 (mkF m 152 #[.val (.int p1), .val (.int p2), .val (.int p3), .val (.ref b102), .val (.int off), .val (.int len), .val (.ref b107), .val (.int (f (off).toNatClampNeg)), .val (.int (f (off).toNatClampNeg)), .unset, .unset, .unset, .unset] [(.ref b107)])
    have sp1 : own_spec f (off + (1 : Int32)) en = ((-1 : Int32), en - (off + (1 : Int32))) := own_spA0 (own_nlt (by omega))
    obtain ⟨v133, T133, h133, L133, X133, e133, hQ133, st133⟩ := own_callV X132 hx hZ hown (hw _ (List.mem_of_getElem? (i := 22) rfl)) (hw _ (List.mem_of_getElem? (i := 23) rfl)) (hw _ (List.mem_of_getElem? (i := 25) rfl)) (notFace_of_selects (args := #[]) (mvT hZ (hw _ (List.mem_of_getElem? (i := 25) rfl)))) (hw _ (List.mem_of_getElem? (i := 24) rfl)) (hw _ (List.mem_of_getElem? (i := 4) rfl)) (hw _ (List.mem_of_getElem? (i := 26) rfl)) (by decide) e132 E128x (argsL := []) (rest := []) (rm3 l Z a0 hw [] b107 b102 (off + (1 : Int32)) en k102 (4 : Int32) _ _ f h128 n0 f131 E128x F128b F128p F128e g_b107 (Nat.ne_of_lt o_b107) V129 hf (own_bnd (by omega) (by omega) (by omega))) 0 (by decide) (by decide) (by decide) (by decide) (g := (mkF m 152 #[.val (.int p1), .val (.int p2), .val (.int p3), .val (.ref b102), .val (.int off), .val (.int len), .val (.ref b107), .val (.int (f (off).toNatClampNeg)), .val (.int (f (off).toNatClampNeg)), .unset, .unset, .unset, .unset] [(.ref b107)])) rfl (by rw [hml]; rfl) (lenOf pd2 rfl) rfl (Nat.le_of_eq rfl) (hb hby at_152)
    obtain ⟨rfl, N133q, K133, E133x, F133b, F133p, F133e⟩ := hQ133
    refine own_go (st133) ?_
    have N133 := Fr.app N132 N133q
    show own_Go _ _ _ _ T133 (mkF m 155 #[.val (.int p1), .val (.int p2), .val (.int p3), .val (.ref b102), .val (.int off), .val (.int len), .val (.ref b107), .val (.int (f (off).toNatClampNeg)), .val (.int (f (off).toNatClampNeg)), .unset, .unset, .unset, .unset] [(.int (own_spec f (off + (1 : Int32)) en).1)])
    rw [show (own_spec f (off + (1 : Int32)) en).1 = (-1 : Int32) from by rw [sp1]]
    rw [sp1, show (off + (1 : Int32)) + (((-1 : Int32), en - (off + (1 : Int32))) : Int32 × Int32).2 = (off + (1 : Int32)) from (own_cancel _ _).trans (Int32.toInt_inj.mp (by omega))] at F133p
    show own_Go _ _ _ _ T133 (mkF m 155 #[.val (.int p1), .val (.int p2), .val (.int p3), .val (.ref b102), .val (.int off), .val (.int len), .val (.ref b107), .val (.int (f (off).toNatClampNeg)), .val (.int (f (off).toNatClampNeg)), .unset, .unset, .unset, .unset] [(.int (-1 : Int32))])
    refine own_go (fun _ k => XS.istore X133.here hx rfl (hb hby at_155) rfl (l' := #[.val (.int p1), .val (.int p2), .val (.int p3), .val (.ref b102), .val (.int off), .val (.int len), .val (.ref b107), .val (.int (f (off).toNatClampNeg)), .val (.int (f (off).toNatClampNeg)), .val (.int (-1 : Int32)), .unset, .unset, .unset]) rfl k) ?_
    show own_Go _ _ _ _ T133 (mkF m 157 #[.val (.int p1), .val (.int p2), .val (.int p3), .val (.ref b102), .val (.int off), .val (.int len), .val (.ref b107), .val (.int (f (off).toNatClampNeg)), .val (.int (f (off).toNatClampNeg)), .val (.int (-1 : Int32)), .unset, .unset, .unset] [])
    refine own_go (fun _ k => XS.iload X133.here hx rfl (hb hby at_157) rfl k) ?_
    show own_Go _ _ _ _ T133 (mkF m 159 #[.val (.int p1), .val (.int p2), .val (.int p3), .val (.ref b102), .val (.int off), .val (.int len), .val (.ref b107), .val (.int (f (off).toNatClampNeg)), .val (.int (f (off).toNatClampNeg)), .val (.int (-1 : Int32)), .unset, .unset, .unset] [(.int len)])
    refine own_go (fun _ k => XS.iconst X133.here hx rfl (hb hby at_159) k) ?_
    show own_Go _ _ _ _ T133 (mkF m 160 #[.val (.int p1), .val (.int p2), .val (.int p3), .val (.ref b102), .val (.int off), .val (.int len), .val (.ref b107), .val (.int (f (off).toNatClampNeg)), .val (.int (f (off).toNatClampNeg)), .val (.int (-1 : Int32)), .unset, .unset, .unset] [(.int (1 : Int32)), (.int len)])
    refine own_go (fun _ k => XS.icmpYes X133.here hx rfl (pc0 := 160) (pc' := 172) rfl (hb hby at_160) rfl (flt (own_nlt (by show _ ≤ (1 : Int); omega))).2.2.2 (by decide) (by decide) k) ?_
    show own_Go _ _ _ _ T133 (mkF m 172 #[.val (.int p1), .val (.int p2), .val (.int p3), .val (.ref b102), .val (.int off), .val (.int len), .val (.ref b107), .val (.int (f (off).toNatClampNeg)), .val (.int (f (off).toNatClampNeg)), .val (.int (-1 : Int32)), .unset, .unset, .unset] [])
    refine own_go (fun _ k => XS.iconst X133.here hx rfl (hb hby at_172) k) ?_
    show own_Go _ _ _ _ T133 (mkF m 173 #[.val (.int p1), .val (.int p2), .val (.int p3), .val (.ref b102), .val (.int off), .val (.int len), .val (.ref b107), .val (.int (f (off).toNatClampNeg)), .val (.int (f (off).toNatClampNeg)), .val (.int (-1 : Int32)), .unset, .unset, .unset] [(.int (-1 : Int32))])
    refine own_go (fun _ k => XS.istore X133.here hx rfl (hb hby at_173) rfl (l' := #[.val (.int p1), .val (.int p2), .val (.int p3), .val (.ref b102), .val (.int off), .val (.int len), .val (.ref b107), .val (.int (f (off).toNatClampNeg)), .val (.int (f (off).toNatClampNeg)), .val (.int (-1 : Int32)), .val (.int (-1 : Int32)), .unset, .unset]) rfl k) ?_
    show own_Go _ _ _ _ T133 (mkF m 175 #[.val (.int p1), .val (.int p2), .val (.int p3), .val (.ref b102), .val (.int off), .val (.int len), .val (.ref b107), .val (.int (f (off).toNatClampNeg)), .val (.int (f (off).toNatClampNeg)), .val (.int (-1 : Int32)), .val (.int (-1 : Int32)), .unset, .unset] [])
    refine own_go (fun _ k => XS.iload X133.here hx rfl (hb hby at_175) rfl k) ?_
    show own_Go _ _ _ _ T133 (mkF m 177 #[.val (.int p1), .val (.int p2), .val (.int p3), .val (.ref b102), .val (.int off), .val (.int len), .val (.ref b107), .val (.int (f (off).toNatClampNeg)), .val (.int (f (off).toNatClampNeg)), .val (.int (-1 : Int32)), .val (.int (-1 : Int32)), .unset, .unset] [(.int (-1 : Int32))])
    refine own_go (fun _ k => XS.iload X133.here hx rfl (hb hby at_177) rfl k) ?_
    show own_Go _ _ _ _ T133 (mkF m 179 #[.val (.int p1), .val (.int p2), .val (.int p3), .val (.ref b102), .val (.int off), .val (.int len), .val (.ref b107), .val (.int (f (off).toNatClampNeg)), .val (.int (f (off).toNatClampNeg)), .val (.int (-1 : Int32)), .val (.int (-1 : Int32)), .unset, .unset] [(.int (-1 : Int32)), (.int (-1 : Int32))])
    refine own_go (fun _ k => XS.icmpYes X133.here hx rfl (pc0 := 179) (pc' := 184) rfl (hb hby at_179) rfl (teq rfl).1 (by decide) (by decide) k) ?_
    show own_Go _ _ _ _ T133 (mkF m 184 #[.val (.int p1), .val (.int p2), .val (.int p3), .val (.ref b102), .val (.int off), .val (.int len), .val (.ref b107), .val (.int (f (off).toNatClampNeg)), .val (.int (f (off).toNatClampNeg)), .val (.int (-1 : Int32)), .val (.int (-1 : Int32)), .unset, .unset] [])
    refine own_go (fun _ k => XS.aload X133.here hx rfl (hb hby at_184) rfl rfl k) ?_
    show own_Go _ _ _ _ T133 (mkF m 186 #[.val (.int p1), .val (.int p2), .val (.int p3), .val (.ref b102), .val (.int off), .val (.int len), .val (.ref b107), .val (.int (f (off).toNatClampNeg)), .val (.int (f (off).toNatClampNeg)), .val (.int (-1 : Int32)), .val (.int (-1 : Int32)), .unset, .unset] [(.ref b107)])
    have f134 := (Nat.le_trans f131 K133.1)
    obtain ⟨v135, T135, h135, L135, X135, e135, hQ135, st135⟩ := own_callV X133 hx hZ hown (hw _ (List.mem_of_getElem? (i := 17) rfl)) (hw _ (List.mem_of_getElem? (i := 18) rfl)) (hw _ (List.mem_of_getElem? (i := 20) rfl)) (notFace_of_selects (args := #[]) (mvT hZ (hw _ (List.mem_of_getElem? (i := 20) rfl)))) (hw _ (List.mem_of_getElem? (i := 19) rfl)) (hw _ (List.mem_of_getElem? (i := 4) rfl)) (hw _ (List.mem_of_getElem? (i := 21) rfl)) (by decide) e133 E133x (argsL := []) (rest := []) (rm2 l Z a0 hw [] b107 (off + (1 : Int32)) en h133 n0 f134 F133p F133e) 0 (by decide) (by decide) (by decide) (by decide) (g := (mkF m 186 #[.val (.int p1), .val (.int p2), .val (.int p3), .val (.ref b102), .val (.int off), .val (.int len), .val (.ref b107), .val (.int (f (off).toNatClampNeg)), .val (.int (f (off).toNatClampNeg)), .val (.int (-1 : Int32)), .val (.int (-1 : Int32)), .unset, .unset] [(.ref b107)])) rfl (by rw [hml]; rfl) (lenOf pd1 rfl) rfl (Nat.le_of_eq rfl) (hb hby at_186)
    obtain ⟨rfl, N135q, rfl⟩ := hQ135
    refine own_go (st135) ?_
    have N135 := Fr.app N133 N135q
    show own_Go _ _ _ _ T135 (mkF m 189 #[.val (.int p1), .val (.int p2), .val (.int p3), .val (.ref b102), .val (.int off), .val (.int len), .val (.ref b107), .val (.int (f (off).toNatClampNeg)), .val (.int (f (off).toNatClampNeg)), .val (.int (-1 : Int32)), .val (.int (-1 : Int32)), .unset, .unset] [(.int (own_hr (off + (1 : Int32)) en))])
    refine own_go (fun _ k => XS.iload X135.here hx rfl (hb hby at_189) rfl k) ?_
    show own_Go _ _ _ _ T135 (mkF m 191 #[.val (.int p1), .val (.int p2), .val (.int p3), .val (.ref b102), .val (.int off), .val (.int len), .val (.ref b107), .val (.int (f (off).toNatClampNeg)), .val (.int (f (off).toNatClampNeg)), .val (.int (-1 : Int32)), .val (.int (-1 : Int32)), .unset, .unset] [(.int len), (.int (own_hr (off + (1 : Int32)) en))])
    refine own_go (fun _ k => XS.iconst X135.here hx rfl (hb hby at_191) k) ?_
    show own_Go _ _ _ _ T135 (mkF m 192 #[.val (.int p1), .val (.int p2), .val (.int p3), .val (.ref b102), .val (.int off), .val (.int len), .val (.ref b107), .val (.int (f (off).toNatClampNeg)), .val (.int (f (off).toNatClampNeg)), .val (.int (-1 : Int32)), .val (.int (-1 : Int32)), .unset, .unset] [(.int (2 : Int32)), (.int len), (.int (own_hr (off + (1 : Int32)) en))])
    refine own_go (fun _ k => XS.icmpYes X135.here hx rfl (pc0 := 192) (pc' := 199) rfl (hb hby at_192) rfl (flt (own_nlt (by show _ ≤ (2 : Int); omega))).2.2.2 (by decide) (by decide) k) ?_
    show own_Go _ _ _ _ T135 (mkF m 199 #[.val (.int p1), .val (.int p2), .val (.int p3), .val (.ref b102), .val (.int off), .val (.int len), .val (.ref b107), .val (.int (f (off).toNatClampNeg)), .val (.int (f (off).toNatClampNeg)), .val (.int (-1 : Int32)), .val (.int (-1 : Int32)), .unset, .unset] [(.int (own_hr (off + (1 : Int32)) en))])
    refine own_go (fun _ k => XS.iconst X135.here hx rfl (hb hby at_199) k) ?_
    show own_Go _ _ _ _ T135 (mkF m 200 #[.val (.int p1), .val (.int p2), .val (.int p3), .val (.ref b102), .val (.int off), .val (.int len), .val (.ref b107), .val (.int (f (off).toNatClampNeg)), .val (.int (f (off).toNatClampNeg)), .val (.int (-1 : Int32)), .val (.int (-1 : Int32)), .unset, .unset] [(.int (0 : Int32)), (.int (own_hr (off + (1 : Int32)) en))])
    refine own_go (fun _ k => XS.icmpYes X135.here hx rfl (pc0 := 200) (pc' := 205) rfl (hb hby at_200) rfl (teq (by rw [own_hr, if_neg (own_nlt (by omega))])).1 (by decide) (by decide) k) ?_
    show own_Go _ _ _ _ T135 (mkF m 205 #[.val (.int p1), .val (.int p2), .val (.int p3), .val (.ref b102), .val (.int off), .val (.int len), .val (.ref b107), .val (.int (f (off).toNatClampNeg)), .val (.int (f (off).toNatClampNeg)), .val (.int (-1 : Int32)), .val (.int (-1 : Int32)), .unset, .unset] [])
    refine own_go (fun _ k => XS.aload X135.here hx rfl (hb hby at_205) rfl rfl k) ?_
    show own_Go _ _ _ _ T135 (mkF m 207 #[.val (.int p1), .val (.int p2), .val (.int p3), .val (.ref b102), .val (.int off), .val (.int len), .val (.ref b107), .val (.int (f (off).toNatClampNeg)), .val (.int (f (off).toNatClampNeg)), .val (.int (-1 : Int32)), .val (.int (-1 : Int32)), .unset, .unset] [(.ref b107)])
    have f136 := (V129.keep K133 (ninS (Nat.ne_of_lt o_b107) nin0))
    have sp2 : own_spec f (off + (1 : Int32)) en = ((-1 : Int32), en - (off + (1 : Int32))) := own_spA0 (own_nlt (by omega))
    obtain ⟨v137, T137, h137, L137, X137, e137, hQ137, st137⟩ := own_callV X135 hx hZ hown (hw _ (List.mem_of_getElem? (i := 22) rfl)) (hw _ (List.mem_of_getElem? (i := 23) rfl)) (hw _ (List.mem_of_getElem? (i := 25) rfl)) (notFace_of_selects (args := #[]) (mvT hZ (hw _ (List.mem_of_getElem? (i := 25) rfl)))) (hw _ (List.mem_of_getElem? (i := 24) rfl)) (hw _ (List.mem_of_getElem? (i := 4) rfl)) (hw _ (List.mem_of_getElem? (i := 26) rfl)) (by decide) e135 E133x (argsL := []) (rest := []) (rm3 l Z a0 hw [] b107 b102 (off + (1 : Int32)) en k102 (4 : Int32) _ _ f h133 n0 f134 E133x F133b F133p F133e g_b107 (Nat.ne_of_lt o_b107) f136 hf (own_bnd (by omega) (by omega) (by omega))) 0 (by decide) (by decide) (by decide) (by decide) (g := (mkF m 207 #[.val (.int p1), .val (.int p2), .val (.int p3), .val (.ref b102), .val (.int off), .val (.int len), .val (.ref b107), .val (.int (f (off).toNatClampNeg)), .val (.int (f (off).toNatClampNeg)), .val (.int (-1 : Int32)), .val (.int (-1 : Int32)), .unset, .unset] [(.ref b107)])) rfl (by rw [hml]; rfl) (lenOf pd2 rfl) rfl (Nat.le_of_eq rfl) (hb hby at_207)
    obtain ⟨rfl, N137q, K137, E137x, F137b, F137p, F137e⟩ := hQ137
    refine own_go (st137) ?_
    have N137 := Fr.app N135 N137q
    show own_Go _ _ _ _ T137 (mkF m 210 #[.val (.int p1), .val (.int p2), .val (.int p3), .val (.ref b102), .val (.int off), .val (.int len), .val (.ref b107), .val (.int (f (off).toNatClampNeg)), .val (.int (f (off).toNatClampNeg)), .val (.int (-1 : Int32)), .val (.int (-1 : Int32)), .unset, .unset] [(.int (own_spec f (off + (1 : Int32)) en).1)])
    rw [show (own_spec f (off + (1 : Int32)) en).1 = (-1 : Int32) from by rw [sp2]]
    rw [sp2, show (off + (1 : Int32)) + (((-1 : Int32), en - (off + (1 : Int32))) : Int32 × Int32).2 = (off + (1 : Int32)) from (own_cancel _ _).trans (Int32.toInt_inj.mp (by omega))] at F137p
    show own_Go _ _ _ _ T137 (mkF m 210 #[.val (.int p1), .val (.int p2), .val (.int p3), .val (.ref b102), .val (.int off), .val (.int len), .val (.ref b107), .val (.int (f (off).toNatClampNeg)), .val (.int (f (off).toNatClampNeg)), .val (.int (-1 : Int32)), .val (.int (-1 : Int32)), .unset, .unset] [(.int (-1 : Int32))])
    refine own_go (fun _ k => XS.istore X137.here hx rfl (hb hby at_210) rfl (l' := #[.val (.int p1), .val (.int p2), .val (.int p3), .val (.ref b102), .val (.int off), .val (.int len), .val (.ref b107), .val (.int (f (off).toNatClampNeg)), .val (.int (f (off).toNatClampNeg)), .val (.int (-1 : Int32)), .val (.int (-1 : Int32)), .val (.int (-1 : Int32)), .unset]) rfl k) ?_
    show own_Go _ _ _ _ T137 (mkF m 212 #[.val (.int p1), .val (.int p2), .val (.int p3), .val (.ref b102), .val (.int off), .val (.int len), .val (.ref b107), .val (.int (f (off).toNatClampNeg)), .val (.int (f (off).toNatClampNeg)), .val (.int (-1 : Int32)), .val (.int (-1 : Int32)), .val (.int (-1 : Int32)), .unset] [])
    refine own_go (fun _ k => XS.iload X137.here hx rfl (hb hby at_212) rfl k) ?_
    show own_Go _ _ _ _ T137 (mkF m 214 #[.val (.int p1), .val (.int p2), .val (.int p3), .val (.ref b102), .val (.int off), .val (.int len), .val (.ref b107), .val (.int (f (off).toNatClampNeg)), .val (.int (f (off).toNatClampNeg)), .val (.int (-1 : Int32)), .val (.int (-1 : Int32)), .val (.int (-1 : Int32)), .unset] [(.int len)])
    refine own_go (fun _ k => XS.iconst X137.here hx rfl (hb hby at_214) k) ?_
    show own_Go _ _ _ _ T137 (mkF m 215 #[.val (.int p1), .val (.int p2), .val (.int p3), .val (.ref b102), .val (.int off), .val (.int len), .val (.ref b107), .val (.int (f (off).toNatClampNeg)), .val (.int (f (off).toNatClampNeg)), .val (.int (-1 : Int32)), .val (.int (-1 : Int32)), .val (.int (-1 : Int32)), .unset] [(.int (2 : Int32)), (.int len)])
    refine own_go (fun _ k => XS.icmpYes X137.here hx rfl (pc0 := 215) (pc' := 227) rfl (hb hby at_215) rfl (flt (own_nlt (by show _ ≤ (2 : Int); omega))).2.2.2 (by decide) (by decide) k) ?_
    show own_Go _ _ _ _ T137 (mkF m 227 #[.val (.int p1), .val (.int p2), .val (.int p3), .val (.ref b102), .val (.int off), .val (.int len), .val (.ref b107), .val (.int (f (off).toNatClampNeg)), .val (.int (f (off).toNatClampNeg)), .val (.int (-1 : Int32)), .val (.int (-1 : Int32)), .val (.int (-1 : Int32)), .unset] [])
    refine own_go (fun _ k => XS.iconst X137.here hx rfl (hb hby at_227) k) ?_
    show own_Go _ _ _ _ T137 (mkF m 228 #[.val (.int p1), .val (.int p2), .val (.int p3), .val (.ref b102), .val (.int off), .val (.int len), .val (.ref b107), .val (.int (f (off).toNatClampNeg)), .val (.int (f (off).toNatClampNeg)), .val (.int (-1 : Int32)), .val (.int (-1 : Int32)), .val (.int (-1 : Int32)), .unset] [(.int (-1 : Int32))])
    refine own_go (fun _ k => XS.istore X137.here hx rfl (hb hby at_228) rfl (l' := #[.val (.int p1), .val (.int p2), .val (.int p3), .val (.ref b102), .val (.int off), .val (.int len), .val (.ref b107), .val (.int (f (off).toNatClampNeg)), .val (.int (f (off).toNatClampNeg)), .val (.int (-1 : Int32)), .val (.int (-1 : Int32)), .val (.int (-1 : Int32)), .val (.int (-1 : Int32))]) rfl k) ?_
    show own_Go _ _ _ _ T137 (mkF m 230 #[.val (.int p1), .val (.int p2), .val (.int p3), .val (.ref b102), .val (.int off), .val (.int len), .val (.ref b107), .val (.int (f (off).toNatClampNeg)), .val (.int (f (off).toNatClampNeg)), .val (.int (-1 : Int32)), .val (.int (-1 : Int32)), .val (.int (-1 : Int32)), .val (.int (-1 : Int32))] [])
    refine own_go (fun _ k => XS.iload X137.here hx rfl (hb hby at_230) rfl k) ?_
    show own_Go _ _ _ _ T137 (mkF m 232 #[.val (.int p1), .val (.int p2), .val (.int p3), .val (.ref b102), .val (.int off), .val (.int len), .val (.ref b107), .val (.int (f (off).toNatClampNeg)), .val (.int (f (off).toNatClampNeg)), .val (.int (-1 : Int32)), .val (.int (-1 : Int32)), .val (.int (-1 : Int32)), .val (.int (-1 : Int32))] [(.int (-1 : Int32))])
    refine own_go (fun _ k => XS.iload X137.here hx rfl (hb hby at_232) rfl k) ?_
    show own_Go _ _ _ _ T137 (mkF m 234 #[.val (.int p1), .val (.int p2), .val (.int p3), .val (.ref b102), .val (.int off), .val (.int len), .val (.ref b107), .val (.int (f (off).toNatClampNeg)), .val (.int (f (off).toNatClampNeg)), .val (.int (-1 : Int32)), .val (.int (-1 : Int32)), .val (.int (-1 : Int32)), .val (.int (-1 : Int32))] [(.int (-1 : Int32)), (.int (-1 : Int32))])
    refine own_go (fun _ k => XS.icmpYes X137.here hx rfl (pc0 := 234) (pc' := 239) rfl (hb hby at_234) rfl (teq rfl).1 (by decide) (by decide) k) ?_
    show own_Go _ _ _ _ T137 (mkF m 239 #[.val (.int p1), .val (.int p2), .val (.int p3), .val (.ref b102), .val (.int off), .val (.int len), .val (.ref b107), .val (.int (f (off).toNatClampNeg)), .val (.int (f (off).toNatClampNeg)), .val (.int (-1 : Int32)), .val (.int (-1 : Int32)), .val (.int (-1 : Int32)), .val (.int (-1 : Int32))] [])
    refine own_go (fun _ k => XS.aload X137.here hx rfl (hb hby at_239) rfl rfl k) ?_
    show own_Go _ _ _ _ T137 (mkF m 241 #[.val (.int p1), .val (.int p2), .val (.int p3), .val (.ref b102), .val (.int off), .val (.int len), .val (.ref b107), .val (.int (f (off).toNatClampNeg)), .val (.int (f (off).toNatClampNeg)), .val (.int (-1 : Int32)), .val (.int (-1 : Int32)), .val (.int (-1 : Int32)), .val (.int (-1 : Int32))] [(.ref b107)])
    have f138 := (Nat.le_trans f134 K137.1)
    obtain ⟨v139, T139, h139, L139, X139, e139, hQ139, st139⟩ := own_callV X137 hx hZ hown (hw _ (List.mem_of_getElem? (i := 17) rfl)) (hw _ (List.mem_of_getElem? (i := 18) rfl)) (hw _ (List.mem_of_getElem? (i := 20) rfl)) (notFace_of_selects (args := #[]) (mvT hZ (hw _ (List.mem_of_getElem? (i := 20) rfl)))) (hw _ (List.mem_of_getElem? (i := 19) rfl)) (hw _ (List.mem_of_getElem? (i := 4) rfl)) (hw _ (List.mem_of_getElem? (i := 21) rfl)) (by decide) e137 E137x (argsL := []) (rest := []) (rm2 l Z a0 hw [] b107 (off + (1 : Int32)) en h137 n0 f138 F137p F137e) 0 (by decide) (by decide) (by decide) (by decide) (g := (mkF m 241 #[.val (.int p1), .val (.int p2), .val (.int p3), .val (.ref b102), .val (.int off), .val (.int len), .val (.ref b107), .val (.int (f (off).toNatClampNeg)), .val (.int (f (off).toNatClampNeg)), .val (.int (-1 : Int32)), .val (.int (-1 : Int32)), .val (.int (-1 : Int32)), .val (.int (-1 : Int32))] [(.ref b107)])) rfl (by rw [hml]; rfl) (lenOf pd1 rfl) rfl (Nat.le_of_eq rfl) (hb hby at_241)
    obtain ⟨rfl, N139q, rfl⟩ := hQ139
    refine own_go (st139) ?_
    have N139 := Fr.app N137 N139q
    show own_Go _ _ _ _ T139 (mkF m 244 #[.val (.int p1), .val (.int p2), .val (.int p3), .val (.ref b102), .val (.int off), .val (.int len), .val (.ref b107), .val (.int (f (off).toNatClampNeg)), .val (.int (f (off).toNatClampNeg)), .val (.int (-1 : Int32)), .val (.int (-1 : Int32)), .val (.int (-1 : Int32)), .val (.int (-1 : Int32))] [(.int (own_hr (off + (1 : Int32)) en))])
    refine own_go (fun _ k => XS.iload X139.here hx rfl (hb hby at_244) rfl k) ?_
    show own_Go _ _ _ _ T139 (mkF m 246 #[.val (.int p1), .val (.int p2), .val (.int p3), .val (.ref b102), .val (.int off), .val (.int len), .val (.ref b107), .val (.int (f (off).toNatClampNeg)), .val (.int (f (off).toNatClampNeg)), .val (.int (-1 : Int32)), .val (.int (-1 : Int32)), .val (.int (-1 : Int32)), .val (.int (-1 : Int32))] [(.int len), (.int (own_hr (off + (1 : Int32)) en))])
    refine own_go (fun _ k => XS.iconst X139.here hx rfl (hb hby at_246) k) ?_
    show own_Go _ _ _ _ T139 (mkF m 247 #[.val (.int p1), .val (.int p2), .val (.int p3), .val (.ref b102), .val (.int off), .val (.int len), .val (.ref b107), .val (.int (f (off).toNatClampNeg)), .val (.int (f (off).toNatClampNeg)), .val (.int (-1 : Int32)), .val (.int (-1 : Int32)), .val (.int (-1 : Int32)), .val (.int (-1 : Int32))] [(.int (3 : Int32)), (.int len), (.int (own_hr (off + (1 : Int32)) en))])
    refine own_go (fun _ k => XS.icmpYes X139.here hx rfl (pc0 := 247) (pc' := 254) rfl (hb hby at_247) rfl (flt (own_nlt (by show _ ≤ (3 : Int); omega))).2.2.2 (by decide) (by decide) k) ?_
    show own_Go _ _ _ _ T139 (mkF m 254 #[.val (.int p1), .val (.int p2), .val (.int p3), .val (.ref b102), .val (.int off), .val (.int len), .val (.ref b107), .val (.int (f (off).toNatClampNeg)), .val (.int (f (off).toNatClampNeg)), .val (.int (-1 : Int32)), .val (.int (-1 : Int32)), .val (.int (-1 : Int32)), .val (.int (-1 : Int32))] [(.int (own_hr (off + (1 : Int32)) en))])
    refine own_go (fun _ k => XS.iconst X139.here hx rfl (hb hby at_254) k) ?_
    show own_Go _ _ _ _ T139 (mkF m 255 #[.val (.int p1), .val (.int p2), .val (.int p3), .val (.ref b102), .val (.int off), .val (.int len), .val (.ref b107), .val (.int (f (off).toNatClampNeg)), .val (.int (f (off).toNatClampNeg)), .val (.int (-1 : Int32)), .val (.int (-1 : Int32)), .val (.int (-1 : Int32)), .val (.int (-1 : Int32))] [(.int (0 : Int32)), (.int (own_hr (off + (1 : Int32)) en))])
    refine own_go (fun _ k => XS.icmpNo X139.here hx rfl (hb hby at_255) rfl (teq (by rw [own_hr, if_neg (own_nlt (by omega))])).2 k) ?_
    show own_Go _ _ _ _ T139 (mkF m 258 #[.val (.int p1), .val (.int p2), .val (.int p3), .val (.ref b102), .val (.int off), .val (.int len), .val (.ref b107), .val (.int (f (off).toNatClampNeg)), .val (.int (f (off).toNatClampNeg)), .val (.int (-1 : Int32)), .val (.int (-1 : Int32)), .val (.int (-1 : Int32)), .val (.int (-1 : Int32))] [])
    refine own_go (fun _ k => XS.iconst X139.here hx rfl (hb hby at_258) k) ?_
    show own_Go _ _ _ _ T139 (mkF m 259 #[.val (.int p1), .val (.int p2), .val (.int p3), .val (.ref b102), .val (.int off), .val (.int len), .val (.ref b107), .val (.int (f (off).toNatClampNeg)), .val (.int (f (off).toNatClampNeg)), .val (.int (-1 : Int32)), .val (.int (-1 : Int32)), .val (.int (-1 : Int32)), .val (.int (-1 : Int32))] [(.int (1 : Int32))])
    refine own_go (fun _ k => XS.goto X139.here hx rfl (pc0 := 259) (pc' := 263) rfl (hb hby at_259) (by decide) (by decide) k) ?_
    show own_Go _ _ _ _ T139 (mkF m 263 #[.val (.int p1), .val (.int p2), .val (.int p3), .val (.ref b102), .val (.int off), .val (.int len), .val (.ref b107), .val (.int (f (off).toNatClampNeg)), .val (.int (f (off).toNatClampNeg)), .val (.int (-1 : Int32)), .val (.int (-1 : Int32)), .val (.int (-1 : Int32)), .val (.int (-1 : Int32))] [(.int (1 : Int32))])
    exact own_retN X139 hx hret (by simp) hlk (hb hby at_263) (by decide) (by decide) (by first | exact ⟨rfl, N139⟩ | (rw [e139]; exact ⟨rfl, N139⟩))
  · skip
    show own_Go _ _ _ _ T110 (mkF m 76 #[.val (.int p1), .val (.int p2), .val (.int p3), .val (.ref b102), .val (.int off), .val (.int len), .unset, .unset, .unset, .unset, .unset, .unset, .unset] [(.ref b107)])
    refine own_go (fun _ k => XS.astore X110.here hx rfl (hb hby at_76) rfl rfl (l' := #[.val (.int p1), .val (.int p2), .val (.int p3), .val (.ref b102), .val (.int off), .val (.int len), .val (.ref b107), .unset, .unset, .unset, .unset, .unset, .unset]) rfl k) ?_
    show own_Go _ _ _ _ T110 (mkF m 78 #[.val (.int p1), .val (.int p2), .val (.int p3), .val (.ref b102), .val (.int off), .val (.int len), .val (.ref b107), .unset, .unset, .unset, .unset, .unset, .unset] [])
    refine own_go (fun _ k => XS.aload X110.here hx rfl (hb hby at_78) rfl rfl k) ?_
    show own_Go _ _ _ _ T110 (mkF m 80 #[.val (.int p1), .val (.int p2), .val (.int p3), .val (.ref b102), .val (.int off), .val (.int len), .val (.ref b107), .unset, .unset, .unset, .unset, .unset, .unset] [(.ref b107)])
    have f140 := (Nat.le_trans f109 K110.1)
    obtain ⟨v141, T141, h141, L141, X141, e141, hQ141, st141⟩ := own_callV X110 hx hZ hown (hw _ (List.mem_of_getElem? (i := 17) rfl)) (hw _ (List.mem_of_getElem? (i := 18) rfl)) (hw _ (List.mem_of_getElem? (i := 20) rfl)) (notFace_of_selects (args := #[]) (mvT hZ (hw _ (List.mem_of_getElem? (i := 20) rfl)))) (hw _ (List.mem_of_getElem? (i := 19) rfl)) (hw _ (List.mem_of_getElem? (i := 4) rfl)) (hw _ (List.mem_of_getElem? (i := 21) rfl)) (by decide) e110 E110x (argsL := []) (rest := []) (rm2 l Z a0 hw [] b107 off en h110 n0 f140 F110p F110e) 0 (by decide) (by decide) (by decide) (by decide) (g := (mkF m 80 #[.val (.int p1), .val (.int p2), .val (.int p3), .val (.ref b102), .val (.int off), .val (.int len), .val (.ref b107), .unset, .unset, .unset, .unset, .unset, .unset] [(.ref b107)])) rfl (by rw [hml]; rfl) (lenOf pd1 rfl) rfl (Nat.le_of_eq rfl) (hb hby at_80)
    obtain ⟨rfl, N141q, rfl⟩ := hQ141
    refine own_go (st141) ?_
    have N141 := Fr.app N110 N141q
    show own_Go _ _ _ _ T141 (mkF m 83 #[.val (.int p1), .val (.int p2), .val (.int p3), .val (.ref b102), .val (.int off), .val (.int len), .val (.ref b107), .unset, .unset, .unset, .unset, .unset, .unset] [(.int (own_hr off en))])
    refine own_go (fun _ k => XS.iload X141.here hx rfl (hb hby at_83) rfl k) ?_
    show own_Go _ _ _ _ T141 (mkF m 85 #[.val (.int p1), .val (.int p2), .val (.int p3), .val (.ref b102), .val (.int off), .val (.int len), .val (.ref b107), .unset, .unset, .unset, .unset, .unset, .unset] [(.int len), (.int (own_hr off en))])
    refine own_go (fun _ k => XS.ifNo X141.here hx rfl (hb hby at_85) rfl ((if0 _ _).trans (tlt (own_lt (by show (0 : Int) < _; omega))).2.2.2) k) ?_
    show own_Go _ _ _ _ T141 (mkF m 88 #[.val (.int p1), .val (.int p2), .val (.int p3), .val (.ref b102), .val (.int off), .val (.int len), .val (.ref b107), .unset, .unset, .unset, .unset, .unset, .unset] [(.int (own_hr off en))])
    refine own_go (fun _ k => XS.iconst X141.here hx rfl (hb hby at_88) k) ?_
    show own_Go _ _ _ _ T141 (mkF m 89 #[.val (.int p1), .val (.int p2), .val (.int p3), .val (.ref b102), .val (.int off), .val (.int len), .val (.ref b107), .unset, .unset, .unset, .unset, .unset, .unset] [(.int (1 : Int32)), (.int (own_hr off en))])
    refine own_go (fun _ k => XS.goto X141.here hx rfl (pc0 := 89) (pc' := 93) rfl (hb hby at_89) (by decide) (by decide) k) ?_
    show own_Go _ _ _ _ T141 (mkF m 93 #[.val (.int p1), .val (.int p2), .val (.int p3), .val (.ref b102), .val (.int off), .val (.int len), .val (.ref b107), .unset, .unset, .unset, .unset, .unset, .unset] [(.int (1 : Int32)), (.int (own_hr off en))])
    refine own_go (fun _ k => XS.icmpYes X141.here hx rfl (pc0 := 93) (pc' := 98) rfl (hb hby at_93) rfl (teq (by rw [own_hr, if_pos (own_lt (by omega))])).1 (by decide) (by decide) k) ?_
    show own_Go _ _ _ _ T141 (mkF m 98 #[.val (.int p1), .val (.int p2), .val (.int p3), .val (.ref b102), .val (.int off), .val (.int len), .val (.ref b107), .unset, .unset, .unset, .unset, .unset, .unset] [])
    refine own_go (fun _ k => XS.aload X141.here hx rfl (hb hby at_98) rfl rfl k) ?_
    show own_Go _ _ _ _ T141 (mkF m 100 #[.val (.int p1), .val (.int p2), .val (.int p3), .val (.ref b102), .val (.int off), .val (.int len), .val (.ref b107), .unset, .unset, .unset, .unset, .unset, .unset] [(.ref b107)])
    have f142 := ((V106.ext E107).keep K110 (ninS (Nat.ne_of_lt o_b107) nin0))
    have sp0 : own_spec f off en = (f (off).toNatClampNeg, (1 : Int32)) := own_one hf7 (own_lt (by omega))
    obtain ⟨v143, T143, h143, L143, X143, e143, hQ143, st143⟩ := own_callV X141 hx hZ hown (hw _ (List.mem_of_getElem? (i := 22) rfl)) (hw _ (List.mem_of_getElem? (i := 23) rfl)) (hw _ (List.mem_of_getElem? (i := 25) rfl)) (notFace_of_selects (args := #[]) (mvT hZ (hw _ (List.mem_of_getElem? (i := 25) rfl)))) (hw _ (List.mem_of_getElem? (i := 24) rfl)) (hw _ (List.mem_of_getElem? (i := 4) rfl)) (hw _ (List.mem_of_getElem? (i := 26) rfl)) (by decide) e141 E110x (argsL := []) (rest := []) (rm3 l Z a0 hw [] b107 b102 off en k102 (4 : Int32) _ _ f h110 n0 f140 E110x F110b F110p F110e g_b107 (Nat.ne_of_lt o_b107) f142 hf (own_bnd (by omega) (by omega) (by omega))) 0 (by decide) (by decide) (by decide) (by decide) (g := (mkF m 100 #[.val (.int p1), .val (.int p2), .val (.int p3), .val (.ref b102), .val (.int off), .val (.int len), .val (.ref b107), .unset, .unset, .unset, .unset, .unset, .unset] [(.ref b107)])) rfl (by rw [hml]; rfl) (lenOf pd2 rfl) rfl (Nat.le_of_eq rfl) (hb hby at_100)
    obtain ⟨rfl, N143q, K143, E143x, F143b, F143p, F143e⟩ := hQ143
    refine own_go (st143) ?_
    have N143 := Fr.app N141 N143q
    show own_Go _ _ _ _ T143 (mkF m 103 #[.val (.int p1), .val (.int p2), .val (.int p3), .val (.ref b102), .val (.int off), .val (.int len), .val (.ref b107), .unset, .unset, .unset, .unset, .unset, .unset] [(.int (own_spec f off en).1)])
    rw [show (own_spec f off en).1 = (f (off).toNatClampNeg) from by rw [sp0]]
    rw [sp0, show off + ((f (off).toNatClampNeg, (1 : Int32)) : Int32 × Int32).2 = (off + (1 : Int32)) from rfl] at F143p
    show own_Go _ _ _ _ T143 (mkF m 103 #[.val (.int p1), .val (.int p2), .val (.int p3), .val (.ref b102), .val (.int off), .val (.int len), .val (.ref b107), .unset, .unset, .unset, .unset, .unset, .unset] [(.int (f (off).toNatClampNeg))])
    refine own_go (fun _ k => XS.istore X143.here hx rfl (hb hby at_103) rfl (l' := #[.val (.int p1), .val (.int p2), .val (.int p3), .val (.ref b102), .val (.int off), .val (.int len), .val (.ref b107), .val (.int (f (off).toNatClampNeg)), .unset, .unset, .unset, .unset, .unset]) rfl k) ?_
    show own_Go _ _ _ _ T143 (mkF m 105 #[.val (.int p1), .val (.int p2), .val (.int p3), .val (.ref b102), .val (.int off), .val (.int len), .val (.ref b107), .val (.int (f (off).toNatClampNeg)), .unset, .unset, .unset, .unset, .unset] [])
    refine own_go (fun _ k => XS.iload X143.here hx rfl (hb hby at_105) rfl k) ?_
    show own_Go _ _ _ _ T143 (mkF m 107 #[.val (.int p1), .val (.int p2), .val (.int p3), .val (.ref b102), .val (.int off), .val (.int len), .val (.ref b107), .val (.int (f (off).toNatClampNeg)), .unset, .unset, .unset, .unset, .unset] [(.int len)])
    refine own_go (fun _ k => XS.ifNo X143.here hx rfl (hb hby at_107) rfl ((if0 _ _).trans (tlt (own_lt (by show (0 : Int) < _; omega))).2.2.2) k) ?_
    show own_Go _ _ _ _ T143 (mkF m 110 #[.val (.int p1), .val (.int p2), .val (.int p3), .val (.ref b102), .val (.int off), .val (.int len), .val (.ref b107), .val (.int (f (off).toNatClampNeg)), .unset, .unset, .unset, .unset, .unset] [])
    refine own_go (fun _ k => XS.aloadN X143.here hx rfl (hb hby at_110) rfl rfl k) ?_
    show own_Go _ _ _ _ T143 (mkF m 111 #[.val (.int p1), .val (.int p2), .val (.int p3), .val (.ref b102), .val (.int off), .val (.int len), .val (.ref b107), .val (.int (f (off).toNatClampNeg)), .unset, .unset, .unset, .unset, .unset] [(.ref b102)])
    refine own_go (fun _ k => XS.iload X143.here hx rfl (hb hby at_111) rfl k) ?_
    show own_Go _ _ _ _ T143 (mkF m 113 #[.val (.int p1), .val (.int p2), .val (.int p3), .val (.ref b102), .val (.int off), .val (.int len), .val (.ref b107), .val (.int (f (off).toNatClampNeg)), .unset, .unset, .unset, .unset, .unset] [(.int off), (.ref b102)])
    have f145 := (f142.keep K143 (ninS (Nat.ne_of_lt o_b107) nin0))
    obtain ⟨cl144, Ar144, q144, S144, M144, H144, G144⟩ := f145
    have V144 : Arv Z h143 b102 k102 .byte (4 : Int32) _ _ := ⟨cl144, Ar144, q144, S144, M144, H144, G144⟩
    have hin144 : ¬ (off < 0 ∨ cl144.slots.size ≤ (off).toNatClampNeg) := inb_of S144 ⟨own_nlt (by show (0 : Int32).toInt ≤ _; rw [own_e0]; omega), own_lt (by show _ < (4 : Int); omega)⟩
    have hat144 : cl144.slots[(off).toNatClampNeg]? = some (.int (f (off).toNatClampNeg)) := H144.at hin144 (hf _)
    refine own_go (X143.baloadBytes hx (j := off) (v := (.int (f (off).toNatClampNeg))) (by rw [e143]; exact Ar144.1) (State.isArrayOf_alike hZ.alike Ar144.2.1) Ar144.2.2 hin144 hat144 (g := (mkF m 113 #[.val (.int p1), .val (.int p2), .val (.int p3), .val (.ref b102), .val (.int off), .val (.int len), .val (.ref b107), .val (.int (f (off).toNatClampNeg)), .unset, .unset, .unset, .unset, .unset] [(.int off), (.ref b102)])) rfl rfl (hb hby at_113)) ?_
    show own_Go _ _ _ _ T143 (mkF m 114 #[.val (.int p1), .val (.int p2), .val (.int p3), .val (.ref b102), .val (.int off), .val (.int len), .val (.ref b107), .val (.int (f (off).toNatClampNeg)), .unset, .unset, .unset, .unset, .unset] [(.int (f (off).toNatClampNeg))])
    refine own_go (fun _ k => XS.goto X143.here hx rfl (pc0 := 114) (pc' := 118) rfl (hb hby at_114) (by decide) (by decide) k) ?_
    show own_Go _ _ _ _ T143 (mkF m 118 #[.val (.int p1), .val (.int p2), .val (.int p3), .val (.ref b102), .val (.int off), .val (.int len), .val (.ref b107), .val (.int (f (off).toNatClampNeg)), .unset, .unset, .unset, .unset, .unset] [(.int (f (off).toNatClampNeg))])
    refine own_go (fun _ k => XS.istore X143.here hx rfl (hb hby at_118) rfl (l' := #[.val (.int p1), .val (.int p2), .val (.int p3), .val (.ref b102), .val (.int off), .val (.int len), .val (.ref b107), .val (.int (f (off).toNatClampNeg)), .val (.int (f (off).toNatClampNeg)), .unset, .unset, .unset, .unset]) rfl k) ?_
    show own_Go _ _ _ _ T143 (mkF m 120 #[.val (.int p1), .val (.int p2), .val (.int p3), .val (.ref b102), .val (.int off), .val (.int len), .val (.ref b107), .val (.int (f (off).toNatClampNeg)), .val (.int (f (off).toNatClampNeg)), .unset, .unset, .unset, .unset] [])
    refine own_go (fun _ k => XS.iload X143.here hx rfl (hb hby at_120) rfl k) ?_
    show own_Go _ _ _ _ T143 (mkF m 122 #[.val (.int p1), .val (.int p2), .val (.int p3), .val (.ref b102), .val (.int off), .val (.int len), .val (.ref b107), .val (.int (f (off).toNatClampNeg)), .val (.int (f (off).toNatClampNeg)), .unset, .unset, .unset, .unset] [(.int (f (off).toNatClampNeg))])
    refine own_go (fun _ k => XS.iload X143.here hx rfl (hb hby at_122) rfl k) ?_
    show own_Go _ _ _ _ T143 (mkF m 124 #[.val (.int p1), .val (.int p2), .val (.int p3), .val (.ref b102), .val (.int off), .val (.int len), .val (.ref b107), .val (.int (f (off).toNatClampNeg)), .val (.int (f (off).toNatClampNeg)), .unset, .unset, .unset, .unset] [(.int (f (off).toNatClampNeg)), (.int (f (off).toNatClampNeg))])
    refine own_go (fun _ k => XS.icmpYes X143.here hx rfl (pc0 := 124) (pc' := 129) rfl (hb hby at_124) rfl (teq rfl).1 (by decide) (by decide) k) ?_
    show own_Go _ _ _ _ T143 (mkF m 129 #[.val (.int p1), .val (.int p2), .val (.int p3), .val (.ref b102), .val (.int off), .val (.int len), .val (.ref b107), .val (.int (f (off).toNatClampNeg)), .val (.int (f (off).toNatClampNeg)), .unset, .unset, .unset, .unset] [])
    refine own_go (fun _ k => XS.aload X143.here hx rfl (hb hby at_129) rfl rfl k) ?_
    show own_Go _ _ _ _ T143 (mkF m 131 #[.val (.int p1), .val (.int p2), .val (.int p3), .val (.ref b102), .val (.int off), .val (.int len), .val (.ref b107), .val (.int (f (off).toNatClampNeg)), .val (.int (f (off).toNatClampNeg)), .unset, .unset, .unset, .unset] [(.ref b107)])
    have f146 := (Nat.le_trans f140 K143.1)
    obtain ⟨v147, T147, h147, L147, X147, e147, hQ147, st147⟩ := own_callV X143 hx hZ hown (hw _ (List.mem_of_getElem? (i := 17) rfl)) (hw _ (List.mem_of_getElem? (i := 18) rfl)) (hw _ (List.mem_of_getElem? (i := 20) rfl)) (notFace_of_selects (args := #[]) (mvT hZ (hw _ (List.mem_of_getElem? (i := 20) rfl)))) (hw _ (List.mem_of_getElem? (i := 19) rfl)) (hw _ (List.mem_of_getElem? (i := 4) rfl)) (hw _ (List.mem_of_getElem? (i := 21) rfl)) (by decide) e143 E143x (argsL := []) (rest := []) (rm2 l Z a0 hw [] b107 (off + (1 : Int32)) en h143 n0 f146 F143p F143e) 0 (by decide) (by decide) (by decide) (by decide) (g := (mkF m 131 #[.val (.int p1), .val (.int p2), .val (.int p3), .val (.ref b102), .val (.int off), .val (.int len), .val (.ref b107), .val (.int (f (off).toNatClampNeg)), .val (.int (f (off).toNatClampNeg)), .unset, .unset, .unset, .unset] [(.ref b107)])) rfl (by rw [hml]; rfl) (lenOf pd1 rfl) rfl (Nat.le_of_eq rfl) (hb hby at_131)
    obtain ⟨rfl, N147q, rfl⟩ := hQ147
    refine own_go (st147) ?_
    have N147 := Fr.app N143 N147q
    show own_Go _ _ _ _ T147 (mkF m 134 #[.val (.int p1), .val (.int p2), .val (.int p3), .val (.ref b102), .val (.int off), .val (.int len), .val (.ref b107), .val (.int (f (off).toNatClampNeg)), .val (.int (f (off).toNatClampNeg)), .unset, .unset, .unset, .unset] [(.int (own_hr (off + (1 : Int32)) en))])
    refine own_go (fun _ k => XS.iload X147.here hx rfl (hb hby at_134) rfl k) ?_
    show own_Go _ _ _ _ T147 (mkF m 136 #[.val (.int p1), .val (.int p2), .val (.int p3), .val (.ref b102), .val (.int off), .val (.int len), .val (.ref b107), .val (.int (f (off).toNatClampNeg)), .val (.int (f (off).toNatClampNeg)), .unset, .unset, .unset, .unset] [(.int len), (.int (own_hr (off + (1 : Int32)) en))])
    refine own_go (fun _ k => XS.iconst X147.here hx rfl (hb hby at_136) k) ?_
    show own_Go _ _ _ _ T147 (mkF m 137 #[.val (.int p1), .val (.int p2), .val (.int p3), .val (.ref b102), .val (.int off), .val (.int len), .val (.ref b107), .val (.int (f (off).toNatClampNeg)), .val (.int (f (off).toNatClampNeg)), .unset, .unset, .unset, .unset] [(.int (1 : Int32)), (.int len), (.int (own_hr (off + (1 : Int32)) en))])
    refine own_go (fun _ k => XS.icmpNo X147.here hx rfl (hb hby at_137) rfl (tlt (own_lt (by show (1 : Int) < _; omega))).2.2.2 k) ?_
    show own_Go _ _ _ _ T147 (mkF m 140 #[.val (.int p1), .val (.int p2), .val (.int p3), .val (.ref b102), .val (.int off), .val (.int len), .val (.ref b107), .val (.int (f (off).toNatClampNeg)), .val (.int (f (off).toNatClampNeg)), .unset, .unset, .unset, .unset] [(.int (own_hr (off + (1 : Int32)) en))])
    refine own_go (fun _ k => XS.iconst X147.here hx rfl (hb hby at_140) k) ?_
    show own_Go _ _ _ _ T147 (mkF m 141 #[.val (.int p1), .val (.int p2), .val (.int p3), .val (.ref b102), .val (.int off), .val (.int len), .val (.ref b107), .val (.int (f (off).toNatClampNeg)), .val (.int (f (off).toNatClampNeg)), .unset, .unset, .unset, .unset] [(.int (1 : Int32)), (.int (own_hr (off + (1 : Int32)) en))])
    refine own_go (fun _ k => XS.goto X147.here hx rfl (pc0 := 141) (pc' := 145) rfl (hb hby at_141) (by decide) (by decide) k) ?_
    show own_Go _ _ _ _ T147 (mkF m 145 #[.val (.int p1), .val (.int p2), .val (.int p3), .val (.ref b102), .val (.int off), .val (.int len), .val (.ref b107), .val (.int (f (off).toNatClampNeg)), .val (.int (f (off).toNatClampNeg)), .unset, .unset, .unset, .unset] [(.int (1 : Int32)), (.int (own_hr (off + (1 : Int32)) en))])
    refine own_go (fun _ k => XS.icmpYes X147.here hx rfl (pc0 := 145) (pc' := 150) rfl (hb hby at_145) rfl (teq (by rw [own_hr, if_pos (own_lt (by omega))])).1 (by decide) (by decide) k) ?_
    show own_Go _ _ _ _ T147 (mkF m 150 #[.val (.int p1), .val (.int p2), .val (.int p3), .val (.ref b102), .val (.int off), .val (.int len), .val (.ref b107), .val (.int (f (off).toNatClampNeg)), .val (.int (f (off).toNatClampNeg)), .unset, .unset, .unset, .unset] [])
    refine own_go (fun _ k => XS.aload X147.here hx rfl (hb hby at_150) rfl rfl k) ?_
    show own_Go _ _ _ _ T147 (mkF m 152 #[.val (.int p1), .val (.int p2), .val (.int p3), .val (.ref b102), .val (.int off), .val (.int len), .val (.ref b107), .val (.int (f (off).toNatClampNeg)), .val (.int (f (off).toNatClampNeg)), .unset, .unset, .unset, .unset] [(.ref b107)])
    have sp1 : own_spec f (off + (1 : Int32)) en = (f ((off + (1 : Int32))).toNatClampNeg, (1 : Int32)) := own_one hf7 (own_lt (by omega))
    obtain ⟨v148, T148, h148, L148, X148, e148, hQ148, st148⟩ := own_callV X147 hx hZ hown (hw _ (List.mem_of_getElem? (i := 22) rfl)) (hw _ (List.mem_of_getElem? (i := 23) rfl)) (hw _ (List.mem_of_getElem? (i := 25) rfl)) (notFace_of_selects (args := #[]) (mvT hZ (hw _ (List.mem_of_getElem? (i := 25) rfl)))) (hw _ (List.mem_of_getElem? (i := 24) rfl)) (hw _ (List.mem_of_getElem? (i := 4) rfl)) (hw _ (List.mem_of_getElem? (i := 26) rfl)) (by decide) e147 E143x (argsL := []) (rest := []) (rm3 l Z a0 hw [] b107 b102 (off + (1 : Int32)) en k102 (4 : Int32) _ _ f h143 n0 f146 E143x F143b F143p F143e g_b107 (Nat.ne_of_lt o_b107) V144 hf (own_bnd (by omega) (by omega) (by omega))) 0 (by decide) (by decide) (by decide) (by decide) (g := (mkF m 152 #[.val (.int p1), .val (.int p2), .val (.int p3), .val (.ref b102), .val (.int off), .val (.int len), .val (.ref b107), .val (.int (f (off).toNatClampNeg)), .val (.int (f (off).toNatClampNeg)), .unset, .unset, .unset, .unset] [(.ref b107)])) rfl (by rw [hml]; rfl) (lenOf pd2 rfl) rfl (Nat.le_of_eq rfl) (hb hby at_152)
    obtain ⟨rfl, N148q, K148, E148x, F148b, F148p, F148e⟩ := hQ148
    refine own_go (st148) ?_
    have N148 := Fr.app N147 N148q
    show own_Go _ _ _ _ T148 (mkF m 155 #[.val (.int p1), .val (.int p2), .val (.int p3), .val (.ref b102), .val (.int off), .val (.int len), .val (.ref b107), .val (.int (f (off).toNatClampNeg)), .val (.int (f (off).toNatClampNeg)), .unset, .unset, .unset, .unset] [(.int (own_spec f (off + (1 : Int32)) en).1)])
    rw [show (own_spec f (off + (1 : Int32)) en).1 = (f ((off + (1 : Int32))).toNatClampNeg) from by rw [sp1]]
    rw [sp1, show (off + (1 : Int32)) + ((f ((off + (1 : Int32))).toNatClampNeg, (1 : Int32)) : Int32 × Int32).2 = (off + (2 : Int32)) from own_addone1 off] at F148p
    show own_Go _ _ _ _ T148 (mkF m 155 #[.val (.int p1), .val (.int p2), .val (.int p3), .val (.ref b102), .val (.int off), .val (.int len), .val (.ref b107), .val (.int (f (off).toNatClampNeg)), .val (.int (f (off).toNatClampNeg)), .unset, .unset, .unset, .unset] [(.int (f ((off + (1 : Int32))).toNatClampNeg))])
    refine own_go (fun _ k => XS.istore X148.here hx rfl (hb hby at_155) rfl (l' := #[.val (.int p1), .val (.int p2), .val (.int p3), .val (.ref b102), .val (.int off), .val (.int len), .val (.ref b107), .val (.int (f (off).toNatClampNeg)), .val (.int (f (off).toNatClampNeg)), .val (.int (f ((off + (1 : Int32))).toNatClampNeg)), .unset, .unset, .unset]) rfl k) ?_
    show own_Go _ _ _ _ T148 (mkF m 157 #[.val (.int p1), .val (.int p2), .val (.int p3), .val (.ref b102), .val (.int off), .val (.int len), .val (.ref b107), .val (.int (f (off).toNatClampNeg)), .val (.int (f (off).toNatClampNeg)), .val (.int (f ((off + (1 : Int32))).toNatClampNeg)), .unset, .unset, .unset] [])
    refine own_go (fun _ k => XS.iload X148.here hx rfl (hb hby at_157) rfl k) ?_
    show own_Go _ _ _ _ T148 (mkF m 159 #[.val (.int p1), .val (.int p2), .val (.int p3), .val (.ref b102), .val (.int off), .val (.int len), .val (.ref b107), .val (.int (f (off).toNatClampNeg)), .val (.int (f (off).toNatClampNeg)), .val (.int (f ((off + (1 : Int32))).toNatClampNeg)), .unset, .unset, .unset] [(.int len)])
    refine own_go (fun _ k => XS.iconst X148.here hx rfl (hb hby at_159) k) ?_
    show own_Go _ _ _ _ T148 (mkF m 160 #[.val (.int p1), .val (.int p2), .val (.int p3), .val (.ref b102), .val (.int off), .val (.int len), .val (.ref b107), .val (.int (f (off).toNatClampNeg)), .val (.int (f (off).toNatClampNeg)), .val (.int (f ((off + (1 : Int32))).toNatClampNeg)), .unset, .unset, .unset] [(.int (1 : Int32)), (.int len)])
    refine own_go (fun _ k => XS.icmpNo X148.here hx rfl (hb hby at_160) rfl (tlt (own_lt (by show (1 : Int) < _; omega))).2.2.2 k) ?_
    show own_Go _ _ _ _ T148 (mkF m 163 #[.val (.int p1), .val (.int p2), .val (.int p3), .val (.ref b102), .val (.int off), .val (.int len), .val (.ref b107), .val (.int (f (off).toNatClampNeg)), .val (.int (f (off).toNatClampNeg)), .val (.int (f ((off + (1 : Int32))).toNatClampNeg)), .unset, .unset, .unset] [])
    refine own_go (fun _ k => XS.aloadN X148.here hx rfl (hb hby at_163) rfl rfl k) ?_
    show own_Go _ _ _ _ T148 (mkF m 164 #[.val (.int p1), .val (.int p2), .val (.int p3), .val (.ref b102), .val (.int off), .val (.int len), .val (.ref b107), .val (.int (f (off).toNatClampNeg)), .val (.int (f (off).toNatClampNeg)), .val (.int (f ((off + (1 : Int32))).toNatClampNeg)), .unset, .unset, .unset] [(.ref b102)])
    refine own_go (fun _ k => XS.iload X148.here hx rfl (hb hby at_164) rfl k) ?_
    show own_Go _ _ _ _ T148 (mkF m 166 #[.val (.int p1), .val (.int p2), .val (.int p3), .val (.ref b102), .val (.int off), .val (.int len), .val (.ref b107), .val (.int (f (off).toNatClampNeg)), .val (.int (f (off).toNatClampNeg)), .val (.int (f ((off + (1 : Int32))).toNatClampNeg)), .unset, .unset, .unset] [(.int off), (.ref b102)])
    refine own_go (fun _ k => XS.iconst X148.here hx rfl (hb hby at_166) k) ?_
    show own_Go _ _ _ _ T148 (mkF m 167 #[.val (.int p1), .val (.int p2), .val (.int p3), .val (.ref b102), .val (.int off), .val (.int len), .val (.ref b107), .val (.int (f (off).toNatClampNeg)), .val (.int (f (off).toNatClampNeg)), .val (.int (f ((off + (1 : Int32))).toNatClampNeg)), .unset, .unset, .unset] [(.int (1 : Int32)), (.int off), (.ref b102)])
    refine own_go (fun _ k => XS.iadd X148.here hx rfl (hb hby at_167) rfl k) ?_
    show own_Go _ _ _ _ T148 (mkF m 168 #[.val (.int p1), .val (.int p2), .val (.int p3), .val (.ref b102), .val (.int off), .val (.int len), .val (.ref b107), .val (.int (f (off).toNatClampNeg)), .val (.int (f (off).toNatClampNeg)), .val (.int (f ((off + (1 : Int32))).toNatClampNeg)), .unset, .unset, .unset] [(.int (off + (1 : Int32))), (.ref b102)])
    have f150 := (V144.keep K148 (ninS (Nat.ne_of_lt o_b107) nin0))
    obtain ⟨cl149, Ar149, q149, S149, M149, H149, G149⟩ := f150
    have V149 : Arv Z h148 b102 k102 .byte (4 : Int32) _ _ := ⟨cl149, Ar149, q149, S149, M149, H149, G149⟩
    have hin149 : ¬ ((off + (1 : Int32)) < 0 ∨ cl149.slots.size ≤ ((off + (1 : Int32))).toNatClampNeg) := inb_of S149 ⟨own_nlt (by show (0 : Int32).toInt ≤ _; rw [own_e0]; omega), own_lt (by show _ < (4 : Int); omega)⟩
    have hat149 : cl149.slots[((off + (1 : Int32))).toNatClampNeg]? = some (.int (f ((off + (1 : Int32))).toNatClampNeg)) := H149.at hin149 (hf _)
    refine own_go (X148.baloadBytes hx (j := (off + (1 : Int32))) (v := (.int (f ((off + (1 : Int32))).toNatClampNeg))) (by rw [e148]; exact Ar149.1) (State.isArrayOf_alike hZ.alike Ar149.2.1) Ar149.2.2 hin149 hat149 (g := (mkF m 168 #[.val (.int p1), .val (.int p2), .val (.int p3), .val (.ref b102), .val (.int off), .val (.int len), .val (.ref b107), .val (.int (f (off).toNatClampNeg)), .val (.int (f (off).toNatClampNeg)), .val (.int (f ((off + (1 : Int32))).toNatClampNeg)), .unset, .unset, .unset] [(.int (off + (1 : Int32))), (.ref b102)])) rfl rfl (hb hby at_168)) ?_
    show own_Go _ _ _ _ T148 (mkF m 169 #[.val (.int p1), .val (.int p2), .val (.int p3), .val (.ref b102), .val (.int off), .val (.int len), .val (.ref b107), .val (.int (f (off).toNatClampNeg)), .val (.int (f (off).toNatClampNeg)), .val (.int (f ((off + (1 : Int32))).toNatClampNeg)), .unset, .unset, .unset] [(.int (f ((off + (1 : Int32))).toNatClampNeg))])
    refine own_go (fun _ k => XS.goto X148.here hx rfl (pc0 := 169) (pc' := 173) rfl (hb hby at_169) (by decide) (by decide) k) ?_
    show own_Go _ _ _ _ T148 (mkF m 173 #[.val (.int p1), .val (.int p2), .val (.int p3), .val (.ref b102), .val (.int off), .val (.int len), .val (.ref b107), .val (.int (f (off).toNatClampNeg)), .val (.int (f (off).toNatClampNeg)), .val (.int (f ((off + (1 : Int32))).toNatClampNeg)), .unset, .unset, .unset] [(.int (f ((off + (1 : Int32))).toNatClampNeg))])
    refine own_go (fun _ k => XS.istore X148.here hx rfl (hb hby at_173) rfl (l' := #[.val (.int p1), .val (.int p2), .val (.int p3), .val (.ref b102), .val (.int off), .val (.int len), .val (.ref b107), .val (.int (f (off).toNatClampNeg)), .val (.int (f (off).toNatClampNeg)), .val (.int (f ((off + (1 : Int32))).toNatClampNeg)), .val (.int (f ((off + (1 : Int32))).toNatClampNeg)), .unset, .unset]) rfl k) ?_
    show own_Go _ _ _ _ T148 (mkF m 175 #[.val (.int p1), .val (.int p2), .val (.int p3), .val (.ref b102), .val (.int off), .val (.int len), .val (.ref b107), .val (.int (f (off).toNatClampNeg)), .val (.int (f (off).toNatClampNeg)), .val (.int (f ((off + (1 : Int32))).toNatClampNeg)), .val (.int (f ((off + (1 : Int32))).toNatClampNeg)), .unset, .unset] [])
    refine own_go (fun _ k => XS.iload X148.here hx rfl (hb hby at_175) rfl k) ?_
    show own_Go _ _ _ _ T148 (mkF m 177 #[.val (.int p1), .val (.int p2), .val (.int p3), .val (.ref b102), .val (.int off), .val (.int len), .val (.ref b107), .val (.int (f (off).toNatClampNeg)), .val (.int (f (off).toNatClampNeg)), .val (.int (f ((off + (1 : Int32))).toNatClampNeg)), .val (.int (f ((off + (1 : Int32))).toNatClampNeg)), .unset, .unset] [(.int (f ((off + (1 : Int32))).toNatClampNeg))])
    refine own_go (fun _ k => XS.iload X148.here hx rfl (hb hby at_177) rfl k) ?_
    show own_Go _ _ _ _ T148 (mkF m 179 #[.val (.int p1), .val (.int p2), .val (.int p3), .val (.ref b102), .val (.int off), .val (.int len), .val (.ref b107), .val (.int (f (off).toNatClampNeg)), .val (.int (f (off).toNatClampNeg)), .val (.int (f ((off + (1 : Int32))).toNatClampNeg)), .val (.int (f ((off + (1 : Int32))).toNatClampNeg)), .unset, .unset] [(.int (f ((off + (1 : Int32))).toNatClampNeg)), (.int (f ((off + (1 : Int32))).toNatClampNeg))])
    refine own_go (fun _ k => XS.icmpYes X148.here hx rfl (pc0 := 179) (pc' := 184) rfl (hb hby at_179) rfl (teq rfl).1 (by decide) (by decide) k) ?_
    show own_Go _ _ _ _ T148 (mkF m 184 #[.val (.int p1), .val (.int p2), .val (.int p3), .val (.ref b102), .val (.int off), .val (.int len), .val (.ref b107), .val (.int (f (off).toNatClampNeg)), .val (.int (f (off).toNatClampNeg)), .val (.int (f ((off + (1 : Int32))).toNatClampNeg)), .val (.int (f ((off + (1 : Int32))).toNatClampNeg)), .unset, .unset] [])
    refine own_go (fun _ k => XS.aload X148.here hx rfl (hb hby at_184) rfl rfl k) ?_
    show own_Go _ _ _ _ T148 (mkF m 186 #[.val (.int p1), .val (.int p2), .val (.int p3), .val (.ref b102), .val (.int off), .val (.int len), .val (.ref b107), .val (.int (f (off).toNatClampNeg)), .val (.int (f (off).toNatClampNeg)), .val (.int (f ((off + (1 : Int32))).toNatClampNeg)), .val (.int (f ((off + (1 : Int32))).toNatClampNeg)), .unset, .unset] [(.ref b107)])
    have f151 := (Nat.le_trans f146 K148.1)
    obtain ⟨v152, T152, h152, L152, X152, e152, hQ152, st152⟩ := own_callV X148 hx hZ hown (hw _ (List.mem_of_getElem? (i := 17) rfl)) (hw _ (List.mem_of_getElem? (i := 18) rfl)) (hw _ (List.mem_of_getElem? (i := 20) rfl)) (notFace_of_selects (args := #[]) (mvT hZ (hw _ (List.mem_of_getElem? (i := 20) rfl)))) (hw _ (List.mem_of_getElem? (i := 19) rfl)) (hw _ (List.mem_of_getElem? (i := 4) rfl)) (hw _ (List.mem_of_getElem? (i := 21) rfl)) (by decide) e148 E148x (argsL := []) (rest := []) (rm2 l Z a0 hw [] b107 (off + (2 : Int32)) en h148 n0 f151 F148p F148e) 0 (by decide) (by decide) (by decide) (by decide) (g := (mkF m 186 #[.val (.int p1), .val (.int p2), .val (.int p3), .val (.ref b102), .val (.int off), .val (.int len), .val (.ref b107), .val (.int (f (off).toNatClampNeg)), .val (.int (f (off).toNatClampNeg)), .val (.int (f ((off + (1 : Int32))).toNatClampNeg)), .val (.int (f ((off + (1 : Int32))).toNatClampNeg)), .unset, .unset] [(.ref b107)])) rfl (by rw [hml]; rfl) (lenOf pd1 rfl) rfl (Nat.le_of_eq rfl) (hb hby at_186)
    obtain ⟨rfl, N152q, rfl⟩ := hQ152
    refine own_go (st152) ?_
    have N152 := Fr.app N148 N152q
    show own_Go _ _ _ _ T152 (mkF m 189 #[.val (.int p1), .val (.int p2), .val (.int p3), .val (.ref b102), .val (.int off), .val (.int len), .val (.ref b107), .val (.int (f (off).toNatClampNeg)), .val (.int (f (off).toNatClampNeg)), .val (.int (f ((off + (1 : Int32))).toNatClampNeg)), .val (.int (f ((off + (1 : Int32))).toNatClampNeg)), .unset, .unset] [(.int (own_hr (off + (2 : Int32)) en))])
    refine own_go (fun _ k => XS.iload X152.here hx rfl (hb hby at_189) rfl k) ?_
    show own_Go _ _ _ _ T152 (mkF m 191 #[.val (.int p1), .val (.int p2), .val (.int p3), .val (.ref b102), .val (.int off), .val (.int len), .val (.ref b107), .val (.int (f (off).toNatClampNeg)), .val (.int (f (off).toNatClampNeg)), .val (.int (f ((off + (1 : Int32))).toNatClampNeg)), .val (.int (f ((off + (1 : Int32))).toNatClampNeg)), .unset, .unset] [(.int len), (.int (own_hr (off + (2 : Int32)) en))])
    refine own_go (fun _ k => XS.iconst X152.here hx rfl (hb hby at_191) k) ?_
    show own_Go _ _ _ _ T152 (mkF m 192 #[.val (.int p1), .val (.int p2), .val (.int p3), .val (.ref b102), .val (.int off), .val (.int len), .val (.ref b107), .val (.int (f (off).toNatClampNeg)), .val (.int (f (off).toNatClampNeg)), .val (.int (f ((off + (1 : Int32))).toNatClampNeg)), .val (.int (f ((off + (1 : Int32))).toNatClampNeg)), .unset, .unset] [(.int (2 : Int32)), (.int len), (.int (own_hr (off + (2 : Int32)) en))])
    refine own_go (fun _ k => XS.icmpYes X152.here hx rfl (pc0 := 192) (pc' := 199) rfl (hb hby at_192) rfl (flt (own_nlt (by show _ ≤ (2 : Int); omega))).2.2.2 (by decide) (by decide) k) ?_
    show own_Go _ _ _ _ T152 (mkF m 199 #[.val (.int p1), .val (.int p2), .val (.int p3), .val (.ref b102), .val (.int off), .val (.int len), .val (.ref b107), .val (.int (f (off).toNatClampNeg)), .val (.int (f (off).toNatClampNeg)), .val (.int (f ((off + (1 : Int32))).toNatClampNeg)), .val (.int (f ((off + (1 : Int32))).toNatClampNeg)), .unset, .unset] [(.int (own_hr (off + (2 : Int32)) en))])
    refine own_go (fun _ k => XS.iconst X152.here hx rfl (hb hby at_199) k) ?_
    show own_Go _ _ _ _ T152 (mkF m 200 #[.val (.int p1), .val (.int p2), .val (.int p3), .val (.ref b102), .val (.int off), .val (.int len), .val (.ref b107), .val (.int (f (off).toNatClampNeg)), .val (.int (f (off).toNatClampNeg)), .val (.int (f ((off + (1 : Int32))).toNatClampNeg)), .val (.int (f ((off + (1 : Int32))).toNatClampNeg)), .unset, .unset] [(.int (0 : Int32)), (.int (own_hr (off + (2 : Int32)) en))])
    refine own_go (fun _ k => XS.icmpYes X152.here hx rfl (pc0 := 200) (pc' := 205) rfl (hb hby at_200) rfl (teq (by rw [own_hr, if_neg (own_nlt (by omega))])).1 (by decide) (by decide) k) ?_
    show own_Go _ _ _ _ T152 (mkF m 205 #[.val (.int p1), .val (.int p2), .val (.int p3), .val (.ref b102), .val (.int off), .val (.int len), .val (.ref b107), .val (.int (f (off).toNatClampNeg)), .val (.int (f (off).toNatClampNeg)), .val (.int (f ((off + (1 : Int32))).toNatClampNeg)), .val (.int (f ((off + (1 : Int32))).toNatClampNeg)), .unset, .unset] [])
    refine own_go (fun _ k => XS.aload X152.here hx rfl (hb hby at_205) rfl rfl k) ?_
    show own_Go _ _ _ _ T152 (mkF m 207 #[.val (.int p1), .val (.int p2), .val (.int p3), .val (.ref b102), .val (.int off), .val (.int len), .val (.ref b107), .val (.int (f (off).toNatClampNeg)), .val (.int (f (off).toNatClampNeg)), .val (.int (f ((off + (1 : Int32))).toNatClampNeg)), .val (.int (f ((off + (1 : Int32))).toNatClampNeg)), .unset, .unset] [(.ref b107)])
    have sp2 : own_spec f (off + (2 : Int32)) en = ((-1 : Int32), en - (off + (2 : Int32))) := own_spA0 (own_nlt (by omega))
    obtain ⟨v153, T153, h153, L153, X153, e153, hQ153, st153⟩ := own_callV X152 hx hZ hown (hw _ (List.mem_of_getElem? (i := 22) rfl)) (hw _ (List.mem_of_getElem? (i := 23) rfl)) (hw _ (List.mem_of_getElem? (i := 25) rfl)) (notFace_of_selects (args := #[]) (mvT hZ (hw _ (List.mem_of_getElem? (i := 25) rfl)))) (hw _ (List.mem_of_getElem? (i := 24) rfl)) (hw _ (List.mem_of_getElem? (i := 4) rfl)) (hw _ (List.mem_of_getElem? (i := 26) rfl)) (by decide) e152 E148x (argsL := []) (rest := []) (rm3 l Z a0 hw [] b107 b102 (off + (2 : Int32)) en k102 (4 : Int32) _ _ f h148 n0 f151 E148x F148b F148p F148e g_b107 (Nat.ne_of_lt o_b107) V149 hf (own_bnd (by omega) (by omega) (by omega))) 0 (by decide) (by decide) (by decide) (by decide) (g := (mkF m 207 #[.val (.int p1), .val (.int p2), .val (.int p3), .val (.ref b102), .val (.int off), .val (.int len), .val (.ref b107), .val (.int (f (off).toNatClampNeg)), .val (.int (f (off).toNatClampNeg)), .val (.int (f ((off + (1 : Int32))).toNatClampNeg)), .val (.int (f ((off + (1 : Int32))).toNatClampNeg)), .unset, .unset] [(.ref b107)])) rfl (by rw [hml]; rfl) (lenOf pd2 rfl) rfl (Nat.le_of_eq rfl) (hb hby at_207)
    obtain ⟨rfl, N153q, K153, E153x, F153b, F153p, F153e⟩ := hQ153
    refine own_go (st153) ?_
    have N153 := Fr.app N152 N153q
    show own_Go _ _ _ _ T153 (mkF m 210 #[.val (.int p1), .val (.int p2), .val (.int p3), .val (.ref b102), .val (.int off), .val (.int len), .val (.ref b107), .val (.int (f (off).toNatClampNeg)), .val (.int (f (off).toNatClampNeg)), .val (.int (f ((off + (1 : Int32))).toNatClampNeg)), .val (.int (f ((off + (1 : Int32))).toNatClampNeg)), .unset, .unset] [(.int (own_spec f (off + (2 : Int32)) en).1)])
    rw [show (own_spec f (off + (2 : Int32)) en).1 = (-1 : Int32) from by rw [sp2]]
    rw [sp2, show (off + (2 : Int32)) + (((-1 : Int32), en - (off + (2 : Int32))) : Int32 × Int32).2 = (off + (2 : Int32)) from (own_cancel _ _).trans (Int32.toInt_inj.mp (by omega))] at F153p
    show own_Go _ _ _ _ T153 (mkF m 210 #[.val (.int p1), .val (.int p2), .val (.int p3), .val (.ref b102), .val (.int off), .val (.int len), .val (.ref b107), .val (.int (f (off).toNatClampNeg)), .val (.int (f (off).toNatClampNeg)), .val (.int (f ((off + (1 : Int32))).toNatClampNeg)), .val (.int (f ((off + (1 : Int32))).toNatClampNeg)), .unset, .unset] [(.int (-1 : Int32))])
    refine own_go (fun _ k => XS.istore X153.here hx rfl (hb hby at_210) rfl (l' := #[.val (.int p1), .val (.int p2), .val (.int p3), .val (.ref b102), .val (.int off), .val (.int len), .val (.ref b107), .val (.int (f (off).toNatClampNeg)), .val (.int (f (off).toNatClampNeg)), .val (.int (f ((off + (1 : Int32))).toNatClampNeg)), .val (.int (f ((off + (1 : Int32))).toNatClampNeg)), .val (.int (-1 : Int32)), .unset]) rfl k) ?_
    show own_Go _ _ _ _ T153 (mkF m 212 #[.val (.int p1), .val (.int p2), .val (.int p3), .val (.ref b102), .val (.int off), .val (.int len), .val (.ref b107), .val (.int (f (off).toNatClampNeg)), .val (.int (f (off).toNatClampNeg)), .val (.int (f ((off + (1 : Int32))).toNatClampNeg)), .val (.int (f ((off + (1 : Int32))).toNatClampNeg)), .val (.int (-1 : Int32)), .unset] [])
    refine own_go (fun _ k => XS.iload X153.here hx rfl (hb hby at_212) rfl k) ?_
    show own_Go _ _ _ _ T153 (mkF m 214 #[.val (.int p1), .val (.int p2), .val (.int p3), .val (.ref b102), .val (.int off), .val (.int len), .val (.ref b107), .val (.int (f (off).toNatClampNeg)), .val (.int (f (off).toNatClampNeg)), .val (.int (f ((off + (1 : Int32))).toNatClampNeg)), .val (.int (f ((off + (1 : Int32))).toNatClampNeg)), .val (.int (-1 : Int32)), .unset] [(.int len)])
    refine own_go (fun _ k => XS.iconst X153.here hx rfl (hb hby at_214) k) ?_
    show own_Go _ _ _ _ T153 (mkF m 215 #[.val (.int p1), .val (.int p2), .val (.int p3), .val (.ref b102), .val (.int off), .val (.int len), .val (.ref b107), .val (.int (f (off).toNatClampNeg)), .val (.int (f (off).toNatClampNeg)), .val (.int (f ((off + (1 : Int32))).toNatClampNeg)), .val (.int (f ((off + (1 : Int32))).toNatClampNeg)), .val (.int (-1 : Int32)), .unset] [(.int (2 : Int32)), (.int len)])
    refine own_go (fun _ k => XS.icmpYes X153.here hx rfl (pc0 := 215) (pc' := 227) rfl (hb hby at_215) rfl (flt (own_nlt (by show _ ≤ (2 : Int); omega))).2.2.2 (by decide) (by decide) k) ?_
    show own_Go _ _ _ _ T153 (mkF m 227 #[.val (.int p1), .val (.int p2), .val (.int p3), .val (.ref b102), .val (.int off), .val (.int len), .val (.ref b107), .val (.int (f (off).toNatClampNeg)), .val (.int (f (off).toNatClampNeg)), .val (.int (f ((off + (1 : Int32))).toNatClampNeg)), .val (.int (f ((off + (1 : Int32))).toNatClampNeg)), .val (.int (-1 : Int32)), .unset] [])
    refine own_go (fun _ k => XS.iconst X153.here hx rfl (hb hby at_227) k) ?_
    show own_Go _ _ _ _ T153 (mkF m 228 #[.val (.int p1), .val (.int p2), .val (.int p3), .val (.ref b102), .val (.int off), .val (.int len), .val (.ref b107), .val (.int (f (off).toNatClampNeg)), .val (.int (f (off).toNatClampNeg)), .val (.int (f ((off + (1 : Int32))).toNatClampNeg)), .val (.int (f ((off + (1 : Int32))).toNatClampNeg)), .val (.int (-1 : Int32)), .unset] [(.int (-1 : Int32))])
    refine own_go (fun _ k => XS.istore X153.here hx rfl (hb hby at_228) rfl (l' := #[.val (.int p1), .val (.int p2), .val (.int p3), .val (.ref b102), .val (.int off), .val (.int len), .val (.ref b107), .val (.int (f (off).toNatClampNeg)), .val (.int (f (off).toNatClampNeg)), .val (.int (f ((off + (1 : Int32))).toNatClampNeg)), .val (.int (f ((off + (1 : Int32))).toNatClampNeg)), .val (.int (-1 : Int32)), .val (.int (-1 : Int32))]) rfl k) ?_
    show own_Go _ _ _ _ T153 (mkF m 230 #[.val (.int p1), .val (.int p2), .val (.int p3), .val (.ref b102), .val (.int off), .val (.int len), .val (.ref b107), .val (.int (f (off).toNatClampNeg)), .val (.int (f (off).toNatClampNeg)), .val (.int (f ((off + (1 : Int32))).toNatClampNeg)), .val (.int (f ((off + (1 : Int32))).toNatClampNeg)), .val (.int (-1 : Int32)), .val (.int (-1 : Int32))] [])
    refine own_go (fun _ k => XS.iload X153.here hx rfl (hb hby at_230) rfl k) ?_
    show own_Go _ _ _ _ T153 (mkF m 232 #[.val (.int p1), .val (.int p2), .val (.int p3), .val (.ref b102), .val (.int off), .val (.int len), .val (.ref b107), .val (.int (f (off).toNatClampNeg)), .val (.int (f (off).toNatClampNeg)), .val (.int (f ((off + (1 : Int32))).toNatClampNeg)), .val (.int (f ((off + (1 : Int32))).toNatClampNeg)), .val (.int (-1 : Int32)), .val (.int (-1 : Int32))] [(.int (-1 : Int32))])
    refine own_go (fun _ k => XS.iload X153.here hx rfl (hb hby at_232) rfl k) ?_
    show own_Go _ _ _ _ T153 (mkF m 234 #[.val (.int p1), .val (.int p2), .val (.int p3), .val (.ref b102), .val (.int off), .val (.int len), .val (.ref b107), .val (.int (f (off).toNatClampNeg)), .val (.int (f (off).toNatClampNeg)), .val (.int (f ((off + (1 : Int32))).toNatClampNeg)), .val (.int (f ((off + (1 : Int32))).toNatClampNeg)), .val (.int (-1 : Int32)), .val (.int (-1 : Int32))] [(.int (-1 : Int32)), (.int (-1 : Int32))])
    refine own_go (fun _ k => XS.icmpYes X153.here hx rfl (pc0 := 234) (pc' := 239) rfl (hb hby at_234) rfl (teq rfl).1 (by decide) (by decide) k) ?_
    show own_Go _ _ _ _ T153 (mkF m 239 #[.val (.int p1), .val (.int p2), .val (.int p3), .val (.ref b102), .val (.int off), .val (.int len), .val (.ref b107), .val (.int (f (off).toNatClampNeg)), .val (.int (f (off).toNatClampNeg)), .val (.int (f ((off + (1 : Int32))).toNatClampNeg)), .val (.int (f ((off + (1 : Int32))).toNatClampNeg)), .val (.int (-1 : Int32)), .val (.int (-1 : Int32))] [])
    refine own_go (fun _ k => XS.aload X153.here hx rfl (hb hby at_239) rfl rfl k) ?_
    show own_Go _ _ _ _ T153 (mkF m 241 #[.val (.int p1), .val (.int p2), .val (.int p3), .val (.ref b102), .val (.int off), .val (.int len), .val (.ref b107), .val (.int (f (off).toNatClampNeg)), .val (.int (f (off).toNatClampNeg)), .val (.int (f ((off + (1 : Int32))).toNatClampNeg)), .val (.int (f ((off + (1 : Int32))).toNatClampNeg)), .val (.int (-1 : Int32)), .val (.int (-1 : Int32))] [(.ref b107)])
    have f154 := (Nat.le_trans f151 K153.1)
    obtain ⟨v155, T155, h155, L155, X155, e155, hQ155, st155⟩ := own_callV X153 hx hZ hown (hw _ (List.mem_of_getElem? (i := 17) rfl)) (hw _ (List.mem_of_getElem? (i := 18) rfl)) (hw _ (List.mem_of_getElem? (i := 20) rfl)) (notFace_of_selects (args := #[]) (mvT hZ (hw _ (List.mem_of_getElem? (i := 20) rfl)))) (hw _ (List.mem_of_getElem? (i := 19) rfl)) (hw _ (List.mem_of_getElem? (i := 4) rfl)) (hw _ (List.mem_of_getElem? (i := 21) rfl)) (by decide) e153 E153x (argsL := []) (rest := []) (rm2 l Z a0 hw [] b107 (off + (2 : Int32)) en h153 n0 f154 F153p F153e) 0 (by decide) (by decide) (by decide) (by decide) (g := (mkF m 241 #[.val (.int p1), .val (.int p2), .val (.int p3), .val (.ref b102), .val (.int off), .val (.int len), .val (.ref b107), .val (.int (f (off).toNatClampNeg)), .val (.int (f (off).toNatClampNeg)), .val (.int (f ((off + (1 : Int32))).toNatClampNeg)), .val (.int (f ((off + (1 : Int32))).toNatClampNeg)), .val (.int (-1 : Int32)), .val (.int (-1 : Int32))] [(.ref b107)])) rfl (by rw [hml]; rfl) (lenOf pd1 rfl) rfl (Nat.le_of_eq rfl) (hb hby at_241)
    obtain ⟨rfl, N155q, rfl⟩ := hQ155
    refine own_go (st155) ?_
    have N155 := Fr.app N153 N155q
    show own_Go _ _ _ _ T155 (mkF m 244 #[.val (.int p1), .val (.int p2), .val (.int p3), .val (.ref b102), .val (.int off), .val (.int len), .val (.ref b107), .val (.int (f (off).toNatClampNeg)), .val (.int (f (off).toNatClampNeg)), .val (.int (f ((off + (1 : Int32))).toNatClampNeg)), .val (.int (f ((off + (1 : Int32))).toNatClampNeg)), .val (.int (-1 : Int32)), .val (.int (-1 : Int32))] [(.int (own_hr (off + (2 : Int32)) en))])
    refine own_go (fun _ k => XS.iload X155.here hx rfl (hb hby at_244) rfl k) ?_
    show own_Go _ _ _ _ T155 (mkF m 246 #[.val (.int p1), .val (.int p2), .val (.int p3), .val (.ref b102), .val (.int off), .val (.int len), .val (.ref b107), .val (.int (f (off).toNatClampNeg)), .val (.int (f (off).toNatClampNeg)), .val (.int (f ((off + (1 : Int32))).toNatClampNeg)), .val (.int (f ((off + (1 : Int32))).toNatClampNeg)), .val (.int (-1 : Int32)), .val (.int (-1 : Int32))] [(.int len), (.int (own_hr (off + (2 : Int32)) en))])
    refine own_go (fun _ k => XS.iconst X155.here hx rfl (hb hby at_246) k) ?_
    show own_Go _ _ _ _ T155 (mkF m 247 #[.val (.int p1), .val (.int p2), .val (.int p3), .val (.ref b102), .val (.int off), .val (.int len), .val (.ref b107), .val (.int (f (off).toNatClampNeg)), .val (.int (f (off).toNatClampNeg)), .val (.int (f ((off + (1 : Int32))).toNatClampNeg)), .val (.int (f ((off + (1 : Int32))).toNatClampNeg)), .val (.int (-1 : Int32)), .val (.int (-1 : Int32))] [(.int (3 : Int32)), (.int len), (.int (own_hr (off + (2 : Int32)) en))])
    refine own_go (fun _ k => XS.icmpYes X155.here hx rfl (pc0 := 247) (pc' := 254) rfl (hb hby at_247) rfl (flt (own_nlt (by show _ ≤ (3 : Int); omega))).2.2.2 (by decide) (by decide) k) ?_
    show own_Go _ _ _ _ T155 (mkF m 254 #[.val (.int p1), .val (.int p2), .val (.int p3), .val (.ref b102), .val (.int off), .val (.int len), .val (.ref b107), .val (.int (f (off).toNatClampNeg)), .val (.int (f (off).toNatClampNeg)), .val (.int (f ((off + (1 : Int32))).toNatClampNeg)), .val (.int (f ((off + (1 : Int32))).toNatClampNeg)), .val (.int (-1 : Int32)), .val (.int (-1 : Int32))] [(.int (own_hr (off + (2 : Int32)) en))])
    refine own_go (fun _ k => XS.iconst X155.here hx rfl (hb hby at_254) k) ?_
    show own_Go _ _ _ _ T155 (mkF m 255 #[.val (.int p1), .val (.int p2), .val (.int p3), .val (.ref b102), .val (.int off), .val (.int len), .val (.ref b107), .val (.int (f (off).toNatClampNeg)), .val (.int (f (off).toNatClampNeg)), .val (.int (f ((off + (1 : Int32))).toNatClampNeg)), .val (.int (f ((off + (1 : Int32))).toNatClampNeg)), .val (.int (-1 : Int32)), .val (.int (-1 : Int32))] [(.int (0 : Int32)), (.int (own_hr (off + (2 : Int32)) en))])
    refine own_go (fun _ k => XS.icmpNo X155.here hx rfl (hb hby at_255) rfl (teq (by rw [own_hr, if_neg (own_nlt (by omega))])).2 k) ?_
    show own_Go _ _ _ _ T155 (mkF m 258 #[.val (.int p1), .val (.int p2), .val (.int p3), .val (.ref b102), .val (.int off), .val (.int len), .val (.ref b107), .val (.int (f (off).toNatClampNeg)), .val (.int (f (off).toNatClampNeg)), .val (.int (f ((off + (1 : Int32))).toNatClampNeg)), .val (.int (f ((off + (1 : Int32))).toNatClampNeg)), .val (.int (-1 : Int32)), .val (.int (-1 : Int32))] [])
    refine own_go (fun _ k => XS.iconst X155.here hx rfl (hb hby at_258) k) ?_
    show own_Go _ _ _ _ T155 (mkF m 259 #[.val (.int p1), .val (.int p2), .val (.int p3), .val (.ref b102), .val (.int off), .val (.int len), .val (.ref b107), .val (.int (f (off).toNatClampNeg)), .val (.int (f (off).toNatClampNeg)), .val (.int (f ((off + (1 : Int32))).toNatClampNeg)), .val (.int (f ((off + (1 : Int32))).toNatClampNeg)), .val (.int (-1 : Int32)), .val (.int (-1 : Int32))] [(.int (1 : Int32))])
    refine own_go (fun _ k => XS.goto X155.here hx rfl (pc0 := 259) (pc' := 263) rfl (hb hby at_259) (by decide) (by decide) k) ?_
    show own_Go _ _ _ _ T155 (mkF m 263 #[.val (.int p1), .val (.int p2), .val (.int p3), .val (.ref b102), .val (.int off), .val (.int len), .val (.ref b107), .val (.int (f (off).toNatClampNeg)), .val (.int (f (off).toNatClampNeg)), .val (.int (f ((off + (1 : Int32))).toNatClampNeg)), .val (.int (f ((off + (1 : Int32))).toNatClampNeg)), .val (.int (-1 : Int32)), .val (.int (-1 : Int32))] [(.int (1 : Int32))])
    exact own_retN X155 hx hret (by simp) hlk (hb hby at_263) (by decide) (by decide) (by first | exact ⟨rfl, N155⟩ | (rw [e155]; exact ⟨rfl, N155⟩))
  · skip
    show own_Go _ _ _ _ T110 (mkF m 76 #[.val (.int p1), .val (.int p2), .val (.int p3), .val (.ref b102), .val (.int off), .val (.int len), .unset, .unset, .unset, .unset, .unset, .unset, .unset] [(.ref b107)])
    refine own_go (fun _ k => XS.astore X110.here hx rfl (hb hby at_76) rfl rfl (l' := #[.val (.int p1), .val (.int p2), .val (.int p3), .val (.ref b102), .val (.int off), .val (.int len), .val (.ref b107), .unset, .unset, .unset, .unset, .unset, .unset]) rfl k) ?_
    show own_Go _ _ _ _ T110 (mkF m 78 #[.val (.int p1), .val (.int p2), .val (.int p3), .val (.ref b102), .val (.int off), .val (.int len), .val (.ref b107), .unset, .unset, .unset, .unset, .unset, .unset] [])
    refine own_go (fun _ k => XS.aload X110.here hx rfl (hb hby at_78) rfl rfl k) ?_
    show own_Go _ _ _ _ T110 (mkF m 80 #[.val (.int p1), .val (.int p2), .val (.int p3), .val (.ref b102), .val (.int off), .val (.int len), .val (.ref b107), .unset, .unset, .unset, .unset, .unset, .unset] [(.ref b107)])
    have f156 := (Nat.le_trans f109 K110.1)
    obtain ⟨v157, T157, h157, L157, X157, e157, hQ157, st157⟩ := own_callV X110 hx hZ hown (hw _ (List.mem_of_getElem? (i := 17) rfl)) (hw _ (List.mem_of_getElem? (i := 18) rfl)) (hw _ (List.mem_of_getElem? (i := 20) rfl)) (notFace_of_selects (args := #[]) (mvT hZ (hw _ (List.mem_of_getElem? (i := 20) rfl)))) (hw _ (List.mem_of_getElem? (i := 19) rfl)) (hw _ (List.mem_of_getElem? (i := 4) rfl)) (hw _ (List.mem_of_getElem? (i := 21) rfl)) (by decide) e110 E110x (argsL := []) (rest := []) (rm2 l Z a0 hw [] b107 off en h110 n0 f156 F110p F110e) 0 (by decide) (by decide) (by decide) (by decide) (g := (mkF m 80 #[.val (.int p1), .val (.int p2), .val (.int p3), .val (.ref b102), .val (.int off), .val (.int len), .val (.ref b107), .unset, .unset, .unset, .unset, .unset, .unset] [(.ref b107)])) rfl (by rw [hml]; rfl) (lenOf pd1 rfl) rfl (Nat.le_of_eq rfl) (hb hby at_80)
    obtain ⟨rfl, N157q, rfl⟩ := hQ157
    refine own_go (st157) ?_
    have N157 := Fr.app N110 N157q
    show own_Go _ _ _ _ T157 (mkF m 83 #[.val (.int p1), .val (.int p2), .val (.int p3), .val (.ref b102), .val (.int off), .val (.int len), .val (.ref b107), .unset, .unset, .unset, .unset, .unset, .unset] [(.int (own_hr off en))])
    refine own_go (fun _ k => XS.iload X157.here hx rfl (hb hby at_83) rfl k) ?_
    show own_Go _ _ _ _ T157 (mkF m 85 #[.val (.int p1), .val (.int p2), .val (.int p3), .val (.ref b102), .val (.int off), .val (.int len), .val (.ref b107), .unset, .unset, .unset, .unset, .unset, .unset] [(.int len), (.int (own_hr off en))])
    refine own_go (fun _ k => XS.ifNo X157.here hx rfl (hb hby at_85) rfl ((if0 _ _).trans (tlt (own_lt (by show (0 : Int) < _; omega))).2.2.2) k) ?_
    show own_Go _ _ _ _ T157 (mkF m 88 #[.val (.int p1), .val (.int p2), .val (.int p3), .val (.ref b102), .val (.int off), .val (.int len), .val (.ref b107), .unset, .unset, .unset, .unset, .unset, .unset] [(.int (own_hr off en))])
    refine own_go (fun _ k => XS.iconst X157.here hx rfl (hb hby at_88) k) ?_
    show own_Go _ _ _ _ T157 (mkF m 89 #[.val (.int p1), .val (.int p2), .val (.int p3), .val (.ref b102), .val (.int off), .val (.int len), .val (.ref b107), .unset, .unset, .unset, .unset, .unset, .unset] [(.int (1 : Int32)), (.int (own_hr off en))])
    refine own_go (fun _ k => XS.goto X157.here hx rfl (pc0 := 89) (pc' := 93) rfl (hb hby at_89) (by decide) (by decide) k) ?_
    show own_Go _ _ _ _ T157 (mkF m 93 #[.val (.int p1), .val (.int p2), .val (.int p3), .val (.ref b102), .val (.int off), .val (.int len), .val (.ref b107), .unset, .unset, .unset, .unset, .unset, .unset] [(.int (1 : Int32)), (.int (own_hr off en))])
    refine own_go (fun _ k => XS.icmpYes X157.here hx rfl (pc0 := 93) (pc' := 98) rfl (hb hby at_93) rfl (teq (by rw [own_hr, if_pos (own_lt (by omega))])).1 (by decide) (by decide) k) ?_
    show own_Go _ _ _ _ T157 (mkF m 98 #[.val (.int p1), .val (.int p2), .val (.int p3), .val (.ref b102), .val (.int off), .val (.int len), .val (.ref b107), .unset, .unset, .unset, .unset, .unset, .unset] [])
    refine own_go (fun _ k => XS.aload X157.here hx rfl (hb hby at_98) rfl rfl k) ?_
    show own_Go _ _ _ _ T157 (mkF m 100 #[.val (.int p1), .val (.int p2), .val (.int p3), .val (.ref b102), .val (.int off), .val (.int len), .val (.ref b107), .unset, .unset, .unset, .unset, .unset, .unset] [(.ref b107)])
    have f158 := ((V106.ext E107).keep K110 (ninS (Nat.ne_of_lt o_b107) nin0))
    have sp0 : own_spec f off en = (f (off).toNatClampNeg, (1 : Int32)) := own_one hf7 (own_lt (by omega))
    obtain ⟨v159, T159, h159, L159, X159, e159, hQ159, st159⟩ := own_callV X157 hx hZ hown (hw _ (List.mem_of_getElem? (i := 22) rfl)) (hw _ (List.mem_of_getElem? (i := 23) rfl)) (hw _ (List.mem_of_getElem? (i := 25) rfl)) (notFace_of_selects (args := #[]) (mvT hZ (hw _ (List.mem_of_getElem? (i := 25) rfl)))) (hw _ (List.mem_of_getElem? (i := 24) rfl)) (hw _ (List.mem_of_getElem? (i := 4) rfl)) (hw _ (List.mem_of_getElem? (i := 26) rfl)) (by decide) e157 E110x (argsL := []) (rest := []) (rm3 l Z a0 hw [] b107 b102 off en k102 (4 : Int32) _ _ f h110 n0 f156 E110x F110b F110p F110e g_b107 (Nat.ne_of_lt o_b107) f158 hf (own_bnd (by omega) (by omega) (by omega))) 0 (by decide) (by decide) (by decide) (by decide) (g := (mkF m 100 #[.val (.int p1), .val (.int p2), .val (.int p3), .val (.ref b102), .val (.int off), .val (.int len), .val (.ref b107), .unset, .unset, .unset, .unset, .unset, .unset] [(.ref b107)])) rfl (by rw [hml]; rfl) (lenOf pd2 rfl) rfl (Nat.le_of_eq rfl) (hb hby at_100)
    obtain ⟨rfl, N159q, K159, E159x, F159b, F159p, F159e⟩ := hQ159
    refine own_go (st159) ?_
    have N159 := Fr.app N157 N159q
    show own_Go _ _ _ _ T159 (mkF m 103 #[.val (.int p1), .val (.int p2), .val (.int p3), .val (.ref b102), .val (.int off), .val (.int len), .val (.ref b107), .unset, .unset, .unset, .unset, .unset, .unset] [(.int (own_spec f off en).1)])
    rw [show (own_spec f off en).1 = (f (off).toNatClampNeg) from by rw [sp0]]
    rw [sp0, show off + ((f (off).toNatClampNeg, (1 : Int32)) : Int32 × Int32).2 = (off + (1 : Int32)) from rfl] at F159p
    show own_Go _ _ _ _ T159 (mkF m 103 #[.val (.int p1), .val (.int p2), .val (.int p3), .val (.ref b102), .val (.int off), .val (.int len), .val (.ref b107), .unset, .unset, .unset, .unset, .unset, .unset] [(.int (f (off).toNatClampNeg))])
    refine own_go (fun _ k => XS.istore X159.here hx rfl (hb hby at_103) rfl (l' := #[.val (.int p1), .val (.int p2), .val (.int p3), .val (.ref b102), .val (.int off), .val (.int len), .val (.ref b107), .val (.int (f (off).toNatClampNeg)), .unset, .unset, .unset, .unset, .unset]) rfl k) ?_
    show own_Go _ _ _ _ T159 (mkF m 105 #[.val (.int p1), .val (.int p2), .val (.int p3), .val (.ref b102), .val (.int off), .val (.int len), .val (.ref b107), .val (.int (f (off).toNatClampNeg)), .unset, .unset, .unset, .unset, .unset] [])
    refine own_go (fun _ k => XS.iload X159.here hx rfl (hb hby at_105) rfl k) ?_
    show own_Go _ _ _ _ T159 (mkF m 107 #[.val (.int p1), .val (.int p2), .val (.int p3), .val (.ref b102), .val (.int off), .val (.int len), .val (.ref b107), .val (.int (f (off).toNatClampNeg)), .unset, .unset, .unset, .unset, .unset] [(.int len)])
    refine own_go (fun _ k => XS.ifNo X159.here hx rfl (hb hby at_107) rfl ((if0 _ _).trans (tlt (own_lt (by show (0 : Int) < _; omega))).2.2.2) k) ?_
    show own_Go _ _ _ _ T159 (mkF m 110 #[.val (.int p1), .val (.int p2), .val (.int p3), .val (.ref b102), .val (.int off), .val (.int len), .val (.ref b107), .val (.int (f (off).toNatClampNeg)), .unset, .unset, .unset, .unset, .unset] [])
    refine own_go (fun _ k => XS.aloadN X159.here hx rfl (hb hby at_110) rfl rfl k) ?_
    show own_Go _ _ _ _ T159 (mkF m 111 #[.val (.int p1), .val (.int p2), .val (.int p3), .val (.ref b102), .val (.int off), .val (.int len), .val (.ref b107), .val (.int (f (off).toNatClampNeg)), .unset, .unset, .unset, .unset, .unset] [(.ref b102)])
    refine own_go (fun _ k => XS.iload X159.here hx rfl (hb hby at_111) rfl k) ?_
    show own_Go _ _ _ _ T159 (mkF m 113 #[.val (.int p1), .val (.int p2), .val (.int p3), .val (.ref b102), .val (.int off), .val (.int len), .val (.ref b107), .val (.int (f (off).toNatClampNeg)), .unset, .unset, .unset, .unset, .unset] [(.int off), (.ref b102)])
    have f161 := (f158.keep K159 (ninS (Nat.ne_of_lt o_b107) nin0))
    obtain ⟨cl160, Ar160, q160, S160, M160, H160, G160⟩ := f161
    have V160 : Arv Z h159 b102 k102 .byte (4 : Int32) _ _ := ⟨cl160, Ar160, q160, S160, M160, H160, G160⟩
    have hin160 : ¬ (off < 0 ∨ cl160.slots.size ≤ (off).toNatClampNeg) := inb_of S160 ⟨own_nlt (by show (0 : Int32).toInt ≤ _; rw [own_e0]; omega), own_lt (by show _ < (4 : Int); omega)⟩
    have hat160 : cl160.slots[(off).toNatClampNeg]? = some (.int (f (off).toNatClampNeg)) := H160.at hin160 (hf _)
    refine own_go (X159.baloadBytes hx (j := off) (v := (.int (f (off).toNatClampNeg))) (by rw [e159]; exact Ar160.1) (State.isArrayOf_alike hZ.alike Ar160.2.1) Ar160.2.2 hin160 hat160 (g := (mkF m 113 #[.val (.int p1), .val (.int p2), .val (.int p3), .val (.ref b102), .val (.int off), .val (.int len), .val (.ref b107), .val (.int (f (off).toNatClampNeg)), .unset, .unset, .unset, .unset, .unset] [(.int off), (.ref b102)])) rfl rfl (hb hby at_113)) ?_
    show own_Go _ _ _ _ T159 (mkF m 114 #[.val (.int p1), .val (.int p2), .val (.int p3), .val (.ref b102), .val (.int off), .val (.int len), .val (.ref b107), .val (.int (f (off).toNatClampNeg)), .unset, .unset, .unset, .unset, .unset] [(.int (f (off).toNatClampNeg))])
    refine own_go (fun _ k => XS.goto X159.here hx rfl (pc0 := 114) (pc' := 118) rfl (hb hby at_114) (by decide) (by decide) k) ?_
    show own_Go _ _ _ _ T159 (mkF m 118 #[.val (.int p1), .val (.int p2), .val (.int p3), .val (.ref b102), .val (.int off), .val (.int len), .val (.ref b107), .val (.int (f (off).toNatClampNeg)), .unset, .unset, .unset, .unset, .unset] [(.int (f (off).toNatClampNeg))])
    refine own_go (fun _ k => XS.istore X159.here hx rfl (hb hby at_118) rfl (l' := #[.val (.int p1), .val (.int p2), .val (.int p3), .val (.ref b102), .val (.int off), .val (.int len), .val (.ref b107), .val (.int (f (off).toNatClampNeg)), .val (.int (f (off).toNatClampNeg)), .unset, .unset, .unset, .unset]) rfl k) ?_
    show own_Go _ _ _ _ T159 (mkF m 120 #[.val (.int p1), .val (.int p2), .val (.int p3), .val (.ref b102), .val (.int off), .val (.int len), .val (.ref b107), .val (.int (f (off).toNatClampNeg)), .val (.int (f (off).toNatClampNeg)), .unset, .unset, .unset, .unset] [])
    refine own_go (fun _ k => XS.iload X159.here hx rfl (hb hby at_120) rfl k) ?_
    show own_Go _ _ _ _ T159 (mkF m 122 #[.val (.int p1), .val (.int p2), .val (.int p3), .val (.ref b102), .val (.int off), .val (.int len), .val (.ref b107), .val (.int (f (off).toNatClampNeg)), .val (.int (f (off).toNatClampNeg)), .unset, .unset, .unset, .unset] [(.int (f (off).toNatClampNeg))])
    refine own_go (fun _ k => XS.iload X159.here hx rfl (hb hby at_122) rfl k) ?_
    show own_Go _ _ _ _ T159 (mkF m 124 #[.val (.int p1), .val (.int p2), .val (.int p3), .val (.ref b102), .val (.int off), .val (.int len), .val (.ref b107), .val (.int (f (off).toNatClampNeg)), .val (.int (f (off).toNatClampNeg)), .unset, .unset, .unset, .unset] [(.int (f (off).toNatClampNeg)), (.int (f (off).toNatClampNeg))])
    refine own_go (fun _ k => XS.icmpYes X159.here hx rfl (pc0 := 124) (pc' := 129) rfl (hb hby at_124) rfl (teq rfl).1 (by decide) (by decide) k) ?_
    show own_Go _ _ _ _ T159 (mkF m 129 #[.val (.int p1), .val (.int p2), .val (.int p3), .val (.ref b102), .val (.int off), .val (.int len), .val (.ref b107), .val (.int (f (off).toNatClampNeg)), .val (.int (f (off).toNatClampNeg)), .unset, .unset, .unset, .unset] [])
    refine own_go (fun _ k => XS.aload X159.here hx rfl (hb hby at_129) rfl rfl k) ?_
    show own_Go _ _ _ _ T159 (mkF m 131 #[.val (.int p1), .val (.int p2), .val (.int p3), .val (.ref b102), .val (.int off), .val (.int len), .val (.ref b107), .val (.int (f (off).toNatClampNeg)), .val (.int (f (off).toNatClampNeg)), .unset, .unset, .unset, .unset] [(.ref b107)])
    have f162 := (Nat.le_trans f156 K159.1)
    obtain ⟨v163, T163, h163, L163, X163, e163, hQ163, st163⟩ := own_callV X159 hx hZ hown (hw _ (List.mem_of_getElem? (i := 17) rfl)) (hw _ (List.mem_of_getElem? (i := 18) rfl)) (hw _ (List.mem_of_getElem? (i := 20) rfl)) (notFace_of_selects (args := #[]) (mvT hZ (hw _ (List.mem_of_getElem? (i := 20) rfl)))) (hw _ (List.mem_of_getElem? (i := 19) rfl)) (hw _ (List.mem_of_getElem? (i := 4) rfl)) (hw _ (List.mem_of_getElem? (i := 21) rfl)) (by decide) e159 E159x (argsL := []) (rest := []) (rm2 l Z a0 hw [] b107 (off + (1 : Int32)) en h159 n0 f162 F159p F159e) 0 (by decide) (by decide) (by decide) (by decide) (g := (mkF m 131 #[.val (.int p1), .val (.int p2), .val (.int p3), .val (.ref b102), .val (.int off), .val (.int len), .val (.ref b107), .val (.int (f (off).toNatClampNeg)), .val (.int (f (off).toNatClampNeg)), .unset, .unset, .unset, .unset] [(.ref b107)])) rfl (by rw [hml]; rfl) (lenOf pd1 rfl) rfl (Nat.le_of_eq rfl) (hb hby at_131)
    obtain ⟨rfl, N163q, rfl⟩ := hQ163
    refine own_go (st163) ?_
    have N163 := Fr.app N159 N163q
    show own_Go _ _ _ _ T163 (mkF m 134 #[.val (.int p1), .val (.int p2), .val (.int p3), .val (.ref b102), .val (.int off), .val (.int len), .val (.ref b107), .val (.int (f (off).toNatClampNeg)), .val (.int (f (off).toNatClampNeg)), .unset, .unset, .unset, .unset] [(.int (own_hr (off + (1 : Int32)) en))])
    refine own_go (fun _ k => XS.iload X163.here hx rfl (hb hby at_134) rfl k) ?_
    show own_Go _ _ _ _ T163 (mkF m 136 #[.val (.int p1), .val (.int p2), .val (.int p3), .val (.ref b102), .val (.int off), .val (.int len), .val (.ref b107), .val (.int (f (off).toNatClampNeg)), .val (.int (f (off).toNatClampNeg)), .unset, .unset, .unset, .unset] [(.int len), (.int (own_hr (off + (1 : Int32)) en))])
    refine own_go (fun _ k => XS.iconst X163.here hx rfl (hb hby at_136) k) ?_
    show own_Go _ _ _ _ T163 (mkF m 137 #[.val (.int p1), .val (.int p2), .val (.int p3), .val (.ref b102), .val (.int off), .val (.int len), .val (.ref b107), .val (.int (f (off).toNatClampNeg)), .val (.int (f (off).toNatClampNeg)), .unset, .unset, .unset, .unset] [(.int (1 : Int32)), (.int len), (.int (own_hr (off + (1 : Int32)) en))])
    refine own_go (fun _ k => XS.icmpNo X163.here hx rfl (hb hby at_137) rfl (tlt (own_lt (by show (1 : Int) < _; omega))).2.2.2 k) ?_
    show own_Go _ _ _ _ T163 (mkF m 140 #[.val (.int p1), .val (.int p2), .val (.int p3), .val (.ref b102), .val (.int off), .val (.int len), .val (.ref b107), .val (.int (f (off).toNatClampNeg)), .val (.int (f (off).toNatClampNeg)), .unset, .unset, .unset, .unset] [(.int (own_hr (off + (1 : Int32)) en))])
    refine own_go (fun _ k => XS.iconst X163.here hx rfl (hb hby at_140) k) ?_
    show own_Go _ _ _ _ T163 (mkF m 141 #[.val (.int p1), .val (.int p2), .val (.int p3), .val (.ref b102), .val (.int off), .val (.int len), .val (.ref b107), .val (.int (f (off).toNatClampNeg)), .val (.int (f (off).toNatClampNeg)), .unset, .unset, .unset, .unset] [(.int (1 : Int32)), (.int (own_hr (off + (1 : Int32)) en))])
    refine own_go (fun _ k => XS.goto X163.here hx rfl (pc0 := 141) (pc' := 145) rfl (hb hby at_141) (by decide) (by decide) k) ?_
    show own_Go _ _ _ _ T163 (mkF m 145 #[.val (.int p1), .val (.int p2), .val (.int p3), .val (.ref b102), .val (.int off), .val (.int len), .val (.ref b107), .val (.int (f (off).toNatClampNeg)), .val (.int (f (off).toNatClampNeg)), .unset, .unset, .unset, .unset] [(.int (1 : Int32)), (.int (own_hr (off + (1 : Int32)) en))])
    refine own_go (fun _ k => XS.icmpYes X163.here hx rfl (pc0 := 145) (pc' := 150) rfl (hb hby at_145) rfl (teq (by rw [own_hr, if_pos (own_lt (by omega))])).1 (by decide) (by decide) k) ?_
    show own_Go _ _ _ _ T163 (mkF m 150 #[.val (.int p1), .val (.int p2), .val (.int p3), .val (.ref b102), .val (.int off), .val (.int len), .val (.ref b107), .val (.int (f (off).toNatClampNeg)), .val (.int (f (off).toNatClampNeg)), .unset, .unset, .unset, .unset] [])
    refine own_go (fun _ k => XS.aload X163.here hx rfl (hb hby at_150) rfl rfl k) ?_
    show own_Go _ _ _ _ T163 (mkF m 152 #[.val (.int p1), .val (.int p2), .val (.int p3), .val (.ref b102), .val (.int off), .val (.int len), .val (.ref b107), .val (.int (f (off).toNatClampNeg)), .val (.int (f (off).toNatClampNeg)), .unset, .unset, .unset, .unset] [(.ref b107)])
    have sp1 : own_spec f (off + (1 : Int32)) en = (f ((off + (1 : Int32))).toNatClampNeg, (1 : Int32)) := own_one hf7 (own_lt (by omega))
    obtain ⟨v164, T164, h164, L164, X164, e164, hQ164, st164⟩ := own_callV X163 hx hZ hown (hw _ (List.mem_of_getElem? (i := 22) rfl)) (hw _ (List.mem_of_getElem? (i := 23) rfl)) (hw _ (List.mem_of_getElem? (i := 25) rfl)) (notFace_of_selects (args := #[]) (mvT hZ (hw _ (List.mem_of_getElem? (i := 25) rfl)))) (hw _ (List.mem_of_getElem? (i := 24) rfl)) (hw _ (List.mem_of_getElem? (i := 4) rfl)) (hw _ (List.mem_of_getElem? (i := 26) rfl)) (by decide) e163 E159x (argsL := []) (rest := []) (rm3 l Z a0 hw [] b107 b102 (off + (1 : Int32)) en k102 (4 : Int32) _ _ f h159 n0 f162 E159x F159b F159p F159e g_b107 (Nat.ne_of_lt o_b107) V160 hf (own_bnd (by omega) (by omega) (by omega))) 0 (by decide) (by decide) (by decide) (by decide) (g := (mkF m 152 #[.val (.int p1), .val (.int p2), .val (.int p3), .val (.ref b102), .val (.int off), .val (.int len), .val (.ref b107), .val (.int (f (off).toNatClampNeg)), .val (.int (f (off).toNatClampNeg)), .unset, .unset, .unset, .unset] [(.ref b107)])) rfl (by rw [hml]; rfl) (lenOf pd2 rfl) rfl (Nat.le_of_eq rfl) (hb hby at_152)
    obtain ⟨rfl, N164q, K164, E164x, F164b, F164p, F164e⟩ := hQ164
    refine own_go (st164) ?_
    have N164 := Fr.app N163 N164q
    show own_Go _ _ _ _ T164 (mkF m 155 #[.val (.int p1), .val (.int p2), .val (.int p3), .val (.ref b102), .val (.int off), .val (.int len), .val (.ref b107), .val (.int (f (off).toNatClampNeg)), .val (.int (f (off).toNatClampNeg)), .unset, .unset, .unset, .unset] [(.int (own_spec f (off + (1 : Int32)) en).1)])
    rw [show (own_spec f (off + (1 : Int32)) en).1 = (f ((off + (1 : Int32))).toNatClampNeg) from by rw [sp1]]
    rw [sp1, show (off + (1 : Int32)) + ((f ((off + (1 : Int32))).toNatClampNeg, (1 : Int32)) : Int32 × Int32).2 = (off + (2 : Int32)) from own_addone1 off] at F164p
    show own_Go _ _ _ _ T164 (mkF m 155 #[.val (.int p1), .val (.int p2), .val (.int p3), .val (.ref b102), .val (.int off), .val (.int len), .val (.ref b107), .val (.int (f (off).toNatClampNeg)), .val (.int (f (off).toNatClampNeg)), .unset, .unset, .unset, .unset] [(.int (f ((off + (1 : Int32))).toNatClampNeg))])
    refine own_go (fun _ k => XS.istore X164.here hx rfl (hb hby at_155) rfl (l' := #[.val (.int p1), .val (.int p2), .val (.int p3), .val (.ref b102), .val (.int off), .val (.int len), .val (.ref b107), .val (.int (f (off).toNatClampNeg)), .val (.int (f (off).toNatClampNeg)), .val (.int (f ((off + (1 : Int32))).toNatClampNeg)), .unset, .unset, .unset]) rfl k) ?_
    show own_Go _ _ _ _ T164 (mkF m 157 #[.val (.int p1), .val (.int p2), .val (.int p3), .val (.ref b102), .val (.int off), .val (.int len), .val (.ref b107), .val (.int (f (off).toNatClampNeg)), .val (.int (f (off).toNatClampNeg)), .val (.int (f ((off + (1 : Int32))).toNatClampNeg)), .unset, .unset, .unset] [])
    refine own_go (fun _ k => XS.iload X164.here hx rfl (hb hby at_157) rfl k) ?_
    show own_Go _ _ _ _ T164 (mkF m 159 #[.val (.int p1), .val (.int p2), .val (.int p3), .val (.ref b102), .val (.int off), .val (.int len), .val (.ref b107), .val (.int (f (off).toNatClampNeg)), .val (.int (f (off).toNatClampNeg)), .val (.int (f ((off + (1 : Int32))).toNatClampNeg)), .unset, .unset, .unset] [(.int len)])
    refine own_go (fun _ k => XS.iconst X164.here hx rfl (hb hby at_159) k) ?_
    show own_Go _ _ _ _ T164 (mkF m 160 #[.val (.int p1), .val (.int p2), .val (.int p3), .val (.ref b102), .val (.int off), .val (.int len), .val (.ref b107), .val (.int (f (off).toNatClampNeg)), .val (.int (f (off).toNatClampNeg)), .val (.int (f ((off + (1 : Int32))).toNatClampNeg)), .unset, .unset, .unset] [(.int (1 : Int32)), (.int len)])
    refine own_go (fun _ k => XS.icmpNo X164.here hx rfl (hb hby at_160) rfl (tlt (own_lt (by show (1 : Int) < _; omega))).2.2.2 k) ?_
    show own_Go _ _ _ _ T164 (mkF m 163 #[.val (.int p1), .val (.int p2), .val (.int p3), .val (.ref b102), .val (.int off), .val (.int len), .val (.ref b107), .val (.int (f (off).toNatClampNeg)), .val (.int (f (off).toNatClampNeg)), .val (.int (f ((off + (1 : Int32))).toNatClampNeg)), .unset, .unset, .unset] [])
    refine own_go (fun _ k => XS.aloadN X164.here hx rfl (hb hby at_163) rfl rfl k) ?_
    show own_Go _ _ _ _ T164 (mkF m 164 #[.val (.int p1), .val (.int p2), .val (.int p3), .val (.ref b102), .val (.int off), .val (.int len), .val (.ref b107), .val (.int (f (off).toNatClampNeg)), .val (.int (f (off).toNatClampNeg)), .val (.int (f ((off + (1 : Int32))).toNatClampNeg)), .unset, .unset, .unset] [(.ref b102)])
    refine own_go (fun _ k => XS.iload X164.here hx rfl (hb hby at_164) rfl k) ?_
    show own_Go _ _ _ _ T164 (mkF m 166 #[.val (.int p1), .val (.int p2), .val (.int p3), .val (.ref b102), .val (.int off), .val (.int len), .val (.ref b107), .val (.int (f (off).toNatClampNeg)), .val (.int (f (off).toNatClampNeg)), .val (.int (f ((off + (1 : Int32))).toNatClampNeg)), .unset, .unset, .unset] [(.int off), (.ref b102)])
    refine own_go (fun _ k => XS.iconst X164.here hx rfl (hb hby at_166) k) ?_
    show own_Go _ _ _ _ T164 (mkF m 167 #[.val (.int p1), .val (.int p2), .val (.int p3), .val (.ref b102), .val (.int off), .val (.int len), .val (.ref b107), .val (.int (f (off).toNatClampNeg)), .val (.int (f (off).toNatClampNeg)), .val (.int (f ((off + (1 : Int32))).toNatClampNeg)), .unset, .unset, .unset] [(.int (1 : Int32)), (.int off), (.ref b102)])
    refine own_go (fun _ k => XS.iadd X164.here hx rfl (hb hby at_167) rfl k) ?_
    show own_Go _ _ _ _ T164 (mkF m 168 #[.val (.int p1), .val (.int p2), .val (.int p3), .val (.ref b102), .val (.int off), .val (.int len), .val (.ref b107), .val (.int (f (off).toNatClampNeg)), .val (.int (f (off).toNatClampNeg)), .val (.int (f ((off + (1 : Int32))).toNatClampNeg)), .unset, .unset, .unset] [(.int (off + (1 : Int32))), (.ref b102)])
    have f166 := (V160.keep K164 (ninS (Nat.ne_of_lt o_b107) nin0))
    obtain ⟨cl165, Ar165, q165, S165, M165, H165, G165⟩ := f166
    have V165 : Arv Z h164 b102 k102 .byte (4 : Int32) _ _ := ⟨cl165, Ar165, q165, S165, M165, H165, G165⟩
    have hin165 : ¬ ((off + (1 : Int32)) < 0 ∨ cl165.slots.size ≤ ((off + (1 : Int32))).toNatClampNeg) := inb_of S165 ⟨own_nlt (by show (0 : Int32).toInt ≤ _; rw [own_e0]; omega), own_lt (by show _ < (4 : Int); omega)⟩
    have hat165 : cl165.slots[((off + (1 : Int32))).toNatClampNeg]? = some (.int (f ((off + (1 : Int32))).toNatClampNeg)) := H165.at hin165 (hf _)
    refine own_go (X164.baloadBytes hx (j := (off + (1 : Int32))) (v := (.int (f ((off + (1 : Int32))).toNatClampNeg))) (by rw [e164]; exact Ar165.1) (State.isArrayOf_alike hZ.alike Ar165.2.1) Ar165.2.2 hin165 hat165 (g := (mkF m 168 #[.val (.int p1), .val (.int p2), .val (.int p3), .val (.ref b102), .val (.int off), .val (.int len), .val (.ref b107), .val (.int (f (off).toNatClampNeg)), .val (.int (f (off).toNatClampNeg)), .val (.int (f ((off + (1 : Int32))).toNatClampNeg)), .unset, .unset, .unset] [(.int (off + (1 : Int32))), (.ref b102)])) rfl rfl (hb hby at_168)) ?_
    show own_Go _ _ _ _ T164 (mkF m 169 #[.val (.int p1), .val (.int p2), .val (.int p3), .val (.ref b102), .val (.int off), .val (.int len), .val (.ref b107), .val (.int (f (off).toNatClampNeg)), .val (.int (f (off).toNatClampNeg)), .val (.int (f ((off + (1 : Int32))).toNatClampNeg)), .unset, .unset, .unset] [(.int (f ((off + (1 : Int32))).toNatClampNeg))])
    refine own_go (fun _ k => XS.goto X164.here hx rfl (pc0 := 169) (pc' := 173) rfl (hb hby at_169) (by decide) (by decide) k) ?_
    show own_Go _ _ _ _ T164 (mkF m 173 #[.val (.int p1), .val (.int p2), .val (.int p3), .val (.ref b102), .val (.int off), .val (.int len), .val (.ref b107), .val (.int (f (off).toNatClampNeg)), .val (.int (f (off).toNatClampNeg)), .val (.int (f ((off + (1 : Int32))).toNatClampNeg)), .unset, .unset, .unset] [(.int (f ((off + (1 : Int32))).toNatClampNeg))])
    refine own_go (fun _ k => XS.istore X164.here hx rfl (hb hby at_173) rfl (l' := #[.val (.int p1), .val (.int p2), .val (.int p3), .val (.ref b102), .val (.int off), .val (.int len), .val (.ref b107), .val (.int (f (off).toNatClampNeg)), .val (.int (f (off).toNatClampNeg)), .val (.int (f ((off + (1 : Int32))).toNatClampNeg)), .val (.int (f ((off + (1 : Int32))).toNatClampNeg)), .unset, .unset]) rfl k) ?_
    show own_Go _ _ _ _ T164 (mkF m 175 #[.val (.int p1), .val (.int p2), .val (.int p3), .val (.ref b102), .val (.int off), .val (.int len), .val (.ref b107), .val (.int (f (off).toNatClampNeg)), .val (.int (f (off).toNatClampNeg)), .val (.int (f ((off + (1 : Int32))).toNatClampNeg)), .val (.int (f ((off + (1 : Int32))).toNatClampNeg)), .unset, .unset] [])
    refine own_go (fun _ k => XS.iload X164.here hx rfl (hb hby at_175) rfl k) ?_
    show own_Go _ _ _ _ T164 (mkF m 177 #[.val (.int p1), .val (.int p2), .val (.int p3), .val (.ref b102), .val (.int off), .val (.int len), .val (.ref b107), .val (.int (f (off).toNatClampNeg)), .val (.int (f (off).toNatClampNeg)), .val (.int (f ((off + (1 : Int32))).toNatClampNeg)), .val (.int (f ((off + (1 : Int32))).toNatClampNeg)), .unset, .unset] [(.int (f ((off + (1 : Int32))).toNatClampNeg))])
    refine own_go (fun _ k => XS.iload X164.here hx rfl (hb hby at_177) rfl k) ?_
    show own_Go _ _ _ _ T164 (mkF m 179 #[.val (.int p1), .val (.int p2), .val (.int p3), .val (.ref b102), .val (.int off), .val (.int len), .val (.ref b107), .val (.int (f (off).toNatClampNeg)), .val (.int (f (off).toNatClampNeg)), .val (.int (f ((off + (1 : Int32))).toNatClampNeg)), .val (.int (f ((off + (1 : Int32))).toNatClampNeg)), .unset, .unset] [(.int (f ((off + (1 : Int32))).toNatClampNeg)), (.int (f ((off + (1 : Int32))).toNatClampNeg))])
    refine own_go (fun _ k => XS.icmpYes X164.here hx rfl (pc0 := 179) (pc' := 184) rfl (hb hby at_179) rfl (teq rfl).1 (by decide) (by decide) k) ?_
    show own_Go _ _ _ _ T164 (mkF m 184 #[.val (.int p1), .val (.int p2), .val (.int p3), .val (.ref b102), .val (.int off), .val (.int len), .val (.ref b107), .val (.int (f (off).toNatClampNeg)), .val (.int (f (off).toNatClampNeg)), .val (.int (f ((off + (1 : Int32))).toNatClampNeg)), .val (.int (f ((off + (1 : Int32))).toNatClampNeg)), .unset, .unset] [])
    refine own_go (fun _ k => XS.aload X164.here hx rfl (hb hby at_184) rfl rfl k) ?_
    show own_Go _ _ _ _ T164 (mkF m 186 #[.val (.int p1), .val (.int p2), .val (.int p3), .val (.ref b102), .val (.int off), .val (.int len), .val (.ref b107), .val (.int (f (off).toNatClampNeg)), .val (.int (f (off).toNatClampNeg)), .val (.int (f ((off + (1 : Int32))).toNatClampNeg)), .val (.int (f ((off + (1 : Int32))).toNatClampNeg)), .unset, .unset] [(.ref b107)])
    have f167 := (Nat.le_trans f162 K164.1)
    obtain ⟨v168, T168, h168, L168, X168, e168, hQ168, st168⟩ := own_callV X164 hx hZ hown (hw _ (List.mem_of_getElem? (i := 17) rfl)) (hw _ (List.mem_of_getElem? (i := 18) rfl)) (hw _ (List.mem_of_getElem? (i := 20) rfl)) (notFace_of_selects (args := #[]) (mvT hZ (hw _ (List.mem_of_getElem? (i := 20) rfl)))) (hw _ (List.mem_of_getElem? (i := 19) rfl)) (hw _ (List.mem_of_getElem? (i := 4) rfl)) (hw _ (List.mem_of_getElem? (i := 21) rfl)) (by decide) e164 E164x (argsL := []) (rest := []) (rm2 l Z a0 hw [] b107 (off + (2 : Int32)) en h164 n0 f167 F164p F164e) 0 (by decide) (by decide) (by decide) (by decide) (g := (mkF m 186 #[.val (.int p1), .val (.int p2), .val (.int p3), .val (.ref b102), .val (.int off), .val (.int len), .val (.ref b107), .val (.int (f (off).toNatClampNeg)), .val (.int (f (off).toNatClampNeg)), .val (.int (f ((off + (1 : Int32))).toNatClampNeg)), .val (.int (f ((off + (1 : Int32))).toNatClampNeg)), .unset, .unset] [(.ref b107)])) rfl (by rw [hml]; rfl) (lenOf pd1 rfl) rfl (Nat.le_of_eq rfl) (hb hby at_186)
    obtain ⟨rfl, N168q, rfl⟩ := hQ168
    refine own_go (st168) ?_
    have N168 := Fr.app N164 N168q
    show own_Go _ _ _ _ T168 (mkF m 189 #[.val (.int p1), .val (.int p2), .val (.int p3), .val (.ref b102), .val (.int off), .val (.int len), .val (.ref b107), .val (.int (f (off).toNatClampNeg)), .val (.int (f (off).toNatClampNeg)), .val (.int (f ((off + (1 : Int32))).toNatClampNeg)), .val (.int (f ((off + (1 : Int32))).toNatClampNeg)), .unset, .unset] [(.int (own_hr (off + (2 : Int32)) en))])
    refine own_go (fun _ k => XS.iload X168.here hx rfl (hb hby at_189) rfl k) ?_
    show own_Go _ _ _ _ T168 (mkF m 191 #[.val (.int p1), .val (.int p2), .val (.int p3), .val (.ref b102), .val (.int off), .val (.int len), .val (.ref b107), .val (.int (f (off).toNatClampNeg)), .val (.int (f (off).toNatClampNeg)), .val (.int (f ((off + (1 : Int32))).toNatClampNeg)), .val (.int (f ((off + (1 : Int32))).toNatClampNeg)), .unset, .unset] [(.int len), (.int (own_hr (off + (2 : Int32)) en))])
    refine own_go (fun _ k => XS.iconst X168.here hx rfl (hb hby at_191) k) ?_
    show own_Go _ _ _ _ T168 (mkF m 192 #[.val (.int p1), .val (.int p2), .val (.int p3), .val (.ref b102), .val (.int off), .val (.int len), .val (.ref b107), .val (.int (f (off).toNatClampNeg)), .val (.int (f (off).toNatClampNeg)), .val (.int (f ((off + (1 : Int32))).toNatClampNeg)), .val (.int (f ((off + (1 : Int32))).toNatClampNeg)), .unset, .unset] [(.int (2 : Int32)), (.int len), (.int (own_hr (off + (2 : Int32)) en))])
    refine own_go (fun _ k => XS.icmpNo X168.here hx rfl (hb hby at_192) rfl (tlt (own_lt (by show (2 : Int) < _; omega))).2.2.2 k) ?_
    show own_Go _ _ _ _ T168 (mkF m 195 #[.val (.int p1), .val (.int p2), .val (.int p3), .val (.ref b102), .val (.int off), .val (.int len), .val (.ref b107), .val (.int (f (off).toNatClampNeg)), .val (.int (f (off).toNatClampNeg)), .val (.int (f ((off + (1 : Int32))).toNatClampNeg)), .val (.int (f ((off + (1 : Int32))).toNatClampNeg)), .unset, .unset] [(.int (own_hr (off + (2 : Int32)) en))])
    refine own_go (fun _ k => XS.iconst X168.here hx rfl (hb hby at_195) k) ?_
    show own_Go _ _ _ _ T168 (mkF m 196 #[.val (.int p1), .val (.int p2), .val (.int p3), .val (.ref b102), .val (.int off), .val (.int len), .val (.ref b107), .val (.int (f (off).toNatClampNeg)), .val (.int (f (off).toNatClampNeg)), .val (.int (f ((off + (1 : Int32))).toNatClampNeg)), .val (.int (f ((off + (1 : Int32))).toNatClampNeg)), .unset, .unset] [(.int (1 : Int32)), (.int (own_hr (off + (2 : Int32)) en))])
    refine own_go (fun _ k => XS.goto X168.here hx rfl (pc0 := 196) (pc' := 200) rfl (hb hby at_196) (by decide) (by decide) k) ?_
    show own_Go _ _ _ _ T168 (mkF m 200 #[.val (.int p1), .val (.int p2), .val (.int p3), .val (.ref b102), .val (.int off), .val (.int len), .val (.ref b107), .val (.int (f (off).toNatClampNeg)), .val (.int (f (off).toNatClampNeg)), .val (.int (f ((off + (1 : Int32))).toNatClampNeg)), .val (.int (f ((off + (1 : Int32))).toNatClampNeg)), .unset, .unset] [(.int (1 : Int32)), (.int (own_hr (off + (2 : Int32)) en))])
    refine own_go (fun _ k => XS.icmpYes X168.here hx rfl (pc0 := 200) (pc' := 205) rfl (hb hby at_200) rfl (teq (by rw [own_hr, if_pos (own_lt (by omega))])).1 (by decide) (by decide) k) ?_
    show own_Go _ _ _ _ T168 (mkF m 205 #[.val (.int p1), .val (.int p2), .val (.int p3), .val (.ref b102), .val (.int off), .val (.int len), .val (.ref b107), .val (.int (f (off).toNatClampNeg)), .val (.int (f (off).toNatClampNeg)), .val (.int (f ((off + (1 : Int32))).toNatClampNeg)), .val (.int (f ((off + (1 : Int32))).toNatClampNeg)), .unset, .unset] [])
    refine own_go (fun _ k => XS.aload X168.here hx rfl (hb hby at_205) rfl rfl k) ?_
    show own_Go _ _ _ _ T168 (mkF m 207 #[.val (.int p1), .val (.int p2), .val (.int p3), .val (.ref b102), .val (.int off), .val (.int len), .val (.ref b107), .val (.int (f (off).toNatClampNeg)), .val (.int (f (off).toNatClampNeg)), .val (.int (f ((off + (1 : Int32))).toNatClampNeg)), .val (.int (f ((off + (1 : Int32))).toNatClampNeg)), .unset, .unset] [(.ref b107)])
    have sp2 : own_spec f (off + (2 : Int32)) en = (f ((off + (2 : Int32))).toNatClampNeg, (1 : Int32)) := own_one hf7 (own_lt (by omega))
    obtain ⟨v169, T169, h169, L169, X169, e169, hQ169, st169⟩ := own_callV X168 hx hZ hown (hw _ (List.mem_of_getElem? (i := 22) rfl)) (hw _ (List.mem_of_getElem? (i := 23) rfl)) (hw _ (List.mem_of_getElem? (i := 25) rfl)) (notFace_of_selects (args := #[]) (mvT hZ (hw _ (List.mem_of_getElem? (i := 25) rfl)))) (hw _ (List.mem_of_getElem? (i := 24) rfl)) (hw _ (List.mem_of_getElem? (i := 4) rfl)) (hw _ (List.mem_of_getElem? (i := 26) rfl)) (by decide) e168 E164x (argsL := []) (rest := []) (rm3 l Z a0 hw [] b107 b102 (off + (2 : Int32)) en k102 (4 : Int32) _ _ f h164 n0 f167 E164x F164b F164p F164e g_b107 (Nat.ne_of_lt o_b107) V165 hf (own_bnd (by omega) (by omega) (by omega))) 0 (by decide) (by decide) (by decide) (by decide) (g := (mkF m 207 #[.val (.int p1), .val (.int p2), .val (.int p3), .val (.ref b102), .val (.int off), .val (.int len), .val (.ref b107), .val (.int (f (off).toNatClampNeg)), .val (.int (f (off).toNatClampNeg)), .val (.int (f ((off + (1 : Int32))).toNatClampNeg)), .val (.int (f ((off + (1 : Int32))).toNatClampNeg)), .unset, .unset] [(.ref b107)])) rfl (by rw [hml]; rfl) (lenOf pd2 rfl) rfl (Nat.le_of_eq rfl) (hb hby at_207)
    obtain ⟨rfl, N169q, K169, E169x, F169b, F169p, F169e⟩ := hQ169
    refine own_go (st169) ?_
    have N169 := Fr.app N168 N169q
    show own_Go _ _ _ _ T169 (mkF m 210 #[.val (.int p1), .val (.int p2), .val (.int p3), .val (.ref b102), .val (.int off), .val (.int len), .val (.ref b107), .val (.int (f (off).toNatClampNeg)), .val (.int (f (off).toNatClampNeg)), .val (.int (f ((off + (1 : Int32))).toNatClampNeg)), .val (.int (f ((off + (1 : Int32))).toNatClampNeg)), .unset, .unset] [(.int (own_spec f (off + (2 : Int32)) en).1)])
    rw [show (own_spec f (off + (2 : Int32)) en).1 = (f ((off + (2 : Int32))).toNatClampNeg) from by rw [sp2]]
    rw [sp2, show (off + (2 : Int32)) + ((f ((off + (2 : Int32))).toNatClampNeg, (1 : Int32)) : Int32 × Int32).2 = (off + (3 : Int32)) from own_addone2 off] at F169p
    show own_Go _ _ _ _ T169 (mkF m 210 #[.val (.int p1), .val (.int p2), .val (.int p3), .val (.ref b102), .val (.int off), .val (.int len), .val (.ref b107), .val (.int (f (off).toNatClampNeg)), .val (.int (f (off).toNatClampNeg)), .val (.int (f ((off + (1 : Int32))).toNatClampNeg)), .val (.int (f ((off + (1 : Int32))).toNatClampNeg)), .unset, .unset] [(.int (f ((off + (2 : Int32))).toNatClampNeg))])
    refine own_go (fun _ k => XS.istore X169.here hx rfl (hb hby at_210) rfl (l' := #[.val (.int p1), .val (.int p2), .val (.int p3), .val (.ref b102), .val (.int off), .val (.int len), .val (.ref b107), .val (.int (f (off).toNatClampNeg)), .val (.int (f (off).toNatClampNeg)), .val (.int (f ((off + (1 : Int32))).toNatClampNeg)), .val (.int (f ((off + (1 : Int32))).toNatClampNeg)), .val (.int (f ((off + (2 : Int32))).toNatClampNeg)), .unset]) rfl k) ?_
    show own_Go _ _ _ _ T169 (mkF m 212 #[.val (.int p1), .val (.int p2), .val (.int p3), .val (.ref b102), .val (.int off), .val (.int len), .val (.ref b107), .val (.int (f (off).toNatClampNeg)), .val (.int (f (off).toNatClampNeg)), .val (.int (f ((off + (1 : Int32))).toNatClampNeg)), .val (.int (f ((off + (1 : Int32))).toNatClampNeg)), .val (.int (f ((off + (2 : Int32))).toNatClampNeg)), .unset] [])
    refine own_go (fun _ k => XS.iload X169.here hx rfl (hb hby at_212) rfl k) ?_
    show own_Go _ _ _ _ T169 (mkF m 214 #[.val (.int p1), .val (.int p2), .val (.int p3), .val (.ref b102), .val (.int off), .val (.int len), .val (.ref b107), .val (.int (f (off).toNatClampNeg)), .val (.int (f (off).toNatClampNeg)), .val (.int (f ((off + (1 : Int32))).toNatClampNeg)), .val (.int (f ((off + (1 : Int32))).toNatClampNeg)), .val (.int (f ((off + (2 : Int32))).toNatClampNeg)), .unset] [(.int len)])
    refine own_go (fun _ k => XS.iconst X169.here hx rfl (hb hby at_214) k) ?_
    show own_Go _ _ _ _ T169 (mkF m 215 #[.val (.int p1), .val (.int p2), .val (.int p3), .val (.ref b102), .val (.int off), .val (.int len), .val (.ref b107), .val (.int (f (off).toNatClampNeg)), .val (.int (f (off).toNatClampNeg)), .val (.int (f ((off + (1 : Int32))).toNatClampNeg)), .val (.int (f ((off + (1 : Int32))).toNatClampNeg)), .val (.int (f ((off + (2 : Int32))).toNatClampNeg)), .unset] [(.int (2 : Int32)), (.int len)])
    refine own_go (fun _ k => XS.icmpNo X169.here hx rfl (hb hby at_215) rfl (tlt (own_lt (by show (2 : Int) < _; omega))).2.2.2 k) ?_
    show own_Go _ _ _ _ T169 (mkF m 218 #[.val (.int p1), .val (.int p2), .val (.int p3), .val (.ref b102), .val (.int off), .val (.int len), .val (.ref b107), .val (.int (f (off).toNatClampNeg)), .val (.int (f (off).toNatClampNeg)), .val (.int (f ((off + (1 : Int32))).toNatClampNeg)), .val (.int (f ((off + (1 : Int32))).toNatClampNeg)), .val (.int (f ((off + (2 : Int32))).toNatClampNeg)), .unset] [])
    refine own_go (fun _ k => XS.aloadN X169.here hx rfl (hb hby at_218) rfl rfl k) ?_
    show own_Go _ _ _ _ T169 (mkF m 219 #[.val (.int p1), .val (.int p2), .val (.int p3), .val (.ref b102), .val (.int off), .val (.int len), .val (.ref b107), .val (.int (f (off).toNatClampNeg)), .val (.int (f (off).toNatClampNeg)), .val (.int (f ((off + (1 : Int32))).toNatClampNeg)), .val (.int (f ((off + (1 : Int32))).toNatClampNeg)), .val (.int (f ((off + (2 : Int32))).toNatClampNeg)), .unset] [(.ref b102)])
    refine own_go (fun _ k => XS.iload X169.here hx rfl (hb hby at_219) rfl k) ?_
    show own_Go _ _ _ _ T169 (mkF m 221 #[.val (.int p1), .val (.int p2), .val (.int p3), .val (.ref b102), .val (.int off), .val (.int len), .val (.ref b107), .val (.int (f (off).toNatClampNeg)), .val (.int (f (off).toNatClampNeg)), .val (.int (f ((off + (1 : Int32))).toNatClampNeg)), .val (.int (f ((off + (1 : Int32))).toNatClampNeg)), .val (.int (f ((off + (2 : Int32))).toNatClampNeg)), .unset] [(.int off), (.ref b102)])
    refine own_go (fun _ k => XS.iconst X169.here hx rfl (hb hby at_221) k) ?_
    show own_Go _ _ _ _ T169 (mkF m 222 #[.val (.int p1), .val (.int p2), .val (.int p3), .val (.ref b102), .val (.int off), .val (.int len), .val (.ref b107), .val (.int (f (off).toNatClampNeg)), .val (.int (f (off).toNatClampNeg)), .val (.int (f ((off + (1 : Int32))).toNatClampNeg)), .val (.int (f ((off + (1 : Int32))).toNatClampNeg)), .val (.int (f ((off + (2 : Int32))).toNatClampNeg)), .unset] [(.int (2 : Int32)), (.int off), (.ref b102)])
    refine own_go (fun _ k => XS.iadd X169.here hx rfl (hb hby at_222) rfl k) ?_
    show own_Go _ _ _ _ T169 (mkF m 223 #[.val (.int p1), .val (.int p2), .val (.int p3), .val (.ref b102), .val (.int off), .val (.int len), .val (.ref b107), .val (.int (f (off).toNatClampNeg)), .val (.int (f (off).toNatClampNeg)), .val (.int (f ((off + (1 : Int32))).toNatClampNeg)), .val (.int (f ((off + (1 : Int32))).toNatClampNeg)), .val (.int (f ((off + (2 : Int32))).toNatClampNeg)), .unset] [(.int (off + (2 : Int32))), (.ref b102)])
    have f171 := (V165.keep K169 (ninS (Nat.ne_of_lt o_b107) nin0))
    obtain ⟨cl170, Ar170, q170, S170, M170, H170, G170⟩ := f171
    have V170 : Arv Z h169 b102 k102 .byte (4 : Int32) _ _ := ⟨cl170, Ar170, q170, S170, M170, H170, G170⟩
    have hin170 : ¬ ((off + (2 : Int32)) < 0 ∨ cl170.slots.size ≤ ((off + (2 : Int32))).toNatClampNeg) := inb_of S170 ⟨own_nlt (by show (0 : Int32).toInt ≤ _; rw [own_e0]; omega), own_lt (by show _ < (4 : Int); omega)⟩
    have hat170 : cl170.slots[((off + (2 : Int32))).toNatClampNeg]? = some (.int (f ((off + (2 : Int32))).toNatClampNeg)) := H170.at hin170 (hf _)
    refine own_go (X169.baloadBytes hx (j := (off + (2 : Int32))) (v := (.int (f ((off + (2 : Int32))).toNatClampNeg))) (by rw [e169]; exact Ar170.1) (State.isArrayOf_alike hZ.alike Ar170.2.1) Ar170.2.2 hin170 hat170 (g := (mkF m 223 #[.val (.int p1), .val (.int p2), .val (.int p3), .val (.ref b102), .val (.int off), .val (.int len), .val (.ref b107), .val (.int (f (off).toNatClampNeg)), .val (.int (f (off).toNatClampNeg)), .val (.int (f ((off + (1 : Int32))).toNatClampNeg)), .val (.int (f ((off + (1 : Int32))).toNatClampNeg)), .val (.int (f ((off + (2 : Int32))).toNatClampNeg)), .unset] [(.int (off + (2 : Int32))), (.ref b102)])) rfl rfl (hb hby at_223)) ?_
    show own_Go _ _ _ _ T169 (mkF m 224 #[.val (.int p1), .val (.int p2), .val (.int p3), .val (.ref b102), .val (.int off), .val (.int len), .val (.ref b107), .val (.int (f (off).toNatClampNeg)), .val (.int (f (off).toNatClampNeg)), .val (.int (f ((off + (1 : Int32))).toNatClampNeg)), .val (.int (f ((off + (1 : Int32))).toNatClampNeg)), .val (.int (f ((off + (2 : Int32))).toNatClampNeg)), .unset] [(.int (f ((off + (2 : Int32))).toNatClampNeg))])
    refine own_go (fun _ k => XS.goto X169.here hx rfl (pc0 := 224) (pc' := 228) rfl (hb hby at_224) (by decide) (by decide) k) ?_
    show own_Go _ _ _ _ T169 (mkF m 228 #[.val (.int p1), .val (.int p2), .val (.int p3), .val (.ref b102), .val (.int off), .val (.int len), .val (.ref b107), .val (.int (f (off).toNatClampNeg)), .val (.int (f (off).toNatClampNeg)), .val (.int (f ((off + (1 : Int32))).toNatClampNeg)), .val (.int (f ((off + (1 : Int32))).toNatClampNeg)), .val (.int (f ((off + (2 : Int32))).toNatClampNeg)), .unset] [(.int (f ((off + (2 : Int32))).toNatClampNeg))])
    refine own_go (fun _ k => XS.istore X169.here hx rfl (hb hby at_228) rfl (l' := #[.val (.int p1), .val (.int p2), .val (.int p3), .val (.ref b102), .val (.int off), .val (.int len), .val (.ref b107), .val (.int (f (off).toNatClampNeg)), .val (.int (f (off).toNatClampNeg)), .val (.int (f ((off + (1 : Int32))).toNatClampNeg)), .val (.int (f ((off + (1 : Int32))).toNatClampNeg)), .val (.int (f ((off + (2 : Int32))).toNatClampNeg)), .val (.int (f ((off + (2 : Int32))).toNatClampNeg))]) rfl k) ?_
    show own_Go _ _ _ _ T169 (mkF m 230 #[.val (.int p1), .val (.int p2), .val (.int p3), .val (.ref b102), .val (.int off), .val (.int len), .val (.ref b107), .val (.int (f (off).toNatClampNeg)), .val (.int (f (off).toNatClampNeg)), .val (.int (f ((off + (1 : Int32))).toNatClampNeg)), .val (.int (f ((off + (1 : Int32))).toNatClampNeg)), .val (.int (f ((off + (2 : Int32))).toNatClampNeg)), .val (.int (f ((off + (2 : Int32))).toNatClampNeg))] [])
    refine own_go (fun _ k => XS.iload X169.here hx rfl (hb hby at_230) rfl k) ?_
    show own_Go _ _ _ _ T169 (mkF m 232 #[.val (.int p1), .val (.int p2), .val (.int p3), .val (.ref b102), .val (.int off), .val (.int len), .val (.ref b107), .val (.int (f (off).toNatClampNeg)), .val (.int (f (off).toNatClampNeg)), .val (.int (f ((off + (1 : Int32))).toNatClampNeg)), .val (.int (f ((off + (1 : Int32))).toNatClampNeg)), .val (.int (f ((off + (2 : Int32))).toNatClampNeg)), .val (.int (f ((off + (2 : Int32))).toNatClampNeg))] [(.int (f ((off + (2 : Int32))).toNatClampNeg))])
    refine own_go (fun _ k => XS.iload X169.here hx rfl (hb hby at_232) rfl k) ?_
    show own_Go _ _ _ _ T169 (mkF m 234 #[.val (.int p1), .val (.int p2), .val (.int p3), .val (.ref b102), .val (.int off), .val (.int len), .val (.ref b107), .val (.int (f (off).toNatClampNeg)), .val (.int (f (off).toNatClampNeg)), .val (.int (f ((off + (1 : Int32))).toNatClampNeg)), .val (.int (f ((off + (1 : Int32))).toNatClampNeg)), .val (.int (f ((off + (2 : Int32))).toNatClampNeg)), .val (.int (f ((off + (2 : Int32))).toNatClampNeg))] [(.int (f ((off + (2 : Int32))).toNatClampNeg)), (.int (f ((off + (2 : Int32))).toNatClampNeg))])
    refine own_go (fun _ k => XS.icmpYes X169.here hx rfl (pc0 := 234) (pc' := 239) rfl (hb hby at_234) rfl (teq rfl).1 (by decide) (by decide) k) ?_
    show own_Go _ _ _ _ T169 (mkF m 239 #[.val (.int p1), .val (.int p2), .val (.int p3), .val (.ref b102), .val (.int off), .val (.int len), .val (.ref b107), .val (.int (f (off).toNatClampNeg)), .val (.int (f (off).toNatClampNeg)), .val (.int (f ((off + (1 : Int32))).toNatClampNeg)), .val (.int (f ((off + (1 : Int32))).toNatClampNeg)), .val (.int (f ((off + (2 : Int32))).toNatClampNeg)), .val (.int (f ((off + (2 : Int32))).toNatClampNeg))] [])
    refine own_go (fun _ k => XS.aload X169.here hx rfl (hb hby at_239) rfl rfl k) ?_
    show own_Go _ _ _ _ T169 (mkF m 241 #[.val (.int p1), .val (.int p2), .val (.int p3), .val (.ref b102), .val (.int off), .val (.int len), .val (.ref b107), .val (.int (f (off).toNatClampNeg)), .val (.int (f (off).toNatClampNeg)), .val (.int (f ((off + (1 : Int32))).toNatClampNeg)), .val (.int (f ((off + (1 : Int32))).toNatClampNeg)), .val (.int (f ((off + (2 : Int32))).toNatClampNeg)), .val (.int (f ((off + (2 : Int32))).toNatClampNeg))] [(.ref b107)])
    have f172 := (Nat.le_trans f167 K169.1)
    obtain ⟨v173, T173, h173, L173, X173, e173, hQ173, st173⟩ := own_callV X169 hx hZ hown (hw _ (List.mem_of_getElem? (i := 17) rfl)) (hw _ (List.mem_of_getElem? (i := 18) rfl)) (hw _ (List.mem_of_getElem? (i := 20) rfl)) (notFace_of_selects (args := #[]) (mvT hZ (hw _ (List.mem_of_getElem? (i := 20) rfl)))) (hw _ (List.mem_of_getElem? (i := 19) rfl)) (hw _ (List.mem_of_getElem? (i := 4) rfl)) (hw _ (List.mem_of_getElem? (i := 21) rfl)) (by decide) e169 E169x (argsL := []) (rest := []) (rm2 l Z a0 hw [] b107 (off + (3 : Int32)) en h169 n0 f172 F169p F169e) 0 (by decide) (by decide) (by decide) (by decide) (g := (mkF m 241 #[.val (.int p1), .val (.int p2), .val (.int p3), .val (.ref b102), .val (.int off), .val (.int len), .val (.ref b107), .val (.int (f (off).toNatClampNeg)), .val (.int (f (off).toNatClampNeg)), .val (.int (f ((off + (1 : Int32))).toNatClampNeg)), .val (.int (f ((off + (1 : Int32))).toNatClampNeg)), .val (.int (f ((off + (2 : Int32))).toNatClampNeg)), .val (.int (f ((off + (2 : Int32))).toNatClampNeg))] [(.ref b107)])) rfl (by rw [hml]; rfl) (lenOf pd1 rfl) rfl (Nat.le_of_eq rfl) (hb hby at_241)
    obtain ⟨rfl, N173q, rfl⟩ := hQ173
    refine own_go (st173) ?_
    have N173 := Fr.app N169 N173q
    show own_Go _ _ _ _ T173 (mkF m 244 #[.val (.int p1), .val (.int p2), .val (.int p3), .val (.ref b102), .val (.int off), .val (.int len), .val (.ref b107), .val (.int (f (off).toNatClampNeg)), .val (.int (f (off).toNatClampNeg)), .val (.int (f ((off + (1 : Int32))).toNatClampNeg)), .val (.int (f ((off + (1 : Int32))).toNatClampNeg)), .val (.int (f ((off + (2 : Int32))).toNatClampNeg)), .val (.int (f ((off + (2 : Int32))).toNatClampNeg))] [(.int (own_hr (off + (3 : Int32)) en))])
    refine own_go (fun _ k => XS.iload X173.here hx rfl (hb hby at_244) rfl k) ?_
    show own_Go _ _ _ _ T173 (mkF m 246 #[.val (.int p1), .val (.int p2), .val (.int p3), .val (.ref b102), .val (.int off), .val (.int len), .val (.ref b107), .val (.int (f (off).toNatClampNeg)), .val (.int (f (off).toNatClampNeg)), .val (.int (f ((off + (1 : Int32))).toNatClampNeg)), .val (.int (f ((off + (1 : Int32))).toNatClampNeg)), .val (.int (f ((off + (2 : Int32))).toNatClampNeg)), .val (.int (f ((off + (2 : Int32))).toNatClampNeg))] [(.int len), (.int (own_hr (off + (3 : Int32)) en))])
    refine own_go (fun _ k => XS.iconst X173.here hx rfl (hb hby at_246) k) ?_
    show own_Go _ _ _ _ T173 (mkF m 247 #[.val (.int p1), .val (.int p2), .val (.int p3), .val (.ref b102), .val (.int off), .val (.int len), .val (.ref b107), .val (.int (f (off).toNatClampNeg)), .val (.int (f (off).toNatClampNeg)), .val (.int (f ((off + (1 : Int32))).toNatClampNeg)), .val (.int (f ((off + (1 : Int32))).toNatClampNeg)), .val (.int (f ((off + (2 : Int32))).toNatClampNeg)), .val (.int (f ((off + (2 : Int32))).toNatClampNeg))] [(.int (3 : Int32)), (.int len), (.int (own_hr (off + (3 : Int32)) en))])
    refine own_go (fun _ k => XS.icmpYes X173.here hx rfl (pc0 := 247) (pc' := 254) rfl (hb hby at_247) rfl (flt (own_nlt (by show _ ≤ (3 : Int); omega))).2.2.2 (by decide) (by decide) k) ?_
    show own_Go _ _ _ _ T173 (mkF m 254 #[.val (.int p1), .val (.int p2), .val (.int p3), .val (.ref b102), .val (.int off), .val (.int len), .val (.ref b107), .val (.int (f (off).toNatClampNeg)), .val (.int (f (off).toNatClampNeg)), .val (.int (f ((off + (1 : Int32))).toNatClampNeg)), .val (.int (f ((off + (1 : Int32))).toNatClampNeg)), .val (.int (f ((off + (2 : Int32))).toNatClampNeg)), .val (.int (f ((off + (2 : Int32))).toNatClampNeg))] [(.int (own_hr (off + (3 : Int32)) en))])
    refine own_go (fun _ k => XS.iconst X173.here hx rfl (hb hby at_254) k) ?_
    show own_Go _ _ _ _ T173 (mkF m 255 #[.val (.int p1), .val (.int p2), .val (.int p3), .val (.ref b102), .val (.int off), .val (.int len), .val (.ref b107), .val (.int (f (off).toNatClampNeg)), .val (.int (f (off).toNatClampNeg)), .val (.int (f ((off + (1 : Int32))).toNatClampNeg)), .val (.int (f ((off + (1 : Int32))).toNatClampNeg)), .val (.int (f ((off + (2 : Int32))).toNatClampNeg)), .val (.int (f ((off + (2 : Int32))).toNatClampNeg))] [(.int (0 : Int32)), (.int (own_hr (off + (3 : Int32)) en))])
    refine own_go (fun _ k => XS.icmpNo X173.here hx rfl (hb hby at_255) rfl (teq (by rw [own_hr, if_neg (own_nlt (by omega))])).2 k) ?_
    show own_Go _ _ _ _ T173 (mkF m 258 #[.val (.int p1), .val (.int p2), .val (.int p3), .val (.ref b102), .val (.int off), .val (.int len), .val (.ref b107), .val (.int (f (off).toNatClampNeg)), .val (.int (f (off).toNatClampNeg)), .val (.int (f ((off + (1 : Int32))).toNatClampNeg)), .val (.int (f ((off + (1 : Int32))).toNatClampNeg)), .val (.int (f ((off + (2 : Int32))).toNatClampNeg)), .val (.int (f ((off + (2 : Int32))).toNatClampNeg))] [])
    refine own_go (fun _ k => XS.iconst X173.here hx rfl (hb hby at_258) k) ?_
    show own_Go _ _ _ _ T173 (mkF m 259 #[.val (.int p1), .val (.int p2), .val (.int p3), .val (.ref b102), .val (.int off), .val (.int len), .val (.ref b107), .val (.int (f (off).toNatClampNeg)), .val (.int (f (off).toNatClampNeg)), .val (.int (f ((off + (1 : Int32))).toNatClampNeg)), .val (.int (f ((off + (1 : Int32))).toNatClampNeg)), .val (.int (f ((off + (2 : Int32))).toNatClampNeg)), .val (.int (f ((off + (2 : Int32))).toNatClampNeg))] [(.int (1 : Int32))])
    refine own_go (fun _ k => XS.goto X173.here hx rfl (pc0 := 259) (pc' := 263) rfl (hb hby at_259) (by decide) (by decide) k) ?_
    show own_Go _ _ _ _ T173 (mkF m 263 #[.val (.int p1), .val (.int p2), .val (.int p3), .val (.ref b102), .val (.int off), .val (.int len), .val (.ref b107), .val (.int (f (off).toNatClampNeg)), .val (.int (f (off).toNatClampNeg)), .val (.int (f ((off + (1 : Int32))).toNatClampNeg)), .val (.int (f ((off + (1 : Int32))).toNatClampNeg)), .val (.int (f ((off + (2 : Int32))).toNatClampNeg)), .val (.int (f ((off + (2 : Int32))).toNatClampNeg))] [(.int (1 : Int32))])
    exact own_retN X173 hx hret (by simp) hlk (hb hby at_263) (by decide) (by decide) (by first | exact ⟨rfl, N173⟩ | (rw [e173]; exact ⟨rfl, N173⟩))
  · skip
    show own_Go _ _ _ _ T110 (mkF m 76 #[.val (.int p1), .val (.int p2), .val (.int p3), .val (.ref b102), .val (.int off), .val (.int len), .unset, .unset, .unset, .unset, .unset, .unset, .unset] [(.ref b107)])
    refine own_go (fun _ k => XS.astore X110.here hx rfl (hb hby at_76) rfl rfl (l' := #[.val (.int p1), .val (.int p2), .val (.int p3), .val (.ref b102), .val (.int off), .val (.int len), .val (.ref b107), .unset, .unset, .unset, .unset, .unset, .unset]) rfl k) ?_
    show own_Go _ _ _ _ T110 (mkF m 78 #[.val (.int p1), .val (.int p2), .val (.int p3), .val (.ref b102), .val (.int off), .val (.int len), .val (.ref b107), .unset, .unset, .unset, .unset, .unset, .unset] [])
    refine own_go (fun _ k => XS.aload X110.here hx rfl (hb hby at_78) rfl rfl k) ?_
    show own_Go _ _ _ _ T110 (mkF m 80 #[.val (.int p1), .val (.int p2), .val (.int p3), .val (.ref b102), .val (.int off), .val (.int len), .val (.ref b107), .unset, .unset, .unset, .unset, .unset, .unset] [(.ref b107)])
    have f174 := (Nat.le_trans f109 K110.1)
    obtain ⟨v175, T175, h175, L175, X175, e175, hQ175, st175⟩ := own_callV X110 hx hZ hown (hw _ (List.mem_of_getElem? (i := 17) rfl)) (hw _ (List.mem_of_getElem? (i := 18) rfl)) (hw _ (List.mem_of_getElem? (i := 20) rfl)) (notFace_of_selects (args := #[]) (mvT hZ (hw _ (List.mem_of_getElem? (i := 20) rfl)))) (hw _ (List.mem_of_getElem? (i := 19) rfl)) (hw _ (List.mem_of_getElem? (i := 4) rfl)) (hw _ (List.mem_of_getElem? (i := 21) rfl)) (by decide) e110 E110x (argsL := []) (rest := []) (rm2 l Z a0 hw [] b107 off en h110 n0 f174 F110p F110e) 0 (by decide) (by decide) (by decide) (by decide) (g := (mkF m 80 #[.val (.int p1), .val (.int p2), .val (.int p3), .val (.ref b102), .val (.int off), .val (.int len), .val (.ref b107), .unset, .unset, .unset, .unset, .unset, .unset] [(.ref b107)])) rfl (by rw [hml]; rfl) (lenOf pd1 rfl) rfl (Nat.le_of_eq rfl) (hb hby at_80)
    obtain ⟨rfl, N175q, rfl⟩ := hQ175
    refine own_go (st175) ?_
    have N175 := Fr.app N110 N175q
    show own_Go _ _ _ _ T175 (mkF m 83 #[.val (.int p1), .val (.int p2), .val (.int p3), .val (.ref b102), .val (.int off), .val (.int len), .val (.ref b107), .unset, .unset, .unset, .unset, .unset, .unset] [(.int (own_hr off en))])
    refine own_go (fun _ k => XS.iload X175.here hx rfl (hb hby at_83) rfl k) ?_
    show own_Go _ _ _ _ T175 (mkF m 85 #[.val (.int p1), .val (.int p2), .val (.int p3), .val (.ref b102), .val (.int off), .val (.int len), .val (.ref b107), .unset, .unset, .unset, .unset, .unset, .unset] [(.int len), (.int (own_hr off en))])
    refine own_go (fun _ k => XS.ifNo X175.here hx rfl (hb hby at_85) rfl ((if0 _ _).trans (tlt (own_lt (by show (0 : Int) < _; omega))).2.2.2) k) ?_
    show own_Go _ _ _ _ T175 (mkF m 88 #[.val (.int p1), .val (.int p2), .val (.int p3), .val (.ref b102), .val (.int off), .val (.int len), .val (.ref b107), .unset, .unset, .unset, .unset, .unset, .unset] [(.int (own_hr off en))])
    refine own_go (fun _ k => XS.iconst X175.here hx rfl (hb hby at_88) k) ?_
    show own_Go _ _ _ _ T175 (mkF m 89 #[.val (.int p1), .val (.int p2), .val (.int p3), .val (.ref b102), .val (.int off), .val (.int len), .val (.ref b107), .unset, .unset, .unset, .unset, .unset, .unset] [(.int (1 : Int32)), (.int (own_hr off en))])
    refine own_go (fun _ k => XS.goto X175.here hx rfl (pc0 := 89) (pc' := 93) rfl (hb hby at_89) (by decide) (by decide) k) ?_
    show own_Go _ _ _ _ T175 (mkF m 93 #[.val (.int p1), .val (.int p2), .val (.int p3), .val (.ref b102), .val (.int off), .val (.int len), .val (.ref b107), .unset, .unset, .unset, .unset, .unset, .unset] [(.int (1 : Int32)), (.int (own_hr off en))])
    refine own_go (fun _ k => XS.icmpYes X175.here hx rfl (pc0 := 93) (pc' := 98) rfl (hb hby at_93) rfl (teq (by rw [own_hr, if_pos (own_lt (by omega))])).1 (by decide) (by decide) k) ?_
    show own_Go _ _ _ _ T175 (mkF m 98 #[.val (.int p1), .val (.int p2), .val (.int p3), .val (.ref b102), .val (.int off), .val (.int len), .val (.ref b107), .unset, .unset, .unset, .unset, .unset, .unset] [])
    refine own_go (fun _ k => XS.aload X175.here hx rfl (hb hby at_98) rfl rfl k) ?_
    show own_Go _ _ _ _ T175 (mkF m 100 #[.val (.int p1), .val (.int p2), .val (.int p3), .val (.ref b102), .val (.int off), .val (.int len), .val (.ref b107), .unset, .unset, .unset, .unset, .unset, .unset] [(.ref b107)])
    have f176 := ((V106.ext E107).keep K110 (ninS (Nat.ne_of_lt o_b107) nin0))
    have sp0 : own_spec f off en = (f (off).toNatClampNeg, (1 : Int32)) := own_one hf7 (own_lt (by omega))
    obtain ⟨v177, T177, h177, L177, X177, e177, hQ177, st177⟩ := own_callV X175 hx hZ hown (hw _ (List.mem_of_getElem? (i := 22) rfl)) (hw _ (List.mem_of_getElem? (i := 23) rfl)) (hw _ (List.mem_of_getElem? (i := 25) rfl)) (notFace_of_selects (args := #[]) (mvT hZ (hw _ (List.mem_of_getElem? (i := 25) rfl)))) (hw _ (List.mem_of_getElem? (i := 24) rfl)) (hw _ (List.mem_of_getElem? (i := 4) rfl)) (hw _ (List.mem_of_getElem? (i := 26) rfl)) (by decide) e175 E110x (argsL := []) (rest := []) (rm3 l Z a0 hw [] b107 b102 off en k102 (4 : Int32) _ _ f h110 n0 f174 E110x F110b F110p F110e g_b107 (Nat.ne_of_lt o_b107) f176 hf (own_bnd (by omega) (by omega) (by omega))) 0 (by decide) (by decide) (by decide) (by decide) (g := (mkF m 100 #[.val (.int p1), .val (.int p2), .val (.int p3), .val (.ref b102), .val (.int off), .val (.int len), .val (.ref b107), .unset, .unset, .unset, .unset, .unset, .unset] [(.ref b107)])) rfl (by rw [hml]; rfl) (lenOf pd2 rfl) rfl (Nat.le_of_eq rfl) (hb hby at_100)
    obtain ⟨rfl, N177q, K177, E177x, F177b, F177p, F177e⟩ := hQ177
    refine own_go (st177) ?_
    have N177 := Fr.app N175 N177q
    show own_Go _ _ _ _ T177 (mkF m 103 #[.val (.int p1), .val (.int p2), .val (.int p3), .val (.ref b102), .val (.int off), .val (.int len), .val (.ref b107), .unset, .unset, .unset, .unset, .unset, .unset] [(.int (own_spec f off en).1)])
    rw [show (own_spec f off en).1 = (f (off).toNatClampNeg) from by rw [sp0]]
    rw [sp0, show off + ((f (off).toNatClampNeg, (1 : Int32)) : Int32 × Int32).2 = (off + (1 : Int32)) from rfl] at F177p
    show own_Go _ _ _ _ T177 (mkF m 103 #[.val (.int p1), .val (.int p2), .val (.int p3), .val (.ref b102), .val (.int off), .val (.int len), .val (.ref b107), .unset, .unset, .unset, .unset, .unset, .unset] [(.int (f (off).toNatClampNeg))])
    refine own_go (fun _ k => XS.istore X177.here hx rfl (hb hby at_103) rfl (l' := #[.val (.int p1), .val (.int p2), .val (.int p3), .val (.ref b102), .val (.int off), .val (.int len), .val (.ref b107), .val (.int (f (off).toNatClampNeg)), .unset, .unset, .unset, .unset, .unset]) rfl k) ?_
    show own_Go _ _ _ _ T177 (mkF m 105 #[.val (.int p1), .val (.int p2), .val (.int p3), .val (.ref b102), .val (.int off), .val (.int len), .val (.ref b107), .val (.int (f (off).toNatClampNeg)), .unset, .unset, .unset, .unset, .unset] [])
    refine own_go (fun _ k => XS.iload X177.here hx rfl (hb hby at_105) rfl k) ?_
    show own_Go _ _ _ _ T177 (mkF m 107 #[.val (.int p1), .val (.int p2), .val (.int p3), .val (.ref b102), .val (.int off), .val (.int len), .val (.ref b107), .val (.int (f (off).toNatClampNeg)), .unset, .unset, .unset, .unset, .unset] [(.int len)])
    refine own_go (fun _ k => XS.ifNo X177.here hx rfl (hb hby at_107) rfl ((if0 _ _).trans (tlt (own_lt (by show (0 : Int) < _; omega))).2.2.2) k) ?_
    show own_Go _ _ _ _ T177 (mkF m 110 #[.val (.int p1), .val (.int p2), .val (.int p3), .val (.ref b102), .val (.int off), .val (.int len), .val (.ref b107), .val (.int (f (off).toNatClampNeg)), .unset, .unset, .unset, .unset, .unset] [])
    refine own_go (fun _ k => XS.aloadN X177.here hx rfl (hb hby at_110) rfl rfl k) ?_
    show own_Go _ _ _ _ T177 (mkF m 111 #[.val (.int p1), .val (.int p2), .val (.int p3), .val (.ref b102), .val (.int off), .val (.int len), .val (.ref b107), .val (.int (f (off).toNatClampNeg)), .unset, .unset, .unset, .unset, .unset] [(.ref b102)])
    refine own_go (fun _ k => XS.iload X177.here hx rfl (hb hby at_111) rfl k) ?_
    show own_Go _ _ _ _ T177 (mkF m 113 #[.val (.int p1), .val (.int p2), .val (.int p3), .val (.ref b102), .val (.int off), .val (.int len), .val (.ref b107), .val (.int (f (off).toNatClampNeg)), .unset, .unset, .unset, .unset, .unset] [(.int off), (.ref b102)])
    have f179 := (f176.keep K177 (ninS (Nat.ne_of_lt o_b107) nin0))
    obtain ⟨cl178, Ar178, q178, S178, M178, H178, G178⟩ := f179
    have V178 : Arv Z h177 b102 k102 .byte (4 : Int32) _ _ := ⟨cl178, Ar178, q178, S178, M178, H178, G178⟩
    have hin178 : ¬ (off < 0 ∨ cl178.slots.size ≤ (off).toNatClampNeg) := inb_of S178 ⟨own_nlt (by show (0 : Int32).toInt ≤ _; rw [own_e0]; omega), own_lt (by show _ < (4 : Int); omega)⟩
    have hat178 : cl178.slots[(off).toNatClampNeg]? = some (.int (f (off).toNatClampNeg)) := H178.at hin178 (hf _)
    refine own_go (X177.baloadBytes hx (j := off) (v := (.int (f (off).toNatClampNeg))) (by rw [e177]; exact Ar178.1) (State.isArrayOf_alike hZ.alike Ar178.2.1) Ar178.2.2 hin178 hat178 (g := (mkF m 113 #[.val (.int p1), .val (.int p2), .val (.int p3), .val (.ref b102), .val (.int off), .val (.int len), .val (.ref b107), .val (.int (f (off).toNatClampNeg)), .unset, .unset, .unset, .unset, .unset] [(.int off), (.ref b102)])) rfl rfl (hb hby at_113)) ?_
    show own_Go _ _ _ _ T177 (mkF m 114 #[.val (.int p1), .val (.int p2), .val (.int p3), .val (.ref b102), .val (.int off), .val (.int len), .val (.ref b107), .val (.int (f (off).toNatClampNeg)), .unset, .unset, .unset, .unset, .unset] [(.int (f (off).toNatClampNeg))])
    refine own_go (fun _ k => XS.goto X177.here hx rfl (pc0 := 114) (pc' := 118) rfl (hb hby at_114) (by decide) (by decide) k) ?_
    show own_Go _ _ _ _ T177 (mkF m 118 #[.val (.int p1), .val (.int p2), .val (.int p3), .val (.ref b102), .val (.int off), .val (.int len), .val (.ref b107), .val (.int (f (off).toNatClampNeg)), .unset, .unset, .unset, .unset, .unset] [(.int (f (off).toNatClampNeg))])
    refine own_go (fun _ k => XS.istore X177.here hx rfl (hb hby at_118) rfl (l' := #[.val (.int p1), .val (.int p2), .val (.int p3), .val (.ref b102), .val (.int off), .val (.int len), .val (.ref b107), .val (.int (f (off).toNatClampNeg)), .val (.int (f (off).toNatClampNeg)), .unset, .unset, .unset, .unset]) rfl k) ?_
    show own_Go _ _ _ _ T177 (mkF m 120 #[.val (.int p1), .val (.int p2), .val (.int p3), .val (.ref b102), .val (.int off), .val (.int len), .val (.ref b107), .val (.int (f (off).toNatClampNeg)), .val (.int (f (off).toNatClampNeg)), .unset, .unset, .unset, .unset] [])
    refine own_go (fun _ k => XS.iload X177.here hx rfl (hb hby at_120) rfl k) ?_
    show own_Go _ _ _ _ T177 (mkF m 122 #[.val (.int p1), .val (.int p2), .val (.int p3), .val (.ref b102), .val (.int off), .val (.int len), .val (.ref b107), .val (.int (f (off).toNatClampNeg)), .val (.int (f (off).toNatClampNeg)), .unset, .unset, .unset, .unset] [(.int (f (off).toNatClampNeg))])
    refine own_go (fun _ k => XS.iload X177.here hx rfl (hb hby at_122) rfl k) ?_
    show own_Go _ _ _ _ T177 (mkF m 124 #[.val (.int p1), .val (.int p2), .val (.int p3), .val (.ref b102), .val (.int off), .val (.int len), .val (.ref b107), .val (.int (f (off).toNatClampNeg)), .val (.int (f (off).toNatClampNeg)), .unset, .unset, .unset, .unset] [(.int (f (off).toNatClampNeg)), (.int (f (off).toNatClampNeg))])
    refine own_go (fun _ k => XS.icmpYes X177.here hx rfl (pc0 := 124) (pc' := 129) rfl (hb hby at_124) rfl (teq rfl).1 (by decide) (by decide) k) ?_
    show own_Go _ _ _ _ T177 (mkF m 129 #[.val (.int p1), .val (.int p2), .val (.int p3), .val (.ref b102), .val (.int off), .val (.int len), .val (.ref b107), .val (.int (f (off).toNatClampNeg)), .val (.int (f (off).toNatClampNeg)), .unset, .unset, .unset, .unset] [])
    refine own_go (fun _ k => XS.aload X177.here hx rfl (hb hby at_129) rfl rfl k) ?_
    show own_Go _ _ _ _ T177 (mkF m 131 #[.val (.int p1), .val (.int p2), .val (.int p3), .val (.ref b102), .val (.int off), .val (.int len), .val (.ref b107), .val (.int (f (off).toNatClampNeg)), .val (.int (f (off).toNatClampNeg)), .unset, .unset, .unset, .unset] [(.ref b107)])
    have f180 := (Nat.le_trans f174 K177.1)
    obtain ⟨v181, T181, h181, L181, X181, e181, hQ181, st181⟩ := own_callV X177 hx hZ hown (hw _ (List.mem_of_getElem? (i := 17) rfl)) (hw _ (List.mem_of_getElem? (i := 18) rfl)) (hw _ (List.mem_of_getElem? (i := 20) rfl)) (notFace_of_selects (args := #[]) (mvT hZ (hw _ (List.mem_of_getElem? (i := 20) rfl)))) (hw _ (List.mem_of_getElem? (i := 19) rfl)) (hw _ (List.mem_of_getElem? (i := 4) rfl)) (hw _ (List.mem_of_getElem? (i := 21) rfl)) (by decide) e177 E177x (argsL := []) (rest := []) (rm2 l Z a0 hw [] b107 (off + (1 : Int32)) en h177 n0 f180 F177p F177e) 0 (by decide) (by decide) (by decide) (by decide) (g := (mkF m 131 #[.val (.int p1), .val (.int p2), .val (.int p3), .val (.ref b102), .val (.int off), .val (.int len), .val (.ref b107), .val (.int (f (off).toNatClampNeg)), .val (.int (f (off).toNatClampNeg)), .unset, .unset, .unset, .unset] [(.ref b107)])) rfl (by rw [hml]; rfl) (lenOf pd1 rfl) rfl (Nat.le_of_eq rfl) (hb hby at_131)
    obtain ⟨rfl, N181q, rfl⟩ := hQ181
    refine own_go (st181) ?_
    have N181 := Fr.app N177 N181q
    show own_Go _ _ _ _ T181 (mkF m 134 #[.val (.int p1), .val (.int p2), .val (.int p3), .val (.ref b102), .val (.int off), .val (.int len), .val (.ref b107), .val (.int (f (off).toNatClampNeg)), .val (.int (f (off).toNatClampNeg)), .unset, .unset, .unset, .unset] [(.int (own_hr (off + (1 : Int32)) en))])
    refine own_go (fun _ k => XS.iload X181.here hx rfl (hb hby at_134) rfl k) ?_
    show own_Go _ _ _ _ T181 (mkF m 136 #[.val (.int p1), .val (.int p2), .val (.int p3), .val (.ref b102), .val (.int off), .val (.int len), .val (.ref b107), .val (.int (f (off).toNatClampNeg)), .val (.int (f (off).toNatClampNeg)), .unset, .unset, .unset, .unset] [(.int len), (.int (own_hr (off + (1 : Int32)) en))])
    refine own_go (fun _ k => XS.iconst X181.here hx rfl (hb hby at_136) k) ?_
    show own_Go _ _ _ _ T181 (mkF m 137 #[.val (.int p1), .val (.int p2), .val (.int p3), .val (.ref b102), .val (.int off), .val (.int len), .val (.ref b107), .val (.int (f (off).toNatClampNeg)), .val (.int (f (off).toNatClampNeg)), .unset, .unset, .unset, .unset] [(.int (1 : Int32)), (.int len), (.int (own_hr (off + (1 : Int32)) en))])
    refine own_go (fun _ k => XS.icmpNo X181.here hx rfl (hb hby at_137) rfl (tlt (own_lt (by show (1 : Int) < _; omega))).2.2.2 k) ?_
    show own_Go _ _ _ _ T181 (mkF m 140 #[.val (.int p1), .val (.int p2), .val (.int p3), .val (.ref b102), .val (.int off), .val (.int len), .val (.ref b107), .val (.int (f (off).toNatClampNeg)), .val (.int (f (off).toNatClampNeg)), .unset, .unset, .unset, .unset] [(.int (own_hr (off + (1 : Int32)) en))])
    refine own_go (fun _ k => XS.iconst X181.here hx rfl (hb hby at_140) k) ?_
    show own_Go _ _ _ _ T181 (mkF m 141 #[.val (.int p1), .val (.int p2), .val (.int p3), .val (.ref b102), .val (.int off), .val (.int len), .val (.ref b107), .val (.int (f (off).toNatClampNeg)), .val (.int (f (off).toNatClampNeg)), .unset, .unset, .unset, .unset] [(.int (1 : Int32)), (.int (own_hr (off + (1 : Int32)) en))])
    refine own_go (fun _ k => XS.goto X181.here hx rfl (pc0 := 141) (pc' := 145) rfl (hb hby at_141) (by decide) (by decide) k) ?_
    show own_Go _ _ _ _ T181 (mkF m 145 #[.val (.int p1), .val (.int p2), .val (.int p3), .val (.ref b102), .val (.int off), .val (.int len), .val (.ref b107), .val (.int (f (off).toNatClampNeg)), .val (.int (f (off).toNatClampNeg)), .unset, .unset, .unset, .unset] [(.int (1 : Int32)), (.int (own_hr (off + (1 : Int32)) en))])
    refine own_go (fun _ k => XS.icmpYes X181.here hx rfl (pc0 := 145) (pc' := 150) rfl (hb hby at_145) rfl (teq (by rw [own_hr, if_pos (own_lt (by omega))])).1 (by decide) (by decide) k) ?_
    show own_Go _ _ _ _ T181 (mkF m 150 #[.val (.int p1), .val (.int p2), .val (.int p3), .val (.ref b102), .val (.int off), .val (.int len), .val (.ref b107), .val (.int (f (off).toNatClampNeg)), .val (.int (f (off).toNatClampNeg)), .unset, .unset, .unset, .unset] [])
    refine own_go (fun _ k => XS.aload X181.here hx rfl (hb hby at_150) rfl rfl k) ?_
    show own_Go _ _ _ _ T181 (mkF m 152 #[.val (.int p1), .val (.int p2), .val (.int p3), .val (.ref b102), .val (.int off), .val (.int len), .val (.ref b107), .val (.int (f (off).toNatClampNeg)), .val (.int (f (off).toNatClampNeg)), .unset, .unset, .unset, .unset] [(.ref b107)])
    have sp1 : own_spec f (off + (1 : Int32)) en = (f ((off + (1 : Int32))).toNatClampNeg, (1 : Int32)) := own_one hf7 (own_lt (by omega))
    obtain ⟨v182, T182, h182, L182, X182, e182, hQ182, st182⟩ := own_callV X181 hx hZ hown (hw _ (List.mem_of_getElem? (i := 22) rfl)) (hw _ (List.mem_of_getElem? (i := 23) rfl)) (hw _ (List.mem_of_getElem? (i := 25) rfl)) (notFace_of_selects (args := #[]) (mvT hZ (hw _ (List.mem_of_getElem? (i := 25) rfl)))) (hw _ (List.mem_of_getElem? (i := 24) rfl)) (hw _ (List.mem_of_getElem? (i := 4) rfl)) (hw _ (List.mem_of_getElem? (i := 26) rfl)) (by decide) e181 E177x (argsL := []) (rest := []) (rm3 l Z a0 hw [] b107 b102 (off + (1 : Int32)) en k102 (4 : Int32) _ _ f h177 n0 f180 E177x F177b F177p F177e g_b107 (Nat.ne_of_lt o_b107) V178 hf (own_bnd (by omega) (by omega) (by omega))) 0 (by decide) (by decide) (by decide) (by decide) (g := (mkF m 152 #[.val (.int p1), .val (.int p2), .val (.int p3), .val (.ref b102), .val (.int off), .val (.int len), .val (.ref b107), .val (.int (f (off).toNatClampNeg)), .val (.int (f (off).toNatClampNeg)), .unset, .unset, .unset, .unset] [(.ref b107)])) rfl (by rw [hml]; rfl) (lenOf pd2 rfl) rfl (Nat.le_of_eq rfl) (hb hby at_152)
    obtain ⟨rfl, N182q, K182, E182x, F182b, F182p, F182e⟩ := hQ182
    refine own_go (st182) ?_
    have N182 := Fr.app N181 N182q
    show own_Go _ _ _ _ T182 (mkF m 155 #[.val (.int p1), .val (.int p2), .val (.int p3), .val (.ref b102), .val (.int off), .val (.int len), .val (.ref b107), .val (.int (f (off).toNatClampNeg)), .val (.int (f (off).toNatClampNeg)), .unset, .unset, .unset, .unset] [(.int (own_spec f (off + (1 : Int32)) en).1)])
    rw [show (own_spec f (off + (1 : Int32)) en).1 = (f ((off + (1 : Int32))).toNatClampNeg) from by rw [sp1]]
    rw [sp1, show (off + (1 : Int32)) + ((f ((off + (1 : Int32))).toNatClampNeg, (1 : Int32)) : Int32 × Int32).2 = (off + (2 : Int32)) from own_addone1 off] at F182p
    show own_Go _ _ _ _ T182 (mkF m 155 #[.val (.int p1), .val (.int p2), .val (.int p3), .val (.ref b102), .val (.int off), .val (.int len), .val (.ref b107), .val (.int (f (off).toNatClampNeg)), .val (.int (f (off).toNatClampNeg)), .unset, .unset, .unset, .unset] [(.int (f ((off + (1 : Int32))).toNatClampNeg))])
    refine own_go (fun _ k => XS.istore X182.here hx rfl (hb hby at_155) rfl (l' := #[.val (.int p1), .val (.int p2), .val (.int p3), .val (.ref b102), .val (.int off), .val (.int len), .val (.ref b107), .val (.int (f (off).toNatClampNeg)), .val (.int (f (off).toNatClampNeg)), .val (.int (f ((off + (1 : Int32))).toNatClampNeg)), .unset, .unset, .unset]) rfl k) ?_
    show own_Go _ _ _ _ T182 (mkF m 157 #[.val (.int p1), .val (.int p2), .val (.int p3), .val (.ref b102), .val (.int off), .val (.int len), .val (.ref b107), .val (.int (f (off).toNatClampNeg)), .val (.int (f (off).toNatClampNeg)), .val (.int (f ((off + (1 : Int32))).toNatClampNeg)), .unset, .unset, .unset] [])
    refine own_go (fun _ k => XS.iload X182.here hx rfl (hb hby at_157) rfl k) ?_
    show own_Go _ _ _ _ T182 (mkF m 159 #[.val (.int p1), .val (.int p2), .val (.int p3), .val (.ref b102), .val (.int off), .val (.int len), .val (.ref b107), .val (.int (f (off).toNatClampNeg)), .val (.int (f (off).toNatClampNeg)), .val (.int (f ((off + (1 : Int32))).toNatClampNeg)), .unset, .unset, .unset] [(.int len)])
    refine own_go (fun _ k => XS.iconst X182.here hx rfl (hb hby at_159) k) ?_
    show own_Go _ _ _ _ T182 (mkF m 160 #[.val (.int p1), .val (.int p2), .val (.int p3), .val (.ref b102), .val (.int off), .val (.int len), .val (.ref b107), .val (.int (f (off).toNatClampNeg)), .val (.int (f (off).toNatClampNeg)), .val (.int (f ((off + (1 : Int32))).toNatClampNeg)), .unset, .unset, .unset] [(.int (1 : Int32)), (.int len)])
    refine own_go (fun _ k => XS.icmpNo X182.here hx rfl (hb hby at_160) rfl (tlt (own_lt (by show (1 : Int) < _; omega))).2.2.2 k) ?_
    show own_Go _ _ _ _ T182 (mkF m 163 #[.val (.int p1), .val (.int p2), .val (.int p3), .val (.ref b102), .val (.int off), .val (.int len), .val (.ref b107), .val (.int (f (off).toNatClampNeg)), .val (.int (f (off).toNatClampNeg)), .val (.int (f ((off + (1 : Int32))).toNatClampNeg)), .unset, .unset, .unset] [])
    refine own_go (fun _ k => XS.aloadN X182.here hx rfl (hb hby at_163) rfl rfl k) ?_
    show own_Go _ _ _ _ T182 (mkF m 164 #[.val (.int p1), .val (.int p2), .val (.int p3), .val (.ref b102), .val (.int off), .val (.int len), .val (.ref b107), .val (.int (f (off).toNatClampNeg)), .val (.int (f (off).toNatClampNeg)), .val (.int (f ((off + (1 : Int32))).toNatClampNeg)), .unset, .unset, .unset] [(.ref b102)])
    refine own_go (fun _ k => XS.iload X182.here hx rfl (hb hby at_164) rfl k) ?_
    show own_Go _ _ _ _ T182 (mkF m 166 #[.val (.int p1), .val (.int p2), .val (.int p3), .val (.ref b102), .val (.int off), .val (.int len), .val (.ref b107), .val (.int (f (off).toNatClampNeg)), .val (.int (f (off).toNatClampNeg)), .val (.int (f ((off + (1 : Int32))).toNatClampNeg)), .unset, .unset, .unset] [(.int off), (.ref b102)])
    refine own_go (fun _ k => XS.iconst X182.here hx rfl (hb hby at_166) k) ?_
    show own_Go _ _ _ _ T182 (mkF m 167 #[.val (.int p1), .val (.int p2), .val (.int p3), .val (.ref b102), .val (.int off), .val (.int len), .val (.ref b107), .val (.int (f (off).toNatClampNeg)), .val (.int (f (off).toNatClampNeg)), .val (.int (f ((off + (1 : Int32))).toNatClampNeg)), .unset, .unset, .unset] [(.int (1 : Int32)), (.int off), (.ref b102)])
    refine own_go (fun _ k => XS.iadd X182.here hx rfl (hb hby at_167) rfl k) ?_
    show own_Go _ _ _ _ T182 (mkF m 168 #[.val (.int p1), .val (.int p2), .val (.int p3), .val (.ref b102), .val (.int off), .val (.int len), .val (.ref b107), .val (.int (f (off).toNatClampNeg)), .val (.int (f (off).toNatClampNeg)), .val (.int (f ((off + (1 : Int32))).toNatClampNeg)), .unset, .unset, .unset] [(.int (off + (1 : Int32))), (.ref b102)])
    have f184 := (V178.keep K182 (ninS (Nat.ne_of_lt o_b107) nin0))
    obtain ⟨cl183, Ar183, q183, S183, M183, H183, G183⟩ := f184
    have V183 : Arv Z h182 b102 k102 .byte (4 : Int32) _ _ := ⟨cl183, Ar183, q183, S183, M183, H183, G183⟩
    have hin183 : ¬ ((off + (1 : Int32)) < 0 ∨ cl183.slots.size ≤ ((off + (1 : Int32))).toNatClampNeg) := inb_of S183 ⟨own_nlt (by show (0 : Int32).toInt ≤ _; rw [own_e0]; omega), own_lt (by show _ < (4 : Int); omega)⟩
    have hat183 : cl183.slots[((off + (1 : Int32))).toNatClampNeg]? = some (.int (f ((off + (1 : Int32))).toNatClampNeg)) := H183.at hin183 (hf _)
    refine own_go (X182.baloadBytes hx (j := (off + (1 : Int32))) (v := (.int (f ((off + (1 : Int32))).toNatClampNeg))) (by rw [e182]; exact Ar183.1) (State.isArrayOf_alike hZ.alike Ar183.2.1) Ar183.2.2 hin183 hat183 (g := (mkF m 168 #[.val (.int p1), .val (.int p2), .val (.int p3), .val (.ref b102), .val (.int off), .val (.int len), .val (.ref b107), .val (.int (f (off).toNatClampNeg)), .val (.int (f (off).toNatClampNeg)), .val (.int (f ((off + (1 : Int32))).toNatClampNeg)), .unset, .unset, .unset] [(.int (off + (1 : Int32))), (.ref b102)])) rfl rfl (hb hby at_168)) ?_
    show own_Go _ _ _ _ T182 (mkF m 169 #[.val (.int p1), .val (.int p2), .val (.int p3), .val (.ref b102), .val (.int off), .val (.int len), .val (.ref b107), .val (.int (f (off).toNatClampNeg)), .val (.int (f (off).toNatClampNeg)), .val (.int (f ((off + (1 : Int32))).toNatClampNeg)), .unset, .unset, .unset] [(.int (f ((off + (1 : Int32))).toNatClampNeg))])
    refine own_go (fun _ k => XS.goto X182.here hx rfl (pc0 := 169) (pc' := 173) rfl (hb hby at_169) (by decide) (by decide) k) ?_
    show own_Go _ _ _ _ T182 (mkF m 173 #[.val (.int p1), .val (.int p2), .val (.int p3), .val (.ref b102), .val (.int off), .val (.int len), .val (.ref b107), .val (.int (f (off).toNatClampNeg)), .val (.int (f (off).toNatClampNeg)), .val (.int (f ((off + (1 : Int32))).toNatClampNeg)), .unset, .unset, .unset] [(.int (f ((off + (1 : Int32))).toNatClampNeg))])
    refine own_go (fun _ k => XS.istore X182.here hx rfl (hb hby at_173) rfl (l' := #[.val (.int p1), .val (.int p2), .val (.int p3), .val (.ref b102), .val (.int off), .val (.int len), .val (.ref b107), .val (.int (f (off).toNatClampNeg)), .val (.int (f (off).toNatClampNeg)), .val (.int (f ((off + (1 : Int32))).toNatClampNeg)), .val (.int (f ((off + (1 : Int32))).toNatClampNeg)), .unset, .unset]) rfl k) ?_
    show own_Go _ _ _ _ T182 (mkF m 175 #[.val (.int p1), .val (.int p2), .val (.int p3), .val (.ref b102), .val (.int off), .val (.int len), .val (.ref b107), .val (.int (f (off).toNatClampNeg)), .val (.int (f (off).toNatClampNeg)), .val (.int (f ((off + (1 : Int32))).toNatClampNeg)), .val (.int (f ((off + (1 : Int32))).toNatClampNeg)), .unset, .unset] [])
    refine own_go (fun _ k => XS.iload X182.here hx rfl (hb hby at_175) rfl k) ?_
    show own_Go _ _ _ _ T182 (mkF m 177 #[.val (.int p1), .val (.int p2), .val (.int p3), .val (.ref b102), .val (.int off), .val (.int len), .val (.ref b107), .val (.int (f (off).toNatClampNeg)), .val (.int (f (off).toNatClampNeg)), .val (.int (f ((off + (1 : Int32))).toNatClampNeg)), .val (.int (f ((off + (1 : Int32))).toNatClampNeg)), .unset, .unset] [(.int (f ((off + (1 : Int32))).toNatClampNeg))])
    refine own_go (fun _ k => XS.iload X182.here hx rfl (hb hby at_177) rfl k) ?_
    show own_Go _ _ _ _ T182 (mkF m 179 #[.val (.int p1), .val (.int p2), .val (.int p3), .val (.ref b102), .val (.int off), .val (.int len), .val (.ref b107), .val (.int (f (off).toNatClampNeg)), .val (.int (f (off).toNatClampNeg)), .val (.int (f ((off + (1 : Int32))).toNatClampNeg)), .val (.int (f ((off + (1 : Int32))).toNatClampNeg)), .unset, .unset] [(.int (f ((off + (1 : Int32))).toNatClampNeg)), (.int (f ((off + (1 : Int32))).toNatClampNeg))])
    refine own_go (fun _ k => XS.icmpYes X182.here hx rfl (pc0 := 179) (pc' := 184) rfl (hb hby at_179) rfl (teq rfl).1 (by decide) (by decide) k) ?_
    show own_Go _ _ _ _ T182 (mkF m 184 #[.val (.int p1), .val (.int p2), .val (.int p3), .val (.ref b102), .val (.int off), .val (.int len), .val (.ref b107), .val (.int (f (off).toNatClampNeg)), .val (.int (f (off).toNatClampNeg)), .val (.int (f ((off + (1 : Int32))).toNatClampNeg)), .val (.int (f ((off + (1 : Int32))).toNatClampNeg)), .unset, .unset] [])
    refine own_go (fun _ k => XS.aload X182.here hx rfl (hb hby at_184) rfl rfl k) ?_
    show own_Go _ _ _ _ T182 (mkF m 186 #[.val (.int p1), .val (.int p2), .val (.int p3), .val (.ref b102), .val (.int off), .val (.int len), .val (.ref b107), .val (.int (f (off).toNatClampNeg)), .val (.int (f (off).toNatClampNeg)), .val (.int (f ((off + (1 : Int32))).toNatClampNeg)), .val (.int (f ((off + (1 : Int32))).toNatClampNeg)), .unset, .unset] [(.ref b107)])
    have f185 := (Nat.le_trans f180 K182.1)
    obtain ⟨v186, T186, h186, L186, X186, e186, hQ186, st186⟩ := own_callV X182 hx hZ hown (hw _ (List.mem_of_getElem? (i := 17) rfl)) (hw _ (List.mem_of_getElem? (i := 18) rfl)) (hw _ (List.mem_of_getElem? (i := 20) rfl)) (notFace_of_selects (args := #[]) (mvT hZ (hw _ (List.mem_of_getElem? (i := 20) rfl)))) (hw _ (List.mem_of_getElem? (i := 19) rfl)) (hw _ (List.mem_of_getElem? (i := 4) rfl)) (hw _ (List.mem_of_getElem? (i := 21) rfl)) (by decide) e182 E182x (argsL := []) (rest := []) (rm2 l Z a0 hw [] b107 (off + (2 : Int32)) en h182 n0 f185 F182p F182e) 0 (by decide) (by decide) (by decide) (by decide) (g := (mkF m 186 #[.val (.int p1), .val (.int p2), .val (.int p3), .val (.ref b102), .val (.int off), .val (.int len), .val (.ref b107), .val (.int (f (off).toNatClampNeg)), .val (.int (f (off).toNatClampNeg)), .val (.int (f ((off + (1 : Int32))).toNatClampNeg)), .val (.int (f ((off + (1 : Int32))).toNatClampNeg)), .unset, .unset] [(.ref b107)])) rfl (by rw [hml]; rfl) (lenOf pd1 rfl) rfl (Nat.le_of_eq rfl) (hb hby at_186)
    obtain ⟨rfl, N186q, rfl⟩ := hQ186
    refine own_go (st186) ?_
    have N186 := Fr.app N182 N186q
    show own_Go _ _ _ _ T186 (mkF m 189 #[.val (.int p1), .val (.int p2), .val (.int p3), .val (.ref b102), .val (.int off), .val (.int len), .val (.ref b107), .val (.int (f (off).toNatClampNeg)), .val (.int (f (off).toNatClampNeg)), .val (.int (f ((off + (1 : Int32))).toNatClampNeg)), .val (.int (f ((off + (1 : Int32))).toNatClampNeg)), .unset, .unset] [(.int (own_hr (off + (2 : Int32)) en))])
    refine own_go (fun _ k => XS.iload X186.here hx rfl (hb hby at_189) rfl k) ?_
    show own_Go _ _ _ _ T186 (mkF m 191 #[.val (.int p1), .val (.int p2), .val (.int p3), .val (.ref b102), .val (.int off), .val (.int len), .val (.ref b107), .val (.int (f (off).toNatClampNeg)), .val (.int (f (off).toNatClampNeg)), .val (.int (f ((off + (1 : Int32))).toNatClampNeg)), .val (.int (f ((off + (1 : Int32))).toNatClampNeg)), .unset, .unset] [(.int len), (.int (own_hr (off + (2 : Int32)) en))])
    refine own_go (fun _ k => XS.iconst X186.here hx rfl (hb hby at_191) k) ?_
    show own_Go _ _ _ _ T186 (mkF m 192 #[.val (.int p1), .val (.int p2), .val (.int p3), .val (.ref b102), .val (.int off), .val (.int len), .val (.ref b107), .val (.int (f (off).toNatClampNeg)), .val (.int (f (off).toNatClampNeg)), .val (.int (f ((off + (1 : Int32))).toNatClampNeg)), .val (.int (f ((off + (1 : Int32))).toNatClampNeg)), .unset, .unset] [(.int (2 : Int32)), (.int len), (.int (own_hr (off + (2 : Int32)) en))])
    refine own_go (fun _ k => XS.icmpNo X186.here hx rfl (hb hby at_192) rfl (tlt (own_lt (by show (2 : Int) < _; omega))).2.2.2 k) ?_
    show own_Go _ _ _ _ T186 (mkF m 195 #[.val (.int p1), .val (.int p2), .val (.int p3), .val (.ref b102), .val (.int off), .val (.int len), .val (.ref b107), .val (.int (f (off).toNatClampNeg)), .val (.int (f (off).toNatClampNeg)), .val (.int (f ((off + (1 : Int32))).toNatClampNeg)), .val (.int (f ((off + (1 : Int32))).toNatClampNeg)), .unset, .unset] [(.int (own_hr (off + (2 : Int32)) en))])
    refine own_go (fun _ k => XS.iconst X186.here hx rfl (hb hby at_195) k) ?_
    show own_Go _ _ _ _ T186 (mkF m 196 #[.val (.int p1), .val (.int p2), .val (.int p3), .val (.ref b102), .val (.int off), .val (.int len), .val (.ref b107), .val (.int (f (off).toNatClampNeg)), .val (.int (f (off).toNatClampNeg)), .val (.int (f ((off + (1 : Int32))).toNatClampNeg)), .val (.int (f ((off + (1 : Int32))).toNatClampNeg)), .unset, .unset] [(.int (1 : Int32)), (.int (own_hr (off + (2 : Int32)) en))])
    refine own_go (fun _ k => XS.goto X186.here hx rfl (pc0 := 196) (pc' := 200) rfl (hb hby at_196) (by decide) (by decide) k) ?_
    show own_Go _ _ _ _ T186 (mkF m 200 #[.val (.int p1), .val (.int p2), .val (.int p3), .val (.ref b102), .val (.int off), .val (.int len), .val (.ref b107), .val (.int (f (off).toNatClampNeg)), .val (.int (f (off).toNatClampNeg)), .val (.int (f ((off + (1 : Int32))).toNatClampNeg)), .val (.int (f ((off + (1 : Int32))).toNatClampNeg)), .unset, .unset] [(.int (1 : Int32)), (.int (own_hr (off + (2 : Int32)) en))])
    refine own_go (fun _ k => XS.icmpYes X186.here hx rfl (pc0 := 200) (pc' := 205) rfl (hb hby at_200) rfl (teq (by rw [own_hr, if_pos (own_lt (by omega))])).1 (by decide) (by decide) k) ?_
    show own_Go _ _ _ _ T186 (mkF m 205 #[.val (.int p1), .val (.int p2), .val (.int p3), .val (.ref b102), .val (.int off), .val (.int len), .val (.ref b107), .val (.int (f (off).toNatClampNeg)), .val (.int (f (off).toNatClampNeg)), .val (.int (f ((off + (1 : Int32))).toNatClampNeg)), .val (.int (f ((off + (1 : Int32))).toNatClampNeg)), .unset, .unset] [])
    refine own_go (fun _ k => XS.aload X186.here hx rfl (hb hby at_205) rfl rfl k) ?_
    show own_Go _ _ _ _ T186 (mkF m 207 #[.val (.int p1), .val (.int p2), .val (.int p3), .val (.ref b102), .val (.int off), .val (.int len), .val (.ref b107), .val (.int (f (off).toNatClampNeg)), .val (.int (f (off).toNatClampNeg)), .val (.int (f ((off + (1 : Int32))).toNatClampNeg)), .val (.int (f ((off + (1 : Int32))).toNatClampNeg)), .unset, .unset] [(.ref b107)])
    have sp2 : own_spec f (off + (2 : Int32)) en = (f ((off + (2 : Int32))).toNatClampNeg, (1 : Int32)) := own_one hf7 (own_lt (by omega))
    obtain ⟨v187, T187, h187, L187, X187, e187, hQ187, st187⟩ := own_callV X186 hx hZ hown (hw _ (List.mem_of_getElem? (i := 22) rfl)) (hw _ (List.mem_of_getElem? (i := 23) rfl)) (hw _ (List.mem_of_getElem? (i := 25) rfl)) (notFace_of_selects (args := #[]) (mvT hZ (hw _ (List.mem_of_getElem? (i := 25) rfl)))) (hw _ (List.mem_of_getElem? (i := 24) rfl)) (hw _ (List.mem_of_getElem? (i := 4) rfl)) (hw _ (List.mem_of_getElem? (i := 26) rfl)) (by decide) e186 E182x (argsL := []) (rest := []) (rm3 l Z a0 hw [] b107 b102 (off + (2 : Int32)) en k102 (4 : Int32) _ _ f h182 n0 f185 E182x F182b F182p F182e g_b107 (Nat.ne_of_lt o_b107) V183 hf (own_bnd (by omega) (by omega) (by omega))) 0 (by decide) (by decide) (by decide) (by decide) (g := (mkF m 207 #[.val (.int p1), .val (.int p2), .val (.int p3), .val (.ref b102), .val (.int off), .val (.int len), .val (.ref b107), .val (.int (f (off).toNatClampNeg)), .val (.int (f (off).toNatClampNeg)), .val (.int (f ((off + (1 : Int32))).toNatClampNeg)), .val (.int (f ((off + (1 : Int32))).toNatClampNeg)), .unset, .unset] [(.ref b107)])) rfl (by rw [hml]; rfl) (lenOf pd2 rfl) rfl (Nat.le_of_eq rfl) (hb hby at_207)
    obtain ⟨rfl, N187q, K187, E187x, F187b, F187p, F187e⟩ := hQ187
    refine own_go (st187) ?_
    have N187 := Fr.app N186 N187q
    show own_Go _ _ _ _ T187 (mkF m 210 #[.val (.int p1), .val (.int p2), .val (.int p3), .val (.ref b102), .val (.int off), .val (.int len), .val (.ref b107), .val (.int (f (off).toNatClampNeg)), .val (.int (f (off).toNatClampNeg)), .val (.int (f ((off + (1 : Int32))).toNatClampNeg)), .val (.int (f ((off + (1 : Int32))).toNatClampNeg)), .unset, .unset] [(.int (own_spec f (off + (2 : Int32)) en).1)])
    rw [show (own_spec f (off + (2 : Int32)) en).1 = (f ((off + (2 : Int32))).toNatClampNeg) from by rw [sp2]]
    rw [sp2, show (off + (2 : Int32)) + ((f ((off + (2 : Int32))).toNatClampNeg, (1 : Int32)) : Int32 × Int32).2 = (off + (3 : Int32)) from own_addone2 off] at F187p
    show own_Go _ _ _ _ T187 (mkF m 210 #[.val (.int p1), .val (.int p2), .val (.int p3), .val (.ref b102), .val (.int off), .val (.int len), .val (.ref b107), .val (.int (f (off).toNatClampNeg)), .val (.int (f (off).toNatClampNeg)), .val (.int (f ((off + (1 : Int32))).toNatClampNeg)), .val (.int (f ((off + (1 : Int32))).toNatClampNeg)), .unset, .unset] [(.int (f ((off + (2 : Int32))).toNatClampNeg))])
    refine own_go (fun _ k => XS.istore X187.here hx rfl (hb hby at_210) rfl (l' := #[.val (.int p1), .val (.int p2), .val (.int p3), .val (.ref b102), .val (.int off), .val (.int len), .val (.ref b107), .val (.int (f (off).toNatClampNeg)), .val (.int (f (off).toNatClampNeg)), .val (.int (f ((off + (1 : Int32))).toNatClampNeg)), .val (.int (f ((off + (1 : Int32))).toNatClampNeg)), .val (.int (f ((off + (2 : Int32))).toNatClampNeg)), .unset]) rfl k) ?_
    show own_Go _ _ _ _ T187 (mkF m 212 #[.val (.int p1), .val (.int p2), .val (.int p3), .val (.ref b102), .val (.int off), .val (.int len), .val (.ref b107), .val (.int (f (off).toNatClampNeg)), .val (.int (f (off).toNatClampNeg)), .val (.int (f ((off + (1 : Int32))).toNatClampNeg)), .val (.int (f ((off + (1 : Int32))).toNatClampNeg)), .val (.int (f ((off + (2 : Int32))).toNatClampNeg)), .unset] [])
    refine own_go (fun _ k => XS.iload X187.here hx rfl (hb hby at_212) rfl k) ?_
    show own_Go _ _ _ _ T187 (mkF m 214 #[.val (.int p1), .val (.int p2), .val (.int p3), .val (.ref b102), .val (.int off), .val (.int len), .val (.ref b107), .val (.int (f (off).toNatClampNeg)), .val (.int (f (off).toNatClampNeg)), .val (.int (f ((off + (1 : Int32))).toNatClampNeg)), .val (.int (f ((off + (1 : Int32))).toNatClampNeg)), .val (.int (f ((off + (2 : Int32))).toNatClampNeg)), .unset] [(.int len)])
    refine own_go (fun _ k => XS.iconst X187.here hx rfl (hb hby at_214) k) ?_
    show own_Go _ _ _ _ T187 (mkF m 215 #[.val (.int p1), .val (.int p2), .val (.int p3), .val (.ref b102), .val (.int off), .val (.int len), .val (.ref b107), .val (.int (f (off).toNatClampNeg)), .val (.int (f (off).toNatClampNeg)), .val (.int (f ((off + (1 : Int32))).toNatClampNeg)), .val (.int (f ((off + (1 : Int32))).toNatClampNeg)), .val (.int (f ((off + (2 : Int32))).toNatClampNeg)), .unset] [(.int (2 : Int32)), (.int len)])
    refine own_go (fun _ k => XS.icmpNo X187.here hx rfl (hb hby at_215) rfl (tlt (own_lt (by show (2 : Int) < _; omega))).2.2.2 k) ?_
    show own_Go _ _ _ _ T187 (mkF m 218 #[.val (.int p1), .val (.int p2), .val (.int p3), .val (.ref b102), .val (.int off), .val (.int len), .val (.ref b107), .val (.int (f (off).toNatClampNeg)), .val (.int (f (off).toNatClampNeg)), .val (.int (f ((off + (1 : Int32))).toNatClampNeg)), .val (.int (f ((off + (1 : Int32))).toNatClampNeg)), .val (.int (f ((off + (2 : Int32))).toNatClampNeg)), .unset] [])
    refine own_go (fun _ k => XS.aloadN X187.here hx rfl (hb hby at_218) rfl rfl k) ?_
    show own_Go _ _ _ _ T187 (mkF m 219 #[.val (.int p1), .val (.int p2), .val (.int p3), .val (.ref b102), .val (.int off), .val (.int len), .val (.ref b107), .val (.int (f (off).toNatClampNeg)), .val (.int (f (off).toNatClampNeg)), .val (.int (f ((off + (1 : Int32))).toNatClampNeg)), .val (.int (f ((off + (1 : Int32))).toNatClampNeg)), .val (.int (f ((off + (2 : Int32))).toNatClampNeg)), .unset] [(.ref b102)])
    refine own_go (fun _ k => XS.iload X187.here hx rfl (hb hby at_219) rfl k) ?_
    show own_Go _ _ _ _ T187 (mkF m 221 #[.val (.int p1), .val (.int p2), .val (.int p3), .val (.ref b102), .val (.int off), .val (.int len), .val (.ref b107), .val (.int (f (off).toNatClampNeg)), .val (.int (f (off).toNatClampNeg)), .val (.int (f ((off + (1 : Int32))).toNatClampNeg)), .val (.int (f ((off + (1 : Int32))).toNatClampNeg)), .val (.int (f ((off + (2 : Int32))).toNatClampNeg)), .unset] [(.int off), (.ref b102)])
    refine own_go (fun _ k => XS.iconst X187.here hx rfl (hb hby at_221) k) ?_
    show own_Go _ _ _ _ T187 (mkF m 222 #[.val (.int p1), .val (.int p2), .val (.int p3), .val (.ref b102), .val (.int off), .val (.int len), .val (.ref b107), .val (.int (f (off).toNatClampNeg)), .val (.int (f (off).toNatClampNeg)), .val (.int (f ((off + (1 : Int32))).toNatClampNeg)), .val (.int (f ((off + (1 : Int32))).toNatClampNeg)), .val (.int (f ((off + (2 : Int32))).toNatClampNeg)), .unset] [(.int (2 : Int32)), (.int off), (.ref b102)])
    refine own_go (fun _ k => XS.iadd X187.here hx rfl (hb hby at_222) rfl k) ?_
    show own_Go _ _ _ _ T187 (mkF m 223 #[.val (.int p1), .val (.int p2), .val (.int p3), .val (.ref b102), .val (.int off), .val (.int len), .val (.ref b107), .val (.int (f (off).toNatClampNeg)), .val (.int (f (off).toNatClampNeg)), .val (.int (f ((off + (1 : Int32))).toNatClampNeg)), .val (.int (f ((off + (1 : Int32))).toNatClampNeg)), .val (.int (f ((off + (2 : Int32))).toNatClampNeg)), .unset] [(.int (off + (2 : Int32))), (.ref b102)])
    have f189 := (V183.keep K187 (ninS (Nat.ne_of_lt o_b107) nin0))
    obtain ⟨cl188, Ar188, q188, S188, M188, H188, G188⟩ := f189
    have V188 : Arv Z h187 b102 k102 .byte (4 : Int32) _ _ := ⟨cl188, Ar188, q188, S188, M188, H188, G188⟩
    have hin188 : ¬ ((off + (2 : Int32)) < 0 ∨ cl188.slots.size ≤ ((off + (2 : Int32))).toNatClampNeg) := inb_of S188 ⟨own_nlt (by show (0 : Int32).toInt ≤ _; rw [own_e0]; omega), own_lt (by show _ < (4 : Int); omega)⟩
    have hat188 : cl188.slots[((off + (2 : Int32))).toNatClampNeg]? = some (.int (f ((off + (2 : Int32))).toNatClampNeg)) := H188.at hin188 (hf _)
    refine own_go (X187.baloadBytes hx (j := (off + (2 : Int32))) (v := (.int (f ((off + (2 : Int32))).toNatClampNeg))) (by rw [e187]; exact Ar188.1) (State.isArrayOf_alike hZ.alike Ar188.2.1) Ar188.2.2 hin188 hat188 (g := (mkF m 223 #[.val (.int p1), .val (.int p2), .val (.int p3), .val (.ref b102), .val (.int off), .val (.int len), .val (.ref b107), .val (.int (f (off).toNatClampNeg)), .val (.int (f (off).toNatClampNeg)), .val (.int (f ((off + (1 : Int32))).toNatClampNeg)), .val (.int (f ((off + (1 : Int32))).toNatClampNeg)), .val (.int (f ((off + (2 : Int32))).toNatClampNeg)), .unset] [(.int (off + (2 : Int32))), (.ref b102)])) rfl rfl (hb hby at_223)) ?_
    show own_Go _ _ _ _ T187 (mkF m 224 #[.val (.int p1), .val (.int p2), .val (.int p3), .val (.ref b102), .val (.int off), .val (.int len), .val (.ref b107), .val (.int (f (off).toNatClampNeg)), .val (.int (f (off).toNatClampNeg)), .val (.int (f ((off + (1 : Int32))).toNatClampNeg)), .val (.int (f ((off + (1 : Int32))).toNatClampNeg)), .val (.int (f ((off + (2 : Int32))).toNatClampNeg)), .unset] [(.int (f ((off + (2 : Int32))).toNatClampNeg))])
    refine own_go (fun _ k => XS.goto X187.here hx rfl (pc0 := 224) (pc' := 228) rfl (hb hby at_224) (by decide) (by decide) k) ?_
    show own_Go _ _ _ _ T187 (mkF m 228 #[.val (.int p1), .val (.int p2), .val (.int p3), .val (.ref b102), .val (.int off), .val (.int len), .val (.ref b107), .val (.int (f (off).toNatClampNeg)), .val (.int (f (off).toNatClampNeg)), .val (.int (f ((off + (1 : Int32))).toNatClampNeg)), .val (.int (f ((off + (1 : Int32))).toNatClampNeg)), .val (.int (f ((off + (2 : Int32))).toNatClampNeg)), .unset] [(.int (f ((off + (2 : Int32))).toNatClampNeg))])
    refine own_go (fun _ k => XS.istore X187.here hx rfl (hb hby at_228) rfl (l' := #[.val (.int p1), .val (.int p2), .val (.int p3), .val (.ref b102), .val (.int off), .val (.int len), .val (.ref b107), .val (.int (f (off).toNatClampNeg)), .val (.int (f (off).toNatClampNeg)), .val (.int (f ((off + (1 : Int32))).toNatClampNeg)), .val (.int (f ((off + (1 : Int32))).toNatClampNeg)), .val (.int (f ((off + (2 : Int32))).toNatClampNeg)), .val (.int (f ((off + (2 : Int32))).toNatClampNeg))]) rfl k) ?_
    show own_Go _ _ _ _ T187 (mkF m 230 #[.val (.int p1), .val (.int p2), .val (.int p3), .val (.ref b102), .val (.int off), .val (.int len), .val (.ref b107), .val (.int (f (off).toNatClampNeg)), .val (.int (f (off).toNatClampNeg)), .val (.int (f ((off + (1 : Int32))).toNatClampNeg)), .val (.int (f ((off + (1 : Int32))).toNatClampNeg)), .val (.int (f ((off + (2 : Int32))).toNatClampNeg)), .val (.int (f ((off + (2 : Int32))).toNatClampNeg))] [])
    refine own_go (fun _ k => XS.iload X187.here hx rfl (hb hby at_230) rfl k) ?_
    show own_Go _ _ _ _ T187 (mkF m 232 #[.val (.int p1), .val (.int p2), .val (.int p3), .val (.ref b102), .val (.int off), .val (.int len), .val (.ref b107), .val (.int (f (off).toNatClampNeg)), .val (.int (f (off).toNatClampNeg)), .val (.int (f ((off + (1 : Int32))).toNatClampNeg)), .val (.int (f ((off + (1 : Int32))).toNatClampNeg)), .val (.int (f ((off + (2 : Int32))).toNatClampNeg)), .val (.int (f ((off + (2 : Int32))).toNatClampNeg))] [(.int (f ((off + (2 : Int32))).toNatClampNeg))])
    refine own_go (fun _ k => XS.iload X187.here hx rfl (hb hby at_232) rfl k) ?_
    show own_Go _ _ _ _ T187 (mkF m 234 #[.val (.int p1), .val (.int p2), .val (.int p3), .val (.ref b102), .val (.int off), .val (.int len), .val (.ref b107), .val (.int (f (off).toNatClampNeg)), .val (.int (f (off).toNatClampNeg)), .val (.int (f ((off + (1 : Int32))).toNatClampNeg)), .val (.int (f ((off + (1 : Int32))).toNatClampNeg)), .val (.int (f ((off + (2 : Int32))).toNatClampNeg)), .val (.int (f ((off + (2 : Int32))).toNatClampNeg))] [(.int (f ((off + (2 : Int32))).toNatClampNeg)), (.int (f ((off + (2 : Int32))).toNatClampNeg))])
    refine own_go (fun _ k => XS.icmpYes X187.here hx rfl (pc0 := 234) (pc' := 239) rfl (hb hby at_234) rfl (teq rfl).1 (by decide) (by decide) k) ?_
    show own_Go _ _ _ _ T187 (mkF m 239 #[.val (.int p1), .val (.int p2), .val (.int p3), .val (.ref b102), .val (.int off), .val (.int len), .val (.ref b107), .val (.int (f (off).toNatClampNeg)), .val (.int (f (off).toNatClampNeg)), .val (.int (f ((off + (1 : Int32))).toNatClampNeg)), .val (.int (f ((off + (1 : Int32))).toNatClampNeg)), .val (.int (f ((off + (2 : Int32))).toNatClampNeg)), .val (.int (f ((off + (2 : Int32))).toNatClampNeg))] [])
    refine own_go (fun _ k => XS.aload X187.here hx rfl (hb hby at_239) rfl rfl k) ?_
    show own_Go _ _ _ _ T187 (mkF m 241 #[.val (.int p1), .val (.int p2), .val (.int p3), .val (.ref b102), .val (.int off), .val (.int len), .val (.ref b107), .val (.int (f (off).toNatClampNeg)), .val (.int (f (off).toNatClampNeg)), .val (.int (f ((off + (1 : Int32))).toNatClampNeg)), .val (.int (f ((off + (1 : Int32))).toNatClampNeg)), .val (.int (f ((off + (2 : Int32))).toNatClampNeg)), .val (.int (f ((off + (2 : Int32))).toNatClampNeg))] [(.ref b107)])
    have f190 := (Nat.le_trans f185 K187.1)
    obtain ⟨v191, T191, h191, L191, X191, e191, hQ191, st191⟩ := own_callV X187 hx hZ hown (hw _ (List.mem_of_getElem? (i := 17) rfl)) (hw _ (List.mem_of_getElem? (i := 18) rfl)) (hw _ (List.mem_of_getElem? (i := 20) rfl)) (notFace_of_selects (args := #[]) (mvT hZ (hw _ (List.mem_of_getElem? (i := 20) rfl)))) (hw _ (List.mem_of_getElem? (i := 19) rfl)) (hw _ (List.mem_of_getElem? (i := 4) rfl)) (hw _ (List.mem_of_getElem? (i := 21) rfl)) (by decide) e187 E187x (argsL := []) (rest := []) (rm2 l Z a0 hw [] b107 (off + (3 : Int32)) en h187 n0 f190 F187p F187e) 0 (by decide) (by decide) (by decide) (by decide) (g := (mkF m 241 #[.val (.int p1), .val (.int p2), .val (.int p3), .val (.ref b102), .val (.int off), .val (.int len), .val (.ref b107), .val (.int (f (off).toNatClampNeg)), .val (.int (f (off).toNatClampNeg)), .val (.int (f ((off + (1 : Int32))).toNatClampNeg)), .val (.int (f ((off + (1 : Int32))).toNatClampNeg)), .val (.int (f ((off + (2 : Int32))).toNatClampNeg)), .val (.int (f ((off + (2 : Int32))).toNatClampNeg))] [(.ref b107)])) rfl (by rw [hml]; rfl) (lenOf pd1 rfl) rfl (Nat.le_of_eq rfl) (hb hby at_241)
    obtain ⟨rfl, N191q, rfl⟩ := hQ191
    refine own_go (st191) ?_
    have N191 := Fr.app N187 N191q
    show own_Go _ _ _ _ T191 (mkF m 244 #[.val (.int p1), .val (.int p2), .val (.int p3), .val (.ref b102), .val (.int off), .val (.int len), .val (.ref b107), .val (.int (f (off).toNatClampNeg)), .val (.int (f (off).toNatClampNeg)), .val (.int (f ((off + (1 : Int32))).toNatClampNeg)), .val (.int (f ((off + (1 : Int32))).toNatClampNeg)), .val (.int (f ((off + (2 : Int32))).toNatClampNeg)), .val (.int (f ((off + (2 : Int32))).toNatClampNeg))] [(.int (own_hr (off + (3 : Int32)) en))])
    refine own_go (fun _ k => XS.iload X191.here hx rfl (hb hby at_244) rfl k) ?_
    show own_Go _ _ _ _ T191 (mkF m 246 #[.val (.int p1), .val (.int p2), .val (.int p3), .val (.ref b102), .val (.int off), .val (.int len), .val (.ref b107), .val (.int (f (off).toNatClampNeg)), .val (.int (f (off).toNatClampNeg)), .val (.int (f ((off + (1 : Int32))).toNatClampNeg)), .val (.int (f ((off + (1 : Int32))).toNatClampNeg)), .val (.int (f ((off + (2 : Int32))).toNatClampNeg)), .val (.int (f ((off + (2 : Int32))).toNatClampNeg))] [(.int len), (.int (own_hr (off + (3 : Int32)) en))])
    refine own_go (fun _ k => XS.iconst X191.here hx rfl (hb hby at_246) k) ?_
    show own_Go _ _ _ _ T191 (mkF m 247 #[.val (.int p1), .val (.int p2), .val (.int p3), .val (.ref b102), .val (.int off), .val (.int len), .val (.ref b107), .val (.int (f (off).toNatClampNeg)), .val (.int (f (off).toNatClampNeg)), .val (.int (f ((off + (1 : Int32))).toNatClampNeg)), .val (.int (f ((off + (1 : Int32))).toNatClampNeg)), .val (.int (f ((off + (2 : Int32))).toNatClampNeg)), .val (.int (f ((off + (2 : Int32))).toNatClampNeg))] [(.int (3 : Int32)), (.int len), (.int (own_hr (off + (3 : Int32)) en))])
    refine own_go (fun _ k => XS.icmpNo X191.here hx rfl (hb hby at_247) rfl (tlt (own_lt (by show (3 : Int) < _; omega))).2.2.2 k) ?_
    show own_Go _ _ _ _ T191 (mkF m 250 #[.val (.int p1), .val (.int p2), .val (.int p3), .val (.ref b102), .val (.int off), .val (.int len), .val (.ref b107), .val (.int (f (off).toNatClampNeg)), .val (.int (f (off).toNatClampNeg)), .val (.int (f ((off + (1 : Int32))).toNatClampNeg)), .val (.int (f ((off + (1 : Int32))).toNatClampNeg)), .val (.int (f ((off + (2 : Int32))).toNatClampNeg)), .val (.int (f ((off + (2 : Int32))).toNatClampNeg))] [(.int (own_hr (off + (3 : Int32)) en))])
    refine own_go (fun _ k => XS.iconst X191.here hx rfl (hb hby at_250) k) ?_
    show own_Go _ _ _ _ T191 (mkF m 251 #[.val (.int p1), .val (.int p2), .val (.int p3), .val (.ref b102), .val (.int off), .val (.int len), .val (.ref b107), .val (.int (f (off).toNatClampNeg)), .val (.int (f (off).toNatClampNeg)), .val (.int (f ((off + (1 : Int32))).toNatClampNeg)), .val (.int (f ((off + (1 : Int32))).toNatClampNeg)), .val (.int (f ((off + (2 : Int32))).toNatClampNeg)), .val (.int (f ((off + (2 : Int32))).toNatClampNeg))] [(.int (1 : Int32)), (.int (own_hr (off + (3 : Int32)) en))])
    refine own_go (fun _ k => XS.goto X191.here hx rfl (pc0 := 251) (pc' := 255) rfl (hb hby at_251) (by decide) (by decide) k) ?_
    show own_Go _ _ _ _ T191 (mkF m 255 #[.val (.int p1), .val (.int p2), .val (.int p3), .val (.ref b102), .val (.int off), .val (.int len), .val (.ref b107), .val (.int (f (off).toNatClampNeg)), .val (.int (f (off).toNatClampNeg)), .val (.int (f ((off + (1 : Int32))).toNatClampNeg)), .val (.int (f ((off + (1 : Int32))).toNatClampNeg)), .val (.int (f ((off + (2 : Int32))).toNatClampNeg)), .val (.int (f ((off + (2 : Int32))).toNatClampNeg))] [(.int (1 : Int32)), (.int (own_hr (off + (3 : Int32)) en))])
    refine own_go (fun _ k => XS.icmpNo X191.here hx rfl (hb hby at_255) rfl (teq (by rw [own_hr, if_pos (own_lt (by omega))])).2 k) ?_
    show own_Go _ _ _ _ T191 (mkF m 258 #[.val (.int p1), .val (.int p2), .val (.int p3), .val (.ref b102), .val (.int off), .val (.int len), .val (.ref b107), .val (.int (f (off).toNatClampNeg)), .val (.int (f (off).toNatClampNeg)), .val (.int (f ((off + (1 : Int32))).toNatClampNeg)), .val (.int (f ((off + (1 : Int32))).toNatClampNeg)), .val (.int (f ((off + (2 : Int32))).toNatClampNeg)), .val (.int (f ((off + (2 : Int32))).toNatClampNeg))] [])
    refine own_go (fun _ k => XS.iconst X191.here hx rfl (hb hby at_258) k) ?_
    show own_Go _ _ _ _ T191 (mkF m 259 #[.val (.int p1), .val (.int p2), .val (.int p3), .val (.ref b102), .val (.int off), .val (.int len), .val (.ref b107), .val (.int (f (off).toNatClampNeg)), .val (.int (f (off).toNatClampNeg)), .val (.int (f ((off + (1 : Int32))).toNatClampNeg)), .val (.int (f ((off + (1 : Int32))).toNatClampNeg)), .val (.int (f ((off + (2 : Int32))).toNatClampNeg)), .val (.int (f ((off + (2 : Int32))).toNatClampNeg))] [(.int (1 : Int32))])
    refine own_go (fun _ k => XS.goto X191.here hx rfl (pc0 := 259) (pc' := 263) rfl (hb hby at_259) (by decide) (by decide) k) ?_
    show own_Go _ _ _ _ T191 (mkF m 263 #[.val (.int p1), .val (.int p2), .val (.int p3), .val (.ref b102), .val (.int off), .val (.int len), .val (.ref b107), .val (.int (f (off).toNatClampNeg)), .val (.int (f (off).toNatClampNeg)), .val (.int (f ((off + (1 : Int32))).toNatClampNeg)), .val (.int (f ((off + (1 : Int32))).toNatClampNeg)), .val (.int (f ((off + (2 : Int32))).toNatClampNeg)), .val (.int (f ((off + (2 : Int32))).toNatClampNeg))] [(.int (1 : Int32))])
    exact own_retN X191 hx hret (by simp) hlk (hb hby at_263) (by decide) (by decide) (by first | exact ⟨rfl, N191⟩ | (rw [e191]; exact ⟨rfl, N191⟩))
set_option maxRecDepth 65536 in
set_option maxHeartbeats 40000000 in
theorem comes_1 {Post : Tables → Env → Array Value → State → Outcome → State → Prop} (hpost : ∀ tb e args s v u, (limb_1_1.after args s (.returned v) u = true ∧ limb_1_2.after args s (.returned v) u = true ∧ True) → FrameEnd s (.returned v) u (Jvm.fieldLocs frame_1_writes args s ++ Jvm.arrayLocs frame_1_arrays args s ++ Jvm.staticLocs frame_1_statics s) 16 128 → Post tb e args s (.returned v) u) :
    ArmFor flags0 classFile x code maxLocals ret World_1 tables_1 room_1 Calls_1 rest_1 Pre_1 Post := by
  intro l hfl _ _ p e ha hc hk s m args below hf hA hF happ hP
  obtain ⟨hcalls, hrest, hpre⟩ := hP
  obtain ⟨-, -, -, hnamed, -, -, -, hat⟩ := (Spec.applies_iff hf).mp happ
  obtain ⟨hg, hn⟩ := and_e (Cond.before_iff.mp (show (Jvm.Cond.and given_1 narrow_1).before args s = true from hpre))
  obtain ⟨gc, hg⟩ := and_e hg
  obtain ⟨gv0, hg⟩ := and_e hg
  obtain ⟨gv1, hg⟩ := and_e hg
  have gv2 := hg
  obtain ⟨w0, w1, w2, rfl⟩ : ∃ w0 w1 w2 : Value, args = #[w0, w1, w2] := by
    have hs : args.size = 3 := by simpa [Cond.value, given_1] using gc
    obtain ⟨L⟩ := args
    match L, hs with
    | [w0, w1, w2], _ => exact ⟨w0, w1, w2, rfl⟩
  have hw := fun d (hd : d ∈ tables_1) => atoms_spec (ws := Jvm.Cond.code x code maxLocals ret :: tables_1) hat d (List.mem_cons_of_mem _ hd)
  obtain ⟨i0, ei0⟩ := is_v gv0
  obtain rfl : w0 = (.int i0) := Option.some.inj ei0
  obtain ⟨i1, ei1⟩ := is_v gv1
  obtain rfl : w1 = (.int i1) := Option.some.inj ei1
  obtain ⟨i2, ei2⟩ := is_v gv2
  obtain rfl : w2 = (.int i2) := Option.some.inj ei2
  obtain ⟨n, o, h1, h2, h3, _, L, rfl, ⟨rfl, N⟩, hq⟩ := rm0 l s _ hw tables_1 i0 i1 i2 s.heap s.heap.size (Nat.le_refl _) p e ha hc hk s m _ below hf ((Spec.applies_iff_loose hf).mp happ).1 ⟨rfl, State.Warmed39.refl s, rfl⟩ trivial
  refine ⟨n, _, h1, h2, h3, hpost _ _ _ _ _ _ ⟨Cond.after_iff.mpr rfl, Cond.after_iff.mpr (eq_i res_at (Term.int_eval (1)) rfl), trivial⟩ ⟨hq.1, hq.2.1, (hq.2.2.sift fun y hy => Or.inr (N y hy)).mono (by decide) (by decide)⟩⟩
theorem main_1_1 : Claimed_1_1 := comes_1 fun _ _ _ _ _ _ h hF => ⟨h.1, hF⟩
theorem main_1_2 : Claimed_1_2 := comes_1 fun _ _ _ _ _ _ h hF => ⟨h.2.1, hF⟩
end Jvm.Pilot.@@N@@
namespace Jvm.Pilot.@@N@@
open Jvm Jvm.ClassFile Sem Op Lib Jvm.Free Jvm.Stand Jvm.Pilot.@@N@@.Jvm.D
/-! MADE BY PROGRAM (witnessworld.py) out of the Statement's table words and the real class files: 9 classes; the members and pool entries that the words name. The judged class is class 1, her method 1. -/
namespace start1
open Jvm.ClassFile
def u (s : String) : CpInfo := .utf8 (stringToUtf16 s)
/-- a pool by its gaps: so many unusable entries, then the entry; so many at the end -/
def gap : Nat → List CpInfo → List CpInfo
  | 0, r => r
  | n + 1, r => .unusable :: gap n r
def poolList (es : List (Nat × CpInfo)) (last : Nat) : List CpInfo := es.foldr (fun e r => gap e.1 (e.2 :: r)) (gap last [])
def pool (es : List (Nat × CpInfo)) (last : Nat) : Array CpInfo := ⟨poolList es last⟩
def fileOf (pool : Array CpInfo) (this : Nat) (attrs : Array Attribute := #[]) (ms : Array MethodInfo := #[]) (fl : Nat := 33) (sup : Nat := 0) (ifs : Array Nat := #[]) (fds : Array FieldInfo := #[]) : ClassFile where
  minorVersion := 0
  majorVersion := 65
  constantPool := pool
  accessFlags := fl
  thisClass := this
  superClass := sup
  interfaces := ifs
  fields := fds
  methods := ms
  attributes := attrs
def plain (name : String) (sup : Option ClassId) : Class where
  name := name
  kind := .ordinary
  loader := none
  accessFlags := 33
  super := sup
  interfaces := #[]
  cf := none
  fields := #[]
  methods := #[]
  instanceTypes := #[]
  staticTypes := #[]
  resolved := #[]
  callSites := []
  init := .initialized
  statics := none
  mirror := none

def pool0 : Array CpInfo := pool [(5, u "<init>"), (0, u "()V"), (1, .class_ 10), (1, u "java/lang/Object")] 113

def k0c0 : Code := { maxStack := 0, maxLocals := 1, code := object_method_1_code, exceptionTable := #[], attributes := #[] }
def k0m0 : Method := { name := "<init>", desc := "()V", sig := { parameters := [], returnType := none }, accessFlags := 1, code := some k0c0 }
/-- java/lang/Object -/
def k0 : Class := { plain "java/lang/Object" none with
  accessFlags := 33
  interfaces := #[]
  cf := some (fileOf pool0 8 #[] #[{ accessFlags := 1, nameIndex := 5, descriptorIndex := 6, attributes := #[] }] 33 0 #[] #[])
  fields := #[]
  methods := #[k0m0]
  instanceTypes := #[]
  staticTypes := #[]
  resolved := Array.replicate 124 none
  statics := none }

def pool1 : Array CpInfo := pool [(2, .class_ 4), (1, u "java/lang/Object"), (0, u "<init>"), (0, u "()V"), (0, .integer 2147483647), (0, .class_ 9), (0, u "com/example/cranfield/cranfield/engine/ByteReader"), (0, .methodref 8 11), (0, .nameAndType 5 12), (0, u "([BII)V"), (0, .methodref 8 14), (0, .nameAndType 15 16), (0, u "hasRemaining"), (0, u "()Z"), (0, .methodref 8 18), (0, .nameAndType 19 20), (0, u "readVarInt"), (0, u "()I"), (0, .class_ 22), (0, u "com/example/cranfield/cranfield/engine/ByteReaderHasRemainingPinLaw"), (2, u "law"), (0, u "(III)Z")] 5

def k1m0 : Method := { name := "<init>", desc := "()V", sig := { parameters := [], returnType := none }, accessFlags := 1, code := none }
def k1c1 : Code := { maxStack := 5, maxLocals := 13, code := code, exceptionTable := #[], attributes := #[] }
def k1m1 : Method := { name := "law", desc := "(III)Z", sig := { parameters := [.int, .int, .int], returnType := some .boolean }, accessFlags := 9, code := some k1c1 }
/-- com/example/cranfield/cranfield/engine/ByteReaderHasRemainingPinLaw -/
def k1 : Class := { plain "com/example/cranfield/cranfield/engine/ByteReaderHasRemainingPinLaw" (some 0) with
  accessFlags := 49
  interfaces := #[]
  cf := some (fileOf pool1 21 #[] #[{ accessFlags := 1, nameIndex := 5, descriptorIndex := 6, attributes := #[] }, { accessFlags := 9, nameIndex := 25, descriptorIndex := 26, attributes := #[] }] 49 2 #[] #[])
  fields := #[]
  methods := #[k1m0, k1m1]
  instanceTypes := #[]
  staticTypes := #[]
  resolved := Array.replicate 32 none
  statics := none }

def pool2 : Array CpInfo := pool [(1, .methodref 2 3), (0, .class_ 4), (0, .nameAndType 5 6), (0, u "java/lang/Object"), (0, u "<init>"), (0, u "()V"), (0, .fieldref 8 9), (0, .class_ 10), (0, .nameAndType 11 12), (0, u "com/example/cranfield/cranfield/engine/ByteReader"), (0, u "bytes"), (0, u "[B"), (0, .fieldref 8 14), (0, .nameAndType 15 16), (0, u "position"), (0, u "I"), (0, .fieldref 8 18), (0, .nameAndType 19 16), (0, u "end"), (2, u "readVarInt"), (0, u "()I"), (11, u "([BII)V"), (2, u "hasRemaining"), (0, u "()Z")] 5

def k2c0 : Code := { maxStack := 3, maxLocals := 4, code := prog_2_method_1_code, exceptionTable := #[], attributes := #[] }
def k2m0 : Method := { name := "<init>", desc := "([BII)V", sig := { parameters := [(.array .byte), .int, .int], returnType := none }, accessFlags := 0, code := some k2c0 }
def k2c1 : Code := { maxStack := 2, maxLocals := 1, code := prog_2_method_2_code, exceptionTable := #[], attributes := #[] }
def k2m1 : Method := { name := "hasRemaining", desc := "()Z", sig := { parameters := [], returnType := some .boolean }, accessFlags := 0, code := some k2c1 }
def k2c2 : Code := { maxStack := 5, maxLocals := 4, code := prog_2_method_3_code, exceptionTable := #[], attributes := #[] }
def k2m2 : Method := { name := "readVarInt", desc := "()I", sig := { parameters := [], returnType := some .int }, accessFlags := 0, code := some k2c2 }
/-- com/example/cranfield/cranfield/engine/ByteReader -/
def k2 : Class := { plain "com/example/cranfield/cranfield/engine/ByteReader" (some 0) with
  accessFlags := 48
  interfaces := #[]
  cf := some (fileOf pool2 8 #[] #[{ accessFlags := 0, nameIndex := 5, descriptorIndex := 35, attributes := #[] }, { accessFlags := 0, nameIndex := 38, descriptorIndex := 39, attributes := #[] }, { accessFlags := 0, nameIndex := 22, descriptorIndex := 23, attributes := #[] }] 48 2 #[] #[{ accessFlags := 18, nameIndex := 11, descriptorIndex := 12, attributes := #[] }, { accessFlags := 18, nameIndex := 19, descriptorIndex := 16, attributes := #[] }, { accessFlags := 2, nameIndex := 15, descriptorIndex := 16, attributes := #[] }])
  fields := #[{ name := "bytes", type := (.array .byte), accessFlags := 18, slot := 0, constantValue := 0 }, { name := "end", type := .int, accessFlags := 18, slot := 1, constantValue := 0 }, { name := "position", type := .int, accessFlags := 2, slot := 2, constantValue := 0 }]
  methods := #[k2m0, k2m1, k2m2]
  instanceTypes := #[(.array .byte), .int, .int]
  staticTypes := #[]
  resolved := Array.replicate 45 none
  statics := none }

def pool3 : Array CpInfo := pool [(1, u "java/lang/Cloneable"), (0, .class_ 1), (0, u "java/lang/Object"), (0, .class_ 3)] 3

/-- java/lang/Cloneable -/
def k3 : Class := { plain "java/lang/Cloneable" (some 0) with
  accessFlags := 1537
  interfaces := #[]
  cf := some (fileOf pool3 2 #[] #[] 1537 4 #[] #[])
  fields := #[]
  methods := #[]
  instanceTypes := #[]
  staticTypes := #[]
  resolved := Array.replicate 8 none
  statics := none }

def pool4 : Array CpInfo := pool [(1, u "java/io/Serializable"), (0, .class_ 1), (0, u "java/lang/Object"), (0, .class_ 3)] 3

/-- java/io/Serializable -/
def k4 : Class := { plain "java/io/Serializable" (some 0) with
  accessFlags := 1537
  interfaces := #[]
  cf := some (fileOf pool4 2 #[] #[] 1537 4 #[] #[])
  fields := #[]
  methods := #[]
  instanceTypes := #[]
  staticTypes := #[]
  resolved := Array.replicate 8 none
  statics := none }

/-- the primitive byte -/
def k5 : Class := { plain "byte" none with kind := .primitive 'B', accessFlags := 0x411 }
/-- [B -/
def k6 : Class := { plain "[B" (some 0) with kind := .array 5 .byte, interfaces := #[3, 4], accessFlags := 1041 }

/-- the primitive int -/
def k7 : Class := { plain "int" none with kind := .primitive 'I', accessFlags := 0x411 }
/-- [I -/
def k8 : Class := { plain "[I" (some 0) with kind := .array 7 .int, interfaces := #[3, 4], accessFlags := 1041 }

def heap : Heap := #[]
def classes : Array Class := #[k0, k1, k2, k3, k4, k5, k6, k7, k8]
def interned : List (Array UInt16 × Addr) := []
def slotsUsed : Nat := 0
def theMethod : MethodId := ⟨1, 1⟩
def args0 : Array Value := #[.int 12345, .int 777, .int 9]
def aboutOver (below : List Frame) : State where
  vm := { classes := classes, interned := interned.toArray }
  heap := heap
  slotsUsed := slotsUsed
  threads := #[{ frames := .invoking theMethod args0 :: below }]
def below0 : List Frame := [.native { method := ⟨0, 0⟩, args := #[] }]
def about1 : State := aboutOver below0
def p0 : Program := .bare "" "" ""
def e0 : Env := launch0.env 0 0 0
theorem w_frames : about1.frames = Frame.invoking theMethod args0 :: below0 := rfl
set_option maxRecDepth 65536 in
theorem w_args : argsFit about1.vm theMethod args0 = true := by decide +kernel
set_option maxRecDepth 65536 in
theorem w_heap : heapFits about1 = true := by decide +kernel
set_option maxRecDepth 65536 in
theorem w_runnable : about1.curStatus? = some .runnable := by decide +kernel
set_option maxRecDepth 65536 in
theorem w_alone : about1.alone = true := by decide +kernel
set_option maxRecDepth 65536 in
theorem w_named : about1.methodNamed? x = some theMethod := by decide +kernel
set_option maxRecDepth 65536 in
theorem w_hears : about1.hears theMethod below0 = true := by decide +kernel
set_option maxRecDepth 65536 in
theorem w_ripe : about1.ripe theMethod args0 below0 = true := by decide +kernel
theorem w_running : about1.status = .running := rfl
set_option maxRecDepth 65536 in
theorem w_room : about1.hasRoom e0.platform room_1 = true :=
  launch0.hasRoom_least _ room_1 (by decide +kernel) (by decide +kernel) (by decide +kernel) (by decide +kernel) (by decide +kernel) (by decide +kernel)
theorem allAtoms_all (ts : List Jvm.Cond) (a : Array Jvm.Value) (st : Jvm.State) : (allAtoms ts).before a st = ts.all (fun c => c.before a st) := by
  induction ts with
  | nil => rfl
  | cons c t ih =>
    show (Jvm.Cond.and c (allAtoms t)).before a st = _
    rw [Jvm.Cond.before_and, ih, List.all_cons]
def words1 : List Jvm.Cond := Jvm.Cond.code x code maxLocals ret :: tables_1
/-- a 'code' word, met by the world's own term for the bytes: nothing is compared byte by byte -/
theorem code_word {y : MethodName} {bytes : ByteArray} {mx : Nat} {rt : Option FieldType} {a : Array Value} {s : State} {m : MethodId} {meth : Method} {c : Code} (h1 : s.methodNamed? y = some m) (h2 : s.vm.method? m = some meth) (h3 : meth.code = some c) (h4 : c.code = bytes)
    (h5 : (c.maxLocals == mx && c.exceptionTable.isEmpty && decide (c.maxStack ≤ mostOperands) && decide (meth.sig.returnType = rt) && !meth.locks && decide (parseMethodDescriptor y.desc = some meth.sig)) = true) : (Jvm.Cond.code y bytes mx rt).before a s = true := by
  simp only [Bool.and_eq_true, beq_iff_eq, Bool.not_eq_true', decide_eq_true_eq] at h5
  obtain ⟨⟨⟨⟨⟨g1, g2⟩, g3⟩, g4⟩, g5⟩, g6⟩ := h5
  simp [Cond.before, Cond.holds, Cond.value, h1, h2, h3, h4, g1, g2, g3, g4, g5, g6]
def isCode : Jvm.Cond → Bool
  | .code _ _ _ _ => true
  | _ => false
theorem all_split {L : List Jvm.Cond} {P : Jvm.Cond → Bool} (h1 : L.all (fun c => isCode c || P c) = true) (h2 : ∀ c ∈ L.filter isCode, P c = true) : L.all P = true := by
  refine List.all_eq_true.mpr fun c hc => ?_
  have h := List.all_eq_true.mp h1 c hc
  rcases Bool.eq_false_or_eq_true (isCode c) with hi | hi
  · exact h2 c (List.mem_filter.mpr ⟨hc, hi⟩)
  · simpa [hi] using h
set_option maxRecDepth 65536 in
theorem w_c0 : (Jvm.Cond.code x code maxLocals ret).before args0 about1 = true := code_word (m := ⟨1, 1⟩) (meth := k1m1) (c := k1c1) (by decide +kernel) rfl rfl rfl (by decide +kernel)
set_option maxRecDepth 65536 in
theorem w_c1 : (Jvm.Cond.code ({ cls := "com/example/cranfield/cranfield/engine/ByteReader", name := "<init>", desc := "([BII)V" } : Jvm.MethodName) prog_2_method_1_code (4 : Nat) (Option.none : Option Jvm.ClassFile.FieldType)).before args0 about1 = true := code_word (m := ⟨2, 0⟩) (meth := k2m0) (c := k2c0) (by decide +kernel) rfl rfl rfl (by decide +kernel)
set_option maxRecDepth 65536 in
theorem w_c2 : (Jvm.Cond.code ({ cls := "java/lang/Object", name := "<init>", desc := "()V" } : Jvm.MethodName) object_method_1_code (1 : Nat) (Option.none : Option Jvm.ClassFile.FieldType)).before args0 about1 = true := code_word (m := ⟨0, 0⟩) (meth := k0m0) (c := k0c0) (by decide +kernel) rfl rfl rfl (by decide +kernel)
set_option maxRecDepth 65536 in
theorem w_c3 : (Jvm.Cond.code ({ cls := "com/example/cranfield/cranfield/engine/ByteReader", name := "hasRemaining", desc := "()Z" } : Jvm.MethodName) prog_2_method_2_code (1 : Nat) (Option.some Jvm.ClassFile.FieldType.boolean)).before args0 about1 = true := code_word (m := ⟨2, 1⟩) (meth := k2m1) (c := k2c1) (by decide +kernel) rfl rfl rfl (by decide +kernel)
set_option maxRecDepth 65536 in
theorem w_c4 : (Jvm.Cond.code ({ cls := "com/example/cranfield/cranfield/engine/ByteReader", name := "readVarInt", desc := "()I" } : Jvm.MethodName) prog_2_method_3_code (4 : Nat) (Option.some Jvm.ClassFile.FieldType.int)).before args0 about1 = true := code_word (m := ⟨2, 2⟩) (meth := k2m2) (c := k2c2) (by decide +kernel) rfl rfl rfl (by decide +kernel)
def codes1 : List Jvm.Cond := [Jvm.Cond.code x code maxLocals ret, Jvm.Cond.code ({ cls := "com/example/cranfield/cranfield/engine/ByteReader", name := "<init>", desc := "([BII)V" } : Jvm.MethodName) prog_2_method_1_code (4 : Nat) (Option.none : Option Jvm.ClassFile.FieldType), Jvm.Cond.code ({ cls := "java/lang/Object", name := "<init>", desc := "()V" } : Jvm.MethodName) object_method_1_code (1 : Nat) (Option.none : Option Jvm.ClassFile.FieldType), Jvm.Cond.code ({ cls := "com/example/cranfield/cranfield/engine/ByteReader", name := "hasRemaining", desc := "()Z" } : Jvm.MethodName) prog_2_method_2_code (1 : Nat) (Option.some Jvm.ClassFile.FieldType.boolean), Jvm.Cond.code ({ cls := "com/example/cranfield/cranfield/engine/ByteReader", name := "readVarInt", desc := "()I" } : Jvm.MethodName) prog_2_method_3_code (4 : Nat) (Option.some Jvm.ClassFile.FieldType.int)]
set_option maxRecDepth 65536 in
theorem codes_eq : words1.filter isCode = codes1 := rfl
theorem w_codes : ∀ c ∈ words1.filter isCode, c.before args0 about1 = true := by
  rw [codes_eq]
  intro c hc
  simp only [codes1, List.mem_cons, List.not_mem_nil, or_false] at hc
  rcases hc with rfl | rfl | rfl | rfl | rfl
  · exact w_c0
  · exact w_c1
  · exact w_c2
  · exact w_c3
  · exact w_c4
set_option maxRecDepth 65536 in
theorem w_t1 : (words1.take 24).all (fun c => isCode c || c.before args0 about1) = true := by decide +kernel
set_option maxRecDepth 65536 in
theorem w_t2 : (words1.drop 24).all (fun c => isCode c || c.before args0 about1) = true := by decide +kernel
theorem w_tables : (allAtoms (Jvm.Cond.code x code maxLocals ret :: tables_1)).before args0 about1 = true := by
  rw [allAtoms_all]
  show words1.all (fun c => c.before args0 about1) = true
  refine all_split ?_ w_codes
  rw [← List.take_append_drop 24 words1, List.all_append, w_t1, w_t2]
  rfl
set_option maxRecDepth 65536 in
theorem w_case : (Jvm.Cond.and given_1 narrow_1).before args0 about1 = true := by decide +kernel
theorem w_applies : (headSpec (Jvm.Cond.code x code maxLocals ret :: tables_1) room_1).applies x e0.platform about1 = true :=
  (Spec.applies_iff w_frames).mpr ⟨w_running, w_runnable, w_alone, w_named, w_hears, w_ripe, w_room, w_tables⟩
theorem atStart : AtStart classFile x code maxLocals ret World_1 tables_1 room_1 Calls_1 rest_1 Pre_1 launch0 p0 e0 about1 theMethod args0 below0 :=
  ⟨lists_1, trivial, launch0.admits_env _ _ _, launch0.least_env, fairChoices_fair.cas, fairChoices_fair.clock, w_frames, w_args, w_heap, w_applies, trivial, trivial, w_case⟩
end start1
theorem witness_1 : WitnessClaimed_1 := ⟨start1.p0, start1.e0, start1.about1, start1.theMethod, start1.args0, start1.below0, start1.atStart⟩
end Jvm.Pilot.@@N@@
