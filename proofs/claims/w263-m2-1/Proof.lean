import JvmDerived
import JvmDerived.Pilot.@@N@@Statement
import JvmDerived.Pilot.@@N@@Code
set_option linter.unusedVariables false
set_option linter.unusedSimpArgs false
namespace Jvm.RoadKit
open Sem ClassFile Op Lib Jvm.Stand Jvm.Free Jvm.LawKit
section OwnKit
variable {p : Program} {l : Launch} {e : Env} {R : Room} {s : State} {m : MethodId} {args : Array Value} {below : List Frame} {meth : Method} {c : Code} {T : State} {locs : List Loc} {cells slots : Nat}
theorem retI (X : Stand p l e R s m args below meth c T locs cells slots) (hx : p.tables.exec = Jvm.exec) {pc : Nat} {Ls : Array Slot} {z : Int32} {rest : List Value} (hret : meth.sig.returnType = some .int) (hd : decode c.code pc = .ok (.ireturn, 1)) {fs : List Frame}
    (hl : ∀ (f : JFrame) (acts : List Action), f.method = m → f.locked = none → f.entered = [] → (doReturn e (T.setTop f) acts (some (.int z))).1 = T.setFrames fs) : Steps p.tables e below (T.setTop (mkF m pc Ls (.int z :: rest))) (T.setFrames fs) := by
  have hm' : T.vm.method? m = some meth := X.method'
  have hn : narrow .int (.int z) = .int z := rfl
  show Steps p.tables e below (T.setTop { method := m, pc := pc, locals := Ls, stack := _ :: rest, locked := none }) _
  jvm_step X.here [X.here.top, hx, hd, hm', hret, hn]
  first | (intro acts; rw [hl _ acts rfl rfl rfl]) | rw [hl _ _ rfl rfl rfl]
  exact Steps.refl _
/-- from this state and frame the run comes to an end that P says -/
def own_Go (tb : Tables) (e : Env) (below : List Frame) (P : State → Outcome → Prop) (T : State) (g : JFrame) : Prop := ∃ s₂ o, Steps tb e below (T.setTop g) s₂ ∧ P s₂ o
theorem own_go {tb : Tables} {P : State → Outcome → Prop} {T' : State} {g g' : JFrame} (st : ∀ t, Steps tb e below (T'.setTop g') t → Steps tb e below (T.setTop g) t) (k : own_Go tb e below P T' g') : own_Go tb e below P T g := by
  obtain ⟨s, o, h, q⟩ := k
  exact ⟨s, o, st s h, q⟩
/-- how a body ends: what it returned, its heap and the places that it wrote stand in Q -/
def own_P (below : List Frame) (s : State) (Q : Option Value → Heap → List Loc → Prop) (k n : Nat) (s₂ : State) (o : Outcome) : Prop := s₂.status = .running ∧ Ended s₂ below o ∧ ∃ v L, o = .returned v ∧ Q v s₂.heap L ∧ FrameEnd s o s₂ L k n
theorem own_leave (X : Stand p l e R s m args below meth c T locs cells slots) {Q : Option Value → Heap → List Loc → Prop} {k n : Nat} {v : Option Value} {g : JFrame} (hlk : meth.locks = false) (hv : meth.sig.returnType = none → v = none) (hq : Q v T.heap locs) (hk : cells ≤ k) (hn : slots ≤ n)
    (hst : ∀ fs, (∀ (f : JFrame) (acts : List Action), f.method = m → f.locked = none → f.entered = [] → (doReturn e (T.setTop f) acts v).1 = T.setFrames fs) → Steps p.tables e below (T.setTop g) (T.setFrames fs)) : own_Go p.tables e below (own_P below s Q k n) T g := by
  obtain ⟨fs, hr, hrun, hended, hW, hsame⟩ := X.leave (v := v) hv hlk
  exact ⟨_, _, hst fs hr, hrun, hended, _, _, rfl, hq, ⟨_, rfl⟩, hW, hsame.mono hk hn⟩
section Rets
variable {Q : Option Value → Heap → List Loc → Prop} {k n : Nat} {pc : Nat} {Ls : Array Slot} {rest : List Value}
theorem own_retI (X : Stand p l e R s m args below meth c T locs cells slots) (hx : p.tables.exec = Jvm.exec) {z : Int32} (hret : meth.sig.returnType = some .int) (hlk : meth.locks = false) (hd : decode c.code pc = .ok (.ireturn, 1)) (hk : cells ≤ k) (hn : slots ≤ n) (hq : Q (some (.int z)) T.heap locs) : own_Go p.tables e below (own_P below s Q k n) T (mkF m pc Ls (.int z :: rest)) :=
  own_leave X hlk (fun h => by rw [hret] at h; cases h) hq hk hn (fun fs hr => retI X hx hret hd hr)
theorem own_retN (X : Stand p l e R s m args below meth c T locs cells slots) (hx : p.tables.exec = Jvm.exec) {z : Int32} {t : FieldType} (hret : meth.sig.returnType = some t) (ht : t = .boolean ∨ t = .byte ∨ t = .char ∨ t = .short) (hlk : meth.locks = false) (hd : decode c.code pc = .ok (.ireturn, 1)) (hk : cells ≤ k) (hn : slots ≤ n) (hq : Q (some (.int (nar t z))) T.heap locs) : own_Go p.tables e below (own_P below s Q k n) T (mkF m pc Ls (.int z :: rest)) :=
  own_leave X hlk (fun h => by rw [hret] at h; cases h) hq hk hn (fun fs hr => retN X hx hret ht hd hr)
theorem own_retJ (X : Stand p l e R s m args below meth c T locs cells slots) (hx : p.tables.exec = Jvm.exec) {z : Int64} (hret : meth.sig.returnType = some .long) (hlk : meth.locks = false) (hd : decode c.code pc = .ok (.lreturn, 1)) (hk : cells ≤ k) (hn : slots ≤ n) (hq : Q (some (.long z)) T.heap locs) : own_Go p.tables e below (own_P below s Q k n) T (mkF m pc Ls (.long z :: rest)) :=
  own_leave X hlk (fun h => by rw [hret] at h; cases h) hq hk hn (fun fs hr => retOut X hx hret rfl (Or.inr (Or.inl ⟨rfl, rfl, z, rfl⟩)) hd hr)
theorem own_narR {t : FieldType} {v : Value} (ht : t.isReference = true) : narrow t v = v := by
  cases t <;> simp [FieldType.isReference] at ht <;> rfl
theorem own_retR (X : Stand p l e R s m args below meth c T locs cells slots) (hx : p.tables.exec = Jvm.exec) {z : Value} {t : FieldType} (hret : meth.sig.returnType = some t) (ht : t.isReference = true) (hz : z.isRef = true) (hlk : meth.locks = false) (hd : decode c.code pc = .ok (.areturn, 1)) (hk : cells ≤ k) (hn : slots ≤ n) (hq : Q (some z) T.heap locs) : own_Go p.tables e below (own_P below s Q k n) T (mkF m pc Ls (z :: rest)) :=
  own_leave X hlk (fun h => by rw [hret] at h; cases h) hq hk hn (fun fs hr => retOut X hx hret (own_narR ht) (Or.inr (Or.inr (Or.inr (Or.inr ⟨rfl, ht, hz⟩)))) hd hr)
theorem own_retV (X : Stand p l e R s m args below meth c T locs cells slots) (hx : p.tables.exec = Jvm.exec) (hret : meth.sig.returnType = none) (hlk : meth.locks = false) (hd : decode c.code pc = .ok (.return_, 1)) (hk : cells ≤ k) (hn : slots ≤ n) (hq : Q none T.heap locs) : own_Go p.tables e below (own_P below s Q k n) T (mkF m pc Ls []) :=
  own_leave X hlk (fun _ => rfl) hq hk hn (fun fs hr => X.returnOut hx hret hd hr)
end Rets
/-- a body's contract at one call: its arguments, the heap at the call, what it leaves -/
abbrev own_Met (l : Launch) (y : MethodName) (bytes : ByteArray) (maxL : Nat) (ret : Option FieldType) (ws : List Cond) (rm : Room) (Z : State) (as' : Array Value) (h0 : Heap) (Q : Option Value → Heap → List Loc → Prop) : Prop :=
  MetFree l y (head1 (Cond.code y bytes maxL ret :: ws) rm) (fun a U => a = as' ∧ Z.Warmed39 U.vm ∧ U.heap = h0) (fun _ _ _ _ _ => True) (fun _ U o U' => ∃ v L, o = .returned v ∧ Q v U'.heap L ∧ FrameEnd U o U' L rm.cells rm.slots)
theorem own_body {y : MethodName} {bytes : ByteArray} {maxL : Nat} {ret : Option FieldType} {ws : List Cond} {rm : Room} {Z : State} {as' : Array Value} {h0 : Heap} {Q : Option Value → Heap → List Loc → Prop} (hpl : plainFor y = true)
    (H : ∀ (p : Program) (e : Env) (s : State) (m : MethodId) (below : List Frame) (meth : Method) (c : Code) (s₁ : State), Stand p l e rm s m as' below meth c s₁ [] 0 0 → p.tables.exec = Jvm.exec → c.code = bytes → c.maxLocals = maxL → s.vm.findClass y.cls = some m.cls → meth.name = y.name → meth.sig.returnType = ret → meth.locks = false → Z.Warmed39 s.vm → s₁.heap = h0 → own_Go p.tables e below (own_P below s Q rm.cells rm.slots) s₁ (entryFrame m as' maxL)) :
    own_Met l y bytes maxL ret ws rm Z as' h0 Q := by
  refine MetFree.of_bodySF hpl hisR ?_
  intro p e s m args below meth c s₁ Bd hml hP hK
  obtain ⟨rfl, hZ, hh⟩ := hP
  exact H p e s m below meth c s₁ (Stand.of_body Bd) Bd.exec Bd.bytes hml (findClass_of_methodNamed Bd.named) (name_of_methodNamed Bd.named Bd.method).1 Bd.returns Bd.notSynchronized hZ (by rw [← hh, Bd.state]; rfl)
theorem own_cast {tb : Tables} {P : State → Outcome → Prop} {g g' : JFrame} (q : g = g') (k : own_Go tb e below P T g') : own_Go tb e below P T g := q ▸ k
section Calls
variable {Z : State} {a0 : Array Value} {h : Heap} {own : String} {index : Nat} {y : MethodName} {bytes : ByteArray} {maxL : Nat} {ret : Option FieldType} {rm : Room} {Q : Option Value → Heap → List Loc → Prop}
theorem own_callS (X : Stand p l e R s m args below meth c T locs cells slots) (hx : p.tables.exec = Jvm.exec) (hZ : Z.Warmed39 s.vm) (hown : s.vm.findClass own = some m.cls) (w1 : (Cond.methodLink own index y).before a0 Z = true) (w2 : (Cond.static y).before a0 Z = true) (w3 : (Cond.initialized y.cls).before a0 Z = true) (w4 : (Cond.code y bytes maxL ret).before a0 Z = true)
    (hy : y.cls ≠ "java/lang/invoke/MethodHandle" ∧ y.cls ≠ "java/lang/invoke/VarHandle") (eT : T.heap = h) {argsL rest : List Value} (hM : own_Met l y bytes maxL ret [] rm Z argsL.toArray h Q) (W : Nat) (hf : rm.frames + 1 ≤ R.frames) (hl : W + (maxL + 11) + rm.locals ≤ R.locals) (hc : cells + rm.cells ≤ R.cells) (hs : slots + rm.slots ≤ R.slots)
    {g : JFrame} (hg : g.method = m) (hsize : g.locals.size = c.maxLocals) (hlen : ∀ sig, parseMethodDescriptor y.desc = some sig → argsL.length = sig.parameters.length) (hstack : g.stack = argsL.reverse ++ rest) (hW : 2 * g.monitorRoom + (rest.map fun v => v.category).sum ≤ W) (hdg : decode c.code g.pc = .ok (.invokestatic index, 3)) :
    ∃ (v : Option Value) (T' : State) (h' : Heap) (L : List Loc), Stand p l e R s m args below meth c T' (locs ++ L) (cells + rm.cells) (slots + rm.slots) ∧ T'.heap = h' ∧ Q v h' L ∧ ∀ t, Steps p.tables e below (T'.setTop { g with pc := g.pc + 3, stack := v.toList ++ rest }) t → Steps p.tables e below (T.setTop g) t := by
  obtain ⟨v, _, ⟨T', L', k', n'⟩, -, X', ⟨Lc, hQ, l', y', z'⟩, st⟩ := Jvm.LawKit.callS X hx hown (mvT hZ w1) (mvT hZ w2) (mvT hZ w3) (mvT hZ w4) hy (backOf (W := W) hM hZ w4 w3 hf hl) hg hsize hlen hstack hW hdg (fun _ _ => ⟨rfl, eT, hc, hs⟩)
  dsimp only [Pt.U, Pt.locs, Pt.cells, Pt.slots] at X' l' y' z' st hQ
  subst l' y' z'
  exact ⟨v, T', _, Lc, X', rfl, hQ, st⟩
theorem own_callI (X : Stand p l e R s m args below meth c T locs cells slots) (hx : p.tables.exec = Jvm.exec) (hZ : Z.Warmed39 s.vm) (hn : y.name = "<init>") (hown : s.vm.findClass own = some m.cls) (w1 : (Cond.methodLink own index y).before a0 Z = true) (w2 : (Cond.instanceMethod y).before a0 Z = true) (w3 : (Cond.initialized y.cls).before a0 Z = true) (w4 : (Cond.code y bytes maxL none).before a0 Z = true)
    (hy : y.cls ≠ "java/lang/invoke/MethodHandle" ∧ y.cls ≠ "java/lang/invoke/VarHandle") (eT : T.heap = h) {a : Addr} {argsL rest : List Value} (hM : own_Met l y bytes maxL none [] rm Z (.ref a :: argsL).toArray h Q) (W : Nat) (hf : rm.frames + 1 ≤ R.frames) (hl : W + (maxL + 11) + rm.locals ≤ R.locals) (hc : cells + rm.cells ≤ R.cells) (hs : slots + rm.slots ≤ R.slots)
    {g : JFrame} (hg : g.method = m) (hsize : g.locals.size = c.maxLocals) (hlen : ∀ sig, parseMethodDescriptor y.desc = some sig → argsL.length = sig.parameters.length) (hstack : g.stack = argsL.reverse ++ .ref a :: rest) (hW : 2 * g.monitorRoom + (rest.map fun v => v.category).sum ≤ W) (hdg : decode c.code g.pc = .ok (.invokespecial index, 3)) :
    ∃ (v : Option Value) (T' : State) (h' : Heap) (L : List Loc), Stand p l e R s m args below meth c T' (locs ++ L) (cells + rm.cells) (slots + rm.slots) ∧ T'.heap = h' ∧ Q v h' L ∧ ∀ t, Steps p.tables e below (T'.setTop { g with pc := g.pc + 3, stack := v.toList ++ rest }) t → Steps p.tables e below (T.setTop g) t := by
  obtain ⟨v, _, ⟨T', L', k', n'⟩, -, X', ⟨Lc, hQ, l', y', z'⟩, st⟩ := X.specialBack hx hn hown (mvT hZ w1) (mvT hZ w2) (mvT hZ w4) hy (backOf (W := W) hM hZ w4 w3 hf hl) hg hsize (Steps.refl _) hlen hstack hW hdg (fun _ _ => ⟨rfl, eT, hc, hs⟩)
  dsimp only [Pt.U, Pt.locs, Pt.cells, Pt.slots] at X' l' y' z' st hQ
  subst l' y' z'
  exact ⟨v, T', _, Lc, X', rfl, hQ, fun t k => st.trans k⟩
theorem own_callV {C : String} {z : MethodName} (X : Stand p l e R s m args below meth c T locs cells slots) (hx : p.tables.exec = Jvm.exec) (hZ : Z.Warmed39 s.vm) (hown : s.vm.findClass own = some m.cls) (w1 : (Cond.methodLink own index y).before a0 Z = true) (w2 : (Cond.declares y).before a0 Z = true) (w3 : (Cond.selects C y z).before a0 Z = true) (hnf : NotFace s y) (w5 : (Cond.instanceMethod z).before a0 Z = true) (w6 : (Cond.initialized z.cls).before a0 Z = true) (w4 : (Cond.code z bytes maxL ret).before a0 Z = true)
    (hy : y.cls ≠ "java/lang/invoke/MethodHandle" ∧ y.cls ≠ "java/lang/invoke/VarHandle") (eT : T.heap = h) {a : Addr} (E : Exa Z h a C) {argsL rest : List Value} (hM : own_Met l z bytes maxL ret [] rm Z (.ref a :: argsL).toArray h Q) (W : Nat) (hf : rm.frames + 1 ≤ R.frames) (hl : W + (maxL + 11) + rm.locals ≤ R.locals) (hc : cells + rm.cells ≤ R.cells) (hs : slots + rm.slots ≤ R.slots)
    {g : JFrame} (hg : g.method = m) (hsize : g.locals.size = c.maxLocals) (hlen : ∀ sig, parseMethodDescriptor y.desc = some sig → argsL.length = sig.parameters.length) (hstack : g.stack = argsL.reverse ++ .ref a :: rest) (hW : 2 * g.monitorRoom + (rest.map fun v => v.category).sum ≤ W) (hdg : decode c.code g.pc = .ok (.invokevirtual index, 3)) :
    ∃ (v : Option Value) (T' : State) (h' : Heap) (L : List Loc), Stand p l e R s m args below meth c T' (locs ++ L) (cells + rm.cells) (slots + rm.slots) ∧ T'.heap = h' ∧ Q v h' L ∧ ∀ t, Steps p.tables e below (T'.setTop { g with pc := g.pc + 3, stack := v.toList ++ rest }) t → Steps p.tables e below (T.setTop g) t := by
  obtain ⟨cq, kq, qa, qb, qc⟩ := isOf hZ eT E
  obtain ⟨v, _, ⟨T', L', k', n'⟩, -, X', ⟨Lc, hQ, l', y', z'⟩, st⟩ := X.virtualBack hx hown (mvT hZ w1) (mvT hZ w2) hnf (mvT hZ w3) (mvT hZ w5) hy (backOf (W := W) hM hZ w4 w6 hf hl) qa qc hg hsize (Steps.refl _) hlen hstack hW hdg (fun _ _ => ⟨rfl, eT, hc, hs⟩)
  dsimp only [Pt.U, Pt.locs, Pt.cells, Pt.slots] at X' l' y' z' st hQ
  subst l' y' z'
  exact ⟨v, T', _, Lc, X', rfl, hQ, fun t k => st.trans k⟩
theorem own_callP (X : Stand p l e R s m args below meth c T locs cells slots) (hx : p.tables.exec = Jvm.exec) (hZ : Z.Warmed39 s.vm) (hown : s.vm.findClass own = some m.cls) (w1 : (Cond.methodLink own index y).before a0 Z = true) (w2 : (Cond.instanceMethod y).before a0 Z = true) (w3 : (Cond.selects y.cls y y).before a0 Z = true) (w5 : (Cond.privateMethod y).before a0 Z = true) (w6 : (Cond.initialized y.cls).before a0 Z = true) (w4 : (Cond.code y bytes maxL ret).before a0 Z = true)
    (hy : y.cls ≠ "java/lang/invoke/MethodHandle" ∧ y.cls ≠ "java/lang/invoke/VarHandle") (eT : T.heap = h) {a : Addr} {C : String} (E : Exa Z h a C) {argsL rest : List Value} (hM : own_Met l y bytes maxL ret [] rm Z (.ref a :: argsL).toArray h Q) (W : Nat) (hf : rm.frames + 1 ≤ R.frames) (hl : W + (maxL + 11) + rm.locals ≤ R.locals) (hc : cells + rm.cells ≤ R.cells) (hs : slots + rm.slots ≤ R.slots)
    {g : JFrame} (hg : g.method = m) (hsize : g.locals.size = c.maxLocals) (hlen : ∀ sig, parseMethodDescriptor y.desc = some sig → argsL.length = sig.parameters.length) (hstack : g.stack = argsL.reverse ++ .ref a :: rest) (hW : 2 * g.monitorRoom + (rest.map fun v => v.category).sum ≤ W) (hdg : decode c.code g.pc = .ok (.invokevirtual index, 3)) :
    ∃ (v : Option Value) (T' : State) (h' : Heap) (L : List Loc), Stand p l e R s m args below meth c T' (locs ++ L) (cells + rm.cells) (slots + rm.slots) ∧ T'.heap = h' ∧ Q v h' L ∧ ∀ t, Steps p.tables e below (T'.setTop { g with pc := g.pc + 3, stack := v.toList ++ rest }) t → Steps p.tables e below (T.setTop g) t := by
  obtain ⟨cq, q1, q2⟩ := E.cell
  obtain ⟨v, _, ⟨T', L', k', n'⟩, -, X', ⟨Lc, hQ, l', y', z'⟩, st⟩ := X.privateBack hx hown (mvT hZ w1) (mvT hZ w2) (mvT hZ w3) (Cond.privateMethod_at (mvP hZ w5 (args := #[]))) (mvT hZ w4) hy (backOf (W := W) hM hZ w4 w6 hf hl) hg hsize (Steps.refl _) (by rw [eT]; exact q1) q2 hlen hstack hW hdg (fun _ _ => ⟨rfl, eT, hc, hs⟩)
  dsimp only [Pt.U, Pt.locs, Pt.cells, Pt.slots] at X' l' y' z' st hQ
  subst l' y' z'
  exact ⟨v, T', _, Lc, X', rfl, hQ, fun t k => st.trans k⟩
theorem own_callF {C : String} {z : MethodName} {count : Nat} (X : Stand p l e R s m args below meth c T locs cells slots) (hx : p.tables.exec = Jvm.exec) (hZ : Z.Warmed39 s.vm) (hown : s.vm.findClass own = some m.cls) (w1 : (Cond.methodLink own index y).before a0 Z = true) (w2 : (Cond.declares y).before a0 Z = true) (w3 : (Cond.interfaceMethod y.cls y.cls y.name y.desc).before args s = true) (w5 : (Cond.selects C y z).before a0 Z = true) (w7 : (Cond.instanceMethod z).before a0 Z = true) (w8 : (Cond.publicMethod z).before a0 Z = true) (w9 : (Cond.unhidden C y.name y.desc).before a0 Z = true) (w10 : (Cond.castable C y.cls).before a0 Z = true) (w6 : (Cond.initialized z.cls).before a0 Z = true) (w4 : (Cond.code z bytes maxL ret).before a0 Z = true)
    (hy : y.cls ≠ "java/lang/invoke/MethodHandle" ∧ y.cls ≠ "java/lang/invoke/VarHandle") (eT : T.heap = h) {a : Addr} (E : Exa Z h a C) {argsL rest : List Value} (hM : own_Met l z bytes maxL ret [] rm Z (.ref a :: argsL).toArray h Q) (W : Nat) (hf : rm.frames + 1 ≤ R.frames) (hl : W + (maxL + 11) + rm.locals ≤ R.locals) (hc : cells + rm.cells ≤ R.cells) (hs : slots + rm.slots ≤ R.slots)
    {g : JFrame} (hg : g.method = m) (hsize : g.locals.size = c.maxLocals) (hlen : ∀ sig, parseMethodDescriptor y.desc = some sig → argsL.length = sig.parameters.length) (hstack : g.stack = argsL.reverse ++ .ref a :: rest) (hW : 2 * g.monitorRoom + (rest.map fun v => v.category).sum ≤ W) (hdg : decode c.code g.pc = .ok (.invokeinterface index count, 5)) :
    ∃ (v : Option Value) (T' : State) (h' : Heap) (L : List Loc), Stand p l e R s m args below meth c T' (locs ++ L) (cells + rm.cells) (slots + rm.slots) ∧ T'.heap = h' ∧ Q v h' L ∧ ∀ t, Steps p.tables e below (T'.setTop { g with pc := g.pc + 5, stack := v.toList ++ rest }) t → Steps p.tables e below (T.setTop g) t := by
  obtain ⟨cq, kq, qa, qb, qc⟩ := isOf hZ eT E
  obtain ⟨v, _, ⟨T', L', k', n'⟩, -, X', ⟨Lc, hQ, l', y', z'⟩, st⟩ := X.interfaceBack hx hown (mvT hZ w1) (mvT hZ w2) w3 (mvT hZ w5) (mvT hZ w7) (mvT hZ w8) (mvT hZ w9) (mvT hZ w10) hy (backOf (W := W) hM hZ w4 w6 hf hl) qa qb qc hg hsize (Steps.refl _) hlen hstack hW hdg (fun _ _ => ⟨rfl, eT, hc, hs⟩)
  dsimp only [Pt.U, Pt.locs, Pt.cells, Pt.slots] at X' l' y' z' st hQ
  subst l' y' z'
  exact ⟨v, T', _, Lc, X', rfl, hQ, fun t k => st.trans k⟩
end Calls
end OwnKit
end Jvm.RoadKit
namespace Jvm.Pilot.@@N@@
open Jvm Jvm.ClassFile Sem Op Lib Jvm.Free Jvm.Stand Jvm.LawKit Jvm.RoadKit Bundle Jvm.Pilot.@@N@@.Jvm.D
def own_holds (f u x : Int64) : Int32 := if x < f then (0 : Int32) else if x < u then (1 : Int32) else (0 : Int32)
def own_max (a b : Int64) : Int64 := if a < b then b else a
def own_min (a b : Int64) : Int64 := if b < a then b else a
theorem own_max_iff {f x : Int64} : own_max f x = x ↔ ¬ x < f := by
  by_cases h : f < x
  · rw [own_max, if_pos h]
    rw [Int64.lt_iff_toInt_lt] at h ⊢
    exact ⟨fun _ => by omega, fun _ => rfl⟩
  · rw [own_max, if_neg h]
    rw [Int64.lt_iff_toInt_lt] at h ⊢
    exact ⟨fun q => by rw [q]; omega, fun q => Int64.toInt_inj.mp (by omega)⟩
theorem own_min_iff {x u : Int64} : own_min x u = x ↔ ¬ u < x := by
  by_cases h : u < x
  · rw [own_min, if_pos h]
    exact ⟨fun q => by rw [Int64.lt_iff_toInt_lt, q]; omega, fun q => absurd h q⟩
  · rw [own_min, if_neg h]
    exact ⟨fun _ => h, fun _ => rfl⟩
theorem own_h1 {f u x : Int64} (hA : own_max f x = x) (hB : own_min x u = x) (hC : ¬ x = u) : own_holds f u x = (1 : Int32) := by
  have a := own_max_iff.mp hA
  have b := own_min_iff.mp hB
  have c : ¬ x.toInt = u.toInt := fun q => hC (Int64.toInt_inj.mp q)
  rw [own_holds, if_neg a, if_pos]
  rw [Int64.lt_iff_toInt_lt] at b ⊢
  omega
theorem own_h0 {f u x : Int64} (h : ¬ own_max f x = x ∨ ¬ own_min x u = x ∨ x = u) : own_holds f u x = (0 : Int32) := by
  by_cases a : x < f
  · rw [own_holds, if_pos a]
  · have hA := own_max_iff.mpr a
    rw [own_holds, if_neg a, if_neg]
    rcases h with h | h | h
    · exact absurd hA h
    · intro q
      exact h (own_min_iff.mpr (by rw [Int64.lt_iff_toInt_lt] at q ⊢; omega))
    · subst h
      rw [Int64.lt_iff_toInt_lt]
      omega
theorem d1_0 : decode prog_4_method_1_code 0 = .ok (.aload_n 0, 1) := by decide +kernel
theorem d1_1 : decode prog_4_method_1_code 1 = .ok (.invokespecial 1, 3) := by decide +kernel
theorem d1_4 : decode prog_4_method_1_code 4 = .ok (.aload_n 0, 1) := by decide +kernel
theorem d1_5 : decode prog_4_method_1_code 5 = .ok (.lload_n 1, 1) := by decide +kernel
theorem d1_6 : decode prog_4_method_1_code 6 = .ok (.putfield 7, 3) := by decide +kernel
theorem d1_9 : decode prog_4_method_1_code 9 = .ok (.aload_n 0, 1) := by decide +kernel
theorem d1_10 : decode prog_4_method_1_code 10 = .ok (.lload_n 3, 1) := by decide +kernel
theorem d1_11 : decode prog_4_method_1_code 11 = .ok (.putfield 13, 3) := by decide +kernel
theorem d1_14 : decode prog_4_method_1_code 14 = .ok (.return_, 1) := by decide +kernel
theorem d2_0 : decode jdk_30_method_1_code 0 = .ok (.aload_n 0, 1) := by decide +kernel
theorem d2_1 : decode jdk_30_method_1_code 1 = .ok (.invokespecial 1, 3) := by decide +kernel
theorem d2_4 : decode jdk_30_method_1_code 4 = .ok (.return_, 1) := by decide +kernel
theorem d4_0 : decode prog_4_method_2_code 0 = .ok (.aload_n 0, 1) := by decide +kernel
theorem d4_1 : decode prog_4_method_2_code 1 = .ok (.getfield 7, 3) := by decide +kernel
theorem d4_4 : decode prog_4_method_2_code 4 = .ok (.lload_n 1, 1) := by decide +kernel
theorem d4_5 : decode prog_4_method_2_code 5 = .ok (.lcmp, 1) := by decide +kernel
theorem d4_6 : decode prog_4_method_2_code 6 = .ok (.ifCond .gt 16, 3) := by decide +kernel
theorem d4_9 : decode prog_4_method_2_code 9 = .ok (.lload_n 1, 1) := by decide +kernel
theorem d4_10 : decode prog_4_method_2_code 10 = .ok (.aload_n 0, 1) := by decide +kernel
theorem d4_11 : decode prog_4_method_2_code 11 = .ok (.getfield 13, 3) := by decide +kernel
theorem d4_14 : decode prog_4_method_2_code 14 = .ok (.lcmp, 1) := by decide +kernel
theorem d4_15 : decode prog_4_method_2_code 15 = .ok (.ifCond .ge 7, 3) := by decide +kernel
theorem d4_18 : decode prog_4_method_2_code 18 = .ok (.iconst 1, 1) := by decide +kernel
theorem d4_19 : decode prog_4_method_2_code 19 = .ok (.goto 4, 3) := by decide +kernel
theorem d4_22 : decode prog_4_method_2_code 22 = .ok (.iconst 0, 1) := by decide +kernel
theorem d4_23 : decode prog_4_method_2_code 23 = .ok (.ireturn, 1) := by decide +kernel
theorem d5_0 : decode jdk_29_method_66_code 0 = .ok (.lload_n 0, 1) := by decide +kernel
theorem d5_1 : decode jdk_29_method_66_code 1 = .ok (.lload_n 2, 1) := by decide +kernel
theorem d5_2 : decode jdk_29_method_66_code 2 = .ok (.lcmp, 1) := by decide +kernel
theorem d5_3 : decode jdk_29_method_66_code 3 = .ok (.ifCond .lt 7, 3) := by decide +kernel
theorem d5_6 : decode jdk_29_method_66_code 6 = .ok (.lload_n 0, 1) := by decide +kernel
theorem d5_7 : decode jdk_29_method_66_code 7 = .ok (.goto 4, 3) := by decide +kernel
theorem d5_10 : decode jdk_29_method_66_code 10 = .ok (.lload_n 2, 1) := by decide +kernel
theorem d5_11 : decode jdk_29_method_66_code 11 = .ok (.lreturn, 1) := by decide +kernel
theorem d6_0 : decode jdk_29_method_70_code 0 = .ok (.lload_n 0, 1) := by decide +kernel
theorem d6_1 : decode jdk_29_method_70_code 1 = .ok (.lload_n 2, 1) := by decide +kernel
theorem d6_2 : decode jdk_29_method_70_code 2 = .ok (.lcmp, 1) := by decide +kernel
theorem d6_3 : decode jdk_29_method_70_code 3 = .ok (.ifCond .gt 7, 3) := by decide +kernel
theorem d6_6 : decode jdk_29_method_70_code 6 = .ok (.lload_n 0, 1) := by decide +kernel
theorem d6_7 : decode jdk_29_method_70_code 7 = .ok (.goto 4, 3) := by decide +kernel
theorem d6_10 : decode jdk_29_method_70_code 10 = .ok (.lload_n 2, 1) := by decide +kernel
theorem d6_11 : decode jdk_29_method_70_code 11 = .ok (.lreturn, 1) := by decide +kernel
theorem pd0 : parseMethodDescriptor "()V" = some ⟨[], none⟩ := by decide +kernel
theorem pd1 : parseMethodDescriptor "(JJ)V" = some ⟨[.long, .long], none⟩ := by decide +kernel
theorem pd2 : parseMethodDescriptor "(J)Z" = some ⟨[.long], some .boolean⟩ := by decide +kernel
theorem pd3 : parseMethodDescriptor "(JJ)J" = some ⟨[.long, .long], some .long⟩ := by decide +kernel
set_option maxRecDepth 65536 in
set_option maxHeartbeats 40000000 in
theorem rm2 (l : Launch) (Z : State) (a0 : Array Value) (hw : ∀ d ∈ tables_1, d.before a0 Z = true) (ws : List Jvm.Cond) (a1 : Addr) (h0 : Heap) (n0 : Nat) (Z0 : n0 ≤ h0.size) :
    own_Met l (⟨"java/lang/Record", "<init>", "()V"⟩ : MethodName) jdk_30_method_1_code 1 none ws ({ frames := 1, cells := 0, slots := 0, locals := 12 } : Room) Z #[(.ref a1)] h0 (fun v h L => v = none ∧ Fr n0 L ∧ h0 = h) := by
  refine own_body (plainFor_of_name (by first | (simp [plainName, overriddenIn]; done) | decide +kernel)) ?_
  intro p e s m below meth c s₁ X0 hx hby hml hown hnm hret hlk hZ e0
  have N0 := Fr.nil n0
  refine own_cast (show entryFrame m #[(.ref a1)] 1 = mkF m 0 #[.val (.ref a1)] [] from by first | (simp [entryFrame, mkF, argsToLocals, Value.category]; done) | rfl) ?_
  show own_Go _ _ _ _ s₁ (mkF m 0 #[.val (.ref a1)] [])
  refine own_go (fun _ k => XS.aloadN X0.here hx rfl (hb hby d2_0) rfl rfl k) ?_
  show own_Go _ _ _ _ s₁ (mkF m 1 #[.val (.ref a1)] [(.ref a1)])
  obtain ⟨T1, X1, e1, st1⟩ := initO X0 hx hZ hown (hw _ (List.mem_of_getElem? (i := 11) rfl)) (hw _ (List.mem_of_getElem? (i := 12) rfl)) (hw _ (List.mem_of_getElem? (i := 13) rfl)) e0 (g := (mkF m 1 #[.val (.ref a1)] [(.ref a1)])) rfl (by rw [hml]; rfl) rfl (hb hby d2_1) (by decide) (W := 0) (Nat.le_of_eq rfl) (by decide)
  refine own_go (st1) ?_
  show own_Go _ _ _ _ T1 (mkF m 4 #[.val (.ref a1)] [])
  exact own_retV X1 hx hret hlk (hb hby d2_4) (by decide) (by decide) (by first | exact ⟨rfl, N0, rfl⟩ | (rw [e1]; exact ⟨rfl, N0, rfl⟩))
set_option maxRecDepth 65536 in
set_option maxHeartbeats 40000000 in
theorem rm1 (l : Launch) (Z : State) (a0 : Array Value) (hw : ∀ d ∈ tables_1, d.before a0 Z = true) (ws : List Jvm.Cond) (a1 : Addr) (q2 q3 : Int64) (h0 : Heap) (n0 : Nat) (Z0 : n0 ≤ h0.size) (E_a1 : Exa Z h0 a1 "com/example/anahtar/anahtar/AnswerCache$Span") (F_from : Fld Z h0 a1 "com/example/anahtar/anahtar/AnswerCache$Span" "from" "J" (.long (0 : Int64))) (F_until : Fld Z h0 a1 "com/example/anahtar/anahtar/AnswerCache$Span" "until" "J" (.long (0 : Int64))) (g_a1 : n0 ≤ a1) :
    own_Met l (⟨"com/example/anahtar/anahtar/AnswerCache$Span", "<init>", "(JJ)V"⟩ : MethodName) prog_4_method_1_code 5 none ws ({ frames := 2, cells := 0, slots := 0, locals := 24 } : Room) Z #[(.ref a1), (.long q2), (.long q3)] h0 (fun v h L => v = none ∧ Fr n0 L ∧ Keep h0 h [a1] ∧ Exa Z h a1 "com/example/anahtar/anahtar/AnswerCache$Span" ∧ Fld Z h a1 "com/example/anahtar/anahtar/AnswerCache$Span" "from" "J" (.long q2) ∧ Fld Z h a1 "com/example/anahtar/anahtar/AnswerCache$Span" "until" "J" (.long q3)) := by
  refine own_body (plainFor_of_name (by first | (simp [plainName, overriddenIn]; done) | decide +kernel)) ?_
  intro p e s m below meth c s₁ X0 hx hby hml hown hnm hret hlk hZ e0
  have N0 := Fr.nil n0
  refine own_cast (show entryFrame m #[(.ref a1), (.long q2), (.long q3)] 5 = mkF m 0 #[.val (.ref a1), .val (.long q2), .second, .val (.long q3), .second] [] from by first | (simp [entryFrame, mkF, argsToLocals, Value.category]; done) | rfl) ?_
  show own_Go _ _ _ _ s₁ (mkF m 0 #[.val (.ref a1), .val (.long q2), .second, .val (.long q3), .second] [])
  refine own_go (fun _ k => XS.aloadN X0.here hx rfl (hb hby d1_0) rfl rfl k) ?_
  show own_Go _ _ _ _ s₁ (mkF m 1 #[.val (.ref a1), .val (.long q2), .second, .val (.long q3), .second] [(.ref a1)])
  obtain ⟨v2, T2, h2, L2, X2, e2, hQ2, st2⟩ := own_callI X0 hx hZ rfl hown (hw _ (List.mem_of_getElem? (i := 6) rfl)) (hw _ (List.mem_of_getElem? (i := 7) rfl)) (hw _ (List.mem_of_getElem? (i := 9) rfl)) (hw _ (List.mem_of_getElem? (i := 10) rfl)) (by decide) e0 (a := a1) (argsL := []) (rest := []) (rm2 l Z a0 hw [] a1 h0 n0 Z0) 0 (by decide) (by decide) (by decide) (by decide) (g := (mkF m 1 #[.val (.ref a1), .val (.long q2), .second, .val (.long q3), .second] [(.ref a1)])) rfl (by rw [hml]; rfl) (lenOf pd0 rfl) rfl (Nat.le_of_eq rfl) (hb hby d1_1)
  obtain ⟨rfl, N2q, rfl⟩ := hQ2
  refine own_go (st2) ?_
  have N2 := Fr.app N0 N2q
  show own_Go _ _ _ _ T2 (mkF m 4 #[.val (.ref a1), .val (.long q2), .second, .val (.long q3), .second] [])
  refine own_go (fun _ k => XS.aloadN X2.here hx rfl (hb hby d1_4) rfl rfl k) ?_
  show own_Go _ _ _ _ T2 (mkF m 5 #[.val (.ref a1), .val (.long q2), .second, .val (.long q3), .second] [(.ref a1)])
  refine own_go (fun _ k => XS.lloadN X2.here hx rfl (hb hby d1_5) rfl k) ?_
  show own_Go _ _ _ _ T2 (mkF m 6 #[.val (.ref a1), .val (.long q2), .second, .val (.long q3), .second] [(.long q2), (.ref a1)])
  obtain ⟨T3, h3, X3, e3, W3, st3⟩ := putF X2 hx hZ hown (host := "") (Or.inl (hw _ (List.mem_of_getElem? (i := 14) rfl))) Via.refl e2 F_from E_a1 (Or.inr ⟨(hw _ (List.mem_of_getElem? (i := 15) rfl)), rfl, hnm⟩) (hw _ (List.mem_of_getElem? (i := 1) rfl)) (ty := .long) (by decide) rfl rfl (g := (mkF m 6 #[.val (.ref a1), .val (.long q2), .second, .val (.long q3), .second] [(.long q2), (.ref a1)])) rfl rfl (hb hby d1_6)
  refine own_go (st3) ?_
  have Fw3 := F_from.same W3
  have N3 := Fr.snoc X3 N2 g_a1
  show own_Go _ _ _ _ T3 (mkF m 9 #[.val (.ref a1), .val (.long q2), .second, .val (.long q3), .second] [])
  refine own_go (fun _ k => XS.aloadN X3.here hx rfl (hb hby d1_9) rfl rfl k) ?_
  show own_Go _ _ _ _ T3 (mkF m 10 #[.val (.ref a1), .val (.long q2), .second, .val (.long q3), .second] [(.ref a1)])
  refine own_go (fun _ k => XS.lloadN X3.here hx rfl (hb hby d1_10) rfl k) ?_
  show own_Go _ _ _ _ T3 (mkF m 11 #[.val (.ref a1), .val (.long q2), .second, .val (.long q3), .second] [(.long q3), (.ref a1)])
  have f5 := (F_until.other W3 (Or.inr (slot_ne (Or.inr (hw _ (List.mem_of_getElem? (i := 17) rfl))) (Or.inr (hw _ (List.mem_of_getElem? (i := 15) rfl))) (by decide) (t := .long) (t' := .long) (by decide) (by decide))))
  have f6 := (E_a1.wr W3)
  obtain ⟨T4, h4, X4, e4, W4, st4⟩ := putF X3 hx hZ hown (host := "") (Or.inl (hw _ (List.mem_of_getElem? (i := 16) rfl))) Via.refl e3 f5 f6 (Or.inr ⟨(hw _ (List.mem_of_getElem? (i := 17) rfl)), rfl, hnm⟩) (hw _ (List.mem_of_getElem? (i := 1) rfl)) (ty := .long) (by decide) rfl rfl (g := (mkF m 11 #[.val (.ref a1), .val (.long q2), .second, .val (.long q3), .second] [(.long q3), (.ref a1)])) rfl rfl (hb hby d1_11)
  refine own_go (st4) ?_
  have Fw4 := f5.same W4
  have N4 := Fr.snoc X4 N3 g_a1
  show own_Go _ _ _ _ T4 (mkF m 14 #[.val (.ref a1), .val (.long q2), .second, .val (.long q3), .second] [])
  have f7 := (((Keep.refl h0 [a1]).wr W3 (Or.inl (List.mem_of_getElem? (i := 0) rfl))).wr W4 (Or.inl (List.mem_of_getElem? (i := 0) rfl)))
  have f8 := (f6.wr W4)
  have f9 := (Fw3.other W4 (Or.inr (slot_ne (Or.inr (hw _ (List.mem_of_getElem? (i := 15) rfl))) (Or.inr (hw _ (List.mem_of_getElem? (i := 17) rfl))) (by decide) (t := .long) (t' := .long) (by decide) (by decide))))
  exact own_retV X4 hx hret hlk (hb hby d1_14) (by decide) (by decide) (by first | exact ⟨rfl, N4, f7, f8, f9, Fw4⟩ | (rw [e4]; exact ⟨rfl, N4, f7, f8, f9, Fw4⟩))
set_option maxRecDepth 65536 in
set_option maxHeartbeats 40000000 in
theorem rm3 (l : Launch) (Z : State) (a0 : Array Value) (hw : ∀ d ∈ tables_1, d.before a0 Z = true) (ws : List Jvm.Cond) (a1 : Addr) (q2 q3 q4 : Int64) (h0 : Heap) (n0 : Nat) (Z0 : n0 ≤ h0.size) (F_from : Fld Z h0 a1 "com/example/anahtar/anahtar/AnswerCache$Span" "from" "J" (.long q2)) (F_until : Fld Z h0 a1 "com/example/anahtar/anahtar/AnswerCache$Span" "until" "J" (.long q3)) :
    own_Met l (⟨"com/example/anahtar/anahtar/AnswerCache$Span", "holds", "(J)Z"⟩ : MethodName) prog_4_method_2_code 3 (some .boolean) ws ({ frames := 0, cells := 0, slots := 0, locals := 0 } : Room) Z #[(.ref a1), (.long q4)] h0 (fun v h L => v = some (.int (own_holds q2 q3 q4)) ∧ Fr n0 L ∧ h0 = h) := by
  refine own_body (plainFor_of_name (by first | (simp [plainName, overriddenIn]; done) | decide +kernel)) ?_
  intro p e s m below meth c s₁ X0 hx hby hml hown hnm hret hlk hZ e0
  have N0 := Fr.nil n0
  refine own_cast (show entryFrame m #[(.ref a1), (.long q4)] 3 = mkF m 0 #[.val (.ref a1), .val (.long q4), .second] [] from by first | (simp [entryFrame, mkF, argsToLocals, Value.category]; done) | rfl) ?_
  show own_Go _ _ _ _ s₁ (mkF m 0 #[.val (.ref a1), .val (.long q4), .second] [])
  refine own_go (fun _ k => XS.aloadN X0.here hx rfl (hb hby d4_0) rfl rfl k) ?_
  show own_Go _ _ _ _ s₁ (mkF m 1 #[.val (.ref a1), .val (.long q4), .second] [(.ref a1)])
  obtain ⟨T10, X10, e10, st10⟩ := getF X0 hx hZ hown (host := "") (Or.inl (hw _ (List.mem_of_getElem? (i := 14) rfl))) Via.refl e0 F_from (g := (mkF m 1 #[.val (.ref a1), .val (.long q4), .second] [(.ref a1)])) rfl rfl (hb hby d4_1)
  refine own_go (st10) ?_
  show own_Go _ _ _ _ T10 (mkF m 4 #[.val (.ref a1), .val (.long q4), .second] [(.long q2)])
  refine own_go (fun _ k => XS.lloadN X10.here hx rfl (hb hby d4_4) rfl k) ?_
  show own_Go _ _ _ _ T10 (mkF m 5 #[.val (.ref a1), .val (.long q4), .second] [(.long q4), (.long q2)])
  refine own_go (fun _ k => XS.lcmp X10.here hx rfl (hb hby d4_5) rfl k) ?_
  show own_Go _ _ _ _ T10 (mkF m 6 #[.val (.ref a1), .val (.long q4), .second] [(.int (lcmpW q2 q4))])
  by_cases hc0 : q4 < q2
  · skip
    refine own_go (fun _ k => XS.ifYes X10.here hx rfl (pc0 := 6) (pc' := 22) rfl (hb hby d4_6) rfl ((if0 _ _).trans (tlt ((lw_gt _ _).mpr hc0)).2.2.1) (by decide) (by decide) k) ?_
    show own_Go _ _ _ _ T10 (mkF m 22 #[.val (.ref a1), .val (.long q4), .second] [])
    refine own_go (fun _ k => XS.iconst X10.here hx rfl (hb hby d4_22) k) ?_
    show own_Go _ _ _ _ T10 (mkF m 23 #[.val (.ref a1), .val (.long q4), .second] [(.int (0 : Int32))])
    exact own_retN X10 hx hret (by simp) hlk (hb hby d4_23) (by decide) (by decide) (by first | exact ⟨by rw [own_holds, if_pos hc0]; rfl, N0, rfl⟩ | (rw [e10]; exact ⟨by rw [own_holds, if_pos hc0]; rfl, N0, rfl⟩))
  · skip
    refine own_go (fun _ k => XS.ifNo X10.here hx rfl (hb hby d4_6) rfl ((if0 _ _).trans (flt (fun q => hc0 ((lw_gt _ _).mp q))).2.2.1) k) ?_
    show own_Go _ _ _ _ T10 (mkF m 9 #[.val (.ref a1), .val (.long q4), .second] [])
    refine own_go (fun _ k => XS.lloadN X10.here hx rfl (hb hby d4_9) rfl k) ?_
    show own_Go _ _ _ _ T10 (mkF m 10 #[.val (.ref a1), .val (.long q4), .second] [(.long q4)])
    refine own_go (fun _ k => XS.aloadN X10.here hx rfl (hb hby d4_10) rfl rfl k) ?_
    show own_Go _ _ _ _ T10 (mkF m 11 #[.val (.ref a1), .val (.long q4), .second] [(.ref a1), (.long q4)])
    obtain ⟨T11, X11, e11, st11⟩ := getF X10 hx hZ hown (host := "") (Or.inl (hw _ (List.mem_of_getElem? (i := 16) rfl))) Via.refl e10 F_until (g := (mkF m 11 #[.val (.ref a1), .val (.long q4), .second] [(.ref a1), (.long q4)])) rfl rfl (hb hby d4_11)
    refine own_go (st11) ?_
    show own_Go _ _ _ _ T11 (mkF m 14 #[.val (.ref a1), .val (.long q4), .second] [(.long q3), (.long q4)])
    refine own_go (fun _ k => XS.lcmp X11.here hx rfl (hb hby d4_14) rfl k) ?_
    show own_Go _ _ _ _ T11 (mkF m 15 #[.val (.ref a1), .val (.long q4), .second] [(.int (lcmpW q4 q3))])
    by_cases hc1 : q4 < q3
    · skip
      refine own_go (fun _ k => XS.ifNo X11.here hx rfl (hb hby d4_15) rfl ((if0 _ _).trans (tlt ((lw_lt _ _).mpr hc1)).2.1) k) ?_
      show own_Go _ _ _ _ T11 (mkF m 18 #[.val (.ref a1), .val (.long q4), .second] [])
      refine own_go (fun _ k => XS.iconst X11.here hx rfl (hb hby d4_18) k) ?_
      show own_Go _ _ _ _ T11 (mkF m 19 #[.val (.ref a1), .val (.long q4), .second] [(.int (1 : Int32))])
      refine own_go (fun _ k => XS.goto X11.here hx rfl (pc0 := 19) (pc' := 23) rfl (hb hby d4_19) (by decide) (by decide) k) ?_
      show own_Go _ _ _ _ T11 (mkF m 23 #[.val (.ref a1), .val (.long q4), .second] [(.int (1 : Int32))])
      exact own_retN X11 hx hret (by simp) hlk (hb hby d4_23) (by decide) (by decide) (by first | exact ⟨by rw [own_holds, if_neg hc0, if_pos hc1]; rfl, N0, rfl⟩ | (rw [e11]; exact ⟨by rw [own_holds, if_neg hc0, if_pos hc1]; rfl, N0, rfl⟩))
    · skip
      refine own_go (fun _ k => XS.ifYes X11.here hx rfl (pc0 := 15) (pc' := 22) rfl (hb hby d4_15) rfl ((if0 _ _).trans (flt (fun q => hc1 ((lw_lt _ _).mp q))).2.1) (by decide) (by decide) k) ?_
      show own_Go _ _ _ _ T11 (mkF m 22 #[.val (.ref a1), .val (.long q4), .second] [])
      refine own_go (fun _ k => XS.iconst X11.here hx rfl (hb hby d4_22) k) ?_
      show own_Go _ _ _ _ T11 (mkF m 23 #[.val (.ref a1), .val (.long q4), .second] [(.int (0 : Int32))])
      exact own_retN X11 hx hret (by simp) hlk (hb hby d4_23) (by decide) (by decide) (by first | exact ⟨by rw [own_holds, if_neg hc0, if_neg hc1]; rfl, N0, rfl⟩ | (rw [e11]; exact ⟨by rw [own_holds, if_neg hc0, if_neg hc1]; rfl, N0, rfl⟩))
set_option maxRecDepth 65536 in
set_option maxHeartbeats 40000000 in
theorem rm4 (l : Launch) (Z : State) (a0 : Array Value) (hw : ∀ d ∈ tables_1, d.before a0 Z = true) (ws : List Jvm.Cond) (q1 q2 : Int64) (h0 : Heap) (n0 : Nat) (Z0 : n0 ≤ h0.size) :
    own_Met l (⟨"java/lang/Math", "max", "(JJ)J"⟩ : MethodName) jdk_29_method_66_code 4 (some .long) ws ({ frames := 0, cells := 0, slots := 0, locals := 0 } : Room) Z #[(.long q1), (.long q2)] h0 (fun v h L => v = some (.long (own_max q1 q2)) ∧ Fr n0 L ∧ h0 = h) := by
  refine own_body (Jvm.Free.JP.mathPlain rfl (by decide +kernel)) ?_
  intro p e s m below meth c s₁ X0 hx hby hml hown hnm hret hlk hZ e0
  have N0 := Fr.nil n0
  refine own_cast (show entryFrame m #[(.long q1), (.long q2)] 4 = mkF m 0 #[.val (.long q1), .second, .val (.long q2), .second] [] from by first | (simp [entryFrame, mkF, argsToLocals, Value.category]; done) | rfl) ?_
  show own_Go _ _ _ _ s₁ (mkF m 0 #[.val (.long q1), .second, .val (.long q2), .second] [])
  refine own_go (fun _ k => XS.lloadN X0.here hx rfl (hb hby d5_0) rfl k) ?_
  show own_Go _ _ _ _ s₁ (mkF m 1 #[.val (.long q1), .second, .val (.long q2), .second] [(.long q1)])
  refine own_go (fun _ k => XS.lloadN X0.here hx rfl (hb hby d5_1) rfl k) ?_
  show own_Go _ _ _ _ s₁ (mkF m 2 #[.val (.long q1), .second, .val (.long q2), .second] [(.long q2), (.long q1)])
  refine own_go (fun _ k => XS.lcmp X0.here hx rfl (hb hby d5_2) rfl k) ?_
  show own_Go _ _ _ _ s₁ (mkF m 3 #[.val (.long q1), .second, .val (.long q2), .second] [(.int (lcmpW q1 q2))])
  by_cases hc : q1 < q2
  · skip
    refine own_go (fun _ k => XS.ifYes X0.here hx rfl (pc0 := 3) (pc' := 10) rfl (hb hby d5_3) rfl ((if0 _ _).trans (tlt ((lw_lt _ _).mpr hc)).1) (by decide) (by decide) k) ?_
    show own_Go _ _ _ _ s₁ (mkF m 10 #[.val (.long q1), .second, .val (.long q2), .second] [])
    refine own_go (fun _ k => XS.lloadN X0.here hx rfl (hb hby d5_10) rfl k) ?_
    show own_Go _ _ _ _ s₁ (mkF m 11 #[.val (.long q1), .second, .val (.long q2), .second] [(.long q2)])
    exact own_retJ X0 hx hret hlk (hb hby d5_11) (by decide) (by decide) (by first | exact ⟨by rw [own_max, if_pos hc], N0, rfl⟩ | (rw [e0]; exact ⟨by rw [own_max, if_pos hc], N0, rfl⟩))
  · skip
    refine own_go (fun _ k => XS.ifNo X0.here hx rfl (hb hby d5_3) rfl ((if0 _ _).trans (flt (fun q => hc ((lw_lt _ _).mp q))).1) k) ?_
    show own_Go _ _ _ _ s₁ (mkF m 6 #[.val (.long q1), .second, .val (.long q2), .second] [])
    refine own_go (fun _ k => XS.lloadN X0.here hx rfl (hb hby d5_6) rfl k) ?_
    show own_Go _ _ _ _ s₁ (mkF m 7 #[.val (.long q1), .second, .val (.long q2), .second] [(.long q1)])
    refine own_go (fun _ k => XS.goto X0.here hx rfl (pc0 := 7) (pc' := 11) rfl (hb hby d5_7) (by decide) (by decide) k) ?_
    show own_Go _ _ _ _ s₁ (mkF m 11 #[.val (.long q1), .second, .val (.long q2), .second] [(.long q1)])
    exact own_retJ X0 hx hret hlk (hb hby d5_11) (by decide) (by decide) (by first | exact ⟨by rw [own_max, if_neg hc], N0, rfl⟩ | (rw [e0]; exact ⟨by rw [own_max, if_neg hc], N0, rfl⟩))
set_option maxRecDepth 65536 in
set_option maxHeartbeats 40000000 in
theorem rm5 (l : Launch) (Z : State) (a0 : Array Value) (hw : ∀ d ∈ tables_1, d.before a0 Z = true) (ws : List Jvm.Cond) (q1 q2 : Int64) (h0 : Heap) (n0 : Nat) (Z0 : n0 ≤ h0.size) :
    own_Met l (⟨"java/lang/Math", "min", "(JJ)J"⟩ : MethodName) jdk_29_method_70_code 4 (some .long) ws ({ frames := 0, cells := 0, slots := 0, locals := 0 } : Room) Z #[(.long q1), (.long q2)] h0 (fun v h L => v = some (.long (own_min q1 q2)) ∧ Fr n0 L ∧ h0 = h) := by
  refine own_body (Jvm.Free.JP.mathPlain rfl (by decide +kernel)) ?_
  intro p e s m below meth c s₁ X0 hx hby hml hown hnm hret hlk hZ e0
  have N0 := Fr.nil n0
  refine own_cast (show entryFrame m #[(.long q1), (.long q2)] 4 = mkF m 0 #[.val (.long q1), .second, .val (.long q2), .second] [] from by first | (simp [entryFrame, mkF, argsToLocals, Value.category]; done) | rfl) ?_
  show own_Go _ _ _ _ s₁ (mkF m 0 #[.val (.long q1), .second, .val (.long q2), .second] [])
  refine own_go (fun _ k => XS.lloadN X0.here hx rfl (hb hby d6_0) rfl k) ?_
  show own_Go _ _ _ _ s₁ (mkF m 1 #[.val (.long q1), .second, .val (.long q2), .second] [(.long q1)])
  refine own_go (fun _ k => XS.lloadN X0.here hx rfl (hb hby d6_1) rfl k) ?_
  show own_Go _ _ _ _ s₁ (mkF m 2 #[.val (.long q1), .second, .val (.long q2), .second] [(.long q2), (.long q1)])
  refine own_go (fun _ k => XS.lcmp X0.here hx rfl (hb hby d6_2) rfl k) ?_
  show own_Go _ _ _ _ s₁ (mkF m 3 #[.val (.long q1), .second, .val (.long q2), .second] [(.int (lcmpW q1 q2))])
  by_cases hc : q2 < q1
  · skip
    refine own_go (fun _ k => XS.ifYes X0.here hx rfl (pc0 := 3) (pc' := 10) rfl (hb hby d6_3) rfl ((if0 _ _).trans (tlt ((lw_gt _ _).mpr hc)).2.2.1) (by decide) (by decide) k) ?_
    show own_Go _ _ _ _ s₁ (mkF m 10 #[.val (.long q1), .second, .val (.long q2), .second] [])
    refine own_go (fun _ k => XS.lloadN X0.here hx rfl (hb hby d6_10) rfl k) ?_
    show own_Go _ _ _ _ s₁ (mkF m 11 #[.val (.long q1), .second, .val (.long q2), .second] [(.long q2)])
    exact own_retJ X0 hx hret hlk (hb hby d6_11) (by decide) (by decide) (by first | exact ⟨by rw [own_min, if_pos hc], N0, rfl⟩ | (rw [e0]; exact ⟨by rw [own_min, if_pos hc], N0, rfl⟩))
  · skip
    refine own_go (fun _ k => XS.ifNo X0.here hx rfl (hb hby d6_3) rfl ((if0 _ _).trans (flt (fun q => hc ((lw_gt _ _).mp q))).2.2.1) k) ?_
    show own_Go _ _ _ _ s₁ (mkF m 6 #[.val (.long q1), .second, .val (.long q2), .second] [])
    refine own_go (fun _ k => XS.lloadN X0.here hx rfl (hb hby d6_6) rfl k) ?_
    show own_Go _ _ _ _ s₁ (mkF m 7 #[.val (.long q1), .second, .val (.long q2), .second] [(.long q1)])
    refine own_go (fun _ k => XS.goto X0.here hx rfl (pc0 := 7) (pc' := 11) rfl (hb hby d6_7) (by decide) (by decide) k) ?_
    show own_Go _ _ _ _ s₁ (mkF m 11 #[.val (.long q1), .second, .val (.long q2), .second] [(.long q1)])
    exact own_retJ X0 hx hret hlk (hb hby d6_11) (by decide) (by decide) (by first | exact ⟨by rw [own_min, if_neg hc], N0, rfl⟩ | (rw [e0]; exact ⟨by rw [own_min, if_neg hc], N0, rfl⟩))
set_option maxRecDepth 65536 in
set_option maxHeartbeats 40000000 in
theorem rm0 (l : Launch) (Z : State) (a0 : Array Value) (hw : ∀ d ∈ tables_1, d.before a0 Z = true) (ws : List Jvm.Cond) (q1 q2 q3 : Int64) (p4 : Int32) (h0 : Heap) (n0 : Nat) (Z0 : n0 ≤ h0.size) :
    own_Met l x code maxLocals ret ws room_1 Z #[(.long q1), (.long q2), (.long q3), (.int p4)] h0 (fun v h L => v = some (.int 1) ∧ Fr n0 L) := by
  refine own_body (plainFor_of_name (by first | (simp [plainName, overriddenIn]; done) | decide +kernel)) ?_
  intro p e s m below meth c s₁ X0 hx hby hml hown hnm hret hlk hZ e0
  have N0 := Fr.nil n0
  refine own_cast (show entryFrame m #[(.long q1), (.long q2), (.long q3), (.int p4)] maxLocals = mkF m 0 #[.val (.long q1), .second, .val (.long q2), .second, .val (.long q3), .second, .val (.int p4), .unset, .unset, .unset, .unset, .unset, .unset, .unset, .unset] [] from by first | (simp [entryFrame, mkF, argsToLocals, Value.category, maxLocals]; done) | rfl) ?_
  have tail : ∀ (xx : Int64), own_Go p.tables e below (own_P below s (fun v h L => v = some (.int 1) ∧ Fr n0 L) room_1.cells room_1.slots) s₁ (mkF m 105 #[.val (.long q1), .second, .val (.long q2), .second, .val (.long q3), .second, .val (.int p4), .val (.int (p4 &&& (7 : Int32))), .val (.long xx), .second, .unset, .unset, .unset, .unset, .unset] []) := by
    intro xx
    show own_Go _ _ _ _ s₁ (mkF m 105 #[.val (.long q1), .second, .val (.long q2), .second, .val (.long q3), .second, .val (.int p4), .val (.int (p4 &&& (7 : Int32))), .val (.long xx), .second, .unset, .unset, .unset, .unset, .unset] [])
    obtain ⟨T12, h12, X12, e12, E12, A12, D12, -, st12⟩ := newO X0 hx hZ hown (hw _ (List.mem_of_getElem? (i := 0) rfl)) (hw _ (List.mem_of_getElem? (i := 1) rfl)) (hw _ (List.mem_of_getElem? (i := 2) rfl)) e0 (g := (mkF m 105 #[.val (.long q1), .second, .val (.long q2), .second, .val (.long q3), .second, .val (.int p4), .val (.int (p4 &&& (7 : Int32))), .val (.long xx), .second, .unset, .unset, .unset, .unset, .unset] [])) rfl (hb hby at_105) (by decide) (by decide)
    obtain ⟨b12, g12⟩ : ∃ z, z = h0.size := ⟨_, rfl⟩
    rw [← g12] at A12 D12 st12
    refine own_go (st12) ?_
    have g_b12 : n0 ≤ b12 := Nat.le_trans Z0 (Nat.le_of_eq g12.symm)
    have F12_from : Fld Z h12 b12 "com/example/anahtar/anahtar/AnswerCache$Span" "from" "J" (.long (0 : Int64)) := D12 (Or.inr (hw _ (List.mem_of_getElem? (i := 15) rfl))) (ty := .long) (by decide)
    have F12_until : Fld Z h12 b12 "com/example/anahtar/anahtar/AnswerCache$Span" "until" "J" (.long (0 : Int64)) := D12 (Or.inr (hw _ (List.mem_of_getElem? (i := 17) rfl))) (ty := .long) (by decide)
    show own_Go _ _ _ _ T12 (mkF m 108 #[.val (.long q1), .second, .val (.long q2), .second, .val (.long q3), .second, .val (.int p4), .val (.int (p4 &&& (7 : Int32))), .val (.long xx), .second, .unset, .unset, .unset, .unset, .unset] [(.ref b12)])
    refine own_go (fun _ k => XS.dup X12.here hx rfl (hb hby at_108) rfl rfl k) ?_
    show own_Go _ _ _ _ T12 (mkF m 109 #[.val (.long q1), .second, .val (.long q2), .second, .val (.long q3), .second, .val (.int p4), .val (.int (p4 &&& (7 : Int32))), .val (.long xx), .second, .unset, .unset, .unset, .unset, .unset] [(.ref b12), (.ref b12)])
    refine own_go (fun _ k => XS.lloadN X12.here hx rfl (hb hby at_109) rfl k) ?_
    show own_Go _ _ _ _ T12 (mkF m 110 #[.val (.long q1), .second, .val (.long q2), .second, .val (.long q3), .second, .val (.int p4), .val (.int (p4 &&& (7 : Int32))), .val (.long xx), .second, .unset, .unset, .unset, .unset, .unset] [(.long q1), (.ref b12), (.ref b12)])
    refine own_go (fun _ k => XS.lloadN X12.here hx rfl (hb hby at_110) rfl k) ?_
    show own_Go _ _ _ _ T12 (mkF m 111 #[.val (.long q1), .second, .val (.long q2), .second, .val (.long q3), .second, .val (.int p4), .val (.int (p4 &&& (7 : Int32))), .val (.long xx), .second, .unset, .unset, .unset, .unset, .unset] [(.long q2), (.long q1), (.ref b12), (.ref b12)])
    have f13 := (Nat.le_trans Z0 E12.1)
    obtain ⟨v14, T14, h14, L14, X14, e14, hQ14, st14⟩ := own_callI X12 hx hZ rfl hown (hw _ (List.mem_of_getElem? (i := 3) rfl)) (hw _ (List.mem_of_getElem? (i := 4) rfl)) (hw _ (List.mem_of_getElem? (i := 2) rfl)) (hw _ (List.mem_of_getElem? (i := 5) rfl)) (by decide) e12 (a := b12) (argsL := [(.long q1), (.long q2)]) (rest := [(.ref b12)]) (rm1 l Z a0 hw [] b12 q1 q2 h12 n0 f13 A12 F12_from F12_until g_b12) 1 (by decide) (by decide) (by decide) (by decide) (g := (mkF m 111 #[.val (.long q1), .second, .val (.long q2), .second, .val (.long q3), .second, .val (.int p4), .val (.int (p4 &&& (7 : Int32))), .val (.long xx), .second, .unset, .unset, .unset, .unset, .unset] [(.long q2), (.long q1), (.ref b12), (.ref b12)])) rfl (by rw [hml]; rfl) (lenOf pd1 rfl) rfl (Nat.le_of_eq rfl) (hb hby at_111)
    obtain ⟨rfl, N14q, K14, E14x, F14x, F14y⟩ := hQ14
    refine own_go (st14) ?_
    have N14 := Fr.app N0 N14q
    show own_Go _ _ _ _ T14 (mkF m 114 #[.val (.long q1), .second, .val (.long q2), .second, .val (.long q3), .second, .val (.int p4), .val (.int (p4 &&& (7 : Int32))), .val (.long xx), .second, .unset, .unset, .unset, .unset, .unset] [(.ref b12)])
    refine own_go (fun _ k => XS.astore X14.here hx rfl (hb hby at_114) rfl rfl (l' := #[.val (.long q1), .second, .val (.long q2), .second, .val (.long q3), .second, .val (.int p4), .val (.int (p4 &&& (7 : Int32))), .val (.long xx), .second, .val (.ref b12), .unset, .unset, .unset, .unset]) rfl k) ?_
    show own_Go _ _ _ _ T14 (mkF m 116 #[.val (.long q1), .second, .val (.long q2), .second, .val (.long q3), .second, .val (.int p4), .val (.int (p4 &&& (7 : Int32))), .val (.long xx), .second, .val (.ref b12), .unset, .unset, .unset, .unset] [])
    refine own_go (fun _ k => XS.aload X14.here hx rfl (hb hby at_116) rfl rfl k) ?_
    show own_Go _ _ _ _ T14 (mkF m 118 #[.val (.long q1), .second, .val (.long q2), .second, .val (.long q3), .second, .val (.int p4), .val (.int (p4 &&& (7 : Int32))), .val (.long xx), .second, .val (.ref b12), .unset, .unset, .unset, .unset] [(.ref b12)])
    refine own_go (fun _ k => XS.lload X14.here hx rfl (hb hby at_118) rfl k) ?_
    show own_Go _ _ _ _ T14 (mkF m 120 #[.val (.long q1), .second, .val (.long q2), .second, .val (.long q3), .second, .val (.int p4), .val (.int (p4 &&& (7 : Int32))), .val (.long xx), .second, .val (.ref b12), .unset, .unset, .unset, .unset] [(.long xx), (.ref b12)])
    have f15 := (Nat.le_trans f13 K14.1)
    obtain ⟨v16, T16, h16, L16, X16, e16, hQ16, st16⟩ := own_callV X14 hx hZ hown (hw _ (List.mem_of_getElem? (i := 18) rfl)) (hw _ (List.mem_of_getElem? (i := 19) rfl)) (hw _ (List.mem_of_getElem? (i := 21) rfl)) (notFace_of_selects (args := #[]) (mvT hZ (hw _ (List.mem_of_getElem? (i := 21) rfl)))) (hw _ (List.mem_of_getElem? (i := 20) rfl)) (hw _ (List.mem_of_getElem? (i := 2) rfl)) (hw _ (List.mem_of_getElem? (i := 22) rfl)) (by decide) e14 E14x (argsL := [(.long xx)]) (rest := []) (rm3 l Z a0 hw [] b12 q1 q2 xx h14 n0 f15 F14x F14y) 0 (by decide) (by decide) (by decide) (by decide) (g := (mkF m 120 #[.val (.long q1), .second, .val (.long q2), .second, .val (.long q3), .second, .val (.int p4), .val (.int (p4 &&& (7 : Int32))), .val (.long xx), .second, .val (.ref b12), .unset, .unset, .unset, .unset] [(.long xx), (.ref b12)])) rfl (by rw [hml]; rfl) (lenOf pd2 rfl) rfl (Nat.le_of_eq rfl) (hb hby at_120)
    obtain ⟨rfl, N16q, rfl⟩ := hQ16
    refine own_go (st16) ?_
    have N16 := Fr.app N14 N16q
    show own_Go _ _ _ _ T16 (mkF m 123 #[.val (.long q1), .second, .val (.long q2), .second, .val (.long q3), .second, .val (.int p4), .val (.int (p4 &&& (7 : Int32))), .val (.long xx), .second, .val (.ref b12), .unset, .unset, .unset, .unset] [(.int (own_holds q1 q2 xx))])
    refine own_go (fun _ k => XS.istore X16.here hx rfl (hb hby at_123) rfl (l' := #[.val (.long q1), .second, .val (.long q2), .second, .val (.long q3), .second, .val (.int p4), .val (.int (p4 &&& (7 : Int32))), .val (.long xx), .second, .val (.ref b12), .val (.int (own_holds q1 q2 xx)), .unset, .unset, .unset]) rfl k) ?_
    show own_Go _ _ _ _ T16 (mkF m 125 #[.val (.long q1), .second, .val (.long q2), .second, .val (.long q3), .second, .val (.int p4), .val (.int (p4 &&& (7 : Int32))), .val (.long xx), .second, .val (.ref b12), .val (.int (own_holds q1 q2 xx)), .unset, .unset, .unset] [])
    refine own_go (fun _ k => XS.lloadN X16.here hx rfl (hb hby at_125) rfl k) ?_
    show own_Go _ _ _ _ T16 (mkF m 126 #[.val (.long q1), .second, .val (.long q2), .second, .val (.long q3), .second, .val (.int p4), .val (.int (p4 &&& (7 : Int32))), .val (.long xx), .second, .val (.ref b12), .val (.int (own_holds q1 q2 xx)), .unset, .unset, .unset] [(.long q1)])
    refine own_go (fun _ k => XS.lload X16.here hx rfl (hb hby at_126) rfl k) ?_
    show own_Go _ _ _ _ T16 (mkF m 128 #[.val (.long q1), .second, .val (.long q2), .second, .val (.long q3), .second, .val (.int p4), .val (.int (p4 &&& (7 : Int32))), .val (.long xx), .second, .val (.ref b12), .val (.int (own_holds q1 q2 xx)), .unset, .unset, .unset] [(.long xx), (.long q1)])
    obtain ⟨v17, T17, h17, L17, X17, e17, hQ17, st17⟩ := own_callS X16 hx hZ hown (hw _ (List.mem_of_getElem? (i := 23) rfl)) (hw _ (List.mem_of_getElem? (i := 24) rfl)) (hw _ (List.mem_of_getElem? (i := 25) rfl)) (hw _ (List.mem_of_getElem? (i := 26) rfl)) (by decide) e16 (argsL := [(.long q1), (.long xx)]) (rest := []) (rm4 l Z a0 hw [] q1 xx h14 n0 f15) 0 (by decide) (by decide) (by decide) (by decide) (g := (mkF m 128 #[.val (.long q1), .second, .val (.long q2), .second, .val (.long q3), .second, .val (.int p4), .val (.int (p4 &&& (7 : Int32))), .val (.long xx), .second, .val (.ref b12), .val (.int (own_holds q1 q2 xx)), .unset, .unset, .unset] [(.long xx), (.long q1)])) rfl (by rw [hml]; rfl) (lenOf pd3 rfl) rfl (Nat.le_of_eq rfl) (hb hby at_128)
    obtain ⟨rfl, N17q, rfl⟩ := hQ17
    refine own_go (st17) ?_
    have N17 := Fr.app N16 N17q
    show own_Go _ _ _ _ T17 (mkF m 131 #[.val (.long q1), .second, .val (.long q2), .second, .val (.long q3), .second, .val (.int p4), .val (.int (p4 &&& (7 : Int32))), .val (.long xx), .second, .val (.ref b12), .val (.int (own_holds q1 q2 xx)), .unset, .unset, .unset] [(.long (own_max q1 xx))])
    refine own_go (fun _ k => XS.lload X17.here hx rfl (hb hby at_131) rfl k) ?_
    show own_Go _ _ _ _ T17 (mkF m 133 #[.val (.long q1), .second, .val (.long q2), .second, .val (.long q3), .second, .val (.int p4), .val (.int (p4 &&& (7 : Int32))), .val (.long xx), .second, .val (.ref b12), .val (.int (own_holds q1 q2 xx)), .unset, .unset, .unset] [(.long xx), (.long (own_max q1 xx))])
    refine own_go (fun _ k => XS.lcmp X17.here hx rfl (hb hby at_133) rfl k) ?_
    show own_Go _ _ _ _ T17 (mkF m 134 #[.val (.long q1), .second, .val (.long q2), .second, .val (.long q3), .second, .val (.int p4), .val (.int (p4 &&& (7 : Int32))), .val (.long xx), .second, .val (.ref b12), .val (.int (own_holds q1 q2 xx)), .unset, .unset, .unset] [(.int (lcmpW (own_max q1 xx) xx))])
    by_cases hA : (own_max q1 xx) = xx
    · skip
      refine own_go (fun _ k => XS.ifNo X17.here hx rfl (hb hby at_134) rfl ((if0 _ _).trans (teq ((lw_eq _ _).mpr hA)).2) k) ?_
      show own_Go _ _ _ _ T17 (mkF m 137 #[.val (.long q1), .second, .val (.long q2), .second, .val (.long q3), .second, .val (.int p4), .val (.int (p4 &&& (7 : Int32))), .val (.long xx), .second, .val (.ref b12), .val (.int (own_holds q1 q2 xx)), .unset, .unset, .unset] [])
      refine own_go (fun _ k => XS.iconst X17.here hx rfl (hb hby at_137) k) ?_
      show own_Go _ _ _ _ T17 (mkF m 138 #[.val (.long q1), .second, .val (.long q2), .second, .val (.long q3), .second, .val (.int p4), .val (.int (p4 &&& (7 : Int32))), .val (.long xx), .second, .val (.ref b12), .val (.int (own_holds q1 q2 xx)), .unset, .unset, .unset] [(.int (1 : Int32))])
      refine own_go (fun _ k => XS.goto X17.here hx rfl (pc0 := 138) (pc' := 142) rfl (hb hby at_138) (by decide) (by decide) k) ?_
      show own_Go _ _ _ _ T17 (mkF m 142 #[.val (.long q1), .second, .val (.long q2), .second, .val (.long q3), .second, .val (.int p4), .val (.int (p4 &&& (7 : Int32))), .val (.long xx), .second, .val (.ref b12), .val (.int (own_holds q1 q2 xx)), .unset, .unset, .unset] [(.int (1 : Int32))])
      refine own_go (fun _ k => XS.istore X17.here hx rfl (hb hby at_142) rfl (l' := #[.val (.long q1), .second, .val (.long q2), .second, .val (.long q3), .second, .val (.int p4), .val (.int (p4 &&& (7 : Int32))), .val (.long xx), .second, .val (.ref b12), .val (.int (own_holds q1 q2 xx)), .val (.int (1 : Int32)), .unset, .unset]) rfl k) ?_
      show own_Go _ _ _ _ T17 (mkF m 144 #[.val (.long q1), .second, .val (.long q2), .second, .val (.long q3), .second, .val (.int p4), .val (.int (p4 &&& (7 : Int32))), .val (.long xx), .second, .val (.ref b12), .val (.int (own_holds q1 q2 xx)), .val (.int (1 : Int32)), .unset, .unset] [])
      refine own_go (fun _ k => XS.lload X17.here hx rfl (hb hby at_144) rfl k) ?_
      show own_Go _ _ _ _ T17 (mkF m 146 #[.val (.long q1), .second, .val (.long q2), .second, .val (.long q3), .second, .val (.int p4), .val (.int (p4 &&& (7 : Int32))), .val (.long xx), .second, .val (.ref b12), .val (.int (own_holds q1 q2 xx)), .val (.int (1 : Int32)), .unset, .unset] [(.long xx)])
      refine own_go (fun _ k => XS.lloadN X17.here hx rfl (hb hby at_146) rfl k) ?_
      show own_Go _ _ _ _ T17 (mkF m 147 #[.val (.long q1), .second, .val (.long q2), .second, .val (.long q3), .second, .val (.int p4), .val (.int (p4 &&& (7 : Int32))), .val (.long xx), .second, .val (.ref b12), .val (.int (own_holds q1 q2 xx)), .val (.int (1 : Int32)), .unset, .unset] [(.long q2), (.long xx)])
      obtain ⟨v18, T18, h18, L18, X18, e18, hQ18, st18⟩ := own_callS X17 hx hZ hown (hw _ (List.mem_of_getElem? (i := 27) rfl)) (hw _ (List.mem_of_getElem? (i := 28) rfl)) (hw _ (List.mem_of_getElem? (i := 25) rfl)) (hw _ (List.mem_of_getElem? (i := 29) rfl)) (by decide) e17 (argsL := [(.long xx), (.long q2)]) (rest := []) (rm5 l Z a0 hw [] xx q2 h14 n0 f15) 0 (by decide) (by decide) (by decide) (by decide) (g := (mkF m 147 #[.val (.long q1), .second, .val (.long q2), .second, .val (.long q3), .second, .val (.int p4), .val (.int (p4 &&& (7 : Int32))), .val (.long xx), .second, .val (.ref b12), .val (.int (own_holds q1 q2 xx)), .val (.int (1 : Int32)), .unset, .unset] [(.long q2), (.long xx)])) rfl (by rw [hml]; rfl) (lenOf pd3 rfl) rfl (Nat.le_of_eq rfl) (hb hby at_147)
      obtain ⟨rfl, N18q, rfl⟩ := hQ18
      refine own_go (st18) ?_
      have N18 := Fr.app N17 N18q
      show own_Go _ _ _ _ T18 (mkF m 150 #[.val (.long q1), .second, .val (.long q2), .second, .val (.long q3), .second, .val (.int p4), .val (.int (p4 &&& (7 : Int32))), .val (.long xx), .second, .val (.ref b12), .val (.int (own_holds q1 q2 xx)), .val (.int (1 : Int32)), .unset, .unset] [(.long (own_min xx q2))])
      refine own_go (fun _ k => XS.lload X18.here hx rfl (hb hby at_150) rfl k) ?_
      show own_Go _ _ _ _ T18 (mkF m 152 #[.val (.long q1), .second, .val (.long q2), .second, .val (.long q3), .second, .val (.int p4), .val (.int (p4 &&& (7 : Int32))), .val (.long xx), .second, .val (.ref b12), .val (.int (own_holds q1 q2 xx)), .val (.int (1 : Int32)), .unset, .unset] [(.long xx), (.long (own_min xx q2))])
      refine own_go (fun _ k => XS.lcmp X18.here hx rfl (hb hby at_152) rfl k) ?_
      show own_Go _ _ _ _ T18 (mkF m 153 #[.val (.long q1), .second, .val (.long q2), .second, .val (.long q3), .second, .val (.int p4), .val (.int (p4 &&& (7 : Int32))), .val (.long xx), .second, .val (.ref b12), .val (.int (own_holds q1 q2 xx)), .val (.int (1 : Int32)), .unset, .unset] [(.int (lcmpW (own_min xx q2) xx))])
      by_cases hB : (own_min xx q2) = xx
      · skip
        refine own_go (fun _ k => XS.ifNo X18.here hx rfl (hb hby at_153) rfl ((if0 _ _).trans (teq ((lw_eq _ _).mpr hB)).2) k) ?_
        show own_Go _ _ _ _ T18 (mkF m 156 #[.val (.long q1), .second, .val (.long q2), .second, .val (.long q3), .second, .val (.int p4), .val (.int (p4 &&& (7 : Int32))), .val (.long xx), .second, .val (.ref b12), .val (.int (own_holds q1 q2 xx)), .val (.int (1 : Int32)), .unset, .unset] [])
        refine own_go (fun _ k => XS.lload X18.here hx rfl (hb hby at_156) rfl k) ?_
        show own_Go _ _ _ _ T18 (mkF m 158 #[.val (.long q1), .second, .val (.long q2), .second, .val (.long q3), .second, .val (.int p4), .val (.int (p4 &&& (7 : Int32))), .val (.long xx), .second, .val (.ref b12), .val (.int (own_holds q1 q2 xx)), .val (.int (1 : Int32)), .unset, .unset] [(.long xx)])
        refine own_go (fun _ k => XS.lloadN X18.here hx rfl (hb hby at_158) rfl k) ?_
        show own_Go _ _ _ _ T18 (mkF m 159 #[.val (.long q1), .second, .val (.long q2), .second, .val (.long q3), .second, .val (.int p4), .val (.int (p4 &&& (7 : Int32))), .val (.long xx), .second, .val (.ref b12), .val (.int (own_holds q1 q2 xx)), .val (.int (1 : Int32)), .unset, .unset] [(.long q2), (.long xx)])
        refine own_go (fun _ k => XS.lcmp X18.here hx rfl (hb hby at_159) rfl k) ?_
        show own_Go _ _ _ _ T18 (mkF m 160 #[.val (.long q1), .second, .val (.long q2), .second, .val (.long q3), .second, .val (.int p4), .val (.int (p4 &&& (7 : Int32))), .val (.long xx), .second, .val (.ref b12), .val (.int (own_holds q1 q2 xx)), .val (.int (1 : Int32)), .unset, .unset] [(.int (lcmpW xx q2))])
        by_cases hC : xx = q2
        · skip
          refine own_go (fun _ k => XS.ifYes X18.here hx rfl (pc0 := 160) (pc' := 167) rfl (hb hby at_160) rfl ((if0 _ _).trans (teq ((lw_eq _ _).mpr hC)).1) (by decide) (by decide) k) ?_
          show own_Go _ _ _ _ T18 (mkF m 167 #[.val (.long q1), .second, .val (.long q2), .second, .val (.long q3), .second, .val (.int p4), .val (.int (p4 &&& (7 : Int32))), .val (.long xx), .second, .val (.ref b12), .val (.int (own_holds q1 q2 xx)), .val (.int (1 : Int32)), .unset, .unset] [])
          refine own_go (fun _ k => XS.iconst X18.here hx rfl (hb hby at_167) k) ?_
          show own_Go _ _ _ _ T18 (mkF m 168 #[.val (.long q1), .second, .val (.long q2), .second, .val (.long q3), .second, .val (.int p4), .val (.int (p4 &&& (7 : Int32))), .val (.long xx), .second, .val (.ref b12), .val (.int (own_holds q1 q2 xx)), .val (.int (1 : Int32)), .unset, .unset] [(.int (0 : Int32))])
          refine own_go (fun _ k => XS.istore X18.here hx rfl (hb hby at_168) rfl (l' := #[.val (.long q1), .second, .val (.long q2), .second, .val (.long q3), .second, .val (.int p4), .val (.int (p4 &&& (7 : Int32))), .val (.long xx), .second, .val (.ref b12), .val (.int (own_holds q1 q2 xx)), .val (.int (1 : Int32)), .val (.int (0 : Int32)), .unset]) rfl k) ?_
          show own_Go _ _ _ _ T18 (mkF m 170 #[.val (.long q1), .second, .val (.long q2), .second, .val (.long q3), .second, .val (.int p4), .val (.int (p4 &&& (7 : Int32))), .val (.long xx), .second, .val (.ref b12), .val (.int (own_holds q1 q2 xx)), .val (.int (1 : Int32)), .val (.int (0 : Int32)), .unset] [])
          refine own_go (fun _ k => XS.iload X18.here hx rfl (hb hby at_170) rfl k) ?_
          show own_Go _ _ _ _ T18 (mkF m 172 #[.val (.long q1), .second, .val (.long q2), .second, .val (.long q3), .second, .val (.int p4), .val (.int (p4 &&& (7 : Int32))), .val (.long xx), .second, .val (.ref b12), .val (.int (own_holds q1 q2 xx)), .val (.int (1 : Int32)), .val (.int (0 : Int32)), .unset] [(.int (1 : Int32))])
          refine own_go (fun _ k => XS.ifNo X18.here hx rfl (hb hby at_172) rfl ((if0 _ _).trans (feq (by decide)).1) k) ?_
          show own_Go _ _ _ _ T18 (mkF m 175 #[.val (.long q1), .second, .val (.long q2), .second, .val (.long q3), .second, .val (.int p4), .val (.int (p4 &&& (7 : Int32))), .val (.long xx), .second, .val (.ref b12), .val (.int (own_holds q1 q2 xx)), .val (.int (1 : Int32)), .val (.int (0 : Int32)), .unset] [])
          refine own_go (fun _ k => XS.iload X18.here hx rfl (hb hby at_175) rfl k) ?_
          show own_Go _ _ _ _ T18 (mkF m 177 #[.val (.long q1), .second, .val (.long q2), .second, .val (.long q3), .second, .val (.int p4), .val (.int (p4 &&& (7 : Int32))), .val (.long xx), .second, .val (.ref b12), .val (.int (own_holds q1 q2 xx)), .val (.int (1 : Int32)), .val (.int (0 : Int32)), .unset] [(.int (0 : Int32))])
          refine own_go (fun _ k => XS.ifYes X18.here hx rfl (pc0 := 177) (pc' := 184) rfl (hb hby at_177) rfl ((if0 _ _).trans (teq rfl).1) (by decide) (by decide) k) ?_
          show own_Go _ _ _ _ T18 (mkF m 184 #[.val (.long q1), .second, .val (.long q2), .second, .val (.long q3), .second, .val (.int p4), .val (.int (p4 &&& (7 : Int32))), .val (.long xx), .second, .val (.ref b12), .val (.int (own_holds q1 q2 xx)), .val (.int (1 : Int32)), .val (.int (0 : Int32)), .unset] [])
          refine own_go (fun _ k => XS.iconst X18.here hx rfl (hb hby at_184) k) ?_
          show own_Go _ _ _ _ T18 (mkF m 185 #[.val (.long q1), .second, .val (.long q2), .second, .val (.long q3), .second, .val (.int p4), .val (.int (p4 &&& (7 : Int32))), .val (.long xx), .second, .val (.ref b12), .val (.int (own_holds q1 q2 xx)), .val (.int (1 : Int32)), .val (.int (0 : Int32)), .unset] [(.int (0 : Int32))])
          refine own_go (fun _ k => XS.istore X18.here hx rfl (hb hby at_185) rfl (l' := #[.val (.long q1), .second, .val (.long q2), .second, .val (.long q3), .second, .val (.int p4), .val (.int (p4 &&& (7 : Int32))), .val (.long xx), .second, .val (.ref b12), .val (.int (own_holds q1 q2 xx)), .val (.int (1 : Int32)), .val (.int (0 : Int32)), .val (.int (0 : Int32))]) rfl k) ?_
          show own_Go _ _ _ _ T18 (mkF m 187 #[.val (.long q1), .second, .val (.long q2), .second, .val (.long q3), .second, .val (.int p4), .val (.int (p4 &&& (7 : Int32))), .val (.long xx), .second, .val (.ref b12), .val (.int (own_holds q1 q2 xx)), .val (.int (1 : Int32)), .val (.int (0 : Int32)), .val (.int (0 : Int32))] [])
          refine own_go (fun _ k => XS.iload X18.here hx rfl (hb hby at_187) rfl k) ?_
          show own_Go _ _ _ _ T18 (mkF m 189 #[.val (.long q1), .second, .val (.long q2), .second, .val (.long q3), .second, .val (.int p4), .val (.int (p4 &&& (7 : Int32))), .val (.long xx), .second, .val (.ref b12), .val (.int (own_holds q1 q2 xx)), .val (.int (1 : Int32)), .val (.int (0 : Int32)), .val (.int (0 : Int32))] [(.int (own_holds q1 q2 xx))])
          refine own_go (fun _ k => XS.iload X18.here hx rfl (hb hby at_189) rfl k) ?_
          show own_Go _ _ _ _ T18 (mkF m 191 #[.val (.long q1), .second, .val (.long q2), .second, .val (.long q3), .second, .val (.int p4), .val (.int (p4 &&& (7 : Int32))), .val (.long xx), .second, .val (.ref b12), .val (.int (own_holds q1 q2 xx)), .val (.int (1 : Int32)), .val (.int (0 : Int32)), .val (.int (0 : Int32))] [(.int (0 : Int32)), (.int (own_holds q1 q2 xx))])
          refine own_go (fun _ k => XS.icmpNo X18.here hx rfl (hb hby at_191) rfl (teq (own_h0 (Or.inr (Or.inr hC)))).2 k) ?_
          show own_Go _ _ _ _ T18 (mkF m 194 #[.val (.long q1), .second, .val (.long q2), .second, .val (.long q3), .second, .val (.int p4), .val (.int (p4 &&& (7 : Int32))), .val (.long xx), .second, .val (.ref b12), .val (.int (own_holds q1 q2 xx)), .val (.int (1 : Int32)), .val (.int (0 : Int32)), .val (.int (0 : Int32))] [])
          refine own_go (fun _ k => XS.iconst X18.here hx rfl (hb hby at_194) k) ?_
          show own_Go _ _ _ _ T18 (mkF m 195 #[.val (.long q1), .second, .val (.long q2), .second, .val (.long q3), .second, .val (.int p4), .val (.int (p4 &&& (7 : Int32))), .val (.long xx), .second, .val (.ref b12), .val (.int (own_holds q1 q2 xx)), .val (.int (1 : Int32)), .val (.int (0 : Int32)), .val (.int (0 : Int32))] [(.int (1 : Int32))])
          refine own_go (fun _ k => XS.goto X18.here hx rfl (pc0 := 195) (pc' := 199) rfl (hb hby at_195) (by decide) (by decide) k) ?_
          show own_Go _ _ _ _ T18 (mkF m 199 #[.val (.long q1), .second, .val (.long q2), .second, .val (.long q3), .second, .val (.int p4), .val (.int (p4 &&& (7 : Int32))), .val (.long xx), .second, .val (.ref b12), .val (.int (own_holds q1 q2 xx)), .val (.int (1 : Int32)), .val (.int (0 : Int32)), .val (.int (0 : Int32))] [(.int (1 : Int32))])
          exact own_retN X18 hx hret (by simp) hlk (hb hby at_199) (by decide) (by decide) (by first | exact ⟨rfl, N18⟩ | (rw [e18]; exact ⟨rfl, N18⟩))
        · skip
          refine own_go (fun _ k => XS.ifNo X18.here hx rfl (hb hby at_160) rfl ((if0 _ _).trans (feq (fun q => hC ((lw_eq _ _).mp q))).1) k) ?_
          show own_Go _ _ _ _ T18 (mkF m 163 #[.val (.long q1), .second, .val (.long q2), .second, .val (.long q3), .second, .val (.int p4), .val (.int (p4 &&& (7 : Int32))), .val (.long xx), .second, .val (.ref b12), .val (.int (own_holds q1 q2 xx)), .val (.int (1 : Int32)), .unset, .unset] [])
          refine own_go (fun _ k => XS.iconst X18.here hx rfl (hb hby at_163) k) ?_
          show own_Go _ _ _ _ T18 (mkF m 164 #[.val (.long q1), .second, .val (.long q2), .second, .val (.long q3), .second, .val (.int p4), .val (.int (p4 &&& (7 : Int32))), .val (.long xx), .second, .val (.ref b12), .val (.int (own_holds q1 q2 xx)), .val (.int (1 : Int32)), .unset, .unset] [(.int (1 : Int32))])
          refine own_go (fun _ k => XS.goto X18.here hx rfl (pc0 := 164) (pc' := 168) rfl (hb hby at_164) (by decide) (by decide) k) ?_
          show own_Go _ _ _ _ T18 (mkF m 168 #[.val (.long q1), .second, .val (.long q2), .second, .val (.long q3), .second, .val (.int p4), .val (.int (p4 &&& (7 : Int32))), .val (.long xx), .second, .val (.ref b12), .val (.int (own_holds q1 q2 xx)), .val (.int (1 : Int32)), .unset, .unset] [(.int (1 : Int32))])
          refine own_go (fun _ k => XS.istore X18.here hx rfl (hb hby at_168) rfl (l' := #[.val (.long q1), .second, .val (.long q2), .second, .val (.long q3), .second, .val (.int p4), .val (.int (p4 &&& (7 : Int32))), .val (.long xx), .second, .val (.ref b12), .val (.int (own_holds q1 q2 xx)), .val (.int (1 : Int32)), .val (.int (1 : Int32)), .unset]) rfl k) ?_
          show own_Go _ _ _ _ T18 (mkF m 170 #[.val (.long q1), .second, .val (.long q2), .second, .val (.long q3), .second, .val (.int p4), .val (.int (p4 &&& (7 : Int32))), .val (.long xx), .second, .val (.ref b12), .val (.int (own_holds q1 q2 xx)), .val (.int (1 : Int32)), .val (.int (1 : Int32)), .unset] [])
          refine own_go (fun _ k => XS.iload X18.here hx rfl (hb hby at_170) rfl k) ?_
          show own_Go _ _ _ _ T18 (mkF m 172 #[.val (.long q1), .second, .val (.long q2), .second, .val (.long q3), .second, .val (.int p4), .val (.int (p4 &&& (7 : Int32))), .val (.long xx), .second, .val (.ref b12), .val (.int (own_holds q1 q2 xx)), .val (.int (1 : Int32)), .val (.int (1 : Int32)), .unset] [(.int (1 : Int32))])
          refine own_go (fun _ k => XS.ifNo X18.here hx rfl (hb hby at_172) rfl ((if0 _ _).trans (feq (by decide)).1) k) ?_
          show own_Go _ _ _ _ T18 (mkF m 175 #[.val (.long q1), .second, .val (.long q2), .second, .val (.long q3), .second, .val (.int p4), .val (.int (p4 &&& (7 : Int32))), .val (.long xx), .second, .val (.ref b12), .val (.int (own_holds q1 q2 xx)), .val (.int (1 : Int32)), .val (.int (1 : Int32)), .unset] [])
          refine own_go (fun _ k => XS.iload X18.here hx rfl (hb hby at_175) rfl k) ?_
          show own_Go _ _ _ _ T18 (mkF m 177 #[.val (.long q1), .second, .val (.long q2), .second, .val (.long q3), .second, .val (.int p4), .val (.int (p4 &&& (7 : Int32))), .val (.long xx), .second, .val (.ref b12), .val (.int (own_holds q1 q2 xx)), .val (.int (1 : Int32)), .val (.int (1 : Int32)), .unset] [(.int (1 : Int32))])
          refine own_go (fun _ k => XS.ifNo X18.here hx rfl (hb hby at_177) rfl ((if0 _ _).trans (feq (by decide)).1) k) ?_
          show own_Go _ _ _ _ T18 (mkF m 180 #[.val (.long q1), .second, .val (.long q2), .second, .val (.long q3), .second, .val (.int p4), .val (.int (p4 &&& (7 : Int32))), .val (.long xx), .second, .val (.ref b12), .val (.int (own_holds q1 q2 xx)), .val (.int (1 : Int32)), .val (.int (1 : Int32)), .unset] [])
          refine own_go (fun _ k => XS.iconst X18.here hx rfl (hb hby at_180) k) ?_
          show own_Go _ _ _ _ T18 (mkF m 181 #[.val (.long q1), .second, .val (.long q2), .second, .val (.long q3), .second, .val (.int p4), .val (.int (p4 &&& (7 : Int32))), .val (.long xx), .second, .val (.ref b12), .val (.int (own_holds q1 q2 xx)), .val (.int (1 : Int32)), .val (.int (1 : Int32)), .unset] [(.int (1 : Int32))])
          refine own_go (fun _ k => XS.goto X18.here hx rfl (pc0 := 181) (pc' := 185) rfl (hb hby at_181) (by decide) (by decide) k) ?_
          show own_Go _ _ _ _ T18 (mkF m 185 #[.val (.long q1), .second, .val (.long q2), .second, .val (.long q3), .second, .val (.int p4), .val (.int (p4 &&& (7 : Int32))), .val (.long xx), .second, .val (.ref b12), .val (.int (own_holds q1 q2 xx)), .val (.int (1 : Int32)), .val (.int (1 : Int32)), .unset] [(.int (1 : Int32))])
          refine own_go (fun _ k => XS.istore X18.here hx rfl (hb hby at_185) rfl (l' := #[.val (.long q1), .second, .val (.long q2), .second, .val (.long q3), .second, .val (.int p4), .val (.int (p4 &&& (7 : Int32))), .val (.long xx), .second, .val (.ref b12), .val (.int (own_holds q1 q2 xx)), .val (.int (1 : Int32)), .val (.int (1 : Int32)), .val (.int (1 : Int32))]) rfl k) ?_
          show own_Go _ _ _ _ T18 (mkF m 187 #[.val (.long q1), .second, .val (.long q2), .second, .val (.long q3), .second, .val (.int p4), .val (.int (p4 &&& (7 : Int32))), .val (.long xx), .second, .val (.ref b12), .val (.int (own_holds q1 q2 xx)), .val (.int (1 : Int32)), .val (.int (1 : Int32)), .val (.int (1 : Int32))] [])
          refine own_go (fun _ k => XS.iload X18.here hx rfl (hb hby at_187) rfl k) ?_
          show own_Go _ _ _ _ T18 (mkF m 189 #[.val (.long q1), .second, .val (.long q2), .second, .val (.long q3), .second, .val (.int p4), .val (.int (p4 &&& (7 : Int32))), .val (.long xx), .second, .val (.ref b12), .val (.int (own_holds q1 q2 xx)), .val (.int (1 : Int32)), .val (.int (1 : Int32)), .val (.int (1 : Int32))] [(.int (own_holds q1 q2 xx))])
          refine own_go (fun _ k => XS.iload X18.here hx rfl (hb hby at_189) rfl k) ?_
          show own_Go _ _ _ _ T18 (mkF m 191 #[.val (.long q1), .second, .val (.long q2), .second, .val (.long q3), .second, .val (.int p4), .val (.int (p4 &&& (7 : Int32))), .val (.long xx), .second, .val (.ref b12), .val (.int (own_holds q1 q2 xx)), .val (.int (1 : Int32)), .val (.int (1 : Int32)), .val (.int (1 : Int32))] [(.int (1 : Int32)), (.int (own_holds q1 q2 xx))])
          refine own_go (fun _ k => XS.icmpNo X18.here hx rfl (hb hby at_191) rfl (teq (own_h1 hA hB hC)).2 k) ?_
          show own_Go _ _ _ _ T18 (mkF m 194 #[.val (.long q1), .second, .val (.long q2), .second, .val (.long q3), .second, .val (.int p4), .val (.int (p4 &&& (7 : Int32))), .val (.long xx), .second, .val (.ref b12), .val (.int (own_holds q1 q2 xx)), .val (.int (1 : Int32)), .val (.int (1 : Int32)), .val (.int (1 : Int32))] [])
          refine own_go (fun _ k => XS.iconst X18.here hx rfl (hb hby at_194) k) ?_
          show own_Go _ _ _ _ T18 (mkF m 195 #[.val (.long q1), .second, .val (.long q2), .second, .val (.long q3), .second, .val (.int p4), .val (.int (p4 &&& (7 : Int32))), .val (.long xx), .second, .val (.ref b12), .val (.int (own_holds q1 q2 xx)), .val (.int (1 : Int32)), .val (.int (1 : Int32)), .val (.int (1 : Int32))] [(.int (1 : Int32))])
          refine own_go (fun _ k => XS.goto X18.here hx rfl (pc0 := 195) (pc' := 199) rfl (hb hby at_195) (by decide) (by decide) k) ?_
          show own_Go _ _ _ _ T18 (mkF m 199 #[.val (.long q1), .second, .val (.long q2), .second, .val (.long q3), .second, .val (.int p4), .val (.int (p4 &&& (7 : Int32))), .val (.long xx), .second, .val (.ref b12), .val (.int (own_holds q1 q2 xx)), .val (.int (1 : Int32)), .val (.int (1 : Int32)), .val (.int (1 : Int32))] [(.int (1 : Int32))])
          exact own_retN X18 hx hret (by simp) hlk (hb hby at_199) (by decide) (by decide) (by first | exact ⟨rfl, N18⟩ | (rw [e18]; exact ⟨rfl, N18⟩))
      · skip
        refine own_go (fun _ k => XS.ifYes X18.here hx rfl (pc0 := 153) (pc' := 167) rfl (hb hby at_153) rfl ((if0 _ _).trans (feq (fun q => hB ((lw_eq _ _).mp q))).2) (by decide) (by decide) k) ?_
        show own_Go _ _ _ _ T18 (mkF m 167 #[.val (.long q1), .second, .val (.long q2), .second, .val (.long q3), .second, .val (.int p4), .val (.int (p4 &&& (7 : Int32))), .val (.long xx), .second, .val (.ref b12), .val (.int (own_holds q1 q2 xx)), .val (.int (1 : Int32)), .unset, .unset] [])
        refine own_go (fun _ k => XS.iconst X18.here hx rfl (hb hby at_167) k) ?_
        show own_Go _ _ _ _ T18 (mkF m 168 #[.val (.long q1), .second, .val (.long q2), .second, .val (.long q3), .second, .val (.int p4), .val (.int (p4 &&& (7 : Int32))), .val (.long xx), .second, .val (.ref b12), .val (.int (own_holds q1 q2 xx)), .val (.int (1 : Int32)), .unset, .unset] [(.int (0 : Int32))])
        refine own_go (fun _ k => XS.istore X18.here hx rfl (hb hby at_168) rfl (l' := #[.val (.long q1), .second, .val (.long q2), .second, .val (.long q3), .second, .val (.int p4), .val (.int (p4 &&& (7 : Int32))), .val (.long xx), .second, .val (.ref b12), .val (.int (own_holds q1 q2 xx)), .val (.int (1 : Int32)), .val (.int (0 : Int32)), .unset]) rfl k) ?_
        show own_Go _ _ _ _ T18 (mkF m 170 #[.val (.long q1), .second, .val (.long q2), .second, .val (.long q3), .second, .val (.int p4), .val (.int (p4 &&& (7 : Int32))), .val (.long xx), .second, .val (.ref b12), .val (.int (own_holds q1 q2 xx)), .val (.int (1 : Int32)), .val (.int (0 : Int32)), .unset] [])
        refine own_go (fun _ k => XS.iload X18.here hx rfl (hb hby at_170) rfl k) ?_
        show own_Go _ _ _ _ T18 (mkF m 172 #[.val (.long q1), .second, .val (.long q2), .second, .val (.long q3), .second, .val (.int p4), .val (.int (p4 &&& (7 : Int32))), .val (.long xx), .second, .val (.ref b12), .val (.int (own_holds q1 q2 xx)), .val (.int (1 : Int32)), .val (.int (0 : Int32)), .unset] [(.int (1 : Int32))])
        refine own_go (fun _ k => XS.ifNo X18.here hx rfl (hb hby at_172) rfl ((if0 _ _).trans (feq (by decide)).1) k) ?_
        show own_Go _ _ _ _ T18 (mkF m 175 #[.val (.long q1), .second, .val (.long q2), .second, .val (.long q3), .second, .val (.int p4), .val (.int (p4 &&& (7 : Int32))), .val (.long xx), .second, .val (.ref b12), .val (.int (own_holds q1 q2 xx)), .val (.int (1 : Int32)), .val (.int (0 : Int32)), .unset] [])
        refine own_go (fun _ k => XS.iload X18.here hx rfl (hb hby at_175) rfl k) ?_
        show own_Go _ _ _ _ T18 (mkF m 177 #[.val (.long q1), .second, .val (.long q2), .second, .val (.long q3), .second, .val (.int p4), .val (.int (p4 &&& (7 : Int32))), .val (.long xx), .second, .val (.ref b12), .val (.int (own_holds q1 q2 xx)), .val (.int (1 : Int32)), .val (.int (0 : Int32)), .unset] [(.int (0 : Int32))])
        refine own_go (fun _ k => XS.ifYes X18.here hx rfl (pc0 := 177) (pc' := 184) rfl (hb hby at_177) rfl ((if0 _ _).trans (teq rfl).1) (by decide) (by decide) k) ?_
        show own_Go _ _ _ _ T18 (mkF m 184 #[.val (.long q1), .second, .val (.long q2), .second, .val (.long q3), .second, .val (.int p4), .val (.int (p4 &&& (7 : Int32))), .val (.long xx), .second, .val (.ref b12), .val (.int (own_holds q1 q2 xx)), .val (.int (1 : Int32)), .val (.int (0 : Int32)), .unset] [])
        refine own_go (fun _ k => XS.iconst X18.here hx rfl (hb hby at_184) k) ?_
        show own_Go _ _ _ _ T18 (mkF m 185 #[.val (.long q1), .second, .val (.long q2), .second, .val (.long q3), .second, .val (.int p4), .val (.int (p4 &&& (7 : Int32))), .val (.long xx), .second, .val (.ref b12), .val (.int (own_holds q1 q2 xx)), .val (.int (1 : Int32)), .val (.int (0 : Int32)), .unset] [(.int (0 : Int32))])
        refine own_go (fun _ k => XS.istore X18.here hx rfl (hb hby at_185) rfl (l' := #[.val (.long q1), .second, .val (.long q2), .second, .val (.long q3), .second, .val (.int p4), .val (.int (p4 &&& (7 : Int32))), .val (.long xx), .second, .val (.ref b12), .val (.int (own_holds q1 q2 xx)), .val (.int (1 : Int32)), .val (.int (0 : Int32)), .val (.int (0 : Int32))]) rfl k) ?_
        show own_Go _ _ _ _ T18 (mkF m 187 #[.val (.long q1), .second, .val (.long q2), .second, .val (.long q3), .second, .val (.int p4), .val (.int (p4 &&& (7 : Int32))), .val (.long xx), .second, .val (.ref b12), .val (.int (own_holds q1 q2 xx)), .val (.int (1 : Int32)), .val (.int (0 : Int32)), .val (.int (0 : Int32))] [])
        refine own_go (fun _ k => XS.iload X18.here hx rfl (hb hby at_187) rfl k) ?_
        show own_Go _ _ _ _ T18 (mkF m 189 #[.val (.long q1), .second, .val (.long q2), .second, .val (.long q3), .second, .val (.int p4), .val (.int (p4 &&& (7 : Int32))), .val (.long xx), .second, .val (.ref b12), .val (.int (own_holds q1 q2 xx)), .val (.int (1 : Int32)), .val (.int (0 : Int32)), .val (.int (0 : Int32))] [(.int (own_holds q1 q2 xx))])
        refine own_go (fun _ k => XS.iload X18.here hx rfl (hb hby at_189) rfl k) ?_
        show own_Go _ _ _ _ T18 (mkF m 191 #[.val (.long q1), .second, .val (.long q2), .second, .val (.long q3), .second, .val (.int p4), .val (.int (p4 &&& (7 : Int32))), .val (.long xx), .second, .val (.ref b12), .val (.int (own_holds q1 q2 xx)), .val (.int (1 : Int32)), .val (.int (0 : Int32)), .val (.int (0 : Int32))] [(.int (0 : Int32)), (.int (own_holds q1 q2 xx))])
        refine own_go (fun _ k => XS.icmpNo X18.here hx rfl (hb hby at_191) rfl (teq (own_h0 (Or.inr (Or.inl hB)))).2 k) ?_
        show own_Go _ _ _ _ T18 (mkF m 194 #[.val (.long q1), .second, .val (.long q2), .second, .val (.long q3), .second, .val (.int p4), .val (.int (p4 &&& (7 : Int32))), .val (.long xx), .second, .val (.ref b12), .val (.int (own_holds q1 q2 xx)), .val (.int (1 : Int32)), .val (.int (0 : Int32)), .val (.int (0 : Int32))] [])
        refine own_go (fun _ k => XS.iconst X18.here hx rfl (hb hby at_194) k) ?_
        show own_Go _ _ _ _ T18 (mkF m 195 #[.val (.long q1), .second, .val (.long q2), .second, .val (.long q3), .second, .val (.int p4), .val (.int (p4 &&& (7 : Int32))), .val (.long xx), .second, .val (.ref b12), .val (.int (own_holds q1 q2 xx)), .val (.int (1 : Int32)), .val (.int (0 : Int32)), .val (.int (0 : Int32))] [(.int (1 : Int32))])
        refine own_go (fun _ k => XS.goto X18.here hx rfl (pc0 := 195) (pc' := 199) rfl (hb hby at_195) (by decide) (by decide) k) ?_
        show own_Go _ _ _ _ T18 (mkF m 199 #[.val (.long q1), .second, .val (.long q2), .second, .val (.long q3), .second, .val (.int p4), .val (.int (p4 &&& (7 : Int32))), .val (.long xx), .second, .val (.ref b12), .val (.int (own_holds q1 q2 xx)), .val (.int (1 : Int32)), .val (.int (0 : Int32)), .val (.int (0 : Int32))] [(.int (1 : Int32))])
        exact own_retN X18 hx hret (by simp) hlk (hb hby at_199) (by decide) (by decide) (by first | exact ⟨rfl, N18⟩ | (rw [e18]; exact ⟨rfl, N18⟩))
    · skip
      refine own_go (fun _ k => XS.ifYes X17.here hx rfl (pc0 := 134) (pc' := 141) rfl (hb hby at_134) rfl ((if0 _ _).trans (feq (fun q => hA ((lw_eq _ _).mp q))).2) (by decide) (by decide) k) ?_
      show own_Go _ _ _ _ T17 (mkF m 141 #[.val (.long q1), .second, .val (.long q2), .second, .val (.long q3), .second, .val (.int p4), .val (.int (p4 &&& (7 : Int32))), .val (.long xx), .second, .val (.ref b12), .val (.int (own_holds q1 q2 xx)), .unset, .unset, .unset] [])
      refine own_go (fun _ k => XS.iconst X17.here hx rfl (hb hby at_141) k) ?_
      show own_Go _ _ _ _ T17 (mkF m 142 #[.val (.long q1), .second, .val (.long q2), .second, .val (.long q3), .second, .val (.int p4), .val (.int (p4 &&& (7 : Int32))), .val (.long xx), .second, .val (.ref b12), .val (.int (own_holds q1 q2 xx)), .unset, .unset, .unset] [(.int (0 : Int32))])
      refine own_go (fun _ k => XS.istore X17.here hx rfl (hb hby at_142) rfl (l' := #[.val (.long q1), .second, .val (.long q2), .second, .val (.long q3), .second, .val (.int p4), .val (.int (p4 &&& (7 : Int32))), .val (.long xx), .second, .val (.ref b12), .val (.int (own_holds q1 q2 xx)), .val (.int (0 : Int32)), .unset, .unset]) rfl k) ?_
      show own_Go _ _ _ _ T17 (mkF m 144 #[.val (.long q1), .second, .val (.long q2), .second, .val (.long q3), .second, .val (.int p4), .val (.int (p4 &&& (7 : Int32))), .val (.long xx), .second, .val (.ref b12), .val (.int (own_holds q1 q2 xx)), .val (.int (0 : Int32)), .unset, .unset] [])
      refine own_go (fun _ k => XS.lload X17.here hx rfl (hb hby at_144) rfl k) ?_
      show own_Go _ _ _ _ T17 (mkF m 146 #[.val (.long q1), .second, .val (.long q2), .second, .val (.long q3), .second, .val (.int p4), .val (.int (p4 &&& (7 : Int32))), .val (.long xx), .second, .val (.ref b12), .val (.int (own_holds q1 q2 xx)), .val (.int (0 : Int32)), .unset, .unset] [(.long xx)])
      refine own_go (fun _ k => XS.lloadN X17.here hx rfl (hb hby at_146) rfl k) ?_
      show own_Go _ _ _ _ T17 (mkF m 147 #[.val (.long q1), .second, .val (.long q2), .second, .val (.long q3), .second, .val (.int p4), .val (.int (p4 &&& (7 : Int32))), .val (.long xx), .second, .val (.ref b12), .val (.int (own_holds q1 q2 xx)), .val (.int (0 : Int32)), .unset, .unset] [(.long q2), (.long xx)])
      obtain ⟨v19, T19, h19, L19, X19, e19, hQ19, st19⟩ := own_callS X17 hx hZ hown (hw _ (List.mem_of_getElem? (i := 27) rfl)) (hw _ (List.mem_of_getElem? (i := 28) rfl)) (hw _ (List.mem_of_getElem? (i := 25) rfl)) (hw _ (List.mem_of_getElem? (i := 29) rfl)) (by decide) e17 (argsL := [(.long xx), (.long q2)]) (rest := []) (rm5 l Z a0 hw [] xx q2 h14 n0 f15) 0 (by decide) (by decide) (by decide) (by decide) (g := (mkF m 147 #[.val (.long q1), .second, .val (.long q2), .second, .val (.long q3), .second, .val (.int p4), .val (.int (p4 &&& (7 : Int32))), .val (.long xx), .second, .val (.ref b12), .val (.int (own_holds q1 q2 xx)), .val (.int (0 : Int32)), .unset, .unset] [(.long q2), (.long xx)])) rfl (by rw [hml]; rfl) (lenOf pd3 rfl) rfl (Nat.le_of_eq rfl) (hb hby at_147)
      obtain ⟨rfl, N19q, rfl⟩ := hQ19
      refine own_go (st19) ?_
      have N19 := Fr.app N17 N19q
      show own_Go _ _ _ _ T19 (mkF m 150 #[.val (.long q1), .second, .val (.long q2), .second, .val (.long q3), .second, .val (.int p4), .val (.int (p4 &&& (7 : Int32))), .val (.long xx), .second, .val (.ref b12), .val (.int (own_holds q1 q2 xx)), .val (.int (0 : Int32)), .unset, .unset] [(.long (own_min xx q2))])
      refine own_go (fun _ k => XS.lload X19.here hx rfl (hb hby at_150) rfl k) ?_
      show own_Go _ _ _ _ T19 (mkF m 152 #[.val (.long q1), .second, .val (.long q2), .second, .val (.long q3), .second, .val (.int p4), .val (.int (p4 &&& (7 : Int32))), .val (.long xx), .second, .val (.ref b12), .val (.int (own_holds q1 q2 xx)), .val (.int (0 : Int32)), .unset, .unset] [(.long xx), (.long (own_min xx q2))])
      refine own_go (fun _ k => XS.lcmp X19.here hx rfl (hb hby at_152) rfl k) ?_
      show own_Go _ _ _ _ T19 (mkF m 153 #[.val (.long q1), .second, .val (.long q2), .second, .val (.long q3), .second, .val (.int p4), .val (.int (p4 &&& (7 : Int32))), .val (.long xx), .second, .val (.ref b12), .val (.int (own_holds q1 q2 xx)), .val (.int (0 : Int32)), .unset, .unset] [(.int (lcmpW (own_min xx q2) xx))])
      by_cases hB : (own_min xx q2) = xx
      · skip
        refine own_go (fun _ k => XS.ifNo X19.here hx rfl (hb hby at_153) rfl ((if0 _ _).trans (teq ((lw_eq _ _).mpr hB)).2) k) ?_
        show own_Go _ _ _ _ T19 (mkF m 156 #[.val (.long q1), .second, .val (.long q2), .second, .val (.long q3), .second, .val (.int p4), .val (.int (p4 &&& (7 : Int32))), .val (.long xx), .second, .val (.ref b12), .val (.int (own_holds q1 q2 xx)), .val (.int (0 : Int32)), .unset, .unset] [])
        refine own_go (fun _ k => XS.lload X19.here hx rfl (hb hby at_156) rfl k) ?_
        show own_Go _ _ _ _ T19 (mkF m 158 #[.val (.long q1), .second, .val (.long q2), .second, .val (.long q3), .second, .val (.int p4), .val (.int (p4 &&& (7 : Int32))), .val (.long xx), .second, .val (.ref b12), .val (.int (own_holds q1 q2 xx)), .val (.int (0 : Int32)), .unset, .unset] [(.long xx)])
        refine own_go (fun _ k => XS.lloadN X19.here hx rfl (hb hby at_158) rfl k) ?_
        show own_Go _ _ _ _ T19 (mkF m 159 #[.val (.long q1), .second, .val (.long q2), .second, .val (.long q3), .second, .val (.int p4), .val (.int (p4 &&& (7 : Int32))), .val (.long xx), .second, .val (.ref b12), .val (.int (own_holds q1 q2 xx)), .val (.int (0 : Int32)), .unset, .unset] [(.long q2), (.long xx)])
        refine own_go (fun _ k => XS.lcmp X19.here hx rfl (hb hby at_159) rfl k) ?_
        show own_Go _ _ _ _ T19 (mkF m 160 #[.val (.long q1), .second, .val (.long q2), .second, .val (.long q3), .second, .val (.int p4), .val (.int (p4 &&& (7 : Int32))), .val (.long xx), .second, .val (.ref b12), .val (.int (own_holds q1 q2 xx)), .val (.int (0 : Int32)), .unset, .unset] [(.int (lcmpW xx q2))])
        by_cases hC : xx = q2
        · skip
          refine own_go (fun _ k => XS.ifYes X19.here hx rfl (pc0 := 160) (pc' := 167) rfl (hb hby at_160) rfl ((if0 _ _).trans (teq ((lw_eq _ _).mpr hC)).1) (by decide) (by decide) k) ?_
          show own_Go _ _ _ _ T19 (mkF m 167 #[.val (.long q1), .second, .val (.long q2), .second, .val (.long q3), .second, .val (.int p4), .val (.int (p4 &&& (7 : Int32))), .val (.long xx), .second, .val (.ref b12), .val (.int (own_holds q1 q2 xx)), .val (.int (0 : Int32)), .unset, .unset] [])
          refine own_go (fun _ k => XS.iconst X19.here hx rfl (hb hby at_167) k) ?_
          show own_Go _ _ _ _ T19 (mkF m 168 #[.val (.long q1), .second, .val (.long q2), .second, .val (.long q3), .second, .val (.int p4), .val (.int (p4 &&& (7 : Int32))), .val (.long xx), .second, .val (.ref b12), .val (.int (own_holds q1 q2 xx)), .val (.int (0 : Int32)), .unset, .unset] [(.int (0 : Int32))])
          refine own_go (fun _ k => XS.istore X19.here hx rfl (hb hby at_168) rfl (l' := #[.val (.long q1), .second, .val (.long q2), .second, .val (.long q3), .second, .val (.int p4), .val (.int (p4 &&& (7 : Int32))), .val (.long xx), .second, .val (.ref b12), .val (.int (own_holds q1 q2 xx)), .val (.int (0 : Int32)), .val (.int (0 : Int32)), .unset]) rfl k) ?_
          show own_Go _ _ _ _ T19 (mkF m 170 #[.val (.long q1), .second, .val (.long q2), .second, .val (.long q3), .second, .val (.int p4), .val (.int (p4 &&& (7 : Int32))), .val (.long xx), .second, .val (.ref b12), .val (.int (own_holds q1 q2 xx)), .val (.int (0 : Int32)), .val (.int (0 : Int32)), .unset] [])
          refine own_go (fun _ k => XS.iload X19.here hx rfl (hb hby at_170) rfl k) ?_
          show own_Go _ _ _ _ T19 (mkF m 172 #[.val (.long q1), .second, .val (.long q2), .second, .val (.long q3), .second, .val (.int p4), .val (.int (p4 &&& (7 : Int32))), .val (.long xx), .second, .val (.ref b12), .val (.int (own_holds q1 q2 xx)), .val (.int (0 : Int32)), .val (.int (0 : Int32)), .unset] [(.int (0 : Int32))])
          refine own_go (fun _ k => XS.ifYes X19.here hx rfl (pc0 := 172) (pc' := 184) rfl (hb hby at_172) rfl ((if0 _ _).trans (teq rfl).1) (by decide) (by decide) k) ?_
          show own_Go _ _ _ _ T19 (mkF m 184 #[.val (.long q1), .second, .val (.long q2), .second, .val (.long q3), .second, .val (.int p4), .val (.int (p4 &&& (7 : Int32))), .val (.long xx), .second, .val (.ref b12), .val (.int (own_holds q1 q2 xx)), .val (.int (0 : Int32)), .val (.int (0 : Int32)), .unset] [])
          refine own_go (fun _ k => XS.iconst X19.here hx rfl (hb hby at_184) k) ?_
          show own_Go _ _ _ _ T19 (mkF m 185 #[.val (.long q1), .second, .val (.long q2), .second, .val (.long q3), .second, .val (.int p4), .val (.int (p4 &&& (7 : Int32))), .val (.long xx), .second, .val (.ref b12), .val (.int (own_holds q1 q2 xx)), .val (.int (0 : Int32)), .val (.int (0 : Int32)), .unset] [(.int (0 : Int32))])
          refine own_go (fun _ k => XS.istore X19.here hx rfl (hb hby at_185) rfl (l' := #[.val (.long q1), .second, .val (.long q2), .second, .val (.long q3), .second, .val (.int p4), .val (.int (p4 &&& (7 : Int32))), .val (.long xx), .second, .val (.ref b12), .val (.int (own_holds q1 q2 xx)), .val (.int (0 : Int32)), .val (.int (0 : Int32)), .val (.int (0 : Int32))]) rfl k) ?_
          show own_Go _ _ _ _ T19 (mkF m 187 #[.val (.long q1), .second, .val (.long q2), .second, .val (.long q3), .second, .val (.int p4), .val (.int (p4 &&& (7 : Int32))), .val (.long xx), .second, .val (.ref b12), .val (.int (own_holds q1 q2 xx)), .val (.int (0 : Int32)), .val (.int (0 : Int32)), .val (.int (0 : Int32))] [])
          refine own_go (fun _ k => XS.iload X19.here hx rfl (hb hby at_187) rfl k) ?_
          show own_Go _ _ _ _ T19 (mkF m 189 #[.val (.long q1), .second, .val (.long q2), .second, .val (.long q3), .second, .val (.int p4), .val (.int (p4 &&& (7 : Int32))), .val (.long xx), .second, .val (.ref b12), .val (.int (own_holds q1 q2 xx)), .val (.int (0 : Int32)), .val (.int (0 : Int32)), .val (.int (0 : Int32))] [(.int (own_holds q1 q2 xx))])
          refine own_go (fun _ k => XS.iload X19.here hx rfl (hb hby at_189) rfl k) ?_
          show own_Go _ _ _ _ T19 (mkF m 191 #[.val (.long q1), .second, .val (.long q2), .second, .val (.long q3), .second, .val (.int p4), .val (.int (p4 &&& (7 : Int32))), .val (.long xx), .second, .val (.ref b12), .val (.int (own_holds q1 q2 xx)), .val (.int (0 : Int32)), .val (.int (0 : Int32)), .val (.int (0 : Int32))] [(.int (0 : Int32)), (.int (own_holds q1 q2 xx))])
          refine own_go (fun _ k => XS.icmpNo X19.here hx rfl (hb hby at_191) rfl (teq (own_h0 (Or.inl hA))).2 k) ?_
          show own_Go _ _ _ _ T19 (mkF m 194 #[.val (.long q1), .second, .val (.long q2), .second, .val (.long q3), .second, .val (.int p4), .val (.int (p4 &&& (7 : Int32))), .val (.long xx), .second, .val (.ref b12), .val (.int (own_holds q1 q2 xx)), .val (.int (0 : Int32)), .val (.int (0 : Int32)), .val (.int (0 : Int32))] [])
          refine own_go (fun _ k => XS.iconst X19.here hx rfl (hb hby at_194) k) ?_
          show own_Go _ _ _ _ T19 (mkF m 195 #[.val (.long q1), .second, .val (.long q2), .second, .val (.long q3), .second, .val (.int p4), .val (.int (p4 &&& (7 : Int32))), .val (.long xx), .second, .val (.ref b12), .val (.int (own_holds q1 q2 xx)), .val (.int (0 : Int32)), .val (.int (0 : Int32)), .val (.int (0 : Int32))] [(.int (1 : Int32))])
          refine own_go (fun _ k => XS.goto X19.here hx rfl (pc0 := 195) (pc' := 199) rfl (hb hby at_195) (by decide) (by decide) k) ?_
          show own_Go _ _ _ _ T19 (mkF m 199 #[.val (.long q1), .second, .val (.long q2), .second, .val (.long q3), .second, .val (.int p4), .val (.int (p4 &&& (7 : Int32))), .val (.long xx), .second, .val (.ref b12), .val (.int (own_holds q1 q2 xx)), .val (.int (0 : Int32)), .val (.int (0 : Int32)), .val (.int (0 : Int32))] [(.int (1 : Int32))])
          exact own_retN X19 hx hret (by simp) hlk (hb hby at_199) (by decide) (by decide) (by first | exact ⟨rfl, N19⟩ | (rw [e19]; exact ⟨rfl, N19⟩))
        · skip
          refine own_go (fun _ k => XS.ifNo X19.here hx rfl (hb hby at_160) rfl ((if0 _ _).trans (feq (fun q => hC ((lw_eq _ _).mp q))).1) k) ?_
          show own_Go _ _ _ _ T19 (mkF m 163 #[.val (.long q1), .second, .val (.long q2), .second, .val (.long q3), .second, .val (.int p4), .val (.int (p4 &&& (7 : Int32))), .val (.long xx), .second, .val (.ref b12), .val (.int (own_holds q1 q2 xx)), .val (.int (0 : Int32)), .unset, .unset] [])
          refine own_go (fun _ k => XS.iconst X19.here hx rfl (hb hby at_163) k) ?_
          show own_Go _ _ _ _ T19 (mkF m 164 #[.val (.long q1), .second, .val (.long q2), .second, .val (.long q3), .second, .val (.int p4), .val (.int (p4 &&& (7 : Int32))), .val (.long xx), .second, .val (.ref b12), .val (.int (own_holds q1 q2 xx)), .val (.int (0 : Int32)), .unset, .unset] [(.int (1 : Int32))])
          refine own_go (fun _ k => XS.goto X19.here hx rfl (pc0 := 164) (pc' := 168) rfl (hb hby at_164) (by decide) (by decide) k) ?_
          show own_Go _ _ _ _ T19 (mkF m 168 #[.val (.long q1), .second, .val (.long q2), .second, .val (.long q3), .second, .val (.int p4), .val (.int (p4 &&& (7 : Int32))), .val (.long xx), .second, .val (.ref b12), .val (.int (own_holds q1 q2 xx)), .val (.int (0 : Int32)), .unset, .unset] [(.int (1 : Int32))])
          refine own_go (fun _ k => XS.istore X19.here hx rfl (hb hby at_168) rfl (l' := #[.val (.long q1), .second, .val (.long q2), .second, .val (.long q3), .second, .val (.int p4), .val (.int (p4 &&& (7 : Int32))), .val (.long xx), .second, .val (.ref b12), .val (.int (own_holds q1 q2 xx)), .val (.int (0 : Int32)), .val (.int (1 : Int32)), .unset]) rfl k) ?_
          show own_Go _ _ _ _ T19 (mkF m 170 #[.val (.long q1), .second, .val (.long q2), .second, .val (.long q3), .second, .val (.int p4), .val (.int (p4 &&& (7 : Int32))), .val (.long xx), .second, .val (.ref b12), .val (.int (own_holds q1 q2 xx)), .val (.int (0 : Int32)), .val (.int (1 : Int32)), .unset] [])
          refine own_go (fun _ k => XS.iload X19.here hx rfl (hb hby at_170) rfl k) ?_
          show own_Go _ _ _ _ T19 (mkF m 172 #[.val (.long q1), .second, .val (.long q2), .second, .val (.long q3), .second, .val (.int p4), .val (.int (p4 &&& (7 : Int32))), .val (.long xx), .second, .val (.ref b12), .val (.int (own_holds q1 q2 xx)), .val (.int (0 : Int32)), .val (.int (1 : Int32)), .unset] [(.int (0 : Int32))])
          refine own_go (fun _ k => XS.ifYes X19.here hx rfl (pc0 := 172) (pc' := 184) rfl (hb hby at_172) rfl ((if0 _ _).trans (teq rfl).1) (by decide) (by decide) k) ?_
          show own_Go _ _ _ _ T19 (mkF m 184 #[.val (.long q1), .second, .val (.long q2), .second, .val (.long q3), .second, .val (.int p4), .val (.int (p4 &&& (7 : Int32))), .val (.long xx), .second, .val (.ref b12), .val (.int (own_holds q1 q2 xx)), .val (.int (0 : Int32)), .val (.int (1 : Int32)), .unset] [])
          refine own_go (fun _ k => XS.iconst X19.here hx rfl (hb hby at_184) k) ?_
          show own_Go _ _ _ _ T19 (mkF m 185 #[.val (.long q1), .second, .val (.long q2), .second, .val (.long q3), .second, .val (.int p4), .val (.int (p4 &&& (7 : Int32))), .val (.long xx), .second, .val (.ref b12), .val (.int (own_holds q1 q2 xx)), .val (.int (0 : Int32)), .val (.int (1 : Int32)), .unset] [(.int (0 : Int32))])
          refine own_go (fun _ k => XS.istore X19.here hx rfl (hb hby at_185) rfl (l' := #[.val (.long q1), .second, .val (.long q2), .second, .val (.long q3), .second, .val (.int p4), .val (.int (p4 &&& (7 : Int32))), .val (.long xx), .second, .val (.ref b12), .val (.int (own_holds q1 q2 xx)), .val (.int (0 : Int32)), .val (.int (1 : Int32)), .val (.int (0 : Int32))]) rfl k) ?_
          show own_Go _ _ _ _ T19 (mkF m 187 #[.val (.long q1), .second, .val (.long q2), .second, .val (.long q3), .second, .val (.int p4), .val (.int (p4 &&& (7 : Int32))), .val (.long xx), .second, .val (.ref b12), .val (.int (own_holds q1 q2 xx)), .val (.int (0 : Int32)), .val (.int (1 : Int32)), .val (.int (0 : Int32))] [])
          refine own_go (fun _ k => XS.iload X19.here hx rfl (hb hby at_187) rfl k) ?_
          show own_Go _ _ _ _ T19 (mkF m 189 #[.val (.long q1), .second, .val (.long q2), .second, .val (.long q3), .second, .val (.int p4), .val (.int (p4 &&& (7 : Int32))), .val (.long xx), .second, .val (.ref b12), .val (.int (own_holds q1 q2 xx)), .val (.int (0 : Int32)), .val (.int (1 : Int32)), .val (.int (0 : Int32))] [(.int (own_holds q1 q2 xx))])
          refine own_go (fun _ k => XS.iload X19.here hx rfl (hb hby at_189) rfl k) ?_
          show own_Go _ _ _ _ T19 (mkF m 191 #[.val (.long q1), .second, .val (.long q2), .second, .val (.long q3), .second, .val (.int p4), .val (.int (p4 &&& (7 : Int32))), .val (.long xx), .second, .val (.ref b12), .val (.int (own_holds q1 q2 xx)), .val (.int (0 : Int32)), .val (.int (1 : Int32)), .val (.int (0 : Int32))] [(.int (0 : Int32)), (.int (own_holds q1 q2 xx))])
          refine own_go (fun _ k => XS.icmpNo X19.here hx rfl (hb hby at_191) rfl (teq (own_h0 (Or.inl hA))).2 k) ?_
          show own_Go _ _ _ _ T19 (mkF m 194 #[.val (.long q1), .second, .val (.long q2), .second, .val (.long q3), .second, .val (.int p4), .val (.int (p4 &&& (7 : Int32))), .val (.long xx), .second, .val (.ref b12), .val (.int (own_holds q1 q2 xx)), .val (.int (0 : Int32)), .val (.int (1 : Int32)), .val (.int (0 : Int32))] [])
          refine own_go (fun _ k => XS.iconst X19.here hx rfl (hb hby at_194) k) ?_
          show own_Go _ _ _ _ T19 (mkF m 195 #[.val (.long q1), .second, .val (.long q2), .second, .val (.long q3), .second, .val (.int p4), .val (.int (p4 &&& (7 : Int32))), .val (.long xx), .second, .val (.ref b12), .val (.int (own_holds q1 q2 xx)), .val (.int (0 : Int32)), .val (.int (1 : Int32)), .val (.int (0 : Int32))] [(.int (1 : Int32))])
          refine own_go (fun _ k => XS.goto X19.here hx rfl (pc0 := 195) (pc' := 199) rfl (hb hby at_195) (by decide) (by decide) k) ?_
          show own_Go _ _ _ _ T19 (mkF m 199 #[.val (.long q1), .second, .val (.long q2), .second, .val (.long q3), .second, .val (.int p4), .val (.int (p4 &&& (7 : Int32))), .val (.long xx), .second, .val (.ref b12), .val (.int (own_holds q1 q2 xx)), .val (.int (0 : Int32)), .val (.int (1 : Int32)), .val (.int (0 : Int32))] [(.int (1 : Int32))])
          exact own_retN X19 hx hret (by simp) hlk (hb hby at_199) (by decide) (by decide) (by first | exact ⟨rfl, N19⟩ | (rw [e19]; exact ⟨rfl, N19⟩))
      · skip
        refine own_go (fun _ k => XS.ifYes X19.here hx rfl (pc0 := 153) (pc' := 167) rfl (hb hby at_153) rfl ((if0 _ _).trans (feq (fun q => hB ((lw_eq _ _).mp q))).2) (by decide) (by decide) k) ?_
        show own_Go _ _ _ _ T19 (mkF m 167 #[.val (.long q1), .second, .val (.long q2), .second, .val (.long q3), .second, .val (.int p4), .val (.int (p4 &&& (7 : Int32))), .val (.long xx), .second, .val (.ref b12), .val (.int (own_holds q1 q2 xx)), .val (.int (0 : Int32)), .unset, .unset] [])
        refine own_go (fun _ k => XS.iconst X19.here hx rfl (hb hby at_167) k) ?_
        show own_Go _ _ _ _ T19 (mkF m 168 #[.val (.long q1), .second, .val (.long q2), .second, .val (.long q3), .second, .val (.int p4), .val (.int (p4 &&& (7 : Int32))), .val (.long xx), .second, .val (.ref b12), .val (.int (own_holds q1 q2 xx)), .val (.int (0 : Int32)), .unset, .unset] [(.int (0 : Int32))])
        refine own_go (fun _ k => XS.istore X19.here hx rfl (hb hby at_168) rfl (l' := #[.val (.long q1), .second, .val (.long q2), .second, .val (.long q3), .second, .val (.int p4), .val (.int (p4 &&& (7 : Int32))), .val (.long xx), .second, .val (.ref b12), .val (.int (own_holds q1 q2 xx)), .val (.int (0 : Int32)), .val (.int (0 : Int32)), .unset]) rfl k) ?_
        show own_Go _ _ _ _ T19 (mkF m 170 #[.val (.long q1), .second, .val (.long q2), .second, .val (.long q3), .second, .val (.int p4), .val (.int (p4 &&& (7 : Int32))), .val (.long xx), .second, .val (.ref b12), .val (.int (own_holds q1 q2 xx)), .val (.int (0 : Int32)), .val (.int (0 : Int32)), .unset] [])
        refine own_go (fun _ k => XS.iload X19.here hx rfl (hb hby at_170) rfl k) ?_
        show own_Go _ _ _ _ T19 (mkF m 172 #[.val (.long q1), .second, .val (.long q2), .second, .val (.long q3), .second, .val (.int p4), .val (.int (p4 &&& (7 : Int32))), .val (.long xx), .second, .val (.ref b12), .val (.int (own_holds q1 q2 xx)), .val (.int (0 : Int32)), .val (.int (0 : Int32)), .unset] [(.int (0 : Int32))])
        refine own_go (fun _ k => XS.ifYes X19.here hx rfl (pc0 := 172) (pc' := 184) rfl (hb hby at_172) rfl ((if0 _ _).trans (teq rfl).1) (by decide) (by decide) k) ?_
        show own_Go _ _ _ _ T19 (mkF m 184 #[.val (.long q1), .second, .val (.long q2), .second, .val (.long q3), .second, .val (.int p4), .val (.int (p4 &&& (7 : Int32))), .val (.long xx), .second, .val (.ref b12), .val (.int (own_holds q1 q2 xx)), .val (.int (0 : Int32)), .val (.int (0 : Int32)), .unset] [])
        refine own_go (fun _ k => XS.iconst X19.here hx rfl (hb hby at_184) k) ?_
        show own_Go _ _ _ _ T19 (mkF m 185 #[.val (.long q1), .second, .val (.long q2), .second, .val (.long q3), .second, .val (.int p4), .val (.int (p4 &&& (7 : Int32))), .val (.long xx), .second, .val (.ref b12), .val (.int (own_holds q1 q2 xx)), .val (.int (0 : Int32)), .val (.int (0 : Int32)), .unset] [(.int (0 : Int32))])
        refine own_go (fun _ k => XS.istore X19.here hx rfl (hb hby at_185) rfl (l' := #[.val (.long q1), .second, .val (.long q2), .second, .val (.long q3), .second, .val (.int p4), .val (.int (p4 &&& (7 : Int32))), .val (.long xx), .second, .val (.ref b12), .val (.int (own_holds q1 q2 xx)), .val (.int (0 : Int32)), .val (.int (0 : Int32)), .val (.int (0 : Int32))]) rfl k) ?_
        show own_Go _ _ _ _ T19 (mkF m 187 #[.val (.long q1), .second, .val (.long q2), .second, .val (.long q3), .second, .val (.int p4), .val (.int (p4 &&& (7 : Int32))), .val (.long xx), .second, .val (.ref b12), .val (.int (own_holds q1 q2 xx)), .val (.int (0 : Int32)), .val (.int (0 : Int32)), .val (.int (0 : Int32))] [])
        refine own_go (fun _ k => XS.iload X19.here hx rfl (hb hby at_187) rfl k) ?_
        show own_Go _ _ _ _ T19 (mkF m 189 #[.val (.long q1), .second, .val (.long q2), .second, .val (.long q3), .second, .val (.int p4), .val (.int (p4 &&& (7 : Int32))), .val (.long xx), .second, .val (.ref b12), .val (.int (own_holds q1 q2 xx)), .val (.int (0 : Int32)), .val (.int (0 : Int32)), .val (.int (0 : Int32))] [(.int (own_holds q1 q2 xx))])
        refine own_go (fun _ k => XS.iload X19.here hx rfl (hb hby at_189) rfl k) ?_
        show own_Go _ _ _ _ T19 (mkF m 191 #[.val (.long q1), .second, .val (.long q2), .second, .val (.long q3), .second, .val (.int p4), .val (.int (p4 &&& (7 : Int32))), .val (.long xx), .second, .val (.ref b12), .val (.int (own_holds q1 q2 xx)), .val (.int (0 : Int32)), .val (.int (0 : Int32)), .val (.int (0 : Int32))] [(.int (0 : Int32)), (.int (own_holds q1 q2 xx))])
        refine own_go (fun _ k => XS.icmpNo X19.here hx rfl (hb hby at_191) rfl (teq (own_h0 (Or.inl hA))).2 k) ?_
        show own_Go _ _ _ _ T19 (mkF m 194 #[.val (.long q1), .second, .val (.long q2), .second, .val (.long q3), .second, .val (.int p4), .val (.int (p4 &&& (7 : Int32))), .val (.long xx), .second, .val (.ref b12), .val (.int (own_holds q1 q2 xx)), .val (.int (0 : Int32)), .val (.int (0 : Int32)), .val (.int (0 : Int32))] [])
        refine own_go (fun _ k => XS.iconst X19.here hx rfl (hb hby at_194) k) ?_
        show own_Go _ _ _ _ T19 (mkF m 195 #[.val (.long q1), .second, .val (.long q2), .second, .val (.long q3), .second, .val (.int p4), .val (.int (p4 &&& (7 : Int32))), .val (.long xx), .second, .val (.ref b12), .val (.int (own_holds q1 q2 xx)), .val (.int (0 : Int32)), .val (.int (0 : Int32)), .val (.int (0 : Int32))] [(.int (1 : Int32))])
        refine own_go (fun _ k => XS.goto X19.here hx rfl (pc0 := 195) (pc' := 199) rfl (hb hby at_195) (by decide) (by decide) k) ?_
        show own_Go _ _ _ _ T19 (mkF m 199 #[.val (.long q1), .second, .val (.long q2), .second, .val (.long q3), .second, .val (.int p4), .val (.int (p4 &&& (7 : Int32))), .val (.long xx), .second, .val (.ref b12), .val (.int (own_holds q1 q2 xx)), .val (.int (0 : Int32)), .val (.int (0 : Int32)), .val (.int (0 : Int32))] [(.int (1 : Int32))])
        exact own_retN X19 hx hret (by simp) hlk (hb hby at_199) (by decide) (by decide) (by first | exact ⟨rfl, N19⟩ | (rw [e19]; exact ⟨rfl, N19⟩))
  show own_Go _ _ _ _ s₁ (mkF m 0 #[.val (.long q1), .second, .val (.long q2), .second, .val (.long q3), .second, .val (.int p4), .unset, .unset, .unset, .unset, .unset, .unset, .unset, .unset] [])
  refine own_go (fun _ k => XS.iload X0.here hx rfl (hb hby at_0) rfl k) ?_
  show own_Go _ _ _ _ s₁ (mkF m 2 #[.val (.long q1), .second, .val (.long q2), .second, .val (.long q3), .second, .val (.int p4), .unset, .unset, .unset, .unset, .unset, .unset, .unset, .unset] [(.int p4)])
  refine own_go (fun _ k => XS.bipush X0.here hx rfl (hb hby at_2) k) ?_
  show own_Go _ _ _ _ s₁ (mkF m 4 #[.val (.long q1), .second, .val (.long q2), .second, .val (.long q3), .second, .val (.int p4), .unset, .unset, .unset, .unset, .unset, .unset, .unset, .unset] [(.int (7 : Int32)), (.int p4)])
  refine own_go (fun _ k => XS.iand X0.here hx rfl (hb hby at_4) rfl k) ?_
  show own_Go _ _ _ _ s₁ (mkF m 5 #[.val (.long q1), .second, .val (.long q2), .second, .val (.long q3), .second, .val (.int p4), .unset, .unset, .unset, .unset, .unset, .unset, .unset, .unset] [(.int (p4 &&& (7 : Int32)))])
  refine own_go (fun _ k => XS.istore X0.here hx rfl (hb hby at_5) rfl (l' := #[.val (.long q1), .second, .val (.long q2), .second, .val (.long q3), .second, .val (.int p4), .val (.int (p4 &&& (7 : Int32))), .unset, .unset, .unset, .unset, .unset, .unset, .unset]) rfl k) ?_
  show own_Go _ _ _ _ s₁ (mkF m 7 #[.val (.long q1), .second, .val (.long q2), .second, .val (.long q3), .second, .val (.int p4), .val (.int (p4 &&& (7 : Int32))), .unset, .unset, .unset, .unset, .unset, .unset, .unset] [])
  refine own_go (fun _ k => XS.iload X0.here hx rfl (hb hby at_7) rfl k) ?_
  show own_Go _ _ _ _ s₁ (mkF m 9 #[.val (.long q1), .second, .val (.long q2), .second, .val (.long q3), .second, .val (.int p4), .val (.int (p4 &&& (7 : Int32))), .unset, .unset, .unset, .unset, .unset, .unset, .unset] [(.int (p4 &&& (7 : Int32)))])
  by_cases hm0 : (p4 &&& (7 : Int32)) = (0 : Int32)
  · skip
    refine own_go (fun _ k => XS.ifNo X0.here hx rfl (hb hby at_9) rfl ((if0 _ _).trans (teq hm0).2) k) ?_
    show own_Go _ _ _ _ s₁ (mkF m 12 #[.val (.long q1), .second, .val (.long q2), .second, .val (.long q3), .second, .val (.int p4), .val (.int (p4 &&& (7 : Int32))), .unset, .unset, .unset, .unset, .unset, .unset, .unset] [])
    refine own_go (fun _ k => XS.lload X0.here hx rfl (hb hby at_12) rfl k) ?_
    show own_Go _ _ _ _ s₁ (mkF m 14 #[.val (.long q1), .second, .val (.long q2), .second, .val (.long q3), .second, .val (.int p4), .val (.int (p4 &&& (7 : Int32))), .unset, .unset, .unset, .unset, .unset, .unset, .unset] [(.long q3)])
    refine own_go (fun _ k => XS.lstore X0.here hx rfl (hb hby at_14) rfl (l' := #[.val (.long q1), .second, .val (.long q2), .second, .val (.long q3), .second, .val (.int p4), .val (.int (p4 &&& (7 : Int32))), .val (.long q3), .second, .unset, .unset, .unset, .unset, .unset]) rfl k) ?_
    show own_Go _ _ _ _ s₁ (mkF m 16 #[.val (.long q1), .second, .val (.long q2), .second, .val (.long q3), .second, .val (.int p4), .val (.int (p4 &&& (7 : Int32))), .val (.long q3), .second, .unset, .unset, .unset, .unset, .unset] [])
    refine own_go (fun _ k => XS.goto X0.here hx rfl (pc0 := 16) (pc' := 105) rfl (hb hby at_16) (by decide) (by decide) k) ?_
    exact tail _
  · skip
    refine own_go (fun _ k => XS.ifYes X0.here hx rfl (pc0 := 9) (pc' := 19) rfl (hb hby at_9) rfl ((if0 _ _).trans (feq hm0).2) (by decide) (by decide) k) ?_
    show own_Go _ _ _ _ s₁ (mkF m 19 #[.val (.long q1), .second, .val (.long q2), .second, .val (.long q3), .second, .val (.int p4), .val (.int (p4 &&& (7 : Int32))), .unset, .unset, .unset, .unset, .unset, .unset, .unset] [])
    refine own_go (fun _ k => XS.iload X0.here hx rfl (hb hby at_19) rfl k) ?_
    show own_Go _ _ _ _ s₁ (mkF m 21 #[.val (.long q1), .second, .val (.long q2), .second, .val (.long q3), .second, .val (.int p4), .val (.int (p4 &&& (7 : Int32))), .unset, .unset, .unset, .unset, .unset, .unset, .unset] [(.int (p4 &&& (7 : Int32)))])
    refine own_go (fun _ k => XS.iconst X0.here hx rfl (hb hby at_21) k) ?_
    show own_Go _ _ _ _ s₁ (mkF m 22 #[.val (.long q1), .second, .val (.long q2), .second, .val (.long q3), .second, .val (.int p4), .val (.int (p4 &&& (7 : Int32))), .unset, .unset, .unset, .unset, .unset, .unset, .unset] [(.int (1 : Int32)), (.int (p4 &&& (7 : Int32)))])
    by_cases hm1 : (p4 &&& (7 : Int32)) = (1 : Int32)
    · skip
      refine own_go (fun _ k => XS.icmpNo X0.here hx rfl (hb hby at_22) rfl (teq hm1).2 k) ?_
      show own_Go _ _ _ _ s₁ (mkF m 25 #[.val (.long q1), .second, .val (.long q2), .second, .val (.long q3), .second, .val (.int p4), .val (.int (p4 &&& (7 : Int32))), .unset, .unset, .unset, .unset, .unset, .unset, .unset] [])
      refine own_go (fun _ k => XS.lloadN X0.here hx rfl (hb hby at_25) rfl k) ?_
      show own_Go _ _ _ _ s₁ (mkF m 26 #[.val (.long q1), .second, .val (.long q2), .second, .val (.long q3), .second, .val (.int p4), .val (.int (p4 &&& (7 : Int32))), .unset, .unset, .unset, .unset, .unset, .unset, .unset] [(.long q1)])
      refine own_go (fun _ k => XS.lstore X0.here hx rfl (hb hby at_26) rfl (l' := #[.val (.long q1), .second, .val (.long q2), .second, .val (.long q3), .second, .val (.int p4), .val (.int (p4 &&& (7 : Int32))), .val (.long q1), .second, .unset, .unset, .unset, .unset, .unset]) rfl k) ?_
      show own_Go _ _ _ _ s₁ (mkF m 28 #[.val (.long q1), .second, .val (.long q2), .second, .val (.long q3), .second, .val (.int p4), .val (.int (p4 &&& (7 : Int32))), .val (.long q1), .second, .unset, .unset, .unset, .unset, .unset] [])
      refine own_go (fun _ k => XS.goto X0.here hx rfl (pc0 := 28) (pc' := 105) rfl (hb hby at_28) (by decide) (by decide) k) ?_
      exact tail _
    · skip
      refine own_go (fun _ k => XS.icmpYes X0.here hx rfl (pc0 := 22) (pc' := 31) rfl (hb hby at_22) rfl (feq hm1).2 (by decide) (by decide) k) ?_
      show own_Go _ _ _ _ s₁ (mkF m 31 #[.val (.long q1), .second, .val (.long q2), .second, .val (.long q3), .second, .val (.int p4), .val (.int (p4 &&& (7 : Int32))), .unset, .unset, .unset, .unset, .unset, .unset, .unset] [])
      refine own_go (fun _ k => XS.iload X0.here hx rfl (hb hby at_31) rfl k) ?_
      show own_Go _ _ _ _ s₁ (mkF m 33 #[.val (.long q1), .second, .val (.long q2), .second, .val (.long q3), .second, .val (.int p4), .val (.int (p4 &&& (7 : Int32))), .unset, .unset, .unset, .unset, .unset, .unset, .unset] [(.int (p4 &&& (7 : Int32)))])
      refine own_go (fun _ k => XS.iconst X0.here hx rfl (hb hby at_33) k) ?_
      show own_Go _ _ _ _ s₁ (mkF m 34 #[.val (.long q1), .second, .val (.long q2), .second, .val (.long q3), .second, .val (.int p4), .val (.int (p4 &&& (7 : Int32))), .unset, .unset, .unset, .unset, .unset, .unset, .unset] [(.int (2 : Int32)), (.int (p4 &&& (7 : Int32)))])
      by_cases hm2 : (p4 &&& (7 : Int32)) = (2 : Int32)
      · skip
        refine own_go (fun _ k => XS.icmpNo X0.here hx rfl (hb hby at_34) rfl (teq hm2).2 k) ?_
        show own_Go _ _ _ _ s₁ (mkF m 37 #[.val (.long q1), .second, .val (.long q2), .second, .val (.long q3), .second, .val (.int p4), .val (.int (p4 &&& (7 : Int32))), .unset, .unset, .unset, .unset, .unset, .unset, .unset] [])
        refine own_go (fun _ k => XS.lloadN X0.here hx rfl (hb hby at_37) rfl k) ?_
        show own_Go _ _ _ _ s₁ (mkF m 38 #[.val (.long q1), .second, .val (.long q2), .second, .val (.long q3), .second, .val (.int p4), .val (.int (p4 &&& (7 : Int32))), .unset, .unset, .unset, .unset, .unset, .unset, .unset] [(.long q1)])
        refine own_go (fun _ k => XS.lconst X0.here hx rfl (hb hby at_38) k) ?_
        show own_Go _ _ _ _ s₁ (mkF m 39 #[.val (.long q1), .second, .val (.long q2), .second, .val (.long q3), .second, .val (.int p4), .val (.int (p4 &&& (7 : Int32))), .unset, .unset, .unset, .unset, .unset, .unset, .unset] [(.long (1 : Int64)), (.long q1)])
        refine own_go (fun _ k => XS.lsub X0.here hx rfl (hb hby at_39) rfl k) ?_
        show own_Go _ _ _ _ s₁ (mkF m 40 #[.val (.long q1), .second, .val (.long q2), .second, .val (.long q3), .second, .val (.int p4), .val (.int (p4 &&& (7 : Int32))), .unset, .unset, .unset, .unset, .unset, .unset, .unset] [(.long (q1 - (1 : Int64)))])
        refine own_go (fun _ k => XS.lstore X0.here hx rfl (hb hby at_40) rfl (l' := #[.val (.long q1), .second, .val (.long q2), .second, .val (.long q3), .second, .val (.int p4), .val (.int (p4 &&& (7 : Int32))), .val (.long (q1 - (1 : Int64))), .second, .unset, .unset, .unset, .unset, .unset]) rfl k) ?_
        show own_Go _ _ _ _ s₁ (mkF m 42 #[.val (.long q1), .second, .val (.long q2), .second, .val (.long q3), .second, .val (.int p4), .val (.int (p4 &&& (7 : Int32))), .val (.long (q1 - (1 : Int64))), .second, .unset, .unset, .unset, .unset, .unset] [])
        refine own_go (fun _ k => XS.goto X0.here hx rfl (pc0 := 42) (pc' := 105) rfl (hb hby at_42) (by decide) (by decide) k) ?_
        exact tail _
      · skip
        refine own_go (fun _ k => XS.icmpYes X0.here hx rfl (pc0 := 34) (pc' := 45) rfl (hb hby at_34) rfl (feq hm2).2 (by decide) (by decide) k) ?_
        show own_Go _ _ _ _ s₁ (mkF m 45 #[.val (.long q1), .second, .val (.long q2), .second, .val (.long q3), .second, .val (.int p4), .val (.int (p4 &&& (7 : Int32))), .unset, .unset, .unset, .unset, .unset, .unset, .unset] [])
        refine own_go (fun _ k => XS.iload X0.here hx rfl (hb hby at_45) rfl k) ?_
        show own_Go _ _ _ _ s₁ (mkF m 47 #[.val (.long q1), .second, .val (.long q2), .second, .val (.long q3), .second, .val (.int p4), .val (.int (p4 &&& (7 : Int32))), .unset, .unset, .unset, .unset, .unset, .unset, .unset] [(.int (p4 &&& (7 : Int32)))])
        refine own_go (fun _ k => XS.iconst X0.here hx rfl (hb hby at_47) k) ?_
        show own_Go _ _ _ _ s₁ (mkF m 48 #[.val (.long q1), .second, .val (.long q2), .second, .val (.long q3), .second, .val (.int p4), .val (.int (p4 &&& (7 : Int32))), .unset, .unset, .unset, .unset, .unset, .unset, .unset] [(.int (3 : Int32)), (.int (p4 &&& (7 : Int32)))])
        by_cases hm3 : (p4 &&& (7 : Int32)) = (3 : Int32)
        · skip
          refine own_go (fun _ k => XS.icmpNo X0.here hx rfl (hb hby at_48) rfl (teq hm3).2 k) ?_
          show own_Go _ _ _ _ s₁ (mkF m 51 #[.val (.long q1), .second, .val (.long q2), .second, .val (.long q3), .second, .val (.int p4), .val (.int (p4 &&& (7 : Int32))), .unset, .unset, .unset, .unset, .unset, .unset, .unset] [])
          refine own_go (fun _ k => XS.lloadN X0.here hx rfl (hb hby at_51) rfl k) ?_
          show own_Go _ _ _ _ s₁ (mkF m 52 #[.val (.long q1), .second, .val (.long q2), .second, .val (.long q3), .second, .val (.int p4), .val (.int (p4 &&& (7 : Int32))), .unset, .unset, .unset, .unset, .unset, .unset, .unset] [(.long q2)])
          refine own_go (fun _ k => XS.lstore X0.here hx rfl (hb hby at_52) rfl (l' := #[.val (.long q1), .second, .val (.long q2), .second, .val (.long q3), .second, .val (.int p4), .val (.int (p4 &&& (7 : Int32))), .val (.long q2), .second, .unset, .unset, .unset, .unset, .unset]) rfl k) ?_
          show own_Go _ _ _ _ s₁ (mkF m 54 #[.val (.long q1), .second, .val (.long q2), .second, .val (.long q3), .second, .val (.int p4), .val (.int (p4 &&& (7 : Int32))), .val (.long q2), .second, .unset, .unset, .unset, .unset, .unset] [])
          refine own_go (fun _ k => XS.goto X0.here hx rfl (pc0 := 54) (pc' := 105) rfl (hb hby at_54) (by decide) (by decide) k) ?_
          exact tail _
        · skip
          refine own_go (fun _ k => XS.icmpYes X0.here hx rfl (pc0 := 48) (pc' := 57) rfl (hb hby at_48) rfl (feq hm3).2 (by decide) (by decide) k) ?_
          show own_Go _ _ _ _ s₁ (mkF m 57 #[.val (.long q1), .second, .val (.long q2), .second, .val (.long q3), .second, .val (.int p4), .val (.int (p4 &&& (7 : Int32))), .unset, .unset, .unset, .unset, .unset, .unset, .unset] [])
          refine own_go (fun _ k => XS.iload X0.here hx rfl (hb hby at_57) rfl k) ?_
          show own_Go _ _ _ _ s₁ (mkF m 59 #[.val (.long q1), .second, .val (.long q2), .second, .val (.long q3), .second, .val (.int p4), .val (.int (p4 &&& (7 : Int32))), .unset, .unset, .unset, .unset, .unset, .unset, .unset] [(.int (p4 &&& (7 : Int32)))])
          refine own_go (fun _ k => XS.iconst X0.here hx rfl (hb hby at_59) k) ?_
          show own_Go _ _ _ _ s₁ (mkF m 60 #[.val (.long q1), .second, .val (.long q2), .second, .val (.long q3), .second, .val (.int p4), .val (.int (p4 &&& (7 : Int32))), .unset, .unset, .unset, .unset, .unset, .unset, .unset] [(.int (4 : Int32)), (.int (p4 &&& (7 : Int32)))])
          by_cases hm4 : (p4 &&& (7 : Int32)) = (4 : Int32)
          · skip
            refine own_go (fun _ k => XS.icmpNo X0.here hx rfl (hb hby at_60) rfl (teq hm4).2 k) ?_
            show own_Go _ _ _ _ s₁ (mkF m 63 #[.val (.long q1), .second, .val (.long q2), .second, .val (.long q3), .second, .val (.int p4), .val (.int (p4 &&& (7 : Int32))), .unset, .unset, .unset, .unset, .unset, .unset, .unset] [])
            refine own_go (fun _ k => XS.lloadN X0.here hx rfl (hb hby at_63) rfl k) ?_
            show own_Go _ _ _ _ s₁ (mkF m 64 #[.val (.long q1), .second, .val (.long q2), .second, .val (.long q3), .second, .val (.int p4), .val (.int (p4 &&& (7 : Int32))), .unset, .unset, .unset, .unset, .unset, .unset, .unset] [(.long q2)])
            refine own_go (fun _ k => XS.lconst X0.here hx rfl (hb hby at_64) k) ?_
            show own_Go _ _ _ _ s₁ (mkF m 65 #[.val (.long q1), .second, .val (.long q2), .second, .val (.long q3), .second, .val (.int p4), .val (.int (p4 &&& (7 : Int32))), .unset, .unset, .unset, .unset, .unset, .unset, .unset] [(.long (1 : Int64)), (.long q2)])
            refine own_go (fun _ k => XS.lsub X0.here hx rfl (hb hby at_65) rfl k) ?_
            show own_Go _ _ _ _ s₁ (mkF m 66 #[.val (.long q1), .second, .val (.long q2), .second, .val (.long q3), .second, .val (.int p4), .val (.int (p4 &&& (7 : Int32))), .unset, .unset, .unset, .unset, .unset, .unset, .unset] [(.long (q2 - (1 : Int64)))])
            refine own_go (fun _ k => XS.lstore X0.here hx rfl (hb hby at_66) rfl (l' := #[.val (.long q1), .second, .val (.long q2), .second, .val (.long q3), .second, .val (.int p4), .val (.int (p4 &&& (7 : Int32))), .val (.long (q2 - (1 : Int64))), .second, .unset, .unset, .unset, .unset, .unset]) rfl k) ?_
            show own_Go _ _ _ _ s₁ (mkF m 68 #[.val (.long q1), .second, .val (.long q2), .second, .val (.long q3), .second, .val (.int p4), .val (.int (p4 &&& (7 : Int32))), .val (.long (q2 - (1 : Int64))), .second, .unset, .unset, .unset, .unset, .unset] [])
            refine own_go (fun _ k => XS.goto X0.here hx rfl (pc0 := 68) (pc' := 105) rfl (hb hby at_68) (by decide) (by decide) k) ?_
            exact tail _
          · skip
            refine own_go (fun _ k => XS.icmpYes X0.here hx rfl (pc0 := 60) (pc' := 71) rfl (hb hby at_60) rfl (feq hm4).2 (by decide) (by decide) k) ?_
            show own_Go _ _ _ _ s₁ (mkF m 71 #[.val (.long q1), .second, .val (.long q2), .second, .val (.long q3), .second, .val (.int p4), .val (.int (p4 &&& (7 : Int32))), .unset, .unset, .unset, .unset, .unset, .unset, .unset] [])
            refine own_go (fun _ k => XS.iload X0.here hx rfl (hb hby at_71) rfl k) ?_
            show own_Go _ _ _ _ s₁ (mkF m 73 #[.val (.long q1), .second, .val (.long q2), .second, .val (.long q3), .second, .val (.int p4), .val (.int (p4 &&& (7 : Int32))), .unset, .unset, .unset, .unset, .unset, .unset, .unset] [(.int (p4 &&& (7 : Int32)))])
            refine own_go (fun _ k => XS.iconst X0.here hx rfl (hb hby at_73) k) ?_
            show own_Go _ _ _ _ s₁ (mkF m 74 #[.val (.long q1), .second, .val (.long q2), .second, .val (.long q3), .second, .val (.int p4), .val (.int (p4 &&& (7 : Int32))), .unset, .unset, .unset, .unset, .unset, .unset, .unset] [(.int (5 : Int32)), (.int (p4 &&& (7 : Int32)))])
            by_cases hm5 : (p4 &&& (7 : Int32)) = (5 : Int32)
            · skip
              refine own_go (fun _ k => XS.icmpNo X0.here hx rfl (hb hby at_74) rfl (teq hm5).2 k) ?_
              show own_Go _ _ _ _ s₁ (mkF m 77 #[.val (.long q1), .second, .val (.long q2), .second, .val (.long q3), .second, .val (.int p4), .val (.int (p4 &&& (7 : Int32))), .unset, .unset, .unset, .unset, .unset, .unset, .unset] [])
              refine own_go (fun _ k => XS.lloadN X0.here hx rfl (hb hby at_77) rfl k) ?_
              show own_Go _ _ _ _ s₁ (mkF m 78 #[.val (.long q1), .second, .val (.long q2), .second, .val (.long q3), .second, .val (.int p4), .val (.int (p4 &&& (7 : Int32))), .unset, .unset, .unset, .unset, .unset, .unset, .unset] [(.long q1)])
              refine own_go (fun _ k => XS.lconst X0.here hx rfl (hb hby at_78) k) ?_
              show own_Go _ _ _ _ s₁ (mkF m 79 #[.val (.long q1), .second, .val (.long q2), .second, .val (.long q3), .second, .val (.int p4), .val (.int (p4 &&& (7 : Int32))), .unset, .unset, .unset, .unset, .unset, .unset, .unset] [(.long (1 : Int64)), (.long q1)])
              refine own_go (fun _ k => XS.ladd X0.here hx rfl (hb hby at_79) rfl k) ?_
              show own_Go _ _ _ _ s₁ (mkF m 80 #[.val (.long q1), .second, .val (.long q2), .second, .val (.long q3), .second, .val (.int p4), .val (.int (p4 &&& (7 : Int32))), .unset, .unset, .unset, .unset, .unset, .unset, .unset] [(.long (q1 + (1 : Int64)))])
              refine own_go (fun _ k => XS.lstore X0.here hx rfl (hb hby at_80) rfl (l' := #[.val (.long q1), .second, .val (.long q2), .second, .val (.long q3), .second, .val (.int p4), .val (.int (p4 &&& (7 : Int32))), .val (.long (q1 + (1 : Int64))), .second, .unset, .unset, .unset, .unset, .unset]) rfl k) ?_
              show own_Go _ _ _ _ s₁ (mkF m 82 #[.val (.long q1), .second, .val (.long q2), .second, .val (.long q3), .second, .val (.int p4), .val (.int (p4 &&& (7 : Int32))), .val (.long (q1 + (1 : Int64))), .second, .unset, .unset, .unset, .unset, .unset] [])
              refine own_go (fun _ k => XS.goto X0.here hx rfl (pc0 := 82) (pc' := 105) rfl (hb hby at_82) (by decide) (by decide) k) ?_
              exact tail _
            · skip
              refine own_go (fun _ k => XS.icmpYes X0.here hx rfl (pc0 := 74) (pc' := 85) rfl (hb hby at_74) rfl (feq hm5).2 (by decide) (by decide) k) ?_
              show own_Go _ _ _ _ s₁ (mkF m 85 #[.val (.long q1), .second, .val (.long q2), .second, .val (.long q3), .second, .val (.int p4), .val (.int (p4 &&& (7 : Int32))), .unset, .unset, .unset, .unset, .unset, .unset, .unset] [])
              refine own_go (fun _ k => XS.iload X0.here hx rfl (hb hby at_85) rfl k) ?_
              show own_Go _ _ _ _ s₁ (mkF m 87 #[.val (.long q1), .second, .val (.long q2), .second, .val (.long q3), .second, .val (.int p4), .val (.int (p4 &&& (7 : Int32))), .unset, .unset, .unset, .unset, .unset, .unset, .unset] [(.int (p4 &&& (7 : Int32)))])
              refine own_go (fun _ k => XS.bipush X0.here hx rfl (hb hby at_87) k) ?_
              show own_Go _ _ _ _ s₁ (mkF m 89 #[.val (.long q1), .second, .val (.long q2), .second, .val (.long q3), .second, .val (.int p4), .val (.int (p4 &&& (7 : Int32))), .unset, .unset, .unset, .unset, .unset, .unset, .unset] [(.int (6 : Int32)), (.int (p4 &&& (7 : Int32)))])
              by_cases hm6 : (p4 &&& (7 : Int32)) = (6 : Int32)
              · skip
                refine own_go (fun _ k => XS.icmpNo X0.here hx rfl (hb hby at_89) rfl (teq hm6).2 k) ?_
                show own_Go _ _ _ _ s₁ (mkF m 92 #[.val (.long q1), .second, .val (.long q2), .second, .val (.long q3), .second, .val (.int p4), .val (.int (p4 &&& (7 : Int32))), .unset, .unset, .unset, .unset, .unset, .unset, .unset] [])
                refine own_go (X0.ldc2Long hx hown (mvT hZ (hw _ (List.mem_of_getElem? (i := 31) rfl))) (g := (mkF m 92 #[.val (.long q1), .second, .val (.long q2), .second, .val (.long q3), .second, .val (.int p4), .val (.int (p4 &&& (7 : Int32))), .unset, .unset, .unset, .unset, .unset, .unset, .unset] [])) rfl (hb hby at_92)) ?_
                show own_Go _ _ _ _ s₁ (mkF m 95 #[.val (.long q1), .second, .val (.long q2), .second, .val (.long q3), .second, .val (.int p4), .val (.int (p4 &&& (7 : Int32))), .unset, .unset, .unset, .unset, .unset, .unset, .unset] [(.long (-9223372036854775808 : Int64))])
                refine own_go (fun _ k => XS.lstore X0.here hx rfl (hb hby at_95) rfl (l' := #[.val (.long q1), .second, .val (.long q2), .second, .val (.long q3), .second, .val (.int p4), .val (.int (p4 &&& (7 : Int32))), .val (.long (-9223372036854775808 : Int64)), .second, .unset, .unset, .unset, .unset, .unset]) rfl k) ?_
                show own_Go _ _ _ _ s₁ (mkF m 97 #[.val (.long q1), .second, .val (.long q2), .second, .val (.long q3), .second, .val (.int p4), .val (.int (p4 &&& (7 : Int32))), .val (.long (-9223372036854775808 : Int64)), .second, .unset, .unset, .unset, .unset, .unset] [])
                refine own_go (fun _ k => XS.goto X0.here hx rfl (pc0 := 97) (pc' := 105) rfl (hb hby at_97) (by decide) (by decide) k) ?_
                exact tail _
              · skip
                refine own_go (fun _ k => XS.icmpYes X0.here hx rfl (pc0 := 89) (pc' := 100) rfl (hb hby at_89) rfl (feq hm6).2 (by decide) (by decide) k) ?_
                show own_Go _ _ _ _ s₁ (mkF m 100 #[.val (.long q1), .second, .val (.long q2), .second, .val (.long q3), .second, .val (.int p4), .val (.int (p4 &&& (7 : Int32))), .unset, .unset, .unset, .unset, .unset, .unset, .unset] [])
                refine own_go (X0.ldc2Long hx hown (mvT hZ (hw _ (List.mem_of_getElem? (i := 30) rfl))) (g := (mkF m 100 #[.val (.long q1), .second, .val (.long q2), .second, .val (.long q3), .second, .val (.int p4), .val (.int (p4 &&& (7 : Int32))), .unset, .unset, .unset, .unset, .unset, .unset, .unset] [])) rfl (hb hby at_100)) ?_
                show own_Go _ _ _ _ s₁ (mkF m 103 #[.val (.long q1), .second, .val (.long q2), .second, .val (.long q3), .second, .val (.int p4), .val (.int (p4 &&& (7 : Int32))), .unset, .unset, .unset, .unset, .unset, .unset, .unset] [(.long (9223372036854775807 : Int64))])
                refine own_go (fun _ k => XS.lstore X0.here hx rfl (hb hby at_103) rfl (l' := #[.val (.long q1), .second, .val (.long q2), .second, .val (.long q3), .second, .val (.int p4), .val (.int (p4 &&& (7 : Int32))), .val (.long (9223372036854775807 : Int64)), .second, .unset, .unset, .unset, .unset, .unset]) rfl k) ?_
                exact tail _
set_option maxRecDepth 65536 in
set_option maxHeartbeats 40000000 in
theorem comes_1 {Post : Tables → Env → Array Value → State → Outcome → State → Prop} (hpost : ∀ tb e args s v u, (limb_1_1.after args s (.returned v) u = true ∧ limb_1_2.after args s (.returned v) u = true ∧ True) → FrameEnd s (.returned v) u (Jvm.fieldLocs frame_1_writes args s ++ Jvm.arrayLocs frame_1_arrays args s ++ Jvm.staticLocs frame_1_statics s) 16 128 → Post tb e args s (.returned v) u) :
    ArmFor flags0 classFile x code maxLocals ret World_1 tables_1 room_1 Calls_1 rest_1 Pre_1 Post := by
  intro l hfl _ _ p e ha hc hk s m args below hf hA hF happ hP
  obtain ⟨hcalls, hrest, hpre⟩ := hP
  obtain ⟨-, -, -, hnamed, -, -, -, hat⟩ := (Spec.applies_iff hf).mp happ
  obtain ⟨hg, hn⟩ := and_e (Cond.before_iff.mp (show (Jvm.Cond.and given_1 narrow_1).before args s = true from hpre))
  obtain ⟨gc, hg⟩ := and_e hg
  obtain ⟨gv0, hg⟩ := and_e hg
  obtain ⟨gv1, hg⟩ := and_e hg
  obtain ⟨gv2, hg⟩ := and_e hg
  have gv3 := hg
  obtain ⟨w0, w1, w2, w3, rfl⟩ : ∃ w0 w1 w2 w3 : Value, args = #[w0, w1, w2, w3] := by
    have hs : args.size = 4 := by simpa [Cond.value, given_1] using gc
    obtain ⟨L⟩ := args
    match L, hs with
    | [w0, w1, w2, w3], _ => exact ⟨w0, w1, w2, w3, rfl⟩
  have hw := fun d (hd : d ∈ tables_1) => atoms_spec (ws := Jvm.Cond.code x code maxLocals ret :: tables_1) hat d (List.mem_cons_of_mem _ hd)
  obtain ⟨i0, ei0⟩ := isL_v gv0
  obtain rfl : w0 = (.long i0) := Option.some.inj ei0
  obtain ⟨i1, ei1⟩ := isL_v gv1
  obtain rfl : w1 = (.long i1) := Option.some.inj ei1
  obtain ⟨i2, ei2⟩ := isL_v gv2
  obtain rfl : w2 = (.long i2) := Option.some.inj ei2
  obtain ⟨i3, ei3⟩ := is_v gv3
  obtain rfl : w3 = (.int i3) := Option.some.inj ei3
  obtain ⟨n, o, h1, h2, h3, _, L, rfl, ⟨rfl, N⟩, hq⟩ := rm0 l s _ hw tables_1 i0 i1 i2 i3 s.heap s.heap.size (Nat.le_refl _) p e ha hc hk s m _ below hf ((Spec.applies_iff_loose hf).mp happ).1 ⟨rfl, State.Warmed39.refl s, rfl⟩ trivial
  refine ⟨n, _, h1, h2, h3, hpost _ _ _ _ _ _ ⟨Cond.after_iff.mpr rfl, Cond.after_iff.mpr (eq_i res_at (Term.int_eval (1)) rfl), trivial⟩ ⟨hq.1, hq.2.1, (hq.2.2.sift fun y hy => Or.inr (N y hy)).mono (by decide) (by decide)⟩⟩
theorem main_1_1 : Claimed_1_1 := comes_1 fun _ _ _ _ _ _ h hF => ⟨h.1, hF⟩
theorem main_1_2 : Claimed_1_2 := comes_1 fun _ _ _ _ _ _ h hF => ⟨h.2.1, hF⟩
end Jvm.Pilot.@@N@@
namespace Jvm.Pilot.@@N@@
open Jvm Jvm.ClassFile Sem Op Lib Jvm.Free Jvm.Stand Jvm.Pilot.@@N@@.Jvm.D
/-! MADE BY PROGRAM (witnessworld.py) out of the Statement's table words and the real class files: 11 classes; the members and pool entries that the words name. The judged class is class 1, her method 1. -/
namespace start1
open Jvm.ClassFile
def u (s : String) : CpInfo := .utf8 (stringToUtf16 s)
/-- a pool by its gaps: so many unusable entries, then the entry; so many at the end -/
def gap : Nat → List CpInfo → List CpInfo
  | 0, r => r
  | n + 1, r => .unusable :: gap n r
def poolList (es : List (Nat × CpInfo)) (last : Nat) : List CpInfo := es.foldr (fun e r => gap e.1 (e.2 :: r)) (gap last [])
def pool (es : List (Nat × CpInfo)) (last : Nat) : Array CpInfo := ⟨poolList es last⟩
def fileOf (pool : Array CpInfo) (this : Nat) (attrs : Array Attribute := #[]) (ms : Array MethodInfo := #[]) (fl : Nat := 33) (sup : Nat := 0) (ifs : Array Nat := #[]) (fds : Array FieldInfo := #[]) : ClassFile where
  minorVersion := 0
  majorVersion := 65
  constantPool := pool
  accessFlags := fl
  thisClass := this
  superClass := sup
  interfaces := ifs
  fields := fds
  methods := ms
  attributes := attrs
def plain (name : String) (sup : Option ClassId) : Class where
  name := name
  kind := .ordinary
  loader := none
  accessFlags := 33
  super := sup
  interfaces := #[]
  cf := none
  fields := #[]
  methods := #[]
  instanceTypes := #[]
  staticTypes := #[]
  resolved := #[]
  callSites := []
  init := .initialized
  statics := none
  mirror := none

def pool0 : Array CpInfo := pool [(5, u "<init>"), (0, u "()V"), (1, .class_ 10), (1, u "java/lang/Object")] 113

def k0c0 : Code := { maxStack := 0, maxLocals := 1, code := object_method_1_code, exceptionTable := #[], attributes := #[] }
def k0m0 : Method := { name := "<init>", desc := "()V", sig := { parameters := [], returnType := none }, accessFlags := 1, code := some k0c0 }
/-- java/lang/Object -/
def k0 : Class := { plain "java/lang/Object" none with
  accessFlags := 33
  interfaces := #[]
  cf := some (fileOf pool0 8 #[] #[{ accessFlags := 1, nameIndex := 5, descriptorIndex := 6, attributes := #[] }] 33 0 #[] #[])
  fields := #[]
  methods := #[k0m0]
  instanceTypes := #[]
  staticTypes := #[]
  resolved := Array.replicate 124 none
  statics := none }

def pool1 : Array CpInfo := pool [(2, .class_ 4), (1, u "java/lang/Object"), (0, u "<init>"), (0, u "()V"), (2, .long 9223372036854775808), (1, .long 9223372036854775807), (1, .class_ 14), (0, u "com/example/anahtar/anahtar/AnswerCache$Span"), (0, .methodref 13 16), (0, .nameAndType 5 17), (0, u "(JJ)V"), (0, .methodref 13 19), (0, .nameAndType 20 21), (0, u "holds"), (0, u "(J)Z"), (0, .methodref 23 24), (0, .class_ 25), (0, .nameAndType 26 27), (0, u "java/lang/Math"), (0, u "max"), (0, u "(JJ)J"), (0, .methodref 23 29), (0, .nameAndType 30 27), (0, u "min"), (0, .class_ 32), (0, u "com/example/anahtar/anahtar/SpanHoldsPinLaw"), (2, u "law"), (0, u "(JJJI)Z")] 7

def k1m0 : Method := { name := "<init>", desc := "()V", sig := { parameters := [], returnType := none }, accessFlags := 2, code := none }
def k1c1 : Code := { maxStack := 6, maxLocals := 15, code := code, exceptionTable := #[], attributes := #[] }
def k1m1 : Method := { name := "law", desc := "(JJJI)Z", sig := { parameters := [.long, .long, .long, .int], returnType := some .boolean }, accessFlags := 9, code := some k1c1 }
/-- com/example/anahtar/anahtar/SpanHoldsPinLaw -/
def k1 : Class := { plain "com/example/anahtar/anahtar/SpanHoldsPinLaw" (some 0) with
  accessFlags := 49
  interfaces := #[]
  cf := some (fileOf pool1 31 #[] #[{ accessFlags := 2, nameIndex := 5, descriptorIndex := 6, attributes := #[] }, { accessFlags := 9, nameIndex := 35, descriptorIndex := 36, attributes := #[] }] 49 2 #[] #[])
  fields := #[]
  methods := #[k1m0, k1m1]
  instanceTypes := #[]
  staticTypes := #[]
  resolved := Array.replicate 44 none
  statics := none }

def pool2 : Array CpInfo := pool [(1, .methodref 2 3), (0, .class_ 4), (0, .nameAndType 5 6), (0, u "java/lang/Object"), (0, u "<init>"), (0, u "()V"), (0, .class_ 8), (0, u "java/lang/Record")] 13

def k2c0 : Code := { maxStack := 1, maxLocals := 1, code := jdk_30_method_1_code, exceptionTable := #[], attributes := #[] }
def k2m0 : Method := { name := "<init>", desc := "()V", sig := { parameters := [], returnType := none }, accessFlags := 4, code := some k2c0 }
/-- java/lang/Record -/
def k2 : Class := { plain "java/lang/Record" (some 0) with
  accessFlags := 1057
  interfaces := #[]
  cf := some (fileOf pool2 7 #[] #[{ accessFlags := 4, nameIndex := 5, descriptorIndex := 6, attributes := #[] }] 1057 2 #[] #[])
  fields := #[]
  methods := #[k2m0]
  instanceTypes := #[]
  staticTypes := #[]
  resolved := Array.replicate 22 none
  statics := none }

def pool3 : Array CpInfo := pool [(1, .methodref 2 3), (0, .class_ 4), (0, .nameAndType 5 6), (0, u "java/lang/Record"), (0, u "<init>"), (0, u "()V"), (0, .fieldref 8 9), (0, .class_ 10), (0, .nameAndType 11 12), (0, u "com/example/anahtar/anahtar/AnswerCache$Span"), (0, u "from"), (0, u "J"), (0, .fieldref 8 14), (0, .nameAndType 15 12), (0, u "until"), (21, u "(JJ)V"), (14, u "ALWAYS"), (0, u "Lcom/example/anahtar/anahtar/AnswerCache$Span;"), (3, u "holds"), (0, u "(J)Z"), (11, .class_ 71), (0, u "com/example/anahtar/anahtar/AnswerCache")] 20

def k3c0 : Code := { maxStack := 3, maxLocals := 5, code := prog_4_method_1_code, exceptionTable := #[], attributes := #[] }
def k3m0 : Method := { name := "<init>", desc := "(JJ)V", sig := { parameters := [.long, .long], returnType := none }, accessFlags := 0, code := some k3c0 }
def k3c1 : Code := { maxStack := 4, maxLocals := 3, code := prog_4_method_2_code, exceptionTable := #[], attributes := #[] }
def k3m1 : Method := { name := "holds", desc := "(J)Z", sig := { parameters := [.long], returnType := some .boolean }, accessFlags := 0, code := some k3c1 }
/-- com/example/anahtar/anahtar/AnswerCache$Span -/
def k3 : Class := { plain "com/example/anahtar/anahtar/AnswerCache$Span" (some 2) with
  accessFlags := 48
  interfaces := #[]
  cf := some (fileOf pool3 8 #[.nestHost 70] #[{ accessFlags := 0, nameIndex := 5, descriptorIndex := 37, attributes := #[] }, { accessFlags := 0, nameIndex := 57, descriptorIndex := 58, attributes := #[] }] 48 2 #[] #[{ accessFlags := 18, nameIndex := 11, descriptorIndex := 12, attributes := #[] }, { accessFlags := 18, nameIndex := 15, descriptorIndex := 12, attributes := #[] }, { accessFlags := 24, nameIndex := 52, descriptorIndex := 53, attributes := #[] }])
  fields := #[{ name := "from", type := .long, accessFlags := 18, slot := 0, constantValue := 0 }, { name := "until", type := .long, accessFlags := 18, slot := 1, constantValue := 0 }, { name := "ALWAYS", type := (.object "com/example/anahtar/anahtar/AnswerCache$Span"), accessFlags := 24, slot := 0, constantValue := 0 }]
  methods := #[k3m0, k3m1]
  instanceTypes := #[.long, .long]
  staticTypes := #[(.object "com/example/anahtar/anahtar/AnswerCache$Span")]
  resolved := Array.replicate 92 none
  statics := none }

def pool4 : Array CpInfo := pool [(1, .class_ 2), (0, u "java/lang/Math"), (1, .class_ 6), (1, u "java/lang/Object"), (0, u "<init>"), (0, u "()V"), (89, .class_ 100), (1, u "java/lang/Math$RandomNumberGeneratorHolder"), (20, u "(JJ)J"), (50, u "negativeZeroFloatBits"), (0, u "J"), (2, u "negativeZeroDoubleBits"), (21, u "max"), (2, u "min"), (43, u "$assertionsDisabled"), (0, u "Z"), (91, u "twoToTheDoubleScaleDown"), (0, u "D"), (4, u "twoToTheDoubleScaleUp"), (9, u "E"), (3, u "PI"), (2, u "TAU"), (2, u "DEGREES_TO_RADIANS"), (0, u "RADIANS_TO_DEGREES")] 94

def k4m0 : Method := { name := "<init>", desc := "()V", sig := { parameters := [], returnType := none }, accessFlags := 2, code := none }
def k4c1 : Code := { maxStack := 4, maxLocals := 4, code := jdk_29_method_66_code, exceptionTable := #[], attributes := #[] }
def k4m1 : Method := { name := "max", desc := "(JJ)J", sig := { parameters := [.long, .long], returnType := some .long }, accessFlags := 9, code := some k4c1 }
def k4c2 : Code := { maxStack := 4, maxLocals := 4, code := jdk_29_method_70_code, exceptionTable := #[], attributes := #[] }
def k4m2 : Method := { name := "min", desc := "(JJ)J", sig := { parameters := [.long, .long], returnType := some .long }, accessFlags := 9, code := some k4c2 }
/-- java/lang/Math -/
def k4 : Class := { plain "java/lang/Math" (some 0) with
  accessFlags := 49
  interfaces := #[]
  cf := some (fileOf pool4 1 #[.nestMembers #[98]] #[{ accessFlags := 2, nameIndex := 7, descriptorIndex := 8, attributes := #[] }, { accessFlags := 9, nameIndex := 198, descriptorIndex := 121, attributes := #[] }, { accessFlags := 9, nameIndex := 201, descriptorIndex := 121, attributes := #[] }] 49 4 #[] #[{ accessFlags := 25, nameIndex := 354, descriptorIndex := 339, attributes := #[] }, { accessFlags := 25, nameIndex := 358, descriptorIndex := 339, attributes := #[] }, { accessFlags := 25, nameIndex := 361, descriptorIndex := 339, attributes := #[] }, { accessFlags := 26, nameIndex := 364, descriptorIndex := 339, attributes := #[] }, { accessFlags := 26, nameIndex := 365, descriptorIndex := 339, attributes := #[] }, { accessFlags := 26, nameIndex := 172, descriptorIndex := 173, attributes := #[] }, { accessFlags := 26, nameIndex := 176, descriptorIndex := 173, attributes := #[] }, { accessFlags := 8, nameIndex := 344, descriptorIndex := 339, attributes := #[] }, { accessFlags := 8, nameIndex := 338, descriptorIndex := 339, attributes := #[] }, { accessFlags := 4120, nameIndex := 245, descriptorIndex := 246, attributes := #[] }])
  fields := #[{ name := "E", type := .double, accessFlags := 25, slot := 0, constantValue := 0 }, { name := "PI", type := .double, accessFlags := 25, slot := 1, constantValue := 0 }, { name := "TAU", type := .double, accessFlags := 25, slot := 2, constantValue := 0 }, { name := "DEGREES_TO_RADIANS", type := .double, accessFlags := 26, slot := 3, constantValue := 0 }, { name := "RADIANS_TO_DEGREES", type := .double, accessFlags := 26, slot := 4, constantValue := 0 }, { name := "negativeZeroFloatBits", type := .long, accessFlags := 26, slot := 5, constantValue := 0 }, { name := "negativeZeroDoubleBits", type := .long, accessFlags := 26, slot := 6, constantValue := 0 }, { name := "twoToTheDoubleScaleUp", type := .double, accessFlags := 8, slot := 7, constantValue := 0 }, { name := "twoToTheDoubleScaleDown", type := .double, accessFlags := 8, slot := 8, constantValue := 0 }, { name := "$assertionsDisabled", type := .boolean, accessFlags := 4120, slot := 9, constantValue := 0 }]
  methods := #[k4m0, k4m1, k4m2]
  instanceTypes := #[]
  staticTypes := #[.double, .double, .double, .double, .double, .long, .long, .double, .double, .boolean]
  resolved := Array.replicate 460 none
  statics := none }

def pool5 : Array CpInfo := pool [(1, u "java/lang/Cloneable"), (0, .class_ 1), (0, u "java/lang/Object"), (0, .class_ 3)] 3

/-- java/lang/Cloneable -/
def k5 : Class := { plain "java/lang/Cloneable" (some 0) with
  accessFlags := 1537
  interfaces := #[]
  cf := some (fileOf pool5 2 #[] #[] 1537 4 #[] #[])
  fields := #[]
  methods := #[]
  instanceTypes := #[]
  staticTypes := #[]
  resolved := Array.replicate 8 none
  statics := none }

def pool6 : Array CpInfo := pool [(1, u "java/io/Serializable"), (0, .class_ 1), (0, u "java/lang/Object"), (0, .class_ 3)] 3

/-- java/io/Serializable -/
def k6 : Class := { plain "java/io/Serializable" (some 0) with
  accessFlags := 1537
  interfaces := #[]
  cf := some (fileOf pool6 2 #[] #[] 1537 4 #[] #[])
  fields := #[]
  methods := #[]
  instanceTypes := #[]
  staticTypes := #[]
  resolved := Array.replicate 8 none
  statics := none }

/-- the primitive byte -/
def k7 : Class := { plain "byte" none with kind := .primitive 'B', accessFlags := 0x411 }
/-- [B -/
def k8 : Class := { plain "[B" (some 0) with kind := .array 7 .byte, interfaces := #[5, 6], accessFlags := 1041 }

/-- the primitive int -/
def k9 : Class := { plain "int" none with kind := .primitive 'I', accessFlags := 0x411 }
/-- [I -/
def k10 : Class := { plain "[I" (some 0) with kind := .array 9 .int, interfaces := #[5, 6], accessFlags := 1041 }

def heap : Heap := #[]
def classes : Array Class := #[k0, k1, k2, k3, k4, k5, k6, k7, k8, k9, k10]
def interned : List (Array UInt16 × Addr) := []
def slotsUsed : Nat := 0
def theMethod : MethodId := ⟨1, 1⟩
def args0 : Array Value := #[.long 9, .long 30, .long 12, .int 1]
def aboutOver (below : List Frame) : State where
  vm := { classes := classes, interned := interned.toArray }
  heap := heap
  slotsUsed := slotsUsed
  threads := #[{ frames := .invoking theMethod args0 :: below }]
def below0 : List Frame := [.native { method := ⟨0, 0⟩, args := #[] }]
def about1 : State := aboutOver below0
def p0 : Program := .bare "" "" ""
def e0 : Env := launch0.env 0 0 0
theorem w_frames : about1.frames = Frame.invoking theMethod args0 :: below0 := rfl
set_option maxRecDepth 65536 in
theorem w_args : argsFit about1.vm theMethod args0 = true := by decide +kernel
set_option maxRecDepth 65536 in
theorem w_heap : heapFits about1 = true := by decide +kernel
set_option maxRecDepth 65536 in
theorem w_runnable : about1.curStatus? = some .runnable := by decide +kernel
set_option maxRecDepth 65536 in
theorem w_alone : about1.alone = true := by decide +kernel
set_option maxRecDepth 65536 in
theorem w_named : about1.methodNamed? x = some theMethod := by decide +kernel
set_option maxRecDepth 65536 in
theorem w_hears : about1.hears theMethod below0 = true := by decide +kernel
set_option maxRecDepth 65536 in
theorem w_ripe : about1.ripe theMethod args0 below0 = true := by decide +kernel
theorem w_running : about1.status = .running := rfl
set_option maxRecDepth 65536 in
theorem w_room : about1.hasRoom e0.platform room_1 = true :=
  launch0.hasRoom_least _ room_1 (by decide +kernel) (by decide +kernel) (by decide +kernel) (by decide +kernel) (by decide +kernel) (by decide +kernel)
theorem allAtoms_all (ts : List Jvm.Cond) (a : Array Jvm.Value) (st : Jvm.State) : (allAtoms ts).before a st = ts.all (fun c => c.before a st) := by
  induction ts with
  | nil => rfl
  | cons c t ih =>
    show (Jvm.Cond.and c (allAtoms t)).before a st = _
    rw [Jvm.Cond.before_and, ih, List.all_cons]
def words1 : List Jvm.Cond := Jvm.Cond.code x code maxLocals ret :: tables_1
/-- a 'code' word, met by the world's own term for the bytes: nothing is compared byte by byte -/
theorem code_word {y : MethodName} {bytes : ByteArray} {mx : Nat} {rt : Option FieldType} {a : Array Value} {s : State} {m : MethodId} {meth : Method} {c : Code} (h1 : s.methodNamed? y = some m) (h2 : s.vm.method? m = some meth) (h3 : meth.code = some c) (h4 : c.code = bytes)
    (h5 : (c.maxLocals == mx && c.exceptionTable.isEmpty && decide (c.maxStack ≤ mostOperands) && decide (meth.sig.returnType = rt) && !meth.locks && decide (parseMethodDescriptor y.desc = some meth.sig)) = true) : (Jvm.Cond.code y bytes mx rt).before a s = true := by
  simp only [Bool.and_eq_true, beq_iff_eq, Bool.not_eq_true', decide_eq_true_eq] at h5
  obtain ⟨⟨⟨⟨⟨g1, g2⟩, g3⟩, g4⟩, g5⟩, g6⟩ := h5
  simp [Cond.before, Cond.holds, Cond.value, h1, h2, h3, h4, g1, g2, g3, g4, g5, g6]
def isCode : Jvm.Cond → Bool
  | .code _ _ _ _ => true
  | _ => false
theorem all_split {L : List Jvm.Cond} {P : Jvm.Cond → Bool} (h1 : L.all (fun c => isCode c || P c) = true) (h2 : ∀ c ∈ L.filter isCode, P c = true) : L.all P = true := by
  refine List.all_eq_true.mpr fun c hc => ?_
  have h := List.all_eq_true.mp h1 c hc
  rcases Bool.eq_false_or_eq_true (isCode c) with hi | hi
  · exact h2 c (List.mem_filter.mpr ⟨hc, hi⟩)
  · simpa [hi] using h
set_option maxRecDepth 65536 in
theorem w_c0 : (Jvm.Cond.code x code maxLocals ret).before args0 about1 = true := code_word (m := ⟨1, 1⟩) (meth := k1m1) (c := k1c1) (by decide +kernel) rfl rfl rfl (by decide +kernel)
set_option maxRecDepth 65536 in
theorem w_c1 : (Jvm.Cond.code ({ cls := "com/example/anahtar/anahtar/AnswerCache$Span", name := "<init>", desc := "(JJ)V" } : Jvm.MethodName) prog_4_method_1_code (5 : Nat) (Option.none : Option Jvm.ClassFile.FieldType)).before args0 about1 = true := code_word (m := ⟨3, 0⟩) (meth := k3m0) (c := k3c0) (by decide +kernel) rfl rfl rfl (by decide +kernel)
set_option maxRecDepth 65536 in
theorem w_c2 : (Jvm.Cond.code ({ cls := "java/lang/Record", name := "<init>", desc := "()V" } : Jvm.MethodName) jdk_30_method_1_code (1 : Nat) (Option.none : Option Jvm.ClassFile.FieldType)).before args0 about1 = true := code_word (m := ⟨2, 0⟩) (meth := k2m0) (c := k2c0) (by decide +kernel) rfl rfl rfl (by decide +kernel)
set_option maxRecDepth 65536 in
theorem w_c3 : (Jvm.Cond.code ({ cls := "java/lang/Object", name := "<init>", desc := "()V" } : Jvm.MethodName) object_method_1_code (1 : Nat) (Option.none : Option Jvm.ClassFile.FieldType)).before args0 about1 = true := code_word (m := ⟨0, 0⟩) (meth := k0m0) (c := k0c0) (by decide +kernel) rfl rfl rfl (by decide +kernel)
set_option maxRecDepth 65536 in
theorem w_c4 : (Jvm.Cond.code ({ cls := "com/example/anahtar/anahtar/AnswerCache$Span", name := "holds", desc := "(J)Z" } : Jvm.MethodName) prog_4_method_2_code (3 : Nat) (Option.some Jvm.ClassFile.FieldType.boolean)).before args0 about1 = true := code_word (m := ⟨3, 1⟩) (meth := k3m1) (c := k3c1) (by decide +kernel) rfl rfl rfl (by decide +kernel)
set_option maxRecDepth 65536 in
theorem w_c5 : (Jvm.Cond.code ({ cls := "java/lang/Math", name := "max", desc := "(JJ)J" } : Jvm.MethodName) jdk_29_method_66_code (4 : Nat) (Option.some Jvm.ClassFile.FieldType.long)).before args0 about1 = true := code_word (m := ⟨4, 1⟩) (meth := k4m1) (c := k4c1) (by decide +kernel) rfl rfl rfl (by decide +kernel)
set_option maxRecDepth 65536 in
theorem w_c6 : (Jvm.Cond.code ({ cls := "java/lang/Math", name := "min", desc := "(JJ)J" } : Jvm.MethodName) jdk_29_method_70_code (4 : Nat) (Option.some Jvm.ClassFile.FieldType.long)).before args0 about1 = true := code_word (m := ⟨4, 2⟩) (meth := k4m2) (c := k4c2) (by decide +kernel) rfl rfl rfl (by decide +kernel)
def codes1 : List Jvm.Cond := [Jvm.Cond.code x code maxLocals ret, Jvm.Cond.code ({ cls := "com/example/anahtar/anahtar/AnswerCache$Span", name := "<init>", desc := "(JJ)V" } : Jvm.MethodName) prog_4_method_1_code (5 : Nat) (Option.none : Option Jvm.ClassFile.FieldType), Jvm.Cond.code ({ cls := "java/lang/Record", name := "<init>", desc := "()V" } : Jvm.MethodName) jdk_30_method_1_code (1 : Nat) (Option.none : Option Jvm.ClassFile.FieldType), Jvm.Cond.code ({ cls := "java/lang/Object", name := "<init>", desc := "()V" } : Jvm.MethodName) object_method_1_code (1 : Nat) (Option.none : Option Jvm.ClassFile.FieldType), Jvm.Cond.code ({ cls := "com/example/anahtar/anahtar/AnswerCache$Span", name := "holds", desc := "(J)Z" } : Jvm.MethodName) prog_4_method_2_code (3 : Nat) (Option.some Jvm.ClassFile.FieldType.boolean), Jvm.Cond.code ({ cls := "java/lang/Math", name := "max", desc := "(JJ)J" } : Jvm.MethodName) jdk_29_method_66_code (4 : Nat) (Option.some Jvm.ClassFile.FieldType.long), Jvm.Cond.code ({ cls := "java/lang/Math", name := "min", desc := "(JJ)J" } : Jvm.MethodName) jdk_29_method_70_code (4 : Nat) (Option.some Jvm.ClassFile.FieldType.long)]
set_option maxRecDepth 65536 in
theorem codes_eq : words1.filter isCode = codes1 := rfl
theorem w_codes : ∀ c ∈ words1.filter isCode, c.before args0 about1 = true := by
  rw [codes_eq]
  intro c hc
  simp only [codes1, List.mem_cons, List.not_mem_nil, or_false] at hc
  rcases hc with rfl | rfl | rfl | rfl | rfl | rfl | rfl
  · exact w_c0
  · exact w_c1
  · exact w_c2
  · exact w_c3
  · exact w_c4
  · exact w_c5
  · exact w_c6
set_option maxRecDepth 65536 in
theorem w_t1 : (words1.take 24).all (fun c => isCode c || c.before args0 about1) = true := by decide +kernel
set_option maxRecDepth 65536 in
theorem w_t2 : (words1.drop 24).all (fun c => isCode c || c.before args0 about1) = true := by decide +kernel
theorem w_tables : (allAtoms (Jvm.Cond.code x code maxLocals ret :: tables_1)).before args0 about1 = true := by
  rw [allAtoms_all]
  show words1.all (fun c => c.before args0 about1) = true
  refine all_split ?_ w_codes
  rw [← List.take_append_drop 24 words1, List.all_append, w_t1, w_t2]
  rfl
set_option maxRecDepth 65536 in
theorem w_case : (Jvm.Cond.and given_1 narrow_1).before args0 about1 = true := by decide +kernel
theorem w_applies : (headSpec (Jvm.Cond.code x code maxLocals ret :: tables_1) room_1).applies x e0.platform about1 = true :=
  (Spec.applies_iff w_frames).mpr ⟨w_running, w_runnable, w_alone, w_named, w_hears, w_ripe, w_room, w_tables⟩
theorem atStart : AtStart classFile x code maxLocals ret World_1 tables_1 room_1 Calls_1 rest_1 Pre_1 launch0 p0 e0 about1 theMethod args0 below0 :=
  ⟨lists_1, trivial, launch0.admits_env _ _ _, launch0.least_env, fairChoices_fair.cas, fairChoices_fair.clock, w_frames, w_args, w_heap, w_applies, trivial, trivial, w_case⟩
end start1
theorem witness_1 : WitnessClaimed_1 := ⟨start1.p0, start1.e0, start1.about1, start1.theMethod, start1.args0, start1.below0, start1.atStart⟩
end Jvm.Pilot.@@N@@
