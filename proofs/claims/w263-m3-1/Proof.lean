import JvmDerived
import JvmDerived.Pilot.@@N@@Statement
import JvmDerived.Pilot.@@N@@Code
set_option linter.unusedVariables false
set_option linter.unusedSimpArgs false
namespace Jvm.RoadKit
open Sem ClassFile Op Lib Jvm.Stand Jvm.Free Jvm.LawKit
section OwnKit
variable {p : Program} {l : Launch} {e : Env} {R : Room} {s : State} {m : MethodId} {args : Array Value} {below : List Frame} {meth : Method} {c : Code} {T : State} {locs : List Loc} {cells slots : Nat}
theorem retI (X : Stand p l e R s m args below meth c T locs cells slots) (hx : p.tables.exec = Jvm.exec) {pc : Nat} {Ls : Array Slot} {z : Int32} {rest : List Value} (hret : meth.sig.returnType = some .int) (hd : decode c.code pc = .ok (.ireturn, 1)) {fs : List Frame}
    (hl : ∀ (f : JFrame) (acts : List Action), f.method = m → f.locked = none → f.entered = [] → (doReturn e (T.setTop f) acts (some (.int z))).1 = T.setFrames fs) : Steps p.tables e below (T.setTop (mkF m pc Ls (.int z :: rest))) (T.setFrames fs) := by
  have hm' : T.vm.method? m = some meth := X.method'
  have hn : narrow .int (.int z) = .int z := rfl
  show Steps p.tables e below (T.setTop { method := m, pc := pc, locals := Ls, stack := _ :: rest, locked := none }) _
  jvm_step X.here [X.here.top, hx, hd, hm', hret, hn]
  first | (intro acts; rw [hl _ acts rfl rfl rfl]) | rw [hl _ _ rfl rfl rfl]
  exact Steps.refl _
/-- from this state and frame the run comes to an end that P says -/
def own_Go (tb : Tables) (e : Env) (below : List Frame) (P : State → Outcome → Prop) (T : State) (g : JFrame) : Prop := ∃ s₂ o, Steps tb e below (T.setTop g) s₂ ∧ P s₂ o
theorem own_go {tb : Tables} {P : State → Outcome → Prop} {T' : State} {g g' : JFrame} (st : ∀ t, Steps tb e below (T'.setTop g') t → Steps tb e below (T.setTop g) t) (k : own_Go tb e below P T' g') : own_Go tb e below P T g := by
  obtain ⟨s, o, h, q⟩ := k
  exact ⟨s, o, st s h, q⟩
/-- how a body ends: what it returned, its heap and the places that it wrote stand in Q -/
def own_P (below : List Frame) (s : State) (Q : Option Value → Heap → List Loc → Prop) (k n : Nat) (s₂ : State) (o : Outcome) : Prop := s₂.status = .running ∧ Ended s₂ below o ∧ ∃ v L, o = .returned v ∧ Q v s₂.heap L ∧ FrameEnd s o s₂ L k n
theorem own_leave (X : Stand p l e R s m args below meth c T locs cells slots) {Q : Option Value → Heap → List Loc → Prop} {k n : Nat} {v : Option Value} {g : JFrame} (hlk : meth.locks = false) (hv : meth.sig.returnType = none → v = none) (hq : Q v T.heap locs) (hk : cells ≤ k) (hn : slots ≤ n)
    (hst : ∀ fs, (∀ (f : JFrame) (acts : List Action), f.method = m → f.locked = none → f.entered = [] → (doReturn e (T.setTop f) acts v).1 = T.setFrames fs) → Steps p.tables e below (T.setTop g) (T.setFrames fs)) : own_Go p.tables e below (own_P below s Q k n) T g := by
  obtain ⟨fs, hr, hrun, hended, hW, hsame⟩ := X.leave (v := v) hv hlk
  exact ⟨_, _, hst fs hr, hrun, hended, _, _, rfl, hq, ⟨_, rfl⟩, hW, hsame.mono hk hn⟩
section Rets
variable {Q : Option Value → Heap → List Loc → Prop} {k n : Nat} {pc : Nat} {Ls : Array Slot} {rest : List Value}
theorem own_retI (X : Stand p l e R s m args below meth c T locs cells slots) (hx : p.tables.exec = Jvm.exec) {z : Int32} (hret : meth.sig.returnType = some .int) (hlk : meth.locks = false) (hd : decode c.code pc = .ok (.ireturn, 1)) (hk : cells ≤ k) (hn : slots ≤ n) (hq : Q (some (.int z)) T.heap locs) : own_Go p.tables e below (own_P below s Q k n) T (mkF m pc Ls (.int z :: rest)) :=
  own_leave X hlk (fun h => by rw [hret] at h; cases h) hq hk hn (fun fs hr => retI X hx hret hd hr)
theorem own_retN (X : Stand p l e R s m args below meth c T locs cells slots) (hx : p.tables.exec = Jvm.exec) {z : Int32} {t : FieldType} (hret : meth.sig.returnType = some t) (ht : t = .boolean ∨ t = .byte ∨ t = .char ∨ t = .short) (hlk : meth.locks = false) (hd : decode c.code pc = .ok (.ireturn, 1)) (hk : cells ≤ k) (hn : slots ≤ n) (hq : Q (some (.int (nar t z))) T.heap locs) : own_Go p.tables e below (own_P below s Q k n) T (mkF m pc Ls (.int z :: rest)) :=
  own_leave X hlk (fun h => by rw [hret] at h; cases h) hq hk hn (fun fs hr => retN X hx hret ht hd hr)
theorem own_retJ (X : Stand p l e R s m args below meth c T locs cells slots) (hx : p.tables.exec = Jvm.exec) {z : Int64} (hret : meth.sig.returnType = some .long) (hlk : meth.locks = false) (hd : decode c.code pc = .ok (.lreturn, 1)) (hk : cells ≤ k) (hn : slots ≤ n) (hq : Q (some (.long z)) T.heap locs) : own_Go p.tables e below (own_P below s Q k n) T (mkF m pc Ls (.long z :: rest)) :=
  own_leave X hlk (fun h => by rw [hret] at h; cases h) hq hk hn (fun fs hr => retOut X hx hret rfl (Or.inr (Or.inl ⟨rfl, rfl, z, rfl⟩)) hd hr)
theorem own_narR {t : FieldType} {v : Value} (ht : t.isReference = true) : narrow t v = v := by
  cases t <;> simp [FieldType.isReference] at ht <;> rfl
theorem own_retR (X : Stand p l e R s m args below meth c T locs cells slots) (hx : p.tables.exec = Jvm.exec) {z : Value} {t : FieldType} (hret : meth.sig.returnType = some t) (ht : t.isReference = true) (hz : z.isRef = true) (hlk : meth.locks = false) (hd : decode c.code pc = .ok (.areturn, 1)) (hk : cells ≤ k) (hn : slots ≤ n) (hq : Q (some z) T.heap locs) : own_Go p.tables e below (own_P below s Q k n) T (mkF m pc Ls (z :: rest)) :=
  own_leave X hlk (fun h => by rw [hret] at h; cases h) hq hk hn (fun fs hr => retOut X hx hret (own_narR ht) (Or.inr (Or.inr (Or.inr (Or.inr ⟨rfl, ht, hz⟩)))) hd hr)
theorem own_retV (X : Stand p l e R s m args below meth c T locs cells slots) (hx : p.tables.exec = Jvm.exec) (hret : meth.sig.returnType = none) (hlk : meth.locks = false) (hd : decode c.code pc = .ok (.return_, 1)) (hk : cells ≤ k) (hn : slots ≤ n) (hq : Q none T.heap locs) : own_Go p.tables e below (own_P below s Q k n) T (mkF m pc Ls []) :=
  own_leave X hlk (fun _ => rfl) hq hk hn (fun fs hr => X.returnOut hx hret hd hr)
end Rets
/-- a body's contract at one call: its arguments, the heap at the call, what it leaves -/
abbrev own_Met (l : Launch) (y : MethodName) (bytes : ByteArray) (maxL : Nat) (ret : Option FieldType) (ws : List Cond) (rm : Room) (Z : State) (as' : Array Value) (h0 : Heap) (Q : Option Value → Heap → List Loc → Prop) : Prop :=
  MetFree l y (head1 (Cond.code y bytes maxL ret :: ws) rm) (fun a U => a = as' ∧ Z.Warmed39 U.vm ∧ U.heap = h0) (fun _ _ _ _ _ => True) (fun _ U o U' => ∃ v L, o = .returned v ∧ Q v U'.heap L ∧ FrameEnd U o U' L rm.cells rm.slots)
theorem own_body {y : MethodName} {bytes : ByteArray} {maxL : Nat} {ret : Option FieldType} {ws : List Cond} {rm : Room} {Z : State} {as' : Array Value} {h0 : Heap} {Q : Option Value → Heap → List Loc → Prop} (hpl : plainFor y = true)
    (H : ∀ (p : Program) (e : Env) (s : State) (m : MethodId) (below : List Frame) (meth : Method) (c : Code) (s₁ : State), Stand p l e rm s m as' below meth c s₁ [] 0 0 → p.tables.exec = Jvm.exec → c.code = bytes → c.maxLocals = maxL → s.vm.findClass y.cls = some m.cls → meth.name = y.name → meth.sig.returnType = ret → meth.locks = false → Z.Warmed39 s.vm → s₁.heap = h0 → own_Go p.tables e below (own_P below s Q rm.cells rm.slots) s₁ (entryFrame m as' maxL)) :
    own_Met l y bytes maxL ret ws rm Z as' h0 Q := by
  refine MetFree.of_bodySF hpl hisR ?_
  intro p e s m args below meth c s₁ Bd hml hP hK
  obtain ⟨rfl, hZ, hh⟩ := hP
  exact H p e s m below meth c s₁ (Stand.of_body Bd) Bd.exec Bd.bytes hml (findClass_of_methodNamed Bd.named) (name_of_methodNamed Bd.named Bd.method).1 Bd.returns Bd.notSynchronized hZ (by rw [← hh, Bd.state]; rfl)
theorem own_cast {tb : Tables} {P : State → Outcome → Prop} {g g' : JFrame} (q : g = g') (k : own_Go tb e below P T g') : own_Go tb e below P T g := q ▸ k
section Calls
variable {Z : State} {a0 : Array Value} {h : Heap} {own : String} {index : Nat} {y : MethodName} {bytes : ByteArray} {maxL : Nat} {ret : Option FieldType} {rm : Room} {Q : Option Value → Heap → List Loc → Prop}
theorem own_callS (X : Stand p l e R s m args below meth c T locs cells slots) (hx : p.tables.exec = Jvm.exec) (hZ : Z.Warmed39 s.vm) (hown : s.vm.findClass own = some m.cls) (w1 : (Cond.methodLink own index y).before a0 Z = true) (w2 : (Cond.static y).before a0 Z = true) (w3 : (Cond.initialized y.cls).before a0 Z = true) (w4 : (Cond.code y bytes maxL ret).before a0 Z = true)
    (hy : y.cls ≠ "java/lang/invoke/MethodHandle" ∧ y.cls ≠ "java/lang/invoke/VarHandle") (eT : T.heap = h) {argsL rest : List Value} (hM : own_Met l y bytes maxL ret [] rm Z argsL.toArray h Q) (W : Nat) (hf : rm.frames + 1 ≤ R.frames) (hl : W + (maxL + 11) + rm.locals ≤ R.locals) (hc : cells + rm.cells ≤ R.cells) (hs : slots + rm.slots ≤ R.slots)
    {g : JFrame} (hg : g.method = m) (hsize : g.locals.size = c.maxLocals) (hlen : ∀ sig, parseMethodDescriptor y.desc = some sig → argsL.length = sig.parameters.length) (hstack : g.stack = argsL.reverse ++ rest) (hW : 2 * g.monitorRoom + (rest.map fun v => v.category).sum ≤ W) (hdg : decode c.code g.pc = .ok (.invokestatic index, 3)) :
    ∃ (v : Option Value) (T' : State) (h' : Heap) (L : List Loc), Stand p l e R s m args below meth c T' (locs ++ L) (cells + rm.cells) (slots + rm.slots) ∧ T'.heap = h' ∧ Q v h' L ∧ ∀ t, Steps p.tables e below (T'.setTop { g with pc := g.pc + 3, stack := v.toList ++ rest }) t → Steps p.tables e below (T.setTop g) t := by
  obtain ⟨v, _, ⟨T', L', k', n'⟩, -, X', ⟨Lc, hQ, l', y', z'⟩, st⟩ := Jvm.LawKit.callS X hx hown (mvT hZ w1) (mvT hZ w2) (mvT hZ w3) (mvT hZ w4) hy (backOf (W := W) hM hZ w4 w3 hf hl) hg hsize hlen hstack hW hdg (fun _ _ => ⟨rfl, eT, hc, hs⟩)
  dsimp only [Pt.U, Pt.locs, Pt.cells, Pt.slots] at X' l' y' z' st hQ
  subst l' y' z'
  exact ⟨v, T', _, Lc, X', rfl, hQ, st⟩
theorem own_callI (X : Stand p l e R s m args below meth c T locs cells slots) (hx : p.tables.exec = Jvm.exec) (hZ : Z.Warmed39 s.vm) (hn : y.name = "<init>") (hown : s.vm.findClass own = some m.cls) (w1 : (Cond.methodLink own index y).before a0 Z = true) (w2 : (Cond.instanceMethod y).before a0 Z = true) (w3 : (Cond.initialized y.cls).before a0 Z = true) (w4 : (Cond.code y bytes maxL none).before a0 Z = true)
    (hy : y.cls ≠ "java/lang/invoke/MethodHandle" ∧ y.cls ≠ "java/lang/invoke/VarHandle") (eT : T.heap = h) {a : Addr} {argsL rest : List Value} (hM : own_Met l y bytes maxL none [] rm Z (.ref a :: argsL).toArray h Q) (W : Nat) (hf : rm.frames + 1 ≤ R.frames) (hl : W + (maxL + 11) + rm.locals ≤ R.locals) (hc : cells + rm.cells ≤ R.cells) (hs : slots + rm.slots ≤ R.slots)
    {g : JFrame} (hg : g.method = m) (hsize : g.locals.size = c.maxLocals) (hlen : ∀ sig, parseMethodDescriptor y.desc = some sig → argsL.length = sig.parameters.length) (hstack : g.stack = argsL.reverse ++ .ref a :: rest) (hW : 2 * g.monitorRoom + (rest.map fun v => v.category).sum ≤ W) (hdg : decode c.code g.pc = .ok (.invokespecial index, 3)) :
    ∃ (v : Option Value) (T' : State) (h' : Heap) (L : List Loc), Stand p l e R s m args below meth c T' (locs ++ L) (cells + rm.cells) (slots + rm.slots) ∧ T'.heap = h' ∧ Q v h' L ∧ ∀ t, Steps p.tables e below (T'.setTop { g with pc := g.pc + 3, stack := v.toList ++ rest }) t → Steps p.tables e below (T.setTop g) t := by
  obtain ⟨v, _, ⟨T', L', k', n'⟩, -, X', ⟨Lc, hQ, l', y', z'⟩, st⟩ := X.specialBack hx hn hown (mvT hZ w1) (mvT hZ w2) (mvT hZ w4) hy (backOf (W := W) hM hZ w4 w3 hf hl) hg hsize (Steps.refl _) hlen hstack hW hdg (fun _ _ => ⟨rfl, eT, hc, hs⟩)
  dsimp only [Pt.U, Pt.locs, Pt.cells, Pt.slots] at X' l' y' z' st hQ
  subst l' y' z'
  exact ⟨v, T', _, Lc, X', rfl, hQ, fun t k => st.trans k⟩
theorem own_callV {C : String} {z : MethodName} (X : Stand p l e R s m args below meth c T locs cells slots) (hx : p.tables.exec = Jvm.exec) (hZ : Z.Warmed39 s.vm) (hown : s.vm.findClass own = some m.cls) (w1 : (Cond.methodLink own index y).before a0 Z = true) (w2 : (Cond.declares y).before a0 Z = true) (w3 : (Cond.selects C y z).before a0 Z = true) (hnf : NotFace s y) (w5 : (Cond.instanceMethod z).before a0 Z = true) (w6 : (Cond.initialized z.cls).before a0 Z = true) (w4 : (Cond.code z bytes maxL ret).before a0 Z = true)
    (hy : y.cls ≠ "java/lang/invoke/MethodHandle" ∧ y.cls ≠ "java/lang/invoke/VarHandle") (eT : T.heap = h) {a : Addr} (E : Exa Z h a C) {argsL rest : List Value} (hM : own_Met l z bytes maxL ret [] rm Z (.ref a :: argsL).toArray h Q) (W : Nat) (hf : rm.frames + 1 ≤ R.frames) (hl : W + (maxL + 11) + rm.locals ≤ R.locals) (hc : cells + rm.cells ≤ R.cells) (hs : slots + rm.slots ≤ R.slots)
    {g : JFrame} (hg : g.method = m) (hsize : g.locals.size = c.maxLocals) (hlen : ∀ sig, parseMethodDescriptor y.desc = some sig → argsL.length = sig.parameters.length) (hstack : g.stack = argsL.reverse ++ .ref a :: rest) (hW : 2 * g.monitorRoom + (rest.map fun v => v.category).sum ≤ W) (hdg : decode c.code g.pc = .ok (.invokevirtual index, 3)) :
    ∃ (v : Option Value) (T' : State) (h' : Heap) (L : List Loc), Stand p l e R s m args below meth c T' (locs ++ L) (cells + rm.cells) (slots + rm.slots) ∧ T'.heap = h' ∧ Q v h' L ∧ ∀ t, Steps p.tables e below (T'.setTop { g with pc := g.pc + 3, stack := v.toList ++ rest }) t → Steps p.tables e below (T.setTop g) t := by
  obtain ⟨cq, kq, qa, qb, qc⟩ := isOf hZ eT E
  obtain ⟨v, _, ⟨T', L', k', n'⟩, -, X', ⟨Lc, hQ, l', y', z'⟩, st⟩ := X.virtualBack hx hown (mvT hZ w1) (mvT hZ w2) hnf (mvT hZ w3) (mvT hZ w5) hy (backOf (W := W) hM hZ w4 w6 hf hl) qa qc hg hsize (Steps.refl _) hlen hstack hW hdg (fun _ _ => ⟨rfl, eT, hc, hs⟩)
  dsimp only [Pt.U, Pt.locs, Pt.cells, Pt.slots] at X' l' y' z' st hQ
  subst l' y' z'
  exact ⟨v, T', _, Lc, X', rfl, hQ, fun t k => st.trans k⟩
theorem own_callP (X : Stand p l e R s m args below meth c T locs cells slots) (hx : p.tables.exec = Jvm.exec) (hZ : Z.Warmed39 s.vm) (hown : s.vm.findClass own = some m.cls) (w1 : (Cond.methodLink own index y).before a0 Z = true) (w2 : (Cond.instanceMethod y).before a0 Z = true) (w3 : (Cond.selects y.cls y y).before a0 Z = true) (w5 : (Cond.privateMethod y).before a0 Z = true) (w6 : (Cond.initialized y.cls).before a0 Z = true) (w4 : (Cond.code y bytes maxL ret).before a0 Z = true)
    (hy : y.cls ≠ "java/lang/invoke/MethodHandle" ∧ y.cls ≠ "java/lang/invoke/VarHandle") (eT : T.heap = h) {a : Addr} {C : String} (E : Exa Z h a C) {argsL rest : List Value} (hM : own_Met l y bytes maxL ret [] rm Z (.ref a :: argsL).toArray h Q) (W : Nat) (hf : rm.frames + 1 ≤ R.frames) (hl : W + (maxL + 11) + rm.locals ≤ R.locals) (hc : cells + rm.cells ≤ R.cells) (hs : slots + rm.slots ≤ R.slots)
    {g : JFrame} (hg : g.method = m) (hsize : g.locals.size = c.maxLocals) (hlen : ∀ sig, parseMethodDescriptor y.desc = some sig → argsL.length = sig.parameters.length) (hstack : g.stack = argsL.reverse ++ .ref a :: rest) (hW : 2 * g.monitorRoom + (rest.map fun v => v.category).sum ≤ W) (hdg : decode c.code g.pc = .ok (.invokevirtual index, 3)) :
    ∃ (v : Option Value) (T' : State) (h' : Heap) (L : List Loc), Stand p l e R s m args below meth c T' (locs ++ L) (cells + rm.cells) (slots + rm.slots) ∧ T'.heap = h' ∧ Q v h' L ∧ ∀ t, Steps p.tables e below (T'.setTop { g with pc := g.pc + 3, stack := v.toList ++ rest }) t → Steps p.tables e below (T.setTop g) t := by
  obtain ⟨cq, q1, q2⟩ := E.cell
  obtain ⟨v, _, ⟨T', L', k', n'⟩, -, X', ⟨Lc, hQ, l', y', z'⟩, st⟩ := X.privateBack hx hown (mvT hZ w1) (mvT hZ w2) (mvT hZ w3) (Cond.privateMethod_at (mvP hZ w5 (args := #[]))) (mvT hZ w4) hy (backOf (W := W) hM hZ w4 w6 hf hl) hg hsize (Steps.refl _) (by rw [eT]; exact q1) q2 hlen hstack hW hdg (fun _ _ => ⟨rfl, eT, hc, hs⟩)
  dsimp only [Pt.U, Pt.locs, Pt.cells, Pt.slots] at X' l' y' z' st hQ
  subst l' y' z'
  exact ⟨v, T', _, Lc, X', rfl, hQ, fun t k => st.trans k⟩
theorem own_callF {C : String} {z : MethodName} {count : Nat} (X : Stand p l e R s m args below meth c T locs cells slots) (hx : p.tables.exec = Jvm.exec) (hZ : Z.Warmed39 s.vm) (hown : s.vm.findClass own = some m.cls) (w1 : (Cond.methodLink own index y).before a0 Z = true) (w2 : (Cond.declares y).before a0 Z = true) (w3 : (Cond.interfaceMethod y.cls y.cls y.name y.desc).before args s = true) (w5 : (Cond.selects C y z).before a0 Z = true) (w7 : (Cond.instanceMethod z).before a0 Z = true) (w8 : (Cond.publicMethod z).before a0 Z = true) (w9 : (Cond.unhidden C y.name y.desc).before a0 Z = true) (w10 : (Cond.castable C y.cls).before a0 Z = true) (w6 : (Cond.initialized z.cls).before a0 Z = true) (w4 : (Cond.code z bytes maxL ret).before a0 Z = true)
    (hy : y.cls ≠ "java/lang/invoke/MethodHandle" ∧ y.cls ≠ "java/lang/invoke/VarHandle") (eT : T.heap = h) {a : Addr} (E : Exa Z h a C) {argsL rest : List Value} (hM : own_Met l z bytes maxL ret [] rm Z (.ref a :: argsL).toArray h Q) (W : Nat) (hf : rm.frames + 1 ≤ R.frames) (hl : W + (maxL + 11) + rm.locals ≤ R.locals) (hc : cells + rm.cells ≤ R.cells) (hs : slots + rm.slots ≤ R.slots)
    {g : JFrame} (hg : g.method = m) (hsize : g.locals.size = c.maxLocals) (hlen : ∀ sig, parseMethodDescriptor y.desc = some sig → argsL.length = sig.parameters.length) (hstack : g.stack = argsL.reverse ++ .ref a :: rest) (hW : 2 * g.monitorRoom + (rest.map fun v => v.category).sum ≤ W) (hdg : decode c.code g.pc = .ok (.invokeinterface index count, 5)) :
    ∃ (v : Option Value) (T' : State) (h' : Heap) (L : List Loc), Stand p l e R s m args below meth c T' (locs ++ L) (cells + rm.cells) (slots + rm.slots) ∧ T'.heap = h' ∧ Q v h' L ∧ ∀ t, Steps p.tables e below (T'.setTop { g with pc := g.pc + 5, stack := v.toList ++ rest }) t → Steps p.tables e below (T.setTop g) t := by
  obtain ⟨cq, kq, qa, qb, qc⟩ := isOf hZ eT E
  obtain ⟨v, _, ⟨T', L', k', n'⟩, -, X', ⟨Lc, hQ, l', y', z'⟩, st⟩ := X.interfaceBack hx hown (mvT hZ w1) (mvT hZ w2) w3 (mvT hZ w5) (mvT hZ w7) (mvT hZ w8) (mvT hZ w9) (mvT hZ w10) hy (backOf (W := W) hM hZ w4 w6 hf hl) qa qb qc hg hsize (Steps.refl _) hlen hstack hW hdg (fun _ _ => ⟨rfl, eT, hc, hs⟩)
  dsimp only [Pt.U, Pt.locs, Pt.cells, Pt.slots] at X' l' y' z' st hQ
  subst l' y' z'
  exact ⟨v, T', _, Lc, X', rfl, hQ, fun t k => st.trans k⟩
end Calls
end OwnKit
end Jvm.RoadKit
namespace Jvm.Pilot.@@N@@
open Jvm Jvm.ClassFile Sem Op Lib Jvm.Free Jvm.Stand Jvm.LawKit Jvm.RoadKit Bundle Jvm.Pilot.@@N@@.Jvm.D
theorem own_e0 : (0 : Int32).toInt = 0 := by decide
theorem own_nar (x : Int32) : nar .byte (nar .byte x) = nar .byte x := by
  show (x.toInt8.toInt32).toInt8.toInt32 = x.toInt8.toInt32
  rw [Int8.toInt8_toInt32]
theorem own_lt {x y : Int32} (h : x.toInt < y.toInt) : x < y := Int32.lt_iff_toInt_lt.mpr h
theorem own_nlt {x y : Int32} (h : y.toInt ≤ x.toInt) : ¬ x < y := fun q => by rw [Int32.lt_iff_toInt_lt] at q; omega
theorem own_gt {n k : Int32} {i : Int} (h : ¬ n < k) (hk : k.toInt = i + 1) : i < n.toInt := by
  rw [Int32.lt_iff_toInt_lt] at h
  omega
theorem own_inc (j n : Int32) (h : j < n) : (j + (1 : Int32)).toInt = j.toInt + 1 := by
  have a := c_iadd j (1 : Int32)
  have r := rng32 j
  have r2 := rng32 n
  have r3 := rng32 (j + (1 : Int32))
  have e1 : (1 : Int32).toInt = 1 := by decide
  rw [e1] at a
  rw [Int32.lt_iff_toInt_lt] at h
  omega
theorem own_n (p : Int32) : 0 ≤ ((p &&& (7 : Int32)) % (5 : Int32)).toInt ∧ ((p &&& (7 : Int32)) % (5 : Int32)).toInt ≤ 4 := by
  have a := c_mask p (7 : Int32) 3 (by decide) (by decide)
  have b := (c_irem (p &&& (7 : Int32)) (5 : Int32) 5 (by decide)).1 (by omega)
  omega
theorem own_n1 {n : Int32} (h : 0 ≤ n.toInt ∧ n.toInt ≤ 4) : (n + (1 : Int32)).toInt = n.toInt + 1 := by
  have a := c_iadd n (1 : Int32)
  have r3 := rng32 (n + (1 : Int32))
  have e1 : (1 : Int32).toInt = 1 := by decide
  rw [e1] at a
  omega
theorem own_nz {n : Int32} (h : 0 ≤ n.toInt ∧ n.toInt ≤ 4) : (n + (1 : Int32)) ≠ 0 := fun q => by
  have a := own_n1 h
  rw [q] at a
  have e0 := own_e0
  omega
theorem own_st (x n : Int32) (h : 0 ≤ n.toInt ∧ n.toInt ≤ 4) : 0 ≤ ((x &&& (7 : Int32)) % (n + (1 : Int32))).toInt ∧ ((x &&& (7 : Int32)) % (n + (1 : Int32))).toInt ≤ n.toInt := by
  have a := c_mask x (7 : Int32) 3 (by decide) (by decide)
  have b := own_n1 h
  have c := (c_iremV (x &&& (7 : Int32)) (n + (1 : Int32))).1 (by omega) (by omega)
  omega
theorem own_lit {n k : Int32} (h : n.toInt = k.toInt) : n = k := Int32.toInt_inj.mp h
theorem own_four {n : Int32} (h : 0 ≤ n.toInt ∧ n.toInt ≤ 4) : ¬ n = 0 → ¬ n = 1 → ¬ n = 2 → ¬ n = 3 → n = 4 := fun h0 h1 h2 h3 => by
  have g0 : n.toInt ≠ 0 := fun q => h0 (own_lit q)
  have g1 : n.toInt ≠ 1 := fun q => h1 (own_lit q)
  have g2 : n.toInt ≠ 2 := fun q => h2 (own_lit q)
  have g3 : n.toInt ≠ 3 := fun q => h3 (own_lit q)
  exact own_lit (show n.toInt = 4 by omega)
def own_bs (n c0 c1 c2 c3 : Int32) : List Value := if n = (0 : Int32) then [] else if n = (1 : Int32) then [.int c0] else if n = (2 : Int32) then [.int c0, .int c1] else if n = (3 : Int32) then [.int c0, .int c1, .int c2] else [.int c0, .int c1, .int c2, .int c3]
def own_at (b0 b1 b2 b3 : Int32) : Nat → Int32
  | 0 => b0
  | 1 => b1
  | 2 => b2
  | _ => b3
theorem own_cases {n : Int32} (h : 0 ≤ n.toInt ∧ n.toInt ≤ 4) : n = 0 ∨ n = 1 ∨ n = 2 ∨ n = 3 ∨ n = 4 := by
  by_cases h0 : n = 0
  · exact Or.inl h0
  by_cases h1 : n = 1
  · exact Or.inr (Or.inl h1)
  by_cases h2 : n = 2
  · exact Or.inr (Or.inr (Or.inl h2))
  by_cases h3 : n = 3
  · exact Or.inr (Or.inr (Or.inr (Or.inl h3)))
  · exact Or.inr (Or.inr (Or.inr (Or.inr (own_four h h0 h1 h2 h3))))
theorem own_bs_at {n b0 b1 b2 b3 : Int32} (h : 0 ≤ n.toInt ∧ n.toInt ≤ 4) : ∀ i : Nat, (i : Int) < n.toInt → (own_bs n b0 b1 b2 b3).getD i (.int (0 : Int32)) = .int (own_at b0 b1 b2 b3 i) := by
  intro i hi
  have e : (0 : Int32).toInt = 0 ∧ (1 : Int32).toInt = 1 ∧ (2 : Int32).toInt = 2 ∧ (3 : Int32).toInt = 3 ∧ (4 : Int32).toInt = 4 := by decide
  obtain ⟨e0, e1, e2, e3, e4⟩ := e
  rcases own_cases h with rfl | rfl | rfl | rfl | rfl
  · omega
  · match i, hi with
    | 0, _ => rfl
    | i + 1, hi => omega
  · match i, hi with
    | 0, _ => rfl
    | 1, _ => rfl
    | i + 2, hi => omega
  · match i, hi with
    | 0, _ => rfl
    | 1, _ => rfl
    | 2, _ => rfl
    | i + 3, hi => omega
  · match i, hi with
    | 0, _ => rfl
    | 1, _ => rfl
    | 2, _ => rfl
    | 3, _ => rfl
    | i + 4, hi => omega
def own_isEnd (n st : Int32) (f : Nat → Int32) (r : Int32) : Prop := st.toInt ≤ r.toInt ∧ r.toInt ≤ n.toInt ∧ (∀ i : Nat, st.toInt ≤ i → (i : Int) < r.toInt → f i ≠ (10 : Int32)) ∧ (r.toInt < n.toInt → f r.toInt.toNat = (10 : Int32))
def own_e (k n st b e : Int32) : Int32 := if k < st then e else if k < n then (if b = (10 : Int32) then k else e) else e
theorem own_e_hit {k n st b e : Int32} (h1 : st.toInt ≤ k.toInt) (h2 : k.toInt < n.toInt) (h3 : b = (10 : Int32)) : own_e k n st b e = k := by
  rw [own_e, if_neg (own_nlt h1), if_pos (own_lt h2), if_pos h3]
theorem own_e_miss {k n st b e : Int32} (h : k.toInt < st.toInt ∨ n.toInt ≤ k.toInt ∨ b ≠ (10 : Int32)) : own_e k n st b e = e := by
  by_cases h1 : k < st
  · rw [own_e, if_pos h1]
  · by_cases h2 : k < n
    · rw [Int32.lt_iff_toInt_lt] at h1
      have h2' := Int32.lt_iff_toInt_lt.mp h2
      have h3 : b ≠ (10 : Int32) := by
        rcases h with h | h | h
        · omega
        · omega
        · exact h
      rw [own_e, if_neg (own_nlt (by omega)), if_pos h2, if_neg h3]
    · rw [own_e, if_neg h1, if_neg h2]
theorem own_fin {n st b0 b1 b2 b3 r : Int32} (hn : 0 ≤ n.toInt ∧ n.toInt ≤ 4) (hs : 0 ≤ st.toInt ∧ st.toInt ≤ n.toInt) (h : own_isEnd n st (own_at b0 b1 b2 b3) r) : r = own_e (0 : Int32) n st b0 (own_e (1 : Int32) n st b1 (own_e (2 : Int32) n st b2 (own_e (3 : Int32) n st b3 n))) := by
  obtain ⟨h1, h2, h3, h4⟩ := h
  have e : (0 : Int32).toInt = 0 ∧ (1 : Int32).toInt = 1 ∧ (2 : Int32).toInt = 2 ∧ (3 : Int32).toInt = 3 := by decide
  obtain ⟨e0, e1, e2, e3⟩ := e
  have miss : ∀ (k : Nat) (K : Int32), K.toInt = k → (k : Int) < r.toInt → (K.toInt < st.toInt ∨ n.toInt ≤ K.toInt ∨ own_at b0 b1 b2 b3 k ≠ (10 : Int32)) := by
    intro k K eK hk
    by_cases q : K.toInt < st.toInt
    · exact Or.inl q
    · exact Or.inr (Or.inr (h3 k (by omega) hk))
  by_cases q4 : r.toInt = n.toInt
  · have m : ∀ (k : Nat) (K : Int32), K.toInt = k → (K.toInt < st.toInt ∨ n.toInt ≤ K.toInt ∨ own_at b0 b1 b2 b3 k ≠ (10 : Int32)) := by
      intro k K eK
      by_cases q : (k : Int) < r.toInt
      · exact miss k K eK q
      · exact Or.inr (Or.inl (by omega))
    rw [own_e_miss (b := b0) (m 0 0 e0), own_e_miss (b := b1) (m 1 1 e1), own_e_miss (b := b2) (m 2 2 e2), own_e_miss (b := b3) (m 3 3 e3)]
    exact own_lit q4
  · have h5 := h4 (by omega)
    have c : r.toInt = 0 ∨ r.toInt = 1 ∨ r.toInt = 2 ∨ r.toInt = 3 := by omega
    rcases c with c | c | c | c
    · rw [c] at h5
      rw [own_e_hit (k := 0) (b := b0) (by omega) (by omega) h5]
      exact own_lit c
    · rw [c] at h5
      rw [own_e_miss (b := b0) (miss 0 0 e0 (by omega)), own_e_hit (k := 1) (b := b1) (by omega) (by omega) h5]
      exact own_lit c
    · rw [c] at h5
      rw [own_e_miss (b := b0) (miss 0 0 e0 (by omega)), own_e_miss (b := b1) (miss 1 1 e1 (by omega)), own_e_hit (k := 2) (b := b2) (by omega) (by omega) h5]
      exact own_lit c
    · rw [c] at h5
      rw [own_e_miss (b := b0) (miss 0 0 e0 (by omega)), own_e_miss (b := b1) (miss 1 1 e1 (by omega)), own_e_miss (b := b2) (miss 2 2 e2 (by omega)), own_e_hit (k := 3) (b := b3) (by omega) (by omega) h5]
      exact own_lit c
theorem d1_0 : decode method_2_code 0 = .ok (.iload_n 0, 1) := by decide +kernel
theorem d1_1 : decode method_2_code 1 = .ok (.sipush 256, 3) := by decide +kernel
theorem d1_4 : decode method_2_code 4 = .ok (.iand, 1) := by decide +kernel
theorem d1_5 : decode method_2_code 5 = .ok (.ifCond .eq 8, 3) := by decide +kernel
theorem d1_8 : decode method_2_code 8 = .ok (.bipush 10, 2) := by decide +kernel
theorem d1_10 : decode method_2_code 10 = .ok (.goto 5, 3) := by decide +kernel
theorem d1_13 : decode method_2_code 13 = .ok (.iload_n 0, 1) := by decide +kernel
theorem d1_14 : decode method_2_code 14 = .ok (.i2b, 1) := by decide +kernel
theorem d1_15 : decode method_2_code 15 = .ok (.ireturn, 1) := by decide +kernel
theorem d2_0 : decode method_3_code 0 = .ok (.iload_n 0, 1) := by decide +kernel
theorem d2_1 : decode method_3_code 1 = .ok (.ifCond .ne 7, 3) := by decide +kernel
theorem d2_4 : decode method_3_code 4 = .ok (.iconst 0, 1) := by decide +kernel
theorem d2_5 : decode method_3_code 5 = .ok (.newarray .byte, 2) := by decide +kernel
theorem d2_7 : decode method_3_code 7 = .ok (.areturn, 1) := by decide +kernel
theorem d2_8 : decode method_3_code 8 = .ok (.iload_n 0, 1) := by decide +kernel
theorem d2_9 : decode method_3_code 9 = .ok (.iconst 1, 1) := by decide +kernel
theorem d2_10 : decode method_3_code 10 = .ok (.if_icmp .ne 11, 3) := by decide +kernel
theorem d2_13 : decode method_3_code 13 = .ok (.iconst 1, 1) := by decide +kernel
theorem d2_14 : decode method_3_code 14 = .ok (.newarray .byte, 2) := by decide +kernel
theorem d2_16 : decode method_3_code 16 = .ok (.dup, 1) := by decide +kernel
theorem d2_17 : decode method_3_code 17 = .ok (.iconst 0, 1) := by decide +kernel
theorem d2_18 : decode method_3_code 18 = .ok (.iload_n 1, 1) := by decide +kernel
theorem d2_19 : decode method_3_code 19 = .ok (.bastore, 1) := by decide +kernel
theorem d2_20 : decode method_3_code 20 = .ok (.areturn, 1) := by decide +kernel
theorem d2_21 : decode method_3_code 21 = .ok (.iload_n 0, 1) := by decide +kernel
theorem d2_22 : decode method_3_code 22 = .ok (.iconst 2, 1) := by decide +kernel
theorem d2_23 : decode method_3_code 23 = .ok (.if_icmp .ne 15, 3) := by decide +kernel
theorem d2_26 : decode method_3_code 26 = .ok (.iconst 2, 1) := by decide +kernel
theorem d2_27 : decode method_3_code 27 = .ok (.newarray .byte, 2) := by decide +kernel
theorem d2_29 : decode method_3_code 29 = .ok (.dup, 1) := by decide +kernel
theorem d2_30 : decode method_3_code 30 = .ok (.iconst 0, 1) := by decide +kernel
theorem d2_31 : decode method_3_code 31 = .ok (.iload_n 1, 1) := by decide +kernel
theorem d2_32 : decode method_3_code 32 = .ok (.bastore, 1) := by decide +kernel
theorem d2_33 : decode method_3_code 33 = .ok (.dup, 1) := by decide +kernel
theorem d2_34 : decode method_3_code 34 = .ok (.iconst 1, 1) := by decide +kernel
theorem d2_35 : decode method_3_code 35 = .ok (.iload_n 2, 1) := by decide +kernel
theorem d2_36 : decode method_3_code 36 = .ok (.bastore, 1) := by decide +kernel
theorem d2_37 : decode method_3_code 37 = .ok (.areturn, 1) := by decide +kernel
theorem d2_38 : decode method_3_code 38 = .ok (.iload_n 0, 1) := by decide +kernel
theorem d2_39 : decode method_3_code 39 = .ok (.iconst 3, 1) := by decide +kernel
theorem d2_40 : decode method_3_code 40 = .ok (.if_icmp .ne 19, 3) := by decide +kernel
theorem d2_43 : decode method_3_code 43 = .ok (.iconst 3, 1) := by decide +kernel
theorem d2_44 : decode method_3_code 44 = .ok (.newarray .byte, 2) := by decide +kernel
theorem d2_46 : decode method_3_code 46 = .ok (.dup, 1) := by decide +kernel
theorem d2_47 : decode method_3_code 47 = .ok (.iconst 0, 1) := by decide +kernel
theorem d2_48 : decode method_3_code 48 = .ok (.iload_n 1, 1) := by decide +kernel
theorem d2_49 : decode method_3_code 49 = .ok (.bastore, 1) := by decide +kernel
theorem d2_50 : decode method_3_code 50 = .ok (.dup, 1) := by decide +kernel
theorem d2_51 : decode method_3_code 51 = .ok (.iconst 1, 1) := by decide +kernel
theorem d2_52 : decode method_3_code 52 = .ok (.iload_n 2, 1) := by decide +kernel
theorem d2_53 : decode method_3_code 53 = .ok (.bastore, 1) := by decide +kernel
theorem d2_54 : decode method_3_code 54 = .ok (.dup, 1) := by decide +kernel
theorem d2_55 : decode method_3_code 55 = .ok (.iconst 2, 1) := by decide +kernel
theorem d2_56 : decode method_3_code 56 = .ok (.iload_n 3, 1) := by decide +kernel
theorem d2_57 : decode method_3_code 57 = .ok (.bastore, 1) := by decide +kernel
theorem d2_58 : decode method_3_code 58 = .ok (.areturn, 1) := by decide +kernel
theorem d2_59 : decode method_3_code 59 = .ok (.iconst 4, 1) := by decide +kernel
theorem d2_60 : decode method_3_code 60 = .ok (.newarray .byte, 2) := by decide +kernel
theorem d2_62 : decode method_3_code 62 = .ok (.dup, 1) := by decide +kernel
theorem d2_63 : decode method_3_code 63 = .ok (.iconst 0, 1) := by decide +kernel
theorem d2_64 : decode method_3_code 64 = .ok (.iload_n 1, 1) := by decide +kernel
theorem d2_65 : decode method_3_code 65 = .ok (.bastore, 1) := by decide +kernel
theorem d2_66 : decode method_3_code 66 = .ok (.dup, 1) := by decide +kernel
theorem d2_67 : decode method_3_code 67 = .ok (.iconst 1, 1) := by decide +kernel
theorem d2_68 : decode method_3_code 68 = .ok (.iload_n 2, 1) := by decide +kernel
theorem d2_69 : decode method_3_code 69 = .ok (.bastore, 1) := by decide +kernel
theorem d2_70 : decode method_3_code 70 = .ok (.dup, 1) := by decide +kernel
theorem d2_71 : decode method_3_code 71 = .ok (.iconst 2, 1) := by decide +kernel
theorem d2_72 : decode method_3_code 72 = .ok (.iload_n 3, 1) := by decide +kernel
theorem d2_73 : decode method_3_code 73 = .ok (.bastore, 1) := by decide +kernel
theorem d2_74 : decode method_3_code 74 = .ok (.dup, 1) := by decide +kernel
theorem d2_75 : decode method_3_code 75 = .ok (.iconst 3, 1) := by decide +kernel
theorem d2_76 : decode method_3_code 76 = .ok (.iload 4, 2) := by decide +kernel
theorem d2_78 : decode method_3_code 78 = .ok (.bastore, 1) := by decide +kernel
theorem d2_79 : decode method_3_code 79 = .ok (.areturn, 1) := by decide +kernel
theorem d3_0 : decode prog_49_method_6_code 0 = .ok (.iload_n 1, 1) := by decide +kernel
theorem d3_1 : decode prog_49_method_6_code 1 = .ok (.istore_n 2, 1) := by decide +kernel
theorem d3_2 : decode prog_49_method_6_code 2 = .ok (.iload_n 2, 1) := by decide +kernel
theorem d3_3 : decode prog_49_method_6_code 3 = .ok (.aload_n 0, 1) := by decide +kernel
theorem d3_4 : decode prog_49_method_6_code 4 = .ok (.arraylength, 1) := by decide +kernel
theorem d3_5 : decode prog_49_method_6_code 5 = .ok (.if_icmp .ge 17, 3) := by decide +kernel
theorem d3_8 : decode prog_49_method_6_code 8 = .ok (.aload_n 0, 1) := by decide +kernel
theorem d3_9 : decode prog_49_method_6_code 9 = .ok (.iload_n 2, 1) := by decide +kernel
theorem d3_10 : decode prog_49_method_6_code 10 = .ok (.baload, 1) := by decide +kernel
theorem d3_11 : decode prog_49_method_6_code 11 = .ok (.bipush 10, 2) := by decide +kernel
theorem d3_13 : decode prog_49_method_6_code 13 = .ok (.if_icmp .eq 9, 3) := by decide +kernel
theorem d3_16 : decode prog_49_method_6_code 16 = .ok (.iinc 2 1, 3) := by decide +kernel
theorem d3_19 : decode prog_49_method_6_code 19 = .ok (.goto (-17), 3) := by decide +kernel
theorem d3_22 : decode prog_49_method_6_code 22 = .ok (.iload_n 2, 1) := by decide +kernel
theorem d3_23 : decode prog_49_method_6_code 23 = .ok (.ireturn, 1) := by decide +kernel
theorem pd0 : parseMethodDescriptor "(I)B" = some ⟨[.int], some .byte⟩ := by decide +kernel
theorem pd1 : parseMethodDescriptor "(IBBBB)[B" = some ⟨[.int, .byte, .byte, .byte, .byte], some (.array .byte)⟩ := by decide +kernel
theorem pd2 : parseMethodDescriptor "([BI)I" = some ⟨[(.array .byte), .int], some .int⟩ := by decide +kernel
set_option maxRecDepth 65536 in
set_option maxHeartbeats 40000000 in
theorem rm1 (l : Launch) (Z : State) (a0 : Array Value) (hw : ∀ d ∈ tables_1, d.before a0 Z = true) (ws : List Jvm.Cond) (p1 : Int32) (h0 : Heap) (n0 : Nat) (Z0 : n0 ≤ h0.size) :
    own_Met l (⟨"com/example/anahtar/anahtar/PolicyReaderLineEndPinLaw", "draw", "(I)B"⟩ : MethodName) method_2_code 1 (some .byte) ws ({ frames := 0, cells := 0, slots := 0, locals := 0 } : Room) Z #[(.int p1)] h0 (fun v h L => ∃ b : Int32, v = some (.int b) ∧ nar .byte b = b ∧ Fr n0 L ∧ h0 = h) := by
  refine own_body (plainFor_of_name (by first | (simp [plainName, overriddenIn]; done) | decide +kernel)) ?_
  intro p e s m below meth c s₁ X0 hx hby hml hown hnm hret hlk hZ e0
  have N0 := Fr.nil n0
  refine own_cast (show entryFrame m #[(.int p1)] 1 = mkF m 0 #[.val (.int p1)] [] from by first | (simp [entryFrame, mkF, argsToLocals, Value.category]; done) | rfl) ?_
  show own_Go _ _ _ _ s₁ (mkF m 0 #[.val (.int p1)] [])
  refine own_go (fun _ k => XS.iloadN X0.here hx rfl (hb hby d1_0) rfl k) ?_
  show own_Go _ _ _ _ s₁ (mkF m 1 #[.val (.int p1)] [(.int p1)])
  refine own_go (fun _ k => XS.sipush X0.here hx rfl (hb hby d1_1) k) ?_
  show own_Go _ _ _ _ s₁ (mkF m 4 #[.val (.int p1)] [(.int (256 : Int32)), (.int p1)])
  refine own_go (fun _ k => XS.iand X0.here hx rfl (hb hby d1_4) rfl k) ?_
  show own_Go _ _ _ _ s₁ (mkF m 5 #[.val (.int p1)] [(.int (p1 &&& (256 : Int32)))])
  by_cases hc : (p1 &&& (256 : Int32)) = (0 : Int32)
  · skip
    refine own_go (fun _ k => XS.ifYes X0.here hx rfl (pc0 := 5) (pc' := 13) rfl (hb hby d1_5) rfl ((if0 _ _).trans (teq hc).1) (by decide) (by decide) k) ?_
    show own_Go _ _ _ _ s₁ (mkF m 13 #[.val (.int p1)] [])
    refine own_go (fun _ k => XS.iloadN X0.here hx rfl (hb hby d1_13) rfl k) ?_
    show own_Go _ _ _ _ s₁ (mkF m 14 #[.val (.int p1)] [(.int p1)])
    refine own_go (fun _ k => XS.i2b X0.here hx rfl (hb hby d1_14) rfl k) ?_
    show own_Go _ _ _ _ s₁ (mkF m 15 #[.val (.int p1)] [(.int (p1).toInt8.toInt32)])
    exact own_retN X0 hx hret (by simp) hlk (hb hby d1_15) (by decide) (by decide) (by first | exact ⟨_, rfl, own_nar _, N0, rfl⟩ | (rw [e0]; exact ⟨_, rfl, own_nar _, N0, rfl⟩))
  · skip
    refine own_go (fun _ k => XS.ifNo X0.here hx rfl (hb hby d1_5) rfl ((if0 _ _).trans (feq hc).1) k) ?_
    show own_Go _ _ _ _ s₁ (mkF m 8 #[.val (.int p1)] [])
    refine own_go (fun _ k => XS.bipush X0.here hx rfl (hb hby d1_8) k) ?_
    show own_Go _ _ _ _ s₁ (mkF m 10 #[.val (.int p1)] [(.int (10 : Int32))])
    refine own_go (fun _ k => XS.goto X0.here hx rfl (pc0 := 10) (pc' := 15) rfl (hb hby d1_10) (by decide) (by decide) k) ?_
    show own_Go _ _ _ _ s₁ (mkF m 15 #[.val (.int p1)] [(.int (10 : Int32))])
    exact own_retN X0 hx hret (by simp) hlk (hb hby d1_15) (by decide) (by decide) (by first | exact ⟨_, rfl, own_nar _, N0, rfl⟩ | (rw [e0]; exact ⟨_, rfl, own_nar _, N0, rfl⟩))
set_option maxRecDepth 65536 in
set_option maxHeartbeats 40000000 in
theorem rm2 (l : Launch) (Z : State) (a0 : Array Value) (hw : ∀ d ∈ tables_1, d.before a0 Z = true) (ws : List Jvm.Cond) (p1 p2 p3 p4 p5 : Int32) (h0 : Heap) (n0 : Nat) (Z0 : n0 ≤ h0.size) (h4 : ¬ p1 = 0 → ¬ p1 = 1 → ¬ p1 = 2 → ¬ p1 = 3 → p1 = 4) :
    own_Met l (⟨"com/example/anahtar/anahtar/PolicyReaderLineEndPinLaw", "make", "(IBBBB)[B"⟩ : MethodName) method_3_code 5 (some (.array .byte)) ws ({ frames := 0, cells := 1, slots := 4, locals := 0 } : Room) Z #[(.int p1), (.int p2), (.int p3), (.int p4), (.int p5)] h0 (fun v h L => ∃ (b : Addr) (k : ClassId), v = some (.ref b) ∧ Fr n0 L ∧ Keep h0 h [] ∧ Arv Z h b k .byte p1 (own_bs p1 (nar .byte p2) (nar .byte p3) (nar .byte p4) (nar .byte p5)) (.int (0 : Int32))) := by
  refine own_body (plainFor_of_name (by first | (simp [plainName, overriddenIn]; done) | decide +kernel)) ?_
  intro p e s m below meth c s₁ X0 hx hby hml hown hnm hret hlk hZ e0
  have N0 := Fr.nil n0
  refine own_cast (show entryFrame m #[(.int p1), (.int p2), (.int p3), (.int p4), (.int p5)] 5 = mkF m 0 #[.val (.int p1), .val (.int p2), .val (.int p3), .val (.int p4), .val (.int p5)] [] from by first | (simp [entryFrame, mkF, argsToLocals, Value.category]; done) | rfl) ?_
  show own_Go _ _ _ _ s₁ (mkF m 0 #[.val (.int p1), .val (.int p2), .val (.int p3), .val (.int p4), .val (.int p5)] [])
  refine own_go (fun _ k => XS.iloadN X0.here hx rfl (hb hby d2_0) rfl k) ?_
  show own_Go _ _ _ _ s₁ (mkF m 1 #[.val (.int p1), .val (.int p2), .val (.int p3), .val (.int p4), .val (.int p5)] [(.int p1)])
  by_cases hc0 : p1 = (0 : Int32)
  · skip
    refine own_go (fun _ k => XS.ifNo X0.here hx rfl (hb hby d2_1) rfl ((if0 _ _).trans (teq hc0).2) k) ?_
    show own_Go _ _ _ _ s₁ (mkF m 4 #[.val (.int p1), .val (.int p2), .val (.int p3), .val (.int p4), .val (.int p5)] [])
    refine own_go (fun _ k => XS.iconst X0.here hx rfl (hb hby d2_4) k) ?_
    show own_Go _ _ _ _ s₁ (mkF m 5 #[.val (.int p1), .val (.int p2), .val (.int p3), .val (.int p4), .val (.int p5)] [(.int (0 : Int32))])
    obtain ⟨T1, h1, k1, X1, e1, E1, A1, st1⟩ := newP X0 hx hZ (hw _ (List.mem_of_getElem? (i := 7) rfl)) e0 (g := (mkF m 5 #[.val (.int p1), .val (.int p2), .val (.int p3), .val (.int p4), .val (.int p5)] [(.int (0 : Int32))])) rfl (hb hby d2_5) rfl (by decide) (cap := 0) (by decide) (by decide) (by decide) (by decide)
    obtain ⟨b1, g1⟩ : ∃ z, z = h0.size := ⟨_, rfl⟩
    rw [← g1] at A1 st1
    refine own_go (st1) ?_
    have g_b1 : n0 ≤ b1 := Nat.le_trans Z0 (Nat.le_of_eq g1.symm)
    have sz_b1 : h0.size ≤ b1 := Nat.le_trans (Keep.refl h0 []).1 (Nat.le_of_eq g1.symm)
    have V1 : Arv Z h1 b1 k1 .byte (0 : Int32) [] (.int (0 : Int32)) := Arv.new A1 (by decide)
    show own_Go _ _ _ _ T1 (mkF m 7 #[.val (.int p1), .val (.int p2), .val (.int p3), .val (.int p4), .val (.int p5)] [(.ref b1)])
    have f2 := ((Keep.refl h0 []).ext E1)
    have VV : Arv Z h1 b1 k1 .byte p1 (own_bs p1 (nar .byte p2) (nar .byte p3) (nar .byte p4) (nar .byte p5)) (.int (0 : Int32)) := by
      rw [hc0]
      exact V1
    exact own_retR X1 hx hret rfl rfl hlk (hb hby d2_7) (by decide) (by decide) (by first | exact ⟨_, _, rfl, N0, f2, VV⟩ | (rw [e1]; exact ⟨_, _, rfl, N0, f2, VV⟩))
  · skip
    refine own_go (fun _ k => XS.ifYes X0.here hx rfl (pc0 := 1) (pc' := 8) rfl (hb hby d2_1) rfl ((if0 _ _).trans (feq hc0).2) (by decide) (by decide) k) ?_
    show own_Go _ _ _ _ s₁ (mkF m 8 #[.val (.int p1), .val (.int p2), .val (.int p3), .val (.int p4), .val (.int p5)] [])
    refine own_go (fun _ k => XS.iloadN X0.here hx rfl (hb hby d2_8) rfl k) ?_
    show own_Go _ _ _ _ s₁ (mkF m 9 #[.val (.int p1), .val (.int p2), .val (.int p3), .val (.int p4), .val (.int p5)] [(.int p1)])
    refine own_go (fun _ k => XS.iconst X0.here hx rfl (hb hby d2_9) k) ?_
    show own_Go _ _ _ _ s₁ (mkF m 10 #[.val (.int p1), .val (.int p2), .val (.int p3), .val (.int p4), .val (.int p5)] [(.int (1 : Int32)), (.int p1)])
    by_cases hc1 : p1 = (1 : Int32)
    · skip
      refine own_go (fun _ k => XS.icmpNo X0.here hx rfl (hb hby d2_10) rfl (teq hc1).2 k) ?_
      show own_Go _ _ _ _ s₁ (mkF m 13 #[.val (.int p1), .val (.int p2), .val (.int p3), .val (.int p4), .val (.int p5)] [])
      refine own_go (fun _ k => XS.iconst X0.here hx rfl (hb hby d2_13) k) ?_
      show own_Go _ _ _ _ s₁ (mkF m 14 #[.val (.int p1), .val (.int p2), .val (.int p3), .val (.int p4), .val (.int p5)] [(.int (1 : Int32))])
      obtain ⟨T3, h3, k3, X3, e3, E3, A3, st3⟩ := newP X0 hx hZ (hw _ (List.mem_of_getElem? (i := 7) rfl)) e0 (g := (mkF m 14 #[.val (.int p1), .val (.int p2), .val (.int p3), .val (.int p4), .val (.int p5)] [(.int (1 : Int32))])) rfl (hb hby d2_14) rfl (by decide) (cap := 1) (by decide) (by decide) (by decide) (by decide)
      obtain ⟨b3, g3⟩ : ∃ z, z = h0.size := ⟨_, rfl⟩
      rw [← g3] at A3 st3
      refine own_go (st3) ?_
      have g_b3 : n0 ≤ b3 := Nat.le_trans Z0 (Nat.le_of_eq g3.symm)
      have sz_b3 : h0.size ≤ b3 := Nat.le_trans (Keep.refl h0 []).1 (Nat.le_of_eq g3.symm)
      have V3 : Arv Z h3 b3 k3 .byte (1 : Int32) [(.int (0 : Int32))] (.int (0 : Int32)) := (Arv.new A3 (by decide)).pad (pad_rep [] (.int (0 : Int32)) 1)
      show own_Go _ _ _ _ T3 (mkF m 16 #[.val (.int p1), .val (.int p2), .val (.int p3), .val (.int p4), .val (.int p5)] [(.ref b3)])
      refine own_go (fun _ k => XS.dup X3.here hx rfl (hb hby d2_16) rfl rfl k) ?_
      show own_Go _ _ _ _ T3 (mkF m 17 #[.val (.int p1), .val (.int p2), .val (.int p3), .val (.int p4), .val (.int p5)] [(.ref b3), (.ref b3)])
      refine own_go (fun _ k => XS.iconst X3.here hx rfl (hb hby d2_17) k) ?_
      show own_Go _ _ _ _ T3 (mkF m 18 #[.val (.int p1), .val (.int p2), .val (.int p3), .val (.int p4), .val (.int p5)] [(.int (0 : Int32)), (.ref b3), (.ref b3)])
      refine own_go (fun _ k => XS.iloadN X3.here hx rfl (hb hby d2_18) rfl k) ?_
      show own_Go _ _ _ _ T3 (mkF m 19 #[.val (.int p1), .val (.int p2), .val (.int p3), .val (.int p4), .val (.int p5)] [(.int p2), (.int (0 : Int32)), (.ref b3), (.ref b3)])
      obtain ⟨cl4, Ar4, q4, S4, M4, H4, G4⟩ := V3
      have hin4 : ¬ ((0 : Int32) < 0 ∨ cl4.slots.size ≤ ((0 : Int32)).toNatClampNeg) := inb_of S4 ⟨by decide, by decide⟩
      obtain ⟨T4, h4, X4, e4, W4, st4⟩ := stB X3 hx hZ e3 Ar4 (j := (0 : Int32)) hin4 (g := (mkF m 19 #[.val (.int p1), .val (.int p2), .val (.int p3), .val (.int p4), .val (.int p5)] [(.int p2), (.int (0 : Int32)), (.ref b3), (.ref b3)])) rfl rfl (hb hby d2_19)
      refine own_go (st4) ?_
      have V4 : Arv Z h4 b3 k3 .byte (1 : Int32) [(.int (nar .byte p2))] (.int (0 : Int32)) := Arv.set Ar4 q4 S4 M4 H4 G4 (fits_nar_byte _) W4 0 rfl (Nat.le_of_ble_eq_true rfl)
      have N4 := Fr.snoc X4 N0 g_b3
      show own_Go _ _ _ _ T4 (mkF m 20 #[.val (.int p1), .val (.int p2), .val (.int p3), .val (.int p4), .val (.int p5)] [(.ref b3)])
      have f5 := (((Keep.refl h0 []).ext E3).wr W4 (Or.inr sz_b3))
      have VV : Arv Z h4 b3 k3 .byte p1 (own_bs p1 (nar .byte p2) (nar .byte p3) (nar .byte p4) (nar .byte p5)) (.int (0 : Int32)) := by
        rw [hc1]
        exact V4
      exact own_retR X4 hx hret rfl rfl hlk (hb hby d2_20) (by decide) (by decide) (by first | exact ⟨_, _, rfl, N4, f5, VV⟩ | (rw [e4]; exact ⟨_, _, rfl, N4, f5, VV⟩))
    · skip
      refine own_go (fun _ k => XS.icmpYes X0.here hx rfl (pc0 := 10) (pc' := 21) rfl (hb hby d2_10) rfl (feq hc1).2 (by decide) (by decide) k) ?_
      show own_Go _ _ _ _ s₁ (mkF m 21 #[.val (.int p1), .val (.int p2), .val (.int p3), .val (.int p4), .val (.int p5)] [])
      refine own_go (fun _ k => XS.iloadN X0.here hx rfl (hb hby d2_21) rfl k) ?_
      show own_Go _ _ _ _ s₁ (mkF m 22 #[.val (.int p1), .val (.int p2), .val (.int p3), .val (.int p4), .val (.int p5)] [(.int p1)])
      refine own_go (fun _ k => XS.iconst X0.here hx rfl (hb hby d2_22) k) ?_
      show own_Go _ _ _ _ s₁ (mkF m 23 #[.val (.int p1), .val (.int p2), .val (.int p3), .val (.int p4), .val (.int p5)] [(.int (2 : Int32)), (.int p1)])
      by_cases hc2 : p1 = (2 : Int32)
      · skip
        refine own_go (fun _ k => XS.icmpNo X0.here hx rfl (hb hby d2_23) rfl (teq hc2).2 k) ?_
        show own_Go _ _ _ _ s₁ (mkF m 26 #[.val (.int p1), .val (.int p2), .val (.int p3), .val (.int p4), .val (.int p5)] [])
        refine own_go (fun _ k => XS.iconst X0.here hx rfl (hb hby d2_26) k) ?_
        show own_Go _ _ _ _ s₁ (mkF m 27 #[.val (.int p1), .val (.int p2), .val (.int p3), .val (.int p4), .val (.int p5)] [(.int (2 : Int32))])
        obtain ⟨T6, h6, k6, X6, e6, E6, A6, st6⟩ := newP X0 hx hZ (hw _ (List.mem_of_getElem? (i := 7) rfl)) e0 (g := (mkF m 27 #[.val (.int p1), .val (.int p2), .val (.int p3), .val (.int p4), .val (.int p5)] [(.int (2 : Int32))])) rfl (hb hby d2_27) rfl (by decide) (cap := 2) (by decide) (by decide) (by decide) (by decide)
        obtain ⟨b6, g6⟩ : ∃ z, z = h0.size := ⟨_, rfl⟩
        rw [← g6] at A6 st6
        refine own_go (st6) ?_
        have g_b6 : n0 ≤ b6 := Nat.le_trans Z0 (Nat.le_of_eq g6.symm)
        have sz_b6 : h0.size ≤ b6 := Nat.le_trans (Keep.refl h0 []).1 (Nat.le_of_eq g6.symm)
        have V6 : Arv Z h6 b6 k6 .byte (2 : Int32) [(.int (0 : Int32)), (.int (0 : Int32))] (.int (0 : Int32)) := (Arv.new A6 (by decide)).pad (pad_rep [] (.int (0 : Int32)) 2)
        show own_Go _ _ _ _ T6 (mkF m 29 #[.val (.int p1), .val (.int p2), .val (.int p3), .val (.int p4), .val (.int p5)] [(.ref b6)])
        refine own_go (fun _ k => XS.dup X6.here hx rfl (hb hby d2_29) rfl rfl k) ?_
        show own_Go _ _ _ _ T6 (mkF m 30 #[.val (.int p1), .val (.int p2), .val (.int p3), .val (.int p4), .val (.int p5)] [(.ref b6), (.ref b6)])
        refine own_go (fun _ k => XS.iconst X6.here hx rfl (hb hby d2_30) k) ?_
        show own_Go _ _ _ _ T6 (mkF m 31 #[.val (.int p1), .val (.int p2), .val (.int p3), .val (.int p4), .val (.int p5)] [(.int (0 : Int32)), (.ref b6), (.ref b6)])
        refine own_go (fun _ k => XS.iloadN X6.here hx rfl (hb hby d2_31) rfl k) ?_
        show own_Go _ _ _ _ T6 (mkF m 32 #[.val (.int p1), .val (.int p2), .val (.int p3), .val (.int p4), .val (.int p5)] [(.int p2), (.int (0 : Int32)), (.ref b6), (.ref b6)])
        obtain ⟨cl7, Ar7, q7, S7, M7, H7, G7⟩ := V6
        have hin7 : ¬ ((0 : Int32) < 0 ∨ cl7.slots.size ≤ ((0 : Int32)).toNatClampNeg) := inb_of S7 ⟨by decide, by decide⟩
        obtain ⟨T7, h7, X7, e7, W7, st7⟩ := stB X6 hx hZ e6 Ar7 (j := (0 : Int32)) hin7 (g := (mkF m 32 #[.val (.int p1), .val (.int p2), .val (.int p3), .val (.int p4), .val (.int p5)] [(.int p2), (.int (0 : Int32)), (.ref b6), (.ref b6)])) rfl rfl (hb hby d2_32)
        refine own_go (st7) ?_
        have V7 : Arv Z h7 b6 k6 .byte (2 : Int32) [(.int (nar .byte p2)), (.int (0 : Int32))] (.int (0 : Int32)) := Arv.set Ar7 q7 S7 M7 H7 G7 (fits_nar_byte _) W7 0 rfl (Nat.le_of_ble_eq_true rfl)
        have N7 := Fr.snoc X7 N0 g_b6
        show own_Go _ _ _ _ T7 (mkF m 33 #[.val (.int p1), .val (.int p2), .val (.int p3), .val (.int p4), .val (.int p5)] [(.ref b6)])
        refine own_go (fun _ k => XS.dup X7.here hx rfl (hb hby d2_33) rfl rfl k) ?_
        show own_Go _ _ _ _ T7 (mkF m 34 #[.val (.int p1), .val (.int p2), .val (.int p3), .val (.int p4), .val (.int p5)] [(.ref b6), (.ref b6)])
        refine own_go (fun _ k => XS.iconst X7.here hx rfl (hb hby d2_34) k) ?_
        show own_Go _ _ _ _ T7 (mkF m 35 #[.val (.int p1), .val (.int p2), .val (.int p3), .val (.int p4), .val (.int p5)] [(.int (1 : Int32)), (.ref b6), (.ref b6)])
        refine own_go (fun _ k => XS.iloadN X7.here hx rfl (hb hby d2_35) rfl k) ?_
        show own_Go _ _ _ _ T7 (mkF m 36 #[.val (.int p1), .val (.int p2), .val (.int p3), .val (.int p4), .val (.int p5)] [(.int p3), (.int (1 : Int32)), (.ref b6), (.ref b6)])
        obtain ⟨cl8, Ar8, q8, S8, M8, H8, G8⟩ := V7
        have hin8 : ¬ ((1 : Int32) < 0 ∨ cl8.slots.size ≤ ((1 : Int32)).toNatClampNeg) := inb_of S8 ⟨by decide, by decide⟩
        obtain ⟨T8, h8, X8, e8, W8, st8⟩ := stB X7 hx hZ e7 Ar8 (j := (1 : Int32)) hin8 (g := (mkF m 36 #[.val (.int p1), .val (.int p2), .val (.int p3), .val (.int p4), .val (.int p5)] [(.int p3), (.int (1 : Int32)), (.ref b6), (.ref b6)])) rfl rfl (hb hby d2_36)
        refine own_go (st8) ?_
        have V8 : Arv Z h8 b6 k6 .byte (2 : Int32) [(.int (nar .byte p2)), (.int (nar .byte p3))] (.int (0 : Int32)) := Arv.set Ar8 q8 S8 M8 H8 G8 (fits_nar_byte _) W8 1 rfl (Nat.le_of_ble_eq_true rfl)
        have N8 := Fr.snoc X8 N7 g_b6
        show own_Go _ _ _ _ T8 (mkF m 37 #[.val (.int p1), .val (.int p2), .val (.int p3), .val (.int p4), .val (.int p5)] [(.ref b6)])
        have f9 := ((((Keep.refl h0 []).ext E6).wr W7 (Or.inr sz_b6)).wr W8 (Or.inr sz_b6))
        have VV : Arv Z h8 b6 k6 .byte p1 (own_bs p1 (nar .byte p2) (nar .byte p3) (nar .byte p4) (nar .byte p5)) (.int (0 : Int32)) := by
          rw [hc2]
          exact V8
        exact own_retR X8 hx hret rfl rfl hlk (hb hby d2_37) (by decide) (by decide) (by first | exact ⟨_, _, rfl, N8, f9, VV⟩ | (rw [e8]; exact ⟨_, _, rfl, N8, f9, VV⟩))
      · skip
        refine own_go (fun _ k => XS.icmpYes X0.here hx rfl (pc0 := 23) (pc' := 38) rfl (hb hby d2_23) rfl (feq hc2).2 (by decide) (by decide) k) ?_
        show own_Go _ _ _ _ s₁ (mkF m 38 #[.val (.int p1), .val (.int p2), .val (.int p3), .val (.int p4), .val (.int p5)] [])
        refine own_go (fun _ k => XS.iloadN X0.here hx rfl (hb hby d2_38) rfl k) ?_
        show own_Go _ _ _ _ s₁ (mkF m 39 #[.val (.int p1), .val (.int p2), .val (.int p3), .val (.int p4), .val (.int p5)] [(.int p1)])
        refine own_go (fun _ k => XS.iconst X0.here hx rfl (hb hby d2_39) k) ?_
        show own_Go _ _ _ _ s₁ (mkF m 40 #[.val (.int p1), .val (.int p2), .val (.int p3), .val (.int p4), .val (.int p5)] [(.int (3 : Int32)), (.int p1)])
        by_cases hc3 : p1 = (3 : Int32)
        · skip
          refine own_go (fun _ k => XS.icmpNo X0.here hx rfl (hb hby d2_40) rfl (teq hc3).2 k) ?_
          show own_Go _ _ _ _ s₁ (mkF m 43 #[.val (.int p1), .val (.int p2), .val (.int p3), .val (.int p4), .val (.int p5)] [])
          refine own_go (fun _ k => XS.iconst X0.here hx rfl (hb hby d2_43) k) ?_
          show own_Go _ _ _ _ s₁ (mkF m 44 #[.val (.int p1), .val (.int p2), .val (.int p3), .val (.int p4), .val (.int p5)] [(.int (3 : Int32))])
          obtain ⟨T10, h10, k10, X10, e10, E10, A10, st10⟩ := newP X0 hx hZ (hw _ (List.mem_of_getElem? (i := 7) rfl)) e0 (g := (mkF m 44 #[.val (.int p1), .val (.int p2), .val (.int p3), .val (.int p4), .val (.int p5)] [(.int (3 : Int32))])) rfl (hb hby d2_44) rfl (by decide) (cap := 3) (by decide) (by decide) (by decide) (by decide)
          obtain ⟨b10, g10⟩ : ∃ z, z = h0.size := ⟨_, rfl⟩
          rw [← g10] at A10 st10
          refine own_go (st10) ?_
          have g_b10 : n0 ≤ b10 := Nat.le_trans Z0 (Nat.le_of_eq g10.symm)
          have sz_b10 : h0.size ≤ b10 := Nat.le_trans (Keep.refl h0 []).1 (Nat.le_of_eq g10.symm)
          have V10 : Arv Z h10 b10 k10 .byte (3 : Int32) [(.int (0 : Int32)), (.int (0 : Int32)), (.int (0 : Int32))] (.int (0 : Int32)) := (Arv.new A10 (by decide)).pad (pad_rep [] (.int (0 : Int32)) 3)
          show own_Go _ _ _ _ T10 (mkF m 46 #[.val (.int p1), .val (.int p2), .val (.int p3), .val (.int p4), .val (.int p5)] [(.ref b10)])
          refine own_go (fun _ k => XS.dup X10.here hx rfl (hb hby d2_46) rfl rfl k) ?_
          show own_Go _ _ _ _ T10 (mkF m 47 #[.val (.int p1), .val (.int p2), .val (.int p3), .val (.int p4), .val (.int p5)] [(.ref b10), (.ref b10)])
          refine own_go (fun _ k => XS.iconst X10.here hx rfl (hb hby d2_47) k) ?_
          show own_Go _ _ _ _ T10 (mkF m 48 #[.val (.int p1), .val (.int p2), .val (.int p3), .val (.int p4), .val (.int p5)] [(.int (0 : Int32)), (.ref b10), (.ref b10)])
          refine own_go (fun _ k => XS.iloadN X10.here hx rfl (hb hby d2_48) rfl k) ?_
          show own_Go _ _ _ _ T10 (mkF m 49 #[.val (.int p1), .val (.int p2), .val (.int p3), .val (.int p4), .val (.int p5)] [(.int p2), (.int (0 : Int32)), (.ref b10), (.ref b10)])
          obtain ⟨cl11, Ar11, q11, S11, M11, H11, G11⟩ := V10
          have hin11 : ¬ ((0 : Int32) < 0 ∨ cl11.slots.size ≤ ((0 : Int32)).toNatClampNeg) := inb_of S11 ⟨by decide, by decide⟩
          obtain ⟨T11, h11, X11, e11, W11, st11⟩ := stB X10 hx hZ e10 Ar11 (j := (0 : Int32)) hin11 (g := (mkF m 49 #[.val (.int p1), .val (.int p2), .val (.int p3), .val (.int p4), .val (.int p5)] [(.int p2), (.int (0 : Int32)), (.ref b10), (.ref b10)])) rfl rfl (hb hby d2_49)
          refine own_go (st11) ?_
          have V11 : Arv Z h11 b10 k10 .byte (3 : Int32) [(.int (nar .byte p2)), (.int (0 : Int32)), (.int (0 : Int32))] (.int (0 : Int32)) := Arv.set Ar11 q11 S11 M11 H11 G11 (fits_nar_byte _) W11 0 rfl (Nat.le_of_ble_eq_true rfl)
          have N11 := Fr.snoc X11 N0 g_b10
          show own_Go _ _ _ _ T11 (mkF m 50 #[.val (.int p1), .val (.int p2), .val (.int p3), .val (.int p4), .val (.int p5)] [(.ref b10)])
          refine own_go (fun _ k => XS.dup X11.here hx rfl (hb hby d2_50) rfl rfl k) ?_
          show own_Go _ _ _ _ T11 (mkF m 51 #[.val (.int p1), .val (.int p2), .val (.int p3), .val (.int p4), .val (.int p5)] [(.ref b10), (.ref b10)])
          refine own_go (fun _ k => XS.iconst X11.here hx rfl (hb hby d2_51) k) ?_
          show own_Go _ _ _ _ T11 (mkF m 52 #[.val (.int p1), .val (.int p2), .val (.int p3), .val (.int p4), .val (.int p5)] [(.int (1 : Int32)), (.ref b10), (.ref b10)])
          refine own_go (fun _ k => XS.iloadN X11.here hx rfl (hb hby d2_52) rfl k) ?_
          show own_Go _ _ _ _ T11 (mkF m 53 #[.val (.int p1), .val (.int p2), .val (.int p3), .val (.int p4), .val (.int p5)] [(.int p3), (.int (1 : Int32)), (.ref b10), (.ref b10)])
          obtain ⟨cl12, Ar12, q12, S12, M12, H12, G12⟩ := V11
          have hin12 : ¬ ((1 : Int32) < 0 ∨ cl12.slots.size ≤ ((1 : Int32)).toNatClampNeg) := inb_of S12 ⟨by decide, by decide⟩
          obtain ⟨T12, h12, X12, e12, W12, st12⟩ := stB X11 hx hZ e11 Ar12 (j := (1 : Int32)) hin12 (g := (mkF m 53 #[.val (.int p1), .val (.int p2), .val (.int p3), .val (.int p4), .val (.int p5)] [(.int p3), (.int (1 : Int32)), (.ref b10), (.ref b10)])) rfl rfl (hb hby d2_53)
          refine own_go (st12) ?_
          have V12 : Arv Z h12 b10 k10 .byte (3 : Int32) [(.int (nar .byte p2)), (.int (nar .byte p3)), (.int (0 : Int32))] (.int (0 : Int32)) := Arv.set Ar12 q12 S12 M12 H12 G12 (fits_nar_byte _) W12 1 rfl (Nat.le_of_ble_eq_true rfl)
          have N12 := Fr.snoc X12 N11 g_b10
          show own_Go _ _ _ _ T12 (mkF m 54 #[.val (.int p1), .val (.int p2), .val (.int p3), .val (.int p4), .val (.int p5)] [(.ref b10)])
          refine own_go (fun _ k => XS.dup X12.here hx rfl (hb hby d2_54) rfl rfl k) ?_
          show own_Go _ _ _ _ T12 (mkF m 55 #[.val (.int p1), .val (.int p2), .val (.int p3), .val (.int p4), .val (.int p5)] [(.ref b10), (.ref b10)])
          refine own_go (fun _ k => XS.iconst X12.here hx rfl (hb hby d2_55) k) ?_
          show own_Go _ _ _ _ T12 (mkF m 56 #[.val (.int p1), .val (.int p2), .val (.int p3), .val (.int p4), .val (.int p5)] [(.int (2 : Int32)), (.ref b10), (.ref b10)])
          refine own_go (fun _ k => XS.iloadN X12.here hx rfl (hb hby d2_56) rfl k) ?_
          show own_Go _ _ _ _ T12 (mkF m 57 #[.val (.int p1), .val (.int p2), .val (.int p3), .val (.int p4), .val (.int p5)] [(.int p4), (.int (2 : Int32)), (.ref b10), (.ref b10)])
          obtain ⟨cl13, Ar13, q13, S13, M13, H13, G13⟩ := V12
          have hin13 : ¬ ((2 : Int32) < 0 ∨ cl13.slots.size ≤ ((2 : Int32)).toNatClampNeg) := inb_of S13 ⟨by decide, by decide⟩
          obtain ⟨T13, h13, X13, e13, W13, st13⟩ := stB X12 hx hZ e12 Ar13 (j := (2 : Int32)) hin13 (g := (mkF m 57 #[.val (.int p1), .val (.int p2), .val (.int p3), .val (.int p4), .val (.int p5)] [(.int p4), (.int (2 : Int32)), (.ref b10), (.ref b10)])) rfl rfl (hb hby d2_57)
          refine own_go (st13) ?_
          have V13 : Arv Z h13 b10 k10 .byte (3 : Int32) [(.int (nar .byte p2)), (.int (nar .byte p3)), (.int (nar .byte p4))] (.int (0 : Int32)) := Arv.set Ar13 q13 S13 M13 H13 G13 (fits_nar_byte _) W13 2 rfl (Nat.le_of_ble_eq_true rfl)
          have N13 := Fr.snoc X13 N12 g_b10
          show own_Go _ _ _ _ T13 (mkF m 58 #[.val (.int p1), .val (.int p2), .val (.int p3), .val (.int p4), .val (.int p5)] [(.ref b10)])
          have f14 := (((((Keep.refl h0 []).ext E10).wr W11 (Or.inr sz_b10)).wr W12 (Or.inr sz_b10)).wr W13 (Or.inr sz_b10))
          have VV : Arv Z h13 b10 k10 .byte p1 (own_bs p1 (nar .byte p2) (nar .byte p3) (nar .byte p4) (nar .byte p5)) (.int (0 : Int32)) := by
            rw [hc3]
            exact V13
          exact own_retR X13 hx hret rfl rfl hlk (hb hby d2_58) (by decide) (by decide) (by first | exact ⟨_, _, rfl, N13, f14, VV⟩ | (rw [e13]; exact ⟨_, _, rfl, N13, f14, VV⟩))
        · skip
          refine own_go (fun _ k => XS.icmpYes X0.here hx rfl (pc0 := 40) (pc' := 59) rfl (hb hby d2_40) rfl (feq hc3).2 (by decide) (by decide) k) ?_
          have hc4 := h4 hc0 hc1 hc2 hc3
          show own_Go _ _ _ _ s₁ (mkF m 59 #[.val (.int p1), .val (.int p2), .val (.int p3), .val (.int p4), .val (.int p5)] [])
          refine own_go (fun _ k => XS.iconst X0.here hx rfl (hb hby d2_59) k) ?_
          show own_Go _ _ _ _ s₁ (mkF m 60 #[.val (.int p1), .val (.int p2), .val (.int p3), .val (.int p4), .val (.int p5)] [(.int (4 : Int32))])
          obtain ⟨T15, h15, k15, X15, e15, E15, A15, st15⟩ := newP X0 hx hZ (hw _ (List.mem_of_getElem? (i := 7) rfl)) e0 (g := (mkF m 60 #[.val (.int p1), .val (.int p2), .val (.int p3), .val (.int p4), .val (.int p5)] [(.int (4 : Int32))])) rfl (hb hby d2_60) rfl (by decide) (cap := 4) (by decide) (by decide) (by decide) (by decide)
          obtain ⟨b15, g15⟩ : ∃ z, z = h0.size := ⟨_, rfl⟩
          rw [← g15] at A15 st15
          refine own_go (st15) ?_
          have g_b15 : n0 ≤ b15 := Nat.le_trans Z0 (Nat.le_of_eq g15.symm)
          have sz_b15 : h0.size ≤ b15 := Nat.le_trans (Keep.refl h0 []).1 (Nat.le_of_eq g15.symm)
          have V15 : Arv Z h15 b15 k15 .byte (4 : Int32) [(.int (0 : Int32)), (.int (0 : Int32)), (.int (0 : Int32)), (.int (0 : Int32))] (.int (0 : Int32)) := (Arv.new A15 (by decide)).pad (pad_rep [] (.int (0 : Int32)) 4)
          show own_Go _ _ _ _ T15 (mkF m 62 #[.val (.int p1), .val (.int p2), .val (.int p3), .val (.int p4), .val (.int p5)] [(.ref b15)])
          refine own_go (fun _ k => XS.dup X15.here hx rfl (hb hby d2_62) rfl rfl k) ?_
          show own_Go _ _ _ _ T15 (mkF m 63 #[.val (.int p1), .val (.int p2), .val (.int p3), .val (.int p4), .val (.int p5)] [(.ref b15), (.ref b15)])
          refine own_go (fun _ k => XS.iconst X15.here hx rfl (hb hby d2_63) k) ?_
          show own_Go _ _ _ _ T15 (mkF m 64 #[.val (.int p1), .val (.int p2), .val (.int p3), .val (.int p4), .val (.int p5)] [(.int (0 : Int32)), (.ref b15), (.ref b15)])
          refine own_go (fun _ k => XS.iloadN X15.here hx rfl (hb hby d2_64) rfl k) ?_
          show own_Go _ _ _ _ T15 (mkF m 65 #[.val (.int p1), .val (.int p2), .val (.int p3), .val (.int p4), .val (.int p5)] [(.int p2), (.int (0 : Int32)), (.ref b15), (.ref b15)])
          obtain ⟨cl16, Ar16, q16, S16, M16, H16, G16⟩ := V15
          have hin16 : ¬ ((0 : Int32) < 0 ∨ cl16.slots.size ≤ ((0 : Int32)).toNatClampNeg) := inb_of S16 ⟨by decide, by decide⟩
          obtain ⟨T16, h16, X16, e16, W16, st16⟩ := stB X15 hx hZ e15 Ar16 (j := (0 : Int32)) hin16 (g := (mkF m 65 #[.val (.int p1), .val (.int p2), .val (.int p3), .val (.int p4), .val (.int p5)] [(.int p2), (.int (0 : Int32)), (.ref b15), (.ref b15)])) rfl rfl (hb hby d2_65)
          refine own_go (st16) ?_
          have V16 : Arv Z h16 b15 k15 .byte (4 : Int32) [(.int (nar .byte p2)), (.int (0 : Int32)), (.int (0 : Int32)), (.int (0 : Int32))] (.int (0 : Int32)) := Arv.set Ar16 q16 S16 M16 H16 G16 (fits_nar_byte _) W16 0 rfl (Nat.le_of_ble_eq_true rfl)
          have N16 := Fr.snoc X16 N0 g_b15
          show own_Go _ _ _ _ T16 (mkF m 66 #[.val (.int p1), .val (.int p2), .val (.int p3), .val (.int p4), .val (.int p5)] [(.ref b15)])
          refine own_go (fun _ k => XS.dup X16.here hx rfl (hb hby d2_66) rfl rfl k) ?_
          show own_Go _ _ _ _ T16 (mkF m 67 #[.val (.int p1), .val (.int p2), .val (.int p3), .val (.int p4), .val (.int p5)] [(.ref b15), (.ref b15)])
          refine own_go (fun _ k => XS.iconst X16.here hx rfl (hb hby d2_67) k) ?_
          show own_Go _ _ _ _ T16 (mkF m 68 #[.val (.int p1), .val (.int p2), .val (.int p3), .val (.int p4), .val (.int p5)] [(.int (1 : Int32)), (.ref b15), (.ref b15)])
          refine own_go (fun _ k => XS.iloadN X16.here hx rfl (hb hby d2_68) rfl k) ?_
          show own_Go _ _ _ _ T16 (mkF m 69 #[.val (.int p1), .val (.int p2), .val (.int p3), .val (.int p4), .val (.int p5)] [(.int p3), (.int (1 : Int32)), (.ref b15), (.ref b15)])
          obtain ⟨cl17, Ar17, q17, S17, M17, H17, G17⟩ := V16
          have hin17 : ¬ ((1 : Int32) < 0 ∨ cl17.slots.size ≤ ((1 : Int32)).toNatClampNeg) := inb_of S17 ⟨by decide, by decide⟩
          obtain ⟨T17, h17, X17, e17, W17, st17⟩ := stB X16 hx hZ e16 Ar17 (j := (1 : Int32)) hin17 (g := (mkF m 69 #[.val (.int p1), .val (.int p2), .val (.int p3), .val (.int p4), .val (.int p5)] [(.int p3), (.int (1 : Int32)), (.ref b15), (.ref b15)])) rfl rfl (hb hby d2_69)
          refine own_go (st17) ?_
          have V17 : Arv Z h17 b15 k15 .byte (4 : Int32) [(.int (nar .byte p2)), (.int (nar .byte p3)), (.int (0 : Int32)), (.int (0 : Int32))] (.int (0 : Int32)) := Arv.set Ar17 q17 S17 M17 H17 G17 (fits_nar_byte _) W17 1 rfl (Nat.le_of_ble_eq_true rfl)
          have N17 := Fr.snoc X17 N16 g_b15
          show own_Go _ _ _ _ T17 (mkF m 70 #[.val (.int p1), .val (.int p2), .val (.int p3), .val (.int p4), .val (.int p5)] [(.ref b15)])
          refine own_go (fun _ k => XS.dup X17.here hx rfl (hb hby d2_70) rfl rfl k) ?_
          show own_Go _ _ _ _ T17 (mkF m 71 #[.val (.int p1), .val (.int p2), .val (.int p3), .val (.int p4), .val (.int p5)] [(.ref b15), (.ref b15)])
          refine own_go (fun _ k => XS.iconst X17.here hx rfl (hb hby d2_71) k) ?_
          show own_Go _ _ _ _ T17 (mkF m 72 #[.val (.int p1), .val (.int p2), .val (.int p3), .val (.int p4), .val (.int p5)] [(.int (2 : Int32)), (.ref b15), (.ref b15)])
          refine own_go (fun _ k => XS.iloadN X17.here hx rfl (hb hby d2_72) rfl k) ?_
          show own_Go _ _ _ _ T17 (mkF m 73 #[.val (.int p1), .val (.int p2), .val (.int p3), .val (.int p4), .val (.int p5)] [(.int p4), (.int (2 : Int32)), (.ref b15), (.ref b15)])
          obtain ⟨cl18, Ar18, q18, S18, M18, H18, G18⟩ := V17
          have hin18 : ¬ ((2 : Int32) < 0 ∨ cl18.slots.size ≤ ((2 : Int32)).toNatClampNeg) := inb_of S18 ⟨by decide, by decide⟩
          obtain ⟨T18, h18, X18, e18, W18, st18⟩ := stB X17 hx hZ e17 Ar18 (j := (2 : Int32)) hin18 (g := (mkF m 73 #[.val (.int p1), .val (.int p2), .val (.int p3), .val (.int p4), .val (.int p5)] [(.int p4), (.int (2 : Int32)), (.ref b15), (.ref b15)])) rfl rfl (hb hby d2_73)
          refine own_go (st18) ?_
          have V18 : Arv Z h18 b15 k15 .byte (4 : Int32) [(.int (nar .byte p2)), (.int (nar .byte p3)), (.int (nar .byte p4)), (.int (0 : Int32))] (.int (0 : Int32)) := Arv.set Ar18 q18 S18 M18 H18 G18 (fits_nar_byte _) W18 2 rfl (Nat.le_of_ble_eq_true rfl)
          have N18 := Fr.snoc X18 N17 g_b15
          show own_Go _ _ _ _ T18 (mkF m 74 #[.val (.int p1), .val (.int p2), .val (.int p3), .val (.int p4), .val (.int p5)] [(.ref b15)])
          refine own_go (fun _ k => XS.dup X18.here hx rfl (hb hby d2_74) rfl rfl k) ?_
          show own_Go _ _ _ _ T18 (mkF m 75 #[.val (.int p1), .val (.int p2), .val (.int p3), .val (.int p4), .val (.int p5)] [(.ref b15), (.ref b15)])
          refine own_go (fun _ k => XS.iconst X18.here hx rfl (hb hby d2_75) k) ?_
          show own_Go _ _ _ _ T18 (mkF m 76 #[.val (.int p1), .val (.int p2), .val (.int p3), .val (.int p4), .val (.int p5)] [(.int (3 : Int32)), (.ref b15), (.ref b15)])
          refine own_go (fun _ k => XS.iload X18.here hx rfl (hb hby d2_76) rfl k) ?_
          show own_Go _ _ _ _ T18 (mkF m 78 #[.val (.int p1), .val (.int p2), .val (.int p3), .val (.int p4), .val (.int p5)] [(.int p5), (.int (3 : Int32)), (.ref b15), (.ref b15)])
          obtain ⟨cl19, Ar19, q19, S19, M19, H19, G19⟩ := V18
          have hin19 : ¬ ((3 : Int32) < 0 ∨ cl19.slots.size ≤ ((3 : Int32)).toNatClampNeg) := inb_of S19 ⟨by decide, by decide⟩
          obtain ⟨T19, h19, X19, e19, W19, st19⟩ := stB X18 hx hZ e18 Ar19 (j := (3 : Int32)) hin19 (g := (mkF m 78 #[.val (.int p1), .val (.int p2), .val (.int p3), .val (.int p4), .val (.int p5)] [(.int p5), (.int (3 : Int32)), (.ref b15), (.ref b15)])) rfl rfl (hb hby d2_78)
          refine own_go (st19) ?_
          have V19 : Arv Z h19 b15 k15 .byte (4 : Int32) [(.int (nar .byte p2)), (.int (nar .byte p3)), (.int (nar .byte p4)), (.int (nar .byte p5))] (.int (0 : Int32)) := Arv.set Ar19 q19 S19 M19 H19 G19 (fits_nar_byte _) W19 3 rfl (Nat.le_of_ble_eq_true rfl)
          have N19 := Fr.snoc X19 N18 g_b15
          show own_Go _ _ _ _ T19 (mkF m 79 #[.val (.int p1), .val (.int p2), .val (.int p3), .val (.int p4), .val (.int p5)] [(.ref b15)])
          have f20 := ((((((Keep.refl h0 []).ext E15).wr W16 (Or.inr sz_b15)).wr W17 (Or.inr sz_b15)).wr W18 (Or.inr sz_b15)).wr W19 (Or.inr sz_b15))
          have VV : Arv Z h19 b15 k15 .byte p1 (own_bs p1 (nar .byte p2) (nar .byte p3) (nar .byte p4) (nar .byte p5)) (.int (0 : Int32)) := by
            rw [hc4]
            exact V19
          exact own_retR X19 hx hret rfl rfl hlk (hb hby d2_79) (by decide) (by decide) (by first | exact ⟨_, _, rfl, N19, f20, VV⟩ | (rw [e19]; exact ⟨_, _, rfl, N19, f20, VV⟩))
set_option maxRecDepth 65536 in
set_option maxHeartbeats 40000000 in
theorem rm3 (l : Launch) (Z : State) (a0 : Array Value) (hw : ∀ d ∈ tables_1, d.before a0 Z = true) (ws : List Jvm.Cond) (a1 : Addr) (st : Int32) (kk : ClassId) (nn : Int32) (vs : List Value) (dv : Value) (f : Nat → Int32) (h0 : Heap) (n0 : Nat) (Z0 : n0 ≤ h0.size) (V_a1 : Arv Z h0 a1 kk .byte nn vs dv) (hf : ∀ i : Nat, (i : Int) < nn.toInt → vs.getD i dv = .int (f i)) (h1 : 0 ≤ st.toInt) (h2 : st.toInt ≤ nn.toInt) :
    own_Met l (⟨"com/example/anahtar/anahtar/PolicyReader", "lineEnd", "([BI)I"⟩ : MethodName) prog_49_method_6_code 3 (some .int) ws ({ frames := 0, cells := 0, slots := 0, locals := 0 } : Room) Z #[(.ref a1), (.int st)] h0 (fun v h L => ∃ r : Int32, v = some (.int r) ∧ own_isEnd nn st f r ∧ Fr n0 L ∧ h0 = h) := by
  refine own_body (plainFor_of_name (by first | (simp [plainName, overriddenIn]; done) | decide +kernel)) ?_
  intro p e s m below meth c s₁ X0 hx hby hml hown hnm hret hlk hZ e0
  have N0 := Fr.nil n0
  refine own_cast (show entryFrame m #[(.ref a1), (.int st)] 3 = mkF m 0 #[.val (.ref a1), .val (.int st), .unset] [] from by first | (simp [entryFrame, mkF, argsToLocals, Value.category]; done) | rfl) ?_
  have loop : ∀ (k : Nat) (j : Int32), j.toInt + k = nn.toInt → st.toInt ≤ j.toInt → (∀ i : Nat, st.toInt ≤ i → (i : Int) < j.toInt → f i ≠ (10 : Int32)) → own_Go p.tables e below (own_P below s (fun v h L => ∃ r : Int32, v = some (.int r) ∧ own_isEnd nn st f r ∧ Fr n0 L ∧ h0 = h) ({ frames := 0, cells := 0, slots := 0, locals := 0 } : Room).cells ({ frames := 0, cells := 0, slots := 0, locals := 0 } : Room).slots) s₁ (mkF m 2 #[.val (.ref a1), .val (.int st), .val (.int j)] []) := by
    intro k
    induction k with
    | zero =>
      intro j hj h3 h4
      show own_Go _ _ _ _ s₁ (mkF m 2 #[.val (.ref a1), .val (.int st), .val (.int j)] [])
      refine own_go (fun _ k => XS.iloadN X0.here hx rfl (hb hby d3_2) rfl k) ?_
      show own_Go _ _ _ _ s₁ (mkF m 3 #[.val (.ref a1), .val (.int st), .val (.int j)] [(.int j)])
      refine own_go (fun _ k => XS.aloadN X0.here hx rfl (hb hby d3_3) rfl rfl k) ?_
      show own_Go _ _ _ _ s₁ (mkF m 4 #[.val (.ref a1), .val (.int st), .val (.int j)] [(.ref a1), (.int j)])
      obtain ⟨cl21, Ar21, q21, S21, M21, H21, G21⟩ := V_a1
      have V21 : Arv Z h0 a1 kk .byte nn _ _ := ⟨cl21, Ar21, q21, S21, M21, H21, G21⟩
      refine own_go (fun t k => X0.arraylength hx (by rw [e0]; exact Ar21.1) (State.isArrayOf_alike hZ.alike Ar21.2.1) (g := (mkF m 4 #[.val (.ref a1), .val (.int st), .val (.int j)] [(.ref a1), (.int j)])) rfl rfl (hb hby d3_4) t k) ?_
      rw [len_of S21 M21]
      show own_Go _ _ _ _ s₁ (mkF m 5 #[.val (.ref a1), .val (.int st), .val (.int j)] [(.int nn), (.int j)])
      refine own_go (fun _ k => XS.icmpYes X0.here hx rfl (pc0 := 5) (pc' := 22) rfl (hb hby d3_5) rfl (flt (own_nlt (by omega))).2.1 (by decide) (by decide) k) ?_
      show own_Go _ _ _ _ s₁ (mkF m 22 #[.val (.ref a1), .val (.int st), .val (.int j)] [])
      refine own_go (fun _ k => XS.iloadN X0.here hx rfl (hb hby d3_22) rfl k) ?_
      show own_Go _ _ _ _ s₁ (mkF m 23 #[.val (.ref a1), .val (.int st), .val (.int j)] [(.int j)])
      exact own_retI X0 hx hret hlk (hb hby d3_23) (by decide) (by decide) (by first | exact ⟨j, rfl, ⟨h3, by omega, h4, fun q => absurd q (by omega)⟩, N0, rfl⟩ | (rw [e0]; exact ⟨j, rfl, ⟨h3, by omega, h4, fun q => absurd q (by omega)⟩, N0, rfl⟩))
    | succ k ih =>
      intro j hj h3 h4
      have hjn : j < nn := own_lt (by omega)
      have hj0 : ¬ j < 0 := own_nlt (by show (0 : Int32).toInt ≤ _; rw [own_e0]; omega)
      have ej := nat_of hj0
      show own_Go _ _ _ _ s₁ (mkF m 2 #[.val (.ref a1), .val (.int st), .val (.int j)] [])
      refine own_go (fun _ k => XS.iloadN X0.here hx rfl (hb hby d3_2) rfl k) ?_
      show own_Go _ _ _ _ s₁ (mkF m 3 #[.val (.ref a1), .val (.int st), .val (.int j)] [(.int j)])
      refine own_go (fun _ k => XS.aloadN X0.here hx rfl (hb hby d3_3) rfl rfl k) ?_
      show own_Go _ _ _ _ s₁ (mkF m 4 #[.val (.ref a1), .val (.int st), .val (.int j)] [(.ref a1), (.int j)])
      obtain ⟨cl22, Ar22, q22, S22, M22, H22, G22⟩ := V_a1
      have V22 : Arv Z h0 a1 kk .byte nn _ _ := ⟨cl22, Ar22, q22, S22, M22, H22, G22⟩
      refine own_go (fun t k => X0.arraylength hx (by rw [e0]; exact Ar22.1) (State.isArrayOf_alike hZ.alike Ar22.2.1) (g := (mkF m 4 #[.val (.ref a1), .val (.int st), .val (.int j)] [(.ref a1), (.int j)])) rfl rfl (hb hby d3_4) t k) ?_
      rw [len_of S22 M22]
      show own_Go _ _ _ _ s₁ (mkF m 5 #[.val (.ref a1), .val (.int st), .val (.int j)] [(.int nn), (.int j)])
      refine own_go (fun _ k => XS.icmpNo X0.here hx rfl (hb hby d3_5) rfl (tlt hjn).2.1 k) ?_
      show own_Go _ _ _ _ s₁ (mkF m 8 #[.val (.ref a1), .val (.int st), .val (.int j)] [])
      refine own_go (fun _ k => XS.aloadN X0.here hx rfl (hb hby d3_8) rfl rfl k) ?_
      show own_Go _ _ _ _ s₁ (mkF m 9 #[.val (.ref a1), .val (.int st), .val (.int j)] [(.ref a1)])
      refine own_go (fun _ k => XS.iloadN X0.here hx rfl (hb hby d3_9) rfl k) ?_
      show own_Go _ _ _ _ s₁ (mkF m 10 #[.val (.ref a1), .val (.int st), .val (.int j)] [(.int j), (.ref a1)])
      obtain ⟨cl23, Ar23, q23, S23, M23, H23, G23⟩ := V22
      have V23 : Arv Z h0 a1 kk .byte nn _ _ := ⟨cl23, Ar23, q23, S23, M23, H23, G23⟩
      have hin23 : ¬ (j < 0 ∨ cl23.slots.size ≤ (j).toNatClampNeg) := inb_of S23 ⟨hj0, hjn⟩
      have hat23 : cl23.slots[(j).toNatClampNeg]? = some (.int (f (j).toNatClampNeg)) := H23.at hin23 (hf _ (by omega))
      refine own_go (X0.baloadBytes hx (j := j) (v := (.int (f (j).toNatClampNeg))) (by rw [e0]; exact Ar23.1) (State.isArrayOf_alike hZ.alike Ar23.2.1) Ar23.2.2 hin23 hat23 (g := (mkF m 10 #[.val (.ref a1), .val (.int st), .val (.int j)] [(.int j), (.ref a1)])) rfl rfl (hb hby d3_10)) ?_
      show own_Go _ _ _ _ s₁ (mkF m 11 #[.val (.ref a1), .val (.int st), .val (.int j)] [(.int (f (j).toNatClampNeg))])
      refine own_go (fun _ k => XS.bipush X0.here hx rfl (hb hby d3_11) k) ?_
      show own_Go _ _ _ _ s₁ (mkF m 13 #[.val (.ref a1), .val (.int st), .val (.int j)] [(.int (10 : Int32)), (.int (f (j).toNatClampNeg))])
      by_cases hc : (f (j).toNatClampNeg) = (10 : Int32)
      · skip
        refine own_go (fun _ k => XS.icmpYes X0.here hx rfl (pc0 := 13) (pc' := 22) rfl (hb hby d3_13) rfl (teq hc).1 (by decide) (by decide) k) ?_
        show own_Go _ _ _ _ s₁ (mkF m 22 #[.val (.ref a1), .val (.int st), .val (.int j)] [])
        refine own_go (fun _ k => XS.iloadN X0.here hx rfl (hb hby d3_22) rfl k) ?_
        show own_Go _ _ _ _ s₁ (mkF m 23 #[.val (.ref a1), .val (.int st), .val (.int j)] [(.int j)])
        exact own_retI X0 hx hret hlk (hb hby d3_23) (by decide) (by decide) (by first | exact ⟨j, rfl, ⟨h3, by omega, h4, fun _ => by rw [ej]; exact hc⟩, N0, rfl⟩ | (rw [e0]; exact ⟨j, rfl, ⟨h3, by omega, h4, fun _ => by rw [ej]; exact hc⟩, N0, rfl⟩))
      · skip
        refine own_go (fun _ k => XS.icmpNo X0.here hx rfl (hb hby d3_13) rfl (feq hc).1 k) ?_
        have e1 : (j + (1 : Int32)).toInt = j.toInt + 1 := own_inc j nn hjn
        show own_Go _ _ _ _ s₁ (mkF m 16 #[.val (.ref a1), .val (.int st), .val (.int j)] [])
        refine own_go (fun _ k => XS.iinc X0.here hx rfl (hb hby d3_16) rfl (l' := #[.val (.ref a1), .val (.int st), .val (.int (j + (1 : Int32)))]) rfl k) ?_
        show own_Go _ _ _ _ s₁ (mkF m 19 #[.val (.ref a1), .val (.int st), .val (.int (j + (1 : Int32)))] [])
        refine own_go (fun _ k => XS.goto X0.here hx rfl (pc0 := 19) (pc' := 2) rfl (hb hby d3_19) (by decide) (by decide) k) ?_
        refine ih (j + (1 : Int32)) (by omega) (by omega) (fun i q1 q2 => ?_)
        by_cases q : (i : Int) < j.toInt
        · exact h4 i q1 q
        · have q3 : i = j.toNatClampNeg := by omega
          rw [q3]
          exact hc
  show own_Go _ _ _ _ s₁ (mkF m 0 #[.val (.ref a1), .val (.int st), .unset] [])
  refine own_go (fun _ k => XS.iloadN X0.here hx rfl (hb hby d3_0) rfl k) ?_
  show own_Go _ _ _ _ s₁ (mkF m 1 #[.val (.ref a1), .val (.int st), .unset] [(.int st)])
  refine own_go (fun _ k => XS.istoreN X0.here hx rfl (hb hby d3_1) rfl (l' := #[.val (.ref a1), .val (.int st), .val (.int st)]) rfl k) ?_
  exact loop (nn.toInt - st.toInt).toNat st (by omega) (Int.le_refl _) (fun i q1 q2 => absurd q1 (by omega))
set_option maxRecDepth 65536 in
set_option maxHeartbeats 40000000 in
theorem rm0 (l : Launch) (Z : State) (a0 : Array Value) (hw : ∀ d ∈ tables_1, d.before a0 Z = true) (ws : List Jvm.Cond) (p1 p2 p3 p4 p5 : Int32) (h0 : Heap) (n0 : Nat) (Z0 : n0 ≤ h0.size) :
    own_Met l x code maxLocals ret ws room_1 Z #[(.int p1), (.int p2), (.int p3), (.int p4), (.int p5)] h0 (fun v h L => v = some (.int 1) ∧ Fr n0 L) := by
  refine own_body (plainFor_of_name (by first | (simp [plainName, overriddenIn]; done) | decide +kernel)) ?_
  intro p e s m below meth c s₁ X0 hx hby hml hown hnm hret hlk hZ e0
  have N0 := Fr.nil n0
  refine own_cast (show entryFrame m #[(.int p1), (.int p2), (.int p3), (.int p4), (.int p5)] maxLocals = mkF m 0 #[.val (.int p1), .val (.int p2), .val (.int p3), .val (.int p4), .val (.int p5), .unset, .unset, .unset, .unset, .unset, .unset, .unset, .unset, .unset, .unset] [] from by first | (simp [entryFrame, mkF, argsToLocals, Value.category, maxLocals]; done) | rfl) ?_
  show own_Go _ _ _ _ s₁ (mkF m 0 #[.val (.int p1), .val (.int p2), .val (.int p3), .val (.int p4), .val (.int p5), .unset, .unset, .unset, .unset, .unset, .unset, .unset, .unset, .unset, .unset] [])
  refine own_go (fun _ k => XS.iloadN X0.here hx rfl (hb hby at_0) rfl k) ?_
  show own_Go _ _ _ _ s₁ (mkF m 1 #[.val (.int p1), .val (.int p2), .val (.int p3), .val (.int p4), .val (.int p5), .unset, .unset, .unset, .unset, .unset, .unset, .unset, .unset, .unset, .unset] [(.int p1)])
  refine own_go (fun _ k => XS.bipush X0.here hx rfl (hb hby at_1) k) ?_
  show own_Go _ _ _ _ s₁ (mkF m 3 #[.val (.int p1), .val (.int p2), .val (.int p3), .val (.int p4), .val (.int p5), .unset, .unset, .unset, .unset, .unset, .unset, .unset, .unset, .unset, .unset] [(.int (7 : Int32)), (.int p1)])
  refine own_go (fun _ k => XS.iand X0.here hx rfl (hb hby at_3) rfl k) ?_
  show own_Go _ _ _ _ s₁ (mkF m 4 #[.val (.int p1), .val (.int p2), .val (.int p3), .val (.int p4), .val (.int p5), .unset, .unset, .unset, .unset, .unset, .unset, .unset, .unset, .unset, .unset] [(.int (p1 &&& (7 : Int32)))])
  refine own_go (fun _ k => XS.iconst X0.here hx rfl (hb hby at_4) k) ?_
  show own_Go _ _ _ _ s₁ (mkF m 5 #[.val (.int p1), .val (.int p2), .val (.int p3), .val (.int p4), .val (.int p5), .unset, .unset, .unset, .unset, .unset, .unset, .unset, .unset, .unset, .unset] [(.int (5 : Int32)), (.int (p1 &&& (7 : Int32)))])
  refine own_go (fun _ k => iremM X0 hx rfl (hb hby at_5) rfl (by decide) k) ?_
  show own_Go _ _ _ _ s₁ (mkF m 6 #[.val (.int p1), .val (.int p2), .val (.int p3), .val (.int p4), .val (.int p5), .unset, .unset, .unset, .unset, .unset, .unset, .unset, .unset, .unset, .unset] [(.int ((p1 &&& (7 : Int32)) % (5 : Int32)))])
  obtain ⟨nn, hnn⟩ : ∃ z : Int32, z = ((p1 &&& (7 : Int32)) % (5 : Int32)) := ⟨_, rfl⟩
  rw [← hnn]
  have hn : 0 ≤ nn.toInt ∧ nn.toInt ≤ 4 := by rw [hnn]; exact own_n p1
  show own_Go _ _ _ _ s₁ (mkF m 6 #[.val (.int p1), .val (.int p2), .val (.int p3), .val (.int p4), .val (.int p5), .unset, .unset, .unset, .unset, .unset, .unset, .unset, .unset, .unset, .unset] [(.int nn)])
  refine own_go (fun _ k => XS.istore X0.here hx rfl (hb hby at_6) rfl (l' := #[.val (.int p1), .val (.int p2), .val (.int p3), .val (.int p4), .val (.int p5), .val (.int nn), .unset, .unset, .unset, .unset, .unset, .unset, .unset, .unset, .unset]) rfl k) ?_
  show own_Go _ _ _ _ s₁ (mkF m 8 #[.val (.int p1), .val (.int p2), .val (.int p3), .val (.int p4), .val (.int p5), .val (.int nn), .unset, .unset, .unset, .unset, .unset, .unset, .unset, .unset, .unset] [])
  refine own_go (fun _ k => XS.iloadN X0.here hx rfl (hb hby at_8) rfl k) ?_
  show own_Go _ _ _ _ s₁ (mkF m 9 #[.val (.int p1), .val (.int p2), .val (.int p3), .val (.int p4), .val (.int p5), .val (.int nn), .unset, .unset, .unset, .unset, .unset, .unset, .unset, .unset, .unset] [(.int p1)])
  refine own_go (fun _ k => XS.iconst X0.here hx rfl (hb hby at_9) k) ?_
  show own_Go _ _ _ _ s₁ (mkF m 10 #[.val (.int p1), .val (.int p2), .val (.int p3), .val (.int p4), .val (.int p5), .val (.int nn), .unset, .unset, .unset, .unset, .unset, .unset, .unset, .unset, .unset] [(.int (3 : Int32)), (.int p1)])
  refine own_go (fun _ k => XS.iushr X0.here hx rfl (hb hby at_10) rfl k) ?_
  show own_Go _ _ _ _ s₁ (mkF m 11 #[.val (.int p1), .val (.int p2), .val (.int p3), .val (.int p4), .val (.int p5), .val (.int nn), .unset, .unset, .unset, .unset, .unset, .unset, .unset, .unset, .unset] [(.int ((p1).toUInt32 >>> ((3 : Int32) &&& 31).toUInt32).toInt32)])
  refine own_go (fun _ k => XS.bipush X0.here hx rfl (hb hby at_11) k) ?_
  show own_Go _ _ _ _ s₁ (mkF m 13 #[.val (.int p1), .val (.int p2), .val (.int p3), .val (.int p4), .val (.int p5), .val (.int nn), .unset, .unset, .unset, .unset, .unset, .unset, .unset, .unset, .unset] [(.int (7 : Int32)), (.int ((p1).toUInt32 >>> ((3 : Int32) &&& 31).toUInt32).toInt32)])
  refine own_go (fun _ k => XS.iand X0.here hx rfl (hb hby at_13) rfl k) ?_
  show own_Go _ _ _ _ s₁ (mkF m 14 #[.val (.int p1), .val (.int p2), .val (.int p3), .val (.int p4), .val (.int p5), .val (.int nn), .unset, .unset, .unset, .unset, .unset, .unset, .unset, .unset, .unset] [(.int (((p1).toUInt32 >>> ((3 : Int32) &&& 31).toUInt32).toInt32 &&& (7 : Int32)))])
  refine own_go (fun _ k => XS.iload X0.here hx rfl (hb hby at_14) rfl k) ?_
  show own_Go _ _ _ _ s₁ (mkF m 16 #[.val (.int p1), .val (.int p2), .val (.int p3), .val (.int p4), .val (.int p5), .val (.int nn), .unset, .unset, .unset, .unset, .unset, .unset, .unset, .unset, .unset] [(.int nn), (.int (((p1).toUInt32 >>> ((3 : Int32) &&& 31).toUInt32).toInt32 &&& (7 : Int32)))])
  refine own_go (fun _ k => XS.iconst X0.here hx rfl (hb hby at_16) k) ?_
  show own_Go _ _ _ _ s₁ (mkF m 17 #[.val (.int p1), .val (.int p2), .val (.int p3), .val (.int p4), .val (.int p5), .val (.int nn), .unset, .unset, .unset, .unset, .unset, .unset, .unset, .unset, .unset] [(.int (1 : Int32)), (.int nn), (.int (((p1).toUInt32 >>> ((3 : Int32) &&& 31).toUInt32).toInt32 &&& (7 : Int32)))])
  refine own_go (fun _ k => XS.iadd X0.here hx rfl (hb hby at_17) rfl k) ?_
  show own_Go _ _ _ _ s₁ (mkF m 18 #[.val (.int p1), .val (.int p2), .val (.int p3), .val (.int p4), .val (.int p5), .val (.int nn), .unset, .unset, .unset, .unset, .unset, .unset, .unset, .unset, .unset] [(.int (nn + (1 : Int32))), (.int (((p1).toUInt32 >>> ((3 : Int32) &&& 31).toUInt32).toInt32 &&& (7 : Int32)))])
  refine own_go (fun _ k => iremM X0 hx rfl (hb hby at_18) rfl (own_nz hn) k) ?_
  show own_Go _ _ _ _ s₁ (mkF m 19 #[.val (.int p1), .val (.int p2), .val (.int p3), .val (.int p4), .val (.int p5), .val (.int nn), .unset, .unset, .unset, .unset, .unset, .unset, .unset, .unset, .unset] [(.int ((((p1).toUInt32 >>> ((3 : Int32) &&& 31).toUInt32).toInt32 &&& (7 : Int32)) % (nn + (1 : Int32))))])
  obtain ⟨st, hst⟩ : ∃ z : Int32, z = ((((p1).toUInt32 >>> ((3 : Int32) &&& 31).toUInt32).toInt32 &&& (7 : Int32)) % (nn + (1 : Int32))) := ⟨_, rfl⟩
  rw [← hst]
  have hs : 0 ≤ st.toInt ∧ st.toInt ≤ nn.toInt := by rw [hst]; exact own_st _ nn hn
  show own_Go _ _ _ _ s₁ (mkF m 19 #[.val (.int p1), .val (.int p2), .val (.int p3), .val (.int p4), .val (.int p5), .val (.int nn), .unset, .unset, .unset, .unset, .unset, .unset, .unset, .unset, .unset] [(.int st)])
  refine own_go (fun _ k => XS.istore X0.here hx rfl (hb hby at_19) rfl (l' := #[.val (.int p1), .val (.int p2), .val (.int p3), .val (.int p4), .val (.int p5), .val (.int nn), .val (.int st), .unset, .unset, .unset, .unset, .unset, .unset, .unset, .unset]) rfl k) ?_
  show own_Go _ _ _ _ s₁ (mkF m 21 #[.val (.int p1), .val (.int p2), .val (.int p3), .val (.int p4), .val (.int p5), .val (.int nn), .val (.int st), .unset, .unset, .unset, .unset, .unset, .unset, .unset, .unset] [])
  refine own_go (fun _ k => XS.iloadN X0.here hx rfl (hb hby at_21) rfl k) ?_
  show own_Go _ _ _ _ s₁ (mkF m 22 #[.val (.int p1), .val (.int p2), .val (.int p3), .val (.int p4), .val (.int p5), .val (.int nn), .val (.int st), .unset, .unset, .unset, .unset, .unset, .unset, .unset, .unset] [(.int p2)])
  obtain ⟨v24, T24, h24, L24, X24, e24, hQ24, st24⟩ := own_callS X0 hx hZ hown (hw _ (List.mem_of_getElem? (i := 0) rfl)) (hw _ (List.mem_of_getElem? (i := 1) rfl)) (hw _ (List.mem_of_getElem? (i := 2) rfl)) (hw _ (List.mem_of_getElem? (i := 3) rfl)) (by decide) e0 (argsL := [(.int p2)]) (rest := []) (rm1 l Z a0 hw [] p2 h0 n0 Z0) 0 (by decide) (by decide) (by decide) (by decide) (g := (mkF m 22 #[.val (.int p1), .val (.int p2), .val (.int p3), .val (.int p4), .val (.int p5), .val (.int nn), .val (.int st), .unset, .unset, .unset, .unset, .unset, .unset, .unset, .unset] [(.int p2)])) rfl (by rw [hml]; rfl) (lenOf pd0 rfl) rfl (Nat.le_of_eq rfl) (hb hby at_22)
  obtain ⟨y24, rfl, hy24, N24q, rfl⟩ := hQ24
  refine own_go (st24) ?_
  have N24 := Fr.app N0 N24q
  show own_Go _ _ _ _ T24 (mkF m 25 #[.val (.int p1), .val (.int p2), .val (.int p3), .val (.int p4), .val (.int p5), .val (.int nn), .val (.int st), .unset, .unset, .unset, .unset, .unset, .unset, .unset, .unset] [(.int y24)])
  refine own_go (fun _ k => XS.istore X24.here hx rfl (hb hby at_25) rfl (l' := #[.val (.int p1), .val (.int p2), .val (.int p3), .val (.int p4), .val (.int p5), .val (.int nn), .val (.int st), .val (.int y24), .unset, .unset, .unset, .unset, .unset, .unset, .unset]) rfl k) ?_
  show own_Go _ _ _ _ T24 (mkF m 27 #[.val (.int p1), .val (.int p2), .val (.int p3), .val (.int p4), .val (.int p5), .val (.int nn), .val (.int st), .val (.int y24), .unset, .unset, .unset, .unset, .unset, .unset, .unset] [])
  refine own_go (fun _ k => XS.iloadN X24.here hx rfl (hb hby at_27) rfl k) ?_
  show own_Go _ _ _ _ T24 (mkF m 28 #[.val (.int p1), .val (.int p2), .val (.int p3), .val (.int p4), .val (.int p5), .val (.int nn), .val (.int st), .val (.int y24), .unset, .unset, .unset, .unset, .unset, .unset, .unset] [(.int p3)])
  obtain ⟨v25, T25, h25, L25, X25, e25, hQ25, st25⟩ := own_callS X24 hx hZ hown (hw _ (List.mem_of_getElem? (i := 0) rfl)) (hw _ (List.mem_of_getElem? (i := 1) rfl)) (hw _ (List.mem_of_getElem? (i := 2) rfl)) (hw _ (List.mem_of_getElem? (i := 3) rfl)) (by decide) e24 (argsL := [(.int p3)]) (rest := []) (rm1 l Z a0 hw [] p3 h0 n0 Z0) 0 (by decide) (by decide) (by decide) (by decide) (g := (mkF m 28 #[.val (.int p1), .val (.int p2), .val (.int p3), .val (.int p4), .val (.int p5), .val (.int nn), .val (.int st), .val (.int y24), .unset, .unset, .unset, .unset, .unset, .unset, .unset] [(.int p3)])) rfl (by rw [hml]; rfl) (lenOf pd0 rfl) rfl (Nat.le_of_eq rfl) (hb hby at_28)
  obtain ⟨y25, rfl, hy25, N25q, rfl⟩ := hQ25
  refine own_go (st25) ?_
  have N25 := Fr.app N24 N25q
  show own_Go _ _ _ _ T25 (mkF m 31 #[.val (.int p1), .val (.int p2), .val (.int p3), .val (.int p4), .val (.int p5), .val (.int nn), .val (.int st), .val (.int y24), .unset, .unset, .unset, .unset, .unset, .unset, .unset] [(.int y25)])
  refine own_go (fun _ k => XS.istore X25.here hx rfl (hb hby at_31) rfl (l' := #[.val (.int p1), .val (.int p2), .val (.int p3), .val (.int p4), .val (.int p5), .val (.int nn), .val (.int st), .val (.int y24), .val (.int y25), .unset, .unset, .unset, .unset, .unset, .unset]) rfl k) ?_
  show own_Go _ _ _ _ T25 (mkF m 33 #[.val (.int p1), .val (.int p2), .val (.int p3), .val (.int p4), .val (.int p5), .val (.int nn), .val (.int st), .val (.int y24), .val (.int y25), .unset, .unset, .unset, .unset, .unset, .unset] [])
  refine own_go (fun _ k => XS.iloadN X25.here hx rfl (hb hby at_33) rfl k) ?_
  show own_Go _ _ _ _ T25 (mkF m 34 #[.val (.int p1), .val (.int p2), .val (.int p3), .val (.int p4), .val (.int p5), .val (.int nn), .val (.int st), .val (.int y24), .val (.int y25), .unset, .unset, .unset, .unset, .unset, .unset] [(.int p4)])
  obtain ⟨v26, T26, h26, L26, X26, e26, hQ26, st26⟩ := own_callS X25 hx hZ hown (hw _ (List.mem_of_getElem? (i := 0) rfl)) (hw _ (List.mem_of_getElem? (i := 1) rfl)) (hw _ (List.mem_of_getElem? (i := 2) rfl)) (hw _ (List.mem_of_getElem? (i := 3) rfl)) (by decide) e25 (argsL := [(.int p4)]) (rest := []) (rm1 l Z a0 hw [] p4 h0 n0 Z0) 0 (by decide) (by decide) (by decide) (by decide) (g := (mkF m 34 #[.val (.int p1), .val (.int p2), .val (.int p3), .val (.int p4), .val (.int p5), .val (.int nn), .val (.int st), .val (.int y24), .val (.int y25), .unset, .unset, .unset, .unset, .unset, .unset] [(.int p4)])) rfl (by rw [hml]; rfl) (lenOf pd0 rfl) rfl (Nat.le_of_eq rfl) (hb hby at_34)
  obtain ⟨y26, rfl, hy26, N26q, rfl⟩ := hQ26
  refine own_go (st26) ?_
  have N26 := Fr.app N25 N26q
  show own_Go _ _ _ _ T26 (mkF m 37 #[.val (.int p1), .val (.int p2), .val (.int p3), .val (.int p4), .val (.int p5), .val (.int nn), .val (.int st), .val (.int y24), .val (.int y25), .unset, .unset, .unset, .unset, .unset, .unset] [(.int y26)])
  refine own_go (fun _ k => XS.istore X26.here hx rfl (hb hby at_37) rfl (l' := #[.val (.int p1), .val (.int p2), .val (.int p3), .val (.int p4), .val (.int p5), .val (.int nn), .val (.int st), .val (.int y24), .val (.int y25), .val (.int y26), .unset, .unset, .unset, .unset, .unset]) rfl k) ?_
  show own_Go _ _ _ _ T26 (mkF m 39 #[.val (.int p1), .val (.int p2), .val (.int p3), .val (.int p4), .val (.int p5), .val (.int nn), .val (.int st), .val (.int y24), .val (.int y25), .val (.int y26), .unset, .unset, .unset, .unset, .unset] [])
  refine own_go (fun _ k => XS.iload X26.here hx rfl (hb hby at_39) rfl k) ?_
  show own_Go _ _ _ _ T26 (mkF m 41 #[.val (.int p1), .val (.int p2), .val (.int p3), .val (.int p4), .val (.int p5), .val (.int nn), .val (.int st), .val (.int y24), .val (.int y25), .val (.int y26), .unset, .unset, .unset, .unset, .unset] [(.int p5)])
  obtain ⟨v27, T27, h27, L27, X27, e27, hQ27, st27⟩ := own_callS X26 hx hZ hown (hw _ (List.mem_of_getElem? (i := 0) rfl)) (hw _ (List.mem_of_getElem? (i := 1) rfl)) (hw _ (List.mem_of_getElem? (i := 2) rfl)) (hw _ (List.mem_of_getElem? (i := 3) rfl)) (by decide) e26 (argsL := [(.int p5)]) (rest := []) (rm1 l Z a0 hw [] p5 h0 n0 Z0) 0 (by decide) (by decide) (by decide) (by decide) (g := (mkF m 41 #[.val (.int p1), .val (.int p2), .val (.int p3), .val (.int p4), .val (.int p5), .val (.int nn), .val (.int st), .val (.int y24), .val (.int y25), .val (.int y26), .unset, .unset, .unset, .unset, .unset] [(.int p5)])) rfl (by rw [hml]; rfl) (lenOf pd0 rfl) rfl (Nat.le_of_eq rfl) (hb hby at_41)
  obtain ⟨y27, rfl, hy27, N27q, rfl⟩ := hQ27
  refine own_go (st27) ?_
  have N27 := Fr.app N26 N27q
  show own_Go _ _ _ _ T27 (mkF m 44 #[.val (.int p1), .val (.int p2), .val (.int p3), .val (.int p4), .val (.int p5), .val (.int nn), .val (.int st), .val (.int y24), .val (.int y25), .val (.int y26), .unset, .unset, .unset, .unset, .unset] [(.int y27)])
  refine own_go (fun _ k => XS.istore X27.here hx rfl (hb hby at_44) rfl (l' := #[.val (.int p1), .val (.int p2), .val (.int p3), .val (.int p4), .val (.int p5), .val (.int nn), .val (.int st), .val (.int y24), .val (.int y25), .val (.int y26), .val (.int y27), .unset, .unset, .unset, .unset]) rfl k) ?_
  show own_Go _ _ _ _ T27 (mkF m 46 #[.val (.int p1), .val (.int p2), .val (.int p3), .val (.int p4), .val (.int p5), .val (.int nn), .val (.int st), .val (.int y24), .val (.int y25), .val (.int y26), .val (.int y27), .unset, .unset, .unset, .unset] [])
  refine own_go (fun _ k => XS.iload X27.here hx rfl (hb hby at_46) rfl k) ?_
  show own_Go _ _ _ _ T27 (mkF m 48 #[.val (.int p1), .val (.int p2), .val (.int p3), .val (.int p4), .val (.int p5), .val (.int nn), .val (.int st), .val (.int y24), .val (.int y25), .val (.int y26), .val (.int y27), .unset, .unset, .unset, .unset] [(.int nn)])
  refine own_go (fun _ k => XS.iload X27.here hx rfl (hb hby at_48) rfl k) ?_
  show own_Go _ _ _ _ T27 (mkF m 50 #[.val (.int p1), .val (.int p2), .val (.int p3), .val (.int p4), .val (.int p5), .val (.int nn), .val (.int st), .val (.int y24), .val (.int y25), .val (.int y26), .val (.int y27), .unset, .unset, .unset, .unset] [(.int y24), (.int nn)])
  refine own_go (fun _ k => XS.iload X27.here hx rfl (hb hby at_50) rfl k) ?_
  show own_Go _ _ _ _ T27 (mkF m 52 #[.val (.int p1), .val (.int p2), .val (.int p3), .val (.int p4), .val (.int p5), .val (.int nn), .val (.int st), .val (.int y24), .val (.int y25), .val (.int y26), .val (.int y27), .unset, .unset, .unset, .unset] [(.int y25), (.int y24), (.int nn)])
  refine own_go (fun _ k => XS.iload X27.here hx rfl (hb hby at_52) rfl k) ?_
  show own_Go _ _ _ _ T27 (mkF m 54 #[.val (.int p1), .val (.int p2), .val (.int p3), .val (.int p4), .val (.int p5), .val (.int nn), .val (.int st), .val (.int y24), .val (.int y25), .val (.int y26), .val (.int y27), .unset, .unset, .unset, .unset] [(.int y26), (.int y25), (.int y24), (.int nn)])
  refine own_go (fun _ k => XS.iload X27.here hx rfl (hb hby at_54) rfl k) ?_
  show own_Go _ _ _ _ T27 (mkF m 56 #[.val (.int p1), .val (.int p2), .val (.int p3), .val (.int p4), .val (.int p5), .val (.int nn), .val (.int st), .val (.int y24), .val (.int y25), .val (.int y26), .val (.int y27), .unset, .unset, .unset, .unset] [(.int y27), (.int y26), (.int y25), (.int y24), (.int nn)])
  obtain ⟨v28, T28, h28, L28, X28, e28, hQ28, st28⟩ := own_callS X27 hx hZ hown (hw _ (List.mem_of_getElem? (i := 4) rfl)) (hw _ (List.mem_of_getElem? (i := 5) rfl)) (hw _ (List.mem_of_getElem? (i := 2) rfl)) (hw _ (List.mem_of_getElem? (i := 6) rfl)) (by decide) e27 (argsL := [(.int nn), (.int y24), (.int y25), (.int y26), (.int y27)]) (rest := []) (rm2 l Z a0 hw [] nn y24 y25 y26 y27 h0 n0 Z0 (own_four hn)) 0 (by decide) (by decide) (by decide) (by decide) (g := (mkF m 56 #[.val (.int p1), .val (.int p2), .val (.int p3), .val (.int p4), .val (.int p5), .val (.int nn), .val (.int st), .val (.int y24), .val (.int y25), .val (.int y26), .val (.int y27), .unset, .unset, .unset, .unset] [(.int y27), (.int y26), (.int y25), (.int y24), (.int nn)])) rfl (by rw [hml]; rfl) (lenOf pd1 rfl) rfl (Nat.le_of_eq rfl) (hb hby at_56)
  obtain ⟨b28, kk28, rfl, N28q, K28, V28⟩ := hQ28
  refine own_go (st28) ?_
  have N28 := Fr.app N27 N28q
  rw [hy24, hy25, hy26, hy27] at V28
  have hf := own_bs_at (b0 := y24) (b1 := y25) (b2 := y26) (b3 := y27) hn
  show own_Go _ _ _ _ T28 (mkF m 59 #[.val (.int p1), .val (.int p2), .val (.int p3), .val (.int p4), .val (.int p5), .val (.int nn), .val (.int st), .val (.int y24), .val (.int y25), .val (.int y26), .val (.int y27), .unset, .unset, .unset, .unset] [(.ref b28)])
  refine own_go (fun _ k => XS.astore X28.here hx rfl (hb hby at_59) rfl rfl (l' := #[.val (.int p1), .val (.int p2), .val (.int p3), .val (.int p4), .val (.int p5), .val (.int nn), .val (.int st), .val (.int y24), .val (.int y25), .val (.int y26), .val (.int y27), .val (.ref b28), .unset, .unset, .unset]) rfl k) ?_
  show own_Go _ _ _ _ T28 (mkF m 61 #[.val (.int p1), .val (.int p2), .val (.int p3), .val (.int p4), .val (.int p5), .val (.int nn), .val (.int st), .val (.int y24), .val (.int y25), .val (.int y26), .val (.int y27), .val (.ref b28), .unset, .unset, .unset] [])
  refine own_go (fun _ k => XS.iload X28.here hx rfl (hb hby at_61) rfl k) ?_
  show own_Go _ _ _ _ T28 (mkF m 63 #[.val (.int p1), .val (.int p2), .val (.int p3), .val (.int p4), .val (.int p5), .val (.int nn), .val (.int st), .val (.int y24), .val (.int y25), .val (.int y26), .val (.int y27), .val (.ref b28), .unset, .unset, .unset] [(.int nn)])
  refine own_go (fun _ k => XS.istore X28.here hx rfl (hb hby at_63) rfl (l' := #[.val (.int p1), .val (.int p2), .val (.int p3), .val (.int p4), .val (.int p5), .val (.int nn), .val (.int st), .val (.int y24), .val (.int y25), .val (.int y26), .val (.int y27), .val (.ref b28), .val (.int nn), .unset, .unset]) rfl k) ?_
  have k0 : own_Go p.tables e below (own_P below s (fun v h L => v = some (.int 1) ∧ Fr n0 L) room_1.cells room_1.slots) T28 (mkF m 153 #[.val (.int p1), .val (.int p2), .val (.int p3), .val (.int p4), .val (.int p5), .val (.int nn), .val (.int st), .val (.int y24), .val (.int y25), .val (.int y26), .val (.int y27), .val (.ref b28), .val (.int (own_e (0 : Int32) nn st y24 (own_e (1 : Int32) nn st y25 (own_e (2 : Int32) nn st y26 (own_e (3 : Int32) nn st y27 nn))))), .unset, .unset] []) := by
    show own_Go _ _ _ _ T28 (mkF m 153 #[.val (.int p1), .val (.int p2), .val (.int p3), .val (.int p4), .val (.int p5), .val (.int nn), .val (.int st), .val (.int y24), .val (.int y25), .val (.int y26), .val (.int y27), .val (.ref b28), .val (.int (own_e (0 : Int32) nn st y24 (own_e (1 : Int32) nn st y25 (own_e (2 : Int32) nn st y26 (own_e (3 : Int32) nn st y27 nn))))), .unset, .unset] [])
    refine own_go (fun _ k => XS.aload X28.here hx rfl (hb hby at_153) rfl rfl k) ?_
    show own_Go _ _ _ _ T28 (mkF m 155 #[.val (.int p1), .val (.int p2), .val (.int p3), .val (.int p4), .val (.int p5), .val (.int nn), .val (.int st), .val (.int y24), .val (.int y25), .val (.int y26), .val (.int y27), .val (.ref b28), .val (.int (own_e (0 : Int32) nn st y24 (own_e (1 : Int32) nn st y25 (own_e (2 : Int32) nn st y26 (own_e (3 : Int32) nn st y27 nn))))), .unset, .unset] [(.ref b28)])
    refine own_go (fun _ k => XS.iload X28.here hx rfl (hb hby at_155) rfl k) ?_
    show own_Go _ _ _ _ T28 (mkF m 157 #[.val (.int p1), .val (.int p2), .val (.int p3), .val (.int p4), .val (.int p5), .val (.int nn), .val (.int st), .val (.int y24), .val (.int y25), .val (.int y26), .val (.int y27), .val (.ref b28), .val (.int (own_e (0 : Int32) nn st y24 (own_e (1 : Int32) nn st y25 (own_e (2 : Int32) nn st y26 (own_e (3 : Int32) nn st y27 nn))))), .unset, .unset] [(.int st), (.ref b28)])
    have f29 := (Nat.le_trans Z0 K28.1)
    obtain ⟨v30, T30, h30, L30, X30, e30, hQ30, st30⟩ := own_callS X28 hx hZ hown (hw _ (List.mem_of_getElem? (i := 8) rfl)) (hw _ (List.mem_of_getElem? (i := 9) rfl)) (hw _ (List.mem_of_getElem? (i := 10) rfl)) (hw _ (List.mem_of_getElem? (i := 11) rfl)) (by decide) e28 (argsL := [(.ref b28), (.int st)]) (rest := []) (rm3 l Z a0 hw [] b28 st kk28 nn _ _ (own_at y24 y25 y26 y27) h28 n0 f29 V28 hf hs.1 hs.2) 0 (by decide) (by decide) (by decide) (by decide) (g := (mkF m 157 #[.val (.int p1), .val (.int p2), .val (.int p3), .val (.int p4), .val (.int p5), .val (.int nn), .val (.int st), .val (.int y24), .val (.int y25), .val (.int y26), .val (.int y27), .val (.ref b28), .val (.int (own_e (0 : Int32) nn st y24 (own_e (1 : Int32) nn st y25 (own_e (2 : Int32) nn st y26 (own_e (3 : Int32) nn st y27 nn))))), .unset, .unset] [(.int st), (.ref b28)])) rfl (by rw [hml]; rfl) (lenOf pd2 rfl) rfl (Nat.le_of_eq rfl) (hb hby at_157)
    obtain ⟨r30, rfl, hr30, N30q, rfl⟩ := hQ30
    refine own_go (st30) ?_
    have N30 := Fr.app N28 N30q
    show own_Go _ _ _ _ T30 (mkF m 160 #[.val (.int p1), .val (.int p2), .val (.int p3), .val (.int p4), .val (.int p5), .val (.int nn), .val (.int st), .val (.int y24), .val (.int y25), .val (.int y26), .val (.int y27), .val (.ref b28), .val (.int (own_e (0 : Int32) nn st y24 (own_e (1 : Int32) nn st y25 (own_e (2 : Int32) nn st y26 (own_e (3 : Int32) nn st y27 nn))))), .unset, .unset] [(.int r30)])
    refine own_go (fun _ k => XS.istore X30.here hx rfl (hb hby at_160) rfl (l' := #[.val (.int p1), .val (.int p2), .val (.int p3), .val (.int p4), .val (.int p5), .val (.int nn), .val (.int st), .val (.int y24), .val (.int y25), .val (.int y26), .val (.int y27), .val (.ref b28), .val (.int (own_e (0 : Int32) nn st y24 (own_e (1 : Int32) nn st y25 (own_e (2 : Int32) nn st y26 (own_e (3 : Int32) nn st y27 nn))))), .val (.int r30), .unset]) rfl k) ?_
    show own_Go _ _ _ _ T30 (mkF m 162 #[.val (.int p1), .val (.int p2), .val (.int p3), .val (.int p4), .val (.int p5), .val (.int nn), .val (.int st), .val (.int y24), .val (.int y25), .val (.int y26), .val (.int y27), .val (.ref b28), .val (.int (own_e (0 : Int32) nn st y24 (own_e (1 : Int32) nn st y25 (own_e (2 : Int32) nn st y26 (own_e (3 : Int32) nn st y27 nn))))), .val (.int r30), .unset] [])
    refine own_go (fun _ k => XS.aload X30.here hx rfl (hb hby at_162) rfl rfl k) ?_
    show own_Go _ _ _ _ T30 (mkF m 164 #[.val (.int p1), .val (.int p2), .val (.int p3), .val (.int p4), .val (.int p5), .val (.int nn), .val (.int st), .val (.int y24), .val (.int y25), .val (.int y26), .val (.int y27), .val (.ref b28), .val (.int (own_e (0 : Int32) nn st y24 (own_e (1 : Int32) nn st y25 (own_e (2 : Int32) nn st y26 (own_e (3 : Int32) nn st y27 nn))))), .val (.int r30), .unset] [(.ref b28)])
    obtain ⟨cl31, Ar31, q31, S31, M31, H31, G31⟩ := V28
    have V31 : Arv Z h28 b28 kk28 .byte nn _ _ := ⟨cl31, Ar31, q31, S31, M31, H31, G31⟩
    refine own_go (fun t k => X30.arraylength hx (by rw [e30]; exact Ar31.1) (State.isArrayOf_alike hZ.alike Ar31.2.1) (g := (mkF m 164 #[.val (.int p1), .val (.int p2), .val (.int p3), .val (.int p4), .val (.int p5), .val (.int nn), .val (.int st), .val (.int y24), .val (.int y25), .val (.int y26), .val (.int y27), .val (.ref b28), .val (.int (own_e (0 : Int32) nn st y24 (own_e (1 : Int32) nn st y25 (own_e (2 : Int32) nn st y26 (own_e (3 : Int32) nn st y27 nn))))), .val (.int r30), .unset] [(.ref b28)])) rfl rfl (hb hby at_164) t k) ?_
    rw [len_of S31 M31]
    show own_Go _ _ _ _ T30 (mkF m 165 #[.val (.int p1), .val (.int p2), .val (.int p3), .val (.int p4), .val (.int p5), .val (.int nn), .val (.int st), .val (.int y24), .val (.int y25), .val (.int y26), .val (.int y27), .val (.ref b28), .val (.int (own_e (0 : Int32) nn st y24 (own_e (1 : Int32) nn st y25 (own_e (2 : Int32) nn st y26 (own_e (3 : Int32) nn st y27 nn))))), .val (.int r30), .unset] [(.int nn)])
    refine own_go (fun _ k => XS.iload X30.here hx rfl (hb hby at_165) rfl k) ?_
    show own_Go _ _ _ _ T30 (mkF m 167 #[.val (.int p1), .val (.int p2), .val (.int p3), .val (.int p4), .val (.int p5), .val (.int nn), .val (.int st), .val (.int y24), .val (.int y25), .val (.int y26), .val (.int y27), .val (.ref b28), .val (.int (own_e (0 : Int32) nn st y24 (own_e (1 : Int32) nn st y25 (own_e (2 : Int32) nn st y26 (own_e (3 : Int32) nn st y27 nn))))), .val (.int r30), .unset] [(.int nn), (.int nn)])
    refine own_go (fun _ k => XS.icmpNo X30.here hx rfl (hb hby at_167) rfl (teq rfl).2 k) ?_
    have m4 : own_Go p.tables e below (own_P below s (fun v h L => v = some (.int 1) ∧ Fr n0 L) room_1.cells room_1.slots) T30 (mkF m 230 #[.val (.int p1), .val (.int p2), .val (.int p3), .val (.int p4), .val (.int p5), .val (.int nn), .val (.int st), .val (.int y24), .val (.int y25), .val (.int y26), .val (.int y27), .val (.ref b28), .val (.int (own_e (0 : Int32) nn st y24 (own_e (1 : Int32) nn st y25 (own_e (2 : Int32) nn st y26 (own_e (3 : Int32) nn st y27 nn))))), .val (.int r30), .unset] []) := by
      show own_Go _ _ _ _ T30 (mkF m 230 #[.val (.int p1), .val (.int p2), .val (.int p3), .val (.int p4), .val (.int p5), .val (.int nn), .val (.int st), .val (.int y24), .val (.int y25), .val (.int y26), .val (.int y27), .val (.ref b28), .val (.int (own_e (0 : Int32) nn st y24 (own_e (1 : Int32) nn st y25 (own_e (2 : Int32) nn st y26 (own_e (3 : Int32) nn st y27 nn))))), .val (.int r30), .unset] [])
      refine own_go (fun _ k => XS.iconst X30.here hx rfl (hb hby at_230) k) ?_
      show own_Go _ _ _ _ T30 (mkF m 231 #[.val (.int p1), .val (.int p2), .val (.int p3), .val (.int p4), .val (.int p5), .val (.int nn), .val (.int st), .val (.int y24), .val (.int y25), .val (.int y26), .val (.int y27), .val (.ref b28), .val (.int (own_e (0 : Int32) nn st y24 (own_e (1 : Int32) nn st y25 (own_e (2 : Int32) nn st y26 (own_e (3 : Int32) nn st y27 nn))))), .val (.int r30), .unset] [(.int (1 : Int32))])
      refine own_go (fun _ k => XS.goto X30.here hx rfl (pc0 := 231) (pc' := 235) rfl (hb hby at_231) (by decide) (by decide) k) ?_
      show own_Go _ _ _ _ T30 (mkF m 235 #[.val (.int p1), .val (.int p2), .val (.int p3), .val (.int p4), .val (.int p5), .val (.int nn), .val (.int st), .val (.int y24), .val (.int y25), .val (.int y26), .val (.int y27), .val (.ref b28), .val (.int (own_e (0 : Int32) nn st y24 (own_e (1 : Int32) nn st y25 (own_e (2 : Int32) nn st y26 (own_e (3 : Int32) nn st y27 nn))))), .val (.int r30), .unset] [(.int (1 : Int32))])
      refine own_go (fun _ k => XS.istore X30.here hx rfl (hb hby at_235) rfl (l' := #[.val (.int p1), .val (.int p2), .val (.int p3), .val (.int p4), .val (.int p5), .val (.int nn), .val (.int st), .val (.int y24), .val (.int y25), .val (.int y26), .val (.int y27), .val (.ref b28), .val (.int (own_e (0 : Int32) nn st y24 (own_e (1 : Int32) nn st y25 (own_e (2 : Int32) nn st y26 (own_e (3 : Int32) nn st y27 nn))))), .val (.int r30), .val (.int (1 : Int32))]) rfl k) ?_
      show own_Go _ _ _ _ T30 (mkF m 237 #[.val (.int p1), .val (.int p2), .val (.int p3), .val (.int p4), .val (.int p5), .val (.int nn), .val (.int st), .val (.int y24), .val (.int y25), .val (.int y26), .val (.int y27), .val (.ref b28), .val (.int (own_e (0 : Int32) nn st y24 (own_e (1 : Int32) nn st y25 (own_e (2 : Int32) nn st y26 (own_e (3 : Int32) nn st y27 nn))))), .val (.int r30), .val (.int (1 : Int32))] [])
      refine own_go (fun _ k => XS.iload X30.here hx rfl (hb hby at_237) rfl k) ?_
      show own_Go _ _ _ _ T30 (mkF m 239 #[.val (.int p1), .val (.int p2), .val (.int p3), .val (.int p4), .val (.int p5), .val (.int nn), .val (.int st), .val (.int y24), .val (.int y25), .val (.int y26), .val (.int y27), .val (.ref b28), .val (.int (own_e (0 : Int32) nn st y24 (own_e (1 : Int32) nn st y25 (own_e (2 : Int32) nn st y26 (own_e (3 : Int32) nn st y27 nn))))), .val (.int r30), .val (.int (1 : Int32))] [(.int r30)])
      refine own_go (fun _ k => XS.iload X30.here hx rfl (hb hby at_239) rfl k) ?_
      show own_Go _ _ _ _ T30 (mkF m 241 #[.val (.int p1), .val (.int p2), .val (.int p3), .val (.int p4), .val (.int p5), .val (.int nn), .val (.int st), .val (.int y24), .val (.int y25), .val (.int y26), .val (.int y27), .val (.ref b28), .val (.int (own_e (0 : Int32) nn st y24 (own_e (1 : Int32) nn st y25 (own_e (2 : Int32) nn st y26 (own_e (3 : Int32) nn st y27 nn))))), .val (.int r30), .val (.int (1 : Int32))] [(.int (own_e (0 : Int32) nn st y24 (own_e (1 : Int32) nn st y25 (own_e (2 : Int32) nn st y26 (own_e (3 : Int32) nn st y27 nn))))), (.int r30)])
      refine own_go (fun _ k => XS.icmpNo X30.here hx rfl (hb hby at_241) rfl (teq (own_fin hn hs hr30)).2 k) ?_
      show own_Go _ _ _ _ T30 (mkF m 244 #[.val (.int p1), .val (.int p2), .val (.int p3), .val (.int p4), .val (.int p5), .val (.int nn), .val (.int st), .val (.int y24), .val (.int y25), .val (.int y26), .val (.int y27), .val (.ref b28), .val (.int (own_e (0 : Int32) nn st y24 (own_e (1 : Int32) nn st y25 (own_e (2 : Int32) nn st y26 (own_e (3 : Int32) nn st y27 nn))))), .val (.int r30), .val (.int (1 : Int32))] [])
      refine own_go (fun _ k => XS.iload X30.here hx rfl (hb hby at_244) rfl k) ?_
      show own_Go _ _ _ _ T30 (mkF m 246 #[.val (.int p1), .val (.int p2), .val (.int p3), .val (.int p4), .val (.int p5), .val (.int nn), .val (.int st), .val (.int y24), .val (.int y25), .val (.int y26), .val (.int y27), .val (.ref b28), .val (.int (own_e (0 : Int32) nn st y24 (own_e (1 : Int32) nn st y25 (own_e (2 : Int32) nn st y26 (own_e (3 : Int32) nn st y27 nn))))), .val (.int r30), .val (.int (1 : Int32))] [(.int (1 : Int32))])
      refine own_go (fun _ k => XS.ifNo X30.here hx rfl (hb hby at_246) rfl ((if0 _ _).trans (feq (by decide)).1) k) ?_
      show own_Go _ _ _ _ T30 (mkF m 249 #[.val (.int p1), .val (.int p2), .val (.int p3), .val (.int p4), .val (.int p5), .val (.int nn), .val (.int st), .val (.int y24), .val (.int y25), .val (.int y26), .val (.int y27), .val (.ref b28), .val (.int (own_e (0 : Int32) nn st y24 (own_e (1 : Int32) nn st y25 (own_e (2 : Int32) nn st y26 (own_e (3 : Int32) nn st y27 nn))))), .val (.int r30), .val (.int (1 : Int32))] [])
      refine own_go (fun _ k => XS.iconst X30.here hx rfl (hb hby at_249) k) ?_
      show own_Go _ _ _ _ T30 (mkF m 250 #[.val (.int p1), .val (.int p2), .val (.int p3), .val (.int p4), .val (.int p5), .val (.int nn), .val (.int st), .val (.int y24), .val (.int y25), .val (.int y26), .val (.int y27), .val (.ref b28), .val (.int (own_e (0 : Int32) nn st y24 (own_e (1 : Int32) nn st y25 (own_e (2 : Int32) nn st y26 (own_e (3 : Int32) nn st y27 nn))))), .val (.int r30), .val (.int (1 : Int32))] [(.int (1 : Int32))])
      refine own_go (fun _ k => XS.goto X30.here hx rfl (pc0 := 250) (pc' := 254) rfl (hb hby at_250) (by decide) (by decide) k) ?_
      show own_Go _ _ _ _ T30 (mkF m 254 #[.val (.int p1), .val (.int p2), .val (.int p3), .val (.int p4), .val (.int p5), .val (.int nn), .val (.int st), .val (.int y24), .val (.int y25), .val (.int y26), .val (.int y27), .val (.ref b28), .val (.int (own_e (0 : Int32) nn st y24 (own_e (1 : Int32) nn st y25 (own_e (2 : Int32) nn st y26 (own_e (3 : Int32) nn st y27 nn))))), .val (.int r30), .val (.int (1 : Int32))] [(.int (1 : Int32))])
      exact own_retN X30 hx hret (by simp) hlk (hb hby at_254) (by decide) (by decide) (by first | exact ⟨rfl, N30⟩ | (rw [e30]; exact ⟨rfl, N30⟩))
    have m3 : own_Go p.tables e below (own_P below s (fun v h L => v = some (.int 1) ∧ Fr n0 L) room_1.cells room_1.slots) T30 (mkF m 215 #[.val (.int p1), .val (.int p2), .val (.int p3), .val (.int p4), .val (.int p5), .val (.int nn), .val (.int st), .val (.int y24), .val (.int y25), .val (.int y26), .val (.int y27), .val (.ref b28), .val (.int (own_e (0 : Int32) nn st y24 (own_e (1 : Int32) nn st y25 (own_e (2 : Int32) nn st y26 (own_e (3 : Int32) nn st y27 nn))))), .val (.int r30), .unset] []) := by
      show own_Go _ _ _ _ T30 (mkF m 215 #[.val (.int p1), .val (.int p2), .val (.int p3), .val (.int p4), .val (.int p5), .val (.int nn), .val (.int st), .val (.int y24), .val (.int y25), .val (.int y26), .val (.int y27), .val (.ref b28), .val (.int (own_e (0 : Int32) nn st y24 (own_e (1 : Int32) nn st y25 (own_e (2 : Int32) nn st y26 (own_e (3 : Int32) nn st y27 nn))))), .val (.int r30), .unset] [])
      refine own_go (fun _ k => XS.iload X30.here hx rfl (hb hby at_215) rfl k) ?_
      show own_Go _ _ _ _ T30 (mkF m 217 #[.val (.int p1), .val (.int p2), .val (.int p3), .val (.int p4), .val (.int p5), .val (.int nn), .val (.int st), .val (.int y24), .val (.int y25), .val (.int y26), .val (.int y27), .val (.ref b28), .val (.int (own_e (0 : Int32) nn st y24 (own_e (1 : Int32) nn st y25 (own_e (2 : Int32) nn st y26 (own_e (3 : Int32) nn st y27 nn))))), .val (.int r30), .unset] [(.int nn)])
      refine own_go (fun _ k => XS.iconst X30.here hx rfl (hb hby at_217) k) ?_
      show own_Go _ _ _ _ T30 (mkF m 218 #[.val (.int p1), .val (.int p2), .val (.int p3), .val (.int p4), .val (.int p5), .val (.int nn), .val (.int st), .val (.int y24), .val (.int y25), .val (.int y26), .val (.int y27), .val (.ref b28), .val (.int (own_e (0 : Int32) nn st y24 (own_e (1 : Int32) nn st y25 (own_e (2 : Int32) nn st y26 (own_e (3 : Int32) nn st y27 nn))))), .val (.int r30), .unset] [(.int (4 : Int32)), (.int nn)])
      by_cases hq : nn < (4 : Int32)
      · skip
        refine own_go (fun _ k => XS.icmpYes X30.here hx rfl (pc0 := 218) (pc' := 230) rfl (hb hby at_218) rfl (tlt hq).1 (by decide) (by decide) k) ?_
        exact m4
      · skip
        refine own_go (fun _ k => XS.icmpNo X30.here hx rfl (hb hby at_218) rfl (flt hq).1 k) ?_
        have hk : (3 : Int) < nn.toInt := own_gt hq (by decide)
        show own_Go _ _ _ _ T30 (mkF m 221 #[.val (.int p1), .val (.int p2), .val (.int p3), .val (.int p4), .val (.int p5), .val (.int nn), .val (.int st), .val (.int y24), .val (.int y25), .val (.int y26), .val (.int y27), .val (.ref b28), .val (.int (own_e (0 : Int32) nn st y24 (own_e (1 : Int32) nn st y25 (own_e (2 : Int32) nn st y26 (own_e (3 : Int32) nn st y27 nn))))), .val (.int r30), .unset] [])
        refine own_go (fun _ k => XS.aload X30.here hx rfl (hb hby at_221) rfl rfl k) ?_
        show own_Go _ _ _ _ T30 (mkF m 223 #[.val (.int p1), .val (.int p2), .val (.int p3), .val (.int p4), .val (.int p5), .val (.int nn), .val (.int st), .val (.int y24), .val (.int y25), .val (.int y26), .val (.int y27), .val (.ref b28), .val (.int (own_e (0 : Int32) nn st y24 (own_e (1 : Int32) nn st y25 (own_e (2 : Int32) nn st y26 (own_e (3 : Int32) nn st y27 nn))))), .val (.int r30), .unset] [(.ref b28)])
        refine own_go (fun _ k => XS.iconst X30.here hx rfl (hb hby at_223) k) ?_
        show own_Go _ _ _ _ T30 (mkF m 224 #[.val (.int p1), .val (.int p2), .val (.int p3), .val (.int p4), .val (.int p5), .val (.int nn), .val (.int st), .val (.int y24), .val (.int y25), .val (.int y26), .val (.int y27), .val (.ref b28), .val (.int (own_e (0 : Int32) nn st y24 (own_e (1 : Int32) nn st y25 (own_e (2 : Int32) nn st y26 (own_e (3 : Int32) nn st y27 nn))))), .val (.int r30), .unset] [(.int (3 : Int32)), (.ref b28)])
        obtain ⟨cl32, Ar32, q32, S32, M32, H32, G32⟩ := V31
        have V32 : Arv Z h28 b28 kk28 .byte nn _ _ := ⟨cl32, Ar32, q32, S32, M32, H32, G32⟩
        have hin32 : ¬ ((3 : Int32) < 0 ∨ cl32.slots.size ≤ ((3 : Int32)).toNatClampNeg) := inb_of S32 ⟨by decide, own_lt (by show (3 : Int) < _; exact hk)⟩
        have hat32 : cl32.slots[((3 : Int32)).toNatClampNeg]? = some (.int y27) := H32.at hin32 (hf 3 hk)
        refine own_go (X30.baloadBytes hx (j := (3 : Int32)) (v := (.int y27)) (by rw [e30]; exact Ar32.1) (State.isArrayOf_alike hZ.alike Ar32.2.1) Ar32.2.2 hin32 hat32 (g := (mkF m 224 #[.val (.int p1), .val (.int p2), .val (.int p3), .val (.int p4), .val (.int p5), .val (.int nn), .val (.int st), .val (.int y24), .val (.int y25), .val (.int y26), .val (.int y27), .val (.ref b28), .val (.int (own_e (0 : Int32) nn st y24 (own_e (1 : Int32) nn st y25 (own_e (2 : Int32) nn st y26 (own_e (3 : Int32) nn st y27 nn))))), .val (.int r30), .unset] [(.int (3 : Int32)), (.ref b28)])) rfl rfl (hb hby at_224)) ?_
        show own_Go _ _ _ _ T30 (mkF m 225 #[.val (.int p1), .val (.int p2), .val (.int p3), .val (.int p4), .val (.int p5), .val (.int nn), .val (.int st), .val (.int y24), .val (.int y25), .val (.int y26), .val (.int y27), .val (.ref b28), .val (.int (own_e (0 : Int32) nn st y24 (own_e (1 : Int32) nn st y25 (own_e (2 : Int32) nn st y26 (own_e (3 : Int32) nn st y27 nn))))), .val (.int r30), .unset] [(.int y27)])
        refine own_go (fun _ k => XS.iload X30.here hx rfl (hb hby at_225) rfl k) ?_
        show own_Go _ _ _ _ T30 (mkF m 227 #[.val (.int p1), .val (.int p2), .val (.int p3), .val (.int p4), .val (.int p5), .val (.int nn), .val (.int st), .val (.int y24), .val (.int y25), .val (.int y26), .val (.int y27), .val (.ref b28), .val (.int (own_e (0 : Int32) nn st y24 (own_e (1 : Int32) nn st y25 (own_e (2 : Int32) nn st y26 (own_e (3 : Int32) nn st y27 nn))))), .val (.int r30), .unset] [(.int y27), (.int y27)])
        refine own_go (fun _ k => XS.icmpNo X30.here hx rfl (hb hby at_227) rfl (teq rfl).2 k) ?_
        exact m4
    have m2 : own_Go p.tables e below (own_P below s (fun v h L => v = some (.int 1) ∧ Fr n0 L) room_1.cells room_1.slots) T30 (mkF m 200 #[.val (.int p1), .val (.int p2), .val (.int p3), .val (.int p4), .val (.int p5), .val (.int nn), .val (.int st), .val (.int y24), .val (.int y25), .val (.int y26), .val (.int y27), .val (.ref b28), .val (.int (own_e (0 : Int32) nn st y24 (own_e (1 : Int32) nn st y25 (own_e (2 : Int32) nn st y26 (own_e (3 : Int32) nn st y27 nn))))), .val (.int r30), .unset] []) := by
      show own_Go _ _ _ _ T30 (mkF m 200 #[.val (.int p1), .val (.int p2), .val (.int p3), .val (.int p4), .val (.int p5), .val (.int nn), .val (.int st), .val (.int y24), .val (.int y25), .val (.int y26), .val (.int y27), .val (.ref b28), .val (.int (own_e (0 : Int32) nn st y24 (own_e (1 : Int32) nn st y25 (own_e (2 : Int32) nn st y26 (own_e (3 : Int32) nn st y27 nn))))), .val (.int r30), .unset] [])
      refine own_go (fun _ k => XS.iload X30.here hx rfl (hb hby at_200) rfl k) ?_
      show own_Go _ _ _ _ T30 (mkF m 202 #[.val (.int p1), .val (.int p2), .val (.int p3), .val (.int p4), .val (.int p5), .val (.int nn), .val (.int st), .val (.int y24), .val (.int y25), .val (.int y26), .val (.int y27), .val (.ref b28), .val (.int (own_e (0 : Int32) nn st y24 (own_e (1 : Int32) nn st y25 (own_e (2 : Int32) nn st y26 (own_e (3 : Int32) nn st y27 nn))))), .val (.int r30), .unset] [(.int nn)])
      refine own_go (fun _ k => XS.iconst X30.here hx rfl (hb hby at_202) k) ?_
      show own_Go _ _ _ _ T30 (mkF m 203 #[.val (.int p1), .val (.int p2), .val (.int p3), .val (.int p4), .val (.int p5), .val (.int nn), .val (.int st), .val (.int y24), .val (.int y25), .val (.int y26), .val (.int y27), .val (.ref b28), .val (.int (own_e (0 : Int32) nn st y24 (own_e (1 : Int32) nn st y25 (own_e (2 : Int32) nn st y26 (own_e (3 : Int32) nn st y27 nn))))), .val (.int r30), .unset] [(.int (3 : Int32)), (.int nn)])
      by_cases hq : nn < (3 : Int32)
      · skip
        refine own_go (fun _ k => XS.icmpYes X30.here hx rfl (pc0 := 203) (pc' := 215) rfl (hb hby at_203) rfl (tlt hq).1 (by decide) (by decide) k) ?_
        exact m3
      · skip
        refine own_go (fun _ k => XS.icmpNo X30.here hx rfl (hb hby at_203) rfl (flt hq).1 k) ?_
        have hk : (2 : Int) < nn.toInt := own_gt hq (by decide)
        show own_Go _ _ _ _ T30 (mkF m 206 #[.val (.int p1), .val (.int p2), .val (.int p3), .val (.int p4), .val (.int p5), .val (.int nn), .val (.int st), .val (.int y24), .val (.int y25), .val (.int y26), .val (.int y27), .val (.ref b28), .val (.int (own_e (0 : Int32) nn st y24 (own_e (1 : Int32) nn st y25 (own_e (2 : Int32) nn st y26 (own_e (3 : Int32) nn st y27 nn))))), .val (.int r30), .unset] [])
        refine own_go (fun _ k => XS.aload X30.here hx rfl (hb hby at_206) rfl rfl k) ?_
        show own_Go _ _ _ _ T30 (mkF m 208 #[.val (.int p1), .val (.int p2), .val (.int p3), .val (.int p4), .val (.int p5), .val (.int nn), .val (.int st), .val (.int y24), .val (.int y25), .val (.int y26), .val (.int y27), .val (.ref b28), .val (.int (own_e (0 : Int32) nn st y24 (own_e (1 : Int32) nn st y25 (own_e (2 : Int32) nn st y26 (own_e (3 : Int32) nn st y27 nn))))), .val (.int r30), .unset] [(.ref b28)])
        refine own_go (fun _ k => XS.iconst X30.here hx rfl (hb hby at_208) k) ?_
        show own_Go _ _ _ _ T30 (mkF m 209 #[.val (.int p1), .val (.int p2), .val (.int p3), .val (.int p4), .val (.int p5), .val (.int nn), .val (.int st), .val (.int y24), .val (.int y25), .val (.int y26), .val (.int y27), .val (.ref b28), .val (.int (own_e (0 : Int32) nn st y24 (own_e (1 : Int32) nn st y25 (own_e (2 : Int32) nn st y26 (own_e (3 : Int32) nn st y27 nn))))), .val (.int r30), .unset] [(.int (2 : Int32)), (.ref b28)])
        obtain ⟨cl33, Ar33, q33, S33, M33, H33, G33⟩ := V31
        have V33 : Arv Z h28 b28 kk28 .byte nn _ _ := ⟨cl33, Ar33, q33, S33, M33, H33, G33⟩
        have hin33 : ¬ ((2 : Int32) < 0 ∨ cl33.slots.size ≤ ((2 : Int32)).toNatClampNeg) := inb_of S33 ⟨by decide, own_lt (by show (2 : Int) < _; exact hk)⟩
        have hat33 : cl33.slots[((2 : Int32)).toNatClampNeg]? = some (.int y26) := H33.at hin33 (hf 2 hk)
        refine own_go (X30.baloadBytes hx (j := (2 : Int32)) (v := (.int y26)) (by rw [e30]; exact Ar33.1) (State.isArrayOf_alike hZ.alike Ar33.2.1) Ar33.2.2 hin33 hat33 (g := (mkF m 209 #[.val (.int p1), .val (.int p2), .val (.int p3), .val (.int p4), .val (.int p5), .val (.int nn), .val (.int st), .val (.int y24), .val (.int y25), .val (.int y26), .val (.int y27), .val (.ref b28), .val (.int (own_e (0 : Int32) nn st y24 (own_e (1 : Int32) nn st y25 (own_e (2 : Int32) nn st y26 (own_e (3 : Int32) nn st y27 nn))))), .val (.int r30), .unset] [(.int (2 : Int32)), (.ref b28)])) rfl rfl (hb hby at_209)) ?_
        show own_Go _ _ _ _ T30 (mkF m 210 #[.val (.int p1), .val (.int p2), .val (.int p3), .val (.int p4), .val (.int p5), .val (.int nn), .val (.int st), .val (.int y24), .val (.int y25), .val (.int y26), .val (.int y27), .val (.ref b28), .val (.int (own_e (0 : Int32) nn st y24 (own_e (1 : Int32) nn st y25 (own_e (2 : Int32) nn st y26 (own_e (3 : Int32) nn st y27 nn))))), .val (.int r30), .unset] [(.int y26)])
        refine own_go (fun _ k => XS.iload X30.here hx rfl (hb hby at_210) rfl k) ?_
        show own_Go _ _ _ _ T30 (mkF m 212 #[.val (.int p1), .val (.int p2), .val (.int p3), .val (.int p4), .val (.int p5), .val (.int nn), .val (.int st), .val (.int y24), .val (.int y25), .val (.int y26), .val (.int y27), .val (.ref b28), .val (.int (own_e (0 : Int32) nn st y24 (own_e (1 : Int32) nn st y25 (own_e (2 : Int32) nn st y26 (own_e (3 : Int32) nn st y27 nn))))), .val (.int r30), .unset] [(.int y26), (.int y26)])
        refine own_go (fun _ k => XS.icmpNo X30.here hx rfl (hb hby at_212) rfl (teq rfl).2 k) ?_
        exact m3
    have m1 : own_Go p.tables e below (own_P below s (fun v h L => v = some (.int 1) ∧ Fr n0 L) room_1.cells room_1.slots) T30 (mkF m 185 #[.val (.int p1), .val (.int p2), .val (.int p3), .val (.int p4), .val (.int p5), .val (.int nn), .val (.int st), .val (.int y24), .val (.int y25), .val (.int y26), .val (.int y27), .val (.ref b28), .val (.int (own_e (0 : Int32) nn st y24 (own_e (1 : Int32) nn st y25 (own_e (2 : Int32) nn st y26 (own_e (3 : Int32) nn st y27 nn))))), .val (.int r30), .unset] []) := by
      show own_Go _ _ _ _ T30 (mkF m 185 #[.val (.int p1), .val (.int p2), .val (.int p3), .val (.int p4), .val (.int p5), .val (.int nn), .val (.int st), .val (.int y24), .val (.int y25), .val (.int y26), .val (.int y27), .val (.ref b28), .val (.int (own_e (0 : Int32) nn st y24 (own_e (1 : Int32) nn st y25 (own_e (2 : Int32) nn st y26 (own_e (3 : Int32) nn st y27 nn))))), .val (.int r30), .unset] [])
      refine own_go (fun _ k => XS.iload X30.here hx rfl (hb hby at_185) rfl k) ?_
      show own_Go _ _ _ _ T30 (mkF m 187 #[.val (.int p1), .val (.int p2), .val (.int p3), .val (.int p4), .val (.int p5), .val (.int nn), .val (.int st), .val (.int y24), .val (.int y25), .val (.int y26), .val (.int y27), .val (.ref b28), .val (.int (own_e (0 : Int32) nn st y24 (own_e (1 : Int32) nn st y25 (own_e (2 : Int32) nn st y26 (own_e (3 : Int32) nn st y27 nn))))), .val (.int r30), .unset] [(.int nn)])
      refine own_go (fun _ k => XS.iconst X30.here hx rfl (hb hby at_187) k) ?_
      show own_Go _ _ _ _ T30 (mkF m 188 #[.val (.int p1), .val (.int p2), .val (.int p3), .val (.int p4), .val (.int p5), .val (.int nn), .val (.int st), .val (.int y24), .val (.int y25), .val (.int y26), .val (.int y27), .val (.ref b28), .val (.int (own_e (0 : Int32) nn st y24 (own_e (1 : Int32) nn st y25 (own_e (2 : Int32) nn st y26 (own_e (3 : Int32) nn st y27 nn))))), .val (.int r30), .unset] [(.int (2 : Int32)), (.int nn)])
      by_cases hq : nn < (2 : Int32)
      · skip
        refine own_go (fun _ k => XS.icmpYes X30.here hx rfl (pc0 := 188) (pc' := 200) rfl (hb hby at_188) rfl (tlt hq).1 (by decide) (by decide) k) ?_
        exact m2
      · skip
        refine own_go (fun _ k => XS.icmpNo X30.here hx rfl (hb hby at_188) rfl (flt hq).1 k) ?_
        have hk : (1 : Int) < nn.toInt := own_gt hq (by decide)
        show own_Go _ _ _ _ T30 (mkF m 191 #[.val (.int p1), .val (.int p2), .val (.int p3), .val (.int p4), .val (.int p5), .val (.int nn), .val (.int st), .val (.int y24), .val (.int y25), .val (.int y26), .val (.int y27), .val (.ref b28), .val (.int (own_e (0 : Int32) nn st y24 (own_e (1 : Int32) nn st y25 (own_e (2 : Int32) nn st y26 (own_e (3 : Int32) nn st y27 nn))))), .val (.int r30), .unset] [])
        refine own_go (fun _ k => XS.aload X30.here hx rfl (hb hby at_191) rfl rfl k) ?_
        show own_Go _ _ _ _ T30 (mkF m 193 #[.val (.int p1), .val (.int p2), .val (.int p3), .val (.int p4), .val (.int p5), .val (.int nn), .val (.int st), .val (.int y24), .val (.int y25), .val (.int y26), .val (.int y27), .val (.ref b28), .val (.int (own_e (0 : Int32) nn st y24 (own_e (1 : Int32) nn st y25 (own_e (2 : Int32) nn st y26 (own_e (3 : Int32) nn st y27 nn))))), .val (.int r30), .unset] [(.ref b28)])
        refine own_go (fun _ k => XS.iconst X30.here hx rfl (hb hby at_193) k) ?_
        show own_Go _ _ _ _ T30 (mkF m 194 #[.val (.int p1), .val (.int p2), .val (.int p3), .val (.int p4), .val (.int p5), .val (.int nn), .val (.int st), .val (.int y24), .val (.int y25), .val (.int y26), .val (.int y27), .val (.ref b28), .val (.int (own_e (0 : Int32) nn st y24 (own_e (1 : Int32) nn st y25 (own_e (2 : Int32) nn st y26 (own_e (3 : Int32) nn st y27 nn))))), .val (.int r30), .unset] [(.int (1 : Int32)), (.ref b28)])
        obtain ⟨cl34, Ar34, q34, S34, M34, H34, G34⟩ := V31
        have V34 : Arv Z h28 b28 kk28 .byte nn _ _ := ⟨cl34, Ar34, q34, S34, M34, H34, G34⟩
        have hin34 : ¬ ((1 : Int32) < 0 ∨ cl34.slots.size ≤ ((1 : Int32)).toNatClampNeg) := inb_of S34 ⟨by decide, own_lt (by show (1 : Int) < _; exact hk)⟩
        have hat34 : cl34.slots[((1 : Int32)).toNatClampNeg]? = some (.int y25) := H34.at hin34 (hf 1 hk)
        refine own_go (X30.baloadBytes hx (j := (1 : Int32)) (v := (.int y25)) (by rw [e30]; exact Ar34.1) (State.isArrayOf_alike hZ.alike Ar34.2.1) Ar34.2.2 hin34 hat34 (g := (mkF m 194 #[.val (.int p1), .val (.int p2), .val (.int p3), .val (.int p4), .val (.int p5), .val (.int nn), .val (.int st), .val (.int y24), .val (.int y25), .val (.int y26), .val (.int y27), .val (.ref b28), .val (.int (own_e (0 : Int32) nn st y24 (own_e (1 : Int32) nn st y25 (own_e (2 : Int32) nn st y26 (own_e (3 : Int32) nn st y27 nn))))), .val (.int r30), .unset] [(.int (1 : Int32)), (.ref b28)])) rfl rfl (hb hby at_194)) ?_
        show own_Go _ _ _ _ T30 (mkF m 195 #[.val (.int p1), .val (.int p2), .val (.int p3), .val (.int p4), .val (.int p5), .val (.int nn), .val (.int st), .val (.int y24), .val (.int y25), .val (.int y26), .val (.int y27), .val (.ref b28), .val (.int (own_e (0 : Int32) nn st y24 (own_e (1 : Int32) nn st y25 (own_e (2 : Int32) nn st y26 (own_e (3 : Int32) nn st y27 nn))))), .val (.int r30), .unset] [(.int y25)])
        refine own_go (fun _ k => XS.iload X30.here hx rfl (hb hby at_195) rfl k) ?_
        show own_Go _ _ _ _ T30 (mkF m 197 #[.val (.int p1), .val (.int p2), .val (.int p3), .val (.int p4), .val (.int p5), .val (.int nn), .val (.int st), .val (.int y24), .val (.int y25), .val (.int y26), .val (.int y27), .val (.ref b28), .val (.int (own_e (0 : Int32) nn st y24 (own_e (1 : Int32) nn st y25 (own_e (2 : Int32) nn st y26 (own_e (3 : Int32) nn st y27 nn))))), .val (.int r30), .unset] [(.int y25), (.int y25)])
        refine own_go (fun _ k => XS.icmpNo X30.here hx rfl (hb hby at_197) rfl (teq rfl).2 k) ?_
        exact m2
    show own_Go _ _ _ _ T30 (mkF m 170 #[.val (.int p1), .val (.int p2), .val (.int p3), .val (.int p4), .val (.int p5), .val (.int nn), .val (.int st), .val (.int y24), .val (.int y25), .val (.int y26), .val (.int y27), .val (.ref b28), .val (.int (own_e (0 : Int32) nn st y24 (own_e (1 : Int32) nn st y25 (own_e (2 : Int32) nn st y26 (own_e (3 : Int32) nn st y27 nn))))), .val (.int r30), .unset] [])
    refine own_go (fun _ k => XS.iload X30.here hx rfl (hb hby at_170) rfl k) ?_
    show own_Go _ _ _ _ T30 (mkF m 172 #[.val (.int p1), .val (.int p2), .val (.int p3), .val (.int p4), .val (.int p5), .val (.int nn), .val (.int st), .val (.int y24), .val (.int y25), .val (.int y26), .val (.int y27), .val (.ref b28), .val (.int (own_e (0 : Int32) nn st y24 (own_e (1 : Int32) nn st y25 (own_e (2 : Int32) nn st y26 (own_e (3 : Int32) nn st y27 nn))))), .val (.int r30), .unset] [(.int nn)])
    refine own_go (fun _ k => XS.iconst X30.here hx rfl (hb hby at_172) k) ?_
    show own_Go _ _ _ _ T30 (mkF m 173 #[.val (.int p1), .val (.int p2), .val (.int p3), .val (.int p4), .val (.int p5), .val (.int nn), .val (.int st), .val (.int y24), .val (.int y25), .val (.int y26), .val (.int y27), .val (.ref b28), .val (.int (own_e (0 : Int32) nn st y24 (own_e (1 : Int32) nn st y25 (own_e (2 : Int32) nn st y26 (own_e (3 : Int32) nn st y27 nn))))), .val (.int r30), .unset] [(.int (1 : Int32)), (.int nn)])
    by_cases hq : nn < (1 : Int32)
    · skip
      refine own_go (fun _ k => XS.icmpYes X30.here hx rfl (pc0 := 173) (pc' := 185) rfl (hb hby at_173) rfl (tlt hq).1 (by decide) (by decide) k) ?_
      exact m1
    · skip
      refine own_go (fun _ k => XS.icmpNo X30.here hx rfl (hb hby at_173) rfl (flt hq).1 k) ?_
      have hk : (0 : Int) < nn.toInt := own_gt hq (by decide)
      show own_Go _ _ _ _ T30 (mkF m 176 #[.val (.int p1), .val (.int p2), .val (.int p3), .val (.int p4), .val (.int p5), .val (.int nn), .val (.int st), .val (.int y24), .val (.int y25), .val (.int y26), .val (.int y27), .val (.ref b28), .val (.int (own_e (0 : Int32) nn st y24 (own_e (1 : Int32) nn st y25 (own_e (2 : Int32) nn st y26 (own_e (3 : Int32) nn st y27 nn))))), .val (.int r30), .unset] [])
      refine own_go (fun _ k => XS.aload X30.here hx rfl (hb hby at_176) rfl rfl k) ?_
      show own_Go _ _ _ _ T30 (mkF m 178 #[.val (.int p1), .val (.int p2), .val (.int p3), .val (.int p4), .val (.int p5), .val (.int nn), .val (.int st), .val (.int y24), .val (.int y25), .val (.int y26), .val (.int y27), .val (.ref b28), .val (.int (own_e (0 : Int32) nn st y24 (own_e (1 : Int32) nn st y25 (own_e (2 : Int32) nn st y26 (own_e (3 : Int32) nn st y27 nn))))), .val (.int r30), .unset] [(.ref b28)])
      refine own_go (fun _ k => XS.iconst X30.here hx rfl (hb hby at_178) k) ?_
      show own_Go _ _ _ _ T30 (mkF m 179 #[.val (.int p1), .val (.int p2), .val (.int p3), .val (.int p4), .val (.int p5), .val (.int nn), .val (.int st), .val (.int y24), .val (.int y25), .val (.int y26), .val (.int y27), .val (.ref b28), .val (.int (own_e (0 : Int32) nn st y24 (own_e (1 : Int32) nn st y25 (own_e (2 : Int32) nn st y26 (own_e (3 : Int32) nn st y27 nn))))), .val (.int r30), .unset] [(.int (0 : Int32)), (.ref b28)])
      obtain ⟨cl35, Ar35, q35, S35, M35, H35, G35⟩ := V31
      have V35 : Arv Z h28 b28 kk28 .byte nn _ _ := ⟨cl35, Ar35, q35, S35, M35, H35, G35⟩
      have hin35 : ¬ ((0 : Int32) < 0 ∨ cl35.slots.size ≤ ((0 : Int32)).toNatClampNeg) := inb_of S35 ⟨by decide, own_lt (by show (0 : Int) < _; exact hk)⟩
      have hat35 : cl35.slots[((0 : Int32)).toNatClampNeg]? = some (.int y24) := H35.at hin35 (hf 0 hk)
      refine own_go (X30.baloadBytes hx (j := (0 : Int32)) (v := (.int y24)) (by rw [e30]; exact Ar35.1) (State.isArrayOf_alike hZ.alike Ar35.2.1) Ar35.2.2 hin35 hat35 (g := (mkF m 179 #[.val (.int p1), .val (.int p2), .val (.int p3), .val (.int p4), .val (.int p5), .val (.int nn), .val (.int st), .val (.int y24), .val (.int y25), .val (.int y26), .val (.int y27), .val (.ref b28), .val (.int (own_e (0 : Int32) nn st y24 (own_e (1 : Int32) nn st y25 (own_e (2 : Int32) nn st y26 (own_e (3 : Int32) nn st y27 nn))))), .val (.int r30), .unset] [(.int (0 : Int32)), (.ref b28)])) rfl rfl (hb hby at_179)) ?_
      show own_Go _ _ _ _ T30 (mkF m 180 #[.val (.int p1), .val (.int p2), .val (.int p3), .val (.int p4), .val (.int p5), .val (.int nn), .val (.int st), .val (.int y24), .val (.int y25), .val (.int y26), .val (.int y27), .val (.ref b28), .val (.int (own_e (0 : Int32) nn st y24 (own_e (1 : Int32) nn st y25 (own_e (2 : Int32) nn st y26 (own_e (3 : Int32) nn st y27 nn))))), .val (.int r30), .unset] [(.int y24)])
      refine own_go (fun _ k => XS.iload X30.here hx rfl (hb hby at_180) rfl k) ?_
      show own_Go _ _ _ _ T30 (mkF m 182 #[.val (.int p1), .val (.int p2), .val (.int p3), .val (.int p4), .val (.int p5), .val (.int nn), .val (.int st), .val (.int y24), .val (.int y25), .val (.int y26), .val (.int y27), .val (.ref b28), .val (.int (own_e (0 : Int32) nn st y24 (own_e (1 : Int32) nn st y25 (own_e (2 : Int32) nn st y26 (own_e (3 : Int32) nn st y27 nn))))), .val (.int r30), .unset] [(.int y24), (.int y24)])
      refine own_go (fun _ k => XS.icmpNo X30.here hx rfl (hb hby at_182) rfl (teq rfl).2 k) ?_
      exact m1
  have k1 : own_Go p.tables e below (own_P below s (fun v h L => v = some (.int 1) ∧ Fr n0 L) room_1.cells room_1.slots) T28 (mkF m 131 #[.val (.int p1), .val (.int p2), .val (.int p3), .val (.int p4), .val (.int p5), .val (.int nn), .val (.int st), .val (.int y24), .val (.int y25), .val (.int y26), .val (.int y27), .val (.ref b28), .val (.int (own_e (1 : Int32) nn st y25 (own_e (2 : Int32) nn st y26 (own_e (3 : Int32) nn st y27 nn)))), .unset, .unset] []) := by
    show own_Go _ _ _ _ T28 (mkF m 131 #[.val (.int p1), .val (.int p2), .val (.int p3), .val (.int p4), .val (.int p5), .val (.int nn), .val (.int st), .val (.int y24), .val (.int y25), .val (.int y26), .val (.int y27), .val (.ref b28), .val (.int (own_e (1 : Int32) nn st y25 (own_e (2 : Int32) nn st y26 (own_e (3 : Int32) nn st y27 nn)))), .unset, .unset] [])
    refine own_go (fun _ k => XS.iconst X28.here hx rfl (hb hby at_131) k) ?_
    show own_Go _ _ _ _ T28 (mkF m 132 #[.val (.int p1), .val (.int p2), .val (.int p3), .val (.int p4), .val (.int p5), .val (.int nn), .val (.int st), .val (.int y24), .val (.int y25), .val (.int y26), .val (.int y27), .val (.ref b28), .val (.int (own_e (1 : Int32) nn st y25 (own_e (2 : Int32) nn st y26 (own_e (3 : Int32) nn st y27 nn)))), .unset, .unset] [(.int (0 : Int32))])
    refine own_go (fun _ k => XS.iload X28.here hx rfl (hb hby at_132) rfl k) ?_
    show own_Go _ _ _ _ T28 (mkF m 134 #[.val (.int p1), .val (.int p2), .val (.int p3), .val (.int p4), .val (.int p5), .val (.int nn), .val (.int st), .val (.int y24), .val (.int y25), .val (.int y26), .val (.int y27), .val (.ref b28), .val (.int (own_e (1 : Int32) nn st y25 (own_e (2 : Int32) nn st y26 (own_e (3 : Int32) nn st y27 nn)))), .unset, .unset] [(.int st), (.int (0 : Int32))])
    by_cases hu : (0 : Int32) < st
    · skip
      refine own_go (fun _ k => XS.icmpYes X28.here hx rfl (pc0 := 134) (pc' := 153) rfl (hb hby at_134) rfl (tlt hu).1 (by decide) (by decide) k) ?_
      have q : (own_e (0 : Int32) nn st y24 (own_e (1 : Int32) nn st y25 (own_e (2 : Int32) nn st y26 (own_e (3 : Int32) nn st y27 nn)))) = (own_e (1 : Int32) nn st y25 (own_e (2 : Int32) nn st y26 (own_e (3 : Int32) nn st y27 nn))) := by rw [own_e, if_pos hu]
      rw [q] at k0
      exact k0
    · skip
      refine own_go (fun _ k => XS.icmpNo X28.here hx rfl (hb hby at_134) rfl (flt hu).1 k) ?_
      show own_Go _ _ _ _ T28 (mkF m 137 #[.val (.int p1), .val (.int p2), .val (.int p3), .val (.int p4), .val (.int p5), .val (.int nn), .val (.int st), .val (.int y24), .val (.int y25), .val (.int y26), .val (.int y27), .val (.ref b28), .val (.int (own_e (1 : Int32) nn st y25 (own_e (2 : Int32) nn st y26 (own_e (3 : Int32) nn st y27 nn)))), .unset, .unset] [])
      refine own_go (fun _ k => XS.iconst X28.here hx rfl (hb hby at_137) k) ?_
      show own_Go _ _ _ _ T28 (mkF m 138 #[.val (.int p1), .val (.int p2), .val (.int p3), .val (.int p4), .val (.int p5), .val (.int nn), .val (.int st), .val (.int y24), .val (.int y25), .val (.int y26), .val (.int y27), .val (.ref b28), .val (.int (own_e (1 : Int32) nn st y25 (own_e (2 : Int32) nn st y26 (own_e (3 : Int32) nn st y27 nn)))), .unset, .unset] [(.int (0 : Int32))])
      refine own_go (fun _ k => XS.iload X28.here hx rfl (hb hby at_138) rfl k) ?_
      show own_Go _ _ _ _ T28 (mkF m 140 #[.val (.int p1), .val (.int p2), .val (.int p3), .val (.int p4), .val (.int p5), .val (.int nn), .val (.int st), .val (.int y24), .val (.int y25), .val (.int y26), .val (.int y27), .val (.ref b28), .val (.int (own_e (1 : Int32) nn st y25 (own_e (2 : Int32) nn st y26 (own_e (3 : Int32) nn st y27 nn)))), .unset, .unset] [(.int nn), (.int (0 : Int32))])
      by_cases hv : (0 : Int32) < nn
      · skip
        refine own_go (fun _ k => XS.icmpNo X28.here hx rfl (hb hby at_140) rfl (tlt hv).2.1 k) ?_
        show own_Go _ _ _ _ T28 (mkF m 143 #[.val (.int p1), .val (.int p2), .val (.int p3), .val (.int p4), .val (.int p5), .val (.int nn), .val (.int st), .val (.int y24), .val (.int y25), .val (.int y26), .val (.int y27), .val (.ref b28), .val (.int (own_e (1 : Int32) nn st y25 (own_e (2 : Int32) nn st y26 (own_e (3 : Int32) nn st y27 nn)))), .unset, .unset] [])
        refine own_go (fun _ k => XS.iload X28.here hx rfl (hb hby at_143) rfl k) ?_
        show own_Go _ _ _ _ T28 (mkF m 145 #[.val (.int p1), .val (.int p2), .val (.int p3), .val (.int p4), .val (.int p5), .val (.int nn), .val (.int st), .val (.int y24), .val (.int y25), .val (.int y26), .val (.int y27), .val (.ref b28), .val (.int (own_e (1 : Int32) nn st y25 (own_e (2 : Int32) nn st y26 (own_e (3 : Int32) nn st y27 nn)))), .unset, .unset] [(.int y24)])
        refine own_go (fun _ k => XS.bipush X28.here hx rfl (hb hby at_145) k) ?_
        show own_Go _ _ _ _ T28 (mkF m 147 #[.val (.int p1), .val (.int p2), .val (.int p3), .val (.int p4), .val (.int p5), .val (.int nn), .val (.int st), .val (.int y24), .val (.int y25), .val (.int y26), .val (.int y27), .val (.ref b28), .val (.int (own_e (1 : Int32) nn st y25 (own_e (2 : Int32) nn st y26 (own_e (3 : Int32) nn st y27 nn)))), .unset, .unset] [(.int (10 : Int32)), (.int y24)])
        by_cases hx10 : y24 = (10 : Int32)
        · skip
          refine own_go (fun _ k => XS.icmpNo X28.here hx rfl (hb hby at_147) rfl (teq hx10).2 k) ?_
          show own_Go _ _ _ _ T28 (mkF m 150 #[.val (.int p1), .val (.int p2), .val (.int p3), .val (.int p4), .val (.int p5), .val (.int nn), .val (.int st), .val (.int y24), .val (.int y25), .val (.int y26), .val (.int y27), .val (.ref b28), .val (.int (own_e (1 : Int32) nn st y25 (own_e (2 : Int32) nn st y26 (own_e (3 : Int32) nn st y27 nn)))), .unset, .unset] [])
          refine own_go (fun _ k => XS.iconst X28.here hx rfl (hb hby at_150) k) ?_
          show own_Go _ _ _ _ T28 (mkF m 151 #[.val (.int p1), .val (.int p2), .val (.int p3), .val (.int p4), .val (.int p5), .val (.int nn), .val (.int st), .val (.int y24), .val (.int y25), .val (.int y26), .val (.int y27), .val (.ref b28), .val (.int (own_e (1 : Int32) nn st y25 (own_e (2 : Int32) nn st y26 (own_e (3 : Int32) nn st y27 nn)))), .unset, .unset] [(.int (0 : Int32))])
          refine own_go (fun _ k => XS.istore X28.here hx rfl (hb hby at_151) rfl (l' := #[.val (.int p1), .val (.int p2), .val (.int p3), .val (.int p4), .val (.int p5), .val (.int nn), .val (.int st), .val (.int y24), .val (.int y25), .val (.int y26), .val (.int y27), .val (.ref b28), .val (.int (0 : Int32)), .unset, .unset]) rfl k) ?_
          have q : (own_e (0 : Int32) nn st y24 (own_e (1 : Int32) nn st y25 (own_e (2 : Int32) nn st y26 (own_e (3 : Int32) nn st y27 nn)))) = (0 : Int32) := by rw [own_e, if_neg hu, if_pos hv, if_pos hx10]
          rw [q] at k0
          exact k0
        · skip
          refine own_go (fun _ k => XS.icmpYes X28.here hx rfl (pc0 := 147) (pc' := 153) rfl (hb hby at_147) rfl (feq hx10).2 (by decide) (by decide) k) ?_
          have q : (own_e (0 : Int32) nn st y24 (own_e (1 : Int32) nn st y25 (own_e (2 : Int32) nn st y26 (own_e (3 : Int32) nn st y27 nn)))) = (own_e (1 : Int32) nn st y25 (own_e (2 : Int32) nn st y26 (own_e (3 : Int32) nn st y27 nn))) := by rw [own_e, if_neg hu, if_pos hv, if_neg hx10]
          rw [q] at k0
          exact k0
      · skip
        refine own_go (fun _ k => XS.icmpYes X28.here hx rfl (pc0 := 140) (pc' := 153) rfl (hb hby at_140) rfl (flt hv).2.1 (by decide) (by decide) k) ?_
        have q : (own_e (0 : Int32) nn st y24 (own_e (1 : Int32) nn st y25 (own_e (2 : Int32) nn st y26 (own_e (3 : Int32) nn st y27 nn)))) = (own_e (1 : Int32) nn st y25 (own_e (2 : Int32) nn st y26 (own_e (3 : Int32) nn st y27 nn))) := by rw [own_e, if_neg hu, if_neg hv]
        rw [q] at k0
        exact k0
  have k2 : own_Go p.tables e below (own_P below s (fun v h L => v = some (.int 1) ∧ Fr n0 L) room_1.cells room_1.slots) T28 (mkF m 109 #[.val (.int p1), .val (.int p2), .val (.int p3), .val (.int p4), .val (.int p5), .val (.int nn), .val (.int st), .val (.int y24), .val (.int y25), .val (.int y26), .val (.int y27), .val (.ref b28), .val (.int (own_e (2 : Int32) nn st y26 (own_e (3 : Int32) nn st y27 nn))), .unset, .unset] []) := by
    show own_Go _ _ _ _ T28 (mkF m 109 #[.val (.int p1), .val (.int p2), .val (.int p3), .val (.int p4), .val (.int p5), .val (.int nn), .val (.int st), .val (.int y24), .val (.int y25), .val (.int y26), .val (.int y27), .val (.ref b28), .val (.int (own_e (2 : Int32) nn st y26 (own_e (3 : Int32) nn st y27 nn))), .unset, .unset] [])
    refine own_go (fun _ k => XS.iconst X28.here hx rfl (hb hby at_109) k) ?_
    show own_Go _ _ _ _ T28 (mkF m 110 #[.val (.int p1), .val (.int p2), .val (.int p3), .val (.int p4), .val (.int p5), .val (.int nn), .val (.int st), .val (.int y24), .val (.int y25), .val (.int y26), .val (.int y27), .val (.ref b28), .val (.int (own_e (2 : Int32) nn st y26 (own_e (3 : Int32) nn st y27 nn))), .unset, .unset] [(.int (1 : Int32))])
    refine own_go (fun _ k => XS.iload X28.here hx rfl (hb hby at_110) rfl k) ?_
    show own_Go _ _ _ _ T28 (mkF m 112 #[.val (.int p1), .val (.int p2), .val (.int p3), .val (.int p4), .val (.int p5), .val (.int nn), .val (.int st), .val (.int y24), .val (.int y25), .val (.int y26), .val (.int y27), .val (.ref b28), .val (.int (own_e (2 : Int32) nn st y26 (own_e (3 : Int32) nn st y27 nn))), .unset, .unset] [(.int st), (.int (1 : Int32))])
    by_cases hu : (1 : Int32) < st
    · skip
      refine own_go (fun _ k => XS.icmpYes X28.here hx rfl (pc0 := 112) (pc' := 131) rfl (hb hby at_112) rfl (tlt hu).1 (by decide) (by decide) k) ?_
      have q : (own_e (1 : Int32) nn st y25 (own_e (2 : Int32) nn st y26 (own_e (3 : Int32) nn st y27 nn))) = (own_e (2 : Int32) nn st y26 (own_e (3 : Int32) nn st y27 nn)) := by rw [own_e, if_pos hu]
      rw [q] at k1
      exact k1
    · skip
      refine own_go (fun _ k => XS.icmpNo X28.here hx rfl (hb hby at_112) rfl (flt hu).1 k) ?_
      show own_Go _ _ _ _ T28 (mkF m 115 #[.val (.int p1), .val (.int p2), .val (.int p3), .val (.int p4), .val (.int p5), .val (.int nn), .val (.int st), .val (.int y24), .val (.int y25), .val (.int y26), .val (.int y27), .val (.ref b28), .val (.int (own_e (2 : Int32) nn st y26 (own_e (3 : Int32) nn st y27 nn))), .unset, .unset] [])
      refine own_go (fun _ k => XS.iconst X28.here hx rfl (hb hby at_115) k) ?_
      show own_Go _ _ _ _ T28 (mkF m 116 #[.val (.int p1), .val (.int p2), .val (.int p3), .val (.int p4), .val (.int p5), .val (.int nn), .val (.int st), .val (.int y24), .val (.int y25), .val (.int y26), .val (.int y27), .val (.ref b28), .val (.int (own_e (2 : Int32) nn st y26 (own_e (3 : Int32) nn st y27 nn))), .unset, .unset] [(.int (1 : Int32))])
      refine own_go (fun _ k => XS.iload X28.here hx rfl (hb hby at_116) rfl k) ?_
      show own_Go _ _ _ _ T28 (mkF m 118 #[.val (.int p1), .val (.int p2), .val (.int p3), .val (.int p4), .val (.int p5), .val (.int nn), .val (.int st), .val (.int y24), .val (.int y25), .val (.int y26), .val (.int y27), .val (.ref b28), .val (.int (own_e (2 : Int32) nn st y26 (own_e (3 : Int32) nn st y27 nn))), .unset, .unset] [(.int nn), (.int (1 : Int32))])
      by_cases hv : (1 : Int32) < nn
      · skip
        refine own_go (fun _ k => XS.icmpNo X28.here hx rfl (hb hby at_118) rfl (tlt hv).2.1 k) ?_
        show own_Go _ _ _ _ T28 (mkF m 121 #[.val (.int p1), .val (.int p2), .val (.int p3), .val (.int p4), .val (.int p5), .val (.int nn), .val (.int st), .val (.int y24), .val (.int y25), .val (.int y26), .val (.int y27), .val (.ref b28), .val (.int (own_e (2 : Int32) nn st y26 (own_e (3 : Int32) nn st y27 nn))), .unset, .unset] [])
        refine own_go (fun _ k => XS.iload X28.here hx rfl (hb hby at_121) rfl k) ?_
        show own_Go _ _ _ _ T28 (mkF m 123 #[.val (.int p1), .val (.int p2), .val (.int p3), .val (.int p4), .val (.int p5), .val (.int nn), .val (.int st), .val (.int y24), .val (.int y25), .val (.int y26), .val (.int y27), .val (.ref b28), .val (.int (own_e (2 : Int32) nn st y26 (own_e (3 : Int32) nn st y27 nn))), .unset, .unset] [(.int y25)])
        refine own_go (fun _ k => XS.bipush X28.here hx rfl (hb hby at_123) k) ?_
        show own_Go _ _ _ _ T28 (mkF m 125 #[.val (.int p1), .val (.int p2), .val (.int p3), .val (.int p4), .val (.int p5), .val (.int nn), .val (.int st), .val (.int y24), .val (.int y25), .val (.int y26), .val (.int y27), .val (.ref b28), .val (.int (own_e (2 : Int32) nn st y26 (own_e (3 : Int32) nn st y27 nn))), .unset, .unset] [(.int (10 : Int32)), (.int y25)])
        by_cases hx10 : y25 = (10 : Int32)
        · skip
          refine own_go (fun _ k => XS.icmpNo X28.here hx rfl (hb hby at_125) rfl (teq hx10).2 k) ?_
          show own_Go _ _ _ _ T28 (mkF m 128 #[.val (.int p1), .val (.int p2), .val (.int p3), .val (.int p4), .val (.int p5), .val (.int nn), .val (.int st), .val (.int y24), .val (.int y25), .val (.int y26), .val (.int y27), .val (.ref b28), .val (.int (own_e (2 : Int32) nn st y26 (own_e (3 : Int32) nn st y27 nn))), .unset, .unset] [])
          refine own_go (fun _ k => XS.iconst X28.here hx rfl (hb hby at_128) k) ?_
          show own_Go _ _ _ _ T28 (mkF m 129 #[.val (.int p1), .val (.int p2), .val (.int p3), .val (.int p4), .val (.int p5), .val (.int nn), .val (.int st), .val (.int y24), .val (.int y25), .val (.int y26), .val (.int y27), .val (.ref b28), .val (.int (own_e (2 : Int32) nn st y26 (own_e (3 : Int32) nn st y27 nn))), .unset, .unset] [(.int (1 : Int32))])
          refine own_go (fun _ k => XS.istore X28.here hx rfl (hb hby at_129) rfl (l' := #[.val (.int p1), .val (.int p2), .val (.int p3), .val (.int p4), .val (.int p5), .val (.int nn), .val (.int st), .val (.int y24), .val (.int y25), .val (.int y26), .val (.int y27), .val (.ref b28), .val (.int (1 : Int32)), .unset, .unset]) rfl k) ?_
          have q : (own_e (1 : Int32) nn st y25 (own_e (2 : Int32) nn st y26 (own_e (3 : Int32) nn st y27 nn))) = (1 : Int32) := by rw [own_e, if_neg hu, if_pos hv, if_pos hx10]
          rw [q] at k1
          exact k1
        · skip
          refine own_go (fun _ k => XS.icmpYes X28.here hx rfl (pc0 := 125) (pc' := 131) rfl (hb hby at_125) rfl (feq hx10).2 (by decide) (by decide) k) ?_
          have q : (own_e (1 : Int32) nn st y25 (own_e (2 : Int32) nn st y26 (own_e (3 : Int32) nn st y27 nn))) = (own_e (2 : Int32) nn st y26 (own_e (3 : Int32) nn st y27 nn)) := by rw [own_e, if_neg hu, if_pos hv, if_neg hx10]
          rw [q] at k1
          exact k1
      · skip
        refine own_go (fun _ k => XS.icmpYes X28.here hx rfl (pc0 := 118) (pc' := 131) rfl (hb hby at_118) rfl (flt hv).2.1 (by decide) (by decide) k) ?_
        have q : (own_e (1 : Int32) nn st y25 (own_e (2 : Int32) nn st y26 (own_e (3 : Int32) nn st y27 nn))) = (own_e (2 : Int32) nn st y26 (own_e (3 : Int32) nn st y27 nn)) := by rw [own_e, if_neg hu, if_neg hv]
        rw [q] at k1
        exact k1
  have k3 : own_Go p.tables e below (own_P below s (fun v h L => v = some (.int 1) ∧ Fr n0 L) room_1.cells room_1.slots) T28 (mkF m 87 #[.val (.int p1), .val (.int p2), .val (.int p3), .val (.int p4), .val (.int p5), .val (.int nn), .val (.int st), .val (.int y24), .val (.int y25), .val (.int y26), .val (.int y27), .val (.ref b28), .val (.int (own_e (3 : Int32) nn st y27 nn)), .unset, .unset] []) := by
    show own_Go _ _ _ _ T28 (mkF m 87 #[.val (.int p1), .val (.int p2), .val (.int p3), .val (.int p4), .val (.int p5), .val (.int nn), .val (.int st), .val (.int y24), .val (.int y25), .val (.int y26), .val (.int y27), .val (.ref b28), .val (.int (own_e (3 : Int32) nn st y27 nn)), .unset, .unset] [])
    refine own_go (fun _ k => XS.iconst X28.here hx rfl (hb hby at_87) k) ?_
    show own_Go _ _ _ _ T28 (mkF m 88 #[.val (.int p1), .val (.int p2), .val (.int p3), .val (.int p4), .val (.int p5), .val (.int nn), .val (.int st), .val (.int y24), .val (.int y25), .val (.int y26), .val (.int y27), .val (.ref b28), .val (.int (own_e (3 : Int32) nn st y27 nn)), .unset, .unset] [(.int (2 : Int32))])
    refine own_go (fun _ k => XS.iload X28.here hx rfl (hb hby at_88) rfl k) ?_
    show own_Go _ _ _ _ T28 (mkF m 90 #[.val (.int p1), .val (.int p2), .val (.int p3), .val (.int p4), .val (.int p5), .val (.int nn), .val (.int st), .val (.int y24), .val (.int y25), .val (.int y26), .val (.int y27), .val (.ref b28), .val (.int (own_e (3 : Int32) nn st y27 nn)), .unset, .unset] [(.int st), (.int (2 : Int32))])
    by_cases hu : (2 : Int32) < st
    · skip
      refine own_go (fun _ k => XS.icmpYes X28.here hx rfl (pc0 := 90) (pc' := 109) rfl (hb hby at_90) rfl (tlt hu).1 (by decide) (by decide) k) ?_
      have q : (own_e (2 : Int32) nn st y26 (own_e (3 : Int32) nn st y27 nn)) = (own_e (3 : Int32) nn st y27 nn) := by rw [own_e, if_pos hu]
      rw [q] at k2
      exact k2
    · skip
      refine own_go (fun _ k => XS.icmpNo X28.here hx rfl (hb hby at_90) rfl (flt hu).1 k) ?_
      show own_Go _ _ _ _ T28 (mkF m 93 #[.val (.int p1), .val (.int p2), .val (.int p3), .val (.int p4), .val (.int p5), .val (.int nn), .val (.int st), .val (.int y24), .val (.int y25), .val (.int y26), .val (.int y27), .val (.ref b28), .val (.int (own_e (3 : Int32) nn st y27 nn)), .unset, .unset] [])
      refine own_go (fun _ k => XS.iconst X28.here hx rfl (hb hby at_93) k) ?_
      show own_Go _ _ _ _ T28 (mkF m 94 #[.val (.int p1), .val (.int p2), .val (.int p3), .val (.int p4), .val (.int p5), .val (.int nn), .val (.int st), .val (.int y24), .val (.int y25), .val (.int y26), .val (.int y27), .val (.ref b28), .val (.int (own_e (3 : Int32) nn st y27 nn)), .unset, .unset] [(.int (2 : Int32))])
      refine own_go (fun _ k => XS.iload X28.here hx rfl (hb hby at_94) rfl k) ?_
      show own_Go _ _ _ _ T28 (mkF m 96 #[.val (.int p1), .val (.int p2), .val (.int p3), .val (.int p4), .val (.int p5), .val (.int nn), .val (.int st), .val (.int y24), .val (.int y25), .val (.int y26), .val (.int y27), .val (.ref b28), .val (.int (own_e (3 : Int32) nn st y27 nn)), .unset, .unset] [(.int nn), (.int (2 : Int32))])
      by_cases hv : (2 : Int32) < nn
      · skip
        refine own_go (fun _ k => XS.icmpNo X28.here hx rfl (hb hby at_96) rfl (tlt hv).2.1 k) ?_
        show own_Go _ _ _ _ T28 (mkF m 99 #[.val (.int p1), .val (.int p2), .val (.int p3), .val (.int p4), .val (.int p5), .val (.int nn), .val (.int st), .val (.int y24), .val (.int y25), .val (.int y26), .val (.int y27), .val (.ref b28), .val (.int (own_e (3 : Int32) nn st y27 nn)), .unset, .unset] [])
        refine own_go (fun _ k => XS.iload X28.here hx rfl (hb hby at_99) rfl k) ?_
        show own_Go _ _ _ _ T28 (mkF m 101 #[.val (.int p1), .val (.int p2), .val (.int p3), .val (.int p4), .val (.int p5), .val (.int nn), .val (.int st), .val (.int y24), .val (.int y25), .val (.int y26), .val (.int y27), .val (.ref b28), .val (.int (own_e (3 : Int32) nn st y27 nn)), .unset, .unset] [(.int y26)])
        refine own_go (fun _ k => XS.bipush X28.here hx rfl (hb hby at_101) k) ?_
        show own_Go _ _ _ _ T28 (mkF m 103 #[.val (.int p1), .val (.int p2), .val (.int p3), .val (.int p4), .val (.int p5), .val (.int nn), .val (.int st), .val (.int y24), .val (.int y25), .val (.int y26), .val (.int y27), .val (.ref b28), .val (.int (own_e (3 : Int32) nn st y27 nn)), .unset, .unset] [(.int (10 : Int32)), (.int y26)])
        by_cases hx10 : y26 = (10 : Int32)
        · skip
          refine own_go (fun _ k => XS.icmpNo X28.here hx rfl (hb hby at_103) rfl (teq hx10).2 k) ?_
          show own_Go _ _ _ _ T28 (mkF m 106 #[.val (.int p1), .val (.int p2), .val (.int p3), .val (.int p4), .val (.int p5), .val (.int nn), .val (.int st), .val (.int y24), .val (.int y25), .val (.int y26), .val (.int y27), .val (.ref b28), .val (.int (own_e (3 : Int32) nn st y27 nn)), .unset, .unset] [])
          refine own_go (fun _ k => XS.iconst X28.here hx rfl (hb hby at_106) k) ?_
          show own_Go _ _ _ _ T28 (mkF m 107 #[.val (.int p1), .val (.int p2), .val (.int p3), .val (.int p4), .val (.int p5), .val (.int nn), .val (.int st), .val (.int y24), .val (.int y25), .val (.int y26), .val (.int y27), .val (.ref b28), .val (.int (own_e (3 : Int32) nn st y27 nn)), .unset, .unset] [(.int (2 : Int32))])
          refine own_go (fun _ k => XS.istore X28.here hx rfl (hb hby at_107) rfl (l' := #[.val (.int p1), .val (.int p2), .val (.int p3), .val (.int p4), .val (.int p5), .val (.int nn), .val (.int st), .val (.int y24), .val (.int y25), .val (.int y26), .val (.int y27), .val (.ref b28), .val (.int (2 : Int32)), .unset, .unset]) rfl k) ?_
          have q : (own_e (2 : Int32) nn st y26 (own_e (3 : Int32) nn st y27 nn)) = (2 : Int32) := by rw [own_e, if_neg hu, if_pos hv, if_pos hx10]
          rw [q] at k2
          exact k2
        · skip
          refine own_go (fun _ k => XS.icmpYes X28.here hx rfl (pc0 := 103) (pc' := 109) rfl (hb hby at_103) rfl (feq hx10).2 (by decide) (by decide) k) ?_
          have q : (own_e (2 : Int32) nn st y26 (own_e (3 : Int32) nn st y27 nn)) = (own_e (3 : Int32) nn st y27 nn) := by rw [own_e, if_neg hu, if_pos hv, if_neg hx10]
          rw [q] at k2
          exact k2
      · skip
        refine own_go (fun _ k => XS.icmpYes X28.here hx rfl (pc0 := 96) (pc' := 109) rfl (hb hby at_96) rfl (flt hv).2.1 (by decide) (by decide) k) ?_
        have q : (own_e (2 : Int32) nn st y26 (own_e (3 : Int32) nn st y27 nn)) = (own_e (3 : Int32) nn st y27 nn) := by rw [own_e, if_neg hu, if_neg hv]
        rw [q] at k2
        exact k2
  show own_Go _ _ _ _ T28 (mkF m 65 #[.val (.int p1), .val (.int p2), .val (.int p3), .val (.int p4), .val (.int p5), .val (.int nn), .val (.int st), .val (.int y24), .val (.int y25), .val (.int y26), .val (.int y27), .val (.ref b28), .val (.int nn), .unset, .unset] [])
  refine own_go (fun _ k => XS.iconst X28.here hx rfl (hb hby at_65) k) ?_
  show own_Go _ _ _ _ T28 (mkF m 66 #[.val (.int p1), .val (.int p2), .val (.int p3), .val (.int p4), .val (.int p5), .val (.int nn), .val (.int st), .val (.int y24), .val (.int y25), .val (.int y26), .val (.int y27), .val (.ref b28), .val (.int nn), .unset, .unset] [(.int (3 : Int32))])
  refine own_go (fun _ k => XS.iload X28.here hx rfl (hb hby at_66) rfl k) ?_
  show own_Go _ _ _ _ T28 (mkF m 68 #[.val (.int p1), .val (.int p2), .val (.int p3), .val (.int p4), .val (.int p5), .val (.int nn), .val (.int st), .val (.int y24), .val (.int y25), .val (.int y26), .val (.int y27), .val (.ref b28), .val (.int nn), .unset, .unset] [(.int st), (.int (3 : Int32))])
  by_cases hu : (3 : Int32) < st
  · skip
    refine own_go (fun _ k => XS.icmpYes X28.here hx rfl (pc0 := 68) (pc' := 87) rfl (hb hby at_68) rfl (tlt hu).1 (by decide) (by decide) k) ?_
    have q : (own_e (3 : Int32) nn st y27 nn) = nn := by rw [own_e, if_pos hu]
    rw [q] at k3
    exact k3
  · skip
    refine own_go (fun _ k => XS.icmpNo X28.here hx rfl (hb hby at_68) rfl (flt hu).1 k) ?_
    show own_Go _ _ _ _ T28 (mkF m 71 #[.val (.int p1), .val (.int p2), .val (.int p3), .val (.int p4), .val (.int p5), .val (.int nn), .val (.int st), .val (.int y24), .val (.int y25), .val (.int y26), .val (.int y27), .val (.ref b28), .val (.int nn), .unset, .unset] [])
    refine own_go (fun _ k => XS.iconst X28.here hx rfl (hb hby at_71) k) ?_
    show own_Go _ _ _ _ T28 (mkF m 72 #[.val (.int p1), .val (.int p2), .val (.int p3), .val (.int p4), .val (.int p5), .val (.int nn), .val (.int st), .val (.int y24), .val (.int y25), .val (.int y26), .val (.int y27), .val (.ref b28), .val (.int nn), .unset, .unset] [(.int (3 : Int32))])
    refine own_go (fun _ k => XS.iload X28.here hx rfl (hb hby at_72) rfl k) ?_
    show own_Go _ _ _ _ T28 (mkF m 74 #[.val (.int p1), .val (.int p2), .val (.int p3), .val (.int p4), .val (.int p5), .val (.int nn), .val (.int st), .val (.int y24), .val (.int y25), .val (.int y26), .val (.int y27), .val (.ref b28), .val (.int nn), .unset, .unset] [(.int nn), (.int (3 : Int32))])
    by_cases hv : (3 : Int32) < nn
    · skip
      refine own_go (fun _ k => XS.icmpNo X28.here hx rfl (hb hby at_74) rfl (tlt hv).2.1 k) ?_
      show own_Go _ _ _ _ T28 (mkF m 77 #[.val (.int p1), .val (.int p2), .val (.int p3), .val (.int p4), .val (.int p5), .val (.int nn), .val (.int st), .val (.int y24), .val (.int y25), .val (.int y26), .val (.int y27), .val (.ref b28), .val (.int nn), .unset, .unset] [])
      refine own_go (fun _ k => XS.iload X28.here hx rfl (hb hby at_77) rfl k) ?_
      show own_Go _ _ _ _ T28 (mkF m 79 #[.val (.int p1), .val (.int p2), .val (.int p3), .val (.int p4), .val (.int p5), .val (.int nn), .val (.int st), .val (.int y24), .val (.int y25), .val (.int y26), .val (.int y27), .val (.ref b28), .val (.int nn), .unset, .unset] [(.int y27)])
      refine own_go (fun _ k => XS.bipush X28.here hx rfl (hb hby at_79) k) ?_
      show own_Go _ _ _ _ T28 (mkF m 81 #[.val (.int p1), .val (.int p2), .val (.int p3), .val (.int p4), .val (.int p5), .val (.int nn), .val (.int st), .val (.int y24), .val (.int y25), .val (.int y26), .val (.int y27), .val (.ref b28), .val (.int nn), .unset, .unset] [(.int (10 : Int32)), (.int y27)])
      by_cases hx10 : y27 = (10 : Int32)
      · skip
        refine own_go (fun _ k => XS.icmpNo X28.here hx rfl (hb hby at_81) rfl (teq hx10).2 k) ?_
        show own_Go _ _ _ _ T28 (mkF m 84 #[.val (.int p1), .val (.int p2), .val (.int p3), .val (.int p4), .val (.int p5), .val (.int nn), .val (.int st), .val (.int y24), .val (.int y25), .val (.int y26), .val (.int y27), .val (.ref b28), .val (.int nn), .unset, .unset] [])
        refine own_go (fun _ k => XS.iconst X28.here hx rfl (hb hby at_84) k) ?_
        show own_Go _ _ _ _ T28 (mkF m 85 #[.val (.int p1), .val (.int p2), .val (.int p3), .val (.int p4), .val (.int p5), .val (.int nn), .val (.int st), .val (.int y24), .val (.int y25), .val (.int y26), .val (.int y27), .val (.ref b28), .val (.int nn), .unset, .unset] [(.int (3 : Int32))])
        refine own_go (fun _ k => XS.istore X28.here hx rfl (hb hby at_85) rfl (l' := #[.val (.int p1), .val (.int p2), .val (.int p3), .val (.int p4), .val (.int p5), .val (.int nn), .val (.int st), .val (.int y24), .val (.int y25), .val (.int y26), .val (.int y27), .val (.ref b28), .val (.int (3 : Int32)), .unset, .unset]) rfl k) ?_
        have q : (own_e (3 : Int32) nn st y27 nn) = (3 : Int32) := by rw [own_e, if_neg hu, if_pos hv, if_pos hx10]
        rw [q] at k3
        exact k3
      · skip
        refine own_go (fun _ k => XS.icmpYes X28.here hx rfl (pc0 := 81) (pc' := 87) rfl (hb hby at_81) rfl (feq hx10).2 (by decide) (by decide) k) ?_
        have q : (own_e (3 : Int32) nn st y27 nn) = nn := by rw [own_e, if_neg hu, if_pos hv, if_neg hx10]
        rw [q] at k3
        exact k3
    · skip
      refine own_go (fun _ k => XS.icmpYes X28.here hx rfl (pc0 := 74) (pc' := 87) rfl (hb hby at_74) rfl (flt hv).2.1 (by decide) (by decide) k) ?_
      have q : (own_e (3 : Int32) nn st y27 nn) = nn := by rw [own_e, if_neg hu, if_neg hv]
      rw [q] at k3
      exact k3
set_option maxRecDepth 65536 in
set_option maxHeartbeats 40000000 in
theorem comes_1 {Post : Tables → Env → Array Value → State → Outcome → State → Prop} (hpost : ∀ tb e args s v u, (limb_1_1.after args s (.returned v) u = true ∧ limb_1_2.after args s (.returned v) u = true ∧ True) → FrameEnd s (.returned v) u (Jvm.fieldLocs frame_1_writes args s ++ Jvm.arrayLocs frame_1_arrays args s ++ Jvm.staticLocs frame_1_statics s) 16 128 → Post tb e args s (.returned v) u) :
    ArmFor flags0 classFile x code maxLocals ret World_1 tables_1 room_1 Calls_1 rest_1 Pre_1 Post := by
  intro l hfl _ _ p e ha hc hk s m args below hf hA hF happ hP
  obtain ⟨hcalls, hrest, hpre⟩ := hP
  obtain ⟨-, -, -, hnamed, -, -, -, hat⟩ := (Spec.applies_iff hf).mp happ
  obtain ⟨hg, hn⟩ := and_e (Cond.before_iff.mp (show (Jvm.Cond.and given_1 narrow_1).before args s = true from hpre))
  obtain ⟨gc, hg⟩ := and_e hg
  obtain ⟨gv0, hg⟩ := and_e hg
  obtain ⟨gv1, hg⟩ := and_e hg
  obtain ⟨gv2, hg⟩ := and_e hg
  obtain ⟨gv3, hg⟩ := and_e hg
  have gv4 := hg
  obtain ⟨w0, w1, w2, w3, w4, rfl⟩ : ∃ w0 w1 w2 w3 w4 : Value, args = #[w0, w1, w2, w3, w4] := by
    have hs : args.size = 5 := by simpa [Cond.value, given_1] using gc
    obtain ⟨L⟩ := args
    match L, hs with
    | [w0, w1, w2, w3, w4], _ => exact ⟨w0, w1, w2, w3, w4, rfl⟩
  have hw := fun d (hd : d ∈ tables_1) => atoms_spec (ws := Jvm.Cond.code x code maxLocals ret :: tables_1) hat d (List.mem_cons_of_mem _ hd)
  obtain ⟨i0, ei0⟩ := is_v gv0
  obtain rfl : w0 = (.int i0) := Option.some.inj ei0
  obtain ⟨i1, ei1⟩ := is_v gv1
  obtain rfl : w1 = (.int i1) := Option.some.inj ei1
  obtain ⟨i2, ei2⟩ := is_v gv2
  obtain rfl : w2 = (.int i2) := Option.some.inj ei2
  obtain ⟨i3, ei3⟩ := is_v gv3
  obtain rfl : w3 = (.int i3) := Option.some.inj ei3
  obtain ⟨i4, ei4⟩ := is_v gv4
  obtain rfl : w4 = (.int i4) := Option.some.inj ei4
  obtain ⟨n, o, h1, h2, h3, _, L, rfl, ⟨rfl, N⟩, hq⟩ := rm0 l s _ hw tables_1 i0 i1 i2 i3 i4 s.heap s.heap.size (Nat.le_refl _) p e ha hc hk s m _ below hf ((Spec.applies_iff_loose hf).mp happ).1 ⟨rfl, State.Warmed39.refl s, rfl⟩ trivial
  refine ⟨n, _, h1, h2, h3, hpost _ _ _ _ _ _ ⟨Cond.after_iff.mpr rfl, Cond.after_iff.mpr (eq_i res_at (Term.int_eval (1)) rfl), trivial⟩ ⟨hq.1, hq.2.1, (hq.2.2.sift fun y hy => Or.inr (N y hy)).mono (by decide) (by decide)⟩⟩
theorem main_1_1 : Claimed_1_1 := comes_1 fun _ _ _ _ _ _ h hF => ⟨h.1, hF⟩
theorem main_1_2 : Claimed_1_2 := comes_1 fun _ _ _ _ _ _ h hF => ⟨h.2.1, hF⟩
end Jvm.Pilot.@@N@@
namespace Jvm.Pilot.@@N@@
open Jvm Jvm.ClassFile Sem Op Lib Jvm.Free Jvm.Stand Jvm.Pilot.@@N@@.Jvm.D
/-! MADE BY PROGRAM (witnessworld.py) out of the Statement's table words and the real class files: 9 classes; the members and pool entries that the words name. The judged class is class 1, her method 3. -/
namespace start1
open Jvm.ClassFile
def u (s : String) : CpInfo := .utf8 (stringToUtf16 s)
/-- a pool by its gaps: so many unusable entries, then the entry; so many at the end -/
def gap : Nat → List CpInfo → List CpInfo
  | 0, r => r
  | n + 1, r => .unusable :: gap n r
def poolList (es : List (Nat × CpInfo)) (last : Nat) : List CpInfo := es.foldr (fun e r => gap e.1 (e.2 :: r)) (gap last [])
def pool (es : List (Nat × CpInfo)) (last : Nat) : Array CpInfo := ⟨poolList es last⟩
def fileOf (pool : Array CpInfo) (this : Nat) (attrs : Array Attribute := #[]) (ms : Array MethodInfo := #[]) (fl : Nat := 33) (sup : Nat := 0) (ifs : Array Nat := #[]) (fds : Array FieldInfo := #[]) : ClassFile where
  minorVersion := 0
  majorVersion := 65
  constantPool := pool
  accessFlags := fl
  thisClass := this
  superClass := sup
  interfaces := ifs
  fields := fds
  methods := ms
  attributes := attrs
def plain (name : String) (sup : Option ClassId) : Class where
  name := name
  kind := .ordinary
  loader := none
  accessFlags := 33
  super := sup
  interfaces := #[]
  cf := none
  fields := #[]
  methods := #[]
  instanceTypes := #[]
  staticTypes := #[]
  resolved := #[]
  callSites := []
  init := .initialized
  statics := none
  mirror := none

def pool0 : Array CpInfo := pool [(5, u "<init>"), (0, u "()V"), (1, .class_ 10), (1, u "java/lang/Object")] 113

def k0m0 : Method := { name := "<init>", desc := "()V", sig := { parameters := [], returnType := none }, accessFlags := 1, code := none }
/-- java/lang/Object -/
def k0 : Class := { plain "java/lang/Object" none with
  accessFlags := 33
  interfaces := #[]
  cf := some (fileOf pool0 8 #[] #[{ accessFlags := 1, nameIndex := 5, descriptorIndex := 6, attributes := #[] }] 33 0 #[] #[])
  fields := #[]
  methods := #[k0m0]
  instanceTypes := #[]
  staticTypes := #[]
  resolved := Array.replicate 124 none
  statics := none }

def pool1 : Array CpInfo := pool [(2, .class_ 4), (1, u "java/lang/Object"), (0, u "<init>"), (0, u "()V"), (0, .methodref 8 9), (0, .class_ 10), (0, .nameAndType 11 12), (0, u "com/example/anahtar/anahtar/PolicyReaderLineEndPinLaw"), (0, u "draw"), (0, u "(I)B"), (0, .methodref 8 14), (0, .nameAndType 15 16), (0, u "make"), (0, u "(IBBBB)[B"), (0, .methodref 18 19), (0, .class_ 20), (0, .nameAndType 21 22), (0, u "com/example/anahtar/anahtar/PolicyReader"), (0, u "lineEnd"), (0, u "([BI)I"), (3, u "law"), (0, u "(IIIII)Z")] 4

def k1m0 : Method := { name := "<init>", desc := "()V", sig := { parameters := [], returnType := none }, accessFlags := 2, code := none }
def k1c1 : Code := { maxStack := 2, maxLocals := 1, code := method_2_code, exceptionTable := #[], attributes := #[] }
def k1m1 : Method := { name := "draw", desc := "(I)B", sig := { parameters := [.int], returnType := some .byte }, accessFlags := 10, code := some k1c1 }
def k1c2 : Code := { maxStack := 4, maxLocals := 5, code := method_3_code, exceptionTable := #[], attributes := #[] }
def k1m2 : Method := { name := "make", desc := "(IBBBB)[B", sig := { parameters := [.int, .byte, .byte, .byte, .byte], returnType := some (.array .byte) }, accessFlags := 10, code := some k1c2 }
def k1c3 : Code := { maxStack := 5, maxLocals := 15, code := code, exceptionTable := #[], attributes := #[] }
def k1m3 : Method := { name := "law", desc := "(IIIII)Z", sig := { parameters := [.int, .int, .int, .int, .int], returnType := some .boolean }, accessFlags := 9, code := some k1c3 }
/-- com/example/anahtar/anahtar/PolicyReaderLineEndPinLaw -/
def k1 : Class := { plain "com/example/anahtar/anahtar/PolicyReaderLineEndPinLaw" (some 0) with
  accessFlags := 49
  interfaces := #[]
  cf := some (fileOf pool1 8 #[] #[{ accessFlags := 2, nameIndex := 5, descriptorIndex := 6, attributes := #[] }, { accessFlags := 10, nameIndex := 11, descriptorIndex := 12, attributes := #[] }, { accessFlags := 10, nameIndex := 15, descriptorIndex := 16, attributes := #[] }, { accessFlags := 9, nameIndex := 26, descriptorIndex := 27, attributes := #[] }] 49 2 #[] #[])
  fields := #[]
  methods := #[k1m0, k1m1, k1m2, k1m3]
  instanceTypes := #[]
  staticTypes := #[]
  resolved := Array.replicate 32 none
  statics := none }

def pool2 : Array CpInfo := pool [(2, .class_ 4), (1, u "java/lang/Object"), (30, .class_ 37), (1, u "com/example/anahtar/anahtar/PolicyReader"), (0, u "decoder"), (0, u "Ljava/nio/charset/CharsetDecoder;"), (5, u "userLines"), (0, u "Ljava/util/Map;"), (2, u "tokenLines"), (2, u "accounts"), (2, u "groupLines"), (2, u "members"), (2, u "roleLines"), (10, u "roles"), (5, u "privilegeNames"), (0, u "Ljava/util/Set;"), (2, u "privLines"), (2, u "levels"), (5, u "entries"), (0, u "Ljava/util/List;"), (2, u "objectLines"), (2, u "objects"), (2, u "lockLines"), (2, u "locks"), (2, u "claimed"), (2, u "source"), (0, u "Ljava/lang/String;"), (2, u "lineEnd"), (0, u "([BI)I"), (111, u "faultLine"), (0, u "I"), (4, u "faultReason"), (3, .class_ 238), (0, u "com/example/anahtar/anahtar/PolicyReader$Lines"), (172, .class_ 412), (0, u "com/example/anahtar/anahtar/PolicyReader$Account"), (61, .class_ 475), (0, u "com/example/anahtar/anahtar/PolicyReader$Entry"), (29, .class_ 506), (0, u "com/example/anahtar/anahtar/PolicyReader$Ownership"), (5, .class_ 514), (1, u "com/example/anahtar/anahtar/PolicyReader$Lock"), (109, u "PRINCIPALS"), (2, u "MODE"), (1, u "SEPARATOR"), (0, u "LIST_SEPARATOR"), (0, u "GROUP_NAME"), (0, u "ROLE_NAME")] 123

def k2c0 : Code := { maxStack := 2, maxLocals := 3, code := prog_49_method_6_code, exceptionTable := #[], attributes := #[] }
def k2m0 : Method := { name := "lineEnd", desc := "([BI)I", sig := { parameters := [(.array .byte), .int], returnType := some .int }, accessFlags := 8, code := some k2c0 }
/-- com/example/anahtar/anahtar/PolicyReader -/
def k2 : Class := { plain "com/example/anahtar/anahtar/PolicyReader" (some 0) with
  accessFlags := 32
  interfaces := #[]
  cf := some (fileOf pool2 35 #[.nestMembers #[512, 505, 474, 411, 237]] #[{ accessFlags := 8, nameIndex := 114, descriptorIndex := 115, attributes := #[] }] 32 2 #[] #[{ accessFlags := 24, nameIndex := 624, descriptorIndex := 228, attributes := #[] }, { accessFlags := 24, nameIndex := 627, descriptorIndex := 228, attributes := #[] }, { accessFlags := 26, nameIndex := 629, descriptorIndex := 111, attributes := #[] }, { accessFlags := 26, nameIndex := 630, descriptorIndex := 111, attributes := #[] }, { accessFlags := 26, nameIndex := 631, descriptorIndex := 111, attributes := #[] }, { accessFlags := 26, nameIndex := 632, descriptorIndex := 111, attributes := #[] }, { accessFlags := 18, nameIndex := 110, descriptorIndex := 111, attributes := #[] }, { accessFlags := 18, nameIndex := 38, descriptorIndex := 39, attributes := #[] }, { accessFlags := 18, nameIndex := 45, descriptorIndex := 46, attributes := #[] }, { accessFlags := 18, nameIndex := 49, descriptorIndex := 46, attributes := #[] }, { accessFlags := 18, nameIndex := 52, descriptorIndex := 46, attributes := #[] }, { accessFlags := 18, nameIndex := 55, descriptorIndex := 46, attributes := #[] }, { accessFlags := 18, nameIndex := 58, descriptorIndex := 46, attributes := #[] }, { accessFlags := 18, nameIndex := 61, descriptorIndex := 46, attributes := #[] }, { accessFlags := 18, nameIndex := 72, descriptorIndex := 46, attributes := #[] }, { accessFlags := 18, nameIndex := 78, descriptorIndex := 79, attributes := #[] }, { accessFlags := 18, nameIndex := 82, descriptorIndex := 46, attributes := #[] }, { accessFlags := 18, nameIndex := 85, descriptorIndex := 46, attributes := #[] }, { accessFlags := 18, nameIndex := 91, descriptorIndex := 92, attributes := #[] }, { accessFlags := 18, nameIndex := 95, descriptorIndex := 46, attributes := #[] }, { accessFlags := 18, nameIndex := 98, descriptorIndex := 46, attributes := #[] }, { accessFlags := 18, nameIndex := 101, descriptorIndex := 46, attributes := #[] }, { accessFlags := 18, nameIndex := 104, descriptorIndex := 46, attributes := #[] }, { accessFlags := 18, nameIndex := 107, descriptorIndex := 46, attributes := #[] }, { accessFlags := 2, nameIndex := 227, descriptorIndex := 228, attributes := #[] }, { accessFlags := 2, nameIndex := 233, descriptorIndex := 111, attributes := #[] }])
  fields := #[{ name := "PRINCIPALS", type := .int, accessFlags := 24, slot := 0, constantValue := 0 }, { name := "MODE", type := .int, accessFlags := 24, slot := 1, constantValue := 0 }, { name := "SEPARATOR", type := (.object "java/lang/String"), accessFlags := 26, slot := 2, constantValue := 0 }, { name := "LIST_SEPARATOR", type := (.object "java/lang/String"), accessFlags := 26, slot := 3, constantValue := 0 }, { name := "GROUP_NAME", type := (.object "java/lang/String"), accessFlags := 26, slot := 4, constantValue := 0 }, { name := "ROLE_NAME", type := (.object "java/lang/String"), accessFlags := 26, slot := 5, constantValue := 0 }, { name := "source", type := (.object "java/lang/String"), accessFlags := 18, slot := 0, constantValue := 0 }, { name := "decoder", type := (.object "java/nio/charset/CharsetDecoder"), accessFlags := 18, slot := 1, constantValue := 0 }, { name := "userLines", type := (.object "java/util/Map"), accessFlags := 18, slot := 2, constantValue := 0 }, { name := "tokenLines", type := (.object "java/util/Map"), accessFlags := 18, slot := 3, constantValue := 0 }, { name := "accounts", type := (.object "java/util/Map"), accessFlags := 18, slot := 4, constantValue := 0 }, { name := "groupLines", type := (.object "java/util/Map"), accessFlags := 18, slot := 5, constantValue := 0 }, { name := "members", type := (.object "java/util/Map"), accessFlags := 18, slot := 6, constantValue := 0 }, { name := "roleLines", type := (.object "java/util/Map"), accessFlags := 18, slot := 7, constantValue := 0 }, { name := "roles", type := (.object "java/util/Map"), accessFlags := 18, slot := 8, constantValue := 0 }, { name := "privilegeNames", type := (.object "java/util/Set"), accessFlags := 18, slot := 9, constantValue := 0 }, { name := "privLines", type := (.object "java/util/Map"), accessFlags := 18, slot := 10, constantValue := 0 }, { name := "levels", type := (.object "java/util/Map"), accessFlags := 18, slot := 11, constantValue := 0 }, { name := "entries", type := (.object "java/util/List"), accessFlags := 18, slot := 12, constantValue := 0 }, { name := "objectLines", type := (.object "java/util/Map"), accessFlags := 18, slot := 13, constantValue := 0 }, { name := "objects", type := (.object "java/util/Map"), accessFlags := 18, slot := 14, constantValue := 0 }, { name := "lockLines", type := (.object "java/util/Map"), accessFlags := 18, slot := 15, constantValue := 0 }, { name := "locks", type := (.object "java/util/Map"), accessFlags := 18, slot := 16, constantValue := 0 }, { name := "claimed", type := (.object "java/util/Map"), accessFlags := 18, slot := 17, constantValue := 0 }, { name := "faultLine", type := .int, accessFlags := 2, slot := 18, constantValue := 0 }, { name := "faultReason", type := (.object "java/lang/String"), accessFlags := 2, slot := 19, constantValue := 0 }]
  methods := #[k2m0]
  instanceTypes := #[(.object "java/lang/String"), (.object "java/nio/charset/CharsetDecoder"), (.object "java/util/Map"), (.object "java/util/Map"), (.object "java/util/Map"), (.object "java/util/Map"), (.object "java/util/Map"), (.object "java/util/Map"), (.object "java/util/Map"), (.object "java/util/Set"), (.object "java/util/Map"), (.object "java/util/Map"), (.object "java/util/List"), (.object "java/util/Map"), (.object "java/util/Map"), (.object "java/util/Map"), (.object "java/util/Map"), (.object "java/util/Map"), .int, (.object "java/lang/String")]
  staticTypes := #[.int, .int, (.object "java/lang/String"), (.object "java/lang/String"), (.object "java/lang/String"), (.object "java/lang/String")]
  resolved := Array.replicate 756 none
  statics := none }

def pool3 : Array CpInfo := pool [(1, u "java/lang/Cloneable"), (0, .class_ 1), (0, u "java/lang/Object"), (0, .class_ 3)] 3

/-- java/lang/Cloneable -/
def k3 : Class := { plain "java/lang/Cloneable" (some 0) with
  accessFlags := 1537
  interfaces := #[]
  cf := some (fileOf pool3 2 #[] #[] 1537 4 #[] #[])
  fields := #[]
  methods := #[]
  instanceTypes := #[]
  staticTypes := #[]
  resolved := Array.replicate 8 none
  statics := none }

def pool4 : Array CpInfo := pool [(1, u "java/io/Serializable"), (0, .class_ 1), (0, u "java/lang/Object"), (0, .class_ 3)] 3

/-- java/io/Serializable -/
def k4 : Class := { plain "java/io/Serializable" (some 0) with
  accessFlags := 1537
  interfaces := #[]
  cf := some (fileOf pool4 2 #[] #[] 1537 4 #[] #[])
  fields := #[]
  methods := #[]
  instanceTypes := #[]
  staticTypes := #[]
  resolved := Array.replicate 8 none
  statics := none }

/-- the primitive byte -/
def k5 : Class := { plain "byte" none with kind := .primitive 'B', accessFlags := 0x411 }
/-- [B -/
def k6 : Class := { plain "[B" (some 0) with kind := .array 5 .byte, interfaces := #[3, 4], accessFlags := 1041 }

/-- the primitive int -/
def k7 : Class := { plain "int" none with kind := .primitive 'I', accessFlags := 0x411 }
/-- [I -/
def k8 : Class := { plain "[I" (some 0) with kind := .array 7 .int, interfaces := #[3, 4], accessFlags := 1041 }

def heap : Heap := #[]
def classes : Array Class := #[k0, k1, k2, k3, k4, k5, k6, k7, k8]
def interned : List (Array UInt16 × Addr) := []
def slotsUsed : Nat := 0
def theMethod : MethodId := ⟨1, 3⟩
def args0 : Array Value := #[.int 12, .int 30, .int 10, .int 1, .int 7]
def aboutOver (below : List Frame) : State where
  vm := { classes := classes, interned := interned.toArray }
  heap := heap
  slotsUsed := slotsUsed
  threads := #[{ frames := .invoking theMethod args0 :: below }]
def below0 : List Frame := [.native { method := ⟨0, 0⟩, args := #[] }]
def about1 : State := aboutOver below0
def p0 : Program := .bare "" "" ""
def e0 : Env := launch0.env 0 0 0
theorem w_frames : about1.frames = Frame.invoking theMethod args0 :: below0 := rfl
set_option maxRecDepth 65536 in
theorem w_args : argsFit about1.vm theMethod args0 = true := by decide +kernel
set_option maxRecDepth 65536 in
theorem w_heap : heapFits about1 = true := by decide +kernel
set_option maxRecDepth 65536 in
theorem w_runnable : about1.curStatus? = some .runnable := by decide +kernel
set_option maxRecDepth 65536 in
theorem w_alone : about1.alone = true := by decide +kernel
set_option maxRecDepth 65536 in
theorem w_named : about1.methodNamed? x = some theMethod := by decide +kernel
set_option maxRecDepth 65536 in
theorem w_hears : about1.hears theMethod below0 = true := by decide +kernel
set_option maxRecDepth 65536 in
theorem w_ripe : about1.ripe theMethod args0 below0 = true := by decide +kernel
theorem w_running : about1.status = .running := rfl
set_option maxRecDepth 65536 in
theorem w_room : about1.hasRoom e0.platform room_1 = true :=
  launch0.hasRoom_least _ room_1 (by decide +kernel) (by decide +kernel) (by decide +kernel) (by decide +kernel) (by decide +kernel) (by decide +kernel)
theorem allAtoms_all (ts : List Jvm.Cond) (a : Array Jvm.Value) (st : Jvm.State) : (allAtoms ts).before a st = ts.all (fun c => c.before a st) := by
  induction ts with
  | nil => rfl
  | cons c t ih =>
    show (Jvm.Cond.and c (allAtoms t)).before a st = _
    rw [Jvm.Cond.before_and, ih, List.all_cons]
def words1 : List Jvm.Cond := Jvm.Cond.code x code maxLocals ret :: tables_1
/-- a 'code' word, met by the world's own term for the bytes: nothing is compared byte by byte -/
theorem code_word {y : MethodName} {bytes : ByteArray} {mx : Nat} {rt : Option FieldType} {a : Array Value} {s : State} {m : MethodId} {meth : Method} {c : Code} (h1 : s.methodNamed? y = some m) (h2 : s.vm.method? m = some meth) (h3 : meth.code = some c) (h4 : c.code = bytes)
    (h5 : (c.maxLocals == mx && c.exceptionTable.isEmpty && decide (c.maxStack ≤ mostOperands) && decide (meth.sig.returnType = rt) && !meth.locks && decide (parseMethodDescriptor y.desc = some meth.sig)) = true) : (Jvm.Cond.code y bytes mx rt).before a s = true := by
  simp only [Bool.and_eq_true, beq_iff_eq, Bool.not_eq_true', decide_eq_true_eq] at h5
  obtain ⟨⟨⟨⟨⟨g1, g2⟩, g3⟩, g4⟩, g5⟩, g6⟩ := h5
  simp [Cond.before, Cond.holds, Cond.value, h1, h2, h3, h4, g1, g2, g3, g4, g5, g6]
def isCode : Jvm.Cond → Bool
  | .code _ _ _ _ => true
  | _ => false
theorem all_split {L : List Jvm.Cond} {P : Jvm.Cond → Bool} (h1 : L.all (fun c => isCode c || P c) = true) (h2 : ∀ c ∈ L.filter isCode, P c = true) : L.all P = true := by
  refine List.all_eq_true.mpr fun c hc => ?_
  have h := List.all_eq_true.mp h1 c hc
  rcases Bool.eq_false_or_eq_true (isCode c) with hi | hi
  · exact h2 c (List.mem_filter.mpr ⟨hc, hi⟩)
  · simpa [hi] using h
set_option maxRecDepth 65536 in
theorem w_c0 : (Jvm.Cond.code x code maxLocals ret).before args0 about1 = true := code_word (m := ⟨1, 3⟩) (meth := k1m3) (c := k1c3) (by decide +kernel) rfl rfl rfl (by decide +kernel)
set_option maxRecDepth 65536 in
theorem w_c1 : (Jvm.Cond.code ({ cls := "com/example/anahtar/anahtar/PolicyReaderLineEndPinLaw", name := "draw", desc := "(I)B" } : Jvm.MethodName) method_2_code (1 : Nat) (Option.some Jvm.ClassFile.FieldType.byte)).before args0 about1 = true := code_word (m := ⟨1, 1⟩) (meth := k1m1) (c := k1c1) (by decide +kernel) rfl rfl rfl (by decide +kernel)
set_option maxRecDepth 65536 in
theorem w_c2 : (Jvm.Cond.code ({ cls := "com/example/anahtar/anahtar/PolicyReaderLineEndPinLaw", name := "make", desc := "(IBBBB)[B" } : Jvm.MethodName) method_3_code (5 : Nat) (Option.some (Jvm.ClassFile.FieldType.array Jvm.ClassFile.FieldType.byte))).before args0 about1 = true := code_word (m := ⟨1, 2⟩) (meth := k1m2) (c := k1c2) (by decide +kernel) rfl rfl rfl (by decide +kernel)
set_option maxRecDepth 65536 in
theorem w_c3 : (Jvm.Cond.code ({ cls := "com/example/anahtar/anahtar/PolicyReader", name := "lineEnd", desc := "([BI)I" } : Jvm.MethodName) prog_49_method_6_code (3 : Nat) (Option.some Jvm.ClassFile.FieldType.int)).before args0 about1 = true := code_word (m := ⟨2, 0⟩) (meth := k2m0) (c := k2c0) (by decide +kernel) rfl rfl rfl (by decide +kernel)
def codes1 : List Jvm.Cond := [Jvm.Cond.code x code maxLocals ret, Jvm.Cond.code ({ cls := "com/example/anahtar/anahtar/PolicyReaderLineEndPinLaw", name := "draw", desc := "(I)B" } : Jvm.MethodName) method_2_code (1 : Nat) (Option.some Jvm.ClassFile.FieldType.byte), Jvm.Cond.code ({ cls := "com/example/anahtar/anahtar/PolicyReaderLineEndPinLaw", name := "make", desc := "(IBBBB)[B" } : Jvm.MethodName) method_3_code (5 : Nat) (Option.some (Jvm.ClassFile.FieldType.array Jvm.ClassFile.FieldType.byte)), Jvm.Cond.code ({ cls := "com/example/anahtar/anahtar/PolicyReader", name := "lineEnd", desc := "([BI)I" } : Jvm.MethodName) prog_49_method_6_code (3 : Nat) (Option.some Jvm.ClassFile.FieldType.int)]
set_option maxRecDepth 65536 in
theorem codes_eq : words1.filter isCode = codes1 := rfl
theorem w_codes : ∀ c ∈ words1.filter isCode, c.before args0 about1 = true := by
  rw [codes_eq]
  intro c hc
  simp only [codes1, List.mem_cons, List.not_mem_nil, or_false] at hc
  rcases hc with rfl | rfl | rfl | rfl
  · exact w_c0
  · exact w_c1
  · exact w_c2
  · exact w_c3
set_option maxRecDepth 65536 in
theorem w_t1 : words1.all (fun c => isCode c || c.before args0 about1) = true := by decide +kernel
theorem w_tables : (allAtoms (Jvm.Cond.code x code maxLocals ret :: tables_1)).before args0 about1 = true := by
  rw [allAtoms_all]
  show words1.all (fun c => c.before args0 about1) = true
  refine all_split ?_ w_codes
  rw [w_t1]
set_option maxRecDepth 65536 in
theorem w_case : (Jvm.Cond.and given_1 narrow_1).before args0 about1 = true := by decide +kernel
theorem w_applies : (headSpec (Jvm.Cond.code x code maxLocals ret :: tables_1) room_1).applies x e0.platform about1 = true :=
  (Spec.applies_iff w_frames).mpr ⟨w_running, w_runnable, w_alone, w_named, w_hears, w_ripe, w_room, w_tables⟩
theorem atStart : AtStart classFile x code maxLocals ret World_1 tables_1 room_1 Calls_1 rest_1 Pre_1 launch0 p0 e0 about1 theMethod args0 below0 :=
  ⟨lists_1, trivial, launch0.admits_env _ _ _, launch0.least_env, fairChoices_fair.cas, fairChoices_fair.clock, w_frames, w_args, w_heap, w_applies, trivial, trivial, w_case⟩
end start1
theorem witness_1 : WitnessClaimed_1 := ⟨start1.p0, start1.e0, start1.about1, start1.theMethod, start1.args0, start1.below0, start1.atStart⟩
end Jvm.Pilot.@@N@@
