import JvmDerived
import JvmDerived.Pilot.@@N@@Statement
import JvmDerived.Pilot.@@N@@Code
set_option linter.unusedVariables false
set_option linter.unusedSimpArgs false
namespace Jvm.RoadKit
open Sem ClassFile Op Lib Jvm.Stand Jvm.Free Jvm.LawKit
section OwnKit
variable {p : Program} {l : Launch} {e : Env} {R : Room} {s : State} {m : MethodId} {args : Array Value} {below : List Frame} {meth : Method} {c : Code} {T : State} {locs : List Loc} {cells slots : Nat}
theorem retI (X : Stand p l e R s m args below meth c T locs cells slots) (hx : p.tables.exec = Jvm.exec) {pc : Nat} {Ls : Array Slot} {z : Int32} {rest : List Value} (hret : meth.sig.returnType = some .int) (hd : decode c.code pc = .ok (.ireturn, 1)) {fs : List Frame}
    (hl : ∀ (f : JFrame) (acts : List Action), f.method = m → f.locked = none → f.entered = [] → (doReturn e (T.setTop f) acts (some (.int z))).1 = T.setFrames fs) : Steps p.tables e below (T.setTop (mkF m pc Ls (.int z :: rest))) (T.setFrames fs) := by
  have hm' : T.vm.method? m = some meth := X.method'
  have hn : narrow .int (.int z) = .int z := rfl
  show Steps p.tables e below (T.setTop { method := m, pc := pc, locals := Ls, stack := _ :: rest, locked := none }) _
  jvm_step X.here [X.here.top, hx, hd, hm', hret, hn]
  first | (intro acts; rw [hl _ acts rfl rfl rfl]) | rw [hl _ _ rfl rfl rfl]
  exact Steps.refl _
/-- from this state and frame the run comes to an end that P says -/
def own_Go (tb : Tables) (e : Env) (below : List Frame) (P : State → Outcome → Prop) (T : State) (g : JFrame) : Prop := ∃ s₂ o, Steps tb e below (T.setTop g) s₂ ∧ P s₂ o
theorem own_go {tb : Tables} {P : State → Outcome → Prop} {T' : State} {g g' : JFrame} (st : ∀ t, Steps tb e below (T'.setTop g') t → Steps tb e below (T.setTop g) t) (k : own_Go tb e below P T' g') : own_Go tb e below P T g := by
  obtain ⟨s, o, h, q⟩ := k
  exact ⟨s, o, st s h, q⟩
/-- how a body ends: what it returned, its heap and the places that it wrote stand in Q -/
def own_P (below : List Frame) (s : State) (Q : Option Value → Heap → List Loc → Prop) (k n : Nat) (s₂ : State) (o : Outcome) : Prop := s₂.status = .running ∧ Ended s₂ below o ∧ ∃ v L, o = .returned v ∧ Q v s₂.heap L ∧ FrameEnd s o s₂ L k n
theorem own_leave (X : Stand p l e R s m args below meth c T locs cells slots) {Q : Option Value → Heap → List Loc → Prop} {k n : Nat} {v : Option Value} {g : JFrame} (hlk : meth.locks = false) (hv : meth.sig.returnType = none → v = none) (hq : Q v T.heap locs) (hk : cells ≤ k) (hn : slots ≤ n)
    (hst : ∀ fs, (∀ (f : JFrame) (acts : List Action), f.method = m → f.locked = none → f.entered = [] → (doReturn e (T.setTop f) acts v).1 = T.setFrames fs) → Steps p.tables e below (T.setTop g) (T.setFrames fs)) : own_Go p.tables e below (own_P below s Q k n) T g := by
  obtain ⟨fs, hr, hrun, hended, hW, hsame⟩ := X.leave (v := v) hv hlk
  exact ⟨_, _, hst fs hr, hrun, hended, _, _, rfl, hq, ⟨_, rfl⟩, hW, hsame.mono hk hn⟩
section Rets
variable {Q : Option Value → Heap → List Loc → Prop} {k n : Nat} {pc : Nat} {Ls : Array Slot} {rest : List Value}
theorem own_retI (X : Stand p l e R s m args below meth c T locs cells slots) (hx : p.tables.exec = Jvm.exec) {z : Int32} (hret : meth.sig.returnType = some .int) (hlk : meth.locks = false) (hd : decode c.code pc = .ok (.ireturn, 1)) (hk : cells ≤ k) (hn : slots ≤ n) (hq : Q (some (.int z)) T.heap locs) : own_Go p.tables e below (own_P below s Q k n) T (mkF m pc Ls (.int z :: rest)) :=
  own_leave X hlk (fun h => by rw [hret] at h; cases h) hq hk hn (fun fs hr => retI X hx hret hd hr)
theorem own_retN (X : Stand p l e R s m args below meth c T locs cells slots) (hx : p.tables.exec = Jvm.exec) {z : Int32} {t : FieldType} (hret : meth.sig.returnType = some t) (ht : t = .boolean ∨ t = .byte ∨ t = .char ∨ t = .short) (hlk : meth.locks = false) (hd : decode c.code pc = .ok (.ireturn, 1)) (hk : cells ≤ k) (hn : slots ≤ n) (hq : Q (some (.int (nar t z))) T.heap locs) : own_Go p.tables e below (own_P below s Q k n) T (mkF m pc Ls (.int z :: rest)) :=
  own_leave X hlk (fun h => by rw [hret] at h; cases h) hq hk hn (fun fs hr => retN X hx hret ht hd hr)
theorem own_retJ (X : Stand p l e R s m args below meth c T locs cells slots) (hx : p.tables.exec = Jvm.exec) {z : Int64} (hret : meth.sig.returnType = some .long) (hlk : meth.locks = false) (hd : decode c.code pc = .ok (.lreturn, 1)) (hk : cells ≤ k) (hn : slots ≤ n) (hq : Q (some (.long z)) T.heap locs) : own_Go p.tables e below (own_P below s Q k n) T (mkF m pc Ls (.long z :: rest)) :=
  own_leave X hlk (fun h => by rw [hret] at h; cases h) hq hk hn (fun fs hr => retOut X hx hret rfl (Or.inr (Or.inl ⟨rfl, rfl, z, rfl⟩)) hd hr)
theorem own_narR {t : FieldType} {v : Value} (ht : t.isReference = true) : narrow t v = v := by
  cases t <;> simp [FieldType.isReference] at ht <;> rfl
theorem own_retR (X : Stand p l e R s m args below meth c T locs cells slots) (hx : p.tables.exec = Jvm.exec) {z : Value} {t : FieldType} (hret : meth.sig.returnType = some t) (ht : t.isReference = true) (hz : z.isRef = true) (hlk : meth.locks = false) (hd : decode c.code pc = .ok (.areturn, 1)) (hk : cells ≤ k) (hn : slots ≤ n) (hq : Q (some z) T.heap locs) : own_Go p.tables e below (own_P below s Q k n) T (mkF m pc Ls (z :: rest)) :=
  own_leave X hlk (fun h => by rw [hret] at h; cases h) hq hk hn (fun fs hr => retOut X hx hret (own_narR ht) (Or.inr (Or.inr (Or.inr (Or.inr ⟨rfl, ht, hz⟩)))) hd hr)
theorem own_retV (X : Stand p l e R s m args below meth c T locs cells slots) (hx : p.tables.exec = Jvm.exec) (hret : meth.sig.returnType = none) (hlk : meth.locks = false) (hd : decode c.code pc = .ok (.return_, 1)) (hk : cells ≤ k) (hn : slots ≤ n) (hq : Q none T.heap locs) : own_Go p.tables e below (own_P below s Q k n) T (mkF m pc Ls []) :=
  own_leave X hlk (fun _ => rfl) hq hk hn (fun fs hr => X.returnOut hx hret hd hr)
end Rets
/-- a body's contract at one call: its arguments, the heap at the call, what it leaves -/
abbrev own_Met (l : Launch) (y : MethodName) (bytes : ByteArray) (maxL : Nat) (ret : Option FieldType) (ws : List Cond) (rm : Room) (Z : State) (as' : Array Value) (h0 : Heap) (Q : Option Value → Heap → List Loc → Prop) : Prop :=
  MetFree l y (head1 (Cond.code y bytes maxL ret :: ws) rm) (fun a U => a = as' ∧ Z.Warmed39 U.vm ∧ U.heap = h0) (fun _ _ _ _ _ => True) (fun _ U o U' => ∃ v L, o = .returned v ∧ Q v U'.heap L ∧ FrameEnd U o U' L rm.cells rm.slots)
theorem own_body {y : MethodName} {bytes : ByteArray} {maxL : Nat} {ret : Option FieldType} {ws : List Cond} {rm : Room} {Z : State} {as' : Array Value} {h0 : Heap} {Q : Option Value → Heap → List Loc → Prop} (hpl : plainFor y = true)
    (H : ∀ (p : Program) (e : Env) (s : State) (m : MethodId) (below : List Frame) (meth : Method) (c : Code) (s₁ : State), Stand p l e rm s m as' below meth c s₁ [] 0 0 → p.tables.exec = Jvm.exec → c.code = bytes → c.maxLocals = maxL → s.vm.findClass y.cls = some m.cls → meth.name = y.name → meth.sig.returnType = ret → meth.locks = false → Z.Warmed39 s.vm → s₁.heap = h0 → own_Go p.tables e below (own_P below s Q rm.cells rm.slots) s₁ (entryFrame m as' maxL)) :
    own_Met l y bytes maxL ret ws rm Z as' h0 Q := by
  refine MetFree.of_bodySF hpl hisR ?_
  intro p e s m args below meth c s₁ Bd hml hP hK
  obtain ⟨rfl, hZ, hh⟩ := hP
  exact H p e s m below meth c s₁ (Stand.of_body Bd) Bd.exec Bd.bytes hml (findClass_of_methodNamed Bd.named) (name_of_methodNamed Bd.named Bd.method).1 Bd.returns Bd.notSynchronized hZ (by rw [← hh, Bd.state]; rfl)
theorem own_cast {tb : Tables} {P : State → Outcome → Prop} {g g' : JFrame} (q : g = g') (k : own_Go tb e below P T g') : own_Go tb e below P T g := q ▸ k
section Calls
variable {Z : State} {a0 : Array Value} {h : Heap} {own : String} {index : Nat} {y : MethodName} {bytes : ByteArray} {maxL : Nat} {ret : Option FieldType} {rm : Room} {Q : Option Value → Heap → List Loc → Prop}
theorem own_callS (X : Stand p l e R s m args below meth c T locs cells slots) (hx : p.tables.exec = Jvm.exec) (hZ : Z.Warmed39 s.vm) (hown : s.vm.findClass own = some m.cls) (w1 : (Cond.methodLink own index y).before a0 Z = true) (w2 : (Cond.static y).before a0 Z = true) (w3 : (Cond.initialized y.cls).before a0 Z = true) (w4 : (Cond.code y bytes maxL ret).before a0 Z = true)
    (hy : y.cls ≠ "java/lang/invoke/MethodHandle" ∧ y.cls ≠ "java/lang/invoke/VarHandle") (eT : T.heap = h) {argsL rest : List Value} (hM : own_Met l y bytes maxL ret [] rm Z argsL.toArray h Q) (W : Nat) (hf : rm.frames + 1 ≤ R.frames) (hl : W + (maxL + 11) + rm.locals ≤ R.locals) (hc : cells + rm.cells ≤ R.cells) (hs : slots + rm.slots ≤ R.slots)
    {g : JFrame} (hg : g.method = m) (hsize : g.locals.size = c.maxLocals) (hlen : ∀ sig, parseMethodDescriptor y.desc = some sig → argsL.length = sig.parameters.length) (hstack : g.stack = argsL.reverse ++ rest) (hW : 2 * g.monitorRoom + (rest.map fun v => v.category).sum ≤ W) (hdg : decode c.code g.pc = .ok (.invokestatic index, 3)) :
    ∃ (v : Option Value) (T' : State) (h' : Heap) (L : List Loc), Stand p l e R s m args below meth c T' (locs ++ L) (cells + rm.cells) (slots + rm.slots) ∧ T'.heap = h' ∧ Q v h' L ∧ ∀ t, Steps p.tables e below (T'.setTop { g with pc := g.pc + 3, stack := v.toList ++ rest }) t → Steps p.tables e below (T.setTop g) t := by
  obtain ⟨v, _, ⟨T', L', k', n'⟩, -, X', ⟨Lc, hQ, l', y', z'⟩, st⟩ := Jvm.LawKit.callS X hx hown (mvT hZ w1) (mvT hZ w2) (mvT hZ w3) (mvT hZ w4) hy (backOf (W := W) hM hZ w4 w3 hf hl) hg hsize hlen hstack hW hdg (fun _ _ => ⟨rfl, eT, hc, hs⟩)
  dsimp only [Pt.U, Pt.locs, Pt.cells, Pt.slots] at X' l' y' z' st hQ
  subst l' y' z'
  exact ⟨v, T', _, Lc, X', rfl, hQ, st⟩
theorem own_callI (X : Stand p l e R s m args below meth c T locs cells slots) (hx : p.tables.exec = Jvm.exec) (hZ : Z.Warmed39 s.vm) (hn : y.name = "<init>") (hown : s.vm.findClass own = some m.cls) (w1 : (Cond.methodLink own index y).before a0 Z = true) (w2 : (Cond.instanceMethod y).before a0 Z = true) (w3 : (Cond.initialized y.cls).before a0 Z = true) (w4 : (Cond.code y bytes maxL none).before a0 Z = true)
    (hy : y.cls ≠ "java/lang/invoke/MethodHandle" ∧ y.cls ≠ "java/lang/invoke/VarHandle") (eT : T.heap = h) {a : Addr} {argsL rest : List Value} (hM : own_Met l y bytes maxL none [] rm Z (.ref a :: argsL).toArray h Q) (W : Nat) (hf : rm.frames + 1 ≤ R.frames) (hl : W + (maxL + 11) + rm.locals ≤ R.locals) (hc : cells + rm.cells ≤ R.cells) (hs : slots + rm.slots ≤ R.slots)
    {g : JFrame} (hg : g.method = m) (hsize : g.locals.size = c.maxLocals) (hlen : ∀ sig, parseMethodDescriptor y.desc = some sig → argsL.length = sig.parameters.length) (hstack : g.stack = argsL.reverse ++ .ref a :: rest) (hW : 2 * g.monitorRoom + (rest.map fun v => v.category).sum ≤ W) (hdg : decode c.code g.pc = .ok (.invokespecial index, 3)) :
    ∃ (v : Option Value) (T' : State) (h' : Heap) (L : List Loc), Stand p l e R s m args below meth c T' (locs ++ L) (cells + rm.cells) (slots + rm.slots) ∧ T'.heap = h' ∧ Q v h' L ∧ ∀ t, Steps p.tables e below (T'.setTop { g with pc := g.pc + 3, stack := v.toList ++ rest }) t → Steps p.tables e below (T.setTop g) t := by
  obtain ⟨v, _, ⟨T', L', k', n'⟩, -, X', ⟨Lc, hQ, l', y', z'⟩, st⟩ := X.specialBack hx hn hown (mvT hZ w1) (mvT hZ w2) (mvT hZ w4) hy (backOf (W := W) hM hZ w4 w3 hf hl) hg hsize (Steps.refl _) hlen hstack hW hdg (fun _ _ => ⟨rfl, eT, hc, hs⟩)
  dsimp only [Pt.U, Pt.locs, Pt.cells, Pt.slots] at X' l' y' z' st hQ
  subst l' y' z'
  exact ⟨v, T', _, Lc, X', rfl, hQ, fun t k => st.trans k⟩
theorem own_callV {C : String} {z : MethodName} (X : Stand p l e R s m args below meth c T locs cells slots) (hx : p.tables.exec = Jvm.exec) (hZ : Z.Warmed39 s.vm) (hown : s.vm.findClass own = some m.cls) (w1 : (Cond.methodLink own index y).before a0 Z = true) (w2 : (Cond.declares y).before a0 Z = true) (w3 : (Cond.selects C y z).before a0 Z = true) (hnf : NotFace s y) (w5 : (Cond.instanceMethod z).before a0 Z = true) (w6 : (Cond.initialized z.cls).before a0 Z = true) (w4 : (Cond.code z bytes maxL ret).before a0 Z = true)
    (hy : y.cls ≠ "java/lang/invoke/MethodHandle" ∧ y.cls ≠ "java/lang/invoke/VarHandle") (eT : T.heap = h) {a : Addr} (E : Exa Z h a C) {argsL rest : List Value} (hM : own_Met l z bytes maxL ret [] rm Z (.ref a :: argsL).toArray h Q) (W : Nat) (hf : rm.frames + 1 ≤ R.frames) (hl : W + (maxL + 11) + rm.locals ≤ R.locals) (hc : cells + rm.cells ≤ R.cells) (hs : slots + rm.slots ≤ R.slots)
    {g : JFrame} (hg : g.method = m) (hsize : g.locals.size = c.maxLocals) (hlen : ∀ sig, parseMethodDescriptor y.desc = some sig → argsL.length = sig.parameters.length) (hstack : g.stack = argsL.reverse ++ .ref a :: rest) (hW : 2 * g.monitorRoom + (rest.map fun v => v.category).sum ≤ W) (hdg : decode c.code g.pc = .ok (.invokevirtual index, 3)) :
    ∃ (v : Option Value) (T' : State) (h' : Heap) (L : List Loc), Stand p l e R s m args below meth c T' (locs ++ L) (cells + rm.cells) (slots + rm.slots) ∧ T'.heap = h' ∧ Q v h' L ∧ ∀ t, Steps p.tables e below (T'.setTop { g with pc := g.pc + 3, stack := v.toList ++ rest }) t → Steps p.tables e below (T.setTop g) t := by
  obtain ⟨cq, kq, qa, qb, qc⟩ := isOf hZ eT E
  obtain ⟨v, _, ⟨T', L', k', n'⟩, -, X', ⟨Lc, hQ, l', y', z'⟩, st⟩ := X.virtualBack hx hown (mvT hZ w1) (mvT hZ w2) hnf (mvT hZ w3) (mvT hZ w5) hy (backOf (W := W) hM hZ w4 w6 hf hl) qa qc hg hsize (Steps.refl _) hlen hstack hW hdg (fun _ _ => ⟨rfl, eT, hc, hs⟩)
  dsimp only [Pt.U, Pt.locs, Pt.cells, Pt.slots] at X' l' y' z' st hQ
  subst l' y' z'
  exact ⟨v, T', _, Lc, X', rfl, hQ, fun t k => st.trans k⟩
theorem own_callP (X : Stand p l e R s m args below meth c T locs cells slots) (hx : p.tables.exec = Jvm.exec) (hZ : Z.Warmed39 s.vm) (hown : s.vm.findClass own = some m.cls) (w1 : (Cond.methodLink own index y).before a0 Z = true) (w2 : (Cond.instanceMethod y).before a0 Z = true) (w3 : (Cond.selects y.cls y y).before a0 Z = true) (w5 : (Cond.privateMethod y).before a0 Z = true) (w6 : (Cond.initialized y.cls).before a0 Z = true) (w4 : (Cond.code y bytes maxL ret).before a0 Z = true)
    (hy : y.cls ≠ "java/lang/invoke/MethodHandle" ∧ y.cls ≠ "java/lang/invoke/VarHandle") (eT : T.heap = h) {a : Addr} {C : String} (E : Exa Z h a C) {argsL rest : List Value} (hM : own_Met l y bytes maxL ret [] rm Z (.ref a :: argsL).toArray h Q) (W : Nat) (hf : rm.frames + 1 ≤ R.frames) (hl : W + (maxL + 11) + rm.locals ≤ R.locals) (hc : cells + rm.cells ≤ R.cells) (hs : slots + rm.slots ≤ R.slots)
    {g : JFrame} (hg : g.method = m) (hsize : g.locals.size = c.maxLocals) (hlen : ∀ sig, parseMethodDescriptor y.desc = some sig → argsL.length = sig.parameters.length) (hstack : g.stack = argsL.reverse ++ .ref a :: rest) (hW : 2 * g.monitorRoom + (rest.map fun v => v.category).sum ≤ W) (hdg : decode c.code g.pc = .ok (.invokevirtual index, 3)) :
    ∃ (v : Option Value) (T' : State) (h' : Heap) (L : List Loc), Stand p l e R s m args below meth c T' (locs ++ L) (cells + rm.cells) (slots + rm.slots) ∧ T'.heap = h' ∧ Q v h' L ∧ ∀ t, Steps p.tables e below (T'.setTop { g with pc := g.pc + 3, stack := v.toList ++ rest }) t → Steps p.tables e below (T.setTop g) t := by
  obtain ⟨cq, q1, q2⟩ := E.cell
  obtain ⟨v, _, ⟨T', L', k', n'⟩, -, X', ⟨Lc, hQ, l', y', z'⟩, st⟩ := X.privateBack hx hown (mvT hZ w1) (mvT hZ w2) (mvT hZ w3) (Cond.privateMethod_at (mvP hZ w5 (args := #[]))) (mvT hZ w4) hy (backOf (W := W) hM hZ w4 w6 hf hl) hg hsize (Steps.refl _) (by rw [eT]; exact q1) q2 hlen hstack hW hdg (fun _ _ => ⟨rfl, eT, hc, hs⟩)
  dsimp only [Pt.U, Pt.locs, Pt.cells, Pt.slots] at X' l' y' z' st hQ
  subst l' y' z'
  exact ⟨v, T', _, Lc, X', rfl, hQ, fun t k => st.trans k⟩
theorem own_callF {C : String} {z : MethodName} {count : Nat} (X : Stand p l e R s m args below meth c T locs cells slots) (hx : p.tables.exec = Jvm.exec) (hZ : Z.Warmed39 s.vm) (hown : s.vm.findClass own = some m.cls) (w1 : (Cond.methodLink own index y).before a0 Z = true) (w2 : (Cond.declares y).before a0 Z = true) (w3 : (Cond.interfaceMethod y.cls y.cls y.name y.desc).before args s = true) (w5 : (Cond.selects C y z).before a0 Z = true) (w7 : (Cond.instanceMethod z).before a0 Z = true) (w8 : (Cond.publicMethod z).before a0 Z = true) (w9 : (Cond.unhidden C y.name y.desc).before a0 Z = true) (w10 : (Cond.castable C y.cls).before a0 Z = true) (w6 : (Cond.initialized z.cls).before a0 Z = true) (w4 : (Cond.code z bytes maxL ret).before a0 Z = true)
    (hy : y.cls ≠ "java/lang/invoke/MethodHandle" ∧ y.cls ≠ "java/lang/invoke/VarHandle") (eT : T.heap = h) {a : Addr} (E : Exa Z h a C) {argsL rest : List Value} (hM : own_Met l z bytes maxL ret [] rm Z (.ref a :: argsL).toArray h Q) (W : Nat) (hf : rm.frames + 1 ≤ R.frames) (hl : W + (maxL + 11) + rm.locals ≤ R.locals) (hc : cells + rm.cells ≤ R.cells) (hs : slots + rm.slots ≤ R.slots)
    {g : JFrame} (hg : g.method = m) (hsize : g.locals.size = c.maxLocals) (hlen : ∀ sig, parseMethodDescriptor y.desc = some sig → argsL.length = sig.parameters.length) (hstack : g.stack = argsL.reverse ++ .ref a :: rest) (hW : 2 * g.monitorRoom + (rest.map fun v => v.category).sum ≤ W) (hdg : decode c.code g.pc = .ok (.invokeinterface index count, 5)) :
    ∃ (v : Option Value) (T' : State) (h' : Heap) (L : List Loc), Stand p l e R s m args below meth c T' (locs ++ L) (cells + rm.cells) (slots + rm.slots) ∧ T'.heap = h' ∧ Q v h' L ∧ ∀ t, Steps p.tables e below (T'.setTop { g with pc := g.pc + 5, stack := v.toList ++ rest }) t → Steps p.tables e below (T.setTop g) t := by
  obtain ⟨cq, kq, qa, qb, qc⟩ := isOf hZ eT E
  obtain ⟨v, _, ⟨T', L', k', n'⟩, -, X', ⟨Lc, hQ, l', y', z'⟩, st⟩ := X.interfaceBack hx hown (mvT hZ w1) (mvT hZ w2) w3 (mvT hZ w5) (mvT hZ w7) (mvT hZ w8) (mvT hZ w9) (mvT hZ w10) hy (backOf (W := W) hM hZ w4 w6 hf hl) qa qb qc hg hsize (Steps.refl _) hlen hstack hW hdg (fun _ _ => ⟨rfl, eT, hc, hs⟩)
  dsimp only [Pt.U, Pt.locs, Pt.cells, Pt.slots] at X' l' y' z' st hQ
  subst l' y' z'
  exact ⟨v, T', _, Lc, X', rfl, hQ, fun t k => st.trans k⟩
end Calls
end OwnKit
end Jvm.RoadKit
namespace Jvm.Pilot.@@N@@
open Jvm Jvm.ClassFile Sem Op Lib Jvm.Free Jvm.Stand Jvm.LawKit Jvm.RoadKit Bundle Jvm.Pilot.@@N@@.Jvm.D
def own_ic (x : Int32) : Int32 := if x < (-1 : Int32) then (if x < (-128 : Int32) then (3 : Int32) else if (127 : Int32) < x then (3 : Int32) else (2 : Int32)) else if (5 : Int32) < x then (if x < (-128 : Int32) then (3 : Int32) else if (127 : Int32) < x then (3 : Int32) else (2 : Int32)) else (1 : Int32)
theorem own_lts (x : Int32) (k : Int32) : x < k ↔ x.toInt < k.toInt := Int32.lt_iff_toInt_lt
theorem own_e : (-1 : Int32).toInt = -1 ∧ (-128 : Int32).toInt = -128 ∧ (127 : Int32).toInt = 127 ∧ (5 : Int32).toInt = 5 ∧ (0 : Int64).toInt = 0 ∧ (1 : Int64).toInt = 1 ∧ (6 : Int64).toInt = 6 := by decide
theorem own_sh (x : Int32) : (x.toInt64 + (1 : Int64)).toInt = x.toInt + 1 := by
  have a := c_ladd x.toInt64 (1 : Int64)
  have r := rng32 x
  have r2 := rng64 (x.toInt64 + (1 : Int64))
  rw [c_i2l, own_e.2.2.2.2.2.1] at a
  omega
theorem own_ic_one (x : Int32) (h0 : ¬ (x.toInt64 + (1 : Int64)) < (0 : Int64)) (h1 : ¬ (6 : Int64) < (x.toInt64 + (1 : Int64))) : (1 : Int32) = own_ic x := by
  obtain ⟨e1, e2, e3, e4, e5, e6, e7⟩ := own_e
  rw [Int64.lt_iff_toInt_lt, own_sh, e5] at h0
  rw [Int64.lt_iff_toInt_lt, own_sh, e7] at h1
  rw [own_ic, if_neg (by rw [Int32.lt_iff_toInt_lt, e1]; omega), if_neg (by rw [Int32.lt_iff_toInt_lt, e4]; omega)]
theorem own_ic_two (x : Int32) (h : (x.toInt64 + (1 : Int64)) < (0 : Int64) ∨ (6 : Int64) < (x.toInt64 + (1 : Int64))) (h1 : (x).toInt8.toInt32 = x) : (2 : Int32) = own_ic x := by
  obtain ⟨e1, e2, e3, e4, e5, e6, e7⟩ := own_e
  rw [Int64.lt_iff_toInt_lt, Int64.lt_iff_toInt_lt, own_sh, e5, e7] at h
  have b := c_i2b x
  rw [h1] at b
  have n1 : ¬ x < (-128 : Int32) := by rw [Int32.lt_iff_toInt_lt, e2]; omega
  have n2 : ¬ (127 : Int32) < x := by rw [Int32.lt_iff_toInt_lt, e3]; omega
  by_cases q : x < (-1 : Int32)
  · rw [own_ic, if_pos q, if_neg n1, if_neg n2]
  · rw [own_ic, if_neg q, if_pos (by rw [Int32.lt_iff_toInt_lt, e1] at q; rw [Int32.lt_iff_toInt_lt, e4]; omega), if_neg n1, if_neg n2]
theorem own_ic_three (x : Int32) (h : (x.toInt64 + (1 : Int64)) < (0 : Int64) ∨ (6 : Int64) < (x.toInt64 + (1 : Int64))) (h1 : ¬ (x).toInt8.toInt32 = x) : (3 : Int32) = own_ic x := by
  obtain ⟨e1, e2, e3, e4, e5, e6, e7⟩ := own_e
  rw [Int64.lt_iff_toInt_lt, Int64.lt_iff_toInt_lt, own_sh, e5, e7] at h
  have b := c_i2b x
  have h2 : ¬ (x).toInt8.toInt32.toInt = x.toInt := fun q => h1 (Int32.toInt_inj.mp q)
  have n3 : (if x < (-128 : Int32) then (3 : Int32) else if (127 : Int32) < x then (3 : Int32) else (2 : Int32)) = (3 : Int32) := by
    by_cases q : x < (-128 : Int32)
    · rw [if_pos q]
    · rw [if_neg q, if_pos]
      rw [Int32.lt_iff_toInt_lt, e2] at q
      rw [Int32.lt_iff_toInt_lt, e3]
      omega
  by_cases q : x < (-1 : Int32)
  · rw [own_ic, if_pos q, n3]
  · rw [own_ic, if_neg q, if_pos (by rw [Int32.lt_iff_toInt_lt, e1] at q; rw [Int32.lt_iff_toInt_lt, e4]; omega), n3]
theorem own_getD : ∀ (zs : List Int32) (i : Nat), (zs.map Value.int).getD i (.int (0 : Int32)) = .int (zs.getD i (0 : Int32))
  | [], _ => rfl
  | _ :: _, 0 => rfl
  | _ :: t, i + 1 => own_getD t i
theorem own_idx (k : Int32) : ¬ ((k &&& (2147483647 : Int32)) % (12 : Int32)) < 0 ∧ ((k &&& (2147483647 : Int32)) % (12 : Int32)) < (12 : Int32) := by
  have a := c_mask k (2147483647 : Int32) 31 (by decide) (by decide)
  have b := (c_irem (k &&& (2147483647 : Int32)) (12 : Int32) 12 (by decide)).1 (by omega)
  have e0 : (0 : Int32).toInt = 0 := by decide
  have e12 : (12 : Int32).toInt = 12 := by decide
  rw [Int32.lt_iff_toInt_lt, Int32.lt_iff_toInt_lt, e0, e12]
  omega
theorem d1_0 : decode method_3_code 0 = .ok (.iload_n 0, 1) := by decide +kernel
theorem d1_1 : decode method_3_code 1 = .ok (.invokestatic 9, 3) := by decide +kernel
theorem d1_4 : decode method_3_code 4 = .ok (.iload_n 0, 1) := by decide +kernel
theorem d1_5 : decode method_3_code 5 = .ok (.invokestatic 15, 3) := by decide +kernel
theorem d1_8 : decode method_3_code 8 = .ok (.if_icmp .ne 7, 3) := by decide +kernel
theorem d1_11 : decode method_3_code 11 = .ok (.iconst 1, 1) := by decide +kernel
theorem d1_12 : decode method_3_code 12 = .ok (.goto 4, 3) := by decide +kernel
theorem d1_16 : decode method_3_code 16 = .ok (.ireturn, 1) := by decide +kernel
theorem d2_0 : decode prog_60_method_2_code 0 = .ok (.iload_n 0, 1) := by decide +kernel
theorem d2_1 : decode prog_60_method_2_code 1 = .ok (.iconst (-1), 1) := by decide +kernel
theorem d2_2 : decode prog_60_method_2_code 2 = .ok (.if_icmp .lt 10, 3) := by decide +kernel
theorem d2_5 : decode prog_60_method_2_code 5 = .ok (.iload_n 0, 1) := by decide +kernel
theorem d2_6 : decode prog_60_method_2_code 6 = .ok (.iconst 5, 1) := by decide +kernel
theorem d2_7 : decode prog_60_method_2_code 7 = .ok (.if_icmp .gt 5, 3) := by decide +kernel
theorem d2_10 : decode prog_60_method_2_code 10 = .ok (.iconst 1, 1) := by decide +kernel
theorem d2_11 : decode prog_60_method_2_code 11 = .ok (.ireturn, 1) := by decide +kernel
theorem d2_12 : decode prog_60_method_2_code 12 = .ok (.iload_n 0, 1) := by decide +kernel
theorem d2_13 : decode prog_60_method_2_code 13 = .ok (.bipush (-128), 2) := by decide +kernel
theorem d2_15 : decode prog_60_method_2_code 15 = .ok (.if_icmp .lt 13, 3) := by decide +kernel
theorem d2_18 : decode prog_60_method_2_code 18 = .ok (.iload_n 0, 1) := by decide +kernel
theorem d2_19 : decode prog_60_method_2_code 19 = .ok (.bipush 127, 2) := by decide +kernel
theorem d2_21 : decode prog_60_method_2_code 21 = .ok (.if_icmp .gt 7, 3) := by decide +kernel
theorem d2_24 : decode prog_60_method_2_code 24 = .ok (.iconst 2, 1) := by decide +kernel
theorem d2_25 : decode prog_60_method_2_code 25 = .ok (.goto 4, 3) := by decide +kernel
theorem d2_28 : decode prog_60_method_2_code 28 = .ok (.iconst 3, 1) := by decide +kernel
theorem d2_29 : decode prog_60_method_2_code 29 = .ok (.ireturn, 1) := by decide +kernel
theorem d3_0 : decode method_2_code 0 = .ok (.iload_n 0, 1) := by decide +kernel
theorem d3_1 : decode method_2_code 1 = .ok (.i2l, 1) := by decide +kernel
theorem d3_2 : decode method_2_code 2 = .ok (.lconst 1, 1) := by decide +kernel
theorem d3_3 : decode method_2_code 3 = .ok (.ladd, 1) := by decide +kernel
theorem d3_4 : decode method_2_code 4 = .ok (.lstore_n 1, 1) := by decide +kernel
theorem d3_5 : decode method_2_code 5 = .ok (.lload_n 1, 1) := by decide +kernel
theorem d3_6 : decode method_2_code 6 = .ok (.lconst 0, 1) := by decide +kernel
theorem d3_7 : decode method_2_code 7 = .ok (.lcmp, 1) := by decide +kernel
theorem d3_8 : decode method_2_code 8 = .ok (.ifCond .lt 13, 3) := by decide +kernel
theorem d3_11 : decode method_2_code 11 = .ok (.lload_n 1, 1) := by decide +kernel
theorem d3_12 : decode method_2_code 12 = .ok (.ldc2_w 7, 3) := by decide +kernel
theorem d3_15 : decode method_2_code 15 = .ok (.lcmp, 1) := by decide +kernel
theorem d3_16 : decode method_2_code 16 = .ok (.ifCond .gt 5, 3) := by decide +kernel
theorem d3_19 : decode method_2_code 19 = .ok (.iconst 1, 1) := by decide +kernel
theorem d3_20 : decode method_2_code 20 = .ok (.ireturn, 1) := by decide +kernel
theorem d3_21 : decode method_2_code 21 = .ok (.iload_n 0, 1) := by decide +kernel
theorem d3_22 : decode method_2_code 22 = .ok (.i2b, 1) := by decide +kernel
theorem d3_23 : decode method_2_code 23 = .ok (.iload_n 0, 1) := by decide +kernel
theorem d3_24 : decode method_2_code 24 = .ok (.if_icmp .ne 5, 3) := by decide +kernel
theorem d3_27 : decode method_2_code 27 = .ok (.iconst 2, 1) := by decide +kernel
theorem d3_28 : decode method_2_code 28 = .ok (.ireturn, 1) := by decide +kernel
theorem d3_29 : decode method_2_code 29 = .ok (.iconst 3, 1) := by decide +kernel
theorem d3_30 : decode method_2_code 30 = .ok (.ireturn, 1) := by decide +kernel
theorem pd0 : parseMethodDescriptor "(I)I" = some ⟨[.int], some .int⟩ := by decide +kernel
theorem pd1 : parseMethodDescriptor "(I)Z" = some ⟨[.int], some .boolean⟩ := by decide +kernel
set_option maxRecDepth 65536 in
set_option maxHeartbeats 40000000 in
theorem rm2 (l : Launch) (Z : State) (a0 : Array Value) (hw : ∀ d ∈ tables_1, d.before a0 Z = true) (ws : List Jvm.Cond) (p1 : Int32) (h0 : Heap) (n0 : Nat) (Z0 : n0 ≤ h0.size) :
    own_Met l (⟨"isthmus/generator/Bytecode", "intConstant", "(I)I"⟩ : MethodName) prog_60_method_2_code 1 (some .int) ws ({ frames := 0, cells := 0, slots := 0, locals := 0 } : Room) Z #[(.int p1)] h0 (fun v h L => v = some (.int (own_ic p1)) ∧ Fr n0 L ∧ h0 = h) := by
  refine own_body (plainFor_of_name (by first | (simp [plainName, overriddenIn]; done) | decide +kernel)) ?_
  intro p e s m below meth c s₁ X0 hx hby hml hown hnm hret hlk hZ e0
  have N0 := Fr.nil n0
  refine own_cast (show entryFrame m #[(.int p1)] 1 = mkF m 0 #[.val (.int p1)] [] from by first | (simp [entryFrame, mkF, argsToLocals, Value.category]; done) | rfl) ?_
  show own_Go _ _ _ _ s₁ (mkF m 0 #[.val (.int p1)] [])
  refine own_go (fun _ k => XS.iloadN X0.here hx rfl (hb hby d2_0) rfl k) ?_
  show own_Go _ _ _ _ s₁ (mkF m 1 #[.val (.int p1)] [(.int p1)])
  refine own_go (fun _ k => XS.iconst X0.here hx rfl (hb hby d2_1) k) ?_
  show own_Go _ _ _ _ s₁ (mkF m 2 #[.val (.int p1)] [(.int (-1 : Int32)), (.int p1)])
  by_cases hc0 : p1 < (-1 : Int32)
  · skip
    refine own_go (fun _ k => XS.icmpYes X0.here hx rfl (pc0 := 2) (pc' := 12) rfl (hb hby d2_2) rfl (tlt hc0).1 (by decide) (by decide) k) ?_
    show own_Go _ _ _ _ s₁ (mkF m 12 #[.val (.int p1)] [])
    refine own_go (fun _ k => XS.iloadN X0.here hx rfl (hb hby d2_12) rfl k) ?_
    show own_Go _ _ _ _ s₁ (mkF m 13 #[.val (.int p1)] [(.int p1)])
    refine own_go (fun _ k => XS.bipush X0.here hx rfl (hb hby d2_13) k) ?_
    show own_Go _ _ _ _ s₁ (mkF m 15 #[.val (.int p1)] [(.int (-128 : Int32)), (.int p1)])
    by_cases hc1 : p1 < (-128 : Int32)
    · skip
      refine own_go (fun _ k => XS.icmpYes X0.here hx rfl (pc0 := 15) (pc' := 28) rfl (hb hby d2_15) rfl (tlt hc1).1 (by decide) (by decide) k) ?_
      show own_Go _ _ _ _ s₁ (mkF m 28 #[.val (.int p1)] [])
      refine own_go (fun _ k => XS.iconst X0.here hx rfl (hb hby d2_28) k) ?_
      show own_Go _ _ _ _ s₁ (mkF m 29 #[.val (.int p1)] [(.int (3 : Int32))])
      exact own_retI X0 hx hret hlk (hb hby d2_29) (by decide) (by decide) (by first | exact ⟨by simp [own_ic, *], N0, rfl⟩ | (rw [e0]; exact ⟨by simp [own_ic, *], N0, rfl⟩))
    · skip
      refine own_go (fun _ k => XS.icmpNo X0.here hx rfl (hb hby d2_15) rfl (flt hc1).1 k) ?_
      show own_Go _ _ _ _ s₁ (mkF m 18 #[.val (.int p1)] [])
      refine own_go (fun _ k => XS.iloadN X0.here hx rfl (hb hby d2_18) rfl k) ?_
      show own_Go _ _ _ _ s₁ (mkF m 19 #[.val (.int p1)] [(.int p1)])
      refine own_go (fun _ k => XS.bipush X0.here hx rfl (hb hby d2_19) k) ?_
      show own_Go _ _ _ _ s₁ (mkF m 21 #[.val (.int p1)] [(.int (127 : Int32)), (.int p1)])
      by_cases hc2 : (127 : Int32) < p1
      · skip
        refine own_go (fun _ k => XS.icmpYes X0.here hx rfl (pc0 := 21) (pc' := 28) rfl (hb hby d2_21) rfl (tlt hc2).2.2.1 (by decide) (by decide) k) ?_
        show own_Go _ _ _ _ s₁ (mkF m 28 #[.val (.int p1)] [])
        refine own_go (fun _ k => XS.iconst X0.here hx rfl (hb hby d2_28) k) ?_
        show own_Go _ _ _ _ s₁ (mkF m 29 #[.val (.int p1)] [(.int (3 : Int32))])
        exact own_retI X0 hx hret hlk (hb hby d2_29) (by decide) (by decide) (by first | exact ⟨by simp [own_ic, *], N0, rfl⟩ | (rw [e0]; exact ⟨by simp [own_ic, *], N0, rfl⟩))
      · skip
        refine own_go (fun _ k => XS.icmpNo X0.here hx rfl (hb hby d2_21) rfl (flt hc2).2.2.1 k) ?_
        show own_Go _ _ _ _ s₁ (mkF m 24 #[.val (.int p1)] [])
        refine own_go (fun _ k => XS.iconst X0.here hx rfl (hb hby d2_24) k) ?_
        show own_Go _ _ _ _ s₁ (mkF m 25 #[.val (.int p1)] [(.int (2 : Int32))])
        refine own_go (fun _ k => XS.goto X0.here hx rfl (pc0 := 25) (pc' := 29) rfl (hb hby d2_25) (by decide) (by decide) k) ?_
        show own_Go _ _ _ _ s₁ (mkF m 29 #[.val (.int p1)] [(.int (2 : Int32))])
        exact own_retI X0 hx hret hlk (hb hby d2_29) (by decide) (by decide) (by first | exact ⟨by simp [own_ic, *], N0, rfl⟩ | (rw [e0]; exact ⟨by simp [own_ic, *], N0, rfl⟩))
  · skip
    refine own_go (fun _ k => XS.icmpNo X0.here hx rfl (hb hby d2_2) rfl (flt hc0).1 k) ?_
    show own_Go _ _ _ _ s₁ (mkF m 5 #[.val (.int p1)] [])
    refine own_go (fun _ k => XS.iloadN X0.here hx rfl (hb hby d2_5) rfl k) ?_
    show own_Go _ _ _ _ s₁ (mkF m 6 #[.val (.int p1)] [(.int p1)])
    refine own_go (fun _ k => XS.iconst X0.here hx rfl (hb hby d2_6) k) ?_
    show own_Go _ _ _ _ s₁ (mkF m 7 #[.val (.int p1)] [(.int (5 : Int32)), (.int p1)])
    by_cases hc1 : (5 : Int32) < p1
    · skip
      refine own_go (fun _ k => XS.icmpYes X0.here hx rfl (pc0 := 7) (pc' := 12) rfl (hb hby d2_7) rfl (tlt hc1).2.2.1 (by decide) (by decide) k) ?_
      show own_Go _ _ _ _ s₁ (mkF m 12 #[.val (.int p1)] [])
      refine own_go (fun _ k => XS.iloadN X0.here hx rfl (hb hby d2_12) rfl k) ?_
      show own_Go _ _ _ _ s₁ (mkF m 13 #[.val (.int p1)] [(.int p1)])
      refine own_go (fun _ k => XS.bipush X0.here hx rfl (hb hby d2_13) k) ?_
      show own_Go _ _ _ _ s₁ (mkF m 15 #[.val (.int p1)] [(.int (-128 : Int32)), (.int p1)])
      by_cases hc2 : p1 < (-128 : Int32)
      · skip
        refine own_go (fun _ k => XS.icmpYes X0.here hx rfl (pc0 := 15) (pc' := 28) rfl (hb hby d2_15) rfl (tlt hc2).1 (by decide) (by decide) k) ?_
        show own_Go _ _ _ _ s₁ (mkF m 28 #[.val (.int p1)] [])
        refine own_go (fun _ k => XS.iconst X0.here hx rfl (hb hby d2_28) k) ?_
        show own_Go _ _ _ _ s₁ (mkF m 29 #[.val (.int p1)] [(.int (3 : Int32))])
        exact own_retI X0 hx hret hlk (hb hby d2_29) (by decide) (by decide) (by first | exact ⟨by simp [own_ic, *], N0, rfl⟩ | (rw [e0]; exact ⟨by simp [own_ic, *], N0, rfl⟩))
      · skip
        refine own_go (fun _ k => XS.icmpNo X0.here hx rfl (hb hby d2_15) rfl (flt hc2).1 k) ?_
        show own_Go _ _ _ _ s₁ (mkF m 18 #[.val (.int p1)] [])
        refine own_go (fun _ k => XS.iloadN X0.here hx rfl (hb hby d2_18) rfl k) ?_
        show own_Go _ _ _ _ s₁ (mkF m 19 #[.val (.int p1)] [(.int p1)])
        refine own_go (fun _ k => XS.bipush X0.here hx rfl (hb hby d2_19) k) ?_
        show own_Go _ _ _ _ s₁ (mkF m 21 #[.val (.int p1)] [(.int (127 : Int32)), (.int p1)])
        by_cases hc3 : (127 : Int32) < p1
        · skip
          refine own_go (fun _ k => XS.icmpYes X0.here hx rfl (pc0 := 21) (pc' := 28) rfl (hb hby d2_21) rfl (tlt hc3).2.2.1 (by decide) (by decide) k) ?_
          show own_Go _ _ _ _ s₁ (mkF m 28 #[.val (.int p1)] [])
          refine own_go (fun _ k => XS.iconst X0.here hx rfl (hb hby d2_28) k) ?_
          show own_Go _ _ _ _ s₁ (mkF m 29 #[.val (.int p1)] [(.int (3 : Int32))])
          exact own_retI X0 hx hret hlk (hb hby d2_29) (by decide) (by decide) (by first | exact ⟨by simp [own_ic, *], N0, rfl⟩ | (rw [e0]; exact ⟨by simp [own_ic, *], N0, rfl⟩))
        · skip
          refine own_go (fun _ k => XS.icmpNo X0.here hx rfl (hb hby d2_21) rfl (flt hc3).2.2.1 k) ?_
          show own_Go _ _ _ _ s₁ (mkF m 24 #[.val (.int p1)] [])
          refine own_go (fun _ k => XS.iconst X0.here hx rfl (hb hby d2_24) k) ?_
          show own_Go _ _ _ _ s₁ (mkF m 25 #[.val (.int p1)] [(.int (2 : Int32))])
          refine own_go (fun _ k => XS.goto X0.here hx rfl (pc0 := 25) (pc' := 29) rfl (hb hby d2_25) (by decide) (by decide) k) ?_
          show own_Go _ _ _ _ s₁ (mkF m 29 #[.val (.int p1)] [(.int (2 : Int32))])
          exact own_retI X0 hx hret hlk (hb hby d2_29) (by decide) (by decide) (by first | exact ⟨by simp [own_ic, *], N0, rfl⟩ | (rw [e0]; exact ⟨by simp [own_ic, *], N0, rfl⟩))
    · skip
      refine own_go (fun _ k => XS.icmpNo X0.here hx rfl (hb hby d2_7) rfl (flt hc1).2.2.1 k) ?_
      show own_Go _ _ _ _ s₁ (mkF m 10 #[.val (.int p1)] [])
      refine own_go (fun _ k => XS.iconst X0.here hx rfl (hb hby d2_10) k) ?_
      show own_Go _ _ _ _ s₁ (mkF m 11 #[.val (.int p1)] [(.int (1 : Int32))])
      exact own_retI X0 hx hret hlk (hb hby d2_11) (by decide) (by decide) (by first | exact ⟨by simp [own_ic, *], N0, rfl⟩ | (rw [e0]; exact ⟨by simp [own_ic, *], N0, rfl⟩))
set_option maxRecDepth 65536 in
set_option maxHeartbeats 40000000 in
theorem rm3 (l : Launch) (Z : State) (a0 : Array Value) (hw : ∀ d ∈ tables_1, d.before a0 Z = true) (ws : List Jvm.Cond) (p1 : Int32) (h0 : Heap) (n0 : Nat) (Z0 : n0 ≤ h0.size) :
    own_Met l (⟨"isthmus/generator/BytecodeIntConstantPinLaw", "expected", "(I)I"⟩ : MethodName) method_2_code 3 (some .int) ws ({ frames := 0, cells := 0, slots := 0, locals := 0 } : Room) Z #[(.int p1)] h0 (fun v h L => v = some (.int (own_ic p1)) ∧ Fr n0 L ∧ h0 = h) := by
  refine own_body (plainFor_of_name (by first | (simp [plainName, overriddenIn]; done) | decide +kernel)) ?_
  intro p e s m below meth c s₁ X0 hx hby hml hown hnm hret hlk hZ e0
  have N0 := Fr.nil n0
  refine own_cast (show entryFrame m #[(.int p1)] 3 = mkF m 0 #[.val (.int p1), .unset, .unset] [] from by first | (simp [entryFrame, mkF, argsToLocals, Value.category]; done) | rfl) ?_
  show own_Go _ _ _ _ s₁ (mkF m 0 #[.val (.int p1), .unset, .unset] [])
  refine own_go (fun _ k => XS.iloadN X0.here hx rfl (hb hby d3_0) rfl k) ?_
  show own_Go _ _ _ _ s₁ (mkF m 1 #[.val (.int p1), .unset, .unset] [(.int p1)])
  refine own_go (fun _ k => XS.i2l X0.here hx rfl (hb hby d3_1) rfl k) ?_
  show own_Go _ _ _ _ s₁ (mkF m 2 #[.val (.int p1), .unset, .unset] [(.long (p1).toInt64)])
  refine own_go (fun _ k => XS.lconst X0.here hx rfl (hb hby d3_2) k) ?_
  show own_Go _ _ _ _ s₁ (mkF m 3 #[.val (.int p1), .unset, .unset] [(.long (1 : Int64)), (.long (p1).toInt64)])
  refine own_go (fun _ k => XS.ladd X0.here hx rfl (hb hby d3_3) rfl k) ?_
  show own_Go _ _ _ _ s₁ (mkF m 4 #[.val (.int p1), .unset, .unset] [(.long ((p1).toInt64 + (1 : Int64)))])
  refine own_go (fun _ k => XS.lstoreN X0.here hx rfl (hb hby d3_4) rfl (l' := #[.val (.int p1), .val (.long ((p1).toInt64 + (1 : Int64))), .second]) rfl k) ?_
  show own_Go _ _ _ _ s₁ (mkF m 5 #[.val (.int p1), .val (.long ((p1).toInt64 + (1 : Int64))), .second] [])
  refine own_go (fun _ k => XS.lloadN X0.here hx rfl (hb hby d3_5) rfl k) ?_
  show own_Go _ _ _ _ s₁ (mkF m 6 #[.val (.int p1), .val (.long ((p1).toInt64 + (1 : Int64))), .second] [(.long ((p1).toInt64 + (1 : Int64)))])
  refine own_go (fun _ k => XS.lconst X0.here hx rfl (hb hby d3_6) k) ?_
  show own_Go _ _ _ _ s₁ (mkF m 7 #[.val (.int p1), .val (.long ((p1).toInt64 + (1 : Int64))), .second] [(.long (0 : Int64)), (.long ((p1).toInt64 + (1 : Int64)))])
  refine own_go (fun _ k => XS.lcmp X0.here hx rfl (hb hby d3_7) rfl k) ?_
  show own_Go _ _ _ _ s₁ (mkF m 8 #[.val (.int p1), .val (.long ((p1).toInt64 + (1 : Int64))), .second] [(.int (lcmpW ((p1).toInt64 + (1 : Int64)) (0 : Int64)))])
  by_cases hc0 : ((p1).toInt64 + (1 : Int64)) < (0 : Int64)
  · skip
    refine own_go (fun _ k => XS.ifYes X0.here hx rfl (pc0 := 8) (pc' := 21) rfl (hb hby d3_8) rfl ((if0 _ _).trans (tlt ((lw_lt _ _).mpr hc0)).1) (by decide) (by decide) k) ?_
    show own_Go _ _ _ _ s₁ (mkF m 21 #[.val (.int p1), .val (.long ((p1).toInt64 + (1 : Int64))), .second] [])
    refine own_go (fun _ k => XS.iloadN X0.here hx rfl (hb hby d3_21) rfl k) ?_
    show own_Go _ _ _ _ s₁ (mkF m 22 #[.val (.int p1), .val (.long ((p1).toInt64 + (1 : Int64))), .second] [(.int p1)])
    refine own_go (fun _ k => XS.i2b X0.here hx rfl (hb hby d3_22) rfl k) ?_
    show own_Go _ _ _ _ s₁ (mkF m 23 #[.val (.int p1), .val (.long ((p1).toInt64 + (1 : Int64))), .second] [(.int (p1).toInt8.toInt32)])
    refine own_go (fun _ k => XS.iloadN X0.here hx rfl (hb hby d3_23) rfl k) ?_
    show own_Go _ _ _ _ s₁ (mkF m 24 #[.val (.int p1), .val (.long ((p1).toInt64 + (1 : Int64))), .second] [(.int p1), (.int (p1).toInt8.toInt32)])
    by_cases hd : (p1).toInt8.toInt32 = p1
    · skip
      refine own_go (fun _ k => XS.icmpNo X0.here hx rfl (hb hby d3_24) rfl (teq hd).2 k) ?_
      show own_Go _ _ _ _ s₁ (mkF m 27 #[.val (.int p1), .val (.long ((p1).toInt64 + (1 : Int64))), .second] [])
      refine own_go (fun _ k => XS.iconst X0.here hx rfl (hb hby d3_27) k) ?_
      show own_Go _ _ _ _ s₁ (mkF m 28 #[.val (.int p1), .val (.long ((p1).toInt64 + (1 : Int64))), .second] [(.int (2 : Int32))])
      exact own_retI X0 hx hret hlk (hb hby d3_28) (by decide) (by decide) (by first | exact ⟨by rw [own_ic_two p1 (Or.inl hc0) hd], N0, rfl⟩ | (rw [e0]; exact ⟨by rw [own_ic_two p1 (Or.inl hc0) hd], N0, rfl⟩))
    · skip
      refine own_go (fun _ k => XS.icmpYes X0.here hx rfl (pc0 := 24) (pc' := 29) rfl (hb hby d3_24) rfl (feq hd).2 (by decide) (by decide) k) ?_
      show own_Go _ _ _ _ s₁ (mkF m 29 #[.val (.int p1), .val (.long ((p1).toInt64 + (1 : Int64))), .second] [])
      refine own_go (fun _ k => XS.iconst X0.here hx rfl (hb hby d3_29) k) ?_
      show own_Go _ _ _ _ s₁ (mkF m 30 #[.val (.int p1), .val (.long ((p1).toInt64 + (1 : Int64))), .second] [(.int (3 : Int32))])
      exact own_retI X0 hx hret hlk (hb hby d3_30) (by decide) (by decide) (by first | exact ⟨by rw [own_ic_three p1 (Or.inl hc0) hd], N0, rfl⟩ | (rw [e0]; exact ⟨by rw [own_ic_three p1 (Or.inl hc0) hd], N0, rfl⟩))
  · skip
    refine own_go (fun _ k => XS.ifNo X0.here hx rfl (hb hby d3_8) rfl ((if0 _ _).trans (flt (fun q => hc0 ((lw_lt _ _).mp q))).1) k) ?_
    show own_Go _ _ _ _ s₁ (mkF m 11 #[.val (.int p1), .val (.long ((p1).toInt64 + (1 : Int64))), .second] [])
    refine own_go (fun _ k => XS.lloadN X0.here hx rfl (hb hby d3_11) rfl k) ?_
    show own_Go _ _ _ _ s₁ (mkF m 12 #[.val (.int p1), .val (.long ((p1).toInt64 + (1 : Int64))), .second] [(.long ((p1).toInt64 + (1 : Int64)))])
    refine own_go (X0.ldc2Long hx hown (mvT hZ (hw _ (List.mem_of_getElem? (i := 14) rfl))) (g := (mkF m 12 #[.val (.int p1), .val (.long ((p1).toInt64 + (1 : Int64))), .second] [(.long ((p1).toInt64 + (1 : Int64)))])) rfl (hb hby d3_12)) ?_
    show own_Go _ _ _ _ s₁ (mkF m 15 #[.val (.int p1), .val (.long ((p1).toInt64 + (1 : Int64))), .second] [(.long (6 : Int64)), (.long ((p1).toInt64 + (1 : Int64)))])
    refine own_go (fun _ k => XS.lcmp X0.here hx rfl (hb hby d3_15) rfl k) ?_
    show own_Go _ _ _ _ s₁ (mkF m 16 #[.val (.int p1), .val (.long ((p1).toInt64 + (1 : Int64))), .second] [(.int (lcmpW ((p1).toInt64 + (1 : Int64)) (6 : Int64)))])
    by_cases hc1 : (6 : Int64) < ((p1).toInt64 + (1 : Int64))
    · skip
      refine own_go (fun _ k => XS.ifYes X0.here hx rfl (pc0 := 16) (pc' := 21) rfl (hb hby d3_16) rfl ((if0 _ _).trans (tlt ((lw_gt _ _).mpr hc1)).2.2.1) (by decide) (by decide) k) ?_
      show own_Go _ _ _ _ s₁ (mkF m 21 #[.val (.int p1), .val (.long ((p1).toInt64 + (1 : Int64))), .second] [])
      refine own_go (fun _ k => XS.iloadN X0.here hx rfl (hb hby d3_21) rfl k) ?_
      show own_Go _ _ _ _ s₁ (mkF m 22 #[.val (.int p1), .val (.long ((p1).toInt64 + (1 : Int64))), .second] [(.int p1)])
      refine own_go (fun _ k => XS.i2b X0.here hx rfl (hb hby d3_22) rfl k) ?_
      show own_Go _ _ _ _ s₁ (mkF m 23 #[.val (.int p1), .val (.long ((p1).toInt64 + (1 : Int64))), .second] [(.int (p1).toInt8.toInt32)])
      refine own_go (fun _ k => XS.iloadN X0.here hx rfl (hb hby d3_23) rfl k) ?_
      show own_Go _ _ _ _ s₁ (mkF m 24 #[.val (.int p1), .val (.long ((p1).toInt64 + (1 : Int64))), .second] [(.int p1), (.int (p1).toInt8.toInt32)])
      by_cases hd : (p1).toInt8.toInt32 = p1
      · skip
        refine own_go (fun _ k => XS.icmpNo X0.here hx rfl (hb hby d3_24) rfl (teq hd).2 k) ?_
        show own_Go _ _ _ _ s₁ (mkF m 27 #[.val (.int p1), .val (.long ((p1).toInt64 + (1 : Int64))), .second] [])
        refine own_go (fun _ k => XS.iconst X0.here hx rfl (hb hby d3_27) k) ?_
        show own_Go _ _ _ _ s₁ (mkF m 28 #[.val (.int p1), .val (.long ((p1).toInt64 + (1 : Int64))), .second] [(.int (2 : Int32))])
        exact own_retI X0 hx hret hlk (hb hby d3_28) (by decide) (by decide) (by first | exact ⟨by rw [own_ic_two p1 (Or.inr hc1) hd], N0, rfl⟩ | (rw [e0]; exact ⟨by rw [own_ic_two p1 (Or.inr hc1) hd], N0, rfl⟩))
      · skip
        refine own_go (fun _ k => XS.icmpYes X0.here hx rfl (pc0 := 24) (pc' := 29) rfl (hb hby d3_24) rfl (feq hd).2 (by decide) (by decide) k) ?_
        show own_Go _ _ _ _ s₁ (mkF m 29 #[.val (.int p1), .val (.long ((p1).toInt64 + (1 : Int64))), .second] [])
        refine own_go (fun _ k => XS.iconst X0.here hx rfl (hb hby d3_29) k) ?_
        show own_Go _ _ _ _ s₁ (mkF m 30 #[.val (.int p1), .val (.long ((p1).toInt64 + (1 : Int64))), .second] [(.int (3 : Int32))])
        exact own_retI X0 hx hret hlk (hb hby d3_30) (by decide) (by decide) (by first | exact ⟨by rw [own_ic_three p1 (Or.inr hc1) hd], N0, rfl⟩ | (rw [e0]; exact ⟨by rw [own_ic_three p1 (Or.inr hc1) hd], N0, rfl⟩))
    · skip
      refine own_go (fun _ k => XS.ifNo X0.here hx rfl (hb hby d3_16) rfl ((if0 _ _).trans (flt (fun q => hc1 ((lw_gt _ _).mp q))).2.2.1) k) ?_
      show own_Go _ _ _ _ s₁ (mkF m 19 #[.val (.int p1), .val (.long ((p1).toInt64 + (1 : Int64))), .second] [])
      refine own_go (fun _ k => XS.iconst X0.here hx rfl (hb hby d3_19) k) ?_
      show own_Go _ _ _ _ s₁ (mkF m 20 #[.val (.int p1), .val (.long ((p1).toInt64 + (1 : Int64))), .second] [(.int (1 : Int32))])
      exact own_retI X0 hx hret hlk (hb hby d3_20) (by decide) (by decide) (by first | exact ⟨by rw [own_ic_one p1 hc0 hc1], N0, rfl⟩ | (rw [e0]; exact ⟨by rw [own_ic_one p1 hc0 hc1], N0, rfl⟩))
set_option maxRecDepth 65536 in
set_option maxHeartbeats 40000000 in
theorem rm1 (l : Launch) (Z : State) (a0 : Array Value) (hw : ∀ d ∈ tables_1, d.before a0 Z = true) (ws : List Jvm.Cond) (p1 : Int32) (h0 : Heap) (n0 : Nat) (Z0 : n0 ≤ h0.size) :
    own_Met l (⟨"isthmus/generator/BytecodeIntConstantPinLaw", "agrees", "(I)Z"⟩ : MethodName) method_3_code 1 (some .boolean) ws ({ frames := 1, cells := 0, slots := 0, locals := 15 } : Room) Z #[(.int p1)] h0 (fun v h L => v = some (.int 1) ∧ Fr n0 L ∧ h0 = h) := by
  refine own_body (plainFor_of_name (by first | (simp [plainName, overriddenIn]; done) | decide +kernel)) ?_
  intro p e s m below meth c s₁ X0 hx hby hml hown hnm hret hlk hZ e0
  have N0 := Fr.nil n0
  refine own_cast (show entryFrame m #[(.int p1)] 1 = mkF m 0 #[.val (.int p1)] [] from by first | (simp [entryFrame, mkF, argsToLocals, Value.category]; done) | rfl) ?_
  show own_Go _ _ _ _ s₁ (mkF m 0 #[.val (.int p1)] [])
  refine own_go (fun _ k => XS.iloadN X0.here hx rfl (hb hby d1_0) rfl k) ?_
  show own_Go _ _ _ _ s₁ (mkF m 1 #[.val (.int p1)] [(.int p1)])
  obtain ⟨v1, T1, h1, L1, X1, e1, hQ1, st1⟩ := own_callS X0 hx hZ hown (hw _ (List.mem_of_getElem? (i := 7) rfl)) (hw _ (List.mem_of_getElem? (i := 8) rfl)) (hw _ (List.mem_of_getElem? (i := 9) rfl)) (hw _ (List.mem_of_getElem? (i := 10) rfl)) (by decide) e0 (argsL := [(.int p1)]) (rest := []) (rm2 l Z a0 hw [] p1 h0 n0 Z0) 0 (by decide) (by decide) (by decide) (by decide) (g := (mkF m 1 #[.val (.int p1)] [(.int p1)])) rfl (by rw [hml]; rfl) (lenOf pd0 rfl) rfl (Nat.le_of_eq rfl) (hb hby d1_1)
  obtain ⟨rfl, N1q, rfl⟩ := hQ1
  refine own_go (st1) ?_
  have N1 := Fr.app N0 N1q
  show own_Go _ _ _ _ T1 (mkF m 4 #[.val (.int p1)] [(.int (own_ic p1))])
  refine own_go (fun _ k => XS.iloadN X1.here hx rfl (hb hby d1_4) rfl k) ?_
  show own_Go _ _ _ _ T1 (mkF m 5 #[.val (.int p1)] [(.int p1), (.int (own_ic p1))])
  obtain ⟨v2, T2, h2, L2, X2, e2, hQ2, st2⟩ := own_callS X1 hx hZ hown (hw _ (List.mem_of_getElem? (i := 11) rfl)) (hw _ (List.mem_of_getElem? (i := 12) rfl)) (hw _ (List.mem_of_getElem? (i := 5) rfl)) (hw _ (List.mem_of_getElem? (i := 13) rfl)) (by decide) e1 (argsL := [(.int p1)]) (rest := [(.int (own_ic p1))]) (rm3 l Z a0 hw [] p1 h0 n0 Z0) 1 (by decide) (by decide) (by decide) (by decide) (g := (mkF m 5 #[.val (.int p1)] [(.int p1), (.int (own_ic p1))])) rfl (by rw [hml]; rfl) (lenOf pd0 rfl) rfl (Nat.le_of_eq rfl) (hb hby d1_5)
  obtain ⟨rfl, N2q, rfl⟩ := hQ2
  refine own_go (st2) ?_
  have N2 := Fr.app N1 N2q
  show own_Go _ _ _ _ T2 (mkF m 8 #[.val (.int p1)] [(.int (own_ic p1)), (.int (own_ic p1))])
  refine own_go (fun _ k => XS.icmpNo X2.here hx rfl (hb hby d1_8) rfl (teq rfl).2 k) ?_
  show own_Go _ _ _ _ T2 (mkF m 11 #[.val (.int p1)] [])
  refine own_go (fun _ k => XS.iconst X2.here hx rfl (hb hby d1_11) k) ?_
  show own_Go _ _ _ _ T2 (mkF m 12 #[.val (.int p1)] [(.int (1 : Int32))])
  refine own_go (fun _ k => XS.goto X2.here hx rfl (pc0 := 12) (pc' := 16) rfl (hb hby d1_12) (by decide) (by decide) k) ?_
  show own_Go _ _ _ _ T2 (mkF m 16 #[.val (.int p1)] [(.int (1 : Int32))])
  exact own_retN X2 hx hret (by simp) hlk (hb hby d1_16) (by decide) (by decide) (by first | exact ⟨rfl, N2, rfl⟩ | (rw [e2]; exact ⟨rfl, N2, rfl⟩))
set_option maxRecDepth 65536 in
set_option maxHeartbeats 40000000 in
theorem rm0 (l : Launch) (Z : State) (a0 : Array Value) (hw : ∀ d ∈ tables_1, d.before a0 Z = true) (ws : List Jvm.Cond) (p1 p2 : Int32) (h0 : Heap) (n0 : Nat) (Z0 : n0 ≤ h0.size) :
    own_Met l x code maxLocals ret ws room_1 Z #[(.int p1), (.int p2)] h0 (fun v h L => v = some (.int 1) ∧ Fr n0 L) := by
  refine own_body (plainFor_of_name (by first | (simp [plainName, overriddenIn]; done) | decide +kernel)) ?_
  intro p e s m below meth c s₁ X0 hx hby hml hown hnm hret hlk hZ e0
  have N0 := Fr.nil n0
  refine own_cast (show entryFrame m #[(.int p1), (.int p2)] maxLocals = mkF m 0 #[.val (.int p1), .val (.int p2), .unset, .unset] [] from by first | (simp [entryFrame, mkF, argsToLocals, Value.category, maxLocals]; done) | rfl) ?_
  show own_Go _ _ _ _ s₁ (mkF m 0 #[.val (.int p1), .val (.int p2), .unset, .unset] [])
  refine own_go (fun _ k => XS.bipush X0.here hx rfl (hb hby at_0) k) ?_
  show own_Go _ _ _ _ s₁ (mkF m 2 #[.val (.int p1), .val (.int p2), .unset, .unset] [(.int (12 : Int32))])
  obtain ⟨T3, h3, k3, X3, e3, E3, A3, st3⟩ := newP X0 hx hZ (hw _ (List.mem_of_getElem? (i := 0) rfl)) e0 (g := (mkF m 2 #[.val (.int p1), .val (.int p2), .unset, .unset] [(.int (12 : Int32))])) rfl (hb hby at_2) rfl (by decide) (cap := 12) (by decide) (by decide) (by decide) (by decide)
  obtain ⟨b3, g3⟩ : ∃ z, z = h0.size := ⟨_, rfl⟩
  rw [← g3] at A3 st3
  refine own_go (st3) ?_
  have g_b3 : n0 ≤ b3 := Nat.le_trans Z0 (Nat.le_of_eq g3.symm)
  have V3 : Arv Z h3 b3 k3 .int (12 : Int32) [(.int (0 : Int32)), (.int (0 : Int32)), (.int (0 : Int32)), (.int (0 : Int32)), (.int (0 : Int32)), (.int (0 : Int32)), (.int (0 : Int32)), (.int (0 : Int32)), (.int (0 : Int32)), (.int (0 : Int32)), (.int (0 : Int32)), (.int (0 : Int32))] (.int (0 : Int32)) := (Arv.new A3 (by decide)).pad (pad_rep [] (.int (0 : Int32)) 12)
  show own_Go _ _ _ _ T3 (mkF m 4 #[.val (.int p1), .val (.int p2), .unset, .unset] [(.ref b3)])
  refine own_go (fun _ k => XS.dup X3.here hx rfl (hb hby at_4) rfl rfl k) ?_
  show own_Go _ _ _ _ T3 (mkF m 5 #[.val (.int p1), .val (.int p2), .unset, .unset] [(.ref b3), (.ref b3)])
  refine own_go (fun _ k => XS.iconst X3.here hx rfl (hb hby at_5) k) ?_
  show own_Go _ _ _ _ T3 (mkF m 6 #[.val (.int p1), .val (.int p2), .unset, .unset] [(.int (0 : Int32)), (.ref b3), (.ref b3)])
  refine own_go (fun _ k => XS.sipush X3.here hx rfl (hb hby at_6) k) ?_
  show own_Go _ _ _ _ T3 (mkF m 9 #[.val (.int p1), .val (.int p2), .unset, .unset] [(.int (-129 : Int32)), (.int (0 : Int32)), (.ref b3), (.ref b3)])
  obtain ⟨cl4, Ar4, q4, S4, M4, H4, G4⟩ := V3
  have hin4 : ¬ ((0 : Int32) < 0 ∨ cl4.slots.size ≤ ((0 : Int32)).toNatClampNeg) := inb_of S4 ⟨by decide, by decide⟩
  obtain ⟨T4, h4, X4, e4, W4, st4⟩ := stI X3 hx hZ e3 Ar4 (j := (0 : Int32)) hin4 (g := (mkF m 9 #[.val (.int p1), .val (.int p2), .unset, .unset] [(.int (-129 : Int32)), (.int (0 : Int32)), (.ref b3), (.ref b3)])) rfl rfl (hb hby at_9)
  refine own_go (st4) ?_
  have V4 : Arv Z h4 b3 k3 .int (12 : Int32) [(.int (-129 : Int32)), (.int (0 : Int32)), (.int (0 : Int32)), (.int (0 : Int32)), (.int (0 : Int32)), (.int (0 : Int32)), (.int (0 : Int32)), (.int (0 : Int32)), (.int (0 : Int32)), (.int (0 : Int32)), (.int (0 : Int32)), (.int (0 : Int32))] (.int (0 : Int32)) := Arv.set Ar4 q4 S4 M4 H4 G4 rfl W4 0 rfl (Nat.le_of_ble_eq_true rfl)
  have N4 := Fr.snoc X4 N0 g_b3
  show own_Go _ _ _ _ T4 (mkF m 10 #[.val (.int p1), .val (.int p2), .unset, .unset] [(.ref b3)])
  refine own_go (fun _ k => XS.dup X4.here hx rfl (hb hby at_10) rfl rfl k) ?_
  show own_Go _ _ _ _ T4 (mkF m 11 #[.val (.int p1), .val (.int p2), .unset, .unset] [(.ref b3), (.ref b3)])
  refine own_go (fun _ k => XS.iconst X4.here hx rfl (hb hby at_11) k) ?_
  show own_Go _ _ _ _ T4 (mkF m 12 #[.val (.int p1), .val (.int p2), .unset, .unset] [(.int (1 : Int32)), (.ref b3), (.ref b3)])
  refine own_go (fun _ k => XS.bipush X4.here hx rfl (hb hby at_12) k) ?_
  show own_Go _ _ _ _ T4 (mkF m 14 #[.val (.int p1), .val (.int p2), .unset, .unset] [(.int (-128 : Int32)), (.int (1 : Int32)), (.ref b3), (.ref b3)])
  obtain ⟨cl5, Ar5, q5, S5, M5, H5, G5⟩ := V4
  have hin5 : ¬ ((1 : Int32) < 0 ∨ cl5.slots.size ≤ ((1 : Int32)).toNatClampNeg) := inb_of S5 ⟨by decide, by decide⟩
  obtain ⟨T5, h5, X5, e5, W5, st5⟩ := stI X4 hx hZ e4 Ar5 (j := (1 : Int32)) hin5 (g := (mkF m 14 #[.val (.int p1), .val (.int p2), .unset, .unset] [(.int (-128 : Int32)), (.int (1 : Int32)), (.ref b3), (.ref b3)])) rfl rfl (hb hby at_14)
  refine own_go (st5) ?_
  have V5 : Arv Z h5 b3 k3 .int (12 : Int32) [(.int (-129 : Int32)), (.int (-128 : Int32)), (.int (0 : Int32)), (.int (0 : Int32)), (.int (0 : Int32)), (.int (0 : Int32)), (.int (0 : Int32)), (.int (0 : Int32)), (.int (0 : Int32)), (.int (0 : Int32)), (.int (0 : Int32)), (.int (0 : Int32))] (.int (0 : Int32)) := Arv.set Ar5 q5 S5 M5 H5 G5 rfl W5 1 rfl (Nat.le_of_ble_eq_true rfl)
  have N5 := Fr.snoc X5 N4 g_b3
  show own_Go _ _ _ _ T5 (mkF m 15 #[.val (.int p1), .val (.int p2), .unset, .unset] [(.ref b3)])
  refine own_go (fun _ k => XS.dup X5.here hx rfl (hb hby at_15) rfl rfl k) ?_
  show own_Go _ _ _ _ T5 (mkF m 16 #[.val (.int p1), .val (.int p2), .unset, .unset] [(.ref b3), (.ref b3)])
  refine own_go (fun _ k => XS.iconst X5.here hx rfl (hb hby at_16) k) ?_
  show own_Go _ _ _ _ T5 (mkF m 17 #[.val (.int p1), .val (.int p2), .unset, .unset] [(.int (2 : Int32)), (.ref b3), (.ref b3)])
  refine own_go (fun _ k => XS.bipush X5.here hx rfl (hb hby at_17) k) ?_
  show own_Go _ _ _ _ T5 (mkF m 19 #[.val (.int p1), .val (.int p2), .unset, .unset] [(.int (-127 : Int32)), (.int (2 : Int32)), (.ref b3), (.ref b3)])
  obtain ⟨cl6, Ar6, q6, S6, M6, H6, G6⟩ := V5
  have hin6 : ¬ ((2 : Int32) < 0 ∨ cl6.slots.size ≤ ((2 : Int32)).toNatClampNeg) := inb_of S6 ⟨by decide, by decide⟩
  obtain ⟨T6, h6, X6, e6, W6, st6⟩ := stI X5 hx hZ e5 Ar6 (j := (2 : Int32)) hin6 (g := (mkF m 19 #[.val (.int p1), .val (.int p2), .unset, .unset] [(.int (-127 : Int32)), (.int (2 : Int32)), (.ref b3), (.ref b3)])) rfl rfl (hb hby at_19)
  refine own_go (st6) ?_
  have V6 : Arv Z h6 b3 k3 .int (12 : Int32) [(.int (-129 : Int32)), (.int (-128 : Int32)), (.int (-127 : Int32)), (.int (0 : Int32)), (.int (0 : Int32)), (.int (0 : Int32)), (.int (0 : Int32)), (.int (0 : Int32)), (.int (0 : Int32)), (.int (0 : Int32)), (.int (0 : Int32)), (.int (0 : Int32))] (.int (0 : Int32)) := Arv.set Ar6 q6 S6 M6 H6 G6 rfl W6 2 rfl (Nat.le_of_ble_eq_true rfl)
  have N6 := Fr.snoc X6 N5 g_b3
  show own_Go _ _ _ _ T6 (mkF m 20 #[.val (.int p1), .val (.int p2), .unset, .unset] [(.ref b3)])
  refine own_go (fun _ k => XS.dup X6.here hx rfl (hb hby at_20) rfl rfl k) ?_
  show own_Go _ _ _ _ T6 (mkF m 21 #[.val (.int p1), .val (.int p2), .unset, .unset] [(.ref b3), (.ref b3)])
  refine own_go (fun _ k => XS.iconst X6.here hx rfl (hb hby at_21) k) ?_
  show own_Go _ _ _ _ T6 (mkF m 22 #[.val (.int p1), .val (.int p2), .unset, .unset] [(.int (3 : Int32)), (.ref b3), (.ref b3)])
  refine own_go (fun _ k => XS.bipush X6.here hx rfl (hb hby at_22) k) ?_
  show own_Go _ _ _ _ T6 (mkF m 24 #[.val (.int p1), .val (.int p2), .unset, .unset] [(.int (-2 : Int32)), (.int (3 : Int32)), (.ref b3), (.ref b3)])
  obtain ⟨cl7, Ar7, q7, S7, M7, H7, G7⟩ := V6
  have hin7 : ¬ ((3 : Int32) < 0 ∨ cl7.slots.size ≤ ((3 : Int32)).toNatClampNeg) := inb_of S7 ⟨by decide, by decide⟩
  obtain ⟨T7, h7, X7, e7, W7, st7⟩ := stI X6 hx hZ e6 Ar7 (j := (3 : Int32)) hin7 (g := (mkF m 24 #[.val (.int p1), .val (.int p2), .unset, .unset] [(.int (-2 : Int32)), (.int (3 : Int32)), (.ref b3), (.ref b3)])) rfl rfl (hb hby at_24)
  refine own_go (st7) ?_
  have V7 : Arv Z h7 b3 k3 .int (12 : Int32) [(.int (-129 : Int32)), (.int (-128 : Int32)), (.int (-127 : Int32)), (.int (-2 : Int32)), (.int (0 : Int32)), (.int (0 : Int32)), (.int (0 : Int32)), (.int (0 : Int32)), (.int (0 : Int32)), (.int (0 : Int32)), (.int (0 : Int32)), (.int (0 : Int32))] (.int (0 : Int32)) := Arv.set Ar7 q7 S7 M7 H7 G7 rfl W7 3 rfl (Nat.le_of_ble_eq_true rfl)
  have N7 := Fr.snoc X7 N6 g_b3
  show own_Go _ _ _ _ T7 (mkF m 25 #[.val (.int p1), .val (.int p2), .unset, .unset] [(.ref b3)])
  refine own_go (fun _ k => XS.dup X7.here hx rfl (hb hby at_25) rfl rfl k) ?_
  show own_Go _ _ _ _ T7 (mkF m 26 #[.val (.int p1), .val (.int p2), .unset, .unset] [(.ref b3), (.ref b3)])
  refine own_go (fun _ k => XS.iconst X7.here hx rfl (hb hby at_26) k) ?_
  show own_Go _ _ _ _ T7 (mkF m 27 #[.val (.int p1), .val (.int p2), .unset, .unset] [(.int (4 : Int32)), (.ref b3), (.ref b3)])
  refine own_go (fun _ k => XS.iconst X7.here hx rfl (hb hby at_27) k) ?_
  show own_Go _ _ _ _ T7 (mkF m 28 #[.val (.int p1), .val (.int p2), .unset, .unset] [(.int (-1 : Int32)), (.int (4 : Int32)), (.ref b3), (.ref b3)])
  obtain ⟨cl8, Ar8, q8, S8, M8, H8, G8⟩ := V7
  have hin8 : ¬ ((4 : Int32) < 0 ∨ cl8.slots.size ≤ ((4 : Int32)).toNatClampNeg) := inb_of S8 ⟨by decide, by decide⟩
  obtain ⟨T8, h8, X8, e8, W8, st8⟩ := stI X7 hx hZ e7 Ar8 (j := (4 : Int32)) hin8 (g := (mkF m 28 #[.val (.int p1), .val (.int p2), .unset, .unset] [(.int (-1 : Int32)), (.int (4 : Int32)), (.ref b3), (.ref b3)])) rfl rfl (hb hby at_28)
  refine own_go (st8) ?_
  have V8 : Arv Z h8 b3 k3 .int (12 : Int32) [(.int (-129 : Int32)), (.int (-128 : Int32)), (.int (-127 : Int32)), (.int (-2 : Int32)), (.int (-1 : Int32)), (.int (0 : Int32)), (.int (0 : Int32)), (.int (0 : Int32)), (.int (0 : Int32)), (.int (0 : Int32)), (.int (0 : Int32)), (.int (0 : Int32))] (.int (0 : Int32)) := Arv.set Ar8 q8 S8 M8 H8 G8 rfl W8 4 rfl (Nat.le_of_ble_eq_true rfl)
  have N8 := Fr.snoc X8 N7 g_b3
  show own_Go _ _ _ _ T8 (mkF m 29 #[.val (.int p1), .val (.int p2), .unset, .unset] [(.ref b3)])
  refine own_go (fun _ k => XS.dup X8.here hx rfl (hb hby at_29) rfl rfl k) ?_
  show own_Go _ _ _ _ T8 (mkF m 30 #[.val (.int p1), .val (.int p2), .unset, .unset] [(.ref b3), (.ref b3)])
  refine own_go (fun _ k => XS.iconst X8.here hx rfl (hb hby at_30) k) ?_
  show own_Go _ _ _ _ T8 (mkF m 31 #[.val (.int p1), .val (.int p2), .unset, .unset] [(.int (5 : Int32)), (.ref b3), (.ref b3)])
  refine own_go (fun _ k => XS.iconst X8.here hx rfl (hb hby at_31) k) ?_
  show own_Go _ _ _ _ T8 (mkF m 32 #[.val (.int p1), .val (.int p2), .unset, .unset] [(.int (0 : Int32)), (.int (5 : Int32)), (.ref b3), (.ref b3)])
  obtain ⟨cl9, Ar9, q9, S9, M9, H9, G9⟩ := V8
  have hin9 : ¬ ((5 : Int32) < 0 ∨ cl9.slots.size ≤ ((5 : Int32)).toNatClampNeg) := inb_of S9 ⟨by decide, by decide⟩
  obtain ⟨T9, h9, X9, e9, W9, st9⟩ := stI X8 hx hZ e8 Ar9 (j := (5 : Int32)) hin9 (g := (mkF m 32 #[.val (.int p1), .val (.int p2), .unset, .unset] [(.int (0 : Int32)), (.int (5 : Int32)), (.ref b3), (.ref b3)])) rfl rfl (hb hby at_32)
  refine own_go (st9) ?_
  have V9 : Arv Z h9 b3 k3 .int (12 : Int32) [(.int (-129 : Int32)), (.int (-128 : Int32)), (.int (-127 : Int32)), (.int (-2 : Int32)), (.int (-1 : Int32)), (.int (0 : Int32)), (.int (0 : Int32)), (.int (0 : Int32)), (.int (0 : Int32)), (.int (0 : Int32)), (.int (0 : Int32)), (.int (0 : Int32))] (.int (0 : Int32)) := Arv.set Ar9 q9 S9 M9 H9 G9 rfl W9 5 rfl (Nat.le_of_ble_eq_true rfl)
  have N9 := Fr.snoc X9 N8 g_b3
  show own_Go _ _ _ _ T9 (mkF m 33 #[.val (.int p1), .val (.int p2), .unset, .unset] [(.ref b3)])
  refine own_go (fun _ k => XS.dup X9.here hx rfl (hb hby at_33) rfl rfl k) ?_
  show own_Go _ _ _ _ T9 (mkF m 34 #[.val (.int p1), .val (.int p2), .unset, .unset] [(.ref b3), (.ref b3)])
  refine own_go (fun _ k => XS.bipush X9.here hx rfl (hb hby at_34) k) ?_
  show own_Go _ _ _ _ T9 (mkF m 36 #[.val (.int p1), .val (.int p2), .unset, .unset] [(.int (6 : Int32)), (.ref b3), (.ref b3)])
  refine own_go (fun _ k => XS.iconst X9.here hx rfl (hb hby at_36) k) ?_
  show own_Go _ _ _ _ T9 (mkF m 37 #[.val (.int p1), .val (.int p2), .unset, .unset] [(.int (5 : Int32)), (.int (6 : Int32)), (.ref b3), (.ref b3)])
  obtain ⟨cl10, Ar10, q10, S10, M10, H10, G10⟩ := V9
  have hin10 : ¬ ((6 : Int32) < 0 ∨ cl10.slots.size ≤ ((6 : Int32)).toNatClampNeg) := inb_of S10 ⟨by decide, by decide⟩
  obtain ⟨T10, h10, X10, e10, W10, st10⟩ := stI X9 hx hZ e9 Ar10 (j := (6 : Int32)) hin10 (g := (mkF m 37 #[.val (.int p1), .val (.int p2), .unset, .unset] [(.int (5 : Int32)), (.int (6 : Int32)), (.ref b3), (.ref b3)])) rfl rfl (hb hby at_37)
  refine own_go (st10) ?_
  have V10 : Arv Z h10 b3 k3 .int (12 : Int32) [(.int (-129 : Int32)), (.int (-128 : Int32)), (.int (-127 : Int32)), (.int (-2 : Int32)), (.int (-1 : Int32)), (.int (0 : Int32)), (.int (5 : Int32)), (.int (0 : Int32)), (.int (0 : Int32)), (.int (0 : Int32)), (.int (0 : Int32)), (.int (0 : Int32))] (.int (0 : Int32)) := Arv.set Ar10 q10 S10 M10 H10 G10 rfl W10 6 rfl (Nat.le_of_ble_eq_true rfl)
  have N10 := Fr.snoc X10 N9 g_b3
  show own_Go _ _ _ _ T10 (mkF m 38 #[.val (.int p1), .val (.int p2), .unset, .unset] [(.ref b3)])
  refine own_go (fun _ k => XS.dup X10.here hx rfl (hb hby at_38) rfl rfl k) ?_
  show own_Go _ _ _ _ T10 (mkF m 39 #[.val (.int p1), .val (.int p2), .unset, .unset] [(.ref b3), (.ref b3)])
  refine own_go (fun _ k => XS.bipush X10.here hx rfl (hb hby at_39) k) ?_
  show own_Go _ _ _ _ T10 (mkF m 41 #[.val (.int p1), .val (.int p2), .unset, .unset] [(.int (7 : Int32)), (.ref b3), (.ref b3)])
  refine own_go (fun _ k => XS.bipush X10.here hx rfl (hb hby at_41) k) ?_
  show own_Go _ _ _ _ T10 (mkF m 43 #[.val (.int p1), .val (.int p2), .unset, .unset] [(.int (6 : Int32)), (.int (7 : Int32)), (.ref b3), (.ref b3)])
  obtain ⟨cl11, Ar11, q11, S11, M11, H11, G11⟩ := V10
  have hin11 : ¬ ((7 : Int32) < 0 ∨ cl11.slots.size ≤ ((7 : Int32)).toNatClampNeg) := inb_of S11 ⟨by decide, by decide⟩
  obtain ⟨T11, h11, X11, e11, W11, st11⟩ := stI X10 hx hZ e10 Ar11 (j := (7 : Int32)) hin11 (g := (mkF m 43 #[.val (.int p1), .val (.int p2), .unset, .unset] [(.int (6 : Int32)), (.int (7 : Int32)), (.ref b3), (.ref b3)])) rfl rfl (hb hby at_43)
  refine own_go (st11) ?_
  have V11 : Arv Z h11 b3 k3 .int (12 : Int32) [(.int (-129 : Int32)), (.int (-128 : Int32)), (.int (-127 : Int32)), (.int (-2 : Int32)), (.int (-1 : Int32)), (.int (0 : Int32)), (.int (5 : Int32)), (.int (6 : Int32)), (.int (0 : Int32)), (.int (0 : Int32)), (.int (0 : Int32)), (.int (0 : Int32))] (.int (0 : Int32)) := Arv.set Ar11 q11 S11 M11 H11 G11 rfl W11 7 rfl (Nat.le_of_ble_eq_true rfl)
  have N11 := Fr.snoc X11 N10 g_b3
  show own_Go _ _ _ _ T11 (mkF m 44 #[.val (.int p1), .val (.int p2), .unset, .unset] [(.ref b3)])
  refine own_go (fun _ k => XS.dup X11.here hx rfl (hb hby at_44) rfl rfl k) ?_
  show own_Go _ _ _ _ T11 (mkF m 45 #[.val (.int p1), .val (.int p2), .unset, .unset] [(.ref b3), (.ref b3)])
  refine own_go (fun _ k => XS.bipush X11.here hx rfl (hb hby at_45) k) ?_
  show own_Go _ _ _ _ T11 (mkF m 47 #[.val (.int p1), .val (.int p2), .unset, .unset] [(.int (8 : Int32)), (.ref b3), (.ref b3)])
  refine own_go (fun _ k => XS.bipush X11.here hx rfl (hb hby at_47) k) ?_
  show own_Go _ _ _ _ T11 (mkF m 49 #[.val (.int p1), .val (.int p2), .unset, .unset] [(.int (127 : Int32)), (.int (8 : Int32)), (.ref b3), (.ref b3)])
  obtain ⟨cl12, Ar12, q12, S12, M12, H12, G12⟩ := V11
  have hin12 : ¬ ((8 : Int32) < 0 ∨ cl12.slots.size ≤ ((8 : Int32)).toNatClampNeg) := inb_of S12 ⟨by decide, by decide⟩
  obtain ⟨T12, h12, X12, e12, W12, st12⟩ := stI X11 hx hZ e11 Ar12 (j := (8 : Int32)) hin12 (g := (mkF m 49 #[.val (.int p1), .val (.int p2), .unset, .unset] [(.int (127 : Int32)), (.int (8 : Int32)), (.ref b3), (.ref b3)])) rfl rfl (hb hby at_49)
  refine own_go (st12) ?_
  have V12 : Arv Z h12 b3 k3 .int (12 : Int32) [(.int (-129 : Int32)), (.int (-128 : Int32)), (.int (-127 : Int32)), (.int (-2 : Int32)), (.int (-1 : Int32)), (.int (0 : Int32)), (.int (5 : Int32)), (.int (6 : Int32)), (.int (127 : Int32)), (.int (0 : Int32)), (.int (0 : Int32)), (.int (0 : Int32))] (.int (0 : Int32)) := Arv.set Ar12 q12 S12 M12 H12 G12 rfl W12 8 rfl (Nat.le_of_ble_eq_true rfl)
  have N12 := Fr.snoc X12 N11 g_b3
  show own_Go _ _ _ _ T12 (mkF m 50 #[.val (.int p1), .val (.int p2), .unset, .unset] [(.ref b3)])
  refine own_go (fun _ k => XS.dup X12.here hx rfl (hb hby at_50) rfl rfl k) ?_
  show own_Go _ _ _ _ T12 (mkF m 51 #[.val (.int p1), .val (.int p2), .unset, .unset] [(.ref b3), (.ref b3)])
  refine own_go (fun _ k => XS.bipush X12.here hx rfl (hb hby at_51) k) ?_
  show own_Go _ _ _ _ T12 (mkF m 53 #[.val (.int p1), .val (.int p2), .unset, .unset] [(.int (9 : Int32)), (.ref b3), (.ref b3)])
  refine own_go (fun _ k => XS.sipush X12.here hx rfl (hb hby at_53) k) ?_
  show own_Go _ _ _ _ T12 (mkF m 56 #[.val (.int p1), .val (.int p2), .unset, .unset] [(.int (128 : Int32)), (.int (9 : Int32)), (.ref b3), (.ref b3)])
  obtain ⟨cl13, Ar13, q13, S13, M13, H13, G13⟩ := V12
  have hin13 : ¬ ((9 : Int32) < 0 ∨ cl13.slots.size ≤ ((9 : Int32)).toNatClampNeg) := inb_of S13 ⟨by decide, by decide⟩
  obtain ⟨T13, h13, X13, e13, W13, st13⟩ := stI X12 hx hZ e12 Ar13 (j := (9 : Int32)) hin13 (g := (mkF m 56 #[.val (.int p1), .val (.int p2), .unset, .unset] [(.int (128 : Int32)), (.int (9 : Int32)), (.ref b3), (.ref b3)])) rfl rfl (hb hby at_56)
  refine own_go (st13) ?_
  have V13 : Arv Z h13 b3 k3 .int (12 : Int32) [(.int (-129 : Int32)), (.int (-128 : Int32)), (.int (-127 : Int32)), (.int (-2 : Int32)), (.int (-1 : Int32)), (.int (0 : Int32)), (.int (5 : Int32)), (.int (6 : Int32)), (.int (127 : Int32)), (.int (128 : Int32)), (.int (0 : Int32)), (.int (0 : Int32))] (.int (0 : Int32)) := Arv.set Ar13 q13 S13 M13 H13 G13 rfl W13 9 rfl (Nat.le_of_ble_eq_true rfl)
  have N13 := Fr.snoc X13 N12 g_b3
  show own_Go _ _ _ _ T13 (mkF m 57 #[.val (.int p1), .val (.int p2), .unset, .unset] [(.ref b3)])
  refine own_go (fun _ k => XS.dup X13.here hx rfl (hb hby at_57) rfl rfl k) ?_
  show own_Go _ _ _ _ T13 (mkF m 58 #[.val (.int p1), .val (.int p2), .unset, .unset] [(.ref b3), (.ref b3)])
  refine own_go (fun _ k => XS.bipush X13.here hx rfl (hb hby at_58) k) ?_
  show own_Go _ _ _ _ T13 (mkF m 60 #[.val (.int p1), .val (.int p2), .unset, .unset] [(.int (10 : Int32)), (.ref b3), (.ref b3)])
  refine own_go (X13.ldcInt hx hown (mvT hZ (hw _ (List.mem_of_getElem? (i := 1) rfl))) (g := (mkF m 60 #[.val (.int p1), .val (.int p2), .unset, .unset] [(.int (10 : Int32)), (.ref b3), (.ref b3)])) rfl (hb hby at_60)) ?_
  show own_Go _ _ _ _ T13 (mkF m 62 #[.val (.int p1), .val (.int p2), .unset, .unset] [(.int (-2147483648 : Int32)), (.int (10 : Int32)), (.ref b3), (.ref b3)])
  obtain ⟨cl14, Ar14, q14, S14, M14, H14, G14⟩ := V13
  have hin14 : ¬ ((10 : Int32) < 0 ∨ cl14.slots.size ≤ ((10 : Int32)).toNatClampNeg) := inb_of S14 ⟨by decide, by decide⟩
  obtain ⟨T14, h14, X14, e14, W14, st14⟩ := stI X13 hx hZ e13 Ar14 (j := (10 : Int32)) hin14 (g := (mkF m 62 #[.val (.int p1), .val (.int p2), .unset, .unset] [(.int (-2147483648 : Int32)), (.int (10 : Int32)), (.ref b3), (.ref b3)])) rfl rfl (hb hby at_62)
  refine own_go (st14) ?_
  have V14 : Arv Z h14 b3 k3 .int (12 : Int32) [(.int (-129 : Int32)), (.int (-128 : Int32)), (.int (-127 : Int32)), (.int (-2 : Int32)), (.int (-1 : Int32)), (.int (0 : Int32)), (.int (5 : Int32)), (.int (6 : Int32)), (.int (127 : Int32)), (.int (128 : Int32)), (.int (-2147483648 : Int32)), (.int (0 : Int32))] (.int (0 : Int32)) := Arv.set Ar14 q14 S14 M14 H14 G14 rfl W14 10 rfl (Nat.le_of_ble_eq_true rfl)
  have N14 := Fr.snoc X14 N13 g_b3
  show own_Go _ _ _ _ T14 (mkF m 63 #[.val (.int p1), .val (.int p2), .unset, .unset] [(.ref b3)])
  refine own_go (fun _ k => XS.dup X14.here hx rfl (hb hby at_63) rfl rfl k) ?_
  show own_Go _ _ _ _ T14 (mkF m 64 #[.val (.int p1), .val (.int p2), .unset, .unset] [(.ref b3), (.ref b3)])
  refine own_go (fun _ k => XS.bipush X14.here hx rfl (hb hby at_64) k) ?_
  show own_Go _ _ _ _ T14 (mkF m 66 #[.val (.int p1), .val (.int p2), .unset, .unset] [(.int (11 : Int32)), (.ref b3), (.ref b3)])
  refine own_go (X14.ldcInt hx hown (mvT hZ (hw _ (List.mem_of_getElem? (i := 2) rfl))) (g := (mkF m 66 #[.val (.int p1), .val (.int p2), .unset, .unset] [(.int (11 : Int32)), (.ref b3), (.ref b3)])) rfl (hb hby at_66)) ?_
  show own_Go _ _ _ _ T14 (mkF m 68 #[.val (.int p1), .val (.int p2), .unset, .unset] [(.int (2147483647 : Int32)), (.int (11 : Int32)), (.ref b3), (.ref b3)])
  obtain ⟨cl15, Ar15, q15, S15, M15, H15, G15⟩ := V14
  have hin15 : ¬ ((11 : Int32) < 0 ∨ cl15.slots.size ≤ ((11 : Int32)).toNatClampNeg) := inb_of S15 ⟨by decide, by decide⟩
  obtain ⟨T15, h15, X15, e15, W15, st15⟩ := stI X14 hx hZ e14 Ar15 (j := (11 : Int32)) hin15 (g := (mkF m 68 #[.val (.int p1), .val (.int p2), .unset, .unset] [(.int (2147483647 : Int32)), (.int (11 : Int32)), (.ref b3), (.ref b3)])) rfl rfl (hb hby at_68)
  refine own_go (st15) ?_
  have V15 : Arv Z h15 b3 k3 .int (12 : Int32) [(.int (-129 : Int32)), (.int (-128 : Int32)), (.int (-127 : Int32)), (.int (-2 : Int32)), (.int (-1 : Int32)), (.int (0 : Int32)), (.int (5 : Int32)), (.int (6 : Int32)), (.int (127 : Int32)), (.int (128 : Int32)), (.int (-2147483648 : Int32)), (.int (2147483647 : Int32))] (.int (0 : Int32)) := Arv.set Ar15 q15 S15 M15 H15 G15 rfl W15 11 rfl (Nat.le_of_ble_eq_true rfl)
  have N15 := Fr.snoc X15 N14 g_b3
  show own_Go _ _ _ _ T15 (mkF m 69 #[.val (.int p1), .val (.int p2), .unset, .unset] [(.ref b3)])
  refine own_go (fun _ k => XS.astoreN X15.here hx rfl (hb hby at_69) rfl rfl (l' := #[.val (.int p1), .val (.int p2), .val (.ref b3), .unset]) rfl k) ?_
  show own_Go _ _ _ _ T15 (mkF m 70 #[.val (.int p1), .val (.int p2), .val (.ref b3), .unset] [])
  refine own_go (fun _ k => XS.aloadN X15.here hx rfl (hb hby at_70) rfl rfl k) ?_
  show own_Go _ _ _ _ T15 (mkF m 71 #[.val (.int p1), .val (.int p2), .val (.ref b3), .unset] [(.ref b3)])
  refine own_go (fun _ k => XS.iloadN X15.here hx rfl (hb hby at_71) rfl k) ?_
  show own_Go _ _ _ _ T15 (mkF m 72 #[.val (.int p1), .val (.int p2), .val (.ref b3), .unset] [(.int p2), (.ref b3)])
  refine own_go (X15.ldcInt hx hown (mvT hZ (hw _ (List.mem_of_getElem? (i := 2) rfl))) (g := (mkF m 72 #[.val (.int p1), .val (.int p2), .val (.ref b3), .unset] [(.int p2), (.ref b3)])) rfl (hb hby at_72)) ?_
  show own_Go _ _ _ _ T15 (mkF m 74 #[.val (.int p1), .val (.int p2), .val (.ref b3), .unset] [(.int (2147483647 : Int32)), (.int p2), (.ref b3)])
  refine own_go (fun _ k => XS.iand X15.here hx rfl (hb hby at_74) rfl k) ?_
  show own_Go _ _ _ _ T15 (mkF m 75 #[.val (.int p1), .val (.int p2), .val (.ref b3), .unset] [(.int (p2 &&& (2147483647 : Int32))), (.ref b3)])
  refine own_go (fun _ k => XS.bipush X15.here hx rfl (hb hby at_75) k) ?_
  show own_Go _ _ _ _ T15 (mkF m 77 #[.val (.int p1), .val (.int p2), .val (.ref b3), .unset] [(.int (12 : Int32)), (.int (p2 &&& (2147483647 : Int32))), (.ref b3)])
  refine own_go (fun _ k => iremM X15 hx rfl (hb hby at_77) rfl (by decide) k) ?_
  show own_Go _ _ _ _ T15 (mkF m 78 #[.val (.int p1), .val (.int p2), .val (.ref b3), .unset] [(.int ((p2 &&& (2147483647 : Int32)) % (12 : Int32))), (.ref b3)])
  obtain ⟨zz, hzz⟩ : ∃ z : Int32, ([(.int (-129 : Int32)), (.int (-128 : Int32)), (.int (-127 : Int32)), (.int (-2 : Int32)), (.int (-1 : Int32)), (.int (0 : Int32)), (.int (5 : Int32)), (.int (6 : Int32)), (.int (127 : Int32)), (.int (128 : Int32)), (.int (-2147483648 : Int32)), (.int (2147483647 : Int32))] : List Value).getD (((p2 &&& (2147483647 : Int32)) % (12 : Int32))).toNatClampNeg (.int (0 : Int32)) = .int z := ⟨_, own_getD [(-129 : Int32), (-128 : Int32), (-127 : Int32), (-2 : Int32), (-1 : Int32), (0 : Int32), (5 : Int32), (6 : Int32), (127 : Int32), (128 : Int32), (-2147483648 : Int32), (2147483647 : Int32)] _⟩
  obtain ⟨cl16, Ar16, q16, S16, M16, H16, G16⟩ := V15
  have V16 : Arv Z h15 b3 k3 .int (12 : Int32) _ _ := ⟨cl16, Ar16, q16, S16, M16, H16, G16⟩
  have hin16 : ¬ (((p2 &&& (2147483647 : Int32)) % (12 : Int32)) < 0 ∨ cl16.slots.size ≤ (((p2 &&& (2147483647 : Int32)) % (12 : Int32))).toNatClampNeg) := inb_of S16 (own_idx p2)
  have hat16 : cl16.slots[(((p2 &&& (2147483647 : Int32)) % (12 : Int32))).toNatClampNeg]? = some (.int zz) := H16.at hin16 hzz
  refine own_go (X15.iaload hx (j := ((p2 &&& (2147483647 : Int32)) % (12 : Int32))) (v := (.int zz)) (by rw [e15]; exact Ar16.1) (State.isArrayOf_alike hZ.alike Ar16.2.1) Ar16.2.2 hin16 hat16 (g := (mkF m 78 #[.val (.int p1), .val (.int p2), .val (.ref b3), .unset] [(.int ((p2 &&& (2147483647 : Int32)) % (12 : Int32))), (.ref b3)])) rfl rfl (hb hby at_78)) ?_
  show own_Go _ _ _ _ T15 (mkF m 79 #[.val (.int p1), .val (.int p2), .val (.ref b3), .unset] [(.int zz)])
  refine own_go (fun _ k => XS.istoreN X15.here hx rfl (hb hby at_79) rfl (l' := #[.val (.int p1), .val (.int p2), .val (.ref b3), .val (.int zz)]) rfl k) ?_
  show own_Go _ _ _ _ T15 (mkF m 80 #[.val (.int p1), .val (.int p2), .val (.ref b3), .val (.int zz)] [])
  refine own_go (fun _ k => XS.iloadN X15.here hx rfl (hb hby at_80) rfl k) ?_
  show own_Go _ _ _ _ T15 (mkF m 81 #[.val (.int p1), .val (.int p2), .val (.ref b3), .val (.int zz)] [(.int p1)])
  have f17 := (Nat.le_trans (Nat.le_trans (Nat.le_trans (Nat.le_trans (Nat.le_trans (Nat.le_trans (Nat.le_trans (Nat.le_trans (Nat.le_trans (Nat.le_trans (Nat.le_trans (Nat.le_trans (Nat.le_trans Z0 E3.1) (Keep.of_wr W4).1) (Keep.of_wr W5).1) (Keep.of_wr W6).1) (Keep.of_wr W7).1) (Keep.of_wr W8).1) (Keep.of_wr W9).1) (Keep.of_wr W10).1) (Keep.of_wr W11).1) (Keep.of_wr W12).1) (Keep.of_wr W13).1) (Keep.of_wr W14).1) (Keep.of_wr W15).1)
  obtain ⟨v18, T18, h18, L18, X18, e18, hQ18, st18⟩ := own_callS X15 hx hZ hown (hw _ (List.mem_of_getElem? (i := 3) rfl)) (hw _ (List.mem_of_getElem? (i := 4) rfl)) (hw _ (List.mem_of_getElem? (i := 5) rfl)) (hw _ (List.mem_of_getElem? (i := 6) rfl)) (by decide) e15 (argsL := [(.int p1)]) (rest := []) (rm1 l Z a0 hw [] p1 h15 n0 f17) 0 (by decide) (by decide) (by decide) (by decide) (g := (mkF m 81 #[.val (.int p1), .val (.int p2), .val (.ref b3), .val (.int zz)] [(.int p1)])) rfl (by rw [hml]; rfl) (lenOf pd1 rfl) rfl (Nat.le_of_eq rfl) (hb hby at_81)
  obtain ⟨rfl, N18q, rfl⟩ := hQ18
  refine own_go (st18) ?_
  have N18 := Fr.app N15 N18q
  show own_Go _ _ _ _ T18 (mkF m 84 #[.val (.int p1), .val (.int p2), .val (.ref b3), .val (.int zz)] [(.int (1 : Int32))])
  refine own_go (fun _ k => XS.ifNo X18.here hx rfl (hb hby at_84) rfl ((if0 _ _).trans (feq (by decide)).1) k) ?_
  show own_Go _ _ _ _ T18 (mkF m 87 #[.val (.int p1), .val (.int p2), .val (.ref b3), .val (.int zz)] [])
  refine own_go (fun _ k => XS.iloadN X18.here hx rfl (hb hby at_87) rfl k) ?_
  show own_Go _ _ _ _ T18 (mkF m 88 #[.val (.int p1), .val (.int p2), .val (.ref b3), .val (.int zz)] [(.int zz)])
  obtain ⟨v19, T19, h19, L19, X19, e19, hQ19, st19⟩ := own_callS X18 hx hZ hown (hw _ (List.mem_of_getElem? (i := 3) rfl)) (hw _ (List.mem_of_getElem? (i := 4) rfl)) (hw _ (List.mem_of_getElem? (i := 5) rfl)) (hw _ (List.mem_of_getElem? (i := 6) rfl)) (by decide) e18 (argsL := [(.int zz)]) (rest := []) (rm1 l Z a0 hw [] zz h15 n0 f17) 0 (by decide) (by decide) (by decide) (by decide) (g := (mkF m 88 #[.val (.int p1), .val (.int p2), .val (.ref b3), .val (.int zz)] [(.int zz)])) rfl (by rw [hml]; rfl) (lenOf pd1 rfl) rfl (Nat.le_of_eq rfl) (hb hby at_88)
  obtain ⟨rfl, N19q, rfl⟩ := hQ19
  refine own_go (st19) ?_
  have N19 := Fr.app N18 N19q
  show own_Go _ _ _ _ T19 (mkF m 91 #[.val (.int p1), .val (.int p2), .val (.ref b3), .val (.int zz)] [(.int (1 : Int32))])
  refine own_go (fun _ k => XS.ifNo X19.here hx rfl (hb hby at_91) rfl ((if0 _ _).trans (feq (by decide)).1) k) ?_
  show own_Go _ _ _ _ T19 (mkF m 94 #[.val (.int p1), .val (.int p2), .val (.ref b3), .val (.int zz)] [])
  refine own_go (fun _ k => XS.iconst X19.here hx rfl (hb hby at_94) k) ?_
  show own_Go _ _ _ _ T19 (mkF m 95 #[.val (.int p1), .val (.int p2), .val (.ref b3), .val (.int zz)] [(.int (1 : Int32))])
  refine own_go (fun _ k => XS.goto X19.here hx rfl (pc0 := 95) (pc' := 99) rfl (hb hby at_95) (by decide) (by decide) k) ?_
  show own_Go _ _ _ _ T19 (mkF m 99 #[.val (.int p1), .val (.int p2), .val (.ref b3), .val (.int zz)] [(.int (1 : Int32))])
  exact own_retN X19 hx hret (by simp) hlk (hb hby at_99) (by decide) (by decide) (by first | exact ⟨rfl, N19⟩ | (rw [e19]; exact ⟨rfl, N19⟩))
set_option maxRecDepth 65536 in
set_option maxHeartbeats 40000000 in
theorem comes_1 {Post : Tables → Env → Array Value → State → Outcome → State → Prop} (hpost : ∀ tb e args s v u, (limb_1_1.after args s (.returned v) u = true ∧ limb_1_2.after args s (.returned v) u = true ∧ True) → FrameEnd s (.returned v) u (Jvm.fieldLocs frame_1_writes args s ++ Jvm.arrayLocs frame_1_arrays args s ++ Jvm.staticLocs frame_1_statics s) 16 128 → Post tb e args s (.returned v) u) :
    ArmFor flags0 classFile x code maxLocals ret World_1 tables_1 room_1 Calls_1 rest_1 Pre_1 Post := by
  intro l hfl _ _ p e ha hc hk s m args below hf hA hF happ hP
  obtain ⟨hcalls, hrest, hpre⟩ := hP
  obtain ⟨-, -, -, hnamed, -, -, -, hat⟩ := (Spec.applies_iff hf).mp happ
  obtain ⟨hg, hn⟩ := and_e (Cond.before_iff.mp (show (Jvm.Cond.and given_1 narrow_1).before args s = true from hpre))
  obtain ⟨gc, hg⟩ := and_e hg
  obtain ⟨gv0, hg⟩ := and_e hg
  have gv1 := hg
  obtain ⟨w0, w1, rfl⟩ : ∃ w0 w1 : Value, args = #[w0, w1] := by
    have hs : args.size = 2 := by simpa [Cond.value, given_1] using gc
    obtain ⟨L⟩ := args
    match L, hs with
    | [w0, w1], _ => exact ⟨w0, w1, rfl⟩
  have hw := fun d (hd : d ∈ tables_1) => atoms_spec (ws := Jvm.Cond.code x code maxLocals ret :: tables_1) hat d (List.mem_cons_of_mem _ hd)
  obtain ⟨i0, ei0⟩ := is_v gv0
  obtain rfl : w0 = (.int i0) := Option.some.inj ei0
  obtain ⟨i1, ei1⟩ := is_v gv1
  obtain rfl : w1 = (.int i1) := Option.some.inj ei1
  obtain ⟨n, o, h1, h2, h3, _, L, rfl, ⟨rfl, N⟩, hq⟩ := rm0 l s _ hw tables_1 i0 i1 s.heap s.heap.size (Nat.le_refl _) p e ha hc hk s m _ below hf ((Spec.applies_iff_loose hf).mp happ).1 ⟨rfl, State.Warmed39.refl s, rfl⟩ trivial
  refine ⟨n, _, h1, h2, h3, hpost _ _ _ _ _ _ ⟨Cond.after_iff.mpr rfl, Cond.after_iff.mpr (eq_i res_at (Term.int_eval (1)) rfl), trivial⟩ ⟨hq.1, hq.2.1, (hq.2.2.sift fun y hy => Or.inr (N y hy)).mono (by decide) (by decide)⟩⟩
theorem main_1_1 : Claimed_1_1 := comes_1 fun _ _ _ _ _ _ h hF => ⟨h.1, hF⟩
theorem main_1_2 : Claimed_1_2 := comes_1 fun _ _ _ _ _ _ h hF => ⟨h.2.1, hF⟩
end Jvm.Pilot.@@N@@
namespace Jvm.Pilot.@@N@@
open Jvm Jvm.ClassFile Sem Op Lib Jvm.Free Jvm.Stand Jvm.Pilot.@@N@@.Jvm.D
/-! MADE BY PROGRAM (witnessworld.py) out of the Statement's table words and the real class files: 9 classes; the members and pool entries that the words name. The judged class is class 1, her method 3. -/
namespace start1
open Jvm.ClassFile
def u (s : String) : CpInfo := .utf8 (stringToUtf16 s)
/-- a pool by its gaps: so many unusable entries, then the entry; so many at the end -/
def gap : Nat → List CpInfo → List CpInfo
  | 0, r => r
  | n + 1, r => .unusable :: gap n r
def poolList (es : List (Nat × CpInfo)) (last : Nat) : List CpInfo := es.foldr (fun e r => gap e.1 (e.2 :: r)) (gap last [])
def pool (es : List (Nat × CpInfo)) (last : Nat) : Array CpInfo := ⟨poolList es last⟩
def fileOf (pool : Array CpInfo) (this : Nat) (attrs : Array Attribute := #[]) (ms : Array MethodInfo := #[]) (fl : Nat := 33) (sup : Nat := 0) (ifs : Array Nat := #[]) (fds : Array FieldInfo := #[]) : ClassFile where
  minorVersion := 0
  majorVersion := 65
  constantPool := pool
  accessFlags := fl
  thisClass := this
  superClass := sup
  interfaces := ifs
  fields := fds
  methods := ms
  attributes := attrs
def plain (name : String) (sup : Option ClassId) : Class where
  name := name
  kind := .ordinary
  loader := none
  accessFlags := 33
  super := sup
  interfaces := #[]
  cf := none
  fields := #[]
  methods := #[]
  instanceTypes := #[]
  staticTypes := #[]
  resolved := #[]
  callSites := []
  init := .initialized
  statics := none
  mirror := none

def pool0 : Array CpInfo := pool [(5, u "<init>"), (0, u "()V"), (1, .class_ 10), (1, u "java/lang/Object")] 113

def k0m0 : Method := { name := "<init>", desc := "()V", sig := { parameters := [], returnType := none }, accessFlags := 1, code := none }
/-- java/lang/Object -/
def k0 : Class := { plain "java/lang/Object" none with
  accessFlags := 33
  interfaces := #[]
  cf := some (fileOf pool0 8 #[] #[{ accessFlags := 1, nameIndex := 5, descriptorIndex := 6, attributes := #[] }] 33 0 #[] #[])
  fields := #[]
  methods := #[k0m0]
  instanceTypes := #[]
  staticTypes := #[]
  resolved := Array.replicate 124 none
  statics := none }

def pool1 : Array CpInfo := pool [(2, .class_ 4), (1, u "java/lang/Object"), (0, u "<init>"), (0, u "()V"), (0, .long 6), (1, .methodref 10 11), (0, .class_ 12), (0, .nameAndType 13 14), (0, u "isthmus/generator/Bytecode"), (0, u "intConstant"), (0, u "(I)I"), (0, .methodref 16 17), (0, .class_ 18), (0, .nameAndType 19 14), (0, u "isthmus/generator/BytecodeIntConstantPinLaw"), (0, u "expected"), (2, .integer 2147483648), (0, .integer 2147483647), (0, .methodref 16 25), (0, .nameAndType 26 27), (0, u "agrees"), (0, u "(I)Z"), (3, u "law"), (0, u "(II)Z")] 4

def k1m0 : Method := { name := "<init>", desc := "()V", sig := { parameters := [], returnType := none }, accessFlags := 1, code := none }
def k1c1 : Code := { maxStack := 4, maxLocals := 3, code := method_2_code, exceptionTable := #[], attributes := #[] }
def k1m1 : Method := { name := "expected", desc := "(I)I", sig := { parameters := [.int], returnType := some .int }, accessFlags := 10, code := some k1c1 }
def k1c2 : Code := { maxStack := 2, maxLocals := 1, code := method_3_code, exceptionTable := #[], attributes := #[] }
def k1m2 : Method := { name := "agrees", desc := "(I)Z", sig := { parameters := [.int], returnType := some .boolean }, accessFlags := 10, code := some k1c2 }
def k1c3 : Code := { maxStack := 4, maxLocals := 4, code := code, exceptionTable := #[], attributes := #[] }
def k1m3 : Method := { name := "law", desc := "(II)Z", sig := { parameters := [.int, .int], returnType := some .boolean }, accessFlags := 9, code := some k1c3 }
/-- isthmus/generator/BytecodeIntConstantPinLaw -/
def k1 : Class := { plain "isthmus/generator/BytecodeIntConstantPinLaw" (some 0) with
  accessFlags := 49
  interfaces := #[]
  cf := some (fileOf pool1 16 #[] #[{ accessFlags := 1, nameIndex := 5, descriptorIndex := 6, attributes := #[] }, { accessFlags := 10, nameIndex := 19, descriptorIndex := 14, attributes := #[] }, { accessFlags := 10, nameIndex := 26, descriptorIndex := 27, attributes := #[] }, { accessFlags := 9, nameIndex := 31, descriptorIndex := 32, attributes := #[] }] 49 2 #[] #[])
  fields := #[]
  methods := #[k1m0, k1m1, k1m2, k1m3]
  instanceTypes := #[]
  staticTypes := #[]
  resolved := Array.replicate 37 none
  statics := none }

def pool2 : Array CpInfo := pool [(2, .class_ 4), (1, u "java/lang/Object"), (0, u "<init>"), (0, u "()V"), (3, .class_ 12), (1, u "isthmus/generator/Bytecode"), (0, u "intConstant"), (0, u "(I)I"), (0, u "FIELD"), (0, u "I"), (2, u "CALL"), (0, u "STRING"), (0, u "RETURN"), (1, u "NEW_ARRAY"), (0, u "ELEMENT_STORE")] 9

def k2m0 : Method := { name := "<init>", desc := "()V", sig := { parameters := [], returnType := none }, accessFlags := 2, code := none }
def k2c1 : Code := { maxStack := 2, maxLocals := 1, code := prog_60_method_2_code, exceptionTable := #[], attributes := #[] }
def k2m1 : Method := { name := "intConstant", desc := "(I)I", sig := { parameters := [.int], returnType := some .int }, accessFlags := 8, code := some k2c1 }
/-- isthmus/generator/Bytecode -/
def k2 : Class := { plain "isthmus/generator/Bytecode" (some 0) with
  accessFlags := 48
  interfaces := #[]
  cf := some (fileOf pool2 10 #[] #[{ accessFlags := 2, nameIndex := 5, descriptorIndex := 6, attributes := #[] }, { accessFlags := 8, nameIndex := 13, descriptorIndex := 14, attributes := #[] }] 48 2 #[] #[{ accessFlags := 24, nameIndex := 15, descriptorIndex := 16, attributes := #[] }, { accessFlags := 24, nameIndex := 19, descriptorIndex := 16, attributes := #[] }, { accessFlags := 24, nameIndex := 20, descriptorIndex := 16, attributes := #[] }, { accessFlags := 24, nameIndex := 21, descriptorIndex := 16, attributes := #[] }, { accessFlags := 26, nameIndex := 23, descriptorIndex := 16, attributes := #[] }, { accessFlags := 26, nameIndex := 24, descriptorIndex := 16, attributes := #[] }])
  fields := #[{ name := "FIELD", type := .int, accessFlags := 24, slot := 0, constantValue := 0 }, { name := "CALL", type := .int, accessFlags := 24, slot := 1, constantValue := 0 }, { name := "STRING", type := .int, accessFlags := 24, slot := 2, constantValue := 0 }, { name := "RETURN", type := .int, accessFlags := 24, slot := 3, constantValue := 0 }, { name := "NEW_ARRAY", type := .int, accessFlags := 26, slot := 4, constantValue := 0 }, { name := "ELEMENT_STORE", type := .int, accessFlags := 26, slot := 5, constantValue := 0 }]
  methods := #[k2m0, k2m1]
  instanceTypes := #[]
  staticTypes := #[.int, .int, .int, .int, .int, .int]
  resolved := Array.replicate 34 none
  statics := none }

def pool3 : Array CpInfo := pool [(1, u "java/lang/Cloneable"), (0, .class_ 1), (0, u "java/lang/Object"), (0, .class_ 3)] 3

/-- java/lang/Cloneable -/
def k3 : Class := { plain "java/lang/Cloneable" (some 0) with
  accessFlags := 1537
  interfaces := #[]
  cf := some (fileOf pool3 2 #[] #[] 1537 4 #[] #[])
  fields := #[]
  methods := #[]
  instanceTypes := #[]
  staticTypes := #[]
  resolved := Array.replicate 8 none
  statics := none }

def pool4 : Array CpInfo := pool [(1, u "java/io/Serializable"), (0, .class_ 1), (0, u "java/lang/Object"), (0, .class_ 3)] 3

/-- java/io/Serializable -/
def k4 : Class := { plain "java/io/Serializable" (some 0) with
  accessFlags := 1537
  interfaces := #[]
  cf := some (fileOf pool4 2 #[] #[] 1537 4 #[] #[])
  fields := #[]
  methods := #[]
  instanceTypes := #[]
  staticTypes := #[]
  resolved := Array.replicate 8 none
  statics := none }

/-- the primitive byte -/
def k5 : Class := { plain "byte" none with kind := .primitive 'B', accessFlags := 0x411 }
/-- [B -/
def k6 : Class := { plain "[B" (some 0) with kind := .array 5 .byte, interfaces := #[3, 4], accessFlags := 1041 }

/-- the primitive int -/
def k7 : Class := { plain "int" none with kind := .primitive 'I', accessFlags := 0x411 }
/-- [I -/
def k8 : Class := { plain "[I" (some 0) with kind := .array 7 .int, interfaces := #[3, 4], accessFlags := 1041 }

def heap : Heap := #[]
def classes : Array Class := #[k0, k1, k2, k3, k4, k5, k6, k7, k8]
def interned : List (Array UInt16 × Addr) := []
def slotsUsed : Nat := 0
def theMethod : MethodId := ⟨1, 3⟩
def args0 : Array Value := #[.int 9, .int 3]
def aboutOver (below : List Frame) : State where
  vm := { classes := classes, interned := interned.toArray }
  heap := heap
  slotsUsed := slotsUsed
  threads := #[{ frames := .invoking theMethod args0 :: below }]
def below0 : List Frame := [.native { method := ⟨0, 0⟩, args := #[] }]
def about1 : State := aboutOver below0
def p0 : Program := .bare "" "" ""
def e0 : Env := launch0.env 0 0 0
theorem w_frames : about1.frames = Frame.invoking theMethod args0 :: below0 := rfl
set_option maxRecDepth 65536 in
theorem w_args : argsFit about1.vm theMethod args0 = true := by decide +kernel
set_option maxRecDepth 65536 in
theorem w_heap : heapFits about1 = true := by decide +kernel
set_option maxRecDepth 65536 in
theorem w_runnable : about1.curStatus? = some .runnable := by decide +kernel
set_option maxRecDepth 65536 in
theorem w_alone : about1.alone = true := by decide +kernel
set_option maxRecDepth 65536 in
theorem w_named : about1.methodNamed? x = some theMethod := by decide +kernel
set_option maxRecDepth 65536 in
theorem w_hears : about1.hears theMethod below0 = true := by decide +kernel
set_option maxRecDepth 65536 in
theorem w_ripe : about1.ripe theMethod args0 below0 = true := by decide +kernel
theorem w_running : about1.status = .running := rfl
set_option maxRecDepth 65536 in
theorem w_room : about1.hasRoom e0.platform room_1 = true :=
  launch0.hasRoom_least _ room_1 (by decide +kernel) (by decide +kernel) (by decide +kernel) (by decide +kernel) (by decide +kernel) (by decide +kernel)
theorem allAtoms_all (ts : List Jvm.Cond) (a : Array Jvm.Value) (st : Jvm.State) : (allAtoms ts).before a st = ts.all (fun c => c.before a st) := by
  induction ts with
  | nil => rfl
  | cons c t ih =>
    show (Jvm.Cond.and c (allAtoms t)).before a st = _
    rw [Jvm.Cond.before_and, ih, List.all_cons]
def words1 : List Jvm.Cond := Jvm.Cond.code x code maxLocals ret :: tables_1
/-- a 'code' word, met by the world's own term for the bytes: nothing is compared byte by byte -/
theorem code_word {y : MethodName} {bytes : ByteArray} {mx : Nat} {rt : Option FieldType} {a : Array Value} {s : State} {m : MethodId} {meth : Method} {c : Code} (h1 : s.methodNamed? y = some m) (h2 : s.vm.method? m = some meth) (h3 : meth.code = some c) (h4 : c.code = bytes)
    (h5 : (c.maxLocals == mx && c.exceptionTable.isEmpty && decide (c.maxStack ≤ mostOperands) && decide (meth.sig.returnType = rt) && !meth.locks && decide (parseMethodDescriptor y.desc = some meth.sig)) = true) : (Jvm.Cond.code y bytes mx rt).before a s = true := by
  simp only [Bool.and_eq_true, beq_iff_eq, Bool.not_eq_true', decide_eq_true_eq] at h5
  obtain ⟨⟨⟨⟨⟨g1, g2⟩, g3⟩, g4⟩, g5⟩, g6⟩ := h5
  simp [Cond.before, Cond.holds, Cond.value, h1, h2, h3, h4, g1, g2, g3, g4, g5, g6]
def isCode : Jvm.Cond → Bool
  | .code _ _ _ _ => true
  | _ => false
theorem all_split {L : List Jvm.Cond} {P : Jvm.Cond → Bool} (h1 : L.all (fun c => isCode c || P c) = true) (h2 : ∀ c ∈ L.filter isCode, P c = true) : L.all P = true := by
  refine List.all_eq_true.mpr fun c hc => ?_
  have h := List.all_eq_true.mp h1 c hc
  rcases Bool.eq_false_or_eq_true (isCode c) with hi | hi
  · exact h2 c (List.mem_filter.mpr ⟨hc, hi⟩)
  · simpa [hi] using h
set_option maxRecDepth 65536 in
theorem w_c0 : (Jvm.Cond.code x code maxLocals ret).before args0 about1 = true := code_word (m := ⟨1, 3⟩) (meth := k1m3) (c := k1c3) (by decide +kernel) rfl rfl rfl (by decide +kernel)
set_option maxRecDepth 65536 in
theorem w_c1 : (Jvm.Cond.code ({ cls := "isthmus/generator/BytecodeIntConstantPinLaw", name := "agrees", desc := "(I)Z" } : Jvm.MethodName) method_3_code (1 : Nat) (Option.some Jvm.ClassFile.FieldType.boolean)).before args0 about1 = true := code_word (m := ⟨1, 2⟩) (meth := k1m2) (c := k1c2) (by decide +kernel) rfl rfl rfl (by decide +kernel)
set_option maxRecDepth 65536 in
theorem w_c2 : (Jvm.Cond.code ({ cls := "isthmus/generator/Bytecode", name := "intConstant", desc := "(I)I" } : Jvm.MethodName) prog_60_method_2_code (1 : Nat) (Option.some Jvm.ClassFile.FieldType.int)).before args0 about1 = true := code_word (m := ⟨2, 1⟩) (meth := k2m1) (c := k2c1) (by decide +kernel) rfl rfl rfl (by decide +kernel)
set_option maxRecDepth 65536 in
theorem w_c3 : (Jvm.Cond.code ({ cls := "isthmus/generator/BytecodeIntConstantPinLaw", name := "expected", desc := "(I)I" } : Jvm.MethodName) method_2_code (3 : Nat) (Option.some Jvm.ClassFile.FieldType.int)).before args0 about1 = true := code_word (m := ⟨1, 1⟩) (meth := k1m1) (c := k1c1) (by decide +kernel) rfl rfl rfl (by decide +kernel)
def codes1 : List Jvm.Cond := [Jvm.Cond.code x code maxLocals ret, Jvm.Cond.code ({ cls := "isthmus/generator/BytecodeIntConstantPinLaw", name := "agrees", desc := "(I)Z" } : Jvm.MethodName) method_3_code (1 : Nat) (Option.some Jvm.ClassFile.FieldType.boolean), Jvm.Cond.code ({ cls := "isthmus/generator/Bytecode", name := "intConstant", desc := "(I)I" } : Jvm.MethodName) prog_60_method_2_code (1 : Nat) (Option.some Jvm.ClassFile.FieldType.int), Jvm.Cond.code ({ cls := "isthmus/generator/BytecodeIntConstantPinLaw", name := "expected", desc := "(I)I" } : Jvm.MethodName) method_2_code (3 : Nat) (Option.some Jvm.ClassFile.FieldType.int)]
set_option maxRecDepth 65536 in
theorem codes_eq : words1.filter isCode = codes1 := rfl
theorem w_codes : ∀ c ∈ words1.filter isCode, c.before args0 about1 = true := by
  rw [codes_eq]
  intro c hc
  simp only [codes1, List.mem_cons, List.not_mem_nil, or_false] at hc
  rcases hc with rfl | rfl | rfl | rfl
  · exact w_c0
  · exact w_c1
  · exact w_c2
  · exact w_c3
set_option maxRecDepth 65536 in
theorem w_t1 : words1.all (fun c => isCode c || c.before args0 about1) = true := by decide +kernel
theorem w_tables : (allAtoms (Jvm.Cond.code x code maxLocals ret :: tables_1)).before args0 about1 = true := by
  rw [allAtoms_all]
  show words1.all (fun c => c.before args0 about1) = true
  refine all_split ?_ w_codes
  rw [w_t1]
set_option maxRecDepth 65536 in
theorem w_case : (Jvm.Cond.and given_1 narrow_1).before args0 about1 = true := by decide +kernel
theorem w_applies : (headSpec (Jvm.Cond.code x code maxLocals ret :: tables_1) room_1).applies x e0.platform about1 = true :=
  (Spec.applies_iff w_frames).mpr ⟨w_running, w_runnable, w_alone, w_named, w_hears, w_ripe, w_room, w_tables⟩
theorem atStart : AtStart classFile x code maxLocals ret World_1 tables_1 room_1 Calls_1 rest_1 Pre_1 launch0 p0 e0 about1 theMethod args0 below0 :=
  ⟨lists_1, trivial, launch0.admits_env _ _ _, launch0.least_env, fairChoices_fair.cas, fairChoices_fair.clock, w_frames, w_args, w_heap, w_applies, trivial, trivial, w_case⟩
end start1
theorem witness_1 : WitnessClaimed_1 := ⟨start1.p0, start1.e0, start1.about1, start1.theMethod, start1.args0, start1.below0, start1.atStart⟩
end Jvm.Pilot.@@N@@
