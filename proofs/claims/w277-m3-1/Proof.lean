import JvmDerived
import JvmDerived.Pilot.@@N@@Statement
import JvmDerived.Pilot.@@N@@Code
set_option linter.unusedVariables false
set_option linter.unusedSimpArgs false
namespace Jvm.RoadKit
open Sem ClassFile Op Lib Jvm.Stand Jvm.Free Jvm.LawKit
section OwnKit
variable {p : Program} {l : Launch} {e : Env} {R : Room} {s : State} {m : MethodId} {args : Array Value} {below : List Frame} {meth : Method} {c : Code} {T : State} {locs : List Loc} {cells slots : Nat}
theorem retI (X : Stand p l e R s m args below meth c T locs cells slots) (hx : p.tables.exec = Jvm.exec) {pc : Nat} {Ls : Array Slot} {z : Int32} {rest : List Value} (hret : meth.sig.returnType = some .int) (hd : decode c.code pc = .ok (.ireturn, 1)) {fs : List Frame}
    (hl : ∀ (f : JFrame) (acts : List Action), f.method = m → f.locked = none → f.entered = [] → (doReturn e (T.setTop f) acts (some (.int z))).1 = T.setFrames fs) : Steps p.tables e below (T.setTop (mkF m pc Ls (.int z :: rest))) (T.setFrames fs) := by
  have hm' : T.vm.method? m = some meth := X.method'
  have hn : narrow .int (.int z) = .int z := rfl
  show Steps p.tables e below (T.setTop { method := m, pc := pc, locals := Ls, stack := _ :: rest, locked := none }) _
  jvm_step X.here [X.here.top, hx, hd, hm', hret, hn]
  first | (intro acts; rw [hl _ acts rfl rfl rfl]) | rw [hl _ _ rfl rfl rfl]
  exact Steps.refl _
/-- from this state and frame the run comes to an end that P says -/
def own_Go (tb : Tables) (e : Env) (below : List Frame) (P : State → Outcome → Prop) (T : State) (g : JFrame) : Prop := ∃ s₂ o, Steps tb e below (T.setTop g) s₂ ∧ P s₂ o
theorem own_go {tb : Tables} {P : State → Outcome → Prop} {T' : State} {g g' : JFrame} (st : ∀ t, Steps tb e below (T'.setTop g') t → Steps tb e below (T.setTop g) t) (k : own_Go tb e below P T' g') : own_Go tb e below P T g := by
  obtain ⟨s, o, h, q⟩ := k
  exact ⟨s, o, st s h, q⟩
/-- how a body ends: what it returned, its heap and the places that it wrote stand in Q -/
def own_P (below : List Frame) (s : State) (Q : Option Value → Heap → List Loc → Prop) (k n : Nat) (s₂ : State) (o : Outcome) : Prop := s₂.status = .running ∧ Ended s₂ below o ∧ ∃ v L, o = .returned v ∧ Q v s₂.heap L ∧ FrameEnd s o s₂ L k n
theorem own_leave (X : Stand p l e R s m args below meth c T locs cells slots) {Q : Option Value → Heap → List Loc → Prop} {k n : Nat} {v : Option Value} {g : JFrame} (hlk : meth.locks = false) (hv : meth.sig.returnType = none → v = none) (hq : Q v T.heap locs) (hk : cells ≤ k) (hn : slots ≤ n)
    (hst : ∀ fs, (∀ (f : JFrame) (acts : List Action), f.method = m → f.locked = none → f.entered = [] → (doReturn e (T.setTop f) acts v).1 = T.setFrames fs) → Steps p.tables e below (T.setTop g) (T.setFrames fs)) : own_Go p.tables e below (own_P below s Q k n) T g := by
  obtain ⟨fs, hr, hrun, hended, hW, hsame⟩ := X.leave (v := v) hv hlk
  exact ⟨_, _, hst fs hr, hrun, hended, _, _, rfl, hq, ⟨_, rfl⟩, hW, hsame.mono hk hn⟩
section Rets
variable {Q : Option Value → Heap → List Loc → Prop} {k n : Nat} {pc : Nat} {Ls : Array Slot} {rest : List Value}
theorem own_retI (X : Stand p l e R s m args below meth c T locs cells slots) (hx : p.tables.exec = Jvm.exec) {z : Int32} (hret : meth.sig.returnType = some .int) (hlk : meth.locks = false) (hd : decode c.code pc = .ok (.ireturn, 1)) (hk : cells ≤ k) (hn : slots ≤ n) (hq : Q (some (.int z)) T.heap locs) : own_Go p.tables e below (own_P below s Q k n) T (mkF m pc Ls (.int z :: rest)) :=
  own_leave X hlk (fun h => by rw [hret] at h; cases h) hq hk hn (fun fs hr => retI X hx hret hd hr)
theorem own_retN (X : Stand p l e R s m args below meth c T locs cells slots) (hx : p.tables.exec = Jvm.exec) {z : Int32} {t : FieldType} (hret : meth.sig.returnType = some t) (ht : t = .boolean ∨ t = .byte ∨ t = .char ∨ t = .short) (hlk : meth.locks = false) (hd : decode c.code pc = .ok (.ireturn, 1)) (hk : cells ≤ k) (hn : slots ≤ n) (hq : Q (some (.int (nar t z))) T.heap locs) : own_Go p.tables e below (own_P below s Q k n) T (mkF m pc Ls (.int z :: rest)) :=
  own_leave X hlk (fun h => by rw [hret] at h; cases h) hq hk hn (fun fs hr => retN X hx hret ht hd hr)
theorem own_retJ (X : Stand p l e R s m args below meth c T locs cells slots) (hx : p.tables.exec = Jvm.exec) {z : Int64} (hret : meth.sig.returnType = some .long) (hlk : meth.locks = false) (hd : decode c.code pc = .ok (.lreturn, 1)) (hk : cells ≤ k) (hn : slots ≤ n) (hq : Q (some (.long z)) T.heap locs) : own_Go p.tables e below (own_P below s Q k n) T (mkF m pc Ls (.long z :: rest)) :=
  own_leave X hlk (fun h => by rw [hret] at h; cases h) hq hk hn (fun fs hr => retOut X hx hret rfl (Or.inr (Or.inl ⟨rfl, rfl, z, rfl⟩)) hd hr)
theorem own_narR {t : FieldType} {v : Value} (ht : t.isReference = true) : narrow t v = v := by
  cases t <;> simp [FieldType.isReference] at ht <;> rfl
theorem own_retR (X : Stand p l e R s m args below meth c T locs cells slots) (hx : p.tables.exec = Jvm.exec) {z : Value} {t : FieldType} (hret : meth.sig.returnType = some t) (ht : t.isReference = true) (hz : z.isRef = true) (hlk : meth.locks = false) (hd : decode c.code pc = .ok (.areturn, 1)) (hk : cells ≤ k) (hn : slots ≤ n) (hq : Q (some z) T.heap locs) : own_Go p.tables e below (own_P below s Q k n) T (mkF m pc Ls (z :: rest)) :=
  own_leave X hlk (fun h => by rw [hret] at h; cases h) hq hk hn (fun fs hr => retOut X hx hret (own_narR ht) (Or.inr (Or.inr (Or.inr (Or.inr ⟨rfl, ht, hz⟩)))) hd hr)
theorem own_retV (X : Stand p l e R s m args below meth c T locs cells slots) (hx : p.tables.exec = Jvm.exec) (hret : meth.sig.returnType = none) (hlk : meth.locks = false) (hd : decode c.code pc = .ok (.return_, 1)) (hk : cells ≤ k) (hn : slots ≤ n) (hq : Q none T.heap locs) : own_Go p.tables e below (own_P below s Q k n) T (mkF m pc Ls []) :=
  own_leave X hlk (fun _ => rfl) hq hk hn (fun fs hr => X.returnOut hx hret hd hr)
end Rets
/-- a body's contract at one call: its arguments, the heap at the call, what it leaves -/
abbrev own_Met (l : Launch) (y : MethodName) (bytes : ByteArray) (maxL : Nat) (ret : Option FieldType) (ws : List Cond) (rm : Room) (Z : State) (as' : Array Value) (h0 : Heap) (Q : Option Value → Heap → List Loc → Prop) : Prop :=
  MetFree l y (head1 (Cond.code y bytes maxL ret :: ws) rm) (fun a U => a = as' ∧ Z.Warmed39 U.vm ∧ U.heap = h0) (fun _ _ _ _ _ => True) (fun _ U o U' => ∃ v L, o = .returned v ∧ Q v U'.heap L ∧ FrameEnd U o U' L rm.cells rm.slots)
theorem own_body {y : MethodName} {bytes : ByteArray} {maxL : Nat} {ret : Option FieldType} {ws : List Cond} {rm : Room} {Z : State} {as' : Array Value} {h0 : Heap} {Q : Option Value → Heap → List Loc → Prop} (hpl : plainFor y = true)
    (H : ∀ (p : Program) (e : Env) (s : State) (m : MethodId) (below : List Frame) (meth : Method) (c : Code) (s₁ : State), Stand p l e rm s m as' below meth c s₁ [] 0 0 → p.tables.exec = Jvm.exec → c.code = bytes → c.maxLocals = maxL → s.vm.findClass y.cls = some m.cls → meth.name = y.name → meth.sig.returnType = ret → meth.locks = false → Z.Warmed39 s.vm → s₁.heap = h0 → own_Go p.tables e below (own_P below s Q rm.cells rm.slots) s₁ (entryFrame m as' maxL)) :
    own_Met l y bytes maxL ret ws rm Z as' h0 Q := by
  refine MetFree.of_bodySF hpl hisR ?_
  intro p e s m args below meth c s₁ Bd hml hP hK
  obtain ⟨rfl, hZ, hh⟩ := hP
  exact H p e s m below meth c s₁ (Stand.of_body Bd) Bd.exec Bd.bytes hml (findClass_of_methodNamed Bd.named) (name_of_methodNamed Bd.named Bd.method).1 Bd.returns Bd.notSynchronized hZ (by rw [← hh, Bd.state]; rfl)
theorem own_cast {tb : Tables} {P : State → Outcome → Prop} {g g' : JFrame} (q : g = g') (k : own_Go tb e below P T g') : own_Go tb e below P T g := q ▸ k
section Calls
variable {Z : State} {a0 : Array Value} {h : Heap} {own : String} {index : Nat} {y : MethodName} {bytes : ByteArray} {maxL : Nat} {ret : Option FieldType} {rm : Room} {Q : Option Value → Heap → List Loc → Prop}
theorem own_callS (X : Stand p l e R s m args below meth c T locs cells slots) (hx : p.tables.exec = Jvm.exec) (hZ : Z.Warmed39 s.vm) (hown : s.vm.findClass own = some m.cls) (w1 : (Cond.methodLink own index y).before a0 Z = true) (w2 : (Cond.static y).before a0 Z = true) (w3 : (Cond.initialized y.cls).before a0 Z = true) (w4 : (Cond.code y bytes maxL ret).before a0 Z = true)
    (hy : y.cls ≠ "java/lang/invoke/MethodHandle" ∧ y.cls ≠ "java/lang/invoke/VarHandle") (eT : T.heap = h) {argsL rest : List Value} (hM : own_Met l y bytes maxL ret [] rm Z argsL.toArray h Q) (W : Nat) (hf : rm.frames + 1 ≤ R.frames) (hl : W + (maxL + 11) + rm.locals ≤ R.locals) (hc : cells + rm.cells ≤ R.cells) (hs : slots + rm.slots ≤ R.slots)
    {g : JFrame} (hg : g.method = m) (hsize : g.locals.size = c.maxLocals) (hlen : ∀ sig, parseMethodDescriptor y.desc = some sig → argsL.length = sig.parameters.length) (hstack : g.stack = argsL.reverse ++ rest) (hW : 2 * g.monitorRoom + (rest.map fun v => v.category).sum ≤ W) (hdg : decode c.code g.pc = .ok (.invokestatic index, 3)) :
    ∃ (v : Option Value) (T' : State) (h' : Heap) (L : List Loc), Stand p l e R s m args below meth c T' (locs ++ L) (cells + rm.cells) (slots + rm.slots) ∧ T'.heap = h' ∧ Q v h' L ∧ ∀ t, Steps p.tables e below (T'.setTop { g with pc := g.pc + 3, stack := v.toList ++ rest }) t → Steps p.tables e below (T.setTop g) t := by
  obtain ⟨v, _, ⟨T', L', k', n'⟩, -, X', ⟨Lc, hQ, l', y', z'⟩, st⟩ := Jvm.LawKit.callS X hx hown (mvT hZ w1) (mvT hZ w2) (mvT hZ w3) (mvT hZ w4) hy (backOf (W := W) hM hZ w4 w3 hf hl) hg hsize hlen hstack hW hdg (fun _ _ => ⟨rfl, eT, hc, hs⟩)
  dsimp only [Pt.U, Pt.locs, Pt.cells, Pt.slots] at X' l' y' z' st hQ
  subst l' y' z'
  exact ⟨v, T', _, Lc, X', rfl, hQ, st⟩
theorem own_callI (X : Stand p l e R s m args below meth c T locs cells slots) (hx : p.tables.exec = Jvm.exec) (hZ : Z.Warmed39 s.vm) (hn : y.name = "<init>") (hown : s.vm.findClass own = some m.cls) (w1 : (Cond.methodLink own index y).before a0 Z = true) (w2 : (Cond.instanceMethod y).before a0 Z = true) (w3 : (Cond.initialized y.cls).before a0 Z = true) (w4 : (Cond.code y bytes maxL none).before a0 Z = true)
    (hy : y.cls ≠ "java/lang/invoke/MethodHandle" ∧ y.cls ≠ "java/lang/invoke/VarHandle") (eT : T.heap = h) {a : Addr} {argsL rest : List Value} (hM : own_Met l y bytes maxL none [] rm Z (.ref a :: argsL).toArray h Q) (W : Nat) (hf : rm.frames + 1 ≤ R.frames) (hl : W + (maxL + 11) + rm.locals ≤ R.locals) (hc : cells + rm.cells ≤ R.cells) (hs : slots + rm.slots ≤ R.slots)
    {g : JFrame} (hg : g.method = m) (hsize : g.locals.size = c.maxLocals) (hlen : ∀ sig, parseMethodDescriptor y.desc = some sig → argsL.length = sig.parameters.length) (hstack : g.stack = argsL.reverse ++ .ref a :: rest) (hW : 2 * g.monitorRoom + (rest.map fun v => v.category).sum ≤ W) (hdg : decode c.code g.pc = .ok (.invokespecial index, 3)) :
    ∃ (v : Option Value) (T' : State) (h' : Heap) (L : List Loc), Stand p l e R s m args below meth c T' (locs ++ L) (cells + rm.cells) (slots + rm.slots) ∧ T'.heap = h' ∧ Q v h' L ∧ ∀ t, Steps p.tables e below (T'.setTop { g with pc := g.pc + 3, stack := v.toList ++ rest }) t → Steps p.tables e below (T.setTop g) t := by
  obtain ⟨v, _, ⟨T', L', k', n'⟩, -, X', ⟨Lc, hQ, l', y', z'⟩, st⟩ := X.specialBack hx hn hown (mvT hZ w1) (mvT hZ w2) (mvT hZ w4) hy (backOf (W := W) hM hZ w4 w3 hf hl) hg hsize (Steps.refl _) hlen hstack hW hdg (fun _ _ => ⟨rfl, eT, hc, hs⟩)
  dsimp only [Pt.U, Pt.locs, Pt.cells, Pt.slots] at X' l' y' z' st hQ
  subst l' y' z'
  exact ⟨v, T', _, Lc, X', rfl, hQ, fun t k => st.trans k⟩
theorem own_callV {C : String} {z : MethodName} (X : Stand p l e R s m args below meth c T locs cells slots) (hx : p.tables.exec = Jvm.exec) (hZ : Z.Warmed39 s.vm) (hown : s.vm.findClass own = some m.cls) (w1 : (Cond.methodLink own index y).before a0 Z = true) (w2 : (Cond.declares y).before a0 Z = true) (w3 : (Cond.selects C y z).before a0 Z = true) (hnf : NotFace s y) (w5 : (Cond.instanceMethod z).before a0 Z = true) (w6 : (Cond.initialized z.cls).before a0 Z = true) (w4 : (Cond.code z bytes maxL ret).before a0 Z = true)
    (hy : y.cls ≠ "java/lang/invoke/MethodHandle" ∧ y.cls ≠ "java/lang/invoke/VarHandle") (eT : T.heap = h) {a : Addr} (E : Exa Z h a C) {argsL rest : List Value} (hM : own_Met l z bytes maxL ret [] rm Z (.ref a :: argsL).toArray h Q) (W : Nat) (hf : rm.frames + 1 ≤ R.frames) (hl : W + (maxL + 11) + rm.locals ≤ R.locals) (hc : cells + rm.cells ≤ R.cells) (hs : slots + rm.slots ≤ R.slots)
    {g : JFrame} (hg : g.method = m) (hsize : g.locals.size = c.maxLocals) (hlen : ∀ sig, parseMethodDescriptor y.desc = some sig → argsL.length = sig.parameters.length) (hstack : g.stack = argsL.reverse ++ .ref a :: rest) (hW : 2 * g.monitorRoom + (rest.map fun v => v.category).sum ≤ W) (hdg : decode c.code g.pc = .ok (.invokevirtual index, 3)) :
    ∃ (v : Option Value) (T' : State) (h' : Heap) (L : List Loc), Stand p l e R s m args below meth c T' (locs ++ L) (cells + rm.cells) (slots + rm.slots) ∧ T'.heap = h' ∧ Q v h' L ∧ ∀ t, Steps p.tables e below (T'.setTop { g with pc := g.pc + 3, stack := v.toList ++ rest }) t → Steps p.tables e below (T.setTop g) t := by
  obtain ⟨cq, kq, qa, qb, qc⟩ := isOf hZ eT E
  obtain ⟨v, _, ⟨T', L', k', n'⟩, -, X', ⟨Lc, hQ, l', y', z'⟩, st⟩ := X.virtualBack hx hown (mvT hZ w1) (mvT hZ w2) hnf (mvT hZ w3) (mvT hZ w5) hy (backOf (W := W) hM hZ w4 w6 hf hl) qa qc hg hsize (Steps.refl _) hlen hstack hW hdg (fun _ _ => ⟨rfl, eT, hc, hs⟩)
  dsimp only [Pt.U, Pt.locs, Pt.cells, Pt.slots] at X' l' y' z' st hQ
  subst l' y' z'
  exact ⟨v, T', _, Lc, X', rfl, hQ, fun t k => st.trans k⟩
theorem own_callP (X : Stand p l e R s m args below meth c T locs cells slots) (hx : p.tables.exec = Jvm.exec) (hZ : Z.Warmed39 s.vm) (hown : s.vm.findClass own = some m.cls) (w1 : (Cond.methodLink own index y).before a0 Z = true) (w2 : (Cond.instanceMethod y).before a0 Z = true) (w3 : (Cond.selects y.cls y y).before a0 Z = true) (w5 : (Cond.privateMethod y).before a0 Z = true) (w6 : (Cond.initialized y.cls).before a0 Z = true) (w4 : (Cond.code y bytes maxL ret).before a0 Z = true)
    (hy : y.cls ≠ "java/lang/invoke/MethodHandle" ∧ y.cls ≠ "java/lang/invoke/VarHandle") (eT : T.heap = h) {a : Addr} {C : String} (E : Exa Z h a C) {argsL rest : List Value} (hM : own_Met l y bytes maxL ret [] rm Z (.ref a :: argsL).toArray h Q) (W : Nat) (hf : rm.frames + 1 ≤ R.frames) (hl : W + (maxL + 11) + rm.locals ≤ R.locals) (hc : cells + rm.cells ≤ R.cells) (hs : slots + rm.slots ≤ R.slots)
    {g : JFrame} (hg : g.method = m) (hsize : g.locals.size = c.maxLocals) (hlen : ∀ sig, parseMethodDescriptor y.desc = some sig → argsL.length = sig.parameters.length) (hstack : g.stack = argsL.reverse ++ .ref a :: rest) (hW : 2 * g.monitorRoom + (rest.map fun v => v.category).sum ≤ W) (hdg : decode c.code g.pc = .ok (.invokevirtual index, 3)) :
    ∃ (v : Option Value) (T' : State) (h' : Heap) (L : List Loc), Stand p l e R s m args below meth c T' (locs ++ L) (cells + rm.cells) (slots + rm.slots) ∧ T'.heap = h' ∧ Q v h' L ∧ ∀ t, Steps p.tables e below (T'.setTop { g with pc := g.pc + 3, stack := v.toList ++ rest }) t → Steps p.tables e below (T.setTop g) t := by
  obtain ⟨cq, q1, q2⟩ := E.cell
  obtain ⟨v, _, ⟨T', L', k', n'⟩, -, X', ⟨Lc, hQ, l', y', z'⟩, st⟩ := X.privateBack hx hown (mvT hZ w1) (mvT hZ w2) (mvT hZ w3) (Cond.privateMethod_at (mvP hZ w5 (args := #[]))) (mvT hZ w4) hy (backOf (W := W) hM hZ w4 w6 hf hl) hg hsize (Steps.refl _) (by rw [eT]; exact q1) q2 hlen hstack hW hdg (fun _ _ => ⟨rfl, eT, hc, hs⟩)
  dsimp only [Pt.U, Pt.locs, Pt.cells, Pt.slots] at X' l' y' z' st hQ
  subst l' y' z'
  exact ⟨v, T', _, Lc, X', rfl, hQ, fun t k => st.trans k⟩
theorem own_callF {C : String} {z : MethodName} {count : Nat} (X : Stand p l e R s m args below meth c T locs cells slots) (hx : p.tables.exec = Jvm.exec) (hZ : Z.Warmed39 s.vm) (hown : s.vm.findClass own = some m.cls) (w1 : (Cond.methodLink own index y).before a0 Z = true) (w2 : (Cond.declares y).before a0 Z = true) (w3 : (Cond.interfaceMethod y.cls y.cls y.name y.desc).before args s = true) (w5 : (Cond.selects C y z).before a0 Z = true) (w7 : (Cond.instanceMethod z).before a0 Z = true) (w8 : (Cond.publicMethod z).before a0 Z = true) (w9 : (Cond.unhidden C y.name y.desc).before a0 Z = true) (w10 : (Cond.castable C y.cls).before a0 Z = true) (w6 : (Cond.initialized z.cls).before a0 Z = true) (w4 : (Cond.code z bytes maxL ret).before a0 Z = true)
    (hy : y.cls ≠ "java/lang/invoke/MethodHandle" ∧ y.cls ≠ "java/lang/invoke/VarHandle") (eT : T.heap = h) {a : Addr} (E : Exa Z h a C) {argsL rest : List Value} (hM : own_Met l z bytes maxL ret [] rm Z (.ref a :: argsL).toArray h Q) (W : Nat) (hf : rm.frames + 1 ≤ R.frames) (hl : W + (maxL + 11) + rm.locals ≤ R.locals) (hc : cells + rm.cells ≤ R.cells) (hs : slots + rm.slots ≤ R.slots)
    {g : JFrame} (hg : g.method = m) (hsize : g.locals.size = c.maxLocals) (hlen : ∀ sig, parseMethodDescriptor y.desc = some sig → argsL.length = sig.parameters.length) (hstack : g.stack = argsL.reverse ++ .ref a :: rest) (hW : 2 * g.monitorRoom + (rest.map fun v => v.category).sum ≤ W) (hdg : decode c.code g.pc = .ok (.invokeinterface index count, 5)) :
    ∃ (v : Option Value) (T' : State) (h' : Heap) (L : List Loc), Stand p l e R s m args below meth c T' (locs ++ L) (cells + rm.cells) (slots + rm.slots) ∧ T'.heap = h' ∧ Q v h' L ∧ ∀ t, Steps p.tables e below (T'.setTop { g with pc := g.pc + 5, stack := v.toList ++ rest }) t → Steps p.tables e below (T.setTop g) t := by
  obtain ⟨cq, kq, qa, qb, qc⟩ := isOf hZ eT E
  obtain ⟨v, _, ⟨T', L', k', n'⟩, -, X', ⟨Lc, hQ, l', y', z'⟩, st⟩ := X.interfaceBack hx hown (mvT hZ w1) (mvT hZ w2) w3 (mvT hZ w5) (mvT hZ w7) (mvT hZ w8) (mvT hZ w9) (mvT hZ w10) hy (backOf (W := W) hM hZ w4 w6 hf hl) qa qb qc hg hsize (Steps.refl _) hlen hstack hW hdg (fun _ _ => ⟨rfl, eT, hc, hs⟩)
  dsimp only [Pt.U, Pt.locs, Pt.cells, Pt.slots] at X' l' y' z' st hQ
  subst l' y' z'
  exact ⟨v, T', _, Lc, X', rfl, hQ, fun t k => st.trans k⟩
end Calls
end OwnKit
end Jvm.RoadKit
namespace Jvm.Pilot.@@N@@
open Jvm Jvm.ClassFile Sem Op Lib Jvm.Free Jvm.Stand Jvm.LawKit Jvm.RoadKit Bundle Jvm.Pilot.@@N@@.Jvm.D
def own_lc (x : Int64) : Int32 := if x = (0 : Int64) then (1 : Int32) else if x = (1 : Int64) then (1 : Int32) else (3 : Int32)
theorem own_half (x : Int64) : (((x).toUInt64 >>> ((1 : Int32) &&& 0x3f).toInt64.toUInt64).toInt64).toInt = (x.toInt % 18446744073709551616) / 2 :=
  c_lushr x (1 : Int32) 1 (by decide) (by decide)
theorem own_lc_small (x : Int64) (h : ((x).toUInt64 >>> ((1 : Int32) &&& 0x3f).toInt64.toUInt64).toInt64 = (0 : Int64)) : own_lc x = (1 : Int32) := by
  have a := own_half x
  rw [h] at a
  have e0 : (0 : Int64).toInt = 0 := by decide
  have e1 : (1 : Int64).toInt = 1 := by decide
  have r := rng64 x
  rw [e0] at a
  by_cases h0 : x = (0 : Int64)
  · rw [own_lc, if_pos h0]
  · have h0' : x.toInt ≠ 0 := fun q => h0 (Int64.toInt_inj.mp (q.trans e0.symm))
    have h1 : x = (1 : Int64) := Int64.toInt_inj.mp (by rw [e1]; omega)
    rw [own_lc, if_neg h0, if_pos h1]
theorem own_lc_great (x : Int64) (h : ¬ ((x).toUInt64 >>> ((1 : Int32) &&& 0x3f).toInt64.toUInt64).toInt64 = (0 : Int64)) : own_lc x = (3 : Int32) := by
  have h0 : ¬ x = (0 : Int64) := fun q => h (by subst q; decide)
  have h1 : ¬ x = (1 : Int64) := fun q => h (by subst q; decide)
  rw [own_lc, if_neg h0, if_neg h1]
theorem d1_0 : decode method_2_code 0 = .ok (.iload_n 2, 1) := by decide +kernel
theorem d1_1 : decode method_2_code 1 = .ok (.bipush 7, 2) := by decide +kernel
theorem d1_3 : decode method_2_code 3 = .ok (.iand, 1) := by decide +kernel
theorem d1_4 : decode method_2_code 4 = .ok (.istore_n 3, 1) := by decide +kernel
theorem d1_5 : decode method_2_code 5 = .ok (.iload_n 3, 1) := by decide +kernel
theorem d1_6 : decode method_2_code 6 = .ok (.ifCond .ne 5, 3) := by decide +kernel
theorem d1_9 : decode method_2_code 9 = .ok (.lload_n 0, 1) := by decide +kernel
theorem d1_10 : decode method_2_code 10 = .ok (.lreturn, 1) := by decide +kernel
theorem d1_11 : decode method_2_code 11 = .ok (.iload_n 3, 1) := by decide +kernel
theorem d1_12 : decode method_2_code 12 = .ok (.iconst 1, 1) := by decide +kernel
theorem d1_13 : decode method_2_code 13 = .ok (.if_icmp .ne 5, 3) := by decide +kernel
theorem d1_16 : decode method_2_code 16 = .ok (.lconst 0, 1) := by decide +kernel
theorem d1_17 : decode method_2_code 17 = .ok (.lreturn, 1) := by decide +kernel
theorem d1_18 : decode method_2_code 18 = .ok (.iload_n 3, 1) := by decide +kernel
theorem d1_19 : decode method_2_code 19 = .ok (.iconst 2, 1) := by decide +kernel
theorem d1_20 : decode method_2_code 20 = .ok (.if_icmp .ne 5, 3) := by decide +kernel
theorem d1_23 : decode method_2_code 23 = .ok (.lconst 1, 1) := by decide +kernel
theorem d1_24 : decode method_2_code 24 = .ok (.lreturn, 1) := by decide +kernel
theorem d1_25 : decode method_2_code 25 = .ok (.iload_n 3, 1) := by decide +kernel
theorem d1_26 : decode method_2_code 26 = .ok (.iconst 3, 1) := by decide +kernel
theorem d1_27 : decode method_2_code 27 = .ok (.if_icmp .ne 7, 3) := by decide +kernel
theorem d1_30 : decode method_2_code 30 = .ok (.ldc2_w 7, 3) := by decide +kernel
theorem d1_33 : decode method_2_code 33 = .ok (.lreturn, 1) := by decide +kernel
theorem d1_34 : decode method_2_code 34 = .ok (.iload_n 3, 1) := by decide +kernel
theorem d1_35 : decode method_2_code 35 = .ok (.iconst 4, 1) := by decide +kernel
theorem d1_36 : decode method_2_code 36 = .ok (.if_icmp .ne 7, 3) := by decide +kernel
theorem d1_39 : decode method_2_code 39 = .ok (.ldc2_w 9, 3) := by decide +kernel
theorem d1_42 : decode method_2_code 42 = .ok (.lreturn, 1) := by decide +kernel
theorem d1_43 : decode method_2_code 43 = .ok (.iload_n 3, 1) := by decide +kernel
theorem d1_44 : decode method_2_code 44 = .ok (.iconst 5, 1) := by decide +kernel
theorem d1_45 : decode method_2_code 45 = .ok (.if_icmp .ne 7, 3) := by decide +kernel
theorem d1_48 : decode method_2_code 48 = .ok (.ldc2_w 13, 3) := by decide +kernel
theorem d1_51 : decode method_2_code 51 = .ok (.lreturn, 1) := by decide +kernel
theorem d1_52 : decode method_2_code 52 = .ok (.iload_n 3, 1) := by decide +kernel
theorem d1_53 : decode method_2_code 53 = .ok (.bipush 6, 2) := by decide +kernel
theorem d1_55 : decode method_2_code 55 = .ok (.if_icmp .ne 7, 3) := by decide +kernel
theorem d1_58 : decode method_2_code 58 = .ok (.ldc2_w 15, 3) := by decide +kernel
theorem d1_61 : decode method_2_code 61 = .ok (.lreturn, 1) := by decide +kernel
theorem d1_62 : decode method_2_code 62 = .ok (.iload_n 2, 1) := by decide +kernel
theorem d1_63 : decode method_2_code 63 = .ok (.iconst 3, 1) := by decide +kernel
theorem d1_64 : decode method_2_code 64 = .ok (.iushr, 1) := by decide +kernel
theorem d1_65 : decode method_2_code 65 = .ok (.bipush 7, 2) := by decide +kernel
theorem d1_67 : decode method_2_code 67 = .ok (.iand, 1) := by decide +kernel
theorem d1_68 : decode method_2_code 68 = .ok (.iconst 3, 1) := by decide +kernel
theorem d1_69 : decode method_2_code 69 = .ok (.isub, 1) := by decide +kernel
theorem d1_70 : decode method_2_code 70 = .ok (.i2l, 1) := by decide +kernel
theorem d1_71 : decode method_2_code 71 = .ok (.lreturn, 1) := by decide +kernel
theorem d2_0 : decode prog_60_method_3_code 0 = .ok (.lload_n 0, 1) := by decide +kernel
theorem d2_1 : decode prog_60_method_3_code 1 = .ok (.lconst 0, 1) := by decide +kernel
theorem d2_2 : decode prog_60_method_3_code 2 = .ok (.lcmp, 1) := by decide +kernel
theorem d2_3 : decode prog_60_method_3_code 3 = .ok (.ifCond .eq 9, 3) := by decide +kernel
theorem d2_6 : decode prog_60_method_3_code 6 = .ok (.lload_n 0, 1) := by decide +kernel
theorem d2_7 : decode prog_60_method_3_code 7 = .ok (.lconst 1, 1) := by decide +kernel
theorem d2_8 : decode prog_60_method_3_code 8 = .ok (.lcmp, 1) := by decide +kernel
theorem d2_9 : decode prog_60_method_3_code 9 = .ok (.ifCond .ne 7, 3) := by decide +kernel
theorem d2_12 : decode prog_60_method_3_code 12 = .ok (.iconst 1, 1) := by decide +kernel
theorem d2_13 : decode prog_60_method_3_code 13 = .ok (.goto 4, 3) := by decide +kernel
theorem d2_16 : decode prog_60_method_3_code 16 = .ok (.iconst 3, 1) := by decide +kernel
theorem d2_17 : decode prog_60_method_3_code 17 = .ok (.ireturn, 1) := by decide +kernel
theorem pd0 : parseMethodDescriptor "(JI)J" = some ⟨[.long, .int], some .long⟩ := by decide +kernel
theorem pd1 : parseMethodDescriptor "(J)I" = some ⟨[.long], some .int⟩ := by decide +kernel
set_option maxRecDepth 65536 in
set_option maxHeartbeats 40000000 in
theorem rm1 (l : Launch) (Z : State) (a0 : Array Value) (hw : ∀ d ∈ tables_1, d.before a0 Z = true) (ws : List Jvm.Cond) (q1 : Int64) (p2 : Int32) (h0 : Heap) (n0 : Nat) (Z0 : n0 ≤ h0.size) :
    own_Met l (⟨"isthmus/generator/BytecodeLongConstantPinLaw", "pick", "(JI)J"⟩ : MethodName) method_2_code 4 (some .long) ws ({ frames := 0, cells := 0, slots := 0, locals := 0 } : Room) Z #[(.long q1), (.int p2)] h0 (fun v h L => ∃ x : Int64, v = some (.long x) ∧ Fr n0 L ∧ h0 = h) := by
  refine own_body (plainFor_of_name (by first | (simp [plainName, overriddenIn]; done) | decide +kernel)) ?_
  intro p e s m below meth c s₁ X0 hx hby hml hown hnm hret hlk hZ e0
  have N0 := Fr.nil n0
  refine own_cast (show entryFrame m #[(.long q1), (.int p2)] 4 = mkF m 0 #[.val (.long q1), .second, .val (.int p2), .unset] [] from by first | (simp [entryFrame, mkF, argsToLocals, Value.category]; done) | rfl) ?_
  show own_Go _ _ _ _ s₁ (mkF m 0 #[.val (.long q1), .second, .val (.int p2), .unset] [])
  refine own_go (fun _ k => XS.iloadN X0.here hx rfl (hb hby d1_0) rfl k) ?_
  show own_Go _ _ _ _ s₁ (mkF m 1 #[.val (.long q1), .second, .val (.int p2), .unset] [(.int p2)])
  refine own_go (fun _ k => XS.bipush X0.here hx rfl (hb hby d1_1) k) ?_
  show own_Go _ _ _ _ s₁ (mkF m 3 #[.val (.long q1), .second, .val (.int p2), .unset] [(.int (7 : Int32)), (.int p2)])
  refine own_go (fun _ k => XS.iand X0.here hx rfl (hb hby d1_3) rfl k) ?_
  show own_Go _ _ _ _ s₁ (mkF m 4 #[.val (.long q1), .second, .val (.int p2), .unset] [(.int (p2 &&& (7 : Int32)))])
  refine own_go (fun _ k => XS.istoreN X0.here hx rfl (hb hby d1_4) rfl (l' := #[.val (.long q1), .second, .val (.int p2), .val (.int (p2 &&& (7 : Int32)))]) rfl k) ?_
  show own_Go _ _ _ _ s₁ (mkF m 5 #[.val (.long q1), .second, .val (.int p2), .val (.int (p2 &&& (7 : Int32)))] [])
  refine own_go (fun _ k => XS.iloadN X0.here hx rfl (hb hby d1_5) rfl k) ?_
  show own_Go _ _ _ _ s₁ (mkF m 6 #[.val (.long q1), .second, .val (.int p2), .val (.int (p2 &&& (7 : Int32)))] [(.int (p2 &&& (7 : Int32)))])
  by_cases hc0 : (p2 &&& (7 : Int32)) = (0 : Int32)
  · skip
    refine own_go (fun _ k => XS.ifNo X0.here hx rfl (hb hby d1_6) rfl ((if0 _ _).trans (teq hc0).2) k) ?_
    show own_Go _ _ _ _ s₁ (mkF m 9 #[.val (.long q1), .second, .val (.int p2), .val (.int (p2 &&& (7 : Int32)))] [])
    refine own_go (fun _ k => XS.lloadN X0.here hx rfl (hb hby d1_9) rfl k) ?_
    show own_Go _ _ _ _ s₁ (mkF m 10 #[.val (.long q1), .second, .val (.int p2), .val (.int (p2 &&& (7 : Int32)))] [(.long q1)])
    exact own_retJ X0 hx hret hlk (hb hby d1_10) (by decide) (by decide) (by first | exact ⟨_, rfl, N0, rfl⟩ | (rw [e0]; exact ⟨_, rfl, N0, rfl⟩))
  · skip
    refine own_go (fun _ k => XS.ifYes X0.here hx rfl (pc0 := 6) (pc' := 11) rfl (hb hby d1_6) rfl ((if0 _ _).trans (feq hc0).2) (by decide) (by decide) k) ?_
    show own_Go _ _ _ _ s₁ (mkF m 11 #[.val (.long q1), .second, .val (.int p2), .val (.int (p2 &&& (7 : Int32)))] [])
    refine own_go (fun _ k => XS.iloadN X0.here hx rfl (hb hby d1_11) rfl k) ?_
    show own_Go _ _ _ _ s₁ (mkF m 12 #[.val (.long q1), .second, .val (.int p2), .val (.int (p2 &&& (7 : Int32)))] [(.int (p2 &&& (7 : Int32)))])
    refine own_go (fun _ k => XS.iconst X0.here hx rfl (hb hby d1_12) k) ?_
    show own_Go _ _ _ _ s₁ (mkF m 13 #[.val (.long q1), .second, .val (.int p2), .val (.int (p2 &&& (7 : Int32)))] [(.int (1 : Int32)), (.int (p2 &&& (7 : Int32)))])
    by_cases hc1 : (p2 &&& (7 : Int32)) = (1 : Int32)
    · skip
      refine own_go (fun _ k => XS.icmpNo X0.here hx rfl (hb hby d1_13) rfl (teq hc1).2 k) ?_
      show own_Go _ _ _ _ s₁ (mkF m 16 #[.val (.long q1), .second, .val (.int p2), .val (.int (p2 &&& (7 : Int32)))] [])
      refine own_go (fun _ k => XS.lconst X0.here hx rfl (hb hby d1_16) k) ?_
      show own_Go _ _ _ _ s₁ (mkF m 17 #[.val (.long q1), .second, .val (.int p2), .val (.int (p2 &&& (7 : Int32)))] [(.long (0 : Int64))])
      exact own_retJ X0 hx hret hlk (hb hby d1_17) (by decide) (by decide) (by first | exact ⟨_, rfl, N0, rfl⟩ | (rw [e0]; exact ⟨_, rfl, N0, rfl⟩))
    · skip
      refine own_go (fun _ k => XS.icmpYes X0.here hx rfl (pc0 := 13) (pc' := 18) rfl (hb hby d1_13) rfl (feq hc1).2 (by decide) (by decide) k) ?_
      show own_Go _ _ _ _ s₁ (mkF m 18 #[.val (.long q1), .second, .val (.int p2), .val (.int (p2 &&& (7 : Int32)))] [])
      refine own_go (fun _ k => XS.iloadN X0.here hx rfl (hb hby d1_18) rfl k) ?_
      show own_Go _ _ _ _ s₁ (mkF m 19 #[.val (.long q1), .second, .val (.int p2), .val (.int (p2 &&& (7 : Int32)))] [(.int (p2 &&& (7 : Int32)))])
      refine own_go (fun _ k => XS.iconst X0.here hx rfl (hb hby d1_19) k) ?_
      show own_Go _ _ _ _ s₁ (mkF m 20 #[.val (.long q1), .second, .val (.int p2), .val (.int (p2 &&& (7 : Int32)))] [(.int (2 : Int32)), (.int (p2 &&& (7 : Int32)))])
      by_cases hc2 : (p2 &&& (7 : Int32)) = (2 : Int32)
      · skip
        refine own_go (fun _ k => XS.icmpNo X0.here hx rfl (hb hby d1_20) rfl (teq hc2).2 k) ?_
        show own_Go _ _ _ _ s₁ (mkF m 23 #[.val (.long q1), .second, .val (.int p2), .val (.int (p2 &&& (7 : Int32)))] [])
        refine own_go (fun _ k => XS.lconst X0.here hx rfl (hb hby d1_23) k) ?_
        show own_Go _ _ _ _ s₁ (mkF m 24 #[.val (.long q1), .second, .val (.int p2), .val (.int (p2 &&& (7 : Int32)))] [(.long (1 : Int64))])
        exact own_retJ X0 hx hret hlk (hb hby d1_24) (by decide) (by decide) (by first | exact ⟨_, rfl, N0, rfl⟩ | (rw [e0]; exact ⟨_, rfl, N0, rfl⟩))
      · skip
        refine own_go (fun _ k => XS.icmpYes X0.here hx rfl (pc0 := 20) (pc' := 25) rfl (hb hby d1_20) rfl (feq hc2).2 (by decide) (by decide) k) ?_
        show own_Go _ _ _ _ s₁ (mkF m 25 #[.val (.long q1), .second, .val (.int p2), .val (.int (p2 &&& (7 : Int32)))] [])
        refine own_go (fun _ k => XS.iloadN X0.here hx rfl (hb hby d1_25) rfl k) ?_
        show own_Go _ _ _ _ s₁ (mkF m 26 #[.val (.long q1), .second, .val (.int p2), .val (.int (p2 &&& (7 : Int32)))] [(.int (p2 &&& (7 : Int32)))])
        refine own_go (fun _ k => XS.iconst X0.here hx rfl (hb hby d1_26) k) ?_
        show own_Go _ _ _ _ s₁ (mkF m 27 #[.val (.long q1), .second, .val (.int p2), .val (.int (p2 &&& (7 : Int32)))] [(.int (3 : Int32)), (.int (p2 &&& (7 : Int32)))])
        by_cases hc3 : (p2 &&& (7 : Int32)) = (3 : Int32)
        · skip
          refine own_go (fun _ k => XS.icmpNo X0.here hx rfl (hb hby d1_27) rfl (teq hc3).2 k) ?_
          show own_Go _ _ _ _ s₁ (mkF m 30 #[.val (.long q1), .second, .val (.int p2), .val (.int (p2 &&& (7 : Int32)))] [])
          refine own_go (X0.ldc2Long hx hown (mvT hZ (hw _ (List.mem_of_getElem? (i := 10) rfl))) (g := (mkF m 30 #[.val (.long q1), .second, .val (.int p2), .val (.int (p2 &&& (7 : Int32)))] [])) rfl (hb hby d1_30)) ?_
          show own_Go _ _ _ _ s₁ (mkF m 33 #[.val (.long q1), .second, .val (.int p2), .val (.int (p2 &&& (7 : Int32)))] [(.long (-1 : Int64))])
          exact own_retJ X0 hx hret hlk (hb hby d1_33) (by decide) (by decide) (by first | exact ⟨_, rfl, N0, rfl⟩ | (rw [e0]; exact ⟨_, rfl, N0, rfl⟩))
        · skip
          refine own_go (fun _ k => XS.icmpYes X0.here hx rfl (pc0 := 27) (pc' := 34) rfl (hb hby d1_27) rfl (feq hc3).2 (by decide) (by decide) k) ?_
          show own_Go _ _ _ _ s₁ (mkF m 34 #[.val (.long q1), .second, .val (.int p2), .val (.int (p2 &&& (7 : Int32)))] [])
          refine own_go (fun _ k => XS.iloadN X0.here hx rfl (hb hby d1_34) rfl k) ?_
          show own_Go _ _ _ _ s₁ (mkF m 35 #[.val (.long q1), .second, .val (.int p2), .val (.int (p2 &&& (7 : Int32)))] [(.int (p2 &&& (7 : Int32)))])
          refine own_go (fun _ k => XS.iconst X0.here hx rfl (hb hby d1_35) k) ?_
          show own_Go _ _ _ _ s₁ (mkF m 36 #[.val (.long q1), .second, .val (.int p2), .val (.int (p2 &&& (7 : Int32)))] [(.int (4 : Int32)), (.int (p2 &&& (7 : Int32)))])
          by_cases hc4 : (p2 &&& (7 : Int32)) = (4 : Int32)
          · skip
            refine own_go (fun _ k => XS.icmpNo X0.here hx rfl (hb hby d1_36) rfl (teq hc4).2 k) ?_
            show own_Go _ _ _ _ s₁ (mkF m 39 #[.val (.long q1), .second, .val (.int p2), .val (.int (p2 &&& (7 : Int32)))] [])
            refine own_go (X0.ldc2Long hx hown (mvT hZ (hw _ (List.mem_of_getElem? (i := 8) rfl))) (g := (mkF m 39 #[.val (.long q1), .second, .val (.int p2), .val (.int (p2 &&& (7 : Int32)))] [])) rfl (hb hby d1_39)) ?_
            show own_Go _ _ _ _ s₁ (mkF m 42 #[.val (.long q1), .second, .val (.int p2), .val (.int (p2 &&& (7 : Int32)))] [(.long (2 : Int64))])
            exact own_retJ X0 hx hret hlk (hb hby d1_42) (by decide) (by decide) (by first | exact ⟨_, rfl, N0, rfl⟩ | (rw [e0]; exact ⟨_, rfl, N0, rfl⟩))
          · skip
            refine own_go (fun _ k => XS.icmpYes X0.here hx rfl (pc0 := 36) (pc' := 43) rfl (hb hby d1_36) rfl (feq hc4).2 (by decide) (by decide) k) ?_
            show own_Go _ _ _ _ s₁ (mkF m 43 #[.val (.long q1), .second, .val (.int p2), .val (.int (p2 &&& (7 : Int32)))] [])
            refine own_go (fun _ k => XS.iloadN X0.here hx rfl (hb hby d1_43) rfl k) ?_
            show own_Go _ _ _ _ s₁ (mkF m 44 #[.val (.long q1), .second, .val (.int p2), .val (.int (p2 &&& (7 : Int32)))] [(.int (p2 &&& (7 : Int32)))])
            refine own_go (fun _ k => XS.iconst X0.here hx rfl (hb hby d1_44) k) ?_
            show own_Go _ _ _ _ s₁ (mkF m 45 #[.val (.long q1), .second, .val (.int p2), .val (.int (p2 &&& (7 : Int32)))] [(.int (5 : Int32)), (.int (p2 &&& (7 : Int32)))])
            by_cases hc5 : (p2 &&& (7 : Int32)) = (5 : Int32)
            · skip
              refine own_go (fun _ k => XS.icmpNo X0.here hx rfl (hb hby d1_45) rfl (teq hc5).2 k) ?_
              show own_Go _ _ _ _ s₁ (mkF m 48 #[.val (.long q1), .second, .val (.int p2), .val (.int (p2 &&& (7 : Int32)))] [])
              refine own_go (X0.ldc2Long hx hown (mvT hZ (hw _ (List.mem_of_getElem? (i := 11) rfl))) (g := (mkF m 48 #[.val (.long q1), .second, .val (.int p2), .val (.int (p2 &&& (7 : Int32)))] [])) rfl (hb hby d1_48)) ?_
              show own_Go _ _ _ _ s₁ (mkF m 51 #[.val (.long q1), .second, .val (.int p2), .val (.int (p2 &&& (7 : Int32)))] [(.long (-9223372036854775808 : Int64))])
              exact own_retJ X0 hx hret hlk (hb hby d1_51) (by decide) (by decide) (by first | exact ⟨_, rfl, N0, rfl⟩ | (rw [e0]; exact ⟨_, rfl, N0, rfl⟩))
            · skip
              refine own_go (fun _ k => XS.icmpYes X0.here hx rfl (pc0 := 45) (pc' := 52) rfl (hb hby d1_45) rfl (feq hc5).2 (by decide) (by decide) k) ?_
              show own_Go _ _ _ _ s₁ (mkF m 52 #[.val (.long q1), .second, .val (.int p2), .val (.int (p2 &&& (7 : Int32)))] [])
              refine own_go (fun _ k => XS.iloadN X0.here hx rfl (hb hby d1_52) rfl k) ?_
              show own_Go _ _ _ _ s₁ (mkF m 53 #[.val (.long q1), .second, .val (.int p2), .val (.int (p2 &&& (7 : Int32)))] [(.int (p2 &&& (7 : Int32)))])
              refine own_go (fun _ k => XS.bipush X0.here hx rfl (hb hby d1_53) k) ?_
              show own_Go _ _ _ _ s₁ (mkF m 55 #[.val (.long q1), .second, .val (.int p2), .val (.int (p2 &&& (7 : Int32)))] [(.int (6 : Int32)), (.int (p2 &&& (7 : Int32)))])
              by_cases hc6 : (p2 &&& (7 : Int32)) = (6 : Int32)
              · skip
                refine own_go (fun _ k => XS.icmpNo X0.here hx rfl (hb hby d1_55) rfl (teq hc6).2 k) ?_
                show own_Go _ _ _ _ s₁ (mkF m 58 #[.val (.long q1), .second, .val (.int p2), .val (.int (p2 &&& (7 : Int32)))] [])
                refine own_go (X0.ldc2Long hx hown (mvT hZ (hw _ (List.mem_of_getElem? (i := 9) rfl))) (g := (mkF m 58 #[.val (.long q1), .second, .val (.int p2), .val (.int (p2 &&& (7 : Int32)))] [])) rfl (hb hby d1_58)) ?_
                show own_Go _ _ _ _ s₁ (mkF m 61 #[.val (.long q1), .second, .val (.int p2), .val (.int (p2 &&& (7 : Int32)))] [(.long (9223372036854775807 : Int64))])
                exact own_retJ X0 hx hret hlk (hb hby d1_61) (by decide) (by decide) (by first | exact ⟨_, rfl, N0, rfl⟩ | (rw [e0]; exact ⟨_, rfl, N0, rfl⟩))
              · skip
                refine own_go (fun _ k => XS.icmpYes X0.here hx rfl (pc0 := 55) (pc' := 62) rfl (hb hby d1_55) rfl (feq hc6).2 (by decide) (by decide) k) ?_
                show own_Go _ _ _ _ s₁ (mkF m 62 #[.val (.long q1), .second, .val (.int p2), .val (.int (p2 &&& (7 : Int32)))] [])
                refine own_go (fun _ k => XS.iloadN X0.here hx rfl (hb hby d1_62) rfl k) ?_
                show own_Go _ _ _ _ s₁ (mkF m 63 #[.val (.long q1), .second, .val (.int p2), .val (.int (p2 &&& (7 : Int32)))] [(.int p2)])
                refine own_go (fun _ k => XS.iconst X0.here hx rfl (hb hby d1_63) k) ?_
                show own_Go _ _ _ _ s₁ (mkF m 64 #[.val (.long q1), .second, .val (.int p2), .val (.int (p2 &&& (7 : Int32)))] [(.int (3 : Int32)), (.int p2)])
                refine own_go (fun _ k => XS.iushr X0.here hx rfl (hb hby d1_64) rfl k) ?_
                show own_Go _ _ _ _ s₁ (mkF m 65 #[.val (.long q1), .second, .val (.int p2), .val (.int (p2 &&& (7 : Int32)))] [(.int ((p2).toUInt32 >>> ((3 : Int32) &&& 31).toUInt32).toInt32)])
                refine own_go (fun _ k => XS.bipush X0.here hx rfl (hb hby d1_65) k) ?_
                show own_Go _ _ _ _ s₁ (mkF m 67 #[.val (.long q1), .second, .val (.int p2), .val (.int (p2 &&& (7 : Int32)))] [(.int (7 : Int32)), (.int ((p2).toUInt32 >>> ((3 : Int32) &&& 31).toUInt32).toInt32)])
                refine own_go (fun _ k => XS.iand X0.here hx rfl (hb hby d1_67) rfl k) ?_
                show own_Go _ _ _ _ s₁ (mkF m 68 #[.val (.long q1), .second, .val (.int p2), .val (.int (p2 &&& (7 : Int32)))] [(.int (((p2).toUInt32 >>> ((3 : Int32) &&& 31).toUInt32).toInt32 &&& (7 : Int32)))])
                refine own_go (fun _ k => XS.iconst X0.here hx rfl (hb hby d1_68) k) ?_
                show own_Go _ _ _ _ s₁ (mkF m 69 #[.val (.long q1), .second, .val (.int p2), .val (.int (p2 &&& (7 : Int32)))] [(.int (3 : Int32)), (.int (((p2).toUInt32 >>> ((3 : Int32) &&& 31).toUInt32).toInt32 &&& (7 : Int32)))])
                refine own_go (fun _ k => XS.isub X0.here hx rfl (hb hby d1_69) rfl k) ?_
                show own_Go _ _ _ _ s₁ (mkF m 70 #[.val (.long q1), .second, .val (.int p2), .val (.int (p2 &&& (7 : Int32)))] [(.int ((((p2).toUInt32 >>> ((3 : Int32) &&& 31).toUInt32).toInt32 &&& (7 : Int32)) - (3 : Int32)))])
                refine own_go (fun _ k => XS.i2l X0.here hx rfl (hb hby d1_70) rfl k) ?_
                show own_Go _ _ _ _ s₁ (mkF m 71 #[.val (.long q1), .second, .val (.int p2), .val (.int (p2 &&& (7 : Int32)))] [(.long (((((p2).toUInt32 >>> ((3 : Int32) &&& 31).toUInt32).toInt32 &&& (7 : Int32)) - (3 : Int32))).toInt64)])
                exact own_retJ X0 hx hret hlk (hb hby d1_71) (by decide) (by decide) (by first | exact ⟨_, rfl, N0, rfl⟩ | (rw [e0]; exact ⟨_, rfl, N0, rfl⟩))
set_option maxRecDepth 65536 in
set_option maxHeartbeats 40000000 in
theorem rm2 (l : Launch) (Z : State) (a0 : Array Value) (hw : ∀ d ∈ tables_1, d.before a0 Z = true) (ws : List Jvm.Cond) (q1 : Int64) (h0 : Heap) (n0 : Nat) (Z0 : n0 ≤ h0.size) :
    own_Met l (⟨"isthmus/generator/Bytecode", "longConstant", "(J)I"⟩ : MethodName) prog_60_method_3_code 2 (some .int) ws ({ frames := 0, cells := 0, slots := 0, locals := 0 } : Room) Z #[(.long q1)] h0 (fun v h L => v = some (.int (own_lc q1)) ∧ Fr n0 L ∧ h0 = h) := by
  refine own_body (plainFor_of_name (by first | (simp [plainName, overriddenIn]; done) | decide +kernel)) ?_
  intro p e s m below meth c s₁ X0 hx hby hml hown hnm hret hlk hZ e0
  have N0 := Fr.nil n0
  refine own_cast (show entryFrame m #[(.long q1)] 2 = mkF m 0 #[.val (.long q1), .second] [] from by first | (simp [entryFrame, mkF, argsToLocals, Value.category]; done) | rfl) ?_
  show own_Go _ _ _ _ s₁ (mkF m 0 #[.val (.long q1), .second] [])
  refine own_go (fun _ k => XS.lloadN X0.here hx rfl (hb hby d2_0) rfl k) ?_
  show own_Go _ _ _ _ s₁ (mkF m 1 #[.val (.long q1), .second] [(.long q1)])
  refine own_go (fun _ k => XS.lconst X0.here hx rfl (hb hby d2_1) k) ?_
  show own_Go _ _ _ _ s₁ (mkF m 2 #[.val (.long q1), .second] [(.long (0 : Int64)), (.long q1)])
  refine own_go (fun _ k => XS.lcmp X0.here hx rfl (hb hby d2_2) rfl k) ?_
  show own_Go _ _ _ _ s₁ (mkF m 3 #[.val (.long q1), .second] [(.int (lcmpW q1 (0 : Int64)))])
  by_cases hc0 : q1 = (0 : Int64)
  · skip
    refine own_go (fun _ k => XS.ifYes X0.here hx rfl (pc0 := 3) (pc' := 12) rfl (hb hby d2_3) rfl ((if0 _ _).trans (teq ((lw_eq _ _).mpr hc0)).1) (by decide) (by decide) k) ?_
    show own_Go _ _ _ _ s₁ (mkF m 12 #[.val (.long q1), .second] [])
    refine own_go (fun _ k => XS.iconst X0.here hx rfl (hb hby d2_12) k) ?_
    show own_Go _ _ _ _ s₁ (mkF m 13 #[.val (.long q1), .second] [(.int (1 : Int32))])
    refine own_go (fun _ k => XS.goto X0.here hx rfl (pc0 := 13) (pc' := 17) rfl (hb hby d2_13) (by decide) (by decide) k) ?_
    show own_Go _ _ _ _ s₁ (mkF m 17 #[.val (.long q1), .second] [(.int (1 : Int32))])
    exact own_retI X0 hx hret hlk (hb hby d2_17) (by decide) (by decide) (by first | exact ⟨by simp [own_lc, *], N0, rfl⟩ | (rw [e0]; exact ⟨by simp [own_lc, *], N0, rfl⟩))
  · skip
    refine own_go (fun _ k => XS.ifNo X0.here hx rfl (hb hby d2_3) rfl ((if0 _ _).trans (feq (fun q => hc0 ((lw_eq _ _).mp q))).1) k) ?_
    show own_Go _ _ _ _ s₁ (mkF m 6 #[.val (.long q1), .second] [])
    refine own_go (fun _ k => XS.lloadN X0.here hx rfl (hb hby d2_6) rfl k) ?_
    show own_Go _ _ _ _ s₁ (mkF m 7 #[.val (.long q1), .second] [(.long q1)])
    refine own_go (fun _ k => XS.lconst X0.here hx rfl (hb hby d2_7) k) ?_
    show own_Go _ _ _ _ s₁ (mkF m 8 #[.val (.long q1), .second] [(.long (1 : Int64)), (.long q1)])
    refine own_go (fun _ k => XS.lcmp X0.here hx rfl (hb hby d2_8) rfl k) ?_
    show own_Go _ _ _ _ s₁ (mkF m 9 #[.val (.long q1), .second] [(.int (lcmpW q1 (1 : Int64)))])
    by_cases hc1 : q1 = (1 : Int64)
    · skip
      refine own_go (fun _ k => XS.ifNo X0.here hx rfl (hb hby d2_9) rfl ((if0 _ _).trans (teq ((lw_eq _ _).mpr hc1)).2) k) ?_
      show own_Go _ _ _ _ s₁ (mkF m 12 #[.val (.long q1), .second] [])
      refine own_go (fun _ k => XS.iconst X0.here hx rfl (hb hby d2_12) k) ?_
      show own_Go _ _ _ _ s₁ (mkF m 13 #[.val (.long q1), .second] [(.int (1 : Int32))])
      refine own_go (fun _ k => XS.goto X0.here hx rfl (pc0 := 13) (pc' := 17) rfl (hb hby d2_13) (by decide) (by decide) k) ?_
      show own_Go _ _ _ _ s₁ (mkF m 17 #[.val (.long q1), .second] [(.int (1 : Int32))])
      exact own_retI X0 hx hret hlk (hb hby d2_17) (by decide) (by decide) (by first | exact ⟨by simp [own_lc, *], N0, rfl⟩ | (rw [e0]; exact ⟨by simp [own_lc, *], N0, rfl⟩))
    · skip
      refine own_go (fun _ k => XS.ifYes X0.here hx rfl (pc0 := 9) (pc' := 16) rfl (hb hby d2_9) rfl ((if0 _ _).trans (feq (fun q => hc1 ((lw_eq _ _).mp q))).2) (by decide) (by decide) k) ?_
      show own_Go _ _ _ _ s₁ (mkF m 16 #[.val (.long q1), .second] [])
      refine own_go (fun _ k => XS.iconst X0.here hx rfl (hb hby d2_16) k) ?_
      show own_Go _ _ _ _ s₁ (mkF m 17 #[.val (.long q1), .second] [(.int (3 : Int32))])
      exact own_retI X0 hx hret hlk (hb hby d2_17) (by decide) (by decide) (by first | exact ⟨by simp [own_lc, *], N0, rfl⟩ | (rw [e0]; exact ⟨by simp [own_lc, *], N0, rfl⟩))
set_option maxRecDepth 65536 in
set_option maxHeartbeats 40000000 in
theorem rm0 (l : Launch) (Z : State) (a0 : Array Value) (hw : ∀ d ∈ tables_1, d.before a0 Z = true) (ws : List Jvm.Cond) (q1 : Int64) (p2 : Int32) (h0 : Heap) (n0 : Nat) (Z0 : n0 ≤ h0.size) :
    own_Met l x code maxLocals ret ws room_1 Z #[(.long q1), (.int p2)] h0 (fun v h L => v = some (.int 1) ∧ Fr n0 L) := by
  refine own_body (plainFor_of_name (by first | (simp [plainName, overriddenIn]; done) | decide +kernel)) ?_
  intro p e s m below meth c s₁ X0 hx hby hml hown hnm hret hlk hZ e0
  have N0 := Fr.nil n0
  refine own_cast (show entryFrame m #[(.long q1), (.int p2)] maxLocals = mkF m 0 #[.val (.long q1), .second, .val (.int p2), .unset, .unset, .unset, .unset] [] from by first | (simp [entryFrame, mkF, argsToLocals, Value.category, maxLocals]; done) | rfl) ?_
  show own_Go _ _ _ _ s₁ (mkF m 0 #[.val (.long q1), .second, .val (.int p2), .unset, .unset, .unset, .unset] [])
  refine own_go (fun _ k => XS.lloadN X0.here hx rfl (hb hby at_0) rfl k) ?_
  show own_Go _ _ _ _ s₁ (mkF m 1 #[.val (.long q1), .second, .val (.int p2), .unset, .unset, .unset, .unset] [(.long q1)])
  refine own_go (fun _ k => XS.iloadN X0.here hx rfl (hb hby at_1) rfl k) ?_
  show own_Go _ _ _ _ s₁ (mkF m 2 #[.val (.long q1), .second, .val (.int p2), .unset, .unset, .unset, .unset] [(.int p2), (.long q1)])
  obtain ⟨v1, T1, h1, L1, X1, e1, hQ1, st1⟩ := own_callS X0 hx hZ hown (hw _ (List.mem_of_getElem? (i := 0) rfl)) (hw _ (List.mem_of_getElem? (i := 1) rfl)) (hw _ (List.mem_of_getElem? (i := 2) rfl)) (hw _ (List.mem_of_getElem? (i := 3) rfl)) (by decide) e0 (argsL := [(.long q1), (.int p2)]) (rest := []) (rm1 l Z a0 hw [] q1 p2 h0 n0 Z0) 0 (by decide) (by decide) (by decide) (by decide) (g := (mkF m 2 #[.val (.long q1), .second, .val (.int p2), .unset, .unset, .unset, .unset] [(.int p2), (.long q1)])) rfl (by rw [hml]; rfl) (lenOf pd0 rfl) rfl (Nat.le_of_eq rfl) (hb hby at_2)
  obtain ⟨x1, rfl, N1q, rfl⟩ := hQ1
  refine own_go (st1) ?_
  have N1 := Fr.app N0 N1q
  show own_Go _ _ _ _ T1 (mkF m 5 #[.val (.long q1), .second, .val (.int p2), .unset, .unset, .unset, .unset] [(.long x1)])
  refine own_go (fun _ k => XS.lstoreN X1.here hx rfl (hb hby at_5) rfl (l' := #[.val (.long q1), .second, .val (.int p2), .val (.long x1), .second, .unset, .unset]) rfl k) ?_
  show own_Go _ _ _ _ T1 (mkF m 6 #[.val (.long q1), .second, .val (.int p2), .val (.long x1), .second, .unset, .unset] [])
  refine own_go (fun _ k => XS.lloadN X1.here hx rfl (hb hby at_6) rfl k) ?_
  show own_Go _ _ _ _ T1 (mkF m 7 #[.val (.long q1), .second, .val (.int p2), .val (.long x1), .second, .unset, .unset] [(.long x1)])
  refine own_go (fun _ k => XS.iconst X1.here hx rfl (hb hby at_7) k) ?_
  show own_Go _ _ _ _ T1 (mkF m 8 #[.val (.long q1), .second, .val (.int p2), .val (.long x1), .second, .unset, .unset] [(.int (1 : Int32)), (.long x1)])
  refine own_go (fun _ k => XS.lushr X1.here hx rfl (hb hby at_8) rfl k) ?_
  show own_Go _ _ _ _ T1 (mkF m 9 #[.val (.long q1), .second, .val (.int p2), .val (.long x1), .second, .unset, .unset] [(.long ((x1).toUInt64 >>> ((1 : Int32) &&& 0x3f).toInt64.toUInt64).toInt64)])
  refine own_go (fun _ k => XS.lconst X1.here hx rfl (hb hby at_9) k) ?_
  show own_Go _ _ _ _ T1 (mkF m 10 #[.val (.long q1), .second, .val (.int p2), .val (.long x1), .second, .unset, .unset] [(.long (0 : Int64)), (.long ((x1).toUInt64 >>> ((1 : Int32) &&& 0x3f).toInt64.toUInt64).toInt64)])
  refine own_go (fun _ k => XS.lcmp X1.here hx rfl (hb hby at_10) rfl k) ?_
  show own_Go _ _ _ _ T1 (mkF m 11 #[.val (.long q1), .second, .val (.int p2), .val (.long x1), .second, .unset, .unset] [(.int (lcmpW ((x1).toUInt64 >>> ((1 : Int32) &&& 0x3f).toInt64.toUInt64).toInt64 (0 : Int64)))])
  by_cases hc : ((x1).toUInt64 >>> ((1 : Int32) &&& 0x3f).toInt64.toUInt64).toInt64 = (0 : Int64)
  · skip
    refine own_go (fun _ k => XS.ifNo X1.here hx rfl (hb hby at_11) rfl ((if0 _ _).trans (teq ((lw_eq _ _).mpr hc)).2) k) ?_
    show own_Go _ _ _ _ T1 (mkF m 14 #[.val (.long q1), .second, .val (.int p2), .val (.long x1), .second, .unset, .unset] [])
    refine own_go (fun _ k => XS.iconst X1.here hx rfl (hb hby at_14) k) ?_
    show own_Go _ _ _ _ T1 (mkF m 15 #[.val (.long q1), .second, .val (.int p2), .val (.long x1), .second, .unset, .unset] [(.int (1 : Int32))])
    refine own_go (fun _ k => XS.goto X1.here hx rfl (pc0 := 15) (pc' := 19) rfl (hb hby at_15) (by decide) (by decide) k) ?_
    show own_Go _ _ _ _ T1 (mkF m 19 #[.val (.long q1), .second, .val (.int p2), .val (.long x1), .second, .unset, .unset] [(.int (1 : Int32))])
    refine own_go (fun _ k => XS.istore X1.here hx rfl (hb hby at_19) rfl (l' := #[.val (.long q1), .second, .val (.int p2), .val (.long x1), .second, .val (.int (1 : Int32)), .unset]) rfl k) ?_
    show own_Go _ _ _ _ T1 (mkF m 21 #[.val (.long q1), .second, .val (.int p2), .val (.long x1), .second, .val (.int (1 : Int32)), .unset] [])
    refine own_go (fun _ k => XS.lloadN X1.here hx rfl (hb hby at_21) rfl k) ?_
    show own_Go _ _ _ _ T1 (mkF m 22 #[.val (.long q1), .second, .val (.int p2), .val (.long x1), .second, .val (.int (1 : Int32)), .unset] [(.long x1)])
    obtain ⟨v2, T2, h2, L2, X2, e2, hQ2, st2⟩ := own_callS X1 hx hZ hown (hw _ (List.mem_of_getElem? (i := 4) rfl)) (hw _ (List.mem_of_getElem? (i := 5) rfl)) (hw _ (List.mem_of_getElem? (i := 6) rfl)) (hw _ (List.mem_of_getElem? (i := 7) rfl)) (by decide) e1 (argsL := [(.long x1)]) (rest := []) (rm2 l Z a0 hw [] x1 h0 n0 Z0) 0 (by decide) (by decide) (by decide) (by decide) (g := (mkF m 22 #[.val (.long q1), .second, .val (.int p2), .val (.long x1), .second, .val (.int (1 : Int32)), .unset] [(.long x1)])) rfl (by rw [hml]; rfl) (lenOf pd1 rfl) rfl (Nat.le_of_eq rfl) (hb hby at_22)
    obtain ⟨rfl, N2q, rfl⟩ := hQ2
    refine own_go (st2) ?_
    have N2 := Fr.app N1 N2q
    show own_Go _ _ _ _ T2 (mkF m 25 #[.val (.long q1), .second, .val (.int p2), .val (.long x1), .second, .val (.int (1 : Int32)), .unset] [(.int (own_lc x1))])
    refine own_go (fun _ k => XS.istore X2.here hx rfl (hb hby at_25) rfl (l' := #[.val (.long q1), .second, .val (.int p2), .val (.long x1), .second, .val (.int (1 : Int32)), .val (.int (own_lc x1))]) rfl k) ?_
    show own_Go _ _ _ _ T2 (mkF m 27 #[.val (.long q1), .second, .val (.int p2), .val (.long x1), .second, .val (.int (1 : Int32)), .val (.int (own_lc x1))] [])
    refine own_go (fun _ k => XS.iload X2.here hx rfl (hb hby at_27) rfl k) ?_
    show own_Go _ _ _ _ T2 (mkF m 29 #[.val (.long q1), .second, .val (.int p2), .val (.long x1), .second, .val (.int (1 : Int32)), .val (.int (own_lc x1))] [(.int (own_lc x1))])
    refine own_go (fun _ k => XS.iload X2.here hx rfl (hb hby at_29) rfl k) ?_
    show own_Go _ _ _ _ T2 (mkF m 31 #[.val (.long q1), .second, .val (.int p2), .val (.long x1), .second, .val (.int (1 : Int32)), .val (.int (own_lc x1))] [(.int (1 : Int32)), (.int (own_lc x1))])
    refine own_go (fun _ k => XS.icmpNo X2.here hx rfl (hb hby at_31) rfl (teq (own_lc_small _ hc)).2 k) ?_
    show own_Go _ _ _ _ T2 (mkF m 34 #[.val (.long q1), .second, .val (.int p2), .val (.long x1), .second, .val (.int (1 : Int32)), .val (.int (own_lc x1))] [])
    refine own_go (fun _ k => XS.iconst X2.here hx rfl (hb hby at_34) k) ?_
    show own_Go _ _ _ _ T2 (mkF m 35 #[.val (.long q1), .second, .val (.int p2), .val (.long x1), .second, .val (.int (1 : Int32)), .val (.int (own_lc x1))] [(.int (1 : Int32))])
    refine own_go (fun _ k => XS.goto X2.here hx rfl (pc0 := 35) (pc' := 39) rfl (hb hby at_35) (by decide) (by decide) k) ?_
    show own_Go _ _ _ _ T2 (mkF m 39 #[.val (.long q1), .second, .val (.int p2), .val (.long x1), .second, .val (.int (1 : Int32)), .val (.int (own_lc x1))] [(.int (1 : Int32))])
    exact own_retN X2 hx hret (by simp) hlk (hb hby at_39) (by decide) (by decide) (by first | exact ⟨rfl, N2⟩ | (rw [e2]; exact ⟨rfl, N2⟩))
  · skip
    refine own_go (fun _ k => XS.ifYes X1.here hx rfl (pc0 := 11) (pc' := 18) rfl (hb hby at_11) rfl ((if0 _ _).trans (feq (fun q => hc ((lw_eq _ _).mp q))).2) (by decide) (by decide) k) ?_
    show own_Go _ _ _ _ T1 (mkF m 18 #[.val (.long q1), .second, .val (.int p2), .val (.long x1), .second, .unset, .unset] [])
    refine own_go (fun _ k => XS.iconst X1.here hx rfl (hb hby at_18) k) ?_
    show own_Go _ _ _ _ T1 (mkF m 19 #[.val (.long q1), .second, .val (.int p2), .val (.long x1), .second, .unset, .unset] [(.int (3 : Int32))])
    refine own_go (fun _ k => XS.istore X1.here hx rfl (hb hby at_19) rfl (l' := #[.val (.long q1), .second, .val (.int p2), .val (.long x1), .second, .val (.int (3 : Int32)), .unset]) rfl k) ?_
    show own_Go _ _ _ _ T1 (mkF m 21 #[.val (.long q1), .second, .val (.int p2), .val (.long x1), .second, .val (.int (3 : Int32)), .unset] [])
    refine own_go (fun _ k => XS.lloadN X1.here hx rfl (hb hby at_21) rfl k) ?_
    show own_Go _ _ _ _ T1 (mkF m 22 #[.val (.long q1), .second, .val (.int p2), .val (.long x1), .second, .val (.int (3 : Int32)), .unset] [(.long x1)])
    obtain ⟨v3, T3, h3, L3, X3, e3, hQ3, st3⟩ := own_callS X1 hx hZ hown (hw _ (List.mem_of_getElem? (i := 4) rfl)) (hw _ (List.mem_of_getElem? (i := 5) rfl)) (hw _ (List.mem_of_getElem? (i := 6) rfl)) (hw _ (List.mem_of_getElem? (i := 7) rfl)) (by decide) e1 (argsL := [(.long x1)]) (rest := []) (rm2 l Z a0 hw [] x1 h0 n0 Z0) 0 (by decide) (by decide) (by decide) (by decide) (g := (mkF m 22 #[.val (.long q1), .second, .val (.int p2), .val (.long x1), .second, .val (.int (3 : Int32)), .unset] [(.long x1)])) rfl (by rw [hml]; rfl) (lenOf pd1 rfl) rfl (Nat.le_of_eq rfl) (hb hby at_22)
    obtain ⟨rfl, N3q, rfl⟩ := hQ3
    refine own_go (st3) ?_
    have N3 := Fr.app N1 N3q
    show own_Go _ _ _ _ T3 (mkF m 25 #[.val (.long q1), .second, .val (.int p2), .val (.long x1), .second, .val (.int (3 : Int32)), .unset] [(.int (own_lc x1))])
    refine own_go (fun _ k => XS.istore X3.here hx rfl (hb hby at_25) rfl (l' := #[.val (.long q1), .second, .val (.int p2), .val (.long x1), .second, .val (.int (3 : Int32)), .val (.int (own_lc x1))]) rfl k) ?_
    show own_Go _ _ _ _ T3 (mkF m 27 #[.val (.long q1), .second, .val (.int p2), .val (.long x1), .second, .val (.int (3 : Int32)), .val (.int (own_lc x1))] [])
    refine own_go (fun _ k => XS.iload X3.here hx rfl (hb hby at_27) rfl k) ?_
    show own_Go _ _ _ _ T3 (mkF m 29 #[.val (.long q1), .second, .val (.int p2), .val (.long x1), .second, .val (.int (3 : Int32)), .val (.int (own_lc x1))] [(.int (own_lc x1))])
    refine own_go (fun _ k => XS.iload X3.here hx rfl (hb hby at_29) rfl k) ?_
    show own_Go _ _ _ _ T3 (mkF m 31 #[.val (.long q1), .second, .val (.int p2), .val (.long x1), .second, .val (.int (3 : Int32)), .val (.int (own_lc x1))] [(.int (3 : Int32)), (.int (own_lc x1))])
    refine own_go (fun _ k => XS.icmpNo X3.here hx rfl (hb hby at_31) rfl (teq (own_lc_great _ hc)).2 k) ?_
    show own_Go _ _ _ _ T3 (mkF m 34 #[.val (.long q1), .second, .val (.int p2), .val (.long x1), .second, .val (.int (3 : Int32)), .val (.int (own_lc x1))] [])
    refine own_go (fun _ k => XS.iconst X3.here hx rfl (hb hby at_34) k) ?_
    show own_Go _ _ _ _ T3 (mkF m 35 #[.val (.long q1), .second, .val (.int p2), .val (.long x1), .second, .val (.int (3 : Int32)), .val (.int (own_lc x1))] [(.int (1 : Int32))])
    refine own_go (fun _ k => XS.goto X3.here hx rfl (pc0 := 35) (pc' := 39) rfl (hb hby at_35) (by decide) (by decide) k) ?_
    show own_Go _ _ _ _ T3 (mkF m 39 #[.val (.long q1), .second, .val (.int p2), .val (.long x1), .second, .val (.int (3 : Int32)), .val (.int (own_lc x1))] [(.int (1 : Int32))])
    exact own_retN X3 hx hret (by simp) hlk (hb hby at_39) (by decide) (by decide) (by first | exact ⟨rfl, N3⟩ | (rw [e3]; exact ⟨rfl, N3⟩))
set_option maxRecDepth 65536 in
set_option maxHeartbeats 40000000 in
theorem comes_1 {Post : Tables → Env → Array Value → State → Outcome → State → Prop} (hpost : ∀ tb e args s v u, (limb_1_1.after args s (.returned v) u = true ∧ limb_1_2.after args s (.returned v) u = true ∧ True) → FrameEnd s (.returned v) u (Jvm.fieldLocs frame_1_writes args s ++ Jvm.arrayLocs frame_1_arrays args s ++ Jvm.staticLocs frame_1_statics s) 0 0 → Post tb e args s (.returned v) u) :
    ArmFor flags0 classFile x code maxLocals ret World_1 tables_1 room_1 Calls_1 rest_1 Pre_1 Post := by
  intro l hfl _ _ p e ha hc hk s m args below hf hA hF happ hP
  obtain ⟨hcalls, hrest, hpre⟩ := hP
  obtain ⟨-, -, -, hnamed, -, -, -, hat⟩ := (Spec.applies_iff hf).mp happ
  obtain ⟨hg, hn⟩ := and_e (Cond.before_iff.mp (show (Jvm.Cond.and given_1 narrow_1).before args s = true from hpre))
  obtain ⟨gc, hg⟩ := and_e hg
  obtain ⟨gv0, hg⟩ := and_e hg
  have gv1 := hg
  obtain ⟨w0, w1, rfl⟩ : ∃ w0 w1 : Value, args = #[w0, w1] := by
    have hs : args.size = 2 := by simpa [Cond.value, given_1] using gc
    obtain ⟨L⟩ := args
    match L, hs with
    | [w0, w1], _ => exact ⟨w0, w1, rfl⟩
  have hw := fun d (hd : d ∈ tables_1) => atoms_spec (ws := Jvm.Cond.code x code maxLocals ret :: tables_1) hat d (List.mem_cons_of_mem _ hd)
  obtain ⟨i0, ei0⟩ := isL_v gv0
  obtain rfl : w0 = (.long i0) := Option.some.inj ei0
  obtain ⟨i1, ei1⟩ := is_v gv1
  obtain rfl : w1 = (.int i1) := Option.some.inj ei1
  obtain ⟨n, o, h1, h2, h3, _, L, rfl, ⟨rfl, N⟩, hq⟩ := rm0 l s _ hw tables_1 i0 i1 s.heap s.heap.size (Nat.le_refl _) p e ha hc hk s m _ below hf ((Spec.applies_iff_loose hf).mp happ).1 ⟨rfl, State.Warmed39.refl s, rfl⟩ trivial
  refine ⟨n, _, h1, h2, h3, hpost _ _ _ _ _ _ ⟨Cond.after_iff.mpr rfl, Cond.after_iff.mpr (eq_i res_at (Term.int_eval (1)) rfl), trivial⟩ ⟨hq.1, hq.2.1, (hq.2.2.sift fun y hy => Or.inr (N y hy)).mono (by decide) (by decide)⟩⟩
theorem main_1_1 : Claimed_1_1 := comes_1 fun _ _ _ _ _ _ h hF => ⟨h.1, hF⟩
theorem main_1_2 : Claimed_1_2 := comes_1 fun _ _ _ _ _ _ h hF => ⟨h.2.1, hF⟩
end Jvm.Pilot.@@N@@
namespace Jvm.Pilot.@@N@@
open Jvm Jvm.ClassFile Sem Op Lib Jvm.Free Jvm.Stand Jvm.Pilot.@@N@@.Jvm.D
/-! MADE BY PROGRAM (witnessworld.py) out of the Statement's table words and the real class files: 9 classes; the members and pool entries that the words name. The judged class is class 1, her method 2. -/
namespace start1
open Jvm.ClassFile
def u (s : String) : CpInfo := .utf8 (stringToUtf16 s)
/-- a pool by its gaps: so many unusable entries, then the entry; so many at the end -/
def gap : Nat → List CpInfo → List CpInfo
  | 0, r => r
  | n + 1, r => .unusable :: gap n r
def poolList (es : List (Nat × CpInfo)) (last : Nat) : List CpInfo := es.foldr (fun e r => gap e.1 (e.2 :: r)) (gap last [])
def pool (es : List (Nat × CpInfo)) (last : Nat) : Array CpInfo := ⟨poolList es last⟩
def fileOf (pool : Array CpInfo) (this : Nat) (attrs : Array Attribute := #[]) (ms : Array MethodInfo := #[]) (fl : Nat := 33) (sup : Nat := 0) (ifs : Array Nat := #[]) (fds : Array FieldInfo := #[]) : ClassFile where
  minorVersion := 0
  majorVersion := 65
  constantPool := pool
  accessFlags := fl
  thisClass := this
  superClass := sup
  interfaces := ifs
  fields := fds
  methods := ms
  attributes := attrs
def plain (name : String) (sup : Option ClassId) : Class where
  name := name
  kind := .ordinary
  loader := none
  accessFlags := 33
  super := sup
  interfaces := #[]
  cf := none
  fields := #[]
  methods := #[]
  instanceTypes := #[]
  staticTypes := #[]
  resolved := #[]
  callSites := []
  init := .initialized
  statics := none
  mirror := none

def pool0 : Array CpInfo := pool [(5, u "<init>"), (0, u "()V"), (1, .class_ 10), (1, u "java/lang/Object")] 113

def k0m0 : Method := { name := "<init>", desc := "()V", sig := { parameters := [], returnType := none }, accessFlags := 1, code := none }
/-- java/lang/Object -/
def k0 : Class := { plain "java/lang/Object" none with
  accessFlags := 33
  interfaces := #[]
  cf := some (fileOf pool0 8 #[] #[{ accessFlags := 1, nameIndex := 5, descriptorIndex := 6, attributes := #[] }] 33 0 #[] #[])
  fields := #[]
  methods := #[k0m0]
  instanceTypes := #[]
  staticTypes := #[]
  resolved := Array.replicate 124 none
  statics := none }

def pool1 : Array CpInfo := pool [(2, .class_ 4), (1, u "java/lang/Object"), (0, u "<init>"), (0, u "()V"), (0, .long 18446744073709551615), (1, .long 2), (3, .long 9223372036854775808), (1, .long 9223372036854775807), (1, .methodref 18 19), (0, .class_ 20), (0, .nameAndType 21 22), (0, u "isthmus/generator/BytecodeLongConstantPinLaw"), (0, u "pick"), (0, u "(JI)J"), (0, .methodref 24 25), (0, .class_ 26), (0, .nameAndType 27 28), (0, u "isthmus/generator/Bytecode"), (0, u "longConstant"), (0, u "(J)I"), (3, u "law"), (0, u "(JI)Z")] 2

def k1m0 : Method := { name := "<init>", desc := "()V", sig := { parameters := [], returnType := none }, accessFlags := 2, code := none }
def k1c1 : Code := { maxStack := 2, maxLocals := 4, code := method_2_code, exceptionTable := #[], attributes := #[] }
def k1m1 : Method := { name := "pick", desc := "(JI)J", sig := { parameters := [.long, .int], returnType := some .long }, accessFlags := 10, code := some k1c1 }
def k1c2 : Code := { maxStack := 4, maxLocals := 7, code := code, exceptionTable := #[], attributes := #[] }
def k1m2 : Method := { name := "law", desc := "(JI)Z", sig := { parameters := [.long, .int], returnType := some .boolean }, accessFlags := 9, code := some k1c2 }
/-- isthmus/generator/BytecodeLongConstantPinLaw -/
def k1 : Class := { plain "isthmus/generator/BytecodeLongConstantPinLaw" (some 0) with
  accessFlags := 49
  interfaces := #[]
  cf := some (fileOf pool1 18 #[] #[{ accessFlags := 2, nameIndex := 5, descriptorIndex := 6, attributes := #[] }, { accessFlags := 10, nameIndex := 21, descriptorIndex := 22, attributes := #[] }, { accessFlags := 9, nameIndex := 32, descriptorIndex := 33, attributes := #[] }] 49 2 #[] #[])
  fields := #[]
  methods := #[k1m0, k1m1, k1m2]
  instanceTypes := #[]
  staticTypes := #[]
  resolved := Array.replicate 36 none
  statics := none }

def pool2 : Array CpInfo := pool [(2, .class_ 4), (1, u "java/lang/Object"), (0, u "<init>"), (0, u "()V"), (3, .class_ 12), (1, u "isthmus/generator/Bytecode"), (2, u "FIELD"), (0, u "I"), (2, u "CALL"), (0, u "STRING"), (0, u "RETURN"), (1, u "NEW_ARRAY"), (0, u "ELEMENT_STORE"), (4, u "longConstant"), (0, u "(J)I")] 3

def k2m0 : Method := { name := "<init>", desc := "()V", sig := { parameters := [], returnType := none }, accessFlags := 2, code := none }
def k2c1 : Code := { maxStack := 4, maxLocals := 2, code := prog_60_method_3_code, exceptionTable := #[], attributes := #[] }
def k2m1 : Method := { name := "longConstant", desc := "(J)I", sig := { parameters := [.long], returnType := some .int }, accessFlags := 8, code := some k2c1 }
/-- isthmus/generator/Bytecode -/
def k2 : Class := { plain "isthmus/generator/Bytecode" (some 0) with
  accessFlags := 48
  interfaces := #[]
  cf := some (fileOf pool2 10 #[] #[{ accessFlags := 2, nameIndex := 5, descriptorIndex := 6, attributes := #[] }, { accessFlags := 8, nameIndex := 29, descriptorIndex := 30, attributes := #[] }] 48 2 #[] #[{ accessFlags := 24, nameIndex := 15, descriptorIndex := 16, attributes := #[] }, { accessFlags := 24, nameIndex := 19, descriptorIndex := 16, attributes := #[] }, { accessFlags := 24, nameIndex := 20, descriptorIndex := 16, attributes := #[] }, { accessFlags := 24, nameIndex := 21, descriptorIndex := 16, attributes := #[] }, { accessFlags := 26, nameIndex := 23, descriptorIndex := 16, attributes := #[] }, { accessFlags := 26, nameIndex := 24, descriptorIndex := 16, attributes := #[] }])
  fields := #[{ name := "FIELD", type := .int, accessFlags := 24, slot := 0, constantValue := 0 }, { name := "CALL", type := .int, accessFlags := 24, slot := 1, constantValue := 0 }, { name := "STRING", type := .int, accessFlags := 24, slot := 2, constantValue := 0 }, { name := "RETURN", type := .int, accessFlags := 24, slot := 3, constantValue := 0 }, { name := "NEW_ARRAY", type := .int, accessFlags := 26, slot := 4, constantValue := 0 }, { name := "ELEMENT_STORE", type := .int, accessFlags := 26, slot := 5, constantValue := 0 }]
  methods := #[k2m0, k2m1]
  instanceTypes := #[]
  staticTypes := #[.int, .int, .int, .int, .int, .int]
  resolved := Array.replicate 34 none
  statics := none }

def pool3 : Array CpInfo := pool [(1, u "java/lang/Cloneable"), (0, .class_ 1), (0, u "java/lang/Object"), (0, .class_ 3)] 3

/-- java/lang/Cloneable -/
def k3 : Class := { plain "java/lang/Cloneable" (some 0) with
  accessFlags := 1537
  interfaces := #[]
  cf := some (fileOf pool3 2 #[] #[] 1537 4 #[] #[])
  fields := #[]
  methods := #[]
  instanceTypes := #[]
  staticTypes := #[]
  resolved := Array.replicate 8 none
  statics := none }

def pool4 : Array CpInfo := pool [(1, u "java/io/Serializable"), (0, .class_ 1), (0, u "java/lang/Object"), (0, .class_ 3)] 3

/-- java/io/Serializable -/
def k4 : Class := { plain "java/io/Serializable" (some 0) with
  accessFlags := 1537
  interfaces := #[]
  cf := some (fileOf pool4 2 #[] #[] 1537 4 #[] #[])
  fields := #[]
  methods := #[]
  instanceTypes := #[]
  staticTypes := #[]
  resolved := Array.replicate 8 none
  statics := none }

/-- the primitive byte -/
def k5 : Class := { plain "byte" none with kind := .primitive 'B', accessFlags := 0x411 }
/-- [B -/
def k6 : Class := { plain "[B" (some 0) with kind := .array 5 .byte, interfaces := #[3, 4], accessFlags := 1041 }

/-- the primitive int -/
def k7 : Class := { plain "int" none with kind := .primitive 'I', accessFlags := 0x411 }
/-- [I -/
def k8 : Class := { plain "[I" (some 0) with kind := .array 7 .int, interfaces := #[3, 4], accessFlags := 1041 }

def heap : Heap := #[]
def classes : Array Class := #[k0, k1, k2, k3, k4, k5, k6, k7, k8]
def interned : List (Array UInt16 × Addr) := []
def slotsUsed : Nat := 0
def theMethod : MethodId := ⟨1, 2⟩
def args0 : Array Value := #[.long 9, .int 3]
def aboutOver (below : List Frame) : State where
  vm := { classes := classes, interned := interned.toArray }
  heap := heap
  slotsUsed := slotsUsed
  threads := #[{ frames := .invoking theMethod args0 :: below }]
def below0 : List Frame := [.native { method := ⟨0, 0⟩, args := #[] }]
def about1 : State := aboutOver below0
def p0 : Program := .bare "" "" ""
def e0 : Env := launch0.env 0 0 0
theorem w_frames : about1.frames = Frame.invoking theMethod args0 :: below0 := rfl
set_option maxRecDepth 65536 in
theorem w_args : argsFit about1.vm theMethod args0 = true := by decide +kernel
set_option maxRecDepth 65536 in
theorem w_heap : heapFits about1 = true := by decide +kernel
set_option maxRecDepth 65536 in
theorem w_runnable : about1.curStatus? = some .runnable := by decide +kernel
set_option maxRecDepth 65536 in
theorem w_alone : about1.alone = true := by decide +kernel
set_option maxRecDepth 65536 in
theorem w_named : about1.methodNamed? x = some theMethod := by decide +kernel
set_option maxRecDepth 65536 in
theorem w_hears : about1.hears theMethod below0 = true := by decide +kernel
set_option maxRecDepth 65536 in
theorem w_ripe : about1.ripe theMethod args0 below0 = true := by decide +kernel
theorem w_running : about1.status = .running := rfl
set_option maxRecDepth 65536 in
theorem w_room : about1.hasRoom e0.platform room_1 = true :=
  launch0.hasRoom_least _ room_1 (by decide +kernel) (by decide +kernel) (by decide +kernel) (by decide +kernel) (by decide +kernel) (by decide +kernel)
theorem allAtoms_all (ts : List Jvm.Cond) (a : Array Jvm.Value) (st : Jvm.State) : (allAtoms ts).before a st = ts.all (fun c => c.before a st) := by
  induction ts with
  | nil => rfl
  | cons c t ih =>
    show (Jvm.Cond.and c (allAtoms t)).before a st = _
    rw [Jvm.Cond.before_and, ih, List.all_cons]
def words1 : List Jvm.Cond := Jvm.Cond.code x code maxLocals ret :: tables_1
/-- a 'code' word, met by the world's own term for the bytes: nothing is compared byte by byte -/
theorem code_word {y : MethodName} {bytes : ByteArray} {mx : Nat} {rt : Option FieldType} {a : Array Value} {s : State} {m : MethodId} {meth : Method} {c : Code} (h1 : s.methodNamed? y = some m) (h2 : s.vm.method? m = some meth) (h3 : meth.code = some c) (h4 : c.code = bytes)
    (h5 : (c.maxLocals == mx && c.exceptionTable.isEmpty && decide (c.maxStack ≤ mostOperands) && decide (meth.sig.returnType = rt) && !meth.locks && decide (parseMethodDescriptor y.desc = some meth.sig)) = true) : (Jvm.Cond.code y bytes mx rt).before a s = true := by
  simp only [Bool.and_eq_true, beq_iff_eq, Bool.not_eq_true', decide_eq_true_eq] at h5
  obtain ⟨⟨⟨⟨⟨g1, g2⟩, g3⟩, g4⟩, g5⟩, g6⟩ := h5
  simp [Cond.before, Cond.holds, Cond.value, h1, h2, h3, h4, g1, g2, g3, g4, g5, g6]
def isCode : Jvm.Cond → Bool
  | .code _ _ _ _ => true
  | _ => false
theorem all_split {L : List Jvm.Cond} {P : Jvm.Cond → Bool} (h1 : L.all (fun c => isCode c || P c) = true) (h2 : ∀ c ∈ L.filter isCode, P c = true) : L.all P = true := by
  refine List.all_eq_true.mpr fun c hc => ?_
  have h := List.all_eq_true.mp h1 c hc
  rcases Bool.eq_false_or_eq_true (isCode c) with hi | hi
  · exact h2 c (List.mem_filter.mpr ⟨hc, hi⟩)
  · simpa [hi] using h
set_option maxRecDepth 65536 in
theorem w_c0 : (Jvm.Cond.code x code maxLocals ret).before args0 about1 = true := code_word (m := ⟨1, 2⟩) (meth := k1m2) (c := k1c2) (by decide +kernel) rfl rfl rfl (by decide +kernel)
set_option maxRecDepth 65536 in
theorem w_c1 : (Jvm.Cond.code ({ cls := "isthmus/generator/BytecodeLongConstantPinLaw", name := "pick", desc := "(JI)J" } : Jvm.MethodName) method_2_code (4 : Nat) (Option.some Jvm.ClassFile.FieldType.long)).before args0 about1 = true := code_word (m := ⟨1, 1⟩) (meth := k1m1) (c := k1c1) (by decide +kernel) rfl rfl rfl (by decide +kernel)
set_option maxRecDepth 65536 in
theorem w_c2 : (Jvm.Cond.code ({ cls := "isthmus/generator/Bytecode", name := "longConstant", desc := "(J)I" } : Jvm.MethodName) prog_60_method_3_code (2 : Nat) (Option.some Jvm.ClassFile.FieldType.int)).before args0 about1 = true := code_word (m := ⟨2, 1⟩) (meth := k2m1) (c := k2c1) (by decide +kernel) rfl rfl rfl (by decide +kernel)
def codes1 : List Jvm.Cond := [Jvm.Cond.code x code maxLocals ret, Jvm.Cond.code ({ cls := "isthmus/generator/BytecodeLongConstantPinLaw", name := "pick", desc := "(JI)J" } : Jvm.MethodName) method_2_code (4 : Nat) (Option.some Jvm.ClassFile.FieldType.long), Jvm.Cond.code ({ cls := "isthmus/generator/Bytecode", name := "longConstant", desc := "(J)I" } : Jvm.MethodName) prog_60_method_3_code (2 : Nat) (Option.some Jvm.ClassFile.FieldType.int)]
set_option maxRecDepth 65536 in
theorem codes_eq : words1.filter isCode = codes1 := rfl
theorem w_codes : ∀ c ∈ words1.filter isCode, c.before args0 about1 = true := by
  rw [codes_eq]
  intro c hc
  simp only [codes1, List.mem_cons, List.not_mem_nil, or_false] at hc
  rcases hc with rfl | rfl | rfl
  · exact w_c0
  · exact w_c1
  · exact w_c2
set_option maxRecDepth 65536 in
theorem w_t1 : words1.all (fun c => isCode c || c.before args0 about1) = true := by decide +kernel
theorem w_tables : (allAtoms (Jvm.Cond.code x code maxLocals ret :: tables_1)).before args0 about1 = true := by
  rw [allAtoms_all]
  show words1.all (fun c => c.before args0 about1) = true
  refine all_split ?_ w_codes
  rw [w_t1]
set_option maxRecDepth 65536 in
theorem w_case : (Jvm.Cond.and given_1 narrow_1).before args0 about1 = true := by decide +kernel
theorem w_applies : (headSpec (Jvm.Cond.code x code maxLocals ret :: tables_1) room_1).applies x e0.platform about1 = true :=
  (Spec.applies_iff w_frames).mpr ⟨w_running, w_runnable, w_alone, w_named, w_hears, w_ripe, w_room, w_tables⟩
theorem atStart : AtStart classFile x code maxLocals ret World_1 tables_1 room_1 Calls_1 rest_1 Pre_1 launch0 p0 e0 about1 theMethod args0 below0 :=
  ⟨lists_1, trivial, launch0.admits_env _ _ _, launch0.least_env, fairChoices_fair.cas, fairChoices_fair.clock, w_frames, w_args, w_heap, w_applies, trivial, trivial, w_case⟩
end start1
theorem witness_1 : WitnessClaimed_1 := ⟨start1.p0, start1.e0, start1.about1, start1.theMethod, start1.args0, start1.below0, start1.atStart⟩
end Jvm.Pilot.@@N@@
