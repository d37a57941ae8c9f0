import JvmDerived
import JvmDerived.Pilot.@@N@@Statement
import JvmDerived.Pilot.@@N@@Code
set_option linter.unusedVariables false
set_option linter.unusedSimpArgs false
namespace Jvm.RoadKit
open Sem ClassFile Op Lib Jvm.Stand Jvm.Free Jvm.LawKit
section OwnKit
variable {p : Program} {l : Launch} {e : Env} {R : Room} {s : State} {m : MethodId} {args : Array Value} {below : List Frame} {meth : Method} {c : Code} {T : State} {locs : List Loc} {cells slots : Nat}
theorem retI (X : Stand p l e R s m args below meth c T locs cells slots) (hx : p.tables.exec = Jvm.exec) {pc : Nat} {Ls : Array Slot} {z : Int32} {rest : List Value} (hret : meth.sig.returnType = some .int) (hd : decode c.code pc = .ok (.ireturn, 1)) {fs : List Frame}
    (hl : ∀ (f : JFrame) (acts : List Action), f.method = m → f.locked = none → f.entered = [] → (doReturn e (T.setTop f) acts (some (.int z))).1 = T.setFrames fs) : Steps p.tables e below (T.setTop (mkF m pc Ls (.int z :: rest))) (T.setFrames fs) := by
  have hm' : T.vm.method? m = some meth := X.method'
  have hn : narrow .int (.int z) = .int z := rfl
  show Steps p.tables e below (T.setTop { method := m, pc := pc, locals := Ls, stack := _ :: rest, locked := none }) _
  jvm_step X.here [X.here.top, hx, hd, hm', hret, hn]
  first | (intro acts; rw [hl _ acts rfl rfl rfl]) | rw [hl _ _ rfl rfl rfl]
  exact Steps.refl _
/-- from this state and frame the run comes to an end that P says -/
def own_Go (tb : Tables) (e : Env) (below : List Frame) (P : State → Outcome → Prop) (T : State) (g : JFrame) : Prop := ∃ s₂ o, Steps tb e below (T.setTop g) s₂ ∧ P s₂ o
theorem own_go {tb : Tables} {P : State → Outcome → Prop} {T' : State} {g g' : JFrame} (st : ∀ t, Steps tb e below (T'.setTop g') t → Steps tb e below (T.setTop g) t) (k : own_Go tb e below P T' g') : own_Go tb e below P T g := by
  obtain ⟨s, o, h, q⟩ := k
  exact ⟨s, o, st s h, q⟩
/-- how a body ends: what it returned, its heap and the places that it wrote stand in Q -/
def own_P (below : List Frame) (s : State) (Q : Option Value → Heap → List Loc → Prop) (k n : Nat) (s₂ : State) (o : Outcome) : Prop := s₂.status = .running ∧ Ended s₂ below o ∧ ∃ v L, o = .returned v ∧ Q v s₂.heap L ∧ FrameEnd s o s₂ L k n
theorem own_leave (X : Stand p l e R s m args below meth c T locs cells slots) {Q : Option Value → Heap → List Loc → Prop} {k n : Nat} {v : Option Value} {g : JFrame} (hlk : meth.locks = false) (hv : meth.sig.returnType = none → v = none) (hq : Q v T.heap locs) (hk : cells ≤ k) (hn : slots ≤ n)
    (hst : ∀ fs, (∀ (f : JFrame) (acts : List Action), f.method = m → f.locked = none → f.entered = [] → (doReturn e (T.setTop f) acts v).1 = T.setFrames fs) → Steps p.tables e below (T.setTop g) (T.setFrames fs)) : own_Go p.tables e below (own_P below s Q k n) T g := by
  obtain ⟨fs, hr, hrun, hended, hW, hsame⟩ := X.leave (v := v) hv hlk
  exact ⟨_, _, hst fs hr, hrun, hended, _, _, rfl, hq, ⟨_, rfl⟩, hW, hsame.mono hk hn⟩
section Rets
variable {Q : Option Value → Heap → List Loc → Prop} {k n : Nat} {pc : Nat} {Ls : Array Slot} {rest : List Value}
theorem own_retI (X : Stand p l e R s m args below meth c T locs cells slots) (hx : p.tables.exec = Jvm.exec) {z : Int32} (hret : meth.sig.returnType = some .int) (hlk : meth.locks = false) (hd : decode c.code pc = .ok (.ireturn, 1)) (hk : cells ≤ k) (hn : slots ≤ n) (hq : Q (some (.int z)) T.heap locs) : own_Go p.tables e below (own_P below s Q k n) T (mkF m pc Ls (.int z :: rest)) :=
  own_leave X hlk (fun h => by rw [hret] at h; cases h) hq hk hn (fun fs hr => retI X hx hret hd hr)
theorem own_retN (X : Stand p l e R s m args below meth c T locs cells slots) (hx : p.tables.exec = Jvm.exec) {z : Int32} {t : FieldType} (hret : meth.sig.returnType = some t) (ht : t = .boolean ∨ t = .byte ∨ t = .char ∨ t = .short) (hlk : meth.locks = false) (hd : decode c.code pc = .ok (.ireturn, 1)) (hk : cells ≤ k) (hn : slots ≤ n) (hq : Q (some (.int (nar t z))) T.heap locs) : own_Go p.tables e below (own_P below s Q k n) T (mkF m pc Ls (.int z :: rest)) :=
  own_leave X hlk (fun h => by rw [hret] at h; cases h) hq hk hn (fun fs hr => retN X hx hret ht hd hr)
theorem own_retJ (X : Stand p l e R s m args below meth c T locs cells slots) (hx : p.tables.exec = Jvm.exec) {z : Int64} (hret : meth.sig.returnType = some .long) (hlk : meth.locks = false) (hd : decode c.code pc = .ok (.lreturn, 1)) (hk : cells ≤ k) (hn : slots ≤ n) (hq : Q (some (.long z)) T.heap locs) : own_Go p.tables e below (own_P below s Q k n) T (mkF m pc Ls (.long z :: rest)) :=
  own_leave X hlk (fun h => by rw [hret] at h; cases h) hq hk hn (fun fs hr => retOut X hx hret rfl (Or.inr (Or.inl ⟨rfl, rfl, z, rfl⟩)) hd hr)
theorem own_narR {t : FieldType} {v : Value} (ht : t.isReference = true) : narrow t v = v := by
  cases t <;> simp [FieldType.isReference] at ht <;> rfl
theorem own_retR (X : Stand p l e R s m args below meth c T locs cells slots) (hx : p.tables.exec = Jvm.exec) {z : Value} {t : FieldType} (hret : meth.sig.returnType = some t) (ht : t.isReference = true) (hz : z.isRef = true) (hlk : meth.locks = false) (hd : decode c.code pc = .ok (.areturn, 1)) (hk : cells ≤ k) (hn : slots ≤ n) (hq : Q (some z) T.heap locs) : own_Go p.tables e below (own_P below s Q k n) T (mkF m pc Ls (z :: rest)) :=
  own_leave X hlk (fun h => by rw [hret] at h; cases h) hq hk hn (fun fs hr => retOut X hx hret (own_narR ht) (Or.inr (Or.inr (Or.inr (Or.inr ⟨rfl, ht, hz⟩)))) hd hr)
theorem own_retV (X : Stand p l e R s m args below meth c T locs cells slots) (hx : p.tables.exec = Jvm.exec) (hret : meth.sig.returnType = none) (hlk : meth.locks = false) (hd : decode c.code pc = .ok (.return_, 1)) (hk : cells ≤ k) (hn : slots ≤ n) (hq : Q none T.heap locs) : own_Go p.tables e below (own_P below s Q k n) T (mkF m pc Ls []) :=
  own_leave X hlk (fun _ => rfl) hq hk hn (fun fs hr => X.returnOut hx hret hd hr)
end Rets
/-- a body's contract at one call: its arguments, the heap at the call, what it leaves -/
abbrev own_Met (l : Launch) (y : MethodName) (bytes : ByteArray) (maxL : Nat) (ret : Option FieldType) (ws : List Cond) (rm : Room) (Z : State) (as' : Array Value) (h0 : Heap) (Q : Option Value → Heap → List Loc → Prop) : Prop :=
  MetFree l y (head1 (Cond.code y bytes maxL ret :: ws) rm) (fun a U => a = as' ∧ Z.Warmed39 U.vm ∧ U.heap = h0) (fun _ _ _ _ _ => True) (fun _ U o U' => ∃ v L, o = .returned v ∧ Q v U'.heap L ∧ FrameEnd U o U' L rm.cells rm.slots)
theorem own_body {y : MethodName} {bytes : ByteArray} {maxL : Nat} {ret : Option FieldType} {ws : List Cond} {rm : Room} {Z : State} {as' : Array Value} {h0 : Heap} {Q : Option Value → Heap → List Loc → Prop} (hpl : plainFor y = true)
    (H : ∀ (p : Program) (e : Env) (s : State) (m : MethodId) (below : List Frame) (meth : Method) (c : Code) (s₁ : State), Stand p l e rm s m as' below meth c s₁ [] 0 0 → p.tables.exec = Jvm.exec → c.code = bytes → c.maxLocals = maxL → s.vm.findClass y.cls = some m.cls → meth.name = y.name → meth.sig.returnType = ret → meth.locks = false → Z.Warmed39 s.vm → s₁.heap = h0 → own_Go p.tables e below (own_P below s Q rm.cells rm.slots) s₁ (entryFrame m as' maxL)) :
    own_Met l y bytes maxL ret ws rm Z as' h0 Q := by
  refine MetFree.of_bodySF hpl hisR ?_
  intro p e s m args below meth c s₁ Bd hml hP hK
  obtain ⟨rfl, hZ, hh⟩ := hP
  exact H p e s m below meth c s₁ (Stand.of_body Bd) Bd.exec Bd.bytes hml (findClass_of_methodNamed Bd.named) (name_of_methodNamed Bd.named Bd.method).1 Bd.returns Bd.notSynchronized hZ (by rw [← hh, Bd.state]; rfl)
theorem own_cast {tb : Tables} {P : State → Outcome → Prop} {g g' : JFrame} (q : g = g') (k : own_Go tb e below P T g') : own_Go tb e below P T g := q ▸ k
section Calls
variable {Z : State} {a0 : Array Value} {h : Heap} {own : String} {index : Nat} {y : MethodName} {bytes : ByteArray} {maxL : Nat} {ret : Option FieldType} {rm : Room} {Q : Option Value → Heap → List Loc → Prop}
theorem own_callS (X : Stand p l e R s m args below meth c T locs cells slots) (hx : p.tables.exec = Jvm.exec) (hZ : Z.Warmed39 s.vm) (hown : s.vm.findClass own = some m.cls) (w1 : (Cond.methodLink own index y).before a0 Z = true) (w2 : (Cond.static y).before a0 Z = true) (w3 : (Cond.initialized y.cls).before a0 Z = true) (w4 : (Cond.code y bytes maxL ret).before a0 Z = true)
    (hy : y.cls ≠ "java/lang/invoke/MethodHandle" ∧ y.cls ≠ "java/lang/invoke/VarHandle") (eT : T.heap = h) {argsL rest : List Value} (hM : own_Met l y bytes maxL ret [] rm Z argsL.toArray h Q) (W : Nat) (hf : rm.frames + 1 ≤ R.frames) (hl : W + (maxL + 11) + rm.locals ≤ R.locals) (hc : cells + rm.cells ≤ R.cells) (hs : slots + rm.slots ≤ R.slots)
    {g : JFrame} (hg : g.method = m) (hsize : g.locals.size = c.maxLocals) (hlen : ∀ sig, parseMethodDescriptor y.desc = some sig → argsL.length = sig.parameters.length) (hstack : g.stack = argsL.reverse ++ rest) (hW : 2 * g.monitorRoom + (rest.map fun v => v.category).sum ≤ W) (hdg : decode c.code g.pc = .ok (.invokestatic index, 3)) :
    ∃ (v : Option Value) (T' : State) (h' : Heap) (L : List Loc), Stand p l e R s m args below meth c T' (locs ++ L) (cells + rm.cells) (slots + rm.slots) ∧ T'.heap = h' ∧ Q v h' L ∧ ∀ t, Steps p.tables e below (T'.setTop { g with pc := g.pc + 3, stack := v.toList ++ rest }) t → Steps p.tables e below (T.setTop g) t := by
  obtain ⟨v, _, ⟨T', L', k', n'⟩, -, X', ⟨Lc, hQ, l', y', z'⟩, st⟩ := Jvm.LawKit.callS X hx hown (mvT hZ w1) (mvT hZ w2) (mvT hZ w3) (mvT hZ w4) hy (backOf (W := W) hM hZ w4 w3 hf hl) hg hsize hlen hstack hW hdg (fun _ _ => ⟨rfl, eT, hc, hs⟩)
  dsimp only [Pt.U, Pt.locs, Pt.cells, Pt.slots] at X' l' y' z' st hQ
  subst l' y' z'
  exact ⟨v, T', _, Lc, X', rfl, hQ, st⟩
theorem own_callI (X : Stand p l e R s m args below meth c T locs cells slots) (hx : p.tables.exec = Jvm.exec) (hZ : Z.Warmed39 s.vm) (hn : y.name = "<init>") (hown : s.vm.findClass own = some m.cls) (w1 : (Cond.methodLink own index y).before a0 Z = true) (w2 : (Cond.instanceMethod y).before a0 Z = true) (w3 : (Cond.initialized y.cls).before a0 Z = true) (w4 : (Cond.code y bytes maxL none).before a0 Z = true)
    (hy : y.cls ≠ "java/lang/invoke/MethodHandle" ∧ y.cls ≠ "java/lang/invoke/VarHandle") (eT : T.heap = h) {a : Addr} {argsL rest : List Value} (hM : own_Met l y bytes maxL none [] rm Z (.ref a :: argsL).toArray h Q) (W : Nat) (hf : rm.frames + 1 ≤ R.frames) (hl : W + (maxL + 11) + rm.locals ≤ R.locals) (hc : cells + rm.cells ≤ R.cells) (hs : slots + rm.slots ≤ R.slots)
    {g : JFrame} (hg : g.method = m) (hsize : g.locals.size = c.maxLocals) (hlen : ∀ sig, parseMethodDescriptor y.desc = some sig → argsL.length = sig.parameters.length) (hstack : g.stack = argsL.reverse ++ .ref a :: rest) (hW : 2 * g.monitorRoom + (rest.map fun v => v.category).sum ≤ W) (hdg : decode c.code g.pc = .ok (.invokespecial index, 3)) :
    ∃ (v : Option Value) (T' : State) (h' : Heap) (L : List Loc), Stand p l e R s m args below meth c T' (locs ++ L) (cells + rm.cells) (slots + rm.slots) ∧ T'.heap = h' ∧ Q v h' L ∧ ∀ t, Steps p.tables e below (T'.setTop { g with pc := g.pc + 3, stack := v.toList ++ rest }) t → Steps p.tables e below (T.setTop g) t := by
  obtain ⟨v, _, ⟨T', L', k', n'⟩, -, X', ⟨Lc, hQ, l', y', z'⟩, st⟩ := X.specialBack hx hn hown (mvT hZ w1) (mvT hZ w2) (mvT hZ w4) hy (backOf (W := W) hM hZ w4 w3 hf hl) hg hsize (Steps.refl _) hlen hstack hW hdg (fun _ _ => ⟨rfl, eT, hc, hs⟩)
  dsimp only [Pt.U, Pt.locs, Pt.cells, Pt.slots] at X' l' y' z' st hQ
  subst l' y' z'
  exact ⟨v, T', _, Lc, X', rfl, hQ, fun t k => st.trans k⟩
theorem own_callV {C : String} {z : MethodName} (X : Stand p l e R s m args below meth c T locs cells slots) (hx : p.tables.exec = Jvm.exec) (hZ : Z.Warmed39 s.vm) (hown : s.vm.findClass own = some m.cls) (w1 : (Cond.methodLink own index y).before a0 Z = true) (w2 : (Cond.declares y).before a0 Z = true) (w3 : (Cond.selects C y z).before a0 Z = true) (hnf : NotFace s y) (w5 : (Cond.instanceMethod z).before a0 Z = true) (w6 : (Cond.initialized z.cls).before a0 Z = true) (w4 : (Cond.code z bytes maxL ret).before a0 Z = true)
    (hy : y.cls ≠ "java/lang/invoke/MethodHandle" ∧ y.cls ≠ "java/lang/invoke/VarHandle") (eT : T.heap = h) {a : Addr} (E : Exa Z h a C) {argsL rest : List Value} (hM : own_Met l z bytes maxL ret [] rm Z (.ref a :: argsL).toArray h Q) (W : Nat) (hf : rm.frames + 1 ≤ R.frames) (hl : W + (maxL + 11) + rm.locals ≤ R.locals) (hc : cells + rm.cells ≤ R.cells) (hs : slots + rm.slots ≤ R.slots)
    {g : JFrame} (hg : g.method = m) (hsize : g.locals.size = c.maxLocals) (hlen : ∀ sig, parseMethodDescriptor y.desc = some sig → argsL.length = sig.parameters.length) (hstack : g.stack = argsL.reverse ++ .ref a :: rest) (hW : 2 * g.monitorRoom + (rest.map fun v => v.category).sum ≤ W) (hdg : decode c.code g.pc = .ok (.invokevirtual index, 3)) :
    ∃ (v : Option Value) (T' : State) (h' : Heap) (L : List Loc), Stand p l e R s m args below meth c T' (locs ++ L) (cells + rm.cells) (slots + rm.slots) ∧ T'.heap = h' ∧ Q v h' L ∧ ∀ t, Steps p.tables e below (T'.setTop { g with pc := g.pc + 3, stack := v.toList ++ rest }) t → Steps p.tables e below (T.setTop g) t := by
  obtain ⟨cq, kq, qa, qb, qc⟩ := isOf hZ eT E
  obtain ⟨v, _, ⟨T', L', k', n'⟩, -, X', ⟨Lc, hQ, l', y', z'⟩, st⟩ := X.virtualBack hx hown (mvT hZ w1) (mvT hZ w2) hnf (mvT hZ w3) (mvT hZ w5) hy (backOf (W := W) hM hZ w4 w6 hf hl) qa qc hg hsize (Steps.refl _) hlen hstack hW hdg (fun _ _ => ⟨rfl, eT, hc, hs⟩)
  dsimp only [Pt.U, Pt.locs, Pt.cells, Pt.slots] at X' l' y' z' st hQ
  subst l' y' z'
  exact ⟨v, T', _, Lc, X', rfl, hQ, fun t k => st.trans k⟩
theorem own_callP (X : Stand p l e R s m args below meth c T locs cells slots) (hx : p.tables.exec = Jvm.exec) (hZ : Z.Warmed39 s.vm) (hown : s.vm.findClass own = some m.cls) (w1 : (Cond.methodLink own index y).before a0 Z = true) (w2 : (Cond.instanceMethod y).before a0 Z = true) (w3 : (Cond.selects y.cls y y).before a0 Z = true) (w5 : (Cond.privateMethod y).before a0 Z = true) (w6 : (Cond.initialized y.cls).before a0 Z = true) (w4 : (Cond.code y bytes maxL ret).before a0 Z = true)
    (hy : y.cls ≠ "java/lang/invoke/MethodHandle" ∧ y.cls ≠ "java/lang/invoke/VarHandle") (eT : T.heap = h) {a : Addr} {C : String} (E : Exa Z h a C) {argsL rest : List Value} (hM : own_Met l y bytes maxL ret [] rm Z (.ref a :: argsL).toArray h Q) (W : Nat) (hf : rm.frames + 1 ≤ R.frames) (hl : W + (maxL + 11) + rm.locals ≤ R.locals) (hc : cells + rm.cells ≤ R.cells) (hs : slots + rm.slots ≤ R.slots)
    {g : JFrame} (hg : g.method = m) (hsize : g.locals.size = c.maxLocals) (hlen : ∀ sig, parseMethodDescriptor y.desc = some sig → argsL.length = sig.parameters.length) (hstack : g.stack = argsL.reverse ++ .ref a :: rest) (hW : 2 * g.monitorRoom + (rest.map fun v => v.category).sum ≤ W) (hdg : decode c.code g.pc = .ok (.invokevirtual index, 3)) :
    ∃ (v : Option Value) (T' : State) (h' : Heap) (L : List Loc), Stand p l e R s m args below meth c T' (locs ++ L) (cells + rm.cells) (slots + rm.slots) ∧ T'.heap = h' ∧ Q v h' L ∧ ∀ t, Steps p.tables e below (T'.setTop { g with pc := g.pc + 3, stack := v.toList ++ rest }) t → Steps p.tables e below (T.setTop g) t := by
  obtain ⟨cq, q1, q2⟩ := E.cell
  obtain ⟨v, _, ⟨T', L', k', n'⟩, -, X', ⟨Lc, hQ, l', y', z'⟩, st⟩ := X.privateBack hx hown (mvT hZ w1) (mvT hZ w2) (mvT hZ w3) (Cond.privateMethod_at (mvP hZ w5 (args := #[]))) (mvT hZ w4) hy (backOf (W := W) hM hZ w4 w6 hf hl) hg hsize (Steps.refl _) (by rw [eT]; exact q1) q2 hlen hstack hW hdg (fun _ _ => ⟨rfl, eT, hc, hs⟩)
  dsimp only [Pt.U, Pt.locs, Pt.cells, Pt.slots] at X' l' y' z' st hQ
  subst l' y' z'
  exact ⟨v, T', _, Lc, X', rfl, hQ, fun t k => st.trans k⟩
theorem own_callF {C : String} {z : MethodName} {count : Nat} (X : Stand p l e R s m args below meth c T locs cells slots) (hx : p.tables.exec = Jvm.exec) (hZ : Z.Warmed39 s.vm) (hown : s.vm.findClass own = some m.cls) (w1 : (Cond.methodLink own index y).before a0 Z = true) (w2 : (Cond.declares y).before a0 Z = true) (w3 : (Cond.interfaceMethod y.cls y.cls y.name y.desc).before args s = true) (w5 : (Cond.selects C y z).before a0 Z = true) (w7 : (Cond.instanceMethod z).before a0 Z = true) (w8 : (Cond.publicMethod z).before a0 Z = true) (w9 : (Cond.unhidden C y.name y.desc).before a0 Z = true) (w10 : (Cond.castable C y.cls).before a0 Z = true) (w6 : (Cond.initialized z.cls).before a0 Z = true) (w4 : (Cond.code z bytes maxL ret).before a0 Z = true)
    (hy : y.cls ≠ "java/lang/invoke/MethodHandle" ∧ y.cls ≠ "java/lang/invoke/VarHandle") (eT : T.heap = h) {a : Addr} (E : Exa Z h a C) {argsL rest : List Value} (hM : own_Met l z bytes maxL ret [] rm Z (.ref a :: argsL).toArray h Q) (W : Nat) (hf : rm.frames + 1 ≤ R.frames) (hl : W + (maxL + 11) + rm.locals ≤ R.locals) (hc : cells + rm.cells ≤ R.cells) (hs : slots + rm.slots ≤ R.slots)
    {g : JFrame} (hg : g.method = m) (hsize : g.locals.size = c.maxLocals) (hlen : ∀ sig, parseMethodDescriptor y.desc = some sig → argsL.length = sig.parameters.length) (hstack : g.stack = argsL.reverse ++ .ref a :: rest) (hW : 2 * g.monitorRoom + (rest.map fun v => v.category).sum ≤ W) (hdg : decode c.code g.pc = .ok (.invokeinterface index count, 5)) :
    ∃ (v : Option Value) (T' : State) (h' : Heap) (L : List Loc), Stand p l e R s m args below meth c T' (locs ++ L) (cells + rm.cells) (slots + rm.slots) ∧ T'.heap = h' ∧ Q v h' L ∧ ∀ t, Steps p.tables e below (T'.setTop { g with pc := g.pc + 5, stack := v.toList ++ rest }) t → Steps p.tables e below (T.setTop g) t := by
  obtain ⟨cq, kq, qa, qb, qc⟩ := isOf hZ eT E
  obtain ⟨v, _, ⟨T', L', k', n'⟩, -, X', ⟨Lc, hQ, l', y', z'⟩, st⟩ := X.interfaceBack hx hown (mvT hZ w1) (mvT hZ w2) w3 (mvT hZ w5) (mvT hZ w7) (mvT hZ w8) (mvT hZ w9) (mvT hZ w10) hy (backOf (W := W) hM hZ w4 w6 hf hl) qa qb qc hg hsize (Steps.refl _) hlen hstack hW hdg (fun _ _ => ⟨rfl, eT, hc, hs⟩)
  dsimp only [Pt.U, Pt.locs, Pt.cells, Pt.slots] at X' l' y' z' st hQ
  subst l' y' z'
  exact ⟨v, T', _, Lc, X', rfl, hQ, fun t k => st.trans k⟩
end Calls
end OwnKit
end Jvm.RoadKit
namespace Jvm.Pilot.@@N@@
open Jvm Jvm.ClassFile Sem Op Lib Jvm.Free Jvm.Stand Jvm.LawKit Jvm.RoadKit Bundle Jvm.Pilot.@@N@@.Jvm.D
def own_imax (a b : Int32) : Int32 := if a < b then b else a
theorem own_ne10 {p : Int32} (h : p < (10 : Int32)) : ¬ p = (10 : Int32) := fun q => by
  rw [q] at h
  exact absurd h (by decide)
theorem own_getD : ∀ (zs : List Int32) (i : Nat), (zs.map Value.int).getD i (.int (0 : Int32)) = .int (zs.getD i (0 : Int32))
  | [], _ => rfl
  | _ :: _, 0 => rfl
  | _ :: t, i + 1 => own_getD t i
theorem own_all : ∀ (zs : List Int32), (∀ z ∈ zs, -1 ≤ z.toInt ∧ z.toInt ≤ 2) → ∀ i : Nat, -1 ≤ (zs.getD i (0 : Int32)).toInt ∧ (zs.getD i (0 : Int32)).toInt ≤ 2
  | [], _, _ => by rw [show ([] : List Int32).getD _ (0 : Int32) = (0 : Int32) from rfl, show (0 : Int32).toInt = 0 from by decide]; omega
  | a :: _, h, 0 => h a (List.mem_cons_self ..)
  | _ :: t, h, i + 1 => own_all t (fun z hz => h z (List.mem_cons_of_mem _ hz)) i
theorem own_row (k : Int32) : ¬ ((k &&& (2147483647 : Int32)) % (3 : Int32)) < 0 ∧ ((k &&& (2147483647 : Int32)) % (3 : Int32)) < (3 : Int32) := by
  have a := c_mask k (2147483647 : Int32) 31 (by decide) (by decide)
  have b := (c_irem (k &&& (2147483647 : Int32)) (3 : Int32) 3 (by decide)).1 (by omega)
  have e0 : (0 : Int32).toInt = 0 := by decide
  have e3 : (3 : Int32).toInt = 3 := by decide
  rw [Int32.lt_iff_toInt_lt, Int32.lt_iff_toInt_lt, e0, e3]
  omega
theorem own_lit {n k : Int32} (h : n.toInt = k.toInt) : n = k := Int32.toInt_inj.mp h
theorem own_three {z : Int32} (h : -1 ≤ z.toInt ∧ z.toInt ≤ 2) (h0 : ¬ z < (0 : Int32)) : z = 0 ∨ z = 1 ∨ z = 2 := by
  have e0 : (0 : Int32).toInt = 0 := by decide
  rw [Int32.lt_iff_toInt_lt, e0] at h0
  have c : z.toInt = 0 ∨ z.toInt = 1 ∨ z.toInt = 2 := by omega
  rcases c with c | c | c
  · exact Or.inl (own_lit c)
  · exact Or.inr (Or.inl (own_lit c))
  · exact Or.inr (Or.inr (own_lit c))
theorem own_minus {z : Int32} (h : -1 ≤ z.toInt ∧ z.toInt ≤ 2) (h0 : z < (0 : Int32)) : z = (-1 : Int32) := by
  have e0 : (0 : Int32).toInt = 0 := by decide
  rw [Int32.lt_iff_toInt_lt, e0] at h0
  have e1 : (-1 : Int32).toInt = -1 := by decide
  exact own_lit (by omega)

def own_part (p : Int32) : Int32 := if (p &&& (3 : Int32)) = (3 : Int32) then (-1 : Int32) else (p &&& (3 : Int32))
theorem own_part_in (x : Int32) : -1 ≤ (own_part x).toInt ∧ (own_part x).toInt ≤ 2 := by
  have a := c_mask x (3 : Int32) 2 (by decide) (by decide)
  have e3 : (3 : Int32).toInt = 3 := by decide
  have e1 : (-1 : Int32).toInt = -1 := by decide
  by_cases h : (x &&& (3 : Int32)) = (3 : Int32)
  · rw [own_part, if_pos h, e1]
    omega
  · rw [own_part, if_neg h]
    have h' : (x &&& (3 : Int32)).toInt ≠ 3 := fun q => h (own_lit (q.trans e3.symm))
    omega
theorem own_two {r : Int32} (h : ¬ r < 0 ∧ r < (3 : Int32)) (h0 : ¬ r = (0 : Int32)) (h1 : ¬ r = (1 : Int32)) : r = (2 : Int32) := by
  obtain ⟨a, b⟩ := h
  have e : (0 : Int32).toInt = 0 ∧ (1 : Int32).toInt = 1 ∧ (2 : Int32).toInt = 2 ∧ (3 : Int32).toInt = 3 := by decide
  obtain ⟨e0, e1, e2, e3⟩ := e
  rw [Int32.lt_iff_toInt_lt, e0] at a
  rw [Int32.lt_iff_toInt_lt, e3] at b
  have h0' : r.toInt ≠ 0 := fun q => h0 (own_lit (q.trans e0.symm))
  have h1' : r.toInt ≠ 1 := fun q => h1 (own_lit (q.trans e1.symm))
  exact own_lit (by omega)
theorem own_ch (x : Int32) : ¬ (255 : Int32) < ((x &&& (255 : Int32))).toUInt32.toUInt16.toUInt32.toInt32 := by
  have a := c_mask x (255 : Int32) 8 (by decide) (by decide)
  have b := c_i2c (x &&& (255 : Int32))
  have e : (255 : Int32).toInt = 255 := by decide
  rw [Int32.lt_iff_toInt_lt, e]
  omega
theorem d1_0 : decode jdk_42_method_139_code 0 = .ok (.getstatic 38, 3) := by decide +kernel
theorem d1_3 : decode jdk_42_method_139_code 3 = .ok (.ifCond .eq 23, 3) := by decide +kernel
theorem d1_6 : decode jdk_42_method_139_code 6 = .ok (.iload_n 0, 1) := by decide +kernel
theorem d1_7 : decode jdk_42_method_139_code 7 = .ok (.invokestatic 1015, 3) := by decide +kernel
theorem d1_10 : decode jdk_42_method_139_code 10 = .ok (.ifCond .eq 16, 3) := by decide +kernel
theorem d1_13 : decode jdk_42_method_139_code 13 = .ok (.new 10, 3) := by decide +kernel
theorem d1_16 : decode jdk_42_method_139_code 16 = .ok (.dup, 1) := by decide +kernel
theorem d1_17 : decode jdk_42_method_139_code 17 = .ok (.iload_n 0, 1) := by decide +kernel
theorem d1_18 : decode jdk_42_method_139_code 18 = .ok (.invokestatic 1018, 3) := by decide +kernel
theorem d1_21 : decode jdk_42_method_139_code 21 = .ok (.iconst 0, 1) := by decide +kernel
theorem d1_22 : decode jdk_42_method_139_code 22 = .ok (.invokespecial 209, 3) := by decide +kernel
theorem d1_25 : decode jdk_42_method_139_code 25 = .ok (.areturn, 1) := by decide +kernel
theorem d2_0 : decode jdk_43_method_3_code 0 = .ok (.iload_n 0, 1) := by decide +kernel
theorem d2_1 : decode jdk_43_method_3_code 1 = .ok (.sipush 255, 3) := by decide +kernel
theorem d2_4 : decode jdk_43_method_3_code 4 = .ok (.if_icmp .gt 7, 3) := by decide +kernel
theorem d2_7 : decode jdk_43_method_3_code 7 = .ok (.iconst 1, 1) := by decide +kernel
theorem d2_8 : decode jdk_43_method_3_code 8 = .ok (.goto 4, 3) := by decide +kernel
theorem d2_12 : decode jdk_43_method_3_code 12 = .ok (.ireturn, 1) := by decide +kernel
theorem d3_0 : decode jdk_43_method_46_code 0 = .ok (.iconst 1, 1) := by decide +kernel
theorem d3_1 : decode jdk_43_method_46_code 1 = .ok (.newarray .byte, 2) := by decide +kernel
theorem d3_3 : decode jdk_43_method_46_code 3 = .ok (.dup, 1) := by decide +kernel
theorem d3_4 : decode jdk_43_method_46_code 4 = .ok (.iconst 0, 1) := by decide +kernel
theorem d3_5 : decode jdk_43_method_46_code 5 = .ok (.iload_n 0, 1) := by decide +kernel
theorem d3_6 : decode jdk_43_method_46_code 6 = .ok (.i2b, 1) := by decide +kernel
theorem d3_7 : decode jdk_43_method_46_code 7 = .ok (.bastore, 1) := by decide +kernel
theorem d3_8 : decode jdk_43_method_46_code 8 = .ok (.areturn, 1) := by decide +kernel
theorem d4_0 : decode jdk_42_method_151_code 0 = .ok (.aload_n 0, 1) := by decide +kernel
theorem d4_1 : decode jdk_42_method_151_code 1 = .ok (.invokespecial 1, 3) := by decide +kernel
theorem d4_4 : decode jdk_42_method_151_code 4 = .ok (.aload_n 0, 1) := by decide +kernel
theorem d4_5 : decode jdk_42_method_151_code 5 = .ok (.aload_n 1, 1) := by decide +kernel
theorem d4_6 : decode jdk_42_method_151_code 6 = .ok (.putfield 9, 3) := by decide +kernel
theorem d4_9 : decode jdk_42_method_151_code 9 = .ok (.aload_n 0, 1) := by decide +kernel
theorem d4_10 : decode jdk_42_method_151_code 10 = .ok (.iload_n 2, 1) := by decide +kernel
theorem d4_11 : decode jdk_42_method_151_code 11 = .ok (.putfield 15, 3) := by decide +kernel
theorem d4_14 : decode jdk_42_method_151_code 14 = .ok (.return_, 1) := by decide +kernel
theorem d6_0 : decode jdk_38_method_2_code 0 = .ok (.aload_n 0, 1) := by decide +kernel
theorem d6_1 : decode jdk_38_method_2_code 1 = .ok (.invokespecial 1, 3) := by decide +kernel
theorem d6_4 : decode jdk_38_method_2_code 4 = .ok (.aload_n 0, 1) := by decide +kernel
theorem d6_5 : decode jdk_38_method_2_code 5 = .ok (.getstatic 39, 3) := by decide +kernel
theorem d6_8 : decode jdk_38_method_2_code 8 = .ok (.putfield 9, 3) := by decide +kernel
theorem d6_11 : decode jdk_38_method_2_code 11 = .ok (.return_, 1) := by decide +kernel
theorem d7_0 : decode jdk_39_method_1_code 0 = .ok (.aload_n 0, 1) := by decide +kernel
theorem d7_1 : decode jdk_39_method_1_code 1 = .ok (.invokespecial 1, 3) := by decide +kernel
theorem d7_4 : decode jdk_39_method_1_code 4 = .ok (.aload_n 0, 1) := by decide +kernel
theorem d7_5 : decode jdk_39_method_1_code 5 = .ok (.iconst 0, 1) := by decide +kernel
theorem d7_6 : decode jdk_39_method_1_code 6 = .ok (.putfield 7, 3) := by decide +kernel
theorem d7_9 : decode jdk_39_method_1_code 9 = .ok (.return_, 1) := by decide +kernel
theorem d8_0 : decode jdk_22_method_1_code 0 = .ok (.aload_n 0, 1) := by decide +kernel
theorem d8_1 : decode jdk_22_method_1_code 1 = .ok (.invokespecial 1, 3) := by decide +kernel
theorem d8_4 : decode jdk_22_method_1_code 4 = .ok (.return_, 1) := by decide +kernel
theorem d9_0 : decode jdk_38_method_25_code 0 = .ok (.aload_n 0, 1) := by decide +kernel
theorem d9_1 : decode jdk_38_method_25_code 1 = .ok (.dup, 1) := by decide +kernel
theorem d9_2 : decode jdk_38_method_25_code 2 = .ok (.getfield 63, 3) := by decide +kernel
theorem d9_5 : decode jdk_38_method_25_code 5 = .ok (.iconst 1, 1) := by decide +kernel
theorem d9_6 : decode jdk_38_method_25_code 6 = .ok (.iadd, 1) := by decide +kernel
theorem d9_7 : decode jdk_38_method_25_code 7 = .ok (.putfield 63, 3) := by decide +kernel
theorem d9_10 : decode jdk_38_method_25_code 10 = .ok (.aload_n 0, 1) := by decide +kernel
theorem d9_11 : decode jdk_38_method_25_code 11 = .ok (.aload_n 1, 1) := by decide +kernel
theorem d9_12 : decode jdk_38_method_25_code 12 = .ok (.aload_n 0, 1) := by decide +kernel
theorem d9_13 : decode jdk_38_method_25_code 13 = .ok (.getfield 9, 3) := by decide +kernel
theorem d9_16 : decode jdk_38_method_25_code 16 = .ok (.aload_n 0, 1) := by decide +kernel
theorem d9_17 : decode jdk_38_method_25_code 17 = .ok (.getfield 48, 3) := by decide +kernel
theorem d9_20 : decode jdk_38_method_25_code 20 = .ok (.invokevirtual 131, 3) := by decide +kernel
theorem d9_23 : decode jdk_38_method_25_code 23 = .ok (.iconst 1, 1) := by decide +kernel
theorem d9_24 : decode jdk_38_method_25_code 24 = .ok (.ireturn, 1) := by decide +kernel
theorem d10_0 : decode jdk_38_method_24_code 0 = .ok (.iload_n 3, 1) := by decide +kernel
theorem d10_1 : decode jdk_38_method_24_code 1 = .ok (.aload_n 2, 1) := by decide +kernel
theorem d10_2 : decode jdk_38_method_24_code 2 = .ok (.arraylength, 1) := by decide +kernel
theorem d10_3 : decode jdk_38_method_24_code 3 = .ok (.if_icmp .ne 8, 3) := by decide +kernel
theorem d10_6 : decode jdk_38_method_24_code 6 = .ok (.aload_n 0, 1) := by decide +kernel
theorem d10_7 : decode jdk_38_method_24_code 7 = .ok (.invokevirtual 129, 3) := by decide +kernel
theorem d10_10 : decode jdk_38_method_24_code 10 = .ok (.astore_n 2, 1) := by decide +kernel
theorem d10_11 : decode jdk_38_method_24_code 11 = .ok (.aload_n 2, 1) := by decide +kernel
theorem d10_12 : decode jdk_38_method_24_code 12 = .ok (.iload_n 3, 1) := by decide +kernel
theorem d10_13 : decode jdk_38_method_24_code 13 = .ok (.aload_n 1, 1) := by decide +kernel
theorem d10_14 : decode jdk_38_method_24_code 14 = .ok (.aastore, 1) := by decide +kernel
theorem d10_15 : decode jdk_38_method_24_code 15 = .ok (.aload_n 0, 1) := by decide +kernel
theorem d10_16 : decode jdk_38_method_24_code 16 = .ok (.iload_n 3, 1) := by decide +kernel
theorem d10_17 : decode jdk_38_method_24_code 17 = .ok (.iconst 1, 1) := by decide +kernel
theorem d10_18 : decode jdk_38_method_24_code 18 = .ok (.iadd, 1) := by decide +kernel
theorem d10_19 : decode jdk_38_method_24_code 19 = .ok (.putfield 48, 3) := by decide +kernel
theorem d10_22 : decode jdk_38_method_24_code 22 = .ok (.return_, 1) := by decide +kernel
theorem d11_0 : decode jdk_38_method_7_code 0 = .ok (.aload_n 0, 1) := by decide +kernel
theorem d11_1 : decode jdk_38_method_7_code 1 = .ok (.aload_n 0, 1) := by decide +kernel
theorem d11_2 : decode jdk_38_method_7_code 2 = .ok (.getfield 48, 3) := by decide +kernel
theorem d11_5 : decode jdk_38_method_7_code 5 = .ok (.iconst 1, 1) := by decide +kernel
theorem d11_6 : decode jdk_38_method_7_code 6 = .ok (.iadd, 1) := by decide +kernel
theorem d11_7 : decode jdk_38_method_7_code 7 = .ok (.invokevirtual 69, 3) := by decide +kernel
theorem d11_10 : decode jdk_38_method_7_code 10 = .ok (.areturn, 1) := by decide +kernel
theorem d12_0 : decode jdk_38_method_6_code 0 = .ok (.aload_n 0, 1) := by decide +kernel
theorem d12_1 : decode jdk_38_method_6_code 1 = .ok (.getfield 9, 3) := by decide +kernel
theorem d12_4 : decode jdk_38_method_6_code 4 = .ok (.arraylength, 1) := by decide +kernel
theorem d12_5 : decode jdk_38_method_6_code 5 = .ok (.istore_n 2, 1) := by decide +kernel
theorem d12_6 : decode jdk_38_method_6_code 6 = .ok (.iload_n 2, 1) := by decide +kernel
theorem d12_7 : decode jdk_38_method_6_code 7 = .ok (.ifCond .gt 13, 3) := by decide +kernel
theorem d12_10 : decode jdk_38_method_6_code 10 = .ok (.aload_n 0, 1) := by decide +kernel
theorem d12_11 : decode jdk_38_method_6_code 11 = .ok (.getfield 9, 3) := by decide +kernel
theorem d12_14 : decode jdk_38_method_6_code 14 = .ok (.getstatic 39, 3) := by decide +kernel
theorem d12_17 : decode jdk_38_method_6_code 17 = .ok (.if_acmp .eq 28, 3) := by decide +kernel
theorem d12_45 : decode jdk_38_method_6_code 45 = .ok (.aload_n 0, 1) := by decide +kernel
theorem d12_46 : decode jdk_38_method_6_code 46 = .ok (.bipush 10, 2) := by decide +kernel
theorem d12_48 : decode jdk_38_method_6_code 48 = .ok (.iload_n 1, 1) := by decide +kernel
theorem d12_49 : decode jdk_38_method_6_code 49 = .ok (.invokestatic 79, 3) := by decide +kernel
theorem d12_52 : decode jdk_38_method_6_code 52 = .ok (.anewarray 7, 3) := by decide +kernel
theorem d12_55 : decode jdk_38_method_6_code 55 = .ok (.dup_x1, 1) := by decide +kernel
theorem d12_56 : decode jdk_38_method_6_code 56 = .ok (.putfield 9, 3) := by decide +kernel
theorem d12_59 : decode jdk_38_method_6_code 59 = .ok (.areturn, 1) := by decide +kernel
theorem d13_0 : decode jdk_29_method_65_code 0 = .ok (.iload_n 0, 1) := by decide +kernel
theorem d13_1 : decode jdk_29_method_65_code 1 = .ok (.iload_n 1, 1) := by decide +kernel
theorem d13_2 : decode jdk_29_method_65_code 2 = .ok (.if_icmp .lt 7, 3) := by decide +kernel
theorem d13_5 : decode jdk_29_method_65_code 5 = .ok (.iload_n 0, 1) := by decide +kernel
theorem d13_6 : decode jdk_29_method_65_code 6 = .ok (.goto 4, 3) := by decide +kernel
theorem d13_9 : decode jdk_29_method_65_code 9 = .ok (.iload_n 1, 1) := by decide +kernel
theorem d13_10 : decode jdk_29_method_65_code 10 = .ok (.ireturn, 1) := by decide +kernel
theorem d14_0 : decode method_3_code 0 = .ok (.iload_n 0, 1) := by decide +kernel
theorem d14_1 : decode method_3_code 1 = .ok (.iconst 3, 1) := by decide +kernel
theorem d14_2 : decode method_3_code 2 = .ok (.iand, 1) := by decide +kernel
theorem d14_3 : decode method_3_code 3 = .ok (.istore_n 1, 1) := by decide +kernel
theorem d14_4 : decode method_3_code 4 = .ok (.iload_n 1, 1) := by decide +kernel
theorem d14_5 : decode method_3_code 5 = .ok (.iconst 3, 1) := by decide +kernel
theorem d14_6 : decode method_3_code 6 = .ok (.if_icmp .ne 7, 3) := by decide +kernel
theorem d14_9 : decode method_3_code 9 = .ok (.iconst (-1), 1) := by decide +kernel
theorem d14_10 : decode method_3_code 10 = .ok (.goto 4, 3) := by decide +kernel
theorem d14_13 : decode method_3_code 13 = .ok (.iload_n 1, 1) := by decide +kernel
theorem d14_14 : decode method_3_code 14 = .ok (.ireturn, 1) := by decide +kernel
theorem d15_0 : decode prog_8_method_1_code 0 = .ok (.aload_n 0, 1) := by decide +kernel
theorem d15_1 : decode prog_8_method_1_code 1 = .ok (.invokespecial 1, 3) := by decide +kernel
theorem d15_4 : decode prog_8_method_1_code 4 = .ok (.aload_n 0, 1) := by decide +kernel
theorem d15_5 : decode prog_8_method_1_code 5 = .ok (.aload_n 1, 1) := by decide +kernel
theorem d15_6 : decode prog_8_method_1_code 6 = .ok (.putfield 7, 3) := by decide +kernel
theorem d15_9 : decode prog_8_method_1_code 9 = .ok (.aload_n 0, 1) := by decide +kernel
theorem d15_10 : decode prog_8_method_1_code 10 = .ok (.aload_n 2, 1) := by decide +kernel
theorem d15_11 : decode prog_8_method_1_code 11 = .ok (.putfield 13, 3) := by decide +kernel
theorem d15_14 : decode prog_8_method_1_code 14 = .ok (.aload_n 0, 1) := by decide +kernel
theorem d15_15 : decode prog_8_method_1_code 15 = .ok (.aload_n 3, 1) := by decide +kernel
theorem d15_16 : decode prog_8_method_1_code 16 = .ok (.putfield 17, 3) := by decide +kernel
theorem d15_19 : decode prog_8_method_1_code 19 = .ok (.return_, 1) := by decide +kernel
theorem d16_0 : decode prog_8_method_7_code 0 = .ok (.aload_n 0, 1) := by decide +kernel
theorem d16_1 : decode prog_8_method_7_code 1 = .ok (.getfield 13, 3) := by decide +kernel
theorem d16_4 : decode prog_8_method_7_code 4 = .ok (.aload_n 0, 1) := by decide +kernel
theorem d16_5 : decode prog_8_method_7_code 5 = .ok (.getfield 7, 3) := by decide +kernel
theorem d16_8 : decode prog_8_method_7_code 8 = .ok (.iload_n 1, 1) := by decide +kernel
theorem d16_9 : decode prog_8_method_7_code 9 = .ok (.iaload, 1) := by decide +kernel
theorem d16_10 : decode prog_8_method_7_code 10 = .ok (.invokeinterface 30 2, 5) := by decide +kernel
theorem d16_15 : decode prog_8_method_7_code 15 = .ok (.checkcast 25, 3) := by decide +kernel
theorem d16_18 : decode prog_8_method_7_code 18 = .ok (.areturn, 1) := by decide +kernel
theorem d17_0 : decode jdk_38_method_20_code 0 = .ok (.iload_n 1, 1) := by decide +kernel
theorem d17_1 : decode jdk_38_method_20_code 1 = .ok (.aload_n 0, 1) := by decide +kernel
theorem d17_2 : decode jdk_38_method_20_code 2 = .ok (.getfield 48, 3) := by decide +kernel
theorem d17_5 : decode jdk_38_method_20_code 5 = .ok (.invokestatic 118, 3) := by decide +kernel
theorem d17_8 : decode jdk_38_method_20_code 8 = .ok (.pop, 1) := by decide +kernel
theorem d17_9 : decode jdk_38_method_20_code 9 = .ok (.aload_n 0, 1) := by decide +kernel
theorem d17_10 : decode jdk_38_method_20_code 10 = .ok (.iload_n 1, 1) := by decide +kernel
theorem d17_11 : decode jdk_38_method_20_code 11 = .ok (.invokevirtual 123, 3) := by decide +kernel
theorem d17_14 : decode jdk_38_method_20_code 14 = .ok (.areturn, 1) := by decide +kernel
theorem d18_0 : decode jdk_31_method_17_code 0 = .ok (.iload_n 0, 1) := by decide +kernel
theorem d18_1 : decode jdk_31_method_17_code 1 = .ok (.iload_n 1, 1) := by decide +kernel
theorem d18_2 : decode jdk_31_method_17_code 2 = .ok (.aconst_null, 1) := by decide +kernel
theorem d18_3 : decode jdk_31_method_17_code 3 = .ok (.invokestatic 105, 3) := by decide +kernel
theorem d18_6 : decode jdk_31_method_17_code 6 = .ok (.ireturn, 1) := by decide +kernel
theorem d19_0 : decode jdk_41_method_11_code 0 = .ok (.iload_n 0, 1) := by decide +kernel
theorem d19_1 : decode jdk_41_method_11_code 1 = .ok (.ifCond .lt 8, 3) := by decide +kernel
theorem d19_4 : decode jdk_41_method_11_code 4 = .ok (.iload_n 0, 1) := by decide +kernel
theorem d19_5 : decode jdk_41_method_11_code 5 = .ok (.iload_n 1, 1) := by decide +kernel
theorem d19_6 : decode jdk_41_method_11_code 6 = .ok (.if_icmp .lt 10, 3) := by decide +kernel
theorem d19_16 : decode jdk_41_method_11_code 16 = .ok (.iload_n 0, 1) := by decide +kernel
theorem d19_17 : decode jdk_41_method_11_code 17 = .ok (.ireturn, 1) := by decide +kernel
theorem d20_0 : decode jdk_38_method_18_code 0 = .ok (.aload_n 0, 1) := by decide +kernel
theorem d20_1 : decode jdk_38_method_18_code 1 = .ok (.getfield 9, 3) := by decide +kernel
theorem d20_4 : decode jdk_38_method_18_code 4 = .ok (.iload_n 1, 1) := by decide +kernel
theorem d20_5 : decode jdk_38_method_18_code 5 = .ok (.aaload, 1) := by decide +kernel
theorem d20_6 : decode jdk_38_method_18_code 6 = .ok (.areturn, 1) := by decide +kernel
theorem d21_0 : decode jdk_38_method_8_code 0 = .ok (.aload_n 0, 1) := by decide +kernel
theorem d21_1 : decode jdk_38_method_8_code 1 = .ok (.getfield 48, 3) := by decide +kernel
theorem d21_4 : decode jdk_38_method_8_code 4 = .ok (.ireturn, 1) := by decide +kernel
theorem d22_0 : decode jdk_42_method_66_code 0 = .ok (.aload_n 0, 1) := by decide +kernel
theorem d22_1 : decode jdk_42_method_66_code 1 = .ok (.aload_n 1, 1) := by decide +kernel
theorem d22_2 : decode jdk_42_method_66_code 2 = .ok (.if_acmp .ne 5, 3) := by decide +kernel
theorem d22_5 : decode jdk_42_method_66_code 5 = .ok (.iconst 1, 1) := by decide +kernel
theorem d22_6 : decode jdk_42_method_66_code 6 = .ok (.ireturn, 1) := by decide +kernel
theorem pd0 : parseMethodDescriptor "()V" = some ⟨[], none⟩ := by decide +kernel
theorem pd1 : parseMethodDescriptor "(II)I" = some ⟨[.int, .int], some .int⟩ := by decide +kernel
theorem pd2 : parseMethodDescriptor "(I)[Ljava/lang/Object;" = some ⟨[.int], some (.array (.object "java/lang/Object"))⟩ := by decide +kernel
theorem pd3 : parseMethodDescriptor "()[Ljava/lang/Object;" = some ⟨[], some (.array (.object "java/lang/Object"))⟩ := by decide +kernel
theorem pd4 : parseMethodDescriptor "(Ljava/lang/Object;[Ljava/lang/Object;I)V" = some ⟨[(.object "java/lang/Object"), (.array (.object "java/lang/Object")), .int], none⟩ := by decide +kernel
theorem pd5 : parseMethodDescriptor "(IILjava/util/function/BiFunction;)I" = some ⟨[.int, .int, (.object "java/util/function/BiFunction")], some .int⟩ := by decide +kernel
theorem pd6 : parseMethodDescriptor "(I)Ljava/lang/Object;" = some ⟨[.int], some (.object "java/lang/Object")⟩ := by decide +kernel
theorem pd7 : parseMethodDescriptor "(C)Z" = some ⟨[.char], some .boolean⟩ := by decide +kernel
theorem pd8 : parseMethodDescriptor "(C)[B" = some ⟨[.char], some (.array .byte)⟩ := by decide +kernel
theorem pd9 : parseMethodDescriptor "([BB)V" = some ⟨[(.array .byte), .byte], none⟩ := by decide +kernel
theorem pd10 : parseMethodDescriptor "(C)Ljava/lang/String;" = some ⟨[.char], some (.object "java/lang/String")⟩ := by decide +kernel
theorem pd11 : parseMethodDescriptor "(Ljava/lang/Object;)Z" = some ⟨[(.object "java/lang/Object")], some .boolean⟩ := by decide +kernel
theorem pd12 : parseMethodDescriptor "(I)I" = some ⟨[.int], some .int⟩ := by decide +kernel
theorem pd13 : parseMethodDescriptor "([ILjava/util/List;Lcom/example/record_scrubber/recordscrubber/anonymize/FullDomainNode;)V" = some ⟨[(.array .int), (.object "java/util/List"), (.object "com/example/record_scrubber/recordscrubber/anonymize/FullDomainNode")], none⟩ := by decide +kernel
theorem pd14 : parseMethodDescriptor "(I)Ljava/util/List;" = some ⟨[.int], some (.object "java/util/List")⟩ := by decide +kernel
theorem pd15 : parseMethodDescriptor "()I" = some ⟨[], some .int⟩ := by decide +kernel
set_option maxRecDepth 65536 in
set_option maxHeartbeats 40000000 in
theorem rmAC (l : Launch) (Z : State) (a0 : Array Value) (hw : ∀ d ∈ tables_1, d.before a0 Z = true) (ws : List Jvm.Cond) (a1 : Addr) (h0 : Heap) (n0 : Nat) (Z0 : n0 ≤ h0.size) :
    own_Met l (⟨"java/util/AbstractCollection", "<init>", "()V"⟩ : MethodName) jdk_22_method_1_code 1 none ws ({ frames := 1, cells := 0, slots := 0, locals := 12 } : Room) Z #[(.ref a1)] h0 (fun v h L => v = none ∧ Fr n0 L ∧ h0 = h) := by
  refine own_body (plainFor_of_name (by first | (simp [plainName, overriddenIn]; done) | decide +kernel)) ?_
  intro p e s m below meth c s₁ X0 hx hby hml hown hnm hret hlk hZ e0
  have N0 := Fr.nil n0
  refine own_cast (show entryFrame m #[(.ref a1)] 1 = mkF m 0 #[.val (.ref a1)] [] from by first | (simp [entryFrame, mkF, argsToLocals, Value.category]; done) | rfl) ?_
  show own_Go _ _ _ _ s₁ (mkF m 0 #[.val (.ref a1)] [])
  refine own_go (fun _ k => XS.aloadN X0.here hx rfl (hb hby d8_0) rfl rfl k) ?_
  show own_Go _ _ _ _ s₁ (mkF m 1 #[.val (.ref a1)] [(.ref a1)])
  obtain ⟨T1, X1, e1, st1⟩ := initO X0 hx hZ hown (hw _ (List.mem_of_getElem? (i := 44) rfl)) (hw _ (List.mem_of_getElem? (i := 20) rfl)) (hw _ (List.mem_of_getElem? (i := 21) rfl)) e0 (g := (mkF m 1 #[.val (.ref a1)] [(.ref a1)])) rfl (by rw [hml]; rfl) rfl (hb hby d8_1) (by decide) (W := 0) (Nat.le_of_eq rfl) (by decide)
  refine own_go (st1) ?_
  show own_Go _ _ _ _ T1 (mkF m 4 #[.val (.ref a1)] [])
  exact own_retV X1 hx hret hlk (hb hby d8_4) (by decide) (by decide) (by first | exact ⟨rfl, N0, rfl⟩ | (rw [e1]; exact ⟨rfl, N0, rfl⟩))
set_option maxRecDepth 65536 in
set_option maxHeartbeats 40000000 in
theorem rmAB (l : Launch) (Z : State) (a0 : Array Value) (hw : ∀ d ∈ tables_1, d.before a0 Z = true) (ws : List Jvm.Cond) (a1 : Addr) (h0 : Heap) (n0 : Nat) (Z0 : n0 ≤ h0.size) (O0 : Old Z n0 h0) (E_a1 : Exa Z h0 a1 "java/util/ArrayList") (Fm_a1 : Fld Z h0 a1 "java/util/AbstractList" "modCount" "I" (.int (0 : Int32))) (Fs_a1 : Fld Z h0 a1 "java/util/ArrayList" "size" "I" (.int (0 : Int32))) (Fd_a1 : Fld Z h0 a1 "java/util/ArrayList" "elementData" "[Ljava/lang/Object;" .null) (g_a1 : n0 ≤ a1) :
    own_Met l (⟨"java/util/AbstractList", "<init>", "()V"⟩ : MethodName) jdk_39_method_1_code 1 none ws ({ frames := 2, cells := 0, slots := 0, locals := 24 } : Room) Z #[(.ref a1)] h0 (fun v h L => v = none ∧ Fr n0 L ∧ Keep h0 h [a1] ∧ Exa Z h a1 "java/util/ArrayList" ∧ Fld Z h a1 "java/util/AbstractList" "modCount" "I" (.int (0 : Int32)) ∧ Fld Z h a1 "java/util/ArrayList" "size" "I" (.int (0 : Int32)) ∧ Fld Z h a1 "java/util/ArrayList" "elementData" "[Ljava/lang/Object;" .null) := by
  refine own_body (plainFor_of_name (by first | (simp [plainName, overriddenIn]; done) | decide +kernel)) ?_
  intro p e s m below meth c s₁ X0 hx hby hml hown hnm hret hlk hZ e0
  have N0 := Fr.nil n0
  refine own_cast (show entryFrame m #[(.ref a1)] 1 = mkF m 0 #[.val (.ref a1)] [] from by first | (simp [entryFrame, mkF, argsToLocals, Value.category]; done) | rfl) ?_
  show own_Go _ _ _ _ s₁ (mkF m 0 #[.val (.ref a1)] [])
  refine own_go (fun _ k => XS.aloadN X0.here hx rfl (hb hby d7_0) rfl rfl k) ?_
  show own_Go _ _ _ _ s₁ (mkF m 1 #[.val (.ref a1)] [(.ref a1)])
  obtain ⟨v2, T2, h2, L2, X2, e2, hQ2, st2⟩ := own_callI X0 hx hZ rfl hown (hw _ (List.mem_of_getElem? (i := 38) rfl)) (hw _ (List.mem_of_getElem? (i := 39) rfl)) (hw _ (List.mem_of_getElem? (i := 42) rfl)) (hw _ (List.mem_of_getElem? (i := 43) rfl)) (by decide) e0 (a := a1) (argsL := []) (rest := []) (rmAC l Z a0 hw [] a1 h0 n0 Z0) 0 (by decide) (by decide) (by decide) (by decide) (g := (mkF m 1 #[.val (.ref a1)] [(.ref a1)])) rfl (by rw [hml]; rfl) (lenOf pd0 rfl) rfl (Nat.le_of_eq rfl) (hb hby d7_1)
  obtain ⟨rfl, N2q, rfl⟩ := hQ2
  refine own_go (st2) ?_
  have N2 := Fr.app N0 N2q
  show own_Go _ _ _ _ T2 (mkF m 4 #[.val (.ref a1)] [])
  refine own_go (fun _ k => XS.aloadN X2.here hx rfl (hb hby d7_4) rfl rfl k) ?_
  show own_Go _ _ _ _ T2 (mkF m 5 #[.val (.ref a1)] [(.ref a1)])
  refine own_go (fun _ k => XS.iconst X2.here hx rfl (hb hby d7_5) k) ?_
  show own_Go _ _ _ _ T2 (mkF m 6 #[.val (.ref a1)] [(.int (0 : Int32)), (.ref a1)])
  obtain ⟨T3, h3, X3, e3, W3, st3⟩ := putF X2 hx hZ hown (host := "") (Or.inl (hw _ (List.mem_of_getElem? (i := 45) rfl))) Via.refl e2 Fm_a1 E_a1 (Or.inl (hw _ (List.mem_of_getElem? (i := 46) rfl))) (hw _ (List.mem_of_getElem? (i := 27) rfl)) (ty := .int) (by decide) rfl rfl (g := (mkF m 6 #[.val (.ref a1)] [(.int (0 : Int32)), (.ref a1)])) rfl rfl (hb hby d7_6)
  refine own_go (st3) ?_
  have Fw3 := Fm_a1.same W3
  have N3 := Fr.snoc X3 N2 g_a1
  show own_Go _ _ _ _ T3 (mkF m 9 #[.val (.ref a1)] [])
  have f4 := ((Keep.refl h0 [a1]).wr W3 (Or.inl (List.mem_of_getElem? (i := 0) rfl)))
  have f5 := (E_a1.wr W3)
  have f6 := (Fs_a1.other W3 (Or.inr (slot_ne (Or.inl (hw _ (List.mem_of_getElem? (i := 62) rfl))) (Or.inl (hw _ (List.mem_of_getElem? (i := 46) rfl))) (by decide) (t := .int) (t' := .int) (by decide) (by decide))))
  have f7 := (Fd_a1.other W3 (Or.inr (slot_ne (Or.inl (hw _ (List.mem_of_getElem? (i := 49) rfl))) (Or.inl (hw _ (List.mem_of_getElem? (i := 46) rfl))) (by decide) (t := (.array (.object "java/lang/Object"))) (t' := .int) (by decide) (by decide))))
  exact own_retV X3 hx hret hlk (hb hby d7_9) (by decide) (by decide) (by first | exact ⟨rfl, N3, f4, f5, Fw3, f6, f7⟩ | (rw [e3]; exact ⟨rfl, N3, f4, f5, Fw3, f6, f7⟩))
set_option maxRecDepth 65536 in
set_option maxHeartbeats 40000000 in
theorem rmI (l : Launch) (Z : State) (a0 : Array Value) (hw : ∀ d ∈ tables_1, d.before a0 Z = true) (ws : List Jvm.Cond) (a1 : Addr) (dd : Addr) (kd : ClassId) (h0 : Heap) (n0 : Nat) (Z0 : n0 ≤ h0.size) (O0 : Old Z n0 h0) (S_d : Sta Z Z.heap "java/util/ArrayList" "DEFAULTCAPACITY_EMPTY_ELEMENTDATA" "[Ljava/lang/Object;" (.ref dd)) (V_d : Arv Z Z.heap dd kd (.object "java/lang/Object") (0 : Int32) [] .null) (E_a1 : Exa Z h0 a1 "java/util/ArrayList") (Fm_a1 : Fld Z h0 a1 "java/util/AbstractList" "modCount" "I" (.int (0 : Int32))) (Fs_a1 : Fld Z h0 a1 "java/util/ArrayList" "size" "I" (.int (0 : Int32))) (Fd_a1 : Fld Z h0 a1 "java/util/ArrayList" "elementData" "[Ljava/lang/Object;" .null) (g_a1 : n0 ≤ a1) :
    own_Met l (⟨"java/util/ArrayList", "<init>", "()V"⟩ : MethodName) jdk_38_method_2_code 1 none ws ({ frames := 3, cells := 0, slots := 0, locals := 36 } : Room) Z #[(.ref a1)] h0 (fun v h L => v = none ∧ Fr n0 L ∧ Keep h0 h [a1] ∧ Exa Z h a1 "java/util/ArrayList" ∧ Fld Z h a1 "java/util/AbstractList" "modCount" "I" (.int (0 : Int32)) ∧ Fld Z h a1 "java/util/ArrayList" "size" "I" (.int (0 : Int32)) ∧ Fld Z h a1 "java/util/ArrayList" "elementData" "[Ljava/lang/Object;" (.ref dd)) := by
  refine own_body (plainFor_of_name (by first | (simp [plainName, overriddenIn]; done) | decide +kernel)) ?_
  intro p e s m below meth c s₁ X0 hx hby hml hown hnm hret hlk hZ e0
  have N0 := Fr.nil n0
  refine own_cast (show entryFrame m #[(.ref a1)] 1 = mkF m 0 #[.val (.ref a1)] [] from by first | (simp [entryFrame, mkF, argsToLocals, Value.category]; done) | rfl) ?_
  show own_Go _ _ _ _ s₁ (mkF m 0 #[.val (.ref a1)] [])
  refine own_go (fun _ k => XS.aloadN X0.here hx rfl (hb hby d6_0) rfl rfl k) ?_
  show own_Go _ _ _ _ s₁ (mkF m 1 #[.val (.ref a1)] [(.ref a1)])
  obtain ⟨v8, T8, h8, L8, X8, e8, hQ8, st8⟩ := own_callI X0 hx hZ rfl hown (hw _ (List.mem_of_getElem? (i := 32) rfl)) (hw _ (List.mem_of_getElem? (i := 33) rfl)) (hw _ (List.mem_of_getElem? (i := 36) rfl)) (hw _ (List.mem_of_getElem? (i := 37) rfl)) (by decide) e0 (a := a1) (argsL := []) (rest := []) (rmAB l Z a0 hw [] a1 h0 n0 Z0 O0 E_a1 Fm_a1 Fs_a1 Fd_a1 g_a1) 0 (by decide) (by decide) (by decide) (by decide) (g := (mkF m 1 #[.val (.ref a1)] [(.ref a1)])) rfl (by rw [hml]; rfl) (lenOf pd0 rfl) rfl (Nat.le_of_eq rfl) (hb hby d6_1)
  obtain ⟨rfl, N8q, K8, E8x, F8m, F8s, F8d⟩ := hQ8
  refine own_go (st8) ?_
  have N8 := Fr.app N0 N8q
  show own_Go _ _ _ _ T8 (mkF m 4 #[.val (.ref a1)] [])
  refine own_go (fun _ k => XS.aloadN X8.here hx rfl (hb hby d6_4) rfl rfl k) ?_
  show own_Go _ _ _ _ T8 (mkF m 5 #[.val (.ref a1)] [(.ref a1)])
  have f10 := (O0.keep K8 (allS g_a1 all0))
  obtain ⟨T9, X9, e9, st9⟩ := getS2 X8 hx hZ hown (host := "") (Or.inl (hw _ (List.mem_of_getElem? (i := 47) rfl))) Via.refl e8 (Sta.ext f10.2 S_d) (g := (mkF m 5 #[.val (.ref a1)] [(.ref a1)])) rfl (hb hby d6_5)
  refine own_go (st9) ?_
  show own_Go _ _ _ _ T9 (mkF m 8 #[.val (.ref a1)] [(.ref dd), (.ref a1)])
  obtain ⟨T11, h11, X11, e11, W11, st11⟩ := putF X9 hx hZ hown (host := "") (Or.inl (hw _ (List.mem_of_getElem? (i := 48) rfl))) Via.refl e9 F8d E8x (Or.inl (hw _ (List.mem_of_getElem? (i := 49) rfl))) (hw _ (List.mem_of_getElem? (i := 27) rfl)) (ty := (.array (.object "java/lang/Object"))) (by decide) rfl rfl (g := (mkF m 8 #[.val (.ref a1)] [(.ref dd), (.ref a1)])) rfl rfl (hb hby d6_8)
  refine own_go (st11) ?_
  have Fw11 := F8d.same W11
  have N11 := Fr.snoc X11 N8 g_a1
  show own_Go _ _ _ _ T11 (mkF m 11 #[.val (.ref a1)] [])
  have f12 := (((Keep.refl h0 [a1]).trans K8 (allS (Or.inl (List.mem_of_getElem? (i := 0) rfl)) all0)).wr W11 (Or.inl (List.mem_of_getElem? (i := 0) rfl)))
  have f13 := (E8x.wr W11)
  have f14 := (F8m.other W11 (Or.inr (slot_ne (Or.inl (hw _ (List.mem_of_getElem? (i := 46) rfl))) (Or.inl (hw _ (List.mem_of_getElem? (i := 49) rfl))) (by decide) (t := .int) (t' := (.array (.object "java/lang/Object"))) (by decide) (by decide))))
  have f15 := (F8s.other W11 (Or.inr (slot_ne (Or.inl (hw _ (List.mem_of_getElem? (i := 62) rfl))) (Or.inl (hw _ (List.mem_of_getElem? (i := 49) rfl))) (by decide) (t := .int) (t' := (.array (.object "java/lang/Object"))) (by decide) (by decide))))
  exact own_retV X11 hx hret hlk (hb hby d6_11) (by decide) (by decide) (by first | exact ⟨rfl, N11, f12, f13, f14, f15, Fw11⟩ | (rw [e11]; exact ⟨rfl, N11, f12, f13, f14, f15, Fw11⟩))
set_option maxRecDepth 65536 in
set_option maxHeartbeats 40000000 in
theorem rmMx (l : Launch) (Z : State) (a0 : Array Value) (hw : ∀ d ∈ tables_1, d.before a0 Z = true) (ws : List Jvm.Cond) (p1 p2 : Int32) (h0 : Heap) (n0 : Nat) (Z0 : n0 ≤ h0.size) :
    own_Met l (⟨"java/lang/Math", "max", "(II)I"⟩ : MethodName) jdk_29_method_65_code 2 (some .int) ws ({ frames := 0, cells := 0, slots := 0, locals := 0 } : Room) Z #[(.int p1), (.int p2)] h0 (fun v h L => v = some (.int (own_imax p1 p2)) ∧ Fr n0 L ∧ h0 = h) := by
  refine own_body (Jvm.Free.JP.mathPlain rfl (by decide +kernel)) ?_
  intro p e s m below meth c s₁ X0 hx hby hml hown hnm hret hlk hZ e0
  have N0 := Fr.nil n0
  refine own_cast (show entryFrame m #[(.int p1), (.int p2)] 2 = mkF m 0 #[.val (.int p1), .val (.int p2)] [] from by first | (simp [entryFrame, mkF, argsToLocals, Value.category]; done) | rfl) ?_
  show own_Go _ _ _ _ s₁ (mkF m 0 #[.val (.int p1), .val (.int p2)] [])
  refine own_go (fun _ k => XS.iloadN X0.here hx rfl (hb hby d13_0) rfl k) ?_
  show own_Go _ _ _ _ s₁ (mkF m 1 #[.val (.int p1), .val (.int p2)] [(.int p1)])
  refine own_go (fun _ k => XS.iloadN X0.here hx rfl (hb hby d13_1) rfl k) ?_
  show own_Go _ _ _ _ s₁ (mkF m 2 #[.val (.int p1), .val (.int p2)] [(.int p2), (.int p1)])
  by_cases hc : p1 < p2
  · skip
    refine own_go (fun _ k => XS.icmpYes X0.here hx rfl (pc0 := 2) (pc' := 9) rfl (hb hby d13_2) rfl (tlt hc).1 (by decide) (by decide) k) ?_
    show own_Go _ _ _ _ s₁ (mkF m 9 #[.val (.int p1), .val (.int p2)] [])
    refine own_go (fun _ k => XS.iloadN X0.here hx rfl (hb hby d13_9) rfl k) ?_
    show own_Go _ _ _ _ s₁ (mkF m 10 #[.val (.int p1), .val (.int p2)] [(.int p2)])
    exact own_retI X0 hx hret hlk (hb hby d13_10) (by decide) (by decide) (by first | exact ⟨by rw [own_imax, if_pos hc], N0, rfl⟩ | (rw [e0]; exact ⟨by rw [own_imax, if_pos hc], N0, rfl⟩))
  · skip
    refine own_go (fun _ k => XS.icmpNo X0.here hx rfl (hb hby d13_2) rfl (flt hc).1 k) ?_
    show own_Go _ _ _ _ s₁ (mkF m 5 #[.val (.int p1), .val (.int p2)] [])
    refine own_go (fun _ k => XS.iloadN X0.here hx rfl (hb hby d13_5) rfl k) ?_
    show own_Go _ _ _ _ s₁ (mkF m 6 #[.val (.int p1), .val (.int p2)] [(.int p1)])
    refine own_go (fun _ k => XS.goto X0.here hx rfl (pc0 := 6) (pc' := 10) rfl (hb hby d13_6) (by decide) (by decide) k) ?_
    show own_Go _ _ _ _ s₁ (mkF m 10 #[.val (.int p1), .val (.int p2)] [(.int p1)])
    exact own_retI X0 hx hret hlk (hb hby d13_10) (by decide) (by decide) (by first | exact ⟨by rw [own_imax, if_neg hc], N0, rfl⟩ | (rw [e0]; exact ⟨by rw [own_imax, if_neg hc], N0, rfl⟩))
set_option maxRecDepth 65536 in
set_option maxHeartbeats 40000000 in
theorem rmG1 (l : Launch) (Z : State) (a0 : Array Value) (hw : ∀ d ∈ tables_1, d.before a0 Z = true) (ws : List Jvm.Cond) (a1 : Addr) (p2 mc : Int32) (dd : Addr) (kd : ClassId) (h0 : Heap) (n0 : Nat) (Z0 : n0 ≤ h0.size) (O0 : Old Z n0 h0) (S_d : Sta Z Z.heap "java/util/ArrayList" "DEFAULTCAPACITY_EMPTY_ELEMENTDATA" "[Ljava/lang/Object;" (.ref dd)) (V_d : Arv Z Z.heap dd kd (.object "java/lang/Object") (0 : Int32) [] .null) (E_a1 : Exa Z h0 a1 "java/util/ArrayList") (Fm_a1 : Fld Z h0 a1 "java/util/AbstractList" "modCount" "I" (.int mc)) (Fs_a1 : Fld Z h0 a1 "java/util/ArrayList" "size" "I" (.int (0 : Int32))) (Fd_a1 : Fld Z h0 a1 "java/util/ArrayList" "elementData" "[Ljava/lang/Object;" (.ref dd)) (g_a1 : n0 ≤ a1) (h10 : own_imax (10 : Int32) p2 = (10 : Int32)) :
    own_Met l (⟨"java/util/ArrayList", "grow", "(I)[Ljava/lang/Object;"⟩ : MethodName) jdk_38_method_6_code 4 (some (.array (.object "java/lang/Object"))) ws ({ frames := 1, cells := 1, slots := 10, locals := 14 } : Room) Z #[(.ref a1), (.int p2)] h0 (fun v h L => ∃ (t : Addr) (k : ClassId), v = some (.ref t) ∧ Fr n0 L ∧ Keep h0 h [a1] ∧ Exa Z h a1 "java/util/ArrayList" ∧ Fld Z h a1 "java/util/AbstractList" "modCount" "I" (.int mc) ∧ Fld Z h a1 "java/util/ArrayList" "size" "I" (.int (0 : Int32)) ∧ Fld Z h a1 "java/util/ArrayList" "elementData" "[Ljava/lang/Object;" (.ref t) ∧ (n0 ≤ t) ∧ (h0.size ≤ t) ∧ Arv Z h t k (.object "java/lang/Object") (10 : Int32) [.null, .null, .null, .null, .null, .null, .null, .null, .null, .null] .null ∧ Ovr Z k "java/lang/Object") := by
  refine own_body (plainFor_of_name (by first | (simp [plainName, overriddenIn]; done) | decide +kernel)) ?_
  intro p e s m below meth c s₁ X0 hx hby hml hown hnm hret hlk hZ e0
  have N0 := Fr.nil n0
  refine own_cast (show entryFrame m #[(.ref a1), (.int p2)] 4 = mkF m 0 #[.val (.ref a1), .val (.int p2), .unset, .unset] [] from by first | (simp [entryFrame, mkF, argsToLocals, Value.category]; done) | rfl) ?_
  have Vd16 := Arv.ext V_d O0.2
  show own_Go _ _ _ _ s₁ (mkF m 0 #[.val (.ref a1), .val (.int p2), .unset, .unset] [])
  refine own_go (fun _ k => XS.aloadN X0.here hx rfl (hb hby d12_0) rfl rfl k) ?_
  show own_Go _ _ _ _ s₁ (mkF m 1 #[.val (.ref a1), .val (.int p2), .unset, .unset] [(.ref a1)])
  obtain ⟨T17, X17, e17, st17⟩ := getF X0 hx hZ hown (host := "") (Or.inl (hw _ (List.mem_of_getElem? (i := 48) rfl))) Via.refl e0 Fd_a1 (g := (mkF m 1 #[.val (.ref a1), .val (.int p2), .unset, .unset] [(.ref a1)])) rfl rfl (hb hby d12_1)
  refine own_go (st17) ?_
  show own_Go _ _ _ _ T17 (mkF m 4 #[.val (.ref a1), .val (.int p2), .unset, .unset] [(.ref dd)])
  obtain ⟨cl18, Ar18, q18, S18, M18, H18, G18⟩ := Vd16
  have V18 : Arv Z h0 dd kd (.object "java/lang/Object") (0 : Int32) _ _ := ⟨cl18, Ar18, q18, S18, M18, H18, G18⟩
  refine own_go (fun t k => X17.arraylength hx (by rw [e17]; exact Ar18.1) (State.isArrayOf_alike hZ.alike Ar18.2.1) (g := (mkF m 4 #[.val (.ref a1), .val (.int p2), .unset, .unset] [(.ref dd)])) rfl rfl (hb hby d12_4) t k) ?_
  rw [len_of S18 M18]
  show own_Go _ _ _ _ T17 (mkF m 5 #[.val (.ref a1), .val (.int p2), .unset, .unset] [(.int (0 : Int32))])
  refine own_go (fun _ k => XS.istoreN X17.here hx rfl (hb hby d12_5) rfl (l' := #[.val (.ref a1), .val (.int p2), .val (.int (0 : Int32)), .unset]) rfl k) ?_
  show own_Go _ _ _ _ T17 (mkF m 6 #[.val (.ref a1), .val (.int p2), .val (.int (0 : Int32)), .unset] [])
  refine own_go (fun _ k => XS.iloadN X17.here hx rfl (hb hby d12_6) rfl k) ?_
  show own_Go _ _ _ _ T17 (mkF m 7 #[.val (.ref a1), .val (.int p2), .val (.int (0 : Int32)), .unset] [(.int (0 : Int32))])
  refine own_go (fun _ k => XS.ifNo X17.here hx rfl (hb hby d12_7) rfl ((if0 _ _).trans (flt (by decide)).2.2.1) k) ?_
  show own_Go _ _ _ _ T17 (mkF m 10 #[.val (.ref a1), .val (.int p2), .val (.int (0 : Int32)), .unset] [])
  refine own_go (fun _ k => XS.aloadN X17.here hx rfl (hb hby d12_10) rfl rfl k) ?_
  show own_Go _ _ _ _ T17 (mkF m 11 #[.val (.ref a1), .val (.int p2), .val (.int (0 : Int32)), .unset] [(.ref a1)])
  obtain ⟨T19, X19, e19, st19⟩ := getF X17 hx hZ hown (host := "") (Or.inl (hw _ (List.mem_of_getElem? (i := 48) rfl))) Via.refl e17 Fd_a1 (g := (mkF m 11 #[.val (.ref a1), .val (.int p2), .val (.int (0 : Int32)), .unset] [(.ref a1)])) rfl rfl (hb hby d12_11)
  refine own_go (st19) ?_
  show own_Go _ _ _ _ T19 (mkF m 14 #[.val (.ref a1), .val (.int p2), .val (.int (0 : Int32)), .unset] [(.ref dd)])
  obtain ⟨T20, X20, e20, st20⟩ := getS2 X19 hx hZ hown (host := "") (Or.inl (hw _ (List.mem_of_getElem? (i := 47) rfl))) Via.refl e19 (Sta.ext O0.2 S_d) (g := (mkF m 14 #[.val (.ref a1), .val (.int p2), .val (.int (0 : Int32)), .unset] [(.ref dd)])) rfl (hb hby d12_14)
  refine own_go (st20) ?_
  show own_Go _ _ _ _ T20 (mkF m 17 #[.val (.ref a1), .val (.int p2), .val (.int (0 : Int32)), .unset] [(.ref dd), (.ref dd)])
  refine own_go (fun _ k => Jvm.RoadKit.acmp (g := (mkF m 17 #[.val (.ref a1), .val (.int p2), .val (.int (0 : Int32)), .unset] [(.ref dd), (.ref dd)])) X20 hx rfl rfl rfl (pc0 := 17) (pc' := 45) (same := true) rfl (hb hby d12_17) rfl (decide_eq_true rfl) (by decide) (by decide) k) ?_
  show own_Go _ _ _ _ T20 (mkF m 45 #[.val (.ref a1), .val (.int p2), .val (.int (0 : Int32)), .unset] [])
  refine own_go (fun _ k => XS.aloadN X20.here hx rfl (hb hby d12_45) rfl rfl k) ?_
  show own_Go _ _ _ _ T20 (mkF m 46 #[.val (.ref a1), .val (.int p2), .val (.int (0 : Int32)), .unset] [(.ref a1)])
  refine own_go (fun _ k => XS.bipush X20.here hx rfl (hb hby d12_46) k) ?_
  show own_Go _ _ _ _ T20 (mkF m 48 #[.val (.ref a1), .val (.int p2), .val (.int (0 : Int32)), .unset] [(.int (10 : Int32)), (.ref a1)])
  refine own_go (fun _ k => XS.iloadN X20.here hx rfl (hb hby d12_48) rfl k) ?_
  show own_Go _ _ _ _ T20 (mkF m 49 #[.val (.ref a1), .val (.int p2), .val (.int (0 : Int32)), .unset] [(.int p2), (.int (10 : Int32)), (.ref a1)])
  obtain ⟨v21, T21, h21, L21, X21, e21, hQ21, st21⟩ := own_callS X20 hx hZ hown (hw _ (List.mem_of_getElem? (i := 78) rfl)) (hw _ (List.mem_of_getElem? (i := 79) rfl)) (hw _ (List.mem_of_getElem? (i := 80) rfl)) (hw _ (List.mem_of_getElem? (i := 81) rfl)) (by decide) e20 (argsL := [(.int (10 : Int32)), (.int p2)]) (rest := [(.ref a1)]) (rmMx l Z a0 hw [] (10 : Int32) p2 h0 n0 Z0) 1 (by decide) (by decide) (by decide) (by decide) (g := (mkF m 49 #[.val (.ref a1), .val (.int p2), .val (.int (0 : Int32)), .unset] [(.int p2), (.int (10 : Int32)), (.ref a1)])) rfl (by rw [hml]; rfl) (lenOf pd1 rfl) rfl (Nat.le_of_eq rfl) (hb hby d12_49)
  obtain ⟨rfl, N21q, rfl⟩ := hQ21
  refine own_go (st21) ?_
  have N21 := Fr.app N0 N21q
  show own_Go _ _ _ _ T21 (mkF m 52 #[.val (.ref a1), .val (.int p2), .val (.int (0 : Int32)), .unset] [(.int (own_imax (10 : Int32) p2)), (.ref a1)])
  rw [h10]
  show own_Go _ _ _ _ T21 (mkF m 52 #[.val (.ref a1), .val (.int p2), .val (.int (0 : Int32)), .unset] [(.int (10 : Int32)), (.ref a1)])
  obtain ⟨T22, h22, k22, X22, e22, E22, A22, O22, st22⟩ := newR X21 hx hZ hown (hw _ (List.mem_of_getElem? (i := 82) rfl)) (hw _ (List.mem_of_getElem? (i := 83) rfl)) e21 (g := (mkF m 52 #[.val (.ref a1), .val (.int p2), .val (.int (0 : Int32)), .unset] [(.int (10 : Int32)), (.ref a1)])) rfl (hb hby d12_52) rfl (by decide) (cap := 10) (by decide) (by decide) (by decide) (by decide)
  obtain ⟨b22, g22⟩ : ∃ z, z = h0.size := ⟨_, rfl⟩
  rw [← g22] at A22 st22
  refine own_go (st22) ?_
  have g_b22 : n0 ≤ b22 := Nat.le_trans Z0 (Nat.le_of_eq g22.symm)
  have sz_b22 : h0.size ≤ b22 := Nat.le_trans (Keep.refl h0 [a1]).1 (Nat.le_of_eq g22.symm)
  have o_b22 : a1 < b22 := Nat.lt_of_lt_of_le E_a1.lt (Nat.le_of_eq g22.symm)
  have V22 : Arv Z h22 b22 k22 (.object "java/lang/Object") (10 : Int32) [.null, .null, .null, .null, .null, .null, .null, .null, .null, .null] .null := (Arv.new A22 (by decide)).pad (pad_rep [] .null 10)
  show own_Go _ _ _ _ T22 (mkF m 55 #[.val (.ref a1), .val (.int p2), .val (.int (0 : Int32)), .unset] [(.ref b22), (.ref a1)])
  refine own_go (fun _ k => XS.dupX1 X22.here hx rfl (hb hby d12_55) rfl rfl rfl k) ?_
  show own_Go _ _ _ _ T22 (mkF m 56 #[.val (.ref a1), .val (.int p2), .val (.int (0 : Int32)), .unset] [(.ref b22), (.ref a1), (.ref b22)])
  have f24 := (Fd_a1.ext E22)
  have f25 := (E_a1.ext E22)
  obtain ⟨T23, h23, X23, e23, W23, st23⟩ := putF X22 hx hZ hown (host := "") (Or.inl (hw _ (List.mem_of_getElem? (i := 48) rfl))) Via.refl e22 f24 f25 (Or.inl (hw _ (List.mem_of_getElem? (i := 49) rfl))) (hw _ (List.mem_of_getElem? (i := 27) rfl)) (ty := (.array (.object "java/lang/Object"))) (by decide) rfl rfl (g := (mkF m 56 #[.val (.ref a1), .val (.int p2), .val (.int (0 : Int32)), .unset] [(.ref b22), (.ref a1), (.ref b22)])) rfl rfl (hb hby d12_56)
  refine own_go (st23) ?_
  have Fw23 := f24.same W23
  have N23 := Fr.snoc X23 N21 g_a1
  show own_Go _ _ _ _ T23 (mkF m 59 #[.val (.ref a1), .val (.int p2), .val (.int (0 : Int32)), .unset] [(.ref b22)])
  have f26 := (((Keep.refl h0 [a1]).ext E22).wr W23 (Or.inl (List.mem_of_getElem? (i := 0) rfl)))
  have f27 := (f25.wr W23)
  have f28 := ((Fm_a1.ext E22).other W23 (Or.inr (slot_ne (Or.inl (hw _ (List.mem_of_getElem? (i := 46) rfl))) (Or.inl (hw _ (List.mem_of_getElem? (i := 49) rfl))) (by decide) (t := .int) (t' := (.array (.object "java/lang/Object"))) (by decide) (by decide))))
  have f29 := ((Fs_a1.ext E22).other W23 (Or.inr (slot_ne (Or.inl (hw _ (List.mem_of_getElem? (i := 62) rfl))) (Or.inl (hw _ (List.mem_of_getElem? (i := 49) rfl))) (by decide) (t := .int) (t' := (.array (.object "java/lang/Object"))) (by decide) (by decide))))
  have f30 := (V22.other W23 (Ne.symm (Nat.ne_of_lt o_b22)))
  exact own_retR X23 hx hret rfl rfl hlk (hb hby d12_59) (by decide) (by decide) (by first | exact ⟨_, _, rfl, N23, f26, f27, f28, f29, Fw23, g_b22, sz_b22, f30, O22⟩ | (rw [e23]; exact ⟨_, _, rfl, N23, f26, f27, f28, f29, Fw23, g_b22, sz_b22, f30, O22⟩))
set_option maxRecDepth 65536 in
set_option maxHeartbeats 40000000 in
theorem rmG0 (l : Launch) (Z : State) (a0 : Array Value) (hw : ∀ d ∈ tables_1, d.before a0 Z = true) (ws : List Jvm.Cond) (a1 : Addr) (mc : Int32) (dd : Addr) (kd : ClassId) (h0 : Heap) (n0 : Nat) (Z0 : n0 ≤ h0.size) (O0 : Old Z n0 h0) (S_d : Sta Z Z.heap "java/util/ArrayList" "DEFAULTCAPACITY_EMPTY_ELEMENTDATA" "[Ljava/lang/Object;" (.ref dd)) (V_d : Arv Z Z.heap dd kd (.object "java/lang/Object") (0 : Int32) [] .null) (E_a1 : Exa Z h0 a1 "java/util/ArrayList") (Fm_a1 : Fld Z h0 a1 "java/util/AbstractList" "modCount" "I" (.int mc)) (Fs_a1 : Fld Z h0 a1 "java/util/ArrayList" "size" "I" (.int (0 : Int32))) (Fd_a1 : Fld Z h0 a1 "java/util/ArrayList" "elementData" "[Ljava/lang/Object;" (.ref dd)) (g_a1 : n0 ≤ a1) :
    own_Met l (⟨"java/util/ArrayList", "grow", "()[Ljava/lang/Object;"⟩ : MethodName) jdk_38_method_7_code 1 (some (.array (.object "java/lang/Object"))) ws ({ frames := 2, cells := 1, slots := 10, locals := 29 } : Room) Z #[(.ref a1)] h0 (fun v h L => ∃ (t : Addr) (k : ClassId), v = some (.ref t) ∧ Fr n0 L ∧ Keep h0 h [a1] ∧ Exa Z h a1 "java/util/ArrayList" ∧ Fld Z h a1 "java/util/AbstractList" "modCount" "I" (.int mc) ∧ Fld Z h a1 "java/util/ArrayList" "size" "I" (.int (0 : Int32)) ∧ Fld Z h a1 "java/util/ArrayList" "elementData" "[Ljava/lang/Object;" (.ref t) ∧ (n0 ≤ t) ∧ (h0.size ≤ t) ∧ Arv Z h t k (.object "java/lang/Object") (10 : Int32) [.null, .null, .null, .null, .null, .null, .null, .null, .null, .null] .null ∧ Ovr Z k "java/lang/Object") := by
  refine own_body (plainFor_of_name (by first | (simp [plainName, overriddenIn]; done) | decide +kernel)) ?_
  intro p e s m below meth c s₁ X0 hx hby hml hown hnm hret hlk hZ e0
  have N0 := Fr.nil n0
  refine own_cast (show entryFrame m #[(.ref a1)] 1 = mkF m 0 #[.val (.ref a1)] [] from by first | (simp [entryFrame, mkF, argsToLocals, Value.category]; done) | rfl) ?_
  show own_Go _ _ _ _ s₁ (mkF m 0 #[.val (.ref a1)] [])
  refine own_go (fun _ k => XS.aloadN X0.here hx rfl (hb hby d11_0) rfl rfl k) ?_
  show own_Go _ _ _ _ s₁ (mkF m 1 #[.val (.ref a1)] [(.ref a1)])
  refine own_go (fun _ k => XS.aloadN X0.here hx rfl (hb hby d11_1) rfl rfl k) ?_
  show own_Go _ _ _ _ s₁ (mkF m 2 #[.val (.ref a1)] [(.ref a1), (.ref a1)])
  obtain ⟨T31, X31, e31, st31⟩ := getF X0 hx hZ hown (host := "") (Or.inl (hw _ (List.mem_of_getElem? (i := 61) rfl))) Via.refl e0 Fs_a1 (g := (mkF m 2 #[.val (.ref a1)] [(.ref a1), (.ref a1)])) rfl rfl (hb hby d11_2)
  refine own_go (st31) ?_
  show own_Go _ _ _ _ T31 (mkF m 5 #[.val (.ref a1)] [(.int (0 : Int32)), (.ref a1)])
  refine own_go (fun _ k => XS.iconst X31.here hx rfl (hb hby d11_5) k) ?_
  show own_Go _ _ _ _ T31 (mkF m 6 #[.val (.ref a1)] [(.int (1 : Int32)), (.int (0 : Int32)), (.ref a1)])
  refine own_go (fun _ k => XS.iadd X31.here hx rfl (hb hby d11_6) rfl k) ?_
  show own_Go _ _ _ _ T31 (mkF m 7 #[.val (.ref a1)] [(.int ((0 : Int32) + (1 : Int32))), (.ref a1)])
  obtain ⟨v32, T32, h32, L32, X32, e32, hQ32, st32⟩ := own_callP X31 hx hZ hown (hw _ (List.mem_of_getElem? (i := 73) rfl)) (hw _ (List.mem_of_getElem? (i := 74) rfl)) (hw _ (List.mem_of_getElem? (i := 76) rfl)) (hw _ (List.mem_of_getElem? (i := 75) rfl)) (hw _ (List.mem_of_getElem? (i := 28) rfl)) (hw _ (List.mem_of_getElem? (i := 77) rfl)) (by decide) e31 E_a1 (argsL := [(.int ((0 : Int32) + (1 : Int32)))]) (rest := []) (rmG1 l Z a0 hw [] a1 ((0 : Int32) + (1 : Int32)) mc dd kd h0 n0 Z0 O0 S_d V_d E_a1 Fm_a1 Fs_a1 Fd_a1 g_a1 (by decide)) 0 (by decide) (by decide) (by decide) (by decide) (g := (mkF m 7 #[.val (.ref a1)] [(.int ((0 : Int32) + (1 : Int32))), (.ref a1)])) rfl (by rw [hml]; rfl) (lenOf pd2 rfl) rfl (Nat.le_of_eq rfl) (hb hby d11_7)
  obtain ⟨t32, k32, rfl, N32q, K32, E32x, F32m, F32s, F32d, gt32, st32z, V32, O32⟩ := hQ32
  refine own_go (st32) ?_
  have N32 := Fr.app N0 N32q
  have g_t32 := gt32
  have o_t32 : a1 < t32 := Nat.lt_of_lt_of_le E_a1.lt st32z
  have sz_t32 := Nat.le_trans (Keep.refl h0 [a1]).1 st32z
  show own_Go _ _ _ _ T32 (mkF m 10 #[.val (.ref a1)] [(.ref t32)])
  have f33 := ((Keep.refl h0 [a1]).trans K32 (allS (Or.inl (List.mem_of_getElem? (i := 0) rfl)) all0))
  exact own_retR X32 hx hret rfl rfl hlk (hb hby d11_10) (by decide) (by decide) (by first | exact ⟨_, _, rfl, N32, f33, E32x, F32m, F32s, F32d, g_t32, sz_t32, V32, O32⟩ | (rw [e32]; exact ⟨_, _, rfl, N32, f33, E32x, F32m, F32s, F32d, g_t32, sz_t32, V32, O32⟩))
set_option maxRecDepth 65536 in
set_option maxHeartbeats 40000000 in
theorem rmA3f (l : Launch) (Z : State) (a0 : Array Value) (hw : ∀ d ∈ tables_1, d.before a0 Z = true) (ws : List Jvm.Cond) (a1 : Addr) (mc : Int32) (x2 : Addr) (cx : String) (dd : Addr) (kd : ClassId) (h0 : Heap) (n0 : Nat) (Z0 : n0 ≤ h0.size) (O0 : Old Z n0 h0) (S_d : Sta Z Z.heap "java/util/ArrayList" "DEFAULTCAPACITY_EMPTY_ELEMENTDATA" "[Ljava/lang/Object;" (.ref dd)) (V_d : Arv Z Z.heap dd kd (.object "java/lang/Object") (0 : Int32) [] .null) (E_a1 : Exa Z h0 a1 "java/util/ArrayList") (Fm_a1 : Fld Z h0 a1 "java/util/AbstractList" "modCount" "I" (.int mc)) (Fs_a1 : Fld Z h0 a1 "java/util/ArrayList" "size" "I" (.int (0 : Int32))) (Fd_a1 : Fld Z h0 a1 "java/util/ArrayList" "elementData" "[Ljava/lang/Object;" (.ref dd)) (g_a1 : n0 ≤ a1) (E_x2 : Exa Z h0 x2 cx) (hcx : (Jvm.Cond.castable cx "java/lang/Object").before a0 Z = true) :
    own_Met l (⟨"java/util/ArrayList", "add", "(Ljava/lang/Object;[Ljava/lang/Object;I)V"⟩ : MethodName) jdk_38_method_24_code 4 none ws ({ frames := 3, cells := 1, slots := 10, locals := 41 } : Room) Z #[(.ref a1), (.ref x2), (.ref dd), (.int (0 : Int32))] h0 (fun v h L => v = none ∧ Fr n0 L ∧ ∃ (t : Addr) (k : ClassId), Keep h0 h [a1] ∧ Exa Z h a1 "java/util/ArrayList" ∧ Fld Z h a1 "java/util/AbstractList" "modCount" "I" (.int mc) ∧ Fld Z h a1 "java/util/ArrayList" "size" "I" (.int (1 : Int32)) ∧ Fld Z h a1 "java/util/ArrayList" "elementData" "[Ljava/lang/Object;" (.ref t) ∧ (n0 ≤ t) ∧ (h0.size ≤ t) ∧ Arv Z h t k (.object "java/lang/Object") (10 : Int32) [(.ref x2), .null, .null, .null, .null, .null, .null, .null, .null, .null] .null ∧ Ovr Z k "java/lang/Object") := by
  refine own_body (plainFor_of_name (by first | (simp [plainName, overriddenIn]; done) | decide +kernel)) ?_
  intro p e s m below meth c s₁ X0 hx hby hml hown hnm hret hlk hZ e0
  have N0 := Fr.nil n0
  refine own_cast (show entryFrame m #[(.ref a1), (.ref x2), (.ref dd), (.int (0 : Int32))] 4 = mkF m 0 #[.val (.ref a1), .val (.ref x2), .val (.ref dd), .val (.int (0 : Int32))] [] from by first | (simp [entryFrame, mkF, argsToLocals, Value.category]; done) | rfl) ?_
  have Vd34 := Arv.ext V_d O0.2
  show own_Go _ _ _ _ s₁ (mkF m 0 #[.val (.ref a1), .val (.ref x2), .val (.ref dd), .val (.int (0 : Int32))] [])
  refine own_go (fun _ k => XS.iloadN X0.here hx rfl (hb hby d10_0) rfl k) ?_
  show own_Go _ _ _ _ s₁ (mkF m 1 #[.val (.ref a1), .val (.ref x2), .val (.ref dd), .val (.int (0 : Int32))] [(.int (0 : Int32))])
  refine own_go (fun _ k => XS.aloadN X0.here hx rfl (hb hby d10_1) rfl rfl k) ?_
  show own_Go _ _ _ _ s₁ (mkF m 2 #[.val (.ref a1), .val (.ref x2), .val (.ref dd), .val (.int (0 : Int32))] [(.ref dd), (.int (0 : Int32))])
  obtain ⟨cl35, Ar35, q35, S35, M35, H35, G35⟩ := Vd34
  have V35 : Arv Z h0 dd kd (.object "java/lang/Object") (0 : Int32) _ _ := ⟨cl35, Ar35, q35, S35, M35, H35, G35⟩
  refine own_go (fun t k => X0.arraylength hx (by rw [e0]; exact Ar35.1) (State.isArrayOf_alike hZ.alike Ar35.2.1) (g := (mkF m 2 #[.val (.ref a1), .val (.ref x2), .val (.ref dd), .val (.int (0 : Int32))] [(.ref dd), (.int (0 : Int32))])) rfl rfl (hb hby d10_2) t k) ?_
  rw [len_of S35 M35]
  show own_Go _ _ _ _ s₁ (mkF m 3 #[.val (.ref a1), .val (.ref x2), .val (.ref dd), .val (.int (0 : Int32))] [(.int (0 : Int32)), (.int (0 : Int32))])
  refine own_go (fun _ k => XS.icmpNo X0.here hx rfl (hb hby d10_3) rfl (teq rfl).2 k) ?_
  show own_Go _ _ _ _ s₁ (mkF m 6 #[.val (.ref a1), .val (.ref x2), .val (.ref dd), .val (.int (0 : Int32))] [])
  refine own_go (fun _ k => XS.aloadN X0.here hx rfl (hb hby d10_6) rfl rfl k) ?_
  show own_Go _ _ _ _ s₁ (mkF m 7 #[.val (.ref a1), .val (.ref x2), .val (.ref dd), .val (.int (0 : Int32))] [(.ref a1)])
  obtain ⟨v36, T36, h36, L36, X36, e36, hQ36, st36⟩ := own_callP X0 hx hZ hown (hw _ (List.mem_of_getElem? (i := 68) rfl)) (hw _ (List.mem_of_getElem? (i := 69) rfl)) (hw _ (List.mem_of_getElem? (i := 71) rfl)) (hw _ (List.mem_of_getElem? (i := 70) rfl)) (hw _ (List.mem_of_getElem? (i := 28) rfl)) (hw _ (List.mem_of_getElem? (i := 72) rfl)) (by decide) e0 E_a1 (argsL := []) (rest := []) (rmG0 l Z a0 hw [] a1 mc dd kd h0 n0 Z0 O0 S_d V_d E_a1 Fm_a1 Fs_a1 Fd_a1 g_a1) 0 (by decide) (by decide) (by decide) (by decide) (g := (mkF m 7 #[.val (.ref a1), .val (.ref x2), .val (.ref dd), .val (.int (0 : Int32))] [(.ref a1)])) rfl (by rw [hml]; rfl) (lenOf pd3 rfl) rfl (Nat.le_of_eq rfl) (hb hby d10_7)
  obtain ⟨t36, k36, rfl, N36q, K36, E36x, F36m, F36s, F36d, gt36, st36z, V36, O36⟩ := hQ36
  refine own_go (st36) ?_
  have N36 := Fr.app N0 N36q
  have g_t36 := gt36
  have o_t36 : a1 < t36 := Nat.lt_of_lt_of_le E_a1.lt st36z
  have sz_t36 := Nat.le_trans (Keep.refl h0 [a1]).1 st36z
  show own_Go _ _ _ _ T36 (mkF m 10 #[.val (.ref a1), .val (.ref x2), .val (.ref dd), .val (.int (0 : Int32))] [(.ref t36)])
  refine own_go (fun _ k => XS.astoreN X36.here hx rfl (hb hby d10_10) rfl rfl (l' := #[.val (.ref a1), .val (.ref x2), .val (.ref t36), .val (.int (0 : Int32))]) rfl k) ?_
  show own_Go _ _ _ _ T36 (mkF m 11 #[.val (.ref a1), .val (.ref x2), .val (.ref t36), .val (.int (0 : Int32))] [])
  refine own_go (fun _ k => XS.aloadN X36.here hx rfl (hb hby d10_11) rfl rfl k) ?_
  show own_Go _ _ _ _ T36 (mkF m 12 #[.val (.ref a1), .val (.ref x2), .val (.ref t36), .val (.int (0 : Int32))] [(.ref t36)])
  refine own_go (fun _ k => XS.iloadN X36.here hx rfl (hb hby d10_12) rfl k) ?_
  show own_Go _ _ _ _ T36 (mkF m 13 #[.val (.ref a1), .val (.ref x2), .val (.ref t36), .val (.int (0 : Int32))] [(.int (0 : Int32)), (.ref t36)])
  refine own_go (fun _ k => XS.aloadN X36.here hx rfl (hb hby d10_13) rfl rfl k) ?_
  show own_Go _ _ _ _ T36 (mkF m 14 #[.val (.ref a1), .val (.ref x2), .val (.ref t36), .val (.int (0 : Int32))] [(.ref x2), (.int (0 : Int32)), (.ref t36)])
  have f38 := (E_x2.keep K36)
  obtain ⟨cl37, Ar37, q37, S37, M37, H37, G37⟩ := V36
  have hin37 : ¬ ((0 : Int32) < 0 ∨ cl37.slots.size ≤ ((0 : Int32)).toNatClampNeg) := inb_of S37 ⟨by decide, by decide⟩
  have sto37 := Sto.ofV Ar37 q37 O36 (Ins.of_exa f38 hcx)
  obtain ⟨T37, h37, X37, e37, W37, st37⟩ := stR X36 hx hZ e36 Ar37 (j := (0 : Int32)) hin37 rfl sto37 (g := (mkF m 14 #[.val (.ref a1), .val (.ref x2), .val (.ref t36), .val (.int (0 : Int32))] [(.ref x2), (.int (0 : Int32)), (.ref t36)])) rfl rfl (hb hby d10_14)
  refine own_go (st37) ?_
  have V37 : Arv Z h37 t36 k36 (.object "java/lang/Object") (10 : Int32) [(.ref x2), .null, .null, .null, .null, .null, .null, .null, .null, .null] .null := Arv.set Ar37 q37 S37 M37 H37 G37 rfl W37 0 rfl (Nat.le_of_ble_eq_true rfl)
  have N37 := Fr.snoc X37 N36 g_t36
  show own_Go _ _ _ _ T37 (mkF m 15 #[.val (.ref a1), .val (.ref x2), .val (.ref t36), .val (.int (0 : Int32))] [])
  refine own_go (fun _ k => XS.aloadN X37.here hx rfl (hb hby d10_15) rfl rfl k) ?_
  show own_Go _ _ _ _ T37 (mkF m 16 #[.val (.ref a1), .val (.ref x2), .val (.ref t36), .val (.int (0 : Int32))] [(.ref a1)])
  refine own_go (fun _ k => XS.iloadN X37.here hx rfl (hb hby d10_16) rfl k) ?_
  show own_Go _ _ _ _ T37 (mkF m 17 #[.val (.ref a1), .val (.ref x2), .val (.ref t36), .val (.int (0 : Int32))] [(.int (0 : Int32)), (.ref a1)])
  refine own_go (fun _ k => XS.iconst X37.here hx rfl (hb hby d10_17) k) ?_
  show own_Go _ _ _ _ T37 (mkF m 18 #[.val (.ref a1), .val (.ref x2), .val (.ref t36), .val (.int (0 : Int32))] [(.int (1 : Int32)), (.int (0 : Int32)), (.ref a1)])
  refine own_go (fun _ k => XS.iadd X37.here hx rfl (hb hby d10_18) rfl k) ?_
  show own_Go _ _ _ _ T37 (mkF m 19 #[.val (.ref a1), .val (.ref x2), .val (.ref t36), .val (.int (0 : Int32))] [(.int ((0 : Int32) + (1 : Int32))), (.ref a1)])
  rw [show ((0 : Int32) + (1 : Int32)) = (1 : Int32) from by decide]
  show own_Go _ _ _ _ T37 (mkF m 19 #[.val (.ref a1), .val (.ref x2), .val (.ref t36), .val (.int (0 : Int32))] [(.int (1 : Int32)), (.ref a1)])
  have f40 := (F36s.other W37 (Or.inl (Nat.ne_of_lt o_t36)))
  have f41 := (E36x.wr W37)
  obtain ⟨T39, h39, X39, e39, W39, st39⟩ := putF X37 hx hZ hown (host := "") (Or.inl (hw _ (List.mem_of_getElem? (i := 61) rfl))) Via.refl e37 f40 f41 (Or.inl (hw _ (List.mem_of_getElem? (i := 62) rfl))) (hw _ (List.mem_of_getElem? (i := 27) rfl)) (ty := .int) (by decide) rfl rfl (g := (mkF m 19 #[.val (.ref a1), .val (.ref x2), .val (.ref t36), .val (.int (0 : Int32))] [(.int (1 : Int32)), (.ref a1)])) rfl rfl (hb hby d10_19)
  refine own_go (st39) ?_
  have Fw39 := f40.same W39
  have N39 := Fr.snoc X39 N37 g_a1
  show own_Go _ _ _ _ T39 (mkF m 22 #[.val (.ref a1), .val (.ref x2), .val (.ref t36), .val (.int (0 : Int32))] [])
  have f42 := ((((Keep.refl h0 [a1]).trans K36 (allS (Or.inl (List.mem_of_getElem? (i := 0) rfl)) all0)).wr W37 (Or.inr sz_t36)).wr W39 (Or.inl (List.mem_of_getElem? (i := 0) rfl)))
  have f43 := (f41.wr W39)
  have f44 := ((F36m.other W37 (Or.inl (Nat.ne_of_lt o_t36))).other W39 (Or.inr (slot_ne (Or.inl (hw _ (List.mem_of_getElem? (i := 46) rfl))) (Or.inl (hw _ (List.mem_of_getElem? (i := 62) rfl))) (by decide) (t := .int) (t' := .int) (by decide) (by decide))))
  have f45 := ((F36d.other W37 (Or.inl (Nat.ne_of_lt o_t36))).other W39 (Or.inr (slot_ne (Or.inl (hw _ (List.mem_of_getElem? (i := 49) rfl))) (Or.inl (hw _ (List.mem_of_getElem? (i := 62) rfl))) (by decide) (t := (.array (.object "java/lang/Object"))) (t' := .int) (by decide) (by decide))))
  have f46 := (V37.other W39 (Ne.symm (Nat.ne_of_lt o_t36)))
  exact own_retV X39 hx hret hlk (hb hby d10_22) (by decide) (by decide) (by first | exact ⟨rfl, N39, _, _, f42, f43, f44, Fw39, f45, g_t36, sz_t36, f46, O36⟩ | (rw [e39]; exact ⟨rfl, N39, _, _, f42, f43, f44, Fw39, f45, g_t36, sz_t36, f46, O36⟩))
set_option maxRecDepth 65536 in
set_option maxHeartbeats 40000000 in
theorem rmAf (l : Launch) (Z : State) (a0 : Array Value) (hw : ∀ d ∈ tables_1, d.before a0 Z = true) (ws : List Jvm.Cond) (a1 : Addr) (mc : Int32) (x2 : Addr) (cx : String) (dd : Addr) (kd : ClassId) (h0 : Heap) (n0 : Nat) (Z0 : n0 ≤ h0.size) (O0 : Old Z n0 h0) (S_d : Sta Z Z.heap "java/util/ArrayList" "DEFAULTCAPACITY_EMPTY_ELEMENTDATA" "[Ljava/lang/Object;" (.ref dd)) (V_d : Arv Z Z.heap dd kd (.object "java/lang/Object") (0 : Int32) [] .null) (E_a1 : Exa Z h0 a1 "java/util/ArrayList") (Fm_a1 : Fld Z h0 a1 "java/util/AbstractList" "modCount" "I" (.int mc)) (Fs_a1 : Fld Z h0 a1 "java/util/ArrayList" "size" "I" (.int (0 : Int32))) (Fd_a1 : Fld Z h0 a1 "java/util/ArrayList" "elementData" "[Ljava/lang/Object;" (.ref dd)) (g_a1 : n0 ≤ a1) (E_x2 : Exa Z h0 x2 cx) (hcx : (Jvm.Cond.castable cx "java/lang/Object").before a0 Z = true) :
    own_Met l (⟨"java/util/ArrayList", "add", "(Ljava/lang/Object;)Z"⟩ : MethodName) jdk_38_method_25_code 2 (some .boolean) ws ({ frames := 4, cells := 1, slots := 10, locals := 56 } : Room) Z #[(.ref a1), (.ref x2)] h0 (fun v h L => v = some (.int 1) ∧ Fr n0 L ∧ ∃ (t : Addr) (k : ClassId), Keep h0 h [a1] ∧ Exa Z h a1 "java/util/ArrayList" ∧ Fld Z h a1 "java/util/AbstractList" "modCount" "I" (.int (mc + (1 : Int32))) ∧ Fld Z h a1 "java/util/ArrayList" "size" "I" (.int (1 : Int32)) ∧ Fld Z h a1 "java/util/ArrayList" "elementData" "[Ljava/lang/Object;" (.ref t) ∧ (n0 ≤ t) ∧ (h0.size ≤ t) ∧ Arv Z h t k (.object "java/lang/Object") (10 : Int32) [(.ref x2), .null, .null, .null, .null, .null, .null, .null, .null, .null] .null ∧ Ovr Z k "java/lang/Object") := by
  refine own_body (plainFor_of_name (by first | (simp [plainName, overriddenIn]; done) | decide +kernel)) ?_
  intro p e s m below meth c s₁ X0 hx hby hml hown hnm hret hlk hZ e0
  have N0 := Fr.nil n0
  refine own_cast (show entryFrame m #[(.ref a1), (.ref x2)] 2 = mkF m 0 #[.val (.ref a1), .val (.ref x2)] [] from by first | (simp [entryFrame, mkF, argsToLocals, Value.category]; done) | rfl) ?_
  show own_Go _ _ _ _ s₁ (mkF m 0 #[.val (.ref a1), .val (.ref x2)] [])
  refine own_go (fun _ k => XS.aloadN X0.here hx rfl (hb hby d9_0) rfl rfl k) ?_
  show own_Go _ _ _ _ s₁ (mkF m 1 #[.val (.ref a1), .val (.ref x2)] [(.ref a1)])
  refine own_go (fun _ k => XS.dup X0.here hx rfl (hb hby d9_1) rfl rfl k) ?_
  show own_Go _ _ _ _ s₁ (mkF m 2 #[.val (.ref a1), .val (.ref x2)] [(.ref a1), (.ref a1)])
  obtain ⟨T47, X47, e47, st47⟩ := getF X0 hx hZ hown (host := "") (Or.inl (hw _ (List.mem_of_getElem? (i := 59) rfl))) (Via.of (hw _ (List.mem_of_getElem? (i := 60) rfl))) e0 Fm_a1 (g := (mkF m 2 #[.val (.ref a1), .val (.ref x2)] [(.ref a1), (.ref a1)])) rfl rfl (hb hby d9_2)
  refine own_go (st47) ?_
  show own_Go _ _ _ _ T47 (mkF m 5 #[.val (.ref a1), .val (.ref x2)] [(.int mc), (.ref a1)])
  refine own_go (fun _ k => XS.iconst X47.here hx rfl (hb hby d9_5) k) ?_
  show own_Go _ _ _ _ T47 (mkF m 6 #[.val (.ref a1), .val (.ref x2)] [(.int (1 : Int32)), (.int mc), (.ref a1)])
  refine own_go (fun _ k => XS.iadd X47.here hx rfl (hb hby d9_6) rfl k) ?_
  show own_Go _ _ _ _ T47 (mkF m 7 #[.val (.ref a1), .val (.ref x2)] [(.int (mc + (1 : Int32))), (.ref a1)])
  obtain ⟨T48, h48, X48, e48, W48, st48⟩ := putF X47 hx hZ hown (host := "") (Or.inl (hw _ (List.mem_of_getElem? (i := 59) rfl))) (Via.of (hw _ (List.mem_of_getElem? (i := 60) rfl))) e47 Fm_a1 E_a1 (Or.inl (hw _ (List.mem_of_getElem? (i := 46) rfl))) (hw _ (List.mem_of_getElem? (i := 27) rfl)) (ty := .int) (by decide) rfl rfl (g := (mkF m 7 #[.val (.ref a1), .val (.ref x2)] [(.int (mc + (1 : Int32))), (.ref a1)])) rfl rfl (hb hby d9_7)
  refine own_go (st48) ?_
  have Fw48 := Fm_a1.same W48
  have N48 := Fr.snoc X48 N0 g_a1
  show own_Go _ _ _ _ T48 (mkF m 10 #[.val (.ref a1), .val (.ref x2)] [])
  refine own_go (fun _ k => XS.aloadN X48.here hx rfl (hb hby d9_10) rfl rfl k) ?_
  show own_Go _ _ _ _ T48 (mkF m 11 #[.val (.ref a1), .val (.ref x2)] [(.ref a1)])
  refine own_go (fun _ k => XS.aloadN X48.here hx rfl (hb hby d9_11) rfl rfl k) ?_
  show own_Go _ _ _ _ T48 (mkF m 12 #[.val (.ref a1), .val (.ref x2)] [(.ref x2), (.ref a1)])
  refine own_go (fun _ k => XS.aloadN X48.here hx rfl (hb hby d9_12) rfl rfl k) ?_
  show own_Go _ _ _ _ T48 (mkF m 13 #[.val (.ref a1), .val (.ref x2)] [(.ref a1), (.ref x2), (.ref a1)])
  have f49 := (Fd_a1.other W48 (Or.inr (slot_ne (Or.inl (hw _ (List.mem_of_getElem? (i := 49) rfl))) (Or.inl (hw _ (List.mem_of_getElem? (i := 46) rfl))) (by decide) (t := (.array (.object "java/lang/Object"))) (t' := .int) (by decide) (by decide))))
  obtain ⟨T50, X50, e50, st50⟩ := getF X48 hx hZ hown (host := "") (Or.inl (hw _ (List.mem_of_getElem? (i := 48) rfl))) Via.refl e48 f49 (g := (mkF m 13 #[.val (.ref a1), .val (.ref x2)] [(.ref a1), (.ref x2), (.ref a1)])) rfl rfl (hb hby d9_13)
  refine own_go (st50) ?_
  show own_Go _ _ _ _ T50 (mkF m 16 #[.val (.ref a1), .val (.ref x2)] [(.ref dd), (.ref x2), (.ref a1)])
  refine own_go (fun _ k => XS.aloadN X50.here hx rfl (hb hby d9_16) rfl rfl k) ?_
  show own_Go _ _ _ _ T50 (mkF m 17 #[.val (.ref a1), .val (.ref x2)] [(.ref a1), (.ref dd), (.ref x2), (.ref a1)])
  have f51 := (Fs_a1.other W48 (Or.inr (slot_ne (Or.inl (hw _ (List.mem_of_getElem? (i := 62) rfl))) (Or.inl (hw _ (List.mem_of_getElem? (i := 46) rfl))) (by decide) (t := .int) (t' := .int) (by decide) (by decide))))
  obtain ⟨T52, X52, e52, st52⟩ := getF X50 hx hZ hown (host := "") (Or.inl (hw _ (List.mem_of_getElem? (i := 61) rfl))) Via.refl e50 f51 (g := (mkF m 17 #[.val (.ref a1), .val (.ref x2)] [(.ref a1), (.ref dd), (.ref x2), (.ref a1)])) rfl rfl (hb hby d9_17)
  refine own_go (st52) ?_
  show own_Go _ _ _ _ T52 (mkF m 20 #[.val (.ref a1), .val (.ref x2)] [(.int (0 : Int32)), (.ref dd), (.ref x2), (.ref a1)])
  have f53 := (E_a1.wr W48)
  have f54 := ((Keep.refl h0 [a1]).wr W48 (Or.inl (List.mem_of_getElem? (i := 0) rfl)))
  have f55 := (Nat.le_trans Z0 (Keep.of_wr W48).1)
  have f56 := (O0.wr W48 g_a1)
  have f57 := (E_x2.wr W48)
  obtain ⟨v58, T58, h58, L58, X58, e58, hQ58, st58⟩ := own_callP X52 hx hZ hown (hw _ (List.mem_of_getElem? (i := 63) rfl)) (hw _ (List.mem_of_getElem? (i := 64) rfl)) (hw _ (List.mem_of_getElem? (i := 66) rfl)) (hw _ (List.mem_of_getElem? (i := 65) rfl)) (hw _ (List.mem_of_getElem? (i := 28) rfl)) (hw _ (List.mem_of_getElem? (i := 67) rfl)) (by decide) e52 f53 (argsL := [(.ref x2), (.ref dd), (.int (0 : Int32))]) (rest := []) (rmA3f l Z a0 hw [] a1 (mc + (1 : Int32)) x2 cx dd kd h48 n0 f55 f56 S_d V_d f53 Fw48 f51 f49 g_a1 f57 hcx) 0 (by decide) (by decide) (by decide) (by decide) (g := (mkF m 20 #[.val (.ref a1), .val (.ref x2)] [(.int (0 : Int32)), (.ref dd), (.ref x2), (.ref a1)])) rfl (by rw [hml]; rfl) (lenOf pd4 rfl) rfl (Nat.le_of_eq rfl) (hb hby d9_20)
  obtain ⟨rfl, N58q, t58, k58, K58, E58x, F58m, F58s, F58d, gt58, st58z, V58, O58⟩ := hQ58
  refine own_go (st58) ?_
  have N58 := Fr.app N48 N58q
  show own_Go _ _ _ _ T58 (mkF m 23 #[.val (.ref a1), .val (.ref x2)] [])
  refine own_go (fun _ k => XS.iconst X58.here hx rfl (hb hby d9_23) k) ?_
  show own_Go _ _ _ _ T58 (mkF m 24 #[.val (.ref a1), .val (.ref x2)] [(.int (1 : Int32))])
  have f59 := (f54.trans K58 (allS (Or.inl (List.mem_of_getElem? (i := 0) rfl)) all0))
  exact own_retN X58 hx hret (by simp) hlk (hb hby d9_24) (by decide) (by decide) (by first | exact ⟨rfl, N58, _, _, f59, E58x, F58m, F58s, F58d, gt58, Nat.le_trans f54.1 st58z, V58, O58⟩ | (rw [e58]; exact ⟨rfl, N58, _, _, f59, E58x, F58m, F58s, F58d, gt58, Nat.le_trans f54.1 st58z, V58, O58⟩))
set_option maxRecDepth 65536 in
set_option maxHeartbeats 40000000 in
theorem rmA3n (l : Launch) (Z : State) (a0 : Array Value) (hw : ∀ d ∈ tables_1, d.before a0 Z = true) (ws : List Jvm.Cond) (a1 : Addr) (mc : Int32) (x2 : Addr) (cx : String) (t3 : Addr) (k : ClassId) (vs : List Value) (p4 : Int32) (i : Nat) (h0 : Heap) (n0 : Nat) (Z0 : n0 ≤ h0.size) (O0 : Old Z n0 h0) (E_a1 : Exa Z h0 a1 "java/util/ArrayList") (Fm_a1 : Fld Z h0 a1 "java/util/AbstractList" "modCount" "I" (.int mc)) (Fs_a1 : Fld Z h0 a1 "java/util/ArrayList" "size" "I" (.int p4)) (Fd_a1 : Fld Z h0 a1 "java/util/ArrayList" "elementData" "[Ljava/lang/Object;" (.ref t3)) (g_a1 : n0 ≤ a1) (E_x2 : Exa Z h0 x2 cx) (hcx : (Jvm.Cond.castable cx "java/lang/Object").before a0 Z = true) (V_t3 : Arv Z h0 t3 k (.object "java/lang/Object") (10 : Int32) vs .null) (O_t3 : Ovr Z k "java/lang/Object") (g_t3 : n0 ≤ t3) (ne_t : t3 ≠ a1) (hn : ¬ p4 < 0 ∧ p4 < (10 : Int32)) (hi : p4.toNatClampNeg = i) (hil : i < vs.length) :
    own_Met l (⟨"java/util/ArrayList", "add", "(Ljava/lang/Object;[Ljava/lang/Object;I)V"⟩ : MethodName) jdk_38_method_24_code 4 none ws ({ frames := 0, cells := 0, slots := 0, locals := 0 } : Room) Z #[(.ref a1), (.ref x2), (.ref t3), (.int p4)] h0 (fun v h L => v = none ∧ Fr n0 L ∧ Keep h0 h [a1, t3] ∧ Exa Z h a1 "java/util/ArrayList" ∧ Fld Z h a1 "java/util/AbstractList" "modCount" "I" (.int mc) ∧ Fld Z h a1 "java/util/ArrayList" "size" "I" (.int (p4 + (1 : Int32))) ∧ Fld Z h a1 "java/util/ArrayList" "elementData" "[Ljava/lang/Object;" (.ref t3) ∧ Arv Z h t3 k (.object "java/lang/Object") (10 : Int32) (vs.set i (.ref x2)) .null) := by
  refine own_body (plainFor_of_name (by first | (simp [plainName, overriddenIn]; done) | decide +kernel)) ?_
  intro p e s m below meth c s₁ X0 hx hby hml hown hnm hret hlk hZ e0
  have N0 := Fr.nil n0
  refine own_cast (show entryFrame m #[(.ref a1), (.ref x2), (.ref t3), (.int p4)] 4 = mkF m 0 #[.val (.ref a1), .val (.ref x2), .val (.ref t3), .val (.int p4)] [] from by first | (simp [entryFrame, mkF, argsToLocals, Value.category]; done) | rfl) ?_
  show own_Go _ _ _ _ s₁ (mkF m 0 #[.val (.ref a1), .val (.ref x2), .val (.ref t3), .val (.int p4)] [])
  refine own_go (fun _ k => XS.iloadN X0.here hx rfl (hb hby d10_0) rfl k) ?_
  show own_Go _ _ _ _ s₁ (mkF m 1 #[.val (.ref a1), .val (.ref x2), .val (.ref t3), .val (.int p4)] [(.int p4)])
  refine own_go (fun _ k => XS.aloadN X0.here hx rfl (hb hby d10_1) rfl rfl k) ?_
  show own_Go _ _ _ _ s₁ (mkF m 2 #[.val (.ref a1), .val (.ref x2), .val (.ref t3), .val (.int p4)] [(.ref t3), (.int p4)])
  obtain ⟨cl60, Ar60, q60, S60, M60, H60, G60⟩ := V_t3
  have V60 : Arv Z h0 t3 k (.object "java/lang/Object") (10 : Int32) _ _ := ⟨cl60, Ar60, q60, S60, M60, H60, G60⟩
  refine own_go (fun t k => X0.arraylength hx (by rw [e0]; exact Ar60.1) (State.isArrayOf_alike hZ.alike Ar60.2.1) (g := (mkF m 2 #[.val (.ref a1), .val (.ref x2), .val (.ref t3), .val (.int p4)] [(.ref t3), (.int p4)])) rfl rfl (hb hby d10_2) t k) ?_
  rw [len_of S60 M60]
  show own_Go _ _ _ _ s₁ (mkF m 3 #[.val (.ref a1), .val (.ref x2), .val (.ref t3), .val (.int p4)] [(.int (10 : Int32)), (.int p4)])
  refine own_go (fun _ k => XS.icmpYes X0.here hx rfl (pc0 := 3) (pc' := 11) rfl (hb hby d10_3) rfl (feq (own_ne10 hn.2)).2 (by decide) (by decide) k) ?_
  show own_Go _ _ _ _ s₁ (mkF m 11 #[.val (.ref a1), .val (.ref x2), .val (.ref t3), .val (.int p4)] [])
  refine own_go (fun _ k => XS.aloadN X0.here hx rfl (hb hby d10_11) rfl rfl k) ?_
  show own_Go _ _ _ _ s₁ (mkF m 12 #[.val (.ref a1), .val (.ref x2), .val (.ref t3), .val (.int p4)] [(.ref t3)])
  refine own_go (fun _ k => XS.iloadN X0.here hx rfl (hb hby d10_12) rfl k) ?_
  show own_Go _ _ _ _ s₁ (mkF m 13 #[.val (.ref a1), .val (.ref x2), .val (.ref t3), .val (.int p4)] [(.int p4), (.ref t3)])
  refine own_go (fun _ k => XS.aloadN X0.here hx rfl (hb hby d10_13) rfl rfl k) ?_
  show own_Go _ _ _ _ s₁ (mkF m 14 #[.val (.ref a1), .val (.ref x2), .val (.ref t3), .val (.int p4)] [(.ref x2), (.int p4), (.ref t3)])
  obtain ⟨cl61, Ar61, q61, S61, M61, H61, G61⟩ := V60
  have hin61 : ¬ (p4 < 0 ∨ cl61.slots.size ≤ (p4).toNatClampNeg) := inb_of S61 hn
  have sto61 := Sto.ofV Ar61 q61 O_t3 (Ins.of_exa E_x2 hcx)
  obtain ⟨T61, h61, X61, e61, W61, st61⟩ := stR X0 hx hZ e0 Ar61 (j := p4) hin61 rfl sto61 (g := (mkF m 14 #[.val (.ref a1), .val (.ref x2), .val (.ref t3), .val (.int p4)] [(.ref x2), (.int p4), (.ref t3)])) rfl rfl (hb hby d10_14)
  refine own_go (st61) ?_
  have V61 : Arv Z h61 t3 k (.object "java/lang/Object") (10 : Int32) (vs.set i (.ref x2)) .null := Arv.set Ar61 q61 S61 M61 H61 G61 rfl W61 i hi hil
  have N61 := Fr.snoc X61 N0 g_t3
  show own_Go _ _ _ _ T61 (mkF m 15 #[.val (.ref a1), .val (.ref x2), .val (.ref t3), .val (.int p4)] [])
  refine own_go (fun _ k => XS.aloadN X61.here hx rfl (hb hby d10_15) rfl rfl k) ?_
  show own_Go _ _ _ _ T61 (mkF m 16 #[.val (.ref a1), .val (.ref x2), .val (.ref t3), .val (.int p4)] [(.ref a1)])
  refine own_go (fun _ k => XS.iloadN X61.here hx rfl (hb hby d10_16) rfl k) ?_
  show own_Go _ _ _ _ T61 (mkF m 17 #[.val (.ref a1), .val (.ref x2), .val (.ref t3), .val (.int p4)] [(.int p4), (.ref a1)])
  refine own_go (fun _ k => XS.iconst X61.here hx rfl (hb hby d10_17) k) ?_
  show own_Go _ _ _ _ T61 (mkF m 18 #[.val (.ref a1), .val (.ref x2), .val (.ref t3), .val (.int p4)] [(.int (1 : Int32)), (.int p4), (.ref a1)])
  refine own_go (fun _ k => XS.iadd X61.here hx rfl (hb hby d10_18) rfl k) ?_
  show own_Go _ _ _ _ T61 (mkF m 19 #[.val (.ref a1), .val (.ref x2), .val (.ref t3), .val (.int p4)] [(.int (p4 + (1 : Int32))), (.ref a1)])
  have f63 := (Fs_a1.other W61 (Or.inl (Ne.symm ne_t)))
  have f64 := (E_a1.wr W61)
  obtain ⟨T62, h62, X62, e62, W62, st62⟩ := putF X61 hx hZ hown (host := "") (Or.inl (hw _ (List.mem_of_getElem? (i := 61) rfl))) Via.refl e61 f63 f64 (Or.inl (hw _ (List.mem_of_getElem? (i := 62) rfl))) (hw _ (List.mem_of_getElem? (i := 27) rfl)) (ty := .int) (by decide) rfl rfl (g := (mkF m 19 #[.val (.ref a1), .val (.ref x2), .val (.ref t3), .val (.int p4)] [(.int (p4 + (1 : Int32))), (.ref a1)])) rfl rfl (hb hby d10_19)
  refine own_go (st62) ?_
  have Fw62 := f63.same W62
  have N62 := Fr.snoc X62 N61 g_a1
  show own_Go _ _ _ _ T62 (mkF m 22 #[.val (.ref a1), .val (.ref x2), .val (.ref t3), .val (.int p4)] [])
  have f65 := (((Keep.refl h0 [a1, t3]).wr W61 (Or.inl (List.mem_of_getElem? (i := 1) rfl))).wr W62 (Or.inl (List.mem_of_getElem? (i := 0) rfl)))
  have f66 := (f64.wr W62)
  have f67 := ((Fm_a1.other W61 (Or.inl (Ne.symm ne_t))).other W62 (Or.inr (slot_ne (Or.inl (hw _ (List.mem_of_getElem? (i := 46) rfl))) (Or.inl (hw _ (List.mem_of_getElem? (i := 62) rfl))) (by decide) (t := .int) (t' := .int) (by decide) (by decide))))
  have f68 := ((Fd_a1.other W61 (Or.inl (Ne.symm ne_t))).other W62 (Or.inr (slot_ne (Or.inl (hw _ (List.mem_of_getElem? (i := 49) rfl))) (Or.inl (hw _ (List.mem_of_getElem? (i := 62) rfl))) (by decide) (t := (.array (.object "java/lang/Object"))) (t' := .int) (by decide) (by decide))))
  have f69 := (V61.other W62 ne_t)
  exact own_retV X62 hx hret hlk (hb hby d10_22) (by decide) (by decide) (by first | exact ⟨rfl, N62, f65, f66, f67, Fw62, f68, f69⟩ | (rw [e62]; exact ⟨rfl, N62, f65, f66, f67, Fw62, f68, f69⟩))
set_option maxRecDepth 65536 in
set_option maxHeartbeats 40000000 in
theorem rmAn (l : Launch) (Z : State) (a0 : Array Value) (hw : ∀ d ∈ tables_1, d.before a0 Z = true) (ws : List Jvm.Cond) (a1 : Addr) (mc : Int32) (x2 : Addr) (cx : String) (t3 : Addr) (k : ClassId) (vs : List Value) (p4 : Int32) (i : Nat) (h0 : Heap) (n0 : Nat) (Z0 : n0 ≤ h0.size) (O0 : Old Z n0 h0) (E_a1 : Exa Z h0 a1 "java/util/ArrayList") (Fm_a1 : Fld Z h0 a1 "java/util/AbstractList" "modCount" "I" (.int mc)) (Fs_a1 : Fld Z h0 a1 "java/util/ArrayList" "size" "I" (.int p4)) (Fd_a1 : Fld Z h0 a1 "java/util/ArrayList" "elementData" "[Ljava/lang/Object;" (.ref t3)) (g_a1 : n0 ≤ a1) (E_x2 : Exa Z h0 x2 cx) (hcx : (Jvm.Cond.castable cx "java/lang/Object").before a0 Z = true) (V_t3 : Arv Z h0 t3 k (.object "java/lang/Object") (10 : Int32) vs .null) (O_t3 : Ovr Z k "java/lang/Object") (g_t3 : n0 ≤ t3) (ne_t : t3 ≠ a1) (hn : ¬ p4 < 0 ∧ p4 < (10 : Int32)) (hi : p4.toNatClampNeg = i) (hil : i < vs.length) :
    own_Met l (⟨"java/util/ArrayList", "add", "(Ljava/lang/Object;)Z"⟩ : MethodName) jdk_38_method_25_code 2 (some .boolean) ws ({ frames := 1, cells := 0, slots := 0, locals := 15 } : Room) Z #[(.ref a1), (.ref x2)] h0 (fun v h L => v = some (.int 1) ∧ Fr n0 L ∧ Keep h0 h [a1, t3] ∧ Exa Z h a1 "java/util/ArrayList" ∧ Fld Z h a1 "java/util/AbstractList" "modCount" "I" (.int (mc + (1 : Int32))) ∧ Fld Z h a1 "java/util/ArrayList" "size" "I" (.int (p4 + (1 : Int32))) ∧ Fld Z h a1 "java/util/ArrayList" "elementData" "[Ljava/lang/Object;" (.ref t3) ∧ Arv Z h t3 k (.object "java/lang/Object") (10 : Int32) (vs.set i (.ref x2)) .null) := by
  refine own_body (plainFor_of_name (by first | (simp [plainName, overriddenIn]; done) | decide +kernel)) ?_
  intro p e s m below meth c s₁ X0 hx hby hml hown hnm hret hlk hZ e0
  have N0 := Fr.nil n0
  refine own_cast (show entryFrame m #[(.ref a1), (.ref x2)] 2 = mkF m 0 #[.val (.ref a1), .val (.ref x2)] [] from by first | (simp [entryFrame, mkF, argsToLocals, Value.category]; done) | rfl) ?_
  show own_Go _ _ _ _ s₁ (mkF m 0 #[.val (.ref a1), .val (.ref x2)] [])
  refine own_go (fun _ k => XS.aloadN X0.here hx rfl (hb hby d9_0) rfl rfl k) ?_
  show own_Go _ _ _ _ s₁ (mkF m 1 #[.val (.ref a1), .val (.ref x2)] [(.ref a1)])
  refine own_go (fun _ k => XS.dup X0.here hx rfl (hb hby d9_1) rfl rfl k) ?_
  show own_Go _ _ _ _ s₁ (mkF m 2 #[.val (.ref a1), .val (.ref x2)] [(.ref a1), (.ref a1)])
  obtain ⟨T70, X70, e70, st70⟩ := getF X0 hx hZ hown (host := "") (Or.inl (hw _ (List.mem_of_getElem? (i := 59) rfl))) (Via.of (hw _ (List.mem_of_getElem? (i := 60) rfl))) e0 Fm_a1 (g := (mkF m 2 #[.val (.ref a1), .val (.ref x2)] [(.ref a1), (.ref a1)])) rfl rfl (hb hby d9_2)
  refine own_go (st70) ?_
  show own_Go _ _ _ _ T70 (mkF m 5 #[.val (.ref a1), .val (.ref x2)] [(.int mc), (.ref a1)])
  refine own_go (fun _ k => XS.iconst X70.here hx rfl (hb hby d9_5) k) ?_
  show own_Go _ _ _ _ T70 (mkF m 6 #[.val (.ref a1), .val (.ref x2)] [(.int (1 : Int32)), (.int mc), (.ref a1)])
  refine own_go (fun _ k => XS.iadd X70.here hx rfl (hb hby d9_6) rfl k) ?_
  show own_Go _ _ _ _ T70 (mkF m 7 #[.val (.ref a1), .val (.ref x2)] [(.int (mc + (1 : Int32))), (.ref a1)])
  obtain ⟨T71, h71, X71, e71, W71, st71⟩ := putF X70 hx hZ hown (host := "") (Or.inl (hw _ (List.mem_of_getElem? (i := 59) rfl))) (Via.of (hw _ (List.mem_of_getElem? (i := 60) rfl))) e70 Fm_a1 E_a1 (Or.inl (hw _ (List.mem_of_getElem? (i := 46) rfl))) (hw _ (List.mem_of_getElem? (i := 27) rfl)) (ty := .int) (by decide) rfl rfl (g := (mkF m 7 #[.val (.ref a1), .val (.ref x2)] [(.int (mc + (1 : Int32))), (.ref a1)])) rfl rfl (hb hby d9_7)
  refine own_go (st71) ?_
  have Fw71 := Fm_a1.same W71
  have N71 := Fr.snoc X71 N0 g_a1
  show own_Go _ _ _ _ T71 (mkF m 10 #[.val (.ref a1), .val (.ref x2)] [])
  refine own_go (fun _ k => XS.aloadN X71.here hx rfl (hb hby d9_10) rfl rfl k) ?_
  show own_Go _ _ _ _ T71 (mkF m 11 #[.val (.ref a1), .val (.ref x2)] [(.ref a1)])
  refine own_go (fun _ k => XS.aloadN X71.here hx rfl (hb hby d9_11) rfl rfl k) ?_
  show own_Go _ _ _ _ T71 (mkF m 12 #[.val (.ref a1), .val (.ref x2)] [(.ref x2), (.ref a1)])
  refine own_go (fun _ k => XS.aloadN X71.here hx rfl (hb hby d9_12) rfl rfl k) ?_
  show own_Go _ _ _ _ T71 (mkF m 13 #[.val (.ref a1), .val (.ref x2)] [(.ref a1), (.ref x2), (.ref a1)])
  have f72 := (Fd_a1.other W71 (Or.inr (slot_ne (Or.inl (hw _ (List.mem_of_getElem? (i := 49) rfl))) (Or.inl (hw _ (List.mem_of_getElem? (i := 46) rfl))) (by decide) (t := (.array (.object "java/lang/Object"))) (t' := .int) (by decide) (by decide))))
  obtain ⟨T73, X73, e73, st73⟩ := getF X71 hx hZ hown (host := "") (Or.inl (hw _ (List.mem_of_getElem? (i := 48) rfl))) Via.refl e71 f72 (g := (mkF m 13 #[.val (.ref a1), .val (.ref x2)] [(.ref a1), (.ref x2), (.ref a1)])) rfl rfl (hb hby d9_13)
  refine own_go (st73) ?_
  show own_Go _ _ _ _ T73 (mkF m 16 #[.val (.ref a1), .val (.ref x2)] [(.ref t3), (.ref x2), (.ref a1)])
  refine own_go (fun _ k => XS.aloadN X73.here hx rfl (hb hby d9_16) rfl rfl k) ?_
  show own_Go _ _ _ _ T73 (mkF m 17 #[.val (.ref a1), .val (.ref x2)] [(.ref a1), (.ref t3), (.ref x2), (.ref a1)])
  have f74 := (Fs_a1.other W71 (Or.inr (slot_ne (Or.inl (hw _ (List.mem_of_getElem? (i := 62) rfl))) (Or.inl (hw _ (List.mem_of_getElem? (i := 46) rfl))) (by decide) (t := .int) (t' := .int) (by decide) (by decide))))
  obtain ⟨T75, X75, e75, st75⟩ := getF X73 hx hZ hown (host := "") (Or.inl (hw _ (List.mem_of_getElem? (i := 61) rfl))) Via.refl e73 f74 (g := (mkF m 17 #[.val (.ref a1), .val (.ref x2)] [(.ref a1), (.ref t3), (.ref x2), (.ref a1)])) rfl rfl (hb hby d9_17)
  refine own_go (st75) ?_
  show own_Go _ _ _ _ T75 (mkF m 20 #[.val (.ref a1), .val (.ref x2)] [(.int p4), (.ref t3), (.ref x2), (.ref a1)])
  have f76 := (E_a1.wr W71)
  have f77 := (V_t3.other W71 ne_t)
  have f78 := (Nat.le_trans Z0 (Keep.of_wr W71).1)
  have f79 := (O0.wr W71 g_a1)
  have f80 := (E_x2.wr W71)
  obtain ⟨v81, T81, h81, L81, X81, e81, hQ81, st81⟩ := own_callP X75 hx hZ hown (hw _ (List.mem_of_getElem? (i := 63) rfl)) (hw _ (List.mem_of_getElem? (i := 64) rfl)) (hw _ (List.mem_of_getElem? (i := 66) rfl)) (hw _ (List.mem_of_getElem? (i := 65) rfl)) (hw _ (List.mem_of_getElem? (i := 28) rfl)) (hw _ (List.mem_of_getElem? (i := 67) rfl)) (by decide) e75 f76 (argsL := [(.ref x2), (.ref t3), (.int p4)]) (rest := []) (rmA3n l Z a0 hw [] a1 (mc + (1 : Int32)) x2 cx t3 k vs p4 i h71 n0 f78 f79 f76 Fw71 f74 f72 g_a1 f80 hcx f77 O_t3 g_t3 ne_t hn hi hil) 0 (by decide) (by decide) (by decide) (by decide) (g := (mkF m 20 #[.val (.ref a1), .val (.ref x2)] [(.int p4), (.ref t3), (.ref x2), (.ref a1)])) rfl (by rw [hml]; rfl) (lenOf pd4 rfl) rfl (Nat.le_of_eq rfl) (hb hby d9_20)
  obtain ⟨rfl, N81q, K81, E81x, F81m, F81s, F81d, V81⟩ := hQ81
  refine own_go (st81) ?_
  have N81 := Fr.app N71 N81q
  show own_Go _ _ _ _ T81 (mkF m 23 #[.val (.ref a1), .val (.ref x2)] [])
  refine own_go (fun _ k => XS.iconst X81.here hx rfl (hb hby d9_23) k) ?_
  show own_Go _ _ _ _ T81 (mkF m 24 #[.val (.ref a1), .val (.ref x2)] [(.int (1 : Int32))])
  have f82 := (((Keep.refl h0 [a1, t3]).wr W71 (Or.inl (List.mem_of_getElem? (i := 0) rfl))).trans K81 (allS (Or.inl (List.mem_of_getElem? (i := 0) rfl)) (allS (Or.inl (List.mem_of_getElem? (i := 1) rfl)) all0)))
  exact own_retN X81 hx hret (by simp) hlk (hb hby d9_24) (by decide) (by decide) (by first | exact ⟨rfl, N81, f82, E81x, F81m, F81s, F81d, V81⟩ | (rw [e81]; exact ⟨rfl, N81, f82, E81x, F81m, F81s, F81d, V81⟩))
set_option maxRecDepth 65536 in
set_option maxHeartbeats 40000000 in
theorem rmPC (l : Launch) (Z : State) (a0 : Array Value) (hw : ∀ d ∈ tables_1, d.before a0 Z = true) (ws : List Jvm.Cond) (p1 p2 : Int32) (h0 : Heap) (n0 : Nat) (Z0 : n0 ≤ h0.size) (h1 : ¬ p1 < (0 : Int32)) (h2 : p1 < p2) :
    own_Met l (⟨"jdk/internal/util/Preconditions", "checkIndex", "(IILjava/util/function/BiFunction;)I"⟩ : MethodName) jdk_41_method_11_code 3 (some .int) ws ({ frames := 0, cells := 0, slots := 0, locals := 0 } : Room) Z #[(.int p1), (.int p2), .null] h0 (fun v h L => v = some (.int p1) ∧ Fr n0 L ∧ h0 = h) := by
  refine own_body (plainFor_of_name (by first | (simp [plainName, overriddenIn]; done) | decide +kernel)) ?_
  intro p e s m below meth c s₁ X0 hx hby hml hown hnm hret hlk hZ e0
  have N0 := Fr.nil n0
  refine own_cast (show entryFrame m #[(.int p1), (.int p2), .null] 3 = mkF m 0 #[.val (.int p1), .val (.int p2), .val .null] [] from by first | (simp [entryFrame, mkF, argsToLocals, Value.category]; done) | rfl) ?_
  show own_Go _ _ _ _ s₁ (mkF m 0 #[.val (.int p1), .val (.int p2), .val .null] [])
  refine own_go (fun _ k => XS.iloadN X0.here hx rfl (hb hby d19_0) rfl k) ?_
  show own_Go _ _ _ _ s₁ (mkF m 1 #[.val (.int p1), .val (.int p2), .val .null] [(.int p1)])
  refine own_go (fun _ k => XS.ifNo X0.here hx rfl (hb hby d19_1) rfl ((if0 _ _).trans (flt h1).1) k) ?_
  show own_Go _ _ _ _ s₁ (mkF m 4 #[.val (.int p1), .val (.int p2), .val .null] [])
  refine own_go (fun _ k => XS.iloadN X0.here hx rfl (hb hby d19_4) rfl k) ?_
  show own_Go _ _ _ _ s₁ (mkF m 5 #[.val (.int p1), .val (.int p2), .val .null] [(.int p1)])
  refine own_go (fun _ k => XS.iloadN X0.here hx rfl (hb hby d19_5) rfl k) ?_
  show own_Go _ _ _ _ s₁ (mkF m 6 #[.val (.int p1), .val (.int p2), .val .null] [(.int p2), (.int p1)])
  refine own_go (fun _ k => XS.icmpYes X0.here hx rfl (pc0 := 6) (pc' := 16) rfl (hb hby d19_6) rfl (tlt h2).1 (by decide) (by decide) k) ?_
  show own_Go _ _ _ _ s₁ (mkF m 16 #[.val (.int p1), .val (.int p2), .val .null] [])
  refine own_go (fun _ k => XS.iloadN X0.here hx rfl (hb hby d19_16) rfl k) ?_
  show own_Go _ _ _ _ s₁ (mkF m 17 #[.val (.int p1), .val (.int p2), .val .null] [(.int p1)])
  exact own_retI X0 hx hret hlk (hb hby d19_17) (by decide) (by decide) (by first | exact ⟨rfl, N0, rfl⟩ | (rw [e0]; exact ⟨rfl, N0, rfl⟩))
set_option maxRecDepth 65536 in
set_option maxHeartbeats 40000000 in
theorem rmOC (l : Launch) (Z : State) (a0 : Array Value) (hw : ∀ d ∈ tables_1, d.before a0 Z = true) (ws : List Jvm.Cond) (p1 p2 : Int32) (h0 : Heap) (n0 : Nat) (Z0 : n0 ≤ h0.size) (h1 : ¬ p1 < (0 : Int32)) (h2 : p1 < p2) :
    own_Met l (⟨"java/util/Objects", "checkIndex", "(II)I"⟩ : MethodName) jdk_31_method_17_code 2 (some .int) ws ({ frames := 1, cells := 0, slots := 0, locals := 14 } : Room) Z #[(.int p1), (.int p2)] h0 (fun v h L => v = some (.int p1) ∧ Fr n0 L ∧ h0 = h) := by
  refine own_body (plainFor_of_name (by first | (simp [plainName, overriddenIn]; done) | decide +kernel)) ?_
  intro p e s m below meth c s₁ X0 hx hby hml hown hnm hret hlk hZ e0
  have N0 := Fr.nil n0
  refine own_cast (show entryFrame m #[(.int p1), (.int p2)] 2 = mkF m 0 #[.val (.int p1), .val (.int p2)] [] from by first | (simp [entryFrame, mkF, argsToLocals, Value.category]; done) | rfl) ?_
  show own_Go _ _ _ _ s₁ (mkF m 0 #[.val (.int p1), .val (.int p2)] [])
  refine own_go (fun _ k => XS.iloadN X0.here hx rfl (hb hby d18_0) rfl k) ?_
  show own_Go _ _ _ _ s₁ (mkF m 1 #[.val (.int p1), .val (.int p2)] [(.int p1)])
  refine own_go (fun _ k => XS.iloadN X0.here hx rfl (hb hby d18_1) rfl k) ?_
  show own_Go _ _ _ _ s₁ (mkF m 2 #[.val (.int p1), .val (.int p2)] [(.int p2), (.int p1)])
  refine own_go (fun _ k => XS.aconstNull X0.here hx rfl (hb hby d18_2) k) ?_
  show own_Go _ _ _ _ s₁ (mkF m 3 #[.val (.int p1), .val (.int p2)] [.null, (.int p2), (.int p1)])
  obtain ⟨v83, T83, h83, L83, X83, e83, hQ83, st83⟩ := own_callS X0 hx hZ hown (hw _ (List.mem_of_getElem? (i := 122) rfl)) (hw _ (List.mem_of_getElem? (i := 123) rfl)) (hw _ (List.mem_of_getElem? (i := 124) rfl)) (hw _ (List.mem_of_getElem? (i := 125) rfl)) (by decide) e0 (argsL := [(.int p1), (.int p2), .null]) (rest := []) (rmPC l Z a0 hw [] p1 p2 h0 n0 Z0 h1 h2) 0 (by decide) (by decide) (by decide) (by decide) (g := (mkF m 3 #[.val (.int p1), .val (.int p2)] [.null, (.int p2), (.int p1)])) rfl (by rw [hml]; rfl) (lenOf pd5 rfl) rfl (Nat.le_of_eq rfl) (hb hby d18_3)
  obtain ⟨rfl, N83q, rfl⟩ := hQ83
  refine own_go (st83) ?_
  have N83 := Fr.app N0 N83q
  show own_Go _ _ _ _ T83 (mkF m 6 #[.val (.int p1), .val (.int p2)] [(.int p1)])
  exact own_retI X83 hx hret hlk (hb hby d18_6) (by decide) (by decide) (by first | exact ⟨rfl, N83, rfl⟩ | (rw [e83]; exact ⟨rfl, N83, rfl⟩))
set_option maxRecDepth 65536 in
set_option maxHeartbeats 40000000 in
theorem rmED (l : Launch) (Z : State) (a0 : Array Value) (hw : ∀ d ∈ tables_1, d.before a0 Z = true) (ws : List Jvm.Cond) (a1 : Addr) (p2 : Int32) (t3 : Addr) (k : ClassId) (vs : List Value) (y : Addr) (h0 : Heap) (n0 : Nat) (Z0 : n0 ≤ h0.size) (Fd_a1 : Fld Z h0 a1 "java/util/ArrayList" "elementData" "[Ljava/lang/Object;" (.ref t3)) (V_t3 : Arv Z h0 t3 k (.object "java/lang/Object") (10 : Int32) vs .null) (h1 : ¬ p2 < (0 : Int32)) (h2 : p2 < (10 : Int32)) (hy : vs.getD p2.toNatClampNeg .null = .ref y) :
    own_Met l (⟨"java/util/ArrayList", "elementData", "(I)Ljava/lang/Object;"⟩ : MethodName) jdk_38_method_18_code 2 (some (.object "java/lang/Object")) ws ({ frames := 0, cells := 0, slots := 0, locals := 0 } : Room) Z #[(.ref a1), (.int p2)] h0 (fun v h L => v = some (.ref y) ∧ Fr n0 L ∧ h0 = h) := by
  refine own_body (plainFor_of_name (by first | (simp [plainName, overriddenIn]; done) | decide +kernel)) ?_
  intro p e s m below meth c s₁ X0 hx hby hml hown hnm hret hlk hZ e0
  have N0 := Fr.nil n0
  refine own_cast (show entryFrame m #[(.ref a1), (.int p2)] 2 = mkF m 0 #[.val (.ref a1), .val (.int p2)] [] from by first | (simp [entryFrame, mkF, argsToLocals, Value.category]; done) | rfl) ?_
  show own_Go _ _ _ _ s₁ (mkF m 0 #[.val (.ref a1), .val (.int p2)] [])
  refine own_go (fun _ k => XS.aloadN X0.here hx rfl (hb hby d20_0) rfl rfl k) ?_
  show own_Go _ _ _ _ s₁ (mkF m 1 #[.val (.ref a1), .val (.int p2)] [(.ref a1)])
  obtain ⟨T84, X84, e84, st84⟩ := getF X0 hx hZ hown (host := "") (Or.inl (hw _ (List.mem_of_getElem? (i := 48) rfl))) Via.refl e0 Fd_a1 (g := (mkF m 1 #[.val (.ref a1), .val (.int p2)] [(.ref a1)])) rfl rfl (hb hby d20_1)
  refine own_go (st84) ?_
  show own_Go _ _ _ _ T84 (mkF m 4 #[.val (.ref a1), .val (.int p2)] [(.ref t3)])
  refine own_go (fun _ k => XS.iloadN X84.here hx rfl (hb hby d20_4) rfl k) ?_
  show own_Go _ _ _ _ T84 (mkF m 5 #[.val (.ref a1), .val (.int p2)] [(.int p2), (.ref t3)])
  obtain ⟨cl85, Ar85, q85, S85, M85, H85, G85⟩ := V_t3
  have V85 : Arv Z h0 t3 k (.object "java/lang/Object") (10 : Int32) _ _ := ⟨cl85, Ar85, q85, S85, M85, H85, G85⟩
  have hin85 : ¬ (p2 < 0 ∨ cl85.slots.size ≤ (p2).toNatClampNeg) := inb_of S85 ⟨h1, h2⟩
  have hat85 : cl85.slots[(p2).toNatClampNeg]? = some (.ref y) := H85.at hin85 hy
  refine own_go (X84.aaload hx (j := p2) (v := (.ref y)) (by rw [e84]; exact Ar85.1) (State.isArrayOf_alike hZ.alike Ar85.2.1) rfl Ar85.2.2 hin85 hat85 (g := (mkF m 5 #[.val (.ref a1), .val (.int p2)] [(.int p2), (.ref t3)])) rfl rfl (hb hby d20_5)) ?_
  show own_Go _ _ _ _ T84 (mkF m 6 #[.val (.ref a1), .val (.int p2)] [(.ref y)])
  exact own_retR X84 hx hret rfl rfl hlk (hb hby d20_6) (by decide) (by decide) (by first | exact ⟨rfl, N0, rfl⟩ | (rw [e84]; exact ⟨rfl, N0, rfl⟩))
set_option maxRecDepth 65536 in
set_option maxHeartbeats 40000000 in
theorem rmGet (l : Launch) (Z : State) (a0 : Array Value) (hw : ∀ d ∈ tables_1, d.before a0 Z = true) (ws : List Jvm.Cond) (a1 : Addr) (p2 : Int32) (t3 : Addr) (k : ClassId) (vs : List Value) (y : Addr) (nn : Int32) (h0 : Heap) (n0 : Nat) (Z0 : n0 ≤ h0.size) (E_a1 : Exa Z h0 a1 "java/util/ArrayList") (Fs_a1 : Fld Z h0 a1 "java/util/ArrayList" "size" "I" (.int nn)) (h3 : p2 < nn) (Fd_a1 : Fld Z h0 a1 "java/util/ArrayList" "elementData" "[Ljava/lang/Object;" (.ref t3)) (V_t3 : Arv Z h0 t3 k (.object "java/lang/Object") (10 : Int32) vs .null) (h1 : ¬ p2 < (0 : Int32)) (h2 : p2 < (10 : Int32)) (hy : vs.getD p2.toNatClampNeg .null = .ref y) :
    own_Met l (⟨"java/util/ArrayList", "get", "(I)Ljava/lang/Object;"⟩ : MethodName) jdk_38_method_20_code 2 (some (.object "java/lang/Object")) ws ({ frames := 2, cells := 0, slots := 0, locals := 27 } : Room) Z #[(.ref a1), (.int p2)] h0 (fun v h L => v = some (.ref y) ∧ Fr n0 L ∧ h0 = h) := by
  refine own_body (plainFor_of_name (by first | (simp [plainName, overriddenIn]; done) | decide +kernel)) ?_
  intro p e s m below meth c s₁ X0 hx hby hml hown hnm hret hlk hZ e0
  have N0 := Fr.nil n0
  refine own_cast (show entryFrame m #[(.ref a1), (.int p2)] 2 = mkF m 0 #[.val (.ref a1), .val (.int p2)] [] from by first | (simp [entryFrame, mkF, argsToLocals, Value.category]; done) | rfl) ?_
  show own_Go _ _ _ _ s₁ (mkF m 0 #[.val (.ref a1), .val (.int p2)] [])
  refine own_go (fun _ k => XS.iloadN X0.here hx rfl (hb hby d17_0) rfl k) ?_
  show own_Go _ _ _ _ s₁ (mkF m 1 #[.val (.ref a1), .val (.int p2)] [(.int p2)])
  refine own_go (fun _ k => XS.aloadN X0.here hx rfl (hb hby d17_1) rfl rfl k) ?_
  show own_Go _ _ _ _ s₁ (mkF m 2 #[.val (.ref a1), .val (.int p2)] [(.ref a1), (.int p2)])
  obtain ⟨T86, X86, e86, st86⟩ := getF X0 hx hZ hown (host := "") (Or.inl (hw _ (List.mem_of_getElem? (i := 61) rfl))) Via.refl e0 Fs_a1 (g := (mkF m 2 #[.val (.ref a1), .val (.int p2)] [(.ref a1), (.int p2)])) rfl rfl (hb hby d17_2)
  refine own_go (st86) ?_
  show own_Go _ _ _ _ T86 (mkF m 5 #[.val (.ref a1), .val (.int p2)] [(.int nn), (.int p2)])
  obtain ⟨v87, T87, h87, L87, X87, e87, hQ87, st87⟩ := own_callS X86 hx hZ hown (hw _ (List.mem_of_getElem? (i := 118) rfl)) (hw _ (List.mem_of_getElem? (i := 119) rfl)) (hw _ (List.mem_of_getElem? (i := 120) rfl)) (hw _ (List.mem_of_getElem? (i := 121) rfl)) (by decide) e86 (argsL := [(.int p2), (.int nn)]) (rest := []) (rmOC l Z a0 hw [] p2 nn h0 n0 Z0 h1 h3) 0 (by decide) (by decide) (by decide) (by decide) (g := (mkF m 5 #[.val (.ref a1), .val (.int p2)] [(.int nn), (.int p2)])) rfl (by rw [hml]; rfl) (lenOf pd1 rfl) rfl (Nat.le_of_eq rfl) (hb hby d17_5)
  obtain ⟨rfl, N87q, rfl⟩ := hQ87
  refine own_go (st87) ?_
  have N87 := Fr.app N0 N87q
  show own_Go _ _ _ _ T87 (mkF m 8 #[.val (.ref a1), .val (.int p2)] [(.int p2)])
  refine own_go (fun _ k => XS.pop X87.here hx rfl (hb hby d17_8) rfl rfl k) ?_
  show own_Go _ _ _ _ T87 (mkF m 9 #[.val (.ref a1), .val (.int p2)] [])
  refine own_go (fun _ k => XS.aloadN X87.here hx rfl (hb hby d17_9) rfl rfl k) ?_
  show own_Go _ _ _ _ T87 (mkF m 10 #[.val (.ref a1), .val (.int p2)] [(.ref a1)])
  refine own_go (fun _ k => XS.iloadN X87.here hx rfl (hb hby d17_10) rfl k) ?_
  show own_Go _ _ _ _ T87 (mkF m 11 #[.val (.ref a1), .val (.int p2)] [(.int p2), (.ref a1)])
  obtain ⟨v88, T88, h88, L88, X88, e88, hQ88, st88⟩ := own_callV X87 hx hZ hown (hw _ (List.mem_of_getElem? (i := 126) rfl)) (hw _ (List.mem_of_getElem? (i := 127) rfl)) (hw _ (List.mem_of_getElem? (i := 129) rfl)) (notFace_of_selects (args := #[]) (mvT hZ (hw _ (List.mem_of_getElem? (i := 129) rfl)))) (hw _ (List.mem_of_getElem? (i := 128) rfl)) (hw _ (List.mem_of_getElem? (i := 28) rfl)) (hw _ (List.mem_of_getElem? (i := 130) rfl)) (by decide) e87 E_a1 (argsL := [(.int p2)]) (rest := []) (rmED l Z a0 hw [] a1 p2 t3 k vs y h0 n0 Z0 Fd_a1 V_t3 h1 h2 hy) 0 (by decide) (by decide) (by decide) (by decide) (g := (mkF m 11 #[.val (.ref a1), .val (.int p2)] [(.int p2), (.ref a1)])) rfl (by rw [hml]; rfl) (lenOf pd6 rfl) rfl (Nat.le_of_eq rfl) (hb hby d17_11)
  obtain ⟨rfl, N88q, rfl⟩ := hQ88
  refine own_go (st88) ?_
  have N88 := Fr.app N87 N88q
  show own_Go _ _ _ _ T88 (mkF m 14 #[.val (.ref a1), .val (.int p2)] [(.ref y)])
  exact own_retR X88 hx hret rfl rfl hlk (hb hby d17_14) (by decide) (by decide) (by first | exact ⟨rfl, N88, rfl⟩ | (rw [e88]; exact ⟨rfl, N88, rfl⟩))
set_option maxRecDepth 65536 in
set_option maxHeartbeats 40000000 in
theorem rmCE (l : Launch) (Z : State) (a0 : Array Value) (hw : ∀ d ∈ tables_1, d.before a0 Z = true) (ws : List Jvm.Cond) (p1 : Int32) (h0 : Heap) (n0 : Nat) (Z0 : n0 ≤ h0.size) (h1 : ¬ (255 : Int32) < p1) :
    own_Met l (⟨"java/lang/StringLatin1", "canEncode", "(C)Z"⟩ : MethodName) jdk_43_method_3_code 1 (some .boolean) ws ({ frames := 0, cells := 0, slots := 0, locals := 0 } : Room) Z #[(.int p1)] h0 (fun v h L => v = some (.int 1) ∧ Fr n0 L ∧ h0 = h) := by
  refine own_body (plainFor_of_name (by first | (simp [plainName, overriddenIn]; done) | decide +kernel)) ?_
  intro p e s m below meth c s₁ X0 hx hby hml hown hnm hret hlk hZ e0
  have N0 := Fr.nil n0
  refine own_cast (show entryFrame m #[(.int p1)] 1 = mkF m 0 #[.val (.int p1)] [] from by first | (simp [entryFrame, mkF, argsToLocals, Value.category]; done) | rfl) ?_
  show own_Go _ _ _ _ s₁ (mkF m 0 #[.val (.int p1)] [])
  refine own_go (fun _ k => XS.iloadN X0.here hx rfl (hb hby d2_0) rfl k) ?_
  show own_Go _ _ _ _ s₁ (mkF m 1 #[.val (.int p1)] [(.int p1)])
  refine own_go (fun _ k => XS.sipush X0.here hx rfl (hb hby d2_1) k) ?_
  show own_Go _ _ _ _ s₁ (mkF m 4 #[.val (.int p1)] [(.int (255 : Int32)), (.int p1)])
  refine own_go (fun _ k => XS.icmpNo X0.here hx rfl (hb hby d2_4) rfl (flt h1).2.2.1 k) ?_
  show own_Go _ _ _ _ s₁ (mkF m 7 #[.val (.int p1)] [])
  refine own_go (fun _ k => XS.iconst X0.here hx rfl (hb hby d2_7) k) ?_
  show own_Go _ _ _ _ s₁ (mkF m 8 #[.val (.int p1)] [(.int (1 : Int32))])
  refine own_go (fun _ k => XS.goto X0.here hx rfl (pc0 := 8) (pc' := 12) rfl (hb hby d2_8) (by decide) (by decide) k) ?_
  show own_Go _ _ _ _ s₁ (mkF m 12 #[.val (.int p1)] [(.int (1 : Int32))])
  exact own_retN X0 hx hret (by simp) hlk (hb hby d2_12) (by decide) (by decide) (by first | exact ⟨rfl, N0, rfl⟩ | (rw [e0]; exact ⟨rfl, N0, rfl⟩))
set_option maxRecDepth 65536 in
set_option maxHeartbeats 40000000 in
theorem rmTB (l : Launch) (Z : State) (a0 : Array Value) (hw : ∀ d ∈ tables_1, d.before a0 Z = true) (ws : List Jvm.Cond) (p1 : Int32) (h0 : Heap) (n0 : Nat) (Z0 : n0 ≤ h0.size) :
    own_Met l (⟨"java/lang/StringLatin1", "toBytes", "(C)[B"⟩ : MethodName) jdk_43_method_46_code 1 (some (.array .byte)) ws ({ frames := 0, cells := 1, slots := 1, locals := 0 } : Room) Z #[(.int p1)] h0 (fun v h L => ∃ b : Addr, v = some (.ref b) ∧ Fr n0 L ∧ Keep h0 h []) := by
  refine own_body (plainFor_of_name (by first | (simp [plainName, overriddenIn]; done) | decide +kernel)) ?_
  intro p e s m below meth c s₁ X0 hx hby hml hown hnm hret hlk hZ e0
  have N0 := Fr.nil n0
  refine own_cast (show entryFrame m #[(.int p1)] 1 = mkF m 0 #[.val (.int p1)] [] from by first | (simp [entryFrame, mkF, argsToLocals, Value.category]; done) | rfl) ?_
  show own_Go _ _ _ _ s₁ (mkF m 0 #[.val (.int p1)] [])
  refine own_go (fun _ k => XS.iconst X0.here hx rfl (hb hby d3_0) k) ?_
  show own_Go _ _ _ _ s₁ (mkF m 1 #[.val (.int p1)] [(.int (1 : Int32))])
  obtain ⟨T89, h89, k89, X89, e89, E89, A89, st89⟩ := newP X0 hx hZ (hw _ (List.mem_of_getElem? (i := 14) rfl)) e0 (g := (mkF m 1 #[.val (.int p1)] [(.int (1 : Int32))])) rfl (hb hby d3_1) rfl (by decide) (cap := 1) (by decide) (by decide) (by decide) (by decide)
  obtain ⟨b89, g89⟩ : ∃ z, z = h0.size := ⟨_, rfl⟩
  rw [← g89] at A89 st89
  refine own_go (st89) ?_
  have g_b89 : n0 ≤ b89 := Nat.le_trans Z0 (Nat.le_of_eq g89.symm)
  have sz_b89 : h0.size ≤ b89 := Nat.le_trans (Keep.refl h0 []).1 (Nat.le_of_eq g89.symm)
  have V89 : Arv Z h89 b89 k89 .byte (1 : Int32) [(.int (0 : Int32))] (.int (0 : Int32)) := (Arv.new A89 (by decide)).pad (pad_rep [] (.int (0 : Int32)) 1)
  show own_Go _ _ _ _ T89 (mkF m 3 #[.val (.int p1)] [(.ref b89)])
  refine own_go (fun _ k => XS.dup X89.here hx rfl (hb hby d3_3) rfl rfl k) ?_
  show own_Go _ _ _ _ T89 (mkF m 4 #[.val (.int p1)] [(.ref b89), (.ref b89)])
  refine own_go (fun _ k => XS.iconst X89.here hx rfl (hb hby d3_4) k) ?_
  show own_Go _ _ _ _ T89 (mkF m 5 #[.val (.int p1)] [(.int (0 : Int32)), (.ref b89), (.ref b89)])
  refine own_go (fun _ k => XS.iloadN X89.here hx rfl (hb hby d3_5) rfl k) ?_
  show own_Go _ _ _ _ T89 (mkF m 6 #[.val (.int p1)] [(.int p1), (.int (0 : Int32)), (.ref b89), (.ref b89)])
  refine own_go (fun _ k => XS.i2b X89.here hx rfl (hb hby d3_6) rfl k) ?_
  show own_Go _ _ _ _ T89 (mkF m 7 #[.val (.int p1)] [(.int (p1).toInt8.toInt32), (.int (0 : Int32)), (.ref b89), (.ref b89)])
  obtain ⟨cl90, Ar90, q90, S90, M90, H90, G90⟩ := V89
  have hin90 : ¬ ((0 : Int32) < 0 ∨ cl90.slots.size ≤ ((0 : Int32)).toNatClampNeg) := inb_of S90 ⟨by decide, by decide⟩
  obtain ⟨T90, h90, X90, e90, W90, st90⟩ := stB X89 hx hZ e89 Ar90 (j := (0 : Int32)) hin90 (g := (mkF m 7 #[.val (.int p1)] [(.int (p1).toInt8.toInt32), (.int (0 : Int32)), (.ref b89), (.ref b89)])) rfl rfl (hb hby d3_7)
  refine own_go (st90) ?_
  have V90 : Arv Z h90 b89 k89 .byte (1 : Int32) [(.int (nar .byte (p1).toInt8.toInt32))] (.int (0 : Int32)) := Arv.set Ar90 q90 S90 M90 H90 G90 (fits_nar_byte _) W90 0 rfl (Nat.le_of_ble_eq_true rfl)
  have N90 := Fr.snoc X90 N0 g_b89
  show own_Go _ _ _ _ T90 (mkF m 8 #[.val (.int p1)] [(.ref b89)])
  have f91 := (((Keep.refl h0 []).ext E89).wr W90 (Or.inr sz_b89))
  exact own_retR X90 hx hret rfl rfl hlk (hb hby d3_8) (by decide) (by decide) (by first | exact ⟨_, rfl, N90, f91⟩ | (rw [e90]; exact ⟨_, rfl, N90, f91⟩))
set_option maxRecDepth 65536 in
set_option maxHeartbeats 40000000 in
theorem rmSI (l : Launch) (Z : State) (a0 : Array Value) (hw : ∀ d ∈ tables_1, d.before a0 Z = true) (ws : List Jvm.Cond) (a1 a2 : Addr) (p3 : Int32) (h0 : Heap) (n0 : Nat) (Z0 : n0 ≤ h0.size) (E_a1 : Exa Z h0 a1 "java/lang/String") (Fv : Fld Z h0 a1 "java/lang/String" "value" "[B" .null) (Fc : Fld Z h0 a1 "java/lang/String" "coder" "B" (.int (0 : Int32))) (g_a1 : n0 ≤ a1) :
    own_Met l (⟨"java/lang/String", "<init>", "([BB)V"⟩ : MethodName) jdk_42_method_151_code 3 none ws ({ frames := 1, cells := 0, slots := 0, locals := 12 } : Room) Z #[(.ref a1), (.ref a2), (.int p3)] h0 (fun v h L => v = none ∧ Fr n0 L ∧ Keep h0 h [a1] ∧ Exa Z h a1 "java/lang/String") := by
  refine own_body (plainFor_of_name (by first | (simp [plainName, overriddenIn]; done) | decide +kernel)) ?_
  intro p e s m below meth c s₁ X0 hx hby hml hown hnm hret hlk hZ e0
  have N0 := Fr.nil n0
  refine own_cast (show entryFrame m #[(.ref a1), (.ref a2), (.int p3)] 3 = mkF m 0 #[.val (.ref a1), .val (.ref a2), .val (.int p3)] [] from by first | (simp [entryFrame, mkF, argsToLocals, Value.category]; done) | rfl) ?_
  show own_Go _ _ _ _ s₁ (mkF m 0 #[.val (.ref a1), .val (.ref a2), .val (.int p3)] [])
  refine own_go (fun _ k => XS.aloadN X0.here hx rfl (hb hby d4_0) rfl rfl k) ?_
  show own_Go _ _ _ _ s₁ (mkF m 1 #[.val (.ref a1), .val (.ref a2), .val (.int p3)] [(.ref a1)])
  obtain ⟨T92, X92, e92, st92⟩ := initO X0 hx hZ hown (hw _ (List.mem_of_getElem? (i := 19) rfl)) (hw _ (List.mem_of_getElem? (i := 20) rfl)) (hw _ (List.mem_of_getElem? (i := 21) rfl)) e0 (g := (mkF m 1 #[.val (.ref a1), .val (.ref a2), .val (.int p3)] [(.ref a1)])) rfl (by rw [hml]; rfl) rfl (hb hby d4_1) (by decide) (W := 0) (Nat.le_of_eq rfl) (by decide)
  refine own_go (st92) ?_
  show own_Go _ _ _ _ T92 (mkF m 4 #[.val (.ref a1), .val (.ref a2), .val (.int p3)] [])
  refine own_go (fun _ k => XS.aloadN X92.here hx rfl (hb hby d4_4) rfl rfl k) ?_
  show own_Go _ _ _ _ T92 (mkF m 5 #[.val (.ref a1), .val (.ref a2), .val (.int p3)] [(.ref a1)])
  refine own_go (fun _ k => XS.aloadN X92.here hx rfl (hb hby d4_5) rfl rfl k) ?_
  show own_Go _ _ _ _ T92 (mkF m 6 #[.val (.ref a1), .val (.ref a2), .val (.int p3)] [(.ref a2), (.ref a1)])
  obtain ⟨T93, h93, X93, e93, W93, st93⟩ := putF X92 hx hZ hown (host := "") (Or.inl (hw _ (List.mem_of_getElem? (i := 22) rfl))) Via.refl e92 Fv E_a1 (Or.inr ⟨(hw _ (List.mem_of_getElem? (i := 23) rfl)), rfl, hnm⟩) (hw _ (List.mem_of_getElem? (i := 10) rfl)) (ty := (.array .byte)) (by decide) rfl rfl (g := (mkF m 6 #[.val (.ref a1), .val (.ref a2), .val (.int p3)] [(.ref a2), (.ref a1)])) rfl rfl (hb hby d4_6)
  refine own_go (st93) ?_
  have Fw93 := Fv.same W93
  have N93 := Fr.snoc X93 N0 g_a1
  show own_Go _ _ _ _ T93 (mkF m 9 #[.val (.ref a1), .val (.ref a2), .val (.int p3)] [])
  refine own_go (fun _ k => XS.aloadN X93.here hx rfl (hb hby d4_9) rfl rfl k) ?_
  show own_Go _ _ _ _ T93 (mkF m 10 #[.val (.ref a1), .val (.ref a2), .val (.int p3)] [(.ref a1)])
  refine own_go (fun _ k => XS.iloadN X93.here hx rfl (hb hby d4_10) rfl k) ?_
  show own_Go _ _ _ _ T93 (mkF m 11 #[.val (.ref a1), .val (.ref a2), .val (.int p3)] [(.int p3), (.ref a1)])
  have f95 := (Fc.other W93 (Or.inr (slot_ne (Or.inr (hw _ (List.mem_of_getElem? (i := 25) rfl))) (Or.inr (hw _ (List.mem_of_getElem? (i := 23) rfl))) (by decide) (t := .byte) (t' := (.array .byte)) (by decide) (by decide))))
  have f96 := (E_a1.wr W93)
  obtain ⟨T94, h94, X94, e94, W94, st94⟩ := putFN X93 hx hZ hown (hw _ (List.mem_of_getElem? (i := 24) rfl)) Via.refl e93 f95 f96 (Or.inr ⟨(hw _ (List.mem_of_getElem? (i := 25) rfl)), rfl, hnm⟩) (hw _ (List.mem_of_getElem? (i := 10) rfl)) (ty := .byte) (v' := (.int (nar .byte p3))) (by decide) rfl (fits_nar_byte _) (g := (mkF m 11 #[.val (.ref a1), .val (.ref a2), .val (.int p3)] [(.int p3), (.ref a1)])) rfl rfl (hb hby d4_11)
  refine own_go (st94) ?_
  have Fw94 := f95.same W94
  have N94 := Fr.snoc X94 N93 g_a1
  show own_Go _ _ _ _ T94 (mkF m 14 #[.val (.ref a1), .val (.ref a2), .val (.int p3)] [])
  have f97 := (((Keep.refl h0 [a1]).wr W93 (Or.inl (List.mem_of_getElem? (i := 0) rfl))).wr W94 (Or.inl (List.mem_of_getElem? (i := 0) rfl)))
  have f98 := (f96.wr W94)
  exact own_retV X94 hx hret hlk (hb hby d4_14) (by decide) (by decide) (by first | exact ⟨rfl, N94, f97, f98⟩ | (rw [e94]; exact ⟨rfl, N94, f97, f98⟩))
set_option maxRecDepth 65536 in
set_option maxHeartbeats 40000000 in
theorem rmV (l : Launch) (Z : State) (a0 : Array Value) (hw : ∀ d ∈ tables_1, d.before a0 Z = true) (ws : List Jvm.Cond) (p1 xx : Int32) (h0 : Heap) (n0 : Nat) (Z0 : n0 ≤ h0.size) (O0 : Old Z n0 h0) (S_c : Sta Z Z.heap "java/lang/String" "COMPACT_STRINGS" "Z" (.int xx)) (hxx : ¬ xx = (0 : Int32)) (h1 : ¬ (255 : Int32) < p1) :
    own_Met l (⟨"java/lang/String", "valueOf", "(C)Ljava/lang/String;"⟩ : MethodName) jdk_42_method_139_code 1 (some (.object "java/lang/String")) ws ({ frames := 2, cells := 2, slots := 5, locals := 27 } : Room) Z #[(.int p1)] h0 (fun v h L => ∃ b : Addr, v = some (.ref b) ∧ Fr n0 L ∧ Keep h0 h [] ∧ Exa Z h b "java/lang/String" ∧ n0 ≤ b ∧ h0.size ≤ b) := by
  refine own_body (plainFor_of_name (by first | (simp [plainName, overriddenIn]; done) | decide +kernel)) ?_
  intro p e s m below meth c s₁ X0 hx hby hml hown hnm hret hlk hZ e0
  have N0 := Fr.nil n0
  refine own_cast (show entryFrame m #[(.int p1)] 1 = mkF m 0 #[.val (.int p1)] [] from by first | (simp [entryFrame, mkF, argsToLocals, Value.category]; done) | rfl) ?_
  show own_Go _ _ _ _ s₁ (mkF m 0 #[.val (.int p1)] [])
  obtain ⟨T99, X99, e99, st99⟩ := getS2 X0 hx hZ hown (host := "") (Or.inl (hw _ (List.mem_of_getElem? (i := 4) rfl))) Via.refl e0 (Sta.ext O0.2 S_c) (g := (mkF m 0 #[.val (.int p1)] [])) rfl (hb hby d1_0)
  refine own_go (st99) ?_
  show own_Go _ _ _ _ T99 (mkF m 3 #[.val (.int p1)] [(.int xx)])
  refine own_go (fun _ k => XS.ifNo X99.here hx rfl (hb hby d1_3) rfl ((if0 _ _).trans (feq hxx).1) k) ?_
  show own_Go _ _ _ _ T99 (mkF m 6 #[.val (.int p1)] [])
  refine own_go (fun _ k => XS.iloadN X99.here hx rfl (hb hby d1_6) rfl k) ?_
  show own_Go _ _ _ _ T99 (mkF m 7 #[.val (.int p1)] [(.int p1)])
  obtain ⟨v100, T100, h100, L100, X100, e100, hQ100, st100⟩ := own_callS X99 hx hZ hown (hw _ (List.mem_of_getElem? (i := 5) rfl)) (hw _ (List.mem_of_getElem? (i := 6) rfl)) (hw _ (List.mem_of_getElem? (i := 7) rfl)) (hw _ (List.mem_of_getElem? (i := 8) rfl)) (by decide) e99 (argsL := [(.int p1)]) (rest := []) (rmCE l Z a0 hw [] p1 h0 n0 Z0 h1) 0 (by decide) (by decide) (by decide) (by decide) (g := (mkF m 7 #[.val (.int p1)] [(.int p1)])) rfl (by rw [hml]; rfl) (lenOf pd7 rfl) rfl (Nat.le_of_eq rfl) (hb hby d1_7)
  obtain ⟨rfl, N100q, rfl⟩ := hQ100
  refine own_go (st100) ?_
  have N100 := Fr.app N0 N100q
  show own_Go _ _ _ _ T100 (mkF m 10 #[.val (.int p1)] [(.int (1 : Int32))])
  refine own_go (fun _ k => XS.ifNo X100.here hx rfl (hb hby d1_10) rfl ((if0 _ _).trans (feq (by decide)).1) k) ?_
  show own_Go _ _ _ _ T100 (mkF m 13 #[.val (.int p1)] [])
  obtain ⟨T101, h101, X101, e101, E101, A101, D101, -, st101⟩ := newO X100 hx hZ hown (hw _ (List.mem_of_getElem? (i := 9) rfl)) (hw _ (List.mem_of_getElem? (i := 10) rfl)) (hw _ (List.mem_of_getElem? (i := 2) rfl)) e100 (g := (mkF m 13 #[.val (.int p1)] [])) rfl (hb hby d1_13) (by decide) (by decide)
  obtain ⟨b101, g101⟩ : ∃ z, z = h0.size := ⟨_, rfl⟩
  rw [← g101] at A101 D101 st101
  refine own_go (st101) ?_
  have g_b101 : n0 ≤ b101 := Nat.le_trans Z0 (Nat.le_of_eq g101.symm)
  have sz_b101 : h0.size ≤ b101 := Nat.le_trans (Keep.refl h0 []).1 (Nat.le_of_eq g101.symm)
  have F101_value : Fld Z h101 b101 "java/lang/String" "value" "[B" .null := D101 (Or.inr (hw _ (List.mem_of_getElem? (i := 23) rfl))) (ty := (.array .byte)) (by decide)
  have F101_coder : Fld Z h101 b101 "java/lang/String" "coder" "B" (.int (0 : Int32)) := D101 (Or.inr (hw _ (List.mem_of_getElem? (i := 25) rfl))) (ty := .byte) (by decide)
  show own_Go _ _ _ _ T101 (mkF m 16 #[.val (.int p1)] [(.ref b101)])
  refine own_go (fun _ k => XS.dup X101.here hx rfl (hb hby d1_16) rfl rfl k) ?_
  show own_Go _ _ _ _ T101 (mkF m 17 #[.val (.int p1)] [(.ref b101), (.ref b101)])
  refine own_go (fun _ k => XS.iloadN X101.here hx rfl (hb hby d1_17) rfl k) ?_
  show own_Go _ _ _ _ T101 (mkF m 18 #[.val (.int p1)] [(.int p1), (.ref b101), (.ref b101)])
  have f102 := (Nat.le_trans Z0 E101.1)
  obtain ⟨v103, T103, h103, L103, X103, e103, hQ103, st103⟩ := own_callS X101 hx hZ hown (hw _ (List.mem_of_getElem? (i := 11) rfl)) (hw _ (List.mem_of_getElem? (i := 12) rfl)) (hw _ (List.mem_of_getElem? (i := 7) rfl)) (hw _ (List.mem_of_getElem? (i := 13) rfl)) (by decide) e101 (argsL := [(.int p1)]) (rest := [(.ref b101), (.ref b101)]) (rmTB l Z a0 hw [] p1 h101 n0 f102) 2 (by decide) (by decide) (by decide) (by decide) (g := (mkF m 18 #[.val (.int p1)] [(.int p1), (.ref b101), (.ref b101)])) rfl (by rw [hml]; rfl) (lenOf pd8 rfl) rfl (Nat.le_of_eq rfl) (hb hby d1_18)
  obtain ⟨y103, rfl, N103q, K103⟩ := hQ103
  refine own_go (st103) ?_
  have N103 := Fr.app N100 N103q
  show own_Go _ _ _ _ T103 (mkF m 21 #[.val (.int p1)] [(.ref y103), (.ref b101), (.ref b101)])
  refine own_go (fun _ k => XS.iconst X103.here hx rfl (hb hby d1_21) k) ?_
  show own_Go _ _ _ _ T103 (mkF m 22 #[.val (.int p1)] [(.int (0 : Int32)), (.ref y103), (.ref b101), (.ref b101)])
  have f104 := (A101.keep K103)
  have f105 := (F101_value.keep K103 nin0)
  have f106 := (F101_coder.keep K103 nin0)
  have f107 := (Nat.le_trans f102 K103.1)
  obtain ⟨v108, T108, h108, L108, X108, e108, hQ108, st108⟩ := own_callI X103 hx hZ rfl hown (hw _ (List.mem_of_getElem? (i := 15) rfl)) (hw _ (List.mem_of_getElem? (i := 16) rfl)) (hw _ (List.mem_of_getElem? (i := 2) rfl)) (hw _ (List.mem_of_getElem? (i := 18) rfl)) (by decide) e103 (a := b101) (argsL := [(.ref y103), (.int (0 : Int32))]) (rest := [(.ref b101)]) (rmSI l Z a0 hw [] b101 y103 (0 : Int32) h103 n0 f107 f104 f105 f106 g_b101) 1 (by decide) (by decide) (by decide) (by decide) (g := (mkF m 22 #[.val (.int p1)] [(.int (0 : Int32)), (.ref y103), (.ref b101), (.ref b101)])) rfl (by rw [hml]; rfl) (lenOf pd9 rfl) rfl (Nat.le_of_eq rfl) (hb hby d1_22)
  obtain ⟨rfl, N108q, K108, E108x⟩ := hQ108
  refine own_go (st108) ?_
  have N108 := Fr.app N103 N108q
  show own_Go _ _ _ _ T108 (mkF m 25 #[.val (.int p1)] [(.ref b101)])
  have f109 := ((((Keep.refl h0 []).ext E101).trans K103 all0).trans K108 (allS (Or.inr sz_b101) all0))
  exact own_retR X108 hx hret rfl rfl hlk (hb hby d1_25) (by decide) (by decide) (by first | exact ⟨_, rfl, N108, f109, E108x, g_b101, sz_b101⟩ | (rw [e108]; exact ⟨_, rfl, N108, f109, E108x, g_b101, sz_b101⟩))
set_option maxRecDepth 65536 in
set_option maxHeartbeats 40000000 in
theorem rmGI (l : Launch) (Z : State) (a0 : Array Value) (hw : ∀ d ∈ tables_1, d.before a0 Z = true) (ws : List Jvm.Cond) (a1 a2 a3 : Addr) (h0 : Heap) (n0 : Nat) (Z0 : n0 ≤ h0.size) (E_a1 : Exa Z h0 a1 "com/example/record_scrubber/recordscrubber/anonymize/Generalisation") (Fp : Fld Z h0 a1 "com/example/record_scrubber/recordscrubber/anonymize/Generalisation" "partOfRow" "[I" .null) (Fl : Fld Z h0 a1 "com/example/record_scrubber/recordscrubber/anonymize/Generalisation" "labelsOfPart" "Ljava/util/List;" .null) (Fn : Fld Z h0 a1 "com/example/record_scrubber/recordscrubber/anonymize/Generalisation" "node" "Lcom/example/record_scrubber/recordscrubber/anonymize/FullDomainNode;" .null) (g_a1 : n0 ≤ a1) :
    own_Met l (⟨"com/example/record_scrubber/recordscrubber/anonymize/Generalisation", "<init>", "([ILjava/util/List;Lcom/example/record_scrubber/recordscrubber/anonymize/FullDomainNode;)V"⟩ : MethodName) prog_8_method_1_code 4 none ws ({ frames := 1, cells := 0, slots := 0, locals := 12 } : Room) Z #[(.ref a1), (.ref a2), (.ref a3), .null] h0 (fun v h L => v = none ∧ Fr n0 L ∧ Keep h0 h [a1] ∧ Exa Z h a1 "com/example/record_scrubber/recordscrubber/anonymize/Generalisation" ∧ Fld Z h a1 "com/example/record_scrubber/recordscrubber/anonymize/Generalisation" "partOfRow" "[I" (.ref a2) ∧ Fld Z h a1 "com/example/record_scrubber/recordscrubber/anonymize/Generalisation" "labelsOfPart" "Ljava/util/List;" (.ref a3)) := by
  refine own_body (plainFor_of_name (by first | (simp [plainName, overriddenIn]; done) | decide +kernel)) ?_
  intro p e s m below meth c s₁ X0 hx hby hml hown hnm hret hlk hZ e0
  have N0 := Fr.nil n0
  refine own_cast (show entryFrame m #[(.ref a1), (.ref a2), (.ref a3), .null] 4 = mkF m 0 #[.val (.ref a1), .val (.ref a2), .val (.ref a3), .val .null] [] from by first | (simp [entryFrame, mkF, argsToLocals, Value.category]; done) | rfl) ?_
  show own_Go _ _ _ _ s₁ (mkF m 0 #[.val (.ref a1), .val (.ref a2), .val (.ref a3), .val .null] [])
  refine own_go (fun _ k => XS.aloadN X0.here hx rfl (hb hby d15_0) rfl rfl k) ?_
  show own_Go _ _ _ _ s₁ (mkF m 1 #[.val (.ref a1), .val (.ref a2), .val (.ref a3), .val .null] [(.ref a1)])
  obtain ⟨T110, X110, e110, st110⟩ := initO X0 hx hZ hown (hw _ (List.mem_of_getElem? (i := 98) rfl)) (hw _ (List.mem_of_getElem? (i := 20) rfl)) (hw _ (List.mem_of_getElem? (i := 21) rfl)) e0 (g := (mkF m 1 #[.val (.ref a1), .val (.ref a2), .val (.ref a3), .val .null] [(.ref a1)])) rfl (by rw [hml]; rfl) rfl (hb hby d15_1) (by decide) (W := 0) (Nat.le_of_eq rfl) (by decide)
  refine own_go (st110) ?_
  show own_Go _ _ _ _ T110 (mkF m 4 #[.val (.ref a1), .val (.ref a2), .val (.ref a3), .val .null] [])
  refine own_go (fun _ k => XS.aloadN X110.here hx rfl (hb hby d15_4) rfl rfl k) ?_
  show own_Go _ _ _ _ T110 (mkF m 5 #[.val (.ref a1), .val (.ref a2), .val (.ref a3), .val .null] [(.ref a1)])
  refine own_go (fun _ k => XS.aloadN X110.here hx rfl (hb hby d15_5) rfl rfl k) ?_
  show own_Go _ _ _ _ T110 (mkF m 6 #[.val (.ref a1), .val (.ref a2), .val (.ref a3), .val .null] [(.ref a2), (.ref a1)])
  obtain ⟨T111, h111, X111, e111, W111, st111⟩ := putF X110 hx hZ hown (host := "") (Or.inl (hw _ (List.mem_of_getElem? (i := 99) rfl))) Via.refl e110 Fp E_a1 (Or.inr ⟨(hw _ (List.mem_of_getElem? (i := 100) rfl)), rfl, hnm⟩) (hw _ (List.mem_of_getElem? (i := 93) rfl)) (ty := (.array .int)) (by decide) rfl rfl (g := (mkF m 6 #[.val (.ref a1), .val (.ref a2), .val (.ref a3), .val .null] [(.ref a2), (.ref a1)])) rfl rfl (hb hby d15_6)
  refine own_go (st111) ?_
  have Fw111 := Fp.same W111
  have N111 := Fr.snoc X111 N0 g_a1
  show own_Go _ _ _ _ T111 (mkF m 9 #[.val (.ref a1), .val (.ref a2), .val (.ref a3), .val .null] [])
  refine own_go (fun _ k => XS.aloadN X111.here hx rfl (hb hby d15_9) rfl rfl k) ?_
  show own_Go _ _ _ _ T111 (mkF m 10 #[.val (.ref a1), .val (.ref a2), .val (.ref a3), .val .null] [(.ref a1)])
  refine own_go (fun _ k => XS.aloadN X111.here hx rfl (hb hby d15_10) rfl rfl k) ?_
  show own_Go _ _ _ _ T111 (mkF m 11 #[.val (.ref a1), .val (.ref a2), .val (.ref a3), .val .null] [(.ref a3), (.ref a1)])
  have f113 := (Fl.other W111 (Or.inr (slot_ne (Or.inr (hw _ (List.mem_of_getElem? (i := 102) rfl))) (Or.inr (hw _ (List.mem_of_getElem? (i := 100) rfl))) (by decide) (t := (.object "java/util/List")) (t' := (.array .int)) (by decide) (by decide))))
  have f114 := (E_a1.wr W111)
  obtain ⟨T112, h112, X112, e112, W112, st112⟩ := putF X111 hx hZ hown (host := "") (Or.inl (hw _ (List.mem_of_getElem? (i := 101) rfl))) Via.refl e111 f113 f114 (Or.inr ⟨(hw _ (List.mem_of_getElem? (i := 102) rfl)), rfl, hnm⟩) (hw _ (List.mem_of_getElem? (i := 93) rfl)) (ty := (.object "java/util/List")) (by decide) rfl rfl (g := (mkF m 11 #[.val (.ref a1), .val (.ref a2), .val (.ref a3), .val .null] [(.ref a3), (.ref a1)])) rfl rfl (hb hby d15_11)
  refine own_go (st112) ?_
  have Fw112 := f113.same W112
  have N112 := Fr.snoc X112 N111 g_a1
  show own_Go _ _ _ _ T112 (mkF m 14 #[.val (.ref a1), .val (.ref a2), .val (.ref a3), .val .null] [])
  refine own_go (fun _ k => XS.aloadN X112.here hx rfl (hb hby d15_14) rfl rfl k) ?_
  show own_Go _ _ _ _ T112 (mkF m 15 #[.val (.ref a1), .val (.ref a2), .val (.ref a3), .val .null] [(.ref a1)])
  refine own_go (fun _ k => XS.aloadN X112.here hx rfl (hb hby d15_15) rfl rfl k) ?_
  show own_Go _ _ _ _ T112 (mkF m 16 #[.val (.ref a1), .val (.ref a2), .val (.ref a3), .val .null] [.null, (.ref a1)])
  have f116 := ((Fn.other W111 (Or.inr (slot_ne (Or.inr (hw _ (List.mem_of_getElem? (i := 104) rfl))) (Or.inr (hw _ (List.mem_of_getElem? (i := 100) rfl))) (by decide) (t := (.object "com/example/record_scrubber/recordscrubber/anonymize/FullDomainNode")) (t' := (.array .int)) (by decide) (by decide)))).other W112 (Or.inr (slot_ne (Or.inr (hw _ (List.mem_of_getElem? (i := 104) rfl))) (Or.inr (hw _ (List.mem_of_getElem? (i := 102) rfl))) (by decide) (t := (.object "com/example/record_scrubber/recordscrubber/anonymize/FullDomainNode")) (t' := (.object "java/util/List")) (by decide) (by decide))))
  have f117 := (f114.wr W112)
  obtain ⟨T115, h115, X115, e115, W115, st115⟩ := putF X112 hx hZ hown (host := "") (Or.inl (hw _ (List.mem_of_getElem? (i := 103) rfl))) Via.refl e112 f116 f117 (Or.inr ⟨(hw _ (List.mem_of_getElem? (i := 104) rfl)), rfl, hnm⟩) (hw _ (List.mem_of_getElem? (i := 93) rfl)) (ty := (.object "com/example/record_scrubber/recordscrubber/anonymize/FullDomainNode")) (by decide) rfl rfl (g := (mkF m 16 #[.val (.ref a1), .val (.ref a2), .val (.ref a3), .val .null] [.null, (.ref a1)])) rfl rfl (hb hby d15_16)
  refine own_go (st115) ?_
  have Fw115 := f116.same W115
  have N115 := Fr.snoc X115 N112 g_a1
  show own_Go _ _ _ _ T115 (mkF m 19 #[.val (.ref a1), .val (.ref a2), .val (.ref a3), .val .null] [])
  have f118 := ((((Keep.refl h0 [a1]).wr W111 (Or.inl (List.mem_of_getElem? (i := 0) rfl))).wr W112 (Or.inl (List.mem_of_getElem? (i := 0) rfl))).wr W115 (Or.inl (List.mem_of_getElem? (i := 0) rfl)))
  have f119 := (f117.wr W115)
  have f120 := ((Fw111.other W112 (Or.inr (slot_ne (Or.inr (hw _ (List.mem_of_getElem? (i := 100) rfl))) (Or.inr (hw _ (List.mem_of_getElem? (i := 102) rfl))) (by decide) (t := (.array .int)) (t' := (.object "java/util/List")) (by decide) (by decide)))).other W115 (Or.inr (slot_ne (Or.inr (hw _ (List.mem_of_getElem? (i := 100) rfl))) (Or.inr (hw _ (List.mem_of_getElem? (i := 104) rfl))) (by decide) (t := (.array .int)) (t' := (.object "com/example/record_scrubber/recordscrubber/anonymize/FullDomainNode")) (by decide) (by decide))))
  have f121 := (Fw112.other W115 (Or.inr (slot_ne (Or.inr (hw _ (List.mem_of_getElem? (i := 102) rfl))) (Or.inr (hw _ (List.mem_of_getElem? (i := 104) rfl))) (by decide) (t := (.object "java/util/List")) (t' := (.object "com/example/record_scrubber/recordscrubber/anonymize/FullDomainNode")) (by decide) (by decide))))
  exact own_retV X115 hx hret hlk (hb hby d15_19) (by decide) (by decide) (by first | exact ⟨rfl, N115, f118, f119, f120, f121⟩ | (rw [e115]; exact ⟨rfl, N115, f118, f119, f120, f121⟩))
set_option maxRecDepth 65536 in
set_option maxHeartbeats 40000000 in
theorem rmLab (l : Launch) (Z : State) (a0 : Array Value) (hw : ∀ d ∈ tables_1, d.before a0 Z = true) (ws : List Jvm.Cond) (a1 : Addr) (p2 : Int32) (pa lp t3 y : Addr) (ki k : ClassId) (zs vs : List Value) (zz nn : Int32) (h0 : Heap) (n0 : Nat) (Z0 : n0 ≤ h0.size) (Fp : Fld Z h0 a1 "com/example/record_scrubber/recordscrubber/anonymize/Generalisation" "partOfRow" "[I" (.ref pa)) (Fl : Fld Z h0 a1 "com/example/record_scrubber/recordscrubber/anonymize/Generalisation" "labelsOfPart" "Ljava/util/List;" (.ref lp)) (V_pa : Arv Z h0 pa ki .int (3 : Int32) zs (.int (0 : Int32))) (hr : ¬ p2 < 0 ∧ p2 < (3 : Int32)) (hz : zs.getD p2.toNatClampNeg (.int (0 : Int32)) = .int zz) (E_lp : Exa Z h0 lp "java/util/ArrayList") (Fs_lp : Fld Z h0 lp "java/util/ArrayList" "size" "I" (.int nn)) (Fd_lp : Fld Z h0 lp "java/util/ArrayList" "elementData" "[Ljava/lang/Object;" (.ref t3)) (V_t3 : Arv Z h0 t3 k (.object "java/lang/Object") (10 : Int32) vs .null) (h1 : ¬ zz < (0 : Int32)) (h2 : zz < (10 : Int32)) (h3 : zz < nn) (hy : vs.getD zz.toNatClampNeg .null = .ref y) (E_y : Exa Z h0 y "java/util/ArrayList") :
    own_Met l (⟨"com/example/record_scrubber/recordscrubber/anonymize/Generalisation", "labels", "(I)Ljava/util/List;"⟩ : MethodName) prog_8_method_7_code 2 (some (.object "java/util/List")) ws ({ frames := 3, cells := 0, slots := 0, locals := 40 } : Room) Z #[(.ref a1), (.int p2)] h0 (fun v h L => v = some (.ref y) ∧ Fr n0 L ∧ h0 = h) := by
  refine own_body (plainFor_of_name (by first | (simp [plainName, overriddenIn]; done) | decide +kernel)) ?_
  intro p e s m below meth c s₁ X0 hx hby hml hown hnm hret hlk hZ e0
  have N0 := Fr.nil n0
  refine own_cast (show entryFrame m #[(.ref a1), (.int p2)] 2 = mkF m 0 #[.val (.ref a1), .val (.int p2)] [] from by first | (simp [entryFrame, mkF, argsToLocals, Value.category]; done) | rfl) ?_
  show own_Go _ _ _ _ s₁ (mkF m 0 #[.val (.ref a1), .val (.int p2)] [])
  refine own_go (fun _ k => XS.aloadN X0.here hx rfl (hb hby d16_0) rfl rfl k) ?_
  show own_Go _ _ _ _ s₁ (mkF m 1 #[.val (.ref a1), .val (.int p2)] [(.ref a1)])
  obtain ⟨T122, X122, e122, st122⟩ := getF X0 hx hZ hown (host := "") (Or.inl (hw _ (List.mem_of_getElem? (i := 101) rfl))) Via.refl e0 Fl (g := (mkF m 1 #[.val (.ref a1), .val (.int p2)] [(.ref a1)])) rfl rfl (hb hby d16_1)
  refine own_go (st122) ?_
  show own_Go _ _ _ _ T122 (mkF m 4 #[.val (.ref a1), .val (.int p2)] [(.ref lp)])
  refine own_go (fun _ k => XS.aloadN X122.here hx rfl (hb hby d16_4) rfl rfl k) ?_
  show own_Go _ _ _ _ T122 (mkF m 5 #[.val (.ref a1), .val (.int p2)] [(.ref a1), (.ref lp)])
  obtain ⟨T123, X123, e123, st123⟩ := getF X122 hx hZ hown (host := "") (Or.inl (hw _ (List.mem_of_getElem? (i := 99) rfl))) Via.refl e122 Fp (g := (mkF m 5 #[.val (.ref a1), .val (.int p2)] [(.ref a1), (.ref lp)])) rfl rfl (hb hby d16_5)
  refine own_go (st123) ?_
  show own_Go _ _ _ _ T123 (mkF m 8 #[.val (.ref a1), .val (.int p2)] [(.ref pa), (.ref lp)])
  refine own_go (fun _ k => XS.iloadN X123.here hx rfl (hb hby d16_8) rfl k) ?_
  show own_Go _ _ _ _ T123 (mkF m 9 #[.val (.ref a1), .val (.int p2)] [(.int p2), (.ref pa), (.ref lp)])
  obtain ⟨cl124, Ar124, q124, S124, M124, H124, G124⟩ := V_pa
  have V124 : Arv Z h0 pa ki .int (3 : Int32) _ _ := ⟨cl124, Ar124, q124, S124, M124, H124, G124⟩
  have hin124 : ¬ (p2 < 0 ∨ cl124.slots.size ≤ (p2).toNatClampNeg) := inb_of S124 hr
  have hat124 : cl124.slots[(p2).toNatClampNeg]? = some (.int zz) := H124.at hin124 hz
  refine own_go (X123.iaload hx (j := p2) (v := (.int zz)) (by rw [e123]; exact Ar124.1) (State.isArrayOf_alike hZ.alike Ar124.2.1) Ar124.2.2 hin124 hat124 (g := (mkF m 9 #[.val (.ref a1), .val (.int p2)] [(.int p2), (.ref pa), (.ref lp)])) rfl rfl (hb hby d16_9)) ?_
  show own_Go _ _ _ _ T123 (mkF m 10 #[.val (.ref a1), .val (.int p2)] [(.int zz), (.ref lp)])
  obtain ⟨v125, T125, h125, L125, X125, e125, hQ125, st125⟩ := own_callF X123 hx hZ hown (hw _ (List.mem_of_getElem? (i := 110) rfl)) (hw _ (List.mem_of_getElem? (i := 111) rfl)) (mvT hZ (hw _ (List.mem_of_getElem? (i := 112) rfl))) (hw _ (List.mem_of_getElem? (i := 113) rfl)) (hw _ (List.mem_of_getElem? (i := 114) rfl)) (hw _ (List.mem_of_getElem? (i := 115) rfl)) (hw _ (List.mem_of_getElem? (i := 116) rfl)) (hw _ (List.mem_of_getElem? (i := 57) rfl)) (hw _ (List.mem_of_getElem? (i := 28) rfl)) (hw _ (List.mem_of_getElem? (i := 117) rfl)) (by decide) e123 E_lp (argsL := [(.int zz)]) (rest := []) (rmGet l Z a0 hw [] lp zz t3 k vs y nn h0 n0 Z0 E_lp Fs_lp h3 Fd_lp V_t3 h1 h2 hy) 0 (by decide) (by decide) (by decide) (by decide) (g := (mkF m 10 #[.val (.ref a1), .val (.int p2)] [(.int zz), (.ref lp)])) rfl (by rw [hml]; rfl) (lenOf pd6 rfl) rfl (Nat.le_of_eq rfl) (hb hby d16_10)
  obtain ⟨rfl, N125q, rfl⟩ := hQ125
  refine own_go (st125) ?_
  have N125 := Fr.app N0 N125q
  show own_Go _ _ _ _ T125 (mkF m 15 #[.val (.ref a1), .val (.int p2)] [(.ref y)])
  obtain ⟨T126, X126, e126, st126⟩ := castY X125 hx hZ hown (hw _ (List.mem_of_getElem? (i := 131) rfl)) e125 (Ins.of_exa E_y (hw _ (List.mem_of_getElem? (i := 57) rfl))) (g := (mkF m 15 #[.val (.ref a1), .val (.int p2)] [(.ref y)])) rfl rfl (hb hby d16_15)
  refine own_go (st126) ?_
  show own_Go _ _ _ _ T126 (mkF m 18 #[.val (.ref a1), .val (.int p2)] [(.ref y)])
  exact own_retR X126 hx hret rfl rfl hlk (hb hby d16_18) (by decide) (by decide) (by first | exact ⟨rfl, N125, rfl⟩ | (rw [e126]; exact ⟨rfl, N125, rfl⟩))
set_option maxRecDepth 65536 in
set_option maxHeartbeats 40000000 in
theorem rmC (l : Launch) (Z : State) (a0 : Array Value) (hw : ∀ d ∈ tables_1, d.before a0 Z = true) (ws : List Jvm.Cond) (p1 : Int32) (h0 : Heap) (n0 : Nat) (Z0 : n0 ≤ h0.size) :
    own_Met l (⟨"com/example/record_scrubber/recordscrubber/anonymize/GeneralisationLabelsPinLaw", "part", "(I)I"⟩ : MethodName) method_3_code 2 (some .int) ws ({ frames := 0, cells := 0, slots := 0, locals := 0 } : Room) Z #[(.int p1)] h0 (fun v h L => v = some (.int (own_part p1)) ∧ Fr n0 L ∧ h0 = h) := by
  refine own_body (plainFor_of_name (by first | (simp [plainName, overriddenIn]; done) | decide +kernel)) ?_
  intro p e s m below meth c s₁ X0 hx hby hml hown hnm hret hlk hZ e0
  have N0 := Fr.nil n0
  refine own_cast (show entryFrame m #[(.int p1)] 2 = mkF m 0 #[.val (.int p1), .unset] [] from by first | (simp [entryFrame, mkF, argsToLocals, Value.category]; done) | rfl) ?_
  show own_Go _ _ _ _ s₁ (mkF m 0 #[.val (.int p1), .unset] [])
  refine own_go (fun _ k => XS.iloadN X0.here hx rfl (hb hby d14_0) rfl k) ?_
  show own_Go _ _ _ _ s₁ (mkF m 1 #[.val (.int p1), .unset] [(.int p1)])
  refine own_go (fun _ k => XS.iconst X0.here hx rfl (hb hby d14_1) k) ?_
  show own_Go _ _ _ _ s₁ (mkF m 2 #[.val (.int p1), .unset] [(.int (3 : Int32)), (.int p1)])
  refine own_go (fun _ k => XS.iand X0.here hx rfl (hb hby d14_2) rfl k) ?_
  show own_Go _ _ _ _ s₁ (mkF m 3 #[.val (.int p1), .unset] [(.int (p1 &&& (3 : Int32)))])
  refine own_go (fun _ k => XS.istoreN X0.here hx rfl (hb hby d14_3) rfl (l' := #[.val (.int p1), .val (.int (p1 &&& (3 : Int32)))]) rfl k) ?_
  show own_Go _ _ _ _ s₁ (mkF m 4 #[.val (.int p1), .val (.int (p1 &&& (3 : Int32)))] [])
  refine own_go (fun _ k => XS.iloadN X0.here hx rfl (hb hby d14_4) rfl k) ?_
  show own_Go _ _ _ _ s₁ (mkF m 5 #[.val (.int p1), .val (.int (p1 &&& (3 : Int32)))] [(.int (p1 &&& (3 : Int32)))])
  refine own_go (fun _ k => XS.iconst X0.here hx rfl (hb hby d14_5) k) ?_
  show own_Go _ _ _ _ s₁ (mkF m 6 #[.val (.int p1), .val (.int (p1 &&& (3 : Int32)))] [(.int (3 : Int32)), (.int (p1 &&& (3 : Int32)))])
  by_cases hc : (p1 &&& (3 : Int32)) = (3 : Int32)
  · skip
    refine own_go (fun _ k => XS.icmpNo X0.here hx rfl (hb hby d14_6) rfl (teq hc).2 k) ?_
    show own_Go _ _ _ _ s₁ (mkF m 9 #[.val (.int p1), .val (.int (p1 &&& (3 : Int32)))] [])
    refine own_go (fun _ k => XS.iconst X0.here hx rfl (hb hby d14_9) k) ?_
    show own_Go _ _ _ _ s₁ (mkF m 10 #[.val (.int p1), .val (.int (p1 &&& (3 : Int32)))] [(.int (-1 : Int32))])
    refine own_go (fun _ k => XS.goto X0.here hx rfl (pc0 := 10) (pc' := 14) rfl (hb hby d14_10) (by decide) (by decide) k) ?_
    show own_Go _ _ _ _ s₁ (mkF m 14 #[.val (.int p1), .val (.int (p1 &&& (3 : Int32)))] [(.int (-1 : Int32))])
    exact own_retI X0 hx hret hlk (hb hby d14_14) (by decide) (by decide) (by first | exact ⟨by rw [own_part, if_pos hc], N0, rfl⟩ | (rw [e0]; exact ⟨by rw [own_part, if_pos hc], N0, rfl⟩))
  · skip
    refine own_go (fun _ k => XS.icmpYes X0.here hx rfl (pc0 := 6) (pc' := 13) rfl (hb hby d14_6) rfl (feq hc).2 (by decide) (by decide) k) ?_
    show own_Go _ _ _ _ s₁ (mkF m 13 #[.val (.int p1), .val (.int (p1 &&& (3 : Int32)))] [])
    refine own_go (fun _ k => XS.iloadN X0.here hx rfl (hb hby d14_13) rfl k) ?_
    show own_Go _ _ _ _ s₁ (mkF m 14 #[.val (.int p1), .val (.int (p1 &&& (3 : Int32)))] [(.int (p1 &&& (3 : Int32)))])
    exact own_retI X0 hx hret hlk (hb hby d14_14) (by decide) (by decide) (by first | exact ⟨by rw [own_part, if_neg hc], N0, rfl⟩ | (rw [e0]; exact ⟨by rw [own_part, if_neg hc], N0, rfl⟩))
set_option maxRecDepth 65536 in
set_option maxHeartbeats 40000000 in
theorem rmSz (l : Launch) (Z : State) (a0 : Array Value) (hw : ∀ d ∈ tables_1, d.before a0 Z = true) (ws : List Jvm.Cond) (a1 : Addr) (nn : Int32) (h0 : Heap) (n0 : Nat) (Z0 : n0 ≤ h0.size) (Fs : Fld Z h0 a1 "java/util/ArrayList" "size" "I" (.int nn)) :
    own_Met l (⟨"java/util/ArrayList", "size", "()I"⟩ : MethodName) jdk_38_method_8_code 1 (some .int) ws ({ frames := 0, cells := 0, slots := 0, locals := 0 } : Room) Z #[(.ref a1)] h0 (fun v h L => v = some (.int nn) ∧ Fr n0 L ∧ h0 = h) := by
  refine own_body (plainFor_of_name (by first | (simp [plainName, overriddenIn]; done) | decide +kernel)) ?_
  intro p e s m below meth c s₁ X0 hx hby hml hown hnm hret hlk hZ e0
  have N0 := Fr.nil n0
  refine own_cast (show entryFrame m #[(.ref a1)] 1 = mkF m 0 #[.val (.ref a1)] [] from by first | (simp [entryFrame, mkF, argsToLocals, Value.category]; done) | rfl) ?_
  show own_Go _ _ _ _ s₁ (mkF m 0 #[.val (.ref a1)] [])
  refine own_go (fun _ k => XS.aloadN X0.here hx rfl (hb hby d21_0) rfl rfl k) ?_
  show own_Go _ _ _ _ s₁ (mkF m 1 #[.val (.ref a1)] [(.ref a1)])
  obtain ⟨T127, X127, e127, st127⟩ := getF X0 hx hZ hown (host := "") (Or.inl (hw _ (List.mem_of_getElem? (i := 61) rfl))) Via.refl e0 Fs (g := (mkF m 1 #[.val (.ref a1)] [(.ref a1)])) rfl rfl (hb hby d21_1)
  refine own_go (st127) ?_
  show own_Go _ _ _ _ T127 (mkF m 4 #[.val (.ref a1)] [(.int nn)])
  exact own_retI X127 hx hret hlk (hb hby d21_4) (by decide) (by decide) (by first | exact ⟨rfl, N0, rfl⟩ | (rw [e127]; exact ⟨rfl, N0, rfl⟩))
set_option maxRecDepth 65536 in
set_option maxHeartbeats 40000000 in
theorem rmEq (l : Launch) (Z : State) (a0 : Array Value) (hw : ∀ d ∈ tables_1, d.before a0 Z = true) (ws : List Jvm.Cond) (a1 : Addr) (h0 : Heap) (n0 : Nat) (Z0 : n0 ≤ h0.size) :
    own_Met l (⟨"java/lang/String", "equals", "(Ljava/lang/Object;)Z"⟩ : MethodName) jdk_42_method_66_code 3 (some .boolean) ws ({ frames := 0, cells := 0, slots := 0, locals := 0 } : Room) Z #[(.ref a1), (.ref a1)] h0 (fun v h L => v = some (.int 1) ∧ Fr n0 L ∧ h0 = h) := by
  refine own_body (plainFor_of_name (by first | (simp [plainName, overriddenIn]; done) | decide +kernel)) ?_
  intro p e s m below meth c s₁ X0 hx hby hml hown hnm hret hlk hZ e0
  have N0 := Fr.nil n0
  refine own_cast (show entryFrame m #[(.ref a1), (.ref a1)] 3 = mkF m 0 #[.val (.ref a1), .val (.ref a1), .unset] [] from by first | (simp [entryFrame, mkF, argsToLocals, Value.category]; done) | rfl) ?_
  show own_Go _ _ _ _ s₁ (mkF m 0 #[.val (.ref a1), .val (.ref a1), .unset] [])
  refine own_go (fun _ k => XS.aloadN X0.here hx rfl (hb hby d22_0) rfl rfl k) ?_
  show own_Go _ _ _ _ s₁ (mkF m 1 #[.val (.ref a1), .val (.ref a1), .unset] [(.ref a1)])
  refine own_go (fun _ k => XS.aloadN X0.here hx rfl (hb hby d22_1) rfl rfl k) ?_
  show own_Go _ _ _ _ s₁ (mkF m 2 #[.val (.ref a1), .val (.ref a1), .unset] [(.ref a1), (.ref a1)])
  refine own_go (fun _ k => Jvm.RoadKit.acmp (g := (mkF m 2 #[.val (.ref a1), .val (.ref a1), .unset] [(.ref a1), (.ref a1)])) X0 hx rfl rfl rfl (pc0 := 2) (pc' := 5) (same := true) rfl (hb hby d22_2) rfl (decide_eq_true rfl) (by decide) (by decide) k) ?_
  show own_Go _ _ _ _ s₁ (mkF m 5 #[.val (.ref a1), .val (.ref a1), .unset] [])
  refine own_go (fun _ k => XS.iconst X0.here hx rfl (hb hby d22_5) k) ?_
  show own_Go _ _ _ _ s₁ (mkF m 6 #[.val (.ref a1), .val (.ref a1), .unset] [(.int (1 : Int32))])
  exact own_retN X0 hx hret (by simp) hlk (hb hby d22_6) (by decide) (by decide) (by first | exact ⟨rfl, N0, rfl⟩ | (rw [e0]; exact ⟨rfl, N0, rfl⟩))
set_option maxRecDepth 65536 in
set_option maxHeartbeats 40000000 in
theorem rm0 (l : Launch) (Z : State) (a0 : Array Value) (hw : ∀ d ∈ tables_1, d.before a0 Z = true) (ws : List Jvm.Cond) (p1 p2 p3 p4 p5 p6 : Int32) (dd : Addr) (kd : ClassId) (xx : Int32) (h0 : Heap) (n0 : Nat) (Z0 : n0 ≤ h0.size) (O0 : Old Z n0 h0) (S_d : Sta Z Z.heap "java/util/ArrayList" "DEFAULTCAPACITY_EMPTY_ELEMENTDATA" "[Ljava/lang/Object;" (.ref dd)) (V_d : Arv Z Z.heap dd kd (.object "java/lang/Object") (0 : Int32) [] .null) (S_c : Sta Z Z.heap "java/lang/String" "COMPACT_STRINGS" "Z" (.int xx)) (hxx : ¬ xx = (0 : Int32)) :
    own_Met l x code maxLocals ret ws room_1 Z #[(.int p1), (.int p2), (.int p3), (.int p4), (.int p5), (.int p6)] h0 (fun v h L => v = some (.int 1) ∧ Fr n0 L) := by
  refine own_body (plainFor_of_name (by first | (simp [plainName, overriddenIn]; done) | decide +kernel)) ?_
  intro p e s m below meth c s₁ X0 hx hby hml hown hnm hret hlk hZ e0
  have N0 := Fr.nil n0
  refine own_cast (show entryFrame m #[(.int p1), (.int p2), (.int p3), (.int p4), (.int p5), (.int p6)] maxLocals = mkF m 0 #[.val (.int p1), .val (.int p2), .val (.int p3), .val (.int p4), .val (.int p5), .val (.int p6), .unset, .unset, .unset, .unset, .unset, .unset, .unset, .unset, .unset, .unset, .unset, .unset, .unset, .unset] [] from by first | (simp [entryFrame, mkF, argsToLocals, Value.category, maxLocals]; done) | rfl) ?_
  show own_Go _ _ _ _ s₁ (mkF m 0 #[.val (.int p1), .val (.int p2), .val (.int p3), .val (.int p4), .val (.int p5), .val (.int p6), .unset, .unset, .unset, .unset, .unset, .unset, .unset, .unset, .unset, .unset, .unset, .unset, .unset, .unset] [])
  refine own_go (fun _ k => XS.iload X0.here hx rfl (hb hby at_0) rfl k) ?_
  show own_Go _ _ _ _ s₁ (mkF m 2 #[.val (.int p1), .val (.int p2), .val (.int p3), .val (.int p4), .val (.int p5), .val (.int p6), .unset, .unset, .unset, .unset, .unset, .unset, .unset, .unset, .unset, .unset, .unset, .unset, .unset, .unset] [(.int p5)])
  refine own_go (fun _ k => XS.sipush X0.here hx rfl (hb hby at_2) k) ?_
  show own_Go _ _ _ _ s₁ (mkF m 5 #[.val (.int p1), .val (.int p2), .val (.int p3), .val (.int p4), .val (.int p5), .val (.int p6), .unset, .unset, .unset, .unset, .unset, .unset, .unset, .unset, .unset, .unset, .unset, .unset, .unset, .unset] [(.int (255 : Int32)), (.int p5)])
  refine own_go (fun _ k => XS.iand X0.here hx rfl (hb hby at_5) rfl k) ?_
  show own_Go _ _ _ _ s₁ (mkF m 6 #[.val (.int p1), .val (.int p2), .val (.int p3), .val (.int p4), .val (.int p5), .val (.int p6), .unset, .unset, .unset, .unset, .unset, .unset, .unset, .unset, .unset, .unset, .unset, .unset, .unset, .unset] [(.int (p5 &&& (255 : Int32)))])
  refine own_go (fun _ k => XS.i2c X0.here hx rfl (hb hby at_6) rfl k) ?_
  show own_Go _ _ _ _ s₁ (mkF m 7 #[.val (.int p1), .val (.int p2), .val (.int p3), .val (.int p4), .val (.int p5), .val (.int p6), .unset, .unset, .unset, .unset, .unset, .unset, .unset, .unset, .unset, .unset, .unset, .unset, .unset, .unset] [(.int ((p5 &&& (255 : Int32))).toUInt32.toUInt16.toUInt32.toInt32)])
  obtain ⟨v128, T128, h128, L128, X128, e128, hQ128, st128⟩ := own_callS X0 hx hZ hown (hw _ (List.mem_of_getElem? (i := 0) rfl)) (hw _ (List.mem_of_getElem? (i := 1) rfl)) (hw _ (List.mem_of_getElem? (i := 2) rfl)) (hw _ (List.mem_of_getElem? (i := 3) rfl)) (by decide) e0 (argsL := [(.int ((p5 &&& (255 : Int32))).toUInt32.toUInt16.toUInt32.toInt32)]) (rest := []) (rmV l Z a0 hw [] ((p5 &&& (255 : Int32))).toUInt32.toUInt16.toUInt32.toInt32 xx h0 n0 Z0 O0 S_c hxx (own_ch p5)) 0 (by decide) (by decide) (by decide) (by decide) (g := (mkF m 7 #[.val (.int p1), .val (.int p2), .val (.int p3), .val (.int p4), .val (.int p5), .val (.int p6), .unset, .unset, .unset, .unset, .unset, .unset, .unset, .unset, .unset, .unset, .unset, .unset, .unset, .unset] [(.int ((p5 &&& (255 : Int32))).toUInt32.toUInt16.toUInt32.toInt32)])) rfl (by rw [hml]; rfl) (lenOf pd10 rfl) rfl (Nat.le_of_eq rfl) (hb hby at_7)
  obtain ⟨y128, rfl, N128q, K128, E128x, gt128, st128z⟩ := hQ128
  refine own_go (st128) ?_
  have N128 := Fr.app N0 N128q
  have g_y128 := gt128
  show own_Go _ _ _ _ T128 (mkF m 10 #[.val (.int p1), .val (.int p2), .val (.int p3), .val (.int p4), .val (.int p5), .val (.int p6), .unset, .unset, .unset, .unset, .unset, .unset, .unset, .unset, .unset, .unset, .unset, .unset, .unset, .unset] [(.ref y128)])
  refine own_go (fun _ k => XS.astore X128.here hx rfl (hb hby at_10) rfl rfl (l' := #[.val (.int p1), .val (.int p2), .val (.int p3), .val (.int p4), .val (.int p5), .val (.int p6), .val (.ref y128), .unset, .unset, .unset, .unset, .unset, .unset, .unset, .unset, .unset, .unset, .unset, .unset, .unset]) rfl k) ?_
  show own_Go _ _ _ _ T128 (mkF m 12 #[.val (.int p1), .val (.int p2), .val (.int p3), .val (.int p4), .val (.int p5), .val (.int p6), .val (.ref y128), .unset, .unset, .unset, .unset, .unset, .unset, .unset, .unset, .unset, .unset, .unset, .unset, .unset] [])
  refine own_go (fun _ k => XS.iload X128.here hx rfl (hb hby at_12) rfl k) ?_
  show own_Go _ _ _ _ T128 (mkF m 14 #[.val (.int p1), .val (.int p2), .val (.int p3), .val (.int p4), .val (.int p5), .val (.int p6), .val (.ref y128), .unset, .unset, .unset, .unset, .unset, .unset, .unset, .unset, .unset, .unset, .unset, .unset, .unset] [(.int p6)])
  refine own_go (fun _ k => XS.sipush X128.here hx rfl (hb hby at_14) k) ?_
  show own_Go _ _ _ _ T128 (mkF m 17 #[.val (.int p1), .val (.int p2), .val (.int p3), .val (.int p4), .val (.int p5), .val (.int p6), .val (.ref y128), .unset, .unset, .unset, .unset, .unset, .unset, .unset, .unset, .unset, .unset, .unset, .unset, .unset] [(.int (255 : Int32)), (.int p6)])
  refine own_go (fun _ k => XS.iand X128.here hx rfl (hb hby at_17) rfl k) ?_
  show own_Go _ _ _ _ T128 (mkF m 18 #[.val (.int p1), .val (.int p2), .val (.int p3), .val (.int p4), .val (.int p5), .val (.int p6), .val (.ref y128), .unset, .unset, .unset, .unset, .unset, .unset, .unset, .unset, .unset, .unset, .unset, .unset, .unset] [(.int (p6 &&& (255 : Int32)))])
  refine own_go (fun _ k => XS.i2c X128.here hx rfl (hb hby at_18) rfl k) ?_
  show own_Go _ _ _ _ T128 (mkF m 19 #[.val (.int p1), .val (.int p2), .val (.int p3), .val (.int p4), .val (.int p5), .val (.int p6), .val (.ref y128), .unset, .unset, .unset, .unset, .unset, .unset, .unset, .unset, .unset, .unset, .unset, .unset, .unset] [(.int ((p6 &&& (255 : Int32))).toUInt32.toUInt16.toUInt32.toInt32)])
  have f129 := (Nat.le_trans Z0 K128.1)
  have f130 := (O0.keep K128 all0)
  obtain ⟨v131, T131, h131, L131, X131, e131, hQ131, st131⟩ := own_callS X128 hx hZ hown (hw _ (List.mem_of_getElem? (i := 0) rfl)) (hw _ (List.mem_of_getElem? (i := 1) rfl)) (hw _ (List.mem_of_getElem? (i := 2) rfl)) (hw _ (List.mem_of_getElem? (i := 3) rfl)) (by decide) e128 (argsL := [(.int ((p6 &&& (255 : Int32))).toUInt32.toUInt16.toUInt32.toInt32)]) (rest := []) (rmV l Z a0 hw [] ((p6 &&& (255 : Int32))).toUInt32.toUInt16.toUInt32.toInt32 xx h128 n0 f129 f130 S_c hxx (own_ch p6)) 0 (by decide) (by decide) (by decide) (by decide) (g := (mkF m 19 #[.val (.int p1), .val (.int p2), .val (.int p3), .val (.int p4), .val (.int p5), .val (.int p6), .val (.ref y128), .unset, .unset, .unset, .unset, .unset, .unset, .unset, .unset, .unset, .unset, .unset, .unset, .unset] [(.int ((p6 &&& (255 : Int32))).toUInt32.toUInt16.toUInt32.toInt32)])) rfl (by rw [hml]; rfl) (lenOf pd10 rfl) rfl (Nat.le_of_eq rfl) (hb hby at_19)
  obtain ⟨y131, rfl, N131q, K131, E131x, gt131, st131z⟩ := hQ131
  refine own_go (st131) ?_
  have N131 := Fr.app N128 N131q
  have g_y131 := gt131
  have o_y131 : y128 < y131 := Nat.lt_of_lt_of_le E128x.lt st131z
  show own_Go _ _ _ _ T131 (mkF m 22 #[.val (.int p1), .val (.int p2), .val (.int p3), .val (.int p4), .val (.int p5), .val (.int p6), .val (.ref y128), .unset, .unset, .unset, .unset, .unset, .unset, .unset, .unset, .unset, .unset, .unset, .unset, .unset] [(.ref y131)])
  refine own_go (fun _ k => XS.astore X131.here hx rfl (hb hby at_22) rfl rfl (l' := #[.val (.int p1), .val (.int p2), .val (.int p3), .val (.int p4), .val (.int p5), .val (.int p6), .val (.ref y128), .val (.ref y131), .unset, .unset, .unset, .unset, .unset, .unset, .unset, .unset, .unset, .unset, .unset, .unset]) rfl k) ?_
  show own_Go _ _ _ _ T131 (mkF m 24 #[.val (.int p1), .val (.int p2), .val (.int p3), .val (.int p4), .val (.int p5), .val (.int p6), .val (.ref y128), .val (.ref y131), .unset, .unset, .unset, .unset, .unset, .unset, .unset, .unset, .unset, .unset, .unset, .unset] [])
  have f133 := (Nat.le_trans f129 K131.1)
  obtain ⟨T132, h132, X132, e132, E132, A132, D132, -, st132⟩ := newO X131 hx hZ hown (hw _ (List.mem_of_getElem? (i := 26) rfl)) (hw _ (List.mem_of_getElem? (i := 27) rfl)) (hw _ (List.mem_of_getElem? (i := 28) rfl)) e131 (g := (mkF m 24 #[.val (.int p1), .val (.int p2), .val (.int p3), .val (.int p4), .val (.int p5), .val (.int p6), .val (.ref y128), .val (.ref y131), .unset, .unset, .unset, .unset, .unset, .unset, .unset, .unset, .unset, .unset, .unset, .unset] [])) rfl (hb hby at_24) (by decide) (by decide)
  obtain ⟨b132, g132⟩ : ∃ z, z = h131.size := ⟨_, rfl⟩
  rw [← g132] at A132 D132 st132
  refine own_go (st132) ?_
  have g_b132 : n0 ≤ b132 := Nat.le_trans f133 (Nat.le_of_eq g132.symm)
  have o_b132 : y131 < b132 := Nat.lt_of_lt_of_le E131x.lt (Nat.le_of_eq g132.symm)
  have F132_modCount : Fld Z h132 b132 "java/util/AbstractList" "modCount" "I" (.int (0 : Int32)) := D132 (Or.inl (hw _ (List.mem_of_getElem? (i := 46) rfl))) (ty := .int) (by decide)
  have F132_elementData : Fld Z h132 b132 "java/util/ArrayList" "elementData" "[Ljava/lang/Object;" .null := D132 (Or.inl (hw _ (List.mem_of_getElem? (i := 49) rfl))) (ty := (.array (.object "java/lang/Object"))) (by decide)
  have F132_size : Fld Z h132 b132 "java/util/ArrayList" "size" "I" (.int (0 : Int32)) := D132 (Or.inl (hw _ (List.mem_of_getElem? (i := 62) rfl))) (ty := .int) (by decide)
  show own_Go _ _ _ _ T132 (mkF m 27 #[.val (.int p1), .val (.int p2), .val (.int p3), .val (.int p4), .val (.int p5), .val (.int p6), .val (.ref y128), .val (.ref y131), .unset, .unset, .unset, .unset, .unset, .unset, .unset, .unset, .unset, .unset, .unset, .unset] [(.ref b132)])
  refine own_go (fun _ k => XS.dup X132.here hx rfl (hb hby at_27) rfl rfl k) ?_
  show own_Go _ _ _ _ T132 (mkF m 28 #[.val (.int p1), .val (.int p2), .val (.int p3), .val (.int p4), .val (.int p5), .val (.int p6), .val (.ref y128), .val (.ref y131), .unset, .unset, .unset, .unset, .unset, .unset, .unset, .unset, .unset, .unset, .unset, .unset] [(.ref b132), (.ref b132)])
  have f134 := (Nat.le_trans f133 E132.1)
  have f135 := ((f130.keep K131 all0).ext E132)
  obtain ⟨v136, T136, h136, L136, X136, e136, hQ136, st136⟩ := own_callI X132 hx hZ rfl hown (hw _ (List.mem_of_getElem? (i := 29) rfl)) (hw _ (List.mem_of_getElem? (i := 30) rfl)) (hw _ (List.mem_of_getElem? (i := 28) rfl)) (hw _ (List.mem_of_getElem? (i := 31) rfl)) (by decide) e132 (a := b132) (argsL := []) (rest := [(.ref b132)]) (rmI l Z a0 hw [] b132 dd kd h132 n0 f134 f135 S_d V_d A132 F132_modCount F132_size F132_elementData g_b132) 1 (by decide) (by decide) (by decide) (by decide) (g := (mkF m 28 #[.val (.int p1), .val (.int p2), .val (.int p3), .val (.int p4), .val (.int p5), .val (.int p6), .val (.ref y128), .val (.ref y131), .unset, .unset, .unset, .unset, .unset, .unset, .unset, .unset, .unset, .unset, .unset, .unset] [(.ref b132), (.ref b132)])) rfl (by rw [hml]; rfl) (lenOf pd0 rfl) rfl (Nat.le_of_eq rfl) (hb hby at_28)
  obtain ⟨rfl, N136q, K136, E136x, F136m, F136s, F136d⟩ := hQ136
  refine own_go (st136) ?_
  have N136 := Fr.app N131 N136q
  show own_Go _ _ _ _ T136 (mkF m 31 #[.val (.int p1), .val (.int p2), .val (.int p3), .val (.int p4), .val (.int p5), .val (.int p6), .val (.ref y128), .val (.ref y131), .unset, .unset, .unset, .unset, .unset, .unset, .unset, .unset, .unset, .unset, .unset, .unset] [(.ref b132)])
  refine own_go (fun _ k => XS.astore X136.here hx rfl (hb hby at_31) rfl rfl (l' := #[.val (.int p1), .val (.int p2), .val (.int p3), .val (.int p4), .val (.int p5), .val (.int p6), .val (.ref y128), .val (.ref y131), .val (.ref b132), .unset, .unset, .unset, .unset, .unset, .unset, .unset, .unset, .unset, .unset, .unset]) rfl k) ?_
  show own_Go _ _ _ _ T136 (mkF m 33 #[.val (.int p1), .val (.int p2), .val (.int p3), .val (.int p4), .val (.int p5), .val (.int p6), .val (.ref y128), .val (.ref y131), .val (.ref b132), .unset, .unset, .unset, .unset, .unset, .unset, .unset, .unset, .unset, .unset, .unset] [])
  refine own_go (fun _ k => XS.aload X136.here hx rfl (hb hby at_33) rfl rfl k) ?_
  show own_Go _ _ _ _ T136 (mkF m 35 #[.val (.int p1), .val (.int p2), .val (.int p3), .val (.int p4), .val (.int p5), .val (.int p6), .val (.ref y128), .val (.ref y131), .val (.ref b132), .unset, .unset, .unset, .unset, .unset, .unset, .unset, .unset, .unset, .unset, .unset] [(.ref b132)])
  refine own_go (fun _ k => XS.aload X136.here hx rfl (hb hby at_35) rfl rfl k) ?_
  show own_Go _ _ _ _ T136 (mkF m 37 #[.val (.int p1), .val (.int p2), .val (.int p3), .val (.int p4), .val (.int p5), .val (.int p6), .val (.ref y128), .val (.ref y131), .val (.ref b132), .unset, .unset, .unset, .unset, .unset, .unset, .unset, .unset, .unset, .unset, .unset] [(.ref y128), (.ref b132)])
  have f137 := (((E128x.keep K131).ext E132).keep K136)
  have f138 := (Nat.le_trans f134 K136.1)
  have f139 := (f135.keep K136 (allS g_b132 all0))
  obtain ⟨v140, T140, h140, L140, X140, e140, hQ140, st140⟩ := own_callF X136 hx hZ hown (hw _ (List.mem_of_getElem? (i := 50) rfl)) (hw _ (List.mem_of_getElem? (i := 51) rfl)) (mvT hZ (hw _ (List.mem_of_getElem? (i := 52) rfl))) (hw _ (List.mem_of_getElem? (i := 53) rfl)) (hw _ (List.mem_of_getElem? (i := 54) rfl)) (hw _ (List.mem_of_getElem? (i := 55) rfl)) (hw _ (List.mem_of_getElem? (i := 56) rfl)) (hw _ (List.mem_of_getElem? (i := 57) rfl)) (hw _ (List.mem_of_getElem? (i := 28) rfl)) (hw _ (List.mem_of_getElem? (i := 58) rfl)) (by decide) e136 E136x (argsL := [(.ref y128)]) (rest := []) (rmAf l Z a0 hw [] b132 (0 : Int32) y128 "java/lang/String" dd kd h136 n0 f138 f139 S_d V_d E136x F136m F136s F136d g_b132 f137 (hw _ (List.mem_of_getElem? (i := 84) rfl))) 0 (by decide) (by decide) (by decide) (by decide) (g := (mkF m 37 #[.val (.int p1), .val (.int p2), .val (.int p3), .val (.int p4), .val (.int p5), .val (.int p6), .val (.ref y128), .val (.ref y131), .val (.ref b132), .unset, .unset, .unset, .unset, .unset, .unset, .unset, .unset, .unset, .unset, .unset] [(.ref y128), (.ref b132)])) rfl (by rw [hml]; rfl) (lenOf pd11 rfl) rfl (Nat.le_of_eq rfl) (hb hby at_37)
  obtain ⟨rfl, N140q, t140, k140, K140, E140x, F140m, F140s, F140d, gt140, st140z, V140, O140⟩ := hQ140
  refine own_go (st140) ?_
  have N140 := Fr.app N136 N140q
  have g_t140 := gt140
  have o_t140 : b132 < t140 := Nat.lt_of_lt_of_le E136x.lt st140z
  show own_Go _ _ _ _ T140 (mkF m 42 #[.val (.int p1), .val (.int p2), .val (.int p3), .val (.int p4), .val (.int p5), .val (.int p6), .val (.ref y128), .val (.ref y131), .val (.ref b132), .unset, .unset, .unset, .unset, .unset, .unset, .unset, .unset, .unset, .unset, .unset] [(.int (1 : Int32))])
  refine own_go (fun _ k => XS.pop X140.here hx rfl (hb hby at_42) rfl rfl k) ?_
  show own_Go _ _ _ _ T140 (mkF m 43 #[.val (.int p1), .val (.int p2), .val (.int p3), .val (.int p4), .val (.int p5), .val (.int p6), .val (.ref y128), .val (.ref y131), .val (.ref b132), .unset, .unset, .unset, .unset, .unset, .unset, .unset, .unset, .unset, .unset, .unset] [])
  have f142 := (Nat.le_trans f138 K140.1)
  obtain ⟨T141, h141, X141, e141, E141, A141, D141, -, st141⟩ := newO X140 hx hZ hown (hw _ (List.mem_of_getElem? (i := 26) rfl)) (hw _ (List.mem_of_getElem? (i := 27) rfl)) (hw _ (List.mem_of_getElem? (i := 28) rfl)) e140 (g := (mkF m 43 #[.val (.int p1), .val (.int p2), .val (.int p3), .val (.int p4), .val (.int p5), .val (.int p6), .val (.ref y128), .val (.ref y131), .val (.ref b132), .unset, .unset, .unset, .unset, .unset, .unset, .unset, .unset, .unset, .unset, .unset] [])) rfl (hb hby at_43) (by decide) (by decide)
  obtain ⟨b141, g141⟩ : ∃ z, z = h140.size := ⟨_, rfl⟩
  rw [← g141] at A141 D141 st141
  refine own_go (st141) ?_
  have g_b141 : n0 ≤ b141 := Nat.le_trans f142 (Nat.le_of_eq g141.symm)
  have o_b141 : t140 < b141 := Nat.lt_of_lt_of_le V140.lt (Nat.le_of_eq g141.symm)
  have F141_modCount : Fld Z h141 b141 "java/util/AbstractList" "modCount" "I" (.int (0 : Int32)) := D141 (Or.inl (hw _ (List.mem_of_getElem? (i := 46) rfl))) (ty := .int) (by decide)
  have F141_elementData : Fld Z h141 b141 "java/util/ArrayList" "elementData" "[Ljava/lang/Object;" .null := D141 (Or.inl (hw _ (List.mem_of_getElem? (i := 49) rfl))) (ty := (.array (.object "java/lang/Object"))) (by decide)
  have F141_size : Fld Z h141 b141 "java/util/ArrayList" "size" "I" (.int (0 : Int32)) := D141 (Or.inl (hw _ (List.mem_of_getElem? (i := 62) rfl))) (ty := .int) (by decide)
  show own_Go _ _ _ _ T141 (mkF m 46 #[.val (.int p1), .val (.int p2), .val (.int p3), .val (.int p4), .val (.int p5), .val (.int p6), .val (.ref y128), .val (.ref y131), .val (.ref b132), .unset, .unset, .unset, .unset, .unset, .unset, .unset, .unset, .unset, .unset, .unset] [(.ref b141)])
  refine own_go (fun _ k => XS.dup X141.here hx rfl (hb hby at_46) rfl rfl k) ?_
  show own_Go _ _ _ _ T141 (mkF m 47 #[.val (.int p1), .val (.int p2), .val (.int p3), .val (.int p4), .val (.int p5), .val (.int p6), .val (.ref y128), .val (.ref y131), .val (.ref b132), .unset, .unset, .unset, .unset, .unset, .unset, .unset, .unset, .unset, .unset, .unset] [(.ref b141), (.ref b141)])
  have f143 := (Nat.le_trans f142 E141.1)
  have f144 := ((f139.keep K140 (allS g_b132 all0)).ext E141)
  obtain ⟨v145, T145, h145, L145, X145, e145, hQ145, st145⟩ := own_callI X141 hx hZ rfl hown (hw _ (List.mem_of_getElem? (i := 29) rfl)) (hw _ (List.mem_of_getElem? (i := 30) rfl)) (hw _ (List.mem_of_getElem? (i := 28) rfl)) (hw _ (List.mem_of_getElem? (i := 31) rfl)) (by decide) e141 (a := b141) (argsL := []) (rest := [(.ref b141)]) (rmI l Z a0 hw [] b141 dd kd h141 n0 f143 f144 S_d V_d A141 F141_modCount F141_size F141_elementData g_b141) 1 (by decide) (by decide) (by decide) (by decide) (g := (mkF m 47 #[.val (.int p1), .val (.int p2), .val (.int p3), .val (.int p4), .val (.int p5), .val (.int p6), .val (.ref y128), .val (.ref y131), .val (.ref b132), .unset, .unset, .unset, .unset, .unset, .unset, .unset, .unset, .unset, .unset, .unset] [(.ref b141), (.ref b141)])) rfl (by rw [hml]; rfl) (lenOf pd0 rfl) rfl (Nat.le_of_eq rfl) (hb hby at_47)
  obtain ⟨rfl, N145q, K145, E145x, F145m, F145s, F145d⟩ := hQ145
  refine own_go (st145) ?_
  have N145 := Fr.app N140 N145q
  show own_Go _ _ _ _ T145 (mkF m 50 #[.val (.int p1), .val (.int p2), .val (.int p3), .val (.int p4), .val (.int p5), .val (.int p6), .val (.ref y128), .val (.ref y131), .val (.ref b132), .unset, .unset, .unset, .unset, .unset, .unset, .unset, .unset, .unset, .unset, .unset] [(.ref b141)])
  refine own_go (fun _ k => XS.astore X145.here hx rfl (hb hby at_50) rfl rfl (l' := #[.val (.int p1), .val (.int p2), .val (.int p3), .val (.int p4), .val (.int p5), .val (.int p6), .val (.ref y128), .val (.ref y131), .val (.ref b132), .val (.ref b141), .unset, .unset, .unset, .unset, .unset, .unset, .unset, .unset, .unset, .unset]) rfl k) ?_
  show own_Go _ _ _ _ T145 (mkF m 52 #[.val (.int p1), .val (.int p2), .val (.int p3), .val (.int p4), .val (.int p5), .val (.int p6), .val (.ref y128), .val (.ref y131), .val (.ref b132), .val (.ref b141), .unset, .unset, .unset, .unset, .unset, .unset, .unset, .unset, .unset, .unset] [])
  refine own_go (fun _ k => XS.aload X145.here hx rfl (hb hby at_52) rfl rfl k) ?_
  show own_Go _ _ _ _ T145 (mkF m 54 #[.val (.int p1), .val (.int p2), .val (.int p3), .val (.int p4), .val (.int p5), .val (.int p6), .val (.ref y128), .val (.ref y131), .val (.ref b132), .val (.ref b141), .unset, .unset, .unset, .unset, .unset, .unset, .unset, .unset, .unset, .unset] [(.ref b141)])
  refine own_go (fun _ k => XS.aload X145.here hx rfl (hb hby at_54) rfl rfl k) ?_
  show own_Go _ _ _ _ T145 (mkF m 56 #[.val (.int p1), .val (.int p2), .val (.int p3), .val (.int p4), .val (.int p5), .val (.int p6), .val (.ref y128), .val (.ref y131), .val (.ref b132), .val (.ref b141), .unset, .unset, .unset, .unset, .unset, .unset, .unset, .unset, .unset, .unset] [(.ref y131), (.ref b141)])
  have f146 := (((((E131x.ext E132).keep K136).keep K140).ext E141).keep K145)
  have f147 := (Nat.le_trans f143 K145.1)
  have f148 := (f144.keep K145 (allS g_b141 all0))
  obtain ⟨v149, T149, h149, L149, X149, e149, hQ149, st149⟩ := own_callF X145 hx hZ hown (hw _ (List.mem_of_getElem? (i := 50) rfl)) (hw _ (List.mem_of_getElem? (i := 51) rfl)) (mvT hZ (hw _ (List.mem_of_getElem? (i := 52) rfl))) (hw _ (List.mem_of_getElem? (i := 53) rfl)) (hw _ (List.mem_of_getElem? (i := 54) rfl)) (hw _ (List.mem_of_getElem? (i := 55) rfl)) (hw _ (List.mem_of_getElem? (i := 56) rfl)) (hw _ (List.mem_of_getElem? (i := 57) rfl)) (hw _ (List.mem_of_getElem? (i := 28) rfl)) (hw _ (List.mem_of_getElem? (i := 58) rfl)) (by decide) e145 E145x (argsL := [(.ref y131)]) (rest := []) (rmAf l Z a0 hw [] b141 (0 : Int32) y131 "java/lang/String" dd kd h145 n0 f147 f148 S_d V_d E145x F145m F145s F145d g_b141 f146 (hw _ (List.mem_of_getElem? (i := 84) rfl))) 0 (by decide) (by decide) (by decide) (by decide) (g := (mkF m 56 #[.val (.int p1), .val (.int p2), .val (.int p3), .val (.int p4), .val (.int p5), .val (.int p6), .val (.ref y128), .val (.ref y131), .val (.ref b132), .val (.ref b141), .unset, .unset, .unset, .unset, .unset, .unset, .unset, .unset, .unset, .unset] [(.ref y131), (.ref b141)])) rfl (by rw [hml]; rfl) (lenOf pd11 rfl) rfl (Nat.le_of_eq rfl) (hb hby at_56)
  obtain ⟨rfl, N149q, t149, k149, K149, E149x, F149m, F149s, F149d, gt149, st149z, V149, O149⟩ := hQ149
  refine own_go (st149) ?_
  have N149 := Fr.app N145 N149q
  have g_t149 := gt149
  have o_t149 : b141 < t149 := Nat.lt_of_lt_of_le E145x.lt st149z
  show own_Go _ _ _ _ T149 (mkF m 61 #[.val (.int p1), .val (.int p2), .val (.int p3), .val (.int p4), .val (.int p5), .val (.int p6), .val (.ref y128), .val (.ref y131), .val (.ref b132), .val (.ref b141), .unset, .unset, .unset, .unset, .unset, .unset, .unset, .unset, .unset, .unset] [(.int (1 : Int32))])
  refine own_go (fun _ k => XS.pop X149.here hx rfl (hb hby at_61) rfl rfl k) ?_
  show own_Go _ _ _ _ T149 (mkF m 62 #[.val (.int p1), .val (.int p2), .val (.int p3), .val (.int p4), .val (.int p5), .val (.int p6), .val (.ref y128), .val (.ref y131), .val (.ref b132), .val (.ref b141), .unset, .unset, .unset, .unset, .unset, .unset, .unset, .unset, .unset, .unset] [])
  refine own_go (fun _ k => XS.aload X149.here hx rfl (hb hby at_62) rfl rfl k) ?_
  show own_Go _ _ _ _ T149 (mkF m 64 #[.val (.int p1), .val (.int p2), .val (.int p3), .val (.int p4), .val (.int p5), .val (.int p6), .val (.ref y128), .val (.ref y131), .val (.ref b132), .val (.ref b141), .unset, .unset, .unset, .unset, .unset, .unset, .unset, .unset, .unset, .unset] [(.ref b141)])
  refine own_go (fun _ k => XS.aload X149.here hx rfl (hb hby at_64) rfl rfl k) ?_
  show own_Go _ _ _ _ T149 (mkF m 66 #[.val (.int p1), .val (.int p2), .val (.int p3), .val (.int p4), .val (.int p5), .val (.int p6), .val (.ref y128), .val (.ref y131), .val (.ref b132), .val (.ref b141), .unset, .unset, .unset, .unset, .unset, .unset, .unset, .unset, .unset, .unset] [(.ref y128), (.ref b141)])
  have f150 := ((((f137.keep K140).ext E141).keep K145).keep K149)
  have f151 := (Nat.le_trans f147 K149.1)
  have f152 := (f148.keep K149 (allS g_b141 all0))
  obtain ⟨v153, T153, h153, L153, X153, e153, hQ153, st153⟩ := own_callF X149 hx hZ hown (hw _ (List.mem_of_getElem? (i := 50) rfl)) (hw _ (List.mem_of_getElem? (i := 51) rfl)) (mvT hZ (hw _ (List.mem_of_getElem? (i := 52) rfl))) (hw _ (List.mem_of_getElem? (i := 53) rfl)) (hw _ (List.mem_of_getElem? (i := 54) rfl)) (hw _ (List.mem_of_getElem? (i := 55) rfl)) (hw _ (List.mem_of_getElem? (i := 56) rfl)) (hw _ (List.mem_of_getElem? (i := 57) rfl)) (hw _ (List.mem_of_getElem? (i := 28) rfl)) (hw _ (List.mem_of_getElem? (i := 58) rfl)) (by decide) e149 E149x (argsL := [(.ref y128)]) (rest := []) (rmAn l Z a0 hw [] b141 ((0 : Int32) + (1 : Int32)) y128 "java/lang/String" t149 k149 [(.ref y131), .null, .null, .null, .null, .null, .null, .null, .null, .null] (1 : Int32) 1 h149 n0 f151 f152 E149x F149m F149s F149d g_b141 f150 (hw _ (List.mem_of_getElem? (i := 84) rfl)) V149 O149 g_t149 (Ne.symm (Nat.ne_of_lt o_t149)) ⟨by decide, by decide⟩ (by decide) (Nat.le_of_ble_eq_true rfl)) 0 (by decide) (by decide) (by decide) (by decide) (g := (mkF m 66 #[.val (.int p1), .val (.int p2), .val (.int p3), .val (.int p4), .val (.int p5), .val (.int p6), .val (.ref y128), .val (.ref y131), .val (.ref b132), .val (.ref b141), .unset, .unset, .unset, .unset, .unset, .unset, .unset, .unset, .unset, .unset] [(.ref y128), (.ref b141)])) rfl (by rw [hml]; rfl) (lenOf pd11 rfl) rfl (Nat.le_of_eq rfl) (hb hby at_66)
  obtain ⟨rfl, N153q, K153, E153x, F153m, F153s, F153d, V153⟩ := hQ153
  refine own_go (st153) ?_
  have N153 := Fr.app N149 N153q
  rw [show ((1 : Int32) + (1 : Int32)) = (2 : Int32) from by decide] at F153s
  have V153x : Arv Z h153 t149 k149 (.object "java/lang/Object") (10 : Int32) [(.ref y131), (.ref y128), .null, .null, .null, .null, .null, .null, .null, .null] .null := V153
  show own_Go _ _ _ _ T153 (mkF m 71 #[.val (.int p1), .val (.int p2), .val (.int p3), .val (.int p4), .val (.int p5), .val (.int p6), .val (.ref y128), .val (.ref y131), .val (.ref b132), .val (.ref b141), .unset, .unset, .unset, .unset, .unset, .unset, .unset, .unset, .unset, .unset] [(.int (1 : Int32))])
  refine own_go (fun _ k => XS.pop X153.here hx rfl (hb hby at_71) rfl rfl k) ?_
  show own_Go _ _ _ _ T153 (mkF m 72 #[.val (.int p1), .val (.int p2), .val (.int p3), .val (.int p4), .val (.int p5), .val (.int p6), .val (.ref y128), .val (.ref y131), .val (.ref b132), .val (.ref b141), .unset, .unset, .unset, .unset, .unset, .unset, .unset, .unset, .unset, .unset] [])
  have f155 := (Nat.le_trans f151 K153.1)
  obtain ⟨T154, h154, X154, e154, E154, A154, D154, -, st154⟩ := newO X153 hx hZ hown (hw _ (List.mem_of_getElem? (i := 26) rfl)) (hw _ (List.mem_of_getElem? (i := 27) rfl)) (hw _ (List.mem_of_getElem? (i := 28) rfl)) e153 (g := (mkF m 72 #[.val (.int p1), .val (.int p2), .val (.int p3), .val (.int p4), .val (.int p5), .val (.int p6), .val (.ref y128), .val (.ref y131), .val (.ref b132), .val (.ref b141), .unset, .unset, .unset, .unset, .unset, .unset, .unset, .unset, .unset, .unset] [])) rfl (hb hby at_72) (by decide) (by decide)
  obtain ⟨b154, g154⟩ : ∃ z, z = h153.size := ⟨_, rfl⟩
  rw [← g154] at A154 D154 st154
  refine own_go (st154) ?_
  have g_b154 : n0 ≤ b154 := Nat.le_trans f155 (Nat.le_of_eq g154.symm)
  have o_b154 : t149 < b154 := Nat.lt_of_lt_of_le V153x.lt (Nat.le_of_eq g154.symm)
  have F154_modCount : Fld Z h154 b154 "java/util/AbstractList" "modCount" "I" (.int (0 : Int32)) := D154 (Or.inl (hw _ (List.mem_of_getElem? (i := 46) rfl))) (ty := .int) (by decide)
  have F154_elementData : Fld Z h154 b154 "java/util/ArrayList" "elementData" "[Ljava/lang/Object;" .null := D154 (Or.inl (hw _ (List.mem_of_getElem? (i := 49) rfl))) (ty := (.array (.object "java/lang/Object"))) (by decide)
  have F154_size : Fld Z h154 b154 "java/util/ArrayList" "size" "I" (.int (0 : Int32)) := D154 (Or.inl (hw _ (List.mem_of_getElem? (i := 62) rfl))) (ty := .int) (by decide)
  show own_Go _ _ _ _ T154 (mkF m 75 #[.val (.int p1), .val (.int p2), .val (.int p3), .val (.int p4), .val (.int p5), .val (.int p6), .val (.ref y128), .val (.ref y131), .val (.ref b132), .val (.ref b141), .unset, .unset, .unset, .unset, .unset, .unset, .unset, .unset, .unset, .unset] [(.ref b154)])
  refine own_go (fun _ k => XS.dup X154.here hx rfl (hb hby at_75) rfl rfl k) ?_
  show own_Go _ _ _ _ T154 (mkF m 76 #[.val (.int p1), .val (.int p2), .val (.int p3), .val (.int p4), .val (.int p5), .val (.int p6), .val (.ref y128), .val (.ref y131), .val (.ref b132), .val (.ref b141), .unset, .unset, .unset, .unset, .unset, .unset, .unset, .unset, .unset, .unset] [(.ref b154), (.ref b154)])
  have f156 := (Nat.le_trans f155 E154.1)
  have f157 := ((f152.keep K153 (allS g_b141 (allS g_t149 all0))).ext E154)
  obtain ⟨v158, T158, h158, L158, X158, e158, hQ158, st158⟩ := own_callI X154 hx hZ rfl hown (hw _ (List.mem_of_getElem? (i := 29) rfl)) (hw _ (List.mem_of_getElem? (i := 30) rfl)) (hw _ (List.mem_of_getElem? (i := 28) rfl)) (hw _ (List.mem_of_getElem? (i := 31) rfl)) (by decide) e154 (a := b154) (argsL := []) (rest := [(.ref b154)]) (rmI l Z a0 hw [] b154 dd kd h154 n0 f156 f157 S_d V_d A154 F154_modCount F154_size F154_elementData g_b154) 1 (by decide) (by decide) (by decide) (by decide) (g := (mkF m 76 #[.val (.int p1), .val (.int p2), .val (.int p3), .val (.int p4), .val (.int p5), .val (.int p6), .val (.ref y128), .val (.ref y131), .val (.ref b132), .val (.ref b141), .unset, .unset, .unset, .unset, .unset, .unset, .unset, .unset, .unset, .unset] [(.ref b154), (.ref b154)])) rfl (by rw [hml]; rfl) (lenOf pd0 rfl) rfl (Nat.le_of_eq rfl) (hb hby at_76)
  obtain ⟨rfl, N158q, K158, E158x, F158m, F158s, F158d⟩ := hQ158
  refine own_go (st158) ?_
  have N158 := Fr.app N153 N158q
  show own_Go _ _ _ _ T158 (mkF m 79 #[.val (.int p1), .val (.int p2), .val (.int p3), .val (.int p4), .val (.int p5), .val (.int p6), .val (.ref y128), .val (.ref y131), .val (.ref b132), .val (.ref b141), .unset, .unset, .unset, .unset, .unset, .unset, .unset, .unset, .unset, .unset] [(.ref b154)])
  refine own_go (fun _ k => XS.astore X158.here hx rfl (hb hby at_79) rfl rfl (l' := #[.val (.int p1), .val (.int p2), .val (.int p3), .val (.int p4), .val (.int p5), .val (.int p6), .val (.ref y128), .val (.ref y131), .val (.ref b132), .val (.ref b141), .val (.ref b154), .unset, .unset, .unset, .unset, .unset, .unset, .unset, .unset, .unset]) rfl k) ?_
  show own_Go _ _ _ _ T158 (mkF m 81 #[.val (.int p1), .val (.int p2), .val (.int p3), .val (.int p4), .val (.int p5), .val (.int p6), .val (.ref y128), .val (.ref y131), .val (.ref b132), .val (.ref b141), .val (.ref b154), .unset, .unset, .unset, .unset, .unset, .unset, .unset, .unset, .unset] [])
  have f160 := (Nat.le_trans f156 K158.1)
  obtain ⟨T159, h159, X159, e159, E159, A159, D159, -, st159⟩ := newO X158 hx hZ hown (hw _ (List.mem_of_getElem? (i := 26) rfl)) (hw _ (List.mem_of_getElem? (i := 27) rfl)) (hw _ (List.mem_of_getElem? (i := 28) rfl)) e158 (g := (mkF m 81 #[.val (.int p1), .val (.int p2), .val (.int p3), .val (.int p4), .val (.int p5), .val (.int p6), .val (.ref y128), .val (.ref y131), .val (.ref b132), .val (.ref b141), .val (.ref b154), .unset, .unset, .unset, .unset, .unset, .unset, .unset, .unset, .unset] [])) rfl (hb hby at_81) (by decide) (by decide)
  obtain ⟨b159, g159⟩ : ∃ z, z = h158.size := ⟨_, rfl⟩
  rw [← g159] at A159 D159 st159
  refine own_go (st159) ?_
  have g_b159 : n0 ≤ b159 := Nat.le_trans f160 (Nat.le_of_eq g159.symm)
  have o_b159 : b154 < b159 := Nat.lt_of_lt_of_le E158x.lt (Nat.le_of_eq g159.symm)
  have F159_modCount : Fld Z h159 b159 "java/util/AbstractList" "modCount" "I" (.int (0 : Int32)) := D159 (Or.inl (hw _ (List.mem_of_getElem? (i := 46) rfl))) (ty := .int) (by decide)
  have F159_elementData : Fld Z h159 b159 "java/util/ArrayList" "elementData" "[Ljava/lang/Object;" .null := D159 (Or.inl (hw _ (List.mem_of_getElem? (i := 49) rfl))) (ty := (.array (.object "java/lang/Object"))) (by decide)
  have F159_size : Fld Z h159 b159 "java/util/ArrayList" "size" "I" (.int (0 : Int32)) := D159 (Or.inl (hw _ (List.mem_of_getElem? (i := 62) rfl))) (ty := .int) (by decide)
  show own_Go _ _ _ _ T159 (mkF m 84 #[.val (.int p1), .val (.int p2), .val (.int p3), .val (.int p4), .val (.int p5), .val (.int p6), .val (.ref y128), .val (.ref y131), .val (.ref b132), .val (.ref b141), .val (.ref b154), .unset, .unset, .unset, .unset, .unset, .unset, .unset, .unset, .unset] [(.ref b159)])
  refine own_go (fun _ k => XS.dup X159.here hx rfl (hb hby at_84) rfl rfl k) ?_
  show own_Go _ _ _ _ T159 (mkF m 85 #[.val (.int p1), .val (.int p2), .val (.int p3), .val (.int p4), .val (.int p5), .val (.int p6), .val (.ref y128), .val (.ref y131), .val (.ref b132), .val (.ref b141), .val (.ref b154), .unset, .unset, .unset, .unset, .unset, .unset, .unset, .unset, .unset] [(.ref b159), (.ref b159)])
  have f161 := (Nat.le_trans f160 E159.1)
  have f162 := ((f157.keep K158 (allS g_b154 all0)).ext E159)
  obtain ⟨v163, T163, h163, L163, X163, e163, hQ163, st163⟩ := own_callI X159 hx hZ rfl hown (hw _ (List.mem_of_getElem? (i := 29) rfl)) (hw _ (List.mem_of_getElem? (i := 30) rfl)) (hw _ (List.mem_of_getElem? (i := 28) rfl)) (hw _ (List.mem_of_getElem? (i := 31) rfl)) (by decide) e159 (a := b159) (argsL := []) (rest := [(.ref b159)]) (rmI l Z a0 hw [] b159 dd kd h159 n0 f161 f162 S_d V_d A159 F159_modCount F159_size F159_elementData g_b159) 1 (by decide) (by decide) (by decide) (by decide) (g := (mkF m 85 #[.val (.int p1), .val (.int p2), .val (.int p3), .val (.int p4), .val (.int p5), .val (.int p6), .val (.ref y128), .val (.ref y131), .val (.ref b132), .val (.ref b141), .val (.ref b154), .unset, .unset, .unset, .unset, .unset, .unset, .unset, .unset, .unset] [(.ref b159), (.ref b159)])) rfl (by rw [hml]; rfl) (lenOf pd0 rfl) rfl (Nat.le_of_eq rfl) (hb hby at_85)
  obtain ⟨rfl, N163q, K163, E163x, F163m, F163s, F163d⟩ := hQ163
  refine own_go (st163) ?_
  have N163 := Fr.app N158 N163q
  show own_Go _ _ _ _ T163 (mkF m 88 #[.val (.int p1), .val (.int p2), .val (.int p3), .val (.int p4), .val (.int p5), .val (.int p6), .val (.ref y128), .val (.ref y131), .val (.ref b132), .val (.ref b141), .val (.ref b154), .unset, .unset, .unset, .unset, .unset, .unset, .unset, .unset, .unset] [(.ref b159)])
  refine own_go (fun _ k => XS.astore X163.here hx rfl (hb hby at_88) rfl rfl (l' := #[.val (.int p1), .val (.int p2), .val (.int p3), .val (.int p4), .val (.int p5), .val (.int p6), .val (.ref y128), .val (.ref y131), .val (.ref b132), .val (.ref b141), .val (.ref b154), .val (.ref b159), .unset, .unset, .unset, .unset, .unset, .unset, .unset, .unset]) rfl k) ?_
  show own_Go _ _ _ _ T163 (mkF m 90 #[.val (.int p1), .val (.int p2), .val (.int p3), .val (.int p4), .val (.int p5), .val (.int p6), .val (.ref y128), .val (.ref y131), .val (.ref b132), .val (.ref b141), .val (.ref b154), .val (.ref b159), .unset, .unset, .unset, .unset, .unset, .unset, .unset, .unset] [])
  refine own_go (fun _ k => XS.aload X163.here hx rfl (hb hby at_90) rfl rfl k) ?_
  show own_Go _ _ _ _ T163 (mkF m 92 #[.val (.int p1), .val (.int p2), .val (.int p3), .val (.int p4), .val (.int p5), .val (.int p6), .val (.ref y128), .val (.ref y131), .val (.ref b132), .val (.ref b141), .val (.ref b154), .val (.ref b159), .unset, .unset, .unset, .unset, .unset, .unset, .unset, .unset] [(.ref b159)])
  refine own_go (fun _ k => XS.aload X163.here hx rfl (hb hby at_92) rfl rfl k) ?_
  show own_Go _ _ _ _ T163 (mkF m 94 #[.val (.int p1), .val (.int p2), .val (.int p3), .val (.int p4), .val (.int p5), .val (.int p6), .val (.ref y128), .val (.ref y131), .val (.ref b132), .val (.ref b141), .val (.ref b154), .val (.ref b159), .unset, .unset, .unset, .unset, .unset, .unset, .unset, .unset] [(.ref b132), (.ref b159)])
  have f164 := ((((((((E140x.ext E141).keep K145).keep K149).keep K153).ext E154).keep K158).ext E159).keep K163)
  have f165 := (Nat.le_trans f161 K163.1)
  have f166 := (f162.keep K163 (allS g_b159 all0))
  obtain ⟨v167, T167, h167, L167, X167, e167, hQ167, st167⟩ := own_callF X163 hx hZ hown (hw _ (List.mem_of_getElem? (i := 50) rfl)) (hw _ (List.mem_of_getElem? (i := 51) rfl)) (mvT hZ (hw _ (List.mem_of_getElem? (i := 52) rfl))) (hw _ (List.mem_of_getElem? (i := 53) rfl)) (hw _ (List.mem_of_getElem? (i := 54) rfl)) (hw _ (List.mem_of_getElem? (i := 55) rfl)) (hw _ (List.mem_of_getElem? (i := 56) rfl)) (hw _ (List.mem_of_getElem? (i := 57) rfl)) (hw _ (List.mem_of_getElem? (i := 28) rfl)) (hw _ (List.mem_of_getElem? (i := 58) rfl)) (by decide) e163 E163x (argsL := [(.ref b132)]) (rest := []) (rmAf l Z a0 hw [] b159 (0 : Int32) b132 "java/util/ArrayList" dd kd h163 n0 f165 f166 S_d V_d E163x F163m F163s F163d g_b159 f164 (hw _ (List.mem_of_getElem? (i := 85) rfl))) 0 (by decide) (by decide) (by decide) (by decide) (g := (mkF m 94 #[.val (.int p1), .val (.int p2), .val (.int p3), .val (.int p4), .val (.int p5), .val (.int p6), .val (.ref y128), .val (.ref y131), .val (.ref b132), .val (.ref b141), .val (.ref b154), .val (.ref b159), .unset, .unset, .unset, .unset, .unset, .unset, .unset, .unset] [(.ref b132), (.ref b159)])) rfl (by rw [hml]; rfl) (lenOf pd11 rfl) rfl (Nat.le_of_eq rfl) (hb hby at_94)
  obtain ⟨rfl, N167q, t167, k167, K167, E167x, F167m, F167s, F167d, gt167, st167z, V167, O167⟩ := hQ167
  refine own_go (st167) ?_
  have N167 := Fr.app N163 N167q
  have g_t167 := gt167
  have o_t167 : b159 < t167 := Nat.lt_of_lt_of_le E163x.lt st167z
  show own_Go _ _ _ _ T167 (mkF m 99 #[.val (.int p1), .val (.int p2), .val (.int p3), .val (.int p4), .val (.int p5), .val (.int p6), .val (.ref y128), .val (.ref y131), .val (.ref b132), .val (.ref b141), .val (.ref b154), .val (.ref b159), .unset, .unset, .unset, .unset, .unset, .unset, .unset, .unset] [(.int (1 : Int32))])
  refine own_go (fun _ k => XS.pop X167.here hx rfl (hb hby at_99) rfl rfl k) ?_
  show own_Go _ _ _ _ T167 (mkF m 100 #[.val (.int p1), .val (.int p2), .val (.int p3), .val (.int p4), .val (.int p5), .val (.int p6), .val (.ref y128), .val (.ref y131), .val (.ref b132), .val (.ref b141), .val (.ref b154), .val (.ref b159), .unset, .unset, .unset, .unset, .unset, .unset, .unset, .unset] [])
  refine own_go (fun _ k => XS.aload X167.here hx rfl (hb hby at_100) rfl rfl k) ?_
  show own_Go _ _ _ _ T167 (mkF m 102 #[.val (.int p1), .val (.int p2), .val (.int p3), .val (.int p4), .val (.int p5), .val (.int p6), .val (.ref y128), .val (.ref y131), .val (.ref b132), .val (.ref b141), .val (.ref b154), .val (.ref b159), .unset, .unset, .unset, .unset, .unset, .unset, .unset, .unset] [(.ref b159)])
  refine own_go (fun _ k => XS.aload X167.here hx rfl (hb hby at_102) rfl rfl k) ?_
  show own_Go _ _ _ _ T167 (mkF m 104 #[.val (.int p1), .val (.int p2), .val (.int p3), .val (.int p4), .val (.int p5), .val (.int p6), .val (.ref y128), .val (.ref y131), .val (.ref b132), .val (.ref b141), .val (.ref b154), .val (.ref b159), .unset, .unset, .unset, .unset, .unset, .unset, .unset, .unset] [(.ref b141), (.ref b159)])
  have f168 := (((((E153x.ext E154).keep K158).ext E159).keep K163).keep K167)
  have f169 := (Nat.le_trans f165 K167.1)
  have f170 := (f166.keep K167 (allS g_b159 all0))
  obtain ⟨v171, T171, h171, L171, X171, e171, hQ171, st171⟩ := own_callF X167 hx hZ hown (hw _ (List.mem_of_getElem? (i := 50) rfl)) (hw _ (List.mem_of_getElem? (i := 51) rfl)) (mvT hZ (hw _ (List.mem_of_getElem? (i := 52) rfl))) (hw _ (List.mem_of_getElem? (i := 53) rfl)) (hw _ (List.mem_of_getElem? (i := 54) rfl)) (hw _ (List.mem_of_getElem? (i := 55) rfl)) (hw _ (List.mem_of_getElem? (i := 56) rfl)) (hw _ (List.mem_of_getElem? (i := 57) rfl)) (hw _ (List.mem_of_getElem? (i := 28) rfl)) (hw _ (List.mem_of_getElem? (i := 58) rfl)) (by decide) e167 E167x (argsL := [(.ref b141)]) (rest := []) (rmAn l Z a0 hw [] b159 ((0 : Int32) + (1 : Int32)) b141 "java/util/ArrayList" t167 k167 [(.ref b132), .null, .null, .null, .null, .null, .null, .null, .null, .null] (1 : Int32) 1 h167 n0 f169 f170 E167x F167m F167s F167d g_b159 f168 (hw _ (List.mem_of_getElem? (i := 85) rfl)) V167 O167 g_t167 (Ne.symm (Nat.ne_of_lt o_t167)) ⟨by decide, by decide⟩ (by decide) (Nat.le_of_ble_eq_true rfl)) 0 (by decide) (by decide) (by decide) (by decide) (g := (mkF m 104 #[.val (.int p1), .val (.int p2), .val (.int p3), .val (.int p4), .val (.int p5), .val (.int p6), .val (.ref y128), .val (.ref y131), .val (.ref b132), .val (.ref b141), .val (.ref b154), .val (.ref b159), .unset, .unset, .unset, .unset, .unset, .unset, .unset, .unset] [(.ref b141), (.ref b159)])) rfl (by rw [hml]; rfl) (lenOf pd11 rfl) rfl (Nat.le_of_eq rfl) (hb hby at_104)
  obtain ⟨rfl, N171q, K171, E171x, F171m, F171s, F171d, V171⟩ := hQ171
  refine own_go (st171) ?_
  have N171 := Fr.app N167 N171q
  rw [show ((1 : Int32) + (1 : Int32)) = (2 : Int32) from by decide] at F171s
  have V171x : Arv Z h171 t167 k167 (.object "java/lang/Object") (10 : Int32) [(.ref b132), (.ref b141), .null, .null, .null, .null, .null, .null, .null, .null] .null := V171
  show own_Go _ _ _ _ T171 (mkF m 109 #[.val (.int p1), .val (.int p2), .val (.int p3), .val (.int p4), .val (.int p5), .val (.int p6), .val (.ref y128), .val (.ref y131), .val (.ref b132), .val (.ref b141), .val (.ref b154), .val (.ref b159), .unset, .unset, .unset, .unset, .unset, .unset, .unset, .unset] [(.int (1 : Int32))])
  refine own_go (fun _ k => XS.pop X171.here hx rfl (hb hby at_109) rfl rfl k) ?_
  show own_Go _ _ _ _ T171 (mkF m 110 #[.val (.int p1), .val (.int p2), .val (.int p3), .val (.int p4), .val (.int p5), .val (.int p6), .val (.ref y128), .val (.ref y131), .val (.ref b132), .val (.ref b141), .val (.ref b154), .val (.ref b159), .unset, .unset, .unset, .unset, .unset, .unset, .unset, .unset] [])
  refine own_go (fun _ k => XS.aload X171.here hx rfl (hb hby at_110) rfl rfl k) ?_
  show own_Go _ _ _ _ T171 (mkF m 112 #[.val (.int p1), .val (.int p2), .val (.int p3), .val (.int p4), .val (.int p5), .val (.int p6), .val (.ref y128), .val (.ref y131), .val (.ref b132), .val (.ref b141), .val (.ref b154), .val (.ref b159), .unset, .unset, .unset, .unset, .unset, .unset, .unset, .unset] [(.ref b159)])
  refine own_go (fun _ k => XS.aload X171.here hx rfl (hb hby at_112) rfl rfl k) ?_
  show own_Go _ _ _ _ T171 (mkF m 114 #[.val (.int p1), .val (.int p2), .val (.int p3), .val (.int p4), .val (.int p5), .val (.int p6), .val (.ref y128), .val (.ref y131), .val (.ref b132), .val (.ref b141), .val (.ref b154), .val (.ref b159), .unset, .unset, .unset, .unset, .unset, .unset, .unset, .unset] [(.ref b154), (.ref b159)])
  have f172 := ((((E158x.ext E159).keep K163).keep K167).keep K171)
  have f173 := (Nat.le_trans f169 K171.1)
  have f174 := (f170.keep K171 (allS g_b159 (allS g_t167 all0)))
  obtain ⟨v175, T175, h175, L175, X175, e175, hQ175, st175⟩ := own_callF X171 hx hZ hown (hw _ (List.mem_of_getElem? (i := 50) rfl)) (hw _ (List.mem_of_getElem? (i := 51) rfl)) (mvT hZ (hw _ (List.mem_of_getElem? (i := 52) rfl))) (hw _ (List.mem_of_getElem? (i := 53) rfl)) (hw _ (List.mem_of_getElem? (i := 54) rfl)) (hw _ (List.mem_of_getElem? (i := 55) rfl)) (hw _ (List.mem_of_getElem? (i := 56) rfl)) (hw _ (List.mem_of_getElem? (i := 57) rfl)) (hw _ (List.mem_of_getElem? (i := 28) rfl)) (hw _ (List.mem_of_getElem? (i := 58) rfl)) (by decide) e171 E171x (argsL := [(.ref b154)]) (rest := []) (rmAn l Z a0 hw [] b159 (((0 : Int32) + (1 : Int32)) + (1 : Int32)) b154 "java/util/ArrayList" t167 k167 [(.ref b132), (.ref b141), .null, .null, .null, .null, .null, .null, .null, .null] (2 : Int32) 2 h171 n0 f173 f174 E171x F171m F171s F171d g_b159 f172 (hw _ (List.mem_of_getElem? (i := 85) rfl)) V171x O167 g_t167 (Ne.symm (Nat.ne_of_lt o_t167)) ⟨by decide, by decide⟩ (by decide) (Nat.le_of_ble_eq_true rfl)) 0 (by decide) (by decide) (by decide) (by decide) (g := (mkF m 114 #[.val (.int p1), .val (.int p2), .val (.int p3), .val (.int p4), .val (.int p5), .val (.int p6), .val (.ref y128), .val (.ref y131), .val (.ref b132), .val (.ref b141), .val (.ref b154), .val (.ref b159), .unset, .unset, .unset, .unset, .unset, .unset, .unset, .unset] [(.ref b154), (.ref b159)])) rfl (by rw [hml]; rfl) (lenOf pd11 rfl) rfl (Nat.le_of_eq rfl) (hb hby at_114)
  obtain ⟨rfl, N175q, K175, E175x, F175m, F175s, F175d, V175⟩ := hQ175
  refine own_go (st175) ?_
  have N175 := Fr.app N171 N175q
  rw [show ((2 : Int32) + (1 : Int32)) = (3 : Int32) from by decide] at F175s
  have V175x : Arv Z h175 t167 k167 (.object "java/lang/Object") (10 : Int32) [(.ref b132), (.ref b141), (.ref b154), .null, .null, .null, .null, .null, .null, .null] .null := V175
  show own_Go _ _ _ _ T175 (mkF m 119 #[.val (.int p1), .val (.int p2), .val (.int p3), .val (.int p4), .val (.int p5), .val (.int p6), .val (.ref y128), .val (.ref y131), .val (.ref b132), .val (.ref b141), .val (.ref b154), .val (.ref b159), .unset, .unset, .unset, .unset, .unset, .unset, .unset, .unset] [(.int (1 : Int32))])
  refine own_go (fun _ k => XS.pop X175.here hx rfl (hb hby at_119) rfl rfl k) ?_
  show own_Go _ _ _ _ T175 (mkF m 120 #[.val (.int p1), .val (.int p2), .val (.int p3), .val (.int p4), .val (.int p5), .val (.int p6), .val (.ref y128), .val (.ref y131), .val (.ref b132), .val (.ref b141), .val (.ref b154), .val (.ref b159), .unset, .unset, .unset, .unset, .unset, .unset, .unset, .unset] [])
  refine own_go (fun _ k => XS.iloadN X175.here hx rfl (hb hby at_120) rfl k) ?_
  show own_Go _ _ _ _ T175 (mkF m 121 #[.val (.int p1), .val (.int p2), .val (.int p3), .val (.int p4), .val (.int p5), .val (.int p6), .val (.ref y128), .val (.ref y131), .val (.ref b132), .val (.ref b141), .val (.ref b154), .val (.ref b159), .unset, .unset, .unset, .unset, .unset, .unset, .unset, .unset] [(.int p1)])
  have f176 := (Nat.le_trans f173 K175.1)
  obtain ⟨v177, T177, h177, L177, X177, e177, hQ177, st177⟩ := own_callS X175 hx hZ hown (hw _ (List.mem_of_getElem? (i := 86) rfl)) (hw _ (List.mem_of_getElem? (i := 87) rfl)) (hw _ (List.mem_of_getElem? (i := 88) rfl)) (hw _ (List.mem_of_getElem? (i := 89) rfl)) (by decide) e175 (argsL := [(.int p1)]) (rest := []) (rmC l Z a0 hw [] p1 h175 n0 f176) 0 (by decide) (by decide) (by decide) (by decide) (g := (mkF m 121 #[.val (.int p1), .val (.int p2), .val (.int p3), .val (.int p4), .val (.int p5), .val (.int p6), .val (.ref y128), .val (.ref y131), .val (.ref b132), .val (.ref b141), .val (.ref b154), .val (.ref b159), .unset, .unset, .unset, .unset, .unset, .unset, .unset, .unset] [(.int p1)])) rfl (by rw [hml]; rfl) (lenOf pd12 rfl) rfl (Nat.le_of_eq rfl) (hb hby at_121)
  obtain ⟨rfl, N177q, rfl⟩ := hQ177
  refine own_go (st177) ?_
  have N177 := Fr.app N175 N177q
  show own_Go _ _ _ _ T177 (mkF m 124 #[.val (.int p1), .val (.int p2), .val (.int p3), .val (.int p4), .val (.int p5), .val (.int p6), .val (.ref y128), .val (.ref y131), .val (.ref b132), .val (.ref b141), .val (.ref b154), .val (.ref b159), .unset, .unset, .unset, .unset, .unset, .unset, .unset, .unset] [(.int (own_part p1))])
  refine own_go (fun _ k => XS.istore X177.here hx rfl (hb hby at_124) rfl (l' := #[.val (.int p1), .val (.int p2), .val (.int p3), .val (.int p4), .val (.int p5), .val (.int p6), .val (.ref y128), .val (.ref y131), .val (.ref b132), .val (.ref b141), .val (.ref b154), .val (.ref b159), .val (.int (own_part p1)), .unset, .unset, .unset, .unset, .unset, .unset, .unset]) rfl k) ?_
  show own_Go _ _ _ _ T177 (mkF m 126 #[.val (.int p1), .val (.int p2), .val (.int p3), .val (.int p4), .val (.int p5), .val (.int p6), .val (.ref y128), .val (.ref y131), .val (.ref b132), .val (.ref b141), .val (.ref b154), .val (.ref b159), .val (.int (own_part p1)), .unset, .unset, .unset, .unset, .unset, .unset, .unset] [])
  refine own_go (fun _ k => XS.iloadN X177.here hx rfl (hb hby at_126) rfl k) ?_
  show own_Go _ _ _ _ T177 (mkF m 127 #[.val (.int p1), .val (.int p2), .val (.int p3), .val (.int p4), .val (.int p5), .val (.int p6), .val (.ref y128), .val (.ref y131), .val (.ref b132), .val (.ref b141), .val (.ref b154), .val (.ref b159), .val (.int (own_part p1)), .unset, .unset, .unset, .unset, .unset, .unset, .unset] [(.int p2)])
  obtain ⟨v178, T178, h178, L178, X178, e178, hQ178, st178⟩ := own_callS X177 hx hZ hown (hw _ (List.mem_of_getElem? (i := 86) rfl)) (hw _ (List.mem_of_getElem? (i := 87) rfl)) (hw _ (List.mem_of_getElem? (i := 88) rfl)) (hw _ (List.mem_of_getElem? (i := 89) rfl)) (by decide) e177 (argsL := [(.int p2)]) (rest := []) (rmC l Z a0 hw [] p2 h175 n0 f176) 0 (by decide) (by decide) (by decide) (by decide) (g := (mkF m 127 #[.val (.int p1), .val (.int p2), .val (.int p3), .val (.int p4), .val (.int p5), .val (.int p6), .val (.ref y128), .val (.ref y131), .val (.ref b132), .val (.ref b141), .val (.ref b154), .val (.ref b159), .val (.int (own_part p1)), .unset, .unset, .unset, .unset, .unset, .unset, .unset] [(.int p2)])) rfl (by rw [hml]; rfl) (lenOf pd12 rfl) rfl (Nat.le_of_eq rfl) (hb hby at_127)
  obtain ⟨rfl, N178q, rfl⟩ := hQ178
  refine own_go (st178) ?_
  have N178 := Fr.app N177 N178q
  show own_Go _ _ _ _ T178 (mkF m 130 #[.val (.int p1), .val (.int p2), .val (.int p3), .val (.int p4), .val (.int p5), .val (.int p6), .val (.ref y128), .val (.ref y131), .val (.ref b132), .val (.ref b141), .val (.ref b154), .val (.ref b159), .val (.int (own_part p1)), .unset, .unset, .unset, .unset, .unset, .unset, .unset] [(.int (own_part p2))])
  refine own_go (fun _ k => XS.istore X178.here hx rfl (hb hby at_130) rfl (l' := #[.val (.int p1), .val (.int p2), .val (.int p3), .val (.int p4), .val (.int p5), .val (.int p6), .val (.ref y128), .val (.ref y131), .val (.ref b132), .val (.ref b141), .val (.ref b154), .val (.ref b159), .val (.int (own_part p1)), .val (.int (own_part p2)), .unset, .unset, .unset, .unset, .unset, .unset]) rfl k) ?_
  show own_Go _ _ _ _ T178 (mkF m 132 #[.val (.int p1), .val (.int p2), .val (.int p3), .val (.int p4), .val (.int p5), .val (.int p6), .val (.ref y128), .val (.ref y131), .val (.ref b132), .val (.ref b141), .val (.ref b154), .val (.ref b159), .val (.int (own_part p1)), .val (.int (own_part p2)), .unset, .unset, .unset, .unset, .unset, .unset] [])
  refine own_go (fun _ k => XS.iloadN X178.here hx rfl (hb hby at_132) rfl k) ?_
  show own_Go _ _ _ _ T178 (mkF m 133 #[.val (.int p1), .val (.int p2), .val (.int p3), .val (.int p4), .val (.int p5), .val (.int p6), .val (.ref y128), .val (.ref y131), .val (.ref b132), .val (.ref b141), .val (.ref b154), .val (.ref b159), .val (.int (own_part p1)), .val (.int (own_part p2)), .unset, .unset, .unset, .unset, .unset, .unset] [(.int p3)])
  obtain ⟨v179, T179, h179, L179, X179, e179, hQ179, st179⟩ := own_callS X178 hx hZ hown (hw _ (List.mem_of_getElem? (i := 86) rfl)) (hw _ (List.mem_of_getElem? (i := 87) rfl)) (hw _ (List.mem_of_getElem? (i := 88) rfl)) (hw _ (List.mem_of_getElem? (i := 89) rfl)) (by decide) e178 (argsL := [(.int p3)]) (rest := []) (rmC l Z a0 hw [] p3 h175 n0 f176) 0 (by decide) (by decide) (by decide) (by decide) (g := (mkF m 133 #[.val (.int p1), .val (.int p2), .val (.int p3), .val (.int p4), .val (.int p5), .val (.int p6), .val (.ref y128), .val (.ref y131), .val (.ref b132), .val (.ref b141), .val (.ref b154), .val (.ref b159), .val (.int (own_part p1)), .val (.int (own_part p2)), .unset, .unset, .unset, .unset, .unset, .unset] [(.int p3)])) rfl (by rw [hml]; rfl) (lenOf pd12 rfl) rfl (Nat.le_of_eq rfl) (hb hby at_133)
  obtain ⟨rfl, N179q, rfl⟩ := hQ179
  refine own_go (st179) ?_
  have N179 := Fr.app N178 N179q
  show own_Go _ _ _ _ T179 (mkF m 136 #[.val (.int p1), .val (.int p2), .val (.int p3), .val (.int p4), .val (.int p5), .val (.int p6), .val (.ref y128), .val (.ref y131), .val (.ref b132), .val (.ref b141), .val (.ref b154), .val (.ref b159), .val (.int (own_part p1)), .val (.int (own_part p2)), .unset, .unset, .unset, .unset, .unset, .unset] [(.int (own_part p3))])
  refine own_go (fun _ k => XS.istore X179.here hx rfl (hb hby at_136) rfl (l' := #[.val (.int p1), .val (.int p2), .val (.int p3), .val (.int p4), .val (.int p5), .val (.int p6), .val (.ref y128), .val (.ref y131), .val (.ref b132), .val (.ref b141), .val (.ref b154), .val (.ref b159), .val (.int (own_part p1)), .val (.int (own_part p2)), .val (.int (own_part p3)), .unset, .unset, .unset, .unset, .unset]) rfl k) ?_
  show own_Go _ _ _ _ T179 (mkF m 138 #[.val (.int p1), .val (.int p2), .val (.int p3), .val (.int p4), .val (.int p5), .val (.int p6), .val (.ref y128), .val (.ref y131), .val (.ref b132), .val (.ref b141), .val (.ref b154), .val (.ref b159), .val (.int (own_part p1)), .val (.int (own_part p2)), .val (.int (own_part p3)), .unset, .unset, .unset, .unset, .unset] [])
  refine own_go (fun _ k => XS.iconst X179.here hx rfl (hb hby at_138) k) ?_
  show own_Go _ _ _ _ T179 (mkF m 139 #[.val (.int p1), .val (.int p2), .val (.int p3), .val (.int p4), .val (.int p5), .val (.int p6), .val (.ref y128), .val (.ref y131), .val (.ref b132), .val (.ref b141), .val (.ref b154), .val (.ref b159), .val (.int (own_part p1)), .val (.int (own_part p2)), .val (.int (own_part p3)), .unset, .unset, .unset, .unset, .unset] [(.int (3 : Int32))])
  obtain ⟨T180, h180, k180, X180, e180, E180, A180, st180⟩ := newP X179 hx hZ (hw _ (List.mem_of_getElem? (i := 90) rfl)) e179 (g := (mkF m 139 #[.val (.int p1), .val (.int p2), .val (.int p3), .val (.int p4), .val (.int p5), .val (.int p6), .val (.ref y128), .val (.ref y131), .val (.ref b132), .val (.ref b141), .val (.ref b154), .val (.ref b159), .val (.int (own_part p1)), .val (.int (own_part p2)), .val (.int (own_part p3)), .unset, .unset, .unset, .unset, .unset] [(.int (3 : Int32))])) rfl (hb hby at_139) rfl (by decide) (cap := 3) (by decide) (by decide) (by decide) (by decide)
  obtain ⟨b180, g180⟩ : ∃ z, z = h175.size := ⟨_, rfl⟩
  rw [← g180] at A180 st180
  refine own_go (st180) ?_
  have g_b180 : n0 ≤ b180 := Nat.le_trans f176 (Nat.le_of_eq g180.symm)
  have o_b180 : t167 < b180 := Nat.lt_of_lt_of_le V175x.lt (Nat.le_of_eq g180.symm)
  have V180 : Arv Z h180 b180 k180 .int (3 : Int32) [(.int (0 : Int32)), (.int (0 : Int32)), (.int (0 : Int32))] (.int (0 : Int32)) := (Arv.new A180 (by decide)).pad (pad_rep [] (.int (0 : Int32)) 3)
  show own_Go _ _ _ _ T180 (mkF m 141 #[.val (.int p1), .val (.int p2), .val (.int p3), .val (.int p4), .val (.int p5), .val (.int p6), .val (.ref y128), .val (.ref y131), .val (.ref b132), .val (.ref b141), .val (.ref b154), .val (.ref b159), .val (.int (own_part p1)), .val (.int (own_part p2)), .val (.int (own_part p3)), .unset, .unset, .unset, .unset, .unset] [(.ref b180)])
  refine own_go (fun _ k => XS.dup X180.here hx rfl (hb hby at_141) rfl rfl k) ?_
  show own_Go _ _ _ _ T180 (mkF m 142 #[.val (.int p1), .val (.int p2), .val (.int p3), .val (.int p4), .val (.int p5), .val (.int p6), .val (.ref y128), .val (.ref y131), .val (.ref b132), .val (.ref b141), .val (.ref b154), .val (.ref b159), .val (.int (own_part p1)), .val (.int (own_part p2)), .val (.int (own_part p3)), .unset, .unset, .unset, .unset, .unset] [(.ref b180), (.ref b180)])
  refine own_go (fun _ k => XS.iconst X180.here hx rfl (hb hby at_142) k) ?_
  show own_Go _ _ _ _ T180 (mkF m 143 #[.val (.int p1), .val (.int p2), .val (.int p3), .val (.int p4), .val (.int p5), .val (.int p6), .val (.ref y128), .val (.ref y131), .val (.ref b132), .val (.ref b141), .val (.ref b154), .val (.ref b159), .val (.int (own_part p1)), .val (.int (own_part p2)), .val (.int (own_part p3)), .unset, .unset, .unset, .unset, .unset] [(.int (0 : Int32)), (.ref b180), (.ref b180)])
  refine own_go (fun _ k => XS.iload X180.here hx rfl (hb hby at_143) rfl k) ?_
  show own_Go _ _ _ _ T180 (mkF m 145 #[.val (.int p1), .val (.int p2), .val (.int p3), .val (.int p4), .val (.int p5), .val (.int p6), .val (.ref y128), .val (.ref y131), .val (.ref b132), .val (.ref b141), .val (.ref b154), .val (.ref b159), .val (.int (own_part p1)), .val (.int (own_part p2)), .val (.int (own_part p3)), .unset, .unset, .unset, .unset, .unset] [(.int (own_part p1)), (.int (0 : Int32)), (.ref b180), (.ref b180)])
  obtain ⟨cl181, Ar181, q181, S181, M181, H181, G181⟩ := V180
  have hin181 : ¬ ((0 : Int32) < 0 ∨ cl181.slots.size ≤ ((0 : Int32)).toNatClampNeg) := inb_of S181 ⟨by decide, by decide⟩
  obtain ⟨T181, h181, X181, e181, W181, st181⟩ := stI X180 hx hZ e180 Ar181 (j := (0 : Int32)) hin181 (g := (mkF m 145 #[.val (.int p1), .val (.int p2), .val (.int p3), .val (.int p4), .val (.int p5), .val (.int p6), .val (.ref y128), .val (.ref y131), .val (.ref b132), .val (.ref b141), .val (.ref b154), .val (.ref b159), .val (.int (own_part p1)), .val (.int (own_part p2)), .val (.int (own_part p3)), .unset, .unset, .unset, .unset, .unset] [(.int (own_part p1)), (.int (0 : Int32)), (.ref b180), (.ref b180)])) rfl rfl (hb hby at_145)
  refine own_go (st181) ?_
  have V181 : Arv Z h181 b180 k180 .int (3 : Int32) [(.int (own_part p1)), (.int (0 : Int32)), (.int (0 : Int32))] (.int (0 : Int32)) := Arv.set Ar181 q181 S181 M181 H181 G181 rfl W181 0 rfl (Nat.le_of_ble_eq_true rfl)
  have N181 := Fr.snoc X181 N179 g_b180
  show own_Go _ _ _ _ T181 (mkF m 146 #[.val (.int p1), .val (.int p2), .val (.int p3), .val (.int p4), .val (.int p5), .val (.int p6), .val (.ref y128), .val (.ref y131), .val (.ref b132), .val (.ref b141), .val (.ref b154), .val (.ref b159), .val (.int (own_part p1)), .val (.int (own_part p2)), .val (.int (own_part p3)), .unset, .unset, .unset, .unset, .unset] [(.ref b180)])
  refine own_go (fun _ k => XS.dup X181.here hx rfl (hb hby at_146) rfl rfl k) ?_
  show own_Go _ _ _ _ T181 (mkF m 147 #[.val (.int p1), .val (.int p2), .val (.int p3), .val (.int p4), .val (.int p5), .val (.int p6), .val (.ref y128), .val (.ref y131), .val (.ref b132), .val (.ref b141), .val (.ref b154), .val (.ref b159), .val (.int (own_part p1)), .val (.int (own_part p2)), .val (.int (own_part p3)), .unset, .unset, .unset, .unset, .unset] [(.ref b180), (.ref b180)])
  refine own_go (fun _ k => XS.iconst X181.here hx rfl (hb hby at_147) k) ?_
  show own_Go _ _ _ _ T181 (mkF m 148 #[.val (.int p1), .val (.int p2), .val (.int p3), .val (.int p4), .val (.int p5), .val (.int p6), .val (.ref y128), .val (.ref y131), .val (.ref b132), .val (.ref b141), .val (.ref b154), .val (.ref b159), .val (.int (own_part p1)), .val (.int (own_part p2)), .val (.int (own_part p3)), .unset, .unset, .unset, .unset, .unset] [(.int (1 : Int32)), (.ref b180), (.ref b180)])
  refine own_go (fun _ k => XS.iload X181.here hx rfl (hb hby at_148) rfl k) ?_
  show own_Go _ _ _ _ T181 (mkF m 150 #[.val (.int p1), .val (.int p2), .val (.int p3), .val (.int p4), .val (.int p5), .val (.int p6), .val (.ref y128), .val (.ref y131), .val (.ref b132), .val (.ref b141), .val (.ref b154), .val (.ref b159), .val (.int (own_part p1)), .val (.int (own_part p2)), .val (.int (own_part p3)), .unset, .unset, .unset, .unset, .unset] [(.int (own_part p2)), (.int (1 : Int32)), (.ref b180), (.ref b180)])
  obtain ⟨cl182, Ar182, q182, S182, M182, H182, G182⟩ := V181
  have hin182 : ¬ ((1 : Int32) < 0 ∨ cl182.slots.size ≤ ((1 : Int32)).toNatClampNeg) := inb_of S182 ⟨by decide, by decide⟩
  obtain ⟨T182, h182, X182, e182, W182, st182⟩ := stI X181 hx hZ e181 Ar182 (j := (1 : Int32)) hin182 (g := (mkF m 150 #[.val (.int p1), .val (.int p2), .val (.int p3), .val (.int p4), .val (.int p5), .val (.int p6), .val (.ref y128), .val (.ref y131), .val (.ref b132), .val (.ref b141), .val (.ref b154), .val (.ref b159), .val (.int (own_part p1)), .val (.int (own_part p2)), .val (.int (own_part p3)), .unset, .unset, .unset, .unset, .unset] [(.int (own_part p2)), (.int (1 : Int32)), (.ref b180), (.ref b180)])) rfl rfl (hb hby at_150)
  refine own_go (st182) ?_
  have V182 : Arv Z h182 b180 k180 .int (3 : Int32) [(.int (own_part p1)), (.int (own_part p2)), (.int (0 : Int32))] (.int (0 : Int32)) := Arv.set Ar182 q182 S182 M182 H182 G182 rfl W182 1 rfl (Nat.le_of_ble_eq_true rfl)
  have N182 := Fr.snoc X182 N181 g_b180
  show own_Go _ _ _ _ T182 (mkF m 151 #[.val (.int p1), .val (.int p2), .val (.int p3), .val (.int p4), .val (.int p5), .val (.int p6), .val (.ref y128), .val (.ref y131), .val (.ref b132), .val (.ref b141), .val (.ref b154), .val (.ref b159), .val (.int (own_part p1)), .val (.int (own_part p2)), .val (.int (own_part p3)), .unset, .unset, .unset, .unset, .unset] [(.ref b180)])
  refine own_go (fun _ k => XS.dup X182.here hx rfl (hb hby at_151) rfl rfl k) ?_
  show own_Go _ _ _ _ T182 (mkF m 152 #[.val (.int p1), .val (.int p2), .val (.int p3), .val (.int p4), .val (.int p5), .val (.int p6), .val (.ref y128), .val (.ref y131), .val (.ref b132), .val (.ref b141), .val (.ref b154), .val (.ref b159), .val (.int (own_part p1)), .val (.int (own_part p2)), .val (.int (own_part p3)), .unset, .unset, .unset, .unset, .unset] [(.ref b180), (.ref b180)])
  refine own_go (fun _ k => XS.iconst X182.here hx rfl (hb hby at_152) k) ?_
  show own_Go _ _ _ _ T182 (mkF m 153 #[.val (.int p1), .val (.int p2), .val (.int p3), .val (.int p4), .val (.int p5), .val (.int p6), .val (.ref y128), .val (.ref y131), .val (.ref b132), .val (.ref b141), .val (.ref b154), .val (.ref b159), .val (.int (own_part p1)), .val (.int (own_part p2)), .val (.int (own_part p3)), .unset, .unset, .unset, .unset, .unset] [(.int (2 : Int32)), (.ref b180), (.ref b180)])
  refine own_go (fun _ k => XS.iload X182.here hx rfl (hb hby at_153) rfl k) ?_
  show own_Go _ _ _ _ T182 (mkF m 155 #[.val (.int p1), .val (.int p2), .val (.int p3), .val (.int p4), .val (.int p5), .val (.int p6), .val (.ref y128), .val (.ref y131), .val (.ref b132), .val (.ref b141), .val (.ref b154), .val (.ref b159), .val (.int (own_part p1)), .val (.int (own_part p2)), .val (.int (own_part p3)), .unset, .unset, .unset, .unset, .unset] [(.int (own_part p3)), (.int (2 : Int32)), (.ref b180), (.ref b180)])
  obtain ⟨cl183, Ar183, q183, S183, M183, H183, G183⟩ := V182
  have hin183 : ¬ ((2 : Int32) < 0 ∨ cl183.slots.size ≤ ((2 : Int32)).toNatClampNeg) := inb_of S183 ⟨by decide, by decide⟩
  obtain ⟨T183, h183, X183, e183, W183, st183⟩ := stI X182 hx hZ e182 Ar183 (j := (2 : Int32)) hin183 (g := (mkF m 155 #[.val (.int p1), .val (.int p2), .val (.int p3), .val (.int p4), .val (.int p5), .val (.int p6), .val (.ref y128), .val (.ref y131), .val (.ref b132), .val (.ref b141), .val (.ref b154), .val (.ref b159), .val (.int (own_part p1)), .val (.int (own_part p2)), .val (.int (own_part p3)), .unset, .unset, .unset, .unset, .unset] [(.int (own_part p3)), (.int (2 : Int32)), (.ref b180), (.ref b180)])) rfl rfl (hb hby at_155)
  refine own_go (st183) ?_
  have V183 : Arv Z h183 b180 k180 .int (3 : Int32) [(.int (own_part p1)), (.int (own_part p2)), (.int (own_part p3))] (.int (0 : Int32)) := Arv.set Ar183 q183 S183 M183 H183 G183 rfl W183 2 rfl (Nat.le_of_ble_eq_true rfl)
  have N183 := Fr.snoc X183 N182 g_b180
  show own_Go _ _ _ _ T183 (mkF m 156 #[.val (.int p1), .val (.int p2), .val (.int p3), .val (.int p4), .val (.int p5), .val (.int p6), .val (.ref y128), .val (.ref y131), .val (.ref b132), .val (.ref b141), .val (.ref b154), .val (.ref b159), .val (.int (own_part p1)), .val (.int (own_part p2)), .val (.int (own_part p3)), .unset, .unset, .unset, .unset, .unset] [(.ref b180)])
  refine own_go (fun _ k => XS.astore X183.here hx rfl (hb hby at_156) rfl rfl (l' := #[.val (.int p1), .val (.int p2), .val (.int p3), .val (.int p4), .val (.int p5), .val (.int p6), .val (.ref y128), .val (.ref y131), .val (.ref b132), .val (.ref b141), .val (.ref b154), .val (.ref b159), .val (.int (own_part p1)), .val (.int (own_part p2)), .val (.int (own_part p3)), .val (.ref b180), .unset, .unset, .unset, .unset]) rfl k) ?_
  show own_Go _ _ _ _ T183 (mkF m 158 #[.val (.int p1), .val (.int p2), .val (.int p3), .val (.int p4), .val (.int p5), .val (.int p6), .val (.ref y128), .val (.ref y131), .val (.ref b132), .val (.ref b141), .val (.ref b154), .val (.ref b159), .val (.int (own_part p1)), .val (.int (own_part p2)), .val (.int (own_part p3)), .val (.ref b180), .unset, .unset, .unset, .unset] [])
  refine own_go (fun _ k => XS.iloadN X183.here hx rfl (hb hby at_158) rfl k) ?_
  show own_Go _ _ _ _ T183 (mkF m 159 #[.val (.int p1), .val (.int p2), .val (.int p3), .val (.int p4), .val (.int p5), .val (.int p6), .val (.ref y128), .val (.ref y131), .val (.ref b132), .val (.ref b141), .val (.ref b154), .val (.ref b159), .val (.int (own_part p1)), .val (.int (own_part p2)), .val (.int (own_part p3)), .val (.ref b180), .unset, .unset, .unset, .unset] [(.int p4)])
  refine own_go (X183.ldcInt hx hown (mvT hZ (hw _ (List.mem_of_getElem? (i := 91) rfl))) (g := (mkF m 159 #[.val (.int p1), .val (.int p2), .val (.int p3), .val (.int p4), .val (.int p5), .val (.int p6), .val (.ref y128), .val (.ref y131), .val (.ref b132), .val (.ref b141), .val (.ref b154), .val (.ref b159), .val (.int (own_part p1)), .val (.int (own_part p2)), .val (.int (own_part p3)), .val (.ref b180), .unset, .unset, .unset, .unset] [(.int p4)])) rfl (hb hby at_159)) ?_
  show own_Go _ _ _ _ T183 (mkF m 161 #[.val (.int p1), .val (.int p2), .val (.int p3), .val (.int p4), .val (.int p5), .val (.int p6), .val (.ref y128), .val (.ref y131), .val (.ref b132), .val (.ref b141), .val (.ref b154), .val (.ref b159), .val (.int (own_part p1)), .val (.int (own_part p2)), .val (.int (own_part p3)), .val (.ref b180), .unset, .unset, .unset, .unset] [(.int (2147483647 : Int32)), (.int p4)])
  refine own_go (fun _ k => XS.iand X183.here hx rfl (hb hby at_161) rfl k) ?_
  show own_Go _ _ _ _ T183 (mkF m 162 #[.val (.int p1), .val (.int p2), .val (.int p3), .val (.int p4), .val (.int p5), .val (.int p6), .val (.ref y128), .val (.ref y131), .val (.ref b132), .val (.ref b141), .val (.ref b154), .val (.ref b159), .val (.int (own_part p1)), .val (.int (own_part p2)), .val (.int (own_part p3)), .val (.ref b180), .unset, .unset, .unset, .unset] [(.int (p4 &&& (2147483647 : Int32)))])
  refine own_go (fun _ k => XS.iconst X183.here hx rfl (hb hby at_162) k) ?_
  show own_Go _ _ _ _ T183 (mkF m 163 #[.val (.int p1), .val (.int p2), .val (.int p3), .val (.int p4), .val (.int p5), .val (.int p6), .val (.ref y128), .val (.ref y131), .val (.ref b132), .val (.ref b141), .val (.ref b154), .val (.ref b159), .val (.int (own_part p1)), .val (.int (own_part p2)), .val (.int (own_part p3)), .val (.ref b180), .unset, .unset, .unset, .unset] [(.int (3 : Int32)), (.int (p4 &&& (2147483647 : Int32)))])
  refine own_go (fun _ k => iremM X183 hx rfl (hb hby at_163) rfl (by decide) k) ?_
  show own_Go _ _ _ _ T183 (mkF m 164 #[.val (.int p1), .val (.int p2), .val (.int p3), .val (.int p4), .val (.int p5), .val (.int p6), .val (.ref y128), .val (.ref y131), .val (.ref b132), .val (.ref b141), .val (.ref b154), .val (.ref b159), .val (.int (own_part p1)), .val (.int (own_part p2)), .val (.int (own_part p3)), .val (.ref b180), .unset, .unset, .unset, .unset] [(.int ((p4 &&& (2147483647 : Int32)) % (3 : Int32)))])
  obtain ⟨row, hrow⟩ : ∃ z : Int32, z = ((p4 &&& (2147483647 : Int32)) % (3 : Int32)) := ⟨_, rfl⟩
  rw [← hrow]
  have hrw : ¬ row < 0 ∧ row < (3 : Int32) := by rw [hrow]; exact own_row p4
  show own_Go _ _ _ _ T183 (mkF m 164 #[.val (.int p1), .val (.int p2), .val (.int p3), .val (.int p4), .val (.int p5), .val (.int p6), .val (.ref y128), .val (.ref y131), .val (.ref b132), .val (.ref b141), .val (.ref b154), .val (.ref b159), .val (.int (own_part p1)), .val (.int (own_part p2)), .val (.int (own_part p3)), .val (.ref b180), .unset, .unset, .unset, .unset] [(.int row)])
  refine own_go (fun _ k => XS.istore X183.here hx rfl (hb hby at_164) rfl (l' := #[.val (.int p1), .val (.int p2), .val (.int p3), .val (.int p4), .val (.int p5), .val (.int p6), .val (.ref y128), .val (.ref y131), .val (.ref b132), .val (.ref b141), .val (.ref b154), .val (.ref b159), .val (.int (own_part p1)), .val (.int (own_part p2)), .val (.int (own_part p3)), .val (.ref b180), .val (.int row), .unset, .unset, .unset]) rfl k) ?_
  have tail : ∀ zz : Int32, ([(.int (own_part p1)), (.int (own_part p2)), (.int (own_part p3))] : List Value).getD (row).toNatClampNeg (.int (0 : Int32)) = .int zz → own_Go p.tables e below (own_P below s (fun v h L => v = some (.int 1) ∧ Fr n0 L) room_1.cells room_1.slots) T183 (mkF m 189 #[.val (.int p1), .val (.int p2), .val (.int p3), .val (.int p4), .val (.int p5), .val (.int p6), .val (.ref y128), .val (.ref y131), .val (.ref b132), .val (.ref b141), .val (.ref b154), .val (.ref b159), .val (.int (own_part p1)), .val (.int (own_part p2)), .val (.int (own_part p3)), .val (.ref b180), .val (.int row), .unset, .unset, .unset] [(.int zz)]) := by
    intro zz hz
    have hzz : -1 ≤ zz.toInt ∧ zz.toInt ≤ 2 := by
      have q := own_all [(own_part p1), (own_part p2), (own_part p3)] (by
        intro z hz
        simp only [List.mem_cons, List.not_mem_nil, or_false] at hz
        rcases hz with rfl | rfl | rfl <;> exact own_part_in _) (row).toNatClampNeg
      have e := Value.int.inj ((own_getD [(own_part p1), (own_part p2), (own_part p3)] (row).toNatClampNeg).symm.trans hz)
      rw [e] at q
      exact q
    show own_Go _ _ _ _ T183 (mkF m 189 #[.val (.int p1), .val (.int p2), .val (.int p3), .val (.int p4), .val (.int p5), .val (.int p6), .val (.ref y128), .val (.ref y131), .val (.ref b132), .val (.ref b141), .val (.ref b154), .val (.ref b159), .val (.int (own_part p1)), .val (.int (own_part p2)), .val (.int (own_part p3)), .val (.ref b180), .val (.int row), .unset, .unset, .unset] [(.int zz)])
    refine own_go (fun _ k => XS.istore X183.here hx rfl (hb hby at_189) rfl (l' := #[.val (.int p1), .val (.int p2), .val (.int p3), .val (.int p4), .val (.int p5), .val (.int p6), .val (.ref y128), .val (.ref y131), .val (.ref b132), .val (.ref b141), .val (.ref b154), .val (.ref b159), .val (.int (own_part p1)), .val (.int (own_part p2)), .val (.int (own_part p3)), .val (.ref b180), .val (.int row), .val (.int zz), .unset, .unset]) rfl k) ?_
    show own_Go _ _ _ _ T183 (mkF m 191 #[.val (.int p1), .val (.int p2), .val (.int p3), .val (.int p4), .val (.int p5), .val (.int p6), .val (.ref y128), .val (.ref y131), .val (.ref b132), .val (.ref b141), .val (.ref b154), .val (.ref b159), .val (.int (own_part p1)), .val (.int (own_part p2)), .val (.int (own_part p3)), .val (.ref b180), .val (.int row), .val (.int zz), .unset, .unset] [])
    refine own_go (fun _ k => XS.iload X183.here hx rfl (hb hby at_191) rfl k) ?_
    show own_Go _ _ _ _ T183 (mkF m 193 #[.val (.int p1), .val (.int p2), .val (.int p3), .val (.int p4), .val (.int p5), .val (.int p6), .val (.ref y128), .val (.ref y131), .val (.ref b132), .val (.ref b141), .val (.ref b154), .val (.ref b159), .val (.int (own_part p1)), .val (.int (own_part p2)), .val (.int (own_part p3)), .val (.ref b180), .val (.int row), .val (.int zz), .unset, .unset] [(.int zz)])
    refine own_go (fun _ k => XS.iconst X183.here hx rfl (hb hby at_193) k) ?_
    show own_Go _ _ _ _ T183 (mkF m 194 #[.val (.int p1), .val (.int p2), .val (.int p3), .val (.int p4), .val (.int p5), .val (.int p6), .val (.ref y128), .val (.ref y131), .val (.ref b132), .val (.ref b141), .val (.ref b154), .val (.ref b159), .val (.int (own_part p1)), .val (.int (own_part p2)), .val (.int (own_part p3)), .val (.ref b180), .val (.int row), .val (.int zz), .unset, .unset] [(.int (-1 : Int32)), (.int zz)])
    by_cases hm : zz = (-1 : Int32)
    · skip
      refine own_go (fun _ k => XS.icmpNo X183.here hx rfl (hb hby at_194) rfl (teq hm).2 k) ?_
      show own_Go _ _ _ _ T183 (mkF m 197 #[.val (.int p1), .val (.int p2), .val (.int p3), .val (.int p4), .val (.int p5), .val (.int p6), .val (.ref y128), .val (.ref y131), .val (.ref b132), .val (.ref b141), .val (.ref b154), .val (.ref b159), .val (.int (own_part p1)), .val (.int (own_part p2)), .val (.int (own_part p3)), .val (.ref b180), .val (.int row), .val (.int zz), .unset, .unset] [])
      refine own_go (fun _ k => XS.iconst X183.here hx rfl (hb hby at_197) k) ?_
      show own_Go _ _ _ _ T183 (mkF m 198 #[.val (.int p1), .val (.int p2), .val (.int p3), .val (.int p4), .val (.int p5), .val (.int p6), .val (.ref y128), .val (.ref y131), .val (.ref b132), .val (.ref b141), .val (.ref b154), .val (.ref b159), .val (.int (own_part p1)), .val (.int (own_part p2)), .val (.int (own_part p3)), .val (.ref b180), .val (.int row), .val (.int zz), .unset, .unset] [(.int (1 : Int32))])
      exact own_retN X183 hx hret (by simp) hlk (hb hby at_198) (by decide) (by decide) (by first | exact ⟨rfl, N183⟩ | (rw [e183]; exact ⟨rfl, N183⟩))
    · skip
      refine own_go (fun _ k => XS.icmpYes X183.here hx rfl (pc0 := 194) (pc' := 199) rfl (hb hby at_194) rfl (feq hm).2 (by decide) (by decide) k) ?_
      have hneg : ¬ zz < (0 : Int32) := fun q => hm (own_minus hzz q)
      show own_Go _ _ _ _ T183 (mkF m 199 #[.val (.int p1), .val (.int p2), .val (.int p3), .val (.int p4), .val (.int p5), .val (.int p6), .val (.ref y128), .val (.ref y131), .val (.ref b132), .val (.ref b141), .val (.ref b154), .val (.ref b159), .val (.int (own_part p1)), .val (.int (own_part p2)), .val (.int (own_part p3)), .val (.ref b180), .val (.int row), .val (.int zz), .unset, .unset] [])
      have f185 := (Nat.le_trans (Nat.le_trans (Nat.le_trans (Nat.le_trans f176 E180.1) (Keep.of_wr W181).1) (Keep.of_wr W182).1) (Keep.of_wr W183).1)
      obtain ⟨T184, h184, X184, e184, E184, A184, D184, -, st184⟩ := newO X183 hx hZ hown (hw _ (List.mem_of_getElem? (i := 92) rfl)) (hw _ (List.mem_of_getElem? (i := 93) rfl)) (hw _ (List.mem_of_getElem? (i := 94) rfl)) e183 (g := (mkF m 199 #[.val (.int p1), .val (.int p2), .val (.int p3), .val (.int p4), .val (.int p5), .val (.int p6), .val (.ref y128), .val (.ref y131), .val (.ref b132), .val (.ref b141), .val (.ref b154), .val (.ref b159), .val (.int (own_part p1)), .val (.int (own_part p2)), .val (.int (own_part p3)), .val (.ref b180), .val (.int row), .val (.int zz), .unset, .unset] [])) rfl (hb hby at_199) (by decide) (by decide)
      obtain ⟨b184, g184⟩ : ∃ z, z = h183.size := ⟨_, rfl⟩
      rw [← g184] at A184 D184 st184
      refine own_go (st184) ?_
      have g_b184 : n0 ≤ b184 := Nat.le_trans f185 (Nat.le_of_eq g184.symm)
      have o_b184 : b180 < b184 := Nat.lt_of_lt_of_le V183.lt (Nat.le_of_eq g184.symm)
      have F184_partOfRow : Fld Z h184 b184 "com/example/record_scrubber/recordscrubber/anonymize/Generalisation" "partOfRow" "[I" .null := D184 (Or.inr (hw _ (List.mem_of_getElem? (i := 100) rfl))) (ty := (.array .int)) (by decide)
      have F184_labelsOfPart : Fld Z h184 b184 "com/example/record_scrubber/recordscrubber/anonymize/Generalisation" "labelsOfPart" "Ljava/util/List;" .null := D184 (Or.inr (hw _ (List.mem_of_getElem? (i := 102) rfl))) (ty := (.object "java/util/List")) (by decide)
      have F184_node : Fld Z h184 b184 "com/example/record_scrubber/recordscrubber/anonymize/Generalisation" "node" "Lcom/example/record_scrubber/recordscrubber/anonymize/FullDomainNode;" .null := D184 (Or.inr (hw _ (List.mem_of_getElem? (i := 104) rfl))) (ty := (.object "com/example/record_scrubber/recordscrubber/anonymize/FullDomainNode")) (by decide)
      show own_Go _ _ _ _ T184 (mkF m 202 #[.val (.int p1), .val (.int p2), .val (.int p3), .val (.int p4), .val (.int p5), .val (.int p6), .val (.ref y128), .val (.ref y131), .val (.ref b132), .val (.ref b141), .val (.ref b154), .val (.ref b159), .val (.int (own_part p1)), .val (.int (own_part p2)), .val (.int (own_part p3)), .val (.ref b180), .val (.int row), .val (.int zz), .unset, .unset] [(.ref b184)])
      refine own_go (fun _ k => XS.dup X184.here hx rfl (hb hby at_202) rfl rfl k) ?_
      show own_Go _ _ _ _ T184 (mkF m 203 #[.val (.int p1), .val (.int p2), .val (.int p3), .val (.int p4), .val (.int p5), .val (.int p6), .val (.ref y128), .val (.ref y131), .val (.ref b132), .val (.ref b141), .val (.ref b154), .val (.ref b159), .val (.int (own_part p1)), .val (.int (own_part p2)), .val (.int (own_part p3)), .val (.ref b180), .val (.int row), .val (.int zz), .unset, .unset] [(.ref b184), (.ref b184)])
      refine own_go (fun _ k => XS.aload X184.here hx rfl (hb hby at_203) rfl rfl k) ?_
      show own_Go _ _ _ _ T184 (mkF m 205 #[.val (.int p1), .val (.int p2), .val (.int p3), .val (.int p4), .val (.int p5), .val (.int p6), .val (.ref y128), .val (.ref y131), .val (.ref b132), .val (.ref b141), .val (.ref b154), .val (.ref b159), .val (.int (own_part p1)), .val (.int (own_part p2)), .val (.int (own_part p3)), .val (.ref b180), .val (.int row), .val (.int zz), .unset, .unset] [(.ref b180), (.ref b184), (.ref b184)])
      refine own_go (fun _ k => XS.aload X184.here hx rfl (hb hby at_205) rfl rfl k) ?_
      show own_Go _ _ _ _ T184 (mkF m 207 #[.val (.int p1), .val (.int p2), .val (.int p3), .val (.int p4), .val (.int p5), .val (.int p6), .val (.ref y128), .val (.ref y131), .val (.ref b132), .val (.ref b141), .val (.ref b154), .val (.ref b159), .val (.int (own_part p1)), .val (.int (own_part p2)), .val (.int (own_part p3)), .val (.ref b180), .val (.int row), .val (.int zz), .unset, .unset] [(.ref b159), (.ref b180), (.ref b184), (.ref b184)])
      refine own_go (fun _ k => XS.aconstNull X184.here hx rfl (hb hby at_207) k) ?_
      show own_Go _ _ _ _ T184 (mkF m 208 #[.val (.int p1), .val (.int p2), .val (.int p3), .val (.int p4), .val (.int p5), .val (.int p6), .val (.ref y128), .val (.ref y131), .val (.ref b132), .val (.ref b141), .val (.ref b154), .val (.ref b159), .val (.int (own_part p1)), .val (.int (own_part p2)), .val (.int (own_part p3)), .val (.ref b180), .val (.int row), .val (.int zz), .unset, .unset] [.null, (.ref b159), (.ref b180), (.ref b184), (.ref b184)])
      have f186 := (Nat.le_trans f185 E184.1)
      obtain ⟨v187, T187, h187, L187, X187, e187, hQ187, st187⟩ := own_callI X184 hx hZ rfl hown (hw _ (List.mem_of_getElem? (i := 95) rfl)) (hw _ (List.mem_of_getElem? (i := 96) rfl)) (hw _ (List.mem_of_getElem? (i := 94) rfl)) (hw _ (List.mem_of_getElem? (i := 97) rfl)) (by decide) e184 (a := b184) (argsL := [(.ref b180), (.ref b159), .null]) (rest := [(.ref b184)]) (rmGI l Z a0 hw [] b184 b180 b159 h184 n0 f186 A184 F184_partOfRow F184_labelsOfPart F184_node g_b184) 1 (by decide) (by decide) (by decide) (by decide) (g := (mkF m 208 #[.val (.int p1), .val (.int p2), .val (.int p3), .val (.int p4), .val (.int p5), .val (.int p6), .val (.ref y128), .val (.ref y131), .val (.ref b132), .val (.ref b141), .val (.ref b154), .val (.ref b159), .val (.int (own_part p1)), .val (.int (own_part p2)), .val (.int (own_part p3)), .val (.ref b180), .val (.int row), .val (.int zz), .unset, .unset] [.null, (.ref b159), (.ref b180), (.ref b184), (.ref b184)])) rfl (by rw [hml]; rfl) (lenOf pd13 rfl) rfl (Nat.le_of_eq rfl) (hb hby at_208)
      obtain ⟨rfl, N187q, K187, E187x, F187p, F187l⟩ := hQ187
      refine own_go (st187) ?_
      have N187 := Fr.app N183 N187q
      show own_Go _ _ _ _ T187 (mkF m 211 #[.val (.int p1), .val (.int p2), .val (.int p3), .val (.int p4), .val (.int p5), .val (.int p6), .val (.ref y128), .val (.ref y131), .val (.ref b132), .val (.ref b141), .val (.ref b154), .val (.ref b159), .val (.int (own_part p1)), .val (.int (own_part p2)), .val (.int (own_part p3)), .val (.ref b180), .val (.int row), .val (.int zz), .unset, .unset] [(.ref b184)])
      refine own_go (fun _ k => XS.astore X187.here hx rfl (hb hby at_211) rfl rfl (l' := #[.val (.int p1), .val (.int p2), .val (.int p3), .val (.int p4), .val (.int p5), .val (.int p6), .val (.ref y128), .val (.ref y131), .val (.ref b132), .val (.ref b141), .val (.ref b154), .val (.ref b159), .val (.int (own_part p1)), .val (.int (own_part p2)), .val (.int (own_part p3)), .val (.ref b180), .val (.int row), .val (.int zz), .val (.ref b184), .unset]) rfl k) ?_
      show own_Go _ _ _ _ T187 (mkF m 213 #[.val (.int p1), .val (.int p2), .val (.int p3), .val (.int p4), .val (.int p5), .val (.int p6), .val (.ref y128), .val (.ref y131), .val (.ref b132), .val (.ref b141), .val (.ref b154), .val (.ref b159), .val (.int (own_part p1)), .val (.int (own_part p2)), .val (.int (own_part p3)), .val (.ref b180), .val (.int row), .val (.int zz), .val (.ref b184), .unset] [])
      refine own_go (fun _ k => XS.aload X187.here hx rfl (hb hby at_213) rfl rfl k) ?_
      show own_Go _ _ _ _ T187 (mkF m 215 #[.val (.int p1), .val (.int p2), .val (.int p3), .val (.int p4), .val (.int p5), .val (.int p6), .val (.ref y128), .val (.ref y131), .val (.ref b132), .val (.ref b141), .val (.ref b154), .val (.ref b159), .val (.int (own_part p1)), .val (.int (own_part p2)), .val (.int (own_part p3)), .val (.ref b180), .val (.int row), .val (.int zz), .val (.ref b184), .unset] [(.ref b184)])
      refine own_go (fun _ k => XS.iload X187.here hx rfl (hb hby at_215) rfl k) ?_
      obtain rfl | rfl | rfl := own_three hzz hneg
      · skip
        show own_Go _ _ _ _ T187 (mkF m 217 #[.val (.int p1), .val (.int p2), .val (.int p3), .val (.int p4), .val (.int p5), .val (.int p6), .val (.ref y128), .val (.ref y131), .val (.ref b132), .val (.ref b141), .val (.ref b154), .val (.ref b159), .val (.int (own_part p1)), .val (.int (own_part p2)), .val (.int (own_part p3)), .val (.ref b180), .val (.int row), .val (.int (0 : Int32)), .val (.ref b184), .unset] [(.int row), (.ref b184)])
        have f188 := ((V183.ext E184).keep K187 (ninS (Nat.ne_of_lt o_b184) nin0))
        have f189 := ((((((E175x.ext E180).wr W181).wr W182).wr W183).ext E184).keep K187)
        have lt_b159_b180 : b159 < b180 := Nat.lt_trans o_t167 o_b180
        have lt_b159_b184 : b159 < b184 := Nat.lt_trans lt_b159_b180 o_b184
        have f190 := ((((((F175s.ext E180).other W181 (Or.inl (Nat.ne_of_lt lt_b159_b180))).other W182 (Or.inl (Nat.ne_of_lt lt_b159_b180))).other W183 (Or.inl (Nat.ne_of_lt lt_b159_b180))).ext E184).keep K187 (ninS (Nat.ne_of_lt lt_b159_b184) nin0))
        have f191 := ((((((F175d.ext E180).other W181 (Or.inl (Nat.ne_of_lt lt_b159_b180))).other W182 (Or.inl (Nat.ne_of_lt lt_b159_b180))).other W183 (Or.inl (Nat.ne_of_lt lt_b159_b180))).ext E184).keep K187 (ninS (Nat.ne_of_lt lt_b159_b184) nin0))
        have lt_t167_b184 : t167 < b184 := Nat.lt_trans o_b180 o_b184
        have f192 := ((((((V175x.ext E180).other W181 (Nat.ne_of_lt o_b180)).other W182 (Nat.ne_of_lt o_b180)).other W183 (Nat.ne_of_lt o_b180)).ext E184).keep K187 (ninS (Nat.ne_of_lt lt_t167_b184) nin0))
        have f193 := (((((((((f164.keep K167).keep K171).keep K175).ext E180).wr W181).wr W182).wr W183).ext E184).keep K187)
        have f194 := (Nat.le_trans f186 K187.1)
        obtain ⟨v195, T195, h195, L195, X195, e195, hQ195, st195⟩ := own_callV X187 hx hZ hown (hw _ (List.mem_of_getElem? (i := 105) rfl)) (hw _ (List.mem_of_getElem? (i := 106) rfl)) (hw _ (List.mem_of_getElem? (i := 108) rfl)) (notFace_of_selects (args := #[]) (mvT hZ (hw _ (List.mem_of_getElem? (i := 108) rfl)))) (hw _ (List.mem_of_getElem? (i := 107) rfl)) (hw _ (List.mem_of_getElem? (i := 94) rfl)) (hw _ (List.mem_of_getElem? (i := 109) rfl)) (by decide) e187 E187x (argsL := [(.int row)]) (rest := []) (rmLab l Z a0 hw [] b184 row b180 b159 t167 b132 k180 k167 [(.int (own_part p1)), (.int (own_part p2)), (.int (own_part p3))] [(.ref b132), (.ref b141), (.ref b154), .null, .null, .null, .null, .null, .null, .null] (0 : Int32) (3 : Int32) h187 n0 f194 F187p F187l f188 hrw hz f189 f190 f191 f192 (by decide) (by decide) (by decide) rfl f193) 0 (by decide) (by decide) (by decide) (by decide) (g := (mkF m 217 #[.val (.int p1), .val (.int p2), .val (.int p3), .val (.int p4), .val (.int p5), .val (.int p6), .val (.ref y128), .val (.ref y131), .val (.ref b132), .val (.ref b141), .val (.ref b154), .val (.ref b159), .val (.int (own_part p1)), .val (.int (own_part p2)), .val (.int (own_part p3)), .val (.ref b180), .val (.int row), .val (.int (0 : Int32)), .val (.ref b184), .unset] [(.int row), (.ref b184)])) rfl (by rw [hml]; rfl) (lenOf pd14 rfl) rfl (Nat.le_of_eq rfl) (hb hby at_217)
        obtain ⟨rfl, N195q, rfl⟩ := hQ195
        refine own_go (st195) ?_
        have N195 := Fr.app N187 N195q
        show own_Go _ _ _ _ T195 (mkF m 220 #[.val (.int p1), .val (.int p2), .val (.int p3), .val (.int p4), .val (.int p5), .val (.int p6), .val (.ref y128), .val (.ref y131), .val (.ref b132), .val (.ref b141), .val (.ref b154), .val (.ref b159), .val (.int (own_part p1)), .val (.int (own_part p2)), .val (.int (own_part p3)), .val (.ref b180), .val (.int row), .val (.int (0 : Int32)), .val (.ref b184), .unset] [(.ref b132)])
        refine own_go (fun _ k => XS.astore X195.here hx rfl (hb hby at_220) rfl rfl (l' := #[.val (.int p1), .val (.int p2), .val (.int p3), .val (.int p4), .val (.int p5), .val (.int p6), .val (.ref y128), .val (.ref y131), .val (.ref b132), .val (.ref b141), .val (.ref b154), .val (.ref b159), .val (.int (own_part p1)), .val (.int (own_part p2)), .val (.int (own_part p3)), .val (.ref b180), .val (.int row), .val (.int (0 : Int32)), .val (.ref b184), .val (.ref b132)]) rfl k) ?_
        show own_Go _ _ _ _ T195 (mkF m 222 #[.val (.int p1), .val (.int p2), .val (.int p3), .val (.int p4), .val (.int p5), .val (.int p6), .val (.ref y128), .val (.ref y131), .val (.ref b132), .val (.ref b141), .val (.ref b154), .val (.ref b159), .val (.int (own_part p1)), .val (.int (own_part p2)), .val (.int (own_part p3)), .val (.ref b180), .val (.int row), .val (.int (0 : Int32)), .val (.ref b184), .val (.ref b132)] [])
        refine own_go (fun _ k => XS.aload X195.here hx rfl (hb hby at_222) rfl rfl k) ?_
        show own_Go _ _ _ _ T195 (mkF m 224 #[.val (.int p1), .val (.int p2), .val (.int p3), .val (.int p4), .val (.int p5), .val (.int p6), .val (.ref y128), .val (.ref y131), .val (.ref b132), .val (.ref b141), .val (.ref b154), .val (.ref b159), .val (.int (own_part p1)), .val (.int (own_part p2)), .val (.int (own_part p3)), .val (.ref b180), .val (.int row), .val (.int (0 : Int32)), .val (.ref b184), .val (.ref b132)] [(.ref b132)])
        refine own_go (fun _ k => XS.ifnonnullYes X195.here hx rfl (pc0 := 224) (pc' := 229) rfl (hb hby at_224) rfl (by decide) (by decide) k) ?_
        show own_Go _ _ _ _ T195 (mkF m 229 #[.val (.int p1), .val (.int p2), .val (.int p3), .val (.int p4), .val (.int p5), .val (.int p6), .val (.ref y128), .val (.ref y131), .val (.ref b132), .val (.ref b141), .val (.ref b154), .val (.ref b159), .val (.int (own_part p1)), .val (.int (own_part p2)), .val (.int (own_part p3)), .val (.ref b180), .val (.int row), .val (.int (0 : Int32)), .val (.ref b184), .val (.ref b132)] [])
        refine own_go (fun _ k => XS.iload X195.here hx rfl (hb hby at_229) rfl k) ?_
        show own_Go _ _ _ _ T195 (mkF m 231 #[.val (.int p1), .val (.int p2), .val (.int p3), .val (.int p4), .val (.int p5), .val (.int p6), .val (.ref y128), .val (.ref y131), .val (.ref b132), .val (.ref b141), .val (.ref b154), .val (.ref b159), .val (.int (own_part p1)), .val (.int (own_part p2)), .val (.int (own_part p3)), .val (.ref b180), .val (.int row), .val (.int (0 : Int32)), .val (.ref b184), .val (.ref b132)] [(.int (0 : Int32))])
        refine own_go (fun _ k => XS.ifNo X195.here hx rfl (hb hby at_231) rfl ((if0 _ _).trans (teq rfl).2) k) ?_
        show own_Go _ _ _ _ T195 (mkF m 234 #[.val (.int p1), .val (.int p2), .val (.int p3), .val (.int p4), .val (.int p5), .val (.int p6), .val (.ref y128), .val (.ref y131), .val (.ref b132), .val (.ref b141), .val (.ref b154), .val (.ref b159), .val (.int (own_part p1)), .val (.int (own_part p2)), .val (.int (own_part p3)), .val (.ref b180), .val (.int row), .val (.int (0 : Int32)), .val (.ref b184), .val (.ref b132)] [])
        refine own_go (fun _ k => XS.aload X195.here hx rfl (hb hby at_234) rfl rfl k) ?_
        show own_Go _ _ _ _ T195 (mkF m 236 #[.val (.int p1), .val (.int p2), .val (.int p3), .val (.int p4), .val (.int p5), .val (.int p6), .val (.ref y128), .val (.ref y131), .val (.ref b132), .val (.ref b141), .val (.ref b154), .val (.ref b159), .val (.int (own_part p1)), .val (.int (own_part p2)), .val (.int (own_part p3)), .val (.ref b180), .val (.int row), .val (.int (0 : Int32)), .val (.ref b184), .val (.ref b132)] [(.ref b132)])
        have lt_b132_b141 : b132 < b141 := Nat.lt_trans o_t140 o_b141
        have lt_b132_t149 : b132 < t149 := Nat.lt_trans lt_b132_b141 o_t149
        have lt_b132_b154 : b132 < b154 := Nat.lt_trans lt_b132_t149 o_b154
        have lt_b132_b159 : b132 < b159 := Nat.lt_trans lt_b132_b154 o_b159
        have lt_b132_t167 : b132 < t167 := Nat.lt_trans lt_b132_b159 o_t167
        have lt_b132_b180 : b132 < b180 := Nat.lt_trans lt_b132_t167 o_b180
        have lt_b132_b184 : b132 < b184 := Nat.lt_trans lt_b132_b180 o_b184
        have f196 := (((((((((((((((((F140s.ext E141).keep K145 (ninS (Nat.ne_of_lt lt_b132_b141) nin0)).keep K149 (ninS (Nat.ne_of_lt lt_b132_b141) nin0)).keep K153 (ninS (Nat.ne_of_lt lt_b132_b141) (ninS (Nat.ne_of_lt lt_b132_t149) nin0))).ext E154).keep K158 (ninS (Nat.ne_of_lt lt_b132_b154) nin0)).ext E159).keep K163 (ninS (Nat.ne_of_lt lt_b132_b159) nin0)).keep K167 (ninS (Nat.ne_of_lt lt_b132_b159) nin0)).keep K171 (ninS (Nat.ne_of_lt lt_b132_b159) (ninS (Nat.ne_of_lt lt_b132_t167) nin0))).keep K175 (ninS (Nat.ne_of_lt lt_b132_b159) (ninS (Nat.ne_of_lt lt_b132_t167) nin0))).ext E180).other W181 (Or.inl (Nat.ne_of_lt lt_b132_b180))).other W182 (Or.inl (Nat.ne_of_lt lt_b132_b180))).other W183 (Or.inl (Nat.ne_of_lt lt_b132_b180))).ext E184).keep K187 (ninS (Nat.ne_of_lt lt_b132_b184) nin0))
        obtain ⟨v197, T197, h197, L197, X197, e197, hQ197, st197⟩ := own_callF X195 hx hZ hown (hw _ (List.mem_of_getElem? (i := 132) rfl)) (hw _ (List.mem_of_getElem? (i := 133) rfl)) (mvT hZ (hw _ (List.mem_of_getElem? (i := 134) rfl))) (hw _ (List.mem_of_getElem? (i := 135) rfl)) (hw _ (List.mem_of_getElem? (i := 136) rfl)) (hw _ (List.mem_of_getElem? (i := 137) rfl)) (hw _ (List.mem_of_getElem? (i := 138) rfl)) (hw _ (List.mem_of_getElem? (i := 57) rfl)) (hw _ (List.mem_of_getElem? (i := 28) rfl)) (hw _ (List.mem_of_getElem? (i := 139) rfl)) (by decide) e195 f193 (argsL := []) (rest := []) (rmSz l Z a0 hw [] b132 (1 : Int32) h187 n0 f194 f196) 0 (by decide) (by decide) (by decide) (by decide) (g := (mkF m 236 #[.val (.int p1), .val (.int p2), .val (.int p3), .val (.int p4), .val (.int p5), .val (.int p6), .val (.ref y128), .val (.ref y131), .val (.ref b132), .val (.ref b141), .val (.ref b154), .val (.ref b159), .val (.int (own_part p1)), .val (.int (own_part p2)), .val (.int (own_part p3)), .val (.ref b180), .val (.int row), .val (.int (0 : Int32)), .val (.ref b184), .val (.ref b132)] [(.ref b132)])) rfl (by rw [hml]; rfl) (lenOf pd15 rfl) rfl (Nat.le_of_eq rfl) (hb hby at_236)
        obtain ⟨rfl, N197q, rfl⟩ := hQ197
        refine own_go (st197) ?_
        have N197 := Fr.app N195 N197q
        show own_Go _ _ _ _ T197 (mkF m 241 #[.val (.int p1), .val (.int p2), .val (.int p3), .val (.int p4), .val (.int p5), .val (.int p6), .val (.ref y128), .val (.ref y131), .val (.ref b132), .val (.ref b141), .val (.ref b154), .val (.ref b159), .val (.int (own_part p1)), .val (.int (own_part p2)), .val (.int (own_part p3)), .val (.ref b180), .val (.int row), .val (.int (0 : Int32)), .val (.ref b184), .val (.ref b132)] [(.int (1 : Int32))])
        refine own_go (fun _ k => XS.iconst X197.here hx rfl (hb hby at_241) k) ?_
        show own_Go _ _ _ _ T197 (mkF m 242 #[.val (.int p1), .val (.int p2), .val (.int p3), .val (.int p4), .val (.int p5), .val (.int p6), .val (.ref y128), .val (.ref y131), .val (.ref b132), .val (.ref b141), .val (.ref b154), .val (.ref b159), .val (.int (own_part p1)), .val (.int (own_part p2)), .val (.int (own_part p3)), .val (.ref b180), .val (.int row), .val (.int (0 : Int32)), .val (.ref b184), .val (.ref b132)] [(.int (1 : Int32)), (.int (1 : Int32))])
        refine own_go (fun _ k => XS.icmpNo X197.here hx rfl (hb hby at_242) rfl (teq rfl).2 k) ?_
        show own_Go _ _ _ _ T197 (mkF m 245 #[.val (.int p1), .val (.int p2), .val (.int p3), .val (.int p4), .val (.int p5), .val (.int p6), .val (.ref y128), .val (.ref y131), .val (.ref b132), .val (.ref b141), .val (.ref b154), .val (.ref b159), .val (.int (own_part p1)), .val (.int (own_part p2)), .val (.int (own_part p3)), .val (.ref b180), .val (.int row), .val (.int (0 : Int32)), .val (.ref b184), .val (.ref b132)] [])
        refine own_go (fun _ k => XS.aload X197.here hx rfl (hb hby at_245) rfl rfl k) ?_
        show own_Go _ _ _ _ T197 (mkF m 247 #[.val (.int p1), .val (.int p2), .val (.int p3), .val (.int p4), .val (.int p5), .val (.int p6), .val (.ref y128), .val (.ref y131), .val (.ref b132), .val (.ref b141), .val (.ref b154), .val (.ref b159), .val (.int (own_part p1)), .val (.int (own_part p2)), .val (.int (own_part p3)), .val (.ref b180), .val (.int row), .val (.int (0 : Int32)), .val (.ref b184), .val (.ref b132)] [(.ref y128)])
        refine own_go (fun _ k => XS.aload X197.here hx rfl (hb hby at_247) rfl rfl k) ?_
        show own_Go _ _ _ _ T197 (mkF m 249 #[.val (.int p1), .val (.int p2), .val (.int p3), .val (.int p4), .val (.int p5), .val (.int p6), .val (.ref y128), .val (.ref y131), .val (.ref b132), .val (.ref b141), .val (.ref b154), .val (.ref b159), .val (.int (own_part p1)), .val (.int (own_part p2)), .val (.int (own_part p3)), .val (.ref b180), .val (.int row), .val (.int (0 : Int32)), .val (.ref b184), .val (.ref b132)] [(.ref b132), (.ref y128)])
        refine own_go (fun _ k => XS.iconst X197.here hx rfl (hb hby at_249) k) ?_
        show own_Go _ _ _ _ T197 (mkF m 250 #[.val (.int p1), .val (.int p2), .val (.int p3), .val (.int p4), .val (.int p5), .val (.int p6), .val (.ref y128), .val (.ref y131), .val (.ref b132), .val (.ref b141), .val (.ref b154), .val (.ref b159), .val (.int (own_part p1)), .val (.int (own_part p2)), .val (.int (own_part p3)), .val (.ref b180), .val (.int row), .val (.int (0 : Int32)), .val (.ref b184), .val (.ref b132)] [(.int (0 : Int32)), (.ref b132), (.ref y128)])
        have f198 := (((((((((((((((((F140d.ext E141).keep K145 (ninS (Nat.ne_of_lt lt_b132_b141) nin0)).keep K149 (ninS (Nat.ne_of_lt lt_b132_b141) nin0)).keep K153 (ninS (Nat.ne_of_lt lt_b132_b141) (ninS (Nat.ne_of_lt lt_b132_t149) nin0))).ext E154).keep K158 (ninS (Nat.ne_of_lt lt_b132_b154) nin0)).ext E159).keep K163 (ninS (Nat.ne_of_lt lt_b132_b159) nin0)).keep K167 (ninS (Nat.ne_of_lt lt_b132_b159) nin0)).keep K171 (ninS (Nat.ne_of_lt lt_b132_b159) (ninS (Nat.ne_of_lt lt_b132_t167) nin0))).keep K175 (ninS (Nat.ne_of_lt lt_b132_b159) (ninS (Nat.ne_of_lt lt_b132_t167) nin0))).ext E180).other W181 (Or.inl (Nat.ne_of_lt lt_b132_b180))).other W182 (Or.inl (Nat.ne_of_lt lt_b132_b180))).other W183 (Or.inl (Nat.ne_of_lt lt_b132_b180))).ext E184).keep K187 (ninS (Nat.ne_of_lt lt_b132_b184) nin0))
        have lt_t140_t149 : t140 < t149 := Nat.lt_trans o_b141 o_t149
        have lt_t140_b154 : t140 < b154 := Nat.lt_trans lt_t140_t149 o_b154
        have lt_t140_b159 : t140 < b159 := Nat.lt_trans lt_t140_b154 o_b159
        have lt_t140_t167 : t140 < t167 := Nat.lt_trans lt_t140_b159 o_t167
        have lt_t140_b180 : t140 < b180 := Nat.lt_trans lt_t140_t167 o_b180
        have lt_t140_b184 : t140 < b184 := Nat.lt_trans lt_t140_b180 o_b184
        have f199 := (((((((((((((((((V140.ext E141).keep K145 (ninS (Nat.ne_of_lt o_b141) nin0)).keep K149 (ninS (Nat.ne_of_lt o_b141) nin0)).keep K153 (ninS (Nat.ne_of_lt o_b141) (ninS (Nat.ne_of_lt lt_t140_t149) nin0))).ext E154).keep K158 (ninS (Nat.ne_of_lt lt_t140_b154) nin0)).ext E159).keep K163 (ninS (Nat.ne_of_lt lt_t140_b159) nin0)).keep K167 (ninS (Nat.ne_of_lt lt_t140_b159) nin0)).keep K171 (ninS (Nat.ne_of_lt lt_t140_b159) (ninS (Nat.ne_of_lt lt_t140_t167) nin0))).keep K175 (ninS (Nat.ne_of_lt lt_t140_b159) (ninS (Nat.ne_of_lt lt_t140_t167) nin0))).ext E180).other W181 (Nat.ne_of_lt lt_t140_b180)).other W182 (Nat.ne_of_lt lt_t140_b180)).other W183 (Nat.ne_of_lt lt_t140_b180)).ext E184).keep K187 (ninS (Nat.ne_of_lt lt_t140_b184) nin0))
        obtain ⟨v200, T200, h200, L200, X200, e200, hQ200, st200⟩ := own_callF X197 hx hZ hown (hw _ (List.mem_of_getElem? (i := 140) rfl)) (hw _ (List.mem_of_getElem? (i := 111) rfl)) (mvT hZ (hw _ (List.mem_of_getElem? (i := 112) rfl))) (hw _ (List.mem_of_getElem? (i := 113) rfl)) (hw _ (List.mem_of_getElem? (i := 114) rfl)) (hw _ (List.mem_of_getElem? (i := 115) rfl)) (hw _ (List.mem_of_getElem? (i := 116) rfl)) (hw _ (List.mem_of_getElem? (i := 57) rfl)) (hw _ (List.mem_of_getElem? (i := 28) rfl)) (hw _ (List.mem_of_getElem? (i := 117) rfl)) (by decide) e197 f193 (argsL := [(.int (0 : Int32))]) (rest := [(.ref y128)]) (rmGet l Z a0 hw [] b132 (0 : Int32) t140 k140 [(.ref y128), .null, .null, .null, .null, .null, .null, .null, .null, .null] y128 (1 : Int32) h187 n0 f194 f193 f196 (by decide) f198 f199 (by decide) (by decide) rfl) 1 (by decide) (by decide) (by decide) (by decide) (g := (mkF m 250 #[.val (.int p1), .val (.int p2), .val (.int p3), .val (.int p4), .val (.int p5), .val (.int p6), .val (.ref y128), .val (.ref y131), .val (.ref b132), .val (.ref b141), .val (.ref b154), .val (.ref b159), .val (.int (own_part p1)), .val (.int (own_part p2)), .val (.int (own_part p3)), .val (.ref b180), .val (.int row), .val (.int (0 : Int32)), .val (.ref b184), .val (.ref b132)] [(.int (0 : Int32)), (.ref b132), (.ref y128)])) rfl (by rw [hml]; rfl) (lenOf pd6 rfl) rfl (Nat.le_of_eq rfl) (hb hby at_250)
        obtain ⟨rfl, N200q, rfl⟩ := hQ200
        refine own_go (st200) ?_
        have N200 := Fr.app N197 N200q
        show own_Go _ _ _ _ T200 (mkF m 255 #[.val (.int p1), .val (.int p2), .val (.int p3), .val (.int p4), .val (.int p5), .val (.int p6), .val (.ref y128), .val (.ref y131), .val (.ref b132), .val (.ref b141), .val (.ref b154), .val (.ref b159), .val (.int (own_part p1)), .val (.int (own_part p2)), .val (.int (own_part p3)), .val (.ref b180), .val (.int row), .val (.int (0 : Int32)), .val (.ref b184), .val (.ref b132)] [(.ref y128), (.ref y128)])
        have f202 := ((((((((((((((f150.keep K153).ext E154).keep K158).ext E159).keep K163).keep K167).keep K171).keep K175).ext E180).wr W181).wr W182).wr W183).ext E184).keep K187)
        obtain ⟨v201, T201, h201, L201, X201, e201, hQ201, st201⟩ := own_callV X200 hx hZ hown (hw _ (List.mem_of_getElem? (i := 141) rfl)) (hw _ (List.mem_of_getElem? (i := 142) rfl)) (hw _ (List.mem_of_getElem? (i := 144) rfl)) (notFace_of_selects (args := #[]) (mvT hZ (hw _ (List.mem_of_getElem? (i := 144) rfl)))) (hw _ (List.mem_of_getElem? (i := 143) rfl)) (hw _ (List.mem_of_getElem? (i := 2) rfl)) (hw _ (List.mem_of_getElem? (i := 145) rfl)) (by decide) e200 f202 (argsL := [(.ref y128)]) (rest := []) (rmEq l Z a0 hw [] y128 h187 n0 f194) 0 (by decide) (by decide) (by decide) (by decide) (g := (mkF m 255 #[.val (.int p1), .val (.int p2), .val (.int p3), .val (.int p4), .val (.int p5), .val (.int p6), .val (.ref y128), .val (.ref y131), .val (.ref b132), .val (.ref b141), .val (.ref b154), .val (.ref b159), .val (.int (own_part p1)), .val (.int (own_part p2)), .val (.int (own_part p3)), .val (.ref b180), .val (.int row), .val (.int (0 : Int32)), .val (.ref b184), .val (.ref b132)] [(.ref y128), (.ref y128)])) rfl (by rw [hml]; rfl) (lenOf pd11 rfl) rfl (Nat.le_of_eq rfl) (hb hby at_255)
        obtain ⟨rfl, N201q, rfl⟩ := hQ201
        refine own_go (st201) ?_
        have N201 := Fr.app N200 N201q
        show own_Go _ _ _ _ T201 (mkF m 258 #[.val (.int p1), .val (.int p2), .val (.int p3), .val (.int p4), .val (.int p5), .val (.int p6), .val (.ref y128), .val (.ref y131), .val (.ref b132), .val (.ref b141), .val (.ref b154), .val (.ref b159), .val (.int (own_part p1)), .val (.int (own_part p2)), .val (.int (own_part p3)), .val (.ref b180), .val (.int row), .val (.int (0 : Int32)), .val (.ref b184), .val (.ref b132)] [(.int (1 : Int32))])
        refine own_go (fun _ k => XS.ifNo X201.here hx rfl (hb hby at_258) rfl ((if0 _ _).trans (feq (by decide)).1) k) ?_
        show own_Go _ _ _ _ T201 (mkF m 261 #[.val (.int p1), .val (.int p2), .val (.int p3), .val (.int p4), .val (.int p5), .val (.int p6), .val (.ref y128), .val (.ref y131), .val (.ref b132), .val (.ref b141), .val (.ref b154), .val (.ref b159), .val (.int (own_part p1)), .val (.int (own_part p2)), .val (.int (own_part p3)), .val (.ref b180), .val (.int row), .val (.int (0 : Int32)), .val (.ref b184), .val (.ref b132)] [])
        refine own_go (fun _ k => XS.iconst X201.here hx rfl (hb hby at_261) k) ?_
        show own_Go _ _ _ _ T201 (mkF m 262 #[.val (.int p1), .val (.int p2), .val (.int p3), .val (.int p4), .val (.int p5), .val (.int p6), .val (.ref y128), .val (.ref y131), .val (.ref b132), .val (.ref b141), .val (.ref b154), .val (.ref b159), .val (.int (own_part p1)), .val (.int (own_part p2)), .val (.int (own_part p3)), .val (.ref b180), .val (.int row), .val (.int (0 : Int32)), .val (.ref b184), .val (.ref b132)] [(.int (1 : Int32))])
        refine own_go (fun _ k => XS.goto X201.here hx rfl (pc0 := 262) (pc' := 266) rfl (hb hby at_262) (by decide) (by decide) k) ?_
        show own_Go _ _ _ _ T201 (mkF m 266 #[.val (.int p1), .val (.int p2), .val (.int p3), .val (.int p4), .val (.int p5), .val (.int p6), .val (.ref y128), .val (.ref y131), .val (.ref b132), .val (.ref b141), .val (.ref b154), .val (.ref b159), .val (.int (own_part p1)), .val (.int (own_part p2)), .val (.int (own_part p3)), .val (.ref b180), .val (.int row), .val (.int (0 : Int32)), .val (.ref b184), .val (.ref b132)] [(.int (1 : Int32))])
        exact own_retN X201 hx hret (by simp) hlk (hb hby at_266) (by decide) (by decide) (by first | exact ⟨rfl, N201⟩ | (rw [e201]; exact ⟨rfl, N201⟩))
      · skip
        show own_Go _ _ _ _ T187 (mkF m 217 #[.val (.int p1), .val (.int p2), .val (.int p3), .val (.int p4), .val (.int p5), .val (.int p6), .val (.ref y128), .val (.ref y131), .val (.ref b132), .val (.ref b141), .val (.ref b154), .val (.ref b159), .val (.int (own_part p1)), .val (.int (own_part p2)), .val (.int (own_part p3)), .val (.ref b180), .val (.int row), .val (.int (1 : Int32)), .val (.ref b184), .unset] [(.int row), (.ref b184)])
        have f203 := ((V183.ext E184).keep K187 (ninS (Nat.ne_of_lt o_b184) nin0))
        have f204 := ((((((E175x.ext E180).wr W181).wr W182).wr W183).ext E184).keep K187)
        have lt_b159_b180 : b159 < b180 := Nat.lt_trans o_t167 o_b180
        have lt_b159_b184 : b159 < b184 := Nat.lt_trans lt_b159_b180 o_b184
        have f205 := ((((((F175s.ext E180).other W181 (Or.inl (Nat.ne_of_lt lt_b159_b180))).other W182 (Or.inl (Nat.ne_of_lt lt_b159_b180))).other W183 (Or.inl (Nat.ne_of_lt lt_b159_b180))).ext E184).keep K187 (ninS (Nat.ne_of_lt lt_b159_b184) nin0))
        have f206 := ((((((F175d.ext E180).other W181 (Or.inl (Nat.ne_of_lt lt_b159_b180))).other W182 (Or.inl (Nat.ne_of_lt lt_b159_b180))).other W183 (Or.inl (Nat.ne_of_lt lt_b159_b180))).ext E184).keep K187 (ninS (Nat.ne_of_lt lt_b159_b184) nin0))
        have lt_t167_b184 : t167 < b184 := Nat.lt_trans o_b180 o_b184
        have f207 := ((((((V175x.ext E180).other W181 (Nat.ne_of_lt o_b180)).other W182 (Nat.ne_of_lt o_b180)).other W183 (Nat.ne_of_lt o_b180)).ext E184).keep K187 (ninS (Nat.ne_of_lt lt_t167_b184) nin0))
        have f208 := ((((((((f168.keep K171).keep K175).ext E180).wr W181).wr W182).wr W183).ext E184).keep K187)
        have f209 := (Nat.le_trans f186 K187.1)
        obtain ⟨v210, T210, h210, L210, X210, e210, hQ210, st210⟩ := own_callV X187 hx hZ hown (hw _ (List.mem_of_getElem? (i := 105) rfl)) (hw _ (List.mem_of_getElem? (i := 106) rfl)) (hw _ (List.mem_of_getElem? (i := 108) rfl)) (notFace_of_selects (args := #[]) (mvT hZ (hw _ (List.mem_of_getElem? (i := 108) rfl)))) (hw _ (List.mem_of_getElem? (i := 107) rfl)) (hw _ (List.mem_of_getElem? (i := 94) rfl)) (hw _ (List.mem_of_getElem? (i := 109) rfl)) (by decide) e187 E187x (argsL := [(.int row)]) (rest := []) (rmLab l Z a0 hw [] b184 row b180 b159 t167 b141 k180 k167 [(.int (own_part p1)), (.int (own_part p2)), (.int (own_part p3))] [(.ref b132), (.ref b141), (.ref b154), .null, .null, .null, .null, .null, .null, .null] (1 : Int32) (3 : Int32) h187 n0 f209 F187p F187l f203 hrw hz f204 f205 f206 f207 (by decide) (by decide) (by decide) rfl f208) 0 (by decide) (by decide) (by decide) (by decide) (g := (mkF m 217 #[.val (.int p1), .val (.int p2), .val (.int p3), .val (.int p4), .val (.int p5), .val (.int p6), .val (.ref y128), .val (.ref y131), .val (.ref b132), .val (.ref b141), .val (.ref b154), .val (.ref b159), .val (.int (own_part p1)), .val (.int (own_part p2)), .val (.int (own_part p3)), .val (.ref b180), .val (.int row), .val (.int (1 : Int32)), .val (.ref b184), .unset] [(.int row), (.ref b184)])) rfl (by rw [hml]; rfl) (lenOf pd14 rfl) rfl (Nat.le_of_eq rfl) (hb hby at_217)
        obtain ⟨rfl, N210q, rfl⟩ := hQ210
        refine own_go (st210) ?_
        have N210 := Fr.app N187 N210q
        show own_Go _ _ _ _ T210 (mkF m 220 #[.val (.int p1), .val (.int p2), .val (.int p3), .val (.int p4), .val (.int p5), .val (.int p6), .val (.ref y128), .val (.ref y131), .val (.ref b132), .val (.ref b141), .val (.ref b154), .val (.ref b159), .val (.int (own_part p1)), .val (.int (own_part p2)), .val (.int (own_part p3)), .val (.ref b180), .val (.int row), .val (.int (1 : Int32)), .val (.ref b184), .unset] [(.ref b141)])
        refine own_go (fun _ k => XS.astore X210.here hx rfl (hb hby at_220) rfl rfl (l' := #[.val (.int p1), .val (.int p2), .val (.int p3), .val (.int p4), .val (.int p5), .val (.int p6), .val (.ref y128), .val (.ref y131), .val (.ref b132), .val (.ref b141), .val (.ref b154), .val (.ref b159), .val (.int (own_part p1)), .val (.int (own_part p2)), .val (.int (own_part p3)), .val (.ref b180), .val (.int row), .val (.int (1 : Int32)), .val (.ref b184), .val (.ref b141)]) rfl k) ?_
        show own_Go _ _ _ _ T210 (mkF m 222 #[.val (.int p1), .val (.int p2), .val (.int p3), .val (.int p4), .val (.int p5), .val (.int p6), .val (.ref y128), .val (.ref y131), .val (.ref b132), .val (.ref b141), .val (.ref b154), .val (.ref b159), .val (.int (own_part p1)), .val (.int (own_part p2)), .val (.int (own_part p3)), .val (.ref b180), .val (.int row), .val (.int (1 : Int32)), .val (.ref b184), .val (.ref b141)] [])
        refine own_go (fun _ k => XS.aload X210.here hx rfl (hb hby at_222) rfl rfl k) ?_
        show own_Go _ _ _ _ T210 (mkF m 224 #[.val (.int p1), .val (.int p2), .val (.int p3), .val (.int p4), .val (.int p5), .val (.int p6), .val (.ref y128), .val (.ref y131), .val (.ref b132), .val (.ref b141), .val (.ref b154), .val (.ref b159), .val (.int (own_part p1)), .val (.int (own_part p2)), .val (.int (own_part p3)), .val (.ref b180), .val (.int row), .val (.int (1 : Int32)), .val (.ref b184), .val (.ref b141)] [(.ref b141)])
        refine own_go (fun _ k => XS.ifnonnullYes X210.here hx rfl (pc0 := 224) (pc' := 229) rfl (hb hby at_224) rfl (by decide) (by decide) k) ?_
        show own_Go _ _ _ _ T210 (mkF m 229 #[.val (.int p1), .val (.int p2), .val (.int p3), .val (.int p4), .val (.int p5), .val (.int p6), .val (.ref y128), .val (.ref y131), .val (.ref b132), .val (.ref b141), .val (.ref b154), .val (.ref b159), .val (.int (own_part p1)), .val (.int (own_part p2)), .val (.int (own_part p3)), .val (.ref b180), .val (.int row), .val (.int (1 : Int32)), .val (.ref b184), .val (.ref b141)] [])
        refine own_go (fun _ k => XS.iload X210.here hx rfl (hb hby at_229) rfl k) ?_
        show own_Go _ _ _ _ T210 (mkF m 231 #[.val (.int p1), .val (.int p2), .val (.int p3), .val (.int p4), .val (.int p5), .val (.int p6), .val (.ref y128), .val (.ref y131), .val (.ref b132), .val (.ref b141), .val (.ref b154), .val (.ref b159), .val (.int (own_part p1)), .val (.int (own_part p2)), .val (.int (own_part p3)), .val (.ref b180), .val (.int row), .val (.int (1 : Int32)), .val (.ref b184), .val (.ref b141)] [(.int (1 : Int32))])
        refine own_go (fun _ k => XS.ifYes X210.here hx rfl (pc0 := 231) (pc' := 267) rfl (hb hby at_231) rfl ((if0 _ _).trans (feq (by decide)).2) (by decide) (by decide) k) ?_
        show own_Go _ _ _ _ T210 (mkF m 267 #[.val (.int p1), .val (.int p2), .val (.int p3), .val (.int p4), .val (.int p5), .val (.int p6), .val (.ref y128), .val (.ref y131), .val (.ref b132), .val (.ref b141), .val (.ref b154), .val (.ref b159), .val (.int (own_part p1)), .val (.int (own_part p2)), .val (.int (own_part p3)), .val (.ref b180), .val (.int row), .val (.int (1 : Int32)), .val (.ref b184), .val (.ref b141)] [])
        refine own_go (fun _ k => XS.iload X210.here hx rfl (hb hby at_267) rfl k) ?_
        show own_Go _ _ _ _ T210 (mkF m 269 #[.val (.int p1), .val (.int p2), .val (.int p3), .val (.int p4), .val (.int p5), .val (.int p6), .val (.ref y128), .val (.ref y131), .val (.ref b132), .val (.ref b141), .val (.ref b154), .val (.ref b159), .val (.int (own_part p1)), .val (.int (own_part p2)), .val (.int (own_part p3)), .val (.ref b180), .val (.int row), .val (.int (1 : Int32)), .val (.ref b184), .val (.ref b141)] [(.int (1 : Int32))])
        refine own_go (fun _ k => XS.iconst X210.here hx rfl (hb hby at_269) k) ?_
        show own_Go _ _ _ _ T210 (mkF m 270 #[.val (.int p1), .val (.int p2), .val (.int p3), .val (.int p4), .val (.int p5), .val (.int p6), .val (.ref y128), .val (.ref y131), .val (.ref b132), .val (.ref b141), .val (.ref b154), .val (.ref b159), .val (.int (own_part p1)), .val (.int (own_part p2)), .val (.int (own_part p3)), .val (.ref b180), .val (.int row), .val (.int (1 : Int32)), .val (.ref b184), .val (.ref b141)] [(.int (1 : Int32)), (.int (1 : Int32))])
        refine own_go (fun _ k => XS.icmpNo X210.here hx rfl (hb hby at_270) rfl (teq rfl).2 k) ?_
        show own_Go _ _ _ _ T210 (mkF m 273 #[.val (.int p1), .val (.int p2), .val (.int p3), .val (.int p4), .val (.int p5), .val (.int p6), .val (.ref y128), .val (.ref y131), .val (.ref b132), .val (.ref b141), .val (.ref b154), .val (.ref b159), .val (.int (own_part p1)), .val (.int (own_part p2)), .val (.int (own_part p3)), .val (.ref b180), .val (.int row), .val (.int (1 : Int32)), .val (.ref b184), .val (.ref b141)] [])
        refine own_go (fun _ k => XS.aload X210.here hx rfl (hb hby at_273) rfl rfl k) ?_
        show own_Go _ _ _ _ T210 (mkF m 275 #[.val (.int p1), .val (.int p2), .val (.int p3), .val (.int p4), .val (.int p5), .val (.int p6), .val (.ref y128), .val (.ref y131), .val (.ref b132), .val (.ref b141), .val (.ref b154), .val (.ref b159), .val (.int (own_part p1)), .val (.int (own_part p2)), .val (.int (own_part p3)), .val (.ref b180), .val (.int row), .val (.int (1 : Int32)), .val (.ref b184), .val (.ref b141)] [(.ref b141)])
        have lt_b141_b154 : b141 < b154 := Nat.lt_trans o_t149 o_b154
        have lt_b141_b159 : b141 < b159 := Nat.lt_trans lt_b141_b154 o_b159
        have lt_b141_t167 : b141 < t167 := Nat.lt_trans lt_b141_b159 o_t167
        have lt_b141_b180 : b141 < b180 := Nat.lt_trans lt_b141_t167 o_b180
        have lt_b141_b184 : b141 < b184 := Nat.lt_trans lt_b141_b180 o_b184
        have f211 := (((((((((((((F153s.ext E154).keep K158 (ninS (Nat.ne_of_lt lt_b141_b154) nin0)).ext E159).keep K163 (ninS (Nat.ne_of_lt lt_b141_b159) nin0)).keep K167 (ninS (Nat.ne_of_lt lt_b141_b159) nin0)).keep K171 (ninS (Nat.ne_of_lt lt_b141_b159) (ninS (Nat.ne_of_lt lt_b141_t167) nin0))).keep K175 (ninS (Nat.ne_of_lt lt_b141_b159) (ninS (Nat.ne_of_lt lt_b141_t167) nin0))).ext E180).other W181 (Or.inl (Nat.ne_of_lt lt_b141_b180))).other W182 (Or.inl (Nat.ne_of_lt lt_b141_b180))).other W183 (Or.inl (Nat.ne_of_lt lt_b141_b180))).ext E184).keep K187 (ninS (Nat.ne_of_lt lt_b141_b184) nin0))
        obtain ⟨v212, T212, h212, L212, X212, e212, hQ212, st212⟩ := own_callF X210 hx hZ hown (hw _ (List.mem_of_getElem? (i := 132) rfl)) (hw _ (List.mem_of_getElem? (i := 133) rfl)) (mvT hZ (hw _ (List.mem_of_getElem? (i := 134) rfl))) (hw _ (List.mem_of_getElem? (i := 135) rfl)) (hw _ (List.mem_of_getElem? (i := 136) rfl)) (hw _ (List.mem_of_getElem? (i := 137) rfl)) (hw _ (List.mem_of_getElem? (i := 138) rfl)) (hw _ (List.mem_of_getElem? (i := 57) rfl)) (hw _ (List.mem_of_getElem? (i := 28) rfl)) (hw _ (List.mem_of_getElem? (i := 139) rfl)) (by decide) e210 f208 (argsL := []) (rest := []) (rmSz l Z a0 hw [] b141 (2 : Int32) h187 n0 f209 f211) 0 (by decide) (by decide) (by decide) (by decide) (g := (mkF m 275 #[.val (.int p1), .val (.int p2), .val (.int p3), .val (.int p4), .val (.int p5), .val (.int p6), .val (.ref y128), .val (.ref y131), .val (.ref b132), .val (.ref b141), .val (.ref b154), .val (.ref b159), .val (.int (own_part p1)), .val (.int (own_part p2)), .val (.int (own_part p3)), .val (.ref b180), .val (.int row), .val (.int (1 : Int32)), .val (.ref b184), .val (.ref b141)] [(.ref b141)])) rfl (by rw [hml]; rfl) (lenOf pd15 rfl) rfl (Nat.le_of_eq rfl) (hb hby at_275)
        obtain ⟨rfl, N212q, rfl⟩ := hQ212
        refine own_go (st212) ?_
        have N212 := Fr.app N210 N212q
        show own_Go _ _ _ _ T212 (mkF m 280 #[.val (.int p1), .val (.int p2), .val (.int p3), .val (.int p4), .val (.int p5), .val (.int p6), .val (.ref y128), .val (.ref y131), .val (.ref b132), .val (.ref b141), .val (.ref b154), .val (.ref b159), .val (.int (own_part p1)), .val (.int (own_part p2)), .val (.int (own_part p3)), .val (.ref b180), .val (.int row), .val (.int (1 : Int32)), .val (.ref b184), .val (.ref b141)] [(.int (2 : Int32))])
        refine own_go (fun _ k => XS.iconst X212.here hx rfl (hb hby at_280) k) ?_
        show own_Go _ _ _ _ T212 (mkF m 281 #[.val (.int p1), .val (.int p2), .val (.int p3), .val (.int p4), .val (.int p5), .val (.int p6), .val (.ref y128), .val (.ref y131), .val (.ref b132), .val (.ref b141), .val (.ref b154), .val (.ref b159), .val (.int (own_part p1)), .val (.int (own_part p2)), .val (.int (own_part p3)), .val (.ref b180), .val (.int row), .val (.int (1 : Int32)), .val (.ref b184), .val (.ref b141)] [(.int (2 : Int32)), (.int (2 : Int32))])
        refine own_go (fun _ k => XS.icmpNo X212.here hx rfl (hb hby at_281) rfl (teq rfl).2 k) ?_
        show own_Go _ _ _ _ T212 (mkF m 284 #[.val (.int p1), .val (.int p2), .val (.int p3), .val (.int p4), .val (.int p5), .val (.int p6), .val (.ref y128), .val (.ref y131), .val (.ref b132), .val (.ref b141), .val (.ref b154), .val (.ref b159), .val (.int (own_part p1)), .val (.int (own_part p2)), .val (.int (own_part p3)), .val (.ref b180), .val (.int row), .val (.int (1 : Int32)), .val (.ref b184), .val (.ref b141)] [])
        refine own_go (fun _ k => XS.aload X212.here hx rfl (hb hby at_284) rfl rfl k) ?_
        show own_Go _ _ _ _ T212 (mkF m 286 #[.val (.int p1), .val (.int p2), .val (.int p3), .val (.int p4), .val (.int p5), .val (.int p6), .val (.ref y128), .val (.ref y131), .val (.ref b132), .val (.ref b141), .val (.ref b154), .val (.ref b159), .val (.int (own_part p1)), .val (.int (own_part p2)), .val (.int (own_part p3)), .val (.ref b180), .val (.int row), .val (.int (1 : Int32)), .val (.ref b184), .val (.ref b141)] [(.ref y131)])
        refine own_go (fun _ k => XS.aload X212.here hx rfl (hb hby at_286) rfl rfl k) ?_
        show own_Go _ _ _ _ T212 (mkF m 288 #[.val (.int p1), .val (.int p2), .val (.int p3), .val (.int p4), .val (.int p5), .val (.int p6), .val (.ref y128), .val (.ref y131), .val (.ref b132), .val (.ref b141), .val (.ref b154), .val (.ref b159), .val (.int (own_part p1)), .val (.int (own_part p2)), .val (.int (own_part p3)), .val (.ref b180), .val (.int row), .val (.int (1 : Int32)), .val (.ref b184), .val (.ref b141)] [(.ref b141), (.ref y131)])
        refine own_go (fun _ k => XS.iconst X212.here hx rfl (hb hby at_288) k) ?_
        show own_Go _ _ _ _ T212 (mkF m 289 #[.val (.int p1), .val (.int p2), .val (.int p3), .val (.int p4), .val (.int p5), .val (.int p6), .val (.ref y128), .val (.ref y131), .val (.ref b132), .val (.ref b141), .val (.ref b154), .val (.ref b159), .val (.int (own_part p1)), .val (.int (own_part p2)), .val (.int (own_part p3)), .val (.ref b180), .val (.int row), .val (.int (1 : Int32)), .val (.ref b184), .val (.ref b141)] [(.int (0 : Int32)), (.ref b141), (.ref y131)])
        have f213 := (((((((((((((F153d.ext E154).keep K158 (ninS (Nat.ne_of_lt lt_b141_b154) nin0)).ext E159).keep K163 (ninS (Nat.ne_of_lt lt_b141_b159) nin0)).keep K167 (ninS (Nat.ne_of_lt lt_b141_b159) nin0)).keep K171 (ninS (Nat.ne_of_lt lt_b141_b159) (ninS (Nat.ne_of_lt lt_b141_t167) nin0))).keep K175 (ninS (Nat.ne_of_lt lt_b141_b159) (ninS (Nat.ne_of_lt lt_b141_t167) nin0))).ext E180).other W181 (Or.inl (Nat.ne_of_lt lt_b141_b180))).other W182 (Or.inl (Nat.ne_of_lt lt_b141_b180))).other W183 (Or.inl (Nat.ne_of_lt lt_b141_b180))).ext E184).keep K187 (ninS (Nat.ne_of_lt lt_b141_b184) nin0))
        have lt_t149_b159 : t149 < b159 := Nat.lt_trans o_b154 o_b159
        have lt_t149_t167 : t149 < t167 := Nat.lt_trans lt_t149_b159 o_t167
        have lt_t149_b180 : t149 < b180 := Nat.lt_trans lt_t149_t167 o_b180
        have lt_t149_b184 : t149 < b184 := Nat.lt_trans lt_t149_b180 o_b184
        have f214 := (((((((((((((V153x.ext E154).keep K158 (ninS (Nat.ne_of_lt o_b154) nin0)).ext E159).keep K163 (ninS (Nat.ne_of_lt lt_t149_b159) nin0)).keep K167 (ninS (Nat.ne_of_lt lt_t149_b159) nin0)).keep K171 (ninS (Nat.ne_of_lt lt_t149_b159) (ninS (Nat.ne_of_lt lt_t149_t167) nin0))).keep K175 (ninS (Nat.ne_of_lt lt_t149_b159) (ninS (Nat.ne_of_lt lt_t149_t167) nin0))).ext E180).other W181 (Nat.ne_of_lt lt_t149_b180)).other W182 (Nat.ne_of_lt lt_t149_b180)).other W183 (Nat.ne_of_lt lt_t149_b180)).ext E184).keep K187 (ninS (Nat.ne_of_lt lt_t149_b184) nin0))
        obtain ⟨v215, T215, h215, L215, X215, e215, hQ215, st215⟩ := own_callF X212 hx hZ hown (hw _ (List.mem_of_getElem? (i := 140) rfl)) (hw _ (List.mem_of_getElem? (i := 111) rfl)) (mvT hZ (hw _ (List.mem_of_getElem? (i := 112) rfl))) (hw _ (List.mem_of_getElem? (i := 113) rfl)) (hw _ (List.mem_of_getElem? (i := 114) rfl)) (hw _ (List.mem_of_getElem? (i := 115) rfl)) (hw _ (List.mem_of_getElem? (i := 116) rfl)) (hw _ (List.mem_of_getElem? (i := 57) rfl)) (hw _ (List.mem_of_getElem? (i := 28) rfl)) (hw _ (List.mem_of_getElem? (i := 117) rfl)) (by decide) e212 f208 (argsL := [(.int (0 : Int32))]) (rest := [(.ref y131)]) (rmGet l Z a0 hw [] b141 (0 : Int32) t149 k149 [(.ref y131), (.ref y128), .null, .null, .null, .null, .null, .null, .null, .null] y131 (2 : Int32) h187 n0 f209 f208 f211 (by decide) f213 f214 (by decide) (by decide) rfl) 1 (by decide) (by decide) (by decide) (by decide) (g := (mkF m 289 #[.val (.int p1), .val (.int p2), .val (.int p3), .val (.int p4), .val (.int p5), .val (.int p6), .val (.ref y128), .val (.ref y131), .val (.ref b132), .val (.ref b141), .val (.ref b154), .val (.ref b159), .val (.int (own_part p1)), .val (.int (own_part p2)), .val (.int (own_part p3)), .val (.ref b180), .val (.int row), .val (.int (1 : Int32)), .val (.ref b184), .val (.ref b141)] [(.int (0 : Int32)), (.ref b141), (.ref y131)])) rfl (by rw [hml]; rfl) (lenOf pd6 rfl) rfl (Nat.le_of_eq rfl) (hb hby at_289)
        obtain ⟨rfl, N215q, rfl⟩ := hQ215
        refine own_go (st215) ?_
        have N215 := Fr.app N212 N215q
        show own_Go _ _ _ _ T215 (mkF m 294 #[.val (.int p1), .val (.int p2), .val (.int p3), .val (.int p4), .val (.int p5), .val (.int p6), .val (.ref y128), .val (.ref y131), .val (.ref b132), .val (.ref b141), .val (.ref b154), .val (.ref b159), .val (.int (own_part p1)), .val (.int (own_part p2)), .val (.int (own_part p3)), .val (.ref b180), .val (.int row), .val (.int (1 : Int32)), .val (.ref b184), .val (.ref b141)] [(.ref y131), (.ref y131)])
        have f217 := (((((((((((((((f146.keep K149).keep K153).ext E154).keep K158).ext E159).keep K163).keep K167).keep K171).keep K175).ext E180).wr W181).wr W182).wr W183).ext E184).keep K187)
        obtain ⟨v216, T216, h216, L216, X216, e216, hQ216, st216⟩ := own_callV X215 hx hZ hown (hw _ (List.mem_of_getElem? (i := 141) rfl)) (hw _ (List.mem_of_getElem? (i := 142) rfl)) (hw _ (List.mem_of_getElem? (i := 144) rfl)) (notFace_of_selects (args := #[]) (mvT hZ (hw _ (List.mem_of_getElem? (i := 144) rfl)))) (hw _ (List.mem_of_getElem? (i := 143) rfl)) (hw _ (List.mem_of_getElem? (i := 2) rfl)) (hw _ (List.mem_of_getElem? (i := 145) rfl)) (by decide) e215 f217 (argsL := [(.ref y131)]) (rest := []) (rmEq l Z a0 hw [] y131 h187 n0 f209) 0 (by decide) (by decide) (by decide) (by decide) (g := (mkF m 294 #[.val (.int p1), .val (.int p2), .val (.int p3), .val (.int p4), .val (.int p5), .val (.int p6), .val (.ref y128), .val (.ref y131), .val (.ref b132), .val (.ref b141), .val (.ref b154), .val (.ref b159), .val (.int (own_part p1)), .val (.int (own_part p2)), .val (.int (own_part p3)), .val (.ref b180), .val (.int row), .val (.int (1 : Int32)), .val (.ref b184), .val (.ref b141)] [(.ref y131), (.ref y131)])) rfl (by rw [hml]; rfl) (lenOf pd11 rfl) rfl (Nat.le_of_eq rfl) (hb hby at_294)
        obtain ⟨rfl, N216q, rfl⟩ := hQ216
        refine own_go (st216) ?_
        have N216 := Fr.app N215 N216q
        show own_Go _ _ _ _ T216 (mkF m 297 #[.val (.int p1), .val (.int p2), .val (.int p3), .val (.int p4), .val (.int p5), .val (.int p6), .val (.ref y128), .val (.ref y131), .val (.ref b132), .val (.ref b141), .val (.ref b154), .val (.ref b159), .val (.int (own_part p1)), .val (.int (own_part p2)), .val (.int (own_part p3)), .val (.ref b180), .val (.int row), .val (.int (1 : Int32)), .val (.ref b184), .val (.ref b141)] [(.int (1 : Int32))])
        refine own_go (fun _ k => XS.ifNo X216.here hx rfl (hb hby at_297) rfl ((if0 _ _).trans (feq (by decide)).1) k) ?_
        show own_Go _ _ _ _ T216 (mkF m 300 #[.val (.int p1), .val (.int p2), .val (.int p3), .val (.int p4), .val (.int p5), .val (.int p6), .val (.ref y128), .val (.ref y131), .val (.ref b132), .val (.ref b141), .val (.ref b154), .val (.ref b159), .val (.int (own_part p1)), .val (.int (own_part p2)), .val (.int (own_part p3)), .val (.ref b180), .val (.int row), .val (.int (1 : Int32)), .val (.ref b184), .val (.ref b141)] [])
        refine own_go (fun _ k => XS.aload X216.here hx rfl (hb hby at_300) rfl rfl k) ?_
        show own_Go _ _ _ _ T216 (mkF m 302 #[.val (.int p1), .val (.int p2), .val (.int p3), .val (.int p4), .val (.int p5), .val (.int p6), .val (.ref y128), .val (.ref y131), .val (.ref b132), .val (.ref b141), .val (.ref b154), .val (.ref b159), .val (.int (own_part p1)), .val (.int (own_part p2)), .val (.int (own_part p3)), .val (.ref b180), .val (.int row), .val (.int (1 : Int32)), .val (.ref b184), .val (.ref b141)] [(.ref y128)])
        refine own_go (fun _ k => XS.aload X216.here hx rfl (hb hby at_302) rfl rfl k) ?_
        show own_Go _ _ _ _ T216 (mkF m 304 #[.val (.int p1), .val (.int p2), .val (.int p3), .val (.int p4), .val (.int p5), .val (.int p6), .val (.ref y128), .val (.ref y131), .val (.ref b132), .val (.ref b141), .val (.ref b154), .val (.ref b159), .val (.int (own_part p1)), .val (.int (own_part p2)), .val (.int (own_part p3)), .val (.ref b180), .val (.int row), .val (.int (1 : Int32)), .val (.ref b184), .val (.ref b141)] [(.ref b141), (.ref y128)])
        refine own_go (fun _ k => XS.iconst X216.here hx rfl (hb hby at_304) k) ?_
        show own_Go _ _ _ _ T216 (mkF m 305 #[.val (.int p1), .val (.int p2), .val (.int p3), .val (.int p4), .val (.int p5), .val (.int p6), .val (.ref y128), .val (.ref y131), .val (.ref b132), .val (.ref b141), .val (.ref b154), .val (.ref b159), .val (.int (own_part p1)), .val (.int (own_part p2)), .val (.int (own_part p3)), .val (.ref b180), .val (.int row), .val (.int (1 : Int32)), .val (.ref b184), .val (.ref b141)] [(.int (1 : Int32)), (.ref b141), (.ref y128)])
        obtain ⟨v218, T218, h218, L218, X218, e218, hQ218, st218⟩ := own_callF X216 hx hZ hown (hw _ (List.mem_of_getElem? (i := 140) rfl)) (hw _ (List.mem_of_getElem? (i := 111) rfl)) (mvT hZ (hw _ (List.mem_of_getElem? (i := 112) rfl))) (hw _ (List.mem_of_getElem? (i := 113) rfl)) (hw _ (List.mem_of_getElem? (i := 114) rfl)) (hw _ (List.mem_of_getElem? (i := 115) rfl)) (hw _ (List.mem_of_getElem? (i := 116) rfl)) (hw _ (List.mem_of_getElem? (i := 57) rfl)) (hw _ (List.mem_of_getElem? (i := 28) rfl)) (hw _ (List.mem_of_getElem? (i := 117) rfl)) (by decide) e216 f208 (argsL := [(.int (1 : Int32))]) (rest := [(.ref y128)]) (rmGet l Z a0 hw [] b141 (1 : Int32) t149 k149 [(.ref y131), (.ref y128), .null, .null, .null, .null, .null, .null, .null, .null] y128 (2 : Int32) h187 n0 f209 f208 f211 (by decide) f213 f214 (by decide) (by decide) rfl) 1 (by decide) (by decide) (by decide) (by decide) (g := (mkF m 305 #[.val (.int p1), .val (.int p2), .val (.int p3), .val (.int p4), .val (.int p5), .val (.int p6), .val (.ref y128), .val (.ref y131), .val (.ref b132), .val (.ref b141), .val (.ref b154), .val (.ref b159), .val (.int (own_part p1)), .val (.int (own_part p2)), .val (.int (own_part p3)), .val (.ref b180), .val (.int row), .val (.int (1 : Int32)), .val (.ref b184), .val (.ref b141)] [(.int (1 : Int32)), (.ref b141), (.ref y128)])) rfl (by rw [hml]; rfl) (lenOf pd6 rfl) rfl (Nat.le_of_eq rfl) (hb hby at_305)
        obtain ⟨rfl, N218q, rfl⟩ := hQ218
        refine own_go (st218) ?_
        have N218 := Fr.app N216 N218q
        show own_Go _ _ _ _ T218 (mkF m 310 #[.val (.int p1), .val (.int p2), .val (.int p3), .val (.int p4), .val (.int p5), .val (.int p6), .val (.ref y128), .val (.ref y131), .val (.ref b132), .val (.ref b141), .val (.ref b154), .val (.ref b159), .val (.int (own_part p1)), .val (.int (own_part p2)), .val (.int (own_part p3)), .val (.ref b180), .val (.int row), .val (.int (1 : Int32)), .val (.ref b184), .val (.ref b141)] [(.ref y128), (.ref y128)])
        have f220 := ((((((((((((((f150.keep K153).ext E154).keep K158).ext E159).keep K163).keep K167).keep K171).keep K175).ext E180).wr W181).wr W182).wr W183).ext E184).keep K187)
        obtain ⟨v219, T219, h219, L219, X219, e219, hQ219, st219⟩ := own_callV X218 hx hZ hown (hw _ (List.mem_of_getElem? (i := 141) rfl)) (hw _ (List.mem_of_getElem? (i := 142) rfl)) (hw _ (List.mem_of_getElem? (i := 144) rfl)) (notFace_of_selects (args := #[]) (mvT hZ (hw _ (List.mem_of_getElem? (i := 144) rfl)))) (hw _ (List.mem_of_getElem? (i := 143) rfl)) (hw _ (List.mem_of_getElem? (i := 2) rfl)) (hw _ (List.mem_of_getElem? (i := 145) rfl)) (by decide) e218 f220 (argsL := [(.ref y128)]) (rest := []) (rmEq l Z a0 hw [] y128 h187 n0 f209) 0 (by decide) (by decide) (by decide) (by decide) (g := (mkF m 310 #[.val (.int p1), .val (.int p2), .val (.int p3), .val (.int p4), .val (.int p5), .val (.int p6), .val (.ref y128), .val (.ref y131), .val (.ref b132), .val (.ref b141), .val (.ref b154), .val (.ref b159), .val (.int (own_part p1)), .val (.int (own_part p2)), .val (.int (own_part p3)), .val (.ref b180), .val (.int row), .val (.int (1 : Int32)), .val (.ref b184), .val (.ref b141)] [(.ref y128), (.ref y128)])) rfl (by rw [hml]; rfl) (lenOf pd11 rfl) rfl (Nat.le_of_eq rfl) (hb hby at_310)
        obtain ⟨rfl, N219q, rfl⟩ := hQ219
        refine own_go (st219) ?_
        have N219 := Fr.app N218 N219q
        show own_Go _ _ _ _ T219 (mkF m 313 #[.val (.int p1), .val (.int p2), .val (.int p3), .val (.int p4), .val (.int p5), .val (.int p6), .val (.ref y128), .val (.ref y131), .val (.ref b132), .val (.ref b141), .val (.ref b154), .val (.ref b159), .val (.int (own_part p1)), .val (.int (own_part p2)), .val (.int (own_part p3)), .val (.ref b180), .val (.int row), .val (.int (1 : Int32)), .val (.ref b184), .val (.ref b141)] [(.int (1 : Int32))])
        refine own_go (fun _ k => XS.ifNo X219.here hx rfl (hb hby at_313) rfl ((if0 _ _).trans (feq (by decide)).1) k) ?_
        show own_Go _ _ _ _ T219 (mkF m 316 #[.val (.int p1), .val (.int p2), .val (.int p3), .val (.int p4), .val (.int p5), .val (.int p6), .val (.ref y128), .val (.ref y131), .val (.ref b132), .val (.ref b141), .val (.ref b154), .val (.ref b159), .val (.int (own_part p1)), .val (.int (own_part p2)), .val (.int (own_part p3)), .val (.ref b180), .val (.int row), .val (.int (1 : Int32)), .val (.ref b184), .val (.ref b141)] [])
        refine own_go (fun _ k => XS.iconst X219.here hx rfl (hb hby at_316) k) ?_
        show own_Go _ _ _ _ T219 (mkF m 317 #[.val (.int p1), .val (.int p2), .val (.int p3), .val (.int p4), .val (.int p5), .val (.int p6), .val (.ref y128), .val (.ref y131), .val (.ref b132), .val (.ref b141), .val (.ref b154), .val (.ref b159), .val (.int (own_part p1)), .val (.int (own_part p2)), .val (.int (own_part p3)), .val (.ref b180), .val (.int row), .val (.int (1 : Int32)), .val (.ref b184), .val (.ref b141)] [(.int (1 : Int32))])
        refine own_go (fun _ k => XS.goto X219.here hx rfl (pc0 := 317) (pc' := 321) rfl (hb hby at_317) (by decide) (by decide) k) ?_
        show own_Go _ _ _ _ T219 (mkF m 321 #[.val (.int p1), .val (.int p2), .val (.int p3), .val (.int p4), .val (.int p5), .val (.int p6), .val (.ref y128), .val (.ref y131), .val (.ref b132), .val (.ref b141), .val (.ref b154), .val (.ref b159), .val (.int (own_part p1)), .val (.int (own_part p2)), .val (.int (own_part p3)), .val (.ref b180), .val (.int row), .val (.int (1 : Int32)), .val (.ref b184), .val (.ref b141)] [(.int (1 : Int32))])
        exact own_retN X219 hx hret (by simp) hlk (hb hby at_321) (by decide) (by decide) (by first | exact ⟨rfl, N219⟩ | (rw [e219]; exact ⟨rfl, N219⟩))
      · skip
        show own_Go _ _ _ _ T187 (mkF m 217 #[.val (.int p1), .val (.int p2), .val (.int p3), .val (.int p4), .val (.int p5), .val (.int p6), .val (.ref y128), .val (.ref y131), .val (.ref b132), .val (.ref b141), .val (.ref b154), .val (.ref b159), .val (.int (own_part p1)), .val (.int (own_part p2)), .val (.int (own_part p3)), .val (.ref b180), .val (.int row), .val (.int (2 : Int32)), .val (.ref b184), .unset] [(.int row), (.ref b184)])
        have f221 := ((V183.ext E184).keep K187 (ninS (Nat.ne_of_lt o_b184) nin0))
        have f222 := ((((((E175x.ext E180).wr W181).wr W182).wr W183).ext E184).keep K187)
        have lt_b159_b180 : b159 < b180 := Nat.lt_trans o_t167 o_b180
        have lt_b159_b184 : b159 < b184 := Nat.lt_trans lt_b159_b180 o_b184
        have f223 := ((((((F175s.ext E180).other W181 (Or.inl (Nat.ne_of_lt lt_b159_b180))).other W182 (Or.inl (Nat.ne_of_lt lt_b159_b180))).other W183 (Or.inl (Nat.ne_of_lt lt_b159_b180))).ext E184).keep K187 (ninS (Nat.ne_of_lt lt_b159_b184) nin0))
        have f224 := ((((((F175d.ext E180).other W181 (Or.inl (Nat.ne_of_lt lt_b159_b180))).other W182 (Or.inl (Nat.ne_of_lt lt_b159_b180))).other W183 (Or.inl (Nat.ne_of_lt lt_b159_b180))).ext E184).keep K187 (ninS (Nat.ne_of_lt lt_b159_b184) nin0))
        have lt_t167_b184 : t167 < b184 := Nat.lt_trans o_b180 o_b184
        have f225 := ((((((V175x.ext E180).other W181 (Nat.ne_of_lt o_b180)).other W182 (Nat.ne_of_lt o_b180)).other W183 (Nat.ne_of_lt o_b180)).ext E184).keep K187 (ninS (Nat.ne_of_lt lt_t167_b184) nin0))
        have f226 := (((((((f172.keep K175).ext E180).wr W181).wr W182).wr W183).ext E184).keep K187)
        have f227 := (Nat.le_trans f186 K187.1)
        obtain ⟨v228, T228, h228, L228, X228, e228, hQ228, st228⟩ := own_callV X187 hx hZ hown (hw _ (List.mem_of_getElem? (i := 105) rfl)) (hw _ (List.mem_of_getElem? (i := 106) rfl)) (hw _ (List.mem_of_getElem? (i := 108) rfl)) (notFace_of_selects (args := #[]) (mvT hZ (hw _ (List.mem_of_getElem? (i := 108) rfl)))) (hw _ (List.mem_of_getElem? (i := 107) rfl)) (hw _ (List.mem_of_getElem? (i := 94) rfl)) (hw _ (List.mem_of_getElem? (i := 109) rfl)) (by decide) e187 E187x (argsL := [(.int row)]) (rest := []) (rmLab l Z a0 hw [] b184 row b180 b159 t167 b154 k180 k167 [(.int (own_part p1)), (.int (own_part p2)), (.int (own_part p3))] [(.ref b132), (.ref b141), (.ref b154), .null, .null, .null, .null, .null, .null, .null] (2 : Int32) (3 : Int32) h187 n0 f227 F187p F187l f221 hrw hz f222 f223 f224 f225 (by decide) (by decide) (by decide) rfl f226) 0 (by decide) (by decide) (by decide) (by decide) (g := (mkF m 217 #[.val (.int p1), .val (.int p2), .val (.int p3), .val (.int p4), .val (.int p5), .val (.int p6), .val (.ref y128), .val (.ref y131), .val (.ref b132), .val (.ref b141), .val (.ref b154), .val (.ref b159), .val (.int (own_part p1)), .val (.int (own_part p2)), .val (.int (own_part p3)), .val (.ref b180), .val (.int row), .val (.int (2 : Int32)), .val (.ref b184), .unset] [(.int row), (.ref b184)])) rfl (by rw [hml]; rfl) (lenOf pd14 rfl) rfl (Nat.le_of_eq rfl) (hb hby at_217)
        obtain ⟨rfl, N228q, rfl⟩ := hQ228
        refine own_go (st228) ?_
        have N228 := Fr.app N187 N228q
        show own_Go _ _ _ _ T228 (mkF m 220 #[.val (.int p1), .val (.int p2), .val (.int p3), .val (.int p4), .val (.int p5), .val (.int p6), .val (.ref y128), .val (.ref y131), .val (.ref b132), .val (.ref b141), .val (.ref b154), .val (.ref b159), .val (.int (own_part p1)), .val (.int (own_part p2)), .val (.int (own_part p3)), .val (.ref b180), .val (.int row), .val (.int (2 : Int32)), .val (.ref b184), .unset] [(.ref b154)])
        refine own_go (fun _ k => XS.astore X228.here hx rfl (hb hby at_220) rfl rfl (l' := #[.val (.int p1), .val (.int p2), .val (.int p3), .val (.int p4), .val (.int p5), .val (.int p6), .val (.ref y128), .val (.ref y131), .val (.ref b132), .val (.ref b141), .val (.ref b154), .val (.ref b159), .val (.int (own_part p1)), .val (.int (own_part p2)), .val (.int (own_part p3)), .val (.ref b180), .val (.int row), .val (.int (2 : Int32)), .val (.ref b184), .val (.ref b154)]) rfl k) ?_
        show own_Go _ _ _ _ T228 (mkF m 222 #[.val (.int p1), .val (.int p2), .val (.int p3), .val (.int p4), .val (.int p5), .val (.int p6), .val (.ref y128), .val (.ref y131), .val (.ref b132), .val (.ref b141), .val (.ref b154), .val (.ref b159), .val (.int (own_part p1)), .val (.int (own_part p2)), .val (.int (own_part p3)), .val (.ref b180), .val (.int row), .val (.int (2 : Int32)), .val (.ref b184), .val (.ref b154)] [])
        refine own_go (fun _ k => XS.aload X228.here hx rfl (hb hby at_222) rfl rfl k) ?_
        show own_Go _ _ _ _ T228 (mkF m 224 #[.val (.int p1), .val (.int p2), .val (.int p3), .val (.int p4), .val (.int p5), .val (.int p6), .val (.ref y128), .val (.ref y131), .val (.ref b132), .val (.ref b141), .val (.ref b154), .val (.ref b159), .val (.int (own_part p1)), .val (.int (own_part p2)), .val (.int (own_part p3)), .val (.ref b180), .val (.int row), .val (.int (2 : Int32)), .val (.ref b184), .val (.ref b154)] [(.ref b154)])
        refine own_go (fun _ k => XS.ifnonnullYes X228.here hx rfl (pc0 := 224) (pc' := 229) rfl (hb hby at_224) rfl (by decide) (by decide) k) ?_
        show own_Go _ _ _ _ T228 (mkF m 229 #[.val (.int p1), .val (.int p2), .val (.int p3), .val (.int p4), .val (.int p5), .val (.int p6), .val (.ref y128), .val (.ref y131), .val (.ref b132), .val (.ref b141), .val (.ref b154), .val (.ref b159), .val (.int (own_part p1)), .val (.int (own_part p2)), .val (.int (own_part p3)), .val (.ref b180), .val (.int row), .val (.int (2 : Int32)), .val (.ref b184), .val (.ref b154)] [])
        refine own_go (fun _ k => XS.iload X228.here hx rfl (hb hby at_229) rfl k) ?_
        show own_Go _ _ _ _ T228 (mkF m 231 #[.val (.int p1), .val (.int p2), .val (.int p3), .val (.int p4), .val (.int p5), .val (.int p6), .val (.ref y128), .val (.ref y131), .val (.ref b132), .val (.ref b141), .val (.ref b154), .val (.ref b159), .val (.int (own_part p1)), .val (.int (own_part p2)), .val (.int (own_part p3)), .val (.ref b180), .val (.int row), .val (.int (2 : Int32)), .val (.ref b184), .val (.ref b154)] [(.int (2 : Int32))])
        refine own_go (fun _ k => XS.ifYes X228.here hx rfl (pc0 := 231) (pc' := 267) rfl (hb hby at_231) rfl ((if0 _ _).trans (feq (by decide)).2) (by decide) (by decide) k) ?_
        show own_Go _ _ _ _ T228 (mkF m 267 #[.val (.int p1), .val (.int p2), .val (.int p3), .val (.int p4), .val (.int p5), .val (.int p6), .val (.ref y128), .val (.ref y131), .val (.ref b132), .val (.ref b141), .val (.ref b154), .val (.ref b159), .val (.int (own_part p1)), .val (.int (own_part p2)), .val (.int (own_part p3)), .val (.ref b180), .val (.int row), .val (.int (2 : Int32)), .val (.ref b184), .val (.ref b154)] [])
        refine own_go (fun _ k => XS.iload X228.here hx rfl (hb hby at_267) rfl k) ?_
        show own_Go _ _ _ _ T228 (mkF m 269 #[.val (.int p1), .val (.int p2), .val (.int p3), .val (.int p4), .val (.int p5), .val (.int p6), .val (.ref y128), .val (.ref y131), .val (.ref b132), .val (.ref b141), .val (.ref b154), .val (.ref b159), .val (.int (own_part p1)), .val (.int (own_part p2)), .val (.int (own_part p3)), .val (.ref b180), .val (.int row), .val (.int (2 : Int32)), .val (.ref b184), .val (.ref b154)] [(.int (2 : Int32))])
        refine own_go (fun _ k => XS.iconst X228.here hx rfl (hb hby at_269) k) ?_
        show own_Go _ _ _ _ T228 (mkF m 270 #[.val (.int p1), .val (.int p2), .val (.int p3), .val (.int p4), .val (.int p5), .val (.int p6), .val (.ref y128), .val (.ref y131), .val (.ref b132), .val (.ref b141), .val (.ref b154), .val (.ref b159), .val (.int (own_part p1)), .val (.int (own_part p2)), .val (.int (own_part p3)), .val (.ref b180), .val (.int row), .val (.int (2 : Int32)), .val (.ref b184), .val (.ref b154)] [(.int (1 : Int32)), (.int (2 : Int32))])
        refine own_go (fun _ k => XS.icmpYes X228.here hx rfl (pc0 := 270) (pc' := 322) rfl (hb hby at_270) rfl (feq (by decide)).2 (by decide) (by decide) k) ?_
        show own_Go _ _ _ _ T228 (mkF m 322 #[.val (.int p1), .val (.int p2), .val (.int p3), .val (.int p4), .val (.int p5), .val (.int p6), .val (.ref y128), .val (.ref y131), .val (.ref b132), .val (.ref b141), .val (.ref b154), .val (.ref b159), .val (.int (own_part p1)), .val (.int (own_part p2)), .val (.int (own_part p3)), .val (.ref b180), .val (.int row), .val (.int (2 : Int32)), .val (.ref b184), .val (.ref b154)] [])
        refine own_go (fun _ k => XS.aload X228.here hx rfl (hb hby at_322) rfl rfl k) ?_
        show own_Go _ _ _ _ T228 (mkF m 324 #[.val (.int p1), .val (.int p2), .val (.int p3), .val (.int p4), .val (.int p5), .val (.int p6), .val (.ref y128), .val (.ref y131), .val (.ref b132), .val (.ref b141), .val (.ref b154), .val (.ref b159), .val (.int (own_part p1)), .val (.int (own_part p2)), .val (.int (own_part p3)), .val (.ref b180), .val (.int row), .val (.int (2 : Int32)), .val (.ref b184), .val (.ref b154)] [(.ref b154)])
        have lt_b154_t167 : b154 < t167 := Nat.lt_trans o_b159 o_t167
        have lt_b154_b180 : b154 < b180 := Nat.lt_trans lt_b154_t167 o_b180
        have lt_b154_b184 : b154 < b184 := Nat.lt_trans lt_b154_b180 o_b184
        have f229 := (((((((((((F158s.ext E159).keep K163 (ninS (Nat.ne_of_lt o_b159) nin0)).keep K167 (ninS (Nat.ne_of_lt o_b159) nin0)).keep K171 (ninS (Nat.ne_of_lt o_b159) (ninS (Nat.ne_of_lt lt_b154_t167) nin0))).keep K175 (ninS (Nat.ne_of_lt o_b159) (ninS (Nat.ne_of_lt lt_b154_t167) nin0))).ext E180).other W181 (Or.inl (Nat.ne_of_lt lt_b154_b180))).other W182 (Or.inl (Nat.ne_of_lt lt_b154_b180))).other W183 (Or.inl (Nat.ne_of_lt lt_b154_b180))).ext E184).keep K187 (ninS (Nat.ne_of_lt lt_b154_b184) nin0))
        obtain ⟨v230, T230, h230, L230, X230, e230, hQ230, st230⟩ := own_callF X228 hx hZ hown (hw _ (List.mem_of_getElem? (i := 132) rfl)) (hw _ (List.mem_of_getElem? (i := 133) rfl)) (mvT hZ (hw _ (List.mem_of_getElem? (i := 134) rfl))) (hw _ (List.mem_of_getElem? (i := 135) rfl)) (hw _ (List.mem_of_getElem? (i := 136) rfl)) (hw _ (List.mem_of_getElem? (i := 137) rfl)) (hw _ (List.mem_of_getElem? (i := 138) rfl)) (hw _ (List.mem_of_getElem? (i := 57) rfl)) (hw _ (List.mem_of_getElem? (i := 28) rfl)) (hw _ (List.mem_of_getElem? (i := 139) rfl)) (by decide) e228 f226 (argsL := []) (rest := []) (rmSz l Z a0 hw [] b154 (0 : Int32) h187 n0 f227 f229) 0 (by decide) (by decide) (by decide) (by decide) (g := (mkF m 324 #[.val (.int p1), .val (.int p2), .val (.int p3), .val (.int p4), .val (.int p5), .val (.int p6), .val (.ref y128), .val (.ref y131), .val (.ref b132), .val (.ref b141), .val (.ref b154), .val (.ref b159), .val (.int (own_part p1)), .val (.int (own_part p2)), .val (.int (own_part p3)), .val (.ref b180), .val (.int row), .val (.int (2 : Int32)), .val (.ref b184), .val (.ref b154)] [(.ref b154)])) rfl (by rw [hml]; rfl) (lenOf pd15 rfl) rfl (Nat.le_of_eq rfl) (hb hby at_324)
        obtain ⟨rfl, N230q, rfl⟩ := hQ230
        refine own_go (st230) ?_
        have N230 := Fr.app N228 N230q
        show own_Go _ _ _ _ T230 (mkF m 329 #[.val (.int p1), .val (.int p2), .val (.int p3), .val (.int p4), .val (.int p5), .val (.int p6), .val (.ref y128), .val (.ref y131), .val (.ref b132), .val (.ref b141), .val (.ref b154), .val (.ref b159), .val (.int (own_part p1)), .val (.int (own_part p2)), .val (.int (own_part p3)), .val (.ref b180), .val (.int row), .val (.int (2 : Int32)), .val (.ref b184), .val (.ref b154)] [(.int (0 : Int32))])
        refine own_go (fun _ k => XS.ifNo X230.here hx rfl (hb hby at_329) rfl ((if0 _ _).trans (teq rfl).2) k) ?_
        show own_Go _ _ _ _ T230 (mkF m 332 #[.val (.int p1), .val (.int p2), .val (.int p3), .val (.int p4), .val (.int p5), .val (.int p6), .val (.ref y128), .val (.ref y131), .val (.ref b132), .val (.ref b141), .val (.ref b154), .val (.ref b159), .val (.int (own_part p1)), .val (.int (own_part p2)), .val (.int (own_part p3)), .val (.ref b180), .val (.int row), .val (.int (2 : Int32)), .val (.ref b184), .val (.ref b154)] [])
        refine own_go (fun _ k => XS.iconst X230.here hx rfl (hb hby at_332) k) ?_
        show own_Go _ _ _ _ T230 (mkF m 333 #[.val (.int p1), .val (.int p2), .val (.int p3), .val (.int p4), .val (.int p5), .val (.int p6), .val (.ref y128), .val (.ref y131), .val (.ref b132), .val (.ref b141), .val (.ref b154), .val (.ref b159), .val (.int (own_part p1)), .val (.int (own_part p2)), .val (.int (own_part p3)), .val (.ref b180), .val (.int row), .val (.int (2 : Int32)), .val (.ref b184), .val (.ref b154)] [(.int (1 : Int32))])
        refine own_go (fun _ k => XS.goto X230.here hx rfl (pc0 := 333) (pc' := 337) rfl (hb hby at_333) (by decide) (by decide) k) ?_
        show own_Go _ _ _ _ T230 (mkF m 337 #[.val (.int p1), .val (.int p2), .val (.int p3), .val (.int p4), .val (.int p5), .val (.int p6), .val (.ref y128), .val (.ref y131), .val (.ref b132), .val (.ref b141), .val (.ref b154), .val (.ref b159), .val (.int (own_part p1)), .val (.int (own_part p2)), .val (.int (own_part p3)), .val (.ref b180), .val (.int row), .val (.int (2 : Int32)), .val (.ref b184), .val (.ref b154)] [(.int (1 : Int32))])
        exact own_retN X230 hx hret (by simp) hlk (hb hby at_337) (by decide) (by decide) (by first | exact ⟨rfl, N230⟩ | (rw [e230]; exact ⟨rfl, N230⟩))
  show own_Go _ _ _ _ T183 (mkF m 166 #[.val (.int p1), .val (.int p2), .val (.int p3), .val (.int p4), .val (.int p5), .val (.int p6), .val (.ref y128), .val (.ref y131), .val (.ref b132), .val (.ref b141), .val (.ref b154), .val (.ref b159), .val (.int (own_part p1)), .val (.int (own_part p2)), .val (.int (own_part p3)), .val (.ref b180), .val (.int row), .unset, .unset, .unset] [])
  refine own_go (fun _ k => XS.iload X183.here hx rfl (hb hby at_166) rfl k) ?_
  show own_Go _ _ _ _ T183 (mkF m 168 #[.val (.int p1), .val (.int p2), .val (.int p3), .val (.int p4), .val (.int p5), .val (.int p6), .val (.ref y128), .val (.ref y131), .val (.ref b132), .val (.ref b141), .val (.ref b154), .val (.ref b159), .val (.int (own_part p1)), .val (.int (own_part p2)), .val (.int (own_part p3)), .val (.ref b180), .val (.int row), .unset, .unset, .unset] [(.int row)])
  by_cases h0r : row = (0 : Int32)
  · skip
    refine own_go (fun _ k => XS.ifNo X183.here hx rfl (hb hby at_168) rfl ((if0 _ _).trans (teq h0r).2) k) ?_
    show own_Go _ _ _ _ T183 (mkF m 171 #[.val (.int p1), .val (.int p2), .val (.int p3), .val (.int p4), .val (.int p5), .val (.int p6), .val (.ref y128), .val (.ref y131), .val (.ref b132), .val (.ref b141), .val (.ref b154), .val (.ref b159), .val (.int (own_part p1)), .val (.int (own_part p2)), .val (.int (own_part p3)), .val (.ref b180), .val (.int row), .unset, .unset, .unset] [])
    refine own_go (fun _ k => XS.iload X183.here hx rfl (hb hby at_171) rfl k) ?_
    show own_Go _ _ _ _ T183 (mkF m 173 #[.val (.int p1), .val (.int p2), .val (.int p3), .val (.int p4), .val (.int p5), .val (.int p6), .val (.ref y128), .val (.ref y131), .val (.ref b132), .val (.ref b141), .val (.ref b154), .val (.ref b159), .val (.int (own_part p1)), .val (.int (own_part p2)), .val (.int (own_part p3)), .val (.ref b180), .val (.int row), .unset, .unset, .unset] [(.int (own_part p1))])
    refine own_go (fun _ k => XS.goto X183.here hx rfl (pc0 := 173) (pc' := 189) rfl (hb hby at_173) (by decide) (by decide) k) ?_
    exact tail _ (by rw [h0r]; rfl)
  · skip
    refine own_go (fun _ k => XS.ifYes X183.here hx rfl (pc0 := 168) (pc' := 176) rfl (hb hby at_168) rfl ((if0 _ _).trans (feq h0r).2) (by decide) (by decide) k) ?_
    show own_Go _ _ _ _ T183 (mkF m 176 #[.val (.int p1), .val (.int p2), .val (.int p3), .val (.int p4), .val (.int p5), .val (.int p6), .val (.ref y128), .val (.ref y131), .val (.ref b132), .val (.ref b141), .val (.ref b154), .val (.ref b159), .val (.int (own_part p1)), .val (.int (own_part p2)), .val (.int (own_part p3)), .val (.ref b180), .val (.int row), .unset, .unset, .unset] [])
    refine own_go (fun _ k => XS.iload X183.here hx rfl (hb hby at_176) rfl k) ?_
    show own_Go _ _ _ _ T183 (mkF m 178 #[.val (.int p1), .val (.int p2), .val (.int p3), .val (.int p4), .val (.int p5), .val (.int p6), .val (.ref y128), .val (.ref y131), .val (.ref b132), .val (.ref b141), .val (.ref b154), .val (.ref b159), .val (.int (own_part p1)), .val (.int (own_part p2)), .val (.int (own_part p3)), .val (.ref b180), .val (.int row), .unset, .unset, .unset] [(.int row)])
    refine own_go (fun _ k => XS.iconst X183.here hx rfl (hb hby at_178) k) ?_
    show own_Go _ _ _ _ T183 (mkF m 179 #[.val (.int p1), .val (.int p2), .val (.int p3), .val (.int p4), .val (.int p5), .val (.int p6), .val (.ref y128), .val (.ref y131), .val (.ref b132), .val (.ref b141), .val (.ref b154), .val (.ref b159), .val (.int (own_part p1)), .val (.int (own_part p2)), .val (.int (own_part p3)), .val (.ref b180), .val (.int row), .unset, .unset, .unset] [(.int (1 : Int32)), (.int row)])
    by_cases h1r : row = (1 : Int32)
    · skip
      refine own_go (fun _ k => XS.icmpNo X183.here hx rfl (hb hby at_179) rfl (teq h1r).2 k) ?_
      show own_Go _ _ _ _ T183 (mkF m 182 #[.val (.int p1), .val (.int p2), .val (.int p3), .val (.int p4), .val (.int p5), .val (.int p6), .val (.ref y128), .val (.ref y131), .val (.ref b132), .val (.ref b141), .val (.ref b154), .val (.ref b159), .val (.int (own_part p1)), .val (.int (own_part p2)), .val (.int (own_part p3)), .val (.ref b180), .val (.int row), .unset, .unset, .unset] [])
      refine own_go (fun _ k => XS.iload X183.here hx rfl (hb hby at_182) rfl k) ?_
      show own_Go _ _ _ _ T183 (mkF m 184 #[.val (.int p1), .val (.int p2), .val (.int p3), .val (.int p4), .val (.int p5), .val (.int p6), .val (.ref y128), .val (.ref y131), .val (.ref b132), .val (.ref b141), .val (.ref b154), .val (.ref b159), .val (.int (own_part p1)), .val (.int (own_part p2)), .val (.int (own_part p3)), .val (.ref b180), .val (.int row), .unset, .unset, .unset] [(.int (own_part p2))])
      refine own_go (fun _ k => XS.goto X183.here hx rfl (pc0 := 184) (pc' := 189) rfl (hb hby at_184) (by decide) (by decide) k) ?_
      exact tail _ (by rw [h1r]; rfl)
    · skip
      refine own_go (fun _ k => XS.icmpYes X183.here hx rfl (pc0 := 179) (pc' := 187) rfl (hb hby at_179) rfl (feq h1r).2 (by decide) (by decide) k) ?_
      show own_Go _ _ _ _ T183 (mkF m 187 #[.val (.int p1), .val (.int p2), .val (.int p3), .val (.int p4), .val (.int p5), .val (.int p6), .val (.ref y128), .val (.ref y131), .val (.ref b132), .val (.ref b141), .val (.ref b154), .val (.ref b159), .val (.int (own_part p1)), .val (.int (own_part p2)), .val (.int (own_part p3)), .val (.ref b180), .val (.int row), .unset, .unset, .unset] [])
      refine own_go (fun _ k => XS.iload X183.here hx rfl (hb hby at_187) rfl k) ?_
      exact tail _ (by rw [own_two hrw h0r h1r]; rfl)
set_option maxRecDepth 65536 in
set_option maxHeartbeats 40000000 in
theorem comes_1 {Post : Tables → Env → Array Value → State → Outcome → State → Prop} (hpost : ∀ tb e args s v u, (limb_1_1.after args s (.returned v) u = true ∧ limb_1_2.after args s (.returned v) u = true ∧ True) → FrameEnd s (.returned v) u (Jvm.fieldLocs frame_1_writes args s ++ Jvm.arrayLocs frame_1_arrays args s ++ Jvm.staticLocs frame_1_statics s) 40 192 → Post tb e args s (.returned v) u) :
    ArmFor flags0 classFile x code maxLocals ret World_1 tables_1 room_1 Calls_1 rest_1 Pre_1 Post := by
  intro l hfl _ _ p e ha hc hk s m args below hf hA hF happ hP
  obtain ⟨hcalls, hrest, hpre⟩ := hP
  obtain ⟨-, -, -, hnamed, -, -, -, hat⟩ := (Spec.applies_iff hf).mp happ
  obtain ⟨hg, hn⟩ := and_e (Cond.before_iff.mp (show (Jvm.Cond.and given_1 narrow_1).before args s = true from hpre))
  obtain ⟨gc, hg⟩ := and_e hg
  obtain ⟨gv0, hg⟩ := and_e hg
  obtain ⟨gv1, hg⟩ := and_e hg
  obtain ⟨gv2, hg⟩ := and_e hg
  obtain ⟨gv3, hg⟩ := and_e hg
  obtain ⟨gv4, hg⟩ := and_e hg
  have gv5 := hg
  obtain ⟨w0, w1, w2, w3, w4, w5, rfl⟩ : ∃ w0 w1 w2 w3 w4 w5 : Value, args = #[w0, w1, w2, w3, w4, w5] := by
    have hs : args.size = 6 := by simpa [Cond.value, given_1] using gc
    obtain ⟨L⟩ := args
    match L, hs with
    | [w0, w1, w2, w3, w4, w5], _ => exact ⟨w0, w1, w2, w3, w4, w5, rfl⟩
  have hw := fun d (hd : d ∈ tables_1) => atoms_spec (ws := Jvm.Cond.code x code maxLocals ret :: tables_1) hat d (List.mem_cons_of_mem _ hd)
  obtain ⟨i0, ei0⟩ := is_v gv0
  obtain rfl : w0 = (.int i0) := Option.some.inj ei0
  obtain ⟨i1, ei1⟩ := is_v gv1
  obtain rfl : w1 = (.int i1) := Option.some.inj ei1
  obtain ⟨i2, ei2⟩ := is_v gv2
  obtain rfl : w2 = (.int i2) := Option.some.inj ei2
  obtain ⟨i3, ei3⟩ := is_v gv3
  obtain rfl : w3 = (.int i3) := Option.some.inj ei3
  obtain ⟨i4, ei4⟩ := is_v gv4
  obtain rfl : w4 = (.int i4) := Option.some.inj ei4
  obtain ⟨i5, ei5⟩ := is_v gv5
  obtain rfl : w5 = (.int i5) := Option.some.inj ei5
  obtain ⟨hsets, hown0⟩ := atoms_of _ (rest_1_c_eq ▸ (show rest_1_c.before _ s = true from hrest))
  obtain ⟨dd, edd⟩ := arr_v (Cond.before_iff.mp (hsets _ (List.mem_of_getElem? (i := 15) rfl)))
  have S_d : Sta s s.heap "java/util/ArrayList" "DEFAULTCAPACITY_EMPTY_ELEMENTDATA" "[Ljava/lang/Object;" (.ref dd) := Sta.start edd (Or.inr ⟨hw _ (List.mem_of_getElem? (i := 28) rfl), hsets _ (List.mem_of_getElem? (i := 11) rfl)⟩)
  obtain ⟨cd, A_d⟩ := Arr.start edd (Cond.before_iff.mp (hsets _ (List.mem_of_getElem? (i := 15) rfl)))
  obtain ⟨xx, exx⟩ := is_v (Cond.before_iff.mp (hsets _ (List.mem_of_getElem? (i := 1) rfl)))
  have S_c : Sta s s.heap "java/lang/String" "COMPACT_STRINGS" "Z" (.int xx) := Sta.start exx (Or.inl (hsets _ (List.mem_of_getElem? (i := 0) rfl)))
  have hxx : ¬ xx = (0 : Int32) := gotF (Cond.eq_ints exx (Term.int_eval _)) (not_v (Cond.before_iff.mp (hsets _ (List.mem_of_getElem? (i := 2) rfl))))
  have hfit : Fit s := fun {y c} hc i hi => by
    obtain ⟨ha, rfl⟩ := Array.getElem?_eq_some_iff.mp hc
    have q := List.all_eq_true.mp ((Array.all_eq_true_iff_forall_mem.mp hF) _ (Array.getElem_mem ha)) i (List.mem_range.mpr hi)
    simpa [Array.getElem?_eq_getElem hi] using q
  have hL := Cond.before_iff.mp (hsets _ (List.mem_of_getElem? (i := 17) rfl))
  obtain ⟨xl, yl, exl, eyl, -, -⟩ := cmp_v (Or.inl hL)
  obtain ⟨al, cl, eal, ecl, rfl⟩ := Term.length_spec exl
  have hal : s.arrayAt? dd = some cd := Arr.fin (State.Warmed39.refl s).alike A_d
  obtain rfl : al = dd := Value.ref.inj (Option.some.inj (eal.symm.trans edd))
  obtain rfl : cl = cd := Option.some.inj (ecl.symm.trans hal)
  have V_d : Arv s s.heap al cl.cls (.object "java/lang/Object") (0 : Int32) [] .null := Arv.start hfit A_d (Cond.small_of_lengthOf edd hal (Cond.before_iff.mpr (Cond.isInt_int exl))) (gotT (Cond.eq_ints exl (Term.int_eval _)) hL) (by decide) (by decide) trivial
  obtain ⟨n, o, h1, h2, h3, _, L, rfl, ⟨rfl, N⟩, hq⟩ := rm0 l s _ hw tables_1 i0 i1 i2 i3 i4 i5 al cl.cls xx s.heap s.heap.size (Nat.le_refl _) (Old.start s) S_d V_d S_c hxx p e ha hc hk s m _ below hf ((Spec.applies_iff_loose hf).mp happ).1 ⟨rfl, State.Warmed39.refl s, rfl⟩ trivial
  refine ⟨n, _, h1, h2, h3, hpost _ _ _ _ _ _ ⟨Cond.after_iff.mpr rfl, Cond.after_iff.mpr (eq_i res_at (Term.int_eval (1)) rfl), trivial⟩ ⟨hq.1, hq.2.1, (hq.2.2.sift fun y hy => Or.inr (N y hy)).mono (by decide) (by decide)⟩⟩
theorem main_1_1 : Claimed_1_1 := comes_1 fun _ _ _ _ _ _ h hF => ⟨h.1, hF⟩
theorem main_1_2 : Claimed_1_2 := comes_1 fun _ _ _ _ _ _ h hF => ⟨h.2.1, hF⟩
end Jvm.Pilot.@@N@@
namespace Jvm.Pilot.@@N@@
open Jvm Jvm.ClassFile Sem Op Lib Jvm.Free Jvm.Stand Jvm.Pilot.@@N@@.Jvm.D
/-! MADE BY PROGRAM (witnessworld.py) out of the Statement's table words and the real class files: 28 classes; the members and pool entries that the words name. The judged class is class 1, her method 1. -/
namespace start1
open Jvm.ClassFile
def u (s : String) : CpInfo := .utf8 (stringToUtf16 s)
/-- a pool by its gaps: so many unusable entries, then the entry; so many at the end -/
def gap : Nat → List CpInfo → List CpInfo
  | 0, r => r
  | n + 1, r => .unusable :: gap n r
def poolList (es : List (Nat × CpInfo)) (last : Nat) : List CpInfo := es.foldr (fun e r => gap e.1 (e.2 :: r)) (gap last [])
def pool (es : List (Nat × CpInfo)) (last : Nat) : Array CpInfo := ⟨poolList es last⟩
def fileOf (pool : Array CpInfo) (this : Nat) (attrs : Array Attribute := #[]) (ms : Array MethodInfo := #[]) (fl : Nat := 33) (sup : Nat := 0) (ifs : Array Nat := #[]) (fds : Array FieldInfo := #[]) : ClassFile where
  minorVersion := 0
  majorVersion := 65
  constantPool := pool
  accessFlags := fl
  thisClass := this
  superClass := sup
  interfaces := ifs
  fields := fds
  methods := ms
  attributes := attrs
def plain (name : String) (sup : Option ClassId) : Class where
  name := name
  kind := .ordinary
  loader := none
  accessFlags := 33
  super := sup
  interfaces := #[]
  cf := none
  fields := #[]
  methods := #[]
  instanceTypes := #[]
  staticTypes := #[]
  resolved := #[]
  callSites := []
  init := .initialized
  statics := none
  mirror := none

def pool0 : Array CpInfo := pool [(5, u "<init>"), (0, u "()V"), (1, .class_ 10), (1, u "java/lang/Object")] 113

def k0c0 : Code := { maxStack := 0, maxLocals := 1, code := object_method_1_code, exceptionTable := #[], attributes := #[] }
def k0m0 : Method := { name := "<init>", desc := "()V", sig := { parameters := [], returnType := none }, accessFlags := 1, code := some k0c0 }
/-- java/lang/Object -/
def k0 : Class := { plain "java/lang/Object" none with
  accessFlags := 33
  interfaces := #[]
  cf := some (fileOf pool0 8 #[] #[{ accessFlags := 1, nameIndex := 5, descriptorIndex := 6, attributes := #[] }] 33 0 #[] #[])
  fields := #[]
  methods := #[k0m0]
  instanceTypes := #[]
  staticTypes := #[]
  resolved := Array.replicate 124 none
  statics := none }

def pool1 : Array CpInfo := pool [(2, .class_ 4), (0, .nameAndType 5 6), (0, u "java/lang/Object"), (0, u "<init>"), (0, u "()V"), (0, .methodref 8 9), (0, .class_ 10), (0, .nameAndType 11 12), (0, u "java/lang/String"), (0, u "valueOf"), (0, u "(C)Ljava/lang/String;"), (0, .class_ 14), (0, u "java/util/ArrayList"), (0, .methodref 13 3), (0, .interfaceMethodref 17 18), (0, .class_ 19), (0, .nameAndType 20 21), (0, u "java/util/List"), (0, u "add"), (0, u "(Ljava/lang/Object;)Z"), (0, .methodref 23 24), (0, .class_ 25), (0, .nameAndType 26 27), (0, u "com/example/record_scrubber/recordscrubber/anonymize/GeneralisationLabelsPinLaw"), (0, u "part"), (0, u "(I)I"), (0, .integer 2147483647), (0, .class_ 30), (0, u "com/example/record_scrubber/recordscrubber/anonymize/Generalisation"), (0, .methodref 29 32), (0, .nameAndType 5 33), (0, u "([ILjava/util/List;Lcom/example/record_scrubber/recordscrubber/anonymize/FullDomainNode;)V"), (0, .methodref 29 35), (0, .nameAndType 36 37), (0, u "labels"), (0, u "(I)Ljava/util/List;"), (0, .interfaceMethodref 17 39), (0, .nameAndType 40 41), (0, u "size"), (0, u "()I"), (0, .interfaceMethodref 17 43), (0, .nameAndType 44 45), (0, u "get"), (0, u "(I)Ljava/lang/Object;"), (0, .methodref 8 47), (0, .nameAndType 48 21), (0, u "equals"), (2, u "law"), (0, u "(IIIIII)Z")] 5

def k1m0 : Method := { name := "<init>", desc := "()V", sig := { parameters := [], returnType := none }, accessFlags := 1, code := none }
def k1c1 : Code := { maxStack := 5, maxLocals := 20, code := code, exceptionTable := #[], attributes := #[] }
def k1m1 : Method := { name := "law", desc := "(IIIIII)Z", sig := { parameters := [.int, .int, .int, .int, .int, .int], returnType := some .boolean }, accessFlags := 9, code := some k1c1 }
def k1c2 : Code := { maxStack := 2, maxLocals := 2, code := method_3_code, exceptionTable := #[], attributes := #[] }
def k1m2 : Method := { name := "part", desc := "(I)I", sig := { parameters := [.int], returnType := some .int }, accessFlags := 10, code := some k1c2 }
/-- com/example/record_scrubber/recordscrubber/anonymize/GeneralisationLabelsPinLaw -/
def k1 : Class := { plain "com/example/record_scrubber/recordscrubber/anonymize/GeneralisationLabelsPinLaw" (some 0) with
  accessFlags := 49
  interfaces := #[]
  cf := some (fileOf pool1 23 #[] #[{ accessFlags := 1, nameIndex := 5, descriptorIndex := 6, attributes := #[] }, { accessFlags := 9, nameIndex := 51, descriptorIndex := 52, attributes := #[] }, { accessFlags := 10, nameIndex := 26, descriptorIndex := 27, attributes := #[] }] 49 2 #[] #[])
  fields := #[]
  methods := #[k1m0, k1m1, k1m2]
  instanceTypes := #[]
  staticTypes := #[]
  resolved := Array.replicate 58 none
  statics := none }

def pool2 : Array CpInfo := pool [(1, .class_ 2), (0, u "java/io/Serializable"), (0, .class_ 4), (0, u "java/lang/Object")] 2

/-- java/io/Serializable -/
def k2 : Class := { plain "java/io/Serializable" (some 0) with
  accessFlags := 1537
  interfaces := #[]
  cf := some (fileOf pool2 1 #[] #[] 1537 3 #[] #[])
  fields := #[]
  methods := #[]
  instanceTypes := #[]
  staticTypes := #[]
  resolved := Array.replicate 7 none
  statics := none }

def pool3 : Array CpInfo := pool [(1, .class_ 2), (0, u "java/lang/Comparable"), (0, .class_ 4), (0, u "java/lang/Object")] 7

/-- java/lang/Comparable -/
def k3 : Class := { plain "java/lang/Comparable" (some 0) with
  accessFlags := 1537
  interfaces := #[]
  cf := some (fileOf pool3 1 #[] #[] 1537 3 #[] #[])
  fields := #[]
  methods := #[]
  instanceTypes := #[]
  staticTypes := #[]
  resolved := Array.replicate 12 none
  statics := none }

def pool4 : Array CpInfo := pool [(2, .class_ 4), (1, u "java/lang/CharSequence"), (42, .class_ 48), (0, u "java/lang/CharSequence$1CodePointIterator"), (10, .class_ 60), (0, u "java/lang/CharSequence$1CharIterator"), (5, .class_ 67), (0, u "java/lang/Object")] 63

/-- java/lang/CharSequence -/
def k4 : Class := { plain "java/lang/CharSequence" (some 0) with
  accessFlags := 1537
  interfaces := #[]
  cf := some (fileOf pool4 2 #[.nestMembers #[47, 59]] #[] 1537 66 #[] #[])
  fields := #[]
  methods := #[]
  instanceTypes := #[]
  staticTypes := #[]
  resolved := Array.replicate 131 none
  statics := none }

def pool5 : Array CpInfo := pool [(1, .class_ 2), (0, u "java/lang/constant/Constable"), (0, .class_ 4), (0, u "java/lang/Object")] 6

/-- java/lang/constant/Constable -/
def k5 : Class := { plain "java/lang/constant/Constable" (some 0) with
  accessFlags := 1537
  interfaces := #[]
  cf := some (fileOf pool5 1 #[] #[] 1537 3 #[] #[])
  fields := #[]
  methods := #[]
  instanceTypes := #[]
  staticTypes := #[]
  resolved := Array.replicate 11 none
  statics := none }

def pool6 : Array CpInfo := pool [(1, .class_ 2), (0, u "java/lang/constant/ConstantDesc"), (0, .class_ 4), (0, u "java/lang/Object")] 32

/-- java/lang/constant/ConstantDesc -/
def k6 : Class := { plain "java/lang/constant/ConstantDesc" (some 0) with
  accessFlags := 1537
  interfaces := #[]
  cf := some (fileOf pool6 1 #[] #[] 1537 3 #[] #[])
  fields := #[]
  methods := #[]
  instanceTypes := #[]
  staticTypes := #[]
  resolved := Array.replicate 37 none
  statics := none }

def pool7 : Array CpInfo := pool [(1, .methodref 2 3), (0, .class_ 4), (0, .nameAndType 5 6), (0, u "java/lang/Object"), (0, u "<init>"), (0, u "()V"), (2, .fieldref 10 11), (0, .class_ 12), (0, .nameAndType 13 14), (0, u "java/lang/String"), (0, u "value"), (0, u "[B"), (0, .fieldref 10 16), (0, .nameAndType 17 18), (0, u "coder"), (0, u "B"), (2, u "hash"), (0, u "I"), (2, u "hashIsZero"), (0, u "Z"), (11, .fieldref 10 39), (0, .nameAndType 40 26), (0, u "COMPACT_STRINGS"), (12, u "toBytes"), (53, .class_ 109), (1, u "java/lang/StringLatin1"), (99, .methodref 10 210), (0, .nameAndType 5 211), (0, u "([BB)V"), (157, u "(C)Z"), (173, u "equals"), (29, u "(Ljava/lang/Object;)Z"), (1, .class_ 576), (0, u "java/lang/CharSequence"), (22, u "CASE_INSENSITIVE_ORDER"), (0, u "Ljava/util/Comparator;"), (181, u "valueOf"), (0, u "(C)Ljava/lang/String;"), (231, .methodref 107 1016), (0, .nameAndType 1017 369), (0, u "canEncode"), (0, .methodref 107 1019), (0, .nameAndType 53 1020), (0, u "(C)[B"), (80, u "serialPersistentFields"), (0, u "[Ljava/io/ObjectStreamField;"), (0, .class_ 1104), (0, u "java/lang/String$CaseInsensitiveComparator"), (1, .class_ 1107), (0, u "java/io/Serializable"), (0, .class_ 1109), (0, u "java/lang/Comparable"), (0, .class_ 1111), (0, u "java/lang/constant/Constable"), (0, .class_ 1113), (0, u "java/lang/constant/ConstantDesc"), (2, u "serialVersionUID"), (0, u "J"), (3, u "REPL"), (0, u "C"), (2, u "LATIN1"), (1, u "UTF16")] 323

def k7m0 : Method := { name := "<init>", desc := "()V", sig := { parameters := [], returnType := none }, accessFlags := 1, code := none }
def k7c1 : Code := { maxStack := 2, maxLocals := 3, code := jdk_42_method_66_code, exceptionTable := #[], attributes := #[] }
def k7m1 : Method := { name := "equals", desc := "(Ljava/lang/Object;)Z", sig := { parameters := [(.object "java/lang/Object")], returnType := some .boolean }, accessFlags := 1, code := some k7c1 }
def k7c2 : Code := { maxStack := 4, maxLocals := 1, code := jdk_42_method_139_code, exceptionTable := #[], attributes := #[] }
def k7m2 : Method := { name := "valueOf", desc := "(C)Ljava/lang/String;", sig := { parameters := [.char], returnType := some (.object "java/lang/String") }, accessFlags := 9, code := some k7c2 }
def k7c3 : Code := { maxStack := 2, maxLocals := 3, code := jdk_42_method_151_code, exceptionTable := #[], attributes := #[] }
def k7m3 : Method := { name := "<init>", desc := "([BB)V", sig := { parameters := [(.array .byte), .byte], returnType := none }, accessFlags := 0, code := some k7c3 }
/-- java/lang/String -/
def k7 : Class := { plain "java/lang/String" (some 0) with
  accessFlags := 49
  interfaces := #[2, 3, 4, 5, 6]
  cf := some (fileOf pool7 10 #[.nestMembers #[1103]] #[{ accessFlags := 1, nameIndex := 5, descriptorIndex := 6, attributes := #[] }, { accessFlags := 1, nameIndex := 543, descriptorIndex := 573, attributes := #[] }, { accessFlags := 9, nameIndex := 782, descriptorIndex := 783, attributes := #[] }, { accessFlags := 0, nameIndex := 5, descriptorIndex := 211, attributes := #[] }] 49 2 #[1106, 1108, 575, 1110, 1112] #[{ accessFlags := 18, nameIndex := 13, descriptorIndex := 14, attributes := #[] }, { accessFlags := 18, nameIndex := 17, descriptorIndex := 18, attributes := #[] }, { accessFlags := 2, nameIndex := 21, descriptorIndex := 22, attributes := #[] }, { accessFlags := 2, nameIndex := 25, descriptorIndex := 26, attributes := #[] }, { accessFlags := 26, nameIndex := 1116, descriptorIndex := 1117, attributes := #[] }, { accessFlags := 24, nameIndex := 40, descriptorIndex := 26, attributes := #[] }, { accessFlags := 26, nameIndex := 1101, descriptorIndex := 1102, attributes := #[] }, { accessFlags := 26, nameIndex := 1121, descriptorIndex := 1122, attributes := #[] }, { accessFlags := 25, nameIndex := 599, descriptorIndex := 600, attributes := #[] }, { accessFlags := 24, nameIndex := 1125, descriptorIndex := 18, attributes := #[] }, { accessFlags := 24, nameIndex := 1127, descriptorIndex := 18, attributes := #[] }])
  fields := #[{ name := "value", type := (.array .byte), accessFlags := 18, slot := 0, constantValue := 0 }, { name := "coder", type := .byte, accessFlags := 18, slot := 1, constantValue := 0 }, { name := "hash", type := .int, accessFlags := 2, slot := 2, constantValue := 0 }, { name := "hashIsZero", type := .boolean, accessFlags := 2, slot := 3, constantValue := 0 }, { name := "serialVersionUID", type := .long, accessFlags := 26, slot := 0, constantValue := 0 }, { name := "COMPACT_STRINGS", type := .boolean, accessFlags := 24, slot := 1, constantValue := 0 }, { name := "serialPersistentFields", type := (.array (.object "java/io/ObjectStreamField")), accessFlags := 26, slot := 2, constantValue := 0 }, { name := "REPL", type := .char, accessFlags := 26, slot := 3, constantValue := 0 }, { name := "CASE_INSENSITIVE_ORDER", type := (.object "java/util/Comparator"), accessFlags := 25, slot := 4, constantValue := 0 }, { name := "LATIN1", type := .byte, accessFlags := 24, slot := 5, constantValue := 0 }, { name := "UTF16", type := .byte, accessFlags := 24, slot := 6, constantValue := 0 }]
  methods := #[k7m0, k7m1, k7m2, k7m3]
  instanceTypes := #[(.array .byte), .byte, .int, .boolean]
  staticTypes := #[.long, .boolean, (.array (.object "java/io/ObjectStreamField")), .char, (.object "java/util/Comparator"), .byte, .byte]
  resolved := Array.replicate 1451 none
  statics := some 0 }

def pool8 : Array CpInfo := pool [(4, .class_ 6), (1, u "java/lang/Object"), (0, u "<init>"), (0, u "()V"), (5, .class_ 16), (1, u "java/lang/StringLatin1"), (73, u "canEncode"), (14, u "(C)Z"), (15, u "$assertionsDisabled"), (0, u "Z"), (98, .class_ 223), (1, u "java/lang/StringLatin1$LinesSpliterator"), (156, u "toBytes"), (1, u "(C)[B"), (7, .class_ 391), (0, u "java/lang/StringLatin1$CharsSpliterator")] 3

def k8m0 : Method := { name := "<init>", desc := "()V", sig := { parameters := [], returnType := none }, accessFlags := 0, code := none }
def k8c1 : Code := { maxStack := 2, maxLocals := 1, code := jdk_43_method_3_code, exceptionTable := #[], attributes := #[] }
def k8m1 : Method := { name := "canEncode", desc := "(C)Z", sig := { parameters := [.char], returnType := some .boolean }, accessFlags := 9, code := some k8c1 }
def k8c2 : Code := { maxStack := 4, maxLocals := 1, code := jdk_43_method_46_code, exceptionTable := #[], attributes := #[] }
def k8m2 : Method := { name := "toBytes", desc := "(C)[B", sig := { parameters := [.char], returnType := some (.array .byte) }, accessFlags := 9, code := some k8c2 }
/-- java/lang/StringLatin1 -/
def k8 : Class := { plain "java/lang/StringLatin1" (some 0) with
  accessFlags := 48
  interfaces := #[]
  cf := some (fileOf pool8 14 #[.nestMembers #[390, 221]] #[{ accessFlags := 0, nameIndex := 7, descriptorIndex := 8, attributes := #[] }, { accessFlags := 9, nameIndex := 90, descriptorIndex := 105, attributes := #[] }, { accessFlags := 9, nameIndex := 380, descriptorIndex := 382, attributes := #[] }] 48 4 #[] #[{ accessFlags := 4120, nameIndex := 121, descriptorIndex := 122, attributes := #[] }])
  fields := #[{ name := "$assertionsDisabled", type := .boolean, accessFlags := 4120, slot := 0, constantValue := 0 }]
  methods := #[k8m0, k8m1, k8m2]
  instanceTypes := #[]
  staticTypes := #[.boolean]
  resolved := Array.replicate 395 none
  statics := none }

def pool9 : Array CpInfo := pool [(8, .class_ 10), (1, u "java/lang/Iterable"), (24, .class_ 36), (0, u "java/lang/Object")] 25

/-- java/lang/Iterable -/
def k9 : Class := { plain "java/lang/Iterable" (some 0) with
  accessFlags := 1537
  interfaces := #[]
  cf := some (fileOf pool9 8 #[] #[] 1537 35 #[] #[])
  fields := #[]
  methods := #[]
  instanceTypes := #[]
  staticTypes := #[]
  resolved := Array.replicate 62 none
  statics := none }

def pool10 : Array CpInfo := pool [(10, .class_ 12), (1, u "java/util/Collection"), (47, .class_ 61), (0, u "java/lang/Object"), (0, .class_ 63), (0, u "java/lang/Iterable")] 51

/-- java/util/Collection -/
def k10 : Class := { plain "java/util/Collection" (some 0) with
  accessFlags := 1537
  interfaces := #[9]
  cf := some (fileOf pool10 10 #[] #[] 1537 60 #[62] #[])
  fields := #[]
  methods := #[]
  instanceTypes := #[]
  staticTypes := #[]
  resolved := Array.replicate 115 none
  statics := none }

def pool11 : Array CpInfo := pool [(1, .methodref 2 3), (0, .class_ 4), (0, .nameAndType 5 6), (0, u "java/lang/Object"), (0, u "<init>"), (0, u "()V"), (1, .class_ 10), (1, u "java/util/AbstractCollection"), (66, .class_ 78), (0, u "java/util/Collection")] 81

def k11c0 : Code := { maxStack := 1, maxLocals := 1, code := jdk_22_method_1_code, exceptionTable := #[], attributes := #[] }
def k11m0 : Method := { name := "<init>", desc := "()V", sig := { parameters := [], returnType := none }, accessFlags := 4, code := some k11c0 }
/-- java/util/AbstractCollection -/
def k11 : Class := { plain "java/util/AbstractCollection" (some 0) with
  accessFlags := 1057
  interfaces := #[10]
  cf := some (fileOf pool11 8 #[] #[{ accessFlags := 4, nameIndex := 5, descriptorIndex := 6, attributes := #[] }] 1057 2 #[77] #[])
  fields := #[]
  methods := #[k11m0]
  instanceTypes := #[]
  staticTypes := #[]
  resolved := Array.replicate 160 none
  statics := none }

def pool12 : Array CpInfo := pool [(8, .class_ 10), (1, u "java/util/SequencedCollection"), (15, .class_ 27), (0, u "java/lang/Object"), (0, .class_ 29), (0, u "java/util/Collection")] 27

/-- java/util/SequencedCollection -/
def k12 : Class := { plain "java/util/SequencedCollection" (some 0) with
  accessFlags := 1537
  interfaces := #[10]
  cf := some (fileOf pool12 8 #[] #[] 1537 26 #[28] #[])
  fields := #[]
  methods := #[]
  instanceTypes := #[]
  staticTypes := #[]
  resolved := Array.replicate 57 none
  statics := none }

def pool13 : Array CpInfo := pool [(8, .class_ 10), (1, u "java/util/List"), (49, u "add"), (3, u "(Ljava/lang/Object;)Z"), (10, u "get"), (0, u "(I)Ljava/lang/Object;"), (2, u "size"), (0, u "()I"), (22, .class_ 104), (0, u "java/lang/Object"), (15, .class_ 121), (0, u "java/util/SequencedCollection")] 129

def k13m0 : Method := { name := "size", desc := "()I", sig := { parameters := [], returnType := some .int }, accessFlags := 1025, code := none }
def k13m1 : Method := { name := "add", desc := "(Ljava/lang/Object;)Z", sig := { parameters := [(.object "java/lang/Object")], returnType := some .boolean }, accessFlags := 1025, code := none }
def k13m2 : Method := { name := "get", desc := "(I)Ljava/lang/Object;", sig := { parameters := [.int], returnType := some (.object "java/lang/Object") }, accessFlags := 1025, code := none }
/-- java/util/List -/
def k13 : Class := { plain "java/util/List" (some 0) with
  accessFlags := 1537
  interfaces := #[12]
  cf := some (fileOf pool13 8 #[] #[{ accessFlags := 1025, nameIndex := 79, descriptorIndex := 80, attributes := #[] }, { accessFlags := 1025, nameIndex := 60, descriptorIndex := 64, attributes := #[] }, { accessFlags := 1025, nameIndex := 75, descriptorIndex := 76, attributes := #[] }] 1537 103 #[120] #[])
  fields := #[]
  methods := #[k13m0, k13m1, k13m2]
  instanceTypes := #[]
  staticTypes := #[]
  resolved := Array.replicate 251 none
  statics := none }

def pool14 : Array CpInfo := pool [(1, .methodref 2 3), (0, .class_ 4), (0, .nameAndType 5 6), (0, u "java/util/AbstractCollection"), (0, u "<init>"), (0, u "()V"), (0, .fieldref 8 9), (0, .class_ 10), (0, .nameAndType 11 12), (0, u "java/util/AbstractList"), (0, u "modCount"), (0, u "I"), (64, .class_ 78), (0, u "java/util/AbstractList$Itr"), (3, .class_ 83), (0, u "java/util/AbstractList$ListItr"), (9, .class_ 94), (0, u "java/util/AbstractList$RandomAccessSubList"), (3, .class_ 99), (0, u "java/util/AbstractList$SubList"), (33, .class_ 134), (0, u "java/util/List"), (73, .class_ 209), (0, u "java/util/AbstractList$SubList$1"), (0, .class_ 211), (0, u "java/util/AbstractList$RandomAccessSpliterator")] 6

def k14c0 : Code := { maxStack := 2, maxLocals := 1, code := jdk_39_method_1_code, exceptionTable := #[], attributes := #[] }
def k14m0 : Method := { name := "<init>", desc := "()V", sig := { parameters := [], returnType := none }, accessFlags := 4, code := some k14c0 }
/-- java/util/AbstractList -/
def k14 : Class := { plain "java/util/AbstractList" (some 11) with
  accessFlags := 1057
  interfaces := #[13]
  cf := some (fileOf pool14 8 #[.nestMembers #[93, 98, 208, 210, 82, 77]] #[{ accessFlags := 4, nameIndex := 5, descriptorIndex := 6, attributes := #[] }] 1057 2 #[133] #[{ accessFlags := 132, nameIndex := 11, descriptorIndex := 12, attributes := #[] }])
  fields := #[{ name := "modCount", type := .int, accessFlags := 132, slot := 0, constantValue := 0 }]
  methods := #[k14m0]
  instanceTypes := #[.int]
  staticTypes := #[]
  resolved := Array.replicate 218 none
  statics := none }

def pool15 : Array CpInfo := pool [(1, .class_ 2), (0, u "java/util/RandomAccess"), (0, .class_ 4), (0, u "java/lang/Object")] 2

/-- java/util/RandomAccess -/
def k15 : Class := { plain "java/util/RandomAccess" (some 0) with
  accessFlags := 1537
  interfaces := #[]
  cf := some (fileOf pool15 1 #[] #[] 1537 3 #[] #[])
  fields := #[]
  methods := #[]
  instanceTypes := #[]
  staticTypes := #[]
  resolved := Array.replicate 7 none
  statics := none }

def pool16 : Array CpInfo := pool [(1, .class_ 2), (0, u "java/lang/Cloneable"), (0, .class_ 4), (0, u "java/lang/Object")] 2

/-- java/lang/Cloneable -/
def k16 : Class := { plain "java/lang/Cloneable" (some 0) with
  accessFlags := 1537
  interfaces := #[]
  cf := some (fileOf pool16 1 #[] #[] 1537 3 #[] #[])
  fields := #[]
  methods := #[]
  instanceTypes := #[]
  staticTypes := #[]
  resolved := Array.replicate 7 none
  statics := none }

def pool17 : Array CpInfo := pool [(1, .methodref 2 3), (0, .class_ 4), (0, .nameAndType 5 6), (0, u "java/util/AbstractList"), (0, u "<init>"), (0, u "()V"), (0, .class_ 8), (0, u "java/lang/Object"), (0, .fieldref 10 11), (0, .class_ 12), (0, .nameAndType 13 14), (0, u "java/util/ArrayList"), (0, u "elementData"), (0, u "[Ljava/lang/Object;"), (2, u "EMPTY_ELEMENTDATA"), (21, .fieldref 10 40), (0, .nameAndType 41 14), (0, u "DEFAULTCAPACITY_EMPTY_ELEMENTDATA"), (5, u "()[Ljava/lang/Object;"), (0, .fieldref 10 49), (0, .nameAndType 50 51), (0, u "size"), (0, u "I"), (11, .fieldref 10 64), (0, .nameAndType 65 51), (0, u "modCount"), (3, .methodref 10 70), (0, .nameAndType 71 72), (0, u "grow"), (0, u "(I)[Ljava/lang/Object;"), (6, .methodref 80 81), (0, .class_ 82), (0, .nameAndType 83 84), (0, u "java/lang/Math"), (0, u "max"), (0, u "(II)I"), (11, u "(Ljava/lang/Object;)Z"), (21, .methodref 119 120), (0, .class_ 121), (0, .nameAndType 122 84), (0, u "java/util/Objects"), (0, u "checkIndex"), (0, .methodref 10 124), (0, .nameAndType 13 125), (0, u "(I)Ljava/lang/Object;"), (3, .methodref 10 130), (0, .nameAndType 71 47), (0, .methodref 10 132), (0, .nameAndType 133 134), (0, u "add"), (0, u "(Ljava/lang/Object;[Ljava/lang/Object;I)V"), (13, .class_ 149), (0, u "java/util/List"), (36, u "()I"), (75, .class_ 263), (0, u "java/util/ArrayList$ListItr"), (3, .class_ 268), (0, u "java/util/ArrayList$Itr"), (7, .class_ 277), (0, u "java/util/ArrayList$SubList"), (12, .class_ 291), (0, u "java/util/ArrayList$ArrayListSpliterator"), (37, .class_ 330), (0, u "java/util/RandomAccess"), (0, .class_ 332), (0, u "java/lang/Cloneable"), (0, .class_ 334), (0, u "java/io/Serializable"), (0, u "serialVersionUID"), (0, u "J"), (3, u "DEFAULT_CAPACITY"), (40, u "get"), (118, .class_ 501), (0, u "java/util/ArrayList$SubList$2"), (0, .class_ 503), (0, u "java/util/ArrayList$SubList$1")] 5

def k17c0 : Code := { maxStack := 2, maxLocals := 1, code := jdk_38_method_2_code, exceptionTable := #[], attributes := #[] }
def k17m0 : Method := { name := "<init>", desc := "()V", sig := { parameters := [], returnType := none }, accessFlags := 1, code := some k17c0 }
def k17c1 : Code := { maxStack := 4, maxLocals := 4, code := jdk_38_method_6_code, exceptionTable := #[], attributes := #[] }
def k17m1 : Method := { name := "grow", desc := "(I)[Ljava/lang/Object;", sig := { parameters := [.int], returnType := some (.array (.object "java/lang/Object")) }, accessFlags := 2, code := some k17c1 }
def k17c2 : Code := { maxStack := 3, maxLocals := 1, code := jdk_38_method_7_code, exceptionTable := #[], attributes := #[] }
def k17m2 : Method := { name := "grow", desc := "()[Ljava/lang/Object;", sig := { parameters := [], returnType := some (.array (.object "java/lang/Object")) }, accessFlags := 2, code := some k17c2 }
def k17c3 : Code := { maxStack := 1, maxLocals := 1, code := jdk_38_method_8_code, exceptionTable := #[], attributes := #[] }
def k17m3 : Method := { name := "size", desc := "()I", sig := { parameters := [], returnType := some .int }, accessFlags := 1, code := some k17c3 }
def k17c4 : Code := { maxStack := 2, maxLocals := 2, code := jdk_38_method_18_code, exceptionTable := #[], attributes := #[] }
def k17m4 : Method := { name := "elementData", desc := "(I)Ljava/lang/Object;", sig := { parameters := [.int], returnType := some (.object "java/lang/Object") }, accessFlags := 0, code := some k17c4 }
def k17c5 : Code := { maxStack := 2, maxLocals := 2, code := jdk_38_method_20_code, exceptionTable := #[], attributes := #[] }
def k17m5 : Method := { name := "get", desc := "(I)Ljava/lang/Object;", sig := { parameters := [.int], returnType := some (.object "java/lang/Object") }, accessFlags := 1, code := some k17c5 }
def k17c6 : Code := { maxStack := 3, maxLocals := 4, code := jdk_38_method_24_code, exceptionTable := #[], attributes := #[] }
def k17m6 : Method := { name := "add", desc := "(Ljava/lang/Object;[Ljava/lang/Object;I)V", sig := { parameters := [(.object "java/lang/Object"), (.array (.object "java/lang/Object")), .int], returnType := none }, accessFlags := 2, code := some k17c6 }
def k17c7 : Code := { maxStack := 4, maxLocals := 2, code := jdk_38_method_25_code, exceptionTable := #[], attributes := #[] }
def k17m7 : Method := { name := "add", desc := "(Ljava/lang/Object;)Z", sig := { parameters := [(.object "java/lang/Object")], returnType := some .boolean }, accessFlags := 1, code := some k17c7 }
/-- java/util/ArrayList -/
def k17 : Class := { plain "java/util/ArrayList" (some 14) with
  accessFlags := 33
  interfaces := #[13, 15, 16, 2]
  cf := some (fileOf pool17 10 #[.nestMembers #[290, 276, 500, 502, 262, 267]] #[{ accessFlags := 1, nameIndex := 5, descriptorIndex := 6, attributes := #[] }, { accessFlags := 2, nameIndex := 71, descriptorIndex := 72, attributes := #[] }, { accessFlags := 2, nameIndex := 71, descriptorIndex := 47, attributes := #[] }, { accessFlags := 1, nameIndex := 50, descriptorIndex := 186, attributes := #[] }, { accessFlags := 0, nameIndex := 13, descriptorIndex := 125, attributes := #[] }, { accessFlags := 1, nameIndex := 381, descriptorIndex := 125, attributes := #[] }, { accessFlags := 2, nameIndex := 133, descriptorIndex := 134, attributes := #[] }, { accessFlags := 1, nameIndex := 133, descriptorIndex := 96, attributes := #[] }] 33 2 #[148, 329, 331, 333] #[{ accessFlags := 26, nameIndex := 335, descriptorIndex := 336, attributes := #[] }, { accessFlags := 26, nameIndex := 340, descriptorIndex := 51, attributes := #[] }, { accessFlags := 26, nameIndex := 17, descriptorIndex := 14, attributes := #[] }, { accessFlags := 26, nameIndex := 41, descriptorIndex := 14, attributes := #[] }, { accessFlags := 128, nameIndex := 13, descriptorIndex := 14, attributes := #[] }, { accessFlags := 2, nameIndex := 50, descriptorIndex := 51, attributes := #[] }])
  fields := #[{ name := "serialVersionUID", type := .long, accessFlags := 26, slot := 0, constantValue := 0 }, { name := "DEFAULT_CAPACITY", type := .int, accessFlags := 26, slot := 1, constantValue := 0 }, { name := "EMPTY_ELEMENTDATA", type := (.array (.object "java/lang/Object")), accessFlags := 26, slot := 2, constantValue := 0 }, { name := "DEFAULTCAPACITY_EMPTY_ELEMENTDATA", type := (.array (.object "java/lang/Object")), accessFlags := 26, slot := 3, constantValue := 0 }, { name := "elementData", type := (.array (.object "java/lang/Object")), accessFlags := 128, slot := 1, constantValue := 0 }, { name := "size", type := .int, accessFlags := 2, slot := 2, constantValue := 0 }]
  methods := #[k17m0, k17m1, k17m2, k17m3, k17m4, k17m5, k17m6, k17m7]
  instanceTypes := #[.int, (.array (.object "java/lang/Object")), .int]
  staticTypes := #[.long, .int, (.array (.object "java/lang/Object")), (.array (.object "java/lang/Object"))]
  resolved := Array.replicate 509 none
  statics := some 1 }

def pool18 : Array CpInfo := pool [(1, .class_ 2), (0, u "java/lang/Math"), (1, .class_ 6), (1, u "java/lang/Object"), (0, u "<init>"), (0, u "()V"), (89, .class_ 100), (1, u "java/lang/Math$RandomNumberGeneratorHolder"), (71, u "negativeZeroFloatBits"), (0, u "J"), (2, u "negativeZeroDoubleBits"), (21, u "max"), (46, u "$assertionsDisabled"), (0, u "Z"), (88, u "(II)I"), (2, u "twoToTheDoubleScaleDown"), (0, u "D"), (4, u "twoToTheDoubleScaleUp"), (9, u "E"), (3, u "PI"), (2, u "TAU"), (2, u "DEGREES_TO_RADIANS"), (0, u "RADIANS_TO_DEGREES")] 94

def k18m0 : Method := { name := "<init>", desc := "()V", sig := { parameters := [], returnType := none }, accessFlags := 2, code := none }
def k18c1 : Code := { maxStack := 2, maxLocals := 2, code := jdk_29_method_65_code, exceptionTable := #[], attributes := #[] }
def k18m1 : Method := { name := "max", desc := "(II)I", sig := { parameters := [.int, .int], returnType := some .int }, accessFlags := 9, code := some k18c1 }
/-- java/lang/Math -/
def k18 : Class := { plain "java/lang/Math" (some 0) with
  accessFlags := 49
  interfaces := #[]
  cf := some (fileOf pool18 1 #[.nestMembers #[98]] #[{ accessFlags := 2, nameIndex := 7, descriptorIndex := 8, attributes := #[] }, { accessFlags := 9, nameIndex := 198, descriptorIndex := 335, attributes := #[] }] 49 4 #[] #[{ accessFlags := 25, nameIndex := 354, descriptorIndex := 339, attributes := #[] }, { accessFlags := 25, nameIndex := 358, descriptorIndex := 339, attributes := #[] }, { accessFlags := 25, nameIndex := 361, descriptorIndex := 339, attributes := #[] }, { accessFlags := 26, nameIndex := 364, descriptorIndex := 339, attributes := #[] }, { accessFlags := 26, nameIndex := 365, descriptorIndex := 339, attributes := #[] }, { accessFlags := 26, nameIndex := 172, descriptorIndex := 173, attributes := #[] }, { accessFlags := 26, nameIndex := 176, descriptorIndex := 173, attributes := #[] }, { accessFlags := 8, nameIndex := 344, descriptorIndex := 339, attributes := #[] }, { accessFlags := 8, nameIndex := 338, descriptorIndex := 339, attributes := #[] }, { accessFlags := 4120, nameIndex := 245, descriptorIndex := 246, attributes := #[] }])
  fields := #[{ name := "E", type := .double, accessFlags := 25, slot := 0, constantValue := 0 }, { name := "PI", type := .double, accessFlags := 25, slot := 1, constantValue := 0 }, { name := "TAU", type := .double, accessFlags := 25, slot := 2, constantValue := 0 }, { name := "DEGREES_TO_RADIANS", type := .double, accessFlags := 26, slot := 3, constantValue := 0 }, { name := "RADIANS_TO_DEGREES", type := .double, accessFlags := 26, slot := 4, constantValue := 0 }, { name := "negativeZeroFloatBits", type := .long, accessFlags := 26, slot := 5, constantValue := 0 }, { name := "negativeZeroDoubleBits", type := .long, accessFlags := 26, slot := 6, constantValue := 0 }, { name := "twoToTheDoubleScaleUp", type := .double, accessFlags := 8, slot := 7, constantValue := 0 }, { name := "twoToTheDoubleScaleDown", type := .double, accessFlags := 8, slot := 8, constantValue := 0 }, { name := "$assertionsDisabled", type := .boolean, accessFlags := 4120, slot := 9, constantValue := 0 }]
  methods := #[k18m0, k18m1]
  instanceTypes := #[]
  staticTypes := #[.double, .double, .double, .double, .double, .long, .long, .double, .double, .boolean]
  resolved := Array.replicate 460 none
  statics := none }

def pool19 : Array CpInfo := pool [(1, .methodref 2 3), (0, .class_ 4), (0, .nameAndType 5 6), (0, u "java/lang/Object"), (0, u "<init>"), (0, u "()V"), (0, .fieldref 8 9), (0, .class_ 10), (0, .nameAndType 11 12), (0, u "com/example/record_scrubber/recordscrubber/anonymize/Generalisation"), (0, u "partOfRow"), (0, u "[I"), (0, .fieldref 8 14), (0, .nameAndType 15 16), (0, u "labelsOfPart"), (0, u "Ljava/util/List;"), (0, .fieldref 8 18), (0, .nameAndType 19 20), (0, u "node"), (0, u "Lcom/example/record_scrubber/recordscrubber/anonymize/FullDomainNode;"), (2, u "([ILjava/util/List;Lcom/example/record_scrubber/recordscrubber/anonymize/FullDomainNode;)V"), (1, .class_ 27), (1, u "java/util/List"), (2, .interfaceMethodref 25 31), (0, .nameAndType 32 33), (0, u "get"), (0, u "(I)Ljava/lang/Object;"), (6, u "REMOVED"), (0, u "I"), (16, u "labels"), (0, u "(I)Ljava/util/List;")] 5

def k19c0 : Code := { maxStack := 2, maxLocals := 4, code := prog_8_method_1_code, exceptionTable := #[], attributes := #[] }
def k19m0 : Method := { name := "<init>", desc := "([ILjava/util/List;Lcom/example/record_scrubber/recordscrubber/anonymize/FullDomainNode;)V", sig := { parameters := [(.array .int), (.object "java/util/List"), (.object "com/example/record_scrubber/recordscrubber/anonymize/FullDomainNode")], returnType := none }, accessFlags := 0, code := some k19c0 }
def k19c1 : Code := { maxStack := 3, maxLocals := 2, code := prog_8_method_7_code, exceptionTable := #[], attributes := #[] }
def k19m1 : Method := { name := "labels", desc := "(I)Ljava/util/List;", sig := { parameters := [.int], returnType := some (.object "java/util/List") }, accessFlags := 0, code := some k19c1 }
/-- com/example/record_scrubber/recordscrubber/anonymize/Generalisation -/
def k19 : Class := { plain "com/example/record_scrubber/recordscrubber/anonymize/Generalisation" (some 0) with
  accessFlags := 48
  interfaces := #[]
  cf := some (fileOf pool19 8 #[] #[{ accessFlags := 0, nameIndex := 5, descriptorIndex := 23, attributes := #[] }, { accessFlags := 0, nameIndex := 58, descriptorIndex := 59, attributes := #[] }] 48 2 #[] #[{ accessFlags := 24, nameIndex := 40, descriptorIndex := 41, attributes := #[] }, { accessFlags := 18, nameIndex := 11, descriptorIndex := 12, attributes := #[] }, { accessFlags := 18, nameIndex := 15, descriptorIndex := 16, attributes := #[] }, { accessFlags := 18, nameIndex := 19, descriptorIndex := 20, attributes := #[] }])
  fields := #[{ name := "REMOVED", type := .int, accessFlags := 24, slot := 0, constantValue := 0 }, { name := "partOfRow", type := (.array .int), accessFlags := 18, slot := 0, constantValue := 0 }, { name := "labelsOfPart", type := (.object "java/util/List"), accessFlags := 18, slot := 1, constantValue := 0 }, { name := "node", type := (.object "com/example/record_scrubber/recordscrubber/anonymize/FullDomainNode"), accessFlags := 18, slot := 2, constantValue := 0 }]
  methods := #[k19m0, k19m1]
  instanceTypes := #[(.array .int), (.object "java/util/List"), (.object "com/example/record_scrubber/recordscrubber/anonymize/FullDomainNode")]
  staticTypes := #[.int]
  resolved := Array.replicate 65 none
  statics := none }

def pool20 : Array CpInfo := pool [(2, .class_ 4), (1, u "java/lang/Object"), (0, u "<init>"), (0, u "()V"), (35, .class_ 44), (1, u "java/util/Objects"), (60, .methodref 106 107), (0, .class_ 108), (0, .nameAndType 109 110), (0, u "jdk/internal/util/Preconditions"), (0, u "checkIndex"), (0, u "(IILjava/util/function/BiFunction;)I"), (60, u "(II)I")] 12

def k20m0 : Method := { name := "<init>", desc := "()V", sig := { parameters := [], returnType := none }, accessFlags := 2, code := none }
def k20c1 : Code := { maxStack := 3, maxLocals := 2, code := jdk_31_method_17_code, exceptionTable := #[], attributes := #[] }
def k20m1 : Method := { name := "checkIndex", desc := "(II)I", sig := { parameters := [.int, .int], returnType := some .int }, accessFlags := 9, code := some k20c1 }
/-- java/util/Objects -/
def k20 : Class := { plain "java/util/Objects" (some 0) with
  accessFlags := 49
  interfaces := #[]
  cf := some (fileOf pool20 42 #[] #[{ accessFlags := 2, nameIndex := 5, descriptorIndex := 6, attributes := #[] }, { accessFlags := 9, nameIndex := 109, descriptorIndex := 171, attributes := #[] }] 49 2 #[] #[])
  fields := #[]
  methods := #[k20m0, k20m1]
  instanceTypes := #[]
  staticTypes := #[]
  resolved := Array.replicate 184 none
  statics := none }

def pool21 : Array CpInfo := pool [(2, .class_ 4), (1, u "java/lang/Object"), (0, u "<init>"), (0, u "()V"), (17, .class_ 26), (1, u "jdk/internal/util/Preconditions"), (6, u "checkIndex"), (21, .class_ 56), (0, u "jdk/internal/util/Preconditions$4"), (57, .class_ 115), (0, u "jdk/internal/util/Preconditions$1"), (7, u "SIOOBE_FORMATTER"), (0, u "Ljava/util/function/BiFunction;"), (0, .class_ 126), (0, u "jdk/internal/util/Preconditions$2"), (3, u "AIOOBE_FORMATTER"), (0, .class_ 132), (0, u "jdk/internal/util/Preconditions$3"), (3, u "IOOBE_FORMATTER"), (41, u "(IILjava/util/function/BiFunction;)I")] 15

def k21m0 : Method := { name := "<init>", desc := "()V", sig := { parameters := [], returnType := none }, accessFlags := 1, code := none }
def k21c1 : Code := { maxStack := 3, maxLocals := 3, code := jdk_41_method_11_code, exceptionTable := #[], attributes := #[] }
def k21m1 : Method := { name := "checkIndex", desc := "(IILjava/util/function/BiFunction;)I", sig := { parameters := [.int, .int, (.object "java/util/function/BiFunction")], returnType := some .int }, accessFlags := 9, code := some k21c1 }
/-- jdk/internal/util/Preconditions -/
def k21 : Class := { plain "jdk/internal/util/Preconditions" (some 0) with
  accessFlags := 33
  interfaces := #[]
  cf := some (fileOf pool21 24 #[.nestMembers #[55, 131, 125, 114]] #[{ accessFlags := 1, nameIndex := 5, descriptorIndex := 6, attributes := #[] }, { accessFlags := 9, nameIndex := 33, descriptorIndex := 178, attributes := #[] }] 33 2 #[] #[{ accessFlags := 25, nameIndex := 123, descriptorIndex := 124, attributes := #[] }, { accessFlags := 25, nameIndex := 130, descriptorIndex := 124, attributes := #[] }, { accessFlags := 25, nameIndex := 136, descriptorIndex := 124, attributes := #[] }])
  fields := #[{ name := "SIOOBE_FORMATTER", type := (.object "java/util/function/BiFunction"), accessFlags := 25, slot := 0, constantValue := 0 }, { name := "AIOOBE_FORMATTER", type := (.object "java/util/function/BiFunction"), accessFlags := 25, slot := 1, constantValue := 0 }, { name := "IOOBE_FORMATTER", type := (.object "java/util/function/BiFunction"), accessFlags := 25, slot := 2, constantValue := 0 }]
  methods := #[k21m0, k21m1]
  instanceTypes := #[]
  staticTypes := #[(.object "java/util/function/BiFunction"), (.object "java/util/function/BiFunction"), (.object "java/util/function/BiFunction")]
  resolved := Array.replicate 194 none
  statics := some 2 }

def pool22 : Array CpInfo := pool [(9, u "<init>"), (6, .class_ 18), (1, u "java/lang/Object"), (0, u "()V"), (1, .class_ 23), (1, u "jdk/internal/util/ArraysSupport"), (0, u "LOG2_ARRAY_LONG_INDEX_SCALE"), (0, u "I"), (2, u "U"), (0, u "Ljdk/internal/misc/Unsafe;"), (8, u "BIG_ENDIAN"), (0, u "Z"), (8, u "LOG2_BYTE_BIT_SIZE"), (4, u "LOG2_ARRAY_INT_INDEX_SCALE"), (54, u "JLA"), (0, u "Ljdk/internal/access/JavaLangAccess;"), (11, u "LOG2_ARRAY_BOOLEAN_INDEX_SCALE"), (9, u "LOG2_ARRAY_BYTE_INDEX_SCALE"), (5, u "LOG2_ARRAY_CHAR_INDEX_SCALE"), (5, u "LOG2_ARRAY_SHORT_INDEX_SCALE"), (18, u "LOG2_ARRAY_FLOAT_INDEX_SCALE"), (24, u "LOG2_ARRAY_DOUBLE_INDEX_SCALE"), (89, u "T_BOOLEAN"), (2, u "T_CHAR"), (1, u "T_FLOAT"), (1, u "T_DOUBLE"), (1, u "T_BYTE"), (1, u "T_SHORT"), (1, u "T_INT"), (1, u "T_LONG"), (1, u "SOFT_MAX_ARRAY_LENGTH")] 83

def k22m0 : Method := { name := "<init>", desc := "()V", sig := { parameters := [], returnType := none }, accessFlags := 2, code := none }
/-- jdk/internal/util/ArraysSupport -/
def k22 : Class := { plain "jdk/internal/util/ArraysSupport" (some 0) with
  accessFlags := 33
  interfaces := #[]
  cf := some (fileOf pool22 21 #[] #[{ accessFlags := 2, nameIndex := 9, descriptorIndex := 19, attributes := #[] }] 33 16 #[] #[{ accessFlags := 24, nameIndex := 28, descriptorIndex := 29, attributes := #[] }, { accessFlags := 26, nameIndex := 38, descriptorIndex := 39, attributes := #[] }, { accessFlags := 25, nameIndex := 121, descriptorIndex := 25, attributes := #[] }, { accessFlags := 25, nameIndex := 131, descriptorIndex := 25, attributes := #[] }, { accessFlags := 25, nameIndex := 137, descriptorIndex := 25, attributes := #[] }, { accessFlags := 25, nameIndex := 143, descriptorIndex := 25, attributes := #[] }, { accessFlags := 25, nameIndex := 53, descriptorIndex := 25, attributes := #[] }, { accessFlags := 25, nameIndex := 24, descriptorIndex := 25, attributes := #[] }, { accessFlags := 25, nameIndex := 162, descriptorIndex := 25, attributes := #[] }, { accessFlags := 25, nameIndex := 187, descriptorIndex := 25, attributes := #[] }, { accessFlags := 26, nameIndex := 48, descriptorIndex := 25, attributes := #[] }, { accessFlags := 25, nameIndex := 277, descriptorIndex := 25, attributes := #[] }, { accessFlags := 25, nameIndex := 280, descriptorIndex := 25, attributes := #[] }, { accessFlags := 25, nameIndex := 282, descriptorIndex := 25, attributes := #[] }, { accessFlags := 25, nameIndex := 284, descriptorIndex := 25, attributes := #[] }, { accessFlags := 25, nameIndex := 286, descriptorIndex := 25, attributes := #[] }, { accessFlags := 25, nameIndex := 288, descriptorIndex := 25, attributes := #[] }, { accessFlags := 25, nameIndex := 290, descriptorIndex := 25, attributes := #[] }, { accessFlags := 25, nameIndex := 292, descriptorIndex := 25, attributes := #[] }, { accessFlags := 26, nameIndex := 108, descriptorIndex := 109, attributes := #[] }, { accessFlags := 25, nameIndex := 294, descriptorIndex := 25, attributes := #[] }])
  fields := #[{ name := "U", type := (.object "jdk/internal/misc/Unsafe"), accessFlags := 24, slot := 0, constantValue := 0 }, { name := "BIG_ENDIAN", type := .boolean, accessFlags := 26, slot := 1, constantValue := 0 }, { name := "LOG2_ARRAY_BOOLEAN_INDEX_SCALE", type := .int, accessFlags := 25, slot := 2, constantValue := 0 }, { name := "LOG2_ARRAY_BYTE_INDEX_SCALE", type := .int, accessFlags := 25, slot := 3, constantValue := 0 }, { name := "LOG2_ARRAY_CHAR_INDEX_SCALE", type := .int, accessFlags := 25, slot := 4, constantValue := 0 }, { name := "LOG2_ARRAY_SHORT_INDEX_SCALE", type := .int, accessFlags := 25, slot := 5, constantValue := 0 }, { name := "LOG2_ARRAY_INT_INDEX_SCALE", type := .int, accessFlags := 25, slot := 6, constantValue := 0 }, { name := "LOG2_ARRAY_LONG_INDEX_SCALE", type := .int, accessFlags := 25, slot := 7, constantValue := 0 }, { name := "LOG2_ARRAY_FLOAT_INDEX_SCALE", type := .int, accessFlags := 25, slot := 8, constantValue := 0 }, { name := "LOG2_ARRAY_DOUBLE_INDEX_SCALE", type := .int, accessFlags := 25, slot := 9, constantValue := 0 }, { name := "LOG2_BYTE_BIT_SIZE", type := .int, accessFlags := 26, slot := 10, constantValue := 0 }, { name := "T_BOOLEAN", type := .int, accessFlags := 25, slot := 11, constantValue := 0 }, { name := "T_CHAR", type := .int, accessFlags := 25, slot := 12, constantValue := 0 }, { name := "T_FLOAT", type := .int, accessFlags := 25, slot := 13, constantValue := 0 }, { name := "T_DOUBLE", type := .int, accessFlags := 25, slot := 14, constantValue := 0 }, { name := "T_BYTE", type := .int, accessFlags := 25, slot := 15, constantValue := 0 }, { name := "T_SHORT", type := .int, accessFlags := 25, slot := 16, constantValue := 0 }, { name := "T_INT", type := .int, accessFlags := 25, slot := 17, constantValue := 0 }, { name := "T_LONG", type := .int, accessFlags := 25, slot := 18, constantValue := 0 }, { name := "JLA", type := (.object "jdk/internal/access/JavaLangAccess"), accessFlags := 26, slot := 19, constantValue := 0 }, { name := "SOFT_MAX_ARRAY_LENGTH", type := .int, accessFlags := 25, slot := 20, constantValue := 0 }]
  methods := #[k22m0]
  instanceTypes := #[]
  staticTypes := #[(.object "jdk/internal/misc/Unsafe"), .boolean, .int, .int, .int, .int, .int, .int, .int, .int, .int, .int, .int, .int, .int, .int, .int, .int, .int, (.object "jdk/internal/access/JavaLangAccess"), .int]
  resolved := Array.replicate 378 none
  statics := none }

/-- the primitive byte -/
def k23 : Class := { plain "byte" none with kind := .primitive 'B', accessFlags := 0x411 }
/-- [B -/
def k24 : Class := { plain "[B" (some 0) with kind := .array 23 .byte, interfaces := #[16, 2], accessFlags := 1041 }

/-- the primitive int -/
def k25 : Class := { plain "int" none with kind := .primitive 'I', accessFlags := 0x411 }
/-- [I -/
def k26 : Class := { plain "[I" (some 0) with kind := .array 25 .int, interfaces := #[16, 2], accessFlags := 1041 }

/-- [Ljava/lang/Object; -/
def k27 : Class := { plain "[Ljava/lang/Object;" (some 0) with kind := .array 0 (.object "java/lang/Object"), interfaces := #[16, 2], accessFlags := 1041 }

def heap : Heap := #[{ cls := 7, slots := #[.long 0, .int 1, .null, .int 0, .null, .int 0, .int 0], vm := .statics 7 },
  { cls := 17, slots := #[.long 0, .int 0, .ref 3, .ref 4], vm := .statics 17 },
  { cls := 21, slots := #[.null, .null, .null], vm := .statics 21 },
  { cls := 27, slots := #[], vm := .none },
  { cls := 27, slots := #[], vm := .none }]
def classes : Array Class := #[k0, k1, k2, k3, k4, k5, k6, k7, k8, k9, k10, k11, k12, k13, k14, k15, k16, k17, k18, k19, k20, k21, k22, k23, k24, k25, k26, k27]
def interned : List (Array UInt16 × Addr) := []
def slotsUsed : Nat := 14
def theMethod : MethodId := ⟨1, 1⟩
def args0 : Array Value := #[.int 12345, .int 777, .int 9, .int 8, .int 65, .int 66]
def aboutOver (below : List Frame) : State where
  vm := { classes := classes, interned := interned.toArray }
  heap := heap
  slotsUsed := slotsUsed
  threads := #[{ frames := .invoking theMethod args0 :: below }]
def below0 : List Frame := [.native { method := ⟨0, 0⟩, args := #[] }]
def about1 : State := aboutOver below0
def p0 : Program := .bare "" "" ""
def e0 : Env := launch0.env 0 0 0
theorem w_frames : about1.frames = Frame.invoking theMethod args0 :: below0 := rfl
set_option maxRecDepth 65536 in
theorem w_args : argsFit about1.vm theMethod args0 = true := by decide +kernel
set_option maxRecDepth 65536 in
theorem w_heap : heapFits about1 = true := by decide +kernel
set_option maxRecDepth 65536 in
theorem w_runnable : about1.curStatus? = some .runnable := by decide +kernel
set_option maxRecDepth 65536 in
theorem w_alone : about1.alone = true := by decide +kernel
set_option maxRecDepth 65536 in
theorem w_named : about1.methodNamed? x = some theMethod := by decide +kernel
set_option maxRecDepth 65536 in
theorem w_hears : about1.hears theMethod below0 = true := by decide +kernel
set_option maxRecDepth 65536 in
theorem w_ripe : about1.ripe theMethod args0 below0 = true := by decide +kernel
theorem w_running : about1.status = .running := rfl
set_option maxRecDepth 65536 in
theorem w_room : about1.hasRoom e0.platform room_1 = true :=
  launch0.hasRoom_least _ room_1 (by decide +kernel) (by decide +kernel) (by decide +kernel) (by decide +kernel) (by decide +kernel) (by decide +kernel)
theorem allAtoms_all (ts : List Jvm.Cond) (a : Array Jvm.Value) (st : Jvm.State) : (allAtoms ts).before a st = ts.all (fun c => c.before a st) := by
  induction ts with
  | nil => rfl
  | cons c t ih =>
    show (Jvm.Cond.and c (allAtoms t)).before a st = _
    rw [Jvm.Cond.before_and, ih, List.all_cons]
def words1 : List Jvm.Cond := Jvm.Cond.code x code maxLocals ret :: tables_1
/-- a 'code' word, met by the world's own term for the bytes: nothing is compared byte by byte -/
theorem code_word {y : MethodName} {bytes : ByteArray} {mx : Nat} {rt : Option FieldType} {a : Array Value} {s : State} {m : MethodId} {meth : Method} {c : Code} (h1 : s.methodNamed? y = some m) (h2 : s.vm.method? m = some meth) (h3 : meth.code = some c) (h4 : c.code = bytes)
    (h5 : (c.maxLocals == mx && c.exceptionTable.isEmpty && decide (c.maxStack ≤ mostOperands) && decide (meth.sig.returnType = rt) && !meth.locks && decide (parseMethodDescriptor y.desc = some meth.sig)) = true) : (Jvm.Cond.code y bytes mx rt).before a s = true := by
  simp only [Bool.and_eq_true, beq_iff_eq, Bool.not_eq_true', decide_eq_true_eq] at h5
  obtain ⟨⟨⟨⟨⟨g1, g2⟩, g3⟩, g4⟩, g5⟩, g6⟩ := h5
  simp [Cond.before, Cond.holds, Cond.value, h1, h2, h3, h4, g1, g2, g3, g4, g5, g6]
def isCode : Jvm.Cond → Bool
  | .code _ _ _ _ => true
  | _ => false
theorem all_split {L : List Jvm.Cond} {P : Jvm.Cond → Bool} (h1 : L.all (fun c => isCode c || P c) = true) (h2 : ∀ c ∈ L.filter isCode, P c = true) : L.all P = true := by
  refine List.all_eq_true.mpr fun c hc => ?_
  have h := List.all_eq_true.mp h1 c hc
  rcases Bool.eq_false_or_eq_true (isCode c) with hi | hi
  · exact h2 c (List.mem_filter.mpr ⟨hc, hi⟩)
  · simpa [hi] using h
set_option maxRecDepth 65536 in
theorem w_c0 : (Jvm.Cond.code x code maxLocals ret).before args0 about1 = true := code_word (m := ⟨1, 1⟩) (meth := k1m1) (c := k1c1) (by decide +kernel) rfl rfl rfl (by decide +kernel)
set_option maxRecDepth 65536 in
theorem w_c1 : (Jvm.Cond.code ({ cls := "java/lang/String", name := "valueOf", desc := "(C)Ljava/lang/String;" } : Jvm.MethodName) jdk_42_method_139_code (1 : Nat) (Option.some (Jvm.ClassFile.FieldType.object "java/lang/String"))).before args0 about1 = true := code_word (m := ⟨7, 2⟩) (meth := k7m2) (c := k7c2) (by decide +kernel) rfl rfl rfl (by decide +kernel)
set_option maxRecDepth 65536 in
theorem w_c2 : (Jvm.Cond.code ({ cls := "java/lang/StringLatin1", name := "canEncode", desc := "(C)Z" } : Jvm.MethodName) jdk_43_method_3_code (1 : Nat) (Option.some Jvm.ClassFile.FieldType.boolean)).before args0 about1 = true := code_word (m := ⟨8, 1⟩) (meth := k8m1) (c := k8c1) (by decide +kernel) rfl rfl rfl (by decide +kernel)
set_option maxRecDepth 65536 in
theorem w_c3 : (Jvm.Cond.code ({ cls := "java/lang/StringLatin1", name := "toBytes", desc := "(C)[B" } : Jvm.MethodName) jdk_43_method_46_code (1 : Nat) (Option.some (Jvm.ClassFile.FieldType.array Jvm.ClassFile.FieldType.byte))).before args0 about1 = true := code_word (m := ⟨8, 2⟩) (meth := k8m2) (c := k8c2) (by decide +kernel) rfl rfl rfl (by decide +kernel)
set_option maxRecDepth 65536 in
theorem w_c4 : (Jvm.Cond.code ({ cls := "java/lang/String", name := "<init>", desc := "([BB)V" } : Jvm.MethodName) jdk_42_method_151_code (3 : Nat) (Option.none : Option Jvm.ClassFile.FieldType)).before args0 about1 = true := code_word (m := ⟨7, 3⟩) (meth := k7m3) (c := k7c3) (by decide +kernel) rfl rfl rfl (by decide +kernel)
set_option maxRecDepth 65536 in
theorem w_c5 : (Jvm.Cond.code ({ cls := "java/lang/Object", name := "<init>", desc := "()V" } : Jvm.MethodName) object_method_1_code (1 : Nat) (Option.none : Option Jvm.ClassFile.FieldType)).before args0 about1 = true := code_word (m := ⟨0, 0⟩) (meth := k0m0) (c := k0c0) (by decide +kernel) rfl rfl rfl (by decide +kernel)
set_option maxRecDepth 65536 in
theorem w_c6 : (Jvm.Cond.code ({ cls := "java/util/ArrayList", name := "<init>", desc := "()V" } : Jvm.MethodName) jdk_38_method_2_code (1 : Nat) (Option.none : Option Jvm.ClassFile.FieldType)).before args0 about1 = true := code_word (m := ⟨17, 0⟩) (meth := k17m0) (c := k17c0) (by decide +kernel) rfl rfl rfl (by decide +kernel)
set_option maxRecDepth 65536 in
theorem w_c7 : (Jvm.Cond.code ({ cls := "java/util/AbstractList", name := "<init>", desc := "()V" } : Jvm.MethodName) jdk_39_method_1_code (1 : Nat) (Option.none : Option Jvm.ClassFile.FieldType)).before args0 about1 = true := code_word (m := ⟨14, 0⟩) (meth := k14m0) (c := k14c0) (by decide +kernel) rfl rfl rfl (by decide +kernel)
set_option maxRecDepth 65536 in
theorem w_c8 : (Jvm.Cond.code ({ cls := "java/util/AbstractCollection", name := "<init>", desc := "()V" } : Jvm.MethodName) jdk_22_method_1_code (1 : Nat) (Option.none : Option Jvm.ClassFile.FieldType)).before args0 about1 = true := code_word (m := ⟨11, 0⟩) (meth := k11m0) (c := k11c0) (by decide +kernel) rfl rfl rfl (by decide +kernel)
set_option maxRecDepth 65536 in
theorem w_c9 : (Jvm.Cond.code ({ cls := "java/util/ArrayList", name := "add", desc := "(Ljava/lang/Object;)Z" } : Jvm.MethodName) jdk_38_method_25_code (2 : Nat) (Option.some Jvm.ClassFile.FieldType.boolean)).before args0 about1 = true := code_word (m := ⟨17, 7⟩) (meth := k17m7) (c := k17c7) (by decide +kernel) rfl rfl rfl (by decide +kernel)
set_option maxRecDepth 65536 in
theorem w_c10 : (Jvm.Cond.code ({ cls := "java/util/ArrayList", name := "add", desc := "(Ljava/lang/Object;[Ljava/lang/Object;I)V" } : Jvm.MethodName) jdk_38_method_24_code (4 : Nat) (Option.none : Option Jvm.ClassFile.FieldType)).before args0 about1 = true := code_word (m := ⟨17, 6⟩) (meth := k17m6) (c := k17c6) (by decide +kernel) rfl rfl rfl (by decide +kernel)
set_option maxRecDepth 65536 in
theorem w_c11 : (Jvm.Cond.code ({ cls := "java/util/ArrayList", name := "grow", desc := "()[Ljava/lang/Object;" } : Jvm.MethodName) jdk_38_method_7_code (1 : Nat) (Option.some (Jvm.ClassFile.FieldType.array (Jvm.ClassFile.FieldType.object "java/lang/Object")))).before args0 about1 = true := code_word (m := ⟨17, 2⟩) (meth := k17m2) (c := k17c2) (by decide +kernel) rfl rfl rfl (by decide +kernel)
set_option maxRecDepth 65536 in
theorem w_c12 : (Jvm.Cond.code ({ cls := "java/util/ArrayList", name := "grow", desc := "(I)[Ljava/lang/Object;" } : Jvm.MethodName) jdk_38_method_6_code (4 : Nat) (Option.some (Jvm.ClassFile.FieldType.array (Jvm.ClassFile.FieldType.object "java/lang/Object")))).before args0 about1 = true := code_word (m := ⟨17, 1⟩) (meth := k17m1) (c := k17c1) (by decide +kernel) rfl rfl rfl (by decide +kernel)
set_option maxRecDepth 65536 in
theorem w_c13 : (Jvm.Cond.code ({ cls := "java/lang/Math", name := "max", desc := "(II)I" } : Jvm.MethodName) jdk_29_method_65_code (2 : Nat) (Option.some Jvm.ClassFile.FieldType.int)).before args0 about1 = true := code_word (m := ⟨18, 1⟩) (meth := k18m1) (c := k18c1) (by decide +kernel) rfl rfl rfl (by decide +kernel)
set_option maxRecDepth 65536 in
theorem w_c14 : (Jvm.Cond.code ({ cls := "com/example/record_scrubber/recordscrubber/anonymize/GeneralisationLabelsPinLaw", name := "part", desc := "(I)I" } : Jvm.MethodName) method_3_code (2 : Nat) (Option.some Jvm.ClassFile.FieldType.int)).before args0 about1 = true := code_word (m := ⟨1, 2⟩) (meth := k1m2) (c := k1c2) (by decide +kernel) rfl rfl rfl (by decide +kernel)
set_option maxRecDepth 65536 in
theorem w_c15 : (Jvm.Cond.code ({ cls := "com/example/record_scrubber/recordscrubber/anonymize/Generalisation", name := "<init>", desc := "([ILjava/util/List;Lcom/example/record_scrubber/recordscrubber/anonymize/FullDomainNode;)V" } : Jvm.MethodName) prog_8_method_1_code (4 : Nat) (Option.none : Option Jvm.ClassFile.FieldType)).before args0 about1 = true := code_word (m := ⟨19, 0⟩) (meth := k19m0) (c := k19c0) (by decide +kernel) rfl rfl rfl (by decide +kernel)
set_option maxRecDepth 65536 in
theorem w_c16 : (Jvm.Cond.code ({ cls := "com/example/record_scrubber/recordscrubber/anonymize/Generalisation", name := "labels", desc := "(I)Ljava/util/List;" } : Jvm.MethodName) prog_8_method_7_code (2 : Nat) (Option.some (Jvm.ClassFile.FieldType.object "java/util/List"))).before args0 about1 = true := code_word (m := ⟨19, 1⟩) (meth := k19m1) (c := k19c1) (by decide +kernel) rfl rfl rfl (by decide +kernel)
set_option maxRecDepth 65536 in
theorem w_c17 : (Jvm.Cond.code ({ cls := "java/util/ArrayList", name := "get", desc := "(I)Ljava/lang/Object;" } : Jvm.MethodName) jdk_38_method_20_code (2 : Nat) (Option.some (Jvm.ClassFile.FieldType.object "java/lang/Object"))).before args0 about1 = true := code_word (m := ⟨17, 5⟩) (meth := k17m5) (c := k17c5) (by decide +kernel) rfl rfl rfl (by decide +kernel)
set_option maxRecDepth 65536 in
theorem w_c18 : (Jvm.Cond.code ({ cls := "java/util/Objects", name := "checkIndex", desc := "(II)I" } : Jvm.MethodName) jdk_31_method_17_code (2 : Nat) (Option.some Jvm.ClassFile.FieldType.int)).before args0 about1 = true := code_word (m := ⟨20, 1⟩) (meth := k20m1) (c := k20c1) (by decide +kernel) rfl rfl rfl (by decide +kernel)
set_option maxRecDepth 65536 in
theorem w_c19 : (Jvm.Cond.code ({ cls := "jdk/internal/util/Preconditions", name := "checkIndex", desc := "(IILjava/util/function/BiFunction;)I" } : Jvm.MethodName) jdk_41_method_11_code (3 : Nat) (Option.some Jvm.ClassFile.FieldType.int)).before args0 about1 = true := code_word (m := ⟨21, 1⟩) (meth := k21m1) (c := k21c1) (by decide +kernel) rfl rfl rfl (by decide +kernel)
set_option maxRecDepth 65536 in
theorem w_c20 : (Jvm.Cond.code ({ cls := "java/util/ArrayList", name := "elementData", desc := "(I)Ljava/lang/Object;" } : Jvm.MethodName) jdk_38_method_18_code (2 : Nat) (Option.some (Jvm.ClassFile.FieldType.object "java/lang/Object"))).before args0 about1 = true := code_word (m := ⟨17, 4⟩) (meth := k17m4) (c := k17c4) (by decide +kernel) rfl rfl rfl (by decide +kernel)
set_option maxRecDepth 65536 in
theorem w_c21 : (Jvm.Cond.code ({ cls := "java/util/ArrayList", name := "size", desc := "()I" } : Jvm.MethodName) jdk_38_method_8_code (1 : Nat) (Option.some Jvm.ClassFile.FieldType.int)).before args0 about1 = true := code_word (m := ⟨17, 3⟩) (meth := k17m3) (c := k17c3) (by decide +kernel) rfl rfl rfl (by decide +kernel)
set_option maxRecDepth 65536 in
theorem w_c22 : (Jvm.Cond.code ({ cls := "java/lang/String", name := "equals", desc := "(Ljava/lang/Object;)Z" } : Jvm.MethodName) jdk_42_method_66_code (3 : Nat) (Option.some Jvm.ClassFile.FieldType.boolean)).before args0 about1 = true := code_word (m := ⟨7, 1⟩) (meth := k7m1) (c := k7c1) (by decide +kernel) rfl rfl rfl (by decide +kernel)
def codes1 : List Jvm.Cond := [Jvm.Cond.code x code maxLocals ret, Jvm.Cond.code ({ cls := "java/lang/String", name := "valueOf", desc := "(C)Ljava/lang/String;" } : Jvm.MethodName) jdk_42_method_139_code (1 : Nat) (Option.some (Jvm.ClassFile.FieldType.object "java/lang/String")), Jvm.Cond.code ({ cls := "java/lang/StringLatin1", name := "canEncode", desc := "(C)Z" } : Jvm.MethodName) jdk_43_method_3_code (1 : Nat) (Option.some Jvm.ClassFile.FieldType.boolean), Jvm.Cond.code ({ cls := "java/lang/StringLatin1", name := "toBytes", desc := "(C)[B" } : Jvm.MethodName) jdk_43_method_46_code (1 : Nat) (Option.some (Jvm.ClassFile.FieldType.array Jvm.ClassFile.FieldType.byte)), Jvm.Cond.code ({ cls := "java/lang/String", name := "<init>", desc := "([BB)V" } : Jvm.MethodName) jdk_42_method_151_code (3 : Nat) (Option.none : Option Jvm.ClassFile.FieldType), Jvm.Cond.code ({ cls := "java/lang/Object", name := "<init>", desc := "()V" } : Jvm.MethodName) object_method_1_code (1 : Nat) (Option.none : Option Jvm.ClassFile.FieldType), Jvm.Cond.code ({ cls := "java/util/ArrayList", name := "<init>", desc := "()V" } : Jvm.MethodName) jdk_38_method_2_code (1 : Nat) (Option.none : Option Jvm.ClassFile.FieldType), Jvm.Cond.code ({ cls := "java/util/AbstractList", name := "<init>", desc := "()V" } : Jvm.MethodName) jdk_39_method_1_code (1 : Nat) (Option.none : Option Jvm.ClassFile.FieldType), Jvm.Cond.code ({ cls := "java/util/AbstractCollection", name := "<init>", desc := "()V" } : Jvm.MethodName) jdk_22_method_1_code (1 : Nat) (Option.none : Option Jvm.ClassFile.FieldType), Jvm.Cond.code ({ cls := "java/util/ArrayList", name := "add", desc := "(Ljava/lang/Object;)Z" } : Jvm.MethodName) jdk_38_method_25_code (2 : Nat) (Option.some Jvm.ClassFile.FieldType.boolean), Jvm.Cond.code ({ cls := "java/util/ArrayList", name := "add", desc := "(Ljava/lang/Object;[Ljava/lang/Object;I)V" } : Jvm.MethodName) jdk_38_method_24_code (4 : Nat) (Option.none : Option Jvm.ClassFile.FieldType), Jvm.Cond.code ({ cls := "java/util/ArrayList", name := "grow", desc := "()[Ljava/lang/Object;" } : Jvm.MethodName) jdk_38_method_7_code (1 : Nat) (Option.some (Jvm.ClassFile.FieldType.array (Jvm.ClassFile.FieldType.object "java/lang/Object"))), Jvm.Cond.code ({ cls := "java/util/ArrayList", name := "grow", desc := "(I)[Ljava/lang/Object;" } : Jvm.MethodName) jdk_38_method_6_code (4 : Nat) (Option.some (Jvm.ClassFile.FieldType.array (Jvm.ClassFile.FieldType.object "java/lang/Object"))), Jvm.Cond.code ({ cls := "java/lang/Math", name := "max", desc := "(II)I" } : Jvm.MethodName) jdk_29_method_65_code (2 : Nat) (Option.some Jvm.ClassFile.FieldType.int), Jvm.Cond.code ({ cls := "com/example/record_scrubber/recordscrubber/anonymize/GeneralisationLabelsPinLaw", name := "part", desc := "(I)I" } : Jvm.MethodName) method_3_code (2 : Nat) (Option.some Jvm.ClassFile.FieldType.int), Jvm.Cond.code ({ cls := "com/example/record_scrubber/recordscrubber/anonymize/Generalisation", name := "<init>", desc := "([ILjava/util/List;Lcom/example/record_scrubber/recordscrubber/anonymize/FullDomainNode;)V" } : Jvm.MethodName) prog_8_method_1_code (4 : Nat) (Option.none : Option Jvm.ClassFile.FieldType), Jvm.Cond.code ({ cls := "com/example/record_scrubber/recordscrubber/anonymize/Generalisation", name := "labels", desc := "(I)Ljava/util/List;" } : Jvm.MethodName) prog_8_method_7_code (2 : Nat) (Option.some (Jvm.ClassFile.FieldType.object "java/util/List")), Jvm.Cond.code ({ cls := "java/util/ArrayList", name := "get", desc := "(I)Ljava/lang/Object;" } : Jvm.MethodName) jdk_38_method_20_code (2 : Nat) (Option.some (Jvm.ClassFile.FieldType.object "java/lang/Object")), Jvm.Cond.code ({ cls := "java/util/Objects", name := "checkIndex", desc := "(II)I" } : Jvm.MethodName) jdk_31_method_17_code (2 : Nat) (Option.some Jvm.ClassFile.FieldType.int), Jvm.Cond.code ({ cls := "jdk/internal/util/Preconditions", name := "checkIndex", desc := "(IILjava/util/function/BiFunction;)I" } : Jvm.MethodName) jdk_41_method_11_code (3 : Nat) (Option.some Jvm.ClassFile.FieldType.int), Jvm.Cond.code ({ cls := "java/util/ArrayList", name := "elementData", desc := "(I)Ljava/lang/Object;" } : Jvm.MethodName) jdk_38_method_18_code (2 : Nat) (Option.some (Jvm.ClassFile.FieldType.object "java/lang/Object")), Jvm.Cond.code ({ cls := "java/util/ArrayList", name := "size", desc := "()I" } : Jvm.MethodName) jdk_38_method_8_code (1 : Nat) (Option.some Jvm.ClassFile.FieldType.int), Jvm.Cond.code ({ cls := "java/lang/String", name := "equals", desc := "(Ljava/lang/Object;)Z" } : Jvm.MethodName) jdk_42_method_66_code (3 : Nat) (Option.some Jvm.ClassFile.FieldType.boolean)]
set_option maxRecDepth 65536 in
theorem codes_eq : words1.filter isCode = codes1 := rfl
theorem w_codes : ∀ c ∈ words1.filter isCode, c.before args0 about1 = true := by
  rw [codes_eq]
  intro c hc
  simp only [codes1, List.mem_cons, List.not_mem_nil, or_false] at hc
  rcases hc with rfl | rfl | rfl | rfl | rfl | rfl | rfl | rfl | rfl | rfl | rfl | rfl | rfl | rfl | rfl | rfl | rfl | rfl | rfl | rfl | rfl | rfl | rfl
  · exact w_c0
  · exact w_c1
  · exact w_c2
  · exact w_c3
  · exact w_c4
  · exact w_c5
  · exact w_c6
  · exact w_c7
  · exact w_c8
  · exact w_c9
  · exact w_c10
  · exact w_c11
  · exact w_c12
  · exact w_c13
  · exact w_c14
  · exact w_c15
  · exact w_c16
  · exact w_c17
  · exact w_c18
  · exact w_c19
  · exact w_c20
  · exact w_c21
  · exact w_c22
set_option maxRecDepth 65536 in
theorem w_t1 : (words1.take 24).all (fun c => isCode c || c.before args0 about1) = true := by decide +kernel
set_option maxRecDepth 65536 in
theorem w_t2 : ((words1.drop 24).take 24).all (fun c => isCode c || c.before args0 about1) = true := by decide +kernel
set_option maxRecDepth 65536 in
theorem w_t3 : (((words1.drop 24).drop 24).take 24).all (fun c => isCode c || c.before args0 about1) = true := by decide +kernel
set_option maxRecDepth 65536 in
theorem w_t4 : ((((words1.drop 24).drop 24).drop 24).take 24).all (fun c => isCode c || c.before args0 about1) = true := by decide +kernel
set_option maxRecDepth 65536 in
theorem w_t5 : (((((words1.drop 24).drop 24).drop 24).drop 24).take 24).all (fun c => isCode c || c.before args0 about1) = true := by decide +kernel
set_option maxRecDepth 65536 in
theorem w_t6 : ((((((words1.drop 24).drop 24).drop 24).drop 24).drop 24).take 24).all (fun c => isCode c || c.before args0 about1) = true := by decide +kernel
set_option maxRecDepth 65536 in
theorem w_t7 : ((((((words1.drop 24).drop 24).drop 24).drop 24).drop 24).drop 24).all (fun c => isCode c || c.before args0 about1) = true := by decide +kernel
theorem w_tables : (allAtoms (Jvm.Cond.code x code maxLocals ret :: tables_1)).before args0 about1 = true := by
  rw [allAtoms_all]
  show words1.all (fun c => c.before args0 about1) = true
  refine all_split ?_ w_codes
  rw [← List.take_append_drop 24 words1, List.all_append, w_t1, ← List.take_append_drop 24 (words1.drop 24), List.all_append, w_t2, ← List.take_append_drop 24 ((words1.drop 24).drop 24), List.all_append, w_t3, ← List.take_append_drop 24 (((words1.drop 24).drop 24).drop 24), List.all_append, w_t4, ← List.take_append_drop 24 ((((words1.drop 24).drop 24).drop 24).drop 24), List.all_append, w_t5, ← List.take_append_drop 24 (((((words1.drop 24).drop 24).drop 24).drop 24).drop 24), List.all_append, w_t6, w_t7]
  rfl
set_option maxRecDepth 65536 in
theorem w_rest : rest_1_c.before args0 about1 = true := by decide +kernel
set_option maxRecDepth 65536 in
theorem w_case : (Jvm.Cond.and given_1 narrow_1).before args0 about1 = true := by decide +kernel
theorem w_applies : (headSpec (Jvm.Cond.code x code maxLocals ret :: tables_1) room_1).applies x e0.platform about1 = true :=
  (Spec.applies_iff w_frames).mpr ⟨w_running, w_runnable, w_alone, w_named, w_hears, w_ripe, w_room, w_tables⟩
theorem atStart : AtStart classFile x code maxLocals ret World_1 tables_1 room_1 Calls_1 rest_1 Pre_1 launch0 p0 e0 about1 theMethod args0 below0 :=
  ⟨lists_1, trivial, launch0.admits_env _ _ _, launch0.least_env, fairChoices_fair.cas, fairChoices_fair.clock, w_frames, w_args, w_heap, w_applies, trivial, w_rest, w_case⟩
end start1
theorem witness_1 : WitnessClaimed_1 := ⟨start1.p0, start1.e0, start1.about1, start1.theMethod, start1.args0, start1.below0, start1.atStart⟩
end Jvm.Pilot.@@N@@
