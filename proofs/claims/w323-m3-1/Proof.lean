import JvmDerived
import JvmDerived.Pilot.@@N@@Statement
import JvmDerived.Pilot.@@N@@Code
set_option linter.unusedVariables false
set_option linter.unusedSimpArgs false
namespace Jvm.RoadKit
open Sem ClassFile Op Lib Jvm.Stand Jvm.Free Jvm.LawKit
section OwnKit
variable {p : Program} {l : Launch} {e : Env} {R : Room} {s : State} {m : MethodId} {args : Array Value} {below : List Frame} {meth : Method} {c : Code} {T : State} {locs : List Loc} {cells slots : Nat}
theorem retI (X : Stand p l e R s m args below meth c T locs cells slots) (hx : p.tables.exec = Jvm.exec) {pc : Nat} {Ls : Array Slot} {z : Int32} {rest : List Value} (hret : meth.sig.returnType = some .int) (hd : decode c.code pc = .ok (.ireturn, 1)) {fs : List Frame}
    (hl : ∀ (f : JFrame) (acts : List Action), f.method = m → f.locked = none → f.entered = [] → (doReturn e (T.setTop f) acts (some (.int z))).1 = T.setFrames fs) : Steps p.tables e below (T.setTop (mkF m pc Ls (.int z :: rest))) (T.setFrames fs) := by
  have hm' : T.vm.method? m = some meth := X.method'
  have hn : narrow .int (.int z) = .int z := rfl
  show Steps p.tables e below (T.setTop { method := m, pc := pc, locals := Ls, stack := _ :: rest, locked := none }) _
  jvm_step X.here [X.here.top, hx, hd, hm', hret, hn]
  first | (intro acts; rw [hl _ acts rfl rfl rfl]) | rw [hl _ _ rfl rfl rfl]
  exact Steps.refl _
/-- from this state and frame the run comes to an end that P says -/
def own_Go (tb : Tables) (e : Env) (below : List Frame) (P : State → Outcome → Prop) (T : State) (g : JFrame) : Prop := ∃ s₂ o, Steps tb e below (T.setTop g) s₂ ∧ P s₂ o
theorem own_go {tb : Tables} {P : State → Outcome → Prop} {T' : State} {g g' : JFrame} (st : ∀ t, Steps tb e below (T'.setTop g') t → Steps tb e below (T.setTop g) t) (k : own_Go tb e below P T' g') : own_Go tb e below P T g := by
  obtain ⟨s, o, h, q⟩ := k
  exact ⟨s, o, st s h, q⟩
/-- how a body ends: what it returned, its heap and the places that it wrote stand in Q -/
def own_P (below : List Frame) (s : State) (Q : Option Value → Heap → List Loc → Prop) (k n : Nat) (s₂ : State) (o : Outcome) : Prop := s₂.status = .running ∧ Ended s₂ below o ∧ ∃ v L, o = .returned v ∧ Q v s₂.heap L ∧ FrameEnd s o s₂ L k n
theorem own_leave (X : Stand p l e R s m args below meth c T locs cells slots) {Q : Option Value → Heap → List Loc → Prop} {k n : Nat} {v : Option Value} {g : JFrame} (hlk : meth.locks = false) (hv : meth.sig.returnType = none → v = none) (hq : Q v T.heap locs) (hk : cells ≤ k) (hn : slots ≤ n)
    (hst : ∀ fs, (∀ (f : JFrame) (acts : List Action), f.method = m → f.locked = none → f.entered = [] → (doReturn e (T.setTop f) acts v).1 = T.setFrames fs) → Steps p.tables e below (T.setTop g) (T.setFrames fs)) : own_Go p.tables e below (own_P below s Q k n) T g := by
  obtain ⟨fs, hr, hrun, hended, hW, hsame⟩ := X.leave (v := v) hv hlk
  exact ⟨_, _, hst fs hr, hrun, hended, _, _, rfl, hq, ⟨_, rfl⟩, hW, hsame.mono hk hn⟩
section Rets
variable {Q : Option Value → Heap → List Loc → Prop} {k n : Nat} {pc : Nat} {Ls : Array Slot} {rest : List Value}
theorem own_retI (X : Stand p l e R s m args below meth c T locs cells slots) (hx : p.tables.exec = Jvm.exec) {z : Int32} (hret : meth.sig.returnType = some .int) (hlk : meth.locks = false) (hd : decode c.code pc = .ok (.ireturn, 1)) (hk : cells ≤ k) (hn : slots ≤ n) (hq : Q (some (.int z)) T.heap locs) : own_Go p.tables e below (own_P below s Q k n) T (mkF m pc Ls (.int z :: rest)) :=
  own_leave X hlk (fun h => by rw [hret] at h; cases h) hq hk hn (fun fs hr => retI X hx hret hd hr)
theorem own_retN (X : Stand p l e R s m args below meth c T locs cells slots) (hx : p.tables.exec = Jvm.exec) {z : Int32} {t : FieldType} (hret : meth.sig.returnType = some t) (ht : t = .boolean ∨ t = .byte ∨ t = .char ∨ t = .short) (hlk : meth.locks = false) (hd : decode c.code pc = .ok (.ireturn, 1)) (hk : cells ≤ k) (hn : slots ≤ n) (hq : Q (some (.int (nar t z))) T.heap locs) : own_Go p.tables e below (own_P below s Q k n) T (mkF m pc Ls (.int z :: rest)) :=
  own_leave X hlk (fun h => by rw [hret] at h; cases h) hq hk hn (fun fs hr => retN X hx hret ht hd hr)
theorem own_retJ (X : Stand p l e R s m args below meth c T locs cells slots) (hx : p.tables.exec = Jvm.exec) {z : Int64} (hret : meth.sig.returnType = some .long) (hlk : meth.locks = false) (hd : decode c.code pc = .ok (.lreturn, 1)) (hk : cells ≤ k) (hn : slots ≤ n) (hq : Q (some (.long z)) T.heap locs) : own_Go p.tables e below (own_P below s Q k n) T (mkF m pc Ls (.long z :: rest)) :=
  own_leave X hlk (fun h => by rw [hret] at h; cases h) hq hk hn (fun fs hr => retOut X hx hret rfl (Or.inr (Or.inl ⟨rfl, rfl, z, rfl⟩)) hd hr)
theorem own_narR {t : FieldType} {v : Value} (ht : t.isReference = true) : narrow t v = v := by
  cases t <;> simp [FieldType.isReference] at ht <;> rfl
theorem own_retR (X : Stand p l e R s m args below meth c T locs cells slots) (hx : p.tables.exec = Jvm.exec) {z : Value} {t : FieldType} (hret : meth.sig.returnType = some t) (ht : t.isReference = true) (hz : z.isRef = true) (hlk : meth.locks = false) (hd : decode c.code pc = .ok (.areturn, 1)) (hk : cells ≤ k) (hn : slots ≤ n) (hq : Q (some z) T.heap locs) : own_Go p.tables e below (own_P below s Q k n) T (mkF m pc Ls (z :: rest)) :=
  own_leave X hlk (fun h => by rw [hret] at h; cases h) hq hk hn (fun fs hr => retOut X hx hret (own_narR ht) (Or.inr (Or.inr (Or.inr (Or.inr ⟨rfl, ht, hz⟩)))) hd hr)
theorem own_retV (X : Stand p l e R s m args below meth c T locs cells slots) (hx : p.tables.exec = Jvm.exec) (hret : meth.sig.returnType = none) (hlk : meth.locks = false) (hd : decode c.code pc = .ok (.return_, 1)) (hk : cells ≤ k) (hn : slots ≤ n) (hq : Q none T.heap locs) : own_Go p.tables e below (own_P below s Q k n) T (mkF m pc Ls []) :=
  own_leave X hlk (fun _ => rfl) hq hk hn (fun fs hr => X.returnOut hx hret hd hr)
end Rets
/-- a body's contract at one call: its arguments, the heap at the call, what it leaves -/
abbrev own_Met (l : Launch) (y : MethodName) (bytes : ByteArray) (maxL : Nat) (ret : Option FieldType) (ws : List Cond) (rm : Room) (Z : State) (as' : Array Value) (h0 : Heap) (Q : Option Value → Heap → List Loc → Prop) : Prop :=
  MetFree l y (head1 (Cond.code y bytes maxL ret :: ws) rm) (fun a U => a = as' ∧ Z.Warmed39 U.vm ∧ U.heap = h0) (fun _ _ _ _ _ => True) (fun _ U o U' => ∃ v L, o = .returned v ∧ Q v U'.heap L ∧ FrameEnd U o U' L rm.cells rm.slots)
theorem own_body {y : MethodName} {bytes : ByteArray} {maxL : Nat} {ret : Option FieldType} {ws : List Cond} {rm : Room} {Z : State} {as' : Array Value} {h0 : Heap} {Q : Option Value → Heap → List Loc → Prop} (hpl : plainFor y = true)
    (H : ∀ (p : Program) (e : Env) (s : State) (m : MethodId) (below : List Frame) (meth : Method) (c : Code) (s₁ : State), Stand p l e rm s m as' below meth c s₁ [] 0 0 → p.tables.exec = Jvm.exec → c.code = bytes → c.maxLocals = maxL → s.vm.findClass y.cls = some m.cls → meth.name = y.name → meth.sig.returnType = ret → meth.locks = false → Z.Warmed39 s.vm → s₁.heap = h0 → own_Go p.tables e below (own_P below s Q rm.cells rm.slots) s₁ (entryFrame m as' maxL)) :
    own_Met l y bytes maxL ret ws rm Z as' h0 Q := by
  refine MetFree.of_bodySF hpl hisR ?_
  intro p e s m args below meth c s₁ Bd hml hP hK
  obtain ⟨rfl, hZ, hh⟩ := hP
  exact H p e s m below meth c s₁ (Stand.of_body Bd) Bd.exec Bd.bytes hml (findClass_of_methodNamed Bd.named) (name_of_methodNamed Bd.named Bd.method).1 Bd.returns Bd.notSynchronized hZ (by rw [← hh, Bd.state]; rfl)
theorem own_cast {tb : Tables} {P : State → Outcome → Prop} {g g' : JFrame} (q : g = g') (k : own_Go tb e below P T g') : own_Go tb e below P T g := q ▸ k
section Calls
variable {Z : State} {a0 : Array Value} {h : Heap} {own : String} {index : Nat} {y : MethodName} {bytes : ByteArray} {maxL : Nat} {ret : Option FieldType} {rm : Room} {Q : Option Value → Heap → List Loc → Prop}
theorem own_callS (X : Stand p l e R s m args below meth c T locs cells slots) (hx : p.tables.exec = Jvm.exec) (hZ : Z.Warmed39 s.vm) (hown : s.vm.findClass own = some m.cls) (w1 : (Cond.methodLink own index y).before a0 Z = true) (w2 : (Cond.static y).before a0 Z = true) (w3 : (Cond.initialized y.cls).before a0 Z = true) (w4 : (Cond.code y bytes maxL ret).before a0 Z = true)
    (hy : y.cls ≠ "java/lang/invoke/MethodHandle" ∧ y.cls ≠ "java/lang/invoke/VarHandle") (eT : T.heap = h) {argsL rest : List Value} (hM : own_Met l y bytes maxL ret [] rm Z argsL.toArray h Q) (W : Nat) (hf : rm.frames + 1 ≤ R.frames) (hl : W + (maxL + 11) + rm.locals ≤ R.locals) (hc : cells + rm.cells ≤ R.cells) (hs : slots + rm.slots ≤ R.slots)
    {g : JFrame} (hg : g.method = m) (hsize : g.locals.size = c.maxLocals) (hlen : ∀ sig, parseMethodDescriptor y.desc = some sig → argsL.length = sig.parameters.length) (hstack : g.stack = argsL.reverse ++ rest) (hW : 2 * g.monitorRoom + (rest.map fun v => v.category).sum ≤ W) (hdg : decode c.code g.pc = .ok (.invokestatic index, 3)) :
    ∃ (v : Option Value) (T' : State) (h' : Heap) (L : List Loc), Stand p l e R s m args below meth c T' (locs ++ L) (cells + rm.cells) (slots + rm.slots) ∧ T'.heap = h' ∧ Q v h' L ∧ ∀ t, Steps p.tables e below (T'.setTop { g with pc := g.pc + 3, stack := v.toList ++ rest }) t → Steps p.tables e below (T.setTop g) t := by
  obtain ⟨v, _, ⟨T', L', k', n'⟩, -, X', ⟨Lc, hQ, l', y', z'⟩, st⟩ := Jvm.LawKit.callS X hx hown (mvT hZ w1) (mvT hZ w2) (mvT hZ w3) (mvT hZ w4) hy (backOf (W := W) hM hZ w4 w3 hf hl) hg hsize hlen hstack hW hdg (fun _ _ => ⟨rfl, eT, hc, hs⟩)
  dsimp only [Pt.U, Pt.locs, Pt.cells, Pt.slots] at X' l' y' z' st hQ
  subst l' y' z'
  exact ⟨v, T', _, Lc, X', rfl, hQ, st⟩
theorem own_callI (X : Stand p l e R s m args below meth c T locs cells slots) (hx : p.tables.exec = Jvm.exec) (hZ : Z.Warmed39 s.vm) (hn : y.name = "<init>") (hown : s.vm.findClass own = some m.cls) (w1 : (Cond.methodLink own index y).before a0 Z = true) (w2 : (Cond.instanceMethod y).before a0 Z = true) (w3 : (Cond.initialized y.cls).before a0 Z = true) (w4 : (Cond.code y bytes maxL none).before a0 Z = true)
    (hy : y.cls ≠ "java/lang/invoke/MethodHandle" ∧ y.cls ≠ "java/lang/invoke/VarHandle") (eT : T.heap = h) {a : Addr} {argsL rest : List Value} (hM : own_Met l y bytes maxL none [] rm Z (.ref a :: argsL).toArray h Q) (W : Nat) (hf : rm.frames + 1 ≤ R.frames) (hl : W + (maxL + 11) + rm.locals ≤ R.locals) (hc : cells + rm.cells ≤ R.cells) (hs : slots + rm.slots ≤ R.slots)
    {g : JFrame} (hg : g.method = m) (hsize : g.locals.size = c.maxLocals) (hlen : ∀ sig, parseMethodDescriptor y.desc = some sig → argsL.length = sig.parameters.length) (hstack : g.stack = argsL.reverse ++ .ref a :: rest) (hW : 2 * g.monitorRoom + (rest.map fun v => v.category).sum ≤ W) (hdg : decode c.code g.pc = .ok (.invokespecial index, 3)) :
    ∃ (v : Option Value) (T' : State) (h' : Heap) (L : List Loc), Stand p l e R s m args below meth c T' (locs ++ L) (cells + rm.cells) (slots + rm.slots) ∧ T'.heap = h' ∧ Q v h' L ∧ ∀ t, Steps p.tables e below (T'.setTop { g with pc := g.pc + 3, stack := v.toList ++ rest }) t → Steps p.tables e below (T.setTop g) t := by
  obtain ⟨v, _, ⟨T', L', k', n'⟩, -, X', ⟨Lc, hQ, l', y', z'⟩, st⟩ := X.specialBack hx hn hown (mvT hZ w1) (mvT hZ w2) (mvT hZ w4) hy (backOf (W := W) hM hZ w4 w3 hf hl) hg hsize (Steps.refl _) hlen hstack hW hdg (fun _ _ => ⟨rfl, eT, hc, hs⟩)
  dsimp only [Pt.U, Pt.locs, Pt.cells, Pt.slots] at X' l' y' z' st hQ
  subst l' y' z'
  exact ⟨v, T', _, Lc, X', rfl, hQ, fun t k => st.trans k⟩
theorem own_callV {C : String} {z : MethodName} (X : Stand p l e R s m args below meth c T locs cells slots) (hx : p.tables.exec = Jvm.exec) (hZ : Z.Warmed39 s.vm) (hown : s.vm.findClass own = some m.cls) (w1 : (Cond.methodLink own index y).before a0 Z = true) (w2 : (Cond.declares y).before a0 Z = true) (w3 : (Cond.selects C y z).before a0 Z = true) (hnf : NotFace s y) (w5 : (Cond.instanceMethod z).before a0 Z = true) (w6 : (Cond.initialized z.cls).before a0 Z = true) (w4 : (Cond.code z bytes maxL ret).before a0 Z = true)
    (hy : y.cls ≠ "java/lang/invoke/MethodHandle" ∧ y.cls ≠ "java/lang/invoke/VarHandle") (eT : T.heap = h) {a : Addr} (E : Exa Z h a C) {argsL rest : List Value} (hM : own_Met l z bytes maxL ret [] rm Z (.ref a :: argsL).toArray h Q) (W : Nat) (hf : rm.frames + 1 ≤ R.frames) (hl : W + (maxL + 11) + rm.locals ≤ R.locals) (hc : cells + rm.cells ≤ R.cells) (hs : slots + rm.slots ≤ R.slots)
    {g : JFrame} (hg : g.method = m) (hsize : g.locals.size = c.maxLocals) (hlen : ∀ sig, parseMethodDescriptor y.desc = some sig → argsL.length = sig.parameters.length) (hstack : g.stack = argsL.reverse ++ .ref a :: rest) (hW : 2 * g.monitorRoom + (rest.map fun v => v.category).sum ≤ W) (hdg : decode c.code g.pc = .ok (.invokevirtual index, 3)) :
    ∃ (v : Option Value) (T' : State) (h' : Heap) (L : List Loc), Stand p l e R s m args below meth c T' (locs ++ L) (cells + rm.cells) (slots + rm.slots) ∧ T'.heap = h' ∧ Q v h' L ∧ ∀ t, Steps p.tables e below (T'.setTop { g with pc := g.pc + 3, stack := v.toList ++ rest }) t → Steps p.tables e below (T.setTop g) t := by
  obtain ⟨cq, kq, qa, qb, qc⟩ := isOf hZ eT E
  obtain ⟨v, _, ⟨T', L', k', n'⟩, -, X', ⟨Lc, hQ, l', y', z'⟩, st⟩ := X.virtualBack hx hown (mvT hZ w1) (mvT hZ w2) hnf (mvT hZ w3) (mvT hZ w5) hy (backOf (W := W) hM hZ w4 w6 hf hl) qa qc hg hsize (Steps.refl _) hlen hstack hW hdg (fun _ _ => ⟨rfl, eT, hc, hs⟩)
  dsimp only [Pt.U, Pt.locs, Pt.cells, Pt.slots] at X' l' y' z' st hQ
  subst l' y' z'
  exact ⟨v, T', _, Lc, X', rfl, hQ, fun t k => st.trans k⟩
theorem own_callP (X : Stand p l e R s m args below meth c T locs cells slots) (hx : p.tables.exec = Jvm.exec) (hZ : Z.Warmed39 s.vm) (hown : s.vm.findClass own = some m.cls) (w1 : (Cond.methodLink own index y).before a0 Z = true) (w2 : (Cond.instanceMethod y).before a0 Z = true) (w3 : (Cond.selects y.cls y y).before a0 Z = true) (w5 : (Cond.privateMethod y).before a0 Z = true) (w6 : (Cond.initialized y.cls).before a0 Z = true) (w4 : (Cond.code y bytes maxL ret).before a0 Z = true)
    (hy : y.cls ≠ "java/lang/invoke/MethodHandle" ∧ y.cls ≠ "java/lang/invoke/VarHandle") (eT : T.heap = h) {a : Addr} {C : String} (E : Exa Z h a C) {argsL rest : List Value} (hM : own_Met l y bytes maxL ret [] rm Z (.ref a :: argsL).toArray h Q) (W : Nat) (hf : rm.frames + 1 ≤ R.frames) (hl : W + (maxL + 11) + rm.locals ≤ R.locals) (hc : cells + rm.cells ≤ R.cells) (hs : slots + rm.slots ≤ R.slots)
    {g : JFrame} (hg : g.method = m) (hsize : g.locals.size = c.maxLocals) (hlen : ∀ sig, parseMethodDescriptor y.desc = some sig → argsL.length = sig.parameters.length) (hstack : g.stack = argsL.reverse ++ .ref a :: rest) (hW : 2 * g.monitorRoom + (rest.map fun v => v.category).sum ≤ W) (hdg : decode c.code g.pc = .ok (.invokevirtual index, 3)) :
    ∃ (v : Option Value) (T' : State) (h' : Heap) (L : List Loc), Stand p l e R s m args below meth c T' (locs ++ L) (cells + rm.cells) (slots + rm.slots) ∧ T'.heap = h' ∧ Q v h' L ∧ ∀ t, Steps p.tables e below (T'.setTop { g with pc := g.pc + 3, stack := v.toList ++ rest }) t → Steps p.tables e below (T.setTop g) t := by
  obtain ⟨cq, q1, q2⟩ := E.cell
  obtain ⟨v, _, ⟨T', L', k', n'⟩, -, X', ⟨Lc, hQ, l', y', z'⟩, st⟩ := X.privateBack hx hown (mvT hZ w1) (mvT hZ w2) (mvT hZ w3) (Cond.privateMethod_at (mvP hZ w5 (args := #[]))) (mvT hZ w4) hy (backOf (W := W) hM hZ w4 w6 hf hl) hg hsize (Steps.refl _) (by rw [eT]; exact q1) q2 hlen hstack hW hdg (fun _ _ => ⟨rfl, eT, hc, hs⟩)
  dsimp only [Pt.U, Pt.locs, Pt.cells, Pt.slots] at X' l' y' z' st hQ
  subst l' y' z'
  exact ⟨v, T', _, Lc, X', rfl, hQ, fun t k => st.trans k⟩
theorem own_callF {C : String} {z : MethodName} {count : Nat} (X : Stand p l e R s m args below meth c T locs cells slots) (hx : p.tables.exec = Jvm.exec) (hZ : Z.Warmed39 s.vm) (hown : s.vm.findClass own = some m.cls) (w1 : (Cond.methodLink own index y).before a0 Z = true) (w2 : (Cond.declares y).before a0 Z = true) (w3 : (Cond.interfaceMethod y.cls y.cls y.name y.desc).before args s = true) (w5 : (Cond.selects C y z).before a0 Z = true) (w7 : (Cond.instanceMethod z).before a0 Z = true) (w8 : (Cond.publicMethod z).before a0 Z = true) (w9 : (Cond.unhidden C y.name y.desc).before a0 Z = true) (w10 : (Cond.castable C y.cls).before a0 Z = true) (w6 : (Cond.initialized z.cls).before a0 Z = true) (w4 : (Cond.code z bytes maxL ret).before a0 Z = true)
    (hy : y.cls ≠ "java/lang/invoke/MethodHandle" ∧ y.cls ≠ "java/lang/invoke/VarHandle") (eT : T.heap = h) {a : Addr} (E : Exa Z h a C) {argsL rest : List Value} (hM : own_Met l z bytes maxL ret [] rm Z (.ref a :: argsL).toArray h Q) (W : Nat) (hf : rm.frames + 1 ≤ R.frames) (hl : W + (maxL + 11) + rm.locals ≤ R.locals) (hc : cells + rm.cells ≤ R.cells) (hs : slots + rm.slots ≤ R.slots)
    {g : JFrame} (hg : g.method = m) (hsize : g.locals.size = c.maxLocals) (hlen : ∀ sig, parseMethodDescriptor y.desc = some sig → argsL.length = sig.parameters.length) (hstack : g.stack = argsL.reverse ++ .ref a :: rest) (hW : 2 * g.monitorRoom + (rest.map fun v => v.category).sum ≤ W) (hdg : decode c.code g.pc = .ok (.invokeinterface index count, 5)) :
    ∃ (v : Option Value) (T' : State) (h' : Heap) (L : List Loc), Stand p l e R s m args below meth c T' (locs ++ L) (cells + rm.cells) (slots + rm.slots) ∧ T'.heap = h' ∧ Q v h' L ∧ ∀ t, Steps p.tables e below (T'.setTop { g with pc := g.pc + 5, stack := v.toList ++ rest }) t → Steps p.tables e below (T.setTop g) t := by
  obtain ⟨cq, kq, qa, qb, qc⟩ := isOf hZ eT E
  obtain ⟨v, _, ⟨T', L', k', n'⟩, -, X', ⟨Lc, hQ, l', y', z'⟩, st⟩ := X.interfaceBack hx hown (mvT hZ w1) (mvT hZ w2) w3 (mvT hZ w5) (mvT hZ w7) (mvT hZ w8) (mvT hZ w9) (mvT hZ w10) hy (backOf (W := W) hM hZ w4 w6 hf hl) qa qb qc hg hsize (Steps.refl _) hlen hstack hW hdg (fun _ _ => ⟨rfl, eT, hc, hs⟩)
  dsimp only [Pt.U, Pt.locs, Pt.cells, Pt.slots] at X' l' y' z' st hQ
  subst l' y' z'
  exact ⟨v, T', _, Lc, X', rfl, hQ, fun t k => st.trans k⟩
end Calls
end OwnKit
end Jvm.RoadKit
namespace Jvm.Pilot.@@N@@
open Jvm Jvm.ClassFile Sem Op Lib Jvm.Free Jvm.Stand Jvm.LawKit Jvm.RoadKit Bundle Jvm.Pilot.@@N@@.Jvm.D
def own_blk (p : Int32) : Int32 := p / (32 : Int32) + if p % (32 : Int32) = (0 : Int32) then (0 : Int32) else (1 : Int32)
theorem own_mask (p : Int32) : 0 ≤ (p &&& (2147483647 : Int32)).toInt := by
  have h := c_mask p (2147483647 : Int32) 31 (by decide) (by decide)
  omega
theorem own_blk_at (p : Int32) (h : 0 ≤ p.toInt) : (own_blk p).toInt = (p.toInt + 31) / 32 := by
  have h1 := (c_idiv p (32 : Int32) 32 (by decide) (by decide)).1 h
  have h2 := (c_irem p (32 : Int32) 32 (by decide)).1 h
  have r := rng32 p
  have r2 := rng32 (own_blk p)
  have e0 : (0 : Int32).toInt = 0 := by decide
  have e1 : (1 : Int32).toInt = 1 := by decide
  by_cases hz : p % (32 : Int32) = (0 : Int32)
  · have e : own_blk p = p / (32 : Int32) + (0 : Int32) := by rw [own_blk, if_pos hz]
    rw [e] at r2 ⊢
    have a := c_iadd (p / (32 : Int32)) (0 : Int32)
    rw [hz, e0] at h2
    rw [e0] at a
    omega
  · have e : own_blk p = p / (32 : Int32) + (1 : Int32) := by rw [own_blk, if_neg hz]
    rw [e] at r2 ⊢
    have a := c_iadd (p / (32 : Int32)) (1 : Int32)
    have hz' : (p % (32 : Int32)).toInt ≠ 0 := fun q => hz (Int32.toInt_inj.mp (q.trans e0.symm))
    rw [e1] at a
    omega
theorem own_lo (p : Int32) (h : 0 ≤ p.toInt) : ((32 : Int64) * ((own_blk p).toInt64 - (1 : Int64))) < p.toInt64 := by
  have a := own_blk_at p h
  have r := rng32 p
  have m := c_lmul (32 : Int64) ((own_blk p).toInt64 - (1 : Int64))
  have s := c_lsub (own_blk p).toInt64 (1 : Int64)
  have r1 := rng64 ((32 : Int64) * ((own_blk p).toInt64 - (1 : Int64)))
  have r2 := rng64 ((own_blk p).toInt64 - (1 : Int64))
  have e1 : (1 : Int64).toInt = 1 := by decide
  have e32 : (32 : Int64).toInt = 32 := by decide
  rw [c_i2l, e1] at s
  rw [e32] at m
  rw [Int64.lt_iff_toInt_lt, c_i2l]
  omega
theorem own_hi (p : Int32) (h : 0 ≤ p.toInt) : ¬ ((32 : Int64) * (own_blk p).toInt64) < p.toInt64 := by
  have a := own_blk_at p h
  have r := rng32 p
  have m := c_lmul (32 : Int64) (own_blk p).toInt64
  have r1 := rng64 ((32 : Int64) * (own_blk p).toInt64)
  have e32 : (32 : Int64).toInt = 32 := by decide
  rw [c_i2l, e32] at m
  rw [Int64.lt_iff_toInt_lt, c_i2l]
  omega
theorem d1_0 : decode prog_24_method_4_code 0 = .ok (.iload_n 0, 1) := by decide +kernel
theorem d1_1 : decode prog_24_method_4_code 1 = .ok (.bipush 32, 2) := by decide +kernel
theorem d1_3 : decode prog_24_method_4_code 3 = .ok (.idiv, 1) := by decide +kernel
theorem d1_4 : decode prog_24_method_4_code 4 = .ok (.iload_n 0, 1) := by decide +kernel
theorem d1_5 : decode prog_24_method_4_code 5 = .ok (.bipush 32, 2) := by decide +kernel
theorem d1_7 : decode prog_24_method_4_code 7 = .ok (.irem, 1) := by decide +kernel
theorem d1_8 : decode prog_24_method_4_code 8 = .ok (.ifCond .ne 7, 3) := by decide +kernel
theorem d1_11 : decode prog_24_method_4_code 11 = .ok (.iconst 0, 1) := by decide +kernel
theorem d1_12 : decode prog_24_method_4_code 12 = .ok (.goto 4, 3) := by decide +kernel
theorem d1_15 : decode prog_24_method_4_code 15 = .ok (.iconst 1, 1) := by decide +kernel
theorem d1_16 : decode prog_24_method_4_code 16 = .ok (.iadd, 1) := by decide +kernel
theorem d1_17 : decode prog_24_method_4_code 17 = .ok (.ireturn, 1) := by decide +kernel
theorem pd0 : parseMethodDescriptor "(I)I" = some ⟨[.int], some .int⟩ := by decide +kernel
set_option maxRecDepth 65536 in
set_option maxHeartbeats 40000000 in
theorem rm1 (l : Launch) (Z : State) (a0 : Array Value) (hw : ∀ d ∈ tables_1, d.before a0 Z = true) (ws : List Jvm.Cond) (p1 : Int32) (h0 : Heap) (n0 : Nat) (Z0 : n0 ≤ h0.size) :
    own_Met l (⟨"com/example/winnow/winnow/engine/ContentElements", "blockCount", "(I)I"⟩ : MethodName) prog_24_method_4_code 1 (some .int) ws ({ frames := 0, cells := 0, slots := 0, locals := 0 } : Room) Z #[(.int p1)] h0 (fun v h L => v = some (.int (own_blk p1)) ∧ Fr n0 L ∧ h0 = h) := by
  refine own_body (plainFor_of_name (by first | (simp [plainName, overriddenIn]; done) | decide +kernel)) ?_
  intro p e s m below meth c s₁ X0 hx hby hml hown hnm hret hlk hZ e0
  have N0 := Fr.nil n0
  refine own_cast (show entryFrame m #[(.int p1)] 1 = mkF m 0 #[.val (.int p1)] [] from by first | (simp [entryFrame, mkF, argsToLocals, Value.category]; done) | rfl) ?_
  show own_Go _ _ _ _ s₁ (mkF m 0 #[.val (.int p1)] [])
  refine own_go (fun _ k => XS.iloadN X0.here hx rfl (hb hby d1_0) rfl k) ?_
  show own_Go _ _ _ _ s₁ (mkF m 1 #[.val (.int p1)] [(.int p1)])
  refine own_go (fun _ k => XS.bipush X0.here hx rfl (hb hby d1_1) k) ?_
  show own_Go _ _ _ _ s₁ (mkF m 3 #[.val (.int p1)] [(.int (32 : Int32)), (.int p1)])
  refine own_go (fun _ k => XS.idiv X0.here hx rfl (hb hby d1_3) rfl (by decide) k) ?_
  show own_Go _ _ _ _ s₁ (mkF m 4 #[.val (.int p1)] [(.int (p1 / (32 : Int32)))])
  refine own_go (fun _ k => XS.iloadN X0.here hx rfl (hb hby d1_4) rfl k) ?_
  show own_Go _ _ _ _ s₁ (mkF m 5 #[.val (.int p1)] [(.int p1), (.int (p1 / (32 : Int32)))])
  refine own_go (fun _ k => XS.bipush X0.here hx rfl (hb hby d1_5) k) ?_
  show own_Go _ _ _ _ s₁ (mkF m 7 #[.val (.int p1)] [(.int (32 : Int32)), (.int p1), (.int (p1 / (32 : Int32)))])
  refine own_go (fun _ k => iremM X0 hx rfl (hb hby d1_7) rfl (by decide) k) ?_
  show own_Go _ _ _ _ s₁ (mkF m 8 #[.val (.int p1)] [(.int (p1 % (32 : Int32))), (.int (p1 / (32 : Int32)))])
  by_cases hc : (p1 % (32 : Int32)) = (0 : Int32)
  · skip
    refine own_go (fun _ k => XS.ifNo X0.here hx rfl (hb hby d1_8) rfl ((if0 _ _).trans (teq hc).2) k) ?_
    show own_Go _ _ _ _ s₁ (mkF m 11 #[.val (.int p1)] [(.int (p1 / (32 : Int32)))])
    refine own_go (fun _ k => XS.iconst X0.here hx rfl (hb hby d1_11) k) ?_
    show own_Go _ _ _ _ s₁ (mkF m 12 #[.val (.int p1)] [(.int (0 : Int32)), (.int (p1 / (32 : Int32)))])
    refine own_go (fun _ k => XS.goto X0.here hx rfl (pc0 := 12) (pc' := 16) rfl (hb hby d1_12) (by decide) (by decide) k) ?_
    show own_Go _ _ _ _ s₁ (mkF m 16 #[.val (.int p1)] [(.int (0 : Int32)), (.int (p1 / (32 : Int32)))])
    refine own_go (fun _ k => XS.iadd X0.here hx rfl (hb hby d1_16) rfl k) ?_
    show own_Go _ _ _ _ s₁ (mkF m 17 #[.val (.int p1)] [(.int ((p1 / (32 : Int32)) + (0 : Int32)))])
    exact own_retI X0 hx hret hlk (hb hby d1_17) (by decide) (by decide) (by first | exact ⟨by rw [own_blk, if_pos hc], N0, rfl⟩ | (rw [e0]; exact ⟨by rw [own_blk, if_pos hc], N0, rfl⟩))
  · skip
    refine own_go (fun _ k => XS.ifYes X0.here hx rfl (pc0 := 8) (pc' := 15) rfl (hb hby d1_8) rfl ((if0 _ _).trans (feq hc).2) (by decide) (by decide) k) ?_
    show own_Go _ _ _ _ s₁ (mkF m 15 #[.val (.int p1)] [(.int (p1 / (32 : Int32)))])
    refine own_go (fun _ k => XS.iconst X0.here hx rfl (hb hby d1_15) k) ?_
    show own_Go _ _ _ _ s₁ (mkF m 16 #[.val (.int p1)] [(.int (1 : Int32)), (.int (p1 / (32 : Int32)))])
    refine own_go (fun _ k => XS.iadd X0.here hx rfl (hb hby d1_16) rfl k) ?_
    show own_Go _ _ _ _ s₁ (mkF m 17 #[.val (.int p1)] [(.int ((p1 / (32 : Int32)) + (1 : Int32)))])
    exact own_retI X0 hx hret hlk (hb hby d1_17) (by decide) (by decide) (by first | exact ⟨by rw [own_blk, if_neg hc], N0, rfl⟩ | (rw [e0]; exact ⟨by rw [own_blk, if_neg hc], N0, rfl⟩))
set_option maxRecDepth 65536 in
set_option maxHeartbeats 40000000 in
theorem rm0 (l : Launch) (Z : State) (a0 : Array Value) (hw : ∀ d ∈ tables_1, d.before a0 Z = true) (ws : List Jvm.Cond) (p1 : Int32) (h0 : Heap) (n0 : Nat) (Z0 : n0 ≤ h0.size) :
    own_Met l x code maxLocals ret ws room_1 Z #[(.int p1)] h0 (fun v h L => v = some (.int 1) ∧ Fr n0 L) := by
  refine own_body (plainFor_of_name (by first | (simp [plainName, overriddenIn]; done) | decide +kernel)) ?_
  intro p e s m below meth c s₁ X0 hx hby hml hown hnm hret hlk hZ e0
  have N0 := Fr.nil n0
  refine own_cast (show entryFrame m #[(.int p1)] maxLocals = mkF m 0 #[.val (.int p1), .unset, .unset, .unset, .unset, .unset, .unset, .unset, .unset] [] from by first | (simp [entryFrame, mkF, argsToLocals, Value.category, maxLocals]; done) | rfl) ?_
  show own_Go _ _ _ _ s₁ (mkF m 0 #[.val (.int p1), .unset, .unset, .unset, .unset, .unset, .unset, .unset, .unset] [])
  refine own_go (fun _ k => XS.iloadN X0.here hx rfl (hb hby at_0) rfl k) ?_
  show own_Go _ _ _ _ s₁ (mkF m 1 #[.val (.int p1), .unset, .unset, .unset, .unset, .unset, .unset, .unset, .unset] [(.int p1)])
  refine own_go (X0.ldcInt hx hown (mvT hZ (hw _ (List.mem_of_getElem? (i := 0) rfl))) (g := (mkF m 1 #[.val (.int p1), .unset, .unset, .unset, .unset, .unset, .unset, .unset, .unset] [(.int p1)])) rfl (hb hby at_1)) ?_
  show own_Go _ _ _ _ s₁ (mkF m 3 #[.val (.int p1), .unset, .unset, .unset, .unset, .unset, .unset, .unset, .unset] [(.int (2147483647 : Int32)), (.int p1)])
  refine own_go (fun _ k => XS.iand X0.here hx rfl (hb hby at_3) rfl k) ?_
  show own_Go _ _ _ _ s₁ (mkF m 4 #[.val (.int p1), .unset, .unset, .unset, .unset, .unset, .unset, .unset, .unset] [(.int (p1 &&& (2147483647 : Int32)))])
  refine own_go (fun _ k => XS.istoreN X0.here hx rfl (hb hby at_4) rfl (l' := #[.val (.int p1), .val (.int (p1 &&& (2147483647 : Int32))), .unset, .unset, .unset, .unset, .unset, .unset, .unset]) rfl k) ?_
  show own_Go _ _ _ _ s₁ (mkF m 5 #[.val (.int p1), .val (.int (p1 &&& (2147483647 : Int32))), .unset, .unset, .unset, .unset, .unset, .unset, .unset] [])
  refine own_go (fun _ k => XS.iloadN X0.here hx rfl (hb hby at_5) rfl k) ?_
  show own_Go _ _ _ _ s₁ (mkF m 6 #[.val (.int p1), .val (.int (p1 &&& (2147483647 : Int32))), .unset, .unset, .unset, .unset, .unset, .unset, .unset] [(.int (p1 &&& (2147483647 : Int32)))])
  obtain ⟨v1, T1, h1, L1, X1, e1, hQ1, st1⟩ := own_callS X0 hx hZ hown (hw _ (List.mem_of_getElem? (i := 1) rfl)) (hw _ (List.mem_of_getElem? (i := 2) rfl)) (hw _ (List.mem_of_getElem? (i := 3) rfl)) (hw _ (List.mem_of_getElem? (i := 4) rfl)) (by decide) e0 (argsL := [(.int (p1 &&& (2147483647 : Int32)))]) (rest := []) (rm1 l Z a0 hw [] (p1 &&& (2147483647 : Int32)) h0 n0 Z0) 0 (by decide) (by decide) (by decide) (by decide) (g := (mkF m 6 #[.val (.int p1), .val (.int (p1 &&& (2147483647 : Int32))), .unset, .unset, .unset, .unset, .unset, .unset, .unset] [(.int (p1 &&& (2147483647 : Int32)))])) rfl (by rw [hml]; rfl) (lenOf pd0 rfl) rfl (Nat.le_of_eq rfl) (hb hby at_6)
  obtain ⟨rfl, N1q, rfl⟩ := hQ1
  refine own_go (st1) ?_
  have N1 := Fr.app N0 N1q
  have hb0 : 0 ≤ (p1 &&& (2147483647 : Int32)).toInt := own_mask p1
  show own_Go _ _ _ _ T1 (mkF m 9 #[.val (.int p1), .val (.int (p1 &&& (2147483647 : Int32))), .unset, .unset, .unset, .unset, .unset, .unset, .unset] [(.int (own_blk (p1 &&& (2147483647 : Int32))))])
  refine own_go (fun _ k => XS.istoreN X1.here hx rfl (hb hby at_9) rfl (l' := #[.val (.int p1), .val (.int (p1 &&& (2147483647 : Int32))), .val (.int (own_blk (p1 &&& (2147483647 : Int32)))), .unset, .unset, .unset, .unset, .unset, .unset]) rfl k) ?_
  show own_Go _ _ _ _ T1 (mkF m 10 #[.val (.int p1), .val (.int (p1 &&& (2147483647 : Int32))), .val (.int (own_blk (p1 &&& (2147483647 : Int32)))), .unset, .unset, .unset, .unset, .unset, .unset] [])
  refine own_go (X1.ldc2Long hx hown (mvT hZ (hw _ (List.mem_of_getElem? (i := 5) rfl))) (g := (mkF m 10 #[.val (.int p1), .val (.int (p1 &&& (2147483647 : Int32))), .val (.int (own_blk (p1 &&& (2147483647 : Int32)))), .unset, .unset, .unset, .unset, .unset, .unset] [])) rfl (hb hby at_10)) ?_
  show own_Go _ _ _ _ T1 (mkF m 13 #[.val (.int p1), .val (.int (p1 &&& (2147483647 : Int32))), .val (.int (own_blk (p1 &&& (2147483647 : Int32)))), .unset, .unset, .unset, .unset, .unset, .unset] [(.long (32 : Int64))])
  refine own_go (fun _ k => XS.lstoreN X1.here hx rfl (hb hby at_13) rfl (l' := #[.val (.int p1), .val (.int (p1 &&& (2147483647 : Int32))), .val (.int (own_blk (p1 &&& (2147483647 : Int32)))), .val (.long (32 : Int64)), .second, .unset, .unset, .unset, .unset]) rfl k) ?_
  show own_Go _ _ _ _ T1 (mkF m 14 #[.val (.int p1), .val (.int (p1 &&& (2147483647 : Int32))), .val (.int (own_blk (p1 &&& (2147483647 : Int32)))), .val (.long (32 : Int64)), .second, .unset, .unset, .unset, .unset] [])
  refine own_go (fun _ k => XS.lloadN X1.here hx rfl (hb hby at_14) rfl k) ?_
  show own_Go _ _ _ _ T1 (mkF m 15 #[.val (.int p1), .val (.int (p1 &&& (2147483647 : Int32))), .val (.int (own_blk (p1 &&& (2147483647 : Int32)))), .val (.long (32 : Int64)), .second, .unset, .unset, .unset, .unset] [(.long (32 : Int64))])
  refine own_go (fun _ k => XS.iloadN X1.here hx rfl (hb hby at_15) rfl k) ?_
  show own_Go _ _ _ _ T1 (mkF m 16 #[.val (.int p1), .val (.int (p1 &&& (2147483647 : Int32))), .val (.int (own_blk (p1 &&& (2147483647 : Int32)))), .val (.long (32 : Int64)), .second, .unset, .unset, .unset, .unset] [(.int (own_blk (p1 &&& (2147483647 : Int32)))), (.long (32 : Int64))])
  refine own_go (fun _ k => XS.i2l X1.here hx rfl (hb hby at_16) rfl k) ?_
  show own_Go _ _ _ _ T1 (mkF m 17 #[.val (.int p1), .val (.int (p1 &&& (2147483647 : Int32))), .val (.int (own_blk (p1 &&& (2147483647 : Int32)))), .val (.long (32 : Int64)), .second, .unset, .unset, .unset, .unset] [(.long ((own_blk (p1 &&& (2147483647 : Int32)))).toInt64), (.long (32 : Int64))])
  refine own_go (fun _ k => XS.lconst X1.here hx rfl (hb hby at_17) k) ?_
  show own_Go _ _ _ _ T1 (mkF m 18 #[.val (.int p1), .val (.int (p1 &&& (2147483647 : Int32))), .val (.int (own_blk (p1 &&& (2147483647 : Int32)))), .val (.long (32 : Int64)), .second, .unset, .unset, .unset, .unset] [(.long (1 : Int64)), (.long ((own_blk (p1 &&& (2147483647 : Int32)))).toInt64), (.long (32 : Int64))])
  refine own_go (fun _ k => XS.lsub X1.here hx rfl (hb hby at_18) rfl k) ?_
  show own_Go _ _ _ _ T1 (mkF m 19 #[.val (.int p1), .val (.int (p1 &&& (2147483647 : Int32))), .val (.int (own_blk (p1 &&& (2147483647 : Int32)))), .val (.long (32 : Int64)), .second, .unset, .unset, .unset, .unset] [(.long (((own_blk (p1 &&& (2147483647 : Int32)))).toInt64 - (1 : Int64))), (.long (32 : Int64))])
  refine own_go (fun _ k => XS.lmul X1.here hx rfl (hb hby at_19) rfl k) ?_
  show own_Go _ _ _ _ T1 (mkF m 20 #[.val (.int p1), .val (.int (p1 &&& (2147483647 : Int32))), .val (.int (own_blk (p1 &&& (2147483647 : Int32)))), .val (.long (32 : Int64)), .second, .unset, .unset, .unset, .unset] [(.long ((32 : Int64) * (((own_blk (p1 &&& (2147483647 : Int32)))).toInt64 - (1 : Int64))))])
  refine own_go (fun _ k => XS.lstore X1.here hx rfl (hb hby at_20) rfl (l' := #[.val (.int p1), .val (.int (p1 &&& (2147483647 : Int32))), .val (.int (own_blk (p1 &&& (2147483647 : Int32)))), .val (.long (32 : Int64)), .second, .val (.long ((32 : Int64) * (((own_blk (p1 &&& (2147483647 : Int32)))).toInt64 - (1 : Int64)))), .second, .unset, .unset]) rfl k) ?_
  show own_Go _ _ _ _ T1 (mkF m 22 #[.val (.int p1), .val (.int (p1 &&& (2147483647 : Int32))), .val (.int (own_blk (p1 &&& (2147483647 : Int32)))), .val (.long (32 : Int64)), .second, .val (.long ((32 : Int64) * (((own_blk (p1 &&& (2147483647 : Int32)))).toInt64 - (1 : Int64)))), .second, .unset, .unset] [])
  refine own_go (fun _ k => XS.lloadN X1.here hx rfl (hb hby at_22) rfl k) ?_
  show own_Go _ _ _ _ T1 (mkF m 23 #[.val (.int p1), .val (.int (p1 &&& (2147483647 : Int32))), .val (.int (own_blk (p1 &&& (2147483647 : Int32)))), .val (.long (32 : Int64)), .second, .val (.long ((32 : Int64) * (((own_blk (p1 &&& (2147483647 : Int32)))).toInt64 - (1 : Int64)))), .second, .unset, .unset] [(.long (32 : Int64))])
  refine own_go (fun _ k => XS.iloadN X1.here hx rfl (hb hby at_23) rfl k) ?_
  show own_Go _ _ _ _ T1 (mkF m 24 #[.val (.int p1), .val (.int (p1 &&& (2147483647 : Int32))), .val (.int (own_blk (p1 &&& (2147483647 : Int32)))), .val (.long (32 : Int64)), .second, .val (.long ((32 : Int64) * (((own_blk (p1 &&& (2147483647 : Int32)))).toInt64 - (1 : Int64)))), .second, .unset, .unset] [(.int (own_blk (p1 &&& (2147483647 : Int32)))), (.long (32 : Int64))])
  refine own_go (fun _ k => XS.i2l X1.here hx rfl (hb hby at_24) rfl k) ?_
  show own_Go _ _ _ _ T1 (mkF m 25 #[.val (.int p1), .val (.int (p1 &&& (2147483647 : Int32))), .val (.int (own_blk (p1 &&& (2147483647 : Int32)))), .val (.long (32 : Int64)), .second, .val (.long ((32 : Int64) * (((own_blk (p1 &&& (2147483647 : Int32)))).toInt64 - (1 : Int64)))), .second, .unset, .unset] [(.long ((own_blk (p1 &&& (2147483647 : Int32)))).toInt64), (.long (32 : Int64))])
  refine own_go (fun _ k => XS.lmul X1.here hx rfl (hb hby at_25) rfl k) ?_
  show own_Go _ _ _ _ T1 (mkF m 26 #[.val (.int p1), .val (.int (p1 &&& (2147483647 : Int32))), .val (.int (own_blk (p1 &&& (2147483647 : Int32)))), .val (.long (32 : Int64)), .second, .val (.long ((32 : Int64) * (((own_blk (p1 &&& (2147483647 : Int32)))).toInt64 - (1 : Int64)))), .second, .unset, .unset] [(.long ((32 : Int64) * ((own_blk (p1 &&& (2147483647 : Int32)))).toInt64))])
  refine own_go (fun _ k => XS.lstore X1.here hx rfl (hb hby at_26) rfl (l' := #[.val (.int p1), .val (.int (p1 &&& (2147483647 : Int32))), .val (.int (own_blk (p1 &&& (2147483647 : Int32)))), .val (.long (32 : Int64)), .second, .val (.long ((32 : Int64) * (((own_blk (p1 &&& (2147483647 : Int32)))).toInt64 - (1 : Int64)))), .second, .val (.long ((32 : Int64) * ((own_blk (p1 &&& (2147483647 : Int32)))).toInt64)), .second]) rfl k) ?_
  show own_Go _ _ _ _ T1 (mkF m 28 #[.val (.int p1), .val (.int (p1 &&& (2147483647 : Int32))), .val (.int (own_blk (p1 &&& (2147483647 : Int32)))), .val (.long (32 : Int64)), .second, .val (.long ((32 : Int64) * (((own_blk (p1 &&& (2147483647 : Int32)))).toInt64 - (1 : Int64)))), .second, .val (.long ((32 : Int64) * ((own_blk (p1 &&& (2147483647 : Int32)))).toInt64)), .second] [])
  refine own_go (fun _ k => XS.lloadN X1.here hx rfl (hb hby at_28) rfl k) ?_
  show own_Go _ _ _ _ T1 (mkF m 29 #[.val (.int p1), .val (.int (p1 &&& (2147483647 : Int32))), .val (.int (own_blk (p1 &&& (2147483647 : Int32)))), .val (.long (32 : Int64)), .second, .val (.long ((32 : Int64) * (((own_blk (p1 &&& (2147483647 : Int32)))).toInt64 - (1 : Int64)))), .second, .val (.long ((32 : Int64) * ((own_blk (p1 &&& (2147483647 : Int32)))).toInt64)), .second] [(.long (32 : Int64))])
  refine own_go (X1.ldc2Long hx hown (mvT hZ (hw _ (List.mem_of_getElem? (i := 5) rfl))) (g := (mkF m 29 #[.val (.int p1), .val (.int (p1 &&& (2147483647 : Int32))), .val (.int (own_blk (p1 &&& (2147483647 : Int32)))), .val (.long (32 : Int64)), .second, .val (.long ((32 : Int64) * (((own_blk (p1 &&& (2147483647 : Int32)))).toInt64 - (1 : Int64)))), .second, .val (.long ((32 : Int64) * ((own_blk (p1 &&& (2147483647 : Int32)))).toInt64)), .second] [(.long (32 : Int64))])) rfl (hb hby at_29)) ?_
  show own_Go _ _ _ _ T1 (mkF m 32 #[.val (.int p1), .val (.int (p1 &&& (2147483647 : Int32))), .val (.int (own_blk (p1 &&& (2147483647 : Int32)))), .val (.long (32 : Int64)), .second, .val (.long ((32 : Int64) * (((own_blk (p1 &&& (2147483647 : Int32)))).toInt64 - (1 : Int64)))), .second, .val (.long ((32 : Int64) * ((own_blk (p1 &&& (2147483647 : Int32)))).toInt64)), .second] [(.long (32 : Int64)), (.long (32 : Int64))])
  refine own_go (fun _ k => XS.lcmp X1.here hx rfl (hb hby at_32) rfl k) ?_
  show own_Go _ _ _ _ T1 (mkF m 33 #[.val (.int p1), .val (.int (p1 &&& (2147483647 : Int32))), .val (.int (own_blk (p1 &&& (2147483647 : Int32)))), .val (.long (32 : Int64)), .second, .val (.long ((32 : Int64) * (((own_blk (p1 &&& (2147483647 : Int32)))).toInt64 - (1 : Int64)))), .second, .val (.long ((32 : Int64) * ((own_blk (p1 &&& (2147483647 : Int32)))).toInt64)), .second] [(.int (lcmpW (32 : Int64) (32 : Int64)))])
  refine own_go (fun _ k => XS.ifNo X1.here hx rfl (hb hby at_33) rfl ((if0 _ _).trans (teq ((lw_eq _ _).mpr rfl)).2) k) ?_
  show own_Go _ _ _ _ T1 (mkF m 36 #[.val (.int p1), .val (.int (p1 &&& (2147483647 : Int32))), .val (.int (own_blk (p1 &&& (2147483647 : Int32)))), .val (.long (32 : Int64)), .second, .val (.long ((32 : Int64) * (((own_blk (p1 &&& (2147483647 : Int32)))).toInt64 - (1 : Int64)))), .second, .val (.long ((32 : Int64) * ((own_blk (p1 &&& (2147483647 : Int32)))).toInt64)), .second] [])
  refine own_go (fun _ k => XS.lload X1.here hx rfl (hb hby at_36) rfl k) ?_
  show own_Go _ _ _ _ T1 (mkF m 38 #[.val (.int p1), .val (.int (p1 &&& (2147483647 : Int32))), .val (.int (own_blk (p1 &&& (2147483647 : Int32)))), .val (.long (32 : Int64)), .second, .val (.long ((32 : Int64) * (((own_blk (p1 &&& (2147483647 : Int32)))).toInt64 - (1 : Int64)))), .second, .val (.long ((32 : Int64) * ((own_blk (p1 &&& (2147483647 : Int32)))).toInt64)), .second] [(.long ((32 : Int64) * (((own_blk (p1 &&& (2147483647 : Int32)))).toInt64 - (1 : Int64))))])
  refine own_go (fun _ k => XS.iloadN X1.here hx rfl (hb hby at_38) rfl k) ?_
  show own_Go _ _ _ _ T1 (mkF m 39 #[.val (.int p1), .val (.int (p1 &&& (2147483647 : Int32))), .val (.int (own_blk (p1 &&& (2147483647 : Int32)))), .val (.long (32 : Int64)), .second, .val (.long ((32 : Int64) * (((own_blk (p1 &&& (2147483647 : Int32)))).toInt64 - (1 : Int64)))), .second, .val (.long ((32 : Int64) * ((own_blk (p1 &&& (2147483647 : Int32)))).toInt64)), .second] [(.int (p1 &&& (2147483647 : Int32))), (.long ((32 : Int64) * (((own_blk (p1 &&& (2147483647 : Int32)))).toInt64 - (1 : Int64))))])
  refine own_go (fun _ k => XS.i2l X1.here hx rfl (hb hby at_39) rfl k) ?_
  show own_Go _ _ _ _ T1 (mkF m 40 #[.val (.int p1), .val (.int (p1 &&& (2147483647 : Int32))), .val (.int (own_blk (p1 &&& (2147483647 : Int32)))), .val (.long (32 : Int64)), .second, .val (.long ((32 : Int64) * (((own_blk (p1 &&& (2147483647 : Int32)))).toInt64 - (1 : Int64)))), .second, .val (.long ((32 : Int64) * ((own_blk (p1 &&& (2147483647 : Int32)))).toInt64)), .second] [(.long ((p1 &&& (2147483647 : Int32))).toInt64), (.long ((32 : Int64) * (((own_blk (p1 &&& (2147483647 : Int32)))).toInt64 - (1 : Int64))))])
  refine own_go (fun _ k => XS.lcmp X1.here hx rfl (hb hby at_40) rfl k) ?_
  show own_Go _ _ _ _ T1 (mkF m 41 #[.val (.int p1), .val (.int (p1 &&& (2147483647 : Int32))), .val (.int (own_blk (p1 &&& (2147483647 : Int32)))), .val (.long (32 : Int64)), .second, .val (.long ((32 : Int64) * (((own_blk (p1 &&& (2147483647 : Int32)))).toInt64 - (1 : Int64)))), .second, .val (.long ((32 : Int64) * ((own_blk (p1 &&& (2147483647 : Int32)))).toInt64)), .second] [(.int (lcmpW ((32 : Int64) * (((own_blk (p1 &&& (2147483647 : Int32)))).toInt64 - (1 : Int64))) ((p1 &&& (2147483647 : Int32))).toInt64))])
  refine own_go (fun _ k => XS.ifNo X1.here hx rfl (hb hby at_41) rfl ((if0 _ _).trans (tlt ((lw_lt _ _).mpr (own_lo _ hb0))).2.1) k) ?_
  show own_Go _ _ _ _ T1 (mkF m 44 #[.val (.int p1), .val (.int (p1 &&& (2147483647 : Int32))), .val (.int (own_blk (p1 &&& (2147483647 : Int32)))), .val (.long (32 : Int64)), .second, .val (.long ((32 : Int64) * (((own_blk (p1 &&& (2147483647 : Int32)))).toInt64 - (1 : Int64)))), .second, .val (.long ((32 : Int64) * ((own_blk (p1 &&& (2147483647 : Int32)))).toInt64)), .second] [])
  refine own_go (fun _ k => XS.iloadN X1.here hx rfl (hb hby at_44) rfl k) ?_
  show own_Go _ _ _ _ T1 (mkF m 45 #[.val (.int p1), .val (.int (p1 &&& (2147483647 : Int32))), .val (.int (own_blk (p1 &&& (2147483647 : Int32)))), .val (.long (32 : Int64)), .second, .val (.long ((32 : Int64) * (((own_blk (p1 &&& (2147483647 : Int32)))).toInt64 - (1 : Int64)))), .second, .val (.long ((32 : Int64) * ((own_blk (p1 &&& (2147483647 : Int32)))).toInt64)), .second] [(.int (p1 &&& (2147483647 : Int32)))])
  refine own_go (fun _ k => XS.i2l X1.here hx rfl (hb hby at_45) rfl k) ?_
  show own_Go _ _ _ _ T1 (mkF m 46 #[.val (.int p1), .val (.int (p1 &&& (2147483647 : Int32))), .val (.int (own_blk (p1 &&& (2147483647 : Int32)))), .val (.long (32 : Int64)), .second, .val (.long ((32 : Int64) * (((own_blk (p1 &&& (2147483647 : Int32)))).toInt64 - (1 : Int64)))), .second, .val (.long ((32 : Int64) * ((own_blk (p1 &&& (2147483647 : Int32)))).toInt64)), .second] [(.long ((p1 &&& (2147483647 : Int32))).toInt64)])
  refine own_go (fun _ k => XS.lload X1.here hx rfl (hb hby at_46) rfl k) ?_
  show own_Go _ _ _ _ T1 (mkF m 48 #[.val (.int p1), .val (.int (p1 &&& (2147483647 : Int32))), .val (.int (own_blk (p1 &&& (2147483647 : Int32)))), .val (.long (32 : Int64)), .second, .val (.long ((32 : Int64) * (((own_blk (p1 &&& (2147483647 : Int32)))).toInt64 - (1 : Int64)))), .second, .val (.long ((32 : Int64) * ((own_blk (p1 &&& (2147483647 : Int32)))).toInt64)), .second] [(.long ((32 : Int64) * ((own_blk (p1 &&& (2147483647 : Int32)))).toInt64)), (.long ((p1 &&& (2147483647 : Int32))).toInt64)])
  refine own_go (fun _ k => XS.lcmp X1.here hx rfl (hb hby at_48) rfl k) ?_
  show own_Go _ _ _ _ T1 (mkF m 49 #[.val (.int p1), .val (.int (p1 &&& (2147483647 : Int32))), .val (.int (own_blk (p1 &&& (2147483647 : Int32)))), .val (.long (32 : Int64)), .second, .val (.long ((32 : Int64) * (((own_blk (p1 &&& (2147483647 : Int32)))).toInt64 - (1 : Int64)))), .second, .val (.long ((32 : Int64) * ((own_blk (p1 &&& (2147483647 : Int32)))).toInt64)), .second] [(.int (lcmpW ((p1 &&& (2147483647 : Int32))).toInt64 ((32 : Int64) * ((own_blk (p1 &&& (2147483647 : Int32)))).toInt64)))])
  refine own_go (fun _ k => XS.ifNo X1.here hx rfl (hb hby at_49) rfl ((if0 _ _).trans (flt (fun q => (own_hi _ hb0) ((lw_gt _ _).mp q))).2.2.1) k) ?_
  show own_Go _ _ _ _ T1 (mkF m 52 #[.val (.int p1), .val (.int (p1 &&& (2147483647 : Int32))), .val (.int (own_blk (p1 &&& (2147483647 : Int32)))), .val (.long (32 : Int64)), .second, .val (.long ((32 : Int64) * (((own_blk (p1 &&& (2147483647 : Int32)))).toInt64 - (1 : Int64)))), .second, .val (.long ((32 : Int64) * ((own_blk (p1 &&& (2147483647 : Int32)))).toInt64)), .second] [])
  refine own_go (fun _ k => XS.iconst X1.here hx rfl (hb hby at_52) k) ?_
  show own_Go _ _ _ _ T1 (mkF m 53 #[.val (.int p1), .val (.int (p1 &&& (2147483647 : Int32))), .val (.int (own_blk (p1 &&& (2147483647 : Int32)))), .val (.long (32 : Int64)), .second, .val (.long ((32 : Int64) * (((own_blk (p1 &&& (2147483647 : Int32)))).toInt64 - (1 : Int64)))), .second, .val (.long ((32 : Int64) * ((own_blk (p1 &&& (2147483647 : Int32)))).toInt64)), .second] [(.int (1 : Int32))])
  refine own_go (fun _ k => XS.goto X1.here hx rfl (pc0 := 53) (pc' := 57) rfl (hb hby at_53) (by decide) (by decide) k) ?_
  show own_Go _ _ _ _ T1 (mkF m 57 #[.val (.int p1), .val (.int (p1 &&& (2147483647 : Int32))), .val (.int (own_blk (p1 &&& (2147483647 : Int32)))), .val (.long (32 : Int64)), .second, .val (.long ((32 : Int64) * (((own_blk (p1 &&& (2147483647 : Int32)))).toInt64 - (1 : Int64)))), .second, .val (.long ((32 : Int64) * ((own_blk (p1 &&& (2147483647 : Int32)))).toInt64)), .second] [(.int (1 : Int32))])
  exact own_retN X1 hx hret (by simp) hlk (hb hby at_57) (by decide) (by decide) (by first | exact ⟨rfl, N1⟩ | (rw [e1]; exact ⟨rfl, N1⟩))
set_option maxRecDepth 65536 in
set_option maxHeartbeats 40000000 in
theorem comes_1 {Post : Tables → Env → Array Value → State → Outcome → State → Prop} (hpost : ∀ tb e args s v u, (limb_1_1.after args s (.returned v) u = true ∧ limb_1_2.after args s (.returned v) u = true ∧ True) → FrameEnd s (.returned v) u (Jvm.fieldLocs frame_1_writes args s ++ Jvm.arrayLocs frame_1_arrays args s ++ Jvm.staticLocs frame_1_statics s) 0 0 → Post tb e args s (.returned v) u) :
    ArmFor flags0 classFile x code maxLocals ret World_1 tables_1 room_1 Calls_1 rest_1 Pre_1 Post := by
  intro l hfl _ _ p e ha hc hk s m args below hf hA hF happ hP
  obtain ⟨hcalls, hrest, hpre⟩ := hP
  obtain ⟨-, -, -, hnamed, -, -, -, hat⟩ := (Spec.applies_iff hf).mp happ
  obtain ⟨hg, hn⟩ := and_e (Cond.before_iff.mp (show (Jvm.Cond.and given_1 narrow_1).before args s = true from hpre))
  obtain ⟨gc, hg⟩ := and_e hg
  have gv0 := hg
  obtain ⟨w0, rfl⟩ : ∃ w0 : Value, args = #[w0] := by
    have hs : args.size = 1 := by simpa [Cond.value, given_1] using gc
    obtain ⟨L⟩ := args
    match L, hs with
    | [w0], _ => exact ⟨w0, rfl⟩
  have hw := fun d (hd : d ∈ tables_1) => atoms_spec (ws := Jvm.Cond.code x code maxLocals ret :: tables_1) hat d (List.mem_cons_of_mem _ hd)
  obtain ⟨i0, ei0⟩ := is_v gv0
  obtain rfl : w0 = (.int i0) := Option.some.inj ei0
  obtain ⟨n, o, h1, h2, h3, _, L, rfl, ⟨rfl, N⟩, hq⟩ := rm0 l s _ hw tables_1 i0 s.heap s.heap.size (Nat.le_refl _) p e ha hc hk s m _ below hf ((Spec.applies_iff_loose hf).mp happ).1 ⟨rfl, State.Warmed39.refl s, rfl⟩ trivial
  refine ⟨n, _, h1, h2, h3, hpost _ _ _ _ _ _ ⟨Cond.after_iff.mpr rfl, Cond.after_iff.mpr (eq_i res_at (Term.int_eval (1)) rfl), trivial⟩ ⟨hq.1, hq.2.1, (hq.2.2.sift fun y hy => Or.inr (N y hy)).mono (by decide) (by decide)⟩⟩
theorem main_1_1 : Claimed_1_1 := comes_1 fun _ _ _ _ _ _ h hF => ⟨h.1, hF⟩
theorem main_1_2 : Claimed_1_2 := comes_1 fun _ _ _ _ _ _ h hF => ⟨h.2.1, hF⟩
end Jvm.Pilot.@@N@@
namespace Jvm.Pilot.@@N@@
open Jvm Jvm.ClassFile Sem Op Lib Jvm.Free Jvm.Stand Jvm.Pilot.@@N@@.Jvm.D
/-! MADE BY PROGRAM (witnessworld.py) out of the Statement's table words and the real class files: 10 classes; the members and pool entries that the words name. The judged class is class 1, her method 1. -/
namespace start1
open Jvm.ClassFile
def u (s : String) : CpInfo := .utf8 (stringToUtf16 s)
/-- a pool by its gaps: so many unusable entries, then the entry; so many at the end -/
def gap : Nat → List CpInfo → List CpInfo
  | 0, r => r
  | n + 1, r => .unusable :: gap n r
def poolList (es : List (Nat × CpInfo)) (last : Nat) : List CpInfo := es.foldr (fun e r => gap e.1 (e.2 :: r)) (gap last [])
def pool (es : List (Nat × CpInfo)) (last : Nat) : Array CpInfo := ⟨poolList es last⟩
def fileOf (pool : Array CpInfo) (this : Nat) (attrs : Array Attribute := #[]) (ms : Array MethodInfo := #[]) (fl : Nat := 33) (sup : Nat := 0) (ifs : Array Nat := #[]) (fds : Array FieldInfo := #[]) : ClassFile where
  minorVersion := 0
  majorVersion := 65
  constantPool := pool
  accessFlags := fl
  thisClass := this
  superClass := sup
  interfaces := ifs
  fields := fds
  methods := ms
  attributes := attrs
def plain (name : String) (sup : Option ClassId) : Class where
  name := name
  kind := .ordinary
  loader := none
  accessFlags := 33
  super := sup
  interfaces := #[]
  cf := none
  fields := #[]
  methods := #[]
  instanceTypes := #[]
  staticTypes := #[]
  resolved := #[]
  callSites := []
  init := .initialized
  statics := none
  mirror := none

def pool0 : Array CpInfo := pool [(5, u "<init>"), (0, u "()V"), (1, .class_ 10), (1, u "java/lang/Object")] 113

def k0m0 : Method := { name := "<init>", desc := "()V", sig := { parameters := [], returnType := none }, accessFlags := 1, code := none }
/-- java/lang/Object -/
def k0 : Class := { plain "java/lang/Object" none with
  accessFlags := 33
  interfaces := #[]
  cf := some (fileOf pool0 8 #[] #[{ accessFlags := 1, nameIndex := 5, descriptorIndex := 6, attributes := #[] }] 33 0 #[] #[])
  fields := #[]
  methods := #[k0m0]
  instanceTypes := #[]
  staticTypes := #[]
  resolved := Array.replicate 124 none
  statics := none }

def pool1 : Array CpInfo := pool [(2, .class_ 4), (1, u "java/lang/Object"), (0, u "<init>"), (0, u "()V"), (0, .integer 2147483647), (0, .methodref 9 10), (0, .class_ 11), (0, .nameAndType 12 13), (0, u "com/example/winnow/winnow/engine/ContentElements"), (0, u "blockCount"), (0, u "(I)I"), (0, .long 32), (1, .class_ 17), (0, u "com/example/winnow/winnow/engine/ContentElementsBlockCountPinLaw"), (2, u "law"), (0, u "(I)Z")] 3

def k1m0 : Method := { name := "<init>", desc := "()V", sig := { parameters := [], returnType := none }, accessFlags := 1, code := none }
def k1c1 : Code := { maxStack := 6, maxLocals := 9, code := code, exceptionTable := #[], attributes := #[] }
def k1m1 : Method := { name := "law", desc := "(I)Z", sig := { parameters := [.int], returnType := some .boolean }, accessFlags := 9, code := some k1c1 }
/-- com/example/winnow/winnow/engine/ContentElementsBlockCountPinLaw -/
def k1 : Class := { plain "com/example/winnow/winnow/engine/ContentElementsBlockCountPinLaw" (some 0) with
  accessFlags := 49
  interfaces := #[]
  cf := some (fileOf pool1 16 #[] #[{ accessFlags := 1, nameIndex := 5, descriptorIndex := 6, attributes := #[] }, { accessFlags := 9, nameIndex := 20, descriptorIndex := 21, attributes := #[] }] 49 2 #[] #[])
  fields := #[]
  methods := #[k1m0, k1m1]
  instanceTypes := #[]
  staticTypes := #[]
  resolved := Array.replicate 25 none
  statics := none }

def pool2 : Array CpInfo := pool [(16, .class_ 18), (1, u "java/util/Iterator"), (12, .class_ 32), (0, u "java/lang/Object")] 20

/-- java/util/Iterator -/
def k2 : Class := { plain "java/util/Iterator" (some 0) with
  accessFlags := 1537
  interfaces := #[]
  cf := some (fileOf pool2 16 #[] #[] 1537 31 #[] #[])
  fields := #[]
  methods := #[]
  instanceTypes := #[]
  staticTypes := #[]
  resolved := Array.replicate 53 none
  statics := none }

def pool3 : Array CpInfo := pool [(1, .class_ 2), (0, u "com/example/winnow/winnow/engine/ContentElements"), (1, .class_ 6), (1, u "java/lang/Object"), (4, u "bytes"), (0, u "[B"), (2, u "offset"), (0, u "I"), (2, u "blockCount"), (0, u "(I)I"), (2, u "blocks"), (2, u "wholeRunsOnly"), (0, u "Z"), (5, u "index"), (22, u "level"), (36, .class_ 94), (0, u "java/util/Iterator"), (0, u "BLOCK_BYTES"), (2, u "MAX_BODY_BYTES"), (0, u "MAX_BLOCKS")] 16

def k3c0 : Code := { maxStack := 3, maxLocals := 1, code := prog_24_method_4_code, exceptionTable := #[], attributes := #[] }
def k3m0 : Method := { name := "blockCount", desc := "(I)I", sig := { parameters := [.int], returnType := some .int }, accessFlags := 8, code := some k3c0 }
/-- com/example/winnow/winnow/engine/ContentElements -/
def k3 : Class := { plain "com/example/winnow/winnow/engine/ContentElements" (some 0) with
  accessFlags := 32
  interfaces := #[2]
  cf := some (fileOf pool3 1 #[] #[{ accessFlags := 8, nameIndex := 19, descriptorIndex := 20, attributes := #[] }] 32 4 #[93] #[{ accessFlags := 24, nameIndex := 95, descriptorIndex := 16, attributes := #[] }, { accessFlags := 24, nameIndex := 98, descriptorIndex := 16, attributes := #[] }, { accessFlags := 24, nameIndex := 99, descriptorIndex := 16, attributes := #[] }, { accessFlags := 18, nameIndex := 11, descriptorIndex := 12, attributes := #[] }, { accessFlags := 18, nameIndex := 15, descriptorIndex := 16, attributes := #[] }, { accessFlags := 18, nameIndex := 23, descriptorIndex := 16, attributes := #[] }, { accessFlags := 18, nameIndex := 26, descriptorIndex := 27, attributes := #[] }, { accessFlags := 2, nameIndex := 56, descriptorIndex := 16, attributes := #[] }, { accessFlags := 2, nameIndex := 33, descriptorIndex := 16, attributes := #[] }])
  fields := #[{ name := "BLOCK_BYTES", type := .int, accessFlags := 24, slot := 0, constantValue := 0 }, { name := "MAX_BODY_BYTES", type := .int, accessFlags := 24, slot := 1, constantValue := 0 }, { name := "MAX_BLOCKS", type := .int, accessFlags := 24, slot := 2, constantValue := 0 }, { name := "bytes", type := (.array .byte), accessFlags := 18, slot := 0, constantValue := 0 }, { name := "offset", type := .int, accessFlags := 18, slot := 1, constantValue := 0 }, { name := "blocks", type := .int, accessFlags := 18, slot := 2, constantValue := 0 }, { name := "wholeRunsOnly", type := .boolean, accessFlags := 18, slot := 3, constantValue := 0 }, { name := "level", type := .int, accessFlags := 2, slot := 4, constantValue := 0 }, { name := "index", type := .int, accessFlags := 2, slot := 5, constantValue := 0 }]
  methods := #[k3m0]
  instanceTypes := #[(.array .byte), .int, .int, .boolean, .int, .int]
  staticTypes := #[.int, .int, .int]
  resolved := Array.replicate 116 none
  statics := none }

def pool4 : Array CpInfo := pool [(1, u "java/lang/Cloneable"), (0, .class_ 1), (0, u "java/lang/Object"), (0, .class_ 3)] 3

/-- java/lang/Cloneable -/
def k4 : Class := { plain "java/lang/Cloneable" (some 0) with
  accessFlags := 1537
  interfaces := #[]
  cf := some (fileOf pool4 2 #[] #[] 1537 4 #[] #[])
  fields := #[]
  methods := #[]
  instanceTypes := #[]
  staticTypes := #[]
  resolved := Array.replicate 8 none
  statics := none }

def pool5 : Array CpInfo := pool [(1, u "java/io/Serializable"), (0, .class_ 1), (0, u "java/lang/Object"), (0, .class_ 3)] 3

/-- java/io/Serializable -/
def k5 : Class := { plain "java/io/Serializable" (some 0) with
  accessFlags := 1537
  interfaces := #[]
  cf := some (fileOf pool5 2 #[] #[] 1537 4 #[] #[])
  fields := #[]
  methods := #[]
  instanceTypes := #[]
  staticTypes := #[]
  resolved := Array.replicate 8 none
  statics := none }

/-- the primitive byte -/
def k6 : Class := { plain "byte" none with kind := .primitive 'B', accessFlags := 0x411 }
/-- [B -/
def k7 : Class := { plain "[B" (some 0) with kind := .array 6 .byte, interfaces := #[4, 5], accessFlags := 1041 }

/-- the primitive int -/
def k8 : Class := { plain "int" none with kind := .primitive 'I', accessFlags := 0x411 }
/-- [I -/
def k9 : Class := { plain "[I" (some 0) with kind := .array 8 .int, interfaces := #[4, 5], accessFlags := 1041 }

def heap : Heap := #[]
def classes : Array Class := #[k0, k1, k2, k3, k4, k5, k6, k7, k8, k9]
def interned : List (Array UInt16 × Addr) := []
def slotsUsed : Nat := 0
def theMethod : MethodId := ⟨1, 1⟩
def args0 : Array Value := #[.int 77]
def aboutOver (below : List Frame) : State where
  vm := { classes := classes, interned := interned.toArray }
  heap := heap
  slotsUsed := slotsUsed
  threads := #[{ frames := .invoking theMethod args0 :: below }]
def below0 : List Frame := [.native { method := ⟨0, 0⟩, args := #[] }]
def about1 : State := aboutOver below0
def p0 : Program := .bare "" "" ""
def e0 : Env := launch0.env 0 0 0
theorem w_frames : about1.frames = Frame.invoking theMethod args0 :: below0 := rfl
set_option maxRecDepth 65536 in
theorem w_args : argsFit about1.vm theMethod args0 = true := by decide +kernel
set_option maxRecDepth 65536 in
theorem w_heap : heapFits about1 = true := by decide +kernel
set_option maxRecDepth 65536 in
theorem w_runnable : about1.curStatus? = some .runnable := by decide +kernel
set_option maxRecDepth 65536 in
theorem w_alone : about1.alone = true := by decide +kernel
set_option maxRecDepth 65536 in
theorem w_named : about1.methodNamed? x = some theMethod := by decide +kernel
set_option maxRecDepth 65536 in
theorem w_hears : about1.hears theMethod below0 = true := by decide +kernel
set_option maxRecDepth 65536 in
theorem w_ripe : about1.ripe theMethod args0 below0 = true := by decide +kernel
theorem w_running : about1.status = .running := rfl
set_option maxRecDepth 65536 in
theorem w_room : about1.hasRoom e0.platform room_1 = true :=
  launch0.hasRoom_least _ room_1 (by decide +kernel) (by decide +kernel) (by decide +kernel) (by decide +kernel) (by decide +kernel) (by decide +kernel)
theorem allAtoms_all (ts : List Jvm.Cond) (a : Array Jvm.Value) (st : Jvm.State) : (allAtoms ts).before a st = ts.all (fun c => c.before a st) := by
  induction ts with
  | nil => rfl
  | cons c t ih =>
    show (Jvm.Cond.and c (allAtoms t)).before a st = _
    rw [Jvm.Cond.before_and, ih, List.all_cons]
def words1 : List Jvm.Cond := Jvm.Cond.code x code maxLocals ret :: tables_1
/-- a 'code' word, met by the world's own term for the bytes: nothing is compared byte by byte -/
theorem code_word {y : MethodName} {bytes : ByteArray} {mx : Nat} {rt : Option FieldType} {a : Array Value} {s : State} {m : MethodId} {meth : Method} {c : Code} (h1 : s.methodNamed? y = some m) (h2 : s.vm.method? m = some meth) (h3 : meth.code = some c) (h4 : c.code = bytes)
    (h5 : (c.maxLocals == mx && c.exceptionTable.isEmpty && decide (c.maxStack ≤ mostOperands) && decide (meth.sig.returnType = rt) && !meth.locks && decide (parseMethodDescriptor y.desc = some meth.sig)) = true) : (Jvm.Cond.code y bytes mx rt).before a s = true := by
  simp only [Bool.and_eq_true, beq_iff_eq, Bool.not_eq_true', decide_eq_true_eq] at h5
  obtain ⟨⟨⟨⟨⟨g1, g2⟩, g3⟩, g4⟩, g5⟩, g6⟩ := h5
  simp [Cond.before, Cond.holds, Cond.value, h1, h2, h3, h4, g1, g2, g3, g4, g5, g6]
def isCode : Jvm.Cond → Bool
  | .code _ _ _ _ => true
  | _ => false
theorem all_split {L : List Jvm.Cond} {P : Jvm.Cond → Bool} (h1 : L.all (fun c => isCode c || P c) = true) (h2 : ∀ c ∈ L.filter isCode, P c = true) : L.all P = true := by
  refine List.all_eq_true.mpr fun c hc => ?_
  have h := List.all_eq_true.mp h1 c hc
  rcases Bool.eq_false_or_eq_true (isCode c) with hi | hi
  · exact h2 c (List.mem_filter.mpr ⟨hc, hi⟩)
  · simpa [hi] using h
set_option maxRecDepth 65536 in
theorem w_c0 : (Jvm.Cond.code x code maxLocals ret).before args0 about1 = true := code_word (m := ⟨1, 1⟩) (meth := k1m1) (c := k1c1) (by decide +kernel) rfl rfl rfl (by decide +kernel)
set_option maxRecDepth 65536 in
theorem w_c1 : (Jvm.Cond.code ({ cls := "com/example/winnow/winnow/engine/ContentElements", name := "blockCount", desc := "(I)I" } : Jvm.MethodName) prog_24_method_4_code (1 : Nat) (Option.some Jvm.ClassFile.FieldType.int)).before args0 about1 = true := code_word (m := ⟨3, 0⟩) (meth := k3m0) (c := k3c0) (by decide +kernel) rfl rfl rfl (by decide +kernel)
def codes1 : List Jvm.Cond := [Jvm.Cond.code x code maxLocals ret, Jvm.Cond.code ({ cls := "com/example/winnow/winnow/engine/ContentElements", name := "blockCount", desc := "(I)I" } : Jvm.MethodName) prog_24_method_4_code (1 : Nat) (Option.some Jvm.ClassFile.FieldType.int)]
set_option maxRecDepth 65536 in
theorem codes_eq : words1.filter isCode = codes1 := rfl
theorem w_codes : ∀ c ∈ words1.filter isCode, c.before args0 about1 = true := by
  rw [codes_eq]
  intro c hc
  simp only [codes1, List.mem_cons, List.not_mem_nil, or_false] at hc
  rcases hc with rfl | rfl
  · exact w_c0
  · exact w_c1
set_option maxRecDepth 65536 in
theorem w_t1 : words1.all (fun c => isCode c || c.before args0 about1) = true := by decide +kernel
theorem w_tables : (allAtoms (Jvm.Cond.code x code maxLocals ret :: tables_1)).before args0 about1 = true := by
  rw [allAtoms_all]
  show words1.all (fun c => c.before args0 about1) = true
  refine all_split ?_ w_codes
  rw [w_t1]
set_option maxRecDepth 65536 in
theorem w_case : (Jvm.Cond.and given_1 narrow_1).before args0 about1 = true := by decide +kernel
theorem w_applies : (headSpec (Jvm.Cond.code x code maxLocals ret :: tables_1) room_1).applies x e0.platform about1 = true :=
  (Spec.applies_iff w_frames).mpr ⟨w_running, w_runnable, w_alone, w_named, w_hears, w_ripe, w_room, w_tables⟩
theorem atStart : AtStart classFile x code maxLocals ret World_1 tables_1 room_1 Calls_1 rest_1 Pre_1 launch0 p0 e0 about1 theMethod args0 below0 :=
  ⟨lists_1, trivial, launch0.admits_env _ _ _, launch0.least_env, fairChoices_fair.cas, fairChoices_fair.clock, w_frames, w_args, w_heap, w_applies, trivial, trivial, w_case⟩
end start1
theorem witness_1 : WitnessClaimed_1 := ⟨start1.p0, start1.e0, start1.about1, start1.theMethod, start1.args0, start1.below0, start1.atStart⟩
end Jvm.Pilot.@@N@@
