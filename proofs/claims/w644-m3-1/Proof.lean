import JvmDerived
import JvmDerived.Pilot.@@N@@Statement
import JvmDerived.Pilot.@@N@@Code
set_option linter.unusedVariables false
set_option linter.unusedSimpArgs false
@@BLOCK:NumsL.lean.txt@@
namespace Jvm.Pilot.@@N@@
open Jvm Jvm.ClassFile Sem Op Lib Jvm.Free Jvm.Stand Jvm.LawKit Jvm.RoadKit Bundle Jvm.Pilot.@@N@@.Jvm.D
/-! 0. a walk by goals: 'Go .. F T g': from the frame g at the state T the body comes to an end of which F holds -/
def Go (tb : Tables) (e : Env) (below : List Frame) (F : Outcome → State → Prop) (T : State) (g : JFrame) : Prop :=
  ∃ s₂ o, Steps tb e below (T.setTop g) s₂ ∧ s₂.status = .running ∧ Ended s₂ below o ∧ F o s₂
def Fin (s : State) (Q : Option Value → Heap → List Loc → Prop) (rc rs : Nat) : Outcome → State → Prop :=
  fun o U => ∃ v L, o = .returned v ∧ Q v U.heap L ∧ FrameEnd s o U L rc rs
/-- a contract: called with as' at the heap h it returns, and Q holds of the value, the heap and the written places -/
def MetQ (l : Launch) (Z : State) (y : MethodName) (bytes : ByteArray) (maxL : Nat) (ret : Option FieldType) (ws : List Jvm.Cond) (rm : Room) (as' : Array Value) (h : Heap) (Q : Option Value → Heap → List Loc → Prop) : Prop :=
  MetFree l y (head1 (Jvm.Cond.code y bytes maxL ret :: ws) rm) (fun a U => a = as' ∧ Z.Warmed39 U.vm ∧ U.heap = h) (fun _ _ _ _ _ => True) (fun _ U o U' => ∃ v L, o = .returned v ∧ Q v U'.heap L ∧ FrameEnd U o U' L rm.cells rm.slots)
/-- what a pure method leaves: its value, nothing written -/
def PQ (w : Value) (h : Heap) : Option Value → Heap → List Loc → Prop := fun v h' L => v = some w ∧ L = [] ∧ h' = h
theorem own_narrow_ref {t : FieldType} {v : Value} (hv : v.isRef = true) : narrow t v = v := by rcases XT.refc hv with rfl | ⟨_, rfl⟩ <;> cases t <;> rfl
theorem own_fits_obj {C : String} {v : Value} (hv : v.isRef = true) : fits (.object C) v = true := by rcases XT.refc hv with rfl | ⟨_, rfl⟩ <;> rfl
theorem own_fits_arr {t : FieldType} {v : Value} (hv : v.isRef = true) : fits (.array t) v = true := by rcases XT.refc hv with rfl | ⟨_, rfl⟩ <;> rfl
section Walk
variable {tb : Tables} {p : Program} {l : Launch} {e : Env} {R : Room} {s : State} {m : MethodId} {args : Array Value} {below : List Frame} {meth : Method} {c : Code} {T T' : State} {locs : List Loc} {cells slots : Nat} {Z : State} {a0 : Array Value} {h : Heap} {F : Outcome → State → Prop} {g g' : JFrame} {Q : Option Value → Heap → List Loc → Prop}
theorem Go.st (st : ∀ t, Steps tb e below (T'.setTop g') t → Steps tb e below (T.setTop g) t) (k : Go tb e below F T' g') : Go tb e below F T g := by
  obtain ⟨a, b, q, r⟩ := k; exact ⟨a, b, st _ q, r⟩
theorem Go.tr (st : Steps tb e below (T.setTop g) (T'.setTop g')) (k : Go tb e below F T' g') : Go tb e below F T g := by
  obtain ⟨a, b, q, r⟩ := k; exact ⟨a, b, st.trans q, r⟩
theorem Go.cast (q : g = g') (k : Go tb e below F T g') : Go tb e below F T g := q ▸ k
theorem MetQ.body {y : MethodName} {bytes : ByteArray} {maxL : Nat} {ret : Option FieldType} {ws : List Jvm.Cond} {rm : Room} {as' : Array Value} (hp : plainFor y = true)
    (k : ∀ (p : Program) (e : Env) (s : State) (m : MethodId) (below : List Frame) (meth : Method) (c : Code) (s₁ : State), p.tables.exec = Jvm.exec → c.code = bytes → c.maxLocals = maxL → s.vm.findClass y.cls = some m.cls → meth.name = y.name → meth.sig.returnType = ret → meth.locks = false →
      Z.Warmed39 s.vm → s₁.heap = h → Stand p l e rm s m as' below meth c s₁ [] 0 0 → Go p.tables e below (Fin s Q rm.cells rm.slots) s₁ (entryFrame m as' maxL)) : MetQ l Z y bytes maxL ret ws rm as' h Q := by
  refine MetFree.of_bodySF hp hisR ?_
  intro p e s m args below meth c s₁ Bd hml0 hP hK
  obtain ⟨rfl, hZ, hh⟩ := hP
  exact k p e s m below meth c s₁ Bd.exec Bd.bytes hml0 (findClass_of_methodNamed Bd.named) (name_of_methodNamed Bd.named Bd.method).1 Bd.returns (BodyLoose.notSynchronized Bd) hZ (by rw [← hh, Bd.state]; rfl) (Stand.of_body Bd)
theorem Go.retI (X : Stand p l e R s m args below meth c T locs cells slots) (hx : p.tables.exec = Jvm.exec) (hlk : meth.locks = false) (hret : meth.sig.returnType = some .int) {pc : Nat} {Ls : Array Slot} {z : Int32} {rest : List Value} (hd : decode c.code pc = .ok (.ireturn, 1)) {rc rs : Nat} (hc : cells ≤ rc) (hs : slots ≤ rs) (hq : Q (some (.int z)) T.heap locs) :
    Go p.tables e below (Fin s Q rc rs) T (mkF m pc Ls (.int z :: rest)) := by
  obtain ⟨fs, hl, hrun, hended, hW, hsame⟩ := X.leave (v := some (.int z)) (fun h => by rw [hret] at h; cases h) hlk
  refine ⟨_, _, ?_, hrun, hended, _, _, rfl, hq, ⟨_, rfl⟩, hW, hsame.mono hc hs⟩
  have hm' : T.vm.method? m = some meth := X.method'
  have hn : narrow .int (.int z) = .int z := rfl
  show Steps p.tables e below (T.setTop { method := m, pc := pc, locals := Ls, stack := _ :: rest, locked := none }) _
  jvm_step X.here [X.here.top, hx, hd, hm', hret, hn]
  first | (intro acts; rw [hl _ acts rfl rfl rfl]) | rw [hl _ _ rfl rfl rfl]
  exact Steps.refl _
theorem Go.retN (X : Stand p l e R s m args below meth c T locs cells slots) (hx : p.tables.exec = Jvm.exec) (hlk : meth.locks = false) {t : FieldType} (hret : meth.sig.returnType = some t) (ht : t = .boolean ∨ t = .byte ∨ t = .char ∨ t = .short) {pc : Nat} {Ls : Array Slot} {z : Int32} {rest : List Value} (hd : decode c.code pc = .ok (.ireturn, 1)) {rc rs : Nat} (hc : cells ≤ rc) (hs : slots ≤ rs) (hq : Q (some (.int (nar t z))) T.heap locs) :
    Go p.tables e below (Fin s Q rc rs) T (mkF m pc Ls (.int z :: rest)) := by
  obtain ⟨fs, hl, hrun, hended, hW, hsame⟩ := X.leave (v := some (.int (nar t z))) (fun h => by rw [hret] at h; cases h) hlk
  exact ⟨_, _, Jvm.RoadKit.retN X hx hret ht hd hl, hrun, hended, _, _, rfl, hq, ⟨_, rfl⟩, hW, hsame.mono hc hs⟩
theorem Go.retJ (X : Stand p l e R s m args below meth c T locs cells slots) (hx : p.tables.exec = Jvm.exec) (hlk : meth.locks = false) (hret : meth.sig.returnType = some .long) {pc : Nat} {Ls : Array Slot} {z : Int64} (hd : decode c.code pc = .ok (.lreturn, 1)) {rc rs : Nat} (hc : cells ≤ rc) (hs : slots ≤ rs) (hq : Q (some (.long z)) T.heap locs) :
    Go p.tables e below (Fin s Q rc rs) T (mkF m pc Ls [.long z]) := by
  obtain ⟨fs, hl, hrun, hended, hW, hsame⟩ := X.leave (v := some (.long z)) (fun h => by rw [hret] at h; cases h) hlk
  exact ⟨_, _, X.lreturnOut hx hret hd hl, hrun, hended, _, _, rfl, hq, ⟨_, rfl⟩, hW, hsame.mono hc hs⟩
theorem Go.retA (X : Stand p l e R s m args below meth c T locs cells slots) (hx : p.tables.exec = Jvm.exec) (hlk : meth.locks = false) {t : FieldType} (hret : meth.sig.returnType = some t) (ht : t.isReference = true) {pc : Nat} {Ls : Array Slot} {w : Value} (hw : w.isRef = true) (hd : decode c.code pc = .ok (.areturn, 1)) {rc rs : Nat} (hc : cells ≤ rc) (hs : slots ≤ rs) (hq : Q (some w) T.heap locs) :
    Go p.tables e below (Fin s Q rc rs) T (mkF m pc Ls [w]) := by
  obtain ⟨fs, hl, hrun, hended, hW, hsame⟩ := X.leave (v := some w) (fun h => by rw [hret] at h; cases h) hlk
  exact ⟨_, _, X.areturnOut hx hw hret ht hd hl, hrun, hended, _, _, rfl, hq, ⟨_, rfl⟩, hW, hsame.mono hc hs⟩
theorem Go.retV (X : Stand p l e R s m args below meth c T locs cells slots) (hx : p.tables.exec = Jvm.exec) (hlk : meth.locks = false) (hret : meth.sig.returnType = none) {pc : Nat} {Ls : Array Slot} (hd : decode c.code pc = .ok (.return_, 1)) {rc rs : Nat} (hc : cells ≤ rc) (hs : slots ≤ rs) (hq : Q none T.heap locs) :
    Go p.tables e below (Fin s Q rc rs) T (mkF m pc Ls []) := by
  obtain ⟨fs, hl, hrun, hended, hW, hsame⟩ := X.leave (v := none) (fun _ => rfl) hlk
  exact ⟨_, _, X.returnOut hx hret hd hl, hrun, hended, _, _, rfl, hq, ⟨_, rfl⟩, hW, hsame.mono hc hs⟩
/-- a static call by its contract -/
theorem Go.callS (X : Stand p l e R s m args below meth c T locs cells slots) (hx : p.tables.exec = Jvm.exec) (hZ : Z.Warmed39 s.vm) {own : String} (hown : s.vm.findClass own = some m.cls) {index : Nat} {y : MethodName} {bytes : ByteArray} {maxL : Nat} {ret : Option FieldType} {rm : Room} {W : Nat} {argsL rest : List Value} {Qc : Option Value → Heap → List Loc → Prop}
    (w1 : (Jvm.Cond.methodLink own index y).before a0 Z = true) (w2 : (Jvm.Cond.static y).before a0 Z = true) (w3 : (Jvm.Cond.initialized y.cls).before a0 Z = true) (w4 : (Jvm.Cond.code y bytes maxL ret).before a0 Z = true) (hy : y.cls ≠ "java/lang/invoke/MethodHandle" ∧ y.cls ≠ "java/lang/invoke/VarHandle")
    (eT : T.heap = h) (hM : MetQ l Z y bytes maxL ret [] rm argsL.toArray h Qc) (hf : rm.frames + 1 ≤ R.frames) (hl : W + (maxL + 11) + rm.locals ≤ R.locals) (hc : cells + rm.cells ≤ R.cells) (hs : slots + rm.slots ≤ R.slots)
    (hg : g.method = m) (hsize : g.locals.size = c.maxLocals) (hlen : ∀ sig, parseMethodDescriptor y.desc = some sig → argsL.length = sig.parameters.length) (hstack : g.stack = argsL.reverse ++ rest) (hW : 2 * g.monitorRoom + (rest.map fun v => v.category).sum ≤ W) (hdg : decode c.code g.pc = .ok (.invokestatic index, 3))
    (k : ∀ (v : Option Value) (T' : State) (L : List Loc), Stand p l e R s m args below meth c T' (locs ++ L) (cells + rm.cells) (slots + rm.slots) → Qc v T'.heap L → Go p.tables e below F T' { g with pc := g.pc + 3, stack := v.toList ++ rest }) : Go p.tables e below F T g := by
  obtain ⟨v, vm1, ⟨T', L', c', n'⟩, -, X', ⟨L, hQ, e1, e2, e3⟩, st⟩ := Jvm.LawKit.callS X hx (y := y) hown (mvT hZ w1) (mvT hZ w2) (mvT hZ w3) (mvT hZ w4) hy (backOf (W := W) hM hZ w4 w3 hf hl) hg hsize hlen hstack hW hdg (fun _ _ => ⟨rfl, eT, hc, hs⟩)
  dsimp only [Pt.U, Pt.locs, Pt.cells, Pt.slots] at X' e1 e2 e3 st hQ
  subst e1 e2 e3
  exact Go.st st (k v T' L X' hQ)
/-- a pure static call by its contract -/
theorem Go.callP (X : Stand p l e R s m args below meth c T locs cells slots) (hx : p.tables.exec = Jvm.exec) (hZ : Z.Warmed39 s.vm) {own : String} (hown : s.vm.findClass own = some m.cls) {index : Nat} {y : MethodName} {bytes : ByteArray} {maxL : Nat} {ret : Option FieldType} {fr lo W : Nat} {argsL rest : List Value} {w : Value}
    (w1 : (Jvm.Cond.methodLink own index y).before a0 Z = true) (w2 : (Jvm.Cond.static y).before a0 Z = true) (w3 : (Jvm.Cond.initialized y.cls).before a0 Z = true) (w4 : (Jvm.Cond.code y bytes maxL ret).before a0 Z = true) (hy : y.cls ≠ "java/lang/invoke/MethodHandle" ∧ y.cls ≠ "java/lang/invoke/VarHandle")
    (eT : T.heap = h) (hM : MetQ l Z y bytes maxL ret [] ({ frames := fr, cells := 0, slots := 0, locals := lo } : Room) argsL.toArray h (PQ w h)) (hf : fr + 1 ≤ R.frames) (hl : W + (maxL + 11) + lo ≤ R.locals) (hc : cells ≤ R.cells) (hs : slots ≤ R.slots)
    (hg : g.method = m) (hsize : g.locals.size = c.maxLocals) (hlen : ∀ sig, parseMethodDescriptor y.desc = some sig → argsL.length = sig.parameters.length) (hstack : g.stack = argsL.reverse ++ rest) (hW : 2 * g.monitorRoom + (rest.map fun v => v.category).sum ≤ W) (hdg : decode c.code g.pc = .ok (.invokestatic index, 3))
    (k : ∀ (T' : State), Stand p l e R s m args below meth c T' locs cells slots → T'.heap = h → Go p.tables e below F T' { g with pc := g.pc + 3, stack := w :: rest }) : Go p.tables e below F T g := by
  refine Go.callS X hx hZ hown w1 w2 w3 w4 hy eT hM hf hl hc hs hg hsize hlen hstack hW hdg fun v T' L X' q => ?_
  obtain ⟨rfl, rfl, e'⟩ := q
  rw [List.append_nil] at X'
  exact k T' X' e'
/-- an instance call by its contract; the receiver is exactly a C -/
theorem Go.callV (X : Stand p l e R s m args below meth c T locs cells slots) (hx : p.tables.exec = Jvm.exec) (hZ : Z.Warmed39 s.vm) {own : String} (hown : s.vm.findClass own = some m.cls) {index : Nat} {y : MethodName} {C : String} {bytes : ByteArray} {maxL : Nat} {ret : Option FieldType} {rm : Room} {W : Nat} {argsL rest : List Value} {Qc : Option Value → Heap → List Loc → Prop}
    (w1 : (Jvm.Cond.methodLink own index y).before a0 Z = true) (w2 : (Jvm.Cond.declares y).before a0 Z = true) (w5 : (Jvm.Cond.selects C y y).before a0 Z = true) (w6 : (Jvm.Cond.instanceMethod y).before a0 Z = true) (w3 : (Jvm.Cond.initialized y.cls).before a0 Z = true) (w4 : (Jvm.Cond.code y bytes maxL ret).before a0 Z = true) (hy : y.cls ≠ "java/lang/invoke/MethodHandle" ∧ y.cls ≠ "java/lang/invoke/VarHandle") (hcy : C = y.cls)
    (eT : T.heap = h) {b : Addr} (E : Exa Z h b C) (hM : MetQ l Z y bytes maxL ret [] rm (.ref b :: argsL).toArray h Qc) (hf : rm.frames + 1 ≤ R.frames) (hl : W + (maxL + 11) + rm.locals ≤ R.locals) (hc : cells + rm.cells ≤ R.cells) (hs : slots + rm.slots ≤ R.slots)
    (hg : g.method = m) (hsize : g.locals.size = c.maxLocals) (hlen : ∀ sig, parseMethodDescriptor y.desc = some sig → argsL.length = sig.parameters.length) (hstack : g.stack = argsL.reverse ++ .ref b :: rest) (hW : 2 * g.monitorRoom + (rest.map fun v => v.category).sum ≤ W) (hdg : decode c.code g.pc = .ok (.invokevirtual index, 3))
    (k : ∀ (v : Option Value) (T' : State) (L : List Loc), Stand p l e R s m args below meth c T' (locs ++ L) (cells + rm.cells) (slots + rm.slots) → Qc v T'.heap L → Go p.tables e below F T' { g with pc := g.pc + 3, stack := v.toList ++ rest }) : Go p.tables e below F T g := by
  subst hcy
  obtain ⟨cq, kq, qa, qb, qc⟩ := isOf hZ eT E
  obtain ⟨v, vm1, ⟨T', L', c', n'⟩, -, X', ⟨L, hQ, e1, e2, e3⟩, st⟩ := X.virtualBack hx (y := y) (z := y) hown (mvT hZ w1) (mvT hZ w2) (notFace_of_selects (args := #[]) (mvT hZ w5)) (mvT hZ w5) (mvT hZ w6) hy (backOf (W := W) hM hZ w4 w3 hf hl) qa qc hg hsize (Steps.refl _) hlen hstack hW hdg (fun _ _ => ⟨rfl, eT, hc, hs⟩)
  dsimp only [Pt.U, Pt.locs, Pt.cells, Pt.slots] at X' e1 e2 e3 st hQ
  subst e1 e2 e3
  exact Go.tr st (k v T' L X' hQ)
/-- a constructor by its contract -/
theorem Go.callC (X : Stand p l e R s m args below meth c T locs cells slots) (hx : p.tables.exec = Jvm.exec) (hZ : Z.Warmed39 s.vm) {own : String} (hown : s.vm.findClass own = some m.cls) {index : Nat} {y : MethodName} {bytes : ByteArray} {maxL : Nat} {rm : Room} {W : Nat} {argsL rest : List Value} {Qc : Option Value → Heap → List Loc → Prop} (hy1 : y.name = "<init>")
    (w1 : (Jvm.Cond.methodLink own index y).before a0 Z = true) (w2 : (Jvm.Cond.instanceMethod y).before a0 Z = true) (w3 : (Jvm.Cond.initialized y.cls).before a0 Z = true) (w4 : (Jvm.Cond.code y bytes maxL none).before a0 Z = true) (hy : y.cls ≠ "java/lang/invoke/MethodHandle" ∧ y.cls ≠ "java/lang/invoke/VarHandle")
    (eT : T.heap = h) {b : Addr} (hM : MetQ l Z y bytes maxL none [] rm (.ref b :: argsL).toArray h Qc) (hf : rm.frames + 1 ≤ R.frames) (hl : W + (maxL + 11) + rm.locals ≤ R.locals) (hc : cells + rm.cells ≤ R.cells) (hs : slots + rm.slots ≤ R.slots)
    (hg : g.method = m) (hsize : g.locals.size = c.maxLocals) (hlen : ∀ sig, parseMethodDescriptor y.desc = some sig → argsL.length = sig.parameters.length) (hstack : g.stack = argsL.reverse ++ .ref b :: rest) (hW : 2 * g.monitorRoom + (rest.map fun v => v.category).sum ≤ W) (hdg : decode c.code g.pc = .ok (.invokespecial index, 3))
    (k : ∀ (v : Option Value) (T' : State) (L : List Loc), Stand p l e R s m args below meth c T' (locs ++ L) (cells + rm.cells) (slots + rm.slots) → Qc v T'.heap L → Go p.tables e below F T' { g with pc := g.pc + 3, stack := v.toList ++ rest }) : Go p.tables e below F T g := by
  obtain ⟨v, vm1, ⟨T', L', c', n'⟩, -, X', ⟨L, hQ, e1, e2, e3⟩, st⟩ := X.specialBack hx (y := y) hy1 hown (mvT hZ w1) (mvT hZ w2) (mvT hZ w4) hy (backOf (W := W) hM hZ w4 w3 hf hl) hg hsize (Steps.refl _) hlen hstack hW hdg (fun _ _ => ⟨rfl, eT, hc, hs⟩)
  dsimp only [Pt.U, Pt.locs, Pt.cells, Pt.slots] at X' e1 e2 e3 st hQ
  subst e1 e2 e3
  exact Go.tr st (k v T' L X' hQ)
end Walk
/-! a walk that may intern String constants: its end is said of the true start -/
def FinW (s : State) (Q : Option Value → Heap → List Loc → Prop) (rc rs : Nat) : Outcome → State → Prop :=
  fun o U => ∃ v L, o = .returned v ∧ Q v U.heap L ∧ ReturnedEndW s o U L rc rs
def MetW (l : Launch) (Z : State) (y : MethodName) (bytes : ByteArray) (maxL : Nat) (ret : Option FieldType) (ws : List Jvm.Cond) (rm : Room) (as' : Array Value) (Q : Option Value → Heap → List Loc → Prop) : Prop :=
  MetFree l y (head1 (Jvm.Cond.code y bytes maxL ret :: ws) rm) (fun a U => a = as' ∧ U = Z) (fun _ _ _ _ _ => True) (fun _ U o U' => ∃ v L, o = .returned v ∧ Q v U'.heap L ∧ ReturnedEndW U o U' L rm.cells rm.slots)
theorem MetW.body {l : Launch} {Z : State} {Q : Option Value → Heap → List Loc → Prop} {y : MethodName} {bytes : ByteArray} {maxL : Nat} {ret : Option FieldType} {ws : List Jvm.Cond} {rm : Room} {as' : Array Value} (hp : plainFor y = true)
    (k : ∀ (p : Program) (e : Env) (m : MethodId) (below : List Frame) (meth : Method) (c : Code) (s₁ : State), p.tables.exec = Jvm.exec → c.code = bytes → c.maxLocals = maxL → Z.vm.findClass y.cls = some m.cls → meth.name = y.name → meth.sig.returnType = ret → meth.locks = false →
      Z.Warmed39 Z.vm → s₁.heap = Z.heap → Stand p l e rm Z m as' below meth c s₁ [] 0 0 → Go p.tables e below (FinW Z Q rm.cells rm.slots) s₁ (entryFrame m as' maxL)) : MetW l Z y bytes maxL ret ws rm as' Q := by
  refine MetFree.of_bodySF hp hisR ?_
  intro p e s m args below meth c s₁ Bd hml0 hP hK
  obtain ⟨rfl, rfl⟩ := hP
  exact k p e m below meth c s₁ Bd.exec Bd.bytes hml0 (findClass_of_methodNamed Bd.named) (name_of_methodNamed Bd.named Bd.method).1 Bd.returns (BodyLoose.notSynchronized Bd) (State.Warmed39.refl _) (by rw [Bd.state]; rfl) (Stand.of_body Bd)
theorem Go.retNW {p : Program} {l : Launch} {e : Env} {R : Room} {s : State} {vm1 : Vm} {m : MethodId} {args : Array Value} {below : List Frame} {meth : Method} {c : Code} {T : State} {locs : List Loc} {cells slots : Nat} {Q : Option Value → Heap → List Loc → Prop}
    (X : Stand p l e R (s.setVm vm1) m args below meth c T locs cells slots) {n : Nat} (hS : s.Since vm1 n) (hn : n ≤ T.heap.size) (hx : p.tables.exec = Jvm.exec) (hlk : meth.locks = false) {t : FieldType} (hret : meth.sig.returnType = some t) (ht : t = .boolean ∨ t = .byte ∨ t = .char ∨ t = .short) {pc : Nat} {Ls : Array Slot} {z : Int32} {rest : List Value} (hd : decode c.code pc = .ok (.ireturn, 1)) {rc rs : Nat} (hc : cells ≤ rc) (hs : slots ≤ rs) (hq : Q (some (.int (nar t z))) T.heap locs) :
    Go p.tables e below (FinW s Q rc rs) T (mkF m pc Ls (.int z :: rest)) := by
  obtain ⟨fs, hl, hrun, hended, hE⟩ := (X.more hc hs).leaveW hS hn (v := some (.int (nar t z))) (fun h => by rw [hret] at h; cases h) hlk
  exact ⟨_, _, Jvm.RoadKit.retN X hx hret ht hd hl, hrun, hended, _, _, rfl, hq, hE⟩
def own_us : List Value := [(.int (48 : Int32)), (.int (49 : Int32)), (.int (50 : Int32)), (.int (51 : Int32)), (.int (52 : Int32)), (.int (53 : Int32)), (.int (54 : Int32)), (.int (55 : Int32)), (.int (56 : Int32)), (.int (57 : Int32)), (.int (65 : Int32)), (.int (66 : Int32)), (.int (67 : Int32)), (.int (68 : Int32)), (.int (69 : Int32)), (.int (70 : Int32))]
def own_ls : List Value := [(.int (48 : Int32)), (.int (49 : Int32)), (.int (50 : Int32)), (.int (51 : Int32)), (.int (52 : Int32)), (.int (53 : Int32)), (.int (54 : Int32)), (.int (55 : Int32)), (.int (56 : Int32)), (.int (57 : Int32)), (.int (97 : Int32)), (.int (98 : Int32)), (.int (99 : Int32)), (.int (100 : Int32)), (.int (101 : Int32)), (.int (102 : Int32))]
theorem pd_0 : parseMethodDescriptor "(C)I" = some ⟨[.char], some .int⟩ := by decide +kernel
theorem d1_0 : decode prog_63_method_6_code 0 = .ok (.iload_n 0, 1) := by decide +kernel
theorem d1_1 : decode prog_63_method_6_code 1 = .ok (.bipush 48, 2) := by decide +kernel
theorem d1_3 : decode prog_63_method_6_code 3 = .ok (.if_icmp .lt 17, 3) := by decide +kernel
theorem d1_6 : decode prog_63_method_6_code 6 = .ok (.iload_n 0, 1) := by decide +kernel
theorem d1_7 : decode prog_63_method_6_code 7 = .ok (.bipush 57, 2) := by decide +kernel
theorem d1_9 : decode prog_63_method_6_code 9 = .ok (.if_icmp .gt 11, 3) := by decide +kernel
theorem d1_12 : decode prog_63_method_6_code 12 = .ok (.iload_n 0, 1) := by decide +kernel
theorem d1_13 : decode prog_63_method_6_code 13 = .ok (.bipush 48, 2) := by decide +kernel
theorem d1_15 : decode prog_63_method_6_code 15 = .ok (.isub, 1) := by decide +kernel
theorem d1_16 : decode prog_63_method_6_code 16 = .ok (.istore_n 1, 1) := by decide +kernel
theorem d1_17 : decode prog_63_method_6_code 17 = .ok (.goto 51, 3) := by decide +kernel
theorem d1_20 : decode prog_63_method_6_code 20 = .ok (.iload_n 0, 1) := by decide +kernel
theorem d1_21 : decode prog_63_method_6_code 21 = .ok (.bipush 65, 2) := by decide +kernel
theorem d1_23 : decode prog_63_method_6_code 23 = .ok (.if_icmp .lt 20, 3) := by decide +kernel
theorem d1_26 : decode prog_63_method_6_code 26 = .ok (.iload_n 0, 1) := by decide +kernel
theorem d1_27 : decode prog_63_method_6_code 27 = .ok (.bipush 70, 2) := by decide +kernel
theorem d1_29 : decode prog_63_method_6_code 29 = .ok (.if_icmp .gt 14, 3) := by decide +kernel
theorem d1_32 : decode prog_63_method_6_code 32 = .ok (.iload_n 0, 1) := by decide +kernel
theorem d1_33 : decode prog_63_method_6_code 33 = .ok (.bipush 65, 2) := by decide +kernel
theorem d1_35 : decode prog_63_method_6_code 35 = .ok (.isub, 1) := by decide +kernel
theorem d1_36 : decode prog_63_method_6_code 36 = .ok (.bipush 10, 2) := by decide +kernel
theorem d1_38 : decode prog_63_method_6_code 38 = .ok (.iadd, 1) := by decide +kernel
theorem d1_39 : decode prog_63_method_6_code 39 = .ok (.istore_n 1, 1) := by decide +kernel
theorem d1_40 : decode prog_63_method_6_code 40 = .ok (.goto 28, 3) := by decide +kernel
theorem d1_43 : decode prog_63_method_6_code 43 = .ok (.iload_n 0, 1) := by decide +kernel
theorem d1_44 : decode prog_63_method_6_code 44 = .ok (.bipush 97, 2) := by decide +kernel
theorem d1_46 : decode prog_63_method_6_code 46 = .ok (.if_icmp .lt 20, 3) := by decide +kernel
theorem d1_49 : decode prog_63_method_6_code 49 = .ok (.iload_n 0, 1) := by decide +kernel
theorem d1_50 : decode prog_63_method_6_code 50 = .ok (.bipush 102, 2) := by decide +kernel
theorem d1_52 : decode prog_63_method_6_code 52 = .ok (.if_icmp .gt 14, 3) := by decide +kernel
theorem d1_55 : decode prog_63_method_6_code 55 = .ok (.iload_n 0, 1) := by decide +kernel
theorem d1_56 : decode prog_63_method_6_code 56 = .ok (.bipush 97, 2) := by decide +kernel
theorem d1_58 : decode prog_63_method_6_code 58 = .ok (.isub, 1) := by decide +kernel
theorem d1_59 : decode prog_63_method_6_code 59 = .ok (.bipush 10, 2) := by decide +kernel
theorem d1_61 : decode prog_63_method_6_code 61 = .ok (.iadd, 1) := by decide +kernel
theorem d1_62 : decode prog_63_method_6_code 62 = .ok (.istore_n 1, 1) := by decide +kernel
theorem d1_63 : decode prog_63_method_6_code 63 = .ok (.goto 5, 3) := by decide +kernel
theorem d1_66 : decode prog_63_method_6_code 66 = .ok (.iconst (-1), 1) := by decide +kernel
theorem d1_67 : decode prog_63_method_6_code 67 = .ok (.istore_n 1, 1) := by decide +kernel
theorem d1_68 : decode prog_63_method_6_code 68 = .ok (.iload_n 1, 1) := by decide +kernel
theorem d1_69 : decode prog_63_method_6_code 69 = .ok (.ireturn, 1) := by decide +kernel
theorem pn_0 : plainName "com/example/omqr/omqr/rdf/Terminals" = true := by first | (simp [plainName, overriddenIn]; done) | decide +kernel
def f1 (p0 : Int32) : Int32 := (if p0 < (48 : Int32) then (if p0 < (65 : Int32) then (if p0 < (97 : Int32) then (-1 : Int32) else (if (102 : Int32) < p0 then (-1 : Int32) else ((p0 - (97 : Int32)) + (10 : Int32)))) else (if (70 : Int32) < p0 then (if p0 < (97 : Int32) then (-1 : Int32) else (if (102 : Int32) < p0 then (-1 : Int32) else ((p0 - (97 : Int32)) + (10 : Int32)))) else ((p0 - (65 : Int32)) + (10 : Int32)))) else (if (57 : Int32) < p0 then (if p0 < (65 : Int32) then (if p0 < (97 : Int32) then (-1 : Int32) else (if (102 : Int32) < p0 then (-1 : Int32) else ((p0 - (97 : Int32)) + (10 : Int32)))) else (if (70 : Int32) < p0 then (if p0 < (97 : Int32) then (-1 : Int32) else (if (102 : Int32) < p0 then (-1 : Int32) else ((p0 - (97 : Int32)) + (10 : Int32)))) else ((p0 - (65 : Int32)) + (10 : Int32)))) else (p0 - (48 : Int32))))
theorem ef_rm1 (m : MethodId) (p0 : Int32)  : entryFrame m #[(.int p0)] 2 = mkF m 0 #[.val (.int p0), .unset] [] := by first | (simp [entryFrame, mkF, argsToLocals, Value.category]; done) | rfl
set_option maxRecDepth 65536 in
set_option maxHeartbeats 40000000 in
theorem rm1 (l : Launch) (Z : State) (a0 : Array Value) (hw : ∀ d ∈ tables_1, d.before a0 Z = true) (p0 : Int32)  (h0 : Heap)  :
    MetQ l Z (⟨"com/example/omqr/omqr/rdf/Terminals", "hexDigitValue", "(C)I"⟩ : MethodName) prog_63_method_6_code 2 (some .int) [] ({ frames := 0, cells := 0, slots := 0, locals := 0 } : Room) #[(.int p0)] h0 (PQ (.int (f1 p0)) h0) := by
  refine MetQ.body (plainFor_of_name pn_0) fun p e s m below meth c s₁ hx hby hml hown hnm hret hlk hZ e0 X0 => Go.cast (ef_rm1 m p0) ?_
  refine Go.st (T' := s₁) (g' := (mkF m 1 #[.val (.int p0), .unset] [(.int p0)])) (fun _ hr => XS.iloadN X0.here hx rfl (hb hby d1_0) rfl hr) ?_
  refine Go.st (T' := s₁) (g' := (mkF m 3 #[.val (.int p0), .unset] [(.int (48 : Int32)), (.int p0)])) (fun _ hr => XT.bipushV X0.here hx rfl (48 : Int32) (hb hby d1_1) (by decide) hr) ?_
  have J68_1 : ∀ (T2 : State), Stand p l e ({ frames := 0, cells := 0, slots := 0, locals := 0 } : Room) s m #[(.int p0)] below meth c T2 [] 0 0 → T2.heap = h0 → Go p.tables e below (Fin s (PQ (.int (f1 p0)) h0) ({ frames := 0, cells := 0, slots := 0, locals := 0 } : Room).cells ({ frames := 0, cells := 0, slots := 0, locals := 0 } : Room).slots) T2 (mkF m 68 #[.val (.int p0), .val (.int (if p0 < (48 : Int32) then (if p0 < (65 : Int32) then (if p0 < (97 : Int32) then (-1 : Int32) else (if (102 : Int32) < p0 then (-1 : Int32) else ((p0 - (97 : Int32)) + (10 : Int32)))) else (if (70 : Int32) < p0 then (if p0 < (97 : Int32) then (-1 : Int32) else (if (102 : Int32) < p0 then (-1 : Int32) else ((p0 - (97 : Int32)) + (10 : Int32)))) else ((p0 - (65 : Int32)) + (10 : Int32)))) else (if (57 : Int32) < p0 then (if p0 < (65 : Int32) then (if p0 < (97 : Int32) then (-1 : Int32) else (if (102 : Int32) < p0 then (-1 : Int32) else ((p0 - (97 : Int32)) + (10 : Int32)))) else (if (70 : Int32) < p0 then (if p0 < (97 : Int32) then (-1 : Int32) else (if (102 : Int32) < p0 then (-1 : Int32) else ((p0 - (97 : Int32)) + (10 : Int32)))) else ((p0 - (65 : Int32)) + (10 : Int32)))) else (p0 - (48 : Int32)))))] []) := by
    intro T2 X2 e2
    refine Go.st (T' := T2) (g' := (mkF m 69 #[.val (.int p0), .val (.int (if p0 < (48 : Int32) then (if p0 < (65 : Int32) then (if p0 < (97 : Int32) then (-1 : Int32) else (if (102 : Int32) < p0 then (-1 : Int32) else ((p0 - (97 : Int32)) + (10 : Int32)))) else (if (70 : Int32) < p0 then (if p0 < (97 : Int32) then (-1 : Int32) else (if (102 : Int32) < p0 then (-1 : Int32) else ((p0 - (97 : Int32)) + (10 : Int32)))) else ((p0 - (65 : Int32)) + (10 : Int32)))) else (if (57 : Int32) < p0 then (if p0 < (65 : Int32) then (if p0 < (97 : Int32) then (-1 : Int32) else (if (102 : Int32) < p0 then (-1 : Int32) else ((p0 - (97 : Int32)) + (10 : Int32)))) else (if (70 : Int32) < p0 then (if p0 < (97 : Int32) then (-1 : Int32) else (if (102 : Int32) < p0 then (-1 : Int32) else ((p0 - (97 : Int32)) + (10 : Int32)))) else ((p0 - (65 : Int32)) + (10 : Int32)))) else (p0 - (48 : Int32)))))] [(.int (if p0 < (48 : Int32) then (if p0 < (65 : Int32) then (if p0 < (97 : Int32) then (-1 : Int32) else (if (102 : Int32) < p0 then (-1 : Int32) else ((p0 - (97 : Int32)) + (10 : Int32)))) else (if (70 : Int32) < p0 then (if p0 < (97 : Int32) then (-1 : Int32) else (if (102 : Int32) < p0 then (-1 : Int32) else ((p0 - (97 : Int32)) + (10 : Int32)))) else ((p0 - (65 : Int32)) + (10 : Int32)))) else (if (57 : Int32) < p0 then (if p0 < (65 : Int32) then (if p0 < (97 : Int32) then (-1 : Int32) else (if (102 : Int32) < p0 then (-1 : Int32) else ((p0 - (97 : Int32)) + (10 : Int32)))) else (if (70 : Int32) < p0 then (if p0 < (97 : Int32) then (-1 : Int32) else (if (102 : Int32) < p0 then (-1 : Int32) else ((p0 - (97 : Int32)) + (10 : Int32)))) else ((p0 - (65 : Int32)) + (10 : Int32)))) else (p0 - (48 : Int32)))))])) (fun _ hr => XS.iloadN X2.here hx rfl (hb hby d1_68) rfl hr) ?_
    exact Go.retI X2 hx hlk hret (hb hby d1_69) (Nat.zero_le _) (Nat.zero_le _) ⟨congrArg (fun z => some (Value.int z)) (by simp only [f1]), rfl, e2⟩
  by_cases c3_3 : p0 < (48 : Int32)
  · refine Go.st (T' := s₁) (g' := (mkF m 20 #[.val (.int p0), .unset] [])) (fun _ hr => XS.icmpYes X0.here hx rfl (pc0 := 3) (pc' := 20) rfl (hb hby d1_3) rfl (XT.ii_lt_t c3_3) (by decide) (by decide) hr) ?_
    refine Go.st (T' := s₁) (g' := (mkF m 21 #[.val (.int p0), .unset] [(.int p0)])) (fun _ hr => XS.iloadN X0.here hx rfl (hb hby d1_20) rfl hr) ?_
    refine Go.st (T' := s₁) (g' := (mkF m 23 #[.val (.int p0), .unset] [(.int (65 : Int32)), (.int p0)])) (fun _ hr => XT.bipushV X0.here hx rfl (65 : Int32) (hb hby d1_21) (by decide) hr) ?_
    by_cases c23_4 : p0 < (65 : Int32)
    · refine Go.st (T' := s₁) (g' := (mkF m 43 #[.val (.int p0), .unset] [])) (fun _ hr => XS.icmpYes X0.here hx rfl (pc0 := 23) (pc' := 43) rfl (hb hby d1_23) rfl (XT.ii_lt_t c23_4) (by decide) (by decide) hr) ?_
      refine Go.st (T' := s₁) (g' := (mkF m 44 #[.val (.int p0), .unset] [(.int p0)])) (fun _ hr => XS.iloadN X0.here hx rfl (hb hby d1_43) rfl hr) ?_
      refine Go.st (T' := s₁) (g' := (mkF m 46 #[.val (.int p0), .unset] [(.int (97 : Int32)), (.int p0)])) (fun _ hr => XT.bipushV X0.here hx rfl (97 : Int32) (hb hby d1_44) (by decide) hr) ?_
      by_cases c46_5 : p0 < (97 : Int32)
      · refine Go.st (T' := s₁) (g' := (mkF m 66 #[.val (.int p0), .unset] [])) (fun _ hr => XS.icmpYes X0.here hx rfl (pc0 := 46) (pc' := 66) rfl (hb hby d1_46) rfl (XT.ii_lt_t c46_5) (by decide) (by decide) hr) ?_
        refine Go.st (T' := s₁) (g' := (mkF m 67 #[.val (.int p0), .unset] [(.int (-1 : Int32))])) (fun _ hr => XT.iconstV X0.here hx rfl (-1 : Int32) (hb hby d1_66) (by decide) hr) ?_
        refine Go.st (T' := s₁) (g' := (mkF m 68 #[.val (.int p0), .val (.int (-1 : Int32))] [])) (fun _ hr => XS.istoreN X0.here hx rfl (hb hby d1_67) rfl (l' := #[.val (.int p0), .val (.int (-1 : Int32))]) rfl hr) ?_
        exact Go.cast (by first | rfl | simp only [if_pos c3_3, if_pos c23_4, if_pos c46_5]) (J68_1 s₁ X0 e0)
      · refine Go.st (T' := s₁) (g' := (mkF m 49 #[.val (.int p0), .unset] [])) (fun _ hr => XS.icmpNo X0.here hx rfl (hb hby d1_46) rfl (XT.ii_lt_f c46_5) hr) ?_
        refine Go.st (T' := s₁) (g' := (mkF m 50 #[.val (.int p0), .unset] [(.int p0)])) (fun _ hr => XS.iloadN X0.here hx rfl (hb hby d1_49) rfl hr) ?_
        refine Go.st (T' := s₁) (g' := (mkF m 52 #[.val (.int p0), .unset] [(.int (102 : Int32)), (.int p0)])) (fun _ hr => XT.bipushV X0.here hx rfl (102 : Int32) (hb hby d1_50) (by decide) hr) ?_
        by_cases c52_6 : (102 : Int32) < p0
        · refine Go.st (T' := s₁) (g' := (mkF m 66 #[.val (.int p0), .unset] [])) (fun _ hr => XS.icmpYes X0.here hx rfl (pc0 := 52) (pc' := 66) rfl (hb hby d1_52) rfl (XT.ii_gt_t c52_6) (by decide) (by decide) hr) ?_
          refine Go.st (T' := s₁) (g' := (mkF m 67 #[.val (.int p0), .unset] [(.int (-1 : Int32))])) (fun _ hr => XT.iconstV X0.here hx rfl (-1 : Int32) (hb hby d1_66) (by decide) hr) ?_
          refine Go.st (T' := s₁) (g' := (mkF m 68 #[.val (.int p0), .val (.int (-1 : Int32))] [])) (fun _ hr => XS.istoreN X0.here hx rfl (hb hby d1_67) rfl (l' := #[.val (.int p0), .val (.int (-1 : Int32))]) rfl hr) ?_
          exact Go.cast (by first | rfl | simp only [if_pos c3_3, if_pos c23_4, if_neg c46_5, if_pos c52_6]) (J68_1 s₁ X0 e0)
        · refine Go.st (T' := s₁) (g' := (mkF m 55 #[.val (.int p0), .unset] [])) (fun _ hr => XS.icmpNo X0.here hx rfl (hb hby d1_52) rfl (XT.ii_gt_f c52_6) hr) ?_
          refine Go.st (T' := s₁) (g' := (mkF m 56 #[.val (.int p0), .unset] [(.int p0)])) (fun _ hr => XS.iloadN X0.here hx rfl (hb hby d1_55) rfl hr) ?_
          refine Go.st (T' := s₁) (g' := (mkF m 58 #[.val (.int p0), .unset] [(.int (97 : Int32)), (.int p0)])) (fun _ hr => XT.bipushV X0.here hx rfl (97 : Int32) (hb hby d1_56) (by decide) hr) ?_
          refine Go.st (T' := s₁) (g' := (mkF m 59 #[.val (.int p0), .unset] [(.int (p0 - (97 : Int32)))])) (fun _ hr => XS.isub X0.here hx rfl (hb hby d1_58) rfl hr) ?_
          refine Go.st (T' := s₁) (g' := (mkF m 61 #[.val (.int p0), .unset] [(.int (10 : Int32)), (.int (p0 - (97 : Int32)))])) (fun _ hr => XT.bipushV X0.here hx rfl (10 : Int32) (hb hby d1_59) (by decide) hr) ?_
          refine Go.st (T' := s₁) (g' := (mkF m 62 #[.val (.int p0), .unset] [(.int ((p0 - (97 : Int32)) + (10 : Int32)))])) (fun _ hr => XS.iadd X0.here hx rfl (hb hby d1_61) rfl hr) ?_
          refine Go.st (T' := s₁) (g' := (mkF m 63 #[.val (.int p0), .val (.int ((p0 - (97 : Int32)) + (10 : Int32)))] [])) (fun _ hr => XS.istoreN X0.here hx rfl (hb hby d1_62) rfl (l' := #[.val (.int p0), .val (.int ((p0 - (97 : Int32)) + (10 : Int32)))]) rfl hr) ?_
          refine Go.st (T' := s₁) (g' := (mkF m 68 #[.val (.int p0), .val (.int ((p0 - (97 : Int32)) + (10 : Int32)))] [])) (fun _ hr => XS.goto X0.here hx rfl (pc0 := 63) (pc' := 68) rfl (hb hby d1_63) (by decide) (by decide) hr) ?_
          exact Go.cast (by first | rfl | simp only [if_pos c3_3, if_pos c23_4, if_neg c46_5, if_neg c52_6]) (J68_1 s₁ X0 e0)
    · refine Go.st (T' := s₁) (g' := (mkF m 26 #[.val (.int p0), .unset] [])) (fun _ hr => XS.icmpNo X0.here hx rfl (hb hby d1_23) rfl (XT.ii_lt_f c23_4) hr) ?_
      refine Go.st (T' := s₁) (g' := (mkF m 27 #[.val (.int p0), .unset] [(.int p0)])) (fun _ hr => XS.iloadN X0.here hx rfl (hb hby d1_26) rfl hr) ?_
      refine Go.st (T' := s₁) (g' := (mkF m 29 #[.val (.int p0), .unset] [(.int (70 : Int32)), (.int p0)])) (fun _ hr => XT.bipushV X0.here hx rfl (70 : Int32) (hb hby d1_27) (by decide) hr) ?_
      by_cases c29_7 : (70 : Int32) < p0
      · refine Go.st (T' := s₁) (g' := (mkF m 43 #[.val (.int p0), .unset] [])) (fun _ hr => XS.icmpYes X0.here hx rfl (pc0 := 29) (pc' := 43) rfl (hb hby d1_29) rfl (XT.ii_gt_t c29_7) (by decide) (by decide) hr) ?_
        refine Go.st (T' := s₁) (g' := (mkF m 44 #[.val (.int p0), .unset] [(.int p0)])) (fun _ hr => XS.iloadN X0.here hx rfl (hb hby d1_43) rfl hr) ?_
        refine Go.st (T' := s₁) (g' := (mkF m 46 #[.val (.int p0), .unset] [(.int (97 : Int32)), (.int p0)])) (fun _ hr => XT.bipushV X0.here hx rfl (97 : Int32) (hb hby d1_44) (by decide) hr) ?_
        by_cases c46_8 : p0 < (97 : Int32)
        · refine Go.st (T' := s₁) (g' := (mkF m 66 #[.val (.int p0), .unset] [])) (fun _ hr => XS.icmpYes X0.here hx rfl (pc0 := 46) (pc' := 66) rfl (hb hby d1_46) rfl (XT.ii_lt_t c46_8) (by decide) (by decide) hr) ?_
          refine Go.st (T' := s₁) (g' := (mkF m 67 #[.val (.int p0), .unset] [(.int (-1 : Int32))])) (fun _ hr => XT.iconstV X0.here hx rfl (-1 : Int32) (hb hby d1_66) (by decide) hr) ?_
          refine Go.st (T' := s₁) (g' := (mkF m 68 #[.val (.int p0), .val (.int (-1 : Int32))] [])) (fun _ hr => XS.istoreN X0.here hx rfl (hb hby d1_67) rfl (l' := #[.val (.int p0), .val (.int (-1 : Int32))]) rfl hr) ?_
          exact Go.cast (by first | rfl | simp only [if_pos c3_3, if_neg c23_4, if_pos c29_7, if_pos c46_8]) (J68_1 s₁ X0 e0)
        · refine Go.st (T' := s₁) (g' := (mkF m 49 #[.val (.int p0), .unset] [])) (fun _ hr => XS.icmpNo X0.here hx rfl (hb hby d1_46) rfl (XT.ii_lt_f c46_8) hr) ?_
          refine Go.st (T' := s₁) (g' := (mkF m 50 #[.val (.int p0), .unset] [(.int p0)])) (fun _ hr => XS.iloadN X0.here hx rfl (hb hby d1_49) rfl hr) ?_
          refine Go.st (T' := s₁) (g' := (mkF m 52 #[.val (.int p0), .unset] [(.int (102 : Int32)), (.int p0)])) (fun _ hr => XT.bipushV X0.here hx rfl (102 : Int32) (hb hby d1_50) (by decide) hr) ?_
          by_cases c52_9 : (102 : Int32) < p0
          · refine Go.st (T' := s₁) (g' := (mkF m 66 #[.val (.int p0), .unset] [])) (fun _ hr => XS.icmpYes X0.here hx rfl (pc0 := 52) (pc' := 66) rfl (hb hby d1_52) rfl (XT.ii_gt_t c52_9) (by decide) (by decide) hr) ?_
            refine Go.st (T' := s₁) (g' := (mkF m 67 #[.val (.int p0), .unset] [(.int (-1 : Int32))])) (fun _ hr => XT.iconstV X0.here hx rfl (-1 : Int32) (hb hby d1_66) (by decide) hr) ?_
            refine Go.st (T' := s₁) (g' := (mkF m 68 #[.val (.int p0), .val (.int (-1 : Int32))] [])) (fun _ hr => XS.istoreN X0.here hx rfl (hb hby d1_67) rfl (l' := #[.val (.int p0), .val (.int (-1 : Int32))]) rfl hr) ?_
            exact Go.cast (by first | rfl | simp only [if_pos c3_3, if_neg c23_4, if_pos c29_7, if_neg c46_8, if_pos c52_9]) (J68_1 s₁ X0 e0)
          · refine Go.st (T' := s₁) (g' := (mkF m 55 #[.val (.int p0), .unset] [])) (fun _ hr => XS.icmpNo X0.here hx rfl (hb hby d1_52) rfl (XT.ii_gt_f c52_9) hr) ?_
            refine Go.st (T' := s₁) (g' := (mkF m 56 #[.val (.int p0), .unset] [(.int p0)])) (fun _ hr => XS.iloadN X0.here hx rfl (hb hby d1_55) rfl hr) ?_
            refine Go.st (T' := s₁) (g' := (mkF m 58 #[.val (.int p0), .unset] [(.int (97 : Int32)), (.int p0)])) (fun _ hr => XT.bipushV X0.here hx rfl (97 : Int32) (hb hby d1_56) (by decide) hr) ?_
            refine Go.st (T' := s₁) (g' := (mkF m 59 #[.val (.int p0), .unset] [(.int (p0 - (97 : Int32)))])) (fun _ hr => XS.isub X0.here hx rfl (hb hby d1_58) rfl hr) ?_
            refine Go.st (T' := s₁) (g' := (mkF m 61 #[.val (.int p0), .unset] [(.int (10 : Int32)), (.int (p0 - (97 : Int32)))])) (fun _ hr => XT.bipushV X0.here hx rfl (10 : Int32) (hb hby d1_59) (by decide) hr) ?_
            refine Go.st (T' := s₁) (g' := (mkF m 62 #[.val (.int p0), .unset] [(.int ((p0 - (97 : Int32)) + (10 : Int32)))])) (fun _ hr => XS.iadd X0.here hx rfl (hb hby d1_61) rfl hr) ?_
            refine Go.st (T' := s₁) (g' := (mkF m 63 #[.val (.int p0), .val (.int ((p0 - (97 : Int32)) + (10 : Int32)))] [])) (fun _ hr => XS.istoreN X0.here hx rfl (hb hby d1_62) rfl (l' := #[.val (.int p0), .val (.int ((p0 - (97 : Int32)) + (10 : Int32)))]) rfl hr) ?_
            refine Go.st (T' := s₁) (g' := (mkF m 68 #[.val (.int p0), .val (.int ((p0 - (97 : Int32)) + (10 : Int32)))] [])) (fun _ hr => XS.goto X0.here hx rfl (pc0 := 63) (pc' := 68) rfl (hb hby d1_63) (by decide) (by decide) hr) ?_
            exact Go.cast (by first | rfl | simp only [if_pos c3_3, if_neg c23_4, if_pos c29_7, if_neg c46_8, if_neg c52_9]) (J68_1 s₁ X0 e0)
      · refine Go.st (T' := s₁) (g' := (mkF m 32 #[.val (.int p0), .unset] [])) (fun _ hr => XS.icmpNo X0.here hx rfl (hb hby d1_29) rfl (XT.ii_gt_f c29_7) hr) ?_
        refine Go.st (T' := s₁) (g' := (mkF m 33 #[.val (.int p0), .unset] [(.int p0)])) (fun _ hr => XS.iloadN X0.here hx rfl (hb hby d1_32) rfl hr) ?_
        refine Go.st (T' := s₁) (g' := (mkF m 35 #[.val (.int p0), .unset] [(.int (65 : Int32)), (.int p0)])) (fun _ hr => XT.bipushV X0.here hx rfl (65 : Int32) (hb hby d1_33) (by decide) hr) ?_
        refine Go.st (T' := s₁) (g' := (mkF m 36 #[.val (.int p0), .unset] [(.int (p0 - (65 : Int32)))])) (fun _ hr => XS.isub X0.here hx rfl (hb hby d1_35) rfl hr) ?_
        refine Go.st (T' := s₁) (g' := (mkF m 38 #[.val (.int p0), .unset] [(.int (10 : Int32)), (.int (p0 - (65 : Int32)))])) (fun _ hr => XT.bipushV X0.here hx rfl (10 : Int32) (hb hby d1_36) (by decide) hr) ?_
        refine Go.st (T' := s₁) (g' := (mkF m 39 #[.val (.int p0), .unset] [(.int ((p0 - (65 : Int32)) + (10 : Int32)))])) (fun _ hr => XS.iadd X0.here hx rfl (hb hby d1_38) rfl hr) ?_
        refine Go.st (T' := s₁) (g' := (mkF m 40 #[.val (.int p0), .val (.int ((p0 - (65 : Int32)) + (10 : Int32)))] [])) (fun _ hr => XS.istoreN X0.here hx rfl (hb hby d1_39) rfl (l' := #[.val (.int p0), .val (.int ((p0 - (65 : Int32)) + (10 : Int32)))]) rfl hr) ?_
        refine Go.st (T' := s₁) (g' := (mkF m 68 #[.val (.int p0), .val (.int ((p0 - (65 : Int32)) + (10 : Int32)))] [])) (fun _ hr => XS.goto X0.here hx rfl (pc0 := 40) (pc' := 68) rfl (hb hby d1_40) (by decide) (by decide) hr) ?_
        exact Go.cast (by first | rfl | simp only [if_pos c3_3, if_neg c23_4, if_neg c29_7]) (J68_1 s₁ X0 e0)
  · refine Go.st (T' := s₁) (g' := (mkF m 6 #[.val (.int p0), .unset] [])) (fun _ hr => XS.icmpNo X0.here hx rfl (hb hby d1_3) rfl (XT.ii_lt_f c3_3) hr) ?_
    refine Go.st (T' := s₁) (g' := (mkF m 7 #[.val (.int p0), .unset] [(.int p0)])) (fun _ hr => XS.iloadN X0.here hx rfl (hb hby d1_6) rfl hr) ?_
    refine Go.st (T' := s₁) (g' := (mkF m 9 #[.val (.int p0), .unset] [(.int (57 : Int32)), (.int p0)])) (fun _ hr => XT.bipushV X0.here hx rfl (57 : Int32) (hb hby d1_7) (by decide) hr) ?_
    by_cases c9_10 : (57 : Int32) < p0
    · refine Go.st (T' := s₁) (g' := (mkF m 20 #[.val (.int p0), .unset] [])) (fun _ hr => XS.icmpYes X0.here hx rfl (pc0 := 9) (pc' := 20) rfl (hb hby d1_9) rfl (XT.ii_gt_t c9_10) (by decide) (by decide) hr) ?_
      refine Go.st (T' := s₁) (g' := (mkF m 21 #[.val (.int p0), .unset] [(.int p0)])) (fun _ hr => XS.iloadN X0.here hx rfl (hb hby d1_20) rfl hr) ?_
      refine Go.st (T' := s₁) (g' := (mkF m 23 #[.val (.int p0), .unset] [(.int (65 : Int32)), (.int p0)])) (fun _ hr => XT.bipushV X0.here hx rfl (65 : Int32) (hb hby d1_21) (by decide) hr) ?_
      by_cases c23_11 : p0 < (65 : Int32)
      · refine Go.st (T' := s₁) (g' := (mkF m 43 #[.val (.int p0), .unset] [])) (fun _ hr => XS.icmpYes X0.here hx rfl (pc0 := 23) (pc' := 43) rfl (hb hby d1_23) rfl (XT.ii_lt_t c23_11) (by decide) (by decide) hr) ?_
        refine Go.st (T' := s₁) (g' := (mkF m 44 #[.val (.int p0), .unset] [(.int p0)])) (fun _ hr => XS.iloadN X0.here hx rfl (hb hby d1_43) rfl hr) ?_
        refine Go.st (T' := s₁) (g' := (mkF m 46 #[.val (.int p0), .unset] [(.int (97 : Int32)), (.int p0)])) (fun _ hr => XT.bipushV X0.here hx rfl (97 : Int32) (hb hby d1_44) (by decide) hr) ?_
        by_cases c46_12 : p0 < (97 : Int32)
        · refine Go.st (T' := s₁) (g' := (mkF m 66 #[.val (.int p0), .unset] [])) (fun _ hr => XS.icmpYes X0.here hx rfl (pc0 := 46) (pc' := 66) rfl (hb hby d1_46) rfl (XT.ii_lt_t c46_12) (by decide) (by decide) hr) ?_
          refine Go.st (T' := s₁) (g' := (mkF m 67 #[.val (.int p0), .unset] [(.int (-1 : Int32))])) (fun _ hr => XT.iconstV X0.here hx rfl (-1 : Int32) (hb hby d1_66) (by decide) hr) ?_
          refine Go.st (T' := s₁) (g' := (mkF m 68 #[.val (.int p0), .val (.int (-1 : Int32))] [])) (fun _ hr => XS.istoreN X0.here hx rfl (hb hby d1_67) rfl (l' := #[.val (.int p0), .val (.int (-1 : Int32))]) rfl hr) ?_
          exact Go.cast (by first | rfl | simp only [if_neg c3_3, if_pos c9_10, if_pos c23_11, if_pos c46_12]) (J68_1 s₁ X0 e0)
        · refine Go.st (T' := s₁) (g' := (mkF m 49 #[.val (.int p0), .unset] [])) (fun _ hr => XS.icmpNo X0.here hx rfl (hb hby d1_46) rfl (XT.ii_lt_f c46_12) hr) ?_
          refine Go.st (T' := s₁) (g' := (mkF m 50 #[.val (.int p0), .unset] [(.int p0)])) (fun _ hr => XS.iloadN X0.here hx rfl (hb hby d1_49) rfl hr) ?_
          refine Go.st (T' := s₁) (g' := (mkF m 52 #[.val (.int p0), .unset] [(.int (102 : Int32)), (.int p0)])) (fun _ hr => XT.bipushV X0.here hx rfl (102 : Int32) (hb hby d1_50) (by decide) hr) ?_
          by_cases c52_13 : (102 : Int32) < p0
          · refine Go.st (T' := s₁) (g' := (mkF m 66 #[.val (.int p0), .unset] [])) (fun _ hr => XS.icmpYes X0.here hx rfl (pc0 := 52) (pc' := 66) rfl (hb hby d1_52) rfl (XT.ii_gt_t c52_13) (by decide) (by decide) hr) ?_
            refine Go.st (T' := s₁) (g' := (mkF m 67 #[.val (.int p0), .unset] [(.int (-1 : Int32))])) (fun _ hr => XT.iconstV X0.here hx rfl (-1 : Int32) (hb hby d1_66) (by decide) hr) ?_
            refine Go.st (T' := s₁) (g' := (mkF m 68 #[.val (.int p0), .val (.int (-1 : Int32))] [])) (fun _ hr => XS.istoreN X0.here hx rfl (hb hby d1_67) rfl (l' := #[.val (.int p0), .val (.int (-1 : Int32))]) rfl hr) ?_
            exact Go.cast (by first | rfl | simp only [if_neg c3_3, if_pos c9_10, if_pos c23_11, if_neg c46_12, if_pos c52_13]) (J68_1 s₁ X0 e0)
          · refine Go.st (T' := s₁) (g' := (mkF m 55 #[.val (.int p0), .unset] [])) (fun _ hr => XS.icmpNo X0.here hx rfl (hb hby d1_52) rfl (XT.ii_gt_f c52_13) hr) ?_
            refine Go.st (T' := s₁) (g' := (mkF m 56 #[.val (.int p0), .unset] [(.int p0)])) (fun _ hr => XS.iloadN X0.here hx rfl (hb hby d1_55) rfl hr) ?_
            refine Go.st (T' := s₁) (g' := (mkF m 58 #[.val (.int p0), .unset] [(.int (97 : Int32)), (.int p0)])) (fun _ hr => XT.bipushV X0.here hx rfl (97 : Int32) (hb hby d1_56) (by decide) hr) ?_
            refine Go.st (T' := s₁) (g' := (mkF m 59 #[.val (.int p0), .unset] [(.int (p0 - (97 : Int32)))])) (fun _ hr => XS.isub X0.here hx rfl (hb hby d1_58) rfl hr) ?_
            refine Go.st (T' := s₁) (g' := (mkF m 61 #[.val (.int p0), .unset] [(.int (10 : Int32)), (.int (p0 - (97 : Int32)))])) (fun _ hr => XT.bipushV X0.here hx rfl (10 : Int32) (hb hby d1_59) (by decide) hr) ?_
            refine Go.st (T' := s₁) (g' := (mkF m 62 #[.val (.int p0), .unset] [(.int ((p0 - (97 : Int32)) + (10 : Int32)))])) (fun _ hr => XS.iadd X0.here hx rfl (hb hby d1_61) rfl hr) ?_
            refine Go.st (T' := s₁) (g' := (mkF m 63 #[.val (.int p0), .val (.int ((p0 - (97 : Int32)) + (10 : Int32)))] [])) (fun _ hr => XS.istoreN X0.here hx rfl (hb hby d1_62) rfl (l' := #[.val (.int p0), .val (.int ((p0 - (97 : Int32)) + (10 : Int32)))]) rfl hr) ?_
            refine Go.st (T' := s₁) (g' := (mkF m 68 #[.val (.int p0), .val (.int ((p0 - (97 : Int32)) + (10 : Int32)))] [])) (fun _ hr => XS.goto X0.here hx rfl (pc0 := 63) (pc' := 68) rfl (hb hby d1_63) (by decide) (by decide) hr) ?_
            exact Go.cast (by first | rfl | simp only [if_neg c3_3, if_pos c9_10, if_pos c23_11, if_neg c46_12, if_neg c52_13]) (J68_1 s₁ X0 e0)
      · refine Go.st (T' := s₁) (g' := (mkF m 26 #[.val (.int p0), .unset] [])) (fun _ hr => XS.icmpNo X0.here hx rfl (hb hby d1_23) rfl (XT.ii_lt_f c23_11) hr) ?_
        refine Go.st (T' := s₁) (g' := (mkF m 27 #[.val (.int p0), .unset] [(.int p0)])) (fun _ hr => XS.iloadN X0.here hx rfl (hb hby d1_26) rfl hr) ?_
        refine Go.st (T' := s₁) (g' := (mkF m 29 #[.val (.int p0), .unset] [(.int (70 : Int32)), (.int p0)])) (fun _ hr => XT.bipushV X0.here hx rfl (70 : Int32) (hb hby d1_27) (by decide) hr) ?_
        by_cases c29_14 : (70 : Int32) < p0
        · refine Go.st (T' := s₁) (g' := (mkF m 43 #[.val (.int p0), .unset] [])) (fun _ hr => XS.icmpYes X0.here hx rfl (pc0 := 29) (pc' := 43) rfl (hb hby d1_29) rfl (XT.ii_gt_t c29_14) (by decide) (by decide) hr) ?_
          refine Go.st (T' := s₁) (g' := (mkF m 44 #[.val (.int p0), .unset] [(.int p0)])) (fun _ hr => XS.iloadN X0.here hx rfl (hb hby d1_43) rfl hr) ?_
          refine Go.st (T' := s₁) (g' := (mkF m 46 #[.val (.int p0), .unset] [(.int (97 : Int32)), (.int p0)])) (fun _ hr => XT.bipushV X0.here hx rfl (97 : Int32) (hb hby d1_44) (by decide) hr) ?_
          by_cases c46_15 : p0 < (97 : Int32)
          · refine Go.st (T' := s₁) (g' := (mkF m 66 #[.val (.int p0), .unset] [])) (fun _ hr => XS.icmpYes X0.here hx rfl (pc0 := 46) (pc' := 66) rfl (hb hby d1_46) rfl (XT.ii_lt_t c46_15) (by decide) (by decide) hr) ?_
            refine Go.st (T' := s₁) (g' := (mkF m 67 #[.val (.int p0), .unset] [(.int (-1 : Int32))])) (fun _ hr => XT.iconstV X0.here hx rfl (-1 : Int32) (hb hby d1_66) (by decide) hr) ?_
            refine Go.st (T' := s₁) (g' := (mkF m 68 #[.val (.int p0), .val (.int (-1 : Int32))] [])) (fun _ hr => XS.istoreN X0.here hx rfl (hb hby d1_67) rfl (l' := #[.val (.int p0), .val (.int (-1 : Int32))]) rfl hr) ?_
            exact Go.cast (by first | rfl | simp only [if_neg c3_3, if_pos c9_10, if_neg c23_11, if_pos c29_14, if_pos c46_15]) (J68_1 s₁ X0 e0)
          · refine Go.st (T' := s₁) (g' := (mkF m 49 #[.val (.int p0), .unset] [])) (fun _ hr => XS.icmpNo X0.here hx rfl (hb hby d1_46) rfl (XT.ii_lt_f c46_15) hr) ?_
            refine Go.st (T' := s₁) (g' := (mkF m 50 #[.val (.int p0), .unset] [(.int p0)])) (fun _ hr => XS.iloadN X0.here hx rfl (hb hby d1_49) rfl hr) ?_
            refine Go.st (T' := s₁) (g' := (mkF m 52 #[.val (.int p0), .unset] [(.int (102 : Int32)), (.int p0)])) (fun _ hr => XT.bipushV X0.here hx rfl (102 : Int32) (hb hby d1_50) (by decide) hr) ?_
            by_cases c52_16 : (102 : Int32) < p0
            · refine Go.st (T' := s₁) (g' := (mkF m 66 #[.val (.int p0), .unset] [])) (fun _ hr => XS.icmpYes X0.here hx rfl (pc0 := 52) (pc' := 66) rfl (hb hby d1_52) rfl (XT.ii_gt_t c52_16) (by decide) (by decide) hr) ?_
              refine Go.st (T' := s₁) (g' := (mkF m 67 #[.val (.int p0), .unset] [(.int (-1 : Int32))])) (fun _ hr => XT.iconstV X0.here hx rfl (-1 : Int32) (hb hby d1_66) (by decide) hr) ?_
              refine Go.st (T' := s₁) (g' := (mkF m 68 #[.val (.int p0), .val (.int (-1 : Int32))] [])) (fun _ hr => XS.istoreN X0.here hx rfl (hb hby d1_67) rfl (l' := #[.val (.int p0), .val (.int (-1 : Int32))]) rfl hr) ?_
              exact Go.cast (by first | rfl | simp only [if_neg c3_3, if_pos c9_10, if_neg c23_11, if_pos c29_14, if_neg c46_15, if_pos c52_16]) (J68_1 s₁ X0 e0)
            · refine Go.st (T' := s₁) (g' := (mkF m 55 #[.val (.int p0), .unset] [])) (fun _ hr => XS.icmpNo X0.here hx rfl (hb hby d1_52) rfl (XT.ii_gt_f c52_16) hr) ?_
              refine Go.st (T' := s₁) (g' := (mkF m 56 #[.val (.int p0), .unset] [(.int p0)])) (fun _ hr => XS.iloadN X0.here hx rfl (hb hby d1_55) rfl hr) ?_
              refine Go.st (T' := s₁) (g' := (mkF m 58 #[.val (.int p0), .unset] [(.int (97 : Int32)), (.int p0)])) (fun _ hr => XT.bipushV X0.here hx rfl (97 : Int32) (hb hby d1_56) (by decide) hr) ?_
              refine Go.st (T' := s₁) (g' := (mkF m 59 #[.val (.int p0), .unset] [(.int (p0 - (97 : Int32)))])) (fun _ hr => XS.isub X0.here hx rfl (hb hby d1_58) rfl hr) ?_
              refine Go.st (T' := s₁) (g' := (mkF m 61 #[.val (.int p0), .unset] [(.int (10 : Int32)), (.int (p0 - (97 : Int32)))])) (fun _ hr => XT.bipushV X0.here hx rfl (10 : Int32) (hb hby d1_59) (by decide) hr) ?_
              refine Go.st (T' := s₁) (g' := (mkF m 62 #[.val (.int p0), .unset] [(.int ((p0 - (97 : Int32)) + (10 : Int32)))])) (fun _ hr => XS.iadd X0.here hx rfl (hb hby d1_61) rfl hr) ?_
              refine Go.st (T' := s₁) (g' := (mkF m 63 #[.val (.int p0), .val (.int ((p0 - (97 : Int32)) + (10 : Int32)))] [])) (fun _ hr => XS.istoreN X0.here hx rfl (hb hby d1_62) rfl (l' := #[.val (.int p0), .val (.int ((p0 - (97 : Int32)) + (10 : Int32)))]) rfl hr) ?_
              refine Go.st (T' := s₁) (g' := (mkF m 68 #[.val (.int p0), .val (.int ((p0 - (97 : Int32)) + (10 : Int32)))] [])) (fun _ hr => XS.goto X0.here hx rfl (pc0 := 63) (pc' := 68) rfl (hb hby d1_63) (by decide) (by decide) hr) ?_
              exact Go.cast (by first | rfl | simp only [if_neg c3_3, if_pos c9_10, if_neg c23_11, if_pos c29_14, if_neg c46_15, if_neg c52_16]) (J68_1 s₁ X0 e0)
        · refine Go.st (T' := s₁) (g' := (mkF m 32 #[.val (.int p0), .unset] [])) (fun _ hr => XS.icmpNo X0.here hx rfl (hb hby d1_29) rfl (XT.ii_gt_f c29_14) hr) ?_
          refine Go.st (T' := s₁) (g' := (mkF m 33 #[.val (.int p0), .unset] [(.int p0)])) (fun _ hr => XS.iloadN X0.here hx rfl (hb hby d1_32) rfl hr) ?_
          refine Go.st (T' := s₁) (g' := (mkF m 35 #[.val (.int p0), .unset] [(.int (65 : Int32)), (.int p0)])) (fun _ hr => XT.bipushV X0.here hx rfl (65 : Int32) (hb hby d1_33) (by decide) hr) ?_
          refine Go.st (T' := s₁) (g' := (mkF m 36 #[.val (.int p0), .unset] [(.int (p0 - (65 : Int32)))])) (fun _ hr => XS.isub X0.here hx rfl (hb hby d1_35) rfl hr) ?_
          refine Go.st (T' := s₁) (g' := (mkF m 38 #[.val (.int p0), .unset] [(.int (10 : Int32)), (.int (p0 - (65 : Int32)))])) (fun _ hr => XT.bipushV X0.here hx rfl (10 : Int32) (hb hby d1_36) (by decide) hr) ?_
          refine Go.st (T' := s₁) (g' := (mkF m 39 #[.val (.int p0), .unset] [(.int ((p0 - (65 : Int32)) + (10 : Int32)))])) (fun _ hr => XS.iadd X0.here hx rfl (hb hby d1_38) rfl hr) ?_
          refine Go.st (T' := s₁) (g' := (mkF m 40 #[.val (.int p0), .val (.int ((p0 - (65 : Int32)) + (10 : Int32)))] [])) (fun _ hr => XS.istoreN X0.here hx rfl (hb hby d1_39) rfl (l' := #[.val (.int p0), .val (.int ((p0 - (65 : Int32)) + (10 : Int32)))]) rfl hr) ?_
          refine Go.st (T' := s₁) (g' := (mkF m 68 #[.val (.int p0), .val (.int ((p0 - (65 : Int32)) + (10 : Int32)))] [])) (fun _ hr => XS.goto X0.here hx rfl (pc0 := 40) (pc' := 68) rfl (hb hby d1_40) (by decide) (by decide) hr) ?_
          exact Go.cast (by first | rfl | simp only [if_neg c3_3, if_pos c9_10, if_neg c23_11, if_neg c29_14]) (J68_1 s₁ X0 e0)
    · refine Go.st (T' := s₁) (g' := (mkF m 12 #[.val (.int p0), .unset] [])) (fun _ hr => XS.icmpNo X0.here hx rfl (hb hby d1_9) rfl (XT.ii_gt_f c9_10) hr) ?_
      refine Go.st (T' := s₁) (g' := (mkF m 13 #[.val (.int p0), .unset] [(.int p0)])) (fun _ hr => XS.iloadN X0.here hx rfl (hb hby d1_12) rfl hr) ?_
      refine Go.st (T' := s₁) (g' := (mkF m 15 #[.val (.int p0), .unset] [(.int (48 : Int32)), (.int p0)])) (fun _ hr => XT.bipushV X0.here hx rfl (48 : Int32) (hb hby d1_13) (by decide) hr) ?_
      refine Go.st (T' := s₁) (g' := (mkF m 16 #[.val (.int p0), .unset] [(.int (p0 - (48 : Int32)))])) (fun _ hr => XS.isub X0.here hx rfl (hb hby d1_15) rfl hr) ?_
      refine Go.st (T' := s₁) (g' := (mkF m 17 #[.val (.int p0), .val (.int (p0 - (48 : Int32)))] [])) (fun _ hr => XS.istoreN X0.here hx rfl (hb hby d1_16) rfl (l' := #[.val (.int p0), .val (.int (p0 - (48 : Int32)))]) rfl hr) ?_
      refine Go.st (T' := s₁) (g' := (mkF m 68 #[.val (.int p0), .val (.int (p0 - (48 : Int32)))] [])) (fun _ hr => XS.goto X0.here hx rfl (pc0 := 17) (pc' := 68) rfl (hb hby d1_17) (by decide) (by decide) hr) ?_
      exact Go.cast (by first | rfl | simp only [if_neg c3_3, if_neg c9_10]) (J68_1 s₁ X0 e0)
theorem pd_1 : parseMethodDescriptor "(IILjava/util/function/BiFunction;)I" = some ⟨[.int, .int, (.object "java/util/function/BiFunction")], some .int⟩ := by decide +kernel
theorem d6_0 : decode jdk_41_method_11_code 0 = .ok (.iload_n 0, 1) := by decide +kernel
theorem d6_1 : decode jdk_41_method_11_code 1 = .ok (.ifCond .lt 8, 3) := by decide +kernel
theorem d6_4 : decode jdk_41_method_11_code 4 = .ok (.iload_n 0, 1) := by decide +kernel
theorem d6_5 : decode jdk_41_method_11_code 5 = .ok (.iload_n 1, 1) := by decide +kernel
theorem d6_6 : decode jdk_41_method_11_code 6 = .ok (.if_icmp .lt 10, 3) := by decide +kernel
theorem d6_9 : decode jdk_41_method_11_code 9 = .ok (.aload_n 2, 1) := by decide +kernel
theorem d6_10 : decode jdk_41_method_11_code 10 = .ok (.iload_n 0, 1) := by decide +kernel
theorem d6_11 : decode jdk_41_method_11_code 11 = .ok (.iload_n 1, 1) := by decide +kernel
theorem d6_12 : decode jdk_41_method_11_code 12 = .ok (.invokestatic 95, 3) := by decide +kernel
theorem d6_15 : decode jdk_41_method_11_code 15 = .ok (.athrow, 1) := by decide +kernel
theorem d6_16 : decode jdk_41_method_11_code 16 = .ok (.iload_n 0, 1) := by decide +kernel
theorem d6_17 : decode jdk_41_method_11_code 17 = .ok (.ireturn, 1) := by decide +kernel
theorem pn_1 : plainName "jdk/internal/util/Preconditions" = true := by first | (simp [plainName, overriddenIn]; done) | decide +kernel
def f6 (p0 : Int32) (p1 : Int32) : Int32 := p0
theorem ef_rm6 (m : MethodId) (p0 : Int32) (p1 : Int32) (v2 : Value) (r_v2 : v2.isRef = true) : entryFrame m #[(.int p0), (.int p1), v2] 3 = mkF m 0 #[.val (.int p0), .val (.int p1), .val v2] [] := by rcases XT.refc r_v2 with rfl | ⟨_, rfl⟩ <;> first | (simp [entryFrame, mkF, argsToLocals, Value.category]; done) | rfl
set_option maxRecDepth 65536 in
set_option maxHeartbeats 40000000 in
theorem rm6 (l : Launch) (Z : State) (a0 : Array Value) (hw : ∀ d ∈ tables_1, d.before a0 Z = true) (p0 : Int32) (p1 : Int32) (v2 : Value) (r_v2 : v2.isRef = true) (h0 : Heap) (hn0 : ¬ p0 < (0 : Int32)) (hlt : p0 < p1) :
    MetQ l Z (⟨"jdk/internal/util/Preconditions", "checkIndex", "(IILjava/util/function/BiFunction;)I"⟩ : MethodName) jdk_41_method_11_code 3 (some .int) [] ({ frames := 0, cells := 0, slots := 0, locals := 0 } : Room) #[(.int p0), (.int p1), v2] h0 (PQ (.int (f6 p0 p1)) h0) := by
  refine MetQ.body (plainFor_of_name pn_1) fun p e s m below meth c s₁ hx hby hml hown hnm hret hlk hZ e0 X0 => Go.cast (ef_rm6 m p0 p1 v2 r_v2) ?_
  refine Go.st (T' := s₁) (g' := (mkF m 1 #[.val (.int p0), .val (.int p1), .val v2] [(.int p0)])) (fun _ hr => XS.iloadN X0.here hx rfl (hb hby d6_0) rfl hr) ?_
  refine Go.st (T' := s₁) (g' := (mkF m 4 #[.val (.int p0), .val (.int p1), .val v2] [])) (fun _ hr => XS.ifNo X0.here hx rfl (hb hby d6_1) rfl (XT.i0_lt_f hn0) hr) ?_
  refine Go.st (T' := s₁) (g' := (mkF m 5 #[.val (.int p0), .val (.int p1), .val v2] [(.int p0)])) (fun _ hr => XS.iloadN X0.here hx rfl (hb hby d6_4) rfl hr) ?_
  refine Go.st (T' := s₁) (g' := (mkF m 6 #[.val (.int p0), .val (.int p1), .val v2] [(.int p1), (.int p0)])) (fun _ hr => XS.iloadN X0.here hx rfl (hb hby d6_5) rfl hr) ?_
  refine Go.st (T' := s₁) (g' := (mkF m 16 #[.val (.int p0), .val (.int p1), .val v2] [])) (fun _ hr => XS.icmpYes X0.here hx rfl (pc0 := 6) (pc' := 16) rfl (hb hby d6_6) rfl (XT.ii_lt_t hlt) (by decide) (by decide) hr) ?_
  refine Go.st (T' := s₁) (g' := (mkF m 17 #[.val (.int p0), .val (.int p1), .val v2] [(.int p0)])) (fun _ hr => XS.iloadN X0.here hx rfl (hb hby d6_16) rfl hr) ?_
  exact Go.retI X0 hx hlk hret (hb hby d6_17) (by decide) (by decide) ⟨congrArg (fun z => some (Value.int z)) (by simp only [f6]), rfl, e0⟩
theorem pd_2 : parseMethodDescriptor "(II)V" = some ⟨[.int, .int], none⟩ := by decide +kernel
theorem d5_0 : decode jdk_42_method_155_code 0 = .ok (.iload_n 0, 1) := by decide +kernel
theorem d5_1 : decode jdk_42_method_155_code 1 = .ok (.iload_n 1, 1) := by decide +kernel
theorem d5_2 : decode jdk_42_method_155_code 2 = .ok (.getstatic 1053, 3) := by decide +kernel
theorem d5_5 : decode jdk_42_method_155_code 5 = .ok (.invokestatic 1059, 3) := by decide +kernel
theorem d5_8 : decode jdk_42_method_155_code 8 = .ok (.pop, 1) := by decide +kernel
theorem d5_9 : decode jdk_42_method_155_code 9 = .ok (.return_, 1) := by decide +kernel
theorem pn_2 : plainName "java/lang/String" = true := by first | (simp [plainName, overriddenIn]; done) | decide +kernel
theorem ef_rm5 (m : MethodId) (p0 : Int32) (p1 : Int32)  : entryFrame m #[(.int p0), (.int p1)] 2 = mkF m 0 #[.val (.int p0), .val (.int p1)] [] := by first | (simp [entryFrame, mkF, argsToLocals, Value.category]; done) | rfl
set_option maxRecDepth 65536 in
set_option maxHeartbeats 40000000 in
theorem rm5 (l : Launch) (Z : State) (a0 : Array Value) (hw : ∀ d ∈ tables_1, d.before a0 Z = true) (p0 : Int32) (p1 : Int32) (fm : Value)  (h0 : Heap) (rfm : fm.isRef = true) (S1 : Sta Z h0 "jdk/internal/util/Preconditions" "SIOOBE_FORMATTER" "Ljava/util/function/BiFunction;" fm) (hn0 : ¬ p0 < (0 : Int32)) (hlt : p0 < p1) :
    MetQ l Z (⟨"java/lang/String", "checkIndex", "(II)V"⟩ : MethodName) jdk_42_method_155_code 2 none [] ({ frames := 1, cells := 0, slots := 0, locals := 14 } : Room) #[(.int p0), (.int p1)] h0 (fun v h L => v = none ∧ L = [] ∧ h = h0) := by
  refine MetQ.body (plainFor_of_name pn_2) fun p e s m below meth c s₁ hx hby hml hown hnm hret hlk hZ e0 X0 => Go.cast (ef_rm5 m p0 p1) ?_
  refine Go.st (T' := s₁) (g' := (mkF m 1 #[.val (.int p0), .val (.int p1)] [(.int p0)])) (fun _ hr => XS.iloadN X0.here hx rfl (hb hby d5_0) rfl hr) ?_
  refine Go.st (T' := s₁) (g' := (mkF m 2 #[.val (.int p0), .val (.int p1)] [(.int p1), (.int p0)])) (fun _ hr => XS.iloadN X0.here hx rfl (hb hby d5_1) rfl hr) ?_
  obtain ⟨T1, X1, e1, st1⟩ := getS2 X0 hx hZ hown (host := "") (Or.inl (hw _ (List.mem_of_getElem? (i := 33) rfl))) Via.refl e0 S1 (g := (mkF m 2 #[.val (.int p0), .val (.int p1)] [(.int p1), (.int p0)])) rfl (hb hby d5_2)
  refine Go.st (T' := T1) (g' := (mkF m 5 #[.val (.int p0), .val (.int p1)] [fm, (.int p1), (.int p0)])) st1 ?_
  refine Go.callP X1 hx hZ hown (W := 0) (hw _ (List.mem_of_getElem? (i := 35) rfl)) (hw _ (List.mem_of_getElem? (i := 36) rfl)) (hw _ (List.mem_of_getElem? (i := 34) rfl)) (hw _ (List.mem_of_getElem? (i := 37) rfl)) (by decide) e1 (rm6 l Z a0 hw p0 p1 fm rfm h0 hn0 hlt) (by decide) (by decide) (by decide) (by decide) (g := (mkF m 5 #[.val (.int p0), .val (.int p1)] [fm, (.int p1), (.int p0)])) rfl (by rw [hml]; rfl) (argsL := [(.int p0), (.int p1), fm]) (rest := []) (lenOf pd_1 rfl) rfl (by show 2 * 0 + _ ≤ _; exact Nat.le_of_eq rfl) (hb hby d5_5) (fun T2 X2 e2 => ?_)
  show Go p.tables e below (Fin s (fun v h L => v = none ∧ L = [] ∧ h = h0) ({ frames := 1, cells := 0, slots := 0, locals := 14 } : Room).cells ({ frames := 1, cells := 0, slots := 0, locals := 14 } : Room).slots) T2 (mkF m 8 #[.val (.int p0), .val (.int p1)] [(.int p0)])
  refine Go.st (T' := T2) (g' := (mkF m 9 #[.val (.int p0), .val (.int p1)] [])) (fun _ hr => XT.pop X2.here hx rfl (hb hby d5_8) rfl rfl hr) ?_
  exact Go.retV X2 hx hlk hret (hb hby d5_9) (by decide) (by decide) ⟨rfl, rfl, e2⟩
theorem pd_3 : parseMethodDescriptor "([BI)C" = some ⟨[(.array .byte), .int], some .char⟩ := by decide +kernel
theorem d4_0 : decode jdk_43_method_2_code 0 = .ok (.iload_n 1, 1) := by decide +kernel
theorem d4_1 : decode jdk_43_method_2_code 1 = .ok (.aload_n 0, 1) := by decide +kernel
theorem d4_2 : decode jdk_43_method_2_code 2 = .ok (.arraylength, 1) := by decide +kernel
theorem d4_3 : decode jdk_43_method_2_code 3 = .ok (.invokestatic 9, 3) := by decide +kernel
theorem d4_6 : decode jdk_43_method_2_code 6 = .ok (.aload_n 0, 1) := by decide +kernel
theorem d4_7 : decode jdk_43_method_2_code 7 = .ok (.iload_n 1, 1) := by decide +kernel
theorem d4_8 : decode jdk_43_method_2_code 8 = .ok (.baload, 1) := by decide +kernel
theorem d4_9 : decode jdk_43_method_2_code 9 = .ok (.sipush 255, 3) := by decide +kernel
theorem d4_12 : decode jdk_43_method_2_code 12 = .ok (.iand, 1) := by decide +kernel
theorem d4_13 : decode jdk_43_method_2_code 13 = .ok (.i2c, 1) := by decide +kernel
theorem d4_14 : decode jdk_43_method_2_code 14 = .ok (.ireturn, 1) := by decide +kernel
theorem pn_3 : plainName "java/lang/StringLatin1" = true := by first | (simp [plainName, overriddenIn]; done) | decide +kernel
def f4 (x : Int32) : Int32 := (nar .char ((x &&& (255 : Int32))).toUInt32.toUInt16.toUInt32.toInt32)
theorem ef_rm4 (m : MethodId) (b : Addr) (p1 : Int32)  : entryFrame m #[(.ref b), (.int p1)] 2 = mkF m 0 #[.val (.ref b), .val (.int p1)] [] := by first | (simp [entryFrame, mkF, argsToLocals, Value.category]; done) | rfl
set_option maxRecDepth 65536 in
set_option maxHeartbeats 40000000 in
theorem rm4 (l : Launch) (Z : State) (a0 : Array Value) (hw : ∀ d ∈ tables_1, d.before a0 Z = true) (b : Addr) (p1 : Int32) (kb : ClassId) (vs : List Value) (x : Int32) (fm : Value)  (h0 : Heap) (rfm : fm.isRef = true) (S1 : Sta Z h0 "jdk/internal/util/Preconditions" "SIOOBE_FORMATTER" "Ljava/util/function/BiFunction;" fm) (hn0 : ¬ p1 < (0 : Int32)) (hlt : p1 < (16 : Int32)) (V0 : Arv Z h0 b kb .byte (16 : Int32) vs (.int (0 : Int32))) (hat : vs.getD p1.toNatClampNeg (.int (0 : Int32)) = .int x) :
    MetQ l Z (⟨"java/lang/StringLatin1", "charAt", "([BI)C"⟩ : MethodName) jdk_43_method_2_code 2 (some .char) [] ({ frames := 2, cells := 0, slots := 0, locals := 27 } : Room) #[(.ref b), (.int p1)] h0 (PQ (.int (f4 x)) h0) := by
  refine MetQ.body (plainFor_of_name pn_3) fun p e s m below meth c s₁ hx hby hml hown hnm hret hlk hZ e0 X0 => Go.cast (ef_rm4 m b p1) ?_
  refine Go.st (T' := s₁) (g' := (mkF m 1 #[.val (.ref b), .val (.int p1)] [(.int p1)])) (fun _ hr => XS.iloadN X0.here hx rfl (hb hby d4_0) rfl hr) ?_
  refine Go.st (T' := s₁) (g' := (mkF m 2 #[.val (.ref b), .val (.int p1)] [(.ref b), (.int p1)])) (fun _ hr => XS.aloadN X0.here hx rfl (hb hby d4_1) rfl rfl hr) ?_
  obtain ⟨cl1, Ar1, qa1, Sz1, Mz1, Hz1, Uz1⟩ := (id V0)
  refine Go.st (T' := s₁) (g' := (mkF m 3 #[.val (.ref b), .val (.int p1)] [(.int cl1.slots.size.toInt32), (.int p1)])) (fun t hr => X0.arraylength hx (by rw [e0]; exact Ar1.1) (State.isArrayOf_alike hZ.alike Ar1.2.1) (g := (mkF m 2 #[.val (.ref b), .val (.int p1)] [(.ref b), (.int p1)])) rfl rfl (hb hby d4_2) t hr) ?_
  rw [len_of Sz1 Mz1]
  show Go p.tables e below (Fin s (PQ (.int (f4 x)) h0) ({ frames := 2, cells := 0, slots := 0, locals := 27 } : Room).cells ({ frames := 2, cells := 0, slots := 0, locals := 27 } : Room).slots) s₁ (mkF m 3 #[.val (.ref b), .val (.int p1)] [(.int (16 : Int32)), (.int p1)])
  refine Go.callS X0 hx hZ hown (W := 0) (hw _ (List.mem_of_getElem? (i := 30) rfl)) (hw _ (List.mem_of_getElem? (i := 31) rfl)) (hw _ (List.mem_of_getElem? (i := 1) rfl)) (hw _ (List.mem_of_getElem? (i := 32) rfl)) (by decide) e0 (rm5 l Z a0 hw p1 (16 : Int32) fm h0 rfm S1 hn0 hlt) (by decide) (by decide) (by decide) (by decide) (g := (mkF m 3 #[.val (.ref b), .val (.int p1)] [(.int (16 : Int32)), (.int p1)])) rfl (by rw [hml]; rfl) (argsL := [(.int p1), (.int (16 : Int32))]) (rest := []) (lenOf pd_2 rfl) rfl (by show 2 * 0 + _ ≤ _; exact Nat.le_of_eq rfl) (hb hby d4_3) (fun v2 T2 L2 X2 q2 => ?_)
  obtain ⟨rfl, rfl, e2⟩ := q2
  rw [List.append_nil] at X2
  show Go p.tables e below (Fin s (PQ (.int (f4 x)) h0) ({ frames := 2, cells := 0, slots := 0, locals := 27 } : Room).cells ({ frames := 2, cells := 0, slots := 0, locals := 27 } : Room).slots) T2 (mkF m 6 #[.val (.ref b), .val (.int p1)] [])
  refine Go.st (T' := T2) (g' := (mkF m 7 #[.val (.ref b), .val (.int p1)] [(.ref b)])) (fun _ hr => XS.aloadN X2.here hx rfl (hb hby d4_6) rfl rfl hr) ?_
  refine Go.st (T' := T2) (g' := (mkF m 8 #[.val (.ref b), .val (.int p1)] [(.int p1), (.ref b)])) (fun _ hr => XS.iloadN X2.here hx rfl (hb hby d4_7) rfl hr) ?_
  obtain ⟨cl3, Ar3, qa3, Sz3, Mz3, Hz3, Uz3⟩ := (id V0)
  have hin3 := inb_of Sz3 ⟨hn0, hlt⟩
  refine Go.st (T' := T2) (g' := (mkF m 9 #[.val (.ref b), .val (.int p1)] [(.int x)])) (fun t hr => X2.baloadBytes hx (j := p1) (v := (.int x)) (by rw [e2]; exact Ar3.1) (State.isArrayOf_alike hZ.alike Ar3.2.1) Ar3.2.2 hin3 (Hz3.at hin3 hat) (g := (mkF m 8 #[.val (.ref b), .val (.int p1)] [(.int p1), (.ref b)])) rfl rfl (hb hby d4_8) t hr) ?_
  refine Go.st (T' := T2) (g' := (mkF m 12 #[.val (.ref b), .val (.int p1)] [(.int (255 : Int32)), (.int x)])) (fun _ hr => XT.sipushV X2.here hx rfl (255 : Int32) (hb hby d4_9) (by decide) hr) ?_
  refine Go.st (T' := T2) (g' := (mkF m 13 #[.val (.ref b), .val (.int p1)] [(.int (x &&& (255 : Int32)))])) (fun _ hr => XS.iand X2.here hx rfl (hb hby d4_12) rfl hr) ?_
  refine Go.st (T' := T2) (g' := (mkF m 14 #[.val (.ref b), .val (.int p1)] [(.int ((x &&& (255 : Int32))).toUInt32.toUInt16.toUInt32.toInt32)])) (fun _ hr => XT.i2c X2.here hx rfl (hb hby d4_13) rfl hr) ?_
  exact Go.retN X2 hx hlk hret (by simp) (hb hby d4_14) (by decide) (by decide) ⟨congrArg (fun z => some (Value.int z)) (by simp only [f4]), rfl, e2⟩
theorem pd_4 : parseMethodDescriptor "()Z" = some ⟨[], some .boolean⟩ := by decide +kernel
theorem d3_0 : decode jdk_42_method_154_code 0 = .ok (.getstatic 38, 3) := by decide +kernel
theorem d3_3 : decode jdk_42_method_154_code 3 = .ok (.ifCond .eq 14, 3) := by decide +kernel
theorem d3_6 : decode jdk_42_method_154_code 6 = .ok (.aload_n 0, 1) := by decide +kernel
theorem d3_7 : decode jdk_42_method_154_code 7 = .ok (.getfield 15, 3) := by decide +kernel
theorem d3_10 : decode jdk_42_method_154_code 10 = .ok (.ifCond .ne 7, 3) := by decide +kernel
theorem d3_13 : decode jdk_42_method_154_code 13 = .ok (.iconst 1, 1) := by decide +kernel
theorem d3_14 : decode jdk_42_method_154_code 14 = .ok (.goto 4, 3) := by decide +kernel
theorem d3_17 : decode jdk_42_method_154_code 17 = .ok (.iconst 0, 1) := by decide +kernel
theorem d3_18 : decode jdk_42_method_154_code 18 = .ok (.ireturn, 1) := by decide +kernel
def f3  : Int32 := (1 : Int32)
theorem ef_rm3 (m : MethodId) (a : Addr)  : entryFrame m #[(.ref a)] 1 = mkF m 0 #[.val (.ref a)] [] := by first | (simp [entryFrame, mkF, argsToLocals, Value.category]; done) | rfl
set_option maxRecDepth 65536 in
set_option maxHeartbeats 40000000 in
theorem rm3 (l : Launch) (Z : State) (a0 : Array Value) (hw : ∀ d ∈ tables_1, d.before a0 Z = true) (a : Addr) (w : Int32)  (h0 : Heap) (hcs : ¬ w = (0 : Int32)) (S0 : Sta Z h0 "java/lang/String" "COMPACT_STRINGS" "Z" (.int w)) (F1 : Fld Z h0 a "java/lang/String" "coder" "B" (.int (0 : Int32))) :
    MetQ l Z (⟨"java/lang/String", "isLatin1", "()Z"⟩ : MethodName) jdk_42_method_154_code 1 (some .boolean) [] ({ frames := 0, cells := 0, slots := 0, locals := 0 } : Room) #[(.ref a)] h0 (PQ (.int (f3 )) h0) := by
  refine MetQ.body (plainFor_of_name pn_2) fun p e s m below meth c s₁ hx hby hml hown hnm hret hlk hZ e0 X0 => Go.cast (ef_rm3 m a) ?_
  obtain ⟨T1, X1, e1, st1⟩ := getS2 X0 hx hZ hown (host := "") (Or.inl (hw _ (List.mem_of_getElem? (i := 23) rfl))) Via.refl e0 S0 (g := (mkF m 0 #[.val (.ref a)] [])) rfl (hb hby d3_0)
  refine Go.st (T' := T1) (g' := (mkF m 3 #[.val (.ref a)] [(.int w)])) st1 ?_
  refine Go.st (T' := T1) (g' := (mkF m 6 #[.val (.ref a)] [])) (fun _ hr => XS.ifNo X1.here hx rfl (hb hby d3_3) rfl (XT.i0_eq_f hcs) hr) ?_
  refine Go.st (T' := T1) (g' := (mkF m 7 #[.val (.ref a)] [(.ref a)])) (fun _ hr => XS.aloadN X1.here hx rfl (hb hby d3_6) rfl rfl hr) ?_
  obtain ⟨T2, X2, e2, st2⟩ := getF X1 hx hZ hown (host := "") (Or.inl (hw _ (List.mem_of_getElem? (i := 24) rfl))) Via.refl e1 F1 (g := (mkF m 7 #[.val (.ref a)] [(.ref a)])) rfl rfl (hb hby d3_7)
  refine Go.st (T' := T2) (g' := (mkF m 10 #[.val (.ref a)] [(.int (0 : Int32))])) st2 ?_
  refine Go.st (T' := T2) (g' := (mkF m 13 #[.val (.ref a)] [])) (fun _ hr => XS.ifNo X2.here hx rfl (hb hby d3_10) rfl (XT.i0_ne_f (by decide)) hr) ?_
  refine Go.st (T' := T2) (g' := (mkF m 14 #[.val (.ref a)] [(.int (1 : Int32))])) (fun _ hr => XT.iconstV X2.here hx rfl (1 : Int32) (hb hby d3_13) (by decide) hr) ?_
  refine Go.st (T' := T2) (g' := (mkF m 18 #[.val (.ref a)] [(.int (1 : Int32))])) (fun _ hr => XS.goto X2.here hx rfl (pc0 := 14) (pc' := 18) rfl (hb hby d3_14) (by decide) (by decide) hr) ?_
  exact Go.retN X2 hx hlk hret (by simp) (hb hby d3_18) (by decide) (by decide) ⟨congrArg (fun z => some (Value.int z)) ((by decide : nar .boolean (1 : Int32) = (1 : Int32)).trans (by simp only [f3])), rfl, e2⟩
theorem pd_5 : parseMethodDescriptor "(I)C" = some ⟨[.int], some .char⟩ := by decide +kernel
theorem d2_0 : decode jdk_42_method_56_code 0 = .ok (.aload_n 0, 1) := by decide +kernel
theorem d2_1 : decode jdk_42_method_56_code 1 = .ok (.invokevirtual 492, 3) := by decide +kernel
theorem d2_4 : decode jdk_42_method_56_code 4 = .ok (.ifCond .eq 12, 3) := by decide +kernel
theorem d2_7 : decode jdk_42_method_56_code 7 = .ok (.aload_n 0, 1) := by decide +kernel
theorem d2_8 : decode jdk_42_method_56_code 8 = .ok (.getfield 9, 3) := by decide +kernel
theorem d2_11 : decode jdk_42_method_56_code 11 = .ok (.iload_n 1, 1) := by decide +kernel
theorem d2_12 : decode jdk_42_method_56_code 12 = .ok (.invokestatic 495, 3) := by decide +kernel
theorem d2_15 : decode jdk_42_method_56_code 15 = .ok (.ireturn, 1) := by decide +kernel
theorem d2_16 : decode jdk_42_method_56_code 16 = .ok (.aload_n 0, 1) := by decide +kernel
theorem d2_17 : decode jdk_42_method_56_code 17 = .ok (.getfield 9, 3) := by decide +kernel
theorem d2_20 : decode jdk_42_method_56_code 20 = .ok (.iload_n 1, 1) := by decide +kernel
theorem d2_21 : decode jdk_42_method_56_code 21 = .ok (.invokestatic 498, 3) := by decide +kernel
theorem d2_24 : decode jdk_42_method_56_code 24 = .ok (.ireturn, 1) := by decide +kernel
def f2 (x : Int32) : Int32 := (nar .char (f4 x))
theorem ef_rm2 (m : MethodId) (a : Addr) (p1 : Int32)  : entryFrame m #[(.ref a), (.int p1)] 2 = mkF m 0 #[.val (.ref a), .val (.int p1)] [] := by first | (simp [entryFrame, mkF, argsToLocals, Value.category]; done) | rfl
set_option maxRecDepth 65536 in
set_option maxHeartbeats 40000000 in
theorem rm2 (l : Launch) (Z : State) (a0 : Array Value) (hw : ∀ d ∈ tables_1, d.before a0 Z = true) (a : Addr) (p1 : Int32) (b : Addr) (kb : ClassId) (vs : List Value) (x : Int32) (w : Int32) (fm : Value)  (h0 : Heap) (rfm : fm.isRef = true) (S1 : Sta Z h0 "jdk/internal/util/Preconditions" "SIOOBE_FORMATTER" "Ljava/util/function/BiFunction;" fm) (hn0 : ¬ p1 < (0 : Int32)) (hlt : p1 < (16 : Int32)) (V0 : Arv Z h0 b kb .byte (16 : Int32) vs (.int (0 : Int32))) (hat : vs.getD p1.toNatClampNeg (.int (0 : Int32)) = .int x) (E0 : Exa Z h0 a "java/lang/String") (F2 : Fld Z h0 a "java/lang/String" "value" "[B" (.ref b)) (hcs : ¬ w = (0 : Int32)) (S0 : Sta Z h0 "java/lang/String" "COMPACT_STRINGS" "Z" (.int w)) (F1 : Fld Z h0 a "java/lang/String" "coder" "B" (.int (0 : Int32))) :
    MetQ l Z (⟨"java/lang/String", "charAt", "(I)C"⟩ : MethodName) jdk_42_method_56_code 2 (some .char) [] ({ frames := 3, cells := 0, slots := 0, locals := 40 } : Room) #[(.ref a), (.int p1)] h0 (PQ (.int (f2 x)) h0) := by
  refine MetQ.body (plainFor_of_name pn_2) fun p e s m below meth c s₁ hx hby hml hown hnm hret hlk hZ e0 X0 => Go.cast (ef_rm2 m a p1) ?_
  refine Go.st (T' := s₁) (g' := (mkF m 1 #[.val (.ref a), .val (.int p1)] [(.ref a)])) (fun _ hr => XS.aloadN X0.here hx rfl (hb hby d2_0) rfl rfl hr) ?_
  refine Go.callV X0 hx hZ hown (W := 0) (y := (⟨"java/lang/String", "isLatin1", "()Z"⟩ : MethodName)) (hw _ (List.mem_of_getElem? (i := 18) rfl)) (hw _ (List.mem_of_getElem? (i := 19) rfl)) (hw _ (List.mem_of_getElem? (i := 21) rfl)) (hw _ (List.mem_of_getElem? (i := 20) rfl)) (hw _ (List.mem_of_getElem? (i := 1) rfl)) (hw _ (List.mem_of_getElem? (i := 22) rfl)) (by decide) rfl e0 E0 (rm3 l Z a0 hw a w h0 hcs S0 F1) (by decide) (by decide) (by decide) (by decide) (g := (mkF m 1 #[.val (.ref a), .val (.int p1)] [(.ref a)])) rfl (by rw [hml]; rfl) (argsL := []) (rest := []) (lenOf pd_4 rfl) rfl (by show 2 * 0 + _ ≤ _; exact Nat.le_of_eq rfl) (hb hby d2_1) (fun v1 T1 L1 X1 q1 => ?_)
  obtain ⟨rfl, rfl, e1⟩ := q1
  rw [List.append_nil] at X1
  show Go p.tables e below (Fin s (PQ (.int (f2 x)) h0) ({ frames := 3, cells := 0, slots := 0, locals := 40 } : Room).cells ({ frames := 3, cells := 0, slots := 0, locals := 40 } : Room).slots) T1 (mkF m 4 #[.val (.ref a), .val (.int p1)] [(.int (1 : Int32))])
  refine Go.st (T' := T1) (g' := (mkF m 7 #[.val (.ref a), .val (.int p1)] [])) (fun _ hr => XS.ifNo X1.here hx rfl (hb hby d2_4) rfl (XT.i0_eq_f (by decide)) hr) ?_
  refine Go.st (T' := T1) (g' := (mkF m 8 #[.val (.ref a), .val (.int p1)] [(.ref a)])) (fun _ hr => XS.aloadN X1.here hx rfl (hb hby d2_7) rfl rfl hr) ?_
  obtain ⟨T2, X2, e2, st2⟩ := getF X1 hx hZ hown (host := "") (Or.inl (hw _ (List.mem_of_getElem? (i := 25) rfl))) Via.refl e1 F2 (g := (mkF m 8 #[.val (.ref a), .val (.int p1)] [(.ref a)])) rfl rfl (hb hby d2_8)
  refine Go.st (T' := T2) (g' := (mkF m 11 #[.val (.ref a), .val (.int p1)] [(.ref b)])) st2 ?_
  refine Go.st (T' := T2) (g' := (mkF m 12 #[.val (.ref a), .val (.int p1)] [(.int p1), (.ref b)])) (fun _ hr => XS.iloadN X2.here hx rfl (hb hby d2_11) rfl hr) ?_
  refine Go.callP X2 hx hZ hown (W := 0) (hw _ (List.mem_of_getElem? (i := 26) rfl)) (hw _ (List.mem_of_getElem? (i := 27) rfl)) (hw _ (List.mem_of_getElem? (i := 28) rfl)) (hw _ (List.mem_of_getElem? (i := 29) rfl)) (by decide) e2 (rm4 l Z a0 hw b p1 kb vs x fm h0 rfm S1 hn0 hlt V0 hat) (by decide) (by decide) (by decide) (by decide) (g := (mkF m 12 #[.val (.ref a), .val (.int p1)] [(.int p1), (.ref b)])) rfl (by rw [hml]; rfl) (argsL := [(.ref b), (.int p1)]) (rest := []) (lenOf pd_3 rfl) rfl (by show 2 * 0 + _ ≤ _; exact Nat.le_of_eq rfl) (hb hby d2_12) (fun T3 X3 e3 => ?_)
  show Go p.tables e below (Fin s (PQ (.int (f2 x)) h0) ({ frames := 3, cells := 0, slots := 0, locals := 40 } : Room).cells ({ frames := 3, cells := 0, slots := 0, locals := 40 } : Room).slots) T3 (mkF m 15 #[.val (.ref a), .val (.int p1)] [(.int (f4 x))])
  exact Go.retN X3 hx hlk hret (by simp) (hb hby d2_15) (by decide) (by decide) ⟨congrArg (fun z => some (Value.int z)) (by simp only [f2]), rfl, e3⟩
/-! the digits' bytes, and what charAt makes of them -/
def own_ub (i : Int32) : Int32 := if i < (10 : Int32) then (48 : Int32) + i else (55 : Int32) + i
def own_lb (i : Int32) : Int32 := if i < (10 : Int32) then (48 : Int32) + i else (87 : Int32) + i
theorem own_small {i : Int32} (h0 : ¬ i < (0 : Int32)) (h1 : i < (16 : Int32)) : ∃ k : Nat, k < 16 ∧ i = Int32.ofNat k := by
  rw [Int32.lt_iff_toInt_lt] at h0 h1
  have k0 : (0 : Int32).toInt = 0 := by decide
  have k16 : (16 : Int32).toInt = 16 := by decide
  refine ⟨i.toInt.toNat, by omega, Int32.toInt_inj.mp ?_⟩
  rw [Int32.toInt_ofNat_small (by omega)]; omega
theorem own_all (P : Int32 → Prop) [DecidablePred P] (h : (List.range 16).all (fun k => decide (P (Int32.ofNat k))) = true) {i : Int32} (h0 : ¬ i < (0 : Int32)) (h1 : i < (16 : Int32)) : P i := by
  obtain ⟨k, hk, rfl⟩ := own_small h0 h1
  exact of_decide_eq_true (List.all_eq_true.mp h k (List.mem_range.mpr hk))
theorem own_hu {i : Int32} (h0 : ¬ i < (0 : Int32)) (h1 : i < (16 : Int32)) : own_us.getD i.toNatClampNeg (.int (0 : Int32)) = .int (own_ub i) :=
  own_all (fun i => own_us.getD i.toNatClampNeg (.int (0 : Int32)) = .int (own_ub i)) (by decide +kernel) h0 h1
theorem own_hl {i : Int32} (h0 : ¬ i < (0 : Int32)) (h1 : i < (16 : Int32)) : own_ls.getD i.toNatClampNeg (.int (0 : Int32)) = .int (own_lb i) :=
  own_all (fun i => own_ls.getD i.toNatClampNeg (.int (0 : Int32)) = .int (own_lb i)) (by decide +kernel) h0 h1
theorem own_up {i : Int32} (h0 : ¬ i < (0 : Int32)) (h1 : i < (16 : Int32)) : f1 (f2 (own_ub i)) = i := own_all (fun i => f1 (f2 (own_ub i)) = i) (by decide +kernel) h0 h1
theorem own_low {i : Int32} (h0 : ¬ i < (0 : Int32)) (h1 : i < (16 : Int32)) : f1 (f2 (own_lb i)) = i := own_all (fun i => f1 (f2 (own_lb i)) = i) (by decide +kernel) h0 h1
theorem own_cu {i : Int32} (h0 : ¬ i < (0 : Int32)) (h1 : i < (16 : Int32)) : f2 (own_ub i) = own_ub i := own_all (fun i => f2 (own_ub i) = own_ub i) (by decide +kernel) h0 h1
theorem own_cl {i : Int32} (h0 : ¬ i < (0 : Int32)) (h1 : i < (16 : Int32)) : f2 (own_lb i) = own_lb i := own_all (fun i => f2 (own_lb i) = own_lb i) (by decide +kernel) h0 h1
theorem own_v (y : Int32) : ¬ (y &&& (15 : Int32)) < (0 : Int32) ∧ (y &&& (15 : Int32)) < (16 : Int32) := by
  have m : (y &&& (15 : Int32)).toInt = y.toInt % 2 ^ 4 := Jvm.Kit.i32_mask y 15 (k := 4) (by decide) (by decide)
  have k0 : (0 : Int32).toInt = 0 := by decide
  have k16 : (16 : Int32).toInt = 16 := by decide
  rw [Int32.lt_iff_toInt_lt, Int32.lt_iff_toInt_lt, m, k0, k16]; omega
theorem own_lt16 {r : Int32} (h : ¬ (15 : Int32) < r) : r < (16 : Int32) := by
  have k15 : (15 : Int32).toInt = 15 := by decide
  have k16 : (16 : Int32).toInt = 16 := by decide
  rw [Int32.lt_iff_toInt_lt] at *; omega
/-- what hexDigitValue answers: -1, or the place of the sign among the digits -/
theorem own_hex (c : Int32) : f1 c = (-1 : Int32) ∨ (¬ f1 c < (0 : Int32) ∧ ¬ (15 : Int32) < f1 c ∧ (c = own_ub (f1 c) ∨ c = own_lb (f1 c))) := by
  have k48 : (48 : Int32).toInt = 48 := by decide
  have k57 : (57 : Int32).toInt = 57 := by decide
  have k65 : (65 : Int32).toInt = 65 := by decide
  have k70 : (70 : Int32).toInt = 70 := by decide
  have k97 : (97 : Int32).toInt = 97 := by decide
  have k102 : (102 : Int32).toInt = 102 := by decide
  have k10 : (10 : Int32).toInt = 10 := by decide
  have k0 : (0 : Int32).toInt = 0 := by decide
  have k15 : (15 : Int32).toInt = 15 := by decide
  have k55 : (55 : Int32).toInt = 55 := by decide
  have k87 : (87 : Int32).toInt = 87 := by decide
  have c1 := c.le_toInt
  have c2 := c.toInt_lt
  have digit : 48 ≤ c.toInt → c.toInt ≤ 57 → (¬ (c - (48 : Int32)) < (0 : Int32) ∧ ¬ (15 : Int32) < (c - (48 : Int32)) ∧ (c = own_ub (c - (48 : Int32)) ∨ c = own_lb (c - (48 : Int32)))) := fun h1 h2 => by
    have e : (c - (48 : Int32)).toInt = c.toInt - 48 := by rw [Jvm.Kit.i32_sub (by rw [k48]; omega) (by rw [k48]; omega), k48]
    refine ⟨by rw [Int32.lt_iff_toInt_lt, e, k0]; omega, by rw [Int32.lt_iff_toInt_lt, e, k15]; omega, Or.inl ?_⟩
    unfold own_ub
    rw [if_pos (by rw [Int32.lt_iff_toInt_lt, e, k10]; omega)]
    apply Int32.toInt_inj.mp
    rw [Jvm.Kit.i32_add (by rw [e, k48]; omega) (by rw [e, k48]; omega), e, k48]; omega
  have big : 65 ≤ c.toInt → c.toInt ≤ 70 → (¬ ((c - (65 : Int32)) + (10 : Int32)) < (0 : Int32) ∧ ¬ (15 : Int32) < ((c - (65 : Int32)) + (10 : Int32)) ∧ (c = own_ub ((c - (65 : Int32)) + (10 : Int32)) ∨ c = own_lb ((c - (65 : Int32)) + (10 : Int32)))) := fun h1 h2 => by
    have e0 : (c - (65 : Int32)).toInt = c.toInt - 65 := by rw [Jvm.Kit.i32_sub (by rw [k65]; omega) (by rw [k65]; omega), k65]
    have e : ((c - (65 : Int32)) + (10 : Int32)).toInt = c.toInt - 55 := by rw [Jvm.Kit.i32_add (by rw [e0, k10]; omega) (by rw [e0, k10]; omega), e0, k10]; omega
    refine ⟨by rw [Int32.lt_iff_toInt_lt, e, k0]; omega, by rw [Int32.lt_iff_toInt_lt, e, k15]; omega, Or.inl ?_⟩
    unfold own_ub
    rw [if_neg (by rw [Int32.lt_iff_toInt_lt, e, k10]; omega)]
    apply Int32.toInt_inj.mp
    rw [Jvm.Kit.i32_add (by rw [e, k55]; omega) (by rw [e, k55]; omega), e, k55]; omega
  have small : 97 ≤ c.toInt → c.toInt ≤ 102 → (¬ ((c - (97 : Int32)) + (10 : Int32)) < (0 : Int32) ∧ ¬ (15 : Int32) < ((c - (97 : Int32)) + (10 : Int32)) ∧ (c = own_ub ((c - (97 : Int32)) + (10 : Int32)) ∨ c = own_lb ((c - (97 : Int32)) + (10 : Int32)))) := fun h1 h2 => by
    have e0 : (c - (97 : Int32)).toInt = c.toInt - 97 := by rw [Jvm.Kit.i32_sub (by rw [k97]; omega) (by rw [k97]; omega), k97]
    have e : ((c - (97 : Int32)) + (10 : Int32)).toInt = c.toInt - 87 := by rw [Jvm.Kit.i32_add (by rw [e0, k10]; omega) (by rw [e0, k10]; omega), e0, k10]; omega
    refine ⟨by rw [Int32.lt_iff_toInt_lt, e, k0]; omega, by rw [Int32.lt_iff_toInt_lt, e, k15]; omega, Or.inr ?_⟩
    unfold own_lb
    rw [if_neg (by rw [Int32.lt_iff_toInt_lt, e, k10]; omega)]
    apply Int32.toInt_inj.mp
    rw [Jvm.Kit.i32_add (by rw [e, k87]; omega) (by rw [e, k87]; omega), e, k87]; omega
  have last : (if c < (97 : Int32) then (-1 : Int32) else (if (102 : Int32) < c then (-1 : Int32) else ((c - (97 : Int32)) + (10 : Int32)))) = (-1 : Int32) ∨ (97 ≤ c.toInt ∧ c.toInt ≤ 102 ∧ (if c < (97 : Int32) then (-1 : Int32) else (if (102 : Int32) < c then (-1 : Int32) else ((c - (97 : Int32)) + (10 : Int32)))) = ((c - (97 : Int32)) + (10 : Int32))) := by
    by_cases a : c < (97 : Int32)
    · rw [if_pos a]; exact Or.inl rfl
    · rw [if_neg a]
      by_cases b : (102 : Int32) < c
      · rw [if_pos b]; exact Or.inl rfl
      · rw [if_neg b]; rw [Int32.lt_iff_toInt_lt] at a b; exact Or.inr ⟨by omega, by omega, rfl⟩
  have mid : (if c < (65 : Int32) then (if c < (97 : Int32) then (-1 : Int32) else (if (102 : Int32) < c then (-1 : Int32) else ((c - (97 : Int32)) + (10 : Int32)))) else (if (70 : Int32) < c then (if c < (97 : Int32) then (-1 : Int32) else (if (102 : Int32) < c then (-1 : Int32) else ((c - (97 : Int32)) + (10 : Int32)))) else ((c - (65 : Int32)) + (10 : Int32)))) = (-1 : Int32) ∨ ∃ r, (if c < (65 : Int32) then (if c < (97 : Int32) then (-1 : Int32) else (if (102 : Int32) < c then (-1 : Int32) else ((c - (97 : Int32)) + (10 : Int32)))) else (if (70 : Int32) < c then (if c < (97 : Int32) then (-1 : Int32) else (if (102 : Int32) < c then (-1 : Int32) else ((c - (97 : Int32)) + (10 : Int32)))) else ((c - (65 : Int32)) + (10 : Int32)))) = r ∧ (¬ r < (0 : Int32) ∧ ¬ (15 : Int32) < r ∧ (c = own_ub r ∨ c = own_lb r)) := by
    by_cases a : c < (65 : Int32)
    · rw [if_pos a]
      rcases last with h | ⟨h1, h2, h⟩
      · exact Or.inl h
      · exact Or.inr ⟨_, h, small h1 h2⟩
    · rw [if_neg a]
      by_cases b : (70 : Int32) < c
      · rw [if_pos b]
        rcases last with h | ⟨h1, h2, h⟩
        · exact Or.inl h
        · exact Or.inr ⟨_, h, small h1 h2⟩
      · rw [if_neg b]; rw [Int32.lt_iff_toInt_lt] at a b; exact Or.inr ⟨_, rfl, big (by omega) (by omega)⟩
  unfold f1
  by_cases a : c < (48 : Int32)
  · rw [if_pos a]
    rcases mid with h | ⟨r, h, q⟩
    · exact Or.inl h
    · rw [h]; exact Or.inr q
  · rw [if_neg a]
    by_cases b : (57 : Int32) < c
    · rw [if_pos b]
      rcases mid with h | ⟨r, h, q⟩
      · exact Or.inl h
      · rw [h]; exact Or.inr q
    · rw [if_neg b]; rw [Int32.lt_iff_toInt_lt] at a b; exact Or.inr (digit (by omega) (by omega))
theorem own_r0 {c : Int32} (h : ¬ f1 c = (-1 : Int32)) : ¬ f1 c < (0 : Int32) := ((own_hex c).resolve_left h).1
theorem own_r1 {c : Int32} (h : ¬ f1 c = (-1 : Int32)) : ¬ (15 : Int32) < f1 c := ((own_hex c).resolve_left h).2.1
theorem own_r2 {c : Int32} (h : ¬ f1 c = (-1 : Int32)) (n : ¬ c = f2 (own_ub (f1 c))) : c = f2 (own_lb (f1 c)) := by
  have q := (own_hex c).resolve_left h
  rw [own_cu q.1 (own_lt16 q.2.1)] at n
  rw [own_cl q.1 (own_lt16 q.2.1)]
  exact q.2.2.resolve_left n
theorem pd_6 : parseMethodDescriptor "(II)Z" = some ⟨[.int, .int], some .boolean⟩ := by decide +kernel
theorem pn_4 : plainName "com/example/omqr/omqr/rdf/TerminalsHexDigitValuePinLaw" = true := by first | (simp [plainName, overriddenIn]; done) | decide +kernel
theorem ef_rm0 (m : MethodId) (p0 p1 : Int32) : entryFrame m #[(.int p0), (.int p1)] maxLocals = mkF m 0 #[.val (.int p0), .val (.int p1), .unset, .unset, .unset, .unset, .unset, .unset, .unset, .unset] [] := by first | (simp [entryFrame, mkF, argsToLocals, Value.category, maxLocals]; done) | rfl
set_option maxRecDepth 65536 in
set_option maxHeartbeats 40000000 in
theorem rm0 (l : Launch) (Z : State) (a0 : Array Value) (hw : ∀ d ∈ tables_1, d.before a0 Z = true) (ws : List Jvm.Cond) (p0 p1 w : Int32) (fm : Value) (rfm : fm.isRef = true) (hcs : ¬ w = (0 : Int32)) (S0 : Sta Z Z.heap "java/lang/String" "COMPACT_STRINGS" "Z" (.int w)) (S1 : Sta Z Z.heap "jdk/internal/util/Preconditions" "SIOOBE_FORMATTER" "Ljava/util/function/BiFunction;" fm) (hcw : Jvm.Lit.compactW.before a0 Z = true) (hh7 : Jvm.Lit.constHeld Z "com/example/omqr/omqr/rdf/TerminalsHexDigitValuePinLaw" 7) (hh9 : Jvm.Lit.constHeld Z "com/example/omqr/omqr/rdf/TerminalsHexDigitValuePinLaw" 9) :
    MetW l Z x code maxLocals ret ws room_1 #[(.int p0), (.int p1)] (fun v h L => v = some (.int 1) ∧ L = []) := by
  refine MetW.body (plainFor_of_name pn_4) fun p e m below meth c s₁ hx hby hml hown hnm hret hlk hZ e0 X0 => Go.cast (ef_rm0 m p0 p1) ?_
  have hml : c.maxLocals = 10 := hml
  have hown : Z.vm.findClass "com/example/omqr/omqr/rdf/TerminalsHexDigitValuePinLaw" = some m.cls := hown
  have hret : meth.sig.returnType = some .boolean := hret
  have wS : ∀ a ∈ Bundle.stringAtoms, a.before a0 Z = true := fun d hd => hw d ((by decide +kernel : ∀ d ∈ Bundle.stringAtoms, d ∈ tables_1) d hd)
  obtain ⟨a1, T1, h1, n1, b1, k1, X1, e1, E1, hS1, hn1, hZ1, ho1, A1, G1c, G1v, V1, la1, lb1, I1, st1⟩ := ldcSV (s := Z) (vm0 := Z.vm) X0 hx hZ hown (hw _ (List.mem_of_getElem? (i := 0) rfl)) wS e0 ((State.WarmedH.refl Z).since Z.heap.size) (Nat.le_refl _) (Fr.nil _) (fun _ _ q => q) IB.start (by decide) hh7 hcw (vs := own_us) (z := (16 : Int32)) ⟨by decide, by decide⟩ (by decide) (by decide) (g := (mkF m 0 #[.val (.int p0), .val (.int p1), .unset, .unset, .unset, .unset, .unset, .unset, .unset, .unset] [])) rfl (hb hby at_0) (n := 64) (by decide) (by decide) (by decide) (by decide)
  have S0_q_1 : Sta Z h1 "java/lang/String" "COMPACT_STRINGS" "Z" (.int w) := (S0.ext E1)
  have S1_q_1 : Sta Z h1 "jdk/internal/util/Preconditions" "SIOOBE_FORMATTER" "Ljava/util/function/BiFunction;" fm := (S1.ext E1)
  have hZ := hZ1
  have hown := ho1
  refine Go.st (T' := T1) (g' := (mkF m 2 #[.val (.int p0), .val (.int p1), .unset, .unset, .unset, .unset, .unset, .unset, .unset, .unset] [(.ref a1)])) st1 ?_
  refine Go.st (T' := T1) (g' := (mkF m 3 #[.val (.int p0), .val (.int p1), .val (.ref a1), .unset, .unset, .unset, .unset, .unset, .unset, .unset] [])) (fun _ hr => XS.astoreN X1.here hx rfl (hb hby at_2) rfl rfl (l' := #[.val (.int p0), .val (.int p1), .val (.ref a1), .unset, .unset, .unset, .unset, .unset, .unset, .unset]) rfl hr) ?_
  obtain ⟨a2, T2, h2, n2, b2, k2, X2, e2, E2, hS2, hn2, hZ2, ho2, A2, G2c, G2v, V2, la2, lb2, I2, st2⟩ := ldcSV (s := Z) (vm0 := T1.vm) X1 hx hZ hown (hw _ (List.mem_of_getElem? (i := 8) rfl)) wS e1 hS1 hn1 (Fr.nil _) (fun _ _ q => q) I1 (by decide) hh9 hcw (vs := own_ls) (z := (16 : Int32)) ⟨by decide, by decide⟩ (by decide) (by decide) (g := (mkF m 3 #[.val (.int p0), .val (.int p1), .val (.ref a1), .unset, .unset, .unset, .unset, .unset, .unset, .unset] [])) rfl (hb hby at_3) (n := 64) (by decide) (by decide) (by decide) (by decide)
  have S0_q_2 : Sta Z h2 "java/lang/String" "COMPACT_STRINGS" "Z" (.int w) := (S0_q_1.ext E2)
  have S1_q_2 : Sta Z h2 "jdk/internal/util/Preconditions" "SIOOBE_FORMATTER" "Ljava/util/function/BiFunction;" fm := (S1_q_1.ext E2)
  have A1_q_2 : Exa Z h2 a1 "java/lang/String" := (A1.ext E2)
  have G1c_q_2 : Fld Z h2 a1 "java/lang/String" "coder" "B" (.int (0 : Int32)) := (G1c.ext E2)
  have G1v_q_2 : Fld Z h2 a1 "java/lang/String" "value" "[B" (.ref b1) := (G1v.ext E2)
  have V1_q_2 : Arv Z h2 b1 k1 .byte (16 : Int32) own_us (.int (0 : Int32)) := (V1.ext E2)
  have hZ := hZ2
  have hown := ho2
  refine Go.st (T' := T2) (g' := (mkF m 5 #[.val (.int p0), .val (.int p1), .val (.ref a1), .unset, .unset, .unset, .unset, .unset, .unset, .unset] [(.ref a2)])) st2 ?_
  refine Go.st (T' := T2) (g' := (mkF m 6 #[.val (.int p0), .val (.int p1), .val (.ref a1), .val (.ref a2), .unset, .unset, .unset, .unset, .unset, .unset] [])) (fun _ hr => XS.astoreN X2.here hx rfl (hb hby at_5) rfl rfl (l' := #[.val (.int p0), .val (.int p1), .val (.ref a1), .val (.ref a2), .unset, .unset, .unset, .unset, .unset, .unset]) rfl hr) ?_
  refine Go.st (T' := T2) (g' := (mkF m 7 #[.val (.int p0), .val (.int p1), .val (.ref a1), .val (.ref a2), .unset, .unset, .unset, .unset, .unset, .unset] [(.int p0)])) (fun _ hr => XS.iloadN X2.here hx rfl (hb hby at_6) rfl hr) ?_
  refine Go.st (T' := T2) (g' := (mkF m 8 #[.val (.int p0), .val (.int p1), .val (.ref a1), .val (.ref a2), .unset, .unset, .unset, .unset, .unset, .unset] [(.int (p0).toUInt32.toUInt16.toUInt32.toInt32)])) (fun _ hr => XT.i2c X2.here hx rfl (hb hby at_7) rfl hr) ?_
  refine Go.st (T' := T2) (g' := (mkF m 10 #[.val (.int p0), .val (.int p1), .val (.ref a1), .val (.ref a2), .val (.int (p0).toUInt32.toUInt16.toUInt32.toInt32), .unset, .unset, .unset, .unset, .unset] [])) (fun _ hr => XS.istore X2.here hx rfl (hb hby at_8) rfl (l' := #[.val (.int p0), .val (.int p1), .val (.ref a1), .val (.ref a2), .val (.int (p0).toUInt32.toUInt16.toUInt32.toInt32), .unset, .unset, .unset, .unset, .unset]) rfl hr) ?_
  refine Go.st (T' := T2) (g' := (mkF m 12 #[.val (.int p0), .val (.int p1), .val (.ref a1), .val (.ref a2), .val (.int (p0).toUInt32.toUInt16.toUInt32.toInt32), .unset, .unset, .unset, .unset, .unset] [(.int (p0).toUInt32.toUInt16.toUInt32.toInt32)])) (fun _ hr => XS.iload X2.here hx rfl (hb hby at_10) rfl hr) ?_
  refine Go.callP X2 hx hZ hown (W := 0) (hw _ (List.mem_of_getElem? (i := 9) rfl)) (hw _ (List.mem_of_getElem? (i := 10) rfl)) (hw _ (List.mem_of_getElem? (i := 11) rfl)) (hw _ (List.mem_of_getElem? (i := 12) rfl)) (by decide) e2 (rm1 l Z a0 hw ((p0).toUInt32.toUInt16.toUInt32.toInt32) h2) (by decide) (by decide) (by decide) (by decide) (g := (mkF m 12 #[.val (.int p0), .val (.int p1), .val (.ref a1), .val (.ref a2), .val (.int (p0).toUInt32.toUInt16.toUInt32.toInt32), .unset, .unset, .unset, .unset, .unset] [(.int (p0).toUInt32.toUInt16.toUInt32.toInt32)])) rfl (by rw [hml]; rfl) (argsL := [(.int (p0).toUInt32.toUInt16.toUInt32.toInt32)]) (rest := []) (lenOf pd_0 rfl) rfl (by show 2 * 0 + _ ≤ _; exact Nat.le_of_eq rfl) (hb hby at_12) (fun T3 X3 e3 => ?_)
  show Go p.tables e below (FinW Z (fun v h L => v = some (.int 1) ∧ L = []) room_1.cells room_1.slots) T3 (mkF m 15 #[.val (.int p0), .val (.int p1), .val (.ref a1), .val (.ref a2), .val (.int (p0).toUInt32.toUInt16.toUInt32.toInt32), .unset, .unset, .unset, .unset, .unset] [(.int (f1 ((p0).toUInt32.toUInt16.toUInt32.toInt32)))])
  refine Go.st (T' := T3) (g' := (mkF m 17 #[.val (.int p0), .val (.int p1), .val (.ref a1), .val (.ref a2), .val (.int (p0).toUInt32.toUInt16.toUInt32.toInt32), .val (.int (f1 ((p0).toUInt32.toUInt16.toUInt32.toInt32))), .unset, .unset, .unset, .unset] [])) (fun _ hr => XS.istore X3.here hx rfl (hb hby at_15) rfl (l' := #[.val (.int p0), .val (.int p1), .val (.ref a1), .val (.ref a2), .val (.int (p0).toUInt32.toUInt16.toUInt32.toInt32), .val (.int (f1 ((p0).toUInt32.toUInt16.toUInt32.toInt32))), .unset, .unset, .unset, .unset]) rfl hr) ?_
  refine Go.st (T' := T3) (g' := (mkF m 19 #[.val (.int p0), .val (.int p1), .val (.ref a1), .val (.ref a2), .val (.int (p0).toUInt32.toUInt16.toUInt32.toInt32), .val (.int (f1 ((p0).toUInt32.toUInt16.toUInt32.toInt32))), .unset, .unset, .unset, .unset] [(.int (f1 ((p0).toUInt32.toUInt16.toUInt32.toInt32)))])) (fun _ hr => XS.iload X3.here hx rfl (hb hby at_17) rfl hr) ?_
  refine Go.st (T' := T3) (g' := (mkF m 20 #[.val (.int p0), .val (.int p1), .val (.ref a1), .val (.ref a2), .val (.int (p0).toUInt32.toUInt16.toUInt32.toInt32), .val (.int (f1 ((p0).toUInt32.toUInt16.toUInt32.toInt32))), .unset, .unset, .unset, .unset] [(.int (-1 : Int32)), (.int (f1 ((p0).toUInt32.toUInt16.toUInt32.toInt32)))])) (fun _ hr => XT.iconstV X3.here hx rfl (-1 : Int32) (hb hby at_19) (by decide) hr) ?_
  have J76_4 : ∀ (T5 : State), Stand p l e room_1 (Z.setVm T2.vm) m #[(.int p0), (.int p1)] below meth c T5 [] 4 136 → T5.heap = h2 → Go p.tables e below (FinW Z (fun v h L => v = some (.int 1) ∧ L = []) room_1.cells room_1.slots) T5 (mkF m 76 #[.val (.int p0), .val (.int p1), .val (.ref a1), .val (.ref a2), .val (.int (p0).toUInt32.toUInt16.toUInt32.toInt32), .val (.int (f1 ((p0).toUInt32.toUInt16.toUInt32.toInt32))), .val (.int (1 : Int32)), .unset, .unset, .unset] []) := by
    intro T5 X5 e5
    refine Go.st (T' := T5) (g' := (mkF m 77 #[.val (.int p0), .val (.int p1), .val (.ref a1), .val (.ref a2), .val (.int (p0).toUInt32.toUInt16.toUInt32.toInt32), .val (.int (f1 ((p0).toUInt32.toUInt16.toUInt32.toInt32))), .val (.int (1 : Int32)), .unset, .unset, .unset] [(.int p1)])) (fun _ hr => XS.iloadN X5.here hx rfl (hb hby at_76) rfl hr) ?_
    refine Go.st (T' := T5) (g' := (mkF m 79 #[.val (.int p0), .val (.int p1), .val (.ref a1), .val (.ref a2), .val (.int (p0).toUInt32.toUInt16.toUInt32.toInt32), .val (.int (f1 ((p0).toUInt32.toUInt16.toUInt32.toInt32))), .val (.int (1 : Int32)), .unset, .unset, .unset] [(.int (15 : Int32)), (.int p1)])) (fun _ hr => XT.bipushV X5.here hx rfl (15 : Int32) (hb hby at_77) (by decide) hr) ?_
    refine Go.st (T' := T5) (g' := (mkF m 80 #[.val (.int p0), .val (.int p1), .val (.ref a1), .val (.ref a2), .val (.int (p0).toUInt32.toUInt16.toUInt32.toInt32), .val (.int (f1 ((p0).toUInt32.toUInt16.toUInt32.toInt32))), .val (.int (1 : Int32)), .unset, .unset, .unset] [(.int (p1 &&& (15 : Int32)))])) (fun _ hr => XS.iand X5.here hx rfl (hb hby at_79) rfl hr) ?_
    refine Go.st (T' := T5) (g' := (mkF m 82 #[.val (.int p0), .val (.int p1), .val (.ref a1), .val (.ref a2), .val (.int (p0).toUInt32.toUInt16.toUInt32.toInt32), .val (.int (f1 ((p0).toUInt32.toUInt16.toUInt32.toInt32))), .val (.int (1 : Int32)), .val (.int (p1 &&& (15 : Int32))), .unset, .unset] [])) (fun _ hr => XS.istore X5.here hx rfl (hb hby at_80) rfl (l' := #[.val (.int p0), .val (.int p1), .val (.ref a1), .val (.ref a2), .val (.int (p0).toUInt32.toUInt16.toUInt32.toInt32), .val (.int (f1 ((p0).toUInt32.toUInt16.toUInt32.toInt32))), .val (.int (1 : Int32)), .val (.int (p1 &&& (15 : Int32))), .unset, .unset]) rfl hr) ?_
    refine Go.st (T' := T5) (g' := (mkF m 83 #[.val (.int p0), .val (.int p1), .val (.ref a1), .val (.ref a2), .val (.int (p0).toUInt32.toUInt16.toUInt32.toInt32), .val (.int (f1 ((p0).toUInt32.toUInt16.toUInt32.toInt32))), .val (.int (1 : Int32)), .val (.int (p1 &&& (15 : Int32))), .unset, .unset] [(.ref a1)])) (fun _ hr => XS.aloadN X5.here hx rfl (hb hby at_82) rfl rfl hr) ?_
    refine Go.st (T' := T5) (g' := (mkF m 85 #[.val (.int p0), .val (.int p1), .val (.ref a1), .val (.ref a2), .val (.int (p0).toUInt32.toUInt16.toUInt32.toInt32), .val (.int (f1 ((p0).toUInt32.toUInt16.toUInt32.toInt32))), .val (.int (1 : Int32)), .val (.int (p1 &&& (15 : Int32))), .unset, .unset] [(.int (p1 &&& (15 : Int32))), (.ref a1)])) (fun _ hr => XS.iload X5.here hx rfl (hb hby at_83) rfl hr) ?_
    refine Go.callV X5 hx hZ hown (W := 0) (y := (⟨"java/lang/String", "charAt", "(I)C"⟩ : MethodName)) (hw _ (List.mem_of_getElem? (i := 13) rfl)) (hw _ (List.mem_of_getElem? (i := 14) rfl)) (hw _ (List.mem_of_getElem? (i := 16) rfl)) (hw _ (List.mem_of_getElem? (i := 15) rfl)) (hw _ (List.mem_of_getElem? (i := 1) rfl)) (hw _ (List.mem_of_getElem? (i := 17) rfl)) (by decide) rfl e5 A1_q_2 (rm2 l Z a0 hw a1 (p1 &&& (15 : Int32)) b1 k1 own_us (own_ub (p1 &&& (15 : Int32))) w fm h2 rfm S1_q_2 (own_v _).1 (own_v _).2 V1_q_2 (own_hu (own_v _).1 (own_v _).2) A1_q_2 G1v_q_2 hcs S0_q_2 G1c_q_2) (by decide) (by decide) (by decide) (by decide) (g := (mkF m 85 #[.val (.int p0), .val (.int p1), .val (.ref a1), .val (.ref a2), .val (.int (p0).toUInt32.toUInt16.toUInt32.toInt32), .val (.int (f1 ((p0).toUInt32.toUInt16.toUInt32.toInt32))), .val (.int (1 : Int32)), .val (.int (p1 &&& (15 : Int32))), .unset, .unset] [(.int (p1 &&& (15 : Int32))), (.ref a1)])) rfl (by rw [hml]; rfl) (argsL := [(.int (p1 &&& (15 : Int32)))]) (rest := []) (lenOf pd_5 rfl) rfl (by show 2 * 0 + _ ≤ _; exact Nat.le_of_eq rfl) (hb hby at_85) (fun v6 T6 L6 X6 q6 => ?_)
    obtain ⟨rfl, rfl, e6⟩ := q6
    rw [List.append_nil] at X6
    show Go p.tables e below (FinW Z (fun v h L => v = some (.int 1) ∧ L = []) room_1.cells room_1.slots) T6 (mkF m 88 #[.val (.int p0), .val (.int p1), .val (.ref a1), .val (.ref a2), .val (.int (p0).toUInt32.toUInt16.toUInt32.toInt32), .val (.int (f1 ((p0).toUInt32.toUInt16.toUInt32.toInt32))), .val (.int (1 : Int32)), .val (.int (p1 &&& (15 : Int32))), .unset, .unset] [(.int (f2 (own_ub (p1 &&& (15 : Int32)))))])
    refine Go.callP X6 hx hZ hown (W := 0) (hw _ (List.mem_of_getElem? (i := 9) rfl)) (hw _ (List.mem_of_getElem? (i := 10) rfl)) (hw _ (List.mem_of_getElem? (i := 11) rfl)) (hw _ (List.mem_of_getElem? (i := 12) rfl)) (by decide) e6 (rm1 l Z a0 hw (f2 (own_ub (p1 &&& (15 : Int32)))) h2) (by decide) (by decide) (by decide) (by decide) (g := (mkF m 88 #[.val (.int p0), .val (.int p1), .val (.ref a1), .val (.ref a2), .val (.int (p0).toUInt32.toUInt16.toUInt32.toInt32), .val (.int (f1 ((p0).toUInt32.toUInt16.toUInt32.toInt32))), .val (.int (1 : Int32)), .val (.int (p1 &&& (15 : Int32))), .unset, .unset] [(.int (f2 (own_ub (p1 &&& (15 : Int32)))))])) rfl (by rw [hml]; rfl) (argsL := [(.int (f2 (own_ub (p1 &&& (15 : Int32)))))]) (rest := []) (lenOf pd_0 rfl) rfl (by show 2 * 0 + _ ≤ _; exact Nat.le_of_eq rfl) (hb hby at_88) (fun T7 X7 e7 => ?_)
    show Go p.tables e below (FinW Z (fun v h L => v = some (.int 1) ∧ L = []) room_1.cells room_1.slots) T7 (mkF m 91 #[.val (.int p0), .val (.int p1), .val (.ref a1), .val (.ref a2), .val (.int (p0).toUInt32.toUInt16.toUInt32.toInt32), .val (.int (f1 ((p0).toUInt32.toUInt16.toUInt32.toInt32))), .val (.int (1 : Int32)), .val (.int (p1 &&& (15 : Int32))), .unset, .unset] [(.int (f1 (f2 (own_ub (p1 &&& (15 : Int32))))))])
    refine Go.st (T' := T7) (g' := (mkF m 93 #[.val (.int p0), .val (.int p1), .val (.ref a1), .val (.ref a2), .val (.int (p0).toUInt32.toUInt16.toUInt32.toInt32), .val (.int (f1 ((p0).toUInt32.toUInt16.toUInt32.toInt32))), .val (.int (1 : Int32)), .val (.int (p1 &&& (15 : Int32))), .unset, .unset] [(.int (p1 &&& (15 : Int32))), (.int (f1 (f2 (own_ub (p1 &&& (15 : Int32))))))])) (fun _ hr => XS.iload X7.here hx rfl (hb hby at_91) rfl hr) ?_
    refine Go.st (T' := T7) (g' := (mkF m 96 #[.val (.int p0), .val (.int p1), .val (.ref a1), .val (.ref a2), .val (.int (p0).toUInt32.toUInt16.toUInt32.toInt32), .val (.int (f1 ((p0).toUInt32.toUInt16.toUInt32.toInt32))), .val (.int (1 : Int32)), .val (.int (p1 &&& (15 : Int32))), .unset, .unset] [])) (fun _ hr => XS.icmpNo X7.here hx rfl (hb hby at_93) rfl (XT.ii_ne_f (own_up (own_v _).1 (own_v _).2)) hr) ?_
    refine Go.st (T' := T7) (g' := (mkF m 97 #[.val (.int p0), .val (.int p1), .val (.ref a1), .val (.ref a2), .val (.int (p0).toUInt32.toUInt16.toUInt32.toInt32), .val (.int (f1 ((p0).toUInt32.toUInt16.toUInt32.toInt32))), .val (.int (1 : Int32)), .val (.int (p1 &&& (15 : Int32))), .unset, .unset] [(.int (1 : Int32))])) (fun _ hr => XT.iconstV X7.here hx rfl (1 : Int32) (hb hby at_96) (by decide) hr) ?_
    refine Go.st (T' := T7) (g' := (mkF m 101 #[.val (.int p0), .val (.int p1), .val (.ref a1), .val (.ref a2), .val (.int (p0).toUInt32.toUInt16.toUInt32.toInt32), .val (.int (f1 ((p0).toUInt32.toUInt16.toUInt32.toInt32))), .val (.int (1 : Int32)), .val (.int (p1 &&& (15 : Int32))), .unset, .unset] [(.int (1 : Int32))])) (fun _ hr => XS.goto X7.here hx rfl (pc0 := 97) (pc' := 101) rfl (hb hby at_97) (by decide) (by decide) hr) ?_
    refine Go.st (T' := T7) (g' := (mkF m 103 #[.val (.int p0), .val (.int p1), .val (.ref a1), .val (.ref a2), .val (.int (p0).toUInt32.toUInt16.toUInt32.toInt32), .val (.int (f1 ((p0).toUInt32.toUInt16.toUInt32.toInt32))), .val (.int (1 : Int32)), .val (.int (p1 &&& (15 : Int32))), .val (.int (1 : Int32)), .unset] [])) (fun _ hr => XS.istore X7.here hx rfl (hb hby at_101) rfl (l' := #[.val (.int p0), .val (.int p1), .val (.ref a1), .val (.ref a2), .val (.int (p0).toUInt32.toUInt16.toUInt32.toInt32), .val (.int (f1 ((p0).toUInt32.toUInt16.toUInt32.toInt32))), .val (.int (1 : Int32)), .val (.int (p1 &&& (15 : Int32))), .val (.int (1 : Int32)), .unset]) rfl hr) ?_
    refine Go.st (T' := T7) (g' := (mkF m 104 #[.val (.int p0), .val (.int p1), .val (.ref a1), .val (.ref a2), .val (.int (p0).toUInt32.toUInt16.toUInt32.toInt32), .val (.int (f1 ((p0).toUInt32.toUInt16.toUInt32.toInt32))), .val (.int (1 : Int32)), .val (.int (p1 &&& (15 : Int32))), .val (.int (1 : Int32)), .unset] [(.ref a2)])) (fun _ hr => XS.aloadN X7.here hx rfl (hb hby at_103) rfl rfl hr) ?_
    refine Go.st (T' := T7) (g' := (mkF m 106 #[.val (.int p0), .val (.int p1), .val (.ref a1), .val (.ref a2), .val (.int (p0).toUInt32.toUInt16.toUInt32.toInt32), .val (.int (f1 ((p0).toUInt32.toUInt16.toUInt32.toInt32))), .val (.int (1 : Int32)), .val (.int (p1 &&& (15 : Int32))), .val (.int (1 : Int32)), .unset] [(.int (p1 &&& (15 : Int32))), (.ref a2)])) (fun _ hr => XS.iload X7.here hx rfl (hb hby at_104) rfl hr) ?_
    refine Go.callV X7 hx hZ hown (W := 0) (y := (⟨"java/lang/String", "charAt", "(I)C"⟩ : MethodName)) (hw _ (List.mem_of_getElem? (i := 13) rfl)) (hw _ (List.mem_of_getElem? (i := 14) rfl)) (hw _ (List.mem_of_getElem? (i := 16) rfl)) (hw _ (List.mem_of_getElem? (i := 15) rfl)) (hw _ (List.mem_of_getElem? (i := 1) rfl)) (hw _ (List.mem_of_getElem? (i := 17) rfl)) (by decide) rfl e7 A2 (rm2 l Z a0 hw a2 (p1 &&& (15 : Int32)) b2 k2 own_ls (own_lb (p1 &&& (15 : Int32))) w fm h2 rfm S1_q_2 (own_v _).1 (own_v _).2 V2 (own_hl (own_v _).1 (own_v _).2) A2 G2v hcs S0_q_2 G2c) (by decide) (by decide) (by decide) (by decide) (g := (mkF m 106 #[.val (.int p0), .val (.int p1), .val (.ref a1), .val (.ref a2), .val (.int (p0).toUInt32.toUInt16.toUInt32.toInt32), .val (.int (f1 ((p0).toUInt32.toUInt16.toUInt32.toInt32))), .val (.int (1 : Int32)), .val (.int (p1 &&& (15 : Int32))), .val (.int (1 : Int32)), .unset] [(.int (p1 &&& (15 : Int32))), (.ref a2)])) rfl (by rw [hml]; rfl) (argsL := [(.int (p1 &&& (15 : Int32)))]) (rest := []) (lenOf pd_5 rfl) rfl (by show 2 * 0 + _ ≤ _; exact Nat.le_of_eq rfl) (hb hby at_106) (fun v8 T8 L8 X8 q8 => ?_)
    obtain ⟨rfl, rfl, e8⟩ := q8
    rw [List.append_nil] at X8
    show Go p.tables e below (FinW Z (fun v h L => v = some (.int 1) ∧ L = []) room_1.cells room_1.slots) T8 (mkF m 109 #[.val (.int p0), .val (.int p1), .val (.ref a1), .val (.ref a2), .val (.int (p0).toUInt32.toUInt16.toUInt32.toInt32), .val (.int (f1 ((p0).toUInt32.toUInt16.toUInt32.toInt32))), .val (.int (1 : Int32)), .val (.int (p1 &&& (15 : Int32))), .val (.int (1 : Int32)), .unset] [(.int (f2 (own_lb (p1 &&& (15 : Int32)))))])
    refine Go.callP X8 hx hZ hown (W := 0) (hw _ (List.mem_of_getElem? (i := 9) rfl)) (hw _ (List.mem_of_getElem? (i := 10) rfl)) (hw _ (List.mem_of_getElem? (i := 11) rfl)) (hw _ (List.mem_of_getElem? (i := 12) rfl)) (by decide) e8 (rm1 l Z a0 hw (f2 (own_lb (p1 &&& (15 : Int32)))) h2) (by decide) (by decide) (by decide) (by decide) (g := (mkF m 109 #[.val (.int p0), .val (.int p1), .val (.ref a1), .val (.ref a2), .val (.int (p0).toUInt32.toUInt16.toUInt32.toInt32), .val (.int (f1 ((p0).toUInt32.toUInt16.toUInt32.toInt32))), .val (.int (1 : Int32)), .val (.int (p1 &&& (15 : Int32))), .val (.int (1 : Int32)), .unset] [(.int (f2 (own_lb (p1 &&& (15 : Int32)))))])) rfl (by rw [hml]; rfl) (argsL := [(.int (f2 (own_lb (p1 &&& (15 : Int32)))))]) (rest := []) (lenOf pd_0 rfl) rfl (by show 2 * 0 + _ ≤ _; exact Nat.le_of_eq rfl) (hb hby at_109) (fun T9 X9 e9 => ?_)
    show Go p.tables e below (FinW Z (fun v h L => v = some (.int 1) ∧ L = []) room_1.cells room_1.slots) T9 (mkF m 112 #[.val (.int p0), .val (.int p1), .val (.ref a1), .val (.ref a2), .val (.int (p0).toUInt32.toUInt16.toUInt32.toInt32), .val (.int (f1 ((p0).toUInt32.toUInt16.toUInt32.toInt32))), .val (.int (1 : Int32)), .val (.int (p1 &&& (15 : Int32))), .val (.int (1 : Int32)), .unset] [(.int (f1 (f2 (own_lb (p1 &&& (15 : Int32))))))])
    refine Go.st (T' := T9) (g' := (mkF m 114 #[.val (.int p0), .val (.int p1), .val (.ref a1), .val (.ref a2), .val (.int (p0).toUInt32.toUInt16.toUInt32.toInt32), .val (.int (f1 ((p0).toUInt32.toUInt16.toUInt32.toInt32))), .val (.int (1 : Int32)), .val (.int (p1 &&& (15 : Int32))), .val (.int (1 : Int32)), .unset] [(.int (p1 &&& (15 : Int32))), (.int (f1 (f2 (own_lb (p1 &&& (15 : Int32))))))])) (fun _ hr => XS.iload X9.here hx rfl (hb hby at_112) rfl hr) ?_
    refine Go.st (T' := T9) (g' := (mkF m 117 #[.val (.int p0), .val (.int p1), .val (.ref a1), .val (.ref a2), .val (.int (p0).toUInt32.toUInt16.toUInt32.toInt32), .val (.int (f1 ((p0).toUInt32.toUInt16.toUInt32.toInt32))), .val (.int (1 : Int32)), .val (.int (p1 &&& (15 : Int32))), .val (.int (1 : Int32)), .unset] [])) (fun _ hr => XS.icmpNo X9.here hx rfl (hb hby at_114) rfl (XT.ii_ne_f (own_low (own_v _).1 (own_v _).2)) hr) ?_
    refine Go.st (T' := T9) (g' := (mkF m 118 #[.val (.int p0), .val (.int p1), .val (.ref a1), .val (.ref a2), .val (.int (p0).toUInt32.toUInt16.toUInt32.toInt32), .val (.int (f1 ((p0).toUInt32.toUInt16.toUInt32.toInt32))), .val (.int (1 : Int32)), .val (.int (p1 &&& (15 : Int32))), .val (.int (1 : Int32)), .unset] [(.int (1 : Int32))])) (fun _ hr => XT.iconstV X9.here hx rfl (1 : Int32) (hb hby at_117) (by decide) hr) ?_
    refine Go.st (T' := T9) (g' := (mkF m 122 #[.val (.int p0), .val (.int p1), .val (.ref a1), .val (.ref a2), .val (.int (p0).toUInt32.toUInt16.toUInt32.toInt32), .val (.int (f1 ((p0).toUInt32.toUInt16.toUInt32.toInt32))), .val (.int (1 : Int32)), .val (.int (p1 &&& (15 : Int32))), .val (.int (1 : Int32)), .unset] [(.int (1 : Int32))])) (fun _ hr => XS.goto X9.here hx rfl (pc0 := 118) (pc' := 122) rfl (hb hby at_118) (by decide) (by decide) hr) ?_
    refine Go.st (T' := T9) (g' := (mkF m 124 #[.val (.int p0), .val (.int p1), .val (.ref a1), .val (.ref a2), .val (.int (p0).toUInt32.toUInt16.toUInt32.toInt32), .val (.int (f1 ((p0).toUInt32.toUInt16.toUInt32.toInt32))), .val (.int (1 : Int32)), .val (.int (p1 &&& (15 : Int32))), .val (.int (1 : Int32)), .val (.int (1 : Int32))] [])) (fun _ hr => XS.istore X9.here hx rfl (hb hby at_122) rfl (l' := #[.val (.int p0), .val (.int p1), .val (.ref a1), .val (.ref a2), .val (.int (p0).toUInt32.toUInt16.toUInt32.toInt32), .val (.int (f1 ((p0).toUInt32.toUInt16.toUInt32.toInt32))), .val (.int (1 : Int32)), .val (.int (p1 &&& (15 : Int32))), .val (.int (1 : Int32)), .val (.int (1 : Int32))]) rfl hr) ?_
    refine Go.st (T' := T9) (g' := (mkF m 126 #[.val (.int p0), .val (.int p1), .val (.ref a1), .val (.ref a2), .val (.int (p0).toUInt32.toUInt16.toUInt32.toInt32), .val (.int (f1 ((p0).toUInt32.toUInt16.toUInt32.toInt32))), .val (.int (1 : Int32)), .val (.int (p1 &&& (15 : Int32))), .val (.int (1 : Int32)), .val (.int (1 : Int32))] [(.int (1 : Int32))])) (fun _ hr => XS.iload X9.here hx rfl (hb hby at_124) rfl hr) ?_
    refine Go.st (T' := T9) (g' := (mkF m 129 #[.val (.int p0), .val (.int p1), .val (.ref a1), .val (.ref a2), .val (.int (p0).toUInt32.toUInt16.toUInt32.toInt32), .val (.int (f1 ((p0).toUInt32.toUInt16.toUInt32.toInt32))), .val (.int (1 : Int32)), .val (.int (p1 &&& (15 : Int32))), .val (.int (1 : Int32)), .val (.int (1 : Int32))] [])) (fun _ hr => XS.ifNo X9.here hx rfl (hb hby at_126) rfl (XT.i0_eq_f (by decide)) hr) ?_
    refine Go.st (T' := T9) (g' := (mkF m 131 #[.val (.int p0), .val (.int p1), .val (.ref a1), .val (.ref a2), .val (.int (p0).toUInt32.toUInt16.toUInt32.toInt32), .val (.int (f1 ((p0).toUInt32.toUInt16.toUInt32.toInt32))), .val (.int (1 : Int32)), .val (.int (p1 &&& (15 : Int32))), .val (.int (1 : Int32)), .val (.int (1 : Int32))] [(.int (1 : Int32))])) (fun _ hr => XS.iload X9.here hx rfl (hb hby at_129) rfl hr) ?_
    refine Go.st (T' := T9) (g' := (mkF m 134 #[.val (.int p0), .val (.int p1), .val (.ref a1), .val (.ref a2), .val (.int (p0).toUInt32.toUInt16.toUInt32.toInt32), .val (.int (f1 ((p0).toUInt32.toUInt16.toUInt32.toInt32))), .val (.int (1 : Int32)), .val (.int (p1 &&& (15 : Int32))), .val (.int (1 : Int32)), .val (.int (1 : Int32))] [])) (fun _ hr => XS.ifNo X9.here hx rfl (hb hby at_131) rfl (XT.i0_eq_f (by decide)) hr) ?_
    refine Go.st (T' := T9) (g' := (mkF m 136 #[.val (.int p0), .val (.int p1), .val (.ref a1), .val (.ref a2), .val (.int (p0).toUInt32.toUInt16.toUInt32.toInt32), .val (.int (f1 ((p0).toUInt32.toUInt16.toUInt32.toInt32))), .val (.int (1 : Int32)), .val (.int (p1 &&& (15 : Int32))), .val (.int (1 : Int32)), .val (.int (1 : Int32))] [(.int (1 : Int32))])) (fun _ hr => XS.iload X9.here hx rfl (hb hby at_134) rfl hr) ?_
    refine Go.st (T' := T9) (g' := (mkF m 139 #[.val (.int p0), .val (.int p1), .val (.ref a1), .val (.ref a2), .val (.int (p0).toUInt32.toUInt16.toUInt32.toInt32), .val (.int (f1 ((p0).toUInt32.toUInt16.toUInt32.toInt32))), .val (.int (1 : Int32)), .val (.int (p1 &&& (15 : Int32))), .val (.int (1 : Int32)), .val (.int (1 : Int32))] [])) (fun _ hr => XS.ifNo X9.here hx rfl (hb hby at_136) rfl (XT.i0_eq_f (by decide)) hr) ?_
    refine Go.st (T' := T9) (g' := (mkF m 140 #[.val (.int p0), .val (.int p1), .val (.ref a1), .val (.ref a2), .val (.int (p0).toUInt32.toUInt16.toUInt32.toInt32), .val (.int (f1 ((p0).toUInt32.toUInt16.toUInt32.toInt32))), .val (.int (1 : Int32)), .val (.int (p1 &&& (15 : Int32))), .val (.int (1 : Int32)), .val (.int (1 : Int32))] [(.int (1 : Int32))])) (fun _ hr => XT.iconstV X9.here hx rfl (1 : Int32) (hb hby at_139) (by decide) hr) ?_
    refine Go.st (T' := T9) (g' := (mkF m 144 #[.val (.int p0), .val (.int p1), .val (.ref a1), .val (.ref a2), .val (.int (p0).toUInt32.toUInt16.toUInt32.toInt32), .val (.int (f1 ((p0).toUInt32.toUInt16.toUInt32.toInt32))), .val (.int (1 : Int32)), .val (.int (p1 &&& (15 : Int32))), .val (.int (1 : Int32)), .val (.int (1 : Int32))] [(.int (1 : Int32))])) (fun _ hr => XS.goto X9.here hx rfl (pc0 := 140) (pc' := 144) rfl (hb hby at_140) (by decide) (by decide) hr) ?_
    exact Go.retNW X9 hS2 (by rw [e9]; exact hn2) hx hlk hret (by simp) (hb hby at_144) (by decide) (by decide) ⟨rfl, rfl⟩
  by_cases c20_10 : (f1 ((p0).toUInt32.toUInt16.toUInt32.toInt32)) = (-1 : Int32)
  · refine Go.st (T' := T3) (g' := (mkF m 23 #[.val (.int p0), .val (.int p1), .val (.ref a1), .val (.ref a2), .val (.int (p0).toUInt32.toUInt16.toUInt32.toInt32), .val (.int (f1 ((p0).toUInt32.toUInt16.toUInt32.toInt32))), .unset, .unset, .unset, .unset] [])) (fun _ hr => XS.icmpNo X3.here hx rfl (hb hby at_20) rfl (XT.ii_ne_f c20_10) hr) ?_
    refine Go.st (T' := T3) (g' := (mkF m 24 #[.val (.int p0), .val (.int p1), .val (.ref a1), .val (.ref a2), .val (.int (p0).toUInt32.toUInt16.toUInt32.toInt32), .val (.int (f1 ((p0).toUInt32.toUInt16.toUInt32.toInt32))), .unset, .unset, .unset, .unset] [(.int (1 : Int32))])) (fun _ hr => XT.iconstV X3.here hx rfl (1 : Int32) (hb hby at_23) (by decide) hr) ?_
    refine Go.st (T' := T3) (g' := (mkF m 26 #[.val (.int p0), .val (.int p1), .val (.ref a1), .val (.ref a2), .val (.int (p0).toUInt32.toUInt16.toUInt32.toInt32), .val (.int (f1 ((p0).toUInt32.toUInt16.toUInt32.toInt32))), .val (.int (1 : Int32)), .unset, .unset, .unset] [])) (fun _ hr => XS.istore X3.here hx rfl (hb hby at_24) rfl (l' := #[.val (.int p0), .val (.int p1), .val (.ref a1), .val (.ref a2), .val (.int (p0).toUInt32.toUInt16.toUInt32.toInt32), .val (.int (f1 ((p0).toUInt32.toUInt16.toUInt32.toInt32))), .val (.int (1 : Int32)), .unset, .unset, .unset]) rfl hr) ?_
    refine Go.st (T' := T3) (g' := (mkF m 76 #[.val (.int p0), .val (.int p1), .val (.ref a1), .val (.ref a2), .val (.int (p0).toUInt32.toUInt16.toUInt32.toInt32), .val (.int (f1 ((p0).toUInt32.toUInt16.toUInt32.toInt32))), .val (.int (1 : Int32)), .unset, .unset, .unset] [])) (fun _ hr => XS.goto X3.here hx rfl (pc0 := 26) (pc' := 76) rfl (hb hby at_26) (by decide) (by decide) hr) ?_
    exact Go.cast (by first | rfl | simp only [if_pos c20_10]) (J76_4 T3 X3 e3)
  · refine Go.st (T' := T3) (g' := (mkF m 29 #[.val (.int p0), .val (.int p1), .val (.ref a1), .val (.ref a2), .val (.int (p0).toUInt32.toUInt16.toUInt32.toInt32), .val (.int (f1 ((p0).toUInt32.toUInt16.toUInt32.toInt32))), .unset, .unset, .unset, .unset] [])) (fun _ hr => XS.icmpYes X3.here hx rfl (pc0 := 20) (pc' := 29) rfl (hb hby at_20) rfl (XT.ii_ne_t c20_10) (by decide) (by decide) hr) ?_
    refine Go.st (T' := T3) (g' := (mkF m 31 #[.val (.int p0), .val (.int p1), .val (.ref a1), .val (.ref a2), .val (.int (p0).toUInt32.toUInt16.toUInt32.toInt32), .val (.int (f1 ((p0).toUInt32.toUInt16.toUInt32.toInt32))), .unset, .unset, .unset, .unset] [(.int (f1 ((p0).toUInt32.toUInt16.toUInt32.toInt32)))])) (fun _ hr => XS.iload X3.here hx rfl (hb hby at_29) rfl hr) ?_
    refine Go.st (T' := T3) (g' := (mkF m 34 #[.val (.int p0), .val (.int p1), .val (.ref a1), .val (.ref a2), .val (.int (p0).toUInt32.toUInt16.toUInt32.toInt32), .val (.int (f1 ((p0).toUInt32.toUInt16.toUInt32.toInt32))), .unset, .unset, .unset, .unset] [])) (fun _ hr => XS.ifNo X3.here hx rfl (hb hby at_31) rfl (XT.i0_lt_f (own_r0 c20_10)) hr) ?_
    refine Go.st (T' := T3) (g' := (mkF m 36 #[.val (.int p0), .val (.int p1), .val (.ref a1), .val (.ref a2), .val (.int (p0).toUInt32.toUInt16.toUInt32.toInt32), .val (.int (f1 ((p0).toUInt32.toUInt16.toUInt32.toInt32))), .unset, .unset, .unset, .unset] [(.int (f1 ((p0).toUInt32.toUInt16.toUInt32.toInt32)))])) (fun _ hr => XS.iload X3.here hx rfl (hb hby at_34) rfl hr) ?_
    refine Go.st (T' := T3) (g' := (mkF m 38 #[.val (.int p0), .val (.int p1), .val (.ref a1), .val (.ref a2), .val (.int (p0).toUInt32.toUInt16.toUInt32.toInt32), .val (.int (f1 ((p0).toUInt32.toUInt16.toUInt32.toInt32))), .unset, .unset, .unset, .unset] [(.int (15 : Int32)), (.int (f1 ((p0).toUInt32.toUInt16.toUInt32.toInt32)))])) (fun _ hr => XT.bipushV X3.here hx rfl (15 : Int32) (hb hby at_36) (by decide) hr) ?_
    refine Go.st (T' := T3) (g' := (mkF m 41 #[.val (.int p0), .val (.int p1), .val (.ref a1), .val (.ref a2), .val (.int (p0).toUInt32.toUInt16.toUInt32.toInt32), .val (.int (f1 ((p0).toUInt32.toUInt16.toUInt32.toInt32))), .unset, .unset, .unset, .unset] [])) (fun _ hr => XS.icmpNo X3.here hx rfl (hb hby at_38) rfl (XT.ii_gt_f (own_r1 c20_10)) hr) ?_
    refine Go.st (T' := T3) (g' := (mkF m 43 #[.val (.int p0), .val (.int p1), .val (.ref a1), .val (.ref a2), .val (.int (p0).toUInt32.toUInt16.toUInt32.toInt32), .val (.int (f1 ((p0).toUInt32.toUInt16.toUInt32.toInt32))), .unset, .unset, .unset, .unset] [(.int (p0).toUInt32.toUInt16.toUInt32.toInt32)])) (fun _ hr => XS.iload X3.here hx rfl (hb hby at_41) rfl hr) ?_
    refine Go.st (T' := T3) (g' := (mkF m 44 #[.val (.int p0), .val (.int p1), .val (.ref a1), .val (.ref a2), .val (.int (p0).toUInt32.toUInt16.toUInt32.toInt32), .val (.int (f1 ((p0).toUInt32.toUInt16.toUInt32.toInt32))), .unset, .unset, .unset, .unset] [(.ref a1), (.int (p0).toUInt32.toUInt16.toUInt32.toInt32)])) (fun _ hr => XS.aloadN X3.here hx rfl (hb hby at_43) rfl rfl hr) ?_
    refine Go.st (T' := T3) (g' := (mkF m 46 #[.val (.int p0), .val (.int p1), .val (.ref a1), .val (.ref a2), .val (.int (p0).toUInt32.toUInt16.toUInt32.toInt32), .val (.int (f1 ((p0).toUInt32.toUInt16.toUInt32.toInt32))), .unset, .unset, .unset, .unset] [(.int (f1 ((p0).toUInt32.toUInt16.toUInt32.toInt32))), (.ref a1), (.int (p0).toUInt32.toUInt16.toUInt32.toInt32)])) (fun _ hr => XS.iload X3.here hx rfl (hb hby at_44) rfl hr) ?_
    refine Go.callV X3 hx hZ hown (W := 1) (y := (⟨"java/lang/String", "charAt", "(I)C"⟩ : MethodName)) (hw _ (List.mem_of_getElem? (i := 13) rfl)) (hw _ (List.mem_of_getElem? (i := 14) rfl)) (hw _ (List.mem_of_getElem? (i := 16) rfl)) (hw _ (List.mem_of_getElem? (i := 15) rfl)) (hw _ (List.mem_of_getElem? (i := 1) rfl)) (hw _ (List.mem_of_getElem? (i := 17) rfl)) (by decide) rfl e3 A1_q_2 (rm2 l Z a0 hw a1 (f1 ((p0).toUInt32.toUInt16.toUInt32.toInt32)) b1 k1 own_us (own_ub (f1 ((p0).toUInt32.toUInt16.toUInt32.toInt32))) w fm h2 rfm S1_q_2 (own_r0 c20_10) (own_lt16 (own_r1 c20_10)) V1_q_2 (own_hu (own_r0 c20_10) (own_lt16 (own_r1 c20_10))) A1_q_2 G1v_q_2 hcs S0_q_2 G1c_q_2) (by decide) (by decide) (by decide) (by decide) (g := (mkF m 46 #[.val (.int p0), .val (.int p1), .val (.ref a1), .val (.ref a2), .val (.int (p0).toUInt32.toUInt16.toUInt32.toInt32), .val (.int (f1 ((p0).toUInt32.toUInt16.toUInt32.toInt32))), .unset, .unset, .unset, .unset] [(.int (f1 ((p0).toUInt32.toUInt16.toUInt32.toInt32))), (.ref a1), (.int (p0).toUInt32.toUInt16.toUInt32.toInt32)])) rfl (by rw [hml]; rfl) (argsL := [(.int (f1 ((p0).toUInt32.toUInt16.toUInt32.toInt32)))]) (rest := [(.int (p0).toUInt32.toUInt16.toUInt32.toInt32)]) (lenOf pd_5 rfl) rfl (by show 2 * 0 + _ ≤ _; exact Nat.le_of_eq rfl) (hb hby at_46) (fun v11 T11 L11 X11 q11 => ?_)
    obtain ⟨rfl, rfl, e11⟩ := q11
    rw [List.append_nil] at X11
    show Go p.tables e below (FinW Z (fun v h L => v = some (.int 1) ∧ L = []) room_1.cells room_1.slots) T11 (mkF m 49 #[.val (.int p0), .val (.int p1), .val (.ref a1), .val (.ref a2), .val (.int (p0).toUInt32.toUInt16.toUInt32.toInt32), .val (.int (f1 ((p0).toUInt32.toUInt16.toUInt32.toInt32))), .unset, .unset, .unset, .unset] [(.int (f2 (own_ub (f1 ((p0).toUInt32.toUInt16.toUInt32.toInt32))))), (.int (p0).toUInt32.toUInt16.toUInt32.toInt32)])
    have J68_12 : ∀ (T13 : State), Stand p l e room_1 (Z.setVm T2.vm) m #[(.int p0), (.int p1)] below meth c T13 [] 4 136 → T13.heap = h2 → Go p.tables e below (FinW Z (fun v h L => v = some (.int 1) ∧ L = []) room_1.cells room_1.slots) T13 (mkF m 68 #[.val (.int p0), .val (.int p1), .val (.ref a1), .val (.ref a2), .val (.int (p0).toUInt32.toUInt16.toUInt32.toInt32), .val (.int (f1 ((p0).toUInt32.toUInt16.toUInt32.toInt32))), .unset, .unset, .unset, .unset] [(.int (1 : Int32))]) := by
      intro T13 X13 e13
      refine Go.st (T' := T13) (g' := (mkF m 70 #[.val (.int p0), .val (.int p1), .val (.ref a1), .val (.ref a2), .val (.int (p0).toUInt32.toUInt16.toUInt32.toInt32), .val (.int (f1 ((p0).toUInt32.toUInt16.toUInt32.toInt32))), .val (.int (1 : Int32)), .unset, .unset, .unset] [])) (fun _ hr => XS.istore X13.here hx rfl (hb hby at_68) rfl (l' := #[.val (.int p0), .val (.int p1), .val (.ref a1), .val (.ref a2), .val (.int (p0).toUInt32.toUInt16.toUInt32.toInt32), .val (.int (f1 ((p0).toUInt32.toUInt16.toUInt32.toInt32))), .val (.int (1 : Int32)), .unset, .unset, .unset]) rfl hr) ?_
      refine Go.st (T' := T13) (g' := (mkF m 76 #[.val (.int p0), .val (.int p1), .val (.ref a1), .val (.ref a2), .val (.int (p0).toUInt32.toUInt16.toUInt32.toInt32), .val (.int (f1 ((p0).toUInt32.toUInt16.toUInt32.toInt32))), .val (.int (1 : Int32)), .unset, .unset, .unset] [])) (fun _ hr => XS.goto X13.here hx rfl (pc0 := 70) (pc' := 76) rfl (hb hby at_70) (by decide) (by decide) hr) ?_
      exact Go.cast (by first | rfl | simp only [if_neg c20_10]) (J76_4 T13 X13 e13)
    by_cases c49_14 : (p0).toUInt32.toUInt16.toUInt32.toInt32 = (f2 (own_ub (f1 ((p0).toUInt32.toUInt16.toUInt32.toInt32))))
    · refine Go.st (T' := T11) (g' := (mkF m 63 #[.val (.int p0), .val (.int p1), .val (.ref a1), .val (.ref a2), .val (.int (p0).toUInt32.toUInt16.toUInt32.toInt32), .val (.int (f1 ((p0).toUInt32.toUInt16.toUInt32.toInt32))), .unset, .unset, .unset, .unset] [])) (fun _ hr => XS.icmpYes X11.here hx rfl (pc0 := 49) (pc' := 63) rfl (hb hby at_49) rfl (XT.ii_eq_t c49_14) (by decide) (by decide) hr) ?_
      refine Go.st (T' := T11) (g' := (mkF m 64 #[.val (.int p0), .val (.int p1), .val (.ref a1), .val (.ref a2), .val (.int (p0).toUInt32.toUInt16.toUInt32.toInt32), .val (.int (f1 ((p0).toUInt32.toUInt16.toUInt32.toInt32))), .unset, .unset, .unset, .unset] [(.int (1 : Int32))])) (fun _ hr => XT.iconstV X11.here hx rfl (1 : Int32) (hb hby at_63) (by decide) hr) ?_
      refine Go.st (T' := T11) (g' := (mkF m 68 #[.val (.int p0), .val (.int p1), .val (.ref a1), .val (.ref a2), .val (.int (p0).toUInt32.toUInt16.toUInt32.toInt32), .val (.int (f1 ((p0).toUInt32.toUInt16.toUInt32.toInt32))), .unset, .unset, .unset, .unset] [(.int (1 : Int32))])) (fun _ hr => XS.goto X11.here hx rfl (pc0 := 64) (pc' := 68) rfl (hb hby at_64) (by decide) (by decide) hr) ?_
      exact Go.cast (by first | rfl | simp only [if_pos c49_14]) (J68_12 T11 X11 e11)
    · refine Go.st (T' := T11) (g' := (mkF m 52 #[.val (.int p0), .val (.int p1), .val (.ref a1), .val (.ref a2), .val (.int (p0).toUInt32.toUInt16.toUInt32.toInt32), .val (.int (f1 ((p0).toUInt32.toUInt16.toUInt32.toInt32))), .unset, .unset, .unset, .unset] [])) (fun _ hr => XS.icmpNo X11.here hx rfl (hb hby at_49) rfl (XT.ii_eq_f c49_14) hr) ?_
      refine Go.st (T' := T11) (g' := (mkF m 54 #[.val (.int p0), .val (.int p1), .val (.ref a1), .val (.ref a2), .val (.int (p0).toUInt32.toUInt16.toUInt32.toInt32), .val (.int (f1 ((p0).toUInt32.toUInt16.toUInt32.toInt32))), .unset, .unset, .unset, .unset] [(.int (p0).toUInt32.toUInt16.toUInt32.toInt32)])) (fun _ hr => XS.iload X11.here hx rfl (hb hby at_52) rfl hr) ?_
      refine Go.st (T' := T11) (g' := (mkF m 55 #[.val (.int p0), .val (.int p1), .val (.ref a1), .val (.ref a2), .val (.int (p0).toUInt32.toUInt16.toUInt32.toInt32), .val (.int (f1 ((p0).toUInt32.toUInt16.toUInt32.toInt32))), .unset, .unset, .unset, .unset] [(.ref a2), (.int (p0).toUInt32.toUInt16.toUInt32.toInt32)])) (fun _ hr => XS.aloadN X11.here hx rfl (hb hby at_54) rfl rfl hr) ?_
      refine Go.st (T' := T11) (g' := (mkF m 57 #[.val (.int p0), .val (.int p1), .val (.ref a1), .val (.ref a2), .val (.int (p0).toUInt32.toUInt16.toUInt32.toInt32), .val (.int (f1 ((p0).toUInt32.toUInt16.toUInt32.toInt32))), .unset, .unset, .unset, .unset] [(.int (f1 ((p0).toUInt32.toUInt16.toUInt32.toInt32))), (.ref a2), (.int (p0).toUInt32.toUInt16.toUInt32.toInt32)])) (fun _ hr => XS.iload X11.here hx rfl (hb hby at_55) rfl hr) ?_
      refine Go.callV X11 hx hZ hown (W := 1) (y := (⟨"java/lang/String", "charAt", "(I)C"⟩ : MethodName)) (hw _ (List.mem_of_getElem? (i := 13) rfl)) (hw _ (List.mem_of_getElem? (i := 14) rfl)) (hw _ (List.mem_of_getElem? (i := 16) rfl)) (hw _ (List.mem_of_getElem? (i := 15) rfl)) (hw _ (List.mem_of_getElem? (i := 1) rfl)) (hw _ (List.mem_of_getElem? (i := 17) rfl)) (by decide) rfl e11 A2 (rm2 l Z a0 hw a2 (f1 ((p0).toUInt32.toUInt16.toUInt32.toInt32)) b2 k2 own_ls (own_lb (f1 ((p0).toUInt32.toUInt16.toUInt32.toInt32))) w fm h2 rfm S1_q_2 (own_r0 c20_10) (own_lt16 (own_r1 c20_10)) V2 (own_hl (own_r0 c20_10) (own_lt16 (own_r1 c20_10))) A2 G2v hcs S0_q_2 G2c) (by decide) (by decide) (by decide) (by decide) (g := (mkF m 57 #[.val (.int p0), .val (.int p1), .val (.ref a1), .val (.ref a2), .val (.int (p0).toUInt32.toUInt16.toUInt32.toInt32), .val (.int (f1 ((p0).toUInt32.toUInt16.toUInt32.toInt32))), .unset, .unset, .unset, .unset] [(.int (f1 ((p0).toUInt32.toUInt16.toUInt32.toInt32))), (.ref a2), (.int (p0).toUInt32.toUInt16.toUInt32.toInt32)])) rfl (by rw [hml]; rfl) (argsL := [(.int (f1 ((p0).toUInt32.toUInt16.toUInt32.toInt32)))]) (rest := [(.int (p0).toUInt32.toUInt16.toUInt32.toInt32)]) (lenOf pd_5 rfl) rfl (by show 2 * 0 + _ ≤ _; exact Nat.le_of_eq rfl) (hb hby at_57) (fun v15 T15 L15 X15 q15 => ?_)
      obtain ⟨rfl, rfl, e15⟩ := q15
      rw [List.append_nil] at X15
      show Go p.tables e below (FinW Z (fun v h L => v = some (.int 1) ∧ L = []) room_1.cells room_1.slots) T15 (mkF m 60 #[.val (.int p0), .val (.int p1), .val (.ref a1), .val (.ref a2), .val (.int (p0).toUInt32.toUInt16.toUInt32.toInt32), .val (.int (f1 ((p0).toUInt32.toUInt16.toUInt32.toInt32))), .unset, .unset, .unset, .unset] [(.int (f2 (own_lb (f1 ((p0).toUInt32.toUInt16.toUInt32.toInt32))))), (.int (p0).toUInt32.toUInt16.toUInt32.toInt32)])
      refine Go.st (T' := T15) (g' := (mkF m 63 #[.val (.int p0), .val (.int p1), .val (.ref a1), .val (.ref a2), .val (.int (p0).toUInt32.toUInt16.toUInt32.toInt32), .val (.int (f1 ((p0).toUInt32.toUInt16.toUInt32.toInt32))), .unset, .unset, .unset, .unset] [])) (fun _ hr => XS.icmpNo X15.here hx rfl (hb hby at_60) rfl (XT.ii_ne_f (own_r2 c20_10 c49_14)) hr) ?_
      refine Go.st (T' := T15) (g' := (mkF m 64 #[.val (.int p0), .val (.int p1), .val (.ref a1), .val (.ref a2), .val (.int (p0).toUInt32.toUInt16.toUInt32.toInt32), .val (.int (f1 ((p0).toUInt32.toUInt16.toUInt32.toInt32))), .unset, .unset, .unset, .unset] [(.int (1 : Int32))])) (fun _ hr => XT.iconstV X15.here hx rfl (1 : Int32) (hb hby at_63) (by decide) hr) ?_
      refine Go.st (T' := T15) (g' := (mkF m 68 #[.val (.int p0), .val (.int p1), .val (.ref a1), .val (.ref a2), .val (.int (p0).toUInt32.toUInt16.toUInt32.toInt32), .val (.int (f1 ((p0).toUInt32.toUInt16.toUInt32.toInt32))), .unset, .unset, .unset, .unset] [(.int (1 : Int32))])) (fun _ hr => XS.goto X15.here hx rfl (pc0 := 64) (pc' := 68) rfl (hb hby at_64) (by decide) (by decide) hr) ?_
      exact Go.cast (by first | rfl | simp only [if_neg c49_14]) (J68_12 T15 X15 e15)
set_option maxRecDepth 65536 in
set_option maxHeartbeats 40000000 in
theorem comes_1 {Post : Tables → Env → Array Value → State → Outcome → State → Prop} (hpost : ∀ tb e args s v u, (limb_1_1.after args s (.returned v) u = true ∧ limb_1_2.after args s (.returned v) u = true ∧ True) → ReturnedEndW s (.returned v) u (Jvm.fieldLocs frame_1_writes args s ++ Jvm.arrayLocs frame_1_arrays args s ++ Jvm.staticLocs frame_1_statics s) 8 2112 → Post tb e args s (.returned v) u) :
    ArmFor flags0 classFile x code maxLocals ret World_1 tables_1 room_1 Calls_1 rest_1 Pre_1 Post := by
  intro l hfl _ _ p e ha hc hk s m args below hf hA hF happ hP
  obtain ⟨hcalls, hrest, hpre⟩ := hP
  obtain ⟨-, -, -, hnamed, -, -, -, hat⟩ := (Spec.applies_iff hf).mp happ
  obtain ⟨hg, hn⟩ := and_e (Cond.before_iff.mp (show (Jvm.Cond.and given_1 narrow_1).before args s = true from hpre))
  obtain ⟨g0, r0⟩ := and_e hg
  obtain ⟨u0, r1⟩ := and_e r0
  have u1 := r1
  obtain ⟨w0, w1, rfl⟩ : ∃ w0 w1 : Value, args = #[w0, w1] := by
    have hs : args.size = 2 := by simpa [Cond.value, given_1] using g0
    obtain ⟨L⟩ := args
    match L, hs with
    | [w0, w1], _ => exact ⟨w0, w1, rfl⟩
  have hw := fun d (hd : d ∈ tables_1) => atoms_spec (ws := Jvm.Cond.code x code maxLocals ret :: tables_1) hat d (List.mem_cons_of_mem _ hd)
  have hfit : Fit s := fun {y c} hc i hi => by
    obtain ⟨ha, rfl⟩ := Array.getElem?_eq_some_iff.mp hc
    have q := List.all_eq_true.mp ((Array.all_eq_true_iff_forall_mem.mp hF) _ (Array.getElem_mem ha)) i (List.mem_range.mpr hi)
    simpa [Array.getElem?_eq_getElem hi] using q
  obtain ⟨hsets, hown0⟩ := atoms_of _ (rest_1_c_eq ▸ (show rest_1_c.before _ s = true from hrest))
  have hr0 := Cond.before_iff.mp hown0
  obtain ⟨i0, ei0⟩ := is_v u0
  obtain rfl : w0 = (.int i0) := Option.some.inj ei0
  obtain ⟨i1, ei1⟩ := is_v u1
  obtain rfl : w1 = (.int i1) := Option.some.inj ei1
  have n5 := not_v (Cond.before_iff.mp (hsets _ (List.mem_of_getElem? (i := 2) rfl)))
  obtain ⟨w, e10⟩ := is_v (Cond.before_iff.mp (hsets _ (List.mem_of_getElem? (i := 1) rfl)))
  have S12 : Sta s s.heap "java/lang/String" "COMPACT_STRINGS" "Z" (.int w) := Sta.start e10 (Or.inl (hsets _ (List.mem_of_getElem? (i := 0) rfl)))
  have c17 : ¬ (w = (0 : Int32)) := gotF (Cond.eq_ints e10 (Term.int_eval (0))) n5
  obtain ⟨fm, e14, rfm⟩ := isR_v (Cond.before_iff.mp (hsets _ (List.mem_of_getElem? (i := 8) rfl)))
  have S16 : Sta s s.heap "jdk/internal/util/Preconditions" "SIOOBE_FORMATTER" "Ljava/util/function/BiFunction;" fm := Sta.start e14 (Or.inl (hsets _ (List.mem_of_getElem? (i := 7) rfl)))
  obtain ⟨n, o, h1, h2, h3, _, L, rfl, ⟨rfl, rfl⟩, hq⟩ := rm0 l s _ hw tables_1 i0 i1 w fm rfm c17 S12 S16 (hsets _ (List.mem_of_getElem? (i := 2) rfl)) (hcalls.1 ("com/example/omqr/omqr/rdf/TerminalsHexDigitValuePinLaw", 7) (by decide)) (hcalls.1 ("com/example/omqr/omqr/rdf/TerminalsHexDigitValuePinLaw", 9) (by decide)) p e ha hc hk s m _ below hf ((Spec.applies_iff_loose hf).mp happ).1 ⟨rfl, rfl⟩ trivial
  refine ⟨n, _, h1, h2, h3, hpost _ _ _ _ _ _ ⟨Cond.after_iff.mpr rfl, Cond.after_iff.mpr (eq_i res_at (Term.int_eval (1)) rfl), trivial⟩ hq⟩
theorem main_1_1 : Claimed_1_1 := comes_1 fun _ _ _ _ _ _ h hF => ⟨h.1, hF⟩
theorem main_1_2 : Claimed_1_2 := comes_1 fun _ _ _ _ _ _ h hF => ⟨h.2.1, hF⟩
end Jvm.Pilot.@@N@@
namespace Jvm.Pilot.@@N@@
open Jvm Jvm.ClassFile Sem Op Lib Jvm.Free Jvm.Stand Jvm.Pilot.@@N@@.Jvm.D
/-! MADE BY PROGRAM (witnessworld.py) out of the Statement's table words and the real class files: 17 classes; the members and pool entries that the words name. The judged class is class 1, her method 1. -/
namespace start1
open Jvm.ClassFile
def u (s : String) : CpInfo := .utf8 (stringToUtf16 s)
/-- a pool by its gaps: so many unusable entries, then the entry; so many at the end -/
def gap : Nat → List CpInfo → List CpInfo
  | 0, r => r
  | n + 1, r => .unusable :: gap n r
def poolList (es : List (Nat × CpInfo)) (last : Nat) : List CpInfo := es.foldr (fun e r => gap e.1 (e.2 :: r)) (gap last [])
def pool (es : List (Nat × CpInfo)) (last : Nat) : Array CpInfo := ⟨poolList es last⟩
def fileOf (pool : Array CpInfo) (this : Nat) (attrs : Array Attribute := #[]) (ms : Array MethodInfo := #[]) (fl : Nat := 33) (sup : Nat := 0) (ifs : Array Nat := #[]) (fds : Array FieldInfo := #[]) : ClassFile where
  minorVersion := 0
  majorVersion := 65
  constantPool := pool
  accessFlags := fl
  thisClass := this
  superClass := sup
  interfaces := ifs
  fields := fds
  methods := ms
  attributes := attrs
def plain (name : String) (sup : Option ClassId) : Class where
  name := name
  kind := .ordinary
  loader := none
  accessFlags := 33
  super := sup
  interfaces := #[]
  cf := none
  fields := #[]
  methods := #[]
  instanceTypes := #[]
  staticTypes := #[]
  resolved := #[]
  callSites := []
  init := .initialized
  statics := none
  mirror := none

def pool0 : Array CpInfo := pool [(5, u "<init>"), (0, u "()V"), (1, .class_ 10), (1, u "java/lang/Object")] 113

def k0m0 : Method := { name := "<init>", desc := "()V", sig := { parameters := [], returnType := none }, accessFlags := 1, code := none }
/-- java/lang/Object -/
def k0 : Class := { plain "java/lang/Object" none with
  accessFlags := 33
  interfaces := #[]
  cf := some (fileOf pool0 8 #[] #[{ accessFlags := 1, nameIndex := 5, descriptorIndex := 6, attributes := #[] }] 33 0 #[] #[])
  fields := #[]
  methods := #[k0m0]
  instanceTypes := #[]
  staticTypes := #[]
  resolved := Array.replicate 124 none
  statics := none }

def pool1 : Array CpInfo := pool [(2, .class_ 4), (1, u "java/lang/Object"), (0, u "<init>"), (0, u "()V"), (0, .string 8), (0, u "0123456789ABCDEF"), (0, .string 10), (0, u "0123456789abcdef"), (0, .methodref 12 13), (0, .class_ 14), (0, .nameAndType 15 16), (0, u "com/example/omqr/omqr/rdf/Terminals"), (0, u "hexDigitValue"), (0, u "(C)I"), (0, .methodref 18 19), (0, .class_ 20), (0, .nameAndType 21 22), (0, u "java/lang/String"), (0, u "charAt"), (0, u "(I)C"), (0, .class_ 24), (0, u "com/example/omqr/omqr/rdf/TerminalsHexDigitValuePinLaw"), (2, u "law"), (0, u "(II)Z")] 3

def k1m0 : Method := { name := "<init>", desc := "()V", sig := { parameters := [], returnType := none }, accessFlags := 1, code := none }
def k1c1 : Code := { maxStack := 3, maxLocals := 10, code := code, exceptionTable := #[], attributes := #[] }
def k1m1 : Method := { name := "law", desc := "(II)Z", sig := { parameters := [.int, .int], returnType := some .boolean }, accessFlags := 9, code := some k1c1 }
/-- com/example/omqr/omqr/rdf/TerminalsHexDigitValuePinLaw -/
def k1 : Class := { plain "com/example/omqr/omqr/rdf/TerminalsHexDigitValuePinLaw" (some 0) with
  accessFlags := 49
  interfaces := #[]
  cf := some (fileOf pool1 23 #[] #[{ accessFlags := 1, nameIndex := 5, descriptorIndex := 6, attributes := #[] }, { accessFlags := 9, nameIndex := 27, descriptorIndex := 28, attributes := #[] }] 49 2 #[] #[])
  fields := #[]
  methods := #[k1m0, k1m1]
  instanceTypes := #[]
  staticTypes := #[]
  resolved := Array.replicate 32 none
  statics := none }

def pool2 : Array CpInfo := pool [(1, .class_ 2), (0, u "java/io/Serializable"), (0, .class_ 4), (0, u "java/lang/Object")] 2

/-- java/io/Serializable -/
def k2 : Class := { plain "java/io/Serializable" (some 0) with
  accessFlags := 1537
  interfaces := #[]
  cf := some (fileOf pool2 1 #[] #[] 1537 3 #[] #[])
  fields := #[]
  methods := #[]
  instanceTypes := #[]
  staticTypes := #[]
  resolved := Array.replicate 7 none
  statics := none }

def pool3 : Array CpInfo := pool [(1, .class_ 2), (0, u "java/lang/Comparable"), (0, .class_ 4), (0, u "java/lang/Object")] 7

/-- java/lang/Comparable -/
def k3 : Class := { plain "java/lang/Comparable" (some 0) with
  accessFlags := 1537
  interfaces := #[]
  cf := some (fileOf pool3 1 #[] #[] 1537 3 #[] #[])
  fields := #[]
  methods := #[]
  instanceTypes := #[]
  staticTypes := #[]
  resolved := Array.replicate 12 none
  statics := none }

def pool4 : Array CpInfo := pool [(2, .class_ 4), (1, u "java/lang/CharSequence"), (42, .class_ 48), (0, u "java/lang/CharSequence$1CodePointIterator"), (10, .class_ 60), (0, u "java/lang/CharSequence$1CharIterator"), (5, .class_ 67), (0, u "java/lang/Object")] 63

/-- java/lang/CharSequence -/
def k4 : Class := { plain "java/lang/CharSequence" (some 0) with
  accessFlags := 1537
  interfaces := #[]
  cf := some (fileOf pool4 2 #[.nestMembers #[47, 59]] #[] 1537 66 #[] #[])
  fields := #[]
  methods := #[]
  instanceTypes := #[]
  staticTypes := #[]
  resolved := Array.replicate 131 none
  statics := none }

def pool5 : Array CpInfo := pool [(1, .class_ 2), (0, u "java/lang/constant/Constable"), (0, .class_ 4), (0, u "java/lang/Object")] 6

/-- java/lang/constant/Constable -/
def k5 : Class := { plain "java/lang/constant/Constable" (some 0) with
  accessFlags := 1537
  interfaces := #[]
  cf := some (fileOf pool5 1 #[] #[] 1537 3 #[] #[])
  fields := #[]
  methods := #[]
  instanceTypes := #[]
  staticTypes := #[]
  resolved := Array.replicate 11 none
  statics := none }

def pool6 : Array CpInfo := pool [(1, .class_ 2), (0, u "java/lang/constant/ConstantDesc"), (0, .class_ 4), (0, u "java/lang/Object")] 32

/-- java/lang/constant/ConstantDesc -/
def k6 : Class := { plain "java/lang/constant/ConstantDesc" (some 0) with
  accessFlags := 1537
  interfaces := #[]
  cf := some (fileOf pool6 1 #[] #[] 1537 3 #[] #[])
  fields := #[]
  methods := #[]
  instanceTypes := #[]
  staticTypes := #[]
  resolved := Array.replicate 37 none
  statics := none }

def pool7 : Array CpInfo := pool [(2, .class_ 4), (1, u "java/lang/Object"), (0, u "<init>"), (0, u "()V"), (2, .fieldref 10 11), (0, .class_ 12), (0, .nameAndType 13 14), (0, u "java/lang/String"), (0, u "value"), (0, u "[B"), (0, .fieldref 10 16), (0, .nameAndType 17 18), (0, u "coder"), (0, u "B"), (2, u "hash"), (0, u "I"), (2, u "hashIsZero"), (0, u "Z"), (11, .fieldref 10 39), (0, .nameAndType 40 26), (0, u "COMPACT_STRINGS"), (66, .class_ 109), (1, u "java/lang/StringLatin1"), (32, u "()Z"), (220, u "([BI)C"), (27, u "(II)V"), (35, u "(I)C"), (64, .methodref 10 493), (0, .nameAndType 494 142), (0, u "isLatin1"), (0, .methodref 107 496), (0, .nameAndType 497 363), (0, u "charAt"), (3, u "checkIndex"), (73, .class_ 576), (0, u "java/lang/CharSequence"), (22, u "CASE_INSENSITIVE_ORDER"), (0, u "Ljava/util/Comparator;"), (452, .fieldref 1054 1055), (0, .class_ 1056), (0, .nameAndType 1057 1058), (0, u "jdk/internal/util/Preconditions"), (0, u "SIOOBE_FORMATTER"), (0, u "Ljava/util/function/BiFunction;"), (0, .methodref 1054 1060), (0, .nameAndType 501 1061), (0, u "(IILjava/util/function/BiFunction;)I"), (39, u "serialPersistentFields"), (0, u "[Ljava/io/ObjectStreamField;"), (0, .class_ 1104), (0, u "java/lang/String$CaseInsensitiveComparator"), (1, .class_ 1107), (0, u "java/io/Serializable"), (0, .class_ 1109), (0, u "java/lang/Comparable"), (0, .class_ 1111), (0, u "java/lang/constant/Constable"), (0, .class_ 1113), (0, u "java/lang/constant/ConstantDesc"), (2, u "serialVersionUID"), (0, u "J"), (3, u "REPL"), (0, u "C"), (2, u "LATIN1"), (1, u "UTF16")] 323

def k7m0 : Method := { name := "<init>", desc := "()V", sig := { parameters := [], returnType := none }, accessFlags := 1, code := none }
def k7c1 : Code := { maxStack := 2, maxLocals := 2, code := jdk_42_method_56_code, exceptionTable := #[], attributes := #[] }
def k7m1 : Method := { name := "charAt", desc := "(I)C", sig := { parameters := [.int], returnType := some .char }, accessFlags := 1, code := some k7c1 }
def k7c2 : Code := { maxStack := 1, maxLocals := 1, code := jdk_42_method_154_code, exceptionTable := #[], attributes := #[] }
def k7m2 : Method := { name := "isLatin1", desc := "()Z", sig := { parameters := [], returnType := some .boolean }, accessFlags := 0, code := some k7c2 }
def k7c3 : Code := { maxStack := 3, maxLocals := 2, code := jdk_42_method_155_code, exceptionTable := #[], attributes := #[] }
def k7m3 : Method := { name := "checkIndex", desc := "(II)V", sig := { parameters := [.int, .int], returnType := none }, accessFlags := 8, code := some k7c3 }
/-- java/lang/String -/
def k7 : Class := { plain "java/lang/String" (some 0) with
  accessFlags := 49
  interfaces := #[2, 3, 4, 5, 6]
  cf := some (fileOf pool7 10 #[.nestMembers #[1103]] #[{ accessFlags := 1, nameIndex := 5, descriptorIndex := 6, attributes := #[] }, { accessFlags := 1, nameIndex := 497, descriptorIndex := 427, attributes := #[] }, { accessFlags := 0, nameIndex := 494, descriptorIndex := 142, attributes := #[] }, { accessFlags := 8, nameIndex := 501, descriptorIndex := 391, attributes := #[] }] 49 2 #[1106, 1108, 575, 1110, 1112] #[{ accessFlags := 18, nameIndex := 13, descriptorIndex := 14, attributes := #[] }, { accessFlags := 18, nameIndex := 17, descriptorIndex := 18, attributes := #[] }, { accessFlags := 2, nameIndex := 21, descriptorIndex := 22, attributes := #[] }, { accessFlags := 2, nameIndex := 25, descriptorIndex := 26, attributes := #[] }, { accessFlags := 26, nameIndex := 1116, descriptorIndex := 1117, attributes := #[] }, { accessFlags := 24, nameIndex := 40, descriptorIndex := 26, attributes := #[] }, { accessFlags := 26, nameIndex := 1101, descriptorIndex := 1102, attributes := #[] }, { accessFlags := 26, nameIndex := 1121, descriptorIndex := 1122, attributes := #[] }, { accessFlags := 25, nameIndex := 599, descriptorIndex := 600, attributes := #[] }, { accessFlags := 24, nameIndex := 1125, descriptorIndex := 18, attributes := #[] }, { accessFlags := 24, nameIndex := 1127, descriptorIndex := 18, attributes := #[] }])
  fields := #[{ name := "value", type := (.array .byte), accessFlags := 18, slot := 0, constantValue := 0 }, { name := "coder", type := .byte, accessFlags := 18, slot := 1, constantValue := 0 }, { name := "hash", type := .int, accessFlags := 2, slot := 2, constantValue := 0 }, { name := "hashIsZero", type := .boolean, accessFlags := 2, slot := 3, constantValue := 0 }, { name := "serialVersionUID", type := .long, accessFlags := 26, slot := 0, constantValue := 0 }, { name := "COMPACT_STRINGS", type := .boolean, accessFlags := 24, slot := 1, constantValue := 0 }, { name := "serialPersistentFields", type := (.array (.object "java/io/ObjectStreamField")), accessFlags := 26, slot := 2, constantValue := 0 }, { name := "REPL", type := .char, accessFlags := 26, slot := 3, constantValue := 0 }, { name := "CASE_INSENSITIVE_ORDER", type := (.object "java/util/Comparator"), accessFlags := 25, slot := 4, constantValue := 0 }, { name := "LATIN1", type := .byte, accessFlags := 24, slot := 5, constantValue := 0 }, { name := "UTF16", type := .byte, accessFlags := 24, slot := 6, constantValue := 0 }]
  methods := #[k7m0, k7m1, k7m2, k7m3]
  instanceTypes := #[(.array .byte), .byte, .int, .boolean]
  staticTypes := #[.long, .boolean, (.array (.object "java/io/ObjectStreamField")), .char, (.object "java/util/Comparator"), .byte, .byte]
  resolved := Array.replicate 1451 none
  statics := some 0 }

def pool8 : Array CpInfo := pool [(1, .class_ 2), (0, u "com/example/omqr/omqr/rdf/Terminals"), (1, .class_ 6), (1, u "java/lang/Object"), (0, u "<init>"), (0, u "()V"), (31, u "hexDigitValue"), (0, u "(C)I"), (57, u "FIRST"), (0, u "Lcom/example/omqr/omqr/model/Term;"), (4, u "REST"), (4, u "NIL"), (0, u "RDF"), (0, u "Ljava/lang/String;"), (3, u "XSD"), (2, u "INTEGER"), (0, u "DOUBLE"), (0, u "BOOLEAN"), (2, u "PN_LOCAL_ESCAPED")] 15

def k8m0 : Method := { name := "<init>", desc := "()V", sig := { parameters := [], returnType := none }, accessFlags := 2, code := none }
def k8c1 : Code := { maxStack := 2, maxLocals := 2, code := prog_63_method_6_code, exceptionTable := #[], attributes := #[] }
def k8m1 : Method := { name := "hexDigitValue", desc := "(C)I", sig := { parameters := [.char], returnType := some .int }, accessFlags := 8, code := some k8c1 }
/-- com/example/omqr/omqr/rdf/Terminals -/
def k8 : Class := { plain "com/example/omqr/omqr/rdf/Terminals" (some 0) with
  accessFlags := 48
  interfaces := #[]
  cf := some (fileOf pool8 1 #[] #[{ accessFlags := 2, nameIndex := 7, descriptorIndex := 8, attributes := #[] }, { accessFlags := 8, nameIndex := 40, descriptorIndex := 41, attributes := #[] }] 48 4 #[] #[{ accessFlags := 26, nameIndex := 111, descriptorIndex := 112, attributes := #[] }, { accessFlags := 26, nameIndex := 116, descriptorIndex := 112, attributes := #[] }, { accessFlags := 24, nameIndex := 99, descriptorIndex := 100, attributes := #[] }, { accessFlags := 24, nameIndex := 105, descriptorIndex := 100, attributes := #[] }, { accessFlags := 24, nameIndex := 110, descriptorIndex := 100, attributes := #[] }, { accessFlags := 24, nameIndex := 119, descriptorIndex := 112, attributes := #[] }, { accessFlags := 24, nameIndex := 120, descriptorIndex := 112, attributes := #[] }, { accessFlags := 24, nameIndex := 121, descriptorIndex := 112, attributes := #[] }, { accessFlags := 26, nameIndex := 124, descriptorIndex := 112, attributes := #[] }])
  fields := #[{ name := "RDF", type := (.object "java/lang/String"), accessFlags := 26, slot := 0, constantValue := 0 }, { name := "XSD", type := (.object "java/lang/String"), accessFlags := 26, slot := 1, constantValue := 0 }, { name := "FIRST", type := (.object "com/example/omqr/omqr/model/Term"), accessFlags := 24, slot := 2, constantValue := 0 }, { name := "REST", type := (.object "com/example/omqr/omqr/model/Term"), accessFlags := 24, slot := 3, constantValue := 0 }, { name := "NIL", type := (.object "com/example/omqr/omqr/model/Term"), accessFlags := 24, slot := 4, constantValue := 0 }, { name := "INTEGER", type := (.object "java/lang/String"), accessFlags := 24, slot := 5, constantValue := 0 }, { name := "DOUBLE", type := (.object "java/lang/String"), accessFlags := 24, slot := 6, constantValue := 0 }, { name := "BOOLEAN", type := (.object "java/lang/String"), accessFlags := 24, slot := 7, constantValue := 0 }, { name := "PN_LOCAL_ESCAPED", type := (.object "java/lang/String"), accessFlags := 26, slot := 8, constantValue := 0 }]
  methods := #[k8m0, k8m1]
  instanceTypes := #[]
  staticTypes := #[(.object "java/lang/String"), (.object "java/lang/String"), (.object "com/example/omqr/omqr/model/Term"), (.object "com/example/omqr/omqr/model/Term"), (.object "com/example/omqr/omqr/model/Term"), (.object "java/lang/String"), (.object "java/lang/String"), (.object "java/lang/String"), (.object "java/lang/String")]
  resolved := Array.replicate 140 none
  statics := none }

def pool9 : Array CpInfo := pool [(1, .class_ 2), (0, u "java/lang/String"), (1, .class_ 6), (1, u "java/lang/Object"), (0, u "<init>"), (0, u "()V"), (0, .methodref 1 10), (0, .nameAndType 11 12), (0, u "checkIndex"), (0, u "(II)V"), (1, .class_ 16), (1, u "java/lang/StringLatin1"), (36, u "([BI)C"), (67, u "$assertionsDisabled"), (0, u "Z"), (98, .class_ 223), (1, u "java/lang/StringLatin1$LinesSpliterator"), (28, u "charAt"), (137, .class_ 391), (0, u "java/lang/StringLatin1$CharsSpliterator")] 3

def k9m0 : Method := { name := "<init>", desc := "()V", sig := { parameters := [], returnType := none }, accessFlags := 0, code := none }
def k9c1 : Code := { maxStack := 2, maxLocals := 2, code := jdk_43_method_2_code, exceptionTable := #[], attributes := #[] }
def k9m1 : Method := { name := "charAt", desc := "([BI)C", sig := { parameters := [(.array .byte), .int], returnType := some .char }, accessFlags := 9, code := some k9c1 }
/-- java/lang/StringLatin1 -/
def k9 : Class := { plain "java/lang/StringLatin1" (some 0) with
  accessFlags := 48
  interfaces := #[]
  cf := some (fileOf pool9 14 #[.nestMembers #[390, 221]] #[{ accessFlags := 0, nameIndex := 7, descriptorIndex := 8, attributes := #[] }, { accessFlags := 9, nameIndex := 252, descriptorIndex := 53, attributes := #[] }] 48 4 #[] #[{ accessFlags := 4120, nameIndex := 121, descriptorIndex := 122, attributes := #[] }])
  fields := #[{ name := "$assertionsDisabled", type := .boolean, accessFlags := 4120, slot := 0, constantValue := 0 }]
  methods := #[k9m0, k9m1]
  instanceTypes := #[]
  staticTypes := #[.boolean]
  resolved := Array.replicate 395 none
  statics := none }

def pool10 : Array CpInfo := pool [(2, .class_ 4), (1, u "java/lang/Object"), (0, u "<init>"), (0, u "()V"), (17, .class_ 26), (1, u "jdk/internal/util/Preconditions"), (6, u "checkIndex"), (21, .class_ 56), (0, u "jdk/internal/util/Preconditions$4"), (57, .class_ 115), (0, u "jdk/internal/util/Preconditions$1"), (7, u "SIOOBE_FORMATTER"), (0, u "Ljava/util/function/BiFunction;"), (0, .class_ 126), (0, u "jdk/internal/util/Preconditions$2"), (3, u "AIOOBE_FORMATTER"), (0, .class_ 132), (0, u "jdk/internal/util/Preconditions$3"), (3, u "IOOBE_FORMATTER"), (41, u "(IILjava/util/function/BiFunction;)I")] 15

def k10m0 : Method := { name := "<init>", desc := "()V", sig := { parameters := [], returnType := none }, accessFlags := 1, code := none }
def k10c1 : Code := { maxStack := 3, maxLocals := 3, code := jdk_41_method_11_code, exceptionTable := #[], attributes := #[] }
def k10m1 : Method := { name := "checkIndex", desc := "(IILjava/util/function/BiFunction;)I", sig := { parameters := [.int, .int, (.object "java/util/function/BiFunction")], returnType := some .int }, accessFlags := 9, code := some k10c1 }
/-- jdk/internal/util/Preconditions -/
def k10 : Class := { plain "jdk/internal/util/Preconditions" (some 0) with
  accessFlags := 33
  interfaces := #[]
  cf := some (fileOf pool10 24 #[.nestMembers #[55, 131, 125, 114]] #[{ accessFlags := 1, nameIndex := 5, descriptorIndex := 6, attributes := #[] }, { accessFlags := 9, nameIndex := 33, descriptorIndex := 178, attributes := #[] }] 33 2 #[] #[{ accessFlags := 25, nameIndex := 123, descriptorIndex := 124, attributes := #[] }, { accessFlags := 25, nameIndex := 130, descriptorIndex := 124, attributes := #[] }, { accessFlags := 25, nameIndex := 136, descriptorIndex := 124, attributes := #[] }])
  fields := #[{ name := "SIOOBE_FORMATTER", type := (.object "java/util/function/BiFunction"), accessFlags := 25, slot := 0, constantValue := 0 }, { name := "AIOOBE_FORMATTER", type := (.object "java/util/function/BiFunction"), accessFlags := 25, slot := 1, constantValue := 0 }, { name := "IOOBE_FORMATTER", type := (.object "java/util/function/BiFunction"), accessFlags := 25, slot := 2, constantValue := 0 }]
  methods := #[k10m0, k10m1]
  instanceTypes := #[]
  staticTypes := #[(.object "java/util/function/BiFunction"), (.object "java/util/function/BiFunction"), (.object "java/util/function/BiFunction")]
  resolved := Array.replicate 194 none
  statics := some 1 }

def pool11 : Array CpInfo := pool [(9, u "<init>"), (6, .class_ 18), (1, u "java/lang/Object"), (0, u "()V"), (1, .class_ 23), (1, u "jdk/internal/util/ArraysSupport"), (0, u "LOG2_ARRAY_LONG_INDEX_SCALE"), (0, u "I"), (2, u "U"), (0, u "Ljdk/internal/misc/Unsafe;"), (8, u "BIG_ENDIAN"), (0, u "Z"), (8, u "LOG2_BYTE_BIT_SIZE"), (4, u "LOG2_ARRAY_INT_INDEX_SCALE"), (54, u "JLA"), (0, u "Ljdk/internal/access/JavaLangAccess;"), (11, u "LOG2_ARRAY_BOOLEAN_INDEX_SCALE"), (9, u "LOG2_ARRAY_BYTE_INDEX_SCALE"), (5, u "LOG2_ARRAY_CHAR_INDEX_SCALE"), (5, u "LOG2_ARRAY_SHORT_INDEX_SCALE"), (18, u "LOG2_ARRAY_FLOAT_INDEX_SCALE"), (24, u "LOG2_ARRAY_DOUBLE_INDEX_SCALE"), (89, u "T_BOOLEAN"), (2, u "T_CHAR"), (1, u "T_FLOAT"), (1, u "T_DOUBLE"), (1, u "T_BYTE"), (1, u "T_SHORT"), (1, u "T_INT"), (1, u "T_LONG"), (1, u "SOFT_MAX_ARRAY_LENGTH")] 83

def k11m0 : Method := { name := "<init>", desc := "()V", sig := { parameters := [], returnType := none }, accessFlags := 2, code := none }
/-- jdk/internal/util/ArraysSupport -/
def k11 : Class := { plain "jdk/internal/util/ArraysSupport" (some 0) with
  accessFlags := 33
  interfaces := #[]
  cf := some (fileOf pool11 21 #[] #[{ accessFlags := 2, nameIndex := 9, descriptorIndex := 19, attributes := #[] }] 33 16 #[] #[{ accessFlags := 24, nameIndex := 28, descriptorIndex := 29, attributes := #[] }, { accessFlags := 26, nameIndex := 38, descriptorIndex := 39, attributes := #[] }, { accessFlags := 25, nameIndex := 121, descriptorIndex := 25, attributes := #[] }, { accessFlags := 25, nameIndex := 131, descriptorIndex := 25, attributes := #[] }, { accessFlags := 25, nameIndex := 137, descriptorIndex := 25, attributes := #[] }, { accessFlags := 25, nameIndex := 143, descriptorIndex := 25, attributes := #[] }, { accessFlags := 25, nameIndex := 53, descriptorIndex := 25, attributes := #[] }, { accessFlags := 25, nameIndex := 24, descriptorIndex := 25, attributes := #[] }, { accessFlags := 25, nameIndex := 162, descriptorIndex := 25, attributes := #[] }, { accessFlags := 25, nameIndex := 187, descriptorIndex := 25, attributes := #[] }, { accessFlags := 26, nameIndex := 48, descriptorIndex := 25, attributes := #[] }, { accessFlags := 25, nameIndex := 277, descriptorIndex := 25, attributes := #[] }, { accessFlags := 25, nameIndex := 280, descriptorIndex := 25, attributes := #[] }, { accessFlags := 25, nameIndex := 282, descriptorIndex := 25, attributes := #[] }, { accessFlags := 25, nameIndex := 284, descriptorIndex := 25, attributes := #[] }, { accessFlags := 25, nameIndex := 286, descriptorIndex := 25, attributes := #[] }, { accessFlags := 25, nameIndex := 288, descriptorIndex := 25, attributes := #[] }, { accessFlags := 25, nameIndex := 290, descriptorIndex := 25, attributes := #[] }, { accessFlags := 25, nameIndex := 292, descriptorIndex := 25, attributes := #[] }, { accessFlags := 26, nameIndex := 108, descriptorIndex := 109, attributes := #[] }, { accessFlags := 25, nameIndex := 294, descriptorIndex := 25, attributes := #[] }])
  fields := #[{ name := "U", type := (.object "jdk/internal/misc/Unsafe"), accessFlags := 24, slot := 0, constantValue := 0 }, { name := "BIG_ENDIAN", type := .boolean, accessFlags := 26, slot := 1, constantValue := 0 }, { name := "LOG2_ARRAY_BOOLEAN_INDEX_SCALE", type := .int, accessFlags := 25, slot := 2, constantValue := 0 }, { name := "LOG2_ARRAY_BYTE_INDEX_SCALE", type := .int, accessFlags := 25, slot := 3, constantValue := 0 }, { name := "LOG2_ARRAY_CHAR_INDEX_SCALE", type := .int, accessFlags := 25, slot := 4, constantValue := 0 }, { name := "LOG2_ARRAY_SHORT_INDEX_SCALE", type := .int, accessFlags := 25, slot := 5, constantValue := 0 }, { name := "LOG2_ARRAY_INT_INDEX_SCALE", type := .int, accessFlags := 25, slot := 6, constantValue := 0 }, { name := "LOG2_ARRAY_LONG_INDEX_SCALE", type := .int, accessFlags := 25, slot := 7, constantValue := 0 }, { name := "LOG2_ARRAY_FLOAT_INDEX_SCALE", type := .int, accessFlags := 25, slot := 8, constantValue := 0 }, { name := "LOG2_ARRAY_DOUBLE_INDEX_SCALE", type := .int, accessFlags := 25, slot := 9, constantValue := 0 }, { name := "LOG2_BYTE_BIT_SIZE", type := .int, accessFlags := 26, slot := 10, constantValue := 0 }, { name := "T_BOOLEAN", type := .int, accessFlags := 25, slot := 11, constantValue := 0 }, { name := "T_CHAR", type := .int, accessFlags := 25, slot := 12, constantValue := 0 }, { name := "T_FLOAT", type := .int, accessFlags := 25, slot := 13, constantValue := 0 }, { name := "T_DOUBLE", type := .int, accessFlags := 25, slot := 14, constantValue := 0 }, { name := "T_BYTE", type := .int, accessFlags := 25, slot := 15, constantValue := 0 }, { name := "T_SHORT", type := .int, accessFlags := 25, slot := 16, constantValue := 0 }, { name := "T_INT", type := .int, accessFlags := 25, slot := 17, constantValue := 0 }, { name := "T_LONG", type := .int, accessFlags := 25, slot := 18, constantValue := 0 }, { name := "JLA", type := (.object "jdk/internal/access/JavaLangAccess"), accessFlags := 26, slot := 19, constantValue := 0 }, { name := "SOFT_MAX_ARRAY_LENGTH", type := .int, accessFlags := 25, slot := 20, constantValue := 0 }]
  methods := #[k11m0]
  instanceTypes := #[]
  staticTypes := #[(.object "jdk/internal/misc/Unsafe"), .boolean, .int, .int, .int, .int, .int, .int, .int, .int, .int, .int, .int, .int, .int, .int, .int, .int, .int, (.object "jdk/internal/access/JavaLangAccess"), .int]
  resolved := Array.replicate 378 none
  statics := none }

def pool12 : Array CpInfo := pool [(1, u "java/lang/Cloneable"), (0, .class_ 1), (0, u "java/lang/Object"), (0, .class_ 3)] 3

/-- java/lang/Cloneable -/
def k12 : Class := { plain "java/lang/Cloneable" (some 0) with
  accessFlags := 1537
  interfaces := #[]
  cf := some (fileOf pool12 2 #[] #[] 1537 4 #[] #[])
  fields := #[]
  methods := #[]
  instanceTypes := #[]
  staticTypes := #[]
  resolved := Array.replicate 8 none
  statics := none }

/-- the primitive byte -/
def k13 : Class := { plain "byte" none with kind := .primitive 'B', accessFlags := 0x411 }
/-- [B -/
def k14 : Class := { plain "[B" (some 0) with kind := .array 13 .byte, interfaces := #[12, 2], accessFlags := 1041 }

/-- the primitive int -/
def k15 : Class := { plain "int" none with kind := .primitive 'I', accessFlags := 0x411 }
/-- [I -/
def k16 : Class := { plain "[I" (some 0) with kind := .array 15 .int, interfaces := #[12, 2], accessFlags := 1041 }

def heap : Heap := #[{ cls := 7, slots := #[.long 0, .int 1, .null, .int 0, .null, .int 0, .int 0], vm := .statics 7 },
  { cls := 10, slots := #[.null, .null, .null], vm := .statics 10 }]
def classes : Array Class := #[k0, k1, k2, k3, k4, k5, k6, k7, k8, k9, k10, k11, k12, k13, k14, k15, k16]
def interned : List (Array UInt16 × Addr) := []
def slotsUsed : Nat := 10
def theMethod : MethodId := ⟨1, 1⟩
def args0 : Array Value := #[.int 65, .int 3]
def aboutOver (below : List Frame) : State where
  vm := { classes := classes, interned := interned.toArray }
  heap := heap
  slotsUsed := slotsUsed
  threads := #[{ frames := .invoking theMethod args0 :: below }]
def below0 : List Frame := [.native { method := ⟨0, 0⟩, args := #[] }]
def about1 : State := aboutOver below0
def p0 : Program := .bare "" "" ""
def e0 : Env := launch0.env 0 0 0
theorem w_frames : about1.frames = Frame.invoking theMethod args0 :: below0 := rfl
set_option maxRecDepth 65536 in
theorem w_args : argsFit about1.vm theMethod args0 = true := by decide +kernel
set_option maxRecDepth 65536 in
theorem w_heap : heapFits about1 = true := by decide +kernel
set_option maxRecDepth 65536 in
theorem w_runnable : about1.curStatus? = some .runnable := by decide +kernel
set_option maxRecDepth 65536 in
theorem w_alone : about1.alone = true := by decide +kernel
set_option maxRecDepth 65536 in
theorem w_named : about1.methodNamed? x = some theMethod := by decide +kernel
set_option maxRecDepth 65536 in
theorem w_hears : about1.hears theMethod below0 = true := by decide +kernel
set_option maxRecDepth 65536 in
theorem w_ripe : about1.ripe theMethod args0 below0 = true := by decide +kernel
theorem w_running : about1.status = .running := rfl
set_option maxRecDepth 65536 in
theorem w_room : about1.hasRoom e0.platform room_1 = true :=
  launch0.hasRoom_least _ room_1 (by decide +kernel) (by decide +kernel) (by decide +kernel) (by decide +kernel) (by decide +kernel) (by decide +kernel)
theorem allAtoms_all (ts : List Jvm.Cond) (a : Array Jvm.Value) (st : Jvm.State) : (allAtoms ts).before a st = ts.all (fun c => c.before a st) := by
  induction ts with
  | nil => rfl
  | cons c t ih =>
    show (Jvm.Cond.and c (allAtoms t)).before a st = _
    rw [Jvm.Cond.before_and, ih, List.all_cons]
def words1 : List Jvm.Cond := Jvm.Cond.code x code maxLocals ret :: tables_1
/-- a 'code' word, met by the world's own term for the bytes: nothing is compared byte by byte -/
theorem code_word {y : MethodName} {bytes : ByteArray} {mx : Nat} {rt : Option FieldType} {a : Array Value} {s : State} {m : MethodId} {meth : Method} {c : Code} (h1 : s.methodNamed? y = some m) (h2 : s.vm.method? m = some meth) (h3 : meth.code = some c) (h4 : c.code = bytes)
    (h5 : (c.maxLocals == mx && c.exceptionTable.isEmpty && decide (c.maxStack ≤ mostOperands) && decide (meth.sig.returnType = rt) && !meth.locks && decide (parseMethodDescriptor y.desc = some meth.sig)) = true) : (Jvm.Cond.code y bytes mx rt).before a s = true := by
  simp only [Bool.and_eq_true, beq_iff_eq, Bool.not_eq_true', decide_eq_true_eq] at h5
  obtain ⟨⟨⟨⟨⟨g1, g2⟩, g3⟩, g4⟩, g5⟩, g6⟩ := h5
  simp [Cond.before, Cond.holds, Cond.value, h1, h2, h3, h4, g1, g2, g3, g4, g5, g6]
def isCode : Jvm.Cond → Bool
  | .code _ _ _ _ => true
  | _ => false
theorem all_split {L : List Jvm.Cond} {P : Jvm.Cond → Bool} (h1 : L.all (fun c => isCode c || P c) = true) (h2 : ∀ c ∈ L.filter isCode, P c = true) : L.all P = true := by
  refine List.all_eq_true.mpr fun c hc => ?_
  have h := List.all_eq_true.mp h1 c hc
  rcases Bool.eq_false_or_eq_true (isCode c) with hi | hi
  · exact h2 c (List.mem_filter.mpr ⟨hc, hi⟩)
  · simpa [hi] using h
set_option maxRecDepth 65536 in
theorem w_c0 : (Jvm.Cond.code x code maxLocals ret).before args0 about1 = true := code_word (m := ⟨1, 1⟩) (meth := k1m1) (c := k1c1) (by decide +kernel) rfl rfl rfl (by decide +kernel)
set_option maxRecDepth 65536 in
theorem w_c1 : (Jvm.Cond.code ({ cls := "com/example/omqr/omqr/rdf/Terminals", name := "hexDigitValue", desc := "(C)I" } : Jvm.MethodName) prog_63_method_6_code (2 : Nat) (Option.some Jvm.ClassFile.FieldType.int)).before args0 about1 = true := code_word (m := ⟨8, 1⟩) (meth := k8m1) (c := k8c1) (by decide +kernel) rfl rfl rfl (by decide +kernel)
set_option maxRecDepth 65536 in
theorem w_c2 : (Jvm.Cond.code ({ cls := "java/lang/String", name := "charAt", desc := "(I)C" } : Jvm.MethodName) jdk_42_method_56_code (2 : Nat) (Option.some Jvm.ClassFile.FieldType.char)).before args0 about1 = true := code_word (m := ⟨7, 1⟩) (meth := k7m1) (c := k7c1) (by decide +kernel) rfl rfl rfl (by decide +kernel)
set_option maxRecDepth 65536 in
theorem w_c3 : (Jvm.Cond.code ({ cls := "java/lang/String", name := "isLatin1", desc := "()Z" } : Jvm.MethodName) jdk_42_method_154_code (1 : Nat) (Option.some Jvm.ClassFile.FieldType.boolean)).before args0 about1 = true := code_word (m := ⟨7, 2⟩) (meth := k7m2) (c := k7c2) (by decide +kernel) rfl rfl rfl (by decide +kernel)
set_option maxRecDepth 65536 in
theorem w_c4 : (Jvm.Cond.code ({ cls := "java/lang/StringLatin1", name := "charAt", desc := "([BI)C" } : Jvm.MethodName) jdk_43_method_2_code (2 : Nat) (Option.some Jvm.ClassFile.FieldType.char)).before args0 about1 = true := code_word (m := ⟨9, 1⟩) (meth := k9m1) (c := k9c1) (by decide +kernel) rfl rfl rfl (by decide +kernel)
set_option maxRecDepth 65536 in
theorem w_c5 : (Jvm.Cond.code ({ cls := "java/lang/String", name := "checkIndex", desc := "(II)V" } : Jvm.MethodName) jdk_42_method_155_code (2 : Nat) (Option.none : Option Jvm.ClassFile.FieldType)).before args0 about1 = true := code_word (m := ⟨7, 3⟩) (meth := k7m3) (c := k7c3) (by decide +kernel) rfl rfl rfl (by decide +kernel)
set_option maxRecDepth 65536 in
theorem w_c6 : (Jvm.Cond.code ({ cls := "jdk/internal/util/Preconditions", name := "checkIndex", desc := "(IILjava/util/function/BiFunction;)I" } : Jvm.MethodName) jdk_41_method_11_code (3 : Nat) (Option.some Jvm.ClassFile.FieldType.int)).before args0 about1 = true := code_word (m := ⟨10, 1⟩) (meth := k10m1) (c := k10c1) (by decide +kernel) rfl rfl rfl (by decide +kernel)
def codes1 : List Jvm.Cond := [Jvm.Cond.code x code maxLocals ret, Jvm.Cond.code ({ cls := "com/example/omqr/omqr/rdf/Terminals", name := "hexDigitValue", desc := "(C)I" } : Jvm.MethodName) prog_63_method_6_code (2 : Nat) (Option.some Jvm.ClassFile.FieldType.int), Jvm.Cond.code ({ cls := "java/lang/String", name := "charAt", desc := "(I)C" } : Jvm.MethodName) jdk_42_method_56_code (2 : Nat) (Option.some Jvm.ClassFile.FieldType.char), Jvm.Cond.code ({ cls := "java/lang/String", name := "isLatin1", desc := "()Z" } : Jvm.MethodName) jdk_42_method_154_code (1 : Nat) (Option.some Jvm.ClassFile.FieldType.boolean), Jvm.Cond.code ({ cls := "java/lang/StringLatin1", name := "charAt", desc := "([BI)C" } : Jvm.MethodName) jdk_43_method_2_code (2 : Nat) (Option.some Jvm.ClassFile.FieldType.char), Jvm.Cond.code ({ cls := "java/lang/String", name := "checkIndex", desc := "(II)V" } : Jvm.MethodName) jdk_42_method_155_code (2 : Nat) (Option.none : Option Jvm.ClassFile.FieldType), Jvm.Cond.code ({ cls := "jdk/internal/util/Preconditions", name := "checkIndex", desc := "(IILjava/util/function/BiFunction;)I" } : Jvm.MethodName) jdk_41_method_11_code (3 : Nat) (Option.some Jvm.ClassFile.FieldType.int)]
set_option maxRecDepth 65536 in
theorem codes_eq : words1.filter isCode = codes1 := rfl
theorem w_codes : ∀ c ∈ words1.filter isCode, c.before args0 about1 = true := by
  rw [codes_eq]
  intro c hc
  simp only [codes1, List.mem_cons, List.not_mem_nil, or_false] at hc
  rcases hc with rfl | rfl | rfl | rfl | rfl | rfl | rfl
  · exact w_c0
  · exact w_c1
  · exact w_c2
  · exact w_c3
  · exact w_c4
  · exact w_c5
  · exact w_c6
set_option maxRecDepth 65536 in
theorem w_t1 : (words1.take 24).all (fun c => isCode c || c.before args0 about1) = true := by decide +kernel
set_option maxRecDepth 65536 in
theorem w_t2 : (words1.drop 24).all (fun c => isCode c || c.before args0 about1) = true := by decide +kernel
theorem w_tables : (allAtoms (Jvm.Cond.code x code maxLocals ret :: tables_1)).before args0 about1 = true := by
  rw [allAtoms_all]
  show words1.all (fun c => c.before args0 about1) = true
  refine all_split ?_ w_codes
  rw [← List.take_append_drop 24 words1, List.all_append, w_t1, w_t2]
  rfl
set_option maxRecDepth 65536 in
theorem w_rest : rest_1_c.before args0 about1 = true := by decide +kernel
set_option maxRecDepth 65536 in
theorem w_case : (Jvm.Cond.and given_1 narrow_1).before args0 about1 = true := by decide +kernel
set_option maxRecDepth 65536 in
theorem w_consts : constsHeld consts_1 about1 := Jvm.Lit.constsHeldB_iff.mp (by decide +kernel)
theorem w_applies : (headSpec (Jvm.Cond.code x code maxLocals ret :: tables_1) room_1).applies x e0.platform about1 = true :=
  (Spec.applies_iff w_frames).mpr ⟨w_running, w_runnable, w_alone, w_named, w_hears, w_ripe, w_room, w_tables⟩
theorem atStart : AtStart classFile x code maxLocals ret World_1 tables_1 room_1 Calls_1 rest_1 Pre_1 launch0 p0 e0 about1 theMethod args0 below0 :=
  ⟨lists_1, trivial, launch0.admits_env _ _ _, launch0.least_env, fairChoices_fair.cas, fairChoices_fair.clock, w_frames, w_args, w_heap, w_applies, ⟨w_consts, trivial⟩, w_rest, w_case⟩
end start1
theorem witness_1 : WitnessClaimed_1 := ⟨start1.p0, start1.e0, start1.about1, start1.theMethod, start1.args0, start1.below0, start1.atStart⟩
end Jvm.Pilot.@@N@@
