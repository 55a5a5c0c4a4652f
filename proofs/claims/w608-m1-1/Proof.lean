import JvmDerived
import JvmDerived.Pilot.@@N@@Statement
import JvmDerived.Pilot.@@N@@Code
set_option linter.unusedVariables false
set_option linter.unusedSimpArgs false
@@BLOCK:NumsL.lean.txt@@
namespace Jvm.Pilot.@@N@@
open Jvm Jvm.ClassFile Sem Op Lib Jvm.Free Jvm.Stand Jvm.LawKit Jvm.RoadKit Bundle Jvm.Pilot.@@N@@.Jvm.D
/-! 0. a walk by goals: 'Go .. F T g': from the frame g at the state T the body comes to an end of which F holds -/
def Go (tb : Tables) (e : Env) (below : List Frame) (F : Outcome → State → Prop) (T : State) (g : JFrame) : Prop :=
  ∃ s₂ o, Steps tb e below (T.setTop g) s₂ ∧ s₂.status = .running ∧ Ended s₂ below o ∧ F o s₂
def Fin (s : State) (Q : Option Value → Heap → List Loc → Prop) (rc rs : Nat) : Outcome → State → Prop :=
  fun o U => ∃ v L, o = .returned v ∧ Q v U.heap L ∧ FrameEnd s o U L rc rs
/-- a contract: called with as' at the heap h it returns, and Q holds of the value, the heap and the written places -/
def MetQ (l : Launch) (Z : State) (y : MethodName) (bytes : ByteArray) (maxL : Nat) (ret : Option FieldType) (ws : List Jvm.Cond) (rm : Room) (as' : Array Value) (h : Heap) (Q : Option Value → Heap → List Loc → Prop) : Prop :=
  MetFree l y (head1 (Jvm.Cond.code y bytes maxL ret :: ws) rm) (fun a U => a = as' ∧ Z.Warmed39 U.vm ∧ U.heap = h) (fun _ _ _ _ _ => True) (fun _ U o U' => ∃ v L, o = .returned v ∧ Q v U'.heap L ∧ FrameEnd U o U' L rm.cells rm.slots)
/-- what a pure method leaves: its value, nothing written -/
def PQ (w : Value) (h : Heap) : Option Value → Heap → List Loc → Prop := fun v h' L => v = some w ∧ L = [] ∧ h' = h
theorem own_narrow_ref {t : FieldType} {v : Value} (hv : v.isRef = true) : narrow t v = v := by rcases XT.refc hv with rfl | ⟨_, rfl⟩ <;> cases t <;> rfl
theorem own_fits_obj {C : String} {v : Value} (hv : v.isRef = true) : fits (.object C) v = true := by rcases XT.refc hv with rfl | ⟨_, rfl⟩ <;> rfl
theorem own_fits_arr {t : FieldType} {v : Value} (hv : v.isRef = true) : fits (.array t) v = true := by rcases XT.refc hv with rfl | ⟨_, rfl⟩ <;> rfl
section Walk
variable {tb : Tables} {p : Program} {l : Launch} {e : Env} {R : Room} {s : State} {m : MethodId} {args : Array Value} {below : List Frame} {meth : Method} {c : Code} {T T' : State} {locs : List Loc} {cells slots : Nat} {Z : State} {a0 : Array Value} {h : Heap} {F : Outcome → State → Prop} {g g' : JFrame} {Q : Option Value → Heap → List Loc → Prop}
theorem Go.st (st : ∀ t, Steps tb e below (T'.setTop g') t → Steps tb e below (T.setTop g) t) (k : Go tb e below F T' g') : Go tb e below F T g := by
  obtain ⟨a, b, q, r⟩ := k; exact ⟨a, b, st _ q, r⟩
theorem Go.tr (st : Steps tb e below (T.setTop g) (T'.setTop g')) (k : Go tb e below F T' g') : Go tb e below F T g := by
  obtain ⟨a, b, q, r⟩ := k; exact ⟨a, b, st.trans q, r⟩
theorem Go.cast (q : g = g') (k : Go tb e below F T g') : Go tb e below F T g := q ▸ k
theorem MetQ.body {y : MethodName} {bytes : ByteArray} {maxL : Nat} {ret : Option FieldType} {ws : List Jvm.Cond} {rm : Room} {as' : Array Value} (hp : plainFor y = true)
    (k : ∀ (p : Program) (e : Env) (s : State) (m : MethodId) (below : List Frame) (meth : Method) (c : Code) (s₁ : State), p.tables.exec = Jvm.exec → c.code = bytes → c.maxLocals = maxL → s.vm.findClass y.cls = some m.cls → meth.name = y.name → meth.sig.returnType = ret → meth.locks = false →
      Z.Warmed39 s.vm → s₁.heap = h → Stand p l e rm s m as' below meth c s₁ [] 0 0 → Go p.tables e below (Fin s Q rm.cells rm.slots) s₁ (entryFrame m as' maxL)) : MetQ l Z y bytes maxL ret ws rm as' h Q := by
  refine MetFree.of_bodySF hp hisR ?_
  intro p e s m args below meth c s₁ Bd hml0 hP hK
  obtain ⟨rfl, hZ, hh⟩ := hP
  exact k p e s m below meth c s₁ Bd.exec Bd.bytes hml0 (findClass_of_methodNamed Bd.named) (name_of_methodNamed Bd.named Bd.method).1 Bd.returns (BodyLoose.notSynchronized Bd) hZ (by rw [← hh, Bd.state]; rfl) (Stand.of_body Bd)
theorem Go.retI (X : Stand p l e R s m args below meth c T locs cells slots) (hx : p.tables.exec = Jvm.exec) (hlk : meth.locks = false) (hret : meth.sig.returnType = some .int) {pc : Nat} {Ls : Array Slot} {z : Int32} {rest : List Value} (hd : decode c.code pc = .ok (.ireturn, 1)) {rc rs : Nat} (hc : cells ≤ rc) (hs : slots ≤ rs) (hq : Q (some (.int z)) T.heap locs) :
    Go p.tables e below (Fin s Q rc rs) T (mkF m pc Ls (.int z :: rest)) := by
  obtain ⟨fs, hl, hrun, hended, hW, hsame⟩ := X.leave (v := some (.int z)) (fun h => by rw [hret] at h; cases h) hlk
  refine ⟨_, _, ?_, hrun, hended, _, _, rfl, hq, ⟨_, rfl⟩, hW, hsame.mono hc hs⟩
  have hm' : T.vm.method? m = some meth := X.method'
  have hn : narrow .int (.int z) = .int z := rfl
  show Steps p.tables e below (T.setTop { method := m, pc := pc, locals := Ls, stack := _ :: rest, locked := none }) _
  jvm_step X.here [X.here.top, hx, hd, hm', hret, hn]
  first | (intro acts; rw [hl _ acts rfl rfl rfl]) | rw [hl _ _ rfl rfl rfl]
  exact Steps.refl _
theorem Go.retN (X : Stand p l e R s m args below meth c T locs cells slots) (hx : p.tables.exec = Jvm.exec) (hlk : meth.locks = false) {t : FieldType} (hret : meth.sig.returnType = some t) (ht : t = .boolean ∨ t = .byte ∨ t = .char ∨ t = .short) {pc : Nat} {Ls : Array Slot} {z : Int32} {rest : List Value} (hd : decode c.code pc = .ok (.ireturn, 1)) {rc rs : Nat} (hc : cells ≤ rc) (hs : slots ≤ rs) (hq : Q (some (.int (nar t z))) T.heap locs) :
    Go p.tables e below (Fin s Q rc rs) T (mkF m pc Ls (.int z :: rest)) := by
  obtain ⟨fs, hl, hrun, hended, hW, hsame⟩ := X.leave (v := some (.int (nar t z))) (fun h => by rw [hret] at h; cases h) hlk
  exact ⟨_, _, Jvm.RoadKit.retN X hx hret ht hd hl, hrun, hended, _, _, rfl, hq, ⟨_, rfl⟩, hW, hsame.mono hc hs⟩
theorem Go.retJ (X : Stand p l e R s m args below meth c T locs cells slots) (hx : p.tables.exec = Jvm.exec) (hlk : meth.locks = false) (hret : meth.sig.returnType = some .long) {pc : Nat} {Ls : Array Slot} {z : Int64} (hd : decode c.code pc = .ok (.lreturn, 1)) {rc rs : Nat} (hc : cells ≤ rc) (hs : slots ≤ rs) (hq : Q (some (.long z)) T.heap locs) :
    Go p.tables e below (Fin s Q rc rs) T (mkF m pc Ls [.long z]) := by
  obtain ⟨fs, hl, hrun, hended, hW, hsame⟩ := X.leave (v := some (.long z)) (fun h => by rw [hret] at h; cases h) hlk
  exact ⟨_, _, X.lreturnOut hx hret hd hl, hrun, hended, _, _, rfl, hq, ⟨_, rfl⟩, hW, hsame.mono hc hs⟩
theorem Go.retA (X : Stand p l e R s m args below meth c T locs cells slots) (hx : p.tables.exec = Jvm.exec) (hlk : meth.locks = false) {t : FieldType} (hret : meth.sig.returnType = some t) (ht : t.isReference = true) {pc : Nat} {Ls : Array Slot} {w : Value} (hw : w.isRef = true) (hd : decode c.code pc = .ok (.areturn, 1)) {rc rs : Nat} (hc : cells ≤ rc) (hs : slots ≤ rs) (hq : Q (some w) T.heap locs) :
    Go p.tables e below (Fin s Q rc rs) T (mkF m pc Ls [w]) := by
  obtain ⟨fs, hl, hrun, hended, hW, hsame⟩ := X.leave (v := some w) (fun h => by rw [hret] at h; cases h) hlk
  exact ⟨_, _, X.areturnOut hx hw hret ht hd hl, hrun, hended, _, _, rfl, hq, ⟨_, rfl⟩, hW, hsame.mono hc hs⟩
theorem Go.retV (X : Stand p l e R s m args below meth c T locs cells slots) (hx : p.tables.exec = Jvm.exec) (hlk : meth.locks = false) (hret : meth.sig.returnType = none) {pc : Nat} {Ls : Array Slot} (hd : decode c.code pc = .ok (.return_, 1)) {rc rs : Nat} (hc : cells ≤ rc) (hs : slots ≤ rs) (hq : Q none T.heap locs) :
    Go p.tables e below (Fin s Q rc rs) T (mkF m pc Ls []) := by
  obtain ⟨fs, hl, hrun, hended, hW, hsame⟩ := X.leave (v := none) (fun _ => rfl) hlk
  exact ⟨_, _, X.returnOut hx hret hd hl, hrun, hended, _, _, rfl, hq, ⟨_, rfl⟩, hW, hsame.mono hc hs⟩
/-- a static call by its contract -/
theorem Go.callS (X : Stand p l e R s m args below meth c T locs cells slots) (hx : p.tables.exec = Jvm.exec) (hZ : Z.Warmed39 s.vm) {own : String} (hown : s.vm.findClass own = some m.cls) {index : Nat} {y : MethodName} {bytes : ByteArray} {maxL : Nat} {ret : Option FieldType} {rm : Room} {W : Nat} {argsL rest : List Value} {Qc : Option Value → Heap → List Loc → Prop}
    (w1 : (Jvm.Cond.methodLink own index y).before a0 Z = true) (w2 : (Jvm.Cond.static y).before a0 Z = true) (w3 : (Jvm.Cond.initialized y.cls).before a0 Z = true) (w4 : (Jvm.Cond.code y bytes maxL ret).before a0 Z = true) (hy : y.cls ≠ "java/lang/invoke/MethodHandle" ∧ y.cls ≠ "java/lang/invoke/VarHandle")
    (eT : T.heap = h) (hM : MetQ l Z y bytes maxL ret [] rm argsL.toArray h Qc) (hf : rm.frames + 1 ≤ R.frames) (hl : W + (maxL + 11) + rm.locals ≤ R.locals) (hc : cells + rm.cells ≤ R.cells) (hs : slots + rm.slots ≤ R.slots)
    (hg : g.method = m) (hsize : g.locals.size = c.maxLocals) (hlen : ∀ sig, parseMethodDescriptor y.desc = some sig → argsL.length = sig.parameters.length) (hstack : g.stack = argsL.reverse ++ rest) (hW : 2 * g.monitorRoom + (rest.map fun v => v.category).sum ≤ W) (hdg : decode c.code g.pc = .ok (.invokestatic index, 3))
    (k : ∀ (v : Option Value) (T' : State) (L : List Loc), Stand p l e R s m args below meth c T' (locs ++ L) (cells + rm.cells) (slots + rm.slots) → Qc v T'.heap L → Go p.tables e below F T' { g with pc := g.pc + 3, stack := v.toList ++ rest }) : Go p.tables e below F T g := by
  obtain ⟨v, vm1, ⟨T', L', c', n'⟩, -, X', ⟨L, hQ, e1, e2, e3⟩, st⟩ := Jvm.LawKit.callS X hx (y := y) hown (mvT hZ w1) (mvT hZ w2) (mvT hZ w3) (mvT hZ w4) hy (backOf (W := W) hM hZ w4 w3 hf hl) hg hsize hlen hstack hW hdg (fun _ _ => ⟨rfl, eT, hc, hs⟩)
  dsimp only [Pt.U, Pt.locs, Pt.cells, Pt.slots] at X' e1 e2 e3 st hQ
  subst e1 e2 e3
  exact Go.st st (k v T' L X' hQ)
/-- a pure static call by its contract -/
theorem Go.callP (X : Stand p l e R s m args below meth c T locs cells slots) (hx : p.tables.exec = Jvm.exec) (hZ : Z.Warmed39 s.vm) {own : String} (hown : s.vm.findClass own = some m.cls) {index : Nat} {y : MethodName} {bytes : ByteArray} {maxL : Nat} {ret : Option FieldType} {fr lo W : Nat} {argsL rest : List Value} {w : Value}
    (w1 : (Jvm.Cond.methodLink own index y).before a0 Z = true) (w2 : (Jvm.Cond.static y).before a0 Z = true) (w3 : (Jvm.Cond.initialized y.cls).before a0 Z = true) (w4 : (Jvm.Cond.code y bytes maxL ret).before a0 Z = true) (hy : y.cls ≠ "java/lang/invoke/MethodHandle" ∧ y.cls ≠ "java/lang/invoke/VarHandle")
    (eT : T.heap = h) (hM : MetQ l Z y bytes maxL ret [] ({ frames := fr, cells := 0, slots := 0, locals := lo } : Room) argsL.toArray h (PQ w h)) (hf : fr + 1 ≤ R.frames) (hl : W + (maxL + 11) + lo ≤ R.locals) (hc : cells ≤ R.cells) (hs : slots ≤ R.slots)
    (hg : g.method = m) (hsize : g.locals.size = c.maxLocals) (hlen : ∀ sig, parseMethodDescriptor y.desc = some sig → argsL.length = sig.parameters.length) (hstack : g.stack = argsL.reverse ++ rest) (hW : 2 * g.monitorRoom + (rest.map fun v => v.category).sum ≤ W) (hdg : decode c.code g.pc = .ok (.invokestatic index, 3))
    (k : ∀ (T' : State), Stand p l e R s m args below meth c T' locs cells slots → T'.heap = h → Go p.tables e below F T' { g with pc := g.pc + 3, stack := w :: rest }) : Go p.tables e below F T g := by
  refine Go.callS X hx hZ hown w1 w2 w3 w4 hy eT hM hf hl hc hs hg hsize hlen hstack hW hdg fun v T' L X' q => ?_
  obtain ⟨rfl, rfl, e'⟩ := q
  rw [List.append_nil] at X'
  exact k T' X' e'
/-- an instance call by its contract; the receiver is exactly a C -/
theorem Go.callV (X : Stand p l e R s m args below meth c T locs cells slots) (hx : p.tables.exec = Jvm.exec) (hZ : Z.Warmed39 s.vm) {own : String} (hown : s.vm.findClass own = some m.cls) {index : Nat} {y : MethodName} {C : String} {bytes : ByteArray} {maxL : Nat} {ret : Option FieldType} {rm : Room} {W : Nat} {argsL rest : List Value} {Qc : Option Value → Heap → List Loc → Prop}
    (w1 : (Jvm.Cond.methodLink own index y).before a0 Z = true) (w2 : (Jvm.Cond.declares y).before a0 Z = true) (w5 : (Jvm.Cond.selects C y y).before a0 Z = true) (w6 : (Jvm.Cond.instanceMethod y).before a0 Z = true) (w3 : (Jvm.Cond.initialized y.cls).before a0 Z = true) (w4 : (Jvm.Cond.code y bytes maxL ret).before a0 Z = true) (hy : y.cls ≠ "java/lang/invoke/MethodHandle" ∧ y.cls ≠ "java/lang/invoke/VarHandle") (hcy : C = y.cls)
    (eT : T.heap = h) {b : Addr} (E : Exa Z h b C) (hM : MetQ l Z y bytes maxL ret [] rm (.ref b :: argsL).toArray h Qc) (hf : rm.frames + 1 ≤ R.frames) (hl : W + (maxL + 11) + rm.locals ≤ R.locals) (hc : cells + rm.cells ≤ R.cells) (hs : slots + rm.slots ≤ R.slots)
    (hg : g.method = m) (hsize : g.locals.size = c.maxLocals) (hlen : ∀ sig, parseMethodDescriptor y.desc = some sig → argsL.length = sig.parameters.length) (hstack : g.stack = argsL.reverse ++ .ref b :: rest) (hW : 2 * g.monitorRoom + (rest.map fun v => v.category).sum ≤ W) (hdg : decode c.code g.pc = .ok (.invokevirtual index, 3))
    (k : ∀ (v : Option Value) (T' : State) (L : List Loc), Stand p l e R s m args below meth c T' (locs ++ L) (cells + rm.cells) (slots + rm.slots) → Qc v T'.heap L → Go p.tables e below F T' { g with pc := g.pc + 3, stack := v.toList ++ rest }) : Go p.tables e below F T g := by
  subst hcy
  obtain ⟨cq, kq, qa, qb, qc⟩ := isOf hZ eT E
  obtain ⟨v, vm1, ⟨T', L', c', n'⟩, -, X', ⟨L, hQ, e1, e2, e3⟩, st⟩ := X.virtualBack hx (y := y) (z := y) hown (mvT hZ w1) (mvT hZ w2) (notFace_of_selects (args := #[]) (mvT hZ w5)) (mvT hZ w5) (mvT hZ w6) hy (backOf (W := W) hM hZ w4 w3 hf hl) qa qc hg hsize (Steps.refl _) hlen hstack hW hdg (fun _ _ => ⟨rfl, eT, hc, hs⟩)
  dsimp only [Pt.U, Pt.locs, Pt.cells, Pt.slots] at X' e1 e2 e3 st hQ
  subst e1 e2 e3
  exact Go.tr st (k v T' L X' hQ)
/-- a constructor by its contract -/
theorem Go.callC (X : Stand p l e R s m args below meth c T locs cells slots) (hx : p.tables.exec = Jvm.exec) (hZ : Z.Warmed39 s.vm) {own : String} (hown : s.vm.findClass own = some m.cls) {index : Nat} {y : MethodName} {bytes : ByteArray} {maxL : Nat} {rm : Room} {W : Nat} {argsL rest : List Value} {Qc : Option Value → Heap → List Loc → Prop} (hy1 : y.name = "<init>")
    (w1 : (Jvm.Cond.methodLink own index y).before a0 Z = true) (w2 : (Jvm.Cond.instanceMethod y).before a0 Z = true) (w3 : (Jvm.Cond.initialized y.cls).before a0 Z = true) (w4 : (Jvm.Cond.code y bytes maxL none).before a0 Z = true) (hy : y.cls ≠ "java/lang/invoke/MethodHandle" ∧ y.cls ≠ "java/lang/invoke/VarHandle")
    (eT : T.heap = h) {b : Addr} (hM : MetQ l Z y bytes maxL none [] rm (.ref b :: argsL).toArray h Qc) (hf : rm.frames + 1 ≤ R.frames) (hl : W + (maxL + 11) + rm.locals ≤ R.locals) (hc : cells + rm.cells ≤ R.cells) (hs : slots + rm.slots ≤ R.slots)
    (hg : g.method = m) (hsize : g.locals.size = c.maxLocals) (hlen : ∀ sig, parseMethodDescriptor y.desc = some sig → argsL.length = sig.parameters.length) (hstack : g.stack = argsL.reverse ++ .ref b :: rest) (hW : 2 * g.monitorRoom + (rest.map fun v => v.category).sum ≤ W) (hdg : decode c.code g.pc = .ok (.invokespecial index, 3))
    (k : ∀ (v : Option Value) (T' : State) (L : List Loc), Stand p l e R s m args below meth c T' (locs ++ L) (cells + rm.cells) (slots + rm.slots) → Qc v T'.heap L → Go p.tables e below F T' { g with pc := g.pc + 3, stack := v.toList ++ rest }) : Go p.tables e below F T g := by
  obtain ⟨v, vm1, ⟨T', L', c', n'⟩, -, X', ⟨L, hQ, e1, e2, e3⟩, st⟩ := X.specialBack hx (y := y) hy1 hown (mvT hZ w1) (mvT hZ w2) (mvT hZ w4) hy (backOf (W := W) hM hZ w4 w3 hf hl) hg hsize (Steps.refl _) hlen hstack hW hdg (fun _ _ => ⟨rfl, eT, hc, hs⟩)
  dsimp only [Pt.U, Pt.locs, Pt.cells, Pt.slots] at X' e1 e2 e3 st hQ
  subst e1 e2 e3
  exact Go.tr st (k v T' L X' hQ)
end Walk
theorem pd_0 : parseMethodDescriptor "()V" = some ⟨[], none⟩ := by decide +kernel
theorem d2_0 : decode jdk_30_method_1_code 0 = .ok (.aload_n 0, 1) := by decide +kernel
theorem d2_1 : decode jdk_30_method_1_code 1 = .ok (.invokespecial 1, 3) := by decide +kernel
theorem d2_4 : decode jdk_30_method_1_code 4 = .ok (.return_, 1) := by decide +kernel
theorem pn_0 : plainName "java/lang/Record" = true := by first | (simp [plainName, overriddenIn]; done) | decide +kernel
theorem ef_rm2 (m : MethodId) (p0 : Addr)  : entryFrame m #[(.ref p0)] 1 = mkF m 0 #[.val (.ref p0)] [] := by first | (simp [entryFrame, mkF, argsToLocals, Value.category]; done) | rfl
set_option maxRecDepth 65536 in
set_option maxHeartbeats 40000000 in
theorem rm2 (l : Launch) (Z : State) (a0 : Array Value) (hw : ∀ d ∈ tables_1, d.before a0 Z = true) (p0 : Addr)  (h0 : Heap)  :
    MetQ l Z (⟨"java/lang/Record", "<init>", "()V"⟩ : MethodName) jdk_30_method_1_code 1 none [] ({ frames := 1, cells := 0, slots := 0, locals := 12 } : Room) #[(.ref p0)] h0 (fun v h L => v = none ∧ L = [] ∧ h = h0) := by
  refine MetQ.body (plainFor_of_name pn_0) fun p e s m below meth c s₁ hx hby hml hown hnm hret hlk hZ e0 X0 => Go.cast (ef_rm2 m p0) ?_
  refine Go.st (T' := s₁) (g' := (mkF m 1 #[.val (.ref p0)] [(.ref p0)])) (fun _ hr => XS.aloadN X0.here hx rfl (hb hby d2_0) rfl rfl hr) ?_
  obtain ⟨T1, X1, e1, st1⟩ := initO X0 hx hZ hown (hw _ (List.mem_of_getElem? (i := 11) rfl)) (hw _ (List.mem_of_getElem? (i := 12) rfl)) (hw _ (List.mem_of_getElem? (i := 13) rfl)) e0 (g := (mkF m 1 #[.val (.ref p0)] [(.ref p0)])) rfl (by rw [hml]; rfl) rfl (hb hby d2_1) (by decide) (W := 0) (by show 2 * 0 + _ ≤ _; exact Nat.le_of_eq rfl) (by decide)
  refine Go.st (T' := T1) (g' := (mkF m 4 #[.val (.ref p0)] [])) st1 ?_
  exact Go.retV X1 hx hlk hret (hb hby d2_4) (by decide) (by decide) ⟨rfl, rfl, e1⟩
theorem pd_1 : parseMethodDescriptor "(JJ)V" = some ⟨[.long, .long], none⟩ := by decide +kernel
theorem d1_0 : decode prog_15_method_1_code 0 = .ok (.aload_n 0, 1) := by decide +kernel
theorem d1_1 : decode prog_15_method_1_code 1 = .ok (.invokespecial 1, 3) := by decide +kernel
theorem d1_4 : decode prog_15_method_1_code 4 = .ok (.aload_n 0, 1) := by decide +kernel
theorem d1_5 : decode prog_15_method_1_code 5 = .ok (.lload_n 1, 1) := by decide +kernel
theorem d1_6 : decode prog_15_method_1_code 6 = .ok (.putfield 7, 3) := by decide +kernel
theorem d1_9 : decode prog_15_method_1_code 9 = .ok (.aload_n 0, 1) := by decide +kernel
theorem d1_10 : decode prog_15_method_1_code 10 = .ok (.lload_n 3, 1) := by decide +kernel
theorem d1_11 : decode prog_15_method_1_code 11 = .ok (.putfield 13, 3) := by decide +kernel
theorem d1_14 : decode prog_15_method_1_code 14 = .ok (.return_, 1) := by decide +kernel
theorem pn_1 : plainName "com/example/rugged_meter/ruggedmeter/Sum" = true := by first | (simp [plainName, overriddenIn]; done) | decide +kernel
theorem ef_rm1 (m : MethodId) (a : Addr) (p0 : Int64) (p1 : Int64)  : entryFrame m #[(.ref a), (.long p0), (.long p1)] 5 = mkF m 0 #[.val (.ref a), .val (.long p0), .second, .val (.long p1), .second] [] := by first | (simp [entryFrame, mkF, argsToLocals, Value.category]; done) | rfl
set_option maxRecDepth 65536 in
set_option maxHeartbeats 40000000 in
theorem rm1 (l : Launch) (Z : State) (a0 : Array Value) (hw : ∀ d ∈ tables_1, d.before a0 Z = true) (a : Addr) (p0 : Int64) (p1 : Int64)  (h0 : Heap) (n0 : Nat) (ng : n0 ≤ a) (E0 : Exa Z h0 a "com/example/rugged_meter/ruggedmeter/Sum") (F0_high : Fld Z h0 a "com/example/rugged_meter/ruggedmeter/Sum" "high" "J" (.long (0 : Int64))) (F0_low : Fld Z h0 a "com/example/rugged_meter/ruggedmeter/Sum" "low" "J" (.long (0 : Int64))) :
    MetQ l Z (⟨"com/example/rugged_meter/ruggedmeter/Sum", "<init>", "(JJ)V"⟩ : MethodName) prog_15_method_1_code 5 none [] ({ frames := 2, cells := 0, slots := 0, locals := 24 } : Room) #[(.ref a), (.long p0), (.long p1)] h0 (fun v h L => v = none ∧ Fr n0 L ∧ Keep h0 h [a] ∧ Fld Z h a "com/example/rugged_meter/ruggedmeter/Sum" "high" "J" (.long p0) ∧ Fld Z h a "com/example/rugged_meter/ruggedmeter/Sum" "low" "J" (.long p1)) := by
  refine MetQ.body (plainFor_of_name pn_1) fun p e s m below meth c s₁ hx hby hml hown hnm hret hlk hZ e0 X0 => Go.cast (ef_rm1 m a p0 p1) ?_
  refine Go.st (T' := s₁) (g' := (mkF m 1 #[.val (.ref a), .val (.long p0), .second, .val (.long p1), .second] [(.ref a)])) (fun _ hr => XS.aloadN X0.here hx rfl (hb hby d1_0) rfl rfl hr) ?_
  refine Go.callC X0 hx hZ hown (W := 0) (y := (⟨"java/lang/Record", "<init>", "()V"⟩ : MethodName)) rfl (hw _ (List.mem_of_getElem? (i := 6) rfl)) (hw _ (List.mem_of_getElem? (i := 7) rfl)) (hw _ (List.mem_of_getElem? (i := 9) rfl)) (hw _ (List.mem_of_getElem? (i := 10) rfl)) (by decide) e0 (rm2 l Z a0 hw a h0) (by decide) (by decide) (by decide) (by decide) (g := (mkF m 1 #[.val (.ref a), .val (.long p0), .second, .val (.long p1), .second] [(.ref a)])) rfl (by rw [hml]; rfl) (argsL := []) (rest := []) (lenOf pd_0 rfl) rfl (by show 2 * 0 + _ ≤ _; exact Nat.le_of_eq rfl) (hb hby d1_1) (fun v1 T1 L1 X1 q1 => ?_)
  obtain ⟨rfl, rfl, e1⟩ := q1
  rw [List.append_nil] at X1
  show Go p.tables e below (Fin s (fun v h L => v = none ∧ Fr n0 L ∧ Keep h0 h [a] ∧ Fld Z h a "com/example/rugged_meter/ruggedmeter/Sum" "high" "J" (.long p0) ∧ Fld Z h a "com/example/rugged_meter/ruggedmeter/Sum" "low" "J" (.long p1)) ({ frames := 2, cells := 0, slots := 0, locals := 24 } : Room).cells ({ frames := 2, cells := 0, slots := 0, locals := 24 } : Room).slots) T1 (mkF m 4 #[.val (.ref a), .val (.long p0), .second, .val (.long p1), .second] [])
  refine Go.st (T' := T1) (g' := (mkF m 5 #[.val (.ref a), .val (.long p0), .second, .val (.long p1), .second] [(.ref a)])) (fun _ hr => XS.aloadN X1.here hx rfl (hb hby d1_4) rfl rfl hr) ?_
  refine Go.st (T' := T1) (g' := (mkF m 6 #[.val (.ref a), .val (.long p0), .second, .val (.long p1), .second] [(.long p0), (.ref a)])) (fun _ hr => XT.lloadN X1.here hx rfl (hb hby d1_5) rfl hr) ?_
  obtain ⟨T2, h2, X2, e2, W2, st2⟩ := putF X1 hx hZ hown (host := "") (Or.inl (hw _ (List.mem_of_getElem? (i := 14) rfl))) Via.refl e1 F0_high E0 (Or.inr ⟨(hw _ (List.mem_of_getElem? (i := 15) rfl)), rfl, hnm⟩) (hw _ (List.mem_of_getElem? (i := 1) rfl)) (ty := .long) (by decide) rfl rfl (g := (mkF m 6 #[.val (.ref a), .val (.long p0), .second, .val (.long p1), .second] [(.long p0), (.ref a)])) rfl rfl (hb hby d1_6)
  have F0_high_q_2 : Fld Z h2 a "com/example/rugged_meter/ruggedmeter/Sum" "high" "J" (.long p0) := (F0_high.same W2)
  have F0_low_q_2 : Fld Z h2 a "com/example/rugged_meter/ruggedmeter/Sum" "low" "J" (.long (0 : Int64)) := (F0_low.other W2 (Or.inr (slot_ne (Or.inr (hw _ (List.mem_of_getElem? (i := 17) rfl))) (Or.inr (hw _ (List.mem_of_getElem? (i := 15) rfl))) (by decide) (t := .long) (t' := .long) (by decide) (by decide))))
  have E0_q_2 : Exa Z h2 a "com/example/rugged_meter/ruggedmeter/Sum" := (E0.wr W2)
  have fK_q_2 : Keep h0 h2 [a] := ((Keep.refl h0 [a]).wr W2 (Or.inl (List.mem_of_getElem? (i := 0) rfl)))
  have N2 := Fr.snoc X2 (Fr.nil n0) ng
  refine Go.st (T' := T2) (g' := (mkF m 9 #[.val (.ref a), .val (.long p0), .second, .val (.long p1), .second] [])) st2 ?_
  refine Go.st (T' := T2) (g' := (mkF m 10 #[.val (.ref a), .val (.long p0), .second, .val (.long p1), .second] [(.ref a)])) (fun _ hr => XS.aloadN X2.here hx rfl (hb hby d1_9) rfl rfl hr) ?_
  refine Go.st (T' := T2) (g' := (mkF m 11 #[.val (.ref a), .val (.long p0), .second, .val (.long p1), .second] [(.long p1), (.ref a)])) (fun _ hr => XT.lloadN X2.here hx rfl (hb hby d1_10) rfl hr) ?_
  obtain ⟨T3, h3, X3, e3, W3, st3⟩ := putF X2 hx hZ hown (host := "") (Or.inl (hw _ (List.mem_of_getElem? (i := 16) rfl))) Via.refl e2 F0_low_q_2 E0_q_2 (Or.inr ⟨(hw _ (List.mem_of_getElem? (i := 17) rfl)), rfl, hnm⟩) (hw _ (List.mem_of_getElem? (i := 1) rfl)) (ty := .long) (by decide) rfl rfl (g := (mkF m 11 #[.val (.ref a), .val (.long p0), .second, .val (.long p1), .second] [(.long p1), (.ref a)])) rfl rfl (hb hby d1_11)
  have F0_high_q_3 : Fld Z h3 a "com/example/rugged_meter/ruggedmeter/Sum" "high" "J" (.long p0) := (F0_high_q_2.other W3 (Or.inr (slot_ne (Or.inr (hw _ (List.mem_of_getElem? (i := 15) rfl))) (Or.inr (hw _ (List.mem_of_getElem? (i := 17) rfl))) (by decide) (t := .long) (t' := .long) (by decide) (by decide))))
  have F0_low_q_3 : Fld Z h3 a "com/example/rugged_meter/ruggedmeter/Sum" "low" "J" (.long p1) := (F0_low_q_2.same W3)
  have E0_q_3 : Exa Z h3 a "com/example/rugged_meter/ruggedmeter/Sum" := (E0_q_2.wr W3)
  have fK_q_3 : Keep h0 h3 [a] := (fK_q_2.wr W3 (Or.inl (List.mem_of_getElem? (i := 0) rfl)))
  have N3 := Fr.snoc X3 N2 ng
  refine Go.st (T' := T3) (g' := (mkF m 14 #[.val (.ref a), .val (.long p0), .second, .val (.long p1), .second] [])) st3 ?_
  exact Go.retV X3 hx hlk hret (hb hby d1_14) (by decide) (by decide) (by rw [e3]; exact ⟨rfl, N3, fK_q_3, F0_high_q_3, F0_low_q_3⟩)
theorem pd_2 : parseMethodDescriptor "()Z" = some ⟨[], some .boolean⟩ := by decide +kernel
theorem d4_0 : decode prog_15_method_3_code 0 = .ok (.aload_n 0, 1) := by decide +kernel
theorem d4_1 : decode prog_15_method_3_code 1 = .ok (.getfield 7, 3) := by decide +kernel
theorem d4_4 : decode prog_15_method_3_code 4 = .ok (.aload_n 0, 1) := by decide +kernel
theorem d4_5 : decode prog_15_method_3_code 5 = .ok (.getfield 13, 3) := by decide +kernel
theorem d4_8 : decode prog_15_method_3_code 8 = .ok (.bipush 63, 2) := by decide +kernel
theorem d4_10 : decode prog_15_method_3_code 10 = .ok (.lshr, 1) := by decide +kernel
theorem d4_11 : decode prog_15_method_3_code 11 = .ok (.lcmp, 1) := by decide +kernel
theorem d4_12 : decode prog_15_method_3_code 12 = .ok (.ifCond .ne 7, 3) := by decide +kernel
theorem d4_15 : decode prog_15_method_3_code 15 = .ok (.iconst 1, 1) := by decide +kernel
theorem d4_16 : decode prog_15_method_3_code 16 = .ok (.goto 4, 3) := by decide +kernel
theorem d4_19 : decode prog_15_method_3_code 19 = .ok (.iconst 0, 1) := by decide +kernel
theorem d4_20 : decode prog_15_method_3_code 20 = .ok (.ireturn, 1) := by decide +kernel
def f4 (w0 : Int64) (w1 : Int64) : Int32 := (if w0 = (w1 >>> (((63 : Int32)).toInt64 &&& 63)) then (1 : Int32) else (0 : Int32))
theorem ef_rm4 (m : MethodId) (a : Addr)  : entryFrame m #[(.ref a)] 1 = mkF m 0 #[.val (.ref a)] [] := by first | (simp [entryFrame, mkF, argsToLocals, Value.category]; done) | rfl
set_option maxRecDepth 65536 in
set_option maxHeartbeats 40000000 in
theorem rm4 (l : Launch) (Z : State) (a0 : Array Value) (hw : ∀ d ∈ tables_1, d.before a0 Z = true) (a : Addr) (w0 : Int64) (w1 : Int64)  (h0 : Heap) (F0_high : Fld Z h0 a "com/example/rugged_meter/ruggedmeter/Sum" "high" "J" (.long w0)) (F0_low : Fld Z h0 a "com/example/rugged_meter/ruggedmeter/Sum" "low" "J" (.long w1)) :
    MetQ l Z (⟨"com/example/rugged_meter/ruggedmeter/Sum", "fitsInLong", "()Z"⟩ : MethodName) prog_15_method_3_code 1 (some .boolean) [] ({ frames := 0, cells := 0, slots := 0, locals := 0 } : Room) #[(.ref a)] h0 (PQ (.int (f4 w0 w1)) h0) := by
  refine MetQ.body (plainFor_of_name pn_1) fun p e s m below meth c s₁ hx hby hml hown hnm hret hlk hZ e0 X0 => Go.cast (ef_rm4 m a) ?_
  refine Go.st (T' := s₁) (g' := (mkF m 1 #[.val (.ref a)] [(.ref a)])) (fun _ hr => XS.aloadN X0.here hx rfl (hb hby d4_0) rfl rfl hr) ?_
  obtain ⟨T1, X1, e1, st1⟩ := getF X0 hx hZ hown (host := "") (Or.inl (hw _ (List.mem_of_getElem? (i := 14) rfl))) Via.refl e0 F0_high (g := (mkF m 1 #[.val (.ref a)] [(.ref a)])) rfl rfl (hb hby d4_1)
  refine Go.st (T' := T1) (g' := (mkF m 4 #[.val (.ref a)] [(.long w0)])) st1 ?_
  refine Go.st (T' := T1) (g' := (mkF m 5 #[.val (.ref a)] [(.ref a), (.long w0)])) (fun _ hr => XS.aloadN X1.here hx rfl (hb hby d4_4) rfl rfl hr) ?_
  obtain ⟨T2, X2, e2, st2⟩ := getF X1 hx hZ hown (host := "") (Or.inl (hw _ (List.mem_of_getElem? (i := 16) rfl))) Via.refl e1 F0_low (g := (mkF m 5 #[.val (.ref a)] [(.ref a), (.long w0)])) rfl rfl (hb hby d4_5)
  refine Go.st (T' := T2) (g' := (mkF m 8 #[.val (.ref a)] [(.long w1), (.long w0)])) st2 ?_
  refine Go.st (T' := T2) (g' := (mkF m 10 #[.val (.ref a)] [(.int (63 : Int32)), (.long w1), (.long w0)])) (fun _ hr => XT.bipushV X2.here hx rfl (63 : Int32) (hb hby d4_8) (by decide) hr) ?_
  refine Go.st (T' := T2) (g' := (mkF m 11 #[.val (.ref a)] [(.long (w1 >>> (((63 : Int32)).toInt64 &&& 63))), (.long w0)])) (fun _ hr => XT.lshr X2.here hx rfl (hb hby d4_10) rfl hr) ?_
  refine Go.st (T' := T2) (g' := (mkF m 12 #[.val (.ref a)] [(.int (XT.cmpL w0 (w1 >>> (((63 : Int32)).toInt64 &&& 63))))])) (fun _ hr => XT.lcmp X2.here hx rfl (hb hby d4_11) rfl hr) ?_
  by_cases c12_3 : w0 = (w1 >>> (((63 : Int32)).toInt64 &&& 63))
  · refine Go.st (T' := T2) (g' := (mkF m 15 #[.val (.ref a)] [])) (fun _ hr => XS.ifNo X2.here hx rfl (hb hby d4_12) rfl (XT.ll_ne_f c12_3) hr) ?_
    refine Go.st (T' := T2) (g' := (mkF m 16 #[.val (.ref a)] [(.int (1 : Int32))])) (fun _ hr => XT.iconstV X2.here hx rfl (1 : Int32) (hb hby d4_15) (by decide) hr) ?_
    refine Go.st (T' := T2) (g' := (mkF m 20 #[.val (.ref a)] [(.int (1 : Int32))])) (fun _ hr => XS.goto X2.here hx rfl (pc0 := 16) (pc' := 20) rfl (hb hby d4_16) (by decide) (by decide) hr) ?_
    exact Go.retN X2 hx hlk hret (by simp) (hb hby d4_20) (by decide) (by decide) ⟨congrArg (fun z => some (Value.int z)) ((by decide : nar .boolean (1 : Int32) = (1 : Int32)).trans (by simp only [f4, if_pos c12_3])), rfl, e2⟩
  · refine Go.st (T' := T2) (g' := (mkF m 19 #[.val (.ref a)] [])) (fun _ hr => XS.ifYes X2.here hx rfl (pc0 := 12) (pc' := 19) rfl (hb hby d4_12) rfl (XT.ll_ne_t c12_3) (by decide) (by decide) hr) ?_
    refine Go.st (T' := T2) (g' := (mkF m 20 #[.val (.ref a)] [(.int (0 : Int32))])) (fun _ hr => XT.iconstV X2.here hx rfl (0 : Int32) (hb hby d4_19) (by decide) hr) ?_
    exact Go.retN X2 hx hlk hret (by simp) (hb hby d4_20) (by decide) (by decide) ⟨congrArg (fun z => some (Value.int z)) ((by decide : nar .boolean (0 : Int32) = (0 : Int32)).trans (by simp only [f4, if_neg c12_3])), rfl, e2⟩
theorem own_shr63 (x : Int64) : x >>> ((63 : Int32).toInt64 &&& 63) = if x < (0 : Int64) then (-1 : Int64) else (0 : Int64) := by
  have hs : ((63 : Int32).toInt64 &&& 63) = (63 : Int64) := by decide
  rw [hs]
  have e : (x >>> (63 : Int64)).toInt = x.toInt / 2 ^ 63 := Jvm.Kit.i64_shr x 63 (by decide)
  have h1 := x.le_toInt
  have h2 := x.toInt_lt
  apply Int64.toInt_inj.mp
  rw [e]
  have z : (0 : Int64).toInt = 0 := by decide
  have m : (-1 : Int64).toInt = -1 := by decide
  by_cases c : x < (0 : Int64)
  · rw [if_pos c, m]; rw [Int64.lt_iff_toInt_lt, z] at c; omega
  · rw [if_neg c, z]; rw [Int64.lt_iff_toInt_lt, z] at c; omega
theorem own_law (h low : Int64) : f4 h low = (if low < (0 : Int64) then (if h = (-1 : Int64) then (1 : Int32) else (0 : Int32)) else (if h = (0 : Int64) then (1 : Int32) else (0 : Int32))) := by
  unfold f4
  rw [own_shr63]
  by_cases c : low < (0 : Int64)
  · rw [if_pos c, if_pos c]
  · rw [if_neg c, if_neg c]
theorem pd_3 : parseMethodDescriptor "(JJI)Z" = some ⟨[.long, .long, .int], some .boolean⟩ := by decide +kernel
theorem pn_2 : plainName "com/example/rugged_meter/ruggedmeter/SumFitsInLongPinLaw" = true := by first | (simp [plainName, overriddenIn]; done) | decide +kernel
theorem ef_rm0 (m : MethodId) (p0 : Int64) (p1 : Int64) (p2 : Int32)  : entryFrame m #[(.long p0), (.long p1), (.int p2)] maxLocals = mkF m 0 #[.val (.long p0), .second, .val (.long p1), .second, .val (.int p2), .unset, .unset, .unset, .unset, .unset] [] := by first | (simp [entryFrame, mkF, argsToLocals, Value.category, maxLocals]; done) | rfl
set_option maxRecDepth 65536 in
set_option maxHeartbeats 40000000 in
theorem rm0 (l : Launch) (Z : State) (a0 : Array Value) (hw : ∀ d ∈ tables_1, d.before a0 Z = true) (ws : List Jvm.Cond) (p0 : Int64) (p1 : Int64) (p2 : Int32)  (h0 : Heap)  :
    MetQ l Z x code maxLocals ret ws room_1 #[(.long p0), (.long p1), (.int p2)] h0 (fun v h L => v = some (.int 1) ∧ Fr h0.size L) := by
  refine MetQ.body (plainFor_of_name pn_2) fun p e s m below meth c s₁ hx hby hml hown hnm hret hlk hZ e0 X0 => Go.cast (ef_rm0 m p0 p1 p2) ?_
  have hml : c.maxLocals = 10 := hml
  have hown : s.vm.findClass "com/example/rugged_meter/ruggedmeter/SumFitsInLongPinLaw" = some m.cls := hown
  have hret : meth.sig.returnType = some .boolean := hret
  refine Go.st (T' := s₁) (g' := (mkF m 2 #[.val (.long p0), .second, .val (.long p1), .second, .val (.int p2), .unset, .unset, .unset, .unset, .unset] [(.int p2)])) (fun _ hr => XS.iload X0.here hx rfl (hb hby at_0) rfl hr) ?_
  refine Go.st (T' := s₁) (g' := (mkF m 3 #[.val (.long p0), .second, .val (.long p1), .second, .val (.int p2), .unset, .unset, .unset, .unset, .unset] [(.int (3 : Int32)), (.int p2)])) (fun _ hr => XT.iconstV X0.here hx rfl (3 : Int32) (hb hby at_2) (by decide) hr) ?_
  refine Go.st (T' := s₁) (g' := (mkF m 4 #[.val (.long p0), .second, .val (.long p1), .second, .val (.int p2), .unset, .unset, .unset, .unset, .unset] [(.int (p2 &&& (3 : Int32)))])) (fun _ hr => XS.iand X0.here hx rfl (hb hby at_3) rfl hr) ?_
  refine Go.st (T' := s₁) (g' := (mkF m 6 #[.val (.long p0), .second, .val (.long p1), .second, .val (.int p2), .val (.int (p2 &&& (3 : Int32))), .unset, .unset, .unset, .unset] [])) (fun _ hr => XS.istore X0.here hx rfl (hb hby at_4) rfl (l' := #[.val (.long p0), .second, .val (.long p1), .second, .val (.int p2), .val (.int (p2 &&& (3 : Int32))), .unset, .unset, .unset, .unset]) rfl hr) ?_
  refine Go.st (T' := s₁) (g' := (mkF m 8 #[.val (.long p0), .second, .val (.long p1), .second, .val (.int p2), .val (.int (p2 &&& (3 : Int32))), .unset, .unset, .unset, .unset] [(.int (p2 &&& (3 : Int32)))])) (fun _ hr => XS.iload X0.here hx rfl (hb hby at_6) rfl hr) ?_
  refine Go.st (T' := s₁) (g' := (mkF m 9 #[.val (.long p0), .second, .val (.long p1), .second, .val (.int p2), .val (.int (p2 &&& (3 : Int32))), .unset, .unset, .unset, .unset] [(.int (1 : Int32)), (.int (p2 &&& (3 : Int32)))])) (fun _ hr => XT.iconstV X0.here hx rfl (1 : Int32) (hb hby at_8) (by decide) hr) ?_
  have J49_1 : ∀ (T2 : State) (b49 : Int64) (hb49 : b49 = (if (p2 &&& (3 : Int32)) = (1 : Int32) then (0 : Int64) else (if (p2 &&& (3 : Int32)) = (2 : Int32) then (-1 : Int64) else (if (p2 &&& (3 : Int32)) = (3 : Int32) then (p0 &&& (1 : Int64)) else p0)))), Stand p l e room_1 s m #[(.long p0), (.long p1), (.int p2)] below meth c T2 [] 0 0 → T2.heap = h0 → Go p.tables e below (Fin s (fun v h L => v = some (.int 1) ∧ Fr h0.size L) room_1.cells room_1.slots) T2 (mkF m 49 #[.val (.long p0), .second, .val (.long p1), .second, .val (.int p2), .val (.int (p2 &&& (3 : Int32))), .val (.long b49), .second, .unset, .unset] []) := by
    intro T2 b49 hb49 X2 e2
    obtain ⟨T3, h3, X3, e3, E3, A3, D3, -, st3⟩ := newO X2 hx hZ hown (hw _ (List.mem_of_getElem? (i := 0) rfl)) (hw _ (List.mem_of_getElem? (i := 1) rfl)) (hw _ (List.mem_of_getElem? (i := 2) rfl)) e2 (g := (mkF m 49 #[.val (.long p0), .second, .val (.long p1), .second, .val (.int p2), .val (.int (p2 &&& (3 : Int32))), .val (.long b49), .second, .unset, .unset] [])) rfl (hb hby at_49) (by decide) (by decide)
    obtain ⟨a3, g3⟩ : ∃ z, z = h0.size := ⟨_, rfl⟩
    rw [← g3] at A3 D3 st3
    have n_a3 : h0.size ≤ a3 := Nat.le_trans (Nat.le_refl h0.size) (Nat.le_of_eq g3.symm)
    have fZ_q_3 : h0.size ≤ h3.size := (Nat.le_trans (Nat.le_refl h0.size) E3.1)
    have F3_high : Fld Z h3 a3 "com/example/rugged_meter/ruggedmeter/Sum" "high" "J" (.long (0 : Int64)) := D3 (Or.inr (hw _ (List.mem_of_getElem? (i := 15) rfl))) (ty := .long) (by decide)
    have F3_low : Fld Z h3 a3 "com/example/rugged_meter/ruggedmeter/Sum" "low" "J" (.long (0 : Int64)) := D3 (Or.inr (hw _ (List.mem_of_getElem? (i := 17) rfl))) (ty := .long) (by decide)
    refine Go.st (T' := T3) (g' := (mkF m 52 #[.val (.long p0), .second, .val (.long p1), .second, .val (.int p2), .val (.int (p2 &&& (3 : Int32))), .val (.long b49), .second, .unset, .unset] [(.ref a3)])) st3 ?_
    refine Go.st (T' := T3) (g' := (mkF m 53 #[.val (.long p0), .second, .val (.long p1), .second, .val (.int p2), .val (.int (p2 &&& (3 : Int32))), .val (.long b49), .second, .unset, .unset] [(.ref a3), (.ref a3)])) (fun _ hr => XS.dup X3.here hx rfl (hb hby at_52) rfl rfl hr) ?_
    refine Go.st (T' := T3) (g' := (mkF m 55 #[.val (.long p0), .second, .val (.long p1), .second, .val (.int p2), .val (.int (p2 &&& (3 : Int32))), .val (.long b49), .second, .unset, .unset] [(.long b49), (.ref a3), (.ref a3)])) (fun _ hr => XT.lload X3.here hx rfl (hb hby at_53) rfl hr) ?_
    refine Go.st (T' := T3) (g' := (mkF m 56 #[.val (.long p0), .second, .val (.long p1), .second, .val (.int p2), .val (.int (p2 &&& (3 : Int32))), .val (.long b49), .second, .unset, .unset] [(.long p1), (.long b49), (.ref a3), (.ref a3)])) (fun _ hr => XT.lloadN X3.here hx rfl (hb hby at_55) rfl hr) ?_
    refine Go.callC X3 hx hZ hown (W := 1) (y := (⟨"com/example/rugged_meter/ruggedmeter/Sum", "<init>", "(JJ)V"⟩ : MethodName)) rfl (hw _ (List.mem_of_getElem? (i := 3) rfl)) (hw _ (List.mem_of_getElem? (i := 4) rfl)) (hw _ (List.mem_of_getElem? (i := 2) rfl)) (hw _ (List.mem_of_getElem? (i := 5) rfl)) (by decide) e3 (rm1 l Z a0 hw a3 b49 p1   h3 h0.size n_a3 A3 F3_high F3_low) (by decide) (by decide) (by decide) (by decide) (g := (mkF m 56 #[.val (.long p0), .second, .val (.long p1), .second, .val (.int p2), .val (.int (p2 &&& (3 : Int32))), .val (.long b49), .second, .unset, .unset] [(.long p1), (.long b49), (.ref a3), (.ref a3)])) rfl (by rw [hml]; rfl) (argsL := [(.long b49), (.long p1)]) (rest := [(.ref a3)]) (lenOf pd_1 rfl) rfl (by show 2 * 0 + _ ≤ _; exact Nat.le_of_eq rfl) (hb hby at_56) (fun v4 T4 L4 X4 q4 => ?_)
    obtain ⟨h4, e4⟩ : ∃ z, T4.heap = z := ⟨_, rfl⟩
    rw [e4] at q4
    obtain ⟨rfl, N4q, K4, G4_high, G4_low⟩ := q4
    have N4 := Fr.app (Fr.nil h0.size) N4q
    have fZ_q_4 : h0.size ≤ h4.size := (Nat.le_trans fZ_q_3 K4.1)
    have A3_q_4 : Exa Z h4 a3 "com/example/rugged_meter/ruggedmeter/Sum" := (A3.keep K4)
    show Go p.tables e below (Fin s (fun v h L => v = some (.int 1) ∧ Fr h0.size L) room_1.cells room_1.slots) T4 (mkF m 59 #[.val (.long p0), .second, .val (.long p1), .second, .val (.int p2), .val (.int (p2 &&& (3 : Int32))), .val (.long b49), .second, .unset, .unset] [(.ref a3)])
    refine Go.st (T' := T4) (g' := (mkF m 61 #[.val (.long p0), .second, .val (.long p1), .second, .val (.int p2), .val (.int (p2 &&& (3 : Int32))), .val (.long b49), .second, .val (.ref a3), .unset] [])) (fun _ hr => XS.astore X4.here hx rfl (hb hby at_59) rfl rfl (l' := #[.val (.long p0), .second, .val (.long p1), .second, .val (.int p2), .val (.int (p2 &&& (3 : Int32))), .val (.long b49), .second, .val (.ref a3), .unset]) rfl hr) ?_
    refine Go.st (T' := T4) (g' := (mkF m 62 #[.val (.long p0), .second, .val (.long p1), .second, .val (.int p2), .val (.int (p2 &&& (3 : Int32))), .val (.long b49), .second, .val (.ref a3), .unset] [(.long p1)])) (fun _ hr => XT.lloadN X4.here hx rfl (hb hby at_61) rfl hr) ?_
    refine Go.st (T' := T4) (g' := (mkF m 63 #[.val (.long p0), .second, .val (.long p1), .second, .val (.int p2), .val (.int (p2 &&& (3 : Int32))), .val (.long b49), .second, .val (.ref a3), .unset] [(.long (0 : Int64)), (.long p1)])) (fun _ hr => XT.lconstV X4.here hx rfl (0 : Int64) (hb hby at_62) (by decide) hr) ?_
    refine Go.st (T' := T4) (g' := (mkF m 64 #[.val (.long p0), .second, .val (.long p1), .second, .val (.int p2), .val (.int (p2 &&& (3 : Int32))), .val (.long b49), .second, .val (.ref a3), .unset] [(.int (XT.cmpL p1 (0 : Int64)))])) (fun _ hr => XT.lcmp X4.here hx rfl (hb hby at_63) rfl hr) ?_
    have J100_5 : ∀ (T6 : State) (L6 : List Loc) (b100 : Int32) (hb100 : b100 = (if p1 < (0 : Int64) then ((if b49 = (-1 : Int64) then (1 : Int32) else (0 : Int32))) else ((if b49 = (0 : Int64) then (1 : Int32) else (0 : Int32))))), Stand p l e room_1 s m #[(.long p0), (.long p1), (.int p2)] below meth c T6 L6 1 2 → T6.heap = h4 → Fr h0.size L6 → Go p.tables e below (Fin s (fun v h L => v = some (.int 1) ∧ Fr h0.size L) room_1.cells room_1.slots) T6 (mkF m 100 #[.val (.long p0), .second, .val (.long p1), .second, .val (.int p2), .val (.int (p2 &&& (3 : Int32))), .val (.long b49), .second, .val (.ref a3), .val (.int b100)] []) := by
      intro T6 L6 b100 hb100 X6 e6 N6
      refine Go.st (T' := T6) (g' := (mkF m 102 #[.val (.long p0), .second, .val (.long p1), .second, .val (.int p2), .val (.int (p2 &&& (3 : Int32))), .val (.long b49), .second, .val (.ref a3), .val (.int b100)] [(.ref a3)])) (fun _ hr => XS.aload X6.here hx rfl (hb hby at_100) rfl rfl hr) ?_
      refine Go.callV X6 hx hZ hown (W := 0) (y := (⟨"com/example/rugged_meter/ruggedmeter/Sum", "fitsInLong", "()Z"⟩ : MethodName)) (hw _ (List.mem_of_getElem? (i := 18) rfl)) (hw _ (List.mem_of_getElem? (i := 19) rfl)) (hw _ (List.mem_of_getElem? (i := 21) rfl)) (hw _ (List.mem_of_getElem? (i := 20) rfl)) (hw _ (List.mem_of_getElem? (i := 2) rfl)) (hw _ (List.mem_of_getElem? (i := 22) rfl)) (by decide) rfl e6 A3_q_4 (rm4 l Z a0 hw a3 b49 p1  h4 G4_high G4_low) (by decide) (by decide) (by decide) (by decide) (g := (mkF m 102 #[.val (.long p0), .second, .val (.long p1), .second, .val (.int p2), .val (.int (p2 &&& (3 : Int32))), .val (.long b49), .second, .val (.ref a3), .val (.int b100)] [(.ref a3)])) rfl (by rw [hml]; rfl) (argsL := []) (rest := []) (lenOf pd_2 rfl) rfl (by show 2 * 0 + _ ≤ _; exact Nat.le_of_eq rfl) (hb hby at_102) (fun v7 T7 L7 X7 q7 => ?_)
      obtain ⟨rfl, rfl, e7⟩ := q7
      rw [List.append_nil] at X7
      show Go p.tables e below (Fin s (fun v h L => v = some (.int 1) ∧ Fr h0.size L) room_1.cells room_1.slots) T7 (mkF m 105 #[.val (.long p0), .second, .val (.long p1), .second, .val (.int p2), .val (.int (p2 &&& (3 : Int32))), .val (.long b49), .second, .val (.ref a3), .val (.int b100)] [(.int (f4 b49 p1))])
      refine Go.st (T' := T7) (g' := (mkF m 107 #[.val (.long p0), .second, .val (.long p1), .second, .val (.int p2), .val (.int (p2 &&& (3 : Int32))), .val (.long b49), .second, .val (.ref a3), .val (.int b100)] [(.int b100), (.int (f4 b49 p1))])) (fun _ hr => XS.iload X7.here hx rfl (hb hby at_105) rfl hr) ?_
      refine Go.st (T' := T7) (g' := (mkF m 110 #[.val (.long p0), .second, .val (.long p1), .second, .val (.int p2), .val (.int (p2 &&& (3 : Int32))), .val (.long b49), .second, .val (.ref a3), .val (.int b100)] [])) (fun _ hr => XS.icmpNo X7.here hx rfl (hb hby at_107) rfl (XT.ii_ne_f ((own_law _ _).trans hb100.symm)) hr) ?_
      refine Go.st (T' := T7) (g' := (mkF m 111 #[.val (.long p0), .second, .val (.long p1), .second, .val (.int p2), .val (.int (p2 &&& (3 : Int32))), .val (.long b49), .second, .val (.ref a3), .val (.int b100)] [(.int (1 : Int32))])) (fun _ hr => XT.iconstV X7.here hx rfl (1 : Int32) (hb hby at_110) (by decide) hr) ?_
      refine Go.st (T' := T7) (g' := (mkF m 115 #[.val (.long p0), .second, .val (.long p1), .second, .val (.int p2), .val (.int (p2 &&& (3 : Int32))), .val (.long b49), .second, .val (.ref a3), .val (.int b100)] [(.int (1 : Int32))])) (fun _ hr => XS.goto X7.here hx rfl (pc0 := 111) (pc' := 115) rfl (hb hby at_111) (by decide) (by decide) hr) ?_
      exact Go.retN X7 hx hlk hret (by simp) (hb hby at_115) (by decide) (by decide) ⟨rfl, N6⟩
    by_cases c64_8 : p1 < (0 : Int64)
    · refine Go.st (T' := T4) (g' := (mkF m 67 #[.val (.long p0), .second, .val (.long p1), .second, .val (.int p2), .val (.int (p2 &&& (3 : Int32))), .val (.long b49), .second, .val (.ref a3), .unset] [])) (fun _ hr => XS.ifNo X4.here hx rfl (hb hby at_64) rfl (XT.ll_ge_f c64_8) hr) ?_
      refine Go.st (T' := T4) (g' := (mkF m 69 #[.val (.long p0), .second, .val (.long p1), .second, .val (.int p2), .val (.int (p2 &&& (3 : Int32))), .val (.long b49), .second, .val (.ref a3), .unset] [(.long b49)])) (fun _ hr => XT.lload X4.here hx rfl (hb hby at_67) rfl hr) ?_
      refine Go.st (T' := T4) (g' := (mkF m 72 #[.val (.long p0), .second, .val (.long p1), .second, .val (.int p2), .val (.int (p2 &&& (3 : Int32))), .val (.long b49), .second, .val (.ref a3), .unset] [(.long (-1 : Int64)), (.long b49)])) (fun _ hr => X4.ldc2J hx hown (mvT hZ (hw _ (List.mem_of_getElem? (i := 23) rfl))) rfl (hb hby at_69) hr) ?_
      refine Go.st (T' := T4) (g' := (mkF m 73 #[.val (.long p0), .second, .val (.long p1), .second, .val (.int p2), .val (.int (p2 &&& (3 : Int32))), .val (.long b49), .second, .val (.ref a3), .unset] [(.int (XT.cmpL b49 (-1 : Int64)))])) (fun _ hr => XT.lcmp X4.here hx rfl (hb hby at_72) rfl hr) ?_
      have J81_9 : ∀ (T10 : State) (L10 : List Loc) (b81 : Int32) (hb81 : b81 = (if b49 = (-1 : Int64) then (1 : Int32) else (0 : Int32))), Stand p l e room_1 s m #[(.long p0), (.long p1), (.int p2)] below meth c T10 L10 1 2 → T10.heap = h4 → Fr h0.size L10 → Go p.tables e below (Fin s (fun v h L => v = some (.int 1) ∧ Fr h0.size L) room_1.cells room_1.slots) T10 (mkF m 81 #[.val (.long p0), .second, .val (.long p1), .second, .val (.int p2), .val (.int (p2 &&& (3 : Int32))), .val (.long b49), .second, .val (.ref a3), .unset] [(.int b81)]) := by
        intro T10 L10 b81 hb81 X10 e10 N10
        refine Go.st (T' := T10) (g' := (mkF m 83 #[.val (.long p0), .second, .val (.long p1), .second, .val (.int p2), .val (.int (p2 &&& (3 : Int32))), .val (.long b49), .second, .val (.ref a3), .val (.int b81)] [])) (fun _ hr => XS.istore X10.here hx rfl (hb hby at_81) rfl (l' := #[.val (.long p0), .second, .val (.long p1), .second, .val (.int p2), .val (.int (p2 &&& (3 : Int32))), .val (.long b49), .second, .val (.ref a3), .val (.int b81)]) rfl hr) ?_
        refine Go.st (T' := T10) (g' := (mkF m 100 #[.val (.long p0), .second, .val (.long p1), .second, .val (.int p2), .val (.int (p2 &&& (3 : Int32))), .val (.long b49), .second, .val (.ref a3), .val (.int b81)] [])) (fun _ hr => XS.goto X10.here hx rfl (pc0 := 83) (pc' := 100) rfl (hb hby at_83) (by decide) (by decide) hr) ?_
        exact J100_5 T10 _ _ (by subst hb81; simp only [if_pos c64_8]) X10 e10 N10
      by_cases c73_11 : b49 = (-1 : Int64)
      · refine Go.st (T' := T4) (g' := (mkF m 76 #[.val (.long p0), .second, .val (.long p1), .second, .val (.int p2), .val (.int (p2 &&& (3 : Int32))), .val (.long b49), .second, .val (.ref a3), .unset] [])) (fun _ hr => XS.ifNo X4.here hx rfl (hb hby at_73) rfl (XT.ll_ne_f c73_11) hr) ?_
        refine Go.st (T' := T4) (g' := (mkF m 77 #[.val (.long p0), .second, .val (.long p1), .second, .val (.int p2), .val (.int (p2 &&& (3 : Int32))), .val (.long b49), .second, .val (.ref a3), .unset] [(.int (1 : Int32))])) (fun _ hr => XT.iconstV X4.here hx rfl (1 : Int32) (hb hby at_76) (by decide) hr) ?_
        refine Go.st (T' := T4) (g' := (mkF m 81 #[.val (.long p0), .second, .val (.long p1), .second, .val (.int p2), .val (.int (p2 &&& (3 : Int32))), .val (.long b49), .second, .val (.ref a3), .unset] [(.int (1 : Int32))])) (fun _ hr => XS.goto X4.here hx rfl (pc0 := 77) (pc' := 81) rfl (hb hby at_77) (by decide) (by decide) hr) ?_
        exact J81_9 T4 _ _ (by simp only [if_pos c73_11]) X4 e4 N4
      · refine Go.st (T' := T4) (g' := (mkF m 80 #[.val (.long p0), .second, .val (.long p1), .second, .val (.int p2), .val (.int (p2 &&& (3 : Int32))), .val (.long b49), .second, .val (.ref a3), .unset] [])) (fun _ hr => XS.ifYes X4.here hx rfl (pc0 := 73) (pc' := 80) rfl (hb hby at_73) rfl (XT.ll_ne_t c73_11) (by decide) (by decide) hr) ?_
        refine Go.st (T' := T4) (g' := (mkF m 81 #[.val (.long p0), .second, .val (.long p1), .second, .val (.int p2), .val (.int (p2 &&& (3 : Int32))), .val (.long b49), .second, .val (.ref a3), .unset] [(.int (0 : Int32))])) (fun _ hr => XT.iconstV X4.here hx rfl (0 : Int32) (hb hby at_80) (by decide) hr) ?_
        exact J81_9 T4 _ _ (by simp only [if_neg c73_11]) X4 e4 N4
    · refine Go.st (T' := T4) (g' := (mkF m 86 #[.val (.long p0), .second, .val (.long p1), .second, .val (.int p2), .val (.int (p2 &&& (3 : Int32))), .val (.long b49), .second, .val (.ref a3), .unset] [])) (fun _ hr => XS.ifYes X4.here hx rfl (pc0 := 64) (pc' := 86) rfl (hb hby at_64) rfl (XT.ll_ge_t c64_8) (by decide) (by decide) hr) ?_
      refine Go.st (T' := T4) (g' := (mkF m 88 #[.val (.long p0), .second, .val (.long p1), .second, .val (.int p2), .val (.int (p2 &&& (3 : Int32))), .val (.long b49), .second, .val (.ref a3), .unset] [(.long b49)])) (fun _ hr => XT.lload X4.here hx rfl (hb hby at_86) rfl hr) ?_
      refine Go.st (T' := T4) (g' := (mkF m 89 #[.val (.long p0), .second, .val (.long p1), .second, .val (.int p2), .val (.int (p2 &&& (3 : Int32))), .val (.long b49), .second, .val (.ref a3), .unset] [(.long (0 : Int64)), (.long b49)])) (fun _ hr => XT.lconstV X4.here hx rfl (0 : Int64) (hb hby at_88) (by decide) hr) ?_
      refine Go.st (T' := T4) (g' := (mkF m 90 #[.val (.long p0), .second, .val (.long p1), .second, .val (.int p2), .val (.int (p2 &&& (3 : Int32))), .val (.long b49), .second, .val (.ref a3), .unset] [(.int (XT.cmpL b49 (0 : Int64)))])) (fun _ hr => XT.lcmp X4.here hx rfl (hb hby at_89) rfl hr) ?_
      have J98_12 : ∀ (T13 : State) (L13 : List Loc) (b98 : Int32) (hb98 : b98 = (if b49 = (0 : Int64) then (1 : Int32) else (0 : Int32))), Stand p l e room_1 s m #[(.long p0), (.long p1), (.int p2)] below meth c T13 L13 1 2 → T13.heap = h4 → Fr h0.size L13 → Go p.tables e below (Fin s (fun v h L => v = some (.int 1) ∧ Fr h0.size L) room_1.cells room_1.slots) T13 (mkF m 98 #[.val (.long p0), .second, .val (.long p1), .second, .val (.int p2), .val (.int (p2 &&& (3 : Int32))), .val (.long b49), .second, .val (.ref a3), .unset] [(.int b98)]) := by
        intro T13 L13 b98 hb98 X13 e13 N13
        refine Go.st (T' := T13) (g' := (mkF m 100 #[.val (.long p0), .second, .val (.long p1), .second, .val (.int p2), .val (.int (p2 &&& (3 : Int32))), .val (.long b49), .second, .val (.ref a3), .val (.int b98)] [])) (fun _ hr => XS.istore X13.here hx rfl (hb hby at_98) rfl (l' := #[.val (.long p0), .second, .val (.long p1), .second, .val (.int p2), .val (.int (p2 &&& (3 : Int32))), .val (.long b49), .second, .val (.ref a3), .val (.int b98)]) rfl hr) ?_
        exact J100_5 T13 _ _ (by subst hb98; simp only [if_neg c64_8]) X13 e13 N13
      by_cases c90_14 : b49 = (0 : Int64)
      · refine Go.st (T' := T4) (g' := (mkF m 93 #[.val (.long p0), .second, .val (.long p1), .second, .val (.int p2), .val (.int (p2 &&& (3 : Int32))), .val (.long b49), .second, .val (.ref a3), .unset] [])) (fun _ hr => XS.ifNo X4.here hx rfl (hb hby at_90) rfl (XT.ll_ne_f c90_14) hr) ?_
        refine Go.st (T' := T4) (g' := (mkF m 94 #[.val (.long p0), .second, .val (.long p1), .second, .val (.int p2), .val (.int (p2 &&& (3 : Int32))), .val (.long b49), .second, .val (.ref a3), .unset] [(.int (1 : Int32))])) (fun _ hr => XT.iconstV X4.here hx rfl (1 : Int32) (hb hby at_93) (by decide) hr) ?_
        refine Go.st (T' := T4) (g' := (mkF m 98 #[.val (.long p0), .second, .val (.long p1), .second, .val (.int p2), .val (.int (p2 &&& (3 : Int32))), .val (.long b49), .second, .val (.ref a3), .unset] [(.int (1 : Int32))])) (fun _ hr => XS.goto X4.here hx rfl (pc0 := 94) (pc' := 98) rfl (hb hby at_94) (by decide) (by decide) hr) ?_
        exact J98_12 T4 _ _ (by simp only [if_pos c90_14]) X4 e4 N4
      · refine Go.st (T' := T4) (g' := (mkF m 97 #[.val (.long p0), .second, .val (.long p1), .second, .val (.int p2), .val (.int (p2 &&& (3 : Int32))), .val (.long b49), .second, .val (.ref a3), .unset] [])) (fun _ hr => XS.ifYes X4.here hx rfl (pc0 := 90) (pc' := 97) rfl (hb hby at_90) rfl (XT.ll_ne_t c90_14) (by decide) (by decide) hr) ?_
        refine Go.st (T' := T4) (g' := (mkF m 98 #[.val (.long p0), .second, .val (.long p1), .second, .val (.int p2), .val (.int (p2 &&& (3 : Int32))), .val (.long b49), .second, .val (.ref a3), .unset] [(.int (0 : Int32))])) (fun _ hr => XT.iconstV X4.here hx rfl (0 : Int32) (hb hby at_97) (by decide) hr) ?_
        exact J98_12 T4 _ _ (by simp only [if_neg c90_14]) X4 e4 N4
  by_cases c9_15 : (p2 &&& (3 : Int32)) = (1 : Int32)
  · refine Go.st (T' := s₁) (g' := (mkF m 12 #[.val (.long p0), .second, .val (.long p1), .second, .val (.int p2), .val (.int (p2 &&& (3 : Int32))), .unset, .unset, .unset, .unset] [])) (fun _ hr => XS.icmpNo X0.here hx rfl (hb hby at_9) rfl (XT.ii_ne_f c9_15) hr) ?_
    refine Go.st (T' := s₁) (g' := (mkF m 13 #[.val (.long p0), .second, .val (.long p1), .second, .val (.int p2), .val (.int (p2 &&& (3 : Int32))), .unset, .unset, .unset, .unset] [(.long (0 : Int64))])) (fun _ hr => XT.lconstV X0.here hx rfl (0 : Int64) (hb hby at_12) (by decide) hr) ?_
    refine Go.st (T' := s₁) (g' := (mkF m 15 #[.val (.long p0), .second, .val (.long p1), .second, .val (.int p2), .val (.int (p2 &&& (3 : Int32))), .val (.long (0 : Int64)), .second, .unset, .unset] [])) (fun _ hr => XT.lstore X0.here hx rfl (hb hby at_13) rfl (l' := #[.val (.long p0), .second, .val (.long p1), .second, .val (.int p2), .val (.int (p2 &&& (3 : Int32))), .val (.long (0 : Int64)), .second, .unset, .unset]) rfl hr) ?_
    refine Go.st (T' := s₁) (g' := (mkF m 49 #[.val (.long p0), .second, .val (.long p1), .second, .val (.int p2), .val (.int (p2 &&& (3 : Int32))), .val (.long (0 : Int64)), .second, .unset, .unset] [])) (fun _ hr => XS.goto X0.here hx rfl (pc0 := 15) (pc' := 49) rfl (hb hby at_15) (by decide) (by decide) hr) ?_
    exact J49_1 s₁ _ (by simp only [if_pos c9_15]) X0 e0
  · refine Go.st (T' := s₁) (g' := (mkF m 18 #[.val (.long p0), .second, .val (.long p1), .second, .val (.int p2), .val (.int (p2 &&& (3 : Int32))), .unset, .unset, .unset, .unset] [])) (fun _ hr => XS.icmpYes X0.here hx rfl (pc0 := 9) (pc' := 18) rfl (hb hby at_9) rfl (XT.ii_ne_t c9_15) (by decide) (by decide) hr) ?_
    refine Go.st (T' := s₁) (g' := (mkF m 20 #[.val (.long p0), .second, .val (.long p1), .second, .val (.int p2), .val (.int (p2 &&& (3 : Int32))), .unset, .unset, .unset, .unset] [(.int (p2 &&& (3 : Int32)))])) (fun _ hr => XS.iload X0.here hx rfl (hb hby at_18) rfl hr) ?_
    refine Go.st (T' := s₁) (g' := (mkF m 21 #[.val (.long p0), .second, .val (.long p1), .second, .val (.int p2), .val (.int (p2 &&& (3 : Int32))), .unset, .unset, .unset, .unset] [(.int (2 : Int32)), (.int (p2 &&& (3 : Int32)))])) (fun _ hr => XT.iconstV X0.here hx rfl (2 : Int32) (hb hby at_20) (by decide) hr) ?_
    by_cases c21_16 : (p2 &&& (3 : Int32)) = (2 : Int32)
    · refine Go.st (T' := s₁) (g' := (mkF m 24 #[.val (.long p0), .second, .val (.long p1), .second, .val (.int p2), .val (.int (p2 &&& (3 : Int32))), .unset, .unset, .unset, .unset] [])) (fun _ hr => XS.icmpNo X0.here hx rfl (hb hby at_21) rfl (XT.ii_ne_f c21_16) hr) ?_
      refine Go.st (T' := s₁) (g' := (mkF m 27 #[.val (.long p0), .second, .val (.long p1), .second, .val (.int p2), .val (.int (p2 &&& (3 : Int32))), .unset, .unset, .unset, .unset] [(.long (-1 : Int64))])) (fun _ hr => X0.ldc2J hx hown (mvT hZ (hw _ (List.mem_of_getElem? (i := 23) rfl))) rfl (hb hby at_24) hr) ?_
      refine Go.st (T' := s₁) (g' := (mkF m 29 #[.val (.long p0), .second, .val (.long p1), .second, .val (.int p2), .val (.int (p2 &&& (3 : Int32))), .val (.long (-1 : Int64)), .second, .unset, .unset] [])) (fun _ hr => XT.lstore X0.here hx rfl (hb hby at_27) rfl (l' := #[.val (.long p0), .second, .val (.long p1), .second, .val (.int p2), .val (.int (p2 &&& (3 : Int32))), .val (.long (-1 : Int64)), .second, .unset, .unset]) rfl hr) ?_
      refine Go.st (T' := s₁) (g' := (mkF m 49 #[.val (.long p0), .second, .val (.long p1), .second, .val (.int p2), .val (.int (p2 &&& (3 : Int32))), .val (.long (-1 : Int64)), .second, .unset, .unset] [])) (fun _ hr => XS.goto X0.here hx rfl (pc0 := 29) (pc' := 49) rfl (hb hby at_29) (by decide) (by decide) hr) ?_
      exact J49_1 s₁ _ (by simp only [if_neg c9_15, if_pos c21_16]) X0 e0
    · refine Go.st (T' := s₁) (g' := (mkF m 32 #[.val (.long p0), .second, .val (.long p1), .second, .val (.int p2), .val (.int (p2 &&& (3 : Int32))), .unset, .unset, .unset, .unset] [])) (fun _ hr => XS.icmpYes X0.here hx rfl (pc0 := 21) (pc' := 32) rfl (hb hby at_21) rfl (XT.ii_ne_t c21_16) (by decide) (by decide) hr) ?_
      refine Go.st (T' := s₁) (g' := (mkF m 34 #[.val (.long p0), .second, .val (.long p1), .second, .val (.int p2), .val (.int (p2 &&& (3 : Int32))), .unset, .unset, .unset, .unset] [(.int (p2 &&& (3 : Int32)))])) (fun _ hr => XS.iload X0.here hx rfl (hb hby at_32) rfl hr) ?_
      refine Go.st (T' := s₁) (g' := (mkF m 35 #[.val (.long p0), .second, .val (.long p1), .second, .val (.int p2), .val (.int (p2 &&& (3 : Int32))), .unset, .unset, .unset, .unset] [(.int (3 : Int32)), (.int (p2 &&& (3 : Int32)))])) (fun _ hr => XT.iconstV X0.here hx rfl (3 : Int32) (hb hby at_34) (by decide) hr) ?_
      by_cases c35_17 : (p2 &&& (3 : Int32)) = (3 : Int32)
      · refine Go.st (T' := s₁) (g' := (mkF m 38 #[.val (.long p0), .second, .val (.long p1), .second, .val (.int p2), .val (.int (p2 &&& (3 : Int32))), .unset, .unset, .unset, .unset] [])) (fun _ hr => XS.icmpNo X0.here hx rfl (hb hby at_35) rfl (XT.ii_ne_f c35_17) hr) ?_
        refine Go.st (T' := s₁) (g' := (mkF m 39 #[.val (.long p0), .second, .val (.long p1), .second, .val (.int p2), .val (.int (p2 &&& (3 : Int32))), .unset, .unset, .unset, .unset] [(.long p0)])) (fun _ hr => XT.lloadN X0.here hx rfl (hb hby at_38) rfl hr) ?_
        refine Go.st (T' := s₁) (g' := (mkF m 40 #[.val (.long p0), .second, .val (.long p1), .second, .val (.int p2), .val (.int (p2 &&& (3 : Int32))), .unset, .unset, .unset, .unset] [(.long (1 : Int64)), (.long p0)])) (fun _ hr => XT.lconstV X0.here hx rfl (1 : Int64) (hb hby at_39) (by decide) hr) ?_
        refine Go.st (T' := s₁) (g' := (mkF m 41 #[.val (.long p0), .second, .val (.long p1), .second, .val (.int p2), .val (.int (p2 &&& (3 : Int32))), .unset, .unset, .unset, .unset] [(.long (p0 &&& (1 : Int64)))])) (fun _ hr => XT.land X0.here hx rfl (hb hby at_40) rfl hr) ?_
        refine Go.st (T' := s₁) (g' := (mkF m 43 #[.val (.long p0), .second, .val (.long p1), .second, .val (.int p2), .val (.int (p2 &&& (3 : Int32))), .val (.long (p0 &&& (1 : Int64))), .second, .unset, .unset] [])) (fun _ hr => XT.lstore X0.here hx rfl (hb hby at_41) rfl (l' := #[.val (.long p0), .second, .val (.long p1), .second, .val (.int p2), .val (.int (p2 &&& (3 : Int32))), .val (.long (p0 &&& (1 : Int64))), .second, .unset, .unset]) rfl hr) ?_
        refine Go.st (T' := s₁) (g' := (mkF m 49 #[.val (.long p0), .second, .val (.long p1), .second, .val (.int p2), .val (.int (p2 &&& (3 : Int32))), .val (.long (p0 &&& (1 : Int64))), .second, .unset, .unset] [])) (fun _ hr => XS.goto X0.here hx rfl (pc0 := 43) (pc' := 49) rfl (hb hby at_43) (by decide) (by decide) hr) ?_
        exact J49_1 s₁ _ (by simp only [if_neg c9_15, if_neg c21_16, if_pos c35_17]) X0 e0
      · refine Go.st (T' := s₁) (g' := (mkF m 46 #[.val (.long p0), .second, .val (.long p1), .second, .val (.int p2), .val (.int (p2 &&& (3 : Int32))), .unset, .unset, .unset, .unset] [])) (fun _ hr => XS.icmpYes X0.here hx rfl (pc0 := 35) (pc' := 46) rfl (hb hby at_35) rfl (XT.ii_ne_t c35_17) (by decide) (by decide) hr) ?_
        refine Go.st (T' := s₁) (g' := (mkF m 47 #[.val (.long p0), .second, .val (.long p1), .second, .val (.int p2), .val (.int (p2 &&& (3 : Int32))), .unset, .unset, .unset, .unset] [(.long p0)])) (fun _ hr => XT.lloadN X0.here hx rfl (hb hby at_46) rfl hr) ?_
        refine Go.st (T' := s₁) (g' := (mkF m 49 #[.val (.long p0), .second, .val (.long p1), .second, .val (.int p2), .val (.int (p2 &&& (3 : Int32))), .val (.long p0), .second, .unset, .unset] [])) (fun _ hr => XT.lstore X0.here hx rfl (hb hby at_47) rfl (l' := #[.val (.long p0), .second, .val (.long p1), .second, .val (.int p2), .val (.int (p2 &&& (3 : Int32))), .val (.long p0), .second, .unset, .unset]) rfl hr) ?_
        exact J49_1 s₁ _ (by simp only [if_neg c9_15, if_neg c21_16, if_neg c35_17]) X0 e0
set_option maxRecDepth 65536 in
set_option maxHeartbeats 40000000 in
theorem comes_1 {Post : Tables → Env → Array Value → State → Outcome → State → Prop} (hpost : ∀ tb e args s v u, (limb_1_1.after args s (.returned v) u = true ∧ limb_1_2.after args s (.returned v) u = true ∧ True) → FrameEnd s (.returned v) u (Jvm.fieldLocs frame_1_writes args s ++ Jvm.arrayLocs frame_1_arrays args s ++ Jvm.staticLocs frame_1_statics s) 16 128 → Post tb e args s (.returned v) u) :
    ArmFor flags0 classFile x code maxLocals ret World_1 tables_1 room_1 Calls_1 rest_1 Pre_1 Post := by
  intro l hfl _ _ p e ha hc hk s m args below hf hA hF happ hP
  obtain ⟨hcalls, hrest, hpre⟩ := hP
  obtain ⟨-, -, -, hnamed, -, -, -, hat⟩ := (Spec.applies_iff hf).mp happ
  obtain ⟨hg, hn⟩ := and_e (Cond.before_iff.mp (show (Jvm.Cond.and given_1 narrow_1).before args s = true from hpre))
  obtain ⟨g0, r0⟩ := and_e hg
  obtain ⟨u0, r1⟩ := and_e r0
  obtain ⟨u1, r2⟩ := and_e r1
  have u2 := r2
  obtain ⟨w0, w1, w2, rfl⟩ : ∃ w0 w1 w2 : Value, args = #[w0, w1, w2] := by
    have hs : args.size = 3 := by simpa [Cond.value, given_1] using g0
    obtain ⟨L⟩ := args
    match L, hs with
    | [w0, w1, w2], _ => exact ⟨w0, w1, w2, rfl⟩
  have hw := fun d (hd : d ∈ tables_1) => atoms_spec (ws := Jvm.Cond.code x code maxLocals ret :: tables_1) hat d (List.mem_cons_of_mem _ hd)
  have hfit : Fit s := fun {y c} hc i hi => by
    obtain ⟨ha, rfl⟩ := Array.getElem?_eq_some_iff.mp hc
    have q := List.all_eq_true.mp ((Array.all_eq_true_iff_forall_mem.mp hF) _ (Array.getElem_mem ha)) i (List.mem_range.mpr hi)
    simpa [Array.getElem?_eq_getElem hi] using q
  obtain ⟨i0, ei0⟩ := isL_v u0
  obtain rfl : w0 = (.long i0) := Option.some.inj ei0
  obtain ⟨i1, ei1⟩ := isL_v u1
  obtain rfl : w1 = (.long i1) := Option.some.inj ei1
  obtain ⟨i2, ei2⟩ := is_v u2
  obtain rfl : w2 = (.int i2) := Option.some.inj ei2
  obtain ⟨n, o, h1, h2, h3, _, L, rfl, ⟨rfl, N⟩, hq⟩ := rm0 l s _ hw tables_1 i0 i1 i2 s.heap  p e ha hc hk s m _ below hf ((Spec.applies_iff_loose hf).mp happ).1 ⟨rfl, State.Warmed39.refl s, rfl⟩ trivial
  refine ⟨n, _, h1, h2, h3, hpost _ _ _ _ _ _ ⟨Cond.after_iff.mpr rfl, Cond.after_iff.mpr (eq_i res_at (Term.int_eval (1)) rfl), trivial⟩ ⟨hq.1, hq.2.1, (hq.2.2.sift fun y hy => Or.inr (N y hy)).mono (by decide) (by decide)⟩⟩
theorem main_1_1 : Claimed_1_1 := comes_1 fun _ _ _ _ _ _ h hF => ⟨h.1, hF⟩
theorem main_1_2 : Claimed_1_2 := comes_1 fun _ _ _ _ _ _ h hF => ⟨h.2.1, hF⟩
end Jvm.Pilot.@@N@@
namespace Jvm.Pilot.@@N@@
open Jvm Jvm.ClassFile Sem Op Lib Jvm.Free Jvm.Stand Jvm.Pilot.@@N@@.Jvm.D
/-! MADE BY PROGRAM (witnessworld.py) out of the Statement's table words and the real class files: 10 classes; the members and pool entries that the words name. The judged class is class 1, her method 1. -/
namespace start1
open Jvm.ClassFile
def u (s : String) : CpInfo := .utf8 (stringToUtf16 s)
/-- a pool by its gaps: so many unusable entries, then the entry; so many at the end -/
def gap : Nat → List CpInfo → List CpInfo
  | 0, r => r
  | n + 1, r => .unusable :: gap n r
def poolList (es : List (Nat × CpInfo)) (last : Nat) : List CpInfo := es.foldr (fun e r => gap e.1 (e.2 :: r)) (gap last [])
def pool (es : List (Nat × CpInfo)) (last : Nat) : Array CpInfo := ⟨poolList es last⟩
def fileOf (pool : Array CpInfo) (this : Nat) (attrs : Array Attribute := #[]) (ms : Array MethodInfo := #[]) (fl : Nat := 33) (sup : Nat := 0) (ifs : Array Nat := #[]) (fds : Array FieldInfo := #[]) : ClassFile where
  minorVersion := 0
  majorVersion := 65
  constantPool := pool
  accessFlags := fl
  thisClass := this
  superClass := sup
  interfaces := ifs
  fields := fds
  methods := ms
  attributes := attrs
def plain (name : String) (sup : Option ClassId) : Class where
  name := name
  kind := .ordinary
  loader := none
  accessFlags := 33
  super := sup
  interfaces := #[]
  cf := none
  fields := #[]
  methods := #[]
  instanceTypes := #[]
  staticTypes := #[]
  resolved := #[]
  callSites := []
  init := .initialized
  statics := none
  mirror := none

def pool0 : Array CpInfo := pool [(5, u "<init>"), (0, u "()V"), (1, .class_ 10), (1, u "java/lang/Object")] 113

def k0c0 : Code := { maxStack := 0, maxLocals := 1, code := object_method_1_code, exceptionTable := #[], attributes := #[] }
def k0m0 : Method := { name := "<init>", desc := "()V", sig := { parameters := [], returnType := none }, accessFlags := 1, code := some k0c0 }
/-- java/lang/Object -/
def k0 : Class := { plain "java/lang/Object" none with
  accessFlags := 33
  interfaces := #[]
  cf := some (fileOf pool0 8 #[] #[{ accessFlags := 1, nameIndex := 5, descriptorIndex := 6, attributes := #[] }] 33 0 #[] #[])
  fields := #[]
  methods := #[k0m0]
  instanceTypes := #[]
  staticTypes := #[]
  resolved := Array.replicate 124 none
  statics := none }

def pool1 : Array CpInfo := pool [(2, .class_ 4), (1, u "java/lang/Object"), (0, u "<init>"), (0, u "()V"), (0, .long 18446744073709551615), (1, .class_ 10), (0, u "com/example/rugged_meter/ruggedmeter/Sum"), (0, .methodref 9 12), (0, .nameAndType 5 13), (0, u "(JJ)V"), (0, .methodref 9 15), (0, .nameAndType 16 17), (0, u "fitsInLong"), (0, u "()Z"), (0, .class_ 19), (0, u "com/example/rugged_meter/ruggedmeter/SumFitsInLongPinLaw"), (2, u "law"), (0, u "(JJI)Z")] 3

def k1m0 : Method := { name := "<init>", desc := "()V", sig := { parameters := [], returnType := none }, accessFlags := 1, code := none }
def k1c1 : Code := { maxStack := 6, maxLocals := 10, code := code, exceptionTable := #[], attributes := #[] }
def k1m1 : Method := { name := "law", desc := "(JJI)Z", sig := { parameters := [.long, .long, .int], returnType := some .boolean }, accessFlags := 9, code := some k1c1 }
/-- com/example/rugged_meter/ruggedmeter/SumFitsInLongPinLaw -/
def k1 : Class := { plain "com/example/rugged_meter/ruggedmeter/SumFitsInLongPinLaw" (some 0) with
  accessFlags := 49
  interfaces := #[]
  cf := some (fileOf pool1 18 #[] #[{ accessFlags := 1, nameIndex := 5, descriptorIndex := 6, attributes := #[] }, { accessFlags := 9, nameIndex := 22, descriptorIndex := 23, attributes := #[] }] 49 2 #[] #[])
  fields := #[]
  methods := #[k1m0, k1m1]
  instanceTypes := #[]
  staticTypes := #[]
  resolved := Array.replicate 27 none
  statics := none }

def pool2 : Array CpInfo := pool [(1, .methodref 2 3), (0, .class_ 4), (0, .nameAndType 5 6), (0, u "java/lang/Object"), (0, u "<init>"), (0, u "()V"), (0, .class_ 8), (0, u "java/lang/Record")] 13

def k2c0 : Code := { maxStack := 1, maxLocals := 1, code := jdk_30_method_1_code, exceptionTable := #[], attributes := #[] }
def k2m0 : Method := { name := "<init>", desc := "()V", sig := { parameters := [], returnType := none }, accessFlags := 4, code := some k2c0 }
/-- java/lang/Record -/
def k2 : Class := { plain "java/lang/Record" (some 0) with
  accessFlags := 1057
  interfaces := #[]
  cf := some (fileOf pool2 7 #[] #[{ accessFlags := 4, nameIndex := 5, descriptorIndex := 6, attributes := #[] }] 1057 2 #[] #[])
  fields := #[]
  methods := #[k2m0]
  instanceTypes := #[]
  staticTypes := #[]
  resolved := Array.replicate 22 none
  statics := none }

def pool3 : Array CpInfo := pool [(1, .methodref 2 3), (0, .class_ 4), (0, .nameAndType 5 6), (0, u "java/lang/Record"), (0, u "<init>"), (0, u "()V"), (0, .fieldref 8 9), (0, .class_ 10), (0, .nameAndType 11 12), (0, u "com/example/rugged_meter/ruggedmeter/Sum"), (0, u "high"), (0, u "J"), (0, .fieldref 8 14), (0, .nameAndType 15 12), (0, u "low"), (8, u "fitsInLong"), (0, u "()Z"), (49, u "(JJ)V")] 39

def k3c0 : Code := { maxStack := 3, maxLocals := 5, code := prog_15_method_1_code, exceptionTable := #[], attributes := #[] }
def k3m0 : Method := { name := "<init>", desc := "(JJ)V", sig := { parameters := [.long, .long], returnType := none }, accessFlags := 0, code := some k3c0 }
def k3c1 : Code := { maxStack := 5, maxLocals := 1, code := prog_15_method_3_code, exceptionTable := #[], attributes := #[] }
def k3m1 : Method := { name := "fitsInLong", desc := "()Z", sig := { parameters := [], returnType := some .boolean }, accessFlags := 0, code := some k3c1 }
/-- com/example/rugged_meter/ruggedmeter/Sum -/
def k3 : Class := { plain "com/example/rugged_meter/ruggedmeter/Sum" (some 2) with
  accessFlags := 48
  interfaces := #[]
  cf := some (fileOf pool3 8 #[] #[{ accessFlags := 0, nameIndex := 5, descriptorIndex := 75, attributes := #[] }, { accessFlags := 0, nameIndex := 24, descriptorIndex := 25, attributes := #[] }] 48 2 #[] #[{ accessFlags := 18, nameIndex := 11, descriptorIndex := 12, attributes := #[] }, { accessFlags := 18, nameIndex := 15, descriptorIndex := 12, attributes := #[] }])
  fields := #[{ name := "high", type := .long, accessFlags := 18, slot := 0, constantValue := 0 }, { name := "low", type := .long, accessFlags := 18, slot := 1, constantValue := 0 }]
  methods := #[k3m0, k3m1]
  instanceTypes := #[.long, .long]
  staticTypes := #[]
  resolved := Array.replicate 115 none
  statics := none }

def pool4 : Array CpInfo := pool [(1, u "java/lang/Cloneable"), (0, .class_ 1), (0, u "java/lang/Object"), (0, .class_ 3)] 3

/-- java/lang/Cloneable -/
def k4 : Class := { plain "java/lang/Cloneable" (some 0) with
  accessFlags := 1537
  interfaces := #[]
  cf := some (fileOf pool4 2 #[] #[] 1537 4 #[] #[])
  fields := #[]
  methods := #[]
  instanceTypes := #[]
  staticTypes := #[]
  resolved := Array.replicate 8 none
  statics := none }

def pool5 : Array CpInfo := pool [(1, u "java/io/Serializable"), (0, .class_ 1), (0, u "java/lang/Object"), (0, .class_ 3)] 3

/-- java/io/Serializable -/
def k5 : Class := { plain "java/io/Serializable" (some 0) with
  accessFlags := 1537
  interfaces := #[]
  cf := some (fileOf pool5 2 #[] #[] 1537 4 #[] #[])
  fields := #[]
  methods := #[]
  instanceTypes := #[]
  staticTypes := #[]
  resolved := Array.replicate 8 none
  statics := none }

/-- the primitive byte -/
def k6 : Class := { plain "byte" none with kind := .primitive 'B', accessFlags := 0x411 }
/-- [B -/
def k7 : Class := { plain "[B" (some 0) with kind := .array 6 .byte, interfaces := #[4, 5], accessFlags := 1041 }

/-- the primitive int -/
def k8 : Class := { plain "int" none with kind := .primitive 'I', accessFlags := 0x411 }
/-- [I -/
def k9 : Class := { plain "[I" (some 0) with kind := .array 8 .int, interfaces := #[4, 5], accessFlags := 1041 }

def heap : Heap := #[]
def classes : Array Class := #[k0, k1, k2, k3, k4, k5, k6, k7, k8, k9]
def interned : List (Array UInt16 × Addr) := []
def slotsUsed : Nat := 0
def theMethod : MethodId := ⟨1, 1⟩
def args0 : Array Value := #[.long 5, .long 300, .int 1]
def aboutOver (below : List Frame) : State where
  vm := { classes := classes, interned := interned.toArray }
  heap := heap
  slotsUsed := slotsUsed
  threads := #[{ frames := .invoking theMethod args0 :: below }]
def below0 : List Frame := [.native { method := ⟨0, 0⟩, args := #[] }]
def about1 : State := aboutOver below0
def p0 : Program := .bare "" "" ""
def e0 : Env := launch0.env 0 0 0
theorem w_frames : about1.frames = Frame.invoking theMethod args0 :: below0 := rfl
set_option maxRecDepth 65536 in
theorem w_args : argsFit about1.vm theMethod args0 = true := by decide +kernel
set_option maxRecDepth 65536 in
theorem w_heap : heapFits about1 = true := by decide +kernel
set_option maxRecDepth 65536 in
theorem w_runnable : about1.curStatus? = some .runnable := by decide +kernel
set_option maxRecDepth 65536 in
theorem w_alone : about1.alone = true := by decide +kernel
set_option maxRecDepth 65536 in
theorem w_named : about1.methodNamed? x = some theMethod := by decide +kernel
set_option maxRecDepth 65536 in
theorem w_hears : about1.hears theMethod below0 = true := by decide +kernel
set_option maxRecDepth 65536 in
theorem w_ripe : about1.ripe theMethod args0 below0 = true := by decide +kernel
theorem w_running : about1.status = .running := rfl
set_option maxRecDepth 65536 in
theorem w_room : about1.hasRoom e0.platform room_1 = true :=
  launch0.hasRoom_least _ room_1 (by decide +kernel) (by decide +kernel) (by decide +kernel) (by decide +kernel) (by decide +kernel) (by decide +kernel)
theorem allAtoms_all (ts : List Jvm.Cond) (a : Array Jvm.Value) (st : Jvm.State) : (allAtoms ts).before a st = ts.all (fun c => c.before a st) := by
  induction ts with
  | nil => rfl
  | cons c t ih =>
    show (Jvm.Cond.and c (allAtoms t)).before a st = _
    rw [Jvm.Cond.before_and, ih, List.all_cons]
def words1 : List Jvm.Cond := Jvm.Cond.code x code maxLocals ret :: tables_1
/-- a 'code' word, met by the world's own term for the bytes: nothing is compared byte by byte -/
theorem code_word {y : MethodName} {bytes : ByteArray} {mx : Nat} {rt : Option FieldType} {a : Array Value} {s : State} {m : MethodId} {meth : Method} {c : Code} (h1 : s.methodNamed? y = some m) (h2 : s.vm.method? m = some meth) (h3 : meth.code = some c) (h4 : c.code = bytes)
    (h5 : (c.maxLocals == mx && c.exceptionTable.isEmpty && decide (c.maxStack ≤ mostOperands) && decide (meth.sig.returnType = rt) && !meth.locks && decide (parseMethodDescriptor y.desc = some meth.sig)) = true) : (Jvm.Cond.code y bytes mx rt).before a s = true := by
  simp only [Bool.and_eq_true, beq_iff_eq, Bool.not_eq_true', decide_eq_true_eq] at h5
  obtain ⟨⟨⟨⟨⟨g1, g2⟩, g3⟩, g4⟩, g5⟩, g6⟩ := h5
  simp [Cond.before, Cond.holds, Cond.value, h1, h2, h3, h4, g1, g2, g3, g4, g5, g6]
def isCode : Jvm.Cond → Bool
  | .code _ _ _ _ => true
  | _ => false
theorem all_split {L : List Jvm.Cond} {P : Jvm.Cond → Bool} (h1 : L.all (fun c => isCode c || P c) = true) (h2 : ∀ c ∈ L.filter isCode, P c = true) : L.all P = true := by
  refine List.all_eq_true.mpr fun c hc => ?_
  have h := List.all_eq_true.mp h1 c hc
  rcases Bool.eq_false_or_eq_true (isCode c) with hi | hi
  · exact h2 c (List.mem_filter.mpr ⟨hc, hi⟩)
  · simpa [hi] using h
set_option maxRecDepth 65536 in
theorem w_c0 : (Jvm.Cond.code x code maxLocals ret).before args0 about1 = true := code_word (m := ⟨1, 1⟩) (meth := k1m1) (c := k1c1) (by decide +kernel) rfl rfl rfl (by decide +kernel)
set_option maxRecDepth 65536 in
theorem w_c1 : (Jvm.Cond.code ({ cls := "com/example/rugged_meter/ruggedmeter/Sum", name := "<init>", desc := "(JJ)V" } : Jvm.MethodName) prog_15_method_1_code (5 : Nat) (Option.none : Option Jvm.ClassFile.FieldType)).before args0 about1 = true := code_word (m := ⟨3, 0⟩) (meth := k3m0) (c := k3c0) (by decide +kernel) rfl rfl rfl (by decide +kernel)
set_option maxRecDepth 65536 in
theorem w_c2 : (Jvm.Cond.code ({ cls := "java/lang/Record", name := "<init>", desc := "()V" } : Jvm.MethodName) jdk_30_method_1_code (1 : Nat) (Option.none : Option Jvm.ClassFile.FieldType)).before args0 about1 = true := code_word (m := ⟨2, 0⟩) (meth := k2m0) (c := k2c0) (by decide +kernel) rfl rfl rfl (by decide +kernel)
set_option maxRecDepth 65536 in
theorem w_c3 : (Jvm.Cond.code ({ cls := "java/lang/Object", name := "<init>", desc := "()V" } : Jvm.MethodName) object_method_1_code (1 : Nat) (Option.none : Option Jvm.ClassFile.FieldType)).before args0 about1 = true := code_word (m := ⟨0, 0⟩) (meth := k0m0) (c := k0c0) (by decide +kernel) rfl rfl rfl (by decide +kernel)
set_option maxRecDepth 65536 in
theorem w_c4 : (Jvm.Cond.code ({ cls := "com/example/rugged_meter/ruggedmeter/Sum", name := "fitsInLong", desc := "()Z" } : Jvm.MethodName) prog_15_method_3_code (1 : Nat) (Option.some Jvm.ClassFile.FieldType.boolean)).before args0 about1 = true := code_word (m := ⟨3, 1⟩) (meth := k3m1) (c := k3c1) (by decide +kernel) rfl rfl rfl (by decide +kernel)
def codes1 : List Jvm.Cond := [Jvm.Cond.code x code maxLocals ret, Jvm.Cond.code ({ cls := "com/example/rugged_meter/ruggedmeter/Sum", name := "<init>", desc := "(JJ)V" } : Jvm.MethodName) prog_15_method_1_code (5 : Nat) (Option.none : Option Jvm.ClassFile.FieldType), Jvm.Cond.code ({ cls := "java/lang/Record", name := "<init>", desc := "()V" } : Jvm.MethodName) jdk_30_method_1_code (1 : Nat) (Option.none : Option Jvm.ClassFile.FieldType), Jvm.Cond.code ({ cls := "java/lang/Object", name := "<init>", desc := "()V" } : Jvm.MethodName) object_method_1_code (1 : Nat) (Option.none : Option Jvm.ClassFile.FieldType), Jvm.Cond.code ({ cls := "com/example/rugged_meter/ruggedmeter/Sum", name := "fitsInLong", desc := "()Z" } : Jvm.MethodName) prog_15_method_3_code (1 : Nat) (Option.some Jvm.ClassFile.FieldType.boolean)]
set_option maxRecDepth 65536 in
theorem codes_eq : words1.filter isCode = codes1 := rfl
theorem w_codes : ∀ c ∈ words1.filter isCode, c.before args0 about1 = true := by
  rw [codes_eq]
  intro c hc
  simp only [codes1, List.mem_cons, List.not_mem_nil, or_false] at hc
  rcases hc with rfl | rfl | rfl | rfl | rfl
  · exact w_c0
  · exact w_c1
  · exact w_c2
  · exact w_c3
  · exact w_c4
set_option maxRecDepth 65536 in
theorem w_t1 : (words1.take 24).all (fun c => isCode c || c.before args0 about1) = true := by decide +kernel
set_option maxRecDepth 65536 in
theorem w_t2 : (words1.drop 24).all (fun c => isCode c || c.before args0 about1) = true := by decide +kernel
theorem w_tables : (allAtoms (Jvm.Cond.code x code maxLocals ret :: tables_1)).before args0 about1 = true := by
  rw [allAtoms_all]
  show words1.all (fun c => c.before args0 about1) = true
  refine all_split ?_ w_codes
  rw [← List.take_append_drop 24 words1, List.all_append, w_t1, w_t2]
  rfl
set_option maxRecDepth 65536 in
theorem w_case : (Jvm.Cond.and given_1 narrow_1).before args0 about1 = true := by decide +kernel
theorem w_applies : (headSpec (Jvm.Cond.code x code maxLocals ret :: tables_1) room_1).applies x e0.platform about1 = true :=
  (Spec.applies_iff w_frames).mpr ⟨w_running, w_runnable, w_alone, w_named, w_hears, w_ripe, w_room, w_tables⟩
theorem atStart : AtStart classFile x code maxLocals ret World_1 tables_1 room_1 Calls_1 rest_1 Pre_1 launch0 p0 e0 about1 theMethod args0 below0 :=
  ⟨lists_1, trivial, launch0.admits_env _ _ _, launch0.least_env, fairChoices_fair.cas, fairChoices_fair.clock, w_frames, w_args, w_heap, w_applies, trivial, trivial, w_case⟩
end start1
theorem witness_1 : WitnessClaimed_1 := ⟨start1.p0, start1.e0, start1.about1, start1.theMethod, start1.args0, start1.below0, start1.atStart⟩
end Jvm.Pilot.@@N@@
