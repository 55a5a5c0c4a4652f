import JvmDerived
import JvmDerived.Pilot.@@N@@Statement
import JvmDerived.Pilot.@@N@@Code
set_option linter.unusedVariables false
set_option linter.unusedSimpArgs false
@@BLOCK:NumsL.lean.txt@@
namespace Jvm.Pilot.@@N@@
open Jvm Jvm.ClassFile Sem Op Lib Jvm.Free Jvm.Stand Jvm.LawKit Jvm.RoadKit Bundle Jvm.Pilot.@@N@@.Jvm.D
/-! 0. a walk by goals: 'Go .. F T g': from the frame g at the state T the body comes to an end of which F holds -/
def Go (tb : Tables) (e : Env) (below : List Frame) (F : Outcome → State → Prop) (T : State) (g : JFrame) : Prop :=
  ∃ s₂ o, Steps tb e below (T.setTop g) s₂ ∧ s₂.status = .running ∧ Ended s₂ below o ∧ F o s₂
def Fin (s : State) (Q : Option Value → Heap → List Loc → Prop) (rc rs : Nat) : Outcome → State → Prop :=
  fun o U => ∃ v L, o = .returned v ∧ Q v U.heap L ∧ FrameEnd s o U L rc rs
/-- a contract: called with as' at the heap h it returns, and Q holds of the value, the heap and the written places -/
def MetQ (l : Launch) (Z : State) (y : MethodName) (bytes : ByteArray) (maxL : Nat) (ret : Option FieldType) (ws : List Jvm.Cond) (rm : Room) (as' : Array Value) (h : Heap) (Q : Option Value → Heap → List Loc → Prop) : Prop :=
  MetFree l y (head1 (Jvm.Cond.code y bytes maxL ret :: ws) rm) (fun a U => a = as' ∧ Z.Warmed39 U.vm ∧ U.heap = h) (fun _ _ _ _ _ => True) (fun _ U o U' => ∃ v L, o = .returned v ∧ Q v U'.heap L ∧ FrameEnd U o U' L rm.cells rm.slots)
/-- what a pure method leaves: its value, nothing written -/
def PQ (w : Value) (h : Heap) : Option Value → Heap → List Loc → Prop := fun v h' L => v = some w ∧ L = [] ∧ h' = h
theorem own_narrow_ref {t : FieldType} {v : Value} (hv : v.isRef = true) : narrow t v = v := by rcases XT.refc hv with rfl | ⟨_, rfl⟩ <;> cases t <;> rfl
theorem own_fits_obj {C : String} {v : Value} (hv : v.isRef = true) : fits (.object C) v = true := by rcases XT.refc hv with rfl | ⟨_, rfl⟩ <;> rfl
theorem own_fits_arr {t : FieldType} {v : Value} (hv : v.isRef = true) : fits (.array t) v = true := by rcases XT.refc hv with rfl | ⟨_, rfl⟩ <;> rfl
section Walk
variable {tb : Tables} {p : Program} {l : Launch} {e : Env} {R : Room} {s : State} {m : MethodId} {args : Array Value} {below : List Frame} {meth : Method} {c : Code} {T T' : State} {locs : List Loc} {cells slots : Nat} {Z : State} {a0 : Array Value} {h : Heap} {F : Outcome → State → Prop} {g g' : JFrame} {Q : Option Value → Heap → List Loc → Prop}
theorem Go.st (st : ∀ t, Steps tb e below (T'.setTop g') t → Steps tb e below (T.setTop g) t) (k : Go tb e below F T' g') : Go tb e below F T g := by
  obtain ⟨a, b, q, r⟩ := k; exact ⟨a, b, st _ q, r⟩
theorem Go.tr (st : Steps tb e below (T.setTop g) (T'.setTop g')) (k : Go tb e below F T' g') : Go tb e below F T g := by
  obtain ⟨a, b, q, r⟩ := k; exact ⟨a, b, st.trans q, r⟩
theorem Go.cast (q : g = g') (k : Go tb e below F T g') : Go tb e below F T g := q ▸ k
theorem MetQ.body {y : MethodName} {bytes : ByteArray} {maxL : Nat} {ret : Option FieldType} {ws : List Jvm.Cond} {rm : Room} {as' : Array Value} (hp : plainFor y = true)
    (k : ∀ (p : Program) (e : Env) (s : State) (m : MethodId) (below : List Frame) (meth : Method) (c : Code) (s₁ : State), p.tables.exec = Jvm.exec → c.code = bytes → c.maxLocals = maxL → s.vm.findClass y.cls = some m.cls → meth.name = y.name → meth.sig.returnType = ret → meth.locks = false →
      Z.Warmed39 s.vm → s₁.heap = h → Stand p l e rm s m as' below meth c s₁ [] 0 0 → Go p.tables e below (Fin s Q rm.cells rm.slots) s₁ (entryFrame m as' maxL)) : MetQ l Z y bytes maxL ret ws rm as' h Q := by
  refine MetFree.of_bodySF hp hisR ?_
  intro p e s m args below meth c s₁ Bd hml0 hP hK
  obtain ⟨rfl, hZ, hh⟩ := hP
  exact k p e s m below meth c s₁ Bd.exec Bd.bytes hml0 (findClass_of_methodNamed Bd.named) (name_of_methodNamed Bd.named Bd.method).1 Bd.returns (BodyLoose.notSynchronized Bd) hZ (by rw [← hh, Bd.state]; rfl) (Stand.of_body Bd)
theorem Go.retI (X : Stand p l e R s m args below meth c T locs cells slots) (hx : p.tables.exec = Jvm.exec) (hlk : meth.locks = false) (hret : meth.sig.returnType = some .int) {pc : Nat} {Ls : Array Slot} {z : Int32} {rest : List Value} (hd : decode c.code pc = .ok (.ireturn, 1)) {rc rs : Nat} (hc : cells ≤ rc) (hs : slots ≤ rs) (hq : Q (some (.int z)) T.heap locs) :
    Go p.tables e below (Fin s Q rc rs) T (mkF m pc Ls (.int z :: rest)) := by
  obtain ⟨fs, hl, hrun, hended, hW, hsame⟩ := X.leave (v := some (.int z)) (fun h => by rw [hret] at h; cases h) hlk
  refine ⟨_, _, ?_, hrun, hended, _, _, rfl, hq, ⟨_, rfl⟩, hW, hsame.mono hc hs⟩
  have hm' : T.vm.method? m = some meth := X.method'
  have hn : narrow .int (.int z) = .int z := rfl
  show Steps p.tables e below (T.setTop { method := m, pc := pc, locals := Ls, stack := _ :: rest, locked := none }) _
  jvm_step X.here [X.here.top, hx, hd, hm', hret, hn]
  first | (intro acts; rw [hl _ acts rfl rfl rfl]) | rw [hl _ _ rfl rfl rfl]
  exact Steps.refl _
theorem Go.retN (X : Stand p l e R s m args below meth c T locs cells slots) (hx : p.tables.exec = Jvm.exec) (hlk : meth.locks = false) {t : FieldType} (hret : meth.sig.returnType = some t) (ht : t = .boolean ∨ t = .byte ∨ t = .char ∨ t = .short) {pc : Nat} {Ls : Array Slot} {z : Int32} {rest : List Value} (hd : decode c.code pc = .ok (.ireturn, 1)) {rc rs : Nat} (hc : cells ≤ rc) (hs : slots ≤ rs) (hq : Q (some (.int (nar t z))) T.heap locs) :
    Go p.tables e below (Fin s Q rc rs) T (mkF m pc Ls (.int z :: rest)) := by
  obtain ⟨fs, hl, hrun, hended, hW, hsame⟩ := X.leave (v := some (.int (nar t z))) (fun h => by rw [hret] at h; cases h) hlk
  exact ⟨_, _, Jvm.RoadKit.retN X hx hret ht hd hl, hrun, hended, _, _, rfl, hq, ⟨_, rfl⟩, hW, hsame.mono hc hs⟩
theorem Go.retJ (X : Stand p l e R s m args below meth c T locs cells slots) (hx : p.tables.exec = Jvm.exec) (hlk : meth.locks = false) (hret : meth.sig.returnType = some .long) {pc : Nat} {Ls : Array Slot} {z : Int64} (hd : decode c.code pc = .ok (.lreturn, 1)) {rc rs : Nat} (hc : cells ≤ rc) (hs : slots ≤ rs) (hq : Q (some (.long z)) T.heap locs) :
    Go p.tables e below (Fin s Q rc rs) T (mkF m pc Ls [.long z]) := by
  obtain ⟨fs, hl, hrun, hended, hW, hsame⟩ := X.leave (v := some (.long z)) (fun h => by rw [hret] at h; cases h) hlk
  exact ⟨_, _, X.lreturnOut hx hret hd hl, hrun, hended, _, _, rfl, hq, ⟨_, rfl⟩, hW, hsame.mono hc hs⟩
theorem Go.retA (X : Stand p l e R s m args below meth c T locs cells slots) (hx : p.tables.exec = Jvm.exec) (hlk : meth.locks = false) {t : FieldType} (hret : meth.sig.returnType = some t) (ht : t.isReference = true) {pc : Nat} {Ls : Array Slot} {w : Value} (hw : w.isRef = true) (hd : decode c.code pc = .ok (.areturn, 1)) {rc rs : Nat} (hc : cells ≤ rc) (hs : slots ≤ rs) (hq : Q (some w) T.heap locs) :
    Go p.tables e below (Fin s Q rc rs) T (mkF m pc Ls [w]) := by
  obtain ⟨fs, hl, hrun, hended, hW, hsame⟩ := X.leave (v := some w) (fun h => by rw [hret] at h; cases h) hlk
  exact ⟨_, _, X.areturnOut hx hw hret ht hd hl, hrun, hended, _, _, rfl, hq, ⟨_, rfl⟩, hW, hsame.mono hc hs⟩
theorem Go.retV (X : Stand p l e R s m args below meth c T locs cells slots) (hx : p.tables.exec = Jvm.exec) (hlk : meth.locks = false) (hret : meth.sig.returnType = none) {pc : Nat} {Ls : Array Slot} (hd : decode c.code pc = .ok (.return_, 1)) {rc rs : Nat} (hc : cells ≤ rc) (hs : slots ≤ rs) (hq : Q none T.heap locs) :
    Go p.tables e below (Fin s Q rc rs) T (mkF m pc Ls []) := by
  obtain ⟨fs, hl, hrun, hended, hW, hsame⟩ := X.leave (v := none) (fun _ => rfl) hlk
  exact ⟨_, _, X.returnOut hx hret hd hl, hrun, hended, _, _, rfl, hq, ⟨_, rfl⟩, hW, hsame.mono hc hs⟩
/-- a static call by its contract -/
theorem Go.callS (X : Stand p l e R s m args below meth c T locs cells slots) (hx : p.tables.exec = Jvm.exec) (hZ : Z.Warmed39 s.vm) {own : String} (hown : s.vm.findClass own = some m.cls) {index : Nat} {y : MethodName} {bytes : ByteArray} {maxL : Nat} {ret : Option FieldType} {rm : Room} {W : Nat} {argsL rest : List Value} {Qc : Option Value → Heap → List Loc → Prop}
    (w1 : (Jvm.Cond.methodLink own index y).before a0 Z = true) (w2 : (Jvm.Cond.static y).before a0 Z = true) (w3 : (Jvm.Cond.initialized y.cls).before a0 Z = true) (w4 : (Jvm.Cond.code y bytes maxL ret).before a0 Z = true) (hy : y.cls ≠ "java/lang/invoke/MethodHandle" ∧ y.cls ≠ "java/lang/invoke/VarHandle")
    (eT : T.heap = h) (hM : MetQ l Z y bytes maxL ret [] rm argsL.toArray h Qc) (hf : rm.frames + 1 ≤ R.frames) (hl : W + (maxL + 11) + rm.locals ≤ R.locals) (hc : cells + rm.cells ≤ R.cells) (hs : slots + rm.slots ≤ R.slots)
    (hg : g.method = m) (hsize : g.locals.size = c.maxLocals) (hlen : ∀ sig, parseMethodDescriptor y.desc = some sig → argsL.length = sig.parameters.length) (hstack : g.stack = argsL.reverse ++ rest) (hW : 2 * g.monitorRoom + (rest.map fun v => v.category).sum ≤ W) (hdg : decode c.code g.pc = .ok (.invokestatic index, 3))
    (k : ∀ (v : Option Value) (T' : State) (L : List Loc), Stand p l e R s m args below meth c T' (locs ++ L) (cells + rm.cells) (slots + rm.slots) → Qc v T'.heap L → Go p.tables e below F T' { g with pc := g.pc + 3, stack := v.toList ++ rest }) : Go p.tables e below F T g := by
  obtain ⟨v, vm1, ⟨T', L', c', n'⟩, -, X', ⟨L, hQ, e1, e2, e3⟩, st⟩ := Jvm.LawKit.callS X hx (y := y) hown (mvT hZ w1) (mvT hZ w2) (mvT hZ w3) (mvT hZ w4) hy (backOf (W := W) hM hZ w4 w3 hf hl) hg hsize hlen hstack hW hdg (fun _ _ => ⟨rfl, eT, hc, hs⟩)
  dsimp only [Pt.U, Pt.locs, Pt.cells, Pt.slots] at X' e1 e2 e3 st hQ
  subst e1 e2 e3
  exact Go.st st (k v T' L X' hQ)
/-- a pure static call by its contract -/
theorem Go.callP (X : Stand p l e R s m args below meth c T locs cells slots) (hx : p.tables.exec = Jvm.exec) (hZ : Z.Warmed39 s.vm) {own : String} (hown : s.vm.findClass own = some m.cls) {index : Nat} {y : MethodName} {bytes : ByteArray} {maxL : Nat} {ret : Option FieldType} {fr lo W : Nat} {argsL rest : List Value} {w : Value}
    (w1 : (Jvm.Cond.methodLink own index y).before a0 Z = true) (w2 : (Jvm.Cond.static y).before a0 Z = true) (w3 : (Jvm.Cond.initialized y.cls).before a0 Z = true) (w4 : (Jvm.Cond.code y bytes maxL ret).before a0 Z = true) (hy : y.cls ≠ "java/lang/invoke/MethodHandle" ∧ y.cls ≠ "java/lang/invoke/VarHandle")
    (eT : T.heap = h) (hM : MetQ l Z y bytes maxL ret [] ({ frames := fr, cells := 0, slots := 0, locals := lo } : Room) argsL.toArray h (PQ w h)) (hf : fr + 1 ≤ R.frames) (hl : W + (maxL + 11) + lo ≤ R.locals) (hc : cells ≤ R.cells) (hs : slots ≤ R.slots)
    (hg : g.method = m) (hsize : g.locals.size = c.maxLocals) (hlen : ∀ sig, parseMethodDescriptor y.desc = some sig → argsL.length = sig.parameters.length) (hstack : g.stack = argsL.reverse ++ rest) (hW : 2 * g.monitorRoom + (rest.map fun v => v.category).sum ≤ W) (hdg : decode c.code g.pc = .ok (.invokestatic index, 3))
    (k : ∀ (T' : State), Stand p l e R s m args below meth c T' locs cells slots → T'.heap = h → Go p.tables e below F T' { g with pc := g.pc + 3, stack := w :: rest }) : Go p.tables e below F T g := by
  refine Go.callS X hx hZ hown w1 w2 w3 w4 hy eT hM hf hl hc hs hg hsize hlen hstack hW hdg fun v T' L X' q => ?_
  obtain ⟨rfl, rfl, e'⟩ := q
  rw [List.append_nil] at X'
  exact k T' X' e'
/-- an instance call by its contract; the receiver is exactly a C -/
theorem Go.callV (X : Stand p l e R s m args below meth c T locs cells slots) (hx : p.tables.exec = Jvm.exec) (hZ : Z.Warmed39 s.vm) {own : String} (hown : s.vm.findClass own = some m.cls) {index : Nat} {y : MethodName} {C : String} {bytes : ByteArray} {maxL : Nat} {ret : Option FieldType} {rm : Room} {W : Nat} {argsL rest : List Value} {Qc : Option Value → Heap → List Loc → Prop}
    (w1 : (Jvm.Cond.methodLink own index y).before a0 Z = true) (w2 : (Jvm.Cond.declares y).before a0 Z = true) (w5 : (Jvm.Cond.selects C y y).before a0 Z = true) (w6 : (Jvm.Cond.instanceMethod y).before a0 Z = true) (w3 : (Jvm.Cond.initialized y.cls).before a0 Z = true) (w4 : (Jvm.Cond.code y bytes maxL ret).before a0 Z = true) (hy : y.cls ≠ "java/lang/invoke/MethodHandle" ∧ y.cls ≠ "java/lang/invoke/VarHandle") (hcy : C = y.cls)
    (eT : T.heap = h) {b : Addr} (E : Exa Z h b C) (hM : MetQ l Z y bytes maxL ret [] rm (.ref b :: argsL).toArray h Qc) (hf : rm.frames + 1 ≤ R.frames) (hl : W + (maxL + 11) + rm.locals ≤ R.locals) (hc : cells + rm.cells ≤ R.cells) (hs : slots + rm.slots ≤ R.slots)
    (hg : g.method = m) (hsize : g.locals.size = c.maxLocals) (hlen : ∀ sig, parseMethodDescriptor y.desc = some sig → argsL.length = sig.parameters.length) (hstack : g.stack = argsL.reverse ++ .ref b :: rest) (hW : 2 * g.monitorRoom + (rest.map fun v => v.category).sum ≤ W) (hdg : decode c.code g.pc = .ok (.invokevirtual index, 3))
    (k : ∀ (v : Option Value) (T' : State) (L : List Loc), Stand p l e R s m args below meth c T' (locs ++ L) (cells + rm.cells) (slots + rm.slots) → Qc v T'.heap L → Go p.tables e below F T' { g with pc := g.pc + 3, stack := v.toList ++ rest }) : Go p.tables e below F T g := by
  subst hcy
  obtain ⟨cq, kq, qa, qb, qc⟩ := isOf hZ eT E
  obtain ⟨v, vm1, ⟨T', L', c', n'⟩, -, X', ⟨L, hQ, e1, e2, e3⟩, st⟩ := X.virtualBack hx (y := y) (z := y) hown (mvT hZ w1) (mvT hZ w2) (notFace_of_selects (args := #[]) (mvT hZ w5)) (mvT hZ w5) (mvT hZ w6) hy (backOf (W := W) hM hZ w4 w3 hf hl) qa qc hg hsize (Steps.refl _) hlen hstack hW hdg (fun _ _ => ⟨rfl, eT, hc, hs⟩)
  dsimp only [Pt.U, Pt.locs, Pt.cells, Pt.slots] at X' e1 e2 e3 st hQ
  subst e1 e2 e3
  exact Go.tr st (k v T' L X' hQ)
/-- a constructor by its contract -/
theorem Go.callC (X : Stand p l e R s m args below meth c T locs cells slots) (hx : p.tables.exec = Jvm.exec) (hZ : Z.Warmed39 s.vm) {own : String} (hown : s.vm.findClass own = some m.cls) {index : Nat} {y : MethodName} {bytes : ByteArray} {maxL : Nat} {rm : Room} {W : Nat} {argsL rest : List Value} {Qc : Option Value → Heap → List Loc → Prop} (hy1 : y.name = "<init>")
    (w1 : (Jvm.Cond.methodLink own index y).before a0 Z = true) (w2 : (Jvm.Cond.instanceMethod y).before a0 Z = true) (w3 : (Jvm.Cond.initialized y.cls).before a0 Z = true) (w4 : (Jvm.Cond.code y bytes maxL none).before a0 Z = true) (hy : y.cls ≠ "java/lang/invoke/MethodHandle" ∧ y.cls ≠ "java/lang/invoke/VarHandle")
    (eT : T.heap = h) {b : Addr} (hM : MetQ l Z y bytes maxL none [] rm (.ref b :: argsL).toArray h Qc) (hf : rm.frames + 1 ≤ R.frames) (hl : W + (maxL + 11) + rm.locals ≤ R.locals) (hc : cells + rm.cells ≤ R.cells) (hs : slots + rm.slots ≤ R.slots)
    (hg : g.method = m) (hsize : g.locals.size = c.maxLocals) (hlen : ∀ sig, parseMethodDescriptor y.desc = some sig → argsL.length = sig.parameters.length) (hstack : g.stack = argsL.reverse ++ .ref b :: rest) (hW : 2 * g.monitorRoom + (rest.map fun v => v.category).sum ≤ W) (hdg : decode c.code g.pc = .ok (.invokespecial index, 3))
    (k : ∀ (v : Option Value) (T' : State) (L : List Loc), Stand p l e R s m args below meth c T' (locs ++ L) (cells + rm.cells) (slots + rm.slots) → Qc v T'.heap L → Go p.tables e below F T' { g with pc := g.pc + 3, stack := v.toList ++ rest }) : Go p.tables e below F T g := by
  obtain ⟨v, vm1, ⟨T', L', c', n'⟩, -, X', ⟨L, hQ, e1, e2, e3⟩, st⟩ := X.specialBack hx (y := y) hy1 hown (mvT hZ w1) (mvT hZ w2) (mvT hZ w4) hy (backOf (W := W) hM hZ w4 w3 hf hl) hg hsize (Steps.refl _) hlen hstack hW hdg (fun _ _ => ⟨rfl, eT, hc, hs⟩)
  dsimp only [Pt.U, Pt.locs, Pt.cells, Pt.slots] at X' e1 e2 e3 st hQ
  subst e1 e2 e3
  exact Go.tr st (k v T' L X' hQ)
end Walk
def own_si : List Value := [(.long (1 : Int64)), (.long (96 : Int64)), (.long (1536 : Int64)), (.long (24576 : Int64)), (.long (393216 : Int64))]
theorem pd_0 : parseMethodDescriptor "(J)J" = some ⟨[.long], some .long⟩ := by decide +kernel
theorem d5_0 : decode jdk_29_method_61_code 0 = .ok (.lload_n 0, 1) := by decide +kernel
theorem d5_1 : decode jdk_29_method_61_code 1 = .ok (.lconst 0, 1) := by decide +kernel
theorem d5_2 : decode jdk_29_method_61_code 2 = .ok (.lcmp, 1) := by decide +kernel
theorem d5_3 : decode jdk_29_method_61_code 3 = .ok (.ifCond .ge 8, 3) := by decide +kernel
theorem d5_6 : decode jdk_29_method_61_code 6 = .ok (.lload_n 0, 1) := by decide +kernel
theorem d5_7 : decode jdk_29_method_61_code 7 = .ok (.lneg, 1) := by decide +kernel
theorem d5_8 : decode jdk_29_method_61_code 8 = .ok (.goto 4, 3) := by decide +kernel
theorem d5_11 : decode jdk_29_method_61_code 11 = .ok (.lload_n 0, 1) := by decide +kernel
theorem d5_12 : decode jdk_29_method_61_code 12 = .ok (.lreturn, 1) := by decide +kernel
def f5 (p0 : Int64) : Int64 := (if p0 < (0 : Int64) then (-p0) else p0)
theorem ef_rm5 (m : MethodId) (p0 : Int64)  : entryFrame m #[(.long p0)] 2 = mkF m 0 #[.val (.long p0), .second] [] := by first | (simp [entryFrame, mkF, argsToLocals, Value.category]; done) | rfl
set_option maxRecDepth 65536 in
set_option maxHeartbeats 40000000 in
theorem rm5 (l : Launch) (Z : State) (a0 : Array Value) (hw : ∀ d ∈ tables_1, d.before a0 Z = true) (p0 : Int64)  (h0 : Heap)  :
    MetQ l Z (⟨"java/lang/Math", "abs", "(J)J"⟩ : MethodName) jdk_29_method_61_code 2 (some .long) [] ({ frames := 0, cells := 0, slots := 0, locals := 0 } : Room) #[(.long p0)] h0 (PQ (.long (f5 p0)) h0) := by
  refine MetQ.body (Jvm.Free.JP.mathPlain rfl (by decide +kernel)) fun p e s m below meth c s₁ hx hby hml hown hnm hret hlk hZ e0 X0 => Go.cast (ef_rm5 m p0) ?_
  refine Go.st (T' := s₁) (g' := (mkF m 1 #[.val (.long p0), .second] [(.long p0)])) (fun _ hr => XT.lloadN X0.here hx rfl (hb hby d5_0) rfl hr) ?_
  refine Go.st (T' := s₁) (g' := (mkF m 2 #[.val (.long p0), .second] [(.long (0 : Int64)), (.long p0)])) (fun _ hr => XT.lconstV X0.here hx rfl (0 : Int64) (hb hby d5_1) (by decide) hr) ?_
  refine Go.st (T' := s₁) (g' := (mkF m 3 #[.val (.long p0), .second] [(.int (XT.cmpL p0 (0 : Int64)))])) (fun _ hr => XT.lcmp X0.here hx rfl (hb hby d5_2) rfl hr) ?_
  by_cases c3_1 : p0 < (0 : Int64)
  · refine Go.st (T' := s₁) (g' := (mkF m 6 #[.val (.long p0), .second] [])) (fun _ hr => XS.ifNo X0.here hx rfl (hb hby d5_3) rfl (XT.ll_ge_f c3_1) hr) ?_
    refine Go.st (T' := s₁) (g' := (mkF m 7 #[.val (.long p0), .second] [(.long p0)])) (fun _ hr => XT.lloadN X0.here hx rfl (hb hby d5_6) rfl hr) ?_
    refine Go.st (T' := s₁) (g' := (mkF m 8 #[.val (.long p0), .second] [(.long (-p0))])) (fun _ hr => XT.lneg X0.here hx rfl (hb hby d5_7) rfl hr) ?_
    refine Go.st (T' := s₁) (g' := (mkF m 12 #[.val (.long p0), .second] [(.long (-p0))])) (fun _ hr => XS.goto X0.here hx rfl (pc0 := 8) (pc' := 12) rfl (hb hby d5_8) (by decide) (by decide) hr) ?_
    exact Go.retJ X0 hx hlk hret (hb hby d5_12) (Nat.zero_le _) (Nat.zero_le _) ⟨congrArg (fun z => some (Value.long z)) (by simp only [f5, if_pos c3_1]), rfl, e0⟩
  · refine Go.st (T' := s₁) (g' := (mkF m 11 #[.val (.long p0), .second] [])) (fun _ hr => XS.ifYes X0.here hx rfl (pc0 := 3) (pc' := 11) rfl (hb hby d5_3) rfl (XT.ll_ge_t c3_1) (by decide) (by decide) hr) ?_
    refine Go.st (T' := s₁) (g' := (mkF m 12 #[.val (.long p0), .second] [(.long p0)])) (fun _ hr => XT.lloadN X0.here hx rfl (hb hby d5_11) rfl hr) ?_
    exact Go.retJ X0 hx hlk hret (hb hby d5_12) (Nat.zero_le _) (Nat.zero_le _) ⟨congrArg (fun z => some (Value.long z)) (by simp only [f5, if_neg c3_1]), rfl, e0⟩
theorem pd_1 : parseMethodDescriptor "(JJ)J" = some ⟨[.long, .long], some .long⟩ := by decide +kernel
theorem d3_0 : decode jdk_29_method_49_code 0 = .ok (.lload_n 0, 1) := by decide +kernel
theorem d3_1 : decode jdk_29_method_49_code 1 = .ok (.lload_n 2, 1) := by decide +kernel
theorem d3_2 : decode jdk_29_method_49_code 2 = .ok (.ldiv, 1) := by decide +kernel
theorem d3_3 : decode jdk_29_method_49_code 3 = .ok (.lstore 4, 2) := by decide +kernel
theorem d3_5 : decode jdk_29_method_49_code 5 = .ok (.lload_n 0, 1) := by decide +kernel
theorem d3_6 : decode jdk_29_method_49_code 6 = .ok (.lload_n 2, 1) := by decide +kernel
theorem d3_7 : decode jdk_29_method_49_code 7 = .ok (.lxor, 1) := by decide +kernel
theorem d3_8 : decode jdk_29_method_49_code 8 = .ok (.lconst 0, 1) := by decide +kernel
theorem d3_9 : decode jdk_29_method_49_code 9 = .ok (.lcmp, 1) := by decide +kernel
theorem d3_10 : decode jdk_29_method_49_code 10 = .ok (.ifCond .ge 17, 3) := by decide +kernel
theorem d3_13 : decode jdk_29_method_49_code 13 = .ok (.lload 4, 2) := by decide +kernel
theorem d3_15 : decode jdk_29_method_49_code 15 = .ok (.lload_n 2, 1) := by decide +kernel
theorem d3_16 : decode jdk_29_method_49_code 16 = .ok (.lmul, 1) := by decide +kernel
theorem d3_17 : decode jdk_29_method_49_code 17 = .ok (.lload_n 0, 1) := by decide +kernel
theorem d3_18 : decode jdk_29_method_49_code 18 = .ok (.lcmp, 1) := by decide +kernel
theorem d3_19 : decode jdk_29_method_49_code 19 = .ok (.ifCond .eq 8, 3) := by decide +kernel
theorem d3_22 : decode jdk_29_method_49_code 22 = .ok (.lload 4, 2) := by decide +kernel
theorem d3_24 : decode jdk_29_method_49_code 24 = .ok (.lconst 1, 1) := by decide +kernel
theorem d3_25 : decode jdk_29_method_49_code 25 = .ok (.lsub, 1) := by decide +kernel
theorem d3_26 : decode jdk_29_method_49_code 26 = .ok (.lreturn, 1) := by decide +kernel
theorem d3_27 : decode jdk_29_method_49_code 27 = .ok (.lload 4, 2) := by decide +kernel
theorem d3_29 : decode jdk_29_method_49_code 29 = .ok (.lreturn, 1) := by decide +kernel
def f3 (p0 : Int64) (p1 : Int64) : Int64 := (if (p0 ^^^ p1) < (0 : Int64) then (if ((p0 / p1) * p1) = p0 then (p0 / p1) else ((p0 / p1) - (1 : Int64))) else (p0 / p1))
theorem ef_rm3 (m : MethodId) (p0 : Int64) (p1 : Int64)  : entryFrame m #[(.long p0), (.long p1)] 6 = mkF m 0 #[.val (.long p0), .second, .val (.long p1), .second, .unset, .unset] [] := by first | (simp [entryFrame, mkF, argsToLocals, Value.category]; done) | rfl
set_option maxRecDepth 65536 in
set_option maxHeartbeats 40000000 in
theorem rm3 (l : Launch) (Z : State) (a0 : Array Value) (hw : ∀ d ∈ tables_1, d.before a0 Z = true) (p0 : Int64) (p1 : Int64)  (h0 : Heap) (hnz : ¬ p1 = (0 : Int64)) :
    MetQ l Z (⟨"java/lang/Math", "floorDiv", "(JJ)J"⟩ : MethodName) jdk_29_method_49_code 6 (some .long) [] ({ frames := 0, cells := 0, slots := 0, locals := 0 } : Room) #[(.long p0), (.long p1)] h0 (PQ (.long (f3 p0 p1)) h0) := by
  refine MetQ.body (Jvm.Free.JP.mathPlain rfl (by decide +kernel)) fun p e s m below meth c s₁ hx hby hml hown hnm hret hlk hZ e0 X0 => Go.cast (ef_rm3 m p0 p1) ?_
  refine Go.st (T' := s₁) (g' := (mkF m 1 #[.val (.long p0), .second, .val (.long p1), .second, .unset, .unset] [(.long p0)])) (fun _ hr => XT.lloadN X0.here hx rfl (hb hby d3_0) rfl hr) ?_
  refine Go.st (T' := s₁) (g' := (mkF m 2 #[.val (.long p0), .second, .val (.long p1), .second, .unset, .unset] [(.long p1), (.long p0)])) (fun _ hr => XT.lloadN X0.here hx rfl (hb hby d3_1) rfl hr) ?_
  refine Go.st (T' := s₁) (g' := (mkF m 3 #[.val (.long p0), .second, .val (.long p1), .second, .unset, .unset] [(.long (p0 / p1))])) (fun _ hr => XT.ldiv X0.here hx rfl (hb hby d3_2) rfl hnz hr) ?_
  refine Go.st (T' := s₁) (g' := (mkF m 5 #[.val (.long p0), .second, .val (.long p1), .second, .val (.long (p0 / p1)), .second] [])) (fun _ hr => XT.lstore X0.here hx rfl (hb hby d3_3) rfl (l' := #[.val (.long p0), .second, .val (.long p1), .second, .val (.long (p0 / p1)), .second]) rfl hr) ?_
  refine Go.st (T' := s₁) (g' := (mkF m 6 #[.val (.long p0), .second, .val (.long p1), .second, .val (.long (p0 / p1)), .second] [(.long p0)])) (fun _ hr => XT.lloadN X0.here hx rfl (hb hby d3_5) rfl hr) ?_
  refine Go.st (T' := s₁) (g' := (mkF m 7 #[.val (.long p0), .second, .val (.long p1), .second, .val (.long (p0 / p1)), .second] [(.long p1), (.long p0)])) (fun _ hr => XT.lloadN X0.here hx rfl (hb hby d3_6) rfl hr) ?_
  refine Go.st (T' := s₁) (g' := (mkF m 8 #[.val (.long p0), .second, .val (.long p1), .second, .val (.long (p0 / p1)), .second] [(.long (p0 ^^^ p1))])) (fun _ hr => XT.lxor X0.here hx rfl (hb hby d3_7) rfl hr) ?_
  refine Go.st (T' := s₁) (g' := (mkF m 9 #[.val (.long p0), .second, .val (.long p1), .second, .val (.long (p0 / p1)), .second] [(.long (0 : Int64)), (.long (p0 ^^^ p1))])) (fun _ hr => XT.lconstV X0.here hx rfl (0 : Int64) (hb hby d3_8) (by decide) hr) ?_
  refine Go.st (T' := s₁) (g' := (mkF m 10 #[.val (.long p0), .second, .val (.long p1), .second, .val (.long (p0 / p1)), .second] [(.int (XT.cmpL (p0 ^^^ p1) (0 : Int64)))])) (fun _ hr => XT.lcmp X0.here hx rfl (hb hby d3_9) rfl hr) ?_
  by_cases c10_1 : (p0 ^^^ p1) < (0 : Int64)
  · refine Go.st (T' := s₁) (g' := (mkF m 13 #[.val (.long p0), .second, .val (.long p1), .second, .val (.long (p0 / p1)), .second] [])) (fun _ hr => XS.ifNo X0.here hx rfl (hb hby d3_10) rfl (XT.ll_ge_f c10_1) hr) ?_
    refine Go.st (T' := s₁) (g' := (mkF m 15 #[.val (.long p0), .second, .val (.long p1), .second, .val (.long (p0 / p1)), .second] [(.long (p0 / p1))])) (fun _ hr => XT.lload X0.here hx rfl (hb hby d3_13) rfl hr) ?_
    refine Go.st (T' := s₁) (g' := (mkF m 16 #[.val (.long p0), .second, .val (.long p1), .second, .val (.long (p0 / p1)), .second] [(.long p1), (.long (p0 / p1))])) (fun _ hr => XT.lloadN X0.here hx rfl (hb hby d3_15) rfl hr) ?_
    refine Go.st (T' := s₁) (g' := (mkF m 17 #[.val (.long p0), .second, .val (.long p1), .second, .val (.long (p0 / p1)), .second] [(.long ((p0 / p1) * p1))])) (fun _ hr => XT.lmul X0.here hx rfl (hb hby d3_16) rfl hr) ?_
    refine Go.st (T' := s₁) (g' := (mkF m 18 #[.val (.long p0), .second, .val (.long p1), .second, .val (.long (p0 / p1)), .second] [(.long p0), (.long ((p0 / p1) * p1))])) (fun _ hr => XT.lloadN X0.here hx rfl (hb hby d3_17) rfl hr) ?_
    refine Go.st (T' := s₁) (g' := (mkF m 19 #[.val (.long p0), .second, .val (.long p1), .second, .val (.long (p0 / p1)), .second] [(.int (XT.cmpL ((p0 / p1) * p1) p0))])) (fun _ hr => XT.lcmp X0.here hx rfl (hb hby d3_18) rfl hr) ?_
    by_cases c19_2 : ((p0 / p1) * p1) = p0
    · refine Go.st (T' := s₁) (g' := (mkF m 27 #[.val (.long p0), .second, .val (.long p1), .second, .val (.long (p0 / p1)), .second] [])) (fun _ hr => XS.ifYes X0.here hx rfl (pc0 := 19) (pc' := 27) rfl (hb hby d3_19) rfl (XT.ll_eq_t c19_2) (by decide) (by decide) hr) ?_
      refine Go.st (T' := s₁) (g' := (mkF m 29 #[.val (.long p0), .second, .val (.long p1), .second, .val (.long (p0 / p1)), .second] [(.long (p0 / p1))])) (fun _ hr => XT.lload X0.here hx rfl (hb hby d3_27) rfl hr) ?_
      exact Go.retJ X0 hx hlk hret (hb hby d3_29) (by decide) (by decide) ⟨congrArg (fun z => some (Value.long z)) (by simp only [f3, if_pos c10_1, if_pos c19_2]), rfl, e0⟩
    · refine Go.st (T' := s₁) (g' := (mkF m 22 #[.val (.long p0), .second, .val (.long p1), .second, .val (.long (p0 / p1)), .second] [])) (fun _ hr => XS.ifNo X0.here hx rfl (hb hby d3_19) rfl (XT.ll_eq_f c19_2) hr) ?_
      refine Go.st (T' := s₁) (g' := (mkF m 24 #[.val (.long p0), .second, .val (.long p1), .second, .val (.long (p0 / p1)), .second] [(.long (p0 / p1))])) (fun _ hr => XT.lload X0.here hx rfl (hb hby d3_22) rfl hr) ?_
      refine Go.st (T' := s₁) (g' := (mkF m 25 #[.val (.long p0), .second, .val (.long p1), .second, .val (.long (p0 / p1)), .second] [(.long (1 : Int64)), (.long (p0 / p1))])) (fun _ hr => XT.lconstV X0.here hx rfl (1 : Int64) (hb hby d3_24) (by decide) hr) ?_
      refine Go.st (T' := s₁) (g' := (mkF m 26 #[.val (.long p0), .second, .val (.long p1), .second, .val (.long (p0 / p1)), .second] [(.long ((p0 / p1) - (1 : Int64)))])) (fun _ hr => XT.lsub X0.here hx rfl (hb hby d3_25) rfl hr) ?_
      exact Go.retJ X0 hx hlk hret (hb hby d3_26) (by decide) (by decide) ⟨congrArg (fun z => some (Value.long z)) (by simp only [f3, if_pos c10_1, if_neg c19_2]), rfl, e0⟩
  · refine Go.st (T' := s₁) (g' := (mkF m 27 #[.val (.long p0), .second, .val (.long p1), .second, .val (.long (p0 / p1)), .second] [])) (fun _ hr => XS.ifYes X0.here hx rfl (pc0 := 10) (pc' := 27) rfl (hb hby d3_10) rfl (XT.ll_ge_t c10_1) (by decide) (by decide) hr) ?_
    refine Go.st (T' := s₁) (g' := (mkF m 29 #[.val (.long p0), .second, .val (.long p1), .second, .val (.long (p0 / p1)), .second] [(.long (p0 / p1))])) (fun _ hr => XT.lload X0.here hx rfl (hb hby d3_27) rfl hr) ?_
    exact Go.retJ X0 hx hlk hret (hb hby d3_29) (by decide) (by decide) ⟨congrArg (fun z => some (Value.long z)) (by simp only [f3, if_neg c10_1]), rfl, e0⟩
/-! Math.floorDiv for a positive divisor is the floor; the products stay within a long -/
def own_R (x : Int64) : Prop := -4611686022722355200 ≤ x.toInt ∧ x.toInt ≤ 4611686022722355200
def own_L (x : Int64) : Prop := 0 < x.toInt ∧ x.toInt ≤ 4294967296
theorem own_fd {x y : Int64} (hx : own_R x) (hy : own_L y) : (f3 x y).toInt = x.toInt / y.toInt := by
  obtain ⟨x1, x2⟩ := hx
  obtain ⟨y1, y2⟩ := hy
  have k0 : (0 : Int64).toInt = 0 := by decide
  have k1 : (1 : Int64).toInt = 1 := by decide
  have d : (x / y).toInt = x.toInt.tdiv y.toInt := Jvm.Kit.i64_div (by omega)
  have hxor : (x ^^^ y) < (0 : Int64) ↔ x.toInt < 0 := by
    rw [XT.xor_neg64, XT.negI64, XT.negI64]
    constructor
    · intro h; by_cases c : x.toInt < 0
      · exact c
      · exact absurd ⟨fun q => absurd q c, fun q => absurd q (by omega)⟩ h
    · intro h q; exact absurd (q.mp h) (by omega)
  by_cases c : x.toInt < 0
  · -- a negative dividend
    have t : x.toInt.tdiv y.toInt = -((-x.toInt) / y.toInt) := by
      have h := Int.neg_tdiv (-x.toInt) y.toInt
      rw [Int.neg_neg] at h
      rw [h, Int.tdiv_eq_ediv_of_nonneg (by omega)]
    have q0 : 0 ≤ (-x.toInt) / y.toInt := Int.ediv_nonneg (by omega) (by omega)
    have q1 : (-x.toInt) / y.toInt ≤ -x.toInt := by
      apply Int.ediv_le_self; omega
    have em := Int.mul_ediv_add_emod (-x.toInt) y.toInt
    have m0 := Int.emod_nonneg (-x.toInt) (show y.toInt ≠ 0 by omega)
    have m1 := Int.emod_lt_of_pos (-x.toInt) y1
    have prod : ((x / y) * y).toInt = -((-x.toInt) / y.toInt) * y.toInt := by
      have b : ((-x.toInt) / y.toInt) * y.toInt ≤ -x.toInt := by rw [Int.mul_comm]; omega
      have b0 : 0 ≤ ((-x.toInt) / y.toInt) * y.toInt := Int.mul_nonneg q0 (by omega)
      rw [Jvm.Kit.i64_mul (by rw [d, t, Int.neg_mul]; omega) (by rw [d, t, Int.neg_mul]; omega), d, t]
    unfold f3
    rw [if_pos (hxor.mpr c)]
    have floor : ∀ r : Int, y.toInt * r ≤ x.toInt → x.toInt < y.toInt * r + y.toInt → x.toInt / y.toInt = r := fun r h1 h2 => by
      have e : x.toInt = (x.toInt - y.toInt * r) + y.toInt * r := by omega
      rw [e, Int.add_mul_ediv_left _ _ (by omega), Int.ediv_eq_zero_of_lt (by omega) (by omega)]; omega
    by_cases z : ((x / y) * y) = x
    · rw [if_pos z, d, t]
      have z' := congrArg Int64.toInt z
      rw [prod, Int.neg_mul, Int.mul_comm] at z'
      exact (floor _ (by rw [Int.mul_neg]; omega) (by rw [Int.mul_neg]; omega)).symm
    · rw [if_neg z, Jvm.Kit.i64_sub (by rw [d, t, k1]; omega) (by rw [d, t, k1]; omega), d, t, k1]
      have z' : (-x.toInt) % y.toInt ≠ 0 := fun q => z (Int64.toInt_inj.mp (by rw [prod, Int.neg_mul, Int.mul_comm]; omega))
      refine (floor _ ?_ ?_).symm
      · rw [Int.mul_sub, Int.mul_neg]; omega
      · rw [Int.mul_sub, Int.mul_neg]; omega
  · unfold f3
    rw [if_neg (fun q => c (hxor.mp q)), d, Int.tdiv_eq_ediv_of_nonneg (by omega)]
theorem own_prod {x y : Int64} (hx : own_R x) (hy : own_L y) : ((f3 x y) * y).toInt = x.toInt / y.toInt * y.toInt ∧ x.toInt - y.toInt < x.toInt / y.toInt * y.toInt ∧ x.toInt / y.toInt * y.toInt ≤ x.toInt := by
  have f := own_fd hx hy
  obtain ⟨x1, x2⟩ := hx
  obtain ⟨y1, y2⟩ := hy
  have em := Int.mul_ediv_add_emod x.toInt y.toInt
  have m0 := Int.emod_nonneg x.toInt (show y.toInt ≠ 0 by omega)
  have m1 := Int.emod_lt_of_pos x.toInt y1
  rw [Int.mul_comm] at em
  refine ⟨?_, by omega, by omega⟩
  rw [Jvm.Kit.i64_mul (by rw [f]; omega) (by rw [f]; omega), f]
theorem own_nz {y : Int64} (hy : own_L y) : ¬ y = (0 : Int64) := fun q => by
  have k0 : (0 : Int64).toInt = 0 := by decide
  have := hy.1; rw [q, k0] at this; omega
theorem own_mx {x y : Int64} (hx : own_R x) (hy : own_L y) : ((f3 x y) * y) / y = f3 x y ∧ ¬ f3 x y = (-9223372036854775808 : Int64) := by
  have f := own_fd hx hy
  have p := own_prod hx hy
  obtain ⟨x1, x2⟩ := hx
  obtain ⟨y1, y2⟩ := hy
  have mn : (-9223372036854775808 : Int64).toInt = -9223372036854775808 := by decide
  have lo : -4611686022722355200 - 4294967296 ≤ x.toInt / y.toInt := by
    have e : x.toInt / y.toInt * y.toInt = y.toInt * (x.toInt / y.toInt) := Int.mul_comm ..
    by_cases c : 0 ≤ x.toInt / y.toInt
    · omega
    · have : x.toInt / y.toInt * y.toInt ≤ x.toInt / y.toInt * 1 := Int.mul_le_mul_of_nonpos_left (by omega) (by omega)
      omega
  constructor
  · exact XT.mulDiv64 (show XT.fits64 _ from by rw [f]; exact ⟨by omega, by omega⟩) (own_nz ⟨y1, y2⟩)
  · intro q
    rw [q, mn] at f; omega
theorem d4_0 : decode jdk_29_method_30_code 0 = .ok (.lload_n 0, 1) := by decide +kernel
theorem d4_1 : decode jdk_29_method_30_code 1 = .ok (.lload_n 2, 1) := by decide +kernel
theorem d4_2 : decode jdk_29_method_30_code 2 = .ok (.lmul, 1) := by decide +kernel
theorem d4_3 : decode jdk_29_method_30_code 3 = .ok (.lstore 4, 2) := by decide +kernel
theorem d4_5 : decode jdk_29_method_30_code 5 = .ok (.lload_n 0, 1) := by decide +kernel
theorem d4_6 : decode jdk_29_method_30_code 6 = .ok (.invokestatic 122, 3) := by decide +kernel
theorem d4_9 : decode jdk_29_method_30_code 9 = .ok (.lstore 6, 2) := by decide +kernel
theorem d4_11 : decode jdk_29_method_30_code 11 = .ok (.lload_n 2, 1) := by decide +kernel
theorem d4_12 : decode jdk_29_method_30_code 12 = .ok (.invokestatic 122, 3) := by decide +kernel
theorem d4_15 : decode jdk_29_method_30_code 15 = .ok (.lstore 8, 2) := by decide +kernel
theorem d4_17 : decode jdk_29_method_30_code 17 = .ok (.lload 6, 2) := by decide +kernel
theorem d4_19 : decode jdk_29_method_30_code 19 = .ok (.lload 8, 2) := by decide +kernel
theorem d4_21 : decode jdk_29_method_30_code 21 = .ok (.lor, 1) := by decide +kernel
theorem d4_22 : decode jdk_29_method_30_code 22 = .ok (.bipush 31, 2) := by decide +kernel
theorem d4_24 : decode jdk_29_method_30_code 24 = .ok (.lushr, 1) := by decide +kernel
theorem d4_25 : decode jdk_29_method_30_code 25 = .ok (.lconst 0, 1) := by decide +kernel
theorem d4_26 : decode jdk_29_method_30_code 26 = .ok (.lcmp, 1) := by decide +kernel
theorem d4_27 : decode jdk_29_method_30_code 27 = .ok (.ifCond .eq 44, 3) := by decide +kernel
theorem d4_30 : decode jdk_29_method_30_code 30 = .ok (.lload_n 2, 1) := by decide +kernel
theorem d4_31 : decode jdk_29_method_30_code 31 = .ok (.lconst 0, 1) := by decide +kernel
theorem d4_32 : decode jdk_29_method_30_code 32 = .ok (.lcmp, 1) := by decide +kernel
theorem d4_33 : decode jdk_29_method_30_code 33 = .ok (.ifCond .eq 12, 3) := by decide +kernel
theorem d4_36 : decode jdk_29_method_30_code 36 = .ok (.lload 4, 2) := by decide +kernel
theorem d4_38 : decode jdk_29_method_30_code 38 = .ok (.lload_n 2, 1) := by decide +kernel
theorem d4_39 : decode jdk_29_method_30_code 39 = .ok (.ldiv, 1) := by decide +kernel
theorem d4_40 : decode jdk_29_method_30_code 40 = .ok (.lload_n 0, 1) := by decide +kernel
theorem d4_41 : decode jdk_29_method_30_code 41 = .ok (.lcmp, 1) := by decide +kernel
theorem d4_42 : decode jdk_29_method_30_code 42 = .ok (.ifCond .ne 19, 3) := by decide +kernel
theorem d4_45 : decode jdk_29_method_30_code 45 = .ok (.lload_n 0, 1) := by decide +kernel
theorem d4_46 : decode jdk_29_method_30_code 46 = .ok (.ldc2_w 128, 3) := by decide +kernel
theorem d4_49 : decode jdk_29_method_30_code 49 = .ok (.lcmp, 1) := by decide +kernel
theorem d4_50 : decode jdk_29_method_30_code 50 = .ok (.ifCond .ne 21, 3) := by decide +kernel
theorem d4_53 : decode jdk_29_method_30_code 53 = .ok (.lload_n 2, 1) := by decide +kernel
theorem d4_54 : decode jdk_29_method_30_code 54 = .ok (.ldc2_w 130, 3) := by decide +kernel
theorem d4_57 : decode jdk_29_method_30_code 57 = .ok (.lcmp, 1) := by decide +kernel
theorem d4_58 : decode jdk_29_method_30_code 58 = .ok (.ifCond .ne 13, 3) := by decide +kernel
theorem d4_61 : decode jdk_29_method_30_code 61 = .ok (.new 109, 3) := by decide +kernel
theorem d4_64 : decode jdk_29_method_30_code 64 = .ok (.dup, 1) := by decide +kernel
theorem d4_65 : decode jdk_29_method_30_code 65 = .ok (.ldc 116, 2) := by decide +kernel
theorem d4_67 : decode jdk_29_method_30_code 67 = .ok (.invokespecial 113, 3) := by decide +kernel
theorem d4_70 : decode jdk_29_method_30_code 70 = .ok (.athrow, 1) := by decide +kernel
theorem d4_71 : decode jdk_29_method_30_code 71 = .ok (.lload 4, 2) := by decide +kernel
theorem d4_73 : decode jdk_29_method_30_code 73 = .ok (.lreturn, 1) := by decide +kernel
def f4 (p0 : Int64) (p1 : Int64) : Int64 := (p0 * p1)
theorem ef_rm4 (m : MethodId) (p0 : Int64) (p1 : Int64)  : entryFrame m #[(.long p0), (.long p1)] 10 = mkF m 0 #[.val (.long p0), .second, .val (.long p1), .second, .unset, .unset, .unset, .unset, .unset, .unset] [] := by first | (simp [entryFrame, mkF, argsToLocals, Value.category]; done) | rfl
set_option maxRecDepth 65536 in
set_option maxHeartbeats 40000000 in
theorem rm4 (l : Launch) (Z : State) (a0 : Array Value) (hw : ∀ d ∈ tables_1, d.before a0 Z = true) (p0 : Int64) (p1 : Int64)  (h0 : Heap) (h1 : ¬ p1 = (0 : Int64)) (h2 : ((p0 * p1) / p1) = p0) (h3 : ¬ p0 = (-9223372036854775808 : Int64)) :
    MetQ l Z (⟨"java/lang/Math", "multiplyExact", "(JJ)J"⟩ : MethodName) jdk_29_method_30_code 10 (some .long) [] ({ frames := 1, cells := 0, slots := 0, locals := 13 } : Room) #[(.long p0), (.long p1)] h0 (PQ (.long (f4 p0 p1)) h0) := by
  refine MetQ.body (Jvm.Free.JP.mathPlain rfl (by decide +kernel)) fun p e s m below meth c s₁ hx hby hml hown hnm hret hlk hZ e0 X0 => Go.cast (ef_rm4 m p0 p1) ?_
  refine Go.st (T' := s₁) (g' := (mkF m 1 #[.val (.long p0), .second, .val (.long p1), .second, .unset, .unset, .unset, .unset, .unset, .unset] [(.long p0)])) (fun _ hr => XT.lloadN X0.here hx rfl (hb hby d4_0) rfl hr) ?_
  refine Go.st (T' := s₁) (g' := (mkF m 2 #[.val (.long p0), .second, .val (.long p1), .second, .unset, .unset, .unset, .unset, .unset, .unset] [(.long p1), (.long p0)])) (fun _ hr => XT.lloadN X0.here hx rfl (hb hby d4_1) rfl hr) ?_
  refine Go.st (T' := s₁) (g' := (mkF m 3 #[.val (.long p0), .second, .val (.long p1), .second, .unset, .unset, .unset, .unset, .unset, .unset] [(.long (p0 * p1))])) (fun _ hr => XT.lmul X0.here hx rfl (hb hby d4_2) rfl hr) ?_
  refine Go.st (T' := s₁) (g' := (mkF m 5 #[.val (.long p0), .second, .val (.long p1), .second, .val (.long (p0 * p1)), .second, .unset, .unset, .unset, .unset] [])) (fun _ hr => XT.lstore X0.here hx rfl (hb hby d4_3) rfl (l' := #[.val (.long p0), .second, .val (.long p1), .second, .val (.long (p0 * p1)), .second, .unset, .unset, .unset, .unset]) rfl hr) ?_
  refine Go.st (T' := s₁) (g' := (mkF m 6 #[.val (.long p0), .second, .val (.long p1), .second, .val (.long (p0 * p1)), .second, .unset, .unset, .unset, .unset] [(.long p0)])) (fun _ hr => XT.lloadN X0.here hx rfl (hb hby d4_5) rfl hr) ?_
  refine Go.callP X0 hx hZ hown (W := 0) (hw _ (List.mem_of_getElem? (i := 28) rfl)) (hw _ (List.mem_of_getElem? (i := 29) rfl)) (hw _ (List.mem_of_getElem? (i := 23) rfl)) (hw _ (List.mem_of_getElem? (i := 30) rfl)) (by decide) e0 (rm5 l Z a0 hw p0 h0) (by decide) (by decide) (by decide) (by decide) (g := (mkF m 6 #[.val (.long p0), .second, .val (.long p1), .second, .val (.long (p0 * p1)), .second, .unset, .unset, .unset, .unset] [(.long p0)])) rfl (by rw [hml]; rfl) (argsL := [(.long p0)]) (rest := []) (lenOf pd_0 rfl) rfl (by show 2 * 0 + _ ≤ _; exact Nat.le_of_eq rfl) (hb hby d4_6) (fun T1 X1 e1 => ?_)
  show Go p.tables e below (Fin s (PQ (.long (f4 p0 p1)) h0) ({ frames := 1, cells := 0, slots := 0, locals := 13 } : Room).cells ({ frames := 1, cells := 0, slots := 0, locals := 13 } : Room).slots) T1 (mkF m 9 #[.val (.long p0), .second, .val (.long p1), .second, .val (.long (p0 * p1)), .second, .unset, .unset, .unset, .unset] [(.long (f5 p0))])
  refine Go.st (T' := T1) (g' := (mkF m 11 #[.val (.long p0), .second, .val (.long p1), .second, .val (.long (p0 * p1)), .second, .val (.long (f5 p0)), .second, .unset, .unset] [])) (fun _ hr => XT.lstore X1.here hx rfl (hb hby d4_9) rfl (l' := #[.val (.long p0), .second, .val (.long p1), .second, .val (.long (p0 * p1)), .second, .val (.long (f5 p0)), .second, .unset, .unset]) rfl hr) ?_
  refine Go.st (T' := T1) (g' := (mkF m 12 #[.val (.long p0), .second, .val (.long p1), .second, .val (.long (p0 * p1)), .second, .val (.long (f5 p0)), .second, .unset, .unset] [(.long p1)])) (fun _ hr => XT.lloadN X1.here hx rfl (hb hby d4_11) rfl hr) ?_
  refine Go.callP X1 hx hZ hown (W := 0) (hw _ (List.mem_of_getElem? (i := 28) rfl)) (hw _ (List.mem_of_getElem? (i := 29) rfl)) (hw _ (List.mem_of_getElem? (i := 23) rfl)) (hw _ (List.mem_of_getElem? (i := 30) rfl)) (by decide) e1 (rm5 l Z a0 hw p1 h0) (by decide) (by decide) (by decide) (by decide) (g := (mkF m 12 #[.val (.long p0), .second, .val (.long p1), .second, .val (.long (p0 * p1)), .second, .val (.long (f5 p0)), .second, .unset, .unset] [(.long p1)])) rfl (by rw [hml]; rfl) (argsL := [(.long p1)]) (rest := []) (lenOf pd_0 rfl) rfl (by show 2 * 0 + _ ≤ _; exact Nat.le_of_eq rfl) (hb hby d4_12) (fun T2 X2 e2 => ?_)
  show Go p.tables e below (Fin s (PQ (.long (f4 p0 p1)) h0) ({ frames := 1, cells := 0, slots := 0, locals := 13 } : Room).cells ({ frames := 1, cells := 0, slots := 0, locals := 13 } : Room).slots) T2 (mkF m 15 #[.val (.long p0), .second, .val (.long p1), .second, .val (.long (p0 * p1)), .second, .val (.long (f5 p0)), .second, .unset, .unset] [(.long (f5 p1))])
  refine Go.st (T' := T2) (g' := (mkF m 17 #[.val (.long p0), .second, .val (.long p1), .second, .val (.long (p0 * p1)), .second, .val (.long (f5 p0)), .second, .val (.long (f5 p1)), .second] [])) (fun _ hr => XT.lstore X2.here hx rfl (hb hby d4_15) rfl (l' := #[.val (.long p0), .second, .val (.long p1), .second, .val (.long (p0 * p1)), .second, .val (.long (f5 p0)), .second, .val (.long (f5 p1)), .second]) rfl hr) ?_
  refine Go.st (T' := T2) (g' := (mkF m 19 #[.val (.long p0), .second, .val (.long p1), .second, .val (.long (p0 * p1)), .second, .val (.long (f5 p0)), .second, .val (.long (f5 p1)), .second] [(.long (f5 p0))])) (fun _ hr => XT.lload X2.here hx rfl (hb hby d4_17) rfl hr) ?_
  refine Go.st (T' := T2) (g' := (mkF m 21 #[.val (.long p0), .second, .val (.long p1), .second, .val (.long (p0 * p1)), .second, .val (.long (f5 p0)), .second, .val (.long (f5 p1)), .second] [(.long (f5 p1)), (.long (f5 p0))])) (fun _ hr => XT.lload X2.here hx rfl (hb hby d4_19) rfl hr) ?_
  refine Go.st (T' := T2) (g' := (mkF m 22 #[.val (.long p0), .second, .val (.long p1), .second, .val (.long (p0 * p1)), .second, .val (.long (f5 p0)), .second, .val (.long (f5 p1)), .second] [(.long ((f5 p0) ||| (f5 p1)))])) (fun _ hr => XT.lor X2.here hx rfl (hb hby d4_21) rfl hr) ?_
  refine Go.st (T' := T2) (g' := (mkF m 24 #[.val (.long p0), .second, .val (.long p1), .second, .val (.long (p0 * p1)), .second, .val (.long (f5 p0)), .second, .val (.long (f5 p1)), .second] [(.int (31 : Int32)), (.long ((f5 p0) ||| (f5 p1)))])) (fun _ hr => XT.bipushV X2.here hx rfl (31 : Int32) (hb hby d4_22) (by decide) hr) ?_
  refine Go.st (T' := T2) (g' := (mkF m 25 #[.val (.long p0), .second, .val (.long p1), .second, .val (.long (p0 * p1)), .second, .val (.long (f5 p0)), .second, .val (.long (f5 p1)), .second] [(.long (XT.ushrL ((f5 p0) ||| (f5 p1)) (31 : Int32)))])) (fun _ hr => XT.lushr X2.here hx rfl (hb hby d4_24) rfl hr) ?_
  refine Go.st (T' := T2) (g' := (mkF m 26 #[.val (.long p0), .second, .val (.long p1), .second, .val (.long (p0 * p1)), .second, .val (.long (f5 p0)), .second, .val (.long (f5 p1)), .second] [(.long (0 : Int64)), (.long (XT.ushrL ((f5 p0) ||| (f5 p1)) (31 : Int32)))])) (fun _ hr => XT.lconstV X2.here hx rfl (0 : Int64) (hb hby d4_25) (by decide) hr) ?_
  refine Go.st (T' := T2) (g' := (mkF m 27 #[.val (.long p0), .second, .val (.long p1), .second, .val (.long (p0 * p1)), .second, .val (.long (f5 p0)), .second, .val (.long (f5 p1)), .second] [(.int (XT.cmpL (XT.ushrL ((f5 p0) ||| (f5 p1)) (31 : Int32)) (0 : Int64)))])) (fun _ hr => XT.lcmp X2.here hx rfl (hb hby d4_26) rfl hr) ?_
  by_cases c27_3 : (XT.ushrL ((f5 p0) ||| (f5 p1)) (31 : Int32)) = (0 : Int64)
  · refine Go.st (T' := T2) (g' := (mkF m 71 #[.val (.long p0), .second, .val (.long p1), .second, .val (.long (p0 * p1)), .second, .val (.long (f5 p0)), .second, .val (.long (f5 p1)), .second] [])) (fun _ hr => XS.ifYes X2.here hx rfl (pc0 := 27) (pc' := 71) rfl (hb hby d4_27) rfl (XT.ll_eq_t c27_3) (by decide) (by decide) hr) ?_
    refine Go.st (T' := T2) (g' := (mkF m 73 #[.val (.long p0), .second, .val (.long p1), .second, .val (.long (p0 * p1)), .second, .val (.long (f5 p0)), .second, .val (.long (f5 p1)), .second] [(.long (p0 * p1))])) (fun _ hr => XT.lload X2.here hx rfl (hb hby d4_71) rfl hr) ?_
    exact Go.retJ X2 hx hlk hret (hb hby d4_73) (by decide) (by decide) ⟨congrArg (fun z => some (Value.long z)) (by simp only [f4, if_pos c27_3]), rfl, e2⟩
  · refine Go.st (T' := T2) (g' := (mkF m 30 #[.val (.long p0), .second, .val (.long p1), .second, .val (.long (p0 * p1)), .second, .val (.long (f5 p0)), .second, .val (.long (f5 p1)), .second] [])) (fun _ hr => XS.ifNo X2.here hx rfl (hb hby d4_27) rfl (XT.ll_eq_f c27_3) hr) ?_
    refine Go.st (T' := T2) (g' := (mkF m 31 #[.val (.long p0), .second, .val (.long p1), .second, .val (.long (p0 * p1)), .second, .val (.long (f5 p0)), .second, .val (.long (f5 p1)), .second] [(.long p1)])) (fun _ hr => XT.lloadN X2.here hx rfl (hb hby d4_30) rfl hr) ?_
    refine Go.st (T' := T2) (g' := (mkF m 32 #[.val (.long p0), .second, .val (.long p1), .second, .val (.long (p0 * p1)), .second, .val (.long (f5 p0)), .second, .val (.long (f5 p1)), .second] [(.long (0 : Int64)), (.long p1)])) (fun _ hr => XT.lconstV X2.here hx rfl (0 : Int64) (hb hby d4_31) (by decide) hr) ?_
    refine Go.st (T' := T2) (g' := (mkF m 33 #[.val (.long p0), .second, .val (.long p1), .second, .val (.long (p0 * p1)), .second, .val (.long (f5 p0)), .second, .val (.long (f5 p1)), .second] [(.int (XT.cmpL p1 (0 : Int64)))])) (fun _ hr => XT.lcmp X2.here hx rfl (hb hby d4_32) rfl hr) ?_
    refine Go.st (T' := T2) (g' := (mkF m 36 #[.val (.long p0), .second, .val (.long p1), .second, .val (.long (p0 * p1)), .second, .val (.long (f5 p0)), .second, .val (.long (f5 p1)), .second] [])) (fun _ hr => XS.ifNo X2.here hx rfl (hb hby d4_33) rfl (XT.ll_eq_f h1) hr) ?_
    refine Go.st (T' := T2) (g' := (mkF m 38 #[.val (.long p0), .second, .val (.long p1), .second, .val (.long (p0 * p1)), .second, .val (.long (f5 p0)), .second, .val (.long (f5 p1)), .second] [(.long (p0 * p1))])) (fun _ hr => XT.lload X2.here hx rfl (hb hby d4_36) rfl hr) ?_
    refine Go.st (T' := T2) (g' := (mkF m 39 #[.val (.long p0), .second, .val (.long p1), .second, .val (.long (p0 * p1)), .second, .val (.long (f5 p0)), .second, .val (.long (f5 p1)), .second] [(.long p1), (.long (p0 * p1))])) (fun _ hr => XT.lloadN X2.here hx rfl (hb hby d4_38) rfl hr) ?_
    refine Go.st (T' := T2) (g' := (mkF m 40 #[.val (.long p0), .second, .val (.long p1), .second, .val (.long (p0 * p1)), .second, .val (.long (f5 p0)), .second, .val (.long (f5 p1)), .second] [(.long ((p0 * p1) / p1))])) (fun _ hr => XT.ldiv X2.here hx rfl (hb hby d4_39) rfl h1 hr) ?_
    refine Go.st (T' := T2) (g' := (mkF m 41 #[.val (.long p0), .second, .val (.long p1), .second, .val (.long (p0 * p1)), .second, .val (.long (f5 p0)), .second, .val (.long (f5 p1)), .second] [(.long p0), (.long ((p0 * p1) / p1))])) (fun _ hr => XT.lloadN X2.here hx rfl (hb hby d4_40) rfl hr) ?_
    refine Go.st (T' := T2) (g' := (mkF m 42 #[.val (.long p0), .second, .val (.long p1), .second, .val (.long (p0 * p1)), .second, .val (.long (f5 p0)), .second, .val (.long (f5 p1)), .second] [(.int (XT.cmpL ((p0 * p1) / p1) p0))])) (fun _ hr => XT.lcmp X2.here hx rfl (hb hby d4_41) rfl hr) ?_
    refine Go.st (T' := T2) (g' := (mkF m 45 #[.val (.long p0), .second, .val (.long p1), .second, .val (.long (p0 * p1)), .second, .val (.long (f5 p0)), .second, .val (.long (f5 p1)), .second] [])) (fun _ hr => XS.ifNo X2.here hx rfl (hb hby d4_42) rfl (XT.ll_ne_f h2) hr) ?_
    refine Go.st (T' := T2) (g' := (mkF m 46 #[.val (.long p0), .second, .val (.long p1), .second, .val (.long (p0 * p1)), .second, .val (.long (f5 p0)), .second, .val (.long (f5 p1)), .second] [(.long p0)])) (fun _ hr => XT.lloadN X2.here hx rfl (hb hby d4_45) rfl hr) ?_
    refine Go.st (T' := T2) (g' := (mkF m 49 #[.val (.long p0), .second, .val (.long p1), .second, .val (.long (p0 * p1)), .second, .val (.long (f5 p0)), .second, .val (.long (f5 p1)), .second] [(.long (-9223372036854775808 : Int64)), (.long p0)])) (fun _ hr => X2.ldc2J hx hown (mvT hZ (hw _ (List.mem_of_getElem? (i := 47) rfl))) rfl (hb hby d4_46) hr) ?_
    refine Go.st (T' := T2) (g' := (mkF m 50 #[.val (.long p0), .second, .val (.long p1), .second, .val (.long (p0 * p1)), .second, .val (.long (f5 p0)), .second, .val (.long (f5 p1)), .second] [(.int (XT.cmpL p0 (-9223372036854775808 : Int64)))])) (fun _ hr => XT.lcmp X2.here hx rfl (hb hby d4_49) rfl hr) ?_
    refine Go.st (T' := T2) (g' := (mkF m 71 #[.val (.long p0), .second, .val (.long p1), .second, .val (.long (p0 * p1)), .second, .val (.long (f5 p0)), .second, .val (.long (f5 p1)), .second] [])) (fun _ hr => XS.ifYes X2.here hx rfl (pc0 := 50) (pc' := 71) rfl (hb hby d4_50) rfl (XT.ll_ne_t h3) (by decide) (by decide) hr) ?_
    refine Go.st (T' := T2) (g' := (mkF m 73 #[.val (.long p0), .second, .val (.long p1), .second, .val (.long (p0 * p1)), .second, .val (.long (f5 p0)), .second, .val (.long (f5 p1)), .second] [(.long (p0 * p1))])) (fun _ hr => XT.lload X2.here hx rfl (hb hby d4_71) rfl hr) ?_
    exact Go.retJ X2 hx hlk hret (hb hby d4_73) (by decide) (by decide) ⟨congrArg (fun z => some (Value.long z)) (by simp only [f4, if_neg c27_3]), rfl, e2⟩
theorem own_Lc (m : Int64) (h : decide (0 < m.toInt ∧ m.toInt ≤ 4294967296) = true) : own_L m := show 0 < m.toInt ∧ m.toInt ≤ 4294967296 from of_decide_eq_true h
theorem own_Rc (m : Int64) (h : decide (-4611686022722355200 ≤ m.toInt ∧ m.toInt ≤ 4611686022722355200) = true) : own_R m := show -4611686022722355200 ≤ m.toInt ∧ m.toInt ≤ 4611686022722355200 from of_decide_eq_true h
theorem own_half (t : Int64) : -4611686018427387904 ≤ (t >>> (((1 : Int32)).toInt64 &&& 63)).toInt ∧ (t >>> (((1 : Int32)).toInt64 &&& 63)).toInt < 4611686018427387904 := by
  have hs : ((1 : Int32).toInt64 &&& 63) = (1 : Int64) := by decide
  have e : (t >>> (1 : Int64)).toInt = t.toInt / 2 ^ 1 := Jvm.Kit.i64_shr t 1 (by decide)
  have h1 := t.le_toInt
  have h2 := t.toInt_lt
  rw [hs, e]; omega
theorem own_Ru (t : Int64) : own_R (t >>> (((1 : Int32)).toInt64 &&& 63)) := by
  have := own_half t; exact ⟨by omega, by omega⟩
/-- the start of a block lies within reach of the next division -/
theorem own_Rb (t : Int64) {L : Int64} (hL : own_L L) : own_R ((f3 (t >>> (((1 : Int32)).toInt64 &&& 63)) L) * L) := by
  have h := own_half t
  have p := own_prod (own_Ru t) hL
  obtain ⟨l1, l2⟩ := hL
  refine ⟨?_, ?_⟩ <;> rw [p.1] <;> omega
/-- a block that divides a period starts in the same period -/
theorem own_in (t : Int64) {L M : Int64} (hL : own_L L) (hM : own_L M) (k : Int) (hk : M.toInt = L.toInt * k) :
    (f3 ((f3 (t >>> (((1 : Int32)).toInt64 &&& 63)) L) * L) M) * M = (f3 (t >>> (((1 : Int32)).toInt64 &&& 63)) M) * M := by
  have p := own_prod (own_Ru t) hL
  have q := own_prod (own_Rb t hL) hM
  have r := own_prod (own_Ru t) hM
  apply Int64.toInt_inj.mp
  rw [q.1, r.1, p.1]
  generalize (t >>> (((1 : Int32)).toInt64 &&& 63)).toInt = u
  have l0 := hL.1
  have e : u / L.toInt * L.toInt / M.toInt = u / M.toInt := by
    rw [hk, ← Int.ediv_ediv_of_nonneg (by omega), Int.mul_ediv_cancel _ (by omega), Int.ediv_ediv_of_nonneg (by omega)]
  rw [e]
theorem own_irem (p : Int32) : 0 ≤ ((p &&& (2147483647 : Int32)) - ((p &&& (2147483647 : Int32)) / (3 : Int32)) * (3 : Int32)).toInt ∧ ((p &&& (2147483647 : Int32)) - ((p &&& (2147483647 : Int32)) / (3 : Int32)) * (3 : Int32)).toInt < 3 := by
  have m : (p &&& (2147483647 : Int32)).toInt = p.toInt % 2 ^ 31 := Jvm.Kit.i32_mask p 2147483647 (k := 31) (by decide) (by decide)
  generalize (p &&& (2147483647 : Int32)) = x at *
  have x0 : 0 ≤ x.toInt := by omega
  have x1 := x.toInt_lt
  have k3 : (3 : Int32).toInt = 3 := by decide
  have d : (x / (3 : Int32)).toInt = x.toInt / 3 := by
    rw [Jvm.Kit.i32_div (by rw [k3]; omega), k3, Int.tdiv_eq_ediv_of_nonneg x0]
  have mu : ((x / (3 : Int32)) * (3 : Int32)).toInt = x.toInt / 3 * 3 := by
    rw [Jvm.Kit.i32_mul (by rw [d, k3]; omega) (by rw [d, k3]; omega), d, k3]
  have su : (x - (x / (3 : Int32)) * (3 : Int32)).toInt = x.toInt - x.toInt / 3 * 3 := by
    rw [Jvm.Kit.i32_sub (by rw [mu]; omega) (by rw [mu]; omega), mu]
  rw [su]; omega
theorem own_two {p : Int32} (h0 : ¬ ((p &&& (2147483647 : Int32)) - ((p &&& (2147483647 : Int32)) / (3 : Int32)) * (3 : Int32)) = (0 : Int32)) (h1 : ¬ ((p &&& (2147483647 : Int32)) - ((p &&& (2147483647 : Int32)) / (3 : Int32)) * (3 : Int32)) = (1 : Int32)) :
    ((p &&& (2147483647 : Int32)) - ((p &&& (2147483647 : Int32)) / (3 : Int32)) * (3 : Int32)) = (2 : Int32) := by
  have r := own_irem p
  generalize ((p &&& (2147483647 : Int32)) - ((p &&& (2147483647 : Int32)) / (3 : Int32)) * (3 : Int32)) = x at *
  have k2 : (2 : Int32).toInt = 2 := by decide
  have k1 : (1 : Int32).toInt = 1 := by decide
  have k0 : (0 : Int32).toInt = 0 := by decide
  have n0 : x.toInt ≠ 0 := fun q => h0 (Int32.toInt_inj.mp (q.trans k0.symm))
  have n1 : x.toInt ≠ 1 := fun q => h1 (Int32.toInt_inj.mp (q.trans k1.symm))
  apply Int32.toInt_inj.mp
  rw [k2]; omega
theorem own_not2 {x y : Int32} (h : x = y) (hy : ¬ y = (2 : Int32)) : ¬ x = (2 : Int32) := by rw [h]; exact hy
theorem pd_2 : parseMethodDescriptor "()J" = some ⟨[], some .long⟩ := by decide +kernel
theorem d7_0 : decode prog_19_method_7_code 0 = .ok (.aload_n 0, 1) := by decide +kernel
theorem d7_1 : decode prog_19_method_7_code 1 = .ok (.getfield 38, 3) := by decide +kernel
theorem d7_4 : decode prog_19_method_7_code 4 = .ok (.ldc2_w 59, 3) := by decide +kernel
theorem d7_7 : decode prog_19_method_7_code 7 = .ok (.lmul, 1) := by decide +kernel
theorem d7_8 : decode prog_19_method_7_code 8 = .ok (.lreturn, 1) := by decide +kernel
theorem pn_0 : plainName "com/example/rugged_meter/ruggedmeter/TimeRange$Period" = true := by first | (simp [plainName, overriddenIn]; done) | decide +kernel
def f7 (w0 : Int64) : Int64 := (w0 * (900000 : Int64))
theorem ef_rm7 (m : MethodId) (a : Addr)  : entryFrame m #[(.ref a)] 1 = mkF m 0 #[.val (.ref a)] [] := by first | (simp [entryFrame, mkF, argsToLocals, Value.category]; done) | rfl
set_option maxRecDepth 65536 in
set_option maxHeartbeats 40000000 in
theorem rm7 (l : Launch) (Z : State) (a0 : Array Value) (hw : ∀ d ∈ tables_1, d.before a0 Z = true) (a : Addr) (w0 : Int64)  (h0 : Heap) (F0_intervals : Fld Z h0 a "com/example/rugged_meter/ruggedmeter/TimeRange$Period" "intervals" "J" (.long w0)) :
    MetQ l Z (⟨"com/example/rugged_meter/ruggedmeter/TimeRange$Period", "millis", "()J"⟩ : MethodName) prog_19_method_7_code 1 (some .long) [] ({ frames := 0, cells := 0, slots := 0, locals := 0 } : Room) #[(.ref a)] h0 (PQ (.long (f7 w0)) h0) := by
  refine MetQ.body (plainFor_of_name pn_0) fun p e s m below meth c s₁ hx hby hml hown hnm hret hlk hZ e0 X0 => Go.cast (ef_rm7 m a) ?_
  refine Go.st (T' := s₁) (g' := (mkF m 1 #[.val (.ref a)] [(.ref a)])) (fun _ hr => XS.aloadN X0.here hx rfl (hb hby d7_0) rfl rfl hr) ?_
  obtain ⟨T1, X1, e1, st1⟩ := getF X0 hx hZ hown (host := "") (Or.inl (hw _ (List.mem_of_getElem? (i := 12) rfl))) Via.refl e0 F0_intervals (g := (mkF m 1 #[.val (.ref a)] [(.ref a)])) rfl rfl (hb hby d7_1)
  refine Go.st (T' := T1) (g' := (mkF m 4 #[.val (.ref a)] [(.long w0)])) st1 ?_
  refine Go.st (T' := T1) (g' := (mkF m 7 #[.val (.ref a)] [(.long (900000 : Int64)), (.long w0)])) (fun _ hr => X1.ldc2J hx hown (mvT hZ (hw _ (List.mem_of_getElem? (i := 41) rfl))) rfl (hb hby d7_4) hr) ?_
  refine Go.st (T' := T1) (g' := (mkF m 8 #[.val (.ref a)] [(.long (w0 * (900000 : Int64)))])) (fun _ hr => XT.lmul X1.here hx rfl (hb hby d7_7) rfl hr) ?_
  exact Go.retJ X1 hx hlk hret (hb hby d7_8) (by decide) (by decide) ⟨congrArg (fun z => some (Value.long z)) (by simp only [f7]), rfl, e1⟩
theorem pd_3 : parseMethodDescriptor "(JI)J" = some ⟨[.long, .int], some .long⟩ := by decide +kernel
theorem d2_0 : decode prog_17_method_7_code 0 = .ok (.getstatic 86, 3) := by decide +kernel
theorem d2_3 : decode prog_17_method_7_code 3 = .ok (.iload_n 2, 1) := by decide +kernel
theorem d2_4 : decode prog_17_method_7_code 4 = .ok (.laload, 1) := by decide +kernel
theorem d2_5 : decode prog_17_method_7_code 5 = .ok (.ldc2_w 90, 3) := by decide +kernel
theorem d2_8 : decode prog_17_method_7_code 8 = .ok (.lmul, 1) := by decide +kernel
theorem d2_9 : decode prog_17_method_7_code 9 = .ok (.lstore_n 3, 1) := by decide +kernel
theorem d2_10 : decode prog_17_method_7_code 10 = .ok (.lload_n 0, 1) := by decide +kernel
theorem d2_11 : decode prog_17_method_7_code 11 = .ok (.lload_n 3, 1) := by decide +kernel
theorem d2_12 : decode prog_17_method_7_code 12 = .ok (.invokestatic 53, 3) := by decide +kernel
theorem d2_15 : decode prog_17_method_7_code 15 = .ok (.lload_n 3, 1) := by decide +kernel
theorem d2_16 : decode prog_17_method_7_code 16 = .ok (.invokestatic 92, 3) := by decide +kernel
theorem d2_19 : decode prog_17_method_7_code 19 = .ok (.lreturn, 1) := by decide +kernel
theorem pn_1 : plainName "com/example/rugged_meter/ruggedmeter/TimeRange" = true := by first | (simp [plainName, overriddenIn]; done) | decide +kernel
theorem ef_rm2_0 (m : MethodId) (p0 : Int64)  : entryFrame m #[(.long p0), (.int (0 : Int32))] 5 = mkF m 0 #[.val (.long p0), .second, .val (.int (0 : Int32)), .unset, .unset] [] := by first | (simp [entryFrame, mkF, argsToLocals, Value.category]; done) | rfl
set_option maxRecDepth 65536 in
set_option maxHeartbeats 40000000 in
theorem rm2_0 (l : Launch) (Z : State) (a0 : Array Value) (hw : ∀ d ∈ tables_1, d.before a0 Z = true) (p0 : Int64) (sa : Addr) (ka : ClassId)  (h0 : Heap) (G2 : Sta Z h0 "com/example/rugged_meter/ruggedmeter/TimeRange" "SCALE_INTERVALS" "[J" (.ref sa)) (V0 : Arv Z h0 sa ka .long (5 : Int32) own_si (.long (0 : Int64))) (hR : own_R p0) :
    MetQ l Z (⟨"com/example/rugged_meter/ruggedmeter/TimeRange", "blockStart", "(JI)J"⟩ : MethodName) prog_17_method_7_code 5 (some .long) [] ({ frames := 2, cells := 0, slots := 0, locals := 34 } : Room) #[(.long p0), (.int (0 : Int32))] h0 (PQ (.long ((f3 p0 ((1 : Int64) * (900000 : Int64))) * ((1 : Int64) * (900000 : Int64)))) h0) := by
  refine MetQ.body (plainFor_of_name pn_1) fun p e s m below meth c s₁ hx hby hml hown hnm hret hlk hZ e0 X0 => Go.cast (ef_rm2_0 m p0) ?_
  have hL : own_L ((1 : Int64) * (900000 : Int64)) := own_Lc _ (by decide +kernel)
  obtain ⟨T1, X1, e1, st1⟩ := getS2 X0 hx hZ hown (host := "") (Or.inl (hw _ (List.mem_of_getElem? (i := 19) rfl))) Via.refl e0 G2 (g := (mkF m 0 #[.val (.long p0), .second, .val (.int (0 : Int32)), .unset, .unset] [])) rfl (hb hby d2_0)
  refine Go.st (T' := T1) (g' := (mkF m 3 #[.val (.long p0), .second, .val (.int (0 : Int32)), .unset, .unset] [(.ref sa)])) st1 ?_
  refine Go.st (T' := T1) (g' := (mkF m 4 #[.val (.long p0), .second, .val (.int (0 : Int32)), .unset, .unset] [(.int (0 : Int32)), (.ref sa)])) (fun _ hr => XS.iloadN X1.here hx rfl (hb hby d2_3) rfl hr) ?_
  obtain ⟨cl2, Ar2, qa2, S2, M2, H2, U2⟩ := (id V0)
  refine Go.st (T' := T1) (g' := (mkF m 5 #[.val (.long p0), .second, .val (.int (0 : Int32)), .unset, .unset] [(.long (1 : Int64))])) (fun t hr => X1.laload hx (j := (0 : Int32)) (v := (.long (1 : Int64))) (by rw [e1]; exact Ar2.1) (State.isArrayOf_alike hZ.alike Ar2.2.1) Ar2.2.2 (inb_of S2 ⟨by decide, by decide⟩) (H2.at (inb_of S2 ⟨by decide, by decide⟩) rfl) (g := (mkF m 4 #[.val (.long p0), .second, .val (.int (0 : Int32)), .unset, .unset] [(.int (0 : Int32)), (.ref sa)])) rfl rfl (hb hby d2_4) t hr) ?_
  refine Go.st (T' := T1) (g' := (mkF m 8 #[.val (.long p0), .second, .val (.int (0 : Int32)), .unset, .unset] [(.long (900000 : Int64)), (.long (1 : Int64))])) (fun _ hr => X1.ldc2J hx hown (mvT hZ (hw _ (List.mem_of_getElem? (i := 20) rfl))) rfl (hb hby d2_5) hr) ?_
  refine Go.st (T' := T1) (g' := (mkF m 9 #[.val (.long p0), .second, .val (.int (0 : Int32)), .unset, .unset] [(.long ((1 : Int64) * (900000 : Int64)))])) (fun _ hr => XT.lmul X1.here hx rfl (hb hby d2_8) rfl hr) ?_
  refine Go.st (T' := T1) (g' := (mkF m 10 #[.val (.long p0), .second, .val (.int (0 : Int32)), .val (.long ((1 : Int64) * (900000 : Int64))), .second] [])) (fun _ hr => XT.lstoreN X1.here hx rfl (hb hby d2_9) rfl (l' := #[.val (.long p0), .second, .val (.int (0 : Int32)), .val (.long ((1 : Int64) * (900000 : Int64))), .second]) rfl hr) ?_
  refine Go.st (T' := T1) (g' := (mkF m 11 #[.val (.long p0), .second, .val (.int (0 : Int32)), .val (.long ((1 : Int64) * (900000 : Int64))), .second] [(.long p0)])) (fun _ hr => XT.lloadN X1.here hx rfl (hb hby d2_10) rfl hr) ?_
  refine Go.st (T' := T1) (g' := (mkF m 12 #[.val (.long p0), .second, .val (.int (0 : Int32)), .val (.long ((1 : Int64) * (900000 : Int64))), .second] [(.long ((1 : Int64) * (900000 : Int64))), (.long p0)])) (fun _ hr => XT.lloadN X1.here hx rfl (hb hby d2_11) rfl hr) ?_
  refine Go.callP X1 hx hZ hown (W := 0) (hw _ (List.mem_of_getElem? (i := 21) rfl)) (hw _ (List.mem_of_getElem? (i := 22) rfl)) (hw _ (List.mem_of_getElem? (i := 23) rfl)) (hw _ (List.mem_of_getElem? (i := 24) rfl)) (by decide) e1 (rm3 l Z a0 hw p0 ((1 : Int64) * (900000 : Int64)) h0 (own_nz hL)) (by decide) (by decide) (by decide) (by decide) (g := (mkF m 12 #[.val (.long p0), .second, .val (.int (0 : Int32)), .val (.long ((1 : Int64) * (900000 : Int64))), .second] [(.long ((1 : Int64) * (900000 : Int64))), (.long p0)])) rfl (by rw [hml]; rfl) (argsL := [(.long p0), (.long ((1 : Int64) * (900000 : Int64)))]) (rest := []) (lenOf pd_1 rfl) rfl (by show 2 * 0 + _ ≤ _; exact Nat.le_of_eq rfl) (hb hby d2_12) (fun T3 X3 e3 => ?_)
  show Go p.tables e below (Fin s (PQ (.long ((f3 p0 ((1 : Int64) * (900000 : Int64))) * ((1 : Int64) * (900000 : Int64)))) h0) ({ frames := 2, cells := 0, slots := 0, locals := 34 } : Room).cells ({ frames := 2, cells := 0, slots := 0, locals := 34 } : Room).slots) T3 (mkF m 15 #[.val (.long p0), .second, .val (.int (0 : Int32)), .val (.long ((1 : Int64) * (900000 : Int64))), .second] [(.long (f3 p0 ((1 : Int64) * (900000 : Int64))))])
  refine Go.st (T' := T3) (g' := (mkF m 16 #[.val (.long p0), .second, .val (.int (0 : Int32)), .val (.long ((1 : Int64) * (900000 : Int64))), .second] [(.long ((1 : Int64) * (900000 : Int64))), (.long (f3 p0 ((1 : Int64) * (900000 : Int64))))])) (fun _ hr => XT.lloadN X3.here hx rfl (hb hby d2_15) rfl hr) ?_
  refine Go.callP X3 hx hZ hown (W := 0) (hw _ (List.mem_of_getElem? (i := 25) rfl)) (hw _ (List.mem_of_getElem? (i := 26) rfl)) (hw _ (List.mem_of_getElem? (i := 23) rfl)) (hw _ (List.mem_of_getElem? (i := 27) rfl)) (by decide) e3 (rm4 l Z a0 hw (f3 p0 ((1 : Int64) * (900000 : Int64))) ((1 : Int64) * (900000 : Int64)) h0 (own_nz hL) (own_mx hR hL).1 (own_mx hR hL).2) (by decide) (by decide) (by decide) (by decide) (g := (mkF m 16 #[.val (.long p0), .second, .val (.int (0 : Int32)), .val (.long ((1 : Int64) * (900000 : Int64))), .second] [(.long ((1 : Int64) * (900000 : Int64))), (.long (f3 p0 ((1 : Int64) * (900000 : Int64))))])) rfl (by rw [hml]; rfl) (argsL := [(.long (f3 p0 ((1 : Int64) * (900000 : Int64)))), (.long ((1 : Int64) * (900000 : Int64)))]) (rest := []) (lenOf pd_1 rfl) rfl (by show 2 * 0 + _ ≤ _; exact Nat.le_of_eq rfl) (hb hby d2_16) (fun T4 X4 e4 => ?_)
  show Go p.tables e below (Fin s (PQ (.long ((f3 p0 ((1 : Int64) * (900000 : Int64))) * ((1 : Int64) * (900000 : Int64)))) h0) ({ frames := 2, cells := 0, slots := 0, locals := 34 } : Room).cells ({ frames := 2, cells := 0, slots := 0, locals := 34 } : Room).slots) T4 (mkF m 19 #[.val (.long p0), .second, .val (.int (0 : Int32)), .val (.long ((1 : Int64) * (900000 : Int64))), .second] [(.long ((f3 p0 ((1 : Int64) * (900000 : Int64))) * ((1 : Int64) * (900000 : Int64))))])
  exact Go.retJ X4 hx hlk hret (hb hby d2_19) (by decide) (by decide) ⟨rfl, rfl, e4⟩
theorem ef_rm2_1 (m : MethodId) (p0 : Int64)  : entryFrame m #[(.long p0), (.int (1 : Int32))] 5 = mkF m 0 #[.val (.long p0), .second, .val (.int (1 : Int32)), .unset, .unset] [] := by first | (simp [entryFrame, mkF, argsToLocals, Value.category]; done) | rfl
set_option maxRecDepth 65536 in
set_option maxHeartbeats 40000000 in
theorem rm2_1 (l : Launch) (Z : State) (a0 : Array Value) (hw : ∀ d ∈ tables_1, d.before a0 Z = true) (p0 : Int64) (sa : Addr) (ka : ClassId)  (h0 : Heap) (G2 : Sta Z h0 "com/example/rugged_meter/ruggedmeter/TimeRange" "SCALE_INTERVALS" "[J" (.ref sa)) (V0 : Arv Z h0 sa ka .long (5 : Int32) own_si (.long (0 : Int64))) (hR : own_R p0) :
    MetQ l Z (⟨"com/example/rugged_meter/ruggedmeter/TimeRange", "blockStart", "(JI)J"⟩ : MethodName) prog_17_method_7_code 5 (some .long) [] ({ frames := 2, cells := 0, slots := 0, locals := 34 } : Room) #[(.long p0), (.int (1 : Int32))] h0 (PQ (.long ((f3 p0 ((96 : Int64) * (900000 : Int64))) * ((96 : Int64) * (900000 : Int64)))) h0) := by
  refine MetQ.body (plainFor_of_name pn_1) fun p e s m below meth c s₁ hx hby hml hown hnm hret hlk hZ e0 X0 => Go.cast (ef_rm2_1 m p0) ?_
  have hL : own_L ((96 : Int64) * (900000 : Int64)) := own_Lc _ (by decide +kernel)
  obtain ⟨T1, X1, e1, st1⟩ := getS2 X0 hx hZ hown (host := "") (Or.inl (hw _ (List.mem_of_getElem? (i := 19) rfl))) Via.refl e0 G2 (g := (mkF m 0 #[.val (.long p0), .second, .val (.int (1 : Int32)), .unset, .unset] [])) rfl (hb hby d2_0)
  refine Go.st (T' := T1) (g' := (mkF m 3 #[.val (.long p0), .second, .val (.int (1 : Int32)), .unset, .unset] [(.ref sa)])) st1 ?_
  refine Go.st (T' := T1) (g' := (mkF m 4 #[.val (.long p0), .second, .val (.int (1 : Int32)), .unset, .unset] [(.int (1 : Int32)), (.ref sa)])) (fun _ hr => XS.iloadN X1.here hx rfl (hb hby d2_3) rfl hr) ?_
  obtain ⟨cl2, Ar2, qa2, S2, M2, H2, U2⟩ := (id V0)
  refine Go.st (T' := T1) (g' := (mkF m 5 #[.val (.long p0), .second, .val (.int (1 : Int32)), .unset, .unset] [(.long (96 : Int64))])) (fun t hr => X1.laload hx (j := (1 : Int32)) (v := (.long (96 : Int64))) (by rw [e1]; exact Ar2.1) (State.isArrayOf_alike hZ.alike Ar2.2.1) Ar2.2.2 (inb_of S2 ⟨by decide, by decide⟩) (H2.at (inb_of S2 ⟨by decide, by decide⟩) rfl) (g := (mkF m 4 #[.val (.long p0), .second, .val (.int (1 : Int32)), .unset, .unset] [(.int (1 : Int32)), (.ref sa)])) rfl rfl (hb hby d2_4) t hr) ?_
  refine Go.st (T' := T1) (g' := (mkF m 8 #[.val (.long p0), .second, .val (.int (1 : Int32)), .unset, .unset] [(.long (900000 : Int64)), (.long (96 : Int64))])) (fun _ hr => X1.ldc2J hx hown (mvT hZ (hw _ (List.mem_of_getElem? (i := 20) rfl))) rfl (hb hby d2_5) hr) ?_
  refine Go.st (T' := T1) (g' := (mkF m 9 #[.val (.long p0), .second, .val (.int (1 : Int32)), .unset, .unset] [(.long ((96 : Int64) * (900000 : Int64)))])) (fun _ hr => XT.lmul X1.here hx rfl (hb hby d2_8) rfl hr) ?_
  refine Go.st (T' := T1) (g' := (mkF m 10 #[.val (.long p0), .second, .val (.int (1 : Int32)), .val (.long ((96 : Int64) * (900000 : Int64))), .second] [])) (fun _ hr => XT.lstoreN X1.here hx rfl (hb hby d2_9) rfl (l' := #[.val (.long p0), .second, .val (.int (1 : Int32)), .val (.long ((96 : Int64) * (900000 : Int64))), .second]) rfl hr) ?_
  refine Go.st (T' := T1) (g' := (mkF m 11 #[.val (.long p0), .second, .val (.int (1 : Int32)), .val (.long ((96 : Int64) * (900000 : Int64))), .second] [(.long p0)])) (fun _ hr => XT.lloadN X1.here hx rfl (hb hby d2_10) rfl hr) ?_
  refine Go.st (T' := T1) (g' := (mkF m 12 #[.val (.long p0), .second, .val (.int (1 : Int32)), .val (.long ((96 : Int64) * (900000 : Int64))), .second] [(.long ((96 : Int64) * (900000 : Int64))), (.long p0)])) (fun _ hr => XT.lloadN X1.here hx rfl (hb hby d2_11) rfl hr) ?_
  refine Go.callP X1 hx hZ hown (W := 0) (hw _ (List.mem_of_getElem? (i := 21) rfl)) (hw _ (List.mem_of_getElem? (i := 22) rfl)) (hw _ (List.mem_of_getElem? (i := 23) rfl)) (hw _ (List.mem_of_getElem? (i := 24) rfl)) (by decide) e1 (rm3 l Z a0 hw p0 ((96 : Int64) * (900000 : Int64)) h0 (own_nz hL)) (by decide) (by decide) (by decide) (by decide) (g := (mkF m 12 #[.val (.long p0), .second, .val (.int (1 : Int32)), .val (.long ((96 : Int64) * (900000 : Int64))), .second] [(.long ((96 : Int64) * (900000 : Int64))), (.long p0)])) rfl (by rw [hml]; rfl) (argsL := [(.long p0), (.long ((96 : Int64) * (900000 : Int64)))]) (rest := []) (lenOf pd_1 rfl) rfl (by show 2 * 0 + _ ≤ _; exact Nat.le_of_eq rfl) (hb hby d2_12) (fun T3 X3 e3 => ?_)
  show Go p.tables e below (Fin s (PQ (.long ((f3 p0 ((96 : Int64) * (900000 : Int64))) * ((96 : Int64) * (900000 : Int64)))) h0) ({ frames := 2, cells := 0, slots := 0, locals := 34 } : Room).cells ({ frames := 2, cells := 0, slots := 0, locals := 34 } : Room).slots) T3 (mkF m 15 #[.val (.long p0), .second, .val (.int (1 : Int32)), .val (.long ((96 : Int64) * (900000 : Int64))), .second] [(.long (f3 p0 ((96 : Int64) * (900000 : Int64))))])
  refine Go.st (T' := T3) (g' := (mkF m 16 #[.val (.long p0), .second, .val (.int (1 : Int32)), .val (.long ((96 : Int64) * (900000 : Int64))), .second] [(.long ((96 : Int64) * (900000 : Int64))), (.long (f3 p0 ((96 : Int64) * (900000 : Int64))))])) (fun _ hr => XT.lloadN X3.here hx rfl (hb hby d2_15) rfl hr) ?_
  refine Go.callP X3 hx hZ hown (W := 0) (hw _ (List.mem_of_getElem? (i := 25) rfl)) (hw _ (List.mem_of_getElem? (i := 26) rfl)) (hw _ (List.mem_of_getElem? (i := 23) rfl)) (hw _ (List.mem_of_getElem? (i := 27) rfl)) (by decide) e3 (rm4 l Z a0 hw (f3 p0 ((96 : Int64) * (900000 : Int64))) ((96 : Int64) * (900000 : Int64)) h0 (own_nz hL) (own_mx hR hL).1 (own_mx hR hL).2) (by decide) (by decide) (by decide) (by decide) (g := (mkF m 16 #[.val (.long p0), .second, .val (.int (1 : Int32)), .val (.long ((96 : Int64) * (900000 : Int64))), .second] [(.long ((96 : Int64) * (900000 : Int64))), (.long (f3 p0 ((96 : Int64) * (900000 : Int64))))])) rfl (by rw [hml]; rfl) (argsL := [(.long (f3 p0 ((96 : Int64) * (900000 : Int64)))), (.long ((96 : Int64) * (900000 : Int64)))]) (rest := []) (lenOf pd_1 rfl) rfl (by show 2 * 0 + _ ≤ _; exact Nat.le_of_eq rfl) (hb hby d2_16) (fun T4 X4 e4 => ?_)
  show Go p.tables e below (Fin s (PQ (.long ((f3 p0 ((96 : Int64) * (900000 : Int64))) * ((96 : Int64) * (900000 : Int64)))) h0) ({ frames := 2, cells := 0, slots := 0, locals := 34 } : Room).cells ({ frames := 2, cells := 0, slots := 0, locals := 34 } : Room).slots) T4 (mkF m 19 #[.val (.long p0), .second, .val (.int (1 : Int32)), .val (.long ((96 : Int64) * (900000 : Int64))), .second] [(.long ((f3 p0 ((96 : Int64) * (900000 : Int64))) * ((96 : Int64) * (900000 : Int64))))])
  exact Go.retJ X4 hx hlk hret (hb hby d2_19) (by decide) (by decide) ⟨rfl, rfl, e4⟩
theorem ef_rm2_2 (m : MethodId) (p0 : Int64)  : entryFrame m #[(.long p0), (.int (2 : Int32))] 5 = mkF m 0 #[.val (.long p0), .second, .val (.int (2 : Int32)), .unset, .unset] [] := by first | (simp [entryFrame, mkF, argsToLocals, Value.category]; done) | rfl
set_option maxRecDepth 65536 in
set_option maxHeartbeats 40000000 in
theorem rm2_2 (l : Launch) (Z : State) (a0 : Array Value) (hw : ∀ d ∈ tables_1, d.before a0 Z = true) (p0 : Int64) (sa : Addr) (ka : ClassId)  (h0 : Heap) (G2 : Sta Z h0 "com/example/rugged_meter/ruggedmeter/TimeRange" "SCALE_INTERVALS" "[J" (.ref sa)) (V0 : Arv Z h0 sa ka .long (5 : Int32) own_si (.long (0 : Int64))) (hR : own_R p0) :
    MetQ l Z (⟨"com/example/rugged_meter/ruggedmeter/TimeRange", "blockStart", "(JI)J"⟩ : MethodName) prog_17_method_7_code 5 (some .long) [] ({ frames := 2, cells := 0, slots := 0, locals := 34 } : Room) #[(.long p0), (.int (2 : Int32))] h0 (PQ (.long ((f3 p0 ((1536 : Int64) * (900000 : Int64))) * ((1536 : Int64) * (900000 : Int64)))) h0) := by
  refine MetQ.body (plainFor_of_name pn_1) fun p e s m below meth c s₁ hx hby hml hown hnm hret hlk hZ e0 X0 => Go.cast (ef_rm2_2 m p0) ?_
  have hL : own_L ((1536 : Int64) * (900000 : Int64)) := own_Lc _ (by decide +kernel)
  obtain ⟨T1, X1, e1, st1⟩ := getS2 X0 hx hZ hown (host := "") (Or.inl (hw _ (List.mem_of_getElem? (i := 19) rfl))) Via.refl e0 G2 (g := (mkF m 0 #[.val (.long p0), .second, .val (.int (2 : Int32)), .unset, .unset] [])) rfl (hb hby d2_0)
  refine Go.st (T' := T1) (g' := (mkF m 3 #[.val (.long p0), .second, .val (.int (2 : Int32)), .unset, .unset] [(.ref sa)])) st1 ?_
  refine Go.st (T' := T1) (g' := (mkF m 4 #[.val (.long p0), .second, .val (.int (2 : Int32)), .unset, .unset] [(.int (2 : Int32)), (.ref sa)])) (fun _ hr => XS.iloadN X1.here hx rfl (hb hby d2_3) rfl hr) ?_
  obtain ⟨cl2, Ar2, qa2, S2, M2, H2, U2⟩ := (id V0)
  refine Go.st (T' := T1) (g' := (mkF m 5 #[.val (.long p0), .second, .val (.int (2 : Int32)), .unset, .unset] [(.long (1536 : Int64))])) (fun t hr => X1.laload hx (j := (2 : Int32)) (v := (.long (1536 : Int64))) (by rw [e1]; exact Ar2.1) (State.isArrayOf_alike hZ.alike Ar2.2.1) Ar2.2.2 (inb_of S2 ⟨by decide, by decide⟩) (H2.at (inb_of S2 ⟨by decide, by decide⟩) rfl) (g := (mkF m 4 #[.val (.long p0), .second, .val (.int (2 : Int32)), .unset, .unset] [(.int (2 : Int32)), (.ref sa)])) rfl rfl (hb hby d2_4) t hr) ?_
  refine Go.st (T' := T1) (g' := (mkF m 8 #[.val (.long p0), .second, .val (.int (2 : Int32)), .unset, .unset] [(.long (900000 : Int64)), (.long (1536 : Int64))])) (fun _ hr => X1.ldc2J hx hown (mvT hZ (hw _ (List.mem_of_getElem? (i := 20) rfl))) rfl (hb hby d2_5) hr) ?_
  refine Go.st (T' := T1) (g' := (mkF m 9 #[.val (.long p0), .second, .val (.int (2 : Int32)), .unset, .unset] [(.long ((1536 : Int64) * (900000 : Int64)))])) (fun _ hr => XT.lmul X1.here hx rfl (hb hby d2_8) rfl hr) ?_
  refine Go.st (T' := T1) (g' := (mkF m 10 #[.val (.long p0), .second, .val (.int (2 : Int32)), .val (.long ((1536 : Int64) * (900000 : Int64))), .second] [])) (fun _ hr => XT.lstoreN X1.here hx rfl (hb hby d2_9) rfl (l' := #[.val (.long p0), .second, .val (.int (2 : Int32)), .val (.long ((1536 : Int64) * (900000 : Int64))), .second]) rfl hr) ?_
  refine Go.st (T' := T1) (g' := (mkF m 11 #[.val (.long p0), .second, .val (.int (2 : Int32)), .val (.long ((1536 : Int64) * (900000 : Int64))), .second] [(.long p0)])) (fun _ hr => XT.lloadN X1.here hx rfl (hb hby d2_10) rfl hr) ?_
  refine Go.st (T' := T1) (g' := (mkF m 12 #[.val (.long p0), .second, .val (.int (2 : Int32)), .val (.long ((1536 : Int64) * (900000 : Int64))), .second] [(.long ((1536 : Int64) * (900000 : Int64))), (.long p0)])) (fun _ hr => XT.lloadN X1.here hx rfl (hb hby d2_11) rfl hr) ?_
  refine Go.callP X1 hx hZ hown (W := 0) (hw _ (List.mem_of_getElem? (i := 21) rfl)) (hw _ (List.mem_of_getElem? (i := 22) rfl)) (hw _ (List.mem_of_getElem? (i := 23) rfl)) (hw _ (List.mem_of_getElem? (i := 24) rfl)) (by decide) e1 (rm3 l Z a0 hw p0 ((1536 : Int64) * (900000 : Int64)) h0 (own_nz hL)) (by decide) (by decide) (by decide) (by decide) (g := (mkF m 12 #[.val (.long p0), .second, .val (.int (2 : Int32)), .val (.long ((1536 : Int64) * (900000 : Int64))), .second] [(.long ((1536 : Int64) * (900000 : Int64))), (.long p0)])) rfl (by rw [hml]; rfl) (argsL := [(.long p0), (.long ((1536 : Int64) * (900000 : Int64)))]) (rest := []) (lenOf pd_1 rfl) rfl (by show 2 * 0 + _ ≤ _; exact Nat.le_of_eq rfl) (hb hby d2_12) (fun T3 X3 e3 => ?_)
  show Go p.tables e below (Fin s (PQ (.long ((f3 p0 ((1536 : Int64) * (900000 : Int64))) * ((1536 : Int64) * (900000 : Int64)))) h0) ({ frames := 2, cells := 0, slots := 0, locals := 34 } : Room).cells ({ frames := 2, cells := 0, slots := 0, locals := 34 } : Room).slots) T3 (mkF m 15 #[.val (.long p0), .second, .val (.int (2 : Int32)), .val (.long ((1536 : Int64) * (900000 : Int64))), .second] [(.long (f3 p0 ((1536 : Int64) * (900000 : Int64))))])
  refine Go.st (T' := T3) (g' := (mkF m 16 #[.val (.long p0), .second, .val (.int (2 : Int32)), .val (.long ((1536 : Int64) * (900000 : Int64))), .second] [(.long ((1536 : Int64) * (900000 : Int64))), (.long (f3 p0 ((1536 : Int64) * (900000 : Int64))))])) (fun _ hr => XT.lloadN X3.here hx rfl (hb hby d2_15) rfl hr) ?_
  refine Go.callP X3 hx hZ hown (W := 0) (hw _ (List.mem_of_getElem? (i := 25) rfl)) (hw _ (List.mem_of_getElem? (i := 26) rfl)) (hw _ (List.mem_of_getElem? (i := 23) rfl)) (hw _ (List.mem_of_getElem? (i := 27) rfl)) (by decide) e3 (rm4 l Z a0 hw (f3 p0 ((1536 : Int64) * (900000 : Int64))) ((1536 : Int64) * (900000 : Int64)) h0 (own_nz hL) (own_mx hR hL).1 (own_mx hR hL).2) (by decide) (by decide) (by decide) (by decide) (g := (mkF m 16 #[.val (.long p0), .second, .val (.int (2 : Int32)), .val (.long ((1536 : Int64) * (900000 : Int64))), .second] [(.long ((1536 : Int64) * (900000 : Int64))), (.long (f3 p0 ((1536 : Int64) * (900000 : Int64))))])) rfl (by rw [hml]; rfl) (argsL := [(.long (f3 p0 ((1536 : Int64) * (900000 : Int64)))), (.long ((1536 : Int64) * (900000 : Int64)))]) (rest := []) (lenOf pd_1 rfl) rfl (by show 2 * 0 + _ ≤ _; exact Nat.le_of_eq rfl) (hb hby d2_16) (fun T4 X4 e4 => ?_)
  show Go p.tables e below (Fin s (PQ (.long ((f3 p0 ((1536 : Int64) * (900000 : Int64))) * ((1536 : Int64) * (900000 : Int64)))) h0) ({ frames := 2, cells := 0, slots := 0, locals := 34 } : Room).cells ({ frames := 2, cells := 0, slots := 0, locals := 34 } : Room).slots) T4 (mkF m 19 #[.val (.long p0), .second, .val (.int (2 : Int32)), .val (.long ((1536 : Int64) * (900000 : Int64))), .second] [(.long ((f3 p0 ((1536 : Int64) * (900000 : Int64))) * ((1536 : Int64) * (900000 : Int64))))])
  exact Go.retJ X4 hx hlk hret (hb hby d2_19) (by decide) (by decide) ⟨rfl, rfl, e4⟩
theorem d6_0 : decode prog_19_method_9_code 0 = .ok (.lload_n 1, 1) := by decide +kernel
theorem d6_1 : decode prog_19_method_9_code 1 = .ok (.aload_n 0, 1) := by decide +kernel
theorem d6_2 : decode prog_19_method_9_code 2 = .ok (.invokevirtual 69, 3) := by decide +kernel
theorem d6_5 : decode prog_19_method_9_code 5 = .ok (.invokestatic 73, 3) := by decide +kernel
theorem d6_8 : decode prog_19_method_9_code 8 = .ok (.aload_n 0, 1) := by decide +kernel
theorem d6_9 : decode prog_19_method_9_code 9 = .ok (.invokevirtual 69, 3) := by decide +kernel
theorem d6_12 : decode prog_19_method_9_code 12 = .ok (.invokestatic 79, 3) := by decide +kernel
theorem d6_15 : decode prog_19_method_9_code 15 = .ok (.lreturn, 1) := by decide +kernel
theorem ef_rm6_1 (m : MethodId) (a : Addr) (p1 : Int64)  : entryFrame m #[(.ref a), (.long p1)] 3 = mkF m 0 #[.val (.ref a), .val (.long p1), .second] [] := by first | (simp [entryFrame, mkF, argsToLocals, Value.category]; done) | rfl
set_option maxRecDepth 65536 in
set_option maxHeartbeats 40000000 in
theorem rm6_1 (l : Launch) (Z : State) (a0 : Array Value) (hw : ∀ d ∈ tables_1, d.before a0 Z = true) (a : Addr) (p1 : Int64)  (h0 : Heap) (E0 : Exa Z h0 a "com/example/rugged_meter/ruggedmeter/TimeRange$Period") (F0 : Fld Z h0 a "com/example/rugged_meter/ruggedmeter/TimeRange$Period" "intervals" "J" (.long (1 : Int64))) (hR : own_R p1) :
    MetQ l Z (⟨"com/example/rugged_meter/ruggedmeter/TimeRange$Period", "startOf", "(J)J"⟩ : MethodName) prog_19_method_9_code 3 (some .long) [] ({ frames := 2, cells := 0, slots := 0, locals := 34 } : Room) #[(.ref a), (.long p1)] h0 (PQ (.long ((f3 p1 ((1 : Int64) * (900000 : Int64))) * ((1 : Int64) * (900000 : Int64)))) h0) := by
  refine MetQ.body (plainFor_of_name pn_0) fun p e s m below meth c s₁ hx hby hml hown hnm hret hlk hZ e0 X0 => Go.cast (ef_rm6_1 m a p1) ?_
  have hL : own_L ((1 : Int64) * (900000 : Int64)) := own_Lc _ (by decide +kernel)
  refine Go.st (T' := s₁) (g' := (mkF m 1 #[.val (.ref a), .val (.long p1), .second] [(.long p1)])) (fun _ hr => XT.lloadN X0.here hx rfl (hb hby d6_0) rfl hr) ?_
  refine Go.st (T' := s₁) (g' := (mkF m 2 #[.val (.ref a), .val (.long p1), .second] [(.ref a), (.long p1)])) (fun _ hr => XS.aloadN X0.here hx rfl (hb hby d6_1) rfl rfl hr) ?_
  refine Go.callV X0 hx hZ hown (W := 2) (y := (⟨"com/example/rugged_meter/ruggedmeter/TimeRange$Period", "millis", "()J"⟩ : MethodName)) (hw _ (List.mem_of_getElem? (i := 36) rfl)) (hw _ (List.mem_of_getElem? (i := 37) rfl)) (hw _ (List.mem_of_getElem? (i := 39) rfl)) (hw _ (List.mem_of_getElem? (i := 38) rfl)) (hw _ (List.mem_of_getElem? (i := 2) rfl)) (hw _ (List.mem_of_getElem? (i := 40) rfl)) (by decide) rfl e0 E0 (rm7 l Z a0 hw a (1 : Int64)  h0 F0) (by decide) (by decide) (by decide) (by decide) (g := (mkF m 2 #[.val (.ref a), .val (.long p1), .second] [(.ref a), (.long p1)])) rfl (by rw [hml]; rfl) (argsL := []) (rest := [(.long p1)]) (lenOf pd_2 rfl) rfl (by show 2 * 0 + _ ≤ _; exact Nat.le_of_eq rfl) (hb hby d6_2) (fun v1 T1 L1 X1 q1 => ?_)
  obtain ⟨rfl, rfl, e1⟩ := q1
  rw [List.append_nil] at X1
  show Go p.tables e below (Fin s (PQ (.long ((f3 p1 ((1 : Int64) * (900000 : Int64))) * ((1 : Int64) * (900000 : Int64)))) h0) ({ frames := 2, cells := 0, slots := 0, locals := 34 } : Room).cells ({ frames := 2, cells := 0, slots := 0, locals := 34 } : Room).slots) T1 (mkF m 5 #[.val (.ref a), .val (.long p1), .second] [(.long ((1 : Int64) * (900000 : Int64))), (.long p1)])
  refine Go.callP X1 hx hZ hown (W := 0) (hw _ (List.mem_of_getElem? (i := 42) rfl)) (hw _ (List.mem_of_getElem? (i := 22) rfl)) (hw _ (List.mem_of_getElem? (i := 23) rfl)) (hw _ (List.mem_of_getElem? (i := 24) rfl)) (by decide) e1 (rm3 l Z a0 hw p1 ((1 : Int64) * (900000 : Int64)) h0 (own_nz hL)) (by decide) (by decide) (by decide) (by decide) (g := (mkF m 5 #[.val (.ref a), .val (.long p1), .second] [(.long ((1 : Int64) * (900000 : Int64))), (.long p1)])) rfl (by rw [hml]; rfl) (argsL := [(.long p1), (.long ((1 : Int64) * (900000 : Int64)))]) (rest := []) (lenOf pd_1 rfl) rfl (by show 2 * 0 + _ ≤ _; exact Nat.le_of_eq rfl) (hb hby d6_5) (fun T2 X2 e2 => ?_)
  show Go p.tables e below (Fin s (PQ (.long ((f3 p1 ((1 : Int64) * (900000 : Int64))) * ((1 : Int64) * (900000 : Int64)))) h0) ({ frames := 2, cells := 0, slots := 0, locals := 34 } : Room).cells ({ frames := 2, cells := 0, slots := 0, locals := 34 } : Room).slots) T2 (mkF m 8 #[.val (.ref a), .val (.long p1), .second] [(.long (f3 p1 ((1 : Int64) * (900000 : Int64))))])
  refine Go.st (T' := T2) (g' := (mkF m 9 #[.val (.ref a), .val (.long p1), .second] [(.ref a), (.long (f3 p1 ((1 : Int64) * (900000 : Int64))))])) (fun _ hr => XS.aloadN X2.here hx rfl (hb hby d6_8) rfl rfl hr) ?_
  refine Go.callV X2 hx hZ hown (W := 2) (y := (⟨"com/example/rugged_meter/ruggedmeter/TimeRange$Period", "millis", "()J"⟩ : MethodName)) (hw _ (List.mem_of_getElem? (i := 36) rfl)) (hw _ (List.mem_of_getElem? (i := 37) rfl)) (hw _ (List.mem_of_getElem? (i := 39) rfl)) (hw _ (List.mem_of_getElem? (i := 38) rfl)) (hw _ (List.mem_of_getElem? (i := 2) rfl)) (hw _ (List.mem_of_getElem? (i := 40) rfl)) (by decide) rfl e2 E0 (rm7 l Z a0 hw a (1 : Int64)  h0 F0) (by decide) (by decide) (by decide) (by decide) (g := (mkF m 9 #[.val (.ref a), .val (.long p1), .second] [(.ref a), (.long (f3 p1 ((1 : Int64) * (900000 : Int64))))])) rfl (by rw [hml]; rfl) (argsL := []) (rest := [(.long (f3 p1 ((1 : Int64) * (900000 : Int64))))]) (lenOf pd_2 rfl) rfl (by show 2 * 0 + _ ≤ _; exact Nat.le_of_eq rfl) (hb hby d6_9) (fun v3 T3 L3 X3 q3 => ?_)
  obtain ⟨rfl, rfl, e3⟩ := q3
  rw [List.append_nil] at X3
  show Go p.tables e below (Fin s (PQ (.long ((f3 p1 ((1 : Int64) * (900000 : Int64))) * ((1 : Int64) * (900000 : Int64)))) h0) ({ frames := 2, cells := 0, slots := 0, locals := 34 } : Room).cells ({ frames := 2, cells := 0, slots := 0, locals := 34 } : Room).slots) T3 (mkF m 12 #[.val (.ref a), .val (.long p1), .second] [(.long ((1 : Int64) * (900000 : Int64))), (.long (f3 p1 ((1 : Int64) * (900000 : Int64))))])
  refine Go.callP X3 hx hZ hown (W := 0) (hw _ (List.mem_of_getElem? (i := 43) rfl)) (hw _ (List.mem_of_getElem? (i := 26) rfl)) (hw _ (List.mem_of_getElem? (i := 23) rfl)) (hw _ (List.mem_of_getElem? (i := 27) rfl)) (by decide) e3 (rm4 l Z a0 hw (f3 p1 ((1 : Int64) * (900000 : Int64))) ((1 : Int64) * (900000 : Int64)) h0 (own_nz hL) (own_mx hR hL).1 (own_mx hR hL).2) (by decide) (by decide) (by decide) (by decide) (g := (mkF m 12 #[.val (.ref a), .val (.long p1), .second] [(.long ((1 : Int64) * (900000 : Int64))), (.long (f3 p1 ((1 : Int64) * (900000 : Int64))))])) rfl (by rw [hml]; rfl) (argsL := [(.long (f3 p1 ((1 : Int64) * (900000 : Int64)))), (.long ((1 : Int64) * (900000 : Int64)))]) (rest := []) (lenOf pd_1 rfl) rfl (by show 2 * 0 + _ ≤ _; exact Nat.le_of_eq rfl) (hb hby d6_12) (fun T4 X4 e4 => ?_)
  show Go p.tables e below (Fin s (PQ (.long ((f3 p1 ((1 : Int64) * (900000 : Int64))) * ((1 : Int64) * (900000 : Int64)))) h0) ({ frames := 2, cells := 0, slots := 0, locals := 34 } : Room).cells ({ frames := 2, cells := 0, slots := 0, locals := 34 } : Room).slots) T4 (mkF m 15 #[.val (.ref a), .val (.long p1), .second] [(.long ((f3 p1 ((1 : Int64) * (900000 : Int64))) * ((1 : Int64) * (900000 : Int64))))])
  exact Go.retJ X4 hx hlk hret (hb hby d6_15) (by decide) (by decide) ⟨rfl, rfl, e4⟩
theorem pd_4 : parseMethodDescriptor "()I" = some ⟨[], some .int⟩ := by decide +kernel
theorem d1_0 : decode prog_19_method_8_code 0 = .ok (.iconst 0, 1) := by decide +kernel
theorem d1_1 : decode prog_19_method_8_code 1 = .ok (.istore_n 1, 1) := by decide +kernel
theorem d1_2 : decode prog_19_method_8_code 2 = .ok (.iload_n 1, 1) := by decide +kernel
theorem d1_3 : decode prog_19_method_8_code 3 = .ok (.iconst 1, 1) := by decide +kernel
theorem d1_4 : decode prog_19_method_8_code 4 = .ok (.iadd, 1) := by decide +kernel
theorem d1_5 : decode prog_19_method_8_code 5 = .ok (.getstatic 61, 3) := by decide +kernel
theorem d1_8 : decode prog_19_method_8_code 8 = .ok (.if_icmp .ge 26, 3) := by decide +kernel
theorem d1_11 : decode prog_19_method_8_code 11 = .ok (.aload_n 0, 1) := by decide +kernel
theorem d1_12 : decode prog_19_method_8_code 12 = .ok (.getfield 38, 3) := by decide +kernel
theorem d1_15 : decode prog_19_method_8_code 15 = .ok (.getstatic 65, 3) := by decide +kernel
theorem d1_18 : decode prog_19_method_8_code 18 = .ok (.iload_n 1, 1) := by decide +kernel
theorem d1_19 : decode prog_19_method_8_code 19 = .ok (.iconst 1, 1) := by decide +kernel
theorem d1_20 : decode prog_19_method_8_code 20 = .ok (.iadd, 1) := by decide +kernel
theorem d1_21 : decode prog_19_method_8_code 21 = .ok (.laload, 1) := by decide +kernel
theorem d1_22 : decode prog_19_method_8_code 22 = .ok (.lrem, 1) := by decide +kernel
theorem d1_23 : decode prog_19_method_8_code 23 = .ok (.lconst 0, 1) := by decide +kernel
theorem d1_24 : decode prog_19_method_8_code 24 = .ok (.lcmp, 1) := by decide +kernel
theorem d1_25 : decode prog_19_method_8_code 25 = .ok (.ifCond .ne 9, 3) := by decide +kernel
theorem d1_28 : decode prog_19_method_8_code 28 = .ok (.iinc 1 1, 3) := by decide +kernel
theorem d1_31 : decode prog_19_method_8_code 31 = .ok (.goto (-29), 3) := by decide +kernel
theorem d1_34 : decode prog_19_method_8_code 34 = .ok (.iload_n 1, 1) := by decide +kernel
theorem d1_35 : decode prog_19_method_8_code 35 = .ok (.ireturn, 1) := by decide +kernel
theorem ef_rm1_1 (m : MethodId) (a : Addr)  : entryFrame m #[(.ref a)] 2 = mkF m 0 #[.val (.ref a), .unset] [] := by first | (simp [entryFrame, mkF, argsToLocals, Value.category]; done) | rfl
set_option maxRecDepth 65536 in
set_option maxHeartbeats 40000000 in
theorem rm1_1 (l : Launch) (Z : State) (a0 : Array Value) (hw : ∀ d ∈ tables_1, d.before a0 Z = true) (a : Addr) (sa : Addr) (ka : ClassId)  (h0 : Heap) (E0 : Exa Z h0 a "com/example/rugged_meter/ruggedmeter/TimeRange$Period") (F0 : Fld Z h0 a "com/example/rugged_meter/ruggedmeter/TimeRange$Period" "intervals" "J" (.long (1 : Int64))) (G1 : Sta Z h0 "com/example/rugged_meter/ruggedmeter/TimeRange" "SCALES" "I" (.int (5 : Int32))) (G2 : Sta Z h0 "com/example/rugged_meter/ruggedmeter/TimeRange" "SCALE_INTERVALS" "[J" (.ref sa)) (V0 : Arv Z h0 sa ka .long (5 : Int32) own_si (.long (0 : Int64))) :
    MetQ l Z (⟨"com/example/rugged_meter/ruggedmeter/TimeRange$Period", "scale", "()I"⟩ : MethodName) prog_19_method_8_code 2 (some .int) [] ({ frames := 0, cells := 0, slots := 0, locals := 0 } : Room) #[(.ref a)] h0 (PQ (.int (0 : Int32)) h0) := by
  refine MetQ.body (plainFor_of_name pn_0) fun p e s m below meth c s₁ hx hby hml hown hnm hret hlk hZ e0 X0 => Go.cast (ef_rm1_1 m a) ?_
  refine Go.st (T' := s₁) (g' := (mkF m 1 #[.val (.ref a), .unset] [(.int (0 : Int32))])) (fun _ hr => XT.iconstV X0.here hx rfl (0 : Int32) (hb hby d1_0) (by decide) hr) ?_
  refine Go.st (T' := s₁) (g' := (mkF m 2 #[.val (.ref a), .val (.int (0 : Int32))] [])) (fun _ hr => XS.istoreN X0.here hx rfl (hb hby d1_1) rfl (l' := #[.val (.ref a), .val (.int (0 : Int32))]) rfl hr) ?_
  refine Go.st (T' := s₁) (g' := (mkF m 3 #[.val (.ref a), .val (.int (0 : Int32))] [(.int (0 : Int32))])) (fun _ hr => XS.iloadN X0.here hx rfl (hb hby d1_2) rfl hr) ?_
  refine Go.st (T' := s₁) (g' := (mkF m 4 #[.val (.ref a), .val (.int (0 : Int32))] [(.int (1 : Int32)), (.int (0 : Int32))])) (fun _ hr => XT.iconstV X0.here hx rfl (1 : Int32) (hb hby d1_3) (by decide) hr) ?_
  refine Go.st (T' := s₁) (g' := (mkF m 5 #[.val (.ref a), .val (.int (0 : Int32))] [(.int ((0 : Int32) + (1 : Int32)))])) (fun _ hr => XS.iadd X0.here hx rfl (hb hby d1_4) rfl hr) ?_
  obtain ⟨T1, X1, e1, st1⟩ := getS2 X0 hx hZ hown (host := "") (Or.inl (hw _ (List.mem_of_getElem? (i := 9) rfl))) Via.refl e0 G1 (g := (mkF m 5 #[.val (.ref a), .val (.int (0 : Int32))] [(.int ((0 : Int32) + (1 : Int32)))])) rfl (hb hby d1_5)
  refine Go.st (T' := T1) (g' := (mkF m 8 #[.val (.ref a), .val (.int (0 : Int32))] [(.int (5 : Int32)), (.int ((0 : Int32) + (1 : Int32)))])) st1 ?_
  refine Go.st (T' := T1) (g' := (mkF m 11 #[.val (.ref a), .val (.int (0 : Int32))] [])) (fun _ hr => XS.icmpNo X1.here hx rfl (hb hby d1_8) rfl (XT.ii_ge_f (by decide)) hr) ?_
  refine Go.st (T' := T1) (g' := (mkF m 12 #[.val (.ref a), .val (.int (0 : Int32))] [(.ref a)])) (fun _ hr => XS.aloadN X1.here hx rfl (hb hby d1_11) rfl rfl hr) ?_
  obtain ⟨T2, X2, e2, st2⟩ := getF X1 hx hZ hown (host := "") (Or.inl (hw _ (List.mem_of_getElem? (i := 12) rfl))) Via.refl e1 F0 (g := (mkF m 12 #[.val (.ref a), .val (.int (0 : Int32))] [(.ref a)])) rfl rfl (hb hby d1_12)
  refine Go.st (T' := T2) (g' := (mkF m 15 #[.val (.ref a), .val (.int (0 : Int32))] [(.long (1 : Int64))])) st2 ?_
  obtain ⟨T3, X3, e3, st3⟩ := getS2 X2 hx hZ hown (Or.inr (hw _ (List.mem_of_getElem? (i := 14) rfl))) Via.refl e2 G2 (g := (mkF m 15 #[.val (.ref a), .val (.int (0 : Int32))] [(.long (1 : Int64))])) rfl (hb hby d1_15)
  refine Go.st (T' := T3) (g' := (mkF m 18 #[.val (.ref a), .val (.int (0 : Int32))] [(.ref sa), (.long (1 : Int64))])) st3 ?_
  refine Go.st (T' := T3) (g' := (mkF m 19 #[.val (.ref a), .val (.int (0 : Int32))] [(.int (0 : Int32)), (.ref sa), (.long (1 : Int64))])) (fun _ hr => XS.iloadN X3.here hx rfl (hb hby d1_18) rfl hr) ?_
  refine Go.st (T' := T3) (g' := (mkF m 20 #[.val (.ref a), .val (.int (0 : Int32))] [(.int (1 : Int32)), (.int (0 : Int32)), (.ref sa), (.long (1 : Int64))])) (fun _ hr => XT.iconstV X3.here hx rfl (1 : Int32) (hb hby d1_19) (by decide) hr) ?_
  refine Go.st (T' := T3) (g' := (mkF m 21 #[.val (.ref a), .val (.int (0 : Int32))] [(.int ((0 : Int32) + (1 : Int32))), (.ref sa), (.long (1 : Int64))])) (fun _ hr => XS.iadd X3.here hx rfl (hb hby d1_20) rfl hr) ?_
  obtain ⟨cl4, Ar4, qa4, S4, M4, H4, U4⟩ := (id V0)
  refine Go.st (T' := T3) (g' := (mkF m 22 #[.val (.ref a), .val (.int (0 : Int32))] [(.long (96 : Int64)), (.long (1 : Int64))])) (fun t hr => X3.laload hx (j := ((0 : Int32) + (1 : Int32))) (v := (.long (96 : Int64))) (by rw [e3]; exact Ar4.1) (State.isArrayOf_alike hZ.alike Ar4.2.1) Ar4.2.2 (inb_of S4 ⟨by decide, by decide⟩) (H4.at (inb_of S4 ⟨by decide, by decide⟩) rfl) (g := (mkF m 21 #[.val (.ref a), .val (.int (0 : Int32))] [(.int ((0 : Int32) + (1 : Int32))), (.ref sa), (.long (1 : Int64))])) rfl rfl (hb hby d1_21) t hr) ?_
  refine Go.st (T' := T3) (g' := (mkF m 23 #[.val (.ref a), .val (.int (0 : Int32))] [(.long ((1 : Int64) - ((1 : Int64) / (96 : Int64)) * (96 : Int64)))])) (fun _ hr => XT.lrem X3.here hx rfl (hb hby d1_22) rfl (by decide) hr) ?_
  refine Go.st (T' := T3) (g' := (mkF m 24 #[.val (.ref a), .val (.int (0 : Int32))] [(.long (0 : Int64)), (.long ((1 : Int64) - ((1 : Int64) / (96 : Int64)) * (96 : Int64)))])) (fun _ hr => XT.lconstV X3.here hx rfl (0 : Int64) (hb hby d1_23) (by decide) hr) ?_
  refine Go.st (T' := T3) (g' := (mkF m 25 #[.val (.ref a), .val (.int (0 : Int32))] [(.int (XT.cmpL ((1 : Int64) - ((1 : Int64) / (96 : Int64)) * (96 : Int64)) (0 : Int64)))])) (fun _ hr => XT.lcmp X3.here hx rfl (hb hby d1_24) rfl hr) ?_
  refine Go.st (T' := T3) (g' := (mkF m 34 #[.val (.ref a), .val (.int (0 : Int32))] [])) (fun _ hr => XS.ifYes X3.here hx rfl (pc0 := 25) (pc' := 34) rfl (hb hby d1_25) rfl (XT.ll_ne_t (by decide)) (by decide) (by decide) hr) ?_
  refine Go.st (T' := T3) (g' := (mkF m 35 #[.val (.ref a), .val (.int (0 : Int32))] [(.int (0 : Int32))])) (fun _ hr => XS.iloadN X3.here hx rfl (hb hby d1_34) rfl hr) ?_
  exact Go.retI X3 hx hlk hret (hb hby d1_35) (by decide) (by decide) ⟨rfl, rfl, e3⟩
theorem ef_rm6_4 (m : MethodId) (a : Addr) (p1 : Int64)  : entryFrame m #[(.ref a), (.long p1)] 3 = mkF m 0 #[.val (.ref a), .val (.long p1), .second] [] := by first | (simp [entryFrame, mkF, argsToLocals, Value.category]; done) | rfl
set_option maxRecDepth 65536 in
set_option maxHeartbeats 40000000 in
theorem rm6_4 (l : Launch) (Z : State) (a0 : Array Value) (hw : ∀ d ∈ tables_1, d.before a0 Z = true) (a : Addr) (p1 : Int64)  (h0 : Heap) (E0 : Exa Z h0 a "com/example/rugged_meter/ruggedmeter/TimeRange$Period") (F0 : Fld Z h0 a "com/example/rugged_meter/ruggedmeter/TimeRange$Period" "intervals" "J" (.long (4 : Int64))) (hR : own_R p1) :
    MetQ l Z (⟨"com/example/rugged_meter/ruggedmeter/TimeRange$Period", "startOf", "(J)J"⟩ : MethodName) prog_19_method_9_code 3 (some .long) [] ({ frames := 2, cells := 0, slots := 0, locals := 34 } : Room) #[(.ref a), (.long p1)] h0 (PQ (.long ((f3 p1 ((4 : Int64) * (900000 : Int64))) * ((4 : Int64) * (900000 : Int64)))) h0) := by
  refine MetQ.body (plainFor_of_name pn_0) fun p e s m below meth c s₁ hx hby hml hown hnm hret hlk hZ e0 X0 => Go.cast (ef_rm6_4 m a p1) ?_
  have hL : own_L ((4 : Int64) * (900000 : Int64)) := own_Lc _ (by decide +kernel)
  refine Go.st (T' := s₁) (g' := (mkF m 1 #[.val (.ref a), .val (.long p1), .second] [(.long p1)])) (fun _ hr => XT.lloadN X0.here hx rfl (hb hby d6_0) rfl hr) ?_
  refine Go.st (T' := s₁) (g' := (mkF m 2 #[.val (.ref a), .val (.long p1), .second] [(.ref a), (.long p1)])) (fun _ hr => XS.aloadN X0.here hx rfl (hb hby d6_1) rfl rfl hr) ?_
  refine Go.callV X0 hx hZ hown (W := 2) (y := (⟨"com/example/rugged_meter/ruggedmeter/TimeRange$Period", "millis", "()J"⟩ : MethodName)) (hw _ (List.mem_of_getElem? (i := 36) rfl)) (hw _ (List.mem_of_getElem? (i := 37) rfl)) (hw _ (List.mem_of_getElem? (i := 39) rfl)) (hw _ (List.mem_of_getElem? (i := 38) rfl)) (hw _ (List.mem_of_getElem? (i := 2) rfl)) (hw _ (List.mem_of_getElem? (i := 40) rfl)) (by decide) rfl e0 E0 (rm7 l Z a0 hw a (4 : Int64)  h0 F0) (by decide) (by decide) (by decide) (by decide) (g := (mkF m 2 #[.val (.ref a), .val (.long p1), .second] [(.ref a), (.long p1)])) rfl (by rw [hml]; rfl) (argsL := []) (rest := [(.long p1)]) (lenOf pd_2 rfl) rfl (by show 2 * 0 + _ ≤ _; exact Nat.le_of_eq rfl) (hb hby d6_2) (fun v1 T1 L1 X1 q1 => ?_)
  obtain ⟨rfl, rfl, e1⟩ := q1
  rw [List.append_nil] at X1
  show Go p.tables e below (Fin s (PQ (.long ((f3 p1 ((4 : Int64) * (900000 : Int64))) * ((4 : Int64) * (900000 : Int64)))) h0) ({ frames := 2, cells := 0, slots := 0, locals := 34 } : Room).cells ({ frames := 2, cells := 0, slots := 0, locals := 34 } : Room).slots) T1 (mkF m 5 #[.val (.ref a), .val (.long p1), .second] [(.long ((4 : Int64) * (900000 : Int64))), (.long p1)])
  refine Go.callP X1 hx hZ hown (W := 0) (hw _ (List.mem_of_getElem? (i := 42) rfl)) (hw _ (List.mem_of_getElem? (i := 22) rfl)) (hw _ (List.mem_of_getElem? (i := 23) rfl)) (hw _ (List.mem_of_getElem? (i := 24) rfl)) (by decide) e1 (rm3 l Z a0 hw p1 ((4 : Int64) * (900000 : Int64)) h0 (own_nz hL)) (by decide) (by decide) (by decide) (by decide) (g := (mkF m 5 #[.val (.ref a), .val (.long p1), .second] [(.long ((4 : Int64) * (900000 : Int64))), (.long p1)])) rfl (by rw [hml]; rfl) (argsL := [(.long p1), (.long ((4 : Int64) * (900000 : Int64)))]) (rest := []) (lenOf pd_1 rfl) rfl (by show 2 * 0 + _ ≤ _; exact Nat.le_of_eq rfl) (hb hby d6_5) (fun T2 X2 e2 => ?_)
  show Go p.tables e below (Fin s (PQ (.long ((f3 p1 ((4 : Int64) * (900000 : Int64))) * ((4 : Int64) * (900000 : Int64)))) h0) ({ frames := 2, cells := 0, slots := 0, locals := 34 } : Room).cells ({ frames := 2, cells := 0, slots := 0, locals := 34 } : Room).slots) T2 (mkF m 8 #[.val (.ref a), .val (.long p1), .second] [(.long (f3 p1 ((4 : Int64) * (900000 : Int64))))])
  refine Go.st (T' := T2) (g' := (mkF m 9 #[.val (.ref a), .val (.long p1), .second] [(.ref a), (.long (f3 p1 ((4 : Int64) * (900000 : Int64))))])) (fun _ hr => XS.aloadN X2.here hx rfl (hb hby d6_8) rfl rfl hr) ?_
  refine Go.callV X2 hx hZ hown (W := 2) (y := (⟨"com/example/rugged_meter/ruggedmeter/TimeRange$Period", "millis", "()J"⟩ : MethodName)) (hw _ (List.mem_of_getElem? (i := 36) rfl)) (hw _ (List.mem_of_getElem? (i := 37) rfl)) (hw _ (List.mem_of_getElem? (i := 39) rfl)) (hw _ (List.mem_of_getElem? (i := 38) rfl)) (hw _ (List.mem_of_getElem? (i := 2) rfl)) (hw _ (List.mem_of_getElem? (i := 40) rfl)) (by decide) rfl e2 E0 (rm7 l Z a0 hw a (4 : Int64)  h0 F0) (by decide) (by decide) (by decide) (by decide) (g := (mkF m 9 #[.val (.ref a), .val (.long p1), .second] [(.ref a), (.long (f3 p1 ((4 : Int64) * (900000 : Int64))))])) rfl (by rw [hml]; rfl) (argsL := []) (rest := [(.long (f3 p1 ((4 : Int64) * (900000 : Int64))))]) (lenOf pd_2 rfl) rfl (by show 2 * 0 + _ ≤ _; exact Nat.le_of_eq rfl) (hb hby d6_9) (fun v3 T3 L3 X3 q3 => ?_)
  obtain ⟨rfl, rfl, e3⟩ := q3
  rw [List.append_nil] at X3
  show Go p.tables e below (Fin s (PQ (.long ((f3 p1 ((4 : Int64) * (900000 : Int64))) * ((4 : Int64) * (900000 : Int64)))) h0) ({ frames := 2, cells := 0, slots := 0, locals := 34 } : Room).cells ({ frames := 2, cells := 0, slots := 0, locals := 34 } : Room).slots) T3 (mkF m 12 #[.val (.ref a), .val (.long p1), .second] [(.long ((4 : Int64) * (900000 : Int64))), (.long (f3 p1 ((4 : Int64) * (900000 : Int64))))])
  refine Go.callP X3 hx hZ hown (W := 0) (hw _ (List.mem_of_getElem? (i := 43) rfl)) (hw _ (List.mem_of_getElem? (i := 26) rfl)) (hw _ (List.mem_of_getElem? (i := 23) rfl)) (hw _ (List.mem_of_getElem? (i := 27) rfl)) (by decide) e3 (rm4 l Z a0 hw (f3 p1 ((4 : Int64) * (900000 : Int64))) ((4 : Int64) * (900000 : Int64)) h0 (own_nz hL) (own_mx hR hL).1 (own_mx hR hL).2) (by decide) (by decide) (by decide) (by decide) (g := (mkF m 12 #[.val (.ref a), .val (.long p1), .second] [(.long ((4 : Int64) * (900000 : Int64))), (.long (f3 p1 ((4 : Int64) * (900000 : Int64))))])) rfl (by rw [hml]; rfl) (argsL := [(.long (f3 p1 ((4 : Int64) * (900000 : Int64)))), (.long ((4 : Int64) * (900000 : Int64)))]) (rest := []) (lenOf pd_1 rfl) rfl (by show 2 * 0 + _ ≤ _; exact Nat.le_of_eq rfl) (hb hby d6_12) (fun T4 X4 e4 => ?_)
  show Go p.tables e below (Fin s (PQ (.long ((f3 p1 ((4 : Int64) * (900000 : Int64))) * ((4 : Int64) * (900000 : Int64)))) h0) ({ frames := 2, cells := 0, slots := 0, locals := 34 } : Room).cells ({ frames := 2, cells := 0, slots := 0, locals := 34 } : Room).slots) T4 (mkF m 15 #[.val (.ref a), .val (.long p1), .second] [(.long ((f3 p1 ((4 : Int64) * (900000 : Int64))) * ((4 : Int64) * (900000 : Int64))))])
  exact Go.retJ X4 hx hlk hret (hb hby d6_15) (by decide) (by decide) ⟨rfl, rfl, e4⟩
theorem ef_rm1_4 (m : MethodId) (a : Addr)  : entryFrame m #[(.ref a)] 2 = mkF m 0 #[.val (.ref a), .unset] [] := by first | (simp [entryFrame, mkF, argsToLocals, Value.category]; done) | rfl
set_option maxRecDepth 65536 in
set_option maxHeartbeats 40000000 in
theorem rm1_4 (l : Launch) (Z : State) (a0 : Array Value) (hw : ∀ d ∈ tables_1, d.before a0 Z = true) (a : Addr) (sa : Addr) (ka : ClassId)  (h0 : Heap) (E0 : Exa Z h0 a "com/example/rugged_meter/ruggedmeter/TimeRange$Period") (F0 : Fld Z h0 a "com/example/rugged_meter/ruggedmeter/TimeRange$Period" "intervals" "J" (.long (4 : Int64))) (G1 : Sta Z h0 "com/example/rugged_meter/ruggedmeter/TimeRange" "SCALES" "I" (.int (5 : Int32))) (G2 : Sta Z h0 "com/example/rugged_meter/ruggedmeter/TimeRange" "SCALE_INTERVALS" "[J" (.ref sa)) (V0 : Arv Z h0 sa ka .long (5 : Int32) own_si (.long (0 : Int64))) :
    MetQ l Z (⟨"com/example/rugged_meter/ruggedmeter/TimeRange$Period", "scale", "()I"⟩ : MethodName) prog_19_method_8_code 2 (some .int) [] ({ frames := 0, cells := 0, slots := 0, locals := 0 } : Room) #[(.ref a)] h0 (PQ (.int (0 : Int32)) h0) := by
  refine MetQ.body (plainFor_of_name pn_0) fun p e s m below meth c s₁ hx hby hml hown hnm hret hlk hZ e0 X0 => Go.cast (ef_rm1_4 m a) ?_
  refine Go.st (T' := s₁) (g' := (mkF m 1 #[.val (.ref a), .unset] [(.int (0 : Int32))])) (fun _ hr => XT.iconstV X0.here hx rfl (0 : Int32) (hb hby d1_0) (by decide) hr) ?_
  refine Go.st (T' := s₁) (g' := (mkF m 2 #[.val (.ref a), .val (.int (0 : Int32))] [])) (fun _ hr => XS.istoreN X0.here hx rfl (hb hby d1_1) rfl (l' := #[.val (.ref a), .val (.int (0 : Int32))]) rfl hr) ?_
  refine Go.st (T' := s₁) (g' := (mkF m 3 #[.val (.ref a), .val (.int (0 : Int32))] [(.int (0 : Int32))])) (fun _ hr => XS.iloadN X0.here hx rfl (hb hby d1_2) rfl hr) ?_
  refine Go.st (T' := s₁) (g' := (mkF m 4 #[.val (.ref a), .val (.int (0 : Int32))] [(.int (1 : Int32)), (.int (0 : Int32))])) (fun _ hr => XT.iconstV X0.here hx rfl (1 : Int32) (hb hby d1_3) (by decide) hr) ?_
  refine Go.st (T' := s₁) (g' := (mkF m 5 #[.val (.ref a), .val (.int (0 : Int32))] [(.int ((0 : Int32) + (1 : Int32)))])) (fun _ hr => XS.iadd X0.here hx rfl (hb hby d1_4) rfl hr) ?_
  obtain ⟨T1, X1, e1, st1⟩ := getS2 X0 hx hZ hown (host := "") (Or.inl (hw _ (List.mem_of_getElem? (i := 9) rfl))) Via.refl e0 G1 (g := (mkF m 5 #[.val (.ref a), .val (.int (0 : Int32))] [(.int ((0 : Int32) + (1 : Int32)))])) rfl (hb hby d1_5)
  refine Go.st (T' := T1) (g' := (mkF m 8 #[.val (.ref a), .val (.int (0 : Int32))] [(.int (5 : Int32)), (.int ((0 : Int32) + (1 : Int32)))])) st1 ?_
  refine Go.st (T' := T1) (g' := (mkF m 11 #[.val (.ref a), .val (.int (0 : Int32))] [])) (fun _ hr => XS.icmpNo X1.here hx rfl (hb hby d1_8) rfl (XT.ii_ge_f (by decide)) hr) ?_
  refine Go.st (T' := T1) (g' := (mkF m 12 #[.val (.ref a), .val (.int (0 : Int32))] [(.ref a)])) (fun _ hr => XS.aloadN X1.here hx rfl (hb hby d1_11) rfl rfl hr) ?_
  obtain ⟨T2, X2, e2, st2⟩ := getF X1 hx hZ hown (host := "") (Or.inl (hw _ (List.mem_of_getElem? (i := 12) rfl))) Via.refl e1 F0 (g := (mkF m 12 #[.val (.ref a), .val (.int (0 : Int32))] [(.ref a)])) rfl rfl (hb hby d1_12)
  refine Go.st (T' := T2) (g' := (mkF m 15 #[.val (.ref a), .val (.int (0 : Int32))] [(.long (4 : Int64))])) st2 ?_
  obtain ⟨T3, X3, e3, st3⟩ := getS2 X2 hx hZ hown (Or.inr (hw _ (List.mem_of_getElem? (i := 14) rfl))) Via.refl e2 G2 (g := (mkF m 15 #[.val (.ref a), .val (.int (0 : Int32))] [(.long (4 : Int64))])) rfl (hb hby d1_15)
  refine Go.st (T' := T3) (g' := (mkF m 18 #[.val (.ref a), .val (.int (0 : Int32))] [(.ref sa), (.long (4 : Int64))])) st3 ?_
  refine Go.st (T' := T3) (g' := (mkF m 19 #[.val (.ref a), .val (.int (0 : Int32))] [(.int (0 : Int32)), (.ref sa), (.long (4 : Int64))])) (fun _ hr => XS.iloadN X3.here hx rfl (hb hby d1_18) rfl hr) ?_
  refine Go.st (T' := T3) (g' := (mkF m 20 #[.val (.ref a), .val (.int (0 : Int32))] [(.int (1 : Int32)), (.int (0 : Int32)), (.ref sa), (.long (4 : Int64))])) (fun _ hr => XT.iconstV X3.here hx rfl (1 : Int32) (hb hby d1_19) (by decide) hr) ?_
  refine Go.st (T' := T3) (g' := (mkF m 21 #[.val (.ref a), .val (.int (0 : Int32))] [(.int ((0 : Int32) + (1 : Int32))), (.ref sa), (.long (4 : Int64))])) (fun _ hr => XS.iadd X3.here hx rfl (hb hby d1_20) rfl hr) ?_
  obtain ⟨cl4, Ar4, qa4, S4, M4, H4, U4⟩ := (id V0)
  refine Go.st (T' := T3) (g' := (mkF m 22 #[.val (.ref a), .val (.int (0 : Int32))] [(.long (96 : Int64)), (.long (4 : Int64))])) (fun t hr => X3.laload hx (j := ((0 : Int32) + (1 : Int32))) (v := (.long (96 : Int64))) (by rw [e3]; exact Ar4.1) (State.isArrayOf_alike hZ.alike Ar4.2.1) Ar4.2.2 (inb_of S4 ⟨by decide, by decide⟩) (H4.at (inb_of S4 ⟨by decide, by decide⟩) rfl) (g := (mkF m 21 #[.val (.ref a), .val (.int (0 : Int32))] [(.int ((0 : Int32) + (1 : Int32))), (.ref sa), (.long (4 : Int64))])) rfl rfl (hb hby d1_21) t hr) ?_
  refine Go.st (T' := T3) (g' := (mkF m 23 #[.val (.ref a), .val (.int (0 : Int32))] [(.long ((4 : Int64) - ((4 : Int64) / (96 : Int64)) * (96 : Int64)))])) (fun _ hr => XT.lrem X3.here hx rfl (hb hby d1_22) rfl (by decide) hr) ?_
  refine Go.st (T' := T3) (g' := (mkF m 24 #[.val (.ref a), .val (.int (0 : Int32))] [(.long (0 : Int64)), (.long ((4 : Int64) - ((4 : Int64) / (96 : Int64)) * (96 : Int64)))])) (fun _ hr => XT.lconstV X3.here hx rfl (0 : Int64) (hb hby d1_23) (by decide) hr) ?_
  refine Go.st (T' := T3) (g' := (mkF m 25 #[.val (.ref a), .val (.int (0 : Int32))] [(.int (XT.cmpL ((4 : Int64) - ((4 : Int64) / (96 : Int64)) * (96 : Int64)) (0 : Int64)))])) (fun _ hr => XT.lcmp X3.here hx rfl (hb hby d1_24) rfl hr) ?_
  refine Go.st (T' := T3) (g' := (mkF m 34 #[.val (.ref a), .val (.int (0 : Int32))] [])) (fun _ hr => XS.ifYes X3.here hx rfl (pc0 := 25) (pc' := 34) rfl (hb hby d1_25) rfl (XT.ll_ne_t (by decide)) (by decide) (by decide) hr) ?_
  refine Go.st (T' := T3) (g' := (mkF m 35 #[.val (.ref a), .val (.int (0 : Int32))] [(.int (0 : Int32))])) (fun _ hr => XS.iloadN X3.here hx rfl (hb hby d1_34) rfl hr) ?_
  exact Go.retI X3 hx hlk hret (hb hby d1_35) (by decide) (by decide) ⟨rfl, rfl, e3⟩
theorem ef_rm6_96 (m : MethodId) (a : Addr) (p1 : Int64)  : entryFrame m #[(.ref a), (.long p1)] 3 = mkF m 0 #[.val (.ref a), .val (.long p1), .second] [] := by first | (simp [entryFrame, mkF, argsToLocals, Value.category]; done) | rfl
set_option maxRecDepth 65536 in
set_option maxHeartbeats 40000000 in
theorem rm6_96 (l : Launch) (Z : State) (a0 : Array Value) (hw : ∀ d ∈ tables_1, d.before a0 Z = true) (a : Addr) (p1 : Int64)  (h0 : Heap) (E0 : Exa Z h0 a "com/example/rugged_meter/ruggedmeter/TimeRange$Period") (F0 : Fld Z h0 a "com/example/rugged_meter/ruggedmeter/TimeRange$Period" "intervals" "J" (.long (96 : Int64))) (hR : own_R p1) :
    MetQ l Z (⟨"com/example/rugged_meter/ruggedmeter/TimeRange$Period", "startOf", "(J)J"⟩ : MethodName) prog_19_method_9_code 3 (some .long) [] ({ frames := 2, cells := 0, slots := 0, locals := 34 } : Room) #[(.ref a), (.long p1)] h0 (PQ (.long ((f3 p1 ((96 : Int64) * (900000 : Int64))) * ((96 : Int64) * (900000 : Int64)))) h0) := by
  refine MetQ.body (plainFor_of_name pn_0) fun p e s m below meth c s₁ hx hby hml hown hnm hret hlk hZ e0 X0 => Go.cast (ef_rm6_96 m a p1) ?_
  have hL : own_L ((96 : Int64) * (900000 : Int64)) := own_Lc _ (by decide +kernel)
  refine Go.st (T' := s₁) (g' := (mkF m 1 #[.val (.ref a), .val (.long p1), .second] [(.long p1)])) (fun _ hr => XT.lloadN X0.here hx rfl (hb hby d6_0) rfl hr) ?_
  refine Go.st (T' := s₁) (g' := (mkF m 2 #[.val (.ref a), .val (.long p1), .second] [(.ref a), (.long p1)])) (fun _ hr => XS.aloadN X0.here hx rfl (hb hby d6_1) rfl rfl hr) ?_
  refine Go.callV X0 hx hZ hown (W := 2) (y := (⟨"com/example/rugged_meter/ruggedmeter/TimeRange$Period", "millis", "()J"⟩ : MethodName)) (hw _ (List.mem_of_getElem? (i := 36) rfl)) (hw _ (List.mem_of_getElem? (i := 37) rfl)) (hw _ (List.mem_of_getElem? (i := 39) rfl)) (hw _ (List.mem_of_getElem? (i := 38) rfl)) (hw _ (List.mem_of_getElem? (i := 2) rfl)) (hw _ (List.mem_of_getElem? (i := 40) rfl)) (by decide) rfl e0 E0 (rm7 l Z a0 hw a (96 : Int64)  h0 F0) (by decide) (by decide) (by decide) (by decide) (g := (mkF m 2 #[.val (.ref a), .val (.long p1), .second] [(.ref a), (.long p1)])) rfl (by rw [hml]; rfl) (argsL := []) (rest := [(.long p1)]) (lenOf pd_2 rfl) rfl (by show 2 * 0 + _ ≤ _; exact Nat.le_of_eq rfl) (hb hby d6_2) (fun v1 T1 L1 X1 q1 => ?_)
  obtain ⟨rfl, rfl, e1⟩ := q1
  rw [List.append_nil] at X1
  show Go p.tables e below (Fin s (PQ (.long ((f3 p1 ((96 : Int64) * (900000 : Int64))) * ((96 : Int64) * (900000 : Int64)))) h0) ({ frames := 2, cells := 0, slots := 0, locals := 34 } : Room).cells ({ frames := 2, cells := 0, slots := 0, locals := 34 } : Room).slots) T1 (mkF m 5 #[.val (.ref a), .val (.long p1), .second] [(.long ((96 : Int64) * (900000 : Int64))), (.long p1)])
  refine Go.callP X1 hx hZ hown (W := 0) (hw _ (List.mem_of_getElem? (i := 42) rfl)) (hw _ (List.mem_of_getElem? (i := 22) rfl)) (hw _ (List.mem_of_getElem? (i := 23) rfl)) (hw _ (List.mem_of_getElem? (i := 24) rfl)) (by decide) e1 (rm3 l Z a0 hw p1 ((96 : Int64) * (900000 : Int64)) h0 (own_nz hL)) (by decide) (by decide) (by decide) (by decide) (g := (mkF m 5 #[.val (.ref a), .val (.long p1), .second] [(.long ((96 : Int64) * (900000 : Int64))), (.long p1)])) rfl (by rw [hml]; rfl) (argsL := [(.long p1), (.long ((96 : Int64) * (900000 : Int64)))]) (rest := []) (lenOf pd_1 rfl) rfl (by show 2 * 0 + _ ≤ _; exact Nat.le_of_eq rfl) (hb hby d6_5) (fun T2 X2 e2 => ?_)
  show Go p.tables e below (Fin s (PQ (.long ((f3 p1 ((96 : Int64) * (900000 : Int64))) * ((96 : Int64) * (900000 : Int64)))) h0) ({ frames := 2, cells := 0, slots := 0, locals := 34 } : Room).cells ({ frames := 2, cells := 0, slots := 0, locals := 34 } : Room).slots) T2 (mkF m 8 #[.val (.ref a), .val (.long p1), .second] [(.long (f3 p1 ((96 : Int64) * (900000 : Int64))))])
  refine Go.st (T' := T2) (g' := (mkF m 9 #[.val (.ref a), .val (.long p1), .second] [(.ref a), (.long (f3 p1 ((96 : Int64) * (900000 : Int64))))])) (fun _ hr => XS.aloadN X2.here hx rfl (hb hby d6_8) rfl rfl hr) ?_
  refine Go.callV X2 hx hZ hown (W := 2) (y := (⟨"com/example/rugged_meter/ruggedmeter/TimeRange$Period", "millis", "()J"⟩ : MethodName)) (hw _ (List.mem_of_getElem? (i := 36) rfl)) (hw _ (List.mem_of_getElem? (i := 37) rfl)) (hw _ (List.mem_of_getElem? (i := 39) rfl)) (hw _ (List.mem_of_getElem? (i := 38) rfl)) (hw _ (List.mem_of_getElem? (i := 2) rfl)) (hw _ (List.mem_of_getElem? (i := 40) rfl)) (by decide) rfl e2 E0 (rm7 l Z a0 hw a (96 : Int64)  h0 F0) (by decide) (by decide) (by decide) (by decide) (g := (mkF m 9 #[.val (.ref a), .val (.long p1), .second] [(.ref a), (.long (f3 p1 ((96 : Int64) * (900000 : Int64))))])) rfl (by rw [hml]; rfl) (argsL := []) (rest := [(.long (f3 p1 ((96 : Int64) * (900000 : Int64))))]) (lenOf pd_2 rfl) rfl (by show 2 * 0 + _ ≤ _; exact Nat.le_of_eq rfl) (hb hby d6_9) (fun v3 T3 L3 X3 q3 => ?_)
  obtain ⟨rfl, rfl, e3⟩ := q3
  rw [List.append_nil] at X3
  show Go p.tables e below (Fin s (PQ (.long ((f3 p1 ((96 : Int64) * (900000 : Int64))) * ((96 : Int64) * (900000 : Int64)))) h0) ({ frames := 2, cells := 0, slots := 0, locals := 34 } : Room).cells ({ frames := 2, cells := 0, slots := 0, locals := 34 } : Room).slots) T3 (mkF m 12 #[.val (.ref a), .val (.long p1), .second] [(.long ((96 : Int64) * (900000 : Int64))), (.long (f3 p1 ((96 : Int64) * (900000 : Int64))))])
  refine Go.callP X3 hx hZ hown (W := 0) (hw _ (List.mem_of_getElem? (i := 43) rfl)) (hw _ (List.mem_of_getElem? (i := 26) rfl)) (hw _ (List.mem_of_getElem? (i := 23) rfl)) (hw _ (List.mem_of_getElem? (i := 27) rfl)) (by decide) e3 (rm4 l Z a0 hw (f3 p1 ((96 : Int64) * (900000 : Int64))) ((96 : Int64) * (900000 : Int64)) h0 (own_nz hL) (own_mx hR hL).1 (own_mx hR hL).2) (by decide) (by decide) (by decide) (by decide) (g := (mkF m 12 #[.val (.ref a), .val (.long p1), .second] [(.long ((96 : Int64) * (900000 : Int64))), (.long (f3 p1 ((96 : Int64) * (900000 : Int64))))])) rfl (by rw [hml]; rfl) (argsL := [(.long (f3 p1 ((96 : Int64) * (900000 : Int64)))), (.long ((96 : Int64) * (900000 : Int64)))]) (rest := []) (lenOf pd_1 rfl) rfl (by show 2 * 0 + _ ≤ _; exact Nat.le_of_eq rfl) (hb hby d6_12) (fun T4 X4 e4 => ?_)
  show Go p.tables e below (Fin s (PQ (.long ((f3 p1 ((96 : Int64) * (900000 : Int64))) * ((96 : Int64) * (900000 : Int64)))) h0) ({ frames := 2, cells := 0, slots := 0, locals := 34 } : Room).cells ({ frames := 2, cells := 0, slots := 0, locals := 34 } : Room).slots) T4 (mkF m 15 #[.val (.ref a), .val (.long p1), .second] [(.long ((f3 p1 ((96 : Int64) * (900000 : Int64))) * ((96 : Int64) * (900000 : Int64))))])
  exact Go.retJ X4 hx hlk hret (hb hby d6_15) (by decide) (by decide) ⟨rfl, rfl, e4⟩
theorem ef_rm1_96 (m : MethodId) (a : Addr)  : entryFrame m #[(.ref a)] 2 = mkF m 0 #[.val (.ref a), .unset] [] := by first | (simp [entryFrame, mkF, argsToLocals, Value.category]; done) | rfl
set_option maxRecDepth 65536 in
set_option maxHeartbeats 40000000 in
theorem rm1_96 (l : Launch) (Z : State) (a0 : Array Value) (hw : ∀ d ∈ tables_1, d.before a0 Z = true) (a : Addr) (sa : Addr) (ka : ClassId)  (h0 : Heap) (E0 : Exa Z h0 a "com/example/rugged_meter/ruggedmeter/TimeRange$Period") (F0 : Fld Z h0 a "com/example/rugged_meter/ruggedmeter/TimeRange$Period" "intervals" "J" (.long (96 : Int64))) (G1 : Sta Z h0 "com/example/rugged_meter/ruggedmeter/TimeRange" "SCALES" "I" (.int (5 : Int32))) (G2 : Sta Z h0 "com/example/rugged_meter/ruggedmeter/TimeRange" "SCALE_INTERVALS" "[J" (.ref sa)) (V0 : Arv Z h0 sa ka .long (5 : Int32) own_si (.long (0 : Int64))) :
    MetQ l Z (⟨"com/example/rugged_meter/ruggedmeter/TimeRange$Period", "scale", "()I"⟩ : MethodName) prog_19_method_8_code 2 (some .int) [] ({ frames := 0, cells := 0, slots := 0, locals := 0 } : Room) #[(.ref a)] h0 (PQ (.int (1 : Int32)) h0) := by
  refine MetQ.body (plainFor_of_name pn_0) fun p e s m below meth c s₁ hx hby hml hown hnm hret hlk hZ e0 X0 => Go.cast (ef_rm1_96 m a) ?_
  refine Go.st (T' := s₁) (g' := (mkF m 1 #[.val (.ref a), .unset] [(.int (0 : Int32))])) (fun _ hr => XT.iconstV X0.here hx rfl (0 : Int32) (hb hby d1_0) (by decide) hr) ?_
  refine Go.st (T' := s₁) (g' := (mkF m 2 #[.val (.ref a), .val (.int (0 : Int32))] [])) (fun _ hr => XS.istoreN X0.here hx rfl (hb hby d1_1) rfl (l' := #[.val (.ref a), .val (.int (0 : Int32))]) rfl hr) ?_
  refine Go.st (T' := s₁) (g' := (mkF m 3 #[.val (.ref a), .val (.int (0 : Int32))] [(.int (0 : Int32))])) (fun _ hr => XS.iloadN X0.here hx rfl (hb hby d1_2) rfl hr) ?_
  refine Go.st (T' := s₁) (g' := (mkF m 4 #[.val (.ref a), .val (.int (0 : Int32))] [(.int (1 : Int32)), (.int (0 : Int32))])) (fun _ hr => XT.iconstV X0.here hx rfl (1 : Int32) (hb hby d1_3) (by decide) hr) ?_
  refine Go.st (T' := s₁) (g' := (mkF m 5 #[.val (.ref a), .val (.int (0 : Int32))] [(.int ((0 : Int32) + (1 : Int32)))])) (fun _ hr => XS.iadd X0.here hx rfl (hb hby d1_4) rfl hr) ?_
  obtain ⟨T1, X1, e1, st1⟩ := getS2 X0 hx hZ hown (host := "") (Or.inl (hw _ (List.mem_of_getElem? (i := 9) rfl))) Via.refl e0 G1 (g := (mkF m 5 #[.val (.ref a), .val (.int (0 : Int32))] [(.int ((0 : Int32) + (1 : Int32)))])) rfl (hb hby d1_5)
  refine Go.st (T' := T1) (g' := (mkF m 8 #[.val (.ref a), .val (.int (0 : Int32))] [(.int (5 : Int32)), (.int ((0 : Int32) + (1 : Int32)))])) st1 ?_
  refine Go.st (T' := T1) (g' := (mkF m 11 #[.val (.ref a), .val (.int (0 : Int32))] [])) (fun _ hr => XS.icmpNo X1.here hx rfl (hb hby d1_8) rfl (XT.ii_ge_f (by decide)) hr) ?_
  refine Go.st (T' := T1) (g' := (mkF m 12 #[.val (.ref a), .val (.int (0 : Int32))] [(.ref a)])) (fun _ hr => XS.aloadN X1.here hx rfl (hb hby d1_11) rfl rfl hr) ?_
  obtain ⟨T2, X2, e2, st2⟩ := getF X1 hx hZ hown (host := "") (Or.inl (hw _ (List.mem_of_getElem? (i := 12) rfl))) Via.refl e1 F0 (g := (mkF m 12 #[.val (.ref a), .val (.int (0 : Int32))] [(.ref a)])) rfl rfl (hb hby d1_12)
  refine Go.st (T' := T2) (g' := (mkF m 15 #[.val (.ref a), .val (.int (0 : Int32))] [(.long (96 : Int64))])) st2 ?_
  obtain ⟨T3, X3, e3, st3⟩ := getS2 X2 hx hZ hown (Or.inr (hw _ (List.mem_of_getElem? (i := 14) rfl))) Via.refl e2 G2 (g := (mkF m 15 #[.val (.ref a), .val (.int (0 : Int32))] [(.long (96 : Int64))])) rfl (hb hby d1_15)
  refine Go.st (T' := T3) (g' := (mkF m 18 #[.val (.ref a), .val (.int (0 : Int32))] [(.ref sa), (.long (96 : Int64))])) st3 ?_
  refine Go.st (T' := T3) (g' := (mkF m 19 #[.val (.ref a), .val (.int (0 : Int32))] [(.int (0 : Int32)), (.ref sa), (.long (96 : Int64))])) (fun _ hr => XS.iloadN X3.here hx rfl (hb hby d1_18) rfl hr) ?_
  refine Go.st (T' := T3) (g' := (mkF m 20 #[.val (.ref a), .val (.int (0 : Int32))] [(.int (1 : Int32)), (.int (0 : Int32)), (.ref sa), (.long (96 : Int64))])) (fun _ hr => XT.iconstV X3.here hx rfl (1 : Int32) (hb hby d1_19) (by decide) hr) ?_
  refine Go.st (T' := T3) (g' := (mkF m 21 #[.val (.ref a), .val (.int (0 : Int32))] [(.int ((0 : Int32) + (1 : Int32))), (.ref sa), (.long (96 : Int64))])) (fun _ hr => XS.iadd X3.here hx rfl (hb hby d1_20) rfl hr) ?_
  obtain ⟨cl4, Ar4, qa4, S4, M4, H4, U4⟩ := (id V0)
  refine Go.st (T' := T3) (g' := (mkF m 22 #[.val (.ref a), .val (.int (0 : Int32))] [(.long (96 : Int64)), (.long (96 : Int64))])) (fun t hr => X3.laload hx (j := ((0 : Int32) + (1 : Int32))) (v := (.long (96 : Int64))) (by rw [e3]; exact Ar4.1) (State.isArrayOf_alike hZ.alike Ar4.2.1) Ar4.2.2 (inb_of S4 ⟨by decide, by decide⟩) (H4.at (inb_of S4 ⟨by decide, by decide⟩) rfl) (g := (mkF m 21 #[.val (.ref a), .val (.int (0 : Int32))] [(.int ((0 : Int32) + (1 : Int32))), (.ref sa), (.long (96 : Int64))])) rfl rfl (hb hby d1_21) t hr) ?_
  refine Go.st (T' := T3) (g' := (mkF m 23 #[.val (.ref a), .val (.int (0 : Int32))] [(.long ((96 : Int64) - ((96 : Int64) / (96 : Int64)) * (96 : Int64)))])) (fun _ hr => XT.lrem X3.here hx rfl (hb hby d1_22) rfl (by decide) hr) ?_
  refine Go.st (T' := T3) (g' := (mkF m 24 #[.val (.ref a), .val (.int (0 : Int32))] [(.long (0 : Int64)), (.long ((96 : Int64) - ((96 : Int64) / (96 : Int64)) * (96 : Int64)))])) (fun _ hr => XT.lconstV X3.here hx rfl (0 : Int64) (hb hby d1_23) (by decide) hr) ?_
  refine Go.st (T' := T3) (g' := (mkF m 25 #[.val (.ref a), .val (.int (0 : Int32))] [(.int (XT.cmpL ((96 : Int64) - ((96 : Int64) / (96 : Int64)) * (96 : Int64)) (0 : Int64)))])) (fun _ hr => XT.lcmp X3.here hx rfl (hb hby d1_24) rfl hr) ?_
  refine Go.st (T' := T3) (g' := (mkF m 28 #[.val (.ref a), .val (.int (0 : Int32))] [])) (fun _ hr => XS.ifNo X3.here hx rfl (hb hby d1_25) rfl (XT.ll_ne_f (by decide)) hr) ?_
  refine Go.st (T' := T3) (g' := (mkF m 31 #[.val (.ref a), .val (.int (1 : Int32))] [])) (fun _ hr => XT.iincV X3.here hx rfl (1 : Int32) (hb hby d1_28) (by decide) rfl (l' := #[.val (.ref a), .val (.int (1 : Int32))]) rfl hr) ?_
  refine Go.st (T' := T3) (g' := (mkF m 2 #[.val (.ref a), .val (.int (1 : Int32))] [])) (fun _ hr => XS.goto X3.here hx rfl (pc0 := 31) (pc' := 2) rfl (hb hby d1_31) (by decide) (by decide) hr) ?_
  refine Go.st (T' := T3) (g' := (mkF m 3 #[.val (.ref a), .val (.int (1 : Int32))] [(.int (1 : Int32))])) (fun _ hr => XS.iloadN X3.here hx rfl (hb hby d1_2) rfl hr) ?_
  refine Go.st (T' := T3) (g' := (mkF m 4 #[.val (.ref a), .val (.int (1 : Int32))] [(.int (1 : Int32)), (.int (1 : Int32))])) (fun _ hr => XT.iconstV X3.here hx rfl (1 : Int32) (hb hby d1_3) (by decide) hr) ?_
  refine Go.st (T' := T3) (g' := (mkF m 5 #[.val (.ref a), .val (.int (1 : Int32))] [(.int ((1 : Int32) + (1 : Int32)))])) (fun _ hr => XS.iadd X3.here hx rfl (hb hby d1_4) rfl hr) ?_
  obtain ⟨T5, X5, e5, st5⟩ := getS2 X3 hx hZ hown (host := "") (Or.inl (hw _ (List.mem_of_getElem? (i := 9) rfl))) Via.refl e3 G1 (g := (mkF m 5 #[.val (.ref a), .val (.int (1 : Int32))] [(.int ((1 : Int32) + (1 : Int32)))])) rfl (hb hby d1_5)
  refine Go.st (T' := T5) (g' := (mkF m 8 #[.val (.ref a), .val (.int (1 : Int32))] [(.int (5 : Int32)), (.int ((1 : Int32) + (1 : Int32)))])) st5 ?_
  refine Go.st (T' := T5) (g' := (mkF m 11 #[.val (.ref a), .val (.int (1 : Int32))] [])) (fun _ hr => XS.icmpNo X5.here hx rfl (hb hby d1_8) rfl (XT.ii_ge_f (by decide)) hr) ?_
  refine Go.st (T' := T5) (g' := (mkF m 12 #[.val (.ref a), .val (.int (1 : Int32))] [(.ref a)])) (fun _ hr => XS.aloadN X5.here hx rfl (hb hby d1_11) rfl rfl hr) ?_
  obtain ⟨T6, X6, e6, st6⟩ := getF X5 hx hZ hown (host := "") (Or.inl (hw _ (List.mem_of_getElem? (i := 12) rfl))) Via.refl e5 F0 (g := (mkF m 12 #[.val (.ref a), .val (.int (1 : Int32))] [(.ref a)])) rfl rfl (hb hby d1_12)
  refine Go.st (T' := T6) (g' := (mkF m 15 #[.val (.ref a), .val (.int (1 : Int32))] [(.long (96 : Int64))])) st6 ?_
  obtain ⟨T7, X7, e7, st7⟩ := getS2 X6 hx hZ hown (Or.inr (hw _ (List.mem_of_getElem? (i := 14) rfl))) Via.refl e6 G2 (g := (mkF m 15 #[.val (.ref a), .val (.int (1 : Int32))] [(.long (96 : Int64))])) rfl (hb hby d1_15)
  refine Go.st (T' := T7) (g' := (mkF m 18 #[.val (.ref a), .val (.int (1 : Int32))] [(.ref sa), (.long (96 : Int64))])) st7 ?_
  refine Go.st (T' := T7) (g' := (mkF m 19 #[.val (.ref a), .val (.int (1 : Int32))] [(.int (1 : Int32)), (.ref sa), (.long (96 : Int64))])) (fun _ hr => XS.iloadN X7.here hx rfl (hb hby d1_18) rfl hr) ?_
  refine Go.st (T' := T7) (g' := (mkF m 20 #[.val (.ref a), .val (.int (1 : Int32))] [(.int (1 : Int32)), (.int (1 : Int32)), (.ref sa), (.long (96 : Int64))])) (fun _ hr => XT.iconstV X7.here hx rfl (1 : Int32) (hb hby d1_19) (by decide) hr) ?_
  refine Go.st (T' := T7) (g' := (mkF m 21 #[.val (.ref a), .val (.int (1 : Int32))] [(.int ((1 : Int32) + (1 : Int32))), (.ref sa), (.long (96 : Int64))])) (fun _ hr => XS.iadd X7.here hx rfl (hb hby d1_20) rfl hr) ?_
  obtain ⟨cl8, Ar8, qa8, S8, M8, H8, U8⟩ := (id V0)
  refine Go.st (T' := T7) (g' := (mkF m 22 #[.val (.ref a), .val (.int (1 : Int32))] [(.long (1536 : Int64)), (.long (96 : Int64))])) (fun t hr => X7.laload hx (j := ((1 : Int32) + (1 : Int32))) (v := (.long (1536 : Int64))) (by rw [e7]; exact Ar8.1) (State.isArrayOf_alike hZ.alike Ar8.2.1) Ar8.2.2 (inb_of S8 ⟨by decide, by decide⟩) (H8.at (inb_of S8 ⟨by decide, by decide⟩) rfl) (g := (mkF m 21 #[.val (.ref a), .val (.int (1 : Int32))] [(.int ((1 : Int32) + (1 : Int32))), (.ref sa), (.long (96 : Int64))])) rfl rfl (hb hby d1_21) t hr) ?_
  refine Go.st (T' := T7) (g' := (mkF m 23 #[.val (.ref a), .val (.int (1 : Int32))] [(.long ((96 : Int64) - ((96 : Int64) / (1536 : Int64)) * (1536 : Int64)))])) (fun _ hr => XT.lrem X7.here hx rfl (hb hby d1_22) rfl (by decide) hr) ?_
  refine Go.st (T' := T7) (g' := (mkF m 24 #[.val (.ref a), .val (.int (1 : Int32))] [(.long (0 : Int64)), (.long ((96 : Int64) - ((96 : Int64) / (1536 : Int64)) * (1536 : Int64)))])) (fun _ hr => XT.lconstV X7.here hx rfl (0 : Int64) (hb hby d1_23) (by decide) hr) ?_
  refine Go.st (T' := T7) (g' := (mkF m 25 #[.val (.ref a), .val (.int (1 : Int32))] [(.int (XT.cmpL ((96 : Int64) - ((96 : Int64) / (1536 : Int64)) * (1536 : Int64)) (0 : Int64)))])) (fun _ hr => XT.lcmp X7.here hx rfl (hb hby d1_24) rfl hr) ?_
  refine Go.st (T' := T7) (g' := (mkF m 34 #[.val (.ref a), .val (.int (1 : Int32))] [])) (fun _ hr => XS.ifYes X7.here hx rfl (pc0 := 25) (pc' := 34) rfl (hb hby d1_25) rfl (XT.ll_ne_t (by decide)) (by decide) (by decide) hr) ?_
  refine Go.st (T' := T7) (g' := (mkF m 35 #[.val (.ref a), .val (.int (1 : Int32))] [(.int (1 : Int32))])) (fun _ hr => XS.iloadN X7.here hx rfl (hb hby d1_34) rfl hr) ?_
  exact Go.retI X7 hx hlk hret (hb hby d1_35) (by decide) (by decide) ⟨rfl, rfl, e7⟩
theorem pd_5 : parseMethodDescriptor "(IJ)Z" = some ⟨[.int, .long], some .boolean⟩ := by decide +kernel
theorem pn_2 : plainName "com/example/rugged_meter/ruggedmeter/PeriodScalePinLaw" = true := by first | (simp [plainName, overriddenIn]; done) | decide +kernel
theorem ef_rm0 (m : MethodId) (p0 : Int32) (p1 : Int64)  : entryFrame m #[(.int p0), (.long p1)] maxLocals = mkF m 0 #[.val (.int p0), .val (.long p1), .second, .unset, .unset, .unset, .unset, .unset, .unset, .unset, .unset, .unset, .unset] [] := by first | (simp [entryFrame, mkF, argsToLocals, Value.category, maxLocals]; done) | rfl
set_option maxRecDepth 65536 in
set_option maxHeartbeats 40000000 in
theorem rm0 (l : Launch) (Z : State) (a0 : Array Value) (hw : ∀ d ∈ tables_1, d.before a0 Z = true) (ws : List Jvm.Cond) (p0 : Int32) (p1 : Int64) (sa : Addr) (ka : ClassId) (b0 : Addr) (b1 : Addr) (b2 : Addr)  (h0 : Heap) (G1 : Sta Z h0 "com/example/rugged_meter/ruggedmeter/TimeRange" "SCALES" "I" (.int (5 : Int32))) (G2 : Sta Z h0 "com/example/rugged_meter/ruggedmeter/TimeRange" "SCALE_INTERVALS" "[J" (.ref sa)) (V0 : Arv Z h0 sa ka .long (5 : Int32) own_si (.long (0 : Int64))) (Q0 : Sta Z h0 "com/example/rugged_meter/ruggedmeter/TimeRange$Period" "INTERVAL" "Lcom/example/rugged_meter/ruggedmeter/TimeRange$Period;" (.ref b0)) (E0 : Exa Z h0 b0 "com/example/rugged_meter/ruggedmeter/TimeRange$Period") (F0 : Fld Z h0 b0 "com/example/rugged_meter/ruggedmeter/TimeRange$Period" "intervals" "J" (.long (1 : Int64))) (Q1 : Sta Z h0 "com/example/rugged_meter/ruggedmeter/TimeRange$Period" "HOUR" "Lcom/example/rugged_meter/ruggedmeter/TimeRange$Period;" (.ref b1)) (E1 : Exa Z h0 b1 "com/example/rugged_meter/ruggedmeter/TimeRange$Period") (F1 : Fld Z h0 b1 "com/example/rugged_meter/ruggedmeter/TimeRange$Period" "intervals" "J" (.long (4 : Int64))) (Q2 : Sta Z h0 "com/example/rugged_meter/ruggedmeter/TimeRange$Period" "DAY" "Lcom/example/rugged_meter/ruggedmeter/TimeRange$Period;" (.ref b2)) (E2 : Exa Z h0 b2 "com/example/rugged_meter/ruggedmeter/TimeRange$Period") (F2 : Fld Z h0 b2 "com/example/rugged_meter/ruggedmeter/TimeRange$Period" "intervals" "J" (.long (96 : Int64))) :
    MetQ l Z x code maxLocals ret ws room_1 #[(.int p0), (.long p1)] h0 (fun v h L => v = some (.int 1) ∧ Fr h0.size L) := by
  refine MetQ.body (plainFor_of_name pn_2) fun p e s m below meth c s₁ hx hby hml hown hnm hret hlk hZ e0 X0 => Go.cast (ef_rm0 m p0 p1) ?_
  have hml : c.maxLocals = 13 := hml
  have hown : s.vm.findClass "com/example/rugged_meter/ruggedmeter/PeriodScalePinLaw" = some m.cls := hown
  have hret : meth.sig.returnType = some .boolean := hret
  refine Go.st (T' := s₁) (g' := (mkF m 1 #[.val (.int p0), .val (.long p1), .second, .unset, .unset, .unset, .unset, .unset, .unset, .unset, .unset, .unset, .unset] [(.int p0)])) (fun _ hr => XS.iloadN X0.here hx rfl (hb hby at_0) rfl hr) ?_
  refine Go.st (T' := s₁) (g' := (mkF m 3 #[.val (.int p0), .val (.long p1), .second, .unset, .unset, .unset, .unset, .unset, .unset, .unset, .unset, .unset, .unset] [(.int (2147483647 : Int32)), (.int p0)])) (fun _ hr => X0.ldcI hx hown (mvT hZ (hw _ (List.mem_of_getElem? (i := 0) rfl))) rfl (hb hby at_1) hr) ?_
  refine Go.st (T' := s₁) (g' := (mkF m 4 #[.val (.int p0), .val (.long p1), .second, .unset, .unset, .unset, .unset, .unset, .unset, .unset, .unset, .unset, .unset] [(.int (p0 &&& (2147483647 : Int32)))])) (fun _ hr => XS.iand X0.here hx rfl (hb hby at_3) rfl hr) ?_
  refine Go.st (T' := s₁) (g' := (mkF m 5 #[.val (.int p0), .val (.long p1), .second, .unset, .unset, .unset, .unset, .unset, .unset, .unset, .unset, .unset, .unset] [(.int (3 : Int32)), (.int (p0 &&& (2147483647 : Int32)))])) (fun _ hr => XT.iconstV X0.here hx rfl (3 : Int32) (hb hby at_4) (by decide) hr) ?_
  refine Go.st (T' := s₁) (g' := (mkF m 6 #[.val (.int p0), .val (.long p1), .second, .unset, .unset, .unset, .unset, .unset, .unset, .unset, .unset, .unset, .unset] [(.int ((p0 &&& (2147483647 : Int32)) - ((p0 &&& (2147483647 : Int32)) / (3 : Int32)) * (3 : Int32)))])) (fun _ hr => XS.irem X0.here hx rfl (hb hby at_5) rfl (by decide) hr) ?_
  refine Go.st (T' := s₁) (g' := (mkF m 7 #[.val (.int p0), .val (.long p1), .second, .val (.int ((p0 &&& (2147483647 : Int32)) - ((p0 &&& (2147483647 : Int32)) / (3 : Int32)) * (3 : Int32))), .unset, .unset, .unset, .unset, .unset, .unset, .unset, .unset, .unset] [])) (fun _ hr => XS.istoreN X0.here hx rfl (hb hby at_6) rfl (l' := #[.val (.int p0), .val (.long p1), .second, .val (.int ((p0 &&& (2147483647 : Int32)) - ((p0 &&& (2147483647 : Int32)) / (3 : Int32)) * (3 : Int32))), .unset, .unset, .unset, .unset, .unset, .unset, .unset, .unset, .unset]) rfl hr) ?_
  refine Go.st (T' := s₁) (g' := (mkF m 8 #[.val (.int p0), .val (.long p1), .second, .val (.int ((p0 &&& (2147483647 : Int32)) - ((p0 &&& (2147483647 : Int32)) / (3 : Int32)) * (3 : Int32))), .unset, .unset, .unset, .unset, .unset, .unset, .unset, .unset, .unset] [(.int ((p0 &&& (2147483647 : Int32)) - ((p0 &&& (2147483647 : Int32)) / (3 : Int32)) * (3 : Int32)))])) (fun _ hr => XS.iloadN X0.here hx rfl (hb hby at_7) rfl hr) ?_
  by_cases c8_1 : ((p0 &&& (2147483647 : Int32)) - ((p0 &&& (2147483647 : Int32)) / (3 : Int32)) * (3 : Int32)) = (0 : Int32)
  · refine Go.st (T' := s₁) (g' := (mkF m 11 #[.val (.int p0), .val (.long p1), .second, .val (.int ((p0 &&& (2147483647 : Int32)) - ((p0 &&& (2147483647 : Int32)) / (3 : Int32)) * (3 : Int32))), .unset, .unset, .unset, .unset, .unset, .unset, .unset, .unset, .unset] [])) (fun _ hr => XS.ifNo X0.here hx rfl (hb hby at_8) rfl (XT.i0_ne_f c8_1) hr) ?_
    obtain ⟨T2, X2, e2, st2⟩ := getS2 X0 hx hZ hown (host := "") (Or.inl (hw _ (List.mem_of_getElem? (i := 1) rfl))) Via.refl e0 Q0 (g := (mkF m 11 #[.val (.int p0), .val (.long p1), .second, .val (.int ((p0 &&& (2147483647 : Int32)) - ((p0 &&& (2147483647 : Int32)) / (3 : Int32)) * (3 : Int32))), .unset, .unset, .unset, .unset, .unset, .unset, .unset, .unset, .unset] [])) rfl (hb hby at_11)
    refine Go.st (T' := T2) (g' := (mkF m 14 #[.val (.int p0), .val (.long p1), .second, .val (.int ((p0 &&& (2147483647 : Int32)) - ((p0 &&& (2147483647 : Int32)) / (3 : Int32)) * (3 : Int32))), .unset, .unset, .unset, .unset, .unset, .unset, .unset, .unset, .unset] [(.ref b0)])) st2 ?_
    refine Go.st (T' := T2) (g' := (mkF m 31 #[.val (.int p0), .val (.long p1), .second, .val (.int ((p0 &&& (2147483647 : Int32)) - ((p0 &&& (2147483647 : Int32)) / (3 : Int32)) * (3 : Int32))), .unset, .unset, .unset, .unset, .unset, .unset, .unset, .unset, .unset] [(.ref b0)])) (fun _ hr => XS.goto X2.here hx rfl (pc0 := 14) (pc' := 31) rfl (hb hby at_14) (by decide) (by decide) hr) ?_
    refine Go.st (T' := T2) (g' := (mkF m 33 #[.val (.int p0), .val (.long p1), .second, .val (.int ((p0 &&& (2147483647 : Int32)) - ((p0 &&& (2147483647 : Int32)) / (3 : Int32)) * (3 : Int32))), .val (.ref b0), .unset, .unset, .unset, .unset, .unset, .unset, .unset, .unset] [])) (fun _ hr => XS.astore X2.here hx rfl (hb hby at_31) rfl rfl (l' := #[.val (.int p0), .val (.long p1), .second, .val (.int ((p0 &&& (2147483647 : Int32)) - ((p0 &&& (2147483647 : Int32)) / (3 : Int32)) * (3 : Int32))), .val (.ref b0), .unset, .unset, .unset, .unset, .unset, .unset, .unset, .unset]) rfl hr) ?_
    refine Go.st (T' := T2) (g' := (mkF m 35 #[.val (.int p0), .val (.long p1), .second, .val (.int ((p0 &&& (2147483647 : Int32)) - ((p0 &&& (2147483647 : Int32)) / (3 : Int32)) * (3 : Int32))), .val (.ref b0), .unset, .unset, .unset, .unset, .unset, .unset, .unset, .unset] [(.ref b0)])) (fun _ hr => XS.aload X2.here hx rfl (hb hby at_33) rfl rfl hr) ?_
    refine Go.callV X2 hx hZ hown (W := 0) (y := (⟨"com/example/rugged_meter/ruggedmeter/TimeRange$Period", "scale", "()I"⟩ : MethodName)) (hw _ (List.mem_of_getElem? (i := 4) rfl)) (hw _ (List.mem_of_getElem? (i := 5) rfl)) (hw _ (List.mem_of_getElem? (i := 7) rfl)) (hw _ (List.mem_of_getElem? (i := 6) rfl)) (hw _ (List.mem_of_getElem? (i := 2) rfl)) (hw _ (List.mem_of_getElem? (i := 8) rfl)) (by decide) rfl e2 E0 (rm1_1 l Z a0 hw b0 sa ka h0 E0 F0 G1 G2 V0) (by decide) (by decide) (by decide) (by decide) (g := (mkF m 35 #[.val (.int p0), .val (.long p1), .second, .val (.int ((p0 &&& (2147483647 : Int32)) - ((p0 &&& (2147483647 : Int32)) / (3 : Int32)) * (3 : Int32))), .val (.ref b0), .unset, .unset, .unset, .unset, .unset, .unset, .unset, .unset] [(.ref b0)])) rfl (by rw [hml]; rfl) (argsL := []) (rest := []) (lenOf pd_4 rfl) rfl (by show 2 * 0 + _ ≤ _; exact Nat.le_of_eq rfl) (hb hby at_35) (fun v3 T3 L3 X3 q3 => ?_)
    obtain ⟨rfl, rfl, e3⟩ := q3
    rw [List.append_nil] at X3
    show Go p.tables e below (Fin s (fun v h L => v = some (.int 1) ∧ Fr h0.size L) room_1.cells room_1.slots) T3 (mkF m 38 #[.val (.int p0), .val (.long p1), .second, .val (.int ((p0 &&& (2147483647 : Int32)) - ((p0 &&& (2147483647 : Int32)) / (3 : Int32)) * (3 : Int32))), .val (.ref b0), .unset, .unset, .unset, .unset, .unset, .unset, .unset, .unset] [(.int (0 : Int32))])
    refine Go.st (T' := T3) (g' := (mkF m 40 #[.val (.int p0), .val (.long p1), .second, .val (.int ((p0 &&& (2147483647 : Int32)) - ((p0 &&& (2147483647 : Int32)) / (3 : Int32)) * (3 : Int32))), .val (.ref b0), .val (.int (0 : Int32)), .unset, .unset, .unset, .unset, .unset, .unset, .unset] [])) (fun _ hr => XS.istore X3.here hx rfl (hb hby at_38) rfl (l' := #[.val (.int p0), .val (.long p1), .second, .val (.int ((p0 &&& (2147483647 : Int32)) - ((p0 &&& (2147483647 : Int32)) / (3 : Int32)) * (3 : Int32))), .val (.ref b0), .val (.int (0 : Int32)), .unset, .unset, .unset, .unset, .unset, .unset, .unset]) rfl hr) ?_
    refine Go.st (T' := T3) (g' := (mkF m 41 #[.val (.int p0), .val (.long p1), .second, .val (.int ((p0 &&& (2147483647 : Int32)) - ((p0 &&& (2147483647 : Int32)) / (3 : Int32)) * (3 : Int32))), .val (.ref b0), .val (.int (0 : Int32)), .unset, .unset, .unset, .unset, .unset, .unset, .unset] [(.int ((p0 &&& (2147483647 : Int32)) - ((p0 &&& (2147483647 : Int32)) / (3 : Int32)) * (3 : Int32)))])) (fun _ hr => XS.iloadN X3.here hx rfl (hb hby at_40) rfl hr) ?_
    refine Go.st (T' := T3) (g' := (mkF m 42 #[.val (.int p0), .val (.long p1), .second, .val (.int ((p0 &&& (2147483647 : Int32)) - ((p0 &&& (2147483647 : Int32)) / (3 : Int32)) * (3 : Int32))), .val (.ref b0), .val (.int (0 : Int32)), .unset, .unset, .unset, .unset, .unset, .unset, .unset] [(.int (2 : Int32)), (.int ((p0 &&& (2147483647 : Int32)) - ((p0 &&& (2147483647 : Int32)) / (3 : Int32)) * (3 : Int32)))])) (fun _ hr => XT.iconstV X3.here hx rfl (2 : Int32) (hb hby at_41) (by decide) hr) ?_
    refine Go.st (T' := T3) (g' := (mkF m 49 #[.val (.int p0), .val (.long p1), .second, .val (.int ((p0 &&& (2147483647 : Int32)) - ((p0 &&& (2147483647 : Int32)) / (3 : Int32)) * (3 : Int32))), .val (.ref b0), .val (.int (0 : Int32)), .unset, .unset, .unset, .unset, .unset, .unset, .unset] [])) (fun _ hr => XS.icmpYes X3.here hx rfl (pc0 := 42) (pc' := 49) rfl (hb hby at_42) rfl (XT.ii_ne_t (own_not2 c8_1 (by decide))) (by decide) (by decide) hr) ?_
    refine Go.st (T' := T3) (g' := (mkF m 50 #[.val (.int p0), .val (.long p1), .second, .val (.int ((p0 &&& (2147483647 : Int32)) - ((p0 &&& (2147483647 : Int32)) / (3 : Int32)) * (3 : Int32))), .val (.ref b0), .val (.int (0 : Int32)), .unset, .unset, .unset, .unset, .unset, .unset, .unset] [(.int (0 : Int32))])) (fun _ hr => XT.iconstV X3.here hx rfl (0 : Int32) (hb hby at_49) (by decide) hr) ?_
    refine Go.st (T' := T3) (g' := (mkF m 52 #[.val (.int p0), .val (.long p1), .second, .val (.int ((p0 &&& (2147483647 : Int32)) - ((p0 &&& (2147483647 : Int32)) / (3 : Int32)) * (3 : Int32))), .val (.ref b0), .val (.int (0 : Int32)), .val (.int (0 : Int32)), .unset, .unset, .unset, .unset, .unset, .unset] [])) (fun _ hr => XS.istore X3.here hx rfl (hb hby at_50) rfl (l' := #[.val (.int p0), .val (.long p1), .second, .val (.int ((p0 &&& (2147483647 : Int32)) - ((p0 &&& (2147483647 : Int32)) / (3 : Int32)) * (3 : Int32))), .val (.ref b0), .val (.int (0 : Int32)), .val (.int (0 : Int32)), .unset, .unset, .unset, .unset, .unset, .unset]) rfl hr) ?_
    refine Go.st (T' := T3) (g' := (mkF m 54 #[.val (.int p0), .val (.long p1), .second, .val (.int ((p0 &&& (2147483647 : Int32)) - ((p0 &&& (2147483647 : Int32)) / (3 : Int32)) * (3 : Int32))), .val (.ref b0), .val (.int (0 : Int32)), .val (.int (0 : Int32)), .unset, .unset, .unset, .unset, .unset, .unset] [(.int (0 : Int32))])) (fun _ hr => XS.iload X3.here hx rfl (hb hby at_52) rfl hr) ?_
    refine Go.st (T' := T3) (g' := (mkF m 56 #[.val (.int p0), .val (.long p1), .second, .val (.int ((p0 &&& (2147483647 : Int32)) - ((p0 &&& (2147483647 : Int32)) / (3 : Int32)) * (3 : Int32))), .val (.ref b0), .val (.int (0 : Int32)), .val (.int (0 : Int32)), .unset, .unset, .unset, .unset, .unset, .unset] [(.int (0 : Int32)), (.int (0 : Int32))])) (fun _ hr => XS.iload X3.here hx rfl (hb hby at_54) rfl hr) ?_
    refine Go.st (T' := T3) (g' := (mkF m 61 #[.val (.int p0), .val (.long p1), .second, .val (.int ((p0 &&& (2147483647 : Int32)) - ((p0 &&& (2147483647 : Int32)) / (3 : Int32)) * (3 : Int32))), .val (.ref b0), .val (.int (0 : Int32)), .val (.int (0 : Int32)), .unset, .unset, .unset, .unset, .unset, .unset] [])) (fun _ hr => XS.icmpYes X3.here hx rfl (pc0 := 56) (pc' := 61) rfl (hb hby at_56) rfl (XT.ii_eq_t (by decide)) (by decide) (by decide) hr) ?_
    refine Go.st (T' := T3) (g' := (mkF m 62 #[.val (.int p0), .val (.long p1), .second, .val (.int ((p0 &&& (2147483647 : Int32)) - ((p0 &&& (2147483647 : Int32)) / (3 : Int32)) * (3 : Int32))), .val (.ref b0), .val (.int (0 : Int32)), .val (.int (0 : Int32)), .unset, .unset, .unset, .unset, .unset, .unset] [(.long p1)])) (fun _ hr => XT.lloadN X3.here hx rfl (hb hby at_61) rfl hr) ?_
    refine Go.st (T' := T3) (g' := (mkF m 63 #[.val (.int p0), .val (.long p1), .second, .val (.int ((p0 &&& (2147483647 : Int32)) - ((p0 &&& (2147483647 : Int32)) / (3 : Int32)) * (3 : Int32))), .val (.ref b0), .val (.int (0 : Int32)), .val (.int (0 : Int32)), .unset, .unset, .unset, .unset, .unset, .unset] [(.int (1 : Int32)), (.long p1)])) (fun _ hr => XT.iconstV X3.here hx rfl (1 : Int32) (hb hby at_62) (by decide) hr) ?_
    refine Go.st (T' := T3) (g' := (mkF m 64 #[.val (.int p0), .val (.long p1), .second, .val (.int ((p0 &&& (2147483647 : Int32)) - ((p0 &&& (2147483647 : Int32)) / (3 : Int32)) * (3 : Int32))), .val (.ref b0), .val (.int (0 : Int32)), .val (.int (0 : Int32)), .unset, .unset, .unset, .unset, .unset, .unset] [(.long (p1 >>> (((1 : Int32)).toInt64 &&& 63)))])) (fun _ hr => XT.lshr X3.here hx rfl (hb hby at_63) rfl hr) ?_
    refine Go.st (T' := T3) (g' := (mkF m 66 #[.val (.int p0), .val (.long p1), .second, .val (.int ((p0 &&& (2147483647 : Int32)) - ((p0 &&& (2147483647 : Int32)) / (3 : Int32)) * (3 : Int32))), .val (.ref b0), .val (.int (0 : Int32)), .val (.int (0 : Int32)), .val (.long (p1 >>> (((1 : Int32)).toInt64 &&& 63))), .second, .unset, .unset, .unset, .unset] [])) (fun _ hr => XT.lstore X3.here hx rfl (hb hby at_64) rfl (l' := #[.val (.int p0), .val (.long p1), .second, .val (.int ((p0 &&& (2147483647 : Int32)) - ((p0 &&& (2147483647 : Int32)) / (3 : Int32)) * (3 : Int32))), .val (.ref b0), .val (.int (0 : Int32)), .val (.int (0 : Int32)), .val (.long (p1 >>> (((1 : Int32)).toInt64 &&& 63))), .second, .unset, .unset, .unset, .unset]) rfl hr) ?_
    refine Go.st (T' := T3) (g' := (mkF m 68 #[.val (.int p0), .val (.long p1), .second, .val (.int ((p0 &&& (2147483647 : Int32)) - ((p0 &&& (2147483647 : Int32)) / (3 : Int32)) * (3 : Int32))), .val (.ref b0), .val (.int (0 : Int32)), .val (.int (0 : Int32)), .val (.long (p1 >>> (((1 : Int32)).toInt64 &&& 63))), .second, .unset, .unset, .unset, .unset] [(.ref b0)])) (fun _ hr => XS.aload X3.here hx rfl (hb hby at_66) rfl rfl hr) ?_
    refine Go.st (T' := T3) (g' := (mkF m 70 #[.val (.int p0), .val (.long p1), .second, .val (.int ((p0 &&& (2147483647 : Int32)) - ((p0 &&& (2147483647 : Int32)) / (3 : Int32)) * (3 : Int32))), .val (.ref b0), .val (.int (0 : Int32)), .val (.int (0 : Int32)), .val (.long (p1 >>> (((1 : Int32)).toInt64 &&& 63))), .second, .unset, .unset, .unset, .unset] [(.long (p1 >>> (((1 : Int32)).toInt64 &&& 63))), (.ref b0)])) (fun _ hr => XT.lload X3.here hx rfl (hb hby at_68) rfl hr) ?_
    refine Go.st (T' := T3) (g' := (mkF m 72 #[.val (.int p0), .val (.long p1), .second, .val (.int ((p0 &&& (2147483647 : Int32)) - ((p0 &&& (2147483647 : Int32)) / (3 : Int32)) * (3 : Int32))), .val (.ref b0), .val (.int (0 : Int32)), .val (.int (0 : Int32)), .val (.long (p1 >>> (((1 : Int32)).toInt64 &&& 63))), .second, .unset, .unset, .unset, .unset] [(.int (0 : Int32)), (.long (p1 >>> (((1 : Int32)).toInt64 &&& 63))), (.ref b0)])) (fun _ hr => XS.iload X3.here hx rfl (hb hby at_70) rfl hr) ?_
    refine Go.callP X3 hx hZ hown (W := 1) (hw _ (List.mem_of_getElem? (i := 16) rfl)) (hw _ (List.mem_of_getElem? (i := 17) rfl)) (hw _ (List.mem_of_getElem? (i := 10) rfl)) (hw _ (List.mem_of_getElem? (i := 18) rfl)) (by decide) e3 (rm2_0 l Z a0 hw (p1 >>> (((1 : Int32)).toInt64 &&& 63)) sa ka h0 G2 V0 (own_Ru _)) (by decide) (by decide) (by decide) (by decide) (g := (mkF m 72 #[.val (.int p0), .val (.long p1), .second, .val (.int ((p0 &&& (2147483647 : Int32)) - ((p0 &&& (2147483647 : Int32)) / (3 : Int32)) * (3 : Int32))), .val (.ref b0), .val (.int (0 : Int32)), .val (.int (0 : Int32)), .val (.long (p1 >>> (((1 : Int32)).toInt64 &&& 63))), .second, .unset, .unset, .unset, .unset] [(.int (0 : Int32)), (.long (p1 >>> (((1 : Int32)).toInt64 &&& 63))), (.ref b0)])) rfl (by rw [hml]; rfl) (argsL := [(.long (p1 >>> (((1 : Int32)).toInt64 &&& 63))), (.int (0 : Int32))]) (rest := [(.ref b0)]) (lenOf pd_3 rfl) rfl (by show 2 * 0 + _ ≤ _; exact Nat.le_of_eq rfl) (hb hby at_72) (fun T4 X4 e4 => ?_)
    show Go p.tables e below (Fin s (fun v h L => v = some (.int 1) ∧ Fr h0.size L) room_1.cells room_1.slots) T4 (mkF m 75 #[.val (.int p0), .val (.long p1), .second, .val (.int ((p0 &&& (2147483647 : Int32)) - ((p0 &&& (2147483647 : Int32)) / (3 : Int32)) * (3 : Int32))), .val (.ref b0), .val (.int (0 : Int32)), .val (.int (0 : Int32)), .val (.long (p1 >>> (((1 : Int32)).toInt64 &&& 63))), .second, .unset, .unset, .unset, .unset] [(.long ((f3 (p1 >>> (((1 : Int32)).toInt64 &&& 63)) ((1 : Int64) * (900000 : Int64))) * ((1 : Int64) * (900000 : Int64)))), (.ref b0)])
    refine Go.callV X4 hx hZ hown (W := 0) (y := (⟨"com/example/rugged_meter/ruggedmeter/TimeRange$Period", "startOf", "(J)J"⟩ : MethodName)) (hw _ (List.mem_of_getElem? (i := 31) rfl)) (hw _ (List.mem_of_getElem? (i := 32) rfl)) (hw _ (List.mem_of_getElem? (i := 34) rfl)) (hw _ (List.mem_of_getElem? (i := 33) rfl)) (hw _ (List.mem_of_getElem? (i := 2) rfl)) (hw _ (List.mem_of_getElem? (i := 35) rfl)) (by decide) rfl e4 E0 (rm6_1 l Z a0 hw b0 ((f3 (p1 >>> (((1 : Int32)).toInt64 &&& 63)) ((1 : Int64) * (900000 : Int64))) * ((1 : Int64) * (900000 : Int64))) h0 E0 F0 (own_Rb _ (own_Lc _ (by decide +kernel)))) (by decide) (by decide) (by decide) (by decide) (g := (mkF m 75 #[.val (.int p0), .val (.long p1), .second, .val (.int ((p0 &&& (2147483647 : Int32)) - ((p0 &&& (2147483647 : Int32)) / (3 : Int32)) * (3 : Int32))), .val (.ref b0), .val (.int (0 : Int32)), .val (.int (0 : Int32)), .val (.long (p1 >>> (((1 : Int32)).toInt64 &&& 63))), .second, .unset, .unset, .unset, .unset] [(.long ((f3 (p1 >>> (((1 : Int32)).toInt64 &&& 63)) ((1 : Int64) * (900000 : Int64))) * ((1 : Int64) * (900000 : Int64)))), (.ref b0)])) rfl (by rw [hml]; rfl) (argsL := [(.long ((f3 (p1 >>> (((1 : Int32)).toInt64 &&& 63)) ((1 : Int64) * (900000 : Int64))) * ((1 : Int64) * (900000 : Int64))))]) (rest := []) (lenOf pd_0 rfl) rfl (by show 2 * 0 + _ ≤ _; exact Nat.le_of_eq rfl) (hb hby at_75) (fun v5 T5 L5 X5 q5 => ?_)
    obtain ⟨rfl, rfl, e5⟩ := q5
    rw [List.append_nil] at X5
    show Go p.tables e below (Fin s (fun v h L => v = some (.int 1) ∧ Fr h0.size L) room_1.cells room_1.slots) T5 (mkF m 78 #[.val (.int p0), .val (.long p1), .second, .val (.int ((p0 &&& (2147483647 : Int32)) - ((p0 &&& (2147483647 : Int32)) / (3 : Int32)) * (3 : Int32))), .val (.ref b0), .val (.int (0 : Int32)), .val (.int (0 : Int32)), .val (.long (p1 >>> (((1 : Int32)).toInt64 &&& 63))), .second, .unset, .unset, .unset, .unset] [(.long ((f3 ((f3 (p1 >>> (((1 : Int32)).toInt64 &&& 63)) ((1 : Int64) * (900000 : Int64))) * ((1 : Int64) * (900000 : Int64))) ((1 : Int64) * (900000 : Int64))) * ((1 : Int64) * (900000 : Int64))))])
    refine Go.st (T' := T5) (g' := (mkF m 80 #[.val (.int p0), .val (.long p1), .second, .val (.int ((p0 &&& (2147483647 : Int32)) - ((p0 &&& (2147483647 : Int32)) / (3 : Int32)) * (3 : Int32))), .val (.ref b0), .val (.int (0 : Int32)), .val (.int (0 : Int32)), .val (.long (p1 >>> (((1 : Int32)).toInt64 &&& 63))), .second, .unset, .unset, .unset, .unset] [(.ref b0), (.long ((f3 ((f3 (p1 >>> (((1 : Int32)).toInt64 &&& 63)) ((1 : Int64) * (900000 : Int64))) * ((1 : Int64) * (900000 : Int64))) ((1 : Int64) * (900000 : Int64))) * ((1 : Int64) * (900000 : Int64))))])) (fun _ hr => XS.aload X5.here hx rfl (hb hby at_78) rfl rfl hr) ?_
    refine Go.st (T' := T5) (g' := (mkF m 82 #[.val (.int p0), .val (.long p1), .second, .val (.int ((p0 &&& (2147483647 : Int32)) - ((p0 &&& (2147483647 : Int32)) / (3 : Int32)) * (3 : Int32))), .val (.ref b0), .val (.int (0 : Int32)), .val (.int (0 : Int32)), .val (.long (p1 >>> (((1 : Int32)).toInt64 &&& 63))), .second, .unset, .unset, .unset, .unset] [(.long (p1 >>> (((1 : Int32)).toInt64 &&& 63))), (.ref b0), (.long ((f3 ((f3 (p1 >>> (((1 : Int32)).toInt64 &&& 63)) ((1 : Int64) * (900000 : Int64))) * ((1 : Int64) * (900000 : Int64))) ((1 : Int64) * (900000 : Int64))) * ((1 : Int64) * (900000 : Int64))))])) (fun _ hr => XT.lload X5.here hx rfl (hb hby at_80) rfl hr) ?_
    refine Go.callV X5 hx hZ hown (W := 2) (y := (⟨"com/example/rugged_meter/ruggedmeter/TimeRange$Period", "startOf", "(J)J"⟩ : MethodName)) (hw _ (List.mem_of_getElem? (i := 31) rfl)) (hw _ (List.mem_of_getElem? (i := 32) rfl)) (hw _ (List.mem_of_getElem? (i := 34) rfl)) (hw _ (List.mem_of_getElem? (i := 33) rfl)) (hw _ (List.mem_of_getElem? (i := 2) rfl)) (hw _ (List.mem_of_getElem? (i := 35) rfl)) (by decide) rfl e5 E0 (rm6_1 l Z a0 hw b0 (p1 >>> (((1 : Int32)).toInt64 &&& 63)) h0 E0 F0 (own_Ru _)) (by decide) (by decide) (by decide) (by decide) (g := (mkF m 82 #[.val (.int p0), .val (.long p1), .second, .val (.int ((p0 &&& (2147483647 : Int32)) - ((p0 &&& (2147483647 : Int32)) / (3 : Int32)) * (3 : Int32))), .val (.ref b0), .val (.int (0 : Int32)), .val (.int (0 : Int32)), .val (.long (p1 >>> (((1 : Int32)).toInt64 &&& 63))), .second, .unset, .unset, .unset, .unset] [(.long (p1 >>> (((1 : Int32)).toInt64 &&& 63))), (.ref b0), (.long ((f3 ((f3 (p1 >>> (((1 : Int32)).toInt64 &&& 63)) ((1 : Int64) * (900000 : Int64))) * ((1 : Int64) * (900000 : Int64))) ((1 : Int64) * (900000 : Int64))) * ((1 : Int64) * (900000 : Int64))))])) rfl (by rw [hml]; rfl) (argsL := [(.long (p1 >>> (((1 : Int32)).toInt64 &&& 63)))]) (rest := [(.long ((f3 ((f3 (p1 >>> (((1 : Int32)).toInt64 &&& 63)) ((1 : Int64) * (900000 : Int64))) * ((1 : Int64) * (900000 : Int64))) ((1 : Int64) * (900000 : Int64))) * ((1 : Int64) * (900000 : Int64))))]) (lenOf pd_0 rfl) rfl (by show 2 * 0 + _ ≤ _; exact Nat.le_of_eq rfl) (hb hby at_82) (fun v6 T6 L6 X6 q6 => ?_)
    obtain ⟨rfl, rfl, e6⟩ := q6
    rw [List.append_nil] at X6
    show Go p.tables e below (Fin s (fun v h L => v = some (.int 1) ∧ Fr h0.size L) room_1.cells room_1.slots) T6 (mkF m 85 #[.val (.int p0), .val (.long p1), .second, .val (.int ((p0 &&& (2147483647 : Int32)) - ((p0 &&& (2147483647 : Int32)) / (3 : Int32)) * (3 : Int32))), .val (.ref b0), .val (.int (0 : Int32)), .val (.int (0 : Int32)), .val (.long (p1 >>> (((1 : Int32)).toInt64 &&& 63))), .second, .unset, .unset, .unset, .unset] [(.long ((f3 (p1 >>> (((1 : Int32)).toInt64 &&& 63)) ((1 : Int64) * (900000 : Int64))) * ((1 : Int64) * (900000 : Int64)))), (.long ((f3 ((f3 (p1 >>> (((1 : Int32)).toInt64 &&& 63)) ((1 : Int64) * (900000 : Int64))) * ((1 : Int64) * (900000 : Int64))) ((1 : Int64) * (900000 : Int64))) * ((1 : Int64) * (900000 : Int64))))])
    refine Go.st (T' := T6) (g' := (mkF m 86 #[.val (.int p0), .val (.long p1), .second, .val (.int ((p0 &&& (2147483647 : Int32)) - ((p0 &&& (2147483647 : Int32)) / (3 : Int32)) * (3 : Int32))), .val (.ref b0), .val (.int (0 : Int32)), .val (.int (0 : Int32)), .val (.long (p1 >>> (((1 : Int32)).toInt64 &&& 63))), .second, .unset, .unset, .unset, .unset] [(.int (XT.cmpL ((f3 ((f3 (p1 >>> (((1 : Int32)).toInt64 &&& 63)) ((1 : Int64) * (900000 : Int64))) * ((1 : Int64) * (900000 : Int64))) ((1 : Int64) * (900000 : Int64))) * ((1 : Int64) * (900000 : Int64))) ((f3 (p1 >>> (((1 : Int32)).toInt64 &&& 63)) ((1 : Int64) * (900000 : Int64))) * ((1 : Int64) * (900000 : Int64)))))])) (fun _ hr => XT.lcmp X6.here hx rfl (hb hby at_85) rfl hr) ?_
    refine Go.st (T' := T6) (g' := (mkF m 89 #[.val (.int p0), .val (.long p1), .second, .val (.int ((p0 &&& (2147483647 : Int32)) - ((p0 &&& (2147483647 : Int32)) / (3 : Int32)) * (3 : Int32))), .val (.ref b0), .val (.int (0 : Int32)), .val (.int (0 : Int32)), .val (.long (p1 >>> (((1 : Int32)).toInt64 &&& 63))), .second, .unset, .unset, .unset, .unset] [])) (fun _ hr => XS.ifNo X6.here hx rfl (hb hby at_86) rfl (XT.ll_ne_f (own_in _ (own_Lc _ (by decide +kernel)) (own_Lc _ (by decide +kernel)) 1 (by decide +kernel))) hr) ?_
    refine Go.st (T' := T6) (g' := (mkF m 90 #[.val (.int p0), .val (.long p1), .second, .val (.int ((p0 &&& (2147483647 : Int32)) - ((p0 &&& (2147483647 : Int32)) / (3 : Int32)) * (3 : Int32))), .val (.ref b0), .val (.int (0 : Int32)), .val (.int (0 : Int32)), .val (.long (p1 >>> (((1 : Int32)).toInt64 &&& 63))), .second, .unset, .unset, .unset, .unset] [(.int (1 : Int32))])) (fun _ hr => XT.iconstV X6.here hx rfl (1 : Int32) (hb hby at_89) (by decide) hr) ?_
    refine Go.st (T' := T6) (g' := (mkF m 94 #[.val (.int p0), .val (.long p1), .second, .val (.int ((p0 &&& (2147483647 : Int32)) - ((p0 &&& (2147483647 : Int32)) / (3 : Int32)) * (3 : Int32))), .val (.ref b0), .val (.int (0 : Int32)), .val (.int (0 : Int32)), .val (.long (p1 >>> (((1 : Int32)).toInt64 &&& 63))), .second, .unset, .unset, .unset, .unset] [(.int (1 : Int32))])) (fun _ hr => XS.goto X6.here hx rfl (pc0 := 90) (pc' := 94) rfl (hb hby at_90) (by decide) (by decide) hr) ?_
    refine Go.st (T' := T6) (g' := (mkF m 96 #[.val (.int p0), .val (.long p1), .second, .val (.int ((p0 &&& (2147483647 : Int32)) - ((p0 &&& (2147483647 : Int32)) / (3 : Int32)) * (3 : Int32))), .val (.ref b0), .val (.int (0 : Int32)), .val (.int (0 : Int32)), .val (.long (p1 >>> (((1 : Int32)).toInt64 &&& 63))), .second, .val (.int (1 : Int32)), .unset, .unset, .unset] [])) (fun _ hr => XS.istore X6.here hx rfl (hb hby at_94) rfl (l' := #[.val (.int p0), .val (.long p1), .second, .val (.int ((p0 &&& (2147483647 : Int32)) - ((p0 &&& (2147483647 : Int32)) / (3 : Int32)) * (3 : Int32))), .val (.ref b0), .val (.int (0 : Int32)), .val (.int (0 : Int32)), .val (.long (p1 >>> (((1 : Int32)).toInt64 &&& 63))), .second, .val (.int (1 : Int32)), .unset, .unset, .unset]) rfl hr) ?_
    refine Go.st (T' := T6) (g' := (mkF m 98 #[.val (.int p0), .val (.long p1), .second, .val (.int ((p0 &&& (2147483647 : Int32)) - ((p0 &&& (2147483647 : Int32)) / (3 : Int32)) * (3 : Int32))), .val (.ref b0), .val (.int (0 : Int32)), .val (.int (0 : Int32)), .val (.long (p1 >>> (((1 : Int32)).toInt64 &&& 63))), .second, .val (.int (1 : Int32)), .unset, .unset, .unset] [(.ref b0)])) (fun _ hr => XS.aload X6.here hx rfl (hb hby at_96) rfl rfl hr) ?_
    refine Go.callV X6 hx hZ hown (W := 0) (y := (⟨"com/example/rugged_meter/ruggedmeter/TimeRange$Period", "millis", "()J"⟩ : MethodName)) (hw _ (List.mem_of_getElem? (i := 44) rfl)) (hw _ (List.mem_of_getElem? (i := 37) rfl)) (hw _ (List.mem_of_getElem? (i := 39) rfl)) (hw _ (List.mem_of_getElem? (i := 38) rfl)) (hw _ (List.mem_of_getElem? (i := 2) rfl)) (hw _ (List.mem_of_getElem? (i := 40) rfl)) (by decide) rfl e6 E0 (rm7 l Z a0 hw b0 (1 : Int64)  h0 F0) (by decide) (by decide) (by decide) (by decide) (g := (mkF m 98 #[.val (.int p0), .val (.long p1), .second, .val (.int ((p0 &&& (2147483647 : Int32)) - ((p0 &&& (2147483647 : Int32)) / (3 : Int32)) * (3 : Int32))), .val (.ref b0), .val (.int (0 : Int32)), .val (.int (0 : Int32)), .val (.long (p1 >>> (((1 : Int32)).toInt64 &&& 63))), .second, .val (.int (1 : Int32)), .unset, .unset, .unset] [(.ref b0)])) rfl (by rw [hml]; rfl) (argsL := []) (rest := []) (lenOf pd_2 rfl) rfl (by show 2 * 0 + _ ≤ _; exact Nat.le_of_eq rfl) (hb hby at_98) (fun v7 T7 L7 X7 q7 => ?_)
    obtain ⟨rfl, rfl, e7⟩ := q7
    rw [List.append_nil] at X7
    show Go p.tables e below (Fin s (fun v h L => v = some (.int 1) ∧ Fr h0.size L) room_1.cells room_1.slots) T7 (mkF m 101 #[.val (.int p0), .val (.long p1), .second, .val (.int ((p0 &&& (2147483647 : Int32)) - ((p0 &&& (2147483647 : Int32)) / (3 : Int32)) * (3 : Int32))), .val (.ref b0), .val (.int (0 : Int32)), .val (.int (0 : Int32)), .val (.long (p1 >>> (((1 : Int32)).toInt64 &&& 63))), .second, .val (.int (1 : Int32)), .unset, .unset, .unset] [(.long ((1 : Int64) * (900000 : Int64)))])
    refine Go.st (T' := T7) (g' := (mkF m 103 #[.val (.int p0), .val (.long p1), .second, .val (.int ((p0 &&& (2147483647 : Int32)) - ((p0 &&& (2147483647 : Int32)) / (3 : Int32)) * (3 : Int32))), .val (.ref b0), .val (.int (0 : Int32)), .val (.int (0 : Int32)), .val (.long (p1 >>> (((1 : Int32)).toInt64 &&& 63))), .second, .val (.int (1 : Int32)), .val (.long ((1 : Int64) * (900000 : Int64))), .second, .unset] [])) (fun _ hr => XT.lstore X7.here hx rfl (hb hby at_101) rfl (l' := #[.val (.int p0), .val (.long p1), .second, .val (.int ((p0 &&& (2147483647 : Int32)) - ((p0 &&& (2147483647 : Int32)) / (3 : Int32)) * (3 : Int32))), .val (.ref b0), .val (.int (0 : Int32)), .val (.int (0 : Int32)), .val (.long (p1 >>> (((1 : Int32)).toInt64 &&& 63))), .second, .val (.int (1 : Int32)), .val (.long ((1 : Int64) * (900000 : Int64))), .second, .unset]) rfl hr) ?_
    refine Go.st (T' := T7) (g' := (mkF m 105 #[.val (.int p0), .val (.long p1), .second, .val (.int ((p0 &&& (2147483647 : Int32)) - ((p0 &&& (2147483647 : Int32)) / (3 : Int32)) * (3 : Int32))), .val (.ref b0), .val (.int (0 : Int32)), .val (.int (0 : Int32)), .val (.long (p1 >>> (((1 : Int32)).toInt64 &&& 63))), .second, .val (.int (1 : Int32)), .val (.long ((1 : Int64) * (900000 : Int64))), .second, .unset] [(.long ((1 : Int64) * (900000 : Int64)))])) (fun _ hr => XT.lload X7.here hx rfl (hb hby at_103) rfl hr) ?_
    refine Go.st (T' := T7) (g' := (mkF m 107 #[.val (.int p0), .val (.long p1), .second, .val (.int ((p0 &&& (2147483647 : Int32)) - ((p0 &&& (2147483647 : Int32)) / (3 : Int32)) * (3 : Int32))), .val (.ref b0), .val (.int (0 : Int32)), .val (.int (0 : Int32)), .val (.long (p1 >>> (((1 : Int32)).toInt64 &&& 63))), .second, .val (.int (1 : Int32)), .val (.long ((1 : Int64) * (900000 : Int64))), .second, .unset] [(.int (0 : Int32)), (.long ((1 : Int64) * (900000 : Int64)))])) (fun _ hr => XS.iload X7.here hx rfl (hb hby at_105) rfl hr) ?_
    refine Go.st (T' := T7) (g' := (mkF m 108 #[.val (.int p0), .val (.long p1), .second, .val (.int ((p0 &&& (2147483647 : Int32)) - ((p0 &&& (2147483647 : Int32)) / (3 : Int32)) * (3 : Int32))), .val (.ref b0), .val (.int (0 : Int32)), .val (.int (0 : Int32)), .val (.long (p1 >>> (((1 : Int32)).toInt64 &&& 63))), .second, .val (.int (1 : Int32)), .val (.long ((1 : Int64) * (900000 : Int64))), .second, .unset] [(.int (1 : Int32)), (.int (0 : Int32)), (.long ((1 : Int64) * (900000 : Int64)))])) (fun _ hr => XT.iconstV X7.here hx rfl (1 : Int32) (hb hby at_107) (by decide) hr) ?_
    refine Go.st (T' := T7) (g' := (mkF m 109 #[.val (.int p0), .val (.long p1), .second, .val (.int ((p0 &&& (2147483647 : Int32)) - ((p0 &&& (2147483647 : Int32)) / (3 : Int32)) * (3 : Int32))), .val (.ref b0), .val (.int (0 : Int32)), .val (.int (0 : Int32)), .val (.long (p1 >>> (((1 : Int32)).toInt64 &&& 63))), .second, .val (.int (1 : Int32)), .val (.long ((1 : Int64) * (900000 : Int64))), .second, .unset] [(.int ((0 : Int32) + (1 : Int32))), (.long ((1 : Int64) * (900000 : Int64)))])) (fun _ hr => XS.iadd X7.here hx rfl (hb hby at_108) rfl hr) ?_
    refine Go.callP X7 hx hZ hown (W := 0) (hw _ (List.mem_of_getElem? (i := 16) rfl)) (hw _ (List.mem_of_getElem? (i := 17) rfl)) (hw _ (List.mem_of_getElem? (i := 10) rfl)) (hw _ (List.mem_of_getElem? (i := 18) rfl)) (by decide) e7 (rm2_1 l Z a0 hw ((1 : Int64) * (900000 : Int64)) sa ka h0 G2 V0 (own_Rc _ (by decide +kernel))) (by decide) (by decide) (by decide) (by decide) (g := (mkF m 109 #[.val (.int p0), .val (.long p1), .second, .val (.int ((p0 &&& (2147483647 : Int32)) - ((p0 &&& (2147483647 : Int32)) / (3 : Int32)) * (3 : Int32))), .val (.ref b0), .val (.int (0 : Int32)), .val (.int (0 : Int32)), .val (.long (p1 >>> (((1 : Int32)).toInt64 &&& 63))), .second, .val (.int (1 : Int32)), .val (.long ((1 : Int64) * (900000 : Int64))), .second, .unset] [(.int ((0 : Int32) + (1 : Int32))), (.long ((1 : Int64) * (900000 : Int64)))])) rfl (by rw [hml]; rfl) (argsL := [(.long ((1 : Int64) * (900000 : Int64))), (.int ((0 : Int32) + (1 : Int32)))]) (rest := []) (lenOf pd_3 rfl) rfl (by show 2 * 0 + _ ≤ _; exact Nat.le_of_eq rfl) (hb hby at_109) (fun T8 X8 e8 => ?_)
    show Go p.tables e below (Fin s (fun v h L => v = some (.int 1) ∧ Fr h0.size L) room_1.cells room_1.slots) T8 (mkF m 112 #[.val (.int p0), .val (.long p1), .second, .val (.int ((p0 &&& (2147483647 : Int32)) - ((p0 &&& (2147483647 : Int32)) / (3 : Int32)) * (3 : Int32))), .val (.ref b0), .val (.int (0 : Int32)), .val (.int (0 : Int32)), .val (.long (p1 >>> (((1 : Int32)).toInt64 &&& 63))), .second, .val (.int (1 : Int32)), .val (.long ((1 : Int64) * (900000 : Int64))), .second, .unset] [(.long ((f3 ((1 : Int64) * (900000 : Int64)) ((96 : Int64) * (900000 : Int64))) * ((96 : Int64) * (900000 : Int64))))])
    refine Go.st (T' := T8) (g' := (mkF m 114 #[.val (.int p0), .val (.long p1), .second, .val (.int ((p0 &&& (2147483647 : Int32)) - ((p0 &&& (2147483647 : Int32)) / (3 : Int32)) * (3 : Int32))), .val (.ref b0), .val (.int (0 : Int32)), .val (.int (0 : Int32)), .val (.long (p1 >>> (((1 : Int32)).toInt64 &&& 63))), .second, .val (.int (1 : Int32)), .val (.long ((1 : Int64) * (900000 : Int64))), .second, .unset] [(.long ((1 : Int64) * (900000 : Int64))), (.long ((f3 ((1 : Int64) * (900000 : Int64)) ((96 : Int64) * (900000 : Int64))) * ((96 : Int64) * (900000 : Int64))))])) (fun _ hr => XT.lload X8.here hx rfl (hb hby at_112) rfl hr) ?_
    refine Go.st (T' := T8) (g' := (mkF m 115 #[.val (.int p0), .val (.long p1), .second, .val (.int ((p0 &&& (2147483647 : Int32)) - ((p0 &&& (2147483647 : Int32)) / (3 : Int32)) * (3 : Int32))), .val (.ref b0), .val (.int (0 : Int32)), .val (.int (0 : Int32)), .val (.long (p1 >>> (((1 : Int32)).toInt64 &&& 63))), .second, .val (.int (1 : Int32)), .val (.long ((1 : Int64) * (900000 : Int64))), .second, .unset] [(.int (XT.cmpL ((f3 ((1 : Int64) * (900000 : Int64)) ((96 : Int64) * (900000 : Int64))) * ((96 : Int64) * (900000 : Int64))) ((1 : Int64) * (900000 : Int64))))])) (fun _ hr => XT.lcmp X8.here hx rfl (hb hby at_114) rfl hr) ?_
    refine Go.st (T' := T8) (g' := (mkF m 118 #[.val (.int p0), .val (.long p1), .second, .val (.int ((p0 &&& (2147483647 : Int32)) - ((p0 &&& (2147483647 : Int32)) / (3 : Int32)) * (3 : Int32))), .val (.ref b0), .val (.int (0 : Int32)), .val (.int (0 : Int32)), .val (.long (p1 >>> (((1 : Int32)).toInt64 &&& 63))), .second, .val (.int (1 : Int32)), .val (.long ((1 : Int64) * (900000 : Int64))), .second, .unset] [])) (fun _ hr => XS.ifNo X8.here hx rfl (hb hby at_115) rfl (XT.ll_eq_f (by decide +kernel)) hr) ?_
    refine Go.st (T' := T8) (g' := (mkF m 119 #[.val (.int p0), .val (.long p1), .second, .val (.int ((p0 &&& (2147483647 : Int32)) - ((p0 &&& (2147483647 : Int32)) / (3 : Int32)) * (3 : Int32))), .val (.ref b0), .val (.int (0 : Int32)), .val (.int (0 : Int32)), .val (.long (p1 >>> (((1 : Int32)).toInt64 &&& 63))), .second, .val (.int (1 : Int32)), .val (.long ((1 : Int64) * (900000 : Int64))), .second, .unset] [(.int (1 : Int32))])) (fun _ hr => XT.iconstV X8.here hx rfl (1 : Int32) (hb hby at_118) (by decide) hr) ?_
    refine Go.st (T' := T8) (g' := (mkF m 123 #[.val (.int p0), .val (.long p1), .second, .val (.int ((p0 &&& (2147483647 : Int32)) - ((p0 &&& (2147483647 : Int32)) / (3 : Int32)) * (3 : Int32))), .val (.ref b0), .val (.int (0 : Int32)), .val (.int (0 : Int32)), .val (.long (p1 >>> (((1 : Int32)).toInt64 &&& 63))), .second, .val (.int (1 : Int32)), .val (.long ((1 : Int64) * (900000 : Int64))), .second, .unset] [(.int (1 : Int32))])) (fun _ hr => XS.goto X8.here hx rfl (pc0 := 119) (pc' := 123) rfl (hb hby at_119) (by decide) (by decide) hr) ?_
    refine Go.st (T' := T8) (g' := (mkF m 125 #[.val (.int p0), .val (.long p1), .second, .val (.int ((p0 &&& (2147483647 : Int32)) - ((p0 &&& (2147483647 : Int32)) / (3 : Int32)) * (3 : Int32))), .val (.ref b0), .val (.int (0 : Int32)), .val (.int (0 : Int32)), .val (.long (p1 >>> (((1 : Int32)).toInt64 &&& 63))), .second, .val (.int (1 : Int32)), .val (.long ((1 : Int64) * (900000 : Int64))), .second, .val (.int (1 : Int32))] [])) (fun _ hr => XS.istore X8.here hx rfl (hb hby at_123) rfl (l' := #[.val (.int p0), .val (.long p1), .second, .val (.int ((p0 &&& (2147483647 : Int32)) - ((p0 &&& (2147483647 : Int32)) / (3 : Int32)) * (3 : Int32))), .val (.ref b0), .val (.int (0 : Int32)), .val (.int (0 : Int32)), .val (.long (p1 >>> (((1 : Int32)).toInt64 &&& 63))), .second, .val (.int (1 : Int32)), .val (.long ((1 : Int64) * (900000 : Int64))), .second, .val (.int (1 : Int32))]) rfl hr) ?_
    refine Go.st (T' := T8) (g' := (mkF m 127 #[.val (.int p0), .val (.long p1), .second, .val (.int ((p0 &&& (2147483647 : Int32)) - ((p0 &&& (2147483647 : Int32)) / (3 : Int32)) * (3 : Int32))), .val (.ref b0), .val (.int (0 : Int32)), .val (.int (0 : Int32)), .val (.long (p1 >>> (((1 : Int32)).toInt64 &&& 63))), .second, .val (.int (1 : Int32)), .val (.long ((1 : Int64) * (900000 : Int64))), .second, .val (.int (1 : Int32))] [(.int (1 : Int32))])) (fun _ hr => XS.iload X8.here hx rfl (hb hby at_125) rfl hr) ?_
    refine Go.st (T' := T8) (g' := (mkF m 130 #[.val (.int p0), .val (.long p1), .second, .val (.int ((p0 &&& (2147483647 : Int32)) - ((p0 &&& (2147483647 : Int32)) / (3 : Int32)) * (3 : Int32))), .val (.ref b0), .val (.int (0 : Int32)), .val (.int (0 : Int32)), .val (.long (p1 >>> (((1 : Int32)).toInt64 &&& 63))), .second, .val (.int (1 : Int32)), .val (.long ((1 : Int64) * (900000 : Int64))), .second, .val (.int (1 : Int32))] [])) (fun _ hr => XS.ifNo X8.here hx rfl (hb hby at_127) rfl (XT.i0_eq_f (by decide)) hr) ?_
    refine Go.st (T' := T8) (g' := (mkF m 132 #[.val (.int p0), .val (.long p1), .second, .val (.int ((p0 &&& (2147483647 : Int32)) - ((p0 &&& (2147483647 : Int32)) / (3 : Int32)) * (3 : Int32))), .val (.ref b0), .val (.int (0 : Int32)), .val (.int (0 : Int32)), .val (.long (p1 >>> (((1 : Int32)).toInt64 &&& 63))), .second, .val (.int (1 : Int32)), .val (.long ((1 : Int64) * (900000 : Int64))), .second, .val (.int (1 : Int32))] [(.int (1 : Int32))])) (fun _ hr => XS.iload X8.here hx rfl (hb hby at_130) rfl hr) ?_
    refine Go.st (T' := T8) (g' := (mkF m 135 #[.val (.int p0), .val (.long p1), .second, .val (.int ((p0 &&& (2147483647 : Int32)) - ((p0 &&& (2147483647 : Int32)) / (3 : Int32)) * (3 : Int32))), .val (.ref b0), .val (.int (0 : Int32)), .val (.int (0 : Int32)), .val (.long (p1 >>> (((1 : Int32)).toInt64 &&& 63))), .second, .val (.int (1 : Int32)), .val (.long ((1 : Int64) * (900000 : Int64))), .second, .val (.int (1 : Int32))] [])) (fun _ hr => XS.ifNo X8.here hx rfl (hb hby at_132) rfl (XT.i0_eq_f (by decide)) hr) ?_
    refine Go.st (T' := T8) (g' := (mkF m 136 #[.val (.int p0), .val (.long p1), .second, .val (.int ((p0 &&& (2147483647 : Int32)) - ((p0 &&& (2147483647 : Int32)) / (3 : Int32)) * (3 : Int32))), .val (.ref b0), .val (.int (0 : Int32)), .val (.int (0 : Int32)), .val (.long (p1 >>> (((1 : Int32)).toInt64 &&& 63))), .second, .val (.int (1 : Int32)), .val (.long ((1 : Int64) * (900000 : Int64))), .second, .val (.int (1 : Int32))] [(.int (1 : Int32))])) (fun _ hr => XT.iconstV X8.here hx rfl (1 : Int32) (hb hby at_135) (by decide) hr) ?_
    refine Go.st (T' := T8) (g' := (mkF m 140 #[.val (.int p0), .val (.long p1), .second, .val (.int ((p0 &&& (2147483647 : Int32)) - ((p0 &&& (2147483647 : Int32)) / (3 : Int32)) * (3 : Int32))), .val (.ref b0), .val (.int (0 : Int32)), .val (.int (0 : Int32)), .val (.long (p1 >>> (((1 : Int32)).toInt64 &&& 63))), .second, .val (.int (1 : Int32)), .val (.long ((1 : Int64) * (900000 : Int64))), .second, .val (.int (1 : Int32))] [(.int (1 : Int32))])) (fun _ hr => XS.goto X8.here hx rfl (pc0 := 136) (pc' := 140) rfl (hb hby at_136) (by decide) (by decide) hr) ?_
    exact Go.retN X8 hx hlk hret (by simp) (hb hby at_140) (by decide) (by decide) ⟨rfl, (Fr.nil h0.size)⟩
  · refine Go.st (T' := s₁) (g' := (mkF m 17 #[.val (.int p0), .val (.long p1), .second, .val (.int ((p0 &&& (2147483647 : Int32)) - ((p0 &&& (2147483647 : Int32)) / (3 : Int32)) * (3 : Int32))), .unset, .unset, .unset, .unset, .unset, .unset, .unset, .unset, .unset] [])) (fun _ hr => XS.ifYes X0.here hx rfl (pc0 := 8) (pc' := 17) rfl (hb hby at_8) rfl (XT.i0_ne_t c8_1) (by decide) (by decide) hr) ?_
    refine Go.st (T' := s₁) (g' := (mkF m 18 #[.val (.int p0), .val (.long p1), .second, .val (.int ((p0 &&& (2147483647 : Int32)) - ((p0 &&& (2147483647 : Int32)) / (3 : Int32)) * (3 : Int32))), .unset, .unset, .unset, .unset, .unset, .unset, .unset, .unset, .unset] [(.int ((p0 &&& (2147483647 : Int32)) - ((p0 &&& (2147483647 : Int32)) / (3 : Int32)) * (3 : Int32)))])) (fun _ hr => XS.iloadN X0.here hx rfl (hb hby at_17) rfl hr) ?_
    refine Go.st (T' := s₁) (g' := (mkF m 19 #[.val (.int p0), .val (.long p1), .second, .val (.int ((p0 &&& (2147483647 : Int32)) - ((p0 &&& (2147483647 : Int32)) / (3 : Int32)) * (3 : Int32))), .unset, .unset, .unset, .unset, .unset, .unset, .unset, .unset, .unset] [(.int (1 : Int32)), (.int ((p0 &&& (2147483647 : Int32)) - ((p0 &&& (2147483647 : Int32)) / (3 : Int32)) * (3 : Int32)))])) (fun _ hr => XT.iconstV X0.here hx rfl (1 : Int32) (hb hby at_18) (by decide) hr) ?_
    by_cases c19_9 : ((p0 &&& (2147483647 : Int32)) - ((p0 &&& (2147483647 : Int32)) / (3 : Int32)) * (3 : Int32)) = (1 : Int32)
    · refine Go.st (T' := s₁) (g' := (mkF m 22 #[.val (.int p0), .val (.long p1), .second, .val (.int ((p0 &&& (2147483647 : Int32)) - ((p0 &&& (2147483647 : Int32)) / (3 : Int32)) * (3 : Int32))), .unset, .unset, .unset, .unset, .unset, .unset, .unset, .unset, .unset] [])) (fun _ hr => XS.icmpNo X0.here hx rfl (hb hby at_19) rfl (XT.ii_ne_f c19_9) hr) ?_
      obtain ⟨T10, X10, e10, st10⟩ := getS2 X0 hx hZ hown (host := "") (Or.inl (hw _ (List.mem_of_getElem? (i := 45) rfl))) Via.refl e0 Q1 (g := (mkF m 22 #[.val (.int p0), .val (.long p1), .second, .val (.int ((p0 &&& (2147483647 : Int32)) - ((p0 &&& (2147483647 : Int32)) / (3 : Int32)) * (3 : Int32))), .unset, .unset, .unset, .unset, .unset, .unset, .unset, .unset, .unset] [])) rfl (hb hby at_22)
      refine Go.st (T' := T10) (g' := (mkF m 25 #[.val (.int p0), .val (.long p1), .second, .val (.int ((p0 &&& (2147483647 : Int32)) - ((p0 &&& (2147483647 : Int32)) / (3 : Int32)) * (3 : Int32))), .unset, .unset, .unset, .unset, .unset, .unset, .unset, .unset, .unset] [(.ref b1)])) st10 ?_
      refine Go.st (T' := T10) (g' := (mkF m 31 #[.val (.int p0), .val (.long p1), .second, .val (.int ((p0 &&& (2147483647 : Int32)) - ((p0 &&& (2147483647 : Int32)) / (3 : Int32)) * (3 : Int32))), .unset, .unset, .unset, .unset, .unset, .unset, .unset, .unset, .unset] [(.ref b1)])) (fun _ hr => XS.goto X10.here hx rfl (pc0 := 25) (pc' := 31) rfl (hb hby at_25) (by decide) (by decide) hr) ?_
      refine Go.st (T' := T10) (g' := (mkF m 33 #[.val (.int p0), .val (.long p1), .second, .val (.int ((p0 &&& (2147483647 : Int32)) - ((p0 &&& (2147483647 : Int32)) / (3 : Int32)) * (3 : Int32))), .val (.ref b1), .unset, .unset, .unset, .unset, .unset, .unset, .unset, .unset] [])) (fun _ hr => XS.astore X10.here hx rfl (hb hby at_31) rfl rfl (l' := #[.val (.int p0), .val (.long p1), .second, .val (.int ((p0 &&& (2147483647 : Int32)) - ((p0 &&& (2147483647 : Int32)) / (3 : Int32)) * (3 : Int32))), .val (.ref b1), .unset, .unset, .unset, .unset, .unset, .unset, .unset, .unset]) rfl hr) ?_
      refine Go.st (T' := T10) (g' := (mkF m 35 #[.val (.int p0), .val (.long p1), .second, .val (.int ((p0 &&& (2147483647 : Int32)) - ((p0 &&& (2147483647 : Int32)) / (3 : Int32)) * (3 : Int32))), .val (.ref b1), .unset, .unset, .unset, .unset, .unset, .unset, .unset, .unset] [(.ref b1)])) (fun _ hr => XS.aload X10.here hx rfl (hb hby at_33) rfl rfl hr) ?_
      refine Go.callV X10 hx hZ hown (W := 0) (y := (⟨"com/example/rugged_meter/ruggedmeter/TimeRange$Period", "scale", "()I"⟩ : MethodName)) (hw _ (List.mem_of_getElem? (i := 4) rfl)) (hw _ (List.mem_of_getElem? (i := 5) rfl)) (hw _ (List.mem_of_getElem? (i := 7) rfl)) (hw _ (List.mem_of_getElem? (i := 6) rfl)) (hw _ (List.mem_of_getElem? (i := 2) rfl)) (hw _ (List.mem_of_getElem? (i := 8) rfl)) (by decide) rfl e10 E1 (rm1_4 l Z a0 hw b1 sa ka h0 E1 F1 G1 G2 V0) (by decide) (by decide) (by decide) (by decide) (g := (mkF m 35 #[.val (.int p0), .val (.long p1), .second, .val (.int ((p0 &&& (2147483647 : Int32)) - ((p0 &&& (2147483647 : Int32)) / (3 : Int32)) * (3 : Int32))), .val (.ref b1), .unset, .unset, .unset, .unset, .unset, .unset, .unset, .unset] [(.ref b1)])) rfl (by rw [hml]; rfl) (argsL := []) (rest := []) (lenOf pd_4 rfl) rfl (by show 2 * 0 + _ ≤ _; exact Nat.le_of_eq rfl) (hb hby at_35) (fun v11 T11 L11 X11 q11 => ?_)
      obtain ⟨rfl, rfl, e11⟩ := q11
      rw [List.append_nil] at X11
      show Go p.tables e below (Fin s (fun v h L => v = some (.int 1) ∧ Fr h0.size L) room_1.cells room_1.slots) T11 (mkF m 38 #[.val (.int p0), .val (.long p1), .second, .val (.int ((p0 &&& (2147483647 : Int32)) - ((p0 &&& (2147483647 : Int32)) / (3 : Int32)) * (3 : Int32))), .val (.ref b1), .unset, .unset, .unset, .unset, .unset, .unset, .unset, .unset] [(.int (0 : Int32))])
      refine Go.st (T' := T11) (g' := (mkF m 40 #[.val (.int p0), .val (.long p1), .second, .val (.int ((p0 &&& (2147483647 : Int32)) - ((p0 &&& (2147483647 : Int32)) / (3 : Int32)) * (3 : Int32))), .val (.ref b1), .val (.int (0 : Int32)), .unset, .unset, .unset, .unset, .unset, .unset, .unset] [])) (fun _ hr => XS.istore X11.here hx rfl (hb hby at_38) rfl (l' := #[.val (.int p0), .val (.long p1), .second, .val (.int ((p0 &&& (2147483647 : Int32)) - ((p0 &&& (2147483647 : Int32)) / (3 : Int32)) * (3 : Int32))), .val (.ref b1), .val (.int (0 : Int32)), .unset, .unset, .unset, .unset, .unset, .unset, .unset]) rfl hr) ?_
      refine Go.st (T' := T11) (g' := (mkF m 41 #[.val (.int p0), .val (.long p1), .second, .val (.int ((p0 &&& (2147483647 : Int32)) - ((p0 &&& (2147483647 : Int32)) / (3 : Int32)) * (3 : Int32))), .val (.ref b1), .val (.int (0 : Int32)), .unset, .unset, .unset, .unset, .unset, .unset, .unset] [(.int ((p0 &&& (2147483647 : Int32)) - ((p0 &&& (2147483647 : Int32)) / (3 : Int32)) * (3 : Int32)))])) (fun _ hr => XS.iloadN X11.here hx rfl (hb hby at_40) rfl hr) ?_
      refine Go.st (T' := T11) (g' := (mkF m 42 #[.val (.int p0), .val (.long p1), .second, .val (.int ((p0 &&& (2147483647 : Int32)) - ((p0 &&& (2147483647 : Int32)) / (3 : Int32)) * (3 : Int32))), .val (.ref b1), .val (.int (0 : Int32)), .unset, .unset, .unset, .unset, .unset, .unset, .unset] [(.int (2 : Int32)), (.int ((p0 &&& (2147483647 : Int32)) - ((p0 &&& (2147483647 : Int32)) / (3 : Int32)) * (3 : Int32)))])) (fun _ hr => XT.iconstV X11.here hx rfl (2 : Int32) (hb hby at_41) (by decide) hr) ?_
      refine Go.st (T' := T11) (g' := (mkF m 49 #[.val (.int p0), .val (.long p1), .second, .val (.int ((p0 &&& (2147483647 : Int32)) - ((p0 &&& (2147483647 : Int32)) / (3 : Int32)) * (3 : Int32))), .val (.ref b1), .val (.int (0 : Int32)), .unset, .unset, .unset, .unset, .unset, .unset, .unset] [])) (fun _ hr => XS.icmpYes X11.here hx rfl (pc0 := 42) (pc' := 49) rfl (hb hby at_42) rfl (XT.ii_ne_t (own_not2 c19_9 (by decide))) (by decide) (by decide) hr) ?_
      refine Go.st (T' := T11) (g' := (mkF m 50 #[.val (.int p0), .val (.long p1), .second, .val (.int ((p0 &&& (2147483647 : Int32)) - ((p0 &&& (2147483647 : Int32)) / (3 : Int32)) * (3 : Int32))), .val (.ref b1), .val (.int (0 : Int32)), .unset, .unset, .unset, .unset, .unset, .unset, .unset] [(.int (0 : Int32))])) (fun _ hr => XT.iconstV X11.here hx rfl (0 : Int32) (hb hby at_49) (by decide) hr) ?_
      refine Go.st (T' := T11) (g' := (mkF m 52 #[.val (.int p0), .val (.long p1), .second, .val (.int ((p0 &&& (2147483647 : Int32)) - ((p0 &&& (2147483647 : Int32)) / (3 : Int32)) * (3 : Int32))), .val (.ref b1), .val (.int (0 : Int32)), .val (.int (0 : Int32)), .unset, .unset, .unset, .unset, .unset, .unset] [])) (fun _ hr => XS.istore X11.here hx rfl (hb hby at_50) rfl (l' := #[.val (.int p0), .val (.long p1), .second, .val (.int ((p0 &&& (2147483647 : Int32)) - ((p0 &&& (2147483647 : Int32)) / (3 : Int32)) * (3 : Int32))), .val (.ref b1), .val (.int (0 : Int32)), .val (.int (0 : Int32)), .unset, .unset, .unset, .unset, .unset, .unset]) rfl hr) ?_
      refine Go.st (T' := T11) (g' := (mkF m 54 #[.val (.int p0), .val (.long p1), .second, .val (.int ((p0 &&& (2147483647 : Int32)) - ((p0 &&& (2147483647 : Int32)) / (3 : Int32)) * (3 : Int32))), .val (.ref b1), .val (.int (0 : Int32)), .val (.int (0 : Int32)), .unset, .unset, .unset, .unset, .unset, .unset] [(.int (0 : Int32))])) (fun _ hr => XS.iload X11.here hx rfl (hb hby at_52) rfl hr) ?_
      refine Go.st (T' := T11) (g' := (mkF m 56 #[.val (.int p0), .val (.long p1), .second, .val (.int ((p0 &&& (2147483647 : Int32)) - ((p0 &&& (2147483647 : Int32)) / (3 : Int32)) * (3 : Int32))), .val (.ref b1), .val (.int (0 : Int32)), .val (.int (0 : Int32)), .unset, .unset, .unset, .unset, .unset, .unset] [(.int (0 : Int32)), (.int (0 : Int32))])) (fun _ hr => XS.iload X11.here hx rfl (hb hby at_54) rfl hr) ?_
      refine Go.st (T' := T11) (g' := (mkF m 61 #[.val (.int p0), .val (.long p1), .second, .val (.int ((p0 &&& (2147483647 : Int32)) - ((p0 &&& (2147483647 : Int32)) / (3 : Int32)) * (3 : Int32))), .val (.ref b1), .val (.int (0 : Int32)), .val (.int (0 : Int32)), .unset, .unset, .unset, .unset, .unset, .unset] [])) (fun _ hr => XS.icmpYes X11.here hx rfl (pc0 := 56) (pc' := 61) rfl (hb hby at_56) rfl (XT.ii_eq_t (by decide)) (by decide) (by decide) hr) ?_
      refine Go.st (T' := T11) (g' := (mkF m 62 #[.val (.int p0), .val (.long p1), .second, .val (.int ((p0 &&& (2147483647 : Int32)) - ((p0 &&& (2147483647 : Int32)) / (3 : Int32)) * (3 : Int32))), .val (.ref b1), .val (.int (0 : Int32)), .val (.int (0 : Int32)), .unset, .unset, .unset, .unset, .unset, .unset] [(.long p1)])) (fun _ hr => XT.lloadN X11.here hx rfl (hb hby at_61) rfl hr) ?_
      refine Go.st (T' := T11) (g' := (mkF m 63 #[.val (.int p0), .val (.long p1), .second, .val (.int ((p0 &&& (2147483647 : Int32)) - ((p0 &&& (2147483647 : Int32)) / (3 : Int32)) * (3 : Int32))), .val (.ref b1), .val (.int (0 : Int32)), .val (.int (0 : Int32)), .unset, .unset, .unset, .unset, .unset, .unset] [(.int (1 : Int32)), (.long p1)])) (fun _ hr => XT.iconstV X11.here hx rfl (1 : Int32) (hb hby at_62) (by decide) hr) ?_
      refine Go.st (T' := T11) (g' := (mkF m 64 #[.val (.int p0), .val (.long p1), .second, .val (.int ((p0 &&& (2147483647 : Int32)) - ((p0 &&& (2147483647 : Int32)) / (3 : Int32)) * (3 : Int32))), .val (.ref b1), .val (.int (0 : Int32)), .val (.int (0 : Int32)), .unset, .unset, .unset, .unset, .unset, .unset] [(.long (p1 >>> (((1 : Int32)).toInt64 &&& 63)))])) (fun _ hr => XT.lshr X11.here hx rfl (hb hby at_63) rfl hr) ?_
      refine Go.st (T' := T11) (g' := (mkF m 66 #[.val (.int p0), .val (.long p1), .second, .val (.int ((p0 &&& (2147483647 : Int32)) - ((p0 &&& (2147483647 : Int32)) / (3 : Int32)) * (3 : Int32))), .val (.ref b1), .val (.int (0 : Int32)), .val (.int (0 : Int32)), .val (.long (p1 >>> (((1 : Int32)).toInt64 &&& 63))), .second, .unset, .unset, .unset, .unset] [])) (fun _ hr => XT.lstore X11.here hx rfl (hb hby at_64) rfl (l' := #[.val (.int p0), .val (.long p1), .second, .val (.int ((p0 &&& (2147483647 : Int32)) - ((p0 &&& (2147483647 : Int32)) / (3 : Int32)) * (3 : Int32))), .val (.ref b1), .val (.int (0 : Int32)), .val (.int (0 : Int32)), .val (.long (p1 >>> (((1 : Int32)).toInt64 &&& 63))), .second, .unset, .unset, .unset, .unset]) rfl hr) ?_
      refine Go.st (T' := T11) (g' := (mkF m 68 #[.val (.int p0), .val (.long p1), .second, .val (.int ((p0 &&& (2147483647 : Int32)) - ((p0 &&& (2147483647 : Int32)) / (3 : Int32)) * (3 : Int32))), .val (.ref b1), .val (.int (0 : Int32)), .val (.int (0 : Int32)), .val (.long (p1 >>> (((1 : Int32)).toInt64 &&& 63))), .second, .unset, .unset, .unset, .unset] [(.ref b1)])) (fun _ hr => XS.aload X11.here hx rfl (hb hby at_66) rfl rfl hr) ?_
      refine Go.st (T' := T11) (g' := (mkF m 70 #[.val (.int p0), .val (.long p1), .second, .val (.int ((p0 &&& (2147483647 : Int32)) - ((p0 &&& (2147483647 : Int32)) / (3 : Int32)) * (3 : Int32))), .val (.ref b1), .val (.int (0 : Int32)), .val (.int (0 : Int32)), .val (.long (p1 >>> (((1 : Int32)).toInt64 &&& 63))), .second, .unset, .unset, .unset, .unset] [(.long (p1 >>> (((1 : Int32)).toInt64 &&& 63))), (.ref b1)])) (fun _ hr => XT.lload X11.here hx rfl (hb hby at_68) rfl hr) ?_
      refine Go.st (T' := T11) (g' := (mkF m 72 #[.val (.int p0), .val (.long p1), .second, .val (.int ((p0 &&& (2147483647 : Int32)) - ((p0 &&& (2147483647 : Int32)) / (3 : Int32)) * (3 : Int32))), .val (.ref b1), .val (.int (0 : Int32)), .val (.int (0 : Int32)), .val (.long (p1 >>> (((1 : Int32)).toInt64 &&& 63))), .second, .unset, .unset, .unset, .unset] [(.int (0 : Int32)), (.long (p1 >>> (((1 : Int32)).toInt64 &&& 63))), (.ref b1)])) (fun _ hr => XS.iload X11.here hx rfl (hb hby at_70) rfl hr) ?_
      refine Go.callP X11 hx hZ hown (W := 1) (hw _ (List.mem_of_getElem? (i := 16) rfl)) (hw _ (List.mem_of_getElem? (i := 17) rfl)) (hw _ (List.mem_of_getElem? (i := 10) rfl)) (hw _ (List.mem_of_getElem? (i := 18) rfl)) (by decide) e11 (rm2_0 l Z a0 hw (p1 >>> (((1 : Int32)).toInt64 &&& 63)) sa ka h0 G2 V0 (own_Ru _)) (by decide) (by decide) (by decide) (by decide) (g := (mkF m 72 #[.val (.int p0), .val (.long p1), .second, .val (.int ((p0 &&& (2147483647 : Int32)) - ((p0 &&& (2147483647 : Int32)) / (3 : Int32)) * (3 : Int32))), .val (.ref b1), .val (.int (0 : Int32)), .val (.int (0 : Int32)), .val (.long (p1 >>> (((1 : Int32)).toInt64 &&& 63))), .second, .unset, .unset, .unset, .unset] [(.int (0 : Int32)), (.long (p1 >>> (((1 : Int32)).toInt64 &&& 63))), (.ref b1)])) rfl (by rw [hml]; rfl) (argsL := [(.long (p1 >>> (((1 : Int32)).toInt64 &&& 63))), (.int (0 : Int32))]) (rest := [(.ref b1)]) (lenOf pd_3 rfl) rfl (by show 2 * 0 + _ ≤ _; exact Nat.le_of_eq rfl) (hb hby at_72) (fun T12 X12 e12 => ?_)
      show Go p.tables e below (Fin s (fun v h L => v = some (.int 1) ∧ Fr h0.size L) room_1.cells room_1.slots) T12 (mkF m 75 #[.val (.int p0), .val (.long p1), .second, .val (.int ((p0 &&& (2147483647 : Int32)) - ((p0 &&& (2147483647 : Int32)) / (3 : Int32)) * (3 : Int32))), .val (.ref b1), .val (.int (0 : Int32)), .val (.int (0 : Int32)), .val (.long (p1 >>> (((1 : Int32)).toInt64 &&& 63))), .second, .unset, .unset, .unset, .unset] [(.long ((f3 (p1 >>> (((1 : Int32)).toInt64 &&& 63)) ((1 : Int64) * (900000 : Int64))) * ((1 : Int64) * (900000 : Int64)))), (.ref b1)])
      refine Go.callV X12 hx hZ hown (W := 0) (y := (⟨"com/example/rugged_meter/ruggedmeter/TimeRange$Period", "startOf", "(J)J"⟩ : MethodName)) (hw _ (List.mem_of_getElem? (i := 31) rfl)) (hw _ (List.mem_of_getElem? (i := 32) rfl)) (hw _ (List.mem_of_getElem? (i := 34) rfl)) (hw _ (List.mem_of_getElem? (i := 33) rfl)) (hw _ (List.mem_of_getElem? (i := 2) rfl)) (hw _ (List.mem_of_getElem? (i := 35) rfl)) (by decide) rfl e12 E1 (rm6_4 l Z a0 hw b1 ((f3 (p1 >>> (((1 : Int32)).toInt64 &&& 63)) ((1 : Int64) * (900000 : Int64))) * ((1 : Int64) * (900000 : Int64))) h0 E1 F1 (own_Rb _ (own_Lc _ (by decide +kernel)))) (by decide) (by decide) (by decide) (by decide) (g := (mkF m 75 #[.val (.int p0), .val (.long p1), .second, .val (.int ((p0 &&& (2147483647 : Int32)) - ((p0 &&& (2147483647 : Int32)) / (3 : Int32)) * (3 : Int32))), .val (.ref b1), .val (.int (0 : Int32)), .val (.int (0 : Int32)), .val (.long (p1 >>> (((1 : Int32)).toInt64 &&& 63))), .second, .unset, .unset, .unset, .unset] [(.long ((f3 (p1 >>> (((1 : Int32)).toInt64 &&& 63)) ((1 : Int64) * (900000 : Int64))) * ((1 : Int64) * (900000 : Int64)))), (.ref b1)])) rfl (by rw [hml]; rfl) (argsL := [(.long ((f3 (p1 >>> (((1 : Int32)).toInt64 &&& 63)) ((1 : Int64) * (900000 : Int64))) * ((1 : Int64) * (900000 : Int64))))]) (rest := []) (lenOf pd_0 rfl) rfl (by show 2 * 0 + _ ≤ _; exact Nat.le_of_eq rfl) (hb hby at_75) (fun v13 T13 L13 X13 q13 => ?_)
      obtain ⟨rfl, rfl, e13⟩ := q13
      rw [List.append_nil] at X13
      show Go p.tables e below (Fin s (fun v h L => v = some (.int 1) ∧ Fr h0.size L) room_1.cells room_1.slots) T13 (mkF m 78 #[.val (.int p0), .val (.long p1), .second, .val (.int ((p0 &&& (2147483647 : Int32)) - ((p0 &&& (2147483647 : Int32)) / (3 : Int32)) * (3 : Int32))), .val (.ref b1), .val (.int (0 : Int32)), .val (.int (0 : Int32)), .val (.long (p1 >>> (((1 : Int32)).toInt64 &&& 63))), .second, .unset, .unset, .unset, .unset] [(.long ((f3 ((f3 (p1 >>> (((1 : Int32)).toInt64 &&& 63)) ((1 : Int64) * (900000 : Int64))) * ((1 : Int64) * (900000 : Int64))) ((4 : Int64) * (900000 : Int64))) * ((4 : Int64) * (900000 : Int64))))])
      refine Go.st (T' := T13) (g' := (mkF m 80 #[.val (.int p0), .val (.long p1), .second, .val (.int ((p0 &&& (2147483647 : Int32)) - ((p0 &&& (2147483647 : Int32)) / (3 : Int32)) * (3 : Int32))), .val (.ref b1), .val (.int (0 : Int32)), .val (.int (0 : Int32)), .val (.long (p1 >>> (((1 : Int32)).toInt64 &&& 63))), .second, .unset, .unset, .unset, .unset] [(.ref b1), (.long ((f3 ((f3 (p1 >>> (((1 : Int32)).toInt64 &&& 63)) ((1 : Int64) * (900000 : Int64))) * ((1 : Int64) * (900000 : Int64))) ((4 : Int64) * (900000 : Int64))) * ((4 : Int64) * (900000 : Int64))))])) (fun _ hr => XS.aload X13.here hx rfl (hb hby at_78) rfl rfl hr) ?_
      refine Go.st (T' := T13) (g' := (mkF m 82 #[.val (.int p0), .val (.long p1), .second, .val (.int ((p0 &&& (2147483647 : Int32)) - ((p0 &&& (2147483647 : Int32)) / (3 : Int32)) * (3 : Int32))), .val (.ref b1), .val (.int (0 : Int32)), .val (.int (0 : Int32)), .val (.long (p1 >>> (((1 : Int32)).toInt64 &&& 63))), .second, .unset, .unset, .unset, .unset] [(.long (p1 >>> (((1 : Int32)).toInt64 &&& 63))), (.ref b1), (.long ((f3 ((f3 (p1 >>> (((1 : Int32)).toInt64 &&& 63)) ((1 : Int64) * (900000 : Int64))) * ((1 : Int64) * (900000 : Int64))) ((4 : Int64) * (900000 : Int64))) * ((4 : Int64) * (900000 : Int64))))])) (fun _ hr => XT.lload X13.here hx rfl (hb hby at_80) rfl hr) ?_
      refine Go.callV X13 hx hZ hown (W := 2) (y := (⟨"com/example/rugged_meter/ruggedmeter/TimeRange$Period", "startOf", "(J)J"⟩ : MethodName)) (hw _ (List.mem_of_getElem? (i := 31) rfl)) (hw _ (List.mem_of_getElem? (i := 32) rfl)) (hw _ (List.mem_of_getElem? (i := 34) rfl)) (hw _ (List.mem_of_getElem? (i := 33) rfl)) (hw _ (List.mem_of_getElem? (i := 2) rfl)) (hw _ (List.mem_of_getElem? (i := 35) rfl)) (by decide) rfl e13 E1 (rm6_4 l Z a0 hw b1 (p1 >>> (((1 : Int32)).toInt64 &&& 63)) h0 E1 F1 (own_Ru _)) (by decide) (by decide) (by decide) (by decide) (g := (mkF m 82 #[.val (.int p0), .val (.long p1), .second, .val (.int ((p0 &&& (2147483647 : Int32)) - ((p0 &&& (2147483647 : Int32)) / (3 : Int32)) * (3 : Int32))), .val (.ref b1), .val (.int (0 : Int32)), .val (.int (0 : Int32)), .val (.long (p1 >>> (((1 : Int32)).toInt64 &&& 63))), .second, .unset, .unset, .unset, .unset] [(.long (p1 >>> (((1 : Int32)).toInt64 &&& 63))), (.ref b1), (.long ((f3 ((f3 (p1 >>> (((1 : Int32)).toInt64 &&& 63)) ((1 : Int64) * (900000 : Int64))) * ((1 : Int64) * (900000 : Int64))) ((4 : Int64) * (900000 : Int64))) * ((4 : Int64) * (900000 : Int64))))])) rfl (by rw [hml]; rfl) (argsL := [(.long (p1 >>> (((1 : Int32)).toInt64 &&& 63)))]) (rest := [(.long ((f3 ((f3 (p1 >>> (((1 : Int32)).toInt64 &&& 63)) ((1 : Int64) * (900000 : Int64))) * ((1 : Int64) * (900000 : Int64))) ((4 : Int64) * (900000 : Int64))) * ((4 : Int64) * (900000 : Int64))))]) (lenOf pd_0 rfl) rfl (by show 2 * 0 + _ ≤ _; exact Nat.le_of_eq rfl) (hb hby at_82) (fun v14 T14 L14 X14 q14 => ?_)
      obtain ⟨rfl, rfl, e14⟩ := q14
      rw [List.append_nil] at X14
      show Go p.tables e below (Fin s (fun v h L => v = some (.int 1) ∧ Fr h0.size L) room_1.cells room_1.slots) T14 (mkF m 85 #[.val (.int p0), .val (.long p1), .second, .val (.int ((p0 &&& (2147483647 : Int32)) - ((p0 &&& (2147483647 : Int32)) / (3 : Int32)) * (3 : Int32))), .val (.ref b1), .val (.int (0 : Int32)), .val (.int (0 : Int32)), .val (.long (p1 >>> (((1 : Int32)).toInt64 &&& 63))), .second, .unset, .unset, .unset, .unset] [(.long ((f3 (p1 >>> (((1 : Int32)).toInt64 &&& 63)) ((4 : Int64) * (900000 : Int64))) * ((4 : Int64) * (900000 : Int64)))), (.long ((f3 ((f3 (p1 >>> (((1 : Int32)).toInt64 &&& 63)) ((1 : Int64) * (900000 : Int64))) * ((1 : Int64) * (900000 : Int64))) ((4 : Int64) * (900000 : Int64))) * ((4 : Int64) * (900000 : Int64))))])
      refine Go.st (T' := T14) (g' := (mkF m 86 #[.val (.int p0), .val (.long p1), .second, .val (.int ((p0 &&& (2147483647 : Int32)) - ((p0 &&& (2147483647 : Int32)) / (3 : Int32)) * (3 : Int32))), .val (.ref b1), .val (.int (0 : Int32)), .val (.int (0 : Int32)), .val (.long (p1 >>> (((1 : Int32)).toInt64 &&& 63))), .second, .unset, .unset, .unset, .unset] [(.int (XT.cmpL ((f3 ((f3 (p1 >>> (((1 : Int32)).toInt64 &&& 63)) ((1 : Int64) * (900000 : Int64))) * ((1 : Int64) * (900000 : Int64))) ((4 : Int64) * (900000 : Int64))) * ((4 : Int64) * (900000 : Int64))) ((f3 (p1 >>> (((1 : Int32)).toInt64 &&& 63)) ((4 : Int64) * (900000 : Int64))) * ((4 : Int64) * (900000 : Int64)))))])) (fun _ hr => XT.lcmp X14.here hx rfl (hb hby at_85) rfl hr) ?_
      refine Go.st (T' := T14) (g' := (mkF m 89 #[.val (.int p0), .val (.long p1), .second, .val (.int ((p0 &&& (2147483647 : Int32)) - ((p0 &&& (2147483647 : Int32)) / (3 : Int32)) * (3 : Int32))), .val (.ref b1), .val (.int (0 : Int32)), .val (.int (0 : Int32)), .val (.long (p1 >>> (((1 : Int32)).toInt64 &&& 63))), .second, .unset, .unset, .unset, .unset] [])) (fun _ hr => XS.ifNo X14.here hx rfl (hb hby at_86) rfl (XT.ll_ne_f (own_in _ (own_Lc _ (by decide +kernel)) (own_Lc _ (by decide +kernel)) 4 (by decide +kernel))) hr) ?_
      refine Go.st (T' := T14) (g' := (mkF m 90 #[.val (.int p0), .val (.long p1), .second, .val (.int ((p0 &&& (2147483647 : Int32)) - ((p0 &&& (2147483647 : Int32)) / (3 : Int32)) * (3 : Int32))), .val (.ref b1), .val (.int (0 : Int32)), .val (.int (0 : Int32)), .val (.long (p1 >>> (((1 : Int32)).toInt64 &&& 63))), .second, .unset, .unset, .unset, .unset] [(.int (1 : Int32))])) (fun _ hr => XT.iconstV X14.here hx rfl (1 : Int32) (hb hby at_89) (by decide) hr) ?_
      refine Go.st (T' := T14) (g' := (mkF m 94 #[.val (.int p0), .val (.long p1), .second, .val (.int ((p0 &&& (2147483647 : Int32)) - ((p0 &&& (2147483647 : Int32)) / (3 : Int32)) * (3 : Int32))), .val (.ref b1), .val (.int (0 : Int32)), .val (.int (0 : Int32)), .val (.long (p1 >>> (((1 : Int32)).toInt64 &&& 63))), .second, .unset, .unset, .unset, .unset] [(.int (1 : Int32))])) (fun _ hr => XS.goto X14.here hx rfl (pc0 := 90) (pc' := 94) rfl (hb hby at_90) (by decide) (by decide) hr) ?_
      refine Go.st (T' := T14) (g' := (mkF m 96 #[.val (.int p0), .val (.long p1), .second, .val (.int ((p0 &&& (2147483647 : Int32)) - ((p0 &&& (2147483647 : Int32)) / (3 : Int32)) * (3 : Int32))), .val (.ref b1), .val (.int (0 : Int32)), .val (.int (0 : Int32)), .val (.long (p1 >>> (((1 : Int32)).toInt64 &&& 63))), .second, .val (.int (1 : Int32)), .unset, .unset, .unset] [])) (fun _ hr => XS.istore X14.here hx rfl (hb hby at_94) rfl (l' := #[.val (.int p0), .val (.long p1), .second, .val (.int ((p0 &&& (2147483647 : Int32)) - ((p0 &&& (2147483647 : Int32)) / (3 : Int32)) * (3 : Int32))), .val (.ref b1), .val (.int (0 : Int32)), .val (.int (0 : Int32)), .val (.long (p1 >>> (((1 : Int32)).toInt64 &&& 63))), .second, .val (.int (1 : Int32)), .unset, .unset, .unset]) rfl hr) ?_
      refine Go.st (T' := T14) (g' := (mkF m 98 #[.val (.int p0), .val (.long p1), .second, .val (.int ((p0 &&& (2147483647 : Int32)) - ((p0 &&& (2147483647 : Int32)) / (3 : Int32)) * (3 : Int32))), .val (.ref b1), .val (.int (0 : Int32)), .val (.int (0 : Int32)), .val (.long (p1 >>> (((1 : Int32)).toInt64 &&& 63))), .second, .val (.int (1 : Int32)), .unset, .unset, .unset] [(.ref b1)])) (fun _ hr => XS.aload X14.here hx rfl (hb hby at_96) rfl rfl hr) ?_
      refine Go.callV X14 hx hZ hown (W := 0) (y := (⟨"com/example/rugged_meter/ruggedmeter/TimeRange$Period", "millis", "()J"⟩ : MethodName)) (hw _ (List.mem_of_getElem? (i := 44) rfl)) (hw _ (List.mem_of_getElem? (i := 37) rfl)) (hw _ (List.mem_of_getElem? (i := 39) rfl)) (hw _ (List.mem_of_getElem? (i := 38) rfl)) (hw _ (List.mem_of_getElem? (i := 2) rfl)) (hw _ (List.mem_of_getElem? (i := 40) rfl)) (by decide) rfl e14 E1 (rm7 l Z a0 hw b1 (4 : Int64)  h0 F1) (by decide) (by decide) (by decide) (by decide) (g := (mkF m 98 #[.val (.int p0), .val (.long p1), .second, .val (.int ((p0 &&& (2147483647 : Int32)) - ((p0 &&& (2147483647 : Int32)) / (3 : Int32)) * (3 : Int32))), .val (.ref b1), .val (.int (0 : Int32)), .val (.int (0 : Int32)), .val (.long (p1 >>> (((1 : Int32)).toInt64 &&& 63))), .second, .val (.int (1 : Int32)), .unset, .unset, .unset] [(.ref b1)])) rfl (by rw [hml]; rfl) (argsL := []) (rest := []) (lenOf pd_2 rfl) rfl (by show 2 * 0 + _ ≤ _; exact Nat.le_of_eq rfl) (hb hby at_98) (fun v15 T15 L15 X15 q15 => ?_)
      obtain ⟨rfl, rfl, e15⟩ := q15
      rw [List.append_nil] at X15
      show Go p.tables e below (Fin s (fun v h L => v = some (.int 1) ∧ Fr h0.size L) room_1.cells room_1.slots) T15 (mkF m 101 #[.val (.int p0), .val (.long p1), .second, .val (.int ((p0 &&& (2147483647 : Int32)) - ((p0 &&& (2147483647 : Int32)) / (3 : Int32)) * (3 : Int32))), .val (.ref b1), .val (.int (0 : Int32)), .val (.int (0 : Int32)), .val (.long (p1 >>> (((1 : Int32)).toInt64 &&& 63))), .second, .val (.int (1 : Int32)), .unset, .unset, .unset] [(.long ((4 : Int64) * (900000 : Int64)))])
      refine Go.st (T' := T15) (g' := (mkF m 103 #[.val (.int p0), .val (.long p1), .second, .val (.int ((p0 &&& (2147483647 : Int32)) - ((p0 &&& (2147483647 : Int32)) / (3 : Int32)) * (3 : Int32))), .val (.ref b1), .val (.int (0 : Int32)), .val (.int (0 : Int32)), .val (.long (p1 >>> (((1 : Int32)).toInt64 &&& 63))), .second, .val (.int (1 : Int32)), .val (.long ((4 : Int64) * (900000 : Int64))), .second, .unset] [])) (fun _ hr => XT.lstore X15.here hx rfl (hb hby at_101) rfl (l' := #[.val (.int p0), .val (.long p1), .second, .val (.int ((p0 &&& (2147483647 : Int32)) - ((p0 &&& (2147483647 : Int32)) / (3 : Int32)) * (3 : Int32))), .val (.ref b1), .val (.int (0 : Int32)), .val (.int (0 : Int32)), .val (.long (p1 >>> (((1 : Int32)).toInt64 &&& 63))), .second, .val (.int (1 : Int32)), .val (.long ((4 : Int64) * (900000 : Int64))), .second, .unset]) rfl hr) ?_
      refine Go.st (T' := T15) (g' := (mkF m 105 #[.val (.int p0), .val (.long p1), .second, .val (.int ((p0 &&& (2147483647 : Int32)) - ((p0 &&& (2147483647 : Int32)) / (3 : Int32)) * (3 : Int32))), .val (.ref b1), .val (.int (0 : Int32)), .val (.int (0 : Int32)), .val (.long (p1 >>> (((1 : Int32)).toInt64 &&& 63))), .second, .val (.int (1 : Int32)), .val (.long ((4 : Int64) * (900000 : Int64))), .second, .unset] [(.long ((4 : Int64) * (900000 : Int64)))])) (fun _ hr => XT.lload X15.here hx rfl (hb hby at_103) rfl hr) ?_
      refine Go.st (T' := T15) (g' := (mkF m 107 #[.val (.int p0), .val (.long p1), .second, .val (.int ((p0 &&& (2147483647 : Int32)) - ((p0 &&& (2147483647 : Int32)) / (3 : Int32)) * (3 : Int32))), .val (.ref b1), .val (.int (0 : Int32)), .val (.int (0 : Int32)), .val (.long (p1 >>> (((1 : Int32)).toInt64 &&& 63))), .second, .val (.int (1 : Int32)), .val (.long ((4 : Int64) * (900000 : Int64))), .second, .unset] [(.int (0 : Int32)), (.long ((4 : Int64) * (900000 : Int64)))])) (fun _ hr => XS.iload X15.here hx rfl (hb hby at_105) rfl hr) ?_
      refine Go.st (T' := T15) (g' := (mkF m 108 #[.val (.int p0), .val (.long p1), .second, .val (.int ((p0 &&& (2147483647 : Int32)) - ((p0 &&& (2147483647 : Int32)) / (3 : Int32)) * (3 : Int32))), .val (.ref b1), .val (.int (0 : Int32)), .val (.int (0 : Int32)), .val (.long (p1 >>> (((1 : Int32)).toInt64 &&& 63))), .second, .val (.int (1 : Int32)), .val (.long ((4 : Int64) * (900000 : Int64))), .second, .unset] [(.int (1 : Int32)), (.int (0 : Int32)), (.long ((4 : Int64) * (900000 : Int64)))])) (fun _ hr => XT.iconstV X15.here hx rfl (1 : Int32) (hb hby at_107) (by decide) hr) ?_
      refine Go.st (T' := T15) (g' := (mkF m 109 #[.val (.int p0), .val (.long p1), .second, .val (.int ((p0 &&& (2147483647 : Int32)) - ((p0 &&& (2147483647 : Int32)) / (3 : Int32)) * (3 : Int32))), .val (.ref b1), .val (.int (0 : Int32)), .val (.int (0 : Int32)), .val (.long (p1 >>> (((1 : Int32)).toInt64 &&& 63))), .second, .val (.int (1 : Int32)), .val (.long ((4 : Int64) * (900000 : Int64))), .second, .unset] [(.int ((0 : Int32) + (1 : Int32))), (.long ((4 : Int64) * (900000 : Int64)))])) (fun _ hr => XS.iadd X15.here hx rfl (hb hby at_108) rfl hr) ?_
      refine Go.callP X15 hx hZ hown (W := 0) (hw _ (List.mem_of_getElem? (i := 16) rfl)) (hw _ (List.mem_of_getElem? (i := 17) rfl)) (hw _ (List.mem_of_getElem? (i := 10) rfl)) (hw _ (List.mem_of_getElem? (i := 18) rfl)) (by decide) e15 (rm2_1 l Z a0 hw ((4 : Int64) * (900000 : Int64)) sa ka h0 G2 V0 (own_Rc _ (by decide +kernel))) (by decide) (by decide) (by decide) (by decide) (g := (mkF m 109 #[.val (.int p0), .val (.long p1), .second, .val (.int ((p0 &&& (2147483647 : Int32)) - ((p0 &&& (2147483647 : Int32)) / (3 : Int32)) * (3 : Int32))), .val (.ref b1), .val (.int (0 : Int32)), .val (.int (0 : Int32)), .val (.long (p1 >>> (((1 : Int32)).toInt64 &&& 63))), .second, .val (.int (1 : Int32)), .val (.long ((4 : Int64) * (900000 : Int64))), .second, .unset] [(.int ((0 : Int32) + (1 : Int32))), (.long ((4 : Int64) * (900000 : Int64)))])) rfl (by rw [hml]; rfl) (argsL := [(.long ((4 : Int64) * (900000 : Int64))), (.int ((0 : Int32) + (1 : Int32)))]) (rest := []) (lenOf pd_3 rfl) rfl (by show 2 * 0 + _ ≤ _; exact Nat.le_of_eq rfl) (hb hby at_109) (fun T16 X16 e16 => ?_)
      show Go p.tables e below (Fin s (fun v h L => v = some (.int 1) ∧ Fr h0.size L) room_1.cells room_1.slots) T16 (mkF m 112 #[.val (.int p0), .val (.long p1), .second, .val (.int ((p0 &&& (2147483647 : Int32)) - ((p0 &&& (2147483647 : Int32)) / (3 : Int32)) * (3 : Int32))), .val (.ref b1), .val (.int (0 : Int32)), .val (.int (0 : Int32)), .val (.long (p1 >>> (((1 : Int32)).toInt64 &&& 63))), .second, .val (.int (1 : Int32)), .val (.long ((4 : Int64) * (900000 : Int64))), .second, .unset] [(.long ((f3 ((4 : Int64) * (900000 : Int64)) ((96 : Int64) * (900000 : Int64))) * ((96 : Int64) * (900000 : Int64))))])
      refine Go.st (T' := T16) (g' := (mkF m 114 #[.val (.int p0), .val (.long p1), .second, .val (.int ((p0 &&& (2147483647 : Int32)) - ((p0 &&& (2147483647 : Int32)) / (3 : Int32)) * (3 : Int32))), .val (.ref b1), .val (.int (0 : Int32)), .val (.int (0 : Int32)), .val (.long (p1 >>> (((1 : Int32)).toInt64 &&& 63))), .second, .val (.int (1 : Int32)), .val (.long ((4 : Int64) * (900000 : Int64))), .second, .unset] [(.long ((4 : Int64) * (900000 : Int64))), (.long ((f3 ((4 : Int64) * (900000 : Int64)) ((96 : Int64) * (900000 : Int64))) * ((96 : Int64) * (900000 : Int64))))])) (fun _ hr => XT.lload X16.here hx rfl (hb hby at_112) rfl hr) ?_
      refine Go.st (T' := T16) (g' := (mkF m 115 #[.val (.int p0), .val (.long p1), .second, .val (.int ((p0 &&& (2147483647 : Int32)) - ((p0 &&& (2147483647 : Int32)) / (3 : Int32)) * (3 : Int32))), .val (.ref b1), .val (.int (0 : Int32)), .val (.int (0 : Int32)), .val (.long (p1 >>> (((1 : Int32)).toInt64 &&& 63))), .second, .val (.int (1 : Int32)), .val (.long ((4 : Int64) * (900000 : Int64))), .second, .unset] [(.int (XT.cmpL ((f3 ((4 : Int64) * (900000 : Int64)) ((96 : Int64) * (900000 : Int64))) * ((96 : Int64) * (900000 : Int64))) ((4 : Int64) * (900000 : Int64))))])) (fun _ hr => XT.lcmp X16.here hx rfl (hb hby at_114) rfl hr) ?_
      refine Go.st (T' := T16) (g' := (mkF m 118 #[.val (.int p0), .val (.long p1), .second, .val (.int ((p0 &&& (2147483647 : Int32)) - ((p0 &&& (2147483647 : Int32)) / (3 : Int32)) * (3 : Int32))), .val (.ref b1), .val (.int (0 : Int32)), .val (.int (0 : Int32)), .val (.long (p1 >>> (((1 : Int32)).toInt64 &&& 63))), .second, .val (.int (1 : Int32)), .val (.long ((4 : Int64) * (900000 : Int64))), .second, .unset] [])) (fun _ hr => XS.ifNo X16.here hx rfl (hb hby at_115) rfl (XT.ll_eq_f (by decide +kernel)) hr) ?_
      refine Go.st (T' := T16) (g' := (mkF m 119 #[.val (.int p0), .val (.long p1), .second, .val (.int ((p0 &&& (2147483647 : Int32)) - ((p0 &&& (2147483647 : Int32)) / (3 : Int32)) * (3 : Int32))), .val (.ref b1), .val (.int (0 : Int32)), .val (.int (0 : Int32)), .val (.long (p1 >>> (((1 : Int32)).toInt64 &&& 63))), .second, .val (.int (1 : Int32)), .val (.long ((4 : Int64) * (900000 : Int64))), .second, .unset] [(.int (1 : Int32))])) (fun _ hr => XT.iconstV X16.here hx rfl (1 : Int32) (hb hby at_118) (by decide) hr) ?_
      refine Go.st (T' := T16) (g' := (mkF m 123 #[.val (.int p0), .val (.long p1), .second, .val (.int ((p0 &&& (2147483647 : Int32)) - ((p0 &&& (2147483647 : Int32)) / (3 : Int32)) * (3 : Int32))), .val (.ref b1), .val (.int (0 : Int32)), .val (.int (0 : Int32)), .val (.long (p1 >>> (((1 : Int32)).toInt64 &&& 63))), .second, .val (.int (1 : Int32)), .val (.long ((4 : Int64) * (900000 : Int64))), .second, .unset] [(.int (1 : Int32))])) (fun _ hr => XS.goto X16.here hx rfl (pc0 := 119) (pc' := 123) rfl (hb hby at_119) (by decide) (by decide) hr) ?_
      refine Go.st (T' := T16) (g' := (mkF m 125 #[.val (.int p0), .val (.long p1), .second, .val (.int ((p0 &&& (2147483647 : Int32)) - ((p0 &&& (2147483647 : Int32)) / (3 : Int32)) * (3 : Int32))), .val (.ref b1), .val (.int (0 : Int32)), .val (.int (0 : Int32)), .val (.long (p1 >>> (((1 : Int32)).toInt64 &&& 63))), .second, .val (.int (1 : Int32)), .val (.long ((4 : Int64) * (900000 : Int64))), .second, .val (.int (1 : Int32))] [])) (fun _ hr => XS.istore X16.here hx rfl (hb hby at_123) rfl (l' := #[.val (.int p0), .val (.long p1), .second, .val (.int ((p0 &&& (2147483647 : Int32)) - ((p0 &&& (2147483647 : Int32)) / (3 : Int32)) * (3 : Int32))), .val (.ref b1), .val (.int (0 : Int32)), .val (.int (0 : Int32)), .val (.long (p1 >>> (((1 : Int32)).toInt64 &&& 63))), .second, .val (.int (1 : Int32)), .val (.long ((4 : Int64) * (900000 : Int64))), .second, .val (.int (1 : Int32))]) rfl hr) ?_
      refine Go.st (T' := T16) (g' := (mkF m 127 #[.val (.int p0), .val (.long p1), .second, .val (.int ((p0 &&& (2147483647 : Int32)) - ((p0 &&& (2147483647 : Int32)) / (3 : Int32)) * (3 : Int32))), .val (.ref b1), .val (.int (0 : Int32)), .val (.int (0 : Int32)), .val (.long (p1 >>> (((1 : Int32)).toInt64 &&& 63))), .second, .val (.int (1 : Int32)), .val (.long ((4 : Int64) * (900000 : Int64))), .second, .val (.int (1 : Int32))] [(.int (1 : Int32))])) (fun _ hr => XS.iload X16.here hx rfl (hb hby at_125) rfl hr) ?_
      refine Go.st (T' := T16) (g' := (mkF m 130 #[.val (.int p0), .val (.long p1), .second, .val (.int ((p0 &&& (2147483647 : Int32)) - ((p0 &&& (2147483647 : Int32)) / (3 : Int32)) * (3 : Int32))), .val (.ref b1), .val (.int (0 : Int32)), .val (.int (0 : Int32)), .val (.long (p1 >>> (((1 : Int32)).toInt64 &&& 63))), .second, .val (.int (1 : Int32)), .val (.long ((4 : Int64) * (900000 : Int64))), .second, .val (.int (1 : Int32))] [])) (fun _ hr => XS.ifNo X16.here hx rfl (hb hby at_127) rfl (XT.i0_eq_f (by decide)) hr) ?_
      refine Go.st (T' := T16) (g' := (mkF m 132 #[.val (.int p0), .val (.long p1), .second, .val (.int ((p0 &&& (2147483647 : Int32)) - ((p0 &&& (2147483647 : Int32)) / (3 : Int32)) * (3 : Int32))), .val (.ref b1), .val (.int (0 : Int32)), .val (.int (0 : Int32)), .val (.long (p1 >>> (((1 : Int32)).toInt64 &&& 63))), .second, .val (.int (1 : Int32)), .val (.long ((4 : Int64) * (900000 : Int64))), .second, .val (.int (1 : Int32))] [(.int (1 : Int32))])) (fun _ hr => XS.iload X16.here hx rfl (hb hby at_130) rfl hr) ?_
      refine Go.st (T' := T16) (g' := (mkF m 135 #[.val (.int p0), .val (.long p1), .second, .val (.int ((p0 &&& (2147483647 : Int32)) - ((p0 &&& (2147483647 : Int32)) / (3 : Int32)) * (3 : Int32))), .val (.ref b1), .val (.int (0 : Int32)), .val (.int (0 : Int32)), .val (.long (p1 >>> (((1 : Int32)).toInt64 &&& 63))), .second, .val (.int (1 : Int32)), .val (.long ((4 : Int64) * (900000 : Int64))), .second, .val (.int (1 : Int32))] [])) (fun _ hr => XS.ifNo X16.here hx rfl (hb hby at_132) rfl (XT.i0_eq_f (by decide)) hr) ?_
      refine Go.st (T' := T16) (g' := (mkF m 136 #[.val (.int p0), .val (.long p1), .second, .val (.int ((p0 &&& (2147483647 : Int32)) - ((p0 &&& (2147483647 : Int32)) / (3 : Int32)) * (3 : Int32))), .val (.ref b1), .val (.int (0 : Int32)), .val (.int (0 : Int32)), .val (.long (p1 >>> (((1 : Int32)).toInt64 &&& 63))), .second, .val (.int (1 : Int32)), .val (.long ((4 : Int64) * (900000 : Int64))), .second, .val (.int (1 : Int32))] [(.int (1 : Int32))])) (fun _ hr => XT.iconstV X16.here hx rfl (1 : Int32) (hb hby at_135) (by decide) hr) ?_
      refine Go.st (T' := T16) (g' := (mkF m 140 #[.val (.int p0), .val (.long p1), .second, .val (.int ((p0 &&& (2147483647 : Int32)) - ((p0 &&& (2147483647 : Int32)) / (3 : Int32)) * (3 : Int32))), .val (.ref b1), .val (.int (0 : Int32)), .val (.int (0 : Int32)), .val (.long (p1 >>> (((1 : Int32)).toInt64 &&& 63))), .second, .val (.int (1 : Int32)), .val (.long ((4 : Int64) * (900000 : Int64))), .second, .val (.int (1 : Int32))] [(.int (1 : Int32))])) (fun _ hr => XS.goto X16.here hx rfl (pc0 := 136) (pc' := 140) rfl (hb hby at_136) (by decide) (by decide) hr) ?_
      exact Go.retN X16 hx hlk hret (by simp) (hb hby at_140) (by decide) (by decide) ⟨rfl, (Fr.nil h0.size)⟩
    · refine Go.st (T' := s₁) (g' := (mkF m 28 #[.val (.int p0), .val (.long p1), .second, .val (.int ((p0 &&& (2147483647 : Int32)) - ((p0 &&& (2147483647 : Int32)) / (3 : Int32)) * (3 : Int32))), .unset, .unset, .unset, .unset, .unset, .unset, .unset, .unset, .unset] [])) (fun _ hr => XS.icmpYes X0.here hx rfl (pc0 := 19) (pc' := 28) rfl (hb hby at_19) rfl (XT.ii_ne_t c19_9) (by decide) (by decide) hr) ?_
      obtain ⟨T17, X17, e17, st17⟩ := getS2 X0 hx hZ hown (host := "") (Or.inl (hw _ (List.mem_of_getElem? (i := 48) rfl))) Via.refl e0 Q2 (g := (mkF m 28 #[.val (.int p0), .val (.long p1), .second, .val (.int ((p0 &&& (2147483647 : Int32)) - ((p0 &&& (2147483647 : Int32)) / (3 : Int32)) * (3 : Int32))), .unset, .unset, .unset, .unset, .unset, .unset, .unset, .unset, .unset] [])) rfl (hb hby at_28)
      refine Go.st (T' := T17) (g' := (mkF m 31 #[.val (.int p0), .val (.long p1), .second, .val (.int ((p0 &&& (2147483647 : Int32)) - ((p0 &&& (2147483647 : Int32)) / (3 : Int32)) * (3 : Int32))), .unset, .unset, .unset, .unset, .unset, .unset, .unset, .unset, .unset] [(.ref b2)])) st17 ?_
      refine Go.st (T' := T17) (g' := (mkF m 33 #[.val (.int p0), .val (.long p1), .second, .val (.int ((p0 &&& (2147483647 : Int32)) - ((p0 &&& (2147483647 : Int32)) / (3 : Int32)) * (3 : Int32))), .val (.ref b2), .unset, .unset, .unset, .unset, .unset, .unset, .unset, .unset] [])) (fun _ hr => XS.astore X17.here hx rfl (hb hby at_31) rfl rfl (l' := #[.val (.int p0), .val (.long p1), .second, .val (.int ((p0 &&& (2147483647 : Int32)) - ((p0 &&& (2147483647 : Int32)) / (3 : Int32)) * (3 : Int32))), .val (.ref b2), .unset, .unset, .unset, .unset, .unset, .unset, .unset, .unset]) rfl hr) ?_
      refine Go.st (T' := T17) (g' := (mkF m 35 #[.val (.int p0), .val (.long p1), .second, .val (.int ((p0 &&& (2147483647 : Int32)) - ((p0 &&& (2147483647 : Int32)) / (3 : Int32)) * (3 : Int32))), .val (.ref b2), .unset, .unset, .unset, .unset, .unset, .unset, .unset, .unset] [(.ref b2)])) (fun _ hr => XS.aload X17.here hx rfl (hb hby at_33) rfl rfl hr) ?_
      refine Go.callV X17 hx hZ hown (W := 0) (y := (⟨"com/example/rugged_meter/ruggedmeter/TimeRange$Period", "scale", "()I"⟩ : MethodName)) (hw _ (List.mem_of_getElem? (i := 4) rfl)) (hw _ (List.mem_of_getElem? (i := 5) rfl)) (hw _ (List.mem_of_getElem? (i := 7) rfl)) (hw _ (List.mem_of_getElem? (i := 6) rfl)) (hw _ (List.mem_of_getElem? (i := 2) rfl)) (hw _ (List.mem_of_getElem? (i := 8) rfl)) (by decide) rfl e17 E2 (rm1_96 l Z a0 hw b2 sa ka h0 E2 F2 G1 G2 V0) (by decide) (by decide) (by decide) (by decide) (g := (mkF m 35 #[.val (.int p0), .val (.long p1), .second, .val (.int ((p0 &&& (2147483647 : Int32)) - ((p0 &&& (2147483647 : Int32)) / (3 : Int32)) * (3 : Int32))), .val (.ref b2), .unset, .unset, .unset, .unset, .unset, .unset, .unset, .unset] [(.ref b2)])) rfl (by rw [hml]; rfl) (argsL := []) (rest := []) (lenOf pd_4 rfl) rfl (by show 2 * 0 + _ ≤ _; exact Nat.le_of_eq rfl) (hb hby at_35) (fun v18 T18 L18 X18 q18 => ?_)
      obtain ⟨rfl, rfl, e18⟩ := q18
      rw [List.append_nil] at X18
      show Go p.tables e below (Fin s (fun v h L => v = some (.int 1) ∧ Fr h0.size L) room_1.cells room_1.slots) T18 (mkF m 38 #[.val (.int p0), .val (.long p1), .second, .val (.int ((p0 &&& (2147483647 : Int32)) - ((p0 &&& (2147483647 : Int32)) / (3 : Int32)) * (3 : Int32))), .val (.ref b2), .unset, .unset, .unset, .unset, .unset, .unset, .unset, .unset] [(.int (1 : Int32))])
      refine Go.st (T' := T18) (g' := (mkF m 40 #[.val (.int p0), .val (.long p1), .second, .val (.int ((p0 &&& (2147483647 : Int32)) - ((p0 &&& (2147483647 : Int32)) / (3 : Int32)) * (3 : Int32))), .val (.ref b2), .val (.int (1 : Int32)), .unset, .unset, .unset, .unset, .unset, .unset, .unset] [])) (fun _ hr => XS.istore X18.here hx rfl (hb hby at_38) rfl (l' := #[.val (.int p0), .val (.long p1), .second, .val (.int ((p0 &&& (2147483647 : Int32)) - ((p0 &&& (2147483647 : Int32)) / (3 : Int32)) * (3 : Int32))), .val (.ref b2), .val (.int (1 : Int32)), .unset, .unset, .unset, .unset, .unset, .unset, .unset]) rfl hr) ?_
      refine Go.st (T' := T18) (g' := (mkF m 41 #[.val (.int p0), .val (.long p1), .second, .val (.int ((p0 &&& (2147483647 : Int32)) - ((p0 &&& (2147483647 : Int32)) / (3 : Int32)) * (3 : Int32))), .val (.ref b2), .val (.int (1 : Int32)), .unset, .unset, .unset, .unset, .unset, .unset, .unset] [(.int ((p0 &&& (2147483647 : Int32)) - ((p0 &&& (2147483647 : Int32)) / (3 : Int32)) * (3 : Int32)))])) (fun _ hr => XS.iloadN X18.here hx rfl (hb hby at_40) rfl hr) ?_
      refine Go.st (T' := T18) (g' := (mkF m 42 #[.val (.int p0), .val (.long p1), .second, .val (.int ((p0 &&& (2147483647 : Int32)) - ((p0 &&& (2147483647 : Int32)) / (3 : Int32)) * (3 : Int32))), .val (.ref b2), .val (.int (1 : Int32)), .unset, .unset, .unset, .unset, .unset, .unset, .unset] [(.int (2 : Int32)), (.int ((p0 &&& (2147483647 : Int32)) - ((p0 &&& (2147483647 : Int32)) / (3 : Int32)) * (3 : Int32)))])) (fun _ hr => XT.iconstV X18.here hx rfl (2 : Int32) (hb hby at_41) (by decide) hr) ?_
      refine Go.st (T' := T18) (g' := (mkF m 45 #[.val (.int p0), .val (.long p1), .second, .val (.int ((p0 &&& (2147483647 : Int32)) - ((p0 &&& (2147483647 : Int32)) / (3 : Int32)) * (3 : Int32))), .val (.ref b2), .val (.int (1 : Int32)), .unset, .unset, .unset, .unset, .unset, .unset, .unset] [])) (fun _ hr => XS.icmpNo X18.here hx rfl (hb hby at_42) rfl (XT.ii_ne_f (own_two c8_1 c19_9)) hr) ?_
      refine Go.st (T' := T18) (g' := (mkF m 46 #[.val (.int p0), .val (.long p1), .second, .val (.int ((p0 &&& (2147483647 : Int32)) - ((p0 &&& (2147483647 : Int32)) / (3 : Int32)) * (3 : Int32))), .val (.ref b2), .val (.int (1 : Int32)), .unset, .unset, .unset, .unset, .unset, .unset, .unset] [(.int (1 : Int32))])) (fun _ hr => XT.iconstV X18.here hx rfl (1 : Int32) (hb hby at_45) (by decide) hr) ?_
      refine Go.st (T' := T18) (g' := (mkF m 50 #[.val (.int p0), .val (.long p1), .second, .val (.int ((p0 &&& (2147483647 : Int32)) - ((p0 &&& (2147483647 : Int32)) / (3 : Int32)) * (3 : Int32))), .val (.ref b2), .val (.int (1 : Int32)), .unset, .unset, .unset, .unset, .unset, .unset, .unset] [(.int (1 : Int32))])) (fun _ hr => XS.goto X18.here hx rfl (pc0 := 46) (pc' := 50) rfl (hb hby at_46) (by decide) (by decide) hr) ?_
      refine Go.st (T' := T18) (g' := (mkF m 52 #[.val (.int p0), .val (.long p1), .second, .val (.int ((p0 &&& (2147483647 : Int32)) - ((p0 &&& (2147483647 : Int32)) / (3 : Int32)) * (3 : Int32))), .val (.ref b2), .val (.int (1 : Int32)), .val (.int (1 : Int32)), .unset, .unset, .unset, .unset, .unset, .unset] [])) (fun _ hr => XS.istore X18.here hx rfl (hb hby at_50) rfl (l' := #[.val (.int p0), .val (.long p1), .second, .val (.int ((p0 &&& (2147483647 : Int32)) - ((p0 &&& (2147483647 : Int32)) / (3 : Int32)) * (3 : Int32))), .val (.ref b2), .val (.int (1 : Int32)), .val (.int (1 : Int32)), .unset, .unset, .unset, .unset, .unset, .unset]) rfl hr) ?_
      refine Go.st (T' := T18) (g' := (mkF m 54 #[.val (.int p0), .val (.long p1), .second, .val (.int ((p0 &&& (2147483647 : Int32)) - ((p0 &&& (2147483647 : Int32)) / (3 : Int32)) * (3 : Int32))), .val (.ref b2), .val (.int (1 : Int32)), .val (.int (1 : Int32)), .unset, .unset, .unset, .unset, .unset, .unset] [(.int (1 : Int32))])) (fun _ hr => XS.iload X18.here hx rfl (hb hby at_52) rfl hr) ?_
      refine Go.st (T' := T18) (g' := (mkF m 56 #[.val (.int p0), .val (.long p1), .second, .val (.int ((p0 &&& (2147483647 : Int32)) - ((p0 &&& (2147483647 : Int32)) / (3 : Int32)) * (3 : Int32))), .val (.ref b2), .val (.int (1 : Int32)), .val (.int (1 : Int32)), .unset, .unset, .unset, .unset, .unset, .unset] [(.int (1 : Int32)), (.int (1 : Int32))])) (fun _ hr => XS.iload X18.here hx rfl (hb hby at_54) rfl hr) ?_
      refine Go.st (T' := T18) (g' := (mkF m 61 #[.val (.int p0), .val (.long p1), .second, .val (.int ((p0 &&& (2147483647 : Int32)) - ((p0 &&& (2147483647 : Int32)) / (3 : Int32)) * (3 : Int32))), .val (.ref b2), .val (.int (1 : Int32)), .val (.int (1 : Int32)), .unset, .unset, .unset, .unset, .unset, .unset] [])) (fun _ hr => XS.icmpYes X18.here hx rfl (pc0 := 56) (pc' := 61) rfl (hb hby at_56) rfl (XT.ii_eq_t (by decide)) (by decide) (by decide) hr) ?_
      refine Go.st (T' := T18) (g' := (mkF m 62 #[.val (.int p0), .val (.long p1), .second, .val (.int ((p0 &&& (2147483647 : Int32)) - ((p0 &&& (2147483647 : Int32)) / (3 : Int32)) * (3 : Int32))), .val (.ref b2), .val (.int (1 : Int32)), .val (.int (1 : Int32)), .unset, .unset, .unset, .unset, .unset, .unset] [(.long p1)])) (fun _ hr => XT.lloadN X18.here hx rfl (hb hby at_61) rfl hr) ?_
      refine Go.st (T' := T18) (g' := (mkF m 63 #[.val (.int p0), .val (.long p1), .second, .val (.int ((p0 &&& (2147483647 : Int32)) - ((p0 &&& (2147483647 : Int32)) / (3 : Int32)) * (3 : Int32))), .val (.ref b2), .val (.int (1 : Int32)), .val (.int (1 : Int32)), .unset, .unset, .unset, .unset, .unset, .unset] [(.int (1 : Int32)), (.long p1)])) (fun _ hr => XT.iconstV X18.here hx rfl (1 : Int32) (hb hby at_62) (by decide) hr) ?_
      refine Go.st (T' := T18) (g' := (mkF m 64 #[.val (.int p0), .val (.long p1), .second, .val (.int ((p0 &&& (2147483647 : Int32)) - ((p0 &&& (2147483647 : Int32)) / (3 : Int32)) * (3 : Int32))), .val (.ref b2), .val (.int (1 : Int32)), .val (.int (1 : Int32)), .unset, .unset, .unset, .unset, .unset, .unset] [(.long (p1 >>> (((1 : Int32)).toInt64 &&& 63)))])) (fun _ hr => XT.lshr X18.here hx rfl (hb hby at_63) rfl hr) ?_
      refine Go.st (T' := T18) (g' := (mkF m 66 #[.val (.int p0), .val (.long p1), .second, .val (.int ((p0 &&& (2147483647 : Int32)) - ((p0 &&& (2147483647 : Int32)) / (3 : Int32)) * (3 : Int32))), .val (.ref b2), .val (.int (1 : Int32)), .val (.int (1 : Int32)), .val (.long (p1 >>> (((1 : Int32)).toInt64 &&& 63))), .second, .unset, .unset, .unset, .unset] [])) (fun _ hr => XT.lstore X18.here hx rfl (hb hby at_64) rfl (l' := #[.val (.int p0), .val (.long p1), .second, .val (.int ((p0 &&& (2147483647 : Int32)) - ((p0 &&& (2147483647 : Int32)) / (3 : Int32)) * (3 : Int32))), .val (.ref b2), .val (.int (1 : Int32)), .val (.int (1 : Int32)), .val (.long (p1 >>> (((1 : Int32)).toInt64 &&& 63))), .second, .unset, .unset, .unset, .unset]) rfl hr) ?_
      refine Go.st (T' := T18) (g' := (mkF m 68 #[.val (.int p0), .val (.long p1), .second, .val (.int ((p0 &&& (2147483647 : Int32)) - ((p0 &&& (2147483647 : Int32)) / (3 : Int32)) * (3 : Int32))), .val (.ref b2), .val (.int (1 : Int32)), .val (.int (1 : Int32)), .val (.long (p1 >>> (((1 : Int32)).toInt64 &&& 63))), .second, .unset, .unset, .unset, .unset] [(.ref b2)])) (fun _ hr => XS.aload X18.here hx rfl (hb hby at_66) rfl rfl hr) ?_
      refine Go.st (T' := T18) (g' := (mkF m 70 #[.val (.int p0), .val (.long p1), .second, .val (.int ((p0 &&& (2147483647 : Int32)) - ((p0 &&& (2147483647 : Int32)) / (3 : Int32)) * (3 : Int32))), .val (.ref b2), .val (.int (1 : Int32)), .val (.int (1 : Int32)), .val (.long (p1 >>> (((1 : Int32)).toInt64 &&& 63))), .second, .unset, .unset, .unset, .unset] [(.long (p1 >>> (((1 : Int32)).toInt64 &&& 63))), (.ref b2)])) (fun _ hr => XT.lload X18.here hx rfl (hb hby at_68) rfl hr) ?_
      refine Go.st (T' := T18) (g' := (mkF m 72 #[.val (.int p0), .val (.long p1), .second, .val (.int ((p0 &&& (2147483647 : Int32)) - ((p0 &&& (2147483647 : Int32)) / (3 : Int32)) * (3 : Int32))), .val (.ref b2), .val (.int (1 : Int32)), .val (.int (1 : Int32)), .val (.long (p1 >>> (((1 : Int32)).toInt64 &&& 63))), .second, .unset, .unset, .unset, .unset] [(.int (1 : Int32)), (.long (p1 >>> (((1 : Int32)).toInt64 &&& 63))), (.ref b2)])) (fun _ hr => XS.iload X18.here hx rfl (hb hby at_70) rfl hr) ?_
      refine Go.callP X18 hx hZ hown (W := 1) (hw _ (List.mem_of_getElem? (i := 16) rfl)) (hw _ (List.mem_of_getElem? (i := 17) rfl)) (hw _ (List.mem_of_getElem? (i := 10) rfl)) (hw _ (List.mem_of_getElem? (i := 18) rfl)) (by decide) e18 (rm2_1 l Z a0 hw (p1 >>> (((1 : Int32)).toInt64 &&& 63)) sa ka h0 G2 V0 (own_Ru _)) (by decide) (by decide) (by decide) (by decide) (g := (mkF m 72 #[.val (.int p0), .val (.long p1), .second, .val (.int ((p0 &&& (2147483647 : Int32)) - ((p0 &&& (2147483647 : Int32)) / (3 : Int32)) * (3 : Int32))), .val (.ref b2), .val (.int (1 : Int32)), .val (.int (1 : Int32)), .val (.long (p1 >>> (((1 : Int32)).toInt64 &&& 63))), .second, .unset, .unset, .unset, .unset] [(.int (1 : Int32)), (.long (p1 >>> (((1 : Int32)).toInt64 &&& 63))), (.ref b2)])) rfl (by rw [hml]; rfl) (argsL := [(.long (p1 >>> (((1 : Int32)).toInt64 &&& 63))), (.int (1 : Int32))]) (rest := [(.ref b2)]) (lenOf pd_3 rfl) rfl (by show 2 * 0 + _ ≤ _; exact Nat.le_of_eq rfl) (hb hby at_72) (fun T19 X19 e19 => ?_)
      show Go p.tables e below (Fin s (fun v h L => v = some (.int 1) ∧ Fr h0.size L) room_1.cells room_1.slots) T19 (mkF m 75 #[.val (.int p0), .val (.long p1), .second, .val (.int ((p0 &&& (2147483647 : Int32)) - ((p0 &&& (2147483647 : Int32)) / (3 : Int32)) * (3 : Int32))), .val (.ref b2), .val (.int (1 : Int32)), .val (.int (1 : Int32)), .val (.long (p1 >>> (((1 : Int32)).toInt64 &&& 63))), .second, .unset, .unset, .unset, .unset] [(.long ((f3 (p1 >>> (((1 : Int32)).toInt64 &&& 63)) ((96 : Int64) * (900000 : Int64))) * ((96 : Int64) * (900000 : Int64)))), (.ref b2)])
      refine Go.callV X19 hx hZ hown (W := 0) (y := (⟨"com/example/rugged_meter/ruggedmeter/TimeRange$Period", "startOf", "(J)J"⟩ : MethodName)) (hw _ (List.mem_of_getElem? (i := 31) rfl)) (hw _ (List.mem_of_getElem? (i := 32) rfl)) (hw _ (List.mem_of_getElem? (i := 34) rfl)) (hw _ (List.mem_of_getElem? (i := 33) rfl)) (hw _ (List.mem_of_getElem? (i := 2) rfl)) (hw _ (List.mem_of_getElem? (i := 35) rfl)) (by decide) rfl e19 E2 (rm6_96 l Z a0 hw b2 ((f3 (p1 >>> (((1 : Int32)).toInt64 &&& 63)) ((96 : Int64) * (900000 : Int64))) * ((96 : Int64) * (900000 : Int64))) h0 E2 F2 (own_Rb _ (own_Lc _ (by decide +kernel)))) (by decide) (by decide) (by decide) (by decide) (g := (mkF m 75 #[.val (.int p0), .val (.long p1), .second, .val (.int ((p0 &&& (2147483647 : Int32)) - ((p0 &&& (2147483647 : Int32)) / (3 : Int32)) * (3 : Int32))), .val (.ref b2), .val (.int (1 : Int32)), .val (.int (1 : Int32)), .val (.long (p1 >>> (((1 : Int32)).toInt64 &&& 63))), .second, .unset, .unset, .unset, .unset] [(.long ((f3 (p1 >>> (((1 : Int32)).toInt64 &&& 63)) ((96 : Int64) * (900000 : Int64))) * ((96 : Int64) * (900000 : Int64)))), (.ref b2)])) rfl (by rw [hml]; rfl) (argsL := [(.long ((f3 (p1 >>> (((1 : Int32)).toInt64 &&& 63)) ((96 : Int64) * (900000 : Int64))) * ((96 : Int64) * (900000 : Int64))))]) (rest := []) (lenOf pd_0 rfl) rfl (by show 2 * 0 + _ ≤ _; exact Nat.le_of_eq rfl) (hb hby at_75) (fun v20 T20 L20 X20 q20 => ?_)
      obtain ⟨rfl, rfl, e20⟩ := q20
      rw [List.append_nil] at X20
      show Go p.tables e below (Fin s (fun v h L => v = some (.int 1) ∧ Fr h0.size L) room_1.cells room_1.slots) T20 (mkF m 78 #[.val (.int p0), .val (.long p1), .second, .val (.int ((p0 &&& (2147483647 : Int32)) - ((p0 &&& (2147483647 : Int32)) / (3 : Int32)) * (3 : Int32))), .val (.ref b2), .val (.int (1 : Int32)), .val (.int (1 : Int32)), .val (.long (p1 >>> (((1 : Int32)).toInt64 &&& 63))), .second, .unset, .unset, .unset, .unset] [(.long ((f3 ((f3 (p1 >>> (((1 : Int32)).toInt64 &&& 63)) ((96 : Int64) * (900000 : Int64))) * ((96 : Int64) * (900000 : Int64))) ((96 : Int64) * (900000 : Int64))) * ((96 : Int64) * (900000 : Int64))))])
      refine Go.st (T' := T20) (g' := (mkF m 80 #[.val (.int p0), .val (.long p1), .second, .val (.int ((p0 &&& (2147483647 : Int32)) - ((p0 &&& (2147483647 : Int32)) / (3 : Int32)) * (3 : Int32))), .val (.ref b2), .val (.int (1 : Int32)), .val (.int (1 : Int32)), .val (.long (p1 >>> (((1 : Int32)).toInt64 &&& 63))), .second, .unset, .unset, .unset, .unset] [(.ref b2), (.long ((f3 ((f3 (p1 >>> (((1 : Int32)).toInt64 &&& 63)) ((96 : Int64) * (900000 : Int64))) * ((96 : Int64) * (900000 : Int64))) ((96 : Int64) * (900000 : Int64))) * ((96 : Int64) * (900000 : Int64))))])) (fun _ hr => XS.aload X20.here hx rfl (hb hby at_78) rfl rfl hr) ?_
      refine Go.st (T' := T20) (g' := (mkF m 82 #[.val (.int p0), .val (.long p1), .second, .val (.int ((p0 &&& (2147483647 : Int32)) - ((p0 &&& (2147483647 : Int32)) / (3 : Int32)) * (3 : Int32))), .val (.ref b2), .val (.int (1 : Int32)), .val (.int (1 : Int32)), .val (.long (p1 >>> (((1 : Int32)).toInt64 &&& 63))), .second, .unset, .unset, .unset, .unset] [(.long (p1 >>> (((1 : Int32)).toInt64 &&& 63))), (.ref b2), (.long ((f3 ((f3 (p1 >>> (((1 : Int32)).toInt64 &&& 63)) ((96 : Int64) * (900000 : Int64))) * ((96 : Int64) * (900000 : Int64))) ((96 : Int64) * (900000 : Int64))) * ((96 : Int64) * (900000 : Int64))))])) (fun _ hr => XT.lload X20.here hx rfl (hb hby at_80) rfl hr) ?_
      refine Go.callV X20 hx hZ hown (W := 2) (y := (⟨"com/example/rugged_meter/ruggedmeter/TimeRange$Period", "startOf", "(J)J"⟩ : MethodName)) (hw _ (List.mem_of_getElem? (i := 31) rfl)) (hw _ (List.mem_of_getElem? (i := 32) rfl)) (hw _ (List.mem_of_getElem? (i := 34) rfl)) (hw _ (List.mem_of_getElem? (i := 33) rfl)) (hw _ (List.mem_of_getElem? (i := 2) rfl)) (hw _ (List.mem_of_getElem? (i := 35) rfl)) (by decide) rfl e20 E2 (rm6_96 l Z a0 hw b2 (p1 >>> (((1 : Int32)).toInt64 &&& 63)) h0 E2 F2 (own_Ru _)) (by decide) (by decide) (by decide) (by decide) (g := (mkF m 82 #[.val (.int p0), .val (.long p1), .second, .val (.int ((p0 &&& (2147483647 : Int32)) - ((p0 &&& (2147483647 : Int32)) / (3 : Int32)) * (3 : Int32))), .val (.ref b2), .val (.int (1 : Int32)), .val (.int (1 : Int32)), .val (.long (p1 >>> (((1 : Int32)).toInt64 &&& 63))), .second, .unset, .unset, .unset, .unset] [(.long (p1 >>> (((1 : Int32)).toInt64 &&& 63))), (.ref b2), (.long ((f3 ((f3 (p1 >>> (((1 : Int32)).toInt64 &&& 63)) ((96 : Int64) * (900000 : Int64))) * ((96 : Int64) * (900000 : Int64))) ((96 : Int64) * (900000 : Int64))) * ((96 : Int64) * (900000 : Int64))))])) rfl (by rw [hml]; rfl) (argsL := [(.long (p1 >>> (((1 : Int32)).toInt64 &&& 63)))]) (rest := [(.long ((f3 ((f3 (p1 >>> (((1 : Int32)).toInt64 &&& 63)) ((96 : Int64) * (900000 : Int64))) * ((96 : Int64) * (900000 : Int64))) ((96 : Int64) * (900000 : Int64))) * ((96 : Int64) * (900000 : Int64))))]) (lenOf pd_0 rfl) rfl (by show 2 * 0 + _ ≤ _; exact Nat.le_of_eq rfl) (hb hby at_82) (fun v21 T21 L21 X21 q21 => ?_)
      obtain ⟨rfl, rfl, e21⟩ := q21
      rw [List.append_nil] at X21
      show Go p.tables e below (Fin s (fun v h L => v = some (.int 1) ∧ Fr h0.size L) room_1.cells room_1.slots) T21 (mkF m 85 #[.val (.int p0), .val (.long p1), .second, .val (.int ((p0 &&& (2147483647 : Int32)) - ((p0 &&& (2147483647 : Int32)) / (3 : Int32)) * (3 : Int32))), .val (.ref b2), .val (.int (1 : Int32)), .val (.int (1 : Int32)), .val (.long (p1 >>> (((1 : Int32)).toInt64 &&& 63))), .second, .unset, .unset, .unset, .unset] [(.long ((f3 (p1 >>> (((1 : Int32)).toInt64 &&& 63)) ((96 : Int64) * (900000 : Int64))) * ((96 : Int64) * (900000 : Int64)))), (.long ((f3 ((f3 (p1 >>> (((1 : Int32)).toInt64 &&& 63)) ((96 : Int64) * (900000 : Int64))) * ((96 : Int64) * (900000 : Int64))) ((96 : Int64) * (900000 : Int64))) * ((96 : Int64) * (900000 : Int64))))])
      refine Go.st (T' := T21) (g' := (mkF m 86 #[.val (.int p0), .val (.long p1), .second, .val (.int ((p0 &&& (2147483647 : Int32)) - ((p0 &&& (2147483647 : Int32)) / (3 : Int32)) * (3 : Int32))), .val (.ref b2), .val (.int (1 : Int32)), .val (.int (1 : Int32)), .val (.long (p1 >>> (((1 : Int32)).toInt64 &&& 63))), .second, .unset, .unset, .unset, .unset] [(.int (XT.cmpL ((f3 ((f3 (p1 >>> (((1 : Int32)).toInt64 &&& 63)) ((96 : Int64) * (900000 : Int64))) * ((96 : Int64) * (900000 : Int64))) ((96 : Int64) * (900000 : Int64))) * ((96 : Int64) * (900000 : Int64))) ((f3 (p1 >>> (((1 : Int32)).toInt64 &&& 63)) ((96 : Int64) * (900000 : Int64))) * ((96 : Int64) * (900000 : Int64)))))])) (fun _ hr => XT.lcmp X21.here hx rfl (hb hby at_85) rfl hr) ?_
      refine Go.st (T' := T21) (g' := (mkF m 89 #[.val (.int p0), .val (.long p1), .second, .val (.int ((p0 &&& (2147483647 : Int32)) - ((p0 &&& (2147483647 : Int32)) / (3 : Int32)) * (3 : Int32))), .val (.ref b2), .val (.int (1 : Int32)), .val (.int (1 : Int32)), .val (.long (p1 >>> (((1 : Int32)).toInt64 &&& 63))), .second, .unset, .unset, .unset, .unset] [])) (fun _ hr => XS.ifNo X21.here hx rfl (hb hby at_86) rfl (XT.ll_ne_f (own_in _ (own_Lc _ (by decide +kernel)) (own_Lc _ (by decide +kernel)) 1 (by decide +kernel))) hr) ?_
      refine Go.st (T' := T21) (g' := (mkF m 90 #[.val (.int p0), .val (.long p1), .second, .val (.int ((p0 &&& (2147483647 : Int32)) - ((p0 &&& (2147483647 : Int32)) / (3 : Int32)) * (3 : Int32))), .val (.ref b2), .val (.int (1 : Int32)), .val (.int (1 : Int32)), .val (.long (p1 >>> (((1 : Int32)).toInt64 &&& 63))), .second, .unset, .unset, .unset, .unset] [(.int (1 : Int32))])) (fun _ hr => XT.iconstV X21.here hx rfl (1 : Int32) (hb hby at_89) (by decide) hr) ?_
      refine Go.st (T' := T21) (g' := (mkF m 94 #[.val (.int p0), .val (.long p1), .second, .val (.int ((p0 &&& (2147483647 : Int32)) - ((p0 &&& (2147483647 : Int32)) / (3 : Int32)) * (3 : Int32))), .val (.ref b2), .val (.int (1 : Int32)), .val (.int (1 : Int32)), .val (.long (p1 >>> (((1 : Int32)).toInt64 &&& 63))), .second, .unset, .unset, .unset, .unset] [(.int (1 : Int32))])) (fun _ hr => XS.goto X21.here hx rfl (pc0 := 90) (pc' := 94) rfl (hb hby at_90) (by decide) (by decide) hr) ?_
      refine Go.st (T' := T21) (g' := (mkF m 96 #[.val (.int p0), .val (.long p1), .second, .val (.int ((p0 &&& (2147483647 : Int32)) - ((p0 &&& (2147483647 : Int32)) / (3 : Int32)) * (3 : Int32))), .val (.ref b2), .val (.int (1 : Int32)), .val (.int (1 : Int32)), .val (.long (p1 >>> (((1 : Int32)).toInt64 &&& 63))), .second, .val (.int (1 : Int32)), .unset, .unset, .unset] [])) (fun _ hr => XS.istore X21.here hx rfl (hb hby at_94) rfl (l' := #[.val (.int p0), .val (.long p1), .second, .val (.int ((p0 &&& (2147483647 : Int32)) - ((p0 &&& (2147483647 : Int32)) / (3 : Int32)) * (3 : Int32))), .val (.ref b2), .val (.int (1 : Int32)), .val (.int (1 : Int32)), .val (.long (p1 >>> (((1 : Int32)).toInt64 &&& 63))), .second, .val (.int (1 : Int32)), .unset, .unset, .unset]) rfl hr) ?_
      refine Go.st (T' := T21) (g' := (mkF m 98 #[.val (.int p0), .val (.long p1), .second, .val (.int ((p0 &&& (2147483647 : Int32)) - ((p0 &&& (2147483647 : Int32)) / (3 : Int32)) * (3 : Int32))), .val (.ref b2), .val (.int (1 : Int32)), .val (.int (1 : Int32)), .val (.long (p1 >>> (((1 : Int32)).toInt64 &&& 63))), .second, .val (.int (1 : Int32)), .unset, .unset, .unset] [(.ref b2)])) (fun _ hr => XS.aload X21.here hx rfl (hb hby at_96) rfl rfl hr) ?_
      refine Go.callV X21 hx hZ hown (W := 0) (y := (⟨"com/example/rugged_meter/ruggedmeter/TimeRange$Period", "millis", "()J"⟩ : MethodName)) (hw _ (List.mem_of_getElem? (i := 44) rfl)) (hw _ (List.mem_of_getElem? (i := 37) rfl)) (hw _ (List.mem_of_getElem? (i := 39) rfl)) (hw _ (List.mem_of_getElem? (i := 38) rfl)) (hw _ (List.mem_of_getElem? (i := 2) rfl)) (hw _ (List.mem_of_getElem? (i := 40) rfl)) (by decide) rfl e21 E2 (rm7 l Z a0 hw b2 (96 : Int64)  h0 F2) (by decide) (by decide) (by decide) (by decide) (g := (mkF m 98 #[.val (.int p0), .val (.long p1), .second, .val (.int ((p0 &&& (2147483647 : Int32)) - ((p0 &&& (2147483647 : Int32)) / (3 : Int32)) * (3 : Int32))), .val (.ref b2), .val (.int (1 : Int32)), .val (.int (1 : Int32)), .val (.long (p1 >>> (((1 : Int32)).toInt64 &&& 63))), .second, .val (.int (1 : Int32)), .unset, .unset, .unset] [(.ref b2)])) rfl (by rw [hml]; rfl) (argsL := []) (rest := []) (lenOf pd_2 rfl) rfl (by show 2 * 0 + _ ≤ _; exact Nat.le_of_eq rfl) (hb hby at_98) (fun v22 T22 L22 X22 q22 => ?_)
      obtain ⟨rfl, rfl, e22⟩ := q22
      rw [List.append_nil] at X22
      show Go p.tables e below (Fin s (fun v h L => v = some (.int 1) ∧ Fr h0.size L) room_1.cells room_1.slots) T22 (mkF m 101 #[.val (.int p0), .val (.long p1), .second, .val (.int ((p0 &&& (2147483647 : Int32)) - ((p0 &&& (2147483647 : Int32)) / (3 : Int32)) * (3 : Int32))), .val (.ref b2), .val (.int (1 : Int32)), .val (.int (1 : Int32)), .val (.long (p1 >>> (((1 : Int32)).toInt64 &&& 63))), .second, .val (.int (1 : Int32)), .unset, .unset, .unset] [(.long ((96 : Int64) * (900000 : Int64)))])
      refine Go.st (T' := T22) (g' := (mkF m 103 #[.val (.int p0), .val (.long p1), .second, .val (.int ((p0 &&& (2147483647 : Int32)) - ((p0 &&& (2147483647 : Int32)) / (3 : Int32)) * (3 : Int32))), .val (.ref b2), .val (.int (1 : Int32)), .val (.int (1 : Int32)), .val (.long (p1 >>> (((1 : Int32)).toInt64 &&& 63))), .second, .val (.int (1 : Int32)), .val (.long ((96 : Int64) * (900000 : Int64))), .second, .unset] [])) (fun _ hr => XT.lstore X22.here hx rfl (hb hby at_101) rfl (l' := #[.val (.int p0), .val (.long p1), .second, .val (.int ((p0 &&& (2147483647 : Int32)) - ((p0 &&& (2147483647 : Int32)) / (3 : Int32)) * (3 : Int32))), .val (.ref b2), .val (.int (1 : Int32)), .val (.int (1 : Int32)), .val (.long (p1 >>> (((1 : Int32)).toInt64 &&& 63))), .second, .val (.int (1 : Int32)), .val (.long ((96 : Int64) * (900000 : Int64))), .second, .unset]) rfl hr) ?_
      refine Go.st (T' := T22) (g' := (mkF m 105 #[.val (.int p0), .val (.long p1), .second, .val (.int ((p0 &&& (2147483647 : Int32)) - ((p0 &&& (2147483647 : Int32)) / (3 : Int32)) * (3 : Int32))), .val (.ref b2), .val (.int (1 : Int32)), .val (.int (1 : Int32)), .val (.long (p1 >>> (((1 : Int32)).toInt64 &&& 63))), .second, .val (.int (1 : Int32)), .val (.long ((96 : Int64) * (900000 : Int64))), .second, .unset] [(.long ((96 : Int64) * (900000 : Int64)))])) (fun _ hr => XT.lload X22.here hx rfl (hb hby at_103) rfl hr) ?_
      refine Go.st (T' := T22) (g' := (mkF m 107 #[.val (.int p0), .val (.long p1), .second, .val (.int ((p0 &&& (2147483647 : Int32)) - ((p0 &&& (2147483647 : Int32)) / (3 : Int32)) * (3 : Int32))), .val (.ref b2), .val (.int (1 : Int32)), .val (.int (1 : Int32)), .val (.long (p1 >>> (((1 : Int32)).toInt64 &&& 63))), .second, .val (.int (1 : Int32)), .val (.long ((96 : Int64) * (900000 : Int64))), .second, .unset] [(.int (1 : Int32)), (.long ((96 : Int64) * (900000 : Int64)))])) (fun _ hr => XS.iload X22.here hx rfl (hb hby at_105) rfl hr) ?_
      refine Go.st (T' := T22) (g' := (mkF m 108 #[.val (.int p0), .val (.long p1), .second, .val (.int ((p0 &&& (2147483647 : Int32)) - ((p0 &&& (2147483647 : Int32)) / (3 : Int32)) * (3 : Int32))), .val (.ref b2), .val (.int (1 : Int32)), .val (.int (1 : Int32)), .val (.long (p1 >>> (((1 : Int32)).toInt64 &&& 63))), .second, .val (.int (1 : Int32)), .val (.long ((96 : Int64) * (900000 : Int64))), .second, .unset] [(.int (1 : Int32)), (.int (1 : Int32)), (.long ((96 : Int64) * (900000 : Int64)))])) (fun _ hr => XT.iconstV X22.here hx rfl (1 : Int32) (hb hby at_107) (by decide) hr) ?_
      refine Go.st (T' := T22) (g' := (mkF m 109 #[.val (.int p0), .val (.long p1), .second, .val (.int ((p0 &&& (2147483647 : Int32)) - ((p0 &&& (2147483647 : Int32)) / (3 : Int32)) * (3 : Int32))), .val (.ref b2), .val (.int (1 : Int32)), .val (.int (1 : Int32)), .val (.long (p1 >>> (((1 : Int32)).toInt64 &&& 63))), .second, .val (.int (1 : Int32)), .val (.long ((96 : Int64) * (900000 : Int64))), .second, .unset] [(.int ((1 : Int32) + (1 : Int32))), (.long ((96 : Int64) * (900000 : Int64)))])) (fun _ hr => XS.iadd X22.here hx rfl (hb hby at_108) rfl hr) ?_
      refine Go.callP X22 hx hZ hown (W := 0) (hw _ (List.mem_of_getElem? (i := 16) rfl)) (hw _ (List.mem_of_getElem? (i := 17) rfl)) (hw _ (List.mem_of_getElem? (i := 10) rfl)) (hw _ (List.mem_of_getElem? (i := 18) rfl)) (by decide) e22 (rm2_2 l Z a0 hw ((96 : Int64) * (900000 : Int64)) sa ka h0 G2 V0 (own_Rc _ (by decide +kernel))) (by decide) (by decide) (by decide) (by decide) (g := (mkF m 109 #[.val (.int p0), .val (.long p1), .second, .val (.int ((p0 &&& (2147483647 : Int32)) - ((p0 &&& (2147483647 : Int32)) / (3 : Int32)) * (3 : Int32))), .val (.ref b2), .val (.int (1 : Int32)), .val (.int (1 : Int32)), .val (.long (p1 >>> (((1 : Int32)).toInt64 &&& 63))), .second, .val (.int (1 : Int32)), .val (.long ((96 : Int64) * (900000 : Int64))), .second, .unset] [(.int ((1 : Int32) + (1 : Int32))), (.long ((96 : Int64) * (900000 : Int64)))])) rfl (by rw [hml]; rfl) (argsL := [(.long ((96 : Int64) * (900000 : Int64))), (.int ((1 : Int32) + (1 : Int32)))]) (rest := []) (lenOf pd_3 rfl) rfl (by show 2 * 0 + _ ≤ _; exact Nat.le_of_eq rfl) (hb hby at_109) (fun T23 X23 e23 => ?_)
      show Go p.tables e below (Fin s (fun v h L => v = some (.int 1) ∧ Fr h0.size L) room_1.cells room_1.slots) T23 (mkF m 112 #[.val (.int p0), .val (.long p1), .second, .val (.int ((p0 &&& (2147483647 : Int32)) - ((p0 &&& (2147483647 : Int32)) / (3 : Int32)) * (3 : Int32))), .val (.ref b2), .val (.int (1 : Int32)), .val (.int (1 : Int32)), .val (.long (p1 >>> (((1 : Int32)).toInt64 &&& 63))), .second, .val (.int (1 : Int32)), .val (.long ((96 : Int64) * (900000 : Int64))), .second, .unset] [(.long ((f3 ((96 : Int64) * (900000 : Int64)) ((1536 : Int64) * (900000 : Int64))) * ((1536 : Int64) * (900000 : Int64))))])
      refine Go.st (T' := T23) (g' := (mkF m 114 #[.val (.int p0), .val (.long p1), .second, .val (.int ((p0 &&& (2147483647 : Int32)) - ((p0 &&& (2147483647 : Int32)) / (3 : Int32)) * (3 : Int32))), .val (.ref b2), .val (.int (1 : Int32)), .val (.int (1 : Int32)), .val (.long (p1 >>> (((1 : Int32)).toInt64 &&& 63))), .second, .val (.int (1 : Int32)), .val (.long ((96 : Int64) * (900000 : Int64))), .second, .unset] [(.long ((96 : Int64) * (900000 : Int64))), (.long ((f3 ((96 : Int64) * (900000 : Int64)) ((1536 : Int64) * (900000 : Int64))) * ((1536 : Int64) * (900000 : Int64))))])) (fun _ hr => XT.lload X23.here hx rfl (hb hby at_112) rfl hr) ?_
      refine Go.st (T' := T23) (g' := (mkF m 115 #[.val (.int p0), .val (.long p1), .second, .val (.int ((p0 &&& (2147483647 : Int32)) - ((p0 &&& (2147483647 : Int32)) / (3 : Int32)) * (3 : Int32))), .val (.ref b2), .val (.int (1 : Int32)), .val (.int (1 : Int32)), .val (.long (p1 >>> (((1 : Int32)).toInt64 &&& 63))), .second, .val (.int (1 : Int32)), .val (.long ((96 : Int64) * (900000 : Int64))), .second, .unset] [(.int (XT.cmpL ((f3 ((96 : Int64) * (900000 : Int64)) ((1536 : Int64) * (900000 : Int64))) * ((1536 : Int64) * (900000 : Int64))) ((96 : Int64) * (900000 : Int64))))])) (fun _ hr => XT.lcmp X23.here hx rfl (hb hby at_114) rfl hr) ?_
      refine Go.st (T' := T23) (g' := (mkF m 118 #[.val (.int p0), .val (.long p1), .second, .val (.int ((p0 &&& (2147483647 : Int32)) - ((p0 &&& (2147483647 : Int32)) / (3 : Int32)) * (3 : Int32))), .val (.ref b2), .val (.int (1 : Int32)), .val (.int (1 : Int32)), .val (.long (p1 >>> (((1 : Int32)).toInt64 &&& 63))), .second, .val (.int (1 : Int32)), .val (.long ((96 : Int64) * (900000 : Int64))), .second, .unset] [])) (fun _ hr => XS.ifNo X23.here hx rfl (hb hby at_115) rfl (XT.ll_eq_f (by decide +kernel)) hr) ?_
      refine Go.st (T' := T23) (g' := (mkF m 119 #[.val (.int p0), .val (.long p1), .second, .val (.int ((p0 &&& (2147483647 : Int32)) - ((p0 &&& (2147483647 : Int32)) / (3 : Int32)) * (3 : Int32))), .val (.ref b2), .val (.int (1 : Int32)), .val (.int (1 : Int32)), .val (.long (p1 >>> (((1 : Int32)).toInt64 &&& 63))), .second, .val (.int (1 : Int32)), .val (.long ((96 : Int64) * (900000 : Int64))), .second, .unset] [(.int (1 : Int32))])) (fun _ hr => XT.iconstV X23.here hx rfl (1 : Int32) (hb hby at_118) (by decide) hr) ?_
      refine Go.st (T' := T23) (g' := (mkF m 123 #[.val (.int p0), .val (.long p1), .second, .val (.int ((p0 &&& (2147483647 : Int32)) - ((p0 &&& (2147483647 : Int32)) / (3 : Int32)) * (3 : Int32))), .val (.ref b2), .val (.int (1 : Int32)), .val (.int (1 : Int32)), .val (.long (p1 >>> (((1 : Int32)).toInt64 &&& 63))), .second, .val (.int (1 : Int32)), .val (.long ((96 : Int64) * (900000 : Int64))), .second, .unset] [(.int (1 : Int32))])) (fun _ hr => XS.goto X23.here hx rfl (pc0 := 119) (pc' := 123) rfl (hb hby at_119) (by decide) (by decide) hr) ?_
      refine Go.st (T' := T23) (g' := (mkF m 125 #[.val (.int p0), .val (.long p1), .second, .val (.int ((p0 &&& (2147483647 : Int32)) - ((p0 &&& (2147483647 : Int32)) / (3 : Int32)) * (3 : Int32))), .val (.ref b2), .val (.int (1 : Int32)), .val (.int (1 : Int32)), .val (.long (p1 >>> (((1 : Int32)).toInt64 &&& 63))), .second, .val (.int (1 : Int32)), .val (.long ((96 : Int64) * (900000 : Int64))), .second, .val (.int (1 : Int32))] [])) (fun _ hr => XS.istore X23.here hx rfl (hb hby at_123) rfl (l' := #[.val (.int p0), .val (.long p1), .second, .val (.int ((p0 &&& (2147483647 : Int32)) - ((p0 &&& (2147483647 : Int32)) / (3 : Int32)) * (3 : Int32))), .val (.ref b2), .val (.int (1 : Int32)), .val (.int (1 : Int32)), .val (.long (p1 >>> (((1 : Int32)).toInt64 &&& 63))), .second, .val (.int (1 : Int32)), .val (.long ((96 : Int64) * (900000 : Int64))), .second, .val (.int (1 : Int32))]) rfl hr) ?_
      refine Go.st (T' := T23) (g' := (mkF m 127 #[.val (.int p0), .val (.long p1), .second, .val (.int ((p0 &&& (2147483647 : Int32)) - ((p0 &&& (2147483647 : Int32)) / (3 : Int32)) * (3 : Int32))), .val (.ref b2), .val (.int (1 : Int32)), .val (.int (1 : Int32)), .val (.long (p1 >>> (((1 : Int32)).toInt64 &&& 63))), .second, .val (.int (1 : Int32)), .val (.long ((96 : Int64) * (900000 : Int64))), .second, .val (.int (1 : Int32))] [(.int (1 : Int32))])) (fun _ hr => XS.iload X23.here hx rfl (hb hby at_125) rfl hr) ?_
      refine Go.st (T' := T23) (g' := (mkF m 130 #[.val (.int p0), .val (.long p1), .second, .val (.int ((p0 &&& (2147483647 : Int32)) - ((p0 &&& (2147483647 : Int32)) / (3 : Int32)) * (3 : Int32))), .val (.ref b2), .val (.int (1 : Int32)), .val (.int (1 : Int32)), .val (.long (p1 >>> (((1 : Int32)).toInt64 &&& 63))), .second, .val (.int (1 : Int32)), .val (.long ((96 : Int64) * (900000 : Int64))), .second, .val (.int (1 : Int32))] [])) (fun _ hr => XS.ifNo X23.here hx rfl (hb hby at_127) rfl (XT.i0_eq_f (by decide)) hr) ?_
      refine Go.st (T' := T23) (g' := (mkF m 132 #[.val (.int p0), .val (.long p1), .second, .val (.int ((p0 &&& (2147483647 : Int32)) - ((p0 &&& (2147483647 : Int32)) / (3 : Int32)) * (3 : Int32))), .val (.ref b2), .val (.int (1 : Int32)), .val (.int (1 : Int32)), .val (.long (p1 >>> (((1 : Int32)).toInt64 &&& 63))), .second, .val (.int (1 : Int32)), .val (.long ((96 : Int64) * (900000 : Int64))), .second, .val (.int (1 : Int32))] [(.int (1 : Int32))])) (fun _ hr => XS.iload X23.here hx rfl (hb hby at_130) rfl hr) ?_
      refine Go.st (T' := T23) (g' := (mkF m 135 #[.val (.int p0), .val (.long p1), .second, .val (.int ((p0 &&& (2147483647 : Int32)) - ((p0 &&& (2147483647 : Int32)) / (3 : Int32)) * (3 : Int32))), .val (.ref b2), .val (.int (1 : Int32)), .val (.int (1 : Int32)), .val (.long (p1 >>> (((1 : Int32)).toInt64 &&& 63))), .second, .val (.int (1 : Int32)), .val (.long ((96 : Int64) * (900000 : Int64))), .second, .val (.int (1 : Int32))] [])) (fun _ hr => XS.ifNo X23.here hx rfl (hb hby at_132) rfl (XT.i0_eq_f (by decide)) hr) ?_
      refine Go.st (T' := T23) (g' := (mkF m 136 #[.val (.int p0), .val (.long p1), .second, .val (.int ((p0 &&& (2147483647 : Int32)) - ((p0 &&& (2147483647 : Int32)) / (3 : Int32)) * (3 : Int32))), .val (.ref b2), .val (.int (1 : Int32)), .val (.int (1 : Int32)), .val (.long (p1 >>> (((1 : Int32)).toInt64 &&& 63))), .second, .val (.int (1 : Int32)), .val (.long ((96 : Int64) * (900000 : Int64))), .second, .val (.int (1 : Int32))] [(.int (1 : Int32))])) (fun _ hr => XT.iconstV X23.here hx rfl (1 : Int32) (hb hby at_135) (by decide) hr) ?_
      refine Go.st (T' := T23) (g' := (mkF m 140 #[.val (.int p0), .val (.long p1), .second, .val (.int ((p0 &&& (2147483647 : Int32)) - ((p0 &&& (2147483647 : Int32)) / (3 : Int32)) * (3 : Int32))), .val (.ref b2), .val (.int (1 : Int32)), .val (.int (1 : Int32)), .val (.long (p1 >>> (((1 : Int32)).toInt64 &&& 63))), .second, .val (.int (1 : Int32)), .val (.long ((96 : Int64) * (900000 : Int64))), .second, .val (.int (1 : Int32))] [(.int (1 : Int32))])) (fun _ hr => XS.goto X23.here hx rfl (pc0 := 136) (pc' := 140) rfl (hb hby at_136) (by decide) (by decide) hr) ?_
      exact Go.retN X23 hx hlk hret (by simp) (hb hby at_140) (by decide) (by decide) ⟨rfl, (Fr.nil h0.size)⟩
section OwnArr
variable {args : Array Value} {s : State} {t a : Term} {b : Addr} {cl : Cell} {ty : FieldType}
theorem own_eq_i {x : Int32} (h : (Jvm.Cond.eq a (.int x)).value args s none s [] = some true) : a.eval args s none [] s = some (.int x) := by
  have e : (Term.int x).eval args s none [] s = some (.int x) := Term.int_eval x
  cases ha : a.eval args s none [] s with
  | none => simp [Cond.value, ha] at h
  | some v => cases v <;> simp [Cond.value, ha, e] at h; rw [h]
theorem own_eq_l {x : Int64} (h : (Jvm.Cond.eq a (.long x)).value args s none s [] = some true) : a.eval args s none [] s = some (.long x) := by
  have e : (Term.long x).eval args s none [] s = some (.long x) := rfl
  cases ha : a.eval args s none [] s with
  | none => simp [Cond.value, ha] at h
  | some v => cases v <;> simp [Cond.value, ha, e] at h; rw [h]
theorem own_len {v : Value} (h : (Term.length t).eval args s none [] s = some v) (eb : t.eval args s none [] s = some (.ref b)) (A : Arr s s.heap b cl ty) : cl.slots.size < 2 ^ 31 ∧ v = .int cl.slots.size.toInt32 := by
  have ha := A.fin (Vm.Alike.refl _)
  by_cases q : cl.slots.size < 2 ^ 31
  · rw [len_f eb ha q] at h; exact ⟨q, (Option.some.inj h).symm⟩
  · simp [Term.eval, eb, ha, q] at h
theorem own_at {j : Int32} {v : Value} (h : (Term.elem t (.int j)).eval args s none [] s = some v) (eb : t.eval args s none [] s = some (.ref b)) (A : Arr s s.heap b cl ty) {i : Nat} (hj : j.toNatClampNeg = i) : cl.slots[i]? = some v := by
  have q := (elem_in h eb (Term.int_eval j) A.1).2
  rw [hj] at q; exact q
end OwnArr
set_option maxRecDepth 65536 in
set_option maxHeartbeats 40000000 in
theorem comes_1 {Post : Tables → Env → Array Value → State → Outcome → State → Prop} (hpost : ∀ tb e args s v u, (limb_1_1.after args s (.returned v) u = true ∧ limb_1_2.after args s (.returned v) u = true ∧ True) → FrameEnd s (.returned v) u (Jvm.fieldLocs frame_1_writes args s ++ Jvm.arrayLocs frame_1_arrays args s ++ Jvm.staticLocs frame_1_statics s) 0 0 → Post tb e args s (.returned v) u) :
    ArmFor flags0 classFile x code maxLocals ret World_1 tables_1 room_1 Calls_1 rest_1 Pre_1 Post := by
  intro l hfl _ _ p e ha hc hk s m args below hf hA hF happ hP
  obtain ⟨hcalls, hrest, hpre⟩ := hP
  obtain ⟨-, -, -, hnamed, -, -, -, hat⟩ := (Spec.applies_iff hf).mp happ
  obtain ⟨hg, hn⟩ := and_e (Cond.before_iff.mp (show (Jvm.Cond.and given_1 narrow_1).before args s = true from hpre))
  obtain ⟨g0, r0⟩ := and_e hg
  obtain ⟨u0, r1⟩ := and_e r0
  have u1 := r1
  obtain ⟨w0, w1, rfl⟩ : ∃ w0 w1 : Value, args = #[w0, w1] := by
    have hs : args.size = 2 := by simpa [Cond.value, given_1] using g0
    obtain ⟨L⟩ := args
    match L, hs with
    | [w0, w1], _ => exact ⟨w0, w1, rfl⟩
  have hw := fun d (hd : d ∈ tables_1) => atoms_spec (ws := Jvm.Cond.code x code maxLocals ret :: tables_1) hat d (List.mem_cons_of_mem _ hd)
  have hfit : Fit s := fun {y c} hc i hi => by
    obtain ⟨ha, rfl⟩ := Array.getElem?_eq_some_iff.mp hc
    have q := List.all_eq_true.mp ((Array.all_eq_true_iff_forall_mem.mp hF) _ (Array.getElem_mem ha)) i (List.mem_range.mpr hi)
    simpa [Array.getElem?_eq_getElem hi] using q
  obtain ⟨i0, ei0⟩ := is_v u0
  obtain rfl : w0 = (.int i0) := Option.some.inj ei0
  obtain ⟨i1, ei1⟩ := isL_v u1
  obtain rfl : w1 = (.long i1) := Option.some.inj ei1
  obtain ⟨y_x0, m0⟩ := and_e hn
  obtain ⟨y_sc, m1⟩ := and_e m0
  obtain ⟨y_f0, m2⟩ := and_e m1
  obtain ⟨y_ha, m3⟩ := and_e m2
  obtain ⟨y_hlen, m4⟩ := and_e m3
  obtain ⟨y_x1, m5⟩ := and_e m4
  obtain ⟨y_f1, m6⟩ := and_e m5
  obtain ⟨y_x2, m7⟩ := and_e m6
  obtain ⟨y_f2, m8⟩ := and_e m7
  obtain ⟨y_t0, m9⟩ := and_e m8
  obtain ⟨y_t1, m10⟩ := and_e m9
  obtain ⟨y_t2, m11⟩ := and_e m10
  obtain ⟨y_t3, m12⟩ := and_e m11
  have y_t4 := m12
  obtain ⟨b0, eb0⟩ := exa_v y_x0
  have Q0 : Sta s s.heap "com/example/rugged_meter/ruggedmeter/TimeRange$Period" "INTERVAL" "Lcom/example/rugged_meter/ruggedmeter/TimeRange$Period;" (.ref b0) := Sta.start eb0 (Or.inr ⟨hw _ (List.mem_of_getElem? (i := 2) rfl), hw _ (List.mem_of_getElem? (i := 3) rfl)⟩)
  have E0 : Exa s s.heap b0 "com/example/rugged_meter/ruggedmeter/TimeRange$Period" := Exa.start eb0 y_x0
  have F0 : Fld s s.heap b0 "com/example/rugged_meter/ruggedmeter/TimeRange$Period" "intervals" "J" (.long (1 : Int64)) := Fld.start ((fld_at eb0).symm.trans (own_eq_l y_f0))
  obtain ⟨b1, eb1⟩ := exa_v y_x1
  have Q1 : Sta s s.heap "com/example/rugged_meter/ruggedmeter/TimeRange$Period" "HOUR" "Lcom/example/rugged_meter/ruggedmeter/TimeRange$Period;" (.ref b1) := Sta.start eb1 (Or.inr ⟨hw _ (List.mem_of_getElem? (i := 2) rfl), hw _ (List.mem_of_getElem? (i := 46) rfl)⟩)
  have E1 : Exa s s.heap b1 "com/example/rugged_meter/ruggedmeter/TimeRange$Period" := Exa.start eb1 y_x1
  have F1 : Fld s s.heap b1 "com/example/rugged_meter/ruggedmeter/TimeRange$Period" "intervals" "J" (.long (4 : Int64)) := Fld.start ((fld_at eb1).symm.trans (own_eq_l y_f1))
  obtain ⟨b2, eb2⟩ := exa_v y_x2
  have Q2 : Sta s s.heap "com/example/rugged_meter/ruggedmeter/TimeRange$Period" "DAY" "Lcom/example/rugged_meter/ruggedmeter/TimeRange$Period;" (.ref b2) := Sta.start eb2 (Or.inr ⟨hw _ (List.mem_of_getElem? (i := 2) rfl), hw _ (List.mem_of_getElem? (i := 49) rfl)⟩)
  have E2 : Exa s s.heap b2 "com/example/rugged_meter/ruggedmeter/TimeRange$Period" := Exa.start eb2 y_x2
  have F2 : Fld s s.heap b2 "com/example/rugged_meter/ruggedmeter/TimeRange$Period" "intervals" "J" (.long (96 : Int64)) := Fld.start ((fld_at eb2).symm.trans (own_eq_l y_f2))
  have G1 : Sta s s.heap "com/example/rugged_meter/ruggedmeter/TimeRange" "SCALES" "I" (.int (5 : Int32)) := Sta.start (own_eq_i y_sc) (Or.inr ⟨hw _ (List.mem_of_getElem? (i := 10) rfl), hw _ (List.mem_of_getElem? (i := 11) rfl)⟩)
  obtain ⟨sa, es⟩ := arr_v y_ha
  have G2 : Sta s s.heap "com/example/rugged_meter/ruggedmeter/TimeRange" "SCALE_INTERVALS" "[J" (.ref sa) := Sta.start es (Or.inr ⟨hw _ (List.mem_of_getElem? (i := 10) rfl), hw _ (List.mem_of_getElem? (i := 15) rfl)⟩)
  obtain ⟨cl, Ab⟩ := Arr.start es y_ha
  obtain ⟨q31, qv⟩ := own_len (own_eq_i y_hlen) es Ab
  have V0 : Arv s s.heap sa cl.cls .long (5 : Int32) own_si (.long (0 : Int64)) := Arv.start hfit Ab q31 (Value.int.inj qv).symm (by decide) (by decide) ⟨own_at (own_eq_l y_t0) es Ab (by decide), own_at (own_eq_l y_t1) es Ab (by decide), own_at (own_eq_l y_t2) es Ab (by decide), own_at (own_eq_l y_t3) es Ab (by decide), own_at (own_eq_l y_t4) es Ab (by decide), trivial⟩
  obtain ⟨n, o, h1, h2, h3, _, L, rfl, ⟨rfl, N⟩, hq⟩ := rm0 l s _ hw tables_1 i0 i1 sa cl.cls b0 b1 b2 s.heap G1 G2 V0 Q0 E0 F0 Q1 E1 F1 Q2 E2 F2 p e ha hc hk s m _ below hf ((Spec.applies_iff_loose hf).mp happ).1 ⟨rfl, State.Warmed39.refl s, rfl⟩ trivial
  refine ⟨n, _, h1, h2, h3, hpost _ _ _ _ _ _ ⟨Cond.after_iff.mpr rfl, Cond.after_iff.mpr (eq_i res_at (Term.int_eval (1)) rfl), trivial⟩ ⟨hq.1, hq.2.1, (hq.2.2.sift fun y hy => Or.inr (N y hy)).mono (by decide) (by decide)⟩⟩
theorem main_1_1 : Claimed_1_1 := comes_1 fun _ _ _ _ _ _ h hF => ⟨h.1, hF⟩
theorem main_1_2 : Claimed_1_2 := comes_1 fun _ _ _ _ _ _ h hF => ⟨h.2.1, hF⟩
end Jvm.Pilot.@@N@@
namespace Jvm.Pilot.@@N@@
open Jvm Jvm.ClassFile Sem Op Lib Jvm.Free Jvm.Stand Jvm.Pilot.@@N@@.Jvm.D
/-! MADE BY PROGRAM (witnessworld.py) out of the Statement's table words and the real class files: 18 classes; the members and pool entries that the words name. The judged class is class 1, her method 1. -/
namespace start1
open Jvm.ClassFile
def u (s : String) : CpInfo := .utf8 (stringToUtf16 s)
/-- a pool by its gaps: so many unusable entries, then the entry; so many at the end -/
def gap : Nat → List CpInfo → List CpInfo
  | 0, r => r
  | n + 1, r => .unusable :: gap n r
def poolList (es : List (Nat × CpInfo)) (last : Nat) : List CpInfo := es.foldr (fun e r => gap e.1 (e.2 :: r)) (gap last [])
def pool (es : List (Nat × CpInfo)) (last : Nat) : Array CpInfo := ⟨poolList es last⟩
def fileOf (pool : Array CpInfo) (this : Nat) (attrs : Array Attribute := #[]) (ms : Array MethodInfo := #[]) (fl : Nat := 33) (sup : Nat := 0) (ifs : Array Nat := #[]) (fds : Array FieldInfo := #[]) : ClassFile where
  minorVersion := 0
  majorVersion := 65
  constantPool := pool
  accessFlags := fl
  thisClass := this
  superClass := sup
  interfaces := ifs
  fields := fds
  methods := ms
  attributes := attrs
def plain (name : String) (sup : Option ClassId) : Class where
  name := name
  kind := .ordinary
  loader := none
  accessFlags := 33
  super := sup
  interfaces := #[]
  cf := none
  fields := #[]
  methods := #[]
  instanceTypes := #[]
  staticTypes := #[]
  resolved := #[]
  callSites := []
  init := .initialized
  statics := none
  mirror := none

def pool0 : Array CpInfo := pool [(5, u "<init>"), (0, u "()V"), (1, .class_ 10), (1, u "java/lang/Object")] 113

def k0m0 : Method := { name := "<init>", desc := "()V", sig := { parameters := [], returnType := none }, accessFlags := 1, code := none }
/-- java/lang/Object -/
def k0 : Class := { plain "java/lang/Object" none with
  accessFlags := 33
  interfaces := #[]
  cf := some (fileOf pool0 8 #[] #[{ accessFlags := 1, nameIndex := 5, descriptorIndex := 6, attributes := #[] }] 33 0 #[] #[])
  fields := #[]
  methods := #[k0m0]
  instanceTypes := #[]
  staticTypes := #[]
  resolved := Array.replicate 124 none
  statics := none }

def pool1 : Array CpInfo := pool [(2, .class_ 4), (1, u "java/lang/Object"), (0, u "<init>"), (0, u "()V"), (0, .integer 2147483647), (0, .fieldref 9 10), (0, .class_ 11), (0, .nameAndType 12 13), (0, u "com/example/rugged_meter/ruggedmeter/TimeRange$Period"), (0, u "INTERVAL"), (0, u "Lcom/example/rugged_meter/ruggedmeter/TimeRange$Period;"), (0, .fieldref 9 15), (0, .nameAndType 16 13), (0, u "HOUR"), (0, .fieldref 9 18), (0, .nameAndType 19 13), (0, u "DAY"), (0, .methodref 9 21), (0, .nameAndType 22 23), (0, u "scale"), (0, u "()I"), (0, .methodref 25 26), (0, .class_ 27), (0, .nameAndType 28 29), (0, u "com/example/rugged_meter/ruggedmeter/TimeRange"), (0, u "blockStart"), (0, u "(JI)J"), (0, .methodref 9 31), (0, .nameAndType 32 33), (0, u "startOf"), (0, u "(J)J"), (0, .methodref 9 35), (0, .nameAndType 36 37), (0, u "millis"), (0, u "()J"), (0, .class_ 39), (0, u "com/example/rugged_meter/ruggedmeter/PeriodScalePinLaw"), (2, u "law"), (0, u "(IJ)Z")] 5

def k1m0 : Method := { name := "<init>", desc := "()V", sig := { parameters := [], returnType := none }, accessFlags := 2, code := none }
def k1c1 : Code := { maxStack := 5, maxLocals := 13, code := code, exceptionTable := #[], attributes := #[] }
def k1m1 : Method := { name := "law", desc := "(IJ)Z", sig := { parameters := [.int, .long], returnType := some .boolean }, accessFlags := 9, code := some k1c1 }
/-- com/example/rugged_meter/ruggedmeter/PeriodScalePinLaw -/
def k1 : Class := { plain "com/example/rugged_meter/ruggedmeter/PeriodScalePinLaw" (some 0) with
  accessFlags := 49
  interfaces := #[]
  cf := some (fileOf pool1 38 #[] #[{ accessFlags := 2, nameIndex := 5, descriptorIndex := 6, attributes := #[] }, { accessFlags := 9, nameIndex := 42, descriptorIndex := 43, attributes := #[] }] 49 2 #[] #[])
  fields := #[]
  methods := #[k1m0, k1m1]
  instanceTypes := #[]
  staticTypes := #[]
  resolved := Array.replicate 49 none
  statics := none }

def pool2 : Array CpInfo := pool [(1, .class_ 2), (0, u "java/lang/constant/Constable"), (0, .class_ 4), (0, u "java/lang/Object")] 6

/-- java/lang/constant/Constable -/
def k2 : Class := { plain "java/lang/constant/Constable" (some 0) with
  accessFlags := 1537
  interfaces := #[]
  cf := some (fileOf pool2 1 #[] #[] 1537 3 #[] #[])
  fields := #[]
  methods := #[]
  instanceTypes := #[]
  staticTypes := #[]
  resolved := Array.replicate 11 none
  statics := none }

def pool3 : Array CpInfo := pool [(1, .class_ 2), (0, u "java/lang/Comparable"), (0, .class_ 4), (0, u "java/lang/Object")] 7

/-- java/lang/Comparable -/
def k3 : Class := { plain "java/lang/Comparable" (some 0) with
  accessFlags := 1537
  interfaces := #[]
  cf := some (fileOf pool3 1 #[] #[] 1537 3 #[] #[])
  fields := #[]
  methods := #[]
  instanceTypes := #[]
  staticTypes := #[]
  resolved := Array.replicate 12 none
  statics := none }

def pool4 : Array CpInfo := pool [(1, .class_ 2), (0, u "java/io/Serializable"), (0, .class_ 4), (0, u "java/lang/Object")] 2

/-- java/io/Serializable -/
def k4 : Class := { plain "java/io/Serializable" (some 0) with
  accessFlags := 1537
  interfaces := #[]
  cf := some (fileOf pool4 1 #[] #[] 1537 3 #[] #[])
  fields := #[]
  methods := #[]
  instanceTypes := #[]
  staticTypes := #[]
  resolved := Array.replicate 7 none
  statics := none }

def pool5 : Array CpInfo := pool [(2, .class_ 4), (1, u "java/lang/Enum"), (0, u "name"), (0, u "Ljava/lang/String;"), (2, u "ordinal"), (0, u "I"), (1, .class_ 14), (1, u "java/lang/Object"), (4, u "hash"), (86, .class_ 108), (1, u "java/lang/Enum$EnumDesc"), (2, .class_ 112), (0, u "java/lang/constant/Constable"), (0, .class_ 114), (0, u "java/lang/Comparable"), (0, .class_ 116), (0, u "java/io/Serializable")] 87

/-- java/lang/Enum -/
def k5 : Class := { plain "java/lang/Enum" (some 0) with
  accessFlags := 1057
  interfaces := #[2, 3, 4]
  cf := some (fileOf pool5 2 #[.nestMembers #[106]] #[] 1057 12 #[111, 113, 115] #[{ accessFlags := 18, nameIndex := 5, descriptorIndex := 6, attributes := #[] }, { accessFlags := 18, nameIndex := 9, descriptorIndex := 10, attributes := #[] }, { accessFlags := 2, nameIndex := 19, descriptorIndex := 10, attributes := #[] }])
  fields := #[{ name := "name", type := (.object "java/lang/String"), accessFlags := 18, slot := 0, constantValue := 0 }, { name := "ordinal", type := .int, accessFlags := 18, slot := 1, constantValue := 0 }, { name := "hash", type := .int, accessFlags := 2, slot := 2, constantValue := 0 }]
  methods := #[]
  instanceTypes := #[(.object "java/lang/String"), .int, .int]
  staticTypes := #[]
  resolved := Array.replicate 204 none
  statics := none }

def pool6 : Array CpInfo := pool [(60, .class_ 62), (1, u "com/example/rugged_meter/ruggedmeter/Labelled"), (6, .class_ 70), (0, u "java/lang/Object")] 45

/-- com/example/rugged_meter/ruggedmeter/Labelled -/
def k6 : Class := { plain "com/example/rugged_meter/ruggedmeter/Labelled" (some 0) with
  accessFlags := 1536
  interfaces := #[]
  cf := some (fileOf pool6 60 #[] #[] 1536 69 #[] #[])
  fields := #[]
  methods := #[]
  instanceTypes := #[]
  staticTypes := #[]
  resolved := Array.replicate 116 none
  statics := none }

def pool7 : Array CpInfo := pool [(1, .class_ 2), (0, u "com/example/rugged_meter/ruggedmeter/TimeRange"), (0, .class_ 4), (0, u "com/example/rugged_meter/ruggedmeter/TimeRange$Period"), (2, u "INTERVAL"), (0, u "Lcom/example/rugged_meter/ruggedmeter/TimeRange$Period;"), (2, u "HOUR"), (2, u "DAY"), (2, u "$VALUES"), (0, u "[Lcom/example/rugged_meter/ruggedmeter/TimeRange$Period;"), (6, .class_ 27), (1, u "java/lang/Enum"), (8, u "label"), (0, u "Ljava/lang/String;"), (0, .fieldref 3 39), (0, .nameAndType 40 41), (0, u "intervals"), (0, u "J"), (2, u "one"), (5, .class_ 52), (1, u "com/example/rugged_meter/ruggedmeter/Labelled"), (6, .long 900000), (1, .fieldref 1 62), (0, .nameAndType 63 64), (0, u "SCALES"), (0, u "I"), (0, .fieldref 1 66), (0, .nameAndType 67 68), (0, u "SCALE_INTERVALS"), (0, u "[J"), (0, .methodref 3 70), (0, .nameAndType 71 72), (0, u "millis"), (0, u "()J"), (0, .methodref 74 75), (0, .class_ 76), (0, .nameAndType 77 78), (0, u "java/lang/Math"), (0, u "floorDiv"), (0, u "(JJ)J"), (0, .methodref 74 80), (0, .nameAndType 81 78), (0, u "multiplyExact"), (37, u "scale"), (0, u "()I"), (1, u "startOf"), (0, u "(J)J")] 10

def k7c0 : Code := { maxStack := 4, maxLocals := 1, code := prog_19_method_7_code, exceptionTable := #[], attributes := #[] }
def k7m0 : Method := { name := "millis", desc := "()J", sig := { parameters := [], returnType := some .long }, accessFlags := 0, code := some k7c0 }
def k7c1 : Code := { maxStack := 5, maxLocals := 2, code := prog_19_method_8_code, exceptionTable := #[], attributes := #[] }
def k7m1 : Method := { name := "scale", desc := "()I", sig := { parameters := [], returnType := some .int }, accessFlags := 0, code := some k7c1 }
def k7c2 : Code := { maxStack := 4, maxLocals := 3, code := prog_19_method_9_code, exceptionTable := #[], attributes := #[] }
def k7m2 : Method := { name := "startOf", desc := "(J)J", sig := { parameters := [.long], returnType := some .long }, accessFlags := 0, code := some k7c2 }
/-- com/example/rugged_meter/ruggedmeter/TimeRange$Period -/
def k7 : Class := { plain "com/example/rugged_meter/ruggedmeter/TimeRange$Period" (some 5) with
  accessFlags := 16432
  interfaces := #[6]
  cf := some (fileOf pool7 3 #[.nestHost 1] #[{ accessFlags := 0, nameIndex := 71, descriptorIndex := 72, attributes := #[] }, { accessFlags := 0, nameIndex := 119, descriptorIndex := 120, attributes := #[] }, { accessFlags := 0, nameIndex := 122, descriptorIndex := 123, attributes := #[] }] 16432 25 #[50] #[{ accessFlags := 16409, nameIndex := 7, descriptorIndex := 8, attributes := #[] }, { accessFlags := 16409, nameIndex := 11, descriptorIndex := 8, attributes := #[] }, { accessFlags := 16409, nameIndex := 14, descriptorIndex := 8, attributes := #[] }, { accessFlags := 18, nameIndex := 36, descriptorIndex := 37, attributes := #[] }, { accessFlags := 18, nameIndex := 40, descriptorIndex := 41, attributes := #[] }, { accessFlags := 18, nameIndex := 44, descriptorIndex := 37, attributes := #[] }, { accessFlags := 4122, nameIndex := 17, descriptorIndex := 18, attributes := #[] }])
  fields := #[{ name := "INTERVAL", type := (.object "com/example/rugged_meter/ruggedmeter/TimeRange$Period"), accessFlags := 16409, slot := 0, constantValue := 0 }, { name := "HOUR", type := (.object "com/example/rugged_meter/ruggedmeter/TimeRange$Period"), accessFlags := 16409, slot := 1, constantValue := 0 }, { name := "DAY", type := (.object "com/example/rugged_meter/ruggedmeter/TimeRange$Period"), accessFlags := 16409, slot := 2, constantValue := 0 }, { name := "label", type := (.object "java/lang/String"), accessFlags := 18, slot := 3, constantValue := 0 }, { name := "intervals", type := .long, accessFlags := 18, slot := 4, constantValue := 0 }, { name := "one", type := (.object "java/lang/String"), accessFlags := 18, slot := 5, constantValue := 0 }, { name := "$VALUES", type := (.array (.object "com/example/rugged_meter/ruggedmeter/TimeRange$Period")), accessFlags := 4122, slot := 3, constantValue := 0 }]
  methods := #[k7m0, k7m1, k7m2]
  instanceTypes := #[(.object "java/lang/String"), .int, .int, (.object "java/lang/String"), .long, (.object "java/lang/String")]
  staticTypes := #[(.object "com/example/rugged_meter/ruggedmeter/TimeRange$Period"), (.object "com/example/rugged_meter/ruggedmeter/TimeRange$Period"), (.object "com/example/rugged_meter/ruggedmeter/TimeRange$Period"), (.array (.object "com/example/rugged_meter/ruggedmeter/TimeRange$Period"))]
  resolved := Array.replicate 134 none
  statics := some 0 }

def pool8 : Array CpInfo := pool [(2, .class_ 4), (1, u "java/lang/Object"), (0, u "<init>"), (0, u "()V"), (0, .class_ 8), (0, u "java/lang/Record")] 13

def k8m0 : Method := { name := "<init>", desc := "()V", sig := { parameters := [], returnType := none }, accessFlags := 4, code := none }
/-- java/lang/Record -/
def k8 : Class := { plain "java/lang/Record" (some 0) with
  accessFlags := 1057
  interfaces := #[]
  cf := some (fileOf pool8 7 #[] #[{ accessFlags := 4, nameIndex := 5, descriptorIndex := 6, attributes := #[] }] 1057 2 #[] #[])
  fields := #[]
  methods := #[k8m0]
  instanceTypes := #[]
  staticTypes := #[]
  resolved := Array.replicate 22 none
  statics := none }

def pool9 : Array CpInfo := pool [(2, .class_ 4), (1, u "java/lang/Record"), (3, .class_ 10), (1, u "com/example/rugged_meter/ruggedmeter/TimeRange$Period"), (3, .class_ 16), (1, u "com/example/rugged_meter/ruggedmeter/TimeRange"), (13, u "start"), (0, u "J"), (2, u "end"), (5, .class_ 42), (1, u "java/lang/Math"), (1, u "(JJ)J"), (8, .methodref 40 54), (0, .nameAndType 55 44), (0, u "floorDiv"), (0, .class_ 57), (0, u "com/example/rugged_meter/ruggedmeter/TimeRange$Blocks"), (6, u "blockStart"), (0, u "(JI)J"), (20, .fieldref 14 87), (0, .nameAndType 88 89), (0, u "SCALE_INTERVALS"), (0, u "[J"), (0, .long 900000), (1, .methodref 40 93), (0, .nameAndType 94 44), (0, u "multiplyExact"), (5, u "SCALES"), (0, u "I"), (29, u "INTERVAL_MILLIS")] 56

def k9c0 : Code := { maxStack := 4, maxLocals := 5, code := prog_17_method_7_code, exceptionTable := #[], attributes := #[] }
def k9m0 : Method := { name := "blockStart", desc := "(JI)J", sig := { parameters := [.long, .int], returnType := some .long }, accessFlags := 8, code := some k9c0 }
/-- com/example/rugged_meter/ruggedmeter/TimeRange -/
def k9 : Class := { plain "com/example/rugged_meter/ruggedmeter/TimeRange" (some 8) with
  accessFlags := 49
  interfaces := #[]
  cf := some (fileOf pool9 14 #[.nestMembers #[8, 56]] #[{ accessFlags := 8, nameIndex := 64, descriptorIndex := 65, attributes := #[] }] 49 2 #[] #[{ accessFlags := 18, nameIndex := 30, descriptorIndex := 31, attributes := #[] }, { accessFlags := 18, nameIndex := 34, descriptorIndex := 31, attributes := #[] }, { accessFlags := 25, nameIndex := 131, descriptorIndex := 31, attributes := #[] }, { accessFlags := 26, nameIndex := 88, descriptorIndex := 89, attributes := #[] }, { accessFlags := 24, nameIndex := 100, descriptorIndex := 101, attributes := #[] }])
  fields := #[{ name := "start", type := .long, accessFlags := 18, slot := 0, constantValue := 0 }, { name := "end", type := .long, accessFlags := 18, slot := 1, constantValue := 0 }, { name := "INTERVAL_MILLIS", type := .long, accessFlags := 25, slot := 0, constantValue := 0 }, { name := "SCALE_INTERVALS", type := (.array .long), accessFlags := 26, slot := 1, constantValue := 0 }, { name := "SCALES", type := .int, accessFlags := 24, slot := 2, constantValue := 0 }]
  methods := #[k9m0]
  instanceTypes := #[.long, .long]
  staticTypes := #[.long, (.array .long), .int]
  resolved := Array.replicate 188 none
  statics := some 1 }

def pool10 : Array CpInfo := pool [(1, .class_ 2), (0, u "java/lang/Math"), (1, .class_ 6), (1, u "java/lang/Object"), (0, u "<init>"), (0, u "()V"), (89, .class_ 100), (1, u "java/lang/Math$RandomNumberGeneratorHolder"), (19, u "multiplyExact"), (0, u "(JJ)J"), (0, .methodref 1 123), (0, .nameAndType 124 125), (0, u "abs"), (0, u "(J)J"), (2, .long 9223372036854775808), (16, u "floorDiv"), (26, u "negativeZeroFloatBits"), (0, u "J"), (2, u "negativeZeroDoubleBits"), (68, u "$assertionsDisabled"), (0, u "Z"), (91, u "twoToTheDoubleScaleDown"), (0, u "D"), (4, u "twoToTheDoubleScaleUp"), (9, u "E"), (3, u "PI"), (2, u "TAU"), (2, u "DEGREES_TO_RADIANS"), (0, u "RADIANS_TO_DEGREES")] 94

def k10m0 : Method := { name := "<init>", desc := "()V", sig := { parameters := [], returnType := none }, accessFlags := 2, code := none }
def k10c1 : Code := { maxStack := 4, maxLocals := 10, code := jdk_29_method_30_code, exceptionTable := #[], attributes := #[] }
def k10m1 : Method := { name := "multiplyExact", desc := "(JJ)J", sig := { parameters := [.long, .long], returnType := some .long }, accessFlags := 9, code := some k10c1 }
def k10c2 : Code := { maxStack := 4, maxLocals := 6, code := jdk_29_method_49_code, exceptionTable := #[], attributes := #[] }
def k10m2 : Method := { name := "floorDiv", desc := "(JJ)J", sig := { parameters := [.long, .long], returnType := some .long }, accessFlags := 9, code := some k10c2 }
def k10c3 : Code := { maxStack := 4, maxLocals := 2, code := jdk_29_method_61_code, exceptionTable := #[], attributes := #[] }
def k10m3 : Method := { name := "abs", desc := "(J)J", sig := { parameters := [.long], returnType := some .long }, accessFlags := 9, code := some k10c3 }
/-- java/lang/Math -/
def k10 : Class := { plain "java/lang/Math" (some 0) with
  accessFlags := 49
  interfaces := #[]
  cf := some (fileOf pool10 1 #[.nestMembers #[98]] #[{ accessFlags := 2, nameIndex := 7, descriptorIndex := 8, attributes := #[] }, { accessFlags := 9, nameIndex := 120, descriptorIndex := 121, attributes := #[] }, { accessFlags := 9, nameIndex := 145, descriptorIndex := 121, attributes := #[] }, { accessFlags := 9, nameIndex := 124, descriptorIndex := 125, attributes := #[] }] 49 4 #[] #[{ accessFlags := 25, nameIndex := 354, descriptorIndex := 339, attributes := #[] }, { accessFlags := 25, nameIndex := 358, descriptorIndex := 339, attributes := #[] }, { accessFlags := 25, nameIndex := 361, descriptorIndex := 339, attributes := #[] }, { accessFlags := 26, nameIndex := 364, descriptorIndex := 339, attributes := #[] }, { accessFlags := 26, nameIndex := 365, descriptorIndex := 339, attributes := #[] }, { accessFlags := 26, nameIndex := 172, descriptorIndex := 173, attributes := #[] }, { accessFlags := 26, nameIndex := 176, descriptorIndex := 173, attributes := #[] }, { accessFlags := 8, nameIndex := 344, descriptorIndex := 339, attributes := #[] }, { accessFlags := 8, nameIndex := 338, descriptorIndex := 339, attributes := #[] }, { accessFlags := 4120, nameIndex := 245, descriptorIndex := 246, attributes := #[] }])
  fields := #[{ name := "E", type := .double, accessFlags := 25, slot := 0, constantValue := 0 }, { name := "PI", type := .double, accessFlags := 25, slot := 1, constantValue := 0 }, { name := "TAU", type := .double, accessFlags := 25, slot := 2, constantValue := 0 }, { name := "DEGREES_TO_RADIANS", type := .double, accessFlags := 26, slot := 3, constantValue := 0 }, { name := "RADIANS_TO_DEGREES", type := .double, accessFlags := 26, slot := 4, constantValue := 0 }, { name := "negativeZeroFloatBits", type := .long, accessFlags := 26, slot := 5, constantValue := 0 }, { name := "negativeZeroDoubleBits", type := .long, accessFlags := 26, slot := 6, constantValue := 0 }, { name := "twoToTheDoubleScaleUp", type := .double, accessFlags := 8, slot := 7, constantValue := 0 }, { name := "twoToTheDoubleScaleDown", type := .double, accessFlags := 8, slot := 8, constantValue := 0 }, { name := "$assertionsDisabled", type := .boolean, accessFlags := 4120, slot := 9, constantValue := 0 }]
  methods := #[k10m0, k10m1, k10m2, k10m3]
  instanceTypes := #[]
  staticTypes := #[.double, .double, .double, .double, .double, .long, .long, .double, .double, .boolean]
  resolved := Array.replicate 460 none
  statics := none }

def pool11 : Array CpInfo := pool [(1, u "java/lang/Cloneable"), (0, .class_ 1), (0, u "java/lang/Object"), (0, .class_ 3)] 3

/-- java/lang/Cloneable -/
def k11 : Class := { plain "java/lang/Cloneable" (some 0) with
  accessFlags := 1537
  interfaces := #[]
  cf := some (fileOf pool11 2 #[] #[] 1537 4 #[] #[])
  fields := #[]
  methods := #[]
  instanceTypes := #[]
  staticTypes := #[]
  resolved := Array.replicate 8 none
  statics := none }

/-- the primitive byte -/
def k12 : Class := { plain "byte" none with kind := .primitive 'B', accessFlags := 0x411 }
/-- [B -/
def k13 : Class := { plain "[B" (some 0) with kind := .array 12 .byte, interfaces := #[11, 4], accessFlags := 1041 }

/-- the primitive int -/
def k14 : Class := { plain "int" none with kind := .primitive 'I', accessFlags := 0x411 }
/-- [I -/
def k15 : Class := { plain "[I" (some 0) with kind := .array 14 .int, interfaces := #[11, 4], accessFlags := 1041 }

/-- the primitive long -/
def k16 : Class := { plain "long" none with kind := .primitive 'J', accessFlags := 0x411 }
/-- [J -/
def k17 : Class := { plain "[J" (some 0) with kind := .array 16 .long, interfaces := #[11, 4], accessFlags := 1041 }

def heap : Heap := #[{ cls := 7, slots := #[.ref 2, .ref 3, .ref 4, .null], vm := .statics 7 },
  { cls := 9, slots := #[.long 0, .ref 5, .int 5], vm := .statics 9 },
  { cls := 7, slots := #[.null, .int 0, .int 0, .null, .long 1, .null], vm := .none },
  { cls := 7, slots := #[.null, .int 1, .int 0, .null, .long 4, .null], vm := .none },
  { cls := 7, slots := #[.null, .int 2, .int 0, .null, .long 96, .null], vm := .none },
  { cls := 17, slots := #[.long 1, .long 96, .long 1536, .long 24576, .long 393216], vm := .none }]
def classes : Array Class := #[k0, k1, k2, k3, k4, k5, k6, k7, k8, k9, k10, k11, k12, k13, k14, k15, k16, k17]
def interned : List (Array UInt16 × Addr) := []
def slotsUsed : Nat := 30
def theMethod : MethodId := ⟨1, 1⟩
def args0 : Array Value := #[.int 5, .long 300]
def aboutOver (below : List Frame) : State where
  vm := { classes := classes, interned := interned.toArray }
  heap := heap
  slotsUsed := slotsUsed
  threads := #[{ frames := .invoking theMethod args0 :: below }]
def below0 : List Frame := [.native { method := ⟨0, 0⟩, args := #[] }]
def about1 : State := aboutOver below0
def p0 : Program := .bare "" "" ""
def e0 : Env := launch0.env 0 0 0
theorem w_frames : about1.frames = Frame.invoking theMethod args0 :: below0 := rfl
set_option maxRecDepth 65536 in
theorem w_args : argsFit about1.vm theMethod args0 = true := by decide +kernel
set_option maxRecDepth 65536 in
theorem w_heap : heapFits about1 = true := by decide +kernel
set_option maxRecDepth 65536 in
theorem w_runnable : about1.curStatus? = some .runnable := by decide +kernel
set_option maxRecDepth 65536 in
theorem w_alone : about1.alone = true := by decide +kernel
set_option maxRecDepth 65536 in
theorem w_named : about1.methodNamed? x = some theMethod := by decide +kernel
set_option maxRecDepth 65536 in
theorem w_hears : about1.hears theMethod below0 = true := by decide +kernel
set_option maxRecDepth 65536 in
theorem w_ripe : about1.ripe theMethod args0 below0 = true := by decide +kernel
theorem w_running : about1.status = .running := rfl
set_option maxRecDepth 65536 in
theorem w_room : about1.hasRoom e0.platform room_1 = true :=
  launch0.hasRoom_least _ room_1 (by decide +kernel) (by decide +kernel) (by decide +kernel) (by decide +kernel) (by decide +kernel) (by decide +kernel)
theorem allAtoms_all (ts : List Jvm.Cond) (a : Array Jvm.Value) (st : Jvm.State) : (allAtoms ts).before a st = ts.all (fun c => c.before a st) := by
  induction ts with
  | nil => rfl
  | cons c t ih =>
    show (Jvm.Cond.and c (allAtoms t)).before a st = _
    rw [Jvm.Cond.before_and, ih, List.all_cons]
def words1 : List Jvm.Cond := Jvm.Cond.code x code maxLocals ret :: tables_1
/-- a 'code' word, met by the world's own term for the bytes: nothing is compared byte by byte -/
theorem code_word {y : MethodName} {bytes : ByteArray} {mx : Nat} {rt : Option FieldType} {a : Array Value} {s : State} {m : MethodId} {meth : Method} {c : Code} (h1 : s.methodNamed? y = some m) (h2 : s.vm.method? m = some meth) (h3 : meth.code = some c) (h4 : c.code = bytes)
    (h5 : (c.maxLocals == mx && c.exceptionTable.isEmpty && decide (c.maxStack ≤ mostOperands) && decide (meth.sig.returnType = rt) && !meth.locks && decide (parseMethodDescriptor y.desc = some meth.sig)) = true) : (Jvm.Cond.code y bytes mx rt).before a s = true := by
  simp only [Bool.and_eq_true, beq_iff_eq, Bool.not_eq_true', decide_eq_true_eq] at h5
  obtain ⟨⟨⟨⟨⟨g1, g2⟩, g3⟩, g4⟩, g5⟩, g6⟩ := h5
  simp [Cond.before, Cond.holds, Cond.value, h1, h2, h3, h4, g1, g2, g3, g4, g5, g6]
def isCode : Jvm.Cond → Bool
  | .code _ _ _ _ => true
  | _ => false
theorem all_split {L : List Jvm.Cond} {P : Jvm.Cond → Bool} (h1 : L.all (fun c => isCode c || P c) = true) (h2 : ∀ c ∈ L.filter isCode, P c = true) : L.all P = true := by
  refine List.all_eq_true.mpr fun c hc => ?_
  have h := List.all_eq_true.mp h1 c hc
  rcases Bool.eq_false_or_eq_true (isCode c) with hi | hi
  · exact h2 c (List.mem_filter.mpr ⟨hc, hi⟩)
  · simpa [hi] using h
set_option maxRecDepth 65536 in
theorem w_c0 : (Jvm.Cond.code x code maxLocals ret).before args0 about1 = true := code_word (m := ⟨1, 1⟩) (meth := k1m1) (c := k1c1) (by decide +kernel) rfl rfl rfl (by decide +kernel)
set_option maxRecDepth 65536 in
theorem w_c1 : (Jvm.Cond.code ({ cls := "com/example/rugged_meter/ruggedmeter/TimeRange$Period", name := "scale", desc := "()I" } : Jvm.MethodName) prog_19_method_8_code (2 : Nat) (Option.some Jvm.ClassFile.FieldType.int)).before args0 about1 = true := code_word (m := ⟨7, 1⟩) (meth := k7m1) (c := k7c1) (by decide +kernel) rfl rfl rfl (by decide +kernel)
set_option maxRecDepth 65536 in
theorem w_c2 : (Jvm.Cond.code ({ cls := "com/example/rugged_meter/ruggedmeter/TimeRange", name := "blockStart", desc := "(JI)J" } : Jvm.MethodName) prog_17_method_7_code (5 : Nat) (Option.some Jvm.ClassFile.FieldType.long)).before args0 about1 = true := code_word (m := ⟨9, 0⟩) (meth := k9m0) (c := k9c0) (by decide +kernel) rfl rfl rfl (by decide +kernel)
set_option maxRecDepth 65536 in
theorem w_c3 : (Jvm.Cond.code ({ cls := "java/lang/Math", name := "floorDiv", desc := "(JJ)J" } : Jvm.MethodName) jdk_29_method_49_code (6 : Nat) (Option.some Jvm.ClassFile.FieldType.long)).before args0 about1 = true := code_word (m := ⟨10, 2⟩) (meth := k10m2) (c := k10c2) (by decide +kernel) rfl rfl rfl (by decide +kernel)
set_option maxRecDepth 65536 in
theorem w_c4 : (Jvm.Cond.code ({ cls := "java/lang/Math", name := "multiplyExact", desc := "(JJ)J" } : Jvm.MethodName) jdk_29_method_30_code (10 : Nat) (Option.some Jvm.ClassFile.FieldType.long)).before args0 about1 = true := code_word (m := ⟨10, 1⟩) (meth := k10m1) (c := k10c1) (by decide +kernel) rfl rfl rfl (by decide +kernel)
set_option maxRecDepth 65536 in
theorem w_c5 : (Jvm.Cond.code ({ cls := "java/lang/Math", name := "abs", desc := "(J)J" } : Jvm.MethodName) jdk_29_method_61_code (2 : Nat) (Option.some Jvm.ClassFile.FieldType.long)).before args0 about1 = true := code_word (m := ⟨10, 3⟩) (meth := k10m3) (c := k10c3) (by decide +kernel) rfl rfl rfl (by decide +kernel)
set_option maxRecDepth 65536 in
theorem w_c6 : (Jvm.Cond.code ({ cls := "com/example/rugged_meter/ruggedmeter/TimeRange$Period", name := "startOf", desc := "(J)J" } : Jvm.MethodName) prog_19_method_9_code (3 : Nat) (Option.some Jvm.ClassFile.FieldType.long)).before args0 about1 = true := code_word (m := ⟨7, 2⟩) (meth := k7m2) (c := k7c2) (by decide +kernel) rfl rfl rfl (by decide +kernel)
set_option maxRecDepth 65536 in
theorem w_c7 : (Jvm.Cond.code ({ cls := "com/example/rugged_meter/ruggedmeter/TimeRange$Period", name := "millis", desc := "()J" } : Jvm.MethodName) prog_19_method_7_code (1 : Nat) (Option.some Jvm.ClassFile.FieldType.long)).before args0 about1 = true := code_word (m := ⟨7, 0⟩) (meth := k7m0) (c := k7c0) (by decide +kernel) rfl rfl rfl (by decide +kernel)
def codes1 : List Jvm.Cond := [Jvm.Cond.code x code maxLocals ret, Jvm.Cond.code ({ cls := "com/example/rugged_meter/ruggedmeter/TimeRange$Period", name := "scale", desc := "()I" } : Jvm.MethodName) prog_19_method_8_code (2 : Nat) (Option.some Jvm.ClassFile.FieldType.int), Jvm.Cond.code ({ cls := "com/example/rugged_meter/ruggedmeter/TimeRange", name := "blockStart", desc := "(JI)J" } : Jvm.MethodName) prog_17_method_7_code (5 : Nat) (Option.some Jvm.ClassFile.FieldType.long), Jvm.Cond.code ({ cls := "java/lang/Math", name := "floorDiv", desc := "(JJ)J" } : Jvm.MethodName) jdk_29_method_49_code (6 : Nat) (Option.some Jvm.ClassFile.FieldType.long), Jvm.Cond.code ({ cls := "java/lang/Math", name := "multiplyExact", desc := "(JJ)J" } : Jvm.MethodName) jdk_29_method_30_code (10 : Nat) (Option.some Jvm.ClassFile.FieldType.long), Jvm.Cond.code ({ cls := "java/lang/Math", name := "abs", desc := "(J)J" } : Jvm.MethodName) jdk_29_method_61_code (2 : Nat) (Option.some Jvm.ClassFile.FieldType.long), Jvm.Cond.code ({ cls := "com/example/rugged_meter/ruggedmeter/TimeRange$Period", name := "startOf", desc := "(J)J" } : Jvm.MethodName) prog_19_method_9_code (3 : Nat) (Option.some Jvm.ClassFile.FieldType.long), Jvm.Cond.code ({ cls := "com/example/rugged_meter/ruggedmeter/TimeRange$Period", name := "millis", desc := "()J" } : Jvm.MethodName) prog_19_method_7_code (1 : Nat) (Option.some Jvm.ClassFile.FieldType.long)]
set_option maxRecDepth 65536 in
theorem codes_eq : words1.filter isCode = codes1 := rfl
theorem w_codes : ∀ c ∈ words1.filter isCode, c.before args0 about1 = true := by
  rw [codes_eq]
  intro c hc
  simp only [codes1, List.mem_cons, List.not_mem_nil, or_false] at hc
  rcases hc with rfl | rfl | rfl | rfl | rfl | rfl | rfl | rfl
  · exact w_c0
  · exact w_c1
  · exact w_c2
  · exact w_c3
  · exact w_c4
  · exact w_c5
  · exact w_c6
  · exact w_c7
set_option maxRecDepth 65536 in
theorem w_t1 : (words1.take 24).all (fun c => isCode c || c.before args0 about1) = true := by decide +kernel
set_option maxRecDepth 65536 in
theorem w_t2 : ((words1.drop 24).take 24).all (fun c => isCode c || c.before args0 about1) = true := by decide +kernel
set_option maxRecDepth 65536 in
theorem w_t3 : ((words1.drop 24).drop 24).all (fun c => isCode c || c.before args0 about1) = true := by decide +kernel
theorem w_tables : (allAtoms (Jvm.Cond.code x code maxLocals ret :: tables_1)).before args0 about1 = true := by
  rw [allAtoms_all]
  show words1.all (fun c => c.before args0 about1) = true
  refine all_split ?_ w_codes
  rw [← List.take_append_drop 24 words1, List.all_append, w_t1, ← List.take_append_drop 24 (words1.drop 24), List.all_append, w_t2, w_t3]
  rfl
set_option maxRecDepth 65536 in
theorem w_case : (Jvm.Cond.and given_1 narrow_1).before args0 about1 = true := by decide +kernel
theorem w_applies : (headSpec (Jvm.Cond.code x code maxLocals ret :: tables_1) room_1).applies x e0.platform about1 = true :=
  (Spec.applies_iff w_frames).mpr ⟨w_running, w_runnable, w_alone, w_named, w_hears, w_ripe, w_room, w_tables⟩
theorem atStart : AtStart classFile x code maxLocals ret World_1 tables_1 room_1 Calls_1 rest_1 Pre_1 launch0 p0 e0 about1 theMethod args0 below0 :=
  ⟨lists_1, trivial, launch0.admits_env _ _ _, launch0.least_env, fairChoices_fair.cas, fairChoices_fair.clock, w_frames, w_args, w_heap, w_applies, trivial, trivial, w_case⟩
end start1
theorem witness_1 : WitnessClaimed_1 := ⟨start1.p0, start1.e0, start1.about1, start1.theMethod, start1.args0, start1.below0, start1.atStart⟩
end Jvm.Pilot.@@N@@
