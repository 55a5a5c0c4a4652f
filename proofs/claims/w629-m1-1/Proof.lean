import JvmDerived
import JvmDerived.Pilot.@@N@@Statement
import JvmDerived.Pilot.@@N@@Code
set_option linter.unusedVariables false
set_option linter.unusedSimpArgs false
@@BLOCK:NumsL.lean.txt@@
namespace Jvm.Pilot.@@N@@
open Jvm Jvm.ClassFile Sem Op Lib Jvm.Free Jvm.Stand Jvm.LawKit Jvm.RoadKit Bundle Jvm.Pilot.@@N@@.Jvm.D
/-! 0. a walk by goals: 'Go .. F T g': from the frame g at the state T the body comes to an end of which F holds -/
def Go (tb : Tables) (e : Env) (below : List Frame) (F : Outcome → State → Prop) (T : State) (g : JFrame) : Prop :=
  ∃ s₂ o, Steps tb e below (T.setTop g) s₂ ∧ s₂.status = .running ∧ Ended s₂ below o ∧ F o s₂
def Fin (s : State) (Q : Option Value → Heap → List Loc → Prop) (rc rs : Nat) : Outcome → State → Prop :=
  fun o U => ∃ v L, o = .returned v ∧ Q v U.heap L ∧ FrameEnd s o U L rc rs
/-- a contract: called with as' at the heap h it returns, and Q holds of the value, the heap and the written places -/
def MetQ (l : Launch) (Z : State) (y : MethodName) (bytes : ByteArray) (maxL : Nat) (ret : Option FieldType) (ws : List Jvm.Cond) (rm : Room) (as' : Array Value) (h : Heap) (Q : Option Value → Heap → List Loc → Prop) : Prop :=
  MetFree l y (head1 (Jvm.Cond.code y bytes maxL ret :: ws) rm) (fun a U => a = as' ∧ Z.Warmed39 U.vm ∧ U.heap = h) (fun _ _ _ _ _ => True) (fun _ U o U' => ∃ v L, o = .returned v ∧ Q v U'.heap L ∧ FrameEnd U o U' L rm.cells rm.slots)
/-- what a pure method leaves: its value, nothing written -/
def PQ (w : Value) (h : Heap) : Option Value → Heap → List Loc → Prop := fun v h' L => v = some w ∧ L = [] ∧ h' = h
theorem own_narrow_ref {t : FieldType} {v : Value} (hv : v.isRef = true) : narrow t v = v := by rcases XT.refc hv with rfl | ⟨_, rfl⟩ <;> cases t <;> rfl
theorem own_fits_obj {C : String} {v : Value} (hv : v.isRef = true) : fits (.object C) v = true := by rcases XT.refc hv with rfl | ⟨_, rfl⟩ <;> rfl
theorem own_fits_arr {t : FieldType} {v : Value} (hv : v.isRef = true) : fits (.array t) v = true := by rcases XT.refc hv with rfl | ⟨_, rfl⟩ <;> rfl
section Walk
variable {tb : Tables} {p : Program} {l : Launch} {e : Env} {R : Room} {s : State} {m : MethodId} {args : Array Value} {below : List Frame} {meth : Method} {c : Code} {T T' : State} {locs : List Loc} {cells slots : Nat} {Z : State} {a0 : Array Value} {h : Heap} {F : Outcome → State → Prop} {g g' : JFrame} {Q : Option Value → Heap → List Loc → Prop}
theorem Go.st (st : ∀ t, Steps tb e below (T'.setTop g') t → Steps tb e below (T.setTop g) t) (k : Go tb e below F T' g') : Go tb e below F T g := by
  obtain ⟨a, b, q, r⟩ := k; exact ⟨a, b, st _ q, r⟩
theorem Go.tr (st : Steps tb e below (T.setTop g) (T'.setTop g')) (k : Go tb e below F T' g') : Go tb e below F T g := by
  obtain ⟨a, b, q, r⟩ := k; exact ⟨a, b, st.trans q, r⟩
theorem Go.cast (q : g = g') (k : Go tb e below F T g') : Go tb e below F T g := q ▸ k
theorem MetQ.body {y : MethodName} {bytes : ByteArray} {maxL : Nat} {ret : Option FieldType} {ws : List Jvm.Cond} {rm : Room} {as' : Array Value} (hp : plainFor y = true)
    (k : ∀ (p : Program) (e : Env) (s : State) (m : MethodId) (below : List Frame) (meth : Method) (c : Code) (s₁ : State), p.tables.exec = Jvm.exec → c.code = bytes → c.maxLocals = maxL → s.vm.findClass y.cls = some m.cls → meth.name = y.name → meth.sig.returnType = ret → meth.locks = false →
      Z.Warmed39 s.vm → s₁.heap = h → Stand p l e rm s m as' below meth c s₁ [] 0 0 → Go p.tables e below (Fin s Q rm.cells rm.slots) s₁ (entryFrame m as' maxL)) : MetQ l Z y bytes maxL ret ws rm as' h Q := by
  refine MetFree.of_bodySF hp hisR ?_
  intro p e s m args below meth c s₁ Bd hml0 hP hK
  obtain ⟨rfl, hZ, hh⟩ := hP
  exact k p e s m below meth c s₁ Bd.exec Bd.bytes hml0 (findClass_of_methodNamed Bd.named) (name_of_methodNamed Bd.named Bd.method).1 Bd.returns (BodyLoose.notSynchronized Bd) hZ (by rw [← hh, Bd.state]; rfl) (Stand.of_body Bd)
theorem Go.retI (X : Stand p l e R s m args below meth c T locs cells slots) (hx : p.tables.exec = Jvm.exec) (hlk : meth.locks = false) (hret : meth.sig.returnType = some .int) {pc : Nat} {Ls : Array Slot} {z : Int32} {rest : List Value} (hd : decode c.code pc = .ok (.ireturn, 1)) {rc rs : Nat} (hc : cells ≤ rc) (hs : slots ≤ rs) (hq : Q (some (.int z)) T.heap locs) :
    Go p.tables e below (Fin s Q rc rs) T (mkF m pc Ls (.int z :: rest)) := by
  obtain ⟨fs, hl, hrun, hended, hW, hsame⟩ := X.leave (v := some (.int z)) (fun h => by rw [hret] at h; cases h) hlk
  refine ⟨_, _, ?_, hrun, hended, _, _, rfl, hq, ⟨_, rfl⟩, hW, hsame.mono hc hs⟩
  have hm' : T.vm.method? m = some meth := X.method'
  have hn : narrow .int (.int z) = .int z := rfl
  show Steps p.tables e below (T.setTop { method := m, pc := pc, locals := Ls, stack := _ :: rest, locked := none }) _
  jvm_step X.here [X.here.top, hx, hd, hm', hret, hn]
  first | (intro acts; rw [hl _ acts rfl rfl rfl]) | rw [hl _ _ rfl rfl rfl]
  exact Steps.refl _
theorem Go.retN (X : Stand p l e R s m args below meth c T locs cells slots) (hx : p.tables.exec = Jvm.exec) (hlk : meth.locks = false) {t : FieldType} (hret : meth.sig.returnType = some t) (ht : t = .boolean ∨ t = .byte ∨ t = .char ∨ t = .short) {pc : Nat} {Ls : Array Slot} {z : Int32} {rest : List Value} (hd : decode c.code pc = .ok (.ireturn, 1)) {rc rs : Nat} (hc : cells ≤ rc) (hs : slots ≤ rs) (hq : Q (some (.int (nar t z))) T.heap locs) :
    Go p.tables e below (Fin s Q rc rs) T (mkF m pc Ls (.int z :: rest)) := by
  obtain ⟨fs, hl, hrun, hended, hW, hsame⟩ := X.leave (v := some (.int (nar t z))) (fun h => by rw [hret] at h; cases h) hlk
  exact ⟨_, _, Jvm.RoadKit.retN X hx hret ht hd hl, hrun, hended, _, _, rfl, hq, ⟨_, rfl⟩, hW, hsame.mono hc hs⟩
theorem Go.retJ (X : Stand p l e R s m args below meth c T locs cells slots) (hx : p.tables.exec = Jvm.exec) (hlk : meth.locks = false) (hret : meth.sig.returnType = some .long) {pc : Nat} {Ls : Array Slot} {z : Int64} (hd : decode c.code pc = .ok (.lreturn, 1)) {rc rs : Nat} (hc : cells ≤ rc) (hs : slots ≤ rs) (hq : Q (some (.long z)) T.heap locs) :
    Go p.tables e below (Fin s Q rc rs) T (mkF m pc Ls [.long z]) := by
  obtain ⟨fs, hl, hrun, hended, hW, hsame⟩ := X.leave (v := some (.long z)) (fun h => by rw [hret] at h; cases h) hlk
  exact ⟨_, _, X.lreturnOut hx hret hd hl, hrun, hended, _, _, rfl, hq, ⟨_, rfl⟩, hW, hsame.mono hc hs⟩
theorem Go.retA (X : Stand p l e R s m args below meth c T locs cells slots) (hx : p.tables.exec = Jvm.exec) (hlk : meth.locks = false) {t : FieldType} (hret : meth.sig.returnType = some t) (ht : t.isReference = true) {pc : Nat} {Ls : Array Slot} {w : Value} (hw : w.isRef = true) (hd : decode c.code pc = .ok (.areturn, 1)) {rc rs : Nat} (hc : cells ≤ rc) (hs : slots ≤ rs) (hq : Q (some w) T.heap locs) :
    Go p.tables e below (Fin s Q rc rs) T (mkF m pc Ls [w]) := by
  obtain ⟨fs, hl, hrun, hended, hW, hsame⟩ := X.leave (v := some w) (fun h => by rw [hret] at h; cases h) hlk
  exact ⟨_, _, X.areturnOut hx hw hret ht hd hl, hrun, hended, _, _, rfl, hq, ⟨_, rfl⟩, hW, hsame.mono hc hs⟩
theorem Go.retV (X : Stand p l e R s m args below meth c T locs cells slots) (hx : p.tables.exec = Jvm.exec) (hlk : meth.locks = false) (hret : meth.sig.returnType = none) {pc : Nat} {Ls : Array Slot} (hd : decode c.code pc = .ok (.return_, 1)) {rc rs : Nat} (hc : cells ≤ rc) (hs : slots ≤ rs) (hq : Q none T.heap locs) :
    Go p.tables e below (Fin s Q rc rs) T (mkF m pc Ls []) := by
  obtain ⟨fs, hl, hrun, hended, hW, hsame⟩ := X.leave (v := none) (fun _ => rfl) hlk
  exact ⟨_, _, X.returnOut hx hret hd hl, hrun, hended, _, _, rfl, hq, ⟨_, rfl⟩, hW, hsame.mono hc hs⟩
/-- a static call by its contract -/
theorem Go.callS (X : Stand p l e R s m args below meth c T locs cells slots) (hx : p.tables.exec = Jvm.exec) (hZ : Z.Warmed39 s.vm) {own : String} (hown : s.vm.findClass own = some m.cls) {index : Nat} {y : MethodName} {bytes : ByteArray} {maxL : Nat} {ret : Option FieldType} {rm : Room} {W : Nat} {argsL rest : List Value} {Qc : Option Value → Heap → List Loc → Prop}
    (w1 : (Jvm.Cond.methodLink own index y).before a0 Z = true) (w2 : (Jvm.Cond.static y).before a0 Z = true) (w3 : (Jvm.Cond.initialized y.cls).before a0 Z = true) (w4 : (Jvm.Cond.code y bytes maxL ret).before a0 Z = true) (hy : y.cls ≠ "java/lang/invoke/MethodHandle" ∧ y.cls ≠ "java/lang/invoke/VarHandle")
    (eT : T.heap = h) (hM : MetQ l Z y bytes maxL ret [] rm argsL.toArray h Qc) (hf : rm.frames + 1 ≤ R.frames) (hl : W + (maxL + 11) + rm.locals ≤ R.locals) (hc : cells + rm.cells ≤ R.cells) (hs : slots + rm.slots ≤ R.slots)
    (hg : g.method = m) (hsize : g.locals.size = c.maxLocals) (hlen : ∀ sig, parseMethodDescriptor y.desc = some sig → argsL.length = sig.parameters.length) (hstack : g.stack = argsL.reverse ++ rest) (hW : 2 * g.monitorRoom + (rest.map fun v => v.category).sum ≤ W) (hdg : decode c.code g.pc = .ok (.invokestatic index, 3))
    (k : ∀ (v : Option Value) (T' : State) (L : List Loc), Stand p l e R s m args below meth c T' (locs ++ L) (cells + rm.cells) (slots + rm.slots) → Qc v T'.heap L → Go p.tables e below F T' { g with pc := g.pc + 3, stack := v.toList ++ rest }) : Go p.tables e below F T g := by
  obtain ⟨v, vm1, ⟨T', L', c', n'⟩, -, X', ⟨L, hQ, e1, e2, e3⟩, st⟩ := Jvm.LawKit.callS X hx (y := y) hown (mvT hZ w1) (mvT hZ w2) (mvT hZ w3) (mvT hZ w4) hy (backOf (W := W) hM hZ w4 w3 hf hl) hg hsize hlen hstack hW hdg (fun _ _ => ⟨rfl, eT, hc, hs⟩)
  dsimp only [Pt.U, Pt.locs, Pt.cells, Pt.slots] at X' e1 e2 e3 st hQ
  subst e1 e2 e3
  exact Go.st st (k v T' L X' hQ)
/-- a pure static call by its contract -/
theorem Go.callP (X : Stand p l e R s m args below meth c T locs cells slots) (hx : p.tables.exec = Jvm.exec) (hZ : Z.Warmed39 s.vm) {own : String} (hown : s.vm.findClass own = some m.cls) {index : Nat} {y : MethodName} {bytes : ByteArray} {maxL : Nat} {ret : Option FieldType} {fr lo W : Nat} {argsL rest : List Value} {w : Value}
    (w1 : (Jvm.Cond.methodLink own index y).before a0 Z = true) (w2 : (Jvm.Cond.static y).before a0 Z = true) (w3 : (Jvm.Cond.initialized y.cls).before a0 Z = true) (w4 : (Jvm.Cond.code y bytes maxL ret).before a0 Z = true) (hy : y.cls ≠ "java/lang/invoke/MethodHandle" ∧ y.cls ≠ "java/lang/invoke/VarHandle")
    (eT : T.heap = h) (hM : MetQ l Z y bytes maxL ret [] ({ frames := fr, cells := 0, slots := 0, locals := lo } : Room) argsL.toArray h (PQ w h)) (hf : fr + 1 ≤ R.frames) (hl : W + (maxL + 11) + lo ≤ R.locals) (hc : cells ≤ R.cells) (hs : slots ≤ R.slots)
    (hg : g.method = m) (hsize : g.locals.size = c.maxLocals) (hlen : ∀ sig, parseMethodDescriptor y.desc = some sig → argsL.length = sig.parameters.length) (hstack : g.stack = argsL.reverse ++ rest) (hW : 2 * g.monitorRoom + (rest.map fun v => v.category).sum ≤ W) (hdg : decode c.code g.pc = .ok (.invokestatic index, 3))
    (k : ∀ (T' : State), Stand p l e R s m args below meth c T' locs cells slots → T'.heap = h → Go p.tables e below F T' { g with pc := g.pc + 3, stack := w :: rest }) : Go p.tables e below F T g := by
  refine Go.callS X hx hZ hown w1 w2 w3 w4 hy eT hM hf hl hc hs hg hsize hlen hstack hW hdg fun v T' L X' q => ?_
  obtain ⟨rfl, rfl, e'⟩ := q
  rw [List.append_nil] at X'
  exact k T' X' e'
/-- an instance call by its contract; the receiver is exactly a C -/
theorem Go.callV (X : Stand p l e R s m args below meth c T locs cells slots) (hx : p.tables.exec = Jvm.exec) (hZ : Z.Warmed39 s.vm) {own : String} (hown : s.vm.findClass own = some m.cls) {index : Nat} {y : MethodName} {C : String} {bytes : ByteArray} {maxL : Nat} {ret : Option FieldType} {rm : Room} {W : Nat} {argsL rest : List Value} {Qc : Option Value → Heap → List Loc → Prop}
    (w1 : (Jvm.Cond.methodLink own index y).before a0 Z = true) (w2 : (Jvm.Cond.declares y).before a0 Z = true) (w5 : (Jvm.Cond.selects C y y).before a0 Z = true) (w6 : (Jvm.Cond.instanceMethod y).before a0 Z = true) (w3 : (Jvm.Cond.initialized y.cls).before a0 Z = true) (w4 : (Jvm.Cond.code y bytes maxL ret).before a0 Z = true) (hy : y.cls ≠ "java/lang/invoke/MethodHandle" ∧ y.cls ≠ "java/lang/invoke/VarHandle") (hcy : C = y.cls)
    (eT : T.heap = h) {b : Addr} (E : Exa Z h b C) (hM : MetQ l Z y bytes maxL ret [] rm (.ref b :: argsL).toArray h Qc) (hf : rm.frames + 1 ≤ R.frames) (hl : W + (maxL + 11) + rm.locals ≤ R.locals) (hc : cells + rm.cells ≤ R.cells) (hs : slots + rm.slots ≤ R.slots)
    (hg : g.method = m) (hsize : g.locals.size = c.maxLocals) (hlen : ∀ sig, parseMethodDescriptor y.desc = some sig → argsL.length = sig.parameters.length) (hstack : g.stack = argsL.reverse ++ .ref b :: rest) (hW : 2 * g.monitorRoom + (rest.map fun v => v.category).sum ≤ W) (hdg : decode c.code g.pc = .ok (.invokevirtual index, 3))
    (k : ∀ (v : Option Value) (T' : State) (L : List Loc), Stand p l e R s m args below meth c T' (locs ++ L) (cells + rm.cells) (slots + rm.slots) → Qc v T'.heap L → Go p.tables e below F T' { g with pc := g.pc + 3, stack := v.toList ++ rest }) : Go p.tables e below F T g := by
  subst hcy
  obtain ⟨cq, kq, qa, qb, qc⟩ := isOf hZ eT E
  obtain ⟨v, vm1, ⟨T', L', c', n'⟩, -, X', ⟨L, hQ, e1, e2, e3⟩, st⟩ := X.virtualBack hx (y := y) (z := y) hown (mvT hZ w1) (mvT hZ w2) (notFace_of_selects (args := #[]) (mvT hZ w5)) (mvT hZ w5) (mvT hZ w6) hy (backOf (W := W) hM hZ w4 w3 hf hl) qa qc hg hsize (Steps.refl _) hlen hstack hW hdg (fun _ _ => ⟨rfl, eT, hc, hs⟩)
  dsimp only [Pt.U, Pt.locs, Pt.cells, Pt.slots] at X' e1 e2 e3 st hQ
  subst e1 e2 e3
  exact Go.tr st (k v T' L X' hQ)
/-- a constructor by its contract -/
theorem Go.callC (X : Stand p l e R s m args below meth c T locs cells slots) (hx : p.tables.exec = Jvm.exec) (hZ : Z.Warmed39 s.vm) {own : String} (hown : s.vm.findClass own = some m.cls) {index : Nat} {y : MethodName} {bytes : ByteArray} {maxL : Nat} {rm : Room} {W : Nat} {argsL rest : List Value} {Qc : Option Value → Heap → List Loc → Prop} (hy1 : y.name = "<init>")
    (w1 : (Jvm.Cond.methodLink own index y).before a0 Z = true) (w2 : (Jvm.Cond.instanceMethod y).before a0 Z = true) (w3 : (Jvm.Cond.initialized y.cls).before a0 Z = true) (w4 : (Jvm.Cond.code y bytes maxL none).before a0 Z = true) (hy : y.cls ≠ "java/lang/invoke/MethodHandle" ∧ y.cls ≠ "java/lang/invoke/VarHandle")
    (eT : T.heap = h) {b : Addr} (hM : MetQ l Z y bytes maxL none [] rm (.ref b :: argsL).toArray h Qc) (hf : rm.frames + 1 ≤ R.frames) (hl : W + (maxL + 11) + rm.locals ≤ R.locals) (hc : cells + rm.cells ≤ R.cells) (hs : slots + rm.slots ≤ R.slots)
    (hg : g.method = m) (hsize : g.locals.size = c.maxLocals) (hlen : ∀ sig, parseMethodDescriptor y.desc = some sig → argsL.length = sig.parameters.length) (hstack : g.stack = argsL.reverse ++ .ref b :: rest) (hW : 2 * g.monitorRoom + (rest.map fun v => v.category).sum ≤ W) (hdg : decode c.code g.pc = .ok (.invokespecial index, 3))
    (k : ∀ (v : Option Value) (T' : State) (L : List Loc), Stand p l e R s m args below meth c T' (locs ++ L) (cells + rm.cells) (slots + rm.slots) → Qc v T'.heap L → Go p.tables e below F T' { g with pc := g.pc + 3, stack := v.toList ++ rest }) : Go p.tables e below F T g := by
  obtain ⟨v, vm1, ⟨T', L', c', n'⟩, -, X', ⟨L, hQ, e1, e2, e3⟩, st⟩ := X.specialBack hx (y := y) hy1 hown (mvT hZ w1) (mvT hZ w2) (mvT hZ w4) hy (backOf (W := W) hM hZ w4 w3 hf hl) hg hsize (Steps.refl _) hlen hstack hW hdg (fun _ _ => ⟨rfl, eT, hc, hs⟩)
  dsimp only [Pt.U, Pt.locs, Pt.cells, Pt.slots] at X' e1 e2 e3 st hQ
  subst e1 e2 e3
  exact Go.tr st (k v T' L X' hQ)
end Walk
theorem pd_0 : parseMethodDescriptor "(C)Z" = some ⟨[.char], some .boolean⟩ := by decide +kernel
theorem d15_0 : decode jdk_43_method_3_code 0 = .ok (.iload_n 0, 1) := by decide +kernel
theorem d15_1 : decode jdk_43_method_3_code 1 = .ok (.sipush 255, 3) := by decide +kernel
theorem d15_4 : decode jdk_43_method_3_code 4 = .ok (.if_icmp .gt 7, 3) := by decide +kernel
theorem d15_7 : decode jdk_43_method_3_code 7 = .ok (.iconst 1, 1) := by decide +kernel
theorem d15_8 : decode jdk_43_method_3_code 8 = .ok (.goto 4, 3) := by decide +kernel
theorem d15_11 : decode jdk_43_method_3_code 11 = .ok (.iconst 0, 1) := by decide +kernel
theorem d15_12 : decode jdk_43_method_3_code 12 = .ok (.ireturn, 1) := by decide +kernel
theorem pn_0 : plainName "java/lang/StringLatin1" = true := by first | (simp [plainName, overriddenIn]; done) | decide +kernel
def f15 (p0 : Int32) : Int32 := (if (255 : Int32) < p0 then (0 : Int32) else (1 : Int32))
theorem ef_rm15 (m : MethodId) (p0 : Int32)  : entryFrame m #[(.int p0)] 1 = mkF m 0 #[.val (.int p0)] [] := by first | (simp [entryFrame, mkF, argsToLocals, Value.category]; done) | rfl
set_option maxRecDepth 65536 in
set_option maxHeartbeats 40000000 in
theorem rm15 (l : Launch) (Z : State) (a0 : Array Value) (hw : ∀ d ∈ tables_1, d.before a0 Z = true) (p0 : Int32)  (h0 : Heap)  :
    MetQ l Z (⟨"java/lang/StringLatin1", "canEncode", "(C)Z"⟩ : MethodName) jdk_43_method_3_code 1 (some .boolean) [] ({ frames := 0, cells := 0, slots := 0, locals := 0 } : Room) #[(.int p0)] h0 (PQ (.int (f15 p0)) h0) := by
  refine MetQ.body (plainFor_of_name pn_0) fun p e s m below meth c s₁ hx hby hml hown hnm hret hlk hZ e0 X0 => Go.cast (ef_rm15 m p0) ?_
  refine Go.st (T' := s₁) (g' := (mkF m 1 #[.val (.int p0)] [(.int p0)])) (fun _ hr => XS.iloadN X0.here hx rfl (hb hby d15_0) rfl hr) ?_
  refine Go.st (T' := s₁) (g' := (mkF m 4 #[.val (.int p0)] [(.int (255 : Int32)), (.int p0)])) (fun _ hr => XT.sipushV X0.here hx rfl (255 : Int32) (hb hby d15_1) (by decide) hr) ?_
  by_cases c4_1 : (255 : Int32) < p0
  · refine Go.st (T' := s₁) (g' := (mkF m 11 #[.val (.int p0)] [])) (fun _ hr => XS.icmpYes X0.here hx rfl (pc0 := 4) (pc' := 11) rfl (hb hby d15_4) rfl (XT.ii_gt_t c4_1) (by decide) (by decide) hr) ?_
    refine Go.st (T' := s₁) (g' := (mkF m 12 #[.val (.int p0)] [(.int (0 : Int32))])) (fun _ hr => XT.iconstV X0.here hx rfl (0 : Int32) (hb hby d15_11) (by decide) hr) ?_
    exact Go.retN X0 hx hlk hret (by simp) (hb hby d15_12) (Nat.zero_le _) (Nat.zero_le _) ⟨congrArg (fun z => some (Value.int z)) ((by decide : nar .boolean (0 : Int32) = (0 : Int32)).trans (by simp only [f15, if_pos c4_1])), rfl, e0⟩
  · refine Go.st (T' := s₁) (g' := (mkF m 7 #[.val (.int p0)] [])) (fun _ hr => XS.icmpNo X0.here hx rfl (hb hby d15_4) rfl (XT.ii_gt_f c4_1) hr) ?_
    refine Go.st (T' := s₁) (g' := (mkF m 8 #[.val (.int p0)] [(.int (1 : Int32))])) (fun _ hr => XT.iconstV X0.here hx rfl (1 : Int32) (hb hby d15_7) (by decide) hr) ?_
    refine Go.st (T' := s₁) (g' := (mkF m 12 #[.val (.int p0)] [(.int (1 : Int32))])) (fun _ hr => XS.goto X0.here hx rfl (pc0 := 8) (pc' := 12) rfl (hb hby d15_8) (by decide) (by decide) hr) ?_
    exact Go.retN X0 hx hlk hret (by simp) (hb hby d15_12) (Nat.zero_le _) (Nat.zero_le _) ⟨congrArg (fun z => some (Value.int z)) ((by decide : nar .boolean (1 : Int32) = (1 : Int32)).trans (by simp only [f15, if_neg c4_1])), rfl, e0⟩
theorem pd_1 : parseMethodDescriptor "(C)[B" = some ⟨[.char], some (.array .byte)⟩ := by decide +kernel
theorem d16_0 : decode jdk_43_method_46_code 0 = .ok (.iconst 1, 1) := by decide +kernel
theorem d16_1 : decode jdk_43_method_46_code 1 = .ok (.newarray .byte, 2) := by decide +kernel
theorem d16_3 : decode jdk_43_method_46_code 3 = .ok (.dup, 1) := by decide +kernel
theorem d16_4 : decode jdk_43_method_46_code 4 = .ok (.iconst 0, 1) := by decide +kernel
theorem d16_5 : decode jdk_43_method_46_code 5 = .ok (.iload_n 0, 1) := by decide +kernel
theorem d16_6 : decode jdk_43_method_46_code 6 = .ok (.i2b, 1) := by decide +kernel
theorem d16_7 : decode jdk_43_method_46_code 7 = .ok (.bastore, 1) := by decide +kernel
theorem d16_8 : decode jdk_43_method_46_code 8 = .ok (.areturn, 1) := by decide +kernel
theorem ef_rm16 (m : MethodId) (p0 : Int32)  : entryFrame m #[(.int p0)] 1 = mkF m 0 #[.val (.int p0)] [] := by first | (simp [entryFrame, mkF, argsToLocals, Value.category]; done) | rfl
set_option maxRecDepth 65536 in
set_option maxHeartbeats 40000000 in
theorem rm16 (l : Launch) (Z : State) (a0 : Array Value) (hw : ∀ d ∈ tables_1, d.before a0 Z = true) (p0 : Int32)  (h0 : Heap) (n0 : Nat) (Z0 : n0 ≤ h0.size) :
    MetQ l Z (⟨"java/lang/StringLatin1", "toBytes", "(C)[B"⟩ : MethodName) jdk_43_method_46_code 1 (some (.array .byte)) [] ({ frames := 0, cells := 1, slots := 1, locals := 0 } : Room) #[(.int p0)] h0 (fun v h L => ∃ a, v = some (.ref a) ∧ Fr n0 L ∧ Keep h0 h []) := by
  refine MetQ.body (plainFor_of_name pn_0) fun p e s m below meth c s₁ hx hby hml hown hnm hret hlk hZ e0 X0 => Go.cast (ef_rm16 m p0) ?_
  refine Go.st (T' := s₁) (g' := (mkF m 1 #[.val (.int p0)] [(.int (1 : Int32))])) (fun _ hr => XT.iconstV X0.here hx rfl (1 : Int32) (hb hby d16_0) (by decide) hr) ?_
  obtain ⟨T1, h1, k1, X1, e1, E1, A1, st1⟩ := newP X0 hx hZ (hw _ (List.mem_of_getElem? (i := 19) rfl)) e0 (g := (mkF m 1 #[.val (.int p0)] [(.int (1 : Int32))])) rfl (hb hby d16_1) rfl (by decide) (cap := 1) (by decide) (by decide) (by decide) (by decide)
  obtain ⟨a1, g1⟩ : ∃ z, z = h0.size := ⟨_, rfl⟩
  rw [← g1] at A1 st1
  have n_a1 : n0 ≤ a1 := Nat.le_trans Z0 (Nat.le_of_eq g1.symm)
  have hn_a1 : h0.size ≤ a1 := Nat.le_trans (Keep.refl h0 []).1 (Nat.le_of_eq g1.symm)
  have Z0_q_1 : n0 ≤ h1.size := (Nat.le_trans Z0 E1.1)
  have fK_q_1 : Keep h0 h1 [] := ((Keep.refl h0 []).ext E1)
  have V1 : Arv Z h1 a1 k1 .byte (1 : Int32) [(.int (0 : Int32))] (.int (0 : Int32)) := (Arv.new A1 (by decide)).pad (pad_rep [] (.int (0 : Int32)) 1)
  refine Go.st (T' := T1) (g' := (mkF m 3 #[.val (.int p0)] [(.ref a1)])) st1 ?_
  refine Go.st (T' := T1) (g' := (mkF m 4 #[.val (.int p0)] [(.ref a1), (.ref a1)])) (fun _ hr => XS.dup X1.here hx rfl (hb hby d16_3) rfl rfl hr) ?_
  refine Go.st (T' := T1) (g' := (mkF m 5 #[.val (.int p0)] [(.int (0 : Int32)), (.ref a1), (.ref a1)])) (fun _ hr => XT.iconstV X1.here hx rfl (0 : Int32) (hb hby d16_4) (by decide) hr) ?_
  refine Go.st (T' := T1) (g' := (mkF m 6 #[.val (.int p0)] [(.int p0), (.int (0 : Int32)), (.ref a1), (.ref a1)])) (fun _ hr => XS.iloadN X1.here hx rfl (hb hby d16_5) rfl hr) ?_
  refine Go.st (T' := T1) (g' := (mkF m 7 #[.val (.int p0)] [(.int (p0).toInt8.toInt32), (.int (0 : Int32)), (.ref a1), (.ref a1)])) (fun _ hr => XT.i2b X1.here hx rfl (hb hby d16_6) rfl hr) ?_
  obtain ⟨cl2, Ar2, qa2, Sz2, Mz2, Hz2, Uz2⟩ := (id V1)
  obtain ⟨T2, h2, X2, e2, W2, st2⟩ := stB X1 hx hZ e1 Ar2 (j := (0 : Int32)) (inb_of Sz2 ⟨by decide, by decide⟩) (g := (mkF m 7 #[.val (.int p0)] [(.int (p0).toInt8.toInt32), (.int (0 : Int32)), (.ref a1), (.ref a1)])) rfl rfl (hb hby d16_7)
  have Z0_q_2 : n0 ≤ h2.size := (Nat.le_trans Z0_q_1 (Keep.of_wr W2).1)
  have fK_q_2 : Keep h0 h2 [] := (fK_q_1.wr W2 (Or.inr hn_a1))
  have V1_q_2 : Arv Z h2 a1 k1 .byte (1 : Int32) [(.int (nar .byte (p0).toInt8.toInt32))] (.int (0 : Int32)) := (Arv.set Ar2 qa2 Sz2 Mz2 Hz2 Uz2 (fits_nar_byte _) W2 0 rfl (Nat.le_of_ble_eq_true rfl))
  have N2 := Fr.snoc X2 (Fr.nil n0) n_a1
  refine Go.st (T' := T2) (g' := (mkF m 8 #[.val (.int p0)] [(.ref a1)])) st2 ?_
  exact Go.retA X2 hx hlk hret rfl rfl (hb hby d16_8) (by decide) (by decide) (by rw [e2]; exact ⟨_, rfl, N2, fK_q_2⟩)
theorem pd_2 : parseMethodDescriptor "([BB)V" = some ⟨[(.array .byte), .byte], none⟩ := by decide +kernel
theorem d17_0 : decode jdk_42_method_151_code 0 = .ok (.aload_n 0, 1) := by decide +kernel
theorem d17_1 : decode jdk_42_method_151_code 1 = .ok (.invokespecial 1, 3) := by decide +kernel
theorem d17_4 : decode jdk_42_method_151_code 4 = .ok (.aload_n 0, 1) := by decide +kernel
theorem d17_5 : decode jdk_42_method_151_code 5 = .ok (.aload_n 1, 1) := by decide +kernel
theorem d17_6 : decode jdk_42_method_151_code 6 = .ok (.putfield 9, 3) := by decide +kernel
theorem d17_9 : decode jdk_42_method_151_code 9 = .ok (.aload_n 0, 1) := by decide +kernel
theorem d17_10 : decode jdk_42_method_151_code 10 = .ok (.iload_n 2, 1) := by decide +kernel
theorem d17_11 : decode jdk_42_method_151_code 11 = .ok (.putfield 15, 3) := by decide +kernel
theorem d17_14 : decode jdk_42_method_151_code 14 = .ok (.return_, 1) := by decide +kernel
theorem pn_1 : plainName "java/lang/String" = true := by first | (simp [plainName, overriddenIn]; done) | decide +kernel
theorem pd_3 : parseMethodDescriptor "()V" = some ⟨[], none⟩ := by decide +kernel
theorem ef_rm17 (m : MethodId) (a : Addr) (v1 : Value) (p2 : Int32) (r_v1 : v1.isRef = true) : entryFrame m #[(.ref a), v1, (.int p2)] 3 = mkF m 0 #[.val (.ref a), .val v1, .val (.int p2)] [] := by rcases XT.refc r_v1 with rfl | ⟨_, rfl⟩ <;> first | (simp [entryFrame, mkF, argsToLocals, Value.category]; done) | rfl
set_option maxRecDepth 65536 in
set_option maxHeartbeats 40000000 in
theorem rm17 (l : Launch) (Z : State) (a0 : Array Value) (hw : ∀ d ∈ tables_1, d.before a0 Z = true) (a : Addr) (v1 : Value) (p2 : Int32) (r_v1 : v1.isRef = true) (h0 : Heap) (n0 : Nat) (ng : n0 ≤ a) (E0 : Exa Z h0 a "java/lang/String") (F0_value : Fld Z h0 a "java/lang/String" "value" "[B" .null) (F0_coder : Fld Z h0 a "java/lang/String" "coder" "B" (.int (0 : Int32))) :
    MetQ l Z (⟨"java/lang/String", "<init>", "([BB)V"⟩ : MethodName) jdk_42_method_151_code 3 none [] ({ frames := 1, cells := 0, slots := 0, locals := 12 } : Room) #[(.ref a), v1, (.int p2)] h0 (fun v h L => v = none ∧ Fr n0 L ∧ Keep h0 h [a] ∧ Fld Z h a "java/lang/String" "value" "[B" v1 ∧ Fld Z h a "java/lang/String" "coder" "B" (.int (nar .byte p2))) := by
  refine MetQ.body (plainFor_of_name pn_1) fun p e s m below meth c s₁ hx hby hml hown hnm hret hlk hZ e0 X0 => Go.cast (ef_rm17 m a v1 p2 r_v1) ?_
  refine Go.st (T' := s₁) (g' := (mkF m 1 #[.val (.ref a), .val v1, .val (.int p2)] [(.ref a)])) (fun _ hr => XS.aloadN X0.here hx rfl (hb hby d17_0) rfl rfl hr) ?_
  obtain ⟨T1, X1, e1, st1⟩ := initO X0 hx hZ hown (hw _ (List.mem_of_getElem? (i := 11) rfl)) (hw _ (List.mem_of_getElem? (i := 12) rfl)) (hw _ (List.mem_of_getElem? (i := 13) rfl)) e0 (g := (mkF m 1 #[.val (.ref a), .val v1, .val (.int p2)] [(.ref a)])) rfl (by rw [hml]; rfl) rfl (hb hby d17_1) (by decide) (W := 0) (by show 2 * 0 + _ ≤ _; exact Nat.le_of_eq rfl) (by decide)
  refine Go.st (T' := T1) (g' := (mkF m 4 #[.val (.ref a), .val v1, .val (.int p2)] [])) st1 ?_
  refine Go.st (T' := T1) (g' := (mkF m 5 #[.val (.ref a), .val v1, .val (.int p2)] [(.ref a)])) (fun _ hr => XS.aloadN X1.here hx rfl (hb hby d17_4) rfl rfl hr) ?_
  refine Go.st (T' := T1) (g' := (mkF m 6 #[.val (.ref a), .val v1, .val (.int p2)] [v1, (.ref a)])) (fun _ hr => XS.aloadN X1.here hx rfl (hb hby d17_5) rfl r_v1 hr) ?_
  obtain ⟨T2, h2, X2, e2, W2, st2⟩ := putF X1 hx hZ hown (host := "") (Or.inl (hw _ (List.mem_of_getElem? (i := 28) rfl))) Via.refl e1 F0_value E0 (Or.inr ⟨(hw _ (List.mem_of_getElem? (i := 29) rfl)), rfl, hnm⟩) (hw _ (List.mem_of_getElem? (i := 1) rfl)) (ty := (.array .byte)) (by decide) (own_narrow_ref r_v1) (own_fits_arr r_v1) (g := (mkF m 6 #[.val (.ref a), .val v1, .val (.int p2)] [v1, (.ref a)])) rfl rfl (hb hby d17_6)
  have F0_value_q_2 : Fld Z h2 a "java/lang/String" "value" "[B" v1 := (F0_value.same W2)
  have F0_coder_q_2 : Fld Z h2 a "java/lang/String" "coder" "B" (.int (0 : Int32)) := (F0_coder.other W2 (Or.inr (slot_ne (Or.inr (hw _ (List.mem_of_getElem? (i := 27) rfl))) (Or.inr (hw _ (List.mem_of_getElem? (i := 29) rfl))) (by decide) (t := .byte) (t' := (.array .byte)) (by decide) (by decide))))
  have E0_q_2 : Exa Z h2 a "java/lang/String" := (E0.wr W2)
  have fK_q_2 : Keep h0 h2 [a] := ((Keep.refl h0 [a]).wr W2 (Or.inl (List.mem_of_getElem? (i := 0) rfl)))
  have N2 := Fr.snoc X2 (Fr.nil n0) ng
  refine Go.st (T' := T2) (g' := (mkF m 9 #[.val (.ref a), .val v1, .val (.int p2)] [])) st2 ?_
  refine Go.st (T' := T2) (g' := (mkF m 10 #[.val (.ref a), .val v1, .val (.int p2)] [(.ref a)])) (fun _ hr => XS.aloadN X2.here hx rfl (hb hby d17_9) rfl rfl hr) ?_
  refine Go.st (T' := T2) (g' := (mkF m 11 #[.val (.ref a), .val v1, .val (.int p2)] [(.int p2), (.ref a)])) (fun _ hr => XS.iloadN X2.here hx rfl (hb hby d17_10) rfl hr) ?_
  obtain ⟨T3, h3, X3, e3, W3, st3⟩ := putFN X2 hx hZ hown (hw _ (List.mem_of_getElem? (i := 26) rfl)) Via.refl e2 F0_coder_q_2 E0_q_2 (Or.inr ⟨(hw _ (List.mem_of_getElem? (i := 27) rfl)), rfl, hnm⟩) (hw _ (List.mem_of_getElem? (i := 1) rfl)) (ty := .byte) (v' := (.int (nar .byte p2))) (by decide) rfl (fits_nar_byte _) (g := (mkF m 11 #[.val (.ref a), .val v1, .val (.int p2)] [(.int p2), (.ref a)])) rfl rfl (hb hby d17_11)
  have F0_value_q_3 : Fld Z h3 a "java/lang/String" "value" "[B" v1 := (F0_value_q_2.other W3 (Or.inr (slot_ne (Or.inr (hw _ (List.mem_of_getElem? (i := 29) rfl))) (Or.inr (hw _ (List.mem_of_getElem? (i := 27) rfl))) (by decide) (t := (.array .byte)) (t' := .byte) (by decide) (by decide))))
  have F0_coder_q_3 : Fld Z h3 a "java/lang/String" "coder" "B" (.int (nar .byte p2)) := (F0_coder_q_2.same W3)
  have E0_q_3 : Exa Z h3 a "java/lang/String" := (E0_q_2.wr W3)
  have fK_q_3 : Keep h0 h3 [a] := (fK_q_2.wr W3 (Or.inl (List.mem_of_getElem? (i := 0) rfl)))
  have N3 := Fr.snoc X3 N2 ng
  refine Go.st (T' := T3) (g' := (mkF m 14 #[.val (.ref a), .val v1, .val (.int p2)] [])) st3 ?_
  exact Go.retV X3 hx hlk hret (hb hby d17_14) (by decide) (by decide) (by rw [e3]; exact ⟨rfl, N3, fK_q_3, F0_value_q_3, F0_coder_q_3⟩)
theorem own_c16 (x : Int32) : (x.toUInt32.toUInt16.toUInt32.toInt32).toInt = x.toInt % 65536 := by
  have h : ∀ u : UInt16, (u.toUInt32.toInt32).toInt = u.toNat := fun u => by
    have hu := u.toNat_lt
    have e : (u.toUInt32.toInt32).toInt = u.toUInt32.toBitVec.toInt := rfl
    have e2 : u.toUInt32.toBitVec.toNat = u.toNat := UInt16.toNat_toUInt32 u
    rw [e, BitVec.toInt_eq_toNat_cond, e2, if_pos (by omega)]
  rw [h]
  have e1 : x.toUInt32.toUInt16.toNat = x.toUInt32.toNat % 2 ^ 16 := UInt32.toNat_toUInt16 _
  have e2 : x.toUInt32.toNat = x.toBitVec.toNat := rfl
  have e3 : x.toInt = x.toBitVec.toInt := rfl
  have hx := x.toBitVec.isLt
  rw [e1, e2, e3, BitVec.toInt_eq_toNat_cond]
  split <;> omega
theorem own_c255 (x : Int32) : ¬ (255 : Int32) < ((x &&& (255 : Int32))).toUInt32.toUInt16.toUInt32.toInt32 := by
  have e := own_c16 (x &&& (255 : Int32))
  have m : (x &&& (255 : Int32)).toInt = x.toInt % 2 ^ 8 := Jvm.Kit.i32_mask x 255 (k := 8) (by decide) (by decide)
  rw [Int32.lt_iff_toInt_lt, e, m]
  have k : (255 : Int32).toInt = 255 := by decide
  rw [k]; omega
theorem own_enc {c : Int32} (h : ¬ (255 : Int32) < c) : ¬ f15 c = (0 : Int32) := by
  unfold f15; rw [if_neg h]; decide
theorem pd_4 : parseMethodDescriptor "(C)Ljava/lang/String;" = some ⟨[.char], some (.object "java/lang/String")⟩ := by decide +kernel
theorem d14_0 : decode jdk_42_method_139_code 0 = .ok (.getstatic 38, 3) := by decide +kernel
theorem d14_3 : decode jdk_42_method_139_code 3 = .ok (.ifCond .eq 23, 3) := by decide +kernel
theorem d14_6 : decode jdk_42_method_139_code 6 = .ok (.iload_n 0, 1) := by decide +kernel
theorem d14_7 : decode jdk_42_method_139_code 7 = .ok (.invokestatic 1015, 3) := by decide +kernel
theorem d14_10 : decode jdk_42_method_139_code 10 = .ok (.ifCond .eq 16, 3) := by decide +kernel
theorem d14_13 : decode jdk_42_method_139_code 13 = .ok (.new 10, 3) := by decide +kernel
theorem d14_16 : decode jdk_42_method_139_code 16 = .ok (.dup, 1) := by decide +kernel
theorem d14_17 : decode jdk_42_method_139_code 17 = .ok (.iload_n 0, 1) := by decide +kernel
theorem d14_18 : decode jdk_42_method_139_code 18 = .ok (.invokestatic 1018, 3) := by decide +kernel
theorem d14_21 : decode jdk_42_method_139_code 21 = .ok (.iconst 0, 1) := by decide +kernel
theorem d14_22 : decode jdk_42_method_139_code 22 = .ok (.invokespecial 209, 3) := by decide +kernel
theorem d14_25 : decode jdk_42_method_139_code 25 = .ok (.areturn, 1) := by decide +kernel
theorem d14_26 : decode jdk_42_method_139_code 26 = .ok (.new 10, 3) := by decide +kernel
theorem d14_29 : decode jdk_42_method_139_code 29 = .ok (.dup, 1) := by decide +kernel
theorem d14_30 : decode jdk_42_method_139_code 30 = .ok (.iload_n 0, 1) := by decide +kernel
theorem d14_31 : decode jdk_42_method_139_code 31 = .ok (.invokestatic 1021, 3) := by decide +kernel
theorem d14_34 : decode jdk_42_method_139_code 34 = .ok (.iconst 1, 1) := by decide +kernel
theorem d14_35 : decode jdk_42_method_139_code 35 = .ok (.invokespecial 209, 3) := by decide +kernel
theorem d14_38 : decode jdk_42_method_139_code 38 = .ok (.areturn, 1) := by decide +kernel
theorem ef_rm14 (m : MethodId) (p0 : Int32)  : entryFrame m #[(.int p0)] 1 = mkF m 0 #[.val (.int p0)] [] := by first | (simp [entryFrame, mkF, argsToLocals, Value.category]; done) | rfl
set_option maxRecDepth 65536 in
set_option maxHeartbeats 40000000 in
theorem rm14 (l : Launch) (Z : State) (a0 : Array Value) (hw : ∀ d ∈ tables_1, d.before a0 Z = true) (p0 : Int32) (w : Int32)  (h0 : Heap) (hc : ¬ (255 : Int32) < p0) (hcs : ¬ w = (0 : Int32)) (S0 : Sta Z h0 "java/lang/String" "COMPACT_STRINGS" "Z" (.int w)) (n0 : Nat) (Z0 : n0 ≤ h0.size) :
    MetQ l Z (⟨"java/lang/String", "valueOf", "(C)Ljava/lang/String;"⟩ : MethodName) jdk_42_method_139_code 1 (some (.object "java/lang/String")) [] ({ frames := 2, cells := 2, slots := 5, locals := 27 } : Room) #[(.int p0)] h0 (fun v h L => ∃ a, v = some (.ref a) ∧ Fr n0 L ∧ Keep h0 h []) := by
  refine MetQ.body (plainFor_of_name pn_1) fun p e s m below meth c s₁ hx hby hml hown hnm hret hlk hZ e0 X0 => Go.cast (ef_rm14 m p0) ?_
  obtain ⟨T1, X1, e1, st1⟩ := getS2 X0 hx hZ hown (host := "") (Or.inl (hw _ (List.mem_of_getElem? (i := 14) rfl))) Via.refl e0 S0 (g := (mkF m 0 #[.val (.int p0)] [])) rfl (hb hby d14_0)
  refine Go.st (T' := T1) (g' := (mkF m 3 #[.val (.int p0)] [(.int w)])) st1 ?_
  refine Go.st (T' := T1) (g' := (mkF m 6 #[.val (.int p0)] [])) (fun _ hr => XS.ifNo X1.here hx rfl (hb hby d14_3) rfl (XT.i0_eq_f hcs) hr) ?_
  refine Go.st (T' := T1) (g' := (mkF m 7 #[.val (.int p0)] [(.int p0)])) (fun _ hr => XS.iloadN X1.here hx rfl (hb hby d14_6) rfl hr) ?_
  refine Go.callP X1 hx hZ hown (W := 0) (hw _ (List.mem_of_getElem? (i := 105) rfl)) (hw _ (List.mem_of_getElem? (i := 106) rfl)) (hw _ (List.mem_of_getElem? (i := 107) rfl)) (hw _ (List.mem_of_getElem? (i := 108) rfl)) (by decide) e1 (rm15 l Z a0 hw p0 h0) (by decide) (by decide) (by decide) (by decide) (g := (mkF m 7 #[.val (.int p0)] [(.int p0)])) rfl (by rw [hml]; rfl) (argsL := [(.int p0)]) (rest := []) (lenOf pd_0 rfl) rfl (by show 2 * 0 + _ ≤ _; exact Nat.le_of_eq rfl) (hb hby d14_7) (fun T2 X2 e2 => ?_)
  show Go p.tables e below (Fin s (fun v h L => ∃ a, v = some (.ref a) ∧ Fr n0 L ∧ Keep h0 h []) ({ frames := 2, cells := 2, slots := 5, locals := 27 } : Room).cells ({ frames := 2, cells := 2, slots := 5, locals := 27 } : Room).slots) T2 (mkF m 10 #[.val (.int p0)] [(.int (f15 p0))])
  refine Go.st (T' := T2) (g' := (mkF m 13 #[.val (.int p0)] [])) (fun _ hr => XS.ifNo X2.here hx rfl (hb hby d14_10) rfl (XT.i0_eq_f (own_enc hc)) hr) ?_
  obtain ⟨T3, h3, X3, e3, E3, A3, D3, -, st3⟩ := newO X2 hx hZ hown (hw _ (List.mem_of_getElem? (i := 109) rfl)) (hw _ (List.mem_of_getElem? (i := 1) rfl)) (hw _ (List.mem_of_getElem? (i := 2) rfl)) e2 (g := (mkF m 13 #[.val (.int p0)] [])) rfl (hb hby d14_13) (by decide) (by decide)
  obtain ⟨a3, g3⟩ : ∃ z, z = h0.size := ⟨_, rfl⟩
  rw [← g3] at A3 D3 st3
  have n_a3 : n0 ≤ a3 := Nat.le_trans Z0 (Nat.le_of_eq g3.symm)
  have hn_a3 : h0.size ≤ a3 := Nat.le_trans (Keep.refl h0 []).1 (Nat.le_of_eq g3.symm)
  have Z0_q_3 : n0 ≤ h3.size := (Nat.le_trans Z0 E3.1)
  have fK_q_3 : Keep h0 h3 [] := ((Keep.refl h0 []).ext E3)
  have S0_q_3 : Sta Z h3 "java/lang/String" "COMPACT_STRINGS" "Z" (.int w) := (S0.ext E3)
  have F3_coder : Fld Z h3 a3 "java/lang/String" "coder" "B" (.int (0 : Int32)) := D3 (Or.inr (hw _ (List.mem_of_getElem? (i := 27) rfl))) (ty := .byte) (by decide)
  have F3_value : Fld Z h3 a3 "java/lang/String" "value" "[B" .null := D3 (Or.inr (hw _ (List.mem_of_getElem? (i := 29) rfl))) (ty := (.array .byte)) (by decide)
  refine Go.st (T' := T3) (g' := (mkF m 16 #[.val (.int p0)] [(.ref a3)])) st3 ?_
  refine Go.st (T' := T3) (g' := (mkF m 17 #[.val (.int p0)] [(.ref a3), (.ref a3)])) (fun _ hr => XS.dup X3.here hx rfl (hb hby d14_16) rfl rfl hr) ?_
  refine Go.st (T' := T3) (g' := (mkF m 18 #[.val (.int p0)] [(.int p0), (.ref a3), (.ref a3)])) (fun _ hr => XS.iloadN X3.here hx rfl (hb hby d14_17) rfl hr) ?_
  refine Go.callS X3 hx hZ hown (W := 2) (hw _ (List.mem_of_getElem? (i := 110) rfl)) (hw _ (List.mem_of_getElem? (i := 111) rfl)) (hw _ (List.mem_of_getElem? (i := 107) rfl)) (hw _ (List.mem_of_getElem? (i := 112) rfl)) (by decide) e3 (rm16 l Z a0 hw p0 h3 n0 Z0_q_3) (by decide) (by decide) (by decide) (by decide) (g := (mkF m 18 #[.val (.int p0)] [(.int p0), (.ref a3), (.ref a3)])) rfl (by rw [hml]; rfl) (argsL := [(.int p0)]) (rest := [(.ref a3), (.ref a3)]) (lenOf pd_1 rfl) rfl (by show 2 * 0 + _ ≤ _; exact Nat.le_of_eq rfl) (hb hby d14_18) (fun v4 T4 L4 X4 q4 => ?_)
  obtain ⟨h4, e4⟩ : ∃ z, T4.heap = z := ⟨_, rfl⟩
  rw [e4] at q4
  obtain ⟨a4, rfl, N4q, K4⟩ := q4
  have N4 := Fr.app (Fr.nil n0) N4q
  have Z0_q_4 : n0 ≤ h4.size := (Nat.le_trans Z0_q_3 K4.1)
  have fK_q_4 : Keep h0 h4 [] := (fK_q_3.trans K4 all0)
  have A3_q_4 : Exa Z h4 a3 "java/lang/String" := (A3.keep K4)
  have F3_coder_q_4 : Fld Z h4 a3 "java/lang/String" "coder" "B" (.int (0 : Int32)) := (F3_coder.keep K4 nin0)
  have F3_value_q_4 : Fld Z h4 a3 "java/lang/String" "value" "[B" .null := (F3_value.keep K4 nin0)
  show Go p.tables e below (Fin s (fun v h L => ∃ a, v = some (.ref a) ∧ Fr n0 L ∧ Keep h0 h []) ({ frames := 2, cells := 2, slots := 5, locals := 27 } : Room).cells ({ frames := 2, cells := 2, slots := 5, locals := 27 } : Room).slots) T4 (mkF m 21 #[.val (.int p0)] [(.ref a4), (.ref a3), (.ref a3)])
  refine Go.st (T' := T4) (g' := (mkF m 22 #[.val (.int p0)] [(.int (0 : Int32)), (.ref a4), (.ref a3), (.ref a3)])) (fun _ hr => XT.iconstV X4.here hx rfl (0 : Int32) (hb hby d14_21) (by decide) hr) ?_
  refine Go.callC X4 hx hZ hown (W := 1) (y := (⟨"java/lang/String", "<init>", "([BB)V"⟩ : MethodName)) rfl (hw _ (List.mem_of_getElem? (i := 113) rfl)) (hw _ (List.mem_of_getElem? (i := 114) rfl)) (hw _ (List.mem_of_getElem? (i := 2) rfl)) (hw _ (List.mem_of_getElem? (i := 115) rfl)) (by decide) e4 (rm17 l Z a0 hw a3 (.ref a4) (0 : Int32)  rfl h4 n0 n_a3 A3_q_4 F3_value_q_4 F3_coder_q_4) (by decide) (by decide) (by decide) (by decide) (g := (mkF m 22 #[.val (.int p0)] [(.int (0 : Int32)), (.ref a4), (.ref a3), (.ref a3)])) rfl (by rw [hml]; rfl) (argsL := [(.ref a4), (.int (0 : Int32))]) (rest := [(.ref a3)]) (lenOf pd_2 rfl) rfl (by show 2 * 0 + _ ≤ _; exact Nat.le_of_eq rfl) (hb hby d14_22) (fun v5 T5 L5 X5 q5 => ?_)
  obtain ⟨h5, e5⟩ : ∃ z, T5.heap = z := ⟨_, rfl⟩
  rw [e5] at q5
  obtain ⟨rfl, N5q, K5, G5_value, G5_coder⟩ := q5
  have N5 := Fr.app N4 N5q
  have Z0_q_5 : n0 ≤ h5.size := (Nat.le_trans Z0_q_4 K5.1)
  have fK_q_5 : Keep h0 h5 [] := (fK_q_4.trans K5 (allS (Or.inr hn_a3) all0))
  have A3_q_5 : Exa Z h5 a3 "java/lang/String" := (A3_q_4.keep K5)
  show Go p.tables e below (Fin s (fun v h L => ∃ a, v = some (.ref a) ∧ Fr n0 L ∧ Keep h0 h []) ({ frames := 2, cells := 2, slots := 5, locals := 27 } : Room).cells ({ frames := 2, cells := 2, slots := 5, locals := 27 } : Room).slots) T5 (mkF m 25 #[.val (.int p0)] [(.ref a3)])
  exact Go.retA X5 hx hlk hret rfl rfl (hb hby d14_25) (by decide) (by decide) (by rw [e5]; exact ⟨_, rfl, N5, fK_q_5⟩)
theorem own_c255n (x : Int32) : ¬ (255 : Int32) < (nar .char ((x &&& (255 : Int32))).toUInt32.toUInt16.toUInt32.toInt32) := by
  show ¬ (255 : Int32) < (((x &&& (255 : Int32))).toUInt32.toUInt16.toUInt32.toInt32).toUInt32.toUInt16.toUInt32.toInt32
  have m : (x &&& (255 : Int32)).toInt = x.toInt % 2 ^ 8 := Jvm.Kit.i32_mask x 255 (k := 8) (by decide) (by decide)
  rw [Int32.lt_iff_toInt_lt, own_c16, own_c16, m]
  have k : (255 : Int32).toInt = 255 := by decide
  rw [k]; omega
theorem pd_5 : parseMethodDescriptor "([CI[BII)I" = some ⟨[(.array .char), .int, (.array .byte), .int, .int], some .int⟩ := by decide +kernel
theorem d5_0 : decode jdk_52_method_21_code 0 = .ok (.iconst 0, 1) := by decide +kernel
theorem d5_1 : decode jdk_52_method_21_code 1 = .ok (.istore 5, 2) := by decide +kernel
theorem d5_3 : decode jdk_52_method_21_code 3 = .ok (.iload 5, 2) := by decide +kernel
theorem d5_5 : decode jdk_52_method_21_code 5 = .ok (.iload 4, 2) := by decide +kernel
theorem d5_7 : decode jdk_52_method_21_code 7 = .ok (.if_icmp .ge 37, 3) := by decide +kernel
theorem d5_10 : decode jdk_52_method_21_code 10 = .ok (.aload_n 0, 1) := by decide +kernel
theorem d5_11 : decode jdk_52_method_21_code 11 = .ok (.iload_n 1, 1) := by decide +kernel
theorem d5_12 : decode jdk_52_method_21_code 12 = .ok (.caload, 1) := by decide +kernel
theorem d5_13 : decode jdk_52_method_21_code 13 = .ok (.istore 6, 2) := by decide +kernel
theorem d5_15 : decode jdk_52_method_21_code 15 = .ok (.iload 6, 2) := by decide +kernel
theorem d5_17 : decode jdk_52_method_21_code 17 = .ok (.sipush 255, 3) := by decide +kernel
theorem d5_20 : decode jdk_52_method_21_code 20 = .ok (.if_icmp .le 6, 3) := by decide +kernel
theorem d5_23 : decode jdk_52_method_21_code 23 = .ok (.iload 5, 2) := by decide +kernel
theorem d5_25 : decode jdk_52_method_21_code 25 = .ok (.ireturn, 1) := by decide +kernel
theorem d5_26 : decode jdk_52_method_21_code 26 = .ok (.aload_n 2, 1) := by decide +kernel
theorem d5_27 : decode jdk_52_method_21_code 27 = .ok (.iload_n 3, 1) := by decide +kernel
theorem d5_28 : decode jdk_52_method_21_code 28 = .ok (.iload 6, 2) := by decide +kernel
theorem d5_30 : decode jdk_52_method_21_code 30 = .ok (.i2b, 1) := by decide +kernel
theorem d5_31 : decode jdk_52_method_21_code 31 = .ok (.bastore, 1) := by decide +kernel
theorem d5_32 : decode jdk_52_method_21_code 32 = .ok (.iinc 1 1, 3) := by decide +kernel
theorem d5_35 : decode jdk_52_method_21_code 35 = .ok (.iinc 3 1, 3) := by decide +kernel
theorem d5_38 : decode jdk_52_method_21_code 38 = .ok (.iinc 5 1, 3) := by decide +kernel
theorem d5_41 : decode jdk_52_method_21_code 41 = .ok (.goto (-38), 3) := by decide +kernel
theorem d5_44 : decode jdk_52_method_21_code 44 = .ok (.iload 4, 2) := by decide +kernel
theorem d5_46 : decode jdk_52_method_21_code 46 = .ok (.ireturn, 1) := by decide +kernel
theorem pn_2 : plainName "java/lang/StringUTF16" = true := by first | (simp [plainName, overriddenIn]; done) | decide +kernel
theorem ef_rm5_2 (m : MethodId) (a : Addr) (b : Addr)  : entryFrame m #[(.ref a), (.int (0 : Int32)), (.ref b), (.int (0 : Int32)), (.int (2 : Int32))] 7 = mkF m 0 #[.val (.ref a), .val (.int (0 : Int32)), .val (.ref b), .val (.int (0 : Int32)), .val (.int (2 : Int32)), .unset, .unset] [] := by first | (simp [entryFrame, mkF, argsToLocals, Value.category]; done) | rfl
set_option maxRecDepth 65536 in
set_option maxHeartbeats 40000000 in
theorem rm5_2 (l : Launch) (Z : State) (a0 : Array Value) (hw : ∀ d ∈ tables_1, d.before a0 Z = true) (a : Addr) (b : Addr) (c0 : Int32) (c1 : Int32) (ka : ClassId) (kb : ClassId)  (h0 : Heap) (n0 : Nat) (nb : n0 ≤ b) (nab : a ≠ b) (Va : Arv Z h0 a ka .char (2 : Int32) [(.int c0), (.int c1)] (.int (0 : Int32))) (Vb : Arv Z h0 b kb .byte (2 : Int32) [(.int (0 : Int32)), (.int (0 : Int32))] (.int (0 : Int32))) (hc0 : ¬ (255 : Int32) < c0) (hc1 : ¬ (255 : Int32) < c1) :
    MetQ l Z (⟨"java/lang/StringUTF16", "compress", "([CI[BII)I"⟩ : MethodName) jdk_52_method_21_code 7 (some .int) [] ({ frames := 0, cells := 0, slots := 0, locals := 0 } : Room) #[(.ref a), (.int (0 : Int32)), (.ref b), (.int (0 : Int32)), (.int (2 : Int32))] h0 (fun v h L => v = some (.int (2 : Int32)) ∧ Fr n0 L ∧ Keep h0 h [b] ∧ Arv Z h b kb .byte (2 : Int32) [(.int (nar .byte (c0).toInt8.toInt32)), (.int (nar .byte (c1).toInt8.toInt32))] (.int (0 : Int32))) := by
  refine MetQ.body (plainFor_of_name pn_2) fun p e s m below meth c s₁ hx hby hml hown hnm hret hlk hZ e0 X0 => Go.cast (ef_rm5_2 m a b) ?_
  refine Go.st (T' := s₁) (g' := (mkF m 1 #[.val (.ref a), .val (.int (0 : Int32)), .val (.ref b), .val (.int (0 : Int32)), .val (.int (2 : Int32)), .unset, .unset] [(.int (0 : Int32))])) (fun _ hr => XT.iconstV X0.here hx rfl (0 : Int32) (hb hby d5_0) (by decide) hr) ?_
  refine Go.st (T' := s₁) (g' := (mkF m 3 #[.val (.ref a), .val (.int (0 : Int32)), .val (.ref b), .val (.int (0 : Int32)), .val (.int (2 : Int32)), .val (.int (0 : Int32)), .unset] [])) (fun _ hr => XS.istore X0.here hx rfl (hb hby d5_1) rfl (l' := #[.val (.ref a), .val (.int (0 : Int32)), .val (.ref b), .val (.int (0 : Int32)), .val (.int (2 : Int32)), .val (.int (0 : Int32)), .unset]) rfl hr) ?_
  refine Go.st (T' := s₁) (g' := (mkF m 5 #[.val (.ref a), .val (.int (0 : Int32)), .val (.ref b), .val (.int (0 : Int32)), .val (.int (2 : Int32)), .val (.int (0 : Int32)), .unset] [(.int (0 : Int32))])) (fun _ hr => XS.iload X0.here hx rfl (hb hby d5_3) rfl hr) ?_
  refine Go.st (T' := s₁) (g' := (mkF m 7 #[.val (.ref a), .val (.int (0 : Int32)), .val (.ref b), .val (.int (0 : Int32)), .val (.int (2 : Int32)), .val (.int (0 : Int32)), .unset] [(.int (2 : Int32)), (.int (0 : Int32))])) (fun _ hr => XS.iload X0.here hx rfl (hb hby d5_5) rfl hr) ?_
  refine Go.st (T' := s₁) (g' := (mkF m 10 #[.val (.ref a), .val (.int (0 : Int32)), .val (.ref b), .val (.int (0 : Int32)), .val (.int (2 : Int32)), .val (.int (0 : Int32)), .unset] [])) (fun _ hr => XS.icmpNo X0.here hx rfl (hb hby d5_7) rfl (XT.ii_ge_f (by decide)) hr) ?_
  refine Go.st (T' := s₁) (g' := (mkF m 11 #[.val (.ref a), .val (.int (0 : Int32)), .val (.ref b), .val (.int (0 : Int32)), .val (.int (2 : Int32)), .val (.int (0 : Int32)), .unset] [(.ref a)])) (fun _ hr => XS.aloadN X0.here hx rfl (hb hby d5_10) rfl rfl hr) ?_
  refine Go.st (T' := s₁) (g' := (mkF m 12 #[.val (.ref a), .val (.int (0 : Int32)), .val (.ref b), .val (.int (0 : Int32)), .val (.int (2 : Int32)), .val (.int (0 : Int32)), .unset] [(.int (0 : Int32)), (.ref a)])) (fun _ hr => XS.iloadN X0.here hx rfl (hb hby d5_11) rfl hr) ?_
  obtain ⟨cl1, Ar1, qa1, Sz1, Mz1, Hz1, Uz1⟩ := (id Va)
  refine Go.st (T' := s₁) (g' := (mkF m 13 #[.val (.ref a), .val (.int (0 : Int32)), .val (.ref b), .val (.int (0 : Int32)), .val (.int (2 : Int32)), .val (.int (0 : Int32)), .unset] [(.int c0)])) (fun t hr => X0.caload hx (j := (0 : Int32)) (v := (.int c0)) (by rw [e0]; exact Ar1.1) (State.isArrayOf_alike hZ.alike Ar1.2.1) Ar1.2.2 (inb_of Sz1 ⟨by decide, by decide⟩) (Hz1.at (inb_of Sz1 ⟨by decide, by decide⟩) rfl) (g := (mkF m 12 #[.val (.ref a), .val (.int (0 : Int32)), .val (.ref b), .val (.int (0 : Int32)), .val (.int (2 : Int32)), .val (.int (0 : Int32)), .unset] [(.int (0 : Int32)), (.ref a)])) rfl rfl (hb hby d5_12) t hr) ?_
  refine Go.st (T' := s₁) (g' := (mkF m 15 #[.val (.ref a), .val (.int (0 : Int32)), .val (.ref b), .val (.int (0 : Int32)), .val (.int (2 : Int32)), .val (.int (0 : Int32)), .val (.int c0)] [])) (fun _ hr => XS.istore X0.here hx rfl (hb hby d5_13) rfl (l' := #[.val (.ref a), .val (.int (0 : Int32)), .val (.ref b), .val (.int (0 : Int32)), .val (.int (2 : Int32)), .val (.int (0 : Int32)), .val (.int c0)]) rfl hr) ?_
  refine Go.st (T' := s₁) (g' := (mkF m 17 #[.val (.ref a), .val (.int (0 : Int32)), .val (.ref b), .val (.int (0 : Int32)), .val (.int (2 : Int32)), .val (.int (0 : Int32)), .val (.int c0)] [(.int c0)])) (fun _ hr => XS.iload X0.here hx rfl (hb hby d5_15) rfl hr) ?_
  refine Go.st (T' := s₁) (g' := (mkF m 20 #[.val (.ref a), .val (.int (0 : Int32)), .val (.ref b), .val (.int (0 : Int32)), .val (.int (2 : Int32)), .val (.int (0 : Int32)), .val (.int c0)] [(.int (255 : Int32)), (.int c0)])) (fun _ hr => XT.sipushV X0.here hx rfl (255 : Int32) (hb hby d5_17) (by decide) hr) ?_
  refine Go.st (T' := s₁) (g' := (mkF m 26 #[.val (.ref a), .val (.int (0 : Int32)), .val (.ref b), .val (.int (0 : Int32)), .val (.int (2 : Int32)), .val (.int (0 : Int32)), .val (.int c0)] [])) (fun _ hr => XS.icmpYes X0.here hx rfl (pc0 := 20) (pc' := 26) rfl (hb hby d5_20) rfl (XT.ii_le_t hc0) (by decide) (by decide) hr) ?_
  refine Go.st (T' := s₁) (g' := (mkF m 27 #[.val (.ref a), .val (.int (0 : Int32)), .val (.ref b), .val (.int (0 : Int32)), .val (.int (2 : Int32)), .val (.int (0 : Int32)), .val (.int c0)] [(.ref b)])) (fun _ hr => XS.aloadN X0.here hx rfl (hb hby d5_26) rfl rfl hr) ?_
  refine Go.st (T' := s₁) (g' := (mkF m 28 #[.val (.ref a), .val (.int (0 : Int32)), .val (.ref b), .val (.int (0 : Int32)), .val (.int (2 : Int32)), .val (.int (0 : Int32)), .val (.int c0)] [(.int (0 : Int32)), (.ref b)])) (fun _ hr => XS.iloadN X0.here hx rfl (hb hby d5_27) rfl hr) ?_
  refine Go.st (T' := s₁) (g' := (mkF m 30 #[.val (.ref a), .val (.int (0 : Int32)), .val (.ref b), .val (.int (0 : Int32)), .val (.int (2 : Int32)), .val (.int (0 : Int32)), .val (.int c0)] [(.int c0), (.int (0 : Int32)), (.ref b)])) (fun _ hr => XS.iload X0.here hx rfl (hb hby d5_28) rfl hr) ?_
  refine Go.st (T' := s₁) (g' := (mkF m 31 #[.val (.ref a), .val (.int (0 : Int32)), .val (.ref b), .val (.int (0 : Int32)), .val (.int (2 : Int32)), .val (.int (0 : Int32)), .val (.int c0)] [(.int (c0).toInt8.toInt32), (.int (0 : Int32)), (.ref b)])) (fun _ hr => XT.i2b X0.here hx rfl (hb hby d5_30) rfl hr) ?_
  obtain ⟨cl2, Ar2, qa2, Sz2, Mz2, Hz2, Uz2⟩ := (id Vb)
  obtain ⟨T2, h2, X2, e2, W2, st2⟩ := stB X0 hx hZ e0 Ar2 (j := (0 : Int32)) (inb_of Sz2 ⟨by decide, by decide⟩) (g := (mkF m 31 #[.val (.ref a), .val (.int (0 : Int32)), .val (.ref b), .val (.int (0 : Int32)), .val (.int (2 : Int32)), .val (.int (0 : Int32)), .val (.int c0)] [(.int (c0).toInt8.toInt32), (.int (0 : Int32)), (.ref b)])) rfl rfl (hb hby d5_31)
  have fK_q_2 : Keep h0 h2 [b] := ((Keep.refl h0 [b]).wr W2 (Or.inl (List.mem_of_getElem? (i := 0) rfl)))
  have Va_q_2 : Arv Z h2 a ka .char (2 : Int32) [(.int c0), (.int c1)] (.int (0 : Int32)) := (Va.other W2 nab)
  have Vb_q_2 : Arv Z h2 b kb .byte (2 : Int32) [(.int (nar .byte (c0).toInt8.toInt32)), (.int (0 : Int32))] (.int (0 : Int32)) := (Arv.set Ar2 qa2 Sz2 Mz2 Hz2 Uz2 (fits_nar_byte _) W2 0 rfl (Nat.le_of_ble_eq_true rfl))
  have N2 := Fr.snoc X2 (Fr.nil n0) nb
  refine Go.st (T' := T2) (g' := (mkF m 32 #[.val (.ref a), .val (.int (0 : Int32)), .val (.ref b), .val (.int (0 : Int32)), .val (.int (2 : Int32)), .val (.int (0 : Int32)), .val (.int c0)] [])) st2 ?_
  refine Go.st (T' := T2) (g' := (mkF m 35 #[.val (.ref a), .val (.int (1 : Int32)), .val (.ref b), .val (.int (0 : Int32)), .val (.int (2 : Int32)), .val (.int (0 : Int32)), .val (.int c0)] [])) (fun _ hr => XT.iincV X2.here hx rfl (1 : Int32) (hb hby d5_32) (by decide) rfl (l' := #[.val (.ref a), .val (.int (1 : Int32)), .val (.ref b), .val (.int (0 : Int32)), .val (.int (2 : Int32)), .val (.int (0 : Int32)), .val (.int c0)]) rfl hr) ?_
  refine Go.st (T' := T2) (g' := (mkF m 38 #[.val (.ref a), .val (.int (1 : Int32)), .val (.ref b), .val (.int (1 : Int32)), .val (.int (2 : Int32)), .val (.int (0 : Int32)), .val (.int c0)] [])) (fun _ hr => XT.iincV X2.here hx rfl (1 : Int32) (hb hby d5_35) (by decide) rfl (l' := #[.val (.ref a), .val (.int (1 : Int32)), .val (.ref b), .val (.int (1 : Int32)), .val (.int (2 : Int32)), .val (.int (0 : Int32)), .val (.int c0)]) rfl hr) ?_
  refine Go.st (T' := T2) (g' := (mkF m 41 #[.val (.ref a), .val (.int (1 : Int32)), .val (.ref b), .val (.int (1 : Int32)), .val (.int (2 : Int32)), .val (.int (1 : Int32)), .val (.int c0)] [])) (fun _ hr => XT.iincV X2.here hx rfl (1 : Int32) (hb hby d5_38) (by decide) rfl (l' := #[.val (.ref a), .val (.int (1 : Int32)), .val (.ref b), .val (.int (1 : Int32)), .val (.int (2 : Int32)), .val (.int (1 : Int32)), .val (.int c0)]) rfl hr) ?_
  refine Go.st (T' := T2) (g' := (mkF m 3 #[.val (.ref a), .val (.int (1 : Int32)), .val (.ref b), .val (.int (1 : Int32)), .val (.int (2 : Int32)), .val (.int (1 : Int32)), .val (.int c0)] [])) (fun _ hr => XS.goto X2.here hx rfl (pc0 := 41) (pc' := 3) rfl (hb hby d5_41) (by decide) (by decide) hr) ?_
  refine Go.st (T' := T2) (g' := (mkF m 5 #[.val (.ref a), .val (.int (1 : Int32)), .val (.ref b), .val (.int (1 : Int32)), .val (.int (2 : Int32)), .val (.int (1 : Int32)), .val (.int c0)] [(.int (1 : Int32))])) (fun _ hr => XS.iload X2.here hx rfl (hb hby d5_3) rfl hr) ?_
  refine Go.st (T' := T2) (g' := (mkF m 7 #[.val (.ref a), .val (.int (1 : Int32)), .val (.ref b), .val (.int (1 : Int32)), .val (.int (2 : Int32)), .val (.int (1 : Int32)), .val (.int c0)] [(.int (2 : Int32)), (.int (1 : Int32))])) (fun _ hr => XS.iload X2.here hx rfl (hb hby d5_5) rfl hr) ?_
  refine Go.st (T' := T2) (g' := (mkF m 10 #[.val (.ref a), .val (.int (1 : Int32)), .val (.ref b), .val (.int (1 : Int32)), .val (.int (2 : Int32)), .val (.int (1 : Int32)), .val (.int c0)] [])) (fun _ hr => XS.icmpNo X2.here hx rfl (hb hby d5_7) rfl (XT.ii_ge_f (by decide)) hr) ?_
  refine Go.st (T' := T2) (g' := (mkF m 11 #[.val (.ref a), .val (.int (1 : Int32)), .val (.ref b), .val (.int (1 : Int32)), .val (.int (2 : Int32)), .val (.int (1 : Int32)), .val (.int c0)] [(.ref a)])) (fun _ hr => XS.aloadN X2.here hx rfl (hb hby d5_10) rfl rfl hr) ?_
  refine Go.st (T' := T2) (g' := (mkF m 12 #[.val (.ref a), .val (.int (1 : Int32)), .val (.ref b), .val (.int (1 : Int32)), .val (.int (2 : Int32)), .val (.int (1 : Int32)), .val (.int c0)] [(.int (1 : Int32)), (.ref a)])) (fun _ hr => XS.iloadN X2.here hx rfl (hb hby d5_11) rfl hr) ?_
  obtain ⟨cl3, Ar3, qa3, Sz3, Mz3, Hz3, Uz3⟩ := (id Va_q_2)
  refine Go.st (T' := T2) (g' := (mkF m 13 #[.val (.ref a), .val (.int (1 : Int32)), .val (.ref b), .val (.int (1 : Int32)), .val (.int (2 : Int32)), .val (.int (1 : Int32)), .val (.int c0)] [(.int c1)])) (fun t hr => X2.caload hx (j := (1 : Int32)) (v := (.int c1)) (by rw [e2]; exact Ar3.1) (State.isArrayOf_alike hZ.alike Ar3.2.1) Ar3.2.2 (inb_of Sz3 ⟨by decide, by decide⟩) (Hz3.at (inb_of Sz3 ⟨by decide, by decide⟩) rfl) (g := (mkF m 12 #[.val (.ref a), .val (.int (1 : Int32)), .val (.ref b), .val (.int (1 : Int32)), .val (.int (2 : Int32)), .val (.int (1 : Int32)), .val (.int c0)] [(.int (1 : Int32)), (.ref a)])) rfl rfl (hb hby d5_12) t hr) ?_
  refine Go.st (T' := T2) (g' := (mkF m 15 #[.val (.ref a), .val (.int (1 : Int32)), .val (.ref b), .val (.int (1 : Int32)), .val (.int (2 : Int32)), .val (.int (1 : Int32)), .val (.int c1)] [])) (fun _ hr => XS.istore X2.here hx rfl (hb hby d5_13) rfl (l' := #[.val (.ref a), .val (.int (1 : Int32)), .val (.ref b), .val (.int (1 : Int32)), .val (.int (2 : Int32)), .val (.int (1 : Int32)), .val (.int c1)]) rfl hr) ?_
  refine Go.st (T' := T2) (g' := (mkF m 17 #[.val (.ref a), .val (.int (1 : Int32)), .val (.ref b), .val (.int (1 : Int32)), .val (.int (2 : Int32)), .val (.int (1 : Int32)), .val (.int c1)] [(.int c1)])) (fun _ hr => XS.iload X2.here hx rfl (hb hby d5_15) rfl hr) ?_
  refine Go.st (T' := T2) (g' := (mkF m 20 #[.val (.ref a), .val (.int (1 : Int32)), .val (.ref b), .val (.int (1 : Int32)), .val (.int (2 : Int32)), .val (.int (1 : Int32)), .val (.int c1)] [(.int (255 : Int32)), (.int c1)])) (fun _ hr => XT.sipushV X2.here hx rfl (255 : Int32) (hb hby d5_17) (by decide) hr) ?_
  refine Go.st (T' := T2) (g' := (mkF m 26 #[.val (.ref a), .val (.int (1 : Int32)), .val (.ref b), .val (.int (1 : Int32)), .val (.int (2 : Int32)), .val (.int (1 : Int32)), .val (.int c1)] [])) (fun _ hr => XS.icmpYes X2.here hx rfl (pc0 := 20) (pc' := 26) rfl (hb hby d5_20) rfl (XT.ii_le_t hc1) (by decide) (by decide) hr) ?_
  refine Go.st (T' := T2) (g' := (mkF m 27 #[.val (.ref a), .val (.int (1 : Int32)), .val (.ref b), .val (.int (1 : Int32)), .val (.int (2 : Int32)), .val (.int (1 : Int32)), .val (.int c1)] [(.ref b)])) (fun _ hr => XS.aloadN X2.here hx rfl (hb hby d5_26) rfl rfl hr) ?_
  refine Go.st (T' := T2) (g' := (mkF m 28 #[.val (.ref a), .val (.int (1 : Int32)), .val (.ref b), .val (.int (1 : Int32)), .val (.int (2 : Int32)), .val (.int (1 : Int32)), .val (.int c1)] [(.int (1 : Int32)), (.ref b)])) (fun _ hr => XS.iloadN X2.here hx rfl (hb hby d5_27) rfl hr) ?_
  refine Go.st (T' := T2) (g' := (mkF m 30 #[.val (.ref a), .val (.int (1 : Int32)), .val (.ref b), .val (.int (1 : Int32)), .val (.int (2 : Int32)), .val (.int (1 : Int32)), .val (.int c1)] [(.int c1), (.int (1 : Int32)), (.ref b)])) (fun _ hr => XS.iload X2.here hx rfl (hb hby d5_28) rfl hr) ?_
  refine Go.st (T' := T2) (g' := (mkF m 31 #[.val (.ref a), .val (.int (1 : Int32)), .val (.ref b), .val (.int (1 : Int32)), .val (.int (2 : Int32)), .val (.int (1 : Int32)), .val (.int c1)] [(.int (c1).toInt8.toInt32), (.int (1 : Int32)), (.ref b)])) (fun _ hr => XT.i2b X2.here hx rfl (hb hby d5_30) rfl hr) ?_
  obtain ⟨cl4, Ar4, qa4, Sz4, Mz4, Hz4, Uz4⟩ := (id Vb_q_2)
  obtain ⟨T4, h4, X4, e4, W4, st4⟩ := stB X2 hx hZ e2 Ar4 (j := (1 : Int32)) (inb_of Sz4 ⟨by decide, by decide⟩) (g := (mkF m 31 #[.val (.ref a), .val (.int (1 : Int32)), .val (.ref b), .val (.int (1 : Int32)), .val (.int (2 : Int32)), .val (.int (1 : Int32)), .val (.int c1)] [(.int (c1).toInt8.toInt32), (.int (1 : Int32)), (.ref b)])) rfl rfl (hb hby d5_31)
  have fK_q_4 : Keep h0 h4 [b] := (fK_q_2.wr W4 (Or.inl (List.mem_of_getElem? (i := 0) rfl)))
  have Va_q_4 : Arv Z h4 a ka .char (2 : Int32) [(.int c0), (.int c1)] (.int (0 : Int32)) := (Va_q_2.other W4 nab)
  have Vb_q_4 : Arv Z h4 b kb .byte (2 : Int32) [(.int (nar .byte (c0).toInt8.toInt32)), (.int (nar .byte (c1).toInt8.toInt32))] (.int (0 : Int32)) := (Arv.set Ar4 qa4 Sz4 Mz4 Hz4 Uz4 (fits_nar_byte _) W4 1 rfl (Nat.le_of_ble_eq_true rfl))
  have N4 := Fr.snoc X4 N2 nb
  refine Go.st (T' := T4) (g' := (mkF m 32 #[.val (.ref a), .val (.int (1 : Int32)), .val (.ref b), .val (.int (1 : Int32)), .val (.int (2 : Int32)), .val (.int (1 : Int32)), .val (.int c1)] [])) st4 ?_
  refine Go.st (T' := T4) (g' := (mkF m 35 #[.val (.ref a), .val (.int (2 : Int32)), .val (.ref b), .val (.int (1 : Int32)), .val (.int (2 : Int32)), .val (.int (1 : Int32)), .val (.int c1)] [])) (fun _ hr => XT.iincV X4.here hx rfl (1 : Int32) (hb hby d5_32) (by decide) rfl (l' := #[.val (.ref a), .val (.int (2 : Int32)), .val (.ref b), .val (.int (1 : Int32)), .val (.int (2 : Int32)), .val (.int (1 : Int32)), .val (.int c1)]) rfl hr) ?_
  refine Go.st (T' := T4) (g' := (mkF m 38 #[.val (.ref a), .val (.int (2 : Int32)), .val (.ref b), .val (.int (2 : Int32)), .val (.int (2 : Int32)), .val (.int (1 : Int32)), .val (.int c1)] [])) (fun _ hr => XT.iincV X4.here hx rfl (1 : Int32) (hb hby d5_35) (by decide) rfl (l' := #[.val (.ref a), .val (.int (2 : Int32)), .val (.ref b), .val (.int (2 : Int32)), .val (.int (2 : Int32)), .val (.int (1 : Int32)), .val (.int c1)]) rfl hr) ?_
  refine Go.st (T' := T4) (g' := (mkF m 41 #[.val (.ref a), .val (.int (2 : Int32)), .val (.ref b), .val (.int (2 : Int32)), .val (.int (2 : Int32)), .val (.int (2 : Int32)), .val (.int c1)] [])) (fun _ hr => XT.iincV X4.here hx rfl (1 : Int32) (hb hby d5_38) (by decide) rfl (l' := #[.val (.ref a), .val (.int (2 : Int32)), .val (.ref b), .val (.int (2 : Int32)), .val (.int (2 : Int32)), .val (.int (2 : Int32)), .val (.int c1)]) rfl hr) ?_
  refine Go.st (T' := T4) (g' := (mkF m 3 #[.val (.ref a), .val (.int (2 : Int32)), .val (.ref b), .val (.int (2 : Int32)), .val (.int (2 : Int32)), .val (.int (2 : Int32)), .val (.int c1)] [])) (fun _ hr => XS.goto X4.here hx rfl (pc0 := 41) (pc' := 3) rfl (hb hby d5_41) (by decide) (by decide) hr) ?_
  refine Go.st (T' := T4) (g' := (mkF m 5 #[.val (.ref a), .val (.int (2 : Int32)), .val (.ref b), .val (.int (2 : Int32)), .val (.int (2 : Int32)), .val (.int (2 : Int32)), .val (.int c1)] [(.int (2 : Int32))])) (fun _ hr => XS.iload X4.here hx rfl (hb hby d5_3) rfl hr) ?_
  refine Go.st (T' := T4) (g' := (mkF m 7 #[.val (.ref a), .val (.int (2 : Int32)), .val (.ref b), .val (.int (2 : Int32)), .val (.int (2 : Int32)), .val (.int (2 : Int32)), .val (.int c1)] [(.int (2 : Int32)), (.int (2 : Int32))])) (fun _ hr => XS.iload X4.here hx rfl (hb hby d5_5) rfl hr) ?_
  refine Go.st (T' := T4) (g' := (mkF m 44 #[.val (.ref a), .val (.int (2 : Int32)), .val (.ref b), .val (.int (2 : Int32)), .val (.int (2 : Int32)), .val (.int (2 : Int32)), .val (.int c1)] [])) (fun _ hr => XS.icmpYes X4.here hx rfl (pc0 := 7) (pc' := 44) rfl (hb hby d5_7) rfl (XT.ii_ge_t (by decide)) (by decide) (by decide) hr) ?_
  refine Go.st (T' := T4) (g' := (mkF m 46 #[.val (.ref a), .val (.int (2 : Int32)), .val (.ref b), .val (.int (2 : Int32)), .val (.int (2 : Int32)), .val (.int (2 : Int32)), .val (.int c1)] [(.int (2 : Int32))])) (fun _ hr => XS.iload X4.here hx rfl (hb hby d5_44) rfl hr) ?_
  exact Go.retI X4 hx hlk hret (hb hby d5_46) (by decide) (by decide) (by rw [e4]; exact ⟨rfl, N4, fK_q_4, Vb_q_4⟩)
theorem pd_6 : parseMethodDescriptor "([CII)[B" = some ⟨[(.array .char), .int, .int], some (.array .byte)⟩ := by decide +kernel
theorem d4_0 : decode jdk_52_method_16_code 0 = .ok (.iload_n 2, 1) := by decide +kernel
theorem d4_1 : decode jdk_52_method_16_code 1 = .ok (.newarray .byte, 2) := by decide +kernel
theorem d4_3 : decode jdk_52_method_16_code 3 = .ok (.astore_n 3, 1) := by decide +kernel
theorem d4_4 : decode jdk_52_method_16_code 4 = .ok (.aload_n 0, 1) := by decide +kernel
theorem d4_5 : decode jdk_52_method_16_code 5 = .ok (.iload_n 1, 1) := by decide +kernel
theorem d4_6 : decode jdk_52_method_16_code 6 = .ok (.aload_n 3, 1) := by decide +kernel
theorem d4_7 : decode jdk_52_method_16_code 7 = .ok (.iconst 0, 1) := by decide +kernel
theorem d4_8 : decode jdk_52_method_16_code 8 = .ok (.iload_n 2, 1) := by decide +kernel
theorem d4_9 : decode jdk_52_method_16_code 9 = .ok (.invokestatic 115, 3) := by decide +kernel
theorem d4_12 : decode jdk_52_method_16_code 12 = .ok (.istore 4, 2) := by decide +kernel
theorem d4_14 : decode jdk_52_method_16_code 14 = .ok (.iload 4, 2) := by decide +kernel
theorem d4_16 : decode jdk_52_method_16_code 16 = .ok (.iload_n 2, 1) := by decide +kernel
theorem d4_17 : decode jdk_52_method_16_code 17 = .ok (.if_icmp .eq 40, 3) := by decide +kernel
theorem d4_20 : decode jdk_52_method_16_code 20 = .ok (.aload_n 0, 1) := by decide +kernel
theorem d4_21 : decode jdk_52_method_16_code 21 = .ok (.iload_n 1, 1) := by decide +kernel
theorem d4_22 : decode jdk_52_method_16_code 22 = .ok (.iload_n 2, 1) := by decide +kernel
theorem d4_23 : decode jdk_52_method_16_code 23 = .ok (.invokestatic 119, 3) := by decide +kernel
theorem d4_26 : decode jdk_52_method_16_code 26 = .ok (.astore 5, 2) := by decide +kernel
theorem d4_28 : decode jdk_52_method_16_code 28 = .ok (.aload 5, 2) := by decide +kernel
theorem d4_30 : decode jdk_52_method_16_code 30 = .ok (.iload 4, 2) := by decide +kernel
theorem d4_32 : decode jdk_52_method_16_code 32 = .ok (.invokestatic 71, 3) := by decide +kernel
theorem d4_35 : decode jdk_52_method_16_code 35 = .ok (.sipush 255, 3) := by decide +kernel
theorem d4_38 : decode jdk_52_method_16_code 38 = .ok (.if_icmp .gt 16, 3) := by decide +kernel
theorem d4_41 : decode jdk_52_method_16_code 41 = .ok (.aload 5, 2) := by decide +kernel
theorem d4_43 : decode jdk_52_method_16_code 43 = .ok (.iconst 0, 1) := by decide +kernel
theorem d4_44 : decode jdk_52_method_16_code 44 = .ok (.aload_n 3, 1) := by decide +kernel
theorem d4_45 : decode jdk_52_method_16_code 45 = .ok (.iconst 0, 1) := by decide +kernel
theorem d4_46 : decode jdk_52_method_16_code 46 = .ok (.iload_n 2, 1) := by decide +kernel
theorem d4_47 : decode jdk_52_method_16_code 47 = .ok (.invokestatic 123, 3) := by decide +kernel
theorem d4_50 : decode jdk_52_method_16_code 50 = .ok (.iload_n 2, 1) := by decide +kernel
theorem d4_51 : decode jdk_52_method_16_code 51 = .ok (.if_icmp .eq 6, 3) := by decide +kernel
theorem d4_54 : decode jdk_52_method_16_code 54 = .ok (.aload 5, 2) := by decide +kernel
theorem d4_56 : decode jdk_52_method_16_code 56 = .ok (.areturn, 1) := by decide +kernel
theorem d4_57 : decode jdk_52_method_16_code 57 = .ok (.aload_n 3, 1) := by decide +kernel
theorem d4_58 : decode jdk_52_method_16_code 58 = .ok (.areturn, 1) := by decide +kernel
theorem ef_rm4_2 (m : MethodId) (a : Addr)  : entryFrame m #[(.ref a), (.int (0 : Int32)), (.int (2 : Int32))] 6 = mkF m 0 #[.val (.ref a), .val (.int (0 : Int32)), .val (.int (2 : Int32)), .unset, .unset, .unset] [] := by first | (simp [entryFrame, mkF, argsToLocals, Value.category]; done) | rfl
set_option maxRecDepth 65536 in
set_option maxHeartbeats 40000000 in
theorem rm4_2 (l : Launch) (Z : State) (a0 : Array Value) (hw : ∀ d ∈ tables_1, d.before a0 Z = true) (a : Addr) (c0 : Int32) (c1 : Int32) (ka : ClassId)  (h0 : Heap) (n0 : Nat) (Z0 : n0 ≤ h0.size) (Va : Arv Z h0 a ka .char (2 : Int32) [(.int c0), (.int c1)] (.int (0 : Int32))) (hc0 : ¬ (255 : Int32) < c0) (hc1 : ¬ (255 : Int32) < c1) :
    MetQ l Z (⟨"java/lang/StringUTF16", "compress", "([CII)[B"⟩ : MethodName) jdk_52_method_16_code 6 (some (.array .byte)) [] ({ frames := 1, cells := 1, slots := 2, locals := 18 } : Room) #[(.ref a), (.int (0 : Int32)), (.int (2 : Int32))] h0 (fun v h L => ∃ b kb, v = some (.ref b) ∧ Fr n0 L ∧ Keep h0 h [] ∧ n0 ≤ b ∧ Arv Z h b kb .byte (2 : Int32) [(.int (nar .byte (c0).toInt8.toInt32)), (.int (nar .byte (c1).toInt8.toInt32))] (.int (0 : Int32))) := by
  refine MetQ.body (plainFor_of_name pn_2) fun p e s m below meth c s₁ hx hby hml hown hnm hret hlk hZ e0 X0 => Go.cast (ef_rm4_2 m a) ?_
  refine Go.st (T' := s₁) (g' := (mkF m 1 #[.val (.ref a), .val (.int (0 : Int32)), .val (.int (2 : Int32)), .unset, .unset, .unset] [(.int (2 : Int32))])) (fun _ hr => XS.iloadN X0.here hx rfl (hb hby d4_0) rfl hr) ?_
  obtain ⟨T1, h1, k1, X1, e1, E1, A1, st1⟩ := newP X0 hx hZ (hw _ (List.mem_of_getElem? (i := 19) rfl)) e0 (g := (mkF m 1 #[.val (.ref a), .val (.int (0 : Int32)), .val (.int (2 : Int32)), .unset, .unset, .unset] [(.int (2 : Int32))])) rfl (hb hby d4_1) rfl (by decide) (cap := 2) (by decide) (by decide) (by decide) (by decide)
  obtain ⟨a1, g1⟩ : ∃ z, z = h0.size := ⟨_, rfl⟩
  rw [← g1] at A1 st1
  have n_a1 : n0 ≤ a1 := Nat.le_trans Z0 (Nat.le_of_eq g1.symm)
  have ne_a_a1 : a ≠ a1 := Nat.ne_of_lt (Nat.lt_of_lt_of_eq Va.lt g1.symm)
  have hn_a1 : h0.size ≤ a1 := Nat.le_trans (Keep.refl h0 []).1 (Nat.le_of_eq g1.symm)
  have Z0_q_1 : n0 ≤ h1.size := (Nat.le_trans Z0 E1.1)
  have fK_q_1 : Keep h0 h1 [] := ((Keep.refl h0 []).ext E1)
  have Va_q_1 : Arv Z h1 a ka .char (2 : Int32) [(.int c0), (.int c1)] (.int (0 : Int32)) := (Va.ext E1)
  have V1 : Arv Z h1 a1 k1 .byte (2 : Int32) [(.int (0 : Int32)), (.int (0 : Int32))] (.int (0 : Int32)) := (Arv.new A1 (by decide)).pad (pad_rep [] (.int (0 : Int32)) 2)
  refine Go.st (T' := T1) (g' := (mkF m 3 #[.val (.ref a), .val (.int (0 : Int32)), .val (.int (2 : Int32)), .unset, .unset, .unset] [(.ref a1)])) st1 ?_
  refine Go.st (T' := T1) (g' := (mkF m 4 #[.val (.ref a), .val (.int (0 : Int32)), .val (.int (2 : Int32)), .val (.ref a1), .unset, .unset] [])) (fun _ hr => XS.astoreN X1.here hx rfl (hb hby d4_3) rfl rfl (l' := #[.val (.ref a), .val (.int (0 : Int32)), .val (.int (2 : Int32)), .val (.ref a1), .unset, .unset]) rfl hr) ?_
  refine Go.st (T' := T1) (g' := (mkF m 5 #[.val (.ref a), .val (.int (0 : Int32)), .val (.int (2 : Int32)), .val (.ref a1), .unset, .unset] [(.ref a)])) (fun _ hr => XS.aloadN X1.here hx rfl (hb hby d4_4) rfl rfl hr) ?_
  refine Go.st (T' := T1) (g' := (mkF m 6 #[.val (.ref a), .val (.int (0 : Int32)), .val (.int (2 : Int32)), .val (.ref a1), .unset, .unset] [(.int (0 : Int32)), (.ref a)])) (fun _ hr => XS.iloadN X1.here hx rfl (hb hby d4_5) rfl hr) ?_
  refine Go.st (T' := T1) (g' := (mkF m 7 #[.val (.ref a), .val (.int (0 : Int32)), .val (.int (2 : Int32)), .val (.ref a1), .unset, .unset] [(.ref a1), (.int (0 : Int32)), (.ref a)])) (fun _ hr => XS.aloadN X1.here hx rfl (hb hby d4_6) rfl rfl hr) ?_
  refine Go.st (T' := T1) (g' := (mkF m 8 #[.val (.ref a), .val (.int (0 : Int32)), .val (.int (2 : Int32)), .val (.ref a1), .unset, .unset] [(.int (0 : Int32)), (.ref a1), (.int (0 : Int32)), (.ref a)])) (fun _ hr => XT.iconstV X1.here hx rfl (0 : Int32) (hb hby d4_7) (by decide) hr) ?_
  refine Go.st (T' := T1) (g' := (mkF m 9 #[.val (.ref a), .val (.int (0 : Int32)), .val (.int (2 : Int32)), .val (.ref a1), .unset, .unset] [(.int (2 : Int32)), (.int (0 : Int32)), (.ref a1), (.int (0 : Int32)), (.ref a)])) (fun _ hr => XS.iloadN X1.here hx rfl (hb hby d4_8) rfl hr) ?_
  refine Go.callS X1 hx hZ hown (W := 0) (hw _ (List.mem_of_getElem? (i := 20) rfl)) (hw _ (List.mem_of_getElem? (i := 21) rfl)) (hw _ (List.mem_of_getElem? (i := 17) rfl)) (hw _ (List.mem_of_getElem? (i := 22) rfl)) (by decide) e1 (rm5_2 l Z a0 hw a a1 c0 c1 ka k1 h1 n0 n_a1 ne_a_a1 Va_q_1 V1 hc0 hc1) (by decide) (by decide) (by decide) (by decide) (g := (mkF m 9 #[.val (.ref a), .val (.int (0 : Int32)), .val (.int (2 : Int32)), .val (.ref a1), .unset, .unset] [(.int (2 : Int32)), (.int (0 : Int32)), (.ref a1), (.int (0 : Int32)), (.ref a)])) rfl (by rw [hml]; rfl) (argsL := [(.ref a), (.int (0 : Int32)), (.ref a1), (.int (0 : Int32)), (.int (2 : Int32))]) (rest := []) (lenOf pd_5 rfl) rfl (by show 2 * 0 + _ ≤ _; exact Nat.le_of_eq rfl) (hb hby d4_9) (fun v2 T2 L2 X2 q2 => ?_)
  obtain ⟨h2, e2⟩ : ∃ z, T2.heap = z := ⟨_, rfl⟩
  rw [e2] at q2
  obtain ⟨rfl, N2q, K2, VV2⟩ := q2
  have N2 := Fr.app (Fr.nil n0) N2q
  have Z0_q_2 : n0 ≤ h2.size := (Nat.le_trans Z0_q_1 K2.1)
  have fK_q_2 : Keep h0 h2 [] := (fK_q_1.trans K2 (allS (Or.inr hn_a1) all0))
  have Va_q_2 : Arv Z h2 a ka .char (2 : Int32) [(.int c0), (.int c1)] (.int (0 : Int32)) := (Va_q_1.keep K2 (ninS ne_a_a1 nin0))
  show Go p.tables e below (Fin s (fun v h L => ∃ b kb, v = some (.ref b) ∧ Fr n0 L ∧ Keep h0 h [] ∧ n0 ≤ b ∧ Arv Z h b kb .byte (2 : Int32) [(.int (nar .byte (c0).toInt8.toInt32)), (.int (nar .byte (c1).toInt8.toInt32))] (.int (0 : Int32))) ({ frames := 1, cells := 1, slots := 2, locals := 18 } : Room).cells ({ frames := 1, cells := 1, slots := 2, locals := 18 } : Room).slots) T2 (mkF m 12 #[.val (.ref a), .val (.int (0 : Int32)), .val (.int (2 : Int32)), .val (.ref a1), .unset, .unset] [(.int (2 : Int32))])
  refine Go.st (T' := T2) (g' := (mkF m 14 #[.val (.ref a), .val (.int (0 : Int32)), .val (.int (2 : Int32)), .val (.ref a1), .val (.int (2 : Int32)), .unset] [])) (fun _ hr => XS.istore X2.here hx rfl (hb hby d4_12) rfl (l' := #[.val (.ref a), .val (.int (0 : Int32)), .val (.int (2 : Int32)), .val (.ref a1), .val (.int (2 : Int32)), .unset]) rfl hr) ?_
  refine Go.st (T' := T2) (g' := (mkF m 16 #[.val (.ref a), .val (.int (0 : Int32)), .val (.int (2 : Int32)), .val (.ref a1), .val (.int (2 : Int32)), .unset] [(.int (2 : Int32))])) (fun _ hr => XS.iload X2.here hx rfl (hb hby d4_14) rfl hr) ?_
  refine Go.st (T' := T2) (g' := (mkF m 17 #[.val (.ref a), .val (.int (0 : Int32)), .val (.int (2 : Int32)), .val (.ref a1), .val (.int (2 : Int32)), .unset] [(.int (2 : Int32)), (.int (2 : Int32))])) (fun _ hr => XS.iloadN X2.here hx rfl (hb hby d4_16) rfl hr) ?_
  refine Go.st (T' := T2) (g' := (mkF m 57 #[.val (.ref a), .val (.int (0 : Int32)), .val (.int (2 : Int32)), .val (.ref a1), .val (.int (2 : Int32)), .unset] [])) (fun _ hr => XS.icmpYes X2.here hx rfl (pc0 := 17) (pc' := 57) rfl (hb hby d4_17) rfl (XT.ii_eq_t (by decide)) (by decide) (by decide) hr) ?_
  refine Go.st (T' := T2) (g' := (mkF m 58 #[.val (.ref a), .val (.int (0 : Int32)), .val (.int (2 : Int32)), .val (.ref a1), .val (.int (2 : Int32)), .unset] [(.ref a1)])) (fun _ hr => XS.aloadN X2.here hx rfl (hb hby d4_57) rfl rfl hr) ?_
  exact Go.retA X2 hx hlk hret rfl rfl (hb hby d4_58) (by decide) (by decide) (by rw [e2]; exact ⟨_, _, rfl, N2, fK_q_2, n_a1, VV2⟩)
theorem pd_7 : parseMethodDescriptor "([BI)B" = some ⟨[(.array .byte), .int], some .byte⟩ := by decide +kernel
theorem d6_0 : decode jdk_52_method_15_code 0 = .ok (.iload_n 1, 1) := by decide +kernel
theorem d6_1 : decode jdk_52_method_15_code 1 = .ok (.aload_n 0, 1) := by decide +kernel
theorem d6_2 : decode jdk_52_method_15_code 2 = .ok (.arraylength, 1) := by decide +kernel
theorem d6_3 : decode jdk_52_method_15_code 3 = .ok (.isub, 1) := by decide +kernel
theorem d6_4 : decode jdk_52_method_15_code 4 = .ok (.bipush 31, 2) := by decide +kernel
theorem d6_6 : decode jdk_52_method_15_code 6 = .ok (.iushr, 1) := by decide +kernel
theorem d6_7 : decode jdk_52_method_15_code 7 = .ok (.i2b, 1) := by decide +kernel
theorem d6_8 : decode jdk_52_method_15_code 8 = .ok (.ireturn, 1) := by decide +kernel
theorem ef_rm6_2 (m : MethodId) (b : Addr)  : entryFrame m #[(.ref b), (.int (2 : Int32))] 2 = mkF m 0 #[.val (.ref b), .val (.int (2 : Int32))] [] := by first | (simp [entryFrame, mkF, argsToLocals, Value.category]; done) | rfl
set_option maxRecDepth 65536 in
set_option maxHeartbeats 40000000 in
theorem rm6_2 (l : Launch) (Z : State) (a0 : Array Value) (hw : ∀ d ∈ tables_1, d.before a0 Z = true) (b : Addr) (c0 : Int32) (c1 : Int32) (kb : ClassId)  (h0 : Heap) (Vb : Arv Z h0 b kb .byte (2 : Int32) [(.int (nar .byte (c0).toInt8.toInt32)), (.int (nar .byte (c1).toInt8.toInt32))] (.int (0 : Int32))) :
    MetQ l Z (⟨"java/lang/StringUTF16", "coderFromArrayLen", "([BI)B"⟩ : MethodName) jdk_52_method_15_code 2 (some .byte) [] ({ frames := 0, cells := 0, slots := 0, locals := 0 } : Room) #[(.ref b), (.int (2 : Int32))] h0 (PQ (.int (nar .byte ((XT.ushr ((2 : Int32) - (2 : Int32)) (31 : Int32))).toInt8.toInt32)) h0) := by
  refine MetQ.body (plainFor_of_name pn_2) fun p e s m below meth c s₁ hx hby hml hown hnm hret hlk hZ e0 X0 => Go.cast (ef_rm6_2 m b) ?_
  refine Go.st (T' := s₁) (g' := (mkF m 1 #[.val (.ref b), .val (.int (2 : Int32))] [(.int (2 : Int32))])) (fun _ hr => XS.iloadN X0.here hx rfl (hb hby d6_0) rfl hr) ?_
  refine Go.st (T' := s₁) (g' := (mkF m 2 #[.val (.ref b), .val (.int (2 : Int32))] [(.ref b), (.int (2 : Int32))])) (fun _ hr => XS.aloadN X0.here hx rfl (hb hby d6_1) rfl rfl hr) ?_
  obtain ⟨cl1, Ar1, qa1, Sz1, Mz1, Hz1, Uz1⟩ := (id Vb)
  refine Go.st (T' := s₁) (g' := (mkF m 3 #[.val (.ref b), .val (.int (2 : Int32))] [(.int cl1.slots.size.toInt32), (.int (2 : Int32))])) (fun t hr => X0.arraylength hx (by rw [e0]; exact Ar1.1) (State.isArrayOf_alike hZ.alike Ar1.2.1) (g := (mkF m 2 #[.val (.ref b), .val (.int (2 : Int32))] [(.ref b), (.int (2 : Int32))])) rfl rfl (hb hby d6_2) t hr) ?_
  rw [len_of Sz1 Mz1]
  show Go p.tables e below (Fin s (PQ (.int (nar .byte ((XT.ushr ((2 : Int32) - (2 : Int32)) (31 : Int32))).toInt8.toInt32)) h0) ({ frames := 0, cells := 0, slots := 0, locals := 0 } : Room).cells ({ frames := 0, cells := 0, slots := 0, locals := 0 } : Room).slots) s₁ (mkF m 3 #[.val (.ref b), .val (.int (2 : Int32))] [(.int (2 : Int32)), (.int (2 : Int32))])
  refine Go.st (T' := s₁) (g' := (mkF m 4 #[.val (.ref b), .val (.int (2 : Int32))] [(.int ((2 : Int32) - (2 : Int32)))])) (fun _ hr => XS.isub X0.here hx rfl (hb hby d6_3) rfl hr) ?_
  refine Go.st (T' := s₁) (g' := (mkF m 6 #[.val (.ref b), .val (.int (2 : Int32))] [(.int (31 : Int32)), (.int ((2 : Int32) - (2 : Int32)))])) (fun _ hr => XT.bipushV X0.here hx rfl (31 : Int32) (hb hby d6_4) (by decide) hr) ?_
  refine Go.st (T' := s₁) (g' := (mkF m 7 #[.val (.ref b), .val (.int (2 : Int32))] [(.int (XT.ushr ((2 : Int32) - (2 : Int32)) (31 : Int32)))])) (fun _ hr => XT.iushr X0.here hx rfl (hb hby d6_6) rfl hr) ?_
  refine Go.st (T' := s₁) (g' := (mkF m 8 #[.val (.ref b), .val (.int (2 : Int32))] [(.int ((XT.ushr ((2 : Int32) - (2 : Int32)) (31 : Int32))).toInt8.toInt32)])) (fun _ hr => XT.i2b X0.here hx rfl (hb hby d6_7) rfl hr) ?_
  exact Go.retN X0 hx hlk hret (by simp) (hb hby d6_8) (by decide) (by decide) ⟨rfl, rfl, e0⟩
theorem pd_8 : parseMethodDescriptor "([CIILjava/lang/Void;)V" = some ⟨[(.array .char), .int, .int, (.object "java/lang/Void")], none⟩ := by decide +kernel
theorem d2_0 : decode jdk_42_method_149_code 0 = .ok (.aload_n 0, 1) := by decide +kernel
theorem d2_1 : decode jdk_42_method_149_code 1 = .ok (.invokespecial 1, 3) := by decide +kernel
theorem d2_4 : decode jdk_42_method_149_code 4 = .ok (.iload_n 3, 1) := by decide +kernel
theorem d2_5 : decode jdk_42_method_149_code 5 = .ok (.ifCond .ne 22, 3) := by decide +kernel
theorem d2_8 : decode jdk_42_method_149_code 8 = .ok (.aload_n 0, 1) := by decide +kernel
theorem d2_9 : decode jdk_42_method_149_code 9 = .ok (.ldc 7, 2) := by decide +kernel
theorem d2_11 : decode jdk_42_method_149_code 11 = .ok (.getfield 9, 3) := by decide +kernel
theorem d2_14 : decode jdk_42_method_149_code 14 = .ok (.putfield 9, 3) := by decide +kernel
theorem d2_17 : decode jdk_42_method_149_code 17 = .ok (.aload_n 0, 1) := by decide +kernel
theorem d2_18 : decode jdk_42_method_149_code 18 = .ok (.ldc 7, 2) := by decide +kernel
theorem d2_20 : decode jdk_42_method_149_code 20 = .ok (.getfield 15, 3) := by decide +kernel
theorem d2_23 : decode jdk_42_method_149_code 23 = .ok (.putfield 15, 3) := by decide +kernel
theorem d2_26 : decode jdk_42_method_149_code 26 = .ok (.return_, 1) := by decide +kernel
theorem d2_27 : decode jdk_42_method_149_code 27 = .ok (.getstatic 38, 3) := by decide +kernel
theorem d2_30 : decode jdk_42_method_149_code 30 = .ok (.ifCond .eq 28, 3) := by decide +kernel
theorem d2_33 : decode jdk_42_method_149_code 33 = .ok (.aload_n 1, 1) := by decide +kernel
theorem d2_34 : decode jdk_42_method_149_code 34 = .ok (.iload_n 2, 1) := by decide +kernel
theorem d2_35 : decode jdk_42_method_149_code 35 = .ok (.iload_n 3, 1) := by decide +kernel
theorem d2_36 : decode jdk_42_method_149_code 36 = .ok (.invokestatic 177, 3) := by decide +kernel
theorem d2_39 : decode jdk_42_method_149_code 39 = .ok (.astore 5, 2) := by decide +kernel
theorem d2_41 : decode jdk_42_method_149_code 41 = .ok (.aload_n 0, 1) := by decide +kernel
theorem d2_42 : decode jdk_42_method_149_code 42 = .ok (.aload 5, 2) := by decide +kernel
theorem d2_44 : decode jdk_42_method_149_code 44 = .ok (.iload_n 3, 1) := by decide +kernel
theorem d2_45 : decode jdk_42_method_149_code 45 = .ok (.invokestatic 47, 3) := by decide +kernel
theorem d2_48 : decode jdk_42_method_149_code 48 = .ok (.putfield 15, 3) := by decide +kernel
theorem d2_51 : decode jdk_42_method_149_code 51 = .ok (.aload_n 0, 1) := by decide +kernel
theorem d2_52 : decode jdk_42_method_149_code 52 = .ok (.aload 5, 2) := by decide +kernel
theorem d2_54 : decode jdk_42_method_149_code 54 = .ok (.putfield 9, 3) := by decide +kernel
theorem d2_57 : decode jdk_42_method_149_code 57 = .ok (.return_, 1) := by decide +kernel
theorem d2_58 : decode jdk_42_method_149_code 58 = .ok (.aload_n 0, 1) := by decide +kernel
theorem d2_59 : decode jdk_42_method_149_code 59 = .ok (.iconst 1, 1) := by decide +kernel
theorem d2_60 : decode jdk_42_method_149_code 60 = .ok (.putfield 15, 3) := by decide +kernel
theorem d2_63 : decode jdk_42_method_149_code 63 = .ok (.aload_n 0, 1) := by decide +kernel
theorem d2_64 : decode jdk_42_method_149_code 64 = .ok (.aload_n 1, 1) := by decide +kernel
theorem d2_65 : decode jdk_42_method_149_code 65 = .ok (.iload_n 2, 1) := by decide +kernel
theorem d2_66 : decode jdk_42_method_149_code 66 = .ok (.iload_n 3, 1) := by decide +kernel
theorem d2_67 : decode jdk_42_method_149_code 67 = .ok (.invokestatic 180, 3) := by decide +kernel
theorem d2_70 : decode jdk_42_method_149_code 70 = .ok (.putfield 9, 3) := by decide +kernel
theorem d2_73 : decode jdk_42_method_149_code 73 = .ok (.return_, 1) := by decide +kernel
theorem ef_rm2_2 (m : MethodId) (s0 : Addr) (a : Addr)  : entryFrame m #[(.ref s0), (.ref a), (.int (0 : Int32)), (.int (2 : Int32)), .null] 6 = mkF m 0 #[.val (.ref s0), .val (.ref a), .val (.int (0 : Int32)), .val (.int (2 : Int32)), .val .null, .unset] [] := by first | (simp [entryFrame, mkF, argsToLocals, Value.category]; done) | rfl
set_option maxRecDepth 65536 in
set_option maxHeartbeats 40000000 in
theorem rm2_2 (l : Launch) (Z : State) (a0 : Array Value) (hw : ∀ d ∈ tables_1, d.before a0 Z = true) (s0 : Addr) (a : Addr) (c0 : Int32) (c1 : Int32) (ka : ClassId) (w : Int32)  (h0 : Heap) (n0 : Nat) (ng : n0 ≤ s0) (Z0 : n0 ≤ h0.size) (nsa : s0 ≠ a) (E0 : Exa Z h0 s0 "java/lang/String") (F1 : Fld Z h0 s0 "java/lang/String" "value" "[B" .null) (F2 : Fld Z h0 s0 "java/lang/String" "coder" "B" (.int (0 : Int32))) (Va : Arv Z h0 a ka .char (2 : Int32) [(.int c0), (.int c1)] (.int (0 : Int32))) (hc0 : ¬ (255 : Int32) < c0) (hc1 : ¬ (255 : Int32) < c1) (hcs : ¬ w = (0 : Int32)) (S0 : Sta Z h0 "java/lang/String" "COMPACT_STRINGS" "Z" (.int w)) :
    MetQ l Z (⟨"java/lang/String", "<init>", "([CIILjava/lang/Void;)V"⟩ : MethodName) jdk_42_method_149_code 6 none [] ({ frames := 2, cells := 1, slots := 2, locals := 35 } : Room) #[(.ref s0), (.ref a), (.int (0 : Int32)), (.int (2 : Int32)), .null] h0 (fun v h L => v = none ∧ Fr n0 L ∧ Keep h0 h [s0]) := by
  refine MetQ.body (plainFor_of_name pn_1) fun p e s m below meth c s₁ hx hby hml hown hnm hret hlk hZ e0 X0 => Go.cast (ef_rm2_2 m s0 a) ?_
  refine Go.st (T' := s₁) (g' := (mkF m 1 #[.val (.ref s0), .val (.ref a), .val (.int (0 : Int32)), .val (.int (2 : Int32)), .val .null, .unset] [(.ref s0)])) (fun _ hr => XS.aloadN X0.here hx rfl (hb hby d2_0) rfl rfl hr) ?_
  obtain ⟨T1, X1, e1, st1⟩ := initO X0 hx hZ hown (hw _ (List.mem_of_getElem? (i := 11) rfl)) (hw _ (List.mem_of_getElem? (i := 12) rfl)) (hw _ (List.mem_of_getElem? (i := 13) rfl)) e0 (g := (mkF m 1 #[.val (.ref s0), .val (.ref a), .val (.int (0 : Int32)), .val (.int (2 : Int32)), .val .null, .unset] [(.ref s0)])) rfl (by rw [hml]; rfl) rfl (hb hby d2_1) (by decide) (W := 0) (by show 2 * 0 + _ ≤ _; exact Nat.le_of_eq rfl) (by decide)
  refine Go.st (T' := T1) (g' := (mkF m 4 #[.val (.ref s0), .val (.ref a), .val (.int (0 : Int32)), .val (.int (2 : Int32)), .val .null, .unset] [])) st1 ?_
  refine Go.st (T' := T1) (g' := (mkF m 5 #[.val (.ref s0), .val (.ref a), .val (.int (0 : Int32)), .val (.int (2 : Int32)), .val .null, .unset] [(.int (2 : Int32))])) (fun _ hr => XS.iloadN X1.here hx rfl (hb hby d2_4) rfl hr) ?_
  refine Go.st (T' := T1) (g' := (mkF m 27 #[.val (.ref s0), .val (.ref a), .val (.int (0 : Int32)), .val (.int (2 : Int32)), .val .null, .unset] [])) (fun _ hr => XS.ifYes X1.here hx rfl (pc0 := 5) (pc' := 27) rfl (hb hby d2_5) rfl (XT.i0_ne_t (by decide)) (by decide) (by decide) hr) ?_
  obtain ⟨T2, X2, e2, st2⟩ := getS2 X1 hx hZ hown (host := "") (Or.inl (hw _ (List.mem_of_getElem? (i := 14) rfl))) Via.refl e1 S0 (g := (mkF m 27 #[.val (.ref s0), .val (.ref a), .val (.int (0 : Int32)), .val (.int (2 : Int32)), .val .null, .unset] [])) rfl (hb hby d2_27)
  refine Go.st (T' := T2) (g' := (mkF m 30 #[.val (.ref s0), .val (.ref a), .val (.int (0 : Int32)), .val (.int (2 : Int32)), .val .null, .unset] [(.int w)])) st2 ?_
  refine Go.st (T' := T2) (g' := (mkF m 33 #[.val (.ref s0), .val (.ref a), .val (.int (0 : Int32)), .val (.int (2 : Int32)), .val .null, .unset] [])) (fun _ hr => XS.ifNo X2.here hx rfl (hb hby d2_30) rfl (XT.i0_eq_f hcs) hr) ?_
  refine Go.st (T' := T2) (g' := (mkF m 34 #[.val (.ref s0), .val (.ref a), .val (.int (0 : Int32)), .val (.int (2 : Int32)), .val .null, .unset] [(.ref a)])) (fun _ hr => XS.aloadN X2.here hx rfl (hb hby d2_33) rfl rfl hr) ?_
  refine Go.st (T' := T2) (g' := (mkF m 35 #[.val (.ref s0), .val (.ref a), .val (.int (0 : Int32)), .val (.int (2 : Int32)), .val .null, .unset] [(.int (0 : Int32)), (.ref a)])) (fun _ hr => XS.iloadN X2.here hx rfl (hb hby d2_34) rfl hr) ?_
  refine Go.st (T' := T2) (g' := (mkF m 36 #[.val (.ref s0), .val (.ref a), .val (.int (0 : Int32)), .val (.int (2 : Int32)), .val .null, .unset] [(.int (2 : Int32)), (.int (0 : Int32)), (.ref a)])) (fun _ hr => XS.iloadN X2.here hx rfl (hb hby d2_35) rfl hr) ?_
  refine Go.callS X2 hx hZ hown (W := 0) (hw _ (List.mem_of_getElem? (i := 15) rfl)) (hw _ (List.mem_of_getElem? (i := 16) rfl)) (hw _ (List.mem_of_getElem? (i := 17) rfl)) (hw _ (List.mem_of_getElem? (i := 18) rfl)) (by decide) e2 (rm4_2 l Z a0 hw a c0 c1 ka h0 n0 Z0 Va hc0 hc1) (by decide) (by decide) (by decide) (by decide) (g := (mkF m 36 #[.val (.ref s0), .val (.ref a), .val (.int (0 : Int32)), .val (.int (2 : Int32)), .val .null, .unset] [(.int (2 : Int32)), (.int (0 : Int32)), (.ref a)])) rfl (by rw [hml]; rfl) (argsL := [(.ref a), (.int (0 : Int32)), (.int (2 : Int32))]) (rest := []) (lenOf pd_6 rfl) rfl (by show 2 * 0 + _ ≤ _; exact Nat.le_of_eq rfl) (hb hby d2_36) (fun v3 T3 L3 X3 q3 => ?_)
  obtain ⟨h3, e3⟩ : ∃ z, T3.heap = z := ⟨_, rfl⟩
  rw [e3] at q3
  obtain ⟨a3, k3, rfl, N3q, K3, n_a3, VV3⟩ := q3
  have N3 := Fr.app (Fr.nil n0) N3q
  have Z0_q_3 : n0 ≤ h3.size := (Nat.le_trans Z0 K3.1)
  have fK_q_3 : Keep h0 h3 [s0] := ((Keep.refl h0 [s0]).trans K3 all0)
  have E0_q_3 : Exa Z h3 s0 "java/lang/String" := (E0.keep K3)
  have F1_q_3 : Fld Z h3 s0 "java/lang/String" "value" "[B" .null := (F1.keep K3 nin0)
  have F2_q_3 : Fld Z h3 s0 "java/lang/String" "coder" "B" (.int (0 : Int32)) := (F2.keep K3 nin0)
  have Va_q_3 : Arv Z h3 a ka .char (2 : Int32) [(.int c0), (.int c1)] (.int (0 : Int32)) := (Va.keep K3 nin0)
  show Go p.tables e below (Fin s (fun v h L => v = none ∧ Fr n0 L ∧ Keep h0 h [s0]) ({ frames := 2, cells := 1, slots := 2, locals := 35 } : Room).cells ({ frames := 2, cells := 1, slots := 2, locals := 35 } : Room).slots) T3 (mkF m 39 #[.val (.ref s0), .val (.ref a), .val (.int (0 : Int32)), .val (.int (2 : Int32)), .val .null, .unset] [(.ref a3)])
  refine Go.st (T' := T3) (g' := (mkF m 41 #[.val (.ref s0), .val (.ref a), .val (.int (0 : Int32)), .val (.int (2 : Int32)), .val .null, .val (.ref a3)] [])) (fun _ hr => XS.astore X3.here hx rfl (hb hby d2_39) rfl rfl (l' := #[.val (.ref s0), .val (.ref a), .val (.int (0 : Int32)), .val (.int (2 : Int32)), .val .null, .val (.ref a3)]) rfl hr) ?_
  refine Go.st (T' := T3) (g' := (mkF m 42 #[.val (.ref s0), .val (.ref a), .val (.int (0 : Int32)), .val (.int (2 : Int32)), .val .null, .val (.ref a3)] [(.ref s0)])) (fun _ hr => XS.aloadN X3.here hx rfl (hb hby d2_41) rfl rfl hr) ?_
  refine Go.st (T' := T3) (g' := (mkF m 44 #[.val (.ref s0), .val (.ref a), .val (.int (0 : Int32)), .val (.int (2 : Int32)), .val .null, .val (.ref a3)] [(.ref a3), (.ref s0)])) (fun _ hr => XS.aload X3.here hx rfl (hb hby d2_42) rfl rfl hr) ?_
  refine Go.st (T' := T3) (g' := (mkF m 45 #[.val (.ref s0), .val (.ref a), .val (.int (0 : Int32)), .val (.int (2 : Int32)), .val .null, .val (.ref a3)] [(.int (2 : Int32)), (.ref a3), (.ref s0)])) (fun _ hr => XS.iloadN X3.here hx rfl (hb hby d2_44) rfl hr) ?_
  refine Go.callP X3 hx hZ hown (W := 1) (hw _ (List.mem_of_getElem? (i := 23) rfl)) (hw _ (List.mem_of_getElem? (i := 24) rfl)) (hw _ (List.mem_of_getElem? (i := 17) rfl)) (hw _ (List.mem_of_getElem? (i := 25) rfl)) (by decide) e3 (rm6_2 l Z a0 hw a3 c0 c1 k3 h3 VV3) (by decide) (by decide) (by decide) (by decide) (g := (mkF m 45 #[.val (.ref s0), .val (.ref a), .val (.int (0 : Int32)), .val (.int (2 : Int32)), .val .null, .val (.ref a3)] [(.int (2 : Int32)), (.ref a3), (.ref s0)])) rfl (by rw [hml]; rfl) (argsL := [(.ref a3), (.int (2 : Int32))]) (rest := [(.ref s0)]) (lenOf pd_7 rfl) rfl (by show 2 * 0 + _ ≤ _; exact Nat.le_of_eq rfl) (hb hby d2_45) (fun T4 X4 e4 => ?_)
  show Go p.tables e below (Fin s (fun v h L => v = none ∧ Fr n0 L ∧ Keep h0 h [s0]) ({ frames := 2, cells := 1, slots := 2, locals := 35 } : Room).cells ({ frames := 2, cells := 1, slots := 2, locals := 35 } : Room).slots) T4 (mkF m 48 #[.val (.ref s0), .val (.ref a), .val (.int (0 : Int32)), .val (.int (2 : Int32)), .val .null, .val (.ref a3)] [(.int (nar .byte ((XT.ushr ((2 : Int32) - (2 : Int32)) (31 : Int32))).toInt8.toInt32)), (.ref s0)])
  obtain ⟨T5, h5, X5, e5, W5, st5⟩ := putFN X4 hx hZ hown (hw _ (List.mem_of_getElem? (i := 26) rfl)) Via.refl e4 F2_q_3 E0_q_3 (Or.inr ⟨(hw _ (List.mem_of_getElem? (i := 27) rfl)), rfl, hnm⟩) (hw _ (List.mem_of_getElem? (i := 1) rfl)) (ty := .byte) (v' := (.int (nar .byte (nar .byte ((XT.ushr ((2 : Int32) - (2 : Int32)) (31 : Int32))).toInt8.toInt32)))) (by decide) rfl (fits_nar_byte _) (g := (mkF m 48 #[.val (.ref s0), .val (.ref a), .val (.int (0 : Int32)), .val (.int (2 : Int32)), .val .null, .val (.ref a3)] [(.int (nar .byte ((XT.ushr ((2 : Int32) - (2 : Int32)) (31 : Int32))).toInt8.toInt32)), (.ref s0)])) rfl rfl (hb hby d2_48)
  have Z0_q_5 : n0 ≤ h5.size := (Nat.le_trans Z0_q_3 (Keep.of_wr W5).1)
  have fK_q_5 : Keep h0 h5 [s0] := (fK_q_3.wr W5 (Or.inl (List.mem_of_getElem? (i := 0) rfl)))
  have E0_q_5 : Exa Z h5 s0 "java/lang/String" := (E0_q_3.wr W5)
  have F1_q_5 : Fld Z h5 s0 "java/lang/String" "value" "[B" .null := (F1_q_3.other W5 (Or.inr (slot_ne (Or.inr (hw _ (List.mem_of_getElem? (i := 29) rfl))) (Or.inr (hw _ (List.mem_of_getElem? (i := 27) rfl))) (by decide) (t := (.array .byte)) (t' := .byte) (by decide) (by decide))))
  have F2_q_5 : Fld Z h5 s0 "java/lang/String" "coder" "B" (.int (nar .byte (nar .byte ((XT.ushr ((2 : Int32) - (2 : Int32)) (31 : Int32))).toInt8.toInt32))) := (F2_q_3.same W5)
  have Va_q_5 : Arv Z h5 a ka .char (2 : Int32) [(.int c0), (.int c1)] (.int (0 : Int32)) := (Va_q_3.other W5 (Ne.symm nsa))
  have N5 := Fr.snoc X5 N3 ng
  refine Go.st (T' := T5) (g' := (mkF m 51 #[.val (.ref s0), .val (.ref a), .val (.int (0 : Int32)), .val (.int (2 : Int32)), .val .null, .val (.ref a3)] [])) st5 ?_
  refine Go.st (T' := T5) (g' := (mkF m 52 #[.val (.ref s0), .val (.ref a), .val (.int (0 : Int32)), .val (.int (2 : Int32)), .val .null, .val (.ref a3)] [(.ref s0)])) (fun _ hr => XS.aloadN X5.here hx rfl (hb hby d2_51) rfl rfl hr) ?_
  refine Go.st (T' := T5) (g' := (mkF m 54 #[.val (.ref s0), .val (.ref a), .val (.int (0 : Int32)), .val (.int (2 : Int32)), .val .null, .val (.ref a3)] [(.ref a3), (.ref s0)])) (fun _ hr => XS.aload X5.here hx rfl (hb hby d2_52) rfl rfl hr) ?_
  obtain ⟨T6, h6, X6, e6, W6, st6⟩ := putF X5 hx hZ hown (host := "") (Or.inl (hw _ (List.mem_of_getElem? (i := 28) rfl))) Via.refl e5 F1_q_5 E0_q_5 (Or.inr ⟨(hw _ (List.mem_of_getElem? (i := 29) rfl)), rfl, hnm⟩) (hw _ (List.mem_of_getElem? (i := 1) rfl)) (ty := (.array .byte)) (by decide) rfl rfl (g := (mkF m 54 #[.val (.ref s0), .val (.ref a), .val (.int (0 : Int32)), .val (.int (2 : Int32)), .val .null, .val (.ref a3)] [(.ref a3), (.ref s0)])) rfl rfl (hb hby d2_54)
  have Z0_q_6 : n0 ≤ h6.size := (Nat.le_trans Z0_q_5 (Keep.of_wr W6).1)
  have fK_q_6 : Keep h0 h6 [s0] := (fK_q_5.wr W6 (Or.inl (List.mem_of_getElem? (i := 0) rfl)))
  have E0_q_6 : Exa Z h6 s0 "java/lang/String" := (E0_q_5.wr W6)
  have F1_q_6 : Fld Z h6 s0 "java/lang/String" "value" "[B" (.ref a3) := (F1_q_5.same W6)
  have F2_q_6 : Fld Z h6 s0 "java/lang/String" "coder" "B" (.int (nar .byte (nar .byte ((XT.ushr ((2 : Int32) - (2 : Int32)) (31 : Int32))).toInt8.toInt32))) := (F2_q_5.other W6 (Or.inr (slot_ne (Or.inr (hw _ (List.mem_of_getElem? (i := 27) rfl))) (Or.inr (hw _ (List.mem_of_getElem? (i := 29) rfl))) (by decide) (t := .byte) (t' := (.array .byte)) (by decide) (by decide))))
  have Va_q_6 : Arv Z h6 a ka .char (2 : Int32) [(.int c0), (.int c1)] (.int (0 : Int32)) := (Va_q_5.other W6 (Ne.symm nsa))
  have N6 := Fr.snoc X6 N5 ng
  refine Go.st (T' := T6) (g' := (mkF m 57 #[.val (.ref s0), .val (.ref a), .val (.int (0 : Int32)), .val (.int (2 : Int32)), .val .null, .val (.ref a3)] [])) st6 ?_
  exact Go.retV X6 hx hlk hret (hb hby d2_57) (by decide) (by decide) (by rw [e6]; exact ⟨rfl, N6, fK_q_6⟩)
theorem pd_9 : parseMethodDescriptor "([C)V" = some ⟨[(.array .char)], none⟩ := by decide +kernel
theorem d1_0 : decode jdk_42_method_3_code 0 = .ok (.aload_n 0, 1) := by decide +kernel
theorem d1_1 : decode jdk_42_method_3_code 1 = .ok (.aload_n 1, 1) := by decide +kernel
theorem d1_2 : decode jdk_42_method_3_code 2 = .ok (.iconst 0, 1) := by decide +kernel
theorem d1_3 : decode jdk_42_method_3_code 3 = .ok (.aload_n 1, 1) := by decide +kernel
theorem d1_4 : decode jdk_42_method_3_code 4 = .ok (.arraylength, 1) := by decide +kernel
theorem d1_5 : decode jdk_42_method_3_code 5 = .ok (.aconst_null, 1) := by decide +kernel
theorem d1_6 : decode jdk_42_method_3_code 6 = .ok (.invokespecial 27, 3) := by decide +kernel
theorem d1_9 : decode jdk_42_method_3_code 9 = .ok (.return_, 1) := by decide +kernel
theorem ef_rm1_2 (m : MethodId) (s0 : Addr) (a : Addr)  : entryFrame m #[(.ref s0), (.ref a)] 2 = mkF m 0 #[.val (.ref s0), .val (.ref a)] [] := by first | (simp [entryFrame, mkF, argsToLocals, Value.category]; done) | rfl
set_option maxRecDepth 65536 in
set_option maxHeartbeats 40000000 in
theorem rm1_2 (l : Launch) (Z : State) (a0 : Array Value) (hw : ∀ d ∈ tables_1, d.before a0 Z = true) (s0 : Addr) (a : Addr) (c0 : Int32) (c1 : Int32) (ka : ClassId) (w : Int32)  (h0 : Heap) (n0 : Nat) (ng : n0 ≤ s0) (Z0 : n0 ≤ h0.size) (nsa : s0 ≠ a) (E0 : Exa Z h0 s0 "java/lang/String") (F1 : Fld Z h0 s0 "java/lang/String" "value" "[B" .null) (F2 : Fld Z h0 s0 "java/lang/String" "coder" "B" (.int (0 : Int32))) (Va : Arv Z h0 a ka .char (2 : Int32) [(.int c0), (.int c1)] (.int (0 : Int32))) (hc0 : ¬ (255 : Int32) < c0) (hc1 : ¬ (255 : Int32) < c1) (hcs : ¬ w = (0 : Int32)) (S0 : Sta Z h0 "java/lang/String" "COMPACT_STRINGS" "Z" (.int w)) :
    MetQ l Z (⟨"java/lang/String", "<init>", "([C)V"⟩ : MethodName) jdk_42_method_3_code 2 none [] ({ frames := 3, cells := 1, slots := 2, locals := 52 } : Room) #[(.ref s0), (.ref a)] h0 (fun v h L => v = none ∧ Fr n0 L ∧ Keep h0 h [s0]) := by
  refine MetQ.body (plainFor_of_name pn_1) fun p e s m below meth c s₁ hx hby hml hown hnm hret hlk hZ e0 X0 => Go.cast (ef_rm1_2 m s0 a) ?_
  refine Go.st (T' := s₁) (g' := (mkF m 1 #[.val (.ref s0), .val (.ref a)] [(.ref s0)])) (fun _ hr => XS.aloadN X0.here hx rfl (hb hby d1_0) rfl rfl hr) ?_
  refine Go.st (T' := s₁) (g' := (mkF m 2 #[.val (.ref s0), .val (.ref a)] [(.ref a), (.ref s0)])) (fun _ hr => XS.aloadN X0.here hx rfl (hb hby d1_1) rfl rfl hr) ?_
  refine Go.st (T' := s₁) (g' := (mkF m 3 #[.val (.ref s0), .val (.ref a)] [(.int (0 : Int32)), (.ref a), (.ref s0)])) (fun _ hr => XT.iconstV X0.here hx rfl (0 : Int32) (hb hby d1_2) (by decide) hr) ?_
  refine Go.st (T' := s₁) (g' := (mkF m 4 #[.val (.ref s0), .val (.ref a)] [(.ref a), (.int (0 : Int32)), (.ref a), (.ref s0)])) (fun _ hr => XS.aloadN X0.here hx rfl (hb hby d1_3) rfl rfl hr) ?_
  obtain ⟨cl1, Ar1, qa1, Sz1, Mz1, Hz1, Uz1⟩ := (id Va)
  refine Go.st (T' := s₁) (g' := (mkF m 5 #[.val (.ref s0), .val (.ref a)] [(.int cl1.slots.size.toInt32), (.int (0 : Int32)), (.ref a), (.ref s0)])) (fun t hr => X0.arraylength hx (by rw [e0]; exact Ar1.1) (State.isArrayOf_alike hZ.alike Ar1.2.1) (g := (mkF m 4 #[.val (.ref s0), .val (.ref a)] [(.ref a), (.int (0 : Int32)), (.ref a), (.ref s0)])) rfl rfl (hb hby d1_4) t hr) ?_
  rw [len_of Sz1 Mz1]
  show Go p.tables e below (Fin s (fun v h L => v = none ∧ Fr n0 L ∧ Keep h0 h [s0]) ({ frames := 3, cells := 1, slots := 2, locals := 52 } : Room).cells ({ frames := 3, cells := 1, slots := 2, locals := 52 } : Room).slots) s₁ (mkF m 5 #[.val (.ref s0), .val (.ref a)] [(.int (2 : Int32)), (.int (0 : Int32)), (.ref a), (.ref s0)])
  refine Go.st (T' := s₁) (g' := (mkF m 6 #[.val (.ref s0), .val (.ref a)] [.null, (.int (2 : Int32)), (.int (0 : Int32)), (.ref a), (.ref s0)])) (fun _ hr => XS.aconstNull X0.here hx rfl (hb hby d1_5) hr) ?_
  refine Go.callC X0 hx hZ hown (W := 0) (y := (⟨"java/lang/String", "<init>", "([CIILjava/lang/Void;)V"⟩ : MethodName)) rfl (hw _ (List.mem_of_getElem? (i := 7) rfl)) (hw _ (List.mem_of_getElem? (i := 8) rfl)) (hw _ (List.mem_of_getElem? (i := 2) rfl)) (hw _ (List.mem_of_getElem? (i := 10) rfl)) (by decide) e0 (rm2_2 l Z a0 hw s0 a c0 c1 ka w h0 n0 ng Z0 nsa E0 F1 F2 Va hc0 hc1 hcs S0) (by decide) (by decide) (by decide) (by decide) (g := (mkF m 6 #[.val (.ref s0), .val (.ref a)] [.null, (.int (2 : Int32)), (.int (0 : Int32)), (.ref a), (.ref s0)])) rfl (by rw [hml]; rfl) (argsL := [(.ref a), (.int (0 : Int32)), (.int (2 : Int32)), .null]) (rest := []) (lenOf pd_8 rfl) rfl (by show 2 * 0 + _ ≤ _; exact Nat.le_of_eq rfl) (hb hby d1_6) (fun v2 T2 L2 X2 q2 => ?_)
  obtain ⟨h2, e2⟩ : ∃ z, T2.heap = z := ⟨_, rfl⟩
  rw [e2] at q2
  obtain ⟨rfl, N2q, K2⟩ := q2
  have N2 := Fr.app (Fr.nil n0) N2q
  have Z0_q_2 : n0 ≤ h2.size := (Nat.le_trans Z0 K2.1)
  have fK_q_2 : Keep h0 h2 [s0] := ((Keep.refl h0 [s0]).trans K2 (allS (Or.inl (List.mem_of_getElem? (i := 0) rfl)) all0))
  have E0_q_2 : Exa Z h2 s0 "java/lang/String" := (E0.keep K2)
  have Va_q_2 : Arv Z h2 a ka .char (2 : Int32) [(.int c0), (.int c1)] (.int (0 : Int32)) := (Va.keep K2 (ninS (Ne.symm nsa) nin0))
  show Go p.tables e below (Fin s (fun v h L => v = none ∧ Fr n0 L ∧ Keep h0 h [s0]) ({ frames := 3, cells := 1, slots := 2, locals := 52 } : Room).cells ({ frames := 3, cells := 1, slots := 2, locals := 52 } : Room).slots) T2 (mkF m 9 #[.val (.ref s0), .val (.ref a)] [])
  exact Go.retV X2 hx hlk hret (hb hby d1_9) (by decide) (by decide) (by rw [e2]; exact ⟨rfl, N2, fK_q_2⟩)
theorem ef_rm5_1 (m : MethodId) (a : Addr) (b : Addr)  : entryFrame m #[(.ref a), (.int (0 : Int32)), (.ref b), (.int (0 : Int32)), (.int (1 : Int32))] 7 = mkF m 0 #[.val (.ref a), .val (.int (0 : Int32)), .val (.ref b), .val (.int (0 : Int32)), .val (.int (1 : Int32)), .unset, .unset] [] := by first | (simp [entryFrame, mkF, argsToLocals, Value.category]; done) | rfl
set_option maxRecDepth 65536 in
set_option maxHeartbeats 40000000 in
theorem rm5_1 (l : Launch) (Z : State) (a0 : Array Value) (hw : ∀ d ∈ tables_1, d.before a0 Z = true) (a : Addr) (b : Addr) (c0 : Int32) (ka : ClassId) (kb : ClassId)  (h0 : Heap) (n0 : Nat) (nb : n0 ≤ b) (nab : a ≠ b) (Va : Arv Z h0 a ka .char (1 : Int32) [(.int c0)] (.int (0 : Int32))) (Vb : Arv Z h0 b kb .byte (1 : Int32) [(.int (0 : Int32))] (.int (0 : Int32))) (hc0 : ¬ (255 : Int32) < c0) :
    MetQ l Z (⟨"java/lang/StringUTF16", "compress", "([CI[BII)I"⟩ : MethodName) jdk_52_method_21_code 7 (some .int) [] ({ frames := 0, cells := 0, slots := 0, locals := 0 } : Room) #[(.ref a), (.int (0 : Int32)), (.ref b), (.int (0 : Int32)), (.int (1 : Int32))] h0 (fun v h L => v = some (.int (1 : Int32)) ∧ Fr n0 L ∧ Keep h0 h [b] ∧ Arv Z h b kb .byte (1 : Int32) [(.int (nar .byte (c0).toInt8.toInt32))] (.int (0 : Int32))) := by
  refine MetQ.body (plainFor_of_name pn_2) fun p e s m below meth c s₁ hx hby hml hown hnm hret hlk hZ e0 X0 => Go.cast (ef_rm5_1 m a b) ?_
  refine Go.st (T' := s₁) (g' := (mkF m 1 #[.val (.ref a), .val (.int (0 : Int32)), .val (.ref b), .val (.int (0 : Int32)), .val (.int (1 : Int32)), .unset, .unset] [(.int (0 : Int32))])) (fun _ hr => XT.iconstV X0.here hx rfl (0 : Int32) (hb hby d5_0) (by decide) hr) ?_
  refine Go.st (T' := s₁) (g' := (mkF m 3 #[.val (.ref a), .val (.int (0 : Int32)), .val (.ref b), .val (.int (0 : Int32)), .val (.int (1 : Int32)), .val (.int (0 : Int32)), .unset] [])) (fun _ hr => XS.istore X0.here hx rfl (hb hby d5_1) rfl (l' := #[.val (.ref a), .val (.int (0 : Int32)), .val (.ref b), .val (.int (0 : Int32)), .val (.int (1 : Int32)), .val (.int (0 : Int32)), .unset]) rfl hr) ?_
  refine Go.st (T' := s₁) (g' := (mkF m 5 #[.val (.ref a), .val (.int (0 : Int32)), .val (.ref b), .val (.int (0 : Int32)), .val (.int (1 : Int32)), .val (.int (0 : Int32)), .unset] [(.int (0 : Int32))])) (fun _ hr => XS.iload X0.here hx rfl (hb hby d5_3) rfl hr) ?_
  refine Go.st (T' := s₁) (g' := (mkF m 7 #[.val (.ref a), .val (.int (0 : Int32)), .val (.ref b), .val (.int (0 : Int32)), .val (.int (1 : Int32)), .val (.int (0 : Int32)), .unset] [(.int (1 : Int32)), (.int (0 : Int32))])) (fun _ hr => XS.iload X0.here hx rfl (hb hby d5_5) rfl hr) ?_
  refine Go.st (T' := s₁) (g' := (mkF m 10 #[.val (.ref a), .val (.int (0 : Int32)), .val (.ref b), .val (.int (0 : Int32)), .val (.int (1 : Int32)), .val (.int (0 : Int32)), .unset] [])) (fun _ hr => XS.icmpNo X0.here hx rfl (hb hby d5_7) rfl (XT.ii_ge_f (by decide)) hr) ?_
  refine Go.st (T' := s₁) (g' := (mkF m 11 #[.val (.ref a), .val (.int (0 : Int32)), .val (.ref b), .val (.int (0 : Int32)), .val (.int (1 : Int32)), .val (.int (0 : Int32)), .unset] [(.ref a)])) (fun _ hr => XS.aloadN X0.here hx rfl (hb hby d5_10) rfl rfl hr) ?_
  refine Go.st (T' := s₁) (g' := (mkF m 12 #[.val (.ref a), .val (.int (0 : Int32)), .val (.ref b), .val (.int (0 : Int32)), .val (.int (1 : Int32)), .val (.int (0 : Int32)), .unset] [(.int (0 : Int32)), (.ref a)])) (fun _ hr => XS.iloadN X0.here hx rfl (hb hby d5_11) rfl hr) ?_
  obtain ⟨cl1, Ar1, qa1, Sz1, Mz1, Hz1, Uz1⟩ := (id Va)
  refine Go.st (T' := s₁) (g' := (mkF m 13 #[.val (.ref a), .val (.int (0 : Int32)), .val (.ref b), .val (.int (0 : Int32)), .val (.int (1 : Int32)), .val (.int (0 : Int32)), .unset] [(.int c0)])) (fun t hr => X0.caload hx (j := (0 : Int32)) (v := (.int c0)) (by rw [e0]; exact Ar1.1) (State.isArrayOf_alike hZ.alike Ar1.2.1) Ar1.2.2 (inb_of Sz1 ⟨by decide, by decide⟩) (Hz1.at (inb_of Sz1 ⟨by decide, by decide⟩) rfl) (g := (mkF m 12 #[.val (.ref a), .val (.int (0 : Int32)), .val (.ref b), .val (.int (0 : Int32)), .val (.int (1 : Int32)), .val (.int (0 : Int32)), .unset] [(.int (0 : Int32)), (.ref a)])) rfl rfl (hb hby d5_12) t hr) ?_
  refine Go.st (T' := s₁) (g' := (mkF m 15 #[.val (.ref a), .val (.int (0 : Int32)), .val (.ref b), .val (.int (0 : Int32)), .val (.int (1 : Int32)), .val (.int (0 : Int32)), .val (.int c0)] [])) (fun _ hr => XS.istore X0.here hx rfl (hb hby d5_13) rfl (l' := #[.val (.ref a), .val (.int (0 : Int32)), .val (.ref b), .val (.int (0 : Int32)), .val (.int (1 : Int32)), .val (.int (0 : Int32)), .val (.int c0)]) rfl hr) ?_
  refine Go.st (T' := s₁) (g' := (mkF m 17 #[.val (.ref a), .val (.int (0 : Int32)), .val (.ref b), .val (.int (0 : Int32)), .val (.int (1 : Int32)), .val (.int (0 : Int32)), .val (.int c0)] [(.int c0)])) (fun _ hr => XS.iload X0.here hx rfl (hb hby d5_15) rfl hr) ?_
  refine Go.st (T' := s₁) (g' := (mkF m 20 #[.val (.ref a), .val (.int (0 : Int32)), .val (.ref b), .val (.int (0 : Int32)), .val (.int (1 : Int32)), .val (.int (0 : Int32)), .val (.int c0)] [(.int (255 : Int32)), (.int c0)])) (fun _ hr => XT.sipushV X0.here hx rfl (255 : Int32) (hb hby d5_17) (by decide) hr) ?_
  refine Go.st (T' := s₁) (g' := (mkF m 26 #[.val (.ref a), .val (.int (0 : Int32)), .val (.ref b), .val (.int (0 : Int32)), .val (.int (1 : Int32)), .val (.int (0 : Int32)), .val (.int c0)] [])) (fun _ hr => XS.icmpYes X0.here hx rfl (pc0 := 20) (pc' := 26) rfl (hb hby d5_20) rfl (XT.ii_le_t hc0) (by decide) (by decide) hr) ?_
  refine Go.st (T' := s₁) (g' := (mkF m 27 #[.val (.ref a), .val (.int (0 : Int32)), .val (.ref b), .val (.int (0 : Int32)), .val (.int (1 : Int32)), .val (.int (0 : Int32)), .val (.int c0)] [(.ref b)])) (fun _ hr => XS.aloadN X0.here hx rfl (hb hby d5_26) rfl rfl hr) ?_
  refine Go.st (T' := s₁) (g' := (mkF m 28 #[.val (.ref a), .val (.int (0 : Int32)), .val (.ref b), .val (.int (0 : Int32)), .val (.int (1 : Int32)), .val (.int (0 : Int32)), .val (.int c0)] [(.int (0 : Int32)), (.ref b)])) (fun _ hr => XS.iloadN X0.here hx rfl (hb hby d5_27) rfl hr) ?_
  refine Go.st (T' := s₁) (g' := (mkF m 30 #[.val (.ref a), .val (.int (0 : Int32)), .val (.ref b), .val (.int (0 : Int32)), .val (.int (1 : Int32)), .val (.int (0 : Int32)), .val (.int c0)] [(.int c0), (.int (0 : Int32)), (.ref b)])) (fun _ hr => XS.iload X0.here hx rfl (hb hby d5_28) rfl hr) ?_
  refine Go.st (T' := s₁) (g' := (mkF m 31 #[.val (.ref a), .val (.int (0 : Int32)), .val (.ref b), .val (.int (0 : Int32)), .val (.int (1 : Int32)), .val (.int (0 : Int32)), .val (.int c0)] [(.int (c0).toInt8.toInt32), (.int (0 : Int32)), (.ref b)])) (fun _ hr => XT.i2b X0.here hx rfl (hb hby d5_30) rfl hr) ?_
  obtain ⟨cl2, Ar2, qa2, Sz2, Mz2, Hz2, Uz2⟩ := (id Vb)
  obtain ⟨T2, h2, X2, e2, W2, st2⟩ := stB X0 hx hZ e0 Ar2 (j := (0 : Int32)) (inb_of Sz2 ⟨by decide, by decide⟩) (g := (mkF m 31 #[.val (.ref a), .val (.int (0 : Int32)), .val (.ref b), .val (.int (0 : Int32)), .val (.int (1 : Int32)), .val (.int (0 : Int32)), .val (.int c0)] [(.int (c0).toInt8.toInt32), (.int (0 : Int32)), (.ref b)])) rfl rfl (hb hby d5_31)
  have fK_q_2 : Keep h0 h2 [b] := ((Keep.refl h0 [b]).wr W2 (Or.inl (List.mem_of_getElem? (i := 0) rfl)))
  have Va_q_2 : Arv Z h2 a ka .char (1 : Int32) [(.int c0)] (.int (0 : Int32)) := (Va.other W2 nab)
  have Vb_q_2 : Arv Z h2 b kb .byte (1 : Int32) [(.int (nar .byte (c0).toInt8.toInt32))] (.int (0 : Int32)) := (Arv.set Ar2 qa2 Sz2 Mz2 Hz2 Uz2 (fits_nar_byte _) W2 0 rfl (Nat.le_of_ble_eq_true rfl))
  have N2 := Fr.snoc X2 (Fr.nil n0) nb
  refine Go.st (T' := T2) (g' := (mkF m 32 #[.val (.ref a), .val (.int (0 : Int32)), .val (.ref b), .val (.int (0 : Int32)), .val (.int (1 : Int32)), .val (.int (0 : Int32)), .val (.int c0)] [])) st2 ?_
  refine Go.st (T' := T2) (g' := (mkF m 35 #[.val (.ref a), .val (.int (1 : Int32)), .val (.ref b), .val (.int (0 : Int32)), .val (.int (1 : Int32)), .val (.int (0 : Int32)), .val (.int c0)] [])) (fun _ hr => XT.iincV X2.here hx rfl (1 : Int32) (hb hby d5_32) (by decide) rfl (l' := #[.val (.ref a), .val (.int (1 : Int32)), .val (.ref b), .val (.int (0 : Int32)), .val (.int (1 : Int32)), .val (.int (0 : Int32)), .val (.int c0)]) rfl hr) ?_
  refine Go.st (T' := T2) (g' := (mkF m 38 #[.val (.ref a), .val (.int (1 : Int32)), .val (.ref b), .val (.int (1 : Int32)), .val (.int (1 : Int32)), .val (.int (0 : Int32)), .val (.int c0)] [])) (fun _ hr => XT.iincV X2.here hx rfl (1 : Int32) (hb hby d5_35) (by decide) rfl (l' := #[.val (.ref a), .val (.int (1 : Int32)), .val (.ref b), .val (.int (1 : Int32)), .val (.int (1 : Int32)), .val (.int (0 : Int32)), .val (.int c0)]) rfl hr) ?_
  refine Go.st (T' := T2) (g' := (mkF m 41 #[.val (.ref a), .val (.int (1 : Int32)), .val (.ref b), .val (.int (1 : Int32)), .val (.int (1 : Int32)), .val (.int (1 : Int32)), .val (.int c0)] [])) (fun _ hr => XT.iincV X2.here hx rfl (1 : Int32) (hb hby d5_38) (by decide) rfl (l' := #[.val (.ref a), .val (.int (1 : Int32)), .val (.ref b), .val (.int (1 : Int32)), .val (.int (1 : Int32)), .val (.int (1 : Int32)), .val (.int c0)]) rfl hr) ?_
  refine Go.st (T' := T2) (g' := (mkF m 3 #[.val (.ref a), .val (.int (1 : Int32)), .val (.ref b), .val (.int (1 : Int32)), .val (.int (1 : Int32)), .val (.int (1 : Int32)), .val (.int c0)] [])) (fun _ hr => XS.goto X2.here hx rfl (pc0 := 41) (pc' := 3) rfl (hb hby d5_41) (by decide) (by decide) hr) ?_
  refine Go.st (T' := T2) (g' := (mkF m 5 #[.val (.ref a), .val (.int (1 : Int32)), .val (.ref b), .val (.int (1 : Int32)), .val (.int (1 : Int32)), .val (.int (1 : Int32)), .val (.int c0)] [(.int (1 : Int32))])) (fun _ hr => XS.iload X2.here hx rfl (hb hby d5_3) rfl hr) ?_
  refine Go.st (T' := T2) (g' := (mkF m 7 #[.val (.ref a), .val (.int (1 : Int32)), .val (.ref b), .val (.int (1 : Int32)), .val (.int (1 : Int32)), .val (.int (1 : Int32)), .val (.int c0)] [(.int (1 : Int32)), (.int (1 : Int32))])) (fun _ hr => XS.iload X2.here hx rfl (hb hby d5_5) rfl hr) ?_
  refine Go.st (T' := T2) (g' := (mkF m 44 #[.val (.ref a), .val (.int (1 : Int32)), .val (.ref b), .val (.int (1 : Int32)), .val (.int (1 : Int32)), .val (.int (1 : Int32)), .val (.int c0)] [])) (fun _ hr => XS.icmpYes X2.here hx rfl (pc0 := 7) (pc' := 44) rfl (hb hby d5_7) rfl (XT.ii_ge_t (by decide)) (by decide) (by decide) hr) ?_
  refine Go.st (T' := T2) (g' := (mkF m 46 #[.val (.ref a), .val (.int (1 : Int32)), .val (.ref b), .val (.int (1 : Int32)), .val (.int (1 : Int32)), .val (.int (1 : Int32)), .val (.int c0)] [(.int (1 : Int32))])) (fun _ hr => XS.iload X2.here hx rfl (hb hby d5_44) rfl hr) ?_
  exact Go.retI X2 hx hlk hret (hb hby d5_46) (by decide) (by decide) (by rw [e2]; exact ⟨rfl, N2, fK_q_2, Vb_q_2⟩)
theorem ef_rm4_1 (m : MethodId) (a : Addr)  : entryFrame m #[(.ref a), (.int (0 : Int32)), (.int (1 : Int32))] 6 = mkF m 0 #[.val (.ref a), .val (.int (0 : Int32)), .val (.int (1 : Int32)), .unset, .unset, .unset] [] := by first | (simp [entryFrame, mkF, argsToLocals, Value.category]; done) | rfl
set_option maxRecDepth 65536 in
set_option maxHeartbeats 40000000 in
theorem rm4_1 (l : Launch) (Z : State) (a0 : Array Value) (hw : ∀ d ∈ tables_1, d.before a0 Z = true) (a : Addr) (c0 : Int32) (ka : ClassId)  (h0 : Heap) (n0 : Nat) (Z0 : n0 ≤ h0.size) (Va : Arv Z h0 a ka .char (1 : Int32) [(.int c0)] (.int (0 : Int32))) (hc0 : ¬ (255 : Int32) < c0) :
    MetQ l Z (⟨"java/lang/StringUTF16", "compress", "([CII)[B"⟩ : MethodName) jdk_52_method_16_code 6 (some (.array .byte)) [] ({ frames := 1, cells := 1, slots := 2, locals := 18 } : Room) #[(.ref a), (.int (0 : Int32)), (.int (1 : Int32))] h0 (fun v h L => ∃ b kb, v = some (.ref b) ∧ Fr n0 L ∧ Keep h0 h [] ∧ n0 ≤ b ∧ Arv Z h b kb .byte (1 : Int32) [(.int (nar .byte (c0).toInt8.toInt32))] (.int (0 : Int32))) := by
  refine MetQ.body (plainFor_of_name pn_2) fun p e s m below meth c s₁ hx hby hml hown hnm hret hlk hZ e0 X0 => Go.cast (ef_rm4_1 m a) ?_
  refine Go.st (T' := s₁) (g' := (mkF m 1 #[.val (.ref a), .val (.int (0 : Int32)), .val (.int (1 : Int32)), .unset, .unset, .unset] [(.int (1 : Int32))])) (fun _ hr => XS.iloadN X0.here hx rfl (hb hby d4_0) rfl hr) ?_
  obtain ⟨T1, h1, k1, X1, e1, E1, A1, st1⟩ := newP X0 hx hZ (hw _ (List.mem_of_getElem? (i := 19) rfl)) e0 (g := (mkF m 1 #[.val (.ref a), .val (.int (0 : Int32)), .val (.int (1 : Int32)), .unset, .unset, .unset] [(.int (1 : Int32))])) rfl (hb hby d4_1) rfl (by decide) (cap := 1) (by decide) (by decide) (by decide) (by decide)
  obtain ⟨a1, g1⟩ : ∃ z, z = h0.size := ⟨_, rfl⟩
  rw [← g1] at A1 st1
  have n_a1 : n0 ≤ a1 := Nat.le_trans Z0 (Nat.le_of_eq g1.symm)
  have ne_a_a1 : a ≠ a1 := Nat.ne_of_lt (Nat.lt_of_lt_of_eq Va.lt g1.symm)
  have hn_a1 : h0.size ≤ a1 := Nat.le_trans (Keep.refl h0 []).1 (Nat.le_of_eq g1.symm)
  have Z0_q_1 : n0 ≤ h1.size := (Nat.le_trans Z0 E1.1)
  have fK_q_1 : Keep h0 h1 [] := ((Keep.refl h0 []).ext E1)
  have Va_q_1 : Arv Z h1 a ka .char (1 : Int32) [(.int c0)] (.int (0 : Int32)) := (Va.ext E1)
  have V1 : Arv Z h1 a1 k1 .byte (1 : Int32) [(.int (0 : Int32))] (.int (0 : Int32)) := (Arv.new A1 (by decide)).pad (pad_rep [] (.int (0 : Int32)) 1)
  refine Go.st (T' := T1) (g' := (mkF m 3 #[.val (.ref a), .val (.int (0 : Int32)), .val (.int (1 : Int32)), .unset, .unset, .unset] [(.ref a1)])) st1 ?_
  refine Go.st (T' := T1) (g' := (mkF m 4 #[.val (.ref a), .val (.int (0 : Int32)), .val (.int (1 : Int32)), .val (.ref a1), .unset, .unset] [])) (fun _ hr => XS.astoreN X1.here hx rfl (hb hby d4_3) rfl rfl (l' := #[.val (.ref a), .val (.int (0 : Int32)), .val (.int (1 : Int32)), .val (.ref a1), .unset, .unset]) rfl hr) ?_
  refine Go.st (T' := T1) (g' := (mkF m 5 #[.val (.ref a), .val (.int (0 : Int32)), .val (.int (1 : Int32)), .val (.ref a1), .unset, .unset] [(.ref a)])) (fun _ hr => XS.aloadN X1.here hx rfl (hb hby d4_4) rfl rfl hr) ?_
  refine Go.st (T' := T1) (g' := (mkF m 6 #[.val (.ref a), .val (.int (0 : Int32)), .val (.int (1 : Int32)), .val (.ref a1), .unset, .unset] [(.int (0 : Int32)), (.ref a)])) (fun _ hr => XS.iloadN X1.here hx rfl (hb hby d4_5) rfl hr) ?_
  refine Go.st (T' := T1) (g' := (mkF m 7 #[.val (.ref a), .val (.int (0 : Int32)), .val (.int (1 : Int32)), .val (.ref a1), .unset, .unset] [(.ref a1), (.int (0 : Int32)), (.ref a)])) (fun _ hr => XS.aloadN X1.here hx rfl (hb hby d4_6) rfl rfl hr) ?_
  refine Go.st (T' := T1) (g' := (mkF m 8 #[.val (.ref a), .val (.int (0 : Int32)), .val (.int (1 : Int32)), .val (.ref a1), .unset, .unset] [(.int (0 : Int32)), (.ref a1), (.int (0 : Int32)), (.ref a)])) (fun _ hr => XT.iconstV X1.here hx rfl (0 : Int32) (hb hby d4_7) (by decide) hr) ?_
  refine Go.st (T' := T1) (g' := (mkF m 9 #[.val (.ref a), .val (.int (0 : Int32)), .val (.int (1 : Int32)), .val (.ref a1), .unset, .unset] [(.int (1 : Int32)), (.int (0 : Int32)), (.ref a1), (.int (0 : Int32)), (.ref a)])) (fun _ hr => XS.iloadN X1.here hx rfl (hb hby d4_8) rfl hr) ?_
  refine Go.callS X1 hx hZ hown (W := 0) (hw _ (List.mem_of_getElem? (i := 20) rfl)) (hw _ (List.mem_of_getElem? (i := 21) rfl)) (hw _ (List.mem_of_getElem? (i := 17) rfl)) (hw _ (List.mem_of_getElem? (i := 22) rfl)) (by decide) e1 (rm5_1 l Z a0 hw a a1 c0 ka k1 h1 n0 n_a1 ne_a_a1 Va_q_1 V1 hc0) (by decide) (by decide) (by decide) (by decide) (g := (mkF m 9 #[.val (.ref a), .val (.int (0 : Int32)), .val (.int (1 : Int32)), .val (.ref a1), .unset, .unset] [(.int (1 : Int32)), (.int (0 : Int32)), (.ref a1), (.int (0 : Int32)), (.ref a)])) rfl (by rw [hml]; rfl) (argsL := [(.ref a), (.int (0 : Int32)), (.ref a1), (.int (0 : Int32)), (.int (1 : Int32))]) (rest := []) (lenOf pd_5 rfl) rfl (by show 2 * 0 + _ ≤ _; exact Nat.le_of_eq rfl) (hb hby d4_9) (fun v2 T2 L2 X2 q2 => ?_)
  obtain ⟨h2, e2⟩ : ∃ z, T2.heap = z := ⟨_, rfl⟩
  rw [e2] at q2
  obtain ⟨rfl, N2q, K2, VV2⟩ := q2
  have N2 := Fr.app (Fr.nil n0) N2q
  have Z0_q_2 : n0 ≤ h2.size := (Nat.le_trans Z0_q_1 K2.1)
  have fK_q_2 : Keep h0 h2 [] := (fK_q_1.trans K2 (allS (Or.inr hn_a1) all0))
  have Va_q_2 : Arv Z h2 a ka .char (1 : Int32) [(.int c0)] (.int (0 : Int32)) := (Va_q_1.keep K2 (ninS ne_a_a1 nin0))
  show Go p.tables e below (Fin s (fun v h L => ∃ b kb, v = some (.ref b) ∧ Fr n0 L ∧ Keep h0 h [] ∧ n0 ≤ b ∧ Arv Z h b kb .byte (1 : Int32) [(.int (nar .byte (c0).toInt8.toInt32))] (.int (0 : Int32))) ({ frames := 1, cells := 1, slots := 2, locals := 18 } : Room).cells ({ frames := 1, cells := 1, slots := 2, locals := 18 } : Room).slots) T2 (mkF m 12 #[.val (.ref a), .val (.int (0 : Int32)), .val (.int (1 : Int32)), .val (.ref a1), .unset, .unset] [(.int (1 : Int32))])
  refine Go.st (T' := T2) (g' := (mkF m 14 #[.val (.ref a), .val (.int (0 : Int32)), .val (.int (1 : Int32)), .val (.ref a1), .val (.int (1 : Int32)), .unset] [])) (fun _ hr => XS.istore X2.here hx rfl (hb hby d4_12) rfl (l' := #[.val (.ref a), .val (.int (0 : Int32)), .val (.int (1 : Int32)), .val (.ref a1), .val (.int (1 : Int32)), .unset]) rfl hr) ?_
  refine Go.st (T' := T2) (g' := (mkF m 16 #[.val (.ref a), .val (.int (0 : Int32)), .val (.int (1 : Int32)), .val (.ref a1), .val (.int (1 : Int32)), .unset] [(.int (1 : Int32))])) (fun _ hr => XS.iload X2.here hx rfl (hb hby d4_14) rfl hr) ?_
  refine Go.st (T' := T2) (g' := (mkF m 17 #[.val (.ref a), .val (.int (0 : Int32)), .val (.int (1 : Int32)), .val (.ref a1), .val (.int (1 : Int32)), .unset] [(.int (1 : Int32)), (.int (1 : Int32))])) (fun _ hr => XS.iloadN X2.here hx rfl (hb hby d4_16) rfl hr) ?_
  refine Go.st (T' := T2) (g' := (mkF m 57 #[.val (.ref a), .val (.int (0 : Int32)), .val (.int (1 : Int32)), .val (.ref a1), .val (.int (1 : Int32)), .unset] [])) (fun _ hr => XS.icmpYes X2.here hx rfl (pc0 := 17) (pc' := 57) rfl (hb hby d4_17) rfl (XT.ii_eq_t (by decide)) (by decide) (by decide) hr) ?_
  refine Go.st (T' := T2) (g' := (mkF m 58 #[.val (.ref a), .val (.int (0 : Int32)), .val (.int (1 : Int32)), .val (.ref a1), .val (.int (1 : Int32)), .unset] [(.ref a1)])) (fun _ hr => XS.aloadN X2.here hx rfl (hb hby d4_57) rfl rfl hr) ?_
  exact Go.retA X2 hx hlk hret rfl rfl (hb hby d4_58) (by decide) (by decide) (by rw [e2]; exact ⟨_, _, rfl, N2, fK_q_2, n_a1, VV2⟩)
theorem ef_rm6_1 (m : MethodId) (b : Addr)  : entryFrame m #[(.ref b), (.int (1 : Int32))] 2 = mkF m 0 #[.val (.ref b), .val (.int (1 : Int32))] [] := by first | (simp [entryFrame, mkF, argsToLocals, Value.category]; done) | rfl
set_option maxRecDepth 65536 in
set_option maxHeartbeats 40000000 in
theorem rm6_1 (l : Launch) (Z : State) (a0 : Array Value) (hw : ∀ d ∈ tables_1, d.before a0 Z = true) (b : Addr) (c0 : Int32) (kb : ClassId)  (h0 : Heap) (Vb : Arv Z h0 b kb .byte (1 : Int32) [(.int (nar .byte (c0).toInt8.toInt32))] (.int (0 : Int32))) :
    MetQ l Z (⟨"java/lang/StringUTF16", "coderFromArrayLen", "([BI)B"⟩ : MethodName) jdk_52_method_15_code 2 (some .byte) [] ({ frames := 0, cells := 0, slots := 0, locals := 0 } : Room) #[(.ref b), (.int (1 : Int32))] h0 (PQ (.int (nar .byte ((XT.ushr ((1 : Int32) - (1 : Int32)) (31 : Int32))).toInt8.toInt32)) h0) := by
  refine MetQ.body (plainFor_of_name pn_2) fun p e s m below meth c s₁ hx hby hml hown hnm hret hlk hZ e0 X0 => Go.cast (ef_rm6_1 m b) ?_
  refine Go.st (T' := s₁) (g' := (mkF m 1 #[.val (.ref b), .val (.int (1 : Int32))] [(.int (1 : Int32))])) (fun _ hr => XS.iloadN X0.here hx rfl (hb hby d6_0) rfl hr) ?_
  refine Go.st (T' := s₁) (g' := (mkF m 2 #[.val (.ref b), .val (.int (1 : Int32))] [(.ref b), (.int (1 : Int32))])) (fun _ hr => XS.aloadN X0.here hx rfl (hb hby d6_1) rfl rfl hr) ?_
  obtain ⟨cl1, Ar1, qa1, Sz1, Mz1, Hz1, Uz1⟩ := (id Vb)
  refine Go.st (T' := s₁) (g' := (mkF m 3 #[.val (.ref b), .val (.int (1 : Int32))] [(.int cl1.slots.size.toInt32), (.int (1 : Int32))])) (fun t hr => X0.arraylength hx (by rw [e0]; exact Ar1.1) (State.isArrayOf_alike hZ.alike Ar1.2.1) (g := (mkF m 2 #[.val (.ref b), .val (.int (1 : Int32))] [(.ref b), (.int (1 : Int32))])) rfl rfl (hb hby d6_2) t hr) ?_
  rw [len_of Sz1 Mz1]
  show Go p.tables e below (Fin s (PQ (.int (nar .byte ((XT.ushr ((1 : Int32) - (1 : Int32)) (31 : Int32))).toInt8.toInt32)) h0) ({ frames := 0, cells := 0, slots := 0, locals := 0 } : Room).cells ({ frames := 0, cells := 0, slots := 0, locals := 0 } : Room).slots) s₁ (mkF m 3 #[.val (.ref b), .val (.int (1 : Int32))] [(.int (1 : Int32)), (.int (1 : Int32))])
  refine Go.st (T' := s₁) (g' := (mkF m 4 #[.val (.ref b), .val (.int (1 : Int32))] [(.int ((1 : Int32) - (1 : Int32)))])) (fun _ hr => XS.isub X0.here hx rfl (hb hby d6_3) rfl hr) ?_
  refine Go.st (T' := s₁) (g' := (mkF m 6 #[.val (.ref b), .val (.int (1 : Int32))] [(.int (31 : Int32)), (.int ((1 : Int32) - (1 : Int32)))])) (fun _ hr => XT.bipushV X0.here hx rfl (31 : Int32) (hb hby d6_4) (by decide) hr) ?_
  refine Go.st (T' := s₁) (g' := (mkF m 7 #[.val (.ref b), .val (.int (1 : Int32))] [(.int (XT.ushr ((1 : Int32) - (1 : Int32)) (31 : Int32)))])) (fun _ hr => XT.iushr X0.here hx rfl (hb hby d6_6) rfl hr) ?_
  refine Go.st (T' := s₁) (g' := (mkF m 8 #[.val (.ref b), .val (.int (1 : Int32))] [(.int ((XT.ushr ((1 : Int32) - (1 : Int32)) (31 : Int32))).toInt8.toInt32)])) (fun _ hr => XT.i2b X0.here hx rfl (hb hby d6_7) rfl hr) ?_
  exact Go.retN X0 hx hlk hret (by simp) (hb hby d6_8) (by decide) (by decide) ⟨rfl, rfl, e0⟩
theorem ef_rm2_1 (m : MethodId) (s0 : Addr) (a : Addr)  : entryFrame m #[(.ref s0), (.ref a), (.int (0 : Int32)), (.int (1 : Int32)), .null] 6 = mkF m 0 #[.val (.ref s0), .val (.ref a), .val (.int (0 : Int32)), .val (.int (1 : Int32)), .val .null, .unset] [] := by first | (simp [entryFrame, mkF, argsToLocals, Value.category]; done) | rfl
set_option maxRecDepth 65536 in
set_option maxHeartbeats 40000000 in
theorem rm2_1 (l : Launch) (Z : State) (a0 : Array Value) (hw : ∀ d ∈ tables_1, d.before a0 Z = true) (s0 : Addr) (a : Addr) (c0 : Int32) (ka : ClassId) (w : Int32)  (h0 : Heap) (n0 : Nat) (ng : n0 ≤ s0) (Z0 : n0 ≤ h0.size) (nsa : s0 ≠ a) (E0 : Exa Z h0 s0 "java/lang/String") (F1 : Fld Z h0 s0 "java/lang/String" "value" "[B" .null) (F2 : Fld Z h0 s0 "java/lang/String" "coder" "B" (.int (0 : Int32))) (Va : Arv Z h0 a ka .char (1 : Int32) [(.int c0)] (.int (0 : Int32))) (hc0 : ¬ (255 : Int32) < c0) (hcs : ¬ w = (0 : Int32)) (S0 : Sta Z h0 "java/lang/String" "COMPACT_STRINGS" "Z" (.int w)) :
    MetQ l Z (⟨"java/lang/String", "<init>", "([CIILjava/lang/Void;)V"⟩ : MethodName) jdk_42_method_149_code 6 none [] ({ frames := 2, cells := 1, slots := 2, locals := 35 } : Room) #[(.ref s0), (.ref a), (.int (0 : Int32)), (.int (1 : Int32)), .null] h0 (fun v h L => v = none ∧ Fr n0 L ∧ Keep h0 h [s0]) := by
  refine MetQ.body (plainFor_of_name pn_1) fun p e s m below meth c s₁ hx hby hml hown hnm hret hlk hZ e0 X0 => Go.cast (ef_rm2_1 m s0 a) ?_
  refine Go.st (T' := s₁) (g' := (mkF m 1 #[.val (.ref s0), .val (.ref a), .val (.int (0 : Int32)), .val (.int (1 : Int32)), .val .null, .unset] [(.ref s0)])) (fun _ hr => XS.aloadN X0.here hx rfl (hb hby d2_0) rfl rfl hr) ?_
  obtain ⟨T1, X1, e1, st1⟩ := initO X0 hx hZ hown (hw _ (List.mem_of_getElem? (i := 11) rfl)) (hw _ (List.mem_of_getElem? (i := 12) rfl)) (hw _ (List.mem_of_getElem? (i := 13) rfl)) e0 (g := (mkF m 1 #[.val (.ref s0), .val (.ref a), .val (.int (0 : Int32)), .val (.int (1 : Int32)), .val .null, .unset] [(.ref s0)])) rfl (by rw [hml]; rfl) rfl (hb hby d2_1) (by decide) (W := 0) (by show 2 * 0 + _ ≤ _; exact Nat.le_of_eq rfl) (by decide)
  refine Go.st (T' := T1) (g' := (mkF m 4 #[.val (.ref s0), .val (.ref a), .val (.int (0 : Int32)), .val (.int (1 : Int32)), .val .null, .unset] [])) st1 ?_
  refine Go.st (T' := T1) (g' := (mkF m 5 #[.val (.ref s0), .val (.ref a), .val (.int (0 : Int32)), .val (.int (1 : Int32)), .val .null, .unset] [(.int (1 : Int32))])) (fun _ hr => XS.iloadN X1.here hx rfl (hb hby d2_4) rfl hr) ?_
  refine Go.st (T' := T1) (g' := (mkF m 27 #[.val (.ref s0), .val (.ref a), .val (.int (0 : Int32)), .val (.int (1 : Int32)), .val .null, .unset] [])) (fun _ hr => XS.ifYes X1.here hx rfl (pc0 := 5) (pc' := 27) rfl (hb hby d2_5) rfl (XT.i0_ne_t (by decide)) (by decide) (by decide) hr) ?_
  obtain ⟨T2, X2, e2, st2⟩ := getS2 X1 hx hZ hown (host := "") (Or.inl (hw _ (List.mem_of_getElem? (i := 14) rfl))) Via.refl e1 S0 (g := (mkF m 27 #[.val (.ref s0), .val (.ref a), .val (.int (0 : Int32)), .val (.int (1 : Int32)), .val .null, .unset] [])) rfl (hb hby d2_27)
  refine Go.st (T' := T2) (g' := (mkF m 30 #[.val (.ref s0), .val (.ref a), .val (.int (0 : Int32)), .val (.int (1 : Int32)), .val .null, .unset] [(.int w)])) st2 ?_
  refine Go.st (T' := T2) (g' := (mkF m 33 #[.val (.ref s0), .val (.ref a), .val (.int (0 : Int32)), .val (.int (1 : Int32)), .val .null, .unset] [])) (fun _ hr => XS.ifNo X2.here hx rfl (hb hby d2_30) rfl (XT.i0_eq_f hcs) hr) ?_
  refine Go.st (T' := T2) (g' := (mkF m 34 #[.val (.ref s0), .val (.ref a), .val (.int (0 : Int32)), .val (.int (1 : Int32)), .val .null, .unset] [(.ref a)])) (fun _ hr => XS.aloadN X2.here hx rfl (hb hby d2_33) rfl rfl hr) ?_
  refine Go.st (T' := T2) (g' := (mkF m 35 #[.val (.ref s0), .val (.ref a), .val (.int (0 : Int32)), .val (.int (1 : Int32)), .val .null, .unset] [(.int (0 : Int32)), (.ref a)])) (fun _ hr => XS.iloadN X2.here hx rfl (hb hby d2_34) rfl hr) ?_
  refine Go.st (T' := T2) (g' := (mkF m 36 #[.val (.ref s0), .val (.ref a), .val (.int (0 : Int32)), .val (.int (1 : Int32)), .val .null, .unset] [(.int (1 : Int32)), (.int (0 : Int32)), (.ref a)])) (fun _ hr => XS.iloadN X2.here hx rfl (hb hby d2_35) rfl hr) ?_
  refine Go.callS X2 hx hZ hown (W := 0) (hw _ (List.mem_of_getElem? (i := 15) rfl)) (hw _ (List.mem_of_getElem? (i := 16) rfl)) (hw _ (List.mem_of_getElem? (i := 17) rfl)) (hw _ (List.mem_of_getElem? (i := 18) rfl)) (by decide) e2 (rm4_1 l Z a0 hw a c0 ka h0 n0 Z0 Va hc0) (by decide) (by decide) (by decide) (by decide) (g := (mkF m 36 #[.val (.ref s0), .val (.ref a), .val (.int (0 : Int32)), .val (.int (1 : Int32)), .val .null, .unset] [(.int (1 : Int32)), (.int (0 : Int32)), (.ref a)])) rfl (by rw [hml]; rfl) (argsL := [(.ref a), (.int (0 : Int32)), (.int (1 : Int32))]) (rest := []) (lenOf pd_6 rfl) rfl (by show 2 * 0 + _ ≤ _; exact Nat.le_of_eq rfl) (hb hby d2_36) (fun v3 T3 L3 X3 q3 => ?_)
  obtain ⟨h3, e3⟩ : ∃ z, T3.heap = z := ⟨_, rfl⟩
  rw [e3] at q3
  obtain ⟨a3, k3, rfl, N3q, K3, n_a3, VV3⟩ := q3
  have N3 := Fr.app (Fr.nil n0) N3q
  have Z0_q_3 : n0 ≤ h3.size := (Nat.le_trans Z0 K3.1)
  have fK_q_3 : Keep h0 h3 [s0] := ((Keep.refl h0 [s0]).trans K3 all0)
  have E0_q_3 : Exa Z h3 s0 "java/lang/String" := (E0.keep K3)
  have F1_q_3 : Fld Z h3 s0 "java/lang/String" "value" "[B" .null := (F1.keep K3 nin0)
  have F2_q_3 : Fld Z h3 s0 "java/lang/String" "coder" "B" (.int (0 : Int32)) := (F2.keep K3 nin0)
  have Va_q_3 : Arv Z h3 a ka .char (1 : Int32) [(.int c0)] (.int (0 : Int32)) := (Va.keep K3 nin0)
  show Go p.tables e below (Fin s (fun v h L => v = none ∧ Fr n0 L ∧ Keep h0 h [s0]) ({ frames := 2, cells := 1, slots := 2, locals := 35 } : Room).cells ({ frames := 2, cells := 1, slots := 2, locals := 35 } : Room).slots) T3 (mkF m 39 #[.val (.ref s0), .val (.ref a), .val (.int (0 : Int32)), .val (.int (1 : Int32)), .val .null, .unset] [(.ref a3)])
  refine Go.st (T' := T3) (g' := (mkF m 41 #[.val (.ref s0), .val (.ref a), .val (.int (0 : Int32)), .val (.int (1 : Int32)), .val .null, .val (.ref a3)] [])) (fun _ hr => XS.astore X3.here hx rfl (hb hby d2_39) rfl rfl (l' := #[.val (.ref s0), .val (.ref a), .val (.int (0 : Int32)), .val (.int (1 : Int32)), .val .null, .val (.ref a3)]) rfl hr) ?_
  refine Go.st (T' := T3) (g' := (mkF m 42 #[.val (.ref s0), .val (.ref a), .val (.int (0 : Int32)), .val (.int (1 : Int32)), .val .null, .val (.ref a3)] [(.ref s0)])) (fun _ hr => XS.aloadN X3.here hx rfl (hb hby d2_41) rfl rfl hr) ?_
  refine Go.st (T' := T3) (g' := (mkF m 44 #[.val (.ref s0), .val (.ref a), .val (.int (0 : Int32)), .val (.int (1 : Int32)), .val .null, .val (.ref a3)] [(.ref a3), (.ref s0)])) (fun _ hr => XS.aload X3.here hx rfl (hb hby d2_42) rfl rfl hr) ?_
  refine Go.st (T' := T3) (g' := (mkF m 45 #[.val (.ref s0), .val (.ref a), .val (.int (0 : Int32)), .val (.int (1 : Int32)), .val .null, .val (.ref a3)] [(.int (1 : Int32)), (.ref a3), (.ref s0)])) (fun _ hr => XS.iloadN X3.here hx rfl (hb hby d2_44) rfl hr) ?_
  refine Go.callP X3 hx hZ hown (W := 1) (hw _ (List.mem_of_getElem? (i := 23) rfl)) (hw _ (List.mem_of_getElem? (i := 24) rfl)) (hw _ (List.mem_of_getElem? (i := 17) rfl)) (hw _ (List.mem_of_getElem? (i := 25) rfl)) (by decide) e3 (rm6_1 l Z a0 hw a3 c0 k3 h3 VV3) (by decide) (by decide) (by decide) (by decide) (g := (mkF m 45 #[.val (.ref s0), .val (.ref a), .val (.int (0 : Int32)), .val (.int (1 : Int32)), .val .null, .val (.ref a3)] [(.int (1 : Int32)), (.ref a3), (.ref s0)])) rfl (by rw [hml]; rfl) (argsL := [(.ref a3), (.int (1 : Int32))]) (rest := [(.ref s0)]) (lenOf pd_7 rfl) rfl (by show 2 * 0 + _ ≤ _; exact Nat.le_of_eq rfl) (hb hby d2_45) (fun T4 X4 e4 => ?_)
  show Go p.tables e below (Fin s (fun v h L => v = none ∧ Fr n0 L ∧ Keep h0 h [s0]) ({ frames := 2, cells := 1, slots := 2, locals := 35 } : Room).cells ({ frames := 2, cells := 1, slots := 2, locals := 35 } : Room).slots) T4 (mkF m 48 #[.val (.ref s0), .val (.ref a), .val (.int (0 : Int32)), .val (.int (1 : Int32)), .val .null, .val (.ref a3)] [(.int (nar .byte ((XT.ushr ((1 : Int32) - (1 : Int32)) (31 : Int32))).toInt8.toInt32)), (.ref s0)])
  obtain ⟨T5, h5, X5, e5, W5, st5⟩ := putFN X4 hx hZ hown (hw _ (List.mem_of_getElem? (i := 26) rfl)) Via.refl e4 F2_q_3 E0_q_3 (Or.inr ⟨(hw _ (List.mem_of_getElem? (i := 27) rfl)), rfl, hnm⟩) (hw _ (List.mem_of_getElem? (i := 1) rfl)) (ty := .byte) (v' := (.int (nar .byte (nar .byte ((XT.ushr ((1 : Int32) - (1 : Int32)) (31 : Int32))).toInt8.toInt32)))) (by decide) rfl (fits_nar_byte _) (g := (mkF m 48 #[.val (.ref s0), .val (.ref a), .val (.int (0 : Int32)), .val (.int (1 : Int32)), .val .null, .val (.ref a3)] [(.int (nar .byte ((XT.ushr ((1 : Int32) - (1 : Int32)) (31 : Int32))).toInt8.toInt32)), (.ref s0)])) rfl rfl (hb hby d2_48)
  have Z0_q_5 : n0 ≤ h5.size := (Nat.le_trans Z0_q_3 (Keep.of_wr W5).1)
  have fK_q_5 : Keep h0 h5 [s0] := (fK_q_3.wr W5 (Or.inl (List.mem_of_getElem? (i := 0) rfl)))
  have E0_q_5 : Exa Z h5 s0 "java/lang/String" := (E0_q_3.wr W5)
  have F1_q_5 : Fld Z h5 s0 "java/lang/String" "value" "[B" .null := (F1_q_3.other W5 (Or.inr (slot_ne (Or.inr (hw _ (List.mem_of_getElem? (i := 29) rfl))) (Or.inr (hw _ (List.mem_of_getElem? (i := 27) rfl))) (by decide) (t := (.array .byte)) (t' := .byte) (by decide) (by decide))))
  have F2_q_5 : Fld Z h5 s0 "java/lang/String" "coder" "B" (.int (nar .byte (nar .byte ((XT.ushr ((1 : Int32) - (1 : Int32)) (31 : Int32))).toInt8.toInt32))) := (F2_q_3.same W5)
  have Va_q_5 : Arv Z h5 a ka .char (1 : Int32) [(.int c0)] (.int (0 : Int32)) := (Va_q_3.other W5 (Ne.symm nsa))
  have N5 := Fr.snoc X5 N3 ng
  refine Go.st (T' := T5) (g' := (mkF m 51 #[.val (.ref s0), .val (.ref a), .val (.int (0 : Int32)), .val (.int (1 : Int32)), .val .null, .val (.ref a3)] [])) st5 ?_
  refine Go.st (T' := T5) (g' := (mkF m 52 #[.val (.ref s0), .val (.ref a), .val (.int (0 : Int32)), .val (.int (1 : Int32)), .val .null, .val (.ref a3)] [(.ref s0)])) (fun _ hr => XS.aloadN X5.here hx rfl (hb hby d2_51) rfl rfl hr) ?_
  refine Go.st (T' := T5) (g' := (mkF m 54 #[.val (.ref s0), .val (.ref a), .val (.int (0 : Int32)), .val (.int (1 : Int32)), .val .null, .val (.ref a3)] [(.ref a3), (.ref s0)])) (fun _ hr => XS.aload X5.here hx rfl (hb hby d2_52) rfl rfl hr) ?_
  obtain ⟨T6, h6, X6, e6, W6, st6⟩ := putF X5 hx hZ hown (host := "") (Or.inl (hw _ (List.mem_of_getElem? (i := 28) rfl))) Via.refl e5 F1_q_5 E0_q_5 (Or.inr ⟨(hw _ (List.mem_of_getElem? (i := 29) rfl)), rfl, hnm⟩) (hw _ (List.mem_of_getElem? (i := 1) rfl)) (ty := (.array .byte)) (by decide) rfl rfl (g := (mkF m 54 #[.val (.ref s0), .val (.ref a), .val (.int (0 : Int32)), .val (.int (1 : Int32)), .val .null, .val (.ref a3)] [(.ref a3), (.ref s0)])) rfl rfl (hb hby d2_54)
  have Z0_q_6 : n0 ≤ h6.size := (Nat.le_trans Z0_q_5 (Keep.of_wr W6).1)
  have fK_q_6 : Keep h0 h6 [s0] := (fK_q_5.wr W6 (Or.inl (List.mem_of_getElem? (i := 0) rfl)))
  have E0_q_6 : Exa Z h6 s0 "java/lang/String" := (E0_q_5.wr W6)
  have F1_q_6 : Fld Z h6 s0 "java/lang/String" "value" "[B" (.ref a3) := (F1_q_5.same W6)
  have F2_q_6 : Fld Z h6 s0 "java/lang/String" "coder" "B" (.int (nar .byte (nar .byte ((XT.ushr ((1 : Int32) - (1 : Int32)) (31 : Int32))).toInt8.toInt32))) := (F2_q_5.other W6 (Or.inr (slot_ne (Or.inr (hw _ (List.mem_of_getElem? (i := 27) rfl))) (Or.inr (hw _ (List.mem_of_getElem? (i := 29) rfl))) (by decide) (t := .byte) (t' := (.array .byte)) (by decide) (by decide))))
  have Va_q_6 : Arv Z h6 a ka .char (1 : Int32) [(.int c0)] (.int (0 : Int32)) := (Va_q_5.other W6 (Ne.symm nsa))
  have N6 := Fr.snoc X6 N5 ng
  refine Go.st (T' := T6) (g' := (mkF m 57 #[.val (.ref s0), .val (.ref a), .val (.int (0 : Int32)), .val (.int (1 : Int32)), .val .null, .val (.ref a3)] [])) st6 ?_
  exact Go.retV X6 hx hlk hret (hb hby d2_57) (by decide) (by decide) (by rw [e6]; exact ⟨rfl, N6, fK_q_6⟩)
theorem ef_rm1_1 (m : MethodId) (s0 : Addr) (a : Addr)  : entryFrame m #[(.ref s0), (.ref a)] 2 = mkF m 0 #[.val (.ref s0), .val (.ref a)] [] := by first | (simp [entryFrame, mkF, argsToLocals, Value.category]; done) | rfl
set_option maxRecDepth 65536 in
set_option maxHeartbeats 40000000 in
theorem rm1_1 (l : Launch) (Z : State) (a0 : Array Value) (hw : ∀ d ∈ tables_1, d.before a0 Z = true) (s0 : Addr) (a : Addr) (c0 : Int32) (ka : ClassId) (w : Int32)  (h0 : Heap) (n0 : Nat) (ng : n0 ≤ s0) (Z0 : n0 ≤ h0.size) (nsa : s0 ≠ a) (E0 : Exa Z h0 s0 "java/lang/String") (F1 : Fld Z h0 s0 "java/lang/String" "value" "[B" .null) (F2 : Fld Z h0 s0 "java/lang/String" "coder" "B" (.int (0 : Int32))) (Va : Arv Z h0 a ka .char (1 : Int32) [(.int c0)] (.int (0 : Int32))) (hc0 : ¬ (255 : Int32) < c0) (hcs : ¬ w = (0 : Int32)) (S0 : Sta Z h0 "java/lang/String" "COMPACT_STRINGS" "Z" (.int w)) :
    MetQ l Z (⟨"java/lang/String", "<init>", "([C)V"⟩ : MethodName) jdk_42_method_3_code 2 none [] ({ frames := 3, cells := 1, slots := 2, locals := 52 } : Room) #[(.ref s0), (.ref a)] h0 (fun v h L => v = none ∧ Fr n0 L ∧ Keep h0 h [s0]) := by
  refine MetQ.body (plainFor_of_name pn_1) fun p e s m below meth c s₁ hx hby hml hown hnm hret hlk hZ e0 X0 => Go.cast (ef_rm1_1 m s0 a) ?_
  refine Go.st (T' := s₁) (g' := (mkF m 1 #[.val (.ref s0), .val (.ref a)] [(.ref s0)])) (fun _ hr => XS.aloadN X0.here hx rfl (hb hby d1_0) rfl rfl hr) ?_
  refine Go.st (T' := s₁) (g' := (mkF m 2 #[.val (.ref s0), .val (.ref a)] [(.ref a), (.ref s0)])) (fun _ hr => XS.aloadN X0.here hx rfl (hb hby d1_1) rfl rfl hr) ?_
  refine Go.st (T' := s₁) (g' := (mkF m 3 #[.val (.ref s0), .val (.ref a)] [(.int (0 : Int32)), (.ref a), (.ref s0)])) (fun _ hr => XT.iconstV X0.here hx rfl (0 : Int32) (hb hby d1_2) (by decide) hr) ?_
  refine Go.st (T' := s₁) (g' := (mkF m 4 #[.val (.ref s0), .val (.ref a)] [(.ref a), (.int (0 : Int32)), (.ref a), (.ref s0)])) (fun _ hr => XS.aloadN X0.here hx rfl (hb hby d1_3) rfl rfl hr) ?_
  obtain ⟨cl1, Ar1, qa1, Sz1, Mz1, Hz1, Uz1⟩ := (id Va)
  refine Go.st (T' := s₁) (g' := (mkF m 5 #[.val (.ref s0), .val (.ref a)] [(.int cl1.slots.size.toInt32), (.int (0 : Int32)), (.ref a), (.ref s0)])) (fun t hr => X0.arraylength hx (by rw [e0]; exact Ar1.1) (State.isArrayOf_alike hZ.alike Ar1.2.1) (g := (mkF m 4 #[.val (.ref s0), .val (.ref a)] [(.ref a), (.int (0 : Int32)), (.ref a), (.ref s0)])) rfl rfl (hb hby d1_4) t hr) ?_
  rw [len_of Sz1 Mz1]
  show Go p.tables e below (Fin s (fun v h L => v = none ∧ Fr n0 L ∧ Keep h0 h [s0]) ({ frames := 3, cells := 1, slots := 2, locals := 52 } : Room).cells ({ frames := 3, cells := 1, slots := 2, locals := 52 } : Room).slots) s₁ (mkF m 5 #[.val (.ref s0), .val (.ref a)] [(.int (1 : Int32)), (.int (0 : Int32)), (.ref a), (.ref s0)])
  refine Go.st (T' := s₁) (g' := (mkF m 6 #[.val (.ref s0), .val (.ref a)] [.null, (.int (1 : Int32)), (.int (0 : Int32)), (.ref a), (.ref s0)])) (fun _ hr => XS.aconstNull X0.here hx rfl (hb hby d1_5) hr) ?_
  refine Go.callC X0 hx hZ hown (W := 0) (y := (⟨"java/lang/String", "<init>", "([CIILjava/lang/Void;)V"⟩ : MethodName)) rfl (hw _ (List.mem_of_getElem? (i := 7) rfl)) (hw _ (List.mem_of_getElem? (i := 8) rfl)) (hw _ (List.mem_of_getElem? (i := 2) rfl)) (hw _ (List.mem_of_getElem? (i := 10) rfl)) (by decide) e0 (rm2_1 l Z a0 hw s0 a c0 ka w h0 n0 ng Z0 nsa E0 F1 F2 Va hc0 hcs S0) (by decide) (by decide) (by decide) (by decide) (g := (mkF m 6 #[.val (.ref s0), .val (.ref a)] [.null, (.int (1 : Int32)), (.int (0 : Int32)), (.ref a), (.ref s0)])) rfl (by rw [hml]; rfl) (argsL := [(.ref a), (.int (0 : Int32)), (.int (1 : Int32)), .null]) (rest := []) (lenOf pd_8 rfl) rfl (by show 2 * 0 + _ ≤ _; exact Nat.le_of_eq rfl) (hb hby d1_6) (fun v2 T2 L2 X2 q2 => ?_)
  obtain ⟨h2, e2⟩ : ∃ z, T2.heap = z := ⟨_, rfl⟩
  rw [e2] at q2
  obtain ⟨rfl, N2q, K2⟩ := q2
  have N2 := Fr.app (Fr.nil n0) N2q
  have Z0_q_2 : n0 ≤ h2.size := (Nat.le_trans Z0 K2.1)
  have fK_q_2 : Keep h0 h2 [s0] := ((Keep.refl h0 [s0]).trans K2 (allS (Or.inl (List.mem_of_getElem? (i := 0) rfl)) all0))
  have E0_q_2 : Exa Z h2 s0 "java/lang/String" := (E0.keep K2)
  have Va_q_2 : Arv Z h2 a ka .char (1 : Int32) [(.int c0)] (.int (0 : Int32)) := (Va.keep K2 (ninS (Ne.symm nsa) nin0))
  show Go p.tables e below (Fin s (fun v h L => v = none ∧ Fr n0 L ∧ Keep h0 h [s0]) ({ frames := 3, cells := 1, slots := 2, locals := 52 } : Room).cells ({ frames := 3, cells := 1, slots := 2, locals := 52 } : Room).slots) T2 (mkF m 9 #[.val (.ref s0), .val (.ref a)] [])
  exact Go.retV X2 hx hlk hret (hb hby d1_9) (by decide) (by decide) (by rw [e2]; exact ⟨rfl, N2, fK_q_2⟩)
theorem d11_0 : decode jdk_30_method_1_code 0 = .ok (.aload_n 0, 1) := by decide +kernel
theorem d11_1 : decode jdk_30_method_1_code 1 = .ok (.invokespecial 1, 3) := by decide +kernel
theorem d11_4 : decode jdk_30_method_1_code 4 = .ok (.return_, 1) := by decide +kernel
theorem pn_3 : plainName "java/lang/Record" = true := by first | (simp [plainName, overriddenIn]; done) | decide +kernel
theorem ef_rm11 (m : MethodId) (p0 : Addr)  : entryFrame m #[(.ref p0)] 1 = mkF m 0 #[.val (.ref p0)] [] := by first | (simp [entryFrame, mkF, argsToLocals, Value.category]; done) | rfl
set_option maxRecDepth 65536 in
set_option maxHeartbeats 40000000 in
theorem rm11 (l : Launch) (Z : State) (a0 : Array Value) (hw : ∀ d ∈ tables_1, d.before a0 Z = true) (p0 : Addr)  (h0 : Heap)  :
    MetQ l Z (⟨"java/lang/Record", "<init>", "()V"⟩ : MethodName) jdk_30_method_1_code 1 none [] ({ frames := 1, cells := 0, slots := 0, locals := 12 } : Room) #[(.ref p0)] h0 (fun v h L => v = none ∧ L = [] ∧ h = h0) := by
  refine MetQ.body (plainFor_of_name pn_3) fun p e s m below meth c s₁ hx hby hml hown hnm hret hlk hZ e0 X0 => Go.cast (ef_rm11 m p0) ?_
  refine Go.st (T' := s₁) (g' := (mkF m 1 #[.val (.ref p0)] [(.ref p0)])) (fun _ hr => XS.aloadN X0.here hx rfl (hb hby d11_0) rfl rfl hr) ?_
  obtain ⟨T1, X1, e1, st1⟩ := initO X0 hx hZ hown (hw _ (List.mem_of_getElem? (i := 65) rfl)) (hw _ (List.mem_of_getElem? (i := 12) rfl)) (hw _ (List.mem_of_getElem? (i := 13) rfl)) e0 (g := (mkF m 1 #[.val (.ref p0)] [(.ref p0)])) rfl (by rw [hml]; rfl) rfl (hb hby d11_1) (by decide) (W := 0) (by show 2 * 0 + _ ≤ _; exact Nat.le_of_eq rfl) (by decide)
  refine Go.st (T' := T1) (g' := (mkF m 4 #[.val (.ref p0)] [])) st1 ?_
  exact Go.retV X1 hx hlk hret (hb hby d11_4) (by decide) (by decide) ⟨rfl, rfl, e1⟩
theorem d9_0 : decode jdk_22_method_1_code 0 = .ok (.aload_n 0, 1) := by decide +kernel
theorem d9_1 : decode jdk_22_method_1_code 1 = .ok (.invokespecial 1, 3) := by decide +kernel
theorem d9_4 : decode jdk_22_method_1_code 4 = .ok (.return_, 1) := by decide +kernel
theorem pn_4 : plainName "java/util/AbstractCollection" = true := by first | (simp [plainName, overriddenIn]; done) | decide +kernel
theorem ef_rm9 (m : MethodId) (p0 : Addr)  : entryFrame m #[(.ref p0)] 1 = mkF m 0 #[.val (.ref p0)] [] := by first | (simp [entryFrame, mkF, argsToLocals, Value.category]; done) | rfl
set_option maxRecDepth 65536 in
set_option maxHeartbeats 40000000 in
theorem rm9 (l : Launch) (Z : State) (a0 : Array Value) (hw : ∀ d ∈ tables_1, d.before a0 Z = true) (p0 : Addr)  (h0 : Heap)  :
    MetQ l Z (⟨"java/util/AbstractCollection", "<init>", "()V"⟩ : MethodName) jdk_22_method_1_code 1 none [] ({ frames := 1, cells := 0, slots := 0, locals := 12 } : Room) #[(.ref p0)] h0 (fun v h L => v = none ∧ L = [] ∧ h = h0) := by
  refine MetQ.body (plainFor_of_name pn_4) fun p e s m below meth c s₁ hx hby hml hown hnm hret hlk hZ e0 X0 => Go.cast (ef_rm9 m p0) ?_
  refine Go.st (T' := s₁) (g' := (mkF m 1 #[.val (.ref p0)] [(.ref p0)])) (fun _ hr => XS.aloadN X0.here hx rfl (hb hby d9_0) rfl rfl hr) ?_
  obtain ⟨T1, X1, e1, st1⟩ := initO X0 hx hZ hown (hw _ (List.mem_of_getElem? (i := 51) rfl)) (hw _ (List.mem_of_getElem? (i := 12) rfl)) (hw _ (List.mem_of_getElem? (i := 13) rfl)) e0 (g := (mkF m 1 #[.val (.ref p0)] [(.ref p0)])) rfl (by rw [hml]; rfl) rfl (hb hby d9_1) (by decide) (W := 0) (by show 2 * 0 + _ ≤ _; exact Nat.le_of_eq rfl) (by decide)
  refine Go.st (T' := T1) (g' := (mkF m 4 #[.val (.ref p0)] [])) st1 ?_
  exact Go.retV X1 hx hlk hret (hb hby d9_4) (by decide) (by decide) ⟨rfl, rfl, e1⟩
theorem d8_0 : decode jdk_39_method_1_code 0 = .ok (.aload_n 0, 1) := by decide +kernel
theorem d8_1 : decode jdk_39_method_1_code 1 = .ok (.invokespecial 1, 3) := by decide +kernel
theorem d8_4 : decode jdk_39_method_1_code 4 = .ok (.aload_n 0, 1) := by decide +kernel
theorem d8_5 : decode jdk_39_method_1_code 5 = .ok (.iconst 0, 1) := by decide +kernel
theorem d8_6 : decode jdk_39_method_1_code 6 = .ok (.putfield 7, 3) := by decide +kernel
theorem d8_9 : decode jdk_39_method_1_code 9 = .ok (.return_, 1) := by decide +kernel
theorem pn_5 : plainName "java/util/AbstractList" = true := by first | (simp [plainName, overriddenIn]; done) | decide +kernel
theorem ef_rm8 (m : MethodId) (a : Addr)  : entryFrame m #[(.ref a)] 1 = mkF m 0 #[.val (.ref a)] [] := by first | (simp [entryFrame, mkF, argsToLocals, Value.category]; done) | rfl
set_option maxRecDepth 65536 in
set_option maxHeartbeats 40000000 in
theorem rm8 (l : Launch) (Z : State) (a0 : Array Value) (hw : ∀ d ∈ tables_1, d.before a0 Z = true) (a : Addr)  (h0 : Heap) (n0 : Nat) (ng : n0 ≤ a) (E0 : Exa Z h0 a "java/util/ArrayList") (F0_modCount : Fld Z h0 a "java/util/AbstractList" "modCount" "I" (.int (0 : Int32))) (F0_elementData : Fld Z h0 a "java/util/ArrayList" "elementData" "[Ljava/lang/Object;" .null) :
    MetQ l Z (⟨"java/util/AbstractList", "<init>", "()V"⟩ : MethodName) jdk_39_method_1_code 1 none [] ({ frames := 2, cells := 0, slots := 0, locals := 24 } : Room) #[(.ref a)] h0 (fun v h L => v = none ∧ Fr n0 L ∧ Keep h0 h [a] ∧ Fld Z h a "java/util/AbstractList" "modCount" "I" (.int (0 : Int32)) ∧ Fld Z h a "java/util/ArrayList" "elementData" "[Ljava/lang/Object;" .null) := by
  refine MetQ.body (plainFor_of_name pn_5) fun p e s m below meth c s₁ hx hby hml hown hnm hret hlk hZ e0 X0 => Go.cast (ef_rm8 m a) ?_
  refine Go.st (T' := s₁) (g' := (mkF m 1 #[.val (.ref a)] [(.ref a)])) (fun _ hr => XS.aloadN X0.here hx rfl (hb hby d8_0) rfl rfl hr) ?_
  refine Go.callC X0 hx hZ hown (W := 0) (y := (⟨"java/util/AbstractCollection", "<init>", "()V"⟩ : MethodName)) rfl (hw _ (List.mem_of_getElem? (i := 45) rfl)) (hw _ (List.mem_of_getElem? (i := 46) rfl)) (hw _ (List.mem_of_getElem? (i := 49) rfl)) (hw _ (List.mem_of_getElem? (i := 50) rfl)) (by decide) e0 (rm9 l Z a0 hw a h0) (by decide) (by decide) (by decide) (by decide) (g := (mkF m 1 #[.val (.ref a)] [(.ref a)])) rfl (by rw [hml]; rfl) (argsL := []) (rest := []) (lenOf pd_3 rfl) rfl (by show 2 * 0 + _ ≤ _; exact Nat.le_of_eq rfl) (hb hby d8_1) (fun v1 T1 L1 X1 q1 => ?_)
  obtain ⟨rfl, rfl, e1⟩ := q1
  rw [List.append_nil] at X1
  show Go p.tables e below (Fin s (fun v h L => v = none ∧ Fr n0 L ∧ Keep h0 h [a] ∧ Fld Z h a "java/util/AbstractList" "modCount" "I" (.int (0 : Int32)) ∧ Fld Z h a "java/util/ArrayList" "elementData" "[Ljava/lang/Object;" .null) ({ frames := 2, cells := 0, slots := 0, locals := 24 } : Room).cells ({ frames := 2, cells := 0, slots := 0, locals := 24 } : Room).slots) T1 (mkF m 4 #[.val (.ref a)] [])
  refine Go.st (T' := T1) (g' := (mkF m 5 #[.val (.ref a)] [(.ref a)])) (fun _ hr => XS.aloadN X1.here hx rfl (hb hby d8_4) rfl rfl hr) ?_
  refine Go.st (T' := T1) (g' := (mkF m 6 #[.val (.ref a)] [(.int (0 : Int32)), (.ref a)])) (fun _ hr => XT.iconstV X1.here hx rfl (0 : Int32) (hb hby d8_5) (by decide) hr) ?_
  obtain ⟨T2, h2, X2, e2, W2, st2⟩ := putF X1 hx hZ hown (host := "") (Or.inl (hw _ (List.mem_of_getElem? (i := 52) rfl))) Via.refl e1 F0_modCount E0 (Or.inl (hw _ (List.mem_of_getElem? (i := 53) rfl))) (hw _ (List.mem_of_getElem? (i := 34) rfl)) (ty := .int) (by decide) rfl rfl (g := (mkF m 6 #[.val (.ref a)] [(.int (0 : Int32)), (.ref a)])) rfl rfl (hb hby d8_6)
  have F0_modCount_q_2 : Fld Z h2 a "java/util/AbstractList" "modCount" "I" (.int (0 : Int32)) := (F0_modCount.same W2)
  have F0_elementData_q_2 : Fld Z h2 a "java/util/ArrayList" "elementData" "[Ljava/lang/Object;" .null := (F0_elementData.other W2 (Or.inr (slot_ne (Or.inl (hw _ (List.mem_of_getElem? (i := 56) rfl))) (Or.inl (hw _ (List.mem_of_getElem? (i := 53) rfl))) (by decide) (t := (.array (.object "java/lang/Object"))) (t' := .int) (by decide) (by decide))))
  have E0_q_2 : Exa Z h2 a "java/util/ArrayList" := (E0.wr W2)
  have fK_q_2 : Keep h0 h2 [a] := ((Keep.refl h0 [a]).wr W2 (Or.inl (List.mem_of_getElem? (i := 0) rfl)))
  have N2 := Fr.snoc X2 (Fr.nil n0) ng
  refine Go.st (T' := T2) (g' := (mkF m 9 #[.val (.ref a)] [])) st2 ?_
  exact Go.retV X2 hx hlk hret (hb hby d8_9) (by decide) (by decide) (by rw [e2]; exact ⟨rfl, N2, fK_q_2, F0_modCount_q_2, F0_elementData_q_2⟩)
theorem d7_0 : decode jdk_38_method_2_code 0 = .ok (.aload_n 0, 1) := by decide +kernel
theorem d7_1 : decode jdk_38_method_2_code 1 = .ok (.invokespecial 1, 3) := by decide +kernel
theorem d7_4 : decode jdk_38_method_2_code 4 = .ok (.aload_n 0, 1) := by decide +kernel
theorem d7_5 : decode jdk_38_method_2_code 5 = .ok (.getstatic 39, 3) := by decide +kernel
theorem d7_8 : decode jdk_38_method_2_code 8 = .ok (.putfield 9, 3) := by decide +kernel
theorem d7_11 : decode jdk_38_method_2_code 11 = .ok (.return_, 1) := by decide +kernel
theorem pn_6 : plainName "java/util/ArrayList" = true := by first | (simp [plainName, overriddenIn]; done) | decide +kernel
theorem ef_rm7 (m : MethodId) (a : Addr)  : entryFrame m #[(.ref a)] 1 = mkF m 0 #[.val (.ref a)] [] := by first | (simp [entryFrame, mkF, argsToLocals, Value.category]; done) | rfl
set_option maxRecDepth 65536 in
set_option maxHeartbeats 40000000 in
theorem rm7 (l : Launch) (Z : State) (a0 : Array Value) (hw : ∀ d ∈ tables_1, d.before a0 Z = true) (a : Addr) (dc : Value)  (h0 : Heap) (rdc : dc.isRef = true) (n0 : Nat) (ng : n0 ≤ a) (Z0 : n0 ≤ h0.size) (O0 : Old Z n0 h0) (E0 : Exa Z h0 a "java/util/ArrayList") (F1 : Fld Z h0 a "java/util/AbstractList" "modCount" "I" (.int (0 : Int32))) (F2 : Fld Z h0 a "java/util/ArrayList" "elementData" "[Ljava/lang/Object;" .null) (D0 : Sta Z Z.heap "java/util/ArrayList" "DEFAULTCAPACITY_EMPTY_ELEMENTDATA" "[Ljava/lang/Object;" dc) :
    MetQ l Z (⟨"java/util/ArrayList", "<init>", "()V"⟩ : MethodName) jdk_38_method_2_code 1 none [] ({ frames := 3, cells := 0, slots := 0, locals := 36 } : Room) #[(.ref a)] h0 (fun v h L => v = none ∧ Fr n0 L ∧ Keep h0 h [a]) := by
  refine MetQ.body (plainFor_of_name pn_6) fun p e s m below meth c s₁ hx hby hml hown hnm hret hlk hZ e0 X0 => Go.cast (ef_rm7 m a) ?_
  refine Go.st (T' := s₁) (g' := (mkF m 1 #[.val (.ref a)] [(.ref a)])) (fun _ hr => XS.aloadN X0.here hx rfl (hb hby d7_0) rfl rfl hr) ?_
  refine Go.callC X0 hx hZ hown (W := 0) (y := (⟨"java/util/AbstractList", "<init>", "()V"⟩ : MethodName)) rfl (hw _ (List.mem_of_getElem? (i := 39) rfl)) (hw _ (List.mem_of_getElem? (i := 40) rfl)) (hw _ (List.mem_of_getElem? (i := 43) rfl)) (hw _ (List.mem_of_getElem? (i := 44) rfl)) (by decide) e0 (rm8 l Z a0 hw a   h0 n0 ng E0 F1 F2) (by decide) (by decide) (by decide) (by decide) (g := (mkF m 1 #[.val (.ref a)] [(.ref a)])) rfl (by rw [hml]; rfl) (argsL := []) (rest := []) (lenOf pd_3 rfl) rfl (by show 2 * 0 + _ ≤ _; exact Nat.le_of_eq rfl) (hb hby d7_1) (fun v1 T1 L1 X1 q1 => ?_)
  obtain ⟨h1, e1⟩ : ∃ z, T1.heap = z := ⟨_, rfl⟩
  rw [e1] at q1
  obtain ⟨rfl, N1q, K1, G1_modCount, G1_elementData⟩ := q1
  have N1 := Fr.app (Fr.nil n0) N1q
  have Z0_q_1 : n0 ≤ h1.size := (Nat.le_trans Z0 K1.1)
  have fK_q_1 : Keep h0 h1 [a] := ((Keep.refl h0 [a]).trans K1 (allS (Or.inl (List.mem_of_getElem? (i := 0) rfl)) all0))
  have E0_q_1 : Exa Z h1 a "java/util/ArrayList" := (E0.keep K1)
  have O0_q_1 : Old Z n0 h1 := (O0.keep K1 (allS ng all0))
  show Go p.tables e below (Fin s (fun v h L => v = none ∧ Fr n0 L ∧ Keep h0 h [a]) ({ frames := 3, cells := 0, slots := 0, locals := 36 } : Room).cells ({ frames := 3, cells := 0, slots := 0, locals := 36 } : Room).slots) T1 (mkF m 4 #[.val (.ref a)] [])
  refine Go.st (T' := T1) (g' := (mkF m 5 #[.val (.ref a)] [(.ref a)])) (fun _ hr => XS.aloadN X1.here hx rfl (hb hby d7_4) rfl rfl hr) ?_
  obtain ⟨T2, X2, e2, st2⟩ := getS2 X1 hx hZ hown (host := "") (Or.inl (hw _ (List.mem_of_getElem? (i := 54) rfl))) Via.refl e1 (D0.ext O0_q_1.2) (g := (mkF m 5 #[.val (.ref a)] [(.ref a)])) rfl (hb hby d7_5)
  refine Go.st (T' := T2) (g' := (mkF m 8 #[.val (.ref a)] [dc, (.ref a)])) st2 ?_
  obtain ⟨T3, h3, X3, e3, W3, st3⟩ := putF X2 hx hZ hown (host := "") (Or.inl (hw _ (List.mem_of_getElem? (i := 55) rfl))) Via.refl e2 G1_elementData E0_q_1 (Or.inl (hw _ (List.mem_of_getElem? (i := 56) rfl))) (hw _ (List.mem_of_getElem? (i := 34) rfl)) (ty := (.array (.object "java/lang/Object"))) (by decide) (own_narrow_ref rdc) (own_fits_arr rdc) (g := (mkF m 8 #[.val (.ref a)] [dc, (.ref a)])) rfl rfl (hb hby d7_8)
  have Z0_q_3 : n0 ≤ h3.size := (Nat.le_trans Z0_q_1 (Keep.of_wr W3).1)
  have fK_q_3 : Keep h0 h3 [a] := (fK_q_1.wr W3 (Or.inl (List.mem_of_getElem? (i := 0) rfl)))
  have E0_q_3 : Exa Z h3 a "java/util/ArrayList" := (E0_q_1.wr W3)
  have O0_q_3 : Old Z n0 h3 := (O0_q_1.wr W3 ng)
  have G1_modCount_q_3 : Fld Z h3 a "java/util/AbstractList" "modCount" "I" (.int (0 : Int32)) := (G1_modCount.other W3 (Or.inr (slot_ne (Or.inl (hw _ (List.mem_of_getElem? (i := 53) rfl))) (Or.inl (hw _ (List.mem_of_getElem? (i := 56) rfl))) (by decide) (t := .int) (t' := (.array (.object "java/lang/Object"))) (by decide) (by decide))))
  have G1_elementData_q_3 : Fld Z h3 a "java/util/ArrayList" "elementData" "[Ljava/lang/Object;" dc := (G1_elementData.same W3)
  have N3 := Fr.snoc X3 N1 ng
  refine Go.st (T' := T3) (g' := (mkF m 11 #[.val (.ref a)] [])) st3 ?_
  exact Go.retV X3 hx hlk hret (hb hby d7_11) (by decide) (by decide) (by rw [e3]; exact ⟨rfl, N3, fK_q_3⟩)
theorem pd_10 : parseMethodDescriptor "(Ljava/lang/String;ILjava/lang/String;Ljava/lang/String;ZZLcom/example/item_type_store/itemtypestore/TypeSystemDraft$DeploymentDraft;Ljava/util/List;Ljava/util/List;Ljava/util/Map;)V" = some ⟨[(.object "java/lang/String"), .int, (.object "java/lang/String"), (.object "java/lang/String"), .boolean, .boolean, (.object "com/example/item_type_store/itemtypestore/TypeSystemDraft$DeploymentDraft"), (.object "java/util/List"), (.object "java/util/List"), (.object "java/util/Map")], none⟩ := by decide +kernel
theorem d10_0 : decode prog_95_method_1_code 0 = .ok (.aload_n 0, 1) := by decide +kernel
theorem d10_1 : decode prog_95_method_1_code 1 = .ok (.invokespecial 1, 3) := by decide +kernel
theorem d10_4 : decode prog_95_method_1_code 4 = .ok (.aload_n 0, 1) := by decide +kernel
theorem d10_5 : decode prog_95_method_1_code 5 = .ok (.aload_n 1, 1) := by decide +kernel
theorem d10_6 : decode prog_95_method_1_code 6 = .ok (.putfield 7, 3) := by decide +kernel
theorem d10_9 : decode prog_95_method_1_code 9 = .ok (.aload_n 0, 1) := by decide +kernel
theorem d10_10 : decode prog_95_method_1_code 10 = .ok (.iload_n 2, 1) := by decide +kernel
theorem d10_11 : decode prog_95_method_1_code 11 = .ok (.putfield 13, 3) := by decide +kernel
theorem d10_14 : decode prog_95_method_1_code 14 = .ok (.aload_n 0, 1) := by decide +kernel
theorem d10_15 : decode prog_95_method_1_code 15 = .ok (.aload_n 3, 1) := by decide +kernel
theorem d10_16 : decode prog_95_method_1_code 16 = .ok (.putfield 17, 3) := by decide +kernel
theorem d10_19 : decode prog_95_method_1_code 19 = .ok (.aload_n 0, 1) := by decide +kernel
theorem d10_20 : decode prog_95_method_1_code 20 = .ok (.aload 4, 2) := by decide +kernel
theorem d10_22 : decode prog_95_method_1_code 22 = .ok (.putfield 20, 3) := by decide +kernel
theorem d10_25 : decode prog_95_method_1_code 25 = .ok (.aload_n 0, 1) := by decide +kernel
theorem d10_26 : decode prog_95_method_1_code 26 = .ok (.iload 5, 2) := by decide +kernel
theorem d10_28 : decode prog_95_method_1_code 28 = .ok (.putfield 23, 3) := by decide +kernel
theorem d10_31 : decode prog_95_method_1_code 31 = .ok (.aload_n 0, 1) := by decide +kernel
theorem d10_32 : decode prog_95_method_1_code 32 = .ok (.iload 6, 2) := by decide +kernel
theorem d10_34 : decode prog_95_method_1_code 34 = .ok (.putfield 27, 3) := by decide +kernel
theorem d10_37 : decode prog_95_method_1_code 37 = .ok (.aload_n 0, 1) := by decide +kernel
theorem d10_38 : decode prog_95_method_1_code 38 = .ok (.aload 7, 2) := by decide +kernel
theorem d10_40 : decode prog_95_method_1_code 40 = .ok (.putfield 30, 3) := by decide +kernel
theorem d10_43 : decode prog_95_method_1_code 43 = .ok (.aload_n 0, 1) := by decide +kernel
theorem d10_44 : decode prog_95_method_1_code 44 = .ok (.aload 8, 2) := by decide +kernel
theorem d10_46 : decode prog_95_method_1_code 46 = .ok (.putfield 34, 3) := by decide +kernel
theorem d10_49 : decode prog_95_method_1_code 49 = .ok (.aload_n 0, 1) := by decide +kernel
theorem d10_50 : decode prog_95_method_1_code 50 = .ok (.aload 9, 2) := by decide +kernel
theorem d10_52 : decode prog_95_method_1_code 52 = .ok (.putfield 38, 3) := by decide +kernel
theorem d10_55 : decode prog_95_method_1_code 55 = .ok (.aload_n 0, 1) := by decide +kernel
theorem d10_56 : decode prog_95_method_1_code 56 = .ok (.aload 10, 2) := by decide +kernel
theorem d10_58 : decode prog_95_method_1_code 58 = .ok (.putfield 41, 3) := by decide +kernel
theorem d10_61 : decode prog_95_method_1_code 61 = .ok (.return_, 1) := by decide +kernel
theorem pn_7 : plainName "com/example/item_type_store/itemtypestore/TypeSystemDraft$TypeDraft" = true := by first | (simp [plainName, overriddenIn]; done) | decide +kernel
theorem ef_rm10 (m : MethodId) (a : Addr) (v1 : Value) (p2 : Int32) (v3 : Value) (v4 : Value) (p5 : Int32) (p6 : Int32) (v7 : Value) (v8 : Value) (v9 : Value) (v10 : Value) (r_v1 : v1.isRef = true) (r_v3 : v3.isRef = true) (r_v4 : v4.isRef = true) (r_v7 : v7.isRef = true) (r_v8 : v8.isRef = true) (r_v9 : v9.isRef = true) (r_v10 : v10.isRef = true) : entryFrame m #[(.ref a), v1, (.int p2), v3, v4, (.int p5), (.int p6), v7, v8, v9, v10] 11 = mkF m 0 #[.val (.ref a), .val v1, .val (.int p2), .val v3, .val v4, .val (.int p5), .val (.int p6), .val v7, .val v8, .val v9, .val v10] [] := by rcases XT.refc r_v1 with rfl | ⟨_, rfl⟩ <;> rcases XT.refc r_v3 with rfl | ⟨_, rfl⟩ <;> rcases XT.refc r_v4 with rfl | ⟨_, rfl⟩ <;> rcases XT.refc r_v7 with rfl | ⟨_, rfl⟩ <;> rcases XT.refc r_v8 with rfl | ⟨_, rfl⟩ <;> rcases XT.refc r_v9 with rfl | ⟨_, rfl⟩ <;> rcases XT.refc r_v10 with rfl | ⟨_, rfl⟩ <;> first | (simp [entryFrame, mkF, argsToLocals, Value.category]; done) | rfl
set_option maxRecDepth 65536 in
set_option maxHeartbeats 40000000 in
theorem rm10 (l : Launch) (Z : State) (a0 : Array Value) (hw : ∀ d ∈ tables_1, d.before a0 Z = true) (a : Addr) (v1 : Value) (p2 : Int32) (v3 : Value) (v4 : Value) (p5 : Int32) (p6 : Int32) (v7 : Value) (v8 : Value) (v9 : Value) (v10 : Value) (r_v1 : v1.isRef = true) (r_v3 : v3.isRef = true) (r_v4 : v4.isRef = true) (r_v7 : v7.isRef = true) (r_v8 : v8.isRef = true) (r_v9 : v9.isRef = true) (r_v10 : v10.isRef = true) (h0 : Heap) (n0 : Nat) (ng : n0 ≤ a) (E0 : Exa Z h0 a "com/example/item_type_store/itemtypestore/TypeSystemDraft$TypeDraft") (F0_file : Fld Z h0 a "com/example/item_type_store/itemtypestore/TypeSystemDraft$TypeDraft" "file" "Ljava/lang/String;" .null) (F0_line : Fld Z h0 a "com/example/item_type_store/itemtypestore/TypeSystemDraft$TypeDraft" "line" "I" (.int (0 : Int32))) (F0_code : Fld Z h0 a "com/example/item_type_store/itemtypestore/TypeSystemDraft$TypeDraft" "code" "Ljava/lang/String;" .null) (F0_supertype : Fld Z h0 a "com/example/item_type_store/itemtypestore/TypeSystemDraft$TypeDraft" "supertype" "Ljava/lang/String;" .null) (F0_direct : Fld Z h0 a "com/example/item_type_store/itemtypestore/TypeSystemDraft$TypeDraft" "direct" "Z" (.int (0 : Int32))) (F0_isAbstract : Fld Z h0 a "com/example/item_type_store/itemtypestore/TypeSystemDraft$TypeDraft" "isAbstract" "Z" (.int (0 : Int32))) (F0_deployment : Fld Z h0 a "com/example/item_type_store/itemtypestore/TypeSystemDraft$TypeDraft" "deployment" "Lcom/example/item_type_store/itemtypestore/TypeSystemDraft$DeploymentDraft;" .null) (F0_attributes : Fld Z h0 a "com/example/item_type_store/itemtypestore/TypeSystemDraft$TypeDraft" "attributes" "Ljava/util/List;" .null) (F0_indexes : Fld Z h0 a "com/example/item_type_store/itemtypestore/TypeSystemDraft$TypeDraft" "indexes" "Ljava/util/List;" .null) (F0_customProperties : Fld Z h0 a "com/example/item_type_store/itemtypestore/TypeSystemDraft$TypeDraft" "customProperties" "Ljava/util/Map;" .null) :
    MetQ l Z (⟨"com/example/item_type_store/itemtypestore/TypeSystemDraft$TypeDraft", "<init>", "(Ljava/lang/String;ILjava/lang/String;Ljava/lang/String;ZZLcom/example/item_type_store/itemtypestore/TypeSystemDraft$DeploymentDraft;Ljava/util/List;Ljava/util/List;Ljava/util/Map;)V"⟩ : MethodName) prog_95_method_1_code 11 none [] ({ frames := 2, cells := 0, slots := 0, locals := 24 } : Room) #[(.ref a), v1, (.int p2), v3, v4, (.int p5), (.int p6), v7, v8, v9, v10] h0 (fun v h L => v = none ∧ Fr n0 L ∧ Keep h0 h [a] ∧ Fld Z h a "com/example/item_type_store/itemtypestore/TypeSystemDraft$TypeDraft" "file" "Ljava/lang/String;" v1 ∧ Fld Z h a "com/example/item_type_store/itemtypestore/TypeSystemDraft$TypeDraft" "line" "I" (.int p2) ∧ Fld Z h a "com/example/item_type_store/itemtypestore/TypeSystemDraft$TypeDraft" "code" "Ljava/lang/String;" v3 ∧ Fld Z h a "com/example/item_type_store/itemtypestore/TypeSystemDraft$TypeDraft" "supertype" "Ljava/lang/String;" v4 ∧ Fld Z h a "com/example/item_type_store/itemtypestore/TypeSystemDraft$TypeDraft" "direct" "Z" (.int (nar .boolean p5)) ∧ Fld Z h a "com/example/item_type_store/itemtypestore/TypeSystemDraft$TypeDraft" "isAbstract" "Z" (.int (nar .boolean p6)) ∧ Fld Z h a "com/example/item_type_store/itemtypestore/TypeSystemDraft$TypeDraft" "deployment" "Lcom/example/item_type_store/itemtypestore/TypeSystemDraft$DeploymentDraft;" v7 ∧ Fld Z h a "com/example/item_type_store/itemtypestore/TypeSystemDraft$TypeDraft" "attributes" "Ljava/util/List;" v8 ∧ Fld Z h a "com/example/item_type_store/itemtypestore/TypeSystemDraft$TypeDraft" "indexes" "Ljava/util/List;" v9 ∧ Fld Z h a "com/example/item_type_store/itemtypestore/TypeSystemDraft$TypeDraft" "customProperties" "Ljava/util/Map;" v10) := by
  refine MetQ.body (plainFor_of_name pn_7) fun p e s m below meth c s₁ hx hby hml hown hnm hret hlk hZ e0 X0 => Go.cast (ef_rm10 m a v1 p2 v3 v4 p5 p6 v7 v8 v9 v10 r_v1 r_v3 r_v4 r_v7 r_v8 r_v9 r_v10) ?_
  refine Go.st (T' := s₁) (g' := (mkF m 1 #[.val (.ref a), .val v1, .val (.int p2), .val v3, .val v4, .val (.int p5), .val (.int p6), .val v7, .val v8, .val v9, .val v10] [(.ref a)])) (fun _ hr => XS.aloadN X0.here hx rfl (hb hby d10_0) rfl rfl hr) ?_
  refine Go.callC X0 hx hZ hown (W := 0) (y := (⟨"java/lang/Record", "<init>", "()V"⟩ : MethodName)) rfl (hw _ (List.mem_of_getElem? (i := 60) rfl)) (hw _ (List.mem_of_getElem? (i := 61) rfl)) (hw _ (List.mem_of_getElem? (i := 63) rfl)) (hw _ (List.mem_of_getElem? (i := 64) rfl)) (by decide) e0 (rm11 l Z a0 hw a h0) (by decide) (by decide) (by decide) (by decide) (g := (mkF m 1 #[.val (.ref a), .val v1, .val (.int p2), .val v3, .val v4, .val (.int p5), .val (.int p6), .val v7, .val v8, .val v9, .val v10] [(.ref a)])) rfl (by rw [hml]; rfl) (argsL := []) (rest := []) (lenOf pd_3 rfl) rfl (by show 2 * 0 + _ ≤ _; exact Nat.le_of_eq rfl) (hb hby d10_1) (fun v1 T1 L1 X1 q1 => ?_)
  obtain ⟨rfl, rfl, e1⟩ := q1
  rw [List.append_nil] at X1
  show Go p.tables e below (Fin s (fun v h L => v = none ∧ Fr n0 L ∧ Keep h0 h [a] ∧ Fld Z h a "com/example/item_type_store/itemtypestore/TypeSystemDraft$TypeDraft" "file" "Ljava/lang/String;" v1 ∧ Fld Z h a "com/example/item_type_store/itemtypestore/TypeSystemDraft$TypeDraft" "line" "I" (.int p2) ∧ Fld Z h a "com/example/item_type_store/itemtypestore/TypeSystemDraft$TypeDraft" "code" "Ljava/lang/String;" v3 ∧ Fld Z h a "com/example/item_type_store/itemtypestore/TypeSystemDraft$TypeDraft" "supertype" "Ljava/lang/String;" v4 ∧ Fld Z h a "com/example/item_type_store/itemtypestore/TypeSystemDraft$TypeDraft" "direct" "Z" (.int (nar .boolean p5)) ∧ Fld Z h a "com/example/item_type_store/itemtypestore/TypeSystemDraft$TypeDraft" "isAbstract" "Z" (.int (nar .boolean p6)) ∧ Fld Z h a "com/example/item_type_store/itemtypestore/TypeSystemDraft$TypeDraft" "deployment" "Lcom/example/item_type_store/itemtypestore/TypeSystemDraft$DeploymentDraft;" v7 ∧ Fld Z h a "com/example/item_type_store/itemtypestore/TypeSystemDraft$TypeDraft" "attributes" "Ljava/util/List;" v8 ∧ Fld Z h a "com/example/item_type_store/itemtypestore/TypeSystemDraft$TypeDraft" "indexes" "Ljava/util/List;" v9 ∧ Fld Z h a "com/example/item_type_store/itemtypestore/TypeSystemDraft$TypeDraft" "customProperties" "Ljava/util/Map;" v10) ({ frames := 2, cells := 0, slots := 0, locals := 24 } : Room).cells ({ frames := 2, cells := 0, slots := 0, locals := 24 } : Room).slots) T1 (mkF m 4 #[.val (.ref a), .val v1, .val (.int p2), .val v3, .val v4, .val (.int p5), .val (.int p6), .val v7, .val v8, .val v9, .val v10] [])
  refine Go.st (T' := T1) (g' := (mkF m 5 #[.val (.ref a), .val v1, .val (.int p2), .val v3, .val v4, .val (.int p5), .val (.int p6), .val v7, .val v8, .val v9, .val v10] [(.ref a)])) (fun _ hr => XS.aloadN X1.here hx rfl (hb hby d10_4) rfl rfl hr) ?_
  refine Go.st (T' := T1) (g' := (mkF m 6 #[.val (.ref a), .val v1, .val (.int p2), .val v3, .val v4, .val (.int p5), .val (.int p6), .val v7, .val v8, .val v9, .val v10] [v1, (.ref a)])) (fun _ hr => XS.aloadN X1.here hx rfl (hb hby d10_5) rfl r_v1 hr) ?_
  obtain ⟨T2, h2, X2, e2, W2, st2⟩ := putF X1 hx hZ hown (host := "") (Or.inl (hw _ (List.mem_of_getElem? (i := 66) rfl))) Via.refl e1 F0_file E0 (Or.inr ⟨(hw _ (List.mem_of_getElem? (i := 67) rfl)), rfl, hnm⟩) (hw _ (List.mem_of_getElem? (i := 31) rfl)) (ty := (.object "java/lang/String")) (by decide) (own_narrow_ref r_v1) (own_fits_obj r_v1) (g := (mkF m 6 #[.val (.ref a), .val v1, .val (.int p2), .val v3, .val v4, .val (.int p5), .val (.int p6), .val v7, .val v8, .val v9, .val v10] [v1, (.ref a)])) rfl rfl (hb hby d10_6)
  have F0_file_q_2 : Fld Z h2 a "com/example/item_type_store/itemtypestore/TypeSystemDraft$TypeDraft" "file" "Ljava/lang/String;" v1 := (F0_file.same W2)
  have F0_line_q_2 : Fld Z h2 a "com/example/item_type_store/itemtypestore/TypeSystemDraft$TypeDraft" "line" "I" (.int (0 : Int32)) := (F0_line.other W2 (Or.inr (slot_ne (Or.inr (hw _ (List.mem_of_getElem? (i := 69) rfl))) (Or.inr (hw _ (List.mem_of_getElem? (i := 67) rfl))) (by decide) (t := .int) (t' := (.object "java/lang/String")) (by decide) (by decide))))
  have F0_code_q_2 : Fld Z h2 a "com/example/item_type_store/itemtypestore/TypeSystemDraft$TypeDraft" "code" "Ljava/lang/String;" .null := (F0_code.other W2 (Or.inr (slot_ne (Or.inr (hw _ (List.mem_of_getElem? (i := 71) rfl))) (Or.inr (hw _ (List.mem_of_getElem? (i := 67) rfl))) (by decide) (t := (.object "java/lang/String")) (t' := (.object "java/lang/String")) (by decide) (by decide))))
  have F0_supertype_q_2 : Fld Z h2 a "com/example/item_type_store/itemtypestore/TypeSystemDraft$TypeDraft" "supertype" "Ljava/lang/String;" .null := (F0_supertype.other W2 (Or.inr (slot_ne (Or.inr (hw _ (List.mem_of_getElem? (i := 73) rfl))) (Or.inr (hw _ (List.mem_of_getElem? (i := 67) rfl))) (by decide) (t := (.object "java/lang/String")) (t' := (.object "java/lang/String")) (by decide) (by decide))))
  have F0_direct_q_2 : Fld Z h2 a "com/example/item_type_store/itemtypestore/TypeSystemDraft$TypeDraft" "direct" "Z" (.int (0 : Int32)) := (F0_direct.other W2 (Or.inr (slot_ne (Or.inr (hw _ (List.mem_of_getElem? (i := 75) rfl))) (Or.inr (hw _ (List.mem_of_getElem? (i := 67) rfl))) (by decide) (t := .boolean) (t' := (.object "java/lang/String")) (by decide) (by decide))))
  have F0_isAbstract_q_2 : Fld Z h2 a "com/example/item_type_store/itemtypestore/TypeSystemDraft$TypeDraft" "isAbstract" "Z" (.int (0 : Int32)) := (F0_isAbstract.other W2 (Or.inr (slot_ne (Or.inr (hw _ (List.mem_of_getElem? (i := 77) rfl))) (Or.inr (hw _ (List.mem_of_getElem? (i := 67) rfl))) (by decide) (t := .boolean) (t' := (.object "java/lang/String")) (by decide) (by decide))))
  have F0_deployment_q_2 : Fld Z h2 a "com/example/item_type_store/itemtypestore/TypeSystemDraft$TypeDraft" "deployment" "Lcom/example/item_type_store/itemtypestore/TypeSystemDraft$DeploymentDraft;" .null := (F0_deployment.other W2 (Or.inr (slot_ne (Or.inr (hw _ (List.mem_of_getElem? (i := 79) rfl))) (Or.inr (hw _ (List.mem_of_getElem? (i := 67) rfl))) (by decide) (t := (.object "com/example/item_type_store/itemtypestore/TypeSystemDraft$DeploymentDraft")) (t' := (.object "java/lang/String")) (by decide) (by decide))))
  have F0_attributes_q_2 : Fld Z h2 a "com/example/item_type_store/itemtypestore/TypeSystemDraft$TypeDraft" "attributes" "Ljava/util/List;" .null := (F0_attributes.other W2 (Or.inr (slot_ne (Or.inr (hw _ (List.mem_of_getElem? (i := 81) rfl))) (Or.inr (hw _ (List.mem_of_getElem? (i := 67) rfl))) (by decide) (t := (.object "java/util/List")) (t' := (.object "java/lang/String")) (by decide) (by decide))))
  have F0_indexes_q_2 : Fld Z h2 a "com/example/item_type_store/itemtypestore/TypeSystemDraft$TypeDraft" "indexes" "Ljava/util/List;" .null := (F0_indexes.other W2 (Or.inr (slot_ne (Or.inr (hw _ (List.mem_of_getElem? (i := 83) rfl))) (Or.inr (hw _ (List.mem_of_getElem? (i := 67) rfl))) (by decide) (t := (.object "java/util/List")) (t' := (.object "java/lang/String")) (by decide) (by decide))))
  have F0_customProperties_q_2 : Fld Z h2 a "com/example/item_type_store/itemtypestore/TypeSystemDraft$TypeDraft" "customProperties" "Ljava/util/Map;" .null := (F0_customProperties.other W2 (Or.inr (slot_ne (Or.inr (hw _ (List.mem_of_getElem? (i := 85) rfl))) (Or.inr (hw _ (List.mem_of_getElem? (i := 67) rfl))) (by decide) (t := (.object "java/util/Map")) (t' := (.object "java/lang/String")) (by decide) (by decide))))
  have E0_q_2 : Exa Z h2 a "com/example/item_type_store/itemtypestore/TypeSystemDraft$TypeDraft" := (E0.wr W2)
  have fK_q_2 : Keep h0 h2 [a] := ((Keep.refl h0 [a]).wr W2 (Or.inl (List.mem_of_getElem? (i := 0) rfl)))
  have N2 := Fr.snoc X2 (Fr.nil n0) ng
  refine Go.st (T' := T2) (g' := (mkF m 9 #[.val (.ref a), .val v1, .val (.int p2), .val v3, .val v4, .val (.int p5), .val (.int p6), .val v7, .val v8, .val v9, .val v10] [])) st2 ?_
  refine Go.st (T' := T2) (g' := (mkF m 10 #[.val (.ref a), .val v1, .val (.int p2), .val v3, .val v4, .val (.int p5), .val (.int p6), .val v7, .val v8, .val v9, .val v10] [(.ref a)])) (fun _ hr => XS.aloadN X2.here hx rfl (hb hby d10_9) rfl rfl hr) ?_
  refine Go.st (T' := T2) (g' := (mkF m 11 #[.val (.ref a), .val v1, .val (.int p2), .val v3, .val v4, .val (.int p5), .val (.int p6), .val v7, .val v8, .val v9, .val v10] [(.int p2), (.ref a)])) (fun _ hr => XS.iloadN X2.here hx rfl (hb hby d10_10) rfl hr) ?_
  obtain ⟨T3, h3, X3, e3, W3, st3⟩ := putF X2 hx hZ hown (host := "") (Or.inl (hw _ (List.mem_of_getElem? (i := 68) rfl))) Via.refl e2 F0_line_q_2 E0_q_2 (Or.inr ⟨(hw _ (List.mem_of_getElem? (i := 69) rfl)), rfl, hnm⟩) (hw _ (List.mem_of_getElem? (i := 31) rfl)) (ty := .int) (by decide) rfl rfl (g := (mkF m 11 #[.val (.ref a), .val v1, .val (.int p2), .val v3, .val v4, .val (.int p5), .val (.int p6), .val v7, .val v8, .val v9, .val v10] [(.int p2), (.ref a)])) rfl rfl (hb hby d10_11)
  have F0_file_q_3 : Fld Z h3 a "com/example/item_type_store/itemtypestore/TypeSystemDraft$TypeDraft" "file" "Ljava/lang/String;" v1 := (F0_file_q_2.other W3 (Or.inr (slot_ne (Or.inr (hw _ (List.mem_of_getElem? (i := 67) rfl))) (Or.inr (hw _ (List.mem_of_getElem? (i := 69) rfl))) (by decide) (t := (.object "java/lang/String")) (t' := .int) (by decide) (by decide))))
  have F0_line_q_3 : Fld Z h3 a "com/example/item_type_store/itemtypestore/TypeSystemDraft$TypeDraft" "line" "I" (.int p2) := (F0_line_q_2.same W3)
  have F0_code_q_3 : Fld Z h3 a "com/example/item_type_store/itemtypestore/TypeSystemDraft$TypeDraft" "code" "Ljava/lang/String;" .null := (F0_code_q_2.other W3 (Or.inr (slot_ne (Or.inr (hw _ (List.mem_of_getElem? (i := 71) rfl))) (Or.inr (hw _ (List.mem_of_getElem? (i := 69) rfl))) (by decide) (t := (.object "java/lang/String")) (t' := .int) (by decide) (by decide))))
  have F0_supertype_q_3 : Fld Z h3 a "com/example/item_type_store/itemtypestore/TypeSystemDraft$TypeDraft" "supertype" "Ljava/lang/String;" .null := (F0_supertype_q_2.other W3 (Or.inr (slot_ne (Or.inr (hw _ (List.mem_of_getElem? (i := 73) rfl))) (Or.inr (hw _ (List.mem_of_getElem? (i := 69) rfl))) (by decide) (t := (.object "java/lang/String")) (t' := .int) (by decide) (by decide))))
  have F0_direct_q_3 : Fld Z h3 a "com/example/item_type_store/itemtypestore/TypeSystemDraft$TypeDraft" "direct" "Z" (.int (0 : Int32)) := (F0_direct_q_2.other W3 (Or.inr (slot_ne (Or.inr (hw _ (List.mem_of_getElem? (i := 75) rfl))) (Or.inr (hw _ (List.mem_of_getElem? (i := 69) rfl))) (by decide) (t := .boolean) (t' := .int) (by decide) (by decide))))
  have F0_isAbstract_q_3 : Fld Z h3 a "com/example/item_type_store/itemtypestore/TypeSystemDraft$TypeDraft" "isAbstract" "Z" (.int (0 : Int32)) := (F0_isAbstract_q_2.other W3 (Or.inr (slot_ne (Or.inr (hw _ (List.mem_of_getElem? (i := 77) rfl))) (Or.inr (hw _ (List.mem_of_getElem? (i := 69) rfl))) (by decide) (t := .boolean) (t' := .int) (by decide) (by decide))))
  have F0_deployment_q_3 : Fld Z h3 a "com/example/item_type_store/itemtypestore/TypeSystemDraft$TypeDraft" "deployment" "Lcom/example/item_type_store/itemtypestore/TypeSystemDraft$DeploymentDraft;" .null := (F0_deployment_q_2.other W3 (Or.inr (slot_ne (Or.inr (hw _ (List.mem_of_getElem? (i := 79) rfl))) (Or.inr (hw _ (List.mem_of_getElem? (i := 69) rfl))) (by decide) (t := (.object "com/example/item_type_store/itemtypestore/TypeSystemDraft$DeploymentDraft")) (t' := .int) (by decide) (by decide))))
  have F0_attributes_q_3 : Fld Z h3 a "com/example/item_type_store/itemtypestore/TypeSystemDraft$TypeDraft" "attributes" "Ljava/util/List;" .null := (F0_attributes_q_2.other W3 (Or.inr (slot_ne (Or.inr (hw _ (List.mem_of_getElem? (i := 81) rfl))) (Or.inr (hw _ (List.mem_of_getElem? (i := 69) rfl))) (by decide) (t := (.object "java/util/List")) (t' := .int) (by decide) (by decide))))
  have F0_indexes_q_3 : Fld Z h3 a "com/example/item_type_store/itemtypestore/TypeSystemDraft$TypeDraft" "indexes" "Ljava/util/List;" .null := (F0_indexes_q_2.other W3 (Or.inr (slot_ne (Or.inr (hw _ (List.mem_of_getElem? (i := 83) rfl))) (Or.inr (hw _ (List.mem_of_getElem? (i := 69) rfl))) (by decide) (t := (.object "java/util/List")) (t' := .int) (by decide) (by decide))))
  have F0_customProperties_q_3 : Fld Z h3 a "com/example/item_type_store/itemtypestore/TypeSystemDraft$TypeDraft" "customProperties" "Ljava/util/Map;" .null := (F0_customProperties_q_2.other W3 (Or.inr (slot_ne (Or.inr (hw _ (List.mem_of_getElem? (i := 85) rfl))) (Or.inr (hw _ (List.mem_of_getElem? (i := 69) rfl))) (by decide) (t := (.object "java/util/Map")) (t' := .int) (by decide) (by decide))))
  have E0_q_3 : Exa Z h3 a "com/example/item_type_store/itemtypestore/TypeSystemDraft$TypeDraft" := (E0_q_2.wr W3)
  have fK_q_3 : Keep h0 h3 [a] := (fK_q_2.wr W3 (Or.inl (List.mem_of_getElem? (i := 0) rfl)))
  have N3 := Fr.snoc X3 N2 ng
  refine Go.st (T' := T3) (g' := (mkF m 14 #[.val (.ref a), .val v1, .val (.int p2), .val v3, .val v4, .val (.int p5), .val (.int p6), .val v7, .val v8, .val v9, .val v10] [])) st3 ?_
  refine Go.st (T' := T3) (g' := (mkF m 15 #[.val (.ref a), .val v1, .val (.int p2), .val v3, .val v4, .val (.int p5), .val (.int p6), .val v7, .val v8, .val v9, .val v10] [(.ref a)])) (fun _ hr => XS.aloadN X3.here hx rfl (hb hby d10_14) rfl rfl hr) ?_
  refine Go.st (T' := T3) (g' := (mkF m 16 #[.val (.ref a), .val v1, .val (.int p2), .val v3, .val v4, .val (.int p5), .val (.int p6), .val v7, .val v8, .val v9, .val v10] [v3, (.ref a)])) (fun _ hr => XS.aloadN X3.here hx rfl (hb hby d10_15) rfl r_v3 hr) ?_
  obtain ⟨T4, h4, X4, e4, W4, st4⟩ := putF X3 hx hZ hown (host := "") (Or.inl (hw _ (List.mem_of_getElem? (i := 70) rfl))) Via.refl e3 F0_code_q_3 E0_q_3 (Or.inr ⟨(hw _ (List.mem_of_getElem? (i := 71) rfl)), rfl, hnm⟩) (hw _ (List.mem_of_getElem? (i := 31) rfl)) (ty := (.object "java/lang/String")) (by decide) (own_narrow_ref r_v3) (own_fits_obj r_v3) (g := (mkF m 16 #[.val (.ref a), .val v1, .val (.int p2), .val v3, .val v4, .val (.int p5), .val (.int p6), .val v7, .val v8, .val v9, .val v10] [v3, (.ref a)])) rfl rfl (hb hby d10_16)
  have F0_file_q_4 : Fld Z h4 a "com/example/item_type_store/itemtypestore/TypeSystemDraft$TypeDraft" "file" "Ljava/lang/String;" v1 := (F0_file_q_3.other W4 (Or.inr (slot_ne (Or.inr (hw _ (List.mem_of_getElem? (i := 67) rfl))) (Or.inr (hw _ (List.mem_of_getElem? (i := 71) rfl))) (by decide) (t := (.object "java/lang/String")) (t' := (.object "java/lang/String")) (by decide) (by decide))))
  have F0_line_q_4 : Fld Z h4 a "com/example/item_type_store/itemtypestore/TypeSystemDraft$TypeDraft" "line" "I" (.int p2) := (F0_line_q_3.other W4 (Or.inr (slot_ne (Or.inr (hw _ (List.mem_of_getElem? (i := 69) rfl))) (Or.inr (hw _ (List.mem_of_getElem? (i := 71) rfl))) (by decide) (t := .int) (t' := (.object "java/lang/String")) (by decide) (by decide))))
  have F0_code_q_4 : Fld Z h4 a "com/example/item_type_store/itemtypestore/TypeSystemDraft$TypeDraft" "code" "Ljava/lang/String;" v3 := (F0_code_q_3.same W4)
  have F0_supertype_q_4 : Fld Z h4 a "com/example/item_type_store/itemtypestore/TypeSystemDraft$TypeDraft" "supertype" "Ljava/lang/String;" .null := (F0_supertype_q_3.other W4 (Or.inr (slot_ne (Or.inr (hw _ (List.mem_of_getElem? (i := 73) rfl))) (Or.inr (hw _ (List.mem_of_getElem? (i := 71) rfl))) (by decide) (t := (.object "java/lang/String")) (t' := (.object "java/lang/String")) (by decide) (by decide))))
  have F0_direct_q_4 : Fld Z h4 a "com/example/item_type_store/itemtypestore/TypeSystemDraft$TypeDraft" "direct" "Z" (.int (0 : Int32)) := (F0_direct_q_3.other W4 (Or.inr (slot_ne (Or.inr (hw _ (List.mem_of_getElem? (i := 75) rfl))) (Or.inr (hw _ (List.mem_of_getElem? (i := 71) rfl))) (by decide) (t := .boolean) (t' := (.object "java/lang/String")) (by decide) (by decide))))
  have F0_isAbstract_q_4 : Fld Z h4 a "com/example/item_type_store/itemtypestore/TypeSystemDraft$TypeDraft" "isAbstract" "Z" (.int (0 : Int32)) := (F0_isAbstract_q_3.other W4 (Or.inr (slot_ne (Or.inr (hw _ (List.mem_of_getElem? (i := 77) rfl))) (Or.inr (hw _ (List.mem_of_getElem? (i := 71) rfl))) (by decide) (t := .boolean) (t' := (.object "java/lang/String")) (by decide) (by decide))))
  have F0_deployment_q_4 : Fld Z h4 a "com/example/item_type_store/itemtypestore/TypeSystemDraft$TypeDraft" "deployment" "Lcom/example/item_type_store/itemtypestore/TypeSystemDraft$DeploymentDraft;" .null := (F0_deployment_q_3.other W4 (Or.inr (slot_ne (Or.inr (hw _ (List.mem_of_getElem? (i := 79) rfl))) (Or.inr (hw _ (List.mem_of_getElem? (i := 71) rfl))) (by decide) (t := (.object "com/example/item_type_store/itemtypestore/TypeSystemDraft$DeploymentDraft")) (t' := (.object "java/lang/String")) (by decide) (by decide))))
  have F0_attributes_q_4 : Fld Z h4 a "com/example/item_type_store/itemtypestore/TypeSystemDraft$TypeDraft" "attributes" "Ljava/util/List;" .null := (F0_attributes_q_3.other W4 (Or.inr (slot_ne (Or.inr (hw _ (List.mem_of_getElem? (i := 81) rfl))) (Or.inr (hw _ (List.mem_of_getElem? (i := 71) rfl))) (by decide) (t := (.object "java/util/List")) (t' := (.object "java/lang/String")) (by decide) (by decide))))
  have F0_indexes_q_4 : Fld Z h4 a "com/example/item_type_store/itemtypestore/TypeSystemDraft$TypeDraft" "indexes" "Ljava/util/List;" .null := (F0_indexes_q_3.other W4 (Or.inr (slot_ne (Or.inr (hw _ (List.mem_of_getElem? (i := 83) rfl))) (Or.inr (hw _ (List.mem_of_getElem? (i := 71) rfl))) (by decide) (t := (.object "java/util/List")) (t' := (.object "java/lang/String")) (by decide) (by decide))))
  have F0_customProperties_q_4 : Fld Z h4 a "com/example/item_type_store/itemtypestore/TypeSystemDraft$TypeDraft" "customProperties" "Ljava/util/Map;" .null := (F0_customProperties_q_3.other W4 (Or.inr (slot_ne (Or.inr (hw _ (List.mem_of_getElem? (i := 85) rfl))) (Or.inr (hw _ (List.mem_of_getElem? (i := 71) rfl))) (by decide) (t := (.object "java/util/Map")) (t' := (.object "java/lang/String")) (by decide) (by decide))))
  have E0_q_4 : Exa Z h4 a "com/example/item_type_store/itemtypestore/TypeSystemDraft$TypeDraft" := (E0_q_3.wr W4)
  have fK_q_4 : Keep h0 h4 [a] := (fK_q_3.wr W4 (Or.inl (List.mem_of_getElem? (i := 0) rfl)))
  have N4 := Fr.snoc X4 N3 ng
  refine Go.st (T' := T4) (g' := (mkF m 19 #[.val (.ref a), .val v1, .val (.int p2), .val v3, .val v4, .val (.int p5), .val (.int p6), .val v7, .val v8, .val v9, .val v10] [])) st4 ?_
  refine Go.st (T' := T4) (g' := (mkF m 20 #[.val (.ref a), .val v1, .val (.int p2), .val v3, .val v4, .val (.int p5), .val (.int p6), .val v7, .val v8, .val v9, .val v10] [(.ref a)])) (fun _ hr => XS.aloadN X4.here hx rfl (hb hby d10_19) rfl rfl hr) ?_
  refine Go.st (T' := T4) (g' := (mkF m 22 #[.val (.ref a), .val v1, .val (.int p2), .val v3, .val v4, .val (.int p5), .val (.int p6), .val v7, .val v8, .val v9, .val v10] [v4, (.ref a)])) (fun _ hr => XS.aload X4.here hx rfl (hb hby d10_20) rfl r_v4 hr) ?_
  obtain ⟨T5, h5, X5, e5, W5, st5⟩ := putF X4 hx hZ hown (host := "") (Or.inl (hw _ (List.mem_of_getElem? (i := 72) rfl))) Via.refl e4 F0_supertype_q_4 E0_q_4 (Or.inr ⟨(hw _ (List.mem_of_getElem? (i := 73) rfl)), rfl, hnm⟩) (hw _ (List.mem_of_getElem? (i := 31) rfl)) (ty := (.object "java/lang/String")) (by decide) (own_narrow_ref r_v4) (own_fits_obj r_v4) (g := (mkF m 22 #[.val (.ref a), .val v1, .val (.int p2), .val v3, .val v4, .val (.int p5), .val (.int p6), .val v7, .val v8, .val v9, .val v10] [v4, (.ref a)])) rfl rfl (hb hby d10_22)
  have F0_file_q_5 : Fld Z h5 a "com/example/item_type_store/itemtypestore/TypeSystemDraft$TypeDraft" "file" "Ljava/lang/String;" v1 := (F0_file_q_4.other W5 (Or.inr (slot_ne (Or.inr (hw _ (List.mem_of_getElem? (i := 67) rfl))) (Or.inr (hw _ (List.mem_of_getElem? (i := 73) rfl))) (by decide) (t := (.object "java/lang/String")) (t' := (.object "java/lang/String")) (by decide) (by decide))))
  have F0_line_q_5 : Fld Z h5 a "com/example/item_type_store/itemtypestore/TypeSystemDraft$TypeDraft" "line" "I" (.int p2) := (F0_line_q_4.other W5 (Or.inr (slot_ne (Or.inr (hw _ (List.mem_of_getElem? (i := 69) rfl))) (Or.inr (hw _ (List.mem_of_getElem? (i := 73) rfl))) (by decide) (t := .int) (t' := (.object "java/lang/String")) (by decide) (by decide))))
  have F0_code_q_5 : Fld Z h5 a "com/example/item_type_store/itemtypestore/TypeSystemDraft$TypeDraft" "code" "Ljava/lang/String;" v3 := (F0_code_q_4.other W5 (Or.inr (slot_ne (Or.inr (hw _ (List.mem_of_getElem? (i := 71) rfl))) (Or.inr (hw _ (List.mem_of_getElem? (i := 73) rfl))) (by decide) (t := (.object "java/lang/String")) (t' := (.object "java/lang/String")) (by decide) (by decide))))
  have F0_supertype_q_5 : Fld Z h5 a "com/example/item_type_store/itemtypestore/TypeSystemDraft$TypeDraft" "supertype" "Ljava/lang/String;" v4 := (F0_supertype_q_4.same W5)
  have F0_direct_q_5 : Fld Z h5 a "com/example/item_type_store/itemtypestore/TypeSystemDraft$TypeDraft" "direct" "Z" (.int (0 : Int32)) := (F0_direct_q_4.other W5 (Or.inr (slot_ne (Or.inr (hw _ (List.mem_of_getElem? (i := 75) rfl))) (Or.inr (hw _ (List.mem_of_getElem? (i := 73) rfl))) (by decide) (t := .boolean) (t' := (.object "java/lang/String")) (by decide) (by decide))))
  have F0_isAbstract_q_5 : Fld Z h5 a "com/example/item_type_store/itemtypestore/TypeSystemDraft$TypeDraft" "isAbstract" "Z" (.int (0 : Int32)) := (F0_isAbstract_q_4.other W5 (Or.inr (slot_ne (Or.inr (hw _ (List.mem_of_getElem? (i := 77) rfl))) (Or.inr (hw _ (List.mem_of_getElem? (i := 73) rfl))) (by decide) (t := .boolean) (t' := (.object "java/lang/String")) (by decide) (by decide))))
  have F0_deployment_q_5 : Fld Z h5 a "com/example/item_type_store/itemtypestore/TypeSystemDraft$TypeDraft" "deployment" "Lcom/example/item_type_store/itemtypestore/TypeSystemDraft$DeploymentDraft;" .null := (F0_deployment_q_4.other W5 (Or.inr (slot_ne (Or.inr (hw _ (List.mem_of_getElem? (i := 79) rfl))) (Or.inr (hw _ (List.mem_of_getElem? (i := 73) rfl))) (by decide) (t := (.object "com/example/item_type_store/itemtypestore/TypeSystemDraft$DeploymentDraft")) (t' := (.object "java/lang/String")) (by decide) (by decide))))
  have F0_attributes_q_5 : Fld Z h5 a "com/example/item_type_store/itemtypestore/TypeSystemDraft$TypeDraft" "attributes" "Ljava/util/List;" .null := (F0_attributes_q_4.other W5 (Or.inr (slot_ne (Or.inr (hw _ (List.mem_of_getElem? (i := 81) rfl))) (Or.inr (hw _ (List.mem_of_getElem? (i := 73) rfl))) (by decide) (t := (.object "java/util/List")) (t' := (.object "java/lang/String")) (by decide) (by decide))))
  have F0_indexes_q_5 : Fld Z h5 a "com/example/item_type_store/itemtypestore/TypeSystemDraft$TypeDraft" "indexes" "Ljava/util/List;" .null := (F0_indexes_q_4.other W5 (Or.inr (slot_ne (Or.inr (hw _ (List.mem_of_getElem? (i := 83) rfl))) (Or.inr (hw _ (List.mem_of_getElem? (i := 73) rfl))) (by decide) (t := (.object "java/util/List")) (t' := (.object "java/lang/String")) (by decide) (by decide))))
  have F0_customProperties_q_5 : Fld Z h5 a "com/example/item_type_store/itemtypestore/TypeSystemDraft$TypeDraft" "customProperties" "Ljava/util/Map;" .null := (F0_customProperties_q_4.other W5 (Or.inr (slot_ne (Or.inr (hw _ (List.mem_of_getElem? (i := 85) rfl))) (Or.inr (hw _ (List.mem_of_getElem? (i := 73) rfl))) (by decide) (t := (.object "java/util/Map")) (t' := (.object "java/lang/String")) (by decide) (by decide))))
  have E0_q_5 : Exa Z h5 a "com/example/item_type_store/itemtypestore/TypeSystemDraft$TypeDraft" := (E0_q_4.wr W5)
  have fK_q_5 : Keep h0 h5 [a] := (fK_q_4.wr W5 (Or.inl (List.mem_of_getElem? (i := 0) rfl)))
  have N5 := Fr.snoc X5 N4 ng
  refine Go.st (T' := T5) (g' := (mkF m 25 #[.val (.ref a), .val v1, .val (.int p2), .val v3, .val v4, .val (.int p5), .val (.int p6), .val v7, .val v8, .val v9, .val v10] [])) st5 ?_
  refine Go.st (T' := T5) (g' := (mkF m 26 #[.val (.ref a), .val v1, .val (.int p2), .val v3, .val v4, .val (.int p5), .val (.int p6), .val v7, .val v8, .val v9, .val v10] [(.ref a)])) (fun _ hr => XS.aloadN X5.here hx rfl (hb hby d10_25) rfl rfl hr) ?_
  refine Go.st (T' := T5) (g' := (mkF m 28 #[.val (.ref a), .val v1, .val (.int p2), .val v3, .val v4, .val (.int p5), .val (.int p6), .val v7, .val v8, .val v9, .val v10] [(.int p5), (.ref a)])) (fun _ hr => XS.iload X5.here hx rfl (hb hby d10_26) rfl hr) ?_
  obtain ⟨T6, h6, X6, e6, W6, st6⟩ := putFN X5 hx hZ hown (hw _ (List.mem_of_getElem? (i := 74) rfl)) Via.refl e5 F0_direct_q_5 E0_q_5 (Or.inr ⟨(hw _ (List.mem_of_getElem? (i := 75) rfl)), rfl, hnm⟩) (hw _ (List.mem_of_getElem? (i := 31) rfl)) (ty := .boolean) (v' := (.int (nar .boolean p5))) (by decide) rfl (fits_nar_bool _) (g := (mkF m 28 #[.val (.ref a), .val v1, .val (.int p2), .val v3, .val v4, .val (.int p5), .val (.int p6), .val v7, .val v8, .val v9, .val v10] [(.int p5), (.ref a)])) rfl rfl (hb hby d10_28)
  have F0_file_q_6 : Fld Z h6 a "com/example/item_type_store/itemtypestore/TypeSystemDraft$TypeDraft" "file" "Ljava/lang/String;" v1 := (F0_file_q_5.other W6 (Or.inr (slot_ne (Or.inr (hw _ (List.mem_of_getElem? (i := 67) rfl))) (Or.inr (hw _ (List.mem_of_getElem? (i := 75) rfl))) (by decide) (t := (.object "java/lang/String")) (t' := .boolean) (by decide) (by decide))))
  have F0_line_q_6 : Fld Z h6 a "com/example/item_type_store/itemtypestore/TypeSystemDraft$TypeDraft" "line" "I" (.int p2) := (F0_line_q_5.other W6 (Or.inr (slot_ne (Or.inr (hw _ (List.mem_of_getElem? (i := 69) rfl))) (Or.inr (hw _ (List.mem_of_getElem? (i := 75) rfl))) (by decide) (t := .int) (t' := .boolean) (by decide) (by decide))))
  have F0_code_q_6 : Fld Z h6 a "com/example/item_type_store/itemtypestore/TypeSystemDraft$TypeDraft" "code" "Ljava/lang/String;" v3 := (F0_code_q_5.other W6 (Or.inr (slot_ne (Or.inr (hw _ (List.mem_of_getElem? (i := 71) rfl))) (Or.inr (hw _ (List.mem_of_getElem? (i := 75) rfl))) (by decide) (t := (.object "java/lang/String")) (t' := .boolean) (by decide) (by decide))))
  have F0_supertype_q_6 : Fld Z h6 a "com/example/item_type_store/itemtypestore/TypeSystemDraft$TypeDraft" "supertype" "Ljava/lang/String;" v4 := (F0_supertype_q_5.other W6 (Or.inr (slot_ne (Or.inr (hw _ (List.mem_of_getElem? (i := 73) rfl))) (Or.inr (hw _ (List.mem_of_getElem? (i := 75) rfl))) (by decide) (t := (.object "java/lang/String")) (t' := .boolean) (by decide) (by decide))))
  have F0_direct_q_6 : Fld Z h6 a "com/example/item_type_store/itemtypestore/TypeSystemDraft$TypeDraft" "direct" "Z" (.int (nar .boolean p5)) := (F0_direct_q_5.same W6)
  have F0_isAbstract_q_6 : Fld Z h6 a "com/example/item_type_store/itemtypestore/TypeSystemDraft$TypeDraft" "isAbstract" "Z" (.int (0 : Int32)) := (F0_isAbstract_q_5.other W6 (Or.inr (slot_ne (Or.inr (hw _ (List.mem_of_getElem? (i := 77) rfl))) (Or.inr (hw _ (List.mem_of_getElem? (i := 75) rfl))) (by decide) (t := .boolean) (t' := .boolean) (by decide) (by decide))))
  have F0_deployment_q_6 : Fld Z h6 a "com/example/item_type_store/itemtypestore/TypeSystemDraft$TypeDraft" "deployment" "Lcom/example/item_type_store/itemtypestore/TypeSystemDraft$DeploymentDraft;" .null := (F0_deployment_q_5.other W6 (Or.inr (slot_ne (Or.inr (hw _ (List.mem_of_getElem? (i := 79) rfl))) (Or.inr (hw _ (List.mem_of_getElem? (i := 75) rfl))) (by decide) (t := (.object "com/example/item_type_store/itemtypestore/TypeSystemDraft$DeploymentDraft")) (t' := .boolean) (by decide) (by decide))))
  have F0_attributes_q_6 : Fld Z h6 a "com/example/item_type_store/itemtypestore/TypeSystemDraft$TypeDraft" "attributes" "Ljava/util/List;" .null := (F0_attributes_q_5.other W6 (Or.inr (slot_ne (Or.inr (hw _ (List.mem_of_getElem? (i := 81) rfl))) (Or.inr (hw _ (List.mem_of_getElem? (i := 75) rfl))) (by decide) (t := (.object "java/util/List")) (t' := .boolean) (by decide) (by decide))))
  have F0_indexes_q_6 : Fld Z h6 a "com/example/item_type_store/itemtypestore/TypeSystemDraft$TypeDraft" "indexes" "Ljava/util/List;" .null := (F0_indexes_q_5.other W6 (Or.inr (slot_ne (Or.inr (hw _ (List.mem_of_getElem? (i := 83) rfl))) (Or.inr (hw _ (List.mem_of_getElem? (i := 75) rfl))) (by decide) (t := (.object "java/util/List")) (t' := .boolean) (by decide) (by decide))))
  have F0_customProperties_q_6 : Fld Z h6 a "com/example/item_type_store/itemtypestore/TypeSystemDraft$TypeDraft" "customProperties" "Ljava/util/Map;" .null := (F0_customProperties_q_5.other W6 (Or.inr (slot_ne (Or.inr (hw _ (List.mem_of_getElem? (i := 85) rfl))) (Or.inr (hw _ (List.mem_of_getElem? (i := 75) rfl))) (by decide) (t := (.object "java/util/Map")) (t' := .boolean) (by decide) (by decide))))
  have E0_q_6 : Exa Z h6 a "com/example/item_type_store/itemtypestore/TypeSystemDraft$TypeDraft" := (E0_q_5.wr W6)
  have fK_q_6 : Keep h0 h6 [a] := (fK_q_5.wr W6 (Or.inl (List.mem_of_getElem? (i := 0) rfl)))
  have N6 := Fr.snoc X6 N5 ng
  refine Go.st (T' := T6) (g' := (mkF m 31 #[.val (.ref a), .val v1, .val (.int p2), .val v3, .val v4, .val (.int p5), .val (.int p6), .val v7, .val v8, .val v9, .val v10] [])) st6 ?_
  refine Go.st (T' := T6) (g' := (mkF m 32 #[.val (.ref a), .val v1, .val (.int p2), .val v3, .val v4, .val (.int p5), .val (.int p6), .val v7, .val v8, .val v9, .val v10] [(.ref a)])) (fun _ hr => XS.aloadN X6.here hx rfl (hb hby d10_31) rfl rfl hr) ?_
  refine Go.st (T' := T6) (g' := (mkF m 34 #[.val (.ref a), .val v1, .val (.int p2), .val v3, .val v4, .val (.int p5), .val (.int p6), .val v7, .val v8, .val v9, .val v10] [(.int p6), (.ref a)])) (fun _ hr => XS.iload X6.here hx rfl (hb hby d10_32) rfl hr) ?_
  obtain ⟨T7, h7, X7, e7, W7, st7⟩ := putFN X6 hx hZ hown (hw _ (List.mem_of_getElem? (i := 76) rfl)) Via.refl e6 F0_isAbstract_q_6 E0_q_6 (Or.inr ⟨(hw _ (List.mem_of_getElem? (i := 77) rfl)), rfl, hnm⟩) (hw _ (List.mem_of_getElem? (i := 31) rfl)) (ty := .boolean) (v' := (.int (nar .boolean p6))) (by decide) rfl (fits_nar_bool _) (g := (mkF m 34 #[.val (.ref a), .val v1, .val (.int p2), .val v3, .val v4, .val (.int p5), .val (.int p6), .val v7, .val v8, .val v9, .val v10] [(.int p6), (.ref a)])) rfl rfl (hb hby d10_34)
  have F0_file_q_7 : Fld Z h7 a "com/example/item_type_store/itemtypestore/TypeSystemDraft$TypeDraft" "file" "Ljava/lang/String;" v1 := (F0_file_q_6.other W7 (Or.inr (slot_ne (Or.inr (hw _ (List.mem_of_getElem? (i := 67) rfl))) (Or.inr (hw _ (List.mem_of_getElem? (i := 77) rfl))) (by decide) (t := (.object "java/lang/String")) (t' := .boolean) (by decide) (by decide))))
  have F0_line_q_7 : Fld Z h7 a "com/example/item_type_store/itemtypestore/TypeSystemDraft$TypeDraft" "line" "I" (.int p2) := (F0_line_q_6.other W7 (Or.inr (slot_ne (Or.inr (hw _ (List.mem_of_getElem? (i := 69) rfl))) (Or.inr (hw _ (List.mem_of_getElem? (i := 77) rfl))) (by decide) (t := .int) (t' := .boolean) (by decide) (by decide))))
  have F0_code_q_7 : Fld Z h7 a "com/example/item_type_store/itemtypestore/TypeSystemDraft$TypeDraft" "code" "Ljava/lang/String;" v3 := (F0_code_q_6.other W7 (Or.inr (slot_ne (Or.inr (hw _ (List.mem_of_getElem? (i := 71) rfl))) (Or.inr (hw _ (List.mem_of_getElem? (i := 77) rfl))) (by decide) (t := (.object "java/lang/String")) (t' := .boolean) (by decide) (by decide))))
  have F0_supertype_q_7 : Fld Z h7 a "com/example/item_type_store/itemtypestore/TypeSystemDraft$TypeDraft" "supertype" "Ljava/lang/String;" v4 := (F0_supertype_q_6.other W7 (Or.inr (slot_ne (Or.inr (hw _ (List.mem_of_getElem? (i := 73) rfl))) (Or.inr (hw _ (List.mem_of_getElem? (i := 77) rfl))) (by decide) (t := (.object "java/lang/String")) (t' := .boolean) (by decide) (by decide))))
  have F0_direct_q_7 : Fld Z h7 a "com/example/item_type_store/itemtypestore/TypeSystemDraft$TypeDraft" "direct" "Z" (.int (nar .boolean p5)) := (F0_direct_q_6.other W7 (Or.inr (slot_ne (Or.inr (hw _ (List.mem_of_getElem? (i := 75) rfl))) (Or.inr (hw _ (List.mem_of_getElem? (i := 77) rfl))) (by decide) (t := .boolean) (t' := .boolean) (by decide) (by decide))))
  have F0_isAbstract_q_7 : Fld Z h7 a "com/example/item_type_store/itemtypestore/TypeSystemDraft$TypeDraft" "isAbstract" "Z" (.int (nar .boolean p6)) := (F0_isAbstract_q_6.same W7)
  have F0_deployment_q_7 : Fld Z h7 a "com/example/item_type_store/itemtypestore/TypeSystemDraft$TypeDraft" "deployment" "Lcom/example/item_type_store/itemtypestore/TypeSystemDraft$DeploymentDraft;" .null := (F0_deployment_q_6.other W7 (Or.inr (slot_ne (Or.inr (hw _ (List.mem_of_getElem? (i := 79) rfl))) (Or.inr (hw _ (List.mem_of_getElem? (i := 77) rfl))) (by decide) (t := (.object "com/example/item_type_store/itemtypestore/TypeSystemDraft$DeploymentDraft")) (t' := .boolean) (by decide) (by decide))))
  have F0_attributes_q_7 : Fld Z h7 a "com/example/item_type_store/itemtypestore/TypeSystemDraft$TypeDraft" "attributes" "Ljava/util/List;" .null := (F0_attributes_q_6.other W7 (Or.inr (slot_ne (Or.inr (hw _ (List.mem_of_getElem? (i := 81) rfl))) (Or.inr (hw _ (List.mem_of_getElem? (i := 77) rfl))) (by decide) (t := (.object "java/util/List")) (t' := .boolean) (by decide) (by decide))))
  have F0_indexes_q_7 : Fld Z h7 a "com/example/item_type_store/itemtypestore/TypeSystemDraft$TypeDraft" "indexes" "Ljava/util/List;" .null := (F0_indexes_q_6.other W7 (Or.inr (slot_ne (Or.inr (hw _ (List.mem_of_getElem? (i := 83) rfl))) (Or.inr (hw _ (List.mem_of_getElem? (i := 77) rfl))) (by decide) (t := (.object "java/util/List")) (t' := .boolean) (by decide) (by decide))))
  have F0_customProperties_q_7 : Fld Z h7 a "com/example/item_type_store/itemtypestore/TypeSystemDraft$TypeDraft" "customProperties" "Ljava/util/Map;" .null := (F0_customProperties_q_6.other W7 (Or.inr (slot_ne (Or.inr (hw _ (List.mem_of_getElem? (i := 85) rfl))) (Or.inr (hw _ (List.mem_of_getElem? (i := 77) rfl))) (by decide) (t := (.object "java/util/Map")) (t' := .boolean) (by decide) (by decide))))
  have E0_q_7 : Exa Z h7 a "com/example/item_type_store/itemtypestore/TypeSystemDraft$TypeDraft" := (E0_q_6.wr W7)
  have fK_q_7 : Keep h0 h7 [a] := (fK_q_6.wr W7 (Or.inl (List.mem_of_getElem? (i := 0) rfl)))
  have N7 := Fr.snoc X7 N6 ng
  refine Go.st (T' := T7) (g' := (mkF m 37 #[.val (.ref a), .val v1, .val (.int p2), .val v3, .val v4, .val (.int p5), .val (.int p6), .val v7, .val v8, .val v9, .val v10] [])) st7 ?_
  refine Go.st (T' := T7) (g' := (mkF m 38 #[.val (.ref a), .val v1, .val (.int p2), .val v3, .val v4, .val (.int p5), .val (.int p6), .val v7, .val v8, .val v9, .val v10] [(.ref a)])) (fun _ hr => XS.aloadN X7.here hx rfl (hb hby d10_37) rfl rfl hr) ?_
  refine Go.st (T' := T7) (g' := (mkF m 40 #[.val (.ref a), .val v1, .val (.int p2), .val v3, .val v4, .val (.int p5), .val (.int p6), .val v7, .val v8, .val v9, .val v10] [v7, (.ref a)])) (fun _ hr => XS.aload X7.here hx rfl (hb hby d10_38) rfl r_v7 hr) ?_
  obtain ⟨T8, h8, X8, e8, W8, st8⟩ := putF X7 hx hZ hown (host := "") (Or.inl (hw _ (List.mem_of_getElem? (i := 78) rfl))) Via.refl e7 F0_deployment_q_7 E0_q_7 (Or.inr ⟨(hw _ (List.mem_of_getElem? (i := 79) rfl)), rfl, hnm⟩) (hw _ (List.mem_of_getElem? (i := 31) rfl)) (ty := (.object "com/example/item_type_store/itemtypestore/TypeSystemDraft$DeploymentDraft")) (by decide) (own_narrow_ref r_v7) (own_fits_obj r_v7) (g := (mkF m 40 #[.val (.ref a), .val v1, .val (.int p2), .val v3, .val v4, .val (.int p5), .val (.int p6), .val v7, .val v8, .val v9, .val v10] [v7, (.ref a)])) rfl rfl (hb hby d10_40)
  have F0_file_q_8 : Fld Z h8 a "com/example/item_type_store/itemtypestore/TypeSystemDraft$TypeDraft" "file" "Ljava/lang/String;" v1 := (F0_file_q_7.other W8 (Or.inr (slot_ne (Or.inr (hw _ (List.mem_of_getElem? (i := 67) rfl))) (Or.inr (hw _ (List.mem_of_getElem? (i := 79) rfl))) (by decide) (t := (.object "java/lang/String")) (t' := (.object "com/example/item_type_store/itemtypestore/TypeSystemDraft$DeploymentDraft")) (by decide) (by decide))))
  have F0_line_q_8 : Fld Z h8 a "com/example/item_type_store/itemtypestore/TypeSystemDraft$TypeDraft" "line" "I" (.int p2) := (F0_line_q_7.other W8 (Or.inr (slot_ne (Or.inr (hw _ (List.mem_of_getElem? (i := 69) rfl))) (Or.inr (hw _ (List.mem_of_getElem? (i := 79) rfl))) (by decide) (t := .int) (t' := (.object "com/example/item_type_store/itemtypestore/TypeSystemDraft$DeploymentDraft")) (by decide) (by decide))))
  have F0_code_q_8 : Fld Z h8 a "com/example/item_type_store/itemtypestore/TypeSystemDraft$TypeDraft" "code" "Ljava/lang/String;" v3 := (F0_code_q_7.other W8 (Or.inr (slot_ne (Or.inr (hw _ (List.mem_of_getElem? (i := 71) rfl))) (Or.inr (hw _ (List.mem_of_getElem? (i := 79) rfl))) (by decide) (t := (.object "java/lang/String")) (t' := (.object "com/example/item_type_store/itemtypestore/TypeSystemDraft$DeploymentDraft")) (by decide) (by decide))))
  have F0_supertype_q_8 : Fld Z h8 a "com/example/item_type_store/itemtypestore/TypeSystemDraft$TypeDraft" "supertype" "Ljava/lang/String;" v4 := (F0_supertype_q_7.other W8 (Or.inr (slot_ne (Or.inr (hw _ (List.mem_of_getElem? (i := 73) rfl))) (Or.inr (hw _ (List.mem_of_getElem? (i := 79) rfl))) (by decide) (t := (.object "java/lang/String")) (t' := (.object "com/example/item_type_store/itemtypestore/TypeSystemDraft$DeploymentDraft")) (by decide) (by decide))))
  have F0_direct_q_8 : Fld Z h8 a "com/example/item_type_store/itemtypestore/TypeSystemDraft$TypeDraft" "direct" "Z" (.int (nar .boolean p5)) := (F0_direct_q_7.other W8 (Or.inr (slot_ne (Or.inr (hw _ (List.mem_of_getElem? (i := 75) rfl))) (Or.inr (hw _ (List.mem_of_getElem? (i := 79) rfl))) (by decide) (t := .boolean) (t' := (.object "com/example/item_type_store/itemtypestore/TypeSystemDraft$DeploymentDraft")) (by decide) (by decide))))
  have F0_isAbstract_q_8 : Fld Z h8 a "com/example/item_type_store/itemtypestore/TypeSystemDraft$TypeDraft" "isAbstract" "Z" (.int (nar .boolean p6)) := (F0_isAbstract_q_7.other W8 (Or.inr (slot_ne (Or.inr (hw _ (List.mem_of_getElem? (i := 77) rfl))) (Or.inr (hw _ (List.mem_of_getElem? (i := 79) rfl))) (by decide) (t := .boolean) (t' := (.object "com/example/item_type_store/itemtypestore/TypeSystemDraft$DeploymentDraft")) (by decide) (by decide))))
  have F0_deployment_q_8 : Fld Z h8 a "com/example/item_type_store/itemtypestore/TypeSystemDraft$TypeDraft" "deployment" "Lcom/example/item_type_store/itemtypestore/TypeSystemDraft$DeploymentDraft;" v7 := (F0_deployment_q_7.same W8)
  have F0_attributes_q_8 : Fld Z h8 a "com/example/item_type_store/itemtypestore/TypeSystemDraft$TypeDraft" "attributes" "Ljava/util/List;" .null := (F0_attributes_q_7.other W8 (Or.inr (slot_ne (Or.inr (hw _ (List.mem_of_getElem? (i := 81) rfl))) (Or.inr (hw _ (List.mem_of_getElem? (i := 79) rfl))) (by decide) (t := (.object "java/util/List")) (t' := (.object "com/example/item_type_store/itemtypestore/TypeSystemDraft$DeploymentDraft")) (by decide) (by decide))))
  have F0_indexes_q_8 : Fld Z h8 a "com/example/item_type_store/itemtypestore/TypeSystemDraft$TypeDraft" "indexes" "Ljava/util/List;" .null := (F0_indexes_q_7.other W8 (Or.inr (slot_ne (Or.inr (hw _ (List.mem_of_getElem? (i := 83) rfl))) (Or.inr (hw _ (List.mem_of_getElem? (i := 79) rfl))) (by decide) (t := (.object "java/util/List")) (t' := (.object "com/example/item_type_store/itemtypestore/TypeSystemDraft$DeploymentDraft")) (by decide) (by decide))))
  have F0_customProperties_q_8 : Fld Z h8 a "com/example/item_type_store/itemtypestore/TypeSystemDraft$TypeDraft" "customProperties" "Ljava/util/Map;" .null := (F0_customProperties_q_7.other W8 (Or.inr (slot_ne (Or.inr (hw _ (List.mem_of_getElem? (i := 85) rfl))) (Or.inr (hw _ (List.mem_of_getElem? (i := 79) rfl))) (by decide) (t := (.object "java/util/Map")) (t' := (.object "com/example/item_type_store/itemtypestore/TypeSystemDraft$DeploymentDraft")) (by decide) (by decide))))
  have E0_q_8 : Exa Z h8 a "com/example/item_type_store/itemtypestore/TypeSystemDraft$TypeDraft" := (E0_q_7.wr W8)
  have fK_q_8 : Keep h0 h8 [a] := (fK_q_7.wr W8 (Or.inl (List.mem_of_getElem? (i := 0) rfl)))
  have N8 := Fr.snoc X8 N7 ng
  refine Go.st (T' := T8) (g' := (mkF m 43 #[.val (.ref a), .val v1, .val (.int p2), .val v3, .val v4, .val (.int p5), .val (.int p6), .val v7, .val v8, .val v9, .val v10] [])) st8 ?_
  refine Go.st (T' := T8) (g' := (mkF m 44 #[.val (.ref a), .val v1, .val (.int p2), .val v3, .val v4, .val (.int p5), .val (.int p6), .val v7, .val v8, .val v9, .val v10] [(.ref a)])) (fun _ hr => XS.aloadN X8.here hx rfl (hb hby d10_43) rfl rfl hr) ?_
  refine Go.st (T' := T8) (g' := (mkF m 46 #[.val (.ref a), .val v1, .val (.int p2), .val v3, .val v4, .val (.int p5), .val (.int p6), .val v7, .val v8, .val v9, .val v10] [v8, (.ref a)])) (fun _ hr => XS.aload X8.here hx rfl (hb hby d10_44) rfl r_v8 hr) ?_
  obtain ⟨T9, h9, X9, e9, W9, st9⟩ := putF X8 hx hZ hown (host := "") (Or.inl (hw _ (List.mem_of_getElem? (i := 80) rfl))) Via.refl e8 F0_attributes_q_8 E0_q_8 (Or.inr ⟨(hw _ (List.mem_of_getElem? (i := 81) rfl)), rfl, hnm⟩) (hw _ (List.mem_of_getElem? (i := 31) rfl)) (ty := (.object "java/util/List")) (by decide) (own_narrow_ref r_v8) (own_fits_obj r_v8) (g := (mkF m 46 #[.val (.ref a), .val v1, .val (.int p2), .val v3, .val v4, .val (.int p5), .val (.int p6), .val v7, .val v8, .val v9, .val v10] [v8, (.ref a)])) rfl rfl (hb hby d10_46)
  have F0_file_q_9 : Fld Z h9 a "com/example/item_type_store/itemtypestore/TypeSystemDraft$TypeDraft" "file" "Ljava/lang/String;" v1 := (F0_file_q_8.other W9 (Or.inr (slot_ne (Or.inr (hw _ (List.mem_of_getElem? (i := 67) rfl))) (Or.inr (hw _ (List.mem_of_getElem? (i := 81) rfl))) (by decide) (t := (.object "java/lang/String")) (t' := (.object "java/util/List")) (by decide) (by decide))))
  have F0_line_q_9 : Fld Z h9 a "com/example/item_type_store/itemtypestore/TypeSystemDraft$TypeDraft" "line" "I" (.int p2) := (F0_line_q_8.other W9 (Or.inr (slot_ne (Or.inr (hw _ (List.mem_of_getElem? (i := 69) rfl))) (Or.inr (hw _ (List.mem_of_getElem? (i := 81) rfl))) (by decide) (t := .int) (t' := (.object "java/util/List")) (by decide) (by decide))))
  have F0_code_q_9 : Fld Z h9 a "com/example/item_type_store/itemtypestore/TypeSystemDraft$TypeDraft" "code" "Ljava/lang/String;" v3 := (F0_code_q_8.other W9 (Or.inr (slot_ne (Or.inr (hw _ (List.mem_of_getElem? (i := 71) rfl))) (Or.inr (hw _ (List.mem_of_getElem? (i := 81) rfl))) (by decide) (t := (.object "java/lang/String")) (t' := (.object "java/util/List")) (by decide) (by decide))))
  have F0_supertype_q_9 : Fld Z h9 a "com/example/item_type_store/itemtypestore/TypeSystemDraft$TypeDraft" "supertype" "Ljava/lang/String;" v4 := (F0_supertype_q_8.other W9 (Or.inr (slot_ne (Or.inr (hw _ (List.mem_of_getElem? (i := 73) rfl))) (Or.inr (hw _ (List.mem_of_getElem? (i := 81) rfl))) (by decide) (t := (.object "java/lang/String")) (t' := (.object "java/util/List")) (by decide) (by decide))))
  have F0_direct_q_9 : Fld Z h9 a "com/example/item_type_store/itemtypestore/TypeSystemDraft$TypeDraft" "direct" "Z" (.int (nar .boolean p5)) := (F0_direct_q_8.other W9 (Or.inr (slot_ne (Or.inr (hw _ (List.mem_of_getElem? (i := 75) rfl))) (Or.inr (hw _ (List.mem_of_getElem? (i := 81) rfl))) (by decide) (t := .boolean) (t' := (.object "java/util/List")) (by decide) (by decide))))
  have F0_isAbstract_q_9 : Fld Z h9 a "com/example/item_type_store/itemtypestore/TypeSystemDraft$TypeDraft" "isAbstract" "Z" (.int (nar .boolean p6)) := (F0_isAbstract_q_8.other W9 (Or.inr (slot_ne (Or.inr (hw _ (List.mem_of_getElem? (i := 77) rfl))) (Or.inr (hw _ (List.mem_of_getElem? (i := 81) rfl))) (by decide) (t := .boolean) (t' := (.object "java/util/List")) (by decide) (by decide))))
  have F0_deployment_q_9 : Fld Z h9 a "com/example/item_type_store/itemtypestore/TypeSystemDraft$TypeDraft" "deployment" "Lcom/example/item_type_store/itemtypestore/TypeSystemDraft$DeploymentDraft;" v7 := (F0_deployment_q_8.other W9 (Or.inr (slot_ne (Or.inr (hw _ (List.mem_of_getElem? (i := 79) rfl))) (Or.inr (hw _ (List.mem_of_getElem? (i := 81) rfl))) (by decide) (t := (.object "com/example/item_type_store/itemtypestore/TypeSystemDraft$DeploymentDraft")) (t' := (.object "java/util/List")) (by decide) (by decide))))
  have F0_attributes_q_9 : Fld Z h9 a "com/example/item_type_store/itemtypestore/TypeSystemDraft$TypeDraft" "attributes" "Ljava/util/List;" v8 := (F0_attributes_q_8.same W9)
  have F0_indexes_q_9 : Fld Z h9 a "com/example/item_type_store/itemtypestore/TypeSystemDraft$TypeDraft" "indexes" "Ljava/util/List;" .null := (F0_indexes_q_8.other W9 (Or.inr (slot_ne (Or.inr (hw _ (List.mem_of_getElem? (i := 83) rfl))) (Or.inr (hw _ (List.mem_of_getElem? (i := 81) rfl))) (by decide) (t := (.object "java/util/List")) (t' := (.object "java/util/List")) (by decide) (by decide))))
  have F0_customProperties_q_9 : Fld Z h9 a "com/example/item_type_store/itemtypestore/TypeSystemDraft$TypeDraft" "customProperties" "Ljava/util/Map;" .null := (F0_customProperties_q_8.other W9 (Or.inr (slot_ne (Or.inr (hw _ (List.mem_of_getElem? (i := 85) rfl))) (Or.inr (hw _ (List.mem_of_getElem? (i := 81) rfl))) (by decide) (t := (.object "java/util/Map")) (t' := (.object "java/util/List")) (by decide) (by decide))))
  have E0_q_9 : Exa Z h9 a "com/example/item_type_store/itemtypestore/TypeSystemDraft$TypeDraft" := (E0_q_8.wr W9)
  have fK_q_9 : Keep h0 h9 [a] := (fK_q_8.wr W9 (Or.inl (List.mem_of_getElem? (i := 0) rfl)))
  have N9 := Fr.snoc X9 N8 ng
  refine Go.st (T' := T9) (g' := (mkF m 49 #[.val (.ref a), .val v1, .val (.int p2), .val v3, .val v4, .val (.int p5), .val (.int p6), .val v7, .val v8, .val v9, .val v10] [])) st9 ?_
  refine Go.st (T' := T9) (g' := (mkF m 50 #[.val (.ref a), .val v1, .val (.int p2), .val v3, .val v4, .val (.int p5), .val (.int p6), .val v7, .val v8, .val v9, .val v10] [(.ref a)])) (fun _ hr => XS.aloadN X9.here hx rfl (hb hby d10_49) rfl rfl hr) ?_
  refine Go.st (T' := T9) (g' := (mkF m 52 #[.val (.ref a), .val v1, .val (.int p2), .val v3, .val v4, .val (.int p5), .val (.int p6), .val v7, .val v8, .val v9, .val v10] [v9, (.ref a)])) (fun _ hr => XS.aload X9.here hx rfl (hb hby d10_50) rfl r_v9 hr) ?_
  obtain ⟨T10, h10, X10, e10, W10, st10⟩ := putF X9 hx hZ hown (host := "") (Or.inl (hw _ (List.mem_of_getElem? (i := 82) rfl))) Via.refl e9 F0_indexes_q_9 E0_q_9 (Or.inr ⟨(hw _ (List.mem_of_getElem? (i := 83) rfl)), rfl, hnm⟩) (hw _ (List.mem_of_getElem? (i := 31) rfl)) (ty := (.object "java/util/List")) (by decide) (own_narrow_ref r_v9) (own_fits_obj r_v9) (g := (mkF m 52 #[.val (.ref a), .val v1, .val (.int p2), .val v3, .val v4, .val (.int p5), .val (.int p6), .val v7, .val v8, .val v9, .val v10] [v9, (.ref a)])) rfl rfl (hb hby d10_52)
  have F0_file_q_10 : Fld Z h10 a "com/example/item_type_store/itemtypestore/TypeSystemDraft$TypeDraft" "file" "Ljava/lang/String;" v1 := (F0_file_q_9.other W10 (Or.inr (slot_ne (Or.inr (hw _ (List.mem_of_getElem? (i := 67) rfl))) (Or.inr (hw _ (List.mem_of_getElem? (i := 83) rfl))) (by decide) (t := (.object "java/lang/String")) (t' := (.object "java/util/List")) (by decide) (by decide))))
  have F0_line_q_10 : Fld Z h10 a "com/example/item_type_store/itemtypestore/TypeSystemDraft$TypeDraft" "line" "I" (.int p2) := (F0_line_q_9.other W10 (Or.inr (slot_ne (Or.inr (hw _ (List.mem_of_getElem? (i := 69) rfl))) (Or.inr (hw _ (List.mem_of_getElem? (i := 83) rfl))) (by decide) (t := .int) (t' := (.object "java/util/List")) (by decide) (by decide))))
  have F0_code_q_10 : Fld Z h10 a "com/example/item_type_store/itemtypestore/TypeSystemDraft$TypeDraft" "code" "Ljava/lang/String;" v3 := (F0_code_q_9.other W10 (Or.inr (slot_ne (Or.inr (hw _ (List.mem_of_getElem? (i := 71) rfl))) (Or.inr (hw _ (List.mem_of_getElem? (i := 83) rfl))) (by decide) (t := (.object "java/lang/String")) (t' := (.object "java/util/List")) (by decide) (by decide))))
  have F0_supertype_q_10 : Fld Z h10 a "com/example/item_type_store/itemtypestore/TypeSystemDraft$TypeDraft" "supertype" "Ljava/lang/String;" v4 := (F0_supertype_q_9.other W10 (Or.inr (slot_ne (Or.inr (hw _ (List.mem_of_getElem? (i := 73) rfl))) (Or.inr (hw _ (List.mem_of_getElem? (i := 83) rfl))) (by decide) (t := (.object "java/lang/String")) (t' := (.object "java/util/List")) (by decide) (by decide))))
  have F0_direct_q_10 : Fld Z h10 a "com/example/item_type_store/itemtypestore/TypeSystemDraft$TypeDraft" "direct" "Z" (.int (nar .boolean p5)) := (F0_direct_q_9.other W10 (Or.inr (slot_ne (Or.inr (hw _ (List.mem_of_getElem? (i := 75) rfl))) (Or.inr (hw _ (List.mem_of_getElem? (i := 83) rfl))) (by decide) (t := .boolean) (t' := (.object "java/util/List")) (by decide) (by decide))))
  have F0_isAbstract_q_10 : Fld Z h10 a "com/example/item_type_store/itemtypestore/TypeSystemDraft$TypeDraft" "isAbstract" "Z" (.int (nar .boolean p6)) := (F0_isAbstract_q_9.other W10 (Or.inr (slot_ne (Or.inr (hw _ (List.mem_of_getElem? (i := 77) rfl))) (Or.inr (hw _ (List.mem_of_getElem? (i := 83) rfl))) (by decide) (t := .boolean) (t' := (.object "java/util/List")) (by decide) (by decide))))
  have F0_deployment_q_10 : Fld Z h10 a "com/example/item_type_store/itemtypestore/TypeSystemDraft$TypeDraft" "deployment" "Lcom/example/item_type_store/itemtypestore/TypeSystemDraft$DeploymentDraft;" v7 := (F0_deployment_q_9.other W10 (Or.inr (slot_ne (Or.inr (hw _ (List.mem_of_getElem? (i := 79) rfl))) (Or.inr (hw _ (List.mem_of_getElem? (i := 83) rfl))) (by decide) (t := (.object "com/example/item_type_store/itemtypestore/TypeSystemDraft$DeploymentDraft")) (t' := (.object "java/util/List")) (by decide) (by decide))))
  have F0_attributes_q_10 : Fld Z h10 a "com/example/item_type_store/itemtypestore/TypeSystemDraft$TypeDraft" "attributes" "Ljava/util/List;" v8 := (F0_attributes_q_9.other W10 (Or.inr (slot_ne (Or.inr (hw _ (List.mem_of_getElem? (i := 81) rfl))) (Or.inr (hw _ (List.mem_of_getElem? (i := 83) rfl))) (by decide) (t := (.object "java/util/List")) (t' := (.object "java/util/List")) (by decide) (by decide))))
  have F0_indexes_q_10 : Fld Z h10 a "com/example/item_type_store/itemtypestore/TypeSystemDraft$TypeDraft" "indexes" "Ljava/util/List;" v9 := (F0_indexes_q_9.same W10)
  have F0_customProperties_q_10 : Fld Z h10 a "com/example/item_type_store/itemtypestore/TypeSystemDraft$TypeDraft" "customProperties" "Ljava/util/Map;" .null := (F0_customProperties_q_9.other W10 (Or.inr (slot_ne (Or.inr (hw _ (List.mem_of_getElem? (i := 85) rfl))) (Or.inr (hw _ (List.mem_of_getElem? (i := 83) rfl))) (by decide) (t := (.object "java/util/Map")) (t' := (.object "java/util/List")) (by decide) (by decide))))
  have E0_q_10 : Exa Z h10 a "com/example/item_type_store/itemtypestore/TypeSystemDraft$TypeDraft" := (E0_q_9.wr W10)
  have fK_q_10 : Keep h0 h10 [a] := (fK_q_9.wr W10 (Or.inl (List.mem_of_getElem? (i := 0) rfl)))
  have N10 := Fr.snoc X10 N9 ng
  refine Go.st (T' := T10) (g' := (mkF m 55 #[.val (.ref a), .val v1, .val (.int p2), .val v3, .val v4, .val (.int p5), .val (.int p6), .val v7, .val v8, .val v9, .val v10] [])) st10 ?_
  refine Go.st (T' := T10) (g' := (mkF m 56 #[.val (.ref a), .val v1, .val (.int p2), .val v3, .val v4, .val (.int p5), .val (.int p6), .val v7, .val v8, .val v9, .val v10] [(.ref a)])) (fun _ hr => XS.aloadN X10.here hx rfl (hb hby d10_55) rfl rfl hr) ?_
  refine Go.st (T' := T10) (g' := (mkF m 58 #[.val (.ref a), .val v1, .val (.int p2), .val v3, .val v4, .val (.int p5), .val (.int p6), .val v7, .val v8, .val v9, .val v10] [v10, (.ref a)])) (fun _ hr => XS.aload X10.here hx rfl (hb hby d10_56) rfl r_v10 hr) ?_
  obtain ⟨T11, h11, X11, e11, W11, st11⟩ := putF X10 hx hZ hown (host := "") (Or.inl (hw _ (List.mem_of_getElem? (i := 84) rfl))) Via.refl e10 F0_customProperties_q_10 E0_q_10 (Or.inr ⟨(hw _ (List.mem_of_getElem? (i := 85) rfl)), rfl, hnm⟩) (hw _ (List.mem_of_getElem? (i := 31) rfl)) (ty := (.object "java/util/Map")) (by decide) (own_narrow_ref r_v10) (own_fits_obj r_v10) (g := (mkF m 58 #[.val (.ref a), .val v1, .val (.int p2), .val v3, .val v4, .val (.int p5), .val (.int p6), .val v7, .val v8, .val v9, .val v10] [v10, (.ref a)])) rfl rfl (hb hby d10_58)
  have F0_file_q_11 : Fld Z h11 a "com/example/item_type_store/itemtypestore/TypeSystemDraft$TypeDraft" "file" "Ljava/lang/String;" v1 := (F0_file_q_10.other W11 (Or.inr (slot_ne (Or.inr (hw _ (List.mem_of_getElem? (i := 67) rfl))) (Or.inr (hw _ (List.mem_of_getElem? (i := 85) rfl))) (by decide) (t := (.object "java/lang/String")) (t' := (.object "java/util/Map")) (by decide) (by decide))))
  have F0_line_q_11 : Fld Z h11 a "com/example/item_type_store/itemtypestore/TypeSystemDraft$TypeDraft" "line" "I" (.int p2) := (F0_line_q_10.other W11 (Or.inr (slot_ne (Or.inr (hw _ (List.mem_of_getElem? (i := 69) rfl))) (Or.inr (hw _ (List.mem_of_getElem? (i := 85) rfl))) (by decide) (t := .int) (t' := (.object "java/util/Map")) (by decide) (by decide))))
  have F0_code_q_11 : Fld Z h11 a "com/example/item_type_store/itemtypestore/TypeSystemDraft$TypeDraft" "code" "Ljava/lang/String;" v3 := (F0_code_q_10.other W11 (Or.inr (slot_ne (Or.inr (hw _ (List.mem_of_getElem? (i := 71) rfl))) (Or.inr (hw _ (List.mem_of_getElem? (i := 85) rfl))) (by decide) (t := (.object "java/lang/String")) (t' := (.object "java/util/Map")) (by decide) (by decide))))
  have F0_supertype_q_11 : Fld Z h11 a "com/example/item_type_store/itemtypestore/TypeSystemDraft$TypeDraft" "supertype" "Ljava/lang/String;" v4 := (F0_supertype_q_10.other W11 (Or.inr (slot_ne (Or.inr (hw _ (List.mem_of_getElem? (i := 73) rfl))) (Or.inr (hw _ (List.mem_of_getElem? (i := 85) rfl))) (by decide) (t := (.object "java/lang/String")) (t' := (.object "java/util/Map")) (by decide) (by decide))))
  have F0_direct_q_11 : Fld Z h11 a "com/example/item_type_store/itemtypestore/TypeSystemDraft$TypeDraft" "direct" "Z" (.int (nar .boolean p5)) := (F0_direct_q_10.other W11 (Or.inr (slot_ne (Or.inr (hw _ (List.mem_of_getElem? (i := 75) rfl))) (Or.inr (hw _ (List.mem_of_getElem? (i := 85) rfl))) (by decide) (t := .boolean) (t' := (.object "java/util/Map")) (by decide) (by decide))))
  have F0_isAbstract_q_11 : Fld Z h11 a "com/example/item_type_store/itemtypestore/TypeSystemDraft$TypeDraft" "isAbstract" "Z" (.int (nar .boolean p6)) := (F0_isAbstract_q_10.other W11 (Or.inr (slot_ne (Or.inr (hw _ (List.mem_of_getElem? (i := 77) rfl))) (Or.inr (hw _ (List.mem_of_getElem? (i := 85) rfl))) (by decide) (t := .boolean) (t' := (.object "java/util/Map")) (by decide) (by decide))))
  have F0_deployment_q_11 : Fld Z h11 a "com/example/item_type_store/itemtypestore/TypeSystemDraft$TypeDraft" "deployment" "Lcom/example/item_type_store/itemtypestore/TypeSystemDraft$DeploymentDraft;" v7 := (F0_deployment_q_10.other W11 (Or.inr (slot_ne (Or.inr (hw _ (List.mem_of_getElem? (i := 79) rfl))) (Or.inr (hw _ (List.mem_of_getElem? (i := 85) rfl))) (by decide) (t := (.object "com/example/item_type_store/itemtypestore/TypeSystemDraft$DeploymentDraft")) (t' := (.object "java/util/Map")) (by decide) (by decide))))
  have F0_attributes_q_11 : Fld Z h11 a "com/example/item_type_store/itemtypestore/TypeSystemDraft$TypeDraft" "attributes" "Ljava/util/List;" v8 := (F0_attributes_q_10.other W11 (Or.inr (slot_ne (Or.inr (hw _ (List.mem_of_getElem? (i := 81) rfl))) (Or.inr (hw _ (List.mem_of_getElem? (i := 85) rfl))) (by decide) (t := (.object "java/util/List")) (t' := (.object "java/util/Map")) (by decide) (by decide))))
  have F0_indexes_q_11 : Fld Z h11 a "com/example/item_type_store/itemtypestore/TypeSystemDraft$TypeDraft" "indexes" "Ljava/util/List;" v9 := (F0_indexes_q_10.other W11 (Or.inr (slot_ne (Or.inr (hw _ (List.mem_of_getElem? (i := 83) rfl))) (Or.inr (hw _ (List.mem_of_getElem? (i := 85) rfl))) (by decide) (t := (.object "java/util/List")) (t' := (.object "java/util/Map")) (by decide) (by decide))))
  have F0_customProperties_q_11 : Fld Z h11 a "com/example/item_type_store/itemtypestore/TypeSystemDraft$TypeDraft" "customProperties" "Ljava/util/Map;" v10 := (F0_customProperties_q_10.same W11)
  have E0_q_11 : Exa Z h11 a "com/example/item_type_store/itemtypestore/TypeSystemDraft$TypeDraft" := (E0_q_10.wr W11)
  have fK_q_11 : Keep h0 h11 [a] := (fK_q_10.wr W11 (Or.inl (List.mem_of_getElem? (i := 0) rfl)))
  have N11 := Fr.snoc X11 N10 ng
  refine Go.st (T' := T11) (g' := (mkF m 61 #[.val (.ref a), .val v1, .val (.int p2), .val v3, .val v4, .val (.int p5), .val (.int p6), .val v7, .val v8, .val v9, .val v10] [])) st11 ?_
  exact Go.retV X11 hx hlk hret (hb hby d10_61) (by decide) (by decide) (by rw [e11]; exact ⟨rfl, N11, fK_q_11, F0_file_q_11, F0_line_q_11, F0_code_q_11, F0_supertype_q_11, F0_direct_q_11, F0_isAbstract_q_11, F0_deployment_q_11, F0_attributes_q_11, F0_indexes_q_11, F0_customProperties_q_11⟩)
theorem pd_11 : parseMethodDescriptor "(ILcom/example/item_type_store/itemtypestore/model/Deployment;)V" = some ⟨[.int, (.object "com/example/item_type_store/itemtypestore/model/Deployment")], none⟩ := by decide +kernel
theorem d13_0 : decode prog_85_method_1_code 0 = .ok (.aload_n 0, 1) := by decide +kernel
theorem d13_1 : decode prog_85_method_1_code 1 = .ok (.invokespecial 1, 3) := by decide +kernel
theorem d13_4 : decode prog_85_method_1_code 4 = .ok (.aload_n 0, 1) := by decide +kernel
theorem d13_5 : decode prog_85_method_1_code 5 = .ok (.iload_n 1, 1) := by decide +kernel
theorem d13_6 : decode prog_85_method_1_code 6 = .ok (.putfield 7, 3) := by decide +kernel
theorem d13_9 : decode prog_85_method_1_code 9 = .ok (.aload_n 0, 1) := by decide +kernel
theorem d13_10 : decode prog_85_method_1_code 10 = .ok (.aload_n 2, 1) := by decide +kernel
theorem d13_11 : decode prog_85_method_1_code 11 = .ok (.putfield 13, 3) := by decide +kernel
theorem d13_14 : decode prog_85_method_1_code 14 = .ok (.return_, 1) := by decide +kernel
theorem pn_8 : plainName "com/example/item_type_store/itemtypestore/TypeSystemDraft$DeploymentDraft" = true := by first | (simp [plainName, overriddenIn]; done) | decide +kernel
theorem ef_rm13 (m : MethodId) (a : Addr) (p1 : Int32) (v2 : Value) (r_v2 : v2.isRef = true) : entryFrame m #[(.ref a), (.int p1), v2] 3 = mkF m 0 #[.val (.ref a), .val (.int p1), .val v2] [] := by rcases XT.refc r_v2 with rfl | ⟨_, rfl⟩ <;> first | (simp [entryFrame, mkF, argsToLocals, Value.category]; done) | rfl
set_option maxRecDepth 65536 in
set_option maxHeartbeats 40000000 in
theorem rm13 (l : Launch) (Z : State) (a0 : Array Value) (hw : ∀ d ∈ tables_1, d.before a0 Z = true) (a : Addr) (p1 : Int32) (v2 : Value) (r_v2 : v2.isRef = true) (h0 : Heap) (n0 : Nat) (ng : n0 ≤ a) (E0 : Exa Z h0 a "com/example/item_type_store/itemtypestore/TypeSystemDraft$DeploymentDraft") (F0_line : Fld Z h0 a "com/example/item_type_store/itemtypestore/TypeSystemDraft$DeploymentDraft" "line" "I" (.int (0 : Int32))) (F0_deployment : Fld Z h0 a "com/example/item_type_store/itemtypestore/TypeSystemDraft$DeploymentDraft" "deployment" "Lcom/example/item_type_store/itemtypestore/model/Deployment;" .null) :
    MetQ l Z (⟨"com/example/item_type_store/itemtypestore/TypeSystemDraft$DeploymentDraft", "<init>", "(ILcom/example/item_type_store/itemtypestore/model/Deployment;)V"⟩ : MethodName) prog_85_method_1_code 3 none [] ({ frames := 2, cells := 0, slots := 0, locals := 24 } : Room) #[(.ref a), (.int p1), v2] h0 (fun v h L => v = none ∧ Fr n0 L ∧ Keep h0 h [a] ∧ Fld Z h a "com/example/item_type_store/itemtypestore/TypeSystemDraft$DeploymentDraft" "line" "I" (.int p1) ∧ Fld Z h a "com/example/item_type_store/itemtypestore/TypeSystemDraft$DeploymentDraft" "deployment" "Lcom/example/item_type_store/itemtypestore/model/Deployment;" v2) := by
  refine MetQ.body (plainFor_of_name pn_8) fun p e s m below meth c s₁ hx hby hml hown hnm hret hlk hZ e0 X0 => Go.cast (ef_rm13 m a p1 v2 r_v2) ?_
  refine Go.st (T' := s₁) (g' := (mkF m 1 #[.val (.ref a), .val (.int p1), .val v2] [(.ref a)])) (fun _ hr => XS.aloadN X0.here hx rfl (hb hby d13_0) rfl rfl hr) ?_
  refine Go.callC X0 hx hZ hown (W := 0) (y := (⟨"java/lang/Record", "<init>", "()V"⟩ : MethodName)) rfl (hw _ (List.mem_of_getElem? (i := 97) rfl)) (hw _ (List.mem_of_getElem? (i := 61) rfl)) (hw _ (List.mem_of_getElem? (i := 63) rfl)) (hw _ (List.mem_of_getElem? (i := 64) rfl)) (by decide) e0 (rm11 l Z a0 hw a h0) (by decide) (by decide) (by decide) (by decide) (g := (mkF m 1 #[.val (.ref a), .val (.int p1), .val v2] [(.ref a)])) rfl (by rw [hml]; rfl) (argsL := []) (rest := []) (lenOf pd_3 rfl) rfl (by show 2 * 0 + _ ≤ _; exact Nat.le_of_eq rfl) (hb hby d13_1) (fun v1 T1 L1 X1 q1 => ?_)
  obtain ⟨rfl, rfl, e1⟩ := q1
  rw [List.append_nil] at X1
  show Go p.tables e below (Fin s (fun v h L => v = none ∧ Fr n0 L ∧ Keep h0 h [a] ∧ Fld Z h a "com/example/item_type_store/itemtypestore/TypeSystemDraft$DeploymentDraft" "line" "I" (.int p1) ∧ Fld Z h a "com/example/item_type_store/itemtypestore/TypeSystemDraft$DeploymentDraft" "deployment" "Lcom/example/item_type_store/itemtypestore/model/Deployment;" v2) ({ frames := 2, cells := 0, slots := 0, locals := 24 } : Room).cells ({ frames := 2, cells := 0, slots := 0, locals := 24 } : Room).slots) T1 (mkF m 4 #[.val (.ref a), .val (.int p1), .val v2] [])
  refine Go.st (T' := T1) (g' := (mkF m 5 #[.val (.ref a), .val (.int p1), .val v2] [(.ref a)])) (fun _ hr => XS.aloadN X1.here hx rfl (hb hby d13_4) rfl rfl hr) ?_
  refine Go.st (T' := T1) (g' := (mkF m 6 #[.val (.ref a), .val (.int p1), .val v2] [(.int p1), (.ref a)])) (fun _ hr => XS.iloadN X1.here hx rfl (hb hby d13_5) rfl hr) ?_
  obtain ⟨T2, h2, X2, e2, W2, st2⟩ := putF X1 hx hZ hown (host := "") (Or.inl (hw _ (List.mem_of_getElem? (i := 98) rfl))) Via.refl e1 F0_line E0 (Or.inr ⟨(hw _ (List.mem_of_getElem? (i := 99) rfl)), rfl, hnm⟩) (hw _ (List.mem_of_getElem? (i := 92) rfl)) (ty := .int) (by decide) rfl rfl (g := (mkF m 6 #[.val (.ref a), .val (.int p1), .val v2] [(.int p1), (.ref a)])) rfl rfl (hb hby d13_6)
  have F0_line_q_2 : Fld Z h2 a "com/example/item_type_store/itemtypestore/TypeSystemDraft$DeploymentDraft" "line" "I" (.int p1) := (F0_line.same W2)
  have F0_deployment_q_2 : Fld Z h2 a "com/example/item_type_store/itemtypestore/TypeSystemDraft$DeploymentDraft" "deployment" "Lcom/example/item_type_store/itemtypestore/model/Deployment;" .null := (F0_deployment.other W2 (Or.inr (slot_ne (Or.inr (hw _ (List.mem_of_getElem? (i := 101) rfl))) (Or.inr (hw _ (List.mem_of_getElem? (i := 99) rfl))) (by decide) (t := (.object "com/example/item_type_store/itemtypestore/model/Deployment")) (t' := .int) (by decide) (by decide))))
  have E0_q_2 : Exa Z h2 a "com/example/item_type_store/itemtypestore/TypeSystemDraft$DeploymentDraft" := (E0.wr W2)
  have fK_q_2 : Keep h0 h2 [a] := ((Keep.refl h0 [a]).wr W2 (Or.inl (List.mem_of_getElem? (i := 0) rfl)))
  have N2 := Fr.snoc X2 (Fr.nil n0) ng
  refine Go.st (T' := T2) (g' := (mkF m 9 #[.val (.ref a), .val (.int p1), .val v2] [])) st2 ?_
  refine Go.st (T' := T2) (g' := (mkF m 10 #[.val (.ref a), .val (.int p1), .val v2] [(.ref a)])) (fun _ hr => XS.aloadN X2.here hx rfl (hb hby d13_9) rfl rfl hr) ?_
  refine Go.st (T' := T2) (g' := (mkF m 11 #[.val (.ref a), .val (.int p1), .val v2] [v2, (.ref a)])) (fun _ hr => XS.aloadN X2.here hx rfl (hb hby d13_10) rfl r_v2 hr) ?_
  obtain ⟨T3, h3, X3, e3, W3, st3⟩ := putF X2 hx hZ hown (host := "") (Or.inl (hw _ (List.mem_of_getElem? (i := 100) rfl))) Via.refl e2 F0_deployment_q_2 E0_q_2 (Or.inr ⟨(hw _ (List.mem_of_getElem? (i := 101) rfl)), rfl, hnm⟩) (hw _ (List.mem_of_getElem? (i := 92) rfl)) (ty := (.object "com/example/item_type_store/itemtypestore/model/Deployment")) (by decide) (own_narrow_ref r_v2) (own_fits_obj r_v2) (g := (mkF m 11 #[.val (.ref a), .val (.int p1), .val v2] [v2, (.ref a)])) rfl rfl (hb hby d13_11)
  have F0_line_q_3 : Fld Z h3 a "com/example/item_type_store/itemtypestore/TypeSystemDraft$DeploymentDraft" "line" "I" (.int p1) := (F0_line_q_2.other W3 (Or.inr (slot_ne (Or.inr (hw _ (List.mem_of_getElem? (i := 99) rfl))) (Or.inr (hw _ (List.mem_of_getElem? (i := 101) rfl))) (by decide) (t := .int) (t' := (.object "com/example/item_type_store/itemtypestore/model/Deployment")) (by decide) (by decide))))
  have F0_deployment_q_3 : Fld Z h3 a "com/example/item_type_store/itemtypestore/TypeSystemDraft$DeploymentDraft" "deployment" "Lcom/example/item_type_store/itemtypestore/model/Deployment;" v2 := (F0_deployment_q_2.same W3)
  have E0_q_3 : Exa Z h3 a "com/example/item_type_store/itemtypestore/TypeSystemDraft$DeploymentDraft" := (E0_q_2.wr W3)
  have fK_q_3 : Keep h0 h3 [a] := (fK_q_2.wr W3 (Or.inl (List.mem_of_getElem? (i := 0) rfl)))
  have N3 := Fr.snoc X3 N2 ng
  refine Go.st (T' := T3) (g' := (mkF m 14 #[.val (.ref a), .val (.int p1), .val v2] [])) st3 ?_
  exact Go.retV X3 hx hlk hret (hb hby d13_14) (by decide) (by decide) (by rw [e3]; exact ⟨rfl, N3, fK_q_3, F0_line_q_3, F0_deployment_q_3⟩)
theorem pd_12 : parseMethodDescriptor "(Ljava/lang/String;I)V" = some ⟨[(.object "java/lang/String"), .int], none⟩ := by decide +kernel
theorem d18_0 : decode prog_102_method_1_code 0 = .ok (.aload_n 0, 1) := by decide +kernel
theorem d18_1 : decode prog_102_method_1_code 1 = .ok (.invokespecial 1, 3) := by decide +kernel
theorem d18_4 : decode prog_102_method_1_code 4 = .ok (.aload_n 0, 1) := by decide +kernel
theorem d18_5 : decode prog_102_method_1_code 5 = .ok (.aload_n 1, 1) := by decide +kernel
theorem d18_6 : decode prog_102_method_1_code 6 = .ok (.putfield 7, 3) := by decide +kernel
theorem d18_9 : decode prog_102_method_1_code 9 = .ok (.aload_n 0, 1) := by decide +kernel
theorem d18_10 : decode prog_102_method_1_code 10 = .ok (.iload_n 2, 1) := by decide +kernel
theorem d18_11 : decode prog_102_method_1_code 11 = .ok (.putfield 13, 3) := by decide +kernel
theorem d18_14 : decode prog_102_method_1_code 14 = .ok (.return_, 1) := by decide +kernel
theorem pn_9 : plainName "com/example/item_type_store/itemtypestore/model/Deployment" = true := by first | (simp [plainName, overriddenIn]; done) | decide +kernel
theorem ef_rm18 (m : MethodId) (a : Addr) (v1 : Value) (p2 : Int32) (r_v1 : v1.isRef = true) : entryFrame m #[(.ref a), v1, (.int p2)] 3 = mkF m 0 #[.val (.ref a), .val v1, .val (.int p2)] [] := by rcases XT.refc r_v1 with rfl | ⟨_, rfl⟩ <;> first | (simp [entryFrame, mkF, argsToLocals, Value.category]; done) | rfl
set_option maxRecDepth 65536 in
set_option maxHeartbeats 40000000 in
theorem rm18 (l : Launch) (Z : State) (a0 : Array Value) (hw : ∀ d ∈ tables_1, d.before a0 Z = true) (a : Addr) (v1 : Value) (p2 : Int32) (r_v1 : v1.isRef = true) (h0 : Heap) (n0 : Nat) (ng : n0 ≤ a) (E0 : Exa Z h0 a "com/example/item_type_store/itemtypestore/model/Deployment") (F0_table : Fld Z h0 a "com/example/item_type_store/itemtypestore/model/Deployment" "table" "Ljava/lang/String;" .null) (F0_typecode : Fld Z h0 a "com/example/item_type_store/itemtypestore/model/Deployment" "typecode" "I" (.int (0 : Int32))) :
    MetQ l Z (⟨"com/example/item_type_store/itemtypestore/model/Deployment", "<init>", "(Ljava/lang/String;I)V"⟩ : MethodName) prog_102_method_1_code 3 none [] ({ frames := 2, cells := 0, slots := 0, locals := 24 } : Room) #[(.ref a), v1, (.int p2)] h0 (fun v h L => v = none ∧ Fr n0 L ∧ Keep h0 h [a] ∧ Fld Z h a "com/example/item_type_store/itemtypestore/model/Deployment" "table" "Ljava/lang/String;" v1 ∧ Fld Z h a "com/example/item_type_store/itemtypestore/model/Deployment" "typecode" "I" (.int p2)) := by
  refine MetQ.body (plainFor_of_name pn_9) fun p e s m below meth c s₁ hx hby hml hown hnm hret hlk hZ e0 X0 => Go.cast (ef_rm18 m a v1 p2 r_v1) ?_
  refine Go.st (T' := s₁) (g' := (mkF m 1 #[.val (.ref a), .val v1, .val (.int p2)] [(.ref a)])) (fun _ hr => XS.aloadN X0.here hx rfl (hb hby d18_0) rfl rfl hr) ?_
  refine Go.callC X0 hx hZ hown (W := 0) (y := (⟨"java/lang/Record", "<init>", "()V"⟩ : MethodName)) rfl (hw _ (List.mem_of_getElem? (i := 122) rfl)) (hw _ (List.mem_of_getElem? (i := 61) rfl)) (hw _ (List.mem_of_getElem? (i := 63) rfl)) (hw _ (List.mem_of_getElem? (i := 64) rfl)) (by decide) e0 (rm11 l Z a0 hw a h0) (by decide) (by decide) (by decide) (by decide) (g := (mkF m 1 #[.val (.ref a), .val v1, .val (.int p2)] [(.ref a)])) rfl (by rw [hml]; rfl) (argsL := []) (rest := []) (lenOf pd_3 rfl) rfl (by show 2 * 0 + _ ≤ _; exact Nat.le_of_eq rfl) (hb hby d18_1) (fun v1 T1 L1 X1 q1 => ?_)
  obtain ⟨rfl, rfl, e1⟩ := q1
  rw [List.append_nil] at X1
  show Go p.tables e below (Fin s (fun v h L => v = none ∧ Fr n0 L ∧ Keep h0 h [a] ∧ Fld Z h a "com/example/item_type_store/itemtypestore/model/Deployment" "table" "Ljava/lang/String;" v1 ∧ Fld Z h a "com/example/item_type_store/itemtypestore/model/Deployment" "typecode" "I" (.int p2)) ({ frames := 2, cells := 0, slots := 0, locals := 24 } : Room).cells ({ frames := 2, cells := 0, slots := 0, locals := 24 } : Room).slots) T1 (mkF m 4 #[.val (.ref a), .val v1, .val (.int p2)] [])
  refine Go.st (T' := T1) (g' := (mkF m 5 #[.val (.ref a), .val v1, .val (.int p2)] [(.ref a)])) (fun _ hr => XS.aloadN X1.here hx rfl (hb hby d18_4) rfl rfl hr) ?_
  refine Go.st (T' := T1) (g' := (mkF m 6 #[.val (.ref a), .val v1, .val (.int p2)] [v1, (.ref a)])) (fun _ hr => XS.aloadN X1.here hx rfl (hb hby d18_5) rfl r_v1 hr) ?_
  obtain ⟨T2, h2, X2, e2, W2, st2⟩ := putF X1 hx hZ hown (host := "") (Or.inl (hw _ (List.mem_of_getElem? (i := 123) rfl))) Via.refl e1 F0_table E0 (Or.inr ⟨(hw _ (List.mem_of_getElem? (i := 124) rfl)), rfl, hnm⟩) (hw _ (List.mem_of_getElem? (i := 117) rfl)) (ty := (.object "java/lang/String")) (by decide) (own_narrow_ref r_v1) (own_fits_obj r_v1) (g := (mkF m 6 #[.val (.ref a), .val v1, .val (.int p2)] [v1, (.ref a)])) rfl rfl (hb hby d18_6)
  have F0_table_q_2 : Fld Z h2 a "com/example/item_type_store/itemtypestore/model/Deployment" "table" "Ljava/lang/String;" v1 := (F0_table.same W2)
  have F0_typecode_q_2 : Fld Z h2 a "com/example/item_type_store/itemtypestore/model/Deployment" "typecode" "I" (.int (0 : Int32)) := (F0_typecode.other W2 (Or.inr (slot_ne (Or.inr (hw _ (List.mem_of_getElem? (i := 126) rfl))) (Or.inr (hw _ (List.mem_of_getElem? (i := 124) rfl))) (by decide) (t := .int) (t' := (.object "java/lang/String")) (by decide) (by decide))))
  have E0_q_2 : Exa Z h2 a "com/example/item_type_store/itemtypestore/model/Deployment" := (E0.wr W2)
  have fK_q_2 : Keep h0 h2 [a] := ((Keep.refl h0 [a]).wr W2 (Or.inl (List.mem_of_getElem? (i := 0) rfl)))
  have N2 := Fr.snoc X2 (Fr.nil n0) ng
  refine Go.st (T' := T2) (g' := (mkF m 9 #[.val (.ref a), .val v1, .val (.int p2)] [])) st2 ?_
  refine Go.st (T' := T2) (g' := (mkF m 10 #[.val (.ref a), .val v1, .val (.int p2)] [(.ref a)])) (fun _ hr => XS.aloadN X2.here hx rfl (hb hby d18_9) rfl rfl hr) ?_
  refine Go.st (T' := T2) (g' := (mkF m 11 #[.val (.ref a), .val v1, .val (.int p2)] [(.int p2), (.ref a)])) (fun _ hr => XS.iloadN X2.here hx rfl (hb hby d18_10) rfl hr) ?_
  obtain ⟨T3, h3, X3, e3, W3, st3⟩ := putF X2 hx hZ hown (host := "") (Or.inl (hw _ (List.mem_of_getElem? (i := 125) rfl))) Via.refl e2 F0_typecode_q_2 E0_q_2 (Or.inr ⟨(hw _ (List.mem_of_getElem? (i := 126) rfl)), rfl, hnm⟩) (hw _ (List.mem_of_getElem? (i := 117) rfl)) (ty := .int) (by decide) rfl rfl (g := (mkF m 11 #[.val (.ref a), .val v1, .val (.int p2)] [(.int p2), (.ref a)])) rfl rfl (hb hby d18_11)
  have F0_table_q_3 : Fld Z h3 a "com/example/item_type_store/itemtypestore/model/Deployment" "table" "Ljava/lang/String;" v1 := (F0_table_q_2.other W3 (Or.inr (slot_ne (Or.inr (hw _ (List.mem_of_getElem? (i := 124) rfl))) (Or.inr (hw _ (List.mem_of_getElem? (i := 126) rfl))) (by decide) (t := (.object "java/lang/String")) (t' := .int) (by decide) (by decide))))
  have F0_typecode_q_3 : Fld Z h3 a "com/example/item_type_store/itemtypestore/model/Deployment" "typecode" "I" (.int p2) := (F0_typecode_q_2.same W3)
  have E0_q_3 : Exa Z h3 a "com/example/item_type_store/itemtypestore/model/Deployment" := (E0_q_2.wr W3)
  have fK_q_3 : Keep h0 h3 [a] := (fK_q_2.wr W3 (Or.inl (List.mem_of_getElem? (i := 0) rfl)))
  have N3 := Fr.snoc X3 N2 ng
  refine Go.st (T' := T3) (g' := (mkF m 14 #[.val (.ref a), .val v1, .val (.int p2)] [])) st3 ?_
  exact Go.retV X3 hx hlk hret (hb hby d18_14) (by decide) (by decide) (by rw [e3]; exact ⟨rfl, N3, fK_q_3, F0_table_q_3, F0_typecode_q_3⟩)
theorem pd_13 : parseMethodDescriptor "()Z" = some ⟨[], some .boolean⟩ := by decide +kernel
theorem d12_0 : decode prog_95_method_2_code 0 = .ok (.aload_n 0, 1) := by decide +kernel
theorem d12_1 : decode prog_95_method_2_code 1 = .ok (.getfield 23, 3) := by decide +kernel
theorem d12_4 : decode prog_95_method_2_code 4 = .ok (.ifCond .eq 14, 3) := by decide +kernel
theorem d12_7 : decode prog_95_method_2_code 7 = .ok (.aload_n 0, 1) := by decide +kernel
theorem d12_8 : decode prog_95_method_2_code 8 = .ok (.getfield 30, 3) := by decide +kernel
theorem d12_11 : decode prog_95_method_2_code 11 = .ok (.ifnonnull 7, 3) := by decide +kernel
theorem d12_14 : decode prog_95_method_2_code 14 = .ok (.iconst 1, 1) := by decide +kernel
theorem d12_15 : decode prog_95_method_2_code 15 = .ok (.goto 4, 3) := by decide +kernel
theorem d12_18 : decode prog_95_method_2_code 18 = .ok (.iconst 0, 1) := by decide +kernel
theorem d12_19 : decode prog_95_method_2_code 19 = .ok (.ireturn, 1) := by decide +kernel
def f12n (d : Int32) : Int32 := (if d = (0 : Int32) then (0 : Int32) else (1 : Int32))
theorem ef_rm12n (m : MethodId) (a : Addr)  : entryFrame m #[(.ref a)] 1 = mkF m 0 #[.val (.ref a)] [] := by first | (simp [entryFrame, mkF, argsToLocals, Value.category]; done) | rfl
set_option maxRecDepth 65536 in
set_option maxHeartbeats 40000000 in
theorem rm12n (l : Launch) (Z : State) (a0 : Array Value) (hw : ∀ d ∈ tables_1, d.before a0 Z = true) (a : Addr) (d : Int32)  (h0 : Heap) (G1 : Fld Z h0 a "com/example/item_type_store/itemtypestore/TypeSystemDraft$TypeDraft" "direct" "Z" (.int d)) (G2 : Fld Z h0 a "com/example/item_type_store/itemtypestore/TypeSystemDraft$TypeDraft" "deployment" "Lcom/example/item_type_store/itemtypestore/TypeSystemDraft$DeploymentDraft;" .null) :
    MetQ l Z (⟨"com/example/item_type_store/itemtypestore/TypeSystemDraft$TypeDraft", "lacksDeployment", "()Z"⟩ : MethodName) prog_95_method_2_code 1 (some .boolean) [] ({ frames := 0, cells := 0, slots := 0, locals := 0 } : Room) #[(.ref a)] h0 (PQ (.int (f12n d)) h0) := by
  refine MetQ.body (plainFor_of_name pn_7) fun p e s m below meth c s₁ hx hby hml hown hnm hret hlk hZ e0 X0 => Go.cast (ef_rm12n m a) ?_
  refine Go.st (T' := s₁) (g' := (mkF m 1 #[.val (.ref a)] [(.ref a)])) (fun _ hr => XS.aloadN X0.here hx rfl (hb hby d12_0) rfl rfl hr) ?_
  obtain ⟨T1, X1, e1, st1⟩ := getF X0 hx hZ hown (host := "") (Or.inl (hw _ (List.mem_of_getElem? (i := 74) rfl))) Via.refl e0 G1 (g := (mkF m 1 #[.val (.ref a)] [(.ref a)])) rfl rfl (hb hby d12_1)
  refine Go.st (T' := T1) (g' := (mkF m 4 #[.val (.ref a)] [(.int d)])) st1 ?_
  by_cases c4_2 : d = (0 : Int32)
  · refine Go.st (T' := T1) (g' := (mkF m 18 #[.val (.ref a)] [])) (fun _ hr => XS.ifYes X1.here hx rfl (pc0 := 4) (pc' := 18) rfl (hb hby d12_4) rfl (XT.i0_eq_t c4_2) (by decide) (by decide) hr) ?_
    refine Go.st (T' := T1) (g' := (mkF m 19 #[.val (.ref a)] [(.int (0 : Int32))])) (fun _ hr => XT.iconstV X1.here hx rfl (0 : Int32) (hb hby d12_18) (by decide) hr) ?_
    exact Go.retN X1 hx hlk hret (by simp) (hb hby d12_19) (by decide) (by decide) ⟨congrArg (fun z => some (Value.int z)) ((by decide : nar .boolean (0 : Int32) = (0 : Int32)).trans (by simp only [f12n, if_pos c4_2])), rfl, e1⟩
  · refine Go.st (T' := T1) (g' := (mkF m 7 #[.val (.ref a)] [])) (fun _ hr => XS.ifNo X1.here hx rfl (hb hby d12_4) rfl (XT.i0_eq_f c4_2) hr) ?_
    refine Go.st (T' := T1) (g' := (mkF m 8 #[.val (.ref a)] [(.ref a)])) (fun _ hr => XS.aloadN X1.here hx rfl (hb hby d12_7) rfl rfl hr) ?_
    obtain ⟨T3, X3, e3, st3⟩ := getF X1 hx hZ hown (host := "") (Or.inl (hw _ (List.mem_of_getElem? (i := 78) rfl))) Via.refl e1 G2 (g := (mkF m 8 #[.val (.ref a)] [(.ref a)])) rfl rfl (hb hby d12_8)
    refine Go.st (T' := T3) (g' := (mkF m 11 #[.val (.ref a)] [.null])) st3 ?_
    refine Go.st (T' := T3) (g' := (mkF m 14 #[.val (.ref a)] [])) (fun _ hr => XS.ifnonnullNo X3.here hx rfl (hb hby d12_11) rfl hr) ?_
    refine Go.st (T' := T3) (g' := (mkF m 15 #[.val (.ref a)] [(.int (1 : Int32))])) (fun _ hr => XT.iconstV X3.here hx rfl (1 : Int32) (hb hby d12_14) (by decide) hr) ?_
    refine Go.st (T' := T3) (g' := (mkF m 19 #[.val (.ref a)] [(.int (1 : Int32))])) (fun _ hr => XS.goto X3.here hx rfl (pc0 := 15) (pc' := 19) rfl (hb hby d12_15) (by decide) (by decide) hr) ?_
    exact Go.retN X3 hx hlk hret (by simp) (hb hby d12_19) (by decide) (by decide) ⟨congrArg (fun z => some (Value.int z)) ((by decide : nar .boolean (1 : Int32) = (1 : Int32)).trans (by simp only [f12n, if_neg c4_2])), rfl, e3⟩
def f12r (d : Int32) : Int32 := (0 : Int32)
theorem ef_rm12r (m : MethodId) (a : Addr)  : entryFrame m #[(.ref a)] 1 = mkF m 0 #[.val (.ref a)] [] := by first | (simp [entryFrame, mkF, argsToLocals, Value.category]; done) | rfl
set_option maxRecDepth 65536 in
set_option maxHeartbeats 40000000 in
theorem rm12r (l : Launch) (Z : State) (a0 : Array Value) (hw : ∀ d ∈ tables_1, d.before a0 Z = true) (a : Addr) (b : Addr) (d : Int32)  (h0 : Heap) (G1 : Fld Z h0 a "com/example/item_type_store/itemtypestore/TypeSystemDraft$TypeDraft" "direct" "Z" (.int d)) (G2 : Fld Z h0 a "com/example/item_type_store/itemtypestore/TypeSystemDraft$TypeDraft" "deployment" "Lcom/example/item_type_store/itemtypestore/TypeSystemDraft$DeploymentDraft;" (.ref b)) :
    MetQ l Z (⟨"com/example/item_type_store/itemtypestore/TypeSystemDraft$TypeDraft", "lacksDeployment", "()Z"⟩ : MethodName) prog_95_method_2_code 1 (some .boolean) [] ({ frames := 0, cells := 0, slots := 0, locals := 0 } : Room) #[(.ref a)] h0 (PQ (.int (f12r d)) h0) := by
  refine MetQ.body (plainFor_of_name pn_7) fun p e s m below meth c s₁ hx hby hml hown hnm hret hlk hZ e0 X0 => Go.cast (ef_rm12r m a) ?_
  refine Go.st (T' := s₁) (g' := (mkF m 1 #[.val (.ref a)] [(.ref a)])) (fun _ hr => XS.aloadN X0.here hx rfl (hb hby d12_0) rfl rfl hr) ?_
  obtain ⟨T1, X1, e1, st1⟩ := getF X0 hx hZ hown (host := "") (Or.inl (hw _ (List.mem_of_getElem? (i := 74) rfl))) Via.refl e0 G1 (g := (mkF m 1 #[.val (.ref a)] [(.ref a)])) rfl rfl (hb hby d12_1)
  refine Go.st (T' := T1) (g' := (mkF m 4 #[.val (.ref a)] [(.int d)])) st1 ?_
  by_cases c4_2 : d = (0 : Int32)
  · refine Go.st (T' := T1) (g' := (mkF m 18 #[.val (.ref a)] [])) (fun _ hr => XS.ifYes X1.here hx rfl (pc0 := 4) (pc' := 18) rfl (hb hby d12_4) rfl (XT.i0_eq_t c4_2) (by decide) (by decide) hr) ?_
    refine Go.st (T' := T1) (g' := (mkF m 19 #[.val (.ref a)] [(.int (0 : Int32))])) (fun _ hr => XT.iconstV X1.here hx rfl (0 : Int32) (hb hby d12_18) (by decide) hr) ?_
    exact Go.retN X1 hx hlk hret (by simp) (hb hby d12_19) (by decide) (by decide) ⟨congrArg (fun z => some (Value.int z)) ((by decide : nar .boolean (0 : Int32) = (0 : Int32)).trans (by simp only [f12r, if_pos c4_2])), rfl, e1⟩
  · refine Go.st (T' := T1) (g' := (mkF m 7 #[.val (.ref a)] [])) (fun _ hr => XS.ifNo X1.here hx rfl (hb hby d12_4) rfl (XT.i0_eq_f c4_2) hr) ?_
    refine Go.st (T' := T1) (g' := (mkF m 8 #[.val (.ref a)] [(.ref a)])) (fun _ hr => XS.aloadN X1.here hx rfl (hb hby d12_7) rfl rfl hr) ?_
    obtain ⟨T3, X3, e3, st3⟩ := getF X1 hx hZ hown (host := "") (Or.inl (hw _ (List.mem_of_getElem? (i := 78) rfl))) Via.refl e1 G2 (g := (mkF m 8 #[.val (.ref a)] [(.ref a)])) rfl rfl (hb hby d12_8)
    refine Go.st (T' := T3) (g' := (mkF m 11 #[.val (.ref a)] [(.ref b)])) st3 ?_
    refine Go.st (T' := T3) (g' := (mkF m 18 #[.val (.ref a)] [])) (fun _ hr => XS.ifnonnullYes X3.here hx rfl (pc0 := 11) (pc' := 18) rfl (hb hby d12_11) rfl (by decide) (by decide) hr) ?_
    refine Go.st (T' := T3) (g' := (mkF m 19 #[.val (.ref a)] [(.int (0 : Int32))])) (fun _ hr => XT.iconstV X3.here hx rfl (0 : Int32) (hb hby d12_18) (by decide) hr) ?_
    exact Go.retN X3 hx hlk hret (by simp) (hb hby d12_19) (by decide) (by decide) ⟨congrArg (fun z => some (Value.int z)) ((by decide : nar .boolean (0 : Int32) = (0 : Int32)).trans (by simp only [f12r, if_neg c4_2])), rfl, e3⟩
theorem own_nar01 (c : Prop) [Decidable c] : nar .boolean (if c then (0 : Int32) else (1 : Int32)) = (if c then (0 : Int32) else (1 : Int32)) := by
  by_cases h : c
  · rw [if_pos h]; decide
  · rw [if_neg h]; decide
theorem own_null {c : Prop} [Decidable c] {x : Int32} (hx : x = (if c then (0 : Int32) else (1 : Int32))) : f12n (nar .boolean x) = x := by
  have ex : nar .boolean x = x := by rw [hx]; exact own_nar01 c
  rw [ex]; unfold f12n; rw [hx]
  by_cases h : c
  · rw [if_pos h, if_pos rfl]
  · rw [if_neg h, if_neg (by decide)]
theorem own_some (d : Int32) : f12r d = (0 : Int32) := rfl
theorem own_k0 {x : Int32} (h1 : ¬ (x &&& (3 : Int32)) = (1 : Int32)) (h2 : (x &&& (3 : Int32)) < (2 : Int32)) : (x &&& (3 : Int32)) = (0 : Int32) := by
  have m : (x &&& (3 : Int32)).toInt = x.toInt % 2 ^ 2 := Jvm.Kit.i32_mask x 3 (k := 2) (by decide) (by decide)
  rw [Int32.lt_iff_toInt_lt] at h2
  have k2 : (2 : Int32).toInt = 2 := by decide
  have k1 : (1 : Int32).toInt = 1 := by decide
  have k0 : (0 : Int32).toInt = 0 := by decide
  have n1 : (x &&& (3 : Int32)).toInt ≠ 1 := fun q => h1 (Int32.toInt_inj.mp (q.trans k1.symm))
  apply Int32.toInt_inj.mp
  rw [k0]; omega
theorem own_k1 {x : Int32} (h : x = (1 : Int32)) : ¬ x = (0 : Int32) := by rw [h]; decide
theorem own_k2 {x : Int32} (h : ¬ x < (2 : Int32)) : ¬ x = (0 : Int32) := fun q => h (by rw [q]; decide)
theorem pd_14 : parseMethodDescriptor "(IIIIII)Z" = some ⟨[.int, .int, .int, .int, .int, .int], some .boolean⟩ := by decide +kernel
theorem pn_10 : plainName "com/example/item_type_store/itemtypestore/TypeDraftLacksDeploymentPinLaw" = true := by first | (simp [plainName, overriddenIn]; done) | decide +kernel
theorem ef_rm0 (m : MethodId) (p0 : Int32) (p1 : Int32) (p2 : Int32) (p3 : Int32) (p4 : Int32) (p5 : Int32)  : entryFrame m #[(.int p0), (.int p1), (.int p2), (.int p3), (.int p4), (.int p5)] maxLocals = mkF m 0 #[.val (.int p0), .val (.int p1), .val (.int p2), .val (.int p3), .val (.int p4), .val (.int p5), .unset, .unset, .unset, .unset, .unset, .unset, .unset, .unset, .unset, .unset] [] := by first | (simp [entryFrame, mkF, argsToLocals, Value.category, maxLocals]; done) | rfl
set_option maxRecDepth 65536 in
set_option maxHeartbeats 40000000 in
theorem rm0 (l : Launch) (Z : State) (a0 : Array Value) (hw : ∀ d ∈ tables_1, d.before a0 Z = true) (ws : List Jvm.Cond) (p0 : Int32) (p1 : Int32) (p2 : Int32) (p3 : Int32) (p4 : Int32) (p5 : Int32) (w : Int32) (dc : Value)  (h0 : Heap) (hcs : ¬ w = (0 : Int32)) (O0 : Old Z h0.size h0) (S0 : Sta Z Z.heap "java/lang/String" "COMPACT_STRINGS" "Z" (.int w)) (rdc : dc.isRef = true) (D0 : Sta Z Z.heap "java/util/ArrayList" "DEFAULTCAPACITY_EMPTY_ELEMENTDATA" "[Ljava/lang/Object;" dc) :
    MetQ l Z x code maxLocals ret ws room_1 #[(.int p0), (.int p1), (.int p2), (.int p3), (.int p4), (.int p5)] h0 (fun v h L => v = some (.int 1) ∧ Fr h0.size L) := by
  refine MetQ.body (plainFor_of_name pn_10) fun p e s m below meth c s₁ hx hby hml hown hnm hret hlk hZ e0 X0 => Go.cast (ef_rm0 m p0 p1 p2 p3 p4 p5) ?_
  have hml : c.maxLocals = 16 := hml
  have hown : s.vm.findClass "com/example/item_type_store/itemtypestore/TypeDraftLacksDeploymentPinLaw" = some m.cls := hown
  have hret : meth.sig.returnType = some .boolean := hret
  refine Go.st (T' := s₁) (g' := (mkF m 1 #[.val (.int p0), .val (.int p1), .val (.int p2), .val (.int p3), .val (.int p4), .val (.int p5), .unset, .unset, .unset, .unset, .unset, .unset, .unset, .unset, .unset, .unset] [(.int p0)])) (fun _ hr => XS.iloadN X0.here hx rfl (hb hby at_0) rfl hr) ?_
  refine Go.st (T' := s₁) (g' := (mkF m 2 #[.val (.int p0), .val (.int p1), .val (.int p2), .val (.int p3), .val (.int p4), .val (.int p5), .unset, .unset, .unset, .unset, .unset, .unset, .unset, .unset, .unset, .unset] [(.int (1 : Int32)), (.int p0)])) (fun _ hr => XT.iconstV X0.here hx rfl (1 : Int32) (hb hby at_1) (by decide) hr) ?_
  refine Go.st (T' := s₁) (g' := (mkF m 3 #[.val (.int p0), .val (.int p1), .val (.int p2), .val (.int p3), .val (.int p4), .val (.int p5), .unset, .unset, .unset, .unset, .unset, .unset, .unset, .unset, .unset, .unset] [(.int (p0 &&& (1 : Int32)))])) (fun _ hr => XS.iand X0.here hx rfl (hb hby at_2) rfl hr) ?_
  have J11_1 : ∀ (T2 : State) (b11 : Int32) (hb11 : b11 = (if (p0 &&& (1 : Int32)) = (0 : Int32) then (0 : Int32) else (1 : Int32))), Stand p l e room_1 s m #[(.int p0), (.int p1), (.int p2), (.int p3), (.int p4), (.int p5)] below meth c T2 [] 0 0 → T2.heap = h0 → Go p.tables e below (Fin s (fun v h L => v = some (.int 1) ∧ Fr h0.size L) room_1.cells room_1.slots) T2 (mkF m 11 #[.val (.int p0), .val (.int p1), .val (.int p2), .val (.int p3), .val (.int p4), .val (.int p5), .unset, .unset, .unset, .unset, .unset, .unset, .unset, .unset, .unset, .unset] [(.int b11)]) := by
    intro T2 b11 hb11 X2 e2
    refine Go.st (T' := T2) (g' := (mkF m 13 #[.val (.int p0), .val (.int p1), .val (.int p2), .val (.int p3), .val (.int p4), .val (.int p5), .val (.int b11), .unset, .unset, .unset, .unset, .unset, .unset, .unset, .unset, .unset] [])) (fun _ hr => XS.istore X2.here hx rfl (hb hby at_11) rfl (l' := #[.val (.int p0), .val (.int p1), .val (.int p2), .val (.int p3), .val (.int p4), .val (.int p5), .val (.int b11), .unset, .unset, .unset, .unset, .unset, .unset, .unset, .unset, .unset]) rfl hr) ?_
    refine Go.st (T' := T2) (g' := (mkF m 14 #[.val (.int p0), .val (.int p1), .val (.int p2), .val (.int p3), .val (.int p4), .val (.int p5), .val (.int b11), .unset, .unset, .unset, .unset, .unset, .unset, .unset, .unset, .unset] [(.int p0)])) (fun _ hr => XS.iloadN X2.here hx rfl (hb hby at_13) rfl hr) ?_
    refine Go.st (T' := T2) (g' := (mkF m 15 #[.val (.int p0), .val (.int p1), .val (.int p2), .val (.int p3), .val (.int p4), .val (.int p5), .val (.int b11), .unset, .unset, .unset, .unset, .unset, .unset, .unset, .unset, .unset] [(.int (2 : Int32)), (.int p0)])) (fun _ hr => XT.iconstV X2.here hx rfl (2 : Int32) (hb hby at_14) (by decide) hr) ?_
    refine Go.st (T' := T2) (g' := (mkF m 16 #[.val (.int p0), .val (.int p1), .val (.int p2), .val (.int p3), .val (.int p4), .val (.int p5), .val (.int b11), .unset, .unset, .unset, .unset, .unset, .unset, .unset, .unset, .unset] [(.int (p0 &&& (2 : Int32)))])) (fun _ hr => XS.iand X2.here hx rfl (hb hby at_15) rfl hr) ?_
    have J24_3 : ∀ (T4 : State) (b24 : Int32) (hb24 : b24 = (if (p0 &&& (2 : Int32)) = (0 : Int32) then (0 : Int32) else (1 : Int32))), Stand p l e room_1 s m #[(.int p0), (.int p1), (.int p2), (.int p3), (.int p4), (.int p5)] below meth c T4 [] 0 0 → T4.heap = h0 → Go p.tables e below (Fin s (fun v h L => v = some (.int 1) ∧ Fr h0.size L) room_1.cells room_1.slots) T4 (mkF m 24 #[.val (.int p0), .val (.int p1), .val (.int p2), .val (.int p3), .val (.int p4), .val (.int p5), .val (.int b11), .unset, .unset, .unset, .unset, .unset, .unset, .unset, .unset, .unset] [(.int b24)]) := by
      intro T4 b24 hb24 X4 e4
      refine Go.st (T' := T4) (g' := (mkF m 26 #[.val (.int p0), .val (.int p1), .val (.int p2), .val (.int p3), .val (.int p4), .val (.int p5), .val (.int b11), .val (.int b24), .unset, .unset, .unset, .unset, .unset, .unset, .unset, .unset] [])) (fun _ hr => XS.istore X4.here hx rfl (hb hby at_24) rfl (l' := #[.val (.int p0), .val (.int p1), .val (.int p2), .val (.int p3), .val (.int p4), .val (.int p5), .val (.int b11), .val (.int b24), .unset, .unset, .unset, .unset, .unset, .unset, .unset, .unset]) rfl hr) ?_
      refine Go.st (T' := T4) (g' := (mkF m 27 #[.val (.int p0), .val (.int p1), .val (.int p2), .val (.int p3), .val (.int p4), .val (.int p5), .val (.int b11), .val (.int b24), .unset, .unset, .unset, .unset, .unset, .unset, .unset, .unset] [(.int p0)])) (fun _ hr => XS.iloadN X4.here hx rfl (hb hby at_26) rfl hr) ?_
      refine Go.st (T' := T4) (g' := (mkF m 28 #[.val (.int p0), .val (.int p1), .val (.int p2), .val (.int p3), .val (.int p4), .val (.int p5), .val (.int b11), .val (.int b24), .unset, .unset, .unset, .unset, .unset, .unset, .unset, .unset] [(.int (2 : Int32)), (.int p0)])) (fun _ hr => XT.iconstV X4.here hx rfl (2 : Int32) (hb hby at_27) (by decide) hr) ?_
      refine Go.st (T' := T4) (g' := (mkF m 29 #[.val (.int p0), .val (.int p1), .val (.int p2), .val (.int p3), .val (.int p4), .val (.int p5), .val (.int b11), .val (.int b24), .unset, .unset, .unset, .unset, .unset, .unset, .unset, .unset] [(.int (XT.ushr p0 (2 : Int32)))])) (fun _ hr => XT.iushr X4.here hx rfl (hb hby at_28) rfl hr) ?_
      refine Go.st (T' := T4) (g' := (mkF m 30 #[.val (.int p0), .val (.int p1), .val (.int p2), .val (.int p3), .val (.int p4), .val (.int p5), .val (.int b11), .val (.int b24), .unset, .unset, .unset, .unset, .unset, .unset, .unset, .unset] [(.int (3 : Int32)), (.int (XT.ushr p0 (2 : Int32)))])) (fun _ hr => XT.iconstV X4.here hx rfl (3 : Int32) (hb hby at_29) (by decide) hr) ?_
      refine Go.st (T' := T4) (g' := (mkF m 31 #[.val (.int p0), .val (.int p1), .val (.int p2), .val (.int p3), .val (.int p4), .val (.int p5), .val (.int b11), .val (.int b24), .unset, .unset, .unset, .unset, .unset, .unset, .unset, .unset] [(.int ((XT.ushr p0 (2 : Int32)) &&& (3 : Int32)))])) (fun _ hr => XS.iand X4.here hx rfl (hb hby at_30) rfl hr) ?_
      refine Go.st (T' := T4) (g' := (mkF m 33 #[.val (.int p0), .val (.int p1), .val (.int p2), .val (.int p3), .val (.int p4), .val (.int p5), .val (.int b11), .val (.int b24), .val (.int ((XT.ushr p0 (2 : Int32)) &&& (3 : Int32))), .unset, .unset, .unset, .unset, .unset, .unset, .unset] [])) (fun _ hr => XS.istore X4.here hx rfl (hb hby at_31) rfl (l' := #[.val (.int p0), .val (.int p1), .val (.int p2), .val (.int p3), .val (.int p4), .val (.int p5), .val (.int b11), .val (.int b24), .val (.int ((XT.ushr p0 (2 : Int32)) &&& (3 : Int32))), .unset, .unset, .unset, .unset, .unset, .unset, .unset]) rfl hr) ?_
      refine Go.st (T' := T4) (g' := (mkF m 34 #[.val (.int p0), .val (.int p1), .val (.int p2), .val (.int p3), .val (.int p4), .val (.int p5), .val (.int b11), .val (.int b24), .val (.int ((XT.ushr p0 (2 : Int32)) &&& (3 : Int32))), .unset, .unset, .unset, .unset, .unset, .unset, .unset] [(.int p0)])) (fun _ hr => XS.iloadN X4.here hx rfl (hb hby at_33) rfl hr) ?_
      refine Go.st (T' := T4) (g' := (mkF m 36 #[.val (.int p0), .val (.int p1), .val (.int p2), .val (.int p3), .val (.int p4), .val (.int p5), .val (.int b11), .val (.int b24), .val (.int ((XT.ushr p0 (2 : Int32)) &&& (3 : Int32))), .unset, .unset, .unset, .unset, .unset, .unset, .unset] [(.int (16 : Int32)), (.int p0)])) (fun _ hr => XT.bipushV X4.here hx rfl (16 : Int32) (hb hby at_34) (by decide) hr) ?_
      refine Go.st (T' := T4) (g' := (mkF m 37 #[.val (.int p0), .val (.int p1), .val (.int p2), .val (.int p3), .val (.int p4), .val (.int p5), .val (.int b11), .val (.int b24), .val (.int ((XT.ushr p0 (2 : Int32)) &&& (3 : Int32))), .unset, .unset, .unset, .unset, .unset, .unset, .unset] [(.int (p0 &&& (16 : Int32)))])) (fun _ hr => XS.iand X4.here hx rfl (hb hby at_36) rfl hr) ?_
      have J45_5 : ∀ (T6 : State) (b45 : Int32) (hb45 : b45 = (if (p0 &&& (16 : Int32)) = (0 : Int32) then (0 : Int32) else (1 : Int32))), Stand p l e room_1 s m #[(.int p0), (.int p1), (.int p2), (.int p3), (.int p4), (.int p5)] below meth c T6 [] 0 0 → T6.heap = h0 → Go p.tables e below (Fin s (fun v h L => v = some (.int 1) ∧ Fr h0.size L) room_1.cells room_1.slots) T6 (mkF m 45 #[.val (.int p0), .val (.int p1), .val (.int p2), .val (.int p3), .val (.int p4), .val (.int p5), .val (.int b11), .val (.int b24), .val (.int ((XT.ushr p0 (2 : Int32)) &&& (3 : Int32))), .unset, .unset, .unset, .unset, .unset, .unset, .unset] [(.int b45)]) := by
        intro T6 b45 hb45 X6 e6
        refine Go.st (T' := T6) (g' := (mkF m 47 #[.val (.int p0), .val (.int p1), .val (.int p2), .val (.int p3), .val (.int p4), .val (.int p5), .val (.int b11), .val (.int b24), .val (.int ((XT.ushr p0 (2 : Int32)) &&& (3 : Int32))), .val (.int b45), .unset, .unset, .unset, .unset, .unset, .unset] [])) (fun _ hr => XS.istore X6.here hx rfl (hb hby at_45) rfl (l' := #[.val (.int p0), .val (.int p1), .val (.int p2), .val (.int p3), .val (.int p4), .val (.int p5), .val (.int b11), .val (.int b24), .val (.int ((XT.ushr p0 (2 : Int32)) &&& (3 : Int32))), .val (.int b45), .unset, .unset, .unset, .unset, .unset, .unset]) rfl hr) ?_
        obtain ⟨T7, h7, X7, e7, E7, A7, D7, -, st7⟩ := newO X6 hx hZ hown (hw _ (List.mem_of_getElem? (i := 0) rfl)) (hw _ (List.mem_of_getElem? (i := 1) rfl)) (hw _ (List.mem_of_getElem? (i := 2) rfl)) e6 (g := (mkF m 47 #[.val (.int p0), .val (.int p1), .val (.int p2), .val (.int p3), .val (.int p4), .val (.int p5), .val (.int b11), .val (.int b24), .val (.int ((XT.ushr p0 (2 : Int32)) &&& (3 : Int32))), .val (.int b45), .unset, .unset, .unset, .unset, .unset, .unset] [])) rfl (hb hby at_47) (by decide) (by decide)
        obtain ⟨a7, g7⟩ : ∃ z, z = h0.size := ⟨_, rfl⟩
        rw [← g7] at A7 D7 st7
        have n_a7 : h0.size ≤ a7 := Nat.le_trans (Nat.le_refl h0.size) (Nat.le_of_eq g7.symm)
        have fZ_q_7 : h0.size ≤ h7.size := (Nat.le_trans (Nat.le_refl h0.size) E7.1)
        have O0_q_7 : Old Z h0.size h7 := (O0.ext E7)
        have F7_coder : Fld Z h7 a7 "java/lang/String" "coder" "B" (.int (0 : Int32)) := D7 (Or.inr (hw _ (List.mem_of_getElem? (i := 27) rfl))) (ty := .byte) (by decide)
        have F7_value : Fld Z h7 a7 "java/lang/String" "value" "[B" .null := D7 (Or.inr (hw _ (List.mem_of_getElem? (i := 29) rfl))) (ty := (.array .byte)) (by decide)
        refine Go.st (T' := T7) (g' := (mkF m 50 #[.val (.int p0), .val (.int p1), .val (.int p2), .val (.int p3), .val (.int p4), .val (.int p5), .val (.int b11), .val (.int b24), .val (.int ((XT.ushr p0 (2 : Int32)) &&& (3 : Int32))), .val (.int b45), .unset, .unset, .unset, .unset, .unset, .unset] [(.ref a7)])) st7 ?_
        refine Go.st (T' := T7) (g' := (mkF m 51 #[.val (.int p0), .val (.int p1), .val (.int p2), .val (.int p3), .val (.int p4), .val (.int p5), .val (.int b11), .val (.int b24), .val (.int ((XT.ushr p0 (2 : Int32)) &&& (3 : Int32))), .val (.int b45), .unset, .unset, .unset, .unset, .unset, .unset] [(.ref a7), (.ref a7)])) (fun _ hr => XS.dup X7.here hx rfl (hb hby at_50) rfl rfl hr) ?_
        refine Go.st (T' := T7) (g' := (mkF m 52 #[.val (.int p0), .val (.int p1), .val (.int p2), .val (.int p3), .val (.int p4), .val (.int p5), .val (.int b11), .val (.int b24), .val (.int ((XT.ushr p0 (2 : Int32)) &&& (3 : Int32))), .val (.int b45), .unset, .unset, .unset, .unset, .unset, .unset] [(.int (1 : Int32)), (.ref a7), (.ref a7)])) (fun _ hr => XT.iconstV X7.here hx rfl (1 : Int32) (hb hby at_51) (by decide) hr) ?_
        obtain ⟨T8, h8, k8, X8, e8, E8, A8, st8⟩ := newP X7 hx hZ (hw _ (List.mem_of_getElem? (i := 3) rfl)) e7 (g := (mkF m 52 #[.val (.int p0), .val (.int p1), .val (.int p2), .val (.int p3), .val (.int p4), .val (.int p5), .val (.int b11), .val (.int b24), .val (.int ((XT.ushr p0 (2 : Int32)) &&& (3 : Int32))), .val (.int b45), .unset, .unset, .unset, .unset, .unset, .unset] [(.int (1 : Int32)), (.ref a7), (.ref a7)])) rfl (hb hby at_52) rfl (by decide) (cap := 1) (by decide) (by decide) (by decide) (by decide)
        obtain ⟨a8, g8⟩ : ∃ z, z = h7.size := ⟨_, rfl⟩
        rw [← g8] at A8 st8
        have n_a8 : h0.size ≤ a8 := Nat.le_trans fZ_q_7 (Nat.le_of_eq g8.symm)
        have ne_a7_a8 : a7 ≠ a8 := Nat.ne_of_lt (Nat.lt_of_lt_of_eq A7.lt g8.symm)
        have fZ_q_8 : h0.size ≤ h8.size := (Nat.le_trans fZ_q_7 E8.1)
        have O0_q_8 : Old Z h0.size h8 := (O0_q_7.ext E8)
        have A7_q_8 : Exa Z h8 a7 "java/lang/String" := (A7.ext E8)
        have F7_coder_q_8 : Fld Z h8 a7 "java/lang/String" "coder" "B" (.int (0 : Int32)) := (F7_coder.ext E8)
        have F7_value_q_8 : Fld Z h8 a7 "java/lang/String" "value" "[B" .null := (F7_value.ext E8)
        have V8 : Arv Z h8 a8 k8 .char (1 : Int32) [(.int (0 : Int32))] (.int (0 : Int32)) := (Arv.new A8 (by decide)).pad (pad_rep [] (.int (0 : Int32)) 1)
        refine Go.st (T' := T8) (g' := (mkF m 54 #[.val (.int p0), .val (.int p1), .val (.int p2), .val (.int p3), .val (.int p4), .val (.int p5), .val (.int b11), .val (.int b24), .val (.int ((XT.ushr p0 (2 : Int32)) &&& (3 : Int32))), .val (.int b45), .unset, .unset, .unset, .unset, .unset, .unset] [(.ref a8), (.ref a7), (.ref a7)])) st8 ?_
        refine Go.st (T' := T8) (g' := (mkF m 55 #[.val (.int p0), .val (.int p1), .val (.int p2), .val (.int p3), .val (.int p4), .val (.int p5), .val (.int b11), .val (.int b24), .val (.int ((XT.ushr p0 (2 : Int32)) &&& (3 : Int32))), .val (.int b45), .unset, .unset, .unset, .unset, .unset, .unset] [(.ref a8), (.ref a8), (.ref a7), (.ref a7)])) (fun _ hr => XS.dup X8.here hx rfl (hb hby at_54) rfl rfl hr) ?_
        refine Go.st (T' := T8) (g' := (mkF m 56 #[.val (.int p0), .val (.int p1), .val (.int p2), .val (.int p3), .val (.int p4), .val (.int p5), .val (.int b11), .val (.int b24), .val (.int ((XT.ushr p0 (2 : Int32)) &&& (3 : Int32))), .val (.int b45), .unset, .unset, .unset, .unset, .unset, .unset] [(.int (0 : Int32)), (.ref a8), (.ref a8), (.ref a7), (.ref a7)])) (fun _ hr => XT.iconstV X8.here hx rfl (0 : Int32) (hb hby at_55) (by decide) hr) ?_
        refine Go.st (T' := T8) (g' := (mkF m 58 #[.val (.int p0), .val (.int p1), .val (.int p2), .val (.int p3), .val (.int p4), .val (.int p5), .val (.int b11), .val (.int b24), .val (.int ((XT.ushr p0 (2 : Int32)) &&& (3 : Int32))), .val (.int b45), .unset, .unset, .unset, .unset, .unset, .unset] [(.int p4), (.int (0 : Int32)), (.ref a8), (.ref a8), (.ref a7), (.ref a7)])) (fun _ hr => XS.iload X8.here hx rfl (hb hby at_56) rfl hr) ?_
        refine Go.st (T' := T8) (g' := (mkF m 61 #[.val (.int p0), .val (.int p1), .val (.int p2), .val (.int p3), .val (.int p4), .val (.int p5), .val (.int b11), .val (.int b24), .val (.int ((XT.ushr p0 (2 : Int32)) &&& (3 : Int32))), .val (.int b45), .unset, .unset, .unset, .unset, .unset, .unset] [(.int (255 : Int32)), (.int p4), (.int (0 : Int32)), (.ref a8), (.ref a8), (.ref a7), (.ref a7)])) (fun _ hr => XT.sipushV X8.here hx rfl (255 : Int32) (hb hby at_58) (by decide) hr) ?_
        refine Go.st (T' := T8) (g' := (mkF m 62 #[.val (.int p0), .val (.int p1), .val (.int p2), .val (.int p3), .val (.int p4), .val (.int p5), .val (.int b11), .val (.int b24), .val (.int ((XT.ushr p0 (2 : Int32)) &&& (3 : Int32))), .val (.int b45), .unset, .unset, .unset, .unset, .unset, .unset] [(.int (p4 &&& (255 : Int32))), (.int (0 : Int32)), (.ref a8), (.ref a8), (.ref a7), (.ref a7)])) (fun _ hr => XS.iand X8.here hx rfl (hb hby at_61) rfl hr) ?_
        refine Go.st (T' := T8) (g' := (mkF m 63 #[.val (.int p0), .val (.int p1), .val (.int p2), .val (.int p3), .val (.int p4), .val (.int p5), .val (.int b11), .val (.int b24), .val (.int ((XT.ushr p0 (2 : Int32)) &&& (3 : Int32))), .val (.int b45), .unset, .unset, .unset, .unset, .unset, .unset] [(.int ((p4 &&& (255 : Int32))).toUInt32.toUInt16.toUInt32.toInt32), (.int (0 : Int32)), (.ref a8), (.ref a8), (.ref a7), (.ref a7)])) (fun _ hr => XT.i2c X8.here hx rfl (hb hby at_62) rfl hr) ?_
        obtain ⟨cl9, Ar9, qa9, Sz9, Mz9, Hz9, Uz9⟩ := (id V8)
        obtain ⟨T9, h9, X9, e9, W9, st9⟩ := stC X8 hx hZ e8 Ar9 (j := (0 : Int32)) (inb_of Sz9 ⟨by decide, by decide⟩) (g := (mkF m 63 #[.val (.int p0), .val (.int p1), .val (.int p2), .val (.int p3), .val (.int p4), .val (.int p5), .val (.int b11), .val (.int b24), .val (.int ((XT.ushr p0 (2 : Int32)) &&& (3 : Int32))), .val (.int b45), .unset, .unset, .unset, .unset, .unset, .unset] [(.int ((p4 &&& (255 : Int32))).toUInt32.toUInt16.toUInt32.toInt32), (.int (0 : Int32)), (.ref a8), (.ref a8), (.ref a7), (.ref a7)])) rfl rfl (hb hby at_63)
        have fZ_q_9 : h0.size ≤ h9.size := (Nat.le_trans fZ_q_8 (Keep.of_wr W9).1)
        have O0_q_9 : Old Z h0.size h9 := (O0_q_8.wr W9 n_a8)
        have A7_q_9 : Exa Z h9 a7 "java/lang/String" := (A7_q_8.wr W9)
        have F7_coder_q_9 : Fld Z h9 a7 "java/lang/String" "coder" "B" (.int (0 : Int32)) := (F7_coder_q_8.other W9 (Or.inl ne_a7_a8))
        have F7_value_q_9 : Fld Z h9 a7 "java/lang/String" "value" "[B" .null := (F7_value_q_8.other W9 (Or.inl ne_a7_a8))
        have V8_q_9 : Arv Z h9 a8 k8 .char (1 : Int32) [(.int (nar .char ((p4 &&& (255 : Int32))).toUInt32.toUInt16.toUInt32.toInt32))] (.int (0 : Int32)) := (Arv.set Ar9 qa9 Sz9 Mz9 Hz9 Uz9 (fits_nar_char _) W9 0 rfl (Nat.le_of_ble_eq_true rfl))
        have N9 := Fr.snoc X9 (Fr.nil h0.size) n_a8
        refine Go.st (T' := T9) (g' := (mkF m 64 #[.val (.int p0), .val (.int p1), .val (.int p2), .val (.int p3), .val (.int p4), .val (.int p5), .val (.int b11), .val (.int b24), .val (.int ((XT.ushr p0 (2 : Int32)) &&& (3 : Int32))), .val (.int b45), .unset, .unset, .unset, .unset, .unset, .unset] [(.ref a8), (.ref a7), (.ref a7)])) st9 ?_
        refine Go.callC X9 hx hZ hown (W := 1) (y := (⟨"java/lang/String", "<init>", "([C)V"⟩ : MethodName)) rfl (hw _ (List.mem_of_getElem? (i := 4) rfl)) (hw _ (List.mem_of_getElem? (i := 5) rfl)) (hw _ (List.mem_of_getElem? (i := 2) rfl)) (hw _ (List.mem_of_getElem? (i := 6) rfl)) (by decide) e9 (rm1_1 l Z a0 hw a7 a8 (nar .char ((p4 &&& (255 : Int32))).toUInt32.toUInt16.toUInt32.toInt32) k8 w h9 h0.size n_a7 fZ_q_9 ne_a7_a8 A7_q_9 F7_value_q_9 F7_coder_q_9 V8_q_9 (own_c255n _) hcs (S0.ext O0_q_9.2)) (by decide) (by decide) (by decide) (by decide) (g := (mkF m 64 #[.val (.int p0), .val (.int p1), .val (.int p2), .val (.int p3), .val (.int p4), .val (.int p5), .val (.int b11), .val (.int b24), .val (.int ((XT.ushr p0 (2 : Int32)) &&& (3 : Int32))), .val (.int b45), .unset, .unset, .unset, .unset, .unset, .unset] [(.ref a8), (.ref a7), (.ref a7)])) rfl (by rw [hml]; rfl) (argsL := [(.ref a8)]) (rest := [(.ref a7)]) (lenOf pd_9 rfl) rfl (by show 2 * 0 + _ ≤ _; exact Nat.le_of_eq rfl) (hb hby at_64) (fun v10 T10 L10 X10 q10 => ?_)
        obtain ⟨h10, e10⟩ : ∃ z, T10.heap = z := ⟨_, rfl⟩
        rw [e10] at q10
        obtain ⟨rfl, N10q, K10⟩ := q10
        have N10 := Fr.app N9 N10q
        have fZ_q_10 : h0.size ≤ h10.size := (Nat.le_trans fZ_q_9 K10.1)
        have O0_q_10 : Old Z h0.size h10 := (O0_q_9.keep K10 (allS n_a7 all0))
        have A7_q_10 : Exa Z h10 a7 "java/lang/String" := (A7_q_9.keep K10)
        have V8_q_10 : Arv Z h10 a8 k8 .char (1 : Int32) [(.int (nar .char ((p4 &&& (255 : Int32))).toUInt32.toUInt16.toUInt32.toInt32))] (.int (0 : Int32)) := (V8_q_9.keep K10 (ninS (Ne.symm ne_a7_a8) nin0))
        show Go p.tables e below (Fin s (fun v h L => v = some (.int 1) ∧ Fr h0.size L) room_1.cells room_1.slots) T10 (mkF m 67 #[.val (.int p0), .val (.int p1), .val (.int p2), .val (.int p3), .val (.int p4), .val (.int p5), .val (.int b11), .val (.int b24), .val (.int ((XT.ushr p0 (2 : Int32)) &&& (3 : Int32))), .val (.int b45), .unset, .unset, .unset, .unset, .unset, .unset] [(.ref a7)])
        refine Go.st (T' := T10) (g' := (mkF m 69 #[.val (.int p0), .val (.int p1), .val (.int p2), .val (.int p3), .val (.int p4), .val (.int p5), .val (.int b11), .val (.int b24), .val (.int ((XT.ushr p0 (2 : Int32)) &&& (3 : Int32))), .val (.int b45), .val (.ref a7), .unset, .unset, .unset, .unset, .unset] [])) (fun _ hr => XS.astore X10.here hx rfl (hb hby at_67) rfl rfl (l' := #[.val (.int p0), .val (.int p1), .val (.int p2), .val (.int p3), .val (.int p4), .val (.int p5), .val (.int b11), .val (.int b24), .val (.int ((XT.ushr p0 (2 : Int32)) &&& (3 : Int32))), .val (.int b45), .val (.ref a7), .unset, .unset, .unset, .unset, .unset]) rfl hr) ?_
        obtain ⟨T11, h11, X11, e11, E11, A11, D11, -, st11⟩ := newO X10 hx hZ hown (hw _ (List.mem_of_getElem? (i := 0) rfl)) (hw _ (List.mem_of_getElem? (i := 1) rfl)) (hw _ (List.mem_of_getElem? (i := 2) rfl)) e10 (g := (mkF m 69 #[.val (.int p0), .val (.int p1), .val (.int p2), .val (.int p3), .val (.int p4), .val (.int p5), .val (.int b11), .val (.int b24), .val (.int ((XT.ushr p0 (2 : Int32)) &&& (3 : Int32))), .val (.int b45), .val (.ref a7), .unset, .unset, .unset, .unset, .unset] [])) rfl (hb hby at_69) (by decide) (by decide)
        obtain ⟨a11, g11⟩ : ∃ z, z = h10.size := ⟨_, rfl⟩
        rw [← g11] at A11 D11 st11
        have n_a11 : h0.size ≤ a11 := Nat.le_trans fZ_q_10 (Nat.le_of_eq g11.symm)
        have ne_a7_a11 : a7 ≠ a11 := Nat.ne_of_lt (Nat.lt_of_lt_of_eq A7_q_10.lt g11.symm)
        have ne_a8_a11 : a8 ≠ a11 := Nat.ne_of_lt (Nat.lt_of_lt_of_eq V8_q_10.lt g11.symm)
        have fZ_q_11 : h0.size ≤ h11.size := (Nat.le_trans fZ_q_10 E11.1)
        have O0_q_11 : Old Z h0.size h11 := (O0_q_10.ext E11)
        have A7_q_11 : Exa Z h11 a7 "java/lang/String" := (A7_q_10.ext E11)
        have V8_q_11 : Arv Z h11 a8 k8 .char (1 : Int32) [(.int (nar .char ((p4 &&& (255 : Int32))).toUInt32.toUInt16.toUInt32.toInt32))] (.int (0 : Int32)) := (V8_q_10.ext E11)
        have F11_coder : Fld Z h11 a11 "java/lang/String" "coder" "B" (.int (0 : Int32)) := D11 (Or.inr (hw _ (List.mem_of_getElem? (i := 27) rfl))) (ty := .byte) (by decide)
        have F11_value : Fld Z h11 a11 "java/lang/String" "value" "[B" .null := D11 (Or.inr (hw _ (List.mem_of_getElem? (i := 29) rfl))) (ty := (.array .byte)) (by decide)
        refine Go.st (T' := T11) (g' := (mkF m 72 #[.val (.int p0), .val (.int p1), .val (.int p2), .val (.int p3), .val (.int p4), .val (.int p5), .val (.int b11), .val (.int b24), .val (.int ((XT.ushr p0 (2 : Int32)) &&& (3 : Int32))), .val (.int b45), .val (.ref a7), .unset, .unset, .unset, .unset, .unset] [(.ref a11)])) st11 ?_
        refine Go.st (T' := T11) (g' := (mkF m 73 #[.val (.int p0), .val (.int p1), .val (.int p2), .val (.int p3), .val (.int p4), .val (.int p5), .val (.int b11), .val (.int b24), .val (.int ((XT.ushr p0 (2 : Int32)) &&& (3 : Int32))), .val (.int b45), .val (.ref a7), .unset, .unset, .unset, .unset, .unset] [(.ref a11), (.ref a11)])) (fun _ hr => XS.dup X11.here hx rfl (hb hby at_72) rfl rfl hr) ?_
        refine Go.st (T' := T11) (g' := (mkF m 74 #[.val (.int p0), .val (.int p1), .val (.int p2), .val (.int p3), .val (.int p4), .val (.int p5), .val (.int b11), .val (.int b24), .val (.int ((XT.ushr p0 (2 : Int32)) &&& (3 : Int32))), .val (.int b45), .val (.ref a7), .unset, .unset, .unset, .unset, .unset] [(.int (2 : Int32)), (.ref a11), (.ref a11)])) (fun _ hr => XT.iconstV X11.here hx rfl (2 : Int32) (hb hby at_73) (by decide) hr) ?_
        obtain ⟨T12, h12, k12, X12, e12, E12, A12, st12⟩ := newP X11 hx hZ (hw _ (List.mem_of_getElem? (i := 3) rfl)) e11 (g := (mkF m 74 #[.val (.int p0), .val (.int p1), .val (.int p2), .val (.int p3), .val (.int p4), .val (.int p5), .val (.int b11), .val (.int b24), .val (.int ((XT.ushr p0 (2 : Int32)) &&& (3 : Int32))), .val (.int b45), .val (.ref a7), .unset, .unset, .unset, .unset, .unset] [(.int (2 : Int32)), (.ref a11), (.ref a11)])) rfl (hb hby at_74) rfl (by decide) (cap := 2) (by decide) (by decide) (by decide) (by decide)
        obtain ⟨a12, g12⟩ : ∃ z, z = h11.size := ⟨_, rfl⟩
        rw [← g12] at A12 st12
        have n_a12 : h0.size ≤ a12 := Nat.le_trans fZ_q_11 (Nat.le_of_eq g12.symm)
        have ne_a7_a12 : a7 ≠ a12 := Nat.ne_of_lt (Nat.lt_of_lt_of_eq A7_q_11.lt g12.symm)
        have ne_a8_a12 : a8 ≠ a12 := Nat.ne_of_lt (Nat.lt_of_lt_of_eq V8_q_11.lt g12.symm)
        have ne_a11_a12 : a11 ≠ a12 := Nat.ne_of_lt (Nat.lt_of_lt_of_eq A11.lt g12.symm)
        have fZ_q_12 : h0.size ≤ h12.size := (Nat.le_trans fZ_q_11 E12.1)
        have O0_q_12 : Old Z h0.size h12 := (O0_q_11.ext E12)
        have A7_q_12 : Exa Z h12 a7 "java/lang/String" := (A7_q_11.ext E12)
        have V8_q_12 : Arv Z h12 a8 k8 .char (1 : Int32) [(.int (nar .char ((p4 &&& (255 : Int32))).toUInt32.toUInt16.toUInt32.toInt32))] (.int (0 : Int32)) := (V8_q_11.ext E12)
        have A11_q_12 : Exa Z h12 a11 "java/lang/String" := (A11.ext E12)
        have F11_coder_q_12 : Fld Z h12 a11 "java/lang/String" "coder" "B" (.int (0 : Int32)) := (F11_coder.ext E12)
        have F11_value_q_12 : Fld Z h12 a11 "java/lang/String" "value" "[B" .null := (F11_value.ext E12)
        have V12 : Arv Z h12 a12 k12 .char (2 : Int32) [(.int (0 : Int32)), (.int (0 : Int32))] (.int (0 : Int32)) := (Arv.new A12 (by decide)).pad (pad_rep [] (.int (0 : Int32)) 2)
        refine Go.st (T' := T12) (g' := (mkF m 76 #[.val (.int p0), .val (.int p1), .val (.int p2), .val (.int p3), .val (.int p4), .val (.int p5), .val (.int b11), .val (.int b24), .val (.int ((XT.ushr p0 (2 : Int32)) &&& (3 : Int32))), .val (.int b45), .val (.ref a7), .unset, .unset, .unset, .unset, .unset] [(.ref a12), (.ref a11), (.ref a11)])) st12 ?_
        refine Go.st (T' := T12) (g' := (mkF m 77 #[.val (.int p0), .val (.int p1), .val (.int p2), .val (.int p3), .val (.int p4), .val (.int p5), .val (.int b11), .val (.int b24), .val (.int ((XT.ushr p0 (2 : Int32)) &&& (3 : Int32))), .val (.int b45), .val (.ref a7), .unset, .unset, .unset, .unset, .unset] [(.ref a12), (.ref a12), (.ref a11), (.ref a11)])) (fun _ hr => XS.dup X12.here hx rfl (hb hby at_76) rfl rfl hr) ?_
        refine Go.st (T' := T12) (g' := (mkF m 78 #[.val (.int p0), .val (.int p1), .val (.int p2), .val (.int p3), .val (.int p4), .val (.int p5), .val (.int b11), .val (.int b24), .val (.int ((XT.ushr p0 (2 : Int32)) &&& (3 : Int32))), .val (.int b45), .val (.ref a7), .unset, .unset, .unset, .unset, .unset] [(.int (0 : Int32)), (.ref a12), (.ref a12), (.ref a11), (.ref a11)])) (fun _ hr => XT.iconstV X12.here hx rfl (0 : Int32) (hb hby at_77) (by decide) hr) ?_
        refine Go.st (T' := T12) (g' := (mkF m 80 #[.val (.int p0), .val (.int p1), .val (.int p2), .val (.int p3), .val (.int p4), .val (.int p5), .val (.int b11), .val (.int b24), .val (.int ((XT.ushr p0 (2 : Int32)) &&& (3 : Int32))), .val (.int b45), .val (.ref a7), .unset, .unset, .unset, .unset, .unset] [(.int p4), (.int (0 : Int32)), (.ref a12), (.ref a12), (.ref a11), (.ref a11)])) (fun _ hr => XS.iload X12.here hx rfl (hb hby at_78) rfl hr) ?_
        refine Go.st (T' := T12) (g' := (mkF m 82 #[.val (.int p0), .val (.int p1), .val (.int p2), .val (.int p3), .val (.int p4), .val (.int p5), .val (.int b11), .val (.int b24), .val (.int ((XT.ushr p0 (2 : Int32)) &&& (3 : Int32))), .val (.int b45), .val (.ref a7), .unset, .unset, .unset, .unset, .unset] [(.int (8 : Int32)), (.int p4), (.int (0 : Int32)), (.ref a12), (.ref a12), (.ref a11), (.ref a11)])) (fun _ hr => XT.bipushV X12.here hx rfl (8 : Int32) (hb hby at_80) (by decide) hr) ?_
        refine Go.st (T' := T12) (g' := (mkF m 83 #[.val (.int p0), .val (.int p1), .val (.int p2), .val (.int p3), .val (.int p4), .val (.int p5), .val (.int b11), .val (.int b24), .val (.int ((XT.ushr p0 (2 : Int32)) &&& (3 : Int32))), .val (.int b45), .val (.ref a7), .unset, .unset, .unset, .unset, .unset] [(.int (XT.ushr p4 (8 : Int32))), (.int (0 : Int32)), (.ref a12), (.ref a12), (.ref a11), (.ref a11)])) (fun _ hr => XT.iushr X12.here hx rfl (hb hby at_82) rfl hr) ?_
        refine Go.st (T' := T12) (g' := (mkF m 86 #[.val (.int p0), .val (.int p1), .val (.int p2), .val (.int p3), .val (.int p4), .val (.int p5), .val (.int b11), .val (.int b24), .val (.int ((XT.ushr p0 (2 : Int32)) &&& (3 : Int32))), .val (.int b45), .val (.ref a7), .unset, .unset, .unset, .unset, .unset] [(.int (255 : Int32)), (.int (XT.ushr p4 (8 : Int32))), (.int (0 : Int32)), (.ref a12), (.ref a12), (.ref a11), (.ref a11)])) (fun _ hr => XT.sipushV X12.here hx rfl (255 : Int32) (hb hby at_83) (by decide) hr) ?_
        refine Go.st (T' := T12) (g' := (mkF m 87 #[.val (.int p0), .val (.int p1), .val (.int p2), .val (.int p3), .val (.int p4), .val (.int p5), .val (.int b11), .val (.int b24), .val (.int ((XT.ushr p0 (2 : Int32)) &&& (3 : Int32))), .val (.int b45), .val (.ref a7), .unset, .unset, .unset, .unset, .unset] [(.int ((XT.ushr p4 (8 : Int32)) &&& (255 : Int32))), (.int (0 : Int32)), (.ref a12), (.ref a12), (.ref a11), (.ref a11)])) (fun _ hr => XS.iand X12.here hx rfl (hb hby at_86) rfl hr) ?_
        refine Go.st (T' := T12) (g' := (mkF m 88 #[.val (.int p0), .val (.int p1), .val (.int p2), .val (.int p3), .val (.int p4), .val (.int p5), .val (.int b11), .val (.int b24), .val (.int ((XT.ushr p0 (2 : Int32)) &&& (3 : Int32))), .val (.int b45), .val (.ref a7), .unset, .unset, .unset, .unset, .unset] [(.int (((XT.ushr p4 (8 : Int32)) &&& (255 : Int32))).toUInt32.toUInt16.toUInt32.toInt32), (.int (0 : Int32)), (.ref a12), (.ref a12), (.ref a11), (.ref a11)])) (fun _ hr => XT.i2c X12.here hx rfl (hb hby at_87) rfl hr) ?_
        obtain ⟨cl13, Ar13, qa13, Sz13, Mz13, Hz13, Uz13⟩ := (id V12)
        obtain ⟨T13, h13, X13, e13, W13, st13⟩ := stC X12 hx hZ e12 Ar13 (j := (0 : Int32)) (inb_of Sz13 ⟨by decide, by decide⟩) (g := (mkF m 88 #[.val (.int p0), .val (.int p1), .val (.int p2), .val (.int p3), .val (.int p4), .val (.int p5), .val (.int b11), .val (.int b24), .val (.int ((XT.ushr p0 (2 : Int32)) &&& (3 : Int32))), .val (.int b45), .val (.ref a7), .unset, .unset, .unset, .unset, .unset] [(.int (((XT.ushr p4 (8 : Int32)) &&& (255 : Int32))).toUInt32.toUInt16.toUInt32.toInt32), (.int (0 : Int32)), (.ref a12), (.ref a12), (.ref a11), (.ref a11)])) rfl rfl (hb hby at_88)
        have fZ_q_13 : h0.size ≤ h13.size := (Nat.le_trans fZ_q_12 (Keep.of_wr W13).1)
        have O0_q_13 : Old Z h0.size h13 := (O0_q_12.wr W13 n_a12)
        have A7_q_13 : Exa Z h13 a7 "java/lang/String" := (A7_q_12.wr W13)
        have V8_q_13 : Arv Z h13 a8 k8 .char (1 : Int32) [(.int (nar .char ((p4 &&& (255 : Int32))).toUInt32.toUInt16.toUInt32.toInt32))] (.int (0 : Int32)) := (V8_q_12.other W13 ne_a8_a12)
        have A11_q_13 : Exa Z h13 a11 "java/lang/String" := (A11_q_12.wr W13)
        have F11_coder_q_13 : Fld Z h13 a11 "java/lang/String" "coder" "B" (.int (0 : Int32)) := (F11_coder_q_12.other W13 (Or.inl ne_a11_a12))
        have F11_value_q_13 : Fld Z h13 a11 "java/lang/String" "value" "[B" .null := (F11_value_q_12.other W13 (Or.inl ne_a11_a12))
        have V12_q_13 : Arv Z h13 a12 k12 .char (2 : Int32) [(.int (nar .char (((XT.ushr p4 (8 : Int32)) &&& (255 : Int32))).toUInt32.toUInt16.toUInt32.toInt32)), (.int (0 : Int32))] (.int (0 : Int32)) := (Arv.set Ar13 qa13 Sz13 Mz13 Hz13 Uz13 (fits_nar_char _) W13 0 rfl (Nat.le_of_ble_eq_true rfl))
        have N13 := Fr.snoc X13 N10 n_a12
        refine Go.st (T' := T13) (g' := (mkF m 89 #[.val (.int p0), .val (.int p1), .val (.int p2), .val (.int p3), .val (.int p4), .val (.int p5), .val (.int b11), .val (.int b24), .val (.int ((XT.ushr p0 (2 : Int32)) &&& (3 : Int32))), .val (.int b45), .val (.ref a7), .unset, .unset, .unset, .unset, .unset] [(.ref a12), (.ref a11), (.ref a11)])) st13 ?_
        refine Go.st (T' := T13) (g' := (mkF m 90 #[.val (.int p0), .val (.int p1), .val (.int p2), .val (.int p3), .val (.int p4), .val (.int p5), .val (.int b11), .val (.int b24), .val (.int ((XT.ushr p0 (2 : Int32)) &&& (3 : Int32))), .val (.int b45), .val (.ref a7), .unset, .unset, .unset, .unset, .unset] [(.ref a12), (.ref a12), (.ref a11), (.ref a11)])) (fun _ hr => XS.dup X13.here hx rfl (hb hby at_89) rfl rfl hr) ?_
        refine Go.st (T' := T13) (g' := (mkF m 91 #[.val (.int p0), .val (.int p1), .val (.int p2), .val (.int p3), .val (.int p4), .val (.int p5), .val (.int b11), .val (.int b24), .val (.int ((XT.ushr p0 (2 : Int32)) &&& (3 : Int32))), .val (.int b45), .val (.ref a7), .unset, .unset, .unset, .unset, .unset] [(.int (1 : Int32)), (.ref a12), (.ref a12), (.ref a11), (.ref a11)])) (fun _ hr => XT.iconstV X13.here hx rfl (1 : Int32) (hb hby at_90) (by decide) hr) ?_
        refine Go.st (T' := T13) (g' := (mkF m 93 #[.val (.int p0), .val (.int p1), .val (.int p2), .val (.int p3), .val (.int p4), .val (.int p5), .val (.int b11), .val (.int b24), .val (.int ((XT.ushr p0 (2 : Int32)) &&& (3 : Int32))), .val (.int b45), .val (.ref a7), .unset, .unset, .unset, .unset, .unset] [(.int p4), (.int (1 : Int32)), (.ref a12), (.ref a12), (.ref a11), (.ref a11)])) (fun _ hr => XS.iload X13.here hx rfl (hb hby at_91) rfl hr) ?_
        refine Go.st (T' := T13) (g' := (mkF m 95 #[.val (.int p0), .val (.int p1), .val (.int p2), .val (.int p3), .val (.int p4), .val (.int p5), .val (.int b11), .val (.int b24), .val (.int ((XT.ushr p0 (2 : Int32)) &&& (3 : Int32))), .val (.int b45), .val (.ref a7), .unset, .unset, .unset, .unset, .unset] [(.int (16 : Int32)), (.int p4), (.int (1 : Int32)), (.ref a12), (.ref a12), (.ref a11), (.ref a11)])) (fun _ hr => XT.bipushV X13.here hx rfl (16 : Int32) (hb hby at_93) (by decide) hr) ?_
        refine Go.st (T' := T13) (g' := (mkF m 96 #[.val (.int p0), .val (.int p1), .val (.int p2), .val (.int p3), .val (.int p4), .val (.int p5), .val (.int b11), .val (.int b24), .val (.int ((XT.ushr p0 (2 : Int32)) &&& (3 : Int32))), .val (.int b45), .val (.ref a7), .unset, .unset, .unset, .unset, .unset] [(.int (XT.ushr p4 (16 : Int32))), (.int (1 : Int32)), (.ref a12), (.ref a12), (.ref a11), (.ref a11)])) (fun _ hr => XT.iushr X13.here hx rfl (hb hby at_95) rfl hr) ?_
        refine Go.st (T' := T13) (g' := (mkF m 99 #[.val (.int p0), .val (.int p1), .val (.int p2), .val (.int p3), .val (.int p4), .val (.int p5), .val (.int b11), .val (.int b24), .val (.int ((XT.ushr p0 (2 : Int32)) &&& (3 : Int32))), .val (.int b45), .val (.ref a7), .unset, .unset, .unset, .unset, .unset] [(.int (255 : Int32)), (.int (XT.ushr p4 (16 : Int32))), (.int (1 : Int32)), (.ref a12), (.ref a12), (.ref a11), (.ref a11)])) (fun _ hr => XT.sipushV X13.here hx rfl (255 : Int32) (hb hby at_96) (by decide) hr) ?_
        refine Go.st (T' := T13) (g' := (mkF m 100 #[.val (.int p0), .val (.int p1), .val (.int p2), .val (.int p3), .val (.int p4), .val (.int p5), .val (.int b11), .val (.int b24), .val (.int ((XT.ushr p0 (2 : Int32)) &&& (3 : Int32))), .val (.int b45), .val (.ref a7), .unset, .unset, .unset, .unset, .unset] [(.int ((XT.ushr p4 (16 : Int32)) &&& (255 : Int32))), (.int (1 : Int32)), (.ref a12), (.ref a12), (.ref a11), (.ref a11)])) (fun _ hr => XS.iand X13.here hx rfl (hb hby at_99) rfl hr) ?_
        refine Go.st (T' := T13) (g' := (mkF m 101 #[.val (.int p0), .val (.int p1), .val (.int p2), .val (.int p3), .val (.int p4), .val (.int p5), .val (.int b11), .val (.int b24), .val (.int ((XT.ushr p0 (2 : Int32)) &&& (3 : Int32))), .val (.int b45), .val (.ref a7), .unset, .unset, .unset, .unset, .unset] [(.int (((XT.ushr p4 (16 : Int32)) &&& (255 : Int32))).toUInt32.toUInt16.toUInt32.toInt32), (.int (1 : Int32)), (.ref a12), (.ref a12), (.ref a11), (.ref a11)])) (fun _ hr => XT.i2c X13.here hx rfl (hb hby at_100) rfl hr) ?_
        obtain ⟨cl14, Ar14, qa14, Sz14, Mz14, Hz14, Uz14⟩ := (id V12_q_13)
        obtain ⟨T14, h14, X14, e14, W14, st14⟩ := stC X13 hx hZ e13 Ar14 (j := (1 : Int32)) (inb_of Sz14 ⟨by decide, by decide⟩) (g := (mkF m 101 #[.val (.int p0), .val (.int p1), .val (.int p2), .val (.int p3), .val (.int p4), .val (.int p5), .val (.int b11), .val (.int b24), .val (.int ((XT.ushr p0 (2 : Int32)) &&& (3 : Int32))), .val (.int b45), .val (.ref a7), .unset, .unset, .unset, .unset, .unset] [(.int (((XT.ushr p4 (16 : Int32)) &&& (255 : Int32))).toUInt32.toUInt16.toUInt32.toInt32), (.int (1 : Int32)), (.ref a12), (.ref a12), (.ref a11), (.ref a11)])) rfl rfl (hb hby at_101)
        have fZ_q_14 : h0.size ≤ h14.size := (Nat.le_trans fZ_q_13 (Keep.of_wr W14).1)
        have O0_q_14 : Old Z h0.size h14 := (O0_q_13.wr W14 n_a12)
        have A7_q_14 : Exa Z h14 a7 "java/lang/String" := (A7_q_13.wr W14)
        have V8_q_14 : Arv Z h14 a8 k8 .char (1 : Int32) [(.int (nar .char ((p4 &&& (255 : Int32))).toUInt32.toUInt16.toUInt32.toInt32))] (.int (0 : Int32)) := (V8_q_13.other W14 ne_a8_a12)
        have A11_q_14 : Exa Z h14 a11 "java/lang/String" := (A11_q_13.wr W14)
        have F11_coder_q_14 : Fld Z h14 a11 "java/lang/String" "coder" "B" (.int (0 : Int32)) := (F11_coder_q_13.other W14 (Or.inl ne_a11_a12))
        have F11_value_q_14 : Fld Z h14 a11 "java/lang/String" "value" "[B" .null := (F11_value_q_13.other W14 (Or.inl ne_a11_a12))
        have V12_q_14 : Arv Z h14 a12 k12 .char (2 : Int32) [(.int (nar .char (((XT.ushr p4 (8 : Int32)) &&& (255 : Int32))).toUInt32.toUInt16.toUInt32.toInt32)), (.int (nar .char (((XT.ushr p4 (16 : Int32)) &&& (255 : Int32))).toUInt32.toUInt16.toUInt32.toInt32))] (.int (0 : Int32)) := (Arv.set Ar14 qa14 Sz14 Mz14 Hz14 Uz14 (fits_nar_char _) W14 1 rfl (Nat.le_of_ble_eq_true rfl))
        have N14 := Fr.snoc X14 N13 n_a12
        refine Go.st (T' := T14) (g' := (mkF m 102 #[.val (.int p0), .val (.int p1), .val (.int p2), .val (.int p3), .val (.int p4), .val (.int p5), .val (.int b11), .val (.int b24), .val (.int ((XT.ushr p0 (2 : Int32)) &&& (3 : Int32))), .val (.int b45), .val (.ref a7), .unset, .unset, .unset, .unset, .unset] [(.ref a12), (.ref a11), (.ref a11)])) st14 ?_
        refine Go.callC X14 hx hZ hown (W := 1) (y := (⟨"java/lang/String", "<init>", "([C)V"⟩ : MethodName)) rfl (hw _ (List.mem_of_getElem? (i := 4) rfl)) (hw _ (List.mem_of_getElem? (i := 5) rfl)) (hw _ (List.mem_of_getElem? (i := 2) rfl)) (hw _ (List.mem_of_getElem? (i := 6) rfl)) (by decide) e14 (rm1_2 l Z a0 hw a11 a12 (nar .char (((XT.ushr p4 (8 : Int32)) &&& (255 : Int32))).toUInt32.toUInt16.toUInt32.toInt32) (nar .char (((XT.ushr p4 (16 : Int32)) &&& (255 : Int32))).toUInt32.toUInt16.toUInt32.toInt32) k12 w h14 h0.size n_a11 fZ_q_14 ne_a11_a12 A11_q_14 F11_value_q_14 F11_coder_q_14 V12_q_14 (own_c255n _) (own_c255n _) hcs (S0.ext O0_q_14.2)) (by decide) (by decide) (by decide) (by decide) (g := (mkF m 102 #[.val (.int p0), .val (.int p1), .val (.int p2), .val (.int p3), .val (.int p4), .val (.int p5), .val (.int b11), .val (.int b24), .val (.int ((XT.ushr p0 (2 : Int32)) &&& (3 : Int32))), .val (.int b45), .val (.ref a7), .unset, .unset, .unset, .unset, .unset] [(.ref a12), (.ref a11), (.ref a11)])) rfl (by rw [hml]; rfl) (argsL := [(.ref a12)]) (rest := [(.ref a11)]) (lenOf pd_9 rfl) rfl (by show 2 * 0 + _ ≤ _; exact Nat.le_of_eq rfl) (hb hby at_102) (fun v15 T15 L15 X15 q15 => ?_)
        obtain ⟨h15, e15⟩ : ∃ z, T15.heap = z := ⟨_, rfl⟩
        rw [e15] at q15
        obtain ⟨rfl, N15q, K15⟩ := q15
        have N15 := Fr.app N14 N15q
        have fZ_q_15 : h0.size ≤ h15.size := (Nat.le_trans fZ_q_14 K15.1)
        have O0_q_15 : Old Z h0.size h15 := (O0_q_14.keep K15 (allS n_a11 all0))
        have A7_q_15 : Exa Z h15 a7 "java/lang/String" := (A7_q_14.keep K15)
        have V8_q_15 : Arv Z h15 a8 k8 .char (1 : Int32) [(.int (nar .char ((p4 &&& (255 : Int32))).toUInt32.toUInt16.toUInt32.toInt32))] (.int (0 : Int32)) := (V8_q_14.keep K15 (ninS ne_a8_a11 nin0))
        have A11_q_15 : Exa Z h15 a11 "java/lang/String" := (A11_q_14.keep K15)
        have V12_q_15 : Arv Z h15 a12 k12 .char (2 : Int32) [(.int (nar .char (((XT.ushr p4 (8 : Int32)) &&& (255 : Int32))).toUInt32.toUInt16.toUInt32.toInt32)), (.int (nar .char (((XT.ushr p4 (16 : Int32)) &&& (255 : Int32))).toUInt32.toUInt16.toUInt32.toInt32))] (.int (0 : Int32)) := (V12_q_14.keep K15 (ninS (Ne.symm ne_a11_a12) nin0))
        show Go p.tables e below (Fin s (fun v h L => v = some (.int 1) ∧ Fr h0.size L) room_1.cells room_1.slots) T15 (mkF m 105 #[.val (.int p0), .val (.int p1), .val (.int p2), .val (.int p3), .val (.int p4), .val (.int p5), .val (.int b11), .val (.int b24), .val (.int ((XT.ushr p0 (2 : Int32)) &&& (3 : Int32))), .val (.int b45), .val (.ref a7), .unset, .unset, .unset, .unset, .unset] [(.ref a11)])
        refine Go.st (T' := T15) (g' := (mkF m 107 #[.val (.int p0), .val (.int p1), .val (.int p2), .val (.int p3), .val (.int p4), .val (.int p5), .val (.int b11), .val (.int b24), .val (.int ((XT.ushr p0 (2 : Int32)) &&& (3 : Int32))), .val (.int b45), .val (.ref a7), .val (.ref a11), .unset, .unset, .unset, .unset] [])) (fun _ hr => XS.astore X15.here hx rfl (hb hby at_105) rfl rfl (l' := #[.val (.int p0), .val (.int p1), .val (.int p2), .val (.int p3), .val (.int p4), .val (.int p5), .val (.int b11), .val (.int b24), .val (.int ((XT.ushr p0 (2 : Int32)) &&& (3 : Int32))), .val (.int b45), .val (.ref a7), .val (.ref a11), .unset, .unset, .unset, .unset]) rfl hr) ?_
        refine Go.st (T' := T15) (g' := (mkF m 109 #[.val (.int p0), .val (.int p1), .val (.int p2), .val (.int p3), .val (.int p4), .val (.int p5), .val (.int b11), .val (.int b24), .val (.int ((XT.ushr p0 (2 : Int32)) &&& (3 : Int32))), .val (.int b45), .val (.ref a7), .val (.ref a11), .unset, .unset, .unset, .unset] [(.int b45)])) (fun _ hr => XS.iload X15.here hx rfl (hb hby at_107) rfl hr) ?_
        have J126_16 : ∀ (T16 : State) (h16 : Heap) (L16 : List Loc) (v126 : Value) (r_v126 : v126.isRef = true), Stand p l e room_1 s m #[(.int p0), (.int p1), (.int p2), (.int p3), (.int p4), (.int p5)] below meth c T16 L16 8 20 → T16.heap = h16 → Fr h0.size L16 → h0.size ≤ h16.size → Old Z h0.size h16 → Exa Z h16 a7 "java/lang/String" → Arv Z h16 a8 k8 .char (1 : Int32) [(.int (nar .char ((p4 &&& (255 : Int32))).toUInt32.toUInt16.toUInt32.toInt32))] (.int (0 : Int32)) → Exa Z h16 a11 "java/lang/String" → Arv Z h16 a12 k12 .char (2 : Int32) [(.int (nar .char (((XT.ushr p4 (8 : Int32)) &&& (255 : Int32))).toUInt32.toUInt16.toUInt32.toInt32)), (.int (nar .char (((XT.ushr p4 (16 : Int32)) &&& (255 : Int32))).toUInt32.toUInt16.toUInt32.toInt32))] (.int (0 : Int32)) → Go p.tables e below (Fin s (fun v h L => v = some (.int 1) ∧ Fr h0.size L) room_1.cells room_1.slots) T16 (mkF m 126 #[.val (.int p0), .val (.int p1), .val (.int p2), .val (.int p3), .val (.int p4), .val (.int p5), .val (.int b11), .val (.int b24), .val (.int ((XT.ushr p0 (2 : Int32)) &&& (3 : Int32))), .val (.int b45), .val (.ref a7), .val (.ref a11), .unset, .unset, .unset, .unset] [v126]) := by
          intro T16 h16 L16 v126 r_v126 X16 e16 N16 fZ_q_16 O0_q_16 A7_q_16 V8_q_16 A11_q_16 V12_q_16
          refine Go.st (T' := T16) (g' := (mkF m 128 #[.val (.int p0), .val (.int p1), .val (.int p2), .val (.int p3), .val (.int p4), .val (.int p5), .val (.int b11), .val (.int b24), .val (.int ((XT.ushr p0 (2 : Int32)) &&& (3 : Int32))), .val (.int b45), .val (.ref a7), .val (.ref a11), .val v126, .unset, .unset, .unset] [])) (fun _ hr => XS.astore X16.here hx rfl (hb hby at_126) rfl r_v126 (l' := #[.val (.int p0), .val (.int p1), .val (.int p2), .val (.int p3), .val (.int p4), .val (.int p5), .val (.int b11), .val (.int b24), .val (.int ((XT.ushr p0 (2 : Int32)) &&& (3 : Int32))), .val (.int b45), .val (.ref a7), .val (.ref a11), .val v126, .unset, .unset, .unset]) ((XS.store1 rfl (Or.inl rfl) (XT.cat1 r_v126)).trans rfl) hr) ?_
          refine Go.st (T' := T16) (g' := (mkF m 129 #[.val (.int p0), .val (.int p1), .val (.int p2), .val (.int p3), .val (.int p4), .val (.int p5), .val (.int b11), .val (.int b24), .val (.int ((XT.ushr p0 (2 : Int32)) &&& (3 : Int32))), .val (.int b45), .val (.ref a7), .val (.ref a11), .val v126, .unset, .unset, .unset] [.null])) (fun _ hr => XS.aconstNull X16.here hx rfl (hb hby at_128) hr) ?_
          refine Go.st (T' := T16) (g' := (mkF m 131 #[.val (.int p0), .val (.int p1), .val (.int p2), .val (.int p3), .val (.int p4), .val (.int p5), .val (.int b11), .val (.int b24), .val (.int ((XT.ushr p0 (2 : Int32)) &&& (3 : Int32))), .val (.int b45), .val (.ref a7), .val (.ref a11), .val v126, .val .null, .unset, .unset] [])) (fun _ hr => XS.astore X16.here hx rfl (hb hby at_129) rfl rfl (l' := #[.val (.int p0), .val (.int p1), .val (.int p2), .val (.int p3), .val (.int p4), .val (.int p5), .val (.int b11), .val (.int b24), .val (.int ((XT.ushr p0 (2 : Int32)) &&& (3 : Int32))), .val (.int b45), .val (.ref a7), .val (.ref a11), .val v126, .val .null, .unset, .unset]) rfl hr) ?_
          refine Go.st (T' := T16) (g' := (mkF m 133 #[.val (.int p0), .val (.int p1), .val (.int p2), .val (.int p3), .val (.int p4), .val (.int p5), .val (.int b11), .val (.int b24), .val (.int ((XT.ushr p0 (2 : Int32)) &&& (3 : Int32))), .val (.int b45), .val (.ref a7), .val (.ref a11), .val v126, .val .null, .unset, .unset] [(.int ((XT.ushr p0 (2 : Int32)) &&& (3 : Int32)))])) (fun _ hr => XS.iload X16.here hx rfl (hb hby at_131) rfl hr) ?_
          refine Go.st (T' := T16) (g' := (mkF m 134 #[.val (.int p0), .val (.int p1), .val (.int p2), .val (.int p3), .val (.int p4), .val (.int p5), .val (.int b11), .val (.int b24), .val (.int ((XT.ushr p0 (2 : Int32)) &&& (3 : Int32))), .val (.int b45), .val (.ref a7), .val (.ref a11), .val v126, .val .null, .unset, .unset] [(.int (1 : Int32)), (.int ((XT.ushr p0 (2 : Int32)) &&& (3 : Int32)))])) (fun _ hr => XT.iconstV X16.here hx rfl (1 : Int32) (hb hby at_133) (by decide) hr) ?_
          by_cases c134_17 : ((XT.ushr p0 (2 : Int32)) &&& (3 : Int32)) = (1 : Int32)
          · refine Go.st (T' := T16) (g' := (mkF m 137 #[.val (.int p0), .val (.int p1), .val (.int p2), .val (.int p3), .val (.int p4), .val (.int p5), .val (.int b11), .val (.int b24), .val (.int ((XT.ushr p0 (2 : Int32)) &&& (3 : Int32))), .val (.int b45), .val (.ref a7), .val (.ref a11), .val v126, .val .null, .unset, .unset] [])) (fun _ hr => XS.icmpNo X16.here hx rfl (hb hby at_134) rfl (XT.ii_ne_f c134_17) hr) ?_
            obtain ⟨T18, h18, X18, e18, E18, A18, D18, -, st18⟩ := newO X16 hx hZ hown (hw _ (List.mem_of_getElem? (i := 91) rfl)) (hw _ (List.mem_of_getElem? (i := 92) rfl)) (hw _ (List.mem_of_getElem? (i := 93) rfl)) e16 (g := (mkF m 137 #[.val (.int p0), .val (.int p1), .val (.int p2), .val (.int p3), .val (.int p4), .val (.int p5), .val (.int b11), .val (.int b24), .val (.int ((XT.ushr p0 (2 : Int32)) &&& (3 : Int32))), .val (.int b45), .val (.ref a7), .val (.ref a11), .val v126, .val .null, .unset, .unset] [])) rfl (hb hby at_137) (by decide) (by decide)
            obtain ⟨a18, g18⟩ : ∃ z, z = h16.size := ⟨_, rfl⟩
            rw [← g18] at A18 D18 st18
            have n_a18 : h0.size ≤ a18 := Nat.le_trans fZ_q_16 (Nat.le_of_eq g18.symm)
            have ne_a7_a18 : a7 ≠ a18 := Nat.ne_of_lt (Nat.lt_of_lt_of_eq A7_q_16.lt g18.symm)
            have ne_a8_a18 : a8 ≠ a18 := Nat.ne_of_lt (Nat.lt_of_lt_of_eq V8_q_16.lt g18.symm)
            have ne_a11_a18 : a11 ≠ a18 := Nat.ne_of_lt (Nat.lt_of_lt_of_eq A11_q_16.lt g18.symm)
            have ne_a12_a18 : a12 ≠ a18 := Nat.ne_of_lt (Nat.lt_of_lt_of_eq V12_q_16.lt g18.symm)
            have fZ_q_18 : h0.size ≤ h18.size := (Nat.le_trans fZ_q_16 E18.1)
            have O0_q_18 : Old Z h0.size h18 := (O0_q_16.ext E18)
            have A7_q_18 : Exa Z h18 a7 "java/lang/String" := (A7_q_16.ext E18)
            have V8_q_18 : Arv Z h18 a8 k8 .char (1 : Int32) [(.int (nar .char ((p4 &&& (255 : Int32))).toUInt32.toUInt16.toUInt32.toInt32))] (.int (0 : Int32)) := (V8_q_16.ext E18)
            have A11_q_18 : Exa Z h18 a11 "java/lang/String" := (A11_q_16.ext E18)
            have V12_q_18 : Arv Z h18 a12 k12 .char (2 : Int32) [(.int (nar .char (((XT.ushr p4 (8 : Int32)) &&& (255 : Int32))).toUInt32.toUInt16.toUInt32.toInt32)), (.int (nar .char (((XT.ushr p4 (16 : Int32)) &&& (255 : Int32))).toUInt32.toUInt16.toUInt32.toInt32))] (.int (0 : Int32)) := (V12_q_16.ext E18)
            have F18_line : Fld Z h18 a18 "com/example/item_type_store/itemtypestore/TypeSystemDraft$DeploymentDraft" "line" "I" (.int (0 : Int32)) := D18 (Or.inr (hw _ (List.mem_of_getElem? (i := 99) rfl))) (ty := .int) (by decide)
            have F18_deployment : Fld Z h18 a18 "com/example/item_type_store/itemtypestore/TypeSystemDraft$DeploymentDraft" "deployment" "Lcom/example/item_type_store/itemtypestore/model/Deployment;" .null := D18 (Or.inr (hw _ (List.mem_of_getElem? (i := 101) rfl))) (ty := (.object "com/example/item_type_store/itemtypestore/model/Deployment")) (by decide)
            refine Go.st (T' := T18) (g' := (mkF m 140 #[.val (.int p0), .val (.int p1), .val (.int p2), .val (.int p3), .val (.int p4), .val (.int p5), .val (.int b11), .val (.int b24), .val (.int ((XT.ushr p0 (2 : Int32)) &&& (3 : Int32))), .val (.int b45), .val (.ref a7), .val (.ref a11), .val v126, .val .null, .unset, .unset] [(.ref a18)])) st18 ?_
            refine Go.st (T' := T18) (g' := (mkF m 141 #[.val (.int p0), .val (.int p1), .val (.int p2), .val (.int p3), .val (.int p4), .val (.int p5), .val (.int b11), .val (.int b24), .val (.int ((XT.ushr p0 (2 : Int32)) &&& (3 : Int32))), .val (.int b45), .val (.ref a7), .val (.ref a11), .val v126, .val .null, .unset, .unset] [(.ref a18), (.ref a18)])) (fun _ hr => XS.dup X18.here hx rfl (hb hby at_140) rfl rfl hr) ?_
            refine Go.st (T' := T18) (g' := (mkF m 142 #[.val (.int p0), .val (.int p1), .val (.int p2), .val (.int p3), .val (.int p4), .val (.int p5), .val (.int b11), .val (.int b24), .val (.int ((XT.ushr p0 (2 : Int32)) &&& (3 : Int32))), .val (.int b45), .val (.ref a7), .val (.ref a11), .val v126, .val .null, .unset, .unset] [(.int p2), (.ref a18), (.ref a18)])) (fun _ hr => XS.iloadN X18.here hx rfl (hb hby at_141) rfl hr) ?_
            refine Go.st (T' := T18) (g' := (mkF m 143 #[.val (.int p0), .val (.int p1), .val (.int p2), .val (.int p3), .val (.int p4), .val (.int p5), .val (.int b11), .val (.int b24), .val (.int ((XT.ushr p0 (2 : Int32)) &&& (3 : Int32))), .val (.int b45), .val (.ref a7), .val (.ref a11), .val v126, .val .null, .unset, .unset] [.null, (.int p2), (.ref a18), (.ref a18)])) (fun _ hr => XS.aconstNull X18.here hx rfl (hb hby at_142) hr) ?_
            refine Go.callC X18 hx hZ hown (W := 1) (y := (⟨"com/example/item_type_store/itemtypestore/TypeSystemDraft$DeploymentDraft", "<init>", "(ILcom/example/item_type_store/itemtypestore/model/Deployment;)V"⟩ : MethodName)) rfl (hw _ (List.mem_of_getElem? (i := 94) rfl)) (hw _ (List.mem_of_getElem? (i := 95) rfl)) (hw _ (List.mem_of_getElem? (i := 93) rfl)) (hw _ (List.mem_of_getElem? (i := 96) rfl)) (by decide) e18 (rm13 l Z a0 hw a18 p2 .null  rfl h18 h0.size n_a18 A18 F18_line F18_deployment) (by decide) (by decide) (by decide) (by decide) (g := (mkF m 143 #[.val (.int p0), .val (.int p1), .val (.int p2), .val (.int p3), .val (.int p4), .val (.int p5), .val (.int b11), .val (.int b24), .val (.int ((XT.ushr p0 (2 : Int32)) &&& (3 : Int32))), .val (.int b45), .val (.ref a7), .val (.ref a11), .val v126, .val .null, .unset, .unset] [.null, (.int p2), (.ref a18), (.ref a18)])) rfl (by rw [hml]; rfl) (argsL := [(.int p2), .null]) (rest := [(.ref a18)]) (lenOf pd_11 rfl) rfl (by show 2 * 0 + _ ≤ _; exact Nat.le_of_eq rfl) (hb hby at_143) (fun v19 T19 L19 X19 q19 => ?_)
            obtain ⟨h19, e19⟩ : ∃ z, T19.heap = z := ⟨_, rfl⟩
            rw [e19] at q19
            obtain ⟨rfl, N19q, K19, G19_line, G19_deployment⟩ := q19
            have N19 := Fr.app N16 N19q
            have fZ_q_19 : h0.size ≤ h19.size := (Nat.le_trans fZ_q_18 K19.1)
            have O0_q_19 : Old Z h0.size h19 := (O0_q_18.keep K19 (allS n_a18 all0))
            have A7_q_19 : Exa Z h19 a7 "java/lang/String" := (A7_q_18.keep K19)
            have V8_q_19 : Arv Z h19 a8 k8 .char (1 : Int32) [(.int (nar .char ((p4 &&& (255 : Int32))).toUInt32.toUInt16.toUInt32.toInt32))] (.int (0 : Int32)) := (V8_q_18.keep K19 (ninS ne_a8_a18 nin0))
            have A11_q_19 : Exa Z h19 a11 "java/lang/String" := (A11_q_18.keep K19)
            have V12_q_19 : Arv Z h19 a12 k12 .char (2 : Int32) [(.int (nar .char (((XT.ushr p4 (8 : Int32)) &&& (255 : Int32))).toUInt32.toUInt16.toUInt32.toInt32)), (.int (nar .char (((XT.ushr p4 (16 : Int32)) &&& (255 : Int32))).toUInt32.toUInt16.toUInt32.toInt32))] (.int (0 : Int32)) := (V12_q_18.keep K19 (ninS ne_a12_a18 nin0))
            have A18_q_19 : Exa Z h19 a18 "com/example/item_type_store/itemtypestore/TypeSystemDraft$DeploymentDraft" := (A18.keep K19)
            show Go p.tables e below (Fin s (fun v h L => v = some (.int 1) ∧ Fr h0.size L) room_1.cells room_1.slots) T19 (mkF m 146 #[.val (.int p0), .val (.int p1), .val (.int p2), .val (.int p3), .val (.int p4), .val (.int p5), .val (.int b11), .val (.int b24), .val (.int ((XT.ushr p0 (2 : Int32)) &&& (3 : Int32))), .val (.int b45), .val (.ref a7), .val (.ref a11), .val v126, .val .null, .unset, .unset] [(.ref a18)])
            refine Go.st (T' := T19) (g' := (mkF m 148 #[.val (.int p0), .val (.int p1), .val (.int p2), .val (.int p3), .val (.int p4), .val (.int p5), .val (.int b11), .val (.int b24), .val (.int ((XT.ushr p0 (2 : Int32)) &&& (3 : Int32))), .val (.int b45), .val (.ref a7), .val (.ref a11), .val v126, .val (.ref a18), .unset, .unset] [])) (fun _ hr => XS.astore X19.here hx rfl (hb hby at_146) rfl rfl (l' := #[.val (.int p0), .val (.int p1), .val (.int p2), .val (.int p3), .val (.int p4), .val (.int p5), .val (.int b11), .val (.int b24), .val (.int ((XT.ushr p0 (2 : Int32)) &&& (3 : Int32))), .val (.int b45), .val (.ref a7), .val (.ref a11), .val v126, .val (.ref a18), .unset, .unset]) rfl hr) ?_
            refine Go.st (T' := T19) (g' := (mkF m 188 #[.val (.int p0), .val (.int p1), .val (.int p2), .val (.int p3), .val (.int p4), .val (.int p5), .val (.int b11), .val (.int b24), .val (.int ((XT.ushr p0 (2 : Int32)) &&& (3 : Int32))), .val (.int b45), .val (.ref a7), .val (.ref a11), .val v126, .val (.ref a18), .unset, .unset] [])) (fun _ hr => XS.goto X19.here hx rfl (pc0 := 148) (pc' := 188) rfl (hb hby at_148) (by decide) (by decide) hr) ?_
            obtain ⟨T20, h20, X20, e20, E20, A20, D20, -, st20⟩ := newO X19 hx hZ hown (hw _ (List.mem_of_getElem? (i := 30) rfl)) (hw _ (List.mem_of_getElem? (i := 31) rfl)) (hw _ (List.mem_of_getElem? (i := 32) rfl)) e19 (g := (mkF m 188 #[.val (.int p0), .val (.int p1), .val (.int p2), .val (.int p3), .val (.int p4), .val (.int p5), .val (.int b11), .val (.int b24), .val (.int ((XT.ushr p0 (2 : Int32)) &&& (3 : Int32))), .val (.int b45), .val (.ref a7), .val (.ref a11), .val v126, .val (.ref a18), .unset, .unset] [])) rfl (hb hby at_188) (by decide) (by decide)
            obtain ⟨a20, g20⟩ : ∃ z, z = h19.size := ⟨_, rfl⟩
            rw [← g20] at A20 D20 st20
            have n_a20 : h0.size ≤ a20 := Nat.le_trans fZ_q_19 (Nat.le_of_eq g20.symm)
            have ne_a7_a20 : a7 ≠ a20 := Nat.ne_of_lt (Nat.lt_of_lt_of_eq A7_q_19.lt g20.symm)
            have ne_a8_a20 : a8 ≠ a20 := Nat.ne_of_lt (Nat.lt_of_lt_of_eq V8_q_19.lt g20.symm)
            have ne_a11_a20 : a11 ≠ a20 := Nat.ne_of_lt (Nat.lt_of_lt_of_eq A11_q_19.lt g20.symm)
            have ne_a12_a20 : a12 ≠ a20 := Nat.ne_of_lt (Nat.lt_of_lt_of_eq V12_q_19.lt g20.symm)
            have ne_a18_a20 : a18 ≠ a20 := Nat.ne_of_lt (Nat.lt_of_lt_of_eq A18_q_19.lt g20.symm)
            have fZ_q_20 : h0.size ≤ h20.size := (Nat.le_trans fZ_q_19 E20.1)
            have O0_q_20 : Old Z h0.size h20 := (O0_q_19.ext E20)
            have A7_q_20 : Exa Z h20 a7 "java/lang/String" := (A7_q_19.ext E20)
            have V8_q_20 : Arv Z h20 a8 k8 .char (1 : Int32) [(.int (nar .char ((p4 &&& (255 : Int32))).toUInt32.toUInt16.toUInt32.toInt32))] (.int (0 : Int32)) := (V8_q_19.ext E20)
            have A11_q_20 : Exa Z h20 a11 "java/lang/String" := (A11_q_19.ext E20)
            have V12_q_20 : Arv Z h20 a12 k12 .char (2 : Int32) [(.int (nar .char (((XT.ushr p4 (8 : Int32)) &&& (255 : Int32))).toUInt32.toUInt16.toUInt32.toInt32)), (.int (nar .char (((XT.ushr p4 (16 : Int32)) &&& (255 : Int32))).toUInt32.toUInt16.toUInt32.toInt32))] (.int (0 : Int32)) := (V12_q_19.ext E20)
            have A18_q_20 : Exa Z h20 a18 "com/example/item_type_store/itemtypestore/TypeSystemDraft$DeploymentDraft" := (A18_q_19.ext E20)
            have G19_line_q_20 : Fld Z h20 a18 "com/example/item_type_store/itemtypestore/TypeSystemDraft$DeploymentDraft" "line" "I" (.int p2) := (G19_line.ext E20)
            have G19_deployment_q_20 : Fld Z h20 a18 "com/example/item_type_store/itemtypestore/TypeSystemDraft$DeploymentDraft" "deployment" "Lcom/example/item_type_store/itemtypestore/model/Deployment;" .null := (G19_deployment.ext E20)
            have F20_file : Fld Z h20 a20 "com/example/item_type_store/itemtypestore/TypeSystemDraft$TypeDraft" "file" "Ljava/lang/String;" .null := D20 (Or.inr (hw _ (List.mem_of_getElem? (i := 67) rfl))) (ty := (.object "java/lang/String")) (by decide)
            have F20_line : Fld Z h20 a20 "com/example/item_type_store/itemtypestore/TypeSystemDraft$TypeDraft" "line" "I" (.int (0 : Int32)) := D20 (Or.inr (hw _ (List.mem_of_getElem? (i := 69) rfl))) (ty := .int) (by decide)
            have F20_code : Fld Z h20 a20 "com/example/item_type_store/itemtypestore/TypeSystemDraft$TypeDraft" "code" "Ljava/lang/String;" .null := D20 (Or.inr (hw _ (List.mem_of_getElem? (i := 71) rfl))) (ty := (.object "java/lang/String")) (by decide)
            have F20_supertype : Fld Z h20 a20 "com/example/item_type_store/itemtypestore/TypeSystemDraft$TypeDraft" "supertype" "Ljava/lang/String;" .null := D20 (Or.inr (hw _ (List.mem_of_getElem? (i := 73) rfl))) (ty := (.object "java/lang/String")) (by decide)
            have F20_direct : Fld Z h20 a20 "com/example/item_type_store/itemtypestore/TypeSystemDraft$TypeDraft" "direct" "Z" (.int (0 : Int32)) := D20 (Or.inr (hw _ (List.mem_of_getElem? (i := 75) rfl))) (ty := .boolean) (by decide)
            have F20_isAbstract : Fld Z h20 a20 "com/example/item_type_store/itemtypestore/TypeSystemDraft$TypeDraft" "isAbstract" "Z" (.int (0 : Int32)) := D20 (Or.inr (hw _ (List.mem_of_getElem? (i := 77) rfl))) (ty := .boolean) (by decide)
            have F20_deployment : Fld Z h20 a20 "com/example/item_type_store/itemtypestore/TypeSystemDraft$TypeDraft" "deployment" "Lcom/example/item_type_store/itemtypestore/TypeSystemDraft$DeploymentDraft;" .null := D20 (Or.inr (hw _ (List.mem_of_getElem? (i := 79) rfl))) (ty := (.object "com/example/item_type_store/itemtypestore/TypeSystemDraft$DeploymentDraft")) (by decide)
            have F20_attributes : Fld Z h20 a20 "com/example/item_type_store/itemtypestore/TypeSystemDraft$TypeDraft" "attributes" "Ljava/util/List;" .null := D20 (Or.inr (hw _ (List.mem_of_getElem? (i := 81) rfl))) (ty := (.object "java/util/List")) (by decide)
            have F20_indexes : Fld Z h20 a20 "com/example/item_type_store/itemtypestore/TypeSystemDraft$TypeDraft" "indexes" "Ljava/util/List;" .null := D20 (Or.inr (hw _ (List.mem_of_getElem? (i := 83) rfl))) (ty := (.object "java/util/List")) (by decide)
            have F20_customProperties : Fld Z h20 a20 "com/example/item_type_store/itemtypestore/TypeSystemDraft$TypeDraft" "customProperties" "Ljava/util/Map;" .null := D20 (Or.inr (hw _ (List.mem_of_getElem? (i := 85) rfl))) (ty := (.object "java/util/Map")) (by decide)
            refine Go.st (T' := T20) (g' := (mkF m 191 #[.val (.int p0), .val (.int p1), .val (.int p2), .val (.int p3), .val (.int p4), .val (.int p5), .val (.int b11), .val (.int b24), .val (.int ((XT.ushr p0 (2 : Int32)) &&& (3 : Int32))), .val (.int b45), .val (.ref a7), .val (.ref a11), .val v126, .val (.ref a18), .unset, .unset] [(.ref a20)])) st20 ?_
            refine Go.st (T' := T20) (g' := (mkF m 192 #[.val (.int p0), .val (.int p1), .val (.int p2), .val (.int p3), .val (.int p4), .val (.int p5), .val (.int b11), .val (.int b24), .val (.int ((XT.ushr p0 (2 : Int32)) &&& (3 : Int32))), .val (.int b45), .val (.ref a7), .val (.ref a11), .val v126, .val (.ref a18), .unset, .unset] [(.ref a20), (.ref a20)])) (fun _ hr => XS.dup X20.here hx rfl (hb hby at_191) rfl rfl hr) ?_
            refine Go.st (T' := T20) (g' := (mkF m 194 #[.val (.int p0), .val (.int p1), .val (.int p2), .val (.int p3), .val (.int p4), .val (.int p5), .val (.int b11), .val (.int b24), .val (.int ((XT.ushr p0 (2 : Int32)) &&& (3 : Int32))), .val (.int b45), .val (.ref a7), .val (.ref a11), .val v126, .val (.ref a18), .unset, .unset] [(.ref a7), (.ref a20), (.ref a20)])) (fun _ hr => XS.aload X20.here hx rfl (hb hby at_192) rfl rfl hr) ?_
            refine Go.st (T' := T20) (g' := (mkF m 195 #[.val (.int p0), .val (.int p1), .val (.int p2), .val (.int p3), .val (.int p4), .val (.int p5), .val (.int b11), .val (.int b24), .val (.int ((XT.ushr p0 (2 : Int32)) &&& (3 : Int32))), .val (.int b45), .val (.ref a7), .val (.ref a11), .val v126, .val (.ref a18), .unset, .unset] [(.int p1), (.ref a7), (.ref a20), (.ref a20)])) (fun _ hr => XS.iloadN X20.here hx rfl (hb hby at_194) rfl hr) ?_
            refine Go.st (T' := T20) (g' := (mkF m 197 #[.val (.int p0), .val (.int p1), .val (.int p2), .val (.int p3), .val (.int p4), .val (.int p5), .val (.int b11), .val (.int b24), .val (.int ((XT.ushr p0 (2 : Int32)) &&& (3 : Int32))), .val (.int b45), .val (.ref a7), .val (.ref a11), .val v126, .val (.ref a18), .unset, .unset] [(.ref a11), (.int p1), (.ref a7), (.ref a20), (.ref a20)])) (fun _ hr => XS.aload X20.here hx rfl (hb hby at_195) rfl rfl hr) ?_
            refine Go.st (T' := T20) (g' := (mkF m 199 #[.val (.int p0), .val (.int p1), .val (.int p2), .val (.int p3), .val (.int p4), .val (.int p5), .val (.int b11), .val (.int b24), .val (.int ((XT.ushr p0 (2 : Int32)) &&& (3 : Int32))), .val (.int b45), .val (.ref a7), .val (.ref a11), .val v126, .val (.ref a18), .unset, .unset] [v126, (.ref a11), (.int p1), (.ref a7), (.ref a20), (.ref a20)])) (fun _ hr => XS.aload X20.here hx rfl (hb hby at_197) rfl r_v126 hr) ?_
            refine Go.st (T' := T20) (g' := (mkF m 201 #[.val (.int p0), .val (.int p1), .val (.int p2), .val (.int p3), .val (.int p4), .val (.int p5), .val (.int b11), .val (.int b24), .val (.int ((XT.ushr p0 (2 : Int32)) &&& (3 : Int32))), .val (.int b45), .val (.ref a7), .val (.ref a11), .val v126, .val (.ref a18), .unset, .unset] [(.int b11), v126, (.ref a11), (.int p1), (.ref a7), (.ref a20), (.ref a20)])) (fun _ hr => XS.iload X20.here hx rfl (hb hby at_199) rfl hr) ?_
            refine Go.st (T' := T20) (g' := (mkF m 203 #[.val (.int p0), .val (.int p1), .val (.int p2), .val (.int p3), .val (.int p4), .val (.int p5), .val (.int b11), .val (.int b24), .val (.int ((XT.ushr p0 (2 : Int32)) &&& (3 : Int32))), .val (.int b45), .val (.ref a7), .val (.ref a11), .val v126, .val (.ref a18), .unset, .unset] [(.int b24), (.int b11), v126, (.ref a11), (.int p1), (.ref a7), (.ref a20), (.ref a20)])) (fun _ hr => XS.iload X20.here hx rfl (hb hby at_201) rfl hr) ?_
            refine Go.st (T' := T20) (g' := (mkF m 205 #[.val (.int p0), .val (.int p1), .val (.int p2), .val (.int p3), .val (.int p4), .val (.int p5), .val (.int b11), .val (.int b24), .val (.int ((XT.ushr p0 (2 : Int32)) &&& (3 : Int32))), .val (.int b45), .val (.ref a7), .val (.ref a11), .val v126, .val (.ref a18), .unset, .unset] [(.ref a18), (.int b24), (.int b11), v126, (.ref a11), (.int p1), (.ref a7), (.ref a20), (.ref a20)])) (fun _ hr => XS.aload X20.here hx rfl (hb hby at_203) rfl rfl hr) ?_
            obtain ⟨T21, h21, X21, e21, E21, A21, D21, -, st21⟩ := newO X20 hx hZ hown (hw _ (List.mem_of_getElem? (i := 33) rfl)) (hw _ (List.mem_of_getElem? (i := 34) rfl)) (hw _ (List.mem_of_getElem? (i := 35) rfl)) e20 (g := (mkF m 205 #[.val (.int p0), .val (.int p1), .val (.int p2), .val (.int p3), .val (.int p4), .val (.int p5), .val (.int b11), .val (.int b24), .val (.int ((XT.ushr p0 (2 : Int32)) &&& (3 : Int32))), .val (.int b45), .val (.ref a7), .val (.ref a11), .val v126, .val (.ref a18), .unset, .unset] [(.ref a18), (.int b24), (.int b11), v126, (.ref a11), (.int p1), (.ref a7), (.ref a20), (.ref a20)])) rfl (hb hby at_205) (by decide) (by decide)
            obtain ⟨a21, g21⟩ : ∃ z, z = h20.size := ⟨_, rfl⟩
            rw [← g21] at A21 D21 st21
            have n_a21 : h0.size ≤ a21 := Nat.le_trans fZ_q_20 (Nat.le_of_eq g21.symm)
            have ne_a7_a21 : a7 ≠ a21 := Nat.ne_of_lt (Nat.lt_of_lt_of_eq A7_q_20.lt g21.symm)
            have ne_a8_a21 : a8 ≠ a21 := Nat.ne_of_lt (Nat.lt_of_lt_of_eq V8_q_20.lt g21.symm)
            have ne_a11_a21 : a11 ≠ a21 := Nat.ne_of_lt (Nat.lt_of_lt_of_eq A11_q_20.lt g21.symm)
            have ne_a12_a21 : a12 ≠ a21 := Nat.ne_of_lt (Nat.lt_of_lt_of_eq V12_q_20.lt g21.symm)
            have ne_a18_a21 : a18 ≠ a21 := Nat.ne_of_lt (Nat.lt_of_lt_of_eq A18_q_20.lt g21.symm)
            have ne_a20_a21 : a20 ≠ a21 := Nat.ne_of_lt (Nat.lt_of_lt_of_eq A20.lt g21.symm)
            have fZ_q_21 : h0.size ≤ h21.size := (Nat.le_trans fZ_q_20 E21.1)
            have O0_q_21 : Old Z h0.size h21 := (O0_q_20.ext E21)
            have A7_q_21 : Exa Z h21 a7 "java/lang/String" := (A7_q_20.ext E21)
            have V8_q_21 : Arv Z h21 a8 k8 .char (1 : Int32) [(.int (nar .char ((p4 &&& (255 : Int32))).toUInt32.toUInt16.toUInt32.toInt32))] (.int (0 : Int32)) := (V8_q_20.ext E21)
            have A11_q_21 : Exa Z h21 a11 "java/lang/String" := (A11_q_20.ext E21)
            have V12_q_21 : Arv Z h21 a12 k12 .char (2 : Int32) [(.int (nar .char (((XT.ushr p4 (8 : Int32)) &&& (255 : Int32))).toUInt32.toUInt16.toUInt32.toInt32)), (.int (nar .char (((XT.ushr p4 (16 : Int32)) &&& (255 : Int32))).toUInt32.toUInt16.toUInt32.toInt32))] (.int (0 : Int32)) := (V12_q_20.ext E21)
            have A18_q_21 : Exa Z h21 a18 "com/example/item_type_store/itemtypestore/TypeSystemDraft$DeploymentDraft" := (A18_q_20.ext E21)
            have G19_line_q_21 : Fld Z h21 a18 "com/example/item_type_store/itemtypestore/TypeSystemDraft$DeploymentDraft" "line" "I" (.int p2) := (G19_line_q_20.ext E21)
            have G19_deployment_q_21 : Fld Z h21 a18 "com/example/item_type_store/itemtypestore/TypeSystemDraft$DeploymentDraft" "deployment" "Lcom/example/item_type_store/itemtypestore/model/Deployment;" .null := (G19_deployment_q_20.ext E21)
            have A20_q_21 : Exa Z h21 a20 "com/example/item_type_store/itemtypestore/TypeSystemDraft$TypeDraft" := (A20.ext E21)
            have F20_file_q_21 : Fld Z h21 a20 "com/example/item_type_store/itemtypestore/TypeSystemDraft$TypeDraft" "file" "Ljava/lang/String;" .null := (F20_file.ext E21)
            have F20_line_q_21 : Fld Z h21 a20 "com/example/item_type_store/itemtypestore/TypeSystemDraft$TypeDraft" "line" "I" (.int (0 : Int32)) := (F20_line.ext E21)
            have F20_code_q_21 : Fld Z h21 a20 "com/example/item_type_store/itemtypestore/TypeSystemDraft$TypeDraft" "code" "Ljava/lang/String;" .null := (F20_code.ext E21)
            have F20_supertype_q_21 : Fld Z h21 a20 "com/example/item_type_store/itemtypestore/TypeSystemDraft$TypeDraft" "supertype" "Ljava/lang/String;" .null := (F20_supertype.ext E21)
            have F20_direct_q_21 : Fld Z h21 a20 "com/example/item_type_store/itemtypestore/TypeSystemDraft$TypeDraft" "direct" "Z" (.int (0 : Int32)) := (F20_direct.ext E21)
            have F20_isAbstract_q_21 : Fld Z h21 a20 "com/example/item_type_store/itemtypestore/TypeSystemDraft$TypeDraft" "isAbstract" "Z" (.int (0 : Int32)) := (F20_isAbstract.ext E21)
            have F20_deployment_q_21 : Fld Z h21 a20 "com/example/item_type_store/itemtypestore/TypeSystemDraft$TypeDraft" "deployment" "Lcom/example/item_type_store/itemtypestore/TypeSystemDraft$DeploymentDraft;" .null := (F20_deployment.ext E21)
            have F20_attributes_q_21 : Fld Z h21 a20 "com/example/item_type_store/itemtypestore/TypeSystemDraft$TypeDraft" "attributes" "Ljava/util/List;" .null := (F20_attributes.ext E21)
            have F20_indexes_q_21 : Fld Z h21 a20 "com/example/item_type_store/itemtypestore/TypeSystemDraft$TypeDraft" "indexes" "Ljava/util/List;" .null := (F20_indexes.ext E21)
            have F20_customProperties_q_21 : Fld Z h21 a20 "com/example/item_type_store/itemtypestore/TypeSystemDraft$TypeDraft" "customProperties" "Ljava/util/Map;" .null := (F20_customProperties.ext E21)
            have F21_modCount : Fld Z h21 a21 "java/util/AbstractList" "modCount" "I" (.int (0 : Int32)) := D21 (Or.inl (hw _ (List.mem_of_getElem? (i := 53) rfl))) (ty := .int) (by decide)
            have F21_elementData : Fld Z h21 a21 "java/util/ArrayList" "elementData" "[Ljava/lang/Object;" .null := D21 (Or.inl (hw _ (List.mem_of_getElem? (i := 56) rfl))) (ty := (.array (.object "java/lang/Object"))) (by decide)
            refine Go.st (T' := T21) (g' := (mkF m 208 #[.val (.int p0), .val (.int p1), .val (.int p2), .val (.int p3), .val (.int p4), .val (.int p5), .val (.int b11), .val (.int b24), .val (.int ((XT.ushr p0 (2 : Int32)) &&& (3 : Int32))), .val (.int b45), .val (.ref a7), .val (.ref a11), .val v126, .val (.ref a18), .unset, .unset] [(.ref a21), (.ref a18), (.int b24), (.int b11), v126, (.ref a11), (.int p1), (.ref a7), (.ref a20), (.ref a20)])) st21 ?_
            refine Go.st (T' := T21) (g' := (mkF m 209 #[.val (.int p0), .val (.int p1), .val (.int p2), .val (.int p3), .val (.int p4), .val (.int p5), .val (.int b11), .val (.int b24), .val (.int ((XT.ushr p0 (2 : Int32)) &&& (3 : Int32))), .val (.int b45), .val (.ref a7), .val (.ref a11), .val v126, .val (.ref a18), .unset, .unset] [(.ref a21), (.ref a21), (.ref a18), (.int b24), (.int b11), v126, (.ref a11), (.int p1), (.ref a7), (.ref a20), (.ref a20)])) (fun _ hr => XS.dup X21.here hx rfl (hb hby at_208) rfl rfl hr) ?_
            refine Go.callC X21 hx hZ hown (W := 10) (y := (⟨"java/util/ArrayList", "<init>", "()V"⟩ : MethodName)) rfl (hw _ (List.mem_of_getElem? (i := 36) rfl)) (hw _ (List.mem_of_getElem? (i := 37) rfl)) (hw _ (List.mem_of_getElem? (i := 35) rfl)) (hw _ (List.mem_of_getElem? (i := 38) rfl)) (by decide) e21 (rm7 l Z a0 hw a21 dc h21 rdc h0.size n_a21 fZ_q_21 O0_q_21 A21 F21_modCount F21_elementData D0) (by decide) (by decide) (by decide) (by decide) (g := (mkF m 209 #[.val (.int p0), .val (.int p1), .val (.int p2), .val (.int p3), .val (.int p4), .val (.int p5), .val (.int b11), .val (.int b24), .val (.int ((XT.ushr p0 (2 : Int32)) &&& (3 : Int32))), .val (.int b45), .val (.ref a7), .val (.ref a11), .val v126, .val (.ref a18), .unset, .unset] [(.ref a21), (.ref a21), (.ref a18), (.int b24), (.int b11), v126, (.ref a11), (.int p1), (.ref a7), (.ref a20), (.ref a20)])) rfl (by rw [hml]; rfl) (argsL := []) (rest := [(.ref a21), (.ref a18), (.int b24), (.int b11), v126, (.ref a11), (.int p1), (.ref a7), (.ref a20), (.ref a20)]) (lenOf pd_3 rfl) rfl (by simp only [List.map_cons, XT.cat1 r_v126]; exact Nat.le_of_eq rfl) (hb hby at_209) (fun v22 T22 L22 X22 q22 => ?_)
            obtain ⟨h22, e22⟩ : ∃ z, T22.heap = z := ⟨_, rfl⟩
            rw [e22] at q22
            obtain ⟨rfl, N22q, K22⟩ := q22
            have N22 := Fr.app N19 N22q
            have fZ_q_22 : h0.size ≤ h22.size := (Nat.le_trans fZ_q_21 K22.1)
            have O0_q_22 : Old Z h0.size h22 := (O0_q_21.keep K22 (allS n_a21 all0))
            have A7_q_22 : Exa Z h22 a7 "java/lang/String" := (A7_q_21.keep K22)
            have V8_q_22 : Arv Z h22 a8 k8 .char (1 : Int32) [(.int (nar .char ((p4 &&& (255 : Int32))).toUInt32.toUInt16.toUInt32.toInt32))] (.int (0 : Int32)) := (V8_q_21.keep K22 (ninS ne_a8_a21 nin0))
            have A11_q_22 : Exa Z h22 a11 "java/lang/String" := (A11_q_21.keep K22)
            have V12_q_22 : Arv Z h22 a12 k12 .char (2 : Int32) [(.int (nar .char (((XT.ushr p4 (8 : Int32)) &&& (255 : Int32))).toUInt32.toUInt16.toUInt32.toInt32)), (.int (nar .char (((XT.ushr p4 (16 : Int32)) &&& (255 : Int32))).toUInt32.toUInt16.toUInt32.toInt32))] (.int (0 : Int32)) := (V12_q_21.keep K22 (ninS ne_a12_a21 nin0))
            have A18_q_22 : Exa Z h22 a18 "com/example/item_type_store/itemtypestore/TypeSystemDraft$DeploymentDraft" := (A18_q_21.keep K22)
            have G19_line_q_22 : Fld Z h22 a18 "com/example/item_type_store/itemtypestore/TypeSystemDraft$DeploymentDraft" "line" "I" (.int p2) := (G19_line_q_21.keep K22 (ninS ne_a18_a21 nin0))
            have G19_deployment_q_22 : Fld Z h22 a18 "com/example/item_type_store/itemtypestore/TypeSystemDraft$DeploymentDraft" "deployment" "Lcom/example/item_type_store/itemtypestore/model/Deployment;" .null := (G19_deployment_q_21.keep K22 (ninS ne_a18_a21 nin0))
            have A20_q_22 : Exa Z h22 a20 "com/example/item_type_store/itemtypestore/TypeSystemDraft$TypeDraft" := (A20_q_21.keep K22)
            have F20_file_q_22 : Fld Z h22 a20 "com/example/item_type_store/itemtypestore/TypeSystemDraft$TypeDraft" "file" "Ljava/lang/String;" .null := (F20_file_q_21.keep K22 (ninS ne_a20_a21 nin0))
            have F20_line_q_22 : Fld Z h22 a20 "com/example/item_type_store/itemtypestore/TypeSystemDraft$TypeDraft" "line" "I" (.int (0 : Int32)) := (F20_line_q_21.keep K22 (ninS ne_a20_a21 nin0))
            have F20_code_q_22 : Fld Z h22 a20 "com/example/item_type_store/itemtypestore/TypeSystemDraft$TypeDraft" "code" "Ljava/lang/String;" .null := (F20_code_q_21.keep K22 (ninS ne_a20_a21 nin0))
            have F20_supertype_q_22 : Fld Z h22 a20 "com/example/item_type_store/itemtypestore/TypeSystemDraft$TypeDraft" "supertype" "Ljava/lang/String;" .null := (F20_supertype_q_21.keep K22 (ninS ne_a20_a21 nin0))
            have F20_direct_q_22 : Fld Z h22 a20 "com/example/item_type_store/itemtypestore/TypeSystemDraft$TypeDraft" "direct" "Z" (.int (0 : Int32)) := (F20_direct_q_21.keep K22 (ninS ne_a20_a21 nin0))
            have F20_isAbstract_q_22 : Fld Z h22 a20 "com/example/item_type_store/itemtypestore/TypeSystemDraft$TypeDraft" "isAbstract" "Z" (.int (0 : Int32)) := (F20_isAbstract_q_21.keep K22 (ninS ne_a20_a21 nin0))
            have F20_deployment_q_22 : Fld Z h22 a20 "com/example/item_type_store/itemtypestore/TypeSystemDraft$TypeDraft" "deployment" "Lcom/example/item_type_store/itemtypestore/TypeSystemDraft$DeploymentDraft;" .null := (F20_deployment_q_21.keep K22 (ninS ne_a20_a21 nin0))
            have F20_attributes_q_22 : Fld Z h22 a20 "com/example/item_type_store/itemtypestore/TypeSystemDraft$TypeDraft" "attributes" "Ljava/util/List;" .null := (F20_attributes_q_21.keep K22 (ninS ne_a20_a21 nin0))
            have F20_indexes_q_22 : Fld Z h22 a20 "com/example/item_type_store/itemtypestore/TypeSystemDraft$TypeDraft" "indexes" "Ljava/util/List;" .null := (F20_indexes_q_21.keep K22 (ninS ne_a20_a21 nin0))
            have F20_customProperties_q_22 : Fld Z h22 a20 "com/example/item_type_store/itemtypestore/TypeSystemDraft$TypeDraft" "customProperties" "Ljava/util/Map;" .null := (F20_customProperties_q_21.keep K22 (ninS ne_a20_a21 nin0))
            have A21_q_22 : Exa Z h22 a21 "java/util/ArrayList" := (A21.keep K22)
            show Go p.tables e below (Fin s (fun v h L => v = some (.int 1) ∧ Fr h0.size L) room_1.cells room_1.slots) T22 (mkF m 212 #[.val (.int p0), .val (.int p1), .val (.int p2), .val (.int p3), .val (.int p4), .val (.int p5), .val (.int b11), .val (.int b24), .val (.int ((XT.ushr p0 (2 : Int32)) &&& (3 : Int32))), .val (.int b45), .val (.ref a7), .val (.ref a11), .val v126, .val (.ref a18), .unset, .unset] [(.ref a21), (.ref a18), (.int b24), (.int b11), v126, (.ref a11), (.int p1), (.ref a7), (.ref a20), (.ref a20)])
            obtain ⟨T23, h23, X23, e23, E23, A23, D23, -, st23⟩ := newO X22 hx hZ hown (hw _ (List.mem_of_getElem? (i := 33) rfl)) (hw _ (List.mem_of_getElem? (i := 34) rfl)) (hw _ (List.mem_of_getElem? (i := 35) rfl)) e22 (g := (mkF m 212 #[.val (.int p0), .val (.int p1), .val (.int p2), .val (.int p3), .val (.int p4), .val (.int p5), .val (.int b11), .val (.int b24), .val (.int ((XT.ushr p0 (2 : Int32)) &&& (3 : Int32))), .val (.int b45), .val (.ref a7), .val (.ref a11), .val v126, .val (.ref a18), .unset, .unset] [(.ref a21), (.ref a18), (.int b24), (.int b11), v126, (.ref a11), (.int p1), (.ref a7), (.ref a20), (.ref a20)])) rfl (hb hby at_212) (by decide) (by decide)
            obtain ⟨a23, g23⟩ : ∃ z, z = h22.size := ⟨_, rfl⟩
            rw [← g23] at A23 D23 st23
            have n_a23 : h0.size ≤ a23 := Nat.le_trans fZ_q_22 (Nat.le_of_eq g23.symm)
            have ne_a7_a23 : a7 ≠ a23 := Nat.ne_of_lt (Nat.lt_of_lt_of_eq A7_q_22.lt g23.symm)
            have ne_a8_a23 : a8 ≠ a23 := Nat.ne_of_lt (Nat.lt_of_lt_of_eq V8_q_22.lt g23.symm)
            have ne_a11_a23 : a11 ≠ a23 := Nat.ne_of_lt (Nat.lt_of_lt_of_eq A11_q_22.lt g23.symm)
            have ne_a12_a23 : a12 ≠ a23 := Nat.ne_of_lt (Nat.lt_of_lt_of_eq V12_q_22.lt g23.symm)
            have ne_a18_a23 : a18 ≠ a23 := Nat.ne_of_lt (Nat.lt_of_lt_of_eq A18_q_22.lt g23.symm)
            have ne_a20_a23 : a20 ≠ a23 := Nat.ne_of_lt (Nat.lt_of_lt_of_eq A20_q_22.lt g23.symm)
            have ne_a21_a23 : a21 ≠ a23 := Nat.ne_of_lt (Nat.lt_of_lt_of_eq A21_q_22.lt g23.symm)
            have fZ_q_23 : h0.size ≤ h23.size := (Nat.le_trans fZ_q_22 E23.1)
            have O0_q_23 : Old Z h0.size h23 := (O0_q_22.ext E23)
            have A7_q_23 : Exa Z h23 a7 "java/lang/String" := (A7_q_22.ext E23)
            have V8_q_23 : Arv Z h23 a8 k8 .char (1 : Int32) [(.int (nar .char ((p4 &&& (255 : Int32))).toUInt32.toUInt16.toUInt32.toInt32))] (.int (0 : Int32)) := (V8_q_22.ext E23)
            have A11_q_23 : Exa Z h23 a11 "java/lang/String" := (A11_q_22.ext E23)
            have V12_q_23 : Arv Z h23 a12 k12 .char (2 : Int32) [(.int (nar .char (((XT.ushr p4 (8 : Int32)) &&& (255 : Int32))).toUInt32.toUInt16.toUInt32.toInt32)), (.int (nar .char (((XT.ushr p4 (16 : Int32)) &&& (255 : Int32))).toUInt32.toUInt16.toUInt32.toInt32))] (.int (0 : Int32)) := (V12_q_22.ext E23)
            have A18_q_23 : Exa Z h23 a18 "com/example/item_type_store/itemtypestore/TypeSystemDraft$DeploymentDraft" := (A18_q_22.ext E23)
            have G19_line_q_23 : Fld Z h23 a18 "com/example/item_type_store/itemtypestore/TypeSystemDraft$DeploymentDraft" "line" "I" (.int p2) := (G19_line_q_22.ext E23)
            have G19_deployment_q_23 : Fld Z h23 a18 "com/example/item_type_store/itemtypestore/TypeSystemDraft$DeploymentDraft" "deployment" "Lcom/example/item_type_store/itemtypestore/model/Deployment;" .null := (G19_deployment_q_22.ext E23)
            have A20_q_23 : Exa Z h23 a20 "com/example/item_type_store/itemtypestore/TypeSystemDraft$TypeDraft" := (A20_q_22.ext E23)
            have F20_file_q_23 : Fld Z h23 a20 "com/example/item_type_store/itemtypestore/TypeSystemDraft$TypeDraft" "file" "Ljava/lang/String;" .null := (F20_file_q_22.ext E23)
            have F20_line_q_23 : Fld Z h23 a20 "com/example/item_type_store/itemtypestore/TypeSystemDraft$TypeDraft" "line" "I" (.int (0 : Int32)) := (F20_line_q_22.ext E23)
            have F20_code_q_23 : Fld Z h23 a20 "com/example/item_type_store/itemtypestore/TypeSystemDraft$TypeDraft" "code" "Ljava/lang/String;" .null := (F20_code_q_22.ext E23)
            have F20_supertype_q_23 : Fld Z h23 a20 "com/example/item_type_store/itemtypestore/TypeSystemDraft$TypeDraft" "supertype" "Ljava/lang/String;" .null := (F20_supertype_q_22.ext E23)
            have F20_direct_q_23 : Fld Z h23 a20 "com/example/item_type_store/itemtypestore/TypeSystemDraft$TypeDraft" "direct" "Z" (.int (0 : Int32)) := (F20_direct_q_22.ext E23)
            have F20_isAbstract_q_23 : Fld Z h23 a20 "com/example/item_type_store/itemtypestore/TypeSystemDraft$TypeDraft" "isAbstract" "Z" (.int (0 : Int32)) := (F20_isAbstract_q_22.ext E23)
            have F20_deployment_q_23 : Fld Z h23 a20 "com/example/item_type_store/itemtypestore/TypeSystemDraft$TypeDraft" "deployment" "Lcom/example/item_type_store/itemtypestore/TypeSystemDraft$DeploymentDraft;" .null := (F20_deployment_q_22.ext E23)
            have F20_attributes_q_23 : Fld Z h23 a20 "com/example/item_type_store/itemtypestore/TypeSystemDraft$TypeDraft" "attributes" "Ljava/util/List;" .null := (F20_attributes_q_22.ext E23)
            have F20_indexes_q_23 : Fld Z h23 a20 "com/example/item_type_store/itemtypestore/TypeSystemDraft$TypeDraft" "indexes" "Ljava/util/List;" .null := (F20_indexes_q_22.ext E23)
            have F20_customProperties_q_23 : Fld Z h23 a20 "com/example/item_type_store/itemtypestore/TypeSystemDraft$TypeDraft" "customProperties" "Ljava/util/Map;" .null := (F20_customProperties_q_22.ext E23)
            have A21_q_23 : Exa Z h23 a21 "java/util/ArrayList" := (A21_q_22.ext E23)
            have F23_modCount : Fld Z h23 a23 "java/util/AbstractList" "modCount" "I" (.int (0 : Int32)) := D23 (Or.inl (hw _ (List.mem_of_getElem? (i := 53) rfl))) (ty := .int) (by decide)
            have F23_elementData : Fld Z h23 a23 "java/util/ArrayList" "elementData" "[Ljava/lang/Object;" .null := D23 (Or.inl (hw _ (List.mem_of_getElem? (i := 56) rfl))) (ty := (.array (.object "java/lang/Object"))) (by decide)
            refine Go.st (T' := T23) (g' := (mkF m 215 #[.val (.int p0), .val (.int p1), .val (.int p2), .val (.int p3), .val (.int p4), .val (.int p5), .val (.int b11), .val (.int b24), .val (.int ((XT.ushr p0 (2 : Int32)) &&& (3 : Int32))), .val (.int b45), .val (.ref a7), .val (.ref a11), .val v126, .val (.ref a18), .unset, .unset] [(.ref a23), (.ref a21), (.ref a18), (.int b24), (.int b11), v126, (.ref a11), (.int p1), (.ref a7), (.ref a20), (.ref a20)])) st23 ?_
            refine Go.st (T' := T23) (g' := (mkF m 216 #[.val (.int p0), .val (.int p1), .val (.int p2), .val (.int p3), .val (.int p4), .val (.int p5), .val (.int b11), .val (.int b24), .val (.int ((XT.ushr p0 (2 : Int32)) &&& (3 : Int32))), .val (.int b45), .val (.ref a7), .val (.ref a11), .val v126, .val (.ref a18), .unset, .unset] [(.ref a23), (.ref a23), (.ref a21), (.ref a18), (.int b24), (.int b11), v126, (.ref a11), (.int p1), (.ref a7), (.ref a20), (.ref a20)])) (fun _ hr => XS.dup X23.here hx rfl (hb hby at_215) rfl rfl hr) ?_
            refine Go.callC X23 hx hZ hown (W := 11) (y := (⟨"java/util/ArrayList", "<init>", "()V"⟩ : MethodName)) rfl (hw _ (List.mem_of_getElem? (i := 36) rfl)) (hw _ (List.mem_of_getElem? (i := 37) rfl)) (hw _ (List.mem_of_getElem? (i := 35) rfl)) (hw _ (List.mem_of_getElem? (i := 38) rfl)) (by decide) e23 (rm7 l Z a0 hw a23 dc h23 rdc h0.size n_a23 fZ_q_23 O0_q_23 A23 F23_modCount F23_elementData D0) (by decide) (by decide) (by decide) (by decide) (g := (mkF m 216 #[.val (.int p0), .val (.int p1), .val (.int p2), .val (.int p3), .val (.int p4), .val (.int p5), .val (.int b11), .val (.int b24), .val (.int ((XT.ushr p0 (2 : Int32)) &&& (3 : Int32))), .val (.int b45), .val (.ref a7), .val (.ref a11), .val v126, .val (.ref a18), .unset, .unset] [(.ref a23), (.ref a23), (.ref a21), (.ref a18), (.int b24), (.int b11), v126, (.ref a11), (.int p1), (.ref a7), (.ref a20), (.ref a20)])) rfl (by rw [hml]; rfl) (argsL := []) (rest := [(.ref a23), (.ref a21), (.ref a18), (.int b24), (.int b11), v126, (.ref a11), (.int p1), (.ref a7), (.ref a20), (.ref a20)]) (lenOf pd_3 rfl) rfl (by simp only [List.map_cons, XT.cat1 r_v126]; exact Nat.le_of_eq rfl) (hb hby at_216) (fun v24 T24 L24 X24 q24 => ?_)
            obtain ⟨h24, e24⟩ : ∃ z, T24.heap = z := ⟨_, rfl⟩
            rw [e24] at q24
            obtain ⟨rfl, N24q, K24⟩ := q24
            have N24 := Fr.app N22 N24q
            have fZ_q_24 : h0.size ≤ h24.size := (Nat.le_trans fZ_q_23 K24.1)
            have O0_q_24 : Old Z h0.size h24 := (O0_q_23.keep K24 (allS n_a23 all0))
            have A7_q_24 : Exa Z h24 a7 "java/lang/String" := (A7_q_23.keep K24)
            have V8_q_24 : Arv Z h24 a8 k8 .char (1 : Int32) [(.int (nar .char ((p4 &&& (255 : Int32))).toUInt32.toUInt16.toUInt32.toInt32))] (.int (0 : Int32)) := (V8_q_23.keep K24 (ninS ne_a8_a23 nin0))
            have A11_q_24 : Exa Z h24 a11 "java/lang/String" := (A11_q_23.keep K24)
            have V12_q_24 : Arv Z h24 a12 k12 .char (2 : Int32) [(.int (nar .char (((XT.ushr p4 (8 : Int32)) &&& (255 : Int32))).toUInt32.toUInt16.toUInt32.toInt32)), (.int (nar .char (((XT.ushr p4 (16 : Int32)) &&& (255 : Int32))).toUInt32.toUInt16.toUInt32.toInt32))] (.int (0 : Int32)) := (V12_q_23.keep K24 (ninS ne_a12_a23 nin0))
            have A18_q_24 : Exa Z h24 a18 "com/example/item_type_store/itemtypestore/TypeSystemDraft$DeploymentDraft" := (A18_q_23.keep K24)
            have G19_line_q_24 : Fld Z h24 a18 "com/example/item_type_store/itemtypestore/TypeSystemDraft$DeploymentDraft" "line" "I" (.int p2) := (G19_line_q_23.keep K24 (ninS ne_a18_a23 nin0))
            have G19_deployment_q_24 : Fld Z h24 a18 "com/example/item_type_store/itemtypestore/TypeSystemDraft$DeploymentDraft" "deployment" "Lcom/example/item_type_store/itemtypestore/model/Deployment;" .null := (G19_deployment_q_23.keep K24 (ninS ne_a18_a23 nin0))
            have A20_q_24 : Exa Z h24 a20 "com/example/item_type_store/itemtypestore/TypeSystemDraft$TypeDraft" := (A20_q_23.keep K24)
            have F20_file_q_24 : Fld Z h24 a20 "com/example/item_type_store/itemtypestore/TypeSystemDraft$TypeDraft" "file" "Ljava/lang/String;" .null := (F20_file_q_23.keep K24 (ninS ne_a20_a23 nin0))
            have F20_line_q_24 : Fld Z h24 a20 "com/example/item_type_store/itemtypestore/TypeSystemDraft$TypeDraft" "line" "I" (.int (0 : Int32)) := (F20_line_q_23.keep K24 (ninS ne_a20_a23 nin0))
            have F20_code_q_24 : Fld Z h24 a20 "com/example/item_type_store/itemtypestore/TypeSystemDraft$TypeDraft" "code" "Ljava/lang/String;" .null := (F20_code_q_23.keep K24 (ninS ne_a20_a23 nin0))
            have F20_supertype_q_24 : Fld Z h24 a20 "com/example/item_type_store/itemtypestore/TypeSystemDraft$TypeDraft" "supertype" "Ljava/lang/String;" .null := (F20_supertype_q_23.keep K24 (ninS ne_a20_a23 nin0))
            have F20_direct_q_24 : Fld Z h24 a20 "com/example/item_type_store/itemtypestore/TypeSystemDraft$TypeDraft" "direct" "Z" (.int (0 : Int32)) := (F20_direct_q_23.keep K24 (ninS ne_a20_a23 nin0))
            have F20_isAbstract_q_24 : Fld Z h24 a20 "com/example/item_type_store/itemtypestore/TypeSystemDraft$TypeDraft" "isAbstract" "Z" (.int (0 : Int32)) := (F20_isAbstract_q_23.keep K24 (ninS ne_a20_a23 nin0))
            have F20_deployment_q_24 : Fld Z h24 a20 "com/example/item_type_store/itemtypestore/TypeSystemDraft$TypeDraft" "deployment" "Lcom/example/item_type_store/itemtypestore/TypeSystemDraft$DeploymentDraft;" .null := (F20_deployment_q_23.keep K24 (ninS ne_a20_a23 nin0))
            have F20_attributes_q_24 : Fld Z h24 a20 "com/example/item_type_store/itemtypestore/TypeSystemDraft$TypeDraft" "attributes" "Ljava/util/List;" .null := (F20_attributes_q_23.keep K24 (ninS ne_a20_a23 nin0))
            have F20_indexes_q_24 : Fld Z h24 a20 "com/example/item_type_store/itemtypestore/TypeSystemDraft$TypeDraft" "indexes" "Ljava/util/List;" .null := (F20_indexes_q_23.keep K24 (ninS ne_a20_a23 nin0))
            have F20_customProperties_q_24 : Fld Z h24 a20 "com/example/item_type_store/itemtypestore/TypeSystemDraft$TypeDraft" "customProperties" "Ljava/util/Map;" .null := (F20_customProperties_q_23.keep K24 (ninS ne_a20_a23 nin0))
            have A21_q_24 : Exa Z h24 a21 "java/util/ArrayList" := (A21_q_23.keep K24)
            have A23_q_24 : Exa Z h24 a23 "java/util/ArrayList" := (A23.keep K24)
            show Go p.tables e below (Fin s (fun v h L => v = some (.int 1) ∧ Fr h0.size L) room_1.cells room_1.slots) T24 (mkF m 219 #[.val (.int p0), .val (.int p1), .val (.int p2), .val (.int p3), .val (.int p4), .val (.int p5), .val (.int b11), .val (.int b24), .val (.int ((XT.ushr p0 (2 : Int32)) &&& (3 : Int32))), .val (.int b45), .val (.ref a7), .val (.ref a11), .val v126, .val (.ref a18), .unset, .unset] [(.ref a23), (.ref a21), (.ref a18), (.int b24), (.int b11), v126, (.ref a11), (.int p1), (.ref a7), (.ref a20), (.ref a20)])
            refine Go.st (T' := T24) (g' := (mkF m 220 #[.val (.int p0), .val (.int p1), .val (.int p2), .val (.int p3), .val (.int p4), .val (.int p5), .val (.int b11), .val (.int b24), .val (.int ((XT.ushr p0 (2 : Int32)) &&& (3 : Int32))), .val (.int b45), .val (.ref a7), .val (.ref a11), .val v126, .val (.ref a18), .unset, .unset] [.null, (.ref a23), (.ref a21), (.ref a18), (.int b24), (.int b11), v126, (.ref a11), (.int p1), (.ref a7), (.ref a20), (.ref a20)])) (fun _ hr => XS.aconstNull X24.here hx rfl (hb hby at_219) hr) ?_
            refine Go.callC X24 hx hZ hown (W := 1) (y := (⟨"com/example/item_type_store/itemtypestore/TypeSystemDraft$TypeDraft", "<init>", "(Ljava/lang/String;ILjava/lang/String;Ljava/lang/String;ZZLcom/example/item_type_store/itemtypestore/TypeSystemDraft$DeploymentDraft;Ljava/util/List;Ljava/util/List;Ljava/util/Map;)V"⟩ : MethodName)) rfl (hw _ (List.mem_of_getElem? (i := 57) rfl)) (hw _ (List.mem_of_getElem? (i := 58) rfl)) (hw _ (List.mem_of_getElem? (i := 32) rfl)) (hw _ (List.mem_of_getElem? (i := 59) rfl)) (by decide) e24 (rm10 l Z a0 hw a20 (.ref a7) p1 (.ref a11) v126 b11 b24 (.ref a18) (.ref a21) (.ref a23) .null  rfl rfl r_v126 rfl rfl rfl rfl h24 h0.size n_a20 A20_q_24 F20_file_q_24 F20_line_q_24 F20_code_q_24 F20_supertype_q_24 F20_direct_q_24 F20_isAbstract_q_24 F20_deployment_q_24 F20_attributes_q_24 F20_indexes_q_24 F20_customProperties_q_24) (by decide) (by decide) (by decide) (by decide) (g := (mkF m 220 #[.val (.int p0), .val (.int p1), .val (.int p2), .val (.int p3), .val (.int p4), .val (.int p5), .val (.int b11), .val (.int b24), .val (.int ((XT.ushr p0 (2 : Int32)) &&& (3 : Int32))), .val (.int b45), .val (.ref a7), .val (.ref a11), .val v126, .val (.ref a18), .unset, .unset] [.null, (.ref a23), (.ref a21), (.ref a18), (.int b24), (.int b11), v126, (.ref a11), (.int p1), (.ref a7), (.ref a20), (.ref a20)])) rfl (by rw [hml]; rfl) (argsL := [(.ref a7), (.int p1), (.ref a11), v126, (.int b11), (.int b24), (.ref a18), (.ref a21), (.ref a23), .null]) (rest := [(.ref a20)]) (lenOf pd_10 rfl) rfl (by show 2 * 0 + _ ≤ _; exact Nat.le_of_eq rfl) (hb hby at_220) (fun v25 T25 L25 X25 q25 => ?_)
            obtain ⟨h25, e25⟩ : ∃ z, T25.heap = z := ⟨_, rfl⟩
            rw [e25] at q25
            obtain ⟨rfl, N25q, K25, G25_file, G25_line, G25_code, G25_supertype, G25_direct, G25_isAbstract, G25_deployment, G25_attributes, G25_indexes, G25_customProperties⟩ := q25
            have N25 := Fr.app N24 N25q
            have fZ_q_25 : h0.size ≤ h25.size := (Nat.le_trans fZ_q_24 K25.1)
            have O0_q_25 : Old Z h0.size h25 := (O0_q_24.keep K25 (allS n_a20 all0))
            have A7_q_25 : Exa Z h25 a7 "java/lang/String" := (A7_q_24.keep K25)
            have V8_q_25 : Arv Z h25 a8 k8 .char (1 : Int32) [(.int (nar .char ((p4 &&& (255 : Int32))).toUInt32.toUInt16.toUInt32.toInt32))] (.int (0 : Int32)) := (V8_q_24.keep K25 (ninS ne_a8_a20 nin0))
            have A11_q_25 : Exa Z h25 a11 "java/lang/String" := (A11_q_24.keep K25)
            have V12_q_25 : Arv Z h25 a12 k12 .char (2 : Int32) [(.int (nar .char (((XT.ushr p4 (8 : Int32)) &&& (255 : Int32))).toUInt32.toUInt16.toUInt32.toInt32)), (.int (nar .char (((XT.ushr p4 (16 : Int32)) &&& (255 : Int32))).toUInt32.toUInt16.toUInt32.toInt32))] (.int (0 : Int32)) := (V12_q_24.keep K25 (ninS ne_a12_a20 nin0))
            have A18_q_25 : Exa Z h25 a18 "com/example/item_type_store/itemtypestore/TypeSystemDraft$DeploymentDraft" := (A18_q_24.keep K25)
            have G19_line_q_25 : Fld Z h25 a18 "com/example/item_type_store/itemtypestore/TypeSystemDraft$DeploymentDraft" "line" "I" (.int p2) := (G19_line_q_24.keep K25 (ninS ne_a18_a20 nin0))
            have G19_deployment_q_25 : Fld Z h25 a18 "com/example/item_type_store/itemtypestore/TypeSystemDraft$DeploymentDraft" "deployment" "Lcom/example/item_type_store/itemtypestore/model/Deployment;" .null := (G19_deployment_q_24.keep K25 (ninS ne_a18_a20 nin0))
            have A20_q_25 : Exa Z h25 a20 "com/example/item_type_store/itemtypestore/TypeSystemDraft$TypeDraft" := (A20_q_24.keep K25)
            have A21_q_25 : Exa Z h25 a21 "java/util/ArrayList" := (A21_q_24.keep K25)
            have A23_q_25 : Exa Z h25 a23 "java/util/ArrayList" := (A23_q_24.keep K25)
            show Go p.tables e below (Fin s (fun v h L => v = some (.int 1) ∧ Fr h0.size L) room_1.cells room_1.slots) T25 (mkF m 223 #[.val (.int p0), .val (.int p1), .val (.int p2), .val (.int p3), .val (.int p4), .val (.int p5), .val (.int b11), .val (.int b24), .val (.int ((XT.ushr p0 (2 : Int32)) &&& (3 : Int32))), .val (.int b45), .val (.ref a7), .val (.ref a11), .val v126, .val (.ref a18), .unset, .unset] [(.ref a20)])
            refine Go.st (T' := T25) (g' := (mkF m 225 #[.val (.int p0), .val (.int p1), .val (.int p2), .val (.int p3), .val (.int p4), .val (.int p5), .val (.int b11), .val (.int b24), .val (.int ((XT.ushr p0 (2 : Int32)) &&& (3 : Int32))), .val (.int b45), .val (.ref a7), .val (.ref a11), .val v126, .val (.ref a18), .val (.ref a20), .unset] [])) (fun _ hr => XS.astore X25.here hx rfl (hb hby at_223) rfl rfl (l' := #[.val (.int p0), .val (.int p1), .val (.int p2), .val (.int p3), .val (.int p4), .val (.int p5), .val (.int b11), .val (.int b24), .val (.int ((XT.ushr p0 (2 : Int32)) &&& (3 : Int32))), .val (.int b45), .val (.ref a7), .val (.ref a11), .val v126, .val (.ref a18), .val (.ref a20), .unset]) rfl hr) ?_
            refine Go.st (T' := T25) (g' := (mkF m 227 #[.val (.int p0), .val (.int p1), .val (.int p2), .val (.int p3), .val (.int p4), .val (.int p5), .val (.int b11), .val (.int b24), .val (.int ((XT.ushr p0 (2 : Int32)) &&& (3 : Int32))), .val (.int b45), .val (.ref a7), .val (.ref a11), .val v126, .val (.ref a18), .val (.ref a20), .unset] [(.int ((XT.ushr p0 (2 : Int32)) &&& (3 : Int32)))])) (fun _ hr => XS.iload X25.here hx rfl (hb hby at_225) rfl hr) ?_
            refine Go.st (T' := T25) (g' := (mkF m 237 #[.val (.int p0), .val (.int p1), .val (.int p2), .val (.int p3), .val (.int p4), .val (.int p5), .val (.int b11), .val (.int b24), .val (.int ((XT.ushr p0 (2 : Int32)) &&& (3 : Int32))), .val (.int b45), .val (.ref a7), .val (.ref a11), .val v126, .val (.ref a18), .val (.ref a20), .unset] [])) (fun _ hr => XS.ifYes X25.here hx rfl (pc0 := 227) (pc' := 237) rfl (hb hby at_227) rfl (XT.i0_ne_t (own_k1 c134_17)) (by decide) (by decide) hr) ?_
            refine Go.st (T' := T25) (g' := (mkF m 238 #[.val (.int p0), .val (.int p1), .val (.int p2), .val (.int p3), .val (.int p4), .val (.int p5), .val (.int b11), .val (.int b24), .val (.int ((XT.ushr p0 (2 : Int32)) &&& (3 : Int32))), .val (.int b45), .val (.ref a7), .val (.ref a11), .val v126, .val (.ref a18), .val (.ref a20), .unset] [(.int (0 : Int32))])) (fun _ hr => XT.iconstV X25.here hx rfl (0 : Int32) (hb hby at_237) (by decide) hr) ?_
            refine Go.st (T' := T25) (g' := (mkF m 240 #[.val (.int p0), .val (.int p1), .val (.int p2), .val (.int p3), .val (.int p4), .val (.int p5), .val (.int b11), .val (.int b24), .val (.int ((XT.ushr p0 (2 : Int32)) &&& (3 : Int32))), .val (.int b45), .val (.ref a7), .val (.ref a11), .val v126, .val (.ref a18), .val (.ref a20), .val (.int (0 : Int32))] [])) (fun _ hr => XS.istore X25.here hx rfl (hb hby at_238) rfl (l' := #[.val (.int p0), .val (.int p1), .val (.int p2), .val (.int p3), .val (.int p4), .val (.int p5), .val (.int b11), .val (.int b24), .val (.int ((XT.ushr p0 (2 : Int32)) &&& (3 : Int32))), .val (.int b45), .val (.ref a7), .val (.ref a11), .val v126, .val (.ref a18), .val (.ref a20), .val (.int (0 : Int32))]) rfl hr) ?_
            refine Go.st (T' := T25) (g' := (mkF m 242 #[.val (.int p0), .val (.int p1), .val (.int p2), .val (.int p3), .val (.int p4), .val (.int p5), .val (.int b11), .val (.int b24), .val (.int ((XT.ushr p0 (2 : Int32)) &&& (3 : Int32))), .val (.int b45), .val (.ref a7), .val (.ref a11), .val v126, .val (.ref a18), .val (.ref a20), .val (.int (0 : Int32))] [(.ref a20)])) (fun _ hr => XS.aload X25.here hx rfl (hb hby at_240) rfl rfl hr) ?_
            refine Go.callV X25 hx hZ hown (W := 0) (y := (⟨"com/example/item_type_store/itemtypestore/TypeSystemDraft$TypeDraft", "lacksDeployment", "()Z"⟩ : MethodName)) (hw _ (List.mem_of_getElem? (i := 86) rfl)) (hw _ (List.mem_of_getElem? (i := 87) rfl)) (hw _ (List.mem_of_getElem? (i := 89) rfl)) (hw _ (List.mem_of_getElem? (i := 88) rfl)) (hw _ (List.mem_of_getElem? (i := 32) rfl)) (hw _ (List.mem_of_getElem? (i := 90) rfl)) (by decide) rfl e25 A20_q_25 (rm12r l Z a0 hw a20 a18 (nar .boolean b11) h25 G25_direct G25_deployment) (by decide) (by decide) (by decide) (by decide) (g := (mkF m 242 #[.val (.int p0), .val (.int p1), .val (.int p2), .val (.int p3), .val (.int p4), .val (.int p5), .val (.int b11), .val (.int b24), .val (.int ((XT.ushr p0 (2 : Int32)) &&& (3 : Int32))), .val (.int b45), .val (.ref a7), .val (.ref a11), .val v126, .val (.ref a18), .val (.ref a20), .val (.int (0 : Int32))] [(.ref a20)])) rfl (by rw [hml]; rfl) (argsL := []) (rest := []) (lenOf pd_13 rfl) rfl (by show 2 * 0 + _ ≤ _; exact Nat.le_of_eq rfl) (hb hby at_242) (fun v26 T26 L26 X26 q26 => ?_)
            obtain ⟨rfl, rfl, e26⟩ := q26
            rw [List.append_nil] at X26
            show Go p.tables e below (Fin s (fun v h L => v = some (.int 1) ∧ Fr h0.size L) room_1.cells room_1.slots) T26 (mkF m 245 #[.val (.int p0), .val (.int p1), .val (.int p2), .val (.int p3), .val (.int p4), .val (.int p5), .val (.int b11), .val (.int b24), .val (.int ((XT.ushr p0 (2 : Int32)) &&& (3 : Int32))), .val (.int b45), .val (.ref a7), .val (.ref a11), .val v126, .val (.ref a18), .val (.ref a20), .val (.int (0 : Int32))] [(.int (f12r (nar .boolean b11)))])
            refine Go.st (T' := T26) (g' := (mkF m 247 #[.val (.int p0), .val (.int p1), .val (.int p2), .val (.int p3), .val (.int p4), .val (.int p5), .val (.int b11), .val (.int b24), .val (.int ((XT.ushr p0 (2 : Int32)) &&& (3 : Int32))), .val (.int b45), .val (.ref a7), .val (.ref a11), .val v126, .val (.ref a18), .val (.ref a20), .val (.int (0 : Int32))] [(.int (0 : Int32)), (.int (f12r (nar .boolean b11)))])) (fun _ hr => XS.iload X26.here hx rfl (hb hby at_245) rfl hr) ?_
            refine Go.st (T' := T26) (g' := (mkF m 250 #[.val (.int p0), .val (.int p1), .val (.int p2), .val (.int p3), .val (.int p4), .val (.int p5), .val (.int b11), .val (.int b24), .val (.int ((XT.ushr p0 (2 : Int32)) &&& (3 : Int32))), .val (.int b45), .val (.ref a7), .val (.ref a11), .val v126, .val (.ref a18), .val (.ref a20), .val (.int (0 : Int32))] [])) (fun _ hr => XS.icmpNo X26.here hx rfl (hb hby at_247) rfl (XT.ii_ne_f (own_some _)) hr) ?_
            refine Go.st (T' := T26) (g' := (mkF m 251 #[.val (.int p0), .val (.int p1), .val (.int p2), .val (.int p3), .val (.int p4), .val (.int p5), .val (.int b11), .val (.int b24), .val (.int ((XT.ushr p0 (2 : Int32)) &&& (3 : Int32))), .val (.int b45), .val (.ref a7), .val (.ref a11), .val v126, .val (.ref a18), .val (.ref a20), .val (.int (0 : Int32))] [(.int (1 : Int32))])) (fun _ hr => XT.iconstV X26.here hx rfl (1 : Int32) (hb hby at_250) (by decide) hr) ?_
            refine Go.st (T' := T26) (g' := (mkF m 255 #[.val (.int p0), .val (.int p1), .val (.int p2), .val (.int p3), .val (.int p4), .val (.int p5), .val (.int b11), .val (.int b24), .val (.int ((XT.ushr p0 (2 : Int32)) &&& (3 : Int32))), .val (.int b45), .val (.ref a7), .val (.ref a11), .val v126, .val (.ref a18), .val (.ref a20), .val (.int (0 : Int32))] [(.int (1 : Int32))])) (fun _ hr => XS.goto X26.here hx rfl (pc0 := 251) (pc' := 255) rfl (hb hby at_251) (by decide) (by decide) hr) ?_
            exact Go.retN X26 hx hlk hret (by simp) (hb hby at_255) (by decide) (by decide) ⟨rfl, N25⟩
          · refine Go.st (T' := T16) (g' := (mkF m 151 #[.val (.int p0), .val (.int p1), .val (.int p2), .val (.int p3), .val (.int p4), .val (.int p5), .val (.int b11), .val (.int b24), .val (.int ((XT.ushr p0 (2 : Int32)) &&& (3 : Int32))), .val (.int b45), .val (.ref a7), .val (.ref a11), .val v126, .val .null, .unset, .unset] [])) (fun _ hr => XS.icmpYes X16.here hx rfl (pc0 := 134) (pc' := 151) rfl (hb hby at_134) rfl (XT.ii_ne_t c134_17) (by decide) (by decide) hr) ?_
            refine Go.st (T' := T16) (g' := (mkF m 153 #[.val (.int p0), .val (.int p1), .val (.int p2), .val (.int p3), .val (.int p4), .val (.int p5), .val (.int b11), .val (.int b24), .val (.int ((XT.ushr p0 (2 : Int32)) &&& (3 : Int32))), .val (.int b45), .val (.ref a7), .val (.ref a11), .val v126, .val .null, .unset, .unset] [(.int ((XT.ushr p0 (2 : Int32)) &&& (3 : Int32)))])) (fun _ hr => XS.iload X16.here hx rfl (hb hby at_151) rfl hr) ?_
            refine Go.st (T' := T16) (g' := (mkF m 154 #[.val (.int p0), .val (.int p1), .val (.int p2), .val (.int p3), .val (.int p4), .val (.int p5), .val (.int b11), .val (.int b24), .val (.int ((XT.ushr p0 (2 : Int32)) &&& (3 : Int32))), .val (.int b45), .val (.ref a7), .val (.ref a11), .val v126, .val .null, .unset, .unset] [(.int (2 : Int32)), (.int ((XT.ushr p0 (2 : Int32)) &&& (3 : Int32)))])) (fun _ hr => XT.iconstV X16.here hx rfl (2 : Int32) (hb hby at_153) (by decide) hr) ?_
            by_cases c154_27 : ((XT.ushr p0 (2 : Int32)) &&& (3 : Int32)) < (2 : Int32)
            · refine Go.st (T' := T16) (g' := (mkF m 188 #[.val (.int p0), .val (.int p1), .val (.int p2), .val (.int p3), .val (.int p4), .val (.int p5), .val (.int b11), .val (.int b24), .val (.int ((XT.ushr p0 (2 : Int32)) &&& (3 : Int32))), .val (.int b45), .val (.ref a7), .val (.ref a11), .val v126, .val .null, .unset, .unset] [])) (fun _ hr => XS.icmpYes X16.here hx rfl (pc0 := 154) (pc' := 188) rfl (hb hby at_154) rfl (XT.ii_lt_t c154_27) (by decide) (by decide) hr) ?_
              obtain ⟨T28, h28, X28, e28, E28, A28, D28, -, st28⟩ := newO X16 hx hZ hown (hw _ (List.mem_of_getElem? (i := 30) rfl)) (hw _ (List.mem_of_getElem? (i := 31) rfl)) (hw _ (List.mem_of_getElem? (i := 32) rfl)) e16 (g := (mkF m 188 #[.val (.int p0), .val (.int p1), .val (.int p2), .val (.int p3), .val (.int p4), .val (.int p5), .val (.int b11), .val (.int b24), .val (.int ((XT.ushr p0 (2 : Int32)) &&& (3 : Int32))), .val (.int b45), .val (.ref a7), .val (.ref a11), .val v126, .val .null, .unset, .unset] [])) rfl (hb hby at_188) (by decide) (by decide)
              obtain ⟨a28, g28⟩ : ∃ z, z = h16.size := ⟨_, rfl⟩
              rw [← g28] at A28 D28 st28
              have n_a28 : h0.size ≤ a28 := Nat.le_trans fZ_q_16 (Nat.le_of_eq g28.symm)
              have ne_a7_a28 : a7 ≠ a28 := Nat.ne_of_lt (Nat.lt_of_lt_of_eq A7_q_16.lt g28.symm)
              have ne_a8_a28 : a8 ≠ a28 := Nat.ne_of_lt (Nat.lt_of_lt_of_eq V8_q_16.lt g28.symm)
              have ne_a11_a28 : a11 ≠ a28 := Nat.ne_of_lt (Nat.lt_of_lt_of_eq A11_q_16.lt g28.symm)
              have ne_a12_a28 : a12 ≠ a28 := Nat.ne_of_lt (Nat.lt_of_lt_of_eq V12_q_16.lt g28.symm)
              have fZ_q_28 : h0.size ≤ h28.size := (Nat.le_trans fZ_q_16 E28.1)
              have O0_q_28 : Old Z h0.size h28 := (O0_q_16.ext E28)
              have A7_q_28 : Exa Z h28 a7 "java/lang/String" := (A7_q_16.ext E28)
              have V8_q_28 : Arv Z h28 a8 k8 .char (1 : Int32) [(.int (nar .char ((p4 &&& (255 : Int32))).toUInt32.toUInt16.toUInt32.toInt32))] (.int (0 : Int32)) := (V8_q_16.ext E28)
              have A11_q_28 : Exa Z h28 a11 "java/lang/String" := (A11_q_16.ext E28)
              have V12_q_28 : Arv Z h28 a12 k12 .char (2 : Int32) [(.int (nar .char (((XT.ushr p4 (8 : Int32)) &&& (255 : Int32))).toUInt32.toUInt16.toUInt32.toInt32)), (.int (nar .char (((XT.ushr p4 (16 : Int32)) &&& (255 : Int32))).toUInt32.toUInt16.toUInt32.toInt32))] (.int (0 : Int32)) := (V12_q_16.ext E28)
              have F28_file : Fld Z h28 a28 "com/example/item_type_store/itemtypestore/TypeSystemDraft$TypeDraft" "file" "Ljava/lang/String;" .null := D28 (Or.inr (hw _ (List.mem_of_getElem? (i := 67) rfl))) (ty := (.object "java/lang/String")) (by decide)
              have F28_line : Fld Z h28 a28 "com/example/item_type_store/itemtypestore/TypeSystemDraft$TypeDraft" "line" "I" (.int (0 : Int32)) := D28 (Or.inr (hw _ (List.mem_of_getElem? (i := 69) rfl))) (ty := .int) (by decide)
              have F28_code : Fld Z h28 a28 "com/example/item_type_store/itemtypestore/TypeSystemDraft$TypeDraft" "code" "Ljava/lang/String;" .null := D28 (Or.inr (hw _ (List.mem_of_getElem? (i := 71) rfl))) (ty := (.object "java/lang/String")) (by decide)
              have F28_supertype : Fld Z h28 a28 "com/example/item_type_store/itemtypestore/TypeSystemDraft$TypeDraft" "supertype" "Ljava/lang/String;" .null := D28 (Or.inr (hw _ (List.mem_of_getElem? (i := 73) rfl))) (ty := (.object "java/lang/String")) (by decide)
              have F28_direct : Fld Z h28 a28 "com/example/item_type_store/itemtypestore/TypeSystemDraft$TypeDraft" "direct" "Z" (.int (0 : Int32)) := D28 (Or.inr (hw _ (List.mem_of_getElem? (i := 75) rfl))) (ty := .boolean) (by decide)
              have F28_isAbstract : Fld Z h28 a28 "com/example/item_type_store/itemtypestore/TypeSystemDraft$TypeDraft" "isAbstract" "Z" (.int (0 : Int32)) := D28 (Or.inr (hw _ (List.mem_of_getElem? (i := 77) rfl))) (ty := .boolean) (by decide)
              have F28_deployment : Fld Z h28 a28 "com/example/item_type_store/itemtypestore/TypeSystemDraft$TypeDraft" "deployment" "Lcom/example/item_type_store/itemtypestore/TypeSystemDraft$DeploymentDraft;" .null := D28 (Or.inr (hw _ (List.mem_of_getElem? (i := 79) rfl))) (ty := (.object "com/example/item_type_store/itemtypestore/TypeSystemDraft$DeploymentDraft")) (by decide)
              have F28_attributes : Fld Z h28 a28 "com/example/item_type_store/itemtypestore/TypeSystemDraft$TypeDraft" "attributes" "Ljava/util/List;" .null := D28 (Or.inr (hw _ (List.mem_of_getElem? (i := 81) rfl))) (ty := (.object "java/util/List")) (by decide)
              have F28_indexes : Fld Z h28 a28 "com/example/item_type_store/itemtypestore/TypeSystemDraft$TypeDraft" "indexes" "Ljava/util/List;" .null := D28 (Or.inr (hw _ (List.mem_of_getElem? (i := 83) rfl))) (ty := (.object "java/util/List")) (by decide)
              have F28_customProperties : Fld Z h28 a28 "com/example/item_type_store/itemtypestore/TypeSystemDraft$TypeDraft" "customProperties" "Ljava/util/Map;" .null := D28 (Or.inr (hw _ (List.mem_of_getElem? (i := 85) rfl))) (ty := (.object "java/util/Map")) (by decide)
              refine Go.st (T' := T28) (g' := (mkF m 191 #[.val (.int p0), .val (.int p1), .val (.int p2), .val (.int p3), .val (.int p4), .val (.int p5), .val (.int b11), .val (.int b24), .val (.int ((XT.ushr p0 (2 : Int32)) &&& (3 : Int32))), .val (.int b45), .val (.ref a7), .val (.ref a11), .val v126, .val .null, .unset, .unset] [(.ref a28)])) st28 ?_
              refine Go.st (T' := T28) (g' := (mkF m 192 #[.val (.int p0), .val (.int p1), .val (.int p2), .val (.int p3), .val (.int p4), .val (.int p5), .val (.int b11), .val (.int b24), .val (.int ((XT.ushr p0 (2 : Int32)) &&& (3 : Int32))), .val (.int b45), .val (.ref a7), .val (.ref a11), .val v126, .val .null, .unset, .unset] [(.ref a28), (.ref a28)])) (fun _ hr => XS.dup X28.here hx rfl (hb hby at_191) rfl rfl hr) ?_
              refine Go.st (T' := T28) (g' := (mkF m 194 #[.val (.int p0), .val (.int p1), .val (.int p2), .val (.int p3), .val (.int p4), .val (.int p5), .val (.int b11), .val (.int b24), .val (.int ((XT.ushr p0 (2 : Int32)) &&& (3 : Int32))), .val (.int b45), .val (.ref a7), .val (.ref a11), .val v126, .val .null, .unset, .unset] [(.ref a7), (.ref a28), (.ref a28)])) (fun _ hr => XS.aload X28.here hx rfl (hb hby at_192) rfl rfl hr) ?_
              refine Go.st (T' := T28) (g' := (mkF m 195 #[.val (.int p0), .val (.int p1), .val (.int p2), .val (.int p3), .val (.int p4), .val (.int p5), .val (.int b11), .val (.int b24), .val (.int ((XT.ushr p0 (2 : Int32)) &&& (3 : Int32))), .val (.int b45), .val (.ref a7), .val (.ref a11), .val v126, .val .null, .unset, .unset] [(.int p1), (.ref a7), (.ref a28), (.ref a28)])) (fun _ hr => XS.iloadN X28.here hx rfl (hb hby at_194) rfl hr) ?_
              refine Go.st (T' := T28) (g' := (mkF m 197 #[.val (.int p0), .val (.int p1), .val (.int p2), .val (.int p3), .val (.int p4), .val (.int p5), .val (.int b11), .val (.int b24), .val (.int ((XT.ushr p0 (2 : Int32)) &&& (3 : Int32))), .val (.int b45), .val (.ref a7), .val (.ref a11), .val v126, .val .null, .unset, .unset] [(.ref a11), (.int p1), (.ref a7), (.ref a28), (.ref a28)])) (fun _ hr => XS.aload X28.here hx rfl (hb hby at_195) rfl rfl hr) ?_
              refine Go.st (T' := T28) (g' := (mkF m 199 #[.val (.int p0), .val (.int p1), .val (.int p2), .val (.int p3), .val (.int p4), .val (.int p5), .val (.int b11), .val (.int b24), .val (.int ((XT.ushr p0 (2 : Int32)) &&& (3 : Int32))), .val (.int b45), .val (.ref a7), .val (.ref a11), .val v126, .val .null, .unset, .unset] [v126, (.ref a11), (.int p1), (.ref a7), (.ref a28), (.ref a28)])) (fun _ hr => XS.aload X28.here hx rfl (hb hby at_197) rfl r_v126 hr) ?_
              refine Go.st (T' := T28) (g' := (mkF m 201 #[.val (.int p0), .val (.int p1), .val (.int p2), .val (.int p3), .val (.int p4), .val (.int p5), .val (.int b11), .val (.int b24), .val (.int ((XT.ushr p0 (2 : Int32)) &&& (3 : Int32))), .val (.int b45), .val (.ref a7), .val (.ref a11), .val v126, .val .null, .unset, .unset] [(.int b11), v126, (.ref a11), (.int p1), (.ref a7), (.ref a28), (.ref a28)])) (fun _ hr => XS.iload X28.here hx rfl (hb hby at_199) rfl hr) ?_
              refine Go.st (T' := T28) (g' := (mkF m 203 #[.val (.int p0), .val (.int p1), .val (.int p2), .val (.int p3), .val (.int p4), .val (.int p5), .val (.int b11), .val (.int b24), .val (.int ((XT.ushr p0 (2 : Int32)) &&& (3 : Int32))), .val (.int b45), .val (.ref a7), .val (.ref a11), .val v126, .val .null, .unset, .unset] [(.int b24), (.int b11), v126, (.ref a11), (.int p1), (.ref a7), (.ref a28), (.ref a28)])) (fun _ hr => XS.iload X28.here hx rfl (hb hby at_201) rfl hr) ?_
              refine Go.st (T' := T28) (g' := (mkF m 205 #[.val (.int p0), .val (.int p1), .val (.int p2), .val (.int p3), .val (.int p4), .val (.int p5), .val (.int b11), .val (.int b24), .val (.int ((XT.ushr p0 (2 : Int32)) &&& (3 : Int32))), .val (.int b45), .val (.ref a7), .val (.ref a11), .val v126, .val .null, .unset, .unset] [.null, (.int b24), (.int b11), v126, (.ref a11), (.int p1), (.ref a7), (.ref a28), (.ref a28)])) (fun _ hr => XS.aload X28.here hx rfl (hb hby at_203) rfl rfl hr) ?_
              obtain ⟨T29, h29, X29, e29, E29, A29, D29, -, st29⟩ := newO X28 hx hZ hown (hw _ (List.mem_of_getElem? (i := 33) rfl)) (hw _ (List.mem_of_getElem? (i := 34) rfl)) (hw _ (List.mem_of_getElem? (i := 35) rfl)) e28 (g := (mkF m 205 #[.val (.int p0), .val (.int p1), .val (.int p2), .val (.int p3), .val (.int p4), .val (.int p5), .val (.int b11), .val (.int b24), .val (.int ((XT.ushr p0 (2 : Int32)) &&& (3 : Int32))), .val (.int b45), .val (.ref a7), .val (.ref a11), .val v126, .val .null, .unset, .unset] [.null, (.int b24), (.int b11), v126, (.ref a11), (.int p1), (.ref a7), (.ref a28), (.ref a28)])) rfl (hb hby at_205) (by decide) (by decide)
              obtain ⟨a29, g29⟩ : ∃ z, z = h28.size := ⟨_, rfl⟩
              rw [← g29] at A29 D29 st29
              have n_a29 : h0.size ≤ a29 := Nat.le_trans fZ_q_28 (Nat.le_of_eq g29.symm)
              have ne_a7_a29 : a7 ≠ a29 := Nat.ne_of_lt (Nat.lt_of_lt_of_eq A7_q_28.lt g29.symm)
              have ne_a8_a29 : a8 ≠ a29 := Nat.ne_of_lt (Nat.lt_of_lt_of_eq V8_q_28.lt g29.symm)
              have ne_a11_a29 : a11 ≠ a29 := Nat.ne_of_lt (Nat.lt_of_lt_of_eq A11_q_28.lt g29.symm)
              have ne_a12_a29 : a12 ≠ a29 := Nat.ne_of_lt (Nat.lt_of_lt_of_eq V12_q_28.lt g29.symm)
              have ne_a28_a29 : a28 ≠ a29 := Nat.ne_of_lt (Nat.lt_of_lt_of_eq A28.lt g29.symm)
              have fZ_q_29 : h0.size ≤ h29.size := (Nat.le_trans fZ_q_28 E29.1)
              have O0_q_29 : Old Z h0.size h29 := (O0_q_28.ext E29)
              have A7_q_29 : Exa Z h29 a7 "java/lang/String" := (A7_q_28.ext E29)
              have V8_q_29 : Arv Z h29 a8 k8 .char (1 : Int32) [(.int (nar .char ((p4 &&& (255 : Int32))).toUInt32.toUInt16.toUInt32.toInt32))] (.int (0 : Int32)) := (V8_q_28.ext E29)
              have A11_q_29 : Exa Z h29 a11 "java/lang/String" := (A11_q_28.ext E29)
              have V12_q_29 : Arv Z h29 a12 k12 .char (2 : Int32) [(.int (nar .char (((XT.ushr p4 (8 : Int32)) &&& (255 : Int32))).toUInt32.toUInt16.toUInt32.toInt32)), (.int (nar .char (((XT.ushr p4 (16 : Int32)) &&& (255 : Int32))).toUInt32.toUInt16.toUInt32.toInt32))] (.int (0 : Int32)) := (V12_q_28.ext E29)
              have A28_q_29 : Exa Z h29 a28 "com/example/item_type_store/itemtypestore/TypeSystemDraft$TypeDraft" := (A28.ext E29)
              have F28_file_q_29 : Fld Z h29 a28 "com/example/item_type_store/itemtypestore/TypeSystemDraft$TypeDraft" "file" "Ljava/lang/String;" .null := (F28_file.ext E29)
              have F28_line_q_29 : Fld Z h29 a28 "com/example/item_type_store/itemtypestore/TypeSystemDraft$TypeDraft" "line" "I" (.int (0 : Int32)) := (F28_line.ext E29)
              have F28_code_q_29 : Fld Z h29 a28 "com/example/item_type_store/itemtypestore/TypeSystemDraft$TypeDraft" "code" "Ljava/lang/String;" .null := (F28_code.ext E29)
              have F28_supertype_q_29 : Fld Z h29 a28 "com/example/item_type_store/itemtypestore/TypeSystemDraft$TypeDraft" "supertype" "Ljava/lang/String;" .null := (F28_supertype.ext E29)
              have F28_direct_q_29 : Fld Z h29 a28 "com/example/item_type_store/itemtypestore/TypeSystemDraft$TypeDraft" "direct" "Z" (.int (0 : Int32)) := (F28_direct.ext E29)
              have F28_isAbstract_q_29 : Fld Z h29 a28 "com/example/item_type_store/itemtypestore/TypeSystemDraft$TypeDraft" "isAbstract" "Z" (.int (0 : Int32)) := (F28_isAbstract.ext E29)
              have F28_deployment_q_29 : Fld Z h29 a28 "com/example/item_type_store/itemtypestore/TypeSystemDraft$TypeDraft" "deployment" "Lcom/example/item_type_store/itemtypestore/TypeSystemDraft$DeploymentDraft;" .null := (F28_deployment.ext E29)
              have F28_attributes_q_29 : Fld Z h29 a28 "com/example/item_type_store/itemtypestore/TypeSystemDraft$TypeDraft" "attributes" "Ljava/util/List;" .null := (F28_attributes.ext E29)
              have F28_indexes_q_29 : Fld Z h29 a28 "com/example/item_type_store/itemtypestore/TypeSystemDraft$TypeDraft" "indexes" "Ljava/util/List;" .null := (F28_indexes.ext E29)
              have F28_customProperties_q_29 : Fld Z h29 a28 "com/example/item_type_store/itemtypestore/TypeSystemDraft$TypeDraft" "customProperties" "Ljava/util/Map;" .null := (F28_customProperties.ext E29)
              have F29_modCount : Fld Z h29 a29 "java/util/AbstractList" "modCount" "I" (.int (0 : Int32)) := D29 (Or.inl (hw _ (List.mem_of_getElem? (i := 53) rfl))) (ty := .int) (by decide)
              have F29_elementData : Fld Z h29 a29 "java/util/ArrayList" "elementData" "[Ljava/lang/Object;" .null := D29 (Or.inl (hw _ (List.mem_of_getElem? (i := 56) rfl))) (ty := (.array (.object "java/lang/Object"))) (by decide)
              refine Go.st (T' := T29) (g' := (mkF m 208 #[.val (.int p0), .val (.int p1), .val (.int p2), .val (.int p3), .val (.int p4), .val (.int p5), .val (.int b11), .val (.int b24), .val (.int ((XT.ushr p0 (2 : Int32)) &&& (3 : Int32))), .val (.int b45), .val (.ref a7), .val (.ref a11), .val v126, .val .null, .unset, .unset] [(.ref a29), .null, (.int b24), (.int b11), v126, (.ref a11), (.int p1), (.ref a7), (.ref a28), (.ref a28)])) st29 ?_
              refine Go.st (T' := T29) (g' := (mkF m 209 #[.val (.int p0), .val (.int p1), .val (.int p2), .val (.int p3), .val (.int p4), .val (.int p5), .val (.int b11), .val (.int b24), .val (.int ((XT.ushr p0 (2 : Int32)) &&& (3 : Int32))), .val (.int b45), .val (.ref a7), .val (.ref a11), .val v126, .val .null, .unset, .unset] [(.ref a29), (.ref a29), .null, (.int b24), (.int b11), v126, (.ref a11), (.int p1), (.ref a7), (.ref a28), (.ref a28)])) (fun _ hr => XS.dup X29.here hx rfl (hb hby at_208) rfl rfl hr) ?_
              refine Go.callC X29 hx hZ hown (W := 10) (y := (⟨"java/util/ArrayList", "<init>", "()V"⟩ : MethodName)) rfl (hw _ (List.mem_of_getElem? (i := 36) rfl)) (hw _ (List.mem_of_getElem? (i := 37) rfl)) (hw _ (List.mem_of_getElem? (i := 35) rfl)) (hw _ (List.mem_of_getElem? (i := 38) rfl)) (by decide) e29 (rm7 l Z a0 hw a29 dc h29 rdc h0.size n_a29 fZ_q_29 O0_q_29 A29 F29_modCount F29_elementData D0) (by decide) (by decide) (by decide) (by decide) (g := (mkF m 209 #[.val (.int p0), .val (.int p1), .val (.int p2), .val (.int p3), .val (.int p4), .val (.int p5), .val (.int b11), .val (.int b24), .val (.int ((XT.ushr p0 (2 : Int32)) &&& (3 : Int32))), .val (.int b45), .val (.ref a7), .val (.ref a11), .val v126, .val .null, .unset, .unset] [(.ref a29), (.ref a29), .null, (.int b24), (.int b11), v126, (.ref a11), (.int p1), (.ref a7), (.ref a28), (.ref a28)])) rfl (by rw [hml]; rfl) (argsL := []) (rest := [(.ref a29), .null, (.int b24), (.int b11), v126, (.ref a11), (.int p1), (.ref a7), (.ref a28), (.ref a28)]) (lenOf pd_3 rfl) rfl (by simp only [List.map_cons, XT.cat1 r_v126]; exact Nat.le_of_eq rfl) (hb hby at_209) (fun v30 T30 L30 X30 q30 => ?_)
              obtain ⟨h30, e30⟩ : ∃ z, T30.heap = z := ⟨_, rfl⟩
              rw [e30] at q30
              obtain ⟨rfl, N30q, K30⟩ := q30
              have N30 := Fr.app N16 N30q
              have fZ_q_30 : h0.size ≤ h30.size := (Nat.le_trans fZ_q_29 K30.1)
              have O0_q_30 : Old Z h0.size h30 := (O0_q_29.keep K30 (allS n_a29 all0))
              have A7_q_30 : Exa Z h30 a7 "java/lang/String" := (A7_q_29.keep K30)
              have V8_q_30 : Arv Z h30 a8 k8 .char (1 : Int32) [(.int (nar .char ((p4 &&& (255 : Int32))).toUInt32.toUInt16.toUInt32.toInt32))] (.int (0 : Int32)) := (V8_q_29.keep K30 (ninS ne_a8_a29 nin0))
              have A11_q_30 : Exa Z h30 a11 "java/lang/String" := (A11_q_29.keep K30)
              have V12_q_30 : Arv Z h30 a12 k12 .char (2 : Int32) [(.int (nar .char (((XT.ushr p4 (8 : Int32)) &&& (255 : Int32))).toUInt32.toUInt16.toUInt32.toInt32)), (.int (nar .char (((XT.ushr p4 (16 : Int32)) &&& (255 : Int32))).toUInt32.toUInt16.toUInt32.toInt32))] (.int (0 : Int32)) := (V12_q_29.keep K30 (ninS ne_a12_a29 nin0))
              have A28_q_30 : Exa Z h30 a28 "com/example/item_type_store/itemtypestore/TypeSystemDraft$TypeDraft" := (A28_q_29.keep K30)
              have F28_file_q_30 : Fld Z h30 a28 "com/example/item_type_store/itemtypestore/TypeSystemDraft$TypeDraft" "file" "Ljava/lang/String;" .null := (F28_file_q_29.keep K30 (ninS ne_a28_a29 nin0))
              have F28_line_q_30 : Fld Z h30 a28 "com/example/item_type_store/itemtypestore/TypeSystemDraft$TypeDraft" "line" "I" (.int (0 : Int32)) := (F28_line_q_29.keep K30 (ninS ne_a28_a29 nin0))
              have F28_code_q_30 : Fld Z h30 a28 "com/example/item_type_store/itemtypestore/TypeSystemDraft$TypeDraft" "code" "Ljava/lang/String;" .null := (F28_code_q_29.keep K30 (ninS ne_a28_a29 nin0))
              have F28_supertype_q_30 : Fld Z h30 a28 "com/example/item_type_store/itemtypestore/TypeSystemDraft$TypeDraft" "supertype" "Ljava/lang/String;" .null := (F28_supertype_q_29.keep K30 (ninS ne_a28_a29 nin0))
              have F28_direct_q_30 : Fld Z h30 a28 "com/example/item_type_store/itemtypestore/TypeSystemDraft$TypeDraft" "direct" "Z" (.int (0 : Int32)) := (F28_direct_q_29.keep K30 (ninS ne_a28_a29 nin0))
              have F28_isAbstract_q_30 : Fld Z h30 a28 "com/example/item_type_store/itemtypestore/TypeSystemDraft$TypeDraft" "isAbstract" "Z" (.int (0 : Int32)) := (F28_isAbstract_q_29.keep K30 (ninS ne_a28_a29 nin0))
              have F28_deployment_q_30 : Fld Z h30 a28 "com/example/item_type_store/itemtypestore/TypeSystemDraft$TypeDraft" "deployment" "Lcom/example/item_type_store/itemtypestore/TypeSystemDraft$DeploymentDraft;" .null := (F28_deployment_q_29.keep K30 (ninS ne_a28_a29 nin0))
              have F28_attributes_q_30 : Fld Z h30 a28 "com/example/item_type_store/itemtypestore/TypeSystemDraft$TypeDraft" "attributes" "Ljava/util/List;" .null := (F28_attributes_q_29.keep K30 (ninS ne_a28_a29 nin0))
              have F28_indexes_q_30 : Fld Z h30 a28 "com/example/item_type_store/itemtypestore/TypeSystemDraft$TypeDraft" "indexes" "Ljava/util/List;" .null := (F28_indexes_q_29.keep K30 (ninS ne_a28_a29 nin0))
              have F28_customProperties_q_30 : Fld Z h30 a28 "com/example/item_type_store/itemtypestore/TypeSystemDraft$TypeDraft" "customProperties" "Ljava/util/Map;" .null := (F28_customProperties_q_29.keep K30 (ninS ne_a28_a29 nin0))
              have A29_q_30 : Exa Z h30 a29 "java/util/ArrayList" := (A29.keep K30)
              show Go p.tables e below (Fin s (fun v h L => v = some (.int 1) ∧ Fr h0.size L) room_1.cells room_1.slots) T30 (mkF m 212 #[.val (.int p0), .val (.int p1), .val (.int p2), .val (.int p3), .val (.int p4), .val (.int p5), .val (.int b11), .val (.int b24), .val (.int ((XT.ushr p0 (2 : Int32)) &&& (3 : Int32))), .val (.int b45), .val (.ref a7), .val (.ref a11), .val v126, .val .null, .unset, .unset] [(.ref a29), .null, (.int b24), (.int b11), v126, (.ref a11), (.int p1), (.ref a7), (.ref a28), (.ref a28)])
              obtain ⟨T31, h31, X31, e31, E31, A31, D31, -, st31⟩ := newO X30 hx hZ hown (hw _ (List.mem_of_getElem? (i := 33) rfl)) (hw _ (List.mem_of_getElem? (i := 34) rfl)) (hw _ (List.mem_of_getElem? (i := 35) rfl)) e30 (g := (mkF m 212 #[.val (.int p0), .val (.int p1), .val (.int p2), .val (.int p3), .val (.int p4), .val (.int p5), .val (.int b11), .val (.int b24), .val (.int ((XT.ushr p0 (2 : Int32)) &&& (3 : Int32))), .val (.int b45), .val (.ref a7), .val (.ref a11), .val v126, .val .null, .unset, .unset] [(.ref a29), .null, (.int b24), (.int b11), v126, (.ref a11), (.int p1), (.ref a7), (.ref a28), (.ref a28)])) rfl (hb hby at_212) (by decide) (by decide)
              obtain ⟨a31, g31⟩ : ∃ z, z = h30.size := ⟨_, rfl⟩
              rw [← g31] at A31 D31 st31
              have n_a31 : h0.size ≤ a31 := Nat.le_trans fZ_q_30 (Nat.le_of_eq g31.symm)
              have ne_a7_a31 : a7 ≠ a31 := Nat.ne_of_lt (Nat.lt_of_lt_of_eq A7_q_30.lt g31.symm)
              have ne_a8_a31 : a8 ≠ a31 := Nat.ne_of_lt (Nat.lt_of_lt_of_eq V8_q_30.lt g31.symm)
              have ne_a11_a31 : a11 ≠ a31 := Nat.ne_of_lt (Nat.lt_of_lt_of_eq A11_q_30.lt g31.symm)
              have ne_a12_a31 : a12 ≠ a31 := Nat.ne_of_lt (Nat.lt_of_lt_of_eq V12_q_30.lt g31.symm)
              have ne_a28_a31 : a28 ≠ a31 := Nat.ne_of_lt (Nat.lt_of_lt_of_eq A28_q_30.lt g31.symm)
              have ne_a29_a31 : a29 ≠ a31 := Nat.ne_of_lt (Nat.lt_of_lt_of_eq A29_q_30.lt g31.symm)
              have fZ_q_31 : h0.size ≤ h31.size := (Nat.le_trans fZ_q_30 E31.1)
              have O0_q_31 : Old Z h0.size h31 := (O0_q_30.ext E31)
              have A7_q_31 : Exa Z h31 a7 "java/lang/String" := (A7_q_30.ext E31)
              have V8_q_31 : Arv Z h31 a8 k8 .char (1 : Int32) [(.int (nar .char ((p4 &&& (255 : Int32))).toUInt32.toUInt16.toUInt32.toInt32))] (.int (0 : Int32)) := (V8_q_30.ext E31)
              have A11_q_31 : Exa Z h31 a11 "java/lang/String" := (A11_q_30.ext E31)
              have V12_q_31 : Arv Z h31 a12 k12 .char (2 : Int32) [(.int (nar .char (((XT.ushr p4 (8 : Int32)) &&& (255 : Int32))).toUInt32.toUInt16.toUInt32.toInt32)), (.int (nar .char (((XT.ushr p4 (16 : Int32)) &&& (255 : Int32))).toUInt32.toUInt16.toUInt32.toInt32))] (.int (0 : Int32)) := (V12_q_30.ext E31)
              have A28_q_31 : Exa Z h31 a28 "com/example/item_type_store/itemtypestore/TypeSystemDraft$TypeDraft" := (A28_q_30.ext E31)
              have F28_file_q_31 : Fld Z h31 a28 "com/example/item_type_store/itemtypestore/TypeSystemDraft$TypeDraft" "file" "Ljava/lang/String;" .null := (F28_file_q_30.ext E31)
              have F28_line_q_31 : Fld Z h31 a28 "com/example/item_type_store/itemtypestore/TypeSystemDraft$TypeDraft" "line" "I" (.int (0 : Int32)) := (F28_line_q_30.ext E31)
              have F28_code_q_31 : Fld Z h31 a28 "com/example/item_type_store/itemtypestore/TypeSystemDraft$TypeDraft" "code" "Ljava/lang/String;" .null := (F28_code_q_30.ext E31)
              have F28_supertype_q_31 : Fld Z h31 a28 "com/example/item_type_store/itemtypestore/TypeSystemDraft$TypeDraft" "supertype" "Ljava/lang/String;" .null := (F28_supertype_q_30.ext E31)
              have F28_direct_q_31 : Fld Z h31 a28 "com/example/item_type_store/itemtypestore/TypeSystemDraft$TypeDraft" "direct" "Z" (.int (0 : Int32)) := (F28_direct_q_30.ext E31)
              have F28_isAbstract_q_31 : Fld Z h31 a28 "com/example/item_type_store/itemtypestore/TypeSystemDraft$TypeDraft" "isAbstract" "Z" (.int (0 : Int32)) := (F28_isAbstract_q_30.ext E31)
              have F28_deployment_q_31 : Fld Z h31 a28 "com/example/item_type_store/itemtypestore/TypeSystemDraft$TypeDraft" "deployment" "Lcom/example/item_type_store/itemtypestore/TypeSystemDraft$DeploymentDraft;" .null := (F28_deployment_q_30.ext E31)
              have F28_attributes_q_31 : Fld Z h31 a28 "com/example/item_type_store/itemtypestore/TypeSystemDraft$TypeDraft" "attributes" "Ljava/util/List;" .null := (F28_attributes_q_30.ext E31)
              have F28_indexes_q_31 : Fld Z h31 a28 "com/example/item_type_store/itemtypestore/TypeSystemDraft$TypeDraft" "indexes" "Ljava/util/List;" .null := (F28_indexes_q_30.ext E31)
              have F28_customProperties_q_31 : Fld Z h31 a28 "com/example/item_type_store/itemtypestore/TypeSystemDraft$TypeDraft" "customProperties" "Ljava/util/Map;" .null := (F28_customProperties_q_30.ext E31)
              have A29_q_31 : Exa Z h31 a29 "java/util/ArrayList" := (A29_q_30.ext E31)
              have F31_modCount : Fld Z h31 a31 "java/util/AbstractList" "modCount" "I" (.int (0 : Int32)) := D31 (Or.inl (hw _ (List.mem_of_getElem? (i := 53) rfl))) (ty := .int) (by decide)
              have F31_elementData : Fld Z h31 a31 "java/util/ArrayList" "elementData" "[Ljava/lang/Object;" .null := D31 (Or.inl (hw _ (List.mem_of_getElem? (i := 56) rfl))) (ty := (.array (.object "java/lang/Object"))) (by decide)
              refine Go.st (T' := T31) (g' := (mkF m 215 #[.val (.int p0), .val (.int p1), .val (.int p2), .val (.int p3), .val (.int p4), .val (.int p5), .val (.int b11), .val (.int b24), .val (.int ((XT.ushr p0 (2 : Int32)) &&& (3 : Int32))), .val (.int b45), .val (.ref a7), .val (.ref a11), .val v126, .val .null, .unset, .unset] [(.ref a31), (.ref a29), .null, (.int b24), (.int b11), v126, (.ref a11), (.int p1), (.ref a7), (.ref a28), (.ref a28)])) st31 ?_
              refine Go.st (T' := T31) (g' := (mkF m 216 #[.val (.int p0), .val (.int p1), .val (.int p2), .val (.int p3), .val (.int p4), .val (.int p5), .val (.int b11), .val (.int b24), .val (.int ((XT.ushr p0 (2 : Int32)) &&& (3 : Int32))), .val (.int b45), .val (.ref a7), .val (.ref a11), .val v126, .val .null, .unset, .unset] [(.ref a31), (.ref a31), (.ref a29), .null, (.int b24), (.int b11), v126, (.ref a11), (.int p1), (.ref a7), (.ref a28), (.ref a28)])) (fun _ hr => XS.dup X31.here hx rfl (hb hby at_215) rfl rfl hr) ?_
              refine Go.callC X31 hx hZ hown (W := 11) (y := (⟨"java/util/ArrayList", "<init>", "()V"⟩ : MethodName)) rfl (hw _ (List.mem_of_getElem? (i := 36) rfl)) (hw _ (List.mem_of_getElem? (i := 37) rfl)) (hw _ (List.mem_of_getElem? (i := 35) rfl)) (hw _ (List.mem_of_getElem? (i := 38) rfl)) (by decide) e31 (rm7 l Z a0 hw a31 dc h31 rdc h0.size n_a31 fZ_q_31 O0_q_31 A31 F31_modCount F31_elementData D0) (by decide) (by decide) (by decide) (by decide) (g := (mkF m 216 #[.val (.int p0), .val (.int p1), .val (.int p2), .val (.int p3), .val (.int p4), .val (.int p5), .val (.int b11), .val (.int b24), .val (.int ((XT.ushr p0 (2 : Int32)) &&& (3 : Int32))), .val (.int b45), .val (.ref a7), .val (.ref a11), .val v126, .val .null, .unset, .unset] [(.ref a31), (.ref a31), (.ref a29), .null, (.int b24), (.int b11), v126, (.ref a11), (.int p1), (.ref a7), (.ref a28), (.ref a28)])) rfl (by rw [hml]; rfl) (argsL := []) (rest := [(.ref a31), (.ref a29), .null, (.int b24), (.int b11), v126, (.ref a11), (.int p1), (.ref a7), (.ref a28), (.ref a28)]) (lenOf pd_3 rfl) rfl (by simp only [List.map_cons, XT.cat1 r_v126]; exact Nat.le_of_eq rfl) (hb hby at_216) (fun v32 T32 L32 X32 q32 => ?_)
              obtain ⟨h32, e32⟩ : ∃ z, T32.heap = z := ⟨_, rfl⟩
              rw [e32] at q32
              obtain ⟨rfl, N32q, K32⟩ := q32
              have N32 := Fr.app N30 N32q
              have fZ_q_32 : h0.size ≤ h32.size := (Nat.le_trans fZ_q_31 K32.1)
              have O0_q_32 : Old Z h0.size h32 := (O0_q_31.keep K32 (allS n_a31 all0))
              have A7_q_32 : Exa Z h32 a7 "java/lang/String" := (A7_q_31.keep K32)
              have V8_q_32 : Arv Z h32 a8 k8 .char (1 : Int32) [(.int (nar .char ((p4 &&& (255 : Int32))).toUInt32.toUInt16.toUInt32.toInt32))] (.int (0 : Int32)) := (V8_q_31.keep K32 (ninS ne_a8_a31 nin0))
              have A11_q_32 : Exa Z h32 a11 "java/lang/String" := (A11_q_31.keep K32)
              have V12_q_32 : Arv Z h32 a12 k12 .char (2 : Int32) [(.int (nar .char (((XT.ushr p4 (8 : Int32)) &&& (255 : Int32))).toUInt32.toUInt16.toUInt32.toInt32)), (.int (nar .char (((XT.ushr p4 (16 : Int32)) &&& (255 : Int32))).toUInt32.toUInt16.toUInt32.toInt32))] (.int (0 : Int32)) := (V12_q_31.keep K32 (ninS ne_a12_a31 nin0))
              have A28_q_32 : Exa Z h32 a28 "com/example/item_type_store/itemtypestore/TypeSystemDraft$TypeDraft" := (A28_q_31.keep K32)
              have F28_file_q_32 : Fld Z h32 a28 "com/example/item_type_store/itemtypestore/TypeSystemDraft$TypeDraft" "file" "Ljava/lang/String;" .null := (F28_file_q_31.keep K32 (ninS ne_a28_a31 nin0))
              have F28_line_q_32 : Fld Z h32 a28 "com/example/item_type_store/itemtypestore/TypeSystemDraft$TypeDraft" "line" "I" (.int (0 : Int32)) := (F28_line_q_31.keep K32 (ninS ne_a28_a31 nin0))
              have F28_code_q_32 : Fld Z h32 a28 "com/example/item_type_store/itemtypestore/TypeSystemDraft$TypeDraft" "code" "Ljava/lang/String;" .null := (F28_code_q_31.keep K32 (ninS ne_a28_a31 nin0))
              have F28_supertype_q_32 : Fld Z h32 a28 "com/example/item_type_store/itemtypestore/TypeSystemDraft$TypeDraft" "supertype" "Ljava/lang/String;" .null := (F28_supertype_q_31.keep K32 (ninS ne_a28_a31 nin0))
              have F28_direct_q_32 : Fld Z h32 a28 "com/example/item_type_store/itemtypestore/TypeSystemDraft$TypeDraft" "direct" "Z" (.int (0 : Int32)) := (F28_direct_q_31.keep K32 (ninS ne_a28_a31 nin0))
              have F28_isAbstract_q_32 : Fld Z h32 a28 "com/example/item_type_store/itemtypestore/TypeSystemDraft$TypeDraft" "isAbstract" "Z" (.int (0 : Int32)) := (F28_isAbstract_q_31.keep K32 (ninS ne_a28_a31 nin0))
              have F28_deployment_q_32 : Fld Z h32 a28 "com/example/item_type_store/itemtypestore/TypeSystemDraft$TypeDraft" "deployment" "Lcom/example/item_type_store/itemtypestore/TypeSystemDraft$DeploymentDraft;" .null := (F28_deployment_q_31.keep K32 (ninS ne_a28_a31 nin0))
              have F28_attributes_q_32 : Fld Z h32 a28 "com/example/item_type_store/itemtypestore/TypeSystemDraft$TypeDraft" "attributes" "Ljava/util/List;" .null := (F28_attributes_q_31.keep K32 (ninS ne_a28_a31 nin0))
              have F28_indexes_q_32 : Fld Z h32 a28 "com/example/item_type_store/itemtypestore/TypeSystemDraft$TypeDraft" "indexes" "Ljava/util/List;" .null := (F28_indexes_q_31.keep K32 (ninS ne_a28_a31 nin0))
              have F28_customProperties_q_32 : Fld Z h32 a28 "com/example/item_type_store/itemtypestore/TypeSystemDraft$TypeDraft" "customProperties" "Ljava/util/Map;" .null := (F28_customProperties_q_31.keep K32 (ninS ne_a28_a31 nin0))
              have A29_q_32 : Exa Z h32 a29 "java/util/ArrayList" := (A29_q_31.keep K32)
              have A31_q_32 : Exa Z h32 a31 "java/util/ArrayList" := (A31.keep K32)
              show Go p.tables e below (Fin s (fun v h L => v = some (.int 1) ∧ Fr h0.size L) room_1.cells room_1.slots) T32 (mkF m 219 #[.val (.int p0), .val (.int p1), .val (.int p2), .val (.int p3), .val (.int p4), .val (.int p5), .val (.int b11), .val (.int b24), .val (.int ((XT.ushr p0 (2 : Int32)) &&& (3 : Int32))), .val (.int b45), .val (.ref a7), .val (.ref a11), .val v126, .val .null, .unset, .unset] [(.ref a31), (.ref a29), .null, (.int b24), (.int b11), v126, (.ref a11), (.int p1), (.ref a7), (.ref a28), (.ref a28)])
              refine Go.st (T' := T32) (g' := (mkF m 220 #[.val (.int p0), .val (.int p1), .val (.int p2), .val (.int p3), .val (.int p4), .val (.int p5), .val (.int b11), .val (.int b24), .val (.int ((XT.ushr p0 (2 : Int32)) &&& (3 : Int32))), .val (.int b45), .val (.ref a7), .val (.ref a11), .val v126, .val .null, .unset, .unset] [.null, (.ref a31), (.ref a29), .null, (.int b24), (.int b11), v126, (.ref a11), (.int p1), (.ref a7), (.ref a28), (.ref a28)])) (fun _ hr => XS.aconstNull X32.here hx rfl (hb hby at_219) hr) ?_
              refine Go.callC X32 hx hZ hown (W := 1) (y := (⟨"com/example/item_type_store/itemtypestore/TypeSystemDraft$TypeDraft", "<init>", "(Ljava/lang/String;ILjava/lang/String;Ljava/lang/String;ZZLcom/example/item_type_store/itemtypestore/TypeSystemDraft$DeploymentDraft;Ljava/util/List;Ljava/util/List;Ljava/util/Map;)V"⟩ : MethodName)) rfl (hw _ (List.mem_of_getElem? (i := 57) rfl)) (hw _ (List.mem_of_getElem? (i := 58) rfl)) (hw _ (List.mem_of_getElem? (i := 32) rfl)) (hw _ (List.mem_of_getElem? (i := 59) rfl)) (by decide) e32 (rm10 l Z a0 hw a28 (.ref a7) p1 (.ref a11) v126 b11 b24 .null (.ref a29) (.ref a31) .null  rfl rfl r_v126 rfl rfl rfl rfl h32 h0.size n_a28 A28_q_32 F28_file_q_32 F28_line_q_32 F28_code_q_32 F28_supertype_q_32 F28_direct_q_32 F28_isAbstract_q_32 F28_deployment_q_32 F28_attributes_q_32 F28_indexes_q_32 F28_customProperties_q_32) (by decide) (by decide) (by decide) (by decide) (g := (mkF m 220 #[.val (.int p0), .val (.int p1), .val (.int p2), .val (.int p3), .val (.int p4), .val (.int p5), .val (.int b11), .val (.int b24), .val (.int ((XT.ushr p0 (2 : Int32)) &&& (3 : Int32))), .val (.int b45), .val (.ref a7), .val (.ref a11), .val v126, .val .null, .unset, .unset] [.null, (.ref a31), (.ref a29), .null, (.int b24), (.int b11), v126, (.ref a11), (.int p1), (.ref a7), (.ref a28), (.ref a28)])) rfl (by rw [hml]; rfl) (argsL := [(.ref a7), (.int p1), (.ref a11), v126, (.int b11), (.int b24), .null, (.ref a29), (.ref a31), .null]) (rest := [(.ref a28)]) (lenOf pd_10 rfl) rfl (by show 2 * 0 + _ ≤ _; exact Nat.le_of_eq rfl) (hb hby at_220) (fun v33 T33 L33 X33 q33 => ?_)
              obtain ⟨h33, e33⟩ : ∃ z, T33.heap = z := ⟨_, rfl⟩
              rw [e33] at q33
              obtain ⟨rfl, N33q, K33, G33_file, G33_line, G33_code, G33_supertype, G33_direct, G33_isAbstract, G33_deployment, G33_attributes, G33_indexes, G33_customProperties⟩ := q33
              have N33 := Fr.app N32 N33q
              have fZ_q_33 : h0.size ≤ h33.size := (Nat.le_trans fZ_q_32 K33.1)
              have O0_q_33 : Old Z h0.size h33 := (O0_q_32.keep K33 (allS n_a28 all0))
              have A7_q_33 : Exa Z h33 a7 "java/lang/String" := (A7_q_32.keep K33)
              have V8_q_33 : Arv Z h33 a8 k8 .char (1 : Int32) [(.int (nar .char ((p4 &&& (255 : Int32))).toUInt32.toUInt16.toUInt32.toInt32))] (.int (0 : Int32)) := (V8_q_32.keep K33 (ninS ne_a8_a28 nin0))
              have A11_q_33 : Exa Z h33 a11 "java/lang/String" := (A11_q_32.keep K33)
              have V12_q_33 : Arv Z h33 a12 k12 .char (2 : Int32) [(.int (nar .char (((XT.ushr p4 (8 : Int32)) &&& (255 : Int32))).toUInt32.toUInt16.toUInt32.toInt32)), (.int (nar .char (((XT.ushr p4 (16 : Int32)) &&& (255 : Int32))).toUInt32.toUInt16.toUInt32.toInt32))] (.int (0 : Int32)) := (V12_q_32.keep K33 (ninS ne_a12_a28 nin0))
              have A28_q_33 : Exa Z h33 a28 "com/example/item_type_store/itemtypestore/TypeSystemDraft$TypeDraft" := (A28_q_32.keep K33)
              have A29_q_33 : Exa Z h33 a29 "java/util/ArrayList" := (A29_q_32.keep K33)
              have A31_q_33 : Exa Z h33 a31 "java/util/ArrayList" := (A31_q_32.keep K33)
              show Go p.tables e below (Fin s (fun v h L => v = some (.int 1) ∧ Fr h0.size L) room_1.cells room_1.slots) T33 (mkF m 223 #[.val (.int p0), .val (.int p1), .val (.int p2), .val (.int p3), .val (.int p4), .val (.int p5), .val (.int b11), .val (.int b24), .val (.int ((XT.ushr p0 (2 : Int32)) &&& (3 : Int32))), .val (.int b45), .val (.ref a7), .val (.ref a11), .val v126, .val .null, .unset, .unset] [(.ref a28)])
              refine Go.st (T' := T33) (g' := (mkF m 225 #[.val (.int p0), .val (.int p1), .val (.int p2), .val (.int p3), .val (.int p4), .val (.int p5), .val (.int b11), .val (.int b24), .val (.int ((XT.ushr p0 (2 : Int32)) &&& (3 : Int32))), .val (.int b45), .val (.ref a7), .val (.ref a11), .val v126, .val .null, .val (.ref a28), .unset] [])) (fun _ hr => XS.astore X33.here hx rfl (hb hby at_223) rfl rfl (l' := #[.val (.int p0), .val (.int p1), .val (.int p2), .val (.int p3), .val (.int p4), .val (.int p5), .val (.int b11), .val (.int b24), .val (.int ((XT.ushr p0 (2 : Int32)) &&& (3 : Int32))), .val (.int b45), .val (.ref a7), .val (.ref a11), .val v126, .val .null, .val (.ref a28), .unset]) rfl hr) ?_
              refine Go.st (T' := T33) (g' := (mkF m 227 #[.val (.int p0), .val (.int p1), .val (.int p2), .val (.int p3), .val (.int p4), .val (.int p5), .val (.int b11), .val (.int b24), .val (.int ((XT.ushr p0 (2 : Int32)) &&& (3 : Int32))), .val (.int b45), .val (.ref a7), .val (.ref a11), .val v126, .val .null, .val (.ref a28), .unset] [(.int ((XT.ushr p0 (2 : Int32)) &&& (3 : Int32)))])) (fun _ hr => XS.iload X33.here hx rfl (hb hby at_225) rfl hr) ?_
              refine Go.st (T' := T33) (g' := (mkF m 230 #[.val (.int p0), .val (.int p1), .val (.int p2), .val (.int p3), .val (.int p4), .val (.int p5), .val (.int b11), .val (.int b24), .val (.int ((XT.ushr p0 (2 : Int32)) &&& (3 : Int32))), .val (.int b45), .val (.ref a7), .val (.ref a11), .val v126, .val .null, .val (.ref a28), .unset] [])) (fun _ hr => XS.ifNo X33.here hx rfl (hb hby at_227) rfl (XT.i0_ne_f (own_k0 c134_17 c154_27)) hr) ?_
              refine Go.st (T' := T33) (g' := (mkF m 232 #[.val (.int p0), .val (.int p1), .val (.int p2), .val (.int p3), .val (.int p4), .val (.int p5), .val (.int b11), .val (.int b24), .val (.int ((XT.ushr p0 (2 : Int32)) &&& (3 : Int32))), .val (.int b45), .val (.ref a7), .val (.ref a11), .val v126, .val .null, .val (.ref a28), .unset] [(.int b11)])) (fun _ hr => XS.iload X33.here hx rfl (hb hby at_230) rfl hr) ?_
              refine Go.st (T' := T33) (g' := (mkF m 234 #[.val (.int p0), .val (.int p1), .val (.int p2), .val (.int p3), .val (.int p4), .val (.int p5), .val (.int b11), .val (.int b24), .val (.int ((XT.ushr p0 (2 : Int32)) &&& (3 : Int32))), .val (.int b45), .val (.ref a7), .val (.ref a11), .val v126, .val .null, .val (.ref a28), .val (.int b11)] [])) (fun _ hr => XS.istore X33.here hx rfl (hb hby at_232) rfl (l' := #[.val (.int p0), .val (.int p1), .val (.int p2), .val (.int p3), .val (.int p4), .val (.int p5), .val (.int b11), .val (.int b24), .val (.int ((XT.ushr p0 (2 : Int32)) &&& (3 : Int32))), .val (.int b45), .val (.ref a7), .val (.ref a11), .val v126, .val .null, .val (.ref a28), .val (.int b11)]) rfl hr) ?_
              refine Go.st (T' := T33) (g' := (mkF m 240 #[.val (.int p0), .val (.int p1), .val (.int p2), .val (.int p3), .val (.int p4), .val (.int p5), .val (.int b11), .val (.int b24), .val (.int ((XT.ushr p0 (2 : Int32)) &&& (3 : Int32))), .val (.int b45), .val (.ref a7), .val (.ref a11), .val v126, .val .null, .val (.ref a28), .val (.int b11)] [])) (fun _ hr => XS.goto X33.here hx rfl (pc0 := 234) (pc' := 240) rfl (hb hby at_234) (by decide) (by decide) hr) ?_
              refine Go.st (T' := T33) (g' := (mkF m 242 #[.val (.int p0), .val (.int p1), .val (.int p2), .val (.int p3), .val (.int p4), .val (.int p5), .val (.int b11), .val (.int b24), .val (.int ((XT.ushr p0 (2 : Int32)) &&& (3 : Int32))), .val (.int b45), .val (.ref a7), .val (.ref a11), .val v126, .val .null, .val (.ref a28), .val (.int b11)] [(.ref a28)])) (fun _ hr => XS.aload X33.here hx rfl (hb hby at_240) rfl rfl hr) ?_
              refine Go.callV X33 hx hZ hown (W := 0) (y := (⟨"com/example/item_type_store/itemtypestore/TypeSystemDraft$TypeDraft", "lacksDeployment", "()Z"⟩ : MethodName)) (hw _ (List.mem_of_getElem? (i := 86) rfl)) (hw _ (List.mem_of_getElem? (i := 87) rfl)) (hw _ (List.mem_of_getElem? (i := 89) rfl)) (hw _ (List.mem_of_getElem? (i := 88) rfl)) (hw _ (List.mem_of_getElem? (i := 32) rfl)) (hw _ (List.mem_of_getElem? (i := 90) rfl)) (by decide) rfl e33 A28_q_33 (rm12n l Z a0 hw a28  (nar .boolean b11) h33 G33_direct G33_deployment) (by decide) (by decide) (by decide) (by decide) (g := (mkF m 242 #[.val (.int p0), .val (.int p1), .val (.int p2), .val (.int p3), .val (.int p4), .val (.int p5), .val (.int b11), .val (.int b24), .val (.int ((XT.ushr p0 (2 : Int32)) &&& (3 : Int32))), .val (.int b45), .val (.ref a7), .val (.ref a11), .val v126, .val .null, .val (.ref a28), .val (.int b11)] [(.ref a28)])) rfl (by rw [hml]; rfl) (argsL := []) (rest := []) (lenOf pd_13 rfl) rfl (by show 2 * 0 + _ ≤ _; exact Nat.le_of_eq rfl) (hb hby at_242) (fun v34 T34 L34 X34 q34 => ?_)
              obtain ⟨rfl, rfl, e34⟩ := q34
              rw [List.append_nil] at X34
              show Go p.tables e below (Fin s (fun v h L => v = some (.int 1) ∧ Fr h0.size L) room_1.cells room_1.slots) T34 (mkF m 245 #[.val (.int p0), .val (.int p1), .val (.int p2), .val (.int p3), .val (.int p4), .val (.int p5), .val (.int b11), .val (.int b24), .val (.int ((XT.ushr p0 (2 : Int32)) &&& (3 : Int32))), .val (.int b45), .val (.ref a7), .val (.ref a11), .val v126, .val .null, .val (.ref a28), .val (.int b11)] [(.int (f12n (nar .boolean b11)))])
              refine Go.st (T' := T34) (g' := (mkF m 247 #[.val (.int p0), .val (.int p1), .val (.int p2), .val (.int p3), .val (.int p4), .val (.int p5), .val (.int b11), .val (.int b24), .val (.int ((XT.ushr p0 (2 : Int32)) &&& (3 : Int32))), .val (.int b45), .val (.ref a7), .val (.ref a11), .val v126, .val .null, .val (.ref a28), .val (.int b11)] [(.int b11), (.int (f12n (nar .boolean b11)))])) (fun _ hr => XS.iload X34.here hx rfl (hb hby at_245) rfl hr) ?_
              refine Go.st (T' := T34) (g' := (mkF m 250 #[.val (.int p0), .val (.int p1), .val (.int p2), .val (.int p3), .val (.int p4), .val (.int p5), .val (.int b11), .val (.int b24), .val (.int ((XT.ushr p0 (2 : Int32)) &&& (3 : Int32))), .val (.int b45), .val (.ref a7), .val (.ref a11), .val v126, .val .null, .val (.ref a28), .val (.int b11)] [])) (fun _ hr => XS.icmpNo X34.here hx rfl (hb hby at_247) rfl (XT.ii_ne_f (own_null hb11)) hr) ?_
              refine Go.st (T' := T34) (g' := (mkF m 251 #[.val (.int p0), .val (.int p1), .val (.int p2), .val (.int p3), .val (.int p4), .val (.int p5), .val (.int b11), .val (.int b24), .val (.int ((XT.ushr p0 (2 : Int32)) &&& (3 : Int32))), .val (.int b45), .val (.ref a7), .val (.ref a11), .val v126, .val .null, .val (.ref a28), .val (.int b11)] [(.int (1 : Int32))])) (fun _ hr => XT.iconstV X34.here hx rfl (1 : Int32) (hb hby at_250) (by decide) hr) ?_
              refine Go.st (T' := T34) (g' := (mkF m 255 #[.val (.int p0), .val (.int p1), .val (.int p2), .val (.int p3), .val (.int p4), .val (.int p5), .val (.int b11), .val (.int b24), .val (.int ((XT.ushr p0 (2 : Int32)) &&& (3 : Int32))), .val (.int b45), .val (.ref a7), .val (.ref a11), .val v126, .val .null, .val (.ref a28), .val (.int b11)] [(.int (1 : Int32))])) (fun _ hr => XS.goto X34.here hx rfl (pc0 := 251) (pc' := 255) rfl (hb hby at_251) (by decide) (by decide) hr) ?_
              exact Go.retN X34 hx hlk hret (by simp) (hb hby at_255) (by decide) (by decide) ⟨rfl, N33⟩
            · refine Go.st (T' := T16) (g' := (mkF m 157 #[.val (.int p0), .val (.int p1), .val (.int p2), .val (.int p3), .val (.int p4), .val (.int p5), .val (.int b11), .val (.int b24), .val (.int ((XT.ushr p0 (2 : Int32)) &&& (3 : Int32))), .val (.int b45), .val (.ref a7), .val (.ref a11), .val v126, .val .null, .unset, .unset] [])) (fun _ hr => XS.icmpNo X16.here hx rfl (hb hby at_154) rfl (XT.ii_lt_f c154_27) hr) ?_
              obtain ⟨T35, h35, X35, e35, E35, A35, D35, -, st35⟩ := newO X16 hx hZ hown (hw _ (List.mem_of_getElem? (i := 91) rfl)) (hw _ (List.mem_of_getElem? (i := 92) rfl)) (hw _ (List.mem_of_getElem? (i := 93) rfl)) e16 (g := (mkF m 157 #[.val (.int p0), .val (.int p1), .val (.int p2), .val (.int p3), .val (.int p4), .val (.int p5), .val (.int b11), .val (.int b24), .val (.int ((XT.ushr p0 (2 : Int32)) &&& (3 : Int32))), .val (.int b45), .val (.ref a7), .val (.ref a11), .val v126, .val .null, .unset, .unset] [])) rfl (hb hby at_157) (by decide) (by decide)
              obtain ⟨a35, g35⟩ : ∃ z, z = h16.size := ⟨_, rfl⟩
              rw [← g35] at A35 D35 st35
              have n_a35 : h0.size ≤ a35 := Nat.le_trans fZ_q_16 (Nat.le_of_eq g35.symm)
              have ne_a7_a35 : a7 ≠ a35 := Nat.ne_of_lt (Nat.lt_of_lt_of_eq A7_q_16.lt g35.symm)
              have ne_a8_a35 : a8 ≠ a35 := Nat.ne_of_lt (Nat.lt_of_lt_of_eq V8_q_16.lt g35.symm)
              have ne_a11_a35 : a11 ≠ a35 := Nat.ne_of_lt (Nat.lt_of_lt_of_eq A11_q_16.lt g35.symm)
              have ne_a12_a35 : a12 ≠ a35 := Nat.ne_of_lt (Nat.lt_of_lt_of_eq V12_q_16.lt g35.symm)
              have fZ_q_35 : h0.size ≤ h35.size := (Nat.le_trans fZ_q_16 E35.1)
              have O0_q_35 : Old Z h0.size h35 := (O0_q_16.ext E35)
              have A7_q_35 : Exa Z h35 a7 "java/lang/String" := (A7_q_16.ext E35)
              have V8_q_35 : Arv Z h35 a8 k8 .char (1 : Int32) [(.int (nar .char ((p4 &&& (255 : Int32))).toUInt32.toUInt16.toUInt32.toInt32))] (.int (0 : Int32)) := (V8_q_16.ext E35)
              have A11_q_35 : Exa Z h35 a11 "java/lang/String" := (A11_q_16.ext E35)
              have V12_q_35 : Arv Z h35 a12 k12 .char (2 : Int32) [(.int (nar .char (((XT.ushr p4 (8 : Int32)) &&& (255 : Int32))).toUInt32.toUInt16.toUInt32.toInt32)), (.int (nar .char (((XT.ushr p4 (16 : Int32)) &&& (255 : Int32))).toUInt32.toUInt16.toUInt32.toInt32))] (.int (0 : Int32)) := (V12_q_16.ext E35)
              have F35_line : Fld Z h35 a35 "com/example/item_type_store/itemtypestore/TypeSystemDraft$DeploymentDraft" "line" "I" (.int (0 : Int32)) := D35 (Or.inr (hw _ (List.mem_of_getElem? (i := 99) rfl))) (ty := .int) (by decide)
              have F35_deployment : Fld Z h35 a35 "com/example/item_type_store/itemtypestore/TypeSystemDraft$DeploymentDraft" "deployment" "Lcom/example/item_type_store/itemtypestore/model/Deployment;" .null := D35 (Or.inr (hw _ (List.mem_of_getElem? (i := 101) rfl))) (ty := (.object "com/example/item_type_store/itemtypestore/model/Deployment")) (by decide)
              refine Go.st (T' := T35) (g' := (mkF m 160 #[.val (.int p0), .val (.int p1), .val (.int p2), .val (.int p3), .val (.int p4), .val (.int p5), .val (.int b11), .val (.int b24), .val (.int ((XT.ushr p0 (2 : Int32)) &&& (3 : Int32))), .val (.int b45), .val (.ref a7), .val (.ref a11), .val v126, .val .null, .unset, .unset] [(.ref a35)])) st35 ?_
              refine Go.st (T' := T35) (g' := (mkF m 161 #[.val (.int p0), .val (.int p1), .val (.int p2), .val (.int p3), .val (.int p4), .val (.int p5), .val (.int b11), .val (.int b24), .val (.int ((XT.ushr p0 (2 : Int32)) &&& (3 : Int32))), .val (.int b45), .val (.ref a7), .val (.ref a11), .val v126, .val .null, .unset, .unset] [(.ref a35), (.ref a35)])) (fun _ hr => XS.dup X35.here hx rfl (hb hby at_160) rfl rfl hr) ?_
              refine Go.st (T' := T35) (g' := (mkF m 162 #[.val (.int p0), .val (.int p1), .val (.int p2), .val (.int p3), .val (.int p4), .val (.int p5), .val (.int b11), .val (.int b24), .val (.int ((XT.ushr p0 (2 : Int32)) &&& (3 : Int32))), .val (.int b45), .val (.ref a7), .val (.ref a11), .val v126, .val .null, .unset, .unset] [(.int p2), (.ref a35), (.ref a35)])) (fun _ hr => XS.iloadN X35.here hx rfl (hb hby at_161) rfl hr) ?_
              obtain ⟨T36, h36, X36, e36, E36, A36, D36, -, st36⟩ := newO X35 hx hZ hown (hw _ (List.mem_of_getElem? (i := 116) rfl)) (hw _ (List.mem_of_getElem? (i := 117) rfl)) (hw _ (List.mem_of_getElem? (i := 118) rfl)) e35 (g := (mkF m 162 #[.val (.int p0), .val (.int p1), .val (.int p2), .val (.int p3), .val (.int p4), .val (.int p5), .val (.int b11), .val (.int b24), .val (.int ((XT.ushr p0 (2 : Int32)) &&& (3 : Int32))), .val (.int b45), .val (.ref a7), .val (.ref a11), .val v126, .val .null, .unset, .unset] [(.int p2), (.ref a35), (.ref a35)])) rfl (hb hby at_162) (by decide) (by decide)
              obtain ⟨a36, g36⟩ : ∃ z, z = h35.size := ⟨_, rfl⟩
              rw [← g36] at A36 D36 st36
              have n_a36 : h0.size ≤ a36 := Nat.le_trans fZ_q_35 (Nat.le_of_eq g36.symm)
              have ne_a7_a36 : a7 ≠ a36 := Nat.ne_of_lt (Nat.lt_of_lt_of_eq A7_q_35.lt g36.symm)
              have ne_a8_a36 : a8 ≠ a36 := Nat.ne_of_lt (Nat.lt_of_lt_of_eq V8_q_35.lt g36.symm)
              have ne_a11_a36 : a11 ≠ a36 := Nat.ne_of_lt (Nat.lt_of_lt_of_eq A11_q_35.lt g36.symm)
              have ne_a12_a36 : a12 ≠ a36 := Nat.ne_of_lt (Nat.lt_of_lt_of_eq V12_q_35.lt g36.symm)
              have ne_a35_a36 : a35 ≠ a36 := Nat.ne_of_lt (Nat.lt_of_lt_of_eq A35.lt g36.symm)
              have fZ_q_36 : h0.size ≤ h36.size := (Nat.le_trans fZ_q_35 E36.1)
              have O0_q_36 : Old Z h0.size h36 := (O0_q_35.ext E36)
              have A7_q_36 : Exa Z h36 a7 "java/lang/String" := (A7_q_35.ext E36)
              have V8_q_36 : Arv Z h36 a8 k8 .char (1 : Int32) [(.int (nar .char ((p4 &&& (255 : Int32))).toUInt32.toUInt16.toUInt32.toInt32))] (.int (0 : Int32)) := (V8_q_35.ext E36)
              have A11_q_36 : Exa Z h36 a11 "java/lang/String" := (A11_q_35.ext E36)
              have V12_q_36 : Arv Z h36 a12 k12 .char (2 : Int32) [(.int (nar .char (((XT.ushr p4 (8 : Int32)) &&& (255 : Int32))).toUInt32.toUInt16.toUInt32.toInt32)), (.int (nar .char (((XT.ushr p4 (16 : Int32)) &&& (255 : Int32))).toUInt32.toUInt16.toUInt32.toInt32))] (.int (0 : Int32)) := (V12_q_35.ext E36)
              have A35_q_36 : Exa Z h36 a35 "com/example/item_type_store/itemtypestore/TypeSystemDraft$DeploymentDraft" := (A35.ext E36)
              have F35_line_q_36 : Fld Z h36 a35 "com/example/item_type_store/itemtypestore/TypeSystemDraft$DeploymentDraft" "line" "I" (.int (0 : Int32)) := (F35_line.ext E36)
              have F35_deployment_q_36 : Fld Z h36 a35 "com/example/item_type_store/itemtypestore/TypeSystemDraft$DeploymentDraft" "deployment" "Lcom/example/item_type_store/itemtypestore/model/Deployment;" .null := (F35_deployment.ext E36)
              have F36_table : Fld Z h36 a36 "com/example/item_type_store/itemtypestore/model/Deployment" "table" "Ljava/lang/String;" .null := D36 (Or.inr (hw _ (List.mem_of_getElem? (i := 124) rfl))) (ty := (.object "java/lang/String")) (by decide)
              have F36_typecode : Fld Z h36 a36 "com/example/item_type_store/itemtypestore/model/Deployment" "typecode" "I" (.int (0 : Int32)) := D36 (Or.inr (hw _ (List.mem_of_getElem? (i := 126) rfl))) (ty := .int) (by decide)
              refine Go.st (T' := T36) (g' := (mkF m 165 #[.val (.int p0), .val (.int p1), .val (.int p2), .val (.int p3), .val (.int p4), .val (.int p5), .val (.int b11), .val (.int b24), .val (.int ((XT.ushr p0 (2 : Int32)) &&& (3 : Int32))), .val (.int b45), .val (.ref a7), .val (.ref a11), .val v126, .val .null, .unset, .unset] [(.ref a36), (.int p2), (.ref a35), (.ref a35)])) st36 ?_
              refine Go.st (T' := T36) (g' := (mkF m 166 #[.val (.int p0), .val (.int p1), .val (.int p2), .val (.int p3), .val (.int p4), .val (.int p5), .val (.int b11), .val (.int b24), .val (.int ((XT.ushr p0 (2 : Int32)) &&& (3 : Int32))), .val (.int b45), .val (.ref a7), .val (.ref a11), .val v126, .val .null, .unset, .unset] [(.ref a36), (.ref a36), (.int p2), (.ref a35), (.ref a35)])) (fun _ hr => XS.dup X36.here hx rfl (hb hby at_165) rfl rfl hr) ?_
              refine Go.st (T' := T36) (g' := (mkF m 168 #[.val (.int p0), .val (.int p1), .val (.int p2), .val (.int p3), .val (.int p4), .val (.int p5), .val (.int b11), .val (.int b24), .val (.int ((XT.ushr p0 (2 : Int32)) &&& (3 : Int32))), .val (.int b45), .val (.ref a7), .val (.ref a11), .val v126, .val .null, .unset, .unset] [(.int p5), (.ref a36), (.ref a36), (.int p2), (.ref a35), (.ref a35)])) (fun _ hr => XS.iload X36.here hx rfl (hb hby at_166) rfl hr) ?_
              refine Go.st (T' := T36) (g' := (mkF m 170 #[.val (.int p0), .val (.int p1), .val (.int p2), .val (.int p3), .val (.int p4), .val (.int p5), .val (.int b11), .val (.int b24), .val (.int ((XT.ushr p0 (2 : Int32)) &&& (3 : Int32))), .val (.int b45), .val (.ref a7), .val (.ref a11), .val v126, .val .null, .unset, .unset] [(.int (8 : Int32)), (.int p5), (.ref a36), (.ref a36), (.int p2), (.ref a35), (.ref a35)])) (fun _ hr => XT.bipushV X36.here hx rfl (8 : Int32) (hb hby at_168) (by decide) hr) ?_
              refine Go.st (T' := T36) (g' := (mkF m 171 #[.val (.int p0), .val (.int p1), .val (.int p2), .val (.int p3), .val (.int p4), .val (.int p5), .val (.int b11), .val (.int b24), .val (.int ((XT.ushr p0 (2 : Int32)) &&& (3 : Int32))), .val (.int b45), .val (.ref a7), .val (.ref a11), .val v126, .val .null, .unset, .unset] [(.int (XT.ushr p5 (8 : Int32))), (.ref a36), (.ref a36), (.int p2), (.ref a35), (.ref a35)])) (fun _ hr => XT.iushr X36.here hx rfl (hb hby at_170) rfl hr) ?_
              refine Go.st (T' := T36) (g' := (mkF m 174 #[.val (.int p0), .val (.int p1), .val (.int p2), .val (.int p3), .val (.int p4), .val (.int p5), .val (.int b11), .val (.int b24), .val (.int ((XT.ushr p0 (2 : Int32)) &&& (3 : Int32))), .val (.int b45), .val (.ref a7), .val (.ref a11), .val v126, .val .null, .unset, .unset] [(.int (255 : Int32)), (.int (XT.ushr p5 (8 : Int32))), (.ref a36), (.ref a36), (.int p2), (.ref a35), (.ref a35)])) (fun _ hr => XT.sipushV X36.here hx rfl (255 : Int32) (hb hby at_171) (by decide) hr) ?_
              refine Go.st (T' := T36) (g' := (mkF m 175 #[.val (.int p0), .val (.int p1), .val (.int p2), .val (.int p3), .val (.int p4), .val (.int p5), .val (.int b11), .val (.int b24), .val (.int ((XT.ushr p0 (2 : Int32)) &&& (3 : Int32))), .val (.int b45), .val (.ref a7), .val (.ref a11), .val v126, .val .null, .unset, .unset] [(.int ((XT.ushr p5 (8 : Int32)) &&& (255 : Int32))), (.ref a36), (.ref a36), (.int p2), (.ref a35), (.ref a35)])) (fun _ hr => XS.iand X36.here hx rfl (hb hby at_174) rfl hr) ?_
              refine Go.st (T' := T36) (g' := (mkF m 176 #[.val (.int p0), .val (.int p1), .val (.int p2), .val (.int p3), .val (.int p4), .val (.int p5), .val (.int b11), .val (.int b24), .val (.int ((XT.ushr p0 (2 : Int32)) &&& (3 : Int32))), .val (.int b45), .val (.ref a7), .val (.ref a11), .val v126, .val .null, .unset, .unset] [(.int (((XT.ushr p5 (8 : Int32)) &&& (255 : Int32))).toUInt32.toUInt16.toUInt32.toInt32), (.ref a36), (.ref a36), (.int p2), (.ref a35), (.ref a35)])) (fun _ hr => XT.i2c X36.here hx rfl (hb hby at_175) rfl hr) ?_
              refine Go.callS X36 hx hZ hown (W := 5) (hw _ (List.mem_of_getElem? (i := 102) rfl)) (hw _ (List.mem_of_getElem? (i := 103) rfl)) (hw _ (List.mem_of_getElem? (i := 2) rfl)) (hw _ (List.mem_of_getElem? (i := 104) rfl)) (by decide) e36 (rm14 l Z a0 hw ((((XT.ushr p5 (8 : Int32)) &&& (255 : Int32))).toUInt32.toUInt16.toUInt32.toInt32) w h36 (own_c255 _) hcs (S0.ext O0_q_36.2) h0.size fZ_q_36) (by decide) (by decide) (by decide) (by decide) (g := (mkF m 176 #[.val (.int p0), .val (.int p1), .val (.int p2), .val (.int p3), .val (.int p4), .val (.int p5), .val (.int b11), .val (.int b24), .val (.int ((XT.ushr p0 (2 : Int32)) &&& (3 : Int32))), .val (.int b45), .val (.ref a7), .val (.ref a11), .val v126, .val .null, .unset, .unset] [(.int (((XT.ushr p5 (8 : Int32)) &&& (255 : Int32))).toUInt32.toUInt16.toUInt32.toInt32), (.ref a36), (.ref a36), (.int p2), (.ref a35), (.ref a35)])) rfl (by rw [hml]; rfl) (argsL := [(.int (((XT.ushr p5 (8 : Int32)) &&& (255 : Int32))).toUInt32.toUInt16.toUInt32.toInt32)]) (rest := [(.ref a36), (.ref a36), (.int p2), (.ref a35), (.ref a35)]) (lenOf pd_4 rfl) rfl (by show 2 * 0 + _ ≤ _; exact Nat.le_of_eq rfl) (hb hby at_176) (fun v37 T37 L37 X37 q37 => ?_)
              obtain ⟨h37, e37⟩ : ∃ z, T37.heap = z := ⟨_, rfl⟩
              rw [e37] at q37
              obtain ⟨a37, rfl, N37q, K37⟩ := q37
              have N37 := Fr.app N16 N37q
              have fZ_q_37 : h0.size ≤ h37.size := (Nat.le_trans fZ_q_36 K37.1)
              have O0_q_37 : Old Z h0.size h37 := (O0_q_36.keep K37 all0)
              have A7_q_37 : Exa Z h37 a7 "java/lang/String" := (A7_q_36.keep K37)
              have V8_q_37 : Arv Z h37 a8 k8 .char (1 : Int32) [(.int (nar .char ((p4 &&& (255 : Int32))).toUInt32.toUInt16.toUInt32.toInt32))] (.int (0 : Int32)) := (V8_q_36.keep K37 nin0)
              have A11_q_37 : Exa Z h37 a11 "java/lang/String" := (A11_q_36.keep K37)
              have V12_q_37 : Arv Z h37 a12 k12 .char (2 : Int32) [(.int (nar .char (((XT.ushr p4 (8 : Int32)) &&& (255 : Int32))).toUInt32.toUInt16.toUInt32.toInt32)), (.int (nar .char (((XT.ushr p4 (16 : Int32)) &&& (255 : Int32))).toUInt32.toUInt16.toUInt32.toInt32))] (.int (0 : Int32)) := (V12_q_36.keep K37 nin0)
              have A35_q_37 : Exa Z h37 a35 "com/example/item_type_store/itemtypestore/TypeSystemDraft$DeploymentDraft" := (A35_q_36.keep K37)
              have F35_line_q_37 : Fld Z h37 a35 "com/example/item_type_store/itemtypestore/TypeSystemDraft$DeploymentDraft" "line" "I" (.int (0 : Int32)) := (F35_line_q_36.keep K37 nin0)
              have F35_deployment_q_37 : Fld Z h37 a35 "com/example/item_type_store/itemtypestore/TypeSystemDraft$DeploymentDraft" "deployment" "Lcom/example/item_type_store/itemtypestore/model/Deployment;" .null := (F35_deployment_q_36.keep K37 nin0)
              have A36_q_37 : Exa Z h37 a36 "com/example/item_type_store/itemtypestore/model/Deployment" := (A36.keep K37)
              have F36_table_q_37 : Fld Z h37 a36 "com/example/item_type_store/itemtypestore/model/Deployment" "table" "Ljava/lang/String;" .null := (F36_table.keep K37 nin0)
              have F36_typecode_q_37 : Fld Z h37 a36 "com/example/item_type_store/itemtypestore/model/Deployment" "typecode" "I" (.int (0 : Int32)) := (F36_typecode.keep K37 nin0)
              show Go p.tables e below (Fin s (fun v h L => v = some (.int 1) ∧ Fr h0.size L) room_1.cells room_1.slots) T37 (mkF m 179 #[.val (.int p0), .val (.int p1), .val (.int p2), .val (.int p3), .val (.int p4), .val (.int p5), .val (.int b11), .val (.int b24), .val (.int ((XT.ushr p0 (2 : Int32)) &&& (3 : Int32))), .val (.int b45), .val (.ref a7), .val (.ref a11), .val v126, .val .null, .unset, .unset] [(.ref a37), (.ref a36), (.ref a36), (.int p2), (.ref a35), (.ref a35)])
              refine Go.st (T' := T37) (g' := (mkF m 180 #[.val (.int p0), .val (.int p1), .val (.int p2), .val (.int p3), .val (.int p4), .val (.int p5), .val (.int b11), .val (.int b24), .val (.int ((XT.ushr p0 (2 : Int32)) &&& (3 : Int32))), .val (.int b45), .val (.ref a7), .val (.ref a11), .val v126, .val .null, .unset, .unset] [(.int p3), (.ref a37), (.ref a36), (.ref a36), (.int p2), (.ref a35), (.ref a35)])) (fun _ hr => XS.iloadN X37.here hx rfl (hb hby at_179) rfl hr) ?_
              refine Go.callC X37 hx hZ hown (W := 4) (y := (⟨"com/example/item_type_store/itemtypestore/model/Deployment", "<init>", "(Ljava/lang/String;I)V"⟩ : MethodName)) rfl (hw _ (List.mem_of_getElem? (i := 119) rfl)) (hw _ (List.mem_of_getElem? (i := 120) rfl)) (hw _ (List.mem_of_getElem? (i := 118) rfl)) (hw _ (List.mem_of_getElem? (i := 121) rfl)) (by decide) e37 (rm18 l Z a0 hw a36 (.ref a37) p3  rfl h37 h0.size n_a36 A36_q_37 F36_table_q_37 F36_typecode_q_37) (by decide) (by decide) (by decide) (by decide) (g := (mkF m 180 #[.val (.int p0), .val (.int p1), .val (.int p2), .val (.int p3), .val (.int p4), .val (.int p5), .val (.int b11), .val (.int b24), .val (.int ((XT.ushr p0 (2 : Int32)) &&& (3 : Int32))), .val (.int b45), .val (.ref a7), .val (.ref a11), .val v126, .val .null, .unset, .unset] [(.int p3), (.ref a37), (.ref a36), (.ref a36), (.int p2), (.ref a35), (.ref a35)])) rfl (by rw [hml]; rfl) (argsL := [(.ref a37), (.int p3)]) (rest := [(.ref a36), (.int p2), (.ref a35), (.ref a35)]) (lenOf pd_12 rfl) rfl (by show 2 * 0 + _ ≤ _; exact Nat.le_of_eq rfl) (hb hby at_180) (fun v38 T38 L38 X38 q38 => ?_)
              obtain ⟨h38, e38⟩ : ∃ z, T38.heap = z := ⟨_, rfl⟩
              rw [e38] at q38
              obtain ⟨rfl, N38q, K38, G38_table, G38_typecode⟩ := q38
              have N38 := Fr.app N37 N38q
              have fZ_q_38 : h0.size ≤ h38.size := (Nat.le_trans fZ_q_37 K38.1)
              have O0_q_38 : Old Z h0.size h38 := (O0_q_37.keep K38 (allS n_a36 all0))
              have A7_q_38 : Exa Z h38 a7 "java/lang/String" := (A7_q_37.keep K38)
              have V8_q_38 : Arv Z h38 a8 k8 .char (1 : Int32) [(.int (nar .char ((p4 &&& (255 : Int32))).toUInt32.toUInt16.toUInt32.toInt32))] (.int (0 : Int32)) := (V8_q_37.keep K38 (ninS ne_a8_a36 nin0))
              have A11_q_38 : Exa Z h38 a11 "java/lang/String" := (A11_q_37.keep K38)
              have V12_q_38 : Arv Z h38 a12 k12 .char (2 : Int32) [(.int (nar .char (((XT.ushr p4 (8 : Int32)) &&& (255 : Int32))).toUInt32.toUInt16.toUInt32.toInt32)), (.int (nar .char (((XT.ushr p4 (16 : Int32)) &&& (255 : Int32))).toUInt32.toUInt16.toUInt32.toInt32))] (.int (0 : Int32)) := (V12_q_37.keep K38 (ninS ne_a12_a36 nin0))
              have A35_q_38 : Exa Z h38 a35 "com/example/item_type_store/itemtypestore/TypeSystemDraft$DeploymentDraft" := (A35_q_37.keep K38)
              have F35_line_q_38 : Fld Z h38 a35 "com/example/item_type_store/itemtypestore/TypeSystemDraft$DeploymentDraft" "line" "I" (.int (0 : Int32)) := (F35_line_q_37.keep K38 (ninS ne_a35_a36 nin0))
              have F35_deployment_q_38 : Fld Z h38 a35 "com/example/item_type_store/itemtypestore/TypeSystemDraft$DeploymentDraft" "deployment" "Lcom/example/item_type_store/itemtypestore/model/Deployment;" .null := (F35_deployment_q_37.keep K38 (ninS ne_a35_a36 nin0))
              have A36_q_38 : Exa Z h38 a36 "com/example/item_type_store/itemtypestore/model/Deployment" := (A36_q_37.keep K38)
              show Go p.tables e below (Fin s (fun v h L => v = some (.int 1) ∧ Fr h0.size L) room_1.cells room_1.slots) T38 (mkF m 183 #[.val (.int p0), .val (.int p1), .val (.int p2), .val (.int p3), .val (.int p4), .val (.int p5), .val (.int b11), .val (.int b24), .val (.int ((XT.ushr p0 (2 : Int32)) &&& (3 : Int32))), .val (.int b45), .val (.ref a7), .val (.ref a11), .val v126, .val .null, .unset, .unset] [(.ref a36), (.int p2), (.ref a35), (.ref a35)])
              refine Go.callC X38 hx hZ hown (W := 1) (y := (⟨"com/example/item_type_store/itemtypestore/TypeSystemDraft$DeploymentDraft", "<init>", "(ILcom/example/item_type_store/itemtypestore/model/Deployment;)V"⟩ : MethodName)) rfl (hw _ (List.mem_of_getElem? (i := 94) rfl)) (hw _ (List.mem_of_getElem? (i := 95) rfl)) (hw _ (List.mem_of_getElem? (i := 93) rfl)) (hw _ (List.mem_of_getElem? (i := 96) rfl)) (by decide) e38 (rm13 l Z a0 hw a35 p2 (.ref a36)  rfl h38 h0.size n_a35 A35_q_38 F35_line_q_38 F35_deployment_q_38) (by decide) (by decide) (by decide) (by decide) (g := (mkF m 183 #[.val (.int p0), .val (.int p1), .val (.int p2), .val (.int p3), .val (.int p4), .val (.int p5), .val (.int b11), .val (.int b24), .val (.int ((XT.ushr p0 (2 : Int32)) &&& (3 : Int32))), .val (.int b45), .val (.ref a7), .val (.ref a11), .val v126, .val .null, .unset, .unset] [(.ref a36), (.int p2), (.ref a35), (.ref a35)])) rfl (by rw [hml]; rfl) (argsL := [(.int p2), (.ref a36)]) (rest := [(.ref a35)]) (lenOf pd_11 rfl) rfl (by show 2 * 0 + _ ≤ _; exact Nat.le_of_eq rfl) (hb hby at_183) (fun v39 T39 L39 X39 q39 => ?_)
              obtain ⟨h39, e39⟩ : ∃ z, T39.heap = z := ⟨_, rfl⟩
              rw [e39] at q39
              obtain ⟨rfl, N39q, K39, G39_line, G39_deployment⟩ := q39
              have N39 := Fr.app N38 N39q
              have fZ_q_39 : h0.size ≤ h39.size := (Nat.le_trans fZ_q_38 K39.1)
              have O0_q_39 : Old Z h0.size h39 := (O0_q_38.keep K39 (allS n_a35 all0))
              have A7_q_39 : Exa Z h39 a7 "java/lang/String" := (A7_q_38.keep K39)
              have V8_q_39 : Arv Z h39 a8 k8 .char (1 : Int32) [(.int (nar .char ((p4 &&& (255 : Int32))).toUInt32.toUInt16.toUInt32.toInt32))] (.int (0 : Int32)) := (V8_q_38.keep K39 (ninS ne_a8_a35 nin0))
              have A11_q_39 : Exa Z h39 a11 "java/lang/String" := (A11_q_38.keep K39)
              have V12_q_39 : Arv Z h39 a12 k12 .char (2 : Int32) [(.int (nar .char (((XT.ushr p4 (8 : Int32)) &&& (255 : Int32))).toUInt32.toUInt16.toUInt32.toInt32)), (.int (nar .char (((XT.ushr p4 (16 : Int32)) &&& (255 : Int32))).toUInt32.toUInt16.toUInt32.toInt32))] (.int (0 : Int32)) := (V12_q_38.keep K39 (ninS ne_a12_a35 nin0))
              have A35_q_39 : Exa Z h39 a35 "com/example/item_type_store/itemtypestore/TypeSystemDraft$DeploymentDraft" := (A35_q_38.keep K39)
              have A36_q_39 : Exa Z h39 a36 "com/example/item_type_store/itemtypestore/model/Deployment" := (A36_q_38.keep K39)
              have G38_table_q_39 : Fld Z h39 a36 "com/example/item_type_store/itemtypestore/model/Deployment" "table" "Ljava/lang/String;" (.ref a37) := (G38_table.keep K39 (ninS (Ne.symm ne_a35_a36) nin0))
              have G38_typecode_q_39 : Fld Z h39 a36 "com/example/item_type_store/itemtypestore/model/Deployment" "typecode" "I" (.int p3) := (G38_typecode.keep K39 (ninS (Ne.symm ne_a35_a36) nin0))
              show Go p.tables e below (Fin s (fun v h L => v = some (.int 1) ∧ Fr h0.size L) room_1.cells room_1.slots) T39 (mkF m 186 #[.val (.int p0), .val (.int p1), .val (.int p2), .val (.int p3), .val (.int p4), .val (.int p5), .val (.int b11), .val (.int b24), .val (.int ((XT.ushr p0 (2 : Int32)) &&& (3 : Int32))), .val (.int b45), .val (.ref a7), .val (.ref a11), .val v126, .val .null, .unset, .unset] [(.ref a35)])
              refine Go.st (T' := T39) (g' := (mkF m 188 #[.val (.int p0), .val (.int p1), .val (.int p2), .val (.int p3), .val (.int p4), .val (.int p5), .val (.int b11), .val (.int b24), .val (.int ((XT.ushr p0 (2 : Int32)) &&& (3 : Int32))), .val (.int b45), .val (.ref a7), .val (.ref a11), .val v126, .val (.ref a35), .unset, .unset] [])) (fun _ hr => XS.astore X39.here hx rfl (hb hby at_186) rfl rfl (l' := #[.val (.int p0), .val (.int p1), .val (.int p2), .val (.int p3), .val (.int p4), .val (.int p5), .val (.int b11), .val (.int b24), .val (.int ((XT.ushr p0 (2 : Int32)) &&& (3 : Int32))), .val (.int b45), .val (.ref a7), .val (.ref a11), .val v126, .val (.ref a35), .unset, .unset]) rfl hr) ?_
              obtain ⟨T40, h40, X40, e40, E40, A40, D40, -, st40⟩ := newO X39 hx hZ hown (hw _ (List.mem_of_getElem? (i := 30) rfl)) (hw _ (List.mem_of_getElem? (i := 31) rfl)) (hw _ (List.mem_of_getElem? (i := 32) rfl)) e39 (g := (mkF m 188 #[.val (.int p0), .val (.int p1), .val (.int p2), .val (.int p3), .val (.int p4), .val (.int p5), .val (.int b11), .val (.int b24), .val (.int ((XT.ushr p0 (2 : Int32)) &&& (3 : Int32))), .val (.int b45), .val (.ref a7), .val (.ref a11), .val v126, .val (.ref a35), .unset, .unset] [])) rfl (hb hby at_188) (by decide) (by decide)
              obtain ⟨a40, g40⟩ : ∃ z, z = h39.size := ⟨_, rfl⟩
              rw [← g40] at A40 D40 st40
              have n_a40 : h0.size ≤ a40 := Nat.le_trans fZ_q_39 (Nat.le_of_eq g40.symm)
              have ne_a7_a40 : a7 ≠ a40 := Nat.ne_of_lt (Nat.lt_of_lt_of_eq A7_q_39.lt g40.symm)
              have ne_a8_a40 : a8 ≠ a40 := Nat.ne_of_lt (Nat.lt_of_lt_of_eq V8_q_39.lt g40.symm)
              have ne_a11_a40 : a11 ≠ a40 := Nat.ne_of_lt (Nat.lt_of_lt_of_eq A11_q_39.lt g40.symm)
              have ne_a12_a40 : a12 ≠ a40 := Nat.ne_of_lt (Nat.lt_of_lt_of_eq V12_q_39.lt g40.symm)
              have ne_a35_a40 : a35 ≠ a40 := Nat.ne_of_lt (Nat.lt_of_lt_of_eq A35_q_39.lt g40.symm)
              have ne_a36_a40 : a36 ≠ a40 := Nat.ne_of_lt (Nat.lt_of_lt_of_eq A36_q_39.lt g40.symm)
              have fZ_q_40 : h0.size ≤ h40.size := (Nat.le_trans fZ_q_39 E40.1)
              have O0_q_40 : Old Z h0.size h40 := (O0_q_39.ext E40)
              have A7_q_40 : Exa Z h40 a7 "java/lang/String" := (A7_q_39.ext E40)
              have V8_q_40 : Arv Z h40 a8 k8 .char (1 : Int32) [(.int (nar .char ((p4 &&& (255 : Int32))).toUInt32.toUInt16.toUInt32.toInt32))] (.int (0 : Int32)) := (V8_q_39.ext E40)
              have A11_q_40 : Exa Z h40 a11 "java/lang/String" := (A11_q_39.ext E40)
              have V12_q_40 : Arv Z h40 a12 k12 .char (2 : Int32) [(.int (nar .char (((XT.ushr p4 (8 : Int32)) &&& (255 : Int32))).toUInt32.toUInt16.toUInt32.toInt32)), (.int (nar .char (((XT.ushr p4 (16 : Int32)) &&& (255 : Int32))).toUInt32.toUInt16.toUInt32.toInt32))] (.int (0 : Int32)) := (V12_q_39.ext E40)
              have A35_q_40 : Exa Z h40 a35 "com/example/item_type_store/itemtypestore/TypeSystemDraft$DeploymentDraft" := (A35_q_39.ext E40)
              have A36_q_40 : Exa Z h40 a36 "com/example/item_type_store/itemtypestore/model/Deployment" := (A36_q_39.ext E40)
              have G38_table_q_40 : Fld Z h40 a36 "com/example/item_type_store/itemtypestore/model/Deployment" "table" "Ljava/lang/String;" (.ref a37) := (G38_table_q_39.ext E40)
              have G38_typecode_q_40 : Fld Z h40 a36 "com/example/item_type_store/itemtypestore/model/Deployment" "typecode" "I" (.int p3) := (G38_typecode_q_39.ext E40)
              have G39_line_q_40 : Fld Z h40 a35 "com/example/item_type_store/itemtypestore/TypeSystemDraft$DeploymentDraft" "line" "I" (.int p2) := (G39_line.ext E40)
              have G39_deployment_q_40 : Fld Z h40 a35 "com/example/item_type_store/itemtypestore/TypeSystemDraft$DeploymentDraft" "deployment" "Lcom/example/item_type_store/itemtypestore/model/Deployment;" (.ref a36) := (G39_deployment.ext E40)
              have F40_file : Fld Z h40 a40 "com/example/item_type_store/itemtypestore/TypeSystemDraft$TypeDraft" "file" "Ljava/lang/String;" .null := D40 (Or.inr (hw _ (List.mem_of_getElem? (i := 67) rfl))) (ty := (.object "java/lang/String")) (by decide)
              have F40_line : Fld Z h40 a40 "com/example/item_type_store/itemtypestore/TypeSystemDraft$TypeDraft" "line" "I" (.int (0 : Int32)) := D40 (Or.inr (hw _ (List.mem_of_getElem? (i := 69) rfl))) (ty := .int) (by decide)
              have F40_code : Fld Z h40 a40 "com/example/item_type_store/itemtypestore/TypeSystemDraft$TypeDraft" "code" "Ljava/lang/String;" .null := D40 (Or.inr (hw _ (List.mem_of_getElem? (i := 71) rfl))) (ty := (.object "java/lang/String")) (by decide)
              have F40_supertype : Fld Z h40 a40 "com/example/item_type_store/itemtypestore/TypeSystemDraft$TypeDraft" "supertype" "Ljava/lang/String;" .null := D40 (Or.inr (hw _ (List.mem_of_getElem? (i := 73) rfl))) (ty := (.object "java/lang/String")) (by decide)
              have F40_direct : Fld Z h40 a40 "com/example/item_type_store/itemtypestore/TypeSystemDraft$TypeDraft" "direct" "Z" (.int (0 : Int32)) := D40 (Or.inr (hw _ (List.mem_of_getElem? (i := 75) rfl))) (ty := .boolean) (by decide)
              have F40_isAbstract : Fld Z h40 a40 "com/example/item_type_store/itemtypestore/TypeSystemDraft$TypeDraft" "isAbstract" "Z" (.int (0 : Int32)) := D40 (Or.inr (hw _ (List.mem_of_getElem? (i := 77) rfl))) (ty := .boolean) (by decide)
              have F40_deployment : Fld Z h40 a40 "com/example/item_type_store/itemtypestore/TypeSystemDraft$TypeDraft" "deployment" "Lcom/example/item_type_store/itemtypestore/TypeSystemDraft$DeploymentDraft;" .null := D40 (Or.inr (hw _ (List.mem_of_getElem? (i := 79) rfl))) (ty := (.object "com/example/item_type_store/itemtypestore/TypeSystemDraft$DeploymentDraft")) (by decide)
              have F40_attributes : Fld Z h40 a40 "com/example/item_type_store/itemtypestore/TypeSystemDraft$TypeDraft" "attributes" "Ljava/util/List;" .null := D40 (Or.inr (hw _ (List.mem_of_getElem? (i := 81) rfl))) (ty := (.object "java/util/List")) (by decide)
              have F40_indexes : Fld Z h40 a40 "com/example/item_type_store/itemtypestore/TypeSystemDraft$TypeDraft" "indexes" "Ljava/util/List;" .null := D40 (Or.inr (hw _ (List.mem_of_getElem? (i := 83) rfl))) (ty := (.object "java/util/List")) (by decide)
              have F40_customProperties : Fld Z h40 a40 "com/example/item_type_store/itemtypestore/TypeSystemDraft$TypeDraft" "customProperties" "Ljava/util/Map;" .null := D40 (Or.inr (hw _ (List.mem_of_getElem? (i := 85) rfl))) (ty := (.object "java/util/Map")) (by decide)
              refine Go.st (T' := T40) (g' := (mkF m 191 #[.val (.int p0), .val (.int p1), .val (.int p2), .val (.int p3), .val (.int p4), .val (.int p5), .val (.int b11), .val (.int b24), .val (.int ((XT.ushr p0 (2 : Int32)) &&& (3 : Int32))), .val (.int b45), .val (.ref a7), .val (.ref a11), .val v126, .val (.ref a35), .unset, .unset] [(.ref a40)])) st40 ?_
              refine Go.st (T' := T40) (g' := (mkF m 192 #[.val (.int p0), .val (.int p1), .val (.int p2), .val (.int p3), .val (.int p4), .val (.int p5), .val (.int b11), .val (.int b24), .val (.int ((XT.ushr p0 (2 : Int32)) &&& (3 : Int32))), .val (.int b45), .val (.ref a7), .val (.ref a11), .val v126, .val (.ref a35), .unset, .unset] [(.ref a40), (.ref a40)])) (fun _ hr => XS.dup X40.here hx rfl (hb hby at_191) rfl rfl hr) ?_
              refine Go.st (T' := T40) (g' := (mkF m 194 #[.val (.int p0), .val (.int p1), .val (.int p2), .val (.int p3), .val (.int p4), .val (.int p5), .val (.int b11), .val (.int b24), .val (.int ((XT.ushr p0 (2 : Int32)) &&& (3 : Int32))), .val (.int b45), .val (.ref a7), .val (.ref a11), .val v126, .val (.ref a35), .unset, .unset] [(.ref a7), (.ref a40), (.ref a40)])) (fun _ hr => XS.aload X40.here hx rfl (hb hby at_192) rfl rfl hr) ?_
              refine Go.st (T' := T40) (g' := (mkF m 195 #[.val (.int p0), .val (.int p1), .val (.int p2), .val (.int p3), .val (.int p4), .val (.int p5), .val (.int b11), .val (.int b24), .val (.int ((XT.ushr p0 (2 : Int32)) &&& (3 : Int32))), .val (.int b45), .val (.ref a7), .val (.ref a11), .val v126, .val (.ref a35), .unset, .unset] [(.int p1), (.ref a7), (.ref a40), (.ref a40)])) (fun _ hr => XS.iloadN X40.here hx rfl (hb hby at_194) rfl hr) ?_
              refine Go.st (T' := T40) (g' := (mkF m 197 #[.val (.int p0), .val (.int p1), .val (.int p2), .val (.int p3), .val (.int p4), .val (.int p5), .val (.int b11), .val (.int b24), .val (.int ((XT.ushr p0 (2 : Int32)) &&& (3 : Int32))), .val (.int b45), .val (.ref a7), .val (.ref a11), .val v126, .val (.ref a35), .unset, .unset] [(.ref a11), (.int p1), (.ref a7), (.ref a40), (.ref a40)])) (fun _ hr => XS.aload X40.here hx rfl (hb hby at_195) rfl rfl hr) ?_
              refine Go.st (T' := T40) (g' := (mkF m 199 #[.val (.int p0), .val (.int p1), .val (.int p2), .val (.int p3), .val (.int p4), .val (.int p5), .val (.int b11), .val (.int b24), .val (.int ((XT.ushr p0 (2 : Int32)) &&& (3 : Int32))), .val (.int b45), .val (.ref a7), .val (.ref a11), .val v126, .val (.ref a35), .unset, .unset] [v126, (.ref a11), (.int p1), (.ref a7), (.ref a40), (.ref a40)])) (fun _ hr => XS.aload X40.here hx rfl (hb hby at_197) rfl r_v126 hr) ?_
              refine Go.st (T' := T40) (g' := (mkF m 201 #[.val (.int p0), .val (.int p1), .val (.int p2), .val (.int p3), .val (.int p4), .val (.int p5), .val (.int b11), .val (.int b24), .val (.int ((XT.ushr p0 (2 : Int32)) &&& (3 : Int32))), .val (.int b45), .val (.ref a7), .val (.ref a11), .val v126, .val (.ref a35), .unset, .unset] [(.int b11), v126, (.ref a11), (.int p1), (.ref a7), (.ref a40), (.ref a40)])) (fun _ hr => XS.iload X40.here hx rfl (hb hby at_199) rfl hr) ?_
              refine Go.st (T' := T40) (g' := (mkF m 203 #[.val (.int p0), .val (.int p1), .val (.int p2), .val (.int p3), .val (.int p4), .val (.int p5), .val (.int b11), .val (.int b24), .val (.int ((XT.ushr p0 (2 : Int32)) &&& (3 : Int32))), .val (.int b45), .val (.ref a7), .val (.ref a11), .val v126, .val (.ref a35), .unset, .unset] [(.int b24), (.int b11), v126, (.ref a11), (.int p1), (.ref a7), (.ref a40), (.ref a40)])) (fun _ hr => XS.iload X40.here hx rfl (hb hby at_201) rfl hr) ?_
              refine Go.st (T' := T40) (g' := (mkF m 205 #[.val (.int p0), .val (.int p1), .val (.int p2), .val (.int p3), .val (.int p4), .val (.int p5), .val (.int b11), .val (.int b24), .val (.int ((XT.ushr p0 (2 : Int32)) &&& (3 : Int32))), .val (.int b45), .val (.ref a7), .val (.ref a11), .val v126, .val (.ref a35), .unset, .unset] [(.ref a35), (.int b24), (.int b11), v126, (.ref a11), (.int p1), (.ref a7), (.ref a40), (.ref a40)])) (fun _ hr => XS.aload X40.here hx rfl (hb hby at_203) rfl rfl hr) ?_
              obtain ⟨T41, h41, X41, e41, E41, A41, D41, -, st41⟩ := newO X40 hx hZ hown (hw _ (List.mem_of_getElem? (i := 33) rfl)) (hw _ (List.mem_of_getElem? (i := 34) rfl)) (hw _ (List.mem_of_getElem? (i := 35) rfl)) e40 (g := (mkF m 205 #[.val (.int p0), .val (.int p1), .val (.int p2), .val (.int p3), .val (.int p4), .val (.int p5), .val (.int b11), .val (.int b24), .val (.int ((XT.ushr p0 (2 : Int32)) &&& (3 : Int32))), .val (.int b45), .val (.ref a7), .val (.ref a11), .val v126, .val (.ref a35), .unset, .unset] [(.ref a35), (.int b24), (.int b11), v126, (.ref a11), (.int p1), (.ref a7), (.ref a40), (.ref a40)])) rfl (hb hby at_205) (by decide) (by decide)
              obtain ⟨a41, g41⟩ : ∃ z, z = h40.size := ⟨_, rfl⟩
              rw [← g41] at A41 D41 st41
              have n_a41 : h0.size ≤ a41 := Nat.le_trans fZ_q_40 (Nat.le_of_eq g41.symm)
              have ne_a7_a41 : a7 ≠ a41 := Nat.ne_of_lt (Nat.lt_of_lt_of_eq A7_q_40.lt g41.symm)
              have ne_a8_a41 : a8 ≠ a41 := Nat.ne_of_lt (Nat.lt_of_lt_of_eq V8_q_40.lt g41.symm)
              have ne_a11_a41 : a11 ≠ a41 := Nat.ne_of_lt (Nat.lt_of_lt_of_eq A11_q_40.lt g41.symm)
              have ne_a12_a41 : a12 ≠ a41 := Nat.ne_of_lt (Nat.lt_of_lt_of_eq V12_q_40.lt g41.symm)
              have ne_a35_a41 : a35 ≠ a41 := Nat.ne_of_lt (Nat.lt_of_lt_of_eq A35_q_40.lt g41.symm)
              have ne_a36_a41 : a36 ≠ a41 := Nat.ne_of_lt (Nat.lt_of_lt_of_eq A36_q_40.lt g41.symm)
              have ne_a40_a41 : a40 ≠ a41 := Nat.ne_of_lt (Nat.lt_of_lt_of_eq A40.lt g41.symm)
              have fZ_q_41 : h0.size ≤ h41.size := (Nat.le_trans fZ_q_40 E41.1)
              have O0_q_41 : Old Z h0.size h41 := (O0_q_40.ext E41)
              have A7_q_41 : Exa Z h41 a7 "java/lang/String" := (A7_q_40.ext E41)
              have V8_q_41 : Arv Z h41 a8 k8 .char (1 : Int32) [(.int (nar .char ((p4 &&& (255 : Int32))).toUInt32.toUInt16.toUInt32.toInt32))] (.int (0 : Int32)) := (V8_q_40.ext E41)
              have A11_q_41 : Exa Z h41 a11 "java/lang/String" := (A11_q_40.ext E41)
              have V12_q_41 : Arv Z h41 a12 k12 .char (2 : Int32) [(.int (nar .char (((XT.ushr p4 (8 : Int32)) &&& (255 : Int32))).toUInt32.toUInt16.toUInt32.toInt32)), (.int (nar .char (((XT.ushr p4 (16 : Int32)) &&& (255 : Int32))).toUInt32.toUInt16.toUInt32.toInt32))] (.int (0 : Int32)) := (V12_q_40.ext E41)
              have A35_q_41 : Exa Z h41 a35 "com/example/item_type_store/itemtypestore/TypeSystemDraft$DeploymentDraft" := (A35_q_40.ext E41)
              have A36_q_41 : Exa Z h41 a36 "com/example/item_type_store/itemtypestore/model/Deployment" := (A36_q_40.ext E41)
              have G38_table_q_41 : Fld Z h41 a36 "com/example/item_type_store/itemtypestore/model/Deployment" "table" "Ljava/lang/String;" (.ref a37) := (G38_table_q_40.ext E41)
              have G38_typecode_q_41 : Fld Z h41 a36 "com/example/item_type_store/itemtypestore/model/Deployment" "typecode" "I" (.int p3) := (G38_typecode_q_40.ext E41)
              have G39_line_q_41 : Fld Z h41 a35 "com/example/item_type_store/itemtypestore/TypeSystemDraft$DeploymentDraft" "line" "I" (.int p2) := (G39_line_q_40.ext E41)
              have G39_deployment_q_41 : Fld Z h41 a35 "com/example/item_type_store/itemtypestore/TypeSystemDraft$DeploymentDraft" "deployment" "Lcom/example/item_type_store/itemtypestore/model/Deployment;" (.ref a36) := (G39_deployment_q_40.ext E41)
              have A40_q_41 : Exa Z h41 a40 "com/example/item_type_store/itemtypestore/TypeSystemDraft$TypeDraft" := (A40.ext E41)
              have F40_file_q_41 : Fld Z h41 a40 "com/example/item_type_store/itemtypestore/TypeSystemDraft$TypeDraft" "file" "Ljava/lang/String;" .null := (F40_file.ext E41)
              have F40_line_q_41 : Fld Z h41 a40 "com/example/item_type_store/itemtypestore/TypeSystemDraft$TypeDraft" "line" "I" (.int (0 : Int32)) := (F40_line.ext E41)
              have F40_code_q_41 : Fld Z h41 a40 "com/example/item_type_store/itemtypestore/TypeSystemDraft$TypeDraft" "code" "Ljava/lang/String;" .null := (F40_code.ext E41)
              have F40_supertype_q_41 : Fld Z h41 a40 "com/example/item_type_store/itemtypestore/TypeSystemDraft$TypeDraft" "supertype" "Ljava/lang/String;" .null := (F40_supertype.ext E41)
              have F40_direct_q_41 : Fld Z h41 a40 "com/example/item_type_store/itemtypestore/TypeSystemDraft$TypeDraft" "direct" "Z" (.int (0 : Int32)) := (F40_direct.ext E41)
              have F40_isAbstract_q_41 : Fld Z h41 a40 "com/example/item_type_store/itemtypestore/TypeSystemDraft$TypeDraft" "isAbstract" "Z" (.int (0 : Int32)) := (F40_isAbstract.ext E41)
              have F40_deployment_q_41 : Fld Z h41 a40 "com/example/item_type_store/itemtypestore/TypeSystemDraft$TypeDraft" "deployment" "Lcom/example/item_type_store/itemtypestore/TypeSystemDraft$DeploymentDraft;" .null := (F40_deployment.ext E41)
              have F40_attributes_q_41 : Fld Z h41 a40 "com/example/item_type_store/itemtypestore/TypeSystemDraft$TypeDraft" "attributes" "Ljava/util/List;" .null := (F40_attributes.ext E41)
              have F40_indexes_q_41 : Fld Z h41 a40 "com/example/item_type_store/itemtypestore/TypeSystemDraft$TypeDraft" "indexes" "Ljava/util/List;" .null := (F40_indexes.ext E41)
              have F40_customProperties_q_41 : Fld Z h41 a40 "com/example/item_type_store/itemtypestore/TypeSystemDraft$TypeDraft" "customProperties" "Ljava/util/Map;" .null := (F40_customProperties.ext E41)
              have F41_modCount : Fld Z h41 a41 "java/util/AbstractList" "modCount" "I" (.int (0 : Int32)) := D41 (Or.inl (hw _ (List.mem_of_getElem? (i := 53) rfl))) (ty := .int) (by decide)
              have F41_elementData : Fld Z h41 a41 "java/util/ArrayList" "elementData" "[Ljava/lang/Object;" .null := D41 (Or.inl (hw _ (List.mem_of_getElem? (i := 56) rfl))) (ty := (.array (.object "java/lang/Object"))) (by decide)
              refine Go.st (T' := T41) (g' := (mkF m 208 #[.val (.int p0), .val (.int p1), .val (.int p2), .val (.int p3), .val (.int p4), .val (.int p5), .val (.int b11), .val (.int b24), .val (.int ((XT.ushr p0 (2 : Int32)) &&& (3 : Int32))), .val (.int b45), .val (.ref a7), .val (.ref a11), .val v126, .val (.ref a35), .unset, .unset] [(.ref a41), (.ref a35), (.int b24), (.int b11), v126, (.ref a11), (.int p1), (.ref a7), (.ref a40), (.ref a40)])) st41 ?_
              refine Go.st (T' := T41) (g' := (mkF m 209 #[.val (.int p0), .val (.int p1), .val (.int p2), .val (.int p3), .val (.int p4), .val (.int p5), .val (.int b11), .val (.int b24), .val (.int ((XT.ushr p0 (2 : Int32)) &&& (3 : Int32))), .val (.int b45), .val (.ref a7), .val (.ref a11), .val v126, .val (.ref a35), .unset, .unset] [(.ref a41), (.ref a41), (.ref a35), (.int b24), (.int b11), v126, (.ref a11), (.int p1), (.ref a7), (.ref a40), (.ref a40)])) (fun _ hr => XS.dup X41.here hx rfl (hb hby at_208) rfl rfl hr) ?_
              refine Go.callC X41 hx hZ hown (W := 10) (y := (⟨"java/util/ArrayList", "<init>", "()V"⟩ : MethodName)) rfl (hw _ (List.mem_of_getElem? (i := 36) rfl)) (hw _ (List.mem_of_getElem? (i := 37) rfl)) (hw _ (List.mem_of_getElem? (i := 35) rfl)) (hw _ (List.mem_of_getElem? (i := 38) rfl)) (by decide) e41 (rm7 l Z a0 hw a41 dc h41 rdc h0.size n_a41 fZ_q_41 O0_q_41 A41 F41_modCount F41_elementData D0) (by decide) (by decide) (by decide) (by decide) (g := (mkF m 209 #[.val (.int p0), .val (.int p1), .val (.int p2), .val (.int p3), .val (.int p4), .val (.int p5), .val (.int b11), .val (.int b24), .val (.int ((XT.ushr p0 (2 : Int32)) &&& (3 : Int32))), .val (.int b45), .val (.ref a7), .val (.ref a11), .val v126, .val (.ref a35), .unset, .unset] [(.ref a41), (.ref a41), (.ref a35), (.int b24), (.int b11), v126, (.ref a11), (.int p1), (.ref a7), (.ref a40), (.ref a40)])) rfl (by rw [hml]; rfl) (argsL := []) (rest := [(.ref a41), (.ref a35), (.int b24), (.int b11), v126, (.ref a11), (.int p1), (.ref a7), (.ref a40), (.ref a40)]) (lenOf pd_3 rfl) rfl (by simp only [List.map_cons, XT.cat1 r_v126]; exact Nat.le_of_eq rfl) (hb hby at_209) (fun v42 T42 L42 X42 q42 => ?_)
              obtain ⟨h42, e42⟩ : ∃ z, T42.heap = z := ⟨_, rfl⟩
              rw [e42] at q42
              obtain ⟨rfl, N42q, K42⟩ := q42
              have N42 := Fr.app N39 N42q
              have fZ_q_42 : h0.size ≤ h42.size := (Nat.le_trans fZ_q_41 K42.1)
              have O0_q_42 : Old Z h0.size h42 := (O0_q_41.keep K42 (allS n_a41 all0))
              have A7_q_42 : Exa Z h42 a7 "java/lang/String" := (A7_q_41.keep K42)
              have V8_q_42 : Arv Z h42 a8 k8 .char (1 : Int32) [(.int (nar .char ((p4 &&& (255 : Int32))).toUInt32.toUInt16.toUInt32.toInt32))] (.int (0 : Int32)) := (V8_q_41.keep K42 (ninS ne_a8_a41 nin0))
              have A11_q_42 : Exa Z h42 a11 "java/lang/String" := (A11_q_41.keep K42)
              have V12_q_42 : Arv Z h42 a12 k12 .char (2 : Int32) [(.int (nar .char (((XT.ushr p4 (8 : Int32)) &&& (255 : Int32))).toUInt32.toUInt16.toUInt32.toInt32)), (.int (nar .char (((XT.ushr p4 (16 : Int32)) &&& (255 : Int32))).toUInt32.toUInt16.toUInt32.toInt32))] (.int (0 : Int32)) := (V12_q_41.keep K42 (ninS ne_a12_a41 nin0))
              have A35_q_42 : Exa Z h42 a35 "com/example/item_type_store/itemtypestore/TypeSystemDraft$DeploymentDraft" := (A35_q_41.keep K42)
              have A36_q_42 : Exa Z h42 a36 "com/example/item_type_store/itemtypestore/model/Deployment" := (A36_q_41.keep K42)
              have G38_table_q_42 : Fld Z h42 a36 "com/example/item_type_store/itemtypestore/model/Deployment" "table" "Ljava/lang/String;" (.ref a37) := (G38_table_q_41.keep K42 (ninS ne_a36_a41 nin0))
              have G38_typecode_q_42 : Fld Z h42 a36 "com/example/item_type_store/itemtypestore/model/Deployment" "typecode" "I" (.int p3) := (G38_typecode_q_41.keep K42 (ninS ne_a36_a41 nin0))
              have G39_line_q_42 : Fld Z h42 a35 "com/example/item_type_store/itemtypestore/TypeSystemDraft$DeploymentDraft" "line" "I" (.int p2) := (G39_line_q_41.keep K42 (ninS ne_a35_a41 nin0))
              have G39_deployment_q_42 : Fld Z h42 a35 "com/example/item_type_store/itemtypestore/TypeSystemDraft$DeploymentDraft" "deployment" "Lcom/example/item_type_store/itemtypestore/model/Deployment;" (.ref a36) := (G39_deployment_q_41.keep K42 (ninS ne_a35_a41 nin0))
              have A40_q_42 : Exa Z h42 a40 "com/example/item_type_store/itemtypestore/TypeSystemDraft$TypeDraft" := (A40_q_41.keep K42)
              have F40_file_q_42 : Fld Z h42 a40 "com/example/item_type_store/itemtypestore/TypeSystemDraft$TypeDraft" "file" "Ljava/lang/String;" .null := (F40_file_q_41.keep K42 (ninS ne_a40_a41 nin0))
              have F40_line_q_42 : Fld Z h42 a40 "com/example/item_type_store/itemtypestore/TypeSystemDraft$TypeDraft" "line" "I" (.int (0 : Int32)) := (F40_line_q_41.keep K42 (ninS ne_a40_a41 nin0))
              have F40_code_q_42 : Fld Z h42 a40 "com/example/item_type_store/itemtypestore/TypeSystemDraft$TypeDraft" "code" "Ljava/lang/String;" .null := (F40_code_q_41.keep K42 (ninS ne_a40_a41 nin0))
              have F40_supertype_q_42 : Fld Z h42 a40 "com/example/item_type_store/itemtypestore/TypeSystemDraft$TypeDraft" "supertype" "Ljava/lang/String;" .null := (F40_supertype_q_41.keep K42 (ninS ne_a40_a41 nin0))
              have F40_direct_q_42 : Fld Z h42 a40 "com/example/item_type_store/itemtypestore/TypeSystemDraft$TypeDraft" "direct" "Z" (.int (0 : Int32)) := (F40_direct_q_41.keep K42 (ninS ne_a40_a41 nin0))
              have F40_isAbstract_q_42 : Fld Z h42 a40 "com/example/item_type_store/itemtypestore/TypeSystemDraft$TypeDraft" "isAbstract" "Z" (.int (0 : Int32)) := (F40_isAbstract_q_41.keep K42 (ninS ne_a40_a41 nin0))
              have F40_deployment_q_42 : Fld Z h42 a40 "com/example/item_type_store/itemtypestore/TypeSystemDraft$TypeDraft" "deployment" "Lcom/example/item_type_store/itemtypestore/TypeSystemDraft$DeploymentDraft;" .null := (F40_deployment_q_41.keep K42 (ninS ne_a40_a41 nin0))
              have F40_attributes_q_42 : Fld Z h42 a40 "com/example/item_type_store/itemtypestore/TypeSystemDraft$TypeDraft" "attributes" "Ljava/util/List;" .null := (F40_attributes_q_41.keep K42 (ninS ne_a40_a41 nin0))
              have F40_indexes_q_42 : Fld Z h42 a40 "com/example/item_type_store/itemtypestore/TypeSystemDraft$TypeDraft" "indexes" "Ljava/util/List;" .null := (F40_indexes_q_41.keep K42 (ninS ne_a40_a41 nin0))
              have F40_customProperties_q_42 : Fld Z h42 a40 "com/example/item_type_store/itemtypestore/TypeSystemDraft$TypeDraft" "customProperties" "Ljava/util/Map;" .null := (F40_customProperties_q_41.keep K42 (ninS ne_a40_a41 nin0))
              have A41_q_42 : Exa Z h42 a41 "java/util/ArrayList" := (A41.keep K42)
              show Go p.tables e below (Fin s (fun v h L => v = some (.int 1) ∧ Fr h0.size L) room_1.cells room_1.slots) T42 (mkF m 212 #[.val (.int p0), .val (.int p1), .val (.int p2), .val (.int p3), .val (.int p4), .val (.int p5), .val (.int b11), .val (.int b24), .val (.int ((XT.ushr p0 (2 : Int32)) &&& (3 : Int32))), .val (.int b45), .val (.ref a7), .val (.ref a11), .val v126, .val (.ref a35), .unset, .unset] [(.ref a41), (.ref a35), (.int b24), (.int b11), v126, (.ref a11), (.int p1), (.ref a7), (.ref a40), (.ref a40)])
              obtain ⟨T43, h43, X43, e43, E43, A43, D43, -, st43⟩ := newO X42 hx hZ hown (hw _ (List.mem_of_getElem? (i := 33) rfl)) (hw _ (List.mem_of_getElem? (i := 34) rfl)) (hw _ (List.mem_of_getElem? (i := 35) rfl)) e42 (g := (mkF m 212 #[.val (.int p0), .val (.int p1), .val (.int p2), .val (.int p3), .val (.int p4), .val (.int p5), .val (.int b11), .val (.int b24), .val (.int ((XT.ushr p0 (2 : Int32)) &&& (3 : Int32))), .val (.int b45), .val (.ref a7), .val (.ref a11), .val v126, .val (.ref a35), .unset, .unset] [(.ref a41), (.ref a35), (.int b24), (.int b11), v126, (.ref a11), (.int p1), (.ref a7), (.ref a40), (.ref a40)])) rfl (hb hby at_212) (by decide) (by decide)
              obtain ⟨a43, g43⟩ : ∃ z, z = h42.size := ⟨_, rfl⟩
              rw [← g43] at A43 D43 st43
              have n_a43 : h0.size ≤ a43 := Nat.le_trans fZ_q_42 (Nat.le_of_eq g43.symm)
              have ne_a7_a43 : a7 ≠ a43 := Nat.ne_of_lt (Nat.lt_of_lt_of_eq A7_q_42.lt g43.symm)
              have ne_a8_a43 : a8 ≠ a43 := Nat.ne_of_lt (Nat.lt_of_lt_of_eq V8_q_42.lt g43.symm)
              have ne_a11_a43 : a11 ≠ a43 := Nat.ne_of_lt (Nat.lt_of_lt_of_eq A11_q_42.lt g43.symm)
              have ne_a12_a43 : a12 ≠ a43 := Nat.ne_of_lt (Nat.lt_of_lt_of_eq V12_q_42.lt g43.symm)
              have ne_a35_a43 : a35 ≠ a43 := Nat.ne_of_lt (Nat.lt_of_lt_of_eq A35_q_42.lt g43.symm)
              have ne_a36_a43 : a36 ≠ a43 := Nat.ne_of_lt (Nat.lt_of_lt_of_eq A36_q_42.lt g43.symm)
              have ne_a40_a43 : a40 ≠ a43 := Nat.ne_of_lt (Nat.lt_of_lt_of_eq A40_q_42.lt g43.symm)
              have ne_a41_a43 : a41 ≠ a43 := Nat.ne_of_lt (Nat.lt_of_lt_of_eq A41_q_42.lt g43.symm)
              have fZ_q_43 : h0.size ≤ h43.size := (Nat.le_trans fZ_q_42 E43.1)
              have O0_q_43 : Old Z h0.size h43 := (O0_q_42.ext E43)
              have A7_q_43 : Exa Z h43 a7 "java/lang/String" := (A7_q_42.ext E43)
              have V8_q_43 : Arv Z h43 a8 k8 .char (1 : Int32) [(.int (nar .char ((p4 &&& (255 : Int32))).toUInt32.toUInt16.toUInt32.toInt32))] (.int (0 : Int32)) := (V8_q_42.ext E43)
              have A11_q_43 : Exa Z h43 a11 "java/lang/String" := (A11_q_42.ext E43)
              have V12_q_43 : Arv Z h43 a12 k12 .char (2 : Int32) [(.int (nar .char (((XT.ushr p4 (8 : Int32)) &&& (255 : Int32))).toUInt32.toUInt16.toUInt32.toInt32)), (.int (nar .char (((XT.ushr p4 (16 : Int32)) &&& (255 : Int32))).toUInt32.toUInt16.toUInt32.toInt32))] (.int (0 : Int32)) := (V12_q_42.ext E43)
              have A35_q_43 : Exa Z h43 a35 "com/example/item_type_store/itemtypestore/TypeSystemDraft$DeploymentDraft" := (A35_q_42.ext E43)
              have A36_q_43 : Exa Z h43 a36 "com/example/item_type_store/itemtypestore/model/Deployment" := (A36_q_42.ext E43)
              have G38_table_q_43 : Fld Z h43 a36 "com/example/item_type_store/itemtypestore/model/Deployment" "table" "Ljava/lang/String;" (.ref a37) := (G38_table_q_42.ext E43)
              have G38_typecode_q_43 : Fld Z h43 a36 "com/example/item_type_store/itemtypestore/model/Deployment" "typecode" "I" (.int p3) := (G38_typecode_q_42.ext E43)
              have G39_line_q_43 : Fld Z h43 a35 "com/example/item_type_store/itemtypestore/TypeSystemDraft$DeploymentDraft" "line" "I" (.int p2) := (G39_line_q_42.ext E43)
              have G39_deployment_q_43 : Fld Z h43 a35 "com/example/item_type_store/itemtypestore/TypeSystemDraft$DeploymentDraft" "deployment" "Lcom/example/item_type_store/itemtypestore/model/Deployment;" (.ref a36) := (G39_deployment_q_42.ext E43)
              have A40_q_43 : Exa Z h43 a40 "com/example/item_type_store/itemtypestore/TypeSystemDraft$TypeDraft" := (A40_q_42.ext E43)
              have F40_file_q_43 : Fld Z h43 a40 "com/example/item_type_store/itemtypestore/TypeSystemDraft$TypeDraft" "file" "Ljava/lang/String;" .null := (F40_file_q_42.ext E43)
              have F40_line_q_43 : Fld Z h43 a40 "com/example/item_type_store/itemtypestore/TypeSystemDraft$TypeDraft" "line" "I" (.int (0 : Int32)) := (F40_line_q_42.ext E43)
              have F40_code_q_43 : Fld Z h43 a40 "com/example/item_type_store/itemtypestore/TypeSystemDraft$TypeDraft" "code" "Ljava/lang/String;" .null := (F40_code_q_42.ext E43)
              have F40_supertype_q_43 : Fld Z h43 a40 "com/example/item_type_store/itemtypestore/TypeSystemDraft$TypeDraft" "supertype" "Ljava/lang/String;" .null := (F40_supertype_q_42.ext E43)
              have F40_direct_q_43 : Fld Z h43 a40 "com/example/item_type_store/itemtypestore/TypeSystemDraft$TypeDraft" "direct" "Z" (.int (0 : Int32)) := (F40_direct_q_42.ext E43)
              have F40_isAbstract_q_43 : Fld Z h43 a40 "com/example/item_type_store/itemtypestore/TypeSystemDraft$TypeDraft" "isAbstract" "Z" (.int (0 : Int32)) := (F40_isAbstract_q_42.ext E43)
              have F40_deployment_q_43 : Fld Z h43 a40 "com/example/item_type_store/itemtypestore/TypeSystemDraft$TypeDraft" "deployment" "Lcom/example/item_type_store/itemtypestore/TypeSystemDraft$DeploymentDraft;" .null := (F40_deployment_q_42.ext E43)
              have F40_attributes_q_43 : Fld Z h43 a40 "com/example/item_type_store/itemtypestore/TypeSystemDraft$TypeDraft" "attributes" "Ljava/util/List;" .null := (F40_attributes_q_42.ext E43)
              have F40_indexes_q_43 : Fld Z h43 a40 "com/example/item_type_store/itemtypestore/TypeSystemDraft$TypeDraft" "indexes" "Ljava/util/List;" .null := (F40_indexes_q_42.ext E43)
              have F40_customProperties_q_43 : Fld Z h43 a40 "com/example/item_type_store/itemtypestore/TypeSystemDraft$TypeDraft" "customProperties" "Ljava/util/Map;" .null := (F40_customProperties_q_42.ext E43)
              have A41_q_43 : Exa Z h43 a41 "java/util/ArrayList" := (A41_q_42.ext E43)
              have F43_modCount : Fld Z h43 a43 "java/util/AbstractList" "modCount" "I" (.int (0 : Int32)) := D43 (Or.inl (hw _ (List.mem_of_getElem? (i := 53) rfl))) (ty := .int) (by decide)
              have F43_elementData : Fld Z h43 a43 "java/util/ArrayList" "elementData" "[Ljava/lang/Object;" .null := D43 (Or.inl (hw _ (List.mem_of_getElem? (i := 56) rfl))) (ty := (.array (.object "java/lang/Object"))) (by decide)
              refine Go.st (T' := T43) (g' := (mkF m 215 #[.val (.int p0), .val (.int p1), .val (.int p2), .val (.int p3), .val (.int p4), .val (.int p5), .val (.int b11), .val (.int b24), .val (.int ((XT.ushr p0 (2 : Int32)) &&& (3 : Int32))), .val (.int b45), .val (.ref a7), .val (.ref a11), .val v126, .val (.ref a35), .unset, .unset] [(.ref a43), (.ref a41), (.ref a35), (.int b24), (.int b11), v126, (.ref a11), (.int p1), (.ref a7), (.ref a40), (.ref a40)])) st43 ?_
              refine Go.st (T' := T43) (g' := (mkF m 216 #[.val (.int p0), .val (.int p1), .val (.int p2), .val (.int p3), .val (.int p4), .val (.int p5), .val (.int b11), .val (.int b24), .val (.int ((XT.ushr p0 (2 : Int32)) &&& (3 : Int32))), .val (.int b45), .val (.ref a7), .val (.ref a11), .val v126, .val (.ref a35), .unset, .unset] [(.ref a43), (.ref a43), (.ref a41), (.ref a35), (.int b24), (.int b11), v126, (.ref a11), (.int p1), (.ref a7), (.ref a40), (.ref a40)])) (fun _ hr => XS.dup X43.here hx rfl (hb hby at_215) rfl rfl hr) ?_
              refine Go.callC X43 hx hZ hown (W := 11) (y := (⟨"java/util/ArrayList", "<init>", "()V"⟩ : MethodName)) rfl (hw _ (List.mem_of_getElem? (i := 36) rfl)) (hw _ (List.mem_of_getElem? (i := 37) rfl)) (hw _ (List.mem_of_getElem? (i := 35) rfl)) (hw _ (List.mem_of_getElem? (i := 38) rfl)) (by decide) e43 (rm7 l Z a0 hw a43 dc h43 rdc h0.size n_a43 fZ_q_43 O0_q_43 A43 F43_modCount F43_elementData D0) (by decide) (by decide) (by decide) (by decide) (g := (mkF m 216 #[.val (.int p0), .val (.int p1), .val (.int p2), .val (.int p3), .val (.int p4), .val (.int p5), .val (.int b11), .val (.int b24), .val (.int ((XT.ushr p0 (2 : Int32)) &&& (3 : Int32))), .val (.int b45), .val (.ref a7), .val (.ref a11), .val v126, .val (.ref a35), .unset, .unset] [(.ref a43), (.ref a43), (.ref a41), (.ref a35), (.int b24), (.int b11), v126, (.ref a11), (.int p1), (.ref a7), (.ref a40), (.ref a40)])) rfl (by rw [hml]; rfl) (argsL := []) (rest := [(.ref a43), (.ref a41), (.ref a35), (.int b24), (.int b11), v126, (.ref a11), (.int p1), (.ref a7), (.ref a40), (.ref a40)]) (lenOf pd_3 rfl) rfl (by simp only [List.map_cons, XT.cat1 r_v126]; exact Nat.le_of_eq rfl) (hb hby at_216) (fun v44 T44 L44 X44 q44 => ?_)
              obtain ⟨h44, e44⟩ : ∃ z, T44.heap = z := ⟨_, rfl⟩
              rw [e44] at q44
              obtain ⟨rfl, N44q, K44⟩ := q44
              have N44 := Fr.app N42 N44q
              have fZ_q_44 : h0.size ≤ h44.size := (Nat.le_trans fZ_q_43 K44.1)
              have O0_q_44 : Old Z h0.size h44 := (O0_q_43.keep K44 (allS n_a43 all0))
              have A7_q_44 : Exa Z h44 a7 "java/lang/String" := (A7_q_43.keep K44)
              have V8_q_44 : Arv Z h44 a8 k8 .char (1 : Int32) [(.int (nar .char ((p4 &&& (255 : Int32))).toUInt32.toUInt16.toUInt32.toInt32))] (.int (0 : Int32)) := (V8_q_43.keep K44 (ninS ne_a8_a43 nin0))
              have A11_q_44 : Exa Z h44 a11 "java/lang/String" := (A11_q_43.keep K44)
              have V12_q_44 : Arv Z h44 a12 k12 .char (2 : Int32) [(.int (nar .char (((XT.ushr p4 (8 : Int32)) &&& (255 : Int32))).toUInt32.toUInt16.toUInt32.toInt32)), (.int (nar .char (((XT.ushr p4 (16 : Int32)) &&& (255 : Int32))).toUInt32.toUInt16.toUInt32.toInt32))] (.int (0 : Int32)) := (V12_q_43.keep K44 (ninS ne_a12_a43 nin0))
              have A35_q_44 : Exa Z h44 a35 "com/example/item_type_store/itemtypestore/TypeSystemDraft$DeploymentDraft" := (A35_q_43.keep K44)
              have A36_q_44 : Exa Z h44 a36 "com/example/item_type_store/itemtypestore/model/Deployment" := (A36_q_43.keep K44)
              have G38_table_q_44 : Fld Z h44 a36 "com/example/item_type_store/itemtypestore/model/Deployment" "table" "Ljava/lang/String;" (.ref a37) := (G38_table_q_43.keep K44 (ninS ne_a36_a43 nin0))
              have G38_typecode_q_44 : Fld Z h44 a36 "com/example/item_type_store/itemtypestore/model/Deployment" "typecode" "I" (.int p3) := (G38_typecode_q_43.keep K44 (ninS ne_a36_a43 nin0))
              have G39_line_q_44 : Fld Z h44 a35 "com/example/item_type_store/itemtypestore/TypeSystemDraft$DeploymentDraft" "line" "I" (.int p2) := (G39_line_q_43.keep K44 (ninS ne_a35_a43 nin0))
              have G39_deployment_q_44 : Fld Z h44 a35 "com/example/item_type_store/itemtypestore/TypeSystemDraft$DeploymentDraft" "deployment" "Lcom/example/item_type_store/itemtypestore/model/Deployment;" (.ref a36) := (G39_deployment_q_43.keep K44 (ninS ne_a35_a43 nin0))
              have A40_q_44 : Exa Z h44 a40 "com/example/item_type_store/itemtypestore/TypeSystemDraft$TypeDraft" := (A40_q_43.keep K44)
              have F40_file_q_44 : Fld Z h44 a40 "com/example/item_type_store/itemtypestore/TypeSystemDraft$TypeDraft" "file" "Ljava/lang/String;" .null := (F40_file_q_43.keep K44 (ninS ne_a40_a43 nin0))
              have F40_line_q_44 : Fld Z h44 a40 "com/example/item_type_store/itemtypestore/TypeSystemDraft$TypeDraft" "line" "I" (.int (0 : Int32)) := (F40_line_q_43.keep K44 (ninS ne_a40_a43 nin0))
              have F40_code_q_44 : Fld Z h44 a40 "com/example/item_type_store/itemtypestore/TypeSystemDraft$TypeDraft" "code" "Ljava/lang/String;" .null := (F40_code_q_43.keep K44 (ninS ne_a40_a43 nin0))
              have F40_supertype_q_44 : Fld Z h44 a40 "com/example/item_type_store/itemtypestore/TypeSystemDraft$TypeDraft" "supertype" "Ljava/lang/String;" .null := (F40_supertype_q_43.keep K44 (ninS ne_a40_a43 nin0))
              have F40_direct_q_44 : Fld Z h44 a40 "com/example/item_type_store/itemtypestore/TypeSystemDraft$TypeDraft" "direct" "Z" (.int (0 : Int32)) := (F40_direct_q_43.keep K44 (ninS ne_a40_a43 nin0))
              have F40_isAbstract_q_44 : Fld Z h44 a40 "com/example/item_type_store/itemtypestore/TypeSystemDraft$TypeDraft" "isAbstract" "Z" (.int (0 : Int32)) := (F40_isAbstract_q_43.keep K44 (ninS ne_a40_a43 nin0))
              have F40_deployment_q_44 : Fld Z h44 a40 "com/example/item_type_store/itemtypestore/TypeSystemDraft$TypeDraft" "deployment" "Lcom/example/item_type_store/itemtypestore/TypeSystemDraft$DeploymentDraft;" .null := (F40_deployment_q_43.keep K44 (ninS ne_a40_a43 nin0))
              have F40_attributes_q_44 : Fld Z h44 a40 "com/example/item_type_store/itemtypestore/TypeSystemDraft$TypeDraft" "attributes" "Ljava/util/List;" .null := (F40_attributes_q_43.keep K44 (ninS ne_a40_a43 nin0))
              have F40_indexes_q_44 : Fld Z h44 a40 "com/example/item_type_store/itemtypestore/TypeSystemDraft$TypeDraft" "indexes" "Ljava/util/List;" .null := (F40_indexes_q_43.keep K44 (ninS ne_a40_a43 nin0))
              have F40_customProperties_q_44 : Fld Z h44 a40 "com/example/item_type_store/itemtypestore/TypeSystemDraft$TypeDraft" "customProperties" "Ljava/util/Map;" .null := (F40_customProperties_q_43.keep K44 (ninS ne_a40_a43 nin0))
              have A41_q_44 : Exa Z h44 a41 "java/util/ArrayList" := (A41_q_43.keep K44)
              have A43_q_44 : Exa Z h44 a43 "java/util/ArrayList" := (A43.keep K44)
              show Go p.tables e below (Fin s (fun v h L => v = some (.int 1) ∧ Fr h0.size L) room_1.cells room_1.slots) T44 (mkF m 219 #[.val (.int p0), .val (.int p1), .val (.int p2), .val (.int p3), .val (.int p4), .val (.int p5), .val (.int b11), .val (.int b24), .val (.int ((XT.ushr p0 (2 : Int32)) &&& (3 : Int32))), .val (.int b45), .val (.ref a7), .val (.ref a11), .val v126, .val (.ref a35), .unset, .unset] [(.ref a43), (.ref a41), (.ref a35), (.int b24), (.int b11), v126, (.ref a11), (.int p1), (.ref a7), (.ref a40), (.ref a40)])
              refine Go.st (T' := T44) (g' := (mkF m 220 #[.val (.int p0), .val (.int p1), .val (.int p2), .val (.int p3), .val (.int p4), .val (.int p5), .val (.int b11), .val (.int b24), .val (.int ((XT.ushr p0 (2 : Int32)) &&& (3 : Int32))), .val (.int b45), .val (.ref a7), .val (.ref a11), .val v126, .val (.ref a35), .unset, .unset] [.null, (.ref a43), (.ref a41), (.ref a35), (.int b24), (.int b11), v126, (.ref a11), (.int p1), (.ref a7), (.ref a40), (.ref a40)])) (fun _ hr => XS.aconstNull X44.here hx rfl (hb hby at_219) hr) ?_
              refine Go.callC X44 hx hZ hown (W := 1) (y := (⟨"com/example/item_type_store/itemtypestore/TypeSystemDraft$TypeDraft", "<init>", "(Ljava/lang/String;ILjava/lang/String;Ljava/lang/String;ZZLcom/example/item_type_store/itemtypestore/TypeSystemDraft$DeploymentDraft;Ljava/util/List;Ljava/util/List;Ljava/util/Map;)V"⟩ : MethodName)) rfl (hw _ (List.mem_of_getElem? (i := 57) rfl)) (hw _ (List.mem_of_getElem? (i := 58) rfl)) (hw _ (List.mem_of_getElem? (i := 32) rfl)) (hw _ (List.mem_of_getElem? (i := 59) rfl)) (by decide) e44 (rm10 l Z a0 hw a40 (.ref a7) p1 (.ref a11) v126 b11 b24 (.ref a35) (.ref a41) (.ref a43) .null  rfl rfl r_v126 rfl rfl rfl rfl h44 h0.size n_a40 A40_q_44 F40_file_q_44 F40_line_q_44 F40_code_q_44 F40_supertype_q_44 F40_direct_q_44 F40_isAbstract_q_44 F40_deployment_q_44 F40_attributes_q_44 F40_indexes_q_44 F40_customProperties_q_44) (by decide) (by decide) (by decide) (by decide) (g := (mkF m 220 #[.val (.int p0), .val (.int p1), .val (.int p2), .val (.int p3), .val (.int p4), .val (.int p5), .val (.int b11), .val (.int b24), .val (.int ((XT.ushr p0 (2 : Int32)) &&& (3 : Int32))), .val (.int b45), .val (.ref a7), .val (.ref a11), .val v126, .val (.ref a35), .unset, .unset] [.null, (.ref a43), (.ref a41), (.ref a35), (.int b24), (.int b11), v126, (.ref a11), (.int p1), (.ref a7), (.ref a40), (.ref a40)])) rfl (by rw [hml]; rfl) (argsL := [(.ref a7), (.int p1), (.ref a11), v126, (.int b11), (.int b24), (.ref a35), (.ref a41), (.ref a43), .null]) (rest := [(.ref a40)]) (lenOf pd_10 rfl) rfl (by show 2 * 0 + _ ≤ _; exact Nat.le_of_eq rfl) (hb hby at_220) (fun v45 T45 L45 X45 q45 => ?_)
              obtain ⟨h45, e45⟩ : ∃ z, T45.heap = z := ⟨_, rfl⟩
              rw [e45] at q45
              obtain ⟨rfl, N45q, K45, G45_file, G45_line, G45_code, G45_supertype, G45_direct, G45_isAbstract, G45_deployment, G45_attributes, G45_indexes, G45_customProperties⟩ := q45
              have N45 := Fr.app N44 N45q
              have fZ_q_45 : h0.size ≤ h45.size := (Nat.le_trans fZ_q_44 K45.1)
              have O0_q_45 : Old Z h0.size h45 := (O0_q_44.keep K45 (allS n_a40 all0))
              have A7_q_45 : Exa Z h45 a7 "java/lang/String" := (A7_q_44.keep K45)
              have V8_q_45 : Arv Z h45 a8 k8 .char (1 : Int32) [(.int (nar .char ((p4 &&& (255 : Int32))).toUInt32.toUInt16.toUInt32.toInt32))] (.int (0 : Int32)) := (V8_q_44.keep K45 (ninS ne_a8_a40 nin0))
              have A11_q_45 : Exa Z h45 a11 "java/lang/String" := (A11_q_44.keep K45)
              have V12_q_45 : Arv Z h45 a12 k12 .char (2 : Int32) [(.int (nar .char (((XT.ushr p4 (8 : Int32)) &&& (255 : Int32))).toUInt32.toUInt16.toUInt32.toInt32)), (.int (nar .char (((XT.ushr p4 (16 : Int32)) &&& (255 : Int32))).toUInt32.toUInt16.toUInt32.toInt32))] (.int (0 : Int32)) := (V12_q_44.keep K45 (ninS ne_a12_a40 nin0))
              have A35_q_45 : Exa Z h45 a35 "com/example/item_type_store/itemtypestore/TypeSystemDraft$DeploymentDraft" := (A35_q_44.keep K45)
              have A36_q_45 : Exa Z h45 a36 "com/example/item_type_store/itemtypestore/model/Deployment" := (A36_q_44.keep K45)
              have G38_table_q_45 : Fld Z h45 a36 "com/example/item_type_store/itemtypestore/model/Deployment" "table" "Ljava/lang/String;" (.ref a37) := (G38_table_q_44.keep K45 (ninS ne_a36_a40 nin0))
              have G38_typecode_q_45 : Fld Z h45 a36 "com/example/item_type_store/itemtypestore/model/Deployment" "typecode" "I" (.int p3) := (G38_typecode_q_44.keep K45 (ninS ne_a36_a40 nin0))
              have G39_line_q_45 : Fld Z h45 a35 "com/example/item_type_store/itemtypestore/TypeSystemDraft$DeploymentDraft" "line" "I" (.int p2) := (G39_line_q_44.keep K45 (ninS ne_a35_a40 nin0))
              have G39_deployment_q_45 : Fld Z h45 a35 "com/example/item_type_store/itemtypestore/TypeSystemDraft$DeploymentDraft" "deployment" "Lcom/example/item_type_store/itemtypestore/model/Deployment;" (.ref a36) := (G39_deployment_q_44.keep K45 (ninS ne_a35_a40 nin0))
              have A40_q_45 : Exa Z h45 a40 "com/example/item_type_store/itemtypestore/TypeSystemDraft$TypeDraft" := (A40_q_44.keep K45)
              have A41_q_45 : Exa Z h45 a41 "java/util/ArrayList" := (A41_q_44.keep K45)
              have A43_q_45 : Exa Z h45 a43 "java/util/ArrayList" := (A43_q_44.keep K45)
              show Go p.tables e below (Fin s (fun v h L => v = some (.int 1) ∧ Fr h0.size L) room_1.cells room_1.slots) T45 (mkF m 223 #[.val (.int p0), .val (.int p1), .val (.int p2), .val (.int p3), .val (.int p4), .val (.int p5), .val (.int b11), .val (.int b24), .val (.int ((XT.ushr p0 (2 : Int32)) &&& (3 : Int32))), .val (.int b45), .val (.ref a7), .val (.ref a11), .val v126, .val (.ref a35), .unset, .unset] [(.ref a40)])
              refine Go.st (T' := T45) (g' := (mkF m 225 #[.val (.int p0), .val (.int p1), .val (.int p2), .val (.int p3), .val (.int p4), .val (.int p5), .val (.int b11), .val (.int b24), .val (.int ((XT.ushr p0 (2 : Int32)) &&& (3 : Int32))), .val (.int b45), .val (.ref a7), .val (.ref a11), .val v126, .val (.ref a35), .val (.ref a40), .unset] [])) (fun _ hr => XS.astore X45.here hx rfl (hb hby at_223) rfl rfl (l' := #[.val (.int p0), .val (.int p1), .val (.int p2), .val (.int p3), .val (.int p4), .val (.int p5), .val (.int b11), .val (.int b24), .val (.int ((XT.ushr p0 (2 : Int32)) &&& (3 : Int32))), .val (.int b45), .val (.ref a7), .val (.ref a11), .val v126, .val (.ref a35), .val (.ref a40), .unset]) rfl hr) ?_
              refine Go.st (T' := T45) (g' := (mkF m 227 #[.val (.int p0), .val (.int p1), .val (.int p2), .val (.int p3), .val (.int p4), .val (.int p5), .val (.int b11), .val (.int b24), .val (.int ((XT.ushr p0 (2 : Int32)) &&& (3 : Int32))), .val (.int b45), .val (.ref a7), .val (.ref a11), .val v126, .val (.ref a35), .val (.ref a40), .unset] [(.int ((XT.ushr p0 (2 : Int32)) &&& (3 : Int32)))])) (fun _ hr => XS.iload X45.here hx rfl (hb hby at_225) rfl hr) ?_
              refine Go.st (T' := T45) (g' := (mkF m 237 #[.val (.int p0), .val (.int p1), .val (.int p2), .val (.int p3), .val (.int p4), .val (.int p5), .val (.int b11), .val (.int b24), .val (.int ((XT.ushr p0 (2 : Int32)) &&& (3 : Int32))), .val (.int b45), .val (.ref a7), .val (.ref a11), .val v126, .val (.ref a35), .val (.ref a40), .unset] [])) (fun _ hr => XS.ifYes X45.here hx rfl (pc0 := 227) (pc' := 237) rfl (hb hby at_227) rfl (XT.i0_ne_t (own_k2 c154_27)) (by decide) (by decide) hr) ?_
              refine Go.st (T' := T45) (g' := (mkF m 238 #[.val (.int p0), .val (.int p1), .val (.int p2), .val (.int p3), .val (.int p4), .val (.int p5), .val (.int b11), .val (.int b24), .val (.int ((XT.ushr p0 (2 : Int32)) &&& (3 : Int32))), .val (.int b45), .val (.ref a7), .val (.ref a11), .val v126, .val (.ref a35), .val (.ref a40), .unset] [(.int (0 : Int32))])) (fun _ hr => XT.iconstV X45.here hx rfl (0 : Int32) (hb hby at_237) (by decide) hr) ?_
              refine Go.st (T' := T45) (g' := (mkF m 240 #[.val (.int p0), .val (.int p1), .val (.int p2), .val (.int p3), .val (.int p4), .val (.int p5), .val (.int b11), .val (.int b24), .val (.int ((XT.ushr p0 (2 : Int32)) &&& (3 : Int32))), .val (.int b45), .val (.ref a7), .val (.ref a11), .val v126, .val (.ref a35), .val (.ref a40), .val (.int (0 : Int32))] [])) (fun _ hr => XS.istore X45.here hx rfl (hb hby at_238) rfl (l' := #[.val (.int p0), .val (.int p1), .val (.int p2), .val (.int p3), .val (.int p4), .val (.int p5), .val (.int b11), .val (.int b24), .val (.int ((XT.ushr p0 (2 : Int32)) &&& (3 : Int32))), .val (.int b45), .val (.ref a7), .val (.ref a11), .val v126, .val (.ref a35), .val (.ref a40), .val (.int (0 : Int32))]) rfl hr) ?_
              refine Go.st (T' := T45) (g' := (mkF m 242 #[.val (.int p0), .val (.int p1), .val (.int p2), .val (.int p3), .val (.int p4), .val (.int p5), .val (.int b11), .val (.int b24), .val (.int ((XT.ushr p0 (2 : Int32)) &&& (3 : Int32))), .val (.int b45), .val (.ref a7), .val (.ref a11), .val v126, .val (.ref a35), .val (.ref a40), .val (.int (0 : Int32))] [(.ref a40)])) (fun _ hr => XS.aload X45.here hx rfl (hb hby at_240) rfl rfl hr) ?_
              refine Go.callV X45 hx hZ hown (W := 0) (y := (⟨"com/example/item_type_store/itemtypestore/TypeSystemDraft$TypeDraft", "lacksDeployment", "()Z"⟩ : MethodName)) (hw _ (List.mem_of_getElem? (i := 86) rfl)) (hw _ (List.mem_of_getElem? (i := 87) rfl)) (hw _ (List.mem_of_getElem? (i := 89) rfl)) (hw _ (List.mem_of_getElem? (i := 88) rfl)) (hw _ (List.mem_of_getElem? (i := 32) rfl)) (hw _ (List.mem_of_getElem? (i := 90) rfl)) (by decide) rfl e45 A40_q_45 (rm12r l Z a0 hw a40 a35 (nar .boolean b11) h45 G45_direct G45_deployment) (by decide) (by decide) (by decide) (by decide) (g := (mkF m 242 #[.val (.int p0), .val (.int p1), .val (.int p2), .val (.int p3), .val (.int p4), .val (.int p5), .val (.int b11), .val (.int b24), .val (.int ((XT.ushr p0 (2 : Int32)) &&& (3 : Int32))), .val (.int b45), .val (.ref a7), .val (.ref a11), .val v126, .val (.ref a35), .val (.ref a40), .val (.int (0 : Int32))] [(.ref a40)])) rfl (by rw [hml]; rfl) (argsL := []) (rest := []) (lenOf pd_13 rfl) rfl (by show 2 * 0 + _ ≤ _; exact Nat.le_of_eq rfl) (hb hby at_242) (fun v46 T46 L46 X46 q46 => ?_)
              obtain ⟨rfl, rfl, e46⟩ := q46
              rw [List.append_nil] at X46
              show Go p.tables e below (Fin s (fun v h L => v = some (.int 1) ∧ Fr h0.size L) room_1.cells room_1.slots) T46 (mkF m 245 #[.val (.int p0), .val (.int p1), .val (.int p2), .val (.int p3), .val (.int p4), .val (.int p5), .val (.int b11), .val (.int b24), .val (.int ((XT.ushr p0 (2 : Int32)) &&& (3 : Int32))), .val (.int b45), .val (.ref a7), .val (.ref a11), .val v126, .val (.ref a35), .val (.ref a40), .val (.int (0 : Int32))] [(.int (f12r (nar .boolean b11)))])
              refine Go.st (T' := T46) (g' := (mkF m 247 #[.val (.int p0), .val (.int p1), .val (.int p2), .val (.int p3), .val (.int p4), .val (.int p5), .val (.int b11), .val (.int b24), .val (.int ((XT.ushr p0 (2 : Int32)) &&& (3 : Int32))), .val (.int b45), .val (.ref a7), .val (.ref a11), .val v126, .val (.ref a35), .val (.ref a40), .val (.int (0 : Int32))] [(.int (0 : Int32)), (.int (f12r (nar .boolean b11)))])) (fun _ hr => XS.iload X46.here hx rfl (hb hby at_245) rfl hr) ?_
              refine Go.st (T' := T46) (g' := (mkF m 250 #[.val (.int p0), .val (.int p1), .val (.int p2), .val (.int p3), .val (.int p4), .val (.int p5), .val (.int b11), .val (.int b24), .val (.int ((XT.ushr p0 (2 : Int32)) &&& (3 : Int32))), .val (.int b45), .val (.ref a7), .val (.ref a11), .val v126, .val (.ref a35), .val (.ref a40), .val (.int (0 : Int32))] [])) (fun _ hr => XS.icmpNo X46.here hx rfl (hb hby at_247) rfl (XT.ii_ne_f (own_some _)) hr) ?_
              refine Go.st (T' := T46) (g' := (mkF m 251 #[.val (.int p0), .val (.int p1), .val (.int p2), .val (.int p3), .val (.int p4), .val (.int p5), .val (.int b11), .val (.int b24), .val (.int ((XT.ushr p0 (2 : Int32)) &&& (3 : Int32))), .val (.int b45), .val (.ref a7), .val (.ref a11), .val v126, .val (.ref a35), .val (.ref a40), .val (.int (0 : Int32))] [(.int (1 : Int32))])) (fun _ hr => XT.iconstV X46.here hx rfl (1 : Int32) (hb hby at_250) (by decide) hr) ?_
              refine Go.st (T' := T46) (g' := (mkF m 255 #[.val (.int p0), .val (.int p1), .val (.int p2), .val (.int p3), .val (.int p4), .val (.int p5), .val (.int b11), .val (.int b24), .val (.int ((XT.ushr p0 (2 : Int32)) &&& (3 : Int32))), .val (.int b45), .val (.ref a7), .val (.ref a11), .val v126, .val (.ref a35), .val (.ref a40), .val (.int (0 : Int32))] [(.int (1 : Int32))])) (fun _ hr => XS.goto X46.here hx rfl (pc0 := 251) (pc' := 255) rfl (hb hby at_251) (by decide) (by decide) hr) ?_
              exact Go.retN X46 hx hlk hret (by simp) (hb hby at_255) (by decide) (by decide) ⟨rfl, N45⟩
        by_cases c109_47 : b45 = (0 : Int32)
        · refine Go.st (T' := T15) (g' := (mkF m 125 #[.val (.int p0), .val (.int p1), .val (.int p2), .val (.int p3), .val (.int p4), .val (.int p5), .val (.int b11), .val (.int b24), .val (.int ((XT.ushr p0 (2 : Int32)) &&& (3 : Int32))), .val (.int b45), .val (.ref a7), .val (.ref a11), .unset, .unset, .unset, .unset] [])) (fun _ hr => XS.ifYes X15.here hx rfl (pc0 := 109) (pc' := 125) rfl (hb hby at_109) rfl (XT.i0_eq_t c109_47) (by decide) (by decide) hr) ?_
          refine Go.st (T' := T15) (g' := (mkF m 126 #[.val (.int p0), .val (.int p1), .val (.int p2), .val (.int p3), .val (.int p4), .val (.int p5), .val (.int b11), .val (.int b24), .val (.int ((XT.ushr p0 (2 : Int32)) &&& (3 : Int32))), .val (.int b45), .val (.ref a7), .val (.ref a11), .unset, .unset, .unset, .unset] [.null])) (fun _ hr => XS.aconstNull X15.here hx rfl (hb hby at_125) hr) ?_
          exact J126_16 T15 h15 _ .null rfl (X15.more (by decide) (by decide)) e15 N15 fZ_q_15 O0_q_15 A7_q_15 V8_q_15 A11_q_15 V12_q_15
        · refine Go.st (T' := T15) (g' := (mkF m 112 #[.val (.int p0), .val (.int p1), .val (.int p2), .val (.int p3), .val (.int p4), .val (.int p5), .val (.int b11), .val (.int b24), .val (.int ((XT.ushr p0 (2 : Int32)) &&& (3 : Int32))), .val (.int b45), .val (.ref a7), .val (.ref a11), .unset, .unset, .unset, .unset] [])) (fun _ hr => XS.ifNo X15.here hx rfl (hb hby at_109) rfl (XT.i0_eq_f c109_47) hr) ?_
          refine Go.st (T' := T15) (g' := (mkF m 114 #[.val (.int p0), .val (.int p1), .val (.int p2), .val (.int p3), .val (.int p4), .val (.int p5), .val (.int b11), .val (.int b24), .val (.int ((XT.ushr p0 (2 : Int32)) &&& (3 : Int32))), .val (.int b45), .val (.ref a7), .val (.ref a11), .unset, .unset, .unset, .unset] [(.int p5)])) (fun _ hr => XS.iload X15.here hx rfl (hb hby at_112) rfl hr) ?_
          refine Go.st (T' := T15) (g' := (mkF m 117 #[.val (.int p0), .val (.int p1), .val (.int p2), .val (.int p3), .val (.int p4), .val (.int p5), .val (.int b11), .val (.int b24), .val (.int ((XT.ushr p0 (2 : Int32)) &&& (3 : Int32))), .val (.int b45), .val (.ref a7), .val (.ref a11), .unset, .unset, .unset, .unset] [(.int (255 : Int32)), (.int p5)])) (fun _ hr => XT.sipushV X15.here hx rfl (255 : Int32) (hb hby at_114) (by decide) hr) ?_
          refine Go.st (T' := T15) (g' := (mkF m 118 #[.val (.int p0), .val (.int p1), .val (.int p2), .val (.int p3), .val (.int p4), .val (.int p5), .val (.int b11), .val (.int b24), .val (.int ((XT.ushr p0 (2 : Int32)) &&& (3 : Int32))), .val (.int b45), .val (.ref a7), .val (.ref a11), .unset, .unset, .unset, .unset] [(.int (p5 &&& (255 : Int32)))])) (fun _ hr => XS.iand X15.here hx rfl (hb hby at_117) rfl hr) ?_
          refine Go.st (T' := T15) (g' := (mkF m 119 #[.val (.int p0), .val (.int p1), .val (.int p2), .val (.int p3), .val (.int p4), .val (.int p5), .val (.int b11), .val (.int b24), .val (.int ((XT.ushr p0 (2 : Int32)) &&& (3 : Int32))), .val (.int b45), .val (.ref a7), .val (.ref a11), .unset, .unset, .unset, .unset] [(.int ((p5 &&& (255 : Int32))).toUInt32.toUInt16.toUInt32.toInt32)])) (fun _ hr => XT.i2c X15.here hx rfl (hb hby at_118) rfl hr) ?_
          refine Go.callS X15 hx hZ hown (W := 0) (hw _ (List.mem_of_getElem? (i := 102) rfl)) (hw _ (List.mem_of_getElem? (i := 103) rfl)) (hw _ (List.mem_of_getElem? (i := 2) rfl)) (hw _ (List.mem_of_getElem? (i := 104) rfl)) (by decide) e15 (rm14 l Z a0 hw (((p5 &&& (255 : Int32))).toUInt32.toUInt16.toUInt32.toInt32) w h15 (own_c255 _) hcs (S0.ext O0_q_15.2) h0.size fZ_q_15) (by decide) (by decide) (by decide) (by decide) (g := (mkF m 119 #[.val (.int p0), .val (.int p1), .val (.int p2), .val (.int p3), .val (.int p4), .val (.int p5), .val (.int b11), .val (.int b24), .val (.int ((XT.ushr p0 (2 : Int32)) &&& (3 : Int32))), .val (.int b45), .val (.ref a7), .val (.ref a11), .unset, .unset, .unset, .unset] [(.int ((p5 &&& (255 : Int32))).toUInt32.toUInt16.toUInt32.toInt32)])) rfl (by rw [hml]; rfl) (argsL := [(.int ((p5 &&& (255 : Int32))).toUInt32.toUInt16.toUInt32.toInt32)]) (rest := []) (lenOf pd_4 rfl) rfl (by show 2 * 0 + _ ≤ _; exact Nat.le_of_eq rfl) (hb hby at_119) (fun v48 T48 L48 X48 q48 => ?_)
          obtain ⟨h48, e48⟩ : ∃ z, T48.heap = z := ⟨_, rfl⟩
          rw [e48] at q48
          obtain ⟨a48, rfl, N48q, K48⟩ := q48
          have N48 := Fr.app N15 N48q
          have fZ_q_48 : h0.size ≤ h48.size := (Nat.le_trans fZ_q_15 K48.1)
          have O0_q_48 : Old Z h0.size h48 := (O0_q_15.keep K48 all0)
          have A7_q_48 : Exa Z h48 a7 "java/lang/String" := (A7_q_15.keep K48)
          have V8_q_48 : Arv Z h48 a8 k8 .char (1 : Int32) [(.int (nar .char ((p4 &&& (255 : Int32))).toUInt32.toUInt16.toUInt32.toInt32))] (.int (0 : Int32)) := (V8_q_15.keep K48 nin0)
          have A11_q_48 : Exa Z h48 a11 "java/lang/String" := (A11_q_15.keep K48)
          have V12_q_48 : Arv Z h48 a12 k12 .char (2 : Int32) [(.int (nar .char (((XT.ushr p4 (8 : Int32)) &&& (255 : Int32))).toUInt32.toUInt16.toUInt32.toInt32)), (.int (nar .char (((XT.ushr p4 (16 : Int32)) &&& (255 : Int32))).toUInt32.toUInt16.toUInt32.toInt32))] (.int (0 : Int32)) := (V12_q_15.keep K48 nin0)
          show Go p.tables e below (Fin s (fun v h L => v = some (.int 1) ∧ Fr h0.size L) room_1.cells room_1.slots) T48 (mkF m 122 #[.val (.int p0), .val (.int p1), .val (.int p2), .val (.int p3), .val (.int p4), .val (.int p5), .val (.int b11), .val (.int b24), .val (.int ((XT.ushr p0 (2 : Int32)) &&& (3 : Int32))), .val (.int b45), .val (.ref a7), .val (.ref a11), .unset, .unset, .unset, .unset] [(.ref a48)])
          refine Go.st (T' := T48) (g' := (mkF m 126 #[.val (.int p0), .val (.int p1), .val (.int p2), .val (.int p3), .val (.int p4), .val (.int p5), .val (.int b11), .val (.int b24), .val (.int ((XT.ushr p0 (2 : Int32)) &&& (3 : Int32))), .val (.int b45), .val (.ref a7), .val (.ref a11), .unset, .unset, .unset, .unset] [(.ref a48)])) (fun _ hr => XS.goto X48.here hx rfl (pc0 := 122) (pc' := 126) rfl (hb hby at_122) (by decide) (by decide) hr) ?_
          exact J126_16 T48 h48 _ (.ref a48) rfl (X48.more (by decide) (by decide)) e48 N48 fZ_q_48 O0_q_48 A7_q_48 V8_q_48 A11_q_48 V12_q_48
      by_cases c37_49 : (p0 &&& (16 : Int32)) = (0 : Int32)
      · refine Go.st (T' := T4) (g' := (mkF m 44 #[.val (.int p0), .val (.int p1), .val (.int p2), .val (.int p3), .val (.int p4), .val (.int p5), .val (.int b11), .val (.int b24), .val (.int ((XT.ushr p0 (2 : Int32)) &&& (3 : Int32))), .unset, .unset, .unset, .unset, .unset, .unset, .unset] [])) (fun _ hr => XS.ifYes X4.here hx rfl (pc0 := 37) (pc' := 44) rfl (hb hby at_37) rfl (XT.i0_eq_t c37_49) (by decide) (by decide) hr) ?_
        refine Go.st (T' := T4) (g' := (mkF m 45 #[.val (.int p0), .val (.int p1), .val (.int p2), .val (.int p3), .val (.int p4), .val (.int p5), .val (.int b11), .val (.int b24), .val (.int ((XT.ushr p0 (2 : Int32)) &&& (3 : Int32))), .unset, .unset, .unset, .unset, .unset, .unset, .unset] [(.int (0 : Int32))])) (fun _ hr => XT.iconstV X4.here hx rfl (0 : Int32) (hb hby at_44) (by decide) hr) ?_
        exact J45_5 T4 _ (by simp only [if_pos c37_49]) X4 e4
      · refine Go.st (T' := T4) (g' := (mkF m 40 #[.val (.int p0), .val (.int p1), .val (.int p2), .val (.int p3), .val (.int p4), .val (.int p5), .val (.int b11), .val (.int b24), .val (.int ((XT.ushr p0 (2 : Int32)) &&& (3 : Int32))), .unset, .unset, .unset, .unset, .unset, .unset, .unset] [])) (fun _ hr => XS.ifNo X4.here hx rfl (hb hby at_37) rfl (XT.i0_eq_f c37_49) hr) ?_
        refine Go.st (T' := T4) (g' := (mkF m 41 #[.val (.int p0), .val (.int p1), .val (.int p2), .val (.int p3), .val (.int p4), .val (.int p5), .val (.int b11), .val (.int b24), .val (.int ((XT.ushr p0 (2 : Int32)) &&& (3 : Int32))), .unset, .unset, .unset, .unset, .unset, .unset, .unset] [(.int (1 : Int32))])) (fun _ hr => XT.iconstV X4.here hx rfl (1 : Int32) (hb hby at_40) (by decide) hr) ?_
        refine Go.st (T' := T4) (g' := (mkF m 45 #[.val (.int p0), .val (.int p1), .val (.int p2), .val (.int p3), .val (.int p4), .val (.int p5), .val (.int b11), .val (.int b24), .val (.int ((XT.ushr p0 (2 : Int32)) &&& (3 : Int32))), .unset, .unset, .unset, .unset, .unset, .unset, .unset] [(.int (1 : Int32))])) (fun _ hr => XS.goto X4.here hx rfl (pc0 := 41) (pc' := 45) rfl (hb hby at_41) (by decide) (by decide) hr) ?_
        exact J45_5 T4 _ (by simp only [if_neg c37_49]) X4 e4
    by_cases c16_50 : (p0 &&& (2 : Int32)) = (0 : Int32)
    · refine Go.st (T' := T2) (g' := (mkF m 23 #[.val (.int p0), .val (.int p1), .val (.int p2), .val (.int p3), .val (.int p4), .val (.int p5), .val (.int b11), .unset, .unset, .unset, .unset, .unset, .unset, .unset, .unset, .unset] [])) (fun _ hr => XS.ifYes X2.here hx rfl (pc0 := 16) (pc' := 23) rfl (hb hby at_16) rfl (XT.i0_eq_t c16_50) (by decide) (by decide) hr) ?_
      refine Go.st (T' := T2) (g' := (mkF m 24 #[.val (.int p0), .val (.int p1), .val (.int p2), .val (.int p3), .val (.int p4), .val (.int p5), .val (.int b11), .unset, .unset, .unset, .unset, .unset, .unset, .unset, .unset, .unset] [(.int (0 : Int32))])) (fun _ hr => XT.iconstV X2.here hx rfl (0 : Int32) (hb hby at_23) (by decide) hr) ?_
      exact J24_3 T2 _ (by simp only [if_pos c16_50]) X2 e2
    · refine Go.st (T' := T2) (g' := (mkF m 19 #[.val (.int p0), .val (.int p1), .val (.int p2), .val (.int p3), .val (.int p4), .val (.int p5), .val (.int b11), .unset, .unset, .unset, .unset, .unset, .unset, .unset, .unset, .unset] [])) (fun _ hr => XS.ifNo X2.here hx rfl (hb hby at_16) rfl (XT.i0_eq_f c16_50) hr) ?_
      refine Go.st (T' := T2) (g' := (mkF m 20 #[.val (.int p0), .val (.int p1), .val (.int p2), .val (.int p3), .val (.int p4), .val (.int p5), .val (.int b11), .unset, .unset, .unset, .unset, .unset, .unset, .unset, .unset, .unset] [(.int (1 : Int32))])) (fun _ hr => XT.iconstV X2.here hx rfl (1 : Int32) (hb hby at_19) (by decide) hr) ?_
      refine Go.st (T' := T2) (g' := (mkF m 24 #[.val (.int p0), .val (.int p1), .val (.int p2), .val (.int p3), .val (.int p4), .val (.int p5), .val (.int b11), .unset, .unset, .unset, .unset, .unset, .unset, .unset, .unset, .unset] [(.int (1 : Int32))])) (fun _ hr => XS.goto X2.here hx rfl (pc0 := 20) (pc' := 24) rfl (hb hby at_20) (by decide) (by decide) hr) ?_
      exact J24_3 T2 _ (by simp only [if_neg c16_50]) X2 e2
  by_cases c3_51 : (p0 &&& (1 : Int32)) = (0 : Int32)
  · refine Go.st (T' := s₁) (g' := (mkF m 10 #[.val (.int p0), .val (.int p1), .val (.int p2), .val (.int p3), .val (.int p4), .val (.int p5), .unset, .unset, .unset, .unset, .unset, .unset, .unset, .unset, .unset, .unset] [])) (fun _ hr => XS.ifYes X0.here hx rfl (pc0 := 3) (pc' := 10) rfl (hb hby at_3) rfl (XT.i0_eq_t c3_51) (by decide) (by decide) hr) ?_
    refine Go.st (T' := s₁) (g' := (mkF m 11 #[.val (.int p0), .val (.int p1), .val (.int p2), .val (.int p3), .val (.int p4), .val (.int p5), .unset, .unset, .unset, .unset, .unset, .unset, .unset, .unset, .unset, .unset] [(.int (0 : Int32))])) (fun _ hr => XT.iconstV X0.here hx rfl (0 : Int32) (hb hby at_10) (by decide) hr) ?_
    exact J11_1 s₁ _ (by simp only [if_pos c3_51]) X0 e0
  · refine Go.st (T' := s₁) (g' := (mkF m 6 #[.val (.int p0), .val (.int p1), .val (.int p2), .val (.int p3), .val (.int p4), .val (.int p5), .unset, .unset, .unset, .unset, .unset, .unset, .unset, .unset, .unset, .unset] [])) (fun _ hr => XS.ifNo X0.here hx rfl (hb hby at_3) rfl (XT.i0_eq_f c3_51) hr) ?_
    refine Go.st (T' := s₁) (g' := (mkF m 7 #[.val (.int p0), .val (.int p1), .val (.int p2), .val (.int p3), .val (.int p4), .val (.int p5), .unset, .unset, .unset, .unset, .unset, .unset, .unset, .unset, .unset, .unset] [(.int (1 : Int32))])) (fun _ hr => XT.iconstV X0.here hx rfl (1 : Int32) (hb hby at_6) (by decide) hr) ?_
    refine Go.st (T' := s₁) (g' := (mkF m 11 #[.val (.int p0), .val (.int p1), .val (.int p2), .val (.int p3), .val (.int p4), .val (.int p5), .unset, .unset, .unset, .unset, .unset, .unset, .unset, .unset, .unset, .unset] [(.int (1 : Int32))])) (fun _ hr => XS.goto X0.here hx rfl (pc0 := 7) (pc' := 11) rfl (hb hby at_7) (by decide) (by decide) hr) ?_
    exact J11_1 s₁ _ (by simp only [if_neg c3_51]) X0 e0
set_option maxRecDepth 65536 in
set_option maxHeartbeats 40000000 in
theorem comes_1 {Post : Tables → Env → Array Value → State → Outcome → State → Prop} (hpost : ∀ tb e args s v u, (limb_1_1.after args s (.returned v) u = true ∧ limb_1_2.after args s (.returned v) u = true ∧ True) → FrameEnd s (.returned v) u (Jvm.fieldLocs frame_1_writes args s ++ Jvm.arrayLocs frame_1_arrays args s ++ Jvm.staticLocs frame_1_statics s) 40 192 → Post tb e args s (.returned v) u) :
    ArmFor flags0 classFile x code maxLocals ret World_1 tables_1 room_1 Calls_1 rest_1 Pre_1 Post := by
  intro l hfl _ _ p e ha hc hk s m args below hf hA hF happ hP
  obtain ⟨hcalls, hrest, hpre⟩ := hP
  obtain ⟨-, -, -, hnamed, -, -, -, hat⟩ := (Spec.applies_iff hf).mp happ
  obtain ⟨hg, hn⟩ := and_e (Cond.before_iff.mp (show (Jvm.Cond.and given_1 narrow_1).before args s = true from hpre))
  obtain ⟨g0, r0⟩ := and_e hg
  obtain ⟨u0, r1⟩ := and_e r0
  obtain ⟨u1, r2⟩ := and_e r1
  obtain ⟨u2, r3⟩ := and_e r2
  obtain ⟨u3, r4⟩ := and_e r3
  obtain ⟨u4, r5⟩ := and_e r4
  have u5 := r5
  obtain ⟨w0, w1, w2, w3, w4, w5, rfl⟩ : ∃ w0 w1 w2 w3 w4 w5 : Value, args = #[w0, w1, w2, w3, w4, w5] := by
    have hs : args.size = 6 := by simpa [Cond.value, given_1] using g0
    obtain ⟨L⟩ := args
    match L, hs with
    | [w0, w1, w2, w3, w4, w5], _ => exact ⟨w0, w1, w2, w3, w4, w5, rfl⟩
  have hw := fun d (hd : d ∈ tables_1) => atoms_spec (ws := Jvm.Cond.code x code maxLocals ret :: tables_1) hat d (List.mem_cons_of_mem _ hd)
  have hfit : Fit s := fun {y c} hc i hi => by
    obtain ⟨ha, rfl⟩ := Array.getElem?_eq_some_iff.mp hc
    have q := List.all_eq_true.mp ((Array.all_eq_true_iff_forall_mem.mp hF) _ (Array.getElem_mem ha)) i (List.mem_range.mpr hi)
    simpa [Array.getElem?_eq_getElem hi] using q
  obtain ⟨hsets, hown0⟩ := atoms_of _ (rest_1_c_eq ▸ (show rest_1_c.before _ s = true from hrest))
  have hr0 := Cond.before_iff.mp hown0
  obtain ⟨i0, ei0⟩ := is_v u0
  obtain rfl : w0 = (.int i0) := Option.some.inj ei0
  obtain ⟨i1, ei1⟩ := is_v u1
  obtain rfl : w1 = (.int i1) := Option.some.inj ei1
  obtain ⟨i2, ei2⟩ := is_v u2
  obtain rfl : w2 = (.int i2) := Option.some.inj ei2
  obtain ⟨i3, ei3⟩ := is_v u3
  obtain rfl : w3 = (.int i3) := Option.some.inj ei3
  obtain ⟨i4, ei4⟩ := is_v u4
  obtain rfl : w4 = (.int i4) := Option.some.inj ei4
  obtain ⟨i5, ei5⟩ := is_v u5
  obtain rfl : w5 = (.int i5) := Option.some.inj ei5
  have n5 := not_v (Cond.before_iff.mp (hsets _ (List.mem_of_getElem? (i := 2) rfl)))
  obtain ⟨w, e10⟩ := is_v (Cond.before_iff.mp (hsets _ (List.mem_of_getElem? (i := 1) rfl)))
  have S12 : Sta s s.heap "java/lang/String" "COMPACT_STRINGS" "Z" (.int w) := Sta.start e10 (Or.inl (hsets _ (List.mem_of_getElem? (i := 0) rfl)))
  have c17 : ¬ (w = (0 : Int32)) := gotF (Cond.eq_ints e10 (Term.int_eval (0))) n5
  obtain ⟨dc, ed, rd⟩ := static_fit hfit (hsets _ (List.mem_of_getElem? (i := 11) rfl)) (ty := .array (.object "java/lang/Object")) (by decide)
  have D12 : Sta s s.heap "java/util/ArrayList" "DEFAULTCAPACITY_EMPTY_ELEMENTDATA" "[Ljava/lang/Object;" dc := Sta.start ed (Or.inr ⟨hw _ (List.mem_of_getElem? (i := 35) rfl), hsets _ (List.mem_of_getElem? (i := 11) rfl)⟩)
  obtain ⟨n, o, h1, h2, h3, _, L, rfl, ⟨rfl, N⟩, hq⟩ := rm0 l s _ hw tables_1 i0 i1 i2 i3 i4 i5 w dc s.heap c17 (Old.start s) S12 (fit_R rd rfl) D12 p e ha hc hk s m _ below hf ((Spec.applies_iff_loose hf).mp happ).1 ⟨rfl, State.Warmed39.refl s, rfl⟩ trivial
  refine ⟨n, _, h1, h2, h3, hpost _ _ _ _ _ _ ⟨Cond.after_iff.mpr rfl, Cond.after_iff.mpr (eq_i res_at (Term.int_eval (1)) rfl), trivial⟩ ⟨hq.1, hq.2.1, (hq.2.2.sift fun y hy => Or.inr (N y hy)).mono (by decide) (by decide)⟩⟩
theorem main_1_1 : Claimed_1_1 := comes_1 fun _ _ _ _ _ _ h hF => ⟨h.1, hF⟩
theorem main_1_2 : Claimed_1_2 := comes_1 fun _ _ _ _ _ _ h hF => ⟨h.2.1, hF⟩
end Jvm.Pilot.@@N@@
namespace Jvm.Pilot.@@N@@
open Jvm Jvm.ClassFile Sem Op Lib Jvm.Free Jvm.Stand Jvm.Pilot.@@N@@.Jvm.D
/-! MADE BY PROGRAM (witnessworld.py) out of the Statement's table words and the real class files: 32 classes; the members and pool entries that the words name. The judged class is class 1, her method 1. -/
namespace start1
open Jvm.ClassFile
def u (s : String) : CpInfo := .utf8 (stringToUtf16 s)
/-- a pool by its gaps: so many unusable entries, then the entry; so many at the end -/
def gap : Nat → List CpInfo → List CpInfo
  | 0, r => r
  | n + 1, r => .unusable :: gap n r
def poolList (es : List (Nat × CpInfo)) (last : Nat) : List CpInfo := es.foldr (fun e r => gap e.1 (e.2 :: r)) (gap last [])
def pool (es : List (Nat × CpInfo)) (last : Nat) : Array CpInfo := ⟨poolList es last⟩
def fileOf (pool : Array CpInfo) (this : Nat) (attrs : Array Attribute := #[]) (ms : Array MethodInfo := #[]) (fl : Nat := 33) (sup : Nat := 0) (ifs : Array Nat := #[]) (fds : Array FieldInfo := #[]) : ClassFile where
  minorVersion := 0
  majorVersion := 65
  constantPool := pool
  accessFlags := fl
  thisClass := this
  superClass := sup
  interfaces := ifs
  fields := fds
  methods := ms
  attributes := attrs
def plain (name : String) (sup : Option ClassId) : Class where
  name := name
  kind := .ordinary
  loader := none
  accessFlags := 33
  super := sup
  interfaces := #[]
  cf := none
  fields := #[]
  methods := #[]
  instanceTypes := #[]
  staticTypes := #[]
  resolved := #[]
  callSites := []
  init := .initialized
  statics := none
  mirror := none

def pool0 : Array CpInfo := pool [(5, u "<init>"), (0, u "()V"), (1, .class_ 10), (1, u "java/lang/Object")] 113

def k0c0 : Code := { maxStack := 0, maxLocals := 1, code := object_method_1_code, exceptionTable := #[], attributes := #[] }
def k0m0 : Method := { name := "<init>", desc := "()V", sig := { parameters := [], returnType := none }, accessFlags := 1, code := some k0c0 }
/-- java/lang/Object -/
def k0 : Class := { plain "java/lang/Object" none with
  accessFlags := 33
  interfaces := #[]
  cf := some (fileOf pool0 8 #[] #[{ accessFlags := 1, nameIndex := 5, descriptorIndex := 6, attributes := #[] }] 33 0 #[] #[])
  fields := #[]
  methods := #[k0m0]
  instanceTypes := #[]
  staticTypes := #[]
  resolved := Array.replicate 124 none
  statics := none }

def pool1 : Array CpInfo := pool [(2, .class_ 4), (0, .nameAndType 5 6), (0, u "java/lang/Object"), (0, u "<init>"), (0, u "()V"), (0, .class_ 8), (0, u "java/lang/String"), (0, .methodref 7 10), (0, .nameAndType 5 11), (0, u "([C)V"), (0, .methodref 7 13), (0, .nameAndType 14 15), (0, u "valueOf"), (0, u "(C)Ljava/lang/String;"), (0, .class_ 17), (0, u "com/example/item_type_store/itemtypestore/TypeSystemDraft$DeploymentDraft"), (0, .methodref 16 19), (0, .nameAndType 5 20), (0, u "(ILcom/example/item_type_store/itemtypestore/model/Deployment;)V"), (0, .class_ 22), (0, u "com/example/item_type_store/itemtypestore/model/Deployment"), (0, .methodref 21 24), (0, .nameAndType 5 25), (0, u "(Ljava/lang/String;I)V"), (0, .class_ 27), (0, u "com/example/item_type_store/itemtypestore/TypeSystemDraft$TypeDraft"), (0, .class_ 29), (0, u "java/util/ArrayList"), (0, .methodref 28 3), (0, .methodref 26 32), (0, .nameAndType 5 33), (0, u "(Ljava/lang/String;ILjava/lang/String;Ljava/lang/String;ZZLcom/example/item_type_store/itemtypestore/TypeSystemDraft$DeploymentDraft;Ljava/util/List;Ljava/util/List;Ljava/util/Map;)V"), (0, .methodref 26 35), (0, .nameAndType 36 37), (0, u "lacksDeployment"), (0, u "()Z"), (0, .class_ 39), (0, u "com/example/item_type_store/itemtypestore/TypeDraftLacksDeploymentPinLaw"), (2, u "law"), (0, u "(IIIIII)Z")] 8

def k1m0 : Method := { name := "<init>", desc := "()V", sig := { parameters := [], returnType := none }, accessFlags := 2, code := none }
def k1c1 : Code := { maxStack := 12, maxLocals := 16, code := code, exceptionTable := #[], attributes := #[] }
def k1m1 : Method := { name := "law", desc := "(IIIIII)Z", sig := { parameters := [.int, .int, .int, .int, .int, .int], returnType := some .boolean }, accessFlags := 9, code := some k1c1 }
/-- com/example/item_type_store/itemtypestore/TypeDraftLacksDeploymentPinLaw -/
def k1 : Class := { plain "com/example/item_type_store/itemtypestore/TypeDraftLacksDeploymentPinLaw" (some 0) with
  accessFlags := 49
  interfaces := #[]
  cf := some (fileOf pool1 38 #[] #[{ accessFlags := 2, nameIndex := 5, descriptorIndex := 6, attributes := #[] }, { accessFlags := 9, nameIndex := 42, descriptorIndex := 43, attributes := #[] }] 49 2 #[] #[])
  fields := #[]
  methods := #[k1m0, k1m1]
  instanceTypes := #[]
  staticTypes := #[]
  resolved := Array.replicate 52 none
  statics := none }

def pool2 : Array CpInfo := pool [(1, .class_ 2), (0, u "java/io/Serializable"), (0, .class_ 4), (0, u "java/lang/Object")] 2

/-- java/io/Serializable -/
def k2 : Class := { plain "java/io/Serializable" (some 0) with
  accessFlags := 1537
  interfaces := #[]
  cf := some (fileOf pool2 1 #[] #[] 1537 3 #[] #[])
  fields := #[]
  methods := #[]
  instanceTypes := #[]
  staticTypes := #[]
  resolved := Array.replicate 7 none
  statics := none }

def pool3 : Array CpInfo := pool [(1, .class_ 2), (0, u "java/lang/Comparable"), (0, .class_ 4), (0, u "java/lang/Object")] 7

/-- java/lang/Comparable -/
def k3 : Class := { plain "java/lang/Comparable" (some 0) with
  accessFlags := 1537
  interfaces := #[]
  cf := some (fileOf pool3 1 #[] #[] 1537 3 #[] #[])
  fields := #[]
  methods := #[]
  instanceTypes := #[]
  staticTypes := #[]
  resolved := Array.replicate 12 none
  statics := none }

def pool4 : Array CpInfo := pool [(2, .class_ 4), (1, u "java/lang/CharSequence"), (42, .class_ 48), (0, u "java/lang/CharSequence$1CodePointIterator"), (10, .class_ 60), (0, u "java/lang/CharSequence$1CharIterator"), (5, .class_ 67), (0, u "java/lang/Object")] 63

/-- java/lang/CharSequence -/
def k4 : Class := { plain "java/lang/CharSequence" (some 0) with
  accessFlags := 1537
  interfaces := #[]
  cf := some (fileOf pool4 2 #[.nestMembers #[47, 59]] #[] 1537 66 #[] #[])
  fields := #[]
  methods := #[]
  instanceTypes := #[]
  staticTypes := #[]
  resolved := Array.replicate 131 none
  statics := none }

def pool5 : Array CpInfo := pool [(1, .class_ 2), (0, u "java/lang/constant/Constable"), (0, .class_ 4), (0, u "java/lang/Object")] 6

/-- java/lang/constant/Constable -/
def k5 : Class := { plain "java/lang/constant/Constable" (some 0) with
  accessFlags := 1537
  interfaces := #[]
  cf := some (fileOf pool5 1 #[] #[] 1537 3 #[] #[])
  fields := #[]
  methods := #[]
  instanceTypes := #[]
  staticTypes := #[]
  resolved := Array.replicate 11 none
  statics := none }

def pool6 : Array CpInfo := pool [(1, .class_ 2), (0, u "java/lang/constant/ConstantDesc"), (0, .class_ 4), (0, u "java/lang/Object")] 32

/-- java/lang/constant/ConstantDesc -/
def k6 : Class := { plain "java/lang/constant/ConstantDesc" (some 0) with
  accessFlags := 1537
  interfaces := #[]
  cf := some (fileOf pool6 1 #[] #[] 1537 3 #[] #[])
  fields := #[]
  methods := #[]
  instanceTypes := #[]
  staticTypes := #[]
  resolved := Array.replicate 37 none
  statics := none }

def pool7 : Array CpInfo := pool [(1, .methodref 2 3), (0, .class_ 4), (0, .nameAndType 5 6), (0, u "java/lang/Object"), (0, u "<init>"), (0, u "()V"), (2, .fieldref 10 11), (0, .class_ 12), (0, .nameAndType 13 14), (0, u "java/lang/String"), (0, u "value"), (0, u "[B"), (0, .fieldref 10 16), (0, .nameAndType 17 18), (0, u "coder"), (0, u "B"), (2, u "hash"), (0, u "I"), (2, u "hashIsZero"), (0, u "Z"), (0, .methodref 10 28), (0, .nameAndType 5 29), (0, u "([CIILjava/lang/Void;)V"), (8, .fieldref 10 39), (0, .nameAndType 40 26), (0, u "COMPACT_STRINGS"), (1, .class_ 44), (1, u "java/lang/StringUTF16"), (0, u "compress"), (1, .methodref 42 48), (0, .nameAndType 49 50), (0, u "coderFromArrayLen"), (0, u "([BI)B"), (2, u "toBytes"), (53, .class_ 109), (1, u "java/lang/StringLatin1"), (67, .methodref 42 178), (0, .nameAndType 45 179), (0, u "([CII)[B"), (29, .methodref 10 210), (0, .nameAndType 5 211), (0, u "([BB)V"), (157, u "(C)Z"), (205, .class_ 576), (0, u "java/lang/CharSequence"), (22, u "CASE_INSENSITIVE_ORDER"), (0, u "Ljava/util/Comparator;"), (181, u "valueOf"), (0, u "(C)Ljava/lang/String;"), (226, u "([C)V"), (4, .methodref 107 1016), (0, .nameAndType 1017 369), (0, u "canEncode"), (0, .methodref 107 1019), (0, .nameAndType 53 1020), (0, u "(C)[B"), (80, u "serialPersistentFields"), (0, u "[Ljava/io/ObjectStreamField;"), (0, .class_ 1104), (0, u "java/lang/String$CaseInsensitiveComparator"), (1, .class_ 1107), (0, u "java/io/Serializable"), (0, .class_ 1109), (0, u "java/lang/Comparable"), (0, .class_ 1111), (0, u "java/lang/constant/Constable"), (0, .class_ 1113), (0, u "java/lang/constant/ConstantDesc"), (2, u "serialVersionUID"), (0, u "J"), (3, u "REPL"), (0, u "C"), (2, u "LATIN1"), (1, u "UTF16")] 323

def k7m0 : Method := { name := "<init>", desc := "()V", sig := { parameters := [], returnType := none }, accessFlags := 1, code := none }
def k7c1 : Code := { maxStack := 5, maxLocals := 2, code := jdk_42_method_3_code, exceptionTable := #[], attributes := #[] }
def k7m1 : Method := { name := "<init>", desc := "([C)V", sig := { parameters := [(.array .char)], returnType := none }, accessFlags := 1, code := some k7c1 }
def k7c2 : Code := { maxStack := 4, maxLocals := 1, code := jdk_42_method_139_code, exceptionTable := #[], attributes := #[] }
def k7m2 : Method := { name := "valueOf", desc := "(C)Ljava/lang/String;", sig := { parameters := [.char], returnType := some (.object "java/lang/String") }, accessFlags := 9, code := some k7c2 }
def k7c3 : Code := { maxStack := 4, maxLocals := 6, code := jdk_42_method_149_code, exceptionTable := #[], attributes := #[] }
def k7m3 : Method := { name := "<init>", desc := "([CIILjava/lang/Void;)V", sig := { parameters := [(.array .char), .int, .int, (.object "java/lang/Void")], returnType := none }, accessFlags := 2, code := some k7c3 }
def k7c4 : Code := { maxStack := 2, maxLocals := 3, code := jdk_42_method_151_code, exceptionTable := #[], attributes := #[] }
def k7m4 : Method := { name := "<init>", desc := "([BB)V", sig := { parameters := [(.array .byte), .byte], returnType := none }, accessFlags := 0, code := some k7c4 }
/-- java/lang/String -/
def k7 : Class := { plain "java/lang/String" (some 0) with
  accessFlags := 49
  interfaces := #[2, 3, 4, 5, 6]
  cf := some (fileOf pool7 10 #[.nestMembers #[1103]] #[{ accessFlags := 1, nameIndex := 5, descriptorIndex := 6, attributes := #[] }, { accessFlags := 1, nameIndex := 5, descriptorIndex := 1010, attributes := #[] }, { accessFlags := 9, nameIndex := 782, descriptorIndex := 783, attributes := #[] }, { accessFlags := 2, nameIndex := 5, descriptorIndex := 29, attributes := #[] }, { accessFlags := 0, nameIndex := 5, descriptorIndex := 211, attributes := #[] }] 49 2 #[1106, 1108, 575, 1110, 1112] #[{ accessFlags := 18, nameIndex := 13, descriptorIndex := 14, attributes := #[] }, { accessFlags := 18, nameIndex := 17, descriptorIndex := 18, attributes := #[] }, { accessFlags := 2, nameIndex := 21, descriptorIndex := 22, attributes := #[] }, { accessFlags := 2, nameIndex := 25, descriptorIndex := 26, attributes := #[] }, { accessFlags := 26, nameIndex := 1116, descriptorIndex := 1117, attributes := #[] }, { accessFlags := 24, nameIndex := 40, descriptorIndex := 26, attributes := #[] }, { accessFlags := 26, nameIndex := 1101, descriptorIndex := 1102, attributes := #[] }, { accessFlags := 26, nameIndex := 1121, descriptorIndex := 1122, attributes := #[] }, { accessFlags := 25, nameIndex := 599, descriptorIndex := 600, attributes := #[] }, { accessFlags := 24, nameIndex := 1125, descriptorIndex := 18, attributes := #[] }, { accessFlags := 24, nameIndex := 1127, descriptorIndex := 18, attributes := #[] }])
  fields := #[{ name := "value", type := (.array .byte), accessFlags := 18, slot := 0, constantValue := 0 }, { name := "coder", type := .byte, accessFlags := 18, slot := 1, constantValue := 0 }, { name := "hash", type := .int, accessFlags := 2, slot := 2, constantValue := 0 }, { name := "hashIsZero", type := .boolean, accessFlags := 2, slot := 3, constantValue := 0 }, { name := "serialVersionUID", type := .long, accessFlags := 26, slot := 0, constantValue := 0 }, { name := "COMPACT_STRINGS", type := .boolean, accessFlags := 24, slot := 1, constantValue := 0 }, { name := "serialPersistentFields", type := (.array (.object "java/io/ObjectStreamField")), accessFlags := 26, slot := 2, constantValue := 0 }, { name := "REPL", type := .char, accessFlags := 26, slot := 3, constantValue := 0 }, { name := "CASE_INSENSITIVE_ORDER", type := (.object "java/util/Comparator"), accessFlags := 25, slot := 4, constantValue := 0 }, { name := "LATIN1", type := .byte, accessFlags := 24, slot := 5, constantValue := 0 }, { name := "UTF16", type := .byte, accessFlags := 24, slot := 6, constantValue := 0 }]
  methods := #[k7m0, k7m1, k7m2, k7m3, k7m4]
  instanceTypes := #[(.array .byte), .byte, .int, .boolean]
  staticTypes := #[.long, .boolean, (.array (.object "java/io/ObjectStreamField")), .char, (.object "java/util/Comparator"), .byte, .byte]
  resolved := Array.replicate 1451 none
  statics := some 0 }

def pool8 : Array CpInfo := pool [(6, .class_ 8), (1, u "java/lang/Object"), (0, u "<init>"), (0, u "()V"), (1, .class_ 14), (1, u "java/lang/StringUTF16"), (31, u "$assertionsDisabled"), (0, u "Z"), (13, u "HI_BYTE_SHIFT"), (0, u "I"), (2, u "LO_BYTE_SHIFT"), (49, .methodref 12 116), (0, .nameAndType 117 118), (0, u "compress"), (0, u "([CI[BII)I"), (3, u "([CII)[B"), (138, u "coderFromArrayLen"), (0, u "([BI)B"), (106, .class_ 371), (1, u "java/lang/StringUTF16$LinesSpliterator"), (58, u "MAX_LENGTH"), (196, .class_ 628), (0, u "java/lang/StringUTF16$CodePointsSpliterator"), (0, .class_ 630), (0, u "java/lang/StringUTF16$CharsSpliterator")] 4

def k8m0 : Method := { name := "<init>", desc := "()V", sig := { parameters := [], returnType := none }, accessFlags := 0, code := none }
def k8c1 : Code := { maxStack := 2, maxLocals := 2, code := jdk_52_method_15_code, exceptionTable := #[], attributes := #[] }
def k8m1 : Method := { name := "coderFromArrayLen", desc := "([BI)B", sig := { parameters := [(.array .byte), .int], returnType := some .byte }, accessFlags := 8, code := some k8c1 }
def k8c2 : Code := { maxStack := 5, maxLocals := 6, code := jdk_52_method_16_code, exceptionTable := #[], attributes := #[] }
def k8m2 : Method := { name := "compress", desc := "([CII)[B", sig := { parameters := [(.array .char), .int, .int], returnType := some (.array .byte) }, accessFlags := 9, code := some k8c2 }
def k8c3 : Code := { maxStack := 3, maxLocals := 7, code := jdk_52_method_21_code, exceptionTable := #[], attributes := #[] }
def k8m3 : Method := { name := "compress", desc := "([CI[BII)I", sig := { parameters := [(.array .char), .int, (.array .byte), .int, .int], returnType := some .int }, accessFlags := 9, code := some k8c3 }
/-- java/lang/StringUTF16 -/
def k8 : Class := { plain "java/lang/StringUTF16" (some 0) with
  accessFlags := 48
  interfaces := #[]
  cf := some (fileOf pool8 12 #[.nestMembers #[627, 629, 369]] #[{ accessFlags := 0, nameIndex := 9, descriptorIndex := 10, attributes := #[] }, { accessFlags := 8, nameIndex := 261, descriptorIndex := 262, attributes := #[] }, { accessFlags := 9, nameIndex := 117, descriptorIndex := 122, attributes := #[] }, { accessFlags := 9, nameIndex := 117, descriptorIndex := 118, attributes := #[] }] 48 6 #[] #[{ accessFlags := 26, nameIndex := 61, descriptorIndex := 62, attributes := #[] }, { accessFlags := 26, nameIndex := 65, descriptorIndex := 62, attributes := #[] }, { accessFlags := 24, nameIndex := 430, descriptorIndex := 62, attributes := #[] }, { accessFlags := 4120, nameIndex := 46, descriptorIndex := 47, attributes := #[] }])
  fields := #[{ name := "HI_BYTE_SHIFT", type := .int, accessFlags := 26, slot := 0, constantValue := 0 }, { name := "LO_BYTE_SHIFT", type := .int, accessFlags := 26, slot := 1, constantValue := 0 }, { name := "MAX_LENGTH", type := .int, accessFlags := 24, slot := 2, constantValue := 0 }, { name := "$assertionsDisabled", type := .boolean, accessFlags := 4120, slot := 3, constantValue := 0 }]
  methods := #[k8m0, k8m1, k8m2, k8m3]
  instanceTypes := #[]
  staticTypes := #[.int, .int, .int, .boolean]
  resolved := Array.replicate 635 none
  statics := none }

def pool9 : Array CpInfo := pool [(1, .methodref 2 3), (0, .class_ 4), (0, .nameAndType 5 6), (0, u "java/lang/Object"), (0, u "<init>"), (0, u "()V"), (0, .class_ 8), (0, u "java/lang/Record")] 13

def k9c0 : Code := { maxStack := 1, maxLocals := 1, code := jdk_30_method_1_code, exceptionTable := #[], attributes := #[] }
def k9m0 : Method := { name := "<init>", desc := "()V", sig := { parameters := [], returnType := none }, accessFlags := 4, code := some k9c0 }
/-- java/lang/Record -/
def k9 : Class := { plain "java/lang/Record" (some 0) with
  accessFlags := 1057
  interfaces := #[]
  cf := some (fileOf pool9 7 #[] #[{ accessFlags := 4, nameIndex := 5, descriptorIndex := 6, attributes := #[] }] 1057 2 #[] #[])
  fields := #[]
  methods := #[k9m0]
  instanceTypes := #[]
  staticTypes := #[]
  resolved := Array.replicate 22 none
  statics := none }

def pool10 : Array CpInfo := pool [(1, .methodref 2 3), (0, .class_ 4), (0, .nameAndType 5 6), (0, u "java/lang/Record"), (0, u "<init>"), (0, u "()V"), (0, .fieldref 8 9), (0, .class_ 10), (0, .nameAndType 11 12), (0, u "com/example/item_type_store/itemtypestore/TypeSystemDraft$TypeDraft"), (0, u "file"), (0, u "Ljava/lang/String;"), (0, .fieldref 8 14), (0, .nameAndType 15 16), (0, u "line"), (0, u "I"), (0, .fieldref 8 18), (0, .nameAndType 19 12), (0, u "code"), (0, .fieldref 8 21), (0, .nameAndType 22 12), (0, u "supertype"), (0, .fieldref 8 24), (0, .nameAndType 25 26), (0, u "direct"), (0, u "Z"), (0, .fieldref 8 28), (0, .nameAndType 29 26), (0, u "isAbstract"), (0, .fieldref 8 31), (0, .nameAndType 32 33), (0, u "deployment"), (0, u "Lcom/example/item_type_store/itemtypestore/TypeSystemDraft$DeploymentDraft;"), (0, .fieldref 8 35), (0, .nameAndType 36 37), (0, u "attributes"), (0, u "Ljava/util/List;"), (0, .fieldref 8 39), (0, .nameAndType 40 37), (0, u "indexes"), (0, .fieldref 8 42), (0, .nameAndType 43 44), (0, u "customProperties"), (0, u "Ljava/util/Map;"), (16, u "(Ljava/lang/String;ILjava/lang/String;Ljava/lang/String;ZZLcom/example/item_type_store/itemtypestore/TypeSystemDraft$DeploymentDraft;Ljava/util/List;Ljava/util/List;Ljava/util/Map;)V"), (4, u "lacksDeployment"), (0, u "()Z"), (13, .class_ 82), (0, u "com/example/item_type_store/itemtypestore/TypeSystemDraft")] 37

def k10c0 : Code := { maxStack := 2, maxLocals := 11, code := prog_95_method_1_code, exceptionTable := #[], attributes := #[] }
def k10m0 : Method := { name := "<init>", desc := "(Ljava/lang/String;ILjava/lang/String;Ljava/lang/String;ZZLcom/example/item_type_store/itemtypestore/TypeSystemDraft$DeploymentDraft;Ljava/util/List;Ljava/util/List;Ljava/util/Map;)V", sig := { parameters := [(.object "java/lang/String"), .int, (.object "java/lang/String"), (.object "java/lang/String"), .boolean, .boolean, (.object "com/example/item_type_store/itemtypestore/TypeSystemDraft$DeploymentDraft"), (.object "java/util/List"), (.object "java/util/List"), (.object "java/util/Map")], returnType := none }, accessFlags := 0, code := some k10c0 }
def k10c1 : Code := { maxStack := 1, maxLocals := 1, code := prog_95_method_2_code, exceptionTable := #[], attributes := #[] }
def k10m1 : Method := { name := "lacksDeployment", desc := "()Z", sig := { parameters := [], returnType := some .boolean }, accessFlags := 0, code := some k10c1 }
/-- com/example/item_type_store/itemtypestore/TypeSystemDraft$TypeDraft -/
def k10 : Class := { plain "com/example/item_type_store/itemtypestore/TypeSystemDraft$TypeDraft" (some 9) with
  accessFlags := 48
  interfaces := #[]
  cf := some (fileOf pool10 8 #[.nestHost 81] #[{ accessFlags := 0, nameIndex := 5, descriptorIndex := 61, attributes := #[] }, { accessFlags := 0, nameIndex := 66, descriptorIndex := 67, attributes := #[] }] 48 2 #[] #[{ accessFlags := 18, nameIndex := 11, descriptorIndex := 12, attributes := #[] }, { accessFlags := 18, nameIndex := 15, descriptorIndex := 16, attributes := #[] }, { accessFlags := 18, nameIndex := 19, descriptorIndex := 12, attributes := #[] }, { accessFlags := 18, nameIndex := 22, descriptorIndex := 12, attributes := #[] }, { accessFlags := 18, nameIndex := 25, descriptorIndex := 26, attributes := #[] }, { accessFlags := 18, nameIndex := 29, descriptorIndex := 26, attributes := #[] }, { accessFlags := 18, nameIndex := 32, descriptorIndex := 33, attributes := #[] }, { accessFlags := 18, nameIndex := 36, descriptorIndex := 37, attributes := #[] }, { accessFlags := 18, nameIndex := 40, descriptorIndex := 37, attributes := #[] }, { accessFlags := 18, nameIndex := 43, descriptorIndex := 44, attributes := #[] }])
  fields := #[{ name := "file", type := (.object "java/lang/String"), accessFlags := 18, slot := 0, constantValue := 0 }, { name := "line", type := .int, accessFlags := 18, slot := 1, constantValue := 0 }, { name := "code", type := (.object "java/lang/String"), accessFlags := 18, slot := 2, constantValue := 0 }, { name := "supertype", type := (.object "java/lang/String"), accessFlags := 18, slot := 3, constantValue := 0 }, { name := "direct", type := .boolean, accessFlags := 18, slot := 4, constantValue := 0 }, { name := "isAbstract", type := .boolean, accessFlags := 18, slot := 5, constantValue := 0 }, { name := "deployment", type := (.object "com/example/item_type_store/itemtypestore/TypeSystemDraft$DeploymentDraft"), accessFlags := 18, slot := 6, constantValue := 0 }, { name := "attributes", type := (.object "java/util/List"), accessFlags := 18, slot := 7, constantValue := 0 }, { name := "indexes", type := (.object "java/util/List"), accessFlags := 18, slot := 8, constantValue := 0 }, { name := "customProperties", type := (.object "java/util/Map"), accessFlags := 18, slot := 9, constantValue := 0 }]
  methods := #[k10m0, k10m1]
  instanceTypes := #[(.object "java/lang/String"), .int, (.object "java/lang/String"), (.object "java/lang/String"), .boolean, .boolean, (.object "com/example/item_type_store/itemtypestore/TypeSystemDraft$DeploymentDraft"), (.object "java/util/List"), (.object "java/util/List"), (.object "java/util/Map")]
  staticTypes := #[]
  resolved := Array.replicate 120 none
  statics := none }

def pool11 : Array CpInfo := pool [(8, .class_ 10), (1, u "java/lang/Iterable"), (24, .class_ 36), (0, u "java/lang/Object")] 25

/-- java/lang/Iterable -/
def k11 : Class := { plain "java/lang/Iterable" (some 0) with
  accessFlags := 1537
  interfaces := #[]
  cf := some (fileOf pool11 8 #[] #[] 1537 35 #[] #[])
  fields := #[]
  methods := #[]
  instanceTypes := #[]
  staticTypes := #[]
  resolved := Array.replicate 62 none
  statics := none }

def pool12 : Array CpInfo := pool [(10, .class_ 12), (1, u "java/util/Collection"), (47, .class_ 61), (0, u "java/lang/Object"), (0, .class_ 63), (0, u "java/lang/Iterable")] 51

/-- java/util/Collection -/
def k12 : Class := { plain "java/util/Collection" (some 0) with
  accessFlags := 1537
  interfaces := #[11]
  cf := some (fileOf pool12 10 #[] #[] 1537 60 #[62] #[])
  fields := #[]
  methods := #[]
  instanceTypes := #[]
  staticTypes := #[]
  resolved := Array.replicate 115 none
  statics := none }

def pool13 : Array CpInfo := pool [(1, .methodref 2 3), (0, .class_ 4), (0, .nameAndType 5 6), (0, u "java/lang/Object"), (0, u "<init>"), (0, u "()V"), (1, .class_ 10), (1, u "java/util/AbstractCollection"), (66, .class_ 78), (0, u "java/util/Collection")] 81

def k13c0 : Code := { maxStack := 1, maxLocals := 1, code := jdk_22_method_1_code, exceptionTable := #[], attributes := #[] }
def k13m0 : Method := { name := "<init>", desc := "()V", sig := { parameters := [], returnType := none }, accessFlags := 4, code := some k13c0 }
/-- java/util/AbstractCollection -/
def k13 : Class := { plain "java/util/AbstractCollection" (some 0) with
  accessFlags := 1057
  interfaces := #[12]
  cf := some (fileOf pool13 8 #[] #[{ accessFlags := 4, nameIndex := 5, descriptorIndex := 6, attributes := #[] }] 1057 2 #[77] #[])
  fields := #[]
  methods := #[k13m0]
  instanceTypes := #[]
  staticTypes := #[]
  resolved := Array.replicate 160 none
  statics := none }

def pool14 : Array CpInfo := pool [(8, .class_ 10), (1, u "java/util/SequencedCollection"), (15, .class_ 27), (0, u "java/lang/Object"), (0, .class_ 29), (0, u "java/util/Collection")] 27

/-- java/util/SequencedCollection -/
def k14 : Class := { plain "java/util/SequencedCollection" (some 0) with
  accessFlags := 1537
  interfaces := #[12]
  cf := some (fileOf pool14 8 #[] #[] 1537 26 #[28] #[])
  fields := #[]
  methods := #[]
  instanceTypes := #[]
  staticTypes := #[]
  resolved := Array.replicate 57 none
  statics := none }

def pool15 : Array CpInfo := pool [(8, .class_ 10), (1, u "java/util/List"), (92, .class_ 104), (0, u "java/lang/Object"), (15, .class_ 121), (0, u "java/util/SequencedCollection")] 129

/-- java/util/List -/
def k15 : Class := { plain "java/util/List" (some 0) with
  accessFlags := 1537
  interfaces := #[14]
  cf := some (fileOf pool15 8 #[] #[] 1537 103 #[120] #[])
  fields := #[]
  methods := #[]
  instanceTypes := #[]
  staticTypes := #[]
  resolved := Array.replicate 251 none
  statics := none }

def pool16 : Array CpInfo := pool [(1, .methodref 2 3), (0, .class_ 4), (0, .nameAndType 5 6), (0, u "java/util/AbstractCollection"), (0, u "<init>"), (0, u "()V"), (0, .fieldref 8 9), (0, .class_ 10), (0, .nameAndType 11 12), (0, u "java/util/AbstractList"), (0, u "modCount"), (0, u "I"), (64, .class_ 78), (0, u "java/util/AbstractList$Itr"), (3, .class_ 83), (0, u "java/util/AbstractList$ListItr"), (9, .class_ 94), (0, u "java/util/AbstractList$RandomAccessSubList"), (3, .class_ 99), (0, u "java/util/AbstractList$SubList"), (33, .class_ 134), (0, u "java/util/List"), (73, .class_ 209), (0, u "java/util/AbstractList$SubList$1"), (0, .class_ 211), (0, u "java/util/AbstractList$RandomAccessSpliterator")] 6

def k16c0 : Code := { maxStack := 2, maxLocals := 1, code := jdk_39_method_1_code, exceptionTable := #[], attributes := #[] }
def k16m0 : Method := { name := "<init>", desc := "()V", sig := { parameters := [], returnType := none }, accessFlags := 4, code := some k16c0 }
/-- java/util/AbstractList -/
def k16 : Class := { plain "java/util/AbstractList" (some 13) with
  accessFlags := 1057
  interfaces := #[15]
  cf := some (fileOf pool16 8 #[.nestMembers #[93, 98, 208, 210, 82, 77]] #[{ accessFlags := 4, nameIndex := 5, descriptorIndex := 6, attributes := #[] }] 1057 2 #[133] #[{ accessFlags := 132, nameIndex := 11, descriptorIndex := 12, attributes := #[] }])
  fields := #[{ name := "modCount", type := .int, accessFlags := 132, slot := 0, constantValue := 0 }]
  methods := #[k16m0]
  instanceTypes := #[.int]
  staticTypes := #[]
  resolved := Array.replicate 218 none
  statics := none }

def pool17 : Array CpInfo := pool [(1, .class_ 2), (0, u "java/util/RandomAccess"), (0, .class_ 4), (0, u "java/lang/Object")] 2

/-- java/util/RandomAccess -/
def k17 : Class := { plain "java/util/RandomAccess" (some 0) with
  accessFlags := 1537
  interfaces := #[]
  cf := some (fileOf pool17 1 #[] #[] 1537 3 #[] #[])
  fields := #[]
  methods := #[]
  instanceTypes := #[]
  staticTypes := #[]
  resolved := Array.replicate 7 none
  statics := none }

def pool18 : Array CpInfo := pool [(1, .class_ 2), (0, u "java/lang/Cloneable"), (0, .class_ 4), (0, u "java/lang/Object")] 2

/-- java/lang/Cloneable -/
def k18 : Class := { plain "java/lang/Cloneable" (some 0) with
  accessFlags := 1537
  interfaces := #[]
  cf := some (fileOf pool18 1 #[] #[] 1537 3 #[] #[])
  fields := #[]
  methods := #[]
  instanceTypes := #[]
  staticTypes := #[]
  resolved := Array.replicate 7 none
  statics := none }

def pool19 : Array CpInfo := pool [(1, .methodref 2 3), (0, .class_ 4), (0, .nameAndType 5 6), (0, u "java/util/AbstractList"), (0, u "<init>"), (0, u "()V"), (2, .fieldref 10 11), (0, .class_ 12), (0, .nameAndType 13 14), (0, u "java/util/ArrayList"), (0, u "elementData"), (0, u "[Ljava/lang/Object;"), (2, u "EMPTY_ELEMENTDATA"), (21, .fieldref 10 40), (0, .nameAndType 41 14), (0, u "DEFAULTCAPACITY_EMPTY_ELEMENTDATA"), (8, u "size"), (0, u "I"), (96, .class_ 149), (0, u "java/util/List"), (112, .class_ 263), (0, u "java/util/ArrayList$ListItr"), (3, .class_ 268), (0, u "java/util/ArrayList$Itr"), (7, .class_ 277), (0, u "java/util/ArrayList$SubList"), (12, .class_ 291), (0, u "java/util/ArrayList$ArrayListSpliterator"), (37, .class_ 330), (0, u "java/util/RandomAccess"), (0, .class_ 332), (0, u "java/lang/Cloneable"), (0, .class_ 334), (0, u "java/io/Serializable"), (0, u "serialVersionUID"), (0, u "J"), (3, u "DEFAULT_CAPACITY"), (159, .class_ 501), (0, u "java/util/ArrayList$SubList$2"), (0, .class_ 503), (0, u "java/util/ArrayList$SubList$1")] 5

def k19c0 : Code := { maxStack := 2, maxLocals := 1, code := jdk_38_method_2_code, exceptionTable := #[], attributes := #[] }
def k19m0 : Method := { name := "<init>", desc := "()V", sig := { parameters := [], returnType := none }, accessFlags := 1, code := some k19c0 }
/-- java/util/ArrayList -/
def k19 : Class := { plain "java/util/ArrayList" (some 16) with
  accessFlags := 33
  interfaces := #[15, 17, 18, 2]
  cf := some (fileOf pool19 10 #[.nestMembers #[290, 276, 500, 502, 262, 267]] #[{ accessFlags := 1, nameIndex := 5, descriptorIndex := 6, attributes := #[] }] 33 2 #[148, 329, 331, 333] #[{ accessFlags := 26, nameIndex := 335, descriptorIndex := 336, attributes := #[] }, { accessFlags := 26, nameIndex := 340, descriptorIndex := 51, attributes := #[] }, { accessFlags := 26, nameIndex := 17, descriptorIndex := 14, attributes := #[] }, { accessFlags := 26, nameIndex := 41, descriptorIndex := 14, attributes := #[] }, { accessFlags := 128, nameIndex := 13, descriptorIndex := 14, attributes := #[] }, { accessFlags := 2, nameIndex := 50, descriptorIndex := 51, attributes := #[] }])
  fields := #[{ name := "serialVersionUID", type := .long, accessFlags := 26, slot := 0, constantValue := 0 }, { name := "DEFAULT_CAPACITY", type := .int, accessFlags := 26, slot := 1, constantValue := 0 }, { name := "EMPTY_ELEMENTDATA", type := (.array (.object "java/lang/Object")), accessFlags := 26, slot := 2, constantValue := 0 }, { name := "DEFAULTCAPACITY_EMPTY_ELEMENTDATA", type := (.array (.object "java/lang/Object")), accessFlags := 26, slot := 3, constantValue := 0 }, { name := "elementData", type := (.array (.object "java/lang/Object")), accessFlags := 128, slot := 1, constantValue := 0 }, { name := "size", type := .int, accessFlags := 2, slot := 2, constantValue := 0 }]
  methods := #[k19m0]
  instanceTypes := #[.int, (.array (.object "java/lang/Object")), .int]
  staticTypes := #[.long, .int, (.array (.object "java/lang/Object")), (.array (.object "java/lang/Object"))]
  resolved := Array.replicate 509 none
  statics := some 1 }

def pool20 : Array CpInfo := pool [(1, .methodref 2 3), (0, .class_ 4), (0, .nameAndType 5 6), (0, u "java/lang/Record"), (0, u "<init>"), (0, u "()V"), (0, .fieldref 8 9), (0, .class_ 10), (0, .nameAndType 11 12), (0, u "com/example/item_type_store/itemtypestore/TypeSystemDraft$DeploymentDraft"), (0, u "line"), (0, u "I"), (0, .fieldref 8 14), (0, .nameAndType 15 16), (0, u "deployment"), (0, u "Lcom/example/item_type_store/itemtypestore/model/Deployment;"), (12, u "(ILcom/example/item_type_store/itemtypestore/model/Deployment;)V"), (10, .class_ 41), (0, u "com/example/item_type_store/itemtypestore/TypeSystemDraft")] 20

def k20c0 : Code := { maxStack := 2, maxLocals := 3, code := prog_85_method_1_code, exceptionTable := #[], attributes := #[] }
def k20m0 : Method := { name := "<init>", desc := "(ILcom/example/item_type_store/itemtypestore/model/Deployment;)V", sig := { parameters := [.int, (.object "com/example/item_type_store/itemtypestore/model/Deployment")], returnType := none }, accessFlags := 0, code := some k20c0 }
/-- com/example/item_type_store/itemtypestore/TypeSystemDraft$DeploymentDraft -/
def k20 : Class := { plain "com/example/item_type_store/itemtypestore/TypeSystemDraft$DeploymentDraft" (some 9) with
  accessFlags := 48
  interfaces := #[]
  cf := some (fileOf pool20 8 #[.nestHost 40] #[{ accessFlags := 0, nameIndex := 5, descriptorIndex := 29, attributes := #[] }] 48 2 #[] #[{ accessFlags := 18, nameIndex := 11, descriptorIndex := 12, attributes := #[] }, { accessFlags := 18, nameIndex := 15, descriptorIndex := 16, attributes := #[] }])
  fields := #[{ name := "line", type := .int, accessFlags := 18, slot := 0, constantValue := 0 }, { name := "deployment", type := (.object "com/example/item_type_store/itemtypestore/model/Deployment"), accessFlags := 18, slot := 1, constantValue := 0 }]
  methods := #[k20m0]
  instanceTypes := #[.int, (.object "com/example/item_type_store/itemtypestore/model/Deployment")]
  staticTypes := #[]
  resolved := Array.replicate 62 none
  statics := none }

def pool21 : Array CpInfo := pool [(4, .class_ 6), (1, u "java/lang/Object"), (0, u "<init>"), (0, u "()V"), (5, .class_ 16), (1, u "java/lang/StringLatin1"), (73, u "canEncode"), (14, u "(C)Z"), (15, u "$assertionsDisabled"), (0, u "Z"), (98, .class_ 223), (1, u "java/lang/StringLatin1$LinesSpliterator"), (156, u "toBytes"), (1, u "(C)[B"), (7, .class_ 391), (0, u "java/lang/StringLatin1$CharsSpliterator")] 3

def k21m0 : Method := { name := "<init>", desc := "()V", sig := { parameters := [], returnType := none }, accessFlags := 0, code := none }
def k21c1 : Code := { maxStack := 2, maxLocals := 1, code := jdk_43_method_3_code, exceptionTable := #[], attributes := #[] }
def k21m1 : Method := { name := "canEncode", desc := "(C)Z", sig := { parameters := [.char], returnType := some .boolean }, accessFlags := 9, code := some k21c1 }
def k21c2 : Code := { maxStack := 4, maxLocals := 1, code := jdk_43_method_46_code, exceptionTable := #[], attributes := #[] }
def k21m2 : Method := { name := "toBytes", desc := "(C)[B", sig := { parameters := [.char], returnType := some (.array .byte) }, accessFlags := 9, code := some k21c2 }
/-- java/lang/StringLatin1 -/
def k21 : Class := { plain "java/lang/StringLatin1" (some 0) with
  accessFlags := 48
  interfaces := #[]
  cf := some (fileOf pool21 14 #[.nestMembers #[390, 221]] #[{ accessFlags := 0, nameIndex := 7, descriptorIndex := 8, attributes := #[] }, { accessFlags := 9, nameIndex := 90, descriptorIndex := 105, attributes := #[] }, { accessFlags := 9, nameIndex := 380, descriptorIndex := 382, attributes := #[] }] 48 4 #[] #[{ accessFlags := 4120, nameIndex := 121, descriptorIndex := 122, attributes := #[] }])
  fields := #[{ name := "$assertionsDisabled", type := .boolean, accessFlags := 4120, slot := 0, constantValue := 0 }]
  methods := #[k21m0, k21m1, k21m2]
  instanceTypes := #[]
  staticTypes := #[.boolean]
  resolved := Array.replicate 395 none
  statics := none }

def pool22 : Array CpInfo := pool [(1, .methodref 2 3), (0, .class_ 4), (0, .nameAndType 5 6), (0, u "java/lang/Record"), (0, u "<init>"), (0, u "()V"), (0, .fieldref 8 9), (0, .class_ 10), (0, .nameAndType 11 12), (0, u "com/example/item_type_store/itemtypestore/model/Deployment"), (0, u "table"), (0, u "Ljava/lang/String;"), (0, .fieldref 8 14), (0, .nameAndType 15 16), (0, u "typecode"), (0, u "I"), (12, u "(Ljava/lang/String;I)V")] 27

def k22c0 : Code := { maxStack := 2, maxLocals := 3, code := prog_102_method_1_code, exceptionTable := #[], attributes := #[] }
def k22m0 : Method := { name := "<init>", desc := "(Ljava/lang/String;I)V", sig := { parameters := [(.object "java/lang/String"), .int], returnType := none }, accessFlags := 1, code := some k22c0 }
/-- com/example/item_type_store/itemtypestore/model/Deployment -/
def k22 : Class := { plain "com/example/item_type_store/itemtypestore/model/Deployment" (some 9) with
  accessFlags := 49
  interfaces := #[]
  cf := some (fileOf pool22 8 #[] #[{ accessFlags := 1, nameIndex := 5, descriptorIndex := 29, attributes := #[] }] 49 2 #[] #[{ accessFlags := 18, nameIndex := 11, descriptorIndex := 12, attributes := #[] }, { accessFlags := 18, nameIndex := 15, descriptorIndex := 16, attributes := #[] }])
  fields := #[{ name := "table", type := (.object "java/lang/String"), accessFlags := 18, slot := 0, constantValue := 0 }, { name := "typecode", type := .int, accessFlags := 18, slot := 1, constantValue := 0 }]
  methods := #[k22m0]
  instanceTypes := #[(.object "java/lang/String"), .int]
  staticTypes := #[]
  resolved := Array.replicate 57 none
  statics := none }

def pool23 : Array CpInfo := pool [(2, .class_ 4), (1, u "java/lang/Object"), (0, u "<init>"), (0, u "()V"), (17, .class_ 26), (1, u "jdk/internal/util/Preconditions"), (28, .class_ 56), (0, u "jdk/internal/util/Preconditions$4"), (57, .class_ 115), (0, u "jdk/internal/util/Preconditions$1"), (7, u "SIOOBE_FORMATTER"), (0, u "Ljava/util/function/BiFunction;"), (0, .class_ 126), (0, u "jdk/internal/util/Preconditions$2"), (3, u "AIOOBE_FORMATTER"), (0, .class_ 132), (0, u "jdk/internal/util/Preconditions$3"), (3, u "IOOBE_FORMATTER")] 57

def k23m0 : Method := { name := "<init>", desc := "()V", sig := { parameters := [], returnType := none }, accessFlags := 1, code := none }
/-- jdk/internal/util/Preconditions -/
def k23 : Class := { plain "jdk/internal/util/Preconditions" (some 0) with
  accessFlags := 33
  interfaces := #[]
  cf := some (fileOf pool23 24 #[.nestMembers #[55, 131, 125, 114]] #[{ accessFlags := 1, nameIndex := 5, descriptorIndex := 6, attributes := #[] }] 33 2 #[] #[{ accessFlags := 25, nameIndex := 123, descriptorIndex := 124, attributes := #[] }, { accessFlags := 25, nameIndex := 130, descriptorIndex := 124, attributes := #[] }, { accessFlags := 25, nameIndex := 136, descriptorIndex := 124, attributes := #[] }])
  fields := #[{ name := "SIOOBE_FORMATTER", type := (.object "java/util/function/BiFunction"), accessFlags := 25, slot := 0, constantValue := 0 }, { name := "AIOOBE_FORMATTER", type := (.object "java/util/function/BiFunction"), accessFlags := 25, slot := 1, constantValue := 0 }, { name := "IOOBE_FORMATTER", type := (.object "java/util/function/BiFunction"), accessFlags := 25, slot := 2, constantValue := 0 }]
  methods := #[k23m0]
  instanceTypes := #[]
  staticTypes := #[(.object "java/util/function/BiFunction"), (.object "java/util/function/BiFunction"), (.object "java/util/function/BiFunction")]
  resolved := Array.replicate 194 none
  statics := some 2 }

def pool24 : Array CpInfo := pool [(9, u "<init>"), (6, .class_ 18), (1, u "java/lang/Object"), (0, u "()V"), (1, .class_ 23), (1, u "jdk/internal/util/ArraysSupport"), (0, u "LOG2_ARRAY_LONG_INDEX_SCALE"), (0, u "I"), (2, u "U"), (0, u "Ljdk/internal/misc/Unsafe;"), (8, u "BIG_ENDIAN"), (0, u "Z"), (8, u "LOG2_BYTE_BIT_SIZE"), (4, u "LOG2_ARRAY_INT_INDEX_SCALE"), (54, u "JLA"), (0, u "Ljdk/internal/access/JavaLangAccess;"), (11, u "LOG2_ARRAY_BOOLEAN_INDEX_SCALE"), (9, u "LOG2_ARRAY_BYTE_INDEX_SCALE"), (5, u "LOG2_ARRAY_CHAR_INDEX_SCALE"), (5, u "LOG2_ARRAY_SHORT_INDEX_SCALE"), (18, u "LOG2_ARRAY_FLOAT_INDEX_SCALE"), (24, u "LOG2_ARRAY_DOUBLE_INDEX_SCALE"), (89, u "T_BOOLEAN"), (2, u "T_CHAR"), (1, u "T_FLOAT"), (1, u "T_DOUBLE"), (1, u "T_BYTE"), (1, u "T_SHORT"), (1, u "T_INT"), (1, u "T_LONG"), (1, u "SOFT_MAX_ARRAY_LENGTH")] 83

def k24m0 : Method := { name := "<init>", desc := "()V", sig := { parameters := [], returnType := none }, accessFlags := 2, code := none }
/-- jdk/internal/util/ArraysSupport -/
def k24 : Class := { plain "jdk/internal/util/ArraysSupport" (some 0) with
  accessFlags := 33
  interfaces := #[]
  cf := some (fileOf pool24 21 #[] #[{ accessFlags := 2, nameIndex := 9, descriptorIndex := 19, attributes := #[] }] 33 16 #[] #[{ accessFlags := 24, nameIndex := 28, descriptorIndex := 29, attributes := #[] }, { accessFlags := 26, nameIndex := 38, descriptorIndex := 39, attributes := #[] }, { accessFlags := 25, nameIndex := 121, descriptorIndex := 25, attributes := #[] }, { accessFlags := 25, nameIndex := 131, descriptorIndex := 25, attributes := #[] }, { accessFlags := 25, nameIndex := 137, descriptorIndex := 25, attributes := #[] }, { accessFlags := 25, nameIndex := 143, descriptorIndex := 25, attributes := #[] }, { accessFlags := 25, nameIndex := 53, descriptorIndex := 25, attributes := #[] }, { accessFlags := 25, nameIndex := 24, descriptorIndex := 25, attributes := #[] }, { accessFlags := 25, nameIndex := 162, descriptorIndex := 25, attributes := #[] }, { accessFlags := 25, nameIndex := 187, descriptorIndex := 25, attributes := #[] }, { accessFlags := 26, nameIndex := 48, descriptorIndex := 25, attributes := #[] }, { accessFlags := 25, nameIndex := 277, descriptorIndex := 25, attributes := #[] }, { accessFlags := 25, nameIndex := 280, descriptorIndex := 25, attributes := #[] }, { accessFlags := 25, nameIndex := 282, descriptorIndex := 25, attributes := #[] }, { accessFlags := 25, nameIndex := 284, descriptorIndex := 25, attributes := #[] }, { accessFlags := 25, nameIndex := 286, descriptorIndex := 25, attributes := #[] }, { accessFlags := 25, nameIndex := 288, descriptorIndex := 25, attributes := #[] }, { accessFlags := 25, nameIndex := 290, descriptorIndex := 25, attributes := #[] }, { accessFlags := 25, nameIndex := 292, descriptorIndex := 25, attributes := #[] }, { accessFlags := 26, nameIndex := 108, descriptorIndex := 109, attributes := #[] }, { accessFlags := 25, nameIndex := 294, descriptorIndex := 25, attributes := #[] }])
  fields := #[{ name := "U", type := (.object "jdk/internal/misc/Unsafe"), accessFlags := 24, slot := 0, constantValue := 0 }, { name := "BIG_ENDIAN", type := .boolean, accessFlags := 26, slot := 1, constantValue := 0 }, { name := "LOG2_ARRAY_BOOLEAN_INDEX_SCALE", type := .int, accessFlags := 25, slot := 2, constantValue := 0 }, { name := "LOG2_ARRAY_BYTE_INDEX_SCALE", type := .int, accessFlags := 25, slot := 3, constantValue := 0 }, { name := "LOG2_ARRAY_CHAR_INDEX_SCALE", type := .int, accessFlags := 25, slot := 4, constantValue := 0 }, { name := "LOG2_ARRAY_SHORT_INDEX_SCALE", type := .int, accessFlags := 25, slot := 5, constantValue := 0 }, { name := "LOG2_ARRAY_INT_INDEX_SCALE", type := .int, accessFlags := 25, slot := 6, constantValue := 0 }, { name := "LOG2_ARRAY_LONG_INDEX_SCALE", type := .int, accessFlags := 25, slot := 7, constantValue := 0 }, { name := "LOG2_ARRAY_FLOAT_INDEX_SCALE", type := .int, accessFlags := 25, slot := 8, constantValue := 0 }, { name := "LOG2_ARRAY_DOUBLE_INDEX_SCALE", type := .int, accessFlags := 25, slot := 9, constantValue := 0 }, { name := "LOG2_BYTE_BIT_SIZE", type := .int, accessFlags := 26, slot := 10, constantValue := 0 }, { name := "T_BOOLEAN", type := .int, accessFlags := 25, slot := 11, constantValue := 0 }, { name := "T_CHAR", type := .int, accessFlags := 25, slot := 12, constantValue := 0 }, { name := "T_FLOAT", type := .int, accessFlags := 25, slot := 13, constantValue := 0 }, { name := "T_DOUBLE", type := .int, accessFlags := 25, slot := 14, constantValue := 0 }, { name := "T_BYTE", type := .int, accessFlags := 25, slot := 15, constantValue := 0 }, { name := "T_SHORT", type := .int, accessFlags := 25, slot := 16, constantValue := 0 }, { name := "T_INT", type := .int, accessFlags := 25, slot := 17, constantValue := 0 }, { name := "T_LONG", type := .int, accessFlags := 25, slot := 18, constantValue := 0 }, { name := "JLA", type := (.object "jdk/internal/access/JavaLangAccess"), accessFlags := 26, slot := 19, constantValue := 0 }, { name := "SOFT_MAX_ARRAY_LENGTH", type := .int, accessFlags := 25, slot := 20, constantValue := 0 }]
  methods := #[k24m0]
  instanceTypes := #[]
  staticTypes := #[(.object "jdk/internal/misc/Unsafe"), .boolean, .int, .int, .int, .int, .int, .int, .int, .int, .int, .int, .int, .int, .int, .int, .int, .int, .int, (.object "jdk/internal/access/JavaLangAccess"), .int]
  resolved := Array.replicate 378 none
  statics := none }

/-- the primitive byte -/
def k25 : Class := { plain "byte" none with kind := .primitive 'B', accessFlags := 0x411 }
/-- [B -/
def k26 : Class := { plain "[B" (some 0) with kind := .array 25 .byte, interfaces := #[18, 2], accessFlags := 1041 }

/-- the primitive char -/
def k27 : Class := { plain "char" none with kind := .primitive 'C', accessFlags := 0x411 }
/-- [C -/
def k28 : Class := { plain "[C" (some 0) with kind := .array 27 .char, interfaces := #[18, 2], accessFlags := 1041 }

/-- the primitive int -/
def k29 : Class := { plain "int" none with kind := .primitive 'I', accessFlags := 0x411 }
/-- [I -/
def k30 : Class := { plain "[I" (some 0) with kind := .array 29 .int, interfaces := #[18, 2], accessFlags := 1041 }

/-- [Ljava/lang/Object; -/
def k31 : Class := { plain "[Ljava/lang/Object;" (some 0) with kind := .array 0 (.object "java/lang/Object"), interfaces := #[18, 2], accessFlags := 1041 }

def heap : Heap := #[{ cls := 7, slots := #[.long 0, .int 1, .null, .int 0, .null, .int 0, .int 0], vm := .statics 7 },
  { cls := 19, slots := #[.long 0, .int 0, .ref 3, .ref 4], vm := .statics 19 },
  { cls := 23, slots := #[.null, .null, .null], vm := .statics 23 },
  { cls := 31, slots := #[], vm := .none },
  { cls := 31, slots := #[], vm := .none }]
def classes : Array Class := #[k0, k1, k2, k3, k4, k5, k6, k7, k8, k9, k10, k11, k12, k13, k14, k15, k16, k17, k18, k19, k20, k21, k22, k23, k24, k25, k26, k27, k28, k29, k30, k31]
def interned : List (Array UInt16 × Addr) := []
def slotsUsed : Nat := 14
def theMethod : MethodId := ⟨1, 1⟩
def args0 : Array Value := #[.int 5, .int 300, .int 1, .int 7, .int 9, .int 11]
def aboutOver (below : List Frame) : State where
  vm := { classes := classes, interned := interned.toArray }
  heap := heap
  slotsUsed := slotsUsed
  threads := #[{ frames := .invoking theMethod args0 :: below }]
def below0 : List Frame := [.native { method := ⟨0, 0⟩, args := #[] }]
def about1 : State := aboutOver below0
def p0 : Program := .bare "" "" ""
def e0 : Env := launch0.env 0 0 0
theorem w_frames : about1.frames = Frame.invoking theMethod args0 :: below0 := rfl
set_option maxRecDepth 65536 in
theorem w_args : argsFit about1.vm theMethod args0 = true := by decide +kernel
set_option maxRecDepth 65536 in
theorem w_heap : heapFits about1 = true := by decide +kernel
set_option maxRecDepth 65536 in
theorem w_runnable : about1.curStatus? = some .runnable := by decide +kernel
set_option maxRecDepth 65536 in
theorem w_alone : about1.alone = true := by decide +kernel
set_option maxRecDepth 65536 in
theorem w_named : about1.methodNamed? x = some theMethod := by decide +kernel
set_option maxRecDepth 65536 in
theorem w_hears : about1.hears theMethod below0 = true := by decide +kernel
set_option maxRecDepth 65536 in
theorem w_ripe : about1.ripe theMethod args0 below0 = true := by decide +kernel
theorem w_running : about1.status = .running := rfl
set_option maxRecDepth 65536 in
theorem w_room : about1.hasRoom e0.platform room_1 = true :=
  launch0.hasRoom_least _ room_1 (by decide +kernel) (by decide +kernel) (by decide +kernel) (by decide +kernel) (by decide +kernel) (by decide +kernel)
theorem allAtoms_all (ts : List Jvm.Cond) (a : Array Jvm.Value) (st : Jvm.State) : (allAtoms ts).before a st = ts.all (fun c => c.before a st) := by
  induction ts with
  | nil => rfl
  | cons c t ih =>
    show (Jvm.Cond.and c (allAtoms t)).before a st = _
    rw [Jvm.Cond.before_and, ih, List.all_cons]
def words1 : List Jvm.Cond := Jvm.Cond.code x code maxLocals ret :: tables_1
/-- a 'code' word, met by the world's own term for the bytes: nothing is compared byte by byte -/
theorem code_word {y : MethodName} {bytes : ByteArray} {mx : Nat} {rt : Option FieldType} {a : Array Value} {s : State} {m : MethodId} {meth : Method} {c : Code} (h1 : s.methodNamed? y = some m) (h2 : s.vm.method? m = some meth) (h3 : meth.code = some c) (h4 : c.code = bytes)
    (h5 : (c.maxLocals == mx && c.exceptionTable.isEmpty && decide (c.maxStack ≤ mostOperands) && decide (meth.sig.returnType = rt) && !meth.locks && decide (parseMethodDescriptor y.desc = some meth.sig)) = true) : (Jvm.Cond.code y bytes mx rt).before a s = true := by
  simp only [Bool.and_eq_true, beq_iff_eq, Bool.not_eq_true', decide_eq_true_eq] at h5
  obtain ⟨⟨⟨⟨⟨g1, g2⟩, g3⟩, g4⟩, g5⟩, g6⟩ := h5
  simp [Cond.before, Cond.holds, Cond.value, h1, h2, h3, h4, g1, g2, g3, g4, g5, g6]
def isCode : Jvm.Cond → Bool
  | .code _ _ _ _ => true
  | _ => false
theorem all_split {L : List Jvm.Cond} {P : Jvm.Cond → Bool} (h1 : L.all (fun c => isCode c || P c) = true) (h2 : ∀ c ∈ L.filter isCode, P c = true) : L.all P = true := by
  refine List.all_eq_true.mpr fun c hc => ?_
  have h := List.all_eq_true.mp h1 c hc
  rcases Bool.eq_false_or_eq_true (isCode c) with hi | hi
  · exact h2 c (List.mem_filter.mpr ⟨hc, hi⟩)
  · simpa [hi] using h
set_option maxRecDepth 65536 in
theorem w_c0 : (Jvm.Cond.code x code maxLocals ret).before args0 about1 = true := code_word (m := ⟨1, 1⟩) (meth := k1m1) (c := k1c1) (by decide +kernel) rfl rfl rfl (by decide +kernel)
set_option maxRecDepth 65536 in
theorem w_c1 : (Jvm.Cond.code ({ cls := "java/lang/String", name := "<init>", desc := "([C)V" } : Jvm.MethodName) jdk_42_method_3_code (2 : Nat) (Option.none : Option Jvm.ClassFile.FieldType)).before args0 about1 = true := code_word (m := ⟨7, 1⟩) (meth := k7m1) (c := k7c1) (by decide +kernel) rfl rfl rfl (by decide +kernel)
set_option maxRecDepth 65536 in
theorem w_c2 : (Jvm.Cond.code ({ cls := "java/lang/String", name := "<init>", desc := "([CIILjava/lang/Void;)V" } : Jvm.MethodName) jdk_42_method_149_code (6 : Nat) (Option.none : Option Jvm.ClassFile.FieldType)).before args0 about1 = true := code_word (m := ⟨7, 3⟩) (meth := k7m3) (c := k7c3) (by decide +kernel) rfl rfl rfl (by decide +kernel)
set_option maxRecDepth 65536 in
theorem w_c3 : (Jvm.Cond.code ({ cls := "java/lang/Object", name := "<init>", desc := "()V" } : Jvm.MethodName) object_method_1_code (1 : Nat) (Option.none : Option Jvm.ClassFile.FieldType)).before args0 about1 = true := code_word (m := ⟨0, 0⟩) (meth := k0m0) (c := k0c0) (by decide +kernel) rfl rfl rfl (by decide +kernel)
set_option maxRecDepth 65536 in
theorem w_c4 : (Jvm.Cond.code ({ cls := "java/lang/StringUTF16", name := "compress", desc := "([CII)[B" } : Jvm.MethodName) jdk_52_method_16_code (6 : Nat) (Option.some (Jvm.ClassFile.FieldType.array Jvm.ClassFile.FieldType.byte))).before args0 about1 = true := code_word (m := ⟨8, 2⟩) (meth := k8m2) (c := k8c2) (by decide +kernel) rfl rfl rfl (by decide +kernel)
set_option maxRecDepth 65536 in
theorem w_c5 : (Jvm.Cond.code ({ cls := "java/lang/StringUTF16", name := "compress", desc := "([CI[BII)I" } : Jvm.MethodName) jdk_52_method_21_code (7 : Nat) (Option.some Jvm.ClassFile.FieldType.int)).before args0 about1 = true := code_word (m := ⟨8, 3⟩) (meth := k8m3) (c := k8c3) (by decide +kernel) rfl rfl rfl (by decide +kernel)
set_option maxRecDepth 65536 in
theorem w_c6 : (Jvm.Cond.code ({ cls := "java/lang/StringUTF16", name := "coderFromArrayLen", desc := "([BI)B" } : Jvm.MethodName) jdk_52_method_15_code (2 : Nat) (Option.some Jvm.ClassFile.FieldType.byte)).before args0 about1 = true := code_word (m := ⟨8, 1⟩) (meth := k8m1) (c := k8c1) (by decide +kernel) rfl rfl rfl (by decide +kernel)
set_option maxRecDepth 65536 in
theorem w_c7 : (Jvm.Cond.code ({ cls := "java/util/ArrayList", name := "<init>", desc := "()V" } : Jvm.MethodName) jdk_38_method_2_code (1 : Nat) (Option.none : Option Jvm.ClassFile.FieldType)).before args0 about1 = true := code_word (m := ⟨19, 0⟩) (meth := k19m0) (c := k19c0) (by decide +kernel) rfl rfl rfl (by decide +kernel)
set_option maxRecDepth 65536 in
theorem w_c8 : (Jvm.Cond.code ({ cls := "java/util/AbstractList", name := "<init>", desc := "()V" } : Jvm.MethodName) jdk_39_method_1_code (1 : Nat) (Option.none : Option Jvm.ClassFile.FieldType)).before args0 about1 = true := code_word (m := ⟨16, 0⟩) (meth := k16m0) (c := k16c0) (by decide +kernel) rfl rfl rfl (by decide +kernel)
set_option maxRecDepth 65536 in
theorem w_c9 : (Jvm.Cond.code ({ cls := "java/util/AbstractCollection", name := "<init>", desc := "()V" } : Jvm.MethodName) jdk_22_method_1_code (1 : Nat) (Option.none : Option Jvm.ClassFile.FieldType)).before args0 about1 = true := code_word (m := ⟨13, 0⟩) (meth := k13m0) (c := k13c0) (by decide +kernel) rfl rfl rfl (by decide +kernel)
set_option maxRecDepth 65536 in
theorem w_c10 : (Jvm.Cond.code ({ cls := "com/example/item_type_store/itemtypestore/TypeSystemDraft$TypeDraft", name := "<init>", desc := "(Ljava/lang/String;ILjava/lang/String;Ljava/lang/String;ZZLcom/example/item_type_store/itemtypestore/TypeSystemDraft$DeploymentDraft;Ljava/util/List;Ljava/util/List;Ljava/util/Map;)V" } : Jvm.MethodName) prog_95_method_1_code (11 : Nat) (Option.none : Option Jvm.ClassFile.FieldType)).before args0 about1 = true := code_word (m := ⟨10, 0⟩) (meth := k10m0) (c := k10c0) (by decide +kernel) rfl rfl rfl (by decide +kernel)
set_option maxRecDepth 65536 in
theorem w_c11 : (Jvm.Cond.code ({ cls := "java/lang/Record", name := "<init>", desc := "()V" } : Jvm.MethodName) jdk_30_method_1_code (1 : Nat) (Option.none : Option Jvm.ClassFile.FieldType)).before args0 about1 = true := code_word (m := ⟨9, 0⟩) (meth := k9m0) (c := k9c0) (by decide +kernel) rfl rfl rfl (by decide +kernel)
set_option maxRecDepth 65536 in
theorem w_c12 : (Jvm.Cond.code ({ cls := "com/example/item_type_store/itemtypestore/TypeSystemDraft$TypeDraft", name := "lacksDeployment", desc := "()Z" } : Jvm.MethodName) prog_95_method_2_code (1 : Nat) (Option.some Jvm.ClassFile.FieldType.boolean)).before args0 about1 = true := code_word (m := ⟨10, 1⟩) (meth := k10m1) (c := k10c1) (by decide +kernel) rfl rfl rfl (by decide +kernel)
set_option maxRecDepth 65536 in
theorem w_c13 : (Jvm.Cond.code ({ cls := "com/example/item_type_store/itemtypestore/TypeSystemDraft$DeploymentDraft", name := "<init>", desc := "(ILcom/example/item_type_store/itemtypestore/model/Deployment;)V" } : Jvm.MethodName) prog_85_method_1_code (3 : Nat) (Option.none : Option Jvm.ClassFile.FieldType)).before args0 about1 = true := code_word (m := ⟨20, 0⟩) (meth := k20m0) (c := k20c0) (by decide +kernel) rfl rfl rfl (by decide +kernel)
set_option maxRecDepth 65536 in
theorem w_c14 : (Jvm.Cond.code ({ cls := "java/lang/String", name := "valueOf", desc := "(C)Ljava/lang/String;" } : Jvm.MethodName) jdk_42_method_139_code (1 : Nat) (Option.some (Jvm.ClassFile.FieldType.object "java/lang/String"))).before args0 about1 = true := code_word (m := ⟨7, 2⟩) (meth := k7m2) (c := k7c2) (by decide +kernel) rfl rfl rfl (by decide +kernel)
set_option maxRecDepth 65536 in
theorem w_c15 : (Jvm.Cond.code ({ cls := "java/lang/StringLatin1", name := "canEncode", desc := "(C)Z" } : Jvm.MethodName) jdk_43_method_3_code (1 : Nat) (Option.some Jvm.ClassFile.FieldType.boolean)).before args0 about1 = true := code_word (m := ⟨21, 1⟩) (meth := k21m1) (c := k21c1) (by decide +kernel) rfl rfl rfl (by decide +kernel)
set_option maxRecDepth 65536 in
theorem w_c16 : (Jvm.Cond.code ({ cls := "java/lang/StringLatin1", name := "toBytes", desc := "(C)[B" } : Jvm.MethodName) jdk_43_method_46_code (1 : Nat) (Option.some (Jvm.ClassFile.FieldType.array Jvm.ClassFile.FieldType.byte))).before args0 about1 = true := code_word (m := ⟨21, 2⟩) (meth := k21m2) (c := k21c2) (by decide +kernel) rfl rfl rfl (by decide +kernel)
set_option maxRecDepth 65536 in
theorem w_c17 : (Jvm.Cond.code ({ cls := "java/lang/String", name := "<init>", desc := "([BB)V" } : Jvm.MethodName) jdk_42_method_151_code (3 : Nat) (Option.none : Option Jvm.ClassFile.FieldType)).before args0 about1 = true := code_word (m := ⟨7, 4⟩) (meth := k7m4) (c := k7c4) (by decide +kernel) rfl rfl rfl (by decide +kernel)
set_option maxRecDepth 65536 in
theorem w_c18 : (Jvm.Cond.code ({ cls := "com/example/item_type_store/itemtypestore/model/Deployment", name := "<init>", desc := "(Ljava/lang/String;I)V" } : Jvm.MethodName) prog_102_method_1_code (3 : Nat) (Option.none : Option Jvm.ClassFile.FieldType)).before args0 about1 = true := code_word (m := ⟨22, 0⟩) (meth := k22m0) (c := k22c0) (by decide +kernel) rfl rfl rfl (by decide +kernel)
def codes1 : List Jvm.Cond := [Jvm.Cond.code x code maxLocals ret, Jvm.Cond.code ({ cls := "java/lang/String", name := "<init>", desc := "([C)V" } : Jvm.MethodName) jdk_42_method_3_code (2 : Nat) (Option.none : Option Jvm.ClassFile.FieldType), Jvm.Cond.code ({ cls := "java/lang/String", name := "<init>", desc := "([CIILjava/lang/Void;)V" } : Jvm.MethodName) jdk_42_method_149_code (6 : Nat) (Option.none : Option Jvm.ClassFile.FieldType), Jvm.Cond.code ({ cls := "java/lang/Object", name := "<init>", desc := "()V" } : Jvm.MethodName) object_method_1_code (1 : Nat) (Option.none : Option Jvm.ClassFile.FieldType), Jvm.Cond.code ({ cls := "java/lang/StringUTF16", name := "compress", desc := "([CII)[B" } : Jvm.MethodName) jdk_52_method_16_code (6 : Nat) (Option.some (Jvm.ClassFile.FieldType.array Jvm.ClassFile.FieldType.byte)), Jvm.Cond.code ({ cls := "java/lang/StringUTF16", name := "compress", desc := "([CI[BII)I" } : Jvm.MethodName) jdk_52_method_21_code (7 : Nat) (Option.some Jvm.ClassFile.FieldType.int), Jvm.Cond.code ({ cls := "java/lang/StringUTF16", name := "coderFromArrayLen", desc := "([BI)B" } : Jvm.MethodName) jdk_52_method_15_code (2 : Nat) (Option.some Jvm.ClassFile.FieldType.byte), Jvm.Cond.code ({ cls := "java/util/ArrayList", name := "<init>", desc := "()V" } : Jvm.MethodName) jdk_38_method_2_code (1 : Nat) (Option.none : Option Jvm.ClassFile.FieldType), Jvm.Cond.code ({ cls := "java/util/AbstractList", name := "<init>", desc := "()V" } : Jvm.MethodName) jdk_39_method_1_code (1 : Nat) (Option.none : Option Jvm.ClassFile.FieldType), Jvm.Cond.code ({ cls := "java/util/AbstractCollection", name := "<init>", desc := "()V" } : Jvm.MethodName) jdk_22_method_1_code (1 : Nat) (Option.none : Option Jvm.ClassFile.FieldType), Jvm.Cond.code ({ cls := "com/example/item_type_store/itemtypestore/TypeSystemDraft$TypeDraft", name := "<init>", desc := "(Ljava/lang/String;ILjava/lang/String;Ljava/lang/String;ZZLcom/example/item_type_store/itemtypestore/TypeSystemDraft$DeploymentDraft;Ljava/util/List;Ljava/util/List;Ljava/util/Map;)V" } : Jvm.MethodName) prog_95_method_1_code (11 : Nat) (Option.none : Option Jvm.ClassFile.FieldType), Jvm.Cond.code ({ cls := "java/lang/Record", name := "<init>", desc := "()V" } : Jvm.MethodName) jdk_30_method_1_code (1 : Nat) (Option.none : Option Jvm.ClassFile.FieldType), Jvm.Cond.code ({ cls := "com/example/item_type_store/itemtypestore/TypeSystemDraft$TypeDraft", name := "lacksDeployment", desc := "()Z" } : Jvm.MethodName) prog_95_method_2_code (1 : Nat) (Option.some Jvm.ClassFile.FieldType.boolean), Jvm.Cond.code ({ cls := "com/example/item_type_store/itemtypestore/TypeSystemDraft$DeploymentDraft", name := "<init>", desc := "(ILcom/example/item_type_store/itemtypestore/model/Deployment;)V" } : Jvm.MethodName) prog_85_method_1_code (3 : Nat) (Option.none : Option Jvm.ClassFile.FieldType), Jvm.Cond.code ({ cls := "java/lang/String", name := "valueOf", desc := "(C)Ljava/lang/String;" } : Jvm.MethodName) jdk_42_method_139_code (1 : Nat) (Option.some (Jvm.ClassFile.FieldType.object "java/lang/String")), Jvm.Cond.code ({ cls := "java/lang/StringLatin1", name := "canEncode", desc := "(C)Z" } : Jvm.MethodName) jdk_43_method_3_code (1 : Nat) (Option.some Jvm.ClassFile.FieldType.boolean), Jvm.Cond.code ({ cls := "java/lang/StringLatin1", name := "toBytes", desc := "(C)[B" } : Jvm.MethodName) jdk_43_method_46_code (1 : Nat) (Option.some (Jvm.ClassFile.FieldType.array Jvm.ClassFile.FieldType.byte)), Jvm.Cond.code ({ cls := "java/lang/String", name := "<init>", desc := "([BB)V" } : Jvm.MethodName) jdk_42_method_151_code (3 : Nat) (Option.none : Option Jvm.ClassFile.FieldType), Jvm.Cond.code ({ cls := "com/example/item_type_store/itemtypestore/model/Deployment", name := "<init>", desc := "(Ljava/lang/String;I)V" } : Jvm.MethodName) prog_102_method_1_code (3 : Nat) (Option.none : Option Jvm.ClassFile.FieldType)]
set_option maxRecDepth 65536 in
theorem codes_eq : words1.filter isCode = codes1 := rfl
theorem w_codes : ∀ c ∈ words1.filter isCode, c.before args0 about1 = true := by
  rw [codes_eq]
  intro c hc
  simp only [codes1, List.mem_cons, List.not_mem_nil, or_false] at hc
  rcases hc with rfl | rfl | rfl | rfl | rfl | rfl | rfl | rfl | rfl | rfl | rfl | rfl | rfl | rfl | rfl | rfl | rfl | rfl | rfl
  · exact w_c0
  · exact w_c1
  · exact w_c2
  · exact w_c3
  · exact w_c4
  · exact w_c5
  · exact w_c6
  · exact w_c7
  · exact w_c8
  · exact w_c9
  · exact w_c10
  · exact w_c11
  · exact w_c12
  · exact w_c13
  · exact w_c14
  · exact w_c15
  · exact w_c16
  · exact w_c17
  · exact w_c18
set_option maxRecDepth 65536 in
theorem w_t1 : (words1.take 24).all (fun c => isCode c || c.before args0 about1) = true := by decide +kernel
set_option maxRecDepth 65536 in
theorem w_t2 : ((words1.drop 24).take 24).all (fun c => isCode c || c.before args0 about1) = true := by decide +kernel
set_option maxRecDepth 65536 in
theorem w_t3 : (((words1.drop 24).drop 24).take 24).all (fun c => isCode c || c.before args0 about1) = true := by decide +kernel
set_option maxRecDepth 65536 in
theorem w_t4 : ((((words1.drop 24).drop 24).drop 24).take 24).all (fun c => isCode c || c.before args0 about1) = true := by decide +kernel
set_option maxRecDepth 65536 in
theorem w_t5 : (((((words1.drop 24).drop 24).drop 24).drop 24).take 24).all (fun c => isCode c || c.before args0 about1) = true := by decide +kernel
set_option maxRecDepth 65536 in
theorem w_t6 : (((((words1.drop 24).drop 24).drop 24).drop 24).drop 24).all (fun c => isCode c || c.before args0 about1) = true := by decide +kernel
theorem w_tables : (allAtoms (Jvm.Cond.code x code maxLocals ret :: tables_1)).before args0 about1 = true := by
  rw [allAtoms_all]
  show words1.all (fun c => c.before args0 about1) = true
  refine all_split ?_ w_codes
  rw [← List.take_append_drop 24 words1, List.all_append, w_t1, ← List.take_append_drop 24 (words1.drop 24), List.all_append, w_t2, ← List.take_append_drop 24 ((words1.drop 24).drop 24), List.all_append, w_t3, ← List.take_append_drop 24 (((words1.drop 24).drop 24).drop 24), List.all_append, w_t4, ← List.take_append_drop 24 ((((words1.drop 24).drop 24).drop 24).drop 24), List.all_append, w_t5, w_t6]
  rfl
set_option maxRecDepth 65536 in
theorem w_rest : rest_1_c.before args0 about1 = true := by decide +kernel
set_option maxRecDepth 65536 in
theorem w_case : (Jvm.Cond.and given_1 narrow_1).before args0 about1 = true := by decide +kernel
theorem w_applies : (headSpec (Jvm.Cond.code x code maxLocals ret :: tables_1) room_1).applies x e0.platform about1 = true :=
  (Spec.applies_iff w_frames).mpr ⟨w_running, w_runnable, w_alone, w_named, w_hears, w_ripe, w_room, w_tables⟩
theorem atStart : AtStart classFile x code maxLocals ret World_1 tables_1 room_1 Calls_1 rest_1 Pre_1 launch0 p0 e0 about1 theMethod args0 below0 :=
  ⟨lists_1, trivial, launch0.admits_env _ _ _, launch0.least_env, fairChoices_fair.cas, fairChoices_fair.clock, w_frames, w_args, w_heap, w_applies, trivial, w_rest, w_case⟩
end start1
theorem witness_1 : WitnessClaimed_1 := ⟨start1.p0, start1.e0, start1.about1, start1.theMethod, start1.args0, start1.below0, start1.atStart⟩
end Jvm.Pilot.@@N@@
