import JvmDerived
import JvmDerived.Pilot.@@N@@Statement
import JvmDerived.Pilot.@@N@@Code
set_option linter.unusedVariables false
set_option linter.unusedSimpArgs false
@@BLOCK:NumsL.lean.txt@@
namespace Jvm.Pilot.@@N@@
open Jvm Jvm.ClassFile Sem Op Lib Jvm.Free Jvm.Stand Jvm.LawKit Jvm.RoadKit Bundle Jvm.Pilot.@@N@@.Jvm.D
/-! 0. a walk by goals: 'Go .. F T g': from the frame g at the state T the body comes to an end of which F holds -/
def Go (tb : Tables) (e : Env) (below : List Frame) (F : Outcome → State → Prop) (T : State) (g : JFrame) : Prop :=
  ∃ s₂ o, Steps tb e below (T.setTop g) s₂ ∧ s₂.status = .running ∧ Ended s₂ below o ∧ F o s₂
def Fin (s : State) (Q : Option Value → Heap → List Loc → Prop) (rc rs : Nat) : Outcome → State → Prop :=
  fun o U => ∃ v L, o = .returned v ∧ Q v U.heap L ∧ FrameEnd s o U L rc rs
/-- a contract: called with as' at the heap h it returns, and Q holds of the value, the heap and the written places -/
def MetQ (l : Launch) (Z : State) (y : MethodName) (bytes : ByteArray) (maxL : Nat) (ret : Option FieldType) (ws : List Jvm.Cond) (rm : Room) (as' : Array Value) (h : Heap) (Q : Option Value → Heap → List Loc → Prop) : Prop :=
  MetFree l y (head1 (Jvm.Cond.code y bytes maxL ret :: ws) rm) (fun a U => a = as' ∧ Z.Warmed39 U.vm ∧ U.heap = h) (fun _ _ _ _ _ => True) (fun _ U o U' => ∃ v L, o = .returned v ∧ Q v U'.heap L ∧ FrameEnd U o U' L rm.cells rm.slots)
/-- what a pure method leaves: its value, nothing written -/
def PQ (w : Value) (h : Heap) : Option Value → Heap → List Loc → Prop := fun v h' L => v = some w ∧ L = [] ∧ h' = h
theorem own_narrow_ref {t : FieldType} {v : Value} (hv : v.isRef = true) : narrow t v = v := by rcases XT.refc hv with rfl | ⟨_, rfl⟩ <;> cases t <;> rfl
theorem own_fits_obj {C : String} {v : Value} (hv : v.isRef = true) : fits (.object C) v = true := by rcases XT.refc hv with rfl | ⟨_, rfl⟩ <;> rfl
theorem own_fits_arr {t : FieldType} {v : Value} (hv : v.isRef = true) : fits (.array t) v = true := by rcases XT.refc hv with rfl | ⟨_, rfl⟩ <;> rfl
section Walk
variable {tb : Tables} {p : Program} {l : Launch} {e : Env} {R : Room} {s : State} {m : MethodId} {args : Array Value} {below : List Frame} {meth : Method} {c : Code} {T T' : State} {locs : List Loc} {cells slots : Nat} {Z : State} {a0 : Array Value} {h : Heap} {F : Outcome → State → Prop} {g g' : JFrame} {Q : Option Value → Heap → List Loc → Prop}
theorem Go.st (st : ∀ t, Steps tb e below (T'.setTop g') t → Steps tb e below (T.setTop g) t) (k : Go tb e below F T' g') : Go tb e below F T g := by
  obtain ⟨a, b, q, r⟩ := k; exact ⟨a, b, st _ q, r⟩
theorem Go.tr (st : Steps tb e below (T.setTop g) (T'.setTop g')) (k : Go tb e below F T' g') : Go tb e below F T g := by
  obtain ⟨a, b, q, r⟩ := k; exact ⟨a, b, st.trans q, r⟩
theorem Go.cast (q : g = g') (k : Go tb e below F T g') : Go tb e below F T g := q ▸ k
theorem MetQ.body {y : MethodName} {bytes : ByteArray} {maxL : Nat} {ret : Option FieldType} {ws : List Jvm.Cond} {rm : Room} {as' : Array Value} (hp : plainFor y = true)
    (k : ∀ (p : Program) (e : Env) (s : State) (m : MethodId) (below : List Frame) (meth : Method) (c : Code) (s₁ : State), p.tables.exec = Jvm.exec → c.code = bytes → c.maxLocals = maxL → s.vm.findClass y.cls = some m.cls → meth.name = y.name → meth.sig.returnType = ret → meth.locks = false →
      Z.Warmed39 s.vm → s₁.heap = h → Stand p l e rm s m as' below meth c s₁ [] 0 0 → Go p.tables e below (Fin s Q rm.cells rm.slots) s₁ (entryFrame m as' maxL)) : MetQ l Z y bytes maxL ret ws rm as' h Q := by
  refine MetFree.of_bodySF hp hisR ?_
  intro p e s m args below meth c s₁ Bd hml0 hP hK
  obtain ⟨rfl, hZ, hh⟩ := hP
  exact k p e s m below meth c s₁ Bd.exec Bd.bytes hml0 (findClass_of_methodNamed Bd.named) (name_of_methodNamed Bd.named Bd.method).1 Bd.returns (BodyLoose.notSynchronized Bd) hZ (by rw [← hh, Bd.state]; rfl) (Stand.of_body Bd)
theorem Go.retI (X : Stand p l e R s m args below meth c T locs cells slots) (hx : p.tables.exec = Jvm.exec) (hlk : meth.locks = false) (hret : meth.sig.returnType = some .int) {pc : Nat} {Ls : Array Slot} {z : Int32} {rest : List Value} (hd : decode c.code pc = .ok (.ireturn, 1)) {rc rs : Nat} (hc : cells ≤ rc) (hs : slots ≤ rs) (hq : Q (some (.int z)) T.heap locs) :
    Go p.tables e below (Fin s Q rc rs) T (mkF m pc Ls (.int z :: rest)) := by
  obtain ⟨fs, hl, hrun, hended, hW, hsame⟩ := X.leave (v := some (.int z)) (fun h => by rw [hret] at h; cases h) hlk
  refine ⟨_, _, ?_, hrun, hended, _, _, rfl, hq, ⟨_, rfl⟩, hW, hsame.mono hc hs⟩
  have hm' : T.vm.method? m = some meth := X.method'
  have hn : narrow .int (.int z) = .int z := rfl
  show Steps p.tables e below (T.setTop { method := m, pc := pc, locals := Ls, stack := _ :: rest, locked := none }) _
  jvm_step X.here [X.here.top, hx, hd, hm', hret, hn]
  first | (intro acts; rw [hl _ acts rfl rfl rfl]) | rw [hl _ _ rfl rfl rfl]
  exact Steps.refl _
theorem Go.retN (X : Stand p l e R s m args below meth c T locs cells slots) (hx : p.tables.exec = Jvm.exec) (hlk : meth.locks = false) {t : FieldType} (hret : meth.sig.returnType = some t) (ht : t = .boolean ∨ t = .byte ∨ t = .char ∨ t = .short) {pc : Nat} {Ls : Array Slot} {z : Int32} {rest : List Value} (hd : decode c.code pc = .ok (.ireturn, 1)) {rc rs : Nat} (hc : cells ≤ rc) (hs : slots ≤ rs) (hq : Q (some (.int (nar t z))) T.heap locs) :
    Go p.tables e below (Fin s Q rc rs) T (mkF m pc Ls (.int z :: rest)) := by
  obtain ⟨fs, hl, hrun, hended, hW, hsame⟩ := X.leave (v := some (.int (nar t z))) (fun h => by rw [hret] at h; cases h) hlk
  exact ⟨_, _, Jvm.RoadKit.retN X hx hret ht hd hl, hrun, hended, _, _, rfl, hq, ⟨_, rfl⟩, hW, hsame.mono hc hs⟩
theorem Go.retJ (X : Stand p l e R s m args below meth c T locs cells slots) (hx : p.tables.exec = Jvm.exec) (hlk : meth.locks = false) (hret : meth.sig.returnType = some .long) {pc : Nat} {Ls : Array Slot} {z : Int64} (hd : decode c.code pc = .ok (.lreturn, 1)) {rc rs : Nat} (hc : cells ≤ rc) (hs : slots ≤ rs) (hq : Q (some (.long z)) T.heap locs) :
    Go p.tables e below (Fin s Q rc rs) T (mkF m pc Ls [.long z]) := by
  obtain ⟨fs, hl, hrun, hended, hW, hsame⟩ := X.leave (v := some (.long z)) (fun h => by rw [hret] at h; cases h) hlk
  exact ⟨_, _, X.lreturnOut hx hret hd hl, hrun, hended, _, _, rfl, hq, ⟨_, rfl⟩, hW, hsame.mono hc hs⟩
theorem Go.retA (X : Stand p l e R s m args below meth c T locs cells slots) (hx : p.tables.exec = Jvm.exec) (hlk : meth.locks = false) {t : FieldType} (hret : meth.sig.returnType = some t) (ht : t.isReference = true) {pc : Nat} {Ls : Array Slot} {w : Value} (hw : w.isRef = true) (hd : decode c.code pc = .ok (.areturn, 1)) {rc rs : Nat} (hc : cells ≤ rc) (hs : slots ≤ rs) (hq : Q (some w) T.heap locs) :
    Go p.tables e below (Fin s Q rc rs) T (mkF m pc Ls [w]) := by
  obtain ⟨fs, hl, hrun, hended, hW, hsame⟩ := X.leave (v := some w) (fun h => by rw [hret] at h; cases h) hlk
  exact ⟨_, _, X.areturnOut hx hw hret ht hd hl, hrun, hended, _, _, rfl, hq, ⟨_, rfl⟩, hW, hsame.mono hc hs⟩
theorem Go.retV (X : Stand p l e R s m args below meth c T locs cells slots) (hx : p.tables.exec = Jvm.exec) (hlk : meth.locks = false) (hret : meth.sig.returnType = none) {pc : Nat} {Ls : Array Slot} (hd : decode c.code pc = .ok (.return_, 1)) {rc rs : Nat} (hc : cells ≤ rc) (hs : slots ≤ rs) (hq : Q none T.heap locs) :
    Go p.tables e below (Fin s Q rc rs) T (mkF m pc Ls []) := by
  obtain ⟨fs, hl, hrun, hended, hW, hsame⟩ := X.leave (v := none) (fun _ => rfl) hlk
  exact ⟨_, _, X.returnOut hx hret hd hl, hrun, hended, _, _, rfl, hq, ⟨_, rfl⟩, hW, hsame.mono hc hs⟩
/-- a static call by its contract -/
theorem Go.callS (X : Stand p l e R s m args below meth c T locs cells slots) (hx : p.tables.exec = Jvm.exec) (hZ : Z.Warmed39 s.vm) {own : String} (hown : s.vm.findClass own = some m.cls) {index : Nat} {y : MethodName} {bytes : ByteArray} {maxL : Nat} {ret : Option FieldType} {rm : Room} {W : Nat} {argsL rest : List Value} {Qc : Option Value → Heap → List Loc → Prop}
    (w1 : (Jvm.Cond.methodLink own index y).before a0 Z = true) (w2 : (Jvm.Cond.static y).before a0 Z = true) (w3 : (Jvm.Cond.initialized y.cls).before a0 Z = true) (w4 : (Jvm.Cond.code y bytes maxL ret).before a0 Z = true) (hy : y.cls ≠ "java/lang/invoke/MethodHandle" ∧ y.cls ≠ "java/lang/invoke/VarHandle")
    (eT : T.heap = h) (hM : MetQ l Z y bytes maxL ret [] rm argsL.toArray h Qc) (hf : rm.frames + 1 ≤ R.frames) (hl : W + (maxL + 11) + rm.locals ≤ R.locals) (hc : cells + rm.cells ≤ R.cells) (hs : slots + rm.slots ≤ R.slots)
    (hg : g.method = m) (hsize : g.locals.size = c.maxLocals) (hlen : ∀ sig, parseMethodDescriptor y.desc = some sig → argsL.length = sig.parameters.length) (hstack : g.stack = argsL.reverse ++ rest) (hW : 2 * g.monitorRoom + (rest.map fun v => v.category).sum ≤ W) (hdg : decode c.code g.pc = .ok (.invokestatic index, 3))
    (k : ∀ (v : Option Value) (T' : State) (L : List Loc), Stand p l e R s m args below meth c T' (locs ++ L) (cells + rm.cells) (slots + rm.slots) → Qc v T'.heap L → Go p.tables e below F T' { g with pc := g.pc + 3, stack := v.toList ++ rest }) : Go p.tables e below F T g := by
  obtain ⟨v, vm1, ⟨T', L', c', n'⟩, -, X', ⟨L, hQ, e1, e2, e3⟩, st⟩ := Jvm.LawKit.callS X hx (y := y) hown (mvT hZ w1) (mvT hZ w2) (mvT hZ w3) (mvT hZ w4) hy (backOf (W := W) hM hZ w4 w3 hf hl) hg hsize hlen hstack hW hdg (fun _ _ => ⟨rfl, eT, hc, hs⟩)
  dsimp only [Pt.U, Pt.locs, Pt.cells, Pt.slots] at X' e1 e2 e3 st hQ
  subst e1 e2 e3
  exact Go.st st (k v T' L X' hQ)
/-- a pure static call by its contract -/
theorem Go.callP (X : Stand p l e R s m args below meth c T locs cells slots) (hx : p.tables.exec = Jvm.exec) (hZ : Z.Warmed39 s.vm) {own : String} (hown : s.vm.findClass own = some m.cls) {index : Nat} {y : MethodName} {bytes : ByteArray} {maxL : Nat} {ret : Option FieldType} {fr lo W : Nat} {argsL rest : List Value} {w : Value}
    (w1 : (Jvm.Cond.methodLink own index y).before a0 Z = true) (w2 : (Jvm.Cond.static y).before a0 Z = true) (w3 : (Jvm.Cond.initialized y.cls).before a0 Z = true) (w4 : (Jvm.Cond.code y bytes maxL ret).before a0 Z = true) (hy : y.cls ≠ "java/lang/invoke/MethodHandle" ∧ y.cls ≠ "java/lang/invoke/VarHandle")
    (eT : T.heap = h) (hM : MetQ l Z y bytes maxL ret [] ({ frames := fr, cells := 0, slots := 0, locals := lo } : Room) argsL.toArray h (PQ w h)) (hf : fr + 1 ≤ R.frames) (hl : W + (maxL + 11) + lo ≤ R.locals) (hc : cells ≤ R.cells) (hs : slots ≤ R.slots)
    (hg : g.method = m) (hsize : g.locals.size = c.maxLocals) (hlen : ∀ sig, parseMethodDescriptor y.desc = some sig → argsL.length = sig.parameters.length) (hstack : g.stack = argsL.reverse ++ rest) (hW : 2 * g.monitorRoom + (rest.map fun v => v.category).sum ≤ W) (hdg : decode c.code g.pc = .ok (.invokestatic index, 3))
    (k : ∀ (T' : State), Stand p l e R s m args below meth c T' locs cells slots → T'.heap = h → Go p.tables e below F T' { g with pc := g.pc + 3, stack := w :: rest }) : Go p.tables e below F T g := by
  refine Go.callS X hx hZ hown w1 w2 w3 w4 hy eT hM hf hl hc hs hg hsize hlen hstack hW hdg fun v T' L X' q => ?_
  obtain ⟨rfl, rfl, e'⟩ := q
  rw [List.append_nil] at X'
  exact k T' X' e'
/-- an instance call by its contract; the receiver is exactly a C -/
theorem Go.callV (X : Stand p l e R s m args below meth c T locs cells slots) (hx : p.tables.exec = Jvm.exec) (hZ : Z.Warmed39 s.vm) {own : String} (hown : s.vm.findClass own = some m.cls) {index : Nat} {y : MethodName} {C : String} {bytes : ByteArray} {maxL : Nat} {ret : Option FieldType} {rm : Room} {W : Nat} {argsL rest : List Value} {Qc : Option Value → Heap → List Loc → Prop}
    (w1 : (Jvm.Cond.methodLink own index y).before a0 Z = true) (w2 : (Jvm.Cond.declares y).before a0 Z = true) (w5 : (Jvm.Cond.selects C y y).before a0 Z = true) (w6 : (Jvm.Cond.instanceMethod y).before a0 Z = true) (w3 : (Jvm.Cond.initialized y.cls).before a0 Z = true) (w4 : (Jvm.Cond.code y bytes maxL ret).before a0 Z = true) (hy : y.cls ≠ "java/lang/invoke/MethodHandle" ∧ y.cls ≠ "java/lang/invoke/VarHandle") (hcy : C = y.cls)
    (eT : T.heap = h) {b : Addr} (E : Exa Z h b C) (hM : MetQ l Z y bytes maxL ret [] rm (.ref b :: argsL).toArray h Qc) (hf : rm.frames + 1 ≤ R.frames) (hl : W + (maxL + 11) + rm.locals ≤ R.locals) (hc : cells + rm.cells ≤ R.cells) (hs : slots + rm.slots ≤ R.slots)
    (hg : g.method = m) (hsize : g.locals.size = c.maxLocals) (hlen : ∀ sig, parseMethodDescriptor y.desc = some sig → argsL.length = sig.parameters.length) (hstack : g.stack = argsL.reverse ++ .ref b :: rest) (hW : 2 * g.monitorRoom + (rest.map fun v => v.category).sum ≤ W) (hdg : decode c.code g.pc = .ok (.invokevirtual index, 3))
    (k : ∀ (v : Option Value) (T' : State) (L : List Loc), Stand p l e R s m args below meth c T' (locs ++ L) (cells + rm.cells) (slots + rm.slots) → Qc v T'.heap L → Go p.tables e below F T' { g with pc := g.pc + 3, stack := v.toList ++ rest }) : Go p.tables e below F T g := by
  subst hcy
  obtain ⟨cq, kq, qa, qb, qc⟩ := isOf hZ eT E
  obtain ⟨v, vm1, ⟨T', L', c', n'⟩, -, X', ⟨L, hQ, e1, e2, e3⟩, st⟩ := X.virtualBack hx (y := y) (z := y) hown (mvT hZ w1) (mvT hZ w2) (notFace_of_selects (args := #[]) (mvT hZ w5)) (mvT hZ w5) (mvT hZ w6) hy (backOf (W := W) hM hZ w4 w3 hf hl) qa qc hg hsize (Steps.refl _) hlen hstack hW hdg (fun _ _ => ⟨rfl, eT, hc, hs⟩)
  dsimp only [Pt.U, Pt.locs, Pt.cells, Pt.slots] at X' e1 e2 e3 st hQ
  subst e1 e2 e3
  exact Go.tr st (k v T' L X' hQ)
/-- a constructor by its contract -/
theorem Go.callC (X : Stand p l e R s m args below meth c T locs cells slots) (hx : p.tables.exec = Jvm.exec) (hZ : Z.Warmed39 s.vm) {own : String} (hown : s.vm.findClass own = some m.cls) {index : Nat} {y : MethodName} {bytes : ByteArray} {maxL : Nat} {rm : Room} {W : Nat} {argsL rest : List Value} {Qc : Option Value → Heap → List Loc → Prop} (hy1 : y.name = "<init>")
    (w1 : (Jvm.Cond.methodLink own index y).before a0 Z = true) (w2 : (Jvm.Cond.instanceMethod y).before a0 Z = true) (w3 : (Jvm.Cond.initialized y.cls).before a0 Z = true) (w4 : (Jvm.Cond.code y bytes maxL none).before a0 Z = true) (hy : y.cls ≠ "java/lang/invoke/MethodHandle" ∧ y.cls ≠ "java/lang/invoke/VarHandle")
    (eT : T.heap = h) {b : Addr} (hM : MetQ l Z y bytes maxL none [] rm (.ref b :: argsL).toArray h Qc) (hf : rm.frames + 1 ≤ R.frames) (hl : W + (maxL + 11) + rm.locals ≤ R.locals) (hc : cells + rm.cells ≤ R.cells) (hs : slots + rm.slots ≤ R.slots)
    (hg : g.method = m) (hsize : g.locals.size = c.maxLocals) (hlen : ∀ sig, parseMethodDescriptor y.desc = some sig → argsL.length = sig.parameters.length) (hstack : g.stack = argsL.reverse ++ .ref b :: rest) (hW : 2 * g.monitorRoom + (rest.map fun v => v.category).sum ≤ W) (hdg : decode c.code g.pc = .ok (.invokespecial index, 3))
    (k : ∀ (v : Option Value) (T' : State) (L : List Loc), Stand p l e R s m args below meth c T' (locs ++ L) (cells + rm.cells) (slots + rm.slots) → Qc v T'.heap L → Go p.tables e below F T' { g with pc := g.pc + 3, stack := v.toList ++ rest }) : Go p.tables e below F T g := by
  obtain ⟨v, vm1, ⟨T', L', c', n'⟩, -, X', ⟨L, hQ, e1, e2, e3⟩, st⟩ := X.specialBack hx (y := y) hy1 hown (mvT hZ w1) (mvT hZ w2) (mvT hZ w4) hy (backOf (W := W) hM hZ w4 w3 hf hl) hg hsize (Steps.refl _) hlen hstack hW hdg (fun _ _ => ⟨rfl, eT, hc, hs⟩)
  dsimp only [Pt.U, Pt.locs, Pt.cells, Pt.slots] at X' e1 e2 e3 st hQ
  subst e1 e2 e3
  exact Go.tr st (k v T' L X' hQ)
end Walk
theorem pd_0 : parseMethodDescriptor "(C)Z" = some ⟨[.char], some .boolean⟩ := by decide +kernel
theorem d2_0 : decode jdk_43_method_3_code 0 = .ok (.iload_n 0, 1) := by decide +kernel
theorem d2_1 : decode jdk_43_method_3_code 1 = .ok (.sipush 255, 3) := by decide +kernel
theorem d2_4 : decode jdk_43_method_3_code 4 = .ok (.if_icmp .gt 7, 3) := by decide +kernel
theorem d2_7 : decode jdk_43_method_3_code 7 = .ok (.iconst 1, 1) := by decide +kernel
theorem d2_8 : decode jdk_43_method_3_code 8 = .ok (.goto 4, 3) := by decide +kernel
theorem d2_11 : decode jdk_43_method_3_code 11 = .ok (.iconst 0, 1) := by decide +kernel
theorem d2_12 : decode jdk_43_method_3_code 12 = .ok (.ireturn, 1) := by decide +kernel
theorem pn_0 : plainName "java/lang/StringLatin1" = true := by first | (simp [plainName, overriddenIn]; done) | decide +kernel
def f2 (p0 : Int32) : Int32 := (if (255 : Int32) < p0 then (0 : Int32) else (1 : Int32))
theorem ef_rm2 (m : MethodId) (p0 : Int32)  : entryFrame m #[(.int p0)] 1 = mkF m 0 #[.val (.int p0)] [] := by first | (simp [entryFrame, mkF, argsToLocals, Value.category]; done) | rfl
set_option maxRecDepth 65536 in
set_option maxHeartbeats 40000000 in
theorem rm2 (l : Launch) (Z : State) (a0 : Array Value) (hw : ∀ d ∈ tables_1, d.before a0 Z = true) (p0 : Int32)  (h0 : Heap)  :
    MetQ l Z (⟨"java/lang/StringLatin1", "canEncode", "(C)Z"⟩ : MethodName) jdk_43_method_3_code 1 (some .boolean) [] ({ frames := 0, cells := 0, slots := 0, locals := 0 } : Room) #[(.int p0)] h0 (PQ (.int (f2 p0)) h0) := by
  refine MetQ.body (plainFor_of_name pn_0) fun p e s m below meth c s₁ hx hby hml hown hnm hret hlk hZ e0 X0 => Go.cast (ef_rm2 m p0) ?_
  refine Go.st (T' := s₁) (g' := (mkF m 1 #[.val (.int p0)] [(.int p0)])) (fun _ hr => XS.iloadN X0.here hx rfl (hb hby d2_0) rfl hr) ?_
  refine Go.st (T' := s₁) (g' := (mkF m 4 #[.val (.int p0)] [(.int (255 : Int32)), (.int p0)])) (fun _ hr => XT.sipushV X0.here hx rfl (255 : Int32) (hb hby d2_1) (by decide) hr) ?_
  by_cases c4_1 : (255 : Int32) < p0
  · refine Go.st (T' := s₁) (g' := (mkF m 11 #[.val (.int p0)] [])) (fun _ hr => XS.icmpYes X0.here hx rfl (pc0 := 4) (pc' := 11) rfl (hb hby d2_4) rfl (XT.ii_gt_t c4_1) (by decide) (by decide) hr) ?_
    refine Go.st (T' := s₁) (g' := (mkF m 12 #[.val (.int p0)] [(.int (0 : Int32))])) (fun _ hr => XT.iconstV X0.here hx rfl (0 : Int32) (hb hby d2_11) (by decide) hr) ?_
    exact Go.retN X0 hx hlk hret (by simp) (hb hby d2_12) (Nat.zero_le _) (Nat.zero_le _) ⟨congrArg (fun z => some (Value.int z)) ((by decide : nar .boolean (0 : Int32) = (0 : Int32)).trans (by simp only [f2, if_pos c4_1])), rfl, e0⟩
  · refine Go.st (T' := s₁) (g' := (mkF m 7 #[.val (.int p0)] [])) (fun _ hr => XS.icmpNo X0.here hx rfl (hb hby d2_4) rfl (XT.ii_gt_f c4_1) hr) ?_
    refine Go.st (T' := s₁) (g' := (mkF m 8 #[.val (.int p0)] [(.int (1 : Int32))])) (fun _ hr => XT.iconstV X0.here hx rfl (1 : Int32) (hb hby d2_7) (by decide) hr) ?_
    refine Go.st (T' := s₁) (g' := (mkF m 12 #[.val (.int p0)] [(.int (1 : Int32))])) (fun _ hr => XS.goto X0.here hx rfl (pc0 := 8) (pc' := 12) rfl (hb hby d2_8) (by decide) (by decide) hr) ?_
    exact Go.retN X0 hx hlk hret (by simp) (hb hby d2_12) (Nat.zero_le _) (Nat.zero_le _) ⟨congrArg (fun z => some (Value.int z)) ((by decide : nar .boolean (1 : Int32) = (1 : Int32)).trans (by simp only [f2, if_neg c4_1])), rfl, e0⟩
theorem pd_1 : parseMethodDescriptor "(C)[B" = some ⟨[.char], some (.array .byte)⟩ := by decide +kernel
theorem d3_0 : decode jdk_43_method_46_code 0 = .ok (.iconst 1, 1) := by decide +kernel
theorem d3_1 : decode jdk_43_method_46_code 1 = .ok (.newarray .byte, 2) := by decide +kernel
theorem d3_3 : decode jdk_43_method_46_code 3 = .ok (.dup, 1) := by decide +kernel
theorem d3_4 : decode jdk_43_method_46_code 4 = .ok (.iconst 0, 1) := by decide +kernel
theorem d3_5 : decode jdk_43_method_46_code 5 = .ok (.iload_n 0, 1) := by decide +kernel
theorem d3_6 : decode jdk_43_method_46_code 6 = .ok (.i2b, 1) := by decide +kernel
theorem d3_7 : decode jdk_43_method_46_code 7 = .ok (.bastore, 1) := by decide +kernel
theorem d3_8 : decode jdk_43_method_46_code 8 = .ok (.areturn, 1) := by decide +kernel
theorem ef_rm3 (m : MethodId) (p0 : Int32)  : entryFrame m #[(.int p0)] 1 = mkF m 0 #[.val (.int p0)] [] := by first | (simp [entryFrame, mkF, argsToLocals, Value.category]; done) | rfl
set_option maxRecDepth 65536 in
set_option maxHeartbeats 40000000 in
theorem rm3 (l : Launch) (Z : State) (a0 : Array Value) (hw : ∀ d ∈ tables_1, d.before a0 Z = true) (p0 : Int32)  (h0 : Heap) (n0 : Nat) (Z0 : n0 ≤ h0.size) :
    MetQ l Z (⟨"java/lang/StringLatin1", "toBytes", "(C)[B"⟩ : MethodName) jdk_43_method_46_code 1 (some (.array .byte)) [] ({ frames := 0, cells := 1, slots := 1, locals := 0 } : Room) #[(.int p0)] h0 (fun v h L => ∃ a, v = some (.ref a) ∧ Fr n0 L ∧ Keep h0 h []) := by
  refine MetQ.body (plainFor_of_name pn_0) fun p e s m below meth c s₁ hx hby hml hown hnm hret hlk hZ e0 X0 => Go.cast (ef_rm3 m p0) ?_
  refine Go.st (T' := s₁) (g' := (mkF m 1 #[.val (.int p0)] [(.int (1 : Int32))])) (fun _ hr => XT.iconstV X0.here hx rfl (1 : Int32) (hb hby d3_0) (by decide) hr) ?_
  obtain ⟨T1, h1, k1, X1, e1, E1, A1, st1⟩ := newP X0 hx hZ (hw _ (List.mem_of_getElem? (i := 14) rfl)) e0 (g := (mkF m 1 #[.val (.int p0)] [(.int (1 : Int32))])) rfl (hb hby d3_1) rfl (by decide) (cap := 1) (by decide) (by decide) (by decide) (by decide)
  obtain ⟨a1, g1⟩ : ∃ z, z = h0.size := ⟨_, rfl⟩
  rw [← g1] at A1 st1
  have n_a1 : n0 ≤ a1 := Nat.le_trans Z0 (Nat.le_of_eq g1.symm)
  have hn_a1 : h0.size ≤ a1 := Nat.le_trans (Keep.refl h0 []).1 (Nat.le_of_eq g1.symm)
  have Z0_q_1 : n0 ≤ h1.size := (Nat.le_trans Z0 E1.1)
  have fK_q_1 : Keep h0 h1 [] := ((Keep.refl h0 []).ext E1)
  have V1 : Arv Z h1 a1 k1 .byte (1 : Int32) [(.int (0 : Int32))] (.int (0 : Int32)) := (Arv.new A1 (by decide)).pad (pad_rep [] (.int (0 : Int32)) 1)
  refine Go.st (T' := T1) (g' := (mkF m 3 #[.val (.int p0)] [(.ref a1)])) st1 ?_
  refine Go.st (T' := T1) (g' := (mkF m 4 #[.val (.int p0)] [(.ref a1), (.ref a1)])) (fun _ hr => XS.dup X1.here hx rfl (hb hby d3_3) rfl rfl hr) ?_
  refine Go.st (T' := T1) (g' := (mkF m 5 #[.val (.int p0)] [(.int (0 : Int32)), (.ref a1), (.ref a1)])) (fun _ hr => XT.iconstV X1.here hx rfl (0 : Int32) (hb hby d3_4) (by decide) hr) ?_
  refine Go.st (T' := T1) (g' := (mkF m 6 #[.val (.int p0)] [(.int p0), (.int (0 : Int32)), (.ref a1), (.ref a1)])) (fun _ hr => XS.iloadN X1.here hx rfl (hb hby d3_5) rfl hr) ?_
  refine Go.st (T' := T1) (g' := (mkF m 7 #[.val (.int p0)] [(.int (p0).toInt8.toInt32), (.int (0 : Int32)), (.ref a1), (.ref a1)])) (fun _ hr => XT.i2b X1.here hx rfl (hb hby d3_6) rfl hr) ?_
  obtain ⟨cl2, Ar2, qa2, S2, M2, H2, U2⟩ := (id V1)
  obtain ⟨T2, h2, X2, e2, W2, st2⟩ := stB X1 hx hZ e1 Ar2 (j := (0 : Int32)) (inb_of S2 ⟨by decide, by decide⟩) (g := (mkF m 7 #[.val (.int p0)] [(.int (p0).toInt8.toInt32), (.int (0 : Int32)), (.ref a1), (.ref a1)])) rfl rfl (hb hby d3_7)
  have Z0_q_2 : n0 ≤ h2.size := (Nat.le_trans Z0_q_1 (Keep.of_wr W2).1)
  have fK_q_2 : Keep h0 h2 [] := (fK_q_1.wr W2 (Or.inr hn_a1))
  have V1_q_2 : Arv Z h2 a1 k1 .byte (1 : Int32) [(.int (nar .byte (p0).toInt8.toInt32))] (.int (0 : Int32)) := (Arv.set Ar2 qa2 S2 M2 H2 U2 (fits_nar_byte _) W2 0 rfl (Nat.le_of_ble_eq_true rfl))
  have N2 := Fr.snoc X2 (Fr.nil n0) n_a1
  refine Go.st (T' := T2) (g' := (mkF m 8 #[.val (.int p0)] [(.ref a1)])) st2 ?_
  exact Go.retA X2 hx hlk hret rfl rfl (hb hby d3_8) (by decide) (by decide) (by rw [e2]; exact ⟨_, rfl, N2, fK_q_2⟩)
theorem pd_2 : parseMethodDescriptor "([BB)V" = some ⟨[(.array .byte), .byte], none⟩ := by decide +kernel
theorem d4_0 : decode jdk_42_method_151_code 0 = .ok (.aload_n 0, 1) := by decide +kernel
theorem d4_1 : decode jdk_42_method_151_code 1 = .ok (.invokespecial 1, 3) := by decide +kernel
theorem d4_4 : decode jdk_42_method_151_code 4 = .ok (.aload_n 0, 1) := by decide +kernel
theorem d4_5 : decode jdk_42_method_151_code 5 = .ok (.aload_n 1, 1) := by decide +kernel
theorem d4_6 : decode jdk_42_method_151_code 6 = .ok (.putfield 9, 3) := by decide +kernel
theorem d4_9 : decode jdk_42_method_151_code 9 = .ok (.aload_n 0, 1) := by decide +kernel
theorem d4_10 : decode jdk_42_method_151_code 10 = .ok (.iload_n 2, 1) := by decide +kernel
theorem d4_11 : decode jdk_42_method_151_code 11 = .ok (.putfield 15, 3) := by decide +kernel
theorem d4_14 : decode jdk_42_method_151_code 14 = .ok (.return_, 1) := by decide +kernel
theorem pn_1 : plainName "java/lang/String" = true := by first | (simp [plainName, overriddenIn]; done) | decide +kernel
theorem pd_3 : parseMethodDescriptor "()V" = some ⟨[], none⟩ := by decide +kernel
theorem ef_rm4 (m : MethodId) (a : Addr) (v1 : Value) (p2 : Int32) (r_v1 : v1.isRef = true) : entryFrame m #[(.ref a), v1, (.int p2)] 3 = mkF m 0 #[.val (.ref a), .val v1, .val (.int p2)] [] := by rcases XT.refc r_v1 with rfl | ⟨_, rfl⟩ <;> first | (simp [entryFrame, mkF, argsToLocals, Value.category]; done) | rfl
set_option maxRecDepth 65536 in
set_option maxHeartbeats 40000000 in
theorem rm4 (l : Launch) (Z : State) (a0 : Array Value) (hw : ∀ d ∈ tables_1, d.before a0 Z = true) (a : Addr) (v1 : Value) (p2 : Int32) (r_v1 : v1.isRef = true) (h0 : Heap) (n0 : Nat) (ng : n0 ≤ a) (E0 : Exa Z h0 a "java/lang/String") (F0_value : Fld Z h0 a "java/lang/String" "value" "[B" .null) (F0_coder : Fld Z h0 a "java/lang/String" "coder" "B" (.int (0 : Int32))) :
    MetQ l Z (⟨"java/lang/String", "<init>", "([BB)V"⟩ : MethodName) jdk_42_method_151_code 3 none [] ({ frames := 1, cells := 0, slots := 0, locals := 12 } : Room) #[(.ref a), v1, (.int p2)] h0 (fun v h L => v = none ∧ Fr n0 L ∧ Keep h0 h [a] ∧ Fld Z h a "java/lang/String" "value" "[B" v1 ∧ Fld Z h a "java/lang/String" "coder" "B" (.int (nar .byte p2))) := by
  refine MetQ.body (plainFor_of_name pn_1) fun p e s m below meth c s₁ hx hby hml hown hnm hret hlk hZ e0 X0 => Go.cast (ef_rm4 m a v1 p2 r_v1) ?_
  refine Go.st (T' := s₁) (g' := (mkF m 1 #[.val (.ref a), .val v1, .val (.int p2)] [(.ref a)])) (fun _ hr => XS.aloadN X0.here hx rfl (hb hby d4_0) rfl rfl hr) ?_
  obtain ⟨T1, X1, e1, st1⟩ := initO X0 hx hZ hown (hw _ (List.mem_of_getElem? (i := 19) rfl)) (hw _ (List.mem_of_getElem? (i := 20) rfl)) (hw _ (List.mem_of_getElem? (i := 21) rfl)) e0 (g := (mkF m 1 #[.val (.ref a), .val v1, .val (.int p2)] [(.ref a)])) rfl (by rw [hml]; rfl) rfl (hb hby d4_1) (by decide) (W := 0) (by show 2 * 0 + _ ≤ _; exact Nat.le_of_eq rfl) (by decide)
  refine Go.st (T' := T1) (g' := (mkF m 4 #[.val (.ref a), .val v1, .val (.int p2)] [])) st1 ?_
  refine Go.st (T' := T1) (g' := (mkF m 5 #[.val (.ref a), .val v1, .val (.int p2)] [(.ref a)])) (fun _ hr => XS.aloadN X1.here hx rfl (hb hby d4_4) rfl rfl hr) ?_
  refine Go.st (T' := T1) (g' := (mkF m 6 #[.val (.ref a), .val v1, .val (.int p2)] [v1, (.ref a)])) (fun _ hr => XS.aloadN X1.here hx rfl (hb hby d4_5) rfl r_v1 hr) ?_
  obtain ⟨T2, h2, X2, e2, W2, st2⟩ := putF X1 hx hZ hown (host := "") (Or.inl (hw _ (List.mem_of_getElem? (i := 22) rfl))) Via.refl e1 F0_value E0 (Or.inr ⟨(hw _ (List.mem_of_getElem? (i := 23) rfl)), rfl, hnm⟩) (hw _ (List.mem_of_getElem? (i := 10) rfl)) (ty := (.array .byte)) (by decide) (own_narrow_ref r_v1) (own_fits_arr r_v1) (g := (mkF m 6 #[.val (.ref a), .val v1, .val (.int p2)] [v1, (.ref a)])) rfl rfl (hb hby d4_6)
  have F0_value_q_2 : Fld Z h2 a "java/lang/String" "value" "[B" v1 := (F0_value.same W2)
  have F0_coder_q_2 : Fld Z h2 a "java/lang/String" "coder" "B" (.int (0 : Int32)) := (F0_coder.other W2 (Or.inr (slot_ne (Or.inr (hw _ (List.mem_of_getElem? (i := 25) rfl))) (Or.inr (hw _ (List.mem_of_getElem? (i := 23) rfl))) (by decide) (t := .byte) (t' := (.array .byte)) (by decide) (by decide))))
  have E0_q_2 : Exa Z h2 a "java/lang/String" := (E0.wr W2)
  have fK_q_2 : Keep h0 h2 [a] := ((Keep.refl h0 [a]).wr W2 (Or.inl (List.mem_of_getElem? (i := 0) rfl)))
  have N2 := Fr.snoc X2 (Fr.nil n0) ng
  refine Go.st (T' := T2) (g' := (mkF m 9 #[.val (.ref a), .val v1, .val (.int p2)] [])) st2 ?_
  refine Go.st (T' := T2) (g' := (mkF m 10 #[.val (.ref a), .val v1, .val (.int p2)] [(.ref a)])) (fun _ hr => XS.aloadN X2.here hx rfl (hb hby d4_9) rfl rfl hr) ?_
  refine Go.st (T' := T2) (g' := (mkF m 11 #[.val (.ref a), .val v1, .val (.int p2)] [(.int p2), (.ref a)])) (fun _ hr => XS.iloadN X2.here hx rfl (hb hby d4_10) rfl hr) ?_
  obtain ⟨T3, h3, X3, e3, W3, st3⟩ := putFN X2 hx hZ hown (hw _ (List.mem_of_getElem? (i := 24) rfl)) Via.refl e2 F0_coder_q_2 E0_q_2 (Or.inr ⟨(hw _ (List.mem_of_getElem? (i := 25) rfl)), rfl, hnm⟩) (hw _ (List.mem_of_getElem? (i := 10) rfl)) (ty := .byte) (v' := (.int (nar .byte p2))) (by decide) rfl (fits_nar_byte _) (g := (mkF m 11 #[.val (.ref a), .val v1, .val (.int p2)] [(.int p2), (.ref a)])) rfl rfl (hb hby d4_11)
  have F0_value_q_3 : Fld Z h3 a "java/lang/String" "value" "[B" v1 := (F0_value_q_2.other W3 (Or.inr (slot_ne (Or.inr (hw _ (List.mem_of_getElem? (i := 23) rfl))) (Or.inr (hw _ (List.mem_of_getElem? (i := 25) rfl))) (by decide) (t := (.array .byte)) (t' := .byte) (by decide) (by decide))))
  have F0_coder_q_3 : Fld Z h3 a "java/lang/String" "coder" "B" (.int (nar .byte p2)) := (F0_coder_q_2.same W3)
  have E0_q_3 : Exa Z h3 a "java/lang/String" := (E0_q_2.wr W3)
  have fK_q_3 : Keep h0 h3 [a] := (fK_q_2.wr W3 (Or.inl (List.mem_of_getElem? (i := 0) rfl)))
  have N3 := Fr.snoc X3 N2 ng
  refine Go.st (T' := T3) (g' := (mkF m 14 #[.val (.ref a), .val v1, .val (.int p2)] [])) st3 ?_
  exact Go.retV X3 hx hlk hret (hb hby d4_14) (by decide) (by decide) (by rw [e3]; exact ⟨rfl, N3, fK_q_3, F0_value_q_3, F0_coder_q_3⟩)
theorem own_c16 (x : Int32) : (x.toUInt32.toUInt16.toUInt32.toInt32).toInt = x.toInt % 65536 := by
  have h : ∀ u : UInt16, (u.toUInt32.toInt32).toInt = u.toNat := fun u => by
    have hu := u.toNat_lt
    have e : (u.toUInt32.toInt32).toInt = u.toUInt32.toBitVec.toInt := rfl
    have e2 : u.toUInt32.toBitVec.toNat = u.toNat := UInt16.toNat_toUInt32 u
    rw [e, BitVec.toInt_eq_toNat_cond, e2, if_pos (by omega)]
  rw [h]
  have e1 : x.toUInt32.toUInt16.toNat = x.toUInt32.toNat % 2 ^ 16 := UInt32.toNat_toUInt16 _
  have e2 : x.toUInt32.toNat = x.toBitVec.toNat := rfl
  have e3 : x.toInt = x.toBitVec.toInt := rfl
  have hx := x.toBitVec.isLt
  rw [e1, e2, e3, BitVec.toInt_eq_toNat_cond]
  split <;> omega
theorem own_c255 (x : Int32) : ¬ (255 : Int32) < ((x &&& (255 : Int32))).toUInt32.toUInt16.toUInt32.toInt32 := by
  have e := own_c16 (x &&& (255 : Int32))
  have m : (x &&& (255 : Int32)).toInt = x.toInt % 2 ^ 8 := Jvm.Kit.i32_mask x 255 (k := 8) (by decide) (by decide)
  rw [Int32.lt_iff_toInt_lt, e, m]
  have k : (255 : Int32).toInt = 255 := by decide
  rw [k]; omega
theorem own_enc {c : Int32} (h : ¬ (255 : Int32) < c) : ¬ f2 c = (0 : Int32) := by
  unfold f2; rw [if_neg h]; decide
theorem pd_4 : parseMethodDescriptor "(C)Ljava/lang/String;" = some ⟨[.char], some (.object "java/lang/String")⟩ := by decide +kernel
theorem d1_0 : decode jdk_42_method_139_code 0 = .ok (.getstatic 38, 3) := by decide +kernel
theorem d1_3 : decode jdk_42_method_139_code 3 = .ok (.ifCond .eq 23, 3) := by decide +kernel
theorem d1_6 : decode jdk_42_method_139_code 6 = .ok (.iload_n 0, 1) := by decide +kernel
theorem d1_7 : decode jdk_42_method_139_code 7 = .ok (.invokestatic 1015, 3) := by decide +kernel
theorem d1_10 : decode jdk_42_method_139_code 10 = .ok (.ifCond .eq 16, 3) := by decide +kernel
theorem d1_13 : decode jdk_42_method_139_code 13 = .ok (.new 10, 3) := by decide +kernel
theorem d1_16 : decode jdk_42_method_139_code 16 = .ok (.dup, 1) := by decide +kernel
theorem d1_17 : decode jdk_42_method_139_code 17 = .ok (.iload_n 0, 1) := by decide +kernel
theorem d1_18 : decode jdk_42_method_139_code 18 = .ok (.invokestatic 1018, 3) := by decide +kernel
theorem d1_21 : decode jdk_42_method_139_code 21 = .ok (.iconst 0, 1) := by decide +kernel
theorem d1_22 : decode jdk_42_method_139_code 22 = .ok (.invokespecial 209, 3) := by decide +kernel
theorem d1_25 : decode jdk_42_method_139_code 25 = .ok (.areturn, 1) := by decide +kernel
theorem d1_26 : decode jdk_42_method_139_code 26 = .ok (.new 10, 3) := by decide +kernel
theorem d1_29 : decode jdk_42_method_139_code 29 = .ok (.dup, 1) := by decide +kernel
theorem d1_30 : decode jdk_42_method_139_code 30 = .ok (.iload_n 0, 1) := by decide +kernel
theorem d1_31 : decode jdk_42_method_139_code 31 = .ok (.invokestatic 1021, 3) := by decide +kernel
theorem d1_34 : decode jdk_42_method_139_code 34 = .ok (.iconst 1, 1) := by decide +kernel
theorem d1_35 : decode jdk_42_method_139_code 35 = .ok (.invokespecial 209, 3) := by decide +kernel
theorem d1_38 : decode jdk_42_method_139_code 38 = .ok (.areturn, 1) := by decide +kernel
theorem ef_rm1 (m : MethodId) (p0 : Int32)  : entryFrame m #[(.int p0)] 1 = mkF m 0 #[.val (.int p0)] [] := by first | (simp [entryFrame, mkF, argsToLocals, Value.category]; done) | rfl
set_option maxRecDepth 65536 in
set_option maxHeartbeats 40000000 in
theorem rm1 (l : Launch) (Z : State) (a0 : Array Value) (hw : ∀ d ∈ tables_1, d.before a0 Z = true) (p0 : Int32) (w : Int32)  (h0 : Heap) (hc : ¬ (255 : Int32) < p0) (hcs : ¬ w = (0 : Int32)) (S0 : Sta Z h0 "java/lang/String" "COMPACT_STRINGS" "Z" (.int w)) (n0 : Nat) (Z0 : n0 ≤ h0.size) :
    MetQ l Z (⟨"java/lang/String", "valueOf", "(C)Ljava/lang/String;"⟩ : MethodName) jdk_42_method_139_code 1 (some (.object "java/lang/String")) [] ({ frames := 2, cells := 2, slots := 5, locals := 27 } : Room) #[(.int p0)] h0 (fun v h L => ∃ a, v = some (.ref a) ∧ Fr n0 L ∧ Keep h0 h []) := by
  refine MetQ.body (plainFor_of_name pn_1) fun p e s m below meth c s₁ hx hby hml hown hnm hret hlk hZ e0 X0 => Go.cast (ef_rm1 m p0) ?_
  obtain ⟨T1, X1, e1, st1⟩ := getS2 X0 hx hZ hown (host := "") (Or.inl (hw _ (List.mem_of_getElem? (i := 4) rfl))) Via.refl e0 S0 (g := (mkF m 0 #[.val (.int p0)] [])) rfl (hb hby d1_0)
  refine Go.st (T' := T1) (g' := (mkF m 3 #[.val (.int p0)] [(.int w)])) st1 ?_
  refine Go.st (T' := T1) (g' := (mkF m 6 #[.val (.int p0)] [])) (fun _ hr => XS.ifNo X1.here hx rfl (hb hby d1_3) rfl (XT.i0_eq_f hcs) hr) ?_
  refine Go.st (T' := T1) (g' := (mkF m 7 #[.val (.int p0)] [(.int p0)])) (fun _ hr => XS.iloadN X1.here hx rfl (hb hby d1_6) rfl hr) ?_
  refine Go.callP X1 hx hZ hown (W := 0) (hw _ (List.mem_of_getElem? (i := 5) rfl)) (hw _ (List.mem_of_getElem? (i := 6) rfl)) (hw _ (List.mem_of_getElem? (i := 7) rfl)) (hw _ (List.mem_of_getElem? (i := 8) rfl)) (by decide) e1 (rm2 l Z a0 hw p0 h0) (by decide) (by decide) (by decide) (by decide) (g := (mkF m 7 #[.val (.int p0)] [(.int p0)])) rfl (by rw [hml]; rfl) (argsL := [(.int p0)]) (rest := []) (lenOf pd_0 rfl) rfl (by show 2 * 0 + _ ≤ _; exact Nat.le_of_eq rfl) (hb hby d1_7) (fun T2 X2 e2 => ?_)
  show Go p.tables e below (Fin s (fun v h L => ∃ a, v = some (.ref a) ∧ Fr n0 L ∧ Keep h0 h []) ({ frames := 2, cells := 2, slots := 5, locals := 27 } : Room).cells ({ frames := 2, cells := 2, slots := 5, locals := 27 } : Room).slots) T2 (mkF m 10 #[.val (.int p0)] [(.int (f2 p0))])
  refine Go.st (T' := T2) (g' := (mkF m 13 #[.val (.int p0)] [])) (fun _ hr => XS.ifNo X2.here hx rfl (hb hby d1_10) rfl (XT.i0_eq_f (own_enc hc)) hr) ?_
  obtain ⟨T3, h3, X3, e3, E3, A3, D3, -, st3⟩ := newO X2 hx hZ hown (hw _ (List.mem_of_getElem? (i := 9) rfl)) (hw _ (List.mem_of_getElem? (i := 10) rfl)) (hw _ (List.mem_of_getElem? (i := 2) rfl)) e2 (g := (mkF m 13 #[.val (.int p0)] [])) rfl (hb hby d1_13) (by decide) (by decide)
  obtain ⟨a3, g3⟩ : ∃ z, z = h0.size := ⟨_, rfl⟩
  rw [← g3] at A3 D3 st3
  have n_a3 : n0 ≤ a3 := Nat.le_trans Z0 (Nat.le_of_eq g3.symm)
  have hn_a3 : h0.size ≤ a3 := Nat.le_trans (Keep.refl h0 []).1 (Nat.le_of_eq g3.symm)
  have Z0_q_3 : n0 ≤ h3.size := (Nat.le_trans Z0 E3.1)
  have fK_q_3 : Keep h0 h3 [] := ((Keep.refl h0 []).ext E3)
  have S0_q_3 : Sta Z h3 "java/lang/String" "COMPACT_STRINGS" "Z" (.int w) := (S0.ext E3)
  have F3_value : Fld Z h3 a3 "java/lang/String" "value" "[B" .null := D3 (Or.inr (hw _ (List.mem_of_getElem? (i := 23) rfl))) (ty := (.array .byte)) (by decide)
  have F3_coder : Fld Z h3 a3 "java/lang/String" "coder" "B" (.int (0 : Int32)) := D3 (Or.inr (hw _ (List.mem_of_getElem? (i := 25) rfl))) (ty := .byte) (by decide)
  refine Go.st (T' := T3) (g' := (mkF m 16 #[.val (.int p0)] [(.ref a3)])) st3 ?_
  refine Go.st (T' := T3) (g' := (mkF m 17 #[.val (.int p0)] [(.ref a3), (.ref a3)])) (fun _ hr => XS.dup X3.here hx rfl (hb hby d1_16) rfl rfl hr) ?_
  refine Go.st (T' := T3) (g' := (mkF m 18 #[.val (.int p0)] [(.int p0), (.ref a3), (.ref a3)])) (fun _ hr => XS.iloadN X3.here hx rfl (hb hby d1_17) rfl hr) ?_
  refine Go.callS X3 hx hZ hown (W := 2) (hw _ (List.mem_of_getElem? (i := 11) rfl)) (hw _ (List.mem_of_getElem? (i := 12) rfl)) (hw _ (List.mem_of_getElem? (i := 7) rfl)) (hw _ (List.mem_of_getElem? (i := 13) rfl)) (by decide) e3 (rm3 l Z a0 hw p0 h3 n0 Z0_q_3) (by decide) (by decide) (by decide) (by decide) (g := (mkF m 18 #[.val (.int p0)] [(.int p0), (.ref a3), (.ref a3)])) rfl (by rw [hml]; rfl) (argsL := [(.int p0)]) (rest := [(.ref a3), (.ref a3)]) (lenOf pd_1 rfl) rfl (by show 2 * 0 + _ ≤ _; exact Nat.le_of_eq rfl) (hb hby d1_18) (fun v4 T4 L4 X4 q4 => ?_)
  obtain ⟨h4, e4⟩ : ∃ z, T4.heap = z := ⟨_, rfl⟩
  rw [e4] at q4
  obtain ⟨a4, rfl, N4q, K4⟩ := q4
  have N4 := Fr.app (Fr.nil n0) N4q
  have Z0_q_4 : n0 ≤ h4.size := (Nat.le_trans Z0_q_3 K4.1)
  have fK_q_4 : Keep h0 h4 [] := (fK_q_3.trans K4 all0)
  have A3_q_4 : Exa Z h4 a3 "java/lang/String" := (A3.keep K4)
  have F3_value_q_4 : Fld Z h4 a3 "java/lang/String" "value" "[B" .null := (F3_value.keep K4 nin0)
  have F3_coder_q_4 : Fld Z h4 a3 "java/lang/String" "coder" "B" (.int (0 : Int32)) := (F3_coder.keep K4 nin0)
  show Go p.tables e below (Fin s (fun v h L => ∃ a, v = some (.ref a) ∧ Fr n0 L ∧ Keep h0 h []) ({ frames := 2, cells := 2, slots := 5, locals := 27 } : Room).cells ({ frames := 2, cells := 2, slots := 5, locals := 27 } : Room).slots) T4 (mkF m 21 #[.val (.int p0)] [(.ref a4), (.ref a3), (.ref a3)])
  refine Go.st (T' := T4) (g' := (mkF m 22 #[.val (.int p0)] [(.int (0 : Int32)), (.ref a4), (.ref a3), (.ref a3)])) (fun _ hr => XT.iconstV X4.here hx rfl (0 : Int32) (hb hby d1_21) (by decide) hr) ?_
  refine Go.callC X4 hx hZ hown (W := 1) (y := (⟨"java/lang/String", "<init>", "([BB)V"⟩ : MethodName)) rfl (hw _ (List.mem_of_getElem? (i := 15) rfl)) (hw _ (List.mem_of_getElem? (i := 16) rfl)) (hw _ (List.mem_of_getElem? (i := 2) rfl)) (hw _ (List.mem_of_getElem? (i := 18) rfl)) (by decide) e4 (rm4 l Z a0 hw a3 (.ref a4) (0 : Int32)  rfl h4 n0 n_a3 A3_q_4 F3_value_q_4 F3_coder_q_4) (by decide) (by decide) (by decide) (by decide) (g := (mkF m 22 #[.val (.int p0)] [(.int (0 : Int32)), (.ref a4), (.ref a3), (.ref a3)])) rfl (by rw [hml]; rfl) (argsL := [(.ref a4), (.int (0 : Int32))]) (rest := [(.ref a3)]) (lenOf pd_2 rfl) rfl (by show 2 * 0 + _ ≤ _; exact Nat.le_of_eq rfl) (hb hby d1_22) (fun v5 T5 L5 X5 q5 => ?_)
  obtain ⟨h5, e5⟩ : ∃ z, T5.heap = z := ⟨_, rfl⟩
  rw [e5] at q5
  obtain ⟨rfl, N5q, K5, G5_value, G5_coder⟩ := q5
  have N5 := Fr.app N4 N5q
  have Z0_q_5 : n0 ≤ h5.size := (Nat.le_trans Z0_q_4 K5.1)
  have fK_q_5 : Keep h0 h5 [] := (fK_q_4.trans K5 (allS (Or.inr hn_a3) all0))
  have A3_q_5 : Exa Z h5 a3 "java/lang/String" := (A3_q_4.keep K5)
  show Go p.tables e below (Fin s (fun v h L => ∃ a, v = some (.ref a) ∧ Fr n0 L ∧ Keep h0 h []) ({ frames := 2, cells := 2, slots := 5, locals := 27 } : Room).cells ({ frames := 2, cells := 2, slots := 5, locals := 27 } : Room).slots) T5 (mkF m 25 #[.val (.int p0)] [(.ref a3)])
  exact Go.retA X5 hx hlk hret rfl rfl (hb hby d1_25) (by decide) (by decide) (by rw [e5]; exact ⟨_, rfl, N5, fK_q_5⟩)
theorem d7_0 : decode jdk_30_method_1_code 0 = .ok (.aload_n 0, 1) := by decide +kernel
theorem d7_1 : decode jdk_30_method_1_code 1 = .ok (.invokespecial 1, 3) := by decide +kernel
theorem d7_4 : decode jdk_30_method_1_code 4 = .ok (.return_, 1) := by decide +kernel
theorem pn_2 : plainName "java/lang/Record" = true := by first | (simp [plainName, overriddenIn]; done) | decide +kernel
theorem ef_rm7 (m : MethodId) (p0 : Addr)  : entryFrame m #[(.ref p0)] 1 = mkF m 0 #[.val (.ref p0)] [] := by first | (simp [entryFrame, mkF, argsToLocals, Value.category]; done) | rfl
set_option maxRecDepth 65536 in
set_option maxHeartbeats 40000000 in
theorem rm7 (l : Launch) (Z : State) (a0 : Array Value) (hw : ∀ d ∈ tables_1, d.before a0 Z = true) (p0 : Addr)  (h0 : Heap)  :
    MetQ l Z (⟨"java/lang/Record", "<init>", "()V"⟩ : MethodName) jdk_30_method_1_code 1 none [] ({ frames := 1, cells := 0, slots := 0, locals := 12 } : Room) #[(.ref p0)] h0 (fun v h L => v = none ∧ L = [] ∧ h = h0) := by
  refine MetQ.body (plainFor_of_name pn_2) fun p e s m below meth c s₁ hx hby hml hown hnm hret hlk hZ e0 X0 => Go.cast (ef_rm7 m p0) ?_
  refine Go.st (T' := s₁) (g' := (mkF m 1 #[.val (.ref p0)] [(.ref p0)])) (fun _ hr => XS.aloadN X0.here hx rfl (hb hby d7_0) rfl rfl hr) ?_
  obtain ⟨T1, X1, e1, st1⟩ := initO X0 hx hZ hown (hw _ (List.mem_of_getElem? (i := 37) rfl)) (hw _ (List.mem_of_getElem? (i := 20) rfl)) (hw _ (List.mem_of_getElem? (i := 21) rfl)) e0 (g := (mkF m 1 #[.val (.ref p0)] [(.ref p0)])) rfl (by rw [hml]; rfl) rfl (hb hby d7_1) (by decide) (W := 0) (by show 2 * 0 + _ ≤ _; exact Nat.le_of_eq rfl) (by decide)
  refine Go.st (T' := T1) (g' := (mkF m 4 #[.val (.ref p0)] [])) st1 ?_
  exact Go.retV X1 hx hlk hret (hb hby d7_4) (by decide) (by decide) ⟨rfl, rfl, e1⟩
theorem pd_5 : parseMethodDescriptor "(Ljava/lang/String;Ljava/lang/String;ZZ)V" = some ⟨[(.object "java/lang/String"), (.object "java/lang/String"), .boolean, .boolean], none⟩ := by decide +kernel
theorem d6_0 : decode prog_109_method_1_code 0 = .ok (.aload_n 0, 1) := by decide +kernel
theorem d6_1 : decode prog_109_method_1_code 1 = .ok (.invokespecial 1, 3) := by decide +kernel
theorem d6_4 : decode prog_109_method_1_code 4 = .ok (.iload_n 3, 1) := by decide +kernel
theorem d6_5 : decode prog_109_method_1_code 5 = .ok (.ifCond .eq 12, 3) := by decide +kernel
theorem d6_8 : decode prog_109_method_1_code 8 = .ok (.iload 4, 2) := by decide +kernel
theorem d6_10 : decode prog_109_method_1_code 10 = .ok (.ifCond .eq 7, 3) := by decide +kernel
theorem d6_13 : decode prog_109_method_1_code 13 = .ok (.iconst 1, 1) := by decide +kernel
theorem d6_14 : decode prog_109_method_1_code 14 = .ok (.goto 4, 3) := by decide +kernel
theorem d6_17 : decode prog_109_method_1_code 17 = .ok (.iconst 0, 1) := by decide +kernel
theorem d6_18 : decode prog_109_method_1_code 18 = .ok (.istore 4, 2) := by decide +kernel
theorem d6_20 : decode prog_109_method_1_code 20 = .ok (.aload_n 0, 1) := by decide +kernel
theorem d6_21 : decode prog_109_method_1_code 21 = .ok (.aload_n 1, 1) := by decide +kernel
theorem d6_22 : decode prog_109_method_1_code 22 = .ok (.putfield 7, 3) := by decide +kernel
theorem d6_25 : decode prog_109_method_1_code 25 = .ok (.aload_n 0, 1) := by decide +kernel
theorem d6_26 : decode prog_109_method_1_code 26 = .ok (.aload_n 2, 1) := by decide +kernel
theorem d6_27 : decode prog_109_method_1_code 27 = .ok (.putfield 13, 3) := by decide +kernel
theorem d6_30 : decode prog_109_method_1_code 30 = .ok (.aload_n 0, 1) := by decide +kernel
theorem d6_31 : decode prog_109_method_1_code 31 = .ok (.iload_n 3, 1) := by decide +kernel
theorem d6_32 : decode prog_109_method_1_code 32 = .ok (.putfield 16, 3) := by decide +kernel
theorem d6_35 : decode prog_109_method_1_code 35 = .ok (.aload_n 0, 1) := by decide +kernel
theorem d6_36 : decode prog_109_method_1_code 36 = .ok (.iload 4, 2) := by decide +kernel
theorem d6_38 : decode prog_109_method_1_code 38 = .ok (.putfield 20, 3) := by decide +kernel
theorem d6_41 : decode prog_109_method_1_code 41 = .ok (.return_, 1) := by decide +kernel
theorem pn_3 : plainName "com/example/item_type_store/itemtypestore/model/Relation$Element" = true := by first | (simp [plainName, overriddenIn]; done) | decide +kernel
theorem ef_rm6 (m : MethodId) (a : Addr) (v1 : Value) (v2 : Value) (p3 : Int32) (p4 : Int32) (r_v1 : v1.isRef = true) (r_v2 : v2.isRef = true) : entryFrame m #[(.ref a), v1, v2, (.int p3), (.int p4)] 5 = mkF m 0 #[.val (.ref a), .val v1, .val v2, .val (.int p3), .val (.int p4)] [] := by rcases XT.refc r_v1 with rfl | ⟨_, rfl⟩ <;> rcases XT.refc r_v2 with rfl | ⟨_, rfl⟩ <;> first | (simp [entryFrame, mkF, argsToLocals, Value.category]; done) | rfl
set_option maxRecDepth 65536 in
set_option maxHeartbeats 40000000 in
theorem rm6 (l : Launch) (Z : State) (a0 : Array Value) (hw : ∀ d ∈ tables_1, d.before a0 Z = true) (a : Addr) (v1 : Value) (v2 : Value) (p3 : Int32) (p4 : Int32) (r_v1 : v1.isRef = true) (r_v2 : v2.isRef = true) (h0 : Heap) (n0 : Nat) (ng : n0 ≤ a) (E0 : Exa Z h0 a "com/example/item_type_store/itemtypestore/model/Relation$Element") (F0_qualifier : Fld Z h0 a "com/example/item_type_store/itemtypestore/model/Relation$Element" "qualifier" "Ljava/lang/String;" .null) (F0_typeCode : Fld Z h0 a "com/example/item_type_store/itemtypestore/model/Relation$Element" "typeCode" "Ljava/lang/String;" .null) (F0_many : Fld Z h0 a "com/example/item_type_store/itemtypestore/model/Relation$Element" "many" "Z" (.int (0 : Int32))) (F0_ordered : Fld Z h0 a "com/example/item_type_store/itemtypestore/model/Relation$Element" "ordered" "Z" (.int (0 : Int32))) :
    MetQ l Z (⟨"com/example/item_type_store/itemtypestore/model/Relation$Element", "<init>", "(Ljava/lang/String;Ljava/lang/String;ZZ)V"⟩ : MethodName) prog_109_method_1_code 5 none [] ({ frames := 2, cells := 0, slots := 0, locals := 24 } : Room) #[(.ref a), v1, v2, (.int p3), (.int p4)] h0 (fun v h L => v = none ∧ Fr n0 L ∧ Keep h0 h [a] ∧ Fld Z h a "com/example/item_type_store/itemtypestore/model/Relation$Element" "qualifier" "Ljava/lang/String;" v1 ∧ Fld Z h a "com/example/item_type_store/itemtypestore/model/Relation$Element" "typeCode" "Ljava/lang/String;" v2 ∧ Fld Z h a "com/example/item_type_store/itemtypestore/model/Relation$Element" "many" "Z" (.int (nar .boolean p3)) ∧ Fld Z h a "com/example/item_type_store/itemtypestore/model/Relation$Element" "ordered" "Z" (.int (nar .boolean (if p3 = (0 : Int32) then (0 : Int32) else (if p4 = (0 : Int32) then (0 : Int32) else (1 : Int32)))))) := by
  refine MetQ.body (plainFor_of_name pn_3) fun p e s m below meth c s₁ hx hby hml hown hnm hret hlk hZ e0 X0 => Go.cast (ef_rm6 m a v1 v2 p3 p4 r_v1 r_v2) ?_
  refine Go.st (T' := s₁) (g' := (mkF m 1 #[.val (.ref a), .val v1, .val v2, .val (.int p3), .val (.int p4)] [(.ref a)])) (fun _ hr => XS.aloadN X0.here hx rfl (hb hby d6_0) rfl rfl hr) ?_
  refine Go.callC X0 hx hZ hown (W := 0) (y := (⟨"java/lang/Record", "<init>", "()V"⟩ : MethodName)) rfl (hw _ (List.mem_of_getElem? (i := 32) rfl)) (hw _ (List.mem_of_getElem? (i := 33) rfl)) (hw _ (List.mem_of_getElem? (i := 35) rfl)) (hw _ (List.mem_of_getElem? (i := 36) rfl)) (by decide) e0 (rm7 l Z a0 hw a h0) (by decide) (by decide) (by decide) (by decide) (g := (mkF m 1 #[.val (.ref a), .val v1, .val v2, .val (.int p3), .val (.int p4)] [(.ref a)])) rfl (by rw [hml]; rfl) (argsL := []) (rest := []) (lenOf pd_3 rfl) rfl (by show 2 * 0 + _ ≤ _; exact Nat.le_of_eq rfl) (hb hby d6_1) (fun v1 T1 L1 X1 q1 => ?_)
  obtain ⟨rfl, rfl, e1⟩ := q1
  rw [List.append_nil] at X1
  show Go p.tables e below (Fin s (fun v h L => v = none ∧ Fr n0 L ∧ Keep h0 h [a] ∧ Fld Z h a "com/example/item_type_store/itemtypestore/model/Relation$Element" "qualifier" "Ljava/lang/String;" v1 ∧ Fld Z h a "com/example/item_type_store/itemtypestore/model/Relation$Element" "typeCode" "Ljava/lang/String;" v2 ∧ Fld Z h a "com/example/item_type_store/itemtypestore/model/Relation$Element" "many" "Z" (.int (nar .boolean p3)) ∧ Fld Z h a "com/example/item_type_store/itemtypestore/model/Relation$Element" "ordered" "Z" (.int (nar .boolean (if p3 = (0 : Int32) then (0 : Int32) else (if p4 = (0 : Int32) then (0 : Int32) else (1 : Int32)))))) ({ frames := 2, cells := 0, slots := 0, locals := 24 } : Room).cells ({ frames := 2, cells := 0, slots := 0, locals := 24 } : Room).slots) T1 (mkF m 4 #[.val (.ref a), .val v1, .val v2, .val (.int p3), .val (.int p4)] [])
  refine Go.st (T' := T1) (g' := (mkF m 5 #[.val (.ref a), .val v1, .val v2, .val (.int p3), .val (.int p4)] [(.int p3)])) (fun _ hr => XS.iloadN X1.here hx rfl (hb hby d6_4) rfl hr) ?_
  have J18_2 : ∀ (T3 : State), Stand p l e ({ frames := 2, cells := 0, slots := 0, locals := 24 } : Room) s m #[(.ref a), v1, v2, (.int p3), (.int p4)] below meth c T3 [] 0 0 → T3.heap = h0 → Go p.tables e below (Fin s (fun v h L => v = none ∧ Fr n0 L ∧ Keep h0 h [a] ∧ Fld Z h a "com/example/item_type_store/itemtypestore/model/Relation$Element" "qualifier" "Ljava/lang/String;" v1 ∧ Fld Z h a "com/example/item_type_store/itemtypestore/model/Relation$Element" "typeCode" "Ljava/lang/String;" v2 ∧ Fld Z h a "com/example/item_type_store/itemtypestore/model/Relation$Element" "many" "Z" (.int (nar .boolean p3)) ∧ Fld Z h a "com/example/item_type_store/itemtypestore/model/Relation$Element" "ordered" "Z" (.int (nar .boolean (if p3 = (0 : Int32) then (0 : Int32) else (if p4 = (0 : Int32) then (0 : Int32) else (1 : Int32)))))) ({ frames := 2, cells := 0, slots := 0, locals := 24 } : Room).cells ({ frames := 2, cells := 0, slots := 0, locals := 24 } : Room).slots) T3 (mkF m 18 #[.val (.ref a), .val v1, .val v2, .val (.int p3), .val (.int p4)] [(.int (if p3 = (0 : Int32) then (0 : Int32) else (if p4 = (0 : Int32) then (0 : Int32) else (1 : Int32))))]) := by
    intro T3 X3 e3
    refine Go.st (T' := T3) (g' := (mkF m 20 #[.val (.ref a), .val v1, .val v2, .val (.int p3), .val (.int (if p3 = (0 : Int32) then (0 : Int32) else (if p4 = (0 : Int32) then (0 : Int32) else (1 : Int32))))] [])) (fun _ hr => XS.istore X3.here hx rfl (hb hby d6_18) rfl (l' := #[.val (.ref a), .val v1, .val v2, .val (.int p3), .val (.int (if p3 = (0 : Int32) then (0 : Int32) else (if p4 = (0 : Int32) then (0 : Int32) else (1 : Int32))))]) rfl hr) ?_
    refine Go.st (T' := T3) (g' := (mkF m 21 #[.val (.ref a), .val v1, .val v2, .val (.int p3), .val (.int (if p3 = (0 : Int32) then (0 : Int32) else (if p4 = (0 : Int32) then (0 : Int32) else (1 : Int32))))] [(.ref a)])) (fun _ hr => XS.aloadN X3.here hx rfl (hb hby d6_20) rfl rfl hr) ?_
    refine Go.st (T' := T3) (g' := (mkF m 22 #[.val (.ref a), .val v1, .val v2, .val (.int p3), .val (.int (if p3 = (0 : Int32) then (0 : Int32) else (if p4 = (0 : Int32) then (0 : Int32) else (1 : Int32))))] [v1, (.ref a)])) (fun _ hr => XS.aloadN X3.here hx rfl (hb hby d6_21) rfl r_v1 hr) ?_
    obtain ⟨T4, h4, X4, e4, W4, st4⟩ := putF X3 hx hZ hown (host := "") (Or.inl (hw _ (List.mem_of_getElem? (i := 38) rfl))) Via.refl e3 F0_qualifier E0 (Or.inr ⟨(hw _ (List.mem_of_getElem? (i := 39) rfl)), rfl, hnm⟩) (hw _ (List.mem_of_getElem? (i := 27) rfl)) (ty := (.object "java/lang/String")) (by decide) (own_narrow_ref r_v1) (own_fits_obj r_v1) (g := (mkF m 22 #[.val (.ref a), .val v1, .val v2, .val (.int p3), .val (.int (if p3 = (0 : Int32) then (0 : Int32) else (if p4 = (0 : Int32) then (0 : Int32) else (1 : Int32))))] [v1, (.ref a)])) rfl rfl (hb hby d6_22)
    have F0_q_4 : Fld Z h4 a "com/example/item_type_store/itemtypestore/model/Relation$Element" "qualifier" "Ljava/lang/String;" v1 := (F0_qualifier.same W4)
    have F0_typeCode_q_4 : Fld Z h4 a "com/example/item_type_store/itemtypestore/model/Relation$Element" "typeCode" "Ljava/lang/String;" .null := (F0_typeCode.other W4 (Or.inr (slot_ne (Or.inr (hw _ (List.mem_of_getElem? (i := 41) rfl))) (Or.inr (hw _ (List.mem_of_getElem? (i := 39) rfl))) (by decide) (t := (.object "java/lang/String")) (t' := (.object "java/lang/String")) (by decide) (by decide))))
    have F0_many_q_4 : Fld Z h4 a "com/example/item_type_store/itemtypestore/model/Relation$Element" "many" "Z" (.int (0 : Int32)) := (F0_many.other W4 (Or.inr (slot_ne (Or.inr (hw _ (List.mem_of_getElem? (i := 43) rfl))) (Or.inr (hw _ (List.mem_of_getElem? (i := 39) rfl))) (by decide) (t := .boolean) (t' := (.object "java/lang/String")) (by decide) (by decide))))
    have F0_ordered_q_4 : Fld Z h4 a "com/example/item_type_store/itemtypestore/model/Relation$Element" "ordered" "Z" (.int (0 : Int32)) := (F0_ordered.other W4 (Or.inr (slot_ne (Or.inr (hw _ (List.mem_of_getElem? (i := 45) rfl))) (Or.inr (hw _ (List.mem_of_getElem? (i := 39) rfl))) (by decide) (t := .boolean) (t' := (.object "java/lang/String")) (by decide) (by decide))))
    have E0_q_4 : Exa Z h4 a "com/example/item_type_store/itemtypestore/model/Relation$Element" := (E0.wr W4)
    have fK_q_4 : Keep h0 h4 [a] := ((Keep.refl h0 [a]).wr W4 (Or.inl (List.mem_of_getElem? (i := 0) rfl)))
    have N4 := Fr.snoc X4 (Fr.nil n0) ng
    refine Go.st (T' := T4) (g' := (mkF m 25 #[.val (.ref a), .val v1, .val v2, .val (.int p3), .val (.int (if p3 = (0 : Int32) then (0 : Int32) else (if p4 = (0 : Int32) then (0 : Int32) else (1 : Int32))))] [])) st4 ?_
    refine Go.st (T' := T4) (g' := (mkF m 26 #[.val (.ref a), .val v1, .val v2, .val (.int p3), .val (.int (if p3 = (0 : Int32) then (0 : Int32) else (if p4 = (0 : Int32) then (0 : Int32) else (1 : Int32))))] [(.ref a)])) (fun _ hr => XS.aloadN X4.here hx rfl (hb hby d6_25) rfl rfl hr) ?_
    refine Go.st (T' := T4) (g' := (mkF m 27 #[.val (.ref a), .val v1, .val v2, .val (.int p3), .val (.int (if p3 = (0 : Int32) then (0 : Int32) else (if p4 = (0 : Int32) then (0 : Int32) else (1 : Int32))))] [v2, (.ref a)])) (fun _ hr => XS.aloadN X4.here hx rfl (hb hby d6_26) rfl r_v2 hr) ?_
    obtain ⟨T5, h5, X5, e5, W5, st5⟩ := putF X4 hx hZ hown (host := "") (Or.inl (hw _ (List.mem_of_getElem? (i := 40) rfl))) Via.refl e4 F0_typeCode_q_4 E0_q_4 (Or.inr ⟨(hw _ (List.mem_of_getElem? (i := 41) rfl)), rfl, hnm⟩) (hw _ (List.mem_of_getElem? (i := 27) rfl)) (ty := (.object "java/lang/String")) (by decide) (own_narrow_ref r_v2) (own_fits_obj r_v2) (g := (mkF m 27 #[.val (.ref a), .val v1, .val v2, .val (.int p3), .val (.int (if p3 = (0 : Int32) then (0 : Int32) else (if p4 = (0 : Int32) then (0 : Int32) else (1 : Int32))))] [v2, (.ref a)])) rfl rfl (hb hby d6_27)
    have F0_q_5 : Fld Z h5 a "com/example/item_type_store/itemtypestore/model/Relation$Element" "qualifier" "Ljava/lang/String;" v1 := (F0_q_4.other W5 (Or.inr (slot_ne (Or.inr (hw _ (List.mem_of_getElem? (i := 39) rfl))) (Or.inr (hw _ (List.mem_of_getElem? (i := 41) rfl))) (by decide) (t := (.object "java/lang/String")) (t' := (.object "java/lang/String")) (by decide) (by decide))))
    have F0_typeCode_q_5 : Fld Z h5 a "com/example/item_type_store/itemtypestore/model/Relation$Element" "typeCode" "Ljava/lang/String;" v2 := (F0_typeCode_q_4.same W5)
    have F0_many_q_5 : Fld Z h5 a "com/example/item_type_store/itemtypestore/model/Relation$Element" "many" "Z" (.int (0 : Int32)) := (F0_many_q_4.other W5 (Or.inr (slot_ne (Or.inr (hw _ (List.mem_of_getElem? (i := 43) rfl))) (Or.inr (hw _ (List.mem_of_getElem? (i := 41) rfl))) (by decide) (t := .boolean) (t' := (.object "java/lang/String")) (by decide) (by decide))))
    have F0_ordered_q_5 : Fld Z h5 a "com/example/item_type_store/itemtypestore/model/Relation$Element" "ordered" "Z" (.int (0 : Int32)) := (F0_ordered_q_4.other W5 (Or.inr (slot_ne (Or.inr (hw _ (List.mem_of_getElem? (i := 45) rfl))) (Or.inr (hw _ (List.mem_of_getElem? (i := 41) rfl))) (by decide) (t := .boolean) (t' := (.object "java/lang/String")) (by decide) (by decide))))
    have E0_q_5 : Exa Z h5 a "com/example/item_type_store/itemtypestore/model/Relation$Element" := (E0_q_4.wr W5)
    have fK_q_5 : Keep h0 h5 [a] := (fK_q_4.wr W5 (Or.inl (List.mem_of_getElem? (i := 0) rfl)))
    have N5 := Fr.snoc X5 N4 ng
    refine Go.st (T' := T5) (g' := (mkF m 30 #[.val (.ref a), .val v1, .val v2, .val (.int p3), .val (.int (if p3 = (0 : Int32) then (0 : Int32) else (if p4 = (0 : Int32) then (0 : Int32) else (1 : Int32))))] [])) st5 ?_
    refine Go.st (T' := T5) (g' := (mkF m 31 #[.val (.ref a), .val v1, .val v2, .val (.int p3), .val (.int (if p3 = (0 : Int32) then (0 : Int32) else (if p4 = (0 : Int32) then (0 : Int32) else (1 : Int32))))] [(.ref a)])) (fun _ hr => XS.aloadN X5.here hx rfl (hb hby d6_30) rfl rfl hr) ?_
    refine Go.st (T' := T5) (g' := (mkF m 32 #[.val (.ref a), .val v1, .val v2, .val (.int p3), .val (.int (if p3 = (0 : Int32) then (0 : Int32) else (if p4 = (0 : Int32) then (0 : Int32) else (1 : Int32))))] [(.int p3), (.ref a)])) (fun _ hr => XS.iloadN X5.here hx rfl (hb hby d6_31) rfl hr) ?_
    obtain ⟨T6, h6, X6, e6, W6, st6⟩ := putFN X5 hx hZ hown (hw _ (List.mem_of_getElem? (i := 42) rfl)) Via.refl e5 F0_many_q_5 E0_q_5 (Or.inr ⟨(hw _ (List.mem_of_getElem? (i := 43) rfl)), rfl, hnm⟩) (hw _ (List.mem_of_getElem? (i := 27) rfl)) (ty := .boolean) (v' := (.int (nar .boolean p3))) (by decide) rfl (fits_nar_bool _) (g := (mkF m 32 #[.val (.ref a), .val v1, .val v2, .val (.int p3), .val (.int (if p3 = (0 : Int32) then (0 : Int32) else (if p4 = (0 : Int32) then (0 : Int32) else (1 : Int32))))] [(.int p3), (.ref a)])) rfl rfl (hb hby d6_32)
    have F0_q_6 : Fld Z h6 a "com/example/item_type_store/itemtypestore/model/Relation$Element" "qualifier" "Ljava/lang/String;" v1 := (F0_q_5.other W6 (Or.inr (slot_ne (Or.inr (hw _ (List.mem_of_getElem? (i := 39) rfl))) (Or.inr (hw _ (List.mem_of_getElem? (i := 43) rfl))) (by decide) (t := (.object "java/lang/String")) (t' := .boolean) (by decide) (by decide))))
    have F0_typeCode_q_6 : Fld Z h6 a "com/example/item_type_store/itemtypestore/model/Relation$Element" "typeCode" "Ljava/lang/String;" v2 := (F0_typeCode_q_5.other W6 (Or.inr (slot_ne (Or.inr (hw _ (List.mem_of_getElem? (i := 41) rfl))) (Or.inr (hw _ (List.mem_of_getElem? (i := 43) rfl))) (by decide) (t := (.object "java/lang/String")) (t' := .boolean) (by decide) (by decide))))
    have F0_many_q_6 : Fld Z h6 a "com/example/item_type_store/itemtypestore/model/Relation$Element" "many" "Z" (.int (nar .boolean p3)) := (F0_many_q_5.same W6)
    have F0_ordered_q_6 : Fld Z h6 a "com/example/item_type_store/itemtypestore/model/Relation$Element" "ordered" "Z" (.int (0 : Int32)) := (F0_ordered_q_5.other W6 (Or.inr (slot_ne (Or.inr (hw _ (List.mem_of_getElem? (i := 45) rfl))) (Or.inr (hw _ (List.mem_of_getElem? (i := 43) rfl))) (by decide) (t := .boolean) (t' := .boolean) (by decide) (by decide))))
    have E0_q_6 : Exa Z h6 a "com/example/item_type_store/itemtypestore/model/Relation$Element" := (E0_q_5.wr W6)
    have fK_q_6 : Keep h0 h6 [a] := (fK_q_5.wr W6 (Or.inl (List.mem_of_getElem? (i := 0) rfl)))
    have N6 := Fr.snoc X6 N5 ng
    refine Go.st (T' := T6) (g' := (mkF m 35 #[.val (.ref a), .val v1, .val v2, .val (.int p3), .val (.int (if p3 = (0 : Int32) then (0 : Int32) else (if p4 = (0 : Int32) then (0 : Int32) else (1 : Int32))))] [])) st6 ?_
    refine Go.st (T' := T6) (g' := (mkF m 36 #[.val (.ref a), .val v1, .val v2, .val (.int p3), .val (.int (if p3 = (0 : Int32) then (0 : Int32) else (if p4 = (0 : Int32) then (0 : Int32) else (1 : Int32))))] [(.ref a)])) (fun _ hr => XS.aloadN X6.here hx rfl (hb hby d6_35) rfl rfl hr) ?_
    refine Go.st (T' := T6) (g' := (mkF m 38 #[.val (.ref a), .val v1, .val v2, .val (.int p3), .val (.int (if p3 = (0 : Int32) then (0 : Int32) else (if p4 = (0 : Int32) then (0 : Int32) else (1 : Int32))))] [(.int (if p3 = (0 : Int32) then (0 : Int32) else (if p4 = (0 : Int32) then (0 : Int32) else (1 : Int32)))), (.ref a)])) (fun _ hr => XS.iload X6.here hx rfl (hb hby d6_36) rfl hr) ?_
    obtain ⟨T7, h7, X7, e7, W7, st7⟩ := putFN X6 hx hZ hown (hw _ (List.mem_of_getElem? (i := 44) rfl)) Via.refl e6 F0_ordered_q_6 E0_q_6 (Or.inr ⟨(hw _ (List.mem_of_getElem? (i := 45) rfl)), rfl, hnm⟩) (hw _ (List.mem_of_getElem? (i := 27) rfl)) (ty := .boolean) (v' := (.int (nar .boolean (if p3 = (0 : Int32) then (0 : Int32) else (if p4 = (0 : Int32) then (0 : Int32) else (1 : Int32)))))) (by decide) rfl (fits_nar_bool _) (g := (mkF m 38 #[.val (.ref a), .val v1, .val v2, .val (.int p3), .val (.int (if p3 = (0 : Int32) then (0 : Int32) else (if p4 = (0 : Int32) then (0 : Int32) else (1 : Int32))))] [(.int (if p3 = (0 : Int32) then (0 : Int32) else (if p4 = (0 : Int32) then (0 : Int32) else (1 : Int32)))), (.ref a)])) rfl rfl (hb hby d6_38)
    have F0_q_7 : Fld Z h7 a "com/example/item_type_store/itemtypestore/model/Relation$Element" "qualifier" "Ljava/lang/String;" v1 := (F0_q_6.other W7 (Or.inr (slot_ne (Or.inr (hw _ (List.mem_of_getElem? (i := 39) rfl))) (Or.inr (hw _ (List.mem_of_getElem? (i := 45) rfl))) (by decide) (t := (.object "java/lang/String")) (t' := .boolean) (by decide) (by decide))))
    have F0_typeCode_q_7 : Fld Z h7 a "com/example/item_type_store/itemtypestore/model/Relation$Element" "typeCode" "Ljava/lang/String;" v2 := (F0_typeCode_q_6.other W7 (Or.inr (slot_ne (Or.inr (hw _ (List.mem_of_getElem? (i := 41) rfl))) (Or.inr (hw _ (List.mem_of_getElem? (i := 45) rfl))) (by decide) (t := (.object "java/lang/String")) (t' := .boolean) (by decide) (by decide))))
    have F0_many_q_7 : Fld Z h7 a "com/example/item_type_store/itemtypestore/model/Relation$Element" "many" "Z" (.int (nar .boolean p3)) := (F0_many_q_6.other W7 (Or.inr (slot_ne (Or.inr (hw _ (List.mem_of_getElem? (i := 43) rfl))) (Or.inr (hw _ (List.mem_of_getElem? (i := 45) rfl))) (by decide) (t := .boolean) (t' := .boolean) (by decide) (by decide))))
    have F0_ordered_q_7 : Fld Z h7 a "com/example/item_type_store/itemtypestore/model/Relation$Element" "ordered" "Z" (.int (nar .boolean (if p3 = (0 : Int32) then (0 : Int32) else (if p4 = (0 : Int32) then (0 : Int32) else (1 : Int32))))) := (F0_ordered_q_6.same W7)
    have E0_q_7 : Exa Z h7 a "com/example/item_type_store/itemtypestore/model/Relation$Element" := (E0_q_6.wr W7)
    have fK_q_7 : Keep h0 h7 [a] := (fK_q_6.wr W7 (Or.inl (List.mem_of_getElem? (i := 0) rfl)))
    have N7 := Fr.snoc X7 N6 ng
    refine Go.st (T' := T7) (g' := (mkF m 41 #[.val (.ref a), .val v1, .val v2, .val (.int p3), .val (.int (if p3 = (0 : Int32) then (0 : Int32) else (if p4 = (0 : Int32) then (0 : Int32) else (1 : Int32))))] [])) st7 ?_
    exact Go.retV X7 hx hlk hret (hb hby d6_41) (by decide) (by decide) (by rw [e7]; exact ⟨rfl, N7, fK_q_7, F0_q_7, F0_typeCode_q_7, F0_many_q_7, F0_ordered_q_7⟩)
  by_cases c5_8 : p3 = (0 : Int32)
  · refine Go.st (T' := T1) (g' := (mkF m 17 #[.val (.ref a), .val v1, .val v2, .val (.int p3), .val (.int p4)] [])) (fun _ hr => XS.ifYes X1.here hx rfl (pc0 := 5) (pc' := 17) rfl (hb hby d6_5) rfl (XT.i0_eq_t c5_8) (by decide) (by decide) hr) ?_
    refine Go.st (T' := T1) (g' := (mkF m 18 #[.val (.ref a), .val v1, .val v2, .val (.int p3), .val (.int p4)] [(.int (0 : Int32))])) (fun _ hr => XT.iconstV X1.here hx rfl (0 : Int32) (hb hby d6_17) (by decide) hr) ?_
    exact Go.cast (by simp only [if_pos c5_8]) (J18_2 T1 X1 e1)
  · refine Go.st (T' := T1) (g' := (mkF m 8 #[.val (.ref a), .val v1, .val v2, .val (.int p3), .val (.int p4)] [])) (fun _ hr => XS.ifNo X1.here hx rfl (hb hby d6_5) rfl (XT.i0_eq_f c5_8) hr) ?_
    refine Go.st (T' := T1) (g' := (mkF m 10 #[.val (.ref a), .val v1, .val v2, .val (.int p3), .val (.int p4)] [(.int p4)])) (fun _ hr => XS.iload X1.here hx rfl (hb hby d6_8) rfl hr) ?_
    by_cases c10_9 : p4 = (0 : Int32)
    · refine Go.st (T' := T1) (g' := (mkF m 17 #[.val (.ref a), .val v1, .val v2, .val (.int p3), .val (.int p4)] [])) (fun _ hr => XS.ifYes X1.here hx rfl (pc0 := 10) (pc' := 17) rfl (hb hby d6_10) rfl (XT.i0_eq_t c10_9) (by decide) (by decide) hr) ?_
      refine Go.st (T' := T1) (g' := (mkF m 18 #[.val (.ref a), .val v1, .val v2, .val (.int p3), .val (.int p4)] [(.int (0 : Int32))])) (fun _ hr => XT.iconstV X1.here hx rfl (0 : Int32) (hb hby d6_17) (by decide) hr) ?_
      exact Go.cast (by simp only [if_neg c5_8, if_pos c10_9]) (J18_2 T1 X1 e1)
    · refine Go.st (T' := T1) (g' := (mkF m 13 #[.val (.ref a), .val v1, .val v2, .val (.int p3), .val (.int p4)] [])) (fun _ hr => XS.ifNo X1.here hx rfl (hb hby d6_10) rfl (XT.i0_eq_f c10_9) hr) ?_
      refine Go.st (T' := T1) (g' := (mkF m 14 #[.val (.ref a), .val v1, .val v2, .val (.int p3), .val (.int p4)] [(.int (1 : Int32))])) (fun _ hr => XT.iconstV X1.here hx rfl (1 : Int32) (hb hby d6_13) (by decide) hr) ?_
      refine Go.st (T' := T1) (g' := (mkF m 18 #[.val (.ref a), .val v1, .val v2, .val (.int p3), .val (.int p4)] [(.int (1 : Int32))])) (fun _ hr => XS.goto X1.here hx rfl (pc0 := 14) (pc' := 18) rfl (hb hby d6_14) (by decide) (by decide) hr) ?_
      exact Go.cast (by simp only [if_neg c5_8, if_neg c10_9]) (J18_2 T1 X1 e1)
theorem pd_6 : parseMethodDescriptor "(Ljava/lang/String;Lcom/example/item_type_store/itemtypestore/model/Deployment;Lcom/example/item_type_store/itemtypestore/model/Relation$Element;Lcom/example/item_type_store/itemtypestore/model/Relation$Element;)V" = some ⟨[(.object "java/lang/String"), (.object "com/example/item_type_store/itemtypestore/model/Deployment"), (.object "com/example/item_type_store/itemtypestore/model/Relation$Element"), (.object "com/example/item_type_store/itemtypestore/model/Relation$Element")], none⟩ := by decide +kernel
theorem d8_0 : decode prog_108_method_1_code 0 = .ok (.aload_n 0, 1) := by decide +kernel
theorem d8_1 : decode prog_108_method_1_code 1 = .ok (.invokespecial 1, 3) := by decide +kernel
theorem d8_4 : decode prog_108_method_1_code 4 = .ok (.aload_n 0, 1) := by decide +kernel
theorem d8_5 : decode prog_108_method_1_code 5 = .ok (.aload_n 1, 1) := by decide +kernel
theorem d8_6 : decode prog_108_method_1_code 6 = .ok (.putfield 7, 3) := by decide +kernel
theorem d8_9 : decode prog_108_method_1_code 9 = .ok (.aload_n 0, 1) := by decide +kernel
theorem d8_10 : decode prog_108_method_1_code 10 = .ok (.aload_n 2, 1) := by decide +kernel
theorem d8_11 : decode prog_108_method_1_code 11 = .ok (.putfield 13, 3) := by decide +kernel
theorem d8_14 : decode prog_108_method_1_code 14 = .ok (.aload_n 0, 1) := by decide +kernel
theorem d8_15 : decode prog_108_method_1_code 15 = .ok (.aload_n 3, 1) := by decide +kernel
theorem d8_16 : decode prog_108_method_1_code 16 = .ok (.putfield 17, 3) := by decide +kernel
theorem d8_19 : decode prog_108_method_1_code 19 = .ok (.aload_n 0, 1) := by decide +kernel
theorem d8_20 : decode prog_108_method_1_code 20 = .ok (.aload 4, 2) := by decide +kernel
theorem d8_22 : decode prog_108_method_1_code 22 = .ok (.putfield 21, 3) := by decide +kernel
theorem d8_25 : decode prog_108_method_1_code 25 = .ok (.return_, 1) := by decide +kernel
theorem pn_4 : plainName "com/example/item_type_store/itemtypestore/model/Relation" = true := by first | (simp [plainName, overriddenIn]; done) | decide +kernel
theorem ef_rm8 (m : MethodId) (a : Addr) (v1 : Value) (v2 : Value) (v3 : Value) (v4 : Value) (r_v1 : v1.isRef = true) (r_v2 : v2.isRef = true) (r_v3 : v3.isRef = true) (r_v4 : v4.isRef = true) : entryFrame m #[(.ref a), v1, v2, v3, v4] 5 = mkF m 0 #[.val (.ref a), .val v1, .val v2, .val v3, .val v4] [] := by rcases XT.refc r_v1 with rfl | ⟨_, rfl⟩ <;> rcases XT.refc r_v2 with rfl | ⟨_, rfl⟩ <;> rcases XT.refc r_v3 with rfl | ⟨_, rfl⟩ <;> rcases XT.refc r_v4 with rfl | ⟨_, rfl⟩ <;> first | (simp [entryFrame, mkF, argsToLocals, Value.category]; done) | rfl
set_option maxRecDepth 65536 in
set_option maxHeartbeats 40000000 in
theorem rm8 (l : Launch) (Z : State) (a0 : Array Value) (hw : ∀ d ∈ tables_1, d.before a0 Z = true) (a : Addr) (v1 : Value) (v2 : Value) (v3 : Value) (v4 : Value) (r_v1 : v1.isRef = true) (r_v2 : v2.isRef = true) (r_v3 : v3.isRef = true) (r_v4 : v4.isRef = true) (h0 : Heap) (n0 : Nat) (ng : n0 ≤ a) (E0 : Exa Z h0 a "com/example/item_type_store/itemtypestore/model/Relation") (F0_code : Fld Z h0 a "com/example/item_type_store/itemtypestore/model/Relation" "code" "Ljava/lang/String;" .null) (F0_deployment : Fld Z h0 a "com/example/item_type_store/itemtypestore/model/Relation" "deployment" "Lcom/example/item_type_store/itemtypestore/model/Deployment;" .null) (F0_source : Fld Z h0 a "com/example/item_type_store/itemtypestore/model/Relation" "source" "Lcom/example/item_type_store/itemtypestore/model/Relation$Element;" .null) (F0_target : Fld Z h0 a "com/example/item_type_store/itemtypestore/model/Relation" "target" "Lcom/example/item_type_store/itemtypestore/model/Relation$Element;" .null) :
    MetQ l Z (⟨"com/example/item_type_store/itemtypestore/model/Relation", "<init>", "(Ljava/lang/String;Lcom/example/item_type_store/itemtypestore/model/Deployment;Lcom/example/item_type_store/itemtypestore/model/Relation$Element;Lcom/example/item_type_store/itemtypestore/model/Relation$Element;)V"⟩ : MethodName) prog_108_method_1_code 5 none [] ({ frames := 2, cells := 0, slots := 0, locals := 24 } : Room) #[(.ref a), v1, v2, v3, v4] h0 (fun v h L => v = none ∧ Fr n0 L ∧ Keep h0 h [a] ∧ Fld Z h a "com/example/item_type_store/itemtypestore/model/Relation" "code" "Ljava/lang/String;" v1 ∧ Fld Z h a "com/example/item_type_store/itemtypestore/model/Relation" "deployment" "Lcom/example/item_type_store/itemtypestore/model/Deployment;" v2 ∧ Fld Z h a "com/example/item_type_store/itemtypestore/model/Relation" "source" "Lcom/example/item_type_store/itemtypestore/model/Relation$Element;" v3 ∧ Fld Z h a "com/example/item_type_store/itemtypestore/model/Relation" "target" "Lcom/example/item_type_store/itemtypestore/model/Relation$Element;" v4) := by
  refine MetQ.body (plainFor_of_name pn_4) fun p e s m below meth c s₁ hx hby hml hown hnm hret hlk hZ e0 X0 => Go.cast (ef_rm8 m a v1 v2 v3 v4 r_v1 r_v2 r_v3 r_v4) ?_
  refine Go.st (T' := s₁) (g' := (mkF m 1 #[.val (.ref a), .val v1, .val v2, .val v3, .val v4] [(.ref a)])) (fun _ hr => XS.aloadN X0.here hx rfl (hb hby d8_0) rfl rfl hr) ?_
  refine Go.callC X0 hx hZ hown (W := 0) (y := (⟨"java/lang/Record", "<init>", "()V"⟩ : MethodName)) rfl (hw _ (List.mem_of_getElem? (i := 52) rfl)) (hw _ (List.mem_of_getElem? (i := 33) rfl)) (hw _ (List.mem_of_getElem? (i := 35) rfl)) (hw _ (List.mem_of_getElem? (i := 36) rfl)) (by decide) e0 (rm7 l Z a0 hw a h0) (by decide) (by decide) (by decide) (by decide) (g := (mkF m 1 #[.val (.ref a), .val v1, .val v2, .val v3, .val v4] [(.ref a)])) rfl (by rw [hml]; rfl) (argsL := []) (rest := []) (lenOf pd_3 rfl) rfl (by show 2 * 0 + _ ≤ _; exact Nat.le_of_eq rfl) (hb hby d8_1) (fun v1 T1 L1 X1 q1 => ?_)
  obtain ⟨rfl, rfl, e1⟩ := q1
  rw [List.append_nil] at X1
  show Go p.tables e below (Fin s (fun v h L => v = none ∧ Fr n0 L ∧ Keep h0 h [a] ∧ Fld Z h a "com/example/item_type_store/itemtypestore/model/Relation" "code" "Ljava/lang/String;" v1 ∧ Fld Z h a "com/example/item_type_store/itemtypestore/model/Relation" "deployment" "Lcom/example/item_type_store/itemtypestore/model/Deployment;" v2 ∧ Fld Z h a "com/example/item_type_store/itemtypestore/model/Relation" "source" "Lcom/example/item_type_store/itemtypestore/model/Relation$Element;" v3 ∧ Fld Z h a "com/example/item_type_store/itemtypestore/model/Relation" "target" "Lcom/example/item_type_store/itemtypestore/model/Relation$Element;" v4) ({ frames := 2, cells := 0, slots := 0, locals := 24 } : Room).cells ({ frames := 2, cells := 0, slots := 0, locals := 24 } : Room).slots) T1 (mkF m 4 #[.val (.ref a), .val v1, .val v2, .val v3, .val v4] [])
  refine Go.st (T' := T1) (g' := (mkF m 5 #[.val (.ref a), .val v1, .val v2, .val v3, .val v4] [(.ref a)])) (fun _ hr => XS.aloadN X1.here hx rfl (hb hby d8_4) rfl rfl hr) ?_
  refine Go.st (T' := T1) (g' := (mkF m 6 #[.val (.ref a), .val v1, .val v2, .val v3, .val v4] [v1, (.ref a)])) (fun _ hr => XS.aloadN X1.here hx rfl (hb hby d8_5) rfl r_v1 hr) ?_
  obtain ⟨T2, h2, X2, e2, W2, st2⟩ := putF X1 hx hZ hown (host := "") (Or.inl (hw _ (List.mem_of_getElem? (i := 53) rfl))) Via.refl e1 F0_code E0 (Or.inr ⟨(hw _ (List.mem_of_getElem? (i := 54) rfl)), rfl, hnm⟩) (hw _ (List.mem_of_getElem? (i := 47) rfl)) (ty := (.object "java/lang/String")) (by decide) (own_narrow_ref r_v1) (own_fits_obj r_v1) (g := (mkF m 6 #[.val (.ref a), .val v1, .val v2, .val v3, .val v4] [v1, (.ref a)])) rfl rfl (hb hby d8_6)
  have F0_code_q_2 : Fld Z h2 a "com/example/item_type_store/itemtypestore/model/Relation" "code" "Ljava/lang/String;" v1 := (F0_code.same W2)
  have F0_deployment_q_2 : Fld Z h2 a "com/example/item_type_store/itemtypestore/model/Relation" "deployment" "Lcom/example/item_type_store/itemtypestore/model/Deployment;" .null := (F0_deployment.other W2 (Or.inr (slot_ne (Or.inr (hw _ (List.mem_of_getElem? (i := 56) rfl))) (Or.inr (hw _ (List.mem_of_getElem? (i := 54) rfl))) (by decide) (t := (.object "com/example/item_type_store/itemtypestore/model/Deployment")) (t' := (.object "java/lang/String")) (by decide) (by decide))))
  have F0_source_q_2 : Fld Z h2 a "com/example/item_type_store/itemtypestore/model/Relation" "source" "Lcom/example/item_type_store/itemtypestore/model/Relation$Element;" .null := (F0_source.other W2 (Or.inr (slot_ne (Or.inr (hw _ (List.mem_of_getElem? (i := 58) rfl))) (Or.inr (hw _ (List.mem_of_getElem? (i := 54) rfl))) (by decide) (t := (.object "com/example/item_type_store/itemtypestore/model/Relation$Element")) (t' := (.object "java/lang/String")) (by decide) (by decide))))
  have F0_target_q_2 : Fld Z h2 a "com/example/item_type_store/itemtypestore/model/Relation" "target" "Lcom/example/item_type_store/itemtypestore/model/Relation$Element;" .null := (F0_target.other W2 (Or.inr (slot_ne (Or.inr (hw _ (List.mem_of_getElem? (i := 60) rfl))) (Or.inr (hw _ (List.mem_of_getElem? (i := 54) rfl))) (by decide) (t := (.object "com/example/item_type_store/itemtypestore/model/Relation$Element")) (t' := (.object "java/lang/String")) (by decide) (by decide))))
  have E0_q_2 : Exa Z h2 a "com/example/item_type_store/itemtypestore/model/Relation" := (E0.wr W2)
  have fK_q_2 : Keep h0 h2 [a] := ((Keep.refl h0 [a]).wr W2 (Or.inl (List.mem_of_getElem? (i := 0) rfl)))
  have N2 := Fr.snoc X2 (Fr.nil n0) ng
  refine Go.st (T' := T2) (g' := (mkF m 9 #[.val (.ref a), .val v1, .val v2, .val v3, .val v4] [])) st2 ?_
  refine Go.st (T' := T2) (g' := (mkF m 10 #[.val (.ref a), .val v1, .val v2, .val v3, .val v4] [(.ref a)])) (fun _ hr => XS.aloadN X2.here hx rfl (hb hby d8_9) rfl rfl hr) ?_
  refine Go.st (T' := T2) (g' := (mkF m 11 #[.val (.ref a), .val v1, .val v2, .val v3, .val v4] [v2, (.ref a)])) (fun _ hr => XS.aloadN X2.here hx rfl (hb hby d8_10) rfl r_v2 hr) ?_
  obtain ⟨T3, h3, X3, e3, W3, st3⟩ := putF X2 hx hZ hown (host := "") (Or.inl (hw _ (List.mem_of_getElem? (i := 55) rfl))) Via.refl e2 F0_deployment_q_2 E0_q_2 (Or.inr ⟨(hw _ (List.mem_of_getElem? (i := 56) rfl)), rfl, hnm⟩) (hw _ (List.mem_of_getElem? (i := 47) rfl)) (ty := (.object "com/example/item_type_store/itemtypestore/model/Deployment")) (by decide) (own_narrow_ref r_v2) (own_fits_obj r_v2) (g := (mkF m 11 #[.val (.ref a), .val v1, .val v2, .val v3, .val v4] [v2, (.ref a)])) rfl rfl (hb hby d8_11)
  have F0_code_q_3 : Fld Z h3 a "com/example/item_type_store/itemtypestore/model/Relation" "code" "Ljava/lang/String;" v1 := (F0_code_q_2.other W3 (Or.inr (slot_ne (Or.inr (hw _ (List.mem_of_getElem? (i := 54) rfl))) (Or.inr (hw _ (List.mem_of_getElem? (i := 56) rfl))) (by decide) (t := (.object "java/lang/String")) (t' := (.object "com/example/item_type_store/itemtypestore/model/Deployment")) (by decide) (by decide))))
  have F0_deployment_q_3 : Fld Z h3 a "com/example/item_type_store/itemtypestore/model/Relation" "deployment" "Lcom/example/item_type_store/itemtypestore/model/Deployment;" v2 := (F0_deployment_q_2.same W3)
  have F0_source_q_3 : Fld Z h3 a "com/example/item_type_store/itemtypestore/model/Relation" "source" "Lcom/example/item_type_store/itemtypestore/model/Relation$Element;" .null := (F0_source_q_2.other W3 (Or.inr (slot_ne (Or.inr (hw _ (List.mem_of_getElem? (i := 58) rfl))) (Or.inr (hw _ (List.mem_of_getElem? (i := 56) rfl))) (by decide) (t := (.object "com/example/item_type_store/itemtypestore/model/Relation$Element")) (t' := (.object "com/example/item_type_store/itemtypestore/model/Deployment")) (by decide) (by decide))))
  have F0_target_q_3 : Fld Z h3 a "com/example/item_type_store/itemtypestore/model/Relation" "target" "Lcom/example/item_type_store/itemtypestore/model/Relation$Element;" .null := (F0_target_q_2.other W3 (Or.inr (slot_ne (Or.inr (hw _ (List.mem_of_getElem? (i := 60) rfl))) (Or.inr (hw _ (List.mem_of_getElem? (i := 56) rfl))) (by decide) (t := (.object "com/example/item_type_store/itemtypestore/model/Relation$Element")) (t' := (.object "com/example/item_type_store/itemtypestore/model/Deployment")) (by decide) (by decide))))
  have E0_q_3 : Exa Z h3 a "com/example/item_type_store/itemtypestore/model/Relation" := (E0_q_2.wr W3)
  have fK_q_3 : Keep h0 h3 [a] := (fK_q_2.wr W3 (Or.inl (List.mem_of_getElem? (i := 0) rfl)))
  have N3 := Fr.snoc X3 N2 ng
  refine Go.st (T' := T3) (g' := (mkF m 14 #[.val (.ref a), .val v1, .val v2, .val v3, .val v4] [])) st3 ?_
  refine Go.st (T' := T3) (g' := (mkF m 15 #[.val (.ref a), .val v1, .val v2, .val v3, .val v4] [(.ref a)])) (fun _ hr => XS.aloadN X3.here hx rfl (hb hby d8_14) rfl rfl hr) ?_
  refine Go.st (T' := T3) (g' := (mkF m 16 #[.val (.ref a), .val v1, .val v2, .val v3, .val v4] [v3, (.ref a)])) (fun _ hr => XS.aloadN X3.here hx rfl (hb hby d8_15) rfl r_v3 hr) ?_
  obtain ⟨T4, h4, X4, e4, W4, st4⟩ := putF X3 hx hZ hown (host := "") (Or.inl (hw _ (List.mem_of_getElem? (i := 57) rfl))) Via.refl e3 F0_source_q_3 E0_q_3 (Or.inr ⟨(hw _ (List.mem_of_getElem? (i := 58) rfl)), rfl, hnm⟩) (hw _ (List.mem_of_getElem? (i := 47) rfl)) (ty := (.object "com/example/item_type_store/itemtypestore/model/Relation$Element")) (by decide) (own_narrow_ref r_v3) (own_fits_obj r_v3) (g := (mkF m 16 #[.val (.ref a), .val v1, .val v2, .val v3, .val v4] [v3, (.ref a)])) rfl rfl (hb hby d8_16)
  have F0_code_q_4 : Fld Z h4 a "com/example/item_type_store/itemtypestore/model/Relation" "code" "Ljava/lang/String;" v1 := (F0_code_q_3.other W4 (Or.inr (slot_ne (Or.inr (hw _ (List.mem_of_getElem? (i := 54) rfl))) (Or.inr (hw _ (List.mem_of_getElem? (i := 58) rfl))) (by decide) (t := (.object "java/lang/String")) (t' := (.object "com/example/item_type_store/itemtypestore/model/Relation$Element")) (by decide) (by decide))))
  have F0_deployment_q_4 : Fld Z h4 a "com/example/item_type_store/itemtypestore/model/Relation" "deployment" "Lcom/example/item_type_store/itemtypestore/model/Deployment;" v2 := (F0_deployment_q_3.other W4 (Or.inr (slot_ne (Or.inr (hw _ (List.mem_of_getElem? (i := 56) rfl))) (Or.inr (hw _ (List.mem_of_getElem? (i := 58) rfl))) (by decide) (t := (.object "com/example/item_type_store/itemtypestore/model/Deployment")) (t' := (.object "com/example/item_type_store/itemtypestore/model/Relation$Element")) (by decide) (by decide))))
  have F0_source_q_4 : Fld Z h4 a "com/example/item_type_store/itemtypestore/model/Relation" "source" "Lcom/example/item_type_store/itemtypestore/model/Relation$Element;" v3 := (F0_source_q_3.same W4)
  have F0_target_q_4 : Fld Z h4 a "com/example/item_type_store/itemtypestore/model/Relation" "target" "Lcom/example/item_type_store/itemtypestore/model/Relation$Element;" .null := (F0_target_q_3.other W4 (Or.inr (slot_ne (Or.inr (hw _ (List.mem_of_getElem? (i := 60) rfl))) (Or.inr (hw _ (List.mem_of_getElem? (i := 58) rfl))) (by decide) (t := (.object "com/example/item_type_store/itemtypestore/model/Relation$Element")) (t' := (.object "com/example/item_type_store/itemtypestore/model/Relation$Element")) (by decide) (by decide))))
  have E0_q_4 : Exa Z h4 a "com/example/item_type_store/itemtypestore/model/Relation" := (E0_q_3.wr W4)
  have fK_q_4 : Keep h0 h4 [a] := (fK_q_3.wr W4 (Or.inl (List.mem_of_getElem? (i := 0) rfl)))
  have N4 := Fr.snoc X4 N3 ng
  refine Go.st (T' := T4) (g' := (mkF m 19 #[.val (.ref a), .val v1, .val v2, .val v3, .val v4] [])) st4 ?_
  refine Go.st (T' := T4) (g' := (mkF m 20 #[.val (.ref a), .val v1, .val v2, .val v3, .val v4] [(.ref a)])) (fun _ hr => XS.aloadN X4.here hx rfl (hb hby d8_19) rfl rfl hr) ?_
  refine Go.st (T' := T4) (g' := (mkF m 22 #[.val (.ref a), .val v1, .val v2, .val v3, .val v4] [v4, (.ref a)])) (fun _ hr => XS.aload X4.here hx rfl (hb hby d8_20) rfl r_v4 hr) ?_
  obtain ⟨T5, h5, X5, e5, W5, st5⟩ := putF X4 hx hZ hown (host := "") (Or.inl (hw _ (List.mem_of_getElem? (i := 59) rfl))) Via.refl e4 F0_target_q_4 E0_q_4 (Or.inr ⟨(hw _ (List.mem_of_getElem? (i := 60) rfl)), rfl, hnm⟩) (hw _ (List.mem_of_getElem? (i := 47) rfl)) (ty := (.object "com/example/item_type_store/itemtypestore/model/Relation$Element")) (by decide) (own_narrow_ref r_v4) (own_fits_obj r_v4) (g := (mkF m 22 #[.val (.ref a), .val v1, .val v2, .val v3, .val v4] [v4, (.ref a)])) rfl rfl (hb hby d8_22)
  have F0_code_q_5 : Fld Z h5 a "com/example/item_type_store/itemtypestore/model/Relation" "code" "Ljava/lang/String;" v1 := (F0_code_q_4.other W5 (Or.inr (slot_ne (Or.inr (hw _ (List.mem_of_getElem? (i := 54) rfl))) (Or.inr (hw _ (List.mem_of_getElem? (i := 60) rfl))) (by decide) (t := (.object "java/lang/String")) (t' := (.object "com/example/item_type_store/itemtypestore/model/Relation$Element")) (by decide) (by decide))))
  have F0_deployment_q_5 : Fld Z h5 a "com/example/item_type_store/itemtypestore/model/Relation" "deployment" "Lcom/example/item_type_store/itemtypestore/model/Deployment;" v2 := (F0_deployment_q_4.other W5 (Or.inr (slot_ne (Or.inr (hw _ (List.mem_of_getElem? (i := 56) rfl))) (Or.inr (hw _ (List.mem_of_getElem? (i := 60) rfl))) (by decide) (t := (.object "com/example/item_type_store/itemtypestore/model/Deployment")) (t' := (.object "com/example/item_type_store/itemtypestore/model/Relation$Element")) (by decide) (by decide))))
  have F0_source_q_5 : Fld Z h5 a "com/example/item_type_store/itemtypestore/model/Relation" "source" "Lcom/example/item_type_store/itemtypestore/model/Relation$Element;" v3 := (F0_source_q_4.other W5 (Or.inr (slot_ne (Or.inr (hw _ (List.mem_of_getElem? (i := 58) rfl))) (Or.inr (hw _ (List.mem_of_getElem? (i := 60) rfl))) (by decide) (t := (.object "com/example/item_type_store/itemtypestore/model/Relation$Element")) (t' := (.object "com/example/item_type_store/itemtypestore/model/Relation$Element")) (by decide) (by decide))))
  have F0_target_q_5 : Fld Z h5 a "com/example/item_type_store/itemtypestore/model/Relation" "target" "Lcom/example/item_type_store/itemtypestore/model/Relation$Element;" v4 := (F0_target_q_4.same W5)
  have E0_q_5 : Exa Z h5 a "com/example/item_type_store/itemtypestore/model/Relation" := (E0_q_4.wr W5)
  have fK_q_5 : Keep h0 h5 [a] := (fK_q_4.wr W5 (Or.inl (List.mem_of_getElem? (i := 0) rfl)))
  have N5 := Fr.snoc X5 N4 ng
  refine Go.st (T' := T5) (g' := (mkF m 25 #[.val (.ref a), .val v1, .val v2, .val v3, .val v4] [])) st5 ?_
  exact Go.retV X5 hx hlk hret (hb hby d8_25) (by decide) (by decide) (by rw [e5]; exact ⟨rfl, N5, fK_q_5, F0_code_q_5, F0_deployment_q_5, F0_source_q_5, F0_target_q_5⟩)
theorem pd_7 : parseMethodDescriptor "(Ljava/lang/String;I)V" = some ⟨[(.object "java/lang/String"), .int], none⟩ := by decide +kernel
theorem d11_0 : decode prog_101_method_1_code 0 = .ok (.aload_n 0, 1) := by decide +kernel
theorem d11_1 : decode prog_101_method_1_code 1 = .ok (.invokespecial 1, 3) := by decide +kernel
theorem d11_4 : decode prog_101_method_1_code 4 = .ok (.aload_n 0, 1) := by decide +kernel
theorem d11_5 : decode prog_101_method_1_code 5 = .ok (.aload_n 1, 1) := by decide +kernel
theorem d11_6 : decode prog_101_method_1_code 6 = .ok (.putfield 7, 3) := by decide +kernel
theorem d11_9 : decode prog_101_method_1_code 9 = .ok (.aload_n 0, 1) := by decide +kernel
theorem d11_10 : decode prog_101_method_1_code 10 = .ok (.iload_n 2, 1) := by decide +kernel
theorem d11_11 : decode prog_101_method_1_code 11 = .ok (.putfield 13, 3) := by decide +kernel
theorem d11_14 : decode prog_101_method_1_code 14 = .ok (.return_, 1) := by decide +kernel
theorem pn_5 : plainName "com/example/item_type_store/itemtypestore/model/Deployment" = true := by first | (simp [plainName, overriddenIn]; done) | decide +kernel
theorem ef_rm11 (m : MethodId) (a : Addr) (v1 : Value) (p2 : Int32) (r_v1 : v1.isRef = true) : entryFrame m #[(.ref a), v1, (.int p2)] 3 = mkF m 0 #[.val (.ref a), .val v1, .val (.int p2)] [] := by rcases XT.refc r_v1 with rfl | ⟨_, rfl⟩ <;> first | (simp [entryFrame, mkF, argsToLocals, Value.category]; done) | rfl
set_option maxRecDepth 65536 in
set_option maxHeartbeats 40000000 in
theorem rm11 (l : Launch) (Z : State) (a0 : Array Value) (hw : ∀ d ∈ tables_1, d.before a0 Z = true) (a : Addr) (v1 : Value) (p2 : Int32) (r_v1 : v1.isRef = true) (h0 : Heap) (n0 : Nat) (ng : n0 ≤ a) (E0 : Exa Z h0 a "com/example/item_type_store/itemtypestore/model/Deployment") (F0_table : Fld Z h0 a "com/example/item_type_store/itemtypestore/model/Deployment" "table" "Ljava/lang/String;" .null) (F0_typecode : Fld Z h0 a "com/example/item_type_store/itemtypestore/model/Deployment" "typecode" "I" (.int (0 : Int32))) :
    MetQ l Z (⟨"com/example/item_type_store/itemtypestore/model/Deployment", "<init>", "(Ljava/lang/String;I)V"⟩ : MethodName) prog_101_method_1_code 3 none [] ({ frames := 2, cells := 0, slots := 0, locals := 24 } : Room) #[(.ref a), v1, (.int p2)] h0 (fun v h L => v = none ∧ Fr n0 L ∧ Keep h0 h [a] ∧ Fld Z h a "com/example/item_type_store/itemtypestore/model/Deployment" "table" "Ljava/lang/String;" v1 ∧ Fld Z h a "com/example/item_type_store/itemtypestore/model/Deployment" "typecode" "I" (.int p2)) := by
  refine MetQ.body (plainFor_of_name pn_5) fun p e s m below meth c s₁ hx hby hml hown hnm hret hlk hZ e0 X0 => Go.cast (ef_rm11 m a v1 p2 r_v1) ?_
  refine Go.st (T' := s₁) (g' := (mkF m 1 #[.val (.ref a), .val v1, .val (.int p2)] [(.ref a)])) (fun _ hr => XS.aloadN X0.here hx rfl (hb hby d11_0) rfl rfl hr) ?_
  refine Go.callC X0 hx hZ hown (W := 0) (y := (⟨"java/lang/Record", "<init>", "()V"⟩ : MethodName)) rfl (hw _ (List.mem_of_getElem? (i := 77) rfl)) (hw _ (List.mem_of_getElem? (i := 33) rfl)) (hw _ (List.mem_of_getElem? (i := 35) rfl)) (hw _ (List.mem_of_getElem? (i := 36) rfl)) (by decide) e0 (rm7 l Z a0 hw a h0) (by decide) (by decide) (by decide) (by decide) (g := (mkF m 1 #[.val (.ref a), .val v1, .val (.int p2)] [(.ref a)])) rfl (by rw [hml]; rfl) (argsL := []) (rest := []) (lenOf pd_3 rfl) rfl (by show 2 * 0 + _ ≤ _; exact Nat.le_of_eq rfl) (hb hby d11_1) (fun v1 T1 L1 X1 q1 => ?_)
  obtain ⟨rfl, rfl, e1⟩ := q1
  rw [List.append_nil] at X1
  show Go p.tables e below (Fin s (fun v h L => v = none ∧ Fr n0 L ∧ Keep h0 h [a] ∧ Fld Z h a "com/example/item_type_store/itemtypestore/model/Deployment" "table" "Ljava/lang/String;" v1 ∧ Fld Z h a "com/example/item_type_store/itemtypestore/model/Deployment" "typecode" "I" (.int p2)) ({ frames := 2, cells := 0, slots := 0, locals := 24 } : Room).cells ({ frames := 2, cells := 0, slots := 0, locals := 24 } : Room).slots) T1 (mkF m 4 #[.val (.ref a), .val v1, .val (.int p2)] [])
  refine Go.st (T' := T1) (g' := (mkF m 5 #[.val (.ref a), .val v1, .val (.int p2)] [(.ref a)])) (fun _ hr => XS.aloadN X1.here hx rfl (hb hby d11_4) rfl rfl hr) ?_
  refine Go.st (T' := T1) (g' := (mkF m 6 #[.val (.ref a), .val v1, .val (.int p2)] [v1, (.ref a)])) (fun _ hr => XS.aloadN X1.here hx rfl (hb hby d11_5) rfl r_v1 hr) ?_
  obtain ⟨T2, h2, X2, e2, W2, st2⟩ := putF X1 hx hZ hown (host := "") (Or.inl (hw _ (List.mem_of_getElem? (i := 78) rfl))) Via.refl e1 F0_table E0 (Or.inr ⟨(hw _ (List.mem_of_getElem? (i := 79) rfl)), rfl, hnm⟩) (hw _ (List.mem_of_getElem? (i := 72) rfl)) (ty := (.object "java/lang/String")) (by decide) (own_narrow_ref r_v1) (own_fits_obj r_v1) (g := (mkF m 6 #[.val (.ref a), .val v1, .val (.int p2)] [v1, (.ref a)])) rfl rfl (hb hby d11_6)
  have F0_table_q_2 : Fld Z h2 a "com/example/item_type_store/itemtypestore/model/Deployment" "table" "Ljava/lang/String;" v1 := (F0_table.same W2)
  have F0_typecode_q_2 : Fld Z h2 a "com/example/item_type_store/itemtypestore/model/Deployment" "typecode" "I" (.int (0 : Int32)) := (F0_typecode.other W2 (Or.inr (slot_ne (Or.inr (hw _ (List.mem_of_getElem? (i := 81) rfl))) (Or.inr (hw _ (List.mem_of_getElem? (i := 79) rfl))) (by decide) (t := .int) (t' := (.object "java/lang/String")) (by decide) (by decide))))
  have E0_q_2 : Exa Z h2 a "com/example/item_type_store/itemtypestore/model/Deployment" := (E0.wr W2)
  have fK_q_2 : Keep h0 h2 [a] := ((Keep.refl h0 [a]).wr W2 (Or.inl (List.mem_of_getElem? (i := 0) rfl)))
  have N2 := Fr.snoc X2 (Fr.nil n0) ng
  refine Go.st (T' := T2) (g' := (mkF m 9 #[.val (.ref a), .val v1, .val (.int p2)] [])) st2 ?_
  refine Go.st (T' := T2) (g' := (mkF m 10 #[.val (.ref a), .val v1, .val (.int p2)] [(.ref a)])) (fun _ hr => XS.aloadN X2.here hx rfl (hb hby d11_9) rfl rfl hr) ?_
  refine Go.st (T' := T2) (g' := (mkF m 11 #[.val (.ref a), .val v1, .val (.int p2)] [(.int p2), (.ref a)])) (fun _ hr => XS.iloadN X2.here hx rfl (hb hby d11_10) rfl hr) ?_
  obtain ⟨T3, h3, X3, e3, W3, st3⟩ := putF X2 hx hZ hown (host := "") (Or.inl (hw _ (List.mem_of_getElem? (i := 80) rfl))) Via.refl e2 F0_typecode_q_2 E0_q_2 (Or.inr ⟨(hw _ (List.mem_of_getElem? (i := 81) rfl)), rfl, hnm⟩) (hw _ (List.mem_of_getElem? (i := 72) rfl)) (ty := .int) (by decide) rfl rfl (g := (mkF m 11 #[.val (.ref a), .val v1, .val (.int p2)] [(.int p2), (.ref a)])) rfl rfl (hb hby d11_11)
  have F0_table_q_3 : Fld Z h3 a "com/example/item_type_store/itemtypestore/model/Deployment" "table" "Ljava/lang/String;" v1 := (F0_table_q_2.other W3 (Or.inr (slot_ne (Or.inr (hw _ (List.mem_of_getElem? (i := 79) rfl))) (Or.inr (hw _ (List.mem_of_getElem? (i := 81) rfl))) (by decide) (t := (.object "java/lang/String")) (t' := .int) (by decide) (by decide))))
  have F0_typecode_q_3 : Fld Z h3 a "com/example/item_type_store/itemtypestore/model/Deployment" "typecode" "I" (.int p2) := (F0_typecode_q_2.same W3)
  have E0_q_3 : Exa Z h3 a "com/example/item_type_store/itemtypestore/model/Deployment" := (E0_q_2.wr W3)
  have fK_q_3 : Keep h0 h3 [a] := (fK_q_2.wr W3 (Or.inl (List.mem_of_getElem? (i := 0) rfl)))
  have N3 := Fr.snoc X3 N2 ng
  refine Go.st (T' := T3) (g' := (mkF m 14 #[.val (.ref a), .val v1, .val (.int p2)] [])) st3 ?_
  exact Go.retV X3 hx hlk hret (hb hby d11_14) (by decide) (by decide) (by rw [e3]; exact ⟨rfl, N3, fK_q_3, F0_table_q_3, F0_typecode_q_3⟩)
theorem pd_8 : parseMethodDescriptor "()Z" = some ⟨[], some .boolean⟩ := by decide +kernel
theorem d10_0 : decode prog_109_method_7_code 0 = .ok (.aload_n 0, 1) := by decide +kernel
theorem d10_1 : decode prog_109_method_7_code 1 = .ok (.getfield 16, 3) := by decide +kernel
theorem d10_4 : decode prog_109_method_7_code 4 = .ok (.ireturn, 1) := by decide +kernel
def f10 (w0 : Int32) : Int32 := (nar .boolean w0)
theorem ef_rm10 (m : MethodId) (a : Addr)  : entryFrame m #[(.ref a)] 1 = mkF m 0 #[.val (.ref a)] [] := by first | (simp [entryFrame, mkF, argsToLocals, Value.category]; done) | rfl
set_option maxRecDepth 65536 in
set_option maxHeartbeats 40000000 in
theorem rm10 (l : Launch) (Z : State) (a0 : Array Value) (hw : ∀ d ∈ tables_1, d.before a0 Z = true) (a : Addr) (w0 : Int32)  (h0 : Heap) (F0_many : Fld Z h0 a "com/example/item_type_store/itemtypestore/model/Relation$Element" "many" "Z" (.int w0)) :
    MetQ l Z (⟨"com/example/item_type_store/itemtypestore/model/Relation$Element", "many", "()Z"⟩ : MethodName) prog_109_method_7_code 1 (some .boolean) [] ({ frames := 0, cells := 0, slots := 0, locals := 0 } : Room) #[(.ref a)] h0 (PQ (.int (f10 w0)) h0) := by
  refine MetQ.body (plainFor_of_name pn_3) fun p e s m below meth c s₁ hx hby hml hown hnm hret hlk hZ e0 X0 => Go.cast (ef_rm10 m a) ?_
  refine Go.st (T' := s₁) (g' := (mkF m 1 #[.val (.ref a)] [(.ref a)])) (fun _ hr => XS.aloadN X0.here hx rfl (hb hby d10_0) rfl rfl hr) ?_
  obtain ⟨T1, X1, e1, st1⟩ := getF X0 hx hZ hown (host := "") (Or.inl (hw _ (List.mem_of_getElem? (i := 42) rfl))) Via.refl e0 F0_many (g := (mkF m 1 #[.val (.ref a)] [(.ref a)])) rfl rfl (hb hby d10_1)
  refine Go.st (T' := T1) (g' := (mkF m 4 #[.val (.ref a)] [(.int w0)])) st1 ?_
  exact Go.retN X1 hx hlk hret (by simp) (hb hby d10_4) (by decide) (by decide) ⟨congrArg (fun z => some (Value.int z)) (by simp only [f10]), rfl, e1⟩
theorem d9_0 : decode prog_108_method_2_code 0 = .ok (.aload_n 0, 1) := by decide +kernel
theorem d9_1 : decode prog_108_method_2_code 1 = .ok (.getfield 17, 3) := by decide +kernel
theorem d9_4 : decode prog_108_method_2_code 4 = .ok (.invokevirtual 24, 3) := by decide +kernel
theorem d9_7 : decode prog_108_method_2_code 7 = .ok (.ifCond .eq 17, 3) := by decide +kernel
theorem d9_10 : decode prog_108_method_2_code 10 = .ok (.aload_n 0, 1) := by decide +kernel
theorem d9_11 : decode prog_108_method_2_code 11 = .ok (.getfield 21, 3) := by decide +kernel
theorem d9_14 : decode prog_108_method_2_code 14 = .ok (.invokevirtual 24, 3) := by decide +kernel
theorem d9_17 : decode prog_108_method_2_code 17 = .ok (.ifCond .eq 7, 3) := by decide +kernel
theorem d9_20 : decode prog_108_method_2_code 20 = .ok (.iconst 1, 1) := by decide +kernel
theorem d9_21 : decode prog_108_method_2_code 21 = .ok (.goto 4, 3) := by decide +kernel
theorem d9_24 : decode prog_108_method_2_code 24 = .ok (.iconst 0, 1) := by decide +kernel
theorem d9_25 : decode prog_108_method_2_code 25 = .ok (.ireturn, 1) := by decide +kernel
def f9 (mb : Int32) (md : Int32) : Int32 := (if (f10 mb) = (0 : Int32) then (0 : Int32) else (if (f10 md) = (0 : Int32) then (0 : Int32) else (1 : Int32)))
theorem ef_rm9 (m : MethodId) (a : Addr)  : entryFrame m #[(.ref a)] 1 = mkF m 0 #[.val (.ref a)] [] := by first | (simp [entryFrame, mkF, argsToLocals, Value.category]; done) | rfl
set_option maxRecDepth 65536 in
set_option maxHeartbeats 40000000 in
theorem rm9 (l : Launch) (Z : State) (a0 : Array Value) (hw : ∀ d ∈ tables_1, d.before a0 Z = true) (a : Addr) (b : Addr) (d : Addr) (mb : Int32) (md : Int32)  (h0 : Heap) (G1 : Fld Z h0 a "com/example/item_type_store/itemtypestore/model/Relation" "source" "Lcom/example/item_type_store/itemtypestore/model/Relation$Element;" (.ref b)) (G2 : Fld Z h0 a "com/example/item_type_store/itemtypestore/model/Relation" "target" "Lcom/example/item_type_store/itemtypestore/model/Relation$Element;" (.ref d)) (G3 : Exa Z h0 b "com/example/item_type_store/itemtypestore/model/Relation$Element") (G4 : Fld Z h0 b "com/example/item_type_store/itemtypestore/model/Relation$Element" "many" "Z" (.int mb)) (G5 : Exa Z h0 d "com/example/item_type_store/itemtypestore/model/Relation$Element") (G6 : Fld Z h0 d "com/example/item_type_store/itemtypestore/model/Relation$Element" "many" "Z" (.int md)) :
    MetQ l Z (⟨"com/example/item_type_store/itemtypestore/model/Relation", "manyToMany", "()Z"⟩ : MethodName) prog_108_method_2_code 1 (some .boolean) [] ({ frames := 1, cells := 0, slots := 0, locals := 12 } : Room) #[(.ref a)] h0 (PQ (.int (f9 mb md)) h0) := by
  refine MetQ.body (plainFor_of_name pn_4) fun p e s m below meth c s₁ hx hby hml hown hnm hret hlk hZ e0 X0 => Go.cast (ef_rm9 m a) ?_
  refine Go.st (T' := s₁) (g' := (mkF m 1 #[.val (.ref a)] [(.ref a)])) (fun _ hr => XS.aloadN X0.here hx rfl (hb hby d9_0) rfl rfl hr) ?_
  obtain ⟨T1, X1, e1, st1⟩ := getF X0 hx hZ hown (host := "") (Or.inl (hw _ (List.mem_of_getElem? (i := 57) rfl))) Via.refl e0 G1 (g := (mkF m 1 #[.val (.ref a)] [(.ref a)])) rfl rfl (hb hby d9_1)
  refine Go.st (T' := T1) (g' := (mkF m 4 #[.val (.ref a)] [(.ref b)])) st1 ?_
  refine Go.callV X1 hx hZ hown (W := 0) (y := (⟨"com/example/item_type_store/itemtypestore/model/Relation$Element", "many", "()Z"⟩ : MethodName)) (hw _ (List.mem_of_getElem? (i := 66) rfl)) (hw _ (List.mem_of_getElem? (i := 67) rfl)) (hw _ (List.mem_of_getElem? (i := 69) rfl)) (hw _ (List.mem_of_getElem? (i := 68) rfl)) (hw _ (List.mem_of_getElem? (i := 28) rfl)) (hw _ (List.mem_of_getElem? (i := 70) rfl)) (by decide) rfl e1 G3 (rm10 l Z a0 hw b mb  h0 G4) (by decide) (by decide) (by decide) (by decide) (g := (mkF m 4 #[.val (.ref a)] [(.ref b)])) rfl (by rw [hml]; rfl) (argsL := []) (rest := []) (lenOf pd_8 rfl) rfl (by show 2 * 0 + _ ≤ _; exact Nat.le_of_eq rfl) (hb hby d9_4) (fun v2 T2 L2 X2 q2 => ?_)
  obtain ⟨rfl, rfl, e2⟩ := q2
  rw [List.append_nil] at X2
  show Go p.tables e below (Fin s (PQ (.int (f9 mb md)) h0) ({ frames := 1, cells := 0, slots := 0, locals := 12 } : Room).cells ({ frames := 1, cells := 0, slots := 0, locals := 12 } : Room).slots) T2 (mkF m 7 #[.val (.ref a)] [(.int (f10 mb))])
  by_cases c7_3 : (f10 mb) = (0 : Int32)
  · refine Go.st (T' := T2) (g' := (mkF m 24 #[.val (.ref a)] [])) (fun _ hr => XS.ifYes X2.here hx rfl (pc0 := 7) (pc' := 24) rfl (hb hby d9_7) rfl (XT.i0_eq_t c7_3) (by decide) (by decide) hr) ?_
    refine Go.st (T' := T2) (g' := (mkF m 25 #[.val (.ref a)] [(.int (0 : Int32))])) (fun _ hr => XT.iconstV X2.here hx rfl (0 : Int32) (hb hby d9_24) (by decide) hr) ?_
    exact Go.retN X2 hx hlk hret (by simp) (hb hby d9_25) (by decide) (by decide) ⟨congrArg (fun z => some (Value.int z)) ((by decide : nar .boolean (0 : Int32) = (0 : Int32)).trans (by simp only [f9, if_pos c7_3])), rfl, e2⟩
  · refine Go.st (T' := T2) (g' := (mkF m 10 #[.val (.ref a)] [])) (fun _ hr => XS.ifNo X2.here hx rfl (hb hby d9_7) rfl (XT.i0_eq_f c7_3) hr) ?_
    refine Go.st (T' := T2) (g' := (mkF m 11 #[.val (.ref a)] [(.ref a)])) (fun _ hr => XS.aloadN X2.here hx rfl (hb hby d9_10) rfl rfl hr) ?_
    obtain ⟨T4, X4, e4, st4⟩ := getF X2 hx hZ hown (host := "") (Or.inl (hw _ (List.mem_of_getElem? (i := 59) rfl))) Via.refl e2 G2 (g := (mkF m 11 #[.val (.ref a)] [(.ref a)])) rfl rfl (hb hby d9_11)
    refine Go.st (T' := T4) (g' := (mkF m 14 #[.val (.ref a)] [(.ref d)])) st4 ?_
    refine Go.callV X4 hx hZ hown (W := 0) (y := (⟨"com/example/item_type_store/itemtypestore/model/Relation$Element", "many", "()Z"⟩ : MethodName)) (hw _ (List.mem_of_getElem? (i := 66) rfl)) (hw _ (List.mem_of_getElem? (i := 67) rfl)) (hw _ (List.mem_of_getElem? (i := 69) rfl)) (hw _ (List.mem_of_getElem? (i := 68) rfl)) (hw _ (List.mem_of_getElem? (i := 28) rfl)) (hw _ (List.mem_of_getElem? (i := 70) rfl)) (by decide) rfl e4 G5 (rm10 l Z a0 hw d md  h0 G6) (by decide) (by decide) (by decide) (by decide) (g := (mkF m 14 #[.val (.ref a)] [(.ref d)])) rfl (by rw [hml]; rfl) (argsL := []) (rest := []) (lenOf pd_8 rfl) rfl (by show 2 * 0 + _ ≤ _; exact Nat.le_of_eq rfl) (hb hby d9_14) (fun v5 T5 L5 X5 q5 => ?_)
    obtain ⟨rfl, rfl, e5⟩ := q5
    rw [List.append_nil] at X5
    show Go p.tables e below (Fin s (PQ (.int (f9 mb md)) h0) ({ frames := 1, cells := 0, slots := 0, locals := 12 } : Room).cells ({ frames := 1, cells := 0, slots := 0, locals := 12 } : Room).slots) T5 (mkF m 17 #[.val (.ref a)] [(.int (f10 md))])
    by_cases c17_6 : (f10 md) = (0 : Int32)
    · refine Go.st (T' := T5) (g' := (mkF m 24 #[.val (.ref a)] [])) (fun _ hr => XS.ifYes X5.here hx rfl (pc0 := 17) (pc' := 24) rfl (hb hby d9_17) rfl (XT.i0_eq_t c17_6) (by decide) (by decide) hr) ?_
      refine Go.st (T' := T5) (g' := (mkF m 25 #[.val (.ref a)] [(.int (0 : Int32))])) (fun _ hr => XT.iconstV X5.here hx rfl (0 : Int32) (hb hby d9_24) (by decide) hr) ?_
      exact Go.retN X5 hx hlk hret (by simp) (hb hby d9_25) (by decide) (by decide) ⟨congrArg (fun z => some (Value.int z)) ((by decide : nar .boolean (0 : Int32) = (0 : Int32)).trans (by simp only [f9, if_neg c7_3, if_pos c17_6])), rfl, e5⟩
    · refine Go.st (T' := T5) (g' := (mkF m 20 #[.val (.ref a)] [])) (fun _ hr => XS.ifNo X5.here hx rfl (hb hby d9_17) rfl (XT.i0_eq_f c17_6) hr) ?_
      refine Go.st (T' := T5) (g' := (mkF m 21 #[.val (.ref a)] [(.int (1 : Int32))])) (fun _ hr => XT.iconstV X5.here hx rfl (1 : Int32) (hb hby d9_20) (by decide) hr) ?_
      refine Go.st (T' := T5) (g' := (mkF m 25 #[.val (.ref a)] [(.int (1 : Int32))])) (fun _ hr => XS.goto X5.here hx rfl (pc0 := 21) (pc' := 25) rfl (hb hby d9_21) (by decide) (by decide) hr) ?_
      exact Go.retN X5 hx hlk hret (by simp) (hb hby d9_25) (by decide) (by decide) ⟨congrArg (fun z => some (Value.int z)) ((by decide : nar .boolean (1 : Int32) = (1 : Int32)).trans (by simp only [f9, if_neg c7_3, if_neg c17_6])), rfl, e5⟩
theorem own_nar01 (c : Prop) [Decidable c] : nar .boolean (if c then (0 : Int32) else (1 : Int32)) = (if c then (0 : Int32) else (1 : Int32)) := by
  by_cases h : c
  · rw [if_pos h]; decide
  · rw [if_neg h]; decide
theorem own_law {c d : Prop} [Decidable c] [Decidable d] {x y z : Int32} (hx : x = (if c then (0 : Int32) else (1 : Int32))) (hy : y = (if d then (0 : Int32) else (1 : Int32))) (hz : z = (if x = (0 : Int32) then (0 : Int32) else (if y = (0 : Int32) then (0 : Int32) else (1 : Int32)))) : f9 (nar .boolean x) (nar .boolean y) = z := by
  have ex : nar .boolean x = x := by rw [hx]; exact own_nar01 c
  have ey : nar .boolean y = y := by rw [hy]; exact own_nar01 d
  rw [hz]
  unfold f9 f10
  rw [ex, ey, ex, ey]
theorem pd_9 : parseMethodDescriptor "(IIIII)Z" = some ⟨[.int, .int, .int, .int, .int], some .boolean⟩ := by decide +kernel
theorem pn_6 : plainName "com/example/item_type_store/itemtypestore/model/RelationManyToManyPinLaw" = true := by first | (simp [plainName, overriddenIn]; done) | decide +kernel
theorem ef_rm0 (m : MethodId) (p0 : Int32) (p1 : Int32) (p2 : Int32) (p3 : Int32) (p4 : Int32)  : entryFrame m #[(.int p0), (.int p1), (.int p2), (.int p3), (.int p4)] maxLocals = mkF m 0 #[.val (.int p0), .val (.int p1), .val (.int p2), .val (.int p3), .val (.int p4), .unset, .unset, .unset, .unset, .unset, .unset, .unset, .unset, .unset, .unset, .unset, .unset, .unset] [] := by first | (simp [entryFrame, mkF, argsToLocals, Value.category, maxLocals]; done) | rfl
set_option maxRecDepth 65536 in
set_option maxHeartbeats 40000000 in
theorem rm0 (l : Launch) (Z : State) (a0 : Array Value) (hw : ∀ d ∈ tables_1, d.before a0 Z = true) (ws : List Jvm.Cond) (p0 : Int32) (p1 : Int32) (p2 : Int32) (p3 : Int32) (p4 : Int32) (w : Int32)  (h0 : Heap) (hcs : ¬ w = (0 : Int32)) (O0 : Old Z h0.size h0) (S0 : Sta Z Z.heap "java/lang/String" "COMPACT_STRINGS" "Z" (.int w)) :
    MetQ l Z x code maxLocals ret ws room_1 #[(.int p0), (.int p1), (.int p2), (.int p3), (.int p4)] h0 (fun v h L => v = some (.int 1) ∧ Fr h0.size L) := by
  refine MetQ.body (plainFor_of_name pn_6) fun p e s m below meth c s₁ hx hby hml hown hnm hret hlk hZ e0 X0 => Go.cast (ef_rm0 m p0 p1 p2 p3 p4) ?_
  have hml : c.maxLocals = 18 := hml
  have hown : s.vm.findClass "com/example/item_type_store/itemtypestore/model/RelationManyToManyPinLaw" = some m.cls := hown
  have hret : meth.sig.returnType = some .boolean := hret
  refine Go.st (T' := s₁) (g' := (mkF m 1 #[.val (.int p0), .val (.int p1), .val (.int p2), .val (.int p3), .val (.int p4), .unset, .unset, .unset, .unset, .unset, .unset, .unset, .unset, .unset, .unset, .unset, .unset, .unset] [(.int p0)])) (fun _ hr => XS.iloadN X0.here hx rfl (hb hby at_0) rfl hr) ?_
  refine Go.st (T' := s₁) (g' := (mkF m 2 #[.val (.int p0), .val (.int p1), .val (.int p2), .val (.int p3), .val (.int p4), .unset, .unset, .unset, .unset, .unset, .unset, .unset, .unset, .unset, .unset, .unset, .unset, .unset] [(.int (1 : Int32)), (.int p0)])) (fun _ hr => XT.iconstV X0.here hx rfl (1 : Int32) (hb hby at_1) (by decide) hr) ?_
  refine Go.st (T' := s₁) (g' := (mkF m 3 #[.val (.int p0), .val (.int p1), .val (.int p2), .val (.int p3), .val (.int p4), .unset, .unset, .unset, .unset, .unset, .unset, .unset, .unset, .unset, .unset, .unset, .unset, .unset] [(.int (p0 &&& (1 : Int32)))])) (fun _ hr => XS.iand X0.here hx rfl (hb hby at_2) rfl hr) ?_
  have J11_1 : ∀ (T2 : State) (b11 : Int32) (hb11 : b11 = (if (p0 &&& (1 : Int32)) = (0 : Int32) then (0 : Int32) else (1 : Int32))), Stand p l e room_1 s m #[(.int p0), (.int p1), (.int p2), (.int p3), (.int p4)] below meth c T2 [] 0 0 → T2.heap = h0 → Go p.tables e below (Fin s (fun v h L => v = some (.int 1) ∧ Fr h0.size L) room_1.cells room_1.slots) T2 (mkF m 11 #[.val (.int p0), .val (.int p1), .val (.int p2), .val (.int p3), .val (.int p4), .unset, .unset, .unset, .unset, .unset, .unset, .unset, .unset, .unset, .unset, .unset, .unset, .unset] [(.int b11)]) := by
    intro T2 b11 hb11 X2 e2
    refine Go.st (T' := T2) (g' := (mkF m 13 #[.val (.int p0), .val (.int p1), .val (.int p2), .val (.int p3), .val (.int p4), .val (.int b11), .unset, .unset, .unset, .unset, .unset, .unset, .unset, .unset, .unset, .unset, .unset, .unset] [])) (fun _ hr => XS.istore X2.here hx rfl (hb hby at_11) rfl (l' := #[.val (.int p0), .val (.int p1), .val (.int p2), .val (.int p3), .val (.int p4), .val (.int b11), .unset, .unset, .unset, .unset, .unset, .unset, .unset, .unset, .unset, .unset, .unset, .unset]) rfl hr) ?_
    refine Go.st (T' := T2) (g' := (mkF m 14 #[.val (.int p0), .val (.int p1), .val (.int p2), .val (.int p3), .val (.int p4), .val (.int b11), .unset, .unset, .unset, .unset, .unset, .unset, .unset, .unset, .unset, .unset, .unset, .unset] [(.int p0)])) (fun _ hr => XS.iloadN X2.here hx rfl (hb hby at_13) rfl hr) ?_
    refine Go.st (T' := T2) (g' := (mkF m 15 #[.val (.int p0), .val (.int p1), .val (.int p2), .val (.int p3), .val (.int p4), .val (.int b11), .unset, .unset, .unset, .unset, .unset, .unset, .unset, .unset, .unset, .unset, .unset, .unset] [(.int (2 : Int32)), (.int p0)])) (fun _ hr => XT.iconstV X2.here hx rfl (2 : Int32) (hb hby at_14) (by decide) hr) ?_
    refine Go.st (T' := T2) (g' := (mkF m 16 #[.val (.int p0), .val (.int p1), .val (.int p2), .val (.int p3), .val (.int p4), .val (.int b11), .unset, .unset, .unset, .unset, .unset, .unset, .unset, .unset, .unset, .unset, .unset, .unset] [(.int (p0 &&& (2 : Int32)))])) (fun _ hr => XS.iand X2.here hx rfl (hb hby at_15) rfl hr) ?_
    have J24_3 : ∀ (T4 : State) (b24 : Int32) (hb24 : b24 = (if (p0 &&& (2 : Int32)) = (0 : Int32) then (0 : Int32) else (1 : Int32))), Stand p l e room_1 s m #[(.int p0), (.int p1), (.int p2), (.int p3), (.int p4)] below meth c T4 [] 0 0 → T4.heap = h0 → Go p.tables e below (Fin s (fun v h L => v = some (.int 1) ∧ Fr h0.size L) room_1.cells room_1.slots) T4 (mkF m 24 #[.val (.int p0), .val (.int p1), .val (.int p2), .val (.int p3), .val (.int p4), .val (.int b11), .unset, .unset, .unset, .unset, .unset, .unset, .unset, .unset, .unset, .unset, .unset, .unset] [(.int b24)]) := by
      intro T4 b24 hb24 X4 e4
      refine Go.st (T' := T4) (g' := (mkF m 26 #[.val (.int p0), .val (.int p1), .val (.int p2), .val (.int p3), .val (.int p4), .val (.int b11), .val (.int b24), .unset, .unset, .unset, .unset, .unset, .unset, .unset, .unset, .unset, .unset, .unset] [])) (fun _ hr => XS.istore X4.here hx rfl (hb hby at_24) rfl (l' := #[.val (.int p0), .val (.int p1), .val (.int p2), .val (.int p3), .val (.int p4), .val (.int b11), .val (.int b24), .unset, .unset, .unset, .unset, .unset, .unset, .unset, .unset, .unset, .unset, .unset]) rfl hr) ?_
      refine Go.st (T' := T4) (g' := (mkF m 27 #[.val (.int p0), .val (.int p1), .val (.int p2), .val (.int p3), .val (.int p4), .val (.int b11), .val (.int b24), .unset, .unset, .unset, .unset, .unset, .unset, .unset, .unset, .unset, .unset, .unset] [(.int p0)])) (fun _ hr => XS.iloadN X4.here hx rfl (hb hby at_26) rfl hr) ?_
      refine Go.st (T' := T4) (g' := (mkF m 28 #[.val (.int p0), .val (.int p1), .val (.int p2), .val (.int p3), .val (.int p4), .val (.int b11), .val (.int b24), .unset, .unset, .unset, .unset, .unset, .unset, .unset, .unset, .unset, .unset, .unset] [(.int (4 : Int32)), (.int p0)])) (fun _ hr => XT.iconstV X4.here hx rfl (4 : Int32) (hb hby at_27) (by decide) hr) ?_
      refine Go.st (T' := T4) (g' := (mkF m 29 #[.val (.int p0), .val (.int p1), .val (.int p2), .val (.int p3), .val (.int p4), .val (.int b11), .val (.int b24), .unset, .unset, .unset, .unset, .unset, .unset, .unset, .unset, .unset, .unset, .unset] [(.int (p0 &&& (4 : Int32)))])) (fun _ hr => XS.iand X4.here hx rfl (hb hby at_28) rfl hr) ?_
      have J37_5 : ∀ (T6 : State) (b37 : Int32) (hb37 : b37 = (if (p0 &&& (4 : Int32)) = (0 : Int32) then (0 : Int32) else (1 : Int32))), Stand p l e room_1 s m #[(.int p0), (.int p1), (.int p2), (.int p3), (.int p4)] below meth c T6 [] 0 0 → T6.heap = h0 → Go p.tables e below (Fin s (fun v h L => v = some (.int 1) ∧ Fr h0.size L) room_1.cells room_1.slots) T6 (mkF m 37 #[.val (.int p0), .val (.int p1), .val (.int p2), .val (.int p3), .val (.int p4), .val (.int b11), .val (.int b24), .unset, .unset, .unset, .unset, .unset, .unset, .unset, .unset, .unset, .unset, .unset] [(.int b37)]) := by
        intro T6 b37 hb37 X6 e6
        refine Go.st (T' := T6) (g' := (mkF m 39 #[.val (.int p0), .val (.int p1), .val (.int p2), .val (.int p3), .val (.int p4), .val (.int b11), .val (.int b24), .val (.int b37), .unset, .unset, .unset, .unset, .unset, .unset, .unset, .unset, .unset, .unset] [])) (fun _ hr => XS.istore X6.here hx rfl (hb hby at_37) rfl (l' := #[.val (.int p0), .val (.int p1), .val (.int p2), .val (.int p3), .val (.int p4), .val (.int b11), .val (.int b24), .val (.int b37), .unset, .unset, .unset, .unset, .unset, .unset, .unset, .unset, .unset, .unset]) rfl hr) ?_
        refine Go.st (T' := T6) (g' := (mkF m 40 #[.val (.int p0), .val (.int p1), .val (.int p2), .val (.int p3), .val (.int p4), .val (.int b11), .val (.int b24), .val (.int b37), .unset, .unset, .unset, .unset, .unset, .unset, .unset, .unset, .unset, .unset] [(.int p0)])) (fun _ hr => XS.iloadN X6.here hx rfl (hb hby at_39) rfl hr) ?_
        refine Go.st (T' := T6) (g' := (mkF m 42 #[.val (.int p0), .val (.int p1), .val (.int p2), .val (.int p3), .val (.int p4), .val (.int b11), .val (.int b24), .val (.int b37), .unset, .unset, .unset, .unset, .unset, .unset, .unset, .unset, .unset, .unset] [(.int (8 : Int32)), (.int p0)])) (fun _ hr => XT.bipushV X6.here hx rfl (8 : Int32) (hb hby at_40) (by decide) hr) ?_
        refine Go.st (T' := T6) (g' := (mkF m 43 #[.val (.int p0), .val (.int p1), .val (.int p2), .val (.int p3), .val (.int p4), .val (.int b11), .val (.int b24), .val (.int b37), .unset, .unset, .unset, .unset, .unset, .unset, .unset, .unset, .unset, .unset] [(.int (p0 &&& (8 : Int32)))])) (fun _ hr => XS.iand X6.here hx rfl (hb hby at_42) rfl hr) ?_
        have J51_7 : ∀ (T8 : State) (b51 : Int32) (hb51 : b51 = (if (p0 &&& (8 : Int32)) = (0 : Int32) then (0 : Int32) else (1 : Int32))), Stand p l e room_1 s m #[(.int p0), (.int p1), (.int p2), (.int p3), (.int p4)] below meth c T8 [] 0 0 → T8.heap = h0 → Go p.tables e below (Fin s (fun v h L => v = some (.int 1) ∧ Fr h0.size L) room_1.cells room_1.slots) T8 (mkF m 51 #[.val (.int p0), .val (.int p1), .val (.int p2), .val (.int p3), .val (.int p4), .val (.int b11), .val (.int b24), .val (.int b37), .unset, .unset, .unset, .unset, .unset, .unset, .unset, .unset, .unset, .unset] [(.int b51)]) := by
          intro T8 b51 hb51 X8 e8
          refine Go.st (T' := T8) (g' := (mkF m 53 #[.val (.int p0), .val (.int p1), .val (.int p2), .val (.int p3), .val (.int p4), .val (.int b11), .val (.int b24), .val (.int b37), .val (.int b51), .unset, .unset, .unset, .unset, .unset, .unset, .unset, .unset, .unset] [])) (fun _ hr => XS.istore X8.here hx rfl (hb hby at_51) rfl (l' := #[.val (.int p0), .val (.int p1), .val (.int p2), .val (.int p3), .val (.int p4), .val (.int b11), .val (.int b24), .val (.int b37), .val (.int b51), .unset, .unset, .unset, .unset, .unset, .unset, .unset, .unset, .unset]) rfl hr) ?_
          refine Go.st (T' := T8) (g' := (mkF m 54 #[.val (.int p0), .val (.int p1), .val (.int p2), .val (.int p3), .val (.int p4), .val (.int b11), .val (.int b24), .val (.int b37), .val (.int b51), .unset, .unset, .unset, .unset, .unset, .unset, .unset, .unset, .unset] [(.int p0)])) (fun _ hr => XS.iloadN X8.here hx rfl (hb hby at_53) rfl hr) ?_
          refine Go.st (T' := T8) (g' := (mkF m 56 #[.val (.int p0), .val (.int p1), .val (.int p2), .val (.int p3), .val (.int p4), .val (.int b11), .val (.int b24), .val (.int b37), .val (.int b51), .unset, .unset, .unset, .unset, .unset, .unset, .unset, .unset, .unset] [(.int (16 : Int32)), (.int p0)])) (fun _ hr => XT.bipushV X8.here hx rfl (16 : Int32) (hb hby at_54) (by decide) hr) ?_
          refine Go.st (T' := T8) (g' := (mkF m 57 #[.val (.int p0), .val (.int p1), .val (.int p2), .val (.int p3), .val (.int p4), .val (.int b11), .val (.int b24), .val (.int b37), .val (.int b51), .unset, .unset, .unset, .unset, .unset, .unset, .unset, .unset, .unset] [(.int (p0 &&& (16 : Int32)))])) (fun _ hr => XS.iand X8.here hx rfl (hb hby at_56) rfl hr) ?_
          have J65_9 : ∀ (T10 : State) (b65 : Int32) (hb65 : b65 = (if (p0 &&& (16 : Int32)) = (0 : Int32) then (0 : Int32) else (1 : Int32))), Stand p l e room_1 s m #[(.int p0), (.int p1), (.int p2), (.int p3), (.int p4)] below meth c T10 [] 0 0 → T10.heap = h0 → Go p.tables e below (Fin s (fun v h L => v = some (.int 1) ∧ Fr h0.size L) room_1.cells room_1.slots) T10 (mkF m 65 #[.val (.int p0), .val (.int p1), .val (.int p2), .val (.int p3), .val (.int p4), .val (.int b11), .val (.int b24), .val (.int b37), .val (.int b51), .unset, .unset, .unset, .unset, .unset, .unset, .unset, .unset, .unset] [(.int b65)]) := by
            intro T10 b65 hb65 X10 e10
            refine Go.st (T' := T10) (g' := (mkF m 67 #[.val (.int p0), .val (.int p1), .val (.int p2), .val (.int p3), .val (.int p4), .val (.int b11), .val (.int b24), .val (.int b37), .val (.int b51), .val (.int b65), .unset, .unset, .unset, .unset, .unset, .unset, .unset, .unset] [])) (fun _ hr => XS.istore X10.here hx rfl (hb hby at_65) rfl (l' := #[.val (.int p0), .val (.int p1), .val (.int p2), .val (.int p3), .val (.int p4), .val (.int b11), .val (.int b24), .val (.int b37), .val (.int b51), .val (.int b65), .unset, .unset, .unset, .unset, .unset, .unset, .unset, .unset]) rfl hr) ?_
            refine Go.st (T' := T10) (g' := (mkF m 68 #[.val (.int p0), .val (.int p1), .val (.int p2), .val (.int p3), .val (.int p4), .val (.int b11), .val (.int b24), .val (.int b37), .val (.int b51), .val (.int b65), .unset, .unset, .unset, .unset, .unset, .unset, .unset, .unset] [(.int p1)])) (fun _ hr => XS.iloadN X10.here hx rfl (hb hby at_67) rfl hr) ?_
            refine Go.st (T' := T10) (g' := (mkF m 71 #[.val (.int p0), .val (.int p1), .val (.int p2), .val (.int p3), .val (.int p4), .val (.int b11), .val (.int b24), .val (.int b37), .val (.int b51), .val (.int b65), .unset, .unset, .unset, .unset, .unset, .unset, .unset, .unset] [(.int (255 : Int32)), (.int p1)])) (fun _ hr => XT.sipushV X10.here hx rfl (255 : Int32) (hb hby at_68) (by decide) hr) ?_
            refine Go.st (T' := T10) (g' := (mkF m 72 #[.val (.int p0), .val (.int p1), .val (.int p2), .val (.int p3), .val (.int p4), .val (.int b11), .val (.int b24), .val (.int b37), .val (.int b51), .val (.int b65), .unset, .unset, .unset, .unset, .unset, .unset, .unset, .unset] [(.int (p1 &&& (255 : Int32)))])) (fun _ hr => XS.iand X10.here hx rfl (hb hby at_71) rfl hr) ?_
            refine Go.st (T' := T10) (g' := (mkF m 73 #[.val (.int p0), .val (.int p1), .val (.int p2), .val (.int p3), .val (.int p4), .val (.int b11), .val (.int b24), .val (.int b37), .val (.int b51), .val (.int b65), .unset, .unset, .unset, .unset, .unset, .unset, .unset, .unset] [(.int ((p1 &&& (255 : Int32))).toUInt32.toUInt16.toUInt32.toInt32)])) (fun _ hr => XT.i2c X10.here hx rfl (hb hby at_72) rfl hr) ?_
            refine Go.callS X10 hx hZ hown (W := 0) (hw _ (List.mem_of_getElem? (i := 0) rfl)) (hw _ (List.mem_of_getElem? (i := 1) rfl)) (hw _ (List.mem_of_getElem? (i := 2) rfl)) (hw _ (List.mem_of_getElem? (i := 3) rfl)) (by decide) e10 (rm1 l Z a0 hw (((p1 &&& (255 : Int32))).toUInt32.toUInt16.toUInt32.toInt32) w h0 (own_c255 _) hcs (S0.ext O0.2) h0.size (Nat.le_refl h0.size)) (by decide) (by decide) (by decide) (by decide) (g := (mkF m 73 #[.val (.int p0), .val (.int p1), .val (.int p2), .val (.int p3), .val (.int p4), .val (.int b11), .val (.int b24), .val (.int b37), .val (.int b51), .val (.int b65), .unset, .unset, .unset, .unset, .unset, .unset, .unset, .unset] [(.int ((p1 &&& (255 : Int32))).toUInt32.toUInt16.toUInt32.toInt32)])) rfl (by rw [hml]; rfl) (argsL := [(.int ((p1 &&& (255 : Int32))).toUInt32.toUInt16.toUInt32.toInt32)]) (rest := []) (lenOf pd_4 rfl) rfl (by show 2 * 0 + _ ≤ _; exact Nat.le_of_eq rfl) (hb hby at_73) (fun v11 T11 L11 X11 q11 => ?_)
            obtain ⟨h11, e11⟩ : ∃ z, T11.heap = z := ⟨_, rfl⟩
            rw [e11] at q11
            obtain ⟨a11, rfl, N11q, K11⟩ := q11
            have N11 := Fr.app (Fr.nil h0.size) N11q
            have fZ_q_11 : h0.size ≤ h11.size := (Nat.le_trans (Nat.le_refl h0.size) K11.1)
            have O0_q_11 : Old Z h0.size h11 := (O0.keep K11 all0)
            show Go p.tables e below (Fin s (fun v h L => v = some (.int 1) ∧ Fr h0.size L) room_1.cells room_1.slots) T11 (mkF m 76 #[.val (.int p0), .val (.int p1), .val (.int p2), .val (.int p3), .val (.int p4), .val (.int b11), .val (.int b24), .val (.int b37), .val (.int b51), .val (.int b65), .unset, .unset, .unset, .unset, .unset, .unset, .unset, .unset] [(.ref a11)])
            refine Go.st (T' := T11) (g' := (mkF m 78 #[.val (.int p0), .val (.int p1), .val (.int p2), .val (.int p3), .val (.int p4), .val (.int b11), .val (.int b24), .val (.int b37), .val (.int b51), .val (.int b65), .val (.ref a11), .unset, .unset, .unset, .unset, .unset, .unset, .unset] [])) (fun _ hr => XS.astore X11.here hx rfl (hb hby at_76) rfl rfl (l' := #[.val (.int p0), .val (.int p1), .val (.int p2), .val (.int p3), .val (.int p4), .val (.int b11), .val (.int b24), .val (.int b37), .val (.int b51), .val (.int b65), .val (.ref a11), .unset, .unset, .unset, .unset, .unset, .unset, .unset]) rfl hr) ?_
            refine Go.st (T' := T11) (g' := (mkF m 79 #[.val (.int p0), .val (.int p1), .val (.int p2), .val (.int p3), .val (.int p4), .val (.int b11), .val (.int b24), .val (.int b37), .val (.int b51), .val (.int b65), .val (.ref a11), .unset, .unset, .unset, .unset, .unset, .unset, .unset] [(.int p2)])) (fun _ hr => XS.iloadN X11.here hx rfl (hb hby at_78) rfl hr) ?_
            refine Go.st (T' := T11) (g' := (mkF m 82 #[.val (.int p0), .val (.int p1), .val (.int p2), .val (.int p3), .val (.int p4), .val (.int b11), .val (.int b24), .val (.int b37), .val (.int b51), .val (.int b65), .val (.ref a11), .unset, .unset, .unset, .unset, .unset, .unset, .unset] [(.int (255 : Int32)), (.int p2)])) (fun _ hr => XT.sipushV X11.here hx rfl (255 : Int32) (hb hby at_79) (by decide) hr) ?_
            refine Go.st (T' := T11) (g' := (mkF m 83 #[.val (.int p0), .val (.int p1), .val (.int p2), .val (.int p3), .val (.int p4), .val (.int b11), .val (.int b24), .val (.int b37), .val (.int b51), .val (.int b65), .val (.ref a11), .unset, .unset, .unset, .unset, .unset, .unset, .unset] [(.int (p2 &&& (255 : Int32)))])) (fun _ hr => XS.iand X11.here hx rfl (hb hby at_82) rfl hr) ?_
            refine Go.st (T' := T11) (g' := (mkF m 84 #[.val (.int p0), .val (.int p1), .val (.int p2), .val (.int p3), .val (.int p4), .val (.int b11), .val (.int b24), .val (.int b37), .val (.int b51), .val (.int b65), .val (.ref a11), .unset, .unset, .unset, .unset, .unset, .unset, .unset] [(.int ((p2 &&& (255 : Int32))).toUInt32.toUInt16.toUInt32.toInt32)])) (fun _ hr => XT.i2c X11.here hx rfl (hb hby at_83) rfl hr) ?_
            refine Go.callS X11 hx hZ hown (W := 0) (hw _ (List.mem_of_getElem? (i := 0) rfl)) (hw _ (List.mem_of_getElem? (i := 1) rfl)) (hw _ (List.mem_of_getElem? (i := 2) rfl)) (hw _ (List.mem_of_getElem? (i := 3) rfl)) (by decide) e11 (rm1 l Z a0 hw (((p2 &&& (255 : Int32))).toUInt32.toUInt16.toUInt32.toInt32) w h11 (own_c255 _) hcs (S0.ext O0_q_11.2) h0.size fZ_q_11) (by decide) (by decide) (by decide) (by decide) (g := (mkF m 84 #[.val (.int p0), .val (.int p1), .val (.int p2), .val (.int p3), .val (.int p4), .val (.int b11), .val (.int b24), .val (.int b37), .val (.int b51), .val (.int b65), .val (.ref a11), .unset, .unset, .unset, .unset, .unset, .unset, .unset] [(.int ((p2 &&& (255 : Int32))).toUInt32.toUInt16.toUInt32.toInt32)])) rfl (by rw [hml]; rfl) (argsL := [(.int ((p2 &&& (255 : Int32))).toUInt32.toUInt16.toUInt32.toInt32)]) (rest := []) (lenOf pd_4 rfl) rfl (by show 2 * 0 + _ ≤ _; exact Nat.le_of_eq rfl) (hb hby at_84) (fun v12 T12 L12 X12 q12 => ?_)
            obtain ⟨h12, e12⟩ : ∃ z, T12.heap = z := ⟨_, rfl⟩
            rw [e12] at q12
            obtain ⟨a12, rfl, N12q, K12⟩ := q12
            have N12 := Fr.app N11 N12q
            have fZ_q_12 : h0.size ≤ h12.size := (Nat.le_trans fZ_q_11 K12.1)
            have O0_q_12 : Old Z h0.size h12 := (O0_q_11.keep K12 all0)
            show Go p.tables e below (Fin s (fun v h L => v = some (.int 1) ∧ Fr h0.size L) room_1.cells room_1.slots) T12 (mkF m 87 #[.val (.int p0), .val (.int p1), .val (.int p2), .val (.int p3), .val (.int p4), .val (.int b11), .val (.int b24), .val (.int b37), .val (.int b51), .val (.int b65), .val (.ref a11), .unset, .unset, .unset, .unset, .unset, .unset, .unset] [(.ref a12)])
            refine Go.st (T' := T12) (g' := (mkF m 89 #[.val (.int p0), .val (.int p1), .val (.int p2), .val (.int p3), .val (.int p4), .val (.int b11), .val (.int b24), .val (.int b37), .val (.int b51), .val (.int b65), .val (.ref a11), .val (.ref a12), .unset, .unset, .unset, .unset, .unset, .unset] [])) (fun _ hr => XS.astore X12.here hx rfl (hb hby at_87) rfl rfl (l' := #[.val (.int p0), .val (.int p1), .val (.int p2), .val (.int p3), .val (.int p4), .val (.int b11), .val (.int b24), .val (.int b37), .val (.int b51), .val (.int b65), .val (.ref a11), .val (.ref a12), .unset, .unset, .unset, .unset, .unset, .unset]) rfl hr) ?_
            refine Go.st (T' := T12) (g' := (mkF m 90 #[.val (.int p0), .val (.int p1), .val (.int p2), .val (.int p3), .val (.int p4), .val (.int b11), .val (.int b24), .val (.int b37), .val (.int b51), .val (.int b65), .val (.ref a11), .val (.ref a12), .unset, .unset, .unset, .unset, .unset, .unset] [(.int p3)])) (fun _ hr => XS.iloadN X12.here hx rfl (hb hby at_89) rfl hr) ?_
            refine Go.st (T' := T12) (g' := (mkF m 93 #[.val (.int p0), .val (.int p1), .val (.int p2), .val (.int p3), .val (.int p4), .val (.int b11), .val (.int b24), .val (.int b37), .val (.int b51), .val (.int b65), .val (.ref a11), .val (.ref a12), .unset, .unset, .unset, .unset, .unset, .unset] [(.int (255 : Int32)), (.int p3)])) (fun _ hr => XT.sipushV X12.here hx rfl (255 : Int32) (hb hby at_90) (by decide) hr) ?_
            refine Go.st (T' := T12) (g' := (mkF m 94 #[.val (.int p0), .val (.int p1), .val (.int p2), .val (.int p3), .val (.int p4), .val (.int b11), .val (.int b24), .val (.int b37), .val (.int b51), .val (.int b65), .val (.ref a11), .val (.ref a12), .unset, .unset, .unset, .unset, .unset, .unset] [(.int (p3 &&& (255 : Int32)))])) (fun _ hr => XS.iand X12.here hx rfl (hb hby at_93) rfl hr) ?_
            refine Go.st (T' := T12) (g' := (mkF m 95 #[.val (.int p0), .val (.int p1), .val (.int p2), .val (.int p3), .val (.int p4), .val (.int b11), .val (.int b24), .val (.int b37), .val (.int b51), .val (.int b65), .val (.ref a11), .val (.ref a12), .unset, .unset, .unset, .unset, .unset, .unset] [(.int ((p3 &&& (255 : Int32))).toUInt32.toUInt16.toUInt32.toInt32)])) (fun _ hr => XT.i2c X12.here hx rfl (hb hby at_94) rfl hr) ?_
            refine Go.callS X12 hx hZ hown (W := 0) (hw _ (List.mem_of_getElem? (i := 0) rfl)) (hw _ (List.mem_of_getElem? (i := 1) rfl)) (hw _ (List.mem_of_getElem? (i := 2) rfl)) (hw _ (List.mem_of_getElem? (i := 3) rfl)) (by decide) e12 (rm1 l Z a0 hw (((p3 &&& (255 : Int32))).toUInt32.toUInt16.toUInt32.toInt32) w h12 (own_c255 _) hcs (S0.ext O0_q_12.2) h0.size fZ_q_12) (by decide) (by decide) (by decide) (by decide) (g := (mkF m 95 #[.val (.int p0), .val (.int p1), .val (.int p2), .val (.int p3), .val (.int p4), .val (.int b11), .val (.int b24), .val (.int b37), .val (.int b51), .val (.int b65), .val (.ref a11), .val (.ref a12), .unset, .unset, .unset, .unset, .unset, .unset] [(.int ((p3 &&& (255 : Int32))).toUInt32.toUInt16.toUInt32.toInt32)])) rfl (by rw [hml]; rfl) (argsL := [(.int ((p3 &&& (255 : Int32))).toUInt32.toUInt16.toUInt32.toInt32)]) (rest := []) (lenOf pd_4 rfl) rfl (by show 2 * 0 + _ ≤ _; exact Nat.le_of_eq rfl) (hb hby at_95) (fun v13 T13 L13 X13 q13 => ?_)
            obtain ⟨h13, e13⟩ : ∃ z, T13.heap = z := ⟨_, rfl⟩
            rw [e13] at q13
            obtain ⟨a13, rfl, N13q, K13⟩ := q13
            have N13 := Fr.app N12 N13q
            have fZ_q_13 : h0.size ≤ h13.size := (Nat.le_trans fZ_q_12 K13.1)
            have O0_q_13 : Old Z h0.size h13 := (O0_q_12.keep K13 all0)
            show Go p.tables e below (Fin s (fun v h L => v = some (.int 1) ∧ Fr h0.size L) room_1.cells room_1.slots) T13 (mkF m 98 #[.val (.int p0), .val (.int p1), .val (.int p2), .val (.int p3), .val (.int p4), .val (.int b11), .val (.int b24), .val (.int b37), .val (.int b51), .val (.int b65), .val (.ref a11), .val (.ref a12), .unset, .unset, .unset, .unset, .unset, .unset] [(.ref a13)])
            refine Go.st (T' := T13) (g' := (mkF m 100 #[.val (.int p0), .val (.int p1), .val (.int p2), .val (.int p3), .val (.int p4), .val (.int b11), .val (.int b24), .val (.int b37), .val (.int b51), .val (.int b65), .val (.ref a11), .val (.ref a12), .val (.ref a13), .unset, .unset, .unset, .unset, .unset] [])) (fun _ hr => XS.astore X13.here hx rfl (hb hby at_98) rfl rfl (l' := #[.val (.int p0), .val (.int p1), .val (.int p2), .val (.int p3), .val (.int p4), .val (.int b11), .val (.int b24), .val (.int b37), .val (.int b51), .val (.int b65), .val (.ref a11), .val (.ref a12), .val (.ref a13), .unset, .unset, .unset, .unset, .unset]) rfl hr) ?_
            refine Go.st (T' := T13) (g' := (mkF m 101 #[.val (.int p0), .val (.int p1), .val (.int p2), .val (.int p3), .val (.int p4), .val (.int b11), .val (.int b24), .val (.int b37), .val (.int b51), .val (.int b65), .val (.ref a11), .val (.ref a12), .val (.ref a13), .unset, .unset, .unset, .unset, .unset] [.null])) (fun _ hr => XS.aconstNull X13.here hx rfl (hb hby at_100) hr) ?_
            refine Go.st (T' := T13) (g' := (mkF m 103 #[.val (.int p0), .val (.int p1), .val (.int p2), .val (.int p3), .val (.int p4), .val (.int b11), .val (.int b24), .val (.int b37), .val (.int b51), .val (.int b65), .val (.ref a11), .val (.ref a12), .val (.ref a13), .val .null, .unset, .unset, .unset, .unset] [])) (fun _ hr => XS.astore X13.here hx rfl (hb hby at_101) rfl rfl (l' := #[.val (.int p0), .val (.int p1), .val (.int p2), .val (.int p3), .val (.int p4), .val (.int b11), .val (.int b24), .val (.int b37), .val (.int b51), .val (.int b65), .val (.ref a11), .val (.ref a12), .val (.ref a13), .val .null, .unset, .unset, .unset, .unset]) rfl hr) ?_
            refine Go.st (T' := T13) (g' := (mkF m 105 #[.val (.int p0), .val (.int p1), .val (.int p2), .val (.int p3), .val (.int p4), .val (.int b11), .val (.int b24), .val (.int b37), .val (.int b51), .val (.int b65), .val (.ref a11), .val (.ref a12), .val (.ref a13), .val .null, .unset, .unset, .unset, .unset] [(.int b65)])) (fun _ hr => XS.iload X13.here hx rfl (hb hby at_103) rfl hr) ?_
            have J121_14 : ∀ (T14 : State) (h14 : Heap) (L14 : List Loc) (v121 : Value) (r_v121 : v121.isRef = true), Stand p l e room_1 s m #[(.int p0), (.int p1), (.int p2), (.int p3), (.int p4)] below meth c T14 L14 7 17 → T14.heap = h14 → Fr h0.size L14 → h0.size ≤ h14.size → Old Z h0.size h14 → Go p.tables e below (Fin s (fun v h L => v = some (.int 1) ∧ Fr h0.size L) room_1.cells room_1.slots) T14 (mkF m 121 #[.val (.int p0), .val (.int p1), .val (.int p2), .val (.int p3), .val (.int p4), .val (.int b11), .val (.int b24), .val (.int b37), .val (.int b51), .val (.int b65), .val (.ref a11), .val (.ref a12), .val (.ref a13), .val v121, .unset, .unset, .unset, .unset] []) := by
              intro T14 h14 L14 v121 r_v121 X14 e14 N14 fZ_q_14 O0_q_14
              obtain ⟨T15, h15, X15, e15, E15, A15, D15, -, st15⟩ := newO X14 hx hZ hown (hw _ (List.mem_of_getElem? (i := 26) rfl)) (hw _ (List.mem_of_getElem? (i := 27) rfl)) (hw _ (List.mem_of_getElem? (i := 28) rfl)) e14 (g := (mkF m 121 #[.val (.int p0), .val (.int p1), .val (.int p2), .val (.int p3), .val (.int p4), .val (.int b11), .val (.int b24), .val (.int b37), .val (.int b51), .val (.int b65), .val (.ref a11), .val (.ref a12), .val (.ref a13), .val v121, .unset, .unset, .unset, .unset] [])) rfl (hb hby at_121) (by decide) (by decide)
              obtain ⟨a15, g15⟩ : ∃ z, z = h14.size := ⟨_, rfl⟩
              rw [← g15] at A15 D15 st15
              have n_a15 : h0.size ≤ a15 := Nat.le_trans fZ_q_14 (Nat.le_of_eq g15.symm)
              have fZ_q_15 : h0.size ≤ h15.size := (Nat.le_trans fZ_q_14 E15.1)
              have O0_q_15 : Old Z h0.size h15 := (O0_q_14.ext E15)
              have F15_qualifier : Fld Z h15 a15 "com/example/item_type_store/itemtypestore/model/Relation$Element" "qualifier" "Ljava/lang/String;" .null := D15 (Or.inr (hw _ (List.mem_of_getElem? (i := 39) rfl))) (ty := (.object "java/lang/String")) (by decide)
              have F15_typeCode : Fld Z h15 a15 "com/example/item_type_store/itemtypestore/model/Relation$Element" "typeCode" "Ljava/lang/String;" .null := D15 (Or.inr (hw _ (List.mem_of_getElem? (i := 41) rfl))) (ty := (.object "java/lang/String")) (by decide)
              have F15_many : Fld Z h15 a15 "com/example/item_type_store/itemtypestore/model/Relation$Element" "many" "Z" (.int (0 : Int32)) := D15 (Or.inr (hw _ (List.mem_of_getElem? (i := 43) rfl))) (ty := .boolean) (by decide)
              have F15_ordered : Fld Z h15 a15 "com/example/item_type_store/itemtypestore/model/Relation$Element" "ordered" "Z" (.int (0 : Int32)) := D15 (Or.inr (hw _ (List.mem_of_getElem? (i := 45) rfl))) (ty := .boolean) (by decide)
              refine Go.st (T' := T15) (g' := (mkF m 124 #[.val (.int p0), .val (.int p1), .val (.int p2), .val (.int p3), .val (.int p4), .val (.int b11), .val (.int b24), .val (.int b37), .val (.int b51), .val (.int b65), .val (.ref a11), .val (.ref a12), .val (.ref a13), .val v121, .unset, .unset, .unset, .unset] [(.ref a15)])) st15 ?_
              refine Go.st (T' := T15) (g' := (mkF m 125 #[.val (.int p0), .val (.int p1), .val (.int p2), .val (.int p3), .val (.int p4), .val (.int b11), .val (.int b24), .val (.int b37), .val (.int b51), .val (.int b65), .val (.ref a11), .val (.ref a12), .val (.ref a13), .val v121, .unset, .unset, .unset, .unset] [(.ref a15), (.ref a15)])) (fun _ hr => XS.dup X15.here hx rfl (hb hby at_124) rfl rfl hr) ?_
              refine Go.st (T' := T15) (g' := (mkF m 127 #[.val (.int p0), .val (.int p1), .val (.int p2), .val (.int p3), .val (.int p4), .val (.int b11), .val (.int b24), .val (.int b37), .val (.int b51), .val (.int b65), .val (.ref a11), .val (.ref a12), .val (.ref a13), .val v121, .unset, .unset, .unset, .unset] [(.ref a11), (.ref a15), (.ref a15)])) (fun _ hr => XS.aload X15.here hx rfl (hb hby at_125) rfl rfl hr) ?_
              refine Go.st (T' := T15) (g' := (mkF m 129 #[.val (.int p0), .val (.int p1), .val (.int p2), .val (.int p3), .val (.int p4), .val (.int b11), .val (.int b24), .val (.int b37), .val (.int b51), .val (.int b65), .val (.ref a11), .val (.ref a12), .val (.ref a13), .val v121, .unset, .unset, .unset, .unset] [(.ref a12), (.ref a11), (.ref a15), (.ref a15)])) (fun _ hr => XS.aload X15.here hx rfl (hb hby at_127) rfl rfl hr) ?_
              refine Go.st (T' := T15) (g' := (mkF m 131 #[.val (.int p0), .val (.int p1), .val (.int p2), .val (.int p3), .val (.int p4), .val (.int b11), .val (.int b24), .val (.int b37), .val (.int b51), .val (.int b65), .val (.ref a11), .val (.ref a12), .val (.ref a13), .val v121, .unset, .unset, .unset, .unset] [(.int b11), (.ref a12), (.ref a11), (.ref a15), (.ref a15)])) (fun _ hr => XS.iload X15.here hx rfl (hb hby at_129) rfl hr) ?_
              refine Go.st (T' := T15) (g' := (mkF m 133 #[.val (.int p0), .val (.int p1), .val (.int p2), .val (.int p3), .val (.int p4), .val (.int b11), .val (.int b24), .val (.int b37), .val (.int b51), .val (.int b65), .val (.ref a11), .val (.ref a12), .val (.ref a13), .val v121, .unset, .unset, .unset, .unset] [(.int b24), (.int b11), (.ref a12), (.ref a11), (.ref a15), (.ref a15)])) (fun _ hr => XS.iload X15.here hx rfl (hb hby at_131) rfl hr) ?_
              refine Go.callC X15 hx hZ hown (W := 1) (y := (⟨"com/example/item_type_store/itemtypestore/model/Relation$Element", "<init>", "(Ljava/lang/String;Ljava/lang/String;ZZ)V"⟩ : MethodName)) rfl (hw _ (List.mem_of_getElem? (i := 29) rfl)) (hw _ (List.mem_of_getElem? (i := 30) rfl)) (hw _ (List.mem_of_getElem? (i := 28) rfl)) (hw _ (List.mem_of_getElem? (i := 31) rfl)) (by decide) e15 (rm6 l Z a0 hw a15 (.ref a11) (.ref a12) b11 b24  rfl rfl h15 h0.size n_a15 A15 F15_qualifier F15_typeCode F15_many F15_ordered) (by decide) (by decide) (by decide) (by decide) (g := (mkF m 133 #[.val (.int p0), .val (.int p1), .val (.int p2), .val (.int p3), .val (.int p4), .val (.int b11), .val (.int b24), .val (.int b37), .val (.int b51), .val (.int b65), .val (.ref a11), .val (.ref a12), .val (.ref a13), .val v121, .unset, .unset, .unset, .unset] [(.int b24), (.int b11), (.ref a12), (.ref a11), (.ref a15), (.ref a15)])) rfl (by rw [hml]; rfl) (argsL := [(.ref a11), (.ref a12), (.int b11), (.int b24)]) (rest := [(.ref a15)]) (lenOf pd_5 rfl) rfl (by show 2 * 0 + _ ≤ _; exact Nat.le_of_eq rfl) (hb hby at_133) (fun v16 T16 L16 X16 q16 => ?_)
              obtain ⟨h16, e16⟩ : ∃ z, T16.heap = z := ⟨_, rfl⟩
              rw [e16] at q16
              obtain ⟨rfl, N16q, K16, G16_qualifier, G16_typeCode, G16_many, G16_ordered⟩ := q16
              have N16 := Fr.app N14 N16q
              have fZ_q_16 : h0.size ≤ h16.size := (Nat.le_trans fZ_q_15 K16.1)
              have O0_q_16 : Old Z h0.size h16 := (O0_q_15.keep K16 (allS n_a15 all0))
              have A15_q_16 : Exa Z h16 a15 "com/example/item_type_store/itemtypestore/model/Relation$Element" := (A15.keep K16)
              show Go p.tables e below (Fin s (fun v h L => v = some (.int 1) ∧ Fr h0.size L) room_1.cells room_1.slots) T16 (mkF m 136 #[.val (.int p0), .val (.int p1), .val (.int p2), .val (.int p3), .val (.int p4), .val (.int b11), .val (.int b24), .val (.int b37), .val (.int b51), .val (.int b65), .val (.ref a11), .val (.ref a12), .val (.ref a13), .val v121, .unset, .unset, .unset, .unset] [(.ref a15)])
              refine Go.st (T' := T16) (g' := (mkF m 138 #[.val (.int p0), .val (.int p1), .val (.int p2), .val (.int p3), .val (.int p4), .val (.int b11), .val (.int b24), .val (.int b37), .val (.int b51), .val (.int b65), .val (.ref a11), .val (.ref a12), .val (.ref a13), .val v121, .val (.ref a15), .unset, .unset, .unset] [])) (fun _ hr => XS.astore X16.here hx rfl (hb hby at_136) rfl rfl (l' := #[.val (.int p0), .val (.int p1), .val (.int p2), .val (.int p3), .val (.int p4), .val (.int b11), .val (.int b24), .val (.int b37), .val (.int b51), .val (.int b65), .val (.ref a11), .val (.ref a12), .val (.ref a13), .val v121, .val (.ref a15), .unset, .unset, .unset]) rfl hr) ?_
              obtain ⟨T17, h17, X17, e17, E17, A17, D17, -, st17⟩ := newO X16 hx hZ hown (hw _ (List.mem_of_getElem? (i := 26) rfl)) (hw _ (List.mem_of_getElem? (i := 27) rfl)) (hw _ (List.mem_of_getElem? (i := 28) rfl)) e16 (g := (mkF m 138 #[.val (.int p0), .val (.int p1), .val (.int p2), .val (.int p3), .val (.int p4), .val (.int b11), .val (.int b24), .val (.int b37), .val (.int b51), .val (.int b65), .val (.ref a11), .val (.ref a12), .val (.ref a13), .val v121, .val (.ref a15), .unset, .unset, .unset] [])) rfl (hb hby at_138) (by decide) (by decide)
              obtain ⟨a17, g17⟩ : ∃ z, z = h16.size := ⟨_, rfl⟩
              rw [← g17] at A17 D17 st17
              have n_a17 : h0.size ≤ a17 := Nat.le_trans fZ_q_16 (Nat.le_of_eq g17.symm)
              have ne_a15_a17 : a15 ≠ a17 := Nat.ne_of_lt (Nat.lt_of_lt_of_eq A15_q_16.lt g17.symm)
              have fZ_q_17 : h0.size ≤ h17.size := (Nat.le_trans fZ_q_16 E17.1)
              have O0_q_17 : Old Z h0.size h17 := (O0_q_16.ext E17)
              have A15_q_17 : Exa Z h17 a15 "com/example/item_type_store/itemtypestore/model/Relation$Element" := (A15_q_16.ext E17)
              have G16_q_17 : Fld Z h17 a15 "com/example/item_type_store/itemtypestore/model/Relation$Element" "qualifier" "Ljava/lang/String;" (.ref a11) := (G16_qualifier.ext E17)
              have G16_typeCode_q_17 : Fld Z h17 a15 "com/example/item_type_store/itemtypestore/model/Relation$Element" "typeCode" "Ljava/lang/String;" (.ref a12) := (G16_typeCode.ext E17)
              have G16_many_q_17 : Fld Z h17 a15 "com/example/item_type_store/itemtypestore/model/Relation$Element" "many" "Z" (.int (nar .boolean b11)) := (G16_many.ext E17)
              have G16_ordered_q_17 : Fld Z h17 a15 "com/example/item_type_store/itemtypestore/model/Relation$Element" "ordered" "Z" (.int (nar .boolean (if b11 = (0 : Int32) then (0 : Int32) else (if b24 = (0 : Int32) then (0 : Int32) else (1 : Int32))))) := (G16_ordered.ext E17)
              have F17_qualifier : Fld Z h17 a17 "com/example/item_type_store/itemtypestore/model/Relation$Element" "qualifier" "Ljava/lang/String;" .null := D17 (Or.inr (hw _ (List.mem_of_getElem? (i := 39) rfl))) (ty := (.object "java/lang/String")) (by decide)
              have F17_typeCode : Fld Z h17 a17 "com/example/item_type_store/itemtypestore/model/Relation$Element" "typeCode" "Ljava/lang/String;" .null := D17 (Or.inr (hw _ (List.mem_of_getElem? (i := 41) rfl))) (ty := (.object "java/lang/String")) (by decide)
              have F17_many : Fld Z h17 a17 "com/example/item_type_store/itemtypestore/model/Relation$Element" "many" "Z" (.int (0 : Int32)) := D17 (Or.inr (hw _ (List.mem_of_getElem? (i := 43) rfl))) (ty := .boolean) (by decide)
              have F17_ordered : Fld Z h17 a17 "com/example/item_type_store/itemtypestore/model/Relation$Element" "ordered" "Z" (.int (0 : Int32)) := D17 (Or.inr (hw _ (List.mem_of_getElem? (i := 45) rfl))) (ty := .boolean) (by decide)
              refine Go.st (T' := T17) (g' := (mkF m 141 #[.val (.int p0), .val (.int p1), .val (.int p2), .val (.int p3), .val (.int p4), .val (.int b11), .val (.int b24), .val (.int b37), .val (.int b51), .val (.int b65), .val (.ref a11), .val (.ref a12), .val (.ref a13), .val v121, .val (.ref a15), .unset, .unset, .unset] [(.ref a17)])) st17 ?_
              refine Go.st (T' := T17) (g' := (mkF m 142 #[.val (.int p0), .val (.int p1), .val (.int p2), .val (.int p3), .val (.int p4), .val (.int b11), .val (.int b24), .val (.int b37), .val (.int b51), .val (.int b65), .val (.ref a11), .val (.ref a12), .val (.ref a13), .val v121, .val (.ref a15), .unset, .unset, .unset] [(.ref a17), (.ref a17)])) (fun _ hr => XS.dup X17.here hx rfl (hb hby at_141) rfl rfl hr) ?_
              refine Go.st (T' := T17) (g' := (mkF m 144 #[.val (.int p0), .val (.int p1), .val (.int p2), .val (.int p3), .val (.int p4), .val (.int b11), .val (.int b24), .val (.int b37), .val (.int b51), .val (.int b65), .val (.ref a11), .val (.ref a12), .val (.ref a13), .val v121, .val (.ref a15), .unset, .unset, .unset] [(.ref a12), (.ref a17), (.ref a17)])) (fun _ hr => XS.aload X17.here hx rfl (hb hby at_142) rfl rfl hr) ?_
              refine Go.st (T' := T17) (g' := (mkF m 146 #[.val (.int p0), .val (.int p1), .val (.int p2), .val (.int p3), .val (.int p4), .val (.int b11), .val (.int b24), .val (.int b37), .val (.int b51), .val (.int b65), .val (.ref a11), .val (.ref a12), .val (.ref a13), .val v121, .val (.ref a15), .unset, .unset, .unset] [(.ref a13), (.ref a12), (.ref a17), (.ref a17)])) (fun _ hr => XS.aload X17.here hx rfl (hb hby at_144) rfl rfl hr) ?_
              refine Go.st (T' := T17) (g' := (mkF m 148 #[.val (.int p0), .val (.int p1), .val (.int p2), .val (.int p3), .val (.int p4), .val (.int b11), .val (.int b24), .val (.int b37), .val (.int b51), .val (.int b65), .val (.ref a11), .val (.ref a12), .val (.ref a13), .val v121, .val (.ref a15), .unset, .unset, .unset] [(.int b37), (.ref a13), (.ref a12), (.ref a17), (.ref a17)])) (fun _ hr => XS.iload X17.here hx rfl (hb hby at_146) rfl hr) ?_
              refine Go.st (T' := T17) (g' := (mkF m 150 #[.val (.int p0), .val (.int p1), .val (.int p2), .val (.int p3), .val (.int p4), .val (.int b11), .val (.int b24), .val (.int b37), .val (.int b51), .val (.int b65), .val (.ref a11), .val (.ref a12), .val (.ref a13), .val v121, .val (.ref a15), .unset, .unset, .unset] [(.int b51), (.int b37), (.ref a13), (.ref a12), (.ref a17), (.ref a17)])) (fun _ hr => XS.iload X17.here hx rfl (hb hby at_148) rfl hr) ?_
              refine Go.callC X17 hx hZ hown (W := 1) (y := (⟨"com/example/item_type_store/itemtypestore/model/Relation$Element", "<init>", "(Ljava/lang/String;Ljava/lang/String;ZZ)V"⟩ : MethodName)) rfl (hw _ (List.mem_of_getElem? (i := 29) rfl)) (hw _ (List.mem_of_getElem? (i := 30) rfl)) (hw _ (List.mem_of_getElem? (i := 28) rfl)) (hw _ (List.mem_of_getElem? (i := 31) rfl)) (by decide) e17 (rm6 l Z a0 hw a17 (.ref a12) (.ref a13) b37 b51  rfl rfl h17 h0.size n_a17 A17 F17_qualifier F17_typeCode F17_many F17_ordered) (by decide) (by decide) (by decide) (by decide) (g := (mkF m 150 #[.val (.int p0), .val (.int p1), .val (.int p2), .val (.int p3), .val (.int p4), .val (.int b11), .val (.int b24), .val (.int b37), .val (.int b51), .val (.int b65), .val (.ref a11), .val (.ref a12), .val (.ref a13), .val v121, .val (.ref a15), .unset, .unset, .unset] [(.int b51), (.int b37), (.ref a13), (.ref a12), (.ref a17), (.ref a17)])) rfl (by rw [hml]; rfl) (argsL := [(.ref a12), (.ref a13), (.int b37), (.int b51)]) (rest := [(.ref a17)]) (lenOf pd_5 rfl) rfl (by show 2 * 0 + _ ≤ _; exact Nat.le_of_eq rfl) (hb hby at_150) (fun v18 T18 L18 X18 q18 => ?_)
              obtain ⟨h18, e18⟩ : ∃ z, T18.heap = z := ⟨_, rfl⟩
              rw [e18] at q18
              obtain ⟨rfl, N18q, K18, G18_qualifier, G18_typeCode, G18_many, G18_ordered⟩ := q18
              have N18 := Fr.app N16 N18q
              have fZ_q_18 : h0.size ≤ h18.size := (Nat.le_trans fZ_q_17 K18.1)
              have O0_q_18 : Old Z h0.size h18 := (O0_q_17.keep K18 (allS n_a17 all0))
              have A15_q_18 : Exa Z h18 a15 "com/example/item_type_store/itemtypestore/model/Relation$Element" := (A15_q_17.keep K18)
              have G16_q_18 : Fld Z h18 a15 "com/example/item_type_store/itemtypestore/model/Relation$Element" "qualifier" "Ljava/lang/String;" (.ref a11) := (G16_q_17.keep K18 (ninS ne_a15_a17 nin0))
              have G16_typeCode_q_18 : Fld Z h18 a15 "com/example/item_type_store/itemtypestore/model/Relation$Element" "typeCode" "Ljava/lang/String;" (.ref a12) := (G16_typeCode_q_17.keep K18 (ninS ne_a15_a17 nin0))
              have G16_many_q_18 : Fld Z h18 a15 "com/example/item_type_store/itemtypestore/model/Relation$Element" "many" "Z" (.int (nar .boolean b11)) := (G16_many_q_17.keep K18 (ninS ne_a15_a17 nin0))
              have G16_ordered_q_18 : Fld Z h18 a15 "com/example/item_type_store/itemtypestore/model/Relation$Element" "ordered" "Z" (.int (nar .boolean (if b11 = (0 : Int32) then (0 : Int32) else (if b24 = (0 : Int32) then (0 : Int32) else (1 : Int32))))) := (G16_ordered_q_17.keep K18 (ninS ne_a15_a17 nin0))
              have A17_q_18 : Exa Z h18 a17 "com/example/item_type_store/itemtypestore/model/Relation$Element" := (A17.keep K18)
              show Go p.tables e below (Fin s (fun v h L => v = some (.int 1) ∧ Fr h0.size L) room_1.cells room_1.slots) T18 (mkF m 153 #[.val (.int p0), .val (.int p1), .val (.int p2), .val (.int p3), .val (.int p4), .val (.int b11), .val (.int b24), .val (.int b37), .val (.int b51), .val (.int b65), .val (.ref a11), .val (.ref a12), .val (.ref a13), .val v121, .val (.ref a15), .unset, .unset, .unset] [(.ref a17)])
              refine Go.st (T' := T18) (g' := (mkF m 155 #[.val (.int p0), .val (.int p1), .val (.int p2), .val (.int p3), .val (.int p4), .val (.int b11), .val (.int b24), .val (.int b37), .val (.int b51), .val (.int b65), .val (.ref a11), .val (.ref a12), .val (.ref a13), .val v121, .val (.ref a15), .val (.ref a17), .unset, .unset] [])) (fun _ hr => XS.astore X18.here hx rfl (hb hby at_153) rfl rfl (l' := #[.val (.int p0), .val (.int p1), .val (.int p2), .val (.int p3), .val (.int p4), .val (.int b11), .val (.int b24), .val (.int b37), .val (.int b51), .val (.int b65), .val (.ref a11), .val (.ref a12), .val (.ref a13), .val v121, .val (.ref a15), .val (.ref a17), .unset, .unset]) rfl hr) ?_
              obtain ⟨T19, h19, X19, e19, E19, A19, D19, -, st19⟩ := newO X18 hx hZ hown (hw _ (List.mem_of_getElem? (i := 46) rfl)) (hw _ (List.mem_of_getElem? (i := 47) rfl)) (hw _ (List.mem_of_getElem? (i := 48) rfl)) e18 (g := (mkF m 155 #[.val (.int p0), .val (.int p1), .val (.int p2), .val (.int p3), .val (.int p4), .val (.int b11), .val (.int b24), .val (.int b37), .val (.int b51), .val (.int b65), .val (.ref a11), .val (.ref a12), .val (.ref a13), .val v121, .val (.ref a15), .val (.ref a17), .unset, .unset] [])) rfl (hb hby at_155) (by decide) (by decide)
              obtain ⟨a19, g19⟩ : ∃ z, z = h18.size := ⟨_, rfl⟩
              rw [← g19] at A19 D19 st19
              have n_a19 : h0.size ≤ a19 := Nat.le_trans fZ_q_18 (Nat.le_of_eq g19.symm)
              have ne_a15_a19 : a15 ≠ a19 := Nat.ne_of_lt (Nat.lt_of_lt_of_eq A15_q_18.lt g19.symm)
              have ne_a17_a19 : a17 ≠ a19 := Nat.ne_of_lt (Nat.lt_of_lt_of_eq A17_q_18.lt g19.symm)
              have fZ_q_19 : h0.size ≤ h19.size := (Nat.le_trans fZ_q_18 E19.1)
              have O0_q_19 : Old Z h0.size h19 := (O0_q_18.ext E19)
              have A15_q_19 : Exa Z h19 a15 "com/example/item_type_store/itemtypestore/model/Relation$Element" := (A15_q_18.ext E19)
              have G16_q_19 : Fld Z h19 a15 "com/example/item_type_store/itemtypestore/model/Relation$Element" "qualifier" "Ljava/lang/String;" (.ref a11) := (G16_q_18.ext E19)
              have G16_typeCode_q_19 : Fld Z h19 a15 "com/example/item_type_store/itemtypestore/model/Relation$Element" "typeCode" "Ljava/lang/String;" (.ref a12) := (G16_typeCode_q_18.ext E19)
              have G16_many_q_19 : Fld Z h19 a15 "com/example/item_type_store/itemtypestore/model/Relation$Element" "many" "Z" (.int (nar .boolean b11)) := (G16_many_q_18.ext E19)
              have G16_ordered_q_19 : Fld Z h19 a15 "com/example/item_type_store/itemtypestore/model/Relation$Element" "ordered" "Z" (.int (nar .boolean (if b11 = (0 : Int32) then (0 : Int32) else (if b24 = (0 : Int32) then (0 : Int32) else (1 : Int32))))) := (G16_ordered_q_18.ext E19)
              have A17_q_19 : Exa Z h19 a17 "com/example/item_type_store/itemtypestore/model/Relation$Element" := (A17_q_18.ext E19)
              have G18_q_19 : Fld Z h19 a17 "com/example/item_type_store/itemtypestore/model/Relation$Element" "qualifier" "Ljava/lang/String;" (.ref a12) := (G18_qualifier.ext E19)
              have G18_typeCode_q_19 : Fld Z h19 a17 "com/example/item_type_store/itemtypestore/model/Relation$Element" "typeCode" "Ljava/lang/String;" (.ref a13) := (G18_typeCode.ext E19)
              have G18_many_q_19 : Fld Z h19 a17 "com/example/item_type_store/itemtypestore/model/Relation$Element" "many" "Z" (.int (nar .boolean b37)) := (G18_many.ext E19)
              have G18_ordered_q_19 : Fld Z h19 a17 "com/example/item_type_store/itemtypestore/model/Relation$Element" "ordered" "Z" (.int (nar .boolean (if b37 = (0 : Int32) then (0 : Int32) else (if b51 = (0 : Int32) then (0 : Int32) else (1 : Int32))))) := (G18_ordered.ext E19)
              have F19_code : Fld Z h19 a19 "com/example/item_type_store/itemtypestore/model/Relation" "code" "Ljava/lang/String;" .null := D19 (Or.inr (hw _ (List.mem_of_getElem? (i := 54) rfl))) (ty := (.object "java/lang/String")) (by decide)
              have F19_deployment : Fld Z h19 a19 "com/example/item_type_store/itemtypestore/model/Relation" "deployment" "Lcom/example/item_type_store/itemtypestore/model/Deployment;" .null := D19 (Or.inr (hw _ (List.mem_of_getElem? (i := 56) rfl))) (ty := (.object "com/example/item_type_store/itemtypestore/model/Deployment")) (by decide)
              have F19_source : Fld Z h19 a19 "com/example/item_type_store/itemtypestore/model/Relation" "source" "Lcom/example/item_type_store/itemtypestore/model/Relation$Element;" .null := D19 (Or.inr (hw _ (List.mem_of_getElem? (i := 58) rfl))) (ty := (.object "com/example/item_type_store/itemtypestore/model/Relation$Element")) (by decide)
              have F19_target : Fld Z h19 a19 "com/example/item_type_store/itemtypestore/model/Relation" "target" "Lcom/example/item_type_store/itemtypestore/model/Relation$Element;" .null := D19 (Or.inr (hw _ (List.mem_of_getElem? (i := 60) rfl))) (ty := (.object "com/example/item_type_store/itemtypestore/model/Relation$Element")) (by decide)
              refine Go.st (T' := T19) (g' := (mkF m 158 #[.val (.int p0), .val (.int p1), .val (.int p2), .val (.int p3), .val (.int p4), .val (.int b11), .val (.int b24), .val (.int b37), .val (.int b51), .val (.int b65), .val (.ref a11), .val (.ref a12), .val (.ref a13), .val v121, .val (.ref a15), .val (.ref a17), .unset, .unset] [(.ref a19)])) st19 ?_
              refine Go.st (T' := T19) (g' := (mkF m 159 #[.val (.int p0), .val (.int p1), .val (.int p2), .val (.int p3), .val (.int p4), .val (.int b11), .val (.int b24), .val (.int b37), .val (.int b51), .val (.int b65), .val (.ref a11), .val (.ref a12), .val (.ref a13), .val v121, .val (.ref a15), .val (.ref a17), .unset, .unset] [(.ref a19), (.ref a19)])) (fun _ hr => XS.dup X19.here hx rfl (hb hby at_158) rfl rfl hr) ?_
              refine Go.st (T' := T19) (g' := (mkF m 161 #[.val (.int p0), .val (.int p1), .val (.int p2), .val (.int p3), .val (.int p4), .val (.int b11), .val (.int b24), .val (.int b37), .val (.int b51), .val (.int b65), .val (.ref a11), .val (.ref a12), .val (.ref a13), .val v121, .val (.ref a15), .val (.ref a17), .unset, .unset] [(.ref a11), (.ref a19), (.ref a19)])) (fun _ hr => XS.aload X19.here hx rfl (hb hby at_159) rfl rfl hr) ?_
              refine Go.st (T' := T19) (g' := (mkF m 163 #[.val (.int p0), .val (.int p1), .val (.int p2), .val (.int p3), .val (.int p4), .val (.int b11), .val (.int b24), .val (.int b37), .val (.int b51), .val (.int b65), .val (.ref a11), .val (.ref a12), .val (.ref a13), .val v121, .val (.ref a15), .val (.ref a17), .unset, .unset] [v121, (.ref a11), (.ref a19), (.ref a19)])) (fun _ hr => XS.aload X19.here hx rfl (hb hby at_161) rfl r_v121 hr) ?_
              refine Go.st (T' := T19) (g' := (mkF m 165 #[.val (.int p0), .val (.int p1), .val (.int p2), .val (.int p3), .val (.int p4), .val (.int b11), .val (.int b24), .val (.int b37), .val (.int b51), .val (.int b65), .val (.ref a11), .val (.ref a12), .val (.ref a13), .val v121, .val (.ref a15), .val (.ref a17), .unset, .unset] [(.ref a15), v121, (.ref a11), (.ref a19), (.ref a19)])) (fun _ hr => XS.aload X19.here hx rfl (hb hby at_163) rfl rfl hr) ?_
              refine Go.st (T' := T19) (g' := (mkF m 167 #[.val (.int p0), .val (.int p1), .val (.int p2), .val (.int p3), .val (.int p4), .val (.int b11), .val (.int b24), .val (.int b37), .val (.int b51), .val (.int b65), .val (.ref a11), .val (.ref a12), .val (.ref a13), .val v121, .val (.ref a15), .val (.ref a17), .unset, .unset] [(.ref a17), (.ref a15), v121, (.ref a11), (.ref a19), (.ref a19)])) (fun _ hr => XS.aload X19.here hx rfl (hb hby at_165) rfl rfl hr) ?_
              refine Go.callC X19 hx hZ hown (W := 1) (y := (⟨"com/example/item_type_store/itemtypestore/model/Relation", "<init>", "(Ljava/lang/String;Lcom/example/item_type_store/itemtypestore/model/Deployment;Lcom/example/item_type_store/itemtypestore/model/Relation$Element;Lcom/example/item_type_store/itemtypestore/model/Relation$Element;)V"⟩ : MethodName)) rfl (hw _ (List.mem_of_getElem? (i := 49) rfl)) (hw _ (List.mem_of_getElem? (i := 50) rfl)) (hw _ (List.mem_of_getElem? (i := 48) rfl)) (hw _ (List.mem_of_getElem? (i := 51) rfl)) (by decide) e19 (rm8 l Z a0 hw a19 (.ref a11) v121 (.ref a15) (.ref a17)  rfl r_v121 rfl rfl h19 h0.size n_a19 A19 F19_code F19_deployment F19_source F19_target) (by decide) (by decide) (by decide) (by decide) (g := (mkF m 167 #[.val (.int p0), .val (.int p1), .val (.int p2), .val (.int p3), .val (.int p4), .val (.int b11), .val (.int b24), .val (.int b37), .val (.int b51), .val (.int b65), .val (.ref a11), .val (.ref a12), .val (.ref a13), .val v121, .val (.ref a15), .val (.ref a17), .unset, .unset] [(.ref a17), (.ref a15), v121, (.ref a11), (.ref a19), (.ref a19)])) rfl (by rw [hml]; rfl) (argsL := [(.ref a11), v121, (.ref a15), (.ref a17)]) (rest := [(.ref a19)]) (lenOf pd_6 rfl) rfl (by show 2 * 0 + _ ≤ _; exact Nat.le_of_eq rfl) (hb hby at_167) (fun v20 T20 L20 X20 q20 => ?_)
              obtain ⟨h20, e20⟩ : ∃ z, T20.heap = z := ⟨_, rfl⟩
              rw [e20] at q20
              obtain ⟨rfl, N20q, K20, G20_code, G20_deployment, G20_source, G20_target⟩ := q20
              have N20 := Fr.app N18 N20q
              have fZ_q_20 : h0.size ≤ h20.size := (Nat.le_trans fZ_q_19 K20.1)
              have O0_q_20 : Old Z h0.size h20 := (O0_q_19.keep K20 (allS n_a19 all0))
              have A15_q_20 : Exa Z h20 a15 "com/example/item_type_store/itemtypestore/model/Relation$Element" := (A15_q_19.keep K20)
              have G16_q_20 : Fld Z h20 a15 "com/example/item_type_store/itemtypestore/model/Relation$Element" "qualifier" "Ljava/lang/String;" (.ref a11) := (G16_q_19.keep K20 (ninS ne_a15_a19 nin0))
              have G16_typeCode_q_20 : Fld Z h20 a15 "com/example/item_type_store/itemtypestore/model/Relation$Element" "typeCode" "Ljava/lang/String;" (.ref a12) := (G16_typeCode_q_19.keep K20 (ninS ne_a15_a19 nin0))
              have G16_many_q_20 : Fld Z h20 a15 "com/example/item_type_store/itemtypestore/model/Relation$Element" "many" "Z" (.int (nar .boolean b11)) := (G16_many_q_19.keep K20 (ninS ne_a15_a19 nin0))
              have G16_ordered_q_20 : Fld Z h20 a15 "com/example/item_type_store/itemtypestore/model/Relation$Element" "ordered" "Z" (.int (nar .boolean (if b11 = (0 : Int32) then (0 : Int32) else (if b24 = (0 : Int32) then (0 : Int32) else (1 : Int32))))) := (G16_ordered_q_19.keep K20 (ninS ne_a15_a19 nin0))
              have A17_q_20 : Exa Z h20 a17 "com/example/item_type_store/itemtypestore/model/Relation$Element" := (A17_q_19.keep K20)
              have G18_q_20 : Fld Z h20 a17 "com/example/item_type_store/itemtypestore/model/Relation$Element" "qualifier" "Ljava/lang/String;" (.ref a12) := (G18_q_19.keep K20 (ninS ne_a17_a19 nin0))
              have G18_typeCode_q_20 : Fld Z h20 a17 "com/example/item_type_store/itemtypestore/model/Relation$Element" "typeCode" "Ljava/lang/String;" (.ref a13) := (G18_typeCode_q_19.keep K20 (ninS ne_a17_a19 nin0))
              have G18_many_q_20 : Fld Z h20 a17 "com/example/item_type_store/itemtypestore/model/Relation$Element" "many" "Z" (.int (nar .boolean b37)) := (G18_many_q_19.keep K20 (ninS ne_a17_a19 nin0))
              have G18_ordered_q_20 : Fld Z h20 a17 "com/example/item_type_store/itemtypestore/model/Relation$Element" "ordered" "Z" (.int (nar .boolean (if b37 = (0 : Int32) then (0 : Int32) else (if b51 = (0 : Int32) then (0 : Int32) else (1 : Int32))))) := (G18_ordered_q_19.keep K20 (ninS ne_a17_a19 nin0))
              have A19_q_20 : Exa Z h20 a19 "com/example/item_type_store/itemtypestore/model/Relation" := (A19.keep K20)
              show Go p.tables e below (Fin s (fun v h L => v = some (.int 1) ∧ Fr h0.size L) room_1.cells room_1.slots) T20 (mkF m 170 #[.val (.int p0), .val (.int p1), .val (.int p2), .val (.int p3), .val (.int p4), .val (.int b11), .val (.int b24), .val (.int b37), .val (.int b51), .val (.int b65), .val (.ref a11), .val (.ref a12), .val (.ref a13), .val v121, .val (.ref a15), .val (.ref a17), .unset, .unset] [(.ref a19)])
              refine Go.st (T' := T20) (g' := (mkF m 172 #[.val (.int p0), .val (.int p1), .val (.int p2), .val (.int p3), .val (.int p4), .val (.int b11), .val (.int b24), .val (.int b37), .val (.int b51), .val (.int b65), .val (.ref a11), .val (.ref a12), .val (.ref a13), .val v121, .val (.ref a15), .val (.ref a17), .val (.ref a19), .unset] [])) (fun _ hr => XS.astore X20.here hx rfl (hb hby at_170) rfl rfl (l' := #[.val (.int p0), .val (.int p1), .val (.int p2), .val (.int p3), .val (.int p4), .val (.int b11), .val (.int b24), .val (.int b37), .val (.int b51), .val (.int b65), .val (.ref a11), .val (.ref a12), .val (.ref a13), .val v121, .val (.ref a15), .val (.ref a17), .val (.ref a19), .unset]) rfl hr) ?_
              refine Go.st (T' := T20) (g' := (mkF m 173 #[.val (.int p0), .val (.int p1), .val (.int p2), .val (.int p3), .val (.int p4), .val (.int b11), .val (.int b24), .val (.int b37), .val (.int b51), .val (.int b65), .val (.ref a11), .val (.ref a12), .val (.ref a13), .val v121, .val (.ref a15), .val (.ref a17), .val (.ref a19), .unset] [(.int (0 : Int32))])) (fun _ hr => XT.iconstV X20.here hx rfl (0 : Int32) (hb hby at_172) (by decide) hr) ?_
              refine Go.st (T' := T20) (g' := (mkF m 175 #[.val (.int p0), .val (.int p1), .val (.int p2), .val (.int p3), .val (.int p4), .val (.int b11), .val (.int b24), .val (.int b37), .val (.int b51), .val (.int b65), .val (.ref a11), .val (.ref a12), .val (.ref a13), .val v121, .val (.ref a15), .val (.ref a17), .val (.ref a19), .val (.int (0 : Int32))] [])) (fun _ hr => XS.istore X20.here hx rfl (hb hby at_173) rfl (l' := #[.val (.int p0), .val (.int p1), .val (.int p2), .val (.int p3), .val (.int p4), .val (.int b11), .val (.int b24), .val (.int b37), .val (.int b51), .val (.int b65), .val (.ref a11), .val (.ref a12), .val (.ref a13), .val v121, .val (.ref a15), .val (.ref a17), .val (.ref a19), .val (.int (0 : Int32))]) rfl hr) ?_
              refine Go.st (T' := T20) (g' := (mkF m 177 #[.val (.int p0), .val (.int p1), .val (.int p2), .val (.int p3), .val (.int p4), .val (.int b11), .val (.int b24), .val (.int b37), .val (.int b51), .val (.int b65), .val (.ref a11), .val (.ref a12), .val (.ref a13), .val v121, .val (.ref a15), .val (.ref a17), .val (.ref a19), .val (.int (0 : Int32))] [(.int b11)])) (fun _ hr => XS.iload X20.here hx rfl (hb hby at_175) rfl hr) ?_
              have J188_21 : ∀ (T22 : State) (L22 : List Loc) (b188 : Int32) (hb188 : b188 = (if b11 = (0 : Int32) then (0 : Int32) else (if b37 = (0 : Int32) then (0 : Int32) else (1 : Int32)))), Stand p l e room_1 s m #[(.int p0), (.int p1), (.int p2), (.int p3), (.int p4)] below meth c T22 L22 10 29 → T22.heap = h20 → Fr h0.size L22 → Go p.tables e below (Fin s (fun v h L => v = some (.int 1) ∧ Fr h0.size L) room_1.cells room_1.slots) T22 (mkF m 188 #[.val (.int p0), .val (.int p1), .val (.int p2), .val (.int p3), .val (.int p4), .val (.int b11), .val (.int b24), .val (.int b37), .val (.int b51), .val (.int b65), .val (.ref a11), .val (.ref a12), .val (.ref a13), .val v121, .val (.ref a15), .val (.ref a17), .val (.ref a19), .val (.int b188)] []) := by
                intro T22 L22 b188 hb188 X22 e22 N22
                refine Go.st (T' := T22) (g' := (mkF m 190 #[.val (.int p0), .val (.int p1), .val (.int p2), .val (.int p3), .val (.int p4), .val (.int b11), .val (.int b24), .val (.int b37), .val (.int b51), .val (.int b65), .val (.ref a11), .val (.ref a12), .val (.ref a13), .val v121, .val (.ref a15), .val (.ref a17), .val (.ref a19), .val (.int b188)] [(.ref a19)])) (fun _ hr => XS.aload X22.here hx rfl (hb hby at_188) rfl rfl hr) ?_
                refine Go.callV X22 hx hZ hown (W := 0) (y := (⟨"com/example/item_type_store/itemtypestore/model/Relation", "manyToMany", "()Z"⟩ : MethodName)) (hw _ (List.mem_of_getElem? (i := 61) rfl)) (hw _ (List.mem_of_getElem? (i := 62) rfl)) (hw _ (List.mem_of_getElem? (i := 64) rfl)) (hw _ (List.mem_of_getElem? (i := 63) rfl)) (hw _ (List.mem_of_getElem? (i := 48) rfl)) (hw _ (List.mem_of_getElem? (i := 65) rfl)) (by decide) rfl e22 A19_q_20 (rm9 l Z a0 hw a19 a15 a17 (nar .boolean b11) (nar .boolean b37) h20 G20_source G20_target A15_q_20 G16_many_q_20 A17_q_20 G18_many_q_20) (by decide) (by decide) (by decide) (by decide) (g := (mkF m 190 #[.val (.int p0), .val (.int p1), .val (.int p2), .val (.int p3), .val (.int p4), .val (.int b11), .val (.int b24), .val (.int b37), .val (.int b51), .val (.int b65), .val (.ref a11), .val (.ref a12), .val (.ref a13), .val v121, .val (.ref a15), .val (.ref a17), .val (.ref a19), .val (.int b188)] [(.ref a19)])) rfl (by rw [hml]; rfl) (argsL := []) (rest := []) (lenOf pd_8 rfl) rfl (by show 2 * 0 + _ ≤ _; exact Nat.le_of_eq rfl) (hb hby at_190) (fun v23 T23 L23 X23 q23 => ?_)
                obtain ⟨rfl, rfl, e23⟩ := q23
                rw [List.append_nil] at X23
                show Go p.tables e below (Fin s (fun v h L => v = some (.int 1) ∧ Fr h0.size L) room_1.cells room_1.slots) T23 (mkF m 193 #[.val (.int p0), .val (.int p1), .val (.int p2), .val (.int p3), .val (.int p4), .val (.int b11), .val (.int b24), .val (.int b37), .val (.int b51), .val (.int b65), .val (.ref a11), .val (.ref a12), .val (.ref a13), .val v121, .val (.ref a15), .val (.ref a17), .val (.ref a19), .val (.int b188)] [(.int (f9 (nar .boolean b11) (nar .boolean b37)))])
                refine Go.st (T' := T23) (g' := (mkF m 195 #[.val (.int p0), .val (.int p1), .val (.int p2), .val (.int p3), .val (.int p4), .val (.int b11), .val (.int b24), .val (.int b37), .val (.int b51), .val (.int b65), .val (.ref a11), .val (.ref a12), .val (.ref a13), .val v121, .val (.ref a15), .val (.ref a17), .val (.ref a19), .val (.int b188)] [(.int b188), (.int (f9 (nar .boolean b11) (nar .boolean b37)))])) (fun _ hr => XS.iload X23.here hx rfl (hb hby at_193) rfl hr) ?_
                refine Go.st (T' := T23) (g' := (mkF m 198 #[.val (.int p0), .val (.int p1), .val (.int p2), .val (.int p3), .val (.int p4), .val (.int b11), .val (.int b24), .val (.int b37), .val (.int b51), .val (.int b65), .val (.ref a11), .val (.ref a12), .val (.ref a13), .val v121, .val (.ref a15), .val (.ref a17), .val (.ref a19), .val (.int b188)] [])) (fun _ hr => XS.icmpNo X23.here hx rfl (hb hby at_195) rfl (XT.ii_ne_f (own_law hb11 hb37 hb188)) hr) ?_
                refine Go.st (T' := T23) (g' := (mkF m 199 #[.val (.int p0), .val (.int p1), .val (.int p2), .val (.int p3), .val (.int p4), .val (.int b11), .val (.int b24), .val (.int b37), .val (.int b51), .val (.int b65), .val (.ref a11), .val (.ref a12), .val (.ref a13), .val v121, .val (.ref a15), .val (.ref a17), .val (.ref a19), .val (.int b188)] [(.int (1 : Int32))])) (fun _ hr => XT.iconstV X23.here hx rfl (1 : Int32) (hb hby at_198) (by decide) hr) ?_
                refine Go.st (T' := T23) (g' := (mkF m 203 #[.val (.int p0), .val (.int p1), .val (.int p2), .val (.int p3), .val (.int p4), .val (.int b11), .val (.int b24), .val (.int b37), .val (.int b51), .val (.int b65), .val (.ref a11), .val (.ref a12), .val (.ref a13), .val v121, .val (.ref a15), .val (.ref a17), .val (.ref a19), .val (.int b188)] [(.int (1 : Int32))])) (fun _ hr => XS.goto X23.here hx rfl (pc0 := 199) (pc' := 203) rfl (hb hby at_199) (by decide) (by decide) hr) ?_
                exact Go.retN X23 hx hlk hret (by simp) (hb hby at_203) (by decide) (by decide) ⟨rfl, N22⟩
              by_cases c177_24 : b11 = (0 : Int32)
              · refine Go.st (T' := T20) (g' := (mkF m 188 #[.val (.int p0), .val (.int p1), .val (.int p2), .val (.int p3), .val (.int p4), .val (.int b11), .val (.int b24), .val (.int b37), .val (.int b51), .val (.int b65), .val (.ref a11), .val (.ref a12), .val (.ref a13), .val v121, .val (.ref a15), .val (.ref a17), .val (.ref a19), .val (.int (0 : Int32))] [])) (fun _ hr => XS.ifYes X20.here hx rfl (pc0 := 177) (pc' := 188) rfl (hb hby at_177) rfl (XT.i0_eq_t c177_24) (by decide) (by decide) hr) ?_
                exact J188_21 T20 _ _ (by simp only [if_pos c177_24]) X20 e20 N20
              · refine Go.st (T' := T20) (g' := (mkF m 180 #[.val (.int p0), .val (.int p1), .val (.int p2), .val (.int p3), .val (.int p4), .val (.int b11), .val (.int b24), .val (.int b37), .val (.int b51), .val (.int b65), .val (.ref a11), .val (.ref a12), .val (.ref a13), .val v121, .val (.ref a15), .val (.ref a17), .val (.ref a19), .val (.int (0 : Int32))] [])) (fun _ hr => XS.ifNo X20.here hx rfl (hb hby at_177) rfl (XT.i0_eq_f c177_24) hr) ?_
                refine Go.st (T' := T20) (g' := (mkF m 182 #[.val (.int p0), .val (.int p1), .val (.int p2), .val (.int p3), .val (.int p4), .val (.int b11), .val (.int b24), .val (.int b37), .val (.int b51), .val (.int b65), .val (.ref a11), .val (.ref a12), .val (.ref a13), .val v121, .val (.ref a15), .val (.ref a17), .val (.ref a19), .val (.int (0 : Int32))] [(.int b37)])) (fun _ hr => XS.iload X20.here hx rfl (hb hby at_180) rfl hr) ?_
                by_cases c182_25 : b37 = (0 : Int32)
                · refine Go.st (T' := T20) (g' := (mkF m 188 #[.val (.int p0), .val (.int p1), .val (.int p2), .val (.int p3), .val (.int p4), .val (.int b11), .val (.int b24), .val (.int b37), .val (.int b51), .val (.int b65), .val (.ref a11), .val (.ref a12), .val (.ref a13), .val v121, .val (.ref a15), .val (.ref a17), .val (.ref a19), .val (.int (0 : Int32))] [])) (fun _ hr => XS.ifYes X20.here hx rfl (pc0 := 182) (pc' := 188) rfl (hb hby at_182) rfl (XT.i0_eq_t c182_25) (by decide) (by decide) hr) ?_
                  exact J188_21 T20 _ _ (by simp only [if_neg c177_24, if_pos c182_25]) X20 e20 N20
                · refine Go.st (T' := T20) (g' := (mkF m 185 #[.val (.int p0), .val (.int p1), .val (.int p2), .val (.int p3), .val (.int p4), .val (.int b11), .val (.int b24), .val (.int b37), .val (.int b51), .val (.int b65), .val (.ref a11), .val (.ref a12), .val (.ref a13), .val v121, .val (.ref a15), .val (.ref a17), .val (.ref a19), .val (.int (0 : Int32))] [])) (fun _ hr => XS.ifNo X20.here hx rfl (hb hby at_182) rfl (XT.i0_eq_f c182_25) hr) ?_
                  refine Go.st (T' := T20) (g' := (mkF m 186 #[.val (.int p0), .val (.int p1), .val (.int p2), .val (.int p3), .val (.int p4), .val (.int b11), .val (.int b24), .val (.int b37), .val (.int b51), .val (.int b65), .val (.ref a11), .val (.ref a12), .val (.ref a13), .val v121, .val (.ref a15), .val (.ref a17), .val (.ref a19), .val (.int (0 : Int32))] [(.int (1 : Int32))])) (fun _ hr => XT.iconstV X20.here hx rfl (1 : Int32) (hb hby at_185) (by decide) hr) ?_
                  refine Go.st (T' := T20) (g' := (mkF m 188 #[.val (.int p0), .val (.int p1), .val (.int p2), .val (.int p3), .val (.int p4), .val (.int b11), .val (.int b24), .val (.int b37), .val (.int b51), .val (.int b65), .val (.ref a11), .val (.ref a12), .val (.ref a13), .val v121, .val (.ref a15), .val (.ref a17), .val (.ref a19), .val (.int (1 : Int32))] [])) (fun _ hr => XS.istore X20.here hx rfl (hb hby at_186) rfl (l' := #[.val (.int p0), .val (.int p1), .val (.int p2), .val (.int p3), .val (.int p4), .val (.int b11), .val (.int b24), .val (.int b37), .val (.int b51), .val (.int b65), .val (.ref a11), .val (.ref a12), .val (.ref a13), .val v121, .val (.ref a15), .val (.ref a17), .val (.ref a19), .val (.int (1 : Int32))]) rfl hr) ?_
                  exact J188_21 T20 _ _ (by simp only [if_neg c177_24, if_neg c182_25]) X20 e20 N20
            by_cases c105_26 : b65 = (0 : Int32)
            · refine Go.st (T' := T13) (g' := (mkF m 121 #[.val (.int p0), .val (.int p1), .val (.int p2), .val (.int p3), .val (.int p4), .val (.int b11), .val (.int b24), .val (.int b37), .val (.int b51), .val (.int b65), .val (.ref a11), .val (.ref a12), .val (.ref a13), .val .null, .unset, .unset, .unset, .unset] [])) (fun _ hr => XS.ifYes X13.here hx rfl (pc0 := 105) (pc' := 121) rfl (hb hby at_105) rfl (XT.i0_eq_t c105_26) (by decide) (by decide) hr) ?_
              exact J121_14 T13 h13 _ .null rfl (X13.more (by decide) (by decide)) e13 N13 fZ_q_13 O0_q_13
            · refine Go.st (T' := T13) (g' := (mkF m 108 #[.val (.int p0), .val (.int p1), .val (.int p2), .val (.int p3), .val (.int p4), .val (.int b11), .val (.int b24), .val (.int b37), .val (.int b51), .val (.int b65), .val (.ref a11), .val (.ref a12), .val (.ref a13), .val .null, .unset, .unset, .unset, .unset] [])) (fun _ hr => XS.ifNo X13.here hx rfl (hb hby at_105) rfl (XT.i0_eq_f c105_26) hr) ?_
              obtain ⟨T27, h27, X27, e27, E27, A27, D27, -, st27⟩ := newO X13 hx hZ hown (hw _ (List.mem_of_getElem? (i := 71) rfl)) (hw _ (List.mem_of_getElem? (i := 72) rfl)) (hw _ (List.mem_of_getElem? (i := 73) rfl)) e13 (g := (mkF m 108 #[.val (.int p0), .val (.int p1), .val (.int p2), .val (.int p3), .val (.int p4), .val (.int b11), .val (.int b24), .val (.int b37), .val (.int b51), .val (.int b65), .val (.ref a11), .val (.ref a12), .val (.ref a13), .val .null, .unset, .unset, .unset, .unset] [])) rfl (hb hby at_108) (by decide) (by decide)
              obtain ⟨a27, g27⟩ : ∃ z, z = h13.size := ⟨_, rfl⟩
              rw [← g27] at A27 D27 st27
              have n_a27 : h0.size ≤ a27 := Nat.le_trans fZ_q_13 (Nat.le_of_eq g27.symm)
              have fZ_q_27 : h0.size ≤ h27.size := (Nat.le_trans fZ_q_13 E27.1)
              have O0_q_27 : Old Z h0.size h27 := (O0_q_13.ext E27)
              have F27_table : Fld Z h27 a27 "com/example/item_type_store/itemtypestore/model/Deployment" "table" "Ljava/lang/String;" .null := D27 (Or.inr (hw _ (List.mem_of_getElem? (i := 79) rfl))) (ty := (.object "java/lang/String")) (by decide)
              have F27_typecode : Fld Z h27 a27 "com/example/item_type_store/itemtypestore/model/Deployment" "typecode" "I" (.int (0 : Int32)) := D27 (Or.inr (hw _ (List.mem_of_getElem? (i := 81) rfl))) (ty := .int) (by decide)
              refine Go.st (T' := T27) (g' := (mkF m 111 #[.val (.int p0), .val (.int p1), .val (.int p2), .val (.int p3), .val (.int p4), .val (.int b11), .val (.int b24), .val (.int b37), .val (.int b51), .val (.int b65), .val (.ref a11), .val (.ref a12), .val (.ref a13), .val .null, .unset, .unset, .unset, .unset] [(.ref a27)])) st27 ?_
              refine Go.st (T' := T27) (g' := (mkF m 112 #[.val (.int p0), .val (.int p1), .val (.int p2), .val (.int p3), .val (.int p4), .val (.int b11), .val (.int b24), .val (.int b37), .val (.int b51), .val (.int b65), .val (.ref a11), .val (.ref a12), .val (.ref a13), .val .null, .unset, .unset, .unset, .unset] [(.ref a27), (.ref a27)])) (fun _ hr => XS.dup X27.here hx rfl (hb hby at_111) rfl rfl hr) ?_
              refine Go.st (T' := T27) (g' := (mkF m 114 #[.val (.int p0), .val (.int p1), .val (.int p2), .val (.int p3), .val (.int p4), .val (.int b11), .val (.int b24), .val (.int b37), .val (.int b51), .val (.int b65), .val (.ref a11), .val (.ref a12), .val (.ref a13), .val .null, .unset, .unset, .unset, .unset] [(.ref a13), (.ref a27), (.ref a27)])) (fun _ hr => XS.aload X27.here hx rfl (hb hby at_112) rfl rfl hr) ?_
              refine Go.st (T' := T27) (g' := (mkF m 116 #[.val (.int p0), .val (.int p1), .val (.int p2), .val (.int p3), .val (.int p4), .val (.int b11), .val (.int b24), .val (.int b37), .val (.int b51), .val (.int b65), .val (.ref a11), .val (.ref a12), .val (.ref a13), .val .null, .unset, .unset, .unset, .unset] [(.int p4), (.ref a13), (.ref a27), (.ref a27)])) (fun _ hr => XS.iload X27.here hx rfl (hb hby at_114) rfl hr) ?_
              refine Go.callC X27 hx hZ hown (W := 1) (y := (⟨"com/example/item_type_store/itemtypestore/model/Deployment", "<init>", "(Ljava/lang/String;I)V"⟩ : MethodName)) rfl (hw _ (List.mem_of_getElem? (i := 74) rfl)) (hw _ (List.mem_of_getElem? (i := 75) rfl)) (hw _ (List.mem_of_getElem? (i := 73) rfl)) (hw _ (List.mem_of_getElem? (i := 76) rfl)) (by decide) e27 (rm11 l Z a0 hw a27 (.ref a13) p4  rfl h27 h0.size n_a27 A27 F27_table F27_typecode) (by decide) (by decide) (by decide) (by decide) (g := (mkF m 116 #[.val (.int p0), .val (.int p1), .val (.int p2), .val (.int p3), .val (.int p4), .val (.int b11), .val (.int b24), .val (.int b37), .val (.int b51), .val (.int b65), .val (.ref a11), .val (.ref a12), .val (.ref a13), .val .null, .unset, .unset, .unset, .unset] [(.int p4), (.ref a13), (.ref a27), (.ref a27)])) rfl (by rw [hml]; rfl) (argsL := [(.ref a13), (.int p4)]) (rest := [(.ref a27)]) (lenOf pd_7 rfl) rfl (by show 2 * 0 + _ ≤ _; exact Nat.le_of_eq rfl) (hb hby at_116) (fun v28 T28 L28 X28 q28 => ?_)
              obtain ⟨h28, e28⟩ : ∃ z, T28.heap = z := ⟨_, rfl⟩
              rw [e28] at q28
              obtain ⟨rfl, N28q, K28, G28_table, G28_typecode⟩ := q28
              have N28 := Fr.app N13 N28q
              have fZ_q_28 : h0.size ≤ h28.size := (Nat.le_trans fZ_q_27 K28.1)
              have O0_q_28 : Old Z h0.size h28 := (O0_q_27.keep K28 (allS n_a27 all0))
              have A27_q_28 : Exa Z h28 a27 "com/example/item_type_store/itemtypestore/model/Deployment" := (A27.keep K28)
              show Go p.tables e below (Fin s (fun v h L => v = some (.int 1) ∧ Fr h0.size L) room_1.cells room_1.slots) T28 (mkF m 119 #[.val (.int p0), .val (.int p1), .val (.int p2), .val (.int p3), .val (.int p4), .val (.int b11), .val (.int b24), .val (.int b37), .val (.int b51), .val (.int b65), .val (.ref a11), .val (.ref a12), .val (.ref a13), .val .null, .unset, .unset, .unset, .unset] [(.ref a27)])
              refine Go.st (T' := T28) (g' := (mkF m 121 #[.val (.int p0), .val (.int p1), .val (.int p2), .val (.int p3), .val (.int p4), .val (.int b11), .val (.int b24), .val (.int b37), .val (.int b51), .val (.int b65), .val (.ref a11), .val (.ref a12), .val (.ref a13), .val (.ref a27), .unset, .unset, .unset, .unset] [])) (fun _ hr => XS.astore X28.here hx rfl (hb hby at_119) rfl rfl (l' := #[.val (.int p0), .val (.int p1), .val (.int p2), .val (.int p3), .val (.int p4), .val (.int b11), .val (.int b24), .val (.int b37), .val (.int b51), .val (.int b65), .val (.ref a11), .val (.ref a12), .val (.ref a13), .val (.ref a27), .unset, .unset, .unset, .unset]) rfl hr) ?_
              exact J121_14 T28 h28 _ (.ref a27) rfl (X28.more (by decide) (by decide)) e28 N28 fZ_q_28 O0_q_28
          by_cases c57_29 : (p0 &&& (16 : Int32)) = (0 : Int32)
          · refine Go.st (T' := T8) (g' := (mkF m 64 #[.val (.int p0), .val (.int p1), .val (.int p2), .val (.int p3), .val (.int p4), .val (.int b11), .val (.int b24), .val (.int b37), .val (.int b51), .unset, .unset, .unset, .unset, .unset, .unset, .unset, .unset, .unset] [])) (fun _ hr => XS.ifYes X8.here hx rfl (pc0 := 57) (pc' := 64) rfl (hb hby at_57) rfl (XT.i0_eq_t c57_29) (by decide) (by decide) hr) ?_
            refine Go.st (T' := T8) (g' := (mkF m 65 #[.val (.int p0), .val (.int p1), .val (.int p2), .val (.int p3), .val (.int p4), .val (.int b11), .val (.int b24), .val (.int b37), .val (.int b51), .unset, .unset, .unset, .unset, .unset, .unset, .unset, .unset, .unset] [(.int (0 : Int32))])) (fun _ hr => XT.iconstV X8.here hx rfl (0 : Int32) (hb hby at_64) (by decide) hr) ?_
            exact J65_9 T8 _ (by simp only [if_pos c57_29]) X8 e8
          · refine Go.st (T' := T8) (g' := (mkF m 60 #[.val (.int p0), .val (.int p1), .val (.int p2), .val (.int p3), .val (.int p4), .val (.int b11), .val (.int b24), .val (.int b37), .val (.int b51), .unset, .unset, .unset, .unset, .unset, .unset, .unset, .unset, .unset] [])) (fun _ hr => XS.ifNo X8.here hx rfl (hb hby at_57) rfl (XT.i0_eq_f c57_29) hr) ?_
            refine Go.st (T' := T8) (g' := (mkF m 61 #[.val (.int p0), .val (.int p1), .val (.int p2), .val (.int p3), .val (.int p4), .val (.int b11), .val (.int b24), .val (.int b37), .val (.int b51), .unset, .unset, .unset, .unset, .unset, .unset, .unset, .unset, .unset] [(.int (1 : Int32))])) (fun _ hr => XT.iconstV X8.here hx rfl (1 : Int32) (hb hby at_60) (by decide) hr) ?_
            refine Go.st (T' := T8) (g' := (mkF m 65 #[.val (.int p0), .val (.int p1), .val (.int p2), .val (.int p3), .val (.int p4), .val (.int b11), .val (.int b24), .val (.int b37), .val (.int b51), .unset, .unset, .unset, .unset, .unset, .unset, .unset, .unset, .unset] [(.int (1 : Int32))])) (fun _ hr => XS.goto X8.here hx rfl (pc0 := 61) (pc' := 65) rfl (hb hby at_61) (by decide) (by decide) hr) ?_
            exact J65_9 T8 _ (by simp only [if_neg c57_29]) X8 e8
        by_cases c43_30 : (p0 &&& (8 : Int32)) = (0 : Int32)
        · refine Go.st (T' := T6) (g' := (mkF m 50 #[.val (.int p0), .val (.int p1), .val (.int p2), .val (.int p3), .val (.int p4), .val (.int b11), .val (.int b24), .val (.int b37), .unset, .unset, .unset, .unset, .unset, .unset, .unset, .unset, .unset, .unset] [])) (fun _ hr => XS.ifYes X6.here hx rfl (pc0 := 43) (pc' := 50) rfl (hb hby at_43) rfl (XT.i0_eq_t c43_30) (by decide) (by decide) hr) ?_
          refine Go.st (T' := T6) (g' := (mkF m 51 #[.val (.int p0), .val (.int p1), .val (.int p2), .val (.int p3), .val (.int p4), .val (.int b11), .val (.int b24), .val (.int b37), .unset, .unset, .unset, .unset, .unset, .unset, .unset, .unset, .unset, .unset] [(.int (0 : Int32))])) (fun _ hr => XT.iconstV X6.here hx rfl (0 : Int32) (hb hby at_50) (by decide) hr) ?_
          exact J51_7 T6 _ (by simp only [if_pos c43_30]) X6 e6
        · refine Go.st (T' := T6) (g' := (mkF m 46 #[.val (.int p0), .val (.int p1), .val (.int p2), .val (.int p3), .val (.int p4), .val (.int b11), .val (.int b24), .val (.int b37), .unset, .unset, .unset, .unset, .unset, .unset, .unset, .unset, .unset, .unset] [])) (fun _ hr => XS.ifNo X6.here hx rfl (hb hby at_43) rfl (XT.i0_eq_f c43_30) hr) ?_
          refine Go.st (T' := T6) (g' := (mkF m 47 #[.val (.int p0), .val (.int p1), .val (.int p2), .val (.int p3), .val (.int p4), .val (.int b11), .val (.int b24), .val (.int b37), .unset, .unset, .unset, .unset, .unset, .unset, .unset, .unset, .unset, .unset] [(.int (1 : Int32))])) (fun _ hr => XT.iconstV X6.here hx rfl (1 : Int32) (hb hby at_46) (by decide) hr) ?_
          refine Go.st (T' := T6) (g' := (mkF m 51 #[.val (.int p0), .val (.int p1), .val (.int p2), .val (.int p3), .val (.int p4), .val (.int b11), .val (.int b24), .val (.int b37), .unset, .unset, .unset, .unset, .unset, .unset, .unset, .unset, .unset, .unset] [(.int (1 : Int32))])) (fun _ hr => XS.goto X6.here hx rfl (pc0 := 47) (pc' := 51) rfl (hb hby at_47) (by decide) (by decide) hr) ?_
          exact J51_7 T6 _ (by simp only [if_neg c43_30]) X6 e6
      by_cases c29_31 : (p0 &&& (4 : Int32)) = (0 : Int32)
      · refine Go.st (T' := T4) (g' := (mkF m 36 #[.val (.int p0), .val (.int p1), .val (.int p2), .val (.int p3), .val (.int p4), .val (.int b11), .val (.int b24), .unset, .unset, .unset, .unset, .unset, .unset, .unset, .unset, .unset, .unset, .unset] [])) (fun _ hr => XS.ifYes X4.here hx rfl (pc0 := 29) (pc' := 36) rfl (hb hby at_29) rfl (XT.i0_eq_t c29_31) (by decide) (by decide) hr) ?_
        refine Go.st (T' := T4) (g' := (mkF m 37 #[.val (.int p0), .val (.int p1), .val (.int p2), .val (.int p3), .val (.int p4), .val (.int b11), .val (.int b24), .unset, .unset, .unset, .unset, .unset, .unset, .unset, .unset, .unset, .unset, .unset] [(.int (0 : Int32))])) (fun _ hr => XT.iconstV X4.here hx rfl (0 : Int32) (hb hby at_36) (by decide) hr) ?_
        exact J37_5 T4 _ (by simp only [if_pos c29_31]) X4 e4
      · refine Go.st (T' := T4) (g' := (mkF m 32 #[.val (.int p0), .val (.int p1), .val (.int p2), .val (.int p3), .val (.int p4), .val (.int b11), .val (.int b24), .unset, .unset, .unset, .unset, .unset, .unset, .unset, .unset, .unset, .unset, .unset] [])) (fun _ hr => XS.ifNo X4.here hx rfl (hb hby at_29) rfl (XT.i0_eq_f c29_31) hr) ?_
        refine Go.st (T' := T4) (g' := (mkF m 33 #[.val (.int p0), .val (.int p1), .val (.int p2), .val (.int p3), .val (.int p4), .val (.int b11), .val (.int b24), .unset, .unset, .unset, .unset, .unset, .unset, .unset, .unset, .unset, .unset, .unset] [(.int (1 : Int32))])) (fun _ hr => XT.iconstV X4.here hx rfl (1 : Int32) (hb hby at_32) (by decide) hr) ?_
        refine Go.st (T' := T4) (g' := (mkF m 37 #[.val (.int p0), .val (.int p1), .val (.int p2), .val (.int p3), .val (.int p4), .val (.int b11), .val (.int b24), .unset, .unset, .unset, .unset, .unset, .unset, .unset, .unset, .unset, .unset, .unset] [(.int (1 : Int32))])) (fun _ hr => XS.goto X4.here hx rfl (pc0 := 33) (pc' := 37) rfl (hb hby at_33) (by decide) (by decide) hr) ?_
        exact J37_5 T4 _ (by simp only [if_neg c29_31]) X4 e4
    by_cases c16_32 : (p0 &&& (2 : Int32)) = (0 : Int32)
    · refine Go.st (T' := T2) (g' := (mkF m 23 #[.val (.int p0), .val (.int p1), .val (.int p2), .val (.int p3), .val (.int p4), .val (.int b11), .unset, .unset, .unset, .unset, .unset, .unset, .unset, .unset, .unset, .unset, .unset, .unset] [])) (fun _ hr => XS.ifYes X2.here hx rfl (pc0 := 16) (pc' := 23) rfl (hb hby at_16) rfl (XT.i0_eq_t c16_32) (by decide) (by decide) hr) ?_
      refine Go.st (T' := T2) (g' := (mkF m 24 #[.val (.int p0), .val (.int p1), .val (.int p2), .val (.int p3), .val (.int p4), .val (.int b11), .unset, .unset, .unset, .unset, .unset, .unset, .unset, .unset, .unset, .unset, .unset, .unset] [(.int (0 : Int32))])) (fun _ hr => XT.iconstV X2.here hx rfl (0 : Int32) (hb hby at_23) (by decide) hr) ?_
      exact J24_3 T2 _ (by simp only [if_pos c16_32]) X2 e2
    · refine Go.st (T' := T2) (g' := (mkF m 19 #[.val (.int p0), .val (.int p1), .val (.int p2), .val (.int p3), .val (.int p4), .val (.int b11), .unset, .unset, .unset, .unset, .unset, .unset, .unset, .unset, .unset, .unset, .unset, .unset] [])) (fun _ hr => XS.ifNo X2.here hx rfl (hb hby at_16) rfl (XT.i0_eq_f c16_32) hr) ?_
      refine Go.st (T' := T2) (g' := (mkF m 20 #[.val (.int p0), .val (.int p1), .val (.int p2), .val (.int p3), .val (.int p4), .val (.int b11), .unset, .unset, .unset, .unset, .unset, .unset, .unset, .unset, .unset, .unset, .unset, .unset] [(.int (1 : Int32))])) (fun _ hr => XT.iconstV X2.here hx rfl (1 : Int32) (hb hby at_19) (by decide) hr) ?_
      refine Go.st (T' := T2) (g' := (mkF m 24 #[.val (.int p0), .val (.int p1), .val (.int p2), .val (.int p3), .val (.int p4), .val (.int b11), .unset, .unset, .unset, .unset, .unset, .unset, .unset, .unset, .unset, .unset, .unset, .unset] [(.int (1 : Int32))])) (fun _ hr => XS.goto X2.here hx rfl (pc0 := 20) (pc' := 24) rfl (hb hby at_20) (by decide) (by decide) hr) ?_
      exact J24_3 T2 _ (by simp only [if_neg c16_32]) X2 e2
  by_cases c3_33 : (p0 &&& (1 : Int32)) = (0 : Int32)
  · refine Go.st (T' := s₁) (g' := (mkF m 10 #[.val (.int p0), .val (.int p1), .val (.int p2), .val (.int p3), .val (.int p4), .unset, .unset, .unset, .unset, .unset, .unset, .unset, .unset, .unset, .unset, .unset, .unset, .unset] [])) (fun _ hr => XS.ifYes X0.here hx rfl (pc0 := 3) (pc' := 10) rfl (hb hby at_3) rfl (XT.i0_eq_t c3_33) (by decide) (by decide) hr) ?_
    refine Go.st (T' := s₁) (g' := (mkF m 11 #[.val (.int p0), .val (.int p1), .val (.int p2), .val (.int p3), .val (.int p4), .unset, .unset, .unset, .unset, .unset, .unset, .unset, .unset, .unset, .unset, .unset, .unset, .unset] [(.int (0 : Int32))])) (fun _ hr => XT.iconstV X0.here hx rfl (0 : Int32) (hb hby at_10) (by decide) hr) ?_
    exact J11_1 s₁ _ (by simp only [if_pos c3_33]) X0 e0
  · refine Go.st (T' := s₁) (g' := (mkF m 6 #[.val (.int p0), .val (.int p1), .val (.int p2), .val (.int p3), .val (.int p4), .unset, .unset, .unset, .unset, .unset, .unset, .unset, .unset, .unset, .unset, .unset, .unset, .unset] [])) (fun _ hr => XS.ifNo X0.here hx rfl (hb hby at_3) rfl (XT.i0_eq_f c3_33) hr) ?_
    refine Go.st (T' := s₁) (g' := (mkF m 7 #[.val (.int p0), .val (.int p1), .val (.int p2), .val (.int p3), .val (.int p4), .unset, .unset, .unset, .unset, .unset, .unset, .unset, .unset, .unset, .unset, .unset, .unset, .unset] [(.int (1 : Int32))])) (fun _ hr => XT.iconstV X0.here hx rfl (1 : Int32) (hb hby at_6) (by decide) hr) ?_
    refine Go.st (T' := s₁) (g' := (mkF m 11 #[.val (.int p0), .val (.int p1), .val (.int p2), .val (.int p3), .val (.int p4), .unset, .unset, .unset, .unset, .unset, .unset, .unset, .unset, .unset, .unset, .unset, .unset, .unset] [(.int (1 : Int32))])) (fun _ hr => XS.goto X0.here hx rfl (pc0 := 7) (pc' := 11) rfl (hb hby at_7) (by decide) (by decide) hr) ?_
    exact J11_1 s₁ _ (by simp only [if_neg c3_33]) X0 e0
set_option maxRecDepth 65536 in
set_option maxHeartbeats 40000000 in
theorem comes_1 {Post : Tables → Env → Array Value → State → Outcome → State → Prop} (hpost : ∀ tb e args s v u, (limb_1_1.after args s (.returned v) u = true ∧ limb_1_2.after args s (.returned v) u = true ∧ True) → FrameEnd s (.returned v) u (Jvm.fieldLocs frame_1_writes args s ++ Jvm.arrayLocs frame_1_arrays args s ++ Jvm.staticLocs frame_1_statics s) 32 128 → Post tb e args s (.returned v) u) :
    ArmFor flags0 classFile x code maxLocals ret World_1 tables_1 room_1 Calls_1 rest_1 Pre_1 Post := by
  intro l hfl _ _ p e ha hc hk s m args below hf hA hF happ hP
  obtain ⟨hcalls, hrest, hpre⟩ := hP
  obtain ⟨-, -, -, hnamed, -, -, -, hat⟩ := (Spec.applies_iff hf).mp happ
  obtain ⟨hg, hn⟩ := and_e (Cond.before_iff.mp (show (Jvm.Cond.and given_1 narrow_1).before args s = true from hpre))
  obtain ⟨g0, r0⟩ := and_e hg
  obtain ⟨u0, r1⟩ := and_e r0
  obtain ⟨u1, r2⟩ := and_e r1
  obtain ⟨u2, r3⟩ := and_e r2
  obtain ⟨u3, r4⟩ := and_e r3
  have u4 := r4
  obtain ⟨w0, w1, w2, w3, w4, rfl⟩ : ∃ w0 w1 w2 w3 w4 : Value, args = #[w0, w1, w2, w3, w4] := by
    have hs : args.size = 5 := by simpa [Cond.value, given_1] using g0
    obtain ⟨L⟩ := args
    match L, hs with
    | [w0, w1, w2, w3, w4], _ => exact ⟨w0, w1, w2, w3, w4, rfl⟩
  have hw := fun d (hd : d ∈ tables_1) => atoms_spec (ws := Jvm.Cond.code x code maxLocals ret :: tables_1) hat d (List.mem_cons_of_mem _ hd)
  have hfit : Fit s := fun {y c} hc i hi => by
    obtain ⟨ha, rfl⟩ := Array.getElem?_eq_some_iff.mp hc
    have q := List.all_eq_true.mp ((Array.all_eq_true_iff_forall_mem.mp hF) _ (Array.getElem_mem ha)) i (List.mem_range.mpr hi)
    simpa [Array.getElem?_eq_getElem hi] using q
  obtain ⟨hsets, hown0⟩ := atoms_of _ (rest_1_c_eq ▸ (show rest_1_c.before _ s = true from hrest))
  have hr0 := Cond.before_iff.mp hown0
  obtain ⟨i0, ei0⟩ := is_v u0
  obtain rfl : w0 = (.int i0) := Option.some.inj ei0
  obtain ⟨i1, ei1⟩ := is_v u1
  obtain rfl : w1 = (.int i1) := Option.some.inj ei1
  obtain ⟨i2, ei2⟩ := is_v u2
  obtain rfl : w2 = (.int i2) := Option.some.inj ei2
  obtain ⟨i3, ei3⟩ := is_v u3
  obtain rfl : w3 = (.int i3) := Option.some.inj ei3
  obtain ⟨i4, ei4⟩ := is_v u4
  obtain rfl : w4 = (.int i4) := Option.some.inj ei4
  have n5 := not_v (Cond.before_iff.mp (hsets _ (List.mem_of_getElem? (i := 2) rfl)))
  obtain ⟨w, e10⟩ := is_v (Cond.before_iff.mp (hsets _ (List.mem_of_getElem? (i := 1) rfl)))
  have S12 : Sta s s.heap "java/lang/String" "COMPACT_STRINGS" "Z" (.int w) := Sta.start e10 (Or.inl (hsets _ (List.mem_of_getElem? (i := 0) rfl)))
  have c17 : ¬ (w = (0 : Int32)) := gotF (Cond.eq_ints e10 (Term.int_eval (0))) n5
  obtain ⟨n, o, h1, h2, h3, _, L, rfl, ⟨rfl, N⟩, hq⟩ := rm0 l s _ hw tables_1 i0 i1 i2 i3 i4 w s.heap c17 (Old.start s) S12 p e ha hc hk s m _ below hf ((Spec.applies_iff_loose hf).mp happ).1 ⟨rfl, State.Warmed39.refl s, rfl⟩ trivial
  refine ⟨n, _, h1, h2, h3, hpost _ _ _ _ _ _ ⟨Cond.after_iff.mpr rfl, Cond.after_iff.mpr (eq_i res_at (Term.int_eval (1)) rfl), trivial⟩ ⟨hq.1, hq.2.1, (hq.2.2.sift fun y hy => Or.inr (N y hy)).mono (by decide) (by decide)⟩⟩
theorem main_1_1 : Claimed_1_1 := comes_1 fun _ _ _ _ _ _ h hF => ⟨h.1, hF⟩
theorem main_1_2 : Claimed_1_2 := comes_1 fun _ _ _ _ _ _ h hF => ⟨h.2.1, hF⟩
end Jvm.Pilot.@@N@@
namespace Jvm.Pilot.@@N@@
open Jvm Jvm.ClassFile Sem Op Lib Jvm.Free Jvm.Stand Jvm.Pilot.@@N@@.Jvm.D
/-! MADE BY PROGRAM (witnessworld.py) out of the Statement's table words and the real class files: 20 classes; the members and pool entries that the words name. The judged class is class 1, her method 1. -/
namespace start1
open Jvm.ClassFile
def u (s : String) : CpInfo := .utf8 (stringToUtf16 s)
/-- a pool by its gaps: so many unusable entries, then the entry; so many at the end -/
def gap : Nat → List CpInfo → List CpInfo
  | 0, r => r
  | n + 1, r => .unusable :: gap n r
def poolList (es : List (Nat × CpInfo)) (last : Nat) : List CpInfo := es.foldr (fun e r => gap e.1 (e.2 :: r)) (gap last [])
def pool (es : List (Nat × CpInfo)) (last : Nat) : Array CpInfo := ⟨poolList es last⟩
def fileOf (pool : Array CpInfo) (this : Nat) (attrs : Array Attribute := #[]) (ms : Array MethodInfo := #[]) (fl : Nat := 33) (sup : Nat := 0) (ifs : Array Nat := #[]) (fds : Array FieldInfo := #[]) : ClassFile where
  minorVersion := 0
  majorVersion := 65
  constantPool := pool
  accessFlags := fl
  thisClass := this
  superClass := sup
  interfaces := ifs
  fields := fds
  methods := ms
  attributes := attrs
def plain (name : String) (sup : Option ClassId) : Class where
  name := name
  kind := .ordinary
  loader := none
  accessFlags := 33
  super := sup
  interfaces := #[]
  cf := none
  fields := #[]
  methods := #[]
  instanceTypes := #[]
  staticTypes := #[]
  resolved := #[]
  callSites := []
  init := .initialized
  statics := none
  mirror := none

def pool0 : Array CpInfo := pool [(5, u "<init>"), (0, u "()V"), (1, .class_ 10), (1, u "java/lang/Object")] 113

def k0c0 : Code := { maxStack := 0, maxLocals := 1, code := object_method_1_code, exceptionTable := #[], attributes := #[] }
def k0m0 : Method := { name := "<init>", desc := "()V", sig := { parameters := [], returnType := none }, accessFlags := 1, code := some k0c0 }
/-- java/lang/Object -/
def k0 : Class := { plain "java/lang/Object" none with
  accessFlags := 33
  interfaces := #[]
  cf := some (fileOf pool0 8 #[] #[{ accessFlags := 1, nameIndex := 5, descriptorIndex := 6, attributes := #[] }] 33 0 #[] #[])
  fields := #[]
  methods := #[k0m0]
  instanceTypes := #[]
  staticTypes := #[]
  resolved := Array.replicate 124 none
  statics := none }

def pool1 : Array CpInfo := pool [(2, .class_ 4), (1, u "java/lang/Object"), (0, u "<init>"), (0, u "()V"), (0, .methodref 8 9), (0, .class_ 10), (0, .nameAndType 11 12), (0, u "java/lang/String"), (0, u "valueOf"), (0, u "(C)Ljava/lang/String;"), (0, .class_ 14), (0, u "com/example/item_type_store/itemtypestore/model/Deployment"), (0, .methodref 13 16), (0, .nameAndType 5 17), (0, u "(Ljava/lang/String;I)V"), (0, .class_ 19), (0, u "com/example/item_type_store/itemtypestore/model/Relation$Element"), (0, .methodref 18 21), (0, .nameAndType 5 22), (0, u "(Ljava/lang/String;Ljava/lang/String;ZZ)V"), (0, .class_ 24), (0, u "com/example/item_type_store/itemtypestore/model/Relation"), (0, .methodref 23 26), (0, .nameAndType 5 27), (0, u "(Ljava/lang/String;Lcom/example/item_type_store/itemtypestore/model/Deployment;Lcom/example/item_type_store/itemtypestore/model/Relation$Element;Lcom/example/item_type_store/itemtypestore/model/Relation$Element;)V"), (0, .methodref 23 29), (0, .nameAndType 30 31), (0, u "manyToMany"), (0, u "()Z"), (0, .class_ 33), (0, u "com/example/item_type_store/itemtypestore/model/RelationManyToManyPinLaw"), (2, u "law"), (0, u "(IIIII)Z")] 5

def k1m0 : Method := { name := "<init>", desc := "()V", sig := { parameters := [], returnType := none }, accessFlags := 1, code := none }
def k1c1 : Code := { maxStack := 6, maxLocals := 18, code := code, exceptionTable := #[], attributes := #[] }
def k1m1 : Method := { name := "law", desc := "(IIIII)Z", sig := { parameters := [.int, .int, .int, .int, .int], returnType := some .boolean }, accessFlags := 9, code := some k1c1 }
/-- com/example/item_type_store/itemtypestore/model/RelationManyToManyPinLaw -/
def k1 : Class := { plain "com/example/item_type_store/itemtypestore/model/RelationManyToManyPinLaw" (some 0) with
  accessFlags := 49
  interfaces := #[]
  cf := some (fileOf pool1 32 #[] #[{ accessFlags := 1, nameIndex := 5, descriptorIndex := 6, attributes := #[] }, { accessFlags := 9, nameIndex := 36, descriptorIndex := 37, attributes := #[] }] 49 2 #[] #[])
  fields := #[]
  methods := #[k1m0, k1m1]
  instanceTypes := #[]
  staticTypes := #[]
  resolved := Array.replicate 43 none
  statics := none }

def pool2 : Array CpInfo := pool [(1, .class_ 2), (0, u "java/io/Serializable"), (0, .class_ 4), (0, u "java/lang/Object")] 2

/-- java/io/Serializable -/
def k2 : Class := { plain "java/io/Serializable" (some 0) with
  accessFlags := 1537
  interfaces := #[]
  cf := some (fileOf pool2 1 #[] #[] 1537 3 #[] #[])
  fields := #[]
  methods := #[]
  instanceTypes := #[]
  staticTypes := #[]
  resolved := Array.replicate 7 none
  statics := none }

def pool3 : Array CpInfo := pool [(1, .class_ 2), (0, u "java/lang/Comparable"), (0, .class_ 4), (0, u "java/lang/Object")] 7

/-- java/lang/Comparable -/
def k3 : Class := { plain "java/lang/Comparable" (some 0) with
  accessFlags := 1537
  interfaces := #[]
  cf := some (fileOf pool3 1 #[] #[] 1537 3 #[] #[])
  fields := #[]
  methods := #[]
  instanceTypes := #[]
  staticTypes := #[]
  resolved := Array.replicate 12 none
  statics := none }

def pool4 : Array CpInfo := pool [(2, .class_ 4), (1, u "java/lang/CharSequence"), (42, .class_ 48), (0, u "java/lang/CharSequence$1CodePointIterator"), (10, .class_ 60), (0, u "java/lang/CharSequence$1CharIterator"), (5, .class_ 67), (0, u "java/lang/Object")] 63

/-- java/lang/CharSequence -/
def k4 : Class := { plain "java/lang/CharSequence" (some 0) with
  accessFlags := 1537
  interfaces := #[]
  cf := some (fileOf pool4 2 #[.nestMembers #[47, 59]] #[] 1537 66 #[] #[])
  fields := #[]
  methods := #[]
  instanceTypes := #[]
  staticTypes := #[]
  resolved := Array.replicate 131 none
  statics := none }

def pool5 : Array CpInfo := pool [(1, .class_ 2), (0, u "java/lang/constant/Constable"), (0, .class_ 4), (0, u "java/lang/Object")] 6

/-- java/lang/constant/Constable -/
def k5 : Class := { plain "java/lang/constant/Constable" (some 0) with
  accessFlags := 1537
  interfaces := #[]
  cf := some (fileOf pool5 1 #[] #[] 1537 3 #[] #[])
  fields := #[]
  methods := #[]
  instanceTypes := #[]
  staticTypes := #[]
  resolved := Array.replicate 11 none
  statics := none }

def pool6 : Array CpInfo := pool [(1, .class_ 2), (0, u "java/lang/constant/ConstantDesc"), (0, .class_ 4), (0, u "java/lang/Object")] 32

/-- java/lang/constant/ConstantDesc -/
def k6 : Class := { plain "java/lang/constant/ConstantDesc" (some 0) with
  accessFlags := 1537
  interfaces := #[]
  cf := some (fileOf pool6 1 #[] #[] 1537 3 #[] #[])
  fields := #[]
  methods := #[]
  instanceTypes := #[]
  staticTypes := #[]
  resolved := Array.replicate 37 none
  statics := none }

def pool7 : Array CpInfo := pool [(1, .methodref 2 3), (0, .class_ 4), (0, .nameAndType 5 6), (0, u "java/lang/Object"), (0, u "<init>"), (0, u "()V"), (2, .fieldref 10 11), (0, .class_ 12), (0, .nameAndType 13 14), (0, u "java/lang/String"), (0, u "value"), (0, u "[B"), (0, .fieldref 10 16), (0, .nameAndType 17 18), (0, u "coder"), (0, u "B"), (2, u "hash"), (0, u "I"), (2, u "hashIsZero"), (0, u "Z"), (11, .fieldref 10 39), (0, .nameAndType 40 26), (0, u "COMPACT_STRINGS"), (12, u "toBytes"), (53, .class_ 109), (1, u "java/lang/StringLatin1"), (99, .methodref 10 210), (0, .nameAndType 5 211), (0, u "([BB)V"), (157, u "(C)Z"), (205, .class_ 576), (0, u "java/lang/CharSequence"), (22, u "CASE_INSENSITIVE_ORDER"), (0, u "Ljava/util/Comparator;"), (181, u "valueOf"), (0, u "(C)Ljava/lang/String;"), (231, .methodref 107 1016), (0, .nameAndType 1017 369), (0, u "canEncode"), (0, .methodref 107 1019), (0, .nameAndType 53 1020), (0, u "(C)[B"), (80, u "serialPersistentFields"), (0, u "[Ljava/io/ObjectStreamField;"), (0, .class_ 1104), (0, u "java/lang/String$CaseInsensitiveComparator"), (1, .class_ 1107), (0, u "java/io/Serializable"), (0, .class_ 1109), (0, u "java/lang/Comparable"), (0, .class_ 1111), (0, u "java/lang/constant/Constable"), (0, .class_ 1113), (0, u "java/lang/constant/ConstantDesc"), (2, u "serialVersionUID"), (0, u "J"), (3, u "REPL"), (0, u "C"), (2, u "LATIN1"), (1, u "UTF16")] 323

def k7m0 : Method := { name := "<init>", desc := "()V", sig := { parameters := [], returnType := none }, accessFlags := 1, code := none }
def k7c1 : Code := { maxStack := 4, maxLocals := 1, code := jdk_42_method_139_code, exceptionTable := #[], attributes := #[] }
def k7m1 : Method := { name := "valueOf", desc := "(C)Ljava/lang/String;", sig := { parameters := [.char], returnType := some (.object "java/lang/String") }, accessFlags := 9, code := some k7c1 }
def k7c2 : Code := { maxStack := 2, maxLocals := 3, code := jdk_42_method_151_code, exceptionTable := #[], attributes := #[] }
def k7m2 : Method := { name := "<init>", desc := "([BB)V", sig := { parameters := [(.array .byte), .byte], returnType := none }, accessFlags := 0, code := some k7c2 }
/-- java/lang/String -/
def k7 : Class := { plain "java/lang/String" (some 0) with
  accessFlags := 49
  interfaces := #[2, 3, 4, 5, 6]
  cf := some (fileOf pool7 10 #[.nestMembers #[1103]] #[{ accessFlags := 1, nameIndex := 5, descriptorIndex := 6, attributes := #[] }, { accessFlags := 9, nameIndex := 782, descriptorIndex := 783, attributes := #[] }, { accessFlags := 0, nameIndex := 5, descriptorIndex := 211, attributes := #[] }] 49 2 #[1106, 1108, 575, 1110, 1112] #[{ accessFlags := 18, nameIndex := 13, descriptorIndex := 14, attributes := #[] }, { accessFlags := 18, nameIndex := 17, descriptorIndex := 18, attributes := #[] }, { accessFlags := 2, nameIndex := 21, descriptorIndex := 22, attributes := #[] }, { accessFlags := 2, nameIndex := 25, descriptorIndex := 26, attributes := #[] }, { accessFlags := 26, nameIndex := 1116, descriptorIndex := 1117, attributes := #[] }, { accessFlags := 24, nameIndex := 40, descriptorIndex := 26, attributes := #[] }, { accessFlags := 26, nameIndex := 1101, descriptorIndex := 1102, attributes := #[] }, { accessFlags := 26, nameIndex := 1121, descriptorIndex := 1122, attributes := #[] }, { accessFlags := 25, nameIndex := 599, descriptorIndex := 600, attributes := #[] }, { accessFlags := 24, nameIndex := 1125, descriptorIndex := 18, attributes := #[] }, { accessFlags := 24, nameIndex := 1127, descriptorIndex := 18, attributes := #[] }])
  fields := #[{ name := "value", type := (.array .byte), accessFlags := 18, slot := 0, constantValue := 0 }, { name := "coder", type := .byte, accessFlags := 18, slot := 1, constantValue := 0 }, { name := "hash", type := .int, accessFlags := 2, slot := 2, constantValue := 0 }, { name := "hashIsZero", type := .boolean, accessFlags := 2, slot := 3, constantValue := 0 }, { name := "serialVersionUID", type := .long, accessFlags := 26, slot := 0, constantValue := 0 }, { name := "COMPACT_STRINGS", type := .boolean, accessFlags := 24, slot := 1, constantValue := 0 }, { name := "serialPersistentFields", type := (.array (.object "java/io/ObjectStreamField")), accessFlags := 26, slot := 2, constantValue := 0 }, { name := "REPL", type := .char, accessFlags := 26, slot := 3, constantValue := 0 }, { name := "CASE_INSENSITIVE_ORDER", type := (.object "java/util/Comparator"), accessFlags := 25, slot := 4, constantValue := 0 }, { name := "LATIN1", type := .byte, accessFlags := 24, slot := 5, constantValue := 0 }, { name := "UTF16", type := .byte, accessFlags := 24, slot := 6, constantValue := 0 }]
  methods := #[k7m0, k7m1, k7m2]
  instanceTypes := #[(.array .byte), .byte, .int, .boolean]
  staticTypes := #[.long, .boolean, (.array (.object "java/io/ObjectStreamField")), .char, (.object "java/util/Comparator"), .byte, .byte]
  resolved := Array.replicate 1451 none
  statics := some 0 }

def pool8 : Array CpInfo := pool [(4, .class_ 6), (1, u "java/lang/Object"), (0, u "<init>"), (0, u "()V"), (5, .class_ 16), (1, u "java/lang/StringLatin1"), (73, u "canEncode"), (14, u "(C)Z"), (15, u "$assertionsDisabled"), (0, u "Z"), (98, .class_ 223), (1, u "java/lang/StringLatin1$LinesSpliterator"), (156, u "toBytes"), (1, u "(C)[B"), (7, .class_ 391), (0, u "java/lang/StringLatin1$CharsSpliterator")] 3

def k8m0 : Method := { name := "<init>", desc := "()V", sig := { parameters := [], returnType := none }, accessFlags := 0, code := none }
def k8c1 : Code := { maxStack := 2, maxLocals := 1, code := jdk_43_method_3_code, exceptionTable := #[], attributes := #[] }
def k8m1 : Method := { name := "canEncode", desc := "(C)Z", sig := { parameters := [.char], returnType := some .boolean }, accessFlags := 9, code := some k8c1 }
def k8c2 : Code := { maxStack := 4, maxLocals := 1, code := jdk_43_method_46_code, exceptionTable := #[], attributes := #[] }
def k8m2 : Method := { name := "toBytes", desc := "(C)[B", sig := { parameters := [.char], returnType := some (.array .byte) }, accessFlags := 9, code := some k8c2 }
/-- java/lang/StringLatin1 -/
def k8 : Class := { plain "java/lang/StringLatin1" (some 0) with
  accessFlags := 48
  interfaces := #[]
  cf := some (fileOf pool8 14 #[.nestMembers #[390, 221]] #[{ accessFlags := 0, nameIndex := 7, descriptorIndex := 8, attributes := #[] }, { accessFlags := 9, nameIndex := 90, descriptorIndex := 105, attributes := #[] }, { accessFlags := 9, nameIndex := 380, descriptorIndex := 382, attributes := #[] }] 48 4 #[] #[{ accessFlags := 4120, nameIndex := 121, descriptorIndex := 122, attributes := #[] }])
  fields := #[{ name := "$assertionsDisabled", type := .boolean, accessFlags := 4120, slot := 0, constantValue := 0 }]
  methods := #[k8m0, k8m1, k8m2]
  instanceTypes := #[]
  staticTypes := #[.boolean]
  resolved := Array.replicate 395 none
  statics := none }

def pool9 : Array CpInfo := pool [(1, .methodref 2 3), (0, .class_ 4), (0, .nameAndType 5 6), (0, u "java/lang/Object"), (0, u "<init>"), (0, u "()V"), (0, .class_ 8), (0, u "java/lang/Record")] 13

def k9c0 : Code := { maxStack := 1, maxLocals := 1, code := jdk_30_method_1_code, exceptionTable := #[], attributes := #[] }
def k9m0 : Method := { name := "<init>", desc := "()V", sig := { parameters := [], returnType := none }, accessFlags := 4, code := some k9c0 }
/-- java/lang/Record -/
def k9 : Class := { plain "java/lang/Record" (some 0) with
  accessFlags := 1057
  interfaces := #[]
  cf := some (fileOf pool9 7 #[] #[{ accessFlags := 4, nameIndex := 5, descriptorIndex := 6, attributes := #[] }] 1057 2 #[] #[])
  fields := #[]
  methods := #[k9m0]
  instanceTypes := #[]
  staticTypes := #[]
  resolved := Array.replicate 22 none
  statics := none }

def pool10 : Array CpInfo := pool [(1, .methodref 2 3), (0, .class_ 4), (0, .nameAndType 5 6), (0, u "java/lang/Record"), (0, u "<init>"), (0, u "()V"), (0, .fieldref 8 9), (0, .class_ 10), (0, .nameAndType 11 12), (0, u "com/example/item_type_store/itemtypestore/model/Relation$Element"), (0, u "qualifier"), (0, u "Ljava/lang/String;"), (0, .fieldref 8 14), (0, .nameAndType 15 12), (0, u "typeCode"), (0, .fieldref 8 17), (0, .nameAndType 18 19), (0, u "many"), (0, u "Z"), (0, .fieldref 8 21), (0, .nameAndType 22 19), (0, u "ordered"), (12, u "(Ljava/lang/String;Ljava/lang/String;ZZ)V"), (9, u "()Z"), (3, .class_ 50), (0, u "com/example/item_type_store/itemtypestore/model/Relation")] 22

def k10c0 : Code := { maxStack := 2, maxLocals := 5, code := prog_109_method_1_code, exceptionTable := #[], attributes := #[] }
def k10m0 : Method := { name := "<init>", desc := "(Ljava/lang/String;Ljava/lang/String;ZZ)V", sig := { parameters := [(.object "java/lang/String"), (.object "java/lang/String"), .boolean, .boolean], returnType := none }, accessFlags := 1, code := some k10c0 }
def k10c1 : Code := { maxStack := 1, maxLocals := 1, code := prog_109_method_7_code, exceptionTable := #[], attributes := #[] }
def k10m1 : Method := { name := "many", desc := "()Z", sig := { parameters := [], returnType := some .boolean }, accessFlags := 1, code := some k10c1 }
/-- com/example/item_type_store/itemtypestore/model/Relation$Element -/
def k10 : Class := { plain "com/example/item_type_store/itemtypestore/model/Relation$Element" (some 9) with
  accessFlags := 49
  interfaces := #[]
  cf := some (fileOf pool10 8 #[.nestHost 49] #[{ accessFlags := 1, nameIndex := 5, descriptorIndex := 35, attributes := #[] }, { accessFlags := 1, nameIndex := 18, descriptorIndex := 45, attributes := #[] }] 49 2 #[] #[{ accessFlags := 18, nameIndex := 11, descriptorIndex := 12, attributes := #[] }, { accessFlags := 18, nameIndex := 15, descriptorIndex := 12, attributes := #[] }, { accessFlags := 18, nameIndex := 18, descriptorIndex := 19, attributes := #[] }, { accessFlags := 18, nameIndex := 22, descriptorIndex := 19, attributes := #[] }])
  fields := #[{ name := "qualifier", type := (.object "java/lang/String"), accessFlags := 18, slot := 0, constantValue := 0 }, { name := "typeCode", type := (.object "java/lang/String"), accessFlags := 18, slot := 1, constantValue := 0 }, { name := "many", type := .boolean, accessFlags := 18, slot := 2, constantValue := 0 }, { name := "ordered", type := .boolean, accessFlags := 18, slot := 3, constantValue := 0 }]
  methods := #[k10m0, k10m1]
  instanceTypes := #[(.object "java/lang/String"), (.object "java/lang/String"), .boolean, .boolean]
  staticTypes := #[]
  resolved := Array.replicate 73 none
  statics := none }

def pool11 : Array CpInfo := pool [(1, .methodref 2 3), (0, .class_ 4), (0, .nameAndType 5 6), (0, u "java/lang/Record"), (0, u "<init>"), (0, u "()V"), (0, .fieldref 8 9), (0, .class_ 10), (0, .nameAndType 11 12), (0, u "com/example/item_type_store/itemtypestore/model/Relation"), (0, u "code"), (0, u "Ljava/lang/String;"), (0, .fieldref 8 14), (0, .nameAndType 15 16), (0, u "deployment"), (0, u "Lcom/example/item_type_store/itemtypestore/model/Deployment;"), (0, .fieldref 8 18), (0, .nameAndType 19 20), (0, u "source"), (0, u "Lcom/example/item_type_store/itemtypestore/model/Relation$Element;"), (0, .fieldref 8 22), (0, .nameAndType 23 20), (0, u "target"), (0, .methodref 25 26), (0, .class_ 27), (0, .nameAndType 28 29), (0, u "com/example/item_type_store/itemtypestore/model/Relation$Element"), (0, u "many"), (0, u "()Z"), (12, u "(Ljava/lang/String;Lcom/example/item_type_store/itemtypestore/model/Deployment;Lcom/example/item_type_store/itemtypestore/model/Relation$Element;Lcom/example/item_type_store/itemtypestore/model/Relation$Element;)V"), (3, u "manyToMany")] 31

def k11c0 : Code := { maxStack := 2, maxLocals := 5, code := prog_108_method_1_code, exceptionTable := #[], attributes := #[] }
def k11m0 : Method := { name := "<init>", desc := "(Ljava/lang/String;Lcom/example/item_type_store/itemtypestore/model/Deployment;Lcom/example/item_type_store/itemtypestore/model/Relation$Element;Lcom/example/item_type_store/itemtypestore/model/Relation$Element;)V", sig := { parameters := [(.object "java/lang/String"), (.object "com/example/item_type_store/itemtypestore/model/Deployment"), (.object "com/example/item_type_store/itemtypestore/model/Relation$Element"), (.object "com/example/item_type_store/itemtypestore/model/Relation$Element")], returnType := none }, accessFlags := 1, code := some k11c0 }
def k11c1 : Code := { maxStack := 1, maxLocals := 1, code := prog_108_method_2_code, exceptionTable := #[], attributes := #[] }
def k11m1 : Method := { name := "manyToMany", desc := "()Z", sig := { parameters := [], returnType := some .boolean }, accessFlags := 1, code := some k11c1 }
/-- com/example/item_type_store/itemtypestore/model/Relation -/
def k11 : Class := { plain "com/example/item_type_store/itemtypestore/model/Relation" (some 9) with
  accessFlags := 49
  interfaces := #[]
  cf := some (fileOf pool11 8 #[.nestMembers #[25]] #[{ accessFlags := 1, nameIndex := 5, descriptorIndex := 42, attributes := #[] }, { accessFlags := 1, nameIndex := 46, descriptorIndex := 29, attributes := #[] }] 49 2 #[] #[{ accessFlags := 18, nameIndex := 11, descriptorIndex := 12, attributes := #[] }, { accessFlags := 18, nameIndex := 15, descriptorIndex := 16, attributes := #[] }, { accessFlags := 18, nameIndex := 19, descriptorIndex := 20, attributes := #[] }, { accessFlags := 18, nameIndex := 23, descriptorIndex := 20, attributes := #[] }])
  fields := #[{ name := "code", type := (.object "java/lang/String"), accessFlags := 18, slot := 0, constantValue := 0 }, { name := "deployment", type := (.object "com/example/item_type_store/itemtypestore/model/Deployment"), accessFlags := 18, slot := 1, constantValue := 0 }, { name := "source", type := (.object "com/example/item_type_store/itemtypestore/model/Relation$Element"), accessFlags := 18, slot := 2, constantValue := 0 }, { name := "target", type := (.object "com/example/item_type_store/itemtypestore/model/Relation$Element"), accessFlags := 18, slot := 3, constantValue := 0 }]
  methods := #[k11m0, k11m1]
  instanceTypes := #[(.object "java/lang/String"), (.object "com/example/item_type_store/itemtypestore/model/Deployment"), (.object "com/example/item_type_store/itemtypestore/model/Relation$Element"), (.object "com/example/item_type_store/itemtypestore/model/Relation$Element")]
  staticTypes := #[]
  resolved := Array.replicate 78 none
  statics := none }

def pool12 : Array CpInfo := pool [(1, .methodref 2 3), (0, .class_ 4), (0, .nameAndType 5 6), (0, u "java/lang/Record"), (0, u "<init>"), (0, u "()V"), (0, .fieldref 8 9), (0, .class_ 10), (0, .nameAndType 11 12), (0, u "com/example/item_type_store/itemtypestore/model/Deployment"), (0, u "table"), (0, u "Ljava/lang/String;"), (0, .fieldref 8 14), (0, .nameAndType 15 16), (0, u "typecode"), (0, u "I"), (12, u "(Ljava/lang/String;I)V")] 27

def k12c0 : Code := { maxStack := 2, maxLocals := 3, code := prog_101_method_1_code, exceptionTable := #[], attributes := #[] }
def k12m0 : Method := { name := "<init>", desc := "(Ljava/lang/String;I)V", sig := { parameters := [(.object "java/lang/String"), .int], returnType := none }, accessFlags := 1, code := some k12c0 }
/-- com/example/item_type_store/itemtypestore/model/Deployment -/
def k12 : Class := { plain "com/example/item_type_store/itemtypestore/model/Deployment" (some 9) with
  accessFlags := 49
  interfaces := #[]
  cf := some (fileOf pool12 8 #[] #[{ accessFlags := 1, nameIndex := 5, descriptorIndex := 29, attributes := #[] }] 49 2 #[] #[{ accessFlags := 18, nameIndex := 11, descriptorIndex := 12, attributes := #[] }, { accessFlags := 18, nameIndex := 15, descriptorIndex := 16, attributes := #[] }])
  fields := #[{ name := "table", type := (.object "java/lang/String"), accessFlags := 18, slot := 0, constantValue := 0 }, { name := "typecode", type := .int, accessFlags := 18, slot := 1, constantValue := 0 }]
  methods := #[k12m0]
  instanceTypes := #[(.object "java/lang/String"), .int]
  staticTypes := #[]
  resolved := Array.replicate 57 none
  statics := none }

def pool13 : Array CpInfo := pool [(2, .class_ 4), (1, u "java/lang/Object"), (0, u "<init>"), (0, u "()V"), (17, .class_ 26), (1, u "jdk/internal/util/Preconditions"), (28, .class_ 56), (0, u "jdk/internal/util/Preconditions$4"), (57, .class_ 115), (0, u "jdk/internal/util/Preconditions$1"), (7, u "SIOOBE_FORMATTER"), (0, u "Ljava/util/function/BiFunction;"), (0, .class_ 126), (0, u "jdk/internal/util/Preconditions$2"), (3, u "AIOOBE_FORMATTER"), (0, .class_ 132), (0, u "jdk/internal/util/Preconditions$3"), (3, u "IOOBE_FORMATTER")] 57

def k13m0 : Method := { name := "<init>", desc := "()V", sig := { parameters := [], returnType := none }, accessFlags := 1, code := none }
/-- jdk/internal/util/Preconditions -/
def k13 : Class := { plain "jdk/internal/util/Preconditions" (some 0) with
  accessFlags := 33
  interfaces := #[]
  cf := some (fileOf pool13 24 #[.nestMembers #[55, 131, 125, 114]] #[{ accessFlags := 1, nameIndex := 5, descriptorIndex := 6, attributes := #[] }] 33 2 #[] #[{ accessFlags := 25, nameIndex := 123, descriptorIndex := 124, attributes := #[] }, { accessFlags := 25, nameIndex := 130, descriptorIndex := 124, attributes := #[] }, { accessFlags := 25, nameIndex := 136, descriptorIndex := 124, attributes := #[] }])
  fields := #[{ name := "SIOOBE_FORMATTER", type := (.object "java/util/function/BiFunction"), accessFlags := 25, slot := 0, constantValue := 0 }, { name := "AIOOBE_FORMATTER", type := (.object "java/util/function/BiFunction"), accessFlags := 25, slot := 1, constantValue := 0 }, { name := "IOOBE_FORMATTER", type := (.object "java/util/function/BiFunction"), accessFlags := 25, slot := 2, constantValue := 0 }]
  methods := #[k13m0]
  instanceTypes := #[]
  staticTypes := #[(.object "java/util/function/BiFunction"), (.object "java/util/function/BiFunction"), (.object "java/util/function/BiFunction")]
  resolved := Array.replicate 194 none
  statics := some 1 }

def pool14 : Array CpInfo := pool [(9, u "<init>"), (6, .class_ 18), (1, u "java/lang/Object"), (0, u "()V"), (1, .class_ 23), (1, u "jdk/internal/util/ArraysSupport"), (0, u "LOG2_ARRAY_LONG_INDEX_SCALE"), (0, u "I"), (2, u "U"), (0, u "Ljdk/internal/misc/Unsafe;"), (8, u "BIG_ENDIAN"), (0, u "Z"), (8, u "LOG2_BYTE_BIT_SIZE"), (4, u "LOG2_ARRAY_INT_INDEX_SCALE"), (54, u "JLA"), (0, u "Ljdk/internal/access/JavaLangAccess;"), (11, u "LOG2_ARRAY_BOOLEAN_INDEX_SCALE"), (9, u "LOG2_ARRAY_BYTE_INDEX_SCALE"), (5, u "LOG2_ARRAY_CHAR_INDEX_SCALE"), (5, u "LOG2_ARRAY_SHORT_INDEX_SCALE"), (18, u "LOG2_ARRAY_FLOAT_INDEX_SCALE"), (24, u "LOG2_ARRAY_DOUBLE_INDEX_SCALE"), (89, u "T_BOOLEAN"), (2, u "T_CHAR"), (1, u "T_FLOAT"), (1, u "T_DOUBLE"), (1, u "T_BYTE"), (1, u "T_SHORT"), (1, u "T_INT"), (1, u "T_LONG"), (1, u "SOFT_MAX_ARRAY_LENGTH")] 83

def k14m0 : Method := { name := "<init>", desc := "()V", sig := { parameters := [], returnType := none }, accessFlags := 2, code := none }
/-- jdk/internal/util/ArraysSupport -/
def k14 : Class := { plain "jdk/internal/util/ArraysSupport" (some 0) with
  accessFlags := 33
  interfaces := #[]
  cf := some (fileOf pool14 21 #[] #[{ accessFlags := 2, nameIndex := 9, descriptorIndex := 19, attributes := #[] }] 33 16 #[] #[{ accessFlags := 24, nameIndex := 28, descriptorIndex := 29, attributes := #[] }, { accessFlags := 26, nameIndex := 38, descriptorIndex := 39, attributes := #[] }, { accessFlags := 25, nameIndex := 121, descriptorIndex := 25, attributes := #[] }, { accessFlags := 25, nameIndex := 131, descriptorIndex := 25, attributes := #[] }, { accessFlags := 25, nameIndex := 137, descriptorIndex := 25, attributes := #[] }, { accessFlags := 25, nameIndex := 143, descriptorIndex := 25, attributes := #[] }, { accessFlags := 25, nameIndex := 53, descriptorIndex := 25, attributes := #[] }, { accessFlags := 25, nameIndex := 24, descriptorIndex := 25, attributes := #[] }, { accessFlags := 25, nameIndex := 162, descriptorIndex := 25, attributes := #[] }, { accessFlags := 25, nameIndex := 187, descriptorIndex := 25, attributes := #[] }, { accessFlags := 26, nameIndex := 48, descriptorIndex := 25, attributes := #[] }, { accessFlags := 25, nameIndex := 277, descriptorIndex := 25, attributes := #[] }, { accessFlags := 25, nameIndex := 280, descriptorIndex := 25, attributes := #[] }, { accessFlags := 25, nameIndex := 282, descriptorIndex := 25, attributes := #[] }, { accessFlags := 25, nameIndex := 284, descriptorIndex := 25, attributes := #[] }, { accessFlags := 25, nameIndex := 286, descriptorIndex := 25, attributes := #[] }, { accessFlags := 25, nameIndex := 288, descriptorIndex := 25, attributes := #[] }, { accessFlags := 25, nameIndex := 290, descriptorIndex := 25, attributes := #[] }, { accessFlags := 25, nameIndex := 292, descriptorIndex := 25, attributes := #[] }, { accessFlags := 26, nameIndex := 108, descriptorIndex := 109, attributes := #[] }, { accessFlags := 25, nameIndex := 294, descriptorIndex := 25, attributes := #[] }])
  fields := #[{ name := "U", type := (.object "jdk/internal/misc/Unsafe"), accessFlags := 24, slot := 0, constantValue := 0 }, { name := "BIG_ENDIAN", type := .boolean, accessFlags := 26, slot := 1, constantValue := 0 }, { name := "LOG2_ARRAY_BOOLEAN_INDEX_SCALE", type := .int, accessFlags := 25, slot := 2, constantValue := 0 }, { name := "LOG2_ARRAY_BYTE_INDEX_SCALE", type := .int, accessFlags := 25, slot := 3, constantValue := 0 }, { name := "LOG2_ARRAY_CHAR_INDEX_SCALE", type := .int, accessFlags := 25, slot := 4, constantValue := 0 }, { name := "LOG2_ARRAY_SHORT_INDEX_SCALE", type := .int, accessFlags := 25, slot := 5, constantValue := 0 }, { name := "LOG2_ARRAY_INT_INDEX_SCALE", type := .int, accessFlags := 25, slot := 6, constantValue := 0 }, { name := "LOG2_ARRAY_LONG_INDEX_SCALE", type := .int, accessFlags := 25, slot := 7, constantValue := 0 }, { name := "LOG2_ARRAY_FLOAT_INDEX_SCALE", type := .int, accessFlags := 25, slot := 8, constantValue := 0 }, { name := "LOG2_ARRAY_DOUBLE_INDEX_SCALE", type := .int, accessFlags := 25, slot := 9, constantValue := 0 }, { name := "LOG2_BYTE_BIT_SIZE", type := .int, accessFlags := 26, slot := 10, constantValue := 0 }, { name := "T_BOOLEAN", type := .int, accessFlags := 25, slot := 11, constantValue := 0 }, { name := "T_CHAR", type := .int, accessFlags := 25, slot := 12, constantValue := 0 }, { name := "T_FLOAT", type := .int, accessFlags := 25, slot := 13, constantValue := 0 }, { name := "T_DOUBLE", type := .int, accessFlags := 25, slot := 14, constantValue := 0 }, { name := "T_BYTE", type := .int, accessFlags := 25, slot := 15, constantValue := 0 }, { name := "T_SHORT", type := .int, accessFlags := 25, slot := 16, constantValue := 0 }, { name := "T_INT", type := .int, accessFlags := 25, slot := 17, constantValue := 0 }, { name := "T_LONG", type := .int, accessFlags := 25, slot := 18, constantValue := 0 }, { name := "JLA", type := (.object "jdk/internal/access/JavaLangAccess"), accessFlags := 26, slot := 19, constantValue := 0 }, { name := "SOFT_MAX_ARRAY_LENGTH", type := .int, accessFlags := 25, slot := 20, constantValue := 0 }]
  methods := #[k14m0]
  instanceTypes := #[]
  staticTypes := #[(.object "jdk/internal/misc/Unsafe"), .boolean, .int, .int, .int, .int, .int, .int, .int, .int, .int, .int, .int, .int, .int, .int, .int, .int, .int, (.object "jdk/internal/access/JavaLangAccess"), .int]
  resolved := Array.replicate 378 none
  statics := none }

def pool15 : Array CpInfo := pool [(1, u "java/lang/Cloneable"), (0, .class_ 1), (0, u "java/lang/Object"), (0, .class_ 3)] 3

/-- java/lang/Cloneable -/
def k15 : Class := { plain "java/lang/Cloneable" (some 0) with
  accessFlags := 1537
  interfaces := #[]
  cf := some (fileOf pool15 2 #[] #[] 1537 4 #[] #[])
  fields := #[]
  methods := #[]
  instanceTypes := #[]
  staticTypes := #[]
  resolved := Array.replicate 8 none
  statics := none }

/-- the primitive byte -/
def k16 : Class := { plain "byte" none with kind := .primitive 'B', accessFlags := 0x411 }
/-- [B -/
def k17 : Class := { plain "[B" (some 0) with kind := .array 16 .byte, interfaces := #[15, 2], accessFlags := 1041 }

/-- the primitive int -/
def k18 : Class := { plain "int" none with kind := .primitive 'I', accessFlags := 0x411 }
/-- [I -/
def k19 : Class := { plain "[I" (some 0) with kind := .array 18 .int, interfaces := #[15, 2], accessFlags := 1041 }

def heap : Heap := #[{ cls := 7, slots := #[.long 0, .int 1, .null, .int 0, .null, .int 0, .int 0], vm := .statics 7 },
  { cls := 13, slots := #[.null, .null, .null], vm := .statics 13 }]
def classes : Array Class := #[k0, k1, k2, k3, k4, k5, k6, k7, k8, k9, k10, k11, k12, k13, k14, k15, k16, k17, k18, k19]
def interned : List (Array UInt16 × Addr) := []
def slotsUsed : Nat := 10
def theMethod : MethodId := ⟨1, 1⟩
def args0 : Array Value := #[.int 5, .int 300, .int 1, .int 7, .int 9]
def aboutOver (below : List Frame) : State where
  vm := { classes := classes, interned := interned.toArray }
  heap := heap
  slotsUsed := slotsUsed
  threads := #[{ frames := .invoking theMethod args0 :: below }]
def below0 : List Frame := [.native { method := ⟨0, 0⟩, args := #[] }]
def about1 : State := aboutOver below0
def p0 : Program := .bare "" "" ""
def e0 : Env := launch0.env 0 0 0
theorem w_frames : about1.frames = Frame.invoking theMethod args0 :: below0 := rfl
set_option maxRecDepth 65536 in
theorem w_args : argsFit about1.vm theMethod args0 = true := by decide +kernel
set_option maxRecDepth 65536 in
theorem w_heap : heapFits about1 = true := by decide +kernel
set_option maxRecDepth 65536 in
theorem w_runnable : about1.curStatus? = some .runnable := by decide +kernel
set_option maxRecDepth 65536 in
theorem w_alone : about1.alone = true := by decide +kernel
set_option maxRecDepth 65536 in
theorem w_named : about1.methodNamed? x = some theMethod := by decide +kernel
set_option maxRecDepth 65536 in
theorem w_hears : about1.hears theMethod below0 = true := by decide +kernel
set_option maxRecDepth 65536 in
theorem w_ripe : about1.ripe theMethod args0 below0 = true := by decide +kernel
theorem w_running : about1.status = .running := rfl
set_option maxRecDepth 65536 in
theorem w_room : about1.hasRoom e0.platform room_1 = true :=
  launch0.hasRoom_least _ room_1 (by decide +kernel) (by decide +kernel) (by decide +kernel) (by decide +kernel) (by decide +kernel) (by decide +kernel)
theorem allAtoms_all (ts : List Jvm.Cond) (a : Array Jvm.Value) (st : Jvm.State) : (allAtoms ts).before a st = ts.all (fun c => c.before a st) := by
  induction ts with
  | nil => rfl
  | cons c t ih =>
    show (Jvm.Cond.and c (allAtoms t)).before a st = _
    rw [Jvm.Cond.before_and, ih, List.all_cons]
def words1 : List Jvm.Cond := Jvm.Cond.code x code maxLocals ret :: tables_1
/-- a 'code' word, met by the world's own term for the bytes: nothing is compared byte by byte -/
theorem code_word {y : MethodName} {bytes : ByteArray} {mx : Nat} {rt : Option FieldType} {a : Array Value} {s : State} {m : MethodId} {meth : Method} {c : Code} (h1 : s.methodNamed? y = some m) (h2 : s.vm.method? m = some meth) (h3 : meth.code = some c) (h4 : c.code = bytes)
    (h5 : (c.maxLocals == mx && c.exceptionTable.isEmpty && decide (c.maxStack ≤ mostOperands) && decide (meth.sig.returnType = rt) && !meth.locks && decide (parseMethodDescriptor y.desc = some meth.sig)) = true) : (Jvm.Cond.code y bytes mx rt).before a s = true := by
  simp only [Bool.and_eq_true, beq_iff_eq, Bool.not_eq_true', decide_eq_true_eq] at h5
  obtain ⟨⟨⟨⟨⟨g1, g2⟩, g3⟩, g4⟩, g5⟩, g6⟩ := h5
  simp [Cond.before, Cond.holds, Cond.value, h1, h2, h3, h4, g1, g2, g3, g4, g5, g6]
def isCode : Jvm.Cond → Bool
  | .code _ _ _ _ => true
  | _ => false
theorem all_split {L : List Jvm.Cond} {P : Jvm.Cond → Bool} (h1 : L.all (fun c => isCode c || P c) = true) (h2 : ∀ c ∈ L.filter isCode, P c = true) : L.all P = true := by
  refine List.all_eq_true.mpr fun c hc => ?_
  have h := List.all_eq_true.mp h1 c hc
  rcases Bool.eq_false_or_eq_true (isCode c) with hi | hi
  · exact h2 c (List.mem_filter.mpr ⟨hc, hi⟩)
  · simpa [hi] using h
set_option maxRecDepth 65536 in
theorem w_c0 : (Jvm.Cond.code x code maxLocals ret).before args0 about1 = true := code_word (m := ⟨1, 1⟩) (meth := k1m1) (c := k1c1) (by decide +kernel) rfl rfl rfl (by decide +kernel)
set_option maxRecDepth 65536 in
theorem w_c1 : (Jvm.Cond.code ({ cls := "java/lang/String", name := "valueOf", desc := "(C)Ljava/lang/String;" } : Jvm.MethodName) jdk_42_method_139_code (1 : Nat) (Option.some (Jvm.ClassFile.FieldType.object "java/lang/String"))).before args0 about1 = true := code_word (m := ⟨7, 1⟩) (meth := k7m1) (c := k7c1) (by decide +kernel) rfl rfl rfl (by decide +kernel)
set_option maxRecDepth 65536 in
theorem w_c2 : (Jvm.Cond.code ({ cls := "java/lang/StringLatin1", name := "canEncode", desc := "(C)Z" } : Jvm.MethodName) jdk_43_method_3_code (1 : Nat) (Option.some Jvm.ClassFile.FieldType.boolean)).before args0 about1 = true := code_word (m := ⟨8, 1⟩) (meth := k8m1) (c := k8c1) (by decide +kernel) rfl rfl rfl (by decide +kernel)
set_option maxRecDepth 65536 in
theorem w_c3 : (Jvm.Cond.code ({ cls := "java/lang/StringLatin1", name := "toBytes", desc := "(C)[B" } : Jvm.MethodName) jdk_43_method_46_code (1 : Nat) (Option.some (Jvm.ClassFile.FieldType.array Jvm.ClassFile.FieldType.byte))).before args0 about1 = true := code_word (m := ⟨8, 2⟩) (meth := k8m2) (c := k8c2) (by decide +kernel) rfl rfl rfl (by decide +kernel)
set_option maxRecDepth 65536 in
theorem w_c4 : (Jvm.Cond.code ({ cls := "java/lang/String", name := "<init>", desc := "([BB)V" } : Jvm.MethodName) jdk_42_method_151_code (3 : Nat) (Option.none : Option Jvm.ClassFile.FieldType)).before args0 about1 = true := code_word (m := ⟨7, 2⟩) (meth := k7m2) (c := k7c2) (by decide +kernel) rfl rfl rfl (by decide +kernel)
set_option maxRecDepth 65536 in
theorem w_c5 : (Jvm.Cond.code ({ cls := "java/lang/Object", name := "<init>", desc := "()V" } : Jvm.MethodName) object_method_1_code (1 : Nat) (Option.none : Option Jvm.ClassFile.FieldType)).before args0 about1 = true := code_word (m := ⟨0, 0⟩) (meth := k0m0) (c := k0c0) (by decide +kernel) rfl rfl rfl (by decide +kernel)
set_option maxRecDepth 65536 in
theorem w_c6 : (Jvm.Cond.code ({ cls := "com/example/item_type_store/itemtypestore/model/Relation$Element", name := "<init>", desc := "(Ljava/lang/String;Ljava/lang/String;ZZ)V" } : Jvm.MethodName) prog_109_method_1_code (5 : Nat) (Option.none : Option Jvm.ClassFile.FieldType)).before args0 about1 = true := code_word (m := ⟨10, 0⟩) (meth := k10m0) (c := k10c0) (by decide +kernel) rfl rfl rfl (by decide +kernel)
set_option maxRecDepth 65536 in
theorem w_c7 : (Jvm.Cond.code ({ cls := "java/lang/Record", name := "<init>", desc := "()V" } : Jvm.MethodName) jdk_30_method_1_code (1 : Nat) (Option.none : Option Jvm.ClassFile.FieldType)).before args0 about1 = true := code_word (m := ⟨9, 0⟩) (meth := k9m0) (c := k9c0) (by decide +kernel) rfl rfl rfl (by decide +kernel)
set_option maxRecDepth 65536 in
theorem w_c8 : (Jvm.Cond.code ({ cls := "com/example/item_type_store/itemtypestore/model/Relation", name := "<init>", desc := "(Ljava/lang/String;Lcom/example/item_type_store/itemtypestore/model/Deployment;Lcom/example/item_type_store/itemtypestore/model/Relation$Element;Lcom/example/item_type_store/itemtypestore/model/Relation$Element;)V" } : Jvm.MethodName) prog_108_method_1_code (5 : Nat) (Option.none : Option Jvm.ClassFile.FieldType)).before args0 about1 = true := code_word (m := ⟨11, 0⟩) (meth := k11m0) (c := k11c0) (by decide +kernel) rfl rfl rfl (by decide +kernel)
set_option maxRecDepth 65536 in
theorem w_c9 : (Jvm.Cond.code ({ cls := "com/example/item_type_store/itemtypestore/model/Relation", name := "manyToMany", desc := "()Z" } : Jvm.MethodName) prog_108_method_2_code (1 : Nat) (Option.some Jvm.ClassFile.FieldType.boolean)).before args0 about1 = true := code_word (m := ⟨11, 1⟩) (meth := k11m1) (c := k11c1) (by decide +kernel) rfl rfl rfl (by decide +kernel)
set_option maxRecDepth 65536 in
theorem w_c10 : (Jvm.Cond.code ({ cls := "com/example/item_type_store/itemtypestore/model/Relation$Element", name := "many", desc := "()Z" } : Jvm.MethodName) prog_109_method_7_code (1 : Nat) (Option.some Jvm.ClassFile.FieldType.boolean)).before args0 about1 = true := code_word (m := ⟨10, 1⟩) (meth := k10m1) (c := k10c1) (by decide +kernel) rfl rfl rfl (by decide +kernel)
set_option maxRecDepth 65536 in
theorem w_c11 : (Jvm.Cond.code ({ cls := "com/example/item_type_store/itemtypestore/model/Deployment", name := "<init>", desc := "(Ljava/lang/String;I)V" } : Jvm.MethodName) prog_101_method_1_code (3 : Nat) (Option.none : Option Jvm.ClassFile.FieldType)).before args0 about1 = true := code_word (m := ⟨12, 0⟩) (meth := k12m0) (c := k12c0) (by decide +kernel) rfl rfl rfl (by decide +kernel)
def codes1 : List Jvm.Cond := [Jvm.Cond.code x code maxLocals ret, Jvm.Cond.code ({ cls := "java/lang/String", name := "valueOf", desc := "(C)Ljava/lang/String;" } : Jvm.MethodName) jdk_42_method_139_code (1 : Nat) (Option.some (Jvm.ClassFile.FieldType.object "java/lang/String")), Jvm.Cond.code ({ cls := "java/lang/StringLatin1", name := "canEncode", desc := "(C)Z" } : Jvm.MethodName) jdk_43_method_3_code (1 : Nat) (Option.some Jvm.ClassFile.FieldType.boolean), Jvm.Cond.code ({ cls := "java/lang/StringLatin1", name := "toBytes", desc := "(C)[B" } : Jvm.MethodName) jdk_43_method_46_code (1 : Nat) (Option.some (Jvm.ClassFile.FieldType.array Jvm.ClassFile.FieldType.byte)), Jvm.Cond.code ({ cls := "java/lang/String", name := "<init>", desc := "([BB)V" } : Jvm.MethodName) jdk_42_method_151_code (3 : Nat) (Option.none : Option Jvm.ClassFile.FieldType), Jvm.Cond.code ({ cls := "java/lang/Object", name := "<init>", desc := "()V" } : Jvm.MethodName) object_method_1_code (1 : Nat) (Option.none : Option Jvm.ClassFile.FieldType), Jvm.Cond.code ({ cls := "com/example/item_type_store/itemtypestore/model/Relation$Element", name := "<init>", desc := "(Ljava/lang/String;Ljava/lang/String;ZZ)V" } : Jvm.MethodName) prog_109_method_1_code (5 : Nat) (Option.none : Option Jvm.ClassFile.FieldType), Jvm.Cond.code ({ cls := "java/lang/Record", name := "<init>", desc := "()V" } : Jvm.MethodName) jdk_30_method_1_code (1 : Nat) (Option.none : Option Jvm.ClassFile.FieldType), Jvm.Cond.code ({ cls := "com/example/item_type_store/itemtypestore/model/Relation", name := "<init>", desc := "(Ljava/lang/String;Lcom/example/item_type_store/itemtypestore/model/Deployment;Lcom/example/item_type_store/itemtypestore/model/Relation$Element;Lcom/example/item_type_store/itemtypestore/model/Relation$Element;)V" } : Jvm.MethodName) prog_108_method_1_code (5 : Nat) (Option.none : Option Jvm.ClassFile.FieldType), Jvm.Cond.code ({ cls := "com/example/item_type_store/itemtypestore/model/Relation", name := "manyToMany", desc := "()Z" } : Jvm.MethodName) prog_108_method_2_code (1 : Nat) (Option.some Jvm.ClassFile.FieldType.boolean), Jvm.Cond.code ({ cls := "com/example/item_type_store/itemtypestore/model/Relation$Element", name := "many", desc := "()Z" } : Jvm.MethodName) prog_109_method_7_code (1 : Nat) (Option.some Jvm.ClassFile.FieldType.boolean), Jvm.Cond.code ({ cls := "com/example/item_type_store/itemtypestore/model/Deployment", name := "<init>", desc := "(Ljava/lang/String;I)V" } : Jvm.MethodName) prog_101_method_1_code (3 : Nat) (Option.none : Option Jvm.ClassFile.FieldType)]
set_option maxRecDepth 65536 in
theorem codes_eq : words1.filter isCode = codes1 := rfl
theorem w_codes : ∀ c ∈ words1.filter isCode, c.before args0 about1 = true := by
  rw [codes_eq]
  intro c hc
  simp only [codes1, List.mem_cons, List.not_mem_nil, or_false] at hc
  rcases hc with rfl | rfl | rfl | rfl | rfl | rfl | rfl | rfl | rfl | rfl | rfl | rfl
  · exact w_c0
  · exact w_c1
  · exact w_c2
  · exact w_c3
  · exact w_c4
  · exact w_c5
  · exact w_c6
  · exact w_c7
  · exact w_c8
  · exact w_c9
  · exact w_c10
  · exact w_c11
set_option maxRecDepth 65536 in
theorem w_t1 : (words1.take 24).all (fun c => isCode c || c.before args0 about1) = true := by decide +kernel
set_option maxRecDepth 65536 in
theorem w_t2 : ((words1.drop 24).take 24).all (fun c => isCode c || c.before args0 about1) = true := by decide +kernel
set_option maxRecDepth 65536 in
theorem w_t3 : (((words1.drop 24).drop 24).take 24).all (fun c => isCode c || c.before args0 about1) = true := by decide +kernel
set_option maxRecDepth 65536 in
theorem w_t4 : (((words1.drop 24).drop 24).drop 24).all (fun c => isCode c || c.before args0 about1) = true := by decide +kernel
theorem w_tables : (allAtoms (Jvm.Cond.code x code maxLocals ret :: tables_1)).before args0 about1 = true := by
  rw [allAtoms_all]
  show words1.all (fun c => c.before args0 about1) = true
  refine all_split ?_ w_codes
  rw [← List.take_append_drop 24 words1, List.all_append, w_t1, ← List.take_append_drop 24 (words1.drop 24), List.all_append, w_t2, ← List.take_append_drop 24 ((words1.drop 24).drop 24), List.all_append, w_t3, w_t4]
  rfl
set_option maxRecDepth 65536 in
theorem w_rest : rest_1_c.before args0 about1 = true := by decide +kernel
set_option maxRecDepth 65536 in
theorem w_case : (Jvm.Cond.and given_1 narrow_1).before args0 about1 = true := by decide +kernel
theorem w_applies : (headSpec (Jvm.Cond.code x code maxLocals ret :: tables_1) room_1).applies x e0.platform about1 = true :=
  (Spec.applies_iff w_frames).mpr ⟨w_running, w_runnable, w_alone, w_named, w_hears, w_ripe, w_room, w_tables⟩
theorem atStart : AtStart classFile x code maxLocals ret World_1 tables_1 room_1 Calls_1 rest_1 Pre_1 launch0 p0 e0 about1 theMethod args0 below0 :=
  ⟨lists_1, trivial, launch0.admits_env _ _ _, launch0.least_env, fairChoices_fair.cas, fairChoices_fair.clock, w_frames, w_args, w_heap, w_applies, trivial, w_rest, w_case⟩
end start1
theorem witness_1 : WitnessClaimed_1 := ⟨start1.p0, start1.e0, start1.about1, start1.theMethod, start1.args0, start1.below0, start1.atStart⟩
end Jvm.Pilot.@@N@@
