import JvmDerived
import JvmDerived.Pilot.@@N@@Statement
import JvmDerived.Pilot.@@N@@Code
set_option linter.unusedVariables false
set_option linter.unusedSimpArgs false
namespace Jvm.Pilot.@@N@@
open Jvm Jvm.ClassFile Sem Op Lib Jvm.Free Jvm.Stand Jvm.LawKit Jvm.RoadKit Bundle Jvm.Pilot.@@N@@.Jvm.D
/-! 0. a walk by goals: 'Go .. F T g': from the frame g at the state T the body comes to an end of which F holds -/
def Go (tb : Tables) (e : Env) (below : List Frame) (F : Outcome → State → Prop) (T : State) (g : JFrame) : Prop :=
  ∃ s₂ o, Steps tb e below (T.setTop g) s₂ ∧ s₂.status = .running ∧ Ended s₂ below o ∧ F o s₂
def Fin (s : State) (Q : Option Value → Heap → List Loc → Prop) (rc rs : Nat) : Outcome → State → Prop :=
  fun o U => ∃ v L, o = .returned v ∧ Q v U.heap L ∧ FrameEnd s o U L rc rs
/-- a contract: called with as' at the heap h it returns, and Q holds of the value, the heap and the written places -/
def MetQ (l : Launch) (Z : State) (y : MethodName) (bytes : ByteArray) (maxL : Nat) (ret : Option FieldType) (ws : List Jvm.Cond) (rm : Room) (as' : Array Value) (h : Heap) (Q : Option Value → Heap → List Loc → Prop) : Prop :=
  MetFree l y (head1 (Jvm.Cond.code y bytes maxL ret :: ws) rm) (fun a U => a = as' ∧ Z.Warmed39 U.vm ∧ U.heap = h) (fun _ _ _ _ _ => True) (fun _ U o U' => ∃ v L, o = .returned v ∧ Q v U'.heap L ∧ FrameEnd U o U' L rm.cells rm.slots)
/-- what a pure method leaves: its value, nothing written -/
def PQ (w : Value) (h : Heap) : Option Value → Heap → List Loc → Prop := fun v h' L => v = some w ∧ L = [] ∧ h' = h
theorem own_narrow_ref {t : FieldType} {v : Value} (hv : v.isRef = true) : narrow t v = v := by rcases XT.refc hv with rfl | ⟨_, rfl⟩ <;> cases t <;> rfl
theorem own_fits_obj {C : String} {v : Value} (hv : v.isRef = true) : fits (.object C) v = true := by rcases XT.refc hv with rfl | ⟨_, rfl⟩ <;> rfl
theorem own_fits_arr {t : FieldType} {v : Value} (hv : v.isRef = true) : fits (.array t) v = true := by rcases XT.refc hv with rfl | ⟨_, rfl⟩ <;> rfl
section Walk
variable {tb : Tables} {p : Program} {l : Launch} {e : Env} {R : Room} {s : State} {m : MethodId} {args : Array Value} {below : List Frame} {meth : Method} {c : Code} {T T' : State} {locs : List Loc} {cells slots : Nat} {Z : State} {a0 : Array Value} {h : Heap} {F : Outcome → State → Prop} {g g' : JFrame} {Q : Option Value → Heap → List Loc → Prop}
theorem Go.st (st : ∀ t, Steps tb e below (T'.setTop g') t → Steps tb e below (T.setTop g) t) (k : Go tb e below F T' g') : Go tb e below F T g := by
  obtain ⟨a, b, q, r⟩ := k; exact ⟨a, b, st _ q, r⟩
theorem Go.tr (st : Steps tb e below (T.setTop g) (T'.setTop g')) (k : Go tb e below F T' g') : Go tb e below F T g := by
  obtain ⟨a, b, q, r⟩ := k; exact ⟨a, b, st.trans q, r⟩
theorem Go.cast (q : g = g') (k : Go tb e below F T g') : Go tb e below F T g := q ▸ k
theorem MetQ.body {y : MethodName} {bytes : ByteArray} {maxL : Nat} {ret : Option FieldType} {ws : List Jvm.Cond} {rm : Room} {as' : Array Value} (hp : plainFor y = true)
    (k : ∀ (p : Program) (e : Env) (s : State) (m : MethodId) (below : List Frame) (meth : Method) (c : Code) (s₁ : State), p.tables.exec = Jvm.exec → c.code = bytes → c.maxLocals = maxL → s.vm.findClass y.cls = some m.cls → meth.name = y.name → meth.sig.returnType = ret → meth.locks = false →
      Z.Warmed39 s.vm → s₁.heap = h → Stand p l e rm s m as' below meth c s₁ [] 0 0 → Go p.tables e below (Fin s Q rm.cells rm.slots) s₁ (entryFrame m as' maxL)) : MetQ l Z y bytes maxL ret ws rm as' h Q := by
  refine MetFree.of_bodySF hp hisR ?_
  intro p e s m args below meth c s₁ Bd hml0 hP hK
  obtain ⟨rfl, hZ, hh⟩ := hP
  exact k p e s m below meth c s₁ Bd.exec Bd.bytes hml0 (findClass_of_methodNamed Bd.named) (name_of_methodNamed Bd.named Bd.method).1 Bd.returns (BodyLoose.notSynchronized Bd) hZ (by rw [← hh, Bd.state]; rfl) (Stand.of_body Bd)
theorem Go.retI (X : Stand p l e R s m args below meth c T locs cells slots) (hx : p.tables.exec = Jvm.exec) (hlk : meth.locks = false) (hret : meth.sig.returnType = some .int) {pc : Nat} {Ls : Array Slot} {z : Int32} {rest : List Value} (hd : decode c.code pc = .ok (.ireturn, 1)) {rc rs : Nat} (hc : cells ≤ rc) (hs : slots ≤ rs) (hq : Q (some (.int z)) T.heap locs) :
    Go p.tables e below (Fin s Q rc rs) T (mkF m pc Ls (.int z :: rest)) := by
  obtain ⟨fs, hl, hrun, hended, hW, hsame⟩ := X.leave (v := some (.int z)) (fun h => by rw [hret] at h; cases h) hlk
  refine ⟨_, _, ?_, hrun, hended, _, _, rfl, hq, ⟨_, rfl⟩, hW, hsame.mono hc hs⟩
  have hm' : T.vm.method? m = some meth := X.method'
  have hn : narrow .int (.int z) = .int z := rfl
  show Steps p.tables e below (T.setTop { method := m, pc := pc, locals := Ls, stack := _ :: rest, locked := none }) _
  jvm_step X.here [X.here.top, hx, hd, hm', hret, hn]
  first | (intro acts; rw [hl _ acts rfl rfl rfl]) | rw [hl _ _ rfl rfl rfl]
  exact Steps.refl _
theorem Go.retN (X : Stand p l e R s m args below meth c T locs cells slots) (hx : p.tables.exec = Jvm.exec) (hlk : meth.locks = false) {t : FieldType} (hret : meth.sig.returnType = some t) (ht : t = .boolean ∨ t = .byte ∨ t = .char ∨ t = .short) {pc : Nat} {Ls : Array Slot} {z : Int32} {rest : List Value} (hd : decode c.code pc = .ok (.ireturn, 1)) {rc rs : Nat} (hc : cells ≤ rc) (hs : slots ≤ rs) (hq : Q (some (.int (nar t z))) T.heap locs) :
    Go p.tables e below (Fin s Q rc rs) T (mkF m pc Ls (.int z :: rest)) := by
  obtain ⟨fs, hl, hrun, hended, hW, hsame⟩ := X.leave (v := some (.int (nar t z))) (fun h => by rw [hret] at h; cases h) hlk
  exact ⟨_, _, Jvm.RoadKit.retN X hx hret ht hd hl, hrun, hended, _, _, rfl, hq, ⟨_, rfl⟩, hW, hsame.mono hc hs⟩
theorem Go.retJ (X : Stand p l e R s m args below meth c T locs cells slots) (hx : p.tables.exec = Jvm.exec) (hlk : meth.locks = false) (hret : meth.sig.returnType = some .long) {pc : Nat} {Ls : Array Slot} {z : Int64} (hd : decode c.code pc = .ok (.lreturn, 1)) {rc rs : Nat} (hc : cells ≤ rc) (hs : slots ≤ rs) (hq : Q (some (.long z)) T.heap locs) :
    Go p.tables e below (Fin s Q rc rs) T (mkF m pc Ls [.long z]) := by
  obtain ⟨fs, hl, hrun, hended, hW, hsame⟩ := X.leave (v := some (.long z)) (fun h => by rw [hret] at h; cases h) hlk
  exact ⟨_, _, X.lreturnOut hx hret hd hl, hrun, hended, _, _, rfl, hq, ⟨_, rfl⟩, hW, hsame.mono hc hs⟩
theorem Go.retA (X : Stand p l e R s m args below meth c T locs cells slots) (hx : p.tables.exec = Jvm.exec) (hlk : meth.locks = false) {t : FieldType} (hret : meth.sig.returnType = some t) (ht : t.isReference = true) {pc : Nat} {Ls : Array Slot} {w : Value} (hw : w.isRef = true) (hd : decode c.code pc = .ok (.areturn, 1)) {rc rs : Nat} (hc : cells ≤ rc) (hs : slots ≤ rs) (hq : Q (some w) T.heap locs) :
    Go p.tables e below (Fin s Q rc rs) T (mkF m pc Ls [w]) := by
  obtain ⟨fs, hl, hrun, hended, hW, hsame⟩ := X.leave (v := some w) (fun h => by rw [hret] at h; cases h) hlk
  exact ⟨_, _, X.areturnOut hx hw hret ht hd hl, hrun, hended, _, _, rfl, hq, ⟨_, rfl⟩, hW, hsame.mono hc hs⟩
theorem Go.retV (X : Stand p l e R s m args below meth c T locs cells slots) (hx : p.tables.exec = Jvm.exec) (hlk : meth.locks = false) (hret : meth.sig.returnType = none) {pc : Nat} {Ls : Array Slot} (hd : decode c.code pc = .ok (.return_, 1)) {rc rs : Nat} (hc : cells ≤ rc) (hs : slots ≤ rs) (hq : Q none T.heap locs) :
    Go p.tables e below (Fin s Q rc rs) T (mkF m pc Ls []) := by
  obtain ⟨fs, hl, hrun, hended, hW, hsame⟩ := X.leave (v := none) (fun _ => rfl) hlk
  exact ⟨_, _, X.returnOut hx hret hd hl, hrun, hended, _, _, rfl, hq, ⟨_, rfl⟩, hW, hsame.mono hc hs⟩
/-- a static call by its contract -/
theorem Go.callS (X : Stand p l e R s m args below meth c T locs cells slots) (hx : p.tables.exec = Jvm.exec) (hZ : Z.Warmed39 s.vm) {own : String} (hown : s.vm.findClass own = some m.cls) {index : Nat} {y : MethodName} {bytes : ByteArray} {maxL : Nat} {ret : Option FieldType} {rm : Room} {W : Nat} {argsL rest : List Value} {Qc : Option Value → Heap → List Loc → Prop}
    (w1 : (Jvm.Cond.methodLink own index y).before a0 Z = true) (w2 : (Jvm.Cond.static y).before a0 Z = true) (w3 : (Jvm.Cond.initialized y.cls).before a0 Z = true) (w4 : (Jvm.Cond.code y bytes maxL ret).before a0 Z = true) (hy : y.cls ≠ "java/lang/invoke/MethodHandle" ∧ y.cls ≠ "java/lang/invoke/VarHandle")
    (eT : T.heap = h) (hM : MetQ l Z y bytes maxL ret [] rm argsL.toArray h Qc) (hf : rm.frames + 1 ≤ R.frames) (hl : W + (maxL + 11) + rm.locals ≤ R.locals) (hc : cells + rm.cells ≤ R.cells) (hs : slots + rm.slots ≤ R.slots)
    (hg : g.method = m) (hsize : g.locals.size = c.maxLocals) (hlen : ∀ sig, parseMethodDescriptor y.desc = some sig → argsL.length = sig.parameters.length) (hstack : g.stack = argsL.reverse ++ rest) (hW : 2 * g.monitorRoom + (rest.map fun v => v.category).sum ≤ W) (hdg : decode c.code g.pc = .ok (.invokestatic index, 3))
    (k : ∀ (v : Option Value) (T' : State) (L : List Loc), Stand p l e R s m args below meth c T' (locs ++ L) (cells + rm.cells) (slots + rm.slots) → Qc v T'.heap L → Go p.tables e below F T' { g with pc := g.pc + 3, stack := v.toList ++ rest }) : Go p.tables e below F T g := by
  obtain ⟨v, vm1, ⟨T', L', c', n'⟩, -, X', ⟨L, hQ, e1, e2, e3⟩, st⟩ := Jvm.LawKit.callS X hx (y := y) hown (mvT hZ w1) (mvT hZ w2) (mvT hZ w3) (mvT hZ w4) hy (backOf (W := W) hM hZ w4 w3 hf hl) hg hsize hlen hstack hW hdg (fun _ _ => ⟨rfl, eT, hc, hs⟩)
  dsimp only [Pt.U, Pt.locs, Pt.cells, Pt.slots] at X' e1 e2 e3 st hQ
  subst e1 e2 e3
  exact Go.st st (k v T' L X' hQ)
/-- a pure static call by its contract -/
theorem Go.callP (X : Stand p l e R s m args below meth c T locs cells slots) (hx : p.tables.exec = Jvm.exec) (hZ : Z.Warmed39 s.vm) {own : String} (hown : s.vm.findClass own = some m.cls) {index : Nat} {y : MethodName} {bytes : ByteArray} {maxL : Nat} {ret : Option FieldType} {fr lo W : Nat} {argsL rest : List Value} {w : Value}
    (w1 : (Jvm.Cond.methodLink own index y).before a0 Z = true) (w2 : (Jvm.Cond.static y).before a0 Z = true) (w3 : (Jvm.Cond.initialized y.cls).before a0 Z = true) (w4 : (Jvm.Cond.code y bytes maxL ret).before a0 Z = true) (hy : y.cls ≠ "java/lang/invoke/MethodHandle" ∧ y.cls ≠ "java/lang/invoke/VarHandle")
    (eT : T.heap = h) (hM : MetQ l Z y bytes maxL ret [] ({ frames := fr, cells := 0, slots := 0, locals := lo } : Room) argsL.toArray h (PQ w h)) (hf : fr + 1 ≤ R.frames) (hl : W + (maxL + 11) + lo ≤ R.locals) (hc : cells ≤ R.cells) (hs : slots ≤ R.slots)
    (hg : g.method = m) (hsize : g.locals.size = c.maxLocals) (hlen : ∀ sig, parseMethodDescriptor y.desc = some sig → argsL.length = sig.parameters.length) (hstack : g.stack = argsL.reverse ++ rest) (hW : 2 * g.monitorRoom + (rest.map fun v => v.category).sum ≤ W) (hdg : decode c.code g.pc = .ok (.invokestatic index, 3))
    (k : ∀ (T' : State), Stand p l e R s m args below meth c T' locs cells slots → T'.heap = h → Go p.tables e below F T' { g with pc := g.pc + 3, stack := w :: rest }) : Go p.tables e below F T g := by
  refine Go.callS X hx hZ hown w1 w2 w3 w4 hy eT hM hf hl hc hs hg hsize hlen hstack hW hdg fun v T' L X' q => ?_
  obtain ⟨rfl, rfl, e'⟩ := q
  rw [List.append_nil] at X'
  exact k T' X' e'
/-- an instance call by its contract; the receiver is exactly a C -/
theorem Go.callV (X : Stand p l e R s m args below meth c T locs cells slots) (hx : p.tables.exec = Jvm.exec) (hZ : Z.Warmed39 s.vm) {own : String} (hown : s.vm.findClass own = some m.cls) {index : Nat} {y : MethodName} {C : String} {bytes : ByteArray} {maxL : Nat} {ret : Option FieldType} {rm : Room} {W : Nat} {argsL rest : List Value} {Qc : Option Value → Heap → List Loc → Prop}
    (w1 : (Jvm.Cond.methodLink own index y).before a0 Z = true) (w2 : (Jvm.Cond.declares y).before a0 Z = true) (w5 : (Jvm.Cond.selects C y y).before a0 Z = true) (w6 : (Jvm.Cond.instanceMethod y).before a0 Z = true) (w3 : (Jvm.Cond.initialized y.cls).before a0 Z = true) (w4 : (Jvm.Cond.code y bytes maxL ret).before a0 Z = true) (hy : y.cls ≠ "java/lang/invoke/MethodHandle" ∧ y.cls ≠ "java/lang/invoke/VarHandle") (hcy : C = y.cls)
    (eT : T.heap = h) {b : Addr} (E : Exa Z h b C) (hM : MetQ l Z y bytes maxL ret [] rm (.ref b :: argsL).toArray h Qc) (hf : rm.frames + 1 ≤ R.frames) (hl : W + (maxL + 11) + rm.locals ≤ R.locals) (hc : cells + rm.cells ≤ R.cells) (hs : slots + rm.slots ≤ R.slots)
    (hg : g.method = m) (hsize : g.locals.size = c.maxLocals) (hlen : ∀ sig, parseMethodDescriptor y.desc = some sig → argsL.length = sig.parameters.length) (hstack : g.stack = argsL.reverse ++ .ref b :: rest) (hW : 2 * g.monitorRoom + (rest.map fun v => v.category).sum ≤ W) (hdg : decode c.code g.pc = .ok (.invokevirtual index, 3))
    (k : ∀ (v : Option Value) (T' : State) (L : List Loc), Stand p l e R s m args below meth c T' (locs ++ L) (cells + rm.cells) (slots + rm.slots) → Qc v T'.heap L → Go p.tables e below F T' { g with pc := g.pc + 3, stack := v.toList ++ rest }) : Go p.tables e below F T g := by
  subst hcy
  obtain ⟨cq, kq, qa, qb, qc⟩ := isOf hZ eT E
  obtain ⟨v, vm1, ⟨T', L', c', n'⟩, -, X', ⟨L, hQ, e1, e2, e3⟩, st⟩ := X.virtualBack hx (y := y) (z := y) hown (mvT hZ w1) (mvT hZ w2) (notFace_of_selects (args := #[]) (mvT hZ w5)) (mvT hZ w5) (mvT hZ w6) hy (backOf (W := W) hM hZ w4 w3 hf hl) qa qc hg hsize (Steps.refl _) hlen hstack hW hdg (fun _ _ => ⟨rfl, eT, hc, hs⟩)
  dsimp only [Pt.U, Pt.locs, Pt.cells, Pt.slots] at X' e1 e2 e3 st hQ
  subst e1 e2 e3
  exact Go.tr st (k v T' L X' hQ)
/-- a constructor by its contract -/
theorem Go.callC (X : Stand p l e R s m args below meth c T locs cells slots) (hx : p.tables.exec = Jvm.exec) (hZ : Z.Warmed39 s.vm) {own : String} (hown : s.vm.findClass own = some m.cls) {index : Nat} {y : MethodName} {bytes : ByteArray} {maxL : Nat} {rm : Room} {W : Nat} {argsL rest : List Value} {Qc : Option Value → Heap → List Loc → Prop} (hy1 : y.name = "<init>")
    (w1 : (Jvm.Cond.methodLink own index y).before a0 Z = true) (w2 : (Jvm.Cond.instanceMethod y).before a0 Z = true) (w3 : (Jvm.Cond.initialized y.cls).before a0 Z = true) (w4 : (Jvm.Cond.code y bytes maxL none).before a0 Z = true) (hy : y.cls ≠ "java/lang/invoke/MethodHandle" ∧ y.cls ≠ "java/lang/invoke/VarHandle")
    (eT : T.heap = h) {b : Addr} (hM : MetQ l Z y bytes maxL none [] rm (.ref b :: argsL).toArray h Qc) (hf : rm.frames + 1 ≤ R.frames) (hl : W + (maxL + 11) + rm.locals ≤ R.locals) (hc : cells + rm.cells ≤ R.cells) (hs : slots + rm.slots ≤ R.slots)
    (hg : g.method = m) (hsize : g.locals.size = c.maxLocals) (hlen : ∀ sig, parseMethodDescriptor y.desc = some sig → argsL.length = sig.parameters.length) (hstack : g.stack = argsL.reverse ++ .ref b :: rest) (hW : 2 * g.monitorRoom + (rest.map fun v => v.category).sum ≤ W) (hdg : decode c.code g.pc = .ok (.invokespecial index, 3))
    (k : ∀ (v : Option Value) (T' : State) (L : List Loc), Stand p l e R s m args below meth c T' (locs ++ L) (cells + rm.cells) (slots + rm.slots) → Qc v T'.heap L → Go p.tables e below F T' { g with pc := g.pc + 3, stack := v.toList ++ rest }) : Go p.tables e below F T g := by
  obtain ⟨v, vm1, ⟨T', L', c', n'⟩, -, X', ⟨L, hQ, e1, e2, e3⟩, st⟩ := X.specialBack hx (y := y) hy1 hown (mvT hZ w1) (mvT hZ w2) (mvT hZ w4) hy (backOf (W := W) hM hZ w4 w3 hf hl) hg hsize (Steps.refl _) hlen hstack hW hdg (fun _ _ => ⟨rfl, eT, hc, hs⟩)
  dsimp only [Pt.U, Pt.locs, Pt.cells, Pt.slots] at X' e1 e2 e3 st hQ
  subst e1 e2 e3
  exact Go.tr st (k v T' L X' hQ)
end Walk
theorem pd_0 : parseMethodDescriptor "(J)I" = some ⟨[.long], some .int⟩ := by decide +kernel
theorem d1_0 : decode method_2_code 0 = .ok (.lload_n 0, 1) := by decide +kernel
theorem d1_1 : decode method_2_code 1 = .ok (.ldc2_w 7, 3) := by decide +kernel
theorem d1_4 : decode method_2_code 4 = .ok (.land, 1) := by decide +kernel
theorem d1_5 : decode method_2_code 5 = .ok (.l2i, 1) := by decide +kernel
theorem d1_6 : decode method_2_code 6 = .ok (.istore_n 2, 1) := by decide +kernel
theorem d1_7 : decode method_2_code 7 = .ok (.iload_n 2, 1) := by decide +kernel
theorem d1_8 : decode method_2_code 8 = .ok (.ifCond .ne 6, 3) := by decide +kernel
theorem d1_11 : decode method_2_code 11 = .ok (.bipush 13, 2) := by decide +kernel
theorem d1_13 : decode method_2_code 13 = .ok (.ireturn, 1) := by decide +kernel
theorem d1_14 : decode method_2_code 14 = .ok (.iload_n 2, 1) := by decide +kernel
theorem d1_15 : decode method_2_code 15 = .ok (.iconst 1, 1) := by decide +kernel
theorem d1_16 : decode method_2_code 16 = .ok (.if_icmp .ne 6, 3) := by decide +kernel
theorem d1_19 : decode method_2_code 19 = .ok (.bipush 10, 2) := by decide +kernel
theorem d1_21 : decode method_2_code 21 = .ok (.ireturn, 1) := by decide +kernel
theorem d1_22 : decode method_2_code 22 = .ok (.lload_n 0, 1) := by decide +kernel
theorem d1_23 : decode method_2_code 23 = .ok (.iconst 2, 1) := by decide +kernel
theorem d1_24 : decode method_2_code 24 = .ok (.lshr, 1) := by decide +kernel
theorem d1_25 : decode method_2_code 25 = .ok (.l2i, 1) := by decide +kernel
theorem d1_26 : decode method_2_code 26 = .ok (.ireturn, 1) := by decide +kernel
theorem pn_0 : plainName "com/example/triplevec/triplevec/io/LineCounterPassPinLaw" = true := by first | (simp [plainName, overriddenIn]; done) | decide +kernel
def f1 (p0 : Int64) : Int32 := (if ((p0 &&& (3 : Int64))).toInt32 = (0 : Int32) then (13 : Int32) else (if ((p0 &&& (3 : Int64))).toInt32 = (1 : Int32) then (10 : Int32) else ((p0 >>> (((2 : Int32)).toInt64 &&& 63))).toInt32))
theorem ef_rm1 (m : MethodId) (p0 : Int64)  : entryFrame m #[(.long p0)] 3 = mkF m 0 #[.val (.long p0), .second, .unset] [] := by first | (simp [entryFrame, mkF, argsToLocals, Value.category]; done) | rfl
set_option maxRecDepth 65536 in
set_option maxHeartbeats 40000000 in
theorem rm1 (l : Launch) (Z : State) (a0 : Array Value) (hw : ∀ d ∈ tables_1, d.before a0 Z = true) (p0 : Int64)  (h0 : Heap)  :
    MetQ l Z (⟨"com/example/triplevec/triplevec/io/LineCounterPassPinLaw", "pick", "(J)I"⟩ : MethodName) method_2_code 3 (some .int) [] ({ frames := 0, cells := 0, slots := 0, locals := 0 } : Room) #[(.long p0)] h0 (PQ (.int (f1 p0)) h0) := by
  refine MetQ.body (plainFor_of_name pn_0) fun p e s m below meth c s₁ hx hby hml hown hnm hret hlk hZ e0 X0 => Go.cast (ef_rm1 m p0) ?_
  refine Go.st (T' := s₁) (g' := (mkF m 1 #[.val (.long p0), .second, .unset] [(.long p0)])) (fun _ hr => XT.lloadN X0.here hx rfl (hb hby d1_0) rfl hr) ?_
  refine Go.st (T' := s₁) (g' := (mkF m 4 #[.val (.long p0), .second, .unset] [(.long (3 : Int64)), (.long p0)])) (fun _ hr => X0.ldc2J hx hown (mvT hZ (hw _ (List.mem_of_getElem? (i := 4) rfl))) rfl (hb hby d1_1) hr) ?_
  refine Go.st (T' := s₁) (g' := (mkF m 5 #[.val (.long p0), .second, .unset] [(.long (p0 &&& (3 : Int64)))])) (fun _ hr => XT.land X0.here hx rfl (hb hby d1_4) rfl hr) ?_
  refine Go.st (T' := s₁) (g' := (mkF m 6 #[.val (.long p0), .second, .unset] [(.int ((p0 &&& (3 : Int64))).toInt32)])) (fun _ hr => XT.l2i X0.here hx rfl (hb hby d1_5) rfl hr) ?_
  refine Go.st (T' := s₁) (g' := (mkF m 7 #[.val (.long p0), .second, .val (.int ((p0 &&& (3 : Int64))).toInt32)] [])) (fun _ hr => XS.istoreN X0.here hx rfl (hb hby d1_6) rfl (l' := #[.val (.long p0), .second, .val (.int ((p0 &&& (3 : Int64))).toInt32)]) rfl hr) ?_
  refine Go.st (T' := s₁) (g' := (mkF m 8 #[.val (.long p0), .second, .val (.int ((p0 &&& (3 : Int64))).toInt32)] [(.int ((p0 &&& (3 : Int64))).toInt32)])) (fun _ hr => XS.iloadN X0.here hx rfl (hb hby d1_7) rfl hr) ?_
  by_cases c8_1 : ((p0 &&& (3 : Int64))).toInt32 = (0 : Int32)
  · refine Go.st (T' := s₁) (g' := (mkF m 11 #[.val (.long p0), .second, .val (.int ((p0 &&& (3 : Int64))).toInt32)] [])) (fun _ hr => XS.ifNo X0.here hx rfl (hb hby d1_8) rfl (XT.i0_ne_f c8_1) hr) ?_
    refine Go.st (T' := s₁) (g' := (mkF m 13 #[.val (.long p0), .second, .val (.int ((p0 &&& (3 : Int64))).toInt32)] [(.int (13 : Int32))])) (fun _ hr => XT.bipushV X0.here hx rfl (13 : Int32) (hb hby d1_11) (by decide) hr) ?_
    exact Go.retI X0 hx hlk hret (hb hby d1_13) (Nat.zero_le _) (Nat.zero_le _) ⟨congrArg (fun z => some (Value.int z)) (by simp only [f1, if_pos c8_1]), rfl, e0⟩
  · refine Go.st (T' := s₁) (g' := (mkF m 14 #[.val (.long p0), .second, .val (.int ((p0 &&& (3 : Int64))).toInt32)] [])) (fun _ hr => XS.ifYes X0.here hx rfl (pc0 := 8) (pc' := 14) rfl (hb hby d1_8) rfl (XT.i0_ne_t c8_1) (by decide) (by decide) hr) ?_
    refine Go.st (T' := s₁) (g' := (mkF m 15 #[.val (.long p0), .second, .val (.int ((p0 &&& (3 : Int64))).toInt32)] [(.int ((p0 &&& (3 : Int64))).toInt32)])) (fun _ hr => XS.iloadN X0.here hx rfl (hb hby d1_14) rfl hr) ?_
    refine Go.st (T' := s₁) (g' := (mkF m 16 #[.val (.long p0), .second, .val (.int ((p0 &&& (3 : Int64))).toInt32)] [(.int (1 : Int32)), (.int ((p0 &&& (3 : Int64))).toInt32)])) (fun _ hr => XT.iconstV X0.here hx rfl (1 : Int32) (hb hby d1_15) (by decide) hr) ?_
    by_cases c16_2 : ((p0 &&& (3 : Int64))).toInt32 = (1 : Int32)
    · refine Go.st (T' := s₁) (g' := (mkF m 19 #[.val (.long p0), .second, .val (.int ((p0 &&& (3 : Int64))).toInt32)] [])) (fun _ hr => XS.icmpNo X0.here hx rfl (hb hby d1_16) rfl (XT.ii_ne_f c16_2) hr) ?_
      refine Go.st (T' := s₁) (g' := (mkF m 21 #[.val (.long p0), .second, .val (.int ((p0 &&& (3 : Int64))).toInt32)] [(.int (10 : Int32))])) (fun _ hr => XT.bipushV X0.here hx rfl (10 : Int32) (hb hby d1_19) (by decide) hr) ?_
      exact Go.retI X0 hx hlk hret (hb hby d1_21) (Nat.zero_le _) (Nat.zero_le _) ⟨congrArg (fun z => some (Value.int z)) (by simp only [f1, if_neg c8_1, if_pos c16_2]), rfl, e0⟩
    · refine Go.st (T' := s₁) (g' := (mkF m 22 #[.val (.long p0), .second, .val (.int ((p0 &&& (3 : Int64))).toInt32)] [])) (fun _ hr => XS.icmpYes X0.here hx rfl (pc0 := 16) (pc' := 22) rfl (hb hby d1_16) rfl (XT.ii_ne_t c16_2) (by decide) (by decide) hr) ?_
      refine Go.st (T' := s₁) (g' := (mkF m 23 #[.val (.long p0), .second, .val (.int ((p0 &&& (3 : Int64))).toInt32)] [(.long p0)])) (fun _ hr => XT.lloadN X0.here hx rfl (hb hby d1_22) rfl hr) ?_
      refine Go.st (T' := s₁) (g' := (mkF m 24 #[.val (.long p0), .second, .val (.int ((p0 &&& (3 : Int64))).toInt32)] [(.int (2 : Int32)), (.long p0)])) (fun _ hr => XT.iconstV X0.here hx rfl (2 : Int32) (hb hby d1_23) (by decide) hr) ?_
      refine Go.st (T' := s₁) (g' := (mkF m 25 #[.val (.long p0), .second, .val (.int ((p0 &&& (3 : Int64))).toInt32)] [(.long (p0 >>> (((2 : Int32)).toInt64 &&& 63)))])) (fun _ hr => XT.lshr X0.here hx rfl (hb hby d1_24) rfl hr) ?_
      refine Go.st (T' := s₁) (g' := (mkF m 26 #[.val (.long p0), .second, .val (.int ((p0 &&& (3 : Int64))).toInt32)] [(.int ((p0 >>> (((2 : Int32)).toInt64 &&& 63))).toInt32)])) (fun _ hr => XT.l2i X0.here hx rfl (hb hby d1_25) rfl hr) ?_
      exact Go.retI X0 hx hlk hret (hb hby d1_26) (Nat.zero_le _) (Nat.zero_le _) ⟨congrArg (fun z => some (Value.int z)) (by simp only [f1, if_neg c8_1, if_neg c16_2]), rfl, e0⟩
theorem pd_1 : parseMethodDescriptor "(JII)J" = some ⟨[.long, .int, .int], some .long⟩ := by decide +kernel
theorem d5_0 : decode method_3_code 0 = .ok (.iload_n 3, 1) := by decide +kernel
theorem d5_1 : decode method_3_code 1 = .ok (.bipush 13, 2) := by decide +kernel
theorem d5_3 : decode method_3_code 3 = .ok (.if_icmp .ne 7, 3) := by decide +kernel
theorem d5_6 : decode method_3_code 6 = .ok (.lload_n 0, 1) := by decide +kernel
theorem d5_7 : decode method_3_code 7 = .ok (.lconst 1, 1) := by decide +kernel
theorem d5_8 : decode method_3_code 8 = .ok (.ladd, 1) := by decide +kernel
theorem d5_9 : decode method_3_code 9 = .ok (.lreturn, 1) := by decide +kernel
theorem d5_10 : decode method_3_code 10 = .ok (.iload_n 3, 1) := by decide +kernel
theorem d5_11 : decode method_3_code 11 = .ok (.bipush 10, 2) := by decide +kernel
theorem d5_13 : decode method_3_code 13 = .ok (.if_icmp .ne 13, 3) := by decide +kernel
theorem d5_16 : decode method_3_code 16 = .ok (.iload_n 2, 1) := by decide +kernel
theorem d5_17 : decode method_3_code 17 = .ok (.bipush 13, 2) := by decide +kernel
theorem d5_19 : decode method_3_code 19 = .ok (.if_icmp .eq 7, 3) := by decide +kernel
theorem d5_22 : decode method_3_code 22 = .ok (.lload_n 0, 1) := by decide +kernel
theorem d5_23 : decode method_3_code 23 = .ok (.lconst 1, 1) := by decide +kernel
theorem d5_24 : decode method_3_code 24 = .ok (.ladd, 1) := by decide +kernel
theorem d5_25 : decode method_3_code 25 = .ok (.lreturn, 1) := by decide +kernel
theorem d5_26 : decode method_3_code 26 = .ok (.lload_n 0, 1) := by decide +kernel
theorem d5_27 : decode method_3_code 27 = .ok (.lreturn, 1) := by decide +kernel
def f5 (p0 : Int64) (p1 : Int32) (p2 : Int32) : Int64 := (if p2 = (13 : Int32) then (p0 + (1 : Int64)) else (if p2 = (10 : Int32) then (if p1 = (13 : Int32) then p0 else (p0 + (1 : Int64))) else p0))
theorem ef_rm5 (m : MethodId) (p0 : Int64) (p1 : Int32) (p2 : Int32)  : entryFrame m #[(.long p0), (.int p1), (.int p2)] 4 = mkF m 0 #[.val (.long p0), .second, .val (.int p1), .val (.int p2)] [] := by first | (simp [entryFrame, mkF, argsToLocals, Value.category]; done) | rfl
set_option maxRecDepth 65536 in
set_option maxHeartbeats 40000000 in
theorem rm5 (l : Launch) (Z : State) (a0 : Array Value) (hw : ∀ d ∈ tables_1, d.before a0 Z = true) (p0 : Int64) (p1 : Int32) (p2 : Int32)  (h0 : Heap)  :
    MetQ l Z (⟨"com/example/triplevec/triplevec/io/LineCounterPassPinLaw", "step", "(JII)J"⟩ : MethodName) method_3_code 4 (some .long) [] ({ frames := 0, cells := 0, slots := 0, locals := 0 } : Room) #[(.long p0), (.int p1), (.int p2)] h0 (PQ (.long (f5 p0 p1 p2)) h0) := by
  refine MetQ.body (plainFor_of_name pn_0) fun p e s m below meth c s₁ hx hby hml hown hnm hret hlk hZ e0 X0 => Go.cast (ef_rm5 m p0 p1 p2) ?_
  refine Go.st (T' := s₁) (g' := (mkF m 1 #[.val (.long p0), .second, .val (.int p1), .val (.int p2)] [(.int p2)])) (fun _ hr => XS.iloadN X0.here hx rfl (hb hby d5_0) rfl hr) ?_
  refine Go.st (T' := s₁) (g' := (mkF m 3 #[.val (.long p0), .second, .val (.int p1), .val (.int p2)] [(.int (13 : Int32)), (.int p2)])) (fun _ hr => XT.bipushV X0.here hx rfl (13 : Int32) (hb hby d5_1) (by decide) hr) ?_
  by_cases c3_1 : p2 = (13 : Int32)
  · refine Go.st (T' := s₁) (g' := (mkF m 6 #[.val (.long p0), .second, .val (.int p1), .val (.int p2)] [])) (fun _ hr => XS.icmpNo X0.here hx rfl (hb hby d5_3) rfl (XT.ii_ne_f c3_1) hr) ?_
    refine Go.st (T' := s₁) (g' := (mkF m 7 #[.val (.long p0), .second, .val (.int p1), .val (.int p2)] [(.long p0)])) (fun _ hr => XT.lloadN X0.here hx rfl (hb hby d5_6) rfl hr) ?_
    refine Go.st (T' := s₁) (g' := (mkF m 8 #[.val (.long p0), .second, .val (.int p1), .val (.int p2)] [(.long (1 : Int64)), (.long p0)])) (fun _ hr => XT.lconstV X0.here hx rfl (1 : Int64) (hb hby d5_7) (by decide) hr) ?_
    refine Go.st (T' := s₁) (g' := (mkF m 9 #[.val (.long p0), .second, .val (.int p1), .val (.int p2)] [(.long (p0 + (1 : Int64)))])) (fun _ hr => XT.ladd X0.here hx rfl (hb hby d5_8) rfl hr) ?_
    exact Go.retJ X0 hx hlk hret (hb hby d5_9) (Nat.zero_le _) (Nat.zero_le _) ⟨congrArg (fun z => some (Value.long z)) (by simp only [f5, if_pos c3_1]), rfl, e0⟩
  · refine Go.st (T' := s₁) (g' := (mkF m 10 #[.val (.long p0), .second, .val (.int p1), .val (.int p2)] [])) (fun _ hr => XS.icmpYes X0.here hx rfl (pc0 := 3) (pc' := 10) rfl (hb hby d5_3) rfl (XT.ii_ne_t c3_1) (by decide) (by decide) hr) ?_
    refine Go.st (T' := s₁) (g' := (mkF m 11 #[.val (.long p0), .second, .val (.int p1), .val (.int p2)] [(.int p2)])) (fun _ hr => XS.iloadN X0.here hx rfl (hb hby d5_10) rfl hr) ?_
    refine Go.st (T' := s₁) (g' := (mkF m 13 #[.val (.long p0), .second, .val (.int p1), .val (.int p2)] [(.int (10 : Int32)), (.int p2)])) (fun _ hr => XT.bipushV X0.here hx rfl (10 : Int32) (hb hby d5_11) (by decide) hr) ?_
    by_cases c13_2 : p2 = (10 : Int32)
    · refine Go.st (T' := s₁) (g' := (mkF m 16 #[.val (.long p0), .second, .val (.int p1), .val (.int p2)] [])) (fun _ hr => XS.icmpNo X0.here hx rfl (hb hby d5_13) rfl (XT.ii_ne_f c13_2) hr) ?_
      refine Go.st (T' := s₁) (g' := (mkF m 17 #[.val (.long p0), .second, .val (.int p1), .val (.int p2)] [(.int p1)])) (fun _ hr => XS.iloadN X0.here hx rfl (hb hby d5_16) rfl hr) ?_
      refine Go.st (T' := s₁) (g' := (mkF m 19 #[.val (.long p0), .second, .val (.int p1), .val (.int p2)] [(.int (13 : Int32)), (.int p1)])) (fun _ hr => XT.bipushV X0.here hx rfl (13 : Int32) (hb hby d5_17) (by decide) hr) ?_
      by_cases c19_3 : p1 = (13 : Int32)
      · refine Go.st (T' := s₁) (g' := (mkF m 26 #[.val (.long p0), .second, .val (.int p1), .val (.int p2)] [])) (fun _ hr => XS.icmpYes X0.here hx rfl (pc0 := 19) (pc' := 26) rfl (hb hby d5_19) rfl (XT.ii_eq_t c19_3) (by decide) (by decide) hr) ?_
        refine Go.st (T' := s₁) (g' := (mkF m 27 #[.val (.long p0), .second, .val (.int p1), .val (.int p2)] [(.long p0)])) (fun _ hr => XT.lloadN X0.here hx rfl (hb hby d5_26) rfl hr) ?_
        exact Go.retJ X0 hx hlk hret (hb hby d5_27) (Nat.zero_le _) (Nat.zero_le _) ⟨congrArg (fun z => some (Value.long z)) (by simp only [f5, if_neg c3_1, if_pos c13_2, if_pos c19_3]), rfl, e0⟩
      · refine Go.st (T' := s₁) (g' := (mkF m 22 #[.val (.long p0), .second, .val (.int p1), .val (.int p2)] [])) (fun _ hr => XS.icmpNo X0.here hx rfl (hb hby d5_19) rfl (XT.ii_eq_f c19_3) hr) ?_
        refine Go.st (T' := s₁) (g' := (mkF m 23 #[.val (.long p0), .second, .val (.int p1), .val (.int p2)] [(.long p0)])) (fun _ hr => XT.lloadN X0.here hx rfl (hb hby d5_22) rfl hr) ?_
        refine Go.st (T' := s₁) (g' := (mkF m 24 #[.val (.long p0), .second, .val (.int p1), .val (.int p2)] [(.long (1 : Int64)), (.long p0)])) (fun _ hr => XT.lconstV X0.here hx rfl (1 : Int64) (hb hby d5_23) (by decide) hr) ?_
        refine Go.st (T' := s₁) (g' := (mkF m 25 #[.val (.long p0), .second, .val (.int p1), .val (.int p2)] [(.long (p0 + (1 : Int64)))])) (fun _ hr => XT.ladd X0.here hx rfl (hb hby d5_24) rfl hr) ?_
        exact Go.retJ X0 hx hlk hret (hb hby d5_25) (Nat.zero_le _) (Nat.zero_le _) ⟨congrArg (fun z => some (Value.long z)) (by simp only [f5, if_neg c3_1, if_pos c13_2, if_neg c19_3]), rfl, e0⟩
    · refine Go.st (T' := s₁) (g' := (mkF m 26 #[.val (.long p0), .second, .val (.int p1), .val (.int p2)] [])) (fun _ hr => XS.icmpYes X0.here hx rfl (pc0 := 13) (pc' := 26) rfl (hb hby d5_13) rfl (XT.ii_ne_t c13_2) (by decide) (by decide) hr) ?_
      refine Go.st (T' := s₁) (g' := (mkF m 27 #[.val (.long p0), .second, .val (.int p1), .val (.int p2)] [(.long p0)])) (fun _ hr => XT.lloadN X0.here hx rfl (hb hby d5_26) rfl hr) ?_
      exact Go.retJ X0 hx hlk hret (hb hby d5_27) (Nat.zero_le _) (Nat.zero_le _) ⟨congrArg (fun z => some (Value.long z)) (by simp only [f5, if_neg c3_1, if_neg c13_2]), rfl, e0⟩
theorem pd_2 : parseMethodDescriptor "()V" = some ⟨[], none⟩ := by decide +kernel
theorem d2_0 : decode prog_106_method_1_code 0 = .ok (.aload_n 0, 1) := by decide +kernel
theorem d2_1 : decode prog_106_method_1_code 1 = .ok (.invokespecial 1, 3) := by decide +kernel
theorem d2_4 : decode prog_106_method_1_code 4 = .ok (.aload_n 0, 1) := by decide +kernel
theorem d2_5 : decode prog_106_method_1_code 5 = .ok (.lconst 1, 1) := by decide +kernel
theorem d2_6 : decode prog_106_method_1_code 6 = .ok (.putfield 7, 3) := by decide +kernel
theorem d2_9 : decode prog_106_method_1_code 9 = .ok (.return_, 1) := by decide +kernel
theorem pn_1 : plainName "com/example/triplevec/triplevec/io/LineCounter" = true := by first | (simp [plainName, overriddenIn]; done) | decide +kernel
theorem ef_rm2 (m : MethodId) (a : Addr)  : entryFrame m #[(.ref a)] 1 = mkF m 0 #[.val (.ref a)] [] := by first | (simp [entryFrame, mkF, argsToLocals, Value.category]; done) | rfl
set_option maxRecDepth 65536 in
set_option maxHeartbeats 40000000 in
theorem rm2 (l : Launch) (Z : State) (a0 : Array Value) (hw : ∀ d ∈ tables_1, d.before a0 Z = true) (a : Addr)  (h0 : Heap) (n0 : Nat) (ng : n0 ≤ a) (E0 : Exa Z h0 a "com/example/triplevec/triplevec/io/LineCounter") (F0_line : Fld Z h0 a "com/example/triplevec/triplevec/io/LineCounter" "line" "J" (.long (0 : Int64))) (F0_afterCarriageReturn : Fld Z h0 a "com/example/triplevec/triplevec/io/LineCounter" "afterCarriageReturn" "Z" (.int (0 : Int32))) :
    MetQ l Z (⟨"com/example/triplevec/triplevec/io/LineCounter", "<init>", "()V"⟩ : MethodName) prog_106_method_1_code 1 none [] ({ frames := 1, cells := 0, slots := 0, locals := 12 } : Room) #[(.ref a)] h0 (fun v h L => v = none ∧ Fr n0 L ∧ Keep h0 h [a] ∧ Fld Z h a "com/example/triplevec/triplevec/io/LineCounter" "line" "J" (.long (1 : Int64)) ∧ Fld Z h a "com/example/triplevec/triplevec/io/LineCounter" "afterCarriageReturn" "Z" (.int (0 : Int32))) := by
  refine MetQ.body (plainFor_of_name pn_1) fun p e s m below meth c s₁ hx hby hml hown hnm hret hlk hZ e0 X0 => Go.cast (ef_rm2 m a) ?_
  refine Go.st (T' := s₁) (g' := (mkF m 1 #[.val (.ref a)] [(.ref a)])) (fun _ hr => XS.aloadN X0.here hx rfl (hb hby d2_0) rfl rfl hr) ?_
  obtain ⟨T1, X1, e1, st1⟩ := initO X0 hx hZ hown (hw _ (List.mem_of_getElem? (i := 11) rfl)) (hw _ (List.mem_of_getElem? (i := 12) rfl)) (hw _ (List.mem_of_getElem? (i := 13) rfl)) e0 (g := (mkF m 1 #[.val (.ref a)] [(.ref a)])) rfl (by rw [hml]; rfl) rfl (hb hby d2_1) (by decide) (W := 0) (by show 2 * 0 + _ ≤ _; exact Nat.le_of_eq rfl) (by decide)
  refine Go.st (T' := T1) (g' := (mkF m 4 #[.val (.ref a)] [])) st1 ?_
  refine Go.st (T' := T1) (g' := (mkF m 5 #[.val (.ref a)] [(.ref a)])) (fun _ hr => XS.aloadN X1.here hx rfl (hb hby d2_4) rfl rfl hr) ?_
  refine Go.st (T' := T1) (g' := (mkF m 6 #[.val (.ref a)] [(.long (1 : Int64)), (.ref a)])) (fun _ hr => XT.lconstV X1.here hx rfl (1 : Int64) (hb hby d2_5) (by decide) hr) ?_
  obtain ⟨T2, h2, X2, e2, W2, st2⟩ := putF X1 hx hZ hown (host := "") (Or.inl (hw _ (List.mem_of_getElem? (i := 14) rfl))) Via.refl e1 F0_line E0 (Or.inl (hw _ (List.mem_of_getElem? (i := 15) rfl))) (hw _ (List.mem_of_getElem? (i := 6) rfl)) (ty := .long) (by decide) rfl rfl (g := (mkF m 6 #[.val (.ref a)] [(.long (1 : Int64)), (.ref a)])) rfl rfl (hb hby d2_6)
  have F0_line_q_2 : Fld Z h2 a "com/example/triplevec/triplevec/io/LineCounter" "line" "J" (.long (1 : Int64)) := (F0_line.same W2)
  have F0_afterCarriageReturn_q_2 : Fld Z h2 a "com/example/triplevec/triplevec/io/LineCounter" "afterCarriageReturn" "Z" (.int (0 : Int32)) := (F0_afterCarriageReturn.other W2 (Or.inr (slot_ne (Or.inl (hw _ (List.mem_of_getElem? (i := 30) rfl))) (Or.inl (hw _ (List.mem_of_getElem? (i := 15) rfl))) (by decide) (t := .boolean) (t' := .long) (by decide) (by decide))))
  have E0_q_2 : Exa Z h2 a "com/example/triplevec/triplevec/io/LineCounter" := (E0.wr W2)
  have fK_q_2 : Keep h0 h2 [a] := ((Keep.refl h0 [a]).wr W2 (Or.inl (List.mem_of_getElem? (i := 0) rfl)))
  have N2 := Fr.snoc X2 (Fr.nil n0) ng
  refine Go.st (T' := T2) (g' := (mkF m 9 #[.val (.ref a)] [])) st2 ?_
  exact Go.retV X2 hx hlk hret (hb hby d2_9) (by decide) (by decide) (by rw [e2]; exact ⟨rfl, N2, fK_q_2, F0_line_q_2, F0_afterCarriageReturn_q_2⟩)
theorem pd_3 : parseMethodDescriptor "()J" = some ⟨[], some .long⟩ := by decide +kernel
theorem d4_0 : decode prog_106_method_3_code 0 = .ok (.aload_n 0, 1) := by decide +kernel
theorem d4_1 : decode prog_106_method_3_code 1 = .ok (.getfield 7, 3) := by decide +kernel
theorem d4_4 : decode prog_106_method_3_code 4 = .ok (.lreturn, 1) := by decide +kernel
def f4 (w0 : Int64) : Int64 := w0
theorem ef_rm4 (m : MethodId) (a : Addr)  : entryFrame m #[(.ref a)] 1 = mkF m 0 #[.val (.ref a)] [] := by first | (simp [entryFrame, mkF, argsToLocals, Value.category]; done) | rfl
set_option maxRecDepth 65536 in
set_option maxHeartbeats 40000000 in
theorem rm4 (l : Launch) (Z : State) (a0 : Array Value) (hw : ∀ d ∈ tables_1, d.before a0 Z = true) (a : Addr) (w0 : Int64)  (h0 : Heap) (F0_line : Fld Z h0 a "com/example/triplevec/triplevec/io/LineCounter" "line" "J" (.long w0)) :
    MetQ l Z (⟨"com/example/triplevec/triplevec/io/LineCounter", "line", "()J"⟩ : MethodName) prog_106_method_3_code 1 (some .long) [] ({ frames := 0, cells := 0, slots := 0, locals := 0 } : Room) #[(.ref a)] h0 (PQ (.long (f4 w0)) h0) := by
  refine MetQ.body (plainFor_of_name pn_1) fun p e s m below meth c s₁ hx hby hml hown hnm hret hlk hZ e0 X0 => Go.cast (ef_rm4 m a) ?_
  refine Go.st (T' := s₁) (g' := (mkF m 1 #[.val (.ref a)] [(.ref a)])) (fun _ hr => XS.aloadN X0.here hx rfl (hb hby d4_0) rfl rfl hr) ?_
  obtain ⟨T1, X1, e1, st1⟩ := getF X0 hx hZ hown (host := "") (Or.inl (hw _ (List.mem_of_getElem? (i := 14) rfl))) Via.refl e0 F0_line (g := (mkF m 1 #[.val (.ref a)] [(.ref a)])) rfl rfl (hb hby d4_1)
  refine Go.st (T' := T1) (g' := (mkF m 4 #[.val (.ref a)] [(.long w0)])) st1 ?_
  exact Go.retJ X1 hx hlk hret (hb hby d4_4) (by decide) (by decide) ⟨congrArg (fun z => some (Value.long z)) (by simp only [f4]), rfl, e1⟩
theorem pd_4 : parseMethodDescriptor "(I)V" = some ⟨[.int], none⟩ := by decide +kernel
theorem d6_0 : decode prog_106_method_2_code 0 = .ok (.iload_n 1, 1) := by decide +kernel
theorem d6_1 : decode prog_106_method_2_code 1 = .ok (.bipush 13, 2) := by decide +kernel
theorem d6_3 : decode prog_106_method_2_code 3 = .ok (.if_icmp .eq 16, 3) := by decide +kernel
theorem d6_6 : decode prog_106_method_2_code 6 = .ok (.iload_n 1, 1) := by decide +kernel
theorem d6_7 : decode prog_106_method_2_code 7 = .ok (.bipush 10, 2) := by decide +kernel
theorem d6_9 : decode prog_106_method_2_code 9 = .ok (.if_icmp .ne 20, 3) := by decide +kernel
theorem d6_12 : decode prog_106_method_2_code 12 = .ok (.aload_n 0, 1) := by decide +kernel
theorem d6_13 : decode prog_106_method_2_code 13 = .ok (.getfield 13, 3) := by decide +kernel
theorem d6_16 : decode prog_106_method_2_code 16 = .ok (.ifCond .ne 13, 3) := by decide +kernel
theorem d6_19 : decode prog_106_method_2_code 19 = .ok (.aload_n 0, 1) := by decide +kernel
theorem d6_20 : decode prog_106_method_2_code 20 = .ok (.dup, 1) := by decide +kernel
theorem d6_21 : decode prog_106_method_2_code 21 = .ok (.getfield 7, 3) := by decide +kernel
theorem d6_24 : decode prog_106_method_2_code 24 = .ok (.lconst 1, 1) := by decide +kernel
theorem d6_25 : decode prog_106_method_2_code 25 = .ok (.ladd, 1) := by decide +kernel
theorem d6_26 : decode prog_106_method_2_code 26 = .ok (.putfield 7, 3) := by decide +kernel
theorem d6_29 : decode prog_106_method_2_code 29 = .ok (.aload_n 0, 1) := by decide +kernel
theorem d6_30 : decode prog_106_method_2_code 30 = .ok (.iload_n 1, 1) := by decide +kernel
theorem d6_31 : decode prog_106_method_2_code 31 = .ok (.bipush 13, 2) := by decide +kernel
theorem d6_33 : decode prog_106_method_2_code 33 = .ok (.if_icmp .ne 7, 3) := by decide +kernel
theorem d6_36 : decode prog_106_method_2_code 36 = .ok (.iconst 1, 1) := by decide +kernel
theorem d6_37 : decode prog_106_method_2_code 37 = .ok (.goto 4, 3) := by decide +kernel
theorem d6_40 : decode prog_106_method_2_code 40 = .ok (.iconst 0, 1) := by decide +kernel
theorem d6_41 : decode prog_106_method_2_code 41 = .ok (.putfield 13, 3) := by decide +kernel
theorem d6_44 : decode prog_106_method_2_code 44 = .ok (.return_, 1) := by decide +kernel
def f6_line (p1 : Int32) (w0 : Int64) (w1 : Int32) : Int64 := (if p1 = (13 : Int32) then (w0 + (1 : Int64)) else (if p1 = (10 : Int32) then (if w1 = (0 : Int32) then (w0 + (1 : Int64)) else w0) else w0))
def f6_afterCarriageReturn (p1 : Int32) (w0 : Int64) (w1 : Int32) : Int32 := (if p1 = (13 : Int32) then (1 : Int32) else (0 : Int32))
theorem ef_rm6 (m : MethodId) (a : Addr) (p1 : Int32)  : entryFrame m #[(.ref a), (.int p1)] 2 = mkF m 0 #[.val (.ref a), .val (.int p1)] [] := by first | (simp [entryFrame, mkF, argsToLocals, Value.category]; done) | rfl
set_option maxRecDepth 65536 in
set_option maxHeartbeats 40000000 in
theorem rm6 (l : Launch) (Z : State) (a0 : Array Value) (hw : ∀ d ∈ tables_1, d.before a0 Z = true) (a : Addr) (p1 : Int32) (w0 : Int64) (w1 : Int32)  (h0 : Heap) (n0 : Nat) (ng : n0 ≤ a) (E0 : Exa Z h0 a "com/example/triplevec/triplevec/io/LineCounter") (F0_line : Fld Z h0 a "com/example/triplevec/triplevec/io/LineCounter" "line" "J" (.long w0)) (F0_afterCarriageReturn : Fld Z h0 a "com/example/triplevec/triplevec/io/LineCounter" "afterCarriageReturn" "Z" (.int w1)) :
    MetQ l Z (⟨"com/example/triplevec/triplevec/io/LineCounter", "pass", "(I)V"⟩ : MethodName) prog_106_method_2_code 2 none [] ({ frames := 0, cells := 0, slots := 0, locals := 0 } : Room) #[(.ref a), (.int p1)] h0 (fun v h L => v = none ∧ Fr n0 L ∧ Keep h0 h [a] ∧ Fld Z h a "com/example/triplevec/triplevec/io/LineCounter" "line" "J" (.long (f6_line p1 w0 w1)) ∧ Fld Z h a "com/example/triplevec/triplevec/io/LineCounter" "afterCarriageReturn" "Z" (.int (f6_afterCarriageReturn p1 w0 w1))) := by
  refine MetQ.body (plainFor_of_name pn_1) fun p e s m below meth c s₁ hx hby hml hown hnm hret hlk hZ e0 X0 => Go.cast (ef_rm6 m a p1) ?_
  refine Go.st (T' := s₁) (g' := (mkF m 1 #[.val (.ref a), .val (.int p1)] [(.int p1)])) (fun _ hr => XS.iloadN X0.here hx rfl (hb hby d6_0) rfl hr) ?_
  refine Go.st (T' := s₁) (g' := (mkF m 3 #[.val (.ref a), .val (.int p1)] [(.int (13 : Int32)), (.int p1)])) (fun _ hr => XT.bipushV X0.here hx rfl (13 : Int32) (hb hby d6_1) (by decide) hr) ?_
  by_cases c3_1 : p1 = (13 : Int32)
  · refine Go.st (T' := s₁) (g' := (mkF m 19 #[.val (.ref a), .val (.int p1)] [])) (fun _ hr => XS.icmpYes X0.here hx rfl (pc0 := 3) (pc' := 19) rfl (hb hby d6_3) rfl (XT.ii_eq_t c3_1) (by decide) (by decide) hr) ?_
    refine Go.st (T' := s₁) (g' := (mkF m 20 #[.val (.ref a), .val (.int p1)] [(.ref a)])) (fun _ hr => XS.aloadN X0.here hx rfl (hb hby d6_19) rfl rfl hr) ?_
    refine Go.st (T' := s₁) (g' := (mkF m 21 #[.val (.ref a), .val (.int p1)] [(.ref a), (.ref a)])) (fun _ hr => XS.dup X0.here hx rfl (hb hby d6_20) rfl rfl hr) ?_
    obtain ⟨T2, X2, e2, st2⟩ := getF X0 hx hZ hown (host := "") (Or.inl (hw _ (List.mem_of_getElem? (i := 14) rfl))) Via.refl e0 F0_line (g := (mkF m 21 #[.val (.ref a), .val (.int p1)] [(.ref a), (.ref a)])) rfl rfl (hb hby d6_21)
    refine Go.st (T' := T2) (g' := (mkF m 24 #[.val (.ref a), .val (.int p1)] [(.long w0), (.ref a)])) st2 ?_
    refine Go.st (T' := T2) (g' := (mkF m 25 #[.val (.ref a), .val (.int p1)] [(.long (1 : Int64)), (.long w0), (.ref a)])) (fun _ hr => XT.lconstV X2.here hx rfl (1 : Int64) (hb hby d6_24) (by decide) hr) ?_
    refine Go.st (T' := T2) (g' := (mkF m 26 #[.val (.ref a), .val (.int p1)] [(.long (w0 + (1 : Int64))), (.ref a)])) (fun _ hr => XT.ladd X2.here hx rfl (hb hby d6_25) rfl hr) ?_
    obtain ⟨T3, h3, X3, e3, W3, st3⟩ := putF X2 hx hZ hown (host := "") (Or.inl (hw _ (List.mem_of_getElem? (i := 14) rfl))) Via.refl e2 F0_line E0 (Or.inl (hw _ (List.mem_of_getElem? (i := 15) rfl))) (hw _ (List.mem_of_getElem? (i := 6) rfl)) (ty := .long) (by decide) rfl rfl (g := (mkF m 26 #[.val (.ref a), .val (.int p1)] [(.long (w0 + (1 : Int64))), (.ref a)])) rfl rfl (hb hby d6_26)
    have F0_line_q_3 : Fld Z h3 a "com/example/triplevec/triplevec/io/LineCounter" "line" "J" (.long (w0 + (1 : Int64))) := (F0_line.same W3)
    have F0_afterCarriageReturn_q_3 : Fld Z h3 a "com/example/triplevec/triplevec/io/LineCounter" "afterCarriageReturn" "Z" (.int w1) := (F0_afterCarriageReturn.other W3 (Or.inr (slot_ne (Or.inl (hw _ (List.mem_of_getElem? (i := 30) rfl))) (Or.inl (hw _ (List.mem_of_getElem? (i := 15) rfl))) (by decide) (t := .boolean) (t' := .long) (by decide) (by decide))))
    have E0_q_3 : Exa Z h3 a "com/example/triplevec/triplevec/io/LineCounter" := (E0.wr W3)
    have fK_q_3 : Keep h0 h3 [a] := ((Keep.refl h0 [a]).wr W3 (Or.inl (List.mem_of_getElem? (i := 0) rfl)))
    have N3 := Fr.snoc X3 (Fr.nil n0) ng
    refine Go.st (T' := T3) (g' := (mkF m 29 #[.val (.ref a), .val (.int p1)] [])) st3 ?_
    refine Go.st (T' := T3) (g' := (mkF m 30 #[.val (.ref a), .val (.int p1)] [(.ref a)])) (fun _ hr => XS.aloadN X3.here hx rfl (hb hby d6_29) rfl rfl hr) ?_
    refine Go.st (T' := T3) (g' := (mkF m 31 #[.val (.ref a), .val (.int p1)] [(.int p1), (.ref a)])) (fun _ hr => XS.iloadN X3.here hx rfl (hb hby d6_30) rfl hr) ?_
    refine Go.st (T' := T3) (g' := (mkF m 33 #[.val (.ref a), .val (.int p1)] [(.int (13 : Int32)), (.int p1), (.ref a)])) (fun _ hr => XT.bipushV X3.here hx rfl (13 : Int32) (hb hby d6_31) (by decide) hr) ?_
    refine Go.st (T' := T3) (g' := (mkF m 36 #[.val (.ref a), .val (.int p1)] [(.ref a)])) (fun _ hr => XS.icmpNo X3.here hx rfl (hb hby d6_33) rfl (XT.ii_ne_f c3_1) hr) ?_
    refine Go.st (T' := T3) (g' := (mkF m 37 #[.val (.ref a), .val (.int p1)] [(.int (1 : Int32)), (.ref a)])) (fun _ hr => XT.iconstV X3.here hx rfl (1 : Int32) (hb hby d6_36) (by decide) hr) ?_
    refine Go.st (T' := T3) (g' := (mkF m 41 #[.val (.ref a), .val (.int p1)] [(.int (1 : Int32)), (.ref a)])) (fun _ hr => XS.goto X3.here hx rfl (pc0 := 37) (pc' := 41) rfl (hb hby d6_37) (by decide) (by decide) hr) ?_
    obtain ⟨T4, h4, X4, e4, W4, st4⟩ := putFN X3 hx hZ hown (hw _ (List.mem_of_getElem? (i := 29) rfl)) Via.refl e3 F0_afterCarriageReturn_q_3 E0_q_3 (Or.inl (hw _ (List.mem_of_getElem? (i := 30) rfl))) (hw _ (List.mem_of_getElem? (i := 6) rfl)) (ty := .boolean) (v' := (.int (1 : Int32))) (by decide) rfl (by decide) (g := (mkF m 41 #[.val (.ref a), .val (.int p1)] [(.int (1 : Int32)), (.ref a)])) rfl rfl (hb hby d6_41)
    have F0_line_q_4 : Fld Z h4 a "com/example/triplevec/triplevec/io/LineCounter" "line" "J" (.long (w0 + (1 : Int64))) := (F0_line_q_3.other W4 (Or.inr (slot_ne (Or.inl (hw _ (List.mem_of_getElem? (i := 15) rfl))) (Or.inl (hw _ (List.mem_of_getElem? (i := 30) rfl))) (by decide) (t := .long) (t' := .boolean) (by decide) (by decide))))
    have F0_afterCarriageReturn_q_4 : Fld Z h4 a "com/example/triplevec/triplevec/io/LineCounter" "afterCarriageReturn" "Z" (.int (1 : Int32)) := (F0_afterCarriageReturn_q_3.same W4)
    have E0_q_4 : Exa Z h4 a "com/example/triplevec/triplevec/io/LineCounter" := (E0_q_3.wr W4)
    have fK_q_4 : Keep h0 h4 [a] := (fK_q_3.wr W4 (Or.inl (List.mem_of_getElem? (i := 0) rfl)))
    have N4 := Fr.snoc X4 N3 ng
    refine Go.st (T' := T4) (g' := (mkF m 44 #[.val (.ref a), .val (.int p1)] [])) st4 ?_
    exact Go.retV X4 hx hlk hret (hb hby d6_44) (by decide) (by decide) (by rw [e4]; exact ⟨rfl, N4, fK_q_4, (by rw [show (f6_line p1 w0 w1) = (w0 + (1 : Int64)) from by simp only [f6_line, if_pos c3_1]]; exact F0_line_q_4), (by rw [show (f6_afterCarriageReturn p1 w0 w1) = (1 : Int32) from by simp only [f6_afterCarriageReturn, if_pos c3_1]]; exact F0_afterCarriageReturn_q_4)⟩)
  · refine Go.st (T' := s₁) (g' := (mkF m 6 #[.val (.ref a), .val (.int p1)] [])) (fun _ hr => XS.icmpNo X0.here hx rfl (hb hby d6_3) rfl (XT.ii_eq_f c3_1) hr) ?_
    refine Go.st (T' := s₁) (g' := (mkF m 7 #[.val (.ref a), .val (.int p1)] [(.int p1)])) (fun _ hr => XS.iloadN X0.here hx rfl (hb hby d6_6) rfl hr) ?_
    refine Go.st (T' := s₁) (g' := (mkF m 9 #[.val (.ref a), .val (.int p1)] [(.int (10 : Int32)), (.int p1)])) (fun _ hr => XT.bipushV X0.here hx rfl (10 : Int32) (hb hby d6_7) (by decide) hr) ?_
    by_cases c9_5 : p1 = (10 : Int32)
    · refine Go.st (T' := s₁) (g' := (mkF m 12 #[.val (.ref a), .val (.int p1)] [])) (fun _ hr => XS.icmpNo X0.here hx rfl (hb hby d6_9) rfl (XT.ii_ne_f c9_5) hr) ?_
      refine Go.st (T' := s₁) (g' := (mkF m 13 #[.val (.ref a), .val (.int p1)] [(.ref a)])) (fun _ hr => XS.aloadN X0.here hx rfl (hb hby d6_12) rfl rfl hr) ?_
      obtain ⟨T6, X6, e6, st6⟩ := getF X0 hx hZ hown (host := "") (Or.inl (hw _ (List.mem_of_getElem? (i := 29) rfl))) Via.refl e0 F0_afterCarriageReturn (g := (mkF m 13 #[.val (.ref a), .val (.int p1)] [(.ref a)])) rfl rfl (hb hby d6_13)
      refine Go.st (T' := T6) (g' := (mkF m 16 #[.val (.ref a), .val (.int p1)] [(.int w1)])) st6 ?_
      by_cases c16_7 : w1 = (0 : Int32)
      · refine Go.st (T' := T6) (g' := (mkF m 19 #[.val (.ref a), .val (.int p1)] [])) (fun _ hr => XS.ifNo X6.here hx rfl (hb hby d6_16) rfl (XT.i0_ne_f c16_7) hr) ?_
        refine Go.st (T' := T6) (g' := (mkF m 20 #[.val (.ref a), .val (.int p1)] [(.ref a)])) (fun _ hr => XS.aloadN X6.here hx rfl (hb hby d6_19) rfl rfl hr) ?_
        refine Go.st (T' := T6) (g' := (mkF m 21 #[.val (.ref a), .val (.int p1)] [(.ref a), (.ref a)])) (fun _ hr => XS.dup X6.here hx rfl (hb hby d6_20) rfl rfl hr) ?_
        obtain ⟨T8, X8, e8, st8⟩ := getF X6 hx hZ hown (host := "") (Or.inl (hw _ (List.mem_of_getElem? (i := 14) rfl))) Via.refl e6 F0_line (g := (mkF m 21 #[.val (.ref a), .val (.int p1)] [(.ref a), (.ref a)])) rfl rfl (hb hby d6_21)
        refine Go.st (T' := T8) (g' := (mkF m 24 #[.val (.ref a), .val (.int p1)] [(.long w0), (.ref a)])) st8 ?_
        refine Go.st (T' := T8) (g' := (mkF m 25 #[.val (.ref a), .val (.int p1)] [(.long (1 : Int64)), (.long w0), (.ref a)])) (fun _ hr => XT.lconstV X8.here hx rfl (1 : Int64) (hb hby d6_24) (by decide) hr) ?_
        refine Go.st (T' := T8) (g' := (mkF m 26 #[.val (.ref a), .val (.int p1)] [(.long (w0 + (1 : Int64))), (.ref a)])) (fun _ hr => XT.ladd X8.here hx rfl (hb hby d6_25) rfl hr) ?_
        obtain ⟨T9, h9, X9, e9, W9, st9⟩ := putF X8 hx hZ hown (host := "") (Or.inl (hw _ (List.mem_of_getElem? (i := 14) rfl))) Via.refl e8 F0_line E0 (Or.inl (hw _ (List.mem_of_getElem? (i := 15) rfl))) (hw _ (List.mem_of_getElem? (i := 6) rfl)) (ty := .long) (by decide) rfl rfl (g := (mkF m 26 #[.val (.ref a), .val (.int p1)] [(.long (w0 + (1 : Int64))), (.ref a)])) rfl rfl (hb hby d6_26)
        have F0_line_q_9 : Fld Z h9 a "com/example/triplevec/triplevec/io/LineCounter" "line" "J" (.long (w0 + (1 : Int64))) := (F0_line.same W9)
        have F0_afterCarriageReturn_q_9 : Fld Z h9 a "com/example/triplevec/triplevec/io/LineCounter" "afterCarriageReturn" "Z" (.int w1) := (F0_afterCarriageReturn.other W9 (Or.inr (slot_ne (Or.inl (hw _ (List.mem_of_getElem? (i := 30) rfl))) (Or.inl (hw _ (List.mem_of_getElem? (i := 15) rfl))) (by decide) (t := .boolean) (t' := .long) (by decide) (by decide))))
        have E0_q_9 : Exa Z h9 a "com/example/triplevec/triplevec/io/LineCounter" := (E0.wr W9)
        have fK_q_9 : Keep h0 h9 [a] := ((Keep.refl h0 [a]).wr W9 (Or.inl (List.mem_of_getElem? (i := 0) rfl)))
        have N9 := Fr.snoc X9 (Fr.nil n0) ng
        refine Go.st (T' := T9) (g' := (mkF m 29 #[.val (.ref a), .val (.int p1)] [])) st9 ?_
        refine Go.st (T' := T9) (g' := (mkF m 30 #[.val (.ref a), .val (.int p1)] [(.ref a)])) (fun _ hr => XS.aloadN X9.here hx rfl (hb hby d6_29) rfl rfl hr) ?_
        refine Go.st (T' := T9) (g' := (mkF m 31 #[.val (.ref a), .val (.int p1)] [(.int p1), (.ref a)])) (fun _ hr => XS.iloadN X9.here hx rfl (hb hby d6_30) rfl hr) ?_
        refine Go.st (T' := T9) (g' := (mkF m 33 #[.val (.ref a), .val (.int p1)] [(.int (13 : Int32)), (.int p1), (.ref a)])) (fun _ hr => XT.bipushV X9.here hx rfl (13 : Int32) (hb hby d6_31) (by decide) hr) ?_
        refine Go.st (T' := T9) (g' := (mkF m 40 #[.val (.ref a), .val (.int p1)] [(.ref a)])) (fun _ hr => XS.icmpYes X9.here hx rfl (pc0 := 33) (pc' := 40) rfl (hb hby d6_33) rfl (XT.ii_ne_t c3_1) (by decide) (by decide) hr) ?_
        refine Go.st (T' := T9) (g' := (mkF m 41 #[.val (.ref a), .val (.int p1)] [(.int (0 : Int32)), (.ref a)])) (fun _ hr => XT.iconstV X9.here hx rfl (0 : Int32) (hb hby d6_40) (by decide) hr) ?_
        obtain ⟨T10, h10, X10, e10, W10, st10⟩ := putFN X9 hx hZ hown (hw _ (List.mem_of_getElem? (i := 29) rfl)) Via.refl e9 F0_afterCarriageReturn_q_9 E0_q_9 (Or.inl (hw _ (List.mem_of_getElem? (i := 30) rfl))) (hw _ (List.mem_of_getElem? (i := 6) rfl)) (ty := .boolean) (v' := (.int (0 : Int32))) (by decide) rfl (by decide) (g := (mkF m 41 #[.val (.ref a), .val (.int p1)] [(.int (0 : Int32)), (.ref a)])) rfl rfl (hb hby d6_41)
        have F0_line_q_10 : Fld Z h10 a "com/example/triplevec/triplevec/io/LineCounter" "line" "J" (.long (w0 + (1 : Int64))) := (F0_line_q_9.other W10 (Or.inr (slot_ne (Or.inl (hw _ (List.mem_of_getElem? (i := 15) rfl))) (Or.inl (hw _ (List.mem_of_getElem? (i := 30) rfl))) (by decide) (t := .long) (t' := .boolean) (by decide) (by decide))))
        have F0_afterCarriageReturn_q_10 : Fld Z h10 a "com/example/triplevec/triplevec/io/LineCounter" "afterCarriageReturn" "Z" (.int (0 : Int32)) := (F0_afterCarriageReturn_q_9.same W10)
        have E0_q_10 : Exa Z h10 a "com/example/triplevec/triplevec/io/LineCounter" := (E0_q_9.wr W10)
        have fK_q_10 : Keep h0 h10 [a] := (fK_q_9.wr W10 (Or.inl (List.mem_of_getElem? (i := 0) rfl)))
        have N10 := Fr.snoc X10 N9 ng
        refine Go.st (T' := T10) (g' := (mkF m 44 #[.val (.ref a), .val (.int p1)] [])) st10 ?_
        exact Go.retV X10 hx hlk hret (hb hby d6_44) (by decide) (by decide) (by rw [e10]; exact ⟨rfl, N10, fK_q_10, (by rw [show (f6_line p1 w0 w1) = (w0 + (1 : Int64)) from by simp only [f6_line, if_neg c3_1, if_pos c9_5, if_pos c16_7]]; exact F0_line_q_10), (by rw [show (f6_afterCarriageReturn p1 w0 w1) = (0 : Int32) from by simp only [f6_afterCarriageReturn, if_neg c3_1, if_pos c9_5, if_pos c16_7]]; exact F0_afterCarriageReturn_q_10)⟩)
      · refine Go.st (T' := T6) (g' := (mkF m 29 #[.val (.ref a), .val (.int p1)] [])) (fun _ hr => XS.ifYes X6.here hx rfl (pc0 := 16) (pc' := 29) rfl (hb hby d6_16) rfl (XT.i0_ne_t c16_7) (by decide) (by decide) hr) ?_
        refine Go.st (T' := T6) (g' := (mkF m 30 #[.val (.ref a), .val (.int p1)] [(.ref a)])) (fun _ hr => XS.aloadN X6.here hx rfl (hb hby d6_29) rfl rfl hr) ?_
        refine Go.st (T' := T6) (g' := (mkF m 31 #[.val (.ref a), .val (.int p1)] [(.int p1), (.ref a)])) (fun _ hr => XS.iloadN X6.here hx rfl (hb hby d6_30) rfl hr) ?_
        refine Go.st (T' := T6) (g' := (mkF m 33 #[.val (.ref a), .val (.int p1)] [(.int (13 : Int32)), (.int p1), (.ref a)])) (fun _ hr => XT.bipushV X6.here hx rfl (13 : Int32) (hb hby d6_31) (by decide) hr) ?_
        refine Go.st (T' := T6) (g' := (mkF m 40 #[.val (.ref a), .val (.int p1)] [(.ref a)])) (fun _ hr => XS.icmpYes X6.here hx rfl (pc0 := 33) (pc' := 40) rfl (hb hby d6_33) rfl (XT.ii_ne_t c3_1) (by decide) (by decide) hr) ?_
        refine Go.st (T' := T6) (g' := (mkF m 41 #[.val (.ref a), .val (.int p1)] [(.int (0 : Int32)), (.ref a)])) (fun _ hr => XT.iconstV X6.here hx rfl (0 : Int32) (hb hby d6_40) (by decide) hr) ?_
        obtain ⟨T11, h11, X11, e11, W11, st11⟩ := putFN X6 hx hZ hown (hw _ (List.mem_of_getElem? (i := 29) rfl)) Via.refl e6 F0_afterCarriageReturn E0 (Or.inl (hw _ (List.mem_of_getElem? (i := 30) rfl))) (hw _ (List.mem_of_getElem? (i := 6) rfl)) (ty := .boolean) (v' := (.int (0 : Int32))) (by decide) rfl (by decide) (g := (mkF m 41 #[.val (.ref a), .val (.int p1)] [(.int (0 : Int32)), (.ref a)])) rfl rfl (hb hby d6_41)
        have F0_line_q_11 : Fld Z h11 a "com/example/triplevec/triplevec/io/LineCounter" "line" "J" (.long w0) := (F0_line.other W11 (Or.inr (slot_ne (Or.inl (hw _ (List.mem_of_getElem? (i := 15) rfl))) (Or.inl (hw _ (List.mem_of_getElem? (i := 30) rfl))) (by decide) (t := .long) (t' := .boolean) (by decide) (by decide))))
        have F0_afterCarriageReturn_q_11 : Fld Z h11 a "com/example/triplevec/triplevec/io/LineCounter" "afterCarriageReturn" "Z" (.int (0 : Int32)) := (F0_afterCarriageReturn.same W11)
        have E0_q_11 : Exa Z h11 a "com/example/triplevec/triplevec/io/LineCounter" := (E0.wr W11)
        have fK_q_11 : Keep h0 h11 [a] := ((Keep.refl h0 [a]).wr W11 (Or.inl (List.mem_of_getElem? (i := 0) rfl)))
        have N11 := Fr.snoc X11 (Fr.nil n0) ng
        refine Go.st (T' := T11) (g' := (mkF m 44 #[.val (.ref a), .val (.int p1)] [])) st11 ?_
        exact Go.retV X11 hx hlk hret (hb hby d6_44) (by decide) (by decide) (by rw [e11]; exact ⟨rfl, N11, fK_q_11, (by rw [show (f6_line p1 w0 w1) = w0 from by simp only [f6_line, if_neg c3_1, if_pos c9_5, if_neg c16_7]]; exact F0_line_q_11), (by rw [show (f6_afterCarriageReturn p1 w0 w1) = (0 : Int32) from by simp only [f6_afterCarriageReturn, if_neg c3_1, if_pos c9_5, if_neg c16_7]]; exact F0_afterCarriageReturn_q_11)⟩)
    · refine Go.st (T' := s₁) (g' := (mkF m 29 #[.val (.ref a), .val (.int p1)] [])) (fun _ hr => XS.icmpYes X0.here hx rfl (pc0 := 9) (pc' := 29) rfl (hb hby d6_9) rfl (XT.ii_ne_t c9_5) (by decide) (by decide) hr) ?_
      refine Go.st (T' := s₁) (g' := (mkF m 30 #[.val (.ref a), .val (.int p1)] [(.ref a)])) (fun _ hr => XS.aloadN X0.here hx rfl (hb hby d6_29) rfl rfl hr) ?_
      refine Go.st (T' := s₁) (g' := (mkF m 31 #[.val (.ref a), .val (.int p1)] [(.int p1), (.ref a)])) (fun _ hr => XS.iloadN X0.here hx rfl (hb hby d6_30) rfl hr) ?_
      refine Go.st (T' := s₁) (g' := (mkF m 33 #[.val (.ref a), .val (.int p1)] [(.int (13 : Int32)), (.int p1), (.ref a)])) (fun _ hr => XT.bipushV X0.here hx rfl (13 : Int32) (hb hby d6_31) (by decide) hr) ?_
      refine Go.st (T' := s₁) (g' := (mkF m 40 #[.val (.ref a), .val (.int p1)] [(.ref a)])) (fun _ hr => XS.icmpYes X0.here hx rfl (pc0 := 33) (pc' := 40) rfl (hb hby d6_33) rfl (XT.ii_ne_t c3_1) (by decide) (by decide) hr) ?_
      refine Go.st (T' := s₁) (g' := (mkF m 41 #[.val (.ref a), .val (.int p1)] [(.int (0 : Int32)), (.ref a)])) (fun _ hr => XT.iconstV X0.here hx rfl (0 : Int32) (hb hby d6_40) (by decide) hr) ?_
      obtain ⟨T12, h12, X12, e12, W12, st12⟩ := putFN X0 hx hZ hown (hw _ (List.mem_of_getElem? (i := 29) rfl)) Via.refl e0 F0_afterCarriageReturn E0 (Or.inl (hw _ (List.mem_of_getElem? (i := 30) rfl))) (hw _ (List.mem_of_getElem? (i := 6) rfl)) (ty := .boolean) (v' := (.int (0 : Int32))) (by decide) rfl (by decide) (g := (mkF m 41 #[.val (.ref a), .val (.int p1)] [(.int (0 : Int32)), (.ref a)])) rfl rfl (hb hby d6_41)
      have F0_line_q_12 : Fld Z h12 a "com/example/triplevec/triplevec/io/LineCounter" "line" "J" (.long w0) := (F0_line.other W12 (Or.inr (slot_ne (Or.inl (hw _ (List.mem_of_getElem? (i := 15) rfl))) (Or.inl (hw _ (List.mem_of_getElem? (i := 30) rfl))) (by decide) (t := .long) (t' := .boolean) (by decide) (by decide))))
      have F0_afterCarriageReturn_q_12 : Fld Z h12 a "com/example/triplevec/triplevec/io/LineCounter" "afterCarriageReturn" "Z" (.int (0 : Int32)) := (F0_afterCarriageReturn.same W12)
      have E0_q_12 : Exa Z h12 a "com/example/triplevec/triplevec/io/LineCounter" := (E0.wr W12)
      have fK_q_12 : Keep h0 h12 [a] := ((Keep.refl h0 [a]).wr W12 (Or.inl (List.mem_of_getElem? (i := 0) rfl)))
      have N12 := Fr.snoc X12 (Fr.nil n0) ng
      refine Go.st (T' := T12) (g' := (mkF m 44 #[.val (.ref a), .val (.int p1)] [])) st12 ?_
      exact Go.retV X12 hx hlk hret (hb hby d6_44) (by decide) (by decide) (by rw [e12]; exact ⟨rfl, N12, fK_q_12, (by rw [show (f6_line p1 w0 w1) = w0 from by simp only [f6_line, if_neg c3_1, if_neg c9_5]]; exact F0_line_q_12), (by rw [show (f6_afterCarriageReturn p1 w0 w1) = (0 : Int32) from by simp only [f6_afterCarriageReturn, if_neg c3_1, if_neg c9_5]]; exact F0_afterCarriageReturn_q_12)⟩)
theorem own_first (c : Int32) : f6_line c (1 : Int64) (0 : Int32) = f5 (1 : Int64) (-1 : Int32) c := by
  unfold f6_line f5
  have h : ¬ ((-1 : Int32) = (13 : Int32)) := by decide
  by_cases a : c = (13 : Int32)
  · simp only [if_pos a]
  · by_cases b : c = (10 : Int32)
    · simp only [if_neg a, if_pos b, if_neg h, if_true]
    · simp only [if_neg a, if_neg b]
theorem own_next (c prev : Int32) (l l0 r : Int64) (a0 : Int32) (e : l = r) : f6_line c l (f6_afterCarriageReturn prev l0 a0) = f5 r prev c := by
  subst e
  unfold f6_line f6_afterCarriageReturn f5
  have h1 : ¬ ((1 : Int32) = (0 : Int32)) := by decide
  by_cases a : c = (13 : Int32)
  · simp only [if_pos a]
  · by_cases b : c = (10 : Int32)
    · by_cases d : prev = (13 : Int32)
      · simp only [if_neg a, if_pos b, if_pos d, if_neg h1]
      · simp only [if_neg a, if_pos b, if_neg d, if_true]
    · simp only [if_neg a, if_neg b]
theorem pd_5 : parseMethodDescriptor "(JJJJ)Z" = some ⟨[.long, .long, .long, .long], some .boolean⟩ := by decide +kernel
theorem ef_rm0 (m : MethodId) (p0 : Int64) (p1 : Int64) (p2 : Int64) (p3 : Int64)  : entryFrame m #[(.long p0), (.long p1), (.long p2), (.long p3)] maxLocals = mkF m 0 #[.val (.long p0), .second, .val (.long p1), .second, .val (.long p2), .second, .val (.long p3), .second, .unset, .unset, .unset, .unset, .unset, .unset, .unset, .unset, .unset, .unset, .unset, .unset, .unset, .unset] [] := by first | (simp [entryFrame, mkF, argsToLocals, Value.category, maxLocals]; done) | rfl
set_option maxRecDepth 65536 in
set_option maxHeartbeats 40000000 in
theorem rm0 (l : Launch) (Z : State) (a0 : Array Value) (hw : ∀ d ∈ tables_1, d.before a0 Z = true) (ws : List Jvm.Cond) (p0 : Int64) (p1 : Int64) (p2 : Int64) (p3 : Int64)  (h0 : Heap)  :
    MetQ l Z x code maxLocals ret ws room_1 #[(.long p0), (.long p1), (.long p2), (.long p3)] h0 (fun v h L => v = some (.int 1) ∧ Fr h0.size L) := by
  refine MetQ.body (plainFor_of_name pn_0) fun p e s m below meth c s₁ hx hby hml hown hnm hret hlk hZ e0 X0 => Go.cast (ef_rm0 m p0 p1 p2 p3) ?_
  have hml : c.maxLocals = 22 := hml
  have hown : s.vm.findClass "com/example/triplevec/triplevec/io/LineCounterPassPinLaw" = some m.cls := hown
  have hret : meth.sig.returnType = some .boolean := hret
  refine Go.st (T' := s₁) (g' := (mkF m 1 #[.val (.long p0), .second, .val (.long p1), .second, .val (.long p2), .second, .val (.long p3), .second, .unset, .unset, .unset, .unset, .unset, .unset, .unset, .unset, .unset, .unset, .unset, .unset, .unset, .unset] [(.long p0)])) (fun _ hr => XT.lloadN X0.here hx rfl (hb hby at_0) rfl hr) ?_
  refine Go.callP X0 hx hZ hown (W := 0) (hw _ (List.mem_of_getElem? (i := 0) rfl)) (hw _ (List.mem_of_getElem? (i := 1) rfl)) (hw _ (List.mem_of_getElem? (i := 2) rfl)) (hw _ (List.mem_of_getElem? (i := 3) rfl)) (by decide) e0 (rm1 l Z a0 hw p0 h0) (by decide) (by decide) (by decide) (by decide) (g := (mkF m 1 #[.val (.long p0), .second, .val (.long p1), .second, .val (.long p2), .second, .val (.long p3), .second, .unset, .unset, .unset, .unset, .unset, .unset, .unset, .unset, .unset, .unset, .unset, .unset, .unset, .unset] [(.long p0)])) rfl (by rw [hml]; rfl) (argsL := [(.long p0)]) (rest := []) (lenOf pd_0 rfl) rfl (by show 2 * 0 + _ ≤ _; exact Nat.le_of_eq rfl) (hb hby at_1) (fun T1 X1 e1 => ?_)
  show Go p.tables e below (Fin s (fun v h L => v = some (.int 1) ∧ Fr h0.size L) room_1.cells room_1.slots) T1 (mkF m 4 #[.val (.long p0), .second, .val (.long p1), .second, .val (.long p2), .second, .val (.long p3), .second, .unset, .unset, .unset, .unset, .unset, .unset, .unset, .unset, .unset, .unset, .unset, .unset, .unset, .unset] [(.int (f1 p0))])
  refine Go.st (T' := T1) (g' := (mkF m 6 #[.val (.long p0), .second, .val (.long p1), .second, .val (.long p2), .second, .val (.long p3), .second, .val (.int (f1 p0)), .unset, .unset, .unset, .unset, .unset, .unset, .unset, .unset, .unset, .unset, .unset, .unset, .unset] [])) (fun _ hr => XS.istore X1.here hx rfl (hb hby at_4) rfl (l' := #[.val (.long p0), .second, .val (.long p1), .second, .val (.long p2), .second, .val (.long p3), .second, .val (.int (f1 p0)), .unset, .unset, .unset, .unset, .unset, .unset, .unset, .unset, .unset, .unset, .unset, .unset, .unset]) rfl hr) ?_
  refine Go.st (T' := T1) (g' := (mkF m 7 #[.val (.long p0), .second, .val (.long p1), .second, .val (.long p2), .second, .val (.long p3), .second, .val (.int (f1 p0)), .unset, .unset, .unset, .unset, .unset, .unset, .unset, .unset, .unset, .unset, .unset, .unset, .unset] [(.long p1)])) (fun _ hr => XT.lloadN X1.here hx rfl (hb hby at_6) rfl hr) ?_
  refine Go.callP X1 hx hZ hown (W := 0) (hw _ (List.mem_of_getElem? (i := 0) rfl)) (hw _ (List.mem_of_getElem? (i := 1) rfl)) (hw _ (List.mem_of_getElem? (i := 2) rfl)) (hw _ (List.mem_of_getElem? (i := 3) rfl)) (by decide) e1 (rm1 l Z a0 hw p1 h0) (by decide) (by decide) (by decide) (by decide) (g := (mkF m 7 #[.val (.long p0), .second, .val (.long p1), .second, .val (.long p2), .second, .val (.long p3), .second, .val (.int (f1 p0)), .unset, .unset, .unset, .unset, .unset, .unset, .unset, .unset, .unset, .unset, .unset, .unset, .unset] [(.long p1)])) rfl (by rw [hml]; rfl) (argsL := [(.long p1)]) (rest := []) (lenOf pd_0 rfl) rfl (by show 2 * 0 + _ ≤ _; exact Nat.le_of_eq rfl) (hb hby at_7) (fun T2 X2 e2 => ?_)
  show Go p.tables e below (Fin s (fun v h L => v = some (.int 1) ∧ Fr h0.size L) room_1.cells room_1.slots) T2 (mkF m 10 #[.val (.long p0), .second, .val (.long p1), .second, .val (.long p2), .second, .val (.long p3), .second, .val (.int (f1 p0)), .unset, .unset, .unset, .unset, .unset, .unset, .unset, .unset, .unset, .unset, .unset, .unset, .unset] [(.int (f1 p1))])
  refine Go.st (T' := T2) (g' := (mkF m 12 #[.val (.long p0), .second, .val (.long p1), .second, .val (.long p2), .second, .val (.long p3), .second, .val (.int (f1 p0)), .val (.int (f1 p1)), .unset, .unset, .unset, .unset, .unset, .unset, .unset, .unset, .unset, .unset, .unset, .unset] [])) (fun _ hr => XS.istore X2.here hx rfl (hb hby at_10) rfl (l' := #[.val (.long p0), .second, .val (.long p1), .second, .val (.long p2), .second, .val (.long p3), .second, .val (.int (f1 p0)), .val (.int (f1 p1)), .unset, .unset, .unset, .unset, .unset, .unset, .unset, .unset, .unset, .unset, .unset, .unset]) rfl hr) ?_
  refine Go.st (T' := T2) (g' := (mkF m 14 #[.val (.long p0), .second, .val (.long p1), .second, .val (.long p2), .second, .val (.long p3), .second, .val (.int (f1 p0)), .val (.int (f1 p1)), .unset, .unset, .unset, .unset, .unset, .unset, .unset, .unset, .unset, .unset, .unset, .unset] [(.long p2)])) (fun _ hr => XT.lload X2.here hx rfl (hb hby at_12) rfl hr) ?_
  refine Go.callP X2 hx hZ hown (W := 0) (hw _ (List.mem_of_getElem? (i := 0) rfl)) (hw _ (List.mem_of_getElem? (i := 1) rfl)) (hw _ (List.mem_of_getElem? (i := 2) rfl)) (hw _ (List.mem_of_getElem? (i := 3) rfl)) (by decide) e2 (rm1 l Z a0 hw p2 h0) (by decide) (by decide) (by decide) (by decide) (g := (mkF m 14 #[.val (.long p0), .second, .val (.long p1), .second, .val (.long p2), .second, .val (.long p3), .second, .val (.int (f1 p0)), .val (.int (f1 p1)), .unset, .unset, .unset, .unset, .unset, .unset, .unset, .unset, .unset, .unset, .unset, .unset] [(.long p2)])) rfl (by rw [hml]; rfl) (argsL := [(.long p2)]) (rest := []) (lenOf pd_0 rfl) rfl (by show 2 * 0 + _ ≤ _; exact Nat.le_of_eq rfl) (hb hby at_14) (fun T3 X3 e3 => ?_)
  show Go p.tables e below (Fin s (fun v h L => v = some (.int 1) ∧ Fr h0.size L) room_1.cells room_1.slots) T3 (mkF m 17 #[.val (.long p0), .second, .val (.long p1), .second, .val (.long p2), .second, .val (.long p3), .second, .val (.int (f1 p0)), .val (.int (f1 p1)), .unset, .unset, .unset, .unset, .unset, .unset, .unset, .unset, .unset, .unset, .unset, .unset] [(.int (f1 p2))])
  refine Go.st (T' := T3) (g' := (mkF m 19 #[.val (.long p0), .second, .val (.long p1), .second, .val (.long p2), .second, .val (.long p3), .second, .val (.int (f1 p0)), .val (.int (f1 p1)), .val (.int (f1 p2)), .unset, .unset, .unset, .unset, .unset, .unset, .unset, .unset, .unset, .unset, .unset] [])) (fun _ hr => XS.istore X3.here hx rfl (hb hby at_17) rfl (l' := #[.val (.long p0), .second, .val (.long p1), .second, .val (.long p2), .second, .val (.long p3), .second, .val (.int (f1 p0)), .val (.int (f1 p1)), .val (.int (f1 p2)), .unset, .unset, .unset, .unset, .unset, .unset, .unset, .unset, .unset, .unset, .unset]) rfl hr) ?_
  refine Go.st (T' := T3) (g' := (mkF m 21 #[.val (.long p0), .second, .val (.long p1), .second, .val (.long p2), .second, .val (.long p3), .second, .val (.int (f1 p0)), .val (.int (f1 p1)), .val (.int (f1 p2)), .unset, .unset, .unset, .unset, .unset, .unset, .unset, .unset, .unset, .unset, .unset] [(.long p3)])) (fun _ hr => XT.lload X3.here hx rfl (hb hby at_19) rfl hr) ?_
  refine Go.callP X3 hx hZ hown (W := 0) (hw _ (List.mem_of_getElem? (i := 0) rfl)) (hw _ (List.mem_of_getElem? (i := 1) rfl)) (hw _ (List.mem_of_getElem? (i := 2) rfl)) (hw _ (List.mem_of_getElem? (i := 3) rfl)) (by decide) e3 (rm1 l Z a0 hw p3 h0) (by decide) (by decide) (by decide) (by decide) (g := (mkF m 21 #[.val (.long p0), .second, .val (.long p1), .second, .val (.long p2), .second, .val (.long p3), .second, .val (.int (f1 p0)), .val (.int (f1 p1)), .val (.int (f1 p2)), .unset, .unset, .unset, .unset, .unset, .unset, .unset, .unset, .unset, .unset, .unset] [(.long p3)])) rfl (by rw [hml]; rfl) (argsL := [(.long p3)]) (rest := []) (lenOf pd_0 rfl) rfl (by show 2 * 0 + _ ≤ _; exact Nat.le_of_eq rfl) (hb hby at_21) (fun T4 X4 e4 => ?_)
  show Go p.tables e below (Fin s (fun v h L => v = some (.int 1) ∧ Fr h0.size L) room_1.cells room_1.slots) T4 (mkF m 24 #[.val (.long p0), .second, .val (.long p1), .second, .val (.long p2), .second, .val (.long p3), .second, .val (.int (f1 p0)), .val (.int (f1 p1)), .val (.int (f1 p2)), .unset, .unset, .unset, .unset, .unset, .unset, .unset, .unset, .unset, .unset, .unset] [(.int (f1 p3))])
  refine Go.st (T' := T4) (g' := (mkF m 26 #[.val (.long p0), .second, .val (.long p1), .second, .val (.long p2), .second, .val (.long p3), .second, .val (.int (f1 p0)), .val (.int (f1 p1)), .val (.int (f1 p2)), .val (.int (f1 p3)), .unset, .unset, .unset, .unset, .unset, .unset, .unset, .unset, .unset, .unset] [])) (fun _ hr => XS.istore X4.here hx rfl (hb hby at_24) rfl (l' := #[.val (.long p0), .second, .val (.long p1), .second, .val (.long p2), .second, .val (.long p3), .second, .val (.int (f1 p0)), .val (.int (f1 p1)), .val (.int (f1 p2)), .val (.int (f1 p3)), .unset, .unset, .unset, .unset, .unset, .unset, .unset, .unset, .unset, .unset]) rfl hr) ?_
  obtain ⟨T5, h5, X5, e5, E5, A5, D5, -, st5⟩ := newO X4 hx hZ hown (hw _ (List.mem_of_getElem? (i := 5) rfl)) (hw _ (List.mem_of_getElem? (i := 6) rfl)) (hw _ (List.mem_of_getElem? (i := 7) rfl)) e4 (g := (mkF m 26 #[.val (.long p0), .second, .val (.long p1), .second, .val (.long p2), .second, .val (.long p3), .second, .val (.int (f1 p0)), .val (.int (f1 p1)), .val (.int (f1 p2)), .val (.int (f1 p3)), .unset, .unset, .unset, .unset, .unset, .unset, .unset, .unset, .unset, .unset] [])) rfl (hb hby at_26) (by decide) (by decide)
  obtain ⟨a5, g5⟩ : ∃ z, z = h0.size := ⟨_, rfl⟩
  rw [← g5] at A5 D5 st5
  have n_a5 : h0.size ≤ a5 := Nat.le_trans (Nat.le_refl h0.size) (Nat.le_of_eq g5.symm)
  have fZ_q_5 : h0.size ≤ h5.size := (Nat.le_trans (Nat.le_refl h0.size) E5.1)
  have F5_line : Fld Z h5 a5 "com/example/triplevec/triplevec/io/LineCounter" "line" "J" (.long (0 : Int64)) := D5 (Or.inl (hw _ (List.mem_of_getElem? (i := 15) rfl))) (ty := .long) (by decide)
  have F5_afterCarriageReturn : Fld Z h5 a5 "com/example/triplevec/triplevec/io/LineCounter" "afterCarriageReturn" "Z" (.int (0 : Int32)) := D5 (Or.inl (hw _ (List.mem_of_getElem? (i := 30) rfl))) (ty := .boolean) (by decide)
  refine Go.st (T' := T5) (g' := (mkF m 29 #[.val (.long p0), .second, .val (.long p1), .second, .val (.long p2), .second, .val (.long p3), .second, .val (.int (f1 p0)), .val (.int (f1 p1)), .val (.int (f1 p2)), .val (.int (f1 p3)), .unset, .unset, .unset, .unset, .unset, .unset, .unset, .unset, .unset, .unset] [(.ref a5)])) st5 ?_
  refine Go.st (T' := T5) (g' := (mkF m 30 #[.val (.long p0), .second, .val (.long p1), .second, .val (.long p2), .second, .val (.long p3), .second, .val (.int (f1 p0)), .val (.int (f1 p1)), .val (.int (f1 p2)), .val (.int (f1 p3)), .unset, .unset, .unset, .unset, .unset, .unset, .unset, .unset, .unset, .unset] [(.ref a5), (.ref a5)])) (fun _ hr => XS.dup X5.here hx rfl (hb hby at_29) rfl rfl hr) ?_
  refine Go.callC X5 hx hZ hown (W := 1) (y := (⟨"com/example/triplevec/triplevec/io/LineCounter", "<init>", "()V"⟩ : MethodName)) rfl (hw _ (List.mem_of_getElem? (i := 8) rfl)) (hw _ (List.mem_of_getElem? (i := 9) rfl)) (hw _ (List.mem_of_getElem? (i := 7) rfl)) (hw _ (List.mem_of_getElem? (i := 10) rfl)) (by decide) e5 (rm2 l Z a0 hw a5   h5 h0.size n_a5 A5 F5_line F5_afterCarriageReturn) (by decide) (by decide) (by decide) (by decide) (g := (mkF m 30 #[.val (.long p0), .second, .val (.long p1), .second, .val (.long p2), .second, .val (.long p3), .second, .val (.int (f1 p0)), .val (.int (f1 p1)), .val (.int (f1 p2)), .val (.int (f1 p3)), .unset, .unset, .unset, .unset, .unset, .unset, .unset, .unset, .unset, .unset] [(.ref a5), (.ref a5)])) rfl (by rw [hml]; rfl) (argsL := []) (rest := [(.ref a5)]) (lenOf pd_2 rfl) rfl (by show 2 * 0 + _ ≤ _; exact Nat.le_of_eq rfl) (hb hby at_30) (fun v6 T6 L6 X6 q6 => ?_)
  obtain ⟨h6, e6⟩ : ∃ z, T6.heap = z := ⟨_, rfl⟩
  rw [e6] at q6
  obtain ⟨rfl, N6q, K6, G6_line, G6_afterCarriageReturn⟩ := q6
  have N6 := Fr.app (Fr.nil h0.size) N6q
  have fZ_q_6 : h0.size ≤ h6.size := (Nat.le_trans fZ_q_5 K6.1)
  have A5_q_6 : Exa Z h6 a5 "com/example/triplevec/triplevec/io/LineCounter" := (A5.keep K6)
  show Go p.tables e below (Fin s (fun v h L => v = some (.int 1) ∧ Fr h0.size L) room_1.cells room_1.slots) T6 (mkF m 33 #[.val (.long p0), .second, .val (.long p1), .second, .val (.long p2), .second, .val (.long p3), .second, .val (.int (f1 p0)), .val (.int (f1 p1)), .val (.int (f1 p2)), .val (.int (f1 p3)), .unset, .unset, .unset, .unset, .unset, .unset, .unset, .unset, .unset, .unset] [(.ref a5)])
  refine Go.st (T' := T6) (g' := (mkF m 35 #[.val (.long p0), .second, .val (.long p1), .second, .val (.long p2), .second, .val (.long p3), .second, .val (.int (f1 p0)), .val (.int (f1 p1)), .val (.int (f1 p2)), .val (.int (f1 p3)), .val (.ref a5), .unset, .unset, .unset, .unset, .unset, .unset, .unset, .unset, .unset] [])) (fun _ hr => XS.astore X6.here hx rfl (hb hby at_33) rfl rfl (l' := #[.val (.long p0), .second, .val (.long p1), .second, .val (.long p2), .second, .val (.long p3), .second, .val (.int (f1 p0)), .val (.int (f1 p1)), .val (.int (f1 p2)), .val (.int (f1 p3)), .val (.ref a5), .unset, .unset, .unset, .unset, .unset, .unset, .unset, .unset, .unset]) rfl hr) ?_
  refine Go.st (T' := T6) (g' := (mkF m 37 #[.val (.long p0), .second, .val (.long p1), .second, .val (.long p2), .second, .val (.long p3), .second, .val (.int (f1 p0)), .val (.int (f1 p1)), .val (.int (f1 p2)), .val (.int (f1 p3)), .val (.ref a5), .unset, .unset, .unset, .unset, .unset, .unset, .unset, .unset, .unset] [(.ref a5)])) (fun _ hr => XS.aload X6.here hx rfl (hb hby at_35) rfl rfl hr) ?_
  refine Go.callV X6 hx hZ hown (W := 0) (y := (⟨"com/example/triplevec/triplevec/io/LineCounter", "line", "()J"⟩ : MethodName)) (hw _ (List.mem_of_getElem? (i := 16) rfl)) (hw _ (List.mem_of_getElem? (i := 17) rfl)) (hw _ (List.mem_of_getElem? (i := 19) rfl)) (hw _ (List.mem_of_getElem? (i := 18) rfl)) (hw _ (List.mem_of_getElem? (i := 7) rfl)) (hw _ (List.mem_of_getElem? (i := 20) rfl)) (by decide) rfl e6 A5_q_6 (rm4 l Z a0 hw a5 (1 : Int64)  h6 G6_line) (by decide) (by decide) (by decide) (by decide) (g := (mkF m 37 #[.val (.long p0), .second, .val (.long p1), .second, .val (.long p2), .second, .val (.long p3), .second, .val (.int (f1 p0)), .val (.int (f1 p1)), .val (.int (f1 p2)), .val (.int (f1 p3)), .val (.ref a5), .unset, .unset, .unset, .unset, .unset, .unset, .unset, .unset, .unset] [(.ref a5)])) rfl (by rw [hml]; rfl) (argsL := []) (rest := []) (lenOf pd_3 rfl) rfl (by show 2 * 0 + _ ≤ _; exact Nat.le_of_eq rfl) (hb hby at_37) (fun v7 T7 L7 X7 q7 => ?_)
  obtain ⟨rfl, rfl, e7⟩ := q7
  rw [List.append_nil] at X7
  show Go p.tables e below (Fin s (fun v h L => v = some (.int 1) ∧ Fr h0.size L) room_1.cells room_1.slots) T7 (mkF m 40 #[.val (.long p0), .second, .val (.long p1), .second, .val (.long p2), .second, .val (.long p3), .second, .val (.int (f1 p0)), .val (.int (f1 p1)), .val (.int (f1 p2)), .val (.int (f1 p3)), .val (.ref a5), .unset, .unset, .unset, .unset, .unset, .unset, .unset, .unset, .unset] [(.long (1 : Int64))])
  refine Go.st (T' := T7) (g' := (mkF m 41 #[.val (.long p0), .second, .val (.long p1), .second, .val (.long p2), .second, .val (.long p3), .second, .val (.int (f1 p0)), .val (.int (f1 p1)), .val (.int (f1 p2)), .val (.int (f1 p3)), .val (.ref a5), .unset, .unset, .unset, .unset, .unset, .unset, .unset, .unset, .unset] [(.long (1 : Int64)), (.long (1 : Int64))])) (fun _ hr => XT.lconstV X7.here hx rfl (1 : Int64) (hb hby at_40) (by decide) hr) ?_
  refine Go.st (T' := T7) (g' := (mkF m 42 #[.val (.long p0), .second, .val (.long p1), .second, .val (.long p2), .second, .val (.long p3), .second, .val (.int (f1 p0)), .val (.int (f1 p1)), .val (.int (f1 p2)), .val (.int (f1 p3)), .val (.ref a5), .unset, .unset, .unset, .unset, .unset, .unset, .unset, .unset, .unset] [(.int (XT.cmpL (1 : Int64) (1 : Int64)))])) (fun _ hr => XT.lcmp X7.here hx rfl (hb hby at_41) rfl hr) ?_
  refine Go.st (T' := T7) (g' := (mkF m 45 #[.val (.long p0), .second, .val (.long p1), .second, .val (.long p2), .second, .val (.long p3), .second, .val (.int (f1 p0)), .val (.int (f1 p1)), .val (.int (f1 p2)), .val (.int (f1 p3)), .val (.ref a5), .unset, .unset, .unset, .unset, .unset, .unset, .unset, .unset, .unset] [])) (fun _ hr => XS.ifNo X7.here hx rfl (hb hby at_42) rfl (XT.ll_ne_f (by decide)) hr) ?_
  refine Go.st (T' := T7) (g' := (mkF m 46 #[.val (.long p0), .second, .val (.long p1), .second, .val (.long p2), .second, .val (.long p3), .second, .val (.int (f1 p0)), .val (.int (f1 p1)), .val (.int (f1 p2)), .val (.int (f1 p3)), .val (.ref a5), .unset, .unset, .unset, .unset, .unset, .unset, .unset, .unset, .unset] [(.int (1 : Int32))])) (fun _ hr => XT.iconstV X7.here hx rfl (1 : Int32) (hb hby at_45) (by decide) hr) ?_
  refine Go.st (T' := T7) (g' := (mkF m 50 #[.val (.long p0), .second, .val (.long p1), .second, .val (.long p2), .second, .val (.long p3), .second, .val (.int (f1 p0)), .val (.int (f1 p1)), .val (.int (f1 p2)), .val (.int (f1 p3)), .val (.ref a5), .unset, .unset, .unset, .unset, .unset, .unset, .unset, .unset, .unset] [(.int (1 : Int32))])) (fun _ hr => XS.goto X7.here hx rfl (pc0 := 46) (pc' := 50) rfl (hb hby at_46) (by decide) (by decide) hr) ?_
  refine Go.st (T' := T7) (g' := (mkF m 52 #[.val (.long p0), .second, .val (.long p1), .second, .val (.long p2), .second, .val (.long p3), .second, .val (.int (f1 p0)), .val (.int (f1 p1)), .val (.int (f1 p2)), .val (.int (f1 p3)), .val (.ref a5), .val (.int (1 : Int32)), .unset, .unset, .unset, .unset, .unset, .unset, .unset, .unset] [])) (fun _ hr => XS.istore X7.here hx rfl (hb hby at_50) rfl (l' := #[.val (.long p0), .second, .val (.long p1), .second, .val (.long p2), .second, .val (.long p3), .second, .val (.int (f1 p0)), .val (.int (f1 p1)), .val (.int (f1 p2)), .val (.int (f1 p3)), .val (.ref a5), .val (.int (1 : Int32)), .unset, .unset, .unset, .unset, .unset, .unset, .unset, .unset]) rfl hr) ?_
  refine Go.st (T' := T7) (g' := (mkF m 53 #[.val (.long p0), .second, .val (.long p1), .second, .val (.long p2), .second, .val (.long p3), .second, .val (.int (f1 p0)), .val (.int (f1 p1)), .val (.int (f1 p2)), .val (.int (f1 p3)), .val (.ref a5), .val (.int (1 : Int32)), .unset, .unset, .unset, .unset, .unset, .unset, .unset, .unset] [(.long (1 : Int64))])) (fun _ hr => XT.lconstV X7.here hx rfl (1 : Int64) (hb hby at_52) (by decide) hr) ?_
  refine Go.st (T' := T7) (g' := (mkF m 54 #[.val (.long p0), .second, .val (.long p1), .second, .val (.long p2), .second, .val (.long p3), .second, .val (.int (f1 p0)), .val (.int (f1 p1)), .val (.int (f1 p2)), .val (.int (f1 p3)), .val (.ref a5), .val (.int (1 : Int32)), .unset, .unset, .unset, .unset, .unset, .unset, .unset, .unset] [(.int (-1 : Int32)), (.long (1 : Int64))])) (fun _ hr => XT.iconstV X7.here hx rfl (-1 : Int32) (hb hby at_53) (by decide) hr) ?_
  refine Go.st (T' := T7) (g' := (mkF m 56 #[.val (.long p0), .second, .val (.long p1), .second, .val (.long p2), .second, .val (.long p3), .second, .val (.int (f1 p0)), .val (.int (f1 p1)), .val (.int (f1 p2)), .val (.int (f1 p3)), .val (.ref a5), .val (.int (1 : Int32)), .unset, .unset, .unset, .unset, .unset, .unset, .unset, .unset] [(.int (f1 p0)), (.int (-1 : Int32)), (.long (1 : Int64))])) (fun _ hr => XS.iload X7.here hx rfl (hb hby at_54) rfl hr) ?_
  refine Go.callP X7 hx hZ hown (W := 0) (hw _ (List.mem_of_getElem? (i := 21) rfl)) (hw _ (List.mem_of_getElem? (i := 22) rfl)) (hw _ (List.mem_of_getElem? (i := 2) rfl)) (hw _ (List.mem_of_getElem? (i := 23) rfl)) (by decide) e7 (rm5 l Z a0 hw (1 : Int64) (-1 : Int32) (f1 p0) h6) (by decide) (by decide) (by decide) (by decide) (g := (mkF m 56 #[.val (.long p0), .second, .val (.long p1), .second, .val (.long p2), .second, .val (.long p3), .second, .val (.int (f1 p0)), .val (.int (f1 p1)), .val (.int (f1 p2)), .val (.int (f1 p3)), .val (.ref a5), .val (.int (1 : Int32)), .unset, .unset, .unset, .unset, .unset, .unset, .unset, .unset] [(.int (f1 p0)), (.int (-1 : Int32)), (.long (1 : Int64))])) rfl (by rw [hml]; rfl) (argsL := [(.long (1 : Int64)), (.int (-1 : Int32)), (.int (f1 p0))]) (rest := []) (lenOf pd_1 rfl) rfl (by show 2 * 0 + _ ≤ _; exact Nat.le_of_eq rfl) (hb hby at_56) (fun T8 X8 e8 => ?_)
  show Go p.tables e below (Fin s (fun v h L => v = some (.int 1) ∧ Fr h0.size L) room_1.cells room_1.slots) T8 (mkF m 59 #[.val (.long p0), .second, .val (.long p1), .second, .val (.long p2), .second, .val (.long p3), .second, .val (.int (f1 p0)), .val (.int (f1 p1)), .val (.int (f1 p2)), .val (.int (f1 p3)), .val (.ref a5), .val (.int (1 : Int32)), .unset, .unset, .unset, .unset, .unset, .unset, .unset, .unset] [(.long (f5 (1 : Int64) (-1 : Int32) (f1 p0)))])
  refine Go.st (T' := T8) (g' := (mkF m 61 #[.val (.long p0), .second, .val (.long p1), .second, .val (.long p2), .second, .val (.long p3), .second, .val (.int (f1 p0)), .val (.int (f1 p1)), .val (.int (f1 p2)), .val (.int (f1 p3)), .val (.ref a5), .val (.int (1 : Int32)), .val (.long (f5 (1 : Int64) (-1 : Int32) (f1 p0))), .second, .unset, .unset, .unset, .unset, .unset, .unset] [])) (fun _ hr => XT.lstore X8.here hx rfl (hb hby at_59) rfl (l' := #[.val (.long p0), .second, .val (.long p1), .second, .val (.long p2), .second, .val (.long p3), .second, .val (.int (f1 p0)), .val (.int (f1 p1)), .val (.int (f1 p2)), .val (.int (f1 p3)), .val (.ref a5), .val (.int (1 : Int32)), .val (.long (f5 (1 : Int64) (-1 : Int32) (f1 p0))), .second, .unset, .unset, .unset, .unset, .unset, .unset]) rfl hr) ?_
  refine Go.st (T' := T8) (g' := (mkF m 63 #[.val (.long p0), .second, .val (.long p1), .second, .val (.long p2), .second, .val (.long p3), .second, .val (.int (f1 p0)), .val (.int (f1 p1)), .val (.int (f1 p2)), .val (.int (f1 p3)), .val (.ref a5), .val (.int (1 : Int32)), .val (.long (f5 (1 : Int64) (-1 : Int32) (f1 p0))), .second, .unset, .unset, .unset, .unset, .unset, .unset] [(.ref a5)])) (fun _ hr => XS.aload X8.here hx rfl (hb hby at_61) rfl rfl hr) ?_
  refine Go.st (T' := T8) (g' := (mkF m 65 #[.val (.long p0), .second, .val (.long p1), .second, .val (.long p2), .second, .val (.long p3), .second, .val (.int (f1 p0)), .val (.int (f1 p1)), .val (.int (f1 p2)), .val (.int (f1 p3)), .val (.ref a5), .val (.int (1 : Int32)), .val (.long (f5 (1 : Int64) (-1 : Int32) (f1 p0))), .second, .unset, .unset, .unset, .unset, .unset, .unset] [(.int (f1 p0)), (.ref a5)])) (fun _ hr => XS.iload X8.here hx rfl (hb hby at_63) rfl hr) ?_
  refine Go.callV X8 hx hZ hown (W := 0) (y := (⟨"com/example/triplevec/triplevec/io/LineCounter", "pass", "(I)V"⟩ : MethodName)) (hw _ (List.mem_of_getElem? (i := 24) rfl)) (hw _ (List.mem_of_getElem? (i := 25) rfl)) (hw _ (List.mem_of_getElem? (i := 27) rfl)) (hw _ (List.mem_of_getElem? (i := 26) rfl)) (hw _ (List.mem_of_getElem? (i := 7) rfl)) (hw _ (List.mem_of_getElem? (i := 28) rfl)) (by decide) rfl e8 A5_q_6 (rm6 l Z a0 hw a5 (f1 p0) (1 : Int64) (0 : Int32)  h6 h0.size n_a5 A5_q_6 G6_line G6_afterCarriageReturn) (by decide) (by decide) (by decide) (by decide) (g := (mkF m 65 #[.val (.long p0), .second, .val (.long p1), .second, .val (.long p2), .second, .val (.long p3), .second, .val (.int (f1 p0)), .val (.int (f1 p1)), .val (.int (f1 p2)), .val (.int (f1 p3)), .val (.ref a5), .val (.int (1 : Int32)), .val (.long (f5 (1 : Int64) (-1 : Int32) (f1 p0))), .second, .unset, .unset, .unset, .unset, .unset, .unset] [(.int (f1 p0)), (.ref a5)])) rfl (by rw [hml]; rfl) (argsL := [(.int (f1 p0))]) (rest := []) (lenOf pd_4 rfl) rfl (by show 2 * 0 + _ ≤ _; exact Nat.le_of_eq rfl) (hb hby at_65) (fun v9 T9 L9 X9 q9 => ?_)
  obtain ⟨h9, e9⟩ : ∃ z, T9.heap = z := ⟨_, rfl⟩
  rw [e9] at q9
  obtain ⟨rfl, N9q, K9, G9_line, G9_afterCarriageReturn⟩ := q9
  have N9 := Fr.app N6 N9q
  have fZ_q_9 : h0.size ≤ h9.size := (Nat.le_trans fZ_q_6 K9.1)
  have A5_q_9 : Exa Z h9 a5 "com/example/triplevec/triplevec/io/LineCounter" := (A5_q_6.keep K9)
  show Go p.tables e below (Fin s (fun v h L => v = some (.int 1) ∧ Fr h0.size L) room_1.cells room_1.slots) T9 (mkF m 68 #[.val (.long p0), .second, .val (.long p1), .second, .val (.long p2), .second, .val (.long p3), .second, .val (.int (f1 p0)), .val (.int (f1 p1)), .val (.int (f1 p2)), .val (.int (f1 p3)), .val (.ref a5), .val (.int (1 : Int32)), .val (.long (f5 (1 : Int64) (-1 : Int32) (f1 p0))), .second, .unset, .unset, .unset, .unset, .unset, .unset] [])
  refine Go.st (T' := T9) (g' := (mkF m 70 #[.val (.long p0), .second, .val (.long p1), .second, .val (.long p2), .second, .val (.long p3), .second, .val (.int (f1 p0)), .val (.int (f1 p1)), .val (.int (f1 p2)), .val (.int (f1 p3)), .val (.ref a5), .val (.int (1 : Int32)), .val (.long (f5 (1 : Int64) (-1 : Int32) (f1 p0))), .second, .unset, .unset, .unset, .unset, .unset, .unset] [(.int (1 : Int32))])) (fun _ hr => XS.iload X9.here hx rfl (hb hby at_68) rfl hr) ?_
  refine Go.st (T' := T9) (g' := (mkF m 73 #[.val (.long p0), .second, .val (.long p1), .second, .val (.long p2), .second, .val (.long p3), .second, .val (.int (f1 p0)), .val (.int (f1 p1)), .val (.int (f1 p2)), .val (.int (f1 p3)), .val (.ref a5), .val (.int (1 : Int32)), .val (.long (f5 (1 : Int64) (-1 : Int32) (f1 p0))), .second, .unset, .unset, .unset, .unset, .unset, .unset] [])) (fun _ hr => XS.ifNo X9.here hx rfl (hb hby at_70) rfl (XT.i0_eq_f (by decide)) hr) ?_
  refine Go.st (T' := T9) (g' := (mkF m 75 #[.val (.long p0), .second, .val (.long p1), .second, .val (.long p2), .second, .val (.long p3), .second, .val (.int (f1 p0)), .val (.int (f1 p1)), .val (.int (f1 p2)), .val (.int (f1 p3)), .val (.ref a5), .val (.int (1 : Int32)), .val (.long (f5 (1 : Int64) (-1 : Int32) (f1 p0))), .second, .unset, .unset, .unset, .unset, .unset, .unset] [(.ref a5)])) (fun _ hr => XS.aload X9.here hx rfl (hb hby at_73) rfl rfl hr) ?_
  refine Go.callV X9 hx hZ hown (W := 0) (y := (⟨"com/example/triplevec/triplevec/io/LineCounter", "line", "()J"⟩ : MethodName)) (hw _ (List.mem_of_getElem? (i := 16) rfl)) (hw _ (List.mem_of_getElem? (i := 17) rfl)) (hw _ (List.mem_of_getElem? (i := 19) rfl)) (hw _ (List.mem_of_getElem? (i := 18) rfl)) (hw _ (List.mem_of_getElem? (i := 7) rfl)) (hw _ (List.mem_of_getElem? (i := 20) rfl)) (by decide) rfl e9 A5_q_9 (rm4 l Z a0 hw a5 (f6_line (f1 p0) (1 : Int64) (0 : Int32))  h9 G9_line) (by decide) (by decide) (by decide) (by decide) (g := (mkF m 75 #[.val (.long p0), .second, .val (.long p1), .second, .val (.long p2), .second, .val (.long p3), .second, .val (.int (f1 p0)), .val (.int (f1 p1)), .val (.int (f1 p2)), .val (.int (f1 p3)), .val (.ref a5), .val (.int (1 : Int32)), .val (.long (f5 (1 : Int64) (-1 : Int32) (f1 p0))), .second, .unset, .unset, .unset, .unset, .unset, .unset] [(.ref a5)])) rfl (by rw [hml]; rfl) (argsL := []) (rest := []) (lenOf pd_3 rfl) rfl (by show 2 * 0 + _ ≤ _; exact Nat.le_of_eq rfl) (hb hby at_75) (fun v10 T10 L10 X10 q10 => ?_)
  obtain ⟨rfl, rfl, e10⟩ := q10
  rw [List.append_nil] at X10
  show Go p.tables e below (Fin s (fun v h L => v = some (.int 1) ∧ Fr h0.size L) room_1.cells room_1.slots) T10 (mkF m 78 #[.val (.long p0), .second, .val (.long p1), .second, .val (.long p2), .second, .val (.long p3), .second, .val (.int (f1 p0)), .val (.int (f1 p1)), .val (.int (f1 p2)), .val (.int (f1 p3)), .val (.ref a5), .val (.int (1 : Int32)), .val (.long (f5 (1 : Int64) (-1 : Int32) (f1 p0))), .second, .unset, .unset, .unset, .unset, .unset, .unset] [(.long (f6_line (f1 p0) (1 : Int64) (0 : Int32)))])
  refine Go.st (T' := T10) (g' := (mkF m 80 #[.val (.long p0), .second, .val (.long p1), .second, .val (.long p2), .second, .val (.long p3), .second, .val (.int (f1 p0)), .val (.int (f1 p1)), .val (.int (f1 p2)), .val (.int (f1 p3)), .val (.ref a5), .val (.int (1 : Int32)), .val (.long (f5 (1 : Int64) (-1 : Int32) (f1 p0))), .second, .unset, .unset, .unset, .unset, .unset, .unset] [(.long (f5 (1 : Int64) (-1 : Int32) (f1 p0))), (.long (f6_line (f1 p0) (1 : Int64) (0 : Int32)))])) (fun _ hr => XT.lload X10.here hx rfl (hb hby at_78) rfl hr) ?_
  refine Go.st (T' := T10) (g' := (mkF m 81 #[.val (.long p0), .second, .val (.long p1), .second, .val (.long p2), .second, .val (.long p3), .second, .val (.int (f1 p0)), .val (.int (f1 p1)), .val (.int (f1 p2)), .val (.int (f1 p3)), .val (.ref a5), .val (.int (1 : Int32)), .val (.long (f5 (1 : Int64) (-1 : Int32) (f1 p0))), .second, .unset, .unset, .unset, .unset, .unset, .unset] [(.int (XT.cmpL (f6_line (f1 p0) (1 : Int64) (0 : Int32)) (f5 (1 : Int64) (-1 : Int32) (f1 p0))))])) (fun _ hr => XT.lcmp X10.here hx rfl (hb hby at_80) rfl hr) ?_
  refine Go.st (T' := T10) (g' := (mkF m 84 #[.val (.long p0), .second, .val (.long p1), .second, .val (.long p2), .second, .val (.long p3), .second, .val (.int (f1 p0)), .val (.int (f1 p1)), .val (.int (f1 p2)), .val (.int (f1 p3)), .val (.ref a5), .val (.int (1 : Int32)), .val (.long (f5 (1 : Int64) (-1 : Int32) (f1 p0))), .second, .unset, .unset, .unset, .unset, .unset, .unset] [])) (fun _ hr => XS.ifNo X10.here hx rfl (hb hby at_81) rfl (XT.ll_ne_f (own_first _)) hr) ?_
  refine Go.st (T' := T10) (g' := (mkF m 85 #[.val (.long p0), .second, .val (.long p1), .second, .val (.long p2), .second, .val (.long p3), .second, .val (.int (f1 p0)), .val (.int (f1 p1)), .val (.int (f1 p2)), .val (.int (f1 p3)), .val (.ref a5), .val (.int (1 : Int32)), .val (.long (f5 (1 : Int64) (-1 : Int32) (f1 p0))), .second, .unset, .unset, .unset, .unset, .unset, .unset] [(.int (1 : Int32))])) (fun _ hr => XT.iconstV X10.here hx rfl (1 : Int32) (hb hby at_84) (by decide) hr) ?_
  refine Go.st (T' := T10) (g' := (mkF m 89 #[.val (.long p0), .second, .val (.long p1), .second, .val (.long p2), .second, .val (.long p3), .second, .val (.int (f1 p0)), .val (.int (f1 p1)), .val (.int (f1 p2)), .val (.int (f1 p3)), .val (.ref a5), .val (.int (1 : Int32)), .val (.long (f5 (1 : Int64) (-1 : Int32) (f1 p0))), .second, .unset, .unset, .unset, .unset, .unset, .unset] [(.int (1 : Int32))])) (fun _ hr => XS.goto X10.here hx rfl (pc0 := 85) (pc' := 89) rfl (hb hby at_85) (by decide) (by decide) hr) ?_
  refine Go.st (T' := T10) (g' := (mkF m 91 #[.val (.long p0), .second, .val (.long p1), .second, .val (.long p2), .second, .val (.long p3), .second, .val (.int (f1 p0)), .val (.int (f1 p1)), .val (.int (f1 p2)), .val (.int (f1 p3)), .val (.ref a5), .val (.int (1 : Int32)), .val (.long (f5 (1 : Int64) (-1 : Int32) (f1 p0))), .second, .unset, .unset, .unset, .unset, .unset, .unset] [])) (fun _ hr => XS.istore X10.here hx rfl (hb hby at_89) rfl (l' := #[.val (.long p0), .second, .val (.long p1), .second, .val (.long p2), .second, .val (.long p3), .second, .val (.int (f1 p0)), .val (.int (f1 p1)), .val (.int (f1 p2)), .val (.int (f1 p3)), .val (.ref a5), .val (.int (1 : Int32)), .val (.long (f5 (1 : Int64) (-1 : Int32) (f1 p0))), .second, .unset, .unset, .unset, .unset, .unset, .unset]) rfl hr) ?_
  refine Go.st (T' := T10) (g' := (mkF m 93 #[.val (.long p0), .second, .val (.long p1), .second, .val (.long p2), .second, .val (.long p3), .second, .val (.int (f1 p0)), .val (.int (f1 p1)), .val (.int (f1 p2)), .val (.int (f1 p3)), .val (.ref a5), .val (.int (1 : Int32)), .val (.long (f5 (1 : Int64) (-1 : Int32) (f1 p0))), .second, .unset, .unset, .unset, .unset, .unset, .unset] [(.long (f5 (1 : Int64) (-1 : Int32) (f1 p0)))])) (fun _ hr => XT.lload X10.here hx rfl (hb hby at_91) rfl hr) ?_
  refine Go.st (T' := T10) (g' := (mkF m 95 #[.val (.long p0), .second, .val (.long p1), .second, .val (.long p2), .second, .val (.long p3), .second, .val (.int (f1 p0)), .val (.int (f1 p1)), .val (.int (f1 p2)), .val (.int (f1 p3)), .val (.ref a5), .val (.int (1 : Int32)), .val (.long (f5 (1 : Int64) (-1 : Int32) (f1 p0))), .second, .unset, .unset, .unset, .unset, .unset, .unset] [(.int (f1 p0)), (.long (f5 (1 : Int64) (-1 : Int32) (f1 p0)))])) (fun _ hr => XS.iload X10.here hx rfl (hb hby at_93) rfl hr) ?_
  refine Go.st (T' := T10) (g' := (mkF m 97 #[.val (.long p0), .second, .val (.long p1), .second, .val (.long p2), .second, .val (.long p3), .second, .val (.int (f1 p0)), .val (.int (f1 p1)), .val (.int (f1 p2)), .val (.int (f1 p3)), .val (.ref a5), .val (.int (1 : Int32)), .val (.long (f5 (1 : Int64) (-1 : Int32) (f1 p0))), .second, .unset, .unset, .unset, .unset, .unset, .unset] [(.int (f1 p1)), (.int (f1 p0)), (.long (f5 (1 : Int64) (-1 : Int32) (f1 p0)))])) (fun _ hr => XS.iload X10.here hx rfl (hb hby at_95) rfl hr) ?_
  refine Go.callP X10 hx hZ hown (W := 0) (hw _ (List.mem_of_getElem? (i := 21) rfl)) (hw _ (List.mem_of_getElem? (i := 22) rfl)) (hw _ (List.mem_of_getElem? (i := 2) rfl)) (hw _ (List.mem_of_getElem? (i := 23) rfl)) (by decide) e10 (rm5 l Z a0 hw (f5 (1 : Int64) (-1 : Int32) (f1 p0)) (f1 p0) (f1 p1) h9) (by decide) (by decide) (by decide) (by decide) (g := (mkF m 97 #[.val (.long p0), .second, .val (.long p1), .second, .val (.long p2), .second, .val (.long p3), .second, .val (.int (f1 p0)), .val (.int (f1 p1)), .val (.int (f1 p2)), .val (.int (f1 p3)), .val (.ref a5), .val (.int (1 : Int32)), .val (.long (f5 (1 : Int64) (-1 : Int32) (f1 p0))), .second, .unset, .unset, .unset, .unset, .unset, .unset] [(.int (f1 p1)), (.int (f1 p0)), (.long (f5 (1 : Int64) (-1 : Int32) (f1 p0)))])) rfl (by rw [hml]; rfl) (argsL := [(.long (f5 (1 : Int64) (-1 : Int32) (f1 p0))), (.int (f1 p0)), (.int (f1 p1))]) (rest := []) (lenOf pd_1 rfl) rfl (by show 2 * 0 + _ ≤ _; exact Nat.le_of_eq rfl) (hb hby at_97) (fun T11 X11 e11 => ?_)
  show Go p.tables e below (Fin s (fun v h L => v = some (.int 1) ∧ Fr h0.size L) room_1.cells room_1.slots) T11 (mkF m 100 #[.val (.long p0), .second, .val (.long p1), .second, .val (.long p2), .second, .val (.long p3), .second, .val (.int (f1 p0)), .val (.int (f1 p1)), .val (.int (f1 p2)), .val (.int (f1 p3)), .val (.ref a5), .val (.int (1 : Int32)), .val (.long (f5 (1 : Int64) (-1 : Int32) (f1 p0))), .second, .unset, .unset, .unset, .unset, .unset, .unset] [(.long (f5 (f5 (1 : Int64) (-1 : Int32) (f1 p0)) (f1 p0) (f1 p1)))])
  refine Go.st (T' := T11) (g' := (mkF m 102 #[.val (.long p0), .second, .val (.long p1), .second, .val (.long p2), .second, .val (.long p3), .second, .val (.int (f1 p0)), .val (.int (f1 p1)), .val (.int (f1 p2)), .val (.int (f1 p3)), .val (.ref a5), .val (.int (1 : Int32)), .val (.long (f5 (1 : Int64) (-1 : Int32) (f1 p0))), .second, .val (.long (f5 (f5 (1 : Int64) (-1 : Int32) (f1 p0)) (f1 p0) (f1 p1))), .second, .unset, .unset, .unset, .unset] [])) (fun _ hr => XT.lstore X11.here hx rfl (hb hby at_100) rfl (l' := #[.val (.long p0), .second, .val (.long p1), .second, .val (.long p2), .second, .val (.long p3), .second, .val (.int (f1 p0)), .val (.int (f1 p1)), .val (.int (f1 p2)), .val (.int (f1 p3)), .val (.ref a5), .val (.int (1 : Int32)), .val (.long (f5 (1 : Int64) (-1 : Int32) (f1 p0))), .second, .val (.long (f5 (f5 (1 : Int64) (-1 : Int32) (f1 p0)) (f1 p0) (f1 p1))), .second, .unset, .unset, .unset, .unset]) rfl hr) ?_
  refine Go.st (T' := T11) (g' := (mkF m 104 #[.val (.long p0), .second, .val (.long p1), .second, .val (.long p2), .second, .val (.long p3), .second, .val (.int (f1 p0)), .val (.int (f1 p1)), .val (.int (f1 p2)), .val (.int (f1 p3)), .val (.ref a5), .val (.int (1 : Int32)), .val (.long (f5 (1 : Int64) (-1 : Int32) (f1 p0))), .second, .val (.long (f5 (f5 (1 : Int64) (-1 : Int32) (f1 p0)) (f1 p0) (f1 p1))), .second, .unset, .unset, .unset, .unset] [(.ref a5)])) (fun _ hr => XS.aload X11.here hx rfl (hb hby at_102) rfl rfl hr) ?_
  refine Go.st (T' := T11) (g' := (mkF m 106 #[.val (.long p0), .second, .val (.long p1), .second, .val (.long p2), .second, .val (.long p3), .second, .val (.int (f1 p0)), .val (.int (f1 p1)), .val (.int (f1 p2)), .val (.int (f1 p3)), .val (.ref a5), .val (.int (1 : Int32)), .val (.long (f5 (1 : Int64) (-1 : Int32) (f1 p0))), .second, .val (.long (f5 (f5 (1 : Int64) (-1 : Int32) (f1 p0)) (f1 p0) (f1 p1))), .second, .unset, .unset, .unset, .unset] [(.int (f1 p1)), (.ref a5)])) (fun _ hr => XS.iload X11.here hx rfl (hb hby at_104) rfl hr) ?_
  refine Go.callV X11 hx hZ hown (W := 0) (y := (⟨"com/example/triplevec/triplevec/io/LineCounter", "pass", "(I)V"⟩ : MethodName)) (hw _ (List.mem_of_getElem? (i := 24) rfl)) (hw _ (List.mem_of_getElem? (i := 25) rfl)) (hw _ (List.mem_of_getElem? (i := 27) rfl)) (hw _ (List.mem_of_getElem? (i := 26) rfl)) (hw _ (List.mem_of_getElem? (i := 7) rfl)) (hw _ (List.mem_of_getElem? (i := 28) rfl)) (by decide) rfl e11 A5_q_9 (rm6 l Z a0 hw a5 (f1 p1) (f6_line (f1 p0) (1 : Int64) (0 : Int32)) (f6_afterCarriageReturn (f1 p0) (1 : Int64) (0 : Int32))  h9 h0.size n_a5 A5_q_9 G9_line G9_afterCarriageReturn) (by decide) (by decide) (by decide) (by decide) (g := (mkF m 106 #[.val (.long p0), .second, .val (.long p1), .second, .val (.long p2), .second, .val (.long p3), .second, .val (.int (f1 p0)), .val (.int (f1 p1)), .val (.int (f1 p2)), .val (.int (f1 p3)), .val (.ref a5), .val (.int (1 : Int32)), .val (.long (f5 (1 : Int64) (-1 : Int32) (f1 p0))), .second, .val (.long (f5 (f5 (1 : Int64) (-1 : Int32) (f1 p0)) (f1 p0) (f1 p1))), .second, .unset, .unset, .unset, .unset] [(.int (f1 p1)), (.ref a5)])) rfl (by rw [hml]; rfl) (argsL := [(.int (f1 p1))]) (rest := []) (lenOf pd_4 rfl) rfl (by show 2 * 0 + _ ≤ _; exact Nat.le_of_eq rfl) (hb hby at_106) (fun v12 T12 L12 X12 q12 => ?_)
  obtain ⟨h12, e12⟩ : ∃ z, T12.heap = z := ⟨_, rfl⟩
  rw [e12] at q12
  obtain ⟨rfl, N12q, K12, G12_line, G12_afterCarriageReturn⟩ := q12
  have N12 := Fr.app N9 N12q
  have fZ_q_12 : h0.size ≤ h12.size := (Nat.le_trans fZ_q_9 K12.1)
  have A5_q_12 : Exa Z h12 a5 "com/example/triplevec/triplevec/io/LineCounter" := (A5_q_9.keep K12)
  show Go p.tables e below (Fin s (fun v h L => v = some (.int 1) ∧ Fr h0.size L) room_1.cells room_1.slots) T12 (mkF m 109 #[.val (.long p0), .second, .val (.long p1), .second, .val (.long p2), .second, .val (.long p3), .second, .val (.int (f1 p0)), .val (.int (f1 p1)), .val (.int (f1 p2)), .val (.int (f1 p3)), .val (.ref a5), .val (.int (1 : Int32)), .val (.long (f5 (1 : Int64) (-1 : Int32) (f1 p0))), .second, .val (.long (f5 (f5 (1 : Int64) (-1 : Int32) (f1 p0)) (f1 p0) (f1 p1))), .second, .unset, .unset, .unset, .unset] [])
  refine Go.st (T' := T12) (g' := (mkF m 111 #[.val (.long p0), .second, .val (.long p1), .second, .val (.long p2), .second, .val (.long p3), .second, .val (.int (f1 p0)), .val (.int (f1 p1)), .val (.int (f1 p2)), .val (.int (f1 p3)), .val (.ref a5), .val (.int (1 : Int32)), .val (.long (f5 (1 : Int64) (-1 : Int32) (f1 p0))), .second, .val (.long (f5 (f5 (1 : Int64) (-1 : Int32) (f1 p0)) (f1 p0) (f1 p1))), .second, .unset, .unset, .unset, .unset] [(.int (1 : Int32))])) (fun _ hr => XS.iload X12.here hx rfl (hb hby at_109) rfl hr) ?_
  refine Go.st (T' := T12) (g' := (mkF m 114 #[.val (.long p0), .second, .val (.long p1), .second, .val (.long p2), .second, .val (.long p3), .second, .val (.int (f1 p0)), .val (.int (f1 p1)), .val (.int (f1 p2)), .val (.int (f1 p3)), .val (.ref a5), .val (.int (1 : Int32)), .val (.long (f5 (1 : Int64) (-1 : Int32) (f1 p0))), .second, .val (.long (f5 (f5 (1 : Int64) (-1 : Int32) (f1 p0)) (f1 p0) (f1 p1))), .second, .unset, .unset, .unset, .unset] [])) (fun _ hr => XS.ifNo X12.here hx rfl (hb hby at_111) rfl (XT.i0_eq_f (by decide)) hr) ?_
  refine Go.st (T' := T12) (g' := (mkF m 116 #[.val (.long p0), .second, .val (.long p1), .second, .val (.long p2), .second, .val (.long p3), .second, .val (.int (f1 p0)), .val (.int (f1 p1)), .val (.int (f1 p2)), .val (.int (f1 p3)), .val (.ref a5), .val (.int (1 : Int32)), .val (.long (f5 (1 : Int64) (-1 : Int32) (f1 p0))), .second, .val (.long (f5 (f5 (1 : Int64) (-1 : Int32) (f1 p0)) (f1 p0) (f1 p1))), .second, .unset, .unset, .unset, .unset] [(.ref a5)])) (fun _ hr => XS.aload X12.here hx rfl (hb hby at_114) rfl rfl hr) ?_
  refine Go.callV X12 hx hZ hown (W := 0) (y := (⟨"com/example/triplevec/triplevec/io/LineCounter", "line", "()J"⟩ : MethodName)) (hw _ (List.mem_of_getElem? (i := 16) rfl)) (hw _ (List.mem_of_getElem? (i := 17) rfl)) (hw _ (List.mem_of_getElem? (i := 19) rfl)) (hw _ (List.mem_of_getElem? (i := 18) rfl)) (hw _ (List.mem_of_getElem? (i := 7) rfl)) (hw _ (List.mem_of_getElem? (i := 20) rfl)) (by decide) rfl e12 A5_q_12 (rm4 l Z a0 hw a5 (f6_line (f1 p1) (f6_line (f1 p0) (1 : Int64) (0 : Int32)) (f6_afterCarriageReturn (f1 p0) (1 : Int64) (0 : Int32)))  h12 G12_line) (by decide) (by decide) (by decide) (by decide) (g := (mkF m 116 #[.val (.long p0), .second, .val (.long p1), .second, .val (.long p2), .second, .val (.long p3), .second, .val (.int (f1 p0)), .val (.int (f1 p1)), .val (.int (f1 p2)), .val (.int (f1 p3)), .val (.ref a5), .val (.int (1 : Int32)), .val (.long (f5 (1 : Int64) (-1 : Int32) (f1 p0))), .second, .val (.long (f5 (f5 (1 : Int64) (-1 : Int32) (f1 p0)) (f1 p0) (f1 p1))), .second, .unset, .unset, .unset, .unset] [(.ref a5)])) rfl (by rw [hml]; rfl) (argsL := []) (rest := []) (lenOf pd_3 rfl) rfl (by show 2 * 0 + _ ≤ _; exact Nat.le_of_eq rfl) (hb hby at_116) (fun v13 T13 L13 X13 q13 => ?_)
  obtain ⟨rfl, rfl, e13⟩ := q13
  rw [List.append_nil] at X13
  show Go p.tables e below (Fin s (fun v h L => v = some (.int 1) ∧ Fr h0.size L) room_1.cells room_1.slots) T13 (mkF m 119 #[.val (.long p0), .second, .val (.long p1), .second, .val (.long p2), .second, .val (.long p3), .second, .val (.int (f1 p0)), .val (.int (f1 p1)), .val (.int (f1 p2)), .val (.int (f1 p3)), .val (.ref a5), .val (.int (1 : Int32)), .val (.long (f5 (1 : Int64) (-1 : Int32) (f1 p0))), .second, .val (.long (f5 (f5 (1 : Int64) (-1 : Int32) (f1 p0)) (f1 p0) (f1 p1))), .second, .unset, .unset, .unset, .unset] [(.long (f6_line (f1 p1) (f6_line (f1 p0) (1 : Int64) (0 : Int32)) (f6_afterCarriageReturn (f1 p0) (1 : Int64) (0 : Int32))))])
  refine Go.st (T' := T13) (g' := (mkF m 121 #[.val (.long p0), .second, .val (.long p1), .second, .val (.long p2), .second, .val (.long p3), .second, .val (.int (f1 p0)), .val (.int (f1 p1)), .val (.int (f1 p2)), .val (.int (f1 p3)), .val (.ref a5), .val (.int (1 : Int32)), .val (.long (f5 (1 : Int64) (-1 : Int32) (f1 p0))), .second, .val (.long (f5 (f5 (1 : Int64) (-1 : Int32) (f1 p0)) (f1 p0) (f1 p1))), .second, .unset, .unset, .unset, .unset] [(.long (f5 (f5 (1 : Int64) (-1 : Int32) (f1 p0)) (f1 p0) (f1 p1))), (.long (f6_line (f1 p1) (f6_line (f1 p0) (1 : Int64) (0 : Int32)) (f6_afterCarriageReturn (f1 p0) (1 : Int64) (0 : Int32))))])) (fun _ hr => XT.lload X13.here hx rfl (hb hby at_119) rfl hr) ?_
  refine Go.st (T' := T13) (g' := (mkF m 122 #[.val (.long p0), .second, .val (.long p1), .second, .val (.long p2), .second, .val (.long p3), .second, .val (.int (f1 p0)), .val (.int (f1 p1)), .val (.int (f1 p2)), .val (.int (f1 p3)), .val (.ref a5), .val (.int (1 : Int32)), .val (.long (f5 (1 : Int64) (-1 : Int32) (f1 p0))), .second, .val (.long (f5 (f5 (1 : Int64) (-1 : Int32) (f1 p0)) (f1 p0) (f1 p1))), .second, .unset, .unset, .unset, .unset] [(.int (XT.cmpL (f6_line (f1 p1) (f6_line (f1 p0) (1 : Int64) (0 : Int32)) (f6_afterCarriageReturn (f1 p0) (1 : Int64) (0 : Int32))) (f5 (f5 (1 : Int64) (-1 : Int32) (f1 p0)) (f1 p0) (f1 p1))))])) (fun _ hr => XT.lcmp X13.here hx rfl (hb hby at_121) rfl hr) ?_
  refine Go.st (T' := T13) (g' := (mkF m 125 #[.val (.long p0), .second, .val (.long p1), .second, .val (.long p2), .second, .val (.long p3), .second, .val (.int (f1 p0)), .val (.int (f1 p1)), .val (.int (f1 p2)), .val (.int (f1 p3)), .val (.ref a5), .val (.int (1 : Int32)), .val (.long (f5 (1 : Int64) (-1 : Int32) (f1 p0))), .second, .val (.long (f5 (f5 (1 : Int64) (-1 : Int32) (f1 p0)) (f1 p0) (f1 p1))), .second, .unset, .unset, .unset, .unset] [])) (fun _ hr => XS.ifNo X13.here hx rfl (hb hby at_122) rfl (XT.ll_ne_f (own_next _ _ _ _ _ _ (own_first _))) hr) ?_
  refine Go.st (T' := T13) (g' := (mkF m 126 #[.val (.long p0), .second, .val (.long p1), .second, .val (.long p2), .second, .val (.long p3), .second, .val (.int (f1 p0)), .val (.int (f1 p1)), .val (.int (f1 p2)), .val (.int (f1 p3)), .val (.ref a5), .val (.int (1 : Int32)), .val (.long (f5 (1 : Int64) (-1 : Int32) (f1 p0))), .second, .val (.long (f5 (f5 (1 : Int64) (-1 : Int32) (f1 p0)) (f1 p0) (f1 p1))), .second, .unset, .unset, .unset, .unset] [(.int (1 : Int32))])) (fun _ hr => XT.iconstV X13.here hx rfl (1 : Int32) (hb hby at_125) (by decide) hr) ?_
  refine Go.st (T' := T13) (g' := (mkF m 130 #[.val (.long p0), .second, .val (.long p1), .second, .val (.long p2), .second, .val (.long p3), .second, .val (.int (f1 p0)), .val (.int (f1 p1)), .val (.int (f1 p2)), .val (.int (f1 p3)), .val (.ref a5), .val (.int (1 : Int32)), .val (.long (f5 (1 : Int64) (-1 : Int32) (f1 p0))), .second, .val (.long (f5 (f5 (1 : Int64) (-1 : Int32) (f1 p0)) (f1 p0) (f1 p1))), .second, .unset, .unset, .unset, .unset] [(.int (1 : Int32))])) (fun _ hr => XS.goto X13.here hx rfl (pc0 := 126) (pc' := 130) rfl (hb hby at_126) (by decide) (by decide) hr) ?_
  refine Go.st (T' := T13) (g' := (mkF m 132 #[.val (.long p0), .second, .val (.long p1), .second, .val (.long p2), .second, .val (.long p3), .second, .val (.int (f1 p0)), .val (.int (f1 p1)), .val (.int (f1 p2)), .val (.int (f1 p3)), .val (.ref a5), .val (.int (1 : Int32)), .val (.long (f5 (1 : Int64) (-1 : Int32) (f1 p0))), .second, .val (.long (f5 (f5 (1 : Int64) (-1 : Int32) (f1 p0)) (f1 p0) (f1 p1))), .second, .unset, .unset, .unset, .unset] [])) (fun _ hr => XS.istore X13.here hx rfl (hb hby at_130) rfl (l' := #[.val (.long p0), .second, .val (.long p1), .second, .val (.long p2), .second, .val (.long p3), .second, .val (.int (f1 p0)), .val (.int (f1 p1)), .val (.int (f1 p2)), .val (.int (f1 p3)), .val (.ref a5), .val (.int (1 : Int32)), .val (.long (f5 (1 : Int64) (-1 : Int32) (f1 p0))), .second, .val (.long (f5 (f5 (1 : Int64) (-1 : Int32) (f1 p0)) (f1 p0) (f1 p1))), .second, .unset, .unset, .unset, .unset]) rfl hr) ?_
  refine Go.st (T' := T13) (g' := (mkF m 134 #[.val (.long p0), .second, .val (.long p1), .second, .val (.long p2), .second, .val (.long p3), .second, .val (.int (f1 p0)), .val (.int (f1 p1)), .val (.int (f1 p2)), .val (.int (f1 p3)), .val (.ref a5), .val (.int (1 : Int32)), .val (.long (f5 (1 : Int64) (-1 : Int32) (f1 p0))), .second, .val (.long (f5 (f5 (1 : Int64) (-1 : Int32) (f1 p0)) (f1 p0) (f1 p1))), .second, .unset, .unset, .unset, .unset] [(.long (f5 (f5 (1 : Int64) (-1 : Int32) (f1 p0)) (f1 p0) (f1 p1)))])) (fun _ hr => XT.lload X13.here hx rfl (hb hby at_132) rfl hr) ?_
  refine Go.st (T' := T13) (g' := (mkF m 136 #[.val (.long p0), .second, .val (.long p1), .second, .val (.long p2), .second, .val (.long p3), .second, .val (.int (f1 p0)), .val (.int (f1 p1)), .val (.int (f1 p2)), .val (.int (f1 p3)), .val (.ref a5), .val (.int (1 : Int32)), .val (.long (f5 (1 : Int64) (-1 : Int32) (f1 p0))), .second, .val (.long (f5 (f5 (1 : Int64) (-1 : Int32) (f1 p0)) (f1 p0) (f1 p1))), .second, .unset, .unset, .unset, .unset] [(.int (f1 p1)), (.long (f5 (f5 (1 : Int64) (-1 : Int32) (f1 p0)) (f1 p0) (f1 p1)))])) (fun _ hr => XS.iload X13.here hx rfl (hb hby at_134) rfl hr) ?_
  refine Go.st (T' := T13) (g' := (mkF m 138 #[.val (.long p0), .second, .val (.long p1), .second, .val (.long p2), .second, .val (.long p3), .second, .val (.int (f1 p0)), .val (.int (f1 p1)), .val (.int (f1 p2)), .val (.int (f1 p3)), .val (.ref a5), .val (.int (1 : Int32)), .val (.long (f5 (1 : Int64) (-1 : Int32) (f1 p0))), .second, .val (.long (f5 (f5 (1 : Int64) (-1 : Int32) (f1 p0)) (f1 p0) (f1 p1))), .second, .unset, .unset, .unset, .unset] [(.int (f1 p2)), (.int (f1 p1)), (.long (f5 (f5 (1 : Int64) (-1 : Int32) (f1 p0)) (f1 p0) (f1 p1)))])) (fun _ hr => XS.iload X13.here hx rfl (hb hby at_136) rfl hr) ?_
  refine Go.callP X13 hx hZ hown (W := 0) (hw _ (List.mem_of_getElem? (i := 21) rfl)) (hw _ (List.mem_of_getElem? (i := 22) rfl)) (hw _ (List.mem_of_getElem? (i := 2) rfl)) (hw _ (List.mem_of_getElem? (i := 23) rfl)) (by decide) e13 (rm5 l Z a0 hw (f5 (f5 (1 : Int64) (-1 : Int32) (f1 p0)) (f1 p0) (f1 p1)) (f1 p1) (f1 p2) h12) (by decide) (by decide) (by decide) (by decide) (g := (mkF m 138 #[.val (.long p0), .second, .val (.long p1), .second, .val (.long p2), .second, .val (.long p3), .second, .val (.int (f1 p0)), .val (.int (f1 p1)), .val (.int (f1 p2)), .val (.int (f1 p3)), .val (.ref a5), .val (.int (1 : Int32)), .val (.long (f5 (1 : Int64) (-1 : Int32) (f1 p0))), .second, .val (.long (f5 (f5 (1 : Int64) (-1 : Int32) (f1 p0)) (f1 p0) (f1 p1))), .second, .unset, .unset, .unset, .unset] [(.int (f1 p2)), (.int (f1 p1)), (.long (f5 (f5 (1 : Int64) (-1 : Int32) (f1 p0)) (f1 p0) (f1 p1)))])) rfl (by rw [hml]; rfl) (argsL := [(.long (f5 (f5 (1 : Int64) (-1 : Int32) (f1 p0)) (f1 p0) (f1 p1))), (.int (f1 p1)), (.int (f1 p2))]) (rest := []) (lenOf pd_1 rfl) rfl (by show 2 * 0 + _ ≤ _; exact Nat.le_of_eq rfl) (hb hby at_138) (fun T14 X14 e14 => ?_)
  show Go p.tables e below (Fin s (fun v h L => v = some (.int 1) ∧ Fr h0.size L) room_1.cells room_1.slots) T14 (mkF m 141 #[.val (.long p0), .second, .val (.long p1), .second, .val (.long p2), .second, .val (.long p3), .second, .val (.int (f1 p0)), .val (.int (f1 p1)), .val (.int (f1 p2)), .val (.int (f1 p3)), .val (.ref a5), .val (.int (1 : Int32)), .val (.long (f5 (1 : Int64) (-1 : Int32) (f1 p0))), .second, .val (.long (f5 (f5 (1 : Int64) (-1 : Int32) (f1 p0)) (f1 p0) (f1 p1))), .second, .unset, .unset, .unset, .unset] [(.long (f5 (f5 (f5 (1 : Int64) (-1 : Int32) (f1 p0)) (f1 p0) (f1 p1)) (f1 p1) (f1 p2)))])
  refine Go.st (T' := T14) (g' := (mkF m 143 #[.val (.long p0), .second, .val (.long p1), .second, .val (.long p2), .second, .val (.long p3), .second, .val (.int (f1 p0)), .val (.int (f1 p1)), .val (.int (f1 p2)), .val (.int (f1 p3)), .val (.ref a5), .val (.int (1 : Int32)), .val (.long (f5 (1 : Int64) (-1 : Int32) (f1 p0))), .second, .val (.long (f5 (f5 (1 : Int64) (-1 : Int32) (f1 p0)) (f1 p0) (f1 p1))), .second, .val (.long (f5 (f5 (f5 (1 : Int64) (-1 : Int32) (f1 p0)) (f1 p0) (f1 p1)) (f1 p1) (f1 p2))), .second, .unset, .unset] [])) (fun _ hr => XT.lstore X14.here hx rfl (hb hby at_141) rfl (l' := #[.val (.long p0), .second, .val (.long p1), .second, .val (.long p2), .second, .val (.long p3), .second, .val (.int (f1 p0)), .val (.int (f1 p1)), .val (.int (f1 p2)), .val (.int (f1 p3)), .val (.ref a5), .val (.int (1 : Int32)), .val (.long (f5 (1 : Int64) (-1 : Int32) (f1 p0))), .second, .val (.long (f5 (f5 (1 : Int64) (-1 : Int32) (f1 p0)) (f1 p0) (f1 p1))), .second, .val (.long (f5 (f5 (f5 (1 : Int64) (-1 : Int32) (f1 p0)) (f1 p0) (f1 p1)) (f1 p1) (f1 p2))), .second, .unset, .unset]) rfl hr) ?_
  refine Go.st (T' := T14) (g' := (mkF m 145 #[.val (.long p0), .second, .val (.long p1), .second, .val (.long p2), .second, .val (.long p3), .second, .val (.int (f1 p0)), .val (.int (f1 p1)), .val (.int (f1 p2)), .val (.int (f1 p3)), .val (.ref a5), .val (.int (1 : Int32)), .val (.long (f5 (1 : Int64) (-1 : Int32) (f1 p0))), .second, .val (.long (f5 (f5 (1 : Int64) (-1 : Int32) (f1 p0)) (f1 p0) (f1 p1))), .second, .val (.long (f5 (f5 (f5 (1 : Int64) (-1 : Int32) (f1 p0)) (f1 p0) (f1 p1)) (f1 p1) (f1 p2))), .second, .unset, .unset] [(.ref a5)])) (fun _ hr => XS.aload X14.here hx rfl (hb hby at_143) rfl rfl hr) ?_
  refine Go.st (T' := T14) (g' := (mkF m 147 #[.val (.long p0), .second, .val (.long p1), .second, .val (.long p2), .second, .val (.long p3), .second, .val (.int (f1 p0)), .val (.int (f1 p1)), .val (.int (f1 p2)), .val (.int (f1 p3)), .val (.ref a5), .val (.int (1 : Int32)), .val (.long (f5 (1 : Int64) (-1 : Int32) (f1 p0))), .second, .val (.long (f5 (f5 (1 : Int64) (-1 : Int32) (f1 p0)) (f1 p0) (f1 p1))), .second, .val (.long (f5 (f5 (f5 (1 : Int64) (-1 : Int32) (f1 p0)) (f1 p0) (f1 p1)) (f1 p1) (f1 p2))), .second, .unset, .unset] [(.int (f1 p2)), (.ref a5)])) (fun _ hr => XS.iload X14.here hx rfl (hb hby at_145) rfl hr) ?_
  refine Go.callV X14 hx hZ hown (W := 0) (y := (⟨"com/example/triplevec/triplevec/io/LineCounter", "pass", "(I)V"⟩ : MethodName)) (hw _ (List.mem_of_getElem? (i := 24) rfl)) (hw _ (List.mem_of_getElem? (i := 25) rfl)) (hw _ (List.mem_of_getElem? (i := 27) rfl)) (hw _ (List.mem_of_getElem? (i := 26) rfl)) (hw _ (List.mem_of_getElem? (i := 7) rfl)) (hw _ (List.mem_of_getElem? (i := 28) rfl)) (by decide) rfl e14 A5_q_12 (rm6 l Z a0 hw a5 (f1 p2) (f6_line (f1 p1) (f6_line (f1 p0) (1 : Int64) (0 : Int32)) (f6_afterCarriageReturn (f1 p0) (1 : Int64) (0 : Int32))) (f6_afterCarriageReturn (f1 p1) (f6_line (f1 p0) (1 : Int64) (0 : Int32)) (f6_afterCarriageReturn (f1 p0) (1 : Int64) (0 : Int32)))  h12 h0.size n_a5 A5_q_12 G12_line G12_afterCarriageReturn) (by decide) (by decide) (by decide) (by decide) (g := (mkF m 147 #[.val (.long p0), .second, .val (.long p1), .second, .val (.long p2), .second, .val (.long p3), .second, .val (.int (f1 p0)), .val (.int (f1 p1)), .val (.int (f1 p2)), .val (.int (f1 p3)), .val (.ref a5), .val (.int (1 : Int32)), .val (.long (f5 (1 : Int64) (-1 : Int32) (f1 p0))), .second, .val (.long (f5 (f5 (1 : Int64) (-1 : Int32) (f1 p0)) (f1 p0) (f1 p1))), .second, .val (.long (f5 (f5 (f5 (1 : Int64) (-1 : Int32) (f1 p0)) (f1 p0) (f1 p1)) (f1 p1) (f1 p2))), .second, .unset, .unset] [(.int (f1 p2)), (.ref a5)])) rfl (by rw [hml]; rfl) (argsL := [(.int (f1 p2))]) (rest := []) (lenOf pd_4 rfl) rfl (by show 2 * 0 + _ ≤ _; exact Nat.le_of_eq rfl) (hb hby at_147) (fun v15 T15 L15 X15 q15 => ?_)
  obtain ⟨h15, e15⟩ : ∃ z, T15.heap = z := ⟨_, rfl⟩
  rw [e15] at q15
  obtain ⟨rfl, N15q, K15, G15_line, G15_afterCarriageReturn⟩ := q15
  have N15 := Fr.app N12 N15q
  have fZ_q_15 : h0.size ≤ h15.size := (Nat.le_trans fZ_q_12 K15.1)
  have A5_q_15 : Exa Z h15 a5 "com/example/triplevec/triplevec/io/LineCounter" := (A5_q_12.keep K15)
  show Go p.tables e below (Fin s (fun v h L => v = some (.int 1) ∧ Fr h0.size L) room_1.cells room_1.slots) T15 (mkF m 150 #[.val (.long p0), .second, .val (.long p1), .second, .val (.long p2), .second, .val (.long p3), .second, .val (.int (f1 p0)), .val (.int (f1 p1)), .val (.int (f1 p2)), .val (.int (f1 p3)), .val (.ref a5), .val (.int (1 : Int32)), .val (.long (f5 (1 : Int64) (-1 : Int32) (f1 p0))), .second, .val (.long (f5 (f5 (1 : Int64) (-1 : Int32) (f1 p0)) (f1 p0) (f1 p1))), .second, .val (.long (f5 (f5 (f5 (1 : Int64) (-1 : Int32) (f1 p0)) (f1 p0) (f1 p1)) (f1 p1) (f1 p2))), .second, .unset, .unset] [])
  refine Go.st (T' := T15) (g' := (mkF m 152 #[.val (.long p0), .second, .val (.long p1), .second, .val (.long p2), .second, .val (.long p3), .second, .val (.int (f1 p0)), .val (.int (f1 p1)), .val (.int (f1 p2)), .val (.int (f1 p3)), .val (.ref a5), .val (.int (1 : Int32)), .val (.long (f5 (1 : Int64) (-1 : Int32) (f1 p0))), .second, .val (.long (f5 (f5 (1 : Int64) (-1 : Int32) (f1 p0)) (f1 p0) (f1 p1))), .second, .val (.long (f5 (f5 (f5 (1 : Int64) (-1 : Int32) (f1 p0)) (f1 p0) (f1 p1)) (f1 p1) (f1 p2))), .second, .unset, .unset] [(.int (1 : Int32))])) (fun _ hr => XS.iload X15.here hx rfl (hb hby at_150) rfl hr) ?_
  refine Go.st (T' := T15) (g' := (mkF m 155 #[.val (.long p0), .second, .val (.long p1), .second, .val (.long p2), .second, .val (.long p3), .second, .val (.int (f1 p0)), .val (.int (f1 p1)), .val (.int (f1 p2)), .val (.int (f1 p3)), .val (.ref a5), .val (.int (1 : Int32)), .val (.long (f5 (1 : Int64) (-1 : Int32) (f1 p0))), .second, .val (.long (f5 (f5 (1 : Int64) (-1 : Int32) (f1 p0)) (f1 p0) (f1 p1))), .second, .val (.long (f5 (f5 (f5 (1 : Int64) (-1 : Int32) (f1 p0)) (f1 p0) (f1 p1)) (f1 p1) (f1 p2))), .second, .unset, .unset] [])) (fun _ hr => XS.ifNo X15.here hx rfl (hb hby at_152) rfl (XT.i0_eq_f (by decide)) hr) ?_
  refine Go.st (T' := T15) (g' := (mkF m 157 #[.val (.long p0), .second, .val (.long p1), .second, .val (.long p2), .second, .val (.long p3), .second, .val (.int (f1 p0)), .val (.int (f1 p1)), .val (.int (f1 p2)), .val (.int (f1 p3)), .val (.ref a5), .val (.int (1 : Int32)), .val (.long (f5 (1 : Int64) (-1 : Int32) (f1 p0))), .second, .val (.long (f5 (f5 (1 : Int64) (-1 : Int32) (f1 p0)) (f1 p0) (f1 p1))), .second, .val (.long (f5 (f5 (f5 (1 : Int64) (-1 : Int32) (f1 p0)) (f1 p0) (f1 p1)) (f1 p1) (f1 p2))), .second, .unset, .unset] [(.ref a5)])) (fun _ hr => XS.aload X15.here hx rfl (hb hby at_155) rfl rfl hr) ?_
  refine Go.callV X15 hx hZ hown (W := 0) (y := (⟨"com/example/triplevec/triplevec/io/LineCounter", "line", "()J"⟩ : MethodName)) (hw _ (List.mem_of_getElem? (i := 16) rfl)) (hw _ (List.mem_of_getElem? (i := 17) rfl)) (hw _ (List.mem_of_getElem? (i := 19) rfl)) (hw _ (List.mem_of_getElem? (i := 18) rfl)) (hw _ (List.mem_of_getElem? (i := 7) rfl)) (hw _ (List.mem_of_getElem? (i := 20) rfl)) (by decide) rfl e15 A5_q_15 (rm4 l Z a0 hw a5 (f6_line (f1 p2) (f6_line (f1 p1) (f6_line (f1 p0) (1 : Int64) (0 : Int32)) (f6_afterCarriageReturn (f1 p0) (1 : Int64) (0 : Int32))) (f6_afterCarriageReturn (f1 p1) (f6_line (f1 p0) (1 : Int64) (0 : Int32)) (f6_afterCarriageReturn (f1 p0) (1 : Int64) (0 : Int32))))  h15 G15_line) (by decide) (by decide) (by decide) (by decide) (g := (mkF m 157 #[.val (.long p0), .second, .val (.long p1), .second, .val (.long p2), .second, .val (.long p3), .second, .val (.int (f1 p0)), .val (.int (f1 p1)), .val (.int (f1 p2)), .val (.int (f1 p3)), .val (.ref a5), .val (.int (1 : Int32)), .val (.long (f5 (1 : Int64) (-1 : Int32) (f1 p0))), .second, .val (.long (f5 (f5 (1 : Int64) (-1 : Int32) (f1 p0)) (f1 p0) (f1 p1))), .second, .val (.long (f5 (f5 (f5 (1 : Int64) (-1 : Int32) (f1 p0)) (f1 p0) (f1 p1)) (f1 p1) (f1 p2))), .second, .unset, .unset] [(.ref a5)])) rfl (by rw [hml]; rfl) (argsL := []) (rest := []) (lenOf pd_3 rfl) rfl (by show 2 * 0 + _ ≤ _; exact Nat.le_of_eq rfl) (hb hby at_157) (fun v16 T16 L16 X16 q16 => ?_)
  obtain ⟨rfl, rfl, e16⟩ := q16
  rw [List.append_nil] at X16
  show Go p.tables e below (Fin s (fun v h L => v = some (.int 1) ∧ Fr h0.size L) room_1.cells room_1.slots) T16 (mkF m 160 #[.val (.long p0), .second, .val (.long p1), .second, .val (.long p2), .second, .val (.long p3), .second, .val (.int (f1 p0)), .val (.int (f1 p1)), .val (.int (f1 p2)), .val (.int (f1 p3)), .val (.ref a5), .val (.int (1 : Int32)), .val (.long (f5 (1 : Int64) (-1 : Int32) (f1 p0))), .second, .val (.long (f5 (f5 (1 : Int64) (-1 : Int32) (f1 p0)) (f1 p0) (f1 p1))), .second, .val (.long (f5 (f5 (f5 (1 : Int64) (-1 : Int32) (f1 p0)) (f1 p0) (f1 p1)) (f1 p1) (f1 p2))), .second, .unset, .unset] [(.long (f6_line (f1 p2) (f6_line (f1 p1) (f6_line (f1 p0) (1 : Int64) (0 : Int32)) (f6_afterCarriageReturn (f1 p0) (1 : Int64) (0 : Int32))) (f6_afterCarriageReturn (f1 p1) (f6_line (f1 p0) (1 : Int64) (0 : Int32)) (f6_afterCarriageReturn (f1 p0) (1 : Int64) (0 : Int32)))))])
  refine Go.st (T' := T16) (g' := (mkF m 162 #[.val (.long p0), .second, .val (.long p1), .second, .val (.long p2), .second, .val (.long p3), .second, .val (.int (f1 p0)), .val (.int (f1 p1)), .val (.int (f1 p2)), .val (.int (f1 p3)), .val (.ref a5), .val (.int (1 : Int32)), .val (.long (f5 (1 : Int64) (-1 : Int32) (f1 p0))), .second, .val (.long (f5 (f5 (1 : Int64) (-1 : Int32) (f1 p0)) (f1 p0) (f1 p1))), .second, .val (.long (f5 (f5 (f5 (1 : Int64) (-1 : Int32) (f1 p0)) (f1 p0) (f1 p1)) (f1 p1) (f1 p2))), .second, .unset, .unset] [(.long (f5 (f5 (f5 (1 : Int64) (-1 : Int32) (f1 p0)) (f1 p0) (f1 p1)) (f1 p1) (f1 p2))), (.long (f6_line (f1 p2) (f6_line (f1 p1) (f6_line (f1 p0) (1 : Int64) (0 : Int32)) (f6_afterCarriageReturn (f1 p0) (1 : Int64) (0 : Int32))) (f6_afterCarriageReturn (f1 p1) (f6_line (f1 p0) (1 : Int64) (0 : Int32)) (f6_afterCarriageReturn (f1 p0) (1 : Int64) (0 : Int32)))))])) (fun _ hr => XT.lload X16.here hx rfl (hb hby at_160) rfl hr) ?_
  refine Go.st (T' := T16) (g' := (mkF m 163 #[.val (.long p0), .second, .val (.long p1), .second, .val (.long p2), .second, .val (.long p3), .second, .val (.int (f1 p0)), .val (.int (f1 p1)), .val (.int (f1 p2)), .val (.int (f1 p3)), .val (.ref a5), .val (.int (1 : Int32)), .val (.long (f5 (1 : Int64) (-1 : Int32) (f1 p0))), .second, .val (.long (f5 (f5 (1 : Int64) (-1 : Int32) (f1 p0)) (f1 p0) (f1 p1))), .second, .val (.long (f5 (f5 (f5 (1 : Int64) (-1 : Int32) (f1 p0)) (f1 p0) (f1 p1)) (f1 p1) (f1 p2))), .second, .unset, .unset] [(.int (XT.cmpL (f6_line (f1 p2) (f6_line (f1 p1) (f6_line (f1 p0) (1 : Int64) (0 : Int32)) (f6_afterCarriageReturn (f1 p0) (1 : Int64) (0 : Int32))) (f6_afterCarriageReturn (f1 p1) (f6_line (f1 p0) (1 : Int64) (0 : Int32)) (f6_afterCarriageReturn (f1 p0) (1 : Int64) (0 : Int32)))) (f5 (f5 (f5 (1 : Int64) (-1 : Int32) (f1 p0)) (f1 p0) (f1 p1)) (f1 p1) (f1 p2))))])) (fun _ hr => XT.lcmp X16.here hx rfl (hb hby at_162) rfl hr) ?_
  refine Go.st (T' := T16) (g' := (mkF m 166 #[.val (.long p0), .second, .val (.long p1), .second, .val (.long p2), .second, .val (.long p3), .second, .val (.int (f1 p0)), .val (.int (f1 p1)), .val (.int (f1 p2)), .val (.int (f1 p3)), .val (.ref a5), .val (.int (1 : Int32)), .val (.long (f5 (1 : Int64) (-1 : Int32) (f1 p0))), .second, .val (.long (f5 (f5 (1 : Int64) (-1 : Int32) (f1 p0)) (f1 p0) (f1 p1))), .second, .val (.long (f5 (f5 (f5 (1 : Int64) (-1 : Int32) (f1 p0)) (f1 p0) (f1 p1)) (f1 p1) (f1 p2))), .second, .unset, .unset] [])) (fun _ hr => XS.ifNo X16.here hx rfl (hb hby at_163) rfl (XT.ll_ne_f (own_next _ _ _ _ _ _ (own_next _ _ _ _ _ _ (own_first _)))) hr) ?_
  refine Go.st (T' := T16) (g' := (mkF m 167 #[.val (.long p0), .second, .val (.long p1), .second, .val (.long p2), .second, .val (.long p3), .second, .val (.int (f1 p0)), .val (.int (f1 p1)), .val (.int (f1 p2)), .val (.int (f1 p3)), .val (.ref a5), .val (.int (1 : Int32)), .val (.long (f5 (1 : Int64) (-1 : Int32) (f1 p0))), .second, .val (.long (f5 (f5 (1 : Int64) (-1 : Int32) (f1 p0)) (f1 p0) (f1 p1))), .second, .val (.long (f5 (f5 (f5 (1 : Int64) (-1 : Int32) (f1 p0)) (f1 p0) (f1 p1)) (f1 p1) (f1 p2))), .second, .unset, .unset] [(.int (1 : Int32))])) (fun _ hr => XT.iconstV X16.here hx rfl (1 : Int32) (hb hby at_166) (by decide) hr) ?_
  refine Go.st (T' := T16) (g' := (mkF m 171 #[.val (.long p0), .second, .val (.long p1), .second, .val (.long p2), .second, .val (.long p3), .second, .val (.int (f1 p0)), .val (.int (f1 p1)), .val (.int (f1 p2)), .val (.int (f1 p3)), .val (.ref a5), .val (.int (1 : Int32)), .val (.long (f5 (1 : Int64) (-1 : Int32) (f1 p0))), .second, .val (.long (f5 (f5 (1 : Int64) (-1 : Int32) (f1 p0)) (f1 p0) (f1 p1))), .second, .val (.long (f5 (f5 (f5 (1 : Int64) (-1 : Int32) (f1 p0)) (f1 p0) (f1 p1)) (f1 p1) (f1 p2))), .second, .unset, .unset] [(.int (1 : Int32))])) (fun _ hr => XS.goto X16.here hx rfl (pc0 := 167) (pc' := 171) rfl (hb hby at_167) (by decide) (by decide) hr) ?_
  refine Go.st (T' := T16) (g' := (mkF m 173 #[.val (.long p0), .second, .val (.long p1), .second, .val (.long p2), .second, .val (.long p3), .second, .val (.int (f1 p0)), .val (.int (f1 p1)), .val (.int (f1 p2)), .val (.int (f1 p3)), .val (.ref a5), .val (.int (1 : Int32)), .val (.long (f5 (1 : Int64) (-1 : Int32) (f1 p0))), .second, .val (.long (f5 (f5 (1 : Int64) (-1 : Int32) (f1 p0)) (f1 p0) (f1 p1))), .second, .val (.long (f5 (f5 (f5 (1 : Int64) (-1 : Int32) (f1 p0)) (f1 p0) (f1 p1)) (f1 p1) (f1 p2))), .second, .unset, .unset] [])) (fun _ hr => XS.istore X16.here hx rfl (hb hby at_171) rfl (l' := #[.val (.long p0), .second, .val (.long p1), .second, .val (.long p2), .second, .val (.long p3), .second, .val (.int (f1 p0)), .val (.int (f1 p1)), .val (.int (f1 p2)), .val (.int (f1 p3)), .val (.ref a5), .val (.int (1 : Int32)), .val (.long (f5 (1 : Int64) (-1 : Int32) (f1 p0))), .second, .val (.long (f5 (f5 (1 : Int64) (-1 : Int32) (f1 p0)) (f1 p0) (f1 p1))), .second, .val (.long (f5 (f5 (f5 (1 : Int64) (-1 : Int32) (f1 p0)) (f1 p0) (f1 p1)) (f1 p1) (f1 p2))), .second, .unset, .unset]) rfl hr) ?_
  refine Go.st (T' := T16) (g' := (mkF m 175 #[.val (.long p0), .second, .val (.long p1), .second, .val (.long p2), .second, .val (.long p3), .second, .val (.int (f1 p0)), .val (.int (f1 p1)), .val (.int (f1 p2)), .val (.int (f1 p3)), .val (.ref a5), .val (.int (1 : Int32)), .val (.long (f5 (1 : Int64) (-1 : Int32) (f1 p0))), .second, .val (.long (f5 (f5 (1 : Int64) (-1 : Int32) (f1 p0)) (f1 p0) (f1 p1))), .second, .val (.long (f5 (f5 (f5 (1 : Int64) (-1 : Int32) (f1 p0)) (f1 p0) (f1 p1)) (f1 p1) (f1 p2))), .second, .unset, .unset] [(.long (f5 (f5 (f5 (1 : Int64) (-1 : Int32) (f1 p0)) (f1 p0) (f1 p1)) (f1 p1) (f1 p2)))])) (fun _ hr => XT.lload X16.here hx rfl (hb hby at_173) rfl hr) ?_
  refine Go.st (T' := T16) (g' := (mkF m 177 #[.val (.long p0), .second, .val (.long p1), .second, .val (.long p2), .second, .val (.long p3), .second, .val (.int (f1 p0)), .val (.int (f1 p1)), .val (.int (f1 p2)), .val (.int (f1 p3)), .val (.ref a5), .val (.int (1 : Int32)), .val (.long (f5 (1 : Int64) (-1 : Int32) (f1 p0))), .second, .val (.long (f5 (f5 (1 : Int64) (-1 : Int32) (f1 p0)) (f1 p0) (f1 p1))), .second, .val (.long (f5 (f5 (f5 (1 : Int64) (-1 : Int32) (f1 p0)) (f1 p0) (f1 p1)) (f1 p1) (f1 p2))), .second, .unset, .unset] [(.int (f1 p2)), (.long (f5 (f5 (f5 (1 : Int64) (-1 : Int32) (f1 p0)) (f1 p0) (f1 p1)) (f1 p1) (f1 p2)))])) (fun _ hr => XS.iload X16.here hx rfl (hb hby at_175) rfl hr) ?_
  refine Go.st (T' := T16) (g' := (mkF m 179 #[.val (.long p0), .second, .val (.long p1), .second, .val (.long p2), .second, .val (.long p3), .second, .val (.int (f1 p0)), .val (.int (f1 p1)), .val (.int (f1 p2)), .val (.int (f1 p3)), .val (.ref a5), .val (.int (1 : Int32)), .val (.long (f5 (1 : Int64) (-1 : Int32) (f1 p0))), .second, .val (.long (f5 (f5 (1 : Int64) (-1 : Int32) (f1 p0)) (f1 p0) (f1 p1))), .second, .val (.long (f5 (f5 (f5 (1 : Int64) (-1 : Int32) (f1 p0)) (f1 p0) (f1 p1)) (f1 p1) (f1 p2))), .second, .unset, .unset] [(.int (f1 p3)), (.int (f1 p2)), (.long (f5 (f5 (f5 (1 : Int64) (-1 : Int32) (f1 p0)) (f1 p0) (f1 p1)) (f1 p1) (f1 p2)))])) (fun _ hr => XS.iload X16.here hx rfl (hb hby at_177) rfl hr) ?_
  refine Go.callP X16 hx hZ hown (W := 0) (hw _ (List.mem_of_getElem? (i := 21) rfl)) (hw _ (List.mem_of_getElem? (i := 22) rfl)) (hw _ (List.mem_of_getElem? (i := 2) rfl)) (hw _ (List.mem_of_getElem? (i := 23) rfl)) (by decide) e16 (rm5 l Z a0 hw (f5 (f5 (f5 (1 : Int64) (-1 : Int32) (f1 p0)) (f1 p0) (f1 p1)) (f1 p1) (f1 p2)) (f1 p2) (f1 p3) h15) (by decide) (by decide) (by decide) (by decide) (g := (mkF m 179 #[.val (.long p0), .second, .val (.long p1), .second, .val (.long p2), .second, .val (.long p3), .second, .val (.int (f1 p0)), .val (.int (f1 p1)), .val (.int (f1 p2)), .val (.int (f1 p3)), .val (.ref a5), .val (.int (1 : Int32)), .val (.long (f5 (1 : Int64) (-1 : Int32) (f1 p0))), .second, .val (.long (f5 (f5 (1 : Int64) (-1 : Int32) (f1 p0)) (f1 p0) (f1 p1))), .second, .val (.long (f5 (f5 (f5 (1 : Int64) (-1 : Int32) (f1 p0)) (f1 p0) (f1 p1)) (f1 p1) (f1 p2))), .second, .unset, .unset] [(.int (f1 p3)), (.int (f1 p2)), (.long (f5 (f5 (f5 (1 : Int64) (-1 : Int32) (f1 p0)) (f1 p0) (f1 p1)) (f1 p1) (f1 p2)))])) rfl (by rw [hml]; rfl) (argsL := [(.long (f5 (f5 (f5 (1 : Int64) (-1 : Int32) (f1 p0)) (f1 p0) (f1 p1)) (f1 p1) (f1 p2))), (.int (f1 p2)), (.int (f1 p3))]) (rest := []) (lenOf pd_1 rfl) rfl (by show 2 * 0 + _ ≤ _; exact Nat.le_of_eq rfl) (hb hby at_179) (fun T17 X17 e17 => ?_)
  show Go p.tables e below (Fin s (fun v h L => v = some (.int 1) ∧ Fr h0.size L) room_1.cells room_1.slots) T17 (mkF m 182 #[.val (.long p0), .second, .val (.long p1), .second, .val (.long p2), .second, .val (.long p3), .second, .val (.int (f1 p0)), .val (.int (f1 p1)), .val (.int (f1 p2)), .val (.int (f1 p3)), .val (.ref a5), .val (.int (1 : Int32)), .val (.long (f5 (1 : Int64) (-1 : Int32) (f1 p0))), .second, .val (.long (f5 (f5 (1 : Int64) (-1 : Int32) (f1 p0)) (f1 p0) (f1 p1))), .second, .val (.long (f5 (f5 (f5 (1 : Int64) (-1 : Int32) (f1 p0)) (f1 p0) (f1 p1)) (f1 p1) (f1 p2))), .second, .unset, .unset] [(.long (f5 (f5 (f5 (f5 (1 : Int64) (-1 : Int32) (f1 p0)) (f1 p0) (f1 p1)) (f1 p1) (f1 p2)) (f1 p2) (f1 p3)))])
  refine Go.st (T' := T17) (g' := (mkF m 184 #[.val (.long p0), .second, .val (.long p1), .second, .val (.long p2), .second, .val (.long p3), .second, .val (.int (f1 p0)), .val (.int (f1 p1)), .val (.int (f1 p2)), .val (.int (f1 p3)), .val (.ref a5), .val (.int (1 : Int32)), .val (.long (f5 (1 : Int64) (-1 : Int32) (f1 p0))), .second, .val (.long (f5 (f5 (1 : Int64) (-1 : Int32) (f1 p0)) (f1 p0) (f1 p1))), .second, .val (.long (f5 (f5 (f5 (1 : Int64) (-1 : Int32) (f1 p0)) (f1 p0) (f1 p1)) (f1 p1) (f1 p2))), .second, .val (.long (f5 (f5 (f5 (f5 (1 : Int64) (-1 : Int32) (f1 p0)) (f1 p0) (f1 p1)) (f1 p1) (f1 p2)) (f1 p2) (f1 p3))), .second] [])) (fun _ hr => XT.lstore X17.here hx rfl (hb hby at_182) rfl (l' := #[.val (.long p0), .second, .val (.long p1), .second, .val (.long p2), .second, .val (.long p3), .second, .val (.int (f1 p0)), .val (.int (f1 p1)), .val (.int (f1 p2)), .val (.int (f1 p3)), .val (.ref a5), .val (.int (1 : Int32)), .val (.long (f5 (1 : Int64) (-1 : Int32) (f1 p0))), .second, .val (.long (f5 (f5 (1 : Int64) (-1 : Int32) (f1 p0)) (f1 p0) (f1 p1))), .second, .val (.long (f5 (f5 (f5 (1 : Int64) (-1 : Int32) (f1 p0)) (f1 p0) (f1 p1)) (f1 p1) (f1 p2))), .second, .val (.long (f5 (f5 (f5 (f5 (1 : Int64) (-1 : Int32) (f1 p0)) (f1 p0) (f1 p1)) (f1 p1) (f1 p2)) (f1 p2) (f1 p3))), .second]) rfl hr) ?_
  refine Go.st (T' := T17) (g' := (mkF m 186 #[.val (.long p0), .second, .val (.long p1), .second, .val (.long p2), .second, .val (.long p3), .second, .val (.int (f1 p0)), .val (.int (f1 p1)), .val (.int (f1 p2)), .val (.int (f1 p3)), .val (.ref a5), .val (.int (1 : Int32)), .val (.long (f5 (1 : Int64) (-1 : Int32) (f1 p0))), .second, .val (.long (f5 (f5 (1 : Int64) (-1 : Int32) (f1 p0)) (f1 p0) (f1 p1))), .second, .val (.long (f5 (f5 (f5 (1 : Int64) (-1 : Int32) (f1 p0)) (f1 p0) (f1 p1)) (f1 p1) (f1 p2))), .second, .val (.long (f5 (f5 (f5 (f5 (1 : Int64) (-1 : Int32) (f1 p0)) (f1 p0) (f1 p1)) (f1 p1) (f1 p2)) (f1 p2) (f1 p3))), .second] [(.ref a5)])) (fun _ hr => XS.aload X17.here hx rfl (hb hby at_184) rfl rfl hr) ?_
  refine Go.st (T' := T17) (g' := (mkF m 188 #[.val (.long p0), .second, .val (.long p1), .second, .val (.long p2), .second, .val (.long p3), .second, .val (.int (f1 p0)), .val (.int (f1 p1)), .val (.int (f1 p2)), .val (.int (f1 p3)), .val (.ref a5), .val (.int (1 : Int32)), .val (.long (f5 (1 : Int64) (-1 : Int32) (f1 p0))), .second, .val (.long (f5 (f5 (1 : Int64) (-1 : Int32) (f1 p0)) (f1 p0) (f1 p1))), .second, .val (.long (f5 (f5 (f5 (1 : Int64) (-1 : Int32) (f1 p0)) (f1 p0) (f1 p1)) (f1 p1) (f1 p2))), .second, .val (.long (f5 (f5 (f5 (f5 (1 : Int64) (-1 : Int32) (f1 p0)) (f1 p0) (f1 p1)) (f1 p1) (f1 p2)) (f1 p2) (f1 p3))), .second] [(.int (f1 p3)), (.ref a5)])) (fun _ hr => XS.iload X17.here hx rfl (hb hby at_186) rfl hr) ?_
  refine Go.callV X17 hx hZ hown (W := 0) (y := (⟨"com/example/triplevec/triplevec/io/LineCounter", "pass", "(I)V"⟩ : MethodName)) (hw _ (List.mem_of_getElem? (i := 24) rfl)) (hw _ (List.mem_of_getElem? (i := 25) rfl)) (hw _ (List.mem_of_getElem? (i := 27) rfl)) (hw _ (List.mem_of_getElem? (i := 26) rfl)) (hw _ (List.mem_of_getElem? (i := 7) rfl)) (hw _ (List.mem_of_getElem? (i := 28) rfl)) (by decide) rfl e17 A5_q_15 (rm6 l Z a0 hw a5 (f1 p3) (f6_line (f1 p2) (f6_line (f1 p1) (f6_line (f1 p0) (1 : Int64) (0 : Int32)) (f6_afterCarriageReturn (f1 p0) (1 : Int64) (0 : Int32))) (f6_afterCarriageReturn (f1 p1) (f6_line (f1 p0) (1 : Int64) (0 : Int32)) (f6_afterCarriageReturn (f1 p0) (1 : Int64) (0 : Int32)))) (f6_afterCarriageReturn (f1 p2) (f6_line (f1 p1) (f6_line (f1 p0) (1 : Int64) (0 : Int32)) (f6_afterCarriageReturn (f1 p0) (1 : Int64) (0 : Int32))) (f6_afterCarriageReturn (f1 p1) (f6_line (f1 p0) (1 : Int64) (0 : Int32)) (f6_afterCarriageReturn (f1 p0) (1 : Int64) (0 : Int32))))  h15 h0.size n_a5 A5_q_15 G15_line G15_afterCarriageReturn) (by decide) (by decide) (by decide) (by decide) (g := (mkF m 188 #[.val (.long p0), .second, .val (.long p1), .second, .val (.long p2), .second, .val (.long p3), .second, .val (.int (f1 p0)), .val (.int (f1 p1)), .val (.int (f1 p2)), .val (.int (f1 p3)), .val (.ref a5), .val (.int (1 : Int32)), .val (.long (f5 (1 : Int64) (-1 : Int32) (f1 p0))), .second, .val (.long (f5 (f5 (1 : Int64) (-1 : Int32) (f1 p0)) (f1 p0) (f1 p1))), .second, .val (.long (f5 (f5 (f5 (1 : Int64) (-1 : Int32) (f1 p0)) (f1 p0) (f1 p1)) (f1 p1) (f1 p2))), .second, .val (.long (f5 (f5 (f5 (f5 (1 : Int64) (-1 : Int32) (f1 p0)) (f1 p0) (f1 p1)) (f1 p1) (f1 p2)) (f1 p2) (f1 p3))), .second] [(.int (f1 p3)), (.ref a5)])) rfl (by rw [hml]; rfl) (argsL := [(.int (f1 p3))]) (rest := []) (lenOf pd_4 rfl) rfl (by show 2 * 0 + _ ≤ _; exact Nat.le_of_eq rfl) (hb hby at_188) (fun v18 T18 L18 X18 q18 => ?_)
  obtain ⟨h18, e18⟩ : ∃ z, T18.heap = z := ⟨_, rfl⟩
  rw [e18] at q18
  obtain ⟨rfl, N18q, K18, G18_line, G18_afterCarriageReturn⟩ := q18
  have N18 := Fr.app N15 N18q
  have fZ_q_18 : h0.size ≤ h18.size := (Nat.le_trans fZ_q_15 K18.1)
  have A5_q_18 : Exa Z h18 a5 "com/example/triplevec/triplevec/io/LineCounter" := (A5_q_15.keep K18)
  show Go p.tables e below (Fin s (fun v h L => v = some (.int 1) ∧ Fr h0.size L) room_1.cells room_1.slots) T18 (mkF m 191 #[.val (.long p0), .second, .val (.long p1), .second, .val (.long p2), .second, .val (.long p3), .second, .val (.int (f1 p0)), .val (.int (f1 p1)), .val (.int (f1 p2)), .val (.int (f1 p3)), .val (.ref a5), .val (.int (1 : Int32)), .val (.long (f5 (1 : Int64) (-1 : Int32) (f1 p0))), .second, .val (.long (f5 (f5 (1 : Int64) (-1 : Int32) (f1 p0)) (f1 p0) (f1 p1))), .second, .val (.long (f5 (f5 (f5 (1 : Int64) (-1 : Int32) (f1 p0)) (f1 p0) (f1 p1)) (f1 p1) (f1 p2))), .second, .val (.long (f5 (f5 (f5 (f5 (1 : Int64) (-1 : Int32) (f1 p0)) (f1 p0) (f1 p1)) (f1 p1) (f1 p2)) (f1 p2) (f1 p3))), .second] [])
  refine Go.st (T' := T18) (g' := (mkF m 193 #[.val (.long p0), .second, .val (.long p1), .second, .val (.long p2), .second, .val (.long p3), .second, .val (.int (f1 p0)), .val (.int (f1 p1)), .val (.int (f1 p2)), .val (.int (f1 p3)), .val (.ref a5), .val (.int (1 : Int32)), .val (.long (f5 (1 : Int64) (-1 : Int32) (f1 p0))), .second, .val (.long (f5 (f5 (1 : Int64) (-1 : Int32) (f1 p0)) (f1 p0) (f1 p1))), .second, .val (.long (f5 (f5 (f5 (1 : Int64) (-1 : Int32) (f1 p0)) (f1 p0) (f1 p1)) (f1 p1) (f1 p2))), .second, .val (.long (f5 (f5 (f5 (f5 (1 : Int64) (-1 : Int32) (f1 p0)) (f1 p0) (f1 p1)) (f1 p1) (f1 p2)) (f1 p2) (f1 p3))), .second] [(.int (1 : Int32))])) (fun _ hr => XS.iload X18.here hx rfl (hb hby at_191) rfl hr) ?_
  refine Go.st (T' := T18) (g' := (mkF m 196 #[.val (.long p0), .second, .val (.long p1), .second, .val (.long p2), .second, .val (.long p3), .second, .val (.int (f1 p0)), .val (.int (f1 p1)), .val (.int (f1 p2)), .val (.int (f1 p3)), .val (.ref a5), .val (.int (1 : Int32)), .val (.long (f5 (1 : Int64) (-1 : Int32) (f1 p0))), .second, .val (.long (f5 (f5 (1 : Int64) (-1 : Int32) (f1 p0)) (f1 p0) (f1 p1))), .second, .val (.long (f5 (f5 (f5 (1 : Int64) (-1 : Int32) (f1 p0)) (f1 p0) (f1 p1)) (f1 p1) (f1 p2))), .second, .val (.long (f5 (f5 (f5 (f5 (1 : Int64) (-1 : Int32) (f1 p0)) (f1 p0) (f1 p1)) (f1 p1) (f1 p2)) (f1 p2) (f1 p3))), .second] [])) (fun _ hr => XS.ifNo X18.here hx rfl (hb hby at_193) rfl (XT.i0_eq_f (by decide)) hr) ?_
  refine Go.st (T' := T18) (g' := (mkF m 198 #[.val (.long p0), .second, .val (.long p1), .second, .val (.long p2), .second, .val (.long p3), .second, .val (.int (f1 p0)), .val (.int (f1 p1)), .val (.int (f1 p2)), .val (.int (f1 p3)), .val (.ref a5), .val (.int (1 : Int32)), .val (.long (f5 (1 : Int64) (-1 : Int32) (f1 p0))), .second, .val (.long (f5 (f5 (1 : Int64) (-1 : Int32) (f1 p0)) (f1 p0) (f1 p1))), .second, .val (.long (f5 (f5 (f5 (1 : Int64) (-1 : Int32) (f1 p0)) (f1 p0) (f1 p1)) (f1 p1) (f1 p2))), .second, .val (.long (f5 (f5 (f5 (f5 (1 : Int64) (-1 : Int32) (f1 p0)) (f1 p0) (f1 p1)) (f1 p1) (f1 p2)) (f1 p2) (f1 p3))), .second] [(.ref a5)])) (fun _ hr => XS.aload X18.here hx rfl (hb hby at_196) rfl rfl hr) ?_
  refine Go.callV X18 hx hZ hown (W := 0) (y := (⟨"com/example/triplevec/triplevec/io/LineCounter", "line", "()J"⟩ : MethodName)) (hw _ (List.mem_of_getElem? (i := 16) rfl)) (hw _ (List.mem_of_getElem? (i := 17) rfl)) (hw _ (List.mem_of_getElem? (i := 19) rfl)) (hw _ (List.mem_of_getElem? (i := 18) rfl)) (hw _ (List.mem_of_getElem? (i := 7) rfl)) (hw _ (List.mem_of_getElem? (i := 20) rfl)) (by decide) rfl e18 A5_q_18 (rm4 l Z a0 hw a5 (f6_line (f1 p3) (f6_line (f1 p2) (f6_line (f1 p1) (f6_line (f1 p0) (1 : Int64) (0 : Int32)) (f6_afterCarriageReturn (f1 p0) (1 : Int64) (0 : Int32))) (f6_afterCarriageReturn (f1 p1) (f6_line (f1 p0) (1 : Int64) (0 : Int32)) (f6_afterCarriageReturn (f1 p0) (1 : Int64) (0 : Int32)))) (f6_afterCarriageReturn (f1 p2) (f6_line (f1 p1) (f6_line (f1 p0) (1 : Int64) (0 : Int32)) (f6_afterCarriageReturn (f1 p0) (1 : Int64) (0 : Int32))) (f6_afterCarriageReturn (f1 p1) (f6_line (f1 p0) (1 : Int64) (0 : Int32)) (f6_afterCarriageReturn (f1 p0) (1 : Int64) (0 : Int32)))))  h18 G18_line) (by decide) (by decide) (by decide) (by decide) (g := (mkF m 198 #[.val (.long p0), .second, .val (.long p1), .second, .val (.long p2), .second, .val (.long p3), .second, .val (.int (f1 p0)), .val (.int (f1 p1)), .val (.int (f1 p2)), .val (.int (f1 p3)), .val (.ref a5), .val (.int (1 : Int32)), .val (.long (f5 (1 : Int64) (-1 : Int32) (f1 p0))), .second, .val (.long (f5 (f5 (1 : Int64) (-1 : Int32) (f1 p0)) (f1 p0) (f1 p1))), .second, .val (.long (f5 (f5 (f5 (1 : Int64) (-1 : Int32) (f1 p0)) (f1 p0) (f1 p1)) (f1 p1) (f1 p2))), .second, .val (.long (f5 (f5 (f5 (f5 (1 : Int64) (-1 : Int32) (f1 p0)) (f1 p0) (f1 p1)) (f1 p1) (f1 p2)) (f1 p2) (f1 p3))), .second] [(.ref a5)])) rfl (by rw [hml]; rfl) (argsL := []) (rest := []) (lenOf pd_3 rfl) rfl (by show 2 * 0 + _ ≤ _; exact Nat.le_of_eq rfl) (hb hby at_198) (fun v19 T19 L19 X19 q19 => ?_)
  obtain ⟨rfl, rfl, e19⟩ := q19
  rw [List.append_nil] at X19
  show Go p.tables e below (Fin s (fun v h L => v = some (.int 1) ∧ Fr h0.size L) room_1.cells room_1.slots) T19 (mkF m 201 #[.val (.long p0), .second, .val (.long p1), .second, .val (.long p2), .second, .val (.long p3), .second, .val (.int (f1 p0)), .val (.int (f1 p1)), .val (.int (f1 p2)), .val (.int (f1 p3)), .val (.ref a5), .val (.int (1 : Int32)), .val (.long (f5 (1 : Int64) (-1 : Int32) (f1 p0))), .second, .val (.long (f5 (f5 (1 : Int64) (-1 : Int32) (f1 p0)) (f1 p0) (f1 p1))), .second, .val (.long (f5 (f5 (f5 (1 : Int64) (-1 : Int32) (f1 p0)) (f1 p0) (f1 p1)) (f1 p1) (f1 p2))), .second, .val (.long (f5 (f5 (f5 (f5 (1 : Int64) (-1 : Int32) (f1 p0)) (f1 p0) (f1 p1)) (f1 p1) (f1 p2)) (f1 p2) (f1 p3))), .second] [(.long (f6_line (f1 p3) (f6_line (f1 p2) (f6_line (f1 p1) (f6_line (f1 p0) (1 : Int64) (0 : Int32)) (f6_afterCarriageReturn (f1 p0) (1 : Int64) (0 : Int32))) (f6_afterCarriageReturn (f1 p1) (f6_line (f1 p0) (1 : Int64) (0 : Int32)) (f6_afterCarriageReturn (f1 p0) (1 : Int64) (0 : Int32)))) (f6_afterCarriageReturn (f1 p2) (f6_line (f1 p1) (f6_line (f1 p0) (1 : Int64) (0 : Int32)) (f6_afterCarriageReturn (f1 p0) (1 : Int64) (0 : Int32))) (f6_afterCarriageReturn (f1 p1) (f6_line (f1 p0) (1 : Int64) (0 : Int32)) (f6_afterCarriageReturn (f1 p0) (1 : Int64) (0 : Int32))))))])
  refine Go.st (T' := T19) (g' := (mkF m 203 #[.val (.long p0), .second, .val (.long p1), .second, .val (.long p2), .second, .val (.long p3), .second, .val (.int (f1 p0)), .val (.int (f1 p1)), .val (.int (f1 p2)), .val (.int (f1 p3)), .val (.ref a5), .val (.int (1 : Int32)), .val (.long (f5 (1 : Int64) (-1 : Int32) (f1 p0))), .second, .val (.long (f5 (f5 (1 : Int64) (-1 : Int32) (f1 p0)) (f1 p0) (f1 p1))), .second, .val (.long (f5 (f5 (f5 (1 : Int64) (-1 : Int32) (f1 p0)) (f1 p0) (f1 p1)) (f1 p1) (f1 p2))), .second, .val (.long (f5 (f5 (f5 (f5 (1 : Int64) (-1 : Int32) (f1 p0)) (f1 p0) (f1 p1)) (f1 p1) (f1 p2)) (f1 p2) (f1 p3))), .second] [(.long (f5 (f5 (f5 (f5 (1 : Int64) (-1 : Int32) (f1 p0)) (f1 p0) (f1 p1)) (f1 p1) (f1 p2)) (f1 p2) (f1 p3))), (.long (f6_line (f1 p3) (f6_line (f1 p2) (f6_line (f1 p1) (f6_line (f1 p0) (1 : Int64) (0 : Int32)) (f6_afterCarriageReturn (f1 p0) (1 : Int64) (0 : Int32))) (f6_afterCarriageReturn (f1 p1) (f6_line (f1 p0) (1 : Int64) (0 : Int32)) (f6_afterCarriageReturn (f1 p0) (1 : Int64) (0 : Int32)))) (f6_afterCarriageReturn (f1 p2) (f6_line (f1 p1) (f6_line (f1 p0) (1 : Int64) (0 : Int32)) (f6_afterCarriageReturn (f1 p0) (1 : Int64) (0 : Int32))) (f6_afterCarriageReturn (f1 p1) (f6_line (f1 p0) (1 : Int64) (0 : Int32)) (f6_afterCarriageReturn (f1 p0) (1 : Int64) (0 : Int32))))))])) (fun _ hr => XT.lload X19.here hx rfl (hb hby at_201) rfl hr) ?_
  refine Go.st (T' := T19) (g' := (mkF m 204 #[.val (.long p0), .second, .val (.long p1), .second, .val (.long p2), .second, .val (.long p3), .second, .val (.int (f1 p0)), .val (.int (f1 p1)), .val (.int (f1 p2)), .val (.int (f1 p3)), .val (.ref a5), .val (.int (1 : Int32)), .val (.long (f5 (1 : Int64) (-1 : Int32) (f1 p0))), .second, .val (.long (f5 (f5 (1 : Int64) (-1 : Int32) (f1 p0)) (f1 p0) (f1 p1))), .second, .val (.long (f5 (f5 (f5 (1 : Int64) (-1 : Int32) (f1 p0)) (f1 p0) (f1 p1)) (f1 p1) (f1 p2))), .second, .val (.long (f5 (f5 (f5 (f5 (1 : Int64) (-1 : Int32) (f1 p0)) (f1 p0) (f1 p1)) (f1 p1) (f1 p2)) (f1 p2) (f1 p3))), .second] [(.int (XT.cmpL (f6_line (f1 p3) (f6_line (f1 p2) (f6_line (f1 p1) (f6_line (f1 p0) (1 : Int64) (0 : Int32)) (f6_afterCarriageReturn (f1 p0) (1 : Int64) (0 : Int32))) (f6_afterCarriageReturn (f1 p1) (f6_line (f1 p0) (1 : Int64) (0 : Int32)) (f6_afterCarriageReturn (f1 p0) (1 : Int64) (0 : Int32)))) (f6_afterCarriageReturn (f1 p2) (f6_line (f1 p1) (f6_line (f1 p0) (1 : Int64) (0 : Int32)) (f6_afterCarriageReturn (f1 p0) (1 : Int64) (0 : Int32))) (f6_afterCarriageReturn (f1 p1) (f6_line (f1 p0) (1 : Int64) (0 : Int32)) (f6_afterCarriageReturn (f1 p0) (1 : Int64) (0 : Int32))))) (f5 (f5 (f5 (f5 (1 : Int64) (-1 : Int32) (f1 p0)) (f1 p0) (f1 p1)) (f1 p1) (f1 p2)) (f1 p2) (f1 p3))))])) (fun _ hr => XT.lcmp X19.here hx rfl (hb hby at_203) rfl hr) ?_
  refine Go.st (T' := T19) (g' := (mkF m 207 #[.val (.long p0), .second, .val (.long p1), .second, .val (.long p2), .second, .val (.long p3), .second, .val (.int (f1 p0)), .val (.int (f1 p1)), .val (.int (f1 p2)), .val (.int (f1 p3)), .val (.ref a5), .val (.int (1 : Int32)), .val (.long (f5 (1 : Int64) (-1 : Int32) (f1 p0))), .second, .val (.long (f5 (f5 (1 : Int64) (-1 : Int32) (f1 p0)) (f1 p0) (f1 p1))), .second, .val (.long (f5 (f5 (f5 (1 : Int64) (-1 : Int32) (f1 p0)) (f1 p0) (f1 p1)) (f1 p1) (f1 p2))), .second, .val (.long (f5 (f5 (f5 (f5 (1 : Int64) (-1 : Int32) (f1 p0)) (f1 p0) (f1 p1)) (f1 p1) (f1 p2)) (f1 p2) (f1 p3))), .second] [])) (fun _ hr => XS.ifNo X19.here hx rfl (hb hby at_204) rfl (XT.ll_ne_f (own_next _ _ _ _ _ _ (own_next _ _ _ _ _ _ (own_next _ _ _ _ _ _ (own_first _))))) hr) ?_
  refine Go.st (T' := T19) (g' := (mkF m 208 #[.val (.long p0), .second, .val (.long p1), .second, .val (.long p2), .second, .val (.long p3), .second, .val (.int (f1 p0)), .val (.int (f1 p1)), .val (.int (f1 p2)), .val (.int (f1 p3)), .val (.ref a5), .val (.int (1 : Int32)), .val (.long (f5 (1 : Int64) (-1 : Int32) (f1 p0))), .second, .val (.long (f5 (f5 (1 : Int64) (-1 : Int32) (f1 p0)) (f1 p0) (f1 p1))), .second, .val (.long (f5 (f5 (f5 (1 : Int64) (-1 : Int32) (f1 p0)) (f1 p0) (f1 p1)) (f1 p1) (f1 p2))), .second, .val (.long (f5 (f5 (f5 (f5 (1 : Int64) (-1 : Int32) (f1 p0)) (f1 p0) (f1 p1)) (f1 p1) (f1 p2)) (f1 p2) (f1 p3))), .second] [(.int (1 : Int32))])) (fun _ hr => XT.iconstV X19.here hx rfl (1 : Int32) (hb hby at_207) (by decide) hr) ?_
  refine Go.st (T' := T19) (g' := (mkF m 212 #[.val (.long p0), .second, .val (.long p1), .second, .val (.long p2), .second, .val (.long p3), .second, .val (.int (f1 p0)), .val (.int (f1 p1)), .val (.int (f1 p2)), .val (.int (f1 p3)), .val (.ref a5), .val (.int (1 : Int32)), .val (.long (f5 (1 : Int64) (-1 : Int32) (f1 p0))), .second, .val (.long (f5 (f5 (1 : Int64) (-1 : Int32) (f1 p0)) (f1 p0) (f1 p1))), .second, .val (.long (f5 (f5 (f5 (1 : Int64) (-1 : Int32) (f1 p0)) (f1 p0) (f1 p1)) (f1 p1) (f1 p2))), .second, .val (.long (f5 (f5 (f5 (f5 (1 : Int64) (-1 : Int32) (f1 p0)) (f1 p0) (f1 p1)) (f1 p1) (f1 p2)) (f1 p2) (f1 p3))), .second] [(.int (1 : Int32))])) (fun _ hr => XS.goto X19.here hx rfl (pc0 := 208) (pc' := 212) rfl (hb hby at_208) (by decide) (by decide) hr) ?_
  refine Go.st (T' := T19) (g' := (mkF m 214 #[.val (.long p0), .second, .val (.long p1), .second, .val (.long p2), .second, .val (.long p3), .second, .val (.int (f1 p0)), .val (.int (f1 p1)), .val (.int (f1 p2)), .val (.int (f1 p3)), .val (.ref a5), .val (.int (1 : Int32)), .val (.long (f5 (1 : Int64) (-1 : Int32) (f1 p0))), .second, .val (.long (f5 (f5 (1 : Int64) (-1 : Int32) (f1 p0)) (f1 p0) (f1 p1))), .second, .val (.long (f5 (f5 (f5 (1 : Int64) (-1 : Int32) (f1 p0)) (f1 p0) (f1 p1)) (f1 p1) (f1 p2))), .second, .val (.long (f5 (f5 (f5 (f5 (1 : Int64) (-1 : Int32) (f1 p0)) (f1 p0) (f1 p1)) (f1 p1) (f1 p2)) (f1 p2) (f1 p3))), .second] [])) (fun _ hr => XS.istore X19.here hx rfl (hb hby at_212) rfl (l' := #[.val (.long p0), .second, .val (.long p1), .second, .val (.long p2), .second, .val (.long p3), .second, .val (.int (f1 p0)), .val (.int (f1 p1)), .val (.int (f1 p2)), .val (.int (f1 p3)), .val (.ref a5), .val (.int (1 : Int32)), .val (.long (f5 (1 : Int64) (-1 : Int32) (f1 p0))), .second, .val (.long (f5 (f5 (1 : Int64) (-1 : Int32) (f1 p0)) (f1 p0) (f1 p1))), .second, .val (.long (f5 (f5 (f5 (1 : Int64) (-1 : Int32) (f1 p0)) (f1 p0) (f1 p1)) (f1 p1) (f1 p2))), .second, .val (.long (f5 (f5 (f5 (f5 (1 : Int64) (-1 : Int32) (f1 p0)) (f1 p0) (f1 p1)) (f1 p1) (f1 p2)) (f1 p2) (f1 p3))), .second]) rfl hr) ?_
  refine Go.st (T' := T19) (g' := (mkF m 216 #[.val (.long p0), .second, .val (.long p1), .second, .val (.long p2), .second, .val (.long p3), .second, .val (.int (f1 p0)), .val (.int (f1 p1)), .val (.int (f1 p2)), .val (.int (f1 p3)), .val (.ref a5), .val (.int (1 : Int32)), .val (.long (f5 (1 : Int64) (-1 : Int32) (f1 p0))), .second, .val (.long (f5 (f5 (1 : Int64) (-1 : Int32) (f1 p0)) (f1 p0) (f1 p1))), .second, .val (.long (f5 (f5 (f5 (1 : Int64) (-1 : Int32) (f1 p0)) (f1 p0) (f1 p1)) (f1 p1) (f1 p2))), .second, .val (.long (f5 (f5 (f5 (f5 (1 : Int64) (-1 : Int32) (f1 p0)) (f1 p0) (f1 p1)) (f1 p1) (f1 p2)) (f1 p2) (f1 p3))), .second] [(.int (1 : Int32))])) (fun _ hr => XS.iload X19.here hx rfl (hb hby at_214) rfl hr) ?_
  exact Go.retN X19 hx hlk hret (by simp) (hb hby at_216) (by decide) (by decide) ⟨rfl, N18⟩
set_option maxRecDepth 65536 in
set_option maxHeartbeats 40000000 in
theorem comes_1 {Post : Tables → Env → Array Value → State → Outcome → State → Prop} (hpost : ∀ tb e args s v u, (limb_1_1.after args s (.returned v) u = true ∧ limb_1_2.after args s (.returned v) u = true ∧ True) → FrameEnd s (.returned v) u (Jvm.fieldLocs frame_1_writes args s ++ Jvm.arrayLocs frame_1_arrays args s ++ Jvm.staticLocs frame_1_statics s) 16 128 → Post tb e args s (.returned v) u) :
    ArmFor flags0 classFile x code maxLocals ret World_1 tables_1 room_1 Calls_1 rest_1 Pre_1 Post := by
  intro l hfl _ _ p e ha hc hk s m args below hf hA hF happ hP
  obtain ⟨hcalls, hrest, hpre⟩ := hP
  obtain ⟨-, -, -, hnamed, -, -, -, hat⟩ := (Spec.applies_iff hf).mp happ
  obtain ⟨hg, hn⟩ := and_e (Cond.before_iff.mp (show (Jvm.Cond.and given_1 narrow_1).before args s = true from hpre))
  obtain ⟨g0, r0⟩ := and_e hg
  obtain ⟨u0, r1⟩ := and_e r0
  obtain ⟨u1, r2⟩ := and_e r1
  obtain ⟨u2, r3⟩ := and_e r2
  have u3 := r3
  obtain ⟨w0, w1, w2, w3, rfl⟩ : ∃ w0 w1 w2 w3 : Value, args = #[w0, w1, w2, w3] := by
    have hs : args.size = 4 := by simpa [Cond.value, given_1] using g0
    obtain ⟨L⟩ := args
    match L, hs with
    | [w0, w1, w2, w3], _ => exact ⟨w0, w1, w2, w3, rfl⟩
  have hw := fun d (hd : d ∈ tables_1) => atoms_spec (ws := Jvm.Cond.code x code maxLocals ret :: tables_1) hat d (List.mem_cons_of_mem _ hd)
  have hfit : Fit s := fun {y c} hc i hi => by
    obtain ⟨ha, rfl⟩ := Array.getElem?_eq_some_iff.mp hc
    have q := List.all_eq_true.mp ((Array.all_eq_true_iff_forall_mem.mp hF) _ (Array.getElem_mem ha)) i (List.mem_range.mpr hi)
    simpa [Array.getElem?_eq_getElem hi] using q
  obtain ⟨i0, ei0⟩ := isL_v u0
  obtain rfl : w0 = (.long i0) := Option.some.inj ei0
  obtain ⟨i1, ei1⟩ := isL_v u1
  obtain rfl : w1 = (.long i1) := Option.some.inj ei1
  obtain ⟨i2, ei2⟩ := isL_v u2
  obtain rfl : w2 = (.long i2) := Option.some.inj ei2
  obtain ⟨i3, ei3⟩ := isL_v u3
  obtain rfl : w3 = (.long i3) := Option.some.inj ei3
  obtain ⟨n, o, h1, h2, h3, _, L, rfl, ⟨rfl, N⟩, hq⟩ := rm0 l s _ hw tables_1 i0 i1 i2 i3 s.heap  p e ha hc hk s m _ below hf ((Spec.applies_iff_loose hf).mp happ).1 ⟨rfl, State.Warmed39.refl s, rfl⟩ trivial
  refine ⟨n, _, h1, h2, h3, hpost _ _ _ _ _ _ ⟨Cond.after_iff.mpr rfl, Cond.after_iff.mpr (eq_i res_at (Term.int_eval (1)) rfl), trivial⟩ ⟨hq.1, hq.2.1, (hq.2.2.sift fun y hy => Or.inr (N y hy)).mono (by decide) (by decide)⟩⟩
theorem main_1_1 : Claimed_1_1 := comes_1 fun _ _ _ _ _ _ h hF => ⟨h.1, hF⟩
theorem main_1_2 : Claimed_1_2 := comes_1 fun _ _ _ _ _ _ h hF => ⟨h.2.1, hF⟩
end Jvm.Pilot.@@N@@
namespace Jvm.Pilot.@@N@@
open Jvm Jvm.ClassFile Sem Op Lib Jvm.Free Jvm.Stand Jvm.Pilot.@@N@@.Jvm.D
/-! MADE BY PROGRAM (witnessworld.py) out of the Statement's table words and the real class files: 9 classes; the members and pool entries that the words name. The judged class is class 1, her method 3. -/
namespace start1
open Jvm.ClassFile
def u (s : String) : CpInfo := .utf8 (stringToUtf16 s)
/-- a pool by its gaps: so many unusable entries, then the entry; so many at the end -/
def gap : Nat → List CpInfo → List CpInfo
  | 0, r => r
  | n + 1, r => .unusable :: gap n r
def poolList (es : List (Nat × CpInfo)) (last : Nat) : List CpInfo := es.foldr (fun e r => gap e.1 (e.2 :: r)) (gap last [])
def pool (es : List (Nat × CpInfo)) (last : Nat) : Array CpInfo := ⟨poolList es last⟩
def fileOf (pool : Array CpInfo) (this : Nat) (attrs : Array Attribute := #[]) (ms : Array MethodInfo := #[]) (fl : Nat := 33) (sup : Nat := 0) (ifs : Array Nat := #[]) (fds : Array FieldInfo := #[]) : ClassFile where
  minorVersion := 0
  majorVersion := 65
  constantPool := pool
  accessFlags := fl
  thisClass := this
  superClass := sup
  interfaces := ifs
  fields := fds
  methods := ms
  attributes := attrs
def plain (name : String) (sup : Option ClassId) : Class where
  name := name
  kind := .ordinary
  loader := none
  accessFlags := 33
  super := sup
  interfaces := #[]
  cf := none
  fields := #[]
  methods := #[]
  instanceTypes := #[]
  staticTypes := #[]
  resolved := #[]
  callSites := []
  init := .initialized
  statics := none
  mirror := none

def pool0 : Array CpInfo := pool [(5, u "<init>"), (0, u "()V"), (1, .class_ 10), (1, u "java/lang/Object")] 113

def k0c0 : Code := { maxStack := 0, maxLocals := 1, code := object_method_1_code, exceptionTable := #[], attributes := #[] }
def k0m0 : Method := { name := "<init>", desc := "()V", sig := { parameters := [], returnType := none }, accessFlags := 1, code := some k0c0 }
/-- java/lang/Object -/
def k0 : Class := { plain "java/lang/Object" none with
  accessFlags := 33
  interfaces := #[]
  cf := some (fileOf pool0 8 #[] #[{ accessFlags := 1, nameIndex := 5, descriptorIndex := 6, attributes := #[] }] 33 0 #[] #[])
  fields := #[]
  methods := #[k0m0]
  instanceTypes := #[]
  staticTypes := #[]
  resolved := Array.replicate 124 none
  statics := none }

def pool1 : Array CpInfo := pool [(2, .class_ 4), (0, .nameAndType 5 6), (0, u "java/lang/Object"), (0, u "<init>"), (0, u "()V"), (0, .long 3), (1, .methodref 10 11), (0, .class_ 12), (0, .nameAndType 13 14), (0, u "com/example/triplevec/triplevec/io/LineCounterPassPinLaw"), (0, u "pick"), (0, u "(J)I"), (0, .class_ 16), (0, u "com/example/triplevec/triplevec/io/LineCounter"), (0, .methodref 15 3), (0, .methodref 15 19), (0, .nameAndType 20 21), (0, u "line"), (0, u "()J"), (0, .methodref 10 23), (0, .nameAndType 24 25), (0, u "step"), (0, u "(JII)J"), (0, .methodref 15 27), (0, .nameAndType 28 29), (0, u "pass"), (0, u "(I)V"), (3, u "law"), (0, u "(JJJJ)Z")] 2

def k1m0 : Method := { name := "<init>", desc := "()V", sig := { parameters := [], returnType := none }, accessFlags := 1, code := none }
def k1c1 : Code := { maxStack := 4, maxLocals := 3, code := method_2_code, exceptionTable := #[], attributes := #[] }
def k1m1 : Method := { name := "pick", desc := "(J)I", sig := { parameters := [.long], returnType := some .int }, accessFlags := 10, code := some k1c1 }
def k1c2 : Code := { maxStack := 4, maxLocals := 4, code := method_3_code, exceptionTable := #[], attributes := #[] }
def k1m2 : Method := { name := "step", desc := "(JII)J", sig := { parameters := [.long, .int, .int], returnType := some .long }, accessFlags := 10, code := some k1c2 }
def k1c3 : Code := { maxStack := 4, maxLocals := 22, code := code, exceptionTable := #[], attributes := #[] }
def k1m3 : Method := { name := "law", desc := "(JJJJ)Z", sig := { parameters := [.long, .long, .long, .long], returnType := some .boolean }, accessFlags := 9, code := some k1c3 }
/-- com/example/triplevec/triplevec/io/LineCounterPassPinLaw -/
def k1 : Class := { plain "com/example/triplevec/triplevec/io/LineCounterPassPinLaw" (some 0) with
  accessFlags := 49
  interfaces := #[]
  cf := some (fileOf pool1 10 #[] #[{ accessFlags := 1, nameIndex := 5, descriptorIndex := 6, attributes := #[] }, { accessFlags := 10, nameIndex := 13, descriptorIndex := 14, attributes := #[] }, { accessFlags := 10, nameIndex := 24, descriptorIndex := 25, attributes := #[] }, { accessFlags := 9, nameIndex := 33, descriptorIndex := 34, attributes := #[] }] 49 2 #[] #[])
  fields := #[]
  methods := #[k1m0, k1m1, k1m2, k1m3]
  instanceTypes := #[]
  staticTypes := #[]
  resolved := Array.replicate 37 none
  statics := none }

def pool2 : Array CpInfo := pool [(1, .methodref 2 3), (0, .class_ 4), (0, .nameAndType 5 6), (0, u "java/lang/Object"), (0, u "<init>"), (0, u "()V"), (0, .fieldref 8 9), (0, .class_ 10), (0, .nameAndType 11 12), (0, u "com/example/triplevec/triplevec/io/LineCounter"), (0, u "line"), (0, u "J"), (0, .fieldref 8 14), (0, .nameAndType 15 16), (0, u "afterCarriageReturn"), (0, u "Z"), (2, u "pass"), (0, u "(I)V"), (1, u "()J")] 2

def k2c0 : Code := { maxStack := 3, maxLocals := 1, code := prog_106_method_1_code, exceptionTable := #[], attributes := #[] }
def k2m0 : Method := { name := "<init>", desc := "()V", sig := { parameters := [], returnType := none }, accessFlags := 1, code := some k2c0 }
def k2c1 : Code := { maxStack := 5, maxLocals := 2, code := prog_106_method_2_code, exceptionTable := #[], attributes := #[] }
def k2m1 : Method := { name := "pass", desc := "(I)V", sig := { parameters := [.int], returnType := none }, accessFlags := 1, code := some k2c1 }
def k2c2 : Code := { maxStack := 2, maxLocals := 1, code := prog_106_method_3_code, exceptionTable := #[], attributes := #[] }
def k2m2 : Method := { name := "line", desc := "()J", sig := { parameters := [], returnType := some .long }, accessFlags := 1, code := some k2c2 }
/-- com/example/triplevec/triplevec/io/LineCounter -/
def k2 : Class := { plain "com/example/triplevec/triplevec/io/LineCounter" (some 0) with
  accessFlags := 49
  interfaces := #[]
  cf := some (fileOf pool2 8 #[] #[{ accessFlags := 1, nameIndex := 5, descriptorIndex := 6, attributes := #[] }, { accessFlags := 1, nameIndex := 19, descriptorIndex := 20, attributes := #[] }, { accessFlags := 1, nameIndex := 11, descriptorIndex := 22, attributes := #[] }] 49 2 #[] #[{ accessFlags := 2, nameIndex := 11, descriptorIndex := 12, attributes := #[] }, { accessFlags := 2, nameIndex := 15, descriptorIndex := 16, attributes := #[] }])
  fields := #[{ name := "line", type := .long, accessFlags := 2, slot := 0, constantValue := 0 }, { name := "afterCarriageReturn", type := .boolean, accessFlags := 2, slot := 1, constantValue := 0 }]
  methods := #[k2m0, k2m1, k2m2]
  instanceTypes := #[.long, .boolean]
  staticTypes := #[]
  resolved := Array.replicate 25 none
  statics := none }

def pool3 : Array CpInfo := pool [(1, u "java/lang/Cloneable"), (0, .class_ 1), (0, u "java/lang/Object"), (0, .class_ 3)] 3

/-- java/lang/Cloneable -/
def k3 : Class := { plain "java/lang/Cloneable" (some 0) with
  accessFlags := 1537
  interfaces := #[]
  cf := some (fileOf pool3 2 #[] #[] 1537 4 #[] #[])
  fields := #[]
  methods := #[]
  instanceTypes := #[]
  staticTypes := #[]
  resolved := Array.replicate 8 none
  statics := none }

def pool4 : Array CpInfo := pool [(1, u "java/io/Serializable"), (0, .class_ 1), (0, u "java/lang/Object"), (0, .class_ 3)] 3

/-- java/io/Serializable -/
def k4 : Class := { plain "java/io/Serializable" (some 0) with
  accessFlags := 1537
  interfaces := #[]
  cf := some (fileOf pool4 2 #[] #[] 1537 4 #[] #[])
  fields := #[]
  methods := #[]
  instanceTypes := #[]
  staticTypes := #[]
  resolved := Array.replicate 8 none
  statics := none }

/-- the primitive byte -/
def k5 : Class := { plain "byte" none with kind := .primitive 'B', accessFlags := 0x411 }
/-- [B -/
def k6 : Class := { plain "[B" (some 0) with kind := .array 5 .byte, interfaces := #[3, 4], accessFlags := 1041 }

/-- the primitive int -/
def k7 : Class := { plain "int" none with kind := .primitive 'I', accessFlags := 0x411 }
/-- [I -/
def k8 : Class := { plain "[I" (some 0) with kind := .array 7 .int, interfaces := #[3, 4], accessFlags := 1041 }

def heap : Heap := #[]
def classes : Array Class := #[k0, k1, k2, k3, k4, k5, k6, k7, k8]
def interned : List (Array UInt16 × Addr) := []
def slotsUsed : Nat := 0
def theMethod : MethodId := ⟨1, 3⟩
def args0 : Array Value := #[.long 5, .long 300, .long 8, .long 1]
def aboutOver (below : List Frame) : State where
  vm := { classes := classes, interned := interned.toArray }
  heap := heap
  slotsUsed := slotsUsed
  threads := #[{ frames := .invoking theMethod args0 :: below }]
def below0 : List Frame := [.native { method := ⟨0, 0⟩, args := #[] }]
def about1 : State := aboutOver below0
def p0 : Program := .bare "" "" ""
def e0 : Env := launch0.env 0 0 0
theorem w_frames : about1.frames = Frame.invoking theMethod args0 :: below0 := rfl
set_option maxRecDepth 65536 in
theorem w_args : argsFit about1.vm theMethod args0 = true := by decide +kernel
set_option maxRecDepth 65536 in
theorem w_heap : heapFits about1 = true := by decide +kernel
set_option maxRecDepth 65536 in
theorem w_runnable : about1.curStatus? = some .runnable := by decide +kernel
set_option maxRecDepth 65536 in
theorem w_alone : about1.alone = true := by decide +kernel
set_option maxRecDepth 65536 in
theorem w_named : about1.methodNamed? x = some theMethod := by decide +kernel
set_option maxRecDepth 65536 in
theorem w_hears : about1.hears theMethod below0 = true := by decide +kernel
set_option maxRecDepth 65536 in
theorem w_ripe : about1.ripe theMethod args0 below0 = true := by decide +kernel
theorem w_running : about1.status = .running := rfl
set_option maxRecDepth 65536 in
theorem w_room : about1.hasRoom e0.platform room_1 = true :=
  launch0.hasRoom_least _ room_1 (by decide +kernel) (by decide +kernel) (by decide +kernel) (by decide +kernel) (by decide +kernel) (by decide +kernel)
theorem allAtoms_all (ts : List Jvm.Cond) (a : Array Jvm.Value) (st : Jvm.State) : (allAtoms ts).before a st = ts.all (fun c => c.before a st) := by
  induction ts with
  | nil => rfl
  | cons c t ih =>
    show (Jvm.Cond.and c (allAtoms t)).before a st = _
    rw [Jvm.Cond.before_and, ih, List.all_cons]
def words1 : List Jvm.Cond := Jvm.Cond.code x code maxLocals ret :: tables_1
/-- a 'code' word, met by the world's own term for the bytes: nothing is compared byte by byte -/
theorem code_word {y : MethodName} {bytes : ByteArray} {mx : Nat} {rt : Option FieldType} {a : Array Value} {s : State} {m : MethodId} {meth : Method} {c : Code} (h1 : s.methodNamed? y = some m) (h2 : s.vm.method? m = some meth) (h3 : meth.code = some c) (h4 : c.code = bytes)
    (h5 : (c.maxLocals == mx && c.exceptionTable.isEmpty && decide (c.maxStack ≤ mostOperands) && decide (meth.sig.returnType = rt) && !meth.locks && decide (parseMethodDescriptor y.desc = some meth.sig)) = true) : (Jvm.Cond.code y bytes mx rt).before a s = true := by
  simp only [Bool.and_eq_true, beq_iff_eq, Bool.not_eq_true', decide_eq_true_eq] at h5
  obtain ⟨⟨⟨⟨⟨g1, g2⟩, g3⟩, g4⟩, g5⟩, g6⟩ := h5
  simp [Cond.before, Cond.holds, Cond.value, h1, h2, h3, h4, g1, g2, g3, g4, g5, g6]
def isCode : Jvm.Cond → Bool
  | .code _ _ _ _ => true
  | _ => false
theorem all_split {L : List Jvm.Cond} {P : Jvm.Cond → Bool} (h1 : L.all (fun c => isCode c || P c) = true) (h2 : ∀ c ∈ L.filter isCode, P c = true) : L.all P = true := by
  refine List.all_eq_true.mpr fun c hc => ?_
  have h := List.all_eq_true.mp h1 c hc
  rcases Bool.eq_false_or_eq_true (isCode c) with hi | hi
  · exact h2 c (List.mem_filter.mpr ⟨hc, hi⟩)
  · simpa [hi] using h
set_option maxRecDepth 65536 in
theorem w_c0 : (Jvm.Cond.code x code maxLocals ret).before args0 about1 = true := code_word (m := ⟨1, 3⟩) (meth := k1m3) (c := k1c3) (by decide +kernel) rfl rfl rfl (by decide +kernel)
set_option maxRecDepth 65536 in
theorem w_c1 : (Jvm.Cond.code ({ cls := "com/example/triplevec/triplevec/io/LineCounterPassPinLaw", name := "pick", desc := "(J)I" } : Jvm.MethodName) method_2_code (3 : Nat) (Option.some Jvm.ClassFile.FieldType.int)).before args0 about1 = true := code_word (m := ⟨1, 1⟩) (meth := k1m1) (c := k1c1) (by decide +kernel) rfl rfl rfl (by decide +kernel)
set_option maxRecDepth 65536 in
theorem w_c2 : (Jvm.Cond.code ({ cls := "com/example/triplevec/triplevec/io/LineCounter", name := "<init>", desc := "()V" } : Jvm.MethodName) prog_106_method_1_code (1 : Nat) (Option.none : Option Jvm.ClassFile.FieldType)).before args0 about1 = true := code_word (m := ⟨2, 0⟩) (meth := k2m0) (c := k2c0) (by decide +kernel) rfl rfl rfl (by decide +kernel)
set_option maxRecDepth 65536 in
theorem w_c3 : (Jvm.Cond.code ({ cls := "java/lang/Object", name := "<init>", desc := "()V" } : Jvm.MethodName) object_method_1_code (1 : Nat) (Option.none : Option Jvm.ClassFile.FieldType)).before args0 about1 = true := code_word (m := ⟨0, 0⟩) (meth := k0m0) (c := k0c0) (by decide +kernel) rfl rfl rfl (by decide +kernel)
set_option maxRecDepth 65536 in
theorem w_c4 : (Jvm.Cond.code ({ cls := "com/example/triplevec/triplevec/io/LineCounter", name := "line", desc := "()J" } : Jvm.MethodName) prog_106_method_3_code (1 : Nat) (Option.some Jvm.ClassFile.FieldType.long)).before args0 about1 = true := code_word (m := ⟨2, 2⟩) (meth := k2m2) (c := k2c2) (by decide +kernel) rfl rfl rfl (by decide +kernel)
set_option maxRecDepth 65536 in
theorem w_c5 : (Jvm.Cond.code ({ cls := "com/example/triplevec/triplevec/io/LineCounterPassPinLaw", name := "step", desc := "(JII)J" } : Jvm.MethodName) method_3_code (4 : Nat) (Option.some Jvm.ClassFile.FieldType.long)).before args0 about1 = true := code_word (m := ⟨1, 2⟩) (meth := k1m2) (c := k1c2) (by decide +kernel) rfl rfl rfl (by decide +kernel)
set_option maxRecDepth 65536 in
theorem w_c6 : (Jvm.Cond.code ({ cls := "com/example/triplevec/triplevec/io/LineCounter", name := "pass", desc := "(I)V" } : Jvm.MethodName) prog_106_method_2_code (2 : Nat) (Option.none : Option Jvm.ClassFile.FieldType)).before args0 about1 = true := code_word (m := ⟨2, 1⟩) (meth := k2m1) (c := k2c1) (by decide +kernel) rfl rfl rfl (by decide +kernel)
def codes1 : List Jvm.Cond := [Jvm.Cond.code x code maxLocals ret, Jvm.Cond.code ({ cls := "com/example/triplevec/triplevec/io/LineCounterPassPinLaw", name := "pick", desc := "(J)I" } : Jvm.MethodName) method_2_code (3 : Nat) (Option.some Jvm.ClassFile.FieldType.int), Jvm.Cond.code ({ cls := "com/example/triplevec/triplevec/io/LineCounter", name := "<init>", desc := "()V" } : Jvm.MethodName) prog_106_method_1_code (1 : Nat) (Option.none : Option Jvm.ClassFile.FieldType), Jvm.Cond.code ({ cls := "java/lang/Object", name := "<init>", desc := "()V" } : Jvm.MethodName) object_method_1_code (1 : Nat) (Option.none : Option Jvm.ClassFile.FieldType), Jvm.Cond.code ({ cls := "com/example/triplevec/triplevec/io/LineCounter", name := "line", desc := "()J" } : Jvm.MethodName) prog_106_method_3_code (1 : Nat) (Option.some Jvm.ClassFile.FieldType.long), Jvm.Cond.code ({ cls := "com/example/triplevec/triplevec/io/LineCounterPassPinLaw", name := "step", desc := "(JII)J" } : Jvm.MethodName) method_3_code (4 : Nat) (Option.some Jvm.ClassFile.FieldType.long), Jvm.Cond.code ({ cls := "com/example/triplevec/triplevec/io/LineCounter", name := "pass", desc := "(I)V" } : Jvm.MethodName) prog_106_method_2_code (2 : Nat) (Option.none : Option Jvm.ClassFile.FieldType)]
set_option maxRecDepth 65536 in
theorem codes_eq : words1.filter isCode = codes1 := rfl
theorem w_codes : ∀ c ∈ words1.filter isCode, c.before args0 about1 = true := by
  rw [codes_eq]
  intro c hc
  simp only [codes1, List.mem_cons, List.not_mem_nil, or_false] at hc
  rcases hc with rfl | rfl | rfl | rfl | rfl | rfl | rfl
  · exact w_c0
  · exact w_c1
  · exact w_c2
  · exact w_c3
  · exact w_c4
  · exact w_c5
  · exact w_c6
set_option maxRecDepth 65536 in
theorem w_t1 : (words1.take 24).all (fun c => isCode c || c.before args0 about1) = true := by decide +kernel
set_option maxRecDepth 65536 in
theorem w_t2 : (words1.drop 24).all (fun c => isCode c || c.before args0 about1) = true := by decide +kernel
theorem w_tables : (allAtoms (Jvm.Cond.code x code maxLocals ret :: tables_1)).before args0 about1 = true := by
  rw [allAtoms_all]
  show words1.all (fun c => c.before args0 about1) = true
  refine all_split ?_ w_codes
  rw [← List.take_append_drop 24 words1, List.all_append, w_t1, w_t2]
  rfl
set_option maxRecDepth 65536 in
theorem w_case : (Jvm.Cond.and given_1 narrow_1).before args0 about1 = true := by decide +kernel
theorem w_applies : (headSpec (Jvm.Cond.code x code maxLocals ret :: tables_1) room_1).applies x e0.platform about1 = true :=
  (Spec.applies_iff w_frames).mpr ⟨w_running, w_runnable, w_alone, w_named, w_hears, w_ripe, w_room, w_tables⟩
theorem atStart : AtStart classFile x code maxLocals ret World_1 tables_1 room_1 Calls_1 rest_1 Pre_1 launch0 p0 e0 about1 theMethod args0 below0 :=
  ⟨lists_1, trivial, launch0.admits_env _ _ _, launch0.least_env, fairChoices_fair.cas, fairChoices_fair.clock, w_frames, w_args, w_heap, w_applies, trivial, trivial, w_case⟩
end start1
theorem witness_1 : WitnessClaimed_1 := ⟨start1.p0, start1.e0, start1.about1, start1.theMethod, start1.args0, start1.below0, start1.atStart⟩
end Jvm.Pilot.@@N@@
