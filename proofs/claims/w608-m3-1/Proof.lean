import JvmDerived
import JvmDerived.Pilot.@@N@@Statement
import JvmDerived.Pilot.@@N@@Code
set_option linter.unusedVariables false
set_option linter.unusedSimpArgs false
namespace Jvm.Pilot.@@N@@
open Jvm Jvm.ClassFile Sem Op Lib Jvm.Free Jvm.Stand Jvm.LawKit Jvm.RoadKit Bundle Jvm.Pilot.@@N@@.Jvm.D
/-! 0. a walk by goals: 'Go .. F T g': from the frame g at the state T the body comes to an end of which F holds -/
def Go (tb : Tables) (e : Env) (below : List Frame) (F : Outcome → State → Prop) (T : State) (g : JFrame) : Prop :=
  ∃ s₂ o, Steps tb e below (T.setTop g) s₂ ∧ s₂.status = .running ∧ Ended s₂ below o ∧ F o s₂
def Fin (s : State) (Q : Option Value → Heap → List Loc → Prop) (rc rs : Nat) : Outcome → State → Prop :=
  fun o U => ∃ v L, o = .returned v ∧ Q v U.heap L ∧ FrameEnd s o U L rc rs
/-- a contract: called with as' at the heap h it returns, and Q holds of the value, the heap and the written places -/
def MetQ (l : Launch) (Z : State) (y : MethodName) (bytes : ByteArray) (maxL : Nat) (ret : Option FieldType) (ws : List Jvm.Cond) (rm : Room) (as' : Array Value) (h : Heap) (Q : Option Value → Heap → List Loc → Prop) : Prop :=
  MetFree l y (head1 (Jvm.Cond.code y bytes maxL ret :: ws) rm) (fun a U => a = as' ∧ Z.Warmed39 U.vm ∧ U.heap = h) (fun _ _ _ _ _ => True) (fun _ U o U' => ∃ v L, o = .returned v ∧ Q v U'.heap L ∧ FrameEnd U o U' L rm.cells rm.slots)
/-- what a pure method leaves: its value, nothing written -/
def PQ (w : Value) (h : Heap) : Option Value → Heap → List Loc → Prop := fun v h' L => v = some w ∧ L = [] ∧ h' = h
theorem own_narrow_ref {t : FieldType} {v : Value} (hv : v.isRef = true) : narrow t v = v := by rcases XT.refc hv with rfl | ⟨_, rfl⟩ <;> cases t <;> rfl
theorem own_fits_obj {C : String} {v : Value} (hv : v.isRef = true) : fits (.object C) v = true := by rcases XT.refc hv with rfl | ⟨_, rfl⟩ <;> rfl
theorem own_fits_arr {t : FieldType} {v : Value} (hv : v.isRef = true) : fits (.array t) v = true := by rcases XT.refc hv with rfl | ⟨_, rfl⟩ <;> rfl
section Walk
variable {tb : Tables} {p : Program} {l : Launch} {e : Env} {R : Room} {s : State} {m : MethodId} {args : Array Value} {below : List Frame} {meth : Method} {c : Code} {T T' : State} {locs : List Loc} {cells slots : Nat} {Z : State} {a0 : Array Value} {h : Heap} {F : Outcome → State → Prop} {g g' : JFrame} {Q : Option Value → Heap → List Loc → Prop}
theorem Go.st (st : ∀ t, Steps tb e below (T'.setTop g') t → Steps tb e below (T.setTop g) t) (k : Go tb e below F T' g') : Go tb e below F T g := by
  obtain ⟨a, b, q, r⟩ := k; exact ⟨a, b, st _ q, r⟩
theorem Go.tr (st : Steps tb e below (T.setTop g) (T'.setTop g')) (k : Go tb e below F T' g') : Go tb e below F T g := by
  obtain ⟨a, b, q, r⟩ := k; exact ⟨a, b, st.trans q, r⟩
theorem Go.cast (q : g = g') (k : Go tb e below F T g') : Go tb e below F T g := q ▸ k
theorem MetQ.body {y : MethodName} {bytes : ByteArray} {maxL : Nat} {ret : Option FieldType} {ws : List Jvm.Cond} {rm : Room} {as' : Array Value} (hp : plainFor y = true)
    (k : ∀ (p : Program) (e : Env) (s : State) (m : MethodId) (below : List Frame) (meth : Method) (c : Code) (s₁ : State), p.tables.exec = Jvm.exec → c.code = bytes → c.maxLocals = maxL → s.vm.findClass y.cls = some m.cls → meth.name = y.name → meth.sig.returnType = ret → meth.locks = false →
      Z.Warmed39 s.vm → s₁.heap = h → Stand p l e rm s m as' below meth c s₁ [] 0 0 → Go p.tables e below (Fin s Q rm.cells rm.slots) s₁ (entryFrame m as' maxL)) : MetQ l Z y bytes maxL ret ws rm as' h Q := by
  refine MetFree.of_bodySF hp hisR ?_
  intro p e s m args below meth c s₁ Bd hml0 hP hK
  obtain ⟨rfl, hZ, hh⟩ := hP
  exact k p e s m below meth c s₁ Bd.exec Bd.bytes hml0 (findClass_of_methodNamed Bd.named) (name_of_methodNamed Bd.named Bd.method).1 Bd.returns (BodyLoose.notSynchronized Bd) hZ (by rw [← hh, Bd.state]; rfl) (Stand.of_body Bd)
theorem Go.retI (X : Stand p l e R s m args below meth c T locs cells slots) (hx : p.tables.exec = Jvm.exec) (hlk : meth.locks = false) (hret : meth.sig.returnType = some .int) {pc : Nat} {Ls : Array Slot} {z : Int32} {rest : List Value} (hd : decode c.code pc = .ok (.ireturn, 1)) {rc rs : Nat} (hc : cells ≤ rc) (hs : slots ≤ rs) (hq : Q (some (.int z)) T.heap locs) :
    Go p.tables e below (Fin s Q rc rs) T (mkF m pc Ls (.int z :: rest)) := by
  obtain ⟨fs, hl, hrun, hended, hW, hsame⟩ := X.leave (v := some (.int z)) (fun h => by rw [hret] at h; cases h) hlk
  refine ⟨_, _, ?_, hrun, hended, _, _, rfl, hq, ⟨_, rfl⟩, hW, hsame.mono hc hs⟩
  have hm' : T.vm.method? m = some meth := X.method'
  have hn : narrow .int (.int z) = .int z := rfl
  show Steps p.tables e below (T.setTop { method := m, pc := pc, locals := Ls, stack := _ :: rest, locked := none }) _
  jvm_step X.here [X.here.top, hx, hd, hm', hret, hn]
  first | (intro acts; rw [hl _ acts rfl rfl rfl]) | rw [hl _ _ rfl rfl rfl]
  exact Steps.refl _
theorem Go.retN (X : Stand p l e R s m args below meth c T locs cells slots) (hx : p.tables.exec = Jvm.exec) (hlk : meth.locks = false) {t : FieldType} (hret : meth.sig.returnType = some t) (ht : t = .boolean ∨ t = .byte ∨ t = .char ∨ t = .short) {pc : Nat} {Ls : Array Slot} {z : Int32} {rest : List Value} (hd : decode c.code pc = .ok (.ireturn, 1)) {rc rs : Nat} (hc : cells ≤ rc) (hs : slots ≤ rs) (hq : Q (some (.int (nar t z))) T.heap locs) :
    Go p.tables e below (Fin s Q rc rs) T (mkF m pc Ls (.int z :: rest)) := by
  obtain ⟨fs, hl, hrun, hended, hW, hsame⟩ := X.leave (v := some (.int (nar t z))) (fun h => by rw [hret] at h; cases h) hlk
  exact ⟨_, _, Jvm.RoadKit.retN X hx hret ht hd hl, hrun, hended, _, _, rfl, hq, ⟨_, rfl⟩, hW, hsame.mono hc hs⟩
theorem Go.retJ (X : Stand p l e R s m args below meth c T locs cells slots) (hx : p.tables.exec = Jvm.exec) (hlk : meth.locks = false) (hret : meth.sig.returnType = some .long) {pc : Nat} {Ls : Array Slot} {z : Int64} (hd : decode c.code pc = .ok (.lreturn, 1)) {rc rs : Nat} (hc : cells ≤ rc) (hs : slots ≤ rs) (hq : Q (some (.long z)) T.heap locs) :
    Go p.tables e below (Fin s Q rc rs) T (mkF m pc Ls [.long z]) := by
  obtain ⟨fs, hl, hrun, hended, hW, hsame⟩ := X.leave (v := some (.long z)) (fun h => by rw [hret] at h; cases h) hlk
  exact ⟨_, _, X.lreturnOut hx hret hd hl, hrun, hended, _, _, rfl, hq, ⟨_, rfl⟩, hW, hsame.mono hc hs⟩
theorem Go.retA (X : Stand p l e R s m args below meth c T locs cells slots) (hx : p.tables.exec = Jvm.exec) (hlk : meth.locks = false) {t : FieldType} (hret : meth.sig.returnType = some t) (ht : t.isReference = true) {pc : Nat} {Ls : Array Slot} {w : Value} (hw : w.isRef = true) (hd : decode c.code pc = .ok (.areturn, 1)) {rc rs : Nat} (hc : cells ≤ rc) (hs : slots ≤ rs) (hq : Q (some w) T.heap locs) :
    Go p.tables e below (Fin s Q rc rs) T (mkF m pc Ls [w]) := by
  obtain ⟨fs, hl, hrun, hended, hW, hsame⟩ := X.leave (v := some w) (fun h => by rw [hret] at h; cases h) hlk
  exact ⟨_, _, X.areturnOut hx hw hret ht hd hl, hrun, hended, _, _, rfl, hq, ⟨_, rfl⟩, hW, hsame.mono hc hs⟩
theorem Go.retV (X : Stand p l e R s m args below meth c T locs cells slots) (hx : p.tables.exec = Jvm.exec) (hlk : meth.locks = false) (hret : meth.sig.returnType = none) {pc : Nat} {Ls : Array Slot} (hd : decode c.code pc = .ok (.return_, 1)) {rc rs : Nat} (hc : cells ≤ rc) (hs : slots ≤ rs) (hq : Q none T.heap locs) :
    Go p.tables e below (Fin s Q rc rs) T (mkF m pc Ls []) := by
  obtain ⟨fs, hl, hrun, hended, hW, hsame⟩ := X.leave (v := none) (fun _ => rfl) hlk
  exact ⟨_, _, X.returnOut hx hret hd hl, hrun, hended, _, _, rfl, hq, ⟨_, rfl⟩, hW, hsame.mono hc hs⟩
/-- a static call by its contract -/
theorem Go.callS (X : Stand p l e R s m args below meth c T locs cells slots) (hx : p.tables.exec = Jvm.exec) (hZ : Z.Warmed39 s.vm) {own : String} (hown : s.vm.findClass own = some m.cls) {index : Nat} {y : MethodName} {bytes : ByteArray} {maxL : Nat} {ret : Option FieldType} {rm : Room} {W : Nat} {argsL rest : List Value} {Qc : Option Value → Heap → List Loc → Prop}
    (w1 : (Jvm.Cond.methodLink own index y).before a0 Z = true) (w2 : (Jvm.Cond.static y).before a0 Z = true) (w3 : (Jvm.Cond.initialized y.cls).before a0 Z = true) (w4 : (Jvm.Cond.code y bytes maxL ret).before a0 Z = true) (hy : y.cls ≠ "java/lang/invoke/MethodHandle" ∧ y.cls ≠ "java/lang/invoke/VarHandle")
    (eT : T.heap = h) (hM : MetQ l Z y bytes maxL ret [] rm argsL.toArray h Qc) (hf : rm.frames + 1 ≤ R.frames) (hl : W + (maxL + 11) + rm.locals ≤ R.locals) (hc : cells + rm.cells ≤ R.cells) (hs : slots + rm.slots ≤ R.slots)
    (hg : g.method = m) (hsize : g.locals.size = c.maxLocals) (hlen : ∀ sig, parseMethodDescriptor y.desc = some sig → argsL.length = sig.parameters.length) (hstack : g.stack = argsL.reverse ++ rest) (hW : 2 * g.monitorRoom + (rest.map fun v => v.category).sum ≤ W) (hdg : decode c.code g.pc = .ok (.invokestatic index, 3))
    (k : ∀ (v : Option Value) (T' : State) (L : List Loc), Stand p l e R s m args below meth c T' (locs ++ L) (cells + rm.cells) (slots + rm.slots) → Qc v T'.heap L → Go p.tables e below F T' { g with pc := g.pc + 3, stack := v.toList ++ rest }) : Go p.tables e below F T g := by
  obtain ⟨v, vm1, ⟨T', L', c', n'⟩, -, X', ⟨L, hQ, e1, e2, e3⟩, st⟩ := Jvm.LawKit.callS X hx (y := y) hown (mvT hZ w1) (mvT hZ w2) (mvT hZ w3) (mvT hZ w4) hy (backOf (W := W) hM hZ w4 w3 hf hl) hg hsize hlen hstack hW hdg (fun _ _ => ⟨rfl, eT, hc, hs⟩)
  dsimp only [Pt.U, Pt.locs, Pt.cells, Pt.slots] at X' e1 e2 e3 st hQ
  subst e1 e2 e3
  exact Go.st st (k v T' L X' hQ)
/-- a pure static call by its contract -/
theorem Go.callP (X : Stand p l e R s m args below meth c T locs cells slots) (hx : p.tables.exec = Jvm.exec) (hZ : Z.Warmed39 s.vm) {own : String} (hown : s.vm.findClass own = some m.cls) {index : Nat} {y : MethodName} {bytes : ByteArray} {maxL : Nat} {ret : Option FieldType} {fr lo W : Nat} {argsL rest : List Value} {w : Value}
    (w1 : (Jvm.Cond.methodLink own index y).before a0 Z = true) (w2 : (Jvm.Cond.static y).before a0 Z = true) (w3 : (Jvm.Cond.initialized y.cls).before a0 Z = true) (w4 : (Jvm.Cond.code y bytes maxL ret).before a0 Z = true) (hy : y.cls ≠ "java/lang/invoke/MethodHandle" ∧ y.cls ≠ "java/lang/invoke/VarHandle")
    (eT : T.heap = h) (hM : MetQ l Z y bytes maxL ret [] ({ frames := fr, cells := 0, slots := 0, locals := lo } : Room) argsL.toArray h (PQ w h)) (hf : fr + 1 ≤ R.frames) (hl : W + (maxL + 11) + lo ≤ R.locals) (hc : cells ≤ R.cells) (hs : slots ≤ R.slots)
    (hg : g.method = m) (hsize : g.locals.size = c.maxLocals) (hlen : ∀ sig, parseMethodDescriptor y.desc = some sig → argsL.length = sig.parameters.length) (hstack : g.stack = argsL.reverse ++ rest) (hW : 2 * g.monitorRoom + (rest.map fun v => v.category).sum ≤ W) (hdg : decode c.code g.pc = .ok (.invokestatic index, 3))
    (k : ∀ (T' : State), Stand p l e R s m args below meth c T' locs cells slots → T'.heap = h → Go p.tables e below F T' { g with pc := g.pc + 3, stack := w :: rest }) : Go p.tables e below F T g := by
  refine Go.callS X hx hZ hown w1 w2 w3 w4 hy eT hM hf hl hc hs hg hsize hlen hstack hW hdg fun v T' L X' q => ?_
  obtain ⟨rfl, rfl, e'⟩ := q
  rw [List.append_nil] at X'
  exact k T' X' e'
/-- an instance call by its contract; the receiver is exactly a C -/
theorem Go.callV (X : Stand p l e R s m args below meth c T locs cells slots) (hx : p.tables.exec = Jvm.exec) (hZ : Z.Warmed39 s.vm) {own : String} (hown : s.vm.findClass own = some m.cls) {index : Nat} {y : MethodName} {C : String} {bytes : ByteArray} {maxL : Nat} {ret : Option FieldType} {rm : Room} {W : Nat} {argsL rest : List Value} {Qc : Option Value → Heap → List Loc → Prop}
    (w1 : (Jvm.Cond.methodLink own index y).before a0 Z = true) (w2 : (Jvm.Cond.declares y).before a0 Z = true) (w5 : (Jvm.Cond.selects C y y).before a0 Z = true) (w6 : (Jvm.Cond.instanceMethod y).before a0 Z = true) (w3 : (Jvm.Cond.initialized y.cls).before a0 Z = true) (w4 : (Jvm.Cond.code y bytes maxL ret).before a0 Z = true) (hy : y.cls ≠ "java/lang/invoke/MethodHandle" ∧ y.cls ≠ "java/lang/invoke/VarHandle") (hcy : C = y.cls)
    (eT : T.heap = h) {b : Addr} (E : Exa Z h b C) (hM : MetQ l Z y bytes maxL ret [] rm (.ref b :: argsL).toArray h Qc) (hf : rm.frames + 1 ≤ R.frames) (hl : W + (maxL + 11) + rm.locals ≤ R.locals) (hc : cells + rm.cells ≤ R.cells) (hs : slots + rm.slots ≤ R.slots)
    (hg : g.method = m) (hsize : g.locals.size = c.maxLocals) (hlen : ∀ sig, parseMethodDescriptor y.desc = some sig → argsL.length = sig.parameters.length) (hstack : g.stack = argsL.reverse ++ .ref b :: rest) (hW : 2 * g.monitorRoom + (rest.map fun v => v.category).sum ≤ W) (hdg : decode c.code g.pc = .ok (.invokevirtual index, 3))
    (k : ∀ (v : Option Value) (T' : State) (L : List Loc), Stand p l e R s m args below meth c T' (locs ++ L) (cells + rm.cells) (slots + rm.slots) → Qc v T'.heap L → Go p.tables e below F T' { g with pc := g.pc + 3, stack := v.toList ++ rest }) : Go p.tables e below F T g := by
  subst hcy
  obtain ⟨cq, kq, qa, qb, qc⟩ := isOf hZ eT E
  obtain ⟨v, vm1, ⟨T', L', c', n'⟩, -, X', ⟨L, hQ, e1, e2, e3⟩, st⟩ := X.virtualBack hx (y := y) (z := y) hown (mvT hZ w1) (mvT hZ w2) (notFace_of_selects (args := #[]) (mvT hZ w5)) (mvT hZ w5) (mvT hZ w6) hy (backOf (W := W) hM hZ w4 w3 hf hl) qa qc hg hsize (Steps.refl _) hlen hstack hW hdg (fun _ _ => ⟨rfl, eT, hc, hs⟩)
  dsimp only [Pt.U, Pt.locs, Pt.cells, Pt.slots] at X' e1 e2 e3 st hQ
  subst e1 e2 e3
  exact Go.tr st (k v T' L X' hQ)
/-- a constructor by its contract -/
theorem Go.callC (X : Stand p l e R s m args below meth c T locs cells slots) (hx : p.tables.exec = Jvm.exec) (hZ : Z.Warmed39 s.vm) {own : String} (hown : s.vm.findClass own = some m.cls) {index : Nat} {y : MethodName} {bytes : ByteArray} {maxL : Nat} {rm : Room} {W : Nat} {argsL rest : List Value} {Qc : Option Value → Heap → List Loc → Prop} (hy1 : y.name = "<init>")
    (w1 : (Jvm.Cond.methodLink own index y).before a0 Z = true) (w2 : (Jvm.Cond.instanceMethod y).before a0 Z = true) (w3 : (Jvm.Cond.initialized y.cls).before a0 Z = true) (w4 : (Jvm.Cond.code y bytes maxL none).before a0 Z = true) (hy : y.cls ≠ "java/lang/invoke/MethodHandle" ∧ y.cls ≠ "java/lang/invoke/VarHandle")
    (eT : T.heap = h) {b : Addr} (hM : MetQ l Z y bytes maxL none [] rm (.ref b :: argsL).toArray h Qc) (hf : rm.frames + 1 ≤ R.frames) (hl : W + (maxL + 11) + rm.locals ≤ R.locals) (hc : cells + rm.cells ≤ R.cells) (hs : slots + rm.slots ≤ R.slots)
    (hg : g.method = m) (hsize : g.locals.size = c.maxLocals) (hlen : ∀ sig, parseMethodDescriptor y.desc = some sig → argsL.length = sig.parameters.length) (hstack : g.stack = argsL.reverse ++ .ref b :: rest) (hW : 2 * g.monitorRoom + (rest.map fun v => v.category).sum ≤ W) (hdg : decode c.code g.pc = .ok (.invokespecial index, 3))
    (k : ∀ (v : Option Value) (T' : State) (L : List Loc), Stand p l e R s m args below meth c T' (locs ++ L) (cells + rm.cells) (slots + rm.slots) → Qc v T'.heap L → Go p.tables e below F T' { g with pc := g.pc + 3, stack := v.toList ++ rest }) : Go p.tables e below F T g := by
  obtain ⟨v, vm1, ⟨T', L', c', n'⟩, -, X', ⟨L, hQ, e1, e2, e3⟩, st⟩ := X.specialBack hx (y := y) hy1 hown (mvT hZ w1) (mvT hZ w2) (mvT hZ w4) hy (backOf (W := W) hM hZ w4 w3 hf hl) hg hsize (Steps.refl _) hlen hstack hW hdg (fun _ _ => ⟨rfl, eT, hc, hs⟩)
  dsimp only [Pt.U, Pt.locs, Pt.cells, Pt.slots] at X' e1 e2 e3 st hQ
  subst e1 e2 e3
  exact Go.tr st (k v T' L X' hQ)
end Walk
theorem pd_0 : parseMethodDescriptor "(JJ)I" = some ⟨[.long, .long], some .int⟩ := by decide +kernel
theorem d4_0 : decode jdk_35_method_42_code 0 = .ok (.lload_n 0, 1) := by decide +kernel
theorem d4_1 : decode jdk_35_method_42_code 1 = .ok (.lload_n 2, 1) := by decide +kernel
theorem d4_2 : decode jdk_35_method_42_code 2 = .ok (.lcmp, 1) := by decide +kernel
theorem d4_3 : decode jdk_35_method_42_code 3 = .ok (.ifCond .ge 7, 3) := by decide +kernel
theorem d4_6 : decode jdk_35_method_42_code 6 = .ok (.iconst (-1), 1) := by decide +kernel
theorem d4_7 : decode jdk_35_method_42_code 7 = .ok (.goto 14, 3) := by decide +kernel
theorem d4_10 : decode jdk_35_method_42_code 10 = .ok (.lload_n 0, 1) := by decide +kernel
theorem d4_11 : decode jdk_35_method_42_code 11 = .ok (.lload_n 2, 1) := by decide +kernel
theorem d4_12 : decode jdk_35_method_42_code 12 = .ok (.lcmp, 1) := by decide +kernel
theorem d4_13 : decode jdk_35_method_42_code 13 = .ok (.ifCond .ne 7, 3) := by decide +kernel
theorem d4_16 : decode jdk_35_method_42_code 16 = .ok (.iconst 0, 1) := by decide +kernel
theorem d4_17 : decode jdk_35_method_42_code 17 = .ok (.goto 4, 3) := by decide +kernel
theorem d4_20 : decode jdk_35_method_42_code 20 = .ok (.iconst 1, 1) := by decide +kernel
theorem d4_21 : decode jdk_35_method_42_code 21 = .ok (.ireturn, 1) := by decide +kernel
theorem pn_0 : plainName "java/lang/Long" = true := by first | (simp [plainName, overriddenIn]; done) | decide +kernel
def f4 (p0 : Int64) (p1 : Int64) : Int32 := (if p0 < p1 then (-1 : Int32) else (if p0 = p1 then (0 : Int32) else (1 : Int32)))
theorem ef_rm4 (m : MethodId) (p0 : Int64) (p1 : Int64)  : entryFrame m #[(.long p0), (.long p1)] 4 = mkF m 0 #[.val (.long p0), .second, .val (.long p1), .second] [] := by first | (simp [entryFrame, mkF, argsToLocals, Value.category]; done) | rfl
set_option maxRecDepth 65536 in
set_option maxHeartbeats 40000000 in
theorem rm4 (l : Launch) (Z : State) (a0 : Array Value) (hw : ∀ d ∈ tables_1, d.before a0 Z = true) (p0 : Int64) (p1 : Int64)  (h0 : Heap)  :
    MetQ l Z (⟨"java/lang/Long", "compare", "(JJ)I"⟩ : MethodName) jdk_35_method_42_code 4 (some .int) [] ({ frames := 0, cells := 0, slots := 0, locals := 0 } : Room) #[(.long p0), (.long p1)] h0 (PQ (.int (f4 p0 p1)) h0) := by
  refine MetQ.body (plainFor_of_name pn_0) fun p e s m below meth c s₁ hx hby hml hown hnm hret hlk hZ e0 X0 => Go.cast (ef_rm4 m p0 p1) ?_
  refine Go.st (T' := s₁) (g' := (mkF m 1 #[.val (.long p0), .second, .val (.long p1), .second] [(.long p0)])) (fun _ hr => XT.lloadN X0.here hx rfl (hb hby d4_0) rfl hr) ?_
  refine Go.st (T' := s₁) (g' := (mkF m 2 #[.val (.long p0), .second, .val (.long p1), .second] [(.long p1), (.long p0)])) (fun _ hr => XT.lloadN X0.here hx rfl (hb hby d4_1) rfl hr) ?_
  refine Go.st (T' := s₁) (g' := (mkF m 3 #[.val (.long p0), .second, .val (.long p1), .second] [(.int (XT.cmpL p0 p1))])) (fun _ hr => XT.lcmp X0.here hx rfl (hb hby d4_2) rfl hr) ?_
  by_cases c3_1 : p0 < p1
  · refine Go.st (T' := s₁) (g' := (mkF m 6 #[.val (.long p0), .second, .val (.long p1), .second] [])) (fun _ hr => XS.ifNo X0.here hx rfl (hb hby d4_3) rfl (XT.ll_ge_f c3_1) hr) ?_
    refine Go.st (T' := s₁) (g' := (mkF m 7 #[.val (.long p0), .second, .val (.long p1), .second] [(.int (-1 : Int32))])) (fun _ hr => XT.iconstV X0.here hx rfl (-1 : Int32) (hb hby d4_6) (by decide) hr) ?_
    refine Go.st (T' := s₁) (g' := (mkF m 21 #[.val (.long p0), .second, .val (.long p1), .second] [(.int (-1 : Int32))])) (fun _ hr => XS.goto X0.here hx rfl (pc0 := 7) (pc' := 21) rfl (hb hby d4_7) (by decide) (by decide) hr) ?_
    exact Go.retI X0 hx hlk hret (hb hby d4_21) (Nat.zero_le _) (Nat.zero_le _) ⟨congrArg (fun z => some (Value.int z)) (by simp only [f4, if_pos c3_1]), rfl, e0⟩
  · refine Go.st (T' := s₁) (g' := (mkF m 10 #[.val (.long p0), .second, .val (.long p1), .second] [])) (fun _ hr => XS.ifYes X0.here hx rfl (pc0 := 3) (pc' := 10) rfl (hb hby d4_3) rfl (XT.ll_ge_t c3_1) (by decide) (by decide) hr) ?_
    refine Go.st (T' := s₁) (g' := (mkF m 11 #[.val (.long p0), .second, .val (.long p1), .second] [(.long p0)])) (fun _ hr => XT.lloadN X0.here hx rfl (hb hby d4_10) rfl hr) ?_
    refine Go.st (T' := s₁) (g' := (mkF m 12 #[.val (.long p0), .second, .val (.long p1), .second] [(.long p1), (.long p0)])) (fun _ hr => XT.lloadN X0.here hx rfl (hb hby d4_11) rfl hr) ?_
    refine Go.st (T' := s₁) (g' := (mkF m 13 #[.val (.long p0), .second, .val (.long p1), .second] [(.int (XT.cmpL p0 p1))])) (fun _ hr => XT.lcmp X0.here hx rfl (hb hby d4_12) rfl hr) ?_
    by_cases c13_2 : p0 = p1
    · refine Go.st (T' := s₁) (g' := (mkF m 16 #[.val (.long p0), .second, .val (.long p1), .second] [])) (fun _ hr => XS.ifNo X0.here hx rfl (hb hby d4_13) rfl (XT.ll_ne_f c13_2) hr) ?_
      refine Go.st (T' := s₁) (g' := (mkF m 17 #[.val (.long p0), .second, .val (.long p1), .second] [(.int (0 : Int32))])) (fun _ hr => XT.iconstV X0.here hx rfl (0 : Int32) (hb hby d4_16) (by decide) hr) ?_
      refine Go.st (T' := s₁) (g' := (mkF m 21 #[.val (.long p0), .second, .val (.long p1), .second] [(.int (0 : Int32))])) (fun _ hr => XS.goto X0.here hx rfl (pc0 := 17) (pc' := 21) rfl (hb hby d4_17) (by decide) (by decide) hr) ?_
      exact Go.retI X0 hx hlk hret (hb hby d4_21) (Nat.zero_le _) (Nat.zero_le _) ⟨congrArg (fun z => some (Value.int z)) (by simp only [f4, if_neg c3_1, if_pos c13_2]), rfl, e0⟩
    · refine Go.st (T' := s₁) (g' := (mkF m 20 #[.val (.long p0), .second, .val (.long p1), .second] [])) (fun _ hr => XS.ifYes X0.here hx rfl (pc0 := 13) (pc' := 20) rfl (hb hby d4_13) rfl (XT.ll_ne_t c13_2) (by decide) (by decide) hr) ?_
      refine Go.st (T' := s₁) (g' := (mkF m 21 #[.val (.long p0), .second, .val (.long p1), .second] [(.int (1 : Int32))])) (fun _ hr => XT.iconstV X0.here hx rfl (1 : Int32) (hb hby d4_20) (by decide) hr) ?_
      exact Go.retI X0 hx hlk hret (hb hby d4_21) (Nat.zero_le _) (Nat.zero_le _) ⟨congrArg (fun z => some (Value.int z)) (by simp only [f4, if_neg c3_1, if_neg c13_2]), rfl, e0⟩
theorem d3_0 : decode jdk_35_method_43_code 0 = .ok (.lload_n 0, 1) := by decide +kernel
theorem d3_1 : decode jdk_35_method_43_code 1 = .ok (.ldc2_w 168, 3) := by decide +kernel
theorem d3_4 : decode jdk_35_method_43_code 4 = .ok (.ladd, 1) := by decide +kernel
theorem d3_5 : decode jdk_35_method_43_code 5 = .ok (.lload_n 2, 1) := by decide +kernel
theorem d3_6 : decode jdk_35_method_43_code 6 = .ok (.ldc2_w 168, 3) := by decide +kernel
theorem d3_9 : decode jdk_35_method_43_code 9 = .ok (.ladd, 1) := by decide +kernel
theorem d3_10 : decode jdk_35_method_43_code 10 = .ok (.invokestatic 302, 3) := by decide +kernel
theorem d3_13 : decode jdk_35_method_43_code 13 = .ok (.ireturn, 1) := by decide +kernel
def f3 (p0 : Int64) (p1 : Int64) : Int32 := (f4 (p0 + (-9223372036854775808 : Int64)) (p1 + (-9223372036854775808 : Int64)))
theorem ef_rm3 (m : MethodId) (p0 : Int64) (p1 : Int64)  : entryFrame m #[(.long p0), (.long p1)] 4 = mkF m 0 #[.val (.long p0), .second, .val (.long p1), .second] [] := by first | (simp [entryFrame, mkF, argsToLocals, Value.category]; done) | rfl
set_option maxRecDepth 65536 in
set_option maxHeartbeats 40000000 in
theorem rm3 (l : Launch) (Z : State) (a0 : Array Value) (hw : ∀ d ∈ tables_1, d.before a0 Z = true) (p0 : Int64) (p1 : Int64)  (h0 : Heap)  :
    MetQ l Z (⟨"java/lang/Long", "compareUnsigned", "(JJ)I"⟩ : MethodName) jdk_35_method_43_code 4 (some .int) [] ({ frames := 1, cells := 0, slots := 0, locals := 15 } : Room) #[(.long p0), (.long p1)] h0 (PQ (.int (f3 p0 p1)) h0) := by
  refine MetQ.body (plainFor_of_name pn_0) fun p e s m below meth c s₁ hx hby hml hown hnm hret hlk hZ e0 X0 => Go.cast (ef_rm3 m p0 p1) ?_
  refine Go.st (T' := s₁) (g' := (mkF m 1 #[.val (.long p0), .second, .val (.long p1), .second] [(.long p0)])) (fun _ hr => XT.lloadN X0.here hx rfl (hb hby d3_0) rfl hr) ?_
  refine Go.st (T' := s₁) (g' := (mkF m 4 #[.val (.long p0), .second, .val (.long p1), .second] [(.long (-9223372036854775808 : Int64)), (.long p0)])) (fun _ hr => X0.ldc2J hx hown (mvT hZ (hw _ (List.mem_of_getElem? (i := 13) rfl))) rfl (hb hby d3_1) hr) ?_
  refine Go.st (T' := s₁) (g' := (mkF m 5 #[.val (.long p0), .second, .val (.long p1), .second] [(.long (p0 + (-9223372036854775808 : Int64)))])) (fun _ hr => XT.ladd X0.here hx rfl (hb hby d3_4) rfl hr) ?_
  refine Go.st (T' := s₁) (g' := (mkF m 6 #[.val (.long p0), .second, .val (.long p1), .second] [(.long p1), (.long (p0 + (-9223372036854775808 : Int64)))])) (fun _ hr => XT.lloadN X0.here hx rfl (hb hby d3_5) rfl hr) ?_
  refine Go.st (T' := s₁) (g' := (mkF m 9 #[.val (.long p0), .second, .val (.long p1), .second] [(.long (-9223372036854775808 : Int64)), (.long p1), (.long (p0 + (-9223372036854775808 : Int64)))])) (fun _ hr => X0.ldc2J hx hown (mvT hZ (hw _ (List.mem_of_getElem? (i := 13) rfl))) rfl (hb hby d3_6) hr) ?_
  refine Go.st (T' := s₁) (g' := (mkF m 10 #[.val (.long p0), .second, .val (.long p1), .second] [(.long (p1 + (-9223372036854775808 : Int64))), (.long (p0 + (-9223372036854775808 : Int64)))])) (fun _ hr => XT.ladd X0.here hx rfl (hb hby d3_9) rfl hr) ?_
  refine Go.callP X0 hx hZ hown (W := 0) (hw _ (List.mem_of_getElem? (i := 14) rfl)) (hw _ (List.mem_of_getElem? (i := 15) rfl)) (hw _ (List.mem_of_getElem? (i := 11) rfl)) (hw _ (List.mem_of_getElem? (i := 16) rfl)) (by decide) e0 (rm4 l Z a0 hw (p0 + (-9223372036854775808 : Int64)) (p1 + (-9223372036854775808 : Int64)) h0) (by decide) (by decide) (by decide) (by decide) (g := (mkF m 10 #[.val (.long p0), .second, .val (.long p1), .second] [(.long (p1 + (-9223372036854775808 : Int64))), (.long (p0 + (-9223372036854775808 : Int64)))])) rfl (by rw [hml]; rfl) (argsL := [(.long (p0 + (-9223372036854775808 : Int64))), (.long (p1 + (-9223372036854775808 : Int64)))]) (rest := []) (lenOf pd_0 rfl) rfl (by show 2 * 0 + _ ≤ _; exact Nat.le_of_eq rfl) (hb hby d3_10) (fun T1 X1 e1 => ?_)
  show Go p.tables e below (Fin s (PQ (.int (f3 p0 p1)) h0) ({ frames := 1, cells := 0, slots := 0, locals := 15 } : Room).cells ({ frames := 1, cells := 0, slots := 0, locals := 15 } : Room).slots) T1 (mkF m 13 #[.val (.long p0), .second, .val (.long p1), .second] [(.int (f4 (p0 + (-9223372036854775808 : Int64)) (p1 + (-9223372036854775808 : Int64))))])
  exact Go.retI X1 hx hlk hret (hb hby d3_13) (Nat.zero_le _) (Nat.zero_le _) ⟨congrArg (fun z => some (Value.int z)) (by simp only [f3]), rfl, e1⟩
theorem pd_1 : parseMethodDescriptor "(JJ)J" = some ⟨[.long, .long], some .long⟩ := by decide +kernel
theorem d2_0 : decode prog_15_method_2_code 0 = .ok (.lload_n 0, 1) := by decide +kernel
theorem d2_1 : decode prog_15_method_2_code 1 = .ok (.lload_n 2, 1) := by decide +kernel
theorem d2_2 : decode prog_15_method_2_code 2 = .ok (.invokestatic 16, 3) := by decide +kernel
theorem d2_5 : decode prog_15_method_2_code 5 = .ok (.ifCond .ge 7, 3) := by decide +kernel
theorem d2_8 : decode prog_15_method_2_code 8 = .ok (.lconst 1, 1) := by decide +kernel
theorem d2_9 : decode prog_15_method_2_code 9 = .ok (.goto 4, 3) := by decide +kernel
theorem d2_12 : decode prog_15_method_2_code 12 = .ok (.lconst 0, 1) := by decide +kernel
theorem d2_13 : decode prog_15_method_2_code 13 = .ok (.lreturn, 1) := by decide +kernel
theorem pn_1 : plainName "com/example/rugged_meter/ruggedmeter/Sum" = true := by first | (simp [plainName, overriddenIn]; done) | decide +kernel
def f2 (p0 : Int64) (p1 : Int64) : Int64 := (if (f3 p0 p1) < (0 : Int32) then (1 : Int64) else (0 : Int64))
theorem ef_rm2 (m : MethodId) (p0 : Int64) (p1 : Int64)  : entryFrame m #[(.long p0), (.long p1)] 4 = mkF m 0 #[.val (.long p0), .second, .val (.long p1), .second] [] := by first | (simp [entryFrame, mkF, argsToLocals, Value.category]; done) | rfl
set_option maxRecDepth 65536 in
set_option maxHeartbeats 40000000 in
theorem rm2 (l : Launch) (Z : State) (a0 : Array Value) (hw : ∀ d ∈ tables_1, d.before a0 Z = true) (p0 : Int64) (p1 : Int64)  (h0 : Heap)  :
    MetQ l Z (⟨"com/example/rugged_meter/ruggedmeter/Sum", "carry", "(JJ)J"⟩ : MethodName) prog_15_method_2_code 4 (some .long) [] ({ frames := 2, cells := 0, slots := 0, locals := 30 } : Room) #[(.long p0), (.long p1)] h0 (PQ (.long (f2 p0 p1)) h0) := by
  refine MetQ.body (plainFor_of_name pn_1) fun p e s m below meth c s₁ hx hby hml hown hnm hret hlk hZ e0 X0 => Go.cast (ef_rm2 m p0 p1) ?_
  refine Go.st (T' := s₁) (g' := (mkF m 1 #[.val (.long p0), .second, .val (.long p1), .second] [(.long p0)])) (fun _ hr => XT.lloadN X0.here hx rfl (hb hby d2_0) rfl hr) ?_
  refine Go.st (T' := s₁) (g' := (mkF m 2 #[.val (.long p0), .second, .val (.long p1), .second] [(.long p1), (.long p0)])) (fun _ hr => XT.lloadN X0.here hx rfl (hb hby d2_1) rfl hr) ?_
  refine Go.callP X0 hx hZ hown (W := 0) (hw _ (List.mem_of_getElem? (i := 9) rfl)) (hw _ (List.mem_of_getElem? (i := 10) rfl)) (hw _ (List.mem_of_getElem? (i := 11) rfl)) (hw _ (List.mem_of_getElem? (i := 12) rfl)) (by decide) e0 (rm3 l Z a0 hw p0 p1 h0) (by decide) (by decide) (by decide) (by decide) (g := (mkF m 2 #[.val (.long p0), .second, .val (.long p1), .second] [(.long p1), (.long p0)])) rfl (by rw [hml]; rfl) (argsL := [(.long p0), (.long p1)]) (rest := []) (lenOf pd_0 rfl) rfl (by show 2 * 0 + _ ≤ _; exact Nat.le_of_eq rfl) (hb hby d2_2) (fun T1 X1 e1 => ?_)
  show Go p.tables e below (Fin s (PQ (.long (f2 p0 p1)) h0) ({ frames := 2, cells := 0, slots := 0, locals := 30 } : Room).cells ({ frames := 2, cells := 0, slots := 0, locals := 30 } : Room).slots) T1 (mkF m 5 #[.val (.long p0), .second, .val (.long p1), .second] [(.int (f3 p0 p1))])
  by_cases c5_2 : (f3 p0 p1) < (0 : Int32)
  · refine Go.st (T' := T1) (g' := (mkF m 8 #[.val (.long p0), .second, .val (.long p1), .second] [])) (fun _ hr => XS.ifNo X1.here hx rfl (hb hby d2_5) rfl (XT.i0_ge_f c5_2) hr) ?_
    refine Go.st (T' := T1) (g' := (mkF m 9 #[.val (.long p0), .second, .val (.long p1), .second] [(.long (1 : Int64))])) (fun _ hr => XT.lconstV X1.here hx rfl (1 : Int64) (hb hby d2_8) (by decide) hr) ?_
    refine Go.st (T' := T1) (g' := (mkF m 13 #[.val (.long p0), .second, .val (.long p1), .second] [(.long (1 : Int64))])) (fun _ hr => XS.goto X1.here hx rfl (pc0 := 9) (pc' := 13) rfl (hb hby d2_9) (by decide) (by decide) hr) ?_
    exact Go.retJ X1 hx hlk hret (hb hby d2_13) (Nat.zero_le _) (Nat.zero_le _) ⟨congrArg (fun z => some (Value.long z)) (by simp only [f2, if_pos c5_2]), rfl, e1⟩
  · refine Go.st (T' := T1) (g' := (mkF m 12 #[.val (.long p0), .second, .val (.long p1), .second] [])) (fun _ hr => XS.ifYes X1.here hx rfl (pc0 := 5) (pc' := 12) rfl (hb hby d2_5) rfl (XT.i0_ge_t c5_2) (by decide) (by decide) hr) ?_
    refine Go.st (T' := T1) (g' := (mkF m 13 #[.val (.long p0), .second, .val (.long p1), .second] [(.long (0 : Int64))])) (fun _ hr => XT.lconstV X1.here hx rfl (0 : Int64) (hb hby d2_12) (by decide) hr) ?_
    exact Go.retJ X1 hx hlk hret (hb hby d2_13) (Nat.zero_le _) (Nat.zero_le _) ⟨congrArg (fun z => some (Value.long z)) (by simp only [f2, if_neg c5_2]), rfl, e1⟩
theorem d1_0 : decode method_2_code 0 = .ok (.ldc2_w 7, 3) := by decide +kernel
theorem d1_3 : decode method_2_code 3 = .ok (.lstore 4, 2) := by decide +kernel
theorem d1_5 : decode method_2_code 5 = .ok (.lload_n 0, 1) := by decide +kernel
theorem d1_6 : decode method_2_code 6 = .ok (.lload 4, 2) := by decide +kernel
theorem d1_8 : decode method_2_code 8 = .ok (.land, 1) := by decide +kernel
theorem d1_9 : decode method_2_code 9 = .ok (.lload_n 2, 1) := by decide +kernel
theorem d1_10 : decode method_2_code 10 = .ok (.lload 4, 2) := by decide +kernel
theorem d1_12 : decode method_2_code 12 = .ok (.land, 1) := by decide +kernel
theorem d1_13 : decode method_2_code 13 = .ok (.ladd, 1) := by decide +kernel
theorem d1_14 : decode method_2_code 14 = .ok (.lstore 6, 2) := by decide +kernel
theorem d1_16 : decode method_2_code 16 = .ok (.lload_n 0, 1) := by decide +kernel
theorem d1_17 : decode method_2_code 17 = .ok (.bipush 32, 2) := by decide +kernel
theorem d1_19 : decode method_2_code 19 = .ok (.lushr, 1) := by decide +kernel
theorem d1_20 : decode method_2_code 20 = .ok (.lload_n 2, 1) := by decide +kernel
theorem d1_21 : decode method_2_code 21 = .ok (.bipush 32, 2) := by decide +kernel
theorem d1_23 : decode method_2_code 23 = .ok (.lushr, 1) := by decide +kernel
theorem d1_24 : decode method_2_code 24 = .ok (.ladd, 1) := by decide +kernel
theorem d1_25 : decode method_2_code 25 = .ok (.lload 6, 2) := by decide +kernel
theorem d1_27 : decode method_2_code 27 = .ok (.bipush 32, 2) := by decide +kernel
theorem d1_29 : decode method_2_code 29 = .ok (.lushr, 1) := by decide +kernel
theorem d1_30 : decode method_2_code 30 = .ok (.ladd, 1) := by decide +kernel
theorem d1_31 : decode method_2_code 31 = .ok (.lstore 8, 2) := by decide +kernel
theorem d1_33 : decode method_2_code 33 = .ok (.lload 8, 2) := by decide +kernel
theorem d1_35 : decode method_2_code 35 = .ok (.bipush 32, 2) := by decide +kernel
theorem d1_37 : decode method_2_code 37 = .ok (.lushr, 1) := by decide +kernel
theorem d1_38 : decode method_2_code 38 = .ok (.lreturn, 1) := by decide +kernel
theorem pn_2 : plainName "com/example/rugged_meter/ruggedmeter/SumCarryPinLaw" = true := by first | (simp [plainName, overriddenIn]; done) | decide +kernel
def f1 (p0 : Int64) (p1 : Int64) : Int64 := (XT.ushrL (((XT.ushrL p0 (32 : Int32)) + (XT.ushrL p1 (32 : Int32))) + (XT.ushrL ((p0 &&& (4294967295 : Int64)) + (p1 &&& (4294967295 : Int64))) (32 : Int32))) (32 : Int32))
theorem ef_rm1 (m : MethodId) (p0 : Int64) (p1 : Int64)  : entryFrame m #[(.long p0), (.long p1)] 10 = mkF m 0 #[.val (.long p0), .second, .val (.long p1), .second, .unset, .unset, .unset, .unset, .unset, .unset] [] := by first | (simp [entryFrame, mkF, argsToLocals, Value.category]; done) | rfl
set_option maxRecDepth 65536 in
set_option maxHeartbeats 40000000 in
theorem rm1 (l : Launch) (Z : State) (a0 : Array Value) (hw : ∀ d ∈ tables_1, d.before a0 Z = true) (p0 : Int64) (p1 : Int64)  (h0 : Heap)  :
    MetQ l Z (⟨"com/example/rugged_meter/ruggedmeter/SumCarryPinLaw", "expectedCarry", "(JJ)J"⟩ : MethodName) method_2_code 10 (some .long) [] ({ frames := 0, cells := 0, slots := 0, locals := 0 } : Room) #[(.long p0), (.long p1)] h0 (PQ (.long (f1 p0 p1)) h0) := by
  refine MetQ.body (plainFor_of_name pn_2) fun p e s m below meth c s₁ hx hby hml hown hnm hret hlk hZ e0 X0 => Go.cast (ef_rm1 m p0 p1) ?_
  refine Go.st (T' := s₁) (g' := (mkF m 3 #[.val (.long p0), .second, .val (.long p1), .second, .unset, .unset, .unset, .unset, .unset, .unset] [(.long (4294967295 : Int64))])) (fun _ hr => X0.ldc2J hx hown (mvT hZ (hw _ (List.mem_of_getElem? (i := 4) rfl))) rfl (hb hby d1_0) hr) ?_
  refine Go.st (T' := s₁) (g' := (mkF m 5 #[.val (.long p0), .second, .val (.long p1), .second, .val (.long (4294967295 : Int64)), .second, .unset, .unset, .unset, .unset] [])) (fun _ hr => XT.lstore X0.here hx rfl (hb hby d1_3) rfl (l' := #[.val (.long p0), .second, .val (.long p1), .second, .val (.long (4294967295 : Int64)), .second, .unset, .unset, .unset, .unset]) rfl hr) ?_
  refine Go.st (T' := s₁) (g' := (mkF m 6 #[.val (.long p0), .second, .val (.long p1), .second, .val (.long (4294967295 : Int64)), .second, .unset, .unset, .unset, .unset] [(.long p0)])) (fun _ hr => XT.lloadN X0.here hx rfl (hb hby d1_5) rfl hr) ?_
  refine Go.st (T' := s₁) (g' := (mkF m 8 #[.val (.long p0), .second, .val (.long p1), .second, .val (.long (4294967295 : Int64)), .second, .unset, .unset, .unset, .unset] [(.long (4294967295 : Int64)), (.long p0)])) (fun _ hr => XT.lload X0.here hx rfl (hb hby d1_6) rfl hr) ?_
  refine Go.st (T' := s₁) (g' := (mkF m 9 #[.val (.long p0), .second, .val (.long p1), .second, .val (.long (4294967295 : Int64)), .second, .unset, .unset, .unset, .unset] [(.long (p0 &&& (4294967295 : Int64)))])) (fun _ hr => XT.land X0.here hx rfl (hb hby d1_8) rfl hr) ?_
  refine Go.st (T' := s₁) (g' := (mkF m 10 #[.val (.long p0), .second, .val (.long p1), .second, .val (.long (4294967295 : Int64)), .second, .unset, .unset, .unset, .unset] [(.long p1), (.long (p0 &&& (4294967295 : Int64)))])) (fun _ hr => XT.lloadN X0.here hx rfl (hb hby d1_9) rfl hr) ?_
  refine Go.st (T' := s₁) (g' := (mkF m 12 #[.val (.long p0), .second, .val (.long p1), .second, .val (.long (4294967295 : Int64)), .second, .unset, .unset, .unset, .unset] [(.long (4294967295 : Int64)), (.long p1), (.long (p0 &&& (4294967295 : Int64)))])) (fun _ hr => XT.lload X0.here hx rfl (hb hby d1_10) rfl hr) ?_
  refine Go.st (T' := s₁) (g' := (mkF m 13 #[.val (.long p0), .second, .val (.long p1), .second, .val (.long (4294967295 : Int64)), .second, .unset, .unset, .unset, .unset] [(.long (p1 &&& (4294967295 : Int64))), (.long (p0 &&& (4294967295 : Int64)))])) (fun _ hr => XT.land X0.here hx rfl (hb hby d1_12) rfl hr) ?_
  refine Go.st (T' := s₁) (g' := (mkF m 14 #[.val (.long p0), .second, .val (.long p1), .second, .val (.long (4294967295 : Int64)), .second, .unset, .unset, .unset, .unset] [(.long ((p0 &&& (4294967295 : Int64)) + (p1 &&& (4294967295 : Int64))))])) (fun _ hr => XT.ladd X0.here hx rfl (hb hby d1_13) rfl hr) ?_
  refine Go.st (T' := s₁) (g' := (mkF m 16 #[.val (.long p0), .second, .val (.long p1), .second, .val (.long (4294967295 : Int64)), .second, .val (.long ((p0 &&& (4294967295 : Int64)) + (p1 &&& (4294967295 : Int64)))), .second, .unset, .unset] [])) (fun _ hr => XT.lstore X0.here hx rfl (hb hby d1_14) rfl (l' := #[.val (.long p0), .second, .val (.long p1), .second, .val (.long (4294967295 : Int64)), .second, .val (.long ((p0 &&& (4294967295 : Int64)) + (p1 &&& (4294967295 : Int64)))), .second, .unset, .unset]) rfl hr) ?_
  refine Go.st (T' := s₁) (g' := (mkF m 17 #[.val (.long p0), .second, .val (.long p1), .second, .val (.long (4294967295 : Int64)), .second, .val (.long ((p0 &&& (4294967295 : Int64)) + (p1 &&& (4294967295 : Int64)))), .second, .unset, .unset] [(.long p0)])) (fun _ hr => XT.lloadN X0.here hx rfl (hb hby d1_16) rfl hr) ?_
  refine Go.st (T' := s₁) (g' := (mkF m 19 #[.val (.long p0), .second, .val (.long p1), .second, .val (.long (4294967295 : Int64)), .second, .val (.long ((p0 &&& (4294967295 : Int64)) + (p1 &&& (4294967295 : Int64)))), .second, .unset, .unset] [(.int (32 : Int32)), (.long p0)])) (fun _ hr => XT.bipushV X0.here hx rfl (32 : Int32) (hb hby d1_17) (by decide) hr) ?_
  refine Go.st (T' := s₁) (g' := (mkF m 20 #[.val (.long p0), .second, .val (.long p1), .second, .val (.long (4294967295 : Int64)), .second, .val (.long ((p0 &&& (4294967295 : Int64)) + (p1 &&& (4294967295 : Int64)))), .second, .unset, .unset] [(.long (XT.ushrL p0 (32 : Int32)))])) (fun _ hr => XT.lushr X0.here hx rfl (hb hby d1_19) rfl hr) ?_
  refine Go.st (T' := s₁) (g' := (mkF m 21 #[.val (.long p0), .second, .val (.long p1), .second, .val (.long (4294967295 : Int64)), .second, .val (.long ((p0 &&& (4294967295 : Int64)) + (p1 &&& (4294967295 : Int64)))), .second, .unset, .unset] [(.long p1), (.long (XT.ushrL p0 (32 : Int32)))])) (fun _ hr => XT.lloadN X0.here hx rfl (hb hby d1_20) rfl hr) ?_
  refine Go.st (T' := s₁) (g' := (mkF m 23 #[.val (.long p0), .second, .val (.long p1), .second, .val (.long (4294967295 : Int64)), .second, .val (.long ((p0 &&& (4294967295 : Int64)) + (p1 &&& (4294967295 : Int64)))), .second, .unset, .unset] [(.int (32 : Int32)), (.long p1), (.long (XT.ushrL p0 (32 : Int32)))])) (fun _ hr => XT.bipushV X0.here hx rfl (32 : Int32) (hb hby d1_21) (by decide) hr) ?_
  refine Go.st (T' := s₁) (g' := (mkF m 24 #[.val (.long p0), .second, .val (.long p1), .second, .val (.long (4294967295 : Int64)), .second, .val (.long ((p0 &&& (4294967295 : Int64)) + (p1 &&& (4294967295 : Int64)))), .second, .unset, .unset] [(.long (XT.ushrL p1 (32 : Int32))), (.long (XT.ushrL p0 (32 : Int32)))])) (fun _ hr => XT.lushr X0.here hx rfl (hb hby d1_23) rfl hr) ?_
  refine Go.st (T' := s₁) (g' := (mkF m 25 #[.val (.long p0), .second, .val (.long p1), .second, .val (.long (4294967295 : Int64)), .second, .val (.long ((p0 &&& (4294967295 : Int64)) + (p1 &&& (4294967295 : Int64)))), .second, .unset, .unset] [(.long ((XT.ushrL p0 (32 : Int32)) + (XT.ushrL p1 (32 : Int32))))])) (fun _ hr => XT.ladd X0.here hx rfl (hb hby d1_24) rfl hr) ?_
  refine Go.st (T' := s₁) (g' := (mkF m 27 #[.val (.long p0), .second, .val (.long p1), .second, .val (.long (4294967295 : Int64)), .second, .val (.long ((p0 &&& (4294967295 : Int64)) + (p1 &&& (4294967295 : Int64)))), .second, .unset, .unset] [(.long ((p0 &&& (4294967295 : Int64)) + (p1 &&& (4294967295 : Int64)))), (.long ((XT.ushrL p0 (32 : Int32)) + (XT.ushrL p1 (32 : Int32))))])) (fun _ hr => XT.lload X0.here hx rfl (hb hby d1_25) rfl hr) ?_
  refine Go.st (T' := s₁) (g' := (mkF m 29 #[.val (.long p0), .second, .val (.long p1), .second, .val (.long (4294967295 : Int64)), .second, .val (.long ((p0 &&& (4294967295 : Int64)) + (p1 &&& (4294967295 : Int64)))), .second, .unset, .unset] [(.int (32 : Int32)), (.long ((p0 &&& (4294967295 : Int64)) + (p1 &&& (4294967295 : Int64)))), (.long ((XT.ushrL p0 (32 : Int32)) + (XT.ushrL p1 (32 : Int32))))])) (fun _ hr => XT.bipushV X0.here hx rfl (32 : Int32) (hb hby d1_27) (by decide) hr) ?_
  refine Go.st (T' := s₁) (g' := (mkF m 30 #[.val (.long p0), .second, .val (.long p1), .second, .val (.long (4294967295 : Int64)), .second, .val (.long ((p0 &&& (4294967295 : Int64)) + (p1 &&& (4294967295 : Int64)))), .second, .unset, .unset] [(.long (XT.ushrL ((p0 &&& (4294967295 : Int64)) + (p1 &&& (4294967295 : Int64))) (32 : Int32))), (.long ((XT.ushrL p0 (32 : Int32)) + (XT.ushrL p1 (32 : Int32))))])) (fun _ hr => XT.lushr X0.here hx rfl (hb hby d1_29) rfl hr) ?_
  refine Go.st (T' := s₁) (g' := (mkF m 31 #[.val (.long p0), .second, .val (.long p1), .second, .val (.long (4294967295 : Int64)), .second, .val (.long ((p0 &&& (4294967295 : Int64)) + (p1 &&& (4294967295 : Int64)))), .second, .unset, .unset] [(.long (((XT.ushrL p0 (32 : Int32)) + (XT.ushrL p1 (32 : Int32))) + (XT.ushrL ((p0 &&& (4294967295 : Int64)) + (p1 &&& (4294967295 : Int64))) (32 : Int32))))])) (fun _ hr => XT.ladd X0.here hx rfl (hb hby d1_30) rfl hr) ?_
  refine Go.st (T' := s₁) (g' := (mkF m 33 #[.val (.long p0), .second, .val (.long p1), .second, .val (.long (4294967295 : Int64)), .second, .val (.long ((p0 &&& (4294967295 : Int64)) + (p1 &&& (4294967295 : Int64)))), .second, .val (.long (((XT.ushrL p0 (32 : Int32)) + (XT.ushrL p1 (32 : Int32))) + (XT.ushrL ((p0 &&& (4294967295 : Int64)) + (p1 &&& (4294967295 : Int64))) (32 : Int32)))), .second] [])) (fun _ hr => XT.lstore X0.here hx rfl (hb hby d1_31) rfl (l' := #[.val (.long p0), .second, .val (.long p1), .second, .val (.long (4294967295 : Int64)), .second, .val (.long ((p0 &&& (4294967295 : Int64)) + (p1 &&& (4294967295 : Int64)))), .second, .val (.long (((XT.ushrL p0 (32 : Int32)) + (XT.ushrL p1 (32 : Int32))) + (XT.ushrL ((p0 &&& (4294967295 : Int64)) + (p1 &&& (4294967295 : Int64))) (32 : Int32)))), .second]) rfl hr) ?_
  refine Go.st (T' := s₁) (g' := (mkF m 35 #[.val (.long p0), .second, .val (.long p1), .second, .val (.long (4294967295 : Int64)), .second, .val (.long ((p0 &&& (4294967295 : Int64)) + (p1 &&& (4294967295 : Int64)))), .second, .val (.long (((XT.ushrL p0 (32 : Int32)) + (XT.ushrL p1 (32 : Int32))) + (XT.ushrL ((p0 &&& (4294967295 : Int64)) + (p1 &&& (4294967295 : Int64))) (32 : Int32)))), .second] [(.long (((XT.ushrL p0 (32 : Int32)) + (XT.ushrL p1 (32 : Int32))) + (XT.ushrL ((p0 &&& (4294967295 : Int64)) + (p1 &&& (4294967295 : Int64))) (32 : Int32))))])) (fun _ hr => XT.lload X0.here hx rfl (hb hby d1_33) rfl hr) ?_
  refine Go.st (T' := s₁) (g' := (mkF m 37 #[.val (.long p0), .second, .val (.long p1), .second, .val (.long (4294967295 : Int64)), .second, .val (.long ((p0 &&& (4294967295 : Int64)) + (p1 &&& (4294967295 : Int64)))), .second, .val (.long (((XT.ushrL p0 (32 : Int32)) + (XT.ushrL p1 (32 : Int32))) + (XT.ushrL ((p0 &&& (4294967295 : Int64)) + (p1 &&& (4294967295 : Int64))) (32 : Int32)))), .second] [(.int (32 : Int32)), (.long (((XT.ushrL p0 (32 : Int32)) + (XT.ushrL p1 (32 : Int32))) + (XT.ushrL ((p0 &&& (4294967295 : Int64)) + (p1 &&& (4294967295 : Int64))) (32 : Int32))))])) (fun _ hr => XT.bipushV X0.here hx rfl (32 : Int32) (hb hby d1_35) (by decide) hr) ?_
  refine Go.st (T' := s₁) (g' := (mkF m 38 #[.val (.long p0), .second, .val (.long p1), .second, .val (.long (4294967295 : Int64)), .second, .val (.long ((p0 &&& (4294967295 : Int64)) + (p1 &&& (4294967295 : Int64)))), .second, .val (.long (((XT.ushrL p0 (32 : Int32)) + (XT.ushrL p1 (32 : Int32))) + (XT.ushrL ((p0 &&& (4294967295 : Int64)) + (p1 &&& (4294967295 : Int64))) (32 : Int32)))), .second] [(.long (XT.ushrL (((XT.ushrL p0 (32 : Int32)) + (XT.ushrL p1 (32 : Int32))) + (XT.ushrL ((p0 &&& (4294967295 : Int64)) + (p1 &&& (4294967295 : Int64))) (32 : Int32))) (32 : Int32)))])) (fun _ hr => XT.lushr X0.here hx rfl (hb hby d1_37) rfl hr) ?_
  exact Go.retJ X0 hx hlk hret (hb hby d1_38) (Nat.zero_le _) (Nat.zero_le _) ⟨congrArg (fun z => some (Value.long z)) (by simp only [f1]), rfl, e0⟩
def own_N (x : Int64) : Nat := x.toBitVec.toNat
theorem own_N_lt (x : Int64) : own_N x < 18446744073709551616 := x.toBitVec.isLt
theorem own_N_add (x y : Int64) : own_N (x + y) = (own_N x + own_N y) % 18446744073709551616 := by
  simp only [own_N, Int64.toBitVec_add, BitVec.toNat_add]
theorem own_N_and (x : Int64) : own_N (x &&& (4294967295 : Int64)) = own_N x % 4294967296 := by
  simp only [own_N, Int64.toBitVec_and, BitVec.toNat_and]
  have h : (4294967295 : Int64).toBitVec.toNat = 2 ^ 32 - 1 := by decide
  rw [h, Nat.and_two_pow_sub_one_eq_mod]
theorem own_N_shr (x : Int64) : own_N (XT.ushrL x (32 : Int32)) = own_N x / 4294967296 := by
  have h : ((32 : Int32).toInt64.toUInt64 &&& Int64.toUInt64 63) = (32 : UInt64) := by decide
  simp only [own_N, XT.ushrL, h]
  show (x.toUInt64 >>> (32 : UInt64)).toBitVec.toNat = _
  have e : (x.toUInt64 >>> (32 : UInt64)).toBitVec.toNat = (x.toUInt64 >>> (32 : UInt64)).toNat := rfl
  rw [e, UInt64.toNat_shiftRight]
  have e2 : x.toUInt64.toNat = x.toBitVec.toNat := rfl
  have e3 : (32 : UInt64).toNat % 64 = 32 := by decide
  rw [e2, e3, Nat.shiftRight_eq_div_pow]
theorem own_toInt (x : Int64) : x.toInt = if own_N x < 9223372036854775808 then (own_N x : Int) else (own_N x : Int) - 18446744073709551616 := by
  have h : x.toInt = x.toBitVec.toInt := rfl
  rw [h, BitVec.toInt_eq_toNat_cond]
  have := x.toBitVec.isLt
  have e : own_N x = x.toBitVec.toNat := rfl
  by_cases c : own_N x < 9223372036854775808
  · rw [if_pos c, if_pos (by omega)]; rfl
  · rw [if_neg c, if_neg (by omega)]; rfl
theorem own_N_inj {x y : Int64} (h : own_N x = own_N y) : x = y := by
  apply Int64.toBitVec_inj.mp
  exact BitVec.eq_of_toNat_eq h
theorem own_ult (x y : Int64) : (f3 x y < (0 : Int32)) ↔ own_N x < own_N y := by
  have hm : own_N (-9223372036854775808 : Int64) = 9223372036854775808 := by decide
  have hx := own_N_lt x
  have hy := own_N_lt y
  have ax := own_N_add x (-9223372036854775808 : Int64)
  have ay := own_N_add y (-9223372036854775808 : Int64)
  rw [hm] at ax ay
  have tx := own_toInt (x + (-9223372036854775808 : Int64))
  have ty := own_toInt (y + (-9223372036854775808 : Int64))
  unfold f3 f4
  have key : ((x + (-9223372036854775808 : Int64)) < (y + (-9223372036854775808 : Int64))) ↔ own_N x < own_N y := by
    rw [Int64.lt_iff_toInt_lt, tx, ty, ax, ay]
    split <;> split <;> omega
  by_cases c : own_N x < own_N y
  · rw [if_pos (key.mpr c)]; exact ⟨fun _ => c, fun _ => by decide⟩
  · rw [if_neg (fun q => c (key.mp q))]
    split <;> exact ⟨fun q => absurd q (by decide), fun q => absurd q c⟩
theorem own_f1 (a b : Int64) : own_N (f1 a b) = (own_N a + own_N b) / 18446744073709551616 := by
  have ha := own_N_lt a
  have hb := own_N_lt b
  simp only [f1, own_N_shr, own_N_add, own_N_and]
  omega
theorem own_law (a b : Int64) : f2 (a + b) a = f1 a b ∧ f2 (a + b) b = f1 a b := by
  have ha := own_N_lt a
  have hb := own_N_lt b
  have e := own_f1 a b
  have s := own_N_add a b
  have n1 : own_N (1 : Int64) = 1 := by decide
  have n0 : own_N (0 : Int64) = 0 := by decide
  constructor
  · apply own_N_inj
    rw [e]
    unfold f2
    by_cases c : own_N (a + b) < own_N a
    · rw [if_pos ((own_ult _ _).mpr c), n1]; omega
    · rw [if_neg (fun q => c ((own_ult _ _).mp q)), n0]; omega
  · apply own_N_inj
    rw [e]
    unfold f2
    by_cases c : own_N (a + b) < own_N b
    · rw [if_pos ((own_ult _ _).mpr c), n1]; omega
    · rw [if_neg (fun q => c ((own_ult _ _).mp q)), n0]; omega
theorem pd_2 : parseMethodDescriptor "(JJ)Z" = some ⟨[.long, .long], some .boolean⟩ := by decide +kernel
theorem ef_rm0 (m : MethodId) (p0 : Int64) (p1 : Int64)  : entryFrame m #[(.long p0), (.long p1)] maxLocals = mkF m 0 #[.val (.long p0), .second, .val (.long p1), .second, .unset, .unset, .unset, .unset, .unset, .unset, .unset, .unset] [] := by first | (simp [entryFrame, mkF, argsToLocals, Value.category, maxLocals]; done) | rfl
set_option maxRecDepth 65536 in
set_option maxHeartbeats 40000000 in
theorem rm0 (l : Launch) (Z : State) (a0 : Array Value) (hw : ∀ d ∈ tables_1, d.before a0 Z = true) (ws : List Jvm.Cond) (p0 : Int64) (p1 : Int64)  (h0 : Heap)  :
    MetQ l Z x code maxLocals ret ws room_1 #[(.long p0), (.long p1)] h0 (fun v h L => v = some (.int 1) ∧ Fr h0.size L) := by
  refine MetQ.body (plainFor_of_name pn_2) fun p e s m below meth c s₁ hx hby hml hown hnm hret hlk hZ e0 X0 => Go.cast (ef_rm0 m p0 p1) ?_
  have hml : c.maxLocals = 12 := hml
  have hown : s.vm.findClass "com/example/rugged_meter/ruggedmeter/SumCarryPinLaw" = some m.cls := hown
  have hret : meth.sig.returnType = some .boolean := hret
  refine Go.st (T' := s₁) (g' := (mkF m 1 #[.val (.long p0), .second, .val (.long p1), .second, .unset, .unset, .unset, .unset, .unset, .unset, .unset, .unset] [(.long p0)])) (fun _ hr => XT.lloadN X0.here hx rfl (hb hby at_0) rfl hr) ?_
  refine Go.st (T' := s₁) (g' := (mkF m 2 #[.val (.long p0), .second, .val (.long p1), .second, .unset, .unset, .unset, .unset, .unset, .unset, .unset, .unset] [(.long p1), (.long p0)])) (fun _ hr => XT.lloadN X0.here hx rfl (hb hby at_1) rfl hr) ?_
  refine Go.st (T' := s₁) (g' := (mkF m 3 #[.val (.long p0), .second, .val (.long p1), .second, .unset, .unset, .unset, .unset, .unset, .unset, .unset, .unset] [(.long (p0 + p1))])) (fun _ hr => XT.ladd X0.here hx rfl (hb hby at_2) rfl hr) ?_
  refine Go.st (T' := s₁) (g' := (mkF m 5 #[.val (.long p0), .second, .val (.long p1), .second, .val (.long (p0 + p1)), .second, .unset, .unset, .unset, .unset, .unset, .unset] [])) (fun _ hr => XT.lstore X0.here hx rfl (hb hby at_3) rfl (l' := #[.val (.long p0), .second, .val (.long p1), .second, .val (.long (p0 + p1)), .second, .unset, .unset, .unset, .unset, .unset, .unset]) rfl hr) ?_
  refine Go.st (T' := s₁) (g' := (mkF m 6 #[.val (.long p0), .second, .val (.long p1), .second, .val (.long (p0 + p1)), .second, .unset, .unset, .unset, .unset, .unset, .unset] [(.long p0)])) (fun _ hr => XT.lloadN X0.here hx rfl (hb hby at_5) rfl hr) ?_
  refine Go.st (T' := s₁) (g' := (mkF m 7 #[.val (.long p0), .second, .val (.long p1), .second, .val (.long (p0 + p1)), .second, .unset, .unset, .unset, .unset, .unset, .unset] [(.long p1), (.long p0)])) (fun _ hr => XT.lloadN X0.here hx rfl (hb hby at_6) rfl hr) ?_
  refine Go.callP X0 hx hZ hown (W := 0) (hw _ (List.mem_of_getElem? (i := 0) rfl)) (hw _ (List.mem_of_getElem? (i := 1) rfl)) (hw _ (List.mem_of_getElem? (i := 2) rfl)) (hw _ (List.mem_of_getElem? (i := 3) rfl)) (by decide) e0 (rm1 l Z a0 hw p0 p1 h0) (by decide) (by decide) (by decide) (by decide) (g := (mkF m 7 #[.val (.long p0), .second, .val (.long p1), .second, .val (.long (p0 + p1)), .second, .unset, .unset, .unset, .unset, .unset, .unset] [(.long p1), (.long p0)])) rfl (by rw [hml]; rfl) (argsL := [(.long p0), (.long p1)]) (rest := []) (lenOf pd_1 rfl) rfl (by show 2 * 0 + _ ≤ _; exact Nat.le_of_eq rfl) (hb hby at_7) (fun T1 X1 e1 => ?_)
  show Go p.tables e below (Fin s (fun v h L => v = some (.int 1) ∧ Fr h0.size L) room_1.cells room_1.slots) T1 (mkF m 10 #[.val (.long p0), .second, .val (.long p1), .second, .val (.long (p0 + p1)), .second, .unset, .unset, .unset, .unset, .unset, .unset] [(.long (f1 p0 p1))])
  refine Go.st (T' := T1) (g' := (mkF m 12 #[.val (.long p0), .second, .val (.long p1), .second, .val (.long (p0 + p1)), .second, .val (.long (f1 p0 p1)), .second, .unset, .unset, .unset, .unset] [])) (fun _ hr => XT.lstore X1.here hx rfl (hb hby at_10) rfl (l' := #[.val (.long p0), .second, .val (.long p1), .second, .val (.long (p0 + p1)), .second, .val (.long (f1 p0 p1)), .second, .unset, .unset, .unset, .unset]) rfl hr) ?_
  refine Go.st (T' := T1) (g' := (mkF m 14 #[.val (.long p0), .second, .val (.long p1), .second, .val (.long (p0 + p1)), .second, .val (.long (f1 p0 p1)), .second, .unset, .unset, .unset, .unset] [(.long (p0 + p1))])) (fun _ hr => XT.lload X1.here hx rfl (hb hby at_12) rfl hr) ?_
  refine Go.st (T' := T1) (g' := (mkF m 15 #[.val (.long p0), .second, .val (.long p1), .second, .val (.long (p0 + p1)), .second, .val (.long (f1 p0 p1)), .second, .unset, .unset, .unset, .unset] [(.long p0), (.long (p0 + p1))])) (fun _ hr => XT.lloadN X1.here hx rfl (hb hby at_14) rfl hr) ?_
  refine Go.callP X1 hx hZ hown (W := 0) (hw _ (List.mem_of_getElem? (i := 5) rfl)) (hw _ (List.mem_of_getElem? (i := 6) rfl)) (hw _ (List.mem_of_getElem? (i := 7) rfl)) (hw _ (List.mem_of_getElem? (i := 8) rfl)) (by decide) e1 (rm2 l Z a0 hw (p0 + p1) p0 h0) (by decide) (by decide) (by decide) (by decide) (g := (mkF m 15 #[.val (.long p0), .second, .val (.long p1), .second, .val (.long (p0 + p1)), .second, .val (.long (f1 p0 p1)), .second, .unset, .unset, .unset, .unset] [(.long p0), (.long (p0 + p1))])) rfl (by rw [hml]; rfl) (argsL := [(.long (p0 + p1)), (.long p0)]) (rest := []) (lenOf pd_1 rfl) rfl (by show 2 * 0 + _ ≤ _; exact Nat.le_of_eq rfl) (hb hby at_15) (fun T2 X2 e2 => ?_)
  show Go p.tables e below (Fin s (fun v h L => v = some (.int 1) ∧ Fr h0.size L) room_1.cells room_1.slots) T2 (mkF m 18 #[.val (.long p0), .second, .val (.long p1), .second, .val (.long (p0 + p1)), .second, .val (.long (f1 p0 p1)), .second, .unset, .unset, .unset, .unset] [(.long (f2 (p0 + p1) p0))])
  refine Go.st (T' := T2) (g' := (mkF m 20 #[.val (.long p0), .second, .val (.long p1), .second, .val (.long (p0 + p1)), .second, .val (.long (f1 p0 p1)), .second, .val (.long (f2 (p0 + p1) p0)), .second, .unset, .unset] [])) (fun _ hr => XT.lstore X2.here hx rfl (hb hby at_18) rfl (l' := #[.val (.long p0), .second, .val (.long p1), .second, .val (.long (p0 + p1)), .second, .val (.long (f1 p0 p1)), .second, .val (.long (f2 (p0 + p1) p0)), .second, .unset, .unset]) rfl hr) ?_
  refine Go.st (T' := T2) (g' := (mkF m 22 #[.val (.long p0), .second, .val (.long p1), .second, .val (.long (p0 + p1)), .second, .val (.long (f1 p0 p1)), .second, .val (.long (f2 (p0 + p1) p0)), .second, .unset, .unset] [(.long (p0 + p1))])) (fun _ hr => XT.lload X2.here hx rfl (hb hby at_20) rfl hr) ?_
  refine Go.st (T' := T2) (g' := (mkF m 23 #[.val (.long p0), .second, .val (.long p1), .second, .val (.long (p0 + p1)), .second, .val (.long (f1 p0 p1)), .second, .val (.long (f2 (p0 + p1) p0)), .second, .unset, .unset] [(.long p1), (.long (p0 + p1))])) (fun _ hr => XT.lloadN X2.here hx rfl (hb hby at_22) rfl hr) ?_
  refine Go.callP X2 hx hZ hown (W := 0) (hw _ (List.mem_of_getElem? (i := 5) rfl)) (hw _ (List.mem_of_getElem? (i := 6) rfl)) (hw _ (List.mem_of_getElem? (i := 7) rfl)) (hw _ (List.mem_of_getElem? (i := 8) rfl)) (by decide) e2 (rm2 l Z a0 hw (p0 + p1) p1 h0) (by decide) (by decide) (by decide) (by decide) (g := (mkF m 23 #[.val (.long p0), .second, .val (.long p1), .second, .val (.long (p0 + p1)), .second, .val (.long (f1 p0 p1)), .second, .val (.long (f2 (p0 + p1) p0)), .second, .unset, .unset] [(.long p1), (.long (p0 + p1))])) rfl (by rw [hml]; rfl) (argsL := [(.long (p0 + p1)), (.long p1)]) (rest := []) (lenOf pd_1 rfl) rfl (by show 2 * 0 + _ ≤ _; exact Nat.le_of_eq rfl) (hb hby at_23) (fun T3 X3 e3 => ?_)
  show Go p.tables e below (Fin s (fun v h L => v = some (.int 1) ∧ Fr h0.size L) room_1.cells room_1.slots) T3 (mkF m 26 #[.val (.long p0), .second, .val (.long p1), .second, .val (.long (p0 + p1)), .second, .val (.long (f1 p0 p1)), .second, .val (.long (f2 (p0 + p1) p0)), .second, .unset, .unset] [(.long (f2 (p0 + p1) p1))])
  refine Go.st (T' := T3) (g' := (mkF m 28 #[.val (.long p0), .second, .val (.long p1), .second, .val (.long (p0 + p1)), .second, .val (.long (f1 p0 p1)), .second, .val (.long (f2 (p0 + p1) p0)), .second, .val (.long (f2 (p0 + p1) p1)), .second] [])) (fun _ hr => XT.lstore X3.here hx rfl (hb hby at_26) rfl (l' := #[.val (.long p0), .second, .val (.long p1), .second, .val (.long (p0 + p1)), .second, .val (.long (f1 p0 p1)), .second, .val (.long (f2 (p0 + p1) p0)), .second, .val (.long (f2 (p0 + p1) p1)), .second]) rfl hr) ?_
  refine Go.st (T' := T3) (g' := (mkF m 30 #[.val (.long p0), .second, .val (.long p1), .second, .val (.long (p0 + p1)), .second, .val (.long (f1 p0 p1)), .second, .val (.long (f2 (p0 + p1) p0)), .second, .val (.long (f2 (p0 + p1) p1)), .second] [(.long (f2 (p0 + p1) p0))])) (fun _ hr => XT.lload X3.here hx rfl (hb hby at_28) rfl hr) ?_
  refine Go.st (T' := T3) (g' := (mkF m 32 #[.val (.long p0), .second, .val (.long p1), .second, .val (.long (p0 + p1)), .second, .val (.long (f1 p0 p1)), .second, .val (.long (f2 (p0 + p1) p0)), .second, .val (.long (f2 (p0 + p1) p1)), .second] [(.long (f1 p0 p1)), (.long (f2 (p0 + p1) p0))])) (fun _ hr => XT.lload X3.here hx rfl (hb hby at_30) rfl hr) ?_
  refine Go.st (T' := T3) (g' := (mkF m 33 #[.val (.long p0), .second, .val (.long p1), .second, .val (.long (p0 + p1)), .second, .val (.long (f1 p0 p1)), .second, .val (.long (f2 (p0 + p1) p0)), .second, .val (.long (f2 (p0 + p1) p1)), .second] [(.int (XT.cmpL (f2 (p0 + p1) p0) (f1 p0 p1)))])) (fun _ hr => XT.lcmp X3.here hx rfl (hb hby at_32) rfl hr) ?_
  refine Go.st (T' := T3) (g' := (mkF m 36 #[.val (.long p0), .second, .val (.long p1), .second, .val (.long (p0 + p1)), .second, .val (.long (f1 p0 p1)), .second, .val (.long (f2 (p0 + p1) p0)), .second, .val (.long (f2 (p0 + p1) p1)), .second] [])) (fun _ hr => XS.ifNo X3.here hx rfl (hb hby at_33) rfl (XT.ll_ne_f (own_law _ _).1) hr) ?_
  refine Go.st (T' := T3) (g' := (mkF m 38 #[.val (.long p0), .second, .val (.long p1), .second, .val (.long (p0 + p1)), .second, .val (.long (f1 p0 p1)), .second, .val (.long (f2 (p0 + p1) p0)), .second, .val (.long (f2 (p0 + p1) p1)), .second] [(.long (f2 (p0 + p1) p1))])) (fun _ hr => XT.lload X3.here hx rfl (hb hby at_36) rfl hr) ?_
  refine Go.st (T' := T3) (g' := (mkF m 40 #[.val (.long p0), .second, .val (.long p1), .second, .val (.long (p0 + p1)), .second, .val (.long (f1 p0 p1)), .second, .val (.long (f2 (p0 + p1) p0)), .second, .val (.long (f2 (p0 + p1) p1)), .second] [(.long (f1 p0 p1)), (.long (f2 (p0 + p1) p1))])) (fun _ hr => XT.lload X3.here hx rfl (hb hby at_38) rfl hr) ?_
  refine Go.st (T' := T3) (g' := (mkF m 41 #[.val (.long p0), .second, .val (.long p1), .second, .val (.long (p0 + p1)), .second, .val (.long (f1 p0 p1)), .second, .val (.long (f2 (p0 + p1) p0)), .second, .val (.long (f2 (p0 + p1) p1)), .second] [(.int (XT.cmpL (f2 (p0 + p1) p1) (f1 p0 p1)))])) (fun _ hr => XT.lcmp X3.here hx rfl (hb hby at_40) rfl hr) ?_
  refine Go.st (T' := T3) (g' := (mkF m 44 #[.val (.long p0), .second, .val (.long p1), .second, .val (.long (p0 + p1)), .second, .val (.long (f1 p0 p1)), .second, .val (.long (f2 (p0 + p1) p0)), .second, .val (.long (f2 (p0 + p1) p1)), .second] [])) (fun _ hr => XS.ifNo X3.here hx rfl (hb hby at_41) rfl (XT.ll_ne_f (own_law _ _).2) hr) ?_
  refine Go.st (T' := T3) (g' := (mkF m 45 #[.val (.long p0), .second, .val (.long p1), .second, .val (.long (p0 + p1)), .second, .val (.long (f1 p0 p1)), .second, .val (.long (f2 (p0 + p1) p0)), .second, .val (.long (f2 (p0 + p1) p1)), .second] [(.int (1 : Int32))])) (fun _ hr => XT.iconstV X3.here hx rfl (1 : Int32) (hb hby at_44) (by decide) hr) ?_
  refine Go.st (T' := T3) (g' := (mkF m 49 #[.val (.long p0), .second, .val (.long p1), .second, .val (.long (p0 + p1)), .second, .val (.long (f1 p0 p1)), .second, .val (.long (f2 (p0 + p1) p0)), .second, .val (.long (f2 (p0 + p1) p1)), .second] [(.int (1 : Int32))])) (fun _ hr => XS.goto X3.here hx rfl (pc0 := 45) (pc' := 49) rfl (hb hby at_45) (by decide) (by decide) hr) ?_
  exact Go.retN X3 hx hlk hret (by simp) (hb hby at_49) (by decide) (by decide) ⟨rfl, Fr.nil _⟩
set_option maxRecDepth 65536 in
set_option maxHeartbeats 40000000 in
theorem comes_1 {Post : Tables → Env → Array Value → State → Outcome → State → Prop} (hpost : ∀ tb e args s v u, (limb_1_1.after args s (.returned v) u = true ∧ limb_1_2.after args s (.returned v) u = true ∧ True) → FrameEnd s (.returned v) u (Jvm.fieldLocs frame_1_writes args s ++ Jvm.arrayLocs frame_1_arrays args s ++ Jvm.staticLocs frame_1_statics s) 0 0 → Post tb e args s (.returned v) u) :
    ArmFor flags0 classFile x code maxLocals ret World_1 tables_1 room_1 Calls_1 rest_1 Pre_1 Post := by
  intro l hfl _ _ p e ha hc hk s m args below hf hA hF happ hP
  obtain ⟨hcalls, hrest, hpre⟩ := hP
  obtain ⟨-, -, -, hnamed, -, -, -, hat⟩ := (Spec.applies_iff hf).mp happ
  obtain ⟨hg, hn⟩ := and_e (Cond.before_iff.mp (show (Jvm.Cond.and given_1 narrow_1).before args s = true from hpre))
  obtain ⟨g0, r0⟩ := and_e hg
  obtain ⟨u0, r1⟩ := and_e r0
  have u1 := r1
  obtain ⟨w0, w1, rfl⟩ : ∃ w0 w1 : Value, args = #[w0, w1] := by
    have hs : args.size = 2 := by simpa [Cond.value, given_1] using g0
    obtain ⟨L⟩ := args
    match L, hs with
    | [w0, w1], _ => exact ⟨w0, w1, rfl⟩
  have hw := fun d (hd : d ∈ tables_1) => atoms_spec (ws := Jvm.Cond.code x code maxLocals ret :: tables_1) hat d (List.mem_cons_of_mem _ hd)
  have hfit : Fit s := fun {y c} hc i hi => by
    obtain ⟨ha, rfl⟩ := Array.getElem?_eq_some_iff.mp hc
    have q := List.all_eq_true.mp ((Array.all_eq_true_iff_forall_mem.mp hF) _ (Array.getElem_mem ha)) i (List.mem_range.mpr hi)
    simpa [Array.getElem?_eq_getElem hi] using q
  obtain ⟨i0, ei0⟩ := isL_v u0
  obtain rfl : w0 = (.long i0) := Option.some.inj ei0
  obtain ⟨i1, ei1⟩ := isL_v u1
  obtain rfl : w1 = (.long i1) := Option.some.inj ei1
  obtain ⟨n, o, h1, h2, h3, _, L, rfl, ⟨rfl, N⟩, hq⟩ := rm0 l s _ hw tables_1 i0 i1 s.heap  p e ha hc hk s m _ below hf ((Spec.applies_iff_loose hf).mp happ).1 ⟨rfl, State.Warmed39.refl s, rfl⟩ trivial
  refine ⟨n, _, h1, h2, h3, hpost _ _ _ _ _ _ ⟨Cond.after_iff.mpr rfl, Cond.after_iff.mpr (eq_i res_at (Term.int_eval (1)) rfl), trivial⟩ ⟨hq.1, hq.2.1, (hq.2.2.sift fun y hy => Or.inr (N y hy)).mono (by decide) (by decide)⟩⟩
theorem main_1_1 : Claimed_1_1 := comes_1 fun _ _ _ _ _ _ h hF => ⟨h.1, hF⟩
theorem main_1_2 : Claimed_1_2 := comes_1 fun _ _ _ _ _ _ h hF => ⟨h.2.1, hF⟩
end Jvm.Pilot.@@N@@
namespace Jvm.Pilot.@@N@@
open Jvm Jvm.ClassFile Sem Op Lib Jvm.Free Jvm.Stand Jvm.Pilot.@@N@@.Jvm.D
/-! MADE BY PROGRAM (witnessworld.py) out of the Statement's table words and the real class files: 15 classes; the members and pool entries that the words name. The judged class is class 1, her method 2. -/
namespace start1
open Jvm.ClassFile
def u (s : String) : CpInfo := .utf8 (stringToUtf16 s)
/-- a pool by its gaps: so many unusable entries, then the entry; so many at the end -/
def gap : Nat → List CpInfo → List CpInfo
  | 0, r => r
  | n + 1, r => .unusable :: gap n r
def poolList (es : List (Nat × CpInfo)) (last : Nat) : List CpInfo := es.foldr (fun e r => gap e.1 (e.2 :: r)) (gap last [])
def pool (es : List (Nat × CpInfo)) (last : Nat) : Array CpInfo := ⟨poolList es last⟩
def fileOf (pool : Array CpInfo) (this : Nat) (attrs : Array Attribute := #[]) (ms : Array MethodInfo := #[]) (fl : Nat := 33) (sup : Nat := 0) (ifs : Array Nat := #[]) (fds : Array FieldInfo := #[]) : ClassFile where
  minorVersion := 0
  majorVersion := 65
  constantPool := pool
  accessFlags := fl
  thisClass := this
  superClass := sup
  interfaces := ifs
  fields := fds
  methods := ms
  attributes := attrs
def plain (name : String) (sup : Option ClassId) : Class where
  name := name
  kind := .ordinary
  loader := none
  accessFlags := 33
  super := sup
  interfaces := #[]
  cf := none
  fields := #[]
  methods := #[]
  instanceTypes := #[]
  staticTypes := #[]
  resolved := #[]
  callSites := []
  init := .initialized
  statics := none
  mirror := none

def pool0 : Array CpInfo := pool [(5, u "<init>"), (0, u "()V"), (1, .class_ 10), (1, u "java/lang/Object")] 113

def k0m0 : Method := { name := "<init>", desc := "()V", sig := { parameters := [], returnType := none }, accessFlags := 1, code := none }
/-- java/lang/Object -/
def k0 : Class := { plain "java/lang/Object" none with
  accessFlags := 33
  interfaces := #[]
  cf := some (fileOf pool0 8 #[] #[{ accessFlags := 1, nameIndex := 5, descriptorIndex := 6, attributes := #[] }] 33 0 #[] #[])
  fields := #[]
  methods := #[k0m0]
  instanceTypes := #[]
  staticTypes := #[]
  resolved := Array.replicate 124 none
  statics := none }

def pool1 : Array CpInfo := pool [(2, .class_ 4), (1, u "java/lang/Object"), (0, u "<init>"), (0, u "()V"), (0, .long 4294967295), (1, .methodref 10 11), (0, .class_ 12), (0, .nameAndType 13 14), (0, u "com/example/rugged_meter/ruggedmeter/SumCarryPinLaw"), (0, u "expectedCarry"), (0, u "(JJ)J"), (0, .methodref 16 17), (0, .class_ 18), (0, .nameAndType 19 14), (0, u "com/example/rugged_meter/ruggedmeter/Sum"), (0, u "carry"), (2, u "law"), (0, u "(JJ)Z")] 3

def k1m0 : Method := { name := "<init>", desc := "()V", sig := { parameters := [], returnType := none }, accessFlags := 1, code := none }
def k1c1 : Code := { maxStack := 6, maxLocals := 10, code := method_2_code, exceptionTable := #[], attributes := #[] }
def k1m1 : Method := { name := "expectedCarry", desc := "(JJ)J", sig := { parameters := [.long, .long], returnType := some .long }, accessFlags := 10, code := some k1c1 }
def k1c2 : Code := { maxStack := 4, maxLocals := 12, code := code, exceptionTable := #[], attributes := #[] }
def k1m2 : Method := { name := "law", desc := "(JJ)Z", sig := { parameters := [.long, .long], returnType := some .boolean }, accessFlags := 9, code := some k1c2 }
/-- com/example/rugged_meter/ruggedmeter/SumCarryPinLaw -/
def k1 : Class := { plain "com/example/rugged_meter/ruggedmeter/SumCarryPinLaw" (some 0) with
  accessFlags := 49
  interfaces := #[]
  cf := some (fileOf pool1 10 #[] #[{ accessFlags := 1, nameIndex := 5, descriptorIndex := 6, attributes := #[] }, { accessFlags := 10, nameIndex := 13, descriptorIndex := 14, attributes := #[] }, { accessFlags := 9, nameIndex := 22, descriptorIndex := 23, attributes := #[] }] 49 2 #[] #[])
  fields := #[]
  methods := #[k1m0, k1m1, k1m2]
  instanceTypes := #[]
  staticTypes := #[]
  resolved := Array.replicate 27 none
  statics := none }

def pool2 : Array CpInfo := pool [(2, .class_ 4), (1, u "java/lang/Object"), (0, u "<init>"), (0, u "()V"), (0, .class_ 8), (0, u "java/lang/Record")] 13

def k2m0 : Method := { name := "<init>", desc := "()V", sig := { parameters := [], returnType := none }, accessFlags := 4, code := none }
/-- java/lang/Record -/
def k2 : Class := { plain "java/lang/Record" (some 0) with
  accessFlags := 1057
  interfaces := #[]
  cf := some (fileOf pool2 7 #[] #[{ accessFlags := 4, nameIndex := 5, descriptorIndex := 6, attributes := #[] }] 1057 2 #[] #[])
  fields := #[]
  methods := #[k2m0]
  instanceTypes := #[]
  staticTypes := #[]
  resolved := Array.replicate 22 none
  statics := none }

def pool3 : Array CpInfo := pool [(2, .class_ 4), (1, u "java/lang/Record"), (3, .class_ 10), (1, u "com/example/rugged_meter/ruggedmeter/Sum"), (0, u "high"), (0, u "J"), (2, u "low"), (0, .methodref 17 18), (0, .class_ 19), (0, .nameAndType 20 21), (0, u "java/lang/Long"), (0, u "compareUnsigned"), (0, u "(JJ)I"), (57, u "carry"), (0, u "(JJ)J")] 34

def k3c0 : Code := { maxStack := 4, maxLocals := 4, code := prog_15_method_2_code, exceptionTable := #[], attributes := #[] }
def k3m0 : Method := { name := "carry", desc := "(JJ)J", sig := { parameters := [.long, .long], returnType := some .long }, accessFlags := 8, code := some k3c0 }
/-- com/example/rugged_meter/ruggedmeter/Sum -/
def k3 : Class := { plain "com/example/rugged_meter/ruggedmeter/Sum" (some 2) with
  accessFlags := 48
  interfaces := #[]
  cf := some (fileOf pool3 8 #[] #[{ accessFlags := 8, nameIndex := 79, descriptorIndex := 80, attributes := #[] }] 48 2 #[] #[{ accessFlags := 18, nameIndex := 11, descriptorIndex := 12, attributes := #[] }, { accessFlags := 18, nameIndex := 15, descriptorIndex := 12, attributes := #[] }])
  fields := #[{ name := "high", type := .long, accessFlags := 18, slot := 0, constantValue := 0 }, { name := "low", type := .long, accessFlags := 18, slot := 1, constantValue := 0 }]
  methods := #[k3m0]
  instanceTypes := #[.long, .long]
  staticTypes := #[]
  resolved := Array.replicate 115 none
  statics := none }

def pool4 : Array CpInfo := pool [(1, .class_ 2), (0, u "java/io/Serializable"), (0, .class_ 4), (0, u "java/lang/Object")] 2

/-- java/io/Serializable -/
def k4 : Class := { plain "java/io/Serializable" (some 0) with
  accessFlags := 1537
  interfaces := #[]
  cf := some (fileOf pool4 1 #[] #[] 1537 3 #[] #[])
  fields := #[]
  methods := #[]
  instanceTypes := #[]
  staticTypes := #[]
  resolved := Array.replicate 7 none
  statics := none }

def pool5 : Array CpInfo := pool [(2, .class_ 4), (1, u "java/lang/Object"), (0, u "<init>"), (0, u "()V"), (1, .class_ 10), (1, u "java/lang/Number"), (2, .class_ 14), (0, u "java/io/Serializable"), (0, u "serialVersionUID"), (0, u "J")] 20

def k5m0 : Method := { name := "<init>", desc := "()V", sig := { parameters := [], returnType := none }, accessFlags := 1, code := none }
/-- java/lang/Number -/
def k5 : Class := { plain "java/lang/Number" (some 0) with
  accessFlags := 1057
  interfaces := #[4]
  cf := some (fileOf pool5 8 #[] #[{ accessFlags := 1, nameIndex := 5, descriptorIndex := 6, attributes := #[] }] 1057 2 #[13] #[{ accessFlags := 26, nameIndex := 15, descriptorIndex := 16, attributes := #[] }])
  fields := #[{ name := "serialVersionUID", type := .long, accessFlags := 26, slot := 0, constantValue := 0 }]
  methods := #[k5m0]
  instanceTypes := #[]
  staticTypes := #[.long]
  resolved := Array.replicate 37 none
  statics := none }

def pool6 : Array CpInfo := pool [(1, .class_ 2), (0, u "java/lang/Comparable"), (0, .class_ 4), (0, u "java/lang/Object")] 7

/-- java/lang/Comparable -/
def k6 : Class := { plain "java/lang/Comparable" (some 0) with
  accessFlags := 1537
  interfaces := #[]
  cf := some (fileOf pool6 1 #[] #[] 1537 3 #[] #[])
  fields := #[]
  methods := #[]
  instanceTypes := #[]
  staticTypes := #[]
  resolved := Array.replicate 12 none
  statics := none }

def pool7 : Array CpInfo := pool [(1, .class_ 2), (0, u "java/lang/constant/Constable"), (0, .class_ 4), (0, u "java/lang/Object")] 6

/-- java/lang/constant/Constable -/
def k7 : Class := { plain "java/lang/constant/Constable" (some 0) with
  accessFlags := 1537
  interfaces := #[]
  cf := some (fileOf pool7 1 #[] #[] 1537 3 #[] #[])
  fields := #[]
  methods := #[]
  instanceTypes := #[]
  staticTypes := #[]
  resolved := Array.replicate 11 none
  statics := none }

def pool8 : Array CpInfo := pool [(1, .class_ 2), (0, u "java/lang/constant/ConstantDesc"), (0, .class_ 4), (0, u "java/lang/Object")] 32

/-- java/lang/constant/ConstantDesc -/
def k8 : Class := { plain "java/lang/constant/ConstantDesc" (some 0) with
  accessFlags := 1537
  interfaces := #[]
  cf := some (fileOf pool8 1 #[] #[] 1537 3 #[] #[])
  fields := #[]
  methods := #[]
  instanceTypes := #[]
  staticTypes := #[]
  resolved := Array.replicate 37 none
  statics := none }

def pool9 : Array CpInfo := pool [(1, .class_ 2), (0, u "java/lang/Long"), (165, .long 9223372036854775808), (66, .class_ 237), (1, u "java/lang/Long$LongCache"), (33, .class_ 272), (0, u "java/lang/Number"), (2, u "value"), (0, u "J"), (25, .methodref 1 303), (0, .nameAndType 304 305), (0, u "compare"), (0, u "(JJ)I"), (55, u "TYPE"), (0, u "Ljava/lang/Class;"), (0, .class_ 364), (0, u "java/lang/Comparable"), (0, .class_ 366), (0, u "java/lang/constant/Constable"), (0, .class_ 368), (0, u "java/lang/constant/ConstantDesc"), (0, u "MIN_VALUE"), (1, u "MAX_VALUE"), (4, u "SIZE"), (0, u "I"), (1, u "BYTES"), (1, u "serialVersionUID"), (87, u "compareUnsigned")] 54

def k9c0 : Code := { maxStack := 4, maxLocals := 4, code := jdk_35_method_42_code, exceptionTable := #[], attributes := #[] }
def k9m0 : Method := { name := "compare", desc := "(JJ)I", sig := { parameters := [.long, .long], returnType := some .int }, accessFlags := 9, code := some k9c0 }
def k9c1 : Code := { maxStack := 6, maxLocals := 4, code := jdk_35_method_43_code, exceptionTable := #[], attributes := #[] }
def k9m1 : Method := { name := "compareUnsigned", desc := "(JJ)I", sig := { parameters := [.long, .long], returnType := some .int }, accessFlags := 9, code := some k9c1 }
/-- java/lang/Long -/
def k9 : Class := { plain "java/lang/Long" (some 5) with
  accessFlags := 49
  interfaces := #[6, 7, 8]
  cf := some (fileOf pool9 1 #[.nestMembers #[235]] #[{ accessFlags := 9, nameIndex := 304, descriptorIndex := 305, attributes := #[] }, { accessFlags := 9, nameIndex := 469, descriptorIndex := 305, attributes := #[] }] 49 271 #[363, 365, 367] #[{ accessFlags := 25, nameIndex := 369, descriptorIndex := 276, attributes := #[] }, { accessFlags := 25, nameIndex := 371, descriptorIndex := 276, attributes := #[] }, { accessFlags := 25, nameIndex := 361, descriptorIndex := 362, attributes := #[] }, { accessFlags := 18, nameIndex := 275, descriptorIndex := 276, attributes := #[] }, { accessFlags := 25, nameIndex := 376, descriptorIndex := 377, attributes := #[] }, { accessFlags := 25, nameIndex := 379, descriptorIndex := 377, attributes := #[] }, { accessFlags := 26, nameIndex := 381, descriptorIndex := 276, attributes := #[] }])
  fields := #[{ name := "MIN_VALUE", type := .long, accessFlags := 25, slot := 0, constantValue := 0 }, { name := "MAX_VALUE", type := .long, accessFlags := 25, slot := 1, constantValue := 0 }, { name := "TYPE", type := (.object "java/lang/Class"), accessFlags := 25, slot := 2, constantValue := 0 }, { name := "value", type := .long, accessFlags := 18, slot := 0, constantValue := 0 }, { name := "SIZE", type := .int, accessFlags := 25, slot := 3, constantValue := 0 }, { name := "BYTES", type := .int, accessFlags := 25, slot := 4, constantValue := 0 }, { name := "serialVersionUID", type := .long, accessFlags := 26, slot := 5, constantValue := 0 }]
  methods := #[k9m0, k9m1]
  instanceTypes := #[.long]
  staticTypes := #[.long, .long, (.object "java/lang/Class"), .int, .int, .long]
  resolved := Array.replicate 524 none
  statics := none }

def pool10 : Array CpInfo := pool [(1, u "java/lang/Cloneable"), (0, .class_ 1), (0, u "java/lang/Object"), (0, .class_ 3)] 3

/-- java/lang/Cloneable -/
def k10 : Class := { plain "java/lang/Cloneable" (some 0) with
  accessFlags := 1537
  interfaces := #[]
  cf := some (fileOf pool10 2 #[] #[] 1537 4 #[] #[])
  fields := #[]
  methods := #[]
  instanceTypes := #[]
  staticTypes := #[]
  resolved := Array.replicate 8 none
  statics := none }

/-- the primitive byte -/
def k11 : Class := { plain "byte" none with kind := .primitive 'B', accessFlags := 0x411 }
/-- [B -/
def k12 : Class := { plain "[B" (some 0) with kind := .array 11 .byte, interfaces := #[10, 4], accessFlags := 1041 }

/-- the primitive int -/
def k13 : Class := { plain "int" none with kind := .primitive 'I', accessFlags := 0x411 }
/-- [I -/
def k14 : Class := { plain "[I" (some 0) with kind := .array 13 .int, interfaces := #[10, 4], accessFlags := 1041 }

def heap : Heap := #[]
def classes : Array Class := #[k0, k1, k2, k3, k4, k5, k6, k7, k8, k9, k10, k11, k12, k13, k14]
def interned : List (Array UInt16 × Addr) := []
def slotsUsed : Nat := 0
def theMethod : MethodId := ⟨1, 2⟩
def args0 : Array Value := #[.long 5, .long 300]
def aboutOver (below : List Frame) : State where
  vm := { classes := classes, interned := interned.toArray }
  heap := heap
  slotsUsed := slotsUsed
  threads := #[{ frames := .invoking theMethod args0 :: below }]
def below0 : List Frame := [.native { method := ⟨0, 0⟩, args := #[] }]
def about1 : State := aboutOver below0
def p0 : Program := .bare "" "" ""
def e0 : Env := launch0.env 0 0 0
theorem w_frames : about1.frames = Frame.invoking theMethod args0 :: below0 := rfl
set_option maxRecDepth 65536 in
theorem w_args : argsFit about1.vm theMethod args0 = true := by decide +kernel
set_option maxRecDepth 65536 in
theorem w_heap : heapFits about1 = true := by decide +kernel
set_option maxRecDepth 65536 in
theorem w_runnable : about1.curStatus? = some .runnable := by decide +kernel
set_option maxRecDepth 65536 in
theorem w_alone : about1.alone = true := by decide +kernel
set_option maxRecDepth 65536 in
theorem w_named : about1.methodNamed? x = some theMethod := by decide +kernel
set_option maxRecDepth 65536 in
theorem w_hears : about1.hears theMethod below0 = true := by decide +kernel
set_option maxRecDepth 65536 in
theorem w_ripe : about1.ripe theMethod args0 below0 = true := by decide +kernel
theorem w_running : about1.status = .running := rfl
set_option maxRecDepth 65536 in
theorem w_room : about1.hasRoom e0.platform room_1 = true :=
  launch0.hasRoom_least _ room_1 (by decide +kernel) (by decide +kernel) (by decide +kernel) (by decide +kernel) (by decide +kernel) (by decide +kernel)
theorem allAtoms_all (ts : List Jvm.Cond) (a : Array Jvm.Value) (st : Jvm.State) : (allAtoms ts).before a st = ts.all (fun c => c.before a st) := by
  induction ts with
  | nil => rfl
  | cons c t ih =>
    show (Jvm.Cond.and c (allAtoms t)).before a st = _
    rw [Jvm.Cond.before_and, ih, List.all_cons]
def words1 : List Jvm.Cond := Jvm.Cond.code x code maxLocals ret :: tables_1
/-- a 'code' word, met by the world's own term for the bytes: nothing is compared byte by byte -/
theorem code_word {y : MethodName} {bytes : ByteArray} {mx : Nat} {rt : Option FieldType} {a : Array Value} {s : State} {m : MethodId} {meth : Method} {c : Code} (h1 : s.methodNamed? y = some m) (h2 : s.vm.method? m = some meth) (h3 : meth.code = some c) (h4 : c.code = bytes)
    (h5 : (c.maxLocals == mx && c.exceptionTable.isEmpty && decide (c.maxStack ≤ mostOperands) && decide (meth.sig.returnType = rt) && !meth.locks && decide (parseMethodDescriptor y.desc = some meth.sig)) = true) : (Jvm.Cond.code y bytes mx rt).before a s = true := by
  simp only [Bool.and_eq_true, beq_iff_eq, Bool.not_eq_true', decide_eq_true_eq] at h5
  obtain ⟨⟨⟨⟨⟨g1, g2⟩, g3⟩, g4⟩, g5⟩, g6⟩ := h5
  simp [Cond.before, Cond.holds, Cond.value, h1, h2, h3, h4, g1, g2, g3, g4, g5, g6]
def isCode : Jvm.Cond → Bool
  | .code _ _ _ _ => true
  | _ => false
theorem all_split {L : List Jvm.Cond} {P : Jvm.Cond → Bool} (h1 : L.all (fun c => isCode c || P c) = true) (h2 : ∀ c ∈ L.filter isCode, P c = true) : L.all P = true := by
  refine List.all_eq_true.mpr fun c hc => ?_
  have h := List.all_eq_true.mp h1 c hc
  rcases Bool.eq_false_or_eq_true (isCode c) with hi | hi
  · exact h2 c (List.mem_filter.mpr ⟨hc, hi⟩)
  · simpa [hi] using h
set_option maxRecDepth 65536 in
theorem w_c0 : (Jvm.Cond.code x code maxLocals ret).before args0 about1 = true := code_word (m := ⟨1, 2⟩) (meth := k1m2) (c := k1c2) (by decide +kernel) rfl rfl rfl (by decide +kernel)
set_option maxRecDepth 65536 in
theorem w_c1 : (Jvm.Cond.code ({ cls := "com/example/rugged_meter/ruggedmeter/SumCarryPinLaw", name := "expectedCarry", desc := "(JJ)J" } : Jvm.MethodName) method_2_code (10 : Nat) (Option.some Jvm.ClassFile.FieldType.long)).before args0 about1 = true := code_word (m := ⟨1, 1⟩) (meth := k1m1) (c := k1c1) (by decide +kernel) rfl rfl rfl (by decide +kernel)
set_option maxRecDepth 65536 in
theorem w_c2 : (Jvm.Cond.code ({ cls := "com/example/rugged_meter/ruggedmeter/Sum", name := "carry", desc := "(JJ)J" } : Jvm.MethodName) prog_15_method_2_code (4 : Nat) (Option.some Jvm.ClassFile.FieldType.long)).before args0 about1 = true := code_word (m := ⟨3, 0⟩) (meth := k3m0) (c := k3c0) (by decide +kernel) rfl rfl rfl (by decide +kernel)
set_option maxRecDepth 65536 in
theorem w_c3 : (Jvm.Cond.code ({ cls := "java/lang/Long", name := "compareUnsigned", desc := "(JJ)I" } : Jvm.MethodName) jdk_35_method_43_code (4 : Nat) (Option.some Jvm.ClassFile.FieldType.int)).before args0 about1 = true := code_word (m := ⟨9, 1⟩) (meth := k9m1) (c := k9c1) (by decide +kernel) rfl rfl rfl (by decide +kernel)
set_option maxRecDepth 65536 in
theorem w_c4 : (Jvm.Cond.code ({ cls := "java/lang/Long", name := "compare", desc := "(JJ)I" } : Jvm.MethodName) jdk_35_method_42_code (4 : Nat) (Option.some Jvm.ClassFile.FieldType.int)).before args0 about1 = true := code_word (m := ⟨9, 0⟩) (meth := k9m0) (c := k9c0) (by decide +kernel) rfl rfl rfl (by decide +kernel)
def codes1 : List Jvm.Cond := [Jvm.Cond.code x code maxLocals ret, Jvm.Cond.code ({ cls := "com/example/rugged_meter/ruggedmeter/SumCarryPinLaw", name := "expectedCarry", desc := "(JJ)J" } : Jvm.MethodName) method_2_code (10 : Nat) (Option.some Jvm.ClassFile.FieldType.long), Jvm.Cond.code ({ cls := "com/example/rugged_meter/ruggedmeter/Sum", name := "carry", desc := "(JJ)J" } : Jvm.MethodName) prog_15_method_2_code (4 : Nat) (Option.some Jvm.ClassFile.FieldType.long), Jvm.Cond.code ({ cls := "java/lang/Long", name := "compareUnsigned", desc := "(JJ)I" } : Jvm.MethodName) jdk_35_method_43_code (4 : Nat) (Option.some Jvm.ClassFile.FieldType.int), Jvm.Cond.code ({ cls := "java/lang/Long", name := "compare", desc := "(JJ)I" } : Jvm.MethodName) jdk_35_method_42_code (4 : Nat) (Option.some Jvm.ClassFile.FieldType.int)]
set_option maxRecDepth 65536 in
theorem codes_eq : words1.filter isCode = codes1 := rfl
theorem w_codes : ∀ c ∈ words1.filter isCode, c.before args0 about1 = true := by
  rw [codes_eq]
  intro c hc
  simp only [codes1, List.mem_cons, List.not_mem_nil, or_false] at hc
  rcases hc with rfl | rfl | rfl | rfl | rfl
  · exact w_c0
  · exact w_c1
  · exact w_c2
  · exact w_c3
  · exact w_c4
set_option maxRecDepth 65536 in
theorem w_t1 : words1.all (fun c => isCode c || c.before args0 about1) = true := by decide +kernel
theorem w_tables : (allAtoms (Jvm.Cond.code x code maxLocals ret :: tables_1)).before args0 about1 = true := by
  rw [allAtoms_all]
  show words1.all (fun c => c.before args0 about1) = true
  refine all_split ?_ w_codes
  rw [w_t1]
set_option maxRecDepth 65536 in
theorem w_case : (Jvm.Cond.and given_1 narrow_1).before args0 about1 = true := by decide +kernel
theorem w_applies : (headSpec (Jvm.Cond.code x code maxLocals ret :: tables_1) room_1).applies x e0.platform about1 = true :=
  (Spec.applies_iff w_frames).mpr ⟨w_running, w_runnable, w_alone, w_named, w_hears, w_ripe, w_room, w_tables⟩
theorem atStart : AtStart classFile x code maxLocals ret World_1 tables_1 room_1 Calls_1 rest_1 Pre_1 launch0 p0 e0 about1 theMethod args0 below0 :=
  ⟨lists_1, trivial, launch0.admits_env _ _ _, launch0.least_env, fairChoices_fair.cas, fairChoices_fair.clock, w_frames, w_args, w_heap, w_applies, trivial, trivial, w_case⟩
end start1
theorem witness_1 : WitnessClaimed_1 := ⟨start1.p0, start1.e0, start1.about1, start1.theMethod, start1.args0, start1.below0, start1.atStart⟩
end Jvm.Pilot.@@N@@
