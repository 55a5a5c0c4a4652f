import JvmDerived
import JvmDerived.Pilot.@@N@@Statement
import JvmDerived.Pilot.@@N@@Code
set_option linter.unusedVariables false
set_option linter.unusedSimpArgs false
namespace Jvm.Pilot.@@N@@
open Jvm Jvm.ClassFile Sem Op Lib Jvm.Free Jvm.Stand Jvm.LawKit Jvm.RoadKit Bundle Jvm.Pilot.@@N@@.Jvm.D
/-! 0. a walk by goals: 'Go .. F T g': from the frame g at the state T the body comes to an end of which F holds -/
def Go (tb : Tables) (e : Env) (below : List Frame) (F : Outcome → State → Prop) (T : State) (g : JFrame) : Prop :=
  ∃ s₂ o, Steps tb e below (T.setTop g) s₂ ∧ s₂.status = .running ∧ Ended s₂ below o ∧ F o s₂
def Fin (s : State) (Q : Option Value → Heap → List Loc → Prop) (rc rs : Nat) : Outcome → State → Prop :=
  fun o U => ∃ v L, o = .returned v ∧ Q v U.heap L ∧ FrameEnd s o U L rc rs
/-- a contract: called with as' at the heap h it returns, and Q holds of the value, the heap and the written places -/
def MetQ (l : Launch) (Z : State) (y : MethodName) (bytes : ByteArray) (maxL : Nat) (ret : Option FieldType) (ws : List Jvm.Cond) (rm : Room) (as' : Array Value) (h : Heap) (Q : Option Value → Heap → List Loc → Prop) : Prop :=
  MetFree l y (head1 (Jvm.Cond.code y bytes maxL ret :: ws) rm) (fun a U => a = as' ∧ Z.Warmed39 U.vm ∧ U.heap = h) (fun _ _ _ _ _ => True) (fun _ U o U' => ∃ v L, o = .returned v ∧ Q v U'.heap L ∧ FrameEnd U o U' L rm.cells rm.slots)
/-- what a pure method leaves: its value, nothing written -/
def PQ (w : Value) (h : Heap) : Option Value → Heap → List Loc → Prop := fun v h' L => v = some w ∧ L = [] ∧ h' = h
theorem own_narrow_ref {t : FieldType} {v : Value} (hv : v.isRef = true) : narrow t v = v := by rcases XT.refc hv with rfl | ⟨_, rfl⟩ <;> cases t <;> rfl
theorem own_fits_obj {C : String} {v : Value} (hv : v.isRef = true) : fits (.object C) v = true := by rcases XT.refc hv with rfl | ⟨_, rfl⟩ <;> rfl
theorem own_fits_arr {t : FieldType} {v : Value} (hv : v.isRef = true) : fits (.array t) v = true := by rcases XT.refc hv with rfl | ⟨_, rfl⟩ <;> rfl
section Walk
variable {tb : Tables} {p : Program} {l : Launch} {e : Env} {R : Room} {s : State} {m : MethodId} {args : Array Value} {below : List Frame} {meth : Method} {c : Code} {T T' : State} {locs : List Loc} {cells slots : Nat} {Z : State} {a0 : Array Value} {h : Heap} {F : Outcome → State → Prop} {g g' : JFrame} {Q : Option Value → Heap → List Loc → Prop}
theorem Go.st (st : ∀ t, Steps tb e below (T'.setTop g') t → Steps tb e below (T.setTop g) t) (k : Go tb e below F T' g') : Go tb e below F T g := by
  obtain ⟨a, b, q, r⟩ := k; exact ⟨a, b, st _ q, r⟩
theorem Go.tr (st : Steps tb e below (T.setTop g) (T'.setTop g')) (k : Go tb e below F T' g') : Go tb e below F T g := by
  obtain ⟨a, b, q, r⟩ := k; exact ⟨a, b, st.trans q, r⟩
theorem Go.cast (q : g = g') (k : Go tb e below F T g') : Go tb e below F T g := q ▸ k
theorem MetQ.body {y : MethodName} {bytes : ByteArray} {maxL : Nat} {ret : Option FieldType} {ws : List Jvm.Cond} {rm : Room} {as' : Array Value} (hp : plainFor y = true)
    (k : ∀ (p : Program) (e : Env) (s : State) (m : MethodId) (below : List Frame) (meth : Method) (c : Code) (s₁ : State), p.tables.exec = Jvm.exec → c.code = bytes → c.maxLocals = maxL → s.vm.findClass y.cls = some m.cls → meth.name = y.name → meth.sig.returnType = ret → meth.locks = false →
      Z.Warmed39 s.vm → s₁.heap = h → Stand p l e rm s m as' below meth c s₁ [] 0 0 → Go p.tables e below (Fin s Q rm.cells rm.slots) s₁ (entryFrame m as' maxL)) : MetQ l Z y bytes maxL ret ws rm as' h Q := by
  refine MetFree.of_bodySF hp hisR ?_
  intro p e s m args below meth c s₁ Bd hml0 hP hK
  obtain ⟨rfl, hZ, hh⟩ := hP
  exact k p e s m below meth c s₁ Bd.exec Bd.bytes hml0 (findClass_of_methodNamed Bd.named) (name_of_methodNamed Bd.named Bd.method).1 Bd.returns (BodyLoose.notSynchronized Bd) hZ (by rw [← hh, Bd.state]; rfl) (Stand.of_body Bd)
theorem Go.retI (X : Stand p l e R s m args below meth c T locs cells slots) (hx : p.tables.exec = Jvm.exec) (hlk : meth.locks = false) (hret : meth.sig.returnType = some .int) {pc : Nat} {Ls : Array Slot} {z : Int32} {rest : List Value} (hd : decode c.code pc = .ok (.ireturn, 1)) {rc rs : Nat} (hc : cells ≤ rc) (hs : slots ≤ rs) (hq : Q (some (.int z)) T.heap locs) :
    Go p.tables e below (Fin s Q rc rs) T (mkF m pc Ls (.int z :: rest)) := by
  obtain ⟨fs, hl, hrun, hended, hW, hsame⟩ := X.leave (v := some (.int z)) (fun h => by rw [hret] at h; cases h) hlk
  refine ⟨_, _, ?_, hrun, hended, _, _, rfl, hq, ⟨_, rfl⟩, hW, hsame.mono hc hs⟩
  have hm' : T.vm.method? m = some meth := X.method'
  have hn : narrow .int (.int z) = .int z := rfl
  show Steps p.tables e below (T.setTop { method := m, pc := pc, locals := Ls, stack := _ :: rest, locked := none }) _
  jvm_step X.here [X.here.top, hx, hd, hm', hret, hn]
  first | (intro acts; rw [hl _ acts rfl rfl rfl]) | rw [hl _ _ rfl rfl rfl]
  exact Steps.refl _
theorem Go.retN (X : Stand p l e R s m args below meth c T locs cells slots) (hx : p.tables.exec = Jvm.exec) (hlk : meth.locks = false) {t : FieldType} (hret : meth.sig.returnType = some t) (ht : t = .boolean ∨ t = .byte ∨ t = .char ∨ t = .short) {pc : Nat} {Ls : Array Slot} {z : Int32} {rest : List Value} (hd : decode c.code pc = .ok (.ireturn, 1)) {rc rs : Nat} (hc : cells ≤ rc) (hs : slots ≤ rs) (hq : Q (some (.int (nar t z))) T.heap locs) :
    Go p.tables e below (Fin s Q rc rs) T (mkF m pc Ls (.int z :: rest)) := by
  obtain ⟨fs, hl, hrun, hended, hW, hsame⟩ := X.leave (v := some (.int (nar t z))) (fun h => by rw [hret] at h; cases h) hlk
  exact ⟨_, _, Jvm.RoadKit.retN X hx hret ht hd hl, hrun, hended, _, _, rfl, hq, ⟨_, rfl⟩, hW, hsame.mono hc hs⟩
theorem Go.retJ (X : Stand p l e R s m args below meth c T locs cells slots) (hx : p.tables.exec = Jvm.exec) (hlk : meth.locks = false) (hret : meth.sig.returnType = some .long) {pc : Nat} {Ls : Array Slot} {z : Int64} (hd : decode c.code pc = .ok (.lreturn, 1)) {rc rs : Nat} (hc : cells ≤ rc) (hs : slots ≤ rs) (hq : Q (some (.long z)) T.heap locs) :
    Go p.tables e below (Fin s Q rc rs) T (mkF m pc Ls [.long z]) := by
  obtain ⟨fs, hl, hrun, hended, hW, hsame⟩ := X.leave (v := some (.long z)) (fun h => by rw [hret] at h; cases h) hlk
  exact ⟨_, _, X.lreturnOut hx hret hd hl, hrun, hended, _, _, rfl, hq, ⟨_, rfl⟩, hW, hsame.mono hc hs⟩
theorem Go.retA (X : Stand p l e R s m args below meth c T locs cells slots) (hx : p.tables.exec = Jvm.exec) (hlk : meth.locks = false) {t : FieldType} (hret : meth.sig.returnType = some t) (ht : t.isReference = true) {pc : Nat} {Ls : Array Slot} {w : Value} (hw : w.isRef = true) (hd : decode c.code pc = .ok (.areturn, 1)) {rc rs : Nat} (hc : cells ≤ rc) (hs : slots ≤ rs) (hq : Q (some w) T.heap locs) :
    Go p.tables e below (Fin s Q rc rs) T (mkF m pc Ls [w]) := by
  obtain ⟨fs, hl, hrun, hended, hW, hsame⟩ := X.leave (v := some w) (fun h => by rw [hret] at h; cases h) hlk
  exact ⟨_, _, X.areturnOut hx hw hret ht hd hl, hrun, hended, _, _, rfl, hq, ⟨_, rfl⟩, hW, hsame.mono hc hs⟩
theorem Go.retV (X : Stand p l e R s m args below meth c T locs cells slots) (hx : p.tables.exec = Jvm.exec) (hlk : meth.locks = false) (hret : meth.sig.returnType = none) {pc : Nat} {Ls : Array Slot} (hd : decode c.code pc = .ok (.return_, 1)) {rc rs : Nat} (hc : cells ≤ rc) (hs : slots ≤ rs) (hq : Q none T.heap locs) :
    Go p.tables e below (Fin s Q rc rs) T (mkF m pc Ls []) := by
  obtain ⟨fs, hl, hrun, hended, hW, hsame⟩ := X.leave (v := none) (fun _ => rfl) hlk
  exact ⟨_, _, X.returnOut hx hret hd hl, hrun, hended, _, _, rfl, hq, ⟨_, rfl⟩, hW, hsame.mono hc hs⟩
/-- a static call by its contract -/
theorem Go.callS (X : Stand p l e R s m args below meth c T locs cells slots) (hx : p.tables.exec = Jvm.exec) (hZ : Z.Warmed39 s.vm) {own : String} (hown : s.vm.findClass own = some m.cls) {index : Nat} {y : MethodName} {bytes : ByteArray} {maxL : Nat} {ret : Option FieldType} {rm : Room} {W : Nat} {argsL rest : List Value} {Qc : Option Value → Heap → List Loc → Prop}
    (w1 : (Jvm.Cond.methodLink own index y).before a0 Z = true) (w2 : (Jvm.Cond.static y).before a0 Z = true) (w3 : (Jvm.Cond.initialized y.cls).before a0 Z = true) (w4 : (Jvm.Cond.code y bytes maxL ret).before a0 Z = true) (hy : y.cls ≠ "java/lang/invoke/MethodHandle" ∧ y.cls ≠ "java/lang/invoke/VarHandle")
    (eT : T.heap = h) (hM : MetQ l Z y bytes maxL ret [] rm argsL.toArray h Qc) (hf : rm.frames + 1 ≤ R.frames) (hl : W + (maxL + 11) + rm.locals ≤ R.locals) (hc : cells + rm.cells ≤ R.cells) (hs : slots + rm.slots ≤ R.slots)
    (hg : g.method = m) (hsize : g.locals.size = c.maxLocals) (hlen : ∀ sig, parseMethodDescriptor y.desc = some sig → argsL.length = sig.parameters.length) (hstack : g.stack = argsL.reverse ++ rest) (hW : 2 * g.monitorRoom + (rest.map fun v => v.category).sum ≤ W) (hdg : decode c.code g.pc = .ok (.invokestatic index, 3))
    (k : ∀ (v : Option Value) (T' : State) (L : List Loc), Stand p l e R s m args below meth c T' (locs ++ L) (cells + rm.cells) (slots + rm.slots) → Qc v T'.heap L → Go p.tables e below F T' { g with pc := g.pc + 3, stack := v.toList ++ rest }) : Go p.tables e below F T g := by
  obtain ⟨v, vm1, ⟨T', L', c', n'⟩, -, X', ⟨L, hQ, e1, e2, e3⟩, st⟩ := Jvm.LawKit.callS X hx (y := y) hown (mvT hZ w1) (mvT hZ w2) (mvT hZ w3) (mvT hZ w4) hy (backOf (W := W) hM hZ w4 w3 hf hl) hg hsize hlen hstack hW hdg (fun _ _ => ⟨rfl, eT, hc, hs⟩)
  dsimp only [Pt.U, Pt.locs, Pt.cells, Pt.slots] at X' e1 e2 e3 st hQ
  subst e1 e2 e3
  exact Go.st st (k v T' L X' hQ)
/-- a pure static call by its contract -/
theorem Go.callP (X : Stand p l e R s m args below meth c T locs cells slots) (hx : p.tables.exec = Jvm.exec) (hZ : Z.Warmed39 s.vm) {own : String} (hown : s.vm.findClass own = some m.cls) {index : Nat} {y : MethodName} {bytes : ByteArray} {maxL : Nat} {ret : Option FieldType} {fr lo W : Nat} {argsL rest : List Value} {w : Value}
    (w1 : (Jvm.Cond.methodLink own index y).before a0 Z = true) (w2 : (Jvm.Cond.static y).before a0 Z = true) (w3 : (Jvm.Cond.initialized y.cls).before a0 Z = true) (w4 : (Jvm.Cond.code y bytes maxL ret).before a0 Z = true) (hy : y.cls ≠ "java/lang/invoke/MethodHandle" ∧ y.cls ≠ "java/lang/invoke/VarHandle")
    (eT : T.heap = h) (hM : MetQ l Z y bytes maxL ret [] ({ frames := fr, cells := 0, slots := 0, locals := lo } : Room) argsL.toArray h (PQ w h)) (hf : fr + 1 ≤ R.frames) (hl : W + (maxL + 11) + lo ≤ R.locals) (hc : cells ≤ R.cells) (hs : slots ≤ R.slots)
    (hg : g.method = m) (hsize : g.locals.size = c.maxLocals) (hlen : ∀ sig, parseMethodDescriptor y.desc = some sig → argsL.length = sig.parameters.length) (hstack : g.stack = argsL.reverse ++ rest) (hW : 2 * g.monitorRoom + (rest.map fun v => v.category).sum ≤ W) (hdg : decode c.code g.pc = .ok (.invokestatic index, 3))
    (k : ∀ (T' : State), Stand p l e R s m args below meth c T' locs cells slots → T'.heap = h → Go p.tables e below F T' { g with pc := g.pc + 3, stack := w :: rest }) : Go p.tables e below F T g := by
  refine Go.callS X hx hZ hown w1 w2 w3 w4 hy eT hM hf hl hc hs hg hsize hlen hstack hW hdg fun v T' L X' q => ?_
  obtain ⟨rfl, rfl, e'⟩ := q
  rw [List.append_nil] at X'
  exact k T' X' e'
/-- an instance call by its contract; the receiver is exactly a C -/
theorem Go.callV (X : Stand p l e R s m args below meth c T locs cells slots) (hx : p.tables.exec = Jvm.exec) (hZ : Z.Warmed39 s.vm) {own : String} (hown : s.vm.findClass own = some m.cls) {index : Nat} {y : MethodName} {C : String} {bytes : ByteArray} {maxL : Nat} {ret : Option FieldType} {rm : Room} {W : Nat} {argsL rest : List Value} {Qc : Option Value → Heap → List Loc → Prop}
    (w1 : (Jvm.Cond.methodLink own index y).before a0 Z = true) (w2 : (Jvm.Cond.declares y).before a0 Z = true) (w5 : (Jvm.Cond.selects C y y).before a0 Z = true) (w6 : (Jvm.Cond.instanceMethod y).before a0 Z = true) (w3 : (Jvm.Cond.initialized y.cls).before a0 Z = true) (w4 : (Jvm.Cond.code y bytes maxL ret).before a0 Z = true) (hy : y.cls ≠ "java/lang/invoke/MethodHandle" ∧ y.cls ≠ "java/lang/invoke/VarHandle") (hcy : C = y.cls)
    (eT : T.heap = h) {b : Addr} (E : Exa Z h b C) (hM : MetQ l Z y bytes maxL ret [] rm (.ref b :: argsL).toArray h Qc) (hf : rm.frames + 1 ≤ R.frames) (hl : W + (maxL + 11) + rm.locals ≤ R.locals) (hc : cells + rm.cells ≤ R.cells) (hs : slots + rm.slots ≤ R.slots)
    (hg : g.method = m) (hsize : g.locals.size = c.maxLocals) (hlen : ∀ sig, parseMethodDescriptor y.desc = some sig → argsL.length = sig.parameters.length) (hstack : g.stack = argsL.reverse ++ .ref b :: rest) (hW : 2 * g.monitorRoom + (rest.map fun v => v.category).sum ≤ W) (hdg : decode c.code g.pc = .ok (.invokevirtual index, 3))
    (k : ∀ (v : Option Value) (T' : State) (L : List Loc), Stand p l e R s m args below meth c T' (locs ++ L) (cells + rm.cells) (slots + rm.slots) → Qc v T'.heap L → Go p.tables e below F T' { g with pc := g.pc + 3, stack := v.toList ++ rest }) : Go p.tables e below F T g := by
  subst hcy
  obtain ⟨cq, kq, qa, qb, qc⟩ := isOf hZ eT E
  obtain ⟨v, vm1, ⟨T', L', c', n'⟩, -, X', ⟨L, hQ, e1, e2, e3⟩, st⟩ := X.virtualBack hx (y := y) (z := y) hown (mvT hZ w1) (mvT hZ w2) (notFace_of_selects (args := #[]) (mvT hZ w5)) (mvT hZ w5) (mvT hZ w6) hy (backOf (W := W) hM hZ w4 w3 hf hl) qa qc hg hsize (Steps.refl _) hlen hstack hW hdg (fun _ _ => ⟨rfl, eT, hc, hs⟩)
  dsimp only [Pt.U, Pt.locs, Pt.cells, Pt.slots] at X' e1 e2 e3 st hQ
  subst e1 e2 e3
  exact Go.tr st (k v T' L X' hQ)
/-- a constructor by its contract -/
theorem Go.callC (X : Stand p l e R s m args below meth c T locs cells slots) (hx : p.tables.exec = Jvm.exec) (hZ : Z.Warmed39 s.vm) {own : String} (hown : s.vm.findClass own = some m.cls) {index : Nat} {y : MethodName} {bytes : ByteArray} {maxL : Nat} {rm : Room} {W : Nat} {argsL rest : List Value} {Qc : Option Value → Heap → List Loc → Prop} (hy1 : y.name = "<init>")
    (w1 : (Jvm.Cond.methodLink own index y).before a0 Z = true) (w2 : (Jvm.Cond.instanceMethod y).before a0 Z = true) (w3 : (Jvm.Cond.initialized y.cls).before a0 Z = true) (w4 : (Jvm.Cond.code y bytes maxL none).before a0 Z = true) (hy : y.cls ≠ "java/lang/invoke/MethodHandle" ∧ y.cls ≠ "java/lang/invoke/VarHandle")
    (eT : T.heap = h) {b : Addr} (hM : MetQ l Z y bytes maxL none [] rm (.ref b :: argsL).toArray h Qc) (hf : rm.frames + 1 ≤ R.frames) (hl : W + (maxL + 11) + rm.locals ≤ R.locals) (hc : cells + rm.cells ≤ R.cells) (hs : slots + rm.slots ≤ R.slots)
    (hg : g.method = m) (hsize : g.locals.size = c.maxLocals) (hlen : ∀ sig, parseMethodDescriptor y.desc = some sig → argsL.length = sig.parameters.length) (hstack : g.stack = argsL.reverse ++ .ref b :: rest) (hW : 2 * g.monitorRoom + (rest.map fun v => v.category).sum ≤ W) (hdg : decode c.code g.pc = .ok (.invokespecial index, 3))
    (k : ∀ (v : Option Value) (T' : State) (L : List Loc), Stand p l e R s m args below meth c T' (locs ++ L) (cells + rm.cells) (slots + rm.slots) → Qc v T'.heap L → Go p.tables e below F T' { g with pc := g.pc + 3, stack := v.toList ++ rest }) : Go p.tables e below F T g := by
  obtain ⟨v, vm1, ⟨T', L', c', n'⟩, -, X', ⟨L, hQ, e1, e2, e3⟩, st⟩ := X.specialBack hx (y := y) hy1 hown (mvT hZ w1) (mvT hZ w2) (mvT hZ w4) hy (backOf (W := W) hM hZ w4 w3 hf hl) hg hsize (Steps.refl _) hlen hstack hW hdg (fun _ _ => ⟨rfl, eT, hc, hs⟩)
  dsimp only [Pt.U, Pt.locs, Pt.cells, Pt.slots] at X' e1 e2 e3 st hQ
  subst e1 e2 e3
  exact Go.tr st (k v T' L X' hQ)
end Walk
theorem pd_0 : parseMethodDescriptor "(I)Z" = some ⟨[.int], some .boolean⟩ := by decide +kernel
theorem d1_0 : decode prog_125_method_6_code 0 = .ok (.iload_n 0, 1) := by decide +kernel
theorem d1_1 : decode prog_125_method_6_code 1 = .ok (.bipush 48, 2) := by decide +kernel
theorem d1_3 : decode prog_125_method_6_code 3 = .ok (.if_icmp .lt 9, 3) := by decide +kernel
theorem d1_6 : decode prog_125_method_6_code 6 = .ok (.iload_n 0, 1) := by decide +kernel
theorem d1_7 : decode prog_125_method_6_code 7 = .ok (.bipush 57, 2) := by decide +kernel
theorem d1_9 : decode prog_125_method_6_code 9 = .ok (.if_icmp .le 27, 3) := by decide +kernel
theorem d1_12 : decode prog_125_method_6_code 12 = .ok (.iload_n 0, 1) := by decide +kernel
theorem d1_13 : decode prog_125_method_6_code 13 = .ok (.bipush 97, 2) := by decide +kernel
theorem d1_15 : decode prog_125_method_6_code 15 = .ok (.if_icmp .lt 9, 3) := by decide +kernel
theorem d1_18 : decode prog_125_method_6_code 18 = .ok (.iload_n 0, 1) := by decide +kernel
theorem d1_19 : decode prog_125_method_6_code 19 = .ok (.bipush 102, 2) := by decide +kernel
theorem d1_21 : decode prog_125_method_6_code 21 = .ok (.if_icmp .le 15, 3) := by decide +kernel
theorem d1_24 : decode prog_125_method_6_code 24 = .ok (.iload_n 0, 1) := by decide +kernel
theorem d1_25 : decode prog_125_method_6_code 25 = .ok (.bipush 65, 2) := by decide +kernel
theorem d1_27 : decode prog_125_method_6_code 27 = .ok (.if_icmp .lt 13, 3) := by decide +kernel
theorem d1_30 : decode prog_125_method_6_code 30 = .ok (.iload_n 0, 1) := by decide +kernel
theorem d1_31 : decode prog_125_method_6_code 31 = .ok (.bipush 70, 2) := by decide +kernel
theorem d1_33 : decode prog_125_method_6_code 33 = .ok (.if_icmp .gt 7, 3) := by decide +kernel
theorem d1_36 : decode prog_125_method_6_code 36 = .ok (.iconst 1, 1) := by decide +kernel
theorem d1_37 : decode prog_125_method_6_code 37 = .ok (.goto 4, 3) := by decide +kernel
theorem d1_40 : decode prog_125_method_6_code 40 = .ok (.iconst 0, 1) := by decide +kernel
theorem d1_41 : decode prog_125_method_6_code 41 = .ok (.ireturn, 1) := by decide +kernel
theorem pn_0 : plainName "com/example/triplevec/triplevec/rdf/Iris" = true := by first | (simp [plainName, overriddenIn]; done) | decide +kernel
def f1 (p0 : Int32) : Int32 := (if p0 < (48 : Int32) then (if p0 < (97 : Int32) then (if p0 < (65 : Int32) then (0 : Int32) else (if (70 : Int32) < p0 then (0 : Int32) else (1 : Int32))) else (if (102 : Int32) < p0 then (if p0 < (65 : Int32) then (0 : Int32) else (if (70 : Int32) < p0 then (0 : Int32) else (1 : Int32))) else (1 : Int32))) else (if (57 : Int32) < p0 then (if p0 < (97 : Int32) then (if p0 < (65 : Int32) then (0 : Int32) else (if (70 : Int32) < p0 then (0 : Int32) else (1 : Int32))) else (if (102 : Int32) < p0 then (if p0 < (65 : Int32) then (0 : Int32) else (if (70 : Int32) < p0 then (0 : Int32) else (1 : Int32))) else (1 : Int32))) else (1 : Int32)))
theorem ef_rm1 (m : MethodId) (p0 : Int32)  : entryFrame m #[(.int p0)] 1 = mkF m 0 #[.val (.int p0)] [] := by first | (simp [entryFrame, mkF, argsToLocals, Value.category]; done) | rfl
set_option maxRecDepth 65536 in
set_option maxHeartbeats 40000000 in
theorem rm1 (l : Launch) (Z : State) (a0 : Array Value) (hw : ∀ d ∈ tables_1, d.before a0 Z = true) (p0 : Int32)  (h0 : Heap)  :
    MetQ l Z (⟨"com/example/triplevec/triplevec/rdf/Iris", "isHex", "(I)Z"⟩ : MethodName) prog_125_method_6_code 1 (some .boolean) [] ({ frames := 0, cells := 0, slots := 0, locals := 0 } : Room) #[(.int p0)] h0 (PQ (.int (f1 p0)) h0) := by
  refine MetQ.body (plainFor_of_name pn_0) fun p e s m below meth c s₁ hx hby hml hown hnm hret hlk hZ e0 X0 => Go.cast (ef_rm1 m p0) ?_
  refine Go.st (T' := s₁) (g' := (mkF m 1 #[.val (.int p0)] [(.int p0)])) (fun _ hr => XS.iloadN X0.here hx rfl (hb hby d1_0) rfl hr) ?_
  refine Go.st (T' := s₁) (g' := (mkF m 3 #[.val (.int p0)] [(.int (48 : Int32)), (.int p0)])) (fun _ hr => XT.bipushV X0.here hx rfl (48 : Int32) (hb hby d1_1) (by decide) hr) ?_
  by_cases c3_1 : p0 < (48 : Int32)
  · refine Go.st (T' := s₁) (g' := (mkF m 12 #[.val (.int p0)] [])) (fun _ hr => XS.icmpYes X0.here hx rfl (pc0 := 3) (pc' := 12) rfl (hb hby d1_3) rfl (XT.ii_lt_t c3_1) (by decide) (by decide) hr) ?_
    refine Go.st (T' := s₁) (g' := (mkF m 13 #[.val (.int p0)] [(.int p0)])) (fun _ hr => XS.iloadN X0.here hx rfl (hb hby d1_12) rfl hr) ?_
    refine Go.st (T' := s₁) (g' := (mkF m 15 #[.val (.int p0)] [(.int (97 : Int32)), (.int p0)])) (fun _ hr => XT.bipushV X0.here hx rfl (97 : Int32) (hb hby d1_13) (by decide) hr) ?_
    by_cases c15_2 : p0 < (97 : Int32)
    · refine Go.st (T' := s₁) (g' := (mkF m 24 #[.val (.int p0)] [])) (fun _ hr => XS.icmpYes X0.here hx rfl (pc0 := 15) (pc' := 24) rfl (hb hby d1_15) rfl (XT.ii_lt_t c15_2) (by decide) (by decide) hr) ?_
      refine Go.st (T' := s₁) (g' := (mkF m 25 #[.val (.int p0)] [(.int p0)])) (fun _ hr => XS.iloadN X0.here hx rfl (hb hby d1_24) rfl hr) ?_
      refine Go.st (T' := s₁) (g' := (mkF m 27 #[.val (.int p0)] [(.int (65 : Int32)), (.int p0)])) (fun _ hr => XT.bipushV X0.here hx rfl (65 : Int32) (hb hby d1_25) (by decide) hr) ?_
      by_cases c27_3 : p0 < (65 : Int32)
      · refine Go.st (T' := s₁) (g' := (mkF m 40 #[.val (.int p0)] [])) (fun _ hr => XS.icmpYes X0.here hx rfl (pc0 := 27) (pc' := 40) rfl (hb hby d1_27) rfl (XT.ii_lt_t c27_3) (by decide) (by decide) hr) ?_
        refine Go.st (T' := s₁) (g' := (mkF m 41 #[.val (.int p0)] [(.int (0 : Int32))])) (fun _ hr => XT.iconstV X0.here hx rfl (0 : Int32) (hb hby d1_40) (by decide) hr) ?_
        exact Go.retN X0 hx hlk hret (by simp) (hb hby d1_41) (Nat.zero_le _) (Nat.zero_le _) ⟨congrArg (fun z => some (Value.int z)) ((by decide : nar .boolean (0 : Int32) = (0 : Int32)).trans (by simp only [f1, if_pos c3_1, if_pos c15_2, if_pos c27_3])), rfl, e0⟩
      · refine Go.st (T' := s₁) (g' := (mkF m 30 #[.val (.int p0)] [])) (fun _ hr => XS.icmpNo X0.here hx rfl (hb hby d1_27) rfl (XT.ii_lt_f c27_3) hr) ?_
        refine Go.st (T' := s₁) (g' := (mkF m 31 #[.val (.int p0)] [(.int p0)])) (fun _ hr => XS.iloadN X0.here hx rfl (hb hby d1_30) rfl hr) ?_
        refine Go.st (T' := s₁) (g' := (mkF m 33 #[.val (.int p0)] [(.int (70 : Int32)), (.int p0)])) (fun _ hr => XT.bipushV X0.here hx rfl (70 : Int32) (hb hby d1_31) (by decide) hr) ?_
        by_cases c33_4 : (70 : Int32) < p0
        · refine Go.st (T' := s₁) (g' := (mkF m 40 #[.val (.int p0)] [])) (fun _ hr => XS.icmpYes X0.here hx rfl (pc0 := 33) (pc' := 40) rfl (hb hby d1_33) rfl (XT.ii_gt_t c33_4) (by decide) (by decide) hr) ?_
          refine Go.st (T' := s₁) (g' := (mkF m 41 #[.val (.int p0)] [(.int (0 : Int32))])) (fun _ hr => XT.iconstV X0.here hx rfl (0 : Int32) (hb hby d1_40) (by decide) hr) ?_
          exact Go.retN X0 hx hlk hret (by simp) (hb hby d1_41) (Nat.zero_le _) (Nat.zero_le _) ⟨congrArg (fun z => some (Value.int z)) ((by decide : nar .boolean (0 : Int32) = (0 : Int32)).trans (by simp only [f1, if_pos c3_1, if_pos c15_2, if_neg c27_3, if_pos c33_4])), rfl, e0⟩
        · refine Go.st (T' := s₁) (g' := (mkF m 36 #[.val (.int p0)] [])) (fun _ hr => XS.icmpNo X0.here hx rfl (hb hby d1_33) rfl (XT.ii_gt_f c33_4) hr) ?_
          refine Go.st (T' := s₁) (g' := (mkF m 37 #[.val (.int p0)] [(.int (1 : Int32))])) (fun _ hr => XT.iconstV X0.here hx rfl (1 : Int32) (hb hby d1_36) (by decide) hr) ?_
          refine Go.st (T' := s₁) (g' := (mkF m 41 #[.val (.int p0)] [(.int (1 : Int32))])) (fun _ hr => XS.goto X0.here hx rfl (pc0 := 37) (pc' := 41) rfl (hb hby d1_37) (by decide) (by decide) hr) ?_
          exact Go.retN X0 hx hlk hret (by simp) (hb hby d1_41) (Nat.zero_le _) (Nat.zero_le _) ⟨congrArg (fun z => some (Value.int z)) ((by decide : nar .boolean (1 : Int32) = (1 : Int32)).trans (by simp only [f1, if_pos c3_1, if_pos c15_2, if_neg c27_3, if_neg c33_4])), rfl, e0⟩
    · refine Go.st (T' := s₁) (g' := (mkF m 18 #[.val (.int p0)] [])) (fun _ hr => XS.icmpNo X0.here hx rfl (hb hby d1_15) rfl (XT.ii_lt_f c15_2) hr) ?_
      refine Go.st (T' := s₁) (g' := (mkF m 19 #[.val (.int p0)] [(.int p0)])) (fun _ hr => XS.iloadN X0.here hx rfl (hb hby d1_18) rfl hr) ?_
      refine Go.st (T' := s₁) (g' := (mkF m 21 #[.val (.int p0)] [(.int (102 : Int32)), (.int p0)])) (fun _ hr => XT.bipushV X0.here hx rfl (102 : Int32) (hb hby d1_19) (by decide) hr) ?_
      by_cases c21_5 : (102 : Int32) < p0
      · refine Go.st (T' := s₁) (g' := (mkF m 24 #[.val (.int p0)] [])) (fun _ hr => XS.icmpNo X0.here hx rfl (hb hby d1_21) rfl (XT.ii_le_f c21_5) hr) ?_
        refine Go.st (T' := s₁) (g' := (mkF m 25 #[.val (.int p0)] [(.int p0)])) (fun _ hr => XS.iloadN X0.here hx rfl (hb hby d1_24) rfl hr) ?_
        refine Go.st (T' := s₁) (g' := (mkF m 27 #[.val (.int p0)] [(.int (65 : Int32)), (.int p0)])) (fun _ hr => XT.bipushV X0.here hx rfl (65 : Int32) (hb hby d1_25) (by decide) hr) ?_
        by_cases c27_6 : p0 < (65 : Int32)
        · refine Go.st (T' := s₁) (g' := (mkF m 40 #[.val (.int p0)] [])) (fun _ hr => XS.icmpYes X0.here hx rfl (pc0 := 27) (pc' := 40) rfl (hb hby d1_27) rfl (XT.ii_lt_t c27_6) (by decide) (by decide) hr) ?_
          refine Go.st (T' := s₁) (g' := (mkF m 41 #[.val (.int p0)] [(.int (0 : Int32))])) (fun _ hr => XT.iconstV X0.here hx rfl (0 : Int32) (hb hby d1_40) (by decide) hr) ?_
          exact Go.retN X0 hx hlk hret (by simp) (hb hby d1_41) (Nat.zero_le _) (Nat.zero_le _) ⟨congrArg (fun z => some (Value.int z)) ((by decide : nar .boolean (0 : Int32) = (0 : Int32)).trans (by simp only [f1, if_pos c3_1, if_neg c15_2, if_pos c21_5, if_pos c27_6])), rfl, e0⟩
        · refine Go.st (T' := s₁) (g' := (mkF m 30 #[.val (.int p0)] [])) (fun _ hr => XS.icmpNo X0.here hx rfl (hb hby d1_27) rfl (XT.ii_lt_f c27_6) hr) ?_
          refine Go.st (T' := s₁) (g' := (mkF m 31 #[.val (.int p0)] [(.int p0)])) (fun _ hr => XS.iloadN X0.here hx rfl (hb hby d1_30) rfl hr) ?_
          refine Go.st (T' := s₁) (g' := (mkF m 33 #[.val (.int p0)] [(.int (70 : Int32)), (.int p0)])) (fun _ hr => XT.bipushV X0.here hx rfl (70 : Int32) (hb hby d1_31) (by decide) hr) ?_
          by_cases c33_7 : (70 : Int32) < p0
          · refine Go.st (T' := s₁) (g' := (mkF m 40 #[.val (.int p0)] [])) (fun _ hr => XS.icmpYes X0.here hx rfl (pc0 := 33) (pc' := 40) rfl (hb hby d1_33) rfl (XT.ii_gt_t c33_7) (by decide) (by decide) hr) ?_
            refine Go.st (T' := s₁) (g' := (mkF m 41 #[.val (.int p0)] [(.int (0 : Int32))])) (fun _ hr => XT.iconstV X0.here hx rfl (0 : Int32) (hb hby d1_40) (by decide) hr) ?_
            exact Go.retN X0 hx hlk hret (by simp) (hb hby d1_41) (Nat.zero_le _) (Nat.zero_le _) ⟨congrArg (fun z => some (Value.int z)) ((by decide : nar .boolean (0 : Int32) = (0 : Int32)).trans (by simp only [f1, if_pos c3_1, if_neg c15_2, if_pos c21_5, if_neg c27_6, if_pos c33_7])), rfl, e0⟩
          · refine Go.st (T' := s₁) (g' := (mkF m 36 #[.val (.int p0)] [])) (fun _ hr => XS.icmpNo X0.here hx rfl (hb hby d1_33) rfl (XT.ii_gt_f c33_7) hr) ?_
            refine Go.st (T' := s₁) (g' := (mkF m 37 #[.val (.int p0)] [(.int (1 : Int32))])) (fun _ hr => XT.iconstV X0.here hx rfl (1 : Int32) (hb hby d1_36) (by decide) hr) ?_
            refine Go.st (T' := s₁) (g' := (mkF m 41 #[.val (.int p0)] [(.int (1 : Int32))])) (fun _ hr => XS.goto X0.here hx rfl (pc0 := 37) (pc' := 41) rfl (hb hby d1_37) (by decide) (by decide) hr) ?_
            exact Go.retN X0 hx hlk hret (by simp) (hb hby d1_41) (Nat.zero_le _) (Nat.zero_le _) ⟨congrArg (fun z => some (Value.int z)) ((by decide : nar .boolean (1 : Int32) = (1 : Int32)).trans (by simp only [f1, if_pos c3_1, if_neg c15_2, if_pos c21_5, if_neg c27_6, if_neg c33_7])), rfl, e0⟩
      · refine Go.st (T' := s₁) (g' := (mkF m 36 #[.val (.int p0)] [])) (fun _ hr => XS.icmpYes X0.here hx rfl (pc0 := 21) (pc' := 36) rfl (hb hby d1_21) rfl (XT.ii_le_t c21_5) (by decide) (by decide) hr) ?_
        refine Go.st (T' := s₁) (g' := (mkF m 37 #[.val (.int p0)] [(.int (1 : Int32))])) (fun _ hr => XT.iconstV X0.here hx rfl (1 : Int32) (hb hby d1_36) (by decide) hr) ?_
        refine Go.st (T' := s₁) (g' := (mkF m 41 #[.val (.int p0)] [(.int (1 : Int32))])) (fun _ hr => XS.goto X0.here hx rfl (pc0 := 37) (pc' := 41) rfl (hb hby d1_37) (by decide) (by decide) hr) ?_
        exact Go.retN X0 hx hlk hret (by simp) (hb hby d1_41) (Nat.zero_le _) (Nat.zero_le _) ⟨congrArg (fun z => some (Value.int z)) ((by decide : nar .boolean (1 : Int32) = (1 : Int32)).trans (by simp only [f1, if_pos c3_1, if_neg c15_2, if_neg c21_5])), rfl, e0⟩
  · refine Go.st (T' := s₁) (g' := (mkF m 6 #[.val (.int p0)] [])) (fun _ hr => XS.icmpNo X0.here hx rfl (hb hby d1_3) rfl (XT.ii_lt_f c3_1) hr) ?_
    refine Go.st (T' := s₁) (g' := (mkF m 7 #[.val (.int p0)] [(.int p0)])) (fun _ hr => XS.iloadN X0.here hx rfl (hb hby d1_6) rfl hr) ?_
    refine Go.st (T' := s₁) (g' := (mkF m 9 #[.val (.int p0)] [(.int (57 : Int32)), (.int p0)])) (fun _ hr => XT.bipushV X0.here hx rfl (57 : Int32) (hb hby d1_7) (by decide) hr) ?_
    by_cases c9_8 : (57 : Int32) < p0
    · refine Go.st (T' := s₁) (g' := (mkF m 12 #[.val (.int p0)] [])) (fun _ hr => XS.icmpNo X0.here hx rfl (hb hby d1_9) rfl (XT.ii_le_f c9_8) hr) ?_
      refine Go.st (T' := s₁) (g' := (mkF m 13 #[.val (.int p0)] [(.int p0)])) (fun _ hr => XS.iloadN X0.here hx rfl (hb hby d1_12) rfl hr) ?_
      refine Go.st (T' := s₁) (g' := (mkF m 15 #[.val (.int p0)] [(.int (97 : Int32)), (.int p0)])) (fun _ hr => XT.bipushV X0.here hx rfl (97 : Int32) (hb hby d1_13) (by decide) hr) ?_
      by_cases c15_9 : p0 < (97 : Int32)
      · refine Go.st (T' := s₁) (g' := (mkF m 24 #[.val (.int p0)] [])) (fun _ hr => XS.icmpYes X0.here hx rfl (pc0 := 15) (pc' := 24) rfl (hb hby d1_15) rfl (XT.ii_lt_t c15_9) (by decide) (by decide) hr) ?_
        refine Go.st (T' := s₁) (g' := (mkF m 25 #[.val (.int p0)] [(.int p0)])) (fun _ hr => XS.iloadN X0.here hx rfl (hb hby d1_24) rfl hr) ?_
        refine Go.st (T' := s₁) (g' := (mkF m 27 #[.val (.int p0)] [(.int (65 : Int32)), (.int p0)])) (fun _ hr => XT.bipushV X0.here hx rfl (65 : Int32) (hb hby d1_25) (by decide) hr) ?_
        by_cases c27_10 : p0 < (65 : Int32)
        · refine Go.st (T' := s₁) (g' := (mkF m 40 #[.val (.int p0)] [])) (fun _ hr => XS.icmpYes X0.here hx rfl (pc0 := 27) (pc' := 40) rfl (hb hby d1_27) rfl (XT.ii_lt_t c27_10) (by decide) (by decide) hr) ?_
          refine Go.st (T' := s₁) (g' := (mkF m 41 #[.val (.int p0)] [(.int (0 : Int32))])) (fun _ hr => XT.iconstV X0.here hx rfl (0 : Int32) (hb hby d1_40) (by decide) hr) ?_
          exact Go.retN X0 hx hlk hret (by simp) (hb hby d1_41) (Nat.zero_le _) (Nat.zero_le _) ⟨congrArg (fun z => some (Value.int z)) ((by decide : nar .boolean (0 : Int32) = (0 : Int32)).trans (by simp only [f1, if_neg c3_1, if_pos c9_8, if_pos c15_9, if_pos c27_10])), rfl, e0⟩
        · refine Go.st (T' := s₁) (g' := (mkF m 30 #[.val (.int p0)] [])) (fun _ hr => XS.icmpNo X0.here hx rfl (hb hby d1_27) rfl (XT.ii_lt_f c27_10) hr) ?_
          refine Go.st (T' := s₁) (g' := (mkF m 31 #[.val (.int p0)] [(.int p0)])) (fun _ hr => XS.iloadN X0.here hx rfl (hb hby d1_30) rfl hr) ?_
          refine Go.st (T' := s₁) (g' := (mkF m 33 #[.val (.int p0)] [(.int (70 : Int32)), (.int p0)])) (fun _ hr => XT.bipushV X0.here hx rfl (70 : Int32) (hb hby d1_31) (by decide) hr) ?_
          by_cases c33_11 : (70 : Int32) < p0
          · refine Go.st (T' := s₁) (g' := (mkF m 40 #[.val (.int p0)] [])) (fun _ hr => XS.icmpYes X0.here hx rfl (pc0 := 33) (pc' := 40) rfl (hb hby d1_33) rfl (XT.ii_gt_t c33_11) (by decide) (by decide) hr) ?_
            refine Go.st (T' := s₁) (g' := (mkF m 41 #[.val (.int p0)] [(.int (0 : Int32))])) (fun _ hr => XT.iconstV X0.here hx rfl (0 : Int32) (hb hby d1_40) (by decide) hr) ?_
            exact Go.retN X0 hx hlk hret (by simp) (hb hby d1_41) (Nat.zero_le _) (Nat.zero_le _) ⟨congrArg (fun z => some (Value.int z)) ((by decide : nar .boolean (0 : Int32) = (0 : Int32)).trans (by simp only [f1, if_neg c3_1, if_pos c9_8, if_pos c15_9, if_neg c27_10, if_pos c33_11])), rfl, e0⟩
          · refine Go.st (T' := s₁) (g' := (mkF m 36 #[.val (.int p0)] [])) (fun _ hr => XS.icmpNo X0.here hx rfl (hb hby d1_33) rfl (XT.ii_gt_f c33_11) hr) ?_
            refine Go.st (T' := s₁) (g' := (mkF m 37 #[.val (.int p0)] [(.int (1 : Int32))])) (fun _ hr => XT.iconstV X0.here hx rfl (1 : Int32) (hb hby d1_36) (by decide) hr) ?_
            refine Go.st (T' := s₁) (g' := (mkF m 41 #[.val (.int p0)] [(.int (1 : Int32))])) (fun _ hr => XS.goto X0.here hx rfl (pc0 := 37) (pc' := 41) rfl (hb hby d1_37) (by decide) (by decide) hr) ?_
            exact Go.retN X0 hx hlk hret (by simp) (hb hby d1_41) (Nat.zero_le _) (Nat.zero_le _) ⟨congrArg (fun z => some (Value.int z)) ((by decide : nar .boolean (1 : Int32) = (1 : Int32)).trans (by simp only [f1, if_neg c3_1, if_pos c9_8, if_pos c15_9, if_neg c27_10, if_neg c33_11])), rfl, e0⟩
      · refine Go.st (T' := s₁) (g' := (mkF m 18 #[.val (.int p0)] [])) (fun _ hr => XS.icmpNo X0.here hx rfl (hb hby d1_15) rfl (XT.ii_lt_f c15_9) hr) ?_
        refine Go.st (T' := s₁) (g' := (mkF m 19 #[.val (.int p0)] [(.int p0)])) (fun _ hr => XS.iloadN X0.here hx rfl (hb hby d1_18) rfl hr) ?_
        refine Go.st (T' := s₁) (g' := (mkF m 21 #[.val (.int p0)] [(.int (102 : Int32)), (.int p0)])) (fun _ hr => XT.bipushV X0.here hx rfl (102 : Int32) (hb hby d1_19) (by decide) hr) ?_
        by_cases c21_12 : (102 : Int32) < p0
        · refine Go.st (T' := s₁) (g' := (mkF m 24 #[.val (.int p0)] [])) (fun _ hr => XS.icmpNo X0.here hx rfl (hb hby d1_21) rfl (XT.ii_le_f c21_12) hr) ?_
          refine Go.st (T' := s₁) (g' := (mkF m 25 #[.val (.int p0)] [(.int p0)])) (fun _ hr => XS.iloadN X0.here hx rfl (hb hby d1_24) rfl hr) ?_
          refine Go.st (T' := s₁) (g' := (mkF m 27 #[.val (.int p0)] [(.int (65 : Int32)), (.int p0)])) (fun _ hr => XT.bipushV X0.here hx rfl (65 : Int32) (hb hby d1_25) (by decide) hr) ?_
          by_cases c27_13 : p0 < (65 : Int32)
          · refine Go.st (T' := s₁) (g' := (mkF m 40 #[.val (.int p0)] [])) (fun _ hr => XS.icmpYes X0.here hx rfl (pc0 := 27) (pc' := 40) rfl (hb hby d1_27) rfl (XT.ii_lt_t c27_13) (by decide) (by decide) hr) ?_
            refine Go.st (T' := s₁) (g' := (mkF m 41 #[.val (.int p0)] [(.int (0 : Int32))])) (fun _ hr => XT.iconstV X0.here hx rfl (0 : Int32) (hb hby d1_40) (by decide) hr) ?_
            exact Go.retN X0 hx hlk hret (by simp) (hb hby d1_41) (Nat.zero_le _) (Nat.zero_le _) ⟨congrArg (fun z => some (Value.int z)) ((by decide : nar .boolean (0 : Int32) = (0 : Int32)).trans (by simp only [f1, if_neg c3_1, if_pos c9_8, if_neg c15_9, if_pos c21_12, if_pos c27_13])), rfl, e0⟩
          · refine Go.st (T' := s₁) (g' := (mkF m 30 #[.val (.int p0)] [])) (fun _ hr => XS.icmpNo X0.here hx rfl (hb hby d1_27) rfl (XT.ii_lt_f c27_13) hr) ?_
            refine Go.st (T' := s₁) (g' := (mkF m 31 #[.val (.int p0)] [(.int p0)])) (fun _ hr => XS.iloadN X0.here hx rfl (hb hby d1_30) rfl hr) ?_
            refine Go.st (T' := s₁) (g' := (mkF m 33 #[.val (.int p0)] [(.int (70 : Int32)), (.int p0)])) (fun _ hr => XT.bipushV X0.here hx rfl (70 : Int32) (hb hby d1_31) (by decide) hr) ?_
            by_cases c33_14 : (70 : Int32) < p0
            · refine Go.st (T' := s₁) (g' := (mkF m 40 #[.val (.int p0)] [])) (fun _ hr => XS.icmpYes X0.here hx rfl (pc0 := 33) (pc' := 40) rfl (hb hby d1_33) rfl (XT.ii_gt_t c33_14) (by decide) (by decide) hr) ?_
              refine Go.st (T' := s₁) (g' := (mkF m 41 #[.val (.int p0)] [(.int (0 : Int32))])) (fun _ hr => XT.iconstV X0.here hx rfl (0 : Int32) (hb hby d1_40) (by decide) hr) ?_
              exact Go.retN X0 hx hlk hret (by simp) (hb hby d1_41) (Nat.zero_le _) (Nat.zero_le _) ⟨congrArg (fun z => some (Value.int z)) ((by decide : nar .boolean (0 : Int32) = (0 : Int32)).trans (by simp only [f1, if_neg c3_1, if_pos c9_8, if_neg c15_9, if_pos c21_12, if_neg c27_13, if_pos c33_14])), rfl, e0⟩
            · refine Go.st (T' := s₁) (g' := (mkF m 36 #[.val (.int p0)] [])) (fun _ hr => XS.icmpNo X0.here hx rfl (hb hby d1_33) rfl (XT.ii_gt_f c33_14) hr) ?_
              refine Go.st (T' := s₁) (g' := (mkF m 37 #[.val (.int p0)] [(.int (1 : Int32))])) (fun _ hr => XT.iconstV X0.here hx rfl (1 : Int32) (hb hby d1_36) (by decide) hr) ?_
              refine Go.st (T' := s₁) (g' := (mkF m 41 #[.val (.int p0)] [(.int (1 : Int32))])) (fun _ hr => XS.goto X0.here hx rfl (pc0 := 37) (pc' := 41) rfl (hb hby d1_37) (by decide) (by decide) hr) ?_
              exact Go.retN X0 hx hlk hret (by simp) (hb hby d1_41) (Nat.zero_le _) (Nat.zero_le _) ⟨congrArg (fun z => some (Value.int z)) ((by decide : nar .boolean (1 : Int32) = (1 : Int32)).trans (by simp only [f1, if_neg c3_1, if_pos c9_8, if_neg c15_9, if_pos c21_12, if_neg c27_13, if_neg c33_14])), rfl, e0⟩
        · refine Go.st (T' := s₁) (g' := (mkF m 36 #[.val (.int p0)] [])) (fun _ hr => XS.icmpYes X0.here hx rfl (pc0 := 21) (pc' := 36) rfl (hb hby d1_21) rfl (XT.ii_le_t c21_12) (by decide) (by decide) hr) ?_
          refine Go.st (T' := s₁) (g' := (mkF m 37 #[.val (.int p0)] [(.int (1 : Int32))])) (fun _ hr => XT.iconstV X0.here hx rfl (1 : Int32) (hb hby d1_36) (by decide) hr) ?_
          refine Go.st (T' := s₁) (g' := (mkF m 41 #[.val (.int p0)] [(.int (1 : Int32))])) (fun _ hr => XS.goto X0.here hx rfl (pc0 := 37) (pc' := 41) rfl (hb hby d1_37) (by decide) (by decide) hr) ?_
          exact Go.retN X0 hx hlk hret (by simp) (hb hby d1_41) (Nat.zero_le _) (Nat.zero_le _) ⟨congrArg (fun z => some (Value.int z)) ((by decide : nar .boolean (1 : Int32) = (1 : Int32)).trans (by simp only [f1, if_neg c3_1, if_pos c9_8, if_neg c15_9, if_neg c21_12])), rfl, e0⟩
    · refine Go.st (T' := s₁) (g' := (mkF m 36 #[.val (.int p0)] [])) (fun _ hr => XS.icmpYes X0.here hx rfl (pc0 := 9) (pc' := 36) rfl (hb hby d1_9) rfl (XT.ii_le_t c9_8) (by decide) (by decide) hr) ?_
      refine Go.st (T' := s₁) (g' := (mkF m 37 #[.val (.int p0)] [(.int (1 : Int32))])) (fun _ hr => XT.iconstV X0.here hx rfl (1 : Int32) (hb hby d1_36) (by decide) hr) ?_
      refine Go.st (T' := s₁) (g' := (mkF m 41 #[.val (.int p0)] [(.int (1 : Int32))])) (fun _ hr => XS.goto X0.here hx rfl (pc0 := 37) (pc' := 41) rfl (hb hby d1_37) (by decide) (by decide) hr) ?_
      exact Go.retN X0 hx hlk hret (by simp) (hb hby d1_41) (Nat.zero_le _) (Nat.zero_le _) ⟨congrArg (fun z => some (Value.int z)) ((by decide : nar .boolean (1 : Int32) = (1 : Int32)).trans (by simp only [f1, if_neg c3_1, if_neg c9_8])), rfl, e0⟩
theorem d2_0 : decode method_2_code 0 = .ok (.iload_n 0, 1) := by decide +kernel
theorem d2_1 : decode method_2_code 1 = .ok (.i2l, 1) := by decide +kernel
theorem d2_2 : decode method_2_code 2 = .ok (.ldc2_w 7, 3) := by decide +kernel
theorem d2_5 : decode method_2_code 5 = .ok (.lsub, 1) := by decide +kernel
theorem d2_6 : decode method_2_code 6 = .ok (.lstore_n 1, 1) := by decide +kernel
theorem d2_7 : decode method_2_code 7 = .ok (.lload_n 1, 1) := by decide +kernel
theorem d2_8 : decode method_2_code 8 = .ok (.lconst 0, 1) := by decide +kernel
theorem d2_9 : decode method_2_code 9 = .ok (.lcmp, 1) := by decide +kernel
theorem d2_10 : decode method_2_code 10 = .ok (.ifCond .lt 15, 3) := by decide +kernel
theorem d2_13 : decode method_2_code 13 = .ok (.lload_n 1, 1) := by decide +kernel
theorem d2_14 : decode method_2_code 14 = .ok (.ldc2_w 9, 3) := by decide +kernel
theorem d2_17 : decode method_2_code 17 = .ok (.lcmp, 1) := by decide +kernel
theorem d2_18 : decode method_2_code 18 = .ok (.ifCond .ge 7, 3) := by decide +kernel
theorem d2_21 : decode method_2_code 21 = .ok (.iconst 1, 1) := by decide +kernel
theorem d2_22 : decode method_2_code 22 = .ok (.goto 4, 3) := by decide +kernel
theorem d2_25 : decode method_2_code 25 = .ok (.iconst 0, 1) := by decide +kernel
theorem d2_26 : decode method_2_code 26 = .ok (.istore_n 3, 1) := by decide +kernel
theorem d2_27 : decode method_2_code 27 = .ok (.iload_n 0, 1) := by decide +kernel
theorem d2_28 : decode method_2_code 28 = .ok (.bipush 32, 2) := by decide +kernel
theorem d2_30 : decode method_2_code 30 = .ok (.ior, 1) := by decide +kernel
theorem d2_31 : decode method_2_code 31 = .ok (.i2l, 1) := by decide +kernel
theorem d2_32 : decode method_2_code 32 = .ok (.ldc2_w 11, 3) := by decide +kernel
theorem d2_35 : decode method_2_code 35 = .ok (.lsub, 1) := by decide +kernel
theorem d2_36 : decode method_2_code 36 = .ok (.lstore 4, 2) := by decide +kernel
theorem d2_38 : decode method_2_code 38 = .ok (.lload 4, 2) := by decide +kernel
theorem d2_40 : decode method_2_code 40 = .ok (.lconst 0, 1) := by decide +kernel
theorem d2_41 : decode method_2_code 41 = .ok (.lcmp, 1) := by decide +kernel
theorem d2_42 : decode method_2_code 42 = .ok (.ifCond .lt 16, 3) := by decide +kernel
theorem d2_45 : decode method_2_code 45 = .ok (.lload 4, 2) := by decide +kernel
theorem d2_47 : decode method_2_code 47 = .ok (.ldc2_w 13, 3) := by decide +kernel
theorem d2_50 : decode method_2_code 50 = .ok (.lcmp, 1) := by decide +kernel
theorem d2_51 : decode method_2_code 51 = .ok (.ifCond .ge 7, 3) := by decide +kernel
theorem d2_54 : decode method_2_code 54 = .ok (.iconst 1, 1) := by decide +kernel
theorem d2_55 : decode method_2_code 55 = .ok (.goto 4, 3) := by decide +kernel
theorem d2_58 : decode method_2_code 58 = .ok (.iconst 0, 1) := by decide +kernel
theorem d2_59 : decode method_2_code 59 = .ok (.istore 6, 2) := by decide +kernel
theorem d2_61 : decode method_2_code 61 = .ok (.iload_n 3, 1) := by decide +kernel
theorem d2_62 : decode method_2_code 62 = .ok (.ifCond .ne 8, 3) := by decide +kernel
theorem d2_65 : decode method_2_code 65 = .ok (.iload 6, 2) := by decide +kernel
theorem d2_67 : decode method_2_code 67 = .ok (.ifCond .eq 7, 3) := by decide +kernel
theorem d2_70 : decode method_2_code 70 = .ok (.iconst 1, 1) := by decide +kernel
theorem d2_71 : decode method_2_code 71 = .ok (.goto 4, 3) := by decide +kernel
theorem d2_74 : decode method_2_code 74 = .ok (.iconst 0, 1) := by decide +kernel
theorem d2_75 : decode method_2_code 75 = .ok (.ireturn, 1) := by decide +kernel
theorem pn_1 : plainName "com/example/triplevec/triplevec/rdf/IrisIsHexPinLaw" = true := by first | (simp [plainName, overriddenIn]; done) | decide +kernel
def f2 (p0 : Int32) : Int32 := (if (if ((p0).toInt64 - (48 : Int64)) < (0 : Int64) then (0 : Int32) else (if ((p0).toInt64 - (48 : Int64)) < (10 : Int64) then (1 : Int32) else (0 : Int32))) = (0 : Int32) then (if (if (((p0 ||| (32 : Int32))).toInt64 - (97 : Int64)) < (0 : Int64) then (0 : Int32) else (if (((p0 ||| (32 : Int32))).toInt64 - (97 : Int64)) < (6 : Int64) then (1 : Int32) else (0 : Int32))) = (0 : Int32) then (0 : Int32) else (1 : Int32)) else (1 : Int32))
theorem ef_rm2 (m : MethodId) (p0 : Int32)  : entryFrame m #[(.int p0)] 7 = mkF m 0 #[.val (.int p0), .unset, .unset, .unset, .unset, .unset, .unset] [] := by first | (simp [entryFrame, mkF, argsToLocals, Value.category]; done) | rfl
set_option maxRecDepth 65536 in
set_option maxHeartbeats 40000000 in
theorem rm2 (l : Launch) (Z : State) (a0 : Array Value) (hw : ∀ d ∈ tables_1, d.before a0 Z = true) (p0 : Int32)  (h0 : Heap)  :
    MetQ l Z (⟨"com/example/triplevec/triplevec/rdf/IrisIsHexPinLaw", "reference", "(I)Z"⟩ : MethodName) method_2_code 7 (some .boolean) [] ({ frames := 0, cells := 0, slots := 0, locals := 0 } : Room) #[(.int p0)] h0 (PQ (.int (f2 p0)) h0) := by
  refine MetQ.body (plainFor_of_name pn_1) fun p e s m below meth c s₁ hx hby hml hown hnm hret hlk hZ e0 X0 => Go.cast (ef_rm2 m p0) ?_
  refine Go.st (T' := s₁) (g' := (mkF m 1 #[.val (.int p0), .unset, .unset, .unset, .unset, .unset, .unset] [(.int p0)])) (fun _ hr => XS.iloadN X0.here hx rfl (hb hby d2_0) rfl hr) ?_
  refine Go.st (T' := s₁) (g' := (mkF m 2 #[.val (.int p0), .unset, .unset, .unset, .unset, .unset, .unset] [(.long (p0).toInt64)])) (fun _ hr => XT.i2l X0.here hx rfl (hb hby d2_1) rfl hr) ?_
  refine Go.st (T' := s₁) (g' := (mkF m 5 #[.val (.int p0), .unset, .unset, .unset, .unset, .unset, .unset] [(.long (48 : Int64)), (.long (p0).toInt64)])) (fun _ hr => X0.ldc2J hx hown (mvT hZ (hw _ (List.mem_of_getElem? (i := 8) rfl))) rfl (hb hby d2_2) hr) ?_
  refine Go.st (T' := s₁) (g' := (mkF m 6 #[.val (.int p0), .unset, .unset, .unset, .unset, .unset, .unset] [(.long ((p0).toInt64 - (48 : Int64)))])) (fun _ hr => XT.lsub X0.here hx rfl (hb hby d2_5) rfl hr) ?_
  refine Go.st (T' := s₁) (g' := (mkF m 7 #[.val (.int p0), .val (.long ((p0).toInt64 - (48 : Int64))), .second, .unset, .unset, .unset, .unset] [])) (fun _ hr => XT.lstoreN X0.here hx rfl (hb hby d2_6) rfl (l' := #[.val (.int p0), .val (.long ((p0).toInt64 - (48 : Int64))), .second, .unset, .unset, .unset, .unset]) rfl hr) ?_
  refine Go.st (T' := s₁) (g' := (mkF m 8 #[.val (.int p0), .val (.long ((p0).toInt64 - (48 : Int64))), .second, .unset, .unset, .unset, .unset] [(.long ((p0).toInt64 - (48 : Int64)))])) (fun _ hr => XT.lloadN X0.here hx rfl (hb hby d2_7) rfl hr) ?_
  refine Go.st (T' := s₁) (g' := (mkF m 9 #[.val (.int p0), .val (.long ((p0).toInt64 - (48 : Int64))), .second, .unset, .unset, .unset, .unset] [(.long (0 : Int64)), (.long ((p0).toInt64 - (48 : Int64)))])) (fun _ hr => XT.lconstV X0.here hx rfl (0 : Int64) (hb hby d2_8) (by decide) hr) ?_
  refine Go.st (T' := s₁) (g' := (mkF m 10 #[.val (.int p0), .val (.long ((p0).toInt64 - (48 : Int64))), .second, .unset, .unset, .unset, .unset] [(.int (XT.cmpL ((p0).toInt64 - (48 : Int64)) (0 : Int64)))])) (fun _ hr => XT.lcmp X0.here hx rfl (hb hby d2_9) rfl hr) ?_
  have J26_1 : ∀ (T2 : State), Stand p l e ({ frames := 0, cells := 0, slots := 0, locals := 0 } : Room) s m #[(.int p0)] below meth c T2 [] 0 0 → T2.heap = h0 → Go p.tables e below (Fin s (PQ (.int (f2 p0)) h0) ({ frames := 0, cells := 0, slots := 0, locals := 0 } : Room).cells ({ frames := 0, cells := 0, slots := 0, locals := 0 } : Room).slots) T2 (mkF m 26 #[.val (.int p0), .val (.long ((p0).toInt64 - (48 : Int64))), .second, .unset, .unset, .unset, .unset] [(.int (if ((p0).toInt64 - (48 : Int64)) < (0 : Int64) then (0 : Int32) else (if ((p0).toInt64 - (48 : Int64)) < (10 : Int64) then (1 : Int32) else (0 : Int32))))]) := by
    intro T2 X2 e2
    refine Go.st (T' := T2) (g' := (mkF m 27 #[.val (.int p0), .val (.long ((p0).toInt64 - (48 : Int64))), .second, .val (.int (if ((p0).toInt64 - (48 : Int64)) < (0 : Int64) then (0 : Int32) else (if ((p0).toInt64 - (48 : Int64)) < (10 : Int64) then (1 : Int32) else (0 : Int32)))), .unset, .unset, .unset] [])) (fun _ hr => XS.istoreN X2.here hx rfl (hb hby d2_26) rfl (l' := #[.val (.int p0), .val (.long ((p0).toInt64 - (48 : Int64))), .second, .val (.int (if ((p0).toInt64 - (48 : Int64)) < (0 : Int64) then (0 : Int32) else (if ((p0).toInt64 - (48 : Int64)) < (10 : Int64) then (1 : Int32) else (0 : Int32)))), .unset, .unset, .unset]) rfl hr) ?_
    refine Go.st (T' := T2) (g' := (mkF m 28 #[.val (.int p0), .val (.long ((p0).toInt64 - (48 : Int64))), .second, .val (.int (if ((p0).toInt64 - (48 : Int64)) < (0 : Int64) then (0 : Int32) else (if ((p0).toInt64 - (48 : Int64)) < (10 : Int64) then (1 : Int32) else (0 : Int32)))), .unset, .unset, .unset] [(.int p0)])) (fun _ hr => XS.iloadN X2.here hx rfl (hb hby d2_27) rfl hr) ?_
    refine Go.st (T' := T2) (g' := (mkF m 30 #[.val (.int p0), .val (.long ((p0).toInt64 - (48 : Int64))), .second, .val (.int (if ((p0).toInt64 - (48 : Int64)) < (0 : Int64) then (0 : Int32) else (if ((p0).toInt64 - (48 : Int64)) < (10 : Int64) then (1 : Int32) else (0 : Int32)))), .unset, .unset, .unset] [(.int (32 : Int32)), (.int p0)])) (fun _ hr => XT.bipushV X2.here hx rfl (32 : Int32) (hb hby d2_28) (by decide) hr) ?_
    refine Go.st (T' := T2) (g' := (mkF m 31 #[.val (.int p0), .val (.long ((p0).toInt64 - (48 : Int64))), .second, .val (.int (if ((p0).toInt64 - (48 : Int64)) < (0 : Int64) then (0 : Int32) else (if ((p0).toInt64 - (48 : Int64)) < (10 : Int64) then (1 : Int32) else (0 : Int32)))), .unset, .unset, .unset] [(.int (p0 ||| (32 : Int32)))])) (fun _ hr => XT.ior X2.here hx rfl (hb hby d2_30) rfl hr) ?_
    refine Go.st (T' := T2) (g' := (mkF m 32 #[.val (.int p0), .val (.long ((p0).toInt64 - (48 : Int64))), .second, .val (.int (if ((p0).toInt64 - (48 : Int64)) < (0 : Int64) then (0 : Int32) else (if ((p0).toInt64 - (48 : Int64)) < (10 : Int64) then (1 : Int32) else (0 : Int32)))), .unset, .unset, .unset] [(.long ((p0 ||| (32 : Int32))).toInt64)])) (fun _ hr => XT.i2l X2.here hx rfl (hb hby d2_31) rfl hr) ?_
    refine Go.st (T' := T2) (g' := (mkF m 35 #[.val (.int p0), .val (.long ((p0).toInt64 - (48 : Int64))), .second, .val (.int (if ((p0).toInt64 - (48 : Int64)) < (0 : Int64) then (0 : Int32) else (if ((p0).toInt64 - (48 : Int64)) < (10 : Int64) then (1 : Int32) else (0 : Int32)))), .unset, .unset, .unset] [(.long (97 : Int64)), (.long ((p0 ||| (32 : Int32))).toInt64)])) (fun _ hr => X2.ldc2J hx hown (mvT hZ (hw _ (List.mem_of_getElem? (i := 9) rfl))) rfl (hb hby d2_32) hr) ?_
    refine Go.st (T' := T2) (g' := (mkF m 36 #[.val (.int p0), .val (.long ((p0).toInt64 - (48 : Int64))), .second, .val (.int (if ((p0).toInt64 - (48 : Int64)) < (0 : Int64) then (0 : Int32) else (if ((p0).toInt64 - (48 : Int64)) < (10 : Int64) then (1 : Int32) else (0 : Int32)))), .unset, .unset, .unset] [(.long (((p0 ||| (32 : Int32))).toInt64 - (97 : Int64)))])) (fun _ hr => XT.lsub X2.here hx rfl (hb hby d2_35) rfl hr) ?_
    refine Go.st (T' := T2) (g' := (mkF m 38 #[.val (.int p0), .val (.long ((p0).toInt64 - (48 : Int64))), .second, .val (.int (if ((p0).toInt64 - (48 : Int64)) < (0 : Int64) then (0 : Int32) else (if ((p0).toInt64 - (48 : Int64)) < (10 : Int64) then (1 : Int32) else (0 : Int32)))), .val (.long (((p0 ||| (32 : Int32))).toInt64 - (97 : Int64))), .second, .unset] [])) (fun _ hr => XT.lstore X2.here hx rfl (hb hby d2_36) rfl (l' := #[.val (.int p0), .val (.long ((p0).toInt64 - (48 : Int64))), .second, .val (.int (if ((p0).toInt64 - (48 : Int64)) < (0 : Int64) then (0 : Int32) else (if ((p0).toInt64 - (48 : Int64)) < (10 : Int64) then (1 : Int32) else (0 : Int32)))), .val (.long (((p0 ||| (32 : Int32))).toInt64 - (97 : Int64))), .second, .unset]) rfl hr) ?_
    refine Go.st (T' := T2) (g' := (mkF m 40 #[.val (.int p0), .val (.long ((p0).toInt64 - (48 : Int64))), .second, .val (.int (if ((p0).toInt64 - (48 : Int64)) < (0 : Int64) then (0 : Int32) else (if ((p0).toInt64 - (48 : Int64)) < (10 : Int64) then (1 : Int32) else (0 : Int32)))), .val (.long (((p0 ||| (32 : Int32))).toInt64 - (97 : Int64))), .second, .unset] [(.long (((p0 ||| (32 : Int32))).toInt64 - (97 : Int64)))])) (fun _ hr => XT.lload X2.here hx rfl (hb hby d2_38) rfl hr) ?_
    refine Go.st (T' := T2) (g' := (mkF m 41 #[.val (.int p0), .val (.long ((p0).toInt64 - (48 : Int64))), .second, .val (.int (if ((p0).toInt64 - (48 : Int64)) < (0 : Int64) then (0 : Int32) else (if ((p0).toInt64 - (48 : Int64)) < (10 : Int64) then (1 : Int32) else (0 : Int32)))), .val (.long (((p0 ||| (32 : Int32))).toInt64 - (97 : Int64))), .second, .unset] [(.long (0 : Int64)), (.long (((p0 ||| (32 : Int32))).toInt64 - (97 : Int64)))])) (fun _ hr => XT.lconstV X2.here hx rfl (0 : Int64) (hb hby d2_40) (by decide) hr) ?_
    refine Go.st (T' := T2) (g' := (mkF m 42 #[.val (.int p0), .val (.long ((p0).toInt64 - (48 : Int64))), .second, .val (.int (if ((p0).toInt64 - (48 : Int64)) < (0 : Int64) then (0 : Int32) else (if ((p0).toInt64 - (48 : Int64)) < (10 : Int64) then (1 : Int32) else (0 : Int32)))), .val (.long (((p0 ||| (32 : Int32))).toInt64 - (97 : Int64))), .second, .unset] [(.int (XT.cmpL (((p0 ||| (32 : Int32))).toInt64 - (97 : Int64)) (0 : Int64)))])) (fun _ hr => XT.lcmp X2.here hx rfl (hb hby d2_41) rfl hr) ?_
    have J59_3 : ∀ (T4 : State), Stand p l e ({ frames := 0, cells := 0, slots := 0, locals := 0 } : Room) s m #[(.int p0)] below meth c T4 [] 0 0 → T4.heap = h0 → Go p.tables e below (Fin s (PQ (.int (f2 p0)) h0) ({ frames := 0, cells := 0, slots := 0, locals := 0 } : Room).cells ({ frames := 0, cells := 0, slots := 0, locals := 0 } : Room).slots) T4 (mkF m 59 #[.val (.int p0), .val (.long ((p0).toInt64 - (48 : Int64))), .second, .val (.int (if ((p0).toInt64 - (48 : Int64)) < (0 : Int64) then (0 : Int32) else (if ((p0).toInt64 - (48 : Int64)) < (10 : Int64) then (1 : Int32) else (0 : Int32)))), .val (.long (((p0 ||| (32 : Int32))).toInt64 - (97 : Int64))), .second, .unset] [(.int (if (((p0 ||| (32 : Int32))).toInt64 - (97 : Int64)) < (0 : Int64) then (0 : Int32) else (if (((p0 ||| (32 : Int32))).toInt64 - (97 : Int64)) < (6 : Int64) then (1 : Int32) else (0 : Int32))))]) := by
      intro T4 X4 e4
      refine Go.st (T' := T4) (g' := (mkF m 61 #[.val (.int p0), .val (.long ((p0).toInt64 - (48 : Int64))), .second, .val (.int (if ((p0).toInt64 - (48 : Int64)) < (0 : Int64) then (0 : Int32) else (if ((p0).toInt64 - (48 : Int64)) < (10 : Int64) then (1 : Int32) else (0 : Int32)))), .val (.long (((p0 ||| (32 : Int32))).toInt64 - (97 : Int64))), .second, .val (.int (if (((p0 ||| (32 : Int32))).toInt64 - (97 : Int64)) < (0 : Int64) then (0 : Int32) else (if (((p0 ||| (32 : Int32))).toInt64 - (97 : Int64)) < (6 : Int64) then (1 : Int32) else (0 : Int32))))] [])) (fun _ hr => XS.istore X4.here hx rfl (hb hby d2_59) rfl (l' := #[.val (.int p0), .val (.long ((p0).toInt64 - (48 : Int64))), .second, .val (.int (if ((p0).toInt64 - (48 : Int64)) < (0 : Int64) then (0 : Int32) else (if ((p0).toInt64 - (48 : Int64)) < (10 : Int64) then (1 : Int32) else (0 : Int32)))), .val (.long (((p0 ||| (32 : Int32))).toInt64 - (97 : Int64))), .second, .val (.int (if (((p0 ||| (32 : Int32))).toInt64 - (97 : Int64)) < (0 : Int64) then (0 : Int32) else (if (((p0 ||| (32 : Int32))).toInt64 - (97 : Int64)) < (6 : Int64) then (1 : Int32) else (0 : Int32))))]) rfl hr) ?_
      refine Go.st (T' := T4) (g' := (mkF m 62 #[.val (.int p0), .val (.long ((p0).toInt64 - (48 : Int64))), .second, .val (.int (if ((p0).toInt64 - (48 : Int64)) < (0 : Int64) then (0 : Int32) else (if ((p0).toInt64 - (48 : Int64)) < (10 : Int64) then (1 : Int32) else (0 : Int32)))), .val (.long (((p0 ||| (32 : Int32))).toInt64 - (97 : Int64))), .second, .val (.int (if (((p0 ||| (32 : Int32))).toInt64 - (97 : Int64)) < (0 : Int64) then (0 : Int32) else (if (((p0 ||| (32 : Int32))).toInt64 - (97 : Int64)) < (6 : Int64) then (1 : Int32) else (0 : Int32))))] [(.int (if ((p0).toInt64 - (48 : Int64)) < (0 : Int64) then (0 : Int32) else (if ((p0).toInt64 - (48 : Int64)) < (10 : Int64) then (1 : Int32) else (0 : Int32))))])) (fun _ hr => XS.iloadN X4.here hx rfl (hb hby d2_61) rfl hr) ?_
      by_cases c62_5 : (if ((p0).toInt64 - (48 : Int64)) < (0 : Int64) then (0 : Int32) else (if ((p0).toInt64 - (48 : Int64)) < (10 : Int64) then (1 : Int32) else (0 : Int32))) = (0 : Int32)
      · refine Go.st (T' := T4) (g' := (mkF m 65 #[.val (.int p0), .val (.long ((p0).toInt64 - (48 : Int64))), .second, .val (.int (if ((p0).toInt64 - (48 : Int64)) < (0 : Int64) then (0 : Int32) else (if ((p0).toInt64 - (48 : Int64)) < (10 : Int64) then (1 : Int32) else (0 : Int32)))), .val (.long (((p0 ||| (32 : Int32))).toInt64 - (97 : Int64))), .second, .val (.int (if (((p0 ||| (32 : Int32))).toInt64 - (97 : Int64)) < (0 : Int64) then (0 : Int32) else (if (((p0 ||| (32 : Int32))).toInt64 - (97 : Int64)) < (6 : Int64) then (1 : Int32) else (0 : Int32))))] [])) (fun _ hr => XS.ifNo X4.here hx rfl (hb hby d2_62) rfl (XT.i0_ne_f c62_5) hr) ?_
        refine Go.st (T' := T4) (g' := (mkF m 67 #[.val (.int p0), .val (.long ((p0).toInt64 - (48 : Int64))), .second, .val (.int (if ((p0).toInt64 - (48 : Int64)) < (0 : Int64) then (0 : Int32) else (if ((p0).toInt64 - (48 : Int64)) < (10 : Int64) then (1 : Int32) else (0 : Int32)))), .val (.long (((p0 ||| (32 : Int32))).toInt64 - (97 : Int64))), .second, .val (.int (if (((p0 ||| (32 : Int32))).toInt64 - (97 : Int64)) < (0 : Int64) then (0 : Int32) else (if (((p0 ||| (32 : Int32))).toInt64 - (97 : Int64)) < (6 : Int64) then (1 : Int32) else (0 : Int32))))] [(.int (if (((p0 ||| (32 : Int32))).toInt64 - (97 : Int64)) < (0 : Int64) then (0 : Int32) else (if (((p0 ||| (32 : Int32))).toInt64 - (97 : Int64)) < (6 : Int64) then (1 : Int32) else (0 : Int32))))])) (fun _ hr => XS.iload X4.here hx rfl (hb hby d2_65) rfl hr) ?_
        by_cases c67_6 : (if (((p0 ||| (32 : Int32))).toInt64 - (97 : Int64)) < (0 : Int64) then (0 : Int32) else (if (((p0 ||| (32 : Int32))).toInt64 - (97 : Int64)) < (6 : Int64) then (1 : Int32) else (0 : Int32))) = (0 : Int32)
        · refine Go.st (T' := T4) (g' := (mkF m 74 #[.val (.int p0), .val (.long ((p0).toInt64 - (48 : Int64))), .second, .val (.int (if ((p0).toInt64 - (48 : Int64)) < (0 : Int64) then (0 : Int32) else (if ((p0).toInt64 - (48 : Int64)) < (10 : Int64) then (1 : Int32) else (0 : Int32)))), .val (.long (((p0 ||| (32 : Int32))).toInt64 - (97 : Int64))), .second, .val (.int (if (((p0 ||| (32 : Int32))).toInt64 - (97 : Int64)) < (0 : Int64) then (0 : Int32) else (if (((p0 ||| (32 : Int32))).toInt64 - (97 : Int64)) < (6 : Int64) then (1 : Int32) else (0 : Int32))))] [])) (fun _ hr => XS.ifYes X4.here hx rfl (pc0 := 67) (pc' := 74) rfl (hb hby d2_67) rfl (XT.i0_eq_t c67_6) (by decide) (by decide) hr) ?_
          refine Go.st (T' := T4) (g' := (mkF m 75 #[.val (.int p0), .val (.long ((p0).toInt64 - (48 : Int64))), .second, .val (.int (if ((p0).toInt64 - (48 : Int64)) < (0 : Int64) then (0 : Int32) else (if ((p0).toInt64 - (48 : Int64)) < (10 : Int64) then (1 : Int32) else (0 : Int32)))), .val (.long (((p0 ||| (32 : Int32))).toInt64 - (97 : Int64))), .second, .val (.int (if (((p0 ||| (32 : Int32))).toInt64 - (97 : Int64)) < (0 : Int64) then (0 : Int32) else (if (((p0 ||| (32 : Int32))).toInt64 - (97 : Int64)) < (6 : Int64) then (1 : Int32) else (0 : Int32))))] [(.int (0 : Int32))])) (fun _ hr => XT.iconstV X4.here hx rfl (0 : Int32) (hb hby d2_74) (by decide) hr) ?_
          exact Go.retN X4 hx hlk hret (by simp) (hb hby d2_75) (Nat.zero_le _) (Nat.zero_le _) ⟨congrArg (fun z => some (Value.int z)) ((by decide : nar .boolean (0 : Int32) = (0 : Int32)).trans (by simp only [f2, if_pos c62_5, if_pos c67_6])), rfl, e4⟩
        · refine Go.st (T' := T4) (g' := (mkF m 70 #[.val (.int p0), .val (.long ((p0).toInt64 - (48 : Int64))), .second, .val (.int (if ((p0).toInt64 - (48 : Int64)) < (0 : Int64) then (0 : Int32) else (if ((p0).toInt64 - (48 : Int64)) < (10 : Int64) then (1 : Int32) else (0 : Int32)))), .val (.long (((p0 ||| (32 : Int32))).toInt64 - (97 : Int64))), .second, .val (.int (if (((p0 ||| (32 : Int32))).toInt64 - (97 : Int64)) < (0 : Int64) then (0 : Int32) else (if (((p0 ||| (32 : Int32))).toInt64 - (97 : Int64)) < (6 : Int64) then (1 : Int32) else (0 : Int32))))] [])) (fun _ hr => XS.ifNo X4.here hx rfl (hb hby d2_67) rfl (XT.i0_eq_f c67_6) hr) ?_
          refine Go.st (T' := T4) (g' := (mkF m 71 #[.val (.int p0), .val (.long ((p0).toInt64 - (48 : Int64))), .second, .val (.int (if ((p0).toInt64 - (48 : Int64)) < (0 : Int64) then (0 : Int32) else (if ((p0).toInt64 - (48 : Int64)) < (10 : Int64) then (1 : Int32) else (0 : Int32)))), .val (.long (((p0 ||| (32 : Int32))).toInt64 - (97 : Int64))), .second, .val (.int (if (((p0 ||| (32 : Int32))).toInt64 - (97 : Int64)) < (0 : Int64) then (0 : Int32) else (if (((p0 ||| (32 : Int32))).toInt64 - (97 : Int64)) < (6 : Int64) then (1 : Int32) else (0 : Int32))))] [(.int (1 : Int32))])) (fun _ hr => XT.iconstV X4.here hx rfl (1 : Int32) (hb hby d2_70) (by decide) hr) ?_
          refine Go.st (T' := T4) (g' := (mkF m 75 #[.val (.int p0), .val (.long ((p0).toInt64 - (48 : Int64))), .second, .val (.int (if ((p0).toInt64 - (48 : Int64)) < (0 : Int64) then (0 : Int32) else (if ((p0).toInt64 - (48 : Int64)) < (10 : Int64) then (1 : Int32) else (0 : Int32)))), .val (.long (((p0 ||| (32 : Int32))).toInt64 - (97 : Int64))), .second, .val (.int (if (((p0 ||| (32 : Int32))).toInt64 - (97 : Int64)) < (0 : Int64) then (0 : Int32) else (if (((p0 ||| (32 : Int32))).toInt64 - (97 : Int64)) < (6 : Int64) then (1 : Int32) else (0 : Int32))))] [(.int (1 : Int32))])) (fun _ hr => XS.goto X4.here hx rfl (pc0 := 71) (pc' := 75) rfl (hb hby d2_71) (by decide) (by decide) hr) ?_
          exact Go.retN X4 hx hlk hret (by simp) (hb hby d2_75) (Nat.zero_le _) (Nat.zero_le _) ⟨congrArg (fun z => some (Value.int z)) ((by decide : nar .boolean (1 : Int32) = (1 : Int32)).trans (by simp only [f2, if_pos c62_5, if_neg c67_6])), rfl, e4⟩
      · refine Go.st (T' := T4) (g' := (mkF m 70 #[.val (.int p0), .val (.long ((p0).toInt64 - (48 : Int64))), .second, .val (.int (if ((p0).toInt64 - (48 : Int64)) < (0 : Int64) then (0 : Int32) else (if ((p0).toInt64 - (48 : Int64)) < (10 : Int64) then (1 : Int32) else (0 : Int32)))), .val (.long (((p0 ||| (32 : Int32))).toInt64 - (97 : Int64))), .second, .val (.int (if (((p0 ||| (32 : Int32))).toInt64 - (97 : Int64)) < (0 : Int64) then (0 : Int32) else (if (((p0 ||| (32 : Int32))).toInt64 - (97 : Int64)) < (6 : Int64) then (1 : Int32) else (0 : Int32))))] [])) (fun _ hr => XS.ifYes X4.here hx rfl (pc0 := 62) (pc' := 70) rfl (hb hby d2_62) rfl (XT.i0_ne_t c62_5) (by decide) (by decide) hr) ?_
        refine Go.st (T' := T4) (g' := (mkF m 71 #[.val (.int p0), .val (.long ((p0).toInt64 - (48 : Int64))), .second, .val (.int (if ((p0).toInt64 - (48 : Int64)) < (0 : Int64) then (0 : Int32) else (if ((p0).toInt64 - (48 : Int64)) < (10 : Int64) then (1 : Int32) else (0 : Int32)))), .val (.long (((p0 ||| (32 : Int32))).toInt64 - (97 : Int64))), .second, .val (.int (if (((p0 ||| (32 : Int32))).toInt64 - (97 : Int64)) < (0 : Int64) then (0 : Int32) else (if (((p0 ||| (32 : Int32))).toInt64 - (97 : Int64)) < (6 : Int64) then (1 : Int32) else (0 : Int32))))] [(.int (1 : Int32))])) (fun _ hr => XT.iconstV X4.here hx rfl (1 : Int32) (hb hby d2_70) (by decide) hr) ?_
        refine Go.st (T' := T4) (g' := (mkF m 75 #[.val (.int p0), .val (.long ((p0).toInt64 - (48 : Int64))), .second, .val (.int (if ((p0).toInt64 - (48 : Int64)) < (0 : Int64) then (0 : Int32) else (if ((p0).toInt64 - (48 : Int64)) < (10 : Int64) then (1 : Int32) else (0 : Int32)))), .val (.long (((p0 ||| (32 : Int32))).toInt64 - (97 : Int64))), .second, .val (.int (if (((p0 ||| (32 : Int32))).toInt64 - (97 : Int64)) < (0 : Int64) then (0 : Int32) else (if (((p0 ||| (32 : Int32))).toInt64 - (97 : Int64)) < (6 : Int64) then (1 : Int32) else (0 : Int32))))] [(.int (1 : Int32))])) (fun _ hr => XS.goto X4.here hx rfl (pc0 := 71) (pc' := 75) rfl (hb hby d2_71) (by decide) (by decide) hr) ?_
        exact Go.retN X4 hx hlk hret (by simp) (hb hby d2_75) (Nat.zero_le _) (Nat.zero_le _) ⟨congrArg (fun z => some (Value.int z)) ((by decide : nar .boolean (1 : Int32) = (1 : Int32)).trans (by simp only [f2, if_neg c62_5])), rfl, e4⟩
    by_cases c42_7 : (((p0 ||| (32 : Int32))).toInt64 - (97 : Int64)) < (0 : Int64)
    · refine Go.st (T' := T2) (g' := (mkF m 58 #[.val (.int p0), .val (.long ((p0).toInt64 - (48 : Int64))), .second, .val (.int (if ((p0).toInt64 - (48 : Int64)) < (0 : Int64) then (0 : Int32) else (if ((p0).toInt64 - (48 : Int64)) < (10 : Int64) then (1 : Int32) else (0 : Int32)))), .val (.long (((p0 ||| (32 : Int32))).toInt64 - (97 : Int64))), .second, .unset] [])) (fun _ hr => XS.ifYes X2.here hx rfl (pc0 := 42) (pc' := 58) rfl (hb hby d2_42) rfl (XT.ll_lt_t c42_7) (by decide) (by decide) hr) ?_
      refine Go.st (T' := T2) (g' := (mkF m 59 #[.val (.int p0), .val (.long ((p0).toInt64 - (48 : Int64))), .second, .val (.int (if ((p0).toInt64 - (48 : Int64)) < (0 : Int64) then (0 : Int32) else (if ((p0).toInt64 - (48 : Int64)) < (10 : Int64) then (1 : Int32) else (0 : Int32)))), .val (.long (((p0 ||| (32 : Int32))).toInt64 - (97 : Int64))), .second, .unset] [(.int (0 : Int32))])) (fun _ hr => XT.iconstV X2.here hx rfl (0 : Int32) (hb hby d2_58) (by decide) hr) ?_
      have q := J59_3 T2 X2 e2
      simp only [if_pos c42_7] at q
      exact q
    · refine Go.st (T' := T2) (g' := (mkF m 45 #[.val (.int p0), .val (.long ((p0).toInt64 - (48 : Int64))), .second, .val (.int (if ((p0).toInt64 - (48 : Int64)) < (0 : Int64) then (0 : Int32) else (if ((p0).toInt64 - (48 : Int64)) < (10 : Int64) then (1 : Int32) else (0 : Int32)))), .val (.long (((p0 ||| (32 : Int32))).toInt64 - (97 : Int64))), .second, .unset] [])) (fun _ hr => XS.ifNo X2.here hx rfl (hb hby d2_42) rfl (XT.ll_lt_f c42_7) hr) ?_
      refine Go.st (T' := T2) (g' := (mkF m 47 #[.val (.int p0), .val (.long ((p0).toInt64 - (48 : Int64))), .second, .val (.int (if ((p0).toInt64 - (48 : Int64)) < (0 : Int64) then (0 : Int32) else (if ((p0).toInt64 - (48 : Int64)) < (10 : Int64) then (1 : Int32) else (0 : Int32)))), .val (.long (((p0 ||| (32 : Int32))).toInt64 - (97 : Int64))), .second, .unset] [(.long (((p0 ||| (32 : Int32))).toInt64 - (97 : Int64)))])) (fun _ hr => XT.lload X2.here hx rfl (hb hby d2_45) rfl hr) ?_
      refine Go.st (T' := T2) (g' := (mkF m 50 #[.val (.int p0), .val (.long ((p0).toInt64 - (48 : Int64))), .second, .val (.int (if ((p0).toInt64 - (48 : Int64)) < (0 : Int64) then (0 : Int32) else (if ((p0).toInt64 - (48 : Int64)) < (10 : Int64) then (1 : Int32) else (0 : Int32)))), .val (.long (((p0 ||| (32 : Int32))).toInt64 - (97 : Int64))), .second, .unset] [(.long (6 : Int64)), (.long (((p0 ||| (32 : Int32))).toInt64 - (97 : Int64)))])) (fun _ hr => X2.ldc2J hx hown (mvT hZ (hw _ (List.mem_of_getElem? (i := 11) rfl))) rfl (hb hby d2_47) hr) ?_
      refine Go.st (T' := T2) (g' := (mkF m 51 #[.val (.int p0), .val (.long ((p0).toInt64 - (48 : Int64))), .second, .val (.int (if ((p0).toInt64 - (48 : Int64)) < (0 : Int64) then (0 : Int32) else (if ((p0).toInt64 - (48 : Int64)) < (10 : Int64) then (1 : Int32) else (0 : Int32)))), .val (.long (((p0 ||| (32 : Int32))).toInt64 - (97 : Int64))), .second, .unset] [(.int (XT.cmpL (((p0 ||| (32 : Int32))).toInt64 - (97 : Int64)) (6 : Int64)))])) (fun _ hr => XT.lcmp X2.here hx rfl (hb hby d2_50) rfl hr) ?_
      by_cases c51_8 : (((p0 ||| (32 : Int32))).toInt64 - (97 : Int64)) < (6 : Int64)
      · refine Go.st (T' := T2) (g' := (mkF m 54 #[.val (.int p0), .val (.long ((p0).toInt64 - (48 : Int64))), .second, .val (.int (if ((p0).toInt64 - (48 : Int64)) < (0 : Int64) then (0 : Int32) else (if ((p0).toInt64 - (48 : Int64)) < (10 : Int64) then (1 : Int32) else (0 : Int32)))), .val (.long (((p0 ||| (32 : Int32))).toInt64 - (97 : Int64))), .second, .unset] [])) (fun _ hr => XS.ifNo X2.here hx rfl (hb hby d2_51) rfl (XT.ll_ge_f c51_8) hr) ?_
        refine Go.st (T' := T2) (g' := (mkF m 55 #[.val (.int p0), .val (.long ((p0).toInt64 - (48 : Int64))), .second, .val (.int (if ((p0).toInt64 - (48 : Int64)) < (0 : Int64) then (0 : Int32) else (if ((p0).toInt64 - (48 : Int64)) < (10 : Int64) then (1 : Int32) else (0 : Int32)))), .val (.long (((p0 ||| (32 : Int32))).toInt64 - (97 : Int64))), .second, .unset] [(.int (1 : Int32))])) (fun _ hr => XT.iconstV X2.here hx rfl (1 : Int32) (hb hby d2_54) (by decide) hr) ?_
        refine Go.st (T' := T2) (g' := (mkF m 59 #[.val (.int p0), .val (.long ((p0).toInt64 - (48 : Int64))), .second, .val (.int (if ((p0).toInt64 - (48 : Int64)) < (0 : Int64) then (0 : Int32) else (if ((p0).toInt64 - (48 : Int64)) < (10 : Int64) then (1 : Int32) else (0 : Int32)))), .val (.long (((p0 ||| (32 : Int32))).toInt64 - (97 : Int64))), .second, .unset] [(.int (1 : Int32))])) (fun _ hr => XS.goto X2.here hx rfl (pc0 := 55) (pc' := 59) rfl (hb hby d2_55) (by decide) (by decide) hr) ?_
        have q := J59_3 T2 X2 e2
        simp only [if_neg c42_7, if_pos c51_8] at q
        exact q
      · refine Go.st (T' := T2) (g' := (mkF m 58 #[.val (.int p0), .val (.long ((p0).toInt64 - (48 : Int64))), .second, .val (.int (if ((p0).toInt64 - (48 : Int64)) < (0 : Int64) then (0 : Int32) else (if ((p0).toInt64 - (48 : Int64)) < (10 : Int64) then (1 : Int32) else (0 : Int32)))), .val (.long (((p0 ||| (32 : Int32))).toInt64 - (97 : Int64))), .second, .unset] [])) (fun _ hr => XS.ifYes X2.here hx rfl (pc0 := 51) (pc' := 58) rfl (hb hby d2_51) rfl (XT.ll_ge_t c51_8) (by decide) (by decide) hr) ?_
        refine Go.st (T' := T2) (g' := (mkF m 59 #[.val (.int p0), .val (.long ((p0).toInt64 - (48 : Int64))), .second, .val (.int (if ((p0).toInt64 - (48 : Int64)) < (0 : Int64) then (0 : Int32) else (if ((p0).toInt64 - (48 : Int64)) < (10 : Int64) then (1 : Int32) else (0 : Int32)))), .val (.long (((p0 ||| (32 : Int32))).toInt64 - (97 : Int64))), .second, .unset] [(.int (0 : Int32))])) (fun _ hr => XT.iconstV X2.here hx rfl (0 : Int32) (hb hby d2_58) (by decide) hr) ?_
        have q := J59_3 T2 X2 e2
        simp only [if_neg c42_7, if_neg c51_8] at q
        exact q
  by_cases c10_9 : ((p0).toInt64 - (48 : Int64)) < (0 : Int64)
  · refine Go.st (T' := s₁) (g' := (mkF m 25 #[.val (.int p0), .val (.long ((p0).toInt64 - (48 : Int64))), .second, .unset, .unset, .unset, .unset] [])) (fun _ hr => XS.ifYes X0.here hx rfl (pc0 := 10) (pc' := 25) rfl (hb hby d2_10) rfl (XT.ll_lt_t c10_9) (by decide) (by decide) hr) ?_
    refine Go.st (T' := s₁) (g' := (mkF m 26 #[.val (.int p0), .val (.long ((p0).toInt64 - (48 : Int64))), .second, .unset, .unset, .unset, .unset] [(.int (0 : Int32))])) (fun _ hr => XT.iconstV X0.here hx rfl (0 : Int32) (hb hby d2_25) (by decide) hr) ?_
    have q := J26_1 s₁ X0 e0
    simp only [if_pos c10_9] at q
    exact q
  · refine Go.st (T' := s₁) (g' := (mkF m 13 #[.val (.int p0), .val (.long ((p0).toInt64 - (48 : Int64))), .second, .unset, .unset, .unset, .unset] [])) (fun _ hr => XS.ifNo X0.here hx rfl (hb hby d2_10) rfl (XT.ll_lt_f c10_9) hr) ?_
    refine Go.st (T' := s₁) (g' := (mkF m 14 #[.val (.int p0), .val (.long ((p0).toInt64 - (48 : Int64))), .second, .unset, .unset, .unset, .unset] [(.long ((p0).toInt64 - (48 : Int64)))])) (fun _ hr => XT.lloadN X0.here hx rfl (hb hby d2_13) rfl hr) ?_
    refine Go.st (T' := s₁) (g' := (mkF m 17 #[.val (.int p0), .val (.long ((p0).toInt64 - (48 : Int64))), .second, .unset, .unset, .unset, .unset] [(.long (10 : Int64)), (.long ((p0).toInt64 - (48 : Int64)))])) (fun _ hr => X0.ldc2J hx hown (mvT hZ (hw _ (List.mem_of_getElem? (i := 10) rfl))) rfl (hb hby d2_14) hr) ?_
    refine Go.st (T' := s₁) (g' := (mkF m 18 #[.val (.int p0), .val (.long ((p0).toInt64 - (48 : Int64))), .second, .unset, .unset, .unset, .unset] [(.int (XT.cmpL ((p0).toInt64 - (48 : Int64)) (10 : Int64)))])) (fun _ hr => XT.lcmp X0.here hx rfl (hb hby d2_17) rfl hr) ?_
    by_cases c18_10 : ((p0).toInt64 - (48 : Int64)) < (10 : Int64)
    · refine Go.st (T' := s₁) (g' := (mkF m 21 #[.val (.int p0), .val (.long ((p0).toInt64 - (48 : Int64))), .second, .unset, .unset, .unset, .unset] [])) (fun _ hr => XS.ifNo X0.here hx rfl (hb hby d2_18) rfl (XT.ll_ge_f c18_10) hr) ?_
      refine Go.st (T' := s₁) (g' := (mkF m 22 #[.val (.int p0), .val (.long ((p0).toInt64 - (48 : Int64))), .second, .unset, .unset, .unset, .unset] [(.int (1 : Int32))])) (fun _ hr => XT.iconstV X0.here hx rfl (1 : Int32) (hb hby d2_21) (by decide) hr) ?_
      refine Go.st (T' := s₁) (g' := (mkF m 26 #[.val (.int p0), .val (.long ((p0).toInt64 - (48 : Int64))), .second, .unset, .unset, .unset, .unset] [(.int (1 : Int32))])) (fun _ hr => XS.goto X0.here hx rfl (pc0 := 22) (pc' := 26) rfl (hb hby d2_22) (by decide) (by decide) hr) ?_
      have q := J26_1 s₁ X0 e0
      simp only [if_neg c10_9, if_pos c18_10] at q
      exact q
    · refine Go.st (T' := s₁) (g' := (mkF m 25 #[.val (.int p0), .val (.long ((p0).toInt64 - (48 : Int64))), .second, .unset, .unset, .unset, .unset] [])) (fun _ hr => XS.ifYes X0.here hx rfl (pc0 := 18) (pc' := 25) rfl (hb hby d2_18) rfl (XT.ll_ge_t c18_10) (by decide) (by decide) hr) ?_
      refine Go.st (T' := s₁) (g' := (mkF m 26 #[.val (.int p0), .val (.long ((p0).toInt64 - (48 : Int64))), .second, .unset, .unset, .unset, .unset] [(.int (0 : Int32))])) (fun _ hr => XT.iconstV X0.here hx rfl (0 : Int32) (hb hby d2_25) (by decide) hr) ?_
      have q := J26_1 s₁ X0 e0
      simp only [if_neg c10_9, if_neg c18_10] at q
      exact q
theorem own_or32 (c : Int32) : ((c ||| (32 : Int32)).toInt = c.toInt ∧ c.toInt / 32 % 2 = 1) ∨ ((c ||| (32 : Int32)).toInt = c.toInt + 32 ∧ c.toInt / 32 % 2 = 0) := by
  have e1 : (c ||| (32 : Int32)).toBitVec.toNat = c.toBitVec.toNat ||| 32 := by
    simp only [Int32.toBitVec_or, BitVec.toNat_or]; rfl
  have hlt := c.toBitVec.isLt
  have hlt' := (c ||| (32 : Int32)).toBitVec.isLt
  have t1 : c.toInt = if 2 * c.toBitVec.toNat < 2 ^ 32 then (c.toBitVec.toNat : Int) else (c.toBitVec.toNat : Int) - (2 ^ 32 : Nat) := BitVec.toInt_eq_toNat_cond _
  have t2 : (c ||| (32 : Int32)).toInt = if 2 * (c ||| (32 : Int32)).toBitVec.toNat < 2 ^ 32 then ((c ||| (32 : Int32)).toBitVec.toNat : Int) else ((c ||| (32 : Int32)).toBitVec.toNat : Int) - (2 ^ 32 : Nat) := BitVec.toInt_eq_toNat_cond _
  have key : c.toBitVec.toNat ||| 32 = if c.toBitVec.toNat / 32 % 2 = 1 then c.toBitVec.toNat else c.toBitVec.toNat + 32 := by
    generalize c.toBitVec.toNat = n
    have h : n = 64 * (n / 64) + n % 64 := by omega
    have hs : n % 64 < 64 := Nat.mod_lt _ (by decide)
    have h2 : n / 32 % 2 = (n % 64) / 32 := by omega
    rw [h2]
    have o : n ||| 32 = 64 * (n / 64) + ((n % 64) ||| 32) := by
      apply Nat.eq_of_testBit_eq
      intro i
      have hb : (n % 64 ||| 32) < 2 ^ 6 := Nat.or_lt_two_pow (by omega) (by decide)
      have e : 64 * (n / 64) + ((n % 64) ||| 32) = 2 ^ 6 * (n / 64) + ((n % 64) ||| 32) := rfl
      rw [e, Nat.testBit_two_pow_mul_add _ hb, Nat.testBit_or]
      have e3 : n.testBit i = (2 ^ 6 * (n / 64) + n % 64).testBit i := congrArg (fun z => Nat.testBit z i) h
      rw [e3, Nat.testBit_two_pow_mul_add _ (show n % 64 < 2 ^ 6 from hs)]
      split
      · rw [Nat.testBit_or]
      · rename_i hi
        have : (32 : Nat).testBit i = false := by
          apply Nat.testBit_lt_two_pow
          exact Nat.lt_of_lt_of_le (by decide : 32 < 2 ^ 6) (Nat.pow_le_pow_right (by decide) (by omega))
        rw [this, Bool.or_false]
    rw [o]
    have all : ∀ k, k < 64 → (k ||| 32) = if k / 32 = 1 then k else k + 32 := by decide
    rw [all _ hs]
    split <;> omega
  rw [e1, key] at t2
  by_cases b : c.toBitVec.toNat / 32 % 2 = 1
  · rw [if_pos b] at t2; left; refine ⟨t2.trans t1.symm, ?_⟩; rw [t1]; split <;> omega
  · rw [if_neg b] at t2; right
    rw [t1]
    rw [t2]
    by_cases q : 2 * c.toBitVec.toNat < 2 ^ 32
    · rw [if_pos q, if_pos (by omega)]; omega
    · rw [if_neg q, if_neg (by omega)]; omega
theorem own_long (x : Int32) (k : Int64) (hk : -1000 ≤ k.toInt ∧ k.toInt ≤ 1000) : (x.toInt64 - k).toInt = x.toInt - k.toInt := by
  have h1 := x.le_toInt
  have h2 := x.toInt_lt
  rw [Int64.toInt_sub, Int32.toInt_toInt64]
  exact Int.bmod_eq_of_le (by omega) (by omega)
theorem own_law (c : Int32) : f1 c = f2 c := by
  have o := own_or32 c
  have h1 := own_long c 48 (by decide)
  have h2 := own_long (c ||| 32) 97 (by decide)
  have e48 : (48 : Int64).toInt = 48 := by decide
  have e97 : (97 : Int64).toInt = 97 := by decide
  rw [e48] at h1
  rw [e97] at h2
  have k0 : (0 : Int64).toInt = 0 := by decide
  have k10 : (10 : Int64).toInt = 10 := by decide
  have k6 : (6 : Int64).toInt = 6 := by decide
  have j48 : (48 : Int32).toInt = 48 := by decide
  have j57 : (57 : Int32).toInt = 57 := by decide
  have j97 : (97 : Int32).toInt = 97 := by decide
  have j102 : (102 : Int32).toInt = 102 := by decide
  have j65 : (65 : Int32).toInt = 65 := by decide
  have j70 : (70 : Int32).toInt = 70 := by decide
  unfold f1 f2
  simp only [Int32.lt_iff_toInt_lt, Int64.lt_iff_toInt_lt, h1, h2, k0, k10, k6, j48, j57, j97, j102, j65, j70]
  generalize (c ||| 32).toInt = y at *
  generalize c.toInt = x at *
  have z01 : ((0 : Int32) = 0) = True := by simp
  have z10 : ((1 : Int32) = 0) = False := by simp
  repeat' split
  all_goals first | rfl | (exfalso; omega) | (exfalso; simp_all; done) | skip
theorem pd_1 : parseMethodDescriptor "(II)Z" = some ⟨[.int, .int], some .boolean⟩ := by decide +kernel
theorem ef_rm0 (m : MethodId) (p0 : Int32) (p1 : Int32)  : entryFrame m #[(.int p0), (.int p1)] maxLocals = mkF m 0 #[.val (.int p0), .val (.int p1), .unset] [] := by first | (simp [entryFrame, mkF, argsToLocals, Value.category, maxLocals]; done) | rfl
set_option maxRecDepth 65536 in
set_option maxHeartbeats 40000000 in
theorem rm0 (l : Launch) (Z : State) (a0 : Array Value) (hw : ∀ d ∈ tables_1, d.before a0 Z = true) (ws : List Jvm.Cond) (p0 : Int32) (p1 : Int32)  (h0 : Heap)  :
    MetQ l Z x code maxLocals ret ws room_1 #[(.int p0), (.int p1)] h0 (fun v h L => v = some (.int 1) ∧ Fr h0.size L) := by
  refine MetQ.body (plainFor_of_name pn_1) fun p e s m below meth c s₁ hx hby hml hown hnm hret hlk hZ e0 X0 => Go.cast (ef_rm0 m p0 p1) ?_
  have hml : c.maxLocals = 3 := hml
  have hown : s.vm.findClass "com/example/triplevec/triplevec/rdf/IrisIsHexPinLaw" = some m.cls := hown
  have hret : meth.sig.returnType = some .boolean := hret
  refine Go.st (T' := s₁) (g' := (mkF m 1 #[.val (.int p0), .val (.int p1), .unset] [(.int p1)])) (fun _ hr => XS.iloadN X0.here hx rfl (hb hby at_0) rfl hr) ?_
  refine Go.st (T' := s₁) (g' := (mkF m 3 #[.val (.int p0), .val (.int p1), .unset] [(.int (127 : Int32)), (.int p1)])) (fun _ hr => XT.bipushV X0.here hx rfl (127 : Int32) (hb hby at_1) (by decide) hr) ?_
  refine Go.st (T' := s₁) (g' := (mkF m 4 #[.val (.int p0), .val (.int p1), .unset] [(.int (p1 &&& (127 : Int32)))])) (fun _ hr => XS.iand X0.here hx rfl (hb hby at_3) rfl hr) ?_
  refine Go.st (T' := s₁) (g' := (mkF m 5 #[.val (.int p0), .val (.int p1), .val (.int (p1 &&& (127 : Int32)))] [])) (fun _ hr => XS.istoreN X0.here hx rfl (hb hby at_4) rfl (l' := #[.val (.int p0), .val (.int p1), .val (.int (p1 &&& (127 : Int32)))]) rfl hr) ?_
  refine Go.st (T' := s₁) (g' := (mkF m 6 #[.val (.int p0), .val (.int p1), .val (.int (p1 &&& (127 : Int32)))] [(.int p0)])) (fun _ hr => XS.iloadN X0.here hx rfl (hb hby at_5) rfl hr) ?_
  refine Go.callP X0 hx hZ hown (W := 0) (hw _ (List.mem_of_getElem? (i := 0) rfl)) (hw _ (List.mem_of_getElem? (i := 1) rfl)) (hw _ (List.mem_of_getElem? (i := 2) rfl)) (hw _ (List.mem_of_getElem? (i := 3) rfl)) (by decide) e0 (rm1 l Z a0 hw p0 h0) (by decide) (by decide) (by decide) (by decide) (g := (mkF m 6 #[.val (.int p0), .val (.int p1), .val (.int (p1 &&& (127 : Int32)))] [(.int p0)])) rfl (by rw [hml]; rfl) (argsL := [(.int p0)]) (rest := []) (lenOf pd_0 rfl) rfl (by show 2 * 0 + _ ≤ _; exact Nat.le_of_eq rfl) (hb hby at_6) (fun T1 X1 e1 => ?_)
  show Go p.tables e below (Fin s (fun v h L => v = some (.int 1) ∧ Fr h0.size L) room_1.cells room_1.slots) T1 (mkF m 9 #[.val (.int p0), .val (.int p1), .val (.int (p1 &&& (127 : Int32)))] [(.int (f1 p0))])
  refine Go.st (T' := T1) (g' := (mkF m 10 #[.val (.int p0), .val (.int p1), .val (.int (p1 &&& (127 : Int32)))] [(.int p0), (.int (f1 p0))])) (fun _ hr => XS.iloadN X1.here hx rfl (hb hby at_9) rfl hr) ?_
  refine Go.callP X1 hx hZ hown (W := 1) (hw _ (List.mem_of_getElem? (i := 4) rfl)) (hw _ (List.mem_of_getElem? (i := 5) rfl)) (hw _ (List.mem_of_getElem? (i := 6) rfl)) (hw _ (List.mem_of_getElem? (i := 7) rfl)) (by decide) e1 (rm2 l Z a0 hw p0 h0) (by decide) (by decide) (by decide) (by decide) (g := (mkF m 10 #[.val (.int p0), .val (.int p1), .val (.int (p1 &&& (127 : Int32)))] [(.int p0), (.int (f1 p0))])) rfl (by rw [hml]; rfl) (argsL := [(.int p0)]) (rest := [(.int (f1 p0))]) (lenOf pd_0 rfl) rfl (by show 2 * 0 + _ ≤ _; exact Nat.le_of_eq rfl) (hb hby at_10) (fun T2 X2 e2 => ?_)
  show Go p.tables e below (Fin s (fun v h L => v = some (.int 1) ∧ Fr h0.size L) room_1.cells room_1.slots) T2 (mkF m 13 #[.val (.int p0), .val (.int p1), .val (.int (p1 &&& (127 : Int32)))] [(.int (f2 p0)), (.int (f1 p0))])
  refine Go.st (T' := T2) (g' := (mkF m 16 #[.val (.int p0), .val (.int p1), .val (.int (p1 &&& (127 : Int32)))] [])) (fun _ hr => XS.icmpNo X2.here hx rfl (hb hby at_13) rfl (XT.ii_ne_f (own_law _)) hr) ?_
  refine Go.st (T' := T2) (g' := (mkF m 17 #[.val (.int p0), .val (.int p1), .val (.int (p1 &&& (127 : Int32)))] [(.int (p1 &&& (127 : Int32)))])) (fun _ hr => XS.iloadN X2.here hx rfl (hb hby at_16) rfl hr) ?_
  refine Go.callP X2 hx hZ hown (W := 0) (hw _ (List.mem_of_getElem? (i := 0) rfl)) (hw _ (List.mem_of_getElem? (i := 1) rfl)) (hw _ (List.mem_of_getElem? (i := 2) rfl)) (hw _ (List.mem_of_getElem? (i := 3) rfl)) (by decide) e2 (rm1 l Z a0 hw (p1 &&& (127 : Int32)) h0) (by decide) (by decide) (by decide) (by decide) (g := (mkF m 17 #[.val (.int p0), .val (.int p1), .val (.int (p1 &&& (127 : Int32)))] [(.int (p1 &&& (127 : Int32)))])) rfl (by rw [hml]; rfl) (argsL := [(.int (p1 &&& (127 : Int32)))]) (rest := []) (lenOf pd_0 rfl) rfl (by show 2 * 0 + _ ≤ _; exact Nat.le_of_eq rfl) (hb hby at_17) (fun T3 X3 e3 => ?_)
  show Go p.tables e below (Fin s (fun v h L => v = some (.int 1) ∧ Fr h0.size L) room_1.cells room_1.slots) T3 (mkF m 20 #[.val (.int p0), .val (.int p1), .val (.int (p1 &&& (127 : Int32)))] [(.int (f1 (p1 &&& (127 : Int32))))])
  refine Go.st (T' := T3) (g' := (mkF m 21 #[.val (.int p0), .val (.int p1), .val (.int (p1 &&& (127 : Int32)))] [(.int (p1 &&& (127 : Int32))), (.int (f1 (p1 &&& (127 : Int32))))])) (fun _ hr => XS.iloadN X3.here hx rfl (hb hby at_20) rfl hr) ?_
  refine Go.callP X3 hx hZ hown (W := 1) (hw _ (List.mem_of_getElem? (i := 4) rfl)) (hw _ (List.mem_of_getElem? (i := 5) rfl)) (hw _ (List.mem_of_getElem? (i := 6) rfl)) (hw _ (List.mem_of_getElem? (i := 7) rfl)) (by decide) e3 (rm2 l Z a0 hw (p1 &&& (127 : Int32)) h0) (by decide) (by decide) (by decide) (by decide) (g := (mkF m 21 #[.val (.int p0), .val (.int p1), .val (.int (p1 &&& (127 : Int32)))] [(.int (p1 &&& (127 : Int32))), (.int (f1 (p1 &&& (127 : Int32))))])) rfl (by rw [hml]; rfl) (argsL := [(.int (p1 &&& (127 : Int32)))]) (rest := [(.int (f1 (p1 &&& (127 : Int32))))]) (lenOf pd_0 rfl) rfl (by show 2 * 0 + _ ≤ _; exact Nat.le_of_eq rfl) (hb hby at_21) (fun T4 X4 e4 => ?_)
  show Go p.tables e below (Fin s (fun v h L => v = some (.int 1) ∧ Fr h0.size L) room_1.cells room_1.slots) T4 (mkF m 24 #[.val (.int p0), .val (.int p1), .val (.int (p1 &&& (127 : Int32)))] [(.int (f2 (p1 &&& (127 : Int32)))), (.int (f1 (p1 &&& (127 : Int32))))])
  refine Go.st (T' := T4) (g' := (mkF m 27 #[.val (.int p0), .val (.int p1), .val (.int (p1 &&& (127 : Int32)))] [])) (fun _ hr => XS.icmpNo X4.here hx rfl (hb hby at_24) rfl (XT.ii_ne_f (own_law _)) hr) ?_
  refine Go.st (T' := T4) (g' := (mkF m 28 #[.val (.int p0), .val (.int p1), .val (.int (p1 &&& (127 : Int32)))] [(.int (1 : Int32))])) (fun _ hr => XT.iconstV X4.here hx rfl (1 : Int32) (hb hby at_27) (by decide) hr) ?_
  refine Go.st (T' := T4) (g' := (mkF m 32 #[.val (.int p0), .val (.int p1), .val (.int (p1 &&& (127 : Int32)))] [(.int (1 : Int32))])) (fun _ hr => XS.goto X4.here hx rfl (pc0 := 28) (pc' := 32) rfl (hb hby at_28) (by decide) (by decide) hr) ?_
  exact Go.retN X4 hx hlk hret (by simp) (hb hby at_32) (by decide) (by decide) ⟨rfl, Fr.nil _⟩
set_option maxRecDepth 65536 in
set_option maxHeartbeats 40000000 in
theorem comes_1 {Post : Tables → Env → Array Value → State → Outcome → State → Prop} (hpost : ∀ tb e args s v u, (limb_1_1.after args s (.returned v) u = true ∧ limb_1_2.after args s (.returned v) u = true ∧ True) → FrameEnd s (.returned v) u (Jvm.fieldLocs frame_1_writes args s ++ Jvm.arrayLocs frame_1_arrays args s ++ Jvm.staticLocs frame_1_statics s) 0 0 → Post tb e args s (.returned v) u) :
    ArmFor flags0 classFile x code maxLocals ret World_1 tables_1 room_1 Calls_1 rest_1 Pre_1 Post := by
  intro l hfl _ _ p e ha hc hk s m args below hf hA hF happ hP
  obtain ⟨hcalls, hrest, hpre⟩ := hP
  obtain ⟨-, -, -, hnamed, -, -, -, hat⟩ := (Spec.applies_iff hf).mp happ
  obtain ⟨hg, hn⟩ := and_e (Cond.before_iff.mp (show (Jvm.Cond.and given_1 narrow_1).before args s = true from hpre))
  obtain ⟨g0, r0⟩ := and_e hg
  obtain ⟨u0, r1⟩ := and_e r0
  have u1 := r1
  obtain ⟨w0, w1, rfl⟩ : ∃ w0 w1 : Value, args = #[w0, w1] := by
    have hs : args.size = 2 := by simpa [Cond.value, given_1] using g0
    obtain ⟨L⟩ := args
    match L, hs with
    | [w0, w1], _ => exact ⟨w0, w1, rfl⟩
  have hw := fun d (hd : d ∈ tables_1) => atoms_spec (ws := Jvm.Cond.code x code maxLocals ret :: tables_1) hat d (List.mem_cons_of_mem _ hd)
  have hfit : Fit s := fun {y c} hc i hi => by
    obtain ⟨ha, rfl⟩ := Array.getElem?_eq_some_iff.mp hc
    have q := List.all_eq_true.mp ((Array.all_eq_true_iff_forall_mem.mp hF) _ (Array.getElem_mem ha)) i (List.mem_range.mpr hi)
    simpa [Array.getElem?_eq_getElem hi] using q
  obtain ⟨i0, ei0⟩ := is_v u0
  obtain rfl : w0 = (.int i0) := Option.some.inj ei0
  obtain ⟨i1, ei1⟩ := is_v u1
  obtain rfl : w1 = (.int i1) := Option.some.inj ei1
  obtain ⟨n, o, h1, h2, h3, _, L, rfl, ⟨rfl, N⟩, hq⟩ := rm0 l s _ hw tables_1 i0 i1 s.heap  p e ha hc hk s m _ below hf ((Spec.applies_iff_loose hf).mp happ).1 ⟨rfl, State.Warmed39.refl s, rfl⟩ trivial
  refine ⟨n, _, h1, h2, h3, hpost _ _ _ _ _ _ ⟨Cond.after_iff.mpr rfl, Cond.after_iff.mpr (eq_i res_at (Term.int_eval (1)) rfl), trivial⟩ ⟨hq.1, hq.2.1, (hq.2.2.sift fun y hy => Or.inr (N y hy)).mono (by decide) (by decide)⟩⟩
theorem main_1_1 : Claimed_1_1 := comes_1 fun _ _ _ _ _ _ h hF => ⟨h.1, hF⟩
theorem main_1_2 : Claimed_1_2 := comes_1 fun _ _ _ _ _ _ h hF => ⟨h.2.1, hF⟩
end Jvm.Pilot.@@N@@
namespace Jvm.Pilot.@@N@@
open Jvm Jvm.ClassFile Sem Op Lib Jvm.Free Jvm.Stand Jvm.Pilot.@@N@@.Jvm.D
/-! MADE BY PROGRAM (witnessworld.py) out of the Statement's table words and the real class files: 9 classes; the members and pool entries that the words name. The judged class is class 1, her method 2. -/
namespace start1
open Jvm.ClassFile
def u (s : String) : CpInfo := .utf8 (stringToUtf16 s)
/-- a pool by its gaps: so many unusable entries, then the entry; so many at the end -/
def gap : Nat → List CpInfo → List CpInfo
  | 0, r => r
  | n + 1, r => .unusable :: gap n r
def poolList (es : List (Nat × CpInfo)) (last : Nat) : List CpInfo := es.foldr (fun e r => gap e.1 (e.2 :: r)) (gap last [])
def pool (es : List (Nat × CpInfo)) (last : Nat) : Array CpInfo := ⟨poolList es last⟩
def fileOf (pool : Array CpInfo) (this : Nat) (attrs : Array Attribute := #[]) (ms : Array MethodInfo := #[]) (fl : Nat := 33) (sup : Nat := 0) (ifs : Array Nat := #[]) (fds : Array FieldInfo := #[]) : ClassFile where
  minorVersion := 0
  majorVersion := 65
  constantPool := pool
  accessFlags := fl
  thisClass := this
  superClass := sup
  interfaces := ifs
  fields := fds
  methods := ms
  attributes := attrs
def plain (name : String) (sup : Option ClassId) : Class where
  name := name
  kind := .ordinary
  loader := none
  accessFlags := 33
  super := sup
  interfaces := #[]
  cf := none
  fields := #[]
  methods := #[]
  instanceTypes := #[]
  staticTypes := #[]
  resolved := #[]
  callSites := []
  init := .initialized
  statics := none
  mirror := none

def pool0 : Array CpInfo := pool [(5, u "<init>"), (0, u "()V"), (1, .class_ 10), (1, u "java/lang/Object")] 113

def k0m0 : Method := { name := "<init>", desc := "()V", sig := { parameters := [], returnType := none }, accessFlags := 1, code := none }
/-- java/lang/Object -/
def k0 : Class := { plain "java/lang/Object" none with
  accessFlags := 33
  interfaces := #[]
  cf := some (fileOf pool0 8 #[] #[{ accessFlags := 1, nameIndex := 5, descriptorIndex := 6, attributes := #[] }] 33 0 #[] #[])
  fields := #[]
  methods := #[k0m0]
  instanceTypes := #[]
  staticTypes := #[]
  resolved := Array.replicate 124 none
  statics := none }

def pool1 : Array CpInfo := pool [(2, .class_ 4), (1, u "java/lang/Object"), (0, u "<init>"), (0, u "()V"), (0, .long 48), (1, .long 10), (1, .long 97), (1, .long 6), (1, .methodref 16 17), (0, .class_ 18), (0, .nameAndType 19 20), (0, u "com/example/triplevec/triplevec/rdf/Iris"), (0, u "isHex"), (0, u "(I)Z"), (0, .methodref 22 23), (0, .class_ 24), (0, .nameAndType 25 20), (0, u "com/example/triplevec/triplevec/rdf/IrisIsHexPinLaw"), (0, u "reference"), (3, u "law"), (0, u "(II)Z")] 2

def k1m0 : Method := { name := "<init>", desc := "()V", sig := { parameters := [], returnType := none }, accessFlags := 2, code := none }
def k1c1 : Code := { maxStack := 4, maxLocals := 7, code := method_2_code, exceptionTable := #[], attributes := #[] }
def k1m1 : Method := { name := "reference", desc := "(I)Z", sig := { parameters := [.int], returnType := some .boolean }, accessFlags := 10, code := some k1c1 }
def k1c2 : Code := { maxStack := 2, maxLocals := 3, code := code, exceptionTable := #[], attributes := #[] }
def k1m2 : Method := { name := "law", desc := "(II)Z", sig := { parameters := [.int, .int], returnType := some .boolean }, accessFlags := 9, code := some k1c2 }
/-- com/example/triplevec/triplevec/rdf/IrisIsHexPinLaw -/
def k1 : Class := { plain "com/example/triplevec/triplevec/rdf/IrisIsHexPinLaw" (some 0) with
  accessFlags := 49
  interfaces := #[]
  cf := some (fileOf pool1 22 #[] #[{ accessFlags := 2, nameIndex := 5, descriptorIndex := 6, attributes := #[] }, { accessFlags := 10, nameIndex := 25, descriptorIndex := 20, attributes := #[] }, { accessFlags := 9, nameIndex := 29, descriptorIndex := 30, attributes := #[] }] 49 2 #[] #[])
  fields := #[]
  methods := #[k1m0, k1m1, k1m2]
  instanceTypes := #[]
  staticTypes := #[]
  resolved := Array.replicate 33 none
  statics := none }

def pool2 : Array CpInfo := pool [(2, .class_ 4), (1, u "java/lang/Object"), (0, u "<init>"), (0, u "()V"), (1, .class_ 10), (1, u "com/example/triplevec/triplevec/rdf/Iris"), (18, u "isHex"), (0, u "(I)Z"), (6, .class_ 39), (1, u "com/example/triplevec/triplevec/rdf/Iris$Parts")] 130

def k2m0 : Method := { name := "<init>", desc := "()V", sig := { parameters := [], returnType := none }, accessFlags := 2, code := none }
def k2c1 : Code := { maxStack := 2, maxLocals := 1, code := prog_125_method_6_code, exceptionTable := #[], attributes := #[] }
def k2m1 : Method := { name := "isHex", desc := "(I)Z", sig := { parameters := [.int], returnType := some .boolean }, accessFlags := 8, code := some k2c1 }
/-- com/example/triplevec/triplevec/rdf/Iris -/
def k2 : Class := { plain "com/example/triplevec/triplevec/rdf/Iris" (some 0) with
  accessFlags := 48
  interfaces := #[]
  cf := some (fileOf pool2 8 #[.nestMembers #[37]] #[{ accessFlags := 2, nameIndex := 5, descriptorIndex := 6, attributes := #[] }, { accessFlags := 8, nameIndex := 29, descriptorIndex := 30, attributes := #[] }] 48 2 #[] #[])
  fields := #[]
  methods := #[k2m0, k2m1]
  instanceTypes := #[]
  staticTypes := #[]
  resolved := Array.replicate 170 none
  statics := none }

def pool3 : Array CpInfo := pool [(1, u "java/lang/Cloneable"), (0, .class_ 1), (0, u "java/lang/Object"), (0, .class_ 3)] 3

/-- java/lang/Cloneable -/
def k3 : Class := { plain "java/lang/Cloneable" (some 0) with
  accessFlags := 1537
  interfaces := #[]
  cf := some (fileOf pool3 2 #[] #[] 1537 4 #[] #[])
  fields := #[]
  methods := #[]
  instanceTypes := #[]
  staticTypes := #[]
  resolved := Array.replicate 8 none
  statics := none }

def pool4 : Array CpInfo := pool [(1, u "java/io/Serializable"), (0, .class_ 1), (0, u "java/lang/Object"), (0, .class_ 3)] 3

/-- java/io/Serializable -/
def k4 : Class := { plain "java/io/Serializable" (some 0) with
  accessFlags := 1537
  interfaces := #[]
  cf := some (fileOf pool4 2 #[] #[] 1537 4 #[] #[])
  fields := #[]
  methods := #[]
  instanceTypes := #[]
  staticTypes := #[]
  resolved := Array.replicate 8 none
  statics := none }

/-- the primitive byte -/
def k5 : Class := { plain "byte" none with kind := .primitive 'B', accessFlags := 0x411 }
/-- [B -/
def k6 : Class := { plain "[B" (some 0) with kind := .array 5 .byte, interfaces := #[3, 4], accessFlags := 1041 }

/-- the primitive int -/
def k7 : Class := { plain "int" none with kind := .primitive 'I', accessFlags := 0x411 }
/-- [I -/
def k8 : Class := { plain "[I" (some 0) with kind := .array 7 .int, interfaces := #[3, 4], accessFlags := 1041 }

def heap : Heap := #[]
def classes : Array Class := #[k0, k1, k2, k3, k4, k5, k6, k7, k8]
def interned : List (Array UInt16 × Addr) := []
def slotsUsed : Nat := 0
def theMethod : MethodId := ⟨1, 2⟩
def args0 : Array Value := #[.int 5, .int 300]
def aboutOver (below : List Frame) : State where
  vm := { classes := classes, interned := interned.toArray }
  heap := heap
  slotsUsed := slotsUsed
  threads := #[{ frames := .invoking theMethod args0 :: below }]
def below0 : List Frame := [.native { method := ⟨0, 0⟩, args := #[] }]
def about1 : State := aboutOver below0
def p0 : Program := .bare "" "" ""
def e0 : Env := launch0.env 0 0 0
theorem w_frames : about1.frames = Frame.invoking theMethod args0 :: below0 := rfl
set_option maxRecDepth 65536 in
theorem w_args : argsFit about1.vm theMethod args0 = true := by decide +kernel
set_option maxRecDepth 65536 in
theorem w_heap : heapFits about1 = true := by decide +kernel
set_option maxRecDepth 65536 in
theorem w_runnable : about1.curStatus? = some .runnable := by decide +kernel
set_option maxRecDepth 65536 in
theorem w_alone : about1.alone = true := by decide +kernel
set_option maxRecDepth 65536 in
theorem w_named : about1.methodNamed? x = some theMethod := by decide +kernel
set_option maxRecDepth 65536 in
theorem w_hears : about1.hears theMethod below0 = true := by decide +kernel
set_option maxRecDepth 65536 in
theorem w_ripe : about1.ripe theMethod args0 below0 = true := by decide +kernel
theorem w_running : about1.status = .running := rfl
set_option maxRecDepth 65536 in
theorem w_room : about1.hasRoom e0.platform room_1 = true :=
  launch0.hasRoom_least _ room_1 (by decide +kernel) (by decide +kernel) (by decide +kernel) (by decide +kernel) (by decide +kernel) (by decide +kernel)
theorem allAtoms_all (ts : List Jvm.Cond) (a : Array Jvm.Value) (st : Jvm.State) : (allAtoms ts).before a st = ts.all (fun c => c.before a st) := by
  induction ts with
  | nil => rfl
  | cons c t ih =>
    show (Jvm.Cond.and c (allAtoms t)).before a st = _
    rw [Jvm.Cond.before_and, ih, List.all_cons]
def words1 : List Jvm.Cond := Jvm.Cond.code x code maxLocals ret :: tables_1
/-- a 'code' word, met by the world's own term for the bytes: nothing is compared byte by byte -/
theorem code_word {y : MethodName} {bytes : ByteArray} {mx : Nat} {rt : Option FieldType} {a : Array Value} {s : State} {m : MethodId} {meth : Method} {c : Code} (h1 : s.methodNamed? y = some m) (h2 : s.vm.method? m = some meth) (h3 : meth.code = some c) (h4 : c.code = bytes)
    (h5 : (c.maxLocals == mx && c.exceptionTable.isEmpty && decide (c.maxStack ≤ mostOperands) && decide (meth.sig.returnType = rt) && !meth.locks && decide (parseMethodDescriptor y.desc = some meth.sig)) = true) : (Jvm.Cond.code y bytes mx rt).before a s = true := by
  simp only [Bool.and_eq_true, beq_iff_eq, Bool.not_eq_true', decide_eq_true_eq] at h5
  obtain ⟨⟨⟨⟨⟨g1, g2⟩, g3⟩, g4⟩, g5⟩, g6⟩ := h5
  simp [Cond.before, Cond.holds, Cond.value, h1, h2, h3, h4, g1, g2, g3, g4, g5, g6]
def isCode : Jvm.Cond → Bool
  | .code _ _ _ _ => true
  | _ => false
theorem all_split {L : List Jvm.Cond} {P : Jvm.Cond → Bool} (h1 : L.all (fun c => isCode c || P c) = true) (h2 : ∀ c ∈ L.filter isCode, P c = true) : L.all P = true := by
  refine List.all_eq_true.mpr fun c hc => ?_
  have h := List.all_eq_true.mp h1 c hc
  rcases Bool.eq_false_or_eq_true (isCode c) with hi | hi
  · exact h2 c (List.mem_filter.mpr ⟨hc, hi⟩)
  · simpa [hi] using h
set_option maxRecDepth 65536 in
theorem w_c0 : (Jvm.Cond.code x code maxLocals ret).before args0 about1 = true := code_word (m := ⟨1, 2⟩) (meth := k1m2) (c := k1c2) (by decide +kernel) rfl rfl rfl (by decide +kernel)
set_option maxRecDepth 65536 in
theorem w_c1 : (Jvm.Cond.code ({ cls := "com/example/triplevec/triplevec/rdf/Iris", name := "isHex", desc := "(I)Z" } : Jvm.MethodName) prog_125_method_6_code (1 : Nat) (Option.some Jvm.ClassFile.FieldType.boolean)).before args0 about1 = true := code_word (m := ⟨2, 1⟩) (meth := k2m1) (c := k2c1) (by decide +kernel) rfl rfl rfl (by decide +kernel)
set_option maxRecDepth 65536 in
theorem w_c2 : (Jvm.Cond.code ({ cls := "com/example/triplevec/triplevec/rdf/IrisIsHexPinLaw", name := "reference", desc := "(I)Z" } : Jvm.MethodName) method_2_code (7 : Nat) (Option.some Jvm.ClassFile.FieldType.boolean)).before args0 about1 = true := code_word (m := ⟨1, 1⟩) (meth := k1m1) (c := k1c1) (by decide +kernel) rfl rfl rfl (by decide +kernel)
def codes1 : List Jvm.Cond := [Jvm.Cond.code x code maxLocals ret, Jvm.Cond.code ({ cls := "com/example/triplevec/triplevec/rdf/Iris", name := "isHex", desc := "(I)Z" } : Jvm.MethodName) prog_125_method_6_code (1 : Nat) (Option.some Jvm.ClassFile.FieldType.boolean), Jvm.Cond.code ({ cls := "com/example/triplevec/triplevec/rdf/IrisIsHexPinLaw", name := "reference", desc := "(I)Z" } : Jvm.MethodName) method_2_code (7 : Nat) (Option.some Jvm.ClassFile.FieldType.boolean)]
set_option maxRecDepth 65536 in
theorem codes_eq : words1.filter isCode = codes1 := rfl
theorem w_codes : ∀ c ∈ words1.filter isCode, c.before args0 about1 = true := by
  rw [codes_eq]
  intro c hc
  simp only [codes1, List.mem_cons, List.not_mem_nil, or_false] at hc
  rcases hc with rfl | rfl | rfl
  · exact w_c0
  · exact w_c1
  · exact w_c2
set_option maxRecDepth 65536 in
theorem w_t1 : words1.all (fun c => isCode c || c.before args0 about1) = true := by decide +kernel
theorem w_tables : (allAtoms (Jvm.Cond.code x code maxLocals ret :: tables_1)).before args0 about1 = true := by
  rw [allAtoms_all]
  show words1.all (fun c => c.before args0 about1) = true
  refine all_split ?_ w_codes
  rw [w_t1]
set_option maxRecDepth 65536 in
theorem w_case : (Jvm.Cond.and given_1 narrow_1).before args0 about1 = true := by decide +kernel
theorem w_applies : (headSpec (Jvm.Cond.code x code maxLocals ret :: tables_1) room_1).applies x e0.platform about1 = true :=
  (Spec.applies_iff w_frames).mpr ⟨w_running, w_runnable, w_alone, w_named, w_hears, w_ripe, w_room, w_tables⟩
theorem atStart : AtStart classFile x code maxLocals ret World_1 tables_1 room_1 Calls_1 rest_1 Pre_1 launch0 p0 e0 about1 theMethod args0 below0 :=
  ⟨lists_1, trivial, launch0.admits_env _ _ _, launch0.least_env, fairChoices_fair.cas, fairChoices_fair.clock, w_frames, w_args, w_heap, w_applies, trivial, trivial, w_case⟩
end start1
theorem witness_1 : WitnessClaimed_1 := ⟨start1.p0, start1.e0, start1.about1, start1.theMethod, start1.args0, start1.below0, start1.atStart⟩
end Jvm.Pilot.@@N@@
