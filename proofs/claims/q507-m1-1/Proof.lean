import JvmDerived
import JvmDerived.Pilot.@@N@@Statement
import JvmDerived.Pilot.@@N@@Code
set_option linter.unusedVariables false
set_option linter.unusedSimpArgs false
namespace Jvm.RoadKit
open Sem ClassFile Op Lib Jvm.Stand Jvm.Free Jvm.LawKit
section OwnGo
variable {p : Program} {l : Launch} {e : Env} {R : Room} {s : State} {m : MethodId} {args : Array Value} {below : List Frame} {meth : Method} {c : Code} {T : State} {locs : List Loc} {cells slots : Nat} {Z : State} {a0 : Array Value} {h : Heap} {Q : Option Value → Heap → List Loc → Prop} {kc ks : Nat} {Fin : State → Outcome → Prop}
/-- what is left of a body's walk: from the frame g over T the run ends, in what Fin says -/
def Go (p : Program) (e : Env) (below : List Frame) (Fin : State → Outcome → Prop) (T : State) (g : JFrame) : Prop :=
  ∃ (t : State) (o : Outcome), Steps p.tables e below (T.setTop g) t ∧ t.status = .running ∧ Ended t below o ∧ Fin t o
/-- it returns what Q says; nothing interned -/
def FinN (s : State) (Q : Option Value → Heap → List Loc → Prop) (kc ks : Nat) (t : State) (o : Outcome) : Prop := ∃ v L, o = .returned v ∧ Q v t.heap L ∧ FrameEnd s o t L kc ks
/-- it returns what Q says; String constants may have been interned -/
def FinW (s : State) (Q : Option Value → Heap → List Loc → Vm → Prop) (kc ks : Nat) (t : State) (o : Outcome) : Prop := ∃ v L, o = .returned v ∧ Q v t.heap L t.vm ∧ ReturnedEndW s o t L kc ks
theorem Go.to {T' : State} {g : JFrame} (g' : JFrame) (st : ∀ t, Steps p.tables e below (T'.setTop g') t → Steps p.tables e below (T.setTop g) t) (K : Go p e below Fin T' g') : Go p e below Fin T g := by
  obtain ⟨t, o, h1, r⟩ := K
  exact ⟨t, o, st t h1, r⟩
theorem Go.cast {g g' : JFrame} (q : g = g') (K : Go p e below Fin T g') : Go p e below Fin T g := q ▸ K
/-- a body's contract: with the arguments as' at the heap h0 it returns what Q says -/
def Met1 (l : Launch) (Z : State) (y : MethodName) (bytes : ByteArray) (maxL : Nat) (ret : Option FieldType) (rm : Room) (as' : Array Value) (h0 : Heap) (Q : Option Value → Heap → List Loc → Prop) : Prop :=
  ∀ ws : List Cond, MetFree l y (head1 (Cond.code y bytes maxL ret :: ws) rm) (fun a U => a = as' ∧ Z.Warmed39 U.vm ∧ U.heap = h0) (fun _ _ _ _ _ => True) (fun _ U o U' => ∃ v L, o = .returned v ∧ Q v U'.heap L ∧ FrameEnd U o U' L rm.cells rm.slots)
/-- .. which may intern; J: what is known of the tables where it is called -/
def MetW (l : Launch) (Z : State) (y : MethodName) (bytes : ByteArray) (maxL : Nat) (ret : Option FieldType) (rm : Room) (as' : Array Value) (h0 : Heap) (J : Vm → Prop) (Q : Option Value → Heap → List Loc → Vm → Prop) : Prop :=
  ∀ ws : List Cond, MetFree l y (head1 (Cond.code y bytes maxL ret :: ws) rm) (fun a U => a = as' ∧ Z.Warmed39 U.vm ∧ U.heap = h0 ∧ J U.vm) (fun _ _ _ _ _ => True) (fun _ U o U' => ∃ v L, o = .returned v ∧ Q v U'.heap L U'.vm ∧ ReturnedEndW U o U' L rm.cells rm.slots)
theorem Met1.mk {y : MethodName} {bytes : ByteArray} {maxL : Nat} {ret : Option FieldType} {rm : Room} {as' : Array Value} {h0 : Heap} (hp : plainFor y = true)
    (body : ∀ (p : Program) (e : Env) (s : State) (m : MethodId) (below : List Frame) (meth : Method) (c : Code) (s₁ : State), p.tables.exec = Jvm.exec → Z.Warmed39 s.vm → c.code = bytes → c.maxLocals = maxL → s.vm.findClass y.cls = some m.cls → meth.name = y.name → meth.sig.returnType = ret → meth.locks = false → Stand p l e rm s m as' below meth c s₁ [] 0 0 → s₁.heap = h0 → Go p e below (FinN s Q rm.cells rm.slots) s₁ (entryFrame m as' maxL)) :
    Met1 l Z y bytes maxL ret rm as' h0 Q := by
  intro ws
  refine MetFree.of_bodySF hp hisR ?_
  intro p e s m args below meth c s₁ Bd hml0 hP hK
  obtain ⟨rfl, hZ, hh⟩ := hP
  exact body p e s m below meth c s₁ Bd.exec hZ Bd.bytes hml0 (findClass_of_methodNamed Bd.named) (name_of_methodNamed Bd.named Bd.method).1 Bd.returns Bd.notSynchronized (Stand.of_body Bd) (by rw [← hh, Bd.state]; rfl)
theorem MetW.mk {y : MethodName} {bytes : ByteArray} {maxL : Nat} {ret : Option FieldType} {rm : Room} {as' : Array Value} {h0 : Heap} {J : Vm → Prop} {QW : Option Value → Heap → List Loc → Vm → Prop} (hp : plainFor y = true)
    (body : ∀ (p : Program) (e : Env) (s : State) (m : MethodId) (below : List Frame) (meth : Method) (c : Code) (s₁ : State) (vm0 : Vm), p.tables.exec = Jvm.exec → Z.Warmed39 (s.setVm vm0).vm → c.code = bytes → c.maxLocals = maxL → (s.setVm vm0).vm.findClass y.cls = some m.cls → meth.name = y.name → meth.sig.returnType = ret → meth.locks = false → Stand p l e rm (s.setVm vm0) m as' below meth c s₁ [] 0 0 → s₁.heap = h0 → s.Since vm0 0 → s.heap = h0 → Z.methodNamed? y = some m → J vm0 → Go p e below (FinW s QW rm.cells rm.slots) s₁ (entryFrame m as' maxL)) :
    MetW l Z y bytes maxL ret rm as' h0 J QW := by
  intro ws
  refine MetFree.of_bodySF hp hisR ?_
  intro p e s m args below meth c s₁ Bd hml0 hP hK
  obtain ⟨rfl, hZ, hh, hJ⟩ := hP
  exact body p e s m below meth c s₁ s.vm Bd.exec hZ Bd.bytes hml0 (findClass_of_methodNamed Bd.named) (name_of_methodNamed Bd.named Bd.method).1 Bd.returns Bd.notSynchronized (Stand.of_body Bd) (by rw [← hh, Bd.state]; rfl) (State.WarmedH.since (State.WarmedH.refl s) 0) hh ((State.methodNamed?_setVm hZ.alike y).symm.trans Bd.named) hJ
theorem Go.retI (X : Stand p l e R s m args below meth c T locs cells slots) (hx : p.tables.exec = Jvm.exec) (hret : meth.sig.returnType = some .int) (hlk : meth.locks = false) {pc : Nat} {Ls : Array Slot} {z : Int32} {rest : List Value} (hd : decode c.code pc = .ok (.ireturn, 1)) (hc : cells ≤ kc) (hs : slots ≤ ks)
    (hq : Q (some (.int z)) T.heap locs) : Go p e below (FinN s Q kc ks) T (mkF m pc Ls (.int z :: rest)) := by
  obtain ⟨fs, hr, hrun, hended, hW, hsame⟩ := X.leave (v := (some (.int z))) (fun h => by rw [hret] at h; cases h) hlk
  exact ⟨_, _, Jvm.RoadKit.retOut X hx hret (t := .int) rfl (Or.inl ⟨rfl, Or.inl rfl, _, rfl⟩) hd hr, hrun, hended, _, _, rfl, hq, ⟨_, rfl⟩, hW, hsame.mono hc hs⟩
theorem Go.retIW {vm0 : Vm} {QW : Option Value → Heap → List Loc → Vm → Prop} (X : Stand p l e R (s.setVm vm0) m args below meth c T locs cells slots) (hx : p.tables.exec = Jvm.exec) (hret : meth.sig.returnType = some .int) (hlk : meth.locks = false) {pc : Nat} {Ls : Array Slot} {z : Int32} {rest : List Value} (hd : decode c.code pc = .ok (.ireturn, 1)) (hc : cells ≤ kc) (hs : slots ≤ ks) {n : Nat} (hS : s.Since vm0 n) (hn : n ≤ T.heap.size)
    (hq : QW (some (.int z)) T.heap locs T.vm) : Go p e below (FinW s QW kc ks) T (mkF m pc Ls (.int z :: rest)) := by
  obtain ⟨fs, hr, hrun, hended, h1, h2, h3, h4⟩ := X.leaveW hS hn (v := (some (.int z))) (fun h => by rw [hret] at h; cases h) hlk
  exact ⟨_, _, Jvm.RoadKit.retOut X hx hret (t := .int) rfl (Or.inl ⟨rfl, Or.inl rfl, _, rfl⟩) hd hr, hrun, hended, _, _, rfl, hq, h1, h2, h3, h4.mono hc hs⟩
theorem Go.retN' (X : Stand p l e R s m args below meth c T locs cells slots) (hx : p.tables.exec = Jvm.exec) {t : FieldType} (hret : meth.sig.returnType = some t) (hlk : meth.locks = false) (ht : t = .boolean ∨ t = .byte ∨ t = .char ∨ t = .short) {pc : Nat} {Ls : Array Slot} {z : Int32} {rest : List Value} (hd : decode c.code pc = .ok (.ireturn, 1)) (hc : cells ≤ kc) (hs : slots ≤ ks)
    (hq : Q (some (.int (nar t z))) T.heap locs) : Go p e below (FinN s Q kc ks) T (mkF m pc Ls (.int z :: rest)) := by
  obtain ⟨fs, hr, hrun, hended, hW, hsame⟩ := X.leave (v := (some (.int (nar t z)))) (fun h => by rw [hret] at h; cases h) hlk
  exact ⟨_, _, Jvm.RoadKit.retN X hx hret ht hd hr, hrun, hended, _, _, rfl, hq, ⟨_, rfl⟩, hW, hsame.mono hc hs⟩
theorem Go.retNW' {vm0 : Vm} {QW : Option Value → Heap → List Loc → Vm → Prop} (X : Stand p l e R (s.setVm vm0) m args below meth c T locs cells slots) (hx : p.tables.exec = Jvm.exec) {t : FieldType} (hret : meth.sig.returnType = some t) (hlk : meth.locks = false) (ht : t = .boolean ∨ t = .byte ∨ t = .char ∨ t = .short) {pc : Nat} {Ls : Array Slot} {z : Int32} {rest : List Value} (hd : decode c.code pc = .ok (.ireturn, 1)) (hc : cells ≤ kc) (hs : slots ≤ ks) {n : Nat} (hS : s.Since vm0 n) (hn : n ≤ T.heap.size)
    (hq : QW (some (.int (nar t z))) T.heap locs T.vm) : Go p e below (FinW s QW kc ks) T (mkF m pc Ls (.int z :: rest)) := by
  obtain ⟨fs, hr, hrun, hended, h1, h2, h3, h4⟩ := X.leaveW hS hn (v := (some (.int (nar t z)))) (fun h => by rw [hret] at h; cases h) hlk
  exact ⟨_, _, Jvm.RoadKit.retN X hx hret ht hd hr, hrun, hended, _, _, rfl, hq, h1, h2, h3, h4.mono hc hs⟩
theorem Go.retL (X : Stand p l e R s m args below meth c T locs cells slots) (hx : p.tables.exec = Jvm.exec) (hret : meth.sig.returnType = some .long) (hlk : meth.locks = false) {pc : Nat} {Ls : Array Slot} {z : Int64} {rest : List Value} (hd : decode c.code pc = .ok (.lreturn, 1)) (hc : cells ≤ kc) (hs : slots ≤ ks)
    (hq : Q (some (.long z)) T.heap locs) : Go p e below (FinN s Q kc ks) T (mkF m pc Ls (.long z :: rest)) := by
  obtain ⟨fs, hr, hrun, hended, hW, hsame⟩ := X.leave (v := (some (.long z))) (fun h => by rw [hret] at h; cases h) hlk
  exact ⟨_, _, Jvm.RoadKit.retOut X hx hret (t := .long) rfl (Or.inr (Or.inl ⟨rfl, rfl, _, rfl⟩)) hd hr, hrun, hended, _, _, rfl, hq, ⟨_, rfl⟩, hW, hsame.mono hc hs⟩
theorem Go.retLW {vm0 : Vm} {QW : Option Value → Heap → List Loc → Vm → Prop} (X : Stand p l e R (s.setVm vm0) m args below meth c T locs cells slots) (hx : p.tables.exec = Jvm.exec) (hret : meth.sig.returnType = some .long) (hlk : meth.locks = false) {pc : Nat} {Ls : Array Slot} {z : Int64} {rest : List Value} (hd : decode c.code pc = .ok (.lreturn, 1)) (hc : cells ≤ kc) (hs : slots ≤ ks) {n : Nat} (hS : s.Since vm0 n) (hn : n ≤ T.heap.size)
    (hq : QW (some (.long z)) T.heap locs T.vm) : Go p e below (FinW s QW kc ks) T (mkF m pc Ls (.long z :: rest)) := by
  obtain ⟨fs, hr, hrun, hended, h1, h2, h3, h4⟩ := X.leaveW hS hn (v := (some (.long z))) (fun h => by rw [hret] at h; cases h) hlk
  exact ⟨_, _, Jvm.RoadKit.retOut X hx hret (t := .long) rfl (Or.inr (Or.inl ⟨rfl, rfl, _, rfl⟩)) hd hr, hrun, hended, _, _, rfl, hq, h1, h2, h3, h4.mono hc hs⟩
theorem own_narrow_ref {t : FieldType} {w : Value} (ht : t.isReference = true) : narrow t w = w := by cases t <;> first | rfl | (cases ht)
theorem Go.retA (X : Stand p l e R s m args below meth c T locs cells slots) (hx : p.tables.exec = Jvm.exec) {t : FieldType} (hret : meth.sig.returnType = some t) (hlk : meth.locks = false) (ht : t.isReference = true) {pc : Nat} {Ls : Array Slot} {w : Value} {rest : List Value} (hw : w.isRef = true) (hd : decode c.code pc = .ok (.areturn, 1)) (hc : cells ≤ kc) (hs : slots ≤ ks)
    (hq : Q (some w) T.heap locs) : Go p e below (FinN s Q kc ks) T (mkF m pc Ls (w :: rest)) := by
  obtain ⟨fs, hr, hrun, hended, hW, hsame⟩ := X.leave (v := (some w)) (fun h => by rw [hret] at h; cases h) hlk
  exact ⟨_, _, Jvm.RoadKit.retOut X hx hret (t := t) (own_narrow_ref ht) (Or.inr (Or.inr (Or.inr (Or.inr ⟨rfl, ht, hw⟩)))) hd hr, hrun, hended, _, _, rfl, hq, ⟨_, rfl⟩, hW, hsame.mono hc hs⟩
theorem Go.retAW {vm0 : Vm} {QW : Option Value → Heap → List Loc → Vm → Prop} (X : Stand p l e R (s.setVm vm0) m args below meth c T locs cells slots) (hx : p.tables.exec = Jvm.exec) {t : FieldType} (hret : meth.sig.returnType = some t) (hlk : meth.locks = false) (ht : t.isReference = true) {pc : Nat} {Ls : Array Slot} {w : Value} {rest : List Value} (hw : w.isRef = true) (hd : decode c.code pc = .ok (.areturn, 1)) (hc : cells ≤ kc) (hs : slots ≤ ks) {n : Nat} (hS : s.Since vm0 n) (hn : n ≤ T.heap.size)
    (hq : QW (some w) T.heap locs T.vm) : Go p e below (FinW s QW kc ks) T (mkF m pc Ls (w :: rest)) := by
  obtain ⟨fs, hr, hrun, hended, h1, h2, h3, h4⟩ := X.leaveW hS hn (v := (some w)) (fun h => by rw [hret] at h; cases h) hlk
  exact ⟨_, _, Jvm.RoadKit.retOut X hx hret (t := t) (own_narrow_ref ht) (Or.inr (Or.inr (Or.inr (Or.inr ⟨rfl, ht, hw⟩)))) hd hr, hrun, hended, _, _, rfl, hq, h1, h2, h3, h4.mono hc hs⟩
theorem Go.ret0 (X : Stand p l e R s m args below meth c T locs cells slots) (hx : p.tables.exec = Jvm.exec) (hret : meth.sig.returnType = none) (hlk : meth.locks = false) {pc : Nat} {Ls : Array Slot} (hd : decode c.code pc = .ok (.return_, 1)) (hc : cells ≤ kc) (hs : slots ≤ ks)
    (hq : Q none T.heap locs) : Go p e below (FinN s Q kc ks) T (mkF m pc Ls []) := by
  obtain ⟨fs, hr, hrun, hended, hW, hsame⟩ := X.leave (v := none) (fun _ => rfl) hlk
  exact ⟨_, _, X.returnOut hx hret hd hr, hrun, hended, _, _, rfl, hq, ⟨_, rfl⟩, hW, hsame.mono hc hs⟩
theorem Go.ret0W {vm0 : Vm} {QW : Option Value → Heap → List Loc → Vm → Prop} (X : Stand p l e R (s.setVm vm0) m args below meth c T locs cells slots) (hx : p.tables.exec = Jvm.exec) (hret : meth.sig.returnType = none) (hlk : meth.locks = false) {pc : Nat} {Ls : Array Slot} (hd : decode c.code pc = .ok (.return_, 1)) (hc : cells ≤ kc) (hs : slots ≤ ks) {n : Nat} (hS : s.Since vm0 n) (hn : n ≤ T.heap.size)
    (hq : QW none T.heap locs T.vm) : Go p e below (FinW s QW kc ks) T (mkF m pc Ls []) := by
  obtain ⟨fs, hr, hrun, hended, h1, h2, h3, h4⟩ := X.leaveW hS hn (v := none) (fun _ => rfl) hlk
  exact ⟨_, _, X.returnOut hx hret hd hr, hrun, hended, _, _, rfl, hq, h1, h2, h3, h4.mono hc hs⟩
theorem Go.retN (X : Stand p l e R s m args below meth c T locs cells slots) (hx : p.tables.exec = Jvm.exec) {t : FieldType} (hret : meth.sig.returnType = some t) (hlk : meth.locks = false) (ht : t = .boolean ∨ t = .byte ∨ t = .char ∨ t = .short) {pc : Nat} {Ls : Array Slot} {z z' : Int32} {rest : List Value} (hd : decode c.code pc = .ok (.ireturn, 1)) (hc : cells ≤ kc) (hs : slots ≤ ks) (hz : nar t z = z')
    (hq : Q (some (.int z')) T.heap locs) : Go p e below (FinN s Q kc ks) T (mkF m pc Ls (.int z :: rest)) := by
  subst hz; exact Go.retN' X hx hret hlk ht hd hc hs hq
theorem Go.retNW {vm0 : Vm} {QW : Option Value → Heap → List Loc → Vm → Prop} (X : Stand p l e R (s.setVm vm0) m args below meth c T locs cells slots) (hx : p.tables.exec = Jvm.exec) {t : FieldType} (hret : meth.sig.returnType = some t) (hlk : meth.locks = false) (ht : t = .boolean ∨ t = .byte ∨ t = .char ∨ t = .short) {pc : Nat} {Ls : Array Slot} {z z' : Int32} {rest : List Value} (hd : decode c.code pc = .ok (.ireturn, 1)) (hc : cells ≤ kc) (hs : slots ≤ ks) {n : Nat} (hS : s.Since vm0 n) (hn : n ≤ T.heap.size) (hz : nar t z = z')
    (hq : QW (some (.int z')) T.heap locs T.vm) : Go p e below (FinW s QW kc ks) T (mkF m pc Ls (.int z :: rest)) := by
  subst hz; exact Go.retNW' X hx hret hlk ht hd hc hs hS hn hq
/-- who pays a call: with the arguments as' at the heap h, k cells and n slots more, what Qc says -/
def OBk (l : Launch) (R : Room) (p : Program) (e : Env) (below : List Frame) (s : State) (args : Array Value) (y : MethodName) (len W : Nat) (as' : Array Value) (h : Heap) (k n : Nat) (Qc : Option Value → Heap → List Loc → Prop) : Prop :=
  Back l R p e below s args y len W (fun A a => a = as' ∧ A.U.heap = h ∧ A.cells + k ≤ R.cells ∧ A.slots + n ≤ R.slots) (fun A _ v B => ∃ L, Qc v B.U.heap L ∧ B.locs = A.locs ++ L ∧ B.cells = A.cells + k ∧ B.slots = A.slots + n)
theorem Met1.back {y : MethodName} {bytes : ByteArray} {maxL : Nat} {ret : Option FieldType} {rm : Room} {as' : Array Value} {Qc : Option Value → Heap → List Loc → Prop} {len W : Nat} (M : Met1 l Z y bytes maxL ret rm as' h Qc) (hZ : Z.Warmed39 s.vm) (wc : (Cond.code y bytes maxL ret).before a0 Z = true) (wz : (Cond.initialized y.cls).before a0 Z = true) (hf : rm.frames + 1 ≤ R.frames) (hl : W + (maxL + 11) + rm.locals ≤ R.locals) :
    OBk l R p e below s args y len W as' h rm.cells rm.slots Qc := backOf (M []) hZ wc wz hf hl
/-- a constructor by its contract -/
theorem Go.special (X : Stand p l e R s m args below meth c T locs cells slots) (hx : p.tables.exec = Jvm.exec) (hZ : Z.Warmed39 s.vm) {own : String} {index : Nat} {y : MethodName} {bytes : ByteArray} {maxL : Nat} (hy1 : y.name = "<init>") (hown : s.vm.findClass own = some m.cls)
    (w1 : (Cond.methodLink own index y).before a0 Z = true) (w2 : (Cond.instanceMethod y).before a0 Z = true) (w3 : (Cond.code y bytes maxL none).before a0 Z = true) (hy : y.cls ≠ "java/lang/invoke/MethodHandle" ∧ y.cls ≠ "java/lang/invoke/VarHandle")
    (eT : T.heap = h) {kC kS : Nat} {a : Addr} {argsL rest : List Value} {Qc : Option Value → Heap → List Loc → Prop} {W : Nat} (B : OBk l R p e below s args y 3 W (.ref a :: argsL).toArray h kC kS Qc)
    {pc : Nat} {Ls : Array Slot} (hsz : Ls.size = c.maxLocals) (hlen : ∀ sig, parseMethodDescriptor y.desc = some sig → argsL.length = sig.parameters.length) {st : List Value} (hst : st = argsL.reverse ++ .ref a :: rest) (hW : (rest.map fun v => v.category).sum ≤ W) (hd : decode c.code pc = .ok (.invokespecial index, 3))
    (hc : cells + kC ≤ R.cells) (hs : slots + kS ≤ R.slots)
    (K : ∀ (T' : State) (v : Option Value) (L : List Loc), Stand p l e R s m args below meth c T' (locs ++ L) (cells + kC) (slots + kS) → Qc v T'.heap L → Go p e below Fin T' (mkF m (pc + 3) Ls (v.toList ++ rest))) : Go p e below Fin T (mkF m pc Ls st) := by
  subst hst
  obtain ⟨v, _, ⟨T', L', k', n'⟩, -, X', ⟨Lc, hQ, hl, hk, hn⟩, stp⟩ := X.specialBack hx (y := y) hy1 hown (mvT hZ w1) (mvT hZ w2) (mvT hZ w3) hy B (g := mkF m pc Ls (argsL.reverse ++ .ref a :: rest)) rfl hsz (Steps.refl _) (a := a) (argsL := argsL) (rest := rest) hlen rfl (by show 2 * 0 + _ ≤ _; omega) hd (fun _ _ => ⟨rfl, eT, hc, hs⟩)
  dsimp only [Pt.U, Pt.locs, Pt.cells, Pt.slots] at X' hl hk hn stp hQ
  subst hl hk hn
  obtain ⟨t, o, h1, r⟩ := K T' v Lc X' hQ
  exact ⟨t, o, stp.trans h1, r⟩
/-- an instance method by the contract of the body that the receiver's class selects -/
theorem Go.virt (X : Stand p l e R s m args below meth c T locs cells slots) (hx : p.tables.exec = Jvm.exec) (hZ : Z.Warmed39 s.vm) {own C : String} {index : Nat} {y z : MethodName} (hown : s.vm.findClass own = some m.cls)
    (w1 : (Cond.methodLink own index y).before a0 Z = true) (w2 : (Cond.declares y).before a0 Z = true) (nf : NotFace s y) (w3 : (Cond.selects C y z).before a0 Z = true) (w4 : (Cond.instanceMethod z).before a0 Z = true) (hy : y.cls ≠ "java/lang/invoke/MethodHandle" ∧ y.cls ≠ "java/lang/invoke/VarHandle")
    (eT : T.heap = h) {kC kS : Nat} {a : Addr} (E : Exa Z h a C) {argsL rest : List Value} {Qc : Option Value → Heap → List Loc → Prop} {W : Nat} (B : OBk l R p e below s args z 3 W (.ref a :: argsL).toArray h kC kS Qc)
    {pc : Nat} {Ls : Array Slot} (hsz : Ls.size = c.maxLocals) (hlen : ∀ sig, parseMethodDescriptor y.desc = some sig → argsL.length = sig.parameters.length) {st : List Value} (hst : st = argsL.reverse ++ .ref a :: rest) (hW : (rest.map fun v => v.category).sum ≤ W) (hd : decode c.code pc = .ok (.invokevirtual index, 3))
    (hc : cells + kC ≤ R.cells) (hs : slots + kS ≤ R.slots)
    (K : ∀ (T' : State) (v : Option Value) (L : List Loc), Stand p l e R s m args below meth c T' (locs ++ L) (cells + kC) (slots + kS) → Qc v T'.heap L → Go p e below Fin T' (mkF m (pc + 3) Ls (v.toList ++ rest))) : Go p e below Fin T (mkF m pc Ls st) := by
  subst hst
  obtain ⟨cq, kq, qa, qb, qc⟩ := isOf hZ eT E
  obtain ⟨v, _, ⟨T', L', k', n'⟩, -, X', ⟨Lc, hQ, hl, hk, hn⟩, stp⟩ := X.virtualBack hx (y := y) (z := z) hown (mvT hZ w1) (mvT hZ w2) nf (mvT hZ w3) (mvT hZ w4) hy B qa qc (g := mkF m pc Ls (argsL.reverse ++ .ref a :: rest)) rfl hsz (Steps.refl _) (argsL := argsL) (rest := rest) hlen rfl (by show 2 * 0 + _ ≤ _; omega) hd (fun _ _ => ⟨rfl, eT, hc, hs⟩)
  dsimp only [Pt.U, Pt.locs, Pt.cells, Pt.slots] at X' hl hk hn stp hQ
  subst hl hk hn
  obtain ⟨t, o, h1, r⟩ := K T' v Lc X' hQ
  exact ⟨t, o, stp.trans h1, r⟩
/-- an interface's method by the contract of the body that the receiver's class selects -/
theorem Go.face (X : Stand p l e R s m args below meth c T locs cells slots) (hx : p.tables.exec = Jvm.exec) (hZ : Z.Warmed39 s.vm) {own C : String} {index count : Nat} {y z : MethodName} (hown : s.vm.findClass own = some m.cls)
    (w1 : (Cond.methodLink own index y).before a0 Z = true) (w2 : (Cond.declares y).before a0 Z = true) (w2' : (Cond.interfaceMethod y.cls y.cls y.name y.desc).before a0 Z = true) (w3 : (Cond.selects C y z).before a0 Z = true) (w4 : (Cond.instanceMethod z).before a0 Z = true) (w4' : (Cond.publicMethod z).before a0 Z = true) (w7 : (Cond.unhidden C y.name y.desc).before a0 Z = true) (w8 : (Cond.castable C y.cls).before a0 Z = true) (hy : y.cls ≠ "java/lang/invoke/MethodHandle" ∧ y.cls ≠ "java/lang/invoke/VarHandle") (wq : ((Cond.interfaceMethod y.cls y.cls y.name y.desc).onTables && (Cond.interfaceMethod y.cls y.cls y.name y.desc).keepsFace) = true := by decide +kernel)
    (eT : T.heap = h) {kC kS : Nat} {a : Addr} (E : Exa Z h a C) {argsL rest : List Value} {Qc : Option Value → Heap → List Loc → Prop} {W : Nat} (B : OBk l R p e below s args z 5 W (.ref a :: argsL).toArray h kC kS Qc)
    {pc : Nat} {Ls : Array Slot} (hsz : Ls.size = c.maxLocals) (hlen : ∀ sig, parseMethodDescriptor y.desc = some sig → argsL.length = sig.parameters.length) {st : List Value} (hst : st = argsL.reverse ++ .ref a :: rest) (hW : (rest.map fun v => v.category).sum ≤ W) (hd : decode c.code pc = .ok (.invokeinterface index count, 5))
    (hc : cells + kC ≤ R.cells) (hs : slots + kS ≤ R.slots)
    (K : ∀ (T' : State) (v : Option Value) (L : List Loc), Stand p l e R s m args below meth c T' (locs ++ L) (cells + kC) (slots + kS) → Qc v T'.heap L → Go p e below Fin T' (mkF m (pc + 5) Ls (v.toList ++ rest))) : Go p e below Fin T (mkF m pc Ls st) := by
  subst hst
  obtain ⟨cq, kq, qa, qb, qc⟩ := isOf hZ eT E
  obtain ⟨v, _, ⟨T', L', k', n'⟩, -, X', ⟨Lc, hQ, hl, hk, hn⟩, stp⟩ := X.interfaceBack hx (xi := y) (y := z) hown (mvT hZ w1) (mvT hZ w2) (mvT hZ w2' wq) (mvT hZ w3) (mvT hZ w4) (mvT hZ w4') (mvT hZ w7) (mvT hZ w8) hy B qa qb qc (g := mkF m pc Ls (argsL.reverse ++ .ref a :: rest)) rfl hsz (Steps.refl _) (argsL := argsL) (rest := rest) hlen rfl (by show 2 * 0 + _ ≤ _; omega) hd (fun _ _ => ⟨rfl, eT, hc, hs⟩)
  dsimp only [Pt.U, Pt.locs, Pt.cells, Pt.slots] at X' hl hk hn stp hQ
  subst hl hk hn
  obtain ⟨t, o, h1, r⟩ := K T' v Lc X' hQ
  exact ⟨t, o, stp.trans h1, r⟩
/-- a private instance method by its contract -/
theorem Go.priv (X : Stand p l e R s m args below meth c T locs cells slots) (hx : p.tables.exec = Jvm.exec) (hZ : Z.Warmed39 s.vm) {own : String} {index : Nat} {y : MethodName} {bytes : ByteArray} {maxL : Nat} {ret : Option FieldType} {C : String} (hown : s.vm.findClass own = some m.cls)
    (w1 : (Cond.methodLink own index y).before a0 Z = true) (w2 : (Cond.instanceMethod y).before a0 Z = true) (sel : (Cond.selects y.cls y y).before args s = true) (w4 : (Cond.privateMethod y).before a0 Z = true) (w3 : (Cond.code y bytes maxL ret).before a0 Z = true) (hy : y.cls ≠ "java/lang/invoke/MethodHandle" ∧ y.cls ≠ "java/lang/invoke/VarHandle")
    (eT : T.heap = h) {kC kS : Nat} {a : Addr} (E : Exa Z h a C) {argsL rest : List Value} {Qc : Option Value → Heap → List Loc → Prop} {W : Nat} (B : OBk l R p e below s args y 3 W (.ref a :: argsL).toArray h kC kS Qc)
    {pc : Nat} {Ls : Array Slot} (hsz : Ls.size = c.maxLocals) (hlen : ∀ sig, parseMethodDescriptor y.desc = some sig → argsL.length = sig.parameters.length) {st : List Value} (hst : st = argsL.reverse ++ .ref a :: rest) (hW : (rest.map fun v => v.category).sum ≤ W) (hd : decode c.code pc = .ok (.invokevirtual index, 3))
    (hc : cells + kC ≤ R.cells) (hs : slots + kS ≤ R.slots)
    (K : ∀ (T' : State) (v : Option Value) (L : List Loc), Stand p l e R s m args below meth c T' (locs ++ L) (cells + kC) (slots + kS) → Qc v T'.heap L → Go p e below Fin T' (mkF m (pc + 3) Ls (v.toList ++ rest))) : Go p e below Fin T (mkF m pc Ls st) := by
  subst hst
  obtain ⟨cq, q, q'⟩ := E.cell
  obtain ⟨v, _, ⟨T', L', k', n'⟩, -, X', ⟨Lc, hQ, hl, hk, hn⟩, stp⟩ := X.privateBack hx (y := y) hown (mvT hZ w1) (mvT hZ w2) sel (Cond.privateMethod_at (mvP hZ w4 (args := #[]))) (mvT hZ w3) hy B (g := mkF m pc Ls (argsL.reverse ++ .ref a :: rest)) rfl hsz (Steps.refl _) (a := a) (by rw [eT]; exact q) q' (argsL := argsL) (rest := rest) hlen rfl (by show 2 * 0 + _ ≤ _; omega) hd (fun _ _ => ⟨rfl, eT, hc, hs⟩)
  dsimp only [Pt.U, Pt.locs, Pt.cells, Pt.slots] at X' hl hk hn stp hQ
  subst hl hk hn
  obtain ⟨t, o, h1, r⟩ := K T' v Lc X' hQ
  exact ⟨t, o, stp.trans h1, r⟩
/-- a static method by its contract -/
theorem Go.stat (X : Stand p l e R s m args below meth c T locs cells slots) (hx : p.tables.exec = Jvm.exec) (hZ : Z.Warmed39 s.vm) {own : String} {index : Nat} {y : MethodName} {bytes : ByteArray} {maxL : Nat} {ret : Option FieldType} (hown : s.vm.findClass own = some m.cls)
    (w1 : (Cond.methodLink own index y).before a0 Z = true) (w2 : (Cond.static y).before a0 Z = true) (w3 : (Cond.initialized y.cls).before a0 Z = true) (w4 : (Cond.code y bytes maxL ret).before a0 Z = true) (hy : y.cls ≠ "java/lang/invoke/MethodHandle" ∧ y.cls ≠ "java/lang/invoke/VarHandle")
    (eT : T.heap = h) {kC kS : Nat} {argsL rest : List Value} {Qc : Option Value → Heap → List Loc → Prop} {W : Nat} (B : OBk l R p e below s args y 3 W argsL.toArray h kC kS Qc)
    {pc : Nat} {Ls : Array Slot} (hsz : Ls.size = c.maxLocals) (hlen : ∀ sig, parseMethodDescriptor y.desc = some sig → argsL.length = sig.parameters.length) {st : List Value} (hst : st = argsL.reverse ++ rest) (hW : (rest.map fun v => v.category).sum ≤ W) (hd : decode c.code pc = .ok (.invokestatic index, 3))
    (hc : cells + kC ≤ R.cells) (hs : slots + kS ≤ R.slots)
    (K : ∀ (T' : State) (v : Option Value) (L : List Loc), Stand p l e R s m args below meth c T' (locs ++ L) (cells + kC) (slots + kS) → Qc v T'.heap L → Go p e below Fin T' (mkF m (pc + 3) Ls (v.toList ++ rest))) : Go p e below Fin T (mkF m pc Ls st) := by
  subst hst
  obtain ⟨v, _, ⟨T', L', k', n'⟩, -, X', ⟨Lc, hQ, hl, hk, hn⟩, stp⟩ := Jvm.LawKit.callS X hx (y := y) hown (mvT hZ w1) (mvT hZ w2) (mvT hZ w3) (mvT hZ w4) hy B (g := mkF m pc Ls (argsL.reverse ++ rest)) rfl hsz (argsL := argsL) (rest := rest) hlen rfl (by show 2 * 0 + _ ≤ _; omega) hd (fun _ _ => ⟨rfl, eT, hc, hs⟩)
  dsimp only [Pt.U, Pt.locs, Pt.cells, Pt.slots] at X' hl hk hn stp hQ
  subst hl hk hn
  obtain ⟨t, o, h1, r⟩ := K T' v Lc X' hQ
  exact ⟨t, o, stp t h1, r⟩
/-- who pays a call of a callee that may intern -/
def OBkS (l : Launch) (R : Room) (p : Program) (e : Env) (below : List Frame) (s : State) (args : Array Value) (y : MethodName) (len W : Nat) (as' : Array Value) (h : Heap) (k n : Nat) (Qc : Option Value → Heap → List Loc → Vm → Prop) : Prop :=
  BackS l R p e below s args y len W (fun A a => a = as' ∧ A.U.heap = h ∧ A.cells + k ≤ R.cells ∧ A.slots + n ≤ R.slots) (fun A _ v B => ∃ L, Qc v B.U.heap L B.U.vm ∧ B.locs = A.locs ++ L ∧ B.cells = A.cells + k ∧ B.slots = A.slots + n)
theorem MetW.back {y : MethodName} {bytes : ByteArray} {maxL : Nat} {ret : Option FieldType} {rm : Room} {as' : Array Value} {J : Vm → Prop} {Qc : Option Value → Heap → List Loc → Vm → Prop} {len W : Nat} (M : MetW l Z y bytes maxL ret rm as' h J Qc) (hZ : Z.Warmed39 s.vm) (hJ : ∀ vm1, s.WarmedH vm1 → J vm1) (wc : (Cond.code y bytes maxL ret).before a0 Z = true) (wz : (Cond.initialized y.cls).before a0 Z = true) (hf : rm.frames + 1 ≤ R.frames) (hl : W + (maxL + 11) + rm.locals ≤ R.locals) :
    OBkS l R p e below s args y len W as' h rm.cells rm.slots Qc :=
  BackS.of_freeW (bytes := bytes) (maxL := maxL) (ret := ret) (E := fun _ _ o t L k n => k = rm.cells ∧ n = rm.slots ∧ ∃ v, o = .returned v ∧ Qc v t.heap L t.vm) (M []) hf hl
    (fun m meth c A a Y hp => have hU : Z.Warmed39 A.U.vm := wtrans hZ Y.warmed
      ⟨by show (Cond.and _ .tt).before a A.U = true; rw [Cond.before_and, mv hU wc]; rfl, mv hU wc, mv hU wz, hp.2.2.1, hp.2.2.2⟩)
    (fun m meth c A a g mk Y hp => ⟨hp.1, wtrans hZ Y.warmed, hp.2.1, hJ _ Y.warmed⟩) (fun _ _ _ _ _ _ _ _ _ => trivial)
    (fun _ _ _ _ ⟨v, L, h1, h2, h3⟩ => ⟨L, _, _, h3, rfl, rfl, v, h1, h2⟩)
    (fun m meth c A a g mk v t L k n Y hp _ _ ⟨e1, e2, v', e3, e4⟩ => by cases e3; subst e1 e2; exact ⟨L, e4, rfl, rfl, rfl⟩)
/-- a constructor by its contract -/
theorem Go.specialS {vm0 : Vm} {k0 : Nat} (hS : s.Since vm0 k0) (hk0 : k0 ≤ h.size) (X : Stand p l e R (s.setVm vm0) m args below meth c T locs cells slots) (hx : p.tables.exec = Jvm.exec) (hZ : Z.Warmed39 (s.setVm vm0).vm) {own : String} {index : Nat} {y : MethodName} {bytes : ByteArray} {maxL : Nat} (hy1 : y.name = "<init>") (hown : (s.setVm vm0).vm.findClass own = some m.cls)
    (w1 : (Cond.methodLink own index y).before a0 Z = true) (w2 : (Cond.instanceMethod y).before a0 Z = true) (w3 : (Cond.code y bytes maxL none).before a0 Z = true) (hy : y.cls ≠ "java/lang/invoke/MethodHandle" ∧ y.cls ≠ "java/lang/invoke/VarHandle")
    (eT : T.heap = h) {kC kS : Nat} {a : Addr} {argsL rest : List Value} {Qc : Option Value → Heap → List Loc → Vm → Prop} {W : Nat} (B : OBkS l R p e below (s.setVm vm0) args y 3 W (.ref a :: argsL).toArray h kC kS Qc)
    {pc : Nat} {Ls : Array Slot} (hsz : Ls.size = c.maxLocals) (hlen : ∀ sig, parseMethodDescriptor y.desc = some sig → argsL.length = sig.parameters.length) {st : List Value} (hst : st = argsL.reverse ++ .ref a :: rest) (hW : (rest.map fun v => v.category).sum ≤ W) (hd : decode c.code pc = .ok (.invokespecial index, 3))
    (hc : cells + kC ≤ R.cells) (hs : slots + kS ≤ R.slots)
    (K : ∀ (T' : State) (v : Option Value) (L : List Loc), Stand p l e R (s.setVm T'.vm) m args below meth c T' (locs ++ L) (cells + kC) (slots + kS) → s.Since T'.vm T'.heap.size → (s.setVm vm0).Warmed39 T'.vm → Z.Warmed39 (s.setVm T'.vm).vm → (s.setVm T'.vm).vm.findClass own = some m.cls → h.size ≤ T'.heap.size → Qc v T'.heap L T'.vm → Go p e below Fin T' (mkF m (pc + 3) Ls (v.toList ++ rest))) : Go p e below Fin T (mkF m pc Ls st) := by
  subst hst
  obtain ⟨v, _, ⟨T', L', k', n'⟩, -, X', h2, hg, ⟨Lc, hQ, hl, hk, hn⟩, stp⟩ := X.specialBackS hx (y := y) hy1 hown (mvT hZ w1) (mvT hZ w2) (mvT hZ w3) hy B (g := mkF m pc Ls (argsL.reverse ++ .ref a :: rest)) rfl hsz (Steps.refl _) (a := a) (argsL := argsL) (rest := rest) hlen rfl (by show 2 * 0 + _ ≤ _; omega) hd (fun _ _ => ⟨rfl, eT, hc, hs⟩)
  dsimp only [Pt.U, Pt.locs, Pt.cells, Pt.slots] at X' h2 hg hl hk hn stp hQ
  subst hl hk hn
  rw [eT] at hg
  obtain ⟨X1, X2, X3, X4⟩ := rebS hS hk0 X' h2 hg hZ hown
  obtain ⟨t, o, h1, r⟩ := K T' v Lc X1 X2 h2.1 X3 X4 hg hQ
  exact ⟨t, o, stp.trans h1, r⟩
/-- an instance method by the contract of the body that the receiver's class selects -/
theorem Go.virtS {vm0 : Vm} {k0 : Nat} (hS : s.Since vm0 k0) (hk0 : k0 ≤ h.size) (X : Stand p l e R (s.setVm vm0) m args below meth c T locs cells slots) (hx : p.tables.exec = Jvm.exec) (hZ : Z.Warmed39 (s.setVm vm0).vm) {own C : String} {index : Nat} {y z : MethodName} (hown : (s.setVm vm0).vm.findClass own = some m.cls)
    (w1 : (Cond.methodLink own index y).before a0 Z = true) (w2 : (Cond.declares y).before a0 Z = true) (nf : NotFace (s.setVm vm0) y) (w3 : (Cond.selects C y z).before a0 Z = true) (w4 : (Cond.instanceMethod z).before a0 Z = true) (hy : y.cls ≠ "java/lang/invoke/MethodHandle" ∧ y.cls ≠ "java/lang/invoke/VarHandle")
    (eT : T.heap = h) {kC kS : Nat} {a : Addr} (E : Exa Z h a C) {argsL rest : List Value} {Qc : Option Value → Heap → List Loc → Vm → Prop} {W : Nat} (B : OBkS l R p e below (s.setVm vm0) args z 3 W (.ref a :: argsL).toArray h kC kS Qc)
    {pc : Nat} {Ls : Array Slot} (hsz : Ls.size = c.maxLocals) (hlen : ∀ sig, parseMethodDescriptor y.desc = some sig → argsL.length = sig.parameters.length) {st : List Value} (hst : st = argsL.reverse ++ .ref a :: rest) (hW : (rest.map fun v => v.category).sum ≤ W) (hd : decode c.code pc = .ok (.invokevirtual index, 3))
    (hc : cells + kC ≤ R.cells) (hs : slots + kS ≤ R.slots)
    (K : ∀ (T' : State) (v : Option Value) (L : List Loc), Stand p l e R (s.setVm T'.vm) m args below meth c T' (locs ++ L) (cells + kC) (slots + kS) → s.Since T'.vm T'.heap.size → (s.setVm vm0).Warmed39 T'.vm → Z.Warmed39 (s.setVm T'.vm).vm → (s.setVm T'.vm).vm.findClass own = some m.cls → h.size ≤ T'.heap.size → Qc v T'.heap L T'.vm → Go p e below Fin T' (mkF m (pc + 3) Ls (v.toList ++ rest))) : Go p e below Fin T (mkF m pc Ls st) := by
  subst hst
  obtain ⟨cq, kq, qa, qb, qc⟩ := isOf hZ eT E
  obtain ⟨v, _, ⟨T', L', k', n'⟩, -, X', h2, hg, ⟨Lc, hQ, hl, hk, hn⟩, stp⟩ := X.virtualBackS hx (y := y) (z := z) hown (mvT hZ w1) (mvT hZ w2) nf (mvT hZ w3) (mvT hZ w4) hy B qa qc (g := mkF m pc Ls (argsL.reverse ++ .ref a :: rest)) rfl hsz (Steps.refl _) (argsL := argsL) (rest := rest) hlen rfl (by show 2 * 0 + _ ≤ _; omega) hd (fun _ _ => ⟨rfl, eT, hc, hs⟩)
  dsimp only [Pt.U, Pt.locs, Pt.cells, Pt.slots] at X' h2 hg hl hk hn stp hQ
  subst hl hk hn
  rw [eT] at hg
  obtain ⟨X1, X2, X3, X4⟩ := rebS hS hk0 X' h2 hg hZ hown
  obtain ⟨t, o, h1, r⟩ := K T' v Lc X1 X2 h2.1 X3 X4 hg hQ
  exact ⟨t, o, stp.trans h1, r⟩
/-- an interface's method by the contract of the body that the receiver's class selects -/
theorem Go.faceS {vm0 : Vm} {k0 : Nat} (hS : s.Since vm0 k0) (hk0 : k0 ≤ h.size) (X : Stand p l e R (s.setVm vm0) m args below meth c T locs cells slots) (hx : p.tables.exec = Jvm.exec) (hZ : Z.Warmed39 (s.setVm vm0).vm) {own C : String} {index count : Nat} {y z : MethodName} (hown : (s.setVm vm0).vm.findClass own = some m.cls)
    (w1 : (Cond.methodLink own index y).before a0 Z = true) (w2 : (Cond.declares y).before a0 Z = true) (w2' : (Cond.interfaceMethod y.cls y.cls y.name y.desc).before a0 Z = true) (w3 : (Cond.selects C y z).before a0 Z = true) (w4 : (Cond.instanceMethod z).before a0 Z = true) (w4' : (Cond.publicMethod z).before a0 Z = true) (w7 : (Cond.unhidden C y.name y.desc).before a0 Z = true) (w8 : (Cond.castable C y.cls).before a0 Z = true) (hy : y.cls ≠ "java/lang/invoke/MethodHandle" ∧ y.cls ≠ "java/lang/invoke/VarHandle") (wq : ((Cond.interfaceMethod y.cls y.cls y.name y.desc).onTables && (Cond.interfaceMethod y.cls y.cls y.name y.desc).keepsFace) = true := by decide +kernel)
    (eT : T.heap = h) {kC kS : Nat} {a : Addr} (E : Exa Z h a C) {argsL rest : List Value} {Qc : Option Value → Heap → List Loc → Vm → Prop} {W : Nat} (B : OBkS l R p e below (s.setVm vm0) args z 5 W (.ref a :: argsL).toArray h kC kS Qc)
    {pc : Nat} {Ls : Array Slot} (hsz : Ls.size = c.maxLocals) (hlen : ∀ sig, parseMethodDescriptor y.desc = some sig → argsL.length = sig.parameters.length) {st : List Value} (hst : st = argsL.reverse ++ .ref a :: rest) (hW : (rest.map fun v => v.category).sum ≤ W) (hd : decode c.code pc = .ok (.invokeinterface index count, 5))
    (hc : cells + kC ≤ R.cells) (hs : slots + kS ≤ R.slots)
    (K : ∀ (T' : State) (v : Option Value) (L : List Loc), Stand p l e R (s.setVm T'.vm) m args below meth c T' (locs ++ L) (cells + kC) (slots + kS) → s.Since T'.vm T'.heap.size → (s.setVm vm0).Warmed39 T'.vm → Z.Warmed39 (s.setVm T'.vm).vm → (s.setVm T'.vm).vm.findClass own = some m.cls → h.size ≤ T'.heap.size → Qc v T'.heap L T'.vm → Go p e below Fin T' (mkF m (pc + 5) Ls (v.toList ++ rest))) : Go p e below Fin T (mkF m pc Ls st) := by
  subst hst
  obtain ⟨cq, kq, qa, qb, qc⟩ := isOf hZ eT E
  obtain ⟨v, _, ⟨T', L', k', n'⟩, -, X', h2, hg, ⟨Lc, hQ, hl, hk, hn⟩, stp⟩ := X.interfaceBackS hx (xi := y) (y := z) hown (mvT hZ w1) (mvT hZ w2) (mvT hZ w2' wq) (mvT hZ w3) (mvT hZ w4) (mvT hZ w4') (mvT hZ w7) (mvT hZ w8) hy B qa qb qc (g := mkF m pc Ls (argsL.reverse ++ .ref a :: rest)) rfl hsz (Steps.refl _) (argsL := argsL) (rest := rest) hlen rfl (by show 2 * 0 + _ ≤ _; omega) hd (fun _ _ => ⟨rfl, eT, hc, hs⟩)
  dsimp only [Pt.U, Pt.locs, Pt.cells, Pt.slots] at X' h2 hg hl hk hn stp hQ
  subst hl hk hn
  rw [eT] at hg
  obtain ⟨X1, X2, X3, X4⟩ := rebS hS hk0 X' h2 hg hZ hown
  obtain ⟨t, o, h1, r⟩ := K T' v Lc X1 X2 h2.1 X3 X4 hg hQ
  exact ⟨t, o, stp.trans h1, r⟩
/-- a private instance method by its contract -/
theorem Go.privS {vm0 : Vm} {k0 : Nat} (hS : s.Since vm0 k0) (hk0 : k0 ≤ h.size) (X : Stand p l e R (s.setVm vm0) m args below meth c T locs cells slots) (hx : p.tables.exec = Jvm.exec) (hZ : Z.Warmed39 (s.setVm vm0).vm) {own : String} {index : Nat} {y : MethodName} {bytes : ByteArray} {maxL : Nat} {ret : Option FieldType} {C : String} (hown : (s.setVm vm0).vm.findClass own = some m.cls)
    (w1 : (Cond.methodLink own index y).before a0 Z = true) (w2 : (Cond.instanceMethod y).before a0 Z = true) (sel : (Cond.selects y.cls y y).before args (s.setVm vm0) = true) (w4 : (Cond.privateMethod y).before a0 Z = true) (w3 : (Cond.code y bytes maxL ret).before a0 Z = true) (hy : y.cls ≠ "java/lang/invoke/MethodHandle" ∧ y.cls ≠ "java/lang/invoke/VarHandle")
    (eT : T.heap = h) {kC kS : Nat} {a : Addr} (E : Exa Z h a C) {argsL rest : List Value} {Qc : Option Value → Heap → List Loc → Vm → Prop} {W : Nat} (B : OBkS l R p e below (s.setVm vm0) args y 3 W (.ref a :: argsL).toArray h kC kS Qc)
    {pc : Nat} {Ls : Array Slot} (hsz : Ls.size = c.maxLocals) (hlen : ∀ sig, parseMethodDescriptor y.desc = some sig → argsL.length = sig.parameters.length) {st : List Value} (hst : st = argsL.reverse ++ .ref a :: rest) (hW : (rest.map fun v => v.category).sum ≤ W) (hd : decode c.code pc = .ok (.invokevirtual index, 3))
    (hc : cells + kC ≤ R.cells) (hs : slots + kS ≤ R.slots)
    (K : ∀ (T' : State) (v : Option Value) (L : List Loc), Stand p l e R (s.setVm T'.vm) m args below meth c T' (locs ++ L) (cells + kC) (slots + kS) → s.Since T'.vm T'.heap.size → (s.setVm vm0).Warmed39 T'.vm → Z.Warmed39 (s.setVm T'.vm).vm → (s.setVm T'.vm).vm.findClass own = some m.cls → h.size ≤ T'.heap.size → Qc v T'.heap L T'.vm → Go p e below Fin T' (mkF m (pc + 3) Ls (v.toList ++ rest))) : Go p e below Fin T (mkF m pc Ls st) := by
  subst hst
  obtain ⟨cq, q, q'⟩ := E.cell
  obtain ⟨v, _, ⟨T', L', k', n'⟩, -, X', h2, hg, ⟨Lc, hQ, hl, hk, hn⟩, stp⟩ := X.privateBackS hx (y := y) hown (mvT hZ w1) (mvT hZ w2) sel (Cond.privateMethod_at (mvP hZ w4 (args := #[]))) (mvT hZ w3) hy B (g := mkF m pc Ls (argsL.reverse ++ .ref a :: rest)) rfl hsz (Steps.refl _) (a := a) (by rw [eT]; exact q) q' (argsL := argsL) (rest := rest) hlen rfl (by show 2 * 0 + _ ≤ _; omega) hd (fun _ _ => ⟨rfl, eT, hc, hs⟩)
  dsimp only [Pt.U, Pt.locs, Pt.cells, Pt.slots] at X' h2 hg hl hk hn stp hQ
  subst hl hk hn
  rw [eT] at hg
  obtain ⟨X1, X2, X3, X4⟩ := rebS hS hk0 X' h2 hg hZ hown
  obtain ⟨t, o, h1, r⟩ := K T' v Lc X1 X2 h2.1 X3 X4 hg hQ
  exact ⟨t, o, stp.trans h1, r⟩
/-- a static method by its contract -/
theorem Go.statS {vm0 : Vm} {k0 : Nat} (hS : s.Since vm0 k0) (hk0 : k0 ≤ h.size) (X : Stand p l e R (s.setVm vm0) m args below meth c T locs cells slots) (hx : p.tables.exec = Jvm.exec) (hZ : Z.Warmed39 (s.setVm vm0).vm) {own : String} {index : Nat} {y : MethodName} {bytes : ByteArray} {maxL : Nat} {ret : Option FieldType} (hown : (s.setVm vm0).vm.findClass own = some m.cls)
    (w1 : (Cond.methodLink own index y).before a0 Z = true) (w2 : (Cond.static y).before a0 Z = true) (w3 : (Cond.initialized y.cls).before a0 Z = true) (w4 : (Cond.code y bytes maxL ret).before a0 Z = true) (hy : y.cls ≠ "java/lang/invoke/MethodHandle" ∧ y.cls ≠ "java/lang/invoke/VarHandle")
    (eT : T.heap = h) {kC kS : Nat} {argsL rest : List Value} {Qc : Option Value → Heap → List Loc → Vm → Prop} {W : Nat} (B : OBkS l R p e below (s.setVm vm0) args y 3 W argsL.toArray h kC kS Qc)
    {pc : Nat} {Ls : Array Slot} (hsz : Ls.size = c.maxLocals) (hlen : ∀ sig, parseMethodDescriptor y.desc = some sig → argsL.length = sig.parameters.length) {st : List Value} (hst : st = argsL.reverse ++ rest) (hW : (rest.map fun v => v.category).sum ≤ W) (hd : decode c.code pc = .ok (.invokestatic index, 3))
    (hc : cells + kC ≤ R.cells) (hs : slots + kS ≤ R.slots)
    (K : ∀ (T' : State) (v : Option Value) (L : List Loc), Stand p l e R (s.setVm T'.vm) m args below meth c T' (locs ++ L) (cells + kC) (slots + kS) → s.Since T'.vm T'.heap.size → (s.setVm vm0).Warmed39 T'.vm → Z.Warmed39 (s.setVm T'.vm).vm → (s.setVm T'.vm).vm.findClass own = some m.cls → h.size ≤ T'.heap.size → Qc v T'.heap L T'.vm → Go p e below Fin T' (mkF m (pc + 3) Ls (v.toList ++ rest))) : Go p e below Fin T (mkF m pc Ls st) := by
  subst hst
  obtain ⟨v, _, ⟨T', L', k', n'⟩, -, X', h2, hg, ⟨Lc, hQ, hl, hk, hn⟩, stp⟩ := callSS X hx (y := y) hown (mvT hZ w1) (mvT hZ w2) (mvT hZ w3) (mvT hZ w4) hy B (g := mkF m pc Ls (argsL.reverse ++ rest)) rfl hsz (argsL := argsL) (rest := rest) hlen rfl (by show 2 * 0 + _ ≤ _; omega) hd (fun _ _ => ⟨rfl, eT, hc, hs⟩)
  dsimp only [Pt.U, Pt.locs, Pt.cells, Pt.slots] at X' h2 hg hl hk hn stp hQ
  subst hl hk hn
  rw [eT] at hg
  obtain ⟨X1, X2, X3, X4⟩ := rebS hS hk0 X' h2 hg hZ hown
  obtain ⟨t, o, h1, r⟩ := K T' v Lc X1 X2 h2.1 X3 X4 hg hQ
  exact ⟨t, o, stp.trans h1, r⟩
/-- what a static holds stands over a call that writes no statics' cell -/
theorem own_sta_keep {C n d : String} {v : Value} {h h' : Heap} {ws : List Addr} (F : Sta Z h C n d v) (K : Keep h h' ws) (q : ∀ x ∈ ws, ∀ cell : Cell, h[x]? = some cell → cell.vm.isStatics = false) : Sta Z h' C n d v := by
  obtain ⟨cf, i, k, f, st, cell, h1, h2, h3, h4, h5, h6, h7⟩ := F
  exact ⟨cf, i, k, f, st, cell, h1, h2, h3, h4, K.2.1 st cell h5 (fun z => by rw [q st z cell h5] at h6; cases h6), h6, h7⟩
theorem own_exa_plain {C : String} {h : Heap} {a : Addr} (E : Exa Z h a C) : ∀ cell : Cell, h[a]? = some cell → cell.vm.isStatics = false := fun cell hc => by
  obtain ⟨c, k, h1, -, -, h4, -⟩ := E
  cases h1.symm.trans hc; exact h4
theorem own_exa_at {args : Array Value} {s : State} {t : Term} {C : String} (h : (Cond.exactly t C).value args s none s [] = some true) : ∃ a, t.eval args s none [] s = some (.ref a) ∧ Exa s s.heap a C := by
  have h' : (Cond.exactly t C).before args s = true := Cond.before_iff.mpr h
  obtain ⟨a, c', cell, k, e1, e2, e3, e4, e5, rfl, e7⟩ := Cond.exactly_spec h'
  exact ⟨a, e1, cell, k, e3, e2, e4, e5, e7⟩
theorem own_eq_int {args : Array Value} {s : State} {t : Term} {n : Int32} (h : (Cond.eq t (.int n)).value args s none s [] = some true) : t.eval args s none [] s = some (.int n) :=
  Cond.eq_int (b := .int n) (Cond.before_iff.mpr h) rfl
theorem own_field_at {args : Array Value} {s : State} {t : Term} {a : Addr} {C n d : String} {v : Value} (ht : t.eval args s none [] s = some (.ref a)) (h : (Term.field t C n d).eval args s none [] s = some v) : Fld s s.heap a C n d v := by
  rw [fld_at ht] at h
  exact Fld.start h
theorem own_not_eq {args : Array Value} {s : State} {t : Term} {z n : Int32} (ez : t.eval args s none [] s = some (.int z)) (h : (Cond.not (.eq t (.int n))).value args s none s [] = some true) : ¬ z = n := by
  intro e
  subst e
  have q := eq_i (idx := []) (o := none) (first := s) ez (Term.int_eval z) rfl
  rw [show (Cond.not (.eq t (.int z))).value args s none s [] = ((Cond.eq t (.int z)).value args s none s []).map (!·) from rfl, q] at h
  cases h
theorem own_refcat {v : Value} (h : v.isRef = true) : v.category = 1 := by cases v <;> first | rfl | (cases h)
theorem own_cat_i (z : Int32) : (Value.int z).category = 1 := rfl
theorem own_cat_l (z : Int64) : (Value.long z).category = 2 := rfl
theorem own_cat_r (a : Addr) : (Value.ref a).category = 1 := rfl
theorem own_cat_n : (Value.null).category = 1 := rfl
theorem own_one_u : (Slot.unset) = .unset ∨ ∃ w, Slot.unset = .val w ∧ w.category = 1 := Or.inl rfl
theorem own_one_v {w : Value} (h : w.category = 1) : (Slot.val w) = .unset ∨ ∃ u, Slot.val w = .val u ∧ u.category = 1 := Or.inr ⟨w, rfl, h⟩
theorem own_store1 {L L' : Array Slot} {i : Nat} {v : Value} {o : Slot} (hold : L[i]? = some o) (ho : o = .unset ∨ ∃ w, o = .val w ∧ w.category = 1) (hv : v.category = 1) (e : L.setIfInBounds i (.val v) = L') : storeLocals L i v = some L' := by
  rw [← e]; exact XS.store1 hold ho hv
theorem own_fits_of {t : FieldType} {z z' : Int32} (h : nar t z = z') (f : fits t (.int (nar t z)) = true) : fits t (.int z') = true := h ▸ f
theorem own_fits_ref {t : FieldType} {v : Value} (h : v.isRef = true) (ht : t.isReference = true) : fits t v = true := by
  cases t <;> first | (cases ht; done) | (cases v <;> first | rfl | (cases h; done))
theorem own_eq_long {args : Array Value} {s : State} {t : Term} {n : Int64} (h : (Cond.eq t (.long n)).value args s none s [] = some true) : t.eval args s none [] s = some (.long n) :=
  Cond.eq_long (b := .long n) (Cond.before_iff.mpr h) rfl
theorem own_elem_at {args : Array Value} {s : State} {t : Term} {a : Addr} {cl : Cell} {ty : FieldType} {j : Int32} {v : Value} {k : Nat} (ht : t.eval args s none [] s = some (.ref a)) (A : Arr s s.heap a cl ty) (h : (Term.elem t (.int j)).eval args s none [] s = some v) (hk : j.toNatClampNeg = k) : cl.slots[k]? = some v := by
  subst hk
  exact (elem_in h ht rfl A.1).2
theorem own_len_at {args : Array Value} {s : State} {t : Term} {a : Addr} {cl : Cell} {ty : FieldType} {n : Int32} (ht : t.eval args s none [] s = some (.ref a)) (A : Arr s s.heap a cl ty) (h : (Term.length t).eval args s none [] s = some (.int n)) : cl.slots.size < 2 ^ 31 ∧ cl.slots.size.toInt32 = n := by
  have hA := A.fin (Vm.Alike.refl _)
  by_cases q : cl.slots.size < 2 ^ 31
  · have e := len_f ht hA q
    exact ⟨q, Value.int.inj (Option.some.inj (e.symm.trans h))⟩
  · exfalso
    simp [Term.eval, ht, hA, q] at h
theorem own_eq_ref {args : Array Value} {s : State} {t u : Term} {a : Addr} (h : (Cond.eq t u).value args s none s [] = some true) (hu : u.eval args s none [] s = some (.ref a)) : t.eval args s none [] s = some (.ref a) :=
  Cond.eq_refs (Cond.before_iff.mpr h) hu rfl
theorem own_eq_null {args : Array Value} {s : State} {t : Term} (h : (Cond.eq t .null).value args s none s [] = some true) : t.eval args s none [] s = some .null := null_v h
theorem own_arr_keep {h h' : Heap} {a : Addr} {cl : Cell} {ty : FieldType} {ws : List Addr} (F : Arr Z h a cl ty) (K : Keep h h' ws) (q : a ∉ ws) : Arr Z h' a cl ty := ⟨K.2.1 a cl F.1 q, F.2⟩
theorem own_ib {vm0 : Vm} (h : vm0.interned = Z.vm.interned) : IB Z vm0 [] := ⟨#[], by simp [h], fun q hq => by simp at hq⟩
theorem own_lambda (X : Stand p l e R s m args below meth c T locs cells slots) (hx : p.tables.exec = Jvm.exec) (hZ : Z.Warmed39 s.vm) {x : MethodName} {pc index : Nat} {σ : Lambda.Shape} (hnamed : Z.methodNamed? x = some m) (w : (Cond.lambdaSite x pc index σ).before a0 Z = true) (hcap : σ.captured = [])
    {g : JFrame} (hg : g.method = m) (hpc : g.pc = pc) (hsize : g.locals.size = c.maxLocals) (hd : decode c.code g.pc = .ok (.invokedynamic index, 5)) (hwords : 2 * g.monitorRoom + (g.stack.map fun v => v.category).sum + 3072 ≤ R.locals) :
    ∃ a : Addr, ∀ t, Steps p.tables e below (T.setTop { g with pc := g.pc + 5, stack := .ref a :: g.stack }) t → Steps p.tables e below (T.setTop g) t := by
  obtain ⟨cK, one, hat⟩ := Cond.lambdaSite_spec w
  obtain ⟨mD, kD, cfD, i0, p0, lk, hmD, hkD, -, -, -, hfind, -, -, hl⟩ := State.lambdaAt?_spec hat
  cases hnamed.symm.trans hmD
  obtain ⟨k', hk', he, -⟩ := hZ.2.2.2 _ _ hkD
  have hw : e.platform.lambdaLinkWords = 3072 := by rw [X.admits.platform]
  rcases hl with ⟨a, cell, rfl, -⟩ | ⟨-, -, hne⟩
  · exact ⟨a, fun t k => X.lambdaConstant hx hg hsize hd hk' (by rw [hpc, he]; exact hfind) (by rw [hw]; exact hwords) k⟩
  · exact absurd hcap hne
/-- 'ldcSVL', with what it tells of the tables since just before it -/
theorem own_ldcL {vm0 : Vm} {own text : String} {index : Nat} {Ts : List String} (X : Stand p l e R (s.setVm vm0) m args below meth c T locs cells slots) (hx : p.tables.exec = Jvm.exec) (hZ : Z.Warmed39 (s.setVm vm0).vm) (hown : (s.setVm vm0).vm.findClass own = some m.cls) (w : (Cond.stringLink own index text).before a0 Z = true) (wS : ∀ a ∈ Bundle.stringAtoms, a.before a0 Z = true)
    (eT : T.heap = h) {k0 : Nat} (hS : s.Since vm0 k0) (hk : k0 ≤ h.size) (N : Fr s.heap.size locs) (hkeep : ∀ (b : Addr) (cl : Cell), Z.heap[b]? = some cl → s.heap[b]? = some cl) (I : IB Z vm0 Ts) (hnot : text ∉ Ts) (hh : Jvm.Lit.constHeld Z own index) (hcw : Jvm.Lit.compactW.before a0 Z = true)
    {vs : List Value} {z : Int32} (ht : (∀ c ∈ text.toList, c.toNat < 256) ∧ text.toList.map (fun c => Value.int (Jvm.Lit.byteI c.toNat.toUInt16)) = vs) (hz : ¬ z < 0) (hl : z.toNatClampNeg = vs.length)
    {g : JFrame} (hg : g.method = m) (hd : decode c.code g.pc = .ok (.ldc index, 2)) {n : Nat} (hn : 4 * text.toList.length ≤ n) (hbig : n ≤ 536870912) (hc : cells + 2 ≤ R.cells) (hl' : slots + (n + 4) ≤ R.slots) :
    ∃ (a : Addr) (T' : State) (h' : Heap) (b : Addr) (k : ClassId), Stand p l e R (s.setVm T'.vm) m args below meth c T' locs (cells + 2) (slots + (n + 4)) ∧ T'.heap = h' ∧ Ext h h' ∧ s.Since T'.vm h'.size ∧ (s.setVm vm0).Warmed39 T'.vm ∧ Z.Warmed39 (s.setVm T'.vm).vm ∧ (s.setVm T'.vm).vm.findClass own = some m.cls ∧
      Exa Z h' a "java/lang/String" ∧ Fld Z h' a "java/lang/String" "coder" "B" (.int 0) ∧ Fld Z h' a "java/lang/String" "value" "[B" (.ref b) ∧ Arv Z h' b k .byte z vs (.int 0) ∧ IB Z T'.vm (text :: Ts) ∧ Lit (Z.setVm T'.vm) own index a ∧
      ∀ target, Steps p.tables e below (T'.setTop { g with pc := g.pc + 2, stack := .ref a :: g.stack }) target → Steps p.tables e below (T.setTop g) target := by
  obtain ⟨a, T', h', k1, b, k, r1, r2, r3, r4, r5, r6, r7, r8, r9, r10, r11, -, -, r14, r15, st⟩ := ldcSVL (s := s.setVm vm0) (vm0 := vm0) (k0 := 0) X hx hZ hown w wS eT (State.WarmedH.since (State.WarmedH.refl (s.setVm vm0)) 0) (Nat.zero_le _) N hkeep I hnot hh hcw ht hz hl hg hd hn hbig hc hl'
  exact ⟨a, T', h', b, k, r1, r2, r3, hS.trans ⟨r4.1, r4.2.mono r5⟩ (Nat.le_trans hk r3.1), r4.1, r6, r7, r8, r9, r10, r11, r14, r15, st⟩
theorem own_lit_stays {vm0 vm1 : Vm} {own : String} {index : Nat} {a : Addr} (L : Lit (Z.setVm vm0) own index a) (hW : (s.setVm vm0).Warmed39 vm1) : Lit (Z.setVm vm1) own index a := (Lit.stays (s := s) (vm0 := vm0) (vm1 := vm1) L hW : Lit (s.setVm vm1) own index a)
theorem own_ib_more {vm0 : Vm} {Ts : List String} {t : String} (I : IB Z vm0 Ts) : IB Z vm0 (t :: Ts) := by
  obtain ⟨more, h1, h2⟩ := I
  exact ⟨more, h1, fun q hq => by obtain ⟨u, hu, e⟩ := h2 q hq; exact ⟨u, List.mem_cons_of_mem _ hu, e⟩⟩
theorem own_ib_warm {vm0 : Vm} {Ts : List String} (I : IB Z s.vm Ts) (hW : s.WarmedH vm0) : IB Z vm0 Ts := by
  obtain ⟨more, h1, h2⟩ := I
  exact ⟨more, by rw [hW.interned_eq]; exact h1, h2⟩
end OwnGo
end Jvm.RoadKit
@@BLOCK:LamKit.lean.txt@@
namespace Jvm.Pilot.@@N@@
open Jvm Jvm.ClassFile Sem Op Lib Jvm.Free Jvm.Stand Jvm.LawKit Jvm.RoadKit Bundle Jvm.Pilot.@@N@@.Jvm.D
theorem d1_0 : decode jdk_32_method_1_code 0 = .ok (.getstatic 1, 3) := by decide +kernel
theorem d1_3 : decode jdk_32_method_1_code 3 = .ok (.astore_n 0, 1) := by decide +kernel
theorem d1_4 : decode jdk_32_method_1_code 4 = .ok (.aload_n 0, 1) := by decide +kernel
theorem d1_5 : decode jdk_32_method_1_code 5 = .ok (.areturn, 1) := by decide +kernel
theorem d5_0 : decode jdk_31_method_11_code 0 = .ok (.aload_n 0, 1) := by decide +kernel
theorem d5_1 : decode jdk_31_method_11_code 1 = .ok (.ifnonnull 12, 3) := by decide +kernel
theorem d5_4 : decode jdk_31_method_11_code 4 = .ok (.new 84, 3) := by decide +kernel
theorem d5_7 : decode jdk_31_method_11_code 7 = .ok (.dup, 1) := by decide +kernel
theorem d5_8 : decode jdk_31_method_11_code 8 = .ok (.aload_n 1, 1) := by decide +kernel
theorem d5_9 : decode jdk_31_method_11_code 9 = .ok (.invokespecial 87, 3) := by decide +kernel
theorem d5_12 : decode jdk_31_method_11_code 12 = .ok (.athrow, 1) := by decide +kernel
theorem d5_13 : decode jdk_31_method_11_code 13 = .ok (.aload_n 0, 1) := by decide +kernel
theorem d5_14 : decode jdk_31_method_11_code 14 = .ok (.areturn, 1) := by decide +kernel
theorem d17_0 : decode jdk_31_method_10_code 0 = .ok (.aload_n 0, 1) := by decide +kernel
theorem d17_1 : decode jdk_31_method_10_code 1 = .ok (.ifnonnull 11, 3) := by decide +kernel
theorem d17_4 : decode jdk_31_method_10_code 4 = .ok (.new 84, 3) := by decide +kernel
theorem d17_7 : decode jdk_31_method_10_code 7 = .ok (.dup, 1) := by decide +kernel
theorem d17_8 : decode jdk_31_method_10_code 8 = .ok (.invokespecial 86, 3) := by decide +kernel
theorem d17_11 : decode jdk_31_method_10_code 11 = .ok (.athrow, 1) := by decide +kernel
theorem d17_12 : decode jdk_31_method_10_code 12 = .ok (.aload_n 0, 1) := by decide +kernel
theorem d17_13 : decode jdk_31_method_10_code 13 = .ok (.areturn, 1) := by decide +kernel
theorem d8_0 : decode jdk_42_method_154_code 0 = .ok (.getstatic 38, 3) := by decide +kernel
theorem d8_3 : decode jdk_42_method_154_code 3 = .ok (.ifCond .eq 14, 3) := by decide +kernel
theorem d8_6 : decode jdk_42_method_154_code 6 = .ok (.aload_n 0, 1) := by decide +kernel
theorem d8_7 : decode jdk_42_method_154_code 7 = .ok (.getfield 15, 3) := by decide +kernel
theorem d8_10 : decode jdk_42_method_154_code 10 = .ok (.ifCond .ne 7, 3) := by decide +kernel
theorem d8_13 : decode jdk_42_method_154_code 13 = .ok (.iconst 1, 1) := by decide +kernel
theorem d8_14 : decode jdk_42_method_154_code 14 = .ok (.goto 4, 3) := by decide +kernel
theorem d8_17 : decode jdk_42_method_154_code 17 = .ok (.iconst 0, 1) := by decide +kernel
theorem d8_18 : decode jdk_42_method_154_code 18 = .ok (.ireturn, 1) := by decide +kernel
theorem d10_0 : decode jdk_43_method_44_code 0 = .ok (.aload_n 0, 1) := by decide +kernel
theorem d10_1 : decode jdk_43_method_44_code 1 = .ok (.iload_n 1, 1) := by decide +kernel
theorem d10_2 : decode jdk_43_method_44_code 2 = .ok (.baload, 1) := by decide +kernel
theorem d10_3 : decode jdk_43_method_44_code 3 = .ok (.sipush 255, 3) := by decide +kernel
theorem d10_6 : decode jdk_43_method_44_code 6 = .ok (.iand, 1) := by decide +kernel
theorem d10_7 : decode jdk_43_method_44_code 7 = .ok (.i2c, 1) := by decide +kernel
theorem d10_8 : decode jdk_43_method_44_code 8 = .ok (.ireturn, 1) := by decide +kernel
theorem d12_0 : decode jdk_116_method_1_code 0 = .ok (.iload_n 1, 1) := by decide +kernel
theorem d12_1 : decode jdk_116_method_1_code 1 = .ok (.i2c, 1) := by decide +kernel
theorem d12_2 : decode jdk_116_method_1_code 2 = .ok (.istore_n 2, 1) := by decide +kernel
theorem d12_3 : decode jdk_116_method_1_code 3 = .ok (.getstatic 1, 3) := by decide +kernel
theorem d12_6 : decode jdk_116_method_1_code 6 = .ok (.iload_n 2, 1) := by decide +kernel
theorem d12_7 : decode jdk_116_method_1_code 7 = .ok (.iaload, 1) := by decide +kernel
theorem d12_8 : decode jdk_116_method_1_code 8 = .ok (.istore_n 3, 1) := by decide +kernel
theorem d12_9 : decode jdk_116_method_1_code 9 = .ok (.iload_n 3, 1) := by decide +kernel
theorem d12_10 : decode jdk_116_method_1_code 10 = .ok (.ireturn, 1) := by decide +kernel
theorem d11_0 : decode jdk_116_method_26_code 0 = .ok (.aload_n 0, 1) := by decide +kernel
theorem d11_1 : decode jdk_116_method_26_code 1 = .ok (.iload_n 1, 1) := by decide +kernel
theorem d11_2 : decode jdk_116_method_26_code 2 = .ok (.invokevirtual 15, 3) := by decide +kernel
theorem d11_5 : decode jdk_116_method_26_code 5 = .ok (.istore_n 2, 1) := by decide +kernel
theorem d11_6 : decode jdk_116_method_26_code 6 = .ok (.iload_n 2, 1) := by decide +kernel
theorem d11_7 : decode jdk_116_method_26_code 7 = .ok (.sipush 28672, 3) := by decide +kernel
theorem d11_10 : decode jdk_116_method_26_code 10 = .ok (.iand, 1) := by decide +kernel
theorem d11_11 : decode jdk_116_method_26_code 11 = .ok (.sipush 16384, 3) := by decide +kernel
theorem d11_14 : decode jdk_116_method_26_code 14 = .ok (.if_icmp .ne 7, 3) := by decide +kernel
theorem d11_17 : decode jdk_116_method_26_code 17 = .ok (.iconst 1, 1) := by decide +kernel
theorem d11_18 : decode jdk_116_method_26_code 18 = .ok (.goto 4, 3) := by decide +kernel
theorem d11_21 : decode jdk_116_method_26_code 21 = .ok (.iconst 0, 1) := by decide +kernel
theorem d11_22 : decode jdk_116_method_26_code 22 = .ok (.ireturn, 1) := by decide +kernel
theorem d9_0 : decode jdk_43_method_37_code 0 = .ok (.aload_n 0, 1) := by decide +kernel
theorem d9_1 : decode jdk_43_method_37_code 1 = .ok (.arraylength, 1) := by decide +kernel
theorem d9_2 : decode jdk_43_method_37_code 2 = .ok (.istore_n 1, 1) := by decide +kernel
theorem d9_3 : decode jdk_43_method_37_code 3 = .ok (.iconst 0, 1) := by decide +kernel
theorem d9_4 : decode jdk_43_method_37_code 4 = .ok (.istore_n 2, 1) := by decide +kernel
theorem d9_5 : decode jdk_43_method_37_code 5 = .ok (.iload_n 2, 1) := by decide +kernel
theorem d9_6 : decode jdk_43_method_37_code 6 = .ok (.iload_n 1, 1) := by decide +kernel
theorem d9_7 : decode jdk_43_method_37_code 7 = .ok (.if_icmp .ge 40, 3) := by decide +kernel
theorem d9_10 : decode jdk_43_method_37_code 10 = .ok (.aload_n 0, 1) := by decide +kernel
theorem d9_11 : decode jdk_43_method_37_code 11 = .ok (.iload_n 2, 1) := by decide +kernel
theorem d9_12 : decode jdk_43_method_37_code 12 = .ok (.invokestatic 50, 3) := by decide +kernel
theorem d9_15 : decode jdk_43_method_37_code 15 = .ok (.istore_n 3, 1) := by decide +kernel
theorem d9_16 : decode jdk_43_method_37_code 16 = .ok (.iload_n 3, 1) := by decide +kernel
theorem d9_17 : decode jdk_43_method_37_code 17 = .ok (.bipush 32, 2) := by decide +kernel
theorem d9_19 : decode jdk_43_method_37_code 19 = .ok (.if_icmp .eq 22, 3) := by decide +kernel
theorem d9_22 : decode jdk_43_method_37_code 22 = .ok (.iload_n 3, 1) := by decide +kernel
theorem d9_23 : decode jdk_43_method_37_code 23 = .ok (.bipush 9, 2) := by decide +kernel
theorem d9_25 : decode jdk_43_method_37_code 25 = .ok (.if_icmp .eq 16, 3) := by decide +kernel
theorem d9_28 : decode jdk_43_method_37_code 28 = .ok (.getstatic 66, 3) := by decide +kernel
theorem d9_31 : decode jdk_43_method_37_code 31 = .ok (.iload_n 3, 1) := by decide +kernel
theorem d9_32 : decode jdk_43_method_37_code 32 = .ok (.invokevirtual 211, 3) := by decide +kernel
theorem d9_35 : decode jdk_43_method_37_code 35 = .ok (.ifCond .ne 6, 3) := by decide +kernel
theorem d9_38 : decode jdk_43_method_37_code 38 = .ok (.goto 9, 3) := by decide +kernel
theorem d9_41 : decode jdk_43_method_37_code 41 = .ok (.iinc 2 1, 3) := by decide +kernel
theorem d9_44 : decode jdk_43_method_37_code 44 = .ok (.goto (-39), 3) := by decide +kernel
theorem d9_47 : decode jdk_43_method_37_code 47 = .ok (.iload_n 2, 1) := by decide +kernel
theorem d9_48 : decode jdk_43_method_37_code 48 = .ok (.ireturn, 1) := by decide +kernel
theorem d7_0 : decode jdk_42_method_120_code 0 = .ok (.aload_n 0, 1) := by decide +kernel
theorem d7_1 : decode jdk_42_method_120_code 1 = .ok (.invokevirtual 492, 3) := by decide +kernel
theorem d7_4 : decode jdk_42_method_120_code 4 = .ok (.ifCond .eq 13, 3) := by decide +kernel
theorem d7_7 : decode jdk_42_method_120_code 7 = .ok (.aload_n 0, 1) := by decide +kernel
theorem d7_8 : decode jdk_42_method_120_code 8 = .ok (.getfield 9, 3) := by decide +kernel
theorem d7_11 : decode jdk_42_method_120_code 11 = .ok (.invokestatic 924, 3) := by decide +kernel
theorem d7_14 : decode jdk_42_method_120_code 14 = .ok (.goto 10, 3) := by decide +kernel
theorem d7_17 : decode jdk_42_method_120_code 17 = .ok (.aload_n 0, 1) := by decide +kernel
theorem d7_18 : decode jdk_42_method_120_code 18 = .ok (.getfield 9, 3) := by decide +kernel
theorem d7_21 : decode jdk_42_method_120_code 21 = .ok (.invokestatic 926, 3) := by decide +kernel
theorem d7_24 : decode jdk_42_method_120_code 24 = .ok (.ireturn, 1) := by decide +kernel
theorem d14_0 : decode jdk_42_method_152_code 0 = .ok (.getstatic 38, 3) := by decide +kernel
theorem d14_3 : decode jdk_42_method_152_code 3 = .ok (.ifCond .eq 10, 3) := by decide +kernel
theorem d14_6 : decode jdk_42_method_152_code 6 = .ok (.aload_n 0, 1) := by decide +kernel
theorem d14_7 : decode jdk_42_method_152_code 7 = .ok (.getfield 15, 3) := by decide +kernel
theorem d14_10 : decode jdk_42_method_152_code 10 = .ok (.goto 4, 3) := by decide +kernel
theorem d14_13 : decode jdk_42_method_152_code 13 = .ok (.iconst 1, 1) := by decide +kernel
theorem d14_14 : decode jdk_42_method_152_code 14 = .ok (.ireturn, 1) := by decide +kernel
theorem d13_0 : decode jdk_42_method_54_code 0 = .ok (.aload_n 0, 1) := by decide +kernel
theorem d13_1 : decode jdk_42_method_54_code 1 = .ok (.getfield 9, 3) := by decide +kernel
theorem d13_4 : decode jdk_42_method_54_code 4 = .ok (.arraylength, 1) := by decide +kernel
theorem d13_5 : decode jdk_42_method_54_code 5 = .ok (.aload_n 0, 1) := by decide +kernel
theorem d13_6 : decode jdk_42_method_54_code 6 = .ok (.invokevirtual 335, 3) := by decide +kernel
theorem d13_9 : decode jdk_42_method_54_code 9 = .ok (.ishr, 1) := by decide +kernel
theorem d13_10 : decode jdk_42_method_54_code 10 = .ok (.ireturn, 1) := by decide +kernel
theorem d6_0 : decode jdk_42_method_117_code 0 = .ok (.aload_n 0, 1) := by decide +kernel
theorem d6_1 : decode jdk_42_method_117_code 1 = .ok (.invokevirtual 876, 3) := by decide +kernel
theorem d6_4 : decode jdk_42_method_117_code 4 = .ok (.aload_n 0, 1) := by decide +kernel
theorem d6_5 : decode jdk_42_method_117_code 5 = .ok (.invokevirtual 505, 3) := by decide +kernel
theorem d6_8 : decode jdk_42_method_117_code 8 = .ok (.if_icmp .ne 7, 3) := by decide +kernel
theorem d6_11 : decode jdk_42_method_117_code 11 = .ok (.iconst 1, 1) := by decide +kernel
theorem d6_12 : decode jdk_42_method_117_code 12 = .ok (.goto 4, 3) := by decide +kernel
theorem d6_15 : decode jdk_42_method_117_code 15 = .ok (.iconst 0, 1) := by decide +kernel
theorem d6_16 : decode jdk_42_method_117_code 16 = .ok (.ireturn, 1) := by decide +kernel
theorem d15_0 : decode jdk_32_method_6_code 0 = .ok (.aload_n 0, 1) := by decide +kernel
theorem d15_1 : decode jdk_32_method_6_code 1 = .ok (.getfield 13, 3) := by decide +kernel
theorem d15_4 : decode jdk_32_method_6_code 4 = .ok (.ifnull 7, 3) := by decide +kernel
theorem d15_7 : decode jdk_32_method_6_code 7 = .ok (.iconst 1, 1) := by decide +kernel
theorem d15_8 : decode jdk_32_method_6_code 8 = .ok (.goto 4, 3) := by decide +kernel
theorem d15_11 : decode jdk_32_method_6_code 11 = .ok (.iconst 0, 1) := by decide +kernel
theorem d15_12 : decode jdk_32_method_6_code 12 = .ok (.ireturn, 1) := by decide +kernel
theorem d18_0 : decode jdk_32_method_7_code 0 = .ok (.aload_n 0, 1) := by decide +kernel
theorem d18_1 : decode jdk_32_method_7_code 1 = .ok (.getfield 13, 3) := by decide +kernel
theorem d18_4 : decode jdk_32_method_7_code 4 = .ok (.ifnonnull 7, 3) := by decide +kernel
theorem d18_7 : decode jdk_32_method_7_code 7 = .ok (.iconst 1, 1) := by decide +kernel
theorem d18_8 : decode jdk_32_method_7_code 8 = .ok (.goto 4, 3) := by decide +kernel
theorem d18_11 : decode jdk_32_method_7_code 11 = .ok (.iconst 0, 1) := by decide +kernel
theorem d18_12 : decode jdk_32_method_7_code 12 = .ok (.ireturn, 1) := by decide +kernel
theorem d16_0 : decode jdk_32_method_11_code 0 = .ok (.aload_n 1, 1) := by decide +kernel
theorem d16_1 : decode jdk_32_method_11_code 1 = .ok (.invokestatic 17, 3) := by decide +kernel
theorem d16_4 : decode jdk_32_method_11_code 4 = .ok (.pop, 1) := by decide +kernel
theorem d16_5 : decode jdk_32_method_11_code 5 = .ok (.aload_n 0, 1) := by decide +kernel
theorem d16_6 : decode jdk_32_method_11_code 6 = .ok (.invokevirtual 43, 3) := by decide +kernel
theorem d16_9 : decode jdk_32_method_11_code 9 = .ok (.ifCond .eq 7, 3) := by decide +kernel
theorem d16_12 : decode jdk_32_method_11_code 12 = .ok (.invokestatic 53, 3) := by decide +kernel
theorem d16_15 : decode jdk_32_method_11_code 15 = .ok (.areturn, 1) := by decide +kernel
theorem d16_16 : decode jdk_32_method_11_code 16 = .ok (.aload_n 1, 1) := by decide +kernel
theorem d16_17 : decode jdk_32_method_11_code 17 = .ok (.aload_n 0, 1) := by decide +kernel
theorem d16_18 : decode jdk_32_method_11_code 18 = .ok (.getfield 13, 3) := by decide +kernel
theorem d16_21 : decode jdk_32_method_11_code 21 = .ok (.invokeinterface 57 2, 5) := by decide +kernel
theorem d16_26 : decode jdk_32_method_11_code 26 = .ok (.invokestatic 62, 3) := by decide +kernel
theorem d16_29 : decode jdk_32_method_11_code 29 = .ok (.areturn, 1) := by decide +kernel
theorem d20_0 : decode jdk_29_method_66_code 0 = .ok (.lload_n 0, 1) := by decide +kernel
theorem d20_1 : decode jdk_29_method_66_code 1 = .ok (.lload_n 2, 1) := by decide +kernel
theorem d20_2 : decode jdk_29_method_66_code 2 = .ok (.lcmp, 1) := by decide +kernel
theorem d20_3 : decode jdk_29_method_66_code 3 = .ok (.ifCond .lt 7, 3) := by decide +kernel
theorem d20_6 : decode jdk_29_method_66_code 6 = .ok (.lload_n 0, 1) := by decide +kernel
theorem d20_7 : decode jdk_29_method_66_code 7 = .ok (.goto 4, 3) := by decide +kernel
theorem d20_10 : decode jdk_29_method_66_code 10 = .ok (.lload_n 2, 1) := by decide +kernel
theorem d20_11 : decode jdk_29_method_66_code 11 = .ok (.lreturn, 1) := by decide +kernel
theorem d2_0 : decode prog_54_method_1_code 0 = .ok (.aload_n 0, 1) := by decide +kernel
theorem d2_1 : decode prog_54_method_1_code 1 = .ok (.invokespecial 1, 3) := by decide +kernel
theorem d2_4 : decode prog_54_method_1_code 4 = .ok (.aload_n 1, 1) := by decide +kernel
theorem d2_5 : decode prog_54_method_1_code 5 = .ok (.ldc 7, 2) := by decide +kernel
theorem d2_7 : decode prog_54_method_1_code 7 = .ok (.invokestatic 9, 3) := by decide +kernel
theorem d2_10 : decode prog_54_method_1_code 10 = .ok (.pop, 1) := by decide +kernel
theorem d2_11 : decode prog_54_method_1_code 11 = .ok (.aload 4, 2) := by decide +kernel
theorem d2_13 : decode prog_54_method_1_code 13 = .ok (.ldc 15, 2) := by decide +kernel
theorem d2_15 : decode prog_54_method_1_code 15 = .ok (.invokestatic 9, 3) := by decide +kernel
theorem d2_18 : decode prog_54_method_1_code 18 = .ok (.pop, 1) := by decide +kernel
theorem d2_19 : decode prog_54_method_1_code 19 = .ok (.aload_n 1, 1) := by decide +kernel
theorem d2_20 : decode prog_54_method_1_code 20 = .ok (.invokevirtual 17, 3) := by decide +kernel
theorem d2_23 : decode prog_54_method_1_code 23 = .ok (.ifCond .eq 13, 3) := by decide +kernel
theorem d2_26 : decode prog_54_method_1_code 26 = .ok (.new 23, 3) := by decide +kernel
theorem d2_29 : decode prog_54_method_1_code 29 = .ok (.dup, 1) := by decide +kernel
theorem d2_30 : decode prog_54_method_1_code 30 = .ok (.ldc 25, 2) := by decide +kernel
theorem d2_32 : decode prog_54_method_1_code 32 = .ok (.invokespecial 27, 3) := by decide +kernel
theorem d2_35 : decode prog_54_method_1_code 35 = .ok (.athrow, 1) := by decide +kernel
theorem d2_36 : decode prog_54_method_1_code 36 = .ok (.lload_n 2, 1) := by decide +kernel
theorem d2_37 : decode prog_54_method_1_code 37 = .ok (.lconst 0, 1) := by decide +kernel
theorem d2_38 : decode prog_54_method_1_code 38 = .ok (.lcmp, 1) := by decide +kernel
theorem d2_39 : decode prog_54_method_1_code 39 = .ok (.ifCond .ge 18, 3) := by decide +kernel
theorem d2_42 : decode prog_54_method_1_code 42 = .ok (.new 23, 3) := by decide +kernel
theorem d2_45 : decode prog_54_method_1_code 45 = .ok (.dup, 1) := by decide +kernel
theorem d2_46 : decode prog_54_method_1_code 46 = .ok (.aload_n 1, 1) := by decide +kernel
theorem d2_47 : decode prog_54_method_1_code 47 = .ok (.lload_n 2, 1) := by decide +kernel
theorem d2_48 : decode prog_54_method_1_code 48 = .ok (.invokedynamic 30, 5) := by decide +kernel
theorem d2_53 : decode prog_54_method_1_code 53 = .ok (.invokespecial 27, 3) := by decide +kernel
theorem d2_56 : decode prog_54_method_1_code 56 = .ok (.athrow, 1) := by decide +kernel
theorem d2_57 : decode prog_54_method_1_code 57 = .ok (.aload 4, 2) := by decide +kernel
theorem d2_59 : decode prog_54_method_1_code 59 = .ok (.invokevirtual 34, 3) := by decide +kernel
theorem d2_62 : decode prog_54_method_1_code 62 = .ok (.ifCond .eq 39, 3) := by decide +kernel
theorem d2_65 : decode prog_54_method_1_code 65 = .ok (.aload 4, 2) := by decide +kernel
theorem d2_67 : decode prog_54_method_1_code 67 = .ok (.invokevirtual 39, 3) := by decide +kernel
theorem d2_70 : decode prog_54_method_1_code 70 = .ok (.checkcast 43, 3) := by decide +kernel
theorem d2_73 : decode prog_54_method_1_code 73 = .ok (.invokevirtual 45, 3) := by decide +kernel
theorem d2_76 : decode prog_54_method_1_code 76 = .ok (.ifCond .ge 25, 3) := by decide +kernel
theorem d2_79 : decode prog_54_method_1_code 79 = .ok (.new 23, 3) := by decide +kernel
theorem d2_82 : decode prog_54_method_1_code 82 = .ok (.dup, 1) := by decide +kernel
theorem d2_83 : decode prog_54_method_1_code 83 = .ok (.aload_n 1, 1) := by decide +kernel
theorem d2_84 : decode prog_54_method_1_code 84 = .ok (.aload 4, 2) := by decide +kernel
theorem d2_86 : decode prog_54_method_1_code 86 = .ok (.invokevirtual 39, 3) := by decide +kernel
theorem d2_89 : decode prog_54_method_1_code 89 = .ok (.invokestatic 49, 3) := by decide +kernel
theorem d2_92 : decode prog_54_method_1_code 92 = .ok (.invokedynamic 53, 5) := by decide +kernel
theorem d2_97 : decode prog_54_method_1_code 97 = .ok (.invokespecial 27, 3) := by decide +kernel
theorem d2_100 : decode prog_54_method_1_code 100 = .ok (.athrow, 1) := by decide +kernel
theorem d2_101 : decode prog_54_method_1_code 101 = .ok (.aload 4, 2) := by decide +kernel
theorem d2_103 : decode prog_54_method_1_code 103 = .ok (.invokedynamic 56, 5) := by decide +kernel
theorem d2_108 : decode prog_54_method_1_code 108 = .ok (.invokevirtual 60, 3) := by decide +kernel
theorem d2_111 : decode prog_54_method_1_code 111 = .ok (.astore 4, 2) := by decide +kernel
theorem d2_113 : decode prog_54_method_1_code 113 = .ok (.aload_n 0, 1) := by decide +kernel
theorem d2_114 : decode prog_54_method_1_code 114 = .ok (.aload_n 1, 1) := by decide +kernel
theorem d2_115 : decode prog_54_method_1_code 115 = .ok (.putfield 64, 3) := by decide +kernel
theorem d2_118 : decode prog_54_method_1_code 118 = .ok (.aload_n 0, 1) := by decide +kernel
theorem d2_119 : decode prog_54_method_1_code 119 = .ok (.lload_n 2, 1) := by decide +kernel
theorem d2_120 : decode prog_54_method_1_code 120 = .ok (.putfield 69, 3) := by decide +kernel
theorem d2_123 : decode prog_54_method_1_code 123 = .ok (.aload_n 0, 1) := by decide +kernel
theorem d2_124 : decode prog_54_method_1_code 124 = .ok (.aload 4, 2) := by decide +kernel
theorem d2_126 : decode prog_54_method_1_code 126 = .ok (.putfield 73, 3) := by decide +kernel
theorem d2_129 : decode prog_54_method_1_code 129 = .ok (.return_, 1) := by decide +kernel
theorem d19_0 : decode prog_54_method_2_code 0 = .ok (.lload_n 1, 1) := by decide +kernel
theorem d19_1 : decode prog_54_method_2_code 1 = .ok (.lconst 0, 1) := by decide +kernel
theorem d19_2 : decode prog_54_method_2_code 2 = .ok (.lcmp, 1) := by decide +kernel
theorem d19_3 : decode prog_54_method_2_code 3 = .ok (.ifCond .ge 21, 3) := by decide +kernel
theorem d19_6 : decode prog_54_method_2_code 6 = .ok (.new 23, 3) := by decide +kernel
theorem d19_9 : decode prog_54_method_2_code 9 = .ok (.dup, 1) := by decide +kernel
theorem d19_10 : decode prog_54_method_2_code 10 = .ok (.aload_n 0, 1) := by decide +kernel
theorem d19_11 : decode prog_54_method_2_code 11 = .ok (.getfield 64, 3) := by decide +kernel
theorem d19_14 : decode prog_54_method_2_code 14 = .ok (.lload_n 1, 1) := by decide +kernel
theorem d19_15 : decode prog_54_method_2_code 15 = .ok (.invokedynamic 76, 5) := by decide +kernel
theorem d19_20 : decode prog_54_method_2_code 20 = .ok (.invokespecial 27, 3) := by decide +kernel
theorem d19_23 : decode prog_54_method_2_code 23 = .ok (.athrow, 1) := by decide +kernel
theorem d19_24 : decode prog_54_method_2_code 24 = .ok (.lconst 0, 1) := by decide +kernel
theorem d19_25 : decode prog_54_method_2_code 25 = .ok (.lload_n 1, 1) := by decide +kernel
theorem d19_26 : decode prog_54_method_2_code 26 = .ok (.aload_n 0, 1) := by decide +kernel
theorem d19_27 : decode prog_54_method_2_code 27 = .ok (.getfield 69, 3) := by decide +kernel
theorem d19_30 : decode prog_54_method_2_code 30 = .ok (.lsub, 1) := by decide +kernel
theorem d19_31 : decode prog_54_method_2_code 31 = .ok (.invokestatic 77, 3) := by decide +kernel
theorem d19_34 : decode prog_54_method_2_code 34 = .ok (.lreturn, 1) := by decide +kernel
theorem d3_0 : decode jdk_30_method_1_code 0 = .ok (.aload_n 0, 1) := by decide +kernel
theorem d3_1 : decode jdk_30_method_1_code 1 = .ok (.invokespecial 1, 3) := by decide +kernel
theorem d3_4 : decode jdk_30_method_1_code 4 = .ok (.return_, 1) := by decide +kernel
theorem own_wS {a0 : Array Value} {Z : State} (hw : ∀ d ∈ tables_1, d.before a0 Z = true) : ∀ d ∈ Bundle.stringAtoms, d.before a0 Z = true := fun d hd => hw d ((by decide +kernel : ∀ d ∈ Bundle.stringAtoms, d ∈ tables_1) d hd)
def own_max (a b : Int64) : Int64 := if a < b then b else a
theorem own_mask (x : Int64) : ¬ (x &&& (9223372036854775807 : Int64)) < (0 : Int64) := by
  have h := c_maskL x 9223372036854775807 63 (by decide) (by decide)
  have h2 := Int.emod_nonneg x.toInt (show ((2 ^ 63 : Nat) : Int) ≠ 0 by decide)
  rw [Int64.lt_iff_toInt_lt, h]
  have e : (0 : Int64).toInt = 0 := rfl
  omega
theorem own_inc {i : Int64} (h0 : ¬ i < (0 : Int64)) (h1 : i < (9223372036854775807 : Int64)) : ¬ (i + (1 : Int64)) < (0 : Int64) := by
  have h := c_ladd i 1
  have r := rng64 (i + 1)
  have r2 := rng64 i
  rw [Int64.lt_iff_toInt_lt] at h0 h1 ⊢
  have e : (0 : Int64).toInt = 0 := rfl
  have e1 : (1 : Int64).toInt = 1 := rfl
  have e2 : (9223372036854775807 : Int64).toInt = 9223372036854775807 := rfl
  rw [e1] at h
  omega
theorem own_dec {i : Int64} (h1 : (0 : Int64) < i) : ¬ (i - (1 : Int64)) < (0 : Int64) := by
  have h := c_lsub i 1
  have r := rng64 (i - 1)
  have r2 := rng64 i
  rw [Int64.lt_iff_toInt_lt] at h1 ⊢
  have e : (0 : Int64).toInt = 0 := rfl
  have e1 : (1 : Int64).toInt = 1 := rfl
  rw [e1] at h
  omega
theorem own_gt {i q : Int64} (hi : ¬ i < (0 : Int64)) (hq : ¬ q < (0 : Int64)) (h : i < q) : own_max 0 (q - i) = q - i := by
  have hs := c_lsub q i
  have r := rng64 (q - i)
  have r2 := rng64 i
  have r3 := rng64 q
  refine if_pos ?_
  rw [Int64.lt_iff_toInt_lt] at hi hq h ⊢
  have e : (0 : Int64).toInt = 0 := rfl
  omega
theorem own_le {i q : Int64} (hi : ¬ i < (0 : Int64)) (hq : ¬ q < (0 : Int64)) (h : ¬ i < q) : own_max 0 (q - i) = 0 := by
  have hs := c_lsub q i
  have r := rng64 (q - i)
  have r2 := rng64 i
  have r3 := rng64 q
  refine if_neg ?_
  rw [Int64.lt_iff_toInt_lt] at hi hq h ⊢
  have e : (0 : Int64).toInt = 0 := rfl
  omega
def Q3 (Z : State) (a1 : Addr) (h0 : Heap) (n0 : Nat) (v : Option Value) (h : Heap) (L : List Loc) : Prop := v = none ∧ Fr n0 L ∧ h = h0
theorem ef_3 (m : MethodId) (a1 : Addr) : entryFrame m #[(.ref a1)] 1 = mkF m 0 #[.val (.ref a1)] [] := by first | (simp [entryFrame, mkF, argsToLocals, Value.category]; done) | (simp [entryFrame, mkF, argsToLocals, own_cat_i, own_cat_l, own_cat_r, own_cat_n]; done) | rfl
set_option maxRecDepth 65536 in
set_option maxHeartbeats 40000000 in
theorem rm3 (l : Launch) (Z : State) (a0 : Array Value) (hw : ∀ d ∈ tables_1, d.before a0 Z = true) (a1 : Addr) (h0 : Heap) (n0 : Nat) (Z0 : n0 ≤ h0.size) :
    Met1 l Z (⟨"java/lang/Record", "<init>", "()V"⟩ : MethodName) jdk_30_method_1_code 1 none ({ frames := 1, cells := 0, slots := 0, locals := 12 } : Room) #[(.ref a1)] h0 (Q3 Z a1 h0 n0) := by
  refine Met1.mk (plainFor_of_name (by first | (simp [plainName, overriddenIn]; done) | decide +kernel)) ?_
  intro p e s m below meth c s₁ hx hZ hby hml hown hnm hret hlk X0 e0
  have N0 := Fr.nil n0
  refine Go.cast (ef_3 m a1) ?_
  show Go p e below (FinN s (Q3 Z a1 h0 n0) ({ frames := 1, cells := 0, slots := 0, locals := 12 } : Room).cells ({ frames := 1, cells := 0, slots := 0, locals := 12 } : Room).slots) s₁ (mkF m 0 #[.val (.ref a1)] [])
  refine Go.to (mkF m 1 #[.val (.ref a1)] [(.ref a1)]) (fun _ k => XS.aloadN X0.here hx rfl (hb hby d3_0) rfl rfl k) ?_
  obtain ⟨T_1, X_1, e_1, st_1⟩ := initO X0 hx hZ hown (hw _ (List.mem_of_getElem? (i := 25) rfl)) (hw _ (List.mem_of_getElem? (i := 26) rfl)) (hw _ (List.mem_of_getElem? (i := 27) rfl)) e0 (g := (mkF m 1 #[.val (.ref a1)] [(.ref a1)])) rfl (by rw [hml]; rfl) rfl (hb hby d3_1) (by decide) (W := 0) (by show 2 * 0 + _ ≤ _; exact Nat.le_of_eq rfl) (by decide)
  refine Go.to (mkF m 4 #[.val (.ref a1)] []) st_1 ?_
  refine Go.ret0 X_1 hx hret hlk (hb hby d3_4) (by decide) (by decide) ?_
  show (Q3 Z a1 h0 n0) _ T_1.heap _
  rw [e_1]
  exact ⟨rfl, N0, rfl⟩
def Q1 (Z : State) (o : Addr) (h0 : Heap) (n0 : Nat) (v : Option Value) (h : Heap) (L : List Loc) : Prop := v = some (.ref o) ∧ Fr n0 L ∧ h = h0
theorem ef_1 (m : MethodId)  : entryFrame m #[] 1 = mkF m 0 #[.unset] [] := by first | (simp [entryFrame, mkF, argsToLocals, Value.category]; done) | (simp [entryFrame, mkF, argsToLocals, own_cat_i, own_cat_l, own_cat_r, own_cat_n]; done) | rfl
set_option maxRecDepth 65536 in
set_option maxHeartbeats 40000000 in
theorem rm1 (l : Launch) (Z : State) (a0 : Array Value) (hw : ∀ d ∈ tables_1, d.before a0 Z = true) (o : Addr) (h0 : Heap) (n0 : Nat) (Z0 : n0 ≤ h0.size) (PS_java_util_Optional_EMPTY : Sta Z h0 "java/util/Optional" "EMPTY" "Ljava/util/Optional;" (.ref o)) :
    Met1 l Z (⟨"java/util/Optional", "empty", "()Ljava/util/Optional;"⟩ : MethodName) jdk_32_method_1_code 1 (some (.object "java/util/Optional")) ({ frames := 0, cells := 0, slots := 0, locals := 0 } : Room) #[] h0 (Q1 Z o h0 n0) := by
  refine Met1.mk (plainFor_of_name (by first | (simp [plainName, overriddenIn]; done) | decide +kernel)) ?_
  intro p e s m below meth c s₁ hx hZ hby hml hown hnm hret hlk X0 e0
  have N0 := Fr.nil n0
  refine Go.cast (ef_1 m ) ?_
  show Go p e below (FinN s (Q1 Z o h0 n0) ({ frames := 0, cells := 0, slots := 0, locals := 0 } : Room).cells ({ frames := 0, cells := 0, slots := 0, locals := 0 } : Room).slots) s₁ (mkF m 0 #[.unset] [])
  obtain ⟨T_1, X_1, e_1, st_1⟩ := getS2 X0 hx hZ hown (host := "") (Or.inl (hw _ (List.mem_of_getElem? (i := 16) rfl))) Via.refl e0 PS_java_util_Optional_EMPTY (g := (mkF m 0 #[.unset] [])) rfl (hb hby d1_0)
  refine Go.to (mkF m 3 #[.unset] [(.ref o)]) st_1 ?_
  refine Go.to (mkF m 4 #[.val (.ref o)] []) (fun _ k => XS.astoreN X_1.here hx rfl (hb hby d1_3) rfl rfl (l' := #[.val (.ref o)]) rfl k) ?_
  refine Go.to (mkF m 5 #[.val (.ref o)] [(.ref o)]) (fun _ k => XS.aloadN X_1.here hx rfl (hb hby d1_4) rfl rfl k) ?_
  refine Go.retA X_1 hx (t := (.object "java/util/Optional")) hret hlk rfl rfl (hb hby d1_5) (by decide) (by decide) ?_
  show (Q1 Z o h0 n0) _ T_1.heap _
  rw [e_1]
  exact ⟨rfl, N0, rfl⟩
def Q5 (Z : State) (a1 : Addr) (a2 : Addr) (h0 : Heap) (n0 : Nat) (v : Option Value) (h : Heap) (L : List Loc) : Prop := v = some (.ref a1) ∧ Fr n0 L ∧ h = h0
theorem ef_5 (m : MethodId) (a1 : Addr) (a2 : Addr) : entryFrame m #[(.ref a1), (.ref a2)] 2 = mkF m 0 #[.val (.ref a1), .val (.ref a2)] [] := by first | (simp [entryFrame, mkF, argsToLocals, Value.category]; done) | (simp [entryFrame, mkF, argsToLocals, own_cat_i, own_cat_l, own_cat_r, own_cat_n]; done) | rfl
set_option maxRecDepth 65536 in
set_option maxHeartbeats 40000000 in
theorem rm5 (l : Launch) (Z : State) (a0 : Array Value) (hw : ∀ d ∈ tables_1, d.before a0 Z = true) (a1 : Addr) (a2 : Addr) (h0 : Heap) (n0 : Nat) (Z0 : n0 ≤ h0.size) :
    Met1 l Z (⟨"java/util/Objects", "requireNonNull", "(Ljava/lang/Object;Ljava/lang/String;)Ljava/lang/Object;"⟩ : MethodName) jdk_31_method_11_code 2 (some (.object "java/lang/Object")) ({ frames := 0, cells := 0, slots := 0, locals := 0 } : Room) #[(.ref a1), (.ref a2)] h0 (Q5 Z a1 a2 h0 n0) := by
  refine Met1.mk (plainFor_of_name (by first | (simp [plainName, overriddenIn]; done) | decide +kernel)) ?_
  intro p e s m below meth c s₁ hx hZ hby hml hown hnm hret hlk X0 e0
  have N0 := Fr.nil n0
  refine Go.cast (ef_5 m a1 a2) ?_
  show Go p e below (FinN s (Q5 Z a1 a2 h0 n0) ({ frames := 0, cells := 0, slots := 0, locals := 0 } : Room).cells ({ frames := 0, cells := 0, slots := 0, locals := 0 } : Room).slots) s₁ (mkF m 0 #[.val (.ref a1), .val (.ref a2)] [])
  refine Go.to (mkF m 1 #[.val (.ref a1), .val (.ref a2)] [(.ref a1)]) (fun _ k => XS.aloadN X0.here hx rfl (hb hby d5_0) rfl rfl k) ?_
  refine Go.to (mkF m 13 #[.val (.ref a1), .val (.ref a2)] []) (fun _ k => XS.ifnonnullYes X0.here hx rfl (pc0 := 1) (pc' := 13) rfl (hb hby d5_1) rfl (by decide) (by decide) k) ?_
  refine Go.to (mkF m 14 #[.val (.ref a1), .val (.ref a2)] [(.ref a1)]) (fun _ k => XS.aloadN X0.here hx rfl (hb hby d5_13) rfl rfl k) ?_
  refine Go.retA X0 hx (t := (.object "java/lang/Object")) hret hlk rfl rfl (hb hby d5_14) (by decide) (by decide) ?_
  show (Q5 Z a1 a2 h0 n0) _ s₁.heap _
  rw [e0]
  exact ⟨rfl, N0, rfl⟩
def Q17 (Z : State) (a1 : Addr) (h0 : Heap) (n0 : Nat) (v : Option Value) (h : Heap) (L : List Loc) : Prop := v = some (.ref a1) ∧ Fr n0 L ∧ h = h0
theorem ef_17 (m : MethodId) (a1 : Addr) : entryFrame m #[(.ref a1)] 1 = mkF m 0 #[.val (.ref a1)] [] := by first | (simp [entryFrame, mkF, argsToLocals, Value.category]; done) | (simp [entryFrame, mkF, argsToLocals, own_cat_i, own_cat_l, own_cat_r, own_cat_n]; done) | rfl
set_option maxRecDepth 65536 in
set_option maxHeartbeats 40000000 in
theorem rm17 (l : Launch) (Z : State) (a0 : Array Value) (hw : ∀ d ∈ tables_1, d.before a0 Z = true) (a1 : Addr) (h0 : Heap) (n0 : Nat) (Z0 : n0 ≤ h0.size) :
    Met1 l Z (⟨"java/util/Objects", "requireNonNull", "(Ljava/lang/Object;)Ljava/lang/Object;"⟩ : MethodName) jdk_31_method_10_code 1 (some (.object "java/lang/Object")) ({ frames := 0, cells := 0, slots := 0, locals := 0 } : Room) #[(.ref a1)] h0 (Q17 Z a1 h0 n0) := by
  refine Met1.mk (plainFor_of_name (by first | (simp [plainName, overriddenIn]; done) | decide +kernel)) ?_
  intro p e s m below meth c s₁ hx hZ hby hml hown hnm hret hlk X0 e0
  have N0 := Fr.nil n0
  refine Go.cast (ef_17 m a1) ?_
  show Go p e below (FinN s (Q17 Z a1 h0 n0) ({ frames := 0, cells := 0, slots := 0, locals := 0 } : Room).cells ({ frames := 0, cells := 0, slots := 0, locals := 0 } : Room).slots) s₁ (mkF m 0 #[.val (.ref a1)] [])
  refine Go.to (mkF m 1 #[.val (.ref a1)] [(.ref a1)]) (fun _ k => XS.aloadN X0.here hx rfl (hb hby d17_0) rfl rfl k) ?_
  refine Go.to (mkF m 12 #[.val (.ref a1)] []) (fun _ k => XS.ifnonnullYes X0.here hx rfl (pc0 := 1) (pc' := 12) rfl (hb hby d17_1) rfl (by decide) (by decide) k) ?_
  refine Go.to (mkF m 13 #[.val (.ref a1)] [(.ref a1)]) (fun _ k => XS.aloadN X0.here hx rfl (hb hby d17_12) rfl rfl k) ?_
  refine Go.retA X0 hx (t := (.object "java/lang/Object")) hret hlk rfl rfl (hb hby d17_13) (by decide) (by decide) ?_
  show (Q17 Z a1 h0 n0) _ s₁.heap _
  rw [e0]
  exact ⟨rfl, N0, rfl⟩
def Q8 (Z : State) (x : Addr) (z : Int32) (h0 : Heap) (n0 : Nat) (v : Option Value) (h : Heap) (L : List Loc) : Prop := v = some (.int (1 : Int32)) ∧ Fr n0 L ∧ h = h0
theorem ef_8 (m : MethodId) (x : Addr) : entryFrame m #[(.ref x)] 1 = mkF m 0 #[.val (.ref x)] [] := by first | (simp [entryFrame, mkF, argsToLocals, Value.category]; done) | (simp [entryFrame, mkF, argsToLocals, own_cat_i, own_cat_l, own_cat_r, own_cat_n]; done) | rfl
set_option maxRecDepth 65536 in
set_option maxHeartbeats 40000000 in
theorem rm8 (l : Launch) (Z : State) (a0 : Array Value) (hw : ∀ d ∈ tables_1, d.before a0 Z = true) (x : Addr) (z : Int32) (h0 : Heap) (n0 : Nat) (Z0 : n0 ≤ h0.size) (PS_java_lang_String_COMPACT_STRINGS : Sta Z h0 "java/lang/String" "COMPACT_STRINGS" "Z" (.int z)) (PF_x_coder : Fld Z h0 x "java/lang/String" "coder" "B" (.int (0 : Int32))) (hz : ¬ z = 0) :
    Met1 l Z (⟨"java/lang/String", "isLatin1", "()Z"⟩ : MethodName) jdk_42_method_154_code 1 (some .boolean) ({ frames := 0, cells := 0, slots := 0, locals := 0 } : Room) #[(.ref x)] h0 (Q8 Z x z h0 n0) := by
  refine Met1.mk (plainFor_of_name (by first | (simp [plainName, overriddenIn]; done) | decide +kernel)) ?_
  intro p e s m below meth c s₁ hx hZ hby hml hown hnm hret hlk X0 e0
  have N0 := Fr.nil n0
  refine Go.cast (ef_8 m x) ?_
  show Go p e below (FinN s (Q8 Z x z h0 n0) ({ frames := 0, cells := 0, slots := 0, locals := 0 } : Room).cells ({ frames := 0, cells := 0, slots := 0, locals := 0 } : Room).slots) s₁ (mkF m 0 #[.val (.ref x)] [])
  obtain ⟨T_1, X_1, e_1, st_1⟩ := getS2 X0 hx hZ hown (host := "") (Or.inl (hw _ (List.mem_of_getElem? (i := 49) rfl))) Via.refl e0 PS_java_lang_String_COMPACT_STRINGS (g := (mkF m 0 #[.val (.ref x)] [])) rfl (hb hby d8_0)
  refine Go.to (mkF m 3 #[.val (.ref x)] [(.int z)]) st_1 ?_
  refine Go.to (mkF m 6 #[.val (.ref x)] []) (fun _ k => XS.ifNo X_1.here hx rfl (hb hby d8_3) rfl ((if0 _ _).trans (feq hz).1) k) ?_
  refine Go.to (mkF m 7 #[.val (.ref x)] [(.ref x)]) (fun _ k => XS.aloadN X_1.here hx rfl (hb hby d8_6) rfl rfl k) ?_
  obtain ⟨T_2, X_2, e_2, st_2⟩ := getF X_1 hx hZ hown (host := "") (Or.inl (hw _ (List.mem_of_getElem? (i := 50) rfl))) Via.refl e_1 PF_x_coder (g := (mkF m 7 #[.val (.ref x)] [(.ref x)])) rfl rfl (hb hby d8_7)
  refine Go.to (mkF m 10 #[.val (.ref x)] [(.int (0 : Int32))]) st_2 ?_
  refine Go.to (mkF m 13 #[.val (.ref x)] []) (fun _ k => XS.ifNo X_2.here hx rfl (hb hby d8_10) rfl ((if0 _ _).trans (teq (by decide : (0 : Int32) = (0 : Int32))).2) k) ?_
  refine Go.to (mkF m 14 #[.val (.ref x)] [(.int (1 : Int32))]) (fun _ k => XS.iconst X_2.here hx rfl (hb hby d8_13) k) ?_
  refine Go.to (mkF m 18 #[.val (.ref x)] [(.int (1 : Int32))]) (fun _ k => XS.goto X_2.here hx rfl (pc0 := 14) (pc' := 18) rfl (hb hby d8_14) (by decide) (by decide) k) ?_
  refine Go.retN X_2 hx (t := .boolean) hret hlk (by simp) (hb hby d8_18) (by decide) (by decide) (z' := (1 : Int32)) rfl ?_
  show (Q8 Z x z h0 n0) _ T_2.heap _
  rw [e_2]
  exact ⟨rfl, N0, rfl⟩
def Q14 (Z : State) (x : Addr) (z : Int32) (h0 : Heap) (n0 : Nat) (v : Option Value) (h : Heap) (L : List Loc) : Prop := v = some (.int (0 : Int32)) ∧ Fr n0 L ∧ h = h0
theorem ef_14 (m : MethodId) (x : Addr) : entryFrame m #[(.ref x)] 1 = mkF m 0 #[.val (.ref x)] [] := by first | (simp [entryFrame, mkF, argsToLocals, Value.category]; done) | (simp [entryFrame, mkF, argsToLocals, own_cat_i, own_cat_l, own_cat_r, own_cat_n]; done) | rfl
set_option maxRecDepth 65536 in
set_option maxHeartbeats 40000000 in
theorem rm14 (l : Launch) (Z : State) (a0 : Array Value) (hw : ∀ d ∈ tables_1, d.before a0 Z = true) (x : Addr) (z : Int32) (h0 : Heap) (n0 : Nat) (Z0 : n0 ≤ h0.size) (PS_java_lang_String_COMPACT_STRINGS : Sta Z h0 "java/lang/String" "COMPACT_STRINGS" "Z" (.int z)) (PF_x_coder : Fld Z h0 x "java/lang/String" "coder" "B" (.int (0 : Int32))) (hz : ¬ z = 0) :
    Met1 l Z (⟨"java/lang/String", "coder", "()B"⟩ : MethodName) jdk_42_method_152_code 1 (some .byte) ({ frames := 0, cells := 0, slots := 0, locals := 0 } : Room) #[(.ref x)] h0 (Q14 Z x z h0 n0) := by
  refine Met1.mk (plainFor_of_name (by first | (simp [plainName, overriddenIn]; done) | decide +kernel)) ?_
  intro p e s m below meth c s₁ hx hZ hby hml hown hnm hret hlk X0 e0
  have N0 := Fr.nil n0
  refine Go.cast (ef_14 m x) ?_
  show Go p e below (FinN s (Q14 Z x z h0 n0) ({ frames := 0, cells := 0, slots := 0, locals := 0 } : Room).cells ({ frames := 0, cells := 0, slots := 0, locals := 0 } : Room).slots) s₁ (mkF m 0 #[.val (.ref x)] [])
  obtain ⟨T_1, X_1, e_1, st_1⟩ := getS2 X0 hx hZ hown (host := "") (Or.inl (hw _ (List.mem_of_getElem? (i := 49) rfl))) Via.refl e0 PS_java_lang_String_COMPACT_STRINGS (g := (mkF m 0 #[.val (.ref x)] [])) rfl (hb hby d14_0)
  refine Go.to (mkF m 3 #[.val (.ref x)] [(.int z)]) st_1 ?_
  refine Go.to (mkF m 6 #[.val (.ref x)] []) (fun _ k => XS.ifNo X_1.here hx rfl (hb hby d14_3) rfl ((if0 _ _).trans (feq hz).1) k) ?_
  refine Go.to (mkF m 7 #[.val (.ref x)] [(.ref x)]) (fun _ k => XS.aloadN X_1.here hx rfl (hb hby d14_6) rfl rfl k) ?_
  obtain ⟨T_2, X_2, e_2, st_2⟩ := getF X_1 hx hZ hown (host := "") (Or.inl (hw _ (List.mem_of_getElem? (i := 50) rfl))) Via.refl e_1 PF_x_coder (g := (mkF m 7 #[.val (.ref x)] [(.ref x)])) rfl rfl (hb hby d14_7)
  refine Go.to (mkF m 10 #[.val (.ref x)] [(.int (0 : Int32))]) st_2 ?_
  refine Go.to (mkF m 14 #[.val (.ref x)] [(.int (0 : Int32))]) (fun _ k => XS.goto X_2.here hx rfl (pc0 := 10) (pc' := 14) rfl (hb hby d14_10) (by decide) (by decide) k) ?_
  refine Go.retN X_2 hx (t := .byte) hret hlk (by simp) (hb hby d14_14) (by decide) (by decide) (z' := (0 : Int32)) rfl ?_
  show (Q14 Z x z h0 n0) _ T_2.heap _
  rw [e_2]
  exact ⟨rfl, N0, rfl⟩
theorem own_pd0 : parseMethodDescriptor "()B" = some ⟨[], some .byte⟩ := by decide +kernel
def Q13 (Z : State) (x : Addr) (t : Addr) (kt : ClassId) (z : Int32) (h0 : Heap) (n0 : Nat) (v : Option Value) (h : Heap) (L : List Loc) : Prop := v = some (.int (5 : Int32)) ∧ Fr n0 L ∧ h = h0
theorem ef_13 (m : MethodId) (x : Addr) : entryFrame m #[(.ref x)] 1 = mkF m 0 #[.val (.ref x)] [] := by first | (simp [entryFrame, mkF, argsToLocals, Value.category]; done) | (simp [entryFrame, mkF, argsToLocals, own_cat_i, own_cat_l, own_cat_r, own_cat_n]; done) | rfl
set_option maxRecDepth 65536 in
set_option maxHeartbeats 40000000 in
theorem rm13 (l : Launch) (Z : State) (a0 : Array Value) (hw : ∀ d ∈ tables_1, d.before a0 Z = true) (x : Addr) (t : Addr) (kt : ClassId) (z : Int32) (h0 : Heap) (n0 : Nat) (Z0 : n0 ≤ h0.size) (PE_x : Exa Z h0 x "java/lang/String") (PF_x_value : Fld Z h0 x "java/lang/String" "value" "[B" (.ref t)) (PA_t : Arv Z h0 t kt .byte (5 : Int32) [(.int (115 : Int32)), (.int (101 : Int32)), (.int (97 : Int32)), (.int (116 : Int32)), (.int (115 : Int32))] (.int (0 : Int32))) (PS_java_lang_String_COMPACT_STRINGS : Sta Z h0 "java/lang/String" "COMPACT_STRINGS" "Z" (.int z)) (PF_x_coder : Fld Z h0 x "java/lang/String" "coder" "B" (.int (0 : Int32))) (hz : ¬ z = 0) :
    Met1 l Z (⟨"java/lang/String", "length", "()I"⟩ : MethodName) jdk_42_method_54_code 1 (some .int) ({ frames := 1, cells := 0, slots := 0, locals := 13 } : Room) #[(.ref x)] h0 (Q13 Z x t kt z h0 n0) := by
  refine Met1.mk (plainFor_of_name (by first | (simp [plainName, overriddenIn]; done) | decide +kernel)) ?_
  intro p e s m below meth c s₁ hx hZ hby hml hown hnm hret hlk X0 e0
  have N0 := Fr.nil n0
  refine Go.cast (ef_13 m x) ?_
  show Go p e below (FinN s (Q13 Z x t kt z h0 n0) ({ frames := 1, cells := 0, slots := 0, locals := 13 } : Room).cells ({ frames := 1, cells := 0, slots := 0, locals := 13 } : Room).slots) s₁ (mkF m 0 #[.val (.ref x)] [])
  refine Go.to (mkF m 1 #[.val (.ref x)] [(.ref x)]) (fun _ k => XS.aloadN X0.here hx rfl (hb hby d13_0) rfl rfl k) ?_
  obtain ⟨T_1, X_1, e_1, st_1⟩ := getF X0 hx hZ hown (host := "") (Or.inl (hw _ (List.mem_of_getElem? (i := 51) rfl))) Via.refl e0 PF_x_value (g := (mkF m 1 #[.val (.ref x)] [(.ref x)])) rfl rfl (hb hby d13_1)
  refine Go.to (mkF m 4 #[.val (.ref x)] [(.ref t)]) st_1 ?_
  obtain ⟨cl_2, Ar_2, -, Sz_2, Ng_2, -, -⟩ := id PA_t
  refine Go.to (mkF m 5 #[.val (.ref x)] [(.int (5 : Int32))]) (fun _ k => by
    refine X_1.arraylength hx (by rw [e_1]; exact Ar_2.1) (State.isArrayOf_alike hZ.alike Ar_2.2.1) (g := (mkF m 4 #[.val (.ref x)] [(.ref t)])) rfl rfl (hb hby d13_4) _ ?_
    rw [len_of Sz_2 Ng_2]
    exact k) ?_
  refine Go.to (mkF m 6 #[.val (.ref x)] [(.ref x), (.int (5 : Int32))]) (fun _ k => XS.aloadN X_1.here hx rfl (hb hby d13_5) rfl rfl k) ?_
  refine Go.virt X_1 hx hZ (y := (⟨"java/lang/String", "coder", "()B"⟩ : MethodName)) (z := (⟨"java/lang/String", "coder", "()B"⟩ : MethodName)) hown (hw _ (List.mem_of_getElem? (i := 77) rfl)) (hw _ (List.mem_of_getElem? (i := 78) rfl)) (notFace_of_selects (args := #[]) (mvT hZ (hw _ (List.mem_of_getElem? (i := 80) rfl)))) (hw _ (List.mem_of_getElem? (i := 80) rfl)) (hw _ (List.mem_of_getElem? (i := 79) rfl)) (by decide) e_1 (a := x) PE_x (argsL := []) (rest := [(.int (5 : Int32))]) (Met1.back (W := 1) (rm14 l Z a0 hw x z h0 n0 Z0 PS_java_lang_String_COMPACT_STRINGS PF_x_coder hz) hZ (hw _ (List.mem_of_getElem? (i := 81) rfl)) (hw _ (List.mem_of_getElem? (i := 5) rfl)) (by decide) (by decide)) (pc := 6) (Ls := #[.val (.ref x)]) (by rw [hml]; rfl) (lenOf own_pd0 rfl) rfl (Nat.le_refl _) (hb hby d13_6) (by decide) (by decide) ?_
  intro T_3 v_3 L_3 X_3 hQ_3
  obtain ⟨rfl, Nq_3, hh_3⟩ := hQ_3
  have N_3 := Fr.app N0 Nq_3
  show Go p e below (FinN s (Q13 Z x t kt z h0 n0) ({ frames := 1, cells := 0, slots := 0, locals := 13 } : Room).cells ({ frames := 1, cells := 0, slots := 0, locals := 13 } : Room).slots) T_3 (mkF m 9 #[.val (.ref x)] [(.int (0 : Int32)), (.int (5 : Int32))])
  refine Go.to (mkF m 10 #[.val (.ref x)] [(.int ((5 : Int32) >>> ((0 : Int32) &&& 31)))]) (fun _ k => XS.ishr X_3.here hx rfl (hb hby d13_9) rfl k) ?_
  refine Go.retI X_3 hx hret hlk (hb hby d13_10) (by decide) (by decide) ?_
  show (Q13 Z x t kt z h0 n0) _ T_3.heap _
  rw [hh_3]
  exact ⟨rfl, N_3, rfl⟩
def Q10 (Z : State) (t : Addr) (kt : ClassId) (h0 : Heap) (n0 : Nat) (v : Option Value) (h : Heap) (L : List Loc) : Prop := v = some (.int (115 : Int32)) ∧ Fr n0 L ∧ h = h0
theorem ef_10 (m : MethodId) (t : Addr) : entryFrame m #[(.ref t), (.int (0 : Int32))] 2 = mkF m 0 #[.val (.ref t), .val (.int (0 : Int32))] [] := by first | (simp [entryFrame, mkF, argsToLocals, Value.category]; done) | (simp [entryFrame, mkF, argsToLocals, own_cat_i, own_cat_l, own_cat_r, own_cat_n]; done) | rfl
set_option maxRecDepth 65536 in
set_option maxHeartbeats 40000000 in
theorem rm10 (l : Launch) (Z : State) (a0 : Array Value) (hw : ∀ d ∈ tables_1, d.before a0 Z = true) (t : Addr) (kt : ClassId) (h0 : Heap) (n0 : Nat) (Z0 : n0 ≤ h0.size) (PA_t : Arv Z h0 t kt .byte (5 : Int32) [(.int (115 : Int32)), (.int (101 : Int32)), (.int (97 : Int32)), (.int (116 : Int32)), (.int (115 : Int32))] (.int (0 : Int32))) :
    Met1 l Z (⟨"java/lang/StringLatin1", "getChar", "([BI)C"⟩ : MethodName) jdk_43_method_44_code 2 (some .char) ({ frames := 0, cells := 0, slots := 0, locals := 0 } : Room) #[(.ref t), (.int (0 : Int32))] h0 (Q10 Z t kt h0 n0) := by
  refine Met1.mk (plainFor_of_name (by first | (simp [plainName, overriddenIn]; done) | decide +kernel)) ?_
  intro p e s m below meth c s₁ hx hZ hby hml hown hnm hret hlk X0 e0
  have N0 := Fr.nil n0
  refine Go.cast (ef_10 m t) ?_
  show Go p e below (FinN s (Q10 Z t kt h0 n0) ({ frames := 0, cells := 0, slots := 0, locals := 0 } : Room).cells ({ frames := 0, cells := 0, slots := 0, locals := 0 } : Room).slots) s₁ (mkF m 0 #[.val (.ref t), .val (.int (0 : Int32))] [])
  refine Go.to (mkF m 1 #[.val (.ref t), .val (.int (0 : Int32))] [(.ref t)]) (fun _ k => XS.aloadN X0.here hx rfl (hb hby d10_0) rfl rfl k) ?_
  refine Go.to (mkF m 2 #[.val (.ref t), .val (.int (0 : Int32))] [(.int (0 : Int32)), (.ref t)]) (fun _ k => XS.iloadN X0.here hx rfl (hb hby d10_1) rfl  k) ?_
  obtain ⟨cl_1, Ar_1, -, Sz_1, Ng_1, Hh_1, -⟩ := id PA_t
  have hin_1 : ¬ ((0 : Int32) < 0 ∨ cl_1.slots.size ≤ ((0 : Int32)).toNatClampNeg) := inb_of Sz_1 ⟨by decide, by decide⟩
  refine Go.to (mkF m 3 #[.val (.ref t), .val (.int (0 : Int32))] [(.int (115 : Int32))]) (X0.baloadBytes hx (j := (0 : Int32)) (v := (.int (115 : Int32))) (by rw [e0]; exact Ar_1.1) (State.isArrayOf_alike hZ.alike Ar_1.2.1) Ar_1.2.2 hin_1 (Hh_1.at hin_1 rfl) (g := (mkF m 2 #[.val (.ref t), .val (.int (0 : Int32))] [(.int (0 : Int32)), (.ref t)])) rfl rfl (hb hby d10_2)) ?_
  refine Go.to (mkF m 6 #[.val (.ref t), .val (.int (0 : Int32))] [(.int (255 : Int32)), (.int (115 : Int32))]) (fun _ k => XS.sipush X0.here hx rfl (hb hby d10_3) k) ?_
  refine Go.to (mkF m 7 #[.val (.ref t), .val (.int (0 : Int32))] [(.int (115 : Int32))]) (fun _ k => XS.iand X0.here hx rfl (hb hby d10_6) rfl k) ?_
  refine Go.to (mkF m 8 #[.val (.ref t), .val (.int (0 : Int32))] [(.int (115 : Int32))]) (fun _ k => XS.i2c X0.here hx rfl (hb hby d10_7) rfl k) ?_
  refine Go.retN X0 hx (t := .char) hret hlk (by simp) (hb hby d10_8) (by decide) (by decide) (z' := (115 : Int32)) rfl ?_
  show (Q10 Z t kt h0 n0) _ s₁.heap _
  rw [e0]
  exact ⟨rfl, N0, rfl⟩
def Q12 (Z : State) (a1 : Addr) (aA : Addr) (cA : Cell) (h0 : Heap) (n0 : Nat) (v : Option Value) (h : Heap) (L : List Loc) : Prop := v = some (.int (8486882 : Int32)) ∧ Fr n0 L ∧ h = h0
theorem ef_12 (m : MethodId) (a1 : Addr) : entryFrame m #[(.ref a1), (.int (115 : Int32))] 4 = mkF m 0 #[.val (.ref a1), .val (.int (115 : Int32)), .unset, .unset] [] := by first | (simp [entryFrame, mkF, argsToLocals, Value.category]; done) | (simp [entryFrame, mkF, argsToLocals, own_cat_i, own_cat_l, own_cat_r, own_cat_n]; done) | rfl
set_option maxRecDepth 65536 in
set_option maxHeartbeats 40000000 in
theorem rm12 (l : Launch) (Z : State) (a0 : Array Value) (hw : ∀ d ∈ tables_1, d.before a0 Z = true) (a1 : Addr) (aA : Addr) (cA : Cell) (h0 : Heap) (n0 : Nat) (Z0 : n0 ≤ h0.size) (PS_java_lang_CharacterDataLatin1_A : Sta Z h0 "java/lang/CharacterDataLatin1" "A" "[I" (.ref aA)) (PR_aA : Arr Z h0 aA cA .int) (hin : ¬ ((115 : Int32) < 0 ∨ cA.slots.size ≤ (115 : Int32).toNatClampNeg)) (hat : cA.slots[(115 : Int32).toNatClampNeg]? = some (.int (8486882 : Int32))) :
    Met1 l Z (⟨"java/lang/CharacterDataLatin1", "getProperties", "(I)I"⟩ : MethodName) jdk_116_method_1_code 4 (some .int) ({ frames := 0, cells := 0, slots := 0, locals := 0 } : Room) #[(.ref a1), (.int (115 : Int32))] h0 (Q12 Z a1 aA cA h0 n0) := by
  refine Met1.mk (plainFor_of_name (by first | (simp [plainName, overriddenIn]; done) | decide +kernel)) ?_
  intro p e s m below meth c s₁ hx hZ hby hml hown hnm hret hlk X0 e0
  have N0 := Fr.nil n0
  refine Go.cast (ef_12 m a1) ?_
  show Go p e below (FinN s (Q12 Z a1 aA cA h0 n0) ({ frames := 0, cells := 0, slots := 0, locals := 0 } : Room).cells ({ frames := 0, cells := 0, slots := 0, locals := 0 } : Room).slots) s₁ (mkF m 0 #[.val (.ref a1), .val (.int (115 : Int32)), .unset, .unset] [])
  refine Go.to (mkF m 1 #[.val (.ref a1), .val (.int (115 : Int32)), .unset, .unset] [(.int (115 : Int32))]) (fun _ k => XS.iloadN X0.here hx rfl (hb hby d12_0) rfl  k) ?_
  refine Go.to (mkF m 2 #[.val (.ref a1), .val (.int (115 : Int32)), .unset, .unset] [(.int (115 : Int32))]) (fun _ k => XS.i2c X0.here hx rfl (hb hby d12_1) rfl k) ?_
  refine Go.to (mkF m 3 #[.val (.ref a1), .val (.int (115 : Int32)), .val (.int (115 : Int32)), .unset] []) (fun _ k => XS.istoreN X0.here hx rfl (hb hby d12_2) rfl (l' := #[.val (.ref a1), .val (.int (115 : Int32)), .val (.int (115 : Int32)), .unset]) rfl k) ?_
  obtain ⟨T_1, X_1, e_1, st_1⟩ := getS2 X0 hx hZ hown (host := "") (Or.inl (hw _ (List.mem_of_getElem? (i := 71) rfl))) Via.refl e0 PS_java_lang_CharacterDataLatin1_A (g := (mkF m 3 #[.val (.ref a1), .val (.int (115 : Int32)), .val (.int (115 : Int32)), .unset] [])) rfl (hb hby d12_3)
  refine Go.to (mkF m 6 #[.val (.ref a1), .val (.int (115 : Int32)), .val (.int (115 : Int32)), .unset] [(.ref aA)]) st_1 ?_
  refine Go.to (mkF m 7 #[.val (.ref a1), .val (.int (115 : Int32)), .val (.int (115 : Int32)), .unset] [(.int (115 : Int32)), (.ref aA)]) (fun _ k => XS.iloadN X_1.here hx rfl (hb hby d12_6) rfl  k) ?_
  refine Go.to (mkF m 8 #[.val (.ref a1), .val (.int (115 : Int32)), .val (.int (115 : Int32)), .unset] [(.int (8486882 : Int32))]) (X_1.iaload hx (j := (115 : Int32)) (v := (.int (8486882 : Int32))) (by rw [e_1]; exact PR_aA.1) (State.isArrayOf_alike hZ.alike PR_aA.2.1) PR_aA.2.2 hin hat (g := (mkF m 7 #[.val (.ref a1), .val (.int (115 : Int32)), .val (.int (115 : Int32)), .unset] [(.int (115 : Int32)), (.ref aA)])) rfl rfl (hb hby d12_7)) ?_
  refine Go.to (mkF m 9 #[.val (.ref a1), .val (.int (115 : Int32)), .val (.int (115 : Int32)), .val (.int (8486882 : Int32))] []) (fun _ k => XS.istoreN X_1.here hx rfl (hb hby d12_8) rfl (l' := #[.val (.ref a1), .val (.int (115 : Int32)), .val (.int (115 : Int32)), .val (.int (8486882 : Int32))]) rfl k) ?_
  refine Go.to (mkF m 10 #[.val (.ref a1), .val (.int (115 : Int32)), .val (.int (115 : Int32)), .val (.int (8486882 : Int32))] [(.int (8486882 : Int32))]) (fun _ k => XS.iloadN X_1.here hx rfl (hb hby d12_9) rfl  k) ?_
  refine Go.retI X_1 hx hret hlk (hb hby d12_10) (by decide) (by decide) ?_
  show (Q12 Z a1 aA cA h0 n0) _ T_1.heap _
  rw [e_1]
  exact ⟨rfl, N0, rfl⟩
theorem own_pd1 : parseMethodDescriptor "(I)I" = some ⟨[.int], some .int⟩ := by decide +kernel
def Q11 (Z : State) (a1 : Addr) (aA : Addr) (cA : Cell) (h0 : Heap) (n0 : Nat) (v : Option Value) (h : Heap) (L : List Loc) : Prop := v = some (.int (0 : Int32)) ∧ Fr n0 L ∧ h = h0
theorem ef_11 (m : MethodId) (a1 : Addr) : entryFrame m #[(.ref a1), (.int (115 : Int32))] 3 = mkF m 0 #[.val (.ref a1), .val (.int (115 : Int32)), .unset] [] := by first | (simp [entryFrame, mkF, argsToLocals, Value.category]; done) | (simp [entryFrame, mkF, argsToLocals, own_cat_i, own_cat_l, own_cat_r, own_cat_n]; done) | rfl
set_option maxRecDepth 65536 in
set_option maxHeartbeats 40000000 in
theorem rm11 (l : Launch) (Z : State) (a0 : Array Value) (hw : ∀ d ∈ tables_1, d.before a0 Z = true) (a1 : Addr) (aA : Addr) (cA : Cell) (h0 : Heap) (n0 : Nat) (Z0 : n0 ≤ h0.size) (PS_java_lang_CharacterDataLatin1_A : Sta Z h0 "java/lang/CharacterDataLatin1" "A" "[I" (.ref aA)) (PR_aA : Arr Z h0 aA cA .int) (PE_a1 : Exa Z h0 a1 "java/lang/CharacterDataLatin1") (hin : ¬ ((115 : Int32) < 0 ∨ cA.slots.size ≤ (115 : Int32).toNatClampNeg)) (hat : cA.slots[(115 : Int32).toNatClampNeg]? = some (.int (8486882 : Int32))) :
    Met1 l Z (⟨"java/lang/CharacterDataLatin1", "isWhitespace", "(I)Z"⟩ : MethodName) jdk_116_method_26_code 3 (some .boolean) ({ frames := 1, cells := 0, slots := 0, locals := 15 } : Room) #[(.ref a1), (.int (115 : Int32))] h0 (Q11 Z a1 aA cA h0 n0) := by
  refine Met1.mk (plainFor_of_name (by first | (simp [plainName, overriddenIn]; done) | decide +kernel)) ?_
  intro p e s m below meth c s₁ hx hZ hby hml hown hnm hret hlk X0 e0
  have N0 := Fr.nil n0
  refine Go.cast (ef_11 m a1) ?_
  show Go p e below (FinN s (Q11 Z a1 aA cA h0 n0) ({ frames := 1, cells := 0, slots := 0, locals := 15 } : Room).cells ({ frames := 1, cells := 0, slots := 0, locals := 15 } : Room).slots) s₁ (mkF m 0 #[.val (.ref a1), .val (.int (115 : Int32)), .unset] [])
  refine Go.to (mkF m 1 #[.val (.ref a1), .val (.int (115 : Int32)), .unset] [(.ref a1)]) (fun _ k => XS.aloadN X0.here hx rfl (hb hby d11_0) rfl rfl k) ?_
  refine Go.to (mkF m 2 #[.val (.ref a1), .val (.int (115 : Int32)), .unset] [(.int (115 : Int32)), (.ref a1)]) (fun _ k => XS.iloadN X0.here hx rfl (hb hby d11_1) rfl  k) ?_
  refine Go.virt X0 hx hZ (y := (⟨"java/lang/CharacterDataLatin1", "getProperties", "(I)I"⟩ : MethodName)) (z := (⟨"java/lang/CharacterDataLatin1", "getProperties", "(I)I"⟩ : MethodName)) hown (hw _ (List.mem_of_getElem? (i := 66) rfl)) (hw _ (List.mem_of_getElem? (i := 67) rfl)) (notFace_of_selects (args := #[]) (mvT hZ (hw _ (List.mem_of_getElem? (i := 69) rfl)))) (hw _ (List.mem_of_getElem? (i := 69) rfl)) (hw _ (List.mem_of_getElem? (i := 68) rfl)) (by decide) e0 (a := a1) PE_a1 (argsL := [(.int (115 : Int32))]) (rest := []) (Met1.back (W := 0) (rm12 l Z a0 hw a1 aA cA h0 n0 Z0 PS_java_lang_CharacterDataLatin1_A PR_aA hin hat) hZ (hw _ (List.mem_of_getElem? (i := 70) rfl)) (hw _ (List.mem_of_getElem? (i := 60) rfl)) (by decide) (by decide)) (pc := 2) (Ls := #[.val (.ref a1), .val (.int (115 : Int32)), .unset]) (by rw [hml]; rfl) (lenOf own_pd1 rfl) rfl (Nat.le_refl _) (hb hby d11_2) (by decide) (by decide) ?_
  intro T_1 v_1 L_1 X_1 hQ_1
  obtain ⟨rfl, Nq_1, hh_1⟩ := hQ_1
  have N_1 := Fr.app N0 Nq_1
  show Go p e below (FinN s (Q11 Z a1 aA cA h0 n0) ({ frames := 1, cells := 0, slots := 0, locals := 15 } : Room).cells ({ frames := 1, cells := 0, slots := 0, locals := 15 } : Room).slots) T_1 (mkF m 5 #[.val (.ref a1), .val (.int (115 : Int32)), .unset] [(.int (8486882 : Int32))])
  refine Go.to (mkF m 6 #[.val (.ref a1), .val (.int (115 : Int32)), .val (.int (8486882 : Int32))] []) (fun _ k => XS.istoreN X_1.here hx rfl (hb hby d11_5) rfl (l' := #[.val (.ref a1), .val (.int (115 : Int32)), .val (.int (8486882 : Int32))]) rfl k) ?_
  refine Go.to (mkF m 7 #[.val (.ref a1), .val (.int (115 : Int32)), .val (.int (8486882 : Int32))] [(.int (8486882 : Int32))]) (fun _ k => XS.iloadN X_1.here hx rfl (hb hby d11_6) rfl  k) ?_
  refine Go.to (mkF m 10 #[.val (.ref a1), .val (.int (115 : Int32)), .val (.int (8486882 : Int32))] [(.int (28672 : Int32)), (.int (8486882 : Int32))]) (fun _ k => XS.sipush X_1.here hx rfl (hb hby d11_7) k) ?_
  refine Go.to (mkF m 11 #[.val (.ref a1), .val (.int (115 : Int32)), .val (.int (8486882 : Int32))] [(.int (28672 : Int32))]) (fun _ k => XS.iand X_1.here hx rfl (hb hby d11_10) rfl k) ?_
  refine Go.to (mkF m 14 #[.val (.ref a1), .val (.int (115 : Int32)), .val (.int (8486882 : Int32))] [(.int (16384 : Int32)), (.int (28672 : Int32))]) (fun _ k => XS.sipush X_1.here hx rfl (hb hby d11_11) k) ?_
  refine Go.to (mkF m 21 #[.val (.ref a1), .val (.int (115 : Int32)), .val (.int (8486882 : Int32))] []) (fun _ k => XS.icmpYes X_1.here hx rfl (pc0 := 14) (pc' := 21) rfl (hb hby d11_14) rfl (feq (by decide : ¬ ((28672 : Int32) = (16384 : Int32)))).2 (by decide) (by decide) k) ?_
  refine Go.to (mkF m 22 #[.val (.ref a1), .val (.int (115 : Int32)), .val (.int (8486882 : Int32))] [(.int (0 : Int32))]) (fun _ k => XS.iconst X_1.here hx rfl (hb hby d11_21) k) ?_
  refine Go.retN X_1 hx (t := .boolean) hret hlk (by simp) (hb hby d11_22) (by decide) (by decide) (z' := (0 : Int32)) rfl ?_
  show (Q11 Z a1 aA cA h0 n0) _ T_1.heap _
  rw [hh_1]
  exact ⟨rfl, N_1, rfl⟩
theorem own_pd2 : parseMethodDescriptor "([BI)C" = some ⟨[(.array .byte), .int], some .char⟩ := by decide +kernel
theorem own_pd3 : parseMethodDescriptor "(I)Z" = some ⟨[.int], some .boolean⟩ := by decide +kernel
def Q9 (Z : State) (t : Addr) (kt : ClassId) (aA : Addr) (cA : Cell) (ci : Addr) (h0 : Heap) (n0 : Nat) (v : Option Value) (h : Heap) (L : List Loc) : Prop := v = some (.int (0 : Int32)) ∧ Fr n0 L ∧ h = h0
theorem ef_9 (m : MethodId) (t : Addr) : entryFrame m #[(.ref t)] 4 = mkF m 0 #[.val (.ref t), .unset, .unset, .unset] [] := by first | (simp [entryFrame, mkF, argsToLocals, Value.category]; done) | (simp [entryFrame, mkF, argsToLocals, own_cat_i, own_cat_l, own_cat_r, own_cat_n]; done) | rfl
set_option maxRecDepth 65536 in
set_option maxHeartbeats 40000000 in
theorem rm9 (l : Launch) (Z : State) (a0 : Array Value) (hw : ∀ d ∈ tables_1, d.before a0 Z = true) (t : Addr) (kt : ClassId) (aA : Addr) (cA : Cell) (ci : Addr) (h0 : Heap) (n0 : Nat) (Z0 : n0 ≤ h0.size) (PA_t : Arv Z h0 t kt .byte (5 : Int32) [(.int (115 : Int32)), (.int (101 : Int32)), (.int (97 : Int32)), (.int (116 : Int32)), (.int (115 : Int32))] (.int (0 : Int32))) (PS_java_lang_CharacterDataLatin1_A : Sta Z h0 "java/lang/CharacterDataLatin1" "A" "[I" (.ref aA)) (PR_aA : Arr Z h0 aA cA .int) (PS_java_lang_CharacterDataLatin1_instance : Sta Z h0 "java/lang/CharacterDataLatin1" "instance" "Ljava/lang/CharacterDataLatin1;" (.ref ci)) (PE_ci : Exa Z h0 ci "java/lang/CharacterDataLatin1") (hin : ¬ ((115 : Int32) < 0 ∨ cA.slots.size ≤ (115 : Int32).toNatClampNeg)) (hat : cA.slots[(115 : Int32).toNatClampNeg]? = some (.int (8486882 : Int32))) :
    Met1 l Z (⟨"java/lang/StringLatin1", "indexOfNonWhitespace", "([B)I"⟩ : MethodName) jdk_43_method_37_code 4 (some .int) ({ frames := 2, cells := 0, slots := 0, locals := 29 } : Room) #[(.ref t)] h0 (Q9 Z t kt aA cA ci h0 n0) := by
  refine Met1.mk (plainFor_of_name (by first | (simp [plainName, overriddenIn]; done) | decide +kernel)) ?_
  intro p e s m below meth c s₁ hx hZ hby hml hown hnm hret hlk X0 e0
  have N0 := Fr.nil n0
  refine Go.cast (ef_9 m t) ?_
  show Go p e below (FinN s (Q9 Z t kt aA cA ci h0 n0) ({ frames := 2, cells := 0, slots := 0, locals := 29 } : Room).cells ({ frames := 2, cells := 0, slots := 0, locals := 29 } : Room).slots) s₁ (mkF m 0 #[.val (.ref t), .unset, .unset, .unset] [])
  refine Go.to (mkF m 1 #[.val (.ref t), .unset, .unset, .unset] [(.ref t)]) (fun _ k => XS.aloadN X0.here hx rfl (hb hby d9_0) rfl rfl k) ?_
  obtain ⟨cl_1, Ar_1, -, Sz_1, Ng_1, -, -⟩ := id PA_t
  refine Go.to (mkF m 2 #[.val (.ref t), .unset, .unset, .unset] [(.int (5 : Int32))]) (fun _ k => by
    refine X0.arraylength hx (by rw [e0]; exact Ar_1.1) (State.isArrayOf_alike hZ.alike Ar_1.2.1) (g := (mkF m 1 #[.val (.ref t), .unset, .unset, .unset] [(.ref t)])) rfl rfl (hb hby d9_1) _ ?_
    rw [len_of Sz_1 Ng_1]
    exact k) ?_
  refine Go.to (mkF m 3 #[.val (.ref t), .val (.int (5 : Int32)), .unset, .unset] []) (fun _ k => XS.istoreN X0.here hx rfl (hb hby d9_2) rfl (l' := #[.val (.ref t), .val (.int (5 : Int32)), .unset, .unset]) rfl k) ?_
  refine Go.to (mkF m 4 #[.val (.ref t), .val (.int (5 : Int32)), .unset, .unset] [(.int (0 : Int32))]) (fun _ k => XS.iconst X0.here hx rfl (hb hby d9_3) k) ?_
  refine Go.to (mkF m 5 #[.val (.ref t), .val (.int (5 : Int32)), .val (.int (0 : Int32)), .unset] []) (fun _ k => XS.istoreN X0.here hx rfl (hb hby d9_4) rfl (l' := #[.val (.ref t), .val (.int (5 : Int32)), .val (.int (0 : Int32)), .unset]) rfl k) ?_
  refine Go.to (mkF m 6 #[.val (.ref t), .val (.int (5 : Int32)), .val (.int (0 : Int32)), .unset] [(.int (0 : Int32))]) (fun _ k => XS.iloadN X0.here hx rfl (hb hby d9_5) rfl  k) ?_
  refine Go.to (mkF m 7 #[.val (.ref t), .val (.int (5 : Int32)), .val (.int (0 : Int32)), .unset] [(.int (5 : Int32)), (.int (0 : Int32))]) (fun _ k => XS.iloadN X0.here hx rfl (hb hby d9_6) rfl  k) ?_
  refine Go.to (mkF m 10 #[.val (.ref t), .val (.int (5 : Int32)), .val (.int (0 : Int32)), .unset] []) (fun _ k => XS.icmpNo X0.here hx rfl (hb hby d9_7) rfl (tlt (by decide : (0 : Int32) < (5 : Int32))).2.1 k) ?_
  refine Go.to (mkF m 11 #[.val (.ref t), .val (.int (5 : Int32)), .val (.int (0 : Int32)), .unset] [(.ref t)]) (fun _ k => XS.aloadN X0.here hx rfl (hb hby d9_10) rfl rfl k) ?_
  refine Go.to (mkF m 12 #[.val (.ref t), .val (.int (5 : Int32)), .val (.int (0 : Int32)), .unset] [(.int (0 : Int32)), (.ref t)]) (fun _ k => XS.iloadN X0.here hx rfl (hb hby d9_11) rfl  k) ?_
  refine Go.stat X0 hx hZ (y := (⟨"java/lang/StringLatin1", "getChar", "([BI)C"⟩ : MethodName)) hown (hw _ (List.mem_of_getElem? (i := 56) rfl)) (hw _ (List.mem_of_getElem? (i := 57) rfl)) (hw _ (List.mem_of_getElem? (i := 54) rfl)) (hw _ (List.mem_of_getElem? (i := 58) rfl)) (by decide) e0 (argsL := [(.ref t), (.int (0 : Int32))]) (rest := []) (Met1.back (W := 0) (rm10 l Z a0 hw t kt h0 n0 Z0 PA_t) hZ (hw _ (List.mem_of_getElem? (i := 58) rfl)) (hw _ (List.mem_of_getElem? (i := 54) rfl)) (by decide) (by decide)) (pc := 12) (Ls := #[.val (.ref t), .val (.int (5 : Int32)), .val (.int (0 : Int32)), .unset]) (by rw [hml]; rfl) (lenOf own_pd2 rfl) rfl (Nat.le_refl _) (hb hby d9_12) (by decide) (by decide) ?_
  intro T_2 v_2 L_2 X_2 hQ_2
  obtain ⟨rfl, Nq_2, hh_2⟩ := hQ_2
  have N_2 := Fr.app N0 Nq_2
  show Go p e below (FinN s (Q9 Z t kt aA cA ci h0 n0) ({ frames := 2, cells := 0, slots := 0, locals := 29 } : Room).cells ({ frames := 2, cells := 0, slots := 0, locals := 29 } : Room).slots) T_2 (mkF m 15 #[.val (.ref t), .val (.int (5 : Int32)), .val (.int (0 : Int32)), .unset] [(.int (115 : Int32))])
  refine Go.to (mkF m 16 #[.val (.ref t), .val (.int (5 : Int32)), .val (.int (0 : Int32)), .val (.int (115 : Int32))] []) (fun _ k => XS.istoreN X_2.here hx rfl (hb hby d9_15) rfl (l' := #[.val (.ref t), .val (.int (5 : Int32)), .val (.int (0 : Int32)), .val (.int (115 : Int32))]) rfl k) ?_
  refine Go.to (mkF m 17 #[.val (.ref t), .val (.int (5 : Int32)), .val (.int (0 : Int32)), .val (.int (115 : Int32))] [(.int (115 : Int32))]) (fun _ k => XS.iloadN X_2.here hx rfl (hb hby d9_16) rfl  k) ?_
  refine Go.to (mkF m 19 #[.val (.ref t), .val (.int (5 : Int32)), .val (.int (0 : Int32)), .val (.int (115 : Int32))] [(.int (32 : Int32)), (.int (115 : Int32))]) (fun _ k => XS.bipush X_2.here hx rfl (hb hby d9_17) k) ?_
  refine Go.to (mkF m 22 #[.val (.ref t), .val (.int (5 : Int32)), .val (.int (0 : Int32)), .val (.int (115 : Int32))] []) (fun _ k => XS.icmpNo X_2.here hx rfl (hb hby d9_19) rfl (feq (by decide : ¬ ((115 : Int32) = (32 : Int32)))).1 k) ?_
  refine Go.to (mkF m 23 #[.val (.ref t), .val (.int (5 : Int32)), .val (.int (0 : Int32)), .val (.int (115 : Int32))] [(.int (115 : Int32))]) (fun _ k => XS.iloadN X_2.here hx rfl (hb hby d9_22) rfl  k) ?_
  refine Go.to (mkF m 25 #[.val (.ref t), .val (.int (5 : Int32)), .val (.int (0 : Int32)), .val (.int (115 : Int32))] [(.int (9 : Int32)), (.int (115 : Int32))]) (fun _ k => XS.bipush X_2.here hx rfl (hb hby d9_23) k) ?_
  refine Go.to (mkF m 28 #[.val (.ref t), .val (.int (5 : Int32)), .val (.int (0 : Int32)), .val (.int (115 : Int32))] []) (fun _ k => XS.icmpNo X_2.here hx rfl (hb hby d9_25) rfl (feq (by decide : ¬ ((115 : Int32) = (9 : Int32)))).1 k) ?_
  obtain ⟨T_3, X_3, e_3, st_3⟩ := getS2 X_2 hx hZ hown (host := "") (Or.inl (hw _ (List.mem_of_getElem? (i := 59) rfl))) Via.refl hh_2 PS_java_lang_CharacterDataLatin1_instance (g := (mkF m 28 #[.val (.ref t), .val (.int (5 : Int32)), .val (.int (0 : Int32)), .val (.int (115 : Int32))] [])) rfl (hb hby d9_28)
  refine Go.to (mkF m 31 #[.val (.ref t), .val (.int (5 : Int32)), .val (.int (0 : Int32)), .val (.int (115 : Int32))] [(.ref ci)]) st_3 ?_
  refine Go.to (mkF m 32 #[.val (.ref t), .val (.int (5 : Int32)), .val (.int (0 : Int32)), .val (.int (115 : Int32))] [(.int (115 : Int32)), (.ref ci)]) (fun _ k => XS.iloadN X_3.here hx rfl (hb hby d9_31) rfl  k) ?_
  refine Go.virt X_3 hx hZ (y := (⟨"java/lang/CharacterDataLatin1", "isWhitespace", "(I)Z"⟩ : MethodName)) (z := (⟨"java/lang/CharacterDataLatin1", "isWhitespace", "(I)Z"⟩ : MethodName)) hown (hw _ (List.mem_of_getElem? (i := 61) rfl)) (hw _ (List.mem_of_getElem? (i := 62) rfl)) (notFace_of_selects (args := #[]) (mvT hZ (hw _ (List.mem_of_getElem? (i := 64) rfl)))) (hw _ (List.mem_of_getElem? (i := 64) rfl)) (hw _ (List.mem_of_getElem? (i := 63) rfl)) (by decide) e_3 (a := ci) PE_ci (argsL := [(.int (115 : Int32))]) (rest := []) (Met1.back (W := 0) (rm11 l Z a0 hw ci aA cA h0 n0 Z0 PS_java_lang_CharacterDataLatin1_A PR_aA PE_ci hin hat) hZ (hw _ (List.mem_of_getElem? (i := 65) rfl)) (hw _ (List.mem_of_getElem? (i := 60) rfl)) (by decide) (by decide)) (pc := 32) (Ls := #[.val (.ref t), .val (.int (5 : Int32)), .val (.int (0 : Int32)), .val (.int (115 : Int32))]) (by rw [hml]; rfl) (lenOf own_pd3 rfl) rfl (Nat.le_refl _) (hb hby d9_32) (by decide) (by decide) ?_
  intro T_4 v_4 L_4 X_4 hQ_4
  obtain ⟨rfl, Nq_4, hh_4⟩ := hQ_4
  have N_4 := Fr.app N_2 Nq_4
  show Go p e below (FinN s (Q9 Z t kt aA cA ci h0 n0) ({ frames := 2, cells := 0, slots := 0, locals := 29 } : Room).cells ({ frames := 2, cells := 0, slots := 0, locals := 29 } : Room).slots) T_4 (mkF m 35 #[.val (.ref t), .val (.int (5 : Int32)), .val (.int (0 : Int32)), .val (.int (115 : Int32))] [(.int (0 : Int32))])
  refine Go.to (mkF m 38 #[.val (.ref t), .val (.int (5 : Int32)), .val (.int (0 : Int32)), .val (.int (115 : Int32))] []) (fun _ k => XS.ifNo X_4.here hx rfl (hb hby d9_35) rfl ((if0 _ _).trans (teq (by decide : (0 : Int32) = (0 : Int32))).2) k) ?_
  refine Go.to (mkF m 47 #[.val (.ref t), .val (.int (5 : Int32)), .val (.int (0 : Int32)), .val (.int (115 : Int32))] []) (fun _ k => XS.goto X_4.here hx rfl (pc0 := 38) (pc' := 47) rfl (hb hby d9_38) (by decide) (by decide) k) ?_
  refine Go.to (mkF m 48 #[.val (.ref t), .val (.int (5 : Int32)), .val (.int (0 : Int32)), .val (.int (115 : Int32))] [(.int (0 : Int32))]) (fun _ k => XS.iloadN X_4.here hx rfl (hb hby d9_47) rfl  k) ?_
  refine Go.retI X_4 hx hret hlk (hb hby d9_48) (by decide) (by decide) ?_
  show (Q9 Z t kt aA cA ci h0 n0) _ T_4.heap _
  rw [hh_4]
  exact ⟨rfl, N_4, rfl⟩
theorem own_pd4 : parseMethodDescriptor "()Z" = some ⟨[], some .boolean⟩ := by decide +kernel
theorem own_pd5 : parseMethodDescriptor "([B)I" = some ⟨[(.array .byte)], some .int⟩ := by decide +kernel
def Q7 (Z : State) (x : Addr) (t : Addr) (kt : ClassId) (z : Int32) (aA : Addr) (cA : Cell) (ci : Addr) (h0 : Heap) (n0 : Nat) (v : Option Value) (h : Heap) (L : List Loc) : Prop := v = some (.int (0 : Int32)) ∧ Fr n0 L ∧ h = h0
theorem ef_7 (m : MethodId) (x : Addr) : entryFrame m #[(.ref x)] 1 = mkF m 0 #[.val (.ref x)] [] := by first | (simp [entryFrame, mkF, argsToLocals, Value.category]; done) | (simp [entryFrame, mkF, argsToLocals, own_cat_i, own_cat_l, own_cat_r, own_cat_n]; done) | rfl
set_option maxRecDepth 65536 in
set_option maxHeartbeats 40000000 in
theorem rm7 (l : Launch) (Z : State) (a0 : Array Value) (hw : ∀ d ∈ tables_1, d.before a0 Z = true) (x : Addr) (t : Addr) (kt : ClassId) (z : Int32) (aA : Addr) (cA : Cell) (ci : Addr) (h0 : Heap) (n0 : Nat) (Z0 : n0 ≤ h0.size) (PE_x : Exa Z h0 x "java/lang/String") (PF_x_value : Fld Z h0 x "java/lang/String" "value" "[B" (.ref t)) (PA_t : Arv Z h0 t kt .byte (5 : Int32) [(.int (115 : Int32)), (.int (101 : Int32)), (.int (97 : Int32)), (.int (116 : Int32)), (.int (115 : Int32))] (.int (0 : Int32))) (PS_java_lang_String_COMPACT_STRINGS : Sta Z h0 "java/lang/String" "COMPACT_STRINGS" "Z" (.int z)) (PF_x_coder : Fld Z h0 x "java/lang/String" "coder" "B" (.int (0 : Int32))) (PS_java_lang_CharacterDataLatin1_A : Sta Z h0 "java/lang/CharacterDataLatin1" "A" "[I" (.ref aA)) (PR_aA : Arr Z h0 aA cA .int) (PS_java_lang_CharacterDataLatin1_instance : Sta Z h0 "java/lang/CharacterDataLatin1" "instance" "Ljava/lang/CharacterDataLatin1;" (.ref ci)) (PE_ci : Exa Z h0 ci "java/lang/CharacterDataLatin1") (hz : ¬ z = 0) (hin : ¬ ((115 : Int32) < 0 ∨ cA.slots.size ≤ (115 : Int32).toNatClampNeg)) (hat : cA.slots[(115 : Int32).toNatClampNeg]? = some (.int (8486882 : Int32))) :
    Met1 l Z (⟨"java/lang/String", "indexOfNonWhitespace", "()I"⟩ : MethodName) jdk_42_method_120_code 1 (some .int) ({ frames := 3, cells := 0, slots := 0, locals := 44 } : Room) #[(.ref x)] h0 (Q7 Z x t kt z aA cA ci h0 n0) := by
  refine Met1.mk (plainFor_of_name (by first | (simp [plainName, overriddenIn]; done) | decide +kernel)) ?_
  intro p e s m below meth c s₁ hx hZ hby hml hown hnm hret hlk X0 e0
  have N0 := Fr.nil n0
  refine Go.cast (ef_7 m x) ?_
  show Go p e below (FinN s (Q7 Z x t kt z aA cA ci h0 n0) ({ frames := 3, cells := 0, slots := 0, locals := 44 } : Room).cells ({ frames := 3, cells := 0, slots := 0, locals := 44 } : Room).slots) s₁ (mkF m 0 #[.val (.ref x)] [])
  refine Go.to (mkF m 1 #[.val (.ref x)] [(.ref x)]) (fun _ k => XS.aloadN X0.here hx rfl (hb hby d7_0) rfl rfl k) ?_
  refine Go.virt X0 hx hZ (y := (⟨"java/lang/String", "isLatin1", "()Z"⟩ : MethodName)) (z := (⟨"java/lang/String", "isLatin1", "()Z"⟩ : MethodName)) hown (hw _ (List.mem_of_getElem? (i := 44) rfl)) (hw _ (List.mem_of_getElem? (i := 45) rfl)) (notFace_of_selects (args := #[]) (mvT hZ (hw _ (List.mem_of_getElem? (i := 47) rfl)))) (hw _ (List.mem_of_getElem? (i := 47) rfl)) (hw _ (List.mem_of_getElem? (i := 46) rfl)) (by decide) e0 (a := x) PE_x (argsL := []) (rest := []) (Met1.back (W := 0) (rm8 l Z a0 hw x z h0 n0 Z0 PS_java_lang_String_COMPACT_STRINGS PF_x_coder hz) hZ (hw _ (List.mem_of_getElem? (i := 48) rfl)) (hw _ (List.mem_of_getElem? (i := 5) rfl)) (by decide) (by decide)) (pc := 1) (Ls := #[.val (.ref x)]) (by rw [hml]; rfl) (lenOf own_pd4 rfl) rfl (Nat.le_refl _) (hb hby d7_1) (by decide) (by decide) ?_
  intro T_1 v_1 L_1 X_1 hQ_1
  obtain ⟨rfl, Nq_1, hh_1⟩ := hQ_1
  have N_1 := Fr.app N0 Nq_1
  show Go p e below (FinN s (Q7 Z x t kt z aA cA ci h0 n0) ({ frames := 3, cells := 0, slots := 0, locals := 44 } : Room).cells ({ frames := 3, cells := 0, slots := 0, locals := 44 } : Room).slots) T_1 (mkF m 4 #[.val (.ref x)] [(.int (1 : Int32))])
  refine Go.to (mkF m 7 #[.val (.ref x)] []) (fun _ k => XS.ifNo X_1.here hx rfl (hb hby d7_4) rfl ((if0 _ _).trans (feq (by decide : ¬ ((1 : Int32) = (0 : Int32)))).1) k) ?_
  refine Go.to (mkF m 8 #[.val (.ref x)] [(.ref x)]) (fun _ k => XS.aloadN X_1.here hx rfl (hb hby d7_7) rfl rfl k) ?_
  obtain ⟨T_2, X_2, e_2, st_2⟩ := getF X_1 hx hZ hown (host := "") (Or.inl (hw _ (List.mem_of_getElem? (i := 51) rfl))) Via.refl hh_1 PF_x_value (g := (mkF m 8 #[.val (.ref x)] [(.ref x)])) rfl rfl (hb hby d7_8)
  refine Go.to (mkF m 11 #[.val (.ref x)] [(.ref t)]) st_2 ?_
  refine Go.stat X_2 hx hZ (y := (⟨"java/lang/StringLatin1", "indexOfNonWhitespace", "([B)I"⟩ : MethodName)) hown (hw _ (List.mem_of_getElem? (i := 52) rfl)) (hw _ (List.mem_of_getElem? (i := 53) rfl)) (hw _ (List.mem_of_getElem? (i := 54) rfl)) (hw _ (List.mem_of_getElem? (i := 55) rfl)) (by decide) e_2 (argsL := [(.ref t)]) (rest := []) (Met1.back (W := 0) (rm9 l Z a0 hw t kt aA cA ci h0 n0 Z0 PA_t PS_java_lang_CharacterDataLatin1_A PR_aA PS_java_lang_CharacterDataLatin1_instance PE_ci hin hat) hZ (hw _ (List.mem_of_getElem? (i := 55) rfl)) (hw _ (List.mem_of_getElem? (i := 54) rfl)) (by decide) (by decide)) (pc := 11) (Ls := #[.val (.ref x)]) (by rw [hml]; rfl) (lenOf own_pd5 rfl) rfl (Nat.le_refl _) (hb hby d7_11) (by decide) (by decide) ?_
  intro T_3 v_3 L_3 X_3 hQ_3
  obtain ⟨rfl, Nq_3, hh_3⟩ := hQ_3
  have N_3 := Fr.app N_1 Nq_3
  show Go p e below (FinN s (Q7 Z x t kt z aA cA ci h0 n0) ({ frames := 3, cells := 0, slots := 0, locals := 44 } : Room).cells ({ frames := 3, cells := 0, slots := 0, locals := 44 } : Room).slots) T_3 (mkF m 14 #[.val (.ref x)] [(.int (0 : Int32))])
  refine Go.to (mkF m 24 #[.val (.ref x)] [(.int (0 : Int32))]) (fun _ k => XS.goto X_3.here hx rfl (pc0 := 14) (pc' := 24) rfl (hb hby d7_14) (by decide) (by decide) k) ?_
  refine Go.retI X_3 hx hret hlk (hb hby d7_24) (by decide) (by decide) ?_
  show (Q7 Z x t kt z aA cA ci h0 n0) _ T_3.heap _
  rw [hh_3]
  exact ⟨rfl, N_3, rfl⟩
theorem own_pd6 : parseMethodDescriptor "()I" = some ⟨[], some .int⟩ := by decide +kernel
def Q6 (Z : State) (x : Addr) (t : Addr) (kt : ClassId) (z : Int32) (aA : Addr) (cA : Cell) (ci : Addr) (h0 : Heap) (n0 : Nat) (v : Option Value) (h : Heap) (L : List Loc) : Prop := v = some (.int (0 : Int32)) ∧ Fr n0 L ∧ h = h0
theorem ef_6 (m : MethodId) (x : Addr) : entryFrame m #[(.ref x)] 1 = mkF m 0 #[.val (.ref x)] [] := by first | (simp [entryFrame, mkF, argsToLocals, Value.category]; done) | (simp [entryFrame, mkF, argsToLocals, own_cat_i, own_cat_l, own_cat_r, own_cat_n]; done) | rfl
set_option maxRecDepth 65536 in
set_option maxHeartbeats 40000000 in
theorem rm6 (l : Launch) (Z : State) (a0 : Array Value) (hw : ∀ d ∈ tables_1, d.before a0 Z = true) (x : Addr) (t : Addr) (kt : ClassId) (z : Int32) (aA : Addr) (cA : Cell) (ci : Addr) (h0 : Heap) (n0 : Nat) (Z0 : n0 ≤ h0.size) (PE_x : Exa Z h0 x "java/lang/String") (PF_x_value : Fld Z h0 x "java/lang/String" "value" "[B" (.ref t)) (PA_t : Arv Z h0 t kt .byte (5 : Int32) [(.int (115 : Int32)), (.int (101 : Int32)), (.int (97 : Int32)), (.int (116 : Int32)), (.int (115 : Int32))] (.int (0 : Int32))) (PS_java_lang_String_COMPACT_STRINGS : Sta Z h0 "java/lang/String" "COMPACT_STRINGS" "Z" (.int z)) (PF_x_coder : Fld Z h0 x "java/lang/String" "coder" "B" (.int (0 : Int32))) (PS_java_lang_CharacterDataLatin1_A : Sta Z h0 "java/lang/CharacterDataLatin1" "A" "[I" (.ref aA)) (PR_aA : Arr Z h0 aA cA .int) (PS_java_lang_CharacterDataLatin1_instance : Sta Z h0 "java/lang/CharacterDataLatin1" "instance" "Ljava/lang/CharacterDataLatin1;" (.ref ci)) (PE_ci : Exa Z h0 ci "java/lang/CharacterDataLatin1") (hz : ¬ z = 0) (hin : ¬ ((115 : Int32) < 0 ∨ cA.slots.size ≤ (115 : Int32).toNatClampNeg)) (hat : cA.slots[(115 : Int32).toNatClampNeg]? = some (.int (8486882 : Int32))) :
    Met1 l Z (⟨"java/lang/String", "isBlank", "()Z"⟩ : MethodName) jdk_42_method_117_code 1 (some .boolean) ({ frames := 4, cells := 0, slots := 0, locals := 56 } : Room) #[(.ref x)] h0 (Q6 Z x t kt z aA cA ci h0 n0) := by
  refine Met1.mk (plainFor_of_name (by first | (simp [plainName, overriddenIn]; done) | decide +kernel)) ?_
  intro p e s m below meth c s₁ hx hZ hby hml hown hnm hret hlk X0 e0
  have N0 := Fr.nil n0
  refine Go.cast (ef_6 m x) ?_
  show Go p e below (FinN s (Q6 Z x t kt z aA cA ci h0 n0) ({ frames := 4, cells := 0, slots := 0, locals := 56 } : Room).cells ({ frames := 4, cells := 0, slots := 0, locals := 56 } : Room).slots) s₁ (mkF m 0 #[.val (.ref x)] [])
  refine Go.to (mkF m 1 #[.val (.ref x)] [(.ref x)]) (fun _ k => XS.aloadN X0.here hx rfl (hb hby d6_0) rfl rfl k) ?_
  refine Go.priv X0 hx hZ (y := (⟨"java/lang/String", "indexOfNonWhitespace", "()I"⟩ : MethodName)) hown (hw _ (List.mem_of_getElem? (i := 39) rfl)) (hw _ (List.mem_of_getElem? (i := 40) rfl)) (mvT hZ (hw _ (List.mem_of_getElem? (i := 42) rfl))) (hw _ (List.mem_of_getElem? (i := 41) rfl)) (hw _ (List.mem_of_getElem? (i := 43) rfl)) (by decide) e0 (a := x) PE_x (argsL := []) (rest := []) (Met1.back (W := 0) (rm7 l Z a0 hw x t kt z aA cA ci h0 n0 Z0 PE_x PF_x_value PA_t PS_java_lang_String_COMPACT_STRINGS PF_x_coder PS_java_lang_CharacterDataLatin1_A PR_aA PS_java_lang_CharacterDataLatin1_instance PE_ci hz hin hat) hZ (hw _ (List.mem_of_getElem? (i := 43) rfl)) (hw _ (List.mem_of_getElem? (i := 5) rfl)) (by decide) (by decide)) (pc := 1) (Ls := #[.val (.ref x)]) (by rw [hml]; rfl) (lenOf own_pd6 rfl) rfl (Nat.le_refl _) (hb hby d6_1) (by decide) (by decide) ?_
  intro T_1 v_1 L_1 X_1 hQ_1
  obtain ⟨rfl, Nq_1, hh_1⟩ := hQ_1
  have N_1 := Fr.app N0 Nq_1
  show Go p e below (FinN s (Q6 Z x t kt z aA cA ci h0 n0) ({ frames := 4, cells := 0, slots := 0, locals := 56 } : Room).cells ({ frames := 4, cells := 0, slots := 0, locals := 56 } : Room).slots) T_1 (mkF m 4 #[.val (.ref x)] [(.int (0 : Int32))])
  refine Go.to (mkF m 5 #[.val (.ref x)] [(.ref x), (.int (0 : Int32))]) (fun _ k => XS.aloadN X_1.here hx rfl (hb hby d6_4) rfl rfl k) ?_
  refine Go.virt X_1 hx hZ (y := (⟨"java/lang/String", "length", "()I"⟩ : MethodName)) (z := (⟨"java/lang/String", "length", "()I"⟩ : MethodName)) hown (hw _ (List.mem_of_getElem? (i := 72) rfl)) (hw _ (List.mem_of_getElem? (i := 73) rfl)) (notFace_of_selects (args := #[]) (mvT hZ (hw _ (List.mem_of_getElem? (i := 75) rfl)))) (hw _ (List.mem_of_getElem? (i := 75) rfl)) (hw _ (List.mem_of_getElem? (i := 74) rfl)) (by decide) hh_1 (a := x) PE_x (argsL := []) (rest := [(.int (0 : Int32))]) (Met1.back (W := 1) (rm13 l Z a0 hw x t kt z h0 n0 Z0 PE_x PF_x_value PA_t PS_java_lang_String_COMPACT_STRINGS PF_x_coder hz) hZ (hw _ (List.mem_of_getElem? (i := 76) rfl)) (hw _ (List.mem_of_getElem? (i := 5) rfl)) (by decide) (by decide)) (pc := 5) (Ls := #[.val (.ref x)]) (by rw [hml]; rfl) (lenOf own_pd6 rfl) rfl (Nat.le_refl _) (hb hby d6_5) (by decide) (by decide) ?_
  intro T_2 v_2 L_2 X_2 hQ_2
  obtain ⟨rfl, Nq_2, hh_2⟩ := hQ_2
  have N_2 := Fr.app N_1 Nq_2
  show Go p e below (FinN s (Q6 Z x t kt z aA cA ci h0 n0) ({ frames := 4, cells := 0, slots := 0, locals := 56 } : Room).cells ({ frames := 4, cells := 0, slots := 0, locals := 56 } : Room).slots) T_2 (mkF m 8 #[.val (.ref x)] [(.int (5 : Int32)), (.int (0 : Int32))])
  refine Go.to (mkF m 15 #[.val (.ref x)] []) (fun _ k => XS.icmpYes X_2.here hx rfl (pc0 := 8) (pc' := 15) rfl (hb hby d6_8) rfl (feq (by decide : ¬ ((0 : Int32) = (5 : Int32)))).2 (by decide) (by decide) k) ?_
  refine Go.to (mkF m 16 #[.val (.ref x)] [(.int (0 : Int32))]) (fun _ k => XS.iconst X_2.here hx rfl (hb hby d6_15) k) ?_
  refine Go.retN X_2 hx (t := .boolean) hret hlk (by simp) (hb hby d6_16) (by decide) (by decide) (z' := (0 : Int32)) rfl ?_
  show (Q6 Z x t kt z aA cA ci h0 n0) _ T_2.heap _
  rw [hh_2]
  exact ⟨rfl, N_2, rfl⟩
def Q15 (Z : State) (o : Addr) (h0 : Heap) (n0 : Nat) (v : Option Value) (h : Heap) (L : List Loc) : Prop := v = some (.int (0 : Int32)) ∧ Fr n0 L ∧ h = h0
theorem ef_15 (m : MethodId) (o : Addr) : entryFrame m #[(.ref o)] 1 = mkF m 0 #[.val (.ref o)] [] := by first | (simp [entryFrame, mkF, argsToLocals, Value.category]; done) | (simp [entryFrame, mkF, argsToLocals, own_cat_i, own_cat_l, own_cat_r, own_cat_n]; done) | rfl
set_option maxRecDepth 65536 in
set_option maxHeartbeats 40000000 in
theorem rm15 (l : Launch) (Z : State) (a0 : Array Value) (hw : ∀ d ∈ tables_1, d.before a0 Z = true) (o : Addr) (h0 : Heap) (n0 : Nat) (Z0 : n0 ≤ h0.size) (PF_o_value : Fld Z h0 o "java/util/Optional" "value" "Ljava/lang/Object;" .null) :
    Met1 l Z (⟨"java/util/Optional", "isPresent", "()Z"⟩ : MethodName) jdk_32_method_6_code 1 (some .boolean) ({ frames := 0, cells := 0, slots := 0, locals := 0 } : Room) #[(.ref o)] h0 (Q15 Z o h0 n0) := by
  refine Met1.mk (plainFor_of_name (by first | (simp [plainName, overriddenIn]; done) | decide +kernel)) ?_
  intro p e s m below meth c s₁ hx hZ hby hml hown hnm hret hlk X0 e0
  have N0 := Fr.nil n0
  refine Go.cast (ef_15 m o) ?_
  show Go p e below (FinN s (Q15 Z o h0 n0) ({ frames := 0, cells := 0, slots := 0, locals := 0 } : Room).cells ({ frames := 0, cells := 0, slots := 0, locals := 0 } : Room).slots) s₁ (mkF m 0 #[.val (.ref o)] [])
  refine Go.to (mkF m 1 #[.val (.ref o)] [(.ref o)]) (fun _ k => XS.aloadN X0.here hx rfl (hb hby d15_0) rfl rfl k) ?_
  obtain ⟨T_1, X_1, e_1, st_1⟩ := getF X0 hx hZ hown (host := "") (Or.inl (hw _ (List.mem_of_getElem? (i := 87) rfl))) Via.refl e0 PF_o_value (g := (mkF m 1 #[.val (.ref o)] [(.ref o)])) rfl rfl (hb hby d15_1)
  refine Go.to (mkF m 4 #[.val (.ref o)] [.null]) st_1 ?_
  refine Go.to (mkF m 11 #[.val (.ref o)] []) (fun _ k => XS.ifnullYes X_1.here hx rfl (pc0 := 4) (pc' := 11) rfl (hb hby d15_4) rfl (by decide) (by decide) k) ?_
  refine Go.to (mkF m 12 #[.val (.ref o)] [(.int (0 : Int32))]) (fun _ k => XS.iconst X_1.here hx rfl (hb hby d15_11) k) ?_
  refine Go.retN X_1 hx (t := .boolean) hret hlk (by simp) (hb hby d15_12) (by decide) (by decide) (z' := (0 : Int32)) rfl ?_
  show (Q15 Z o h0 n0) _ T_1.heap _
  rw [e_1]
  exact ⟨rfl, N0, rfl⟩
def Q18 (Z : State) (o : Addr) (h0 : Heap) (n0 : Nat) (v : Option Value) (h : Heap) (L : List Loc) : Prop := v = some (.int (1 : Int32)) ∧ Fr n0 L ∧ h = h0
theorem ef_18 (m : MethodId) (o : Addr) : entryFrame m #[(.ref o)] 1 = mkF m 0 #[.val (.ref o)] [] := by first | (simp [entryFrame, mkF, argsToLocals, Value.category]; done) | (simp [entryFrame, mkF, argsToLocals, own_cat_i, own_cat_l, own_cat_r, own_cat_n]; done) | rfl
set_option maxRecDepth 65536 in
set_option maxHeartbeats 40000000 in
theorem rm18 (l : Launch) (Z : State) (a0 : Array Value) (hw : ∀ d ∈ tables_1, d.before a0 Z = true) (o : Addr) (h0 : Heap) (n0 : Nat) (Z0 : n0 ≤ h0.size) (PF_o_value : Fld Z h0 o "java/util/Optional" "value" "Ljava/lang/Object;" .null) :
    Met1 l Z (⟨"java/util/Optional", "isEmpty", "()Z"⟩ : MethodName) jdk_32_method_7_code 1 (some .boolean) ({ frames := 0, cells := 0, slots := 0, locals := 0 } : Room) #[(.ref o)] h0 (Q18 Z o h0 n0) := by
  refine Met1.mk (plainFor_of_name (by first | (simp [plainName, overriddenIn]; done) | decide +kernel)) ?_
  intro p e s m below meth c s₁ hx hZ hby hml hown hnm hret hlk X0 e0
  have N0 := Fr.nil n0
  refine Go.cast (ef_18 m o) ?_
  show Go p e below (FinN s (Q18 Z o h0 n0) ({ frames := 0, cells := 0, slots := 0, locals := 0 } : Room).cells ({ frames := 0, cells := 0, slots := 0, locals := 0 } : Room).slots) s₁ (mkF m 0 #[.val (.ref o)] [])
  refine Go.to (mkF m 1 #[.val (.ref o)] [(.ref o)]) (fun _ k => XS.aloadN X0.here hx rfl (hb hby d18_0) rfl rfl k) ?_
  obtain ⟨T_1, X_1, e_1, st_1⟩ := getF X0 hx hZ hown (host := "") (Or.inl (hw _ (List.mem_of_getElem? (i := 87) rfl))) Via.refl e0 PF_o_value (g := (mkF m 1 #[.val (.ref o)] [(.ref o)])) rfl rfl (hb hby d18_1)
  refine Go.to (mkF m 4 #[.val (.ref o)] [.null]) st_1 ?_
  refine Go.to (mkF m 7 #[.val (.ref o)] []) (fun _ k => XS.ifnonnullNo X_1.here hx rfl (hb hby d18_4) rfl k) ?_
  refine Go.to (mkF m 8 #[.val (.ref o)] [(.int (1 : Int32))]) (fun _ k => XS.iconst X_1.here hx rfl (hb hby d18_7) k) ?_
  refine Go.to (mkF m 12 #[.val (.ref o)] [(.int (1 : Int32))]) (fun _ k => XS.goto X_1.here hx rfl (pc0 := 8) (pc' := 12) rfl (hb hby d18_8) (by decide) (by decide) k) ?_
  refine Go.retN X_1 hx (t := .boolean) hret hlk (by simp) (hb hby d18_12) (by decide) (by decide) (z' := (1 : Int32)) rfl ?_
  show (Q18 Z o h0 n0) _ T_1.heap _
  rw [e_1]
  exact ⟨rfl, N0, rfl⟩
theorem own_pd7 : parseMethodDescriptor "(Ljava/lang/Object;)Ljava/lang/Object;" = some ⟨[(.object "java/lang/Object")], some (.object "java/lang/Object")⟩ := by decide +kernel
theorem own_pd8 : parseMethodDescriptor "()Ljava/util/Optional;" = some ⟨[], some (.object "java/util/Optional")⟩ := by decide +kernel
def Q16 (Z : State) (o : Addr) (f : Addr) (h0 : Heap) (n0 : Nat) (v : Option Value) (h : Heap) (L : List Loc) : Prop := v = some (.ref o) ∧ Fr n0 L ∧ h = h0
theorem ef_16 (m : MethodId) (o : Addr) (f : Addr) : entryFrame m #[(.ref o), (.ref f)] 2 = mkF m 0 #[.val (.ref o), .val (.ref f)] [] := by first | (simp [entryFrame, mkF, argsToLocals, Value.category]; done) | (simp [entryFrame, mkF, argsToLocals, own_cat_i, own_cat_l, own_cat_r, own_cat_n]; done) | rfl
set_option maxRecDepth 65536 in
set_option maxHeartbeats 40000000 in
theorem rm16 (l : Launch) (Z : State) (a0 : Array Value) (hw : ∀ d ∈ tables_1, d.before a0 Z = true) (o : Addr) (f : Addr) (h0 : Heap) (n0 : Nat) (Z0 : n0 ≤ h0.size) (PF_o_value : Fld Z h0 o "java/util/Optional" "value" "Ljava/lang/Object;" .null) (PS_java_util_Optional_EMPTY : Sta Z h0 "java/util/Optional" "EMPTY" "Ljava/util/Optional;" (.ref o)) (PE_o : Exa Z h0 o "java/util/Optional") :
    Met1 l Z (⟨"java/util/Optional", "map", "(Ljava/util/function/Function;)Ljava/util/Optional;"⟩ : MethodName) jdk_32_method_11_code 2 (some (.object "java/util/Optional")) ({ frames := 1, cells := 0, slots := 0, locals := 12 } : Room) #[(.ref o), (.ref f)] h0 (Q16 Z o f h0 n0) := by
  refine Met1.mk (plainFor_of_name (by first | (simp [plainName, overriddenIn]; done) | decide +kernel)) ?_
  intro p e s m below meth c s₁ hx hZ hby hml hown hnm hret hlk X0 e0
  have N0 := Fr.nil n0
  refine Go.cast (ef_16 m o f) ?_
  show Go p e below (FinN s (Q16 Z o f h0 n0) ({ frames := 1, cells := 0, slots := 0, locals := 12 } : Room).cells ({ frames := 1, cells := 0, slots := 0, locals := 12 } : Room).slots) s₁ (mkF m 0 #[.val (.ref o), .val (.ref f)] [])
  refine Go.to (mkF m 1 #[.val (.ref o), .val (.ref f)] [(.ref f)]) (fun _ k => XS.aloadN X0.here hx rfl (hb hby d16_0) rfl rfl k) ?_
  refine Go.stat X0 hx hZ (y := (⟨"java/util/Objects", "requireNonNull", "(Ljava/lang/Object;)Ljava/lang/Object;"⟩ : MethodName)) hown (hw _ (List.mem_of_getElem? (i := 97) rfl)) (hw _ (List.mem_of_getElem? (i := 98) rfl)) (hw _ (List.mem_of_getElem? (i := 31) rfl)) (hw _ (List.mem_of_getElem? (i := 99) rfl)) (by decide) e0 (argsL := [(.ref f)]) (rest := []) (Met1.back (W := 0) (rm17 l Z a0 hw f h0 n0 Z0) hZ (hw _ (List.mem_of_getElem? (i := 99) rfl)) (hw _ (List.mem_of_getElem? (i := 31) rfl)) (by decide) (by decide)) (pc := 1) (Ls := #[.val (.ref o), .val (.ref f)]) (by rw [hml]; rfl) (lenOf own_pd7 rfl) rfl (Nat.le_refl _) (hb hby d16_1) (by decide) (by decide) ?_
  intro T_1 v_1 L_1 X_1 hQ_1
  obtain ⟨rfl, Nq_1, hh_1⟩ := hQ_1
  have N_1 := Fr.app N0 Nq_1
  show Go p e below (FinN s (Q16 Z o f h0 n0) ({ frames := 1, cells := 0, slots := 0, locals := 12 } : Room).cells ({ frames := 1, cells := 0, slots := 0, locals := 12 } : Room).slots) T_1 (mkF m 4 #[.val (.ref o), .val (.ref f)] [(.ref f)])
  refine Go.to (mkF m 5 #[.val (.ref o), .val (.ref f)] []) (fun _ k => XS.pop X_1.here hx rfl (hb hby d16_4) rfl rfl k) ?_
  refine Go.to (mkF m 6 #[.val (.ref o), .val (.ref f)] [(.ref o)]) (fun _ k => XS.aloadN X_1.here hx rfl (hb hby d16_5) rfl rfl k) ?_
  refine Go.virt X_1 hx hZ (y := (⟨"java/util/Optional", "isEmpty", "()Z"⟩ : MethodName)) (z := (⟨"java/util/Optional", "isEmpty", "()Z"⟩ : MethodName)) hown (hw _ (List.mem_of_getElem? (i := 100) rfl)) (hw _ (List.mem_of_getElem? (i := 101) rfl)) (notFace_of_selects (args := #[]) (mvT hZ (hw _ (List.mem_of_getElem? (i := 103) rfl)))) (hw _ (List.mem_of_getElem? (i := 103) rfl)) (hw _ (List.mem_of_getElem? (i := 102) rfl)) (by decide) hh_1 (a := o) PE_o (argsL := []) (rest := []) (Met1.back (W := 0) (rm18 l Z a0 hw o h0 n0 Z0 PF_o_value) hZ (hw _ (List.mem_of_getElem? (i := 104) rfl)) (hw _ (List.mem_of_getElem? (i := 14) rfl)) (by decide) (by decide)) (pc := 6) (Ls := #[.val (.ref o), .val (.ref f)]) (by rw [hml]; rfl) (lenOf own_pd4 rfl) rfl (Nat.le_refl _) (hb hby d16_6) (by decide) (by decide) ?_
  intro T_2 v_2 L_2 X_2 hQ_2
  obtain ⟨rfl, Nq_2, hh_2⟩ := hQ_2
  have N_2 := Fr.app N_1 Nq_2
  show Go p e below (FinN s (Q16 Z o f h0 n0) ({ frames := 1, cells := 0, slots := 0, locals := 12 } : Room).cells ({ frames := 1, cells := 0, slots := 0, locals := 12 } : Room).slots) T_2 (mkF m 9 #[.val (.ref o), .val (.ref f)] [(.int (1 : Int32))])
  refine Go.to (mkF m 12 #[.val (.ref o), .val (.ref f)] []) (fun _ k => XS.ifNo X_2.here hx rfl (hb hby d16_9) rfl ((if0 _ _).trans (feq (by decide : ¬ ((1 : Int32) = (0 : Int32)))).1) k) ?_
  refine Go.stat X_2 hx hZ (y := (⟨"java/util/Optional", "empty", "()Ljava/util/Optional;"⟩ : MethodName)) hown (hw _ (List.mem_of_getElem? (i := 105) rfl)) (hw _ (List.mem_of_getElem? (i := 13) rfl)) (hw _ (List.mem_of_getElem? (i := 14) rfl)) (hw _ (List.mem_of_getElem? (i := 15) rfl)) (by decide) hh_2 (argsL := []) (rest := []) (Met1.back (W := 0) (rm1 l Z a0 hw o h0 n0 Z0 PS_java_util_Optional_EMPTY) hZ (hw _ (List.mem_of_getElem? (i := 15) rfl)) (hw _ (List.mem_of_getElem? (i := 14) rfl)) (by decide) (by decide)) (pc := 12) (Ls := #[.val (.ref o), .val (.ref f)]) (by rw [hml]; rfl) (lenOf own_pd8 rfl) rfl (Nat.le_refl _) (hb hby d16_12) (by decide) (by decide) ?_
  intro T_3 v_3 L_3 X_3 hQ_3
  obtain ⟨rfl, Nq_3, hh_3⟩ := hQ_3
  have N_3 := Fr.app N_2 Nq_3
  show Go p e below (FinN s (Q16 Z o f h0 n0) ({ frames := 1, cells := 0, slots := 0, locals := 12 } : Room).cells ({ frames := 1, cells := 0, slots := 0, locals := 12 } : Room).slots) T_3 (mkF m 15 #[.val (.ref o), .val (.ref f)] [(.ref o)])
  refine Go.retA X_3 hx (t := (.object "java/util/Optional")) hret hlk rfl rfl (hb hby d16_15) (by decide) (by decide) ?_
  show (Q16 Z o f h0 n0) _ T_3.heap _
  rw [hh_3]
  exact ⟨rfl, N_3, rfl⟩
def Q20 (Z : State) (a : Int64) (b : Int64) (h0 : Heap) (n0 : Nat) (v : Option Value) (h : Heap) (L : List Loc) : Prop := v = some (.long (own_max a b)) ∧ Fr n0 L ∧ h = h0
theorem ef_20 (m : MethodId) (a : Int64) (b : Int64) : entryFrame m #[(.long a), (.long b)] 4 = mkF m 0 #[.val (.long a), .second, .val (.long b), .second] [] := by first | (simp [entryFrame, mkF, argsToLocals, Value.category]; done) | (simp [entryFrame, mkF, argsToLocals, own_cat_i, own_cat_l, own_cat_r, own_cat_n]; done) | rfl
set_option maxRecDepth 65536 in
set_option maxHeartbeats 40000000 in
theorem rm20 (l : Launch) (Z : State) (a0 : Array Value) (hw : ∀ d ∈ tables_1, d.before a0 Z = true) (a : Int64) (b : Int64) (h0 : Heap) (n0 : Nat) (Z0 : n0 ≤ h0.size) :
    Met1 l Z (⟨"java/lang/Math", "max", "(JJ)J"⟩ : MethodName) jdk_29_method_66_code 4 (some .long) ({ frames := 0, cells := 0, slots := 0, locals := 0 } : Room) #[(.long a), (.long b)] h0 (Q20 Z a b h0 n0) := by
  refine Met1.mk (Jvm.Free.JP.mathPlain rfl (by decide +kernel)) ?_
  intro p e s m below meth c s₁ hx hZ hby hml hown hnm hret hlk X0 e0
  have N0 := Fr.nil n0
  refine Go.cast (ef_20 m a b) ?_
  show Go p e below (FinN s (Q20 Z a b h0 n0) ({ frames := 0, cells := 0, slots := 0, locals := 0 } : Room).cells ({ frames := 0, cells := 0, slots := 0, locals := 0 } : Room).slots) s₁ (mkF m 0 #[.val (.long a), .second, .val (.long b), .second] [])
  refine Go.to (mkF m 1 #[.val (.long a), .second, .val (.long b), .second] [(.long a)]) (fun _ k => XS.lloadN X0.here hx rfl (hb hby d20_0) rfl  k) ?_
  refine Go.to (mkF m 2 #[.val (.long a), .second, .val (.long b), .second] [(.long b), (.long a)]) (fun _ k => XS.lloadN X0.here hx rfl (hb hby d20_1) rfl  k) ?_
  refine Go.to (mkF m 3 #[.val (.long a), .second, .val (.long b), .second] [(.int (lcmpW a b))]) (fun _ k => XS.lcmp X0.here hx rfl (hb hby d20_2) rfl k) ?_
  by_cases hc : (lcmpW a b) < (0 : Int32)
  · refine Go.to (mkF m 10 #[.val (.long a), .second, .val (.long b), .second] []) (fun _ k => XS.ifYes X0.here hx rfl (pc0 := 3) (pc' := 10) rfl (hb hby d20_3) rfl ((if0 _ _).trans (tlt hc).1) (by decide) (by decide) k) ?_
    refine Go.to (mkF m 11 #[.val (.long a), .second, .val (.long b), .second] [(.long b)]) (fun _ k => XS.lloadN X0.here hx rfl (hb hby d20_10) rfl  k) ?_
    refine Go.retL X0 hx hret hlk (hb hby d20_11) (by decide) (by decide) ?_
    show (Q20 Z a b h0 n0) _ s₁.heap _
    rw [e0]
    exact ⟨(congrArg (fun z => some (Value.long z)) (if_pos ((lw_lt _ _).mp hc)).symm), N0, rfl⟩
  · refine Go.to (mkF m 6 #[.val (.long a), .second, .val (.long b), .second] []) (fun _ k => XS.ifNo X0.here hx rfl (hb hby d20_3) rfl ((if0 _ _).trans (flt hc).1) k) ?_
    refine Go.to (mkF m 7 #[.val (.long a), .second, .val (.long b), .second] [(.long a)]) (fun _ k => XS.lloadN X0.here hx rfl (hb hby d20_6) rfl  k) ?_
    refine Go.to (mkF m 11 #[.val (.long a), .second, .val (.long b), .second] [(.long a)]) (fun _ k => XS.goto X0.here hx rfl (pc0 := 7) (pc' := 11) rfl (hb hby d20_7) (by decide) (by decide) k) ?_
    refine Go.retL X0 hx hret hlk (hb hby d20_11) (by decide) (by decide) ?_
    show (Q20 Z a b h0 n0) _ s₁.heap _
    rw [e0]
    exact ⟨(congrArg (fun z => some (Value.long z)) (if_neg (fun q => hc ((lw_lt _ _).mpr q))).symm), N0, rfl⟩
theorem own_pd9 : parseMethodDescriptor "()V" = some ⟨[], none⟩ := by decide +kernel
theorem own_pd10 : parseMethodDescriptor "(Ljava/lang/Object;Ljava/lang/String;)Ljava/lang/Object;" = some ⟨[(.object "java/lang/Object"), (.object "java/lang/String")], some (.object "java/lang/Object")⟩ := by decide +kernel
theorem own_pd11 : parseMethodDescriptor "(Ljava/util/function/Function;)Ljava/util/Optional;" = some ⟨[(.object "java/util/function/Function")], some (.object "java/util/Optional")⟩ := by decide +kernel
def Q2 (Z : State) (a1 : Addr) (x : Addr) (i : Int64) (o : Addr) (t : Addr) (kt : ClassId) (z : Int32) (aA : Addr) (cA : Cell) (ci : Addr) (u0 : Value) (u1 : Value) (u2 : Value) (h0 : Heap) (n0 : Nat) (v : Option Value) (h : Heap) (L : List Loc) (vm : Vm) : Prop := v = none ∧ Fr n0 L ∧ Keep h0 h [a1] ∧ Fld Z h a1 "com/example/libprorate/libprorate/core/ItemPrice" "included" "J" (.long i)
theorem ef_2 (m : MethodId) (a1 : Addr) (x : Addr) (i : Int64) (o : Addr) : entryFrame m #[(.ref a1), (.ref x), (.long i), (.ref o)] 5 = mkF m 0 #[.val (.ref a1), .val (.ref x), .val (.long i), .second, .val (.ref o)] [] := by first | (simp [entryFrame, mkF, argsToLocals, Value.category]; done) | (simp [entryFrame, mkF, argsToLocals, own_cat_i, own_cat_l, own_cat_r, own_cat_n]; done) | rfl
set_option maxRecDepth 65536 in
set_option maxHeartbeats 40000000 in
theorem rm2 (l : Launch) (Z : State) (a0 : Array Value) (hw : ∀ d ∈ tables_1, d.before a0 Z = true) (a1 : Addr) (x : Addr) (i : Int64) (o : Addr) (t : Addr) (kt : ClassId) (z : Int32) (aA : Addr) (cA : Cell) (ci : Addr) (u0 : Value) (u1 : Value) (u2 : Value) (h0 : Heap) (n0 : Nat) (Z0 : n0 ≤ h0.size) (PE_a1 : Exa Z h0 a1 "com/example/libprorate/libprorate/core/ItemPrice") (Pg_a1 : n0 ≤ a1) (PF_a1_item : Fld Z h0 a1 "com/example/libprorate/libprorate/core/ItemPrice" "item" "Ljava/lang/String;" u0) (PF_a1_included : Fld Z h0 a1 "com/example/libprorate/libprorate/core/ItemPrice" "included" "J" u1) (PF_a1_overagePrice : Fld Z h0 a1 "com/example/libprorate/libprorate/core/ItemPrice" "overagePrice" "Ljava/util/Optional;" u2) (PE_x : Exa Z h0 x "java/lang/String") (PF_x_value : Fld Z h0 x "java/lang/String" "value" "[B" (.ref t)) (PA_t : Arv Z h0 t kt .byte (5 : Int32) [(.int (115 : Int32)), (.int (101 : Int32)), (.int (97 : Int32)), (.int (116 : Int32)), (.int (115 : Int32))] (.int (0 : Int32))) (PS_java_lang_String_COMPACT_STRINGS : Sta Z h0 "java/lang/String" "COMPACT_STRINGS" "Z" (.int z)) (PF_x_coder : Fld Z h0 x "java/lang/String" "coder" "B" (.int (0 : Int32))) (PS_java_lang_CharacterDataLatin1_A : Sta Z h0 "java/lang/CharacterDataLatin1" "A" "[I" (.ref aA)) (PR_aA : Arr Z h0 aA cA .int) (PS_java_lang_CharacterDataLatin1_instance : Sta Z h0 "java/lang/CharacterDataLatin1" "instance" "Ljava/lang/CharacterDataLatin1;" (.ref ci)) (PE_ci : Exa Z h0 ci "java/lang/CharacterDataLatin1") (PF_o_value : Fld Z h0 o "java/util/Optional" "value" "Ljava/lang/Object;" .null) (PS_java_util_Optional_EMPTY : Sta Z h0 "java/util/Optional" "EMPTY" "Ljava/util/Optional;" (.ref o)) (PE_o : Exa Z h0 o "java/util/Optional") (hi : ¬ i < (0 : Int64)) (hz : ¬ z = 0) (hin : ¬ ((115 : Int32) < 0 ∨ cA.slots.size ≤ (115 : Int32).toNatClampNeg)) (hat : cA.slots[(115 : Int32).toNatClampNeg]? = some (.int (8486882 : Int32))) :
    MetW l Z (⟨"com/example/libprorate/libprorate/core/ItemPrice", "<init>", "(Ljava/lang/String;JLjava/util/Optional;)V"⟩ : MethodName) prog_54_method_1_code 5 none ({ frames := 5, cells := 4, slots := 72, locals := 3073 } : Room) #[(.ref a1), (.ref x), (.long i), (.ref o)] h0 (fun _ => True) (Q2 Z a1 x i o t kt z aA cA ci u0 u1 u2 h0 n0) := by
  refine MetW.mk (plainFor_of_name (by first | (simp [plainName, overriddenIn]; done) | decide +kernel)) ?_
  intro p e s m below meth c s₁ vm0 hx hZ hby hml hown hnm hret hlk X0 e0 hS hh hnamed hJ
  have N0 := Fr.nil n0
  refine Go.cast (ef_2 m a1 x i o) ?_
  show Go p e below (FinW s (Q2 Z a1 x i o t kt z aA cA ci u0 u1 u2 h0 n0) ({ frames := 5, cells := 4, slots := 72, locals := 3073 } : Room).cells ({ frames := 5, cells := 4, slots := 72, locals := 3073 } : Room).slots) s₁ (mkF m 0 #[.val (.ref a1), .val (.ref x), .val (.long i), .second, .val (.ref o)] [])
  refine Go.to (mkF m 1 #[.val (.ref a1), .val (.ref x), .val (.long i), .second, .val (.ref o)] [(.ref a1)]) (fun _ k => XS.aloadN X0.here hx rfl (hb hby d2_0) rfl rfl k) ?_
  refine Go.special X0 hx hZ (y := (⟨"java/lang/Record", "<init>", "()V"⟩ : MethodName)) rfl hown (hw _ (List.mem_of_getElem? (i := 20) rfl)) (hw _ (List.mem_of_getElem? (i := 21) rfl)) (hw _ (List.mem_of_getElem? (i := 24) rfl)) (by decide) e0 (a := a1) (argsL := []) (rest := []) (Met1.back (W := 0) (rm3 l Z a0 hw a1 h0 n0 Z0) hZ (hw _ (List.mem_of_getElem? (i := 24) rfl)) (hw _ (List.mem_of_getElem? (i := 23) rfl)) (by decide) (by decide)) (pc := 1) (Ls := #[.val (.ref a1), .val (.ref x), .val (.long i), .second, .val (.ref o)]) (by rw [hml]; rfl) (lenOf own_pd9 rfl) rfl (Nat.le_refl _) (hb hby d2_1) (by decide) (by decide) ?_
  intro T_1 v_1 L_1 X_1 hQ_1
  obtain ⟨rfl, Nq_1, hh_1⟩ := hQ_1
  have N_1 := Fr.app N0 Nq_1
  show Go p e below (FinW s (Q2 Z a1 x i o t kt z aA cA ci u0 u1 u2 h0 n0) ({ frames := 5, cells := 4, slots := 72, locals := 3073 } : Room).cells ({ frames := 5, cells := 4, slots := 72, locals := 3073 } : Room).slots) T_1 (mkF m 4 #[.val (.ref a1), .val (.ref x), .val (.long i), .second, .val (.ref o)] [])
  refine Go.to (mkF m 5 #[.val (.ref a1), .val (.ref x), .val (.long i), .second, .val (.ref o)] [(.ref x)]) (fun _ k => XS.aloadN X_1.here hx rfl (hb hby d2_4) rfl rfl k) ?_
  obtain ⟨a_2, T_2, h_2, kk_2, X_2, e_2, E_2, hS_2, hk_2, hZ_2, hown_2, st_2⟩ := ldcS X_1 hx hZ hown (hw _ (List.mem_of_getElem? (i := 28) rfl)) (own_wS hw) hh_1 hS (Nat.zero_le _) (g := (mkF m 5 #[.val (.ref a1), .val (.ref x), .val (.long i), .second, .val (.ref o)] [(.ref x)])) rfl (hb hby d2_5) (n := 16) (by decide) (by decide) (by decide) (by decide)
  refine Go.to (mkF m 7 #[.val (.ref a1), .val (.ref x), .val (.long i), .second, .val (.ref o)] [(.ref a_2), (.ref x)]) st_2 ?_
  have f_3 : n0 ≤ h_2.size := (Nat.le_trans Z0 E_2.1)
  refine Go.stat X_2 hx hZ_2 (y := (⟨"java/util/Objects", "requireNonNull", "(Ljava/lang/Object;Ljava/lang/String;)Ljava/lang/Object;"⟩ : MethodName)) hown_2 (hw _ (List.mem_of_getElem? (i := 29) rfl)) (hw _ (List.mem_of_getElem? (i := 30) rfl)) (hw _ (List.mem_of_getElem? (i := 31) rfl)) (hw _ (List.mem_of_getElem? (i := 32) rfl)) (by decide) e_2 (argsL := [(.ref x), (.ref a_2)]) (rest := []) (Met1.back (W := 0) (rm5 l Z a0 hw x a_2 h_2 n0 f_3) hZ_2 (hw _ (List.mem_of_getElem? (i := 32) rfl)) (hw _ (List.mem_of_getElem? (i := 31) rfl)) (by decide) (by decide)) (pc := 7) (Ls := #[.val (.ref a1), .val (.ref x), .val (.long i), .second, .val (.ref o)]) (by rw [hml]; rfl) (lenOf own_pd10 rfl) rfl (Nat.le_refl _) (hb hby d2_7) (by decide) (by decide) ?_
  intro T_4 v_4 L_4 X_4 hQ_4
  obtain ⟨rfl, Nq_4, hh_4⟩ := hQ_4
  have N_4 := Fr.app N_1 Nq_4
  show Go p e below (FinW s (Q2 Z a1 x i o t kt z aA cA ci u0 u1 u2 h0 n0) ({ frames := 5, cells := 4, slots := 72, locals := 3073 } : Room).cells ({ frames := 5, cells := 4, slots := 72, locals := 3073 } : Room).slots) T_4 (mkF m 10 #[.val (.ref a1), .val (.ref x), .val (.long i), .second, .val (.ref o)] [(.ref x)])
  refine Go.to (mkF m 11 #[.val (.ref a1), .val (.ref x), .val (.long i), .second, .val (.ref o)] []) (fun _ k => XS.pop X_4.here hx rfl (hb hby d2_10) rfl rfl k) ?_
  refine Go.to (mkF m 13 #[.val (.ref a1), .val (.ref x), .val (.long i), .second, .val (.ref o)] [(.ref o)]) (fun _ k => XS.aload X_4.here hx rfl (hb hby d2_11) rfl rfl k) ?_
  obtain ⟨a_5, T_5, h_5, kk_5, X_5, e_5, E_5, hS_5, hk_5, hZ_5, hown_5, st_5⟩ := ldcS X_4 hx hZ_2 hown_2 (hw _ (List.mem_of_getElem? (i := 33) rfl)) (own_wS hw) hh_4 hS_2 hk_2 (g := (mkF m 13 #[.val (.ref a1), .val (.ref x), .val (.long i), .second, .val (.ref o)] [(.ref o)])) rfl (hb hby d2_13) (n := 48) (by decide) (by decide) (by decide) (by decide)
  refine Go.to (mkF m 15 #[.val (.ref a1), .val (.ref x), .val (.long i), .second, .val (.ref o)] [(.ref a_5), (.ref o)]) st_5 ?_
  have f_6 : n0 ≤ h_5.size := (Nat.le_trans f_3 E_5.1)
  refine Go.stat X_5 hx hZ_5 (y := (⟨"java/util/Objects", "requireNonNull", "(Ljava/lang/Object;Ljava/lang/String;)Ljava/lang/Object;"⟩ : MethodName)) hown_5 (hw _ (List.mem_of_getElem? (i := 29) rfl)) (hw _ (List.mem_of_getElem? (i := 30) rfl)) (hw _ (List.mem_of_getElem? (i := 31) rfl)) (hw _ (List.mem_of_getElem? (i := 32) rfl)) (by decide) e_5 (argsL := [(.ref o), (.ref a_5)]) (rest := []) (Met1.back (W := 0) (rm5 l Z a0 hw o a_5 h_5 n0 f_6) hZ_5 (hw _ (List.mem_of_getElem? (i := 32) rfl)) (hw _ (List.mem_of_getElem? (i := 31) rfl)) (by decide) (by decide)) (pc := 15) (Ls := #[.val (.ref a1), .val (.ref x), .val (.long i), .second, .val (.ref o)]) (by rw [hml]; rfl) (lenOf own_pd10 rfl) rfl (Nat.le_refl _) (hb hby d2_15) (by decide) (by decide) ?_
  intro T_7 v_7 L_7 X_7 hQ_7
  obtain ⟨rfl, Nq_7, hh_7⟩ := hQ_7
  have N_7 := Fr.app N_4 Nq_7
  show Go p e below (FinW s (Q2 Z a1 x i o t kt z aA cA ci u0 u1 u2 h0 n0) ({ frames := 5, cells := 4, slots := 72, locals := 3073 } : Room).cells ({ frames := 5, cells := 4, slots := 72, locals := 3073 } : Room).slots) T_7 (mkF m 18 #[.val (.ref a1), .val (.ref x), .val (.long i), .second, .val (.ref o)] [(.ref o)])
  refine Go.to (mkF m 19 #[.val (.ref a1), .val (.ref x), .val (.long i), .second, .val (.ref o)] []) (fun _ k => XS.pop X_7.here hx rfl (hb hby d2_18) rfl rfl k) ?_
  refine Go.to (mkF m 20 #[.val (.ref a1), .val (.ref x), .val (.long i), .second, .val (.ref o)] [(.ref x)]) (fun _ k => XS.aloadN X_7.here hx rfl (hb hby d2_19) rfl rfl k) ?_
  have f_8 : Exa Z h_5 x "java/lang/String" := ((PE_x.ext E_2).ext E_5)
  have f_9 : Fld Z h_5 x "java/lang/String" "value" "[B" (.ref t) := ((PF_x_value.ext E_2).ext E_5)
  have f_10 : Arv Z h_5 t kt .byte (5 : Int32) [(.int (115 : Int32)), (.int (101 : Int32)), (.int (97 : Int32)), (.int (116 : Int32)), (.int (115 : Int32))] (.int (0 : Int32)) := ((PA_t.ext E_2).ext E_5)
  have f_11 : Sta Z h_5 "java/lang/String" "COMPACT_STRINGS" "Z" (.int z) := ((PS_java_lang_String_COMPACT_STRINGS.ext E_2).ext E_5)
  have f_12 : Fld Z h_5 x "java/lang/String" "coder" "B" (.int (0 : Int32)) := ((PF_x_coder.ext E_2).ext E_5)
  have f_13 : Sta Z h_5 "java/lang/CharacterDataLatin1" "A" "[I" (.ref aA) := ((PS_java_lang_CharacterDataLatin1_A.ext E_2).ext E_5)
  have f_14 : Arr Z h_5 aA cA .int := ((PR_aA.ext E_2).ext E_5)
  have f_15 : Sta Z h_5 "java/lang/CharacterDataLatin1" "instance" "Ljava/lang/CharacterDataLatin1;" (.ref ci) := ((PS_java_lang_CharacterDataLatin1_instance.ext E_2).ext E_5)
  have f_16 : Exa Z h_5 ci "java/lang/CharacterDataLatin1" := ((PE_ci.ext E_2).ext E_5)
  refine Go.virt X_7 hx hZ_5 (y := (⟨"java/lang/String", "isBlank", "()Z"⟩ : MethodName)) (z := (⟨"java/lang/String", "isBlank", "()Z"⟩ : MethodName)) hown_5 (hw _ (List.mem_of_getElem? (i := 34) rfl)) (hw _ (List.mem_of_getElem? (i := 35) rfl)) (notFace_of_selects (args := #[]) (mvT hZ_5 (hw _ (List.mem_of_getElem? (i := 37) rfl)))) (hw _ (List.mem_of_getElem? (i := 37) rfl)) (hw _ (List.mem_of_getElem? (i := 36) rfl)) (by decide) hh_7 (a := x) f_8 (argsL := []) (rest := []) (Met1.back (W := 0) (rm6 l Z a0 hw x t kt z aA cA ci h_5 n0 f_6 f_8 f_9 f_10 f_11 f_12 f_13 f_14 f_15 f_16 hz hin hat) hZ_5 (hw _ (List.mem_of_getElem? (i := 38) rfl)) (hw _ (List.mem_of_getElem? (i := 5) rfl)) (by decide) (by decide)) (pc := 20) (Ls := #[.val (.ref a1), .val (.ref x), .val (.long i), .second, .val (.ref o)]) (by rw [hml]; rfl) (lenOf own_pd4 rfl) rfl (Nat.le_refl _) (hb hby d2_20) (by decide) (by decide) ?_
  intro T_17 v_17 L_17 X_17 hQ_17
  obtain ⟨rfl, Nq_17, hh_17⟩ := hQ_17
  have N_17 := Fr.app N_7 Nq_17
  show Go p e below (FinW s (Q2 Z a1 x i o t kt z aA cA ci u0 u1 u2 h0 n0) ({ frames := 5, cells := 4, slots := 72, locals := 3073 } : Room).cells ({ frames := 5, cells := 4, slots := 72, locals := 3073 } : Room).slots) T_17 (mkF m 23 #[.val (.ref a1), .val (.ref x), .val (.long i), .second, .val (.ref o)] [(.int (0 : Int32))])
  refine Go.to (mkF m 36 #[.val (.ref a1), .val (.ref x), .val (.long i), .second, .val (.ref o)] []) (fun _ k => XS.ifYes X_17.here hx rfl (pc0 := 23) (pc' := 36) rfl (hb hby d2_23) rfl ((if0 _ _).trans (teq (by decide : (0 : Int32) = (0 : Int32))).1) (by decide) (by decide) k) ?_
  refine Go.to (mkF m 37 #[.val (.ref a1), .val (.ref x), .val (.long i), .second, .val (.ref o)] [(.long i)]) (fun _ k => XS.lloadN X_17.here hx rfl (hb hby d2_36) rfl  k) ?_
  refine Go.to (mkF m 38 #[.val (.ref a1), .val (.ref x), .val (.long i), .second, .val (.ref o)] [(.long (0 : Int64)), (.long i)]) (fun _ k => XS.lconst X_17.here hx rfl (hb hby d2_37) k) ?_
  refine Go.to (mkF m 39 #[.val (.ref a1), .val (.ref x), .val (.long i), .second, .val (.ref o)] [(.int (lcmpW i (0 : Int64)))]) (fun _ k => XS.lcmp X_17.here hx rfl (hb hby d2_38) rfl k) ?_
  refine Go.to (mkF m 57 #[.val (.ref a1), .val (.ref x), .val (.long i), .second, .val (.ref o)] []) (fun _ k => XS.ifYes X_17.here hx rfl (pc0 := 39) (pc' := 57) rfl (hb hby d2_39) rfl ((if0 _ _).trans (flt (fun q => hi ((lw_lt _ _).mp q))).2.1) (by decide) (by decide) k) ?_
  refine Go.to (mkF m 59 #[.val (.ref a1), .val (.ref x), .val (.long i), .second, .val (.ref o)] [(.ref o)]) (fun _ k => XS.aload X_17.here hx rfl (hb hby d2_57) rfl rfl k) ?_
  have f_18 : Fld Z h_5 o "java/util/Optional" "value" "Ljava/lang/Object;" .null := ((PF_o_value.ext E_2).ext E_5)
  have f_19 : Exa Z h_5 o "java/util/Optional" := ((PE_o.ext E_2).ext E_5)
  refine Go.virt X_17 hx hZ_5 (y := (⟨"java/util/Optional", "isPresent", "()Z"⟩ : MethodName)) (z := (⟨"java/util/Optional", "isPresent", "()Z"⟩ : MethodName)) hown_5 (hw _ (List.mem_of_getElem? (i := 82) rfl)) (hw _ (List.mem_of_getElem? (i := 83) rfl)) (notFace_of_selects (args := #[]) (mvT hZ_5 (hw _ (List.mem_of_getElem? (i := 85) rfl)))) (hw _ (List.mem_of_getElem? (i := 85) rfl)) (hw _ (List.mem_of_getElem? (i := 84) rfl)) (by decide) hh_17 (a := o) f_19 (argsL := []) (rest := []) (Met1.back (W := 0) (rm15 l Z a0 hw o h_5 n0 f_6 f_18) hZ_5 (hw _ (List.mem_of_getElem? (i := 86) rfl)) (hw _ (List.mem_of_getElem? (i := 14) rfl)) (by decide) (by decide)) (pc := 59) (Ls := #[.val (.ref a1), .val (.ref x), .val (.long i), .second, .val (.ref o)]) (by rw [hml]; rfl) (lenOf own_pd4 rfl) rfl (Nat.le_refl _) (hb hby d2_59) (by decide) (by decide) ?_
  intro T_20 v_20 L_20 X_20 hQ_20
  obtain ⟨rfl, Nq_20, hh_20⟩ := hQ_20
  have N_20 := Fr.app N_17 Nq_20
  show Go p e below (FinW s (Q2 Z a1 x i o t kt z aA cA ci u0 u1 u2 h0 n0) ({ frames := 5, cells := 4, slots := 72, locals := 3073 } : Room).cells ({ frames := 5, cells := 4, slots := 72, locals := 3073 } : Room).slots) T_20 (mkF m 62 #[.val (.ref a1), .val (.ref x), .val (.long i), .second, .val (.ref o)] [(.int (0 : Int32))])
  refine Go.to (mkF m 101 #[.val (.ref a1), .val (.ref x), .val (.long i), .second, .val (.ref o)] []) (fun _ k => XS.ifYes X_20.here hx rfl (pc0 := 62) (pc' := 101) rfl (hb hby d2_62) rfl ((if0 _ _).trans (teq (by decide : (0 : Int32) = (0 : Int32))).1) (by decide) (by decide) k) ?_
  refine Go.to (mkF m 103 #[.val (.ref a1), .val (.ref x), .val (.long i), .second, .val (.ref o)] [(.ref o)]) (fun _ k => XS.aload X_20.here hx rfl (hb hby d2_101) rfl rfl k) ?_
  obtain ⟨a_21, st_21⟩ := own_lambda X_20 hx hZ_5 hnamed (hw _ (List.mem_of_getElem? (i := 89) rfl)) rfl (g := (mkF m 103 #[.val (.ref a1), .val (.ref x), .val (.long i), .second, .val (.ref o)] [(.ref o)])) rfl rfl (by rw [hml]; rfl) (hb hby d2_103) (by show 2 * 0 + 1 + 3072 ≤ ({ frames := 5, cells := 4, slots := 72, locals := 3073 } : Room).locals; decide)
  refine Go.to (mkF m 108 #[.val (.ref a1), .val (.ref x), .val (.long i), .second, .val (.ref o)] [(.ref a_21), (.ref o)]) st_21 ?_
  have f_22 : Sta Z h_5 "java/util/Optional" "EMPTY" "Ljava/util/Optional;" (.ref o) := ((PS_java_util_Optional_EMPTY.ext E_2).ext E_5)
  refine Go.virt X_20 hx hZ_5 (y := (⟨"java/util/Optional", "map", "(Ljava/util/function/Function;)Ljava/util/Optional;"⟩ : MethodName)) (z := (⟨"java/util/Optional", "map", "(Ljava/util/function/Function;)Ljava/util/Optional;"⟩ : MethodName)) hown_5 (hw _ (List.mem_of_getElem? (i := 92) rfl)) (hw _ (List.mem_of_getElem? (i := 93) rfl)) (notFace_of_selects (args := #[]) (mvT hZ_5 (hw _ (List.mem_of_getElem? (i := 95) rfl)))) (hw _ (List.mem_of_getElem? (i := 95) rfl)) (hw _ (List.mem_of_getElem? (i := 94) rfl)) (by decide) hh_20 (a := o) f_19 (argsL := [(.ref a_21)]) (rest := []) (Met1.back (W := 0) (rm16 l Z a0 hw o a_21 h_5 n0 f_6 f_18 f_22 f_19) hZ_5 (hw _ (List.mem_of_getElem? (i := 96) rfl)) (hw _ (List.mem_of_getElem? (i := 14) rfl)) (by decide) (by decide)) (pc := 108) (Ls := #[.val (.ref a1), .val (.ref x), .val (.long i), .second, .val (.ref o)]) (by rw [hml]; rfl) (lenOf own_pd11 rfl) rfl (Nat.le_refl _) (hb hby d2_108) (by decide) (by decide) ?_
  intro T_23 v_23 L_23 X_23 hQ_23
  obtain ⟨rfl, Nq_23, hh_23⟩ := hQ_23
  have N_23 := Fr.app N_20 Nq_23
  show Go p e below (FinW s (Q2 Z a1 x i o t kt z aA cA ci u0 u1 u2 h0 n0) ({ frames := 5, cells := 4, slots := 72, locals := 3073 } : Room).cells ({ frames := 5, cells := 4, slots := 72, locals := 3073 } : Room).slots) T_23 (mkF m 111 #[.val (.ref a1), .val (.ref x), .val (.long i), .second, .val (.ref o)] [(.ref o)])
  refine Go.to (mkF m 113 #[.val (.ref a1), .val (.ref x), .val (.long i), .second, .val (.ref o)] []) (fun _ k => XS.astore X_23.here hx rfl (hb hby d2_111) rfl rfl (l' := #[.val (.ref a1), .val (.ref x), .val (.long i), .second, .val (.ref o)]) rfl k) ?_
  refine Go.to (mkF m 114 #[.val (.ref a1), .val (.ref x), .val (.long i), .second, .val (.ref o)] [(.ref a1)]) (fun _ k => XS.aloadN X_23.here hx rfl (hb hby d2_113) rfl rfl k) ?_
  refine Go.to (mkF m 115 #[.val (.ref a1), .val (.ref x), .val (.long i), .second, .val (.ref o)] [(.ref x), (.ref a1)]) (fun _ k => XS.aloadN X_23.here hx rfl (hb hby d2_114) rfl rfl k) ?_
  have f_24 : Exa Z h_5 a1 "com/example/libprorate/libprorate/core/ItemPrice" := ((PE_a1.ext E_2).ext E_5)
  have f_25 : Fld Z h_5 a1 "com/example/libprorate/libprorate/core/ItemPrice" "item" "Ljava/lang/String;" u0 := ((PF_a1_item.ext E_2).ext E_5)
  obtain ⟨T_26, h_26, X_26, e_26, W_26, st_26⟩ := putF X_23 hx hZ_5 hown_5 (host := "") (Or.inl (hw _ (List.mem_of_getElem? (i := 106) rfl))) Via.refl hh_23 f_25 f_24 (Or.inr ⟨(hw _ (List.mem_of_getElem? (i := 107) rfl)), rfl, hnm⟩) (hw _ (List.mem_of_getElem? (i := 2) rfl)) (ty := (.object "java/lang/String")) (by decide) rfl rfl (g := (mkF m 115 #[.val (.ref a1), .val (.ref x), .val (.long i), .second, .val (.ref o)] [(.ref x), (.ref a1)])) rfl rfl (hb hby d2_115)
  have N_26 := Fr.snoc X_26 N_23 Pg_a1
  have Fw_26 : Fld Z h_26 a1 "com/example/libprorate/libprorate/core/ItemPrice" "item" "Ljava/lang/String;" (.ref x) := f_25.same W_26
  refine Go.to (mkF m 118 #[.val (.ref a1), .val (.ref x), .val (.long i), .second, .val (.ref o)] []) st_26 ?_
  refine Go.to (mkF m 119 #[.val (.ref a1), .val (.ref x), .val (.long i), .second, .val (.ref o)] [(.ref a1)]) (fun _ k => XS.aloadN X_26.here hx rfl (hb hby d2_118) rfl rfl k) ?_
  refine Go.to (mkF m 120 #[.val (.ref a1), .val (.ref x), .val (.long i), .second, .val (.ref o)] [(.long i), (.ref a1)]) (fun _ k => XS.lloadN X_26.here hx rfl (hb hby d2_119) rfl  k) ?_
  have f_27 : Exa Z h_26 a1 "com/example/libprorate/libprorate/core/ItemPrice" := (f_24.wr W_26)
  have f_28 : Fld Z h_26 a1 "com/example/libprorate/libprorate/core/ItemPrice" "included" "J" u1 := (((PF_a1_included.ext E_2).ext E_5).other W_26 (Or.inr (slot_ne (Or.inr (hw _ (List.mem_of_getElem? (i := 109) rfl))) (Or.inr (hw _ (List.mem_of_getElem? (i := 107) rfl))) (by decide) (t := .long) (t' := (.object "java/lang/String")) (by decide) (by decide))))
  obtain ⟨T_29, h_29, X_29, e_29, W_29, st_29⟩ := putF X_26 hx hZ_5 hown_5 (host := "") (Or.inl (hw _ (List.mem_of_getElem? (i := 108) rfl))) Via.refl e_26 f_28 f_27 (Or.inr ⟨(hw _ (List.mem_of_getElem? (i := 109) rfl)), rfl, hnm⟩) (hw _ (List.mem_of_getElem? (i := 2) rfl)) (ty := .long) (by decide) rfl rfl (g := (mkF m 120 #[.val (.ref a1), .val (.ref x), .val (.long i), .second, .val (.ref o)] [(.long i), (.ref a1)])) rfl rfl (hb hby d2_120)
  have N_29 := Fr.snoc X_29 N_26 Pg_a1
  have Fw_29 : Fld Z h_29 a1 "com/example/libprorate/libprorate/core/ItemPrice" "included" "J" (.long i) := f_28.same W_29
  refine Go.to (mkF m 123 #[.val (.ref a1), .val (.ref x), .val (.long i), .second, .val (.ref o)] []) st_29 ?_
  refine Go.to (mkF m 124 #[.val (.ref a1), .val (.ref x), .val (.long i), .second, .val (.ref o)] [(.ref a1)]) (fun _ k => XS.aloadN X_29.here hx rfl (hb hby d2_123) rfl rfl k) ?_
  refine Go.to (mkF m 126 #[.val (.ref a1), .val (.ref x), .val (.long i), .second, .val (.ref o)] [(.ref o), (.ref a1)]) (fun _ k => XS.aload X_29.here hx rfl (hb hby d2_124) rfl rfl k) ?_
  have f_30 : Exa Z h_29 a1 "com/example/libprorate/libprorate/core/ItemPrice" := (f_27.wr W_29)
  have f_31 : Fld Z h_29 a1 "com/example/libprorate/libprorate/core/ItemPrice" "overagePrice" "Ljava/util/Optional;" u2 := ((((PF_a1_overagePrice.ext E_2).ext E_5).other W_26 (Or.inr (slot_ne (Or.inr (hw _ (List.mem_of_getElem? (i := 111) rfl))) (Or.inr (hw _ (List.mem_of_getElem? (i := 107) rfl))) (by decide) (t := (.object "java/util/Optional")) (t' := (.object "java/lang/String")) (by decide) (by decide)))).other W_29 (Or.inr (slot_ne (Or.inr (hw _ (List.mem_of_getElem? (i := 111) rfl))) (Or.inr (hw _ (List.mem_of_getElem? (i := 109) rfl))) (by decide) (t := (.object "java/util/Optional")) (t' := .long) (by decide) (by decide))))
  obtain ⟨T_32, h_32, X_32, e_32, W_32, st_32⟩ := putF X_29 hx hZ_5 hown_5 (host := "") (Or.inl (hw _ (List.mem_of_getElem? (i := 110) rfl))) Via.refl e_29 f_31 f_30 (Or.inr ⟨(hw _ (List.mem_of_getElem? (i := 111) rfl)), rfl, hnm⟩) (hw _ (List.mem_of_getElem? (i := 2) rfl)) (ty := (.object "java/util/Optional")) (by decide) rfl rfl (g := (mkF m 126 #[.val (.ref a1), .val (.ref x), .val (.long i), .second, .val (.ref o)] [(.ref o), (.ref a1)])) rfl rfl (hb hby d2_126)
  have N_32 := Fr.snoc X_32 N_29 Pg_a1
  have Fw_32 : Fld Z h_32 a1 "com/example/libprorate/libprorate/core/ItemPrice" "overagePrice" "Ljava/util/Optional;" (.ref o) := f_31.same W_32
  refine Go.to (mkF m 129 #[.val (.ref a1), .val (.ref x), .val (.long i), .second, .val (.ref o)] []) st_32 ?_
  have f_33 : kk_5 ≤ h_32.size := (Nat.le_trans (Nat.le_trans (Nat.le_trans hk_5 (Keep.of_wr W_26).1) (Keep.of_wr W_29).1) (Keep.of_wr W_32).1)
  refine Go.ret0W X_32 hx hret hlk (hb hby d2_129) (by decide) (by decide) hS_5 (by rw [e_32]; exact f_33) ?_
  have f_34 : Keep h0 h_32 [a1] := ((((((Keep.refl h0 [a1]).ext E_2).ext E_5).wr W_26 (Or.inl (List.mem_of_getElem? (i := 0) rfl))).wr W_29 (Or.inl (List.mem_of_getElem? (i := 0) rfl))).wr W_32 (Or.inl (List.mem_of_getElem? (i := 0) rfl)))
  have f_35 : Fld Z h_32 a1 "com/example/libprorate/libprorate/core/ItemPrice" "included" "J" (.long i) := (Fw_29.other W_32 (Or.inr (slot_ne (Or.inr (hw _ (List.mem_of_getElem? (i := 109) rfl))) (Or.inr (hw _ (List.mem_of_getElem? (i := 111) rfl))) (by decide) (t := .long) (t' := (.object "java/util/Optional")) (by decide) (by decide))))
  show (Q2 Z a1 x i o t kt z aA cA ci u0 u1 u2 h0 n0) _ T_32.heap _ _
  rw [e_32]
  exact ⟨rfl, N_32, f_34, f_35⟩
theorem own_pd12 : parseMethodDescriptor "(JJ)J" = some ⟨[.long, .long], some .long⟩ := by decide +kernel
def Q19 (Z : State) (a1 : Addr) (q : Int64) (i : Int64) (h0 : Heap) (n0 : Nat) (v : Option Value) (h : Heap) (L : List Loc) : Prop := v = some (.long (own_max (0 : Int64) (q - i))) ∧ Fr n0 L ∧ h = h0
theorem ef_19 (m : MethodId) (a1 : Addr) (q : Int64) : entryFrame m #[(.ref a1), (.long q)] 3 = mkF m 0 #[.val (.ref a1), .val (.long q), .second] [] := by first | (simp [entryFrame, mkF, argsToLocals, Value.category]; done) | (simp [entryFrame, mkF, argsToLocals, own_cat_i, own_cat_l, own_cat_r, own_cat_n]; done) | rfl
set_option maxRecDepth 65536 in
set_option maxHeartbeats 40000000 in
theorem rm19 (l : Launch) (Z : State) (a0 : Array Value) (hw : ∀ d ∈ tables_1, d.before a0 Z = true) (a1 : Addr) (q : Int64) (i : Int64) (h0 : Heap) (n0 : Nat) (Z0 : n0 ≤ h0.size) (PF_a1_included : Fld Z h0 a1 "com/example/libprorate/libprorate/core/ItemPrice" "included" "J" (.long i)) (hq : ¬ q < (0 : Int64)) :
    Met1 l Z (⟨"com/example/libprorate/libprorate/core/ItemPrice", "unitsOver", "(J)J"⟩ : MethodName) prog_54_method_2_code 3 (some .long) ({ frames := 1, cells := 0, slots := 0, locals := 15 } : Room) #[(.ref a1), (.long q)] h0 (Q19 Z a1 q i h0 n0) := by
  refine Met1.mk (plainFor_of_name (by first | (simp [plainName, overriddenIn]; done) | decide +kernel)) ?_
  intro p e s m below meth c s₁ hx hZ hby hml hown hnm hret hlk X0 e0
  have N0 := Fr.nil n0
  refine Go.cast (ef_19 m a1 q) ?_
  show Go p e below (FinN s (Q19 Z a1 q i h0 n0) ({ frames := 1, cells := 0, slots := 0, locals := 15 } : Room).cells ({ frames := 1, cells := 0, slots := 0, locals := 15 } : Room).slots) s₁ (mkF m 0 #[.val (.ref a1), .val (.long q), .second] [])
  refine Go.to (mkF m 1 #[.val (.ref a1), .val (.long q), .second] [(.long q)]) (fun _ k => XS.lloadN X0.here hx rfl (hb hby d19_0) rfl  k) ?_
  refine Go.to (mkF m 2 #[.val (.ref a1), .val (.long q), .second] [(.long (0 : Int64)), (.long q)]) (fun _ k => XS.lconst X0.here hx rfl (hb hby d19_1) k) ?_
  refine Go.to (mkF m 3 #[.val (.ref a1), .val (.long q), .second] [(.int (lcmpW q (0 : Int64)))]) (fun _ k => XS.lcmp X0.here hx rfl (hb hby d19_2) rfl k) ?_
  refine Go.to (mkF m 24 #[.val (.ref a1), .val (.long q), .second] []) (fun _ k => XS.ifYes X0.here hx rfl (pc0 := 3) (pc' := 24) rfl (hb hby d19_3) rfl ((if0 _ _).trans (flt (fun q => hq ((lw_lt _ _).mp q))).2.1) (by decide) (by decide) k) ?_
  refine Go.to (mkF m 25 #[.val (.ref a1), .val (.long q), .second] [(.long (0 : Int64))]) (fun _ k => XS.lconst X0.here hx rfl (hb hby d19_24) k) ?_
  refine Go.to (mkF m 26 #[.val (.ref a1), .val (.long q), .second] [(.long q), (.long (0 : Int64))]) (fun _ k => XS.lloadN X0.here hx rfl (hb hby d19_25) rfl  k) ?_
  refine Go.to (mkF m 27 #[.val (.ref a1), .val (.long q), .second] [(.ref a1), (.long q), (.long (0 : Int64))]) (fun _ k => XS.aloadN X0.here hx rfl (hb hby d19_26) rfl rfl k) ?_
  obtain ⟨T_1, X_1, e_1, st_1⟩ := getF X0 hx hZ hown (host := "") (Or.inl (hw _ (List.mem_of_getElem? (i := 108) rfl))) Via.refl e0 PF_a1_included (g := (mkF m 27 #[.val (.ref a1), .val (.long q), .second] [(.ref a1), (.long q), (.long (0 : Int64))])) rfl rfl (hb hby d19_27)
  refine Go.to (mkF m 30 #[.val (.ref a1), .val (.long q), .second] [(.long i), (.long q), (.long (0 : Int64))]) st_1 ?_
  refine Go.to (mkF m 31 #[.val (.ref a1), .val (.long q), .second] [(.long (q - i)), (.long (0 : Int64))]) (fun _ k => XS.lsub X_1.here hx rfl (hb hby d19_30) rfl k) ?_
  refine Go.stat X_1 hx hZ (y := (⟨"java/lang/Math", "max", "(JJ)J"⟩ : MethodName)) hown (hw _ (List.mem_of_getElem? (i := 117) rfl)) (hw _ (List.mem_of_getElem? (i := 118) rfl)) (hw _ (List.mem_of_getElem? (i := 119) rfl)) (hw _ (List.mem_of_getElem? (i := 120) rfl)) (by decide) e_1 (argsL := [(.long (0 : Int64)), (.long (q - i))]) (rest := []) (Met1.back (W := 0) (rm20 l Z a0 hw (0 : Int64) (q - i) h0 n0 Z0) hZ (hw _ (List.mem_of_getElem? (i := 120) rfl)) (hw _ (List.mem_of_getElem? (i := 119) rfl)) (by decide) (by decide)) (pc := 31) (Ls := #[.val (.ref a1), .val (.long q), .second]) (by rw [hml]; rfl) (lenOf own_pd12 rfl) rfl (Nat.le_refl _) (hb hby d19_31) (by decide) (by decide) ?_
  intro T_2 v_2 L_2 X_2 hQ_2
  obtain ⟨rfl, Nq_2, hh_2⟩ := hQ_2
  have N_2 := Fr.app N0 Nq_2
  show Go p e below (FinN s (Q19 Z a1 q i h0 n0) ({ frames := 1, cells := 0, slots := 0, locals := 15 } : Room).cells ({ frames := 1, cells := 0, slots := 0, locals := 15 } : Room).slots) T_2 (mkF m 34 #[.val (.ref a1), .val (.long q), .second] [(.long (own_max (0 : Int64) (q - i)))])
  refine Go.retL X_2 hx hret hlk (hb hby d19_34) (by decide) (by decide) ?_
  show (Q19 Z a1 q i h0 n0) _ T_2.heap _
  rw [hh_2]
  exact ⟨rfl, N_2, rfl⟩
theorem own_pd13 : parseMethodDescriptor "(Ljava/lang/String;JLjava/util/Optional;)V" = some ⟨[(.object "java/lang/String"), .long, (.object "java/util/Optional")], none⟩ := by decide +kernel
theorem own_pd14 : parseMethodDescriptor "(J)J" = some ⟨[.long], some .long⟩ := by decide +kernel
def Q0 (Z : State) (p1 : Int64) (p2 : Int64) (p3 : Int32) (o : Addr) (z : Int32) (aA : Addr) (cA : Cell) (ci : Addr) (h0 : Heap) (n0 : Nat) (v : Option Value) (h : Heap) (L : List Loc) (vm : Vm) : Prop := v = some (.int (1 : Int32)) ∧ Fr n0 L
theorem ef_0 (m : MethodId) (p1 : Int64) (p2 : Int64) (p3 : Int32) : entryFrame m #[(.long p1), (.long p2), (.int p3)] maxLocals = mkF m 0 #[.val (.long p1), .second, .val (.long p2), .second, .val (.int p3), .unset, .unset, .unset, .unset, .unset, .unset, .unset, .unset, .unset, .unset] [] := by first | (simp [entryFrame, mkF, argsToLocals, Value.category, maxLocals]; done) | (simp [entryFrame, mkF, argsToLocals, own_cat_i, own_cat_l, own_cat_r, own_cat_n, maxLocals]; done) | rfl
set_option maxRecDepth 65536 in
set_option maxHeartbeats 40000000 in
theorem rm0 (l : Launch) (Z : State) (a0 : Array Value) (hw : ∀ d ∈ tables_1, d.before a0 Z = true) (p1 : Int64) (p2 : Int64) (p3 : Int32) (o : Addr) (z : Int32) (aA : Addr) (cA : Cell) (ci : Addr) (h0 : Heap) (n0 : Nat) (Z0 : n0 ≤ h0.size) (PS_java_lang_String_COMPACT_STRINGS : Sta Z h0 "java/lang/String" "COMPACT_STRINGS" "Z" (.int z)) (PS_java_lang_CharacterDataLatin1_A : Sta Z h0 "java/lang/CharacterDataLatin1" "A" "[I" (.ref aA)) (PR_aA : Arr Z h0 aA cA .int) (PS_java_lang_CharacterDataLatin1_instance : Sta Z h0 "java/lang/CharacterDataLatin1" "instance" "Ljava/lang/CharacterDataLatin1;" (.ref ci)) (PE_ci : Exa Z h0 ci "java/lang/CharacterDataLatin1") (PF_o_value : Fld Z h0 o "java/util/Optional" "value" "Ljava/lang/Object;" .null) (PS_java_util_Optional_EMPTY : Sta Z h0 "java/util/Optional" "EMPTY" "Ljava/util/Optional;" (.ref o)) (PE_o : Exa Z h0 o "java/util/Optional") (hz : ¬ z = 0) (hin : ¬ ((115 : Int32) < 0 ∨ cA.slots.size ≤ (115 : Int32).toNatClampNeg)) (hat : cA.slots[(115 : Int32).toNatClampNeg]? = some (.int (8486882 : Int32))) (hZh : Z.heap = h0) (hheld : Jvm.Lit.constHeld Z "com/example/libprorate/libprorate/core/ItemPriceUnitsOverPinLaw" 13) (hcw : Jvm.Lit.compactW.before a0 Z = true) :
    MetW l Z x code maxLocals ret room_1 #[(.long p1), (.long p2), (.int p3)] h0 (fun vm => IB Z vm []) (Q0 Z p1 p2 p3 o z aA cA ci h0 n0) := by
  refine MetW.mk (plainFor_of_name (by first | (simp [plainName, overriddenIn]; done) | decide +kernel)) ?_
  intro p e s m below meth c s₁ vm0 hx hZ hby hml hown hnm hret hlk X0 e0 hS hh hnamed hJ
  have hml : c.maxLocals = 15 := hml
  have hret : meth.sig.returnType = some .boolean := hret
  have N0 := Fr.nil n0
  refine Go.cast (ef_0 m p1 p2 p3) ?_
  show Go p e below (FinW s (Q0 Z p1 p2 p3 o z aA cA ci h0 n0) room_1.cells room_1.slots) s₁ (mkF m 0 #[.val (.long p1), .second, .val (.long p2), .second, .val (.int p3), .unset, .unset, .unset, .unset, .unset, .unset, .unset, .unset, .unset, .unset] [])
  refine Go.to (mkF m 1 #[.val (.long p1), .second, .val (.long p2), .second, .val (.int p3), .unset, .unset, .unset, .unset, .unset, .unset, .unset, .unset, .unset, .unset] [(.long p1)]) (fun _ k => XS.lloadN X0.here hx rfl (hb hby at_0) rfl  k) ?_
  refine Go.to (mkF m 4 #[.val (.long p1), .second, .val (.long p2), .second, .val (.int p3), .unset, .unset, .unset, .unset, .unset, .unset, .unset, .unset, .unset, .unset] [(.long (9223372036854775807 : Int64)), (.long p1)]) (fun _ k => X0.ldc2Long hx hown (mvT hZ (hw _ (List.mem_of_getElem? (i := 0) rfl))) (g := (mkF m 1 #[.val (.long p1), .second, .val (.long p2), .second, .val (.int p3), .unset, .unset, .unset, .unset, .unset, .unset, .unset, .unset, .unset, .unset] [(.long p1)])) rfl (hb hby at_1) _ k) ?_
  refine Go.to (mkF m 5 #[.val (.long p1), .second, .val (.long p2), .second, .val (.int p3), .unset, .unset, .unset, .unset, .unset, .unset, .unset, .unset, .unset, .unset] [(.long (p1 &&& (9223372036854775807 : Int64)))]) (fun _ k => XS.land X0.here hx rfl (hb hby at_4) rfl k) ?_
  refine Go.to (mkF m 7 #[.val (.long p1), .second, .val (.long p2), .second, .val (.int p3), .val (.long (p1 &&& (9223372036854775807 : Int64))), .second, .unset, .unset, .unset, .unset, .unset, .unset, .unset, .unset] []) (fun _ k => XS.lstore X0.here hx rfl (hb hby at_5) rfl (l' := #[.val (.long p1), .second, .val (.long p2), .second, .val (.int p3), .val (.long (p1 &&& (9223372036854775807 : Int64))), .second, .unset, .unset, .unset, .unset, .unset, .unset, .unset, .unset]) rfl k) ?_
  refine Go.to (mkF m 8 #[.val (.long p1), .second, .val (.long p2), .second, .val (.int p3), .val (.long (p1 &&& (9223372036854775807 : Int64))), .second, .unset, .unset, .unset, .unset, .unset, .unset, .unset, .unset] [(.long p2)]) (fun _ k => XS.lloadN X0.here hx rfl (hb hby at_7) rfl  k) ?_
  refine Go.to (mkF m 11 #[.val (.long p1), .second, .val (.long p2), .second, .val (.int p3), .val (.long (p1 &&& (9223372036854775807 : Int64))), .second, .unset, .unset, .unset, .unset, .unset, .unset, .unset, .unset] [(.long (9223372036854775807 : Int64)), (.long p2)]) (fun _ k => X0.ldc2Long hx hown (mvT hZ (hw _ (List.mem_of_getElem? (i := 0) rfl))) (g := (mkF m 8 #[.val (.long p1), .second, .val (.long p2), .second, .val (.int p3), .val (.long (p1 &&& (9223372036854775807 : Int64))), .second, .unset, .unset, .unset, .unset, .unset, .unset, .unset, .unset] [(.long p2)])) rfl (hb hby at_8) _ k) ?_
  refine Go.to (mkF m 12 #[.val (.long p1), .second, .val (.long p2), .second, .val (.int p3), .val (.long (p1 &&& (9223372036854775807 : Int64))), .second, .unset, .unset, .unset, .unset, .unset, .unset, .unset, .unset] [(.long (p2 &&& (9223372036854775807 : Int64)))]) (fun _ k => XS.land X0.here hx rfl (hb hby at_11) rfl k) ?_
  refine Go.to (mkF m 14 #[.val (.long p1), .second, .val (.long p2), .second, .val (.int p3), .val (.long (p1 &&& (9223372036854775807 : Int64))), .second, .val (.long (p2 &&& (9223372036854775807 : Int64))), .second, .unset, .unset, .unset, .unset, .unset, .unset] []) (fun _ k => XS.lstore X0.here hx rfl (hb hby at_12) rfl (l' := #[.val (.long p1), .second, .val (.long p2), .second, .val (.int p3), .val (.long (p1 &&& (9223372036854775807 : Int64))), .second, .val (.long (p2 &&& (9223372036854775807 : Int64))), .second, .unset, .unset, .unset, .unset, .unset, .unset]) rfl k) ?_
  refine Go.to (mkF m 16 #[.val (.long p1), .second, .val (.long p2), .second, .val (.int p3), .val (.long (p1 &&& (9223372036854775807 : Int64))), .second, .val (.long (p2 &&& (9223372036854775807 : Int64))), .second, .unset, .unset, .unset, .unset, .unset, .unset] [(.int p3)]) (fun _ k => XS.iload X0.here hx rfl (hb hby at_14) rfl  k) ?_
  refine Go.to (mkF m 17 #[.val (.long p1), .second, .val (.long p2), .second, .val (.int p3), .val (.long (p1 &&& (9223372036854775807 : Int64))), .second, .val (.long (p2 &&& (9223372036854775807 : Int64))), .second, .unset, .unset, .unset, .unset, .unset, .unset] [(.int (3 : Int32)), (.int p3)]) (fun _ k => XS.iconst X0.here hx rfl (hb hby at_16) k) ?_
  refine Go.to (mkF m 18 #[.val (.long p1), .second, .val (.long p2), .second, .val (.int p3), .val (.long (p1 &&& (9223372036854775807 : Int64))), .second, .val (.long (p2 &&& (9223372036854775807 : Int64))), .second, .unset, .unset, .unset, .unset, .unset, .unset] [(.int (p3 &&& (3 : Int32)))]) (fun _ k => XS.iand X0.here hx rfl (hb hby at_17) rfl k) ?_
  refine Go.to (mkF m 20 #[.val (.long p1), .second, .val (.long p2), .second, .val (.int p3), .val (.long (p1 &&& (9223372036854775807 : Int64))), .second, .val (.long (p2 &&& (9223372036854775807 : Int64))), .second, .val (.int (p3 &&& (3 : Int32))), .unset, .unset, .unset, .unset, .unset] []) (fun _ k => XS.istore X0.here hx rfl (hb hby at_18) rfl (l' := #[.val (.long p1), .second, .val (.long p2), .second, .val (.int p3), .val (.long (p1 &&& (9223372036854775807 : Int64))), .second, .val (.long (p2 &&& (9223372036854775807 : Int64))), .second, .val (.int (p3 &&& (3 : Int32))), .unset, .unset, .unset, .unset, .unset]) rfl k) ?_
  refine Go.to (mkF m 22 #[.val (.long p1), .second, .val (.long p2), .second, .val (.int p3), .val (.long (p1 &&& (9223372036854775807 : Int64))), .second, .val (.long (p2 &&& (9223372036854775807 : Int64))), .second, .val (.int (p3 &&& (3 : Int32))), .unset, .unset, .unset, .unset, .unset] [(.int (p3 &&& (3 : Int32)))]) (fun _ k => XS.iload X0.here hx rfl (hb hby at_20) rfl  k) ?_
  refine Go.to (mkF m 23 #[.val (.long p1), .second, .val (.long p2), .second, .val (.int p3), .val (.long (p1 &&& (9223372036854775807 : Int64))), .second, .val (.long (p2 &&& (9223372036854775807 : Int64))), .second, .val (.int (p3 &&& (3 : Int32))), .unset, .unset, .unset, .unset, .unset] [(.int (1 : Int32)), (.int (p3 &&& (3 : Int32)))]) (fun _ k => XS.iconst X0.here hx rfl (hb hby at_22) k) ?_
  suffices J_1 : ∀ (q : Int64), ¬ q < (0 : Int64) → Go p e below (FinW s (Q0 Z p1 p2 p3 o z aA cA ci h0 n0) room_1.cells room_1.slots) s₁ (mkF m 89 #[.val (.long p1), .second, .val (.long p2), .second, .val (.int p3), .val (.long (p1 &&& (9223372036854775807 : Int64))), .second, .val (.long q), .second, .val (.int (p3 &&& (3 : Int32))), .unset, .unset, .unset, .unset, .unset] []) by
    by_cases h1 : (p3 &&& (3 : Int32)) = (1 : Int32)
    · refine Go.to (mkF m 26 #[.val (.long p1), .second, .val (.long p2), .second, .val (.int p3), .val (.long (p1 &&& (9223372036854775807 : Int64))), .second, .val (.long (p2 &&& (9223372036854775807 : Int64))), .second, .val (.int (p3 &&& (3 : Int32))), .unset, .unset, .unset, .unset, .unset] []) (fun _ k => XS.icmpNo X0.here hx rfl (hb hby at_23) rfl (teq h1).2 k) ?_
      refine Go.to (mkF m 28 #[.val (.long p1), .second, .val (.long p2), .second, .val (.int p3), .val (.long (p1 &&& (9223372036854775807 : Int64))), .second, .val (.long (p2 &&& (9223372036854775807 : Int64))), .second, .val (.int (p3 &&& (3 : Int32))), .unset, .unset, .unset, .unset, .unset] [(.long (p1 &&& (9223372036854775807 : Int64)))]) (fun _ k => XS.lload X0.here hx rfl (hb hby at_26) rfl  k) ?_
      refine Go.to (mkF m 30 #[.val (.long p1), .second, .val (.long p2), .second, .val (.int p3), .val (.long (p1 &&& (9223372036854775807 : Int64))), .second, .val (.long (p1 &&& (9223372036854775807 : Int64))), .second, .val (.int (p3 &&& (3 : Int32))), .unset, .unset, .unset, .unset, .unset] []) (fun _ k => XS.lstore X0.here hx rfl (hb hby at_28) rfl (l' := #[.val (.long p1), .second, .val (.long p2), .second, .val (.int p3), .val (.long (p1 &&& (9223372036854775807 : Int64))), .second, .val (.long (p1 &&& (9223372036854775807 : Int64))), .second, .val (.int (p3 &&& (3 : Int32))), .unset, .unset, .unset, .unset, .unset]) rfl k) ?_
      refine Go.to (mkF m 89 #[.val (.long p1), .second, .val (.long p2), .second, .val (.int p3), .val (.long (p1 &&& (9223372036854775807 : Int64))), .second, .val (.long (p1 &&& (9223372036854775807 : Int64))), .second, .val (.int (p3 &&& (3 : Int32))), .unset, .unset, .unset, .unset, .unset] []) (fun _ k => XS.goto X0.here hx rfl (pc0 := 30) (pc' := 89) rfl (hb hby at_30) (by decide) (by decide) k) ?_
      exact J_1 _ (own_mask _)
    · refine Go.to (mkF m 33 #[.val (.long p1), .second, .val (.long p2), .second, .val (.int p3), .val (.long (p1 &&& (9223372036854775807 : Int64))), .second, .val (.long (p2 &&& (9223372036854775807 : Int64))), .second, .val (.int (p3 &&& (3 : Int32))), .unset, .unset, .unset, .unset, .unset] []) (fun _ k => XS.icmpYes X0.here hx rfl (pc0 := 23) (pc' := 33) rfl (hb hby at_23) rfl (feq h1).2 (by decide) (by decide) k) ?_
      refine Go.to (mkF m 35 #[.val (.long p1), .second, .val (.long p2), .second, .val (.int p3), .val (.long (p1 &&& (9223372036854775807 : Int64))), .second, .val (.long (p2 &&& (9223372036854775807 : Int64))), .second, .val (.int (p3 &&& (3 : Int32))), .unset, .unset, .unset, .unset, .unset] [(.int (p3 &&& (3 : Int32)))]) (fun _ k => XS.iload X0.here hx rfl (hb hby at_33) rfl  k) ?_
      refine Go.to (mkF m 36 #[.val (.long p1), .second, .val (.long p2), .second, .val (.int p3), .val (.long (p1 &&& (9223372036854775807 : Int64))), .second, .val (.long (p2 &&& (9223372036854775807 : Int64))), .second, .val (.int (p3 &&& (3 : Int32))), .unset, .unset, .unset, .unset, .unset] [(.int (2 : Int32)), (.int (p3 &&& (3 : Int32)))]) (fun _ k => XS.iconst X0.here hx rfl (hb hby at_35) k) ?_
      by_cases h2 : (p3 &&& (3 : Int32)) = (2 : Int32)
      · refine Go.to (mkF m 39 #[.val (.long p1), .second, .val (.long p2), .second, .val (.int p3), .val (.long (p1 &&& (9223372036854775807 : Int64))), .second, .val (.long (p2 &&& (9223372036854775807 : Int64))), .second, .val (.int (p3 &&& (3 : Int32))), .unset, .unset, .unset, .unset, .unset] []) (fun _ k => XS.icmpNo X0.here hx rfl (hb hby at_36) rfl (teq h2).2 k) ?_
        refine Go.to (mkF m 41 #[.val (.long p1), .second, .val (.long p2), .second, .val (.int p3), .val (.long (p1 &&& (9223372036854775807 : Int64))), .second, .val (.long (p2 &&& (9223372036854775807 : Int64))), .second, .val (.int (p3 &&& (3 : Int32))), .unset, .unset, .unset, .unset, .unset] [(.long (p1 &&& (9223372036854775807 : Int64)))]) (fun _ k => XS.lload X0.here hx rfl (hb hby at_39) rfl  k) ?_
        refine Go.to (mkF m 44 #[.val (.long p1), .second, .val (.long p2), .second, .val (.int p3), .val (.long (p1 &&& (9223372036854775807 : Int64))), .second, .val (.long (p2 &&& (9223372036854775807 : Int64))), .second, .val (.int (p3 &&& (3 : Int32))), .unset, .unset, .unset, .unset, .unset] [(.long (9223372036854775807 : Int64)), (.long (p1 &&& (9223372036854775807 : Int64)))]) (fun _ k => X0.ldc2Long hx hown (mvT hZ (hw _ (List.mem_of_getElem? (i := 0) rfl))) (g := (mkF m 41 #[.val (.long p1), .second, .val (.long p2), .second, .val (.int p3), .val (.long (p1 &&& (9223372036854775807 : Int64))), .second, .val (.long (p2 &&& (9223372036854775807 : Int64))), .second, .val (.int (p3 &&& (3 : Int32))), .unset, .unset, .unset, .unset, .unset] [(.long (p1 &&& (9223372036854775807 : Int64)))])) rfl (hb hby at_41) _ k) ?_
        refine Go.to (mkF m 45 #[.val (.long p1), .second, .val (.long p2), .second, .val (.int p3), .val (.long (p1 &&& (9223372036854775807 : Int64))), .second, .val (.long (p2 &&& (9223372036854775807 : Int64))), .second, .val (.int (p3 &&& (3 : Int32))), .unset, .unset, .unset, .unset, .unset] [(.int (lcmpW (p1 &&& (9223372036854775807 : Int64)) (9223372036854775807 : Int64)))]) (fun _ k => XS.lcmp X0.here hx rfl (hb hby at_44) rfl k) ?_
        by_cases hl : (lcmpW (p1 &&& (9223372036854775807 : Int64)) (9223372036854775807 : Int64)) < (0 : Int32)
        · refine Go.to (mkF m 48 #[.val (.long p1), .second, .val (.long p2), .second, .val (.int p3), .val (.long (p1 &&& (9223372036854775807 : Int64))), .second, .val (.long (p2 &&& (9223372036854775807 : Int64))), .second, .val (.int (p3 &&& (3 : Int32))), .unset, .unset, .unset, .unset, .unset] []) (fun _ k => XS.ifNo X0.here hx rfl (hb hby at_45) rfl ((if0 _ _).trans (tlt hl).2.1) k) ?_
          refine Go.to (mkF m 50 #[.val (.long p1), .second, .val (.long p2), .second, .val (.int p3), .val (.long (p1 &&& (9223372036854775807 : Int64))), .second, .val (.long (p2 &&& (9223372036854775807 : Int64))), .second, .val (.int (p3 &&& (3 : Int32))), .unset, .unset, .unset, .unset, .unset] [(.long (p1 &&& (9223372036854775807 : Int64)))]) (fun _ k => XS.lload X0.here hx rfl (hb hby at_48) rfl  k) ?_
          refine Go.to (mkF m 51 #[.val (.long p1), .second, .val (.long p2), .second, .val (.int p3), .val (.long (p1 &&& (9223372036854775807 : Int64))), .second, .val (.long (p2 &&& (9223372036854775807 : Int64))), .second, .val (.int (p3 &&& (3 : Int32))), .unset, .unset, .unset, .unset, .unset] [(.long (1 : Int64)), (.long (p1 &&& (9223372036854775807 : Int64)))]) (fun _ k => XS.lconst X0.here hx rfl (hb hby at_50) k) ?_
          refine Go.to (mkF m 52 #[.val (.long p1), .second, .val (.long p2), .second, .val (.int p3), .val (.long (p1 &&& (9223372036854775807 : Int64))), .second, .val (.long (p2 &&& (9223372036854775807 : Int64))), .second, .val (.int (p3 &&& (3 : Int32))), .unset, .unset, .unset, .unset, .unset] [(.long ((p1 &&& (9223372036854775807 : Int64)) + (1 : Int64)))]) (fun _ k => XS.ladd X0.here hx rfl (hb hby at_51) rfl k) ?_
          refine Go.to (mkF m 54 #[.val (.long p1), .second, .val (.long p2), .second, .val (.int p3), .val (.long (p1 &&& (9223372036854775807 : Int64))), .second, .val (.long ((p1 &&& (9223372036854775807 : Int64)) + (1 : Int64))), .second, .val (.int (p3 &&& (3 : Int32))), .unset, .unset, .unset, .unset, .unset] []) (fun _ k => XS.lstore X0.here hx rfl (hb hby at_52) rfl (l' := #[.val (.long p1), .second, .val (.long p2), .second, .val (.int p3), .val (.long (p1 &&& (9223372036854775807 : Int64))), .second, .val (.long ((p1 &&& (9223372036854775807 : Int64)) + (1 : Int64))), .second, .val (.int (p3 &&& (3 : Int32))), .unset, .unset, .unset, .unset, .unset]) rfl k) ?_
          refine Go.to (mkF m 89 #[.val (.long p1), .second, .val (.long p2), .second, .val (.int p3), .val (.long (p1 &&& (9223372036854775807 : Int64))), .second, .val (.long ((p1 &&& (9223372036854775807 : Int64)) + (1 : Int64))), .second, .val (.int (p3 &&& (3 : Int32))), .unset, .unset, .unset, .unset, .unset] []) (fun _ k => XS.goto X0.here hx rfl (pc0 := 54) (pc' := 89) rfl (hb hby at_54) (by decide) (by decide) k) ?_
          exact J_1 _ (own_inc (own_mask _) ((lw_lt _ _).mp hl))
        · refine Go.to (mkF m 57 #[.val (.long p1), .second, .val (.long p2), .second, .val (.int p3), .val (.long (p1 &&& (9223372036854775807 : Int64))), .second, .val (.long (p2 &&& (9223372036854775807 : Int64))), .second, .val (.int (p3 &&& (3 : Int32))), .unset, .unset, .unset, .unset, .unset] []) (fun _ k => XS.ifYes X0.here hx rfl (pc0 := 45) (pc' := 57) rfl (hb hby at_45) rfl ((if0 _ _).trans (flt hl).2.1) (by decide) (by decide) k) ?_
          refine Go.to (mkF m 59 #[.val (.long p1), .second, .val (.long p2), .second, .val (.int p3), .val (.long (p1 &&& (9223372036854775807 : Int64))), .second, .val (.long (p2 &&& (9223372036854775807 : Int64))), .second, .val (.int (p3 &&& (3 : Int32))), .unset, .unset, .unset, .unset, .unset] [(.long (p1 &&& (9223372036854775807 : Int64)))]) (fun _ k => XS.lload X0.here hx rfl (hb hby at_57) rfl  k) ?_
          refine Go.to (mkF m 61 #[.val (.long p1), .second, .val (.long p2), .second, .val (.int p3), .val (.long (p1 &&& (9223372036854775807 : Int64))), .second, .val (.long (p1 &&& (9223372036854775807 : Int64))), .second, .val (.int (p3 &&& (3 : Int32))), .unset, .unset, .unset, .unset, .unset] []) (fun _ k => XS.lstore X0.here hx rfl (hb hby at_59) rfl (l' := #[.val (.long p1), .second, .val (.long p2), .second, .val (.int p3), .val (.long (p1 &&& (9223372036854775807 : Int64))), .second, .val (.long (p1 &&& (9223372036854775807 : Int64))), .second, .val (.int (p3 &&& (3 : Int32))), .unset, .unset, .unset, .unset, .unset]) rfl k) ?_
          refine Go.to (mkF m 89 #[.val (.long p1), .second, .val (.long p2), .second, .val (.int p3), .val (.long (p1 &&& (9223372036854775807 : Int64))), .second, .val (.long (p1 &&& (9223372036854775807 : Int64))), .second, .val (.int (p3 &&& (3 : Int32))), .unset, .unset, .unset, .unset, .unset] []) (fun _ k => XS.goto X0.here hx rfl (pc0 := 61) (pc' := 89) rfl (hb hby at_61) (by decide) (by decide) k) ?_
          exact J_1 _ (own_mask _)
      · refine Go.to (mkF m 64 #[.val (.long p1), .second, .val (.long p2), .second, .val (.int p3), .val (.long (p1 &&& (9223372036854775807 : Int64))), .second, .val (.long (p2 &&& (9223372036854775807 : Int64))), .second, .val (.int (p3 &&& (3 : Int32))), .unset, .unset, .unset, .unset, .unset] []) (fun _ k => XS.icmpYes X0.here hx rfl (pc0 := 36) (pc' := 64) rfl (hb hby at_36) rfl (feq h2).2 (by decide) (by decide) k) ?_
        refine Go.to (mkF m 66 #[.val (.long p1), .second, .val (.long p2), .second, .val (.int p3), .val (.long (p1 &&& (9223372036854775807 : Int64))), .second, .val (.long (p2 &&& (9223372036854775807 : Int64))), .second, .val (.int (p3 &&& (3 : Int32))), .unset, .unset, .unset, .unset, .unset] [(.int (p3 &&& (3 : Int32)))]) (fun _ k => XS.iload X0.here hx rfl (hb hby at_64) rfl  k) ?_
        refine Go.to (mkF m 67 #[.val (.long p1), .second, .val (.long p2), .second, .val (.int p3), .val (.long (p1 &&& (9223372036854775807 : Int64))), .second, .val (.long (p2 &&& (9223372036854775807 : Int64))), .second, .val (.int (p3 &&& (3 : Int32))), .unset, .unset, .unset, .unset, .unset] [(.int (3 : Int32)), (.int (p3 &&& (3 : Int32)))]) (fun _ k => XS.iconst X0.here hx rfl (hb hby at_66) k) ?_
        by_cases h3 : (p3 &&& (3 : Int32)) = (3 : Int32)
        · refine Go.to (mkF m 70 #[.val (.long p1), .second, .val (.long p2), .second, .val (.int p3), .val (.long (p1 &&& (9223372036854775807 : Int64))), .second, .val (.long (p2 &&& (9223372036854775807 : Int64))), .second, .val (.int (p3 &&& (3 : Int32))), .unset, .unset, .unset, .unset, .unset] []) (fun _ k => XS.icmpNo X0.here hx rfl (hb hby at_67) rfl (teq h3).2 k) ?_
          refine Go.to (mkF m 72 #[.val (.long p1), .second, .val (.long p2), .second, .val (.int p3), .val (.long (p1 &&& (9223372036854775807 : Int64))), .second, .val (.long (p2 &&& (9223372036854775807 : Int64))), .second, .val (.int (p3 &&& (3 : Int32))), .unset, .unset, .unset, .unset, .unset] [(.long (p1 &&& (9223372036854775807 : Int64)))]) (fun _ k => XS.lload X0.here hx rfl (hb hby at_70) rfl  k) ?_
          refine Go.to (mkF m 73 #[.val (.long p1), .second, .val (.long p2), .second, .val (.int p3), .val (.long (p1 &&& (9223372036854775807 : Int64))), .second, .val (.long (p2 &&& (9223372036854775807 : Int64))), .second, .val (.int (p3 &&& (3 : Int32))), .unset, .unset, .unset, .unset, .unset] [(.long (0 : Int64)), (.long (p1 &&& (9223372036854775807 : Int64)))]) (fun _ k => XS.lconst X0.here hx rfl (hb hby at_72) k) ?_
          refine Go.to (mkF m 74 #[.val (.long p1), .second, .val (.long p2), .second, .val (.int p3), .val (.long (p1 &&& (9223372036854775807 : Int64))), .second, .val (.long (p2 &&& (9223372036854775807 : Int64))), .second, .val (.int (p3 &&& (3 : Int32))), .unset, .unset, .unset, .unset, .unset] [(.int (lcmpW (p1 &&& (9223372036854775807 : Int64)) (0 : Int64)))]) (fun _ k => XS.lcmp X0.here hx rfl (hb hby at_73) rfl k) ?_
          by_cases hg : (0 : Int32) < (lcmpW (p1 &&& (9223372036854775807 : Int64)) (0 : Int64))
          · refine Go.to (mkF m 77 #[.val (.long p1), .second, .val (.long p2), .second, .val (.int p3), .val (.long (p1 &&& (9223372036854775807 : Int64))), .second, .val (.long (p2 &&& (9223372036854775807 : Int64))), .second, .val (.int (p3 &&& (3 : Int32))), .unset, .unset, .unset, .unset, .unset] []) (fun _ k => XS.ifNo X0.here hx rfl (hb hby at_74) rfl ((if0 _ _).trans (tlt hg).2.2.2) k) ?_
            refine Go.to (mkF m 79 #[.val (.long p1), .second, .val (.long p2), .second, .val (.int p3), .val (.long (p1 &&& (9223372036854775807 : Int64))), .second, .val (.long (p2 &&& (9223372036854775807 : Int64))), .second, .val (.int (p3 &&& (3 : Int32))), .unset, .unset, .unset, .unset, .unset] [(.long (p1 &&& (9223372036854775807 : Int64)))]) (fun _ k => XS.lload X0.here hx rfl (hb hby at_77) rfl  k) ?_
            refine Go.to (mkF m 80 #[.val (.long p1), .second, .val (.long p2), .second, .val (.int p3), .val (.long (p1 &&& (9223372036854775807 : Int64))), .second, .val (.long (p2 &&& (9223372036854775807 : Int64))), .second, .val (.int (p3 &&& (3 : Int32))), .unset, .unset, .unset, .unset, .unset] [(.long (1 : Int64)), (.long (p1 &&& (9223372036854775807 : Int64)))]) (fun _ k => XS.lconst X0.here hx rfl (hb hby at_79) k) ?_
            refine Go.to (mkF m 81 #[.val (.long p1), .second, .val (.long p2), .second, .val (.int p3), .val (.long (p1 &&& (9223372036854775807 : Int64))), .second, .val (.long (p2 &&& (9223372036854775807 : Int64))), .second, .val (.int (p3 &&& (3 : Int32))), .unset, .unset, .unset, .unset, .unset] [(.long ((p1 &&& (9223372036854775807 : Int64)) - (1 : Int64)))]) (fun _ k => XS.lsub X0.here hx rfl (hb hby at_80) rfl k) ?_
            refine Go.to (mkF m 83 #[.val (.long p1), .second, .val (.long p2), .second, .val (.int p3), .val (.long (p1 &&& (9223372036854775807 : Int64))), .second, .val (.long ((p1 &&& (9223372036854775807 : Int64)) - (1 : Int64))), .second, .val (.int (p3 &&& (3 : Int32))), .unset, .unset, .unset, .unset, .unset] []) (fun _ k => XS.lstore X0.here hx rfl (hb hby at_81) rfl (l' := #[.val (.long p1), .second, .val (.long p2), .second, .val (.int p3), .val (.long (p1 &&& (9223372036854775807 : Int64))), .second, .val (.long ((p1 &&& (9223372036854775807 : Int64)) - (1 : Int64))), .second, .val (.int (p3 &&& (3 : Int32))), .unset, .unset, .unset, .unset, .unset]) rfl k) ?_
            refine Go.to (mkF m 89 #[.val (.long p1), .second, .val (.long p2), .second, .val (.int p3), .val (.long (p1 &&& (9223372036854775807 : Int64))), .second, .val (.long ((p1 &&& (9223372036854775807 : Int64)) - (1 : Int64))), .second, .val (.int (p3 &&& (3 : Int32))), .unset, .unset, .unset, .unset, .unset] []) (fun _ k => XS.goto X0.here hx rfl (pc0 := 83) (pc' := 89) rfl (hb hby at_83) (by decide) (by decide) k) ?_
            exact J_1 _ (own_dec ((lw_gt _ _).mp hg))
          · refine Go.to (mkF m 86 #[.val (.long p1), .second, .val (.long p2), .second, .val (.int p3), .val (.long (p1 &&& (9223372036854775807 : Int64))), .second, .val (.long (p2 &&& (9223372036854775807 : Int64))), .second, .val (.int (p3 &&& (3 : Int32))), .unset, .unset, .unset, .unset, .unset] []) (fun _ k => XS.ifYes X0.here hx rfl (pc0 := 74) (pc' := 86) rfl (hb hby at_74) rfl ((if0 _ _).trans (flt hg).2.2.2) (by decide) (by decide) k) ?_
            refine Go.to (mkF m 87 #[.val (.long p1), .second, .val (.long p2), .second, .val (.int p3), .val (.long (p1 &&& (9223372036854775807 : Int64))), .second, .val (.long (p2 &&& (9223372036854775807 : Int64))), .second, .val (.int (p3 &&& (3 : Int32))), .unset, .unset, .unset, .unset, .unset] [(.long (0 : Int64))]) (fun _ k => XS.lconst X0.here hx rfl (hb hby at_86) k) ?_
            refine Go.to (mkF m 89 #[.val (.long p1), .second, .val (.long p2), .second, .val (.int p3), .val (.long (p1 &&& (9223372036854775807 : Int64))), .second, .val (.long (0 : Int64)), .second, .val (.int (p3 &&& (3 : Int32))), .unset, .unset, .unset, .unset, .unset] []) (fun _ k => XS.lstore X0.here hx rfl (hb hby at_87) rfl (l' := #[.val (.long p1), .second, .val (.long p2), .second, .val (.int p3), .val (.long (p1 &&& (9223372036854775807 : Int64))), .second, .val (.long (0 : Int64)), .second, .val (.int (p3 &&& (3 : Int32))), .unset, .unset, .unset, .unset, .unset]) rfl k) ?_
            exact J_1 _ (by decide)
        · refine Go.to (mkF m 89 #[.val (.long p1), .second, .val (.long p2), .second, .val (.int p3), .val (.long (p1 &&& (9223372036854775807 : Int64))), .second, .val (.long (p2 &&& (9223372036854775807 : Int64))), .second, .val (.int (p3 &&& (3 : Int32))), .unset, .unset, .unset, .unset, .unset] []) (fun _ k => XS.icmpYes X0.here hx rfl (pc0 := 67) (pc' := 89) rfl (hb hby at_67) rfl (feq h3).2 (by decide) (by decide) k) ?_
          exact J_1 _ (own_mask _)
  intro q hq
  obtain ⟨T_2, h_2, X_2, e_2, E_2, A_2, D_2, -, st_2⟩ := newO X0 hx hZ hown (hw _ (List.mem_of_getElem? (i := 1) rfl)) (hw _ (List.mem_of_getElem? (i := 2) rfl)) (hw _ (List.mem_of_getElem? (i := 3) rfl)) e0 (g := (mkF m 89 #[.val (.long p1), .second, .val (.long p2), .second, .val (.int p3), .val (.long (p1 &&& (9223372036854775807 : Int64))), .second, .val (.long q), .second, .val (.int (p3 &&& (3 : Int32))), .unset, .unset, .unset, .unset, .unset] [])) rfl (hb hby at_89) (by decide) (by decide)
  obtain ⟨b_2, g_2⟩ : ∃ z, z = h0.size := ⟨_, rfl⟩
  rw [← g_2] at A_2 D_2 st_2
  have g_b_2 : n0 ≤ b_2 := Nat.le_trans Z0 (Nat.le_of_eq g_2.symm)
  have ne_aA_b_2 : aA ≠ b_2 := Nat.ne_of_lt (Nat.lt_of_lt_of_le PR_aA.lt (Nat.le_of_eq g_2.symm))
  have ne_ci_b_2 : ci ≠ b_2 := Nat.ne_of_lt (Nat.lt_of_lt_of_le PE_ci.lt (Nat.le_of_eq g_2.symm))
  have ne_o_b_2 : o ≠ b_2 := Nat.ne_of_lt (Nat.lt_of_lt_of_le PF_o_value.lt (Nat.le_of_eq g_2.symm))
  have F_item_b_2 : Fld Z h_2 b_2 "com/example/libprorate/libprorate/core/ItemPrice" "item" "Ljava/lang/String;" .null := D_2 (Or.inr (hw _ (List.mem_of_getElem? (i := 107) rfl))) (ty := (.object "java/lang/String")) (by decide)
  have F_included_b_2 : Fld Z h_2 b_2 "com/example/libprorate/libprorate/core/ItemPrice" "included" "J" (.long (0 : Int64)) := D_2 (Or.inr (hw _ (List.mem_of_getElem? (i := 109) rfl))) (ty := .long) (by decide)
  have F_overagePrice_b_2 : Fld Z h_2 b_2 "com/example/libprorate/libprorate/core/ItemPrice" "overagePrice" "Ljava/util/Optional;" .null := D_2 (Or.inr (hw _ (List.mem_of_getElem? (i := 111) rfl))) (ty := (.object "java/util/Optional")) (by decide)
  refine Go.to (mkF m 92 #[.val (.long p1), .second, .val (.long p2), .second, .val (.int p3), .val (.long (p1 &&& (9223372036854775807 : Int64))), .second, .val (.long q), .second, .val (.int (p3 &&& (3 : Int32))), .unset, .unset, .unset, .unset, .unset] [(.ref b_2)]) st_2 ?_
  refine Go.to (mkF m 93 #[.val (.long p1), .second, .val (.long p2), .second, .val (.int p3), .val (.long (p1 &&& (9223372036854775807 : Int64))), .second, .val (.long q), .second, .val (.int (p3 &&& (3 : Int32))), .unset, .unset, .unset, .unset, .unset] [(.ref b_2), (.ref b_2)]) (fun _ k => XS.dup X_2.here hx rfl (hb hby at_92) rfl rfl k) ?_
  have f_4 : 0 ≤ h_2.size := (Nat.le_trans (Nat.zero_le _) E_2.1)
  have f_5 : Arr Z h_2 aA cA .int := (PR_aA.ext E_2)
  have f_6 : Exa Z h_2 ci "java/lang/CharacterDataLatin1" := (PE_ci.ext E_2)
  have f_7 : Fld Z h_2 o "java/util/Optional" "value" "Ljava/lang/Object;" .null := (PF_o_value.ext E_2)
  obtain ⟨a_3, T_3, h_3, kk_3, b_3, k_3, X_3, e_3, E_3, hS_3, hk_3, hZ_3, hown_3, x1_3, x2_3, x3_3, x4_3, x5_3, x6_3, I_3, st_3⟩ := ldcSV X_2 hx hZ hown (hw _ (List.mem_of_getElem? (i := 4) rfl)) (own_wS hw) e_2 hS f_4 (Fr.nil _) (fun b cl q => by rw [hh, ← hZh]; exact q) (hJ) (by decide) hheld hcw (vs := [(.int (115 : Int32)), (.int (101 : Int32)), (.int (97 : Int32)), (.int (116 : Int32)), (.int (115 : Int32))]) (z := (5 : Int32)) ⟨by decide, by decide⟩ (by decide) (by decide) (g := (mkF m 93 #[.val (.long p1), .second, .val (.long p2), .second, .val (.int p3), .val (.long (p1 &&& (9223372036854775807 : Int64))), .second, .val (.long q), .second, .val (.int (p3 &&& (3 : Int32))), .unset, .unset, .unset, .unset, .unset] [(.ref b_2), (.ref b_2)])) rfl (hb hby at_93) (n := 20) (by decide) (by decide) (by decide) (by decide)
  refine Go.to (mkF m 95 #[.val (.long p1), .second, .val (.long p2), .second, .val (.int p3), .val (.long (p1 &&& (9223372036854775807 : Int64))), .second, .val (.long q), .second, .val (.int (p3 &&& (3 : Int32))), .unset, .unset, .unset, .unset, .unset] [(.ref a_3), (.ref b_2), (.ref b_2)]) st_3 ?_
  refine Go.to (mkF m 97 #[.val (.long p1), .second, .val (.long p2), .second, .val (.int p3), .val (.long (p1 &&& (9223372036854775807 : Int64))), .second, .val (.long q), .second, .val (.int (p3 &&& (3 : Int32))), .unset, .unset, .unset, .unset, .unset] [(.long (p1 &&& (9223372036854775807 : Int64))), (.ref a_3), (.ref b_2), (.ref b_2)]) (fun _ k => XS.lload X_3.here hx rfl (hb hby at_95) rfl  k) ?_
  have f_8 : Sta Z h_3 "java/util/Optional" "EMPTY" "Ljava/util/Optional;" (.ref o) := ((PS_java_util_Optional_EMPTY.ext E_2).ext E_3)
  have f_9 : n0 ≤ h_3.size := (Nat.le_trans (Nat.le_trans Z0 E_2.1) E_3.1)
  refine Go.stat X_3 hx hZ_3 (y := (⟨"java/util/Optional", "empty", "()Ljava/util/Optional;"⟩ : MethodName)) hown_3 (hw _ (List.mem_of_getElem? (i := 12) rfl)) (hw _ (List.mem_of_getElem? (i := 13) rfl)) (hw _ (List.mem_of_getElem? (i := 14) rfl)) (hw _ (List.mem_of_getElem? (i := 15) rfl)) (by decide) e_3 (argsL := []) (rest := [(.long (p1 &&& (9223372036854775807 : Int64))), (.ref a_3), (.ref b_2), (.ref b_2)]) (Met1.back (W := 5) (rm1 l Z a0 hw o h_3 n0 f_9 f_8) hZ_3 (hw _ (List.mem_of_getElem? (i := 15) rfl)) (hw _ (List.mem_of_getElem? (i := 14) rfl)) (by decide) (by decide)) (pc := 97) (Ls := #[.val (.long p1), .second, .val (.long p2), .second, .val (.int p3), .val (.long (p1 &&& (9223372036854775807 : Int64))), .second, .val (.long q), .second, .val (.int (p3 &&& (3 : Int32))), .unset, .unset, .unset, .unset, .unset]) (by rw [hml]; rfl) (lenOf own_pd8 rfl) rfl (Nat.le_refl _) (hb hby at_97) (by decide) (by decide) ?_
  intro T_10 v_10 L_10 X_10 hQ_10
  obtain ⟨rfl, Nq_10, hh_10⟩ := hQ_10
  have N_10 := Fr.app N0 Nq_10
  show Go p e below (FinW s (Q0 Z p1 p2 p3 o z aA cA ci h0 n0) room_1.cells room_1.slots) T_10 (mkF m 100 #[.val (.long p1), .second, .val (.long p2), .second, .val (.int p3), .val (.long (p1 &&& (9223372036854775807 : Int64))), .second, .val (.long q), .second, .val (.int (p3 &&& (3 : Int32))), .unset, .unset, .unset, .unset, .unset] [(.ref o), (.long (p1 &&& (9223372036854775807 : Int64))), (.ref a_3), (.ref b_2), (.ref b_2)])
  have f_11 : Exa Z h_3 b_2 "com/example/libprorate/libprorate/core/ItemPrice" := (A_2.ext E_3)
  have f_12 : Fld Z h_3 b_2 "com/example/libprorate/libprorate/core/ItemPrice" "item" "Ljava/lang/String;" .null := (F_item_b_2.ext E_3)
  have f_13 : Fld Z h_3 b_2 "com/example/libprorate/libprorate/core/ItemPrice" "included" "J" (.long (0 : Int64)) := (F_included_b_2.ext E_3)
  have f_14 : Fld Z h_3 b_2 "com/example/libprorate/libprorate/core/ItemPrice" "overagePrice" "Ljava/util/Optional;" .null := (F_overagePrice_b_2.ext E_3)
  have f_15 : Sta Z h_3 "java/lang/String" "COMPACT_STRINGS" "Z" (.int z) := ((PS_java_lang_String_COMPACT_STRINGS.ext E_2).ext E_3)
  have f_16 : Sta Z h_3 "java/lang/CharacterDataLatin1" "A" "[I" (.ref aA) := ((PS_java_lang_CharacterDataLatin1_A.ext E_2).ext E_3)
  have f_17 : Arr Z h_3 aA cA .int := (f_5.ext E_3)
  have f_18 : Sta Z h_3 "java/lang/CharacterDataLatin1" "instance" "Ljava/lang/CharacterDataLatin1;" (.ref ci) := ((PS_java_lang_CharacterDataLatin1_instance.ext E_2).ext E_3)
  have f_19 : Exa Z h_3 ci "java/lang/CharacterDataLatin1" := (f_6.ext E_3)
  have f_20 : Fld Z h_3 o "java/util/Optional" "value" "Ljava/lang/Object;" .null := (f_7.ext E_3)
  have f_21 : Exa Z h_3 o "java/util/Optional" := ((PE_o.ext E_2).ext E_3)
  refine Go.specialS hS_3 hk_3 X_10 hx hZ_3 (y := (⟨"com/example/libprorate/libprorate/core/ItemPrice", "<init>", "(Ljava/lang/String;JLjava/util/Optional;)V"⟩ : MethodName)) rfl hown_3 (hw _ (List.mem_of_getElem? (i := 17) rfl)) (hw _ (List.mem_of_getElem? (i := 18) rfl)) (hw _ (List.mem_of_getElem? (i := 19) rfl)) (by decide) hh_10 (a := b_2) (argsL := [(.ref a_3), (.long (p1 &&& (9223372036854775807 : Int64))), (.ref o)]) (rest := [(.ref b_2)]) (MetW.back (W := 1) (rm2 l Z a0 hw b_2 a_3 (p1 &&& (9223372036854775807 : Int64)) o b_3 k_3 z aA cA ci .null (.long (0 : Int64)) .null h_3 n0 f_9 f_11 g_b_2 f_12 f_13 f_14 x1_3 x3_3 x4_3 f_15 x2_3 f_16 f_17 f_18 f_19 f_20 f_8 f_21 (own_mask _) hz hin hat) hZ_3 (fun _ _ => trivial) (hw _ (List.mem_of_getElem? (i := 19) rfl)) (hw _ (List.mem_of_getElem? (i := 3) rfl)) (by decide) (by decide)) (pc := 100) (Ls := #[.val (.long p1), .second, .val (.long p2), .second, .val (.int p3), .val (.long (p1 &&& (9223372036854775807 : Int64))), .second, .val (.long q), .second, .val (.int (p3 &&& (3 : Int32))), .unset, .unset, .unset, .unset, .unset]) (by rw [hml]; rfl) (lenOf own_pd13 rfl) rfl (Nat.le_refl _) (hb hby at_100) (by decide) (by decide) ?_
  intro T_22 v_22 L_22 X_22 hS_22 hV_22 hZ_22 hown_22 hg_22 hQ_22
  obtain ⟨rfl, Nq_22, K_22, pf_22_0⟩ := hQ_22
  have N_22 := Fr.app N_10 Nq_22
  show Go p e below (FinW s (Q0 Z p1 p2 p3 o z aA cA ci h0 n0) room_1.cells room_1.slots) T_22 (mkF m 103 #[.val (.long p1), .second, .val (.long p2), .second, .val (.int p3), .val (.long (p1 &&& (9223372036854775807 : Int64))), .second, .val (.long q), .second, .val (.int (p3 &&& (3 : Int32))), .unset, .unset, .unset, .unset, .unset] [(.ref b_2)])
  refine Go.to (mkF m 105 #[.val (.long p1), .second, .val (.long p2), .second, .val (.int p3), .val (.long (p1 &&& (9223372036854775807 : Int64))), .second, .val (.long q), .second, .val (.int (p3 &&& (3 : Int32))), .val (.ref b_2), .unset, .unset, .unset, .unset] []) (fun _ k => XS.astore X_22.here hx rfl (hb hby at_103) rfl rfl (l' := #[.val (.long p1), .second, .val (.long p2), .second, .val (.int p3), .val (.long (p1 &&& (9223372036854775807 : Int64))), .second, .val (.long q), .second, .val (.int (p3 &&& (3 : Int32))), .val (.ref b_2), .unset, .unset, .unset, .unset]) rfl k) ?_
  refine Go.to (mkF m 107 #[.val (.long p1), .second, .val (.long p2), .second, .val (.int p3), .val (.long (p1 &&& (9223372036854775807 : Int64))), .second, .val (.long q), .second, .val (.int (p3 &&& (3 : Int32))), .val (.ref b_2), .unset, .unset, .unset, .unset] [(.ref b_2)]) (fun _ k => XS.aload X_22.here hx rfl (hb hby at_105) rfl rfl k) ?_
  refine Go.to (mkF m 109 #[.val (.long p1), .second, .val (.long p2), .second, .val (.int p3), .val (.long (p1 &&& (9223372036854775807 : Int64))), .second, .val (.long q), .second, .val (.int (p3 &&& (3 : Int32))), .val (.ref b_2), .unset, .unset, .unset, .unset] [(.long q), (.ref b_2)]) (fun _ k => XS.lload X_22.here hx rfl (hb hby at_107) rfl  k) ?_
  have f_23 : n0 ≤ T_22.heap.size := (Nat.le_trans f_9 K_22.1)
  have f_24 : Exa Z T_22.heap b_2 "com/example/libprorate/libprorate/core/ItemPrice" := (f_11.keep K_22)
  refine Go.virt X_22 hx hZ_22 (y := (⟨"com/example/libprorate/libprorate/core/ItemPrice", "unitsOver", "(J)J"⟩ : MethodName)) (z := (⟨"com/example/libprorate/libprorate/core/ItemPrice", "unitsOver", "(J)J"⟩ : MethodName)) hown_22 (hw _ (List.mem_of_getElem? (i := 112) rfl)) (hw _ (List.mem_of_getElem? (i := 113) rfl)) (notFace_of_selects (args := #[]) (mvT hZ_22 (hw _ (List.mem_of_getElem? (i := 115) rfl)))) (hw _ (List.mem_of_getElem? (i := 115) rfl)) (hw _ (List.mem_of_getElem? (i := 114) rfl)) (by decide) rfl (a := b_2) f_24 (argsL := [(.long q)]) (rest := []) (Met1.back (W := 0) (rm19 l Z a0 hw b_2 q (p1 &&& (9223372036854775807 : Int64)) T_22.heap n0 f_23 pf_22_0 hq) hZ_22 (hw _ (List.mem_of_getElem? (i := 116) rfl)) (hw _ (List.mem_of_getElem? (i := 3) rfl)) (by decide) (by decide)) (pc := 109) (Ls := #[.val (.long p1), .second, .val (.long p2), .second, .val (.int p3), .val (.long (p1 &&& (9223372036854775807 : Int64))), .second, .val (.long q), .second, .val (.int (p3 &&& (3 : Int32))), .val (.ref b_2), .unset, .unset, .unset, .unset]) (by rw [hml]; rfl) (lenOf own_pd14 rfl) rfl (Nat.le_refl _) (hb hby at_109) (by decide) (by decide) ?_
  intro T_25 v_25 L_25 X_25 hQ_25
  obtain ⟨rfl, Nq_25, hh_25⟩ := hQ_25
  have N_25 := Fr.app N_22 Nq_25
  show Go p e below (FinW s (Q0 Z p1 p2 p3 o z aA cA ci h0 n0) room_1.cells room_1.slots) T_25 (mkF m 112 #[.val (.long p1), .second, .val (.long p2), .second, .val (.int p3), .val (.long (p1 &&& (9223372036854775807 : Int64))), .second, .val (.long q), .second, .val (.int (p3 &&& (3 : Int32))), .val (.ref b_2), .unset, .unset, .unset, .unset] [(.long (own_max (0 : Int64) (q - (p1 &&& (9223372036854775807 : Int64)))))])
  refine Go.to (mkF m 114 #[.val (.long p1), .second, .val (.long p2), .second, .val (.int p3), .val (.long (p1 &&& (9223372036854775807 : Int64))), .second, .val (.long q), .second, .val (.int (p3 &&& (3 : Int32))), .val (.ref b_2), .val (.long (own_max (0 : Int64) (q - (p1 &&& (9223372036854775807 : Int64))))), .second, .unset, .unset] []) (fun _ k => XS.lstore X_25.here hx rfl (hb hby at_112) rfl (l' := #[.val (.long p1), .second, .val (.long p2), .second, .val (.int p3), .val (.long (p1 &&& (9223372036854775807 : Int64))), .second, .val (.long q), .second, .val (.int (p3 &&& (3 : Int32))), .val (.ref b_2), .val (.long (own_max (0 : Int64) (q - (p1 &&& (9223372036854775807 : Int64))))), .second, .unset, .unset]) rfl k) ?_
  refine Go.to (mkF m 116 #[.val (.long p1), .second, .val (.long p2), .second, .val (.int p3), .val (.long (p1 &&& (9223372036854775807 : Int64))), .second, .val (.long q), .second, .val (.int (p3 &&& (3 : Int32))), .val (.ref b_2), .val (.long (own_max (0 : Int64) (q - (p1 &&& (9223372036854775807 : Int64))))), .second, .unset, .unset] [(.long q)]) (fun _ k => XS.lload X_25.here hx rfl (hb hby at_114) rfl  k) ?_
  refine Go.to (mkF m 118 #[.val (.long p1), .second, .val (.long p2), .second, .val (.int p3), .val (.long (p1 &&& (9223372036854775807 : Int64))), .second, .val (.long q), .second, .val (.int (p3 &&& (3 : Int32))), .val (.ref b_2), .val (.long (own_max (0 : Int64) (q - (p1 &&& (9223372036854775807 : Int64))))), .second, .unset, .unset] [(.long (p1 &&& (9223372036854775807 : Int64))), (.long q)]) (fun _ k => XS.lload X_25.here hx rfl (hb hby at_116) rfl  k) ?_
  refine Go.to (mkF m 119 #[.val (.long p1), .second, .val (.long p2), .second, .val (.int p3), .val (.long (p1 &&& (9223372036854775807 : Int64))), .second, .val (.long q), .second, .val (.int (p3 &&& (3 : Int32))), .val (.ref b_2), .val (.long (own_max (0 : Int64) (q - (p1 &&& (9223372036854775807 : Int64))))), .second, .unset, .unset] [(.int (lcmpW q (p1 &&& (9223372036854775807 : Int64))))]) (fun _ k => XS.lcmp X_25.here hx rfl (hb hby at_118) rfl k) ?_
  by_cases hw : (0 : Int32) < (lcmpW q (p1 &&& (9223372036854775807 : Int64)))
  · refine Go.to (mkF m 122 #[.val (.long p1), .second, .val (.long p2), .second, .val (.int p3), .val (.long (p1 &&& (9223372036854775807 : Int64))), .second, .val (.long q), .second, .val (.int (p3 &&& (3 : Int32))), .val (.ref b_2), .val (.long (own_max (0 : Int64) (q - (p1 &&& (9223372036854775807 : Int64))))), .second, .unset, .unset] []) (fun _ k => XS.ifNo X_25.here hx rfl (hb hby at_119) rfl ((if0 _ _).trans (tlt hw).2.2.2) k) ?_
    refine Go.to (mkF m 124 #[.val (.long p1), .second, .val (.long p2), .second, .val (.int p3), .val (.long (p1 &&& (9223372036854775807 : Int64))), .second, .val (.long q), .second, .val (.int (p3 &&& (3 : Int32))), .val (.ref b_2), .val (.long (own_max (0 : Int64) (q - (p1 &&& (9223372036854775807 : Int64))))), .second, .unset, .unset] [(.long q)]) (fun _ k => XS.lload X_25.here hx rfl (hb hby at_122) rfl  k) ?_
    refine Go.to (mkF m 126 #[.val (.long p1), .second, .val (.long p2), .second, .val (.int p3), .val (.long (p1 &&& (9223372036854775807 : Int64))), .second, .val (.long q), .second, .val (.int (p3 &&& (3 : Int32))), .val (.ref b_2), .val (.long (own_max (0 : Int64) (q - (p1 &&& (9223372036854775807 : Int64))))), .second, .unset, .unset] [(.long (p1 &&& (9223372036854775807 : Int64))), (.long q)]) (fun _ k => XS.lload X_25.here hx rfl (hb hby at_124) rfl  k) ?_
    refine Go.to (mkF m 127 #[.val (.long p1), .second, .val (.long p2), .second, .val (.int p3), .val (.long (p1 &&& (9223372036854775807 : Int64))), .second, .val (.long q), .second, .val (.int (p3 &&& (3 : Int32))), .val (.ref b_2), .val (.long (own_max (0 : Int64) (q - (p1 &&& (9223372036854775807 : Int64))))), .second, .unset, .unset] [(.long (q - (p1 &&& (9223372036854775807 : Int64))))]) (fun _ k => XS.lsub X_25.here hx rfl (hb hby at_126) rfl k) ?_
    refine Go.to (mkF m 129 #[.val (.long p1), .second, .val (.long p2), .second, .val (.int p3), .val (.long (p1 &&& (9223372036854775807 : Int64))), .second, .val (.long q), .second, .val (.int (p3 &&& (3 : Int32))), .val (.ref b_2), .val (.long (own_max (0 : Int64) (q - (p1 &&& (9223372036854775807 : Int64))))), .second, .val (.long (q - (p1 &&& (9223372036854775807 : Int64)))), .second] []) (fun _ k => XS.lstore X_25.here hx rfl (hb hby at_127) rfl (l' := #[.val (.long p1), .second, .val (.long p2), .second, .val (.int p3), .val (.long (p1 &&& (9223372036854775807 : Int64))), .second, .val (.long q), .second, .val (.int (p3 &&& (3 : Int32))), .val (.ref b_2), .val (.long (own_max (0 : Int64) (q - (p1 &&& (9223372036854775807 : Int64))))), .second, .val (.long (q - (p1 &&& (9223372036854775807 : Int64)))), .second]) rfl k) ?_
    refine Go.to (mkF m 135 #[.val (.long p1), .second, .val (.long p2), .second, .val (.int p3), .val (.long (p1 &&& (9223372036854775807 : Int64))), .second, .val (.long q), .second, .val (.int (p3 &&& (3 : Int32))), .val (.ref b_2), .val (.long (own_max (0 : Int64) (q - (p1 &&& (9223372036854775807 : Int64))))), .second, .val (.long (q - (p1 &&& (9223372036854775807 : Int64)))), .second] []) (fun _ k => XS.goto X_25.here hx rfl (pc0 := 129) (pc' := 135) rfl (hb hby at_129) (by decide) (by decide) k) ?_
    refine Go.to (mkF m 137 #[.val (.long p1), .second, .val (.long p2), .second, .val (.int p3), .val (.long (p1 &&& (9223372036854775807 : Int64))), .second, .val (.long q), .second, .val (.int (p3 &&& (3 : Int32))), .val (.ref b_2), .val (.long (own_max (0 : Int64) (q - (p1 &&& (9223372036854775807 : Int64))))), .second, .val (.long (q - (p1 &&& (9223372036854775807 : Int64)))), .second] [(.long (own_max (0 : Int64) (q - (p1 &&& (9223372036854775807 : Int64)))))]) (fun _ k => XS.lload X_25.here hx rfl (hb hby at_135) rfl  k) ?_
    refine Go.to (mkF m 139 #[.val (.long p1), .second, .val (.long p2), .second, .val (.int p3), .val (.long (p1 &&& (9223372036854775807 : Int64))), .second, .val (.long q), .second, .val (.int (p3 &&& (3 : Int32))), .val (.ref b_2), .val (.long (own_max (0 : Int64) (q - (p1 &&& (9223372036854775807 : Int64))))), .second, .val (.long (q - (p1 &&& (9223372036854775807 : Int64)))), .second] [(.long (q - (p1 &&& (9223372036854775807 : Int64)))), (.long (own_max (0 : Int64) (q - (p1 &&& (9223372036854775807 : Int64)))))]) (fun _ k => XS.lload X_25.here hx rfl (hb hby at_137) rfl  k) ?_
    refine Go.to (mkF m 140 #[.val (.long p1), .second, .val (.long p2), .second, .val (.int p3), .val (.long (p1 &&& (9223372036854775807 : Int64))), .second, .val (.long q), .second, .val (.int (p3 &&& (3 : Int32))), .val (.ref b_2), .val (.long (own_max (0 : Int64) (q - (p1 &&& (9223372036854775807 : Int64))))), .second, .val (.long (q - (p1 &&& (9223372036854775807 : Int64)))), .second] [(.int (lcmpW (own_max (0 : Int64) (q - (p1 &&& (9223372036854775807 : Int64)))) (q - (p1 &&& (9223372036854775807 : Int64)))))]) (fun _ k => XS.lcmp X_25.here hx rfl (hb hby at_139) rfl k) ?_
    refine Go.to (mkF m 143 #[.val (.long p1), .second, .val (.long p2), .second, .val (.int p3), .val (.long (p1 &&& (9223372036854775807 : Int64))), .second, .val (.long q), .second, .val (.int (p3 &&& (3 : Int32))), .val (.ref b_2), .val (.long (own_max (0 : Int64) (q - (p1 &&& (9223372036854775807 : Int64))))), .second, .val (.long (q - (p1 &&& (9223372036854775807 : Int64)))), .second] []) (fun _ k => XS.ifNo X_25.here hx rfl (hb hby at_140) rfl ((if0 _ _).trans (teq ((lw_eq _ _).mpr (own_gt (own_mask _) hq ((lw_gt _ _).mp hw)))).2) k) ?_
    refine Go.to (mkF m 144 #[.val (.long p1), .second, .val (.long p2), .second, .val (.int p3), .val (.long (p1 &&& (9223372036854775807 : Int64))), .second, .val (.long q), .second, .val (.int (p3 &&& (3 : Int32))), .val (.ref b_2), .val (.long (own_max (0 : Int64) (q - (p1 &&& (9223372036854775807 : Int64))))), .second, .val (.long (q - (p1 &&& (9223372036854775807 : Int64)))), .second] [(.int (1 : Int32))]) (fun _ k => XS.iconst X_25.here hx rfl (hb hby at_143) k) ?_
    refine Go.to (mkF m 148 #[.val (.long p1), .second, .val (.long p2), .second, .val (.int p3), .val (.long (p1 &&& (9223372036854775807 : Int64))), .second, .val (.long q), .second, .val (.int (p3 &&& (3 : Int32))), .val (.ref b_2), .val (.long (own_max (0 : Int64) (q - (p1 &&& (9223372036854775807 : Int64))))), .second, .val (.long (q - (p1 &&& (9223372036854775807 : Int64)))), .second] [(.int (1 : Int32))]) (fun _ k => XS.goto X_25.here hx rfl (pc0 := 144) (pc' := 148) rfl (hb hby at_144) (by decide) (by decide) k) ?_
    refine Go.retNW X_25 hx (t := .boolean) hret hlk (by simp) (hb hby at_148) (by decide) (by decide) hS_22 (by rw [hh_25]; exact (Nat.le_refl _)) (z' := (1 : Int32)) rfl ?_
    show (Q0 Z p1 p2 p3 o z aA cA ci h0 n0) _ T_25.heap _ _
    rw [hh_25]
    exact ⟨rfl, N_25⟩
  · refine Go.to (mkF m 132 #[.val (.long p1), .second, .val (.long p2), .second, .val (.int p3), .val (.long (p1 &&& (9223372036854775807 : Int64))), .second, .val (.long q), .second, .val (.int (p3 &&& (3 : Int32))), .val (.ref b_2), .val (.long (own_max (0 : Int64) (q - (p1 &&& (9223372036854775807 : Int64))))), .second, .unset, .unset] []) (fun _ k => XS.ifYes X_25.here hx rfl (pc0 := 119) (pc' := 132) rfl (hb hby at_119) rfl ((if0 _ _).trans (flt hw).2.2.2) (by decide) (by decide) k) ?_
    refine Go.to (mkF m 133 #[.val (.long p1), .second, .val (.long p2), .second, .val (.int p3), .val (.long (p1 &&& (9223372036854775807 : Int64))), .second, .val (.long q), .second, .val (.int (p3 &&& (3 : Int32))), .val (.ref b_2), .val (.long (own_max (0 : Int64) (q - (p1 &&& (9223372036854775807 : Int64))))), .second, .unset, .unset] [(.long (0 : Int64))]) (fun _ k => XS.lconst X_25.here hx rfl (hb hby at_132) k) ?_
    refine Go.to (mkF m 135 #[.val (.long p1), .second, .val (.long p2), .second, .val (.int p3), .val (.long (p1 &&& (9223372036854775807 : Int64))), .second, .val (.long q), .second, .val (.int (p3 &&& (3 : Int32))), .val (.ref b_2), .val (.long (own_max (0 : Int64) (q - (p1 &&& (9223372036854775807 : Int64))))), .second, .val (.long (0 : Int64)), .second] []) (fun _ k => XS.lstore X_25.here hx rfl (hb hby at_133) rfl (l' := #[.val (.long p1), .second, .val (.long p2), .second, .val (.int p3), .val (.long (p1 &&& (9223372036854775807 : Int64))), .second, .val (.long q), .second, .val (.int (p3 &&& (3 : Int32))), .val (.ref b_2), .val (.long (own_max (0 : Int64) (q - (p1 &&& (9223372036854775807 : Int64))))), .second, .val (.long (0 : Int64)), .second]) rfl k) ?_
    refine Go.to (mkF m 137 #[.val (.long p1), .second, .val (.long p2), .second, .val (.int p3), .val (.long (p1 &&& (9223372036854775807 : Int64))), .second, .val (.long q), .second, .val (.int (p3 &&& (3 : Int32))), .val (.ref b_2), .val (.long (own_max (0 : Int64) (q - (p1 &&& (9223372036854775807 : Int64))))), .second, .val (.long (0 : Int64)), .second] [(.long (own_max (0 : Int64) (q - (p1 &&& (9223372036854775807 : Int64)))))]) (fun _ k => XS.lload X_25.here hx rfl (hb hby at_135) rfl  k) ?_
    refine Go.to (mkF m 139 #[.val (.long p1), .second, .val (.long p2), .second, .val (.int p3), .val (.long (p1 &&& (9223372036854775807 : Int64))), .second, .val (.long q), .second, .val (.int (p3 &&& (3 : Int32))), .val (.ref b_2), .val (.long (own_max (0 : Int64) (q - (p1 &&& (9223372036854775807 : Int64))))), .second, .val (.long (0 : Int64)), .second] [(.long (0 : Int64)), (.long (own_max (0 : Int64) (q - (p1 &&& (9223372036854775807 : Int64)))))]) (fun _ k => XS.lload X_25.here hx rfl (hb hby at_137) rfl  k) ?_
    refine Go.to (mkF m 140 #[.val (.long p1), .second, .val (.long p2), .second, .val (.int p3), .val (.long (p1 &&& (9223372036854775807 : Int64))), .second, .val (.long q), .second, .val (.int (p3 &&& (3 : Int32))), .val (.ref b_2), .val (.long (own_max (0 : Int64) (q - (p1 &&& (9223372036854775807 : Int64))))), .second, .val (.long (0 : Int64)), .second] [(.int (lcmpW (own_max (0 : Int64) (q - (p1 &&& (9223372036854775807 : Int64)))) (0 : Int64)))]) (fun _ k => XS.lcmp X_25.here hx rfl (hb hby at_139) rfl k) ?_
    refine Go.to (mkF m 143 #[.val (.long p1), .second, .val (.long p2), .second, .val (.int p3), .val (.long (p1 &&& (9223372036854775807 : Int64))), .second, .val (.long q), .second, .val (.int (p3 &&& (3 : Int32))), .val (.ref b_2), .val (.long (own_max (0 : Int64) (q - (p1 &&& (9223372036854775807 : Int64))))), .second, .val (.long (0 : Int64)), .second] []) (fun _ k => XS.ifNo X_25.here hx rfl (hb hby at_140) rfl ((if0 _ _).trans (teq ((lw_eq _ _).mpr (own_le (own_mask _) hq (fun k => hw ((lw_gt _ _).mpr k))))).2) k) ?_
    refine Go.to (mkF m 144 #[.val (.long p1), .second, .val (.long p2), .second, .val (.int p3), .val (.long (p1 &&& (9223372036854775807 : Int64))), .second, .val (.long q), .second, .val (.int (p3 &&& (3 : Int32))), .val (.ref b_2), .val (.long (own_max (0 : Int64) (q - (p1 &&& (9223372036854775807 : Int64))))), .second, .val (.long (0 : Int64)), .second] [(.int (1 : Int32))]) (fun _ k => XS.iconst X_25.here hx rfl (hb hby at_143) k) ?_
    refine Go.to (mkF m 148 #[.val (.long p1), .second, .val (.long p2), .second, .val (.int p3), .val (.long (p1 &&& (9223372036854775807 : Int64))), .second, .val (.long q), .second, .val (.int (p3 &&& (3 : Int32))), .val (.ref b_2), .val (.long (own_max (0 : Int64) (q - (p1 &&& (9223372036854775807 : Int64))))), .second, .val (.long (0 : Int64)), .second] [(.int (1 : Int32))]) (fun _ k => XS.goto X_25.here hx rfl (pc0 := 144) (pc' := 148) rfl (hb hby at_144) (by decide) (by decide) k) ?_
    refine Go.retNW X_25 hx (t := .boolean) hret hlk (by simp) (hb hby at_148) (by decide) (by decide) hS_22 (by rw [hh_25]; exact (Nat.le_refl _)) (z' := (1 : Int32)) rfl ?_
    show (Q0 Z p1 p2 p3 o z aA cA ci h0 n0) _ T_25.heap _ _
    rw [hh_25]
    exact ⟨rfl, N_25⟩
set_option maxRecDepth 65536 in
set_option maxHeartbeats 40000000 in
theorem comes_1 {Post : Tables → Env → Array Value → State → Outcome → State → Prop} (hpost : ∀ tb e args s v u, (limb_1_1.after args s (.returned v) u = true ∧ limb_1_2.after args s (.returned v) u = true ∧ True) → ReturnedEndW s (.returned v) u (Jvm.fieldLocs frame_1_writes args s ++ Jvm.arrayLocs frame_1_arrays args s ++ Jvm.staticLocs frame_1_statics s) 16 3200 → Post tb e args s (.returned v) u) :
    ArmFor flags0 classFile x code maxLocals ret World_1 tables_1 room_1 Calls_1 rest_1 Pre_1 Post := by
  intro l hfl _ _ p e ha hc hk s m args below hf hA hF happ hP
  obtain ⟨hcalls, hrest, hpre⟩ := hP
  obtain ⟨-, -, -, hnamed, -, -, -, hat⟩ := (Spec.applies_iff hf).mp happ
  obtain ⟨hg, hn⟩ := and_e (Cond.before_iff.mp (show (Jvm.Cond.and given_1 narrow_1).before args s = true from hpre))
  obtain ⟨gc, ga0⟩ := and_e hg
  obtain ⟨gv0, ga1⟩ := and_e ga0
  obtain ⟨gv1, ga2⟩ := and_e ga1
  have gv2 := ga2
  obtain ⟨w0, w1, w2, rfl⟩ : ∃ w0 w1 w2 : Value, args = #[w0, w1, w2] := by
    have hs : args.size = 3 := by simpa [Cond.value, given_1] using gc
    obtain ⟨L⟩ := args
    match L, hs with
    | [w0, w1, w2], _ => exact ⟨w0, w1, w2, rfl⟩
  have hw := fun d (hd : d ∈ tables_1) => atoms_spec (ws := Jvm.Cond.code x code maxLocals ret :: tables_1) hat d (List.mem_cons_of_mem _ hd)
  have hfit : Fit s := fun {y c} hc i hi => by
    obtain ⟨ha, rfl⟩ := Array.getElem?_eq_some_iff.mp hc
    have q := List.all_eq_true.mp ((Array.all_eq_true_iff_forall_mem.mp hF) _ (Array.getElem_mem ha)) i (List.mem_range.mpr hi)
    simpa [Array.getElem?_eq_getElem hi] using q
  obtain ⟨hsets, hown0⟩ := atoms_of _ (rest_1_c_eq ▸ (show rest_1_c.before _ s = true from hrest))
  obtain ⟨i0, ei0⟩ := isL_v gv0
  obtain rfl : w0 = (.long i0) := Option.some.inj ei0
  obtain ⟨i1, ei1⟩ := isL_v gv1
  obtain rfl : w1 = (.long i1) := Option.some.inj ei1
  obtain ⟨i2, ei2⟩ := is_v gv2
  obtain rfl : w2 = (.int i2) := Option.some.inj ei2
  obtain ⟨o, eo, EO⟩ := own_exa_at (Cond.before_iff.mp (hsets _ (List.mem_of_getElem? (i := 2) rfl)))
  have FO := own_field_at eo (own_eq_null (Cond.before_iff.mp (hsets _ (List.mem_of_getElem? (i := 3) rfl))))
  have SO := Sta.start eo (Or.inl (hsets _ (List.mem_of_getElem? (i := 1) rfl)))
  obtain ⟨z, ez⟩ := is_v (Cond.before_iff.mp (hsets _ (List.mem_of_getElem? (i := 5) rfl)))
  have Sc := Sta.start ez (Or.inl (hsets _ (List.mem_of_getElem? (i := 4) rfl)))
  have hcw := hsets _ (List.mem_of_getElem? (i := 6) rfl)
  have hz : ¬ z = 0 := own_not_eq ez (Cond.before_iff.mp hcw)
  obtain ⟨ci, ec, EC⟩ := own_exa_at (Cond.before_iff.mp (hsets _ (List.mem_of_getElem? (i := 15) rfl)))
  have SI := Sta.start ec (Or.inl (hsets _ (List.mem_of_getElem? (i := 14) rfl)))
  have mA := Cond.before_iff.mp (hsets _ (List.mem_of_getElem? (i := 18) rfl))
  obtain ⟨aA, ea⟩ := arr_v mA
  have SA := Sta.start ea (Or.inl (hsets _ (List.mem_of_getElem? (i := 17) rfl)))
  obtain ⟨cA, Ar⟩ := Arr.start ea mA
  obtain ⟨hin, hat⟩ := elem_in (own_eq_int (Cond.before_iff.mp (hsets _ (List.mem_of_getElem? (i := 136) rfl)))) ea rfl Ar.1
  have hheld := hcalls.1 ("com/example/libprorate/libprorate/core/ItemPriceUnitsOverPinLaw", 13) (List.mem_of_getElem? (i := 2) rfl)
  obtain ⟨n, o, h1, h2, h3, _, L, rfl, ⟨rfl, N⟩, hq⟩ := rm0 l s _ hw i0 i1 i2 o z aA cA ci s.heap s.heap.size (Nat.le_refl _) Sc SA Ar SI EC FO SO EO hz hin hat rfl hheld hcw tables_1 p e ha hc hk s m _ below hf ((Spec.applies_iff_loose hf).mp happ).1 ⟨rfl, State.Warmed39.refl s, rfl, IB.start⟩ trivial
  refine ⟨n, _, h1, h2, h3, hpost _ _ _ _ _ _ ⟨Cond.after_iff.mpr rfl, Cond.after_iff.mpr (eq_i res_at (Term.int_eval (1)) rfl), trivial⟩ ⟨hq.1, hq.2.1, hq.2.2.1, (hq.2.2.2.sift fun y hy => Or.inr (N y hy)).mono (by decide) (by decide)⟩⟩
theorem main_1_1 : Claimed_1_1 := comes_1 fun _ _ _ _ _ _ h hF => ⟨h.1, hF⟩
theorem main_1_2 : Claimed_1_2 := comes_1 fun _ _ _ _ _ _ h hF => ⟨h.2.1, hF⟩
end Jvm.Pilot.@@N@@
namespace Jvm.Pilot.@@N@@
open Jvm Jvm.ClassFile Sem Op Lib Jvm.Free Jvm.Stand Jvm.Pilot.@@N@@.Jvm.D
/-! MADE BY PROGRAM (witnessworld.py) out of the Statement's table words and the real class files: 26 classes; the members and pool entries that the words name. The judged class is class 1, her method 1. -/
namespace start1
open Jvm.ClassFile
def u (s : String) : CpInfo := .utf8 (stringToUtf16 s)
/-- a pool by its gaps: so many unusable entries, then the entry; so many at the end -/
def gap : Nat → List CpInfo → List CpInfo
  | 0, r => r
  | n + 1, r => .unusable :: gap n r
def poolList (es : List (Nat × CpInfo)) (last : Nat) : List CpInfo := es.foldr (fun e r => gap e.1 (e.2 :: r)) (gap last [])
def pool (es : List (Nat × CpInfo)) (last : Nat) : Array CpInfo := ⟨poolList es last⟩
def fileOf (pool : Array CpInfo) (this : Nat) (attrs : Array Attribute := #[]) (ms : Array MethodInfo := #[]) (fl : Nat := 33) (sup : Nat := 0) (ifs : Array Nat := #[]) (fds : Array FieldInfo := #[]) : ClassFile where
  minorVersion := 0
  majorVersion := 65
  constantPool := pool
  accessFlags := fl
  thisClass := this
  superClass := sup
  interfaces := ifs
  fields := fds
  methods := ms
  attributes := attrs
def plain (name : String) (sup : Option ClassId) : Class where
  name := name
  kind := .ordinary
  loader := none
  accessFlags := 33
  super := sup
  interfaces := #[]
  cf := none
  fields := #[]
  methods := #[]
  instanceTypes := #[]
  staticTypes := #[]
  resolved := #[]
  callSites := []
  init := .initialized
  statics := none
  mirror := none

def pool0 : Array CpInfo := pool [(5, u "<init>"), (0, u "()V"), (1, .class_ 10), (1, u "java/lang/Object")] 113

def k0c0 : Code := { maxStack := 0, maxLocals := 1, code := object_method_1_code, exceptionTable := #[], attributes := #[] }
def k0m0 : Method := { name := "<init>", desc := "()V", sig := { parameters := [], returnType := none }, accessFlags := 1, code := some k0c0 }
/-- java/lang/Object -/
def k0 : Class := { plain "java/lang/Object" none with
  accessFlags := 33
  interfaces := #[]
  cf := some (fileOf pool0 8 #[] #[{ accessFlags := 1, nameIndex := 5, descriptorIndex := 6, attributes := #[] }] 33 0 #[] #[])
  fields := #[]
  methods := #[k0m0]
  instanceTypes := #[]
  staticTypes := #[]
  resolved := Array.replicate 124 none
  statics := none }

def pool1 : Array CpInfo := pool [(2, .class_ 4), (1, u "java/lang/Object"), (0, u "<init>"), (0, u "()V"), (2, .long 9223372036854775807), (1, .class_ 12), (0, u "com/example/libprorate/libprorate/core/ItemPrice"), (0, .string 14), (0, u "seats"), (0, .methodref 16 17), (0, .class_ 18), (0, .nameAndType 19 20), (0, u "java/util/Optional"), (0, u "empty"), (0, u "()Ljava/util/Optional;"), (0, .methodref 11 22), (0, .nameAndType 5 23), (0, u "(Ljava/lang/String;JLjava/util/Optional;)V"), (0, .methodref 11 25), (0, .nameAndType 26 27), (0, u "unitsOver"), (0, u "(J)J"), (0, .class_ 29), (0, u "com/example/libprorate/libprorate/core/ItemPriceUnitsOverPinLaw"), (2, u "law"), (0, u "(JJI)Z")] 3

def k1m0 : Method := { name := "<init>", desc := "()V", sig := { parameters := [], returnType := none }, accessFlags := 2, code := none }
def k1c1 : Code := { maxStack := 6, maxLocals := 15, code := code, exceptionTable := #[], attributes := #[] }
def k1m1 : Method := { name := "law", desc := "(JJI)Z", sig := { parameters := [.long, .long, .int], returnType := some .boolean }, accessFlags := 9, code := some k1c1 }
/-- com/example/libprorate/libprorate/core/ItemPriceUnitsOverPinLaw -/
def k1 : Class := { plain "com/example/libprorate/libprorate/core/ItemPriceUnitsOverPinLaw" (some 0) with
  accessFlags := 49
  interfaces := #[]
  cf := some (fileOf pool1 28 #[] #[{ accessFlags := 2, nameIndex := 5, descriptorIndex := 6, attributes := #[] }, { accessFlags := 9, nameIndex := 32, descriptorIndex := 33, attributes := #[] }] 49 2 #[] #[])
  fields := #[]
  methods := #[k1m0, k1m1]
  instanceTypes := #[]
  staticTypes := #[]
  resolved := Array.replicate 37 none
  statics := none }

def pool2 : Array CpInfo := pool [(1, .methodref 2 3), (0, .class_ 4), (0, .nameAndType 5 6), (0, u "java/lang/Object"), (0, u "<init>"), (0, u "()V"), (0, .class_ 8), (0, u "java/lang/Record")] 13

def k2c0 : Code := { maxStack := 1, maxLocals := 1, code := jdk_30_method_1_code, exceptionTable := #[], attributes := #[] }
def k2m0 : Method := { name := "<init>", desc := "()V", sig := { parameters := [], returnType := none }, accessFlags := 4, code := some k2c0 }
/-- java/lang/Record -/
def k2 : Class := { plain "java/lang/Record" (some 0) with
  accessFlags := 1057
  interfaces := #[]
  cf := some (fileOf pool2 7 #[] #[{ accessFlags := 4, nameIndex := 5, descriptorIndex := 6, attributes := #[] }] 1057 2 #[] #[])
  fields := #[]
  methods := #[k2m0]
  instanceTypes := #[]
  staticTypes := #[]
  resolved := Array.replicate 22 none
  statics := none }

def pool3 : Array CpInfo := pool [(1, .methodref 2 3), (0, .class_ 4), (0, .nameAndType 5 6), (0, u "java/lang/Record"), (0, u "<init>"), (0, u "()V"), (0, .string 8), (0, u "item"), (0, .methodref 10 11), (0, .class_ 12), (0, .nameAndType 13 14), (0, u "java/util/Objects"), (0, u "requireNonNull"), (0, u "(Ljava/lang/Object;Ljava/lang/String;)Ljava/lang/Object;"), (0, .string 16), (0, u "overagePrice"), (0, .methodref 18 19), (0, .class_ 20), (0, .nameAndType 21 22), (0, u "java/lang/String"), (0, u "isBlank"), (0, u "()Z"), (11, .methodref 35 36), (0, .class_ 37), (0, .nameAndType 38 22), (0, u "java/util/Optional"), (0, u "isPresent"), (4, .class_ 44), (0, u "com/example/libprorate/libprorate/core/Money"), (11, .invokeDynamic 2 57), (0, .nameAndType 58 59), (0, u "apply"), (0, u "()Ljava/util/function/Function;"), (0, .methodref 35 61), (0, .nameAndType 62 63), (0, u "map"), (0, u "(Ljava/util/function/Function;)Ljava/util/Optional;"), (0, .fieldref 65 66), (0, .class_ 67), (0, .nameAndType 8 68), (0, u "com/example/libprorate/libprorate/core/ItemPrice"), (0, u "Ljava/lang/String;"), (0, .fieldref 65 70), (0, .nameAndType 71 72), (0, u "included"), (0, u "J"), (0, .fieldref 65 74), (0, .nameAndType 16 75), (0, u "Ljava/util/Optional;"), (1, .methodref 78 79), (0, .class_ 80), (0, .nameAndType 81 82), (0, u "java/lang/Math"), (0, u "max"), (0, u "(JJ)J"), (2, u "unitsOver"), (0, u "(J)J"), (14, u "(Ljava/lang/String;JLjava/util/Optional;)V"), (20, .methodType 123), (0, u "(Ljava/lang/Object;)Ljava/lang/Object;"), (0, .methodHandle 5 125), (0, .methodref 43 126), (0, .nameAndType 127 128), (0, u "normalized"), (0, u "()Lcom/example/libprorate/libprorate/core/Money;"), (0, .methodType 130), (0, u "(Lcom/example/libprorate/libprorate/core/Money;)Lcom/example/libprorate/libprorate/core/Money;"), (13, .methodHandle 6 145), (0, .methodref 146 147), (0, .class_ 148), (0, .nameAndType 149 150), (0, u "java/lang/invoke/LambdaMetafactory"), (0, u "metafactory"), (0, u "(Ljava/lang/invoke/MethodHandles$Lookup;Ljava/lang/String;Ljava/lang/invoke/MethodType;Ljava/lang/invoke/MethodType;Ljava/lang/invoke/MethodHandle;Ljava/lang/invoke/MethodType;)Ljava/lang/invoke/CallSite;")] 13

def k3c0 : Code := { maxStack := 5, maxLocals := 5, code := prog_54_method_1_code, exceptionTable := #[], attributes := #[] }
def k3m0 : Method := { name := "<init>", desc := "(Ljava/lang/String;JLjava/util/Optional;)V", sig := { parameters := [(.object "java/lang/String"), .long, (.object "java/util/Optional")], returnType := none }, accessFlags := 1, code := some k3c0 }
def k3c1 : Code := { maxStack := 6, maxLocals := 3, code := prog_54_method_2_code, exceptionTable := #[], attributes := #[] }
def k3m1 : Method := { name := "unitsOver", desc := "(J)J", sig := { parameters := [.long], returnType := some .long }, accessFlags := 1, code := some k3c1 }
/-- com/example/libprorate/libprorate/core/ItemPrice -/
def k3 : Class := { plain "com/example/libprorate/libprorate/core/ItemPrice" (some 2) with
  accessFlags := 49
  interfaces := #[]
  cf := some (fileOf pool3 65 #[.bootstrapMethods #[⟨0, #[]⟩, ⟨0, #[]⟩, ⟨144, #[122, 124, 129]⟩, ⟨0, #[]⟩, ⟨0, #[]⟩]] #[{ accessFlags := 1, nameIndex := 5, descriptorIndex := 101, attributes := #[] }, { accessFlags := 1, nameIndex := 85, descriptorIndex := 86, attributes := #[] }] 49 2 #[] #[{ accessFlags := 18, nameIndex := 8, descriptorIndex := 68, attributes := #[] }, { accessFlags := 18, nameIndex := 71, descriptorIndex := 72, attributes := #[] }, { accessFlags := 18, nameIndex := 16, descriptorIndex := 75, attributes := #[] }])
  fields := #[{ name := "item", type := (.object "java/lang/String"), accessFlags := 18, slot := 0, constantValue := 0 }, { name := "included", type := .long, accessFlags := 18, slot := 1, constantValue := 0 }, { name := "overagePrice", type := (.object "java/util/Optional"), accessFlags := 18, slot := 2, constantValue := 0 }]
  methods := #[k3m0, k3m1]
  instanceTypes := #[(.object "java/lang/String"), .long, (.object "java/util/Optional")]
  staticTypes := #[]
  resolved := Array.replicate 164 none
  callSites := [(0, 103, .constant 4)]
  statics := none }

def pool4 : Array CpInfo := pool [(1, .class_ 2), (0, u "java/io/Serializable"), (0, .class_ 4), (0, u "java/lang/Object")] 2

/-- java/io/Serializable -/
def k4 : Class := { plain "java/io/Serializable" (some 0) with
  accessFlags := 1537
  interfaces := #[]
  cf := some (fileOf pool4 1 #[] #[] 1537 3 #[] #[])
  fields := #[]
  methods := #[]
  instanceTypes := #[]
  staticTypes := #[]
  resolved := Array.replicate 7 none
  statics := none }

def pool5 : Array CpInfo := pool [(1, .class_ 2), (0, u "java/lang/Comparable"), (0, .class_ 4), (0, u "java/lang/Object")] 7

/-- java/lang/Comparable -/
def k5 : Class := { plain "java/lang/Comparable" (some 0) with
  accessFlags := 1537
  interfaces := #[]
  cf := some (fileOf pool5 1 #[] #[] 1537 3 #[] #[])
  fields := #[]
  methods := #[]
  instanceTypes := #[]
  staticTypes := #[]
  resolved := Array.replicate 12 none
  statics := none }

def pool6 : Array CpInfo := pool [(2, .class_ 4), (1, u "java/lang/CharSequence"), (42, .class_ 48), (0, u "java/lang/CharSequence$1CodePointIterator"), (10, .class_ 60), (0, u "java/lang/CharSequence$1CharIterator"), (5, .class_ 67), (0, u "java/lang/Object")] 63

/-- java/lang/CharSequence -/
def k6 : Class := { plain "java/lang/CharSequence" (some 0) with
  accessFlags := 1537
  interfaces := #[]
  cf := some (fileOf pool6 2 #[.nestMembers #[47, 59]] #[] 1537 66 #[] #[])
  fields := #[]
  methods := #[]
  instanceTypes := #[]
  staticTypes := #[]
  resolved := Array.replicate 131 none
  statics := none }

def pool7 : Array CpInfo := pool [(1, .class_ 2), (0, u "java/lang/constant/Constable"), (0, .class_ 4), (0, u "java/lang/Object")] 6

/-- java/lang/constant/Constable -/
def k7 : Class := { plain "java/lang/constant/Constable" (some 0) with
  accessFlags := 1537
  interfaces := #[]
  cf := some (fileOf pool7 1 #[] #[] 1537 3 #[] #[])
  fields := #[]
  methods := #[]
  instanceTypes := #[]
  staticTypes := #[]
  resolved := Array.replicate 11 none
  statics := none }

def pool8 : Array CpInfo := pool [(1, .class_ 2), (0, u "java/lang/constant/ConstantDesc"), (0, .class_ 4), (0, u "java/lang/Object")] 32

/-- java/lang/constant/ConstantDesc -/
def k8 : Class := { plain "java/lang/constant/ConstantDesc" (some 0) with
  accessFlags := 1537
  interfaces := #[]
  cf := some (fileOf pool8 1 #[] #[] 1537 3 #[] #[])
  fields := #[]
  methods := #[]
  instanceTypes := #[]
  staticTypes := #[]
  resolved := Array.replicate 37 none
  statics := none }

def pool9 : Array CpInfo := pool [(2, .class_ 4), (1, u "java/lang/Object"), (0, u "<init>"), (0, u "()V"), (2, .fieldref 10 11), (0, .class_ 12), (0, .nameAndType 13 14), (0, u "java/lang/String"), (0, u "value"), (0, u "[B"), (0, .fieldref 10 16), (0, .nameAndType 17 18), (0, u "coder"), (0, u "B"), (2, u "hash"), (0, u "I"), (2, u "hashIsZero"), (0, u "Z"), (11, .fieldref 10 39), (0, .nameAndType 40 26), (0, u "COMPACT_STRINGS"), (66, .class_ 109), (1, u "java/lang/StringLatin1"), (32, u "()Z"), (191, u "()I"), (0, .methodref 10 336), (0, .nameAndType 17 337), (0, u "()B"), (154, .methodref 10 493), (0, .nameAndType 494 142), (0, u "isLatin1"), (10, .methodref 10 506), (0, .nameAndType 507 334), (0, u "length"), (67, .class_ 576), (0, u "java/lang/CharSequence"), (22, u "CASE_INSENSITIVE_ORDER"), (0, u "Ljava/util/Comparator;"), (30, u "([B)I"), (244, .methodref 10 877), (0, .nameAndType 878 334), (0, u "indexOfNonWhitespace"), (45, .methodref 107 925), (0, .nameAndType 878 631), (26, u "isBlank"), (148, u "serialPersistentFields"), (0, u "[Ljava/io/ObjectStreamField;"), (0, .class_ 1104), (0, u "java/lang/String$CaseInsensitiveComparator"), (1, .class_ 1107), (0, u "java/io/Serializable"), (0, .class_ 1109), (0, u "java/lang/Comparable"), (0, .class_ 1111), (0, u "java/lang/constant/Constable"), (0, .class_ 1113), (0, u "java/lang/constant/ConstantDesc"), (2, u "serialVersionUID"), (0, u "J"), (3, u "REPL"), (0, u "C"), (2, u "LATIN1"), (1, u "UTF16")] 323

def k9m0 : Method := { name := "<init>", desc := "()V", sig := { parameters := [], returnType := none }, accessFlags := 1, code := none }
def k9c1 : Code := { maxStack := 2, maxLocals := 1, code := jdk_42_method_54_code, exceptionTable := #[], attributes := #[] }
def k9m1 : Method := { name := "length", desc := "()I", sig := { parameters := [], returnType := some .int }, accessFlags := 1, code := some k9c1 }
def k9c2 : Code := { maxStack := 2, maxLocals := 1, code := jdk_42_method_117_code, exceptionTable := #[], attributes := #[] }
def k9m2 : Method := { name := "isBlank", desc := "()Z", sig := { parameters := [], returnType := some .boolean }, accessFlags := 1, code := some k9c2 }
def k9c3 : Code := { maxStack := 1, maxLocals := 1, code := jdk_42_method_120_code, exceptionTable := #[], attributes := #[] }
def k9m3 : Method := { name := "indexOfNonWhitespace", desc := "()I", sig := { parameters := [], returnType := some .int }, accessFlags := 2, code := some k9c3 }
def k9c4 : Code := { maxStack := 1, maxLocals := 1, code := jdk_42_method_152_code, exceptionTable := #[], attributes := #[] }
def k9m4 : Method := { name := "coder", desc := "()B", sig := { parameters := [], returnType := some .byte }, accessFlags := 0, code := some k9c4 }
def k9c5 : Code := { maxStack := 1, maxLocals := 1, code := jdk_42_method_154_code, exceptionTable := #[], attributes := #[] }
def k9m5 : Method := { name := "isLatin1", desc := "()Z", sig := { parameters := [], returnType := some .boolean }, accessFlags := 0, code := some k9c5 }
/-- java/lang/String -/
def k9 : Class := { plain "java/lang/String" (some 0) with
  accessFlags := 49
  interfaces := #[4, 5, 6, 7, 8]
  cf := some (fileOf pool9 10 #[.nestMembers #[1103]] #[{ accessFlags := 1, nameIndex := 5, descriptorIndex := 6, attributes := #[] }, { accessFlags := 1, nameIndex := 507, descriptorIndex := 334, attributes := #[] }, { accessFlags := 1, nameIndex := 952, descriptorIndex := 142, attributes := #[] }, { accessFlags := 2, nameIndex := 878, descriptorIndex := 334, attributes := #[] }, { accessFlags := 0, nameIndex := 17, descriptorIndex := 337, attributes := #[] }, { accessFlags := 0, nameIndex := 494, descriptorIndex := 142, attributes := #[] }] 49 2 #[1106, 1108, 575, 1110, 1112] #[{ accessFlags := 18, nameIndex := 13, descriptorIndex := 14, attributes := #[] }, { accessFlags := 18, nameIndex := 17, descriptorIndex := 18, attributes := #[] }, { accessFlags := 2, nameIndex := 21, descriptorIndex := 22, attributes := #[] }, { accessFlags := 2, nameIndex := 25, descriptorIndex := 26, attributes := #[] }, { accessFlags := 26, nameIndex := 1116, descriptorIndex := 1117, attributes := #[] }, { accessFlags := 24, nameIndex := 40, descriptorIndex := 26, attributes := #[] }, { accessFlags := 26, nameIndex := 1101, descriptorIndex := 1102, attributes := #[] }, { accessFlags := 26, nameIndex := 1121, descriptorIndex := 1122, attributes := #[] }, { accessFlags := 25, nameIndex := 599, descriptorIndex := 600, attributes := #[] }, { accessFlags := 24, nameIndex := 1125, descriptorIndex := 18, attributes := #[] }, { accessFlags := 24, nameIndex := 1127, descriptorIndex := 18, attributes := #[] }])
  fields := #[{ name := "value", type := (.array .byte), accessFlags := 18, slot := 0, constantValue := 0 }, { name := "coder", type := .byte, accessFlags := 18, slot := 1, constantValue := 0 }, { name := "hash", type := .int, accessFlags := 2, slot := 2, constantValue := 0 }, { name := "hashIsZero", type := .boolean, accessFlags := 2, slot := 3, constantValue := 0 }, { name := "serialVersionUID", type := .long, accessFlags := 26, slot := 0, constantValue := 0 }, { name := "COMPACT_STRINGS", type := .boolean, accessFlags := 24, slot := 1, constantValue := 0 }, { name := "serialPersistentFields", type := (.array (.object "java/io/ObjectStreamField")), accessFlags := 26, slot := 2, constantValue := 0 }, { name := "REPL", type := .char, accessFlags := 26, slot := 3, constantValue := 0 }, { name := "CASE_INSENSITIVE_ORDER", type := (.object "java/util/Comparator"), accessFlags := 25, slot := 4, constantValue := 0 }, { name := "LATIN1", type := .byte, accessFlags := 24, slot := 5, constantValue := 0 }, { name := "UTF16", type := .byte, accessFlags := 24, slot := 6, constantValue := 0 }]
  methods := #[k9m0, k9m1, k9m2, k9m3, k9m4, k9m5]
  instanceTypes := #[(.array .byte), .byte, .int, .boolean]
  staticTypes := #[.long, .boolean, (.array (.object "java/io/ObjectStreamField")), .char, (.object "java/util/Comparator"), .byte, .byte]
  resolved := Array.replicate 1451 none
  statics := some 0 }

def pool10 : Array CpInfo := pool [(1, .fieldref 2 3), (0, .class_ 4), (0, .nameAndType 5 6), (0, u "java/util/Optional"), (0, u "EMPTY"), (0, u "Ljava/util/Optional;"), (1, .class_ 10), (1, u "java/lang/Object"), (2, .fieldref 2 14), (0, .nameAndType 15 16), (0, u "value"), (0, u "Ljava/lang/Object;"), (0, .methodref 18 19), (0, .class_ 20), (0, .nameAndType 21 22), (0, u "java/util/Objects"), (0, u "requireNonNull"), (0, u "(Ljava/lang/Object;)Ljava/lang/Object;"), (20, .methodref 2 44), (0, .nameAndType 45 46), (0, u "isEmpty"), (0, u "()Z"), (6, .methodref 2 54), (0, .nameAndType 55 56), (0, u "empty"), (0, u "()Ljava/util/Optional;"), (11, u "isPresent"), (77, u "map"), (0, u "(Ljava/util/function/Function;)Ljava/util/Optional;")] 39

def k10c0 : Code := { maxStack := 1, maxLocals := 1, code := jdk_32_method_1_code, exceptionTable := #[], attributes := #[] }
def k10m0 : Method := { name := "empty", desc := "()Ljava/util/Optional;", sig := { parameters := [], returnType := some (.object "java/util/Optional") }, accessFlags := 9, code := some k10c0 }
def k10c1 : Code := { maxStack := 1, maxLocals := 1, code := jdk_32_method_6_code, exceptionTable := #[], attributes := #[] }
def k10m1 : Method := { name := "isPresent", desc := "()Z", sig := { parameters := [], returnType := some .boolean }, accessFlags := 1, code := some k10c1 }
def k10c2 : Code := { maxStack := 1, maxLocals := 1, code := jdk_32_method_7_code, exceptionTable := #[], attributes := #[] }
def k10m2 : Method := { name := "isEmpty", desc := "()Z", sig := { parameters := [], returnType := some .boolean }, accessFlags := 1, code := some k10c2 }
def k10c3 : Code := { maxStack := 2, maxLocals := 2, code := jdk_32_method_11_code, exceptionTable := #[], attributes := #[] }
def k10m3 : Method := { name := "map", desc := "(Ljava/util/function/Function;)Ljava/util/Optional;", sig := { parameters := [(.object "java/util/function/Function")], returnType := some (.object "java/util/Optional") }, accessFlags := 1, code := some k10c3 }
/-- java/util/Optional -/
def k10 : Class := { plain "java/util/Optional" (some 0) with
  accessFlags := 49
  interfaces := #[]
  cf := some (fileOf pool10 2 #[] #[{ accessFlags := 9, nameIndex := 55, descriptorIndex := 56, attributes := #[] }, { accessFlags := 1, nameIndex := 68, descriptorIndex := 46, attributes := #[] }, { accessFlags := 1, nameIndex := 45, descriptorIndex := 46, attributes := #[] }, { accessFlags := 1, nameIndex := 146, descriptorIndex := 147, attributes := #[] }] 49 8 #[] #[{ accessFlags := 26, nameIndex := 5, descriptorIndex := 6, attributes := #[] }, { accessFlags := 18, nameIndex := 15, descriptorIndex := 16, attributes := #[] }])
  fields := #[{ name := "EMPTY", type := (.object "java/util/Optional"), accessFlags := 26, slot := 0, constantValue := 0 }, { name := "value", type := (.object "java/lang/Object"), accessFlags := 18, slot := 0, constantValue := 0 }]
  methods := #[k10m0, k10m1, k10m2, k10m3]
  instanceTypes := #[(.object "java/lang/Object")]
  staticTypes := #[(.object "java/util/Optional")]
  resolved := Array.replicate 187 none
  statics := some 1 }

def pool11 : Array CpInfo := pool [(2, .class_ 4), (1, u "java/lang/Object"), (0, u "<init>"), (0, u "()V"), (35, .class_ 44), (1, u "java/util/Objects"), (0, u "requireNonNull"), (0, u "(Ljava/lang/Object;)Ljava/lang/Object;"), (47, u "(Ljava/lang/Object;Ljava/lang/String;)Ljava/lang/Object;")] 89

def k11m0 : Method := { name := "<init>", desc := "()V", sig := { parameters := [], returnType := none }, accessFlags := 2, code := none }
def k11c1 : Code := { maxStack := 2, maxLocals := 1, code := jdk_31_method_10_code, exceptionTable := #[], attributes := #[] }
def k11m1 : Method := { name := "requireNonNull", desc := "(Ljava/lang/Object;)Ljava/lang/Object;", sig := { parameters := [(.object "java/lang/Object")], returnType := some (.object "java/lang/Object") }, accessFlags := 9, code := some k11c1 }
def k11c2 : Code := { maxStack := 3, maxLocals := 2, code := jdk_31_method_11_code, exceptionTable := #[], attributes := #[] }
def k11m2 : Method := { name := "requireNonNull", desc := "(Ljava/lang/Object;Ljava/lang/String;)Ljava/lang/Object;", sig := { parameters := [(.object "java/lang/Object"), (.object "java/lang/String")], returnType := some (.object "java/lang/Object") }, accessFlags := 9, code := some k11c2 }
/-- java/util/Objects -/
def k11 : Class := { plain "java/util/Objects" (some 0) with
  accessFlags := 49
  interfaces := #[]
  cf := some (fileOf pool11 42 #[] #[{ accessFlags := 2, nameIndex := 5, descriptorIndex := 6, attributes := #[] }, { accessFlags := 9, nameIndex := 45, descriptorIndex := 46, attributes := #[] }, { accessFlags := 9, nameIndex := 45, descriptorIndex := 94, attributes := #[] }] 49 2 #[] #[])
  fields := #[]
  methods := #[k11m0, k11m1, k11m2]
  instanceTypes := #[]
  staticTypes := #[]
  resolved := Array.replicate 184 none
  statics := none }

def pool12 : Array CpInfo := pool [(4, .class_ 6), (1, u "java/lang/Object"), (0, u "<init>"), (0, u "()V"), (5, .class_ 16), (1, u "java/lang/StringLatin1"), (33, .methodref 14 51), (0, .nameAndType 52 53), (0, u "getChar"), (0, u "([BI)C"), (3, u "([B)I"), (8, .fieldref 67 68), (0, .class_ 69), (0, .nameAndType 70 71), (0, u "java/lang/CharacterDataLatin1"), (0, u "instance"), (0, u "Ljava/lang/CharacterDataLatin1;"), (19, u "(I)Z"), (29, u "$assertionsDisabled"), (0, u "Z"), (88, .methodref 67 212), (0, .nameAndType 213 91), (0, u "isWhitespace"), (2, u "indexOfNonWhitespace"), (4, .class_ 223), (1, u "java/lang/StringLatin1$LinesSpliterator"), (166, .class_ 391), (0, u "java/lang/StringLatin1$CharsSpliterator")] 3

def k12m0 : Method := { name := "<init>", desc := "()V", sig := { parameters := [], returnType := none }, accessFlags := 0, code := none }
def k12c1 : Code := { maxStack := 2, maxLocals := 4, code := jdk_43_method_37_code, exceptionTable := #[], attributes := #[] }
def k12m1 : Method := { name := "indexOfNonWhitespace", desc := "([B)I", sig := { parameters := [(.array .byte)], returnType := some .int }, accessFlags := 9, code := some k12c1 }
def k12c2 : Code := { maxStack := 2, maxLocals := 2, code := jdk_43_method_44_code, exceptionTable := #[], attributes := #[] }
def k12m2 : Method := { name := "getChar", desc := "([BI)C", sig := { parameters := [(.array .byte), .int], returnType := some .char }, accessFlags := 9, code := some k12c2 }
/-- java/lang/StringLatin1 -/
def k12 : Class := { plain "java/lang/StringLatin1" (some 0) with
  accessFlags := 48
  interfaces := #[]
  cf := some (fileOf pool12 14 #[.nestMembers #[390, 221]] #[{ accessFlags := 0, nameIndex := 7, descriptorIndex := 8, attributes := #[] }, { accessFlags := 9, nameIndex := 216, descriptorIndex := 57, attributes := #[] }, { accessFlags := 9, nameIndex := 52, descriptorIndex := 53, attributes := #[] }] 48 4 #[] #[{ accessFlags := 4120, nameIndex := 121, descriptorIndex := 122, attributes := #[] }])
  fields := #[{ name := "$assertionsDisabled", type := .boolean, accessFlags := 4120, slot := 0, constantValue := 0 }]
  methods := #[k12m0, k12m1, k12m2]
  instanceTypes := #[]
  staticTypes := #[.boolean]
  resolved := Array.replicate 395 none
  statics := none }

def pool13 : Array CpInfo := pool [(2, .class_ 4), (1, u "java/lang/Object"), (0, u "<init>"), (0, u "()V"), (1, .class_ 10), (1, u "java/lang/CharacterData")] 75

def k13m0 : Method := { name := "<init>", desc := "()V", sig := { parameters := [], returnType := none }, accessFlags := 0, code := none }
/-- java/lang/CharacterData -/
def k13 : Class := { plain "java/lang/CharacterData" (some 0) with
  accessFlags := 1056
  interfaces := #[]
  cf := some (fileOf pool13 8 #[] #[{ accessFlags := 0, nameIndex := 5, descriptorIndex := 6, attributes := #[] }] 1056 2 #[] #[])
  fields := #[]
  methods := #[k13m0]
  instanceTypes := #[]
  staticTypes := #[]
  resolved := Array.replicate 86 none
  statics := none }

def pool14 : Array CpInfo := pool [(1, .fieldref 2 3), (0, .class_ 4), (0, .nameAndType 5 6), (0, u "java/lang/CharacterDataLatin1"), (0, u "A"), (0, u "[I"), (2, u "B"), (0, u "[C"), (3, u "(I)I"), (0, .methodref 2 16), (0, .nameAndType 17 14), (0, u "getProperties"), (3, u "(I)Z"), (5, u "DIGITS"), (0, u "[B"), (8, u "sharpsMap"), (1, .class_ 41), (1, u "java/lang/CharacterData"), (0, u "<init>"), (0, u "()V"), (3, u "instance"), (0, u "Ljava/lang/CharacterDataLatin1;"), (78, u "isWhitespace")] 13

def k14c0 : Code := { maxStack := 2, maxLocals := 4, code := jdk_116_method_1_code, exceptionTable := #[], attributes := #[] }
def k14m0 : Method := { name := "getProperties", desc := "(I)I", sig := { parameters := [.int], returnType := some .int }, accessFlags := 0, code := some k14c0 }
def k14c1 : Code := { maxStack := 2, maxLocals := 3, code := jdk_116_method_26_code, exceptionTable := #[], attributes := #[] }
def k14m1 : Method := { name := "isWhitespace", desc := "(I)Z", sig := { parameters := [.int], returnType := some .boolean }, accessFlags := 0, code := some k14c1 }
def k14m2 : Method := { name := "<init>", desc := "()V", sig := { parameters := [], returnType := none }, accessFlags := 2, code := none }
/-- java/lang/CharacterDataLatin1 -/
def k14 : Class := { plain "java/lang/CharacterDataLatin1" (some 13) with
  accessFlags := 32
  interfaces := #[]
  cf := some (fileOf pool14 2 #[] #[{ accessFlags := 0, nameIndex := 17, descriptorIndex := 14, attributes := #[] }, { accessFlags := 0, nameIndex := 127, descriptorIndex := 21, attributes := #[] }, { accessFlags := 2, nameIndex := 42, descriptorIndex := 43, attributes := #[] }] 32 39 #[] #[{ accessFlags := 26, nameIndex := 27, descriptorIndex := 28, attributes := #[] }, { accessFlags := 8, nameIndex := 37, descriptorIndex := 10, attributes := #[] }, { accessFlags := 24, nameIndex := 47, descriptorIndex := 48, attributes := #[] }, { accessFlags := 24, nameIndex := 5, descriptorIndex := 6, attributes := #[] }, { accessFlags := 24, nameIndex := 9, descriptorIndex := 10, attributes := #[] }])
  fields := #[{ name := "DIGITS", type := (.array .byte), accessFlags := 26, slot := 0, constantValue := 0 }, { name := "sharpsMap", type := (.array .char), accessFlags := 8, slot := 1, constantValue := 0 }, { name := "instance", type := (.object "java/lang/CharacterDataLatin1"), accessFlags := 24, slot := 2, constantValue := 0 }, { name := "A", type := (.array .int), accessFlags := 24, slot := 3, constantValue := 0 }, { name := "B", type := (.array .char), accessFlags := 24, slot := 4, constantValue := 0 }]
  methods := #[k14m0, k14m1, k14m2]
  instanceTypes := #[]
  staticTypes := #[(.array .byte), (.array .char), (.object "java/lang/CharacterDataLatin1"), (.array .int), (.array .char)]
  resolved := Array.replicate 141 none
  statics := some 2 }

def pool15 : Array CpInfo := pool [(6, u "(Ljava/lang/Object;)Ljava/lang/Object;"), (2, u "apply"), (6, .class_ 18), (1, u "java/util/function/Function"), (0, .class_ 20), (0, u "java/lang/Object")] 56

def k15m0 : Method := { name := "apply", desc := "(Ljava/lang/Object;)Ljava/lang/Object;", sig := { parameters := [(.object "java/lang/Object")], returnType := some (.object "java/lang/Object") }, accessFlags := 1025, code := none }
/-- java/util/function/Function -/
def k15 : Class := { plain "java/util/function/Function" (some 0) with
  accessFlags := 1537
  interfaces := #[]
  cf := some (fileOf pool15 16 #[] #[{ accessFlags := 1025, nameIndex := 9, descriptorIndex := 6, attributes := #[] }] 1537 19 #[] #[])
  fields := #[]
  methods := #[k15m0]
  instanceTypes := #[]
  staticTypes := #[]
  resolved := Array.replicate 77 none
  statics := none }

def pool16 : Array CpInfo := pool [(2, .class_ 4), (1, u "java/lang/Object"), (3, .class_ 10), (1, u "com/example/libprorate/libprorate/core/Money"), (0, u "amount"), (0, u "Ljava/math/BigDecimal;"), (2, u "currency"), (0, u "Ljava/util/Currency;"), (42, u "()Lcom/example/libprorate/libprorate/core/Money;"), (107, u "normalized")] 26

def k16c0 : Code := { maxStack := 4, maxLocals := 4, code := ⟨#[0x2a, 0xb6, 0x00, 0x70, 0x99, 0x00, 0x08, 0x2a, 0x4c, 0xa7, 0x00, 0x2b, 0x2a, 0xb4, 0x00, 0x07, 0xb6, 0x00, 0x74, 0x4d, 0x2c, 0xb6, 0x00, 0x6d, 0x2a, 0xb4, 0x00, 0x0d, 0xb6, 0x00, 0x19, 0xb8, 0x00, 0x77, 0x3e, 0xbb, 0x00, 0x08, 0x59, 0x2c, 0x1d, 0xb6, 0x00, 0x7d, 0x2a, 0xb4, 0x00, 0x0d, 0xb7, 0x00, 0x2c, 0x4c, 0x2b, 0xb0]⟩, exceptionTable := #[], attributes := #[] }
def k16m0 : Method := { name := "normalized", desc := "()Lcom/example/libprorate/libprorate/core/Money;", sig := { parameters := [], returnType := some (.object "com/example/libprorate/libprorate/core/Money") }, accessFlags := 1, code := some k16c0 }
/-- com/example/libprorate/libprorate/core/Money -/
def k16 : Class := { plain "com/example/libprorate/libprorate/core/Money" (some 0) with
  accessFlags := 49
  interfaces := #[]
  cf := some (fileOf pool16 8 #[] #[{ accessFlags := 1, nameIndex := 167, descriptorIndex := 59, attributes := #[] }] 49 2 #[] #[{ accessFlags := 18, nameIndex := 11, descriptorIndex := 12, attributes := #[] }, { accessFlags := 18, nameIndex := 15, descriptorIndex := 16, attributes := #[] }])
  fields := #[{ name := "amount", type := (.object "java/math/BigDecimal"), accessFlags := 18, slot := 0, constantValue := 0 }, { name := "currency", type := (.object "java/util/Currency"), accessFlags := 18, slot := 1, constantValue := 0 }]
  methods := #[k16m0]
  instanceTypes := #[(.object "java/math/BigDecimal"), (.object "java/util/Currency")]
  staticTypes := #[]
  resolved := Array.replicate 194 none
  statics := none }

def pool17 : Array CpInfo := pool [(1, .class_ 2), (0, u "java/lang/Math"), (1, .class_ 6), (1, u "java/lang/Object"), (0, u "<init>"), (0, u "()V"), (89, .class_ 100), (1, u "java/lang/Math$RandomNumberGeneratorHolder"), (20, u "(JJ)J"), (50, u "negativeZeroFloatBits"), (0, u "J"), (2, u "negativeZeroDoubleBits"), (21, u "max"), (46, u "$assertionsDisabled"), (0, u "Z"), (91, u "twoToTheDoubleScaleDown"), (0, u "D"), (4, u "twoToTheDoubleScaleUp"), (9, u "E"), (3, u "PI"), (2, u "TAU"), (2, u "DEGREES_TO_RADIANS"), (0, u "RADIANS_TO_DEGREES")] 94

def k17m0 : Method := { name := "<init>", desc := "()V", sig := { parameters := [], returnType := none }, accessFlags := 2, code := none }
def k17c1 : Code := { maxStack := 4, maxLocals := 4, code := jdk_29_method_66_code, exceptionTable := #[], attributes := #[] }
def k17m1 : Method := { name := "max", desc := "(JJ)J", sig := { parameters := [.long, .long], returnType := some .long }, accessFlags := 9, code := some k17c1 }
/-- java/lang/Math -/
def k17 : Class := { plain "java/lang/Math" (some 0) with
  accessFlags := 49
  interfaces := #[]
  cf := some (fileOf pool17 1 #[.nestMembers #[98]] #[{ accessFlags := 2, nameIndex := 7, descriptorIndex := 8, attributes := #[] }, { accessFlags := 9, nameIndex := 198, descriptorIndex := 121, attributes := #[] }] 49 4 #[] #[{ accessFlags := 25, nameIndex := 354, descriptorIndex := 339, attributes := #[] }, { accessFlags := 25, nameIndex := 358, descriptorIndex := 339, attributes := #[] }, { accessFlags := 25, nameIndex := 361, descriptorIndex := 339, attributes := #[] }, { accessFlags := 26, nameIndex := 364, descriptorIndex := 339, attributes := #[] }, { accessFlags := 26, nameIndex := 365, descriptorIndex := 339, attributes := #[] }, { accessFlags := 26, nameIndex := 172, descriptorIndex := 173, attributes := #[] }, { accessFlags := 26, nameIndex := 176, descriptorIndex := 173, attributes := #[] }, { accessFlags := 8, nameIndex := 344, descriptorIndex := 339, attributes := #[] }, { accessFlags := 8, nameIndex := 338, descriptorIndex := 339, attributes := #[] }, { accessFlags := 4120, nameIndex := 245, descriptorIndex := 246, attributes := #[] }])
  fields := #[{ name := "E", type := .double, accessFlags := 25, slot := 0, constantValue := 0 }, { name := "PI", type := .double, accessFlags := 25, slot := 1, constantValue := 0 }, { name := "TAU", type := .double, accessFlags := 25, slot := 2, constantValue := 0 }, { name := "DEGREES_TO_RADIANS", type := .double, accessFlags := 26, slot := 3, constantValue := 0 }, { name := "RADIANS_TO_DEGREES", type := .double, accessFlags := 26, slot := 4, constantValue := 0 }, { name := "negativeZeroFloatBits", type := .long, accessFlags := 26, slot := 5, constantValue := 0 }, { name := "negativeZeroDoubleBits", type := .long, accessFlags := 26, slot := 6, constantValue := 0 }, { name := "twoToTheDoubleScaleUp", type := .double, accessFlags := 8, slot := 7, constantValue := 0 }, { name := "twoToTheDoubleScaleDown", type := .double, accessFlags := 8, slot := 8, constantValue := 0 }, { name := "$assertionsDisabled", type := .boolean, accessFlags := 4120, slot := 9, constantValue := 0 }]
  methods := #[k17m0, k17m1]
  instanceTypes := #[]
  staticTypes := #[.double, .double, .double, .double, .double, .long, .long, .double, .double, .boolean]
  resolved := Array.replicate 460 none
  statics := none }

def pool18 : Array CpInfo := pool [(2, .class_ 4), (1, u "java/lang/Object"), (0, u "<init>"), (0, u "()V"), (17, .class_ 26), (1, u "jdk/internal/util/Preconditions"), (28, .class_ 56), (0, u "jdk/internal/util/Preconditions$4"), (57, .class_ 115), (0, u "jdk/internal/util/Preconditions$1"), (7, u "SIOOBE_FORMATTER"), (0, u "Ljava/util/function/BiFunction;"), (0, .class_ 126), (0, u "jdk/internal/util/Preconditions$2"), (3, u "AIOOBE_FORMATTER"), (0, .class_ 132), (0, u "jdk/internal/util/Preconditions$3"), (3, u "IOOBE_FORMATTER")] 57

def k18m0 : Method := { name := "<init>", desc := "()V", sig := { parameters := [], returnType := none }, accessFlags := 1, code := none }
/-- jdk/internal/util/Preconditions -/
def k18 : Class := { plain "jdk/internal/util/Preconditions" (some 0) with
  accessFlags := 33
  interfaces := #[]
  cf := some (fileOf pool18 24 #[.nestMembers #[55, 131, 125, 114]] #[{ accessFlags := 1, nameIndex := 5, descriptorIndex := 6, attributes := #[] }] 33 2 #[] #[{ accessFlags := 25, nameIndex := 123, descriptorIndex := 124, attributes := #[] }, { accessFlags := 25, nameIndex := 130, descriptorIndex := 124, attributes := #[] }, { accessFlags := 25, nameIndex := 136, descriptorIndex := 124, attributes := #[] }])
  fields := #[{ name := "SIOOBE_FORMATTER", type := (.object "java/util/function/BiFunction"), accessFlags := 25, slot := 0, constantValue := 0 }, { name := "AIOOBE_FORMATTER", type := (.object "java/util/function/BiFunction"), accessFlags := 25, slot := 1, constantValue := 0 }, { name := "IOOBE_FORMATTER", type := (.object "java/util/function/BiFunction"), accessFlags := 25, slot := 2, constantValue := 0 }]
  methods := #[k18m0]
  instanceTypes := #[]
  staticTypes := #[(.object "java/util/function/BiFunction"), (.object "java/util/function/BiFunction"), (.object "java/util/function/BiFunction")]
  resolved := Array.replicate 194 none
  statics := some 3 }

def pool19 : Array CpInfo := pool [(9, u "<init>"), (6, .class_ 18), (1, u "java/lang/Object"), (0, u "()V"), (1, .class_ 23), (1, u "jdk/internal/util/ArraysSupport"), (0, u "LOG2_ARRAY_LONG_INDEX_SCALE"), (0, u "I"), (2, u "U"), (0, u "Ljdk/internal/misc/Unsafe;"), (8, u "BIG_ENDIAN"), (0, u "Z"), (8, u "LOG2_BYTE_BIT_SIZE"), (4, u "LOG2_ARRAY_INT_INDEX_SCALE"), (54, u "JLA"), (0, u "Ljdk/internal/access/JavaLangAccess;"), (11, u "LOG2_ARRAY_BOOLEAN_INDEX_SCALE"), (9, u "LOG2_ARRAY_BYTE_INDEX_SCALE"), (5, u "LOG2_ARRAY_CHAR_INDEX_SCALE"), (5, u "LOG2_ARRAY_SHORT_INDEX_SCALE"), (18, u "LOG2_ARRAY_FLOAT_INDEX_SCALE"), (24, u "LOG2_ARRAY_DOUBLE_INDEX_SCALE"), (89, u "T_BOOLEAN"), (2, u "T_CHAR"), (1, u "T_FLOAT"), (1, u "T_DOUBLE"), (1, u "T_BYTE"), (1, u "T_SHORT"), (1, u "T_INT"), (1, u "T_LONG"), (1, u "SOFT_MAX_ARRAY_LENGTH")] 83

def k19m0 : Method := { name := "<init>", desc := "()V", sig := { parameters := [], returnType := none }, accessFlags := 2, code := none }
/-- jdk/internal/util/ArraysSupport -/
def k19 : Class := { plain "jdk/internal/util/ArraysSupport" (some 0) with
  accessFlags := 33
  interfaces := #[]
  cf := some (fileOf pool19 21 #[] #[{ accessFlags := 2, nameIndex := 9, descriptorIndex := 19, attributes := #[] }] 33 16 #[] #[{ accessFlags := 24, nameIndex := 28, descriptorIndex := 29, attributes := #[] }, { accessFlags := 26, nameIndex := 38, descriptorIndex := 39, attributes := #[] }, { accessFlags := 25, nameIndex := 121, descriptorIndex := 25, attributes := #[] }, { accessFlags := 25, nameIndex := 131, descriptorIndex := 25, attributes := #[] }, { accessFlags := 25, nameIndex := 137, descriptorIndex := 25, attributes := #[] }, { accessFlags := 25, nameIndex := 143, descriptorIndex := 25, attributes := #[] }, { accessFlags := 25, nameIndex := 53, descriptorIndex := 25, attributes := #[] }, { accessFlags := 25, nameIndex := 24, descriptorIndex := 25, attributes := #[] }, { accessFlags := 25, nameIndex := 162, descriptorIndex := 25, attributes := #[] }, { accessFlags := 25, nameIndex := 187, descriptorIndex := 25, attributes := #[] }, { accessFlags := 26, nameIndex := 48, descriptorIndex := 25, attributes := #[] }, { accessFlags := 25, nameIndex := 277, descriptorIndex := 25, attributes := #[] }, { accessFlags := 25, nameIndex := 280, descriptorIndex := 25, attributes := #[] }, { accessFlags := 25, nameIndex := 282, descriptorIndex := 25, attributes := #[] }, { accessFlags := 25, nameIndex := 284, descriptorIndex := 25, attributes := #[] }, { accessFlags := 25, nameIndex := 286, descriptorIndex := 25, attributes := #[] }, { accessFlags := 25, nameIndex := 288, descriptorIndex := 25, attributes := #[] }, { accessFlags := 25, nameIndex := 290, descriptorIndex := 25, attributes := #[] }, { accessFlags := 25, nameIndex := 292, descriptorIndex := 25, attributes := #[] }, { accessFlags := 26, nameIndex := 108, descriptorIndex := 109, attributes := #[] }, { accessFlags := 25, nameIndex := 294, descriptorIndex := 25, attributes := #[] }])
  fields := #[{ name := "U", type := (.object "jdk/internal/misc/Unsafe"), accessFlags := 24, slot := 0, constantValue := 0 }, { name := "BIG_ENDIAN", type := .boolean, accessFlags := 26, slot := 1, constantValue := 0 }, { name := "LOG2_ARRAY_BOOLEAN_INDEX_SCALE", type := .int, accessFlags := 25, slot := 2, constantValue := 0 }, { name := "LOG2_ARRAY_BYTE_INDEX_SCALE", type := .int, accessFlags := 25, slot := 3, constantValue := 0 }, { name := "LOG2_ARRAY_CHAR_INDEX_SCALE", type := .int, accessFlags := 25, slot := 4, constantValue := 0 }, { name := "LOG2_ARRAY_SHORT_INDEX_SCALE", type := .int, accessFlags := 25, slot := 5, constantValue := 0 }, { name := "LOG2_ARRAY_INT_INDEX_SCALE", type := .int, accessFlags := 25, slot := 6, constantValue := 0 }, { name := "LOG2_ARRAY_LONG_INDEX_SCALE", type := .int, accessFlags := 25, slot := 7, constantValue := 0 }, { name := "LOG2_ARRAY_FLOAT_INDEX_SCALE", type := .int, accessFlags := 25, slot := 8, constantValue := 0 }, { name := "LOG2_ARRAY_DOUBLE_INDEX_SCALE", type := .int, accessFlags := 25, slot := 9, constantValue := 0 }, { name := "LOG2_BYTE_BIT_SIZE", type := .int, accessFlags := 26, slot := 10, constantValue := 0 }, { name := "T_BOOLEAN", type := .int, accessFlags := 25, slot := 11, constantValue := 0 }, { name := "T_CHAR", type := .int, accessFlags := 25, slot := 12, constantValue := 0 }, { name := "T_FLOAT", type := .int, accessFlags := 25, slot := 13, constantValue := 0 }, { name := "T_DOUBLE", type := .int, accessFlags := 25, slot := 14, constantValue := 0 }, { name := "T_BYTE", type := .int, accessFlags := 25, slot := 15, constantValue := 0 }, { name := "T_SHORT", type := .int, accessFlags := 25, slot := 16, constantValue := 0 }, { name := "T_INT", type := .int, accessFlags := 25, slot := 17, constantValue := 0 }, { name := "T_LONG", type := .int, accessFlags := 25, slot := 18, constantValue := 0 }, { name := "JLA", type := (.object "jdk/internal/access/JavaLangAccess"), accessFlags := 26, slot := 19, constantValue := 0 }, { name := "SOFT_MAX_ARRAY_LENGTH", type := .int, accessFlags := 25, slot := 20, constantValue := 0 }]
  methods := #[k19m0]
  instanceTypes := #[]
  staticTypes := #[(.object "jdk/internal/misc/Unsafe"), .boolean, .int, .int, .int, .int, .int, .int, .int, .int, .int, .int, .int, .int, .int, .int, .int, .int, .int, (.object "jdk/internal/access/JavaLangAccess"), .int]
  resolved := Array.replicate 378 none
  statics := none }

def pool20 : Array CpInfo := pool [(1, u "java/lang/Cloneable"), (0, .class_ 1), (0, u "java/lang/Object"), (0, .class_ 3)] 3

/-- java/lang/Cloneable -/
def k20 : Class := { plain "java/lang/Cloneable" (some 0) with
  accessFlags := 1537
  interfaces := #[]
  cf := some (fileOf pool20 2 #[] #[] 1537 4 #[] #[])
  fields := #[]
  methods := #[]
  instanceTypes := #[]
  staticTypes := #[]
  resolved := Array.replicate 8 none
  statics := none }

/-- the primitive byte -/
def k21 : Class := { plain "byte" none with kind := .primitive 'B', accessFlags := 0x411 }
/-- [B -/
def k22 : Class := { plain "[B" (some 0) with kind := .array 21 .byte, interfaces := #[20, 4], accessFlags := 1041 }

/-- the primitive int -/
def k23 : Class := { plain "int" none with kind := .primitive 'I', accessFlags := 0x411 }
/-- [I -/
def k24 : Class := { plain "[I" (some 0) with kind := .array 23 .int, interfaces := #[20, 4], accessFlags := 1041 }

def classes0 : Array Class := #[k0, k1, k2, k3, k4, k5, k6, k7, k8, k9, k10, k11, k12, k13, k14, k15, k16, k17, k18, k19, k20, k21, k22, k23, k24]
/-- the class that the rule has made for the site at 103 of com/example/libprorate/libprorate/core/ItemPrice.<init> -/
def k25 : Class := Jvm.LamKit.madeRec { classes := classes0 } "com/example/libprorate/libprorate/core/ItemPrice" (Jvm.Lambda.Shape.mk "java/util/function/Function" "apply" (Jvm.ClassFile.MethodDescriptor.mk ([(Jvm.ClassFile.FieldType.object "java/lang/Object")] : List Jvm.ClassFile.FieldType) (Option.some (Jvm.ClassFile.FieldType.object "java/lang/Object"))) ([] : List Jvm.ClassFile.FieldType) (5 : Nat) "com/example/libprorate/libprorate/core/Money" "normalized" (Jvm.ClassFile.MethodDescriptor.mk ([] : List Jvm.ClassFile.FieldType) (Option.some (Jvm.ClassFile.FieldType.object "com/example/libprorate/libprorate/core/Money"))) false (Jvm.ClassFile.MethodDescriptor.mk ([(Jvm.ClassFile.FieldType.object "com/example/libprorate/libprorate/core/Money")] : List Jvm.ClassFile.FieldType) (Option.some (Jvm.ClassFile.FieldType.object "com/example/libprorate/libprorate/core/Money")))) 25

def heap : Heap := #[{ cls := 9, slots := #[.long 0, .int 1, .null, .int 0, .null, .int 0, .int 0], vm := .statics 9 },
  { cls := 10, slots := #[.ref 6], vm := .statics 10 },
  { cls := 14, slots := #[.null, .null, .ref 7, .ref 8, .null], vm := .statics 14 },
  { cls := 18, slots := #[.null, .null, .null], vm := .statics 18 },
  { cls := 25, slots := #[], vm := .none },
  { cls := 19, slots := #[], vm := .none },
  { cls := 10, slots := #[.null], vm := .none },
  { cls := 14, slots := #[], vm := .none },
  { cls := 24, slots := #[.int 1207963663, .int 1207963663, .int 1207963663, .int 1207963663, .int 1207963663, .int 1207963663, .int 1207963663, .int 1207963663, .int 1207963663, .int 1476411407, .int 1342193679, .int 1476411407, .int 1610629135, .int 1342193679, .int 1207963663, .int 1207963663, .int 1207963663, .int 1207963663, .int 1207963663, .int 1207963663, .int 1207963663, .int 1207963663, .int 1207963663, .int 1207963663, .int 1207963663, .int 1207963663, .int 1207963663, .int 1207963663, .int 1342193679, .int 1342193679, .int 1342193679, .int 1476411407, .int 1610629132, .int 1744830488, .int 1744830488, .int 671088664, .int 671113242, .int 671088664, .int 1744830488, .int 1744830488, .int (-402653163), .int (-402653162), .int 1744830488, .int 536870937, .int 939524120, .int 536870932, .int 939524120, .int 939524120, .int 402667017, .int 402667017, .int 402667017, .int 402667017, .int 402667017, .int 402667017, .int 402667017, .int 402667017, .int 402667017, .int 402667017, .int 939524120, .int 1744830488, .int (-402653159), .int 1744830489, .int (-402653159), .int 1744830488, .int 1744830488, .int 8552417, .int 8552417, .int 8552417, .int 8552417, .int 8552417, .int 8552417, .int 8552417, .int 8552417, .int 8552417, .int 8552417, .int 8552417, .int 8552417, .int 8552417, .int 8552417, .int 8552417, .int 8552417, .int 8552417, .int 8552417, .int 8552417, .int 8552417, .int 8552417, .int 8552417, .int 8552417, .int 8552417, .int 8552417, .int 8552417, .int (-402653163), .int 1744830488, .int (-402653162), .int 1744830491, .int 1744850967, .int 1744830491, .int 8486882, .int 8486882, .int 8486882, .int 8486882, .int 8486882, .int 8486882, .int 8486882, .int 8486882, .int 8486882, .int 8486882, .int 8486882, .int 8486882, .int 8486882, .int 8486882, .int 8486882, .int 8486882, .int 8486882, .int 8486882, .int 8486882, .int 8486882, .int 8486882, .int 8486882, .int 8486882, .int 8486882, .int 8486882, .int 8486882, .int (-402653163), .int 1744830489, .int (-402653162), .int 1744830489, .int 1207963663, .int 1207963663, .int 1207963663, .int 1207963663, .int 1207963663, .int 1207963663, .int 1342181391, .int 1207963663, .int 1207963663, .int 1207963663, .int 1207963663, .int 1207963663, .int 1207963663, .int 1207963663, .int 1207963663, .int 1207963663, .int 1207963663, .int 1207963663, .int 1207963663, .int 1207963663, .int 1207963663, .int 1207963663, .int 1207963663, .int 1207963663, .int 1207963663, .int 1207963663, .int 1207963663, .int 1207963663, .int 1207963663, .int 1207963663, .int 1207963663, .int 1207963663, .int 1207963663, .int 939524108, .int 1744830488, .int 671113242, .int 671113242, .int 671113242, .int 671113242, .int 1744830492, .int 1744830488, .int 1744830491, .int 1744830492, .int 28677, .int (-402653155), .int 1744830489, .int 1207963664, .int 1744830492, .int 1744830491, .int 671088668, .int 671088665, .int 402654731, .int 402654731, .int 1744830491, .int 134049794, .int 1744830488, .int 1744830488, .int 1744830491, .int 402654475, .int 28677, .int (-402653154), .int 1744832523, .int 1744832523, .int 1744832523, .int 1744830488, .int 8548353, .int 8548353, .int 8548353, .int 8548353, .int 8548353, .int 8548353, .int 8548353, .int 8548353, .int 8548353, .int 8548353, .int 8548353, .int 8548353, .int 8548353, .int 8548353, .int 8548353, .int 8548353, .int 8548353, .int 8548353, .int 8548353, .int 8548353, .int 8548353, .int 8548353, .int 8548353, .int 1744830489, .int 8548353, .int 8548353, .int 8548353, .int 8548353, .int 8548353, .int 8548353, .int 8548353, .int 134049794, .int 8482818, .int 8482818, .int 8482818, .int 8482818, .int 8482818, .int 8482818, .int 8482818, .int 8482818, .int 8482818, .int 8482818, .int 8482818, .int 8482818, .int 8482818, .int 8482818, .int 8482818, .int 8482818, .int 8482818, .int 8482818, .int 8482818, .int 8482818, .int 8482818, .int 8482818, .int 8482818, .int 1744830489, .int 8482818, .int 8482818, .int 8482818, .int 8482818, .int 8482818, .int 8482818, .int 8482818, .int 102592514], vm := .none }]
def classes : Array Class := #[k0, k1, k2, k3, k4, k5, k6, k7, k8, k9, k10, k11, k12, k13, k14, k15, k16, k17, k18, k19, k20, k21, k22, k23, k24, k25]
def interned : List (Array UInt16 × Addr) := []
def slotsUsed : Nat := 273
def theMethod : MethodId := ⟨1, 1⟩
def args0 : Array Value := #[.long 5, .long 5, .int 5]
def aboutOver (below : List Frame) : State where
  vm := { classes := classes, interned := interned.toArray }
  heap := heap
  slotsUsed := slotsUsed
  threads := #[{ frames := .invoking theMethod args0 :: below }]
def below0 : List Frame := [.native { method := ⟨0, 0⟩, args := #[] }]
def about1 : State := aboutOver below0
def p0 : Program := .bare "" "" ""
def e0 : Env := launch0.env 0 0 0
theorem w_frames : about1.frames = Frame.invoking theMethod args0 :: below0 := rfl
set_option maxRecDepth 65536 in
theorem w_args : argsFit about1.vm theMethod args0 = true := by decide +kernel
set_option maxRecDepth 65536 in
theorem w_heap : heapFits about1 = true := by decide +kernel
set_option maxRecDepth 65536 in
theorem w_runnable : about1.curStatus? = some .runnable := by decide +kernel
set_option maxRecDepth 65536 in
theorem w_alone : about1.alone = true := by decide +kernel
set_option maxRecDepth 65536 in
theorem w_named : about1.methodNamed? x = some theMethod := by decide +kernel
set_option maxRecDepth 65536 in
theorem w_hears : about1.hears theMethod below0 = true := by decide +kernel
set_option maxRecDepth 65536 in
theorem w_ripe : about1.ripe theMethod args0 below0 = true := by decide +kernel
theorem w_running : about1.status = .running := rfl
set_option maxRecDepth 65536 in
theorem w_room : about1.hasRoom e0.platform room_1 = true :=
  launch0.hasRoom_least _ room_1 (by decide +kernel) (by decide +kernel) (by decide +kernel) (by decide +kernel) (by decide +kernel) (by decide +kernel)
theorem allAtoms_all (ts : List Jvm.Cond) (a : Array Jvm.Value) (st : Jvm.State) : (allAtoms ts).before a st = ts.all (fun c => c.before a st) := by
  induction ts with
  | nil => rfl
  | cons c t ih =>
    show (Jvm.Cond.and c (allAtoms t)).before a st = _
    rw [Jvm.Cond.before_and, ih, List.all_cons]
def words1 : List Jvm.Cond := Jvm.Cond.code x code maxLocals ret :: tables_1
/-- a 'code' word, met by the world's own term for the bytes: nothing is compared byte by byte -/
theorem code_word {y : MethodName} {bytes : ByteArray} {mx : Nat} {rt : Option FieldType} {a : Array Value} {s : State} {m : MethodId} {meth : Method} {c : Code} (h1 : s.methodNamed? y = some m) (h2 : s.vm.method? m = some meth) (h3 : meth.code = some c) (h4 : c.code = bytes)
    (h5 : (c.maxLocals == mx && c.exceptionTable.isEmpty && decide (c.maxStack ≤ mostOperands) && decide (meth.sig.returnType = rt) && !meth.locks && decide (parseMethodDescriptor y.desc = some meth.sig)) = true) : (Jvm.Cond.code y bytes mx rt).before a s = true := by
  simp only [Bool.and_eq_true, beq_iff_eq, Bool.not_eq_true', decide_eq_true_eq] at h5
  obtain ⟨⟨⟨⟨⟨g1, g2⟩, g3⟩, g4⟩, g5⟩, g6⟩ := h5
  simp [Cond.before, Cond.holds, Cond.value, h1, h2, h3, h4, g1, g2, g3, g4, g5, g6]
def isCode : Jvm.Cond → Bool
  | .code _ _ _ _ => true
  | _ => false
theorem all_split {L : List Jvm.Cond} {P : Jvm.Cond → Bool} (h1 : L.all (fun c => isCode c || P c) = true) (h2 : ∀ c ∈ L.filter isCode, P c = true) : L.all P = true := by
  refine List.all_eq_true.mpr fun c hc => ?_
  have h := List.all_eq_true.mp h1 c hc
  rcases Bool.eq_false_or_eq_true (isCode c) with hi | hi
  · exact h2 c (List.mem_filter.mpr ⟨hc, hi⟩)
  · simpa [hi] using h
set_option maxRecDepth 65536 in
theorem w_c0 : (Jvm.Cond.code x code maxLocals ret).before args0 about1 = true := code_word (m := ⟨1, 1⟩) (meth := k1m1) (c := k1c1) (by decide +kernel) rfl rfl rfl (by decide +kernel)
set_option maxRecDepth 65536 in
theorem w_c1 : (Jvm.Cond.code ({ cls := "java/util/Optional", name := "empty", desc := "()Ljava/util/Optional;" } : Jvm.MethodName) jdk_32_method_1_code (1 : Nat) (Option.some (Jvm.ClassFile.FieldType.object "java/util/Optional"))).before args0 about1 = true := code_word (m := ⟨10, 0⟩) (meth := k10m0) (c := k10c0) (by decide +kernel) rfl rfl rfl (by decide +kernel)
set_option maxRecDepth 65536 in
theorem w_c2 : (Jvm.Cond.code ({ cls := "com/example/libprorate/libprorate/core/ItemPrice", name := "<init>", desc := "(Ljava/lang/String;JLjava/util/Optional;)V" } : Jvm.MethodName) prog_54_method_1_code (5 : Nat) (Option.none : Option Jvm.ClassFile.FieldType)).before args0 about1 = true := code_word (m := ⟨3, 0⟩) (meth := k3m0) (c := k3c0) (by decide +kernel) rfl rfl rfl (by decide +kernel)
set_option maxRecDepth 65536 in
theorem w_c3 : (Jvm.Cond.code ({ cls := "java/lang/Record", name := "<init>", desc := "()V" } : Jvm.MethodName) jdk_30_method_1_code (1 : Nat) (Option.none : Option Jvm.ClassFile.FieldType)).before args0 about1 = true := code_word (m := ⟨2, 0⟩) (meth := k2m0) (c := k2c0) (by decide +kernel) rfl rfl rfl (by decide +kernel)
set_option maxRecDepth 65536 in
theorem w_c4 : (Jvm.Cond.code ({ cls := "java/lang/Object", name := "<init>", desc := "()V" } : Jvm.MethodName) object_method_1_code (1 : Nat) (Option.none : Option Jvm.ClassFile.FieldType)).before args0 about1 = true := code_word (m := ⟨0, 0⟩) (meth := k0m0) (c := k0c0) (by decide +kernel) rfl rfl rfl (by decide +kernel)
set_option maxRecDepth 65536 in
theorem w_c5 : (Jvm.Cond.code ({ cls := "java/util/Objects", name := "requireNonNull", desc := "(Ljava/lang/Object;Ljava/lang/String;)Ljava/lang/Object;" } : Jvm.MethodName) jdk_31_method_11_code (2 : Nat) (Option.some (Jvm.ClassFile.FieldType.object "java/lang/Object"))).before args0 about1 = true := code_word (m := ⟨11, 2⟩) (meth := k11m2) (c := k11c2) (by decide +kernel) rfl rfl rfl (by decide +kernel)
set_option maxRecDepth 65536 in
theorem w_c6 : (Jvm.Cond.code ({ cls := "java/lang/String", name := "isBlank", desc := "()Z" } : Jvm.MethodName) jdk_42_method_117_code (1 : Nat) (Option.some Jvm.ClassFile.FieldType.boolean)).before args0 about1 = true := code_word (m := ⟨9, 2⟩) (meth := k9m2) (c := k9c2) (by decide +kernel) rfl rfl rfl (by decide +kernel)
set_option maxRecDepth 65536 in
theorem w_c7 : (Jvm.Cond.code ({ cls := "java/lang/String", name := "indexOfNonWhitespace", desc := "()I" } : Jvm.MethodName) jdk_42_method_120_code (1 : Nat) (Option.some Jvm.ClassFile.FieldType.int)).before args0 about1 = true := code_word (m := ⟨9, 3⟩) (meth := k9m3) (c := k9c3) (by decide +kernel) rfl rfl rfl (by decide +kernel)
set_option maxRecDepth 65536 in
theorem w_c8 : (Jvm.Cond.code ({ cls := "java/lang/String", name := "isLatin1", desc := "()Z" } : Jvm.MethodName) jdk_42_method_154_code (1 : Nat) (Option.some Jvm.ClassFile.FieldType.boolean)).before args0 about1 = true := code_word (m := ⟨9, 5⟩) (meth := k9m5) (c := k9c5) (by decide +kernel) rfl rfl rfl (by decide +kernel)
set_option maxRecDepth 65536 in
theorem w_c9 : (Jvm.Cond.code ({ cls := "java/lang/StringLatin1", name := "indexOfNonWhitespace", desc := "([B)I" } : Jvm.MethodName) jdk_43_method_37_code (4 : Nat) (Option.some Jvm.ClassFile.FieldType.int)).before args0 about1 = true := code_word (m := ⟨12, 1⟩) (meth := k12m1) (c := k12c1) (by decide +kernel) rfl rfl rfl (by decide +kernel)
set_option maxRecDepth 65536 in
theorem w_c10 : (Jvm.Cond.code ({ cls := "java/lang/StringLatin1", name := "getChar", desc := "([BI)C" } : Jvm.MethodName) jdk_43_method_44_code (2 : Nat) (Option.some Jvm.ClassFile.FieldType.char)).before args0 about1 = true := code_word (m := ⟨12, 2⟩) (meth := k12m2) (c := k12c2) (by decide +kernel) rfl rfl rfl (by decide +kernel)
set_option maxRecDepth 65536 in
theorem w_c11 : (Jvm.Cond.code ({ cls := "java/lang/CharacterDataLatin1", name := "isWhitespace", desc := "(I)Z" } : Jvm.MethodName) jdk_116_method_26_code (3 : Nat) (Option.some Jvm.ClassFile.FieldType.boolean)).before args0 about1 = true := code_word (m := ⟨14, 1⟩) (meth := k14m1) (c := k14c1) (by decide +kernel) rfl rfl rfl (by decide +kernel)
set_option maxRecDepth 65536 in
theorem w_c12 : (Jvm.Cond.code ({ cls := "java/lang/CharacterDataLatin1", name := "getProperties", desc := "(I)I" } : Jvm.MethodName) jdk_116_method_1_code (4 : Nat) (Option.some Jvm.ClassFile.FieldType.int)).before args0 about1 = true := code_word (m := ⟨14, 0⟩) (meth := k14m0) (c := k14c0) (by decide +kernel) rfl rfl rfl (by decide +kernel)
set_option maxRecDepth 65536 in
theorem w_c13 : (Jvm.Cond.code ({ cls := "java/lang/String", name := "length", desc := "()I" } : Jvm.MethodName) jdk_42_method_54_code (1 : Nat) (Option.some Jvm.ClassFile.FieldType.int)).before args0 about1 = true := code_word (m := ⟨9, 1⟩) (meth := k9m1) (c := k9c1) (by decide +kernel) rfl rfl rfl (by decide +kernel)
set_option maxRecDepth 65536 in
theorem w_c14 : (Jvm.Cond.code ({ cls := "java/lang/String", name := "coder", desc := "()B" } : Jvm.MethodName) jdk_42_method_152_code (1 : Nat) (Option.some Jvm.ClassFile.FieldType.byte)).before args0 about1 = true := code_word (m := ⟨9, 4⟩) (meth := k9m4) (c := k9c4) (by decide +kernel) rfl rfl rfl (by decide +kernel)
set_option maxRecDepth 65536 in
theorem w_c15 : (Jvm.Cond.code ({ cls := "java/util/Optional", name := "isPresent", desc := "()Z" } : Jvm.MethodName) jdk_32_method_6_code (1 : Nat) (Option.some Jvm.ClassFile.FieldType.boolean)).before args0 about1 = true := code_word (m := ⟨10, 1⟩) (meth := k10m1) (c := k10c1) (by decide +kernel) rfl rfl rfl (by decide +kernel)
set_option maxRecDepth 65536 in
theorem w_c16 : (Jvm.Cond.code ({ cls := "java/util/Optional", name := "map", desc := "(Ljava/util/function/Function;)Ljava/util/Optional;" } : Jvm.MethodName) jdk_32_method_11_code (2 : Nat) (Option.some (Jvm.ClassFile.FieldType.object "java/util/Optional"))).before args0 about1 = true := code_word (m := ⟨10, 3⟩) (meth := k10m3) (c := k10c3) (by decide +kernel) rfl rfl rfl (by decide +kernel)
set_option maxRecDepth 65536 in
theorem w_c17 : (Jvm.Cond.code ({ cls := "java/util/Objects", name := "requireNonNull", desc := "(Ljava/lang/Object;)Ljava/lang/Object;" } : Jvm.MethodName) jdk_31_method_10_code (1 : Nat) (Option.some (Jvm.ClassFile.FieldType.object "java/lang/Object"))).before args0 about1 = true := code_word (m := ⟨11, 1⟩) (meth := k11m1) (c := k11c1) (by decide +kernel) rfl rfl rfl (by decide +kernel)
set_option maxRecDepth 65536 in
theorem w_c18 : (Jvm.Cond.code ({ cls := "java/util/Optional", name := "isEmpty", desc := "()Z" } : Jvm.MethodName) jdk_32_method_7_code (1 : Nat) (Option.some Jvm.ClassFile.FieldType.boolean)).before args0 about1 = true := code_word (m := ⟨10, 2⟩) (meth := k10m2) (c := k10c2) (by decide +kernel) rfl rfl rfl (by decide +kernel)
set_option maxRecDepth 65536 in
theorem w_c19 : (Jvm.Cond.code ({ cls := "com/example/libprorate/libprorate/core/ItemPrice", name := "unitsOver", desc := "(J)J" } : Jvm.MethodName) prog_54_method_2_code (3 : Nat) (Option.some Jvm.ClassFile.FieldType.long)).before args0 about1 = true := code_word (m := ⟨3, 1⟩) (meth := k3m1) (c := k3c1) (by decide +kernel) rfl rfl rfl (by decide +kernel)
set_option maxRecDepth 65536 in
theorem w_c20 : (Jvm.Cond.code ({ cls := "java/lang/Math", name := "max", desc := "(JJ)J" } : Jvm.MethodName) jdk_29_method_66_code (4 : Nat) (Option.some Jvm.ClassFile.FieldType.long)).before args0 about1 = true := code_word (m := ⟨17, 1⟩) (meth := k17m1) (c := k17c1) (by decide +kernel) rfl rfl rfl (by decide +kernel)
def codes1 : List Jvm.Cond := [Jvm.Cond.code x code maxLocals ret, Jvm.Cond.code ({ cls := "java/util/Optional", name := "empty", desc := "()Ljava/util/Optional;" } : Jvm.MethodName) jdk_32_method_1_code (1 : Nat) (Option.some (Jvm.ClassFile.FieldType.object "java/util/Optional")), Jvm.Cond.code ({ cls := "com/example/libprorate/libprorate/core/ItemPrice", name := "<init>", desc := "(Ljava/lang/String;JLjava/util/Optional;)V" } : Jvm.MethodName) prog_54_method_1_code (5 : Nat) (Option.none : Option Jvm.ClassFile.FieldType), Jvm.Cond.code ({ cls := "java/lang/Record", name := "<init>", desc := "()V" } : Jvm.MethodName) jdk_30_method_1_code (1 : Nat) (Option.none : Option Jvm.ClassFile.FieldType), Jvm.Cond.code ({ cls := "java/lang/Object", name := "<init>", desc := "()V" } : Jvm.MethodName) object_method_1_code (1 : Nat) (Option.none : Option Jvm.ClassFile.FieldType), Jvm.Cond.code ({ cls := "java/util/Objects", name := "requireNonNull", desc := "(Ljava/lang/Object;Ljava/lang/String;)Ljava/lang/Object;" } : Jvm.MethodName) jdk_31_method_11_code (2 : Nat) (Option.some (Jvm.ClassFile.FieldType.object "java/lang/Object")), Jvm.Cond.code ({ cls := "java/lang/String", name := "isBlank", desc := "()Z" } : Jvm.MethodName) jdk_42_method_117_code (1 : Nat) (Option.some Jvm.ClassFile.FieldType.boolean), Jvm.Cond.code ({ cls := "java/lang/String", name := "indexOfNonWhitespace", desc := "()I" } : Jvm.MethodName) jdk_42_method_120_code (1 : Nat) (Option.some Jvm.ClassFile.FieldType.int), Jvm.Cond.code ({ cls := "java/lang/String", name := "isLatin1", desc := "()Z" } : Jvm.MethodName) jdk_42_method_154_code (1 : Nat) (Option.some Jvm.ClassFile.FieldType.boolean), Jvm.Cond.code ({ cls := "java/lang/StringLatin1", name := "indexOfNonWhitespace", desc := "([B)I" } : Jvm.MethodName) jdk_43_method_37_code (4 : Nat) (Option.some Jvm.ClassFile.FieldType.int), Jvm.Cond.code ({ cls := "java/lang/StringLatin1", name := "getChar", desc := "([BI)C" } : Jvm.MethodName) jdk_43_method_44_code (2 : Nat) (Option.some Jvm.ClassFile.FieldType.char), Jvm.Cond.code ({ cls := "java/lang/CharacterDataLatin1", name := "isWhitespace", desc := "(I)Z" } : Jvm.MethodName) jdk_116_method_26_code (3 : Nat) (Option.some Jvm.ClassFile.FieldType.boolean), Jvm.Cond.code ({ cls := "java/lang/CharacterDataLatin1", name := "getProperties", desc := "(I)I" } : Jvm.MethodName) jdk_116_method_1_code (4 : Nat) (Option.some Jvm.ClassFile.FieldType.int), Jvm.Cond.code ({ cls := "java/lang/String", name := "length", desc := "()I" } : Jvm.MethodName) jdk_42_method_54_code (1 : Nat) (Option.some Jvm.ClassFile.FieldType.int), Jvm.Cond.code ({ cls := "java/lang/String", name := "coder", desc := "()B" } : Jvm.MethodName) jdk_42_method_152_code (1 : Nat) (Option.some Jvm.ClassFile.FieldType.byte), Jvm.Cond.code ({ cls := "java/util/Optional", name := "isPresent", desc := "()Z" } : Jvm.MethodName) jdk_32_method_6_code (1 : Nat) (Option.some Jvm.ClassFile.FieldType.boolean), Jvm.Cond.code ({ cls := "java/util/Optional", name := "map", desc := "(Ljava/util/function/Function;)Ljava/util/Optional;" } : Jvm.MethodName) jdk_32_method_11_code (2 : Nat) (Option.some (Jvm.ClassFile.FieldType.object "java/util/Optional")), Jvm.Cond.code ({ cls := "java/util/Objects", name := "requireNonNull", desc := "(Ljava/lang/Object;)Ljava/lang/Object;" } : Jvm.MethodName) jdk_31_method_10_code (1 : Nat) (Option.some (Jvm.ClassFile.FieldType.object "java/lang/Object")), Jvm.Cond.code ({ cls := "java/util/Optional", name := "isEmpty", desc := "()Z" } : Jvm.MethodName) jdk_32_method_7_code (1 : Nat) (Option.some Jvm.ClassFile.FieldType.boolean), Jvm.Cond.code ({ cls := "com/example/libprorate/libprorate/core/ItemPrice", name := "unitsOver", desc := "(J)J" } : Jvm.MethodName) prog_54_method_2_code (3 : Nat) (Option.some Jvm.ClassFile.FieldType.long), Jvm.Cond.code ({ cls := "java/lang/Math", name := "max", desc := "(JJ)J" } : Jvm.MethodName) jdk_29_method_66_code (4 : Nat) (Option.some Jvm.ClassFile.FieldType.long)]
set_option maxRecDepth 65536 in
theorem codes_eq : words1.filter isCode = codes1 := rfl
theorem w_codes : ∀ c ∈ words1.filter isCode, c.before args0 about1 = true := by
  rw [codes_eq]
  intro c hc
  simp only [codes1, List.mem_cons, List.not_mem_nil, or_false] at hc
  rcases hc with rfl | rfl | rfl | rfl | rfl | rfl | rfl | rfl | rfl | rfl | rfl | rfl | rfl | rfl | rfl | rfl | rfl | rfl | rfl | rfl | rfl
  · exact w_c0
  · exact w_c1
  · exact w_c2
  · exact w_c3
  · exact w_c4
  · exact w_c5
  · exact w_c6
  · exact w_c7
  · exact w_c8
  · exact w_c9
  · exact w_c10
  · exact w_c11
  · exact w_c12
  · exact w_c13
  · exact w_c14
  · exact w_c15
  · exact w_c16
  · exact w_c17
  · exact w_c18
  · exact w_c19
  · exact w_c20
set_option maxRecDepth 65536 in
theorem w_t1 : (words1.take 24).all (fun c => isCode c || c.before args0 about1) = true := by decide +kernel
set_option maxRecDepth 65536 in
theorem w_t2 : ((words1.drop 24).take 24).all (fun c => isCode c || c.before args0 about1) = true := by decide +kernel
set_option maxRecDepth 65536 in
theorem w_t3 : (((words1.drop 24).drop 24).take 24).all (fun c => isCode c || c.before args0 about1) = true := by decide +kernel
set_option maxRecDepth 65536 in
theorem w_t4 : ((((words1.drop 24).drop 24).drop 24).take 24).all (fun c => isCode c || c.before args0 about1) = true := by decide +kernel
set_option maxRecDepth 65536 in
theorem w_t5 : (((((words1.drop 24).drop 24).drop 24).drop 24).take 24).all (fun c => isCode c || c.before args0 about1) = true := by decide +kernel
set_option maxRecDepth 65536 in
theorem w_t6 : (((((words1.drop 24).drop 24).drop 24).drop 24).drop 24).all (fun c => isCode c || c.before args0 about1) = true := by decide +kernel
theorem w_tables : (allAtoms (Jvm.Cond.code x code maxLocals ret :: tables_1)).before args0 about1 = true := by
  rw [allAtoms_all]
  show words1.all (fun c => c.before args0 about1) = true
  refine all_split ?_ w_codes
  rw [← List.take_append_drop 24 words1, List.all_append, w_t1, ← List.take_append_drop 24 (words1.drop 24), List.all_append, w_t2, ← List.take_append_drop 24 ((words1.drop 24).drop 24), List.all_append, w_t3, ← List.take_append_drop 24 (((words1.drop 24).drop 24).drop 24), List.all_append, w_t4, ← List.take_append_drop 24 ((((words1.drop 24).drop 24).drop 24).drop 24), List.all_append, w_t5, w_t6]
  rfl
set_option maxRecDepth 65536 in
theorem w_rest : rest_1_c.before args0 about1 = true := by decide +kernel
set_option maxRecDepth 65536 in
theorem w_case : (Jvm.Cond.and given_1 narrow_1).before args0 about1 = true := by decide +kernel
set_option maxRecDepth 65536 in
theorem w_consts : constsHeld consts_1 about1 := Jvm.Lit.constsHeldB_iff.mp (by decide +kernel)
theorem w_applies : (headSpec (Jvm.Cond.code x code maxLocals ret :: tables_1) room_1).applies x e0.platform about1 = true :=
  (Spec.applies_iff w_frames).mpr ⟨w_running, w_runnable, w_alone, w_named, w_hears, w_ripe, w_room, w_tables⟩
theorem atStart : AtStart classFile x code maxLocals ret World_1 tables_1 room_1 Calls_1 rest_1 Pre_1 launch0 p0 e0 about1 theMethod args0 below0 :=
  ⟨lists_1, trivial, launch0.admits_env _ _ _, launch0.least_env, fairChoices_fair.cas, fairChoices_fair.clock, w_frames, w_args, w_heap, w_applies, ⟨w_consts, trivial⟩, w_rest, w_case⟩
end start1
theorem witness_1 : WitnessClaimed_1 := ⟨start1.p0, start1.e0, start1.about1, start1.theMethod, start1.args0, start1.below0, start1.atStart⟩
end Jvm.Pilot.@@N@@
