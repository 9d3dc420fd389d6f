import JvmDerived
import JvmDerived.Pilot.@@N@@Statement
import JvmDerived.Pilot.@@N@@Code
set_option linter.unusedVariables false
set_option linter.unusedSimpArgs false
namespace Jvm.RoadKit
open Sem ClassFile Op Lib Jvm.Stand Jvm.Free Jvm.LawKit
section OwnGo
variable {p : Program} {l : Launch} {e : Env} {R : Room} {s : State} {m : MethodId} {args : Array Value} {below : List Frame} {meth : Method} {c : Code} {T : State} {locs : List Loc} {cells slots : Nat} {Z : State} {a0 : Array Value} {h : Heap} {Q : Option Value → Heap → List Loc → Prop} {kc ks : Nat} {Fin : State → Outcome → Prop}
/-- what is left of a body's walk: from the frame g over T the run ends, in what Fin says -/
def Go (p : Program) (e : Env) (below : List Frame) (Fin : State → Outcome → Prop) (T : State) (g : JFrame) : Prop :=
  ∃ (t : State) (o : Outcome), Steps p.tables e below (T.setTop g) t ∧ t.status = .running ∧ Ended t below o ∧ Fin t o
/-- it returns what Q says; nothing interned -/
def FinN (s : State) (Q : Option Value → Heap → List Loc → Prop) (kc ks : Nat) (t : State) (o : Outcome) : Prop := ∃ v L, o = .returned v ∧ Q v t.heap L ∧ FrameEnd s o t L kc ks
/-- it returns what Q says; String constants may have been interned -/
def FinW (s : State) (Q : Option Value → Heap → List Loc → Vm → Prop) (kc ks : Nat) (t : State) (o : Outcome) : Prop := ∃ v L, o = .returned v ∧ Q v t.heap L t.vm ∧ ReturnedEndW s o t L kc ks
theorem Go.to {T' : State} {g : JFrame} (g' : JFrame) (st : ∀ t, Steps p.tables e below (T'.setTop g') t → Steps p.tables e below (T.setTop g) t) (K : Go p e below Fin T' g') : Go p e below Fin T g := by
  obtain ⟨t, o, h1, r⟩ := K
  exact ⟨t, o, st t h1, r⟩
theorem Go.cast {g g' : JFrame} (q : g = g') (K : Go p e below Fin T g') : Go p e below Fin T g := q ▸ K
/-- a body's contract: with the arguments as' at the heap h0 it returns what Q says -/
def Met1 (l : Launch) (Z : State) (y : MethodName) (bytes : ByteArray) (maxL : Nat) (ret : Option FieldType) (rm : Room) (as' : Array Value) (h0 : Heap) (Q : Option Value → Heap → List Loc → Prop) : Prop :=
  ∀ ws : List Cond, MetFree l y (head1 (Cond.code y bytes maxL ret :: ws) rm) (fun a U => a = as' ∧ Z.Warmed39 U.vm ∧ U.heap = h0) (fun _ _ _ _ _ => True) (fun _ U o U' => ∃ v L, o = .returned v ∧ Q v U'.heap L ∧ FrameEnd U o U' L rm.cells rm.slots)
/-- .. which may intern; J: what is known of the tables where it is called -/
def MetW (l : Launch) (Z : State) (y : MethodName) (bytes : ByteArray) (maxL : Nat) (ret : Option FieldType) (rm : Room) (as' : Array Value) (h0 : Heap) (J : Vm → Prop) (Q : Option Value → Heap → List Loc → Vm → Prop) : Prop :=
  ∀ ws : List Cond, MetFree l y (head1 (Cond.code y bytes maxL ret :: ws) rm) (fun a U => a = as' ∧ Z.Warmed39 U.vm ∧ U.heap = h0 ∧ J U.vm) (fun _ _ _ _ _ => True) (fun _ U o U' => ∃ v L, o = .returned v ∧ Q v U'.heap L U'.vm ∧ ReturnedEndW U o U' L rm.cells rm.slots)
theorem Met1.mk {y : MethodName} {bytes : ByteArray} {maxL : Nat} {ret : Option FieldType} {rm : Room} {as' : Array Value} {h0 : Heap} (hp : plainFor y = true)
    (body : ∀ (p : Program) (e : Env) (s : State) (m : MethodId) (below : List Frame) (meth : Method) (c : Code) (s₁ : State), p.tables.exec = Jvm.exec → Z.Warmed39 s.vm → c.code = bytes → c.maxLocals = maxL → s.vm.findClass y.cls = some m.cls → meth.name = y.name → meth.sig.returnType = ret → meth.locks = false → Stand p l e rm s m as' below meth c s₁ [] 0 0 → s₁.heap = h0 → Go p e below (FinN s Q rm.cells rm.slots) s₁ (entryFrame m as' maxL)) :
    Met1 l Z y bytes maxL ret rm as' h0 Q := by
  intro ws
  refine MetFree.of_bodySF hp hisR ?_
  intro p e s m args below meth c s₁ Bd hml0 hP hK
  obtain ⟨rfl, hZ, hh⟩ := hP
  exact body p e s m below meth c s₁ Bd.exec hZ Bd.bytes hml0 (findClass_of_methodNamed Bd.named) (name_of_methodNamed Bd.named Bd.method).1 Bd.returns Bd.notSynchronized (Stand.of_body Bd) (by rw [← hh, Bd.state]; rfl)
theorem MetW.mk {y : MethodName} {bytes : ByteArray} {maxL : Nat} {ret : Option FieldType} {rm : Room} {as' : Array Value} {h0 : Heap} {J : Vm → Prop} {QW : Option Value → Heap → List Loc → Vm → Prop} (hp : plainFor y = true)
    (body : ∀ (p : Program) (e : Env) (s : State) (m : MethodId) (below : List Frame) (meth : Method) (c : Code) (s₁ : State) (vm0 : Vm), p.tables.exec = Jvm.exec → Z.Warmed39 (s.setVm vm0).vm → c.code = bytes → c.maxLocals = maxL → (s.setVm vm0).vm.findClass y.cls = some m.cls → meth.name = y.name → meth.sig.returnType = ret → meth.locks = false → Stand p l e rm (s.setVm vm0) m as' below meth c s₁ [] 0 0 → s₁.heap = h0 → s.Since vm0 0 → s.heap = h0 → Z.methodNamed? y = some m → J vm0 → Go p e below (FinW s QW rm.cells rm.slots) s₁ (entryFrame m as' maxL)) :
    MetW l Z y bytes maxL ret rm as' h0 J QW := by
  intro ws
  refine MetFree.of_bodySF hp hisR ?_
  intro p e s m args below meth c s₁ Bd hml0 hP hK
  obtain ⟨rfl, hZ, hh, hJ⟩ := hP
  exact body p e s m below meth c s₁ s.vm Bd.exec hZ Bd.bytes hml0 (findClass_of_methodNamed Bd.named) (name_of_methodNamed Bd.named Bd.method).1 Bd.returns Bd.notSynchronized (Stand.of_body Bd) (by rw [← hh, Bd.state]; rfl) (State.WarmedH.since (State.WarmedH.refl s) 0) hh ((State.methodNamed?_setVm hZ.alike y).symm.trans Bd.named) hJ
theorem Go.retI (X : Stand p l e R s m args below meth c T locs cells slots) (hx : p.tables.exec = Jvm.exec) (hret : meth.sig.returnType = some .int) (hlk : meth.locks = false) {pc : Nat} {Ls : Array Slot} {z : Int32} {rest : List Value} (hd : decode c.code pc = .ok (.ireturn, 1)) (hc : cells ≤ kc) (hs : slots ≤ ks)
    (hq : Q (some (.int z)) T.heap locs) : Go p e below (FinN s Q kc ks) T (mkF m pc Ls (.int z :: rest)) := by
  obtain ⟨fs, hr, hrun, hended, hW, hsame⟩ := X.leave (v := (some (.int z))) (fun h => by rw [hret] at h; cases h) hlk
  exact ⟨_, _, Jvm.RoadKit.retOut X hx hret (t := .int) rfl (Or.inl ⟨rfl, Or.inl rfl, _, rfl⟩) hd hr, hrun, hended, _, _, rfl, hq, ⟨_, rfl⟩, hW, hsame.mono hc hs⟩
theorem Go.retIW {vm0 : Vm} {QW : Option Value → Heap → List Loc → Vm → Prop} (X : Stand p l e R (s.setVm vm0) m args below meth c T locs cells slots) (hx : p.tables.exec = Jvm.exec) (hret : meth.sig.returnType = some .int) (hlk : meth.locks = false) {pc : Nat} {Ls : Array Slot} {z : Int32} {rest : List Value} (hd : decode c.code pc = .ok (.ireturn, 1)) (hc : cells ≤ kc) (hs : slots ≤ ks) {n : Nat} (hS : s.Since vm0 n) (hn : n ≤ T.heap.size)
    (hq : QW (some (.int z)) T.heap locs T.vm) : Go p e below (FinW s QW kc ks) T (mkF m pc Ls (.int z :: rest)) := by
  obtain ⟨fs, hr, hrun, hended, h1, h2, h3, h4⟩ := X.leaveW hS hn (v := (some (.int z))) (fun h => by rw [hret] at h; cases h) hlk
  exact ⟨_, _, Jvm.RoadKit.retOut X hx hret (t := .int) rfl (Or.inl ⟨rfl, Or.inl rfl, _, rfl⟩) hd hr, hrun, hended, _, _, rfl, hq, h1, h2, h3, h4.mono hc hs⟩
theorem Go.retN' (X : Stand p l e R s m args below meth c T locs cells slots) (hx : p.tables.exec = Jvm.exec) {t : FieldType} (hret : meth.sig.returnType = some t) (hlk : meth.locks = false) (ht : t = .boolean ∨ t = .byte ∨ t = .char ∨ t = .short) {pc : Nat} {Ls : Array Slot} {z : Int32} {rest : List Value} (hd : decode c.code pc = .ok (.ireturn, 1)) (hc : cells ≤ kc) (hs : slots ≤ ks)
    (hq : Q (some (.int (nar t z))) T.heap locs) : Go p e below (FinN s Q kc ks) T (mkF m pc Ls (.int z :: rest)) := by
  obtain ⟨fs, hr, hrun, hended, hW, hsame⟩ := X.leave (v := (some (.int (nar t z)))) (fun h => by rw [hret] at h; cases h) hlk
  exact ⟨_, _, Jvm.RoadKit.retN X hx hret ht hd hr, hrun, hended, _, _, rfl, hq, ⟨_, rfl⟩, hW, hsame.mono hc hs⟩
theorem Go.retNW' {vm0 : Vm} {QW : Option Value → Heap → List Loc → Vm → Prop} (X : Stand p l e R (s.setVm vm0) m args below meth c T locs cells slots) (hx : p.tables.exec = Jvm.exec) {t : FieldType} (hret : meth.sig.returnType = some t) (hlk : meth.locks = false) (ht : t = .boolean ∨ t = .byte ∨ t = .char ∨ t = .short) {pc : Nat} {Ls : Array Slot} {z : Int32} {rest : List Value} (hd : decode c.code pc = .ok (.ireturn, 1)) (hc : cells ≤ kc) (hs : slots ≤ ks) {n : Nat} (hS : s.Since vm0 n) (hn : n ≤ T.heap.size)
    (hq : QW (some (.int (nar t z))) T.heap locs T.vm) : Go p e below (FinW s QW kc ks) T (mkF m pc Ls (.int z :: rest)) := by
  obtain ⟨fs, hr, hrun, hended, h1, h2, h3, h4⟩ := X.leaveW hS hn (v := (some (.int (nar t z)))) (fun h => by rw [hret] at h; cases h) hlk
  exact ⟨_, _, Jvm.RoadKit.retN X hx hret ht hd hr, hrun, hended, _, _, rfl, hq, h1, h2, h3, h4.mono hc hs⟩
theorem Go.retL (X : Stand p l e R s m args below meth c T locs cells slots) (hx : p.tables.exec = Jvm.exec) (hret : meth.sig.returnType = some .long) (hlk : meth.locks = false) {pc : Nat} {Ls : Array Slot} {z : Int64} {rest : List Value} (hd : decode c.code pc = .ok (.lreturn, 1)) (hc : cells ≤ kc) (hs : slots ≤ ks)
    (hq : Q (some (.long z)) T.heap locs) : Go p e below (FinN s Q kc ks) T (mkF m pc Ls (.long z :: rest)) := by
  obtain ⟨fs, hr, hrun, hended, hW, hsame⟩ := X.leave (v := (some (.long z))) (fun h => by rw [hret] at h; cases h) hlk
  exact ⟨_, _, Jvm.RoadKit.retOut X hx hret (t := .long) rfl (Or.inr (Or.inl ⟨rfl, rfl, _, rfl⟩)) hd hr, hrun, hended, _, _, rfl, hq, ⟨_, rfl⟩, hW, hsame.mono hc hs⟩
theorem Go.retLW {vm0 : Vm} {QW : Option Value → Heap → List Loc → Vm → Prop} (X : Stand p l e R (s.setVm vm0) m args below meth c T locs cells slots) (hx : p.tables.exec = Jvm.exec) (hret : meth.sig.returnType = some .long) (hlk : meth.locks = false) {pc : Nat} {Ls : Array Slot} {z : Int64} {rest : List Value} (hd : decode c.code pc = .ok (.lreturn, 1)) (hc : cells ≤ kc) (hs : slots ≤ ks) {n : Nat} (hS : s.Since vm0 n) (hn : n ≤ T.heap.size)
    (hq : QW (some (.long z)) T.heap locs T.vm) : Go p e below (FinW s QW kc ks) T (mkF m pc Ls (.long z :: rest)) := by
  obtain ⟨fs, hr, hrun, hended, h1, h2, h3, h4⟩ := X.leaveW hS hn (v := (some (.long z))) (fun h => by rw [hret] at h; cases h) hlk
  exact ⟨_, _, Jvm.RoadKit.retOut X hx hret (t := .long) rfl (Or.inr (Or.inl ⟨rfl, rfl, _, rfl⟩)) hd hr, hrun, hended, _, _, rfl, hq, h1, h2, h3, h4.mono hc hs⟩
theorem own_narrow_ref {t : FieldType} {w : Value} (ht : t.isReference = true) : narrow t w = w := by cases t <;> first | rfl | (cases ht)
theorem Go.retA (X : Stand p l e R s m args below meth c T locs cells slots) (hx : p.tables.exec = Jvm.exec) {t : FieldType} (hret : meth.sig.returnType = some t) (hlk : meth.locks = false) (ht : t.isReference = true) {pc : Nat} {Ls : Array Slot} {w : Value} {rest : List Value} (hw : w.isRef = true) (hd : decode c.code pc = .ok (.areturn, 1)) (hc : cells ≤ kc) (hs : slots ≤ ks)
    (hq : Q (some w) T.heap locs) : Go p e below (FinN s Q kc ks) T (mkF m pc Ls (w :: rest)) := by
  obtain ⟨fs, hr, hrun, hended, hW, hsame⟩ := X.leave (v := (some w)) (fun h => by rw [hret] at h; cases h) hlk
  exact ⟨_, _, Jvm.RoadKit.retOut X hx hret (t := t) (own_narrow_ref ht) (Or.inr (Or.inr (Or.inr (Or.inr ⟨rfl, ht, hw⟩)))) hd hr, hrun, hended, _, _, rfl, hq, ⟨_, rfl⟩, hW, hsame.mono hc hs⟩
theorem Go.retAW {vm0 : Vm} {QW : Option Value → Heap → List Loc → Vm → Prop} (X : Stand p l e R (s.setVm vm0) m args below meth c T locs cells slots) (hx : p.tables.exec = Jvm.exec) {t : FieldType} (hret : meth.sig.returnType = some t) (hlk : meth.locks = false) (ht : t.isReference = true) {pc : Nat} {Ls : Array Slot} {w : Value} {rest : List Value} (hw : w.isRef = true) (hd : decode c.code pc = .ok (.areturn, 1)) (hc : cells ≤ kc) (hs : slots ≤ ks) {n : Nat} (hS : s.Since vm0 n) (hn : n ≤ T.heap.size)
    (hq : QW (some w) T.heap locs T.vm) : Go p e below (FinW s QW kc ks) T (mkF m pc Ls (w :: rest)) := by
  obtain ⟨fs, hr, hrun, hended, h1, h2, h3, h4⟩ := X.leaveW hS hn (v := (some w)) (fun h => by rw [hret] at h; cases h) hlk
  exact ⟨_, _, Jvm.RoadKit.retOut X hx hret (t := t) (own_narrow_ref ht) (Or.inr (Or.inr (Or.inr (Or.inr ⟨rfl, ht, hw⟩)))) hd hr, hrun, hended, _, _, rfl, hq, h1, h2, h3, h4.mono hc hs⟩
theorem Go.ret0 (X : Stand p l e R s m args below meth c T locs cells slots) (hx : p.tables.exec = Jvm.exec) (hret : meth.sig.returnType = none) (hlk : meth.locks = false) {pc : Nat} {Ls : Array Slot} (hd : decode c.code pc = .ok (.return_, 1)) (hc : cells ≤ kc) (hs : slots ≤ ks)
    (hq : Q none T.heap locs) : Go p e below (FinN s Q kc ks) T (mkF m pc Ls []) := by
  obtain ⟨fs, hr, hrun, hended, hW, hsame⟩ := X.leave (v := none) (fun _ => rfl) hlk
  exact ⟨_, _, X.returnOut hx hret hd hr, hrun, hended, _, _, rfl, hq, ⟨_, rfl⟩, hW, hsame.mono hc hs⟩
theorem Go.ret0W {vm0 : Vm} {QW : Option Value → Heap → List Loc → Vm → Prop} (X : Stand p l e R (s.setVm vm0) m args below meth c T locs cells slots) (hx : p.tables.exec = Jvm.exec) (hret : meth.sig.returnType = none) (hlk : meth.locks = false) {pc : Nat} {Ls : Array Slot} (hd : decode c.code pc = .ok (.return_, 1)) (hc : cells ≤ kc) (hs : slots ≤ ks) {n : Nat} (hS : s.Since vm0 n) (hn : n ≤ T.heap.size)
    (hq : QW none T.heap locs T.vm) : Go p e below (FinW s QW kc ks) T (mkF m pc Ls []) := by
  obtain ⟨fs, hr, hrun, hended, h1, h2, h3, h4⟩ := X.leaveW hS hn (v := none) (fun _ => rfl) hlk
  exact ⟨_, _, X.returnOut hx hret hd hr, hrun, hended, _, _, rfl, hq, h1, h2, h3, h4.mono hc hs⟩
theorem Go.retN (X : Stand p l e R s m args below meth c T locs cells slots) (hx : p.tables.exec = Jvm.exec) {t : FieldType} (hret : meth.sig.returnType = some t) (hlk : meth.locks = false) (ht : t = .boolean ∨ t = .byte ∨ t = .char ∨ t = .short) {pc : Nat} {Ls : Array Slot} {z z' : Int32} {rest : List Value} (hd : decode c.code pc = .ok (.ireturn, 1)) (hc : cells ≤ kc) (hs : slots ≤ ks) (hz : nar t z = z')
    (hq : Q (some (.int z')) T.heap locs) : Go p e below (FinN s Q kc ks) T (mkF m pc Ls (.int z :: rest)) := by
  subst hz; exact Go.retN' X hx hret hlk ht hd hc hs hq
theorem Go.retNW {vm0 : Vm} {QW : Option Value → Heap → List Loc → Vm → Prop} (X : Stand p l e R (s.setVm vm0) m args below meth c T locs cells slots) (hx : p.tables.exec = Jvm.exec) {t : FieldType} (hret : meth.sig.returnType = some t) (hlk : meth.locks = false) (ht : t = .boolean ∨ t = .byte ∨ t = .char ∨ t = .short) {pc : Nat} {Ls : Array Slot} {z z' : Int32} {rest : List Value} (hd : decode c.code pc = .ok (.ireturn, 1)) (hc : cells ≤ kc) (hs : slots ≤ ks) {n : Nat} (hS : s.Since vm0 n) (hn : n ≤ T.heap.size) (hz : nar t z = z')
    (hq : QW (some (.int z')) T.heap locs T.vm) : Go p e below (FinW s QW kc ks) T (mkF m pc Ls (.int z :: rest)) := by
  subst hz; exact Go.retNW' X hx hret hlk ht hd hc hs hS hn hq
/-- who pays a call: with the arguments as' at the heap h, k cells and n slots more, what Qc says -/
def OBk (l : Launch) (R : Room) (p : Program) (e : Env) (below : List Frame) (s : State) (args : Array Value) (y : MethodName) (len W : Nat) (as' : Array Value) (h : Heap) (k n : Nat) (Qc : Option Value → Heap → List Loc → Prop) : Prop :=
  Back l R p e below s args y len W (fun A a => a = as' ∧ A.U.heap = h ∧ A.cells + k ≤ R.cells ∧ A.slots + n ≤ R.slots) (fun A _ v B => ∃ L, Qc v B.U.heap L ∧ B.locs = A.locs ++ L ∧ B.cells = A.cells + k ∧ B.slots = A.slots + n)
theorem Met1.back {y : MethodName} {bytes : ByteArray} {maxL : Nat} {ret : Option FieldType} {rm : Room} {as' : Array Value} {Qc : Option Value → Heap → List Loc → Prop} {len W : Nat} (M : Met1 l Z y bytes maxL ret rm as' h Qc) (hZ : Z.Warmed39 s.vm) (wc : (Cond.code y bytes maxL ret).before a0 Z = true) (wz : (Cond.initialized y.cls).before a0 Z = true) (hf : rm.frames + 1 ≤ R.frames) (hl : W + (maxL + 11) + rm.locals ≤ R.locals) :
    OBk l R p e below s args y len W as' h rm.cells rm.slots Qc := backOf (M []) hZ wc wz hf hl
/-- a constructor by its contract -/
theorem Go.special (X : Stand p l e R s m args below meth c T locs cells slots) (hx : p.tables.exec = Jvm.exec) (hZ : Z.Warmed39 s.vm) {own : String} {index : Nat} {y : MethodName} {bytes : ByteArray} {maxL : Nat} (hy1 : y.name = "<init>") (hown : s.vm.findClass own = some m.cls)
    (w1 : (Cond.methodLink own index y).before a0 Z = true) (w2 : (Cond.instanceMethod y).before a0 Z = true) (w3 : (Cond.code y bytes maxL none).before a0 Z = true) (hy : y.cls ≠ "java/lang/invoke/MethodHandle" ∧ y.cls ≠ "java/lang/invoke/VarHandle")
    (eT : T.heap = h) {kC kS : Nat} {a : Addr} {argsL rest : List Value} {Qc : Option Value → Heap → List Loc → Prop} {W : Nat} (B : OBk l R p e below s args y 3 W (.ref a :: argsL).toArray h kC kS Qc)
    {pc : Nat} {Ls : Array Slot} (hsz : Ls.size = c.maxLocals) (hlen : ∀ sig, parseMethodDescriptor y.desc = some sig → argsL.length = sig.parameters.length) {st : List Value} (hst : st = argsL.reverse ++ .ref a :: rest) (hW : (rest.map fun v => v.category).sum ≤ W) (hd : decode c.code pc = .ok (.invokespecial index, 3))
    (hc : cells + kC ≤ R.cells) (hs : slots + kS ≤ R.slots)
    (K : ∀ (T' : State) (v : Option Value) (L : List Loc), Stand p l e R s m args below meth c T' (locs ++ L) (cells + kC) (slots + kS) → Qc v T'.heap L → Go p e below Fin T' (mkF m (pc + 3) Ls (v.toList ++ rest))) : Go p e below Fin T (mkF m pc Ls st) := by
  subst hst
  obtain ⟨v, _, ⟨T', L', k', n'⟩, -, X', ⟨Lc, hQ, hl, hk, hn⟩, stp⟩ := X.specialBack hx (y := y) hy1 hown (mvT hZ w1) (mvT hZ w2) (mvT hZ w3) hy B (g := mkF m pc Ls (argsL.reverse ++ .ref a :: rest)) rfl hsz (Steps.refl _) (a := a) (argsL := argsL) (rest := rest) hlen rfl (by show 2 * 0 + _ ≤ _; omega) hd (fun _ _ => ⟨rfl, eT, hc, hs⟩)
  dsimp only [Pt.U, Pt.locs, Pt.cells, Pt.slots] at X' hl hk hn stp hQ
  subst hl hk hn
  obtain ⟨t, o, h1, r⟩ := K T' v Lc X' hQ
  exact ⟨t, o, stp.trans h1, r⟩
/-- an instance method by the contract of the body that the receiver's class selects -/
theorem Go.virt (X : Stand p l e R s m args below meth c T locs cells slots) (hx : p.tables.exec = Jvm.exec) (hZ : Z.Warmed39 s.vm) {own C : String} {index : Nat} {y z : MethodName} (hown : s.vm.findClass own = some m.cls)
    (w1 : (Cond.methodLink own index y).before a0 Z = true) (w2 : (Cond.declares y).before a0 Z = true) (nf : NotFace s y) (w3 : (Cond.selects C y z).before a0 Z = true) (w4 : (Cond.instanceMethod z).before a0 Z = true) (hy : y.cls ≠ "java/lang/invoke/MethodHandle" ∧ y.cls ≠ "java/lang/invoke/VarHandle")
    (eT : T.heap = h) {kC kS : Nat} {a : Addr} (E : Exa Z h a C) {argsL rest : List Value} {Qc : Option Value → Heap → List Loc → Prop} {W : Nat} (B : OBk l R p e below s args z 3 W (.ref a :: argsL).toArray h kC kS Qc)
    {pc : Nat} {Ls : Array Slot} (hsz : Ls.size = c.maxLocals) (hlen : ∀ sig, parseMethodDescriptor y.desc = some sig → argsL.length = sig.parameters.length) {st : List Value} (hst : st = argsL.reverse ++ .ref a :: rest) (hW : (rest.map fun v => v.category).sum ≤ W) (hd : decode c.code pc = .ok (.invokevirtual index, 3))
    (hc : cells + kC ≤ R.cells) (hs : slots + kS ≤ R.slots)
    (K : ∀ (T' : State) (v : Option Value) (L : List Loc), Stand p l e R s m args below meth c T' (locs ++ L) (cells + kC) (slots + kS) → Qc v T'.heap L → Go p e below Fin T' (mkF m (pc + 3) Ls (v.toList ++ rest))) : Go p e below Fin T (mkF m pc Ls st) := by
  subst hst
  obtain ⟨cq, kq, qa, qb, qc⟩ := isOf hZ eT E
  obtain ⟨v, _, ⟨T', L', k', n'⟩, -, X', ⟨Lc, hQ, hl, hk, hn⟩, stp⟩ := X.virtualBack hx (y := y) (z := z) hown (mvT hZ w1) (mvT hZ w2) nf (mvT hZ w3) (mvT hZ w4) hy B qa qc (g := mkF m pc Ls (argsL.reverse ++ .ref a :: rest)) rfl hsz (Steps.refl _) (argsL := argsL) (rest := rest) hlen rfl (by show 2 * 0 + _ ≤ _; omega) hd (fun _ _ => ⟨rfl, eT, hc, hs⟩)
  dsimp only [Pt.U, Pt.locs, Pt.cells, Pt.slots] at X' hl hk hn stp hQ
  subst hl hk hn
  obtain ⟨t, o, h1, r⟩ := K T' v Lc X' hQ
  exact ⟨t, o, stp.trans h1, r⟩
/-- an interface's method by the contract of the body that the receiver's class selects -/
theorem Go.face (X : Stand p l e R s m args below meth c T locs cells slots) (hx : p.tables.exec = Jvm.exec) (hZ : Z.Warmed39 s.vm) {own C : String} {index count : Nat} {y z : MethodName} (hown : s.vm.findClass own = some m.cls)
    (w1 : (Cond.methodLink own index y).before a0 Z = true) (w2 : (Cond.declares y).before a0 Z = true) (w2' : (Cond.interfaceMethod y.cls y.cls y.name y.desc).before a0 Z = true) (w3 : (Cond.selects C y z).before a0 Z = true) (w4 : (Cond.instanceMethod z).before a0 Z = true) (w4' : (Cond.publicMethod z).before a0 Z = true) (w7 : (Cond.unhidden C y.name y.desc).before a0 Z = true) (w8 : (Cond.castable C y.cls).before a0 Z = true) (hy : y.cls ≠ "java/lang/invoke/MethodHandle" ∧ y.cls ≠ "java/lang/invoke/VarHandle") (wq : ((Cond.interfaceMethod y.cls y.cls y.name y.desc).onTables && (Cond.interfaceMethod y.cls y.cls y.name y.desc).keepsFace) = true := by decide +kernel)
    (eT : T.heap = h) {kC kS : Nat} {a : Addr} (E : Exa Z h a C) {argsL rest : List Value} {Qc : Option Value → Heap → List Loc → Prop} {W : Nat} (B : OBk l R p e below s args z 5 W (.ref a :: argsL).toArray h kC kS Qc)
    {pc : Nat} {Ls : Array Slot} (hsz : Ls.size = c.maxLocals) (hlen : ∀ sig, parseMethodDescriptor y.desc = some sig → argsL.length = sig.parameters.length) {st : List Value} (hst : st = argsL.reverse ++ .ref a :: rest) (hW : (rest.map fun v => v.category).sum ≤ W) (hd : decode c.code pc = .ok (.invokeinterface index count, 5))
    (hc : cells + kC ≤ R.cells) (hs : slots + kS ≤ R.slots)
    (K : ∀ (T' : State) (v : Option Value) (L : List Loc), Stand p l e R s m args below meth c T' (locs ++ L) (cells + kC) (slots + kS) → Qc v T'.heap L → Go p e below Fin T' (mkF m (pc + 5) Ls (v.toList ++ rest))) : Go p e below Fin T (mkF m pc Ls st) := by
  subst hst
  obtain ⟨cq, kq, qa, qb, qc⟩ := isOf hZ eT E
  obtain ⟨v, _, ⟨T', L', k', n'⟩, -, X', ⟨Lc, hQ, hl, hk, hn⟩, stp⟩ := X.interfaceBack hx (xi := y) (y := z) hown (mvT hZ w1) (mvT hZ w2) (mvT hZ w2' wq) (mvT hZ w3) (mvT hZ w4) (mvT hZ w4') (mvT hZ w7) (mvT hZ w8) hy B qa qb qc (g := mkF m pc Ls (argsL.reverse ++ .ref a :: rest)) rfl hsz (Steps.refl _) (argsL := argsL) (rest := rest) hlen rfl (by show 2 * 0 + _ ≤ _; omega) hd (fun _ _ => ⟨rfl, eT, hc, hs⟩)
  dsimp only [Pt.U, Pt.locs, Pt.cells, Pt.slots] at X' hl hk hn stp hQ
  subst hl hk hn
  obtain ⟨t, o, h1, r⟩ := K T' v Lc X' hQ
  exact ⟨t, o, stp.trans h1, r⟩
/-- a private instance method by its contract -/
theorem Go.priv (X : Stand p l e R s m args below meth c T locs cells slots) (hx : p.tables.exec = Jvm.exec) (hZ : Z.Warmed39 s.vm) {own : String} {index : Nat} {y : MethodName} {bytes : ByteArray} {maxL : Nat} {ret : Option FieldType} {C : String} (hown : s.vm.findClass own = some m.cls)
    (w1 : (Cond.methodLink own index y).before a0 Z = true) (w2 : (Cond.instanceMethod y).before a0 Z = true) (sel : (Cond.selects y.cls y y).before args s = true) (w4 : (Cond.privateMethod y).before a0 Z = true) (w3 : (Cond.code y bytes maxL ret).before a0 Z = true) (hy : y.cls ≠ "java/lang/invoke/MethodHandle" ∧ y.cls ≠ "java/lang/invoke/VarHandle")
    (eT : T.heap = h) {kC kS : Nat} {a : Addr} (E : Exa Z h a C) {argsL rest : List Value} {Qc : Option Value → Heap → List Loc → Prop} {W : Nat} (B : OBk l R p e below s args y 3 W (.ref a :: argsL).toArray h kC kS Qc)
    {pc : Nat} {Ls : Array Slot} (hsz : Ls.size = c.maxLocals) (hlen : ∀ sig, parseMethodDescriptor y.desc = some sig → argsL.length = sig.parameters.length) {st : List Value} (hst : st = argsL.reverse ++ .ref a :: rest) (hW : (rest.map fun v => v.category).sum ≤ W) (hd : decode c.code pc = .ok (.invokevirtual index, 3))
    (hc : cells + kC ≤ R.cells) (hs : slots + kS ≤ R.slots)
    (K : ∀ (T' : State) (v : Option Value) (L : List Loc), Stand p l e R s m args below meth c T' (locs ++ L) (cells + kC) (slots + kS) → Qc v T'.heap L → Go p e below Fin T' (mkF m (pc + 3) Ls (v.toList ++ rest))) : Go p e below Fin T (mkF m pc Ls st) := by
  subst hst
  obtain ⟨cq, q, q'⟩ := E.cell
  obtain ⟨v, _, ⟨T', L', k', n'⟩, -, X', ⟨Lc, hQ, hl, hk, hn⟩, stp⟩ := X.privateBack hx (y := y) hown (mvT hZ w1) (mvT hZ w2) sel (Cond.privateMethod_at (mvP hZ w4 (args := #[]))) (mvT hZ w3) hy B (g := mkF m pc Ls (argsL.reverse ++ .ref a :: rest)) rfl hsz (Steps.refl _) (a := a) (by rw [eT]; exact q) q' (argsL := argsL) (rest := rest) hlen rfl (by show 2 * 0 + _ ≤ _; omega) hd (fun _ _ => ⟨rfl, eT, hc, hs⟩)
  dsimp only [Pt.U, Pt.locs, Pt.cells, Pt.slots] at X' hl hk hn stp hQ
  subst hl hk hn
  obtain ⟨t, o, h1, r⟩ := K T' v Lc X' hQ
  exact ⟨t, o, stp.trans h1, r⟩
/-- a static method by its contract -/
theorem Go.stat (X : Stand p l e R s m args below meth c T locs cells slots) (hx : p.tables.exec = Jvm.exec) (hZ : Z.Warmed39 s.vm) {own : String} {index : Nat} {y : MethodName} {bytes : ByteArray} {maxL : Nat} {ret : Option FieldType} (hown : s.vm.findClass own = some m.cls)
    (w1 : (Cond.methodLink own index y).before a0 Z = true) (w2 : (Cond.static y).before a0 Z = true) (w3 : (Cond.initialized y.cls).before a0 Z = true) (w4 : (Cond.code y bytes maxL ret).before a0 Z = true) (hy : y.cls ≠ "java/lang/invoke/MethodHandle" ∧ y.cls ≠ "java/lang/invoke/VarHandle")
    (eT : T.heap = h) {kC kS : Nat} {argsL rest : List Value} {Qc : Option Value → Heap → List Loc → Prop} {W : Nat} (B : OBk l R p e below s args y 3 W argsL.toArray h kC kS Qc)
    {pc : Nat} {Ls : Array Slot} (hsz : Ls.size = c.maxLocals) (hlen : ∀ sig, parseMethodDescriptor y.desc = some sig → argsL.length = sig.parameters.length) {st : List Value} (hst : st = argsL.reverse ++ rest) (hW : (rest.map fun v => v.category).sum ≤ W) (hd : decode c.code pc = .ok (.invokestatic index, 3))
    (hc : cells + kC ≤ R.cells) (hs : slots + kS ≤ R.slots)
    (K : ∀ (T' : State) (v : Option Value) (L : List Loc), Stand p l e R s m args below meth c T' (locs ++ L) (cells + kC) (slots + kS) → Qc v T'.heap L → Go p e below Fin T' (mkF m (pc + 3) Ls (v.toList ++ rest))) : Go p e below Fin T (mkF m pc Ls st) := by
  subst hst
  obtain ⟨v, _, ⟨T', L', k', n'⟩, -, X', ⟨Lc, hQ, hl, hk, hn⟩, stp⟩ := Jvm.LawKit.callS X hx (y := y) hown (mvT hZ w1) (mvT hZ w2) (mvT hZ w3) (mvT hZ w4) hy B (g := mkF m pc Ls (argsL.reverse ++ rest)) rfl hsz (argsL := argsL) (rest := rest) hlen rfl (by show 2 * 0 + _ ≤ _; omega) hd (fun _ _ => ⟨rfl, eT, hc, hs⟩)
  dsimp only [Pt.U, Pt.locs, Pt.cells, Pt.slots] at X' hl hk hn stp hQ
  subst hl hk hn
  obtain ⟨t, o, h1, r⟩ := K T' v Lc X' hQ
  exact ⟨t, o, stp t h1, r⟩
/-- who pays a call of a callee that may intern -/
def OBkS (l : Launch) (R : Room) (p : Program) (e : Env) (below : List Frame) (s : State) (args : Array Value) (y : MethodName) (len W : Nat) (as' : Array Value) (h : Heap) (k n : Nat) (Qc : Option Value → Heap → List Loc → Vm → Prop) : Prop :=
  BackS l R p e below s args y len W (fun A a => a = as' ∧ A.U.heap = h ∧ A.cells + k ≤ R.cells ∧ A.slots + n ≤ R.slots) (fun A _ v B => ∃ L, Qc v B.U.heap L B.U.vm ∧ B.locs = A.locs ++ L ∧ B.cells = A.cells + k ∧ B.slots = A.slots + n)
theorem MetW.back {y : MethodName} {bytes : ByteArray} {maxL : Nat} {ret : Option FieldType} {rm : Room} {as' : Array Value} {J : Vm → Prop} {Qc : Option Value → Heap → List Loc → Vm → Prop} {len W : Nat} (M : MetW l Z y bytes maxL ret rm as' h J Qc) (hZ : Z.Warmed39 s.vm) (hJ : ∀ vm1, s.WarmedH vm1 → J vm1) (wc : (Cond.code y bytes maxL ret).before a0 Z = true) (wz : (Cond.initialized y.cls).before a0 Z = true) (hf : rm.frames + 1 ≤ R.frames) (hl : W + (maxL + 11) + rm.locals ≤ R.locals) :
    OBkS l R p e below s args y len W as' h rm.cells rm.slots Qc :=
  BackS.of_freeW (bytes := bytes) (maxL := maxL) (ret := ret) (E := fun _ _ o t L k n => k = rm.cells ∧ n = rm.slots ∧ ∃ v, o = .returned v ∧ Qc v t.heap L t.vm) (M []) hf hl
    (fun m meth c A a Y hp => have hU : Z.Warmed39 A.U.vm := wtrans hZ Y.warmed
      ⟨by show (Cond.and _ .tt).before a A.U = true; rw [Cond.before_and, mv hU wc]; rfl, mv hU wc, mv hU wz, hp.2.2.1, hp.2.2.2⟩)
    (fun m meth c A a g mk Y hp => ⟨hp.1, wtrans hZ Y.warmed, hp.2.1, hJ _ Y.warmed⟩) (fun _ _ _ _ _ _ _ _ _ => trivial)
    (fun _ _ _ _ ⟨v, L, h1, h2, h3⟩ => ⟨L, _, _, h3, rfl, rfl, v, h1, h2⟩)
    (fun m meth c A a g mk v t L k n Y hp _ _ ⟨e1, e2, v', e3, e4⟩ => by cases e3; subst e1 e2; exact ⟨L, e4, rfl, rfl, rfl⟩)
/-- a constructor by its contract -/
theorem Go.specialS {vm0 : Vm} {k0 : Nat} (hS : s.Since vm0 k0) (hk0 : k0 ≤ h.size) (X : Stand p l e R (s.setVm vm0) m args below meth c T locs cells slots) (hx : p.tables.exec = Jvm.exec) (hZ : Z.Warmed39 (s.setVm vm0).vm) {own : String} {index : Nat} {y : MethodName} {bytes : ByteArray} {maxL : Nat} (hy1 : y.name = "<init>") (hown : (s.setVm vm0).vm.findClass own = some m.cls)
    (w1 : (Cond.methodLink own index y).before a0 Z = true) (w2 : (Cond.instanceMethod y).before a0 Z = true) (w3 : (Cond.code y bytes maxL none).before a0 Z = true) (hy : y.cls ≠ "java/lang/invoke/MethodHandle" ∧ y.cls ≠ "java/lang/invoke/VarHandle")
    (eT : T.heap = h) {kC kS : Nat} {a : Addr} {argsL rest : List Value} {Qc : Option Value → Heap → List Loc → Vm → Prop} {W : Nat} (B : OBkS l R p e below (s.setVm vm0) args y 3 W (.ref a :: argsL).toArray h kC kS Qc)
    {pc : Nat} {Ls : Array Slot} (hsz : Ls.size = c.maxLocals) (hlen : ∀ sig, parseMethodDescriptor y.desc = some sig → argsL.length = sig.parameters.length) {st : List Value} (hst : st = argsL.reverse ++ .ref a :: rest) (hW : (rest.map fun v => v.category).sum ≤ W) (hd : decode c.code pc = .ok (.invokespecial index, 3))
    (hc : cells + kC ≤ R.cells) (hs : slots + kS ≤ R.slots)
    (K : ∀ (T' : State) (v : Option Value) (L : List Loc), Stand p l e R (s.setVm T'.vm) m args below meth c T' (locs ++ L) (cells + kC) (slots + kS) → s.Since T'.vm T'.heap.size → (s.setVm vm0).Warmed39 T'.vm → Z.Warmed39 (s.setVm T'.vm).vm → (s.setVm T'.vm).vm.findClass own = some m.cls → h.size ≤ T'.heap.size → Qc v T'.heap L T'.vm → Go p e below Fin T' (mkF m (pc + 3) Ls (v.toList ++ rest))) : Go p e below Fin T (mkF m pc Ls st) := by
  subst hst
  obtain ⟨v, _, ⟨T', L', k', n'⟩, -, X', h2, hg, ⟨Lc, hQ, hl, hk, hn⟩, stp⟩ := X.specialBackS hx (y := y) hy1 hown (mvT hZ w1) (mvT hZ w2) (mvT hZ w3) hy B (g := mkF m pc Ls (argsL.reverse ++ .ref a :: rest)) rfl hsz (Steps.refl _) (a := a) (argsL := argsL) (rest := rest) hlen rfl (by show 2 * 0 + _ ≤ _; omega) hd (fun _ _ => ⟨rfl, eT, hc, hs⟩)
  dsimp only [Pt.U, Pt.locs, Pt.cells, Pt.slots] at X' h2 hg hl hk hn stp hQ
  subst hl hk hn
  rw [eT] at hg
  obtain ⟨X1, X2, X3, X4⟩ := rebS hS hk0 X' h2 hg hZ hown
  obtain ⟨t, o, h1, r⟩ := K T' v Lc X1 X2 h2.1 X3 X4 hg hQ
  exact ⟨t, o, stp.trans h1, r⟩
/-- an instance method by the contract of the body that the receiver's class selects -/
theorem Go.virtS {vm0 : Vm} {k0 : Nat} (hS : s.Since vm0 k0) (hk0 : k0 ≤ h.size) (X : Stand p l e R (s.setVm vm0) m args below meth c T locs cells slots) (hx : p.tables.exec = Jvm.exec) (hZ : Z.Warmed39 (s.setVm vm0).vm) {own C : String} {index : Nat} {y z : MethodName} (hown : (s.setVm vm0).vm.findClass own = some m.cls)
    (w1 : (Cond.methodLink own index y).before a0 Z = true) (w2 : (Cond.declares y).before a0 Z = true) (nf : NotFace (s.setVm vm0) y) (w3 : (Cond.selects C y z).before a0 Z = true) (w4 : (Cond.instanceMethod z).before a0 Z = true) (hy : y.cls ≠ "java/lang/invoke/MethodHandle" ∧ y.cls ≠ "java/lang/invoke/VarHandle")
    (eT : T.heap = h) {kC kS : Nat} {a : Addr} (E : Exa Z h a C) {argsL rest : List Value} {Qc : Option Value → Heap → List Loc → Vm → Prop} {W : Nat} (B : OBkS l R p e below (s.setVm vm0) args z 3 W (.ref a :: argsL).toArray h kC kS Qc)
    {pc : Nat} {Ls : Array Slot} (hsz : Ls.size = c.maxLocals) (hlen : ∀ sig, parseMethodDescriptor y.desc = some sig → argsL.length = sig.parameters.length) {st : List Value} (hst : st = argsL.reverse ++ .ref a :: rest) (hW : (rest.map fun v => v.category).sum ≤ W) (hd : decode c.code pc = .ok (.invokevirtual index, 3))
    (hc : cells + kC ≤ R.cells) (hs : slots + kS ≤ R.slots)
    (K : ∀ (T' : State) (v : Option Value) (L : List Loc), Stand p l e R (s.setVm T'.vm) m args below meth c T' (locs ++ L) (cells + kC) (slots + kS) → s.Since T'.vm T'.heap.size → (s.setVm vm0).Warmed39 T'.vm → Z.Warmed39 (s.setVm T'.vm).vm → (s.setVm T'.vm).vm.findClass own = some m.cls → h.size ≤ T'.heap.size → Qc v T'.heap L T'.vm → Go p e below Fin T' (mkF m (pc + 3) Ls (v.toList ++ rest))) : Go p e below Fin T (mkF m pc Ls st) := by
  subst hst
  obtain ⟨cq, kq, qa, qb, qc⟩ := isOf hZ eT E
  obtain ⟨v, _, ⟨T', L', k', n'⟩, -, X', h2, hg, ⟨Lc, hQ, hl, hk, hn⟩, stp⟩ := X.virtualBackS hx (y := y) (z := z) hown (mvT hZ w1) (mvT hZ w2) nf (mvT hZ w3) (mvT hZ w4) hy B qa qc (g := mkF m pc Ls (argsL.reverse ++ .ref a :: rest)) rfl hsz (Steps.refl _) (argsL := argsL) (rest := rest) hlen rfl (by show 2 * 0 + _ ≤ _; omega) hd (fun _ _ => ⟨rfl, eT, hc, hs⟩)
  dsimp only [Pt.U, Pt.locs, Pt.cells, Pt.slots] at X' h2 hg hl hk hn stp hQ
  subst hl hk hn
  rw [eT] at hg
  obtain ⟨X1, X2, X3, X4⟩ := rebS hS hk0 X' h2 hg hZ hown
  obtain ⟨t, o, h1, r⟩ := K T' v Lc X1 X2 h2.1 X3 X4 hg hQ
  exact ⟨t, o, stp.trans h1, r⟩
/-- an interface's method by the contract of the body that the receiver's class selects -/
theorem Go.faceS {vm0 : Vm} {k0 : Nat} (hS : s.Since vm0 k0) (hk0 : k0 ≤ h.size) (X : Stand p l e R (s.setVm vm0) m args below meth c T locs cells slots) (hx : p.tables.exec = Jvm.exec) (hZ : Z.Warmed39 (s.setVm vm0).vm) {own C : String} {index count : Nat} {y z : MethodName} (hown : (s.setVm vm0).vm.findClass own = some m.cls)
    (w1 : (Cond.methodLink own index y).before a0 Z = true) (w2 : (Cond.declares y).before a0 Z = true) (w2' : (Cond.interfaceMethod y.cls y.cls y.name y.desc).before a0 Z = true) (w3 : (Cond.selects C y z).before a0 Z = true) (w4 : (Cond.instanceMethod z).before a0 Z = true) (w4' : (Cond.publicMethod z).before a0 Z = true) (w7 : (Cond.unhidden C y.name y.desc).before a0 Z = true) (w8 : (Cond.castable C y.cls).before a0 Z = true) (hy : y.cls ≠ "java/lang/invoke/MethodHandle" ∧ y.cls ≠ "java/lang/invoke/VarHandle") (wq : ((Cond.interfaceMethod y.cls y.cls y.name y.desc).onTables && (Cond.interfaceMethod y.cls y.cls y.name y.desc).keepsFace) = true := by decide +kernel)
    (eT : T.heap = h) {kC kS : Nat} {a : Addr} (E : Exa Z h a C) {argsL rest : List Value} {Qc : Option Value → Heap → List Loc → Vm → Prop} {W : Nat} (B : OBkS l R p e below (s.setVm vm0) args z 5 W (.ref a :: argsL).toArray h kC kS Qc)
    {pc : Nat} {Ls : Array Slot} (hsz : Ls.size = c.maxLocals) (hlen : ∀ sig, parseMethodDescriptor y.desc = some sig → argsL.length = sig.parameters.length) {st : List Value} (hst : st = argsL.reverse ++ .ref a :: rest) (hW : (rest.map fun v => v.category).sum ≤ W) (hd : decode c.code pc = .ok (.invokeinterface index count, 5))
    (hc : cells + kC ≤ R.cells) (hs : slots + kS ≤ R.slots)
    (K : ∀ (T' : State) (v : Option Value) (L : List Loc), Stand p l e R (s.setVm T'.vm) m args below meth c T' (locs ++ L) (cells + kC) (slots + kS) → s.Since T'.vm T'.heap.size → (s.setVm vm0).Warmed39 T'.vm → Z.Warmed39 (s.setVm T'.vm).vm → (s.setVm T'.vm).vm.findClass own = some m.cls → h.size ≤ T'.heap.size → Qc v T'.heap L T'.vm → Go p e below Fin T' (mkF m (pc + 5) Ls (v.toList ++ rest))) : Go p e below Fin T (mkF m pc Ls st) := by
  subst hst
  obtain ⟨cq, kq, qa, qb, qc⟩ := isOf hZ eT E
  obtain ⟨v, _, ⟨T', L', k', n'⟩, -, X', h2, hg, ⟨Lc, hQ, hl, hk, hn⟩, stp⟩ := X.interfaceBackS hx (xi := y) (y := z) hown (mvT hZ w1) (mvT hZ w2) (mvT hZ w2' wq) (mvT hZ w3) (mvT hZ w4) (mvT hZ w4') (mvT hZ w7) (mvT hZ w8) hy B qa qb qc (g := mkF m pc Ls (argsL.reverse ++ .ref a :: rest)) rfl hsz (Steps.refl _) (argsL := argsL) (rest := rest) hlen rfl (by show 2 * 0 + _ ≤ _; omega) hd (fun _ _ => ⟨rfl, eT, hc, hs⟩)
  dsimp only [Pt.U, Pt.locs, Pt.cells, Pt.slots] at X' h2 hg hl hk hn stp hQ
  subst hl hk hn
  rw [eT] at hg
  obtain ⟨X1, X2, X3, X4⟩ := rebS hS hk0 X' h2 hg hZ hown
  obtain ⟨t, o, h1, r⟩ := K T' v Lc X1 X2 h2.1 X3 X4 hg hQ
  exact ⟨t, o, stp.trans h1, r⟩
/-- a private instance method by its contract -/
theorem Go.privS {vm0 : Vm} {k0 : Nat} (hS : s.Since vm0 k0) (hk0 : k0 ≤ h.size) (X : Stand p l e R (s.setVm vm0) m args below meth c T locs cells slots) (hx : p.tables.exec = Jvm.exec) (hZ : Z.Warmed39 (s.setVm vm0).vm) {own : String} {index : Nat} {y : MethodName} {bytes : ByteArray} {maxL : Nat} {ret : Option FieldType} {C : String} (hown : (s.setVm vm0).vm.findClass own = some m.cls)
    (w1 : (Cond.methodLink own index y).before a0 Z = true) (w2 : (Cond.instanceMethod y).before a0 Z = true) (sel : (Cond.selects y.cls y y).before args (s.setVm vm0) = true) (w4 : (Cond.privateMethod y).before a0 Z = true) (w3 : (Cond.code y bytes maxL ret).before a0 Z = true) (hy : y.cls ≠ "java/lang/invoke/MethodHandle" ∧ y.cls ≠ "java/lang/invoke/VarHandle")
    (eT : T.heap = h) {kC kS : Nat} {a : Addr} (E : Exa Z h a C) {argsL rest : List Value} {Qc : Option Value → Heap → List Loc → Vm → Prop} {W : Nat} (B : OBkS l R p e below (s.setVm vm0) args y 3 W (.ref a :: argsL).toArray h kC kS Qc)
    {pc : Nat} {Ls : Array Slot} (hsz : Ls.size = c.maxLocals) (hlen : ∀ sig, parseMethodDescriptor y.desc = some sig → argsL.length = sig.parameters.length) {st : List Value} (hst : st = argsL.reverse ++ .ref a :: rest) (hW : (rest.map fun v => v.category).sum ≤ W) (hd : decode c.code pc = .ok (.invokevirtual index, 3))
    (hc : cells + kC ≤ R.cells) (hs : slots + kS ≤ R.slots)
    (K : ∀ (T' : State) (v : Option Value) (L : List Loc), Stand p l e R (s.setVm T'.vm) m args below meth c T' (locs ++ L) (cells + kC) (slots + kS) → s.Since T'.vm T'.heap.size → (s.setVm vm0).Warmed39 T'.vm → Z.Warmed39 (s.setVm T'.vm).vm → (s.setVm T'.vm).vm.findClass own = some m.cls → h.size ≤ T'.heap.size → Qc v T'.heap L T'.vm → Go p e below Fin T' (mkF m (pc + 3) Ls (v.toList ++ rest))) : Go p e below Fin T (mkF m pc Ls st) := by
  subst hst
  obtain ⟨cq, q, q'⟩ := E.cell
  obtain ⟨v, _, ⟨T', L', k', n'⟩, -, X', h2, hg, ⟨Lc, hQ, hl, hk, hn⟩, stp⟩ := X.privateBackS hx (y := y) hown (mvT hZ w1) (mvT hZ w2) sel (Cond.privateMethod_at (mvP hZ w4 (args := #[]))) (mvT hZ w3) hy B (g := mkF m pc Ls (argsL.reverse ++ .ref a :: rest)) rfl hsz (Steps.refl _) (a := a) (by rw [eT]; exact q) q' (argsL := argsL) (rest := rest) hlen rfl (by show 2 * 0 + _ ≤ _; omega) hd (fun _ _ => ⟨rfl, eT, hc, hs⟩)
  dsimp only [Pt.U, Pt.locs, Pt.cells, Pt.slots] at X' h2 hg hl hk hn stp hQ
  subst hl hk hn
  rw [eT] at hg
  obtain ⟨X1, X2, X3, X4⟩ := rebS hS hk0 X' h2 hg hZ hown
  obtain ⟨t, o, h1, r⟩ := K T' v Lc X1 X2 h2.1 X3 X4 hg hQ
  exact ⟨t, o, stp.trans h1, r⟩
/-- a static method by its contract -/
theorem Go.statS {vm0 : Vm} {k0 : Nat} (hS : s.Since vm0 k0) (hk0 : k0 ≤ h.size) (X : Stand p l e R (s.setVm vm0) m args below meth c T locs cells slots) (hx : p.tables.exec = Jvm.exec) (hZ : Z.Warmed39 (s.setVm vm0).vm) {own : String} {index : Nat} {y : MethodName} {bytes : ByteArray} {maxL : Nat} {ret : Option FieldType} (hown : (s.setVm vm0).vm.findClass own = some m.cls)
    (w1 : (Cond.methodLink own index y).before a0 Z = true) (w2 : (Cond.static y).before a0 Z = true) (w3 : (Cond.initialized y.cls).before a0 Z = true) (w4 : (Cond.code y bytes maxL ret).before a0 Z = true) (hy : y.cls ≠ "java/lang/invoke/MethodHandle" ∧ y.cls ≠ "java/lang/invoke/VarHandle")
    (eT : T.heap = h) {kC kS : Nat} {argsL rest : List Value} {Qc : Option Value → Heap → List Loc → Vm → Prop} {W : Nat} (B : OBkS l R p e below (s.setVm vm0) args y 3 W argsL.toArray h kC kS Qc)
    {pc : Nat} {Ls : Array Slot} (hsz : Ls.size = c.maxLocals) (hlen : ∀ sig, parseMethodDescriptor y.desc = some sig → argsL.length = sig.parameters.length) {st : List Value} (hst : st = argsL.reverse ++ rest) (hW : (rest.map fun v => v.category).sum ≤ W) (hd : decode c.code pc = .ok (.invokestatic index, 3))
    (hc : cells + kC ≤ R.cells) (hs : slots + kS ≤ R.slots)
    (K : ∀ (T' : State) (v : Option Value) (L : List Loc), Stand p l e R (s.setVm T'.vm) m args below meth c T' (locs ++ L) (cells + kC) (slots + kS) → s.Since T'.vm T'.heap.size → (s.setVm vm0).Warmed39 T'.vm → Z.Warmed39 (s.setVm T'.vm).vm → (s.setVm T'.vm).vm.findClass own = some m.cls → h.size ≤ T'.heap.size → Qc v T'.heap L T'.vm → Go p e below Fin T' (mkF m (pc + 3) Ls (v.toList ++ rest))) : Go p e below Fin T (mkF m pc Ls st) := by
  subst hst
  obtain ⟨v, _, ⟨T', L', k', n'⟩, -, X', h2, hg, ⟨Lc, hQ, hl, hk, hn⟩, stp⟩ := callSS X hx (y := y) hown (mvT hZ w1) (mvT hZ w2) (mvT hZ w3) (mvT hZ w4) hy B (g := mkF m pc Ls (argsL.reverse ++ rest)) rfl hsz (argsL := argsL) (rest := rest) hlen rfl (by show 2 * 0 + _ ≤ _; omega) hd (fun _ _ => ⟨rfl, eT, hc, hs⟩)
  dsimp only [Pt.U, Pt.locs, Pt.cells, Pt.slots] at X' h2 hg hl hk hn stp hQ
  subst hl hk hn
  rw [eT] at hg
  obtain ⟨X1, X2, X3, X4⟩ := rebS hS hk0 X' h2 hg hZ hown
  obtain ⟨t, o, h1, r⟩ := K T' v Lc X1 X2 h2.1 X3 X4 hg hQ
  exact ⟨t, o, stp.trans h1, r⟩
/-- what a static holds stands over a call that writes no statics' cell -/
theorem own_sta_keep {C n d : String} {v : Value} {h h' : Heap} {ws : List Addr} (F : Sta Z h C n d v) (K : Keep h h' ws) (q : ∀ x ∈ ws, ∀ cell : Cell, h[x]? = some cell → cell.vm.isStatics = false) : Sta Z h' C n d v := by
  obtain ⟨cf, i, k, f, st, cell, h1, h2, h3, h4, h5, h6, h7⟩ := F
  exact ⟨cf, i, k, f, st, cell, h1, h2, h3, h4, K.2.1 st cell h5 (fun z => by rw [q st z cell h5] at h6; cases h6), h6, h7⟩
theorem own_exa_plain {C : String} {h : Heap} {a : Addr} (E : Exa Z h a C) : ∀ cell : Cell, h[a]? = some cell → cell.vm.isStatics = false := fun cell hc => by
  obtain ⟨c, k, h1, -, -, h4, -⟩ := E
  cases h1.symm.trans hc; exact h4
theorem own_exa_at {args : Array Value} {s : State} {t : Term} {C : String} (h : (Cond.exactly t C).value args s none s [] = some true) : ∃ a, t.eval args s none [] s = some (.ref a) ∧ Exa s s.heap a C := by
  have h' : (Cond.exactly t C).before args s = true := Cond.before_iff.mpr h
  obtain ⟨a, c', cell, k, e1, e2, e3, e4, e5, rfl, e7⟩ := Cond.exactly_spec h'
  exact ⟨a, e1, cell, k, e3, e2, e4, e5, e7⟩
theorem own_eq_int {args : Array Value} {s : State} {t : Term} {n : Int32} (h : (Cond.eq t (.int n)).value args s none s [] = some true) : t.eval args s none [] s = some (.int n) :=
  Cond.eq_int (b := .int n) (Cond.before_iff.mpr h) rfl
theorem own_field_at {args : Array Value} {s : State} {t : Term} {a : Addr} {C n d : String} {v : Value} (ht : t.eval args s none [] s = some (.ref a)) (h : (Term.field t C n d).eval args s none [] s = some v) : Fld s s.heap a C n d v := by
  rw [fld_at ht] at h
  exact Fld.start h
theorem own_not_eq {args : Array Value} {s : State} {t : Term} {z n : Int32} (ez : t.eval args s none [] s = some (.int z)) (h : (Cond.not (.eq t (.int n))).value args s none s [] = some true) : ¬ z = n := by
  intro e
  subst e
  have q := eq_i (idx := []) (o := none) (first := s) ez (Term.int_eval z) rfl
  rw [show (Cond.not (.eq t (.int z))).value args s none s [] = ((Cond.eq t (.int z)).value args s none s []).map (!·) from rfl, q] at h
  cases h
theorem own_refcat {v : Value} (h : v.isRef = true) : v.category = 1 := by cases v <;> first | rfl | (cases h)
theorem own_cat_i (z : Int32) : (Value.int z).category = 1 := rfl
theorem own_cat_l (z : Int64) : (Value.long z).category = 2 := rfl
theorem own_cat_r (a : Addr) : (Value.ref a).category = 1 := rfl
theorem own_cat_n : (Value.null).category = 1 := rfl
theorem own_one_u : (Slot.unset) = .unset ∨ ∃ w, Slot.unset = .val w ∧ w.category = 1 := Or.inl rfl
theorem own_one_v {w : Value} (h : w.category = 1) : (Slot.val w) = .unset ∨ ∃ u, Slot.val w = .val u ∧ u.category = 1 := Or.inr ⟨w, rfl, h⟩
theorem own_store1 {L L' : Array Slot} {i : Nat} {v : Value} {o : Slot} (hold : L[i]? = some o) (ho : o = .unset ∨ ∃ w, o = .val w ∧ w.category = 1) (hv : v.category = 1) (e : L.setIfInBounds i (.val v) = L') : storeLocals L i v = some L' := by
  rw [← e]; exact XS.store1 hold ho hv
theorem own_fits_of {t : FieldType} {z z' : Int32} (h : nar t z = z') (f : fits t (.int (nar t z)) = true) : fits t (.int z') = true := h ▸ f
theorem own_fits_ref {t : FieldType} {v : Value} (h : v.isRef = true) (ht : t.isReference = true) : fits t v = true := by
  cases t <;> first | (cases ht; done) | (cases v <;> first | rfl | (cases h; done))
theorem own_eq_long {args : Array Value} {s : State} {t : Term} {n : Int64} (h : (Cond.eq t (.long n)).value args s none s [] = some true) : t.eval args s none [] s = some (.long n) :=
  Cond.eq_long (b := .long n) (Cond.before_iff.mpr h) rfl
theorem own_elem_at {args : Array Value} {s : State} {t : Term} {a : Addr} {cl : Cell} {ty : FieldType} {j : Int32} {v : Value} {k : Nat} (ht : t.eval args s none [] s = some (.ref a)) (A : Arr s s.heap a cl ty) (h : (Term.elem t (.int j)).eval args s none [] s = some v) (hk : j.toNatClampNeg = k) : cl.slots[k]? = some v := by
  subst hk
  exact (elem_in h ht rfl A.1).2
theorem own_len_at {args : Array Value} {s : State} {t : Term} {a : Addr} {cl : Cell} {ty : FieldType} {n : Int32} (ht : t.eval args s none [] s = some (.ref a)) (A : Arr s s.heap a cl ty) (h : (Term.length t).eval args s none [] s = some (.int n)) : cl.slots.size < 2 ^ 31 ∧ cl.slots.size.toInt32 = n := by
  have hA := A.fin (Vm.Alike.refl _)
  by_cases q : cl.slots.size < 2 ^ 31
  · have e := len_f ht hA q
    exact ⟨q, Value.int.inj (Option.some.inj (e.symm.trans h))⟩
  · exfalso
    simp [Term.eval, ht, hA, q] at h
theorem own_eq_ref {args : Array Value} {s : State} {t u : Term} {a : Addr} (h : (Cond.eq t u).value args s none s [] = some true) (hu : u.eval args s none [] s = some (.ref a)) : t.eval args s none [] s = some (.ref a) :=
  Cond.eq_refs (Cond.before_iff.mpr h) hu rfl
theorem own_eq_null {args : Array Value} {s : State} {t : Term} (h : (Cond.eq t .null).value args s none s [] = some true) : t.eval args s none [] s = some .null := null_v h
theorem own_arr_keep {h h' : Heap} {a : Addr} {cl : Cell} {ty : FieldType} {ws : List Addr} (F : Arr Z h a cl ty) (K : Keep h h' ws) (q : a ∉ ws) : Arr Z h' a cl ty := ⟨K.2.1 a cl F.1 q, F.2⟩
theorem own_ib {vm0 : Vm} (h : vm0.interned = Z.vm.interned) : IB Z vm0 [] := ⟨#[], by simp [h], fun q hq => by simp at hq⟩
theorem own_lambda (X : Stand p l e R s m args below meth c T locs cells slots) (hx : p.tables.exec = Jvm.exec) (hZ : Z.Warmed39 s.vm) {x : MethodName} {pc index : Nat} {σ : Lambda.Shape} (hnamed : Z.methodNamed? x = some m) (w : (Cond.lambdaSite x pc index σ).before a0 Z = true) (hcap : σ.captured = [])
    {g : JFrame} (hg : g.method = m) (hpc : g.pc = pc) (hsize : g.locals.size = c.maxLocals) (hd : decode c.code g.pc = .ok (.invokedynamic index, 5)) (hwords : 2 * g.monitorRoom + (g.stack.map fun v => v.category).sum + 3072 ≤ R.locals) :
    ∃ a : Addr, ∀ t, Steps p.tables e below (T.setTop { g with pc := g.pc + 5, stack := .ref a :: g.stack }) t → Steps p.tables e below (T.setTop g) t := by
  obtain ⟨cK, one, hat⟩ := Cond.lambdaSite_spec w
  obtain ⟨mD, kD, cfD, i0, p0, lk, hmD, hkD, -, -, -, hfind, -, -, hl⟩ := State.lambdaAt?_spec hat
  cases hnamed.symm.trans hmD
  obtain ⟨k', hk', he, -⟩ := hZ.2.2.2 _ _ hkD
  have hw : e.platform.lambdaLinkWords = 3072 := by rw [X.admits.platform]
  rcases hl with ⟨a, cell, rfl, -⟩ | ⟨-, -, hne⟩
  · exact ⟨a, fun t k => X.lambdaConstant hx hg hsize hd hk' (by rw [hpc, he]; exact hfind) (by rw [hw]; exact hwords) k⟩
  · exact absurd hcap hne
/-- 'ldcSVL', with what it tells of the tables since just before it -/
theorem own_ldcL {vm0 : Vm} {own text : String} {index : Nat} {Ts : List String} (X : Stand p l e R (s.setVm vm0) m args below meth c T locs cells slots) (hx : p.tables.exec = Jvm.exec) (hZ : Z.Warmed39 (s.setVm vm0).vm) (hown : (s.setVm vm0).vm.findClass own = some m.cls) (w : (Cond.stringLink own index text).before a0 Z = true) (wS : ∀ a ∈ Bundle.stringAtoms, a.before a0 Z = true)
    (eT : T.heap = h) {k0 : Nat} (hS : s.Since vm0 k0) (hk : k0 ≤ h.size) (N : Fr s.heap.size locs) (hkeep : ∀ (b : Addr) (cl : Cell), Z.heap[b]? = some cl → s.heap[b]? = some cl) (I : IB Z vm0 Ts) (hnot : text ∉ Ts) (hh : Jvm.Lit.constHeld Z own index) (hcw : Jvm.Lit.compactW.before a0 Z = true)
    {vs : List Value} {z : Int32} (ht : (∀ c ∈ text.toList, c.toNat < 256) ∧ text.toList.map (fun c => Value.int (Jvm.Lit.byteI c.toNat.toUInt16)) = vs) (hz : ¬ z < 0) (hl : z.toNatClampNeg = vs.length)
    {g : JFrame} (hg : g.method = m) (hd : decode c.code g.pc = .ok (.ldc index, 2)) {n : Nat} (hn : 4 * text.toList.length ≤ n) (hbig : n ≤ 536870912) (hc : cells + 2 ≤ R.cells) (hl' : slots + (n + 4) ≤ R.slots) :
    ∃ (a : Addr) (T' : State) (h' : Heap) (b : Addr) (k : ClassId), Stand p l e R (s.setVm T'.vm) m args below meth c T' locs (cells + 2) (slots + (n + 4)) ∧ T'.heap = h' ∧ Ext h h' ∧ s.Since T'.vm h'.size ∧ (s.setVm vm0).Warmed39 T'.vm ∧ Z.Warmed39 (s.setVm T'.vm).vm ∧ (s.setVm T'.vm).vm.findClass own = some m.cls ∧
      Exa Z h' a "java/lang/String" ∧ Fld Z h' a "java/lang/String" "coder" "B" (.int 0) ∧ Fld Z h' a "java/lang/String" "value" "[B" (.ref b) ∧ Arv Z h' b k .byte z vs (.int 0) ∧ IB Z T'.vm (text :: Ts) ∧ Lit (Z.setVm T'.vm) own index a ∧
      ∀ target, Steps p.tables e below (T'.setTop { g with pc := g.pc + 2, stack := .ref a :: g.stack }) target → Steps p.tables e below (T.setTop g) target := by
  obtain ⟨a, T', h', k1, b, k, r1, r2, r3, r4, r5, r6, r7, r8, r9, r10, r11, -, -, r14, r15, st⟩ := ldcSVL (s := s.setVm vm0) (vm0 := vm0) (k0 := 0) X hx hZ hown w wS eT (State.WarmedH.since (State.WarmedH.refl (s.setVm vm0)) 0) (Nat.zero_le _) N hkeep I hnot hh hcw ht hz hl hg hd hn hbig hc hl'
  exact ⟨a, T', h', b, k, r1, r2, r3, hS.trans ⟨r4.1, r4.2.mono r5⟩ (Nat.le_trans hk r3.1), r4.1, r6, r7, r8, r9, r10, r11, r14, r15, st⟩
theorem own_lit_stays {vm0 vm1 : Vm} {own : String} {index : Nat} {a : Addr} (L : Lit (Z.setVm vm0) own index a) (hW : (s.setVm vm0).Warmed39 vm1) : Lit (Z.setVm vm1) own index a := (Lit.stays (s := s) (vm0 := vm0) (vm1 := vm1) L hW : Lit (s.setVm vm1) own index a)
theorem own_ib_more {vm0 : Vm} {Ts : List String} {t : String} (I : IB Z vm0 Ts) : IB Z vm0 (t :: Ts) := by
  obtain ⟨more, h1, h2⟩ := I
  exact ⟨more, h1, fun q hq => by obtain ⟨u, hu, e⟩ := h2 q hq; exact ⟨u, List.mem_cons_of_mem _ hu, e⟩⟩
theorem own_ib_warm {vm0 : Vm} {Ts : List String} (I : IB Z s.vm Ts) (hW : s.WarmedH vm0) : IB Z vm0 Ts := by
  obtain ⟨more, h1, h2⟩ := I
  exact ⟨more, by rw [hW.interned_eq]; exact h1, h2⟩
end OwnGo
end Jvm.RoadKit
namespace Jvm.Pilot.@@N@@
open Jvm Jvm.ClassFile Sem Op Lib Jvm.Free Jvm.Stand Jvm.LawKit Jvm.RoadKit Bundle Jvm.Pilot.@@N@@.Jvm.D
theorem own_wS {a0 : Array Value} {Z : State} (hw : ∀ d ∈ tables_1, d.before a0 Z = true) : ∀ d ∈ Bundle.stringAtoms, d.before a0 Z = true := fun d hd => hw d ((by decide +kernel : ∀ d ∈ Bundle.stringAtoms, d ∈ tables_1) d hd)
def own_b (x k : Int32) : Int32 := if x &&& k = 0 then 0 else 1
def own_is (x k : Int32) : Int32 := if x = k then 1 else 0
def own_r (b : Int32) (a : Addr) : Value := if b = 0 then .null else .ref a
theorem own_r_ref (b : Int32) (a : Addr) : (own_r b a).isRef = true := by unfold own_r; split <;> rfl
theorem own_b_nar (x k : Int32) : nar .boolean (own_b x k) = own_b x k := by unfold own_b; split <;> rfl
theorem own_is_nar (x k : Int32) : nar .boolean (own_is x k) = own_is x k := by unfold own_is; split <;> rfl
theorem d3_0 : decode prog_60_method_2_code 0 = .ok (.iload_n 2, 1) := by decide +kernel
theorem d3_1 : decode prog_60_method_2_code 1 = .ok (.ifCond .lt 10, 3) := by decide +kernel
theorem d3_4 : decode prog_60_method_2_code 4 = .ok (.iload_n 2, 1) := by decide +kernel
theorem d3_5 : decode prog_60_method_2_code 5 = .ok (.sipush 365, 3) := by decide +kernel
theorem d3_8 : decode prog_60_method_2_code 8 = .ok (.if_icmp .le 19, 3) := by decide +kernel
theorem d3_11 : decode prog_60_method_2_code 11 = .ok (.new 9, 3) := by decide +kernel
theorem d3_14 : decode prog_60_method_2_code 14 = .ok (.dup, 1) := by decide +kernel
theorem d3_15 : decode prog_60_method_2_code 15 = .ok (.aload_n 0, 1) := by decide +kernel
theorem d3_16 : decode prog_60_method_2_code 16 = .ok (.aload_n 1, 1) := by decide +kernel
theorem d3_17 : decode prog_60_method_2_code 17 = .ok (.iload_n 2, 1) := by decide +kernel
theorem d3_18 : decode prog_60_method_2_code 18 = .ok (.invokedynamic 11, 5) := by decide +kernel
theorem d3_23 : decode prog_60_method_2_code 23 = .ok (.invokespecial 15, 3) := by decide +kernel
theorem d3_26 : decode prog_60_method_2_code 26 = .ok (.athrow, 1) := by decide +kernel
theorem d3_27 : decode prog_60_method_2_code 27 = .ok (.iload_n 2, 1) := by decide +kernel
theorem d3_28 : decode prog_60_method_2_code 28 = .ok (.ireturn, 1) := by decide +kernel
theorem d1_0 : decode prog_72_method_1_code 0 = .ok (.aload_n 0, 1) := by decide +kernel
theorem d1_1 : decode prog_72_method_1_code 1 = .ok (.invokespecial 1, 3) := by decide +kernel
theorem d1_4 : decode prog_72_method_1_code 4 = .ok (.aload_n 0, 1) := by decide +kernel
theorem d1_5 : decode prog_72_method_1_code 5 = .ok (.ldc 7, 2) := by decide +kernel
theorem d1_7 : decode prog_72_method_1_code 7 = .ok (.ldc 9, 2) := by decide +kernel
theorem d1_9 : decode prog_72_method_1_code 9 = .ok (.iload_n 1, 1) := by decide +kernel
theorem d1_10 : decode prog_72_method_1_code 10 = .ok (.invokestatic 11, 3) := by decide +kernel
theorem d1_13 : decode prog_72_method_1_code 13 = .ok (.putfield 17, 3) := by decide +kernel
theorem d1_16 : decode prog_72_method_1_code 16 = .ok (.return_, 1) := by decide +kernel
theorem d4_0 : decode prog_39_method_1_code 0 = .ok (.aload_n 0, 1) := by decide +kernel
theorem d4_1 : decode prog_39_method_1_code 1 = .ok (.aload_n 1, 1) := by decide +kernel
theorem d4_2 : decode prog_39_method_1_code 2 = .ok (.aload_n 2, 1) := by decide +kernel
theorem d4_3 : decode prog_39_method_1_code 3 = .ok (.aconst_null, 1) := by decide +kernel
theorem d4_4 : decode prog_39_method_1_code 4 = .ok (.aload_n 3, 1) := by decide +kernel
theorem d4_5 : decode prog_39_method_1_code 5 = .ok (.invokespecial 1, 3) := by decide +kernel
theorem d4_8 : decode prog_39_method_1_code 8 = .ok (.return_, 1) := by decide +kernel
theorem d5_0 : decode prog_39_method_2_code 0 = .ok (.aload_n 0, 1) := by decide +kernel
theorem d5_1 : decode prog_39_method_2_code 1 = .ok (.invokespecial 7, 3) := by decide +kernel
theorem d5_4 : decode prog_39_method_2_code 4 = .ok (.aload_n 0, 1) := by decide +kernel
theorem d5_5 : decode prog_39_method_2_code 5 = .ok (.aload_n 1, 1) := by decide +kernel
theorem d5_6 : decode prog_39_method_2_code 6 = .ok (.ldc 12, 2) := by decide +kernel
theorem d5_8 : decode prog_39_method_2_code 8 = .ok (.invokestatic 14, 3) := by decide +kernel
theorem d5_11 : decode prog_39_method_2_code 11 = .ok (.checkcast 20, 3) := by decide +kernel
theorem d5_14 : decode prog_39_method_2_code 14 = .ok (.putfield 22, 3) := by decide +kernel
theorem d5_17 : decode prog_39_method_2_code 17 = .ok (.aload_n 0, 1) := by decide +kernel
theorem d5_18 : decode prog_39_method_2_code 18 = .ok (.aload_n 2, 1) := by decide +kernel
theorem d5_19 : decode prog_39_method_2_code 19 = .ok (.ldc 26, 2) := by decide +kernel
theorem d5_21 : decode prog_39_method_2_code 21 = .ok (.invokestatic 14, 3) := by decide +kernel
theorem d5_24 : decode prog_39_method_2_code 24 = .ok (.checkcast 28, 3) := by decide +kernel
theorem d5_27 : decode prog_39_method_2_code 27 = .ok (.putfield 30, 3) := by decide +kernel
theorem d5_30 : decode prog_39_method_2_code 30 = .ok (.aload_n 0, 1) := by decide +kernel
theorem d5_31 : decode prog_39_method_2_code 31 = .ok (.aload_n 3, 1) := by decide +kernel
theorem d5_32 : decode prog_39_method_2_code 32 = .ok (.putfield 33, 3) := by decide +kernel
theorem d5_35 : decode prog_39_method_2_code 35 = .ok (.aload_n 0, 1) := by decide +kernel
theorem d5_36 : decode prog_39_method_2_code 36 = .ok (.aload 4, 2) := by decide +kernel
theorem d5_38 : decode prog_39_method_2_code 38 = .ok (.ldc 37, 2) := by decide +kernel
theorem d5_40 : decode prog_39_method_2_code 40 = .ok (.invokestatic 14, 3) := by decide +kernel
theorem d5_43 : decode prog_39_method_2_code 43 = .ok (.checkcast 39, 3) := by decide +kernel
theorem d5_46 : decode prog_39_method_2_code 46 = .ok (.putfield 41, 3) := by decide +kernel
theorem d5_49 : decode prog_39_method_2_code 49 = .ok (.return_, 1) := by decide +kernel
theorem d6_0 : decode jdk_31_method_11_code 0 = .ok (.aload_n 0, 1) := by decide +kernel
theorem d6_1 : decode jdk_31_method_11_code 1 = .ok (.ifnonnull 12, 3) := by decide +kernel
theorem d6_4 : decode jdk_31_method_11_code 4 = .ok (.new 84, 3) := by decide +kernel
theorem d6_7 : decode jdk_31_method_11_code 7 = .ok (.dup, 1) := by decide +kernel
theorem d6_8 : decode jdk_31_method_11_code 8 = .ok (.aload_n 1, 1) := by decide +kernel
theorem d6_9 : decode jdk_31_method_11_code 9 = .ok (.invokespecial 87, 3) := by decide +kernel
theorem d6_12 : decode jdk_31_method_11_code 12 = .ok (.athrow, 1) := by decide +kernel
theorem d6_13 : decode jdk_31_method_11_code 13 = .ok (.aload_n 0, 1) := by decide +kernel
theorem d6_14 : decode jdk_31_method_11_code 14 = .ok (.areturn, 1) := by decide +kernel
theorem d7_0 : decode prog_61_method_1_code 0 = .ok (.aload_n 0, 1) := by decide +kernel
theorem d7_1 : decode prog_61_method_1_code 1 = .ok (.iconst 0, 1) := by decide +kernel
theorem d7_2 : decode prog_61_method_1_code 2 = .ok (.aconst_null, 1) := by decide +kernel
theorem d7_3 : decode prog_61_method_1_code 3 = .ok (.aconst_null, 1) := by decide +kernel
theorem d7_4 : decode prog_61_method_1_code 4 = .ok (.iconst 0, 1) := by decide +kernel
theorem d7_5 : decode prog_61_method_1_code 5 = .ok (.invokespecial 1, 3) := by decide +kernel
theorem d7_8 : decode prog_61_method_1_code 8 = .ok (.return_, 1) := by decide +kernel
theorem d8_0 : decode prog_61_method_2_code 0 = .ok (.aload_n 0, 1) := by decide +kernel
theorem d8_1 : decode prog_61_method_2_code 1 = .ok (.invokespecial 7, 3) := by decide +kernel
theorem d8_4 : decode prog_61_method_2_code 4 = .ok (.aload_n 0, 1) := by decide +kernel
theorem d8_5 : decode prog_61_method_2_code 5 = .ok (.iload_n 1, 1) := by decide +kernel
theorem d8_6 : decode prog_61_method_2_code 6 = .ok (.putfield 12, 3) := by decide +kernel
theorem d8_9 : decode prog_61_method_2_code 9 = .ok (.aload_n 0, 1) := by decide +kernel
theorem d8_10 : decode prog_61_method_2_code 10 = .ok (.aload_n 2, 1) := by decide +kernel
theorem d8_11 : decode prog_61_method_2_code 11 = .ok (.putfield 16, 3) := by decide +kernel
theorem d8_14 : decode prog_61_method_2_code 14 = .ok (.aload_n 0, 1) := by decide +kernel
theorem d8_15 : decode prog_61_method_2_code 15 = .ok (.aload_n 3, 1) := by decide +kernel
theorem d8_16 : decode prog_61_method_2_code 16 = .ok (.putfield 20, 3) := by decide +kernel
theorem d8_19 : decode prog_61_method_2_code 19 = .ok (.aload_n 0, 1) := by decide +kernel
theorem d8_20 : decode prog_61_method_2_code 20 = .ok (.iload 4, 2) := by decide +kernel
theorem d8_22 : decode prog_61_method_2_code 22 = .ok (.putfield 23, 3) := by decide +kernel
theorem d8_25 : decode prog_61_method_2_code 25 = .ok (.return_, 1) := by decide +kernel
theorem d9_0 : decode prog_61_method_3_code 0 = .ok (.new 2, 3) := by decide +kernel
theorem d9_3 : decode prog_61_method_3_code 3 = .ok (.dup, 1) := by decide +kernel
theorem d9_4 : decode prog_61_method_3_code 4 = .ok (.iconst 1, 1) := by decide +kernel
theorem d9_5 : decode prog_61_method_3_code 5 = .ok (.aload_n 0, 1) := by decide +kernel
theorem d9_6 : decode prog_61_method_3_code 6 = .ok (.getfield 16, 3) := by decide +kernel
theorem d9_9 : decode prog_61_method_3_code 9 = .ok (.aload_n 0, 1) := by decide +kernel
theorem d9_10 : decode prog_61_method_3_code 10 = .ok (.getfield 20, 3) := by decide +kernel
theorem d9_13 : decode prog_61_method_3_code 13 = .ok (.aload_n 0, 1) := by decide +kernel
theorem d9_14 : decode prog_61_method_3_code 14 = .ok (.getfield 23, 3) := by decide +kernel
theorem d9_17 : decode prog_61_method_3_code 17 = .ok (.invokespecial 1, 3) := by decide +kernel
theorem d9_20 : decode prog_61_method_3_code 20 = .ok (.areturn, 1) := by decide +kernel
theorem d16_0 : decode prog_61_method_4_code 0 = .ok (.aload_n 1, 1) := by decide +kernel
theorem d16_1 : decode prog_61_method_4_code 1 = .ok (.ldc 26, 2) := by decide +kernel
theorem d16_3 : decode prog_61_method_4_code 3 = .ok (.invokestatic 28, 3) := by decide +kernel
theorem d16_6 : decode prog_61_method_4_code 6 = .ok (.pop, 1) := by decide +kernel
theorem d16_7 : decode prog_61_method_4_code 7 = .ok (.new 2, 3) := by decide +kernel
theorem d16_10 : decode prog_61_method_4_code 10 = .ok (.dup, 1) := by decide +kernel
theorem d16_11 : decode prog_61_method_4_code 11 = .ok (.aload_n 0, 1) := by decide +kernel
theorem d16_12 : decode prog_61_method_4_code 12 = .ok (.getfield 12, 3) := by decide +kernel
theorem d16_15 : decode prog_61_method_4_code 15 = .ok (.aload_n 1, 1) := by decide +kernel
theorem d16_16 : decode prog_61_method_4_code 16 = .ok (.aload_n 0, 1) := by decide +kernel
theorem d16_17 : decode prog_61_method_4_code 17 = .ok (.getfield 20, 3) := by decide +kernel
theorem d16_20 : decode prog_61_method_4_code 20 = .ok (.aload_n 0, 1) := by decide +kernel
theorem d16_21 : decode prog_61_method_4_code 21 = .ok (.getfield 23, 3) := by decide +kernel
theorem d16_24 : decode prog_61_method_4_code 24 = .ok (.invokespecial 1, 3) := by decide +kernel
theorem d16_27 : decode prog_61_method_4_code 27 = .ok (.areturn, 1) := by decide +kernel
theorem d17_0 : decode prog_61_method_5_code 0 = .ok (.aload_n 1, 1) := by decide +kernel
theorem d17_1 : decode prog_61_method_5_code 1 = .ok (.ldc 26, 2) := by decide +kernel
theorem d17_3 : decode prog_61_method_5_code 3 = .ok (.invokestatic 28, 3) := by decide +kernel
theorem d17_6 : decode prog_61_method_5_code 6 = .ok (.pop, 1) := by decide +kernel
theorem d17_7 : decode prog_61_method_5_code 7 = .ok (.new 2, 3) := by decide +kernel
theorem d17_10 : decode prog_61_method_5_code 10 = .ok (.dup, 1) := by decide +kernel
theorem d17_11 : decode prog_61_method_5_code 11 = .ok (.aload_n 0, 1) := by decide +kernel
theorem d17_12 : decode prog_61_method_5_code 12 = .ok (.getfield 12, 3) := by decide +kernel
theorem d17_15 : decode prog_61_method_5_code 15 = .ok (.aload_n 0, 1) := by decide +kernel
theorem d17_16 : decode prog_61_method_5_code 16 = .ok (.getfield 16, 3) := by decide +kernel
theorem d17_19 : decode prog_61_method_5_code 19 = .ok (.aload_n 1, 1) := by decide +kernel
theorem d17_20 : decode prog_61_method_5_code 20 = .ok (.iconst 0, 1) := by decide +kernel
theorem d17_21 : decode prog_61_method_5_code 21 = .ok (.invokespecial 1, 3) := by decide +kernel
theorem d17_24 : decode prog_61_method_5_code 24 = .ok (.areturn, 1) := by decide +kernel
theorem d19_0 : decode prog_61_method_6_code 0 = .ok (.new 2, 3) := by decide +kernel
theorem d19_3 : decode prog_61_method_6_code 3 = .ok (.dup, 1) := by decide +kernel
theorem d19_4 : decode prog_61_method_6_code 4 = .ok (.aload_n 0, 1) := by decide +kernel
theorem d19_5 : decode prog_61_method_6_code 5 = .ok (.getfield 12, 3) := by decide +kernel
theorem d19_8 : decode prog_61_method_6_code 8 = .ok (.aload_n 0, 1) := by decide +kernel
theorem d19_9 : decode prog_61_method_6_code 9 = .ok (.getfield 16, 3) := by decide +kernel
theorem d19_12 : decode prog_61_method_6_code 12 = .ok (.aconst_null, 1) := by decide +kernel
theorem d19_13 : decode prog_61_method_6_code 13 = .ok (.iconst 1, 1) := by decide +kernel
theorem d19_14 : decode prog_61_method_6_code 14 = .ok (.invokespecial 1, 3) := by decide +kernel
theorem d19_17 : decode prog_61_method_6_code 17 = .ok (.areturn, 1) := by decide +kernel
theorem d10_0 : decode prog_61_method_7_code 0 = .ok (.aload_n 0, 1) := by decide +kernel
theorem d10_1 : decode prog_61_method_7_code 1 = .ok (.getfield 12, 3) := by decide +kernel
theorem d10_4 : decode prog_61_method_7_code 4 = .ok (.ireturn, 1) := by decide +kernel
theorem d15_0 : decode prog_61_method_10_code 0 = .ok (.aload_n 0, 1) := by decide +kernel
theorem d15_1 : decode prog_61_method_10_code 1 = .ok (.getfield 23, 3) := by decide +kernel
theorem d15_4 : decode prog_61_method_10_code 4 = .ok (.ireturn, 1) := by decide +kernel
theorem d11_0 : decode prog_61_method_8_code 0 = .ok (.aload_n 0, 1) := by decide +kernel
theorem d11_1 : decode prog_61_method_8_code 1 = .ok (.getfield 16, 3) := by decide +kernel
theorem d11_4 : decode prog_61_method_8_code 4 = .ok (.invokestatic 34, 3) := by decide +kernel
theorem d11_7 : decode prog_61_method_8_code 7 = .ok (.areturn, 1) := by decide +kernel
theorem d14_0 : decode prog_61_method_9_code 0 = .ok (.aload_n 0, 1) := by decide +kernel
theorem d14_1 : decode prog_61_method_9_code 1 = .ok (.getfield 20, 3) := by decide +kernel
theorem d14_4 : decode prog_61_method_9_code 4 = .ok (.invokestatic 34, 3) := by decide +kernel
theorem d14_7 : decode prog_61_method_9_code 7 = .ok (.areturn, 1) := by decide +kernel
theorem d12_0 : decode jdk_32_method_4_code 0 = .ok (.aload_n 0, 1) := by decide +kernel
theorem d12_1 : decode jdk_32_method_4_code 1 = .ok (.ifnonnull 9, 3) := by decide +kernel
theorem d12_4 : decode jdk_32_method_4_code 4 = .ok (.getstatic 1, 3) := by decide +kernel
theorem d12_7 : decode jdk_32_method_4_code 7 = .ok (.goto 11, 3) := by decide +kernel
theorem d12_10 : decode jdk_32_method_4_code 10 = .ok (.new 2, 3) := by decide +kernel
theorem d12_13 : decode jdk_32_method_4_code 13 = .ok (.dup, 1) := by decide +kernel
theorem d12_14 : decode jdk_32_method_4_code 14 = .ok (.aload_n 0, 1) := by decide +kernel
theorem d12_15 : decode jdk_32_method_4_code 15 = .ok (.invokespecial 23, 3) := by decide +kernel
theorem d12_18 : decode jdk_32_method_4_code 18 = .ok (.areturn, 1) := by decide +kernel
theorem d13_0 : decode jdk_32_method_15_code 0 = .ok (.aload_n 0, 1) := by decide +kernel
theorem d13_1 : decode jdk_32_method_15_code 1 = .ok (.getfield 13, 3) := by decide +kernel
theorem d13_4 : decode jdk_32_method_15_code 4 = .ok (.ifnull 10, 3) := by decide +kernel
theorem d13_7 : decode jdk_32_method_15_code 7 = .ok (.aload_n 0, 1) := by decide +kernel
theorem d13_8 : decode jdk_32_method_15_code 8 = .ok (.getfield 13, 3) := by decide +kernel
theorem d13_11 : decode jdk_32_method_15_code 11 = .ok (.goto 4, 3) := by decide +kernel
theorem d13_14 : decode jdk_32_method_15_code 14 = .ok (.aload_n 1, 1) := by decide +kernel
theorem d13_15 : decode jdk_32_method_15_code 15 = .ok (.areturn, 1) := by decide +kernel
theorem d18_0 : decode jdk_32_method_2_code 0 = .ok (.aload_n 0, 1) := by decide +kernel
theorem d18_1 : decode jdk_32_method_2_code 1 = .ok (.invokespecial 7, 3) := by decide +kernel
theorem d18_4 : decode jdk_32_method_2_code 4 = .ok (.aload_n 0, 1) := by decide +kernel
theorem d18_5 : decode jdk_32_method_2_code 5 = .ok (.aload_n 1, 1) := by decide +kernel
theorem d18_6 : decode jdk_32_method_2_code 6 = .ok (.putfield 13, 3) := by decide +kernel
theorem d18_9 : decode jdk_32_method_2_code 9 = .ok (.return_, 1) := by decide +kernel
def Q3 (Z : State) (a1 : Addr) (a2 : Addr) (h0 : Heap) (n0 : Nat) (v : Option Value) (h : Heap) (L : List Loc) : Prop := v = some (.int (0 : Int32)) ∧ Fr n0 L ∧ h = h0
theorem ef_3 (m : MethodId) (a1 : Addr) (a2 : Addr) : entryFrame m #[(.ref a1), (.ref a2), (.int (0 : Int32))] 3 = mkF m 0 #[.val (.ref a1), .val (.ref a2), .val (.int (0 : Int32))] [] := by first | (simp [entryFrame, mkF, argsToLocals, Value.category]; done) | (simp [entryFrame, mkF, argsToLocals, own_cat_i, own_cat_l, own_cat_r, own_cat_n]; done) | rfl
set_option maxRecDepth 65536 in
set_option maxHeartbeats 40000000 in
theorem rm3 (l : Launch) (Z : State) (a0 : Array Value) (hw : ∀ d ∈ tables_1, d.before a0 Z = true) (a1 : Addr) (a2 : Addr) (h0 : Heap) (n0 : Nat) (Z0 : n0 ≤ h0.size) :
    Met1 l Z (⟨"com/example/vestwright/vestwright/plan/DaysDue", "checked", "(Ljava/lang/String;Ljava/lang/String;I)I"⟩ : MethodName) prog_60_method_2_code 3 (some .int) ({ frames := 0, cells := 0, slots := 0, locals := 0 } : Room) #[(.ref a1), (.ref a2), (.int (0 : Int32))] h0 (Q3 Z a1 a2 h0 n0) := by
  refine Met1.mk (plainFor_of_name (by first | (simp [plainName, overriddenIn]; done) | decide +kernel)) ?_
  intro p e s m below meth c s₁ hx hZ hby hml hown hnm hret hlk X0 e0
  have N0 := Fr.nil n0
  refine Go.cast (ef_3 m a1 a2) ?_
  show Go p e below (FinN s (Q3 Z a1 a2 h0 n0) ({ frames := 0, cells := 0, slots := 0, locals := 0 } : Room).cells ({ frames := 0, cells := 0, slots := 0, locals := 0 } : Room).slots) s₁ (mkF m 0 #[.val (.ref a1), .val (.ref a2), .val (.int (0 : Int32))] [])
  refine Go.to (mkF m 1 #[.val (.ref a1), .val (.ref a2), .val (.int (0 : Int32))] [(.int (0 : Int32))]) (fun _ k => XS.iloadN X0.here hx rfl (hb hby d3_0) rfl  k) ?_
  refine Go.to (mkF m 4 #[.val (.ref a1), .val (.ref a2), .val (.int (0 : Int32))] []) (fun _ k => XS.ifNo X0.here hx rfl (hb hby d3_1) rfl ((if0 _ _).trans (flt (by decide : ¬ ((0 : Int32) < (0 : Int32)))).1) k) ?_
  refine Go.to (mkF m 5 #[.val (.ref a1), .val (.ref a2), .val (.int (0 : Int32))] [(.int (0 : Int32))]) (fun _ k => XS.iloadN X0.here hx rfl (hb hby d3_4) rfl  k) ?_
  refine Go.to (mkF m 8 #[.val (.ref a1), .val (.ref a2), .val (.int (0 : Int32))] [(.int (365 : Int32)), (.int (0 : Int32))]) (fun _ k => XS.sipush X0.here hx rfl (hb hby d3_5) k) ?_
  refine Go.to (mkF m 27 #[.val (.ref a1), .val (.ref a2), .val (.int (0 : Int32))] []) (fun _ k => XS.icmpYes X0.here hx rfl (pc0 := 8) (pc' := 27) rfl (hb hby d3_8) rfl (flt (by decide : ¬ ((365 : Int32) < (0 : Int32)))).2.2.2 (by decide) (by decide) k) ?_
  refine Go.to (mkF m 28 #[.val (.ref a1), .val (.ref a2), .val (.int (0 : Int32))] [(.int (0 : Int32))]) (fun _ k => XS.iloadN X0.here hx rfl (hb hby d3_27) rfl  k) ?_
  refine Go.retI X0 hx hret hlk (hb hby d3_28) (by decide) (by decide) ?_
  show (Q3 Z a1 a2 h0 n0) _ s₁.heap _
  rw [e0]
  exact ⟨rfl, N0, rfl⟩
def Q6 (Z : State) (a1 : Addr) (a2 : Addr) (h0 : Heap) (n0 : Nat) (v : Option Value) (h : Heap) (L : List Loc) : Prop := v = some (.ref a1) ∧ Fr n0 L ∧ h = h0
theorem ef_6 (m : MethodId) (a1 : Addr) (a2 : Addr) : entryFrame m #[(.ref a1), (.ref a2)] 2 = mkF m 0 #[.val (.ref a1), .val (.ref a2)] [] := by first | (simp [entryFrame, mkF, argsToLocals, Value.category]; done) | (simp [entryFrame, mkF, argsToLocals, own_cat_i, own_cat_l, own_cat_r, own_cat_n]; done) | rfl
set_option maxRecDepth 65536 in
set_option maxHeartbeats 40000000 in
theorem rm6 (l : Launch) (Z : State) (a0 : Array Value) (hw : ∀ d ∈ tables_1, d.before a0 Z = true) (a1 : Addr) (a2 : Addr) (h0 : Heap) (n0 : Nat) (Z0 : n0 ≤ h0.size) :
    Met1 l Z (⟨"java/util/Objects", "requireNonNull", "(Ljava/lang/Object;Ljava/lang/String;)Ljava/lang/Object;"⟩ : MethodName) jdk_31_method_11_code 2 (some (.object "java/lang/Object")) ({ frames := 0, cells := 0, slots := 0, locals := 0 } : Room) #[(.ref a1), (.ref a2)] h0 (Q6 Z a1 a2 h0 n0) := by
  refine Met1.mk (plainFor_of_name (by first | (simp [plainName, overriddenIn]; done) | decide +kernel)) ?_
  intro p e s m below meth c s₁ hx hZ hby hml hown hnm hret hlk X0 e0
  have N0 := Fr.nil n0
  refine Go.cast (ef_6 m a1 a2) ?_
  show Go p e below (FinN s (Q6 Z a1 a2 h0 n0) ({ frames := 0, cells := 0, slots := 0, locals := 0 } : Room).cells ({ frames := 0, cells := 0, slots := 0, locals := 0 } : Room).slots) s₁ (mkF m 0 #[.val (.ref a1), .val (.ref a2)] [])
  refine Go.to (mkF m 1 #[.val (.ref a1), .val (.ref a2)] [(.ref a1)]) (fun _ k => XS.aloadN X0.here hx rfl (hb hby d6_0) rfl rfl k) ?_
  refine Go.to (mkF m 13 #[.val (.ref a1), .val (.ref a2)] []) (fun _ k => XS.ifnonnullYes X0.here hx rfl (pc0 := 1) (pc' := 13) rfl (hb hby d6_1) rfl (by decide) (by decide) k) ?_
  refine Go.to (mkF m 14 #[.val (.ref a1), .val (.ref a2)] [(.ref a1)]) (fun _ k => XS.aloadN X0.here hx rfl (hb hby d6_13) rfl rfl k) ?_
  refine Go.retA X0 hx (t := (.object "java/lang/Object")) hret hlk rfl rfl (hb hby d6_14) (by decide) (by decide) ?_
  show (Q6 Z a1 a2 h0 n0) _ s₁.heap _
  rw [e0]
  exact ⟨rfl, N0, rfl⟩
theorem own_pd0 : parseMethodDescriptor "(Ljava/lang/String;Ljava/lang/String;I)I" = some ⟨[(.object "java/lang/String"), (.object "java/lang/String"), .int], some .int⟩ := by decide +kernel
def Q1 (Z : State) (a1 : Addr) (u : Value) (h0 : Heap) (n0 : Nat) (v : Option Value) (h : Heap) (L : List Loc) (vm : Vm) : Prop := v = none ∧ Fr n0 L ∧ Keep h0 h [a1]
theorem ef_1 (m : MethodId) (a1 : Addr) : entryFrame m #[(.ref a1), (.int (0 : Int32))] 2 = mkF m 0 #[.val (.ref a1), .val (.int (0 : Int32))] [] := by first | (simp [entryFrame, mkF, argsToLocals, Value.category]; done) | (simp [entryFrame, mkF, argsToLocals, own_cat_i, own_cat_l, own_cat_r, own_cat_n]; done) | rfl
set_option maxRecDepth 65536 in
set_option maxHeartbeats 40000000 in
theorem rm1 (l : Launch) (Z : State) (a0 : Array Value) (hw : ∀ d ∈ tables_1, d.before a0 Z = true) (a1 : Addr) (u : Value) (h0 : Heap) (n0 : Nat) (Z0 : n0 ≤ h0.size) (PE_a1 : Exa Z h0 a1 "com/example/vestwright/vestwright/plan/LumpSum") (Pg_a1 : n0 ≤ a1) (PF_a1_withinDays : Fld Z h0 a1 "com/example/vestwright/vestwright/plan/LumpSum" "withinDays" "I" u) :
    MetW l Z (⟨"com/example/vestwright/vestwright/plan/LumpSum", "<init>", "(I)V"⟩ : MethodName) prog_72_method_1_code 2 none ({ frames := 1, cells := 4, slots := 48, locals := 15 } : Room) #[(.ref a1), (.int (0 : Int32))] h0 (fun _ => True) (Q1 Z a1 u h0 n0) := by
  refine MetW.mk (plainFor_of_name (by first | (simp [plainName, overriddenIn]; done) | decide +kernel)) ?_
  intro p e s m below meth c s₁ vm0 hx hZ hby hml hown hnm hret hlk X0 e0 hS hh hnamed hJ
  have N0 := Fr.nil n0
  refine Go.cast (ef_1 m a1) ?_
  show Go p e below (FinW s (Q1 Z a1 u h0 n0) ({ frames := 1, cells := 4, slots := 48, locals := 15 } : Room).cells ({ frames := 1, cells := 4, slots := 48, locals := 15 } : Room).slots) s₁ (mkF m 0 #[.val (.ref a1), .val (.int (0 : Int32))] [])
  refine Go.to (mkF m 1 #[.val (.ref a1), .val (.int (0 : Int32))] [(.ref a1)]) (fun _ k => XS.aloadN X0.here hx rfl (hb hby d1_0) rfl rfl k) ?_
  obtain ⟨T_1, X_1, e_1, st_1⟩ := initO X0 hx hZ hown (hw _ (List.mem_of_getElem? (i := 6) rfl)) (hw _ (List.mem_of_getElem? (i := 7) rfl)) (hw _ (List.mem_of_getElem? (i := 8) rfl)) e0 (g := (mkF m 1 #[.val (.ref a1), .val (.int (0 : Int32))] [(.ref a1)])) rfl (by rw [hml]; rfl) rfl (hb hby d1_1) (by decide) (W := 0) (by show 2 * 0 + _ ≤ _; exact Nat.le_of_eq rfl) (by decide)
  refine Go.to (mkF m 4 #[.val (.ref a1), .val (.int (0 : Int32))] []) st_1 ?_
  refine Go.to (mkF m 5 #[.val (.ref a1), .val (.int (0 : Int32))] [(.ref a1)]) (fun _ k => XS.aloadN X_1.here hx rfl (hb hby d1_4) rfl rfl k) ?_
  obtain ⟨a_2, T_2, h_2, kk_2, X_2, e_2, E_2, hS_2, hk_2, hZ_2, hown_2, st_2⟩ := ldcS X_1 hx hZ hown (hw _ (List.mem_of_getElem? (i := 9) rfl)) (own_wS hw) e_1 hS (Nat.zero_le _) (g := (mkF m 5 #[.val (.ref a1), .val (.int (0 : Int32))] [(.ref a1)])) rfl (hb hby d1_5) (n := 40) (by decide) (by decide) (by decide) (by decide)
  refine Go.to (mkF m 7 #[.val (.ref a1), .val (.int (0 : Int32))] [(.ref a_2), (.ref a1)]) st_2 ?_
  obtain ⟨a_3, T_3, h_3, kk_3, X_3, e_3, E_3, hS_3, hk_3, hZ_3, hown_3, st_3⟩ := ldcS X_2 hx hZ_2 hown_2 (hw _ (List.mem_of_getElem? (i := 17) rfl)) (own_wS hw) e_2 hS_2 hk_2 (g := (mkF m 7 #[.val (.ref a1), .val (.int (0 : Int32))] [(.ref a_2), (.ref a1)])) rfl (hb hby d1_7) (n := 0) (by decide) (by decide) (by decide) (by decide)
  refine Go.to (mkF m 9 #[.val (.ref a1), .val (.int (0 : Int32))] [(.ref a_3), (.ref a_2), (.ref a1)]) st_3 ?_
  refine Go.to (mkF m 10 #[.val (.ref a1), .val (.int (0 : Int32))] [(.int (0 : Int32)), (.ref a_3), (.ref a_2), (.ref a1)]) (fun _ k => XS.iloadN X_3.here hx rfl (hb hby d1_9) rfl  k) ?_
  have f_4 : n0 ≤ h_3.size := (Nat.le_trans (Nat.le_trans Z0 E_2.1) E_3.1)
  refine Go.stat X_3 hx hZ_3 (y := (⟨"com/example/vestwright/vestwright/plan/DaysDue", "checked", "(Ljava/lang/String;Ljava/lang/String;I)I"⟩ : MethodName)) hown_3 (hw _ (List.mem_of_getElem? (i := 18) rfl)) (hw _ (List.mem_of_getElem? (i := 19) rfl)) (hw _ (List.mem_of_getElem? (i := 20) rfl)) (hw _ (List.mem_of_getElem? (i := 21) rfl)) (by decide) e_3 (argsL := [(.ref a_2), (.ref a_3), (.int (0 : Int32))]) (rest := [(.ref a1)]) (Met1.back (W := 1) (rm3 l Z a0 hw a_2 a_3 h_3 n0 f_4) hZ_3 (hw _ (List.mem_of_getElem? (i := 21) rfl)) (hw _ (List.mem_of_getElem? (i := 20) rfl)) (by decide) (by decide)) (pc := 10) (Ls := #[.val (.ref a1), .val (.int (0 : Int32))]) (by rw [hml]; rfl) (lenOf own_pd0 rfl) rfl (Nat.le_refl _) (hb hby d1_10) (by decide) (by decide) ?_
  intro T_5 v_5 L_5 X_5 hQ_5
  obtain ⟨rfl, Nq_5, hh_5⟩ := hQ_5
  have N_5 := Fr.app N0 Nq_5
  show Go p e below (FinW s (Q1 Z a1 u h0 n0) ({ frames := 1, cells := 4, slots := 48, locals := 15 } : Room).cells ({ frames := 1, cells := 4, slots := 48, locals := 15 } : Room).slots) T_5 (mkF m 13 #[.val (.ref a1), .val (.int (0 : Int32))] [(.int (0 : Int32)), (.ref a1)])
  have f_6 : Exa Z h_3 a1 "com/example/vestwright/vestwright/plan/LumpSum" := ((PE_a1.ext E_2).ext E_3)
  have f_7 : Fld Z h_3 a1 "com/example/vestwright/vestwright/plan/LumpSum" "withinDays" "I" u := ((PF_a1_withinDays.ext E_2).ext E_3)
  obtain ⟨T_8, h_8, X_8, e_8, W_8, st_8⟩ := putF X_5 hx hZ_3 hown_3 (host := "") (Or.inl (hw _ (List.mem_of_getElem? (i := 22) rfl))) Via.refl hh_5 f_7 f_6 (Or.inr ⟨(hw _ (List.mem_of_getElem? (i := 23) rfl)), rfl, hnm⟩) (hw _ (List.mem_of_getElem? (i := 1) rfl)) (ty := .int) (by decide) rfl rfl (g := (mkF m 13 #[.val (.ref a1), .val (.int (0 : Int32))] [(.int (0 : Int32)), (.ref a1)])) rfl rfl (hb hby d1_13)
  have N_8 := Fr.snoc X_8 N_5 Pg_a1
  have Fw_8 : Fld Z h_8 a1 "com/example/vestwright/vestwright/plan/LumpSum" "withinDays" "I" (.int (0 : Int32)) := f_7.same W_8
  refine Go.to (mkF m 16 #[.val (.ref a1), .val (.int (0 : Int32))] []) st_8 ?_
  have f_9 : kk_3 ≤ h_8.size := (Nat.le_trans hk_3 (Keep.of_wr W_8).1)
  refine Go.ret0W X_8 hx hret hlk (hb hby d1_16) (by decide) (by decide) hS_3 (by rw [e_8]; exact f_9) ?_
  have f_10 : Keep h0 h_8 [a1] := ((((Keep.refl h0 [a1]).ext E_2).ext E_3).wr W_8 (Or.inl (List.mem_of_getElem? (i := 0) rfl)))
  show (Q1 Z a1 u h0 n0) _ T_8.heap _ _
  rw [e_8]
  exact ⟨rfl, N_8, f_10⟩
theorem own_pd1 : parseMethodDescriptor "(Ljava/lang/Object;Ljava/lang/String;)Ljava/lang/Object;" = some ⟨[(.object "java/lang/Object"), (.object "java/lang/String")], some (.object "java/lang/Object")⟩ := by decide +kernel
def Q5 (Z : State) (a1 : Addr) (v1 : Addr) (s1 : Addr) (q1 : Addr) (u0 : Value) (u1 : Value) (u2 : Value) (u3 : Value) (h0 : Heap) (n0 : Nat) (v : Option Value) (h : Heap) (L : List Loc) (vm : Vm) : Prop := v = none ∧ Fr n0 L ∧ Keep h0 h [a1]
theorem ef_5 (m : MethodId) (a1 : Addr) (v1 : Addr) (s1 : Addr) (q1 : Addr) : entryFrame m #[(.ref a1), (.ref v1), (.ref s1), .null, (.ref q1)] 5 = mkF m 0 #[.val (.ref a1), .val (.ref v1), .val (.ref s1), .val .null, .val (.ref q1)] [] := by first | (simp [entryFrame, mkF, argsToLocals, Value.category]; done) | (simp [entryFrame, mkF, argsToLocals, own_cat_i, own_cat_l, own_cat_r, own_cat_n]; done) | rfl
set_option maxRecDepth 65536 in
set_option maxHeartbeats 40000000 in
theorem rm5 (l : Launch) (Z : State) (a0 : Array Value) (hw : ∀ d ∈ tables_1, d.before a0 Z = true) (a1 : Addr) (v1 : Addr) (s1 : Addr) (q1 : Addr) (u0 : Value) (u1 : Value) (u2 : Value) (u3 : Value) (h0 : Heap) (n0 : Nat) (Z0 : n0 ≤ h0.size) (PE_a1 : Exa Z h0 a1 "com/example/vestwright/vestwright/plan/AccountBenefit") (Pg_a1 : n0 ≤ a1) (PE_v1 : Exa Z h0 v1 "com/example/vestwright/vestwright/plan/AccountValueDate") (PE_s1 : Exa Z h0 s1 "com/example/vestwright/vestwright/plan/AccountBenefit$Share") (PE_q1 : Exa Z h0 q1 "com/example/vestwright/vestwright/plan/LumpSum") (PF_a1_accountValue : Fld Z h0 a1 "com/example/vestwright/vestwright/plan/AccountBenefit" "accountValue" "Lcom/example/vestwright/vestwright/plan/AccountValueDate;" u0) (PF_a1_share : Fld Z h0 a1 "com/example/vestwright/vestwright/plan/AccountBenefit" "share" "Lcom/example/vestwright/vestwright/plan/AccountBenefit$Share;" u1) (PF_a1_interestToNormalRetirementAge : Fld Z h0 a1 "com/example/vestwright/vestwright/plan/AccountBenefit" "interestToNormalRetirementAge" "Ljava/math/BigDecimal;" u2) (PF_a1_payout : Fld Z h0 a1 "com/example/vestwright/vestwright/plan/AccountBenefit" "payout" "Lcom/example/vestwright/vestwright/plan/PayoutForm;" u3) :
    MetW l Z (⟨"com/example/vestwright/vestwright/plan/AccountBenefit", "<init>", "(Lcom/example/vestwright/vestwright/plan/AccountValueDate;Lcom/example/vestwright/vestwright/plan/AccountBenefit$Share;Ljava/math/BigDecimal;Lcom/example/vestwright/vestwright/plan/PayoutForm;)V"⟩ : MethodName) prog_39_method_2_code 5 none ({ frames := 1, cells := 6, slots := 128, locals := 14 } : Room) #[(.ref a1), (.ref v1), (.ref s1), .null, (.ref q1)] h0 (fun _ => True) (Q5 Z a1 v1 s1 q1 u0 u1 u2 u3 h0 n0) := by
  refine MetW.mk (plainFor_of_name (by first | (simp [plainName, overriddenIn]; done) | decide +kernel)) ?_
  intro p e s m below meth c s₁ vm0 hx hZ hby hml hown hnm hret hlk X0 e0 hS hh hnamed hJ
  have N0 := Fr.nil n0
  refine Go.cast (ef_5 m a1 v1 s1 q1) ?_
  show Go p e below (FinW s (Q5 Z a1 v1 s1 q1 u0 u1 u2 u3 h0 n0) ({ frames := 1, cells := 6, slots := 128, locals := 14 } : Room).cells ({ frames := 1, cells := 6, slots := 128, locals := 14 } : Room).slots) s₁ (mkF m 0 #[.val (.ref a1), .val (.ref v1), .val (.ref s1), .val .null, .val (.ref q1)] [])
  refine Go.to (mkF m 1 #[.val (.ref a1), .val (.ref v1), .val (.ref s1), .val .null, .val (.ref q1)] [(.ref a1)]) (fun _ k => XS.aloadN X0.here hx rfl (hb hby d5_0) rfl rfl k) ?_
  obtain ⟨T_1, X_1, e_1, st_1⟩ := initO X0 hx hZ hown (hw _ (List.mem_of_getElem? (i := 39) rfl)) (hw _ (List.mem_of_getElem? (i := 7) rfl)) (hw _ (List.mem_of_getElem? (i := 8) rfl)) e0 (g := (mkF m 1 #[.val (.ref a1), .val (.ref v1), .val (.ref s1), .val .null, .val (.ref q1)] [(.ref a1)])) rfl (by rw [hml]; rfl) rfl (hb hby d5_1) (by decide) (W := 0) (by show 2 * 0 + _ ≤ _; exact Nat.le_of_eq rfl) (by decide)
  refine Go.to (mkF m 4 #[.val (.ref a1), .val (.ref v1), .val (.ref s1), .val .null, .val (.ref q1)] []) st_1 ?_
  refine Go.to (mkF m 5 #[.val (.ref a1), .val (.ref v1), .val (.ref s1), .val .null, .val (.ref q1)] [(.ref a1)]) (fun _ k => XS.aloadN X_1.here hx rfl (hb hby d5_4) rfl rfl k) ?_
  refine Go.to (mkF m 6 #[.val (.ref a1), .val (.ref v1), .val (.ref s1), .val .null, .val (.ref q1)] [(.ref v1), (.ref a1)]) (fun _ k => XS.aloadN X_1.here hx rfl (hb hby d5_5) rfl rfl k) ?_
  obtain ⟨a_2, T_2, h_2, kk_2, X_2, e_2, E_2, hS_2, hk_2, hZ_2, hown_2, st_2⟩ := ldcS X_1 hx hZ hown (hw _ (List.mem_of_getElem? (i := 40) rfl)) (own_wS hw) e_1 hS (Nat.zero_le _) (g := (mkF m 6 #[.val (.ref a1), .val (.ref v1), .val (.ref s1), .val .null, .val (.ref q1)] [(.ref v1), (.ref a1)])) rfl (hb hby d5_6) (n := 72) (by decide) (by decide) (by decide) (by decide)
  refine Go.to (mkF m 8 #[.val (.ref a1), .val (.ref v1), .val (.ref s1), .val .null, .val (.ref q1)] [(.ref a_2), (.ref v1), (.ref a1)]) st_2 ?_
  have f_3 : n0 ≤ h_2.size := (Nat.le_trans Z0 E_2.1)
  refine Go.stat X_2 hx hZ_2 (y := (⟨"java/util/Objects", "requireNonNull", "(Ljava/lang/Object;Ljava/lang/String;)Ljava/lang/Object;"⟩ : MethodName)) hown_2 (hw _ (List.mem_of_getElem? (i := 41) rfl)) (hw _ (List.mem_of_getElem? (i := 42) rfl)) (hw _ (List.mem_of_getElem? (i := 43) rfl)) (hw _ (List.mem_of_getElem? (i := 44) rfl)) (by decide) e_2 (argsL := [(.ref v1), (.ref a_2)]) (rest := [(.ref a1)]) (Met1.back (W := 1) (rm6 l Z a0 hw v1 a_2 h_2 n0 f_3) hZ_2 (hw _ (List.mem_of_getElem? (i := 44) rfl)) (hw _ (List.mem_of_getElem? (i := 43) rfl)) (by decide) (by decide)) (pc := 8) (Ls := #[.val (.ref a1), .val (.ref v1), .val (.ref s1), .val .null, .val (.ref q1)]) (by rw [hml]; rfl) (lenOf own_pd1 rfl) rfl (Nat.le_refl _) (hb hby d5_8) (by decide) (by decide) ?_
  intro T_4 v_4 L_4 X_4 hQ_4
  obtain ⟨rfl, Nq_4, hh_4⟩ := hQ_4
  have N_4 := Fr.app N0 Nq_4
  show Go p e below (FinW s (Q5 Z a1 v1 s1 q1 u0 u1 u2 u3 h0 n0) ({ frames := 1, cells := 6, slots := 128, locals := 14 } : Room).cells ({ frames := 1, cells := 6, slots := 128, locals := 14 } : Room).slots) T_4 (mkF m 11 #[.val (.ref a1), .val (.ref v1), .val (.ref s1), .val .null, .val (.ref q1)] [(.ref v1), (.ref a1)])
  have f_6 : Exa Z h_2 v1 "com/example/vestwright/vestwright/plan/AccountValueDate" := (PE_v1.ext E_2)
  obtain ⟨T_5, X_5, e_5, st_5⟩ := castY X_4 hx hZ_2 hown_2 (hw _ (List.mem_of_getElem? (i := 45) rfl)) hh_4 (Ins.self f_6) (g := (mkF m 11 #[.val (.ref a1), .val (.ref v1), .val (.ref s1), .val .null, .val (.ref q1)] [(.ref v1), (.ref a1)])) rfl rfl (hb hby d5_11)
  refine Go.to (mkF m 14 #[.val (.ref a1), .val (.ref v1), .val (.ref s1), .val .null, .val (.ref q1)] [(.ref v1), (.ref a1)]) st_5 ?_
  have f_7 : Exa Z h_2 a1 "com/example/vestwright/vestwright/plan/AccountBenefit" := (PE_a1.ext E_2)
  have f_8 : Fld Z h_2 a1 "com/example/vestwright/vestwright/plan/AccountBenefit" "accountValue" "Lcom/example/vestwright/vestwright/plan/AccountValueDate;" u0 := (PF_a1_accountValue.ext E_2)
  obtain ⟨T_9, h_9, X_9, e_9, W_9, st_9⟩ := putF X_5 hx hZ_2 hown_2 (host := "") (Or.inl (hw _ (List.mem_of_getElem? (i := 47) rfl))) Via.refl e_5 f_8 f_7 (Or.inr ⟨(hw _ (List.mem_of_getElem? (i := 48) rfl)), rfl, hnm⟩) (hw _ (List.mem_of_getElem? (i := 25) rfl)) (ty := (.object "com/example/vestwright/vestwright/plan/AccountValueDate")) (by decide) rfl rfl (g := (mkF m 14 #[.val (.ref a1), .val (.ref v1), .val (.ref s1), .val .null, .val (.ref q1)] [(.ref v1), (.ref a1)])) rfl rfl (hb hby d5_14)
  have N_9 := Fr.snoc X_9 N_4 Pg_a1
  have Fw_9 : Fld Z h_9 a1 "com/example/vestwright/vestwright/plan/AccountBenefit" "accountValue" "Lcom/example/vestwright/vestwright/plan/AccountValueDate;" (.ref v1) := f_8.same W_9
  refine Go.to (mkF m 17 #[.val (.ref a1), .val (.ref v1), .val (.ref s1), .val .null, .val (.ref q1)] []) st_9 ?_
  refine Go.to (mkF m 18 #[.val (.ref a1), .val (.ref v1), .val (.ref s1), .val .null, .val (.ref q1)] [(.ref a1)]) (fun _ k => XS.aloadN X_9.here hx rfl (hb hby d5_17) rfl rfl k) ?_
  refine Go.to (mkF m 19 #[.val (.ref a1), .val (.ref v1), .val (.ref s1), .val .null, .val (.ref q1)] [(.ref s1), (.ref a1)]) (fun _ k => XS.aloadN X_9.here hx rfl (hb hby d5_18) rfl rfl k) ?_
  have f_11 : kk_2 ≤ h_9.size := (Nat.le_trans hk_2 (Keep.of_wr W_9).1)
  obtain ⟨a_10, T_10, h_10, kk_10, X_10, e_10, E_10, hS_10, hk_10, hZ_10, hown_10, st_10⟩ := ldcS X_9 hx hZ_2 hown_2 (hw _ (List.mem_of_getElem? (i := 49) rfl)) (own_wS hw) e_9 hS_2 f_11 (g := (mkF m 19 #[.val (.ref a1), .val (.ref v1), .val (.ref s1), .val .null, .val (.ref q1)] [(.ref s1), (.ref a1)])) rfl (hb hby d5_19) (n := 20) (by decide) (by decide) (by decide) (by decide)
  refine Go.to (mkF m 21 #[.val (.ref a1), .val (.ref v1), .val (.ref s1), .val .null, .val (.ref q1)] [(.ref a_10), (.ref s1), (.ref a1)]) st_10 ?_
  have f_12 : n0 ≤ h_10.size := (Nat.le_trans (Nat.le_trans f_3 (Keep.of_wr W_9).1) E_10.1)
  refine Go.stat X_10 hx hZ_10 (y := (⟨"java/util/Objects", "requireNonNull", "(Ljava/lang/Object;Ljava/lang/String;)Ljava/lang/Object;"⟩ : MethodName)) hown_10 (hw _ (List.mem_of_getElem? (i := 41) rfl)) (hw _ (List.mem_of_getElem? (i := 42) rfl)) (hw _ (List.mem_of_getElem? (i := 43) rfl)) (hw _ (List.mem_of_getElem? (i := 44) rfl)) (by decide) e_10 (argsL := [(.ref s1), (.ref a_10)]) (rest := [(.ref a1)]) (Met1.back (W := 1) (rm6 l Z a0 hw s1 a_10 h_10 n0 f_12) hZ_10 (hw _ (List.mem_of_getElem? (i := 44) rfl)) (hw _ (List.mem_of_getElem? (i := 43) rfl)) (by decide) (by decide)) (pc := 21) (Ls := #[.val (.ref a1), .val (.ref v1), .val (.ref s1), .val .null, .val (.ref q1)]) (by rw [hml]; rfl) (lenOf own_pd1 rfl) rfl (Nat.le_refl _) (hb hby d5_21) (by decide) (by decide) ?_
  intro T_13 v_13 L_13 X_13 hQ_13
  obtain ⟨rfl, Nq_13, hh_13⟩ := hQ_13
  have N_13 := Fr.app N_9 Nq_13
  show Go p e below (FinW s (Q5 Z a1 v1 s1 q1 u0 u1 u2 u3 h0 n0) ({ frames := 1, cells := 6, slots := 128, locals := 14 } : Room).cells ({ frames := 1, cells := 6, slots := 128, locals := 14 } : Room).slots) T_13 (mkF m 24 #[.val (.ref a1), .val (.ref v1), .val (.ref s1), .val .null, .val (.ref q1)] [(.ref s1), (.ref a1)])
  have f_15 : Exa Z h_10 s1 "com/example/vestwright/vestwright/plan/AccountBenefit$Share" := (((PE_s1.ext E_2).wr W_9).ext E_10)
  obtain ⟨T_14, X_14, e_14, st_14⟩ := castY X_13 hx hZ_10 hown_10 (hw _ (List.mem_of_getElem? (i := 50) rfl)) hh_13 (Ins.self f_15) (g := (mkF m 24 #[.val (.ref a1), .val (.ref v1), .val (.ref s1), .val .null, .val (.ref q1)] [(.ref s1), (.ref a1)])) rfl rfl (hb hby d5_24)
  refine Go.to (mkF m 27 #[.val (.ref a1), .val (.ref v1), .val (.ref s1), .val .null, .val (.ref q1)] [(.ref s1), (.ref a1)]) st_14 ?_
  have f_16 : Exa Z h_10 a1 "com/example/vestwright/vestwright/plan/AccountBenefit" := ((f_7.wr W_9).ext E_10)
  have f_17 : Fld Z h_10 a1 "com/example/vestwright/vestwright/plan/AccountBenefit" "share" "Lcom/example/vestwright/vestwright/plan/AccountBenefit$Share;" u1 := (((PF_a1_share.ext E_2).other W_9 (Or.inr (slot_ne (Or.inr (hw _ (List.mem_of_getElem? (i := 53) rfl))) (Or.inr (hw _ (List.mem_of_getElem? (i := 48) rfl))) (by decide) (t := (.object "com/example/vestwright/vestwright/plan/AccountBenefit$Share")) (t' := (.object "com/example/vestwright/vestwright/plan/AccountValueDate")) (by decide) (by decide)))).ext E_10)
  obtain ⟨T_18, h_18, X_18, e_18, W_18, st_18⟩ := putF X_14 hx hZ_10 hown_10 (host := "") (Or.inl (hw _ (List.mem_of_getElem? (i := 52) rfl))) Via.refl e_14 f_17 f_16 (Or.inr ⟨(hw _ (List.mem_of_getElem? (i := 53) rfl)), rfl, hnm⟩) (hw _ (List.mem_of_getElem? (i := 25) rfl)) (ty := (.object "com/example/vestwright/vestwright/plan/AccountBenefit$Share")) (by decide) rfl rfl (g := (mkF m 27 #[.val (.ref a1), .val (.ref v1), .val (.ref s1), .val .null, .val (.ref q1)] [(.ref s1), (.ref a1)])) rfl rfl (hb hby d5_27)
  have N_18 := Fr.snoc X_18 N_13 Pg_a1
  have Fw_18 : Fld Z h_18 a1 "com/example/vestwright/vestwright/plan/AccountBenefit" "share" "Lcom/example/vestwright/vestwright/plan/AccountBenefit$Share;" (.ref s1) := f_17.same W_18
  refine Go.to (mkF m 30 #[.val (.ref a1), .val (.ref v1), .val (.ref s1), .val .null, .val (.ref q1)] []) st_18 ?_
  refine Go.to (mkF m 31 #[.val (.ref a1), .val (.ref v1), .val (.ref s1), .val .null, .val (.ref q1)] [(.ref a1)]) (fun _ k => XS.aloadN X_18.here hx rfl (hb hby d5_30) rfl rfl k) ?_
  refine Go.to (mkF m 32 #[.val (.ref a1), .val (.ref v1), .val (.ref s1), .val .null, .val (.ref q1)] [.null, (.ref a1)]) (fun _ k => XS.aloadN X_18.here hx rfl (hb hby d5_31) rfl rfl k) ?_
  have f_19 : Exa Z h_18 a1 "com/example/vestwright/vestwright/plan/AccountBenefit" := (f_16.wr W_18)
  have f_20 : Fld Z h_18 a1 "com/example/vestwright/vestwright/plan/AccountBenefit" "interestToNormalRetirementAge" "Ljava/math/BigDecimal;" u2 := ((((PF_a1_interestToNormalRetirementAge.ext E_2).other W_9 (Or.inr (slot_ne (Or.inr (hw _ (List.mem_of_getElem? (i := 55) rfl))) (Or.inr (hw _ (List.mem_of_getElem? (i := 48) rfl))) (by decide) (t := (.object "java/math/BigDecimal")) (t' := (.object "com/example/vestwright/vestwright/plan/AccountValueDate")) (by decide) (by decide)))).ext E_10).other W_18 (Or.inr (slot_ne (Or.inr (hw _ (List.mem_of_getElem? (i := 55) rfl))) (Or.inr (hw _ (List.mem_of_getElem? (i := 53) rfl))) (by decide) (t := (.object "java/math/BigDecimal")) (t' := (.object "com/example/vestwright/vestwright/plan/AccountBenefit$Share")) (by decide) (by decide))))
  obtain ⟨T_21, h_21, X_21, e_21, W_21, st_21⟩ := putF X_18 hx hZ_10 hown_10 (host := "") (Or.inl (hw _ (List.mem_of_getElem? (i := 54) rfl))) Via.refl e_18 f_20 f_19 (Or.inr ⟨(hw _ (List.mem_of_getElem? (i := 55) rfl)), rfl, hnm⟩) (hw _ (List.mem_of_getElem? (i := 25) rfl)) (ty := (.object "java/math/BigDecimal")) (by decide) rfl rfl (g := (mkF m 32 #[.val (.ref a1), .val (.ref v1), .val (.ref s1), .val .null, .val (.ref q1)] [.null, (.ref a1)])) rfl rfl (hb hby d5_32)
  have N_21 := Fr.snoc X_21 N_18 Pg_a1
  have Fw_21 : Fld Z h_21 a1 "com/example/vestwright/vestwright/plan/AccountBenefit" "interestToNormalRetirementAge" "Ljava/math/BigDecimal;" .null := f_20.same W_21
  refine Go.to (mkF m 35 #[.val (.ref a1), .val (.ref v1), .val (.ref s1), .val .null, .val (.ref q1)] []) st_21 ?_
  refine Go.to (mkF m 36 #[.val (.ref a1), .val (.ref v1), .val (.ref s1), .val .null, .val (.ref q1)] [(.ref a1)]) (fun _ k => XS.aloadN X_21.here hx rfl (hb hby d5_35) rfl rfl k) ?_
  refine Go.to (mkF m 38 #[.val (.ref a1), .val (.ref v1), .val (.ref s1), .val .null, .val (.ref q1)] [(.ref q1), (.ref a1)]) (fun _ k => XS.aload X_21.here hx rfl (hb hby d5_36) rfl rfl k) ?_
  have f_23 : kk_10 ≤ h_21.size := (Nat.le_trans (Nat.le_trans hk_10 (Keep.of_wr W_18).1) (Keep.of_wr W_21).1)
  obtain ⟨a_22, T_22, h_22, kk_22, X_22, e_22, E_22, hS_22, hk_22, hZ_22, hown_22, st_22⟩ := ldcS X_21 hx hZ_10 hown_10 (hw _ (List.mem_of_getElem? (i := 56) rfl)) (own_wS hw) e_21 hS_10 f_23 (g := (mkF m 38 #[.val (.ref a1), .val (.ref v1), .val (.ref s1), .val .null, .val (.ref q1)] [(.ref q1), (.ref a1)])) rfl (hb hby d5_38) (n := 24) (by decide) (by decide) (by decide) (by decide)
  refine Go.to (mkF m 40 #[.val (.ref a1), .val (.ref v1), .val (.ref s1), .val .null, .val (.ref q1)] [(.ref a_22), (.ref q1), (.ref a1)]) st_22 ?_
  have f_24 : n0 ≤ h_22.size := (Nat.le_trans (Nat.le_trans (Nat.le_trans f_12 (Keep.of_wr W_18).1) (Keep.of_wr W_21).1) E_22.1)
  refine Go.stat X_22 hx hZ_22 (y := (⟨"java/util/Objects", "requireNonNull", "(Ljava/lang/Object;Ljava/lang/String;)Ljava/lang/Object;"⟩ : MethodName)) hown_22 (hw _ (List.mem_of_getElem? (i := 41) rfl)) (hw _ (List.mem_of_getElem? (i := 42) rfl)) (hw _ (List.mem_of_getElem? (i := 43) rfl)) (hw _ (List.mem_of_getElem? (i := 44) rfl)) (by decide) e_22 (argsL := [(.ref q1), (.ref a_22)]) (rest := [(.ref a1)]) (Met1.back (W := 1) (rm6 l Z a0 hw q1 a_22 h_22 n0 f_24) hZ_22 (hw _ (List.mem_of_getElem? (i := 44) rfl)) (hw _ (List.mem_of_getElem? (i := 43) rfl)) (by decide) (by decide)) (pc := 40) (Ls := #[.val (.ref a1), .val (.ref v1), .val (.ref s1), .val .null, .val (.ref q1)]) (by rw [hml]; rfl) (lenOf own_pd1 rfl) rfl (Nat.le_refl _) (hb hby d5_40) (by decide) (by decide) ?_
  intro T_25 v_25 L_25 X_25 hQ_25
  obtain ⟨rfl, Nq_25, hh_25⟩ := hQ_25
  have N_25 := Fr.app N_21 Nq_25
  show Go p e below (FinW s (Q5 Z a1 v1 s1 q1 u0 u1 u2 u3 h0 n0) ({ frames := 1, cells := 6, slots := 128, locals := 14 } : Room).cells ({ frames := 1, cells := 6, slots := 128, locals := 14 } : Room).slots) T_25 (mkF m 43 #[.val (.ref a1), .val (.ref v1), .val (.ref s1), .val .null, .val (.ref q1)] [(.ref q1), (.ref a1)])
  have f_27 : Exa Z h_22 q1 "com/example/vestwright/vestwright/plan/LumpSum" := ((((((PE_q1.ext E_2).wr W_9).ext E_10).wr W_18).wr W_21).ext E_22)
  obtain ⟨T_26, X_26, e_26, st_26⟩ := castY X_25 hx hZ_22 hown_22 (hw _ (List.mem_of_getElem? (i := 57) rfl)) hh_25 (Ins.of_exa f_27 (hw _ (List.mem_of_getElem? (i := 58) rfl))) (g := (mkF m 43 #[.val (.ref a1), .val (.ref v1), .val (.ref s1), .val .null, .val (.ref q1)] [(.ref q1), (.ref a1)])) rfl rfl (hb hby d5_43)
  refine Go.to (mkF m 46 #[.val (.ref a1), .val (.ref v1), .val (.ref s1), .val .null, .val (.ref q1)] [(.ref q1), (.ref a1)]) st_26 ?_
  have f_28 : Exa Z h_22 a1 "com/example/vestwright/vestwright/plan/AccountBenefit" := ((f_19.wr W_21).ext E_22)
  have f_29 : Fld Z h_22 a1 "com/example/vestwright/vestwright/plan/AccountBenefit" "payout" "Lcom/example/vestwright/vestwright/plan/PayoutForm;" u3 := ((((((PF_a1_payout.ext E_2).other W_9 (Or.inr (slot_ne (Or.inr (hw _ (List.mem_of_getElem? (i := 60) rfl))) (Or.inr (hw _ (List.mem_of_getElem? (i := 48) rfl))) (by decide) (t := (.object "com/example/vestwright/vestwright/plan/PayoutForm")) (t' := (.object "com/example/vestwright/vestwright/plan/AccountValueDate")) (by decide) (by decide)))).ext E_10).other W_18 (Or.inr (slot_ne (Or.inr (hw _ (List.mem_of_getElem? (i := 60) rfl))) (Or.inr (hw _ (List.mem_of_getElem? (i := 53) rfl))) (by decide) (t := (.object "com/example/vestwright/vestwright/plan/PayoutForm")) (t' := (.object "com/example/vestwright/vestwright/plan/AccountBenefit$Share")) (by decide) (by decide)))).other W_21 (Or.inr (slot_ne (Or.inr (hw _ (List.mem_of_getElem? (i := 60) rfl))) (Or.inr (hw _ (List.mem_of_getElem? (i := 55) rfl))) (by decide) (t := (.object "com/example/vestwright/vestwright/plan/PayoutForm")) (t' := (.object "java/math/BigDecimal")) (by decide) (by decide)))).ext E_22)
  obtain ⟨T_30, h_30, X_30, e_30, W_30, st_30⟩ := putF X_26 hx hZ_22 hown_22 (host := "") (Or.inl (hw _ (List.mem_of_getElem? (i := 59) rfl))) Via.refl e_26 f_29 f_28 (Or.inr ⟨(hw _ (List.mem_of_getElem? (i := 60) rfl)), rfl, hnm⟩) (hw _ (List.mem_of_getElem? (i := 25) rfl)) (ty := (.object "com/example/vestwright/vestwright/plan/PayoutForm")) (by decide) rfl rfl (g := (mkF m 46 #[.val (.ref a1), .val (.ref v1), .val (.ref s1), .val .null, .val (.ref q1)] [(.ref q1), (.ref a1)])) rfl rfl (hb hby d5_46)
  have N_30 := Fr.snoc X_30 N_25 Pg_a1
  have Fw_30 : Fld Z h_30 a1 "com/example/vestwright/vestwright/plan/AccountBenefit" "payout" "Lcom/example/vestwright/vestwright/plan/PayoutForm;" (.ref q1) := f_29.same W_30
  refine Go.to (mkF m 49 #[.val (.ref a1), .val (.ref v1), .val (.ref s1), .val .null, .val (.ref q1)] []) st_30 ?_
  have f_31 : kk_22 ≤ h_30.size := (Nat.le_trans hk_22 (Keep.of_wr W_30).1)
  refine Go.ret0W X_30 hx hret hlk (hb hby d5_49) (by decide) (by decide) hS_22 (by rw [e_30]; exact f_31) ?_
  have f_32 : Keep h0 h_30 [a1] := ((((((((Keep.refl h0 [a1]).ext E_2).wr W_9 (Or.inl (List.mem_of_getElem? (i := 0) rfl))).ext E_10).wr W_18 (Or.inl (List.mem_of_getElem? (i := 0) rfl))).wr W_21 (Or.inl (List.mem_of_getElem? (i := 0) rfl))).ext E_22).wr W_30 (Or.inl (List.mem_of_getElem? (i := 0) rfl)))
  show (Q5 Z a1 v1 s1 q1 u0 u1 u2 u3 h0 n0) _ T_30.heap _ _
  rw [e_30]
  exact ⟨rfl, N_30, f_32⟩
theorem own_pd2 : parseMethodDescriptor "(Lcom/example/vestwright/vestwright/plan/AccountValueDate;Lcom/example/vestwright/vestwright/plan/AccountBenefit$Share;Ljava/math/BigDecimal;Lcom/example/vestwright/vestwright/plan/PayoutForm;)V" = some ⟨[(.object "com/example/vestwright/vestwright/plan/AccountValueDate"), (.object "com/example/vestwright/vestwright/plan/AccountBenefit$Share"), (.object "java/math/BigDecimal"), (.object "com/example/vestwright/vestwright/plan/PayoutForm")], none⟩ := by decide +kernel
def Q4 (Z : State) (a1 : Addr) (v1 : Addr) (s1 : Addr) (q1 : Addr) (u0 : Value) (u1 : Value) (u2 : Value) (u3 : Value) (h0 : Heap) (n0 : Nat) (v : Option Value) (h : Heap) (L : List Loc) (vm : Vm) : Prop := v = none ∧ Fr n0 L ∧ Keep h0 h [a1]
theorem ef_4 (m : MethodId) (a1 : Addr) (v1 : Addr) (s1 : Addr) (q1 : Addr) : entryFrame m #[(.ref a1), (.ref v1), (.ref s1), (.ref q1)] 4 = mkF m 0 #[.val (.ref a1), .val (.ref v1), .val (.ref s1), .val (.ref q1)] [] := by first | (simp [entryFrame, mkF, argsToLocals, Value.category]; done) | (simp [entryFrame, mkF, argsToLocals, own_cat_i, own_cat_l, own_cat_r, own_cat_n]; done) | rfl
set_option maxRecDepth 65536 in
set_option maxHeartbeats 40000000 in
theorem rm4 (l : Launch) (Z : State) (a0 : Array Value) (hw : ∀ d ∈ tables_1, d.before a0 Z = true) (a1 : Addr) (v1 : Addr) (s1 : Addr) (q1 : Addr) (u0 : Value) (u1 : Value) (u2 : Value) (u3 : Value) (h0 : Heap) (n0 : Nat) (Z0 : n0 ≤ h0.size) (PE_a1 : Exa Z h0 a1 "com/example/vestwright/vestwright/plan/AccountBenefit") (Pg_a1 : n0 ≤ a1) (PE_v1 : Exa Z h0 v1 "com/example/vestwright/vestwright/plan/AccountValueDate") (PE_s1 : Exa Z h0 s1 "com/example/vestwright/vestwright/plan/AccountBenefit$Share") (PE_q1 : Exa Z h0 q1 "com/example/vestwright/vestwright/plan/LumpSum") (PF_a1_accountValue : Fld Z h0 a1 "com/example/vestwright/vestwright/plan/AccountBenefit" "accountValue" "Lcom/example/vestwright/vestwright/plan/AccountValueDate;" u0) (PF_a1_share : Fld Z h0 a1 "com/example/vestwright/vestwright/plan/AccountBenefit" "share" "Lcom/example/vestwright/vestwright/plan/AccountBenefit$Share;" u1) (PF_a1_interestToNormalRetirementAge : Fld Z h0 a1 "com/example/vestwright/vestwright/plan/AccountBenefit" "interestToNormalRetirementAge" "Ljava/math/BigDecimal;" u2) (PF_a1_payout : Fld Z h0 a1 "com/example/vestwright/vestwright/plan/AccountBenefit" "payout" "Lcom/example/vestwright/vestwright/plan/PayoutForm;" u3) :
    MetW l Z (⟨"com/example/vestwright/vestwright/plan/AccountBenefit", "<init>", "(Lcom/example/vestwright/vestwright/plan/AccountValueDate;Lcom/example/vestwright/vestwright/plan/AccountBenefit$Share;Lcom/example/vestwright/vestwright/plan/PayoutForm;)V"⟩ : MethodName) prog_39_method_1_code 4 none ({ frames := 2, cells := 6, slots := 128, locals := 30 } : Room) #[(.ref a1), (.ref v1), (.ref s1), (.ref q1)] h0 (fun _ => True) (Q4 Z a1 v1 s1 q1 u0 u1 u2 u3 h0 n0) := by
  refine MetW.mk (plainFor_of_name (by first | (simp [plainName, overriddenIn]; done) | decide +kernel)) ?_
  intro p e s m below meth c s₁ vm0 hx hZ hby hml hown hnm hret hlk X0 e0 hS hh hnamed hJ
  have N0 := Fr.nil n0
  refine Go.cast (ef_4 m a1 v1 s1 q1) ?_
  show Go p e below (FinW s (Q4 Z a1 v1 s1 q1 u0 u1 u2 u3 h0 n0) ({ frames := 2, cells := 6, slots := 128, locals := 30 } : Room).cells ({ frames := 2, cells := 6, slots := 128, locals := 30 } : Room).slots) s₁ (mkF m 0 #[.val (.ref a1), .val (.ref v1), .val (.ref s1), .val (.ref q1)] [])
  refine Go.to (mkF m 1 #[.val (.ref a1), .val (.ref v1), .val (.ref s1), .val (.ref q1)] [(.ref a1)]) (fun _ k => XS.aloadN X0.here hx rfl (hb hby d4_0) rfl rfl k) ?_
  refine Go.to (mkF m 2 #[.val (.ref a1), .val (.ref v1), .val (.ref s1), .val (.ref q1)] [(.ref v1), (.ref a1)]) (fun _ k => XS.aloadN X0.here hx rfl (hb hby d4_1) rfl rfl k) ?_
  refine Go.to (mkF m 3 #[.val (.ref a1), .val (.ref v1), .val (.ref s1), .val (.ref q1)] [(.ref s1), (.ref v1), (.ref a1)]) (fun _ k => XS.aloadN X0.here hx rfl (hb hby d4_2) rfl rfl k) ?_
  refine Go.to (mkF m 4 #[.val (.ref a1), .val (.ref v1), .val (.ref s1), .val (.ref q1)] [.null, (.ref s1), (.ref v1), (.ref a1)]) (fun _ k => XS.aconstNull X0.here hx rfl (hb hby d4_3) k) ?_
  refine Go.to (mkF m 5 #[.val (.ref a1), .val (.ref v1), .val (.ref s1), .val (.ref q1)] [(.ref q1), .null, (.ref s1), (.ref v1), (.ref a1)]) (fun _ k => XS.aloadN X0.here hx rfl (hb hby d4_4) rfl rfl k) ?_
  refine Go.specialS hS (Nat.zero_le _) X0 hx hZ (y := (⟨"com/example/vestwright/vestwright/plan/AccountBenefit", "<init>", "(Lcom/example/vestwright/vestwright/plan/AccountValueDate;Lcom/example/vestwright/vestwright/plan/AccountBenefit$Share;Ljava/math/BigDecimal;Lcom/example/vestwright/vestwright/plan/PayoutForm;)V"⟩ : MethodName)) rfl hown (hw _ (List.mem_of_getElem? (i := 36) rfl)) (hw _ (List.mem_of_getElem? (i := 37) rfl)) (hw _ (List.mem_of_getElem? (i := 38) rfl)) (by decide) e0 (a := a1) (argsL := [(.ref v1), (.ref s1), .null, (.ref q1)]) (rest := []) (MetW.back (W := 0) (rm5 l Z a0 hw a1 v1 s1 q1 u0 u1 u2 u3 h0 n0 Z0 PE_a1 Pg_a1 PE_v1 PE_s1 PE_q1 PF_a1_accountValue PF_a1_share PF_a1_interestToNormalRetirementAge PF_a1_payout) hZ (fun _ _ => trivial) (hw _ (List.mem_of_getElem? (i := 38) rfl)) (hw _ (List.mem_of_getElem? (i := 26) rfl)) (by decide) (by decide)) (pc := 5) (Ls := #[.val (.ref a1), .val (.ref v1), .val (.ref s1), .val (.ref q1)]) (by rw [hml]; rfl) (lenOf own_pd2 rfl) rfl (Nat.le_refl _) (hb hby d4_5) (by decide) (by decide) ?_
  intro T_1 v_1 L_1 X_1 hS_1 hV_1 hZ_1 hown_1 hg_1 hQ_1
  obtain ⟨rfl, Nq_1, K_1⟩ := hQ_1
  have N_1 := Fr.app N0 Nq_1
  show Go p e below (FinW s (Q4 Z a1 v1 s1 q1 u0 u1 u2 u3 h0 n0) ({ frames := 2, cells := 6, slots := 128, locals := 30 } : Room).cells ({ frames := 2, cells := 6, slots := 128, locals := 30 } : Room).slots) T_1 (mkF m 8 #[.val (.ref a1), .val (.ref v1), .val (.ref s1), .val (.ref q1)] [])
  refine Go.ret0W X_1 hx hret hlk (hb hby d4_8) (by decide) (by decide) hS_1 (Nat.le_refl _) ?_
  have f_2 : Keep h0 T_1.heap [a1] := ((Keep.refl h0 [a1]).trans K_1 (allS (Or.inl (List.mem_of_getElem? (i := 0) rfl)) all0))
  show (Q4 Z a1 v1 s1 q1 u0 u1 u2 u3 h0 n0) _ T_1.heap _ _
  exact ⟨rfl, N_1, f_2⟩
def Q8 (Z : State) (a1 : Addr) (c1 : Int32) (r1 : Value) (r2 : Value) (c2 : Int32) (u0 : Value) (u1 : Value) (u2 : Value) (u3 : Value) (h0 : Heap) (n0 : Nat) (v : Option Value) (h : Heap) (L : List Loc) : Prop := v = none ∧ Fr n0 L ∧ Keep h0 h [a1] ∧ Fld Z h a1 "com/example/vestwright/vestwright/plan/DeathBenefit" "nothingInService" "Z" (.int c1) ∧ Fld Z h a1 "com/example/vestwright/vestwright/plan/DeathBenefit" "afterSeparation" "Lcom/example/vestwright/vestwright/plan/Benefit;" r1 ∧ Fld Z h a1 "com/example/vestwright/vestwright/plan/DeathBenefit" "duringPayout" "Lcom/example/vestwright/vestwright/plan/Benefit;" r2 ∧ Fld Z h a1 "com/example/vestwright/vestwright/plan/DeathBenefit" "remainingPayments" "Z" (.int c2)
theorem ef_8 (m : MethodId) (a1 : Addr) (c1 : Int32) (r1 : Value) (r2 : Value) (c2 : Int32) (hv2 : r1.isRef = true) (hv3 : r2.isRef = true) : entryFrame m #[(.ref a1), (.int c1), r1, r2, (.int c2)] 5 = mkF m 0 #[.val (.ref a1), .val (.int c1), .val r1, .val r2, .val (.int c2)] [] := by first | (simp [entryFrame, mkF, argsToLocals, Value.category]; done) | (simp [entryFrame, mkF, argsToLocals, own_refcat hv2, own_refcat hv3, own_cat_i, own_cat_l, own_cat_r, own_cat_n]; done) | rfl
set_option maxRecDepth 65536 in
set_option maxHeartbeats 40000000 in
theorem rm8 (l : Launch) (Z : State) (a0 : Array Value) (hw : ∀ d ∈ tables_1, d.before a0 Z = true) (a1 : Addr) (c1 : Int32) (r1 : Value) (r2 : Value) (c2 : Int32) (u0 : Value) (u1 : Value) (u2 : Value) (u3 : Value) (h0 : Heap) (n0 : Nat) (Z0 : n0 ≤ h0.size) (PE_a1 : Exa Z h0 a1 "com/example/vestwright/vestwright/plan/DeathBenefit") (Pg_a1 : n0 ≤ a1) (PF_a1_nothingInService : Fld Z h0 a1 "com/example/vestwright/vestwright/plan/DeathBenefit" "nothingInService" "Z" u0) (PF_a1_afterSeparation : Fld Z h0 a1 "com/example/vestwright/vestwright/plan/DeathBenefit" "afterSeparation" "Lcom/example/vestwright/vestwright/plan/Benefit;" u1) (PF_a1_duringPayout : Fld Z h0 a1 "com/example/vestwright/vestwright/plan/DeathBenefit" "duringPayout" "Lcom/example/vestwright/vestwright/plan/Benefit;" u2) (PF_a1_remainingPayments : Fld Z h0 a1 "com/example/vestwright/vestwright/plan/DeathBenefit" "remainingPayments" "Z" u3) (hc1 : nar .boolean c1 = c1) (hr1 : r1.isRef = true) (hr2 : r2.isRef = true) (hc2 : nar .boolean c2 = c2) :
    Met1 l Z (⟨"com/example/vestwright/vestwright/plan/DeathBenefit", "<init>", "(ZLcom/example/vestwright/vestwright/plan/Benefit;Lcom/example/vestwright/vestwright/plan/Benefit;Z)V"⟩ : MethodName) prog_61_method_2_code 5 none ({ frames := 1, cells := 0, slots := 0, locals := 12 } : Room) #[(.ref a1), (.int c1), r1, r2, (.int c2)] h0 (Q8 Z a1 c1 r1 r2 c2 u0 u1 u2 u3 h0 n0) := by
  refine Met1.mk (plainFor_of_name (by first | (simp [plainName, overriddenIn]; done) | decide +kernel)) ?_
  intro p e s m below meth c s₁ hx hZ hby hml hown hnm hret hlk X0 e0
  have N0 := Fr.nil n0
  refine Go.cast (ef_8 m a1 c1 r1 r2 c2 hr1 hr2) ?_
  show Go p e below (FinN s (Q8 Z a1 c1 r1 r2 c2 u0 u1 u2 u3 h0 n0) ({ frames := 1, cells := 0, slots := 0, locals := 12 } : Room).cells ({ frames := 1, cells := 0, slots := 0, locals := 12 } : Room).slots) s₁ (mkF m 0 #[.val (.ref a1), .val (.int c1), .val r1, .val r2, .val (.int c2)] [])
  refine Go.to (mkF m 1 #[.val (.ref a1), .val (.int c1), .val r1, .val r2, .val (.int c2)] [(.ref a1)]) (fun _ k => XS.aloadN X0.here hx rfl (hb hby d8_0) rfl rfl k) ?_
  obtain ⟨T_1, X_1, e_1, st_1⟩ := initO X0 hx hZ hown (hw _ (List.mem_of_getElem? (i := 74) rfl)) (hw _ (List.mem_of_getElem? (i := 7) rfl)) (hw _ (List.mem_of_getElem? (i := 8) rfl)) e0 (g := (mkF m 1 #[.val (.ref a1), .val (.int c1), .val r1, .val r2, .val (.int c2)] [(.ref a1)])) rfl (by rw [hml]; rfl) rfl (hb hby d8_1) (by decide) (W := 0) (by show 2 * 0 + _ ≤ _; exact Nat.le_of_eq rfl) (by decide)
  refine Go.to (mkF m 4 #[.val (.ref a1), .val (.int c1), .val r1, .val r2, .val (.int c2)] []) st_1 ?_
  refine Go.to (mkF m 5 #[.val (.ref a1), .val (.int c1), .val r1, .val r2, .val (.int c2)] [(.ref a1)]) (fun _ k => XS.aloadN X_1.here hx rfl (hb hby d8_4) rfl rfl k) ?_
  refine Go.to (mkF m 6 #[.val (.ref a1), .val (.int c1), .val r1, .val r2, .val (.int c2)] [(.int c1), (.ref a1)]) (fun _ k => XS.iloadN X_1.here hx rfl (hb hby d8_5) rfl  k) ?_
  obtain ⟨T_2, h_2, X_2, e_2, W_2, st_2⟩ := putFN X_1 hx hZ hown (hw _ (List.mem_of_getElem? (i := 75) rfl)) Via.refl e_1 PF_a1_nothingInService PE_a1 (Or.inr ⟨(hw _ (List.mem_of_getElem? (i := 76) rfl)), rfl, hnm⟩) (hw _ (List.mem_of_getElem? (i := 66) rfl)) (ty := .boolean) (v := (.int c1)) (v' := (.int c1)) (by decide) (congrArg Value.int hc1) (own_fits_of hc1 (fits_nar_bool _)) (g := (mkF m 6 #[.val (.ref a1), .val (.int c1), .val r1, .val r2, .val (.int c2)] [(.int c1), (.ref a1)])) rfl rfl (hb hby d8_6)
  have N_2 := Fr.snoc X_2 N0 Pg_a1
  have Fw_2 : Fld Z h_2 a1 "com/example/vestwright/vestwright/plan/DeathBenefit" "nothingInService" "Z" (.int c1) := PF_a1_nothingInService.same W_2
  refine Go.to (mkF m 9 #[.val (.ref a1), .val (.int c1), .val r1, .val r2, .val (.int c2)] []) st_2 ?_
  refine Go.to (mkF m 10 #[.val (.ref a1), .val (.int c1), .val r1, .val r2, .val (.int c2)] [(.ref a1)]) (fun _ k => XS.aloadN X_2.here hx rfl (hb hby d8_9) rfl rfl k) ?_
  refine Go.to (mkF m 11 #[.val (.ref a1), .val (.int c1), .val r1, .val r2, .val (.int c2)] [r1, (.ref a1)]) (fun _ k => XS.aloadN X_2.here hx rfl (hb hby d8_10) rfl hr1 k) ?_
  have f_3 : Exa Z h_2 a1 "com/example/vestwright/vestwright/plan/DeathBenefit" := (PE_a1.wr W_2)
  have f_4 : Fld Z h_2 a1 "com/example/vestwright/vestwright/plan/DeathBenefit" "afterSeparation" "Lcom/example/vestwright/vestwright/plan/Benefit;" u1 := (PF_a1_afterSeparation.other W_2 (Or.inr (slot_ne (Or.inr (hw _ (List.mem_of_getElem? (i := 78) rfl))) (Or.inr (hw _ (List.mem_of_getElem? (i := 76) rfl))) (by decide) (t := (.object "com/example/vestwright/vestwright/plan/Benefit")) (t' := .boolean) (by decide) (by decide))))
  obtain ⟨T_5, h_5, X_5, e_5, W_5, st_5⟩ := putF X_2 hx hZ hown (host := "") (Or.inl (hw _ (List.mem_of_getElem? (i := 77) rfl))) Via.refl e_2 f_4 f_3 (Or.inr ⟨(hw _ (List.mem_of_getElem? (i := 78) rfl)), rfl, hnm⟩) (hw _ (List.mem_of_getElem? (i := 66) rfl)) (ty := (.object "com/example/vestwright/vestwright/plan/Benefit")) (by decide) (own_narrow_ref rfl) (own_fits_ref hr1 rfl) (g := (mkF m 11 #[.val (.ref a1), .val (.int c1), .val r1, .val r2, .val (.int c2)] [r1, (.ref a1)])) rfl rfl (hb hby d8_11)
  have N_5 := Fr.snoc X_5 N_2 Pg_a1
  have Fw_5 : Fld Z h_5 a1 "com/example/vestwright/vestwright/plan/DeathBenefit" "afterSeparation" "Lcom/example/vestwright/vestwright/plan/Benefit;" r1 := f_4.same W_5
  refine Go.to (mkF m 14 #[.val (.ref a1), .val (.int c1), .val r1, .val r2, .val (.int c2)] []) st_5 ?_
  refine Go.to (mkF m 15 #[.val (.ref a1), .val (.int c1), .val r1, .val r2, .val (.int c2)] [(.ref a1)]) (fun _ k => XS.aloadN X_5.here hx rfl (hb hby d8_14) rfl rfl k) ?_
  refine Go.to (mkF m 16 #[.val (.ref a1), .val (.int c1), .val r1, .val r2, .val (.int c2)] [r2, (.ref a1)]) (fun _ k => XS.aloadN X_5.here hx rfl (hb hby d8_15) rfl hr2 k) ?_
  have f_6 : Exa Z h_5 a1 "com/example/vestwright/vestwright/plan/DeathBenefit" := (f_3.wr W_5)
  have f_7 : Fld Z h_5 a1 "com/example/vestwright/vestwright/plan/DeathBenefit" "duringPayout" "Lcom/example/vestwright/vestwright/plan/Benefit;" u2 := ((PF_a1_duringPayout.other W_2 (Or.inr (slot_ne (Or.inr (hw _ (List.mem_of_getElem? (i := 80) rfl))) (Or.inr (hw _ (List.mem_of_getElem? (i := 76) rfl))) (by decide) (t := (.object "com/example/vestwright/vestwright/plan/Benefit")) (t' := .boolean) (by decide) (by decide)))).other W_5 (Or.inr (slot_ne (Or.inr (hw _ (List.mem_of_getElem? (i := 80) rfl))) (Or.inr (hw _ (List.mem_of_getElem? (i := 78) rfl))) (by decide) (t := (.object "com/example/vestwright/vestwright/plan/Benefit")) (t' := (.object "com/example/vestwright/vestwright/plan/Benefit")) (by decide) (by decide))))
  obtain ⟨T_8, h_8, X_8, e_8, W_8, st_8⟩ := putF X_5 hx hZ hown (host := "") (Or.inl (hw _ (List.mem_of_getElem? (i := 79) rfl))) Via.refl e_5 f_7 f_6 (Or.inr ⟨(hw _ (List.mem_of_getElem? (i := 80) rfl)), rfl, hnm⟩) (hw _ (List.mem_of_getElem? (i := 66) rfl)) (ty := (.object "com/example/vestwright/vestwright/plan/Benefit")) (by decide) (own_narrow_ref rfl) (own_fits_ref hr2 rfl) (g := (mkF m 16 #[.val (.ref a1), .val (.int c1), .val r1, .val r2, .val (.int c2)] [r2, (.ref a1)])) rfl rfl (hb hby d8_16)
  have N_8 := Fr.snoc X_8 N_5 Pg_a1
  have Fw_8 : Fld Z h_8 a1 "com/example/vestwright/vestwright/plan/DeathBenefit" "duringPayout" "Lcom/example/vestwright/vestwright/plan/Benefit;" r2 := f_7.same W_8
  refine Go.to (mkF m 19 #[.val (.ref a1), .val (.int c1), .val r1, .val r2, .val (.int c2)] []) st_8 ?_
  refine Go.to (mkF m 20 #[.val (.ref a1), .val (.int c1), .val r1, .val r2, .val (.int c2)] [(.ref a1)]) (fun _ k => XS.aloadN X_8.here hx rfl (hb hby d8_19) rfl rfl k) ?_
  refine Go.to (mkF m 22 #[.val (.ref a1), .val (.int c1), .val r1, .val r2, .val (.int c2)] [(.int c2), (.ref a1)]) (fun _ k => XS.iload X_8.here hx rfl (hb hby d8_20) rfl  k) ?_
  have f_9 : Exa Z h_8 a1 "com/example/vestwright/vestwright/plan/DeathBenefit" := (f_6.wr W_8)
  have f_10 : Fld Z h_8 a1 "com/example/vestwright/vestwright/plan/DeathBenefit" "remainingPayments" "Z" u3 := (((PF_a1_remainingPayments.other W_2 (Or.inr (slot_ne (Or.inr (hw _ (List.mem_of_getElem? (i := 82) rfl))) (Or.inr (hw _ (List.mem_of_getElem? (i := 76) rfl))) (by decide) (t := .boolean) (t' := .boolean) (by decide) (by decide)))).other W_5 (Or.inr (slot_ne (Or.inr (hw _ (List.mem_of_getElem? (i := 82) rfl))) (Or.inr (hw _ (List.mem_of_getElem? (i := 78) rfl))) (by decide) (t := .boolean) (t' := (.object "com/example/vestwright/vestwright/plan/Benefit")) (by decide) (by decide)))).other W_8 (Or.inr (slot_ne (Or.inr (hw _ (List.mem_of_getElem? (i := 82) rfl))) (Or.inr (hw _ (List.mem_of_getElem? (i := 80) rfl))) (by decide) (t := .boolean) (t' := (.object "com/example/vestwright/vestwright/plan/Benefit")) (by decide) (by decide))))
  obtain ⟨T_11, h_11, X_11, e_11, W_11, st_11⟩ := putFN X_8 hx hZ hown (hw _ (List.mem_of_getElem? (i := 81) rfl)) Via.refl e_8 f_10 f_9 (Or.inr ⟨(hw _ (List.mem_of_getElem? (i := 82) rfl)), rfl, hnm⟩) (hw _ (List.mem_of_getElem? (i := 66) rfl)) (ty := .boolean) (v := (.int c2)) (v' := (.int c2)) (by decide) (congrArg Value.int hc2) (own_fits_of hc2 (fits_nar_bool _)) (g := (mkF m 22 #[.val (.ref a1), .val (.int c1), .val r1, .val r2, .val (.int c2)] [(.int c2), (.ref a1)])) rfl rfl (hb hby d8_22)
  have N_11 := Fr.snoc X_11 N_8 Pg_a1
  have Fw_11 : Fld Z h_11 a1 "com/example/vestwright/vestwright/plan/DeathBenefit" "remainingPayments" "Z" (.int c2) := f_10.same W_11
  refine Go.to (mkF m 25 #[.val (.ref a1), .val (.int c1), .val r1, .val r2, .val (.int c2)] []) st_11 ?_
  refine Go.ret0 X_11 hx hret hlk (hb hby d8_25) (by decide) (by decide) ?_
  have f_12 : Keep h0 h_11 [a1] := (((((Keep.refl h0 [a1]).wr W_2 (Or.inl (List.mem_of_getElem? (i := 0) rfl))).wr W_5 (Or.inl (List.mem_of_getElem? (i := 0) rfl))).wr W_8 (Or.inl (List.mem_of_getElem? (i := 0) rfl))).wr W_11 (Or.inl (List.mem_of_getElem? (i := 0) rfl)))
  have f_13 : Fld Z h_11 a1 "com/example/vestwright/vestwright/plan/DeathBenefit" "nothingInService" "Z" (.int c1) := (((Fw_2.other W_5 (Or.inr (slot_ne (Or.inr (hw _ (List.mem_of_getElem? (i := 76) rfl))) (Or.inr (hw _ (List.mem_of_getElem? (i := 78) rfl))) (by decide) (t := .boolean) (t' := (.object "com/example/vestwright/vestwright/plan/Benefit")) (by decide) (by decide)))).other W_8 (Or.inr (slot_ne (Or.inr (hw _ (List.mem_of_getElem? (i := 76) rfl))) (Or.inr (hw _ (List.mem_of_getElem? (i := 80) rfl))) (by decide) (t := .boolean) (t' := (.object "com/example/vestwright/vestwright/plan/Benefit")) (by decide) (by decide)))).other W_11 (Or.inr (slot_ne (Or.inr (hw _ (List.mem_of_getElem? (i := 76) rfl))) (Or.inr (hw _ (List.mem_of_getElem? (i := 82) rfl))) (by decide) (t := .boolean) (t' := .boolean) (by decide) (by decide))))
  have f_14 : Fld Z h_11 a1 "com/example/vestwright/vestwright/plan/DeathBenefit" "afterSeparation" "Lcom/example/vestwright/vestwright/plan/Benefit;" r1 := ((Fw_5.other W_8 (Or.inr (slot_ne (Or.inr (hw _ (List.mem_of_getElem? (i := 78) rfl))) (Or.inr (hw _ (List.mem_of_getElem? (i := 80) rfl))) (by decide) (t := (.object "com/example/vestwright/vestwright/plan/Benefit")) (t' := (.object "com/example/vestwright/vestwright/plan/Benefit")) (by decide) (by decide)))).other W_11 (Or.inr (slot_ne (Or.inr (hw _ (List.mem_of_getElem? (i := 78) rfl))) (Or.inr (hw _ (List.mem_of_getElem? (i := 82) rfl))) (by decide) (t := (.object "com/example/vestwright/vestwright/plan/Benefit")) (t' := .boolean) (by decide) (by decide))))
  have f_15 : Fld Z h_11 a1 "com/example/vestwright/vestwright/plan/DeathBenefit" "duringPayout" "Lcom/example/vestwright/vestwright/plan/Benefit;" r2 := (Fw_8.other W_11 (Or.inr (slot_ne (Or.inr (hw _ (List.mem_of_getElem? (i := 80) rfl))) (Or.inr (hw _ (List.mem_of_getElem? (i := 82) rfl))) (by decide) (t := (.object "com/example/vestwright/vestwright/plan/Benefit")) (t' := .boolean) (by decide) (by decide))))
  show (Q8 Z a1 c1 r1 r2 c2 u0 u1 u2 u3 h0 n0) _ T_11.heap _
  rw [e_11]
  exact ⟨rfl, N_11, f_12, f_13, f_14, f_15, Fw_11⟩
theorem own_pd3 : parseMethodDescriptor "(ZLcom/example/vestwright/vestwright/plan/Benefit;Lcom/example/vestwright/vestwright/plan/Benefit;Z)V" = some ⟨[.boolean, (.object "com/example/vestwright/vestwright/plan/Benefit"), (.object "com/example/vestwright/vestwright/plan/Benefit"), .boolean], none⟩ := by decide +kernel
def Q7 (Z : State) (a1 : Addr) (u0 : Value) (u1 : Value) (u2 : Value) (u3 : Value) (h0 : Heap) (n0 : Nat) (v : Option Value) (h : Heap) (L : List Loc) : Prop := v = none ∧ Fr n0 L ∧ Keep h0 h [a1] ∧ Fld Z h a1 "com/example/vestwright/vestwright/plan/DeathBenefit" "nothingInService" "Z" (.int (0 : Int32)) ∧ Fld Z h a1 "com/example/vestwright/vestwright/plan/DeathBenefit" "afterSeparation" "Lcom/example/vestwright/vestwright/plan/Benefit;" .null ∧ Fld Z h a1 "com/example/vestwright/vestwright/plan/DeathBenefit" "duringPayout" "Lcom/example/vestwright/vestwright/plan/Benefit;" .null ∧ Fld Z h a1 "com/example/vestwright/vestwright/plan/DeathBenefit" "remainingPayments" "Z" (.int (0 : Int32))
theorem ef_7 (m : MethodId) (a1 : Addr) : entryFrame m #[(.ref a1)] 1 = mkF m 0 #[.val (.ref a1)] [] := by first | (simp [entryFrame, mkF, argsToLocals, Value.category]; done) | (simp [entryFrame, mkF, argsToLocals, own_cat_i, own_cat_l, own_cat_r, own_cat_n]; done) | rfl
set_option maxRecDepth 65536 in
set_option maxHeartbeats 40000000 in
theorem rm7 (l : Launch) (Z : State) (a0 : Array Value) (hw : ∀ d ∈ tables_1, d.before a0 Z = true) (a1 : Addr) (u0 : Value) (u1 : Value) (u2 : Value) (u3 : Value) (h0 : Heap) (n0 : Nat) (Z0 : n0 ≤ h0.size) (PE_a1 : Exa Z h0 a1 "com/example/vestwright/vestwright/plan/DeathBenefit") (Pg_a1 : n0 ≤ a1) (PF_a1_nothingInService : Fld Z h0 a1 "com/example/vestwright/vestwright/plan/DeathBenefit" "nothingInService" "Z" u0) (PF_a1_afterSeparation : Fld Z h0 a1 "com/example/vestwright/vestwright/plan/DeathBenefit" "afterSeparation" "Lcom/example/vestwright/vestwright/plan/Benefit;" u1) (PF_a1_duringPayout : Fld Z h0 a1 "com/example/vestwright/vestwright/plan/DeathBenefit" "duringPayout" "Lcom/example/vestwright/vestwright/plan/Benefit;" u2) (PF_a1_remainingPayments : Fld Z h0 a1 "com/example/vestwright/vestwright/plan/DeathBenefit" "remainingPayments" "Z" u3) :
    Met1 l Z (⟨"com/example/vestwright/vestwright/plan/DeathBenefit", "<init>", "()V"⟩ : MethodName) prog_61_method_1_code 1 none ({ frames := 2, cells := 0, slots := 0, locals := 28 } : Room) #[(.ref a1)] h0 (Q7 Z a1 u0 u1 u2 u3 h0 n0) := by
  refine Met1.mk (plainFor_of_name (by first | (simp [plainName, overriddenIn]; done) | decide +kernel)) ?_
  intro p e s m below meth c s₁ hx hZ hby hml hown hnm hret hlk X0 e0
  have N0 := Fr.nil n0
  refine Go.cast (ef_7 m a1) ?_
  show Go p e below (FinN s (Q7 Z a1 u0 u1 u2 u3 h0 n0) ({ frames := 2, cells := 0, slots := 0, locals := 28 } : Room).cells ({ frames := 2, cells := 0, slots := 0, locals := 28 } : Room).slots) s₁ (mkF m 0 #[.val (.ref a1)] [])
  refine Go.to (mkF m 1 #[.val (.ref a1)] [(.ref a1)]) (fun _ k => XS.aloadN X0.here hx rfl (hb hby d7_0) rfl rfl k) ?_
  refine Go.to (mkF m 2 #[.val (.ref a1)] [(.int (0 : Int32)), (.ref a1)]) (fun _ k => XS.iconst X0.here hx rfl (hb hby d7_1) k) ?_
  refine Go.to (mkF m 3 #[.val (.ref a1)] [.null, (.int (0 : Int32)), (.ref a1)]) (fun _ k => XS.aconstNull X0.here hx rfl (hb hby d7_2) k) ?_
  refine Go.to (mkF m 4 #[.val (.ref a1)] [.null, .null, (.int (0 : Int32)), (.ref a1)]) (fun _ k => XS.aconstNull X0.here hx rfl (hb hby d7_3) k) ?_
  refine Go.to (mkF m 5 #[.val (.ref a1)] [(.int (0 : Int32)), .null, .null, (.int (0 : Int32)), (.ref a1)]) (fun _ k => XS.iconst X0.here hx rfl (hb hby d7_4) k) ?_
  refine Go.special X0 hx hZ (y := (⟨"com/example/vestwright/vestwright/plan/DeathBenefit", "<init>", "(ZLcom/example/vestwright/vestwright/plan/Benefit;Lcom/example/vestwright/vestwright/plan/Benefit;Z)V"⟩ : MethodName)) rfl hown (hw _ (List.mem_of_getElem? (i := 71) rfl)) (hw _ (List.mem_of_getElem? (i := 72) rfl)) (hw _ (List.mem_of_getElem? (i := 73) rfl)) (by decide) e0 (a := a1) (argsL := [(.int (0 : Int32)), .null, .null, (.int (0 : Int32))]) (rest := []) (Met1.back (W := 0) (rm8 l Z a0 hw a1 (0 : Int32) .null .null (0 : Int32) u0 u1 u2 u3 h0 n0 Z0 PE_a1 Pg_a1 PF_a1_nothingInService PF_a1_afterSeparation PF_a1_duringPayout PF_a1_remainingPayments rfl rfl rfl rfl) hZ (hw _ (List.mem_of_getElem? (i := 73) rfl)) (hw _ (List.mem_of_getElem? (i := 67) rfl)) (by decide) (by decide)) (pc := 5) (Ls := #[.val (.ref a1)]) (by rw [hml]; rfl) (lenOf own_pd3 rfl) rfl (Nat.le_refl _) (hb hby d7_5) (by decide) (by decide) ?_
  intro T_1 v_1 L_1 X_1 hQ_1
  obtain ⟨rfl, Nq_1, K_1, pf_1_0, pf_1_1, pf_1_2, pf_1_3⟩ := hQ_1
  have N_1 := Fr.app N0 Nq_1
  show Go p e below (FinN s (Q7 Z a1 u0 u1 u2 u3 h0 n0) ({ frames := 2, cells := 0, slots := 0, locals := 28 } : Room).cells ({ frames := 2, cells := 0, slots := 0, locals := 28 } : Room).slots) T_1 (mkF m 8 #[.val (.ref a1)] [])
  refine Go.ret0 X_1 hx hret hlk (hb hby d7_8) (by decide) (by decide) ?_
  have f_2 : Keep h0 T_1.heap [a1] := ((Keep.refl h0 [a1]).trans K_1 (allS (Or.inl (List.mem_of_getElem? (i := 0) rfl)) all0))
  show (Q7 Z a1 u0 u1 u2 u3 h0 n0) _ T_1.heap _
  exact ⟨rfl, N_1, f_2, pf_1_0, pf_1_1, pf_1_2, pf_1_3⟩
def Q9 (Z : State) (a1 : Addr) (c1 : Int32) (r1 : Value) (r2 : Value) (c2 : Int32) (h0 : Heap) (n0 : Nat) (v : Option Value) (h : Heap) (L : List Loc) : Prop := ∃ (b : Addr), v = some (.ref b) ∧ Fr n0 L ∧ Keep h0 h [] ∧ Exa Z h b "com/example/vestwright/vestwright/plan/DeathBenefit" ∧ Fld Z h b "com/example/vestwright/vestwright/plan/DeathBenefit" "nothingInService" "Z" (.int (1 : Int32)) ∧ Fld Z h b "com/example/vestwright/vestwright/plan/DeathBenefit" "afterSeparation" "Lcom/example/vestwright/vestwright/plan/Benefit;" r1 ∧ Fld Z h b "com/example/vestwright/vestwright/plan/DeathBenefit" "duringPayout" "Lcom/example/vestwright/vestwright/plan/Benefit;" r2 ∧ Fld Z h b "com/example/vestwright/vestwright/plan/DeathBenefit" "remainingPayments" "Z" (.int c2) ∧ h0.size ≤ b
theorem ef_9 (m : MethodId) (a1 : Addr) : entryFrame m #[(.ref a1)] 1 = mkF m 0 #[.val (.ref a1)] [] := by first | (simp [entryFrame, mkF, argsToLocals, Value.category]; done) | (simp [entryFrame, mkF, argsToLocals, own_cat_i, own_cat_l, own_cat_r, own_cat_n]; done) | rfl
set_option maxRecDepth 65536 in
set_option maxHeartbeats 40000000 in
theorem rm9 (l : Launch) (Z : State) (a0 : Array Value) (hw : ∀ d ∈ tables_1, d.before a0 Z = true) (a1 : Addr) (c1 : Int32) (r1 : Value) (r2 : Value) (c2 : Int32) (h0 : Heap) (n0 : Nat) (Z0 : n0 ≤ h0.size) (PF_a1_nothingInService : Fld Z h0 a1 "com/example/vestwright/vestwright/plan/DeathBenefit" "nothingInService" "Z" (.int c1)) (PF_a1_afterSeparation : Fld Z h0 a1 "com/example/vestwright/vestwright/plan/DeathBenefit" "afterSeparation" "Lcom/example/vestwright/vestwright/plan/Benefit;" r1) (PF_a1_duringPayout : Fld Z h0 a1 "com/example/vestwright/vestwright/plan/DeathBenefit" "duringPayout" "Lcom/example/vestwright/vestwright/plan/Benefit;" r2) (PF_a1_remainingPayments : Fld Z h0 a1 "com/example/vestwright/vestwright/plan/DeathBenefit" "remainingPayments" "Z" (.int c2)) (hc1 : nar .boolean c1 = c1) (hr1 : r1.isRef = true) (hr2 : r2.isRef = true) (hc2 : nar .boolean c2 = c2) :
    Met1 l Z (⟨"com/example/vestwright/vestwright/plan/DeathBenefit", "withNothingInService", "()Lcom/example/vestwright/vestwright/plan/DeathBenefit;"⟩ : MethodName) prog_61_method_3_code 1 (some (.object "com/example/vestwright/vestwright/plan/DeathBenefit")) ({ frames := 2, cells := 1, slots := 4, locals := 29 } : Room) #[(.ref a1)] h0 (Q9 Z a1 c1 r1 r2 c2 h0 n0) := by
  refine Met1.mk (plainFor_of_name (by first | (simp [plainName, overriddenIn]; done) | decide +kernel)) ?_
  intro p e s m below meth c s₁ hx hZ hby hml hown hnm hret hlk X0 e0
  have N0 := Fr.nil n0
  refine Go.cast (ef_9 m a1) ?_
  show Go p e below (FinN s (Q9 Z a1 c1 r1 r2 c2 h0 n0) ({ frames := 2, cells := 1, slots := 4, locals := 29 } : Room).cells ({ frames := 2, cells := 1, slots := 4, locals := 29 } : Room).slots) s₁ (mkF m 0 #[.val (.ref a1)] [])
  obtain ⟨T_1, h_1, X_1, e_1, E_1, A_1, D_1, -, st_1⟩ := newO X0 hx hZ hown (hw _ (List.mem_of_getElem? (i := 88) rfl)) (hw _ (List.mem_of_getElem? (i := 66) rfl)) (hw _ (List.mem_of_getElem? (i := 67) rfl)) e0 (g := (mkF m 0 #[.val (.ref a1)] [])) rfl (hb hby d9_0) (by decide) (by decide)
  obtain ⟨b_1, g_1⟩ : ∃ z, z = h0.size := ⟨_, rfl⟩
  rw [← g_1] at A_1 D_1 st_1
  have g_b_1 : n0 ≤ b_1 := Nat.le_trans Z0 (Nat.le_of_eq g_1.symm)
  have sz_b_1 : h0.size ≤ b_1 := Nat.le_trans (Keep.refl h0 []).1 (Nat.le_of_eq g_1.symm)
  have ne_a1_b_1 : a1 ≠ b_1 := Nat.ne_of_lt (Nat.lt_of_lt_of_le PF_a1_nothingInService.lt (Nat.le_of_eq g_1.symm))
  have F_nothingInService_b_1 : Fld Z h_1 b_1 "com/example/vestwright/vestwright/plan/DeathBenefit" "nothingInService" "Z" (.int (0 : Int32)) := D_1 (Or.inr (hw _ (List.mem_of_getElem? (i := 76) rfl))) (ty := .boolean) (by decide)
  have F_afterSeparation_b_1 : Fld Z h_1 b_1 "com/example/vestwright/vestwright/plan/DeathBenefit" "afterSeparation" "Lcom/example/vestwright/vestwright/plan/Benefit;" .null := D_1 (Or.inr (hw _ (List.mem_of_getElem? (i := 78) rfl))) (ty := (.object "com/example/vestwright/vestwright/plan/Benefit")) (by decide)
  have F_duringPayout_b_1 : Fld Z h_1 b_1 "com/example/vestwright/vestwright/plan/DeathBenefit" "duringPayout" "Lcom/example/vestwright/vestwright/plan/Benefit;" .null := D_1 (Or.inr (hw _ (List.mem_of_getElem? (i := 80) rfl))) (ty := (.object "com/example/vestwright/vestwright/plan/Benefit")) (by decide)
  have F_remainingPayments_b_1 : Fld Z h_1 b_1 "com/example/vestwright/vestwright/plan/DeathBenefit" "remainingPayments" "Z" (.int (0 : Int32)) := D_1 (Or.inr (hw _ (List.mem_of_getElem? (i := 82) rfl))) (ty := .boolean) (by decide)
  refine Go.to (mkF m 3 #[.val (.ref a1)] [(.ref b_1)]) st_1 ?_
  refine Go.to (mkF m 4 #[.val (.ref a1)] [(.ref b_1), (.ref b_1)]) (fun _ k => XS.dup X_1.here hx rfl (hb hby d9_3) rfl rfl k) ?_
  refine Go.to (mkF m 5 #[.val (.ref a1)] [(.int (1 : Int32)), (.ref b_1), (.ref b_1)]) (fun _ k => XS.iconst X_1.here hx rfl (hb hby d9_4) k) ?_
  refine Go.to (mkF m 6 #[.val (.ref a1)] [(.ref a1), (.int (1 : Int32)), (.ref b_1), (.ref b_1)]) (fun _ k => XS.aloadN X_1.here hx rfl (hb hby d9_5) rfl rfl k) ?_
  have f_2 : Fld Z h_1 a1 "com/example/vestwright/vestwright/plan/DeathBenefit" "afterSeparation" "Lcom/example/vestwright/vestwright/plan/Benefit;" r1 := (PF_a1_afterSeparation.ext E_1)
  obtain ⟨T_3, X_3, e_3, st_3⟩ := getF X_1 hx hZ hown (host := "") (Or.inl (hw _ (List.mem_of_getElem? (i := 77) rfl))) Via.refl e_1 f_2 (g := (mkF m 6 #[.val (.ref a1)] [(.ref a1), (.int (1 : Int32)), (.ref b_1), (.ref b_1)])) rfl rfl (hb hby d9_6)
  refine Go.to (mkF m 9 #[.val (.ref a1)] [r1, (.int (1 : Int32)), (.ref b_1), (.ref b_1)]) st_3 ?_
  refine Go.to (mkF m 10 #[.val (.ref a1)] [(.ref a1), r1, (.int (1 : Int32)), (.ref b_1), (.ref b_1)]) (fun _ k => XS.aloadN X_3.here hx rfl (hb hby d9_9) rfl rfl k) ?_
  have f_4 : Fld Z h_1 a1 "com/example/vestwright/vestwright/plan/DeathBenefit" "duringPayout" "Lcom/example/vestwright/vestwright/plan/Benefit;" r2 := (PF_a1_duringPayout.ext E_1)
  obtain ⟨T_5, X_5, e_5, st_5⟩ := getF X_3 hx hZ hown (host := "") (Or.inl (hw _ (List.mem_of_getElem? (i := 79) rfl))) Via.refl e_3 f_4 (g := (mkF m 10 #[.val (.ref a1)] [(.ref a1), r1, (.int (1 : Int32)), (.ref b_1), (.ref b_1)])) rfl rfl (hb hby d9_10)
  refine Go.to (mkF m 13 #[.val (.ref a1)] [r2, r1, (.int (1 : Int32)), (.ref b_1), (.ref b_1)]) st_5 ?_
  refine Go.to (mkF m 14 #[.val (.ref a1)] [(.ref a1), r2, r1, (.int (1 : Int32)), (.ref b_1), (.ref b_1)]) (fun _ k => XS.aloadN X_5.here hx rfl (hb hby d9_13) rfl rfl k) ?_
  have f_6 : Fld Z h_1 a1 "com/example/vestwright/vestwright/plan/DeathBenefit" "remainingPayments" "Z" (.int c2) := (PF_a1_remainingPayments.ext E_1)
  obtain ⟨T_7, X_7, e_7, st_7⟩ := getF X_5 hx hZ hown (host := "") (Or.inl (hw _ (List.mem_of_getElem? (i := 81) rfl))) Via.refl e_5 f_6 (g := (mkF m 14 #[.val (.ref a1)] [(.ref a1), r2, r1, (.int (1 : Int32)), (.ref b_1), (.ref b_1)])) rfl rfl (hb hby d9_14)
  refine Go.to (mkF m 17 #[.val (.ref a1)] [(.int c2), r2, r1, (.int (1 : Int32)), (.ref b_1), (.ref b_1)]) st_7 ?_
  have f_8 : n0 ≤ h_1.size := (Nat.le_trans Z0 E_1.1)
  refine Go.special X_7 hx hZ (y := (⟨"com/example/vestwright/vestwright/plan/DeathBenefit", "<init>", "(ZLcom/example/vestwright/vestwright/plan/Benefit;Lcom/example/vestwright/vestwright/plan/Benefit;Z)V"⟩ : MethodName)) rfl hown (hw _ (List.mem_of_getElem? (i := 71) rfl)) (hw _ (List.mem_of_getElem? (i := 72) rfl)) (hw _ (List.mem_of_getElem? (i := 73) rfl)) (by decide) e_7 (a := b_1) (argsL := [(.int (1 : Int32)), r1, r2, (.int c2)]) (rest := [(.ref b_1)]) (Met1.back (W := 1) (rm8 l Z a0 hw b_1 (1 : Int32) r1 r2 c2 (.int (0 : Int32)) .null .null (.int (0 : Int32)) h_1 n0 f_8 A_1 g_b_1 F_nothingInService_b_1 F_afterSeparation_b_1 F_duringPayout_b_1 F_remainingPayments_b_1 rfl hr1 hr2 hc2) hZ (hw _ (List.mem_of_getElem? (i := 73) rfl)) (hw _ (List.mem_of_getElem? (i := 67) rfl)) (by decide) (by decide)) (pc := 17) (Ls := #[.val (.ref a1)]) (by rw [hml]; rfl) (lenOf own_pd3 rfl) rfl (Nat.le_refl _) (hb hby d9_17) (by decide) (by decide) ?_
  intro T_9 v_9 L_9 X_9 hQ_9
  obtain ⟨rfl, Nq_9, K_9, pf_9_0, pf_9_1, pf_9_2, pf_9_3⟩ := hQ_9
  have N_9 := Fr.app N0 Nq_9
  have f_10 : Keep h0 h_1 [] := ((Keep.refl h0 []).ext E_1)
  show Go p e below (FinN s (Q9 Z a1 c1 r1 r2 c2 h0 n0) ({ frames := 2, cells := 1, slots := 4, locals := 29 } : Room).cells ({ frames := 2, cells := 1, slots := 4, locals := 29 } : Room).slots) T_9 (mkF m 20 #[.val (.ref a1)] [(.ref b_1)])
  refine Go.retA X_9 hx (t := (.object "com/example/vestwright/vestwright/plan/DeathBenefit")) hret hlk rfl rfl (hb hby d9_20) (by decide) (by decide) ?_
  have f_11 : Keep h0 T_9.heap [] := (f_10.trans K_9 (allS (Or.inr sz_b_1) all0))
  have f_12 : Exa Z T_9.heap b_1 "com/example/vestwright/vestwright/plan/DeathBenefit" := (A_1.keep K_9)
  show (Q9 Z a1 c1 r1 r2 c2 h0 n0) _ T_9.heap _
  exact ⟨b_1, rfl, N_9, f_11, f_12, pf_9_0, pf_9_1, pf_9_2, pf_9_3, sz_b_1⟩
def Q19 (Z : State) (a1 : Addr) (c1 : Int32) (r1 : Value) (r2 : Value) (c2 : Int32) (h0 : Heap) (n0 : Nat) (v : Option Value) (h : Heap) (L : List Loc) : Prop := ∃ (b : Addr), v = some (.ref b) ∧ Fr n0 L ∧ Keep h0 h [] ∧ Exa Z h b "com/example/vestwright/vestwright/plan/DeathBenefit" ∧ Fld Z h b "com/example/vestwright/vestwright/plan/DeathBenefit" "nothingInService" "Z" (.int c1) ∧ Fld Z h b "com/example/vestwright/vestwright/plan/DeathBenefit" "afterSeparation" "Lcom/example/vestwright/vestwright/plan/Benefit;" r1 ∧ Fld Z h b "com/example/vestwright/vestwright/plan/DeathBenefit" "duringPayout" "Lcom/example/vestwright/vestwright/plan/Benefit;" .null ∧ Fld Z h b "com/example/vestwright/vestwright/plan/DeathBenefit" "remainingPayments" "Z" (.int (1 : Int32)) ∧ h0.size ≤ b
theorem ef_19 (m : MethodId) (a1 : Addr) : entryFrame m #[(.ref a1)] 1 = mkF m 0 #[.val (.ref a1)] [] := by first | (simp [entryFrame, mkF, argsToLocals, Value.category]; done) | (simp [entryFrame, mkF, argsToLocals, own_cat_i, own_cat_l, own_cat_r, own_cat_n]; done) | rfl
set_option maxRecDepth 65536 in
set_option maxHeartbeats 40000000 in
theorem rm19 (l : Launch) (Z : State) (a0 : Array Value) (hw : ∀ d ∈ tables_1, d.before a0 Z = true) (a1 : Addr) (c1 : Int32) (r1 : Value) (r2 : Value) (c2 : Int32) (h0 : Heap) (n0 : Nat) (Z0 : n0 ≤ h0.size) (PF_a1_nothingInService : Fld Z h0 a1 "com/example/vestwright/vestwright/plan/DeathBenefit" "nothingInService" "Z" (.int c1)) (PF_a1_afterSeparation : Fld Z h0 a1 "com/example/vestwright/vestwright/plan/DeathBenefit" "afterSeparation" "Lcom/example/vestwright/vestwright/plan/Benefit;" r1) (PF_a1_duringPayout : Fld Z h0 a1 "com/example/vestwright/vestwright/plan/DeathBenefit" "duringPayout" "Lcom/example/vestwright/vestwright/plan/Benefit;" r2) (PF_a1_remainingPayments : Fld Z h0 a1 "com/example/vestwright/vestwright/plan/DeathBenefit" "remainingPayments" "Z" (.int c2)) (hc1 : nar .boolean c1 = c1) (hr1 : r1.isRef = true) (hr2 : r2.isRef = true) (hc2 : nar .boolean c2 = c2) :
    Met1 l Z (⟨"com/example/vestwright/vestwright/plan/DeathBenefit", "withRemainingPaymentsDuringPayout", "()Lcom/example/vestwright/vestwright/plan/DeathBenefit;"⟩ : MethodName) prog_61_method_6_code 1 (some (.object "com/example/vestwright/vestwright/plan/DeathBenefit")) ({ frames := 2, cells := 1, slots := 4, locals := 29 } : Room) #[(.ref a1)] h0 (Q19 Z a1 c1 r1 r2 c2 h0 n0) := by
  refine Met1.mk (plainFor_of_name (by first | (simp [plainName, overriddenIn]; done) | decide +kernel)) ?_
  intro p e s m below meth c s₁ hx hZ hby hml hown hnm hret hlk X0 e0
  have N0 := Fr.nil n0
  refine Go.cast (ef_19 m a1) ?_
  show Go p e below (FinN s (Q19 Z a1 c1 r1 r2 c2 h0 n0) ({ frames := 2, cells := 1, slots := 4, locals := 29 } : Room).cells ({ frames := 2, cells := 1, slots := 4, locals := 29 } : Room).slots) s₁ (mkF m 0 #[.val (.ref a1)] [])
  obtain ⟨T_1, h_1, X_1, e_1, E_1, A_1, D_1, -, st_1⟩ := newO X0 hx hZ hown (hw _ (List.mem_of_getElem? (i := 88) rfl)) (hw _ (List.mem_of_getElem? (i := 66) rfl)) (hw _ (List.mem_of_getElem? (i := 67) rfl)) e0 (g := (mkF m 0 #[.val (.ref a1)] [])) rfl (hb hby d19_0) (by decide) (by decide)
  obtain ⟨b_1, g_1⟩ : ∃ z, z = h0.size := ⟨_, rfl⟩
  rw [← g_1] at A_1 D_1 st_1
  have g_b_1 : n0 ≤ b_1 := Nat.le_trans Z0 (Nat.le_of_eq g_1.symm)
  have sz_b_1 : h0.size ≤ b_1 := Nat.le_trans (Keep.refl h0 []).1 (Nat.le_of_eq g_1.symm)
  have ne_a1_b_1 : a1 ≠ b_1 := Nat.ne_of_lt (Nat.lt_of_lt_of_le PF_a1_nothingInService.lt (Nat.le_of_eq g_1.symm))
  have F_nothingInService_b_1 : Fld Z h_1 b_1 "com/example/vestwright/vestwright/plan/DeathBenefit" "nothingInService" "Z" (.int (0 : Int32)) := D_1 (Or.inr (hw _ (List.mem_of_getElem? (i := 76) rfl))) (ty := .boolean) (by decide)
  have F_afterSeparation_b_1 : Fld Z h_1 b_1 "com/example/vestwright/vestwright/plan/DeathBenefit" "afterSeparation" "Lcom/example/vestwright/vestwright/plan/Benefit;" .null := D_1 (Or.inr (hw _ (List.mem_of_getElem? (i := 78) rfl))) (ty := (.object "com/example/vestwright/vestwright/plan/Benefit")) (by decide)
  have F_duringPayout_b_1 : Fld Z h_1 b_1 "com/example/vestwright/vestwright/plan/DeathBenefit" "duringPayout" "Lcom/example/vestwright/vestwright/plan/Benefit;" .null := D_1 (Or.inr (hw _ (List.mem_of_getElem? (i := 80) rfl))) (ty := (.object "com/example/vestwright/vestwright/plan/Benefit")) (by decide)
  have F_remainingPayments_b_1 : Fld Z h_1 b_1 "com/example/vestwright/vestwright/plan/DeathBenefit" "remainingPayments" "Z" (.int (0 : Int32)) := D_1 (Or.inr (hw _ (List.mem_of_getElem? (i := 82) rfl))) (ty := .boolean) (by decide)
  refine Go.to (mkF m 3 #[.val (.ref a1)] [(.ref b_1)]) st_1 ?_
  refine Go.to (mkF m 4 #[.val (.ref a1)] [(.ref b_1), (.ref b_1)]) (fun _ k => XS.dup X_1.here hx rfl (hb hby d19_3) rfl rfl k) ?_
  refine Go.to (mkF m 5 #[.val (.ref a1)] [(.ref a1), (.ref b_1), (.ref b_1)]) (fun _ k => XS.aloadN X_1.here hx rfl (hb hby d19_4) rfl rfl k) ?_
  have f_2 : Fld Z h_1 a1 "com/example/vestwright/vestwright/plan/DeathBenefit" "nothingInService" "Z" (.int c1) := (PF_a1_nothingInService.ext E_1)
  obtain ⟨T_3, X_3, e_3, st_3⟩ := getF X_1 hx hZ hown (host := "") (Or.inl (hw _ (List.mem_of_getElem? (i := 75) rfl))) Via.refl e_1 f_2 (g := (mkF m 5 #[.val (.ref a1)] [(.ref a1), (.ref b_1), (.ref b_1)])) rfl rfl (hb hby d19_5)
  refine Go.to (mkF m 8 #[.val (.ref a1)] [(.int c1), (.ref b_1), (.ref b_1)]) st_3 ?_
  refine Go.to (mkF m 9 #[.val (.ref a1)] [(.ref a1), (.int c1), (.ref b_1), (.ref b_1)]) (fun _ k => XS.aloadN X_3.here hx rfl (hb hby d19_8) rfl rfl k) ?_
  have f_4 : Fld Z h_1 a1 "com/example/vestwright/vestwright/plan/DeathBenefit" "afterSeparation" "Lcom/example/vestwright/vestwright/plan/Benefit;" r1 := (PF_a1_afterSeparation.ext E_1)
  obtain ⟨T_5, X_5, e_5, st_5⟩ := getF X_3 hx hZ hown (host := "") (Or.inl (hw _ (List.mem_of_getElem? (i := 77) rfl))) Via.refl e_3 f_4 (g := (mkF m 9 #[.val (.ref a1)] [(.ref a1), (.int c1), (.ref b_1), (.ref b_1)])) rfl rfl (hb hby d19_9)
  refine Go.to (mkF m 12 #[.val (.ref a1)] [r1, (.int c1), (.ref b_1), (.ref b_1)]) st_5 ?_
  refine Go.to (mkF m 13 #[.val (.ref a1)] [.null, r1, (.int c1), (.ref b_1), (.ref b_1)]) (fun _ k => XS.aconstNull X_5.here hx rfl (hb hby d19_12) k) ?_
  refine Go.to (mkF m 14 #[.val (.ref a1)] [(.int (1 : Int32)), .null, r1, (.int c1), (.ref b_1), (.ref b_1)]) (fun _ k => XS.iconst X_5.here hx rfl (hb hby d19_13) k) ?_
  have f_6 : n0 ≤ h_1.size := (Nat.le_trans Z0 E_1.1)
  refine Go.special X_5 hx hZ (y := (⟨"com/example/vestwright/vestwright/plan/DeathBenefit", "<init>", "(ZLcom/example/vestwright/vestwright/plan/Benefit;Lcom/example/vestwright/vestwright/plan/Benefit;Z)V"⟩ : MethodName)) rfl hown (hw _ (List.mem_of_getElem? (i := 71) rfl)) (hw _ (List.mem_of_getElem? (i := 72) rfl)) (hw _ (List.mem_of_getElem? (i := 73) rfl)) (by decide) e_5 (a := b_1) (argsL := [(.int c1), r1, .null, (.int (1 : Int32))]) (rest := [(.ref b_1)]) (Met1.back (W := 1) (rm8 l Z a0 hw b_1 c1 r1 .null (1 : Int32) (.int (0 : Int32)) .null .null (.int (0 : Int32)) h_1 n0 f_6 A_1 g_b_1 F_nothingInService_b_1 F_afterSeparation_b_1 F_duringPayout_b_1 F_remainingPayments_b_1 hc1 hr1 rfl rfl) hZ (hw _ (List.mem_of_getElem? (i := 73) rfl)) (hw _ (List.mem_of_getElem? (i := 67) rfl)) (by decide) (by decide)) (pc := 14) (Ls := #[.val (.ref a1)]) (by rw [hml]; rfl) (lenOf own_pd3 rfl) rfl (Nat.le_refl _) (hb hby d19_14) (by decide) (by decide) ?_
  intro T_7 v_7 L_7 X_7 hQ_7
  obtain ⟨rfl, Nq_7, K_7, pf_7_0, pf_7_1, pf_7_2, pf_7_3⟩ := hQ_7
  have N_7 := Fr.app N0 Nq_7
  have f_8 : Keep h0 h_1 [] := ((Keep.refl h0 []).ext E_1)
  show Go p e below (FinN s (Q19 Z a1 c1 r1 r2 c2 h0 n0) ({ frames := 2, cells := 1, slots := 4, locals := 29 } : Room).cells ({ frames := 2, cells := 1, slots := 4, locals := 29 } : Room).slots) T_7 (mkF m 17 #[.val (.ref a1)] [(.ref b_1)])
  refine Go.retA X_7 hx (t := (.object "com/example/vestwright/vestwright/plan/DeathBenefit")) hret hlk rfl rfl (hb hby d19_17) (by decide) (by decide) ?_
  have f_9 : Keep h0 T_7.heap [] := (f_8.trans K_7 (allS (Or.inr sz_b_1) all0))
  have f_10 : Exa Z T_7.heap b_1 "com/example/vestwright/vestwright/plan/DeathBenefit" := (A_1.keep K_7)
  show (Q19 Z a1 c1 r1 r2 c2 h0 n0) _ T_7.heap _
  exact ⟨b_1, rfl, N_7, f_9, f_10, pf_7_0, pf_7_1, pf_7_2, pf_7_3, sz_b_1⟩
def Q16 (Z : State) (a1 : Addr) (c1 : Int32) (r1 : Value) (r2 : Value) (c2 : Int32) (y : Addr) (h0 : Heap) (n0 : Nat) (v : Option Value) (h : Heap) (L : List Loc) (vm : Vm) : Prop := ∃ (b : Addr), v = some (.ref b) ∧ Fr n0 L ∧ Keep h0 h [] ∧ Exa Z h b "com/example/vestwright/vestwright/plan/DeathBenefit" ∧ Fld Z h b "com/example/vestwright/vestwright/plan/DeathBenefit" "nothingInService" "Z" (.int c1) ∧ Fld Z h b "com/example/vestwright/vestwright/plan/DeathBenefit" "afterSeparation" "Lcom/example/vestwright/vestwright/plan/Benefit;" (.ref y) ∧ Fld Z h b "com/example/vestwright/vestwright/plan/DeathBenefit" "duringPayout" "Lcom/example/vestwright/vestwright/plan/Benefit;" r2 ∧ Fld Z h b "com/example/vestwright/vestwright/plan/DeathBenefit" "remainingPayments" "Z" (.int c2) ∧ h0.size ≤ b
theorem ef_16 (m : MethodId) (a1 : Addr) (y : Addr) : entryFrame m #[(.ref a1), (.ref y)] 2 = mkF m 0 #[.val (.ref a1), .val (.ref y)] [] := by first | (simp [entryFrame, mkF, argsToLocals, Value.category]; done) | (simp [entryFrame, mkF, argsToLocals, own_cat_i, own_cat_l, own_cat_r, own_cat_n]; done) | rfl
set_option maxRecDepth 65536 in
set_option maxHeartbeats 40000000 in
theorem rm16 (l : Launch) (Z : State) (a0 : Array Value) (hw : ∀ d ∈ tables_1, d.before a0 Z = true) (a1 : Addr) (c1 : Int32) (r1 : Value) (r2 : Value) (c2 : Int32) (y : Addr) (h0 : Heap) (n0 : Nat) (Z0 : n0 ≤ h0.size) (PF_a1_nothingInService : Fld Z h0 a1 "com/example/vestwright/vestwright/plan/DeathBenefit" "nothingInService" "Z" (.int c1)) (PF_a1_afterSeparation : Fld Z h0 a1 "com/example/vestwright/vestwright/plan/DeathBenefit" "afterSeparation" "Lcom/example/vestwright/vestwright/plan/Benefit;" r1) (PF_a1_duringPayout : Fld Z h0 a1 "com/example/vestwright/vestwright/plan/DeathBenefit" "duringPayout" "Lcom/example/vestwright/vestwright/plan/Benefit;" r2) (PF_a1_remainingPayments : Fld Z h0 a1 "com/example/vestwright/vestwright/plan/DeathBenefit" "remainingPayments" "Z" (.int c2)) (hc1 : nar .boolean c1 = c1) (hr1 : r1.isRef = true) (hr2 : r2.isRef = true) (hc2 : nar .boolean c2 = c2) :
    MetW l Z (⟨"com/example/vestwright/vestwright/plan/DeathBenefit", "withAfterSeparation", "(Lcom/example/vestwright/vestwright/plan/Benefit;)Lcom/example/vestwright/vestwright/plan/DeathBenefit;"⟩ : MethodName) prog_61_method_4_code 2 (some (.object "com/example/vestwright/vestwright/plan/DeathBenefit")) ({ frames := 2, cells := 3, slots := 36, locals := 29 } : Room) #[(.ref a1), (.ref y)] h0 (fun _ => True) (Q16 Z a1 c1 r1 r2 c2 y h0 n0) := by
  refine MetW.mk (plainFor_of_name (by first | (simp [plainName, overriddenIn]; done) | decide +kernel)) ?_
  intro p e s m below meth c s₁ vm0 hx hZ hby hml hown hnm hret hlk X0 e0 hS hh hnamed hJ
  have N0 := Fr.nil n0
  refine Go.cast (ef_16 m a1 y) ?_
  show Go p e below (FinW s (Q16 Z a1 c1 r1 r2 c2 y h0 n0) ({ frames := 2, cells := 3, slots := 36, locals := 29 } : Room).cells ({ frames := 2, cells := 3, slots := 36, locals := 29 } : Room).slots) s₁ (mkF m 0 #[.val (.ref a1), .val (.ref y)] [])
  refine Go.to (mkF m 1 #[.val (.ref a1), .val (.ref y)] [(.ref y)]) (fun _ k => XS.aloadN X0.here hx rfl (hb hby d16_0) rfl rfl k) ?_
  obtain ⟨a_1, T_1, h_1, kk_1, X_1, e_1, E_1, hS_1, hk_1, hZ_1, hown_1, st_1⟩ := ldcS X0 hx hZ hown (hw _ (List.mem_of_getElem? (i := 126) rfl)) (own_wS hw) e0 hS (Nat.zero_le _) (g := (mkF m 1 #[.val (.ref a1), .val (.ref y)] [(.ref y)])) rfl (hb hby d16_1) (n := 28) (by decide) (by decide) (by decide) (by decide)
  refine Go.to (mkF m 3 #[.val (.ref a1), .val (.ref y)] [(.ref a_1), (.ref y)]) st_1 ?_
  have f_2 : n0 ≤ h_1.size := (Nat.le_trans Z0 E_1.1)
  refine Go.stat X_1 hx hZ_1 (y := (⟨"java/util/Objects", "requireNonNull", "(Ljava/lang/Object;Ljava/lang/String;)Ljava/lang/Object;"⟩ : MethodName)) hown_1 (hw _ (List.mem_of_getElem? (i := 127) rfl)) (hw _ (List.mem_of_getElem? (i := 42) rfl)) (hw _ (List.mem_of_getElem? (i := 43) rfl)) (hw _ (List.mem_of_getElem? (i := 44) rfl)) (by decide) e_1 (argsL := [(.ref y), (.ref a_1)]) (rest := []) (Met1.back (W := 0) (rm6 l Z a0 hw y a_1 h_1 n0 f_2) hZ_1 (hw _ (List.mem_of_getElem? (i := 44) rfl)) (hw _ (List.mem_of_getElem? (i := 43) rfl)) (by decide) (by decide)) (pc := 3) (Ls := #[.val (.ref a1), .val (.ref y)]) (by rw [hml]; rfl) (lenOf own_pd1 rfl) rfl (Nat.le_refl _) (hb hby d16_3) (by decide) (by decide) ?_
  intro T_3 v_3 L_3 X_3 hQ_3
  obtain ⟨rfl, Nq_3, hh_3⟩ := hQ_3
  have N_3 := Fr.app N0 Nq_3
  show Go p e below (FinW s (Q16 Z a1 c1 r1 r2 c2 y h0 n0) ({ frames := 2, cells := 3, slots := 36, locals := 29 } : Room).cells ({ frames := 2, cells := 3, slots := 36, locals := 29 } : Room).slots) T_3 (mkF m 6 #[.val (.ref a1), .val (.ref y)] [(.ref y)])
  refine Go.to (mkF m 7 #[.val (.ref a1), .val (.ref y)] []) (fun _ k => XS.pop X_3.here hx rfl (hb hby d16_6) rfl rfl k) ?_
  have f_5 : Fld Z h_1 a1 "com/example/vestwright/vestwright/plan/DeathBenefit" "nothingInService" "Z" (.int c1) := (PF_a1_nothingInService.ext E_1)
  have f_6 : Keep h0 h_1 [] := ((Keep.refl h0 []).ext E_1)
  obtain ⟨T_4, h_4, X_4, e_4, E_4, A_4, D_4, -, st_4⟩ := newO X_3 hx hZ_1 hown_1 (hw _ (List.mem_of_getElem? (i := 88) rfl)) (hw _ (List.mem_of_getElem? (i := 66) rfl)) (hw _ (List.mem_of_getElem? (i := 67) rfl)) hh_3 (g := (mkF m 7 #[.val (.ref a1), .val (.ref y)] [])) rfl (hb hby d16_7) (by decide) (by decide)
  obtain ⟨b_4, g_4⟩ : ∃ z, z = h_1.size := ⟨_, rfl⟩
  rw [← g_4] at A_4 D_4 st_4
  have g_b_4 : n0 ≤ b_4 := Nat.le_trans f_2 (Nat.le_of_eq g_4.symm)
  have sz_b_4 : h0.size ≤ b_4 := Nat.le_trans f_6.1 (Nat.le_of_eq g_4.symm)
  have ne_a1_b_4 : a1 ≠ b_4 := Nat.ne_of_lt (Nat.lt_of_lt_of_le f_5.lt (Nat.le_of_eq g_4.symm))
  have F_nothingInService_b_4 : Fld Z h_4 b_4 "com/example/vestwright/vestwright/plan/DeathBenefit" "nothingInService" "Z" (.int (0 : Int32)) := D_4 (Or.inr (hw _ (List.mem_of_getElem? (i := 76) rfl))) (ty := .boolean) (by decide)
  have F_afterSeparation_b_4 : Fld Z h_4 b_4 "com/example/vestwright/vestwright/plan/DeathBenefit" "afterSeparation" "Lcom/example/vestwright/vestwright/plan/Benefit;" .null := D_4 (Or.inr (hw _ (List.mem_of_getElem? (i := 78) rfl))) (ty := (.object "com/example/vestwright/vestwright/plan/Benefit")) (by decide)
  have F_duringPayout_b_4 : Fld Z h_4 b_4 "com/example/vestwright/vestwright/plan/DeathBenefit" "duringPayout" "Lcom/example/vestwright/vestwright/plan/Benefit;" .null := D_4 (Or.inr (hw _ (List.mem_of_getElem? (i := 80) rfl))) (ty := (.object "com/example/vestwright/vestwright/plan/Benefit")) (by decide)
  have F_remainingPayments_b_4 : Fld Z h_4 b_4 "com/example/vestwright/vestwright/plan/DeathBenefit" "remainingPayments" "Z" (.int (0 : Int32)) := D_4 (Or.inr (hw _ (List.mem_of_getElem? (i := 82) rfl))) (ty := .boolean) (by decide)
  refine Go.to (mkF m 10 #[.val (.ref a1), .val (.ref y)] [(.ref b_4)]) st_4 ?_
  refine Go.to (mkF m 11 #[.val (.ref a1), .val (.ref y)] [(.ref b_4), (.ref b_4)]) (fun _ k => XS.dup X_4.here hx rfl (hb hby d16_10) rfl rfl k) ?_
  refine Go.to (mkF m 12 #[.val (.ref a1), .val (.ref y)] [(.ref a1), (.ref b_4), (.ref b_4)]) (fun _ k => XS.aloadN X_4.here hx rfl (hb hby d16_11) rfl rfl k) ?_
  have f_7 : Fld Z h_4 a1 "com/example/vestwright/vestwright/plan/DeathBenefit" "nothingInService" "Z" (.int c1) := (f_5.ext E_4)
  obtain ⟨T_8, X_8, e_8, st_8⟩ := getF X_4 hx hZ_1 hown_1 (host := "") (Or.inl (hw _ (List.mem_of_getElem? (i := 75) rfl))) Via.refl e_4 f_7 (g := (mkF m 12 #[.val (.ref a1), .val (.ref y)] [(.ref a1), (.ref b_4), (.ref b_4)])) rfl rfl (hb hby d16_12)
  refine Go.to (mkF m 15 #[.val (.ref a1), .val (.ref y)] [(.int c1), (.ref b_4), (.ref b_4)]) st_8 ?_
  refine Go.to (mkF m 16 #[.val (.ref a1), .val (.ref y)] [(.ref y), (.int c1), (.ref b_4), (.ref b_4)]) (fun _ k => XS.aloadN X_8.here hx rfl (hb hby d16_15) rfl rfl k) ?_
  refine Go.to (mkF m 17 #[.val (.ref a1), .val (.ref y)] [(.ref a1), (.ref y), (.int c1), (.ref b_4), (.ref b_4)]) (fun _ k => XS.aloadN X_8.here hx rfl (hb hby d16_16) rfl rfl k) ?_
  have f_9 : Fld Z h_4 a1 "com/example/vestwright/vestwright/plan/DeathBenefit" "duringPayout" "Lcom/example/vestwright/vestwright/plan/Benefit;" r2 := ((PF_a1_duringPayout.ext E_1).ext E_4)
  obtain ⟨T_10, X_10, e_10, st_10⟩ := getF X_8 hx hZ_1 hown_1 (host := "") (Or.inl (hw _ (List.mem_of_getElem? (i := 79) rfl))) Via.refl e_8 f_9 (g := (mkF m 17 #[.val (.ref a1), .val (.ref y)] [(.ref a1), (.ref y), (.int c1), (.ref b_4), (.ref b_4)])) rfl rfl (hb hby d16_17)
  refine Go.to (mkF m 20 #[.val (.ref a1), .val (.ref y)] [r2, (.ref y), (.int c1), (.ref b_4), (.ref b_4)]) st_10 ?_
  refine Go.to (mkF m 21 #[.val (.ref a1), .val (.ref y)] [(.ref a1), r2, (.ref y), (.int c1), (.ref b_4), (.ref b_4)]) (fun _ k => XS.aloadN X_10.here hx rfl (hb hby d16_20) rfl rfl k) ?_
  have f_11 : Fld Z h_4 a1 "com/example/vestwright/vestwright/plan/DeathBenefit" "remainingPayments" "Z" (.int c2) := ((PF_a1_remainingPayments.ext E_1).ext E_4)
  obtain ⟨T_12, X_12, e_12, st_12⟩ := getF X_10 hx hZ_1 hown_1 (host := "") (Or.inl (hw _ (List.mem_of_getElem? (i := 81) rfl))) Via.refl e_10 f_11 (g := (mkF m 21 #[.val (.ref a1), .val (.ref y)] [(.ref a1), r2, (.ref y), (.int c1), (.ref b_4), (.ref b_4)])) rfl rfl (hb hby d16_21)
  refine Go.to (mkF m 24 #[.val (.ref a1), .val (.ref y)] [(.int c2), r2, (.ref y), (.int c1), (.ref b_4), (.ref b_4)]) st_12 ?_
  have f_13 : n0 ≤ h_4.size := (Nat.le_trans f_2 E_4.1)
  refine Go.special X_12 hx hZ_1 (y := (⟨"com/example/vestwright/vestwright/plan/DeathBenefit", "<init>", "(ZLcom/example/vestwright/vestwright/plan/Benefit;Lcom/example/vestwright/vestwright/plan/Benefit;Z)V"⟩ : MethodName)) rfl hown_1 (hw _ (List.mem_of_getElem? (i := 71) rfl)) (hw _ (List.mem_of_getElem? (i := 72) rfl)) (hw _ (List.mem_of_getElem? (i := 73) rfl)) (by decide) e_12 (a := b_4) (argsL := [(.int c1), (.ref y), r2, (.int c2)]) (rest := [(.ref b_4)]) (Met1.back (W := 1) (rm8 l Z a0 hw b_4 c1 (.ref y) r2 c2 (.int (0 : Int32)) .null .null (.int (0 : Int32)) h_4 n0 f_13 A_4 g_b_4 F_nothingInService_b_4 F_afterSeparation_b_4 F_duringPayout_b_4 F_remainingPayments_b_4 hc1 rfl hr2 hc2) hZ_1 (hw _ (List.mem_of_getElem? (i := 73) rfl)) (hw _ (List.mem_of_getElem? (i := 67) rfl)) (by decide) (by decide)) (pc := 24) (Ls := #[.val (.ref a1), .val (.ref y)]) (by rw [hml]; rfl) (lenOf own_pd3 rfl) rfl (Nat.le_refl _) (hb hby d16_24) (by decide) (by decide) ?_
  intro T_14 v_14 L_14 X_14 hQ_14
  obtain ⟨rfl, Nq_14, K_14, pf_14_0, pf_14_1, pf_14_2, pf_14_3⟩ := hQ_14
  have N_14 := Fr.app N_3 Nq_14
  have f_15 : Keep h0 h_4 [] := (f_6.ext E_4)
  show Go p e below (FinW s (Q16 Z a1 c1 r1 r2 c2 y h0 n0) ({ frames := 2, cells := 3, slots := 36, locals := 29 } : Room).cells ({ frames := 2, cells := 3, slots := 36, locals := 29 } : Room).slots) T_14 (mkF m 27 #[.val (.ref a1), .val (.ref y)] [(.ref b_4)])
  have f_16 : kk_1 ≤ T_14.heap.size := (Nat.le_trans (Nat.le_trans hk_1 E_4.1) K_14.1)
  refine Go.retAW X_14 hx (t := (.object "com/example/vestwright/vestwright/plan/DeathBenefit")) hret hlk rfl rfl (hb hby d16_27) (by decide) (by decide) hS_1 f_16 ?_
  have f_17 : Keep h0 T_14.heap [] := (f_15.trans K_14 (allS (Or.inr sz_b_4) all0))
  have f_18 : Exa Z T_14.heap b_4 "com/example/vestwright/vestwright/plan/DeathBenefit" := (A_4.keep K_14)
  show (Q16 Z a1 c1 r1 r2 c2 y h0 n0) _ T_14.heap _ _
  exact ⟨b_4, rfl, N_14, f_17, f_18, pf_14_0, pf_14_1, pf_14_2, pf_14_3, sz_b_4⟩
def Q17 (Z : State) (a1 : Addr) (c1 : Int32) (r1 : Value) (r2 : Value) (c2 : Int32) (y : Addr) (h0 : Heap) (n0 : Nat) (v : Option Value) (h : Heap) (L : List Loc) (vm : Vm) : Prop := ∃ (b : Addr), v = some (.ref b) ∧ Fr n0 L ∧ Keep h0 h [] ∧ Exa Z h b "com/example/vestwright/vestwright/plan/DeathBenefit" ∧ Fld Z h b "com/example/vestwright/vestwright/plan/DeathBenefit" "nothingInService" "Z" (.int c1) ∧ Fld Z h b "com/example/vestwright/vestwright/plan/DeathBenefit" "afterSeparation" "Lcom/example/vestwright/vestwright/plan/Benefit;" r1 ∧ Fld Z h b "com/example/vestwright/vestwright/plan/DeathBenefit" "duringPayout" "Lcom/example/vestwright/vestwright/plan/Benefit;" (.ref y) ∧ Fld Z h b "com/example/vestwright/vestwright/plan/DeathBenefit" "remainingPayments" "Z" (.int (0 : Int32)) ∧ h0.size ≤ b
theorem ef_17 (m : MethodId) (a1 : Addr) (y : Addr) : entryFrame m #[(.ref a1), (.ref y)] 2 = mkF m 0 #[.val (.ref a1), .val (.ref y)] [] := by first | (simp [entryFrame, mkF, argsToLocals, Value.category]; done) | (simp [entryFrame, mkF, argsToLocals, own_cat_i, own_cat_l, own_cat_r, own_cat_n]; done) | rfl
set_option maxRecDepth 65536 in
set_option maxHeartbeats 40000000 in
theorem rm17 (l : Launch) (Z : State) (a0 : Array Value) (hw : ∀ d ∈ tables_1, d.before a0 Z = true) (a1 : Addr) (c1 : Int32) (r1 : Value) (r2 : Value) (c2 : Int32) (y : Addr) (h0 : Heap) (n0 : Nat) (Z0 : n0 ≤ h0.size) (PF_a1_nothingInService : Fld Z h0 a1 "com/example/vestwright/vestwright/plan/DeathBenefit" "nothingInService" "Z" (.int c1)) (PF_a1_afterSeparation : Fld Z h0 a1 "com/example/vestwright/vestwright/plan/DeathBenefit" "afterSeparation" "Lcom/example/vestwright/vestwright/plan/Benefit;" r1) (PF_a1_duringPayout : Fld Z h0 a1 "com/example/vestwright/vestwright/plan/DeathBenefit" "duringPayout" "Lcom/example/vestwright/vestwright/plan/Benefit;" r2) (PF_a1_remainingPayments : Fld Z h0 a1 "com/example/vestwright/vestwright/plan/DeathBenefit" "remainingPayments" "Z" (.int c2)) (hc1 : nar .boolean c1 = c1) (hr1 : r1.isRef = true) (hr2 : r2.isRef = true) (hc2 : nar .boolean c2 = c2) :
    MetW l Z (⟨"com/example/vestwright/vestwright/plan/DeathBenefit", "withDuringPayout", "(Lcom/example/vestwright/vestwright/plan/Benefit;)Lcom/example/vestwright/vestwright/plan/DeathBenefit;"⟩ : MethodName) prog_61_method_5_code 2 (some (.object "com/example/vestwright/vestwright/plan/DeathBenefit")) ({ frames := 2, cells := 3, slots := 36, locals := 29 } : Room) #[(.ref a1), (.ref y)] h0 (fun _ => True) (Q17 Z a1 c1 r1 r2 c2 y h0 n0) := by
  refine MetW.mk (plainFor_of_name (by first | (simp [plainName, overriddenIn]; done) | decide +kernel)) ?_
  intro p e s m below meth c s₁ vm0 hx hZ hby hml hown hnm hret hlk X0 e0 hS hh hnamed hJ
  have N0 := Fr.nil n0
  refine Go.cast (ef_17 m a1 y) ?_
  show Go p e below (FinW s (Q17 Z a1 c1 r1 r2 c2 y h0 n0) ({ frames := 2, cells := 3, slots := 36, locals := 29 } : Room).cells ({ frames := 2, cells := 3, slots := 36, locals := 29 } : Room).slots) s₁ (mkF m 0 #[.val (.ref a1), .val (.ref y)] [])
  refine Go.to (mkF m 1 #[.val (.ref a1), .val (.ref y)] [(.ref y)]) (fun _ k => XS.aloadN X0.here hx rfl (hb hby d17_0) rfl rfl k) ?_
  obtain ⟨a_1, T_1, h_1, kk_1, X_1, e_1, E_1, hS_1, hk_1, hZ_1, hown_1, st_1⟩ := ldcS X0 hx hZ hown (hw _ (List.mem_of_getElem? (i := 126) rfl)) (own_wS hw) e0 hS (Nat.zero_le _) (g := (mkF m 1 #[.val (.ref a1), .val (.ref y)] [(.ref y)])) rfl (hb hby d17_1) (n := 28) (by decide) (by decide) (by decide) (by decide)
  refine Go.to (mkF m 3 #[.val (.ref a1), .val (.ref y)] [(.ref a_1), (.ref y)]) st_1 ?_
  have f_2 : n0 ≤ h_1.size := (Nat.le_trans Z0 E_1.1)
  refine Go.stat X_1 hx hZ_1 (y := (⟨"java/util/Objects", "requireNonNull", "(Ljava/lang/Object;Ljava/lang/String;)Ljava/lang/Object;"⟩ : MethodName)) hown_1 (hw _ (List.mem_of_getElem? (i := 127) rfl)) (hw _ (List.mem_of_getElem? (i := 42) rfl)) (hw _ (List.mem_of_getElem? (i := 43) rfl)) (hw _ (List.mem_of_getElem? (i := 44) rfl)) (by decide) e_1 (argsL := [(.ref y), (.ref a_1)]) (rest := []) (Met1.back (W := 0) (rm6 l Z a0 hw y a_1 h_1 n0 f_2) hZ_1 (hw _ (List.mem_of_getElem? (i := 44) rfl)) (hw _ (List.mem_of_getElem? (i := 43) rfl)) (by decide) (by decide)) (pc := 3) (Ls := #[.val (.ref a1), .val (.ref y)]) (by rw [hml]; rfl) (lenOf own_pd1 rfl) rfl (Nat.le_refl _) (hb hby d17_3) (by decide) (by decide) ?_
  intro T_3 v_3 L_3 X_3 hQ_3
  obtain ⟨rfl, Nq_3, hh_3⟩ := hQ_3
  have N_3 := Fr.app N0 Nq_3
  show Go p e below (FinW s (Q17 Z a1 c1 r1 r2 c2 y h0 n0) ({ frames := 2, cells := 3, slots := 36, locals := 29 } : Room).cells ({ frames := 2, cells := 3, slots := 36, locals := 29 } : Room).slots) T_3 (mkF m 6 #[.val (.ref a1), .val (.ref y)] [(.ref y)])
  refine Go.to (mkF m 7 #[.val (.ref a1), .val (.ref y)] []) (fun _ k => XS.pop X_3.here hx rfl (hb hby d17_6) rfl rfl k) ?_
  have f_5 : Fld Z h_1 a1 "com/example/vestwright/vestwright/plan/DeathBenefit" "nothingInService" "Z" (.int c1) := (PF_a1_nothingInService.ext E_1)
  have f_6 : Keep h0 h_1 [] := ((Keep.refl h0 []).ext E_1)
  obtain ⟨T_4, h_4, X_4, e_4, E_4, A_4, D_4, -, st_4⟩ := newO X_3 hx hZ_1 hown_1 (hw _ (List.mem_of_getElem? (i := 88) rfl)) (hw _ (List.mem_of_getElem? (i := 66) rfl)) (hw _ (List.mem_of_getElem? (i := 67) rfl)) hh_3 (g := (mkF m 7 #[.val (.ref a1), .val (.ref y)] [])) rfl (hb hby d17_7) (by decide) (by decide)
  obtain ⟨b_4, g_4⟩ : ∃ z, z = h_1.size := ⟨_, rfl⟩
  rw [← g_4] at A_4 D_4 st_4
  have g_b_4 : n0 ≤ b_4 := Nat.le_trans f_2 (Nat.le_of_eq g_4.symm)
  have sz_b_4 : h0.size ≤ b_4 := Nat.le_trans f_6.1 (Nat.le_of_eq g_4.symm)
  have ne_a1_b_4 : a1 ≠ b_4 := Nat.ne_of_lt (Nat.lt_of_lt_of_le f_5.lt (Nat.le_of_eq g_4.symm))
  have F_nothingInService_b_4 : Fld Z h_4 b_4 "com/example/vestwright/vestwright/plan/DeathBenefit" "nothingInService" "Z" (.int (0 : Int32)) := D_4 (Or.inr (hw _ (List.mem_of_getElem? (i := 76) rfl))) (ty := .boolean) (by decide)
  have F_afterSeparation_b_4 : Fld Z h_4 b_4 "com/example/vestwright/vestwright/plan/DeathBenefit" "afterSeparation" "Lcom/example/vestwright/vestwright/plan/Benefit;" .null := D_4 (Or.inr (hw _ (List.mem_of_getElem? (i := 78) rfl))) (ty := (.object "com/example/vestwright/vestwright/plan/Benefit")) (by decide)
  have F_duringPayout_b_4 : Fld Z h_4 b_4 "com/example/vestwright/vestwright/plan/DeathBenefit" "duringPayout" "Lcom/example/vestwright/vestwright/plan/Benefit;" .null := D_4 (Or.inr (hw _ (List.mem_of_getElem? (i := 80) rfl))) (ty := (.object "com/example/vestwright/vestwright/plan/Benefit")) (by decide)
  have F_remainingPayments_b_4 : Fld Z h_4 b_4 "com/example/vestwright/vestwright/plan/DeathBenefit" "remainingPayments" "Z" (.int (0 : Int32)) := D_4 (Or.inr (hw _ (List.mem_of_getElem? (i := 82) rfl))) (ty := .boolean) (by decide)
  refine Go.to (mkF m 10 #[.val (.ref a1), .val (.ref y)] [(.ref b_4)]) st_4 ?_
  refine Go.to (mkF m 11 #[.val (.ref a1), .val (.ref y)] [(.ref b_4), (.ref b_4)]) (fun _ k => XS.dup X_4.here hx rfl (hb hby d17_10) rfl rfl k) ?_
  refine Go.to (mkF m 12 #[.val (.ref a1), .val (.ref y)] [(.ref a1), (.ref b_4), (.ref b_4)]) (fun _ k => XS.aloadN X_4.here hx rfl (hb hby d17_11) rfl rfl k) ?_
  have f_7 : Fld Z h_4 a1 "com/example/vestwright/vestwright/plan/DeathBenefit" "nothingInService" "Z" (.int c1) := (f_5.ext E_4)
  obtain ⟨T_8, X_8, e_8, st_8⟩ := getF X_4 hx hZ_1 hown_1 (host := "") (Or.inl (hw _ (List.mem_of_getElem? (i := 75) rfl))) Via.refl e_4 f_7 (g := (mkF m 12 #[.val (.ref a1), .val (.ref y)] [(.ref a1), (.ref b_4), (.ref b_4)])) rfl rfl (hb hby d17_12)
  refine Go.to (mkF m 15 #[.val (.ref a1), .val (.ref y)] [(.int c1), (.ref b_4), (.ref b_4)]) st_8 ?_
  refine Go.to (mkF m 16 #[.val (.ref a1), .val (.ref y)] [(.ref a1), (.int c1), (.ref b_4), (.ref b_4)]) (fun _ k => XS.aloadN X_8.here hx rfl (hb hby d17_15) rfl rfl k) ?_
  have f_9 : Fld Z h_4 a1 "com/example/vestwright/vestwright/plan/DeathBenefit" "afterSeparation" "Lcom/example/vestwright/vestwright/plan/Benefit;" r1 := ((PF_a1_afterSeparation.ext E_1).ext E_4)
  obtain ⟨T_10, X_10, e_10, st_10⟩ := getF X_8 hx hZ_1 hown_1 (host := "") (Or.inl (hw _ (List.mem_of_getElem? (i := 77) rfl))) Via.refl e_8 f_9 (g := (mkF m 16 #[.val (.ref a1), .val (.ref y)] [(.ref a1), (.int c1), (.ref b_4), (.ref b_4)])) rfl rfl (hb hby d17_16)
  refine Go.to (mkF m 19 #[.val (.ref a1), .val (.ref y)] [r1, (.int c1), (.ref b_4), (.ref b_4)]) st_10 ?_
  refine Go.to (mkF m 20 #[.val (.ref a1), .val (.ref y)] [(.ref y), r1, (.int c1), (.ref b_4), (.ref b_4)]) (fun _ k => XS.aloadN X_10.here hx rfl (hb hby d17_19) rfl rfl k) ?_
  refine Go.to (mkF m 21 #[.val (.ref a1), .val (.ref y)] [(.int (0 : Int32)), (.ref y), r1, (.int c1), (.ref b_4), (.ref b_4)]) (fun _ k => XS.iconst X_10.here hx rfl (hb hby d17_20) k) ?_
  have f_11 : n0 ≤ h_4.size := (Nat.le_trans f_2 E_4.1)
  refine Go.special X_10 hx hZ_1 (y := (⟨"com/example/vestwright/vestwright/plan/DeathBenefit", "<init>", "(ZLcom/example/vestwright/vestwright/plan/Benefit;Lcom/example/vestwright/vestwright/plan/Benefit;Z)V"⟩ : MethodName)) rfl hown_1 (hw _ (List.mem_of_getElem? (i := 71) rfl)) (hw _ (List.mem_of_getElem? (i := 72) rfl)) (hw _ (List.mem_of_getElem? (i := 73) rfl)) (by decide) e_10 (a := b_4) (argsL := [(.int c1), r1, (.ref y), (.int (0 : Int32))]) (rest := [(.ref b_4)]) (Met1.back (W := 1) (rm8 l Z a0 hw b_4 c1 r1 (.ref y) (0 : Int32) (.int (0 : Int32)) .null .null (.int (0 : Int32)) h_4 n0 f_11 A_4 g_b_4 F_nothingInService_b_4 F_afterSeparation_b_4 F_duringPayout_b_4 F_remainingPayments_b_4 hc1 hr1 rfl rfl) hZ_1 (hw _ (List.mem_of_getElem? (i := 73) rfl)) (hw _ (List.mem_of_getElem? (i := 67) rfl)) (by decide) (by decide)) (pc := 21) (Ls := #[.val (.ref a1), .val (.ref y)]) (by rw [hml]; rfl) (lenOf own_pd3 rfl) rfl (Nat.le_refl _) (hb hby d17_21) (by decide) (by decide) ?_
  intro T_12 v_12 L_12 X_12 hQ_12
  obtain ⟨rfl, Nq_12, K_12, pf_12_0, pf_12_1, pf_12_2, pf_12_3⟩ := hQ_12
  have N_12 := Fr.app N_3 Nq_12
  have f_13 : Keep h0 h_4 [] := (f_6.ext E_4)
  show Go p e below (FinW s (Q17 Z a1 c1 r1 r2 c2 y h0 n0) ({ frames := 2, cells := 3, slots := 36, locals := 29 } : Room).cells ({ frames := 2, cells := 3, slots := 36, locals := 29 } : Room).slots) T_12 (mkF m 24 #[.val (.ref a1), .val (.ref y)] [(.ref b_4)])
  have f_14 : kk_1 ≤ T_12.heap.size := (Nat.le_trans (Nat.le_trans hk_1 E_4.1) K_12.1)
  refine Go.retAW X_12 hx (t := (.object "com/example/vestwright/vestwright/plan/DeathBenefit")) hret hlk rfl rfl (hb hby d17_24) (by decide) (by decide) hS_1 f_14 ?_
  have f_15 : Keep h0 T_12.heap [] := (f_13.trans K_12 (allS (Or.inr sz_b_4) all0))
  have f_16 : Exa Z T_12.heap b_4 "com/example/vestwright/vestwright/plan/DeathBenefit" := (A_4.keep K_12)
  show (Q17 Z a1 c1 r1 r2 c2 y h0 n0) _ T_12.heap _ _
  exact ⟨b_4, rfl, N_12, f_15, f_16, pf_12_0, pf_12_1, pf_12_2, pf_12_3, sz_b_4⟩
def Q10 (Z : State) (a1 : Addr) (c1 : Int32) (h0 : Heap) (n0 : Nat) (v : Option Value) (h : Heap) (L : List Loc) : Prop := v = some (.int c1) ∧ Fr n0 L ∧ h = h0
theorem ef_10 (m : MethodId) (a1 : Addr) : entryFrame m #[(.ref a1)] 1 = mkF m 0 #[.val (.ref a1)] [] := by first | (simp [entryFrame, mkF, argsToLocals, Value.category]; done) | (simp [entryFrame, mkF, argsToLocals, own_cat_i, own_cat_l, own_cat_r, own_cat_n]; done) | rfl
set_option maxRecDepth 65536 in
set_option maxHeartbeats 40000000 in
theorem rm10 (l : Launch) (Z : State) (a0 : Array Value) (hw : ∀ d ∈ tables_1, d.before a0 Z = true) (a1 : Addr) (c1 : Int32) (h0 : Heap) (n0 : Nat) (Z0 : n0 ≤ h0.size) (PF_a1_nothingInService : Fld Z h0 a1 "com/example/vestwright/vestwright/plan/DeathBenefit" "nothingInService" "Z" (.int c1)) (hc1 : nar .boolean c1 = c1) :
    Met1 l Z (⟨"com/example/vestwright/vestwright/plan/DeathBenefit", "paysNothingInService", "()Z"⟩ : MethodName) prog_61_method_7_code 1 (some .boolean) ({ frames := 0, cells := 0, slots := 0, locals := 0 } : Room) #[(.ref a1)] h0 (Q10 Z a1 c1 h0 n0) := by
  refine Met1.mk (plainFor_of_name (by first | (simp [plainName, overriddenIn]; done) | decide +kernel)) ?_
  intro p e s m below meth c s₁ hx hZ hby hml hown hnm hret hlk X0 e0
  have N0 := Fr.nil n0
  refine Go.cast (ef_10 m a1) ?_
  show Go p e below (FinN s (Q10 Z a1 c1 h0 n0) ({ frames := 0, cells := 0, slots := 0, locals := 0 } : Room).cells ({ frames := 0, cells := 0, slots := 0, locals := 0 } : Room).slots) s₁ (mkF m 0 #[.val (.ref a1)] [])
  refine Go.to (mkF m 1 #[.val (.ref a1)] [(.ref a1)]) (fun _ k => XS.aloadN X0.here hx rfl (hb hby d10_0) rfl rfl k) ?_
  obtain ⟨T_1, X_1, e_1, st_1⟩ := getF X0 hx hZ hown (host := "") (Or.inl (hw _ (List.mem_of_getElem? (i := 75) rfl))) Via.refl e0 PF_a1_nothingInService (g := (mkF m 1 #[.val (.ref a1)] [(.ref a1)])) rfl rfl (hb hby d10_1)
  refine Go.to (mkF m 4 #[.val (.ref a1)] [(.int c1)]) st_1 ?_
  refine Go.retN X_1 hx (t := .boolean) hret hlk (by simp) (hb hby d10_4) (by decide) (by decide) (z' := c1) hc1 ?_
  show (Q10 Z a1 c1 h0 n0) _ T_1.heap _
  rw [e_1]
  exact ⟨rfl, N0, rfl⟩
def Q15 (Z : State) (a1 : Addr) (c2 : Int32) (h0 : Heap) (n0 : Nat) (v : Option Value) (h : Heap) (L : List Loc) : Prop := v = some (.int c2) ∧ Fr n0 L ∧ h = h0
theorem ef_15 (m : MethodId) (a1 : Addr) : entryFrame m #[(.ref a1)] 1 = mkF m 0 #[.val (.ref a1)] [] := by first | (simp [entryFrame, mkF, argsToLocals, Value.category]; done) | (simp [entryFrame, mkF, argsToLocals, own_cat_i, own_cat_l, own_cat_r, own_cat_n]; done) | rfl
set_option maxRecDepth 65536 in
set_option maxHeartbeats 40000000 in
theorem rm15 (l : Launch) (Z : State) (a0 : Array Value) (hw : ∀ d ∈ tables_1, d.before a0 Z = true) (a1 : Addr) (c2 : Int32) (h0 : Heap) (n0 : Nat) (Z0 : n0 ≤ h0.size) (PF_a1_remainingPayments : Fld Z h0 a1 "com/example/vestwright/vestwright/plan/DeathBenefit" "remainingPayments" "Z" (.int c2)) (hc2 : nar .boolean c2 = c2) :
    Met1 l Z (⟨"com/example/vestwright/vestwright/plan/DeathBenefit", "paysRemainingPaymentsDuringPayout", "()Z"⟩ : MethodName) prog_61_method_10_code 1 (some .boolean) ({ frames := 0, cells := 0, slots := 0, locals := 0 } : Room) #[(.ref a1)] h0 (Q15 Z a1 c2 h0 n0) := by
  refine Met1.mk (plainFor_of_name (by first | (simp [plainName, overriddenIn]; done) | decide +kernel)) ?_
  intro p e s m below meth c s₁ hx hZ hby hml hown hnm hret hlk X0 e0
  have N0 := Fr.nil n0
  refine Go.cast (ef_15 m a1) ?_
  show Go p e below (FinN s (Q15 Z a1 c2 h0 n0) ({ frames := 0, cells := 0, slots := 0, locals := 0 } : Room).cells ({ frames := 0, cells := 0, slots := 0, locals := 0 } : Room).slots) s₁ (mkF m 0 #[.val (.ref a1)] [])
  refine Go.to (mkF m 1 #[.val (.ref a1)] [(.ref a1)]) (fun _ k => XS.aloadN X0.here hx rfl (hb hby d15_0) rfl rfl k) ?_
  obtain ⟨T_1, X_1, e_1, st_1⟩ := getF X0 hx hZ hown (host := "") (Or.inl (hw _ (List.mem_of_getElem? (i := 81) rfl))) Via.refl e0 PF_a1_remainingPayments (g := (mkF m 1 #[.val (.ref a1)] [(.ref a1)])) rfl rfl (hb hby d15_1)
  refine Go.to (mkF m 4 #[.val (.ref a1)] [(.int c2)]) st_1 ?_
  refine Go.retN X_1 hx (t := .boolean) hret hlk (by simp) (hb hby d15_4) (by decide) (by decide) (z' := c2) hc2 ?_
  show (Q15 Z a1 c2 h0 n0) _ T_1.heap _
  rw [e_1]
  exact ⟨rfl, N0, rfl⟩
def Q18 (Z : State) (a1 : Addr) (a2 : Addr) (u : Value) (h0 : Heap) (n0 : Nat) (v : Option Value) (h : Heap) (L : List Loc) : Prop := v = none ∧ Fr n0 L ∧ Keep h0 h [a1] ∧ Fld Z h a1 "java/util/Optional" "value" "Ljava/lang/Object;" (.ref a2)
theorem ef_18 (m : MethodId) (a1 : Addr) (a2 : Addr) : entryFrame m #[(.ref a1), (.ref a2)] 2 = mkF m 0 #[.val (.ref a1), .val (.ref a2)] [] := by first | (simp [entryFrame, mkF, argsToLocals, Value.category]; done) | (simp [entryFrame, mkF, argsToLocals, own_cat_i, own_cat_l, own_cat_r, own_cat_n]; done) | rfl
set_option maxRecDepth 65536 in
set_option maxHeartbeats 40000000 in
theorem rm18 (l : Launch) (Z : State) (a0 : Array Value) (hw : ∀ d ∈ tables_1, d.before a0 Z = true) (a1 : Addr) (a2 : Addr) (u : Value) (h0 : Heap) (n0 : Nat) (Z0 : n0 ≤ h0.size) (PE_a1 : Exa Z h0 a1 "java/util/Optional") (Pg_a1 : n0 ≤ a1) (PF_a1_value : Fld Z h0 a1 "java/util/Optional" "value" "Ljava/lang/Object;" u) :
    Met1 l Z (⟨"java/util/Optional", "<init>", "(Ljava/lang/Object;)V"⟩ : MethodName) jdk_32_method_2_code 2 none ({ frames := 1, cells := 0, slots := 0, locals := 12 } : Room) #[(.ref a1), (.ref a2)] h0 (Q18 Z a1 a2 u h0 n0) := by
  refine Met1.mk (plainFor_of_name (by first | (simp [plainName, overriddenIn]; done) | decide +kernel)) ?_
  intro p e s m below meth c s₁ hx hZ hby hml hown hnm hret hlk X0 e0
  have N0 := Fr.nil n0
  refine Go.cast (ef_18 m a1 a2) ?_
  show Go p e below (FinN s (Q18 Z a1 a2 u h0 n0) ({ frames := 1, cells := 0, slots := 0, locals := 12 } : Room).cells ({ frames := 1, cells := 0, slots := 0, locals := 12 } : Room).slots) s₁ (mkF m 0 #[.val (.ref a1), .val (.ref a2)] [])
  refine Go.to (mkF m 1 #[.val (.ref a1), .val (.ref a2)] [(.ref a1)]) (fun _ k => XS.aloadN X0.here hx rfl (hb hby d18_0) rfl rfl k) ?_
  obtain ⟨T_1, X_1, e_1, st_1⟩ := initO X0 hx hZ hown (hw _ (List.mem_of_getElem? (i := 139) rfl)) (hw _ (List.mem_of_getElem? (i := 7) rfl)) (hw _ (List.mem_of_getElem? (i := 8) rfl)) e0 (g := (mkF m 1 #[.val (.ref a1), .val (.ref a2)] [(.ref a1)])) rfl (by rw [hml]; rfl) rfl (hb hby d18_1) (by decide) (W := 0) (by show 2 * 0 + _ ≤ _; exact Nat.le_of_eq rfl) (by decide)
  refine Go.to (mkF m 4 #[.val (.ref a1), .val (.ref a2)] []) st_1 ?_
  refine Go.to (mkF m 5 #[.val (.ref a1), .val (.ref a2)] [(.ref a1)]) (fun _ k => XS.aloadN X_1.here hx rfl (hb hby d18_4) rfl rfl k) ?_
  refine Go.to (mkF m 6 #[.val (.ref a1), .val (.ref a2)] [(.ref a2), (.ref a1)]) (fun _ k => XS.aloadN X_1.here hx rfl (hb hby d18_5) rfl rfl k) ?_
  obtain ⟨T_2, h_2, X_2, e_2, W_2, st_2⟩ := putF X_1 hx hZ hown (host := "") (Or.inl (hw _ (List.mem_of_getElem? (i := 109) rfl))) Via.refl e_1 PF_a1_value PE_a1 (Or.inr ⟨(hw _ (List.mem_of_getElem? (i := 110) rfl)), rfl, hnm⟩) (hw _ (List.mem_of_getElem? (i := 134) rfl)) (ty := (.object "java/lang/Object")) (by decide) rfl rfl (g := (mkF m 6 #[.val (.ref a1), .val (.ref a2)] [(.ref a2), (.ref a1)])) rfl rfl (hb hby d18_6)
  have N_2 := Fr.snoc X_2 N0 Pg_a1
  have Fw_2 : Fld Z h_2 a1 "java/util/Optional" "value" "Ljava/lang/Object;" (.ref a2) := PF_a1_value.same W_2
  refine Go.to (mkF m 9 #[.val (.ref a1), .val (.ref a2)] []) st_2 ?_
  refine Go.ret0 X_2 hx hret hlk (hb hby d18_9) (by decide) (by decide) ?_
  have f_3 : Keep h0 h_2 [a1] := ((Keep.refl h0 [a1]).wr W_2 (Or.inl (List.mem_of_getElem? (i := 0) rfl)))
  show (Q18 Z a1 a2 u h0 n0) _ T_2.heap _
  rw [e_2]
  exact ⟨rfl, N_2, f_3, Fw_2⟩
theorem own_pd4 : parseMethodDescriptor "(Ljava/lang/Object;)V" = some ⟨[(.object "java/lang/Object")], none⟩ := by decide +kernel
def Q12 (Z : State) (vq : Value) (o : Addr) (h0 : Heap) (n0 : Nat) (v : Option Value) (h : Heap) (L : List Loc) : Prop := ∃ (b : Addr), v = some (.ref b) ∧ Fr n0 L ∧ Keep h0 h [] ∧ Exa Z h b "java/util/Optional" ∧ Fld Z h b "java/util/Optional" "value" "Ljava/lang/Object;" vq
theorem ef_12 (m : MethodId) (vq : Value) (hv0 : vq.isRef = true) : entryFrame m #[vq] 1 = mkF m 0 #[.val vq] [] := by first | (simp [entryFrame, mkF, argsToLocals, Value.category]; done) | (simp [entryFrame, mkF, argsToLocals, own_refcat hv0, own_cat_i, own_cat_l, own_cat_r, own_cat_n]; done) | rfl
set_option maxRecDepth 65536 in
set_option maxHeartbeats 40000000 in
theorem rm12 (l : Launch) (Z : State) (a0 : Array Value) (hw : ∀ d ∈ tables_1, d.before a0 Z = true) (vq : Value) (o : Addr) (h0 : Heap) (n0 : Nat) (Z0 : n0 ≤ h0.size) (PS_java_util_Optional_EMPTY : Sta Z h0 "java/util/Optional" "EMPTY" "Ljava/util/Optional;" (.ref o)) (PE_o : Exa Z h0 o "java/util/Optional") (PF_o_value : Fld Z h0 o "java/util/Optional" "value" "Ljava/lang/Object;" .null) (hv : vq.isRef = true) :
    Met1 l Z (⟨"java/util/Optional", "ofNullable", "(Ljava/lang/Object;)Ljava/util/Optional;"⟩ : MethodName) jdk_32_method_4_code 1 (some (.object "java/util/Optional")) ({ frames := 2, cells := 1, slots := 1, locals := 26 } : Room) #[vq] h0 (Q12 Z vq o h0 n0) := by
  refine Met1.mk (plainFor_of_name (by first | (simp [plainName, overriddenIn]; done) | decide +kernel)) ?_
  intro p e s m below meth c s₁ hx hZ hby hml hown hnm hret hlk X0 e0
  have N0 := Fr.nil n0
  refine Go.cast (ef_12 m vq hv) ?_
  show Go p e below (FinN s (Q12 Z vq o h0 n0) ({ frames := 2, cells := 1, slots := 1, locals := 26 } : Room).cells ({ frames := 2, cells := 1, slots := 1, locals := 26 } : Room).slots) s₁ (mkF m 0 #[.val vq] [])
  rcases ref_cases hv with rfl | ⟨y_1, rfl⟩
  · refine Go.to (mkF m 1 #[.val .null] [.null]) (fun _ k => XS.aloadN X0.here hx rfl (hb hby d12_0) rfl rfl k) ?_
    refine Go.to (mkF m 4 #[.val .null] []) (fun _ k => XS.ifnonnullNo X0.here hx rfl (hb hby d12_1) rfl k) ?_
    obtain ⟨T_2, X_2, e_2, st_2⟩ := getS2 X0 hx hZ hown (host := "") (Or.inl (hw _ (List.mem_of_getElem? (i := 103) rfl))) Via.refl e0 PS_java_util_Optional_EMPTY (g := (mkF m 4 #[.val .null] [])) rfl (hb hby d12_4)
    refine Go.to (mkF m 7 #[.val .null] [(.ref o)]) st_2 ?_
    refine Go.to (mkF m 18 #[.val .null] [(.ref o)]) (fun _ k => XS.goto X_2.here hx rfl (pc0 := 7) (pc' := 18) rfl (hb hby d12_7) (by decide) (by decide) k) ?_
    refine Go.retA X_2 hx (t := (.object "java/util/Optional")) hret hlk rfl rfl (hb hby d12_18) (by decide) (by decide) ?_
    show (Q12 Z .null o h0 n0) _ T_2.heap _
    rw [e_2]
    exact ⟨o, rfl, N0, (Keep.refl h0 []), PE_o, PF_o_value⟩
  · refine Go.to (mkF m 1 #[.val (.ref y_1)] [(.ref y_1)]) (fun _ k => XS.aloadN X0.here hx rfl (hb hby d12_0) rfl rfl k) ?_
    refine Go.to (mkF m 10 #[.val (.ref y_1)] []) (fun _ k => XS.ifnonnullYes X0.here hx rfl (pc0 := 1) (pc' := 10) rfl (hb hby d12_1) rfl (by decide) (by decide) k) ?_
    obtain ⟨T_3, h_3, X_3, e_3, E_3, A_3, D_3, -, st_3⟩ := newO X0 hx hZ hown (hw _ (List.mem_of_getElem? (i := 133) rfl)) (hw _ (List.mem_of_getElem? (i := 134) rfl)) (hw _ (List.mem_of_getElem? (i := 101) rfl)) e0 (g := (mkF m 10 #[.val (.ref y_1)] [])) rfl (hb hby d12_10) (by decide) (by decide)
    obtain ⟨b_3, g_3⟩ : ∃ z, z = h0.size := ⟨_, rfl⟩
    rw [← g_3] at A_3 D_3 st_3
    have g_b_3 : n0 ≤ b_3 := Nat.le_trans Z0 (Nat.le_of_eq g_3.symm)
    have sz_b_3 : h0.size ≤ b_3 := Nat.le_trans (Keep.refl h0 []).1 (Nat.le_of_eq g_3.symm)
    have ne_o_b_3 : o ≠ b_3 := Nat.ne_of_lt (Nat.lt_of_lt_of_le PE_o.lt (Nat.le_of_eq g_3.symm))
    have F_value_b_3 : Fld Z h_3 b_3 "java/util/Optional" "value" "Ljava/lang/Object;" .null := D_3 (Or.inr (hw _ (List.mem_of_getElem? (i := 110) rfl))) (ty := (.object "java/lang/Object")) (by decide)
    refine Go.to (mkF m 13 #[.val (.ref y_1)] [(.ref b_3)]) st_3 ?_
    refine Go.to (mkF m 14 #[.val (.ref y_1)] [(.ref b_3), (.ref b_3)]) (fun _ k => XS.dup X_3.here hx rfl (hb hby d12_13) rfl rfl k) ?_
    refine Go.to (mkF m 15 #[.val (.ref y_1)] [(.ref y_1), (.ref b_3), (.ref b_3)]) (fun _ k => XS.aloadN X_3.here hx rfl (hb hby d12_14) rfl rfl k) ?_
    have f_4 : n0 ≤ h_3.size := (Nat.le_trans Z0 E_3.1)
    refine Go.special X_3 hx hZ (y := (⟨"java/util/Optional", "<init>", "(Ljava/lang/Object;)V"⟩ : MethodName)) rfl hown (hw _ (List.mem_of_getElem? (i := 135) rfl)) (hw _ (List.mem_of_getElem? (i := 136) rfl)) (hw _ (List.mem_of_getElem? (i := 138) rfl)) (by decide) e_3 (a := b_3) (argsL := [(.ref y_1)]) (rest := [(.ref b_3)]) (Met1.back (W := 1) (rm18 l Z a0 hw b_3 y_1 .null h_3 n0 f_4 A_3 g_b_3 F_value_b_3) hZ (hw _ (List.mem_of_getElem? (i := 138) rfl)) (hw _ (List.mem_of_getElem? (i := 101) rfl)) (by decide) (by decide)) (pc := 15) (Ls := #[.val (.ref y_1)]) (by rw [hml]; rfl) (lenOf own_pd4 rfl) rfl (Nat.le_refl _) (hb hby d12_15) (by decide) (by decide) ?_
    intro T_5 v_5 L_5 X_5 hQ_5
    obtain ⟨rfl, Nq_5, K_5, pf_5_0⟩ := hQ_5
    have N_5 := Fr.app N0 Nq_5
    have f_6 : Keep h0 h_3 [] := ((Keep.refl h0 []).ext E_3)
    show Go p e below (FinN s (Q12 Z (.ref y_1) o h0 n0) ({ frames := 2, cells := 1, slots := 1, locals := 26 } : Room).cells ({ frames := 2, cells := 1, slots := 1, locals := 26 } : Room).slots) T_5 (mkF m 18 #[.val (.ref y_1)] [(.ref b_3)])
    refine Go.retA X_5 hx (t := (.object "java/util/Optional")) hret hlk rfl rfl (hb hby d12_18) (by decide) (by decide) ?_
    have f_7 : Keep h0 T_5.heap [] := (f_6.trans K_5 (allS (Or.inr sz_b_3) all0))
    have f_8 : Exa Z T_5.heap b_3 "java/util/Optional" := (A_3.keep K_5)
    show (Q12 Z (.ref y_1) o h0 n0) _ T_5.heap _
    exact ⟨b_3, rfl, N_5, f_7, f_8, pf_5_0⟩
def Q13 (Z : State) (a1 : Addr) (vq : Value) (h0 : Heap) (n0 : Nat) (v : Option Value) (h : Heap) (L : List Loc) : Prop := v = some vq ∧ Fr n0 L ∧ h = h0
theorem ef_13 (m : MethodId) (a1 : Addr) : entryFrame m #[(.ref a1), .null] 2 = mkF m 0 #[.val (.ref a1), .val .null] [] := by first | (simp [entryFrame, mkF, argsToLocals, Value.category]; done) | (simp [entryFrame, mkF, argsToLocals, own_cat_i, own_cat_l, own_cat_r, own_cat_n]; done) | rfl
set_option maxRecDepth 65536 in
set_option maxHeartbeats 40000000 in
theorem rm13 (l : Launch) (Z : State) (a0 : Array Value) (hw : ∀ d ∈ tables_1, d.before a0 Z = true) (a1 : Addr) (vq : Value) (h0 : Heap) (n0 : Nat) (Z0 : n0 ≤ h0.size) (PF_a1_value : Fld Z h0 a1 "java/util/Optional" "value" "Ljava/lang/Object;" vq) (hv : vq.isRef = true) :
    Met1 l Z (⟨"java/util/Optional", "orElse", "(Ljava/lang/Object;)Ljava/lang/Object;"⟩ : MethodName) jdk_32_method_15_code 2 (some (.object "java/lang/Object")) ({ frames := 0, cells := 0, slots := 0, locals := 0 } : Room) #[(.ref a1), .null] h0 (Q13 Z a1 vq h0 n0) := by
  refine Met1.mk (plainFor_of_name (by first | (simp [plainName, overriddenIn]; done) | decide +kernel)) ?_
  intro p e s m below meth c s₁ hx hZ hby hml hown hnm hret hlk X0 e0
  have N0 := Fr.nil n0
  refine Go.cast (ef_13 m a1) ?_
  show Go p e below (FinN s (Q13 Z a1 vq h0 n0) ({ frames := 0, cells := 0, slots := 0, locals := 0 } : Room).cells ({ frames := 0, cells := 0, slots := 0, locals := 0 } : Room).slots) s₁ (mkF m 0 #[.val (.ref a1), .val .null] [])
  rcases ref_cases hv with rfl | ⟨y_1, rfl⟩
  · refine Go.to (mkF m 1 #[.val (.ref a1), .val .null] [(.ref a1)]) (fun _ k => XS.aloadN X0.here hx rfl (hb hby d13_0) rfl rfl k) ?_
    obtain ⟨T_2, X_2, e_2, st_2⟩ := getF X0 hx hZ hown (host := "") (Or.inl (hw _ (List.mem_of_getElem? (i := 109) rfl))) Via.refl e0 PF_a1_value (g := (mkF m 1 #[.val (.ref a1), .val .null] [(.ref a1)])) rfl rfl (hb hby d13_1)
    refine Go.to (mkF m 4 #[.val (.ref a1), .val .null] [.null]) st_2 ?_
    refine Go.to (mkF m 14 #[.val (.ref a1), .val .null] []) (fun _ k => XS.ifnullYes X_2.here hx rfl (pc0 := 4) (pc' := 14) rfl (hb hby d13_4) rfl (by decide) (by decide) k) ?_
    refine Go.to (mkF m 15 #[.val (.ref a1), .val .null] [.null]) (fun _ k => XS.aloadN X_2.here hx rfl (hb hby d13_14) rfl rfl k) ?_
    refine Go.retA X_2 hx (t := (.object "java/lang/Object")) hret hlk rfl rfl (hb hby d13_15) (by decide) (by decide) ?_
    show (Q13 Z a1 .null h0 n0) _ T_2.heap _
    rw [e_2]
    exact ⟨rfl, N0, rfl⟩
  · refine Go.to (mkF m 1 #[.val (.ref a1), .val .null] [(.ref a1)]) (fun _ k => XS.aloadN X0.here hx rfl (hb hby d13_0) rfl rfl k) ?_
    obtain ⟨T_3, X_3, e_3, st_3⟩ := getF X0 hx hZ hown (host := "") (Or.inl (hw _ (List.mem_of_getElem? (i := 109) rfl))) Via.refl e0 PF_a1_value (g := (mkF m 1 #[.val (.ref a1), .val .null] [(.ref a1)])) rfl rfl (hb hby d13_1)
    refine Go.to (mkF m 4 #[.val (.ref a1), .val .null] [(.ref y_1)]) st_3 ?_
    refine Go.to (mkF m 7 #[.val (.ref a1), .val .null] []) (fun _ k => XS.ifnullNo X_3.here hx rfl (hb hby d13_4) rfl k) ?_
    refine Go.to (mkF m 8 #[.val (.ref a1), .val .null] [(.ref a1)]) (fun _ k => XS.aloadN X_3.here hx rfl (hb hby d13_7) rfl rfl k) ?_
    obtain ⟨T_4, X_4, e_4, st_4⟩ := getF X_3 hx hZ hown (host := "") (Or.inl (hw _ (List.mem_of_getElem? (i := 109) rfl))) Via.refl e_3 PF_a1_value (g := (mkF m 8 #[.val (.ref a1), .val .null] [(.ref a1)])) rfl rfl (hb hby d13_8)
    refine Go.to (mkF m 11 #[.val (.ref a1), .val .null] [(.ref y_1)]) st_4 ?_
    refine Go.to (mkF m 15 #[.val (.ref a1), .val .null] [(.ref y_1)]) (fun _ k => XS.goto X_4.here hx rfl (pc0 := 11) (pc' := 15) rfl (hb hby d13_11) (by decide) (by decide) k) ?_
    refine Go.retA X_4 hx (t := (.object "java/lang/Object")) hret hlk rfl rfl (hb hby d13_15) (by decide) (by decide) ?_
    show (Q13 Z a1 (.ref y_1) h0 n0) _ T_4.heap _
    rw [e_4]
    exact ⟨rfl, N0, rfl⟩
theorem own_pd5 : parseMethodDescriptor "(Ljava/lang/Object;)Ljava/util/Optional;" = some ⟨[(.object "java/lang/Object")], some (.object "java/util/Optional")⟩ := by decide +kernel
def Q11 (Z : State) (a1 : Addr) (vq : Value) (o : Addr) (h0 : Heap) (n0 : Nat) (v : Option Value) (h : Heap) (L : List Loc) : Prop := ∃ (b : Addr), v = some (.ref b) ∧ Fr n0 L ∧ Keep h0 h [] ∧ Exa Z h b "java/util/Optional" ∧ Fld Z h b "java/util/Optional" "value" "Ljava/lang/Object;" vq
theorem ef_11 (m : MethodId) (a1 : Addr) : entryFrame m #[(.ref a1)] 1 = mkF m 0 #[.val (.ref a1)] [] := by first | (simp [entryFrame, mkF, argsToLocals, Value.category]; done) | (simp [entryFrame, mkF, argsToLocals, own_cat_i, own_cat_l, own_cat_r, own_cat_n]; done) | rfl
set_option maxRecDepth 65536 in
set_option maxHeartbeats 40000000 in
theorem rm11 (l : Launch) (Z : State) (a0 : Array Value) (hw : ∀ d ∈ tables_1, d.before a0 Z = true) (a1 : Addr) (vq : Value) (o : Addr) (h0 : Heap) (n0 : Nat) (Z0 : n0 ≤ h0.size) (PF_a1_afterSeparation : Fld Z h0 a1 "com/example/vestwright/vestwright/plan/DeathBenefit" "afterSeparation" "Lcom/example/vestwright/vestwright/plan/Benefit;" vq) (PS_java_util_Optional_EMPTY : Sta Z h0 "java/util/Optional" "EMPTY" "Ljava/util/Optional;" (.ref o)) (PE_o : Exa Z h0 o "java/util/Optional") (PF_o_value : Fld Z h0 o "java/util/Optional" "value" "Ljava/lang/Object;" .null) (hv : vq.isRef = true) :
    Met1 l Z (⟨"com/example/vestwright/vestwright/plan/DeathBenefit", "afterSeparation", "()Ljava/util/Optional;"⟩ : MethodName) prog_61_method_8_code 1 (some (.object "java/util/Optional")) ({ frames := 3, cells := 1, slots := 1, locals := 38 } : Room) #[(.ref a1)] h0 (Q11 Z a1 vq o h0 n0) := by
  refine Met1.mk (plainFor_of_name (by first | (simp [plainName, overriddenIn]; done) | decide +kernel)) ?_
  intro p e s m below meth c s₁ hx hZ hby hml hown hnm hret hlk X0 e0
  have N0 := Fr.nil n0
  refine Go.cast (ef_11 m a1) ?_
  show Go p e below (FinN s (Q11 Z a1 vq o h0 n0) ({ frames := 3, cells := 1, slots := 1, locals := 38 } : Room).cells ({ frames := 3, cells := 1, slots := 1, locals := 38 } : Room).slots) s₁ (mkF m 0 #[.val (.ref a1)] [])
  refine Go.to (mkF m 1 #[.val (.ref a1)] [(.ref a1)]) (fun _ k => XS.aloadN X0.here hx rfl (hb hby d11_0) rfl rfl k) ?_
  obtain ⟨T_1, X_1, e_1, st_1⟩ := getF X0 hx hZ hown (host := "") (Or.inl (hw _ (List.mem_of_getElem? (i := 77) rfl))) Via.refl e0 PF_a1_afterSeparation (g := (mkF m 1 #[.val (.ref a1)] [(.ref a1)])) rfl rfl (hb hby d11_1)
  refine Go.to (mkF m 4 #[.val (.ref a1)] [vq]) st_1 ?_
  refine Go.stat X_1 hx hZ (y := (⟨"java/util/Optional", "ofNullable", "(Ljava/lang/Object;)Ljava/util/Optional;"⟩ : MethodName)) hown (hw _ (List.mem_of_getElem? (i := 99) rfl)) (hw _ (List.mem_of_getElem? (i := 100) rfl)) (hw _ (List.mem_of_getElem? (i := 101) rfl)) (hw _ (List.mem_of_getElem? (i := 102) rfl)) (by decide) e_1 (argsL := [vq]) (rest := []) (Met1.back (W := 0) (rm12 l Z a0 hw vq o h0 n0 Z0 PS_java_util_Optional_EMPTY PE_o PF_o_value hv) hZ (hw _ (List.mem_of_getElem? (i := 102) rfl)) (hw _ (List.mem_of_getElem? (i := 101) rfl)) (by decide) (by decide)) (pc := 4) (Ls := #[.val (.ref a1)]) (by rw [hml]; rfl) (lenOf own_pd5 rfl) rfl (Nat.le_refl _) (hb hby d11_4) (by decide) (by decide) ?_
  intro T_2 v_2 L_2 X_2 hQ_2
  obtain ⟨b_2, rfl, Nq_2, K_2, pf_2_0, pf_2_1⟩ := hQ_2
  have N_2 := Fr.app N0 Nq_2
  show Go p e below (FinN s (Q11 Z a1 vq o h0 n0) ({ frames := 3, cells := 1, slots := 1, locals := 38 } : Room).cells ({ frames := 3, cells := 1, slots := 1, locals := 38 } : Room).slots) T_2 (mkF m 7 #[.val (.ref a1)] [(.ref b_2)])
  refine Go.retA X_2 hx (t := (.object "java/util/Optional")) hret hlk rfl rfl (hb hby d11_7) (by decide) (by decide) ?_
  have f_3 : Keep h0 T_2.heap [] := ((Keep.refl h0 []).trans K_2 all0)
  show (Q11 Z a1 vq o h0 n0) _ T_2.heap _
  exact ⟨b_2, rfl, N_2, f_3, pf_2_0, pf_2_1⟩
def Q14 (Z : State) (a1 : Addr) (vq : Value) (o : Addr) (h0 : Heap) (n0 : Nat) (v : Option Value) (h : Heap) (L : List Loc) : Prop := ∃ (b : Addr), v = some (.ref b) ∧ Fr n0 L ∧ Keep h0 h [] ∧ Exa Z h b "java/util/Optional" ∧ Fld Z h b "java/util/Optional" "value" "Ljava/lang/Object;" vq
theorem ef_14 (m : MethodId) (a1 : Addr) : entryFrame m #[(.ref a1)] 1 = mkF m 0 #[.val (.ref a1)] [] := by first | (simp [entryFrame, mkF, argsToLocals, Value.category]; done) | (simp [entryFrame, mkF, argsToLocals, own_cat_i, own_cat_l, own_cat_r, own_cat_n]; done) | rfl
set_option maxRecDepth 65536 in
set_option maxHeartbeats 40000000 in
theorem rm14 (l : Launch) (Z : State) (a0 : Array Value) (hw : ∀ d ∈ tables_1, d.before a0 Z = true) (a1 : Addr) (vq : Value) (o : Addr) (h0 : Heap) (n0 : Nat) (Z0 : n0 ≤ h0.size) (PF_a1_duringPayout : Fld Z h0 a1 "com/example/vestwright/vestwright/plan/DeathBenefit" "duringPayout" "Lcom/example/vestwright/vestwright/plan/Benefit;" vq) (PS_java_util_Optional_EMPTY : Sta Z h0 "java/util/Optional" "EMPTY" "Ljava/util/Optional;" (.ref o)) (PE_o : Exa Z h0 o "java/util/Optional") (PF_o_value : Fld Z h0 o "java/util/Optional" "value" "Ljava/lang/Object;" .null) (hv : vq.isRef = true) :
    Met1 l Z (⟨"com/example/vestwright/vestwright/plan/DeathBenefit", "duringPayout", "()Ljava/util/Optional;"⟩ : MethodName) prog_61_method_9_code 1 (some (.object "java/util/Optional")) ({ frames := 3, cells := 1, slots := 1, locals := 38 } : Room) #[(.ref a1)] h0 (Q14 Z a1 vq o h0 n0) := by
  refine Met1.mk (plainFor_of_name (by first | (simp [plainName, overriddenIn]; done) | decide +kernel)) ?_
  intro p e s m below meth c s₁ hx hZ hby hml hown hnm hret hlk X0 e0
  have N0 := Fr.nil n0
  refine Go.cast (ef_14 m a1) ?_
  show Go p e below (FinN s (Q14 Z a1 vq o h0 n0) ({ frames := 3, cells := 1, slots := 1, locals := 38 } : Room).cells ({ frames := 3, cells := 1, slots := 1, locals := 38 } : Room).slots) s₁ (mkF m 0 #[.val (.ref a1)] [])
  refine Go.to (mkF m 1 #[.val (.ref a1)] [(.ref a1)]) (fun _ k => XS.aloadN X0.here hx rfl (hb hby d14_0) rfl rfl k) ?_
  obtain ⟨T_1, X_1, e_1, st_1⟩ := getF X0 hx hZ hown (host := "") (Or.inl (hw _ (List.mem_of_getElem? (i := 79) rfl))) Via.refl e0 PF_a1_duringPayout (g := (mkF m 1 #[.val (.ref a1)] [(.ref a1)])) rfl rfl (hb hby d14_1)
  refine Go.to (mkF m 4 #[.val (.ref a1)] [vq]) st_1 ?_
  refine Go.stat X_1 hx hZ (y := (⟨"java/util/Optional", "ofNullable", "(Ljava/lang/Object;)Ljava/util/Optional;"⟩ : MethodName)) hown (hw _ (List.mem_of_getElem? (i := 99) rfl)) (hw _ (List.mem_of_getElem? (i := 100) rfl)) (hw _ (List.mem_of_getElem? (i := 101) rfl)) (hw _ (List.mem_of_getElem? (i := 102) rfl)) (by decide) e_1 (argsL := [vq]) (rest := []) (Met1.back (W := 0) (rm12 l Z a0 hw vq o h0 n0 Z0 PS_java_util_Optional_EMPTY PE_o PF_o_value hv) hZ (hw _ (List.mem_of_getElem? (i := 102) rfl)) (hw _ (List.mem_of_getElem? (i := 101) rfl)) (by decide) (by decide)) (pc := 4) (Ls := #[.val (.ref a1)]) (by rw [hml]; rfl) (lenOf own_pd5 rfl) rfl (Nat.le_refl _) (hb hby d14_4) (by decide) (by decide) ?_
  intro T_2 v_2 L_2 X_2 hQ_2
  obtain ⟨b_2, rfl, Nq_2, K_2, pf_2_0, pf_2_1⟩ := hQ_2
  have N_2 := Fr.app N0 Nq_2
  show Go p e below (FinN s (Q14 Z a1 vq o h0 n0) ({ frames := 3, cells := 1, slots := 1, locals := 38 } : Room).cells ({ frames := 3, cells := 1, slots := 1, locals := 38 } : Room).slots) T_2 (mkF m 7 #[.val (.ref a1)] [(.ref b_2)])
  refine Go.retA X_2 hx (t := (.object "java/util/Optional")) hret hlk rfl rfl (hb hby d14_7) (by decide) (by decide) ?_
  have f_3 : Keep h0 T_2.heap [] := ((Keep.refl h0 []).trans K_2 all0)
  show (Q14 Z a1 vq o h0 n0) _ T_2.heap _
  exact ⟨b_2, rfl, N_2, f_3, pf_2_0, pf_2_1⟩
theorem own_pd6 : parseMethodDescriptor "()Lcom/example/vestwright/vestwright/plan/DeathBenefit;" = some ⟨[], some (.object "com/example/vestwright/vestwright/plan/DeathBenefit")⟩ := by decide +kernel
theorem own_pd7 : parseMethodDescriptor "()Z" = some ⟨[], some .boolean⟩ := by decide +kernel
theorem own_pd8 : parseMethodDescriptor "()Ljava/util/Optional;" = some ⟨[], some (.object "java/util/Optional")⟩ := by decide +kernel
theorem own_pd9 : parseMethodDescriptor "(Ljava/lang/Object;)Ljava/lang/Object;" = some ⟨[(.object "java/lang/Object")], some (.object "java/lang/Object")⟩ := by decide +kernel
def Q0 (Z : State) (p1 : Int32) (v1 : Addr) (s1 : Addr) (v2 : Addr) (s2 : Addr) (o : Addr) (h0 : Heap) (n0 : Nat) (v : Option Value) (h : Heap) (L : List Loc) (vm : Vm) : Prop := v = some (.int (1 : Int32)) ∧ Fr n0 L
set_option maxRecDepth 65536 in
set_option maxHeartbeats 40000000 in
theorem seg137 (l : Launch) (Z : State) (a0 : Array Value) (hw : ∀ d ∈ tables_1, d.before a0 Z = true) (p1 : Int32) (v1 : Addr) (s1 : Addr) (v2 : Addr) (s2 : Addr) (o : Addr) (l1 : Addr) (b1 : Addr) (b2 : Addr) (d : Addr) (hq : Heap) (p : Program) (e : Env) (s : State) (m : MethodId) (below : List Frame) (meth : Method) (c : Code) (s₁ : State) (locs : List Loc) (vm0 : Vm) (kk : Nat)
    (hx : p.tables.exec = Jvm.exec) (hZ : Z.Warmed39 (s.setVm vm0).vm) (hby : c.code = code) (hml : c.maxLocals = 12) (hown : (s.setVm vm0).vm.findClass "com/example/vestwright/vestwright/plan/DeathBenefitWithNothingInServicePinLaw" = some m.cls) (hnm : meth.name = "law") (hret : meth.sig.returnType = some .boolean) (hlk : meth.locks = false) (h0 : Heap) (n0 : Nat) (Z0 : n0 ≤ h0.size)
    (X0 : Stand p l e room_1 (s.setVm vm0) m #[(.int p1)] below meth c s₁ locs 32 2000) (e0 : s₁.heap = h0) (N0 : Fr n0 locs) (hS : s.Since vm0 kk) (hk : kk ≤ h0.size) (PS_java_util_Optional_EMPTY : Sta Z h0 "java/util/Optional" "EMPTY" "Ljava/util/Optional;" (.ref o)) (PE_o : Exa Z h0 o "java/util/Optional") (PF_o_value : Fld Z h0 o "java/util/Optional" "value" "Ljava/lang/Object;" .null) (PE_d : Exa Z h0 d "com/example/vestwright/vestwright/plan/DeathBenefit") (PF_d_nothingInService : Fld Z h0 d "com/example/vestwright/vestwright/plan/DeathBenefit" "nothingInService" "Z" (.int (own_b p1 (8 : Int32)))) (PF_d_afterSeparation : Fld Z h0 d "com/example/vestwright/vestwright/plan/DeathBenefit" "afterSeparation" "Lcom/example/vestwright/vestwright/plan/Benefit;" (own_r (own_b p1 (1 : Int32)) b1)) (PF_d_duringPayout : Fld Z h0 d "com/example/vestwright/vestwright/plan/DeathBenefit" "duringPayout" "Lcom/example/vestwright/vestwright/plan/Benefit;" (own_r (own_is (((p1.toUInt32 >>> ((1 : Int32) &&& 31).toUInt32).toInt32) &&& (3 : Int32)) (1 : Int32)) b2)) (PF_d_remainingPayments : Fld Z h0 d "com/example/vestwright/vestwright/plan/DeathBenefit" "remainingPayments" "Z" (.int (own_is (((p1.toUInt32 >>> ((1 : Int32) &&& 31).toUInt32).toInt32) &&& (3 : Int32)) (2 : Int32)))) :
    Go p e below (FinW s (Q0 Z p1 v1 s1 v2 s2 o hq n0) room_1.cells room_1.slots) s₁ (mkF m 137 #[.val (.int p1), .val (.int (own_b p1 (1 : Int32))), .val (.int (((p1.toUInt32 >>> ((1 : Int32) &&& 31).toUInt32).toInt32) &&& (3 : Int32))), .val (.int (own_b p1 (8 : Int32))), .val (.ref l1), .val (.ref b1), .val (.ref b2), .val (.ref d), .unset, .unset, .unset, .unset] []) := by
  refine Go.to (mkF m 139 #[.val (.int p1), .val (.int (own_b p1 (1 : Int32))), .val (.int (((p1.toUInt32 >>> ((1 : Int32) &&& 31).toUInt32).toInt32) &&& (3 : Int32))), .val (.int (own_b p1 (8 : Int32))), .val (.ref l1), .val (.ref b1), .val (.ref b2), .val (.ref d), .unset, .unset, .unset, .unset] [(.ref d)]) (fun _ k => XS.aload X0.here hx rfl (hb hby at_137) rfl rfl k) ?_
  refine Go.virt X0 hx hZ (y := (⟨"com/example/vestwright/vestwright/plan/DeathBenefit", "withNothingInService", "()Lcom/example/vestwright/vestwright/plan/DeathBenefit;"⟩ : MethodName)) (z := (⟨"com/example/vestwright/vestwright/plan/DeathBenefit", "withNothingInService", "()Lcom/example/vestwright/vestwright/plan/DeathBenefit;"⟩ : MethodName)) hown (hw _ (List.mem_of_getElem? (i := 83) rfl)) (hw _ (List.mem_of_getElem? (i := 84) rfl)) (notFace_of_selects (args := #[]) (mvT hZ (hw _ (List.mem_of_getElem? (i := 86) rfl)))) (hw _ (List.mem_of_getElem? (i := 86) rfl)) (hw _ (List.mem_of_getElem? (i := 85) rfl)) (by decide) e0 (a := d) PE_d (argsL := []) (rest := []) (Met1.back (W := 0) (rm9 l Z a0 hw d (own_b p1 (8 : Int32)) (own_r (own_b p1 (1 : Int32)) b1) (own_r (own_is (((p1.toUInt32 >>> ((1 : Int32) &&& 31).toUInt32).toInt32) &&& (3 : Int32)) (1 : Int32)) b2) (own_is (((p1.toUInt32 >>> ((1 : Int32) &&& 31).toUInt32).toInt32) &&& (3 : Int32)) (2 : Int32)) h0 n0 Z0 PF_d_nothingInService PF_d_afterSeparation PF_d_duringPayout PF_d_remainingPayments (own_b_nar _ _) (own_r_ref _ _) (own_r_ref _ _) (own_is_nar _ _)) hZ (hw _ (List.mem_of_getElem? (i := 87) rfl)) (hw _ (List.mem_of_getElem? (i := 67) rfl)) (by decide) (by decide)) (pc := 139) (Ls := #[.val (.int p1), .val (.int (own_b p1 (1 : Int32))), .val (.int (((p1.toUInt32 >>> ((1 : Int32) &&& 31).toUInt32).toInt32) &&& (3 : Int32))), .val (.int (own_b p1 (8 : Int32))), .val (.ref l1), .val (.ref b1), .val (.ref b2), .val (.ref d), .unset, .unset, .unset, .unset]) (by rw [hml]; rfl) (lenOf own_pd6 rfl) rfl (Nat.le_refl _) (hb hby at_139) (by decide) (by decide) ?_
  intro T_1 v_1 L_1 X_1 hQ_1
  obtain ⟨b_1, rfl, Nq_1, K_1, pf_1_0, pf_1_1, pf_1_2, pf_1_3, pf_1_4, sz_b_1⟩ := hQ_1
  have N_1 := Fr.app N0 Nq_1
  show Go p e below (FinW s (Q0 Z p1 v1 s1 v2 s2 o hq n0) room_1.cells room_1.slots) T_1 (mkF m 142 #[.val (.int p1), .val (.int (own_b p1 (1 : Int32))), .val (.int (((p1.toUInt32 >>> ((1 : Int32) &&& 31).toUInt32).toInt32) &&& (3 : Int32))), .val (.int (own_b p1 (8 : Int32))), .val (.ref l1), .val (.ref b1), .val (.ref b2), .val (.ref d), .unset, .unset, .unset, .unset] [(.ref b_1)])
  have g_b_1 : n0 ≤ b_1 := Nat.le_trans Z0 sz_b_1
  have ne_o_b_1 : o ≠ b_1 := Nat.ne_of_lt (Nat.lt_of_lt_of_le PE_o.lt sz_b_1)
  have ne_d_b_1 : d ≠ b_1 := Nat.ne_of_lt (Nat.lt_of_lt_of_le PE_d.lt sz_b_1)
  refine Go.to (mkF m 144 #[.val (.int p1), .val (.int (own_b p1 (1 : Int32))), .val (.int (((p1.toUInt32 >>> ((1 : Int32) &&& 31).toUInt32).toInt32) &&& (3 : Int32))), .val (.int (own_b p1 (8 : Int32))), .val (.ref l1), .val (.ref b1), .val (.ref b2), .val (.ref d), .val (.ref b_1), .unset, .unset, .unset] []) (fun _ k => XS.astore X_1.here hx rfl (hb hby at_142) rfl rfl (l' := #[.val (.int p1), .val (.int (own_b p1 (1 : Int32))), .val (.int (((p1.toUInt32 >>> ((1 : Int32) &&& 31).toUInt32).toInt32) &&& (3 : Int32))), .val (.int (own_b p1 (8 : Int32))), .val (.ref l1), .val (.ref b1), .val (.ref b2), .val (.ref d), .val (.ref b_1), .unset, .unset, .unset]) rfl k) ?_
  refine Go.to (mkF m 145 #[.val (.int p1), .val (.int (own_b p1 (1 : Int32))), .val (.int (((p1.toUInt32 >>> ((1 : Int32) &&& 31).toUInt32).toInt32) &&& (3 : Int32))), .val (.int (own_b p1 (8 : Int32))), .val (.ref l1), .val (.ref b1), .val (.ref b2), .val (.ref d), .val (.ref b_1), .unset, .unset, .unset] [(.int (own_b p1 (1 : Int32)))]) (fun _ k => XS.iloadN X_1.here hx rfl (hb hby at_144) rfl  k) ?_
  suffices J_2 : Go p e below (FinW s (Q0 Z p1 v1 s1 v2 s2 o hq n0) room_1.cells room_1.slots) T_1 (mkF m 154 #[.val (.int p1), .val (.int (own_b p1 (1 : Int32))), .val (.int (((p1.toUInt32 >>> ((1 : Int32) &&& 31).toUInt32).toInt32) &&& (3 : Int32))), .val (.int (own_b p1 (8 : Int32))), .val (.ref l1), .val (.ref b1), .val (.ref b2), .val (.ref d), .val (.ref b_1), .unset, .unset, .unset] [(own_r (own_b p1 (1 : Int32)) b1)]) by
    by_cases ha : (own_b p1 (1 : Int32)) = (0 : Int32)
    · refine Go.to (mkF m 153 #[.val (.int p1), .val (.int (own_b p1 (1 : Int32))), .val (.int (((p1.toUInt32 >>> ((1 : Int32) &&& 31).toUInt32).toInt32) &&& (3 : Int32))), .val (.int (own_b p1 (8 : Int32))), .val (.ref l1), .val (.ref b1), .val (.ref b2), .val (.ref d), .val (.ref b_1), .unset, .unset, .unset] []) (fun _ k => XS.ifYes X_1.here hx rfl (pc0 := 145) (pc' := 153) rfl (hb hby at_145) rfl ((if0 _ _).trans (teq ha).1) (by decide) (by decide) k) ?_
      refine Go.to (mkF m 154 #[.val (.int p1), .val (.int (own_b p1 (1 : Int32))), .val (.int (((p1.toUInt32 >>> ((1 : Int32) &&& 31).toUInt32).toInt32) &&& (3 : Int32))), .val (.int (own_b p1 (8 : Int32))), .val (.ref l1), .val (.ref b1), .val (.ref b2), .val (.ref d), .val (.ref b_1), .unset, .unset, .unset] [.null]) (fun _ k => XS.aconstNull X_1.here hx rfl (hb hby at_153) k) ?_
      exact Go.cast (by rw [show (own_r (own_b p1 (1 : Int32)) b1) = .null from if_pos ha]) J_2
    · refine Go.to (mkF m 148 #[.val (.int p1), .val (.int (own_b p1 (1 : Int32))), .val (.int (((p1.toUInt32 >>> ((1 : Int32) &&& 31).toUInt32).toInt32) &&& (3 : Int32))), .val (.int (own_b p1 (8 : Int32))), .val (.ref l1), .val (.ref b1), .val (.ref b2), .val (.ref d), .val (.ref b_1), .unset, .unset, .unset] []) (fun _ k => XS.ifNo X_1.here hx rfl (hb hby at_145) rfl ((if0 _ _).trans (feq ha).1) k) ?_
      refine Go.to (mkF m 150 #[.val (.int p1), .val (.int (own_b p1 (1 : Int32))), .val (.int (((p1.toUInt32 >>> ((1 : Int32) &&& 31).toUInt32).toInt32) &&& (3 : Int32))), .val (.int (own_b p1 (8 : Int32))), .val (.ref l1), .val (.ref b1), .val (.ref b2), .val (.ref d), .val (.ref b_1), .unset, .unset, .unset] [(.ref b1)]) (fun _ k => XS.aload X_1.here hx rfl (hb hby at_148) rfl rfl k) ?_
      refine Go.to (mkF m 154 #[.val (.int p1), .val (.int (own_b p1 (1 : Int32))), .val (.int (((p1.toUInt32 >>> ((1 : Int32) &&& 31).toUInt32).toInt32) &&& (3 : Int32))), .val (.int (own_b p1 (8 : Int32))), .val (.ref l1), .val (.ref b1), .val (.ref b2), .val (.ref d), .val (.ref b_1), .unset, .unset, .unset] [(.ref b1)]) (fun _ k => XS.goto X_1.here hx rfl (pc0 := 150) (pc' := 154) rfl (hb hby at_150) (by decide) (by decide) k) ?_
      exact Go.cast (by rw [show (own_r (own_b p1 (1 : Int32)) b1) = .ref b1 from if_neg ha]) J_2
  refine Go.to (mkF m 156 #[.val (.int p1), .val (.int (own_b p1 (1 : Int32))), .val (.int (((p1.toUInt32 >>> ((1 : Int32) &&& 31).toUInt32).toInt32) &&& (3 : Int32))), .val (.int (own_b p1 (8 : Int32))), .val (.ref l1), .val (.ref b1), .val (.ref b2), .val (.ref d), .val (.ref b_1), .val (own_r (own_b p1 (1 : Int32)) b1), .unset, .unset] []) (fun _ k => XS.astore X_1.here hx rfl (hb hby at_154) rfl (own_r_ref _ _) (l' := #[.val (.int p1), .val (.int (own_b p1 (1 : Int32))), .val (.int (((p1.toUInt32 >>> ((1 : Int32) &&& 31).toUInt32).toInt32) &&& (3 : Int32))), .val (.int (own_b p1 (8 : Int32))), .val (.ref l1), .val (.ref b1), .val (.ref b2), .val (.ref d), .val (.ref b_1), .val (own_r (own_b p1 (1 : Int32)) b1), .unset, .unset]) (own_store1 rfl own_one_u (own_refcat (own_r_ref _ _)) rfl) k) ?_
  refine Go.to (mkF m 157 #[.val (.int p1), .val (.int (own_b p1 (1 : Int32))), .val (.int (((p1.toUInt32 >>> ((1 : Int32) &&& 31).toUInt32).toInt32) &&& (3 : Int32))), .val (.int (own_b p1 (8 : Int32))), .val (.ref l1), .val (.ref b1), .val (.ref b2), .val (.ref d), .val (.ref b_1), .val (own_r (own_b p1 (1 : Int32)) b1), .unset, .unset] [(.int (((p1.toUInt32 >>> ((1 : Int32) &&& 31).toUInt32).toInt32) &&& (3 : Int32)))]) (fun _ k => XS.iloadN X_1.here hx rfl (hb hby at_156) rfl  k) ?_
  refine Go.to (mkF m 158 #[.val (.int p1), .val (.int (own_b p1 (1 : Int32))), .val (.int (((p1.toUInt32 >>> ((1 : Int32) &&& 31).toUInt32).toInt32) &&& (3 : Int32))), .val (.int (own_b p1 (8 : Int32))), .val (.ref l1), .val (.ref b1), .val (.ref b2), .val (.ref d), .val (.ref b_1), .val (own_r (own_b p1 (1 : Int32)) b1), .unset, .unset] [(.int (1 : Int32)), (.int (((p1.toUInt32 >>> ((1 : Int32) &&& 31).toUInt32).toInt32) &&& (3 : Int32)))]) (fun _ k => XS.iconst X_1.here hx rfl (hb hby at_157) k) ?_
  suffices J_3 : Go p e below (FinW s (Q0 Z p1 v1 s1 v2 s2 o hq n0) room_1.cells room_1.slots) T_1 (mkF m 167 #[.val (.int p1), .val (.int (own_b p1 (1 : Int32))), .val (.int (((p1.toUInt32 >>> ((1 : Int32) &&& 31).toUInt32).toInt32) &&& (3 : Int32))), .val (.int (own_b p1 (8 : Int32))), .val (.ref l1), .val (.ref b1), .val (.ref b2), .val (.ref d), .val (.ref b_1), .val (own_r (own_b p1 (1 : Int32)) b1), .unset, .unset] [(own_r (own_is (((p1.toUInt32 >>> ((1 : Int32) &&& 31).toUInt32).toInt32) &&& (3 : Int32)) (1 : Int32)) b2)]) by
    by_cases hm1 : (((p1.toUInt32 >>> ((1 : Int32) &&& 31).toUInt32).toInt32) &&& (3 : Int32)) = (1 : Int32)
    · refine Go.to (mkF m 161 #[.val (.int p1), .val (.int (own_b p1 (1 : Int32))), .val (.int (((p1.toUInt32 >>> ((1 : Int32) &&& 31).toUInt32).toInt32) &&& (3 : Int32))), .val (.int (own_b p1 (8 : Int32))), .val (.ref l1), .val (.ref b1), .val (.ref b2), .val (.ref d), .val (.ref b_1), .val (own_r (own_b p1 (1 : Int32)) b1), .unset, .unset] []) (fun _ k => XS.icmpNo X_1.here hx rfl (hb hby at_158) rfl (teq hm1).2 k) ?_
      refine Go.to (mkF m 163 #[.val (.int p1), .val (.int (own_b p1 (1 : Int32))), .val (.int (((p1.toUInt32 >>> ((1 : Int32) &&& 31).toUInt32).toInt32) &&& (3 : Int32))), .val (.int (own_b p1 (8 : Int32))), .val (.ref l1), .val (.ref b1), .val (.ref b2), .val (.ref d), .val (.ref b_1), .val (own_r (own_b p1 (1 : Int32)) b1), .unset, .unset] [(.ref b2)]) (fun _ k => XS.aload X_1.here hx rfl (hb hby at_161) rfl rfl k) ?_
      refine Go.to (mkF m 167 #[.val (.int p1), .val (.int (own_b p1 (1 : Int32))), .val (.int (((p1.toUInt32 >>> ((1 : Int32) &&& 31).toUInt32).toInt32) &&& (3 : Int32))), .val (.int (own_b p1 (8 : Int32))), .val (.ref l1), .val (.ref b1), .val (.ref b2), .val (.ref d), .val (.ref b_1), .val (own_r (own_b p1 (1 : Int32)) b1), .unset, .unset] [(.ref b2)]) (fun _ k => XS.goto X_1.here hx rfl (pc0 := 163) (pc' := 167) rfl (hb hby at_163) (by decide) (by decide) k) ?_
      exact Go.cast (by rw [show (own_r (own_is (((p1.toUInt32 >>> ((1 : Int32) &&& 31).toUInt32).toInt32) &&& (3 : Int32)) (1 : Int32)) b2) = .ref b2 from (by unfold own_is; rw [if_pos hm1]; exact if_neg (by decide))]) J_3
    · refine Go.to (mkF m 166 #[.val (.int p1), .val (.int (own_b p1 (1 : Int32))), .val (.int (((p1.toUInt32 >>> ((1 : Int32) &&& 31).toUInt32).toInt32) &&& (3 : Int32))), .val (.int (own_b p1 (8 : Int32))), .val (.ref l1), .val (.ref b1), .val (.ref b2), .val (.ref d), .val (.ref b_1), .val (own_r (own_b p1 (1 : Int32)) b1), .unset, .unset] []) (fun _ k => XS.icmpYes X_1.here hx rfl (pc0 := 158) (pc' := 166) rfl (hb hby at_158) rfl (feq hm1).2 (by decide) (by decide) k) ?_
      refine Go.to (mkF m 167 #[.val (.int p1), .val (.int (own_b p1 (1 : Int32))), .val (.int (((p1.toUInt32 >>> ((1 : Int32) &&& 31).toUInt32).toInt32) &&& (3 : Int32))), .val (.int (own_b p1 (8 : Int32))), .val (.ref l1), .val (.ref b1), .val (.ref b2), .val (.ref d), .val (.ref b_1), .val (own_r (own_b p1 (1 : Int32)) b1), .unset, .unset] [.null]) (fun _ k => XS.aconstNull X_1.here hx rfl (hb hby at_166) k) ?_
      exact Go.cast (by rw [show (own_r (own_is (((p1.toUInt32 >>> ((1 : Int32) &&& 31).toUInt32).toInt32) &&& (3 : Int32)) (1 : Int32)) b2) = .null from (by unfold own_is; rw [if_neg hm1]; exact if_pos rfl)]) J_3
  refine Go.to (mkF m 169 #[.val (.int p1), .val (.int (own_b p1 (1 : Int32))), .val (.int (((p1.toUInt32 >>> ((1 : Int32) &&& 31).toUInt32).toInt32) &&& (3 : Int32))), .val (.int (own_b p1 (8 : Int32))), .val (.ref l1), .val (.ref b1), .val (.ref b2), .val (.ref d), .val (.ref b_1), .val (own_r (own_b p1 (1 : Int32)) b1), .val (own_r (own_is (((p1.toUInt32 >>> ((1 : Int32) &&& 31).toUInt32).toInt32) &&& (3 : Int32)) (1 : Int32)) b2), .unset] []) (fun _ k => XS.astore X_1.here hx rfl (hb hby at_167) rfl (own_r_ref _ _) (l' := #[.val (.int p1), .val (.int (own_b p1 (1 : Int32))), .val (.int (((p1.toUInt32 >>> ((1 : Int32) &&& 31).toUInt32).toInt32) &&& (3 : Int32))), .val (.int (own_b p1 (8 : Int32))), .val (.ref l1), .val (.ref b1), .val (.ref b2), .val (.ref d), .val (.ref b_1), .val (own_r (own_b p1 (1 : Int32)) b1), .val (own_r (own_is (((p1.toUInt32 >>> ((1 : Int32) &&& 31).toUInt32).toInt32) &&& (3 : Int32)) (1 : Int32)) b2), .unset]) (own_store1 rfl own_one_u (own_refcat (own_r_ref _ _)) rfl) k) ?_
  refine Go.to (mkF m 170 #[.val (.int p1), .val (.int (own_b p1 (1 : Int32))), .val (.int (((p1.toUInt32 >>> ((1 : Int32) &&& 31).toUInt32).toInt32) &&& (3 : Int32))), .val (.int (own_b p1 (8 : Int32))), .val (.ref l1), .val (.ref b1), .val (.ref b2), .val (.ref d), .val (.ref b_1), .val (own_r (own_b p1 (1 : Int32)) b1), .val (own_r (own_is (((p1.toUInt32 >>> ((1 : Int32) &&& 31).toUInt32).toInt32) &&& (3 : Int32)) (1 : Int32)) b2), .unset] [(.int (((p1.toUInt32 >>> ((1 : Int32) &&& 31).toUInt32).toInt32) &&& (3 : Int32)))]) (fun _ k => XS.iloadN X_1.here hx rfl (hb hby at_169) rfl  k) ?_
  refine Go.to (mkF m 171 #[.val (.int p1), .val (.int (own_b p1 (1 : Int32))), .val (.int (((p1.toUInt32 >>> ((1 : Int32) &&& 31).toUInt32).toInt32) &&& (3 : Int32))), .val (.int (own_b p1 (8 : Int32))), .val (.ref l1), .val (.ref b1), .val (.ref b2), .val (.ref d), .val (.ref b_1), .val (own_r (own_b p1 (1 : Int32)) b1), .val (own_r (own_is (((p1.toUInt32 >>> ((1 : Int32) &&& 31).toUInt32).toInt32) &&& (3 : Int32)) (1 : Int32)) b2), .unset] [(.int (2 : Int32)), (.int (((p1.toUInt32 >>> ((1 : Int32) &&& 31).toUInt32).toInt32) &&& (3 : Int32)))]) (fun _ k => XS.iconst X_1.here hx rfl (hb hby at_170) k) ?_
  suffices J_4 : Go p e below (FinW s (Q0 Z p1 v1 s1 v2 s2 o hq n0) room_1.cells room_1.slots) T_1 (mkF m 179 #[.val (.int p1), .val (.int (own_b p1 (1 : Int32))), .val (.int (((p1.toUInt32 >>> ((1 : Int32) &&& 31).toUInt32).toInt32) &&& (3 : Int32))), .val (.int (own_b p1 (8 : Int32))), .val (.ref l1), .val (.ref b1), .val (.ref b2), .val (.ref d), .val (.ref b_1), .val (own_r (own_b p1 (1 : Int32)) b1), .val (own_r (own_is (((p1.toUInt32 >>> ((1 : Int32) &&& 31).toUInt32).toInt32) &&& (3 : Int32)) (1 : Int32)) b2), .unset] [(.int (own_is (((p1.toUInt32 >>> ((1 : Int32) &&& 31).toUInt32).toInt32) &&& (3 : Int32)) (2 : Int32)))]) by
    by_cases hm2 : (((p1.toUInt32 >>> ((1 : Int32) &&& 31).toUInt32).toInt32) &&& (3 : Int32)) = (2 : Int32)
    · refine Go.to (mkF m 174 #[.val (.int p1), .val (.int (own_b p1 (1 : Int32))), .val (.int (((p1.toUInt32 >>> ((1 : Int32) &&& 31).toUInt32).toInt32) &&& (3 : Int32))), .val (.int (own_b p1 (8 : Int32))), .val (.ref l1), .val (.ref b1), .val (.ref b2), .val (.ref d), .val (.ref b_1), .val (own_r (own_b p1 (1 : Int32)) b1), .val (own_r (own_is (((p1.toUInt32 >>> ((1 : Int32) &&& 31).toUInt32).toInt32) &&& (3 : Int32)) (1 : Int32)) b2), .unset] []) (fun _ k => XS.icmpNo X_1.here hx rfl (hb hby at_171) rfl (teq hm2).2 k) ?_
      refine Go.to (mkF m 175 #[.val (.int p1), .val (.int (own_b p1 (1 : Int32))), .val (.int (((p1.toUInt32 >>> ((1 : Int32) &&& 31).toUInt32).toInt32) &&& (3 : Int32))), .val (.int (own_b p1 (8 : Int32))), .val (.ref l1), .val (.ref b1), .val (.ref b2), .val (.ref d), .val (.ref b_1), .val (own_r (own_b p1 (1 : Int32)) b1), .val (own_r (own_is (((p1.toUInt32 >>> ((1 : Int32) &&& 31).toUInt32).toInt32) &&& (3 : Int32)) (1 : Int32)) b2), .unset] [(.int (1 : Int32))]) (fun _ k => XS.iconst X_1.here hx rfl (hb hby at_174) k) ?_
      refine Go.to (mkF m 179 #[.val (.int p1), .val (.int (own_b p1 (1 : Int32))), .val (.int (((p1.toUInt32 >>> ((1 : Int32) &&& 31).toUInt32).toInt32) &&& (3 : Int32))), .val (.int (own_b p1 (8 : Int32))), .val (.ref l1), .val (.ref b1), .val (.ref b2), .val (.ref d), .val (.ref b_1), .val (own_r (own_b p1 (1 : Int32)) b1), .val (own_r (own_is (((p1.toUInt32 >>> ((1 : Int32) &&& 31).toUInt32).toInt32) &&& (3 : Int32)) (1 : Int32)) b2), .unset] [(.int (1 : Int32))]) (fun _ k => XS.goto X_1.here hx rfl (pc0 := 175) (pc' := 179) rfl (hb hby at_175) (by decide) (by decide) k) ?_
      exact Go.cast (by rw [show (own_is (((p1.toUInt32 >>> ((1 : Int32) &&& 31).toUInt32).toInt32) &&& (3 : Int32)) (2 : Int32)) = 1 from if_pos hm2]) J_4
    · refine Go.to (mkF m 178 #[.val (.int p1), .val (.int (own_b p1 (1 : Int32))), .val (.int (((p1.toUInt32 >>> ((1 : Int32) &&& 31).toUInt32).toInt32) &&& (3 : Int32))), .val (.int (own_b p1 (8 : Int32))), .val (.ref l1), .val (.ref b1), .val (.ref b2), .val (.ref d), .val (.ref b_1), .val (own_r (own_b p1 (1 : Int32)) b1), .val (own_r (own_is (((p1.toUInt32 >>> ((1 : Int32) &&& 31).toUInt32).toInt32) &&& (3 : Int32)) (1 : Int32)) b2), .unset] []) (fun _ k => XS.icmpYes X_1.here hx rfl (pc0 := 171) (pc' := 178) rfl (hb hby at_171) rfl (feq hm2).2 (by decide) (by decide) k) ?_
      refine Go.to (mkF m 179 #[.val (.int p1), .val (.int (own_b p1 (1 : Int32))), .val (.int (((p1.toUInt32 >>> ((1 : Int32) &&& 31).toUInt32).toInt32) &&& (3 : Int32))), .val (.int (own_b p1 (8 : Int32))), .val (.ref l1), .val (.ref b1), .val (.ref b2), .val (.ref d), .val (.ref b_1), .val (own_r (own_b p1 (1 : Int32)) b1), .val (own_r (own_is (((p1.toUInt32 >>> ((1 : Int32) &&& 31).toUInt32).toInt32) &&& (3 : Int32)) (1 : Int32)) b2), .unset] [(.int (0 : Int32))]) (fun _ k => XS.iconst X_1.here hx rfl (hb hby at_178) k) ?_
      exact Go.cast (by rw [show (own_is (((p1.toUInt32 >>> ((1 : Int32) &&& 31).toUInt32).toInt32) &&& (3 : Int32)) (2 : Int32)) = 0 from if_neg hm2]) J_4
  refine Go.to (mkF m 181 #[.val (.int p1), .val (.int (own_b p1 (1 : Int32))), .val (.int (((p1.toUInt32 >>> ((1 : Int32) &&& 31).toUInt32).toInt32) &&& (3 : Int32))), .val (.int (own_b p1 (8 : Int32))), .val (.ref l1), .val (.ref b1), .val (.ref b2), .val (.ref d), .val (.ref b_1), .val (own_r (own_b p1 (1 : Int32)) b1), .val (own_r (own_is (((p1.toUInt32 >>> ((1 : Int32) &&& 31).toUInt32).toInt32) &&& (3 : Int32)) (1 : Int32)) b2), .val (.int (own_is (((p1.toUInt32 >>> ((1 : Int32) &&& 31).toUInt32).toInt32) &&& (3 : Int32)) (2 : Int32)))] []) (fun _ k => XS.istore X_1.here hx rfl (hb hby at_179) rfl (l' := #[.val (.int p1), .val (.int (own_b p1 (1 : Int32))), .val (.int (((p1.toUInt32 >>> ((1 : Int32) &&& 31).toUInt32).toInt32) &&& (3 : Int32))), .val (.int (own_b p1 (8 : Int32))), .val (.ref l1), .val (.ref b1), .val (.ref b2), .val (.ref d), .val (.ref b_1), .val (own_r (own_b p1 (1 : Int32)) b1), .val (own_r (own_is (((p1.toUInt32 >>> ((1 : Int32) &&& 31).toUInt32).toInt32) &&& (3 : Int32)) (1 : Int32)) b2), .val (.int (own_is (((p1.toUInt32 >>> ((1 : Int32) &&& 31).toUInt32).toInt32) &&& (3 : Int32)) (2 : Int32)))]) rfl k) ?_
  refine Go.to (mkF m 183 #[.val (.int p1), .val (.int (own_b p1 (1 : Int32))), .val (.int (((p1.toUInt32 >>> ((1 : Int32) &&& 31).toUInt32).toInt32) &&& (3 : Int32))), .val (.int (own_b p1 (8 : Int32))), .val (.ref l1), .val (.ref b1), .val (.ref b2), .val (.ref d), .val (.ref b_1), .val (own_r (own_b p1 (1 : Int32)) b1), .val (own_r (own_is (((p1.toUInt32 >>> ((1 : Int32) &&& 31).toUInt32).toInt32) &&& (3 : Int32)) (1 : Int32)) b2), .val (.int (own_is (((p1.toUInt32 >>> ((1 : Int32) &&& 31).toUInt32).toInt32) &&& (3 : Int32)) (2 : Int32)))] [(.ref b_1)]) (fun _ k => XS.aload X_1.here hx rfl (hb hby at_181) rfl rfl k) ?_
  refine Go.to (mkF m 186 #[.val (.int p1), .val (.int (own_b p1 (1 : Int32))), .val (.int (((p1.toUInt32 >>> ((1 : Int32) &&& 31).toUInt32).toInt32) &&& (3 : Int32))), .val (.int (own_b p1 (8 : Int32))), .val (.ref l1), .val (.ref b1), .val (.ref b2), .val (.ref d), .val (.ref b_1), .val (own_r (own_b p1 (1 : Int32)) b1), .val (own_r (own_is (((p1.toUInt32 >>> ((1 : Int32) &&& 31).toUInt32).toInt32) &&& (3 : Int32)) (1 : Int32)) b2), .val (.int (own_is (((p1.toUInt32 >>> ((1 : Int32) &&& 31).toUInt32).toInt32) &&& (3 : Int32)) (2 : Int32)))] []) (fun _ k => XS.ifnullNo X_1.here hx rfl (hb hby at_183) rfl k) ?_
  refine Go.to (mkF m 188 #[.val (.int p1), .val (.int (own_b p1 (1 : Int32))), .val (.int (((p1.toUInt32 >>> ((1 : Int32) &&& 31).toUInt32).toInt32) &&& (3 : Int32))), .val (.int (own_b p1 (8 : Int32))), .val (.ref l1), .val (.ref b1), .val (.ref b2), .val (.ref d), .val (.ref b_1), .val (own_r (own_b p1 (1 : Int32)) b1), .val (own_r (own_is (((p1.toUInt32 >>> ((1 : Int32) &&& 31).toUInt32).toInt32) &&& (3 : Int32)) (1 : Int32)) b2), .val (.int (own_is (((p1.toUInt32 >>> ((1 : Int32) &&& 31).toUInt32).toInt32) &&& (3 : Int32)) (2 : Int32)))] [(.ref b_1)]) (fun _ k => XS.aload X_1.here hx rfl (hb hby at_186) rfl rfl k) ?_
  have f_5 : n0 ≤ T_1.heap.size := (Nat.le_trans Z0 K_1.1)
  refine Go.virt X_1 hx hZ (y := (⟨"com/example/vestwright/vestwright/plan/DeathBenefit", "paysNothingInService", "()Z"⟩ : MethodName)) (z := (⟨"com/example/vestwright/vestwright/plan/DeathBenefit", "paysNothingInService", "()Z"⟩ : MethodName)) hown (hw _ (List.mem_of_getElem? (i := 89) rfl)) (hw _ (List.mem_of_getElem? (i := 90) rfl)) (notFace_of_selects (args := #[]) (mvT hZ (hw _ (List.mem_of_getElem? (i := 92) rfl)))) (hw _ (List.mem_of_getElem? (i := 92) rfl)) (hw _ (List.mem_of_getElem? (i := 91) rfl)) (by decide) rfl (a := b_1) pf_1_0 (argsL := []) (rest := []) (Met1.back (W := 0) (rm10 l Z a0 hw b_1 (1 : Int32) T_1.heap n0 f_5 pf_1_1 rfl) hZ (hw _ (List.mem_of_getElem? (i := 93) rfl)) (hw _ (List.mem_of_getElem? (i := 67) rfl)) (by decide) (by decide)) (pc := 188) (Ls := #[.val (.int p1), .val (.int (own_b p1 (1 : Int32))), .val (.int (((p1.toUInt32 >>> ((1 : Int32) &&& 31).toUInt32).toInt32) &&& (3 : Int32))), .val (.int (own_b p1 (8 : Int32))), .val (.ref l1), .val (.ref b1), .val (.ref b2), .val (.ref d), .val (.ref b_1), .val (own_r (own_b p1 (1 : Int32)) b1), .val (own_r (own_is (((p1.toUInt32 >>> ((1 : Int32) &&& 31).toUInt32).toInt32) &&& (3 : Int32)) (1 : Int32)) b2), .val (.int (own_is (((p1.toUInt32 >>> ((1 : Int32) &&& 31).toUInt32).toInt32) &&& (3 : Int32)) (2 : Int32)))]) (by rw [hml]; rfl) (lenOf own_pd7 rfl) rfl (Nat.le_refl _) (hb hby at_188) (by decide) (by decide) ?_
  intro T_6 v_6 L_6 X_6 hQ_6
  obtain ⟨rfl, Nq_6, hh_6⟩ := hQ_6
  have N_6 := Fr.app N_1 Nq_6
  show Go p e below (FinW s (Q0 Z p1 v1 s1 v2 s2 o hq n0) room_1.cells room_1.slots) T_6 (mkF m 191 #[.val (.int p1), .val (.int (own_b p1 (1 : Int32))), .val (.int (((p1.toUInt32 >>> ((1 : Int32) &&& 31).toUInt32).toInt32) &&& (3 : Int32))), .val (.int (own_b p1 (8 : Int32))), .val (.ref l1), .val (.ref b1), .val (.ref b2), .val (.ref d), .val (.ref b_1), .val (own_r (own_b p1 (1 : Int32)) b1), .val (own_r (own_is (((p1.toUInt32 >>> ((1 : Int32) &&& 31).toUInt32).toInt32) &&& (3 : Int32)) (1 : Int32)) b2), .val (.int (own_is (((p1.toUInt32 >>> ((1 : Int32) &&& 31).toUInt32).toInt32) &&& (3 : Int32)) (2 : Int32)))] [(.int (1 : Int32))])
  refine Go.to (mkF m 194 #[.val (.int p1), .val (.int (own_b p1 (1 : Int32))), .val (.int (((p1.toUInt32 >>> ((1 : Int32) &&& 31).toUInt32).toInt32) &&& (3 : Int32))), .val (.int (own_b p1 (8 : Int32))), .val (.ref l1), .val (.ref b1), .val (.ref b2), .val (.ref d), .val (.ref b_1), .val (own_r (own_b p1 (1 : Int32)) b1), .val (own_r (own_is (((p1.toUInt32 >>> ((1 : Int32) &&& 31).toUInt32).toInt32) &&& (3 : Int32)) (1 : Int32)) b2), .val (.int (own_is (((p1.toUInt32 >>> ((1 : Int32) &&& 31).toUInt32).toInt32) &&& (3 : Int32)) (2 : Int32)))] []) (fun _ k => XS.ifNo X_6.here hx rfl (hb hby at_191) rfl ((if0 _ _).trans (feq (by decide : ¬ ((1 : Int32) = (0 : Int32)))).1) k) ?_
  refine Go.to (mkF m 196 #[.val (.int p1), .val (.int (own_b p1 (1 : Int32))), .val (.int (((p1.toUInt32 >>> ((1 : Int32) &&& 31).toUInt32).toInt32) &&& (3 : Int32))), .val (.int (own_b p1 (8 : Int32))), .val (.ref l1), .val (.ref b1), .val (.ref b2), .val (.ref d), .val (.ref b_1), .val (own_r (own_b p1 (1 : Int32)) b1), .val (own_r (own_is (((p1.toUInt32 >>> ((1 : Int32) &&& 31).toUInt32).toInt32) &&& (3 : Int32)) (1 : Int32)) b2), .val (.int (own_is (((p1.toUInt32 >>> ((1 : Int32) &&& 31).toUInt32).toInt32) &&& (3 : Int32)) (2 : Int32)))] [(.ref b_1)]) (fun _ k => XS.aload X_6.here hx rfl (hb hby at_194) rfl rfl k) ?_
  have f_7 : Sta Z T_1.heap "java/util/Optional" "EMPTY" "Ljava/util/Optional;" (.ref o) := (own_sta_keep PS_java_util_Optional_EMPTY K_1 all0)
  have f_8 : Exa Z T_1.heap o "java/util/Optional" := (PE_o.keep K_1)
  have f_9 : Fld Z T_1.heap o "java/util/Optional" "value" "Ljava/lang/Object;" .null := (PF_o_value.keep K_1 nin0)
  refine Go.virt X_6 hx hZ (y := (⟨"com/example/vestwright/vestwright/plan/DeathBenefit", "afterSeparation", "()Ljava/util/Optional;"⟩ : MethodName)) (z := (⟨"com/example/vestwright/vestwright/plan/DeathBenefit", "afterSeparation", "()Ljava/util/Optional;"⟩ : MethodName)) hown (hw _ (List.mem_of_getElem? (i := 94) rfl)) (hw _ (List.mem_of_getElem? (i := 95) rfl)) (notFace_of_selects (args := #[]) (mvT hZ (hw _ (List.mem_of_getElem? (i := 97) rfl)))) (hw _ (List.mem_of_getElem? (i := 97) rfl)) (hw _ (List.mem_of_getElem? (i := 96) rfl)) (by decide) hh_6 (a := b_1) pf_1_0 (argsL := []) (rest := []) (Met1.back (W := 0) (rm11 l Z a0 hw b_1 (own_r (own_b p1 (1 : Int32)) b1) o T_1.heap n0 f_5 pf_1_2 f_7 f_8 f_9 (own_r_ref _ _)) hZ (hw _ (List.mem_of_getElem? (i := 98) rfl)) (hw _ (List.mem_of_getElem? (i := 67) rfl)) (by decide) (by decide)) (pc := 196) (Ls := #[.val (.int p1), .val (.int (own_b p1 (1 : Int32))), .val (.int (((p1.toUInt32 >>> ((1 : Int32) &&& 31).toUInt32).toInt32) &&& (3 : Int32))), .val (.int (own_b p1 (8 : Int32))), .val (.ref l1), .val (.ref b1), .val (.ref b2), .val (.ref d), .val (.ref b_1), .val (own_r (own_b p1 (1 : Int32)) b1), .val (own_r (own_is (((p1.toUInt32 >>> ((1 : Int32) &&& 31).toUInt32).toInt32) &&& (3 : Int32)) (1 : Int32)) b2), .val (.int (own_is (((p1.toUInt32 >>> ((1 : Int32) &&& 31).toUInt32).toInt32) &&& (3 : Int32)) (2 : Int32)))]) (by rw [hml]; rfl) (lenOf own_pd8 rfl) rfl (Nat.le_refl _) (hb hby at_196) (by decide) (by decide) ?_
  intro T_10 v_10 L_10 X_10 hQ_10
  obtain ⟨b_10, rfl, Nq_10, K_10, pf_10_0, pf_10_1⟩ := hQ_10
  have N_10 := Fr.app N_6 Nq_10
  have f_11 : Exa Z T_1.heap d "com/example/vestwright/vestwright/plan/DeathBenefit" := (PE_d.keep K_1)
  show Go p e below (FinW s (Q0 Z p1 v1 s1 v2 s2 o hq n0) room_1.cells room_1.slots) T_10 (mkF m 199 #[.val (.int p1), .val (.int (own_b p1 (1 : Int32))), .val (.int (((p1.toUInt32 >>> ((1 : Int32) &&& 31).toUInt32).toInt32) &&& (3 : Int32))), .val (.int (own_b p1 (8 : Int32))), .val (.ref l1), .val (.ref b1), .val (.ref b2), .val (.ref d), .val (.ref b_1), .val (own_r (own_b p1 (1 : Int32)) b1), .val (own_r (own_is (((p1.toUInt32 >>> ((1 : Int32) &&& 31).toUInt32).toInt32) &&& (3 : Int32)) (1 : Int32)) b2), .val (.int (own_is (((p1.toUInt32 >>> ((1 : Int32) &&& 31).toUInt32).toInt32) &&& (3 : Int32)) (2 : Int32)))] [(.ref b_10)])
  refine Go.to (mkF m 200 #[.val (.int p1), .val (.int (own_b p1 (1 : Int32))), .val (.int (((p1.toUInt32 >>> ((1 : Int32) &&& 31).toUInt32).toInt32) &&& (3 : Int32))), .val (.int (own_b p1 (8 : Int32))), .val (.ref l1), .val (.ref b1), .val (.ref b2), .val (.ref d), .val (.ref b_1), .val (own_r (own_b p1 (1 : Int32)) b1), .val (own_r (own_is (((p1.toUInt32 >>> ((1 : Int32) &&& 31).toUInt32).toInt32) &&& (3 : Int32)) (1 : Int32)) b2), .val (.int (own_is (((p1.toUInt32 >>> ((1 : Int32) &&& 31).toUInt32).toInt32) &&& (3 : Int32)) (2 : Int32)))] [.null, (.ref b_10)]) (fun _ k => XS.aconstNull X_10.here hx rfl (hb hby at_199) k) ?_
  have f_12 : n0 ≤ T_10.heap.size := (Nat.le_trans f_5 K_10.1)
  refine Go.virt X_10 hx hZ (y := (⟨"java/util/Optional", "orElse", "(Ljava/lang/Object;)Ljava/lang/Object;"⟩ : MethodName)) (z := (⟨"java/util/Optional", "orElse", "(Ljava/lang/Object;)Ljava/lang/Object;"⟩ : MethodName)) hown (hw _ (List.mem_of_getElem? (i := 104) rfl)) (hw _ (List.mem_of_getElem? (i := 105) rfl)) (notFace_of_selects (args := #[]) (mvT hZ (hw _ (List.mem_of_getElem? (i := 107) rfl)))) (hw _ (List.mem_of_getElem? (i := 107) rfl)) (hw _ (List.mem_of_getElem? (i := 106) rfl)) (by decide) rfl (a := b_10) pf_10_0 (argsL := [.null]) (rest := []) (Met1.back (W := 0) (rm13 l Z a0 hw b_10 (own_r (own_b p1 (1 : Int32)) b1) T_10.heap n0 f_12 pf_10_1 (own_r_ref _ _)) hZ (hw _ (List.mem_of_getElem? (i := 108) rfl)) (hw _ (List.mem_of_getElem? (i := 101) rfl)) (by decide) (by decide)) (pc := 200) (Ls := #[.val (.int p1), .val (.int (own_b p1 (1 : Int32))), .val (.int (((p1.toUInt32 >>> ((1 : Int32) &&& 31).toUInt32).toInt32) &&& (3 : Int32))), .val (.int (own_b p1 (8 : Int32))), .val (.ref l1), .val (.ref b1), .val (.ref b2), .val (.ref d), .val (.ref b_1), .val (own_r (own_b p1 (1 : Int32)) b1), .val (own_r (own_is (((p1.toUInt32 >>> ((1 : Int32) &&& 31).toUInt32).toInt32) &&& (3 : Int32)) (1 : Int32)) b2), .val (.int (own_is (((p1.toUInt32 >>> ((1 : Int32) &&& 31).toUInt32).toInt32) &&& (3 : Int32)) (2 : Int32)))]) (by rw [hml]; rfl) (lenOf own_pd9 rfl) rfl (Nat.le_refl _) (hb hby at_200) (by decide) (by decide) ?_
  intro T_13 v_13 L_13 X_13 hQ_13
  obtain ⟨rfl, Nq_13, hh_13⟩ := hQ_13
  have N_13 := Fr.app N_10 Nq_13
  show Go p e below (FinW s (Q0 Z p1 v1 s1 v2 s2 o hq n0) room_1.cells room_1.slots) T_13 (mkF m 203 #[.val (.int p1), .val (.int (own_b p1 (1 : Int32))), .val (.int (((p1.toUInt32 >>> ((1 : Int32) &&& 31).toUInt32).toInt32) &&& (3 : Int32))), .val (.int (own_b p1 (8 : Int32))), .val (.ref l1), .val (.ref b1), .val (.ref b2), .val (.ref d), .val (.ref b_1), .val (own_r (own_b p1 (1 : Int32)) b1), .val (own_r (own_is (((p1.toUInt32 >>> ((1 : Int32) &&& 31).toUInt32).toInt32) &&& (3 : Int32)) (1 : Int32)) b2), .val (.int (own_is (((p1.toUInt32 >>> ((1 : Int32) &&& 31).toUInt32).toInt32) &&& (3 : Int32)) (2 : Int32)))] [(own_r (own_b p1 (1 : Int32)) b1)])
  refine Go.to (mkF m 205 #[.val (.int p1), .val (.int (own_b p1 (1 : Int32))), .val (.int (((p1.toUInt32 >>> ((1 : Int32) &&& 31).toUInt32).toInt32) &&& (3 : Int32))), .val (.int (own_b p1 (8 : Int32))), .val (.ref l1), .val (.ref b1), .val (.ref b2), .val (.ref d), .val (.ref b_1), .val (own_r (own_b p1 (1 : Int32)) b1), .val (own_r (own_is (((p1.toUInt32 >>> ((1 : Int32) &&& 31).toUInt32).toInt32) &&& (3 : Int32)) (1 : Int32)) b2), .val (.int (own_is (((p1.toUInt32 >>> ((1 : Int32) &&& 31).toUInt32).toInt32) &&& (3 : Int32)) (2 : Int32)))] [(own_r (own_b p1 (1 : Int32)) b1), (own_r (own_b p1 (1 : Int32)) b1)]) (fun _ k => XS.aload X_13.here hx rfl (hb hby at_203) rfl (own_r_ref _ _) k) ?_
  refine Go.to (mkF m 208 #[.val (.int p1), .val (.int (own_b p1 (1 : Int32))), .val (.int (((p1.toUInt32 >>> ((1 : Int32) &&& 31).toUInt32).toInt32) &&& (3 : Int32))), .val (.int (own_b p1 (8 : Int32))), .val (.ref l1), .val (.ref b1), .val (.ref b2), .val (.ref d), .val (.ref b_1), .val (own_r (own_b p1 (1 : Int32)) b1), .val (own_r (own_is (((p1.toUInt32 >>> ((1 : Int32) &&& 31).toUInt32).toInt32) &&& (3 : Int32)) (1 : Int32)) b2), .val (.int (own_is (((p1.toUInt32 >>> ((1 : Int32) &&& 31).toUInt32).toInt32) &&& (3 : Int32)) (2 : Int32)))] []) (fun _ k => acmp X_13 hx rfl (own_r_ref _ _) (own_r_ref _ _) (pc0 := 205) (pc' := 208) (same := true) rfl (hb hby at_205) rfl (decide_eq_true rfl) (by decide) (by decide) k) ?_
  refine Go.to (mkF m 210 #[.val (.int p1), .val (.int (own_b p1 (1 : Int32))), .val (.int (((p1.toUInt32 >>> ((1 : Int32) &&& 31).toUInt32).toInt32) &&& (3 : Int32))), .val (.int (own_b p1 (8 : Int32))), .val (.ref l1), .val (.ref b1), .val (.ref b2), .val (.ref d), .val (.ref b_1), .val (own_r (own_b p1 (1 : Int32)) b1), .val (own_r (own_is (((p1.toUInt32 >>> ((1 : Int32) &&& 31).toUInt32).toInt32) &&& (3 : Int32)) (1 : Int32)) b2), .val (.int (own_is (((p1.toUInt32 >>> ((1 : Int32) &&& 31).toUInt32).toInt32) &&& (3 : Int32)) (2 : Int32)))] [(.ref b_1)]) (fun _ k => XS.aload X_13.here hx rfl (hb hby at_208) rfl rfl k) ?_
  have f_14 : Fld Z T_10.heap b_1 "com/example/vestwright/vestwright/plan/DeathBenefit" "duringPayout" "Lcom/example/vestwright/vestwright/plan/Benefit;" (own_r (own_is (((p1.toUInt32 >>> ((1 : Int32) &&& 31).toUInt32).toInt32) &&& (3 : Int32)) (1 : Int32)) b2) := (pf_1_3.keep K_10 nin0)
  have f_15 : Sta Z T_10.heap "java/util/Optional" "EMPTY" "Ljava/util/Optional;" (.ref o) := (own_sta_keep f_7 K_10 all0)
  have f_16 : Exa Z T_10.heap o "java/util/Optional" := (f_8.keep K_10)
  have f_17 : Fld Z T_10.heap o "java/util/Optional" "value" "Ljava/lang/Object;" .null := (f_9.keep K_10 nin0)
  have f_18 : Exa Z T_10.heap b_1 "com/example/vestwright/vestwright/plan/DeathBenefit" := (pf_1_0.keep K_10)
  refine Go.virt X_13 hx hZ (y := (⟨"com/example/vestwright/vestwright/plan/DeathBenefit", "duringPayout", "()Ljava/util/Optional;"⟩ : MethodName)) (z := (⟨"com/example/vestwright/vestwright/plan/DeathBenefit", "duringPayout", "()Ljava/util/Optional;"⟩ : MethodName)) hown (hw _ (List.mem_of_getElem? (i := 111) rfl)) (hw _ (List.mem_of_getElem? (i := 112) rfl)) (notFace_of_selects (args := #[]) (mvT hZ (hw _ (List.mem_of_getElem? (i := 114) rfl)))) (hw _ (List.mem_of_getElem? (i := 114) rfl)) (hw _ (List.mem_of_getElem? (i := 113) rfl)) (by decide) hh_13 (a := b_1) f_18 (argsL := []) (rest := []) (Met1.back (W := 0) (rm14 l Z a0 hw b_1 (own_r (own_is (((p1.toUInt32 >>> ((1 : Int32) &&& 31).toUInt32).toInt32) &&& (3 : Int32)) (1 : Int32)) b2) o T_10.heap n0 f_12 f_14 f_15 f_16 f_17 (own_r_ref _ _)) hZ (hw _ (List.mem_of_getElem? (i := 115) rfl)) (hw _ (List.mem_of_getElem? (i := 67) rfl)) (by decide) (by decide)) (pc := 210) (Ls := #[.val (.int p1), .val (.int (own_b p1 (1 : Int32))), .val (.int (((p1.toUInt32 >>> ((1 : Int32) &&& 31).toUInt32).toInt32) &&& (3 : Int32))), .val (.int (own_b p1 (8 : Int32))), .val (.ref l1), .val (.ref b1), .val (.ref b2), .val (.ref d), .val (.ref b_1), .val (own_r (own_b p1 (1 : Int32)) b1), .val (own_r (own_is (((p1.toUInt32 >>> ((1 : Int32) &&& 31).toUInt32).toInt32) &&& (3 : Int32)) (1 : Int32)) b2), .val (.int (own_is (((p1.toUInt32 >>> ((1 : Int32) &&& 31).toUInt32).toInt32) &&& (3 : Int32)) (2 : Int32)))]) (by rw [hml]; rfl) (lenOf own_pd8 rfl) rfl (Nat.le_refl _) (hb hby at_210) (by decide) (by decide) ?_
  intro T_19 v_19 L_19 X_19 hQ_19
  obtain ⟨b_19, rfl, Nq_19, K_19, pf_19_0, pf_19_1⟩ := hQ_19
  have N_19 := Fr.app N_13 Nq_19
  have f_20 : Exa Z T_10.heap d "com/example/vestwright/vestwright/plan/DeathBenefit" := (f_11.keep K_10)
  show Go p e below (FinW s (Q0 Z p1 v1 s1 v2 s2 o hq n0) room_1.cells room_1.slots) T_19 (mkF m 213 #[.val (.int p1), .val (.int (own_b p1 (1 : Int32))), .val (.int (((p1.toUInt32 >>> ((1 : Int32) &&& 31).toUInt32).toInt32) &&& (3 : Int32))), .val (.int (own_b p1 (8 : Int32))), .val (.ref l1), .val (.ref b1), .val (.ref b2), .val (.ref d), .val (.ref b_1), .val (own_r (own_b p1 (1 : Int32)) b1), .val (own_r (own_is (((p1.toUInt32 >>> ((1 : Int32) &&& 31).toUInt32).toInt32) &&& (3 : Int32)) (1 : Int32)) b2), .val (.int (own_is (((p1.toUInt32 >>> ((1 : Int32) &&& 31).toUInt32).toInt32) &&& (3 : Int32)) (2 : Int32)))] [(.ref b_19)])
  refine Go.to (mkF m 214 #[.val (.int p1), .val (.int (own_b p1 (1 : Int32))), .val (.int (((p1.toUInt32 >>> ((1 : Int32) &&& 31).toUInt32).toInt32) &&& (3 : Int32))), .val (.int (own_b p1 (8 : Int32))), .val (.ref l1), .val (.ref b1), .val (.ref b2), .val (.ref d), .val (.ref b_1), .val (own_r (own_b p1 (1 : Int32)) b1), .val (own_r (own_is (((p1.toUInt32 >>> ((1 : Int32) &&& 31).toUInt32).toInt32) &&& (3 : Int32)) (1 : Int32)) b2), .val (.int (own_is (((p1.toUInt32 >>> ((1 : Int32) &&& 31).toUInt32).toInt32) &&& (3 : Int32)) (2 : Int32)))] [.null, (.ref b_19)]) (fun _ k => XS.aconstNull X_19.here hx rfl (hb hby at_213) k) ?_
  have f_21 : n0 ≤ T_19.heap.size := (Nat.le_trans f_12 K_19.1)
  refine Go.virt X_19 hx hZ (y := (⟨"java/util/Optional", "orElse", "(Ljava/lang/Object;)Ljava/lang/Object;"⟩ : MethodName)) (z := (⟨"java/util/Optional", "orElse", "(Ljava/lang/Object;)Ljava/lang/Object;"⟩ : MethodName)) hown (hw _ (List.mem_of_getElem? (i := 104) rfl)) (hw _ (List.mem_of_getElem? (i := 105) rfl)) (notFace_of_selects (args := #[]) (mvT hZ (hw _ (List.mem_of_getElem? (i := 107) rfl)))) (hw _ (List.mem_of_getElem? (i := 107) rfl)) (hw _ (List.mem_of_getElem? (i := 106) rfl)) (by decide) rfl (a := b_19) pf_19_0 (argsL := [.null]) (rest := []) (Met1.back (W := 0) (rm13 l Z a0 hw b_19 (own_r (own_is (((p1.toUInt32 >>> ((1 : Int32) &&& 31).toUInt32).toInt32) &&& (3 : Int32)) (1 : Int32)) b2) T_19.heap n0 f_21 pf_19_1 (own_r_ref _ _)) hZ (hw _ (List.mem_of_getElem? (i := 108) rfl)) (hw _ (List.mem_of_getElem? (i := 101) rfl)) (by decide) (by decide)) (pc := 214) (Ls := #[.val (.int p1), .val (.int (own_b p1 (1 : Int32))), .val (.int (((p1.toUInt32 >>> ((1 : Int32) &&& 31).toUInt32).toInt32) &&& (3 : Int32))), .val (.int (own_b p1 (8 : Int32))), .val (.ref l1), .val (.ref b1), .val (.ref b2), .val (.ref d), .val (.ref b_1), .val (own_r (own_b p1 (1 : Int32)) b1), .val (own_r (own_is (((p1.toUInt32 >>> ((1 : Int32) &&& 31).toUInt32).toInt32) &&& (3 : Int32)) (1 : Int32)) b2), .val (.int (own_is (((p1.toUInt32 >>> ((1 : Int32) &&& 31).toUInt32).toInt32) &&& (3 : Int32)) (2 : Int32)))]) (by rw [hml]; rfl) (lenOf own_pd9 rfl) rfl (Nat.le_refl _) (hb hby at_214) (by decide) (by decide) ?_
  intro T_22 v_22 L_22 X_22 hQ_22
  obtain ⟨rfl, Nq_22, hh_22⟩ := hQ_22
  have N_22 := Fr.app N_19 Nq_22
  show Go p e below (FinW s (Q0 Z p1 v1 s1 v2 s2 o hq n0) room_1.cells room_1.slots) T_22 (mkF m 217 #[.val (.int p1), .val (.int (own_b p1 (1 : Int32))), .val (.int (((p1.toUInt32 >>> ((1 : Int32) &&& 31).toUInt32).toInt32) &&& (3 : Int32))), .val (.int (own_b p1 (8 : Int32))), .val (.ref l1), .val (.ref b1), .val (.ref b2), .val (.ref d), .val (.ref b_1), .val (own_r (own_b p1 (1 : Int32)) b1), .val (own_r (own_is (((p1.toUInt32 >>> ((1 : Int32) &&& 31).toUInt32).toInt32) &&& (3 : Int32)) (1 : Int32)) b2), .val (.int (own_is (((p1.toUInt32 >>> ((1 : Int32) &&& 31).toUInt32).toInt32) &&& (3 : Int32)) (2 : Int32)))] [(own_r (own_is (((p1.toUInt32 >>> ((1 : Int32) &&& 31).toUInt32).toInt32) &&& (3 : Int32)) (1 : Int32)) b2)])
  refine Go.to (mkF m 219 #[.val (.int p1), .val (.int (own_b p1 (1 : Int32))), .val (.int (((p1.toUInt32 >>> ((1 : Int32) &&& 31).toUInt32).toInt32) &&& (3 : Int32))), .val (.int (own_b p1 (8 : Int32))), .val (.ref l1), .val (.ref b1), .val (.ref b2), .val (.ref d), .val (.ref b_1), .val (own_r (own_b p1 (1 : Int32)) b1), .val (own_r (own_is (((p1.toUInt32 >>> ((1 : Int32) &&& 31).toUInt32).toInt32) &&& (3 : Int32)) (1 : Int32)) b2), .val (.int (own_is (((p1.toUInt32 >>> ((1 : Int32) &&& 31).toUInt32).toInt32) &&& (3 : Int32)) (2 : Int32)))] [(own_r (own_is (((p1.toUInt32 >>> ((1 : Int32) &&& 31).toUInt32).toInt32) &&& (3 : Int32)) (1 : Int32)) b2), (own_r (own_is (((p1.toUInt32 >>> ((1 : Int32) &&& 31).toUInt32).toInt32) &&& (3 : Int32)) (1 : Int32)) b2)]) (fun _ k => XS.aload X_22.here hx rfl (hb hby at_217) rfl (own_r_ref _ _) k) ?_
  refine Go.to (mkF m 222 #[.val (.int p1), .val (.int (own_b p1 (1 : Int32))), .val (.int (((p1.toUInt32 >>> ((1 : Int32) &&& 31).toUInt32).toInt32) &&& (3 : Int32))), .val (.int (own_b p1 (8 : Int32))), .val (.ref l1), .val (.ref b1), .val (.ref b2), .val (.ref d), .val (.ref b_1), .val (own_r (own_b p1 (1 : Int32)) b1), .val (own_r (own_is (((p1.toUInt32 >>> ((1 : Int32) &&& 31).toUInt32).toInt32) &&& (3 : Int32)) (1 : Int32)) b2), .val (.int (own_is (((p1.toUInt32 >>> ((1 : Int32) &&& 31).toUInt32).toInt32) &&& (3 : Int32)) (2 : Int32)))] []) (fun _ k => acmp X_22 hx rfl (own_r_ref _ _) (own_r_ref _ _) (pc0 := 219) (pc' := 222) (same := true) rfl (hb hby at_219) rfl (decide_eq_true rfl) (by decide) (by decide) k) ?_
  refine Go.to (mkF m 224 #[.val (.int p1), .val (.int (own_b p1 (1 : Int32))), .val (.int (((p1.toUInt32 >>> ((1 : Int32) &&& 31).toUInt32).toInt32) &&& (3 : Int32))), .val (.int (own_b p1 (8 : Int32))), .val (.ref l1), .val (.ref b1), .val (.ref b2), .val (.ref d), .val (.ref b_1), .val (own_r (own_b p1 (1 : Int32)) b1), .val (own_r (own_is (((p1.toUInt32 >>> ((1 : Int32) &&& 31).toUInt32).toInt32) &&& (3 : Int32)) (1 : Int32)) b2), .val (.int (own_is (((p1.toUInt32 >>> ((1 : Int32) &&& 31).toUInt32).toInt32) &&& (3 : Int32)) (2 : Int32)))] [(.ref b_1)]) (fun _ k => XS.aload X_22.here hx rfl (hb hby at_222) rfl rfl k) ?_
  have f_23 : Fld Z T_19.heap b_1 "com/example/vestwright/vestwright/plan/DeathBenefit" "remainingPayments" "Z" (.int (own_is (((p1.toUInt32 >>> ((1 : Int32) &&& 31).toUInt32).toInt32) &&& (3 : Int32)) (2 : Int32))) := ((pf_1_4.keep K_10 nin0).keep K_19 nin0)
  have f_24 : Exa Z T_19.heap b_1 "com/example/vestwright/vestwright/plan/DeathBenefit" := (f_18.keep K_19)
  refine Go.virt X_22 hx hZ (y := (⟨"com/example/vestwright/vestwright/plan/DeathBenefit", "paysRemainingPaymentsDuringPayout", "()Z"⟩ : MethodName)) (z := (⟨"com/example/vestwright/vestwright/plan/DeathBenefit", "paysRemainingPaymentsDuringPayout", "()Z"⟩ : MethodName)) hown (hw _ (List.mem_of_getElem? (i := 116) rfl)) (hw _ (List.mem_of_getElem? (i := 117) rfl)) (notFace_of_selects (args := #[]) (mvT hZ (hw _ (List.mem_of_getElem? (i := 119) rfl)))) (hw _ (List.mem_of_getElem? (i := 119) rfl)) (hw _ (List.mem_of_getElem? (i := 118) rfl)) (by decide) hh_22 (a := b_1) f_24 (argsL := []) (rest := []) (Met1.back (W := 0) (rm15 l Z a0 hw b_1 (own_is (((p1.toUInt32 >>> ((1 : Int32) &&& 31).toUInt32).toInt32) &&& (3 : Int32)) (2 : Int32)) T_19.heap n0 f_21 f_23 (own_is_nar _ _)) hZ (hw _ (List.mem_of_getElem? (i := 120) rfl)) (hw _ (List.mem_of_getElem? (i := 67) rfl)) (by decide) (by decide)) (pc := 224) (Ls := #[.val (.int p1), .val (.int (own_b p1 (1 : Int32))), .val (.int (((p1.toUInt32 >>> ((1 : Int32) &&& 31).toUInt32).toInt32) &&& (3 : Int32))), .val (.int (own_b p1 (8 : Int32))), .val (.ref l1), .val (.ref b1), .val (.ref b2), .val (.ref d), .val (.ref b_1), .val (own_r (own_b p1 (1 : Int32)) b1), .val (own_r (own_is (((p1.toUInt32 >>> ((1 : Int32) &&& 31).toUInt32).toInt32) &&& (3 : Int32)) (1 : Int32)) b2), .val (.int (own_is (((p1.toUInt32 >>> ((1 : Int32) &&& 31).toUInt32).toInt32) &&& (3 : Int32)) (2 : Int32)))]) (by rw [hml]; rfl) (lenOf own_pd7 rfl) rfl (Nat.le_refl _) (hb hby at_224) (by decide) (by decide) ?_
  intro T_25 v_25 L_25 X_25 hQ_25
  obtain ⟨rfl, Nq_25, hh_25⟩ := hQ_25
  have N_25 := Fr.app N_22 Nq_25
  show Go p e below (FinW s (Q0 Z p1 v1 s1 v2 s2 o hq n0) room_1.cells room_1.slots) T_25 (mkF m 227 #[.val (.int p1), .val (.int (own_b p1 (1 : Int32))), .val (.int (((p1.toUInt32 >>> ((1 : Int32) &&& 31).toUInt32).toInt32) &&& (3 : Int32))), .val (.int (own_b p1 (8 : Int32))), .val (.ref l1), .val (.ref b1), .val (.ref b2), .val (.ref d), .val (.ref b_1), .val (own_r (own_b p1 (1 : Int32)) b1), .val (own_r (own_is (((p1.toUInt32 >>> ((1 : Int32) &&& 31).toUInt32).toInt32) &&& (3 : Int32)) (1 : Int32)) b2), .val (.int (own_is (((p1.toUInt32 >>> ((1 : Int32) &&& 31).toUInt32).toInt32) &&& (3 : Int32)) (2 : Int32)))] [(.int (own_is (((p1.toUInt32 >>> ((1 : Int32) &&& 31).toUInt32).toInt32) &&& (3 : Int32)) (2 : Int32)))])
  refine Go.to (mkF m 229 #[.val (.int p1), .val (.int (own_b p1 (1 : Int32))), .val (.int (((p1.toUInt32 >>> ((1 : Int32) &&& 31).toUInt32).toInt32) &&& (3 : Int32))), .val (.int (own_b p1 (8 : Int32))), .val (.ref l1), .val (.ref b1), .val (.ref b2), .val (.ref d), .val (.ref b_1), .val (own_r (own_b p1 (1 : Int32)) b1), .val (own_r (own_is (((p1.toUInt32 >>> ((1 : Int32) &&& 31).toUInt32).toInt32) &&& (3 : Int32)) (1 : Int32)) b2), .val (.int (own_is (((p1.toUInt32 >>> ((1 : Int32) &&& 31).toUInt32).toInt32) &&& (3 : Int32)) (2 : Int32)))] [(.int (own_is (((p1.toUInt32 >>> ((1 : Int32) &&& 31).toUInt32).toInt32) &&& (3 : Int32)) (2 : Int32))), (.int (own_is (((p1.toUInt32 >>> ((1 : Int32) &&& 31).toUInt32).toInt32) &&& (3 : Int32)) (2 : Int32)))]) (fun _ k => XS.iload X_25.here hx rfl (hb hby at_227) rfl  k) ?_
  refine Go.to (mkF m 232 #[.val (.int p1), .val (.int (own_b p1 (1 : Int32))), .val (.int (((p1.toUInt32 >>> ((1 : Int32) &&& 31).toUInt32).toInt32) &&& (3 : Int32))), .val (.int (own_b p1 (8 : Int32))), .val (.ref l1), .val (.ref b1), .val (.ref b2), .val (.ref d), .val (.ref b_1), .val (own_r (own_b p1 (1 : Int32)) b1), .val (own_r (own_is (((p1.toUInt32 >>> ((1 : Int32) &&& 31).toUInt32).toInt32) &&& (3 : Int32)) (1 : Int32)) b2), .val (.int (own_is (((p1.toUInt32 >>> ((1 : Int32) &&& 31).toUInt32).toInt32) &&& (3 : Int32)) (2 : Int32)))] []) (fun _ k => XS.icmpNo X_25.here hx rfl (hb hby at_229) rfl (teq rfl).2 k) ?_
  refine Go.to (mkF m 234 #[.val (.int p1), .val (.int (own_b p1 (1 : Int32))), .val (.int (((p1.toUInt32 >>> ((1 : Int32) &&& 31).toUInt32).toInt32) &&& (3 : Int32))), .val (.int (own_b p1 (8 : Int32))), .val (.ref l1), .val (.ref b1), .val (.ref b2), .val (.ref d), .val (.ref b_1), .val (own_r (own_b p1 (1 : Int32)) b1), .val (own_r (own_is (((p1.toUInt32 >>> ((1 : Int32) &&& 31).toUInt32).toInt32) &&& (3 : Int32)) (1 : Int32)) b2), .val (.int (own_is (((p1.toUInt32 >>> ((1 : Int32) &&& 31).toUInt32).toInt32) &&& (3 : Int32)) (2 : Int32)))] [(.ref d)]) (fun _ k => XS.aload X_25.here hx rfl (hb hby at_232) rfl rfl k) ?_
  have f_26 : Fld Z T_19.heap d "com/example/vestwright/vestwright/plan/DeathBenefit" "nothingInService" "Z" (.int (own_b p1 (8 : Int32))) := (((PF_d_nothingInService.keep K_1 nin0).keep K_10 nin0).keep K_19 nin0)
  have f_27 : Exa Z T_19.heap d "com/example/vestwright/vestwright/plan/DeathBenefit" := (f_20.keep K_19)
  refine Go.virt X_25 hx hZ (y := (⟨"com/example/vestwright/vestwright/plan/DeathBenefit", "paysNothingInService", "()Z"⟩ : MethodName)) (z := (⟨"com/example/vestwright/vestwright/plan/DeathBenefit", "paysNothingInService", "()Z"⟩ : MethodName)) hown (hw _ (List.mem_of_getElem? (i := 89) rfl)) (hw _ (List.mem_of_getElem? (i := 90) rfl)) (notFace_of_selects (args := #[]) (mvT hZ (hw _ (List.mem_of_getElem? (i := 92) rfl)))) (hw _ (List.mem_of_getElem? (i := 92) rfl)) (hw _ (List.mem_of_getElem? (i := 91) rfl)) (by decide) hh_25 (a := d) f_27 (argsL := []) (rest := []) (Met1.back (W := 0) (rm10 l Z a0 hw d (own_b p1 (8 : Int32)) T_19.heap n0 f_21 f_26 (own_b_nar _ _)) hZ (hw _ (List.mem_of_getElem? (i := 93) rfl)) (hw _ (List.mem_of_getElem? (i := 67) rfl)) (by decide) (by decide)) (pc := 234) (Ls := #[.val (.int p1), .val (.int (own_b p1 (1 : Int32))), .val (.int (((p1.toUInt32 >>> ((1 : Int32) &&& 31).toUInt32).toInt32) &&& (3 : Int32))), .val (.int (own_b p1 (8 : Int32))), .val (.ref l1), .val (.ref b1), .val (.ref b2), .val (.ref d), .val (.ref b_1), .val (own_r (own_b p1 (1 : Int32)) b1), .val (own_r (own_is (((p1.toUInt32 >>> ((1 : Int32) &&& 31).toUInt32).toInt32) &&& (3 : Int32)) (1 : Int32)) b2), .val (.int (own_is (((p1.toUInt32 >>> ((1 : Int32) &&& 31).toUInt32).toInt32) &&& (3 : Int32)) (2 : Int32)))]) (by rw [hml]; rfl) (lenOf own_pd7 rfl) rfl (Nat.le_refl _) (hb hby at_234) (by decide) (by decide) ?_
  intro T_28 v_28 L_28 X_28 hQ_28
  obtain ⟨rfl, Nq_28, hh_28⟩ := hQ_28
  have N_28 := Fr.app N_25 Nq_28
  show Go p e below (FinW s (Q0 Z p1 v1 s1 v2 s2 o hq n0) room_1.cells room_1.slots) T_28 (mkF m 237 #[.val (.int p1), .val (.int (own_b p1 (1 : Int32))), .val (.int (((p1.toUInt32 >>> ((1 : Int32) &&& 31).toUInt32).toInt32) &&& (3 : Int32))), .val (.int (own_b p1 (8 : Int32))), .val (.ref l1), .val (.ref b1), .val (.ref b2), .val (.ref d), .val (.ref b_1), .val (own_r (own_b p1 (1 : Int32)) b1), .val (own_r (own_is (((p1.toUInt32 >>> ((1 : Int32) &&& 31).toUInt32).toInt32) &&& (3 : Int32)) (1 : Int32)) b2), .val (.int (own_is (((p1.toUInt32 >>> ((1 : Int32) &&& 31).toUInt32).toInt32) &&& (3 : Int32)) (2 : Int32)))] [(.int (own_b p1 (8 : Int32)))])
  refine Go.to (mkF m 238 #[.val (.int p1), .val (.int (own_b p1 (1 : Int32))), .val (.int (((p1.toUInt32 >>> ((1 : Int32) &&& 31).toUInt32).toInt32) &&& (3 : Int32))), .val (.int (own_b p1 (8 : Int32))), .val (.ref l1), .val (.ref b1), .val (.ref b2), .val (.ref d), .val (.ref b_1), .val (own_r (own_b p1 (1 : Int32)) b1), .val (own_r (own_is (((p1.toUInt32 >>> ((1 : Int32) &&& 31).toUInt32).toInt32) &&& (3 : Int32)) (1 : Int32)) b2), .val (.int (own_is (((p1.toUInt32 >>> ((1 : Int32) &&& 31).toUInt32).toInt32) &&& (3 : Int32)) (2 : Int32)))] [(.int (own_b p1 (8 : Int32))), (.int (own_b p1 (8 : Int32)))]) (fun _ k => XS.iloadN X_28.here hx rfl (hb hby at_237) rfl  k) ?_
  refine Go.to (mkF m 241 #[.val (.int p1), .val (.int (own_b p1 (1 : Int32))), .val (.int (((p1.toUInt32 >>> ((1 : Int32) &&& 31).toUInt32).toInt32) &&& (3 : Int32))), .val (.int (own_b p1 (8 : Int32))), .val (.ref l1), .val (.ref b1), .val (.ref b2), .val (.ref d), .val (.ref b_1), .val (own_r (own_b p1 (1 : Int32)) b1), .val (own_r (own_is (((p1.toUInt32 >>> ((1 : Int32) &&& 31).toUInt32).toInt32) &&& (3 : Int32)) (1 : Int32)) b2), .val (.int (own_is (((p1.toUInt32 >>> ((1 : Int32) &&& 31).toUInt32).toInt32) &&& (3 : Int32)) (2 : Int32)))] []) (fun _ k => XS.icmpNo X_28.here hx rfl (hb hby at_238) rfl (teq rfl).2 k) ?_
  refine Go.to (mkF m 243 #[.val (.int p1), .val (.int (own_b p1 (1 : Int32))), .val (.int (((p1.toUInt32 >>> ((1 : Int32) &&& 31).toUInt32).toInt32) &&& (3 : Int32))), .val (.int (own_b p1 (8 : Int32))), .val (.ref l1), .val (.ref b1), .val (.ref b2), .val (.ref d), .val (.ref b_1), .val (own_r (own_b p1 (1 : Int32)) b1), .val (own_r (own_is (((p1.toUInt32 >>> ((1 : Int32) &&& 31).toUInt32).toInt32) &&& (3 : Int32)) (1 : Int32)) b2), .val (.int (own_is (((p1.toUInt32 >>> ((1 : Int32) &&& 31).toUInt32).toInt32) &&& (3 : Int32)) (2 : Int32)))] [(.ref d)]) (fun _ k => XS.aload X_28.here hx rfl (hb hby at_241) rfl rfl k) ?_
  have f_29 : Fld Z T_19.heap d "com/example/vestwright/vestwright/plan/DeathBenefit" "afterSeparation" "Lcom/example/vestwright/vestwright/plan/Benefit;" (own_r (own_b p1 (1 : Int32)) b1) := (((PF_d_afterSeparation.keep K_1 nin0).keep K_10 nin0).keep K_19 nin0)
  have f_30 : Sta Z T_19.heap "java/util/Optional" "EMPTY" "Ljava/util/Optional;" (.ref o) := (own_sta_keep f_15 K_19 all0)
  have f_31 : Exa Z T_19.heap o "java/util/Optional" := (f_16.keep K_19)
  have f_32 : Fld Z T_19.heap o "java/util/Optional" "value" "Ljava/lang/Object;" .null := (f_17.keep K_19 nin0)
  refine Go.virt X_28 hx hZ (y := (⟨"com/example/vestwright/vestwright/plan/DeathBenefit", "afterSeparation", "()Ljava/util/Optional;"⟩ : MethodName)) (z := (⟨"com/example/vestwright/vestwright/plan/DeathBenefit", "afterSeparation", "()Ljava/util/Optional;"⟩ : MethodName)) hown (hw _ (List.mem_of_getElem? (i := 94) rfl)) (hw _ (List.mem_of_getElem? (i := 95) rfl)) (notFace_of_selects (args := #[]) (mvT hZ (hw _ (List.mem_of_getElem? (i := 97) rfl)))) (hw _ (List.mem_of_getElem? (i := 97) rfl)) (hw _ (List.mem_of_getElem? (i := 96) rfl)) (by decide) hh_28 (a := d) f_27 (argsL := []) (rest := []) (Met1.back (W := 0) (rm11 l Z a0 hw d (own_r (own_b p1 (1 : Int32)) b1) o T_19.heap n0 f_21 f_29 f_30 f_31 f_32 (own_r_ref _ _)) hZ (hw _ (List.mem_of_getElem? (i := 98) rfl)) (hw _ (List.mem_of_getElem? (i := 67) rfl)) (by decide) (by decide)) (pc := 243) (Ls := #[.val (.int p1), .val (.int (own_b p1 (1 : Int32))), .val (.int (((p1.toUInt32 >>> ((1 : Int32) &&& 31).toUInt32).toInt32) &&& (3 : Int32))), .val (.int (own_b p1 (8 : Int32))), .val (.ref l1), .val (.ref b1), .val (.ref b2), .val (.ref d), .val (.ref b_1), .val (own_r (own_b p1 (1 : Int32)) b1), .val (own_r (own_is (((p1.toUInt32 >>> ((1 : Int32) &&& 31).toUInt32).toInt32) &&& (3 : Int32)) (1 : Int32)) b2), .val (.int (own_is (((p1.toUInt32 >>> ((1 : Int32) &&& 31).toUInt32).toInt32) &&& (3 : Int32)) (2 : Int32)))]) (by rw [hml]; rfl) (lenOf own_pd8 rfl) rfl (Nat.le_refl _) (hb hby at_243) (by decide) (by decide) ?_
  intro T_33 v_33 L_33 X_33 hQ_33
  obtain ⟨b_33, rfl, Nq_33, K_33, pf_33_0, pf_33_1⟩ := hQ_33
  have N_33 := Fr.app N_28 Nq_33
  have f_34 : Exa Z T_19.heap b_10 "java/util/Optional" := (pf_10_0.keep K_19)
  show Go p e below (FinW s (Q0 Z p1 v1 s1 v2 s2 o hq n0) room_1.cells room_1.slots) T_33 (mkF m 246 #[.val (.int p1), .val (.int (own_b p1 (1 : Int32))), .val (.int (((p1.toUInt32 >>> ((1 : Int32) &&& 31).toUInt32).toInt32) &&& (3 : Int32))), .val (.int (own_b p1 (8 : Int32))), .val (.ref l1), .val (.ref b1), .val (.ref b2), .val (.ref d), .val (.ref b_1), .val (own_r (own_b p1 (1 : Int32)) b1), .val (own_r (own_is (((p1.toUInt32 >>> ((1 : Int32) &&& 31).toUInt32).toInt32) &&& (3 : Int32)) (1 : Int32)) b2), .val (.int (own_is (((p1.toUInt32 >>> ((1 : Int32) &&& 31).toUInt32).toInt32) &&& (3 : Int32)) (2 : Int32)))] [(.ref b_33)])
  refine Go.to (mkF m 247 #[.val (.int p1), .val (.int (own_b p1 (1 : Int32))), .val (.int (((p1.toUInt32 >>> ((1 : Int32) &&& 31).toUInt32).toInt32) &&& (3 : Int32))), .val (.int (own_b p1 (8 : Int32))), .val (.ref l1), .val (.ref b1), .val (.ref b2), .val (.ref d), .val (.ref b_1), .val (own_r (own_b p1 (1 : Int32)) b1), .val (own_r (own_is (((p1.toUInt32 >>> ((1 : Int32) &&& 31).toUInt32).toInt32) &&& (3 : Int32)) (1 : Int32)) b2), .val (.int (own_is (((p1.toUInt32 >>> ((1 : Int32) &&& 31).toUInt32).toInt32) &&& (3 : Int32)) (2 : Int32)))] [.null, (.ref b_33)]) (fun _ k => XS.aconstNull X_33.here hx rfl (hb hby at_246) k) ?_
  have f_35 : n0 ≤ T_33.heap.size := (Nat.le_trans f_21 K_33.1)
  refine Go.virt X_33 hx hZ (y := (⟨"java/util/Optional", "orElse", "(Ljava/lang/Object;)Ljava/lang/Object;"⟩ : MethodName)) (z := (⟨"java/util/Optional", "orElse", "(Ljava/lang/Object;)Ljava/lang/Object;"⟩ : MethodName)) hown (hw _ (List.mem_of_getElem? (i := 104) rfl)) (hw _ (List.mem_of_getElem? (i := 105) rfl)) (notFace_of_selects (args := #[]) (mvT hZ (hw _ (List.mem_of_getElem? (i := 107) rfl)))) (hw _ (List.mem_of_getElem? (i := 107) rfl)) (hw _ (List.mem_of_getElem? (i := 106) rfl)) (by decide) rfl (a := b_33) pf_33_0 (argsL := [.null]) (rest := []) (Met1.back (W := 0) (rm13 l Z a0 hw b_33 (own_r (own_b p1 (1 : Int32)) b1) T_33.heap n0 f_35 pf_33_1 (own_r_ref _ _)) hZ (hw _ (List.mem_of_getElem? (i := 108) rfl)) (hw _ (List.mem_of_getElem? (i := 101) rfl)) (by decide) (by decide)) (pc := 247) (Ls := #[.val (.int p1), .val (.int (own_b p1 (1 : Int32))), .val (.int (((p1.toUInt32 >>> ((1 : Int32) &&& 31).toUInt32).toInt32) &&& (3 : Int32))), .val (.int (own_b p1 (8 : Int32))), .val (.ref l1), .val (.ref b1), .val (.ref b2), .val (.ref d), .val (.ref b_1), .val (own_r (own_b p1 (1 : Int32)) b1), .val (own_r (own_is (((p1.toUInt32 >>> ((1 : Int32) &&& 31).toUInt32).toInt32) &&& (3 : Int32)) (1 : Int32)) b2), .val (.int (own_is (((p1.toUInt32 >>> ((1 : Int32) &&& 31).toUInt32).toInt32) &&& (3 : Int32)) (2 : Int32)))]) (by rw [hml]; rfl) (lenOf own_pd9 rfl) rfl (Nat.le_refl _) (hb hby at_247) (by decide) (by decide) ?_
  intro T_36 v_36 L_36 X_36 hQ_36
  obtain ⟨rfl, Nq_36, hh_36⟩ := hQ_36
  have N_36 := Fr.app N_33 Nq_36
  show Go p e below (FinW s (Q0 Z p1 v1 s1 v2 s2 o hq n0) room_1.cells room_1.slots) T_36 (mkF m 250 #[.val (.int p1), .val (.int (own_b p1 (1 : Int32))), .val (.int (((p1.toUInt32 >>> ((1 : Int32) &&& 31).toUInt32).toInt32) &&& (3 : Int32))), .val (.int (own_b p1 (8 : Int32))), .val (.ref l1), .val (.ref b1), .val (.ref b2), .val (.ref d), .val (.ref b_1), .val (own_r (own_b p1 (1 : Int32)) b1), .val (own_r (own_is (((p1.toUInt32 >>> ((1 : Int32) &&& 31).toUInt32).toInt32) &&& (3 : Int32)) (1 : Int32)) b2), .val (.int (own_is (((p1.toUInt32 >>> ((1 : Int32) &&& 31).toUInt32).toInt32) &&& (3 : Int32)) (2 : Int32)))] [(own_r (own_b p1 (1 : Int32)) b1)])
  refine Go.to (mkF m 252 #[.val (.int p1), .val (.int (own_b p1 (1 : Int32))), .val (.int (((p1.toUInt32 >>> ((1 : Int32) &&& 31).toUInt32).toInt32) &&& (3 : Int32))), .val (.int (own_b p1 (8 : Int32))), .val (.ref l1), .val (.ref b1), .val (.ref b2), .val (.ref d), .val (.ref b_1), .val (own_r (own_b p1 (1 : Int32)) b1), .val (own_r (own_is (((p1.toUInt32 >>> ((1 : Int32) &&& 31).toUInt32).toInt32) &&& (3 : Int32)) (1 : Int32)) b2), .val (.int (own_is (((p1.toUInt32 >>> ((1 : Int32) &&& 31).toUInt32).toInt32) &&& (3 : Int32)) (2 : Int32)))] [(own_r (own_b p1 (1 : Int32)) b1), (own_r (own_b p1 (1 : Int32)) b1)]) (fun _ k => XS.aload X_36.here hx rfl (hb hby at_250) rfl (own_r_ref _ _) k) ?_
  refine Go.to (mkF m 255 #[.val (.int p1), .val (.int (own_b p1 (1 : Int32))), .val (.int (((p1.toUInt32 >>> ((1 : Int32) &&& 31).toUInt32).toInt32) &&& (3 : Int32))), .val (.int (own_b p1 (8 : Int32))), .val (.ref l1), .val (.ref b1), .val (.ref b2), .val (.ref d), .val (.ref b_1), .val (own_r (own_b p1 (1 : Int32)) b1), .val (own_r (own_is (((p1.toUInt32 >>> ((1 : Int32) &&& 31).toUInt32).toInt32) &&& (3 : Int32)) (1 : Int32)) b2), .val (.int (own_is (((p1.toUInt32 >>> ((1 : Int32) &&& 31).toUInt32).toInt32) &&& (3 : Int32)) (2 : Int32)))] []) (fun _ k => acmp X_36 hx rfl (own_r_ref _ _) (own_r_ref _ _) (pc0 := 252) (pc' := 255) (same := true) rfl (hb hby at_252) rfl (decide_eq_true rfl) (by decide) (by decide) k) ?_
  refine Go.to (mkF m 257 #[.val (.int p1), .val (.int (own_b p1 (1 : Int32))), .val (.int (((p1.toUInt32 >>> ((1 : Int32) &&& 31).toUInt32).toInt32) &&& (3 : Int32))), .val (.int (own_b p1 (8 : Int32))), .val (.ref l1), .val (.ref b1), .val (.ref b2), .val (.ref d), .val (.ref b_1), .val (own_r (own_b p1 (1 : Int32)) b1), .val (own_r (own_is (((p1.toUInt32 >>> ((1 : Int32) &&& 31).toUInt32).toInt32) &&& (3 : Int32)) (1 : Int32)) b2), .val (.int (own_is (((p1.toUInt32 >>> ((1 : Int32) &&& 31).toUInt32).toInt32) &&& (3 : Int32)) (2 : Int32)))] [(.ref d)]) (fun _ k => XS.aload X_36.here hx rfl (hb hby at_255) rfl rfl k) ?_
  have f_37 : Fld Z T_33.heap d "com/example/vestwright/vestwright/plan/DeathBenefit" "duringPayout" "Lcom/example/vestwright/vestwright/plan/Benefit;" (own_r (own_is (((p1.toUInt32 >>> ((1 : Int32) &&& 31).toUInt32).toInt32) &&& (3 : Int32)) (1 : Int32)) b2) := ((((PF_d_duringPayout.keep K_1 nin0).keep K_10 nin0).keep K_19 nin0).keep K_33 nin0)
  have f_38 : Sta Z T_33.heap "java/util/Optional" "EMPTY" "Ljava/util/Optional;" (.ref o) := (own_sta_keep f_30 K_33 all0)
  have f_39 : Exa Z T_33.heap o "java/util/Optional" := (f_31.keep K_33)
  have f_40 : Fld Z T_33.heap o "java/util/Optional" "value" "Ljava/lang/Object;" .null := (f_32.keep K_33 nin0)
  have f_41 : Exa Z T_33.heap d "com/example/vestwright/vestwright/plan/DeathBenefit" := (f_27.keep K_33)
  refine Go.virt X_36 hx hZ (y := (⟨"com/example/vestwright/vestwright/plan/DeathBenefit", "duringPayout", "()Ljava/util/Optional;"⟩ : MethodName)) (z := (⟨"com/example/vestwright/vestwright/plan/DeathBenefit", "duringPayout", "()Ljava/util/Optional;"⟩ : MethodName)) hown (hw _ (List.mem_of_getElem? (i := 111) rfl)) (hw _ (List.mem_of_getElem? (i := 112) rfl)) (notFace_of_selects (args := #[]) (mvT hZ (hw _ (List.mem_of_getElem? (i := 114) rfl)))) (hw _ (List.mem_of_getElem? (i := 114) rfl)) (hw _ (List.mem_of_getElem? (i := 113) rfl)) (by decide) hh_36 (a := d) f_41 (argsL := []) (rest := []) (Met1.back (W := 0) (rm14 l Z a0 hw d (own_r (own_is (((p1.toUInt32 >>> ((1 : Int32) &&& 31).toUInt32).toInt32) &&& (3 : Int32)) (1 : Int32)) b2) o T_33.heap n0 f_35 f_37 f_38 f_39 f_40 (own_r_ref _ _)) hZ (hw _ (List.mem_of_getElem? (i := 115) rfl)) (hw _ (List.mem_of_getElem? (i := 67) rfl)) (by decide) (by decide)) (pc := 257) (Ls := #[.val (.int p1), .val (.int (own_b p1 (1 : Int32))), .val (.int (((p1.toUInt32 >>> ((1 : Int32) &&& 31).toUInt32).toInt32) &&& (3 : Int32))), .val (.int (own_b p1 (8 : Int32))), .val (.ref l1), .val (.ref b1), .val (.ref b2), .val (.ref d), .val (.ref b_1), .val (own_r (own_b p1 (1 : Int32)) b1), .val (own_r (own_is (((p1.toUInt32 >>> ((1 : Int32) &&& 31).toUInt32).toInt32) &&& (3 : Int32)) (1 : Int32)) b2), .val (.int (own_is (((p1.toUInt32 >>> ((1 : Int32) &&& 31).toUInt32).toInt32) &&& (3 : Int32)) (2 : Int32)))]) (by rw [hml]; rfl) (lenOf own_pd8 rfl) rfl (Nat.le_refl _) (hb hby at_257) (by decide) (by decide) ?_
  intro T_42 v_42 L_42 X_42 hQ_42
  obtain ⟨b_42, rfl, Nq_42, K_42, pf_42_0, pf_42_1⟩ := hQ_42
  have N_42 := Fr.app N_36 Nq_42
  have f_43 : Exa Z T_33.heap b_1 "com/example/vestwright/vestwright/plan/DeathBenefit" := (f_24.keep K_33)
  have f_44 : Exa Z T_33.heap b_10 "java/util/Optional" := (f_34.keep K_33)
  have f_45 : Exa Z T_33.heap b_19 "java/util/Optional" := (pf_19_0.keep K_33)
  show Go p e below (FinW s (Q0 Z p1 v1 s1 v2 s2 o hq n0) room_1.cells room_1.slots) T_42 (mkF m 260 #[.val (.int p1), .val (.int (own_b p1 (1 : Int32))), .val (.int (((p1.toUInt32 >>> ((1 : Int32) &&& 31).toUInt32).toInt32) &&& (3 : Int32))), .val (.int (own_b p1 (8 : Int32))), .val (.ref l1), .val (.ref b1), .val (.ref b2), .val (.ref d), .val (.ref b_1), .val (own_r (own_b p1 (1 : Int32)) b1), .val (own_r (own_is (((p1.toUInt32 >>> ((1 : Int32) &&& 31).toUInt32).toInt32) &&& (3 : Int32)) (1 : Int32)) b2), .val (.int (own_is (((p1.toUInt32 >>> ((1 : Int32) &&& 31).toUInt32).toInt32) &&& (3 : Int32)) (2 : Int32)))] [(.ref b_42)])
  refine Go.to (mkF m 261 #[.val (.int p1), .val (.int (own_b p1 (1 : Int32))), .val (.int (((p1.toUInt32 >>> ((1 : Int32) &&& 31).toUInt32).toInt32) &&& (3 : Int32))), .val (.int (own_b p1 (8 : Int32))), .val (.ref l1), .val (.ref b1), .val (.ref b2), .val (.ref d), .val (.ref b_1), .val (own_r (own_b p1 (1 : Int32)) b1), .val (own_r (own_is (((p1.toUInt32 >>> ((1 : Int32) &&& 31).toUInt32).toInt32) &&& (3 : Int32)) (1 : Int32)) b2), .val (.int (own_is (((p1.toUInt32 >>> ((1 : Int32) &&& 31).toUInt32).toInt32) &&& (3 : Int32)) (2 : Int32)))] [.null, (.ref b_42)]) (fun _ k => XS.aconstNull X_42.here hx rfl (hb hby at_260) k) ?_
  have f_46 : n0 ≤ T_42.heap.size := (Nat.le_trans f_35 K_42.1)
  refine Go.virt X_42 hx hZ (y := (⟨"java/util/Optional", "orElse", "(Ljava/lang/Object;)Ljava/lang/Object;"⟩ : MethodName)) (z := (⟨"java/util/Optional", "orElse", "(Ljava/lang/Object;)Ljava/lang/Object;"⟩ : MethodName)) hown (hw _ (List.mem_of_getElem? (i := 104) rfl)) (hw _ (List.mem_of_getElem? (i := 105) rfl)) (notFace_of_selects (args := #[]) (mvT hZ (hw _ (List.mem_of_getElem? (i := 107) rfl)))) (hw _ (List.mem_of_getElem? (i := 107) rfl)) (hw _ (List.mem_of_getElem? (i := 106) rfl)) (by decide) rfl (a := b_42) pf_42_0 (argsL := [.null]) (rest := []) (Met1.back (W := 0) (rm13 l Z a0 hw b_42 (own_r (own_is (((p1.toUInt32 >>> ((1 : Int32) &&& 31).toUInt32).toInt32) &&& (3 : Int32)) (1 : Int32)) b2) T_42.heap n0 f_46 pf_42_1 (own_r_ref _ _)) hZ (hw _ (List.mem_of_getElem? (i := 108) rfl)) (hw _ (List.mem_of_getElem? (i := 101) rfl)) (by decide) (by decide)) (pc := 261) (Ls := #[.val (.int p1), .val (.int (own_b p1 (1 : Int32))), .val (.int (((p1.toUInt32 >>> ((1 : Int32) &&& 31).toUInt32).toInt32) &&& (3 : Int32))), .val (.int (own_b p1 (8 : Int32))), .val (.ref l1), .val (.ref b1), .val (.ref b2), .val (.ref d), .val (.ref b_1), .val (own_r (own_b p1 (1 : Int32)) b1), .val (own_r (own_is (((p1.toUInt32 >>> ((1 : Int32) &&& 31).toUInt32).toInt32) &&& (3 : Int32)) (1 : Int32)) b2), .val (.int (own_is (((p1.toUInt32 >>> ((1 : Int32) &&& 31).toUInt32).toInt32) &&& (3 : Int32)) (2 : Int32)))]) (by rw [hml]; rfl) (lenOf own_pd9 rfl) rfl (Nat.le_refl _) (hb hby at_261) (by decide) (by decide) ?_
  intro T_47 v_47 L_47 X_47 hQ_47
  obtain ⟨rfl, Nq_47, hh_47⟩ := hQ_47
  have N_47 := Fr.app N_42 Nq_47
  show Go p e below (FinW s (Q0 Z p1 v1 s1 v2 s2 o hq n0) room_1.cells room_1.slots) T_47 (mkF m 264 #[.val (.int p1), .val (.int (own_b p1 (1 : Int32))), .val (.int (((p1.toUInt32 >>> ((1 : Int32) &&& 31).toUInt32).toInt32) &&& (3 : Int32))), .val (.int (own_b p1 (8 : Int32))), .val (.ref l1), .val (.ref b1), .val (.ref b2), .val (.ref d), .val (.ref b_1), .val (own_r (own_b p1 (1 : Int32)) b1), .val (own_r (own_is (((p1.toUInt32 >>> ((1 : Int32) &&& 31).toUInt32).toInt32) &&& (3 : Int32)) (1 : Int32)) b2), .val (.int (own_is (((p1.toUInt32 >>> ((1 : Int32) &&& 31).toUInt32).toInt32) &&& (3 : Int32)) (2 : Int32)))] [(own_r (own_is (((p1.toUInt32 >>> ((1 : Int32) &&& 31).toUInt32).toInt32) &&& (3 : Int32)) (1 : Int32)) b2)])
  refine Go.to (mkF m 266 #[.val (.int p1), .val (.int (own_b p1 (1 : Int32))), .val (.int (((p1.toUInt32 >>> ((1 : Int32) &&& 31).toUInt32).toInt32) &&& (3 : Int32))), .val (.int (own_b p1 (8 : Int32))), .val (.ref l1), .val (.ref b1), .val (.ref b2), .val (.ref d), .val (.ref b_1), .val (own_r (own_b p1 (1 : Int32)) b1), .val (own_r (own_is (((p1.toUInt32 >>> ((1 : Int32) &&& 31).toUInt32).toInt32) &&& (3 : Int32)) (1 : Int32)) b2), .val (.int (own_is (((p1.toUInt32 >>> ((1 : Int32) &&& 31).toUInt32).toInt32) &&& (3 : Int32)) (2 : Int32)))] [(own_r (own_is (((p1.toUInt32 >>> ((1 : Int32) &&& 31).toUInt32).toInt32) &&& (3 : Int32)) (1 : Int32)) b2), (own_r (own_is (((p1.toUInt32 >>> ((1 : Int32) &&& 31).toUInt32).toInt32) &&& (3 : Int32)) (1 : Int32)) b2)]) (fun _ k => XS.aload X_47.here hx rfl (hb hby at_264) rfl (own_r_ref _ _) k) ?_
  refine Go.to (mkF m 269 #[.val (.int p1), .val (.int (own_b p1 (1 : Int32))), .val (.int (((p1.toUInt32 >>> ((1 : Int32) &&& 31).toUInt32).toInt32) &&& (3 : Int32))), .val (.int (own_b p1 (8 : Int32))), .val (.ref l1), .val (.ref b1), .val (.ref b2), .val (.ref d), .val (.ref b_1), .val (own_r (own_b p1 (1 : Int32)) b1), .val (own_r (own_is (((p1.toUInt32 >>> ((1 : Int32) &&& 31).toUInt32).toInt32) &&& (3 : Int32)) (1 : Int32)) b2), .val (.int (own_is (((p1.toUInt32 >>> ((1 : Int32) &&& 31).toUInt32).toInt32) &&& (3 : Int32)) (2 : Int32)))] []) (fun _ k => acmp X_47 hx rfl (own_r_ref _ _) (own_r_ref _ _) (pc0 := 266) (pc' := 269) (same := true) rfl (hb hby at_266) rfl (decide_eq_true rfl) (by decide) (by decide) k) ?_
  refine Go.to (mkF m 271 #[.val (.int p1), .val (.int (own_b p1 (1 : Int32))), .val (.int (((p1.toUInt32 >>> ((1 : Int32) &&& 31).toUInt32).toInt32) &&& (3 : Int32))), .val (.int (own_b p1 (8 : Int32))), .val (.ref l1), .val (.ref b1), .val (.ref b2), .val (.ref d), .val (.ref b_1), .val (own_r (own_b p1 (1 : Int32)) b1), .val (own_r (own_is (((p1.toUInt32 >>> ((1 : Int32) &&& 31).toUInt32).toInt32) &&& (3 : Int32)) (1 : Int32)) b2), .val (.int (own_is (((p1.toUInt32 >>> ((1 : Int32) &&& 31).toUInt32).toInt32) &&& (3 : Int32)) (2 : Int32)))] [(.ref d)]) (fun _ k => XS.aload X_47.here hx rfl (hb hby at_269) rfl rfl k) ?_
  have f_48 : Fld Z T_42.heap d "com/example/vestwright/vestwright/plan/DeathBenefit" "remainingPayments" "Z" (.int (own_is (((p1.toUInt32 >>> ((1 : Int32) &&& 31).toUInt32).toInt32) &&& (3 : Int32)) (2 : Int32))) := (((((PF_d_remainingPayments.keep K_1 nin0).keep K_10 nin0).keep K_19 nin0).keep K_33 nin0).keep K_42 nin0)
  have f_49 : Exa Z T_42.heap d "com/example/vestwright/vestwright/plan/DeathBenefit" := (f_41.keep K_42)
  refine Go.virt X_47 hx hZ (y := (⟨"com/example/vestwright/vestwright/plan/DeathBenefit", "paysRemainingPaymentsDuringPayout", "()Z"⟩ : MethodName)) (z := (⟨"com/example/vestwright/vestwright/plan/DeathBenefit", "paysRemainingPaymentsDuringPayout", "()Z"⟩ : MethodName)) hown (hw _ (List.mem_of_getElem? (i := 116) rfl)) (hw _ (List.mem_of_getElem? (i := 117) rfl)) (notFace_of_selects (args := #[]) (mvT hZ (hw _ (List.mem_of_getElem? (i := 119) rfl)))) (hw _ (List.mem_of_getElem? (i := 119) rfl)) (hw _ (List.mem_of_getElem? (i := 118) rfl)) (by decide) hh_47 (a := d) f_49 (argsL := []) (rest := []) (Met1.back (W := 0) (rm15 l Z a0 hw d (own_is (((p1.toUInt32 >>> ((1 : Int32) &&& 31).toUInt32).toInt32) &&& (3 : Int32)) (2 : Int32)) T_42.heap n0 f_46 f_48 (own_is_nar _ _)) hZ (hw _ (List.mem_of_getElem? (i := 120) rfl)) (hw _ (List.mem_of_getElem? (i := 67) rfl)) (by decide) (by decide)) (pc := 271) (Ls := #[.val (.int p1), .val (.int (own_b p1 (1 : Int32))), .val (.int (((p1.toUInt32 >>> ((1 : Int32) &&& 31).toUInt32).toInt32) &&& (3 : Int32))), .val (.int (own_b p1 (8 : Int32))), .val (.ref l1), .val (.ref b1), .val (.ref b2), .val (.ref d), .val (.ref b_1), .val (own_r (own_b p1 (1 : Int32)) b1), .val (own_r (own_is (((p1.toUInt32 >>> ((1 : Int32) &&& 31).toUInt32).toInt32) &&& (3 : Int32)) (1 : Int32)) b2), .val (.int (own_is (((p1.toUInt32 >>> ((1 : Int32) &&& 31).toUInt32).toInt32) &&& (3 : Int32)) (2 : Int32)))]) (by rw [hml]; rfl) (lenOf own_pd7 rfl) rfl (Nat.le_refl _) (hb hby at_271) (by decide) (by decide) ?_
  intro T_50 v_50 L_50 X_50 hQ_50
  obtain ⟨rfl, Nq_50, hh_50⟩ := hQ_50
  have N_50 := Fr.app N_47 Nq_50
  show Go p e below (FinW s (Q0 Z p1 v1 s1 v2 s2 o hq n0) room_1.cells room_1.slots) T_50 (mkF m 274 #[.val (.int p1), .val (.int (own_b p1 (1 : Int32))), .val (.int (((p1.toUInt32 >>> ((1 : Int32) &&& 31).toUInt32).toInt32) &&& (3 : Int32))), .val (.int (own_b p1 (8 : Int32))), .val (.ref l1), .val (.ref b1), .val (.ref b2), .val (.ref d), .val (.ref b_1), .val (own_r (own_b p1 (1 : Int32)) b1), .val (own_r (own_is (((p1.toUInt32 >>> ((1 : Int32) &&& 31).toUInt32).toInt32) &&& (3 : Int32)) (1 : Int32)) b2), .val (.int (own_is (((p1.toUInt32 >>> ((1 : Int32) &&& 31).toUInt32).toInt32) &&& (3 : Int32)) (2 : Int32)))] [(.int (own_is (((p1.toUInt32 >>> ((1 : Int32) &&& 31).toUInt32).toInt32) &&& (3 : Int32)) (2 : Int32)))])
  refine Go.to (mkF m 276 #[.val (.int p1), .val (.int (own_b p1 (1 : Int32))), .val (.int (((p1.toUInt32 >>> ((1 : Int32) &&& 31).toUInt32).toInt32) &&& (3 : Int32))), .val (.int (own_b p1 (8 : Int32))), .val (.ref l1), .val (.ref b1), .val (.ref b2), .val (.ref d), .val (.ref b_1), .val (own_r (own_b p1 (1 : Int32)) b1), .val (own_r (own_is (((p1.toUInt32 >>> ((1 : Int32) &&& 31).toUInt32).toInt32) &&& (3 : Int32)) (1 : Int32)) b2), .val (.int (own_is (((p1.toUInt32 >>> ((1 : Int32) &&& 31).toUInt32).toInt32) &&& (3 : Int32)) (2 : Int32)))] [(.int (own_is (((p1.toUInt32 >>> ((1 : Int32) &&& 31).toUInt32).toInt32) &&& (3 : Int32)) (2 : Int32))), (.int (own_is (((p1.toUInt32 >>> ((1 : Int32) &&& 31).toUInt32).toInt32) &&& (3 : Int32)) (2 : Int32)))]) (fun _ k => XS.iload X_50.here hx rfl (hb hby at_274) rfl  k) ?_
  refine Go.to (mkF m 279 #[.val (.int p1), .val (.int (own_b p1 (1 : Int32))), .val (.int (((p1.toUInt32 >>> ((1 : Int32) &&& 31).toUInt32).toInt32) &&& (3 : Int32))), .val (.int (own_b p1 (8 : Int32))), .val (.ref l1), .val (.ref b1), .val (.ref b2), .val (.ref d), .val (.ref b_1), .val (own_r (own_b p1 (1 : Int32)) b1), .val (own_r (own_is (((p1.toUInt32 >>> ((1 : Int32) &&& 31).toUInt32).toInt32) &&& (3 : Int32)) (1 : Int32)) b2), .val (.int (own_is (((p1.toUInt32 >>> ((1 : Int32) &&& 31).toUInt32).toInt32) &&& (3 : Int32)) (2 : Int32)))] []) (fun _ k => XS.icmpNo X_50.here hx rfl (hb hby at_276) rfl (teq rfl).2 k) ?_
  refine Go.to (mkF m 280 #[.val (.int p1), .val (.int (own_b p1 (1 : Int32))), .val (.int (((p1.toUInt32 >>> ((1 : Int32) &&& 31).toUInt32).toInt32) &&& (3 : Int32))), .val (.int (own_b p1 (8 : Int32))), .val (.ref l1), .val (.ref b1), .val (.ref b2), .val (.ref d), .val (.ref b_1), .val (own_r (own_b p1 (1 : Int32)) b1), .val (own_r (own_is (((p1.toUInt32 >>> ((1 : Int32) &&& 31).toUInt32).toInt32) &&& (3 : Int32)) (1 : Int32)) b2), .val (.int (own_is (((p1.toUInt32 >>> ((1 : Int32) &&& 31).toUInt32).toInt32) &&& (3 : Int32)) (2 : Int32)))] [(.int (1 : Int32))]) (fun _ k => XS.iconst X_50.here hx rfl (hb hby at_279) k) ?_
  refine Go.to (mkF m 284 #[.val (.int p1), .val (.int (own_b p1 (1 : Int32))), .val (.int (((p1.toUInt32 >>> ((1 : Int32) &&& 31).toUInt32).toInt32) &&& (3 : Int32))), .val (.int (own_b p1 (8 : Int32))), .val (.ref l1), .val (.ref b1), .val (.ref b2), .val (.ref d), .val (.ref b_1), .val (own_r (own_b p1 (1 : Int32)) b1), .val (own_r (own_is (((p1.toUInt32 >>> ((1 : Int32) &&& 31).toUInt32).toInt32) &&& (3 : Int32)) (1 : Int32)) b2), .val (.int (own_is (((p1.toUInt32 >>> ((1 : Int32) &&& 31).toUInt32).toInt32) &&& (3 : Int32)) (2 : Int32)))] [(.int (1 : Int32))]) (fun _ k => XS.goto X_50.here hx rfl (pc0 := 280) (pc' := 284) rfl (hb hby at_280) (by decide) (by decide) k) ?_
  have f_51 : kk ≤ T_42.heap.size := (Nat.le_trans (Nat.le_trans (Nat.le_trans (Nat.le_trans (Nat.le_trans hk K_1.1) K_10.1) K_19.1) K_33.1) K_42.1)
  refine Go.retNW X_50 hx (t := .boolean) hret hlk (by simp) (hb hby at_284) (by decide) (by decide) hS (by rw [hh_50]; exact f_51) (z' := (1 : Int32)) rfl ?_
  show (Q0 Z p1 v1 s1 v2 s2 o hq n0) _ T_50.heap _ _
  rw [hh_50]
  exact ⟨rfl, N_50⟩
set_option maxRecDepth 65536 in
set_option maxHeartbeats 40000000 in
theorem seg126 (l : Launch) (Z : State) (a0 : Array Value) (hw : ∀ d ∈ tables_1, d.before a0 Z = true) (p1 : Int32) (v1 : Addr) (s1 : Addr) (v2 : Addr) (s2 : Addr) (o : Addr) (l1 : Addr) (b1 : Addr) (b2 : Addr) (d : Addr) (hq : Heap) (p : Program) (e : Env) (s : State) (m : MethodId) (below : List Frame) (meth : Method) (c : Code) (s₁ : State) (locs : List Loc) (vm0 : Vm) (kk : Nat)
    (hx : p.tables.exec = Jvm.exec) (hZ : Z.Warmed39 (s.setVm vm0).vm) (hby : c.code = code) (hml : c.maxLocals = 12) (hown : (s.setVm vm0).vm.findClass "com/example/vestwright/vestwright/plan/DeathBenefitWithNothingInServicePinLaw" = some m.cls) (hnm : meth.name = "law") (hret : meth.sig.returnType = some .boolean) (hlk : meth.locks = false) (h0 : Heap) (n0 : Nat) (Z0 : n0 ≤ h0.size)
    (X0 : Stand p l e room_1 (s.setVm vm0) m #[(.int p1)] below meth c s₁ locs 31 1990) (e0 : s₁.heap = h0) (N0 : Fr n0 locs) (hS : s.Since vm0 kk) (hk : kk ≤ h0.size) (PS_java_util_Optional_EMPTY : Sta Z h0 "java/util/Optional" "EMPTY" "Ljava/util/Optional;" (.ref o)) (PE_o : Exa Z h0 o "java/util/Optional") (PF_o_value : Fld Z h0 o "java/util/Optional" "value" "Ljava/lang/Object;" .null) (PE_d : Exa Z h0 d "com/example/vestwright/vestwright/plan/DeathBenefit") (PF_d_nothingInService : Fld Z h0 d "com/example/vestwright/vestwright/plan/DeathBenefit" "nothingInService" "Z" (.int (0 : Int32))) (PF_d_afterSeparation : Fld Z h0 d "com/example/vestwright/vestwright/plan/DeathBenefit" "afterSeparation" "Lcom/example/vestwright/vestwright/plan/Benefit;" (own_r (own_b p1 (1 : Int32)) b1)) (PF_d_duringPayout : Fld Z h0 d "com/example/vestwright/vestwright/plan/DeathBenefit" "duringPayout" "Lcom/example/vestwright/vestwright/plan/Benefit;" (own_r (own_is (((p1.toUInt32 >>> ((1 : Int32) &&& 31).toUInt32).toInt32) &&& (3 : Int32)) (1 : Int32)) b2)) (PF_d_remainingPayments : Fld Z h0 d "com/example/vestwright/vestwright/plan/DeathBenefit" "remainingPayments" "Z" (.int (own_is (((p1.toUInt32 >>> ((1 : Int32) &&& 31).toUInt32).toInt32) &&& (3 : Int32)) (2 : Int32)))) :
    Go p e below (FinW s (Q0 Z p1 v1 s1 v2 s2 o hq n0) room_1.cells room_1.slots) s₁ (mkF m 126 #[.val (.int p1), .val (.int (own_b p1 (1 : Int32))), .val (.int (((p1.toUInt32 >>> ((1 : Int32) &&& 31).toUInt32).toInt32) &&& (3 : Int32))), .val (.int (own_b p1 (8 : Int32))), .val (.ref l1), .val (.ref b1), .val (.ref b2), .val (.ref d), .unset, .unset, .unset, .unset] []) := by
  refine Go.to (mkF m 127 #[.val (.int p1), .val (.int (own_b p1 (1 : Int32))), .val (.int (((p1.toUInt32 >>> ((1 : Int32) &&& 31).toUInt32).toInt32) &&& (3 : Int32))), .val (.int (own_b p1 (8 : Int32))), .val (.ref l1), .val (.ref b1), .val (.ref b2), .val (.ref d), .unset, .unset, .unset, .unset] [(.int (own_b p1 (8 : Int32)))]) (fun _ k => XS.iloadN X0.here hx rfl (hb hby at_126) rfl  k) ?_
  by_cases hp : (own_b p1 (8 : Int32)) = (0 : Int32)
  · refine Go.to (mkF m 137 #[.val (.int p1), .val (.int (own_b p1 (1 : Int32))), .val (.int (((p1.toUInt32 >>> ((1 : Int32) &&& 31).toUInt32).toInt32) &&& (3 : Int32))), .val (.int (own_b p1 (8 : Int32))), .val (.ref l1), .val (.ref b1), .val (.ref b2), .val (.ref d), .unset, .unset, .unset, .unset] []) (fun _ k => XS.ifYes X0.here hx rfl (pc0 := 127) (pc' := 137) rfl (hb hby at_127) rfl ((if0 _ _).trans (teq hp).1) (by decide) (by decide) k) ?_
    have f_1 : Fld Z h0 d "com/example/vestwright/vestwright/plan/DeathBenefit" "nothingInService" "Z" (.int (own_b p1 (8 : Int32))) := by rw [hp]; exact PF_d_nothingInService
    exact seg137 l Z a0 hw p1 v1 s1 v2 s2 o l1 b1 b2 d hq p e s m below meth c _ _ _ _ hx hZ hby hml hown hnm hret hlk _ n0 Z0 (X0.more (by decide) (by decide)) e0 N0 hS hk PS_java_util_Optional_EMPTY PE_o PF_o_value PE_d f_1 PF_d_afterSeparation PF_d_duringPayout PF_d_remainingPayments
  · refine Go.to (mkF m 130 #[.val (.int p1), .val (.int (own_b p1 (1 : Int32))), .val (.int (((p1.toUInt32 >>> ((1 : Int32) &&& 31).toUInt32).toInt32) &&& (3 : Int32))), .val (.int (own_b p1 (8 : Int32))), .val (.ref l1), .val (.ref b1), .val (.ref b2), .val (.ref d), .unset, .unset, .unset, .unset] []) (fun _ k => XS.ifNo X0.here hx rfl (hb hby at_127) rfl ((if0 _ _).trans (feq hp).1) k) ?_
    refine Go.to (mkF m 132 #[.val (.int p1), .val (.int (own_b p1 (1 : Int32))), .val (.int (((p1.toUInt32 >>> ((1 : Int32) &&& 31).toUInt32).toInt32) &&& (3 : Int32))), .val (.int (own_b p1 (8 : Int32))), .val (.ref l1), .val (.ref b1), .val (.ref b2), .val (.ref d), .unset, .unset, .unset, .unset] [(.ref d)]) (fun _ k => XS.aload X0.here hx rfl (hb hby at_130) rfl rfl k) ?_
    refine Go.virt X0 hx hZ (y := (⟨"com/example/vestwright/vestwright/plan/DeathBenefit", "withNothingInService", "()Lcom/example/vestwright/vestwright/plan/DeathBenefit;"⟩ : MethodName)) (z := (⟨"com/example/vestwright/vestwright/plan/DeathBenefit", "withNothingInService", "()Lcom/example/vestwright/vestwright/plan/DeathBenefit;"⟩ : MethodName)) hown (hw _ (List.mem_of_getElem? (i := 83) rfl)) (hw _ (List.mem_of_getElem? (i := 84) rfl)) (notFace_of_selects (args := #[]) (mvT hZ (hw _ (List.mem_of_getElem? (i := 86) rfl)))) (hw _ (List.mem_of_getElem? (i := 86) rfl)) (hw _ (List.mem_of_getElem? (i := 85) rfl)) (by decide) e0 (a := d) PE_d (argsL := []) (rest := []) (Met1.back (W := 0) (rm9 l Z a0 hw d (0 : Int32) (own_r (own_b p1 (1 : Int32)) b1) (own_r (own_is (((p1.toUInt32 >>> ((1 : Int32) &&& 31).toUInt32).toInt32) &&& (3 : Int32)) (1 : Int32)) b2) (own_is (((p1.toUInt32 >>> ((1 : Int32) &&& 31).toUInt32).toInt32) &&& (3 : Int32)) (2 : Int32)) h0 n0 Z0 PF_d_nothingInService PF_d_afterSeparation PF_d_duringPayout PF_d_remainingPayments rfl (own_r_ref _ _) (own_r_ref _ _) (own_is_nar _ _)) hZ (hw _ (List.mem_of_getElem? (i := 87) rfl)) (hw _ (List.mem_of_getElem? (i := 67) rfl)) (by decide) (by decide)) (pc := 132) (Ls := #[.val (.int p1), .val (.int (own_b p1 (1 : Int32))), .val (.int (((p1.toUInt32 >>> ((1 : Int32) &&& 31).toUInt32).toInt32) &&& (3 : Int32))), .val (.int (own_b p1 (8 : Int32))), .val (.ref l1), .val (.ref b1), .val (.ref b2), .val (.ref d), .unset, .unset, .unset, .unset]) (by rw [hml]; rfl) (lenOf own_pd6 rfl) rfl (Nat.le_refl _) (hb hby at_132) (by decide) (by decide) ?_
    intro T_2 v_2 L_2 X_2 hQ_2
    obtain ⟨b_2, rfl, Nq_2, K_2, pf_2_0, pf_2_1, pf_2_2, pf_2_3, pf_2_4, sz_b_2⟩ := hQ_2
    have N_2 := Fr.app N0 Nq_2
    show Go p e below (FinW s (Q0 Z p1 v1 s1 v2 s2 o hq n0) room_1.cells room_1.slots) T_2 (mkF m 135 #[.val (.int p1), .val (.int (own_b p1 (1 : Int32))), .val (.int (((p1.toUInt32 >>> ((1 : Int32) &&& 31).toUInt32).toInt32) &&& (3 : Int32))), .val (.int (own_b p1 (8 : Int32))), .val (.ref l1), .val (.ref b1), .val (.ref b2), .val (.ref d), .unset, .unset, .unset, .unset] [(.ref b_2)])
    have g_b_2 : n0 ≤ b_2 := Nat.le_trans Z0 sz_b_2
    have ne_o_b_2 : o ≠ b_2 := Nat.ne_of_lt (Nat.lt_of_lt_of_le PE_o.lt sz_b_2)
    have ne_d_b_2 : d ≠ b_2 := Nat.ne_of_lt (Nat.lt_of_lt_of_le PE_d.lt sz_b_2)
    refine Go.to (mkF m 137 #[.val (.int p1), .val (.int (own_b p1 (1 : Int32))), .val (.int (((p1.toUInt32 >>> ((1 : Int32) &&& 31).toUInt32).toInt32) &&& (3 : Int32))), .val (.int (own_b p1 (8 : Int32))), .val (.ref l1), .val (.ref b1), .val (.ref b2), .val (.ref b_2), .unset, .unset, .unset, .unset] []) (fun _ k => XS.astore X_2.here hx rfl (hb hby at_135) rfl rfl (l' := #[.val (.int p1), .val (.int (own_b p1 (1 : Int32))), .val (.int (((p1.toUInt32 >>> ((1 : Int32) &&& 31).toUInt32).toInt32) &&& (3 : Int32))), .val (.int (own_b p1 (8 : Int32))), .val (.ref l1), .val (.ref b1), .val (.ref b2), .val (.ref b_2), .unset, .unset, .unset, .unset]) rfl k) ?_
    have f_3 : Fld Z T_2.heap b_2 "com/example/vestwright/vestwright/plan/DeathBenefit" "nothingInService" "Z" (.int (own_b p1 (8 : Int32))) := by rw [show (own_b p1 (8 : Int32)) = 1 from (by unfold own_b at hp ⊢; split at hp <;> simp_all)]; exact pf_2_1
    have f_4 : Sta Z T_2.heap "java/util/Optional" "EMPTY" "Ljava/util/Optional;" (.ref o) := (own_sta_keep PS_java_util_Optional_EMPTY K_2 all0)
    have f_5 : Exa Z T_2.heap o "java/util/Optional" := (PE_o.keep K_2)
    have f_6 : Fld Z T_2.heap o "java/util/Optional" "value" "Ljava/lang/Object;" .null := (PF_o_value.keep K_2 nin0)
    have f_7 : n0 ≤ T_2.heap.size := (Nat.le_trans Z0 K_2.1)
    have f_8 : kk ≤ T_2.heap.size := (Nat.le_trans hk K_2.1)
    exact seg137 l Z a0 hw p1 v1 s1 v2 s2 o l1 b1 b2 b_2 hq p e s m below meth c _ _ _ _ hx hZ hby hml hown hnm hret hlk _ n0 f_7 (X_2.more (by decide) (by decide)) rfl N_2 hS f_8 f_4 f_5 f_6 pf_2_0 f_3 pf_2_2 pf_2_3 pf_2_4
theorem own_pd10 : parseMethodDescriptor "(Lcom/example/vestwright/vestwright/plan/Benefit;)Lcom/example/vestwright/vestwright/plan/DeathBenefit;" = some ⟨[(.object "com/example/vestwright/vestwright/plan/Benefit")], some (.object "com/example/vestwright/vestwright/plan/DeathBenefit")⟩ := by decide +kernel
set_option maxRecDepth 65536 in
set_option maxHeartbeats 40000000 in
theorem seg97 (l : Launch) (Z : State) (a0 : Array Value) (hw : ∀ d ∈ tables_1, d.before a0 Z = true) (p1 : Int32) (v1 : Addr) (s1 : Addr) (v2 : Addr) (s2 : Addr) (o : Addr) (l1 : Addr) (b1 : Addr) (b2 : Addr) (d : Addr) (hq : Heap) (p : Program) (e : Env) (s : State) (m : MethodId) (below : List Frame) (meth : Method) (c : Code) (s₁ : State) (locs : List Loc) (vm0 : Vm) (kk : Nat)
    (hx : p.tables.exec = Jvm.exec) (hZ : Z.Warmed39 (s.setVm vm0).vm) (hby : c.code = code) (hml : c.maxLocals = 12) (hown : (s.setVm vm0).vm.findClass "com/example/vestwright/vestwright/plan/DeathBenefitWithNothingInServicePinLaw" = some m.cls) (hnm : meth.name = "law") (hret : meth.sig.returnType = some .boolean) (hlk : meth.locks = false) (h0 : Heap) (n0 : Nat) (Z0 : n0 ≤ h0.size)
    (X0 : Stand p l e room_1 (s.setVm vm0) m #[(.int p1)] below meth c s₁ locs 28 1900) (e0 : s₁.heap = h0) (N0 : Fr n0 locs) (hS : s.Since vm0 kk) (hk : kk ≤ h0.size) (PS_java_util_Optional_EMPTY : Sta Z h0 "java/util/Optional" "EMPTY" "Ljava/util/Optional;" (.ref o)) (PE_o : Exa Z h0 o "java/util/Optional") (PF_o_value : Fld Z h0 o "java/util/Optional" "value" "Ljava/lang/Object;" .null) (PE_d : Exa Z h0 d "com/example/vestwright/vestwright/plan/DeathBenefit") (PF_d_nothingInService : Fld Z h0 d "com/example/vestwright/vestwright/plan/DeathBenefit" "nothingInService" "Z" (.int (0 : Int32))) (PF_d_afterSeparation : Fld Z h0 d "com/example/vestwright/vestwright/plan/DeathBenefit" "afterSeparation" "Lcom/example/vestwright/vestwright/plan/Benefit;" (own_r (own_b p1 (1 : Int32)) b1)) (PF_d_duringPayout : Fld Z h0 d "com/example/vestwright/vestwright/plan/DeathBenefit" "duringPayout" "Lcom/example/vestwright/vestwright/plan/Benefit;" .null) (PF_d_remainingPayments : Fld Z h0 d "com/example/vestwright/vestwright/plan/DeathBenefit" "remainingPayments" "Z" (.int (0 : Int32))) :
    Go p e below (FinW s (Q0 Z p1 v1 s1 v2 s2 o hq n0) room_1.cells room_1.slots) s₁ (mkF m 97 #[.val (.int p1), .val (.int (own_b p1 (1 : Int32))), .val (.int (((p1.toUInt32 >>> ((1 : Int32) &&& 31).toUInt32).toInt32) &&& (3 : Int32))), .val (.int (own_b p1 (8 : Int32))), .val (.ref l1), .val (.ref b1), .val (.ref b2), .val (.ref d), .unset, .unset, .unset, .unset] []) := by
  refine Go.to (mkF m 98 #[.val (.int p1), .val (.int (own_b p1 (1 : Int32))), .val (.int (((p1.toUInt32 >>> ((1 : Int32) &&& 31).toUInt32).toInt32) &&& (3 : Int32))), .val (.int (own_b p1 (8 : Int32))), .val (.ref l1), .val (.ref b1), .val (.ref b2), .val (.ref d), .unset, .unset, .unset, .unset] [(.int (((p1.toUInt32 >>> ((1 : Int32) &&& 31).toUInt32).toInt32) &&& (3 : Int32)))]) (fun _ k => XS.iloadN X0.here hx rfl (hb hby at_97) rfl  k) ?_
  refine Go.to (mkF m 99 #[.val (.int p1), .val (.int (own_b p1 (1 : Int32))), .val (.int (((p1.toUInt32 >>> ((1 : Int32) &&& 31).toUInt32).toInt32) &&& (3 : Int32))), .val (.int (own_b p1 (8 : Int32))), .val (.ref l1), .val (.ref b1), .val (.ref b2), .val (.ref d), .unset, .unset, .unset, .unset] [(.int (1 : Int32)), (.int (((p1.toUInt32 >>> ((1 : Int32) &&& 31).toUInt32).toInt32) &&& (3 : Int32)))]) (fun _ k => XS.iconst X0.here hx rfl (hb hby at_98) k) ?_
  by_cases hm1 : (((p1.toUInt32 >>> ((1 : Int32) &&& 31).toUInt32).toInt32) &&& (3 : Int32)) = (1 : Int32)
  · refine Go.to (mkF m 102 #[.val (.int p1), .val (.int (own_b p1 (1 : Int32))), .val (.int (((p1.toUInt32 >>> ((1 : Int32) &&& 31).toUInt32).toInt32) &&& (3 : Int32))), .val (.int (own_b p1 (8 : Int32))), .val (.ref l1), .val (.ref b1), .val (.ref b2), .val (.ref d), .unset, .unset, .unset, .unset] []) (fun _ k => XS.icmpNo X0.here hx rfl (hb hby at_99) rfl (teq hm1).2 k) ?_
    refine Go.to (mkF m 104 #[.val (.int p1), .val (.int (own_b p1 (1 : Int32))), .val (.int (((p1.toUInt32 >>> ((1 : Int32) &&& 31).toUInt32).toInt32) &&& (3 : Int32))), .val (.int (own_b p1 (8 : Int32))), .val (.ref l1), .val (.ref b1), .val (.ref b2), .val (.ref d), .unset, .unset, .unset, .unset] [(.ref d)]) (fun _ k => XS.aload X0.here hx rfl (hb hby at_102) rfl rfl k) ?_
    refine Go.to (mkF m 106 #[.val (.int p1), .val (.int (own_b p1 (1 : Int32))), .val (.int (((p1.toUInt32 >>> ((1 : Int32) &&& 31).toUInt32).toInt32) &&& (3 : Int32))), .val (.int (own_b p1 (8 : Int32))), .val (.ref l1), .val (.ref b1), .val (.ref b2), .val (.ref d), .unset, .unset, .unset, .unset] [(.ref b2), (.ref d)]) (fun _ k => XS.aload X0.here hx rfl (hb hby at_104) rfl rfl k) ?_
    refine Go.virtS hS hk X0 hx hZ (y := (⟨"com/example/vestwright/vestwright/plan/DeathBenefit", "withDuringPayout", "(Lcom/example/vestwright/vestwright/plan/Benefit;)Lcom/example/vestwright/vestwright/plan/DeathBenefit;"⟩ : MethodName)) (z := (⟨"com/example/vestwright/vestwright/plan/DeathBenefit", "withDuringPayout", "(Lcom/example/vestwright/vestwright/plan/Benefit;)Lcom/example/vestwright/vestwright/plan/DeathBenefit;"⟩ : MethodName)) hown (hw _ (List.mem_of_getElem? (i := 128) rfl)) (hw _ (List.mem_of_getElem? (i := 129) rfl)) (notFace_of_selects (args := #[]) (mvT hZ (hw _ (List.mem_of_getElem? (i := 131) rfl)))) (hw _ (List.mem_of_getElem? (i := 131) rfl)) (hw _ (List.mem_of_getElem? (i := 130) rfl)) (by decide) e0 (a := d) PE_d (argsL := [(.ref b2)]) (rest := []) (MetW.back (W := 0) (rm17 l Z a0 hw d (0 : Int32) (own_r (own_b p1 (1 : Int32)) b1) .null (0 : Int32) b2 h0 n0 Z0 PF_d_nothingInService PF_d_afterSeparation PF_d_duringPayout PF_d_remainingPayments rfl (own_r_ref _ _) rfl rfl) hZ (fun _ _ => trivial) (hw _ (List.mem_of_getElem? (i := 132) rfl)) (hw _ (List.mem_of_getElem? (i := 67) rfl)) (by decide) (by decide)) (pc := 106) (Ls := #[.val (.int p1), .val (.int (own_b p1 (1 : Int32))), .val (.int (((p1.toUInt32 >>> ((1 : Int32) &&& 31).toUInt32).toInt32) &&& (3 : Int32))), .val (.int (own_b p1 (8 : Int32))), .val (.ref l1), .val (.ref b1), .val (.ref b2), .val (.ref d), .unset, .unset, .unset, .unset]) (by rw [hml]; rfl) (lenOf own_pd10 rfl) rfl (Nat.le_refl _) (hb hby at_106) (by decide) (by decide) ?_
    intro T_1 v_1 L_1 X_1 hS_1 hV_1 hZ_1 hown_1 hg_1 hQ_1
    obtain ⟨b_1, rfl, Nq_1, K_1, pf_1_0, pf_1_1, pf_1_2, pf_1_3, pf_1_4, sz_b_1⟩ := hQ_1
    have N_1 := Fr.app N0 Nq_1
    show Go p e below (FinW s (Q0 Z p1 v1 s1 v2 s2 o hq n0) room_1.cells room_1.slots) T_1 (mkF m 109 #[.val (.int p1), .val (.int (own_b p1 (1 : Int32))), .val (.int (((p1.toUInt32 >>> ((1 : Int32) &&& 31).toUInt32).toInt32) &&& (3 : Int32))), .val (.int (own_b p1 (8 : Int32))), .val (.ref l1), .val (.ref b1), .val (.ref b2), .val (.ref d), .unset, .unset, .unset, .unset] [(.ref b_1)])
    have g_b_1 : n0 ≤ b_1 := Nat.le_trans Z0 sz_b_1
    have ne_o_b_1 : o ≠ b_1 := Nat.ne_of_lt (Nat.lt_of_lt_of_le PE_o.lt sz_b_1)
    have ne_d_b_1 : d ≠ b_1 := Nat.ne_of_lt (Nat.lt_of_lt_of_le PE_d.lt sz_b_1)
    refine Go.to (mkF m 111 #[.val (.int p1), .val (.int (own_b p1 (1 : Int32))), .val (.int (((p1.toUInt32 >>> ((1 : Int32) &&& 31).toUInt32).toInt32) &&& (3 : Int32))), .val (.int (own_b p1 (8 : Int32))), .val (.ref l1), .val (.ref b1), .val (.ref b2), .val (.ref b_1), .unset, .unset, .unset, .unset] []) (fun _ k => XS.astore X_1.here hx rfl (hb hby at_109) rfl rfl (l' := #[.val (.int p1), .val (.int (own_b p1 (1 : Int32))), .val (.int (((p1.toUInt32 >>> ((1 : Int32) &&& 31).toUInt32).toInt32) &&& (3 : Int32))), .val (.int (own_b p1 (8 : Int32))), .val (.ref l1), .val (.ref b1), .val (.ref b2), .val (.ref b_1), .unset, .unset, .unset, .unset]) rfl k) ?_
    refine Go.to (mkF m 126 #[.val (.int p1), .val (.int (own_b p1 (1 : Int32))), .val (.int (((p1.toUInt32 >>> ((1 : Int32) &&& 31).toUInt32).toInt32) &&& (3 : Int32))), .val (.int (own_b p1 (8 : Int32))), .val (.ref l1), .val (.ref b1), .val (.ref b2), .val (.ref b_1), .unset, .unset, .unset, .unset] []) (fun _ k => XS.goto X_1.here hx rfl (pc0 := 111) (pc' := 126) rfl (hb hby at_111) (by decide) (by decide) k) ?_
    have f_2 : Fld Z T_1.heap b_1 "com/example/vestwright/vestwright/plan/DeathBenefit" "duringPayout" "Lcom/example/vestwright/vestwright/plan/Benefit;" (own_r (own_is (((p1.toUInt32 >>> ((1 : Int32) &&& 31).toUInt32).toInt32) &&& (3 : Int32)) (1 : Int32)) b2) := by rw [show (own_r (own_is (((p1.toUInt32 >>> ((1 : Int32) &&& 31).toUInt32).toInt32) &&& (3 : Int32)) (1 : Int32)) b2) = .ref b2 from (by unfold own_is; rw [if_pos hm1]; exact if_neg (by decide))]; exact pf_1_3
    have f_3 : Fld Z T_1.heap b_1 "com/example/vestwright/vestwright/plan/DeathBenefit" "remainingPayments" "Z" (.int (own_is (((p1.toUInt32 >>> ((1 : Int32) &&& 31).toUInt32).toInt32) &&& (3 : Int32)) (2 : Int32))) := by rw [show (own_is (((p1.toUInt32 >>> ((1 : Int32) &&& 31).toUInt32).toInt32) &&& (3 : Int32)) (2 : Int32)) = 0 from (by unfold own_is; rw [hm1]; rfl)]; exact pf_1_4
    have f_4 : Sta Z T_1.heap "java/util/Optional" "EMPTY" "Ljava/util/Optional;" (.ref o) := (own_sta_keep PS_java_util_Optional_EMPTY K_1 all0)
    have f_5 : Exa Z T_1.heap o "java/util/Optional" := (PE_o.keep K_1)
    have f_6 : Fld Z T_1.heap o "java/util/Optional" "value" "Ljava/lang/Object;" .null := (PF_o_value.keep K_1 nin0)
    have f_7 : n0 ≤ T_1.heap.size := (Nat.le_trans Z0 K_1.1)
    exact seg126 l Z a0 hw p1 v1 s1 v2 s2 o l1 b1 b2 b_1 hq p e s m below meth c _ _ _ _ hx hZ_1 hby hml hown_1 hnm hret hlk _ n0 f_7 (X_1.more (by decide) (by decide)) rfl N_1 hS_1 (Nat.le_refl _) f_4 f_5 f_6 pf_1_0 pf_1_1 pf_1_2 f_2 f_3
  · refine Go.to (mkF m 114 #[.val (.int p1), .val (.int (own_b p1 (1 : Int32))), .val (.int (((p1.toUInt32 >>> ((1 : Int32) &&& 31).toUInt32).toInt32) &&& (3 : Int32))), .val (.int (own_b p1 (8 : Int32))), .val (.ref l1), .val (.ref b1), .val (.ref b2), .val (.ref d), .unset, .unset, .unset, .unset] []) (fun _ k => XS.icmpYes X0.here hx rfl (pc0 := 99) (pc' := 114) rfl (hb hby at_99) rfl (feq hm1).2 (by decide) (by decide) k) ?_
    refine Go.to (mkF m 115 #[.val (.int p1), .val (.int (own_b p1 (1 : Int32))), .val (.int (((p1.toUInt32 >>> ((1 : Int32) &&& 31).toUInt32).toInt32) &&& (3 : Int32))), .val (.int (own_b p1 (8 : Int32))), .val (.ref l1), .val (.ref b1), .val (.ref b2), .val (.ref d), .unset, .unset, .unset, .unset] [(.int (((p1.toUInt32 >>> ((1 : Int32) &&& 31).toUInt32).toInt32) &&& (3 : Int32)))]) (fun _ k => XS.iloadN X0.here hx rfl (hb hby at_114) rfl  k) ?_
    refine Go.to (mkF m 116 #[.val (.int p1), .val (.int (own_b p1 (1 : Int32))), .val (.int (((p1.toUInt32 >>> ((1 : Int32) &&& 31).toUInt32).toInt32) &&& (3 : Int32))), .val (.int (own_b p1 (8 : Int32))), .val (.ref l1), .val (.ref b1), .val (.ref b2), .val (.ref d), .unset, .unset, .unset, .unset] [(.int (2 : Int32)), (.int (((p1.toUInt32 >>> ((1 : Int32) &&& 31).toUInt32).toInt32) &&& (3 : Int32)))]) (fun _ k => XS.iconst X0.here hx rfl (hb hby at_115) k) ?_
    by_cases hm2 : (((p1.toUInt32 >>> ((1 : Int32) &&& 31).toUInt32).toInt32) &&& (3 : Int32)) = (2 : Int32)
    · refine Go.to (mkF m 119 #[.val (.int p1), .val (.int (own_b p1 (1 : Int32))), .val (.int (((p1.toUInt32 >>> ((1 : Int32) &&& 31).toUInt32).toInt32) &&& (3 : Int32))), .val (.int (own_b p1 (8 : Int32))), .val (.ref l1), .val (.ref b1), .val (.ref b2), .val (.ref d), .unset, .unset, .unset, .unset] []) (fun _ k => XS.icmpNo X0.here hx rfl (hb hby at_116) rfl (teq hm2).2 k) ?_
      refine Go.to (mkF m 121 #[.val (.int p1), .val (.int (own_b p1 (1 : Int32))), .val (.int (((p1.toUInt32 >>> ((1 : Int32) &&& 31).toUInt32).toInt32) &&& (3 : Int32))), .val (.int (own_b p1 (8 : Int32))), .val (.ref l1), .val (.ref b1), .val (.ref b2), .val (.ref d), .unset, .unset, .unset, .unset] [(.ref d)]) (fun _ k => XS.aload X0.here hx rfl (hb hby at_119) rfl rfl k) ?_
      refine Go.virt X0 hx hZ (y := (⟨"com/example/vestwright/vestwright/plan/DeathBenefit", "withRemainingPaymentsDuringPayout", "()Lcom/example/vestwright/vestwright/plan/DeathBenefit;"⟩ : MethodName)) (z := (⟨"com/example/vestwright/vestwright/plan/DeathBenefit", "withRemainingPaymentsDuringPayout", "()Lcom/example/vestwright/vestwright/plan/DeathBenefit;"⟩ : MethodName)) hown (hw _ (List.mem_of_getElem? (i := 140) rfl)) (hw _ (List.mem_of_getElem? (i := 141) rfl)) (notFace_of_selects (args := #[]) (mvT hZ (hw _ (List.mem_of_getElem? (i := 143) rfl)))) (hw _ (List.mem_of_getElem? (i := 143) rfl)) (hw _ (List.mem_of_getElem? (i := 142) rfl)) (by decide) e0 (a := d) PE_d (argsL := []) (rest := []) (Met1.back (W := 0) (rm19 l Z a0 hw d (0 : Int32) (own_r (own_b p1 (1 : Int32)) b1) .null (0 : Int32) h0 n0 Z0 PF_d_nothingInService PF_d_afterSeparation PF_d_duringPayout PF_d_remainingPayments rfl (own_r_ref _ _) rfl rfl) hZ (hw _ (List.mem_of_getElem? (i := 144) rfl)) (hw _ (List.mem_of_getElem? (i := 67) rfl)) (by decide) (by decide)) (pc := 121) (Ls := #[.val (.int p1), .val (.int (own_b p1 (1 : Int32))), .val (.int (((p1.toUInt32 >>> ((1 : Int32) &&& 31).toUInt32).toInt32) &&& (3 : Int32))), .val (.int (own_b p1 (8 : Int32))), .val (.ref l1), .val (.ref b1), .val (.ref b2), .val (.ref d), .unset, .unset, .unset, .unset]) (by rw [hml]; rfl) (lenOf own_pd6 rfl) rfl (Nat.le_refl _) (hb hby at_121) (by decide) (by decide) ?_
      intro T_8 v_8 L_8 X_8 hQ_8
      obtain ⟨b_8, rfl, Nq_8, K_8, pf_8_0, pf_8_1, pf_8_2, pf_8_3, pf_8_4, sz_b_8⟩ := hQ_8
      have N_8 := Fr.app N0 Nq_8
      show Go p e below (FinW s (Q0 Z p1 v1 s1 v2 s2 o hq n0) room_1.cells room_1.slots) T_8 (mkF m 124 #[.val (.int p1), .val (.int (own_b p1 (1 : Int32))), .val (.int (((p1.toUInt32 >>> ((1 : Int32) &&& 31).toUInt32).toInt32) &&& (3 : Int32))), .val (.int (own_b p1 (8 : Int32))), .val (.ref l1), .val (.ref b1), .val (.ref b2), .val (.ref d), .unset, .unset, .unset, .unset] [(.ref b_8)])
      have g_b_8 : n0 ≤ b_8 := Nat.le_trans Z0 sz_b_8
      have ne_o_b_8 : o ≠ b_8 := Nat.ne_of_lt (Nat.lt_of_lt_of_le PE_o.lt sz_b_8)
      have ne_d_b_8 : d ≠ b_8 := Nat.ne_of_lt (Nat.lt_of_lt_of_le PE_d.lt sz_b_8)
      refine Go.to (mkF m 126 #[.val (.int p1), .val (.int (own_b p1 (1 : Int32))), .val (.int (((p1.toUInt32 >>> ((1 : Int32) &&& 31).toUInt32).toInt32) &&& (3 : Int32))), .val (.int (own_b p1 (8 : Int32))), .val (.ref l1), .val (.ref b1), .val (.ref b2), .val (.ref b_8), .unset, .unset, .unset, .unset] []) (fun _ k => XS.astore X_8.here hx rfl (hb hby at_124) rfl rfl (l' := #[.val (.int p1), .val (.int (own_b p1 (1 : Int32))), .val (.int (((p1.toUInt32 >>> ((1 : Int32) &&& 31).toUInt32).toInt32) &&& (3 : Int32))), .val (.int (own_b p1 (8 : Int32))), .val (.ref l1), .val (.ref b1), .val (.ref b2), .val (.ref b_8), .unset, .unset, .unset, .unset]) rfl k) ?_
      have f_9 : Fld Z T_8.heap b_8 "com/example/vestwright/vestwright/plan/DeathBenefit" "duringPayout" "Lcom/example/vestwright/vestwright/plan/Benefit;" (own_r (own_is (((p1.toUInt32 >>> ((1 : Int32) &&& 31).toUInt32).toInt32) &&& (3 : Int32)) (1 : Int32)) b2) := by rw [show (own_r (own_is (((p1.toUInt32 >>> ((1 : Int32) &&& 31).toUInt32).toInt32) &&& (3 : Int32)) (1 : Int32)) b2) = .null from (by unfold own_is; rw [if_neg hm1]; exact if_pos rfl)]; exact pf_8_3
      have f_10 : Fld Z T_8.heap b_8 "com/example/vestwright/vestwright/plan/DeathBenefit" "remainingPayments" "Z" (.int (own_is (((p1.toUInt32 >>> ((1 : Int32) &&& 31).toUInt32).toInt32) &&& (3 : Int32)) (2 : Int32))) := by rw [show (own_is (((p1.toUInt32 >>> ((1 : Int32) &&& 31).toUInt32).toInt32) &&& (3 : Int32)) (2 : Int32)) = 1 from if_pos hm2]; exact pf_8_4
      have f_11 : Sta Z T_8.heap "java/util/Optional" "EMPTY" "Ljava/util/Optional;" (.ref o) := (own_sta_keep PS_java_util_Optional_EMPTY K_8 all0)
      have f_12 : Exa Z T_8.heap o "java/util/Optional" := (PE_o.keep K_8)
      have f_13 : Fld Z T_8.heap o "java/util/Optional" "value" "Ljava/lang/Object;" .null := (PF_o_value.keep K_8 nin0)
      have f_14 : n0 ≤ T_8.heap.size := (Nat.le_trans Z0 K_8.1)
      have f_15 : kk ≤ T_8.heap.size := (Nat.le_trans hk K_8.1)
      exact seg126 l Z a0 hw p1 v1 s1 v2 s2 o l1 b1 b2 b_8 hq p e s m below meth c _ _ _ _ hx hZ hby hml hown hnm hret hlk _ n0 f_14 (X_8.more (by decide) (by decide)) rfl N_8 hS f_15 f_11 f_12 f_13 pf_8_0 pf_8_1 pf_8_2 f_9 f_10
    · refine Go.to (mkF m 126 #[.val (.int p1), .val (.int (own_b p1 (1 : Int32))), .val (.int (((p1.toUInt32 >>> ((1 : Int32) &&& 31).toUInt32).toInt32) &&& (3 : Int32))), .val (.int (own_b p1 (8 : Int32))), .val (.ref l1), .val (.ref b1), .val (.ref b2), .val (.ref d), .unset, .unset, .unset, .unset] []) (fun _ k => XS.icmpYes X0.here hx rfl (pc0 := 116) (pc' := 126) rfl (hb hby at_116) rfl (feq hm2).2 (by decide) (by decide) k) ?_
      have f_16 : Fld Z h0 d "com/example/vestwright/vestwright/plan/DeathBenefit" "duringPayout" "Lcom/example/vestwright/vestwright/plan/Benefit;" (own_r (own_is (((p1.toUInt32 >>> ((1 : Int32) &&& 31).toUInt32).toInt32) &&& (3 : Int32)) (1 : Int32)) b2) := by rw [show (own_r (own_is (((p1.toUInt32 >>> ((1 : Int32) &&& 31).toUInt32).toInt32) &&& (3 : Int32)) (1 : Int32)) b2) = .null from (by unfold own_is; rw [if_neg hm1]; exact if_pos rfl)]; exact PF_d_duringPayout
      have f_17 : Fld Z h0 d "com/example/vestwright/vestwright/plan/DeathBenefit" "remainingPayments" "Z" (.int (own_is (((p1.toUInt32 >>> ((1 : Int32) &&& 31).toUInt32).toInt32) &&& (3 : Int32)) (2 : Int32))) := by rw [show (own_is (((p1.toUInt32 >>> ((1 : Int32) &&& 31).toUInt32).toInt32) &&& (3 : Int32)) (2 : Int32)) = 0 from if_neg hm2]; exact PF_d_remainingPayments
      exact seg126 l Z a0 hw p1 v1 s1 v2 s2 o l1 b1 b2 d hq p e s m below meth c _ _ _ _ hx hZ hby hml hown hnm hret hlk _ n0 Z0 (X0.more (by decide) (by decide)) e0 N0 hS hk PS_java_util_Optional_EMPTY PE_o PF_o_value PE_d PF_d_nothingInService PF_d_afterSeparation f_16 f_17
theorem own_pd11 : parseMethodDescriptor "(I)V" = some ⟨[.int], none⟩ := by decide +kernel
theorem own_pd12 : parseMethodDescriptor "(Lcom/example/vestwright/vestwright/plan/AccountValueDate;Lcom/example/vestwright/vestwright/plan/AccountBenefit$Share;Lcom/example/vestwright/vestwright/plan/PayoutForm;)V" = some ⟨[(.object "com/example/vestwright/vestwright/plan/AccountValueDate"), (.object "com/example/vestwright/vestwright/plan/AccountBenefit$Share"), (.object "com/example/vestwright/vestwright/plan/PayoutForm")], none⟩ := by decide +kernel
theorem own_pd13 : parseMethodDescriptor "()V" = some ⟨[], none⟩ := by decide +kernel
theorem ef_0 (m : MethodId) (p1 : Int32) : entryFrame m #[(.int p1)] maxLocals = mkF m 0 #[.val (.int p1), .unset, .unset, .unset, .unset, .unset, .unset, .unset, .unset, .unset, .unset, .unset] [] := by first | (simp [entryFrame, mkF, argsToLocals, Value.category, maxLocals]; done) | (simp [entryFrame, mkF, argsToLocals, own_cat_i, own_cat_l, own_cat_r, own_cat_n, maxLocals]; done) | rfl
set_option maxRecDepth 65536 in
set_option maxHeartbeats 40000000 in
theorem rm0 (l : Launch) (Z : State) (a0 : Array Value) (hw : ∀ d ∈ tables_1, d.before a0 Z = true) (p1 : Int32) (v1 : Addr) (s1 : Addr) (v2 : Addr) (s2 : Addr) (o : Addr) (h0 : Heap) (n0 : Nat) (Z0 : n0 ≤ h0.size) (PS_com_example_vestwright_vestwright_plan_AccountValueDate_SEPARATION : Sta Z h0 "com/example/vestwright/vestwright/plan/AccountValueDate" "SEPARATION" "Lcom/example/vestwright/vestwright/plan/AccountValueDate;" (.ref v1)) (PS_com_example_vestwright_vestwright_plan_AccountBenefit_Share_FULL : Sta Z h0 "com/example/vestwright/vestwright/plan/AccountBenefit$Share" "FULL" "Lcom/example/vestwright/vestwright/plan/AccountBenefit$Share;" (.ref s1)) (PS_com_example_vestwright_vestwright_plan_AccountValueDate_DEATH : Sta Z h0 "com/example/vestwright/vestwright/plan/AccountValueDate" "DEATH" "Lcom/example/vestwright/vestwright/plan/AccountValueDate;" (.ref v2)) (PS_com_example_vestwright_vestwright_plan_AccountBenefit_Share_VESTED : Sta Z h0 "com/example/vestwright/vestwright/plan/AccountBenefit$Share" "VESTED" "Lcom/example/vestwright/vestwright/plan/AccountBenefit$Share;" (.ref s2)) (PE_v1 : Exa Z h0 v1 "com/example/vestwright/vestwright/plan/AccountValueDate") (PE_s1 : Exa Z h0 s1 "com/example/vestwright/vestwright/plan/AccountBenefit$Share") (PE_v2 : Exa Z h0 v2 "com/example/vestwright/vestwright/plan/AccountValueDate") (PE_s2 : Exa Z h0 s2 "com/example/vestwright/vestwright/plan/AccountBenefit$Share") (PS_java_util_Optional_EMPTY : Sta Z h0 "java/util/Optional" "EMPTY" "Ljava/util/Optional;" (.ref o)) (PE_o : Exa Z h0 o "java/util/Optional") (PF_o_value : Fld Z h0 o "java/util/Optional" "value" "Ljava/lang/Object;" .null) :
    MetW l Z x code maxLocals ret room_1 #[(.int p1)] h0 (fun _ => True) (Q0 Z p1 v1 s1 v2 s2 o h0 n0) := by
  refine MetW.mk (plainFor_of_name (by first | (simp [plainName, overriddenIn]; done) | decide +kernel)) ?_
  intro p e s m below meth c s₁ vm0 hx hZ hby hml hown hnm hret hlk X0 e0 hS hh hnamed hJ
  have hml : c.maxLocals = 12 := hml
  have hret : meth.sig.returnType = some .boolean := hret
  have N0 := Fr.nil n0
  refine Go.cast (ef_0 m p1) ?_
  show Go p e below (FinW s (Q0 Z p1 v1 s1 v2 s2 o h0 n0) room_1.cells room_1.slots) s₁ (mkF m 0 #[.val (.int p1), .unset, .unset, .unset, .unset, .unset, .unset, .unset, .unset, .unset, .unset, .unset] [])
  refine Go.to (mkF m 1 #[.val (.int p1), .unset, .unset, .unset, .unset, .unset, .unset, .unset, .unset, .unset, .unset, .unset] [(.int p1)]) (fun _ k => XS.iloadN X0.here hx rfl (hb hby at_0) rfl  k) ?_
  refine Go.to (mkF m 2 #[.val (.int p1), .unset, .unset, .unset, .unset, .unset, .unset, .unset, .unset, .unset, .unset, .unset] [(.int (1 : Int32)), (.int p1)]) (fun _ k => XS.iconst X0.here hx rfl (hb hby at_1) k) ?_
  refine Go.to (mkF m 3 #[.val (.int p1), .unset, .unset, .unset, .unset, .unset, .unset, .unset, .unset, .unset, .unset, .unset] [(.int (p1 &&& (1 : Int32)))]) (fun _ k => XS.iand X0.here hx rfl (hb hby at_2) rfl k) ?_
  suffices J_1 : Go p e below (FinW s (Q0 Z p1 v1 s1 v2 s2 o h0 n0) room_1.cells room_1.slots) s₁ (mkF m 11 #[.val (.int p1), .unset, .unset, .unset, .unset, .unset, .unset, .unset, .unset, .unset, .unset, .unset] [(.int (own_b p1 (1 : Int32)))]) by
    by_cases ha : (p1 &&& (1 : Int32)) = (0 : Int32)
    · refine Go.to (mkF m 10 #[.val (.int p1), .unset, .unset, .unset, .unset, .unset, .unset, .unset, .unset, .unset, .unset, .unset] []) (fun _ k => XS.ifYes X0.here hx rfl (pc0 := 3) (pc' := 10) rfl (hb hby at_3) rfl ((if0 _ _).trans (teq ha).1) (by decide) (by decide) k) ?_
      refine Go.to (mkF m 11 #[.val (.int p1), .unset, .unset, .unset, .unset, .unset, .unset, .unset, .unset, .unset, .unset, .unset] [(.int (0 : Int32))]) (fun _ k => XS.iconst X0.here hx rfl (hb hby at_10) k) ?_
      exact Go.cast (by rw [show (own_b p1 (1 : Int32)) = 0 from if_pos ha]) J_1
    · refine Go.to (mkF m 6 #[.val (.int p1), .unset, .unset, .unset, .unset, .unset, .unset, .unset, .unset, .unset, .unset, .unset] []) (fun _ k => XS.ifNo X0.here hx rfl (hb hby at_3) rfl ((if0 _ _).trans (feq ha).1) k) ?_
      refine Go.to (mkF m 7 #[.val (.int p1), .unset, .unset, .unset, .unset, .unset, .unset, .unset, .unset, .unset, .unset, .unset] [(.int (1 : Int32))]) (fun _ k => XS.iconst X0.here hx rfl (hb hby at_6) k) ?_
      refine Go.to (mkF m 11 #[.val (.int p1), .unset, .unset, .unset, .unset, .unset, .unset, .unset, .unset, .unset, .unset, .unset] [(.int (1 : Int32))]) (fun _ k => XS.goto X0.here hx rfl (pc0 := 7) (pc' := 11) rfl (hb hby at_7) (by decide) (by decide) k) ?_
      exact Go.cast (by rw [show (own_b p1 (1 : Int32)) = 1 from if_neg ha]) J_1
  refine Go.to (mkF m 12 #[.val (.int p1), .val (.int (own_b p1 (1 : Int32))), .unset, .unset, .unset, .unset, .unset, .unset, .unset, .unset, .unset, .unset] []) (fun _ k => XS.istoreN X0.here hx rfl (hb hby at_11) rfl (l' := #[.val (.int p1), .val (.int (own_b p1 (1 : Int32))), .unset, .unset, .unset, .unset, .unset, .unset, .unset, .unset, .unset, .unset]) rfl k) ?_
  refine Go.to (mkF m 13 #[.val (.int p1), .val (.int (own_b p1 (1 : Int32))), .unset, .unset, .unset, .unset, .unset, .unset, .unset, .unset, .unset, .unset] [(.int p1)]) (fun _ k => XS.iloadN X0.here hx rfl (hb hby at_12) rfl  k) ?_
  refine Go.to (mkF m 14 #[.val (.int p1), .val (.int (own_b p1 (1 : Int32))), .unset, .unset, .unset, .unset, .unset, .unset, .unset, .unset, .unset, .unset] [(.int (1 : Int32)), (.int p1)]) (fun _ k => XS.iconst X0.here hx rfl (hb hby at_13) k) ?_
  refine Go.to (mkF m 15 #[.val (.int p1), .val (.int (own_b p1 (1 : Int32))), .unset, .unset, .unset, .unset, .unset, .unset, .unset, .unset, .unset, .unset] [(.int ((p1.toUInt32 >>> ((1 : Int32) &&& 31).toUInt32).toInt32))]) (fun _ k => XS.iushr X0.here hx rfl (hb hby at_14) rfl k) ?_
  refine Go.to (mkF m 16 #[.val (.int p1), .val (.int (own_b p1 (1 : Int32))), .unset, .unset, .unset, .unset, .unset, .unset, .unset, .unset, .unset, .unset] [(.int (3 : Int32)), (.int ((p1.toUInt32 >>> ((1 : Int32) &&& 31).toUInt32).toInt32))]) (fun _ k => XS.iconst X0.here hx rfl (hb hby at_15) k) ?_
  refine Go.to (mkF m 17 #[.val (.int p1), .val (.int (own_b p1 (1 : Int32))), .unset, .unset, .unset, .unset, .unset, .unset, .unset, .unset, .unset, .unset] [(.int (((p1.toUInt32 >>> ((1 : Int32) &&& 31).toUInt32).toInt32) &&& (3 : Int32)))]) (fun _ k => XS.iand X0.here hx rfl (hb hby at_16) rfl k) ?_
  refine Go.to (mkF m 18 #[.val (.int p1), .val (.int (own_b p1 (1 : Int32))), .val (.int (((p1.toUInt32 >>> ((1 : Int32) &&& 31).toUInt32).toInt32) &&& (3 : Int32))), .unset, .unset, .unset, .unset, .unset, .unset, .unset, .unset, .unset] []) (fun _ k => XS.istoreN X0.here hx rfl (hb hby at_17) rfl (l' := #[.val (.int p1), .val (.int (own_b p1 (1 : Int32))), .val (.int (((p1.toUInt32 >>> ((1 : Int32) &&& 31).toUInt32).toInt32) &&& (3 : Int32))), .unset, .unset, .unset, .unset, .unset, .unset, .unset, .unset, .unset]) rfl k) ?_
  refine Go.to (mkF m 19 #[.val (.int p1), .val (.int (own_b p1 (1 : Int32))), .val (.int (((p1.toUInt32 >>> ((1 : Int32) &&& 31).toUInt32).toInt32) &&& (3 : Int32))), .unset, .unset, .unset, .unset, .unset, .unset, .unset, .unset, .unset] [(.int p1)]) (fun _ k => XS.iloadN X0.here hx rfl (hb hby at_18) rfl  k) ?_
  refine Go.to (mkF m 21 #[.val (.int p1), .val (.int (own_b p1 (1 : Int32))), .val (.int (((p1.toUInt32 >>> ((1 : Int32) &&& 31).toUInt32).toInt32) &&& (3 : Int32))), .unset, .unset, .unset, .unset, .unset, .unset, .unset, .unset, .unset] [(.int (8 : Int32)), (.int p1)]) (fun _ k => XS.bipush X0.here hx rfl (hb hby at_19) k) ?_
  refine Go.to (mkF m 22 #[.val (.int p1), .val (.int (own_b p1 (1 : Int32))), .val (.int (((p1.toUInt32 >>> ((1 : Int32) &&& 31).toUInt32).toInt32) &&& (3 : Int32))), .unset, .unset, .unset, .unset, .unset, .unset, .unset, .unset, .unset] [(.int (p1 &&& (8 : Int32)))]) (fun _ k => XS.iand X0.here hx rfl (hb hby at_21) rfl k) ?_
  suffices J_2 : Go p e below (FinW s (Q0 Z p1 v1 s1 v2 s2 o h0 n0) room_1.cells room_1.slots) s₁ (mkF m 30 #[.val (.int p1), .val (.int (own_b p1 (1 : Int32))), .val (.int (((p1.toUInt32 >>> ((1 : Int32) &&& 31).toUInt32).toInt32) &&& (3 : Int32))), .unset, .unset, .unset, .unset, .unset, .unset, .unset, .unset, .unset] [(.int (own_b p1 (8 : Int32)))]) by
    by_cases hp : (p1 &&& (8 : Int32)) = (0 : Int32)
    · refine Go.to (mkF m 29 #[.val (.int p1), .val (.int (own_b p1 (1 : Int32))), .val (.int (((p1.toUInt32 >>> ((1 : Int32) &&& 31).toUInt32).toInt32) &&& (3 : Int32))), .unset, .unset, .unset, .unset, .unset, .unset, .unset, .unset, .unset] []) (fun _ k => XS.ifYes X0.here hx rfl (pc0 := 22) (pc' := 29) rfl (hb hby at_22) rfl ((if0 _ _).trans (teq hp).1) (by decide) (by decide) k) ?_
      refine Go.to (mkF m 30 #[.val (.int p1), .val (.int (own_b p1 (1 : Int32))), .val (.int (((p1.toUInt32 >>> ((1 : Int32) &&& 31).toUInt32).toInt32) &&& (3 : Int32))), .unset, .unset, .unset, .unset, .unset, .unset, .unset, .unset, .unset] [(.int (0 : Int32))]) (fun _ k => XS.iconst X0.here hx rfl (hb hby at_29) k) ?_
      exact Go.cast (by rw [show (own_b p1 (8 : Int32)) = 0 from if_pos hp]) J_2
    · refine Go.to (mkF m 25 #[.val (.int p1), .val (.int (own_b p1 (1 : Int32))), .val (.int (((p1.toUInt32 >>> ((1 : Int32) &&& 31).toUInt32).toInt32) &&& (3 : Int32))), .unset, .unset, .unset, .unset, .unset, .unset, .unset, .unset, .unset] []) (fun _ k => XS.ifNo X0.here hx rfl (hb hby at_22) rfl ((if0 _ _).trans (feq hp).1) k) ?_
      refine Go.to (mkF m 26 #[.val (.int p1), .val (.int (own_b p1 (1 : Int32))), .val (.int (((p1.toUInt32 >>> ((1 : Int32) &&& 31).toUInt32).toInt32) &&& (3 : Int32))), .unset, .unset, .unset, .unset, .unset, .unset, .unset, .unset, .unset] [(.int (1 : Int32))]) (fun _ k => XS.iconst X0.here hx rfl (hb hby at_25) k) ?_
      refine Go.to (mkF m 30 #[.val (.int p1), .val (.int (own_b p1 (1 : Int32))), .val (.int (((p1.toUInt32 >>> ((1 : Int32) &&& 31).toUInt32).toInt32) &&& (3 : Int32))), .unset, .unset, .unset, .unset, .unset, .unset, .unset, .unset, .unset] [(.int (1 : Int32))]) (fun _ k => XS.goto X0.here hx rfl (pc0 := 26) (pc' := 30) rfl (hb hby at_26) (by decide) (by decide) k) ?_
      exact Go.cast (by rw [show (own_b p1 (8 : Int32)) = 1 from if_neg hp]) J_2
  refine Go.to (mkF m 31 #[.val (.int p1), .val (.int (own_b p1 (1 : Int32))), .val (.int (((p1.toUInt32 >>> ((1 : Int32) &&& 31).toUInt32).toInt32) &&& (3 : Int32))), .val (.int (own_b p1 (8 : Int32))), .unset, .unset, .unset, .unset, .unset, .unset, .unset, .unset] []) (fun _ k => XS.istoreN X0.here hx rfl (hb hby at_30) rfl (l' := #[.val (.int p1), .val (.int (own_b p1 (1 : Int32))), .val (.int (((p1.toUInt32 >>> ((1 : Int32) &&& 31).toUInt32).toInt32) &&& (3 : Int32))), .val (.int (own_b p1 (8 : Int32))), .unset, .unset, .unset, .unset, .unset, .unset, .unset, .unset]) rfl k) ?_
  obtain ⟨T_3, h_3, X_3, e_3, E_3, A_3, D_3, -, st_3⟩ := newO X0 hx hZ hown (hw _ (List.mem_of_getElem? (i := 0) rfl)) (hw _ (List.mem_of_getElem? (i := 1) rfl)) (hw _ (List.mem_of_getElem? (i := 2) rfl)) e0 (g := (mkF m 31 #[.val (.int p1), .val (.int (own_b p1 (1 : Int32))), .val (.int (((p1.toUInt32 >>> ((1 : Int32) &&& 31).toUInt32).toInt32) &&& (3 : Int32))), .val (.int (own_b p1 (8 : Int32))), .unset, .unset, .unset, .unset, .unset, .unset, .unset, .unset] [])) rfl (hb hby at_31) (by decide) (by decide)
  obtain ⟨b_3, g_3⟩ : ∃ z, z = h0.size := ⟨_, rfl⟩
  rw [← g_3] at A_3 D_3 st_3
  have g_b_3 : n0 ≤ b_3 := Nat.le_trans Z0 (Nat.le_of_eq g_3.symm)
  have ne_v1_b_3 : v1 ≠ b_3 := Nat.ne_of_lt (Nat.lt_of_lt_of_le PE_v1.lt (Nat.le_of_eq g_3.symm))
  have ne_s1_b_3 : s1 ≠ b_3 := Nat.ne_of_lt (Nat.lt_of_lt_of_le PE_s1.lt (Nat.le_of_eq g_3.symm))
  have ne_v2_b_3 : v2 ≠ b_3 := Nat.ne_of_lt (Nat.lt_of_lt_of_le PE_v2.lt (Nat.le_of_eq g_3.symm))
  have ne_s2_b_3 : s2 ≠ b_3 := Nat.ne_of_lt (Nat.lt_of_lt_of_le PE_s2.lt (Nat.le_of_eq g_3.symm))
  have ne_o_b_3 : o ≠ b_3 := Nat.ne_of_lt (Nat.lt_of_lt_of_le PE_o.lt (Nat.le_of_eq g_3.symm))
  have F_withinDays_b_3 : Fld Z h_3 b_3 "com/example/vestwright/vestwright/plan/LumpSum" "withinDays" "I" (.int (0 : Int32)) := D_3 (Or.inr (hw _ (List.mem_of_getElem? (i := 23) rfl))) (ty := .int) (by decide)
  refine Go.to (mkF m 34 #[.val (.int p1), .val (.int (own_b p1 (1 : Int32))), .val (.int (((p1.toUInt32 >>> ((1 : Int32) &&& 31).toUInt32).toInt32) &&& (3 : Int32))), .val (.int (own_b p1 (8 : Int32))), .unset, .unset, .unset, .unset, .unset, .unset, .unset, .unset] [(.ref b_3)]) st_3 ?_
  refine Go.to (mkF m 35 #[.val (.int p1), .val (.int (own_b p1 (1 : Int32))), .val (.int (((p1.toUInt32 >>> ((1 : Int32) &&& 31).toUInt32).toInt32) &&& (3 : Int32))), .val (.int (own_b p1 (8 : Int32))), .unset, .unset, .unset, .unset, .unset, .unset, .unset, .unset] [(.ref b_3), (.ref b_3)]) (fun _ k => XS.dup X_3.here hx rfl (hb hby at_34) rfl rfl k) ?_
  refine Go.to (mkF m 36 #[.val (.int p1), .val (.int (own_b p1 (1 : Int32))), .val (.int (((p1.toUInt32 >>> ((1 : Int32) &&& 31).toUInt32).toInt32) &&& (3 : Int32))), .val (.int (own_b p1 (8 : Int32))), .unset, .unset, .unset, .unset, .unset, .unset, .unset, .unset] [(.int (0 : Int32)), (.ref b_3), (.ref b_3)]) (fun _ k => XS.iconst X_3.here hx rfl (hb hby at_35) k) ?_
  have f_4 : n0 ≤ h_3.size := (Nat.le_trans Z0 E_3.1)
  have f_5 : 0 ≤ h_3.size := (Nat.le_trans (Nat.zero_le _) E_3.1)
  refine Go.specialS hS f_5 X_3 hx hZ (y := (⟨"com/example/vestwright/vestwright/plan/LumpSum", "<init>", "(I)V"⟩ : MethodName)) rfl hown (hw _ (List.mem_of_getElem? (i := 3) rfl)) (hw _ (List.mem_of_getElem? (i := 4) rfl)) (hw _ (List.mem_of_getElem? (i := 5) rfl)) (by decide) e_3 (a := b_3) (argsL := [(.int (0 : Int32))]) (rest := [(.ref b_3)]) (MetW.back (W := 1) (rm1 l Z a0 hw b_3 (.int (0 : Int32)) h_3 n0 f_4 A_3 g_b_3 F_withinDays_b_3) hZ (fun _ _ => trivial) (hw _ (List.mem_of_getElem? (i := 5) rfl)) (hw _ (List.mem_of_getElem? (i := 2) rfl)) (by decide) (by decide)) (pc := 36) (Ls := #[.val (.int p1), .val (.int (own_b p1 (1 : Int32))), .val (.int (((p1.toUInt32 >>> ((1 : Int32) &&& 31).toUInt32).toInt32) &&& (3 : Int32))), .val (.int (own_b p1 (8 : Int32))), .unset, .unset, .unset, .unset, .unset, .unset, .unset, .unset]) (by rw [hml]; rfl) (lenOf own_pd11 rfl) rfl (Nat.le_refl _) (hb hby at_36) (by decide) (by decide) ?_
  intro T_6 v_6 L_6 X_6 hS_6 hV_6 hZ_6 hown_6 hg_6 hQ_6
  obtain ⟨rfl, Nq_6, K_6⟩ := hQ_6
  have N_6 := Fr.app N0 Nq_6
  show Go p e below (FinW s (Q0 Z p1 v1 s1 v2 s2 o h0 n0) room_1.cells room_1.slots) T_6 (mkF m 39 #[.val (.int p1), .val (.int (own_b p1 (1 : Int32))), .val (.int (((p1.toUInt32 >>> ((1 : Int32) &&& 31).toUInt32).toInt32) &&& (3 : Int32))), .val (.int (own_b p1 (8 : Int32))), .unset, .unset, .unset, .unset, .unset, .unset, .unset, .unset] [(.ref b_3)])
  refine Go.to (mkF m 41 #[.val (.int p1), .val (.int (own_b p1 (1 : Int32))), .val (.int (((p1.toUInt32 >>> ((1 : Int32) &&& 31).toUInt32).toInt32) &&& (3 : Int32))), .val (.int (own_b p1 (8 : Int32))), .val (.ref b_3), .unset, .unset, .unset, .unset, .unset, .unset, .unset] []) (fun _ k => XS.astore X_6.here hx rfl (hb hby at_39) rfl rfl (l' := #[.val (.int p1), .val (.int (own_b p1 (1 : Int32))), .val (.int (((p1.toUInt32 >>> ((1 : Int32) &&& 31).toUInt32).toInt32) &&& (3 : Int32))), .val (.int (own_b p1 (8 : Int32))), .val (.ref b_3), .unset, .unset, .unset, .unset, .unset, .unset, .unset]) rfl k) ?_
  have f_8 : Exa Z T_6.heap v1 "com/example/vestwright/vestwright/plan/AccountValueDate" := ((PE_v1.ext E_3).keep K_6)
  have f_9 : Exa Z T_6.heap s1 "com/example/vestwright/vestwright/plan/AccountBenefit$Share" := ((PE_s1.ext E_3).keep K_6)
  have f_10 : Exa Z T_6.heap v2 "com/example/vestwright/vestwright/plan/AccountValueDate" := ((PE_v2.ext E_3).keep K_6)
  have f_11 : Exa Z T_6.heap s2 "com/example/vestwright/vestwright/plan/AccountBenefit$Share" := ((PE_s2.ext E_3).keep K_6)
  have f_12 : Exa Z T_6.heap o "java/util/Optional" := ((PE_o.ext E_3).keep K_6)
  have f_13 : Exa Z T_6.heap b_3 "com/example/vestwright/vestwright/plan/LumpSum" := (A_3.keep K_6)
  have f_14 : n0 ≤ T_6.heap.size := (Nat.le_trans f_4 K_6.1)
  obtain ⟨T_7, h_7, X_7, e_7, E_7, A_7, D_7, -, st_7⟩ := newO X_6 hx hZ_6 hown_6 (hw _ (List.mem_of_getElem? (i := 24) rfl)) (hw _ (List.mem_of_getElem? (i := 25) rfl)) (hw _ (List.mem_of_getElem? (i := 26) rfl)) rfl (g := (mkF m 41 #[.val (.int p1), .val (.int (own_b p1 (1 : Int32))), .val (.int (((p1.toUInt32 >>> ((1 : Int32) &&& 31).toUInt32).toInt32) &&& (3 : Int32))), .val (.int (own_b p1 (8 : Int32))), .val (.ref b_3), .unset, .unset, .unset, .unset, .unset, .unset, .unset] [])) rfl (hb hby at_41) (by decide) (by decide)
  obtain ⟨b_7, g_7⟩ : ∃ z, z = T_6.heap.size := ⟨_, rfl⟩
  rw [← g_7] at A_7 D_7 st_7
  have g_b_7 : n0 ≤ b_7 := Nat.le_trans f_14 (Nat.le_of_eq g_7.symm)
  have ne_v1_b_7 : v1 ≠ b_7 := Nat.ne_of_lt (Nat.lt_of_lt_of_le f_8.lt (Nat.le_of_eq g_7.symm))
  have ne_s1_b_7 : s1 ≠ b_7 := Nat.ne_of_lt (Nat.lt_of_lt_of_le f_9.lt (Nat.le_of_eq g_7.symm))
  have ne_v2_b_7 : v2 ≠ b_7 := Nat.ne_of_lt (Nat.lt_of_lt_of_le f_10.lt (Nat.le_of_eq g_7.symm))
  have ne_s2_b_7 : s2 ≠ b_7 := Nat.ne_of_lt (Nat.lt_of_lt_of_le f_11.lt (Nat.le_of_eq g_7.symm))
  have ne_o_b_7 : o ≠ b_7 := Nat.ne_of_lt (Nat.lt_of_lt_of_le f_12.lt (Nat.le_of_eq g_7.symm))
  have ne_b_3_b_7 : b_3 ≠ b_7 := Nat.ne_of_lt (Nat.lt_of_lt_of_le f_13.lt (Nat.le_of_eq g_7.symm))
  have F_accountValue_b_7 : Fld Z h_7 b_7 "com/example/vestwright/vestwright/plan/AccountBenefit" "accountValue" "Lcom/example/vestwright/vestwright/plan/AccountValueDate;" .null := D_7 (Or.inr (hw _ (List.mem_of_getElem? (i := 48) rfl))) (ty := (.object "com/example/vestwright/vestwright/plan/AccountValueDate")) (by decide)
  have F_share_b_7 : Fld Z h_7 b_7 "com/example/vestwright/vestwright/plan/AccountBenefit" "share" "Lcom/example/vestwright/vestwright/plan/AccountBenefit$Share;" .null := D_7 (Or.inr (hw _ (List.mem_of_getElem? (i := 53) rfl))) (ty := (.object "com/example/vestwright/vestwright/plan/AccountBenefit$Share")) (by decide)
  have F_interestToNormalRetirementAge_b_7 : Fld Z h_7 b_7 "com/example/vestwright/vestwright/plan/AccountBenefit" "interestToNormalRetirementAge" "Ljava/math/BigDecimal;" .null := D_7 (Or.inr (hw _ (List.mem_of_getElem? (i := 55) rfl))) (ty := (.object "java/math/BigDecimal")) (by decide)
  have F_payout_b_7 : Fld Z h_7 b_7 "com/example/vestwright/vestwright/plan/AccountBenefit" "payout" "Lcom/example/vestwright/vestwright/plan/PayoutForm;" .null := D_7 (Or.inr (hw _ (List.mem_of_getElem? (i := 60) rfl))) (ty := (.object "com/example/vestwright/vestwright/plan/PayoutForm")) (by decide)
  refine Go.to (mkF m 44 #[.val (.int p1), .val (.int (own_b p1 (1 : Int32))), .val (.int (((p1.toUInt32 >>> ((1 : Int32) &&& 31).toUInt32).toInt32) &&& (3 : Int32))), .val (.int (own_b p1 (8 : Int32))), .val (.ref b_3), .unset, .unset, .unset, .unset, .unset, .unset, .unset] [(.ref b_7)]) st_7 ?_
  refine Go.to (mkF m 45 #[.val (.int p1), .val (.int (own_b p1 (1 : Int32))), .val (.int (((p1.toUInt32 >>> ((1 : Int32) &&& 31).toUInt32).toInt32) &&& (3 : Int32))), .val (.int (own_b p1 (8 : Int32))), .val (.ref b_3), .unset, .unset, .unset, .unset, .unset, .unset, .unset] [(.ref b_7), (.ref b_7)]) (fun _ k => XS.dup X_7.here hx rfl (hb hby at_44) rfl rfl k) ?_
  have f_15 : Sta Z h_7 "com/example/vestwright/vestwright/plan/AccountValueDate" "SEPARATION" "Lcom/example/vestwright/vestwright/plan/AccountValueDate;" (.ref v1) := ((own_sta_keep (PS_com_example_vestwright_vestwright_plan_AccountValueDate_SEPARATION.ext E_3) K_6 (allS (own_exa_plain A_3) all0)).ext E_7)
  obtain ⟨T_16, X_16, e_16, st_16⟩ := getS2 X_7 hx hZ_6 hown_6 (host := "") (Or.inl (hw _ (List.mem_of_getElem? (i := 27) rfl))) Via.refl e_7 f_15 (g := (mkF m 45 #[.val (.int p1), .val (.int (own_b p1 (1 : Int32))), .val (.int (((p1.toUInt32 >>> ((1 : Int32) &&& 31).toUInt32).toInt32) &&& (3 : Int32))), .val (.int (own_b p1 (8 : Int32))), .val (.ref b_3), .unset, .unset, .unset, .unset, .unset, .unset, .unset] [(.ref b_7), (.ref b_7)])) rfl (hb hby at_45)
  refine Go.to (mkF m 48 #[.val (.int p1), .val (.int (own_b p1 (1 : Int32))), .val (.int (((p1.toUInt32 >>> ((1 : Int32) &&& 31).toUInt32).toInt32) &&& (3 : Int32))), .val (.int (own_b p1 (8 : Int32))), .val (.ref b_3), .unset, .unset, .unset, .unset, .unset, .unset, .unset] [(.ref v1), (.ref b_7), (.ref b_7)]) st_16 ?_
  have f_17 : Sta Z h_7 "com/example/vestwright/vestwright/plan/AccountBenefit$Share" "FULL" "Lcom/example/vestwright/vestwright/plan/AccountBenefit$Share;" (.ref s1) := ((own_sta_keep (PS_com_example_vestwright_vestwright_plan_AccountBenefit_Share_FULL.ext E_3) K_6 (allS (own_exa_plain A_3) all0)).ext E_7)
  obtain ⟨T_18, X_18, e_18, st_18⟩ := getS2 X_16 hx hZ_6 hown_6 (host := "") (Or.inl (hw _ (List.mem_of_getElem? (i := 30) rfl))) Via.refl e_16 f_17 (g := (mkF m 48 #[.val (.int p1), .val (.int (own_b p1 (1 : Int32))), .val (.int (((p1.toUInt32 >>> ((1 : Int32) &&& 31).toUInt32).toInt32) &&& (3 : Int32))), .val (.int (own_b p1 (8 : Int32))), .val (.ref b_3), .unset, .unset, .unset, .unset, .unset, .unset, .unset] [(.ref v1), (.ref b_7), (.ref b_7)])) rfl (hb hby at_48)
  refine Go.to (mkF m 51 #[.val (.int p1), .val (.int (own_b p1 (1 : Int32))), .val (.int (((p1.toUInt32 >>> ((1 : Int32) &&& 31).toUInt32).toInt32) &&& (3 : Int32))), .val (.int (own_b p1 (8 : Int32))), .val (.ref b_3), .unset, .unset, .unset, .unset, .unset, .unset, .unset] [(.ref s1), (.ref v1), (.ref b_7), (.ref b_7)]) st_18 ?_
  refine Go.to (mkF m 53 #[.val (.int p1), .val (.int (own_b p1 (1 : Int32))), .val (.int (((p1.toUInt32 >>> ((1 : Int32) &&& 31).toUInt32).toInt32) &&& (3 : Int32))), .val (.int (own_b p1 (8 : Int32))), .val (.ref b_3), .unset, .unset, .unset, .unset, .unset, .unset, .unset] [(.ref b_3), (.ref s1), (.ref v1), (.ref b_7), (.ref b_7)]) (fun _ k => XS.aload X_18.here hx rfl (hb hby at_51) rfl rfl k) ?_
  have f_19 : Exa Z h_7 v1 "com/example/vestwright/vestwright/plan/AccountValueDate" := (f_8.ext E_7)
  have f_20 : Exa Z h_7 s1 "com/example/vestwright/vestwright/plan/AccountBenefit$Share" := (f_9.ext E_7)
  have f_21 : Exa Z h_7 b_3 "com/example/vestwright/vestwright/plan/LumpSum" := (f_13.ext E_7)
  have f_22 : n0 ≤ h_7.size := (Nat.le_trans f_14 E_7.1)
  have f_23 : T_6.heap.size ≤ h_7.size := (Nat.le_trans (Nat.le_refl _) E_7.1)
  refine Go.specialS hS_6 f_23 X_18 hx hZ_6 (y := (⟨"com/example/vestwright/vestwright/plan/AccountBenefit", "<init>", "(Lcom/example/vestwright/vestwright/plan/AccountValueDate;Lcom/example/vestwright/vestwright/plan/AccountBenefit$Share;Lcom/example/vestwright/vestwright/plan/PayoutForm;)V"⟩ : MethodName)) rfl hown_6 (hw _ (List.mem_of_getElem? (i := 33) rfl)) (hw _ (List.mem_of_getElem? (i := 34) rfl)) (hw _ (List.mem_of_getElem? (i := 35) rfl)) (by decide) e_18 (a := b_7) (argsL := [(.ref v1), (.ref s1), (.ref b_3)]) (rest := [(.ref b_7)]) (MetW.back (W := 1) (rm4 l Z a0 hw b_7 v1 s1 b_3 .null .null .null .null h_7 n0 f_22 A_7 g_b_7 f_19 f_20 f_21 F_accountValue_b_7 F_share_b_7 F_interestToNormalRetirementAge_b_7 F_payout_b_7) hZ_6 (fun _ _ => trivial) (hw _ (List.mem_of_getElem? (i := 35) rfl)) (hw _ (List.mem_of_getElem? (i := 26) rfl)) (by decide) (by decide)) (pc := 53) (Ls := #[.val (.int p1), .val (.int (own_b p1 (1 : Int32))), .val (.int (((p1.toUInt32 >>> ((1 : Int32) &&& 31).toUInt32).toInt32) &&& (3 : Int32))), .val (.int (own_b p1 (8 : Int32))), .val (.ref b_3), .unset, .unset, .unset, .unset, .unset, .unset, .unset]) (by rw [hml]; rfl) (lenOf own_pd12 rfl) rfl (Nat.le_refl _) (hb hby at_53) (by decide) (by decide) ?_
  intro T_24 v_24 L_24 X_24 hS_24 hV_24 hZ_24 hown_24 hg_24 hQ_24
  obtain ⟨rfl, Nq_24, K_24⟩ := hQ_24
  have N_24 := Fr.app N_6 Nq_24
  show Go p e below (FinW s (Q0 Z p1 v1 s1 v2 s2 o h0 n0) room_1.cells room_1.slots) T_24 (mkF m 56 #[.val (.int p1), .val (.int (own_b p1 (1 : Int32))), .val (.int (((p1.toUInt32 >>> ((1 : Int32) &&& 31).toUInt32).toInt32) &&& (3 : Int32))), .val (.int (own_b p1 (8 : Int32))), .val (.ref b_3), .unset, .unset, .unset, .unset, .unset, .unset, .unset] [(.ref b_7)])
  refine Go.to (mkF m 58 #[.val (.int p1), .val (.int (own_b p1 (1 : Int32))), .val (.int (((p1.toUInt32 >>> ((1 : Int32) &&& 31).toUInt32).toInt32) &&& (3 : Int32))), .val (.int (own_b p1 (8 : Int32))), .val (.ref b_3), .val (.ref b_7), .unset, .unset, .unset, .unset, .unset, .unset] []) (fun _ k => XS.astore X_24.here hx rfl (hb hby at_56) rfl rfl (l' := #[.val (.int p1), .val (.int (own_b p1 (1 : Int32))), .val (.int (((p1.toUInt32 >>> ((1 : Int32) &&& 31).toUInt32).toInt32) &&& (3 : Int32))), .val (.int (own_b p1 (8 : Int32))), .val (.ref b_3), .val (.ref b_7), .unset, .unset, .unset, .unset, .unset, .unset]) rfl k) ?_
  have f_26 : Exa Z T_24.heap v1 "com/example/vestwright/vestwright/plan/AccountValueDate" := (f_19.keep K_24)
  have f_27 : Exa Z T_24.heap s1 "com/example/vestwright/vestwright/plan/AccountBenefit$Share" := (f_20.keep K_24)
  have f_28 : Exa Z T_24.heap v2 "com/example/vestwright/vestwright/plan/AccountValueDate" := ((f_10.ext E_7).keep K_24)
  have f_29 : Exa Z T_24.heap s2 "com/example/vestwright/vestwright/plan/AccountBenefit$Share" := ((f_11.ext E_7).keep K_24)
  have f_30 : Exa Z T_24.heap o "java/util/Optional" := ((f_12.ext E_7).keep K_24)
  have f_31 : Exa Z T_24.heap b_3 "com/example/vestwright/vestwright/plan/LumpSum" := (f_21.keep K_24)
  have f_32 : Exa Z T_24.heap b_7 "com/example/vestwright/vestwright/plan/AccountBenefit" := (A_7.keep K_24)
  have f_33 : n0 ≤ T_24.heap.size := (Nat.le_trans f_22 K_24.1)
  obtain ⟨T_25, h_25, X_25, e_25, E_25, A_25, D_25, -, st_25⟩ := newO X_24 hx hZ_24 hown_24 (hw _ (List.mem_of_getElem? (i := 24) rfl)) (hw _ (List.mem_of_getElem? (i := 25) rfl)) (hw _ (List.mem_of_getElem? (i := 26) rfl)) rfl (g := (mkF m 58 #[.val (.int p1), .val (.int (own_b p1 (1 : Int32))), .val (.int (((p1.toUInt32 >>> ((1 : Int32) &&& 31).toUInt32).toInt32) &&& (3 : Int32))), .val (.int (own_b p1 (8 : Int32))), .val (.ref b_3), .val (.ref b_7), .unset, .unset, .unset, .unset, .unset, .unset] [])) rfl (hb hby at_58) (by decide) (by decide)
  obtain ⟨b_25, g_25⟩ : ∃ z, z = T_24.heap.size := ⟨_, rfl⟩
  rw [← g_25] at A_25 D_25 st_25
  have g_b_25 : n0 ≤ b_25 := Nat.le_trans f_33 (Nat.le_of_eq g_25.symm)
  have ne_v1_b_25 : v1 ≠ b_25 := Nat.ne_of_lt (Nat.lt_of_lt_of_le f_26.lt (Nat.le_of_eq g_25.symm))
  have ne_s1_b_25 : s1 ≠ b_25 := Nat.ne_of_lt (Nat.lt_of_lt_of_le f_27.lt (Nat.le_of_eq g_25.symm))
  have ne_v2_b_25 : v2 ≠ b_25 := Nat.ne_of_lt (Nat.lt_of_lt_of_le f_28.lt (Nat.le_of_eq g_25.symm))
  have ne_s2_b_25 : s2 ≠ b_25 := Nat.ne_of_lt (Nat.lt_of_lt_of_le f_29.lt (Nat.le_of_eq g_25.symm))
  have ne_o_b_25 : o ≠ b_25 := Nat.ne_of_lt (Nat.lt_of_lt_of_le f_30.lt (Nat.le_of_eq g_25.symm))
  have ne_b_3_b_25 : b_3 ≠ b_25 := Nat.ne_of_lt (Nat.lt_of_lt_of_le f_31.lt (Nat.le_of_eq g_25.symm))
  have ne_b_7_b_25 : b_7 ≠ b_25 := Nat.ne_of_lt (Nat.lt_of_lt_of_le f_32.lt (Nat.le_of_eq g_25.symm))
  have F_accountValue_b_25 : Fld Z h_25 b_25 "com/example/vestwright/vestwright/plan/AccountBenefit" "accountValue" "Lcom/example/vestwright/vestwright/plan/AccountValueDate;" .null := D_25 (Or.inr (hw _ (List.mem_of_getElem? (i := 48) rfl))) (ty := (.object "com/example/vestwright/vestwright/plan/AccountValueDate")) (by decide)
  have F_share_b_25 : Fld Z h_25 b_25 "com/example/vestwright/vestwright/plan/AccountBenefit" "share" "Lcom/example/vestwright/vestwright/plan/AccountBenefit$Share;" .null := D_25 (Or.inr (hw _ (List.mem_of_getElem? (i := 53) rfl))) (ty := (.object "com/example/vestwright/vestwright/plan/AccountBenefit$Share")) (by decide)
  have F_interestToNormalRetirementAge_b_25 : Fld Z h_25 b_25 "com/example/vestwright/vestwright/plan/AccountBenefit" "interestToNormalRetirementAge" "Ljava/math/BigDecimal;" .null := D_25 (Or.inr (hw _ (List.mem_of_getElem? (i := 55) rfl))) (ty := (.object "java/math/BigDecimal")) (by decide)
  have F_payout_b_25 : Fld Z h_25 b_25 "com/example/vestwright/vestwright/plan/AccountBenefit" "payout" "Lcom/example/vestwright/vestwright/plan/PayoutForm;" .null := D_25 (Or.inr (hw _ (List.mem_of_getElem? (i := 60) rfl))) (ty := (.object "com/example/vestwright/vestwright/plan/PayoutForm")) (by decide)
  refine Go.to (mkF m 61 #[.val (.int p1), .val (.int (own_b p1 (1 : Int32))), .val (.int (((p1.toUInt32 >>> ((1 : Int32) &&& 31).toUInt32).toInt32) &&& (3 : Int32))), .val (.int (own_b p1 (8 : Int32))), .val (.ref b_3), .val (.ref b_7), .unset, .unset, .unset, .unset, .unset, .unset] [(.ref b_25)]) st_25 ?_
  refine Go.to (mkF m 62 #[.val (.int p1), .val (.int (own_b p1 (1 : Int32))), .val (.int (((p1.toUInt32 >>> ((1 : Int32) &&& 31).toUInt32).toInt32) &&& (3 : Int32))), .val (.int (own_b p1 (8 : Int32))), .val (.ref b_3), .val (.ref b_7), .unset, .unset, .unset, .unset, .unset, .unset] [(.ref b_25), (.ref b_25)]) (fun _ k => XS.dup X_25.here hx rfl (hb hby at_61) rfl rfl k) ?_
  have f_34 : Sta Z h_25 "com/example/vestwright/vestwright/plan/AccountValueDate" "DEATH" "Lcom/example/vestwright/vestwright/plan/AccountValueDate;" (.ref v2) := ((own_sta_keep ((own_sta_keep (PS_com_example_vestwright_vestwright_plan_AccountValueDate_DEATH.ext E_3) K_6 (allS (own_exa_plain A_3) all0)).ext E_7) K_24 (allS (own_exa_plain A_7) all0)).ext E_25)
  obtain ⟨T_35, X_35, e_35, st_35⟩ := getS2 X_25 hx hZ_24 hown_24 (host := "") (Or.inl (hw _ (List.mem_of_getElem? (i := 61) rfl))) Via.refl e_25 f_34 (g := (mkF m 62 #[.val (.int p1), .val (.int (own_b p1 (1 : Int32))), .val (.int (((p1.toUInt32 >>> ((1 : Int32) &&& 31).toUInt32).toInt32) &&& (3 : Int32))), .val (.int (own_b p1 (8 : Int32))), .val (.ref b_3), .val (.ref b_7), .unset, .unset, .unset, .unset, .unset, .unset] [(.ref b_25), (.ref b_25)])) rfl (hb hby at_62)
  refine Go.to (mkF m 65 #[.val (.int p1), .val (.int (own_b p1 (1 : Int32))), .val (.int (((p1.toUInt32 >>> ((1 : Int32) &&& 31).toUInt32).toInt32) &&& (3 : Int32))), .val (.int (own_b p1 (8 : Int32))), .val (.ref b_3), .val (.ref b_7), .unset, .unset, .unset, .unset, .unset, .unset] [(.ref v2), (.ref b_25), (.ref b_25)]) st_35 ?_
  have f_36 : Sta Z h_25 "com/example/vestwright/vestwright/plan/AccountBenefit$Share" "VESTED" "Lcom/example/vestwright/vestwright/plan/AccountBenefit$Share;" (.ref s2) := ((own_sta_keep ((own_sta_keep (PS_com_example_vestwright_vestwright_plan_AccountBenefit_Share_VESTED.ext E_3) K_6 (allS (own_exa_plain A_3) all0)).ext E_7) K_24 (allS (own_exa_plain A_7) all0)).ext E_25)
  obtain ⟨T_37, X_37, e_37, st_37⟩ := getS2 X_35 hx hZ_24 hown_24 (host := "") (Or.inl (hw _ (List.mem_of_getElem? (i := 63) rfl))) Via.refl e_35 f_36 (g := (mkF m 65 #[.val (.int p1), .val (.int (own_b p1 (1 : Int32))), .val (.int (((p1.toUInt32 >>> ((1 : Int32) &&& 31).toUInt32).toInt32) &&& (3 : Int32))), .val (.int (own_b p1 (8 : Int32))), .val (.ref b_3), .val (.ref b_7), .unset, .unset, .unset, .unset, .unset, .unset] [(.ref v2), (.ref b_25), (.ref b_25)])) rfl (hb hby at_65)
  refine Go.to (mkF m 68 #[.val (.int p1), .val (.int (own_b p1 (1 : Int32))), .val (.int (((p1.toUInt32 >>> ((1 : Int32) &&& 31).toUInt32).toInt32) &&& (3 : Int32))), .val (.int (own_b p1 (8 : Int32))), .val (.ref b_3), .val (.ref b_7), .unset, .unset, .unset, .unset, .unset, .unset] [(.ref s2), (.ref v2), (.ref b_25), (.ref b_25)]) st_37 ?_
  refine Go.to (mkF m 70 #[.val (.int p1), .val (.int (own_b p1 (1 : Int32))), .val (.int (((p1.toUInt32 >>> ((1 : Int32) &&& 31).toUInt32).toInt32) &&& (3 : Int32))), .val (.int (own_b p1 (8 : Int32))), .val (.ref b_3), .val (.ref b_7), .unset, .unset, .unset, .unset, .unset, .unset] [(.ref b_3), (.ref s2), (.ref v2), (.ref b_25), (.ref b_25)]) (fun _ k => XS.aload X_37.here hx rfl (hb hby at_68) rfl rfl k) ?_
  have f_38 : Exa Z h_25 v2 "com/example/vestwright/vestwright/plan/AccountValueDate" := (f_28.ext E_25)
  have f_39 : Exa Z h_25 s2 "com/example/vestwright/vestwright/plan/AccountBenefit$Share" := (f_29.ext E_25)
  have f_40 : Exa Z h_25 b_3 "com/example/vestwright/vestwright/plan/LumpSum" := (f_31.ext E_25)
  have f_41 : n0 ≤ h_25.size := (Nat.le_trans f_33 E_25.1)
  have f_42 : T_24.heap.size ≤ h_25.size := (Nat.le_trans (Nat.le_refl _) E_25.1)
  refine Go.specialS hS_24 f_42 X_37 hx hZ_24 (y := (⟨"com/example/vestwright/vestwright/plan/AccountBenefit", "<init>", "(Lcom/example/vestwright/vestwright/plan/AccountValueDate;Lcom/example/vestwright/vestwright/plan/AccountBenefit$Share;Lcom/example/vestwright/vestwright/plan/PayoutForm;)V"⟩ : MethodName)) rfl hown_24 (hw _ (List.mem_of_getElem? (i := 33) rfl)) (hw _ (List.mem_of_getElem? (i := 34) rfl)) (hw _ (List.mem_of_getElem? (i := 35) rfl)) (by decide) e_37 (a := b_25) (argsL := [(.ref v2), (.ref s2), (.ref b_3)]) (rest := [(.ref b_25)]) (MetW.back (W := 1) (rm4 l Z a0 hw b_25 v2 s2 b_3 .null .null .null .null h_25 n0 f_41 A_25 g_b_25 f_38 f_39 f_40 F_accountValue_b_25 F_share_b_25 F_interestToNormalRetirementAge_b_25 F_payout_b_25) hZ_24 (fun _ _ => trivial) (hw _ (List.mem_of_getElem? (i := 35) rfl)) (hw _ (List.mem_of_getElem? (i := 26) rfl)) (by decide) (by decide)) (pc := 70) (Ls := #[.val (.int p1), .val (.int (own_b p1 (1 : Int32))), .val (.int (((p1.toUInt32 >>> ((1 : Int32) &&& 31).toUInt32).toInt32) &&& (3 : Int32))), .val (.int (own_b p1 (8 : Int32))), .val (.ref b_3), .val (.ref b_7), .unset, .unset, .unset, .unset, .unset, .unset]) (by rw [hml]; rfl) (lenOf own_pd12 rfl) rfl (Nat.le_refl _) (hb hby at_70) (by decide) (by decide) ?_
  intro T_43 v_43 L_43 X_43 hS_43 hV_43 hZ_43 hown_43 hg_43 hQ_43
  obtain ⟨rfl, Nq_43, K_43⟩ := hQ_43
  have N_43 := Fr.app N_24 Nq_43
  show Go p e below (FinW s (Q0 Z p1 v1 s1 v2 s2 o h0 n0) room_1.cells room_1.slots) T_43 (mkF m 73 #[.val (.int p1), .val (.int (own_b p1 (1 : Int32))), .val (.int (((p1.toUInt32 >>> ((1 : Int32) &&& 31).toUInt32).toInt32) &&& (3 : Int32))), .val (.int (own_b p1 (8 : Int32))), .val (.ref b_3), .val (.ref b_7), .unset, .unset, .unset, .unset, .unset, .unset] [(.ref b_25)])
  refine Go.to (mkF m 75 #[.val (.int p1), .val (.int (own_b p1 (1 : Int32))), .val (.int (((p1.toUInt32 >>> ((1 : Int32) &&& 31).toUInt32).toInt32) &&& (3 : Int32))), .val (.int (own_b p1 (8 : Int32))), .val (.ref b_3), .val (.ref b_7), .val (.ref b_25), .unset, .unset, .unset, .unset, .unset] []) (fun _ k => XS.astore X_43.here hx rfl (hb hby at_73) rfl rfl (l' := #[.val (.int p1), .val (.int (own_b p1 (1 : Int32))), .val (.int (((p1.toUInt32 >>> ((1 : Int32) &&& 31).toUInt32).toInt32) &&& (3 : Int32))), .val (.int (own_b p1 (8 : Int32))), .val (.ref b_3), .val (.ref b_7), .val (.ref b_25), .unset, .unset, .unset, .unset, .unset]) rfl k) ?_
  have f_45 : Exa Z T_43.heap v1 "com/example/vestwright/vestwright/plan/AccountValueDate" := ((f_26.ext E_25).keep K_43)
  have f_46 : Exa Z T_43.heap s1 "com/example/vestwright/vestwright/plan/AccountBenefit$Share" := ((f_27.ext E_25).keep K_43)
  have f_47 : Exa Z T_43.heap v2 "com/example/vestwright/vestwright/plan/AccountValueDate" := (f_38.keep K_43)
  have f_48 : Exa Z T_43.heap s2 "com/example/vestwright/vestwright/plan/AccountBenefit$Share" := (f_39.keep K_43)
  have f_49 : Exa Z T_43.heap o "java/util/Optional" := ((f_30.ext E_25).keep K_43)
  have f_50 : Exa Z T_43.heap b_3 "com/example/vestwright/vestwright/plan/LumpSum" := (f_40.keep K_43)
  have f_51 : Exa Z T_43.heap b_7 "com/example/vestwright/vestwright/plan/AccountBenefit" := ((f_32.ext E_25).keep K_43)
  have f_52 : Exa Z T_43.heap b_25 "com/example/vestwright/vestwright/plan/AccountBenefit" := (A_25.keep K_43)
  have f_53 : n0 ≤ T_43.heap.size := (Nat.le_trans f_41 K_43.1)
  obtain ⟨T_44, h_44, X_44, e_44, E_44, A_44, D_44, -, st_44⟩ := newO X_43 hx hZ_43 hown_43 (hw _ (List.mem_of_getElem? (i := 65) rfl)) (hw _ (List.mem_of_getElem? (i := 66) rfl)) (hw _ (List.mem_of_getElem? (i := 67) rfl)) rfl (g := (mkF m 75 #[.val (.int p1), .val (.int (own_b p1 (1 : Int32))), .val (.int (((p1.toUInt32 >>> ((1 : Int32) &&& 31).toUInt32).toInt32) &&& (3 : Int32))), .val (.int (own_b p1 (8 : Int32))), .val (.ref b_3), .val (.ref b_7), .val (.ref b_25), .unset, .unset, .unset, .unset, .unset] [])) rfl (hb hby at_75) (by decide) (by decide)
  obtain ⟨b_44, g_44⟩ : ∃ z, z = T_43.heap.size := ⟨_, rfl⟩
  rw [← g_44] at A_44 D_44 st_44
  have g_b_44 : n0 ≤ b_44 := Nat.le_trans f_53 (Nat.le_of_eq g_44.symm)
  have ne_v1_b_44 : v1 ≠ b_44 := Nat.ne_of_lt (Nat.lt_of_lt_of_le f_45.lt (Nat.le_of_eq g_44.symm))
  have ne_s1_b_44 : s1 ≠ b_44 := Nat.ne_of_lt (Nat.lt_of_lt_of_le f_46.lt (Nat.le_of_eq g_44.symm))
  have ne_v2_b_44 : v2 ≠ b_44 := Nat.ne_of_lt (Nat.lt_of_lt_of_le f_47.lt (Nat.le_of_eq g_44.symm))
  have ne_s2_b_44 : s2 ≠ b_44 := Nat.ne_of_lt (Nat.lt_of_lt_of_le f_48.lt (Nat.le_of_eq g_44.symm))
  have ne_o_b_44 : o ≠ b_44 := Nat.ne_of_lt (Nat.lt_of_lt_of_le f_49.lt (Nat.le_of_eq g_44.symm))
  have ne_b_3_b_44 : b_3 ≠ b_44 := Nat.ne_of_lt (Nat.lt_of_lt_of_le f_50.lt (Nat.le_of_eq g_44.symm))
  have ne_b_7_b_44 : b_7 ≠ b_44 := Nat.ne_of_lt (Nat.lt_of_lt_of_le f_51.lt (Nat.le_of_eq g_44.symm))
  have ne_b_25_b_44 : b_25 ≠ b_44 := Nat.ne_of_lt (Nat.lt_of_lt_of_le f_52.lt (Nat.le_of_eq g_44.symm))
  have F_nothingInService_b_44 : Fld Z h_44 b_44 "com/example/vestwright/vestwright/plan/DeathBenefit" "nothingInService" "Z" (.int (0 : Int32)) := D_44 (Or.inr (hw _ (List.mem_of_getElem? (i := 76) rfl))) (ty := .boolean) (by decide)
  have F_afterSeparation_b_44 : Fld Z h_44 b_44 "com/example/vestwright/vestwright/plan/DeathBenefit" "afterSeparation" "Lcom/example/vestwright/vestwright/plan/Benefit;" .null := D_44 (Or.inr (hw _ (List.mem_of_getElem? (i := 78) rfl))) (ty := (.object "com/example/vestwright/vestwright/plan/Benefit")) (by decide)
  have F_duringPayout_b_44 : Fld Z h_44 b_44 "com/example/vestwright/vestwright/plan/DeathBenefit" "duringPayout" "Lcom/example/vestwright/vestwright/plan/Benefit;" .null := D_44 (Or.inr (hw _ (List.mem_of_getElem? (i := 80) rfl))) (ty := (.object "com/example/vestwright/vestwright/plan/Benefit")) (by decide)
  have F_remainingPayments_b_44 : Fld Z h_44 b_44 "com/example/vestwright/vestwright/plan/DeathBenefit" "remainingPayments" "Z" (.int (0 : Int32)) := D_44 (Or.inr (hw _ (List.mem_of_getElem? (i := 82) rfl))) (ty := .boolean) (by decide)
  refine Go.to (mkF m 78 #[.val (.int p1), .val (.int (own_b p1 (1 : Int32))), .val (.int (((p1.toUInt32 >>> ((1 : Int32) &&& 31).toUInt32).toInt32) &&& (3 : Int32))), .val (.int (own_b p1 (8 : Int32))), .val (.ref b_3), .val (.ref b_7), .val (.ref b_25), .unset, .unset, .unset, .unset, .unset] [(.ref b_44)]) st_44 ?_
  refine Go.to (mkF m 79 #[.val (.int p1), .val (.int (own_b p1 (1 : Int32))), .val (.int (((p1.toUInt32 >>> ((1 : Int32) &&& 31).toUInt32).toInt32) &&& (3 : Int32))), .val (.int (own_b p1 (8 : Int32))), .val (.ref b_3), .val (.ref b_7), .val (.ref b_25), .unset, .unset, .unset, .unset, .unset] [(.ref b_44), (.ref b_44)]) (fun _ k => XS.dup X_44.here hx rfl (hb hby at_78) rfl rfl k) ?_
  have f_54 : n0 ≤ h_44.size := (Nat.le_trans f_53 E_44.1)
  refine Go.special X_44 hx hZ_43 (y := (⟨"com/example/vestwright/vestwright/plan/DeathBenefit", "<init>", "()V"⟩ : MethodName)) rfl hown_43 (hw _ (List.mem_of_getElem? (i := 68) rfl)) (hw _ (List.mem_of_getElem? (i := 69) rfl)) (hw _ (List.mem_of_getElem? (i := 70) rfl)) (by decide) e_44 (a := b_44) (argsL := []) (rest := [(.ref b_44)]) (Met1.back (W := 1) (rm7 l Z a0 hw b_44 (.int (0 : Int32)) .null .null (.int (0 : Int32)) h_44 n0 f_54 A_44 g_b_44 F_nothingInService_b_44 F_afterSeparation_b_44 F_duringPayout_b_44 F_remainingPayments_b_44) hZ_43 (hw _ (List.mem_of_getElem? (i := 70) rfl)) (hw _ (List.mem_of_getElem? (i := 67) rfl)) (by decide) (by decide)) (pc := 79) (Ls := #[.val (.int p1), .val (.int (own_b p1 (1 : Int32))), .val (.int (((p1.toUInt32 >>> ((1 : Int32) &&& 31).toUInt32).toInt32) &&& (3 : Int32))), .val (.int (own_b p1 (8 : Int32))), .val (.ref b_3), .val (.ref b_7), .val (.ref b_25), .unset, .unset, .unset, .unset, .unset]) (by rw [hml]; rfl) (lenOf own_pd13 rfl) rfl (Nat.le_refl _) (hb hby at_79) (by decide) (by decide) ?_
  intro T_55 v_55 L_55 X_55 hQ_55
  obtain ⟨rfl, Nq_55, K_55, pf_55_0, pf_55_1, pf_55_2, pf_55_3⟩ := hQ_55
  have N_55 := Fr.app N_43 Nq_55
  show Go p e below (FinW s (Q0 Z p1 v1 s1 v2 s2 o h0 n0) room_1.cells room_1.slots) T_55 (mkF m 82 #[.val (.int p1), .val (.int (own_b p1 (1 : Int32))), .val (.int (((p1.toUInt32 >>> ((1 : Int32) &&& 31).toUInt32).toInt32) &&& (3 : Int32))), .val (.int (own_b p1 (8 : Int32))), .val (.ref b_3), .val (.ref b_7), .val (.ref b_25), .unset, .unset, .unset, .unset, .unset] [(.ref b_44)])
  refine Go.to (mkF m 84 #[.val (.int p1), .val (.int (own_b p1 (1 : Int32))), .val (.int (((p1.toUInt32 >>> ((1 : Int32) &&& 31).toUInt32).toInt32) &&& (3 : Int32))), .val (.int (own_b p1 (8 : Int32))), .val (.ref b_3), .val (.ref b_7), .val (.ref b_25), .val (.ref b_44), .unset, .unset, .unset, .unset] []) (fun _ k => XS.astore X_55.here hx rfl (hb hby at_82) rfl rfl (l' := #[.val (.int p1), .val (.int (own_b p1 (1 : Int32))), .val (.int (((p1.toUInt32 >>> ((1 : Int32) &&& 31).toUInt32).toInt32) &&& (3 : Int32))), .val (.int (own_b p1 (8 : Int32))), .val (.ref b_3), .val (.ref b_7), .val (.ref b_25), .val (.ref b_44), .unset, .unset, .unset, .unset]) rfl k) ?_
  refine Go.to (mkF m 85 #[.val (.int p1), .val (.int (own_b p1 (1 : Int32))), .val (.int (((p1.toUInt32 >>> ((1 : Int32) &&& 31).toUInt32).toInt32) &&& (3 : Int32))), .val (.int (own_b p1 (8 : Int32))), .val (.ref b_3), .val (.ref b_7), .val (.ref b_25), .val (.ref b_44), .unset, .unset, .unset, .unset] [(.int (own_b p1 (1 : Int32)))]) (fun _ k => XS.iloadN X_55.here hx rfl (hb hby at_84) rfl  k) ?_
  by_cases hA : (own_b p1 (1 : Int32)) = (0 : Int32)
  · refine Go.to (mkF m 97 #[.val (.int p1), .val (.int (own_b p1 (1 : Int32))), .val (.int (((p1.toUInt32 >>> ((1 : Int32) &&& 31).toUInt32).toInt32) &&& (3 : Int32))), .val (.int (own_b p1 (8 : Int32))), .val (.ref b_3), .val (.ref b_7), .val (.ref b_25), .val (.ref b_44), .unset, .unset, .unset, .unset] []) (fun _ k => XS.ifYes X_55.here hx rfl (pc0 := 85) (pc' := 97) rfl (hb hby at_85) rfl ((if0 _ _).trans (teq hA).1) (by decide) (by decide) k) ?_
    have f_56 : Fld Z T_55.heap b_44 "com/example/vestwright/vestwright/plan/DeathBenefit" "afterSeparation" "Lcom/example/vestwright/vestwright/plan/Benefit;" (own_r (own_b p1 (1 : Int32)) b_7) := by rw [show (own_r (own_b p1 (1 : Int32)) b_7) = .null from if_pos hA]; exact pf_55_1
    have f_57 : Sta Z T_55.heap "java/util/Optional" "EMPTY" "Ljava/util/Optional;" (.ref o) := (own_sta_keep ((own_sta_keep ((own_sta_keep ((own_sta_keep (PS_java_util_Optional_EMPTY.ext E_3) K_6 (allS (own_exa_plain A_3) all0)).ext E_7) K_24 (allS (own_exa_plain A_7) all0)).ext E_25) K_43 (allS (own_exa_plain A_25) all0)).ext E_44) K_55 (allS (own_exa_plain A_44) all0))
    have f_58 : Exa Z T_55.heap o "java/util/Optional" := ((f_49.ext E_44).keep K_55)
    have f_59 : Fld Z T_55.heap o "java/util/Optional" "value" "Ljava/lang/Object;" .null := ((((((((PF_o_value.ext E_3).keep K_6 (ninS ne_o_b_3 nin0)).ext E_7).keep K_24 (ninS ne_o_b_7 nin0)).ext E_25).keep K_43 (ninS ne_o_b_25 nin0)).ext E_44).keep K_55 (ninS ne_o_b_44 nin0))
    have f_60 : Exa Z T_55.heap b_44 "com/example/vestwright/vestwright/plan/DeathBenefit" := (A_44.keep K_55)
    have f_61 : n0 ≤ T_55.heap.size := (Nat.le_trans f_54 K_55.1)
    have f_62 : T_43.heap.size ≤ T_55.heap.size := (Nat.le_trans (Nat.le_trans (Nat.le_refl _) E_44.1) K_55.1)
    exact seg97 l Z a0 hw p1 v1 s1 v2 s2 o b_3 b_7 b_25 b_44 h0 p e s m below meth c _ _ _ _ hx hZ_43 hby hml hown_43 hnm hret hlk _ n0 f_61 (X_55.more (by decide) (by decide)) rfl N_55 hS_43 f_62 f_57 f_58 f_59 f_60 pf_55_0 f_56 pf_55_2 pf_55_3
  · refine Go.to (mkF m 88 #[.val (.int p1), .val (.int (own_b p1 (1 : Int32))), .val (.int (((p1.toUInt32 >>> ((1 : Int32) &&& 31).toUInt32).toInt32) &&& (3 : Int32))), .val (.int (own_b p1 (8 : Int32))), .val (.ref b_3), .val (.ref b_7), .val (.ref b_25), .val (.ref b_44), .unset, .unset, .unset, .unset] []) (fun _ k => XS.ifNo X_55.here hx rfl (hb hby at_85) rfl ((if0 _ _).trans (feq hA).1) k) ?_
    refine Go.to (mkF m 90 #[.val (.int p1), .val (.int (own_b p1 (1 : Int32))), .val (.int (((p1.toUInt32 >>> ((1 : Int32) &&& 31).toUInt32).toInt32) &&& (3 : Int32))), .val (.int (own_b p1 (8 : Int32))), .val (.ref b_3), .val (.ref b_7), .val (.ref b_25), .val (.ref b_44), .unset, .unset, .unset, .unset] [(.ref b_44)]) (fun _ k => XS.aload X_55.here hx rfl (hb hby at_88) rfl rfl k) ?_
    refine Go.to (mkF m 92 #[.val (.int p1), .val (.int (own_b p1 (1 : Int32))), .val (.int (((p1.toUInt32 >>> ((1 : Int32) &&& 31).toUInt32).toInt32) &&& (3 : Int32))), .val (.int (own_b p1 (8 : Int32))), .val (.ref b_3), .val (.ref b_7), .val (.ref b_25), .val (.ref b_44), .unset, .unset, .unset, .unset] [(.ref b_7), (.ref b_44)]) (fun _ k => XS.aload X_55.here hx rfl (hb hby at_90) rfl rfl k) ?_
    have f_63 : n0 ≤ T_55.heap.size := (Nat.le_trans f_54 K_55.1)
    have f_64 : T_43.heap.size ≤ T_55.heap.size := (Nat.le_trans (Nat.le_trans (Nat.le_refl _) E_44.1) K_55.1)
    have f_65 : Exa Z T_55.heap b_44 "com/example/vestwright/vestwright/plan/DeathBenefit" := (A_44.keep K_55)
    refine Go.virtS hS_43 f_64 X_55 hx hZ_43 (y := (⟨"com/example/vestwright/vestwright/plan/DeathBenefit", "withAfterSeparation", "(Lcom/example/vestwright/vestwright/plan/Benefit;)Lcom/example/vestwright/vestwright/plan/DeathBenefit;"⟩ : MethodName)) (z := (⟨"com/example/vestwright/vestwright/plan/DeathBenefit", "withAfterSeparation", "(Lcom/example/vestwright/vestwright/plan/Benefit;)Lcom/example/vestwright/vestwright/plan/DeathBenefit;"⟩ : MethodName)) hown_43 (hw _ (List.mem_of_getElem? (i := 121) rfl)) (hw _ (List.mem_of_getElem? (i := 122) rfl)) (notFace_of_selects (args := #[]) (mvT hZ_43 (hw _ (List.mem_of_getElem? (i := 124) rfl)))) (hw _ (List.mem_of_getElem? (i := 124) rfl)) (hw _ (List.mem_of_getElem? (i := 123) rfl)) (by decide) rfl (a := b_44) f_65 (argsL := [(.ref b_7)]) (rest := []) (MetW.back (W := 0) (rm16 l Z a0 hw b_44 (0 : Int32) .null .null (0 : Int32) b_7 T_55.heap n0 f_63 pf_55_0 pf_55_1 pf_55_2 pf_55_3 rfl rfl rfl rfl) hZ_43 (fun _ _ => trivial) (hw _ (List.mem_of_getElem? (i := 125) rfl)) (hw _ (List.mem_of_getElem? (i := 67) rfl)) (by decide) (by decide)) (pc := 92) (Ls := #[.val (.int p1), .val (.int (own_b p1 (1 : Int32))), .val (.int (((p1.toUInt32 >>> ((1 : Int32) &&& 31).toUInt32).toInt32) &&& (3 : Int32))), .val (.int (own_b p1 (8 : Int32))), .val (.ref b_3), .val (.ref b_7), .val (.ref b_25), .val (.ref b_44), .unset, .unset, .unset, .unset]) (by rw [hml]; rfl) (lenOf own_pd10 rfl) rfl (Nat.le_refl _) (hb hby at_92) (by decide) (by decide) ?_
    intro T_66 v_66 L_66 X_66 hS_66 hV_66 hZ_66 hown_66 hg_66 hQ_66
    obtain ⟨b_66, rfl, Nq_66, K_66, pf_66_0, pf_66_1, pf_66_2, pf_66_3, pf_66_4, sz_b_66⟩ := hQ_66
    have N_66 := Fr.app N_55 Nq_66
    have f_67 : Exa Z T_55.heap v1 "com/example/vestwright/vestwright/plan/AccountValueDate" := ((f_45.ext E_44).keep K_55)
    have f_68 : Exa Z T_55.heap s1 "com/example/vestwright/vestwright/plan/AccountBenefit$Share" := ((f_46.ext E_44).keep K_55)
    have f_69 : Exa Z T_55.heap v2 "com/example/vestwright/vestwright/plan/AccountValueDate" := ((f_47.ext E_44).keep K_55)
    have f_70 : Exa Z T_55.heap s2 "com/example/vestwright/vestwright/plan/AccountBenefit$Share" := ((f_48.ext E_44).keep K_55)
    have f_71 : Exa Z T_55.heap o "java/util/Optional" := ((f_49.ext E_44).keep K_55)
    have f_72 : Exa Z T_55.heap b_3 "com/example/vestwright/vestwright/plan/LumpSum" := ((f_50.ext E_44).keep K_55)
    have f_73 : Exa Z T_55.heap b_7 "com/example/vestwright/vestwright/plan/AccountBenefit" := ((f_51.ext E_44).keep K_55)
    have f_74 : Exa Z T_55.heap b_25 "com/example/vestwright/vestwright/plan/AccountBenefit" := ((f_52.ext E_44).keep K_55)
    show Go p e below (FinW s (Q0 Z p1 v1 s1 v2 s2 o h0 n0) room_1.cells room_1.slots) T_66 (mkF m 95 #[.val (.int p1), .val (.int (own_b p1 (1 : Int32))), .val (.int (((p1.toUInt32 >>> ((1 : Int32) &&& 31).toUInt32).toInt32) &&& (3 : Int32))), .val (.int (own_b p1 (8 : Int32))), .val (.ref b_3), .val (.ref b_7), .val (.ref b_25), .val (.ref b_44), .unset, .unset, .unset, .unset] [(.ref b_66)])
    have g_b_66 : n0 ≤ b_66 := Nat.le_trans f_63 sz_b_66
    have ne_v1_b_66 : v1 ≠ b_66 := Nat.ne_of_lt (Nat.lt_of_lt_of_le f_67.lt sz_b_66)
    have ne_s1_b_66 : s1 ≠ b_66 := Nat.ne_of_lt (Nat.lt_of_lt_of_le f_68.lt sz_b_66)
    have ne_v2_b_66 : v2 ≠ b_66 := Nat.ne_of_lt (Nat.lt_of_lt_of_le f_69.lt sz_b_66)
    have ne_s2_b_66 : s2 ≠ b_66 := Nat.ne_of_lt (Nat.lt_of_lt_of_le f_70.lt sz_b_66)
    have ne_o_b_66 : o ≠ b_66 := Nat.ne_of_lt (Nat.lt_of_lt_of_le f_71.lt sz_b_66)
    have ne_b_3_b_66 : b_3 ≠ b_66 := Nat.ne_of_lt (Nat.lt_of_lt_of_le f_72.lt sz_b_66)
    have ne_b_7_b_66 : b_7 ≠ b_66 := Nat.ne_of_lt (Nat.lt_of_lt_of_le f_73.lt sz_b_66)
    have ne_b_25_b_66 : b_25 ≠ b_66 := Nat.ne_of_lt (Nat.lt_of_lt_of_le f_74.lt sz_b_66)
    have ne_b_44_b_66 : b_44 ≠ b_66 := Nat.ne_of_lt (Nat.lt_of_lt_of_le f_65.lt sz_b_66)
    refine Go.to (mkF m 97 #[.val (.int p1), .val (.int (own_b p1 (1 : Int32))), .val (.int (((p1.toUInt32 >>> ((1 : Int32) &&& 31).toUInt32).toInt32) &&& (3 : Int32))), .val (.int (own_b p1 (8 : Int32))), .val (.ref b_3), .val (.ref b_7), .val (.ref b_25), .val (.ref b_66), .unset, .unset, .unset, .unset] []) (fun _ k => XS.astore X_66.here hx rfl (hb hby at_95) rfl rfl (l' := #[.val (.int p1), .val (.int (own_b p1 (1 : Int32))), .val (.int (((p1.toUInt32 >>> ((1 : Int32) &&& 31).toUInt32).toInt32) &&& (3 : Int32))), .val (.int (own_b p1 (8 : Int32))), .val (.ref b_3), .val (.ref b_7), .val (.ref b_25), .val (.ref b_66), .unset, .unset, .unset, .unset]) rfl k) ?_
    have f_75 : Fld Z T_66.heap b_66 "com/example/vestwright/vestwright/plan/DeathBenefit" "afterSeparation" "Lcom/example/vestwright/vestwright/plan/Benefit;" (own_r (own_b p1 (1 : Int32)) b_7) := by rw [show (own_r (own_b p1 (1 : Int32)) b_7) = .ref b_7 from if_neg hA]; exact pf_66_2
    have f_76 : Sta Z T_66.heap "java/util/Optional" "EMPTY" "Ljava/util/Optional;" (.ref o) := (own_sta_keep (own_sta_keep ((own_sta_keep ((own_sta_keep ((own_sta_keep (PS_java_util_Optional_EMPTY.ext E_3) K_6 (allS (own_exa_plain A_3) all0)).ext E_7) K_24 (allS (own_exa_plain A_7) all0)).ext E_25) K_43 (allS (own_exa_plain A_25) all0)).ext E_44) K_55 (allS (own_exa_plain A_44) all0)) K_66 all0)
    have f_77 : Exa Z T_66.heap o "java/util/Optional" := (f_71.keep K_66)
    have f_78 : Fld Z T_66.heap o "java/util/Optional" "value" "Ljava/lang/Object;" .null := (((((((((PF_o_value.ext E_3).keep K_6 (ninS ne_o_b_3 nin0)).ext E_7).keep K_24 (ninS ne_o_b_7 nin0)).ext E_25).keep K_43 (ninS ne_o_b_25 nin0)).ext E_44).keep K_55 (ninS ne_o_b_44 nin0)).keep K_66 nin0)
    have f_79 : n0 ≤ T_66.heap.size := (Nat.le_trans f_63 K_66.1)
    exact seg97 l Z a0 hw p1 v1 s1 v2 s2 o b_3 b_7 b_25 b_66 h0 p e s m below meth c _ _ _ _ hx hZ_66 hby hml hown_66 hnm hret hlk _ n0 f_79 (X_66.more (by decide) (by decide)) rfl N_66 hS_66 (Nat.le_refl _) f_76 f_77 f_78 pf_66_0 pf_66_1 f_75 pf_66_3 pf_66_4
set_option maxRecDepth 65536 in
set_option maxHeartbeats 40000000 in
theorem comes_1 {Post : Tables → Env → Array Value → State → Outcome → State → Prop} (hpost : ∀ tb e args s v u, (limb_1_1.after args s (.returned v) u = true ∧ limb_1_2.after args s (.returned v) u = true ∧ True) → ReturnedEndW s (.returned v) u (Jvm.fieldLocs frame_1_writes args s ++ Jvm.arrayLocs frame_1_arrays args s ++ Jvm.staticLocs frame_1_statics s) 48 6336 → Post tb e args s (.returned v) u) :
    ArmFor flags0 classFile x code maxLocals ret World_1 tables_1 room_1 Calls_1 rest_1 Pre_1 Post := by
  intro l hfl _ _ p e ha hc hk s m args below hf hA hF happ hP
  obtain ⟨hcalls, hrest, hpre⟩ := hP
  obtain ⟨-, -, -, hnamed, -, -, -, hat⟩ := (Spec.applies_iff hf).mp happ
  obtain ⟨hg, hn⟩ := and_e (Cond.before_iff.mp (show (Jvm.Cond.and given_1 narrow_1).before args s = true from hpre))
  obtain ⟨gc, ga0⟩ := and_e hg
  have gv0 := ga0
  obtain ⟨w0, rfl⟩ : ∃ w0 : Value, args = #[w0] := by
    have hs : args.size = 1 := by simpa [Cond.value, given_1] using gc
    obtain ⟨L⟩ := args
    match L, hs with
    | [w0], _ => exact ⟨w0, rfl⟩
  have hw := fun d (hd : d ∈ tables_1) => atoms_spec (ws := Jvm.Cond.code x code maxLocals ret :: tables_1) hat d (List.mem_cons_of_mem _ hd)
  have hfit : Fit s := fun {y c} hc i hi => by
    obtain ⟨ha, rfl⟩ := Array.getElem?_eq_some_iff.mp hc
    have q := List.all_eq_true.mp ((Array.all_eq_true_iff_forall_mem.mp hF) _ (Array.getElem_mem ha)) i (List.mem_range.mpr hi)
    simpa [Array.getElem?_eq_getElem hi] using q
  obtain ⟨hsets, hown0⟩ := atoms_of _ (rest_1_c_eq ▸ (show rest_1_c.before _ s = true from hrest))
  obtain ⟨i0, ei0⟩ := is_v gv0
  obtain rfl : w0 = (.int i0) := Option.some.inj ei0
  obtain ⟨n1, hn⟩ := and_e hn
  obtain ⟨n2, hn⟩ := and_e hn
  obtain ⟨n3, n4⟩ := and_e hn
  obtain ⟨v1, ev1, Ev1⟩ := own_exa_at n1
  have Sv1 := Sta.start ev1 (Or.inr ⟨(hw _ (List.mem_of_getElem? (i := 28) rfl)), (hw _ (List.mem_of_getElem? (i := 29) rfl))⟩)
  obtain ⟨s1, es1, Es1⟩ := own_exa_at n2
  have Ss1 := Sta.start es1 (Or.inr ⟨(hw _ (List.mem_of_getElem? (i := 31) rfl)), (hw _ (List.mem_of_getElem? (i := 32) rfl))⟩)
  obtain ⟨v2, ev2, Ev2⟩ := own_exa_at n3
  have Sv2 := Sta.start ev2 (Or.inr ⟨(hw _ (List.mem_of_getElem? (i := 28) rfl)), (hw _ (List.mem_of_getElem? (i := 62) rfl))⟩)
  obtain ⟨s2, es2, Es2⟩ := own_exa_at n4
  have Ss2 := Sta.start es2 (Or.inr ⟨(hw _ (List.mem_of_getElem? (i := 31) rfl)), (hw _ (List.mem_of_getElem? (i := 64) rfl))⟩)
  obtain ⟨o, eo, EO⟩ := own_exa_at (Cond.before_iff.mp (hsets _ (List.mem_of_getElem? (i := 2) rfl)))
  have FO := own_field_at eo (own_eq_null (Cond.before_iff.mp (hsets _ (List.mem_of_getElem? (i := 3) rfl))))
  have SO := Sta.start eo (Or.inl (hsets _ (List.mem_of_getElem? (i := 1) rfl)))
  obtain ⟨n, o, h1, h2, h3, _, L, rfl, ⟨rfl, N⟩, hq⟩ := rm0 l s _ hw i0 v1 s1 v2 s2 o s.heap s.heap.size (Nat.le_refl _) Sv1 Ss1 Sv2 Ss2 Ev1 Es1 Ev2 Es2 SO EO FO tables_1 p e ha hc hk s m _ below hf ((Spec.applies_iff_loose hf).mp happ).1 ⟨rfl, State.Warmed39.refl s, rfl, trivial⟩ trivial
  refine ⟨n, _, h1, h2, h3, hpost _ _ _ _ _ _ ⟨Cond.after_iff.mpr rfl, Cond.after_iff.mpr (eq_i res_at (Term.int_eval (1)) rfl), trivial⟩ ⟨hq.1, hq.2.1, hq.2.2.1, (hq.2.2.2.sift fun y hy => Or.inr (N y hy)).mono (by decide) (by decide)⟩⟩
theorem main_1_1 : Claimed_1_1 := comes_1 fun _ _ _ _ _ _ h hF => ⟨h.1, hF⟩
theorem main_1_2 : Claimed_1_2 := comes_1 fun _ _ _ _ _ _ h hF => ⟨h.2.1, hF⟩
end Jvm.Pilot.@@N@@
namespace Jvm.Pilot.@@N@@
open Jvm Jvm.ClassFile Sem Op Lib Jvm.Free Jvm.Stand Jvm.Pilot.@@N@@.Jvm.D
/-! MADE BY PROGRAM (witnessworld.py) out of the Statement's table words and the real class files: 24 classes; the members and pool entries that the words name. The judged class is class 1, her method 1. -/
namespace start1
open Jvm.ClassFile
def u (s : String) : CpInfo := .utf8 (stringToUtf16 s)
/-- a pool by its gaps: so many unusable entries, then the entry; so many at the end -/
def gap : Nat → List CpInfo → List CpInfo
  | 0, r => r
  | n + 1, r => .unusable :: gap n r
def poolList (es : List (Nat × CpInfo)) (last : Nat) : List CpInfo := es.foldr (fun e r => gap e.1 (e.2 :: r)) (gap last [])
def pool (es : List (Nat × CpInfo)) (last : Nat) : Array CpInfo := ⟨poolList es last⟩
def fileOf (pool : Array CpInfo) (this : Nat) (attrs : Array Attribute := #[]) (ms : Array MethodInfo := #[]) (fl : Nat := 33) (sup : Nat := 0) (ifs : Array Nat := #[]) (fds : Array FieldInfo := #[]) : ClassFile where
  minorVersion := 0
  majorVersion := 65
  constantPool := pool
  accessFlags := fl
  thisClass := this
  superClass := sup
  interfaces := ifs
  fields := fds
  methods := ms
  attributes := attrs
def plain (name : String) (sup : Option ClassId) : Class where
  name := name
  kind := .ordinary
  loader := none
  accessFlags := 33
  super := sup
  interfaces := #[]
  cf := none
  fields := #[]
  methods := #[]
  instanceTypes := #[]
  staticTypes := #[]
  resolved := #[]
  callSites := []
  init := .initialized
  statics := none
  mirror := none

def pool0 : Array CpInfo := pool [(5, u "<init>"), (0, u "()V"), (1, .class_ 10), (1, u "java/lang/Object")] 113

def k0c0 : Code := { maxStack := 0, maxLocals := 1, code := object_method_1_code, exceptionTable := #[], attributes := #[] }
def k0m0 : Method := { name := "<init>", desc := "()V", sig := { parameters := [], returnType := none }, accessFlags := 1, code := some k0c0 }
/-- java/lang/Object -/
def k0 : Class := { plain "java/lang/Object" none with
  accessFlags := 33
  interfaces := #[]
  cf := some (fileOf pool0 8 #[] #[{ accessFlags := 1, nameIndex := 5, descriptorIndex := 6, attributes := #[] }] 33 0 #[] #[])
  fields := #[]
  methods := #[k0m0]
  instanceTypes := #[]
  staticTypes := #[]
  resolved := Array.replicate 124 none
  statics := none }

def pool1 : Array CpInfo := pool [(2, .class_ 4), (0, .nameAndType 5 6), (0, u "java/lang/Object"), (0, u "<init>"), (0, u "()V"), (0, .class_ 8), (0, u "com/example/vestwright/vestwright/plan/LumpSum"), (0, .methodref 7 10), (0, .nameAndType 5 11), (0, u "(I)V"), (0, .class_ 13), (0, u "com/example/vestwright/vestwright/plan/AccountBenefit"), (0, .fieldref 15 16), (0, .class_ 17), (0, .nameAndType 18 19), (0, u "com/example/vestwright/vestwright/plan/AccountValueDate"), (0, u "SEPARATION"), (0, u "Lcom/example/vestwright/vestwright/plan/AccountValueDate;"), (0, .fieldref 21 22), (0, .class_ 23), (0, .nameAndType 24 25), (0, u "com/example/vestwright/vestwright/plan/AccountBenefit$Share"), (0, u "FULL"), (0, u "Lcom/example/vestwright/vestwright/plan/AccountBenefit$Share;"), (0, .methodref 12 27), (0, .nameAndType 5 28), (0, u "(Lcom/example/vestwright/vestwright/plan/AccountValueDate;Lcom/example/vestwright/vestwright/plan/AccountBenefit$Share;Lcom/example/vestwright/vestwright/plan/PayoutForm;)V"), (0, .fieldref 15 30), (0, .nameAndType 31 19), (0, u "DEATH"), (0, .fieldref 21 33), (0, .nameAndType 34 25), (0, u "VESTED"), (0, .class_ 36), (0, u "com/example/vestwright/vestwright/plan/DeathBenefit"), (0, .methodref 35 3), (0, .methodref 35 39), (0, .nameAndType 40 41), (0, u "withAfterSeparation"), (0, u "(Lcom/example/vestwright/vestwright/plan/Benefit;)Lcom/example/vestwright/vestwright/plan/DeathBenefit;"), (0, .methodref 35 43), (0, .nameAndType 44 41), (0, u "withDuringPayout"), (0, .methodref 35 46), (0, .nameAndType 47 48), (0, u "withRemainingPaymentsDuringPayout"), (0, u "()Lcom/example/vestwright/vestwright/plan/DeathBenefit;"), (0, .methodref 35 50), (0, .nameAndType 51 48), (0, u "withNothingInService"), (0, .methodref 35 53), (0, .nameAndType 54 55), (0, u "paysNothingInService"), (0, u "()Z"), (0, .methodref 35 57), (0, .nameAndType 58 59), (0, u "afterSeparation"), (0, u "()Ljava/util/Optional;"), (0, .methodref 61 62), (0, .class_ 63), (0, .nameAndType 64 65), (0, u "java/util/Optional"), (0, u "orElse"), (0, u "(Ljava/lang/Object;)Ljava/lang/Object;"), (0, .methodref 35 67), (0, .nameAndType 68 59), (0, u "duringPayout"), (0, .methodref 35 70), (0, .nameAndType 71 55), (0, u "paysRemainingPaymentsDuringPayout"), (0, .class_ 73), (0, u "com/example/vestwright/vestwright/plan/DeathBenefitWithNothingInServicePinLaw"), (2, u "law"), (0, u "(I)Z")] 7

def k1m0 : Method := { name := "<init>", desc := "()V", sig := { parameters := [], returnType := none }, accessFlags := 2, code := none }
def k1c1 : Code := { maxStack := 5, maxLocals := 12, code := code, exceptionTable := #[], attributes := #[] }
def k1m1 : Method := { name := "law", desc := "(I)Z", sig := { parameters := [.int], returnType := some .boolean }, accessFlags := 9, code := some k1c1 }
/-- com/example/vestwright/vestwright/plan/DeathBenefitWithNothingInServicePinLaw -/
def k1 : Class := { plain "com/example/vestwright/vestwright/plan/DeathBenefitWithNothingInServicePinLaw" (some 0) with
  accessFlags := 49
  interfaces := #[]
  cf := some (fileOf pool1 72 #[] #[{ accessFlags := 2, nameIndex := 5, descriptorIndex := 6, attributes := #[] }, { accessFlags := 9, nameIndex := 76, descriptorIndex := 77, attributes := #[] }] 49 2 #[] #[])
  fields := #[]
  methods := #[k1m0, k1m1]
  instanceTypes := #[]
  staticTypes := #[]
  resolved := Array.replicate 85 none
  statics := none }

def pool2 : Array CpInfo := pool [(1, .class_ 2), (0, u "com/example/vestwright/vestwright/plan/PayoutForm"), (0, .class_ 4), (0, u "java/lang/Object")] 9

/-- com/example/vestwright/vestwright/plan/PayoutForm -/
def k2 : Class := { plain "com/example/vestwright/vestwright/plan/PayoutForm" (some 0) with
  accessFlags := 1537
  interfaces := #[]
  cf := some (fileOf pool2 1 #[] #[] 1537 3 #[] #[])
  fields := #[]
  methods := #[]
  instanceTypes := #[]
  staticTypes := #[]
  resolved := Array.replicate 14 none
  statics := none }

def pool3 : Array CpInfo := pool [(1, .methodref 2 3), (0, .class_ 4), (0, .nameAndType 5 6), (0, u "java/lang/Object"), (0, u "<init>"), (0, u "()V"), (0, .string 8), (0, u "a lump sum"), (0, .string 10), (0, u ""), (0, .methodref 12 13), (0, .class_ 14), (0, .nameAndType 15 16), (0, u "com/example/vestwright/vestwright/plan/DaysDue"), (0, u "checked"), (0, u "(Ljava/lang/String;Ljava/lang/String;I)I"), (0, .fieldref 18 19), (0, .class_ 20), (0, .nameAndType 21 22), (0, u "com/example/vestwright/vestwright/plan/LumpSum"), (0, u "withinDays"), (0, u "I"), (0, .class_ 24), (0, u "com/example/vestwright/vestwright/plan/PayoutForm"), (0, u "(I)V")] 5

def k3c0 : Code := { maxStack := 4, maxLocals := 2, code := prog_72_method_1_code, exceptionTable := #[], attributes := #[] }
def k3m0 : Method := { name := "<init>", desc := "(I)V", sig := { parameters := [.int], returnType := none }, accessFlags := 1, code := some k3c0 }
/-- com/example/vestwright/vestwright/plan/LumpSum -/
def k3 : Class := { plain "com/example/vestwright/vestwright/plan/LumpSum" (some 0) with
  accessFlags := 49
  interfaces := #[2]
  cf := some (fileOf pool3 18 #[] #[{ accessFlags := 1, nameIndex := 5, descriptorIndex := 25, attributes := #[] }] 49 2 #[23] #[{ accessFlags := 18, nameIndex := 21, descriptorIndex := 22, attributes := #[] }])
  fields := #[{ name := "withinDays", type := .int, accessFlags := 18, slot := 0, constantValue := 0 }]
  methods := #[k3m0]
  instanceTypes := #[.int]
  staticTypes := #[]
  resolved := Array.replicate 31 none
  statics := none }

def pool4 : Array CpInfo := pool [(1, .class_ 2), (0, u "java/io/Serializable"), (0, .class_ 4), (0, u "java/lang/Object")] 2

/-- java/io/Serializable -/
def k4 : Class := { plain "java/io/Serializable" (some 0) with
  accessFlags := 1537
  interfaces := #[]
  cf := some (fileOf pool4 1 #[] #[] 1537 3 #[] #[])
  fields := #[]
  methods := #[]
  instanceTypes := #[]
  staticTypes := #[]
  resolved := Array.replicate 7 none
  statics := none }

def pool5 : Array CpInfo := pool [(1, .class_ 2), (0, u "java/lang/Comparable"), (0, .class_ 4), (0, u "java/lang/Object")] 7

/-- java/lang/Comparable -/
def k5 : Class := { plain "java/lang/Comparable" (some 0) with
  accessFlags := 1537
  interfaces := #[]
  cf := some (fileOf pool5 1 #[] #[] 1537 3 #[] #[])
  fields := #[]
  methods := #[]
  instanceTypes := #[]
  staticTypes := #[]
  resolved := Array.replicate 12 none
  statics := none }

def pool6 : Array CpInfo := pool [(2, .class_ 4), (1, u "java/lang/CharSequence"), (42, .class_ 48), (0, u "java/lang/CharSequence$1CodePointIterator"), (10, .class_ 60), (0, u "java/lang/CharSequence$1CharIterator"), (5, .class_ 67), (0, u "java/lang/Object")] 63

/-- java/lang/CharSequence -/
def k6 : Class := { plain "java/lang/CharSequence" (some 0) with
  accessFlags := 1537
  interfaces := #[]
  cf := some (fileOf pool6 2 #[.nestMembers #[47, 59]] #[] 1537 66 #[] #[])
  fields := #[]
  methods := #[]
  instanceTypes := #[]
  staticTypes := #[]
  resolved := Array.replicate 131 none
  statics := none }

def pool7 : Array CpInfo := pool [(1, .class_ 2), (0, u "java/lang/constant/Constable"), (0, .class_ 4), (0, u "java/lang/Object")] 6

/-- java/lang/constant/Constable -/
def k7 : Class := { plain "java/lang/constant/Constable" (some 0) with
  accessFlags := 1537
  interfaces := #[]
  cf := some (fileOf pool7 1 #[] #[] 1537 3 #[] #[])
  fields := #[]
  methods := #[]
  instanceTypes := #[]
  staticTypes := #[]
  resolved := Array.replicate 11 none
  statics := none }

def pool8 : Array CpInfo := pool [(1, .class_ 2), (0, u "java/lang/constant/ConstantDesc"), (0, .class_ 4), (0, u "java/lang/Object")] 32

/-- java/lang/constant/ConstantDesc -/
def k8 : Class := { plain "java/lang/constant/ConstantDesc" (some 0) with
  accessFlags := 1537
  interfaces := #[]
  cf := some (fileOf pool8 1 #[] #[] 1537 3 #[] #[])
  fields := #[]
  methods := #[]
  instanceTypes := #[]
  staticTypes := #[]
  resolved := Array.replicate 37 none
  statics := none }

def pool9 : Array CpInfo := pool [(2, .class_ 4), (1, u "java/lang/Object"), (0, u "<init>"), (0, u "()V"), (3, .class_ 12), (1, u "java/lang/String"), (0, u "value"), (0, u "[B"), (2, u "coder"), (0, u "B"), (2, u "hash"), (0, u "I"), (2, u "hashIsZero"), (0, u "Z"), (13, u "COMPACT_STRINGS"), (534, .class_ 576), (0, u "java/lang/CharSequence"), (22, u "CASE_INSENSITIVE_ORDER"), (0, u "Ljava/util/Comparator;"), (500, u "serialPersistentFields"), (0, u "[Ljava/io/ObjectStreamField;"), (0, .class_ 1104), (0, u "java/lang/String$CaseInsensitiveComparator"), (1, .class_ 1107), (0, u "java/io/Serializable"), (0, .class_ 1109), (0, u "java/lang/Comparable"), (0, .class_ 1111), (0, u "java/lang/constant/Constable"), (0, .class_ 1113), (0, u "java/lang/constant/ConstantDesc"), (2, u "serialVersionUID"), (0, u "J"), (3, u "REPL"), (0, u "C"), (2, u "LATIN1"), (1, u "UTF16")] 323

def k9m0 : Method := { name := "<init>", desc := "()V", sig := { parameters := [], returnType := none }, accessFlags := 1, code := none }
/-- java/lang/String -/
def k9 : Class := { plain "java/lang/String" (some 0) with
  accessFlags := 49
  interfaces := #[4, 5, 6, 7, 8]
  cf := some (fileOf pool9 10 #[.nestMembers #[1103]] #[{ accessFlags := 1, nameIndex := 5, descriptorIndex := 6, attributes := #[] }] 49 2 #[1106, 1108, 575, 1110, 1112] #[{ accessFlags := 18, nameIndex := 13, descriptorIndex := 14, attributes := #[] }, { accessFlags := 18, nameIndex := 17, descriptorIndex := 18, attributes := #[] }, { accessFlags := 2, nameIndex := 21, descriptorIndex := 22, attributes := #[] }, { accessFlags := 2, nameIndex := 25, descriptorIndex := 26, attributes := #[] }, { accessFlags := 26, nameIndex := 1116, descriptorIndex := 1117, attributes := #[] }, { accessFlags := 24, nameIndex := 40, descriptorIndex := 26, attributes := #[] }, { accessFlags := 26, nameIndex := 1101, descriptorIndex := 1102, attributes := #[] }, { accessFlags := 26, nameIndex := 1121, descriptorIndex := 1122, attributes := #[] }, { accessFlags := 25, nameIndex := 599, descriptorIndex := 600, attributes := #[] }, { accessFlags := 24, nameIndex := 1125, descriptorIndex := 18, attributes := #[] }, { accessFlags := 24, nameIndex := 1127, descriptorIndex := 18, attributes := #[] }])
  fields := #[{ name := "value", type := (.array .byte), accessFlags := 18, slot := 0, constantValue := 0 }, { name := "coder", type := .byte, accessFlags := 18, slot := 1, constantValue := 0 }, { name := "hash", type := .int, accessFlags := 2, slot := 2, constantValue := 0 }, { name := "hashIsZero", type := .boolean, accessFlags := 2, slot := 3, constantValue := 0 }, { name := "serialVersionUID", type := .long, accessFlags := 26, slot := 0, constantValue := 0 }, { name := "COMPACT_STRINGS", type := .boolean, accessFlags := 24, slot := 1, constantValue := 0 }, { name := "serialPersistentFields", type := (.array (.object "java/io/ObjectStreamField")), accessFlags := 26, slot := 2, constantValue := 0 }, { name := "REPL", type := .char, accessFlags := 26, slot := 3, constantValue := 0 }, { name := "CASE_INSENSITIVE_ORDER", type := (.object "java/util/Comparator"), accessFlags := 25, slot := 4, constantValue := 0 }, { name := "LATIN1", type := .byte, accessFlags := 24, slot := 5, constantValue := 0 }, { name := "UTF16", type := .byte, accessFlags := 24, slot := 6, constantValue := 0 }]
  methods := #[k9m0]
  instanceTypes := #[(.array .byte), .byte, .int, .boolean]
  staticTypes := #[.long, .boolean, (.array (.object "java/io/ObjectStreamField")), .char, (.object "java/util/Comparator"), .byte, .byte]
  resolved := Array.replicate 1451 none
  statics := none }

def pool10 : Array CpInfo := pool [(2, .class_ 4), (1, u "java/lang/Object"), (0, u "<init>"), (0, u "()V"), (0, .class_ 8), (0, u "com/example/vestwright/vestwright/plan/DaysDue"), (9, u "AFTER_PLAN_YEAR"), (0, u "Ljava/lang/String;"), (3, u "MAX_DAYS"), (0, u "I"), (3, u "checked"), (0, u "(Ljava/lang/String;Ljava/lang/String;I)I")] 18

def k10m0 : Method := { name := "<init>", desc := "()V", sig := { parameters := [], returnType := none }, accessFlags := 2, code := none }
def k10c1 : Code := { maxStack := 5, maxLocals := 3, code := prog_60_method_2_code, exceptionTable := #[], attributes := #[] }
def k10m1 : Method := { name := "checked", desc := "(Ljava/lang/String;Ljava/lang/String;I)I", sig := { parameters := [(.object "java/lang/String"), (.object "java/lang/String"), .int], returnType := some .int }, accessFlags := 8, code := some k10c1 }
/-- com/example/vestwright/vestwright/plan/DaysDue -/
def k10 : Class := { plain "com/example/vestwright/vestwright/plan/DaysDue" (some 0) with
  accessFlags := 48
  interfaces := #[]
  cf := some (fileOf pool10 7 #[] #[{ accessFlags := 2, nameIndex := 5, descriptorIndex := 6, attributes := #[] }, { accessFlags := 8, nameIndex := 28, descriptorIndex := 29, attributes := #[] }] 48 2 #[] #[{ accessFlags := 24, nameIndex := 18, descriptorIndex := 19, attributes := #[] }, { accessFlags := 26, nameIndex := 23, descriptorIndex := 24, attributes := #[] }])
  fields := #[{ name := "AFTER_PLAN_YEAR", type := (.object "java/lang/String"), accessFlags := 24, slot := 0, constantValue := 0 }, { name := "MAX_DAYS", type := .int, accessFlags := 26, slot := 1, constantValue := 0 }]
  methods := #[k10m0, k10m1]
  instanceTypes := #[]
  staticTypes := #[(.object "java/lang/String"), .int]
  resolved := Array.replicate 48 none
  statics := none }

def pool11 : Array CpInfo := pool [(1, .class_ 2), (0, u "com/example/vestwright/vestwright/plan/Benefit"), (0, .class_ 4), (0, u "java/lang/Object")] 9

/-- com/example/vestwright/vestwright/plan/Benefit -/
def k11 : Class := { plain "com/example/vestwright/vestwright/plan/Benefit" (some 0) with
  accessFlags := 1537
  interfaces := #[]
  cf := some (fileOf pool11 1 #[] #[] 1537 3 #[] #[])
  fields := #[]
  methods := #[]
  instanceTypes := #[]
  staticTypes := #[]
  resolved := Array.replicate 14 none
  statics := none }

def pool12 : Array CpInfo := pool [(1, .methodref 2 3), (0, .class_ 4), (0, .nameAndType 5 6), (0, u "com/example/vestwright/vestwright/plan/AccountBenefit"), (0, u "<init>"), (0, u "(Lcom/example/vestwright/vestwright/plan/AccountValueDate;Lcom/example/vestwright/vestwright/plan/AccountBenefit$Share;Ljava/math/BigDecimal;Lcom/example/vestwright/vestwright/plan/PayoutForm;)V"), (0, .methodref 8 9), (0, .class_ 10), (0, .nameAndType 5 11), (0, u "java/lang/Object"), (0, u "()V"), (0, .string 13), (0, u "account value date"), (0, .methodref 15 16), (0, .class_ 17), (0, .nameAndType 18 19), (0, u "java/util/Objects"), (0, u "requireNonNull"), (0, u "(Ljava/lang/Object;Ljava/lang/String;)Ljava/lang/Object;"), (0, .class_ 21), (0, u "com/example/vestwright/vestwright/plan/AccountValueDate"), (0, .fieldref 2 23), (0, .nameAndType 24 25), (0, u "accountValue"), (0, u "Lcom/example/vestwright/vestwright/plan/AccountValueDate;"), (0, .string 27), (0, u "share"), (0, .class_ 29), (0, u "com/example/vestwright/vestwright/plan/AccountBenefit$Share"), (0, .fieldref 2 31), (0, .nameAndType 27 32), (0, u "Lcom/example/vestwright/vestwright/plan/AccountBenefit$Share;"), (0, .fieldref 2 34), (0, .nameAndType 35 36), (0, u "interestToNormalRetirementAge"), (0, u "Ljava/math/BigDecimal;"), (0, .string 38), (0, u "payout"), (0, .class_ 40), (0, u "com/example/vestwright/vestwright/plan/PayoutForm"), (0, .fieldref 2 42), (0, .nameAndType 38 43), (0, u "Lcom/example/vestwright/vestwright/plan/PayoutForm;"), (14, .class_ 59), (0, u "com/example/vestwright/vestwright/plan/Benefit"), (0, u "(Lcom/example/vestwright/vestwright/plan/AccountValueDate;Lcom/example/vestwright/vestwright/plan/AccountBenefit$Share;Lcom/example/vestwright/vestwright/plan/PayoutForm;)V")] 15

def k12c0 : Code := { maxStack := 5, maxLocals := 4, code := prog_39_method_1_code, exceptionTable := #[], attributes := #[] }
def k12m0 : Method := { name := "<init>", desc := "(Lcom/example/vestwright/vestwright/plan/AccountValueDate;Lcom/example/vestwright/vestwright/plan/AccountBenefit$Share;Lcom/example/vestwright/vestwright/plan/PayoutForm;)V", sig := { parameters := [(.object "com/example/vestwright/vestwright/plan/AccountValueDate"), (.object "com/example/vestwright/vestwright/plan/AccountBenefit$Share"), (.object "com/example/vestwright/vestwright/plan/PayoutForm")], returnType := none }, accessFlags := 1, code := some k12c0 }
def k12c1 : Code := { maxStack := 3, maxLocals := 5, code := prog_39_method_2_code, exceptionTable := #[], attributes := #[] }
def k12m1 : Method := { name := "<init>", desc := "(Lcom/example/vestwright/vestwright/plan/AccountValueDate;Lcom/example/vestwright/vestwright/plan/AccountBenefit$Share;Ljava/math/BigDecimal;Lcom/example/vestwright/vestwright/plan/PayoutForm;)V", sig := { parameters := [(.object "com/example/vestwright/vestwright/plan/AccountValueDate"), (.object "com/example/vestwright/vestwright/plan/AccountBenefit$Share"), (.object "java/math/BigDecimal"), (.object "com/example/vestwright/vestwright/plan/PayoutForm")], returnType := none }, accessFlags := 2, code := some k12c1 }
/-- com/example/vestwright/vestwright/plan/AccountBenefit -/
def k12 : Class := { plain "com/example/vestwright/vestwright/plan/AccountBenefit" (some 0) with
  accessFlags := 49
  interfaces := #[11]
  cf := some (fileOf pool12 2 #[.nestMembers #[28]] #[{ accessFlags := 1, nameIndex := 5, descriptorIndex := 60, attributes := #[] }, { accessFlags := 2, nameIndex := 5, descriptorIndex := 6, attributes := #[] }] 49 8 #[58] #[{ accessFlags := 18, nameIndex := 24, descriptorIndex := 25, attributes := #[] }, { accessFlags := 18, nameIndex := 27, descriptorIndex := 32, attributes := #[] }, { accessFlags := 18, nameIndex := 35, descriptorIndex := 36, attributes := #[] }, { accessFlags := 18, nameIndex := 38, descriptorIndex := 43, attributes := #[] }])
  fields := #[{ name := "accountValue", type := (.object "com/example/vestwright/vestwright/plan/AccountValueDate"), accessFlags := 18, slot := 0, constantValue := 0 }, { name := "share", type := (.object "com/example/vestwright/vestwright/plan/AccountBenefit$Share"), accessFlags := 18, slot := 1, constantValue := 0 }, { name := "interestToNormalRetirementAge", type := (.object "java/math/BigDecimal"), accessFlags := 18, slot := 2, constantValue := 0 }, { name := "payout", type := (.object "com/example/vestwright/vestwright/plan/PayoutForm"), accessFlags := 18, slot := 3, constantValue := 0 }]
  methods := #[k12m0, k12m1]
  instanceTypes := #[(.object "com/example/vestwright/vestwright/plan/AccountValueDate"), (.object "com/example/vestwright/vestwright/plan/AccountBenefit$Share"), (.object "java/math/BigDecimal"), (.object "com/example/vestwright/vestwright/plan/PayoutForm")]
  staticTypes := #[]
  resolved := Array.replicate 76 none
  statics := none }

def pool13 : Array CpInfo := pool [(2, .class_ 4), (1, u "java/lang/Enum"), (0, u "name"), (0, u "Ljava/lang/String;"), (2, u "ordinal"), (0, u "I"), (1, .class_ 14), (1, u "java/lang/Object"), (4, u "hash"), (86, .class_ 108), (1, u "java/lang/Enum$EnumDesc"), (2, .class_ 112), (0, u "java/lang/constant/Constable"), (0, .class_ 114), (0, u "java/lang/Comparable"), (0, .class_ 116), (0, u "java/io/Serializable")] 87

/-- java/lang/Enum -/
def k13 : Class := { plain "java/lang/Enum" (some 0) with
  accessFlags := 1057
  interfaces := #[7, 5, 4]
  cf := some (fileOf pool13 2 #[.nestMembers #[106]] #[] 1057 12 #[111, 113, 115] #[{ accessFlags := 18, nameIndex := 5, descriptorIndex := 6, attributes := #[] }, { accessFlags := 18, nameIndex := 9, descriptorIndex := 10, attributes := #[] }, { accessFlags := 2, nameIndex := 19, descriptorIndex := 10, attributes := #[] }])
  fields := #[{ name := "name", type := (.object "java/lang/String"), accessFlags := 18, slot := 0, constantValue := 0 }, { name := "ordinal", type := .int, accessFlags := 18, slot := 1, constantValue := 0 }, { name := "hash", type := .int, accessFlags := 2, slot := 2, constantValue := 0 }]
  methods := #[]
  instanceTypes := #[(.object "java/lang/String"), .int, .int]
  staticTypes := #[]
  resolved := Array.replicate 204 none
  statics := none }

def pool14 : Array CpInfo := pool [(1, .class_ 2), (0, u "com/example/vestwright/vestwright/plan/AccountValueDate"), (2, u "ANNIVERSARY"), (0, u "Lcom/example/vestwright/vestwright/plan/AccountValueDate;"), (2, u "PLAN_YEAR_END"), (2, u "SEPARATION"), (2, u "DEATH"), (2, u "$VALUES"), (0, u "[Lcom/example/vestwright/vestwright/plan/AccountValueDate;"), (6, .class_ 28), (1, u "java/lang/Enum"), (8, u "term"), (0, u "Ljava/lang/String;"), (2, u "words")] 40

/-- com/example/vestwright/vestwright/plan/AccountValueDate -/
def k14 : Class := { plain "com/example/vestwright/vestwright/plan/AccountValueDate" (some 13) with
  accessFlags := 16433
  interfaces := #[]
  cf := some (fileOf pool14 1 #[] #[] 16433 26 #[] #[{ accessFlags := 16409, nameIndex := 5, descriptorIndex := 6, attributes := #[] }, { accessFlags := 16409, nameIndex := 9, descriptorIndex := 6, attributes := #[] }, { accessFlags := 16409, nameIndex := 12, descriptorIndex := 6, attributes := #[] }, { accessFlags := 16409, nameIndex := 15, descriptorIndex := 6, attributes := #[] }, { accessFlags := 18, nameIndex := 37, descriptorIndex := 38, attributes := #[] }, { accessFlags := 18, nameIndex := 41, descriptorIndex := 38, attributes := #[] }, { accessFlags := 4122, nameIndex := 18, descriptorIndex := 19, attributes := #[] }])
  fields := #[{ name := "ANNIVERSARY", type := (.object "com/example/vestwright/vestwright/plan/AccountValueDate"), accessFlags := 16409, slot := 0, constantValue := 0 }, { name := "PLAN_YEAR_END", type := (.object "com/example/vestwright/vestwright/plan/AccountValueDate"), accessFlags := 16409, slot := 1, constantValue := 0 }, { name := "SEPARATION", type := (.object "com/example/vestwright/vestwright/plan/AccountValueDate"), accessFlags := 16409, slot := 2, constantValue := 0 }, { name := "DEATH", type := (.object "com/example/vestwright/vestwright/plan/AccountValueDate"), accessFlags := 16409, slot := 3, constantValue := 0 }, { name := "term", type := (.object "java/lang/String"), accessFlags := 18, slot := 3, constantValue := 0 }, { name := "words", type := (.object "java/lang/String"), accessFlags := 18, slot := 4, constantValue := 0 }, { name := "$VALUES", type := (.array (.object "com/example/vestwright/vestwright/plan/AccountValueDate")), accessFlags := 4122, slot := 4, constantValue := 0 }]
  methods := #[]
  instanceTypes := #[(.object "java/lang/String"), .int, .int, (.object "java/lang/String"), (.object "java/lang/String")]
  staticTypes := #[(.object "com/example/vestwright/vestwright/plan/AccountValueDate"), (.object "com/example/vestwright/vestwright/plan/AccountValueDate"), (.object "com/example/vestwright/vestwright/plan/AccountValueDate"), (.object "com/example/vestwright/vestwright/plan/AccountValueDate"), (.array (.object "com/example/vestwright/vestwright/plan/AccountValueDate"))]
  resolved := Array.replicate 82 none
  statics := some 0 }

def pool15 : Array CpInfo := pool [(1, .class_ 2), (0, u "com/example/vestwright/vestwright/plan/AccountBenefit$Share"), (2, u "VESTED"), (0, u "Lcom/example/vestwright/vestwright/plan/AccountBenefit$Share;"), (2, u "FULL"), (2, u "$VALUES"), (0, u "[Lcom/example/vestwright/vestwright/plan/AccountBenefit$Share;"), (6, .class_ 22), (1, u "java/lang/Enum"), (8, u "term"), (0, u "Ljava/lang/String;"), (27, .class_ 61), (0, u "com/example/vestwright/vestwright/plan/AccountBenefit")] 2

/-- com/example/vestwright/vestwright/plan/AccountBenefit$Share -/
def k15 : Class := { plain "com/example/vestwright/vestwright/plan/AccountBenefit$Share" (some 13) with
  accessFlags := 16433
  interfaces := #[]
  cf := some (fileOf pool15 1 #[.nestHost 60] #[] 16433 20 #[] #[{ accessFlags := 16409, nameIndex := 5, descriptorIndex := 6, attributes := #[] }, { accessFlags := 16409, nameIndex := 9, descriptorIndex := 6, attributes := #[] }, { accessFlags := 18, nameIndex := 31, descriptorIndex := 32, attributes := #[] }, { accessFlags := 4122, nameIndex := 12, descriptorIndex := 13, attributes := #[] }])
  fields := #[{ name := "VESTED", type := (.object "com/example/vestwright/vestwright/plan/AccountBenefit$Share"), accessFlags := 16409, slot := 0, constantValue := 0 }, { name := "FULL", type := (.object "com/example/vestwright/vestwright/plan/AccountBenefit$Share"), accessFlags := 16409, slot := 1, constantValue := 0 }, { name := "term", type := (.object "java/lang/String"), accessFlags := 18, slot := 3, constantValue := 0 }, { name := "$VALUES", type := (.array (.object "com/example/vestwright/vestwright/plan/AccountBenefit$Share")), accessFlags := 4122, slot := 2, constantValue := 0 }]
  methods := #[]
  instanceTypes := #[(.object "java/lang/String"), .int, .int, (.object "java/lang/String")]
  staticTypes := #[(.object "com/example/vestwright/vestwright/plan/AccountBenefit$Share"), (.object "com/example/vestwright/vestwright/plan/AccountBenefit$Share"), (.array (.object "com/example/vestwright/vestwright/plan/AccountBenefit$Share"))]
  resolved := Array.replicate 64 none
  statics := some 1 }

def pool16 : Array CpInfo := pool [(2, .class_ 4), (1, u "java/lang/Object"), (0, u "<init>"), (0, u "()V"), (35, .class_ 44), (1, u "java/util/Objects"), (0, u "requireNonNull"), (48, u "(Ljava/lang/Object;Ljava/lang/String;)Ljava/lang/Object;")] 89

def k16m0 : Method := { name := "<init>", desc := "()V", sig := { parameters := [], returnType := none }, accessFlags := 2, code := none }
def k16c1 : Code := { maxStack := 3, maxLocals := 2, code := jdk_31_method_11_code, exceptionTable := #[], attributes := #[] }
def k16m1 : Method := { name := "requireNonNull", desc := "(Ljava/lang/Object;Ljava/lang/String;)Ljava/lang/Object;", sig := { parameters := [(.object "java/lang/Object"), (.object "java/lang/String")], returnType := some (.object "java/lang/Object") }, accessFlags := 9, code := some k16c1 }
/-- java/util/Objects -/
def k16 : Class := { plain "java/util/Objects" (some 0) with
  accessFlags := 49
  interfaces := #[]
  cf := some (fileOf pool16 42 #[] #[{ accessFlags := 2, nameIndex := 5, descriptorIndex := 6, attributes := #[] }, { accessFlags := 9, nameIndex := 45, descriptorIndex := 94, attributes := #[] }] 49 2 #[] #[])
  fields := #[]
  methods := #[k16m0, k16m1]
  instanceTypes := #[]
  staticTypes := #[]
  resolved := Array.replicate 184 none
  statics := none }

def pool17 : Array CpInfo := pool [(1, .methodref 2 3), (0, .class_ 4), (0, .nameAndType 5 6), (0, u "com/example/vestwright/vestwright/plan/DeathBenefit"), (0, u "<init>"), (0, u "(ZLcom/example/vestwright/vestwright/plan/Benefit;Lcom/example/vestwright/vestwright/plan/Benefit;Z)V"), (0, .methodref 8 9), (0, .class_ 10), (0, .nameAndType 5 11), (0, u "java/lang/Object"), (0, u "()V"), (0, .fieldref 2 13), (0, .nameAndType 14 15), (0, u "nothingInService"), (0, u "Z"), (0, .fieldref 2 17), (0, .nameAndType 18 19), (0, u "afterSeparation"), (0, u "Lcom/example/vestwright/vestwright/plan/Benefit;"), (0, .fieldref 2 21), (0, .nameAndType 22 19), (0, u "duringPayout"), (0, .fieldref 2 24), (0, .nameAndType 25 15), (0, u "remainingPayments"), (0, .string 27), (0, u "benefit"), (0, .methodref 29 30), (0, .class_ 31), (0, .nameAndType 32 33), (0, u "java/util/Objects"), (0, u "requireNonNull"), (0, u "(Ljava/lang/Object;Ljava/lang/String;)Ljava/lang/Object;"), (0, .methodref 35 36), (0, .class_ 37), (0, .nameAndType 38 39), (0, u "java/util/Optional"), (0, u "ofNullable"), (0, u "(Ljava/lang/Object;)Ljava/util/Optional;"), (2, u "withNothingInService"), (0, u "()Lcom/example/vestwright/vestwright/plan/DeathBenefit;"), (0, u "withAfterSeparation"), (0, u "(Lcom/example/vestwright/vestwright/plan/Benefit;)Lcom/example/vestwright/vestwright/plan/DeathBenefit;"), (0, u "withDuringPayout"), (0, u "withRemainingPaymentsDuringPayout"), (0, u "paysNothingInService"), (0, u "()Z"), (0, u "()Ljava/util/Optional;"), (2, u "paysRemainingPaymentsDuringPayout")] 2

def k17c0 : Code := { maxStack := 5, maxLocals := 1, code := prog_61_method_1_code, exceptionTable := #[], attributes := #[] }
def k17m0 : Method := { name := "<init>", desc := "()V", sig := { parameters := [], returnType := none }, accessFlags := 1, code := some k17c0 }
def k17c1 : Code := { maxStack := 2, maxLocals := 5, code := prog_61_method_2_code, exceptionTable := #[], attributes := #[] }
def k17m1 : Method := { name := "<init>", desc := "(ZLcom/example/vestwright/vestwright/plan/Benefit;Lcom/example/vestwright/vestwright/plan/Benefit;Z)V", sig := { parameters := [.boolean, (.object "com/example/vestwright/vestwright/plan/Benefit"), (.object "com/example/vestwright/vestwright/plan/Benefit"), .boolean], returnType := none }, accessFlags := 2, code := some k17c1 }
def k17c2 : Code := { maxStack := 6, maxLocals := 1, code := prog_61_method_3_code, exceptionTable := #[], attributes := #[] }
def k17m2 : Method := { name := "withNothingInService", desc := "()Lcom/example/vestwright/vestwright/plan/DeathBenefit;", sig := { parameters := [], returnType := some (.object "com/example/vestwright/vestwright/plan/DeathBenefit") }, accessFlags := 1, code := some k17c2 }
def k17c3 : Code := { maxStack := 6, maxLocals := 2, code := prog_61_method_4_code, exceptionTable := #[], attributes := #[] }
def k17m3 : Method := { name := "withAfterSeparation", desc := "(Lcom/example/vestwright/vestwright/plan/Benefit;)Lcom/example/vestwright/vestwright/plan/DeathBenefit;", sig := { parameters := [(.object "com/example/vestwright/vestwright/plan/Benefit")], returnType := some (.object "com/example/vestwright/vestwright/plan/DeathBenefit") }, accessFlags := 1, code := some k17c3 }
def k17c4 : Code := { maxStack := 6, maxLocals := 2, code := prog_61_method_5_code, exceptionTable := #[], attributes := #[] }
def k17m4 : Method := { name := "withDuringPayout", desc := "(Lcom/example/vestwright/vestwright/plan/Benefit;)Lcom/example/vestwright/vestwright/plan/DeathBenefit;", sig := { parameters := [(.object "com/example/vestwright/vestwright/plan/Benefit")], returnType := some (.object "com/example/vestwright/vestwright/plan/DeathBenefit") }, accessFlags := 1, code := some k17c4 }
def k17c5 : Code := { maxStack := 6, maxLocals := 1, code := prog_61_method_6_code, exceptionTable := #[], attributes := #[] }
def k17m5 : Method := { name := "withRemainingPaymentsDuringPayout", desc := "()Lcom/example/vestwright/vestwright/plan/DeathBenefit;", sig := { parameters := [], returnType := some (.object "com/example/vestwright/vestwright/plan/DeathBenefit") }, accessFlags := 1, code := some k17c5 }
def k17c6 : Code := { maxStack := 1, maxLocals := 1, code := prog_61_method_7_code, exceptionTable := #[], attributes := #[] }
def k17m6 : Method := { name := "paysNothingInService", desc := "()Z", sig := { parameters := [], returnType := some .boolean }, accessFlags := 1, code := some k17c6 }
def k17c7 : Code := { maxStack := 1, maxLocals := 1, code := prog_61_method_8_code, exceptionTable := #[], attributes := #[] }
def k17m7 : Method := { name := "afterSeparation", desc := "()Ljava/util/Optional;", sig := { parameters := [], returnType := some (.object "java/util/Optional") }, accessFlags := 1, code := some k17c7 }
def k17c8 : Code := { maxStack := 1, maxLocals := 1, code := prog_61_method_9_code, exceptionTable := #[], attributes := #[] }
def k17m8 : Method := { name := "duringPayout", desc := "()Ljava/util/Optional;", sig := { parameters := [], returnType := some (.object "java/util/Optional") }, accessFlags := 1, code := some k17c8 }
def k17c9 : Code := { maxStack := 1, maxLocals := 1, code := prog_61_method_10_code, exceptionTable := #[], attributes := #[] }
def k17m9 : Method := { name := "paysRemainingPaymentsDuringPayout", desc := "()Z", sig := { parameters := [], returnType := some .boolean }, accessFlags := 1, code := some k17c9 }
/-- com/example/vestwright/vestwright/plan/DeathBenefit -/
def k17 : Class := { plain "com/example/vestwright/vestwright/plan/DeathBenefit" (some 0) with
  accessFlags := 49
  interfaces := #[]
  cf := some (fileOf pool17 2 #[] #[{ accessFlags := 1, nameIndex := 5, descriptorIndex := 11, attributes := #[] }, { accessFlags := 2, nameIndex := 5, descriptorIndex := 6, attributes := #[] }, { accessFlags := 1, nameIndex := 42, descriptorIndex := 43, attributes := #[] }, { accessFlags := 1, nameIndex := 44, descriptorIndex := 45, attributes := #[] }, { accessFlags := 1, nameIndex := 46, descriptorIndex := 45, attributes := #[] }, { accessFlags := 1, nameIndex := 47, descriptorIndex := 43, attributes := #[] }, { accessFlags := 1, nameIndex := 48, descriptorIndex := 49, attributes := #[] }, { accessFlags := 1, nameIndex := 18, descriptorIndex := 50, attributes := #[] }, { accessFlags := 1, nameIndex := 22, descriptorIndex := 50, attributes := #[] }, { accessFlags := 1, nameIndex := 53, descriptorIndex := 49, attributes := #[] }] 49 8 #[] #[{ accessFlags := 18, nameIndex := 14, descriptorIndex := 15, attributes := #[] }, { accessFlags := 18, nameIndex := 18, descriptorIndex := 19, attributes := #[] }, { accessFlags := 18, nameIndex := 22, descriptorIndex := 19, attributes := #[] }, { accessFlags := 18, nameIndex := 25, descriptorIndex := 15, attributes := #[] }])
  fields := #[{ name := "nothingInService", type := .boolean, accessFlags := 18, slot := 0, constantValue := 0 }, { name := "afterSeparation", type := (.object "com/example/vestwright/vestwright/plan/Benefit"), accessFlags := 18, slot := 1, constantValue := 0 }, { name := "duringPayout", type := (.object "com/example/vestwright/vestwright/plan/Benefit"), accessFlags := 18, slot := 2, constantValue := 0 }, { name := "remainingPayments", type := .boolean, accessFlags := 18, slot := 3, constantValue := 0 }]
  methods := #[k17m0, k17m1, k17m2, k17m3, k17m4, k17m5, k17m6, k17m7, k17m8, k17m9]
  instanceTypes := #[.boolean, (.object "com/example/vestwright/vestwright/plan/Benefit"), (.object "com/example/vestwright/vestwright/plan/Benefit"), .boolean]
  staticTypes := #[]
  resolved := Array.replicate 56 none
  statics := none }

def pool18 : Array CpInfo := pool [(1, .fieldref 2 3), (0, .class_ 4), (0, .nameAndType 5 6), (0, u "java/util/Optional"), (0, u "EMPTY"), (0, u "Ljava/util/Optional;"), (0, .methodref 8 9), (0, .class_ 10), (0, .nameAndType 11 12), (0, u "java/lang/Object"), (0, u "<init>"), (0, u "()V"), (0, .fieldref 2 14), (0, .nameAndType 15 16), (0, u "value"), (0, u "Ljava/lang/Object;"), (5, u "(Ljava/lang/Object;)Ljava/lang/Object;"), (0, .methodref 2 24), (0, .nameAndType 11 25), (0, u "(Ljava/lang/Object;)V"), (38, u "ofNullable"), (0, u "(Ljava/lang/Object;)Ljava/util/Optional;"), (99, u "orElse")] 21

def k18c0 : Code := { maxStack := 2, maxLocals := 2, code := jdk_32_method_2_code, exceptionTable := #[], attributes := #[] }
def k18m0 : Method := { name := "<init>", desc := "(Ljava/lang/Object;)V", sig := { parameters := [(.object "java/lang/Object")], returnType := none }, accessFlags := 2, code := some k18c0 }
def k18c1 : Code := { maxStack := 3, maxLocals := 1, code := jdk_32_method_4_code, exceptionTable := #[], attributes := #[] }
def k18m1 : Method := { name := "ofNullable", desc := "(Ljava/lang/Object;)Ljava/util/Optional;", sig := { parameters := [(.object "java/lang/Object")], returnType := some (.object "java/util/Optional") }, accessFlags := 9, code := some k18c1 }
def k18c2 : Code := { maxStack := 1, maxLocals := 2, code := jdk_32_method_15_code, exceptionTable := #[], attributes := #[] }
def k18m2 : Method := { name := "orElse", desc := "(Ljava/lang/Object;)Ljava/lang/Object;", sig := { parameters := [(.object "java/lang/Object")], returnType := some (.object "java/lang/Object") }, accessFlags := 1, code := some k18c2 }
/-- java/util/Optional -/
def k18 : Class := { plain "java/util/Optional" (some 0) with
  accessFlags := 49
  interfaces := #[]
  cf := some (fileOf pool18 2 #[] #[{ accessFlags := 2, nameIndex := 11, descriptorIndex := 25, attributes := #[] }, { accessFlags := 9, nameIndex := 64, descriptorIndex := 65, attributes := #[] }, { accessFlags := 1, nameIndex := 165, descriptorIndex := 22, attributes := #[] }] 49 8 #[] #[{ accessFlags := 26, nameIndex := 5, descriptorIndex := 6, attributes := #[] }, { accessFlags := 18, nameIndex := 15, descriptorIndex := 16, attributes := #[] }])
  fields := #[{ name := "EMPTY", type := (.object "java/util/Optional"), accessFlags := 26, slot := 0, constantValue := 0 }, { name := "value", type := (.object "java/lang/Object"), accessFlags := 18, slot := 0, constantValue := 0 }]
  methods := #[k18m0, k18m1, k18m2]
  instanceTypes := #[(.object "java/lang/Object")]
  staticTypes := #[(.object "java/util/Optional")]
  resolved := Array.replicate 187 none
  statics := some 2 }

def pool19 : Array CpInfo := pool [(1, u "java/lang/Cloneable"), (0, .class_ 1), (0, u "java/lang/Object"), (0, .class_ 3)] 3

/-- java/lang/Cloneable -/
def k19 : Class := { plain "java/lang/Cloneable" (some 0) with
  accessFlags := 1537
  interfaces := #[]
  cf := some (fileOf pool19 2 #[] #[] 1537 4 #[] #[])
  fields := #[]
  methods := #[]
  instanceTypes := #[]
  staticTypes := #[]
  resolved := Array.replicate 8 none
  statics := none }

/-- the primitive byte -/
def k20 : Class := { plain "byte" none with kind := .primitive 'B', accessFlags := 0x411 }
/-- [B -/
def k21 : Class := { plain "[B" (some 0) with kind := .array 20 .byte, interfaces := #[19, 4], accessFlags := 1041 }

/-- the primitive int -/
def k22 : Class := { plain "int" none with kind := .primitive 'I', accessFlags := 0x411 }
/-- [I -/
def k23 : Class := { plain "[I" (some 0) with kind := .array 22 .int, interfaces := #[19, 4], accessFlags := 1041 }

def heap : Heap := #[{ cls := 14, slots := #[.null, .null, .ref 3, .ref 4, .null], vm := .statics 14 },
  { cls := 15, slots := #[.ref 6, .ref 5, .null], vm := .statics 15 },
  { cls := 18, slots := #[.ref 7], vm := .statics 18 },
  { cls := 14, slots := #[.null, .int 0, .int 0, .null, .null], vm := .none },
  { cls := 14, slots := #[.null, .int 1, .int 0, .null, .null], vm := .none },
  { cls := 15, slots := #[.null, .int 0, .int 0, .null], vm := .none },
  { cls := 15, slots := #[.null, .int 1, .int 0, .null], vm := .none },
  { cls := 18, slots := #[.null], vm := .none }]
def classes : Array Class := #[k0, k1, k2, k3, k4, k5, k6, k7, k8, k9, k10, k11, k12, k13, k14, k15, k16, k17, k18, k19, k20, k21, k22, k23]
def interned : List (Array UInt16 × Addr) := []
def slotsUsed : Nat := 28
def theMethod : MethodId := ⟨1, 1⟩
def args0 : Array Value := #[.int 5]
def aboutOver (below : List Frame) : State where
  vm := { classes := classes, interned := interned.toArray }
  heap := heap
  slotsUsed := slotsUsed
  threads := #[{ frames := .invoking theMethod args0 :: below }]
def below0 : List Frame := [.native { method := ⟨0, 0⟩, args := #[] }]
def about1 : State := aboutOver below0
def p0 : Program := .bare "" "" ""
def e0 : Env := launch0.env 0 0 0
theorem w_frames : about1.frames = Frame.invoking theMethod args0 :: below0 := rfl
set_option maxRecDepth 65536 in
theorem w_args : argsFit about1.vm theMethod args0 = true := by decide +kernel
set_option maxRecDepth 65536 in
theorem w_heap : heapFits about1 = true := by decide +kernel
set_option maxRecDepth 65536 in
theorem w_runnable : about1.curStatus? = some .runnable := by decide +kernel
set_option maxRecDepth 65536 in
theorem w_alone : about1.alone = true := by decide +kernel
set_option maxRecDepth 65536 in
theorem w_named : about1.methodNamed? x = some theMethod := by decide +kernel
set_option maxRecDepth 65536 in
theorem w_hears : about1.hears theMethod below0 = true := by decide +kernel
set_option maxRecDepth 65536 in
theorem w_ripe : about1.ripe theMethod args0 below0 = true := by decide +kernel
theorem w_running : about1.status = .running := rfl
set_option maxRecDepth 65536 in
theorem w_room : about1.hasRoom e0.platform room_1 = true :=
  launch0.hasRoom_least _ room_1 (by decide +kernel) (by decide +kernel) (by decide +kernel) (by decide +kernel) (by decide +kernel) (by decide +kernel)
theorem allAtoms_all (ts : List Jvm.Cond) (a : Array Jvm.Value) (st : Jvm.State) : (allAtoms ts).before a st = ts.all (fun c => c.before a st) := by
  induction ts with
  | nil => rfl
  | cons c t ih =>
    show (Jvm.Cond.and c (allAtoms t)).before a st = _
    rw [Jvm.Cond.before_and, ih, List.all_cons]
def words1 : List Jvm.Cond := Jvm.Cond.code x code maxLocals ret :: tables_1
/-- a 'code' word, met by the world's own term for the bytes: nothing is compared byte by byte -/
theorem code_word {y : MethodName} {bytes : ByteArray} {mx : Nat} {rt : Option FieldType} {a : Array Value} {s : State} {m : MethodId} {meth : Method} {c : Code} (h1 : s.methodNamed? y = some m) (h2 : s.vm.method? m = some meth) (h3 : meth.code = some c) (h4 : c.code = bytes)
    (h5 : (c.maxLocals == mx && c.exceptionTable.isEmpty && decide (c.maxStack ≤ mostOperands) && decide (meth.sig.returnType = rt) && !meth.locks && decide (parseMethodDescriptor y.desc = some meth.sig)) = true) : (Jvm.Cond.code y bytes mx rt).before a s = true := by
  simp only [Bool.and_eq_true, beq_iff_eq, Bool.not_eq_true', decide_eq_true_eq] at h5
  obtain ⟨⟨⟨⟨⟨g1, g2⟩, g3⟩, g4⟩, g5⟩, g6⟩ := h5
  simp [Cond.before, Cond.holds, Cond.value, h1, h2, h3, h4, g1, g2, g3, g4, g5, g6]
def isCode : Jvm.Cond → Bool
  | .code _ _ _ _ => true
  | _ => false
theorem all_split {L : List Jvm.Cond} {P : Jvm.Cond → Bool} (h1 : L.all (fun c => isCode c || P c) = true) (h2 : ∀ c ∈ L.filter isCode, P c = true) : L.all P = true := by
  refine List.all_eq_true.mpr fun c hc => ?_
  have h := List.all_eq_true.mp h1 c hc
  rcases Bool.eq_false_or_eq_true (isCode c) with hi | hi
  · exact h2 c (List.mem_filter.mpr ⟨hc, hi⟩)
  · simpa [hi] using h
set_option maxRecDepth 65536 in
theorem w_c0 : (Jvm.Cond.code x code maxLocals ret).before args0 about1 = true := code_word (m := ⟨1, 1⟩) (meth := k1m1) (c := k1c1) (by decide +kernel) rfl rfl rfl (by decide +kernel)
set_option maxRecDepth 65536 in
theorem w_c1 : (Jvm.Cond.code ({ cls := "com/example/vestwright/vestwright/plan/LumpSum", name := "<init>", desc := "(I)V" } : Jvm.MethodName) prog_72_method_1_code (2 : Nat) (Option.none : Option Jvm.ClassFile.FieldType)).before args0 about1 = true := code_word (m := ⟨3, 0⟩) (meth := k3m0) (c := k3c0) (by decide +kernel) rfl rfl rfl (by decide +kernel)
set_option maxRecDepth 65536 in
theorem w_c2 : (Jvm.Cond.code ({ cls := "java/lang/Object", name := "<init>", desc := "()V" } : Jvm.MethodName) object_method_1_code (1 : Nat) (Option.none : Option Jvm.ClassFile.FieldType)).before args0 about1 = true := code_word (m := ⟨0, 0⟩) (meth := k0m0) (c := k0c0) (by decide +kernel) rfl rfl rfl (by decide +kernel)
set_option maxRecDepth 65536 in
theorem w_c3 : (Jvm.Cond.code ({ cls := "com/example/vestwright/vestwright/plan/DaysDue", name := "checked", desc := "(Ljava/lang/String;Ljava/lang/String;I)I" } : Jvm.MethodName) prog_60_method_2_code (3 : Nat) (Option.some Jvm.ClassFile.FieldType.int)).before args0 about1 = true := code_word (m := ⟨10, 1⟩) (meth := k10m1) (c := k10c1) (by decide +kernel) rfl rfl rfl (by decide +kernel)
set_option maxRecDepth 65536 in
theorem w_c4 : (Jvm.Cond.code ({ cls := "com/example/vestwright/vestwright/plan/AccountBenefit", name := "<init>", desc := "(Lcom/example/vestwright/vestwright/plan/AccountValueDate;Lcom/example/vestwright/vestwright/plan/AccountBenefit$Share;Lcom/example/vestwright/vestwright/plan/PayoutForm;)V" } : Jvm.MethodName) prog_39_method_1_code (4 : Nat) (Option.none : Option Jvm.ClassFile.FieldType)).before args0 about1 = true := code_word (m := ⟨12, 0⟩) (meth := k12m0) (c := k12c0) (by decide +kernel) rfl rfl rfl (by decide +kernel)
set_option maxRecDepth 65536 in
theorem w_c5 : (Jvm.Cond.code ({ cls := "com/example/vestwright/vestwright/plan/AccountBenefit", name := "<init>", desc := "(Lcom/example/vestwright/vestwright/plan/AccountValueDate;Lcom/example/vestwright/vestwright/plan/AccountBenefit$Share;Ljava/math/BigDecimal;Lcom/example/vestwright/vestwright/plan/PayoutForm;)V" } : Jvm.MethodName) prog_39_method_2_code (5 : Nat) (Option.none : Option Jvm.ClassFile.FieldType)).before args0 about1 = true := code_word (m := ⟨12, 1⟩) (meth := k12m1) (c := k12c1) (by decide +kernel) rfl rfl rfl (by decide +kernel)
set_option maxRecDepth 65536 in
theorem w_c6 : (Jvm.Cond.code ({ cls := "java/util/Objects", name := "requireNonNull", desc := "(Ljava/lang/Object;Ljava/lang/String;)Ljava/lang/Object;" } : Jvm.MethodName) jdk_31_method_11_code (2 : Nat) (Option.some (Jvm.ClassFile.FieldType.object "java/lang/Object"))).before args0 about1 = true := code_word (m := ⟨16, 1⟩) (meth := k16m1) (c := k16c1) (by decide +kernel) rfl rfl rfl (by decide +kernel)
set_option maxRecDepth 65536 in
theorem w_c7 : (Jvm.Cond.code ({ cls := "com/example/vestwright/vestwright/plan/DeathBenefit", name := "<init>", desc := "()V" } : Jvm.MethodName) prog_61_method_1_code (1 : Nat) (Option.none : Option Jvm.ClassFile.FieldType)).before args0 about1 = true := code_word (m := ⟨17, 0⟩) (meth := k17m0) (c := k17c0) (by decide +kernel) rfl rfl rfl (by decide +kernel)
set_option maxRecDepth 65536 in
theorem w_c8 : (Jvm.Cond.code ({ cls := "com/example/vestwright/vestwright/plan/DeathBenefit", name := "<init>", desc := "(ZLcom/example/vestwright/vestwright/plan/Benefit;Lcom/example/vestwright/vestwright/plan/Benefit;Z)V" } : Jvm.MethodName) prog_61_method_2_code (5 : Nat) (Option.none : Option Jvm.ClassFile.FieldType)).before args0 about1 = true := code_word (m := ⟨17, 1⟩) (meth := k17m1) (c := k17c1) (by decide +kernel) rfl rfl rfl (by decide +kernel)
set_option maxRecDepth 65536 in
theorem w_c9 : (Jvm.Cond.code ({ cls := "com/example/vestwright/vestwright/plan/DeathBenefit", name := "withNothingInService", desc := "()Lcom/example/vestwright/vestwright/plan/DeathBenefit;" } : Jvm.MethodName) prog_61_method_3_code (1 : Nat) (Option.some (Jvm.ClassFile.FieldType.object "com/example/vestwright/vestwright/plan/DeathBenefit"))).before args0 about1 = true := code_word (m := ⟨17, 2⟩) (meth := k17m2) (c := k17c2) (by decide +kernel) rfl rfl rfl (by decide +kernel)
set_option maxRecDepth 65536 in
theorem w_c10 : (Jvm.Cond.code ({ cls := "com/example/vestwright/vestwright/plan/DeathBenefit", name := "paysNothingInService", desc := "()Z" } : Jvm.MethodName) prog_61_method_7_code (1 : Nat) (Option.some Jvm.ClassFile.FieldType.boolean)).before args0 about1 = true := code_word (m := ⟨17, 6⟩) (meth := k17m6) (c := k17c6) (by decide +kernel) rfl rfl rfl (by decide +kernel)
set_option maxRecDepth 65536 in
theorem w_c11 : (Jvm.Cond.code ({ cls := "com/example/vestwright/vestwright/plan/DeathBenefit", name := "afterSeparation", desc := "()Ljava/util/Optional;" } : Jvm.MethodName) prog_61_method_8_code (1 : Nat) (Option.some (Jvm.ClassFile.FieldType.object "java/util/Optional"))).before args0 about1 = true := code_word (m := ⟨17, 7⟩) (meth := k17m7) (c := k17c7) (by decide +kernel) rfl rfl rfl (by decide +kernel)
set_option maxRecDepth 65536 in
theorem w_c12 : (Jvm.Cond.code ({ cls := "java/util/Optional", name := "ofNullable", desc := "(Ljava/lang/Object;)Ljava/util/Optional;" } : Jvm.MethodName) jdk_32_method_4_code (1 : Nat) (Option.some (Jvm.ClassFile.FieldType.object "java/util/Optional"))).before args0 about1 = true := code_word (m := ⟨18, 1⟩) (meth := k18m1) (c := k18c1) (by decide +kernel) rfl rfl rfl (by decide +kernel)
set_option maxRecDepth 65536 in
theorem w_c13 : (Jvm.Cond.code ({ cls := "java/util/Optional", name := "orElse", desc := "(Ljava/lang/Object;)Ljava/lang/Object;" } : Jvm.MethodName) jdk_32_method_15_code (2 : Nat) (Option.some (Jvm.ClassFile.FieldType.object "java/lang/Object"))).before args0 about1 = true := code_word (m := ⟨18, 2⟩) (meth := k18m2) (c := k18c2) (by decide +kernel) rfl rfl rfl (by decide +kernel)
set_option maxRecDepth 65536 in
theorem w_c14 : (Jvm.Cond.code ({ cls := "com/example/vestwright/vestwright/plan/DeathBenefit", name := "duringPayout", desc := "()Ljava/util/Optional;" } : Jvm.MethodName) prog_61_method_9_code (1 : Nat) (Option.some (Jvm.ClassFile.FieldType.object "java/util/Optional"))).before args0 about1 = true := code_word (m := ⟨17, 8⟩) (meth := k17m8) (c := k17c8) (by decide +kernel) rfl rfl rfl (by decide +kernel)
set_option maxRecDepth 65536 in
theorem w_c15 : (Jvm.Cond.code ({ cls := "com/example/vestwright/vestwright/plan/DeathBenefit", name := "paysRemainingPaymentsDuringPayout", desc := "()Z" } : Jvm.MethodName) prog_61_method_10_code (1 : Nat) (Option.some Jvm.ClassFile.FieldType.boolean)).before args0 about1 = true := code_word (m := ⟨17, 9⟩) (meth := k17m9) (c := k17c9) (by decide +kernel) rfl rfl rfl (by decide +kernel)
set_option maxRecDepth 65536 in
theorem w_c16 : (Jvm.Cond.code ({ cls := "com/example/vestwright/vestwright/plan/DeathBenefit", name := "withAfterSeparation", desc := "(Lcom/example/vestwright/vestwright/plan/Benefit;)Lcom/example/vestwright/vestwright/plan/DeathBenefit;" } : Jvm.MethodName) prog_61_method_4_code (2 : Nat) (Option.some (Jvm.ClassFile.FieldType.object "com/example/vestwright/vestwright/plan/DeathBenefit"))).before args0 about1 = true := code_word (m := ⟨17, 3⟩) (meth := k17m3) (c := k17c3) (by decide +kernel) rfl rfl rfl (by decide +kernel)
set_option maxRecDepth 65536 in
theorem w_c17 : (Jvm.Cond.code ({ cls := "com/example/vestwright/vestwright/plan/DeathBenefit", name := "withDuringPayout", desc := "(Lcom/example/vestwright/vestwright/plan/Benefit;)Lcom/example/vestwright/vestwright/plan/DeathBenefit;" } : Jvm.MethodName) prog_61_method_5_code (2 : Nat) (Option.some (Jvm.ClassFile.FieldType.object "com/example/vestwright/vestwright/plan/DeathBenefit"))).before args0 about1 = true := code_word (m := ⟨17, 4⟩) (meth := k17m4) (c := k17c4) (by decide +kernel) rfl rfl rfl (by decide +kernel)
set_option maxRecDepth 65536 in
theorem w_c18 : (Jvm.Cond.code ({ cls := "java/util/Optional", name := "<init>", desc := "(Ljava/lang/Object;)V" } : Jvm.MethodName) jdk_32_method_2_code (2 : Nat) (Option.none : Option Jvm.ClassFile.FieldType)).before args0 about1 = true := code_word (m := ⟨18, 0⟩) (meth := k18m0) (c := k18c0) (by decide +kernel) rfl rfl rfl (by decide +kernel)
set_option maxRecDepth 65536 in
theorem w_c19 : (Jvm.Cond.code ({ cls := "com/example/vestwright/vestwright/plan/DeathBenefit", name := "withRemainingPaymentsDuringPayout", desc := "()Lcom/example/vestwright/vestwright/plan/DeathBenefit;" } : Jvm.MethodName) prog_61_method_6_code (1 : Nat) (Option.some (Jvm.ClassFile.FieldType.object "com/example/vestwright/vestwright/plan/DeathBenefit"))).before args0 about1 = true := code_word (m := ⟨17, 5⟩) (meth := k17m5) (c := k17c5) (by decide +kernel) rfl rfl rfl (by decide +kernel)
def codes1 : List Jvm.Cond := [Jvm.Cond.code x code maxLocals ret, Jvm.Cond.code ({ cls := "com/example/vestwright/vestwright/plan/LumpSum", name := "<init>", desc := "(I)V" } : Jvm.MethodName) prog_72_method_1_code (2 : Nat) (Option.none : Option Jvm.ClassFile.FieldType), Jvm.Cond.code ({ cls := "java/lang/Object", name := "<init>", desc := "()V" } : Jvm.MethodName) object_method_1_code (1 : Nat) (Option.none : Option Jvm.ClassFile.FieldType), Jvm.Cond.code ({ cls := "com/example/vestwright/vestwright/plan/DaysDue", name := "checked", desc := "(Ljava/lang/String;Ljava/lang/String;I)I" } : Jvm.MethodName) prog_60_method_2_code (3 : Nat) (Option.some Jvm.ClassFile.FieldType.int), Jvm.Cond.code ({ cls := "com/example/vestwright/vestwright/plan/AccountBenefit", name := "<init>", desc := "(Lcom/example/vestwright/vestwright/plan/AccountValueDate;Lcom/example/vestwright/vestwright/plan/AccountBenefit$Share;Lcom/example/vestwright/vestwright/plan/PayoutForm;)V" } : Jvm.MethodName) prog_39_method_1_code (4 : Nat) (Option.none : Option Jvm.ClassFile.FieldType), Jvm.Cond.code ({ cls := "com/example/vestwright/vestwright/plan/AccountBenefit", name := "<init>", desc := "(Lcom/example/vestwright/vestwright/plan/AccountValueDate;Lcom/example/vestwright/vestwright/plan/AccountBenefit$Share;Ljava/math/BigDecimal;Lcom/example/vestwright/vestwright/plan/PayoutForm;)V" } : Jvm.MethodName) prog_39_method_2_code (5 : Nat) (Option.none : Option Jvm.ClassFile.FieldType), Jvm.Cond.code ({ cls := "java/util/Objects", name := "requireNonNull", desc := "(Ljava/lang/Object;Ljava/lang/String;)Ljava/lang/Object;" } : Jvm.MethodName) jdk_31_method_11_code (2 : Nat) (Option.some (Jvm.ClassFile.FieldType.object "java/lang/Object")), Jvm.Cond.code ({ cls := "com/example/vestwright/vestwright/plan/DeathBenefit", name := "<init>", desc := "()V" } : Jvm.MethodName) prog_61_method_1_code (1 : Nat) (Option.none : Option Jvm.ClassFile.FieldType), Jvm.Cond.code ({ cls := "com/example/vestwright/vestwright/plan/DeathBenefit", name := "<init>", desc := "(ZLcom/example/vestwright/vestwright/plan/Benefit;Lcom/example/vestwright/vestwright/plan/Benefit;Z)V" } : Jvm.MethodName) prog_61_method_2_code (5 : Nat) (Option.none : Option Jvm.ClassFile.FieldType), Jvm.Cond.code ({ cls := "com/example/vestwright/vestwright/plan/DeathBenefit", name := "withNothingInService", desc := "()Lcom/example/vestwright/vestwright/plan/DeathBenefit;" } : Jvm.MethodName) prog_61_method_3_code (1 : Nat) (Option.some (Jvm.ClassFile.FieldType.object "com/example/vestwright/vestwright/plan/DeathBenefit")), Jvm.Cond.code ({ cls := "com/example/vestwright/vestwright/plan/DeathBenefit", name := "paysNothingInService", desc := "()Z" } : Jvm.MethodName) prog_61_method_7_code (1 : Nat) (Option.some Jvm.ClassFile.FieldType.boolean), Jvm.Cond.code ({ cls := "com/example/vestwright/vestwright/plan/DeathBenefit", name := "afterSeparation", desc := "()Ljava/util/Optional;" } : Jvm.MethodName) prog_61_method_8_code (1 : Nat) (Option.some (Jvm.ClassFile.FieldType.object "java/util/Optional")), Jvm.Cond.code ({ cls := "java/util/Optional", name := "ofNullable", desc := "(Ljava/lang/Object;)Ljava/util/Optional;" } : Jvm.MethodName) jdk_32_method_4_code (1 : Nat) (Option.some (Jvm.ClassFile.FieldType.object "java/util/Optional")), Jvm.Cond.code ({ cls := "java/util/Optional", name := "orElse", desc := "(Ljava/lang/Object;)Ljava/lang/Object;" } : Jvm.MethodName) jdk_32_method_15_code (2 : Nat) (Option.some (Jvm.ClassFile.FieldType.object "java/lang/Object")), Jvm.Cond.code ({ cls := "com/example/vestwright/vestwright/plan/DeathBenefit", name := "duringPayout", desc := "()Ljava/util/Optional;" } : Jvm.MethodName) prog_61_method_9_code (1 : Nat) (Option.some (Jvm.ClassFile.FieldType.object "java/util/Optional")), Jvm.Cond.code ({ cls := "com/example/vestwright/vestwright/plan/DeathBenefit", name := "paysRemainingPaymentsDuringPayout", desc := "()Z" } : Jvm.MethodName) prog_61_method_10_code (1 : Nat) (Option.some Jvm.ClassFile.FieldType.boolean), Jvm.Cond.code ({ cls := "com/example/vestwright/vestwright/plan/DeathBenefit", name := "withAfterSeparation", desc := "(Lcom/example/vestwright/vestwright/plan/Benefit;)Lcom/example/vestwright/vestwright/plan/DeathBenefit;" } : Jvm.MethodName) prog_61_method_4_code (2 : Nat) (Option.some (Jvm.ClassFile.FieldType.object "com/example/vestwright/vestwright/plan/DeathBenefit")), Jvm.Cond.code ({ cls := "com/example/vestwright/vestwright/plan/DeathBenefit", name := "withDuringPayout", desc := "(Lcom/example/vestwright/vestwright/plan/Benefit;)Lcom/example/vestwright/vestwright/plan/DeathBenefit;" } : Jvm.MethodName) prog_61_method_5_code (2 : Nat) (Option.some (Jvm.ClassFile.FieldType.object "com/example/vestwright/vestwright/plan/DeathBenefit")), Jvm.Cond.code ({ cls := "java/util/Optional", name := "<init>", desc := "(Ljava/lang/Object;)V" } : Jvm.MethodName) jdk_32_method_2_code (2 : Nat) (Option.none : Option Jvm.ClassFile.FieldType), Jvm.Cond.code ({ cls := "com/example/vestwright/vestwright/plan/DeathBenefit", name := "withRemainingPaymentsDuringPayout", desc := "()Lcom/example/vestwright/vestwright/plan/DeathBenefit;" } : Jvm.MethodName) prog_61_method_6_code (1 : Nat) (Option.some (Jvm.ClassFile.FieldType.object "com/example/vestwright/vestwright/plan/DeathBenefit"))]
set_option maxRecDepth 65536 in
theorem codes_eq : words1.filter isCode = codes1 := rfl
theorem w_codes : ∀ c ∈ words1.filter isCode, c.before args0 about1 = true := by
  rw [codes_eq]
  intro c hc
  simp only [codes1, List.mem_cons, List.not_mem_nil, or_false] at hc
  rcases hc with rfl | rfl | rfl | rfl | rfl | rfl | rfl | rfl | rfl | rfl | rfl | rfl | rfl | rfl | rfl | rfl | rfl | rfl | rfl | rfl
  · exact w_c0
  · exact w_c1
  · exact w_c2
  · exact w_c3
  · exact w_c4
  · exact w_c5
  · exact w_c6
  · exact w_c7
  · exact w_c8
  · exact w_c9
  · exact w_c10
  · exact w_c11
  · exact w_c12
  · exact w_c13
  · exact w_c14
  · exact w_c15
  · exact w_c16
  · exact w_c17
  · exact w_c18
  · exact w_c19
set_option maxRecDepth 65536 in
theorem w_t1 : (words1.take 24).all (fun c => isCode c || c.before args0 about1) = true := by decide +kernel
set_option maxRecDepth 65536 in
theorem w_t2 : ((words1.drop 24).take 24).all (fun c => isCode c || c.before args0 about1) = true := by decide +kernel
set_option maxRecDepth 65536 in
theorem w_t3 : (((words1.drop 24).drop 24).take 24).all (fun c => isCode c || c.before args0 about1) = true := by decide +kernel
set_option maxRecDepth 65536 in
theorem w_t4 : ((((words1.drop 24).drop 24).drop 24).take 24).all (fun c => isCode c || c.before args0 about1) = true := by decide +kernel
set_option maxRecDepth 65536 in
theorem w_t5 : (((((words1.drop 24).drop 24).drop 24).drop 24).take 24).all (fun c => isCode c || c.before args0 about1) = true := by decide +kernel
set_option maxRecDepth 65536 in
theorem w_t6 : ((((((words1.drop 24).drop 24).drop 24).drop 24).drop 24).take 24).all (fun c => isCode c || c.before args0 about1) = true := by decide +kernel
set_option maxRecDepth 65536 in
theorem w_t7 : ((((((words1.drop 24).drop 24).drop 24).drop 24).drop 24).drop 24).all (fun c => isCode c || c.before args0 about1) = true := by decide +kernel
theorem w_tables : (allAtoms (Jvm.Cond.code x code maxLocals ret :: tables_1)).before args0 about1 = true := by
  rw [allAtoms_all]
  show words1.all (fun c => c.before args0 about1) = true
  refine all_split ?_ w_codes
  rw [← List.take_append_drop 24 words1, List.all_append, w_t1, ← List.take_append_drop 24 (words1.drop 24), List.all_append, w_t2, ← List.take_append_drop 24 ((words1.drop 24).drop 24), List.all_append, w_t3, ← List.take_append_drop 24 (((words1.drop 24).drop 24).drop 24), List.all_append, w_t4, ← List.take_append_drop 24 ((((words1.drop 24).drop 24).drop 24).drop 24), List.all_append, w_t5, ← List.take_append_drop 24 (((((words1.drop 24).drop 24).drop 24).drop 24).drop 24), List.all_append, w_t6, w_t7]
  rfl
set_option maxRecDepth 65536 in
theorem w_rest : rest_1_c.before args0 about1 = true := by decide +kernel
set_option maxRecDepth 65536 in
theorem w_case : (Jvm.Cond.and given_1 narrow_1).before args0 about1 = true := by decide +kernel
theorem w_applies : (headSpec (Jvm.Cond.code x code maxLocals ret :: tables_1) room_1).applies x e0.platform about1 = true :=
  (Spec.applies_iff w_frames).mpr ⟨w_running, w_runnable, w_alone, w_named, w_hears, w_ripe, w_room, w_tables⟩
theorem atStart : AtStart classFile x code maxLocals ret World_1 tables_1 room_1 Calls_1 rest_1 Pre_1 launch0 p0 e0 about1 theMethod args0 below0 :=
  ⟨lists_1, trivial, launch0.admits_env _ _ _, launch0.least_env, fairChoices_fair.cas, fairChoices_fair.clock, w_frames, w_args, w_heap, w_applies, trivial, w_rest, w_case⟩
end start1
theorem witness_1 : WitnessClaimed_1 := ⟨start1.p0, start1.e0, start1.about1, start1.theMethod, start1.args0, start1.below0, start1.atStart⟩
end Jvm.Pilot.@@N@@
