import JvmDerived
import JvmDerived.Pilot.@@N@@Statement
import JvmDerived.Pilot.@@N@@Code
set_option linter.unusedVariables false
set_option linter.unusedSimpArgs false
namespace Jvm.RoadKit
open Sem ClassFile Op Lib Jvm.Stand Jvm.Free Jvm.LawKit
section OwnGo
variable {p : Program} {l : Launch} {e : Env} {R : Room} {s : State} {m : MethodId} {args : Array Value} {below : List Frame} {meth : Method} {c : Code} {T : State} {locs : List Loc} {cells slots : Nat} {Z : State} {a0 : Array Value} {h : Heap} {Q : Option Value → Heap → List Loc → Prop} {kc ks : Nat} {Fin : State → Outcome → Prop}
/-- what is left of a body's walk: from the frame g over T the run ends, in what Fin says -/
def Go (p : Program) (e : Env) (below : List Frame) (Fin : State → Outcome → Prop) (T : State) (g : JFrame) : Prop :=
  ∃ (t : State) (o : Outcome), Steps p.tables e below (T.setTop g) t ∧ t.status = .running ∧ Ended t below o ∧ Fin t o
/-- it returns what Q says; nothing interned -/
def FinN (s : State) (Q : Option Value → Heap → List Loc → Prop) (kc ks : Nat) (t : State) (o : Outcome) : Prop := ∃ v L, o = .returned v ∧ Q v t.heap L ∧ FrameEnd s o t L kc ks
/-- it returns what Q says; String constants may have been interned -/
def FinW (s : State) (Q : Option Value → Heap → List Loc → Vm → Prop) (kc ks : Nat) (t : State) (o : Outcome) : Prop := ∃ v L, o = .returned v ∧ Q v t.heap L t.vm ∧ ReturnedEndW s o t L kc ks
theorem Go.to {T' : State} {g : JFrame} (g' : JFrame) (st : ∀ t, Steps p.tables e below (T'.setTop g') t → Steps p.tables e below (T.setTop g) t) (K : Go p e below Fin T' g') : Go p e below Fin T g := by
  obtain ⟨t, o, h1, r⟩ := K
  exact ⟨t, o, st t h1, r⟩
theorem Go.cast {g g' : JFrame} (q : g = g') (K : Go p e below Fin T g') : Go p e below Fin T g := q ▸ K
/-- a body's contract: with the arguments as' at the heap h0 it returns what Q says -/
def Met1 (l : Launch) (Z : State) (y : MethodName) (bytes : ByteArray) (maxL : Nat) (ret : Option FieldType) (rm : Room) (as' : Array Value) (h0 : Heap) (Q : Option Value → Heap → List Loc → Prop) : Prop :=
  ∀ ws : List Cond, MetFree l y (head1 (Cond.code y bytes maxL ret :: ws) rm) (fun a U => a = as' ∧ Z.Warmed39 U.vm ∧ U.heap = h0) (fun _ _ _ _ _ => True) (fun _ U o U' => ∃ v L, o = .returned v ∧ Q v U'.heap L ∧ FrameEnd U o U' L rm.cells rm.slots)
/-- .. which may intern; J: what is known of the tables where it is called -/
def MetW (l : Launch) (Z : State) (y : MethodName) (bytes : ByteArray) (maxL : Nat) (ret : Option FieldType) (rm : Room) (as' : Array Value) (h0 : Heap) (J : Vm → Prop) (Q : Option Value → Heap → List Loc → Vm → Prop) : Prop :=
  ∀ ws : List Cond, MetFree l y (head1 (Cond.code y bytes maxL ret :: ws) rm) (fun a U => a = as' ∧ Z.Warmed39 U.vm ∧ U.heap = h0 ∧ J U.vm) (fun _ _ _ _ _ => True) (fun _ U o U' => ∃ v L, o = .returned v ∧ Q v U'.heap L U'.vm ∧ ReturnedEndW U o U' L rm.cells rm.slots)
theorem Met1.mk {y : MethodName} {bytes : ByteArray} {maxL : Nat} {ret : Option FieldType} {rm : Room} {as' : Array Value} {h0 : Heap} (hp : plainFor y = true)
    (body : ∀ (p : Program) (e : Env) (s : State) (m : MethodId) (below : List Frame) (meth : Method) (c : Code) (s₁ : State), p.tables.exec = Jvm.exec → Z.Warmed39 s.vm → c.code = bytes → c.maxLocals = maxL → s.vm.findClass y.cls = some m.cls → meth.name = y.name → meth.sig.returnType = ret → meth.locks = false → Stand p l e rm s m as' below meth c s₁ [] 0 0 → s₁.heap = h0 → Go p e below (FinN s Q rm.cells rm.slots) s₁ (entryFrame m as' maxL)) :
    Met1 l Z y bytes maxL ret rm as' h0 Q := by
  intro ws
  refine MetFree.of_bodySF hp hisR ?_
  intro p e s m args below meth c s₁ Bd hml0 hP hK
  obtain ⟨rfl, hZ, hh⟩ := hP
  exact body p e s m below meth c s₁ Bd.exec hZ Bd.bytes hml0 (findClass_of_methodNamed Bd.named) (name_of_methodNamed Bd.named Bd.method).1 Bd.returns Bd.notSynchronized (Stand.of_body Bd) (by rw [← hh, Bd.state]; rfl)
theorem MetW.mk {y : MethodName} {bytes : ByteArray} {maxL : Nat} {ret : Option FieldType} {rm : Room} {as' : Array Value} {h0 : Heap} {J : Vm → Prop} {QW : Option Value → Heap → List Loc → Vm → Prop} (hp : plainFor y = true)
    (body : ∀ (p : Program) (e : Env) (s : State) (m : MethodId) (below : List Frame) (meth : Method) (c : Code) (s₁ : State) (vm0 : Vm), p.tables.exec = Jvm.exec → Z.Warmed39 (s.setVm vm0).vm → c.code = bytes → c.maxLocals = maxL → (s.setVm vm0).vm.findClass y.cls = some m.cls → meth.name = y.name → meth.sig.returnType = ret → meth.locks = false → Stand p l e rm (s.setVm vm0) m as' below meth c s₁ [] 0 0 → s₁.heap = h0 → s.Since vm0 0 → s.heap = h0 → Z.methodNamed? y = some m → J vm0 → Go p e below (FinW s QW rm.cells rm.slots) s₁ (entryFrame m as' maxL)) :
    MetW l Z y bytes maxL ret rm as' h0 J QW := by
  intro ws
  refine MetFree.of_bodySF hp hisR ?_
  intro p e s m args below meth c s₁ Bd hml0 hP hK
  obtain ⟨rfl, hZ, hh, hJ⟩ := hP
  exact body p e s m below meth c s₁ s.vm Bd.exec hZ Bd.bytes hml0 (findClass_of_methodNamed Bd.named) (name_of_methodNamed Bd.named Bd.method).1 Bd.returns Bd.notSynchronized (Stand.of_body Bd) (by rw [← hh, Bd.state]; rfl) (State.WarmedH.since (State.WarmedH.refl s) 0) hh ((State.methodNamed?_setVm hZ.alike y).symm.trans Bd.named) hJ
theorem Go.retI (X : Stand p l e R s m args below meth c T locs cells slots) (hx : p.tables.exec = Jvm.exec) (hret : meth.sig.returnType = some .int) (hlk : meth.locks = false) {pc : Nat} {Ls : Array Slot} {z : Int32} {rest : List Value} (hd : decode c.code pc = .ok (.ireturn, 1)) (hc : cells ≤ kc) (hs : slots ≤ ks)
    (hq : Q (some (.int z)) T.heap locs) : Go p e below (FinN s Q kc ks) T (mkF m pc Ls (.int z :: rest)) := by
  obtain ⟨fs, hr, hrun, hended, hW, hsame⟩ := X.leave (v := (some (.int z))) (fun h => by rw [hret] at h; cases h) hlk
  exact ⟨_, _, Jvm.RoadKit.retOut X hx hret (t := .int) rfl (Or.inl ⟨rfl, Or.inl rfl, _, rfl⟩) hd hr, hrun, hended, _, _, rfl, hq, ⟨_, rfl⟩, hW, hsame.mono hc hs⟩
theorem Go.retIW {vm0 : Vm} {QW : Option Value → Heap → List Loc → Vm → Prop} (X : Stand p l e R (s.setVm vm0) m args below meth c T locs cells slots) (hx : p.tables.exec = Jvm.exec) (hret : meth.sig.returnType = some .int) (hlk : meth.locks = false) {pc : Nat} {Ls : Array Slot} {z : Int32} {rest : List Value} (hd : decode c.code pc = .ok (.ireturn, 1)) (hc : cells ≤ kc) (hs : slots ≤ ks) {n : Nat} (hS : s.Since vm0 n) (hn : n ≤ T.heap.size)
    (hq : QW (some (.int z)) T.heap locs T.vm) : Go p e below (FinW s QW kc ks) T (mkF m pc Ls (.int z :: rest)) := by
  obtain ⟨fs, hr, hrun, hended, h1, h2, h3, h4⟩ := X.leaveW hS hn (v := (some (.int z))) (fun h => by rw [hret] at h; cases h) hlk
  exact ⟨_, _, Jvm.RoadKit.retOut X hx hret (t := .int) rfl (Or.inl ⟨rfl, Or.inl rfl, _, rfl⟩) hd hr, hrun, hended, _, _, rfl, hq, h1, h2, h3, h4.mono hc hs⟩
theorem Go.retN' (X : Stand p l e R s m args below meth c T locs cells slots) (hx : p.tables.exec = Jvm.exec) {t : FieldType} (hret : meth.sig.returnType = some t) (hlk : meth.locks = false) (ht : t = .boolean ∨ t = .byte ∨ t = .char ∨ t = .short) {pc : Nat} {Ls : Array Slot} {z : Int32} {rest : List Value} (hd : decode c.code pc = .ok (.ireturn, 1)) (hc : cells ≤ kc) (hs : slots ≤ ks)
    (hq : Q (some (.int (nar t z))) T.heap locs) : Go p e below (FinN s Q kc ks) T (mkF m pc Ls (.int z :: rest)) := by
  obtain ⟨fs, hr, hrun, hended, hW, hsame⟩ := X.leave (v := (some (.int (nar t z)))) (fun h => by rw [hret] at h; cases h) hlk
  exact ⟨_, _, Jvm.RoadKit.retN X hx hret ht hd hr, hrun, hended, _, _, rfl, hq, ⟨_, rfl⟩, hW, hsame.mono hc hs⟩
theorem Go.retNW' {vm0 : Vm} {QW : Option Value → Heap → List Loc → Vm → Prop} (X : Stand p l e R (s.setVm vm0) m args below meth c T locs cells slots) (hx : p.tables.exec = Jvm.exec) {t : FieldType} (hret : meth.sig.returnType = some t) (hlk : meth.locks = false) (ht : t = .boolean ∨ t = .byte ∨ t = .char ∨ t = .short) {pc : Nat} {Ls : Array Slot} {z : Int32} {rest : List Value} (hd : decode c.code pc = .ok (.ireturn, 1)) (hc : cells ≤ kc) (hs : slots ≤ ks) {n : Nat} (hS : s.Since vm0 n) (hn : n ≤ T.heap.size)
    (hq : QW (some (.int (nar t z))) T.heap locs T.vm) : Go p e below (FinW s QW kc ks) T (mkF m pc Ls (.int z :: rest)) := by
  obtain ⟨fs, hr, hrun, hended, h1, h2, h3, h4⟩ := X.leaveW hS hn (v := (some (.int (nar t z)))) (fun h => by rw [hret] at h; cases h) hlk
  exact ⟨_, _, Jvm.RoadKit.retN X hx hret ht hd hr, hrun, hended, _, _, rfl, hq, h1, h2, h3, h4.mono hc hs⟩
theorem Go.retL (X : Stand p l e R s m args below meth c T locs cells slots) (hx : p.tables.exec = Jvm.exec) (hret : meth.sig.returnType = some .long) (hlk : meth.locks = false) {pc : Nat} {Ls : Array Slot} {z : Int64} {rest : List Value} (hd : decode c.code pc = .ok (.lreturn, 1)) (hc : cells ≤ kc) (hs : slots ≤ ks)
    (hq : Q (some (.long z)) T.heap locs) : Go p e below (FinN s Q kc ks) T (mkF m pc Ls (.long z :: rest)) := by
  obtain ⟨fs, hr, hrun, hended, hW, hsame⟩ := X.leave (v := (some (.long z))) (fun h => by rw [hret] at h; cases h) hlk
  exact ⟨_, _, Jvm.RoadKit.retOut X hx hret (t := .long) rfl (Or.inr (Or.inl ⟨rfl, rfl, _, rfl⟩)) hd hr, hrun, hended, _, _, rfl, hq, ⟨_, rfl⟩, hW, hsame.mono hc hs⟩
theorem Go.retLW {vm0 : Vm} {QW : Option Value → Heap → List Loc → Vm → Prop} (X : Stand p l e R (s.setVm vm0) m args below meth c T locs cells slots) (hx : p.tables.exec = Jvm.exec) (hret : meth.sig.returnType = some .long) (hlk : meth.locks = false) {pc : Nat} {Ls : Array Slot} {z : Int64} {rest : List Value} (hd : decode c.code pc = .ok (.lreturn, 1)) (hc : cells ≤ kc) (hs : slots ≤ ks) {n : Nat} (hS : s.Since vm0 n) (hn : n ≤ T.heap.size)
    (hq : QW (some (.long z)) T.heap locs T.vm) : Go p e below (FinW s QW kc ks) T (mkF m pc Ls (.long z :: rest)) := by
  obtain ⟨fs, hr, hrun, hended, h1, h2, h3, h4⟩ := X.leaveW hS hn (v := (some (.long z))) (fun h => by rw [hret] at h; cases h) hlk
  exact ⟨_, _, Jvm.RoadKit.retOut X hx hret (t := .long) rfl (Or.inr (Or.inl ⟨rfl, rfl, _, rfl⟩)) hd hr, hrun, hended, _, _, rfl, hq, h1, h2, h3, h4.mono hc hs⟩
theorem own_narrow_ref {t : FieldType} {w : Value} (ht : t.isReference = true) : narrow t w = w := by cases t <;> first | rfl | (cases ht)
theorem Go.retA (X : Stand p l e R s m args below meth c T locs cells slots) (hx : p.tables.exec = Jvm.exec) {t : FieldType} (hret : meth.sig.returnType = some t) (hlk : meth.locks = false) (ht : t.isReference = true) {pc : Nat} {Ls : Array Slot} {w : Value} {rest : List Value} (hw : w.isRef = true) (hd : decode c.code pc = .ok (.areturn, 1)) (hc : cells ≤ kc) (hs : slots ≤ ks)
    (hq : Q (some w) T.heap locs) : Go p e below (FinN s Q kc ks) T (mkF m pc Ls (w :: rest)) := by
  obtain ⟨fs, hr, hrun, hended, hW, hsame⟩ := X.leave (v := (some w)) (fun h => by rw [hret] at h; cases h) hlk
  exact ⟨_, _, Jvm.RoadKit.retOut X hx hret (t := t) (own_narrow_ref ht) (Or.inr (Or.inr (Or.inr (Or.inr ⟨rfl, ht, hw⟩)))) hd hr, hrun, hended, _, _, rfl, hq, ⟨_, rfl⟩, hW, hsame.mono hc hs⟩
theorem Go.retAW {vm0 : Vm} {QW : Option Value → Heap → List Loc → Vm → Prop} (X : Stand p l e R (s.setVm vm0) m args below meth c T locs cells slots) (hx : p.tables.exec = Jvm.exec) {t : FieldType} (hret : meth.sig.returnType = some t) (hlk : meth.locks = false) (ht : t.isReference = true) {pc : Nat} {Ls : Array Slot} {w : Value} {rest : List Value} (hw : w.isRef = true) (hd : decode c.code pc = .ok (.areturn, 1)) (hc : cells ≤ kc) (hs : slots ≤ ks) {n : Nat} (hS : s.Since vm0 n) (hn : n ≤ T.heap.size)
    (hq : QW (some w) T.heap locs T.vm) : Go p e below (FinW s QW kc ks) T (mkF m pc Ls (w :: rest)) := by
  obtain ⟨fs, hr, hrun, hended, h1, h2, h3, h4⟩ := X.leaveW hS hn (v := (some w)) (fun h => by rw [hret] at h; cases h) hlk
  exact ⟨_, _, Jvm.RoadKit.retOut X hx hret (t := t) (own_narrow_ref ht) (Or.inr (Or.inr (Or.inr (Or.inr ⟨rfl, ht, hw⟩)))) hd hr, hrun, hended, _, _, rfl, hq, h1, h2, h3, h4.mono hc hs⟩
theorem Go.ret0 (X : Stand p l e R s m args below meth c T locs cells slots) (hx : p.tables.exec = Jvm.exec) (hret : meth.sig.returnType = none) (hlk : meth.locks = false) {pc : Nat} {Ls : Array Slot} (hd : decode c.code pc = .ok (.return_, 1)) (hc : cells ≤ kc) (hs : slots ≤ ks)
    (hq : Q none T.heap locs) : Go p e below (FinN s Q kc ks) T (mkF m pc Ls []) := by
  obtain ⟨fs, hr, hrun, hended, hW, hsame⟩ := X.leave (v := none) (fun _ => rfl) hlk
  exact ⟨_, _, X.returnOut hx hret hd hr, hrun, hended, _, _, rfl, hq, ⟨_, rfl⟩, hW, hsame.mono hc hs⟩
theorem Go.ret0W {vm0 : Vm} {QW : Option Value → Heap → List Loc → Vm → Prop} (X : Stand p l e R (s.setVm vm0) m args below meth c T locs cells slots) (hx : p.tables.exec = Jvm.exec) (hret : meth.sig.returnType = none) (hlk : meth.locks = false) {pc : Nat} {Ls : Array Slot} (hd : decode c.code pc = .ok (.return_, 1)) (hc : cells ≤ kc) (hs : slots ≤ ks) {n : Nat} (hS : s.Since vm0 n) (hn : n ≤ T.heap.size)
    (hq : QW none T.heap locs T.vm) : Go p e below (FinW s QW kc ks) T (mkF m pc Ls []) := by
  obtain ⟨fs, hr, hrun, hended, h1, h2, h3, h4⟩ := X.leaveW hS hn (v := none) (fun _ => rfl) hlk
  exact ⟨_, _, X.returnOut hx hret hd hr, hrun, hended, _, _, rfl, hq, h1, h2, h3, h4.mono hc hs⟩
theorem Go.retN (X : Stand p l e R s m args below meth c T locs cells slots) (hx : p.tables.exec = Jvm.exec) {t : FieldType} (hret : meth.sig.returnType = some t) (hlk : meth.locks = false) (ht : t = .boolean ∨ t = .byte ∨ t = .char ∨ t = .short) {pc : Nat} {Ls : Array Slot} {z z' : Int32} {rest : List Value} (hd : decode c.code pc = .ok (.ireturn, 1)) (hc : cells ≤ kc) (hs : slots ≤ ks) (hz : nar t z = z')
    (hq : Q (some (.int z')) T.heap locs) : Go p e below (FinN s Q kc ks) T (mkF m pc Ls (.int z :: rest)) := by
  subst hz; exact Go.retN' X hx hret hlk ht hd hc hs hq
theorem Go.retNW {vm0 : Vm} {QW : Option Value → Heap → List Loc → Vm → Prop} (X : Stand p l e R (s.setVm vm0) m args below meth c T locs cells slots) (hx : p.tables.exec = Jvm.exec) {t : FieldType} (hret : meth.sig.returnType = some t) (hlk : meth.locks = false) (ht : t = .boolean ∨ t = .byte ∨ t = .char ∨ t = .short) {pc : Nat} {Ls : Array Slot} {z z' : Int32} {rest : List Value} (hd : decode c.code pc = .ok (.ireturn, 1)) (hc : cells ≤ kc) (hs : slots ≤ ks) {n : Nat} (hS : s.Since vm0 n) (hn : n ≤ T.heap.size) (hz : nar t z = z')
    (hq : QW (some (.int z')) T.heap locs T.vm) : Go p e below (FinW s QW kc ks) T (mkF m pc Ls (.int z :: rest)) := by
  subst hz; exact Go.retNW' X hx hret hlk ht hd hc hs hS hn hq
/-- who pays a call: with the arguments as' at the heap h, k cells and n slots more, what Qc says -/
def OBk (l : Launch) (R : Room) (p : Program) (e : Env) (below : List Frame) (s : State) (args : Array Value) (y : MethodName) (len W : Nat) (as' : Array Value) (h : Heap) (k n : Nat) (Qc : Option Value → Heap → List Loc → Prop) : Prop :=
  Back l R p e below s args y len W (fun A a => a = as' ∧ A.U.heap = h ∧ A.cells + k ≤ R.cells ∧ A.slots + n ≤ R.slots) (fun A _ v B => ∃ L, Qc v B.U.heap L ∧ B.locs = A.locs ++ L ∧ B.cells = A.cells + k ∧ B.slots = A.slots + n)
theorem Met1.back {y : MethodName} {bytes : ByteArray} {maxL : Nat} {ret : Option FieldType} {rm : Room} {as' : Array Value} {Qc : Option Value → Heap → List Loc → Prop} {len W : Nat} (M : Met1 l Z y bytes maxL ret rm as' h Qc) (hZ : Z.Warmed39 s.vm) (wc : (Cond.code y bytes maxL ret).before a0 Z = true) (wz : (Cond.initialized y.cls).before a0 Z = true) (hf : rm.frames + 1 ≤ R.frames) (hl : W + (maxL + 11) + rm.locals ≤ R.locals) :
    OBk l R p e below s args y len W as' h rm.cells rm.slots Qc := backOf (M []) hZ wc wz hf hl
/-- a constructor by its contract -/
theorem Go.special (X : Stand p l e R s m args below meth c T locs cells slots) (hx : p.tables.exec = Jvm.exec) (hZ : Z.Warmed39 s.vm) {own : String} {index : Nat} {y : MethodName} {bytes : ByteArray} {maxL : Nat} (hy1 : y.name = "<init>") (hown : s.vm.findClass own = some m.cls)
    (w1 : (Cond.methodLink own index y).before a0 Z = true) (w2 : (Cond.instanceMethod y).before a0 Z = true) (w3 : (Cond.code y bytes maxL none).before a0 Z = true) (hy : y.cls ≠ "java/lang/invoke/MethodHandle" ∧ y.cls ≠ "java/lang/invoke/VarHandle")
    (eT : T.heap = h) {kC kS : Nat} {a : Addr} {argsL rest : List Value} {Qc : Option Value → Heap → List Loc → Prop} {W : Nat} (B : OBk l R p e below s args y 3 W (.ref a :: argsL).toArray h kC kS Qc)
    {pc : Nat} {Ls : Array Slot} (hsz : Ls.size = c.maxLocals) (hlen : ∀ sig, parseMethodDescriptor y.desc = some sig → argsL.length = sig.parameters.length) {st : List Value} (hst : st = argsL.reverse ++ .ref a :: rest) (hW : (rest.map fun v => v.category).sum ≤ W) (hd : decode c.code pc = .ok (.invokespecial index, 3))
    (hc : cells + kC ≤ R.cells) (hs : slots + kS ≤ R.slots)
    (K : ∀ (T' : State) (v : Option Value) (L : List Loc), Stand p l e R s m args below meth c T' (locs ++ L) (cells + kC) (slots + kS) → Qc v T'.heap L → Go p e below Fin T' (mkF m (pc + 3) Ls (v.toList ++ rest))) : Go p e below Fin T (mkF m pc Ls st) := by
  subst hst
  obtain ⟨v, _, ⟨T', L', k', n'⟩, -, X', ⟨Lc, hQ, hl, hk, hn⟩, stp⟩ := X.specialBack hx (y := y) hy1 hown (mvT hZ w1) (mvT hZ w2) (mvT hZ w3) hy B (g := mkF m pc Ls (argsL.reverse ++ .ref a :: rest)) rfl hsz (Steps.refl _) (a := a) (argsL := argsL) (rest := rest) hlen rfl (by show 2 * 0 + _ ≤ _; omega) hd (fun _ _ => ⟨rfl, eT, hc, hs⟩)
  dsimp only [Pt.U, Pt.locs, Pt.cells, Pt.slots] at X' hl hk hn stp hQ
  subst hl hk hn
  obtain ⟨t, o, h1, r⟩ := K T' v Lc X' hQ
  exact ⟨t, o, stp.trans h1, r⟩
/-- an instance method by the contract of the body that the receiver's class selects -/
theorem Go.virt (X : Stand p l e R s m args below meth c T locs cells slots) (hx : p.tables.exec = Jvm.exec) (hZ : Z.Warmed39 s.vm) {own C : String} {index : Nat} {y z : MethodName} (hown : s.vm.findClass own = some m.cls)
    (w1 : (Cond.methodLink own index y).before a0 Z = true) (w2 : (Cond.declares y).before a0 Z = true) (nf : NotFace s y) (w3 : (Cond.selects C y z).before a0 Z = true) (w4 : (Cond.instanceMethod z).before a0 Z = true) (hy : y.cls ≠ "java/lang/invoke/MethodHandle" ∧ y.cls ≠ "java/lang/invoke/VarHandle")
    (eT : T.heap = h) {kC kS : Nat} {a : Addr} (E : Exa Z h a C) {argsL rest : List Value} {Qc : Option Value → Heap → List Loc → Prop} {W : Nat} (B : OBk l R p e below s args z 3 W (.ref a :: argsL).toArray h kC kS Qc)
    {pc : Nat} {Ls : Array Slot} (hsz : Ls.size = c.maxLocals) (hlen : ∀ sig, parseMethodDescriptor y.desc = some sig → argsL.length = sig.parameters.length) {st : List Value} (hst : st = argsL.reverse ++ .ref a :: rest) (hW : (rest.map fun v => v.category).sum ≤ W) (hd : decode c.code pc = .ok (.invokevirtual index, 3))
    (hc : cells + kC ≤ R.cells) (hs : slots + kS ≤ R.slots)
    (K : ∀ (T' : State) (v : Option Value) (L : List Loc), Stand p l e R s m args below meth c T' (locs ++ L) (cells + kC) (slots + kS) → Qc v T'.heap L → Go p e below Fin T' (mkF m (pc + 3) Ls (v.toList ++ rest))) : Go p e below Fin T (mkF m pc Ls st) := by
  subst hst
  obtain ⟨cq, kq, qa, qb, qc⟩ := isOf hZ eT E
  obtain ⟨v, _, ⟨T', L', k', n'⟩, -, X', ⟨Lc, hQ, hl, hk, hn⟩, stp⟩ := X.virtualBack hx (y := y) (z := z) hown (mvT hZ w1) (mvT hZ w2) nf (mvT hZ w3) (mvT hZ w4) hy B qa qc (g := mkF m pc Ls (argsL.reverse ++ .ref a :: rest)) rfl hsz (Steps.refl _) (argsL := argsL) (rest := rest) hlen rfl (by show 2 * 0 + _ ≤ _; omega) hd (fun _ _ => ⟨rfl, eT, hc, hs⟩)
  dsimp only [Pt.U, Pt.locs, Pt.cells, Pt.slots] at X' hl hk hn stp hQ
  subst hl hk hn
  obtain ⟨t, o, h1, r⟩ := K T' v Lc X' hQ
  exact ⟨t, o, stp.trans h1, r⟩
/-- an interface's method by the contract of the body that the receiver's class selects -/
theorem Go.face (X : Stand p l e R s m args below meth c T locs cells slots) (hx : p.tables.exec = Jvm.exec) (hZ : Z.Warmed39 s.vm) {own C : String} {index count : Nat} {y z : MethodName} (hown : s.vm.findClass own = some m.cls)
    (w1 : (Cond.methodLink own index y).before a0 Z = true) (w2 : (Cond.declares y).before a0 Z = true) (w2' : (Cond.interfaceMethod y.cls y.cls y.name y.desc).before a0 Z = true) (w3 : (Cond.selects C y z).before a0 Z = true) (w4 : (Cond.instanceMethod z).before a0 Z = true) (w4' : (Cond.publicMethod z).before a0 Z = true) (w7 : (Cond.unhidden C y.name y.desc).before a0 Z = true) (w8 : (Cond.castable C y.cls).before a0 Z = true) (hy : y.cls ≠ "java/lang/invoke/MethodHandle" ∧ y.cls ≠ "java/lang/invoke/VarHandle") (wq : ((Cond.interfaceMethod y.cls y.cls y.name y.desc).onTables && (Cond.interfaceMethod y.cls y.cls y.name y.desc).keepsFace) = true := by decide +kernel)
    (eT : T.heap = h) {kC kS : Nat} {a : Addr} (E : Exa Z h a C) {argsL rest : List Value} {Qc : Option Value → Heap → List Loc → Prop} {W : Nat} (B : OBk l R p e below s args z 5 W (.ref a :: argsL).toArray h kC kS Qc)
    {pc : Nat} {Ls : Array Slot} (hsz : Ls.size = c.maxLocals) (hlen : ∀ sig, parseMethodDescriptor y.desc = some sig → argsL.length = sig.parameters.length) {st : List Value} (hst : st = argsL.reverse ++ .ref a :: rest) (hW : (rest.map fun v => v.category).sum ≤ W) (hd : decode c.code pc = .ok (.invokeinterface index count, 5))
    (hc : cells + kC ≤ R.cells) (hs : slots + kS ≤ R.slots)
    (K : ∀ (T' : State) (v : Option Value) (L : List Loc), Stand p l e R s m args below meth c T' (locs ++ L) (cells + kC) (slots + kS) → Qc v T'.heap L → Go p e below Fin T' (mkF m (pc + 5) Ls (v.toList ++ rest))) : Go p e below Fin T (mkF m pc Ls st) := by
  subst hst
  obtain ⟨cq, kq, qa, qb, qc⟩ := isOf hZ eT E
  obtain ⟨v, _, ⟨T', L', k', n'⟩, -, X', ⟨Lc, hQ, hl, hk, hn⟩, stp⟩ := X.interfaceBack hx (xi := y) (y := z) hown (mvT hZ w1) (mvT hZ w2) (mvT hZ w2' wq) (mvT hZ w3) (mvT hZ w4) (mvT hZ w4') (mvT hZ w7) (mvT hZ w8) hy B qa qb qc (g := mkF m pc Ls (argsL.reverse ++ .ref a :: rest)) rfl hsz (Steps.refl _) (argsL := argsL) (rest := rest) hlen rfl (by show 2 * 0 + _ ≤ _; omega) hd (fun _ _ => ⟨rfl, eT, hc, hs⟩)
  dsimp only [Pt.U, Pt.locs, Pt.cells, Pt.slots] at X' hl hk hn stp hQ
  subst hl hk hn
  obtain ⟨t, o, h1, r⟩ := K T' v Lc X' hQ
  exact ⟨t, o, stp.trans h1, r⟩
/-- a private instance method by its contract -/
theorem Go.priv (X : Stand p l e R s m args below meth c T locs cells slots) (hx : p.tables.exec = Jvm.exec) (hZ : Z.Warmed39 s.vm) {own : String} {index : Nat} {y : MethodName} {bytes : ByteArray} {maxL : Nat} {ret : Option FieldType} {C : String} (hown : s.vm.findClass own = some m.cls)
    (w1 : (Cond.methodLink own index y).before a0 Z = true) (w2 : (Cond.instanceMethod y).before a0 Z = true) (sel : (Cond.selects y.cls y y).before args s = true) (w4 : (Cond.privateMethod y).before a0 Z = true) (w3 : (Cond.code y bytes maxL ret).before a0 Z = true) (hy : y.cls ≠ "java/lang/invoke/MethodHandle" ∧ y.cls ≠ "java/lang/invoke/VarHandle")
    (eT : T.heap = h) {kC kS : Nat} {a : Addr} (E : Exa Z h a C) {argsL rest : List Value} {Qc : Option Value → Heap → List Loc → Prop} {W : Nat} (B : OBk l R p e below s args y 3 W (.ref a :: argsL).toArray h kC kS Qc)
    {pc : Nat} {Ls : Array Slot} (hsz : Ls.size = c.maxLocals) (hlen : ∀ sig, parseMethodDescriptor y.desc = some sig → argsL.length = sig.parameters.length) {st : List Value} (hst : st = argsL.reverse ++ .ref a :: rest) (hW : (rest.map fun v => v.category).sum ≤ W) (hd : decode c.code pc = .ok (.invokevirtual index, 3))
    (hc : cells + kC ≤ R.cells) (hs : slots + kS ≤ R.slots)
    (K : ∀ (T' : State) (v : Option Value) (L : List Loc), Stand p l e R s m args below meth c T' (locs ++ L) (cells + kC) (slots + kS) → Qc v T'.heap L → Go p e below Fin T' (mkF m (pc + 3) Ls (v.toList ++ rest))) : Go p e below Fin T (mkF m pc Ls st) := by
  subst hst
  obtain ⟨cq, q, q'⟩ := E.cell
  obtain ⟨v, _, ⟨T', L', k', n'⟩, -, X', ⟨Lc, hQ, hl, hk, hn⟩, stp⟩ := X.privateBack hx (y := y) hown (mvT hZ w1) (mvT hZ w2) sel (Cond.privateMethod_at (mvP hZ w4 (args := #[]))) (mvT hZ w3) hy B (g := mkF m pc Ls (argsL.reverse ++ .ref a :: rest)) rfl hsz (Steps.refl _) (a := a) (by rw [eT]; exact q) q' (argsL := argsL) (rest := rest) hlen rfl (by show 2 * 0 + _ ≤ _; omega) hd (fun _ _ => ⟨rfl, eT, hc, hs⟩)
  dsimp only [Pt.U, Pt.locs, Pt.cells, Pt.slots] at X' hl hk hn stp hQ
  subst hl hk hn
  obtain ⟨t, o, h1, r⟩ := K T' v Lc X' hQ
  exact ⟨t, o, stp.trans h1, r⟩
/-- a static method by its contract -/
theorem Go.stat (X : Stand p l e R s m args below meth c T locs cells slots) (hx : p.tables.exec = Jvm.exec) (hZ : Z.Warmed39 s.vm) {own : String} {index : Nat} {y : MethodName} {bytes : ByteArray} {maxL : Nat} {ret : Option FieldType} (hown : s.vm.findClass own = some m.cls)
    (w1 : (Cond.methodLink own index y).before a0 Z = true) (w2 : (Cond.static y).before a0 Z = true) (w3 : (Cond.initialized y.cls).before a0 Z = true) (w4 : (Cond.code y bytes maxL ret).before a0 Z = true) (hy : y.cls ≠ "java/lang/invoke/MethodHandle" ∧ y.cls ≠ "java/lang/invoke/VarHandle")
    (eT : T.heap = h) {kC kS : Nat} {argsL rest : List Value} {Qc : Option Value → Heap → List Loc → Prop} {W : Nat} (B : OBk l R p e below s args y 3 W argsL.toArray h kC kS Qc)
    {pc : Nat} {Ls : Array Slot} (hsz : Ls.size = c.maxLocals) (hlen : ∀ sig, parseMethodDescriptor y.desc = some sig → argsL.length = sig.parameters.length) {st : List Value} (hst : st = argsL.reverse ++ rest) (hW : (rest.map fun v => v.category).sum ≤ W) (hd : decode c.code pc = .ok (.invokestatic index, 3))
    (hc : cells + kC ≤ R.cells) (hs : slots + kS ≤ R.slots)
    (K : ∀ (T' : State) (v : Option Value) (L : List Loc), Stand p l e R s m args below meth c T' (locs ++ L) (cells + kC) (slots + kS) → Qc v T'.heap L → Go p e below Fin T' (mkF m (pc + 3) Ls (v.toList ++ rest))) : Go p e below Fin T (mkF m pc Ls st) := by
  subst hst
  obtain ⟨v, _, ⟨T', L', k', n'⟩, -, X', ⟨Lc, hQ, hl, hk, hn⟩, stp⟩ := Jvm.LawKit.callS X hx (y := y) hown (mvT hZ w1) (mvT hZ w2) (mvT hZ w3) (mvT hZ w4) hy B (g := mkF m pc Ls (argsL.reverse ++ rest)) rfl hsz (argsL := argsL) (rest := rest) hlen rfl (by show 2 * 0 + _ ≤ _; omega) hd (fun _ _ => ⟨rfl, eT, hc, hs⟩)
  dsimp only [Pt.U, Pt.locs, Pt.cells, Pt.slots] at X' hl hk hn stp hQ
  subst hl hk hn
  obtain ⟨t, o, h1, r⟩ := K T' v Lc X' hQ
  exact ⟨t, o, stp t h1, r⟩
/-- who pays a call of a callee that may intern -/
def OBkS (l : Launch) (R : Room) (p : Program) (e : Env) (below : List Frame) (s : State) (args : Array Value) (y : MethodName) (len W : Nat) (as' : Array Value) (h : Heap) (k n : Nat) (Qc : Option Value → Heap → List Loc → Vm → Prop) : Prop :=
  BackS l R p e below s args y len W (fun A a => a = as' ∧ A.U.heap = h ∧ A.cells + k ≤ R.cells ∧ A.slots + n ≤ R.slots) (fun A _ v B => ∃ L, Qc v B.U.heap L B.U.vm ∧ B.locs = A.locs ++ L ∧ B.cells = A.cells + k ∧ B.slots = A.slots + n)
theorem MetW.back {y : MethodName} {bytes : ByteArray} {maxL : Nat} {ret : Option FieldType} {rm : Room} {as' : Array Value} {J : Vm → Prop} {Qc : Option Value → Heap → List Loc → Vm → Prop} {len W : Nat} (M : MetW l Z y bytes maxL ret rm as' h J Qc) (hZ : Z.Warmed39 s.vm) (hJ : ∀ vm1, s.WarmedH vm1 → J vm1) (wc : (Cond.code y bytes maxL ret).before a0 Z = true) (wz : (Cond.initialized y.cls).before a0 Z = true) (hf : rm.frames + 1 ≤ R.frames) (hl : W + (maxL + 11) + rm.locals ≤ R.locals) :
    OBkS l R p e below s args y len W as' h rm.cells rm.slots Qc :=
  BackS.of_freeW (bytes := bytes) (maxL := maxL) (ret := ret) (E := fun _ _ o t L k n => k = rm.cells ∧ n = rm.slots ∧ ∃ v, o = .returned v ∧ Qc v t.heap L t.vm) (M []) hf hl
    (fun m meth c A a Y hp => have hU : Z.Warmed39 A.U.vm := wtrans hZ Y.warmed
      ⟨by show (Cond.and _ .tt).before a A.U = true; rw [Cond.before_and, mv hU wc]; rfl, mv hU wc, mv hU wz, hp.2.2.1, hp.2.2.2⟩)
    (fun m meth c A a g mk Y hp => ⟨hp.1, wtrans hZ Y.warmed, hp.2.1, hJ _ Y.warmed⟩) (fun _ _ _ _ _ _ _ _ _ => trivial)
    (fun _ _ _ _ ⟨v, L, h1, h2, h3⟩ => ⟨L, _, _, h3, rfl, rfl, v, h1, h2⟩)
    (fun m meth c A a g mk v t L k n Y hp _ _ ⟨e1, e2, v', e3, e4⟩ => by cases e3; subst e1 e2; exact ⟨L, e4, rfl, rfl, rfl⟩)
/-- a constructor by its contract -/
theorem Go.specialS {vm0 : Vm} {k0 : Nat} (hS : s.Since vm0 k0) (hk0 : k0 ≤ h.size) (X : Stand p l e R (s.setVm vm0) m args below meth c T locs cells slots) (hx : p.tables.exec = Jvm.exec) (hZ : Z.Warmed39 (s.setVm vm0).vm) {own : String} {index : Nat} {y : MethodName} {bytes : ByteArray} {maxL : Nat} (hy1 : y.name = "<init>") (hown : (s.setVm vm0).vm.findClass own = some m.cls)
    (w1 : (Cond.methodLink own index y).before a0 Z = true) (w2 : (Cond.instanceMethod y).before a0 Z = true) (w3 : (Cond.code y bytes maxL none).before a0 Z = true) (hy : y.cls ≠ "java/lang/invoke/MethodHandle" ∧ y.cls ≠ "java/lang/invoke/VarHandle")
    (eT : T.heap = h) {kC kS : Nat} {a : Addr} {argsL rest : List Value} {Qc : Option Value → Heap → List Loc → Vm → Prop} {W : Nat} (B : OBkS l R p e below (s.setVm vm0) args y 3 W (.ref a :: argsL).toArray h kC kS Qc)
    {pc : Nat} {Ls : Array Slot} (hsz : Ls.size = c.maxLocals) (hlen : ∀ sig, parseMethodDescriptor y.desc = some sig → argsL.length = sig.parameters.length) {st : List Value} (hst : st = argsL.reverse ++ .ref a :: rest) (hW : (rest.map fun v => v.category).sum ≤ W) (hd : decode c.code pc = .ok (.invokespecial index, 3))
    (hc : cells + kC ≤ R.cells) (hs : slots + kS ≤ R.slots)
    (K : ∀ (T' : State) (v : Option Value) (L : List Loc), Stand p l e R (s.setVm T'.vm) m args below meth c T' (locs ++ L) (cells + kC) (slots + kS) → s.Since T'.vm T'.heap.size → (s.setVm vm0).Warmed39 T'.vm → Z.Warmed39 (s.setVm T'.vm).vm → (s.setVm T'.vm).vm.findClass own = some m.cls → h.size ≤ T'.heap.size → Qc v T'.heap L T'.vm → Go p e below Fin T' (mkF m (pc + 3) Ls (v.toList ++ rest))) : Go p e below Fin T (mkF m pc Ls st) := by
  subst hst
  obtain ⟨v, _, ⟨T', L', k', n'⟩, -, X', h2, hg, ⟨Lc, hQ, hl, hk, hn⟩, stp⟩ := X.specialBackS hx (y := y) hy1 hown (mvT hZ w1) (mvT hZ w2) (mvT hZ w3) hy B (g := mkF m pc Ls (argsL.reverse ++ .ref a :: rest)) rfl hsz (Steps.refl _) (a := a) (argsL := argsL) (rest := rest) hlen rfl (by show 2 * 0 + _ ≤ _; omega) hd (fun _ _ => ⟨rfl, eT, hc, hs⟩)
  dsimp only [Pt.U, Pt.locs, Pt.cells, Pt.slots] at X' h2 hg hl hk hn stp hQ
  subst hl hk hn
  rw [eT] at hg
  obtain ⟨X1, X2, X3, X4⟩ := rebS hS hk0 X' h2 hg hZ hown
  obtain ⟨t, o, h1, r⟩ := K T' v Lc X1 X2 h2.1 X3 X4 hg hQ
  exact ⟨t, o, stp.trans h1, r⟩
/-- an instance method by the contract of the body that the receiver's class selects -/
theorem Go.virtS {vm0 : Vm} {k0 : Nat} (hS : s.Since vm0 k0) (hk0 : k0 ≤ h.size) (X : Stand p l e R (s.setVm vm0) m args below meth c T locs cells slots) (hx : p.tables.exec = Jvm.exec) (hZ : Z.Warmed39 (s.setVm vm0).vm) {own C : String} {index : Nat} {y z : MethodName} (hown : (s.setVm vm0).vm.findClass own = some m.cls)
    (w1 : (Cond.methodLink own index y).before a0 Z = true) (w2 : (Cond.declares y).before a0 Z = true) (nf : NotFace (s.setVm vm0) y) (w3 : (Cond.selects C y z).before a0 Z = true) (w4 : (Cond.instanceMethod z).before a0 Z = true) (hy : y.cls ≠ "java/lang/invoke/MethodHandle" ∧ y.cls ≠ "java/lang/invoke/VarHandle")
    (eT : T.heap = h) {kC kS : Nat} {a : Addr} (E : Exa Z h a C) {argsL rest : List Value} {Qc : Option Value → Heap → List Loc → Vm → Prop} {W : Nat} (B : OBkS l R p e below (s.setVm vm0) args z 3 W (.ref a :: argsL).toArray h kC kS Qc)
    {pc : Nat} {Ls : Array Slot} (hsz : Ls.size = c.maxLocals) (hlen : ∀ sig, parseMethodDescriptor y.desc = some sig → argsL.length = sig.parameters.length) {st : List Value} (hst : st = argsL.reverse ++ .ref a :: rest) (hW : (rest.map fun v => v.category).sum ≤ W) (hd : decode c.code pc = .ok (.invokevirtual index, 3))
    (hc : cells + kC ≤ R.cells) (hs : slots + kS ≤ R.slots)
    (K : ∀ (T' : State) (v : Option Value) (L : List Loc), Stand p l e R (s.setVm T'.vm) m args below meth c T' (locs ++ L) (cells + kC) (slots + kS) → s.Since T'.vm T'.heap.size → (s.setVm vm0).Warmed39 T'.vm → Z.Warmed39 (s.setVm T'.vm).vm → (s.setVm T'.vm).vm.findClass own = some m.cls → h.size ≤ T'.heap.size → Qc v T'.heap L T'.vm → Go p e below Fin T' (mkF m (pc + 3) Ls (v.toList ++ rest))) : Go p e below Fin T (mkF m pc Ls st) := by
  subst hst
  obtain ⟨cq, kq, qa, qb, qc⟩ := isOf hZ eT E
  obtain ⟨v, _, ⟨T', L', k', n'⟩, -, X', h2, hg, ⟨Lc, hQ, hl, hk, hn⟩, stp⟩ := X.virtualBackS hx (y := y) (z := z) hown (mvT hZ w1) (mvT hZ w2) nf (mvT hZ w3) (mvT hZ w4) hy B qa qc (g := mkF m pc Ls (argsL.reverse ++ .ref a :: rest)) rfl hsz (Steps.refl _) (argsL := argsL) (rest := rest) hlen rfl (by show 2 * 0 + _ ≤ _; omega) hd (fun _ _ => ⟨rfl, eT, hc, hs⟩)
  dsimp only [Pt.U, Pt.locs, Pt.cells, Pt.slots] at X' h2 hg hl hk hn stp hQ
  subst hl hk hn
  rw [eT] at hg
  obtain ⟨X1, X2, X3, X4⟩ := rebS hS hk0 X' h2 hg hZ hown
  obtain ⟨t, o, h1, r⟩ := K T' v Lc X1 X2 h2.1 X3 X4 hg hQ
  exact ⟨t, o, stp.trans h1, r⟩
/-- an interface's method by the contract of the body that the receiver's class selects -/
theorem Go.faceS {vm0 : Vm} {k0 : Nat} (hS : s.Since vm0 k0) (hk0 : k0 ≤ h.size) (X : Stand p l e R (s.setVm vm0) m args below meth c T locs cells slots) (hx : p.tables.exec = Jvm.exec) (hZ : Z.Warmed39 (s.setVm vm0).vm) {own C : String} {index count : Nat} {y z : MethodName} (hown : (s.setVm vm0).vm.findClass own = some m.cls)
    (w1 : (Cond.methodLink own index y).before a0 Z = true) (w2 : (Cond.declares y).before a0 Z = true) (w2' : (Cond.interfaceMethod y.cls y.cls y.name y.desc).before a0 Z = true) (w3 : (Cond.selects C y z).before a0 Z = true) (w4 : (Cond.instanceMethod z).before a0 Z = true) (w4' : (Cond.publicMethod z).before a0 Z = true) (w7 : (Cond.unhidden C y.name y.desc).before a0 Z = true) (w8 : (Cond.castable C y.cls).before a0 Z = true) (hy : y.cls ≠ "java/lang/invoke/MethodHandle" ∧ y.cls ≠ "java/lang/invoke/VarHandle") (wq : ((Cond.interfaceMethod y.cls y.cls y.name y.desc).onTables && (Cond.interfaceMethod y.cls y.cls y.name y.desc).keepsFace) = true := by decide +kernel)
    (eT : T.heap = h) {kC kS : Nat} {a : Addr} (E : Exa Z h a C) {argsL rest : List Value} {Qc : Option Value → Heap → List Loc → Vm → Prop} {W : Nat} (B : OBkS l R p e below (s.setVm vm0) args z 5 W (.ref a :: argsL).toArray h kC kS Qc)
    {pc : Nat} {Ls : Array Slot} (hsz : Ls.size = c.maxLocals) (hlen : ∀ sig, parseMethodDescriptor y.desc = some sig → argsL.length = sig.parameters.length) {st : List Value} (hst : st = argsL.reverse ++ .ref a :: rest) (hW : (rest.map fun v => v.category).sum ≤ W) (hd : decode c.code pc = .ok (.invokeinterface index count, 5))
    (hc : cells + kC ≤ R.cells) (hs : slots + kS ≤ R.slots)
    (K : ∀ (T' : State) (v : Option Value) (L : List Loc), Stand p l e R (s.setVm T'.vm) m args below meth c T' (locs ++ L) (cells + kC) (slots + kS) → s.Since T'.vm T'.heap.size → (s.setVm vm0).Warmed39 T'.vm → Z.Warmed39 (s.setVm T'.vm).vm → (s.setVm T'.vm).vm.findClass own = some m.cls → h.size ≤ T'.heap.size → Qc v T'.heap L T'.vm → Go p e below Fin T' (mkF m (pc + 5) Ls (v.toList ++ rest))) : Go p e below Fin T (mkF m pc Ls st) := by
  subst hst
  obtain ⟨cq, kq, qa, qb, qc⟩ := isOf hZ eT E
  obtain ⟨v, _, ⟨T', L', k', n'⟩, -, X', h2, hg, ⟨Lc, hQ, hl, hk, hn⟩, stp⟩ := X.interfaceBackS hx (xi := y) (y := z) hown (mvT hZ w1) (mvT hZ w2) (mvT hZ w2' wq) (mvT hZ w3) (mvT hZ w4) (mvT hZ w4') (mvT hZ w7) (mvT hZ w8) hy B qa qb qc (g := mkF m pc Ls (argsL.reverse ++ .ref a :: rest)) rfl hsz (Steps.refl _) (argsL := argsL) (rest := rest) hlen rfl (by show 2 * 0 + _ ≤ _; omega) hd (fun _ _ => ⟨rfl, eT, hc, hs⟩)
  dsimp only [Pt.U, Pt.locs, Pt.cells, Pt.slots] at X' h2 hg hl hk hn stp hQ
  subst hl hk hn
  rw [eT] at hg
  obtain ⟨X1, X2, X3, X4⟩ := rebS hS hk0 X' h2 hg hZ hown
  obtain ⟨t, o, h1, r⟩ := K T' v Lc X1 X2 h2.1 X3 X4 hg hQ
  exact ⟨t, o, stp.trans h1, r⟩
/-- a private instance method by its contract -/
theorem Go.privS {vm0 : Vm} {k0 : Nat} (hS : s.Since vm0 k0) (hk0 : k0 ≤ h.size) (X : Stand p l e R (s.setVm vm0) m args below meth c T locs cells slots) (hx : p.tables.exec = Jvm.exec) (hZ : Z.Warmed39 (s.setVm vm0).vm) {own : String} {index : Nat} {y : MethodName} {bytes : ByteArray} {maxL : Nat} {ret : Option FieldType} {C : String} (hown : (s.setVm vm0).vm.findClass own = some m.cls)
    (w1 : (Cond.methodLink own index y).before a0 Z = true) (w2 : (Cond.instanceMethod y).before a0 Z = true) (sel : (Cond.selects y.cls y y).before args (s.setVm vm0) = true) (w4 : (Cond.privateMethod y).before a0 Z = true) (w3 : (Cond.code y bytes maxL ret).before a0 Z = true) (hy : y.cls ≠ "java/lang/invoke/MethodHandle" ∧ y.cls ≠ "java/lang/invoke/VarHandle")
    (eT : T.heap = h) {kC kS : Nat} {a : Addr} (E : Exa Z h a C) {argsL rest : List Value} {Qc : Option Value → Heap → List Loc → Vm → Prop} {W : Nat} (B : OBkS l R p e below (s.setVm vm0) args y 3 W (.ref a :: argsL).toArray h kC kS Qc)
    {pc : Nat} {Ls : Array Slot} (hsz : Ls.size = c.maxLocals) (hlen : ∀ sig, parseMethodDescriptor y.desc = some sig → argsL.length = sig.parameters.length) {st : List Value} (hst : st = argsL.reverse ++ .ref a :: rest) (hW : (rest.map fun v => v.category).sum ≤ W) (hd : decode c.code pc = .ok (.invokevirtual index, 3))
    (hc : cells + kC ≤ R.cells) (hs : slots + kS ≤ R.slots)
    (K : ∀ (T' : State) (v : Option Value) (L : List Loc), Stand p l e R (s.setVm T'.vm) m args below meth c T' (locs ++ L) (cells + kC) (slots + kS) → s.Since T'.vm T'.heap.size → (s.setVm vm0).Warmed39 T'.vm → Z.Warmed39 (s.setVm T'.vm).vm → (s.setVm T'.vm).vm.findClass own = some m.cls → h.size ≤ T'.heap.size → Qc v T'.heap L T'.vm → Go p e below Fin T' (mkF m (pc + 3) Ls (v.toList ++ rest))) : Go p e below Fin T (mkF m pc Ls st) := by
  subst hst
  obtain ⟨cq, q, q'⟩ := E.cell
  obtain ⟨v, _, ⟨T', L', k', n'⟩, -, X', h2, hg, ⟨Lc, hQ, hl, hk, hn⟩, stp⟩ := X.privateBackS hx (y := y) hown (mvT hZ w1) (mvT hZ w2) sel (Cond.privateMethod_at (mvP hZ w4 (args := #[]))) (mvT hZ w3) hy B (g := mkF m pc Ls (argsL.reverse ++ .ref a :: rest)) rfl hsz (Steps.refl _) (a := a) (by rw [eT]; exact q) q' (argsL := argsL) (rest := rest) hlen rfl (by show 2 * 0 + _ ≤ _; omega) hd (fun _ _ => ⟨rfl, eT, hc, hs⟩)
  dsimp only [Pt.U, Pt.locs, Pt.cells, Pt.slots] at X' h2 hg hl hk hn stp hQ
  subst hl hk hn
  rw [eT] at hg
  obtain ⟨X1, X2, X3, X4⟩ := rebS hS hk0 X' h2 hg hZ hown
  obtain ⟨t, o, h1, r⟩ := K T' v Lc X1 X2 h2.1 X3 X4 hg hQ
  exact ⟨t, o, stp.trans h1, r⟩
/-- a static method by its contract -/
theorem Go.statS {vm0 : Vm} {k0 : Nat} (hS : s.Since vm0 k0) (hk0 : k0 ≤ h.size) (X : Stand p l e R (s.setVm vm0) m args below meth c T locs cells slots) (hx : p.tables.exec = Jvm.exec) (hZ : Z.Warmed39 (s.setVm vm0).vm) {own : String} {index : Nat} {y : MethodName} {bytes : ByteArray} {maxL : Nat} {ret : Option FieldType} (hown : (s.setVm vm0).vm.findClass own = some m.cls)
    (w1 : (Cond.methodLink own index y).before a0 Z = true) (w2 : (Cond.static y).before a0 Z = true) (w3 : (Cond.initialized y.cls).before a0 Z = true) (w4 : (Cond.code y bytes maxL ret).before a0 Z = true) (hy : y.cls ≠ "java/lang/invoke/MethodHandle" ∧ y.cls ≠ "java/lang/invoke/VarHandle")
    (eT : T.heap = h) {kC kS : Nat} {argsL rest : List Value} {Qc : Option Value → Heap → List Loc → Vm → Prop} {W : Nat} (B : OBkS l R p e below (s.setVm vm0) args y 3 W argsL.toArray h kC kS Qc)
    {pc : Nat} {Ls : Array Slot} (hsz : Ls.size = c.maxLocals) (hlen : ∀ sig, parseMethodDescriptor y.desc = some sig → argsL.length = sig.parameters.length) {st : List Value} (hst : st = argsL.reverse ++ rest) (hW : (rest.map fun v => v.category).sum ≤ W) (hd : decode c.code pc = .ok (.invokestatic index, 3))
    (hc : cells + kC ≤ R.cells) (hs : slots + kS ≤ R.slots)
    (K : ∀ (T' : State) (v : Option Value) (L : List Loc), Stand p l e R (s.setVm T'.vm) m args below meth c T' (locs ++ L) (cells + kC) (slots + kS) → s.Since T'.vm T'.heap.size → (s.setVm vm0).Warmed39 T'.vm → Z.Warmed39 (s.setVm T'.vm).vm → (s.setVm T'.vm).vm.findClass own = some m.cls → h.size ≤ T'.heap.size → Qc v T'.heap L T'.vm → Go p e below Fin T' (mkF m (pc + 3) Ls (v.toList ++ rest))) : Go p e below Fin T (mkF m pc Ls st) := by
  subst hst
  obtain ⟨v, _, ⟨T', L', k', n'⟩, -, X', h2, hg, ⟨Lc, hQ, hl, hk, hn⟩, stp⟩ := callSS X hx (y := y) hown (mvT hZ w1) (mvT hZ w2) (mvT hZ w3) (mvT hZ w4) hy B (g := mkF m pc Ls (argsL.reverse ++ rest)) rfl hsz (argsL := argsL) (rest := rest) hlen rfl (by show 2 * 0 + _ ≤ _; omega) hd (fun _ _ => ⟨rfl, eT, hc, hs⟩)
  dsimp only [Pt.U, Pt.locs, Pt.cells, Pt.slots] at X' h2 hg hl hk hn stp hQ
  subst hl hk hn
  rw [eT] at hg
  obtain ⟨X1, X2, X3, X4⟩ := rebS hS hk0 X' h2 hg hZ hown
  obtain ⟨t, o, h1, r⟩ := K T' v Lc X1 X2 h2.1 X3 X4 hg hQ
  exact ⟨t, o, stp.trans h1, r⟩
/-- what a static holds stands over a call that writes no statics' cell -/
theorem own_sta_keep {C n d : String} {v : Value} {h h' : Heap} {ws : List Addr} (F : Sta Z h C n d v) (K : Keep h h' ws) (q : ∀ x ∈ ws, ∀ cell : Cell, h[x]? = some cell → cell.vm.isStatics = false) : Sta Z h' C n d v := by
  obtain ⟨cf, i, k, f, st, cell, h1, h2, h3, h4, h5, h6, h7⟩ := F
  exact ⟨cf, i, k, f, st, cell, h1, h2, h3, h4, K.2.1 st cell h5 (fun z => by rw [q st z cell h5] at h6; cases h6), h6, h7⟩
theorem own_exa_plain {C : String} {h : Heap} {a : Addr} (E : Exa Z h a C) : ∀ cell : Cell, h[a]? = some cell → cell.vm.isStatics = false := fun cell hc => by
  obtain ⟨c, k, h1, -, -, h4, -⟩ := E
  cases h1.symm.trans hc; exact h4
theorem own_exa_at {args : Array Value} {s : State} {t : Term} {C : String} (h : (Cond.exactly t C).value args s none s [] = some true) : ∃ a, t.eval args s none [] s = some (.ref a) ∧ Exa s s.heap a C := by
  have h' : (Cond.exactly t C).before args s = true := Cond.before_iff.mpr h
  obtain ⟨a, c', cell, k, e1, e2, e3, e4, e5, rfl, e7⟩ := Cond.exactly_spec h'
  exact ⟨a, e1, cell, k, e3, e2, e4, e5, e7⟩
theorem own_eq_int {args : Array Value} {s : State} {t : Term} {n : Int32} (h : (Cond.eq t (.int n)).value args s none s [] = some true) : t.eval args s none [] s = some (.int n) :=
  Cond.eq_int (b := .int n) (Cond.before_iff.mpr h) rfl
theorem own_field_at {args : Array Value} {s : State} {t : Term} {a : Addr} {C n d : String} {v : Value} (ht : t.eval args s none [] s = some (.ref a)) (h : (Term.field t C n d).eval args s none [] s = some v) : Fld s s.heap a C n d v := by
  rw [fld_at ht] at h
  exact Fld.start h
theorem own_not_eq {args : Array Value} {s : State} {t : Term} {z n : Int32} (ez : t.eval args s none [] s = some (.int z)) (h : (Cond.not (.eq t (.int n))).value args s none s [] = some true) : ¬ z = n := by
  intro e
  subst e
  have q := eq_i (idx := []) (o := none) (first := s) ez (Term.int_eval z) rfl
  rw [show (Cond.not (.eq t (.int z))).value args s none s [] = ((Cond.eq t (.int z)).value args s none s []).map (!·) from rfl, q] at h
  cases h
theorem own_refcat {v : Value} (h : v.isRef = true) : v.category = 1 := by cases v <;> first | rfl | (cases h)
theorem own_cat_i (z : Int32) : (Value.int z).category = 1 := rfl
theorem own_cat_l (z : Int64) : (Value.long z).category = 2 := rfl
theorem own_cat_r (a : Addr) : (Value.ref a).category = 1 := rfl
theorem own_cat_n : (Value.null).category = 1 := rfl
theorem own_one_u : (Slot.unset) = .unset ∨ ∃ w, Slot.unset = .val w ∧ w.category = 1 := Or.inl rfl
theorem own_one_v {w : Value} (h : w.category = 1) : (Slot.val w) = .unset ∨ ∃ u, Slot.val w = .val u ∧ u.category = 1 := Or.inr ⟨w, rfl, h⟩
theorem own_store1 {L L' : Array Slot} {i : Nat} {v : Value} {o : Slot} (hold : L[i]? = some o) (ho : o = .unset ∨ ∃ w, o = .val w ∧ w.category = 1) (hv : v.category = 1) (e : L.setIfInBounds i (.val v) = L') : storeLocals L i v = some L' := by
  rw [← e]; exact XS.store1 hold ho hv
theorem own_fits_of {t : FieldType} {z z' : Int32} (h : nar t z = z') (f : fits t (.int (nar t z)) = true) : fits t (.int z') = true := h ▸ f
theorem own_fits_ref {t : FieldType} {v : Value} (h : v.isRef = true) (ht : t.isReference = true) : fits t v = true := by
  cases t <;> first | (cases ht; done) | (cases v <;> first | rfl | (cases h; done))
theorem own_eq_long {args : Array Value} {s : State} {t : Term} {n : Int64} (h : (Cond.eq t (.long n)).value args s none s [] = some true) : t.eval args s none [] s = some (.long n) :=
  Cond.eq_long (b := .long n) (Cond.before_iff.mpr h) rfl
theorem own_elem_at {args : Array Value} {s : State} {t : Term} {a : Addr} {cl : Cell} {ty : FieldType} {j : Int32} {v : Value} {k : Nat} (ht : t.eval args s none [] s = some (.ref a)) (A : Arr s s.heap a cl ty) (h : (Term.elem t (.int j)).eval args s none [] s = some v) (hk : j.toNatClampNeg = k) : cl.slots[k]? = some v := by
  subst hk
  exact (elem_in h ht rfl A.1).2
theorem own_len_at {args : Array Value} {s : State} {t : Term} {a : Addr} {cl : Cell} {ty : FieldType} {n : Int32} (ht : t.eval args s none [] s = some (.ref a)) (A : Arr s s.heap a cl ty) (h : (Term.length t).eval args s none [] s = some (.int n)) : cl.slots.size < 2 ^ 31 ∧ cl.slots.size.toInt32 = n := by
  have hA := A.fin (Vm.Alike.refl _)
  by_cases q : cl.slots.size < 2 ^ 31
  · have e := len_f ht hA q
    exact ⟨q, Value.int.inj (Option.some.inj (e.symm.trans h))⟩
  · exfalso
    simp [Term.eval, ht, hA, q] at h
theorem own_eq_ref {args : Array Value} {s : State} {t u : Term} {a : Addr} (h : (Cond.eq t u).value args s none s [] = some true) (hu : u.eval args s none [] s = some (.ref a)) : t.eval args s none [] s = some (.ref a) :=
  Cond.eq_refs (Cond.before_iff.mpr h) hu rfl
theorem own_eq_null {args : Array Value} {s : State} {t : Term} (h : (Cond.eq t .null).value args s none s [] = some true) : t.eval args s none [] s = some .null := null_v h
theorem own_arr_keep {h h' : Heap} {a : Addr} {cl : Cell} {ty : FieldType} {ws : List Addr} (F : Arr Z h a cl ty) (K : Keep h h' ws) (q : a ∉ ws) : Arr Z h' a cl ty := ⟨K.2.1 a cl F.1 q, F.2⟩
theorem own_ib {vm0 : Vm} (h : vm0.interned = Z.vm.interned) : IB Z vm0 [] := ⟨#[], by simp [h], fun q hq => by simp at hq⟩
theorem own_lambda (X : Stand p l e R s m args below meth c T locs cells slots) (hx : p.tables.exec = Jvm.exec) (hZ : Z.Warmed39 s.vm) {x : MethodName} {pc index : Nat} {σ : Lambda.Shape} (hnamed : Z.methodNamed? x = some m) (w : (Cond.lambdaSite x pc index σ).before a0 Z = true) (hcap : σ.captured = [])
    {g : JFrame} (hg : g.method = m) (hpc : g.pc = pc) (hsize : g.locals.size = c.maxLocals) (hd : decode c.code g.pc = .ok (.invokedynamic index, 5)) (hwords : 2 * g.monitorRoom + (g.stack.map fun v => v.category).sum + 3072 ≤ R.locals) :
    ∃ a : Addr, ∀ t, Steps p.tables e below (T.setTop { g with pc := g.pc + 5, stack := .ref a :: g.stack }) t → Steps p.tables e below (T.setTop g) t := by
  obtain ⟨cK, one, hat⟩ := Cond.lambdaSite_spec w
  obtain ⟨mD, kD, cfD, i0, p0, lk, hmD, hkD, -, -, -, hfind, -, -, hl⟩ := State.lambdaAt?_spec hat
  cases hnamed.symm.trans hmD
  obtain ⟨k', hk', he, -⟩ := hZ.2.2.2 _ _ hkD
  have hw : e.platform.lambdaLinkWords = 3072 := by rw [X.admits.platform]
  rcases hl with ⟨a, cell, rfl, -⟩ | ⟨-, -, hne⟩
  · exact ⟨a, fun t k => X.lambdaConstant hx hg hsize hd hk' (by rw [hpc, he]; exact hfind) (by rw [hw]; exact hwords) k⟩
  · exact absurd hcap hne
/-- 'ldcSVL', with what it tells of the tables since just before it -/
theorem own_ldcL {vm0 : Vm} {own text : String} {index : Nat} {Ts : List String} (X : Stand p l e R (s.setVm vm0) m args below meth c T locs cells slots) (hx : p.tables.exec = Jvm.exec) (hZ : Z.Warmed39 (s.setVm vm0).vm) (hown : (s.setVm vm0).vm.findClass own = some m.cls) (w : (Cond.stringLink own index text).before a0 Z = true) (wS : ∀ a ∈ Bundle.stringAtoms, a.before a0 Z = true)
    (eT : T.heap = h) {k0 : Nat} (hS : s.Since vm0 k0) (hk : k0 ≤ h.size) (N : Fr s.heap.size locs) (hkeep : ∀ (b : Addr) (cl : Cell), Z.heap[b]? = some cl → s.heap[b]? = some cl) (I : IB Z vm0 Ts) (hnot : text ∉ Ts) (hh : Jvm.Lit.constHeld Z own index) (hcw : Jvm.Lit.compactW.before a0 Z = true)
    {vs : List Value} {z : Int32} (ht : (∀ c ∈ text.toList, c.toNat < 256) ∧ text.toList.map (fun c => Value.int (Jvm.Lit.byteI c.toNat.toUInt16)) = vs) (hz : ¬ z < 0) (hl : z.toNatClampNeg = vs.length)
    {g : JFrame} (hg : g.method = m) (hd : decode c.code g.pc = .ok (.ldc index, 2)) {n : Nat} (hn : 4 * text.toList.length ≤ n) (hbig : n ≤ 536870912) (hc : cells + 2 ≤ R.cells) (hl' : slots + (n + 4) ≤ R.slots) :
    ∃ (a : Addr) (T' : State) (h' : Heap) (b : Addr) (k : ClassId), Stand p l e R (s.setVm T'.vm) m args below meth c T' locs (cells + 2) (slots + (n + 4)) ∧ T'.heap = h' ∧ Ext h h' ∧ s.Since T'.vm h'.size ∧ (s.setVm vm0).Warmed39 T'.vm ∧ Z.Warmed39 (s.setVm T'.vm).vm ∧ (s.setVm T'.vm).vm.findClass own = some m.cls ∧
      Exa Z h' a "java/lang/String" ∧ Fld Z h' a "java/lang/String" "coder" "B" (.int 0) ∧ Fld Z h' a "java/lang/String" "value" "[B" (.ref b) ∧ Arv Z h' b k .byte z vs (.int 0) ∧ IB Z T'.vm (text :: Ts) ∧ Lit (Z.setVm T'.vm) own index a ∧
      ∀ target, Steps p.tables e below (T'.setTop { g with pc := g.pc + 2, stack := .ref a :: g.stack }) target → Steps p.tables e below (T.setTop g) target := by
  obtain ⟨a, T', h', k1, b, k, r1, r2, r3, r4, r5, r6, r7, r8, r9, r10, r11, -, -, r14, r15, st⟩ := ldcSVL (s := s.setVm vm0) (vm0 := vm0) (k0 := 0) X hx hZ hown w wS eT (State.WarmedH.since (State.WarmedH.refl (s.setVm vm0)) 0) (Nat.zero_le _) N hkeep I hnot hh hcw ht hz hl hg hd hn hbig hc hl'
  exact ⟨a, T', h', b, k, r1, r2, r3, hS.trans ⟨r4.1, r4.2.mono r5⟩ (Nat.le_trans hk r3.1), r4.1, r6, r7, r8, r9, r10, r11, r14, r15, st⟩
theorem own_lit_stays {vm0 vm1 : Vm} {own : String} {index : Nat} {a : Addr} (L : Lit (Z.setVm vm0) own index a) (hW : (s.setVm vm0).Warmed39 vm1) : Lit (Z.setVm vm1) own index a := (Lit.stays (s := s) (vm0 := vm0) (vm1 := vm1) L hW : Lit (s.setVm vm1) own index a)
theorem own_ib_more {vm0 : Vm} {Ts : List String} {t : String} (I : IB Z vm0 Ts) : IB Z vm0 (t :: Ts) := by
  obtain ⟨more, h1, h2⟩ := I
  exact ⟨more, h1, fun q hq => by obtain ⟨u, hu, e⟩ := h2 q hq; exact ⟨u, List.mem_cons_of_mem _ hu, e⟩⟩
theorem own_ib_warm {vm0 : Vm} {Ts : List String} (I : IB Z s.vm Ts) (hW : s.WarmedH vm0) : IB Z vm0 Ts := by
  obtain ⟨more, h1, h2⟩ := I
  exact ⟨more, by rw [hW.interned_eq]; exact h1, h2⟩
end OwnGo
end Jvm.RoadKit
@@BLOCK:HandJ.lean.txt@@
@@BLOCK:SymMore.lean.txt@@
/- laws to paste: Road.backV, Road.lenW, Road.chN, Road.codOf (cut by pick.py; bodies as the Statement names them) -/
namespace Jvm.Pilot.@@N@@
namespace StrChars
open Jvm Sem ClassFile Op Lib Jvm.Stand Jvm.Free.XT Jvm.Free.ALB Jvm.Free.JM Jvm.Free
open Jvm.Lib.Cold (StaticIs)
/-- a char array whose places are chars -/
def Ch (a : Addr) (A : Cell) (U : State) : Prop := Arr .char a A U ∧ Typed .char A
theorem Ch.mv {a : Addr} {A : Cell} {U U' : State} (h : Ch a A U) (hal : U.vm.Alike U'.vm) (hh : U'.heap = U.heap) : Ch a A U' := ⟨h.1.mv hal hh, h.2⟩
theorem Ch.keep {a : Addr} {A : Cell} {U U' : State} (h : Ch a A U) (hal : U.vm.Alike U'.vm) (hk : U'.heap[a]? = some A) : Ch a A U' := ⟨h.1.keep hal hk, h.2⟩
/-- what place i of a char[]'s cell holds -/
def cv (A : Cell) (i : Nat) : Int32 := match A.slots[i]? with | some (.int x) => x | _ => 0
theorem Ch.get {a : Addr} {A : Cell} {U : State} (h : Ch a A U) {i : Nat} (hi : i < A.slots.size) : A.slots[i]? = some (.int (cv A i)) := by
  have e := Array.getElem?_eq_getElem hi
  have f := h.2 i _ e
  unfold cv; rw [e]
  generalize A.slots[i] = v at f
  cases v <;> simp [fits] at f ⊢
/-- the byte that i2b leaves of a char -/
def lo8 (x : Int32) : Int32 := x.toInt8.toInt32
theorem fits_lo8 (y : Int32) : fits .byte (.int (lo8 y)) = true := by
  have h1 := y.toInt8.le_toInt
  have h2 := y.toInt8.toInt_lt
  simp only [lo8, fits, Bool.and_eq_true, decide_eq_true_eq, Int32.le_iff_toInt_le, Int8.toInt_toInt32, show (-128 : Int32).toInt = -128 from by decide, show (127 : Int32).toInt = 127 from by decide]
  omega
/-- A' is A but that each place j of lo .. hi - 1 holds f j -/
def Laid (A A' : Cell) (lo hi : Nat) (f : Nat → Value) : Prop := A'.cls = A.cls ∧ A'.vm = A.vm ∧ A'.slots.size = A.slots.size ∧ ∀ i, A'.slots[i]? = if lo ≤ i ∧ i < hi then some (f i) else A.slots[i]?
theorem Laid.zero (A : Cell) (lo : Nat) (f : Nat → Value) : Laid A A lo (lo + 0) f := ⟨rfl, rfl, rfl, fun i => by rw [if_neg (by omega)]⟩
theorem Laid.step {A Ak : Cell} {lo k : Nat} {f : Nat → Value} {v : Value} (h : Laid A Ak lo k f) (hlo : lo ≤ k) (hk : k < Ak.slots.size) (hv : v = f k) : Laid A (Ak.setSlot k v) lo (k + 1) f := by
  refine ⟨h.1, h.2.1, by simpa [Cell.setSlot] using h.2.2.1, fun i => ?_⟩
  by_cases e : k = i
  · subst e; rw [Cell.slots_setSlot_self v hk, if_pos (by omega), hv]
  · rw [Cell.slots_setSlot_ne v e, h.2.2.2 i]
    by_cases q : lo ≤ i ∧ i < k
    · rw [if_pos q, if_pos (by omega)]
    · rw [if_neg q, if_neg (by omega)]
def U16 : String := "java/lang/StringUTF16"
namespace Cmp5
def yN : MethodName := ⟨"java/lang/StringUTF16", "compress", "([CI[BII)I"⟩
abbrev yB : ByteArray := jdk_52_method_21_code
theorem d0 : decode yB 0 = .ok (.iconst 0, 1) := by decide +kernel
theorem d1 : decode yB 1 = .ok (.istore 5, 2) := by decide +kernel
theorem d3 : decode yB 3 = .ok (.iload 5, 2) := by decide +kernel
theorem d5 : decode yB 5 = .ok (.iload 4, 2) := by decide +kernel
theorem d7 : decode yB 7 = .ok (.if_icmp (.ge) 37, 3) := by decide +kernel
theorem d10 : decode yB 10 = .ok (.aload_n 0, 1) := by decide +kernel
theorem d11 : decode yB 11 = .ok (.iload_n 1, 1) := by decide +kernel
theorem d12 : decode yB 12 = .ok (.caload, 1) := by decide +kernel
theorem d13 : decode yB 13 = .ok (.istore 6, 2) := by decide +kernel
theorem d15 : decode yB 15 = .ok (.iload 6, 2) := by decide +kernel
theorem d17 : decode yB 17 = .ok (.sipush 255, 3) := by decide +kernel
theorem d20 : decode yB 20 = .ok (.if_icmp (.le) 6, 3) := by decide +kernel
theorem d26 : decode yB 26 = .ok (.aload_n 2, 1) := by decide +kernel
theorem d27 : decode yB 27 = .ok (.iload_n 3, 1) := by decide +kernel
theorem d28 : decode yB 28 = .ok (.iload 6, 2) := by decide +kernel
theorem d30 : decode yB 30 = .ok (.i2b, 1) := by decide +kernel
theorem d31 : decode yB 31 = .ok (.bastore, 1) := by decide +kernel
theorem d32 : decode yB 32 = .ok (.iinc 1 1, 3) := by decide +kernel
theorem d35 : decode yB 35 = .ok (.iinc 3 1, 3) := by decide +kernel
theorem d38 : decode yB 38 = .ok (.iinc 5 1, 3) := by decide +kernel
theorem d41 : decode yB 41 = .ok (.goto (-38), 3) := by decide +kernel
theorem d44 : decode yB 44 = .ok (.iload 4, 2) := by decide +kernel
theorem d46 : decode yB 46 = .ok (.ireturn, 1) := by decide +kernel
def site : List Cond := []
def tab : Cond := tabOf yN yB 7 (some .int) site
def P (b : Addr) (A : Cell) (d : Addr) (B : Cell) (o q len : Nat) (args : Array Value) (s : State) : Prop := args = #[.ref b, .int (Int32.ofNat o), .ref d, .int (Int32.ofNat q), .int (Int32.ofNat len)] ∧ Ch b A s ∧ Arr .byte d B s ∧ b ≠ d ∧ o + len ≤ A.slots.size ∧ q + len ≤ B.slots.size ∧ ∀ i, i < len → ¬ 255 < cv A (o + i)
def E (b : Addr) (A : Cell) (d : Addr) (B : Cell) (o q len : Nat) (r : Option Value) (s u : State) : Prop := r = some (.int (Int32.ofNat len)) ∧ ∃ B', Put d B' s u ∧ Laid B B' q (q + len) (fun j => Value.int (lo8 (cv A (o + (j - q)))))
/-- no char of the range above 255: len; the places written hold each char's low byte -/
theorem law (l : Launch) (b : Addr) (A : Cell) (d : Addr) (B : Cell) (o q len : Nat) : Law l yN 5 5 0 0 yB 7 (some .int) site (P b A d B o q len) (E b A d B o q len) (copyLocs d q len) 0 0 := by
  refine Law.of_walk (plainFor_of_name (by decide +kernel)) (by decide +kernel) (by decide +kernel) (by decide) (fun _ _ h => by rw [h.1]; rfl) (fun _ U U' hal hh h => ⟨h.1, h.2.1.mv hal hh, h.2.2.1.mv hal hh, h.2.2.2⟩) (fun r U U' V V' h1 hal h2 h => ⟨h.1, h.2.elim fun B' q => ⟨B', q.1.mv h1 h2, q.2⟩⟩) ?_
  intro p e s m args below meth c s₁ X0 hexec hbytes hml hret hlk hnm hown hh0 W hP
  obtain ⟨rfl, hA, hB, hne, l1, l2, hp⟩ := hP
  have c1 : Steps p.tables e below (s₁.setTop (entryFrame m #[.ref b, .int (Int32.ofNat o), .ref d, .int (Int32.ofNat q), .int (Int32.ofNat len)] 7)) (s₁.setTop (mkF m 0 #[.val (.ref b), .val (.int (Int32.ofNat o)), .val (.ref d), .val (.int (Int32.ofNat q)), .val (.int (Int32.ofNat len)), .unset, .unset] [])) := entry rfl
  have hA0 := hA.1.mv X0.warmed.alike hh0
  have hB0 := hB.mv X0.warmed.alike hh0
  have a31 := hA.1.2.2.2
  have c2 : Steps p.tables e below (s₁.setTop (entryFrame m #[.ref b, .int (Int32.ofNat o), .ref d, .int (Int32.ofNat q), .int (Int32.ofNat len)] 7)) (s₁.setTop (mkF m 3 #[.val (.ref b), .val (.int (Int32.ofNat o)), .val (.ref d), .val (.int (Int32.ofNat q)), .val (.int (Int32.ofNat len)), .val (.int 0), .unset] [])) := c1.trans (by
    refine iconstV X0.here hexec rfl 0 (hb hbytes d0) (by decide) ?_
    refine XS.istore X0.here hexec rfl (hb hbytes d1) rfl rfl ?_
    exact Steps.refl _)
  have loop : ∀ (r i : Nat), i + r = len → ∀ (z : Slot), (z = .unset ∨ ∃ w, z = .val w ∧ w.category = 1) → ∀ (Tl : State) (Bk : Cell), Stand p l e { frames := 0, locals := 0, cells := 0, slots := 0 } s m #[.ref b, .int (Int32.ofNat o), .ref d, .int (Int32.ofNat q), .int (Int32.ofNat len)] below meth c Tl ([] ++ copyLocs d q i) 0 0 → Put d Bk s₁ Tl → Laid B Bk q (q + i) (fun j => Value.int (lo8 (cv A (o + (j - q))))) →
      Steps p.tables e below (s₁.setTop (entryFrame m #[.ref b, .int (Int32.ofNat o), .ref d, .int (Int32.ofNat q), .int (Int32.ofNat len)] 7)) (Tl.setTop (mkF m 3 #[.val (.ref b), .val (.int (Int32.ofNat (o + i))), .val (.ref d), .val (.int (Int32.ofNat (q + i))), .val (.int (Int32.ofNat len)), .val (.int (Int32.ofNat i)), z] [])) → ∃ (T' : State) (B' : Cell) (z' : Slot), Stand p l e { frames := 0, locals := 0, cells := 0, slots := 0 } s m #[.ref b, .int (Int32.ofNat o), .ref d, .int (Int32.ofNat q), .int (Int32.ofNat len)] below meth c T' ([] ++ copyLocs d q len) 0 0 ∧ Put d B' s₁ T' ∧ Laid B B' q (q + len) (fun j => Value.int (lo8 (cv A (o + (j - q))))) ∧
      Steps p.tables e below (s₁.setTop (entryFrame m #[.ref b, .int (Int32.ofNat o), .ref d, .int (Int32.ofNat q), .int (Int32.ofNat len)] 7)) (T'.setTop (mkF m 3 #[.val (.ref b), .val (.int (Int32.ofNat (o + len))), .val (.ref d), .val (.int (Int32.ofNat (q + len))), .val (.int (Int32.ofNat len)), .val (.int (Int32.ofNat len)), z'] [])) := by
    intro r
    induction r with
    | zero =>
      intro i hi z hz Tl Bk Xl pl fl cl
      have hil : i = len := by omega
      rw [hil] at Xl fl cl
      exact ⟨Tl, Bk, z, Xl, pl, fl, cl⟩
    | succ r ih =>
      intro i hi z hz Tl Bk Xl pl fl cl
      have all := X0.warmed.alike.symm.trans Xl.warmed.alike
      have hAl := hA0.keep all (pl.other hne hA0.1)
      have hBk := hB0.like all pl.1 fl.1 fl.2.1 fl.2.2.1
      have hlt : q + i < Bk.slots.size := by rw [fl.2.2.1]; omega
      have c3 : Steps p.tables e below (s₁.setTop (entryFrame m #[.ref b, .int (Int32.ofNat o), .ref d, .int (Int32.ofNat q), .int (Int32.ofNat len)] 7)) (Tl.setTop (mkF m 12 #[.val (.ref b), .val (.int (Int32.ofNat (o + i))), .val (.ref d), .val (.int (Int32.ofNat (q + i))), .val (.int (Int32.ofNat len)), .val (.int (Int32.ofNat i)), z] [.int (Int32.ofNat (o + i)), .ref b])) := cl.trans (by
        refine XS.iload Xl.here hexec rfl (hb hbytes d3) rfl ?_
        refine XS.iload Xl.here hexec rfl (hb hbytes d5) rfl ?_
        refine XS.icmpNo Xl.here hexec rfl (hb hbytes d7) rfl (ii_ge_f (lt32 (by omega) (by omega))) ?_
        refine XS.aloadN Xl.here hexec rfl (hb hbytes d10) rfl rfl ?_
        refine XS.iloadN Xl.here hexec rfl (hb hbytes d11) rfl ?_
        exact Steps.refl _)
      have c4 : Steps p.tables e below (s₁.setTop (entryFrame m #[.ref b, .int (Int32.ofNat o), .ref d, .int (Int32.ofNat q), .int (Int32.ofNat len)] 7)) (Tl.setTop (mkF m 13 #[.val (.ref b), .val (.int (Int32.ofNat (o + i))), .val (.ref d), .val (.int (Int32.ofNat (q + i))), .val (.int (Int32.ofNat len)), .val (.int (Int32.ofNat i)), z] [.int (cv A (o + i))])) := c3.trans (by
        refine Xl.aget hexec hAl rfl (hA.get (i := o + i) (by omega)) rfl rfl (hb hbytes d12) ?_
        exact Steps.refl _)
      have c5 : Steps p.tables e below (s₁.setTop (entryFrame m #[.ref b, .int (Int32.ofNat o), .ref d, .int (Int32.ofNat q), .int (Int32.ofNat len)] 7)) (Tl.setTop (mkF m 15 #[.val (.ref b), .val (.int (Int32.ofNat (o + i))), .val (.ref d), .val (.int (Int32.ofNat (q + i))), .val (.int (Int32.ofNat len)), .val (.int (Int32.ofNat i)), .val (.int (cv A (o + i)))] [])) := c4.trans (by
        refine XS.istoreS Xl.here hexec rfl (hb hbytes d13) rfl rfl hz ?_
        exact Steps.refl _)
      have c6 : Steps p.tables e below (s₁.setTop (entryFrame m #[.ref b, .int (Int32.ofNat o), .ref d, .int (Int32.ofNat q), .int (Int32.ofNat len)] 7)) (Tl.setTop (mkF m 31 #[.val (.ref b), .val (.int (Int32.ofNat (o + i))), .val (.ref d), .val (.int (Int32.ofNat (q + i))), .val (.int (Int32.ofNat len)), .val (.int (Int32.ofNat i)), .val (.int (cv A (o + i)))] [.int (lo8 (cv A (o + i))), .int (Int32.ofNat (q + i)), .ref d])) := c5.trans (by
        refine XS.iload Xl.here hexec rfl (hb hbytes d15) rfl ?_
        refine sipushV Xl.here hexec rfl 255 (hb hbytes d17) (by decide) ?_
        refine XS.icmpYes Xl.here hexec rfl (pc0 := 20) rfl (hb hbytes d20) rfl (ii_le_t (hp i (by omega))) (by decide) rfl ?_
        refine XS.aloadN Xl.here hexec rfl (hb hbytes d26) rfl rfl ?_
        refine XS.iloadN Xl.here hexec rfl (hb hbytes d27) rfl ?_
        refine XS.iload Xl.here hexec rfl (hb hbytes d28) rfl ?_
        refine i2b Xl.here hexec rfl (hb hbytes d30) rfl ?_
        exact Steps.refl _)
      obtain ⟨T7, X7, p7, st7⟩ := Xl.aput hexec hBk rfl hlt rfl (fits_lo8 (cv A (o + i))) (g := (mkF m 31 #[.val (.ref b), .val (.int (Int32.ofNat (o + i))), .val (.ref d), .val (.int (Int32.ofNat (q + i))), .val (.int (Int32.ofNat len)), .val (.int (Int32.ofNat i)), .val (.int (cv A (o + i)))] [.int (lo8 (cv A (o + i))), .int (Int32.ofNat (q + i)), .ref d])) rfl (rest := []) rfl (hb hbytes d31)
      have c8 : Steps p.tables e below (s₁.setTop (entryFrame m #[.ref b, .int (Int32.ofNat o), .ref d, .int (Int32.ofNat q), .int (Int32.ofNat len)] 7)) (T7.setTop (mkF m 32 #[.val (.ref b), .val (.int (Int32.ofNat (o + i))), .val (.ref d), .val (.int (Int32.ofNat (q + i))), .val (.int (Int32.ofNat len)), .val (.int (Int32.ofNat i)), .val (.int (cv A (o + i)))] [])) := c6.trans (st7 _ (Steps.refl _))
      have c9 : Steps p.tables e below (s₁.setTop (entryFrame m #[.ref b, .int (Int32.ofNat o), .ref d, .int (Int32.ofNat q), .int (Int32.ofNat len)] 7)) (T7.setTop (mkF m 3 #[.val (.ref b), .val (.int (Int32.ofNat (o + i) + 1)), .val (.ref d), .val (.int (Int32.ofNat (q + i) + 1)), .val (.int (Int32.ofNat len)), .val (.int (Int32.ofNat i + 1)), .val (.int (cv A (o + i)))] [])) := c8.trans (by
        refine iincV X7.here hexec rfl 1 (hb hbytes d32) (by decide) rfl rfl ?_
        refine iincV X7.here hexec rfl 1 (hb hbytes d35) (by decide) rfl rfl ?_
        refine iincV X7.here hexec rfl 1 (hb hbytes d38) (by decide) rfl rfl ?_
        refine XS.goto X7.here hexec rfl (pc0 := 41) rfl (hb hbytes d41) (by decide) rfl ?_
        exact Steps.refl _)
      have c10 : Steps p.tables e below (s₁.setTop (entryFrame m #[.ref b, .int (Int32.ofNat o), .ref d, .int (Int32.ofNat q), .int (Int32.ofNat len)] 7)) (T7.setTop (mkF m 3 #[.val (.ref b), .val (.int (Int32.ofNat (o + (i + 1)))), .val (.ref d), .val (.int (Int32.ofNat (q + (i + 1)))), .val (.int (Int32.ofNat len)), .val (.int (Int32.ofNat (i + 1))), .val (.int (cv A (o + i)))] [])) := by
        have := c9
        rw [succ32, succ32, succ32] at this
        exact this
      exact ih (i + 1) (by omega) _ (Or.inr ⟨_, rfl, rfl⟩) T7 _ (by rw [copyLocs_step, ← List.append_assoc]; exact X7) (pl.trans p7) (fl.step (by omega) hlt (by simp)) c10
  obtain ⟨T9, B9, z9, X9, p9, f9, g9⟩ := loop len 0 (by omega) .unset (Or.inl rfl) s₁ B (by simpa [copyLocs] using X0) ⟨hB0.1, fun _ _ => rfl, rfl⟩ (Laid.zero _ _ _) c2
  have c11 : Steps p.tables e below (s₁.setTop (entryFrame m #[.ref b, .int (Int32.ofNat o), .ref d, .int (Int32.ofNat q), .int (Int32.ofNat len)] 7)) (T9.setTop (mkF m 46 #[.val (.ref b), .val (.int (Int32.ofNat (o + len))), .val (.ref d), .val (.int (Int32.ofNat (q + len))), .val (.int (Int32.ofNat len)), .val (.int (Int32.ofNat len)), z9] [.int (Int32.ofNat len)])) := g9.trans (by
    refine XS.iload X9.here hexec rfl (hb hbytes d3) rfl ?_
    refine XS.iload X9.here hexec rfl (hb hbytes d5) rfl ?_
    refine XS.icmpYes X9.here hexec rfl (pc0 := 7) rfl (hb hbytes d7) rfl (ii_ge_t (nlt32 (by omega) (Nat.le_refl _))) (by decide) rfl ?_
    refine XS.iload X9.here hexec rfl (hb hbytes d44) rfl ?_
    exact Steps.refl _)
  exact ⟨T9, some (.int (Int32.ofNat len)), _, _, _, X9, by simp, rfl, rfl, (fun h => by cases h), ⟨rfl, B9, p9.from hh0, f9⟩, fun fs hl => c11.trans (X9.ireturnOut hexec hret rfl (Or.inl rfl) (hb hbytes d46) hl)⟩
end Cmp5
namespace Cmp3
def yN : MethodName := ⟨"java/lang/StringUTF16", "compress", "([CII)[B"⟩
abbrev yB : ByteArray := jdk_52_method_16_code
theorem d0 : decode yB 0 = .ok (.iload_n 2, 1) := by decide +kernel
theorem d1 : decode yB 1 = .ok (.newarray .byte, 2) := by decide +kernel
theorem d3 : decode yB 3 = .ok (.astore_n 3, 1) := by decide +kernel
theorem d4 : decode yB 4 = .ok (.aload_n 0, 1) := by decide +kernel
theorem d5 : decode yB 5 = .ok (.iload_n 1, 1) := by decide +kernel
theorem d6 : decode yB 6 = .ok (.aload_n 3, 1) := by decide +kernel
theorem d7 : decode yB 7 = .ok (.iconst 0, 1) := by decide +kernel
theorem d8 : decode yB 8 = .ok (.iload_n 2, 1) := by decide +kernel
theorem d9 : decode yB 9 = .ok (.invokestatic 115, 3) := by decide +kernel
theorem d12 : decode yB 12 = .ok (.istore 4, 2) := by decide +kernel
theorem d14 : decode yB 14 = .ok (.iload 4, 2) := by decide +kernel
theorem d16 : decode yB 16 = .ok (.iload_n 2, 1) := by decide +kernel
theorem d17 : decode yB 17 = .ok (.if_icmp (.eq) 40, 3) := by decide +kernel
theorem d57 : decode yB 57 = .ok (.aload_n 3, 1) := by decide +kernel
theorem d58 : decode yB 58 = .ok (.areturn, 1) := by decide +kernel
def site : List Cond := [.arrayClass .byte, Cmp5.tab] ++ staticW U16 115 Cmp5.yN
def tab : Cond := tabOf yN yB 6 (some (.array .byte)) site
def P (b : Addr) (A : Cell) (o len : Nat) (args : Array Value) (s : State) : Prop := args = #[.ref b, .int (Int32.ofNat o), .int (Int32.ofNat len)] ∧ Ch b A s ∧ o + len ≤ A.slots.size ∧ len ≤ 536870912 ∧ ∀ i, i < len → ¬ 255 < cv A (o + i)
def E (b : Addr) (A : Cell) (o len : Nat) (r : Option Value) (s u : State) : Prop := NewArr .byte "[B" len (fun j => .int (lo8 (cv A (o + j)))) r s u ∧ u.heap.size = s.heap.size + 1
/-- no char of the range above 255: a new byte[] of their low bytes -/
theorem law (l : Launch) (b : Addr) (A : Cell) (o len : Nat) : Law l yN 3 3 1 18 yB 6 (some (.array .byte)) site (P b A o len) (E b A o len) [] 1 len := by
  refine Law.of_walk (plainFor_of_name (by decide +kernel)) (by decide +kernel) (by decide +kernel) (by decide) (fun _ _ h => by rw [h.1]; rfl) (fun _ U U' hal hh h => ⟨h.1, h.2.1.mv hal hh, h.2.2⟩) (fun r U U' V V' h1 hal h2 h => ⟨NewArr.mv r U U' V V' h1 hal h2 h.1, by rw [h1, h2]; exact h.2⟩) ?_
  intro p e s m args below meth c s₁ X0 hexec hbytes hml hret hlk hnm hown hh0 W hP
  obtain ⟨rfl, hA, l1, l2, hp⟩ := hP
  have a31 := hA.1.2.2.2
  have c1 : Steps p.tables e below (s₁.setTop (entryFrame m #[.ref b, .int (Int32.ofNat o), .int (Int32.ofNat len)] 6)) (s₁.setTop (mkF m 0 #[.val (.ref b), .val (.int (Int32.ofNat o)), .val (.int (Int32.ofNat len)), .unset, .unset, .unset] [])) := entry rfl
  have c2 : Steps p.tables e below (s₁.setTop (entryFrame m #[.ref b, .int (Int32.ofNat o), .int (Int32.ofNat len)] 6)) (s₁.setTop (mkF m 1 #[.val (.ref b), .val (.int (Int32.ofNat o)), .val (.int (Int32.ofNat len)), .unset, .unset, .unset] [.int (Int32.ofNat len)])) := c1.trans (by
    refine XS.iloadN X0.here hexec rfl (hb hbytes d0) rfl ?_
    exact Steps.refl _)
  obtain ⟨T3, B3, X3, ba3, bs3, bv3, bh3, bf3, st3⟩ := X0.anew hexec (atype := .byte) (wk W (.arrayClass .byte)) rfl (by show len * 1 ≤ _; omega) (by omega) (g := (mkF m 1 #[.val (.ref b), .val (.int (Int32.ofNat o)), .val (.int (Int32.ofNat len)), .unset, .unset, .unset] [.int (Int32.ofNat len)])) rfl (hb hbytes d1) (rest := []) rfl (Nat.le_refl _) (by show 0 + len ≤ len; omega)
  rw [hh0] at ba3 st3
  have kp3 : XT.Kept s T3 := (XT.Kept.of_eq hh0).push bh3
  have hA3 := hA.keep X3.warmed.alike (kp3 _ _ hA.1.1)
  have hne : b ≠ s.heap.size := hA.1.ne
  have c4 : Steps p.tables e below (s₁.setTop (entryFrame m #[.ref b, .int (Int32.ofNat o), .int (Int32.ofNat len)] 6)) (T3.setTop (mkF m 3 #[.val (.ref b), .val (.int (Int32.ofNat o)), .val (.int (Int32.ofNat len)), .unset, .unset, .unset] [.ref s.heap.size])) := c2.trans (st3 _ (Steps.refl _))
  have c5 : Steps p.tables e below (s₁.setTop (entryFrame m #[.ref b, .int (Int32.ofNat o), .int (Int32.ofNat len)] 6)) (T3.setTop (mkF m 9 #[.val (.ref b), .val (.int (Int32.ofNat o)), .val (.int (Int32.ofNat len)), .val (.ref s.heap.size), .unset, .unset] [.int (Int32.ofNat len), .int 0, .ref s.heap.size, .int (Int32.ofNat o), .ref b])) := c4.trans (by
    refine XS.astoreN X3.here hexec rfl (hb hbytes d3) rfl rfl rfl ?_
    refine XS.aloadN X3.here hexec rfl (hb hbytes d4) rfl rfl ?_
    refine XS.iloadN X3.here hexec rfl (hb hbytes d5) rfl ?_
    refine XS.aloadN X3.here hexec rfl (hb hbytes d6) rfl rfl ?_
    refine iconstV X3.here hexec rfl 0 (hb hbytes d7) (by decide) ?_
    refine XS.iloadN X3.here hexec rfl (hb hbytes d8) rfl ?_
    exact Steps.refl _)
  obtain ⟨v6, T6, X6, E6, g6⟩ := X3.callS hexec (Cmp5.law l b A s.heap.size B3 o 0 len) hown (wks W (staticW U16 115 Cmp5.yN)) (wk W Cmp5.tab) (W := 0) (Nat.le_of_ble_eq_true rfl) (Nat.le_of_ble_eq_true rfl) (Nat.le_refl _) (by show 0 + len + 0 ≤ len; omega) (g := (mkF m 9 #[.val (.ref b), .val (.int (Int32.ofNat o)), .val (.int (Int32.ofNat len)), .val (.ref s.heap.size), .unset, .unset] [.int (Int32.ofNat len), .int (Int32.ofNat 0), .ref s.heap.size, .int (Int32.ofNat o), .ref b])) rfl (by rw [hml]; rfl) c5 (argsL := [.ref b, .int (Int32.ofNat o), .ref s.heap.size, .int (Int32.ofNat 0), .int (Int32.ofNat len)]) (rest := []) rfl rfl (by show 2 * 0 + 0 ≤ _; decide) (hb hbytes d9) (⟨rfl, hA3, ba3, hne, l1, by rw [bs3]; simp, hp⟩)
  obtain ⟨rfl, B6, p6, f6⟩ := E6
  have c7 : Steps p.tables e below (s₁.setTop (entryFrame m #[.ref b, .int (Int32.ofNat o), .int (Int32.ofNat len)] 6)) (T6.setTop (mkF m 12 #[.val (.ref b), .val (.int (Int32.ofNat o)), .val (.int (Int32.ofNat len)), .val (.ref s.heap.size), .unset, .unset] [.int (Int32.ofNat len)])) := g6
  have c8 : Steps p.tables e below (s₁.setTop (entryFrame m #[.ref b, .int (Int32.ofNat o), .int (Int32.ofNat len)] 6)) (T6.setTop (mkF m 58 #[.val (.ref b), .val (.int (Int32.ofNat o)), .val (.int (Int32.ofNat len)), .val (.ref s.heap.size), .val (.int (Int32.ofNat len)), .unset] [.ref s.heap.size])) := c7.trans (by
    refine XS.istore X6.here hexec rfl (hb hbytes d12) rfl rfl ?_
    refine XS.iload X6.here hexec rfl (hb hbytes d14) rfl ?_
    refine XS.iloadN X6.here hexec rfl (hb hbytes d16) rfl ?_
    refine XS.icmpYes X6.here hexec rfl (pc0 := 17) rfl (hb hbytes d17) rfl (ii_eq_t rfl) (by decide) rfl ?_
    refine XS.aloadN X6.here hexec rfl (hb hbytes d57) rfl rfl ?_
    exact Steps.refl _)
  have X8 := X6.wide (L' := []) (cells' := 1) (slots' := len) (fun x hx hlt => by
    simp only [List.nil_append, copyLocs, List.mem_map, List.mem_range] at hx
    obtain ⟨i, -, rfl⟩ := hx
    exact absurd hlt (Nat.lt_irrefl _)) (Nat.le_refl _) (by omega)
  exact ⟨T6, some (.ref s.heap.size), _, _, _, X8, rfl, rfl, rfl, (fun h => by cases h), ⟨⟨rfl, B6, ba3.like (X3.warmed.alike.symm.trans X6.warmed.alike) p6.1 f6.1 f6.2.1 f6.2.2.1, f6.2.1.trans bv3, by rw [X6.warmed.alike.findClass, f6.1]; exact bf3, by rw [f6.2.2.1, bs3]; simp, fun j hj => by rw [f6.2.2.2 j, if_pos (by omega)]; rfl, kp3.put p6 (Nat.le_refl _)⟩, by rw [p6.2.2, bh3, hh0]; simp⟩, fun fs hl => c8.trans (X8.areturnOut hexec rfl hret rfl (hb hbytes d58) hl)⟩
end Cmp3
namespace CodL
def yN : MethodName := ⟨"java/lang/StringUTF16", "coderFromArrayLen", "([BI)B"⟩
abbrev yB : ByteArray := jdk_52_method_15_code
theorem d0 : decode yB 0 = .ok (.iload_n 1, 1) := by decide +kernel
theorem d1 : decode yB 1 = .ok (.aload_n 0, 1) := by decide +kernel
theorem d2 : decode yB 2 = .ok (.arraylength, 1) := by decide +kernel
theorem d3 : decode yB 3 = .ok (.isub, 1) := by decide +kernel
theorem d4 : decode yB 4 = .ok (.bipush 31, 2) := by decide +kernel
theorem d6 : decode yB 6 = .ok (.iushr, 1) := by decide +kernel
theorem d7 : decode yB 7 = .ok (.i2b, 1) := by decide +kernel
theorem d8 : decode yB 8 = .ok (.ireturn, 1) := by decide +kernel
def site : List Cond := []
def tab : Cond := tabOf yN yB 2 (some .byte) site
def P (d : Addr) (B : Cell) (args : Array Value) (s : State) : Prop := args = #[.ref d, .int (Int32.ofNat B.slots.size)] ∧ Arr .byte d B s
def E (r : Option Value) (s u : State) : Prop := XT.PureE (some (.int 0)) r s u
/-- an array as long as the number of chars: LATIN1 -/
theorem law (l : Launch) (d : Addr) (B : Cell) : Law l yN 2 2 0 0 yB 2 (some .byte) site (P d B) E [] 0 0 := by
  refine Law.of_walk (plainFor_of_name (by decide +kernel)) (by decide +kernel) (by decide +kernel) (by decide) (fun _ _ h => by rw [h.1]; rfl) (fun _ U U' hal hh h => ⟨h.1, h.2.mv hal hh⟩) (fun r U U' V V' h1 hal h2 h => XT.PureE.mv r U U' V V' h1 hal h2 h) ?_
  intro p e s m args below meth c s₁ X0 hexec hbytes hml hret hlk hnm hown hh0 W hP
  obtain ⟨rfl, hB⟩ := hP
  have hB0 := hB.mv X0.warmed.alike hh0
  have c1 : Steps p.tables e below (s₁.setTop (entryFrame m #[.ref d, .int (Int32.ofNat B.slots.size)] 2)) (s₁.setTop (mkF m 0 #[.val (.ref d), .val (.int (Int32.ofNat B.slots.size))] [])) := entry rfl
  have c2 : Steps p.tables e below (s₁.setTop (entryFrame m #[.ref d, .int (Int32.ofNat B.slots.size)] 2)) (s₁.setTop (mkF m 2 #[.val (.ref d), .val (.int (Int32.ofNat B.slots.size))] [.ref d, .int (Int32.ofNat B.slots.size)])) := c1.trans (by
    refine XS.iloadN X0.here hexec rfl (hb hbytes d0) rfl ?_
    refine XS.aloadN X0.here hexec rfl (hb hbytes d1) rfl rfl ?_
    exact Steps.refl _)
  have c3 : Steps p.tables e below (s₁.setTop (entryFrame m #[.ref d, .int (Int32.ofNat B.slots.size)] 2)) (s₁.setTop (mkF m 8 #[.val (.ref d), .val (.int (Int32.ofNat B.slots.size))] [.int (lo8 (ushr (Int32.ofNat B.slots.size - Int32.ofNat B.slots.size) 31))])) := c2.trans (by
    refine X0.alen hexec hB0 rfl rfl (hb hbytes d2) ?_
    refine XS.isub X0.here hexec rfl (hb hbytes d3) rfl ?_
    refine bipushV X0.here hexec rfl 31 (hb hbytes d4) (by decide) ?_
    refine iushr X0.here hexec rfl (hb hbytes d6) rfl ?_
    refine i2b X0.here hexec rfl (hb hbytes d7) rfl ?_
    exact Steps.refl _)
  have e0 : lo8 (ushr (Int32.ofNat B.slots.size - Int32.ofNat B.slots.size) 31) = 0 := by rw [Int32.sub_self]; decide
  rw [e0] at c3
  exact ⟨s₁, some (.int 0), _, _, _, X0, rfl, rfl, rfl, (fun h => by cases h), ⟨rfl, hh0⟩, fun fs hl => c3.trans (X0.ireturnOut hexec hret rfl (Or.inr (Or.inr (Or.inl rfl))) (hb hbytes d8) hl)⟩
end CodL
/-- the String at a is Latin-1 over a new byte[] (the heap's one new cell): the low bytes of the len chars of A from o on; every cell but a is kept -/
def Got (a : Addr) (D : Cell) (fV fC : Field) (A : Cell) (o len : Nat) (r : Option Value) (s u : State) : Prop := r = none ∧ ∃ D' V : Cell, Blank "java/lang/String" a D' u ∧ Same D D' [fV.slot, fC.slot] ∧ D'.slots[fV.slot]? = some (.ref s.heap.size) ∧ D'.slots[fC.slot]? = some (.int 0) ∧ Arr .byte s.heap.size V u ∧ V.vm = .none ∧ u.vm.findClass "[B" = some V.cls ∧ V.slots.size = len ∧ (∀ j, j < len → V.slots[j]? = some (.int (lo8 (cv A (o + j))))) ∧ (∀ (y : Addr) (c : Cell), y ≠ a → s.heap[y]? = some c → u.heap[y]? = some c) ∧ u.heap.size = s.heap.size + 1
theorem Got.mv {a : Addr} {D A : Cell} {fV fC : Field} {o len : Nat} : ∀ r (U U' V V' : State), U'.heap = U.heap → V.vm.Alike V'.vm → V'.heap = V.heap → Got a D fV fC A o len r U V → Got a D fV fC A o len r U' V' :=
  fun r U U' V V' h1 hal h2 ⟨e0, D', X, a1, a2, a3, a4, a5, a6, a7, a8, a9, a10, a11⟩ => ⟨e0, D', X, a1.mv hal h2, a2, by rw [h1]; exact a3, a4, by rw [h1]; exact a5.mv hal h2, a6, by rw [hal.findClass]; exact a7, a8, a9, by rw [h1, h2]; exact a10, by rw [h1, h2]; exact a11⟩
namespace New4
def yN : MethodName := ⟨"java/lang/String", "<init>", "([CIILjava/lang/Void;)V"⟩
abbrev yB : ByteArray := jdk_42_method_149_code
theorem d0 : decode yB 0 = .ok (.aload_n 0, 1) := by decide +kernel
theorem d1 : decode yB 1 = .ok (.invokespecial 1, 3) := by decide +kernel
theorem d4 : decode yB 4 = .ok (.iload_n 3, 1) := by decide +kernel
theorem d5 : decode yB 5 = .ok (.ifCond (.ne) 22, 3) := by decide +kernel
theorem d27 : decode yB 27 = .ok (.getstatic 38, 3) := by decide +kernel
theorem d30 : decode yB 30 = .ok (.ifCond (.eq) 28, 3) := by decide +kernel
theorem d33 : decode yB 33 = .ok (.aload_n 1, 1) := by decide +kernel
theorem d34 : decode yB 34 = .ok (.iload_n 2, 1) := by decide +kernel
theorem d35 : decode yB 35 = .ok (.iload_n 3, 1) := by decide +kernel
theorem d36 : decode yB 36 = .ok (.invokestatic 177, 3) := by decide +kernel
theorem d39 : decode yB 39 = .ok (.astore 5, 2) := by decide +kernel
theorem d41 : decode yB 41 = .ok (.aload_n 0, 1) := by decide +kernel
theorem d42 : decode yB 42 = .ok (.aload 5, 2) := by decide +kernel
theorem d44 : decode yB 44 = .ok (.iload_n 3, 1) := by decide +kernel
theorem d45 : decode yB 45 = .ok (.invokestatic 47, 3) := by decide +kernel
theorem d48 : decode yB 48 = .ok (.putfield 15, 3) := by decide +kernel
theorem d51 : decode yB 51 = .ok (.aload_n 0, 1) := by decide +kernel
theorem d52 : decode yB 52 = .ok (.aload 5, 2) := by decide +kernel
theorem d54 : decode yB 54 = .ok (.putfield 9, 3) := by decide +kernel
theorem d57 : decode yB 57 = .ok (.return_, 1) := by decide +kernel
def site : List Cond := [.fieldLink "java/lang/String" 38 "java/lang/String" "COMPACT_STRINGS" "Z", Cmp3.tab, CodL.tab, .laysFinal "java/lang/String" "java/lang/String" "value" "[B", .fieldLink "java/lang/String" 9 "java/lang/String" "value" "[B", .laysFinal "java/lang/String" "java/lang/String" "coder" "B", .fieldLink "java/lang/String" 15 "java/lang/String" "coder" "B"] ++ objW "java/lang/String" 1 ++ staticW "java/lang/String" 177 Cmp3.yN ++ staticW "java/lang/String" 47 CodL.yN
def tab : Cond := tabOf yN yB 6 none site
def P (a : Addr) (D : Cell) (fV fC : Field) (b : Addr) (A : Cell) (z : Int32) (o len : Nat) (args : Array Value) (s : State) : Prop := args = #[.ref a, .ref b, .int (Int32.ofNat o), .int (Int32.ofNat len), .null] ∧ Blank "java/lang/String" a D s ∧ Found "java/lang/String" "value" "[B" fV s ∧ Found "java/lang/String" "coder" "B" fC s ∧ Ch b A s ∧ StaticIs s "java/lang/String" "COMPACT_STRINGS" "Z" (.int z) ∧ ¬ z = 0 ∧ 0 < len ∧ o + len ≤ A.slots.size ∧ len ≤ 536870912 ∧ ∀ i, i < len → ¬ 255 < cv A (o + i)
def E (a : Addr) (D : Cell) (fV fC : Field) (A : Cell) (o len : Nat) (r : Option Value) (s u : State) : Prop := Got a D fV fC A o len r s u
/-- len > 0, no char of the range above 255: a Latin-1 String of their low bytes -/
theorem law (l : Launch) (a : Addr) (D : Cell) (fV fC : Field) (b : Addr) (A : Cell) (z : Int32) (o len : Nat) : Law l yN 5 4 2 35 yB 6 none site (P a D fV fC b A z o len) (E a D fV fC A o len) [⟨a, fC.slot⟩, ⟨a, fV.slot⟩] 1 len := by
  refine Law.of_walk (plainFor_of_name (by decide +kernel)) (by decide +kernel) (by decide +kernel) (by decide) (fun _ _ h => by rw [h.1]; rfl) (fun _ U U' hal hh h => ⟨h.1, h.2.1.mv hal hh, h.2.2.1.al hal, h.2.2.2.1.al hal, h.2.2.2.2.1.mv hal hh, h.2.2.2.2.2.1.there hal hh, h.2.2.2.2.2.2⟩) (fun r U U' V V' h1 hal h2 h => Got.mv r U U' V V' h1 hal h2 h) ?_
  intro p e s m args below meth c s₁ X0 hexec hbytes hml hret hlk hnm hown hh0 W hP
  obtain ⟨rfl, hB, f1, f2, hA, s1, hz, l0, l1, l2, hp⟩ := hP
  have a31 := hA.1.2.2.2
  have c1 : Steps p.tables e below (s₁.setTop (entryFrame m #[.ref a, .ref b, .int (Int32.ofNat o), .int (Int32.ofNat len), .null] 6)) (s₁.setTop (mkF m 0 #[.val (.ref a), .val (.ref b), .val (.int (Int32.ofNat o)), .val (.int (Int32.ofNat len)), .val .null, .unset] [])) := entry rfl
  have c2 : Steps p.tables e below (s₁.setTop (entryFrame m #[.ref a, .ref b, .int (Int32.ofNat o), .int (Int32.ofNat len), .null] 6)) (s₁.setTop (mkF m 1 #[.val (.ref a), .val (.ref b), .val (.int (Int32.ofNat o)), .val (.int (Int32.ofNat len)), .val .null, .unset] [.ref a])) := c1.trans (by
    refine XS.aloadN X0.here hexec rfl (hb hbytes d0) rfl rfl ?_
    exact Steps.refl _)
  obtain ⟨T3, X3, q3, st3⟩ := X0.oinit hexec hown (wks W (objW "java/lang/String" 1)) (g := (mkF m 1 #[.val (.ref a), .val (.ref b), .val (.int (Int32.ofNat o)), .val (.int (Int32.ofNat len)), .val .null, .unset] [.ref a])) rfl (by rw [hml]; rfl) (rest := []) rfl (hb hbytes d1) (W := 0) (by show 2 * 0 + 0 ≤ _; decide) (Nat.le_of_ble_eq_true rfl) (Nat.le_of_ble_eq_true rfl)
  have hh3 := q3.trans hh0
  have c4 : Steps p.tables e below (s₁.setTop (entryFrame m #[.ref a, .ref b, .int (Int32.ofNat o), .int (Int32.ofNat len), .null] 6)) (T3.setTop (mkF m 27 #[.val (.ref a), .val (.ref b), .val (.int (Int32.ofNat o)), .val (.int (Int32.ofNat len)), .val .null, .unset] [])) := (c2.trans (st3 _ (Steps.refl _))).trans (by
    refine XS.iloadN X3.here hexec rfl (hb hbytes d4) rfl ?_
    refine XS.ifYes X3.here hexec rfl (pc0 := 5) rfl (hb hbytes d5) rfl (i0_ne_t (nz32 (by omega) l0)) (by decide) rfl ?_
    exact Steps.refl _)
  obtain ⟨T5, X5, q5, st5⟩ := X3.sget hexec hown (wk W (.fieldLink "java/lang/String" 38 "java/lang/String" "COMPACT_STRINGS" "Z")) s1 (fun _ _ h => by rw [hh3]; exact h) (g := (mkF m 27 #[.val (.ref a), .val (.ref b), .val (.int (Int32.ofNat o)), .val (.int (Int32.ofNat len)), .val .null, .unset] [])) rfl (hb hbytes d27)
  have hh5 := q5.trans hh3
  have c6 : Steps p.tables e below (s₁.setTop (entryFrame m #[.ref a, .ref b, .int (Int32.ofNat o), .int (Int32.ofNat len), .null] 6)) (T5.setTop (mkF m 30 #[.val (.ref a), .val (.ref b), .val (.int (Int32.ofNat o)), .val (.int (Int32.ofNat len)), .val .null, .unset] [.int z])) := c4.trans (st5 _ (Steps.refl _))
  have c7 : Steps p.tables e below (s₁.setTop (entryFrame m #[.ref a, .ref b, .int (Int32.ofNat o), .int (Int32.ofNat len), .null] 6)) (T5.setTop (mkF m 36 #[.val (.ref a), .val (.ref b), .val (.int (Int32.ofNat o)), .val (.int (Int32.ofNat len)), .val .null, .unset] [.int (Int32.ofNat len), .int (Int32.ofNat o), .ref b])) := c6.trans (by
    refine XS.ifNo X5.here hexec rfl (hb hbytes d30) rfl (i0_eq_f hz) ?_
    refine XS.aloadN X5.here hexec rfl (hb hbytes d33) rfl rfl ?_
    refine XS.iloadN X5.here hexec rfl (hb hbytes d34) rfl ?_
    refine XS.iloadN X5.here hexec rfl (hb hbytes d35) rfl ?_
    exact Steps.refl _)
  obtain ⟨v8, T8, X8, E8, g8⟩ := X5.callS hexec (Cmp3.law l b A o len) hown (wks W (staticW "java/lang/String" 177 Cmp3.yN)) (wk W Cmp3.tab) (W := 0) (Nat.le_of_ble_eq_true rfl) (Nat.le_of_ble_eq_true rfl) (Nat.le_refl _) (by show 0 + len ≤ len; omega) (g := (mkF m 36 #[.val (.ref a), .val (.ref b), .val (.int (Int32.ofNat o)), .val (.int (Int32.ofNat len)), .val .null, .unset] [.int (Int32.ofNat len), .int (Int32.ofNat o), .ref b])) rfl (by rw [hml]; rfl) c7 (argsL := [.ref b, .int (Int32.ofNat o), .int (Int32.ofNat len)]) (rest := []) rfl rfl (by show 2 * 0 + 0 ≤ _; decide) (hb hbytes d36) (⟨rfl, hA.mv X5.warmed.alike hh5, l1, l2, hp⟩)
  obtain ⟨e8, z8⟩ := E8
  obtain ⟨rfl, N, n1, n2, n3, n4, n5, n6⟩ := NewArr.mv _ T5 s _ _ hh5.symm (Vm.Alike.refl _) rfl e8
  rw [hh5] at z8
  have hB1 := hB.keep X8.warmed.alike (n6 _ _ hB.1)
  have hne : s.heap.size ≠ a := (Nat.ne_of_lt (Array.getElem?_eq_some_iff.mp hB.1).1).symm
  have c9 : Steps p.tables e below (s₁.setTop (entryFrame m #[.ref a, .ref b, .int (Int32.ofNat o), .int (Int32.ofNat len), .null] 6)) (T8.setTop (mkF m 39 #[.val (.ref a), .val (.ref b), .val (.int (Int32.ofNat o)), .val (.int (Int32.ofNat len)), .val .null, .unset] [.ref s.heap.size])) := g8
  have c10 : Steps p.tables e below (s₁.setTop (entryFrame m #[.ref a, .ref b, .int (Int32.ofNat o), .int (Int32.ofNat len), .null] 6)) (T8.setTop (mkF m 45 #[.val (.ref a), .val (.ref b), .val (.int (Int32.ofNat o)), .val (.int (Int32.ofNat len)), .val .null, .val (.ref s.heap.size)] [.int (Int32.ofNat N.slots.size), .ref s.heap.size, .ref a])) := by
    have hc : Steps p.tables e below (s₁.setTop (entryFrame m #[.ref a, .ref b, .int (Int32.ofNat o), .int (Int32.ofNat len), .null] 6)) (T8.setTop (mkF m 45 #[.val (.ref a), .val (.ref b), .val (.int (Int32.ofNat o)), .val (.int (Int32.ofNat len)), .val .null, .val (.ref s.heap.size)] [.int (Int32.ofNat len), .ref s.heap.size, .ref a])) := c9.trans (by
      refine XS.astore X8.here hexec rfl (hb hbytes d39) rfl rfl rfl ?_
      refine XS.aloadN X8.here hexec rfl (hb hbytes d41) rfl rfl ?_
      refine XS.aload X8.here hexec rfl (hb hbytes d42) rfl rfl ?_
      refine XS.iloadN X8.here hexec rfl (hb hbytes d44) rfl ?_
      exact Steps.refl _)
    rw [n4]; exact hc
  obtain ⟨v11, T11, X11, E11, g11⟩ := X8.callS hexec (CodL.law l s.heap.size N) hown (wks W (staticW "java/lang/String" 47 CodL.yN)) (wk W CodL.tab) (W := 1) (Nat.le_of_ble_eq_true rfl) (Nat.le_of_ble_eq_true rfl) (Nat.le_refl _) (by show 0 + len + 0 ≤ len; omega) (g := (mkF m 45 #[.val (.ref a), .val (.ref b), .val (.int (Int32.ofNat o)), .val (.int (Int32.ofNat len)), .val .null, .val (.ref s.heap.size)] [.int (Int32.ofNat N.slots.size), .ref s.heap.size, .ref a])) rfl (by rw [hml]; rfl) c10 (argsL := [.ref s.heap.size, .int (Int32.ofNat N.slots.size)]) (rest := [.ref a]) rfl rfl (by show 2 * 0 + (1 + 0) ≤ _; decide) (hb hbytes d45) (⟨rfl, n1⟩)
  obtain ⟨rfl, q11⟩ := E11
  have hB11 := hB1.mv (X8.warmed.alike.symm.trans X11.warmed.alike) q11
  have c12 : Steps p.tables e below (s₁.setTop (entryFrame m #[.ref a, .ref b, .int (Int32.ofNat o), .int (Int32.ofNat len), .null] 6)) (T11.setTop (mkF m 48 #[.val (.ref a), .val (.ref b), .val (.int (Int32.ofNat o)), .val (.int (Int32.ofNat len)), .val .null, .val (.ref s.heap.size)] [.int 0, .ref a])) := g11
  obtain ⟨T13, X13, p13, bl13, sl13, st13⟩ := X11.finit hexec hown (wk W (.fieldLink "java/lang/String" 15 "java/lang/String" "coder" "B")) (Or.inr ⟨_, (wk W (.laysFinal "java/lang/String" "java/lang/String" "coder" "B"))⟩) (Or.inl ⟨rfl, hnm⟩) f2 (Or.inl rfl) hB11 (t := .byte) (by decide +kernel) rfl (g := (mkF m 48 #[.val (.ref a), .val (.ref b), .val (.int (Int32.ofNat o)), .val (.int (Int32.ofNat len)), .val .null, .val (.ref s.heap.size)] [.int 0, .ref a])) rfl (rest := []) rfl (hb hbytes d48)
  have c14 : Steps p.tables e below (s₁.setTop (entryFrame m #[.ref a, .ref b, .int (Int32.ofNat o), .int (Int32.ofNat len), .null] 6)) (T13.setTop (mkF m 54 #[.val (.ref a), .val (.ref b), .val (.int (Int32.ofNat o)), .val (.int (Int32.ofNat len)), .val .null, .val (.ref s.heap.size)] [.ref s.heap.size, .ref a])) := (c12.trans (st13 _ (Steps.refl _))).trans (by
    refine XS.aloadN X13.here hexec rfl (hb hbytes d51) rfl rfl ?_
    refine XS.aload X13.here hexec rfl (hb hbytes d52) rfl rfl ?_
    exact Steps.refl _)
  obtain ⟨T15, X15, p15, bl15, sl15, st15⟩ := X13.finit hexec hown (wk W (.fieldLink "java/lang/String" 9 "java/lang/String" "value" "[B")) (Or.inr ⟨_, (wk W (.laysFinal "java/lang/String" "java/lang/String" "value" "[B"))⟩) (Or.inl ⟨rfl, hnm⟩) f1 (Or.inl rfl) bl13 (t := (.array .byte)) (by decide +kernel) rfl (g := (mkF m 54 #[.val (.ref a), .val (.ref b), .val (.int (Int32.ofNat o)), .val (.int (Int32.ofNat len)), .val .null, .val (.ref s.heap.size)] [.ref s.heap.size, .ref a])) rfl (rest := []) rfl (hb hbytes d54)
  have c16 : Steps p.tables e below (s₁.setTop (entryFrame m #[.ref a, .ref b, .int (Int32.ofNat o), .int (Int32.ofNat len), .null] 6)) (T15.setTop (mkF m 57 #[.val (.ref a), .val (.ref b), .val (.int (Int32.ofNat o)), .val (.int (Int32.ofNat len)), .val .null, .val (.ref s.heap.size)] [])) := c14.trans (st15 _ (Steps.refl _))
  have ap := apart (Or.inr ⟨_, (wk W (.laysFinal "java/lang/String" "java/lang/String" "value" "[B"))⟩) (Or.inr ⟨_, (wk W (.laysFinal "java/lang/String" "java/lang/String" "coder" "B"))⟩) f1 f2 (t₁ := .array .byte) (t₂ := .byte) (by decide +kernel) (by decide +kernel) (by decide)
  have al := X8.warmed.alike.symm.trans X15.warmed.alike
  have n7 : T11.heap[s.heap.size]? = some N := by rw [q11]; exact n1.1
  exact ⟨T15, none, _, _, _, X15, by simp, rfl, by omega, (fun _ => rfl), ⟨rfl, _, N, bl15, ((Same.refl D _).set _ (by simp)).set _ (by simp), sl15, (Cell.slots_setSlot_ne _ ap).trans sl13, n1.keep al (p15.other hne (p13.other hne n7)), n2, by rw [al.findClass]; exact n3, n4, n5, fun y c h1 h2 => p15.other h1 (p13.other h1 (by rw [q11]; exact n6 y c h2)), by rw [p15.2.2, p13.2.2, q11]; exact z8⟩, fun fs hl => c16.trans (X15.returnOut hexec hret (hb hbytes d57) hl)⟩
end New4
namespace New1
def yN : MethodName := ⟨"java/lang/String", "<init>", "([C)V"⟩
abbrev yB : ByteArray := jdk_42_method_3_code
theorem d0 : decode yB 0 = .ok (.aload_n 0, 1) := by decide +kernel
theorem d1 : decode yB 1 = .ok (.aload_n 1, 1) := by decide +kernel
theorem d2 : decode yB 2 = .ok (.iconst 0, 1) := by decide +kernel
theorem d3 : decode yB 3 = .ok (.aload_n 1, 1) := by decide +kernel
theorem d4 : decode yB 4 = .ok (.arraylength, 1) := by decide +kernel
theorem d5 : decode yB 5 = .ok (.aconst_null, 1) := by decide +kernel
theorem d6 : decode yB 6 = .ok (.invokespecial 27, 3) := by decide +kernel
theorem d9 : decode yB 9 = .ok (.return_, 1) := by decide +kernel
def site : List Cond := [New4.tab] ++ initW "java/lang/String" 27 New4.yN
def tab : Cond := tabOf yN yB 2 none site
def P (a : Addr) (D : Cell) (fV fC : Field) (b : Addr) (A : Cell) (z : Int32) (args : Array Value) (s : State) : Prop := args = #[.ref a, .ref b] ∧ Blank "java/lang/String" a D s ∧ Found "java/lang/String" "value" "[B" fV s ∧ Found "java/lang/String" "coder" "B" fC s ∧ Ch b A s ∧ StaticIs s "java/lang/String" "COMPACT_STRINGS" "Z" (.int z) ∧ ¬ z = 0 ∧ 0 < A.slots.size ∧ A.slots.size ≤ 536870912 ∧ ∀ i, i < A.slots.size → ¬ 255 < cv A i
def E (a : Addr) (D : Cell) (fV fC : Field) (A : Cell) (r : Option Value) (s u : State) : Prop := Got a D fV fC A 0 A.slots.size r s u
/-- new String(chars), not empty, no char above 255: a Latin-1 String of their low bytes -/
theorem law (l : Launch) (a : Addr) (D : Cell) (fV fC : Field) (b : Addr) (A : Cell) (z : Int32) : Law l yN 2 1 3 52 yB 2 none site (P a D fV fC b A z) (E a D fV fC A) [⟨a, fC.slot⟩, ⟨a, fV.slot⟩] 1 A.slots.size := by
  refine Law.of_walk (plainFor_of_name (by decide +kernel)) (by decide +kernel) (by decide +kernel) (by decide) (fun _ _ h => by rw [h.1]; rfl) (fun _ U U' hal hh h => ⟨h.1, h.2.1.mv hal hh, h.2.2.1.al hal, h.2.2.2.1.al hal, h.2.2.2.2.1.mv hal hh, h.2.2.2.2.2.1.there hal hh, h.2.2.2.2.2.2⟩) (fun r U U' V V' h1 hal h2 h => Got.mv r U U' V V' h1 hal h2 h) ?_
  intro p e s m args below meth c s₁ X0 hexec hbytes hml hret hlk hnm hown hh0 W hP
  obtain ⟨rfl, hB, f1, f2, hA, s1, hz, l0, l2, hp⟩ := hP
  have c1 : Steps p.tables e below (s₁.setTop (entryFrame m #[.ref a, .ref b] 2)) (s₁.setTop (mkF m 0 #[.val (.ref a), .val (.ref b)] [])) := entry rfl
  have c2 : Steps p.tables e below (s₁.setTop (entryFrame m #[.ref a, .ref b] 2)) (s₁.setTop (mkF m 6 #[.val (.ref a), .val (.ref b)] [.null, .int (Int32.ofNat A.slots.size), .int 0, .ref b, .ref a])) := c1.trans (by
    refine XS.aloadN X0.here hexec rfl (hb hbytes d0) rfl rfl ?_
    refine XS.aloadN X0.here hexec rfl (hb hbytes d1) rfl rfl ?_
    refine iconstV X0.here hexec rfl 0 (hb hbytes d2) (by decide) ?_
    refine XS.aloadN X0.here hexec rfl (hb hbytes d3) rfl rfl ?_
    refine X0.alen hexec (hA.1.mv X0.warmed.alike hh0) rfl rfl (hb hbytes d4) ?_
    refine XS.aconstNull X0.here hexec rfl (hb hbytes d5) ?_
    exact Steps.refl _)
  obtain ⟨v3, T3, X3, E3, g3⟩ := X0.callN hexec (New4.law l a D fV fC b A z 0 A.slots.size) rfl hown (wks W (initW "java/lang/String" 27 New4.yN)) (W New4.tab (by simp only [site, List.mem_cons, List.mem_append, true_or, or_true])) (W := 0) (Nat.le_of_ble_eq_true rfl) (Nat.le_of_ble_eq_true rfl) (Nat.le_refl _) (by show 0 + A.slots.size ≤ A.slots.size; omega) (g := (mkF m 6 #[.val (.ref a), .val (.ref b)] [.null, .int (Int32.ofNat A.slots.size), .int (Int32.ofNat 0), .ref b, .ref a])) rfl (by rw [hml]; rfl) c2 (argsL := [.ref b, .int (Int32.ofNat 0), .int (Int32.ofNat A.slots.size), .null]) (rest := []) rfl rfl (by show 2 * 0 + 0 ≤ _; decide) (hb hbytes d6) (⟨rfl, hB.mv X0.warmed.alike hh0, f1.al X0.warmed.alike, f2.al X0.warmed.alike, hA.mv X0.warmed.alike hh0, s1.there X0.warmed.alike hh0, hz, l0, by omega, l2, fun i hi => by rw [Nat.zero_add]; exact hp i hi⟩)
  have e0 := Got.mv _ s₁ s _ _ hh0.symm (Vm.Alike.refl _) rfl E3
  obtain rfl := e0.1
  have c4 : Steps p.tables e below (s₁.setTop (entryFrame m #[.ref a, .ref b] 2)) (T3.setTop (mkF m 9 #[.val (.ref a), .val (.ref b)] [])) := g3
  exact ⟨T3, none, _, _, _, X3, by simp, rfl, by omega, (fun _ => rfl), e0, fun fs hl => c4.trans (X3.returnOut hexec hret (hb hbytes d9) hl)⟩
theorem pays {l : Launch} {R : Room} {p : Program} {e : Env} {below : List Frame} {s : State} {sargs : Array Value} {len W : Nat} (a : Addr) (D : Cell) (fV fC : Field) (b : Addr) (A : Cell) (z : Int32) (htab : tab.before sargs s = true) (hfr : 4 ≤ R.frames) (hlo : W + 65 ≤ R.locals) :
    Back l R p e below s sargs yN len W (fun A₁ a₁ => A₁.cells + 1 ≤ R.cells ∧ A₁.slots + A.slots.size ≤ R.slots ∧ P a D fV fC b A z a₁ A₁.U) (fun A₁ _ v₁ B₁ => E a D fV fC A v₁ A₁.U B₁.U ∧ B₁.locs = A₁.locs ++ [⟨a, fC.slot⟩, ⟨a, fV.slot⟩] ∧ B₁.cells = A₁.cells + 1 ∧ B₁.slots = A₁.slots + A.slots.size) :=
  (law l a D fV fC b A z).pays htab hfr (by omega)
end New1
/-- the byte, read back as charAt reads it, is the char -/
theorem lo8_mask {x : Int32} (h0 : ¬ x < 0) (h1 : ¬ 255 < x) : lo8 x &&& 255 = x := by
  have t : ∀ k : Fin 256, lo8 (Int32.ofNat k.val) &&& 255 = Int32.ofNat k.val := by decide +kernel
  rw [Int32.lt_iff_toInt_lt] at h0 h1
  have e0 : (0 : Int32).toInt = 0 := rfl
  have e1 : (255 : Int32).toInt = 255 := rfl
  obtain ⟨k, hk⟩ : ∃ k : Nat, x.toInt = k := ⟨x.toInt.toNat, by omega⟩
  have hx : x = Int32.ofNat k := Int32.toInt_inj.mp (by rw [hk, Int32.toInt_ofNat_small (by omega)])
  rw [hx]
  exact t ⟨k, by omega⟩
end StrChars
namespace StrChars.Road
open Jvm Sem ClassFile Op Lib Jvm.Stand Jvm.Free Jvm.Free.XT
open Jvm.Lib.Cold (StaticIs)
abbrev ST : String := "java/lang/String"
/-- every table word that New1's law asks, flat -/
abbrev words : List Jvm.Cond := [.code New1.yN New1.yB 2 none, .initialized ST, .methodLink ST 27 New4.yN, .instanceMethod New4.yN,
  .code New4.yN New4.yB 6 none, .fieldLink ST 38 ST "COMPACT_STRINGS" "Z", .laysFinal ST ST "value" "[B", .fieldLink ST 9 ST "value" "[B", .laysFinal ST ST "coder" "B", .fieldLink ST 15 ST "coder" "B",
  .methodLink ST 1 Lib.objectInit, .instanceMethod Lib.objectInit, .code Lib.objectInit ⟨#[0xb1]⟩ 1 none, .methodLink ST 177 Cmp3.yN, .static Cmp3.yN, .methodLink ST 47 CodL.yN, .static CodL.yN,
  .code Cmp3.yN Cmp3.yB 6 (some (.array .byte)), .initialized U16, .arrayClass .byte, .methodLink U16 115 Cmp5.yN, .static Cmp5.yN, .code Cmp5.yN Cmp5.yB 7 (some .int), .code CodL.yN CodL.yB 2 (some .byte)]
theorem tab_of {a : Array Value} {s : State} (h : ∀ w ∈ words, w.before a s = true) : New1.tab.before a s = true := by
  have h5 : Cmp5.tab.before a s = true := unparts (wk h (.code Cmp5.yN Cmp5.yB 7 (some .int))) (wks h (.initialized Cmp5.yN.cls :: Cmp5.site))
  have hc : CodL.tab.before a s = true := unparts (wk h (.code CodL.yN CodL.yB 2 (some .byte))) (wks h (.initialized CodL.yN.cls :: CodL.site))
  have q5 : ∀ w ∈ Cmp5.tab :: words, w.before a s = true := fun w hw => (List.mem_cons.mp hw).elim (fun e => e ▸ h5) (h w)
  have h3 : Cmp3.tab.before a s = true := unparts (wk q5 (.code Cmp3.yN Cmp3.yB 6 (some (.array .byte)))) (wks q5 (.initialized Cmp3.yN.cls :: Cmp3.site))
  have q3 : ∀ w ∈ Cmp3.tab :: CodL.tab :: words, w.before a s = true := fun w hw => (List.mem_cons.mp hw).elim (fun e => e ▸ h3) fun hw => (List.mem_cons.mp hw).elim (fun e => e ▸ hc) (h w)
  have h4 : New4.tab.before a s = true := unparts (wk q3 (.code New4.yN New4.yB 6 none)) (wks q3 (.initialized New4.yN.cls :: New4.site))
  have q4 : ∀ w ∈ New4.tab :: words, w.before a s = true := fun w hw => (List.mem_cons.mp hw).elim (fun e => e ▸ h4) (h w)
  exact unparts (wk q4 (.code New1.yN New1.yB 2 none)) (wks q4 (.initialized New1.yN.cls :: New1.site))
/-- the words ride from the start Z to the walk's own state -/
theorem moved {Z s : State} {a0 args : Array Value} (hZ : Z.Warmed39 s.vm) (hw : ∀ d ∈ words, d.before a0 Z = true) : ∀ d ∈ words, d.before args s = true := fun d hd => by
  have q := hw d hd
  have t : ∀ d ∈ words, d = .arrayClass .byte ∨ (d.onTables && d.keepsFace) = true := by decide +kernel
  rcases t d hd with rfl | t
  · exact RoadKit.mvA hZ q
  · exact RoadKit.mv hZ q t
/-- WHAT COMES BACK, over the tables of the start Z: h the heap at the call, h' behind it -/
def Q (Z : State) (x : Addr) (A : Cell) (h : Heap) (v : Option Value) (h' : Heap) (L : List Loc) : Prop := v = none ∧ (∀ y ∈ L, y.base = x) ∧ RoadKit.Keep h h' [x] ∧ h'.size = h.size + 1 ∧ RoadKit.Exa Z h' x ST ∧ RoadKit.Fld Z h' x ST "value" "[B" (.ref h.size) ∧ RoadKit.Fld Z h' x ST "coder" "B" (.int 0) ∧
  (∃ V : Cell, RoadKit.Arr Z h' h.size V .byte ∧ V.vm = .none ∧ Z.vm.findClass "[B" = some V.cls ∧ V.slots.size = A.slots.size ∧ ∀ j, j < A.slots.size → V.slots[j]? = some (.int (lo8 (cv A j)))) ∧
  ∀ (O n d : String) (w : Value), RoadKit.Fld Z h x O n d w → RoadKit.slotOf Z O n d ≠ RoadKit.slotOf Z ST "value" "[B" → RoadKit.slotOf Z O n d ≠ RoadKit.slotOf Z ST "coder" "B" → RoadKit.Fld Z h' x O n d w
/-- **new String(chars) AT A CALL, IN THE ROAD'S FORM**: for specialBack behind newO: x the fresh String, b the char[] with the cell A -/
theorem back {p : Program} {l : Launch} {e : Env} {R : Room} {s : State} {args : Array Value} {below : List Frame} {len W : Nat} {Z : State} {a0 : Array Value} {h : Heap} (hZ : Z.Warmed39 s.vm) (hw : ∀ d ∈ words, d.before a0 Z = true) {kI : Nat} (wi : (Jvm.Cond.instantiable ST kI).before a0 Z = true)
    {x b : Addr} {A : Cell} {z : Int32} {v0 c0 : Value} (E : RoadKit.Exa Z h x ST) (V : RoadKit.Fld Z h x ST "value" "[B" v0) (C : RoadKit.Fld Z h x ST "coder" "B" c0) (K : RoadKit.Arr Z h b A .char) (hty : Typed .char A) (S : RoadKit.Sta Z h ST "COMPACT_STRINGS" "Z" (.int z)) (hz : ¬ z = 0)
    (l0 : 0 < A.slots.size) (l2 : A.slots.size ≤ 536870912) (hp : ∀ i, i < A.slots.size → ¬ 255 < cv A i) (hfr : 4 ≤ R.frames) (hlo : W + 65 ≤ R.locals) :
    Back l R p e below s args New1.yN len W (fun P a => a = #[.ref x, .ref b] ∧ P.U.heap = h ∧ P.cells + 1 ≤ R.cells ∧ P.slots + A.slots.size ≤ R.slots)
      (fun P _ v B => ∃ L, Q Z x A h v B.U.heap L ∧ B.locs = P.locs ++ L ∧ B.cells = P.cells + 1 ∧ B.slots = P.slots + A.slots.size) := by
  intro m meth c P g ig mk a X hg hsize hdg hW hn hp'
  obtain ⟨rfl, rfl, r1, r2⟩ := hp'
  have al : Z.vm.Alike P.U.vm := hZ.alike.trans X.warmed.alike
  obtain ⟨D, cfV, kV, iV, fV, hD, gV, stV, knV, obV, asV, slV⟩ := id V
  obtain ⟨D', cfC, kC, iC, fC, hD', gC, stC, -, -, asC, slC⟩ := id C
  cases hD.symm.trans hD'
  obtain ⟨D2, kD, e1, e2, e3, e4, e5⟩ := id E
  cases hD.symm.trans e1
  obtain ⟨c2, k2, i1, i2, i3, -⟩ := Cond.instantiable_spec wi
  cases e2.symm.trans i1
  cases e3.symm.trans i2
  obtain ⟨kU, u1, u2⟩ := al.2.2 _ _ e3
  have hB : Blank ST x D P.U := ⟨hD, ⟨knV, fun q hq => by rw [hq] at obV; cases obV⟩, by rw [al.findClass]; exact e2, kU, u1, by rw [u2]; exact i3, by rw [u2]; exact e5 i3⟩
  have F1 : Found ST "value" "[B" fV P.U := ⟨SBG.found_only al ⟨cfV, kV, iV, gV⟩, stV⟩
  have F2 : Found ST "coder" "B" fC P.U := ⟨SBG.found_only al ⟨cfC, kC, iC, gC⟩, stC⟩
  have hA : Ch b A P.U := ⟨⟨K.1, State.isArrayOf_alike al K.2.1, K.2.2, by omega⟩, hty⟩
  have hS : StaticIs P.U ST "COMPACT_STRINGS" "Z" (.int z) := by
    obtain ⟨cfS, iS, kS, fS, st, cS, t1, t2, t3, t4, t5, t6, t7⟩ := S
    exact StaticIs.there (s := { Z with heap := P.U.heap }) ⟨cfS, iS, kS, fS, st, cS, t1, t2, t3, t4, t5, (fun q => by rw [q] at t6; cases t6), t7⟩ al rfl
  obtain ⟨v, B, X', ⟨⟨hv, E', V', q1, q2, q3, q4, q5, q6, q7, q8, q9, q10, q11⟩, hl, hc, hs⟩, st⟩ := New1.pays x D fV fC b A z (tab_of (moved hZ hw)) hfr hlo m meth c P g ig mk _ X hg hsize hdg hW hn ⟨r1, r2, rfl, hB, F1, F2, hA, hS, hz, l0, l2, hp⟩
  have al' : Z.vm.Alike B.U.vm := hZ.alike.trans X'.warmed.alike
  have hsz : E'.slots.size = D.slots.size := by
    obtain ⟨-, -, -, kB, w1, w2, w3⟩ := q1
    obtain ⟨kB', y1, y2⟩ := al'.2.2 _ _ e3
    rw [q2.2.1] at w1
    cases w1.symm.trans y1
    rw [w3, e5 i3, y2]
  refine ⟨v, B, X', ⟨_, ⟨hv, ?_, ⟨by omega, fun y cy hy hn' => q10 y cy (by simpa using hn') hy, fun y cy hy => ?_⟩, q11, ⟨E', _, q1.1, by rw [q2.2.1]; exact e2, by rw [q2.2.1]; exact e3, by rw [q2.1]; exact obV, fun _ => by rw [hsz]; exact e5 i3⟩,
    ⟨E', cfV, kV, iV, fV, q1.1, gV, stV, by rw [q2.1]; exact knV, by rw [q2.1]; exact obV, by rw [q2.2.1]; exact asV, q3⟩, ⟨E', cfC, kC, iC, fC, q1.1, gC, stC, by rw [q2.1]; exact knV, by rw [q2.1]; exact obV, by rw [q2.2.1]; exact asC, q4⟩,
    ⟨V', ⟨q5.1, State.isArrayOf_alike al'.symm q5.2.1, q5.2.2.1⟩, q6, by rw [← al'.findClass]; exact q7, q8, fun j hj => by have := q9 j hj; rwa [Nat.zero_add] at this⟩, fun O n d w F n1 n2 => ?_⟩, hl, hc, hs⟩, st⟩
  · intro y hy
    simp only [List.mem_cons, List.not_mem_nil, or_false] at hy
    rcases hy with rfl | rfl <;> rfl
  · by_cases q : y = x
    · subst q
      cases hD.symm.trans hy
      exact ⟨E', q1.1, q2.2.1, q2.1, hsz⟩
    · exact ⟨cy, q10 y cy q hy, rfl, rfl, rfl⟩
  · obtain ⟨D3, cf, k, i, f, g1, g2, g3, g4, g5, g6, g7⟩ := F
    cases hD.symm.trans g1
    simp only [RoadKit.slotOf, g2, gV, gC, Option.map_some, Option.getD_some] at n1 n2
    exact ⟨E', cf, k, i, f, q1.1, g2, g3, by rw [q2.1]; exact g4, by rw [q2.1]; exact g5, by rw [q2.2.1]; exact g6, by rw [q2.2.2 f.slot (by simp [n1, n2])]; exact g7⟩
end StrChars.Road
namespace StrChars.Road
open Jvm Sem ClassFile Op Lib Jvm.Stand Jvm.Free Jvm.Free.XT
/-- WHAT COMES BACK, the byte[] as a list of values -/
def QA (Z : State) (x : Addr) (zn : Int32) (cs : List Int32) (h : Heap) (v : Option Value) (h' : Heap) (L : List Loc) : Prop := v = none ∧ (∀ y ∈ L, y.base = x) ∧ RoadKit.Keep h h' [x] ∧ h'.size = h.size + 1 ∧ RoadKit.Exa Z h' x ST ∧ RoadKit.Fld Z h' x ST "value" "[B" (.ref h.size) ∧ RoadKit.Fld Z h' x ST "coder" "B" (.int 0) ∧
  (∃ kb, Z.vm.findClass "[B" = some kb ∧ RoadKit.Arv Z h' h.size kb .byte zn (cs.map fun c => .int (lo8 c)) (.int 0)) ∧
  ∀ (O n d : String) (w : Value), RoadKit.Fld Z h x O n d w → RoadKit.slotOf Z O n d ≠ RoadKit.slotOf Z ST "value" "[B" → RoadKit.slotOf Z O n d ≠ RoadKit.slotOf Z ST "coder" "B" → RoadKit.Fld Z h' x O n d w
/-- **new String(chars) AT A CALL, THE ARRAYS AS LISTS**: the char[] at b holds cs, not empty, no char above 255 -/
theorem backArv {p : Program} {l : Launch} {e : Env} {R : Room} {s : State} {args : Array Value} {below : List Frame} {len W : Nat} {Z : State} {a0 : Array Value} {h : Heap} (hZ : Z.Warmed39 s.vm) (hw : ∀ d ∈ words, d.before a0 Z = true) {kI : Nat} (wi : (Jvm.Cond.instantiable ST kI).before a0 Z = true)
    {x b : Addr} {k : ClassId} {zn z : Int32} {cs : List Int32} {dv v0 c0 : Value} (E : RoadKit.Exa Z h x ST) (V : RoadKit.Fld Z h x ST "value" "[B" v0) (C : RoadKit.Fld Z h x ST "coder" "B" c0) (K : RoadKit.Arv Z h b k .char zn (cs.map Value.int) dv) (S : RoadKit.Sta Z h ST "COMPACT_STRINGS" "Z" (.int z)) (hz : ¬ z = 0)
    (hlen : zn.toNatClampNeg = cs.length) (h0 : 0 < cs.length) (hbig : cs.length ≤ 536870912) (hall : ∀ c ∈ cs, ¬ 255 < c) (hfr : 4 ≤ R.frames) (hlo : W + 65 ≤ R.locals) :
    Back l R p e below s args New1.yN len W (fun P a => a = #[.ref x, .ref b] ∧ P.U.heap = h ∧ P.cells + 1 ≤ R.cells ∧ P.slots + cs.length ≤ R.slots)
      (fun P _ v B => ∃ L, QA Z x zn cs h v B.U.heap L ∧ B.locs = P.locs ++ L ∧ B.cells = P.cells + 1 ∧ B.slots = P.slots + cs.length) := by
  obtain ⟨A, K1, K2, K3, K4, K5, K6⟩ := K
  have e : A.slots.size = cs.length := K3.trans hlen
  have hat : ∀ (i : Nat) (hi : i < cs.length), A.slots[i]? = some (.int cs[i]) := fun i hi => by rw [K5 i (by omega)]; simp [List.getD_eq_getElem?_getD, hi]
  have hcv : ∀ (i : Nat) (hi : i < cs.length), cv A i = cs[i] := fun i hi => by unfold cv; rw [hat i hi]
  have hty : Typed .char A := fun i v hv => by
    have hi : i < A.slots.size := (Array.getElem?_eq_some_iff.mp hv).1
    have q := K5 i hi
    rw [hv] at q
    rw [Option.some.inj q]
    exact K6 i hi
  refine Back.mono (back hZ hw wi E V C K1 hty S hz (by omega) (by omega) (fun i hi => by rw [hcv i (by omega)]; exact hall _ (List.getElem_mem _)) hfr hlo) (fun P a hp => ⟨hp.1, hp.2.1, hp.2.2.1, by rw [e]; exact hp.2.2.2⟩) (fun P a v B hp hq => ?_)
  obtain ⟨L, ⟨q1, q2, q3, q4, q5, q6, q7, ⟨V', v1, v2, v3, v4, v5⟩, q9⟩, hl, hc, hs⟩ := hq
  refine ⟨L, ⟨q1, q2, q3, q4, q5, q6, q7, ⟨V'.cls, v3, V', v1, rfl, by rw [v4, e, hlen], K4, fun i hi => ?_, fun i hi => ?_⟩, q9⟩, hl, hc, by rw [hs, e]⟩
  · have hi' : i < cs.length := by omega
    rw [v5 i (by omega), hcv i hi']; simp [List.getD_eq_getElem?_getD, hi']
  · have hi' : i < cs.length := by omega
    simp only [List.getD_eq_getElem?_getD, List.getElem?_map, List.getElem?_eq_getElem hi', Option.map_some, Option.getD_some]
    exact fits_lo8 _
end StrChars.Road
namespace StrChars.Road
open Jvm Sem ClassFile Op Lib Jvm.Stand Jvm.Free Jvm.Free.XT
/-- WHAT COMES BACK, in the writer's own shape -/
def QV (Z : State) (x : Addr) (N : Int32) (bs : List Int32) (h : Heap) (n0 : Nat) (v : Option Value) (h' : Heap) (L : List Loc) : Prop := v = none ∧ RoadKit.Fr n0 L ∧ RoadKit.Keep h h' [x] ∧ RoadKit.Exa Z h' x ST ∧ RoadKit.Fld Z h' x ST "coder" "B" (.int 0) ∧
  ∃ (t : Addr) (kb : ClassId), n0 ≤ t ∧ h.size ≤ t ∧ ¬ t = x ∧ RoadKit.Fld Z h' x ST "value" "[B" (.ref t) ∧ RoadKit.Arv Z h' t kb .byte N (bs.map Value.int) (.int 0)
/-- **new String(chars) AT A CALL, FOR THE WRITER**: a char[] of n known ints, each 0 to 255 -/
theorem backV {p : Program} {l : Launch} {e : Env} {R : Room} {s : State} {args : Array Value} {below : List Frame} {len W : Nat} {Z : State} {a0 : Array Value} {h : Heap} (hZ : Z.Warmed39 s.vm) (hw : ∀ d ∈ words, d.before a0 Z = true) {kI : Nat} (wi : (Jvm.Cond.instantiable ST kI).before a0 Z = true)
    {x b : Addr} {kC : ClassId} {cs bs : List Int32} {d v0 c0 : Value} {z N : Int32} {n n0 : Nat} (hx0 : n0 ≤ x) (hh0 : n0 ≤ h.size) (E : RoadKit.Exa Z h x ST) (V : RoadKit.Fld Z h x ST "value" "[B" v0) (C : RoadKit.Fld Z h x ST "coder" "B" c0) (K : RoadKit.Arv Z h b kC .char N (cs.map Value.int) d) (S : RoadKit.Sta Z h ST "COMPACT_STRINGS" "Z" (.int z)) (hz : ¬ z = 0)
    (hn : cs.length = n) (hN : N = Int32.ofNat n) (l0 : 0 < n) (l2 : n ≤ 4000) (hp : ∀ c ∈ cs, ¬ c < 0 ∧ ¬ (255 : Int32) < c) (hb : bs = cs.map (fun c => c.toInt8.toInt32)) (hfr : 4 ≤ R.frames) (hlo : W + 65 ≤ R.locals) :
    Back l R p e below s args (⟨"java/lang/String", "<init>", "([C)V"⟩ : MethodName) len W (fun P a => a = #[.ref x, .ref b] ∧ P.U.heap = h ∧ P.cells + 1 ≤ R.cells ∧ P.slots + n ≤ R.slots)
      (fun P _ v B => ∃ L, QV Z x N bs h n0 v B.U.heap L ∧ B.locs = P.locs ++ L ∧ B.cells = P.cells + 1 ∧ B.slots = P.slots + n) := by
  subst hn hN hb
  refine Back.mono (backArv hZ hw wi E V C K S hz (n32 (by omega)) l0 (by omega) (fun c hc => (hp c hc).2) hfr hlo) (fun P a hp => hp) (fun P a v B hp hq => ?_)
  obtain ⟨L, ⟨q1, q2, q3, q4, q5, q6, q7, ⟨kb, v1, v2⟩, q9⟩, hl, hc, hs⟩ := hq
  exact ⟨L, ⟨q1, fun y hy => by rw [q2 y hy]; exact hx0, q3, q5, q7, h.size, kb, hh0, Nat.le_refl _, Nat.ne_of_gt E.lt, q6, by rw [List.map_map]; exact v2⟩, hl, hc, hs⟩
end StrChars.Road
namespace StrChars
open Jvm Sem ClassFile Op Lib Jvm.Stand Jvm.Free.XT Jvm.Free.ALB Jvm.Free.JM Jvm.Free
open Jvm.Lib.Cold (StaticIs)
def hi8 (x : Int32) : Int32 := lo8 (x >>> ((8 : Int32) &&& 31))
/-- what StringUTF16.getChar makes of two bytes -/
def pairCh (u v : Int32) : Int32 := (((u &&& 255) <<< ((0 : Int32) &&& 31)) ||| ((v &&& 255) <<< ((8 : Int32) &&& 31))).toUInt32.toUInt16.toUInt32.toInt32
theorem shr0 (c : Int32) : c >>> ((0 : Int32) &&& 31) = c := by
  have e : ((0 : Int32) &&& 31) = 0 := by decide
  rw [e]
  apply Int32.toBitVec_inj.mp
  rw [Int32.toBitVec_shiftRight]
  have e1 : ((0 : Int32).toBitVec.smod 32) = 0#32 := by decide
  rw [e1, BitVec.sshiftRight_eq']
  exact BitVec.sshiftRight_zero
theorem lo8_and (x : Int32) : (lo8 x &&& 255).toBitVec.toNat = x.toBitVec.toNat % 256 := by
  have h : (lo8 x).toBitVec = (x.toBitVec.signExtend 8).signExtend 32 := by rw [lo8, Int8.toBitVec_toInt32, Int32.toBitVec_toInt8]
  rw [Int32.toBitVec_and, BitVec.toNat_and, h]
  have e : ((x.toBitVec.signExtend 8).signExtend 32).toNat % 256 = x.toBitVec.toNat % 256 := by
    rw [BitVec.toNat_signExtend]
    have hlt := x.toBitVec.isLt
    simp only [BitVec.toNat_setWidth, BitVec.toNat_signExtend]
    split <;> split <;> omega
  rw [← e]
  exact Nat.and_two_pow_sub_one_eq_mod _ 8
theorem pair_says {c : Int32} (h0 : ¬ c < 0) (h1 : ¬ 65535 < c) : pairCh (lo8 c) (hi8 c) = c := by
  rw [Int32.lt_iff_toInt_lt] at h0 h1
  have e0 : (0 : Int32).toInt = 0 := rfl
  have e1 : (65535 : Int32).toInt = 65535 := rfl
  have hc : c.toInt = c.toBitVec.toNat := by
    have := c.toBitVec.isLt
    have e : c.toInt = c.toBitVec.toInt := rfl
    rw [e] at h0 h1
    rw [e]
    rw [BitVec.toInt_eq_toNat_cond] at h0 h1 ⊢
    split at h0 <;> split <;> omega
  have hn : c.toBitVec.toNat < 65536 := by omega
  have a1 := lo8_and c
  have a2 : (hi8 c &&& 255).toBitVec.toNat = c.toBitVec.toNat / 256 := by
    rw [hi8, lo8_and]
    have e : ((8 : Int32) &&& 31) = 8 := by decide
    rw [e, Int32.toBitVec_shiftRight]
    have e2 : ((8 : Int32).toBitVec.smod 32) = 8#32 := by decide
    rw [e2, BitVec.sshiftRight_eq', BitVec.toNat_sshiftRight_of_msb_false (by rw [BitVec.msb_eq_false_iff_two_mul_lt]; omega)]
    show c.toBitVec.toNat >>> 8 % 256 = _
    rw [Nat.shiftRight_eq_div_pow]
    omega
  unfold pairCh
  apply Int32.toBitVec_inj.mp
  apply BitVec.eq_of_toNat_eq
  have f0 : ((0 : Int32) &&& 31) = 0 := by decide
  have f8 : ((8 : Int32) &&& 31) = 8 := by decide
  rw [f0, f8]
  have g : (((lo8 c &&& 255) <<< (0 : Int32)) ||| ((hi8 c &&& 255) <<< (8 : Int32))).toBitVec.toNat = c.toBitVec.toNat := by
    rw [Int32.toBitVec_or, Int32.toBitVec_shiftLeft, Int32.toBitVec_shiftLeft]
    have s0 : ((0 : Int32).toBitVec.smod 32) = 0#32 := by decide
    have s8 : ((8 : Int32).toBitVec.smod 32) = 8#32 := by decide
    rw [s0, s8, BitVec.toNat_or]
    simp only [BitVec.shiftLeft_eq', BitVec.toNat_shiftLeft, a1, a2]
    show (c.toBitVec.toNat % 256) <<< 0 % 2 ^ 32 ||| (c.toBitVec.toNat / 256) <<< 8 % 2 ^ 32 = _
    rw [Nat.shiftLeft_zero, Nat.mod_eq_of_lt (show c.toBitVec.toNat % 256 < 2 ^ 32 by omega), Nat.mod_eq_of_lt (show (c.toBitVec.toNat / 256) <<< 8 < 2 ^ 32 by rw [Nat.shiftLeft_eq]; omega), Nat.or_comm, ← Nat.shiftLeft_add_eq_or_of_lt (by omega), Nat.shiftLeft_eq]
    omega
  show BitVec.toNat (((((lo8 c &&& 255) <<< (0 : Int32)) ||| ((hi8 c &&& 255) <<< (8 : Int32))).toBitVec.setWidth 16).setWidth 32) = _
  rw [BitVec.toNat_setWidth, BitVec.toNat_setWidth, g]
  omega
end StrChars
namespace StrChars
open Jvm Sem ClassFile Op Lib Jvm.Stand Jvm.Free.XT Jvm.Free.ALB Jvm.Free.JM Jvm.Free
open Jvm.Lib.Cold (StaticIs)
theorem shr1 {n : Nat} (h : 2 * n < 2 ^ 31) : Int32.ofNat (2 * n) >>> ((1 : Int32) &&& 31) = Int32.ofNat n := by
  have e : ((1 : Int32) &&& 31) = 1 := by decide
  rw [e]
  apply Int32.toBitVec_inj.mp
  rw [Int32.toBitVec_shiftRight]
  have e1 : ((1 : Int32).toBitVec.smod 32) = 1#32 := by decide
  have hm : (BitVec.ofNat 32 (2 * n)).toNat = 2 * n := by rw [BitVec.toNat_ofNat, Nat.mod_eq_of_lt (by omega)]
  rw [e1, BitVec.sshiftRight_eq']
  apply BitVec.eq_of_toNat_eq
  show ((BitVec.ofNat 32 (2 * n)).sshiftRight 1).toNat = (BitVec.ofNat 32 n).toNat
  rw [BitVec.toNat_sshiftRight_of_msb_false (by rw [BitVec.msb_eq_false_iff_two_mul_lt, hm]; omega), hm, BitVec.toNat_ofNat, Nat.shiftRight_eq_div_pow]
  omega
/-- charAt's cast of a byte read back -/
def chr8 (u : Int32) : Int32 := (u &&& 255).toUInt32.toUInt16.toUInt32.toInt32
theorem chr8_lo8 {c : Int32} (h0 : ¬ c < 0) (h1 : ¬ 255 < c) : chr8 (lo8 c) = c := by
  have t : ∀ k : Fin 256, (Int32.ofNat k.val).toUInt32.toUInt16.toUInt32.toInt32 = Int32.ofNat k.val := by decide +kernel
  unfold chr8
  rw [lo8_mask h0 h1]
  rw [Int32.lt_iff_toInt_lt] at h0 h1
  have e0 : (0 : Int32).toInt = 0 := rfl
  have e1 : (255 : Int32).toInt = 255 := rfl
  obtain ⟨k, hk⟩ : ∃ k : Nat, c.toInt = k := ⟨c.toInt.toNat, by omega⟩
  have hx : c = Int32.ofNat k := Int32.toInt_inj.mp (by rw [hk, Int32.toInt_ofNat_small (by omega)])
  rw [hx]
  exact t ⟨k, by omega⟩
theorem narrow_ch {c : Int32} (h0 : ¬ c < 0) (h1 : ¬ 65535 < c) : narrow .char (.int c) = .int c := by
  have q : narrow .char (.int (pairCh (lo8 c) (hi8 c))) = .int (pairCh (lo8 c) (hi8 c)) := narrow_c _
  rwa [pair_says h0 h1] at q
/-- the array's cell V codes the n chars f 0 .. f (n - 1) by the coder cd, as the JDK does: coder 1 just where some char is above 255 -/
def Cod (cd : Int32) (n : Nat) (f : Nat → Int32) (V : Cell) : Prop := (cd = 0 ∧ V.slots.size = n ∧ ∀ j, j < n → V.slots[j]? = some (.int (lo8 (f j))) ∧ ¬ 255 < f j) ∨ (cd = 1 ∧ V.slots.size = 2 * n ∧ (∀ j, j < n → V.slots[2 * j]? = some (.int (lo8 (f j))) ∧ V.slots[2 * j + 1]? = some (.int (hi8 (f j)))) ∧ ∃ j, j < n ∧ 255 < f j)
theorem Cod.cd {cd : Int32} {n : Nat} {f : Nat → Int32} {V : Cell} (h : Cod cd n f V) : cd = 0 ∨ cd = 1 := h.imp (fun q => q.1) fun q => q.1
theorem Cod.len {cd : Int32} {n : Nat} {f : Nat → Int32} {V : Cell} (h : Cod cd n f V) (hs : V.slots.size < 2 ^ 31) : Int32.ofNat V.slots.size >>> (cd &&& 31) = Int32.ofNat n := by
  rcases h with ⟨rfl, h, -⟩ | ⟨rfl, h, -⟩
  · rw [shr0, h]
  · rw [h, shr1 (by omega)]
/-- **x is a String of the n chars f 0 .. f (n - 1)**, Latin-1 or UTF-16; its array at t has the cell V -/
def Txt (x t : Addr) (V : Cell) (cd : Int32) (n : Nat) (f : Nat → Int32) (U : State) : Prop := Exact "java/lang/String" x U ∧ Has x "java/lang/String" "value" "[B" (.ref t) U ∧ Has x "java/lang/String" "coder" "B" (.int cd) U ∧ XT.Arr .byte t V U ∧ Cod cd n f V ∧ ∀ j, j < n → ¬ f j < 0 ∧ ¬ 65535 < f j
theorem Txt.mv {x t : Addr} {V : Cell} {cd : Int32} {n : Nat} {f : Nat → Int32} {U U' : State} (h : Txt x t V cd n f U) (hal : U.vm.Alike U'.vm) (hh : U'.heap = U.heap) : Txt x t V cd n f U' := ⟨h.1.mv hal hh, h.2.1.mv hal hh, h.2.2.1.mv hal hh, h.2.2.2.1.mv hal hh, h.2.2.2.2⟩
namespace Cdr
def yN : MethodName := ⟨"java/lang/String", "coder", "()B"⟩
abbrev yB : ByteArray := jdk_42_method_152_code
theorem d0 : decode yB 0 = .ok (.getstatic 38, 3) := by decide +kernel
theorem d3 : decode yB 3 = .ok (.ifCond (.eq) 10, 3) := by decide +kernel
theorem d6 : decode yB 6 = .ok (.aload_n 0, 1) := by decide +kernel
theorem d7 : decode yB 7 = .ok (.getfield 15, 3) := by decide +kernel
theorem d10 : decode yB 10 = .ok (.goto 4, 3) := by decide +kernel
theorem d14 : decode yB 14 = .ok (.ireturn, 1) := by decide +kernel
def site : List Cond := [.fieldLink "java/lang/String" 38 "java/lang/String" "COMPACT_STRINGS" "Z", .fieldLink "java/lang/String" 15 "java/lang/String" "coder" "B"]
def tab : Cond := tabOf yN yB 1 (some .byte) site
def P (x : Addr) (cd z : Int32) (args : Array Value) (s : State) : Prop := args = #[.ref x] ∧ Has x "java/lang/String" "coder" "B" (.int cd) s ∧ (cd = 0 ∨ cd = 1) ∧ StaticIs s "java/lang/String" "COMPACT_STRINGS" "Z" (.int z) ∧ ¬ z = 0
def E (cd : Int32) (r : Option Value) (s u : State) : Prop := XT.PureE (some (.int cd)) r s u
theorem law (l : Launch) (x : Addr) (cd z : Int32) : Law l yN 1 0 0 0 yB 1 (some .byte) site (P x cd z) (E cd) [] 0 0 := by
  refine Law.of_walk (plainFor_of_name (by decide +kernel)) (by decide +kernel) (by decide +kernel) (by decide) (fun _ _ h => by rw [h.1]; rfl) (fun _ U U' hal hh h => ⟨h.1, h.2.1.mv hal hh, h.2.2.1, h.2.2.2.1.there hal hh, h.2.2.2.2⟩) (fun r U U' V V' h1 hal h2 h => XT.PureE.mv r U U' V V' h1 hal h2 h) ?_
  intro p e s m args below meth c s₁ X0 hexec hbytes hml hret hlk hnm hown hh0 W hP
  obtain ⟨rfl, hx, hc, s1, hz⟩ := hP
  have c1 : Steps p.tables e below (s₁.setTop (entryFrame m #[.ref x] 1)) (s₁.setTop (mkF m 0 #[.val (.ref x)] [])) := entry rfl
  obtain ⟨T2, X2, q2, st2⟩ := X0.sget hexec hown (wk W (.fieldLink "java/lang/String" 38 "java/lang/String" "COMPACT_STRINGS" "Z")) s1 (fun _ _ h => by rw [hh0]; exact h) (g := (mkF m 0 #[.val (.ref x)] [])) rfl (hb hbytes d0)
  have hh2 := q2.trans hh0
  have c3 : Steps p.tables e below (s₁.setTop (entryFrame m #[.ref x] 1)) (T2.setTop (mkF m 7 #[.val (.ref x)] [.ref x])) := (c1.trans (st2 _ (Steps.refl _))).trans (by
    refine XS.ifNo X2.here hexec rfl (hb hbytes d3) rfl (i0_eq_f hz) ?_
    refine XS.aloadN X2.here hexec rfl (hb hbytes d6) rfl rfl ?_
    exact Steps.refl _)
  obtain ⟨T4, X4, q4, st4⟩ := X2.hget hexec hown (wk W (.fieldLink "java/lang/String" 15 "java/lang/String" "coder" "B")) (hx.mv X2.warmed.alike hh2) (g := (mkF m 7 #[.val (.ref x)] [.ref x])) rfl (rest := []) rfl (hb hbytes d7)
  have c5 : Steps p.tables e below (s₁.setTop (entryFrame m #[.ref x] 1)) (T4.setTop (mkF m 14 #[.val (.ref x)] [.int cd])) := (c3.trans (st4 _ (Steps.refl _))).trans (by
    refine XS.goto X4.here hexec rfl (pc0 := 10) rfl (hb hbytes d10) (by decide) rfl ?_
    exact Steps.refl _)
  exact ⟨T4, some (.int cd), _, _, _, X4, rfl, rfl, rfl, (fun h => by cases h), ⟨rfl, q4.trans hh2⟩, fun fs hl => c5.trans (X4.ireturnOut hexec hret (by rcases hc with rfl | rfl <;> rfl) (Or.inr (Or.inr (Or.inl rfl))) (hb hbytes d14) hl)⟩
end Cdr
namespace Len
def yN : MethodName := ⟨"java/lang/String", "length", "()I"⟩
abbrev yB : ByteArray := jdk_42_method_54_code
theorem d0 : decode yB 0 = .ok (.aload_n 0, 1) := by decide +kernel
theorem d1 : decode yB 1 = .ok (.getfield 9, 3) := by decide +kernel
theorem d4 : decode yB 4 = .ok (.arraylength, 1) := by decide +kernel
theorem d5 : decode yB 5 = .ok (.aload_n 0, 1) := by decide +kernel
theorem d6 : decode yB 6 = .ok (.invokevirtual 335, 3) := by decide +kernel
theorem d9 : decode yB 9 = .ok (.ishr, 1) := by decide +kernel
theorem d10 : decode yB 10 = .ok (.ireturn, 1) := by decide +kernel
def site : List Cond := [.fieldLink "java/lang/String" 9 "java/lang/String" "value" "[B", Cdr.tab] ++ virtW "java/lang/String" 335 "java/lang/String" Cdr.yN Cdr.yN
def tab : Cond := tabOf yN yB 1 (some .int) site
def P (x t : Addr) (V : Cell) (cd : Int32) (n : Nat) (f : Nat → Int32) (z : Int32) (args : Array Value) (s : State) : Prop := args = #[.ref x] ∧ Txt x t V cd n f s ∧ StaticIs s "java/lang/String" "COMPACT_STRINGS" "Z" (.int z) ∧ ¬ z = 0
def E (n : Nat) (r : Option Value) (s u : State) : Prop := XT.PureE (some (.int (Int32.ofNat n))) r s u
/-- length() of a String of n chars, in either coding -/
theorem law (l : Launch) (x t : Addr) (V : Cell) (cd : Int32) (n : Nat) (f : Nat → Int32) (z : Int32) : Law l yN 1 0 1 13 yB 1 (some .int) site (P x t V cd n f z) (E n) [] 0 0 := by
  refine Law.of_walk (plainFor_of_name (by decide +kernel)) (by decide +kernel) (by decide +kernel) (by decide) (fun _ _ h => by rw [h.1]; rfl) (fun _ U U' hal hh h => ⟨h.1, h.2.1.mv hal hh, h.2.2.1.there hal hh, h.2.2.2⟩) (fun r U U' V V' h1 hal h2 h => XT.PureE.mv r U U' V V' h1 hal h2 h) ?_
  intro p e s m args below meth c s₁ X0 hexec hbytes hml hret hlk hnm hown hh0 W hP
  obtain ⟨rfl, hx, s1, hz⟩ := hP
  have v31 := hx.2.2.2.1.2.2.2
  have c1 : Steps p.tables e below (s₁.setTop (entryFrame m #[.ref x] 1)) (s₁.setTop (mkF m 1 #[.val (.ref x)] [.ref x])) := Steps.trans (entry rfl) (by
    show Steps p.tables e below (s₁.setTop (mkF m 0 #[.val (.ref x)] [])) _
    refine XS.aloadN X0.here hexec rfl (hb hbytes d0) rfl rfl ?_
    exact Steps.refl _)
  obtain ⟨T2, X2, q2, st2⟩ := X0.hget hexec hown (wk W (.fieldLink "java/lang/String" 9 "java/lang/String" "value" "[B")) (hx.mv X0.warmed.alike hh0).2.1 (g := (mkF m 1 #[.val (.ref x)] [.ref x])) rfl (rest := []) rfl (hb hbytes d1)
  have hh2 := q2.trans hh0
  have hx2 := hx.mv X2.warmed.alike hh2
  have c3 : Steps p.tables e below (s₁.setTop (entryFrame m #[.ref x] 1)) (T2.setTop (mkF m 6 #[.val (.ref x)] [.ref x, .int (Int32.ofNat V.slots.size)])) := (c1.trans (st2 _ (Steps.refl _))).trans (by
    refine X2.alen hexec hx2.2.2.2.1 rfl rfl (hb hbytes d4) ?_
    refine XS.aloadN X2.here hexec rfl (hb hbytes d5) rfl rfl ?_
    exact Steps.refl _)
  obtain ⟨v4, T4, X4, E4, g4⟩ := X2.callV hexec (Cdr.law l x cd z) hown (wks W (virtW "java/lang/String" 335 "java/lang/String" Cdr.yN Cdr.yN)) rfl (by decide) (wk W Cdr.tab) (W := 1) (Nat.le_of_ble_eq_true rfl) (Nat.le_of_ble_eq_true rfl) (Nat.le_refl _) (Nat.le_refl _) (hx2.1.fc X2.warmed.alike) hx2.1.is (g := (mkF m 6 #[.val (.ref x)] [.ref x, .int (Int32.ofNat V.slots.size)])) rfl (by rw [hml]; rfl) c3 (argsL := []) (rest := [.int (Int32.ofNat V.slots.size)]) rfl rfl (by show 2 * 0 + (1 + 0) ≤ _; decide) (hb hbytes d6) (⟨rfl, hx2.2.2.1, hx.2.2.2.2.1.cd, s1.there X2.warmed.alike hh2, hz⟩)
  obtain ⟨rfl, q4⟩ := E4
  have c5 : Steps p.tables e below (s₁.setTop (entryFrame m #[.ref x] 1)) (T4.setTop (mkF m 10 #[.val (.ref x)] [.int (Int32.ofNat V.slots.size >>> (cd &&& 31))])) := Steps.trans g4 (by
    refine ishr X4.here hexec rfl (hb hbytes d9) rfl ?_
    exact Steps.refl _)
  rw [hx.2.2.2.2.1.len v31] at c5
  exact ⟨T4, some (.int (Int32.ofNat n)), _, _, _, X4, rfl, rfl, rfl, (fun h => by cases h), ⟨rfl, q4.trans hh2⟩, fun fs hl => c5.trans (X4.ireturnOut hexec hret rfl (Or.inl rfl) (hb hbytes d10) hl)⟩
theorem pays {l : Launch} {R : Room} {p : Program} {e : Env} {below : List Frame} {s : State} {sargs : Array Value} {len W : Nat} (x t : Addr) (V : Cell) (cd : Int32) (n : Nat) (f : Nat → Int32) (z : Int32) (htab : tab.before sargs s = true) (hfr : 2 ≤ R.frames) (hlo : W + 25 ≤ R.locals) :
    Back l R p e below s sargs yN len W (fun A₁ a₁ => A₁.cells + 0 ≤ R.cells ∧ A₁.slots + 0 ≤ R.slots ∧ P x t V cd n f z a₁ A₁.U) (fun A₁ _ v₁ B₁ => E n v₁ A₁.U B₁.U ∧ B₁.locs = A₁.locs ++ [] ∧ B₁.cells = A₁.cells + 0 ∧ B₁.slots = A₁.slots + 0) :=
  (law l x t V cd n f z).pays htab hfr (by omega)
end Len
namespace IsL
def yN : MethodName := ⟨"java/lang/String", "isLatin1", "()Z"⟩
abbrev yB : ByteArray := jdk_42_method_154_code
theorem d0 : decode yB 0 = .ok (.getstatic 38, 3) := by decide +kernel
theorem d3 : decode yB 3 = .ok (.ifCond (.eq) 14, 3) := by decide +kernel
theorem d6 : decode yB 6 = .ok (.aload_n 0, 1) := by decide +kernel
theorem d7 : decode yB 7 = .ok (.getfield 15, 3) := by decide +kernel
theorem d10 : decode yB 10 = .ok (.ifCond (.ne) 7, 3) := by decide +kernel
theorem d13 : decode yB 13 = .ok (.iconst 1, 1) := by decide +kernel
theorem d14 : decode yB 14 = .ok (.goto 4, 3) := by decide +kernel
theorem d17 : decode yB 17 = .ok (.iconst 0, 1) := by decide +kernel
theorem d18 : decode yB 18 = .ok (.ireturn, 1) := by decide +kernel
def site : List Cond := [.fieldLink "java/lang/String" 38 "java/lang/String" "COMPACT_STRINGS" "Z", .fieldLink "java/lang/String" 15 "java/lang/String" "coder" "B"]
def tab : Cond := tabOf yN yB 1 (some .boolean) site
def P (x : Addr) (cd z : Int32) (args : Array Value) (s : State) : Prop := args = #[.ref x] ∧ Has x "java/lang/String" "coder" "B" (.int cd) s ∧ (cd = 0 ∨ cd = 1) ∧ StaticIs s "java/lang/String" "COMPACT_STRINGS" "Z" (.int z) ∧ ¬ z = 0
def E (cd : Int32) (r : Option Value) (s u : State) : Prop := XT.PureE (some (.int (1 - cd))) r s u
theorem law (l : Launch) (x : Addr) (cd z : Int32) : Law l yN 1 0 0 0 yB 1 (some .boolean) site (P x cd z) (E cd) [] 0 0 := by
  refine Law.of_walk (plainFor_of_name (by decide +kernel)) (by decide +kernel) (by decide +kernel) (by decide) (fun _ _ h => by rw [h.1]; rfl) (fun _ U U' hal hh h => ⟨h.1, h.2.1.mv hal hh, h.2.2.1, h.2.2.2.1.there hal hh, h.2.2.2.2⟩) (fun r U U' V V' h1 hal h2 h => XT.PureE.mv r U U' V V' h1 hal h2 h) ?_
  intro p e s m args below meth c s₁ X0 hexec hbytes hml hret hlk hnm hown hh0 W hP
  obtain ⟨rfl, hx, hc, s1, hz⟩ := hP
  have c1 : Steps p.tables e below (s₁.setTop (entryFrame m #[.ref x] 1)) (s₁.setTop (mkF m 0 #[.val (.ref x)] [])) := entry rfl
  obtain ⟨T2, X2, q2, st2⟩ := X0.sget hexec hown (wk W (.fieldLink "java/lang/String" 38 "java/lang/String" "COMPACT_STRINGS" "Z")) s1 (fun _ _ h => by rw [hh0]; exact h) (g := (mkF m 0 #[.val (.ref x)] [])) rfl (hb hbytes d0)
  have hh2 := q2.trans hh0
  have c3 : Steps p.tables e below (s₁.setTop (entryFrame m #[.ref x] 1)) (T2.setTop (mkF m 7 #[.val (.ref x)] [.ref x])) := (c1.trans (st2 _ (Steps.refl _))).trans (by
    refine XS.ifNo X2.here hexec rfl (hb hbytes d3) rfl (i0_eq_f hz) ?_
    refine XS.aloadN X2.here hexec rfl (hb hbytes d6) rfl rfl ?_
    exact Steps.refl _)
  obtain ⟨T4, X4, q4, st4⟩ := X2.hget hexec hown (wk W (.fieldLink "java/lang/String" 15 "java/lang/String" "coder" "B")) (hx.mv X2.warmed.alike hh2) (g := (mkF m 7 #[.val (.ref x)] [.ref x])) rfl (rest := []) rfl (hb hbytes d7)
  have c5 : Steps p.tables e below (s₁.setTop (entryFrame m #[.ref x] 1)) (T4.setTop (mkF m 10 #[.val (.ref x)] [.int cd])) := c3.trans (st4 _ (Steps.refl _))
  have c6 : Steps p.tables e below (s₁.setTop (entryFrame m #[.ref x] 1)) (T4.setTop (mkF m 18 #[.val (.ref x)] [.int (1 - cd)])) := by
    rcases hc with rfl | rfl
    · exact c5.trans (by
        refine XS.ifNo X4.here hexec rfl (hb hbytes d10) rfl (i0_ne_f rfl) ?_
        refine iconstV X4.here hexec rfl 1 (hb hbytes d13) (by decide) ?_
        refine XS.goto X4.here hexec rfl (pc0 := 14) rfl (hb hbytes d14) (by decide) rfl ?_
        exact Steps.refl _)
    · exact c5.trans (by
        refine XS.ifYes X4.here hexec rfl (pc0 := 10) rfl (hb hbytes d10) rfl (i0_ne_t (by decide)) (by decide) rfl ?_
        refine iconstV X4.here hexec rfl 0 (hb hbytes d17) (by decide) ?_
        exact Steps.refl _)
  exact ⟨T4, some (.int (1 - cd)), _, _, _, X4, rfl, rfl, rfl, (fun h => by cases h), ⟨rfl, q4.trans hh2⟩, fun fs hl => c6.trans (X4.ireturnOut hexec hret (by rcases hc with rfl | rfl <;> rfl) (Or.inr (Or.inl rfl)) (hb hbytes d18) hl)⟩
end IsL
namespace LChA
def yN : MethodName := ⟨"java/lang/StringLatin1", "charAt", "([BI)C"⟩
abbrev yB : ByteArray := jdk_43_method_2_code
theorem d0 : decode yB 0 = .ok (.iload_n 1, 1) := by decide +kernel
theorem d1 : decode yB 1 = .ok (.aload_n 0, 1) := by decide +kernel
theorem d2 : decode yB 2 = .ok (.arraylength, 1) := by decide +kernel
theorem d3 : decode yB 3 = .ok (.invokestatic 9, 3) := by decide +kernel
theorem d6 : decode yB 6 = .ok (.aload_n 0, 1) := by decide +kernel
theorem d7 : decode yB 7 = .ok (.iload_n 1, 1) := by decide +kernel
theorem d8 : decode yB 8 = .ok (.baload, 1) := by decide +kernel
theorem d9 : decode yB 9 = .ok (.sipush 255, 3) := by decide +kernel
theorem d12 : decode yB 12 = .ok (.iand, 1) := by decide +kernel
theorem d13 : decode yB 13 = .ok (.i2c, 1) := by decide +kernel
theorem d14 : decode yB 14 = .ok (.ireturn, 1) := by decide +kernel
def site : List Cond := [JO.Str_checkIndex.tab] ++ staticW "java/lang/StringLatin1" 9 JO.Str_checkIndex.yN
def tab : Cond := tabOf yN yB 2 (some .char) site
def P (t : Addr) (V : Cell) (i : Nat) (u : Int32) (fm : Value) (args : Array Value) (s : State) : Prop := args = #[.ref t, .int (Int32.ofNat i)] ∧ XT.Arr .byte t V s ∧ V.slots[i]? = some (.int u) ∧ (StaticIs s "jdk/internal/util/Preconditions" "SIOOBE_FORMATTER" "Ljava/util/function/BiFunction;" fm ∧ fm.isRef = true)
def E (u : Int32) (r : Option Value) (s w : State) : Prop := XT.PureE (some (.int (chr8 u))) r s w
theorem law (l : Launch) (t : Addr) (V : Cell) (i : Nat) (u : Int32) (fm : Value) : Law l yN 2 2 2 27 yB 2 (some .char) site (P t V i u fm) (E u) [] 0 0 := by
  refine Law.of_walk (plainFor_of_name (by decide +kernel)) (by decide +kernel) (by decide +kernel) (by decide) (fun _ _ h => by rw [h.1]; rfl) (fun _ U U' hal hh h => ⟨h.1, h.2.1.mv hal hh, h.2.2.1, h.2.2.2.1.there hal hh, h.2.2.2.2⟩) (fun r U U' V V' h1 hal h2 h => XT.PureE.mv r U U' V V' h1 hal h2 h) ?_
  intro p e s m args below meth c s₁ X0 hexec hbytes hml hret hlk hnm hown hh0 W hP
  obtain ⟨rfl, hV, hu, s1, rf⟩ := hP
  have v31 := hV.2.2.2
  have hi : i < V.slots.size := (Array.getElem?_eq_some_iff.mp hu).1
  have c1 : Steps p.tables e below (s₁.setTop (entryFrame m #[.ref t, .int (Int32.ofNat i)] 2)) (s₁.setTop (mkF m 0 #[.val (.ref t), .val (.int (Int32.ofNat i))] [])) := entry rfl
  have c2 : Steps p.tables e below (s₁.setTop (entryFrame m #[.ref t, .int (Int32.ofNat i)] 2)) (s₁.setTop (mkF m 3 #[.val (.ref t), .val (.int (Int32.ofNat i))] [.int (Int32.ofNat V.slots.size), .int (Int32.ofNat i)])) := c1.trans (by
    refine XS.iloadN X0.here hexec rfl (hb hbytes d0) rfl ?_
    refine XS.aloadN X0.here hexec rfl (hb hbytes d1) rfl rfl ?_
    refine X0.alen hexec (hV.mv X0.warmed.alike hh0) rfl rfl (hb hbytes d2) ?_
    exact Steps.refl _)
  obtain ⟨v3, T3, X3, E3, g3⟩ := X0.callS hexec (JO.Str_checkIndex.law l (Int32.ofNat i) (Int32.ofNat V.slots.size) fm) hown (wks W (staticW "java/lang/StringLatin1" 9 JO.Str_checkIndex.yN)) (wk W JO.Str_checkIndex.tab) (W := 0) (Nat.le_of_ble_eq_true rfl) (Nat.le_of_ble_eq_true rfl) (Nat.le_refl _) (Nat.le_refl _) (g := (mkF m 3 #[.val (.ref t), .val (.int (Int32.ofNat i))] [.int (Int32.ofNat V.slots.size), .int (Int32.ofNat i)])) rfl (by rw [hml]; rfl) c2 (argsL := [.int (Int32.ofNat i), .int (Int32.ofNat V.slots.size)]) (rest := []) rfl rfl (by show 2 * 0 + 0 ≤ _; decide) (hb hbytes d3) (⟨rfl, rf, s1.there X0.warmed.alike hh0, Int32.ofNat_not_neg (by omega), lt32 v31 hi⟩)
  obtain ⟨rfl, q3⟩ := E3
  have hh3 := q3.trans hh0
  have c4 : Steps p.tables e below (s₁.setTop (entryFrame m #[.ref t, .int (Int32.ofNat i)] 2)) (T3.setTop (mkF m 14 #[.val (.ref t), .val (.int (Int32.ofNat i))] [.int (chr8 u)])) := Steps.trans g3 (by
    refine XS.aloadN X3.here hexec rfl (hb hbytes d6) rfl rfl ?_
    refine XS.iloadN X3.here hexec rfl (hb hbytes d7) rfl ?_
    refine X3.aget hexec (hV.mv X3.warmed.alike hh3) rfl hu rfl rfl (hb hbytes d8) ?_
    refine sipushV X3.here hexec rfl 255 (hb hbytes d9) (by decide) ?_
    refine XS.iand X3.here hexec rfl (hb hbytes d12) rfl ?_
    refine i2c X3.here hexec rfl (hb hbytes d13) rfl ?_
    exact Steps.refl _)
  exact ⟨T3, some (.int (chr8 u)), _, _, _, X3, rfl, rfl, rfl, (fun h => by cases h), ⟨rfl, hh3⟩, fun fs hl => c4.trans (X3.ireturnOut hexec hret (narrow_c _) (Or.inr (Or.inr (Or.inr (Or.inl rfl)))) (hb hbytes d14) hl)⟩
end LChA
end StrChars
namespace StrChars.Road
open Jvm Sem ClassFile Op Lib Jvm.Stand Jvm.Free Jvm.Free.XT
open Jvm.Lib.Cold (StaticIs)
theorem consq {a : Array Value} {s : State} {c : Jvm.Cond} {L : List Jvm.Cond} (h0 : c.before a s = true) (h : ∀ w ∈ L, w.before a s = true) : ∀ w ∈ c :: L, w.before a s = true := fun w hw => (List.mem_cons.mp hw).elim (fun e => e ▸ h0) (h w)
/-- the words of String.length(), either coding -/
abbrev wordsLen : List Jvm.Cond := [.code Len.yN Len.yB 1 (some .int), .initialized ST, .fieldLink ST 9 ST "value" "[B", .fieldLink ST 38 ST "COMPACT_STRINGS" "Z", .fieldLink ST 15 ST "coder" "B", .code Cdr.yN Cdr.yB 1 (some .byte), .methodLink ST 335 Cdr.yN, .declares Cdr.yN, .selects ST Cdr.yN Cdr.yN, .instanceMethod Cdr.yN]
theorem tabLen_of {a : Array Value} {s : State} (h : ∀ w ∈ wordsLen, w.before a s = true) : Len.tab.before a s = true := by
  have hc : Cdr.tab.before a s = true := unparts (wk h (.code Cdr.yN Cdr.yB 1 (some .byte))) (wks h (.initialized Cdr.yN.cls :: Cdr.site))
  have q := consq hc h
  exact unparts (wk q (.code Len.yN Len.yB 1 (some .int))) (wks q (.initialized Len.yN.cls :: Len.site))
theorem movedLen {Z s : State} {a0 args : Array Value} (hZ : Z.Warmed39 s.vm) (hw : ∀ d ∈ wordsLen, d.before a0 Z = true) : ∀ d ∈ wordsLen, d.before args s = true := fun d hd => by
  have q := hw d hd
  have t : ∀ d ∈ wordsLen, d = .arrayClass .byte ∨ (d.onTables && d.keepsFace) = true := by decide +kernel
  rcases t d hd with rfl | t
  · exact RoadKit.mvA hZ q
  · exact RoadKit.mv hZ q t
/-- the bytes of the chars cs, low before high -/
def wideBytes : List Int32 → List Value
  | [] => []
  | c :: cs => .int (lo8 c) :: .int (hi8 c) :: wideBytes cs
theorem wide_lo (d : Value) : ∀ (cs : List Int32) (j : Nat), j < cs.length → (wideBytes cs).getD (2 * j) d = .int (lo8 (cs.getD j 0))
  | [], j, h => absurd h (Nat.not_lt_zero j)
  | c :: cs, 0, _ => rfl
  | c :: cs, j + 1, h => by
    have q := wide_lo d cs j (by simpa using h)
    rw [show 2 * (j + 1) = 2 * j + 1 + 1 from by omega]
    simpa [wideBytes] using q
theorem wide_hi (d : Value) : ∀ (cs : List Int32) (j : Nat), j < cs.length → (wideBytes cs).getD (2 * j + 1) d = .int (hi8 (cs.getD j 0))
  | [], j, h => absurd h (Nat.not_lt_zero j)
  | c :: cs, 0, _ => rfl
  | c :: cs, j + 1, h => by
    have q := wide_hi d cs j (by simpa using h)
    rw [show 2 * (j + 1) + 1 = 2 * j + 1 + 1 + 1 from by omega]
    simpa [wideBytes] using q
theorem low_at (d : Value) (cs : List Int32) (j : Nat) (h : j < cs.length) : (cs.map fun c => Value.int (lo8 c)).getD j d = .int (lo8 (cs.getD j 0)) := by
  simp [List.getD_eq_getElem?_getD, h]
/-- an array of N2 bytes vs codes the chars cs by the coder cd -/
def CodA (cs : List Int32) (cd N2 : Int32) (vs : List Value) : Prop := (cd = 0 ∧ N2 = Int32.ofNat cs.length ∧ vs = (cs.map fun c => Value.int (lo8 c)) ∧ ∀ c ∈ cs, ¬ 255 < c) ∨ (cd = 1 ∧ N2 = Int32.ofNat (2 * cs.length) ∧ vs = wideBytes cs ∧ ∃ c ∈ cs, 255 < c)
theorem CodA.cod {cs : List Int32} {cd N2 : Int32} {vs : List Value} {V : Cell} (h : CodA cs cd N2 vs) (hn : 2 * cs.length < 2 ^ 31) (hs : V.slots.size = N2.toNatClampNeg) (hv : RoadKit.Has V vs (.int 0)) : Cod cd cs.length (fun j => cs.getD j 0) V := by
  rcases h with ⟨rfl, rfl, rfl, h⟩ | ⟨rfl, rfl, rfl, c, hc, hw⟩
  · rw [n32 (by omega)] at hs
    exact Or.inl ⟨rfl, hs, fun j hj => ⟨by rw [hv j (by omega), low_at _ _ _ hj], by
      have e : cs.getD j 0 = cs[j] := by simp [List.getD_eq_getElem?_getD, hj]
      show ¬ 255 < cs.getD j 0
      rw [e]; exact h _ (List.getElem_mem _)⟩⟩
  · rw [n32 (by omega)] at hs
    obtain ⟨j, hj, rfl⟩ := List.getElem_of_mem hc
    exact Or.inr ⟨rfl, hs, fun j hj => ⟨by rw [hv _ (by omega), wide_lo _ _ _ hj], by rw [hv _ (by omega), wide_hi _ _ _ hj]⟩, j, hj, by
      have e : cs.getD j 0 = cs[j] := by simp [List.getD_eq_getElem?_getD, hj]
      show 255 < cs.getD j 0
      rw [e]; exact hw⟩
/-- an object of exactly java/lang/String, its two fields found: as the laws ask it -/
theorem strObj {Z U : State} {a0 : Array Value} {kI : Nat} (wi : (Jvm.Cond.instantiable ST kI).before a0 Z = true) (al : Z.vm.Alike U.vm) {x : Addr} {v0 c0 : Value} (E : RoadKit.Exa Z U.heap x ST) (V : RoadKit.Fld Z U.heap x ST "value" "[B" v0) (C : RoadKit.Fld Z U.heap x ST "coder" "B" c0) :
    ∃ (D : Cell) (fV fC : Field), Blank ST x D U ∧ Found ST "value" "[B" fV U ∧ Found ST "coder" "B" fC U ∧ D.slots[fV.slot]? = some v0 ∧ D.slots[fC.slot]? = some c0 ∧ RoadKit.slotOf Z ST "value" "[B" = fV.slot ∧ RoadKit.slotOf Z ST "coder" "B" = fC.slot := by
  obtain ⟨D, cfV, kV, iV, fV, hD, gV, stV, knV, obV, asV, slV⟩ := V
  obtain ⟨D', cfC, kC, iC, fC, hD', gC, stC, -, -, asC, slC⟩ := C
  cases hD.symm.trans hD'
  obtain ⟨D2, kD, e1, e2, e3, e4, e5⟩ := E
  cases hD.symm.trans e1
  obtain ⟨c2, k2, i1, i2, i3, -⟩ := Cond.instantiable_spec wi
  cases e2.symm.trans i1
  cases e3.symm.trans i2
  obtain ⟨kU, u1, u2⟩ := al.2.2 _ _ e3
  exact ⟨D, fV, fC, ⟨hD, ⟨knV, fun q hq => by rw [hq] at obV; cases obV⟩, by rw [al.findClass]; exact e2, kU, u1, by rw [u2]; exact i3, by rw [u2]; exact e5 i3⟩, ⟨SBG.found_only al ⟨cfV, kV, iV, gV⟩, stV⟩, ⟨SBG.found_only al ⟨cfC, kC, iC, gC⟩, stC⟩, slV, slC, by simp [RoadKit.slotOf, gV], by simp [RoadKit.slotOf, gC]⟩
theorem sta_is {Z U : State} (al : Z.vm.Alike U.vm) {C n d : String} {v : Value} (S : RoadKit.Sta Z U.heap C n d v) : StaticIs U C n d v := by
  obtain ⟨cfS, iS, kS, fS, st, cS, t1, t2, t3, t4, t5, t6, t7⟩ := S
  exact StaticIs.there (s := { Z with heap := U.heap }) ⟨cfS, iS, kS, fS, st, cS, t1, t2, t3, t4, t5, (fun q => by rw [q] at t6; cases t6), t7⟩ al rfl
/-- **length() OF SUCH A STRING** -/
theorem lenW {p : Program} {l : Launch} {e : Env} {R : Room} {s : State} {args : Array Value} {below : List Frame} {len W : Nat} {Z : State} {a0 : Array Value} {h : Heap} (hZ : Z.Warmed39 s.vm) (hw : ∀ d ∈ wordsLen, d.before a0 Z = true) {kI : Nat} (wi : (Jvm.Cond.instantiable ST kI).before a0 Z = true)
    {x t : Addr} {kb : ClassId} {cs : List Int32} {cd N2 z : Int32} {vs : List Value} (E : RoadKit.Exa Z h x ST) (V : RoadKit.Fld Z h x ST "value" "[B" (.ref t)) (C : RoadKit.Fld Z h x ST "coder" "B" (.int cd)) (K : RoadKit.Arv Z h t kb .byte N2 vs (.int 0)) (hc : CodA cs cd N2 vs) (hb : ∀ c ∈ cs, ¬ c < 0 ∧ ¬ (65535 : Int32) < c)
    (S : RoadKit.Sta Z h ST "COMPACT_STRINGS" "Z" (.int z)) (hz : ¬ z = 0) (l2 : cs.length ≤ 4000) (hfr : 2 ≤ R.frames) (hlo : W + 25 ≤ R.locals) :
    Back l R p e below s args (⟨"java/lang/String", "length", "()I"⟩ : MethodName) len W (fun P a => a = #[.ref x] ∧ P.U.heap = h ∧ P.cells + 0 ≤ R.cells ∧ P.slots + 0 ≤ R.slots)
      (fun P _ v B => ∃ L, (v = some (.int (Int32.ofNat cs.length)) ∧ L = [] ∧ B.U.heap = h) ∧ B.locs = P.locs ++ L ∧ B.cells = P.cells + 0 ∧ B.slots = P.slots + 0) := by
  obtain ⟨A, K1, K2, K3, K4, K5, K6⟩ := K
  have hcod := hc.cod (by omega) K3 K5
  intro m meth c P g ig mk a X hg hsize hdg hW hn hp'
  obtain ⟨rfl, rfl, r1, r2⟩ := hp'
  have al : Z.vm.Alike P.U.vm := hZ.alike.trans X.warmed.alike
  obtain ⟨D, fV, fC, hB, F1, F2, g1, g2, -, -⟩ := strObj wi al E V C
  have hx : Txt x t A cd cs.length (fun j => cs.getD j 0) P.U := ⟨⟨_, hB.2.2.1, D, hB.1, rfl, by cases q : D.vm <;> first | rfl | exact absurd q (hB.2.1.2 _)⟩, Has.of hB F1 g1, Has.of hB F2 g2, ⟨K1.1, State.isArrayOf_alike al K1.2.1, K1.2.2, by rcases hcod with ⟨-, q, -⟩ | ⟨-, q, -⟩ <;> omega⟩, hcod, fun j hj => by
    have e : cs.getD j 0 = cs[j] := by simp [List.getD_eq_getElem?_getD, hj]
    show ¬ cs.getD j 0 < 0 ∧ ¬ 65535 < cs.getD j 0
    rw [e]; exact hb _ (List.getElem_mem _)⟩
  obtain ⟨v, B, X', ⟨⟨hv, hh⟩, hl, hk, hs⟩, st⟩ := Len.pays x t A cd cs.length (fun j => cs.getD j 0) z (tabLen_of (movedLen hZ hw)) hfr hlo m meth c P g ig mk _ X hg hsize hdg hW hn ⟨r1, r2, rfl, hx, sta_is al S, hz⟩
  exact ⟨v, B, X', ⟨[], ⟨hv, rfl, hh⟩, hl, hk, hs⟩, st⟩
end StrChars.Road
namespace StrChars.Road
open Jvm Sem ClassFile Op Lib Jvm.Stand Jvm.Free Jvm.Free.XT
open Jvm.Lib.Cold (StaticIs)
/-- the road's facts of a String, as the laws ask it -/
theorem txt_of {Z U : State} {a0 : Array Value} {kI : Nat} (wi : (Jvm.Cond.instantiable ST kI).before a0 Z = true) (al : Z.vm.Alike U.vm) {x t : Addr} {kb : ClassId} {cs : List Int32} {cd N2 : Int32} {vs : List Value} (E : RoadKit.Exa Z U.heap x ST) (V : RoadKit.Fld Z U.heap x ST "value" "[B" (.ref t)) (C : RoadKit.Fld Z U.heap x ST "coder" "B" (.int cd)) (K : RoadKit.Arv Z U.heap t kb .byte N2 vs (.int 0)) (hc : CodA cs cd N2 vs) (hb : ∀ c ∈ cs, ¬ c < 0 ∧ ¬ (65535 : Int32) < c) (l2 : cs.length ≤ 4000) :
    ∃ A, Txt x t A cd cs.length (fun j => cs.getD j 0) U := by
  obtain ⟨A, K1, K2, K3, K4, K5, K6⟩ := K
  have hcod := hc.cod (by omega) K3 K5
  obtain ⟨D, fV, fC, hB, F1, F2, g1, g2, -, -⟩ := strObj wi al E V C
  exact ⟨A, ⟨_, hB.2.2.1, D, hB.1, rfl, by cases q : D.vm <;> first | rfl | exact absurd q (hB.2.1.2 _)⟩, Has.of hB F1 g1, Has.of hB F2 g2, ⟨K1.1, State.isArrayOf_alike al K1.2.1, K1.2.2, by rcases hcod with ⟨-, q, -⟩ | ⟨-, q, -⟩ <;> omega⟩, hcod, fun j hj => by
    have e : cs.getD j 0 = cs[j] := by simp [List.getD_eq_getElem?_getD, hj]
    show ¬ cs.getD j 0 < 0 ∧ ¬ 65535 < cs.getD j 0
    rw [e]; exact hb _ (List.getElem_mem _)⟩
end StrChars.Road
namespace StrChars
open Jvm Sem ClassFile Op Lib Jvm.Stand Jvm.Free.XT Jvm.Free.ALB Jvm.Free.JM Jvm.Free
open Jvm.Lib.Cold (StaticIs)
namespace ChN
def yN : MethodName := ⟨"java/lang/String", "charAt", "(I)C"⟩
abbrev yB : ByteArray := jdk_42_method_56_code
theorem d0 : decode yB 0 = .ok (.aload_n 0, 1) := by decide +kernel
theorem d1 : decode yB 1 = .ok (.invokevirtual 492, 3) := by decide +kernel
theorem d4 : decode yB 4 = .ok (.ifCond (.eq) 12, 3) := by decide +kernel
theorem d7 : decode yB 7 = .ok (.aload_n 0, 1) := by decide +kernel
theorem d8 : decode yB 8 = .ok (.getfield 9, 3) := by decide +kernel
theorem d11 : decode yB 11 = .ok (.iload_n 1, 1) := by decide +kernel
theorem d12 : decode yB 12 = .ok (.invokestatic 495, 3) := by decide +kernel
theorem d15 : decode yB 15 = .ok (.ireturn, 1) := by decide +kernel
def site : List Cond := [.fieldLink "java/lang/String" 9 "java/lang/String" "value" "[B", IsL.tab, LChA.tab] ++ virtW "java/lang/String" 492 "java/lang/String" IsL.yN IsL.yN ++ staticW "java/lang/String" 495 LChA.yN
def tab : Cond := tabOf yN yB 2 (some .char) site
def P (x t : Addr) (V : Cell) (n : Nat) (f : Nat → Int32) (z : Int32) (fm : Value) (i : Nat) (args : Array Value) (s : State) : Prop := args = #[.ref x, .int (Int32.ofNat i)] ∧ Txt x t V 0 n f s ∧ i < n ∧ StaticIs s "java/lang/String" "COMPACT_STRINGS" "Z" (.int z) ∧ ¬ z = 0 ∧ StaticIs s "jdk/internal/util/Preconditions" "SIOOBE_FORMATTER" "Ljava/util/function/BiFunction;" fm ∧ fm.isRef = true
def E (f : Nat → Int32) (i : Nat) (r : Option Value) (s u : State) : Prop := XT.PureE (some (.int (f i))) r s u
/-- charAt(i) of a Latin-1 String of n chars, i < n: f i -/
theorem law (l : Launch) (x t : Addr) (V : Cell) (n : Nat) (f : Nat → Int32) (z : Int32) (fm : Value) (i : Nat) : Law l yN 2 1 3 40 yB 2 (some .char) site (P x t V n f z fm i) (E f i) [] 0 0 := by
  refine Law.of_walk (plainFor_of_name (by decide +kernel)) (by decide +kernel) (by decide +kernel) (by decide) (fun _ _ h => by rw [h.1]; rfl) (fun _ U U' hal hh h => ⟨h.1, h.2.1.mv hal hh, h.2.2.1, h.2.2.2.1.there hal hh, h.2.2.2.2.1, h.2.2.2.2.2.1.there hal hh, h.2.2.2.2.2.2⟩) (fun r U U' V V' h1 hal h2 h => XT.PureE.mv r U U' V V' h1 hal h2 h) ?_
  intro p e s m args below meth c s₁ X0 hexec hbytes hml hret hlk hnm hown hh0 W hP
  obtain ⟨rfl, hx, hi, s1, hz, s3, rf⟩ := hP
  have v31 := hx.2.2.2.1.2.2.2
  have hr := hx.2.2.2.2.2 i hi
  have hx0 := hx.mv X0.warmed.alike hh0
  have c1 : Steps p.tables e below (s₁.setTop (entryFrame m #[.ref x, .int (Int32.ofNat i)] 2)) (s₁.setTop (mkF m 1 #[.val (.ref x), .val (.int (Int32.ofNat i))] [.ref x])) := Steps.trans (entry rfl) (by
    show Steps p.tables e below (s₁.setTop (mkF m 0 #[.val (.ref x), .val (.int (Int32.ofNat i))] [])) _
    refine XS.aloadN X0.here hexec rfl (hb hbytes d0) rfl rfl ?_
    exact Steps.refl _)
  obtain ⟨v2, T2, X2, E2, g2⟩ := X0.callV hexec (IsL.law l x 0 z) hown (wks W (virtW "java/lang/String" 492 "java/lang/String" IsL.yN IsL.yN)) rfl (by decide) (wk W IsL.tab) (W := 0) (Nat.le_of_ble_eq_true rfl) (Nat.le_of_ble_eq_true rfl) (Nat.le_refl _) (Nat.le_refl _) (hx0.1.fc X0.warmed.alike) hx0.1.is (g := (mkF m 1 #[.val (.ref x), .val (.int (Int32.ofNat i))] [.ref x])) rfl (by rw [hml]; rfl) c1 (argsL := []) (rest := []) rfl rfl (by show 2 * 0 + 0 ≤ _; decide) (hb hbytes d1) (⟨rfl, hx0.2.2.1, hx.2.2.2.2.1.cd, s1.there X0.warmed.alike hh0, hz⟩)
  obtain ⟨rfl, q2⟩ := E2
  have hh2 := q2.trans hh0
  have hx2 := hx.mv X2.warmed.alike hh2
  obtain ⟨-, k1, k2⟩ | ⟨k0, -⟩ := hx.2.2.2.2.1
  · have c3 : Steps p.tables e below (s₁.setTop (entryFrame m #[.ref x, .int (Int32.ofNat i)] 2)) (T2.setTop (mkF m 8 #[.val (.ref x), .val (.int (Int32.ofNat i))] [.ref x])) := Steps.trans g2 (by
      refine XS.ifNo X2.here hexec rfl (hb hbytes d4) rfl (i0_eq_f (by decide)) ?_
      refine XS.aloadN X2.here hexec rfl (hb hbytes d7) rfl rfl ?_
      exact Steps.refl _)
    obtain ⟨T4, X4, q4, st4⟩ := X2.hget hexec hown (wk W (.fieldLink "java/lang/String" 9 "java/lang/String" "value" "[B")) hx2.2.1 (g := (mkF m 8 #[.val (.ref x), .val (.int (Int32.ofNat i))] [.ref x])) rfl (rest := []) rfl (hb hbytes d8)
    have hh4 := q4.trans hh2
    have c5 : Steps p.tables e below (s₁.setTop (entryFrame m #[.ref x, .int (Int32.ofNat i)] 2)) (T4.setTop (mkF m 12 #[.val (.ref x), .val (.int (Int32.ofNat i))] [.int (Int32.ofNat i), .ref t])) := (c3.trans (st4 _ (Steps.refl _))).trans (by
      refine XS.iloadN X4.here hexec rfl (hb hbytes d11) rfl ?_
      exact Steps.refl _)
    obtain ⟨v6, T6, X6, E6, g6⟩ := X4.callS hexec (LChA.law l t V i (lo8 (f i)) fm) hown (wks W (staticW "java/lang/String" 495 LChA.yN)) (wk W LChA.tab) (W := 0) (Nat.le_of_ble_eq_true rfl) (Nat.le_of_ble_eq_true rfl) (Nat.le_refl _) (Nat.le_refl _) (g := (mkF m 12 #[.val (.ref x), .val (.int (Int32.ofNat i))] [.int (Int32.ofNat i), .ref t])) rfl (by rw [hml]; rfl) c5 (argsL := [.ref t, .int (Int32.ofNat i)]) (rest := []) rfl rfl (by show 2 * 0 + 0 ≤ _; decide) (hb hbytes d12) (⟨rfl, hx.2.2.2.1.mv X4.warmed.alike hh4, (k2 i hi).1, s3.there X4.warmed.alike hh4, rf⟩)
    obtain ⟨rfl, q6⟩ := E6
    rw [chr8_lo8 hr.1 (k2 i hi).2] at g6
    exact ⟨T6, some (.int (f i)), _, _, _, X6, rfl, rfl, rfl, (fun h => by cases h), ⟨rfl, q6.trans hh4⟩, fun fs hl => Steps.trans g6 (X6.ireturnOut hexec hret (narrow_ch hr.1 hr.2) (Or.inr (Or.inr (Or.inr (Or.inl rfl)))) (hb hbytes d15) hl)⟩
  · exact absurd k0 (by decide)
theorem pays {l : Launch} {R : Room} {p : Program} {e : Env} {below : List Frame} {s : State} {sargs : Array Value} {len W : Nat} (x t : Addr) (V : Cell) (n : Nat) (f : Nat → Int32) (z : Int32) (fm : Value) (i : Nat) (htab : tab.before sargs s = true) (hfr : 4 ≤ R.frames) (hlo : W + 53 ≤ R.locals) :
    Back l R p e below s sargs yN len W (fun A₁ a₁ => A₁.cells + 0 ≤ R.cells ∧ A₁.slots + 0 ≤ R.slots ∧ P x t V n f z fm i a₁ A₁.U) (fun A₁ _ v₁ B₁ => E f i v₁ A₁.U B₁.U ∧ B₁.locs = A₁.locs ++ [] ∧ B₁.cells = A₁.cells + 0 ∧ B₁.slots = A₁.slots + 0) :=
  (law l x t V n f z fm i).pays htab hfr (by omega)
end ChN
end StrChars
namespace StrChars.Road
open Jvm Sem ClassFile Op Lib Jvm.Stand Jvm.Free Jvm.Free.XT
open Jvm.Lib.Cold (StaticIs)
/-- the words of String.charAt(int), the Latin-1 road alone -/
abbrev wordsChN : List Jvm.Cond := [.code ChN.yN ChN.yB 2 (some .char), .initialized ST, .fieldLink ST 9 ST "value" "[B", .fieldLink ST 38 ST "COMPACT_STRINGS" "Z", .fieldLink ST 15 ST "coder" "B", .code IsL.yN IsL.yB 1 (some .boolean), .methodLink ST 492 IsL.yN, .declares IsL.yN, .selects ST IsL.yN IsL.yN, .instanceMethod IsL.yN,
  .methodLink ST 495 LChA.yN, .static LChA.yN, .code LChA.yN LChA.yB 2 (some .char), .initialized "java/lang/StringLatin1", .methodLink "java/lang/StringLatin1" 9 JO.Str_checkIndex.yN, .static JO.Str_checkIndex.yN, .code JO.Str_checkIndex.yN JO.Str_checkIndex.yB 2 none,
  .fieldLink ST 1053 "jdk/internal/util/Preconditions" "SIOOBE_FORMATTER" "Ljava/util/function/BiFunction;", .methodLink ST 1059 JC.PreCheck.yN, .static JC.PreCheck.yN, .code JC.PreCheck.yN JC.PreCheck.yB 3 (some .int), .initialized "jdk/internal/util/Preconditions"]
theorem tabChN_of {a : Array Value} {s : State} (h : ∀ w ∈ wordsChN, w.before a s = true) : ChN.tab.before a s = true := by
  have hp : JC.PreCheck.tab.before a s = true := unparts (wk h (.code JC.PreCheck.yN JC.PreCheck.yB 3 (some .int))) (wks h (.initialized JC.PreCheck.yN.cls :: JC.PreCheck.site))
  have qk := consq hp h
  have hk : JO.Str_checkIndex.tab.before a s = true := unparts (wk qk (.code JO.Str_checkIndex.yN JO.Str_checkIndex.yB 2 none)) (wks qk (.initialized JO.Str_checkIndex.yN.cls :: JO.Str_checkIndex.site))
  have ql := consq hk h
  have hl : LChA.tab.before a s = true := unparts (wk ql (.code LChA.yN LChA.yB 2 (some .char))) (wks ql (.initialized LChA.yN.cls :: LChA.site))
  have hi : IsL.tab.before a s = true := unparts (wk h (.code IsL.yN IsL.yB 1 (some .boolean))) (wks h (.initialized IsL.yN.cls :: IsL.site))
  have q := consq hi (consq hl h)
  exact unparts (wk q (.code ChN.yN ChN.yB 2 (some .char))) (wks q (.initialized ChN.yN.cls :: ChN.site))
theorem movedChN {Z s : State} {a0 args : Array Value} (hZ : Z.Warmed39 s.vm) (hw : ∀ d ∈ wordsChN, d.before a0 Z = true) : ∀ d ∈ wordsChN, d.before args s = true := fun d hd => by
  have t : ∀ d ∈ wordsChN, (d.onTables && d.keepsFace) = true := by decide +kernel
  exact RoadKit.mv hZ (hw d hd) (t d hd)
/-- **charAt(i) OF A LATIN-1 STRING**, i < n: the char -/
theorem chN {p : Program} {l : Launch} {e : Env} {R : Room} {s : State} {args : Array Value} {below : List Frame} {len W : Nat} {Z : State} {a0 : Array Value} {h : Heap} (hZ : Z.Warmed39 s.vm) (hw : ∀ d ∈ wordsChN, d.before a0 Z = true) {kI : Nat} (wi : (Jvm.Cond.instantiable ST kI).before a0 Z = true)
    {x t : Addr} {kb : ClassId} {cs : List Int32} {N2 z : Int32} {vs : List Value} {fm : Value} {i : Nat} {j : Int32} (E : RoadKit.Exa Z h x ST) (V : RoadKit.Fld Z h x ST "value" "[B" (.ref t)) (C : RoadKit.Fld Z h x ST "coder" "B" (.int 0)) (K : RoadKit.Arv Z h t kb .byte N2 vs (.int 0)) (hc : CodA cs 0 N2 vs) (hb : ∀ c ∈ cs, ¬ c < 0 ∧ ¬ (65535 : Int32) < c)
    (S : RoadKit.Sta Z h ST "COMPACT_STRINGS" "Z" (.int z)) (hz : ¬ z = 0) (F : RoadKit.Sta Z h "jdk/internal/util/Preconditions" "SIOOBE_FORMATTER" "Ljava/util/function/BiFunction;" fm) (rf : fm.isRef = true) (l2 : cs.length ≤ 4000) (hi : i < cs.length) (hj : j = Int32.ofNat i) (hfr : 4 ≤ R.frames) (hlo : W + 53 ≤ R.locals) :
    Back l R p e below s args (⟨"java/lang/String", "charAt", "(I)C"⟩ : MethodName) len W (fun P a => a = #[.ref x, .int j] ∧ P.U.heap = h ∧ P.cells + 0 ≤ R.cells ∧ P.slots + 0 ≤ R.slots)
      (fun P _ v B => ∃ L, (v = some (.int (cs.getD i 0)) ∧ L = [] ∧ B.U.heap = h) ∧ B.locs = P.locs ++ L ∧ B.cells = P.cells + 0 ∧ B.slots = P.slots + 0) := by
  subst hj
  intro m meth c P g ig mk a X hg hsize hdg hW hn hp'
  obtain ⟨rfl, rfl, r1, r2⟩ := hp'
  have al : Z.vm.Alike P.U.vm := hZ.alike.trans X.warmed.alike
  obtain ⟨A, hx⟩ := txt_of wi al E V C K hc hb l2
  obtain ⟨v, B, X', ⟨⟨hv, hh⟩, hl, hk, hs⟩, st⟩ := ChN.pays x t A cs.length (fun j => cs.getD j 0) z fm i (tabChN_of (movedChN hZ hw)) hfr hlo m meth c P g ig mk _ X hg hsize hdg hW hn ⟨r1, r2, rfl, hx, hi, sta_is al S, hz, sta_is al F, rf⟩
  exact ⟨v, B, X', ⟨[], ⟨hv, rfl, hh⟩, hl, hk, hs⟩, st⟩
/-- what backV says of its String, as the contracts of this text ask it: cs's low bytes, coder 0 -/
theorem codOf {cs : List Int32} {n : Nat} (hn : cs.length = n) (hb : ∀ c ∈ cs, ¬ 255 < c) : CodA cs 0 (Int32.ofNat n) ((cs.map lo8).map Value.int) := Or.inl ⟨rfl, by rw [hn], by simp [List.map_map, Function.comp_def], hb⟩
end StrChars.Road
end Jvm.Pilot.@@N@@
namespace Jvm.Pilot.@@N@@
open Jvm Jvm.ClassFile Sem Op Lib Jvm.Free Jvm.Stand Jvm.LawKit Jvm.RoadKit Bundle Jvm.Pilot.@@N@@.Jvm.D
theorem own_hws {a0 : Array Value} {Z : State} (hw : ∀ d ∈ tables_1, d.before a0 Z = true) : ∀ d ∈ StrChars.Road.words, d.before a0 Z = true := fun d hd => hw d ((by decide +kernel : ∀ d ∈ StrChars.Road.words, d ∈ tables_1) d hd)
def own_str (cs : List Int32) : List Value := (cs.map (fun c => c.toInt8.toInt32)).map Value.int
def QnewS (Z : State) (x : Addr) (N : Int32) (cs : List Int32) (h : Heap) (n0 : Nat) (v : Option Value) (h' : Heap) (L : List Loc) : Prop := ∃ (t : Addr) (kb : ClassId), v = none ∧ Fr n0 L ∧ Keep h h' [x] ∧ Fld Z h' x "java/lang/String" "coder" "B" (.int (0 : Int32)) ∧ Fld Z h' x "java/lang/String" "value" "[B" (.ref t) ∧ Arv Z h' t kb .byte N (own_str cs) (.int (0 : Int32)) ∧ h.size ≤ t
theorem own_newS {p : Program} {l : Launch} {e : Env} {R : Room} {s : State} {args : Array Value} {below : List Frame} {W : Nat} {Z : State} {a0 : Array Value} {h : Heap} (hZ : Z.Warmed39 s.vm) (hw : ∀ d ∈ tables_1, d.before a0 Z = true) {kI : Nat} (wi : (Jvm.Cond.instantiable "java/lang/String" kI).before a0 Z = true)
    {x b : Addr} {kC : ClassId} {cs : List Int32} {d v0 c0 : Value} {z N : Int32} {n n0 : Nat} (hx0 : n0 ≤ x) (hh0 : n0 ≤ h.size) (E : Exa Z h x "java/lang/String") (V : Fld Z h x "java/lang/String" "value" "[B" v0) (C : Fld Z h x "java/lang/String" "coder" "B" c0) (K : Arv Z h b kC .char N (cs.map Value.int) d) (S : Sta Z h "java/lang/String" "COMPACT_STRINGS" "Z" (.int z)) (hz : ¬ z = 0)
    (hn : cs.length = n) (hN : N = Int32.ofNat n) (l0 : 0 < n) (l2 : n ≤ 4000) (hp : ∀ c ∈ cs, ¬ c < 0 ∧ ¬ (255 : Int32) < c) (hfr : 4 ≤ R.frames) (hlo : W + 65 ≤ R.locals) :
    OBk l R p e below s args (⟨"java/lang/String", "<init>", "([C)V"⟩ : MethodName) 3 W (#[.ref x, .ref b] : Array Value) h 1 n (QnewS Z x N cs h n0) :=
  Back.mono (StrChars.Road.backV hZ (own_hws hw) wi hx0 hh0 E V C K S hz hn hN l0 l2 hp rfl hfr hlo) (fun _ _ q => q) (fun P a v B hp q => by
    obtain ⟨L, ⟨q1, q2, q3, q4, q5, t, kb, q6, q7, q8, q9, q10⟩, r⟩ := q
    exact ⟨L, ⟨t, kb, q1, q2, q3, q5, q9, q10, q7⟩, r⟩)
theorem own_and255 (x : Int32) : ¬ nar .char ((x &&& (255 : Int32)).toUInt32.toUInt16.toUInt32.toInt32) < 0 ∧ ¬ (255 : Int32) < nar .char ((x &&& (255 : Int32)).toUInt32.toUInt16.toUInt32.toInt32) := by
  have t : ∀ k : Fin 256, ¬ nar .char ((Int32.ofNat k.val).toUInt32.toUInt16.toUInt32.toInt32) < 0 ∧ ¬ (255 : Int32) < nar .char ((Int32.ofNat k.val).toUInt32.toUInt16.toUInt32.toInt32) := by decide +kernel
  have h : (x &&& 255).toBitVec.toNat < 256 := by
    simp only [Int32.toBitVec_and, BitVec.toNat_and]
    exact Nat.lt_succ_of_le Nat.and_le_right
  have e : (x &&& 255) = Int32.ofNat (x &&& 255).toBitVec.toNat := by
    apply Int32.toBitVec_inj.mp
    show _ = BitVec.ofNat 32 _
    rw [BitVec.ofNat_toNat]; simp
  rw [e]
  exact t ⟨_, h⟩
theorem own_up (cs : List Int32) (h : ∀ c ∈ cs, ¬ c < 0 ∧ ¬ (255 : Int32) < c) : ∀ c ∈ cs, ¬ c < 0 ∧ ¬ (65535 : Int32) < c := fun c hc => ⟨(h c hc).1, fun q => (h c hc).2 (by rw [Int32.lt_iff_toInt_lt] at q ⊢; have e1 : (65535 : Int32).toInt = 65535 := rfl; have e2 : (255 : Int32).toInt = 255 := rfl; omega)⟩
theorem own_c0 : ∀ c ∈ ([] : List Int32), ¬ c < 0 ∧ ¬ (255 : Int32) < c := fun _ q => nomatch q
theorem own_cS {a : Int32} {cs : List Int32} (ha : ¬ a < 0 ∧ ¬ (255 : Int32) < a) (h : ∀ c ∈ cs, ¬ c < 0 ∧ ¬ (255 : Int32) < c) : ∀ c ∈ a :: cs, ¬ c < 0 ∧ ¬ (255 : Int32) < c := fun c q => (List.mem_cons.mp q).elim (fun e => e ▸ ha) (h c)

theorem own_hln {a0 : Array Value} {Z : State} (hw : ∀ d ∈ tables_1, d.before a0 Z = true) : ∀ d ∈ StrChars.Road.wordsLen, d.before a0 Z = true := fun d hd => hw d ((by decide +kernel : ∀ d ∈ StrChars.Road.wordsLen, d ∈ tables_1) d hd)
def QlenS (cs : List Int32) (h : Heap) (n0 : Nat) (v : Option Value) (h' : Heap) (L : List Loc) : Prop := v = some (.int (Int32.ofNat cs.length)) ∧ Fr n0 L ∧ h' = h
theorem own_lenS {p : Program} {l : Launch} {e : Env} {R : Room} {s : State} {args : Array Value} {below : List Frame} {W n0 : Nat} {Z : State} {a0 : Array Value} {h : Heap} (hZ : Z.Warmed39 s.vm) (hw : ∀ d ∈ tables_1, d.before a0 Z = true) {kI : Nat} (wi : (Jvm.Cond.instantiable "java/lang/String" kI).before a0 Z = true)
    {x t : Addr} {kb : ClassId} {cs : List Int32} {N z : Int32} {n : Nat} (E : Exa Z h x "java/lang/String") (V : Fld Z h x "java/lang/String" "value" "[B" (.ref t)) (C : Fld Z h x "java/lang/String" "coder" "B" (.int (0 : Int32))) (K : Arv Z h t kb .byte N (own_str cs) (.int (0 : Int32))) (S : Sta Z h "java/lang/String" "COMPACT_STRINGS" "Z" (.int z)) (hz : ¬ z = 0)
    (hn : cs.length = n) (hN : N = Int32.ofNat n) (hp : ∀ c ∈ cs, ¬ c < 0 ∧ ¬ (255 : Int32) < c) (l2 : n ≤ 4000) (hfr : 2 ≤ R.frames) (hlo : W + 25 ≤ R.locals) :
    OBk l R p e below s args (⟨"java/lang/String", "length", "()I"⟩ : MethodName) 3 W (#[.ref x] : Array Value) h 0 0 (QlenS cs h n0) := by
  subst hN
  exact Back.mono (StrChars.Road.lenW hZ (own_hln hw) wi E V C K (StrChars.Road.codOf hn (fun c hc => (hp c hc).2)) (own_up cs hp) S hz (by omega) hfr hlo) (fun _ _ q => q) (fun P a v B hp q => by
    obtain ⟨L, ⟨q1, q2, q3⟩, r⟩ := q
    exact ⟨L, ⟨q1, by rw [q2]; exact Fr.nil n0, q3⟩, r⟩)

theorem own_hch {a0 : Array Value} {Z : State} (hw : ∀ d ∈ tables_1, d.before a0 Z = true) : ∀ d ∈ StrChars.Road.wordsChN, d.before a0 Z = true := fun d hd => hw d ((by decide +kernel : ∀ d ∈ StrChars.Road.wordsChN, d ∈ tables_1) d hd)
def QchS (cs : List Int32) (i : Nat) (h : Heap) (n0 : Nat) (v : Option Value) (h' : Heap) (L : List Loc) : Prop := v = some (.int (cs.getD i 0)) ∧ Fr n0 L ∧ h' = h
theorem own_chS {p : Program} {l : Launch} {e : Env} {R : Room} {s : State} {args : Array Value} {below : List Frame} {W n0 : Nat} {Z : State} {a0 : Array Value} {h : Heap} (hZ : Z.Warmed39 s.vm) (hw : ∀ d ∈ tables_1, d.before a0 Z = true) {kI : Nat} (wi : (Jvm.Cond.instantiable "java/lang/String" kI).before a0 Z = true)
    {x t : Addr} {kb : ClassId} {cs : List Int32} {N z : Int32} {n i : Nat} {j : Int32} {fm : Value} (E : Exa Z h x "java/lang/String") (V : Fld Z h x "java/lang/String" "value" "[B" (.ref t)) (C : Fld Z h x "java/lang/String" "coder" "B" (.int (0 : Int32))) (K : Arv Z h t kb .byte N (own_str cs) (.int (0 : Int32))) (S : Sta Z h "java/lang/String" "COMPACT_STRINGS" "Z" (.int z)) (hz : ¬ z = 0)
    (F : Sta Z h "jdk/internal/util/Preconditions" "SIOOBE_FORMATTER" "Ljava/util/function/BiFunction;" fm) (rf : fm.isRef = true)
    (hn : cs.length = n) (hN : N = Int32.ofNat n) (hp : ∀ c ∈ cs, ¬ c < 0 ∧ ¬ (255 : Int32) < c) (l2 : n ≤ 4000) (hi : i < n) (hj : j = Int32.ofNat i) (hfr : 4 ≤ R.frames) (hlo : W + 53 ≤ R.locals) :
    OBk l R p e below s args (⟨"java/lang/String", "charAt", "(I)C"⟩ : MethodName) 3 W (#[.ref x, .int j] : Array Value) h 0 0 (QchS cs i h n0) := by
  subst hN
  exact Back.mono (StrChars.Road.chN hZ (own_hch hw) wi E V C K (StrChars.Road.codOf hn (fun c hc => (hp c hc).2)) (own_up cs hp) S hz F rf (by omega) (by omega) hj hfr hlo) (fun _ _ q => q) (fun P a v B hp q => by
    obtain ⟨L, ⟨q1, q2, q3⟩, r⟩ := q
    exact ⟨L, ⟨q1, by rw [q2]; exact Fr.nil n0, q3⟩, r⟩)

def own_dig (a : Int64) (i : Int32) : Int32 := nar .byte ((((((a.toUInt64 >>> (((4 : Int32) * i) &&& 0x3f).toInt64.toUInt64).toInt64) &&& (15 : Int64)) - ((((a.toUInt64 >>> (((4 : Int32) * i) &&& 0x3f).toInt64.toUInt64).toInt64) &&& (15 : Int64)) / (5 : Int64)) * (5 : Int64)).toInt32).toInt8.toInt32)
def own_ok (d : Int32) : Prop := d = 0 ∨ d = 1 ∨ d = 2 ∨ d = 3 ∨ d = 4
theorem own_dig_ok (a : Int64) (i : Int32) : own_ok (own_dig a i) := by
  have t : ∀ k : Fin 16, own_ok (nar .byte ((((Int64.ofNat k.val) - ((Int64.ofNat k.val) / (5 : Int64)) * (5 : Int64)).toInt32).toInt8.toInt32)) := by unfold own_ok; decide +kernel
  unfold own_dig
  generalize ((a.toUInt64 >>> (((4 : Int32) * i) &&& 0x3f).toInt64.toUInt64).toInt64) = y
  have h : (y &&& 15).toBitVec.toNat < 16 := by
    simp only [Int64.toBitVec_and, BitVec.toNat_and]
    exact Nat.lt_succ_of_le Nat.and_le_right
  have e : (y &&& 15) = Int64.ofNat (y &&& 15).toBitVec.toNat := by
    apply Int64.toBitVec_inj.mp
    show _ = BitVec.ofNat 64 _
    rw [BitVec.ofNat_toNat]; simp
  rw [e]
  exact t ⟨_, h⟩
def own_sy (d : Int32) : Int32 := if d = 0 then 46 else nar .char (((48 : Int32) + d).toUInt32.toUInt16.toUInt32.toInt32)
def own_sym (d : Int32) : Int32 := if d = 0 then 46 else if d = 1 then 49 else if d = 2 then 50 else if d = 3 then 51 else 52
theorem own_ok_byte {d : Int32} (h : own_ok d) : own_ok (nar .byte d) := by rcases h with rfl | rfl | rfl | rfl | rfl <;> (unfold own_ok; decide)
theorem own_syc {d : Int32} (h : own_ok d) : ¬ nar .char (own_sy d) < 0 ∧ ¬ (255 : Int32) < nar .char (own_sy d) := by rcases h with rfl | rfl | rfl | rfl | rfl <;> decide
theorem own_same {d : Int32} (h : own_ok d) : nar .char (own_sy (nar .byte d)) = own_sym d := by rcases h with rfl | rfl | rfl | rfl | rfl <;> decide
theorem d1_0 : decode method_3_code 0 = .ok (.lload_n 0, 1) := by decide +kernel
theorem d1_1 : decode method_3_code 1 = .ok (.iconst 4, 1) := by decide +kernel
theorem d1_2 : decode method_3_code 2 = .ok (.iload_n 2, 1) := by decide +kernel
theorem d1_3 : decode method_3_code 3 = .ok (.imul, 1) := by decide +kernel
theorem d1_4 : decode method_3_code 4 = .ok (.lushr, 1) := by decide +kernel
theorem d1_5 : decode method_3_code 5 = .ok (.ldc2_w 38, 3) := by decide +kernel
theorem d1_8 : decode method_3_code 8 = .ok (.land, 1) := by decide +kernel
theorem d1_9 : decode method_3_code 9 = .ok (.ldc2_w 40, 3) := by decide +kernel
theorem d1_12 : decode method_3_code 12 = .ok (.lrem, 1) := by decide +kernel
theorem d1_13 : decode method_3_code 13 = .ok (.l2i, 1) := by decide +kernel
theorem d1_14 : decode method_3_code 14 = .ok (.i2b, 1) := by decide +kernel
theorem d1_15 : decode method_3_code 15 = .ok (.ireturn, 1) := by decide +kernel
theorem d2_0 : decode prog_7_method_1_code 0 = .ok (.aload_n 0, 1) := by decide +kernel
theorem d2_1 : decode prog_7_method_1_code 1 = .ok (.invokespecial 1, 3) := by decide +kernel
theorem d2_4 : decode prog_7_method_1_code 4 = .ok (.aload_n 0, 1) := by decide +kernel
theorem d2_5 : decode prog_7_method_1_code 5 = .ok (.aload_n 1, 1) := by decide +kernel
theorem d2_6 : decode prog_7_method_1_code 6 = .ok (.putfield 7, 3) := by decide +kernel
theorem d2_9 : decode prog_7_method_1_code 9 = .ok (.aload_n 0, 1) := by decide +kernel
theorem d2_10 : decode prog_7_method_1_code 10 = .ok (.aload_n 2, 1) := by decide +kernel
theorem d2_11 : decode prog_7_method_1_code 11 = .ok (.putfield 13, 3) := by decide +kernel
theorem d2_14 : decode prog_7_method_1_code 14 = .ok (.return_, 1) := by decide +kernel
theorem d4_0 : decode prog_7_method_7_code 0 = .ok (.aload_n 0, 1) := by decide +kernel
theorem d4_1 : decode prog_7_method_7_code 1 = .ok (.getfield 13, 3) := by decide +kernel
theorem d4_4 : decode prog_7_method_7_code 4 = .ok (.arraylength, 1) := by decide +kernel
theorem d4_5 : decode prog_7_method_7_code 5 = .ok (.newarray .char, 2) := by decide +kernel
theorem d4_7 : decode prog_7_method_7_code 7 = .ok (.astore_n 1, 1) := by decide +kernel
theorem d4_8 : decode prog_7_method_7_code 8 = .ok (.iconst 0, 1) := by decide +kernel
theorem d4_9 : decode prog_7_method_7_code 9 = .ok (.istore_n 2, 1) := by decide +kernel
theorem d4_10 : decode prog_7_method_7_code 10 = .ok (.iload_n 2, 1) := by decide +kernel
theorem d4_11 : decode prog_7_method_7_code 11 = .ok (.aload_n 0, 1) := by decide +kernel
theorem d4_12 : decode prog_7_method_7_code 12 = .ok (.getfield 13, 3) := by decide +kernel
theorem d4_15 : decode prog_7_method_7_code 15 = .ok (.arraylength, 1) := by decide +kernel
theorem d4_16 : decode prog_7_method_7_code 16 = .ok (.if_icmp .ge 17, 3) := by decide +kernel
theorem d4_19 : decode prog_7_method_7_code 19 = .ok (.aload_n 1, 1) := by decide +kernel
theorem d4_20 : decode prog_7_method_7_code 20 = .ok (.iload_n 2, 1) := by decide +kernel
theorem d4_21 : decode prog_7_method_7_code 21 = .ok (.aload_n 0, 1) := by decide +kernel
theorem d4_22 : decode prog_7_method_7_code 22 = .ok (.iload_n 2, 1) := by decide +kernel
theorem d4_23 : decode prog_7_method_7_code 23 = .ok (.invokevirtual 76, 3) := by decide +kernel
theorem d4_26 : decode prog_7_method_7_code 26 = .ok (.castore, 1) := by decide +kernel
theorem d4_27 : decode prog_7_method_7_code 27 = .ok (.iinc 2 1, 3) := by decide +kernel
theorem d4_30 : decode prog_7_method_7_code 30 = .ok (.goto (-20), 3) := by decide +kernel
theorem d4_33 : decode prog_7_method_7_code 33 = .ok (.new 24, 3) := by decide +kernel
theorem d4_36 : decode prog_7_method_7_code 36 = .ok (.dup, 1) := by decide +kernel
theorem d4_37 : decode prog_7_method_7_code 37 = .ok (.aload_n 1, 1) := by decide +kernel
theorem d4_38 : decode prog_7_method_7_code 38 = .ok (.invokespecial 79, 3) := by decide +kernel
theorem d4_41 : decode prog_7_method_7_code 41 = .ok (.areturn, 1) := by decide +kernel
theorem d5_0 : decode prog_7_method_9_code 0 = .ok (.aload_n 0, 1) := by decide +kernel
theorem d5_1 : decode prog_7_method_9_code 1 = .ok (.getfield 13, 3) := by decide +kernel
theorem d5_4 : decode prog_7_method_9_code 4 = .ok (.iload_n 1, 1) := by decide +kernel
theorem d5_5 : decode prog_7_method_9_code 5 = .ok (.baload, 1) := by decide +kernel
theorem d5_6 : decode prog_7_method_9_code 6 = .ok (.ifCond .ne 8, 3) := by decide +kernel
theorem d5_9 : decode prog_7_method_9_code 9 = .ok (.bipush 46, 2) := by decide +kernel
theorem d5_11 : decode prog_7_method_9_code 11 = .ok (.goto 13, 3) := by decide +kernel
theorem d5_14 : decode prog_7_method_9_code 14 = .ok (.bipush 48, 2) := by decide +kernel
theorem d5_16 : decode prog_7_method_9_code 16 = .ok (.aload_n 0, 1) := by decide +kernel
theorem d5_17 : decode prog_7_method_9_code 17 = .ok (.getfield 13, 3) := by decide +kernel
theorem d5_20 : decode prog_7_method_9_code 20 = .ok (.iload_n 1, 1) := by decide +kernel
theorem d5_21 : decode prog_7_method_9_code 21 = .ok (.baload, 1) := by decide +kernel
theorem d5_22 : decode prog_7_method_9_code 22 = .ok (.iadd, 1) := by decide +kernel
theorem d5_23 : decode prog_7_method_9_code 23 = .ok (.i2c, 1) := by decide +kernel
theorem d5_24 : decode prog_7_method_9_code 24 = .ok (.ireturn, 1) := by decide +kernel
theorem d13_0 : decode method_5_code 0 = .ok (.aload_n 0, 1) := by decide +kernel
theorem d13_1 : decode method_5_code 1 = .ok (.iload_n 3, 1) := by decide +kernel
theorem d13_2 : decode method_5_code 2 = .ok (.invokevirtual 42, 3) := by decide +kernel
theorem d13_5 : decode method_5_code 5 = .ok (.lload_n 1, 1) := by decide +kernel
theorem d13_6 : decode method_5_code 6 = .ok (.iload_n 3, 1) := by decide +kernel
theorem d13_7 : decode method_5_code 7 = .ok (.invokestatic 7, 3) := by decide +kernel
theorem d13_10 : decode method_5_code 10 = .ok (.invokestatic 46, 3) := by decide +kernel
theorem d13_13 : decode method_5_code 13 = .ok (.if_icmp .ne 7, 3) := by decide +kernel
theorem d13_16 : decode method_5_code 16 = .ok (.iconst 1, 1) := by decide +kernel
theorem d13_17 : decode method_5_code 17 = .ok (.goto 4, 3) := by decide +kernel
theorem d13_20 : decode method_5_code 20 = .ok (.iconst 0, 1) := by decide +kernel
theorem d13_21 : decode method_5_code 21 = .ok (.ireturn, 1) := by decide +kernel
theorem d19_0 : decode method_4_code 0 = .ok (.iload_n 0, 1) := by decide +kernel
theorem d19_1 : decode method_4_code 1 = .ok (.ifCond .ne 6, 3) := by decide +kernel
theorem d19_4 : decode method_4_code 4 = .ok (.bipush 46, 2) := by decide +kernel
theorem d19_6 : decode method_4_code 6 = .ok (.ireturn, 1) := by decide +kernel
theorem d19_7 : decode method_4_code 7 = .ok (.iload_n 0, 1) := by decide +kernel
theorem d19_8 : decode method_4_code 8 = .ok (.iconst 1, 1) := by decide +kernel
theorem d19_9 : decode method_4_code 9 = .ok (.if_icmp .ne 6, 3) := by decide +kernel
theorem d19_12 : decode method_4_code 12 = .ok (.bipush 49, 2) := by decide +kernel
theorem d19_14 : decode method_4_code 14 = .ok (.ireturn, 1) := by decide +kernel
theorem d19_15 : decode method_4_code 15 = .ok (.iload_n 0, 1) := by decide +kernel
theorem d19_16 : decode method_4_code 16 = .ok (.iconst 2, 1) := by decide +kernel
theorem d19_17 : decode method_4_code 17 = .ok (.if_icmp .ne 6, 3) := by decide +kernel
theorem d19_20 : decode method_4_code 20 = .ok (.bipush 50, 2) := by decide +kernel
theorem d19_22 : decode method_4_code 22 = .ok (.ireturn, 1) := by decide +kernel
theorem d19_23 : decode method_4_code 23 = .ok (.iload_n 0, 1) := by decide +kernel
theorem d19_24 : decode method_4_code 24 = .ok (.iconst 3, 1) := by decide +kernel
theorem d19_25 : decode method_4_code 25 = .ok (.if_icmp .ne 6, 3) := by decide +kernel
theorem d19_28 : decode method_4_code 28 = .ok (.bipush 51, 2) := by decide +kernel
theorem d19_30 : decode method_4_code 30 = .ok (.ireturn, 1) := by decide +kernel
theorem d19_31 : decode method_4_code 31 = .ok (.bipush 52, 2) := by decide +kernel
theorem d19_33 : decode method_4_code 33 = .ok (.ireturn, 1) := by decide +kernel
def Q1 (Z : State) (a : Int64) (i : Int32) (h0 : Heap) (n0 : Nat) (v : Option Value) (h : Heap) (L : List Loc) : Prop := v = some (.int (own_dig a i)) ∧ Fr n0 L ∧ h = h0
theorem ef_1 (m : MethodId) (a : Int64) (i : Int32) : entryFrame m #[(.long a), (.int i)] 3 = mkF m 0 #[.val (.long a), .second, .val (.int i)] [] := by first | (simp [entryFrame, mkF, argsToLocals, Value.category]; done) | (simp [entryFrame, mkF, argsToLocals, own_cat_i, own_cat_l, own_cat_r, own_cat_n]; done) | rfl
set_option maxRecDepth 65536 in
set_option maxHeartbeats 40000000 in
theorem rm1 (l : Launch) (Z : State) (a0 : Array Value) (hw : ∀ d ∈ tables_1, d.before a0 Z = true) (a : Int64) (i : Int32) (h0 : Heap) (n0 : Nat) (Z0 : n0 ≤ h0.size) :
    Met1 l Z (⟨"nonet/GridToStringPinLaw", "dig", "(JI)B"⟩ : MethodName) method_3_code 3 (some .byte) ({ frames := 0, cells := 0, slots := 0, locals := 0 } : Room) #[(.long a), (.int i)] h0 (Q1 Z a i h0 n0) := by
  refine Met1.mk (plainFor_of_name (by first | (simp [plainName, overriddenIn]; done) | decide +kernel)) ?_
  intro p e s m below meth c s₁ hx hZ hby hml hown hnm hret hlk X0 e0
  have N0 := Fr.nil n0
  refine Go.cast (ef_1 m a i) ?_
  show Go p e below (FinN s (Q1 Z a i h0 n0) ({ frames := 0, cells := 0, slots := 0, locals := 0 } : Room).cells ({ frames := 0, cells := 0, slots := 0, locals := 0 } : Room).slots) s₁ (mkF m 0 #[.val (.long a), .second, .val (.int i)] [])
  refine Go.to (mkF m 1 #[.val (.long a), .second, .val (.int i)] [(.long a)]) (fun _ k => XS.lloadN X0.here hx rfl (hb hby d1_0) rfl  k) ?_
  refine Go.to (mkF m 2 #[.val (.long a), .second, .val (.int i)] [(.int (4 : Int32)), (.long a)]) (fun _ k => XS.iconst X0.here hx rfl (hb hby d1_1) k) ?_
  refine Go.to (mkF m 3 #[.val (.long a), .second, .val (.int i)] [(.int i), (.int (4 : Int32)), (.long a)]) (fun _ k => XS.iloadN X0.here hx rfl (hb hby d1_2) rfl  k) ?_
  refine Go.to (mkF m 4 #[.val (.long a), .second, .val (.int i)] [(.int ((4 : Int32) * i)), (.long a)]) (fun _ k => XS.imul X0.here hx rfl (hb hby d1_3) rfl k) ?_
  refine Go.to (mkF m 5 #[.val (.long a), .second, .val (.int i)] [(.long ((a.toUInt64 >>> (((4 : Int32) * i) &&& 0x3f).toInt64.toUInt64).toInt64))]) (fun _ k => XS.lushr X0.here hx rfl (hb hby d1_4) rfl k) ?_
  refine Go.to (mkF m 8 #[.val (.long a), .second, .val (.int i)] [(.long (15 : Int64)), (.long ((a.toUInt64 >>> (((4 : Int32) * i) &&& 0x3f).toInt64.toUInt64).toInt64))]) (fun _ k => X0.ldc2Long hx hown (mvT hZ (hw _ (List.mem_of_getElem? (i := 5) rfl))) (g := (mkF m 5 #[.val (.long a), .second, .val (.int i)] [(.long ((a.toUInt64 >>> (((4 : Int32) * i) &&& 0x3f).toInt64.toUInt64).toInt64))])) rfl (hb hby d1_5) _ k) ?_
  refine Go.to (mkF m 9 #[.val (.long a), .second, .val (.int i)] [(.long (((a.toUInt64 >>> (((4 : Int32) * i) &&& 0x3f).toInt64.toUInt64).toInt64) &&& (15 : Int64)))]) (fun _ k => XS.land X0.here hx rfl (hb hby d1_8) rfl k) ?_
  refine Go.to (mkF m 12 #[.val (.long a), .second, .val (.int i)] [(.long (5 : Int64)), (.long (((a.toUInt64 >>> (((4 : Int32) * i) &&& 0x3f).toInt64.toUInt64).toInt64) &&& (15 : Int64)))]) (fun _ k => X0.ldc2Long hx hown (mvT hZ (hw _ (List.mem_of_getElem? (i := 6) rfl))) (g := (mkF m 9 #[.val (.long a), .second, .val (.int i)] [(.long (((a.toUInt64 >>> (((4 : Int32) * i) &&& 0x3f).toInt64.toUInt64).toInt64) &&& (15 : Int64)))])) rfl (hb hby d1_9) _ k) ?_
  refine Go.to (mkF m 13 #[.val (.long a), .second, .val (.int i)] [(.long ((((a.toUInt64 >>> (((4 : Int32) * i) &&& 0x3f).toInt64.toUInt64).toInt64) &&& (15 : Int64)) - ((((a.toUInt64 >>> (((4 : Int32) * i) &&& 0x3f).toInt64.toUInt64).toInt64) &&& (15 : Int64)) / (5 : Int64)) * (5 : Int64)))]) (fun _ k => XS.lrem X0.here hx rfl (hb hby d1_12) rfl (by decide) k) ?_
  refine Go.to (mkF m 14 #[.val (.long a), .second, .val (.int i)] [(.int (((((a.toUInt64 >>> (((4 : Int32) * i) &&& 0x3f).toInt64.toUInt64).toInt64) &&& (15 : Int64)) - ((((a.toUInt64 >>> (((4 : Int32) * i) &&& 0x3f).toInt64.toUInt64).toInt64) &&& (15 : Int64)) / (5 : Int64)) * (5 : Int64)).toInt32))]) (fun _ k => XS.l2i X0.here hx rfl (hb hby d1_13) rfl k) ?_
  refine Go.to (mkF m 15 #[.val (.long a), .second, .val (.int i)] [(.int ((((((a.toUInt64 >>> (((4 : Int32) * i) &&& 0x3f).toInt64.toUInt64).toInt64) &&& (15 : Int64)) - ((((a.toUInt64 >>> (((4 : Int32) * i) &&& 0x3f).toInt64.toUInt64).toInt64) &&& (15 : Int64)) / (5 : Int64)) * (5 : Int64)).toInt32).toInt8.toInt32))]) (fun _ k => XS.i2b X0.here hx rfl (hb hby d1_14) rfl k) ?_
  refine Go.retN X0 hx (t := .byte) hret hlk (by simp) (hb hby d1_15) (by decide) (by decide) (z' := (own_dig a i)) rfl ?_
  show (Q1 Z a i h0 n0) _ s₁.heap _
  rw [e0]
  exact ⟨rfl, N0, rfl⟩
def Q2 (Z : State) (a1 : Addr) (a2 : Addr) (a3 : Addr) (u1 : Value) (u2 : Value) (h0 : Heap) (n0 : Nat) (v : Option Value) (h : Heap) (L : List Loc) : Prop := v = none ∧ Fr n0 L ∧ Keep h0 h [a1] ∧ Fld Z h a1 "nonet/Grid" "digits" "[B" (.ref a3)
theorem ef_2 (m : MethodId) (a1 : Addr) (a2 : Addr) (a3 : Addr) : entryFrame m #[(.ref a1), (.ref a2), (.ref a3)] 3 = mkF m 0 #[.val (.ref a1), .val (.ref a2), .val (.ref a3)] [] := by first | (simp [entryFrame, mkF, argsToLocals, Value.category]; done) | (simp [entryFrame, mkF, argsToLocals, own_cat_i, own_cat_l, own_cat_r, own_cat_n]; done) | rfl
set_option maxRecDepth 65536 in
set_option maxHeartbeats 40000000 in
theorem rm2 (l : Launch) (Z : State) (a0 : Array Value) (hw : ∀ d ∈ tables_1, d.before a0 Z = true) (a1 : Addr) (a2 : Addr) (a3 : Addr) (u1 : Value) (u2 : Value) (h0 : Heap) (n0 : Nat) (Z0 : n0 ≤ h0.size) (PE_a1 : Exa Z h0 a1 "nonet/Grid") (Pg_a1 : n0 ≤ a1) (PF_a1_size : Fld Z h0 a1 "nonet/Grid" "size" "Lnonet/Size;" u1) (PF_a1_digits : Fld Z h0 a1 "nonet/Grid" "digits" "[B" u2) :
    Met1 l Z (⟨"nonet/Grid", "<init>", "(Lnonet/Size;[B)V"⟩ : MethodName) prog_7_method_1_code 3 none ({ frames := 1, cells := 0, slots := 0, locals := 12 } : Room) #[(.ref a1), (.ref a2), (.ref a3)] h0 (Q2 Z a1 a2 a3 u1 u2 h0 n0) := by
  refine Met1.mk (plainFor_of_name (by first | (simp [plainName, overriddenIn]; done) | decide +kernel)) ?_
  intro p e s m below meth c s₁ hx hZ hby hml hown hnm hret hlk X0 e0
  have N0 := Fr.nil n0
  refine Go.cast (ef_2 m a1 a2 a3) ?_
  show Go p e below (FinN s (Q2 Z a1 a2 a3 u1 u2 h0 n0) ({ frames := 1, cells := 0, slots := 0, locals := 12 } : Room).cells ({ frames := 1, cells := 0, slots := 0, locals := 12 } : Room).slots) s₁ (mkF m 0 #[.val (.ref a1), .val (.ref a2), .val (.ref a3)] [])
  refine Go.to (mkF m 1 #[.val (.ref a1), .val (.ref a2), .val (.ref a3)] [(.ref a1)]) (fun _ k => XS.aloadN X0.here hx rfl (hb hby d2_0) rfl rfl k) ?_
  obtain ⟨T_1, X_1, e_1, st_1⟩ := initO X0 hx hZ hown (hw _ (List.mem_of_getElem? (i := 16) rfl)) (hw _ (List.mem_of_getElem? (i := 17) rfl)) (hw _ (List.mem_of_getElem? (i := 18) rfl)) e0 (g := (mkF m 1 #[.val (.ref a1), .val (.ref a2), .val (.ref a3)] [(.ref a1)])) rfl (by rw [hml]; rfl) rfl (hb hby d2_1) (by decide) (W := 0) (by show 2 * 0 + _ ≤ _; exact Nat.le_of_eq rfl) (by decide)
  refine Go.to (mkF m 4 #[.val (.ref a1), .val (.ref a2), .val (.ref a3)] []) st_1 ?_
  refine Go.to (mkF m 5 #[.val (.ref a1), .val (.ref a2), .val (.ref a3)] [(.ref a1)]) (fun _ k => XS.aloadN X_1.here hx rfl (hb hby d2_4) rfl rfl k) ?_
  refine Go.to (mkF m 6 #[.val (.ref a1), .val (.ref a2), .val (.ref a3)] [(.ref a2), (.ref a1)]) (fun _ k => XS.aloadN X_1.here hx rfl (hb hby d2_5) rfl rfl k) ?_
  obtain ⟨T_2, h_2, X_2, e_2, W_2, st_2⟩ := putF X_1 hx hZ hown (host := "") (Or.inl (hw _ (List.mem_of_getElem? (i := 19) rfl))) Via.refl e_1 PF_a1_size PE_a1 (Or.inr ⟨(hw _ (List.mem_of_getElem? (i := 20) rfl)), rfl, hnm⟩) (hw _ (List.mem_of_getElem? (i := 8) rfl)) (ty := (.object "nonet/Size")) (by decide) rfl rfl (g := (mkF m 6 #[.val (.ref a1), .val (.ref a2), .val (.ref a3)] [(.ref a2), (.ref a1)])) rfl rfl (hb hby d2_6)
  have N_2 := Fr.snoc X_2 N0 Pg_a1
  have Fw_2 : Fld Z h_2 a1 "nonet/Grid" "size" "Lnonet/Size;" (.ref a2) := PF_a1_size.same W_2
  refine Go.to (mkF m 9 #[.val (.ref a1), .val (.ref a2), .val (.ref a3)] []) st_2 ?_
  refine Go.to (mkF m 10 #[.val (.ref a1), .val (.ref a2), .val (.ref a3)] [(.ref a1)]) (fun _ k => XS.aloadN X_2.here hx rfl (hb hby d2_9) rfl rfl k) ?_
  refine Go.to (mkF m 11 #[.val (.ref a1), .val (.ref a2), .val (.ref a3)] [(.ref a3), (.ref a1)]) (fun _ k => XS.aloadN X_2.here hx rfl (hb hby d2_10) rfl rfl k) ?_
  have f_3 : Exa Z h_2 a1 "nonet/Grid" := (PE_a1.wr W_2)
  have f_4 : Fld Z h_2 a1 "nonet/Grid" "digits" "[B" u2 := (PF_a1_digits.other W_2 (Or.inr (slot_ne (Or.inr (hw _ (List.mem_of_getElem? (i := 22) rfl))) (Or.inr (hw _ (List.mem_of_getElem? (i := 20) rfl))) (by decide) (t := (.array .byte)) (t' := (.object "nonet/Size")) (by decide) (by decide))))
  obtain ⟨T_5, h_5, X_5, e_5, W_5, st_5⟩ := putF X_2 hx hZ hown (host := "") (Or.inl (hw _ (List.mem_of_getElem? (i := 21) rfl))) Via.refl e_2 f_4 f_3 (Or.inr ⟨(hw _ (List.mem_of_getElem? (i := 22) rfl)), rfl, hnm⟩) (hw _ (List.mem_of_getElem? (i := 8) rfl)) (ty := (.array .byte)) (by decide) rfl rfl (g := (mkF m 11 #[.val (.ref a1), .val (.ref a2), .val (.ref a3)] [(.ref a3), (.ref a1)])) rfl rfl (hb hby d2_11)
  have N_5 := Fr.snoc X_5 N_2 Pg_a1
  have Fw_5 : Fld Z h_5 a1 "nonet/Grid" "digits" "[B" (.ref a3) := f_4.same W_5
  refine Go.to (mkF m 14 #[.val (.ref a1), .val (.ref a2), .val (.ref a3)] []) st_5 ?_
  refine Go.ret0 X_5 hx hret hlk (hb hby d2_14) (by decide) (by decide) ?_
  have f_6 : Keep h0 h_5 [a1] := (((Keep.refl h0 [a1]).wr W_2 (Or.inl (List.mem_of_getElem? (i := 0) rfl))).wr W_5 (Or.inl (List.mem_of_getElem? (i := 0) rfl)))
  show (Q2 Z a1 a2 a3 u1 u2 h0 n0) _ T_5.heap _
  rw [e_5]
  exact ⟨rfl, N_5, f_6, Fw_5⟩
def Q5 (Z : State) (a1 : Addr) (ad : Addr) (kd : ClassId) (vs : List Value) (i : Int32) (d : Int32) (h0 : Heap) (n0 : Nat) (v : Option Value) (h : Heap) (L : List Loc) : Prop := v = some (.int (own_sy d)) ∧ Fr n0 L ∧ h = h0
theorem ef_5 (m : MethodId) (a1 : Addr) (i : Int32) : entryFrame m #[(.ref a1), (.int i)] 2 = mkF m 0 #[.val (.ref a1), .val (.int i)] [] := by first | (simp [entryFrame, mkF, argsToLocals, Value.category]; done) | (simp [entryFrame, mkF, argsToLocals, own_cat_i, own_cat_l, own_cat_r, own_cat_n]; done) | rfl
set_option maxRecDepth 65536 in
set_option maxHeartbeats 40000000 in
theorem rm5 (l : Launch) (Z : State) (a0 : Array Value) (hw : ∀ d ∈ tables_1, d.before a0 Z = true) (a1 : Addr) (ad : Addr) (kd : ClassId) (vs : List Value) (i : Int32) (d : Int32) (h0 : Heap) (n0 : Nat) (Z0 : n0 ≤ h0.size) (PF_a1_digits : Fld Z h0 a1 "nonet/Grid" "digits" "[B" (.ref ad)) (PA_ad : Arv Z h0 ad kd .byte (16 : Int32) vs (.int (0 : Int32))) (hi0 : ¬ i < 0) (hi1 : i < (16 : Int32)) (hat : vs.getD i.toNatClampNeg (.int (0 : Int32)) = .int d) :
    Met1 l Z (⟨"nonet/Grid", "symbol", "(I)C"⟩ : MethodName) prog_7_method_9_code 2 (some .char) ({ frames := 0, cells := 0, slots := 0, locals := 0 } : Room) #[(.ref a1), (.int i)] h0 (Q5 Z a1 ad kd vs i d h0 n0) := by
  refine Met1.mk (plainFor_of_name (by first | (simp [plainName, overriddenIn]; done) | decide +kernel)) ?_
  intro p e s m below meth c s₁ hx hZ hby hml hown hnm hret hlk X0 e0
  have N0 := Fr.nil n0
  refine Go.cast (ef_5 m a1 i) ?_
  show Go p e below (FinN s (Q5 Z a1 ad kd vs i d h0 n0) ({ frames := 0, cells := 0, slots := 0, locals := 0 } : Room).cells ({ frames := 0, cells := 0, slots := 0, locals := 0 } : Room).slots) s₁ (mkF m 0 #[.val (.ref a1), .val (.int i)] [])
  refine Go.to (mkF m 1 #[.val (.ref a1), .val (.int i)] [(.ref a1)]) (fun _ k => XS.aloadN X0.here hx rfl (hb hby d5_0) rfl rfl k) ?_
  obtain ⟨T_1, X_1, e_1, st_1⟩ := getF X0 hx hZ hown (host := "") (Or.inl (hw _ (List.mem_of_getElem? (i := 21) rfl))) Via.refl e0 PF_a1_digits (g := (mkF m 1 #[.val (.ref a1), .val (.int i)] [(.ref a1)])) rfl rfl (hb hby d5_1)
  refine Go.to (mkF m 4 #[.val (.ref a1), .val (.int i)] [(.ref ad)]) st_1 ?_
  refine Go.to (mkF m 5 #[.val (.ref a1), .val (.int i)] [(.int i), (.ref ad)]) (fun _ k => XS.iloadN X_1.here hx rfl (hb hby d5_4) rfl  k) ?_
  obtain ⟨cl_2, Ar_2, -, Sz_2, Ng_2, Hh_2, -⟩ := id PA_ad
  have hin_2 : ¬ (i < 0 ∨ cl_2.slots.size ≤ (i).toNatClampNeg) := inb_of Sz_2 ⟨hi0, hi1⟩
  refine Go.to (mkF m 6 #[.val (.ref a1), .val (.int i)] [(.int d)]) (X_1.baloadBytes hx (j := i) (v := (.int d)) (by rw [e_1]; exact Ar_2.1) (State.isArrayOf_alike hZ.alike Ar_2.2.1) Ar_2.2.2 hin_2 (Hh_2.at hin_2 hat) (g := (mkF m 5 #[.val (.ref a1), .val (.int i)] [(.int i), (.ref ad)])) rfl rfl (hb hby d5_5)) ?_
  by_cases hc : d = (0 : Int32)
  · refine Go.to (mkF m 9 #[.val (.ref a1), .val (.int i)] []) (fun _ k => XS.ifNo X_1.here hx rfl (hb hby d5_6) rfl ((if0 _ _).trans (teq hc).2) k) ?_
    refine Go.to (mkF m 11 #[.val (.ref a1), .val (.int i)] [(.int (46 : Int32))]) (fun _ k => XS.bipush X_1.here hx rfl (hb hby d5_9) k) ?_
    refine Go.to (mkF m 24 #[.val (.ref a1), .val (.int i)] [(.int (46 : Int32))]) (fun _ k => XS.goto X_1.here hx rfl (pc0 := 11) (pc' := 24) rfl (hb hby d5_11) (by decide) (by decide) k) ?_
    refine Go.retN X_1 hx (t := .char) hret hlk (by simp) (hb hby d5_24) (by decide) (by decide) (z' := (own_sy d)) (by rw [own_sy, if_pos hc]; rfl) ?_
    show (Q5 Z a1 ad kd vs i d h0 n0) _ T_1.heap _
    rw [e_1]
    exact ⟨rfl, N0, rfl⟩
  · refine Go.to (mkF m 14 #[.val (.ref a1), .val (.int i)] []) (fun _ k => XS.ifYes X_1.here hx rfl (pc0 := 6) (pc' := 14) rfl (hb hby d5_6) rfl ((if0 _ _).trans (feq hc).2) (by decide) (by decide) k) ?_
    refine Go.to (mkF m 16 #[.val (.ref a1), .val (.int i)] [(.int (48 : Int32))]) (fun _ k => XS.bipush X_1.here hx rfl (hb hby d5_14) k) ?_
    refine Go.to (mkF m 17 #[.val (.ref a1), .val (.int i)] [(.ref a1), (.int (48 : Int32))]) (fun _ k => XS.aloadN X_1.here hx rfl (hb hby d5_16) rfl rfl k) ?_
    obtain ⟨T_3, X_3, e_3, st_3⟩ := getF X_1 hx hZ hown (host := "") (Or.inl (hw _ (List.mem_of_getElem? (i := 21) rfl))) Via.refl e_1 PF_a1_digits (g := (mkF m 17 #[.val (.ref a1), .val (.int i)] [(.ref a1), (.int (48 : Int32))])) rfl rfl (hb hby d5_17)
    refine Go.to (mkF m 20 #[.val (.ref a1), .val (.int i)] [(.ref ad), (.int (48 : Int32))]) st_3 ?_
    refine Go.to (mkF m 21 #[.val (.ref a1), .val (.int i)] [(.int i), (.ref ad), (.int (48 : Int32))]) (fun _ k => XS.iloadN X_3.here hx rfl (hb hby d5_20) rfl  k) ?_
    obtain ⟨cl_4, Ar_4, -, Sz_4, Ng_4, Hh_4, -⟩ := id PA_ad
    have hin_4 : ¬ (i < 0 ∨ cl_4.slots.size ≤ (i).toNatClampNeg) := inb_of Sz_4 ⟨hi0, hi1⟩
    refine Go.to (mkF m 22 #[.val (.ref a1), .val (.int i)] [(.int d), (.int (48 : Int32))]) (X_3.baloadBytes hx (j := i) (v := (.int d)) (by rw [e_3]; exact Ar_4.1) (State.isArrayOf_alike hZ.alike Ar_4.2.1) Ar_4.2.2 hin_4 (Hh_4.at hin_4 hat) (g := (mkF m 21 #[.val (.ref a1), .val (.int i)] [(.int i), (.ref ad), (.int (48 : Int32))])) rfl rfl (hb hby d5_21)) ?_
    refine Go.to (mkF m 23 #[.val (.ref a1), .val (.int i)] [(.int ((48 : Int32) + d))]) (fun _ k => XS.iadd X_3.here hx rfl (hb hby d5_22) rfl k) ?_
    refine Go.to (mkF m 24 #[.val (.ref a1), .val (.int i)] [(.int (((48 : Int32) + d).toUInt32.toUInt16.toUInt32.toInt32))]) (fun _ k => XS.i2c X_3.here hx rfl (hb hby d5_23) rfl k) ?_
    refine Go.retN X_3 hx (t := .char) hret hlk (by simp) (hb hby d5_24) (by decide) (by decide) (z' := (own_sy d)) (by rw [own_sy, if_neg hc]) ?_
    show (Q5 Z a1 ad kd vs i d h0 n0) _ T_3.heap _
    rw [e_3]
    exact ⟨rfl, N0, rfl⟩
def Q19 (Z : State) (d : Int32) (h0 : Heap) (n0 : Nat) (v : Option Value) (h : Heap) (L : List Loc) : Prop := v = some (.int (own_sym d)) ∧ Fr n0 L ∧ h = h0
theorem ef_19 (m : MethodId) (d : Int32) : entryFrame m #[(.int d)] 1 = mkF m 0 #[.val (.int d)] [] := by first | (simp [entryFrame, mkF, argsToLocals, Value.category]; done) | (simp [entryFrame, mkF, argsToLocals, own_cat_i, own_cat_l, own_cat_r, own_cat_n]; done) | rfl
set_option maxRecDepth 65536 in
set_option maxHeartbeats 40000000 in
theorem rm19 (l : Launch) (Z : State) (a0 : Array Value) (hw : ∀ d ∈ tables_1, d.before a0 Z = true) (d : Int32) (h0 : Heap) (n0 : Nat) (Z0 : n0 ≤ h0.size) :
    Met1 l Z (⟨"nonet/GridToStringPinLaw", "sym", "(I)C"⟩ : MethodName) method_4_code 1 (some .char) ({ frames := 0, cells := 0, slots := 0, locals := 0 } : Room) #[(.int d)] h0 (Q19 Z d h0 n0) := by
  refine Met1.mk (plainFor_of_name (by first | (simp [plainName, overriddenIn]; done) | decide +kernel)) ?_
  intro p e s m below meth c s₁ hx hZ hby hml hown hnm hret hlk X0 e0
  have N0 := Fr.nil n0
  refine Go.cast (ef_19 m d) ?_
  show Go p e below (FinN s (Q19 Z d h0 n0) ({ frames := 0, cells := 0, slots := 0, locals := 0 } : Room).cells ({ frames := 0, cells := 0, slots := 0, locals := 0 } : Room).slots) s₁ (mkF m 0 #[.val (.int d)] [])
  refine Go.to (mkF m 1 #[.val (.int d)] [(.int d)]) (fun _ k => XS.iloadN X0.here hx rfl (hb hby d19_0) rfl  k) ?_
  by_cases hd0 : d = (0 : Int32)
  · refine Go.to (mkF m 4 #[.val (.int d)] []) (fun _ k => XS.ifNo X0.here hx rfl (hb hby d19_1) rfl ((if0 _ _).trans (teq hd0).2) k) ?_
    refine Go.to (mkF m 6 #[.val (.int d)] [(.int (46 : Int32))]) (fun _ k => XS.bipush X0.here hx rfl (hb hby d19_4) k) ?_
    refine Go.retN X0 hx (t := .char) hret hlk (by simp) (hb hby d19_6) (by decide) (by decide) (z' := (own_sym d)) (by simp only [own_sym, if_pos hd0]; rfl) ?_
    show (Q19 Z d h0 n0) _ s₁.heap _
    rw [e0]
    exact ⟨rfl, N0, rfl⟩
  · refine Go.to (mkF m 7 #[.val (.int d)] []) (fun _ k => XS.ifYes X0.here hx rfl (pc0 := 1) (pc' := 7) rfl (hb hby d19_1) rfl ((if0 _ _).trans (feq hd0).2) (by decide) (by decide) k) ?_
    refine Go.to (mkF m 8 #[.val (.int d)] [(.int d)]) (fun _ k => XS.iloadN X0.here hx rfl (hb hby d19_7) rfl  k) ?_
    refine Go.to (mkF m 9 #[.val (.int d)] [(.int (1 : Int32)), (.int d)]) (fun _ k => XS.iconst X0.here hx rfl (hb hby d19_8) k) ?_
    by_cases hd1 : d = (1 : Int32)
    · refine Go.to (mkF m 12 #[.val (.int d)] []) (fun _ k => XS.icmpNo X0.here hx rfl (hb hby d19_9) rfl (teq hd1).2 k) ?_
      refine Go.to (mkF m 14 #[.val (.int d)] [(.int (49 : Int32))]) (fun _ k => XS.bipush X0.here hx rfl (hb hby d19_12) k) ?_
      refine Go.retN X0 hx (t := .char) hret hlk (by simp) (hb hby d19_14) (by decide) (by decide) (z' := (own_sym d)) (by simp only [own_sym, if_neg hd0, if_pos hd1]; rfl) ?_
      show (Q19 Z d h0 n0) _ s₁.heap _
      rw [e0]
      exact ⟨rfl, N0, rfl⟩
    · refine Go.to (mkF m 15 #[.val (.int d)] []) (fun _ k => XS.icmpYes X0.here hx rfl (pc0 := 9) (pc' := 15) rfl (hb hby d19_9) rfl (feq hd1).2 (by decide) (by decide) k) ?_
      refine Go.to (mkF m 16 #[.val (.int d)] [(.int d)]) (fun _ k => XS.iloadN X0.here hx rfl (hb hby d19_15) rfl  k) ?_
      refine Go.to (mkF m 17 #[.val (.int d)] [(.int (2 : Int32)), (.int d)]) (fun _ k => XS.iconst X0.here hx rfl (hb hby d19_16) k) ?_
      by_cases hd2 : d = (2 : Int32)
      · refine Go.to (mkF m 20 #[.val (.int d)] []) (fun _ k => XS.icmpNo X0.here hx rfl (hb hby d19_17) rfl (teq hd2).2 k) ?_
        refine Go.to (mkF m 22 #[.val (.int d)] [(.int (50 : Int32))]) (fun _ k => XS.bipush X0.here hx rfl (hb hby d19_20) k) ?_
        refine Go.retN X0 hx (t := .char) hret hlk (by simp) (hb hby d19_22) (by decide) (by decide) (z' := (own_sym d)) (by simp only [own_sym, if_neg hd0, if_neg hd1, if_pos hd2]; rfl) ?_
        show (Q19 Z d h0 n0) _ s₁.heap _
        rw [e0]
        exact ⟨rfl, N0, rfl⟩
      · refine Go.to (mkF m 23 #[.val (.int d)] []) (fun _ k => XS.icmpYes X0.here hx rfl (pc0 := 17) (pc' := 23) rfl (hb hby d19_17) rfl (feq hd2).2 (by decide) (by decide) k) ?_
        refine Go.to (mkF m 24 #[.val (.int d)] [(.int d)]) (fun _ k => XS.iloadN X0.here hx rfl (hb hby d19_23) rfl  k) ?_
        refine Go.to (mkF m 25 #[.val (.int d)] [(.int (3 : Int32)), (.int d)]) (fun _ k => XS.iconst X0.here hx rfl (hb hby d19_24) k) ?_
        by_cases hd3 : d = (3 : Int32)
        · refine Go.to (mkF m 28 #[.val (.int d)] []) (fun _ k => XS.icmpNo X0.here hx rfl (hb hby d19_25) rfl (teq hd3).2 k) ?_
          refine Go.to (mkF m 30 #[.val (.int d)] [(.int (51 : Int32))]) (fun _ k => XS.bipush X0.here hx rfl (hb hby d19_28) k) ?_
          refine Go.retN X0 hx (t := .char) hret hlk (by simp) (hb hby d19_30) (by decide) (by decide) (z' := (own_sym d)) (by simp only [own_sym, if_neg hd0, if_neg hd1, if_neg hd2, if_pos hd3]; rfl) ?_
          show (Q19 Z d h0 n0) _ s₁.heap _
          rw [e0]
          exact ⟨rfl, N0, rfl⟩
        · refine Go.to (mkF m 31 #[.val (.int d)] []) (fun _ k => XS.icmpYes X0.here hx rfl (pc0 := 25) (pc' := 31) rfl (hb hby d19_25) rfl (feq hd3).2 (by decide) (by decide) k) ?_
          refine Go.to (mkF m 33 #[.val (.int d)] [(.int (52 : Int32))]) (fun _ k => XS.bipush X0.here hx rfl (hb hby d19_31) k) ?_
          refine Go.retN X0 hx (t := .char) hret hlk (by simp) (hb hby d19_33) (by decide) (by decide) (z' := (own_sym d)) (by simp only [own_sym, if_neg hd0, if_neg hd1, if_neg hd2, if_neg hd3]; rfl) ?_
          show (Q19 Z d h0 n0) _ s₁.heap _
          rw [e0]
          exact ⟨rfl, N0, rfl⟩
theorem own_pd0 : parseMethodDescriptor "(I)C" = some ⟨[.int], some .char⟩ := by decide +kernel
theorem own_pd1 : parseMethodDescriptor "([C)V" = some ⟨[(.array .char)], none⟩ := by decide +kernel
def Q4 (Z : State) (a1 : Addr) (ad : Addr) (kd : ClassId) (d0 : Int32) (d1 : Int32) (d2 : Int32) (d3 : Int32) (d4 : Int32) (d5 : Int32) (d6 : Int32) (d7 : Int32) (d8 : Int32) (d9 : Int32) (d10 : Int32) (d11 : Int32) (d12 : Int32) (d13 : Int32) (d14 : Int32) (d15 : Int32) (z : Int32) (h0 : Heap) (n0 : Nat) (v : Option Value) (h : Heap) (L : List Loc) : Prop := ∃ (x : Addr) (t : Addr) (kb : ClassId), v = some (.ref x) ∧ Fr n0 L ∧ Keep h0 h [] ∧ Exa Z h x "java/lang/String" ∧ Fld Z h x "java/lang/String" "value" "[B" (.ref t) ∧ Fld Z h x "java/lang/String" "coder" "B" (.int (0 : Int32)) ∧ Arv Z h t kb .byte (16 : Int32) (own_str ([nar .char (own_sy d0), nar .char (own_sy d1), nar .char (own_sy d2), nar .char (own_sy d3), nar .char (own_sy d4), nar .char (own_sy d5), nar .char (own_sy d6), nar .char (own_sy d7), nar .char (own_sy d8), nar .char (own_sy d9), nar .char (own_sy d10), nar .char (own_sy d11), nar .char (own_sy d12), nar .char (own_sy d13), nar .char (own_sy d14), nar .char (own_sy d15)] : List Int32)) (.int (0 : Int32))
theorem ef_4 (m : MethodId) (a1 : Addr) : entryFrame m #[(.ref a1)] 3 = mkF m 0 #[.val (.ref a1), .unset, .unset] [] := by first | (simp [entryFrame, mkF, argsToLocals, Value.category]; done) | (simp [entryFrame, mkF, argsToLocals, own_cat_i, own_cat_l, own_cat_r, own_cat_n]; done) | rfl
set_option maxRecDepth 65536 in
set_option maxHeartbeats 40000000 in
theorem rm4 (l : Launch) (Z : State) (a0 : Array Value) (hw : ∀ d ∈ tables_1, d.before a0 Z = true) (a1 : Addr) (ad : Addr) (kd : ClassId) (d0 : Int32) (d1 : Int32) (d2 : Int32) (d3 : Int32) (d4 : Int32) (d5 : Int32) (d6 : Int32) (d7 : Int32) (d8 : Int32) (d9 : Int32) (d10 : Int32) (d11 : Int32) (d12 : Int32) (d13 : Int32) (d14 : Int32) (d15 : Int32) (z : Int32) (h0 : Heap) (n0 : Nat) (Z0 : n0 ≤ h0.size) (PE_a1 : Exa Z h0 a1 "nonet/Grid") (PF_a1_digits : Fld Z h0 a1 "nonet/Grid" "digits" "[B" (.ref ad)) (PA_ad : Arv Z h0 ad kd .byte (16 : Int32) [(.int d0), (.int d1), (.int d2), (.int d3), (.int d4), (.int d5), (.int d6), (.int d7), (.int d8), (.int d9), (.int d10), (.int d11), (.int d12), (.int d13), (.int d14), (.int d15)] (.int (0 : Int32))) (PS_java_lang_String_COMPACT_STRINGS : Sta Z h0 "java/lang/String" "COMPACT_STRINGS" "Z" (.int z)) (hz : ¬ z = 0) (hd : ∀ d ∈ ([d0, d1, d2, d3, d4, d5, d6, d7, d8, d9, d10, d11, d12, d13, d14, d15] : List Int32), own_ok d) :
    Met1 l Z (⟨"nonet/Grid", "toString", "()Ljava/lang/String;"⟩ : MethodName) prog_7_method_7_code 3 (some (.object "java/lang/String")) ({ frames := 4, cells := 3, slots := 36, locals := 66 } : Room) #[(.ref a1)] h0 (Q4 Z a1 ad kd d0 d1 d2 d3 d4 d5 d6 d7 d8 d9 d10 d11 d12 d13 d14 d15 z h0 n0) := by
  refine Met1.mk (plainFor_of_name (by first | (simp [plainName, overriddenIn]; done) | decide +kernel)) ?_
  intro p e s m below meth c s₁ hx hZ hby hml hown hnm hret hlk X0 e0
  have N0 := Fr.nil n0
  refine Go.cast (ef_4 m a1) ?_
  show Go p e below (FinN s (Q4 Z a1 ad kd d0 d1 d2 d3 d4 d5 d6 d7 d8 d9 d10 d11 d12 d13 d14 d15 z h0 n0) ({ frames := 4, cells := 3, slots := 36, locals := 66 } : Room).cells ({ frames := 4, cells := 3, slots := 36, locals := 66 } : Room).slots) s₁ (mkF m 0 #[.val (.ref a1), .unset, .unset] [])
  refine Go.to (mkF m 1 #[.val (.ref a1), .unset, .unset] [(.ref a1)]) (fun _ k => XS.aloadN X0.here hx rfl (hb hby d4_0) rfl rfl k) ?_
  obtain ⟨T_1, X_1, e_1, st_1⟩ := getF X0 hx hZ hown (host := "") (Or.inl (hw _ (List.mem_of_getElem? (i := 21) rfl))) Via.refl e0 PF_a1_digits (g := (mkF m 1 #[.val (.ref a1), .unset, .unset] [(.ref a1)])) rfl rfl (hb hby d4_1)
  refine Go.to (mkF m 4 #[.val (.ref a1), .unset, .unset] [(.ref ad)]) st_1 ?_
  obtain ⟨cl_2, Ar_2, -, Sz_2, Ng_2, -, -⟩ := id PA_ad
  refine Go.to (mkF m 5 #[.val (.ref a1), .unset, .unset] [(.int (16 : Int32))]) (fun _ k => by
    refine X_1.arraylength hx (by rw [e_1]; exact Ar_2.1) (State.isArrayOf_alike hZ.alike Ar_2.2.1) (g := (mkF m 4 #[.val (.ref a1), .unset, .unset] [(.ref ad)])) rfl rfl (hb hby d4_4) _ ?_
    rw [len_of Sz_2 Ng_2]
    exact k) ?_
  obtain ⟨T_3, h_3, k_3, X_3, e_3, E_3, A_3, st_3⟩ := newP X_1 hx hZ (hw _ (List.mem_of_getElem? (i := 28) rfl)) e_1 (g := (mkF m 5 #[.val (.ref a1), .unset, .unset] [(.int (16 : Int32))])) rfl (hb hby d4_5) rfl (by decide) (cap := 16) (by decide) (by decide) (by decide) (by decide)
  obtain ⟨b_3, g_3⟩ : ∃ z, z = h0.size := ⟨_, rfl⟩
  rw [← g_3] at A_3 st_3
  have g_b_3 : n0 ≤ b_3 := Nat.le_trans Z0 (Nat.le_of_eq g_3.symm)
  have sz_b_3 : h0.size ≤ b_3 := Nat.le_trans (Keep.refl h0 []).1 (Nat.le_of_eq g_3.symm)
  have ne_a1_b_3 : a1 ≠ b_3 := Nat.ne_of_lt (Nat.lt_of_lt_of_le PE_a1.lt (Nat.le_of_eq g_3.symm))
  have ne_ad_b_3 : ad ≠ b_3 := Nat.ne_of_lt (Nat.lt_of_lt_of_le PA_ad.lt (Nat.le_of_eq g_3.symm))
  have V_b_3 : Arv Z h_3 b_3 k_3 .char (16 : Int32) [(.int (0 : Int32)), (.int (0 : Int32)), (.int (0 : Int32)), (.int (0 : Int32)), (.int (0 : Int32)), (.int (0 : Int32)), (.int (0 : Int32)), (.int (0 : Int32)), (.int (0 : Int32)), (.int (0 : Int32)), (.int (0 : Int32)), (.int (0 : Int32)), (.int (0 : Int32)), (.int (0 : Int32)), (.int (0 : Int32)), (.int (0 : Int32))] (.int (0 : Int32)) := (Arv.new A_3 (by decide)).pad (pad_rep [] (.int (0 : Int32)) 16)
  refine Go.to (mkF m 7 #[.val (.ref a1), .unset, .unset] [(.ref b_3)]) st_3 ?_
  refine Go.to (mkF m 8 #[.val (.ref a1), .val (.ref b_3), .unset] []) (fun _ k => XS.astoreN X_3.here hx rfl (hb hby d4_7) rfl rfl (l' := #[.val (.ref a1), .val (.ref b_3), .unset]) rfl k) ?_
  refine Go.to (mkF m 9 #[.val (.ref a1), .val (.ref b_3), .unset] [(.int (0 : Int32))]) (fun _ k => XS.iconst X_3.here hx rfl (hb hby d4_8) k) ?_
  refine Go.to (mkF m 10 #[.val (.ref a1), .val (.ref b_3), .val (.int (0 : Int32))] []) (fun _ k => XS.istoreN X_3.here hx rfl (hb hby d4_9) rfl (l' := #[.val (.ref a1), .val (.ref b_3), .val (.int (0 : Int32))]) rfl k) ?_
  refine Go.to (mkF m 11 #[.val (.ref a1), .val (.ref b_3), .val (.int (0 : Int32))] [(.int (0 : Int32))]) (fun _ k => XS.iloadN X_3.here hx rfl (hb hby d4_10) rfl  k) ?_
  refine Go.to (mkF m 12 #[.val (.ref a1), .val (.ref b_3), .val (.int (0 : Int32))] [(.ref a1), (.int (0 : Int32))]) (fun _ k => XS.aloadN X_3.here hx rfl (hb hby d4_11) rfl rfl k) ?_
  have f_4 : Fld Z h_3 a1 "nonet/Grid" "digits" "[B" (.ref ad) := (PF_a1_digits.ext E_3)
  obtain ⟨T_5, X_5, e_5, st_5⟩ := getF X_3 hx hZ hown (host := "") (Or.inl (hw _ (List.mem_of_getElem? (i := 21) rfl))) Via.refl e_3 f_4 (g := (mkF m 12 #[.val (.ref a1), .val (.ref b_3), .val (.int (0 : Int32))] [(.ref a1), (.int (0 : Int32))])) rfl rfl (hb hby d4_12)
  refine Go.to (mkF m 15 #[.val (.ref a1), .val (.ref b_3), .val (.int (0 : Int32))] [(.ref ad), (.int (0 : Int32))]) st_5 ?_
  have f_6 : Arv Z h_3 ad kd .byte (16 : Int32) [(.int d0), (.int d1), (.int d2), (.int d3), (.int d4), (.int d5), (.int d6), (.int d7), (.int d8), (.int d9), (.int d10), (.int d11), (.int d12), (.int d13), (.int d14), (.int d15)] (.int (0 : Int32)) := (PA_ad.ext E_3)
  obtain ⟨cl_7, Ar_7, -, Sz_7, Ng_7, -, -⟩ := id f_6
  refine Go.to (mkF m 16 #[.val (.ref a1), .val (.ref b_3), .val (.int (0 : Int32))] [(.int (16 : Int32)), (.int (0 : Int32))]) (fun _ k => by
    refine X_5.arraylength hx (by rw [e_5]; exact Ar_7.1) (State.isArrayOf_alike hZ.alike Ar_7.2.1) (g := (mkF m 15 #[.val (.ref a1), .val (.ref b_3), .val (.int (0 : Int32))] [(.ref ad), (.int (0 : Int32))])) rfl rfl (hb hby d4_15) _ ?_
    rw [len_of Sz_7 Ng_7]
    exact k) ?_
  refine Go.to (mkF m 19 #[.val (.ref a1), .val (.ref b_3), .val (.int (0 : Int32))] []) (fun _ k => XS.icmpNo X_5.here hx rfl (hb hby d4_16) rfl (tlt (by decide : (0 : Int32) < (16 : Int32))).2.1 k) ?_
  refine Go.to (mkF m 20 #[.val (.ref a1), .val (.ref b_3), .val (.int (0 : Int32))] [(.ref b_3)]) (fun _ k => XS.aloadN X_5.here hx rfl (hb hby d4_19) rfl rfl k) ?_
  refine Go.to (mkF m 21 #[.val (.ref a1), .val (.ref b_3), .val (.int (0 : Int32))] [(.int (0 : Int32)), (.ref b_3)]) (fun _ k => XS.iloadN X_5.here hx rfl (hb hby d4_20) rfl  k) ?_
  refine Go.to (mkF m 22 #[.val (.ref a1), .val (.ref b_3), .val (.int (0 : Int32))] [(.ref a1), (.int (0 : Int32)), (.ref b_3)]) (fun _ k => XS.aloadN X_5.here hx rfl (hb hby d4_21) rfl rfl k) ?_
  refine Go.to (mkF m 23 #[.val (.ref a1), .val (.ref b_3), .val (.int (0 : Int32))] [(.int (0 : Int32)), (.ref a1), (.int (0 : Int32)), (.ref b_3)]) (fun _ k => XS.iloadN X_5.here hx rfl (hb hby d4_22) rfl  k) ?_
  have f_8 : n0 ≤ h_3.size := (Nat.le_trans Z0 E_3.1)
  have f_9 : Exa Z h_3 a1 "nonet/Grid" := (PE_a1.ext E_3)
  refine Go.priv X_5 hx hZ (y := (⟨"nonet/Grid", "symbol", "(I)C"⟩ : MethodName)) hown (hw _ (List.mem_of_getElem? (i := 29) rfl)) (hw _ (List.mem_of_getElem? (i := 30) rfl)) (Jvm.Kit.selects_private (by decide) (mvT hZ (hw _ (List.mem_of_getElem? (i := 8) rfl))) (mvP hZ (hw _ (List.mem_of_getElem? (i := 31) rfl))) (mvT hZ (hw _ (List.mem_of_getElem? (i := 30) rfl)))) (hw _ (List.mem_of_getElem? (i := 31) rfl)) (hw _ (List.mem_of_getElem? (i := 32) rfl)) (by decide) e_5 (a := a1) f_9 (argsL := [(.int (0 : Int32))]) (rest := [(.int (0 : Int32)), (.ref b_3)]) (Met1.back (W := 2) (rm5 l Z a0 hw a1 ad kd ([(.int d0), (.int d1), (.int d2), (.int d3), (.int d4), (.int d5), (.int d6), (.int d7), (.int d8), (.int d9), (.int d10), (.int d11), (.int d12), (.int d13), (.int d14), (.int d15)]) (0 : Int32) d0 h_3 n0 f_8 f_4 f_6 (by decide) (by decide) rfl) hZ (hw _ (List.mem_of_getElem? (i := 32) rfl)) (hw _ (List.mem_of_getElem? (i := 9) rfl)) (by decide) (by decide)) (pc := 23) (Ls := #[.val (.ref a1), .val (.ref b_3), .val (.int (0 : Int32))]) (by rw [hml]; rfl) (lenOf own_pd0 rfl) rfl (Nat.le_refl _) (hb hby d4_23) (by decide) (by decide) ?_
  intro T_10 v_10 L_10 X_10 hQ_10
  obtain ⟨rfl, Nq_10, hh_10⟩ := hQ_10
  have N_10 := Fr.app N0 Nq_10
  show Go p e below (FinN s (Q4 Z a1 ad kd d0 d1 d2 d3 d4 d5 d6 d7 d8 d9 d10 d11 d12 d13 d14 d15 z h0 n0) ({ frames := 4, cells := 3, slots := 36, locals := 66 } : Room).cells ({ frames := 4, cells := 3, slots := 36, locals := 66 } : Room).slots) T_10 (mkF m 26 #[.val (.ref a1), .val (.ref b_3), .val (.int (0 : Int32))] [(.int (own_sy d0)), (.int (0 : Int32)), (.ref b_3)])
  obtain ⟨cl_11, Ar_11, q_11, Sz_11, Ng_11, Hh_11, Gg_11⟩ := id V_b_3
  have hin_11 : ¬ ((0 : Int32) < 0 ∨ cl_11.slots.size ≤ ((0 : Int32)).toNatClampNeg) := inb_of Sz_11 ⟨by decide, by decide⟩
  obtain ⟨T_11, h_11, X_11, e_11, W_11, st_11⟩ := stC X_10 hx hZ hh_10 Ar_11 (j := (0 : Int32)) hin_11 (g := (mkF m 26 #[.val (.ref a1), .val (.ref b_3), .val (.int (0 : Int32))] [(.int (own_sy d0)), (.int (0 : Int32)), (.ref b_3)])) rfl rfl (hb hby d4_26)
  have N_11 := Fr.snoc X_11 N_10 g_b_3
  have V_11 : Arv Z h_11 b_3 k_3 .char (16 : Int32) [(.int (nar .char (own_sy d0))), (.int (0 : Int32)), (.int (0 : Int32)), (.int (0 : Int32)), (.int (0 : Int32)), (.int (0 : Int32)), (.int (0 : Int32)), (.int (0 : Int32)), (.int (0 : Int32)), (.int (0 : Int32)), (.int (0 : Int32)), (.int (0 : Int32)), (.int (0 : Int32)), (.int (0 : Int32)), (.int (0 : Int32)), (.int (0 : Int32))] (.int (0 : Int32)) := Arv.set Ar_11 q_11 Sz_11 Ng_11 Hh_11 Gg_11 (fits_nar_char _) W_11 0 rfl (Nat.le_of_ble_eq_true rfl)
  refine Go.to (mkF m 27 #[.val (.ref a1), .val (.ref b_3), .val (.int (0 : Int32))] []) st_11 ?_
  refine Go.to (mkF m 30 #[.val (.ref a1), .val (.ref b_3), .val (.int (1 : Int32))] []) (fun _ k => XS.iinc X_11.here hx rfl (hb hby d4_27) rfl (l' := #[.val (.ref a1), .val (.ref b_3), .val (.int (1 : Int32))]) rfl k) ?_
  refine Go.to (mkF m 10 #[.val (.ref a1), .val (.ref b_3), .val (.int (1 : Int32))] []) (fun _ k => XS.goto X_11.here hx rfl (pc0 := 30) (pc' := 10) rfl (hb hby d4_30) (by decide) (by decide) k) ?_
  refine Go.to (mkF m 11 #[.val (.ref a1), .val (.ref b_3), .val (.int (1 : Int32))] [(.int (1 : Int32))]) (fun _ k => XS.iloadN X_11.here hx rfl (hb hby d4_10) rfl  k) ?_
  refine Go.to (mkF m 12 #[.val (.ref a1), .val (.ref b_3), .val (.int (1 : Int32))] [(.ref a1), (.int (1 : Int32))]) (fun _ k => XS.aloadN X_11.here hx rfl (hb hby d4_11) rfl rfl k) ?_
  have f_12 : Fld Z h_11 a1 "nonet/Grid" "digits" "[B" (.ref ad) := (f_4.other W_11 (Or.inl ne_a1_b_3))
  obtain ⟨T_13, X_13, e_13, st_13⟩ := getF X_11 hx hZ hown (host := "") (Or.inl (hw _ (List.mem_of_getElem? (i := 21) rfl))) Via.refl e_11 f_12 (g := (mkF m 12 #[.val (.ref a1), .val (.ref b_3), .val (.int (1 : Int32))] [(.ref a1), (.int (1 : Int32))])) rfl rfl (hb hby d4_12)
  refine Go.to (mkF m 15 #[.val (.ref a1), .val (.ref b_3), .val (.int (1 : Int32))] [(.ref ad), (.int (1 : Int32))]) st_13 ?_
  have f_14 : Arv Z h_11 ad kd .byte (16 : Int32) [(.int d0), (.int d1), (.int d2), (.int d3), (.int d4), (.int d5), (.int d6), (.int d7), (.int d8), (.int d9), (.int d10), (.int d11), (.int d12), (.int d13), (.int d14), (.int d15)] (.int (0 : Int32)) := (f_6.other W_11 ne_ad_b_3)
  obtain ⟨cl_15, Ar_15, -, Sz_15, Ng_15, -, -⟩ := id f_14
  refine Go.to (mkF m 16 #[.val (.ref a1), .val (.ref b_3), .val (.int (1 : Int32))] [(.int (16 : Int32)), (.int (1 : Int32))]) (fun _ k => by
    refine X_13.arraylength hx (by rw [e_13]; exact Ar_15.1) (State.isArrayOf_alike hZ.alike Ar_15.2.1) (g := (mkF m 15 #[.val (.ref a1), .val (.ref b_3), .val (.int (1 : Int32))] [(.ref ad), (.int (1 : Int32))])) rfl rfl (hb hby d4_15) _ ?_
    rw [len_of Sz_15 Ng_15]
    exact k) ?_
  refine Go.to (mkF m 19 #[.val (.ref a1), .val (.ref b_3), .val (.int (1 : Int32))] []) (fun _ k => XS.icmpNo X_13.here hx rfl (hb hby d4_16) rfl (tlt (by decide : (1 : Int32) < (16 : Int32))).2.1 k) ?_
  refine Go.to (mkF m 20 #[.val (.ref a1), .val (.ref b_3), .val (.int (1 : Int32))] [(.ref b_3)]) (fun _ k => XS.aloadN X_13.here hx rfl (hb hby d4_19) rfl rfl k) ?_
  refine Go.to (mkF m 21 #[.val (.ref a1), .val (.ref b_3), .val (.int (1 : Int32))] [(.int (1 : Int32)), (.ref b_3)]) (fun _ k => XS.iloadN X_13.here hx rfl (hb hby d4_20) rfl  k) ?_
  refine Go.to (mkF m 22 #[.val (.ref a1), .val (.ref b_3), .val (.int (1 : Int32))] [(.ref a1), (.int (1 : Int32)), (.ref b_3)]) (fun _ k => XS.aloadN X_13.here hx rfl (hb hby d4_21) rfl rfl k) ?_
  refine Go.to (mkF m 23 #[.val (.ref a1), .val (.ref b_3), .val (.int (1 : Int32))] [(.int (1 : Int32)), (.ref a1), (.int (1 : Int32)), (.ref b_3)]) (fun _ k => XS.iloadN X_13.here hx rfl (hb hby d4_22) rfl  k) ?_
  have f_16 : n0 ≤ h_11.size := (Nat.le_trans f_8 (Keep.of_wr W_11).1)
  have f_17 : Exa Z h_11 a1 "nonet/Grid" := (f_9.wr W_11)
  refine Go.priv X_13 hx hZ (y := (⟨"nonet/Grid", "symbol", "(I)C"⟩ : MethodName)) hown (hw _ (List.mem_of_getElem? (i := 29) rfl)) (hw _ (List.mem_of_getElem? (i := 30) rfl)) (Jvm.Kit.selects_private (by decide) (mvT hZ (hw _ (List.mem_of_getElem? (i := 8) rfl))) (mvP hZ (hw _ (List.mem_of_getElem? (i := 31) rfl))) (mvT hZ (hw _ (List.mem_of_getElem? (i := 30) rfl)))) (hw _ (List.mem_of_getElem? (i := 31) rfl)) (hw _ (List.mem_of_getElem? (i := 32) rfl)) (by decide) e_13 (a := a1) f_17 (argsL := [(.int (1 : Int32))]) (rest := [(.int (1 : Int32)), (.ref b_3)]) (Met1.back (W := 2) (rm5 l Z a0 hw a1 ad kd ([(.int d0), (.int d1), (.int d2), (.int d3), (.int d4), (.int d5), (.int d6), (.int d7), (.int d8), (.int d9), (.int d10), (.int d11), (.int d12), (.int d13), (.int d14), (.int d15)]) (1 : Int32) d1 h_11 n0 f_16 f_12 f_14 (by decide) (by decide) rfl) hZ (hw _ (List.mem_of_getElem? (i := 32) rfl)) (hw _ (List.mem_of_getElem? (i := 9) rfl)) (by decide) (by decide)) (pc := 23) (Ls := #[.val (.ref a1), .val (.ref b_3), .val (.int (1 : Int32))]) (by rw [hml]; rfl) (lenOf own_pd0 rfl) rfl (Nat.le_refl _) (hb hby d4_23) (by decide) (by decide) ?_
  intro T_18 v_18 L_18 X_18 hQ_18
  obtain ⟨rfl, Nq_18, hh_18⟩ := hQ_18
  have N_18 := Fr.app N_11 Nq_18
  show Go p e below (FinN s (Q4 Z a1 ad kd d0 d1 d2 d3 d4 d5 d6 d7 d8 d9 d10 d11 d12 d13 d14 d15 z h0 n0) ({ frames := 4, cells := 3, slots := 36, locals := 66 } : Room).cells ({ frames := 4, cells := 3, slots := 36, locals := 66 } : Room).slots) T_18 (mkF m 26 #[.val (.ref a1), .val (.ref b_3), .val (.int (1 : Int32))] [(.int (own_sy d1)), (.int (1 : Int32)), (.ref b_3)])
  obtain ⟨cl_19, Ar_19, q_19, Sz_19, Ng_19, Hh_19, Gg_19⟩ := id V_11
  have hin_19 : ¬ ((1 : Int32) < 0 ∨ cl_19.slots.size ≤ ((1 : Int32)).toNatClampNeg) := inb_of Sz_19 ⟨by decide, by decide⟩
  obtain ⟨T_19, h_19, X_19, e_19, W_19, st_19⟩ := stC X_18 hx hZ hh_18 Ar_19 (j := (1 : Int32)) hin_19 (g := (mkF m 26 #[.val (.ref a1), .val (.ref b_3), .val (.int (1 : Int32))] [(.int (own_sy d1)), (.int (1 : Int32)), (.ref b_3)])) rfl rfl (hb hby d4_26)
  have N_19 := Fr.snoc X_19 N_18 g_b_3
  have V_19 : Arv Z h_19 b_3 k_3 .char (16 : Int32) [(.int (nar .char (own_sy d0))), (.int (nar .char (own_sy d1))), (.int (0 : Int32)), (.int (0 : Int32)), (.int (0 : Int32)), (.int (0 : Int32)), (.int (0 : Int32)), (.int (0 : Int32)), (.int (0 : Int32)), (.int (0 : Int32)), (.int (0 : Int32)), (.int (0 : Int32)), (.int (0 : Int32)), (.int (0 : Int32)), (.int (0 : Int32)), (.int (0 : Int32))] (.int (0 : Int32)) := Arv.set Ar_19 q_19 Sz_19 Ng_19 Hh_19 Gg_19 (fits_nar_char _) W_19 1 rfl (Nat.le_of_ble_eq_true rfl)
  refine Go.to (mkF m 27 #[.val (.ref a1), .val (.ref b_3), .val (.int (1 : Int32))] []) st_19 ?_
  refine Go.to (mkF m 30 #[.val (.ref a1), .val (.ref b_3), .val (.int (2 : Int32))] []) (fun _ k => XS.iinc X_19.here hx rfl (hb hby d4_27) rfl (l' := #[.val (.ref a1), .val (.ref b_3), .val (.int (2 : Int32))]) rfl k) ?_
  refine Go.to (mkF m 10 #[.val (.ref a1), .val (.ref b_3), .val (.int (2 : Int32))] []) (fun _ k => XS.goto X_19.here hx rfl (pc0 := 30) (pc' := 10) rfl (hb hby d4_30) (by decide) (by decide) k) ?_
  refine Go.to (mkF m 11 #[.val (.ref a1), .val (.ref b_3), .val (.int (2 : Int32))] [(.int (2 : Int32))]) (fun _ k => XS.iloadN X_19.here hx rfl (hb hby d4_10) rfl  k) ?_
  refine Go.to (mkF m 12 #[.val (.ref a1), .val (.ref b_3), .val (.int (2 : Int32))] [(.ref a1), (.int (2 : Int32))]) (fun _ k => XS.aloadN X_19.here hx rfl (hb hby d4_11) rfl rfl k) ?_
  have f_20 : Fld Z h_19 a1 "nonet/Grid" "digits" "[B" (.ref ad) := (f_12.other W_19 (Or.inl ne_a1_b_3))
  obtain ⟨T_21, X_21, e_21, st_21⟩ := getF X_19 hx hZ hown (host := "") (Or.inl (hw _ (List.mem_of_getElem? (i := 21) rfl))) Via.refl e_19 f_20 (g := (mkF m 12 #[.val (.ref a1), .val (.ref b_3), .val (.int (2 : Int32))] [(.ref a1), (.int (2 : Int32))])) rfl rfl (hb hby d4_12)
  refine Go.to (mkF m 15 #[.val (.ref a1), .val (.ref b_3), .val (.int (2 : Int32))] [(.ref ad), (.int (2 : Int32))]) st_21 ?_
  have f_22 : Arv Z h_19 ad kd .byte (16 : Int32) [(.int d0), (.int d1), (.int d2), (.int d3), (.int d4), (.int d5), (.int d6), (.int d7), (.int d8), (.int d9), (.int d10), (.int d11), (.int d12), (.int d13), (.int d14), (.int d15)] (.int (0 : Int32)) := (f_14.other W_19 ne_ad_b_3)
  obtain ⟨cl_23, Ar_23, -, Sz_23, Ng_23, -, -⟩ := id f_22
  refine Go.to (mkF m 16 #[.val (.ref a1), .val (.ref b_3), .val (.int (2 : Int32))] [(.int (16 : Int32)), (.int (2 : Int32))]) (fun _ k => by
    refine X_21.arraylength hx (by rw [e_21]; exact Ar_23.1) (State.isArrayOf_alike hZ.alike Ar_23.2.1) (g := (mkF m 15 #[.val (.ref a1), .val (.ref b_3), .val (.int (2 : Int32))] [(.ref ad), (.int (2 : Int32))])) rfl rfl (hb hby d4_15) _ ?_
    rw [len_of Sz_23 Ng_23]
    exact k) ?_
  refine Go.to (mkF m 19 #[.val (.ref a1), .val (.ref b_3), .val (.int (2 : Int32))] []) (fun _ k => XS.icmpNo X_21.here hx rfl (hb hby d4_16) rfl (tlt (by decide : (2 : Int32) < (16 : Int32))).2.1 k) ?_
  refine Go.to (mkF m 20 #[.val (.ref a1), .val (.ref b_3), .val (.int (2 : Int32))] [(.ref b_3)]) (fun _ k => XS.aloadN X_21.here hx rfl (hb hby d4_19) rfl rfl k) ?_
  refine Go.to (mkF m 21 #[.val (.ref a1), .val (.ref b_3), .val (.int (2 : Int32))] [(.int (2 : Int32)), (.ref b_3)]) (fun _ k => XS.iloadN X_21.here hx rfl (hb hby d4_20) rfl  k) ?_
  refine Go.to (mkF m 22 #[.val (.ref a1), .val (.ref b_3), .val (.int (2 : Int32))] [(.ref a1), (.int (2 : Int32)), (.ref b_3)]) (fun _ k => XS.aloadN X_21.here hx rfl (hb hby d4_21) rfl rfl k) ?_
  refine Go.to (mkF m 23 #[.val (.ref a1), .val (.ref b_3), .val (.int (2 : Int32))] [(.int (2 : Int32)), (.ref a1), (.int (2 : Int32)), (.ref b_3)]) (fun _ k => XS.iloadN X_21.here hx rfl (hb hby d4_22) rfl  k) ?_
  have f_24 : n0 ≤ h_19.size := (Nat.le_trans f_16 (Keep.of_wr W_19).1)
  have f_25 : Exa Z h_19 a1 "nonet/Grid" := (f_17.wr W_19)
  refine Go.priv X_21 hx hZ (y := (⟨"nonet/Grid", "symbol", "(I)C"⟩ : MethodName)) hown (hw _ (List.mem_of_getElem? (i := 29) rfl)) (hw _ (List.mem_of_getElem? (i := 30) rfl)) (Jvm.Kit.selects_private (by decide) (mvT hZ (hw _ (List.mem_of_getElem? (i := 8) rfl))) (mvP hZ (hw _ (List.mem_of_getElem? (i := 31) rfl))) (mvT hZ (hw _ (List.mem_of_getElem? (i := 30) rfl)))) (hw _ (List.mem_of_getElem? (i := 31) rfl)) (hw _ (List.mem_of_getElem? (i := 32) rfl)) (by decide) e_21 (a := a1) f_25 (argsL := [(.int (2 : Int32))]) (rest := [(.int (2 : Int32)), (.ref b_3)]) (Met1.back (W := 2) (rm5 l Z a0 hw a1 ad kd ([(.int d0), (.int d1), (.int d2), (.int d3), (.int d4), (.int d5), (.int d6), (.int d7), (.int d8), (.int d9), (.int d10), (.int d11), (.int d12), (.int d13), (.int d14), (.int d15)]) (2 : Int32) d2 h_19 n0 f_24 f_20 f_22 (by decide) (by decide) rfl) hZ (hw _ (List.mem_of_getElem? (i := 32) rfl)) (hw _ (List.mem_of_getElem? (i := 9) rfl)) (by decide) (by decide)) (pc := 23) (Ls := #[.val (.ref a1), .val (.ref b_3), .val (.int (2 : Int32))]) (by rw [hml]; rfl) (lenOf own_pd0 rfl) rfl (Nat.le_refl _) (hb hby d4_23) (by decide) (by decide) ?_
  intro T_26 v_26 L_26 X_26 hQ_26
  obtain ⟨rfl, Nq_26, hh_26⟩ := hQ_26
  have N_26 := Fr.app N_19 Nq_26
  show Go p e below (FinN s (Q4 Z a1 ad kd d0 d1 d2 d3 d4 d5 d6 d7 d8 d9 d10 d11 d12 d13 d14 d15 z h0 n0) ({ frames := 4, cells := 3, slots := 36, locals := 66 } : Room).cells ({ frames := 4, cells := 3, slots := 36, locals := 66 } : Room).slots) T_26 (mkF m 26 #[.val (.ref a1), .val (.ref b_3), .val (.int (2 : Int32))] [(.int (own_sy d2)), (.int (2 : Int32)), (.ref b_3)])
  obtain ⟨cl_27, Ar_27, q_27, Sz_27, Ng_27, Hh_27, Gg_27⟩ := id V_19
  have hin_27 : ¬ ((2 : Int32) < 0 ∨ cl_27.slots.size ≤ ((2 : Int32)).toNatClampNeg) := inb_of Sz_27 ⟨by decide, by decide⟩
  obtain ⟨T_27, h_27, X_27, e_27, W_27, st_27⟩ := stC X_26 hx hZ hh_26 Ar_27 (j := (2 : Int32)) hin_27 (g := (mkF m 26 #[.val (.ref a1), .val (.ref b_3), .val (.int (2 : Int32))] [(.int (own_sy d2)), (.int (2 : Int32)), (.ref b_3)])) rfl rfl (hb hby d4_26)
  have N_27 := Fr.snoc X_27 N_26 g_b_3
  have V_27 : Arv Z h_27 b_3 k_3 .char (16 : Int32) [(.int (nar .char (own_sy d0))), (.int (nar .char (own_sy d1))), (.int (nar .char (own_sy d2))), (.int (0 : Int32)), (.int (0 : Int32)), (.int (0 : Int32)), (.int (0 : Int32)), (.int (0 : Int32)), (.int (0 : Int32)), (.int (0 : Int32)), (.int (0 : Int32)), (.int (0 : Int32)), (.int (0 : Int32)), (.int (0 : Int32)), (.int (0 : Int32)), (.int (0 : Int32))] (.int (0 : Int32)) := Arv.set Ar_27 q_27 Sz_27 Ng_27 Hh_27 Gg_27 (fits_nar_char _) W_27 2 rfl (Nat.le_of_ble_eq_true rfl)
  refine Go.to (mkF m 27 #[.val (.ref a1), .val (.ref b_3), .val (.int (2 : Int32))] []) st_27 ?_
  refine Go.to (mkF m 30 #[.val (.ref a1), .val (.ref b_3), .val (.int (3 : Int32))] []) (fun _ k => XS.iinc X_27.here hx rfl (hb hby d4_27) rfl (l' := #[.val (.ref a1), .val (.ref b_3), .val (.int (3 : Int32))]) rfl k) ?_
  refine Go.to (mkF m 10 #[.val (.ref a1), .val (.ref b_3), .val (.int (3 : Int32))] []) (fun _ k => XS.goto X_27.here hx rfl (pc0 := 30) (pc' := 10) rfl (hb hby d4_30) (by decide) (by decide) k) ?_
  refine Go.to (mkF m 11 #[.val (.ref a1), .val (.ref b_3), .val (.int (3 : Int32))] [(.int (3 : Int32))]) (fun _ k => XS.iloadN X_27.here hx rfl (hb hby d4_10) rfl  k) ?_
  refine Go.to (mkF m 12 #[.val (.ref a1), .val (.ref b_3), .val (.int (3 : Int32))] [(.ref a1), (.int (3 : Int32))]) (fun _ k => XS.aloadN X_27.here hx rfl (hb hby d4_11) rfl rfl k) ?_
  have f_28 : Fld Z h_27 a1 "nonet/Grid" "digits" "[B" (.ref ad) := (f_20.other W_27 (Or.inl ne_a1_b_3))
  obtain ⟨T_29, X_29, e_29, st_29⟩ := getF X_27 hx hZ hown (host := "") (Or.inl (hw _ (List.mem_of_getElem? (i := 21) rfl))) Via.refl e_27 f_28 (g := (mkF m 12 #[.val (.ref a1), .val (.ref b_3), .val (.int (3 : Int32))] [(.ref a1), (.int (3 : Int32))])) rfl rfl (hb hby d4_12)
  refine Go.to (mkF m 15 #[.val (.ref a1), .val (.ref b_3), .val (.int (3 : Int32))] [(.ref ad), (.int (3 : Int32))]) st_29 ?_
  have f_30 : Arv Z h_27 ad kd .byte (16 : Int32) [(.int d0), (.int d1), (.int d2), (.int d3), (.int d4), (.int d5), (.int d6), (.int d7), (.int d8), (.int d9), (.int d10), (.int d11), (.int d12), (.int d13), (.int d14), (.int d15)] (.int (0 : Int32)) := (f_22.other W_27 ne_ad_b_3)
  obtain ⟨cl_31, Ar_31, -, Sz_31, Ng_31, -, -⟩ := id f_30
  refine Go.to (mkF m 16 #[.val (.ref a1), .val (.ref b_3), .val (.int (3 : Int32))] [(.int (16 : Int32)), (.int (3 : Int32))]) (fun _ k => by
    refine X_29.arraylength hx (by rw [e_29]; exact Ar_31.1) (State.isArrayOf_alike hZ.alike Ar_31.2.1) (g := (mkF m 15 #[.val (.ref a1), .val (.ref b_3), .val (.int (3 : Int32))] [(.ref ad), (.int (3 : Int32))])) rfl rfl (hb hby d4_15) _ ?_
    rw [len_of Sz_31 Ng_31]
    exact k) ?_
  refine Go.to (mkF m 19 #[.val (.ref a1), .val (.ref b_3), .val (.int (3 : Int32))] []) (fun _ k => XS.icmpNo X_29.here hx rfl (hb hby d4_16) rfl (tlt (by decide : (3 : Int32) < (16 : Int32))).2.1 k) ?_
  refine Go.to (mkF m 20 #[.val (.ref a1), .val (.ref b_3), .val (.int (3 : Int32))] [(.ref b_3)]) (fun _ k => XS.aloadN X_29.here hx rfl (hb hby d4_19) rfl rfl k) ?_
  refine Go.to (mkF m 21 #[.val (.ref a1), .val (.ref b_3), .val (.int (3 : Int32))] [(.int (3 : Int32)), (.ref b_3)]) (fun _ k => XS.iloadN X_29.here hx rfl (hb hby d4_20) rfl  k) ?_
  refine Go.to (mkF m 22 #[.val (.ref a1), .val (.ref b_3), .val (.int (3 : Int32))] [(.ref a1), (.int (3 : Int32)), (.ref b_3)]) (fun _ k => XS.aloadN X_29.here hx rfl (hb hby d4_21) rfl rfl k) ?_
  refine Go.to (mkF m 23 #[.val (.ref a1), .val (.ref b_3), .val (.int (3 : Int32))] [(.int (3 : Int32)), (.ref a1), (.int (3 : Int32)), (.ref b_3)]) (fun _ k => XS.iloadN X_29.here hx rfl (hb hby d4_22) rfl  k) ?_
  have f_32 : n0 ≤ h_27.size := (Nat.le_trans f_24 (Keep.of_wr W_27).1)
  have f_33 : Exa Z h_27 a1 "nonet/Grid" := (f_25.wr W_27)
  refine Go.priv X_29 hx hZ (y := (⟨"nonet/Grid", "symbol", "(I)C"⟩ : MethodName)) hown (hw _ (List.mem_of_getElem? (i := 29) rfl)) (hw _ (List.mem_of_getElem? (i := 30) rfl)) (Jvm.Kit.selects_private (by decide) (mvT hZ (hw _ (List.mem_of_getElem? (i := 8) rfl))) (mvP hZ (hw _ (List.mem_of_getElem? (i := 31) rfl))) (mvT hZ (hw _ (List.mem_of_getElem? (i := 30) rfl)))) (hw _ (List.mem_of_getElem? (i := 31) rfl)) (hw _ (List.mem_of_getElem? (i := 32) rfl)) (by decide) e_29 (a := a1) f_33 (argsL := [(.int (3 : Int32))]) (rest := [(.int (3 : Int32)), (.ref b_3)]) (Met1.back (W := 2) (rm5 l Z a0 hw a1 ad kd ([(.int d0), (.int d1), (.int d2), (.int d3), (.int d4), (.int d5), (.int d6), (.int d7), (.int d8), (.int d9), (.int d10), (.int d11), (.int d12), (.int d13), (.int d14), (.int d15)]) (3 : Int32) d3 h_27 n0 f_32 f_28 f_30 (by decide) (by decide) rfl) hZ (hw _ (List.mem_of_getElem? (i := 32) rfl)) (hw _ (List.mem_of_getElem? (i := 9) rfl)) (by decide) (by decide)) (pc := 23) (Ls := #[.val (.ref a1), .val (.ref b_3), .val (.int (3 : Int32))]) (by rw [hml]; rfl) (lenOf own_pd0 rfl) rfl (Nat.le_refl _) (hb hby d4_23) (by decide) (by decide) ?_
  intro T_34 v_34 L_34 X_34 hQ_34
  obtain ⟨rfl, Nq_34, hh_34⟩ := hQ_34
  have N_34 := Fr.app N_27 Nq_34
  show Go p e below (FinN s (Q4 Z a1 ad kd d0 d1 d2 d3 d4 d5 d6 d7 d8 d9 d10 d11 d12 d13 d14 d15 z h0 n0) ({ frames := 4, cells := 3, slots := 36, locals := 66 } : Room).cells ({ frames := 4, cells := 3, slots := 36, locals := 66 } : Room).slots) T_34 (mkF m 26 #[.val (.ref a1), .val (.ref b_3), .val (.int (3 : Int32))] [(.int (own_sy d3)), (.int (3 : Int32)), (.ref b_3)])
  obtain ⟨cl_35, Ar_35, q_35, Sz_35, Ng_35, Hh_35, Gg_35⟩ := id V_27
  have hin_35 : ¬ ((3 : Int32) < 0 ∨ cl_35.slots.size ≤ ((3 : Int32)).toNatClampNeg) := inb_of Sz_35 ⟨by decide, by decide⟩
  obtain ⟨T_35, h_35, X_35, e_35, W_35, st_35⟩ := stC X_34 hx hZ hh_34 Ar_35 (j := (3 : Int32)) hin_35 (g := (mkF m 26 #[.val (.ref a1), .val (.ref b_3), .val (.int (3 : Int32))] [(.int (own_sy d3)), (.int (3 : Int32)), (.ref b_3)])) rfl rfl (hb hby d4_26)
  have N_35 := Fr.snoc X_35 N_34 g_b_3
  have V_35 : Arv Z h_35 b_3 k_3 .char (16 : Int32) [(.int (nar .char (own_sy d0))), (.int (nar .char (own_sy d1))), (.int (nar .char (own_sy d2))), (.int (nar .char (own_sy d3))), (.int (0 : Int32)), (.int (0 : Int32)), (.int (0 : Int32)), (.int (0 : Int32)), (.int (0 : Int32)), (.int (0 : Int32)), (.int (0 : Int32)), (.int (0 : Int32)), (.int (0 : Int32)), (.int (0 : Int32)), (.int (0 : Int32)), (.int (0 : Int32))] (.int (0 : Int32)) := Arv.set Ar_35 q_35 Sz_35 Ng_35 Hh_35 Gg_35 (fits_nar_char _) W_35 3 rfl (Nat.le_of_ble_eq_true rfl)
  refine Go.to (mkF m 27 #[.val (.ref a1), .val (.ref b_3), .val (.int (3 : Int32))] []) st_35 ?_
  refine Go.to (mkF m 30 #[.val (.ref a1), .val (.ref b_3), .val (.int (4 : Int32))] []) (fun _ k => XS.iinc X_35.here hx rfl (hb hby d4_27) rfl (l' := #[.val (.ref a1), .val (.ref b_3), .val (.int (4 : Int32))]) rfl k) ?_
  refine Go.to (mkF m 10 #[.val (.ref a1), .val (.ref b_3), .val (.int (4 : Int32))] []) (fun _ k => XS.goto X_35.here hx rfl (pc0 := 30) (pc' := 10) rfl (hb hby d4_30) (by decide) (by decide) k) ?_
  refine Go.to (mkF m 11 #[.val (.ref a1), .val (.ref b_3), .val (.int (4 : Int32))] [(.int (4 : Int32))]) (fun _ k => XS.iloadN X_35.here hx rfl (hb hby d4_10) rfl  k) ?_
  refine Go.to (mkF m 12 #[.val (.ref a1), .val (.ref b_3), .val (.int (4 : Int32))] [(.ref a1), (.int (4 : Int32))]) (fun _ k => XS.aloadN X_35.here hx rfl (hb hby d4_11) rfl rfl k) ?_
  have f_36 : Fld Z h_35 a1 "nonet/Grid" "digits" "[B" (.ref ad) := (f_28.other W_35 (Or.inl ne_a1_b_3))
  obtain ⟨T_37, X_37, e_37, st_37⟩ := getF X_35 hx hZ hown (host := "") (Or.inl (hw _ (List.mem_of_getElem? (i := 21) rfl))) Via.refl e_35 f_36 (g := (mkF m 12 #[.val (.ref a1), .val (.ref b_3), .val (.int (4 : Int32))] [(.ref a1), (.int (4 : Int32))])) rfl rfl (hb hby d4_12)
  refine Go.to (mkF m 15 #[.val (.ref a1), .val (.ref b_3), .val (.int (4 : Int32))] [(.ref ad), (.int (4 : Int32))]) st_37 ?_
  have f_38 : Arv Z h_35 ad kd .byte (16 : Int32) [(.int d0), (.int d1), (.int d2), (.int d3), (.int d4), (.int d5), (.int d6), (.int d7), (.int d8), (.int d9), (.int d10), (.int d11), (.int d12), (.int d13), (.int d14), (.int d15)] (.int (0 : Int32)) := (f_30.other W_35 ne_ad_b_3)
  obtain ⟨cl_39, Ar_39, -, Sz_39, Ng_39, -, -⟩ := id f_38
  refine Go.to (mkF m 16 #[.val (.ref a1), .val (.ref b_3), .val (.int (4 : Int32))] [(.int (16 : Int32)), (.int (4 : Int32))]) (fun _ k => by
    refine X_37.arraylength hx (by rw [e_37]; exact Ar_39.1) (State.isArrayOf_alike hZ.alike Ar_39.2.1) (g := (mkF m 15 #[.val (.ref a1), .val (.ref b_3), .val (.int (4 : Int32))] [(.ref ad), (.int (4 : Int32))])) rfl rfl (hb hby d4_15) _ ?_
    rw [len_of Sz_39 Ng_39]
    exact k) ?_
  refine Go.to (mkF m 19 #[.val (.ref a1), .val (.ref b_3), .val (.int (4 : Int32))] []) (fun _ k => XS.icmpNo X_37.here hx rfl (hb hby d4_16) rfl (tlt (by decide : (4 : Int32) < (16 : Int32))).2.1 k) ?_
  refine Go.to (mkF m 20 #[.val (.ref a1), .val (.ref b_3), .val (.int (4 : Int32))] [(.ref b_3)]) (fun _ k => XS.aloadN X_37.here hx rfl (hb hby d4_19) rfl rfl k) ?_
  refine Go.to (mkF m 21 #[.val (.ref a1), .val (.ref b_3), .val (.int (4 : Int32))] [(.int (4 : Int32)), (.ref b_3)]) (fun _ k => XS.iloadN X_37.here hx rfl (hb hby d4_20) rfl  k) ?_
  refine Go.to (mkF m 22 #[.val (.ref a1), .val (.ref b_3), .val (.int (4 : Int32))] [(.ref a1), (.int (4 : Int32)), (.ref b_3)]) (fun _ k => XS.aloadN X_37.here hx rfl (hb hby d4_21) rfl rfl k) ?_
  refine Go.to (mkF m 23 #[.val (.ref a1), .val (.ref b_3), .val (.int (4 : Int32))] [(.int (4 : Int32)), (.ref a1), (.int (4 : Int32)), (.ref b_3)]) (fun _ k => XS.iloadN X_37.here hx rfl (hb hby d4_22) rfl  k) ?_
  have f_40 : n0 ≤ h_35.size := (Nat.le_trans f_32 (Keep.of_wr W_35).1)
  have f_41 : Exa Z h_35 a1 "nonet/Grid" := (f_33.wr W_35)
  refine Go.priv X_37 hx hZ (y := (⟨"nonet/Grid", "symbol", "(I)C"⟩ : MethodName)) hown (hw _ (List.mem_of_getElem? (i := 29) rfl)) (hw _ (List.mem_of_getElem? (i := 30) rfl)) (Jvm.Kit.selects_private (by decide) (mvT hZ (hw _ (List.mem_of_getElem? (i := 8) rfl))) (mvP hZ (hw _ (List.mem_of_getElem? (i := 31) rfl))) (mvT hZ (hw _ (List.mem_of_getElem? (i := 30) rfl)))) (hw _ (List.mem_of_getElem? (i := 31) rfl)) (hw _ (List.mem_of_getElem? (i := 32) rfl)) (by decide) e_37 (a := a1) f_41 (argsL := [(.int (4 : Int32))]) (rest := [(.int (4 : Int32)), (.ref b_3)]) (Met1.back (W := 2) (rm5 l Z a0 hw a1 ad kd ([(.int d0), (.int d1), (.int d2), (.int d3), (.int d4), (.int d5), (.int d6), (.int d7), (.int d8), (.int d9), (.int d10), (.int d11), (.int d12), (.int d13), (.int d14), (.int d15)]) (4 : Int32) d4 h_35 n0 f_40 f_36 f_38 (by decide) (by decide) rfl) hZ (hw _ (List.mem_of_getElem? (i := 32) rfl)) (hw _ (List.mem_of_getElem? (i := 9) rfl)) (by decide) (by decide)) (pc := 23) (Ls := #[.val (.ref a1), .val (.ref b_3), .val (.int (4 : Int32))]) (by rw [hml]; rfl) (lenOf own_pd0 rfl) rfl (Nat.le_refl _) (hb hby d4_23) (by decide) (by decide) ?_
  intro T_42 v_42 L_42 X_42 hQ_42
  obtain ⟨rfl, Nq_42, hh_42⟩ := hQ_42
  have N_42 := Fr.app N_35 Nq_42
  show Go p e below (FinN s (Q4 Z a1 ad kd d0 d1 d2 d3 d4 d5 d6 d7 d8 d9 d10 d11 d12 d13 d14 d15 z h0 n0) ({ frames := 4, cells := 3, slots := 36, locals := 66 } : Room).cells ({ frames := 4, cells := 3, slots := 36, locals := 66 } : Room).slots) T_42 (mkF m 26 #[.val (.ref a1), .val (.ref b_3), .val (.int (4 : Int32))] [(.int (own_sy d4)), (.int (4 : Int32)), (.ref b_3)])
  obtain ⟨cl_43, Ar_43, q_43, Sz_43, Ng_43, Hh_43, Gg_43⟩ := id V_35
  have hin_43 : ¬ ((4 : Int32) < 0 ∨ cl_43.slots.size ≤ ((4 : Int32)).toNatClampNeg) := inb_of Sz_43 ⟨by decide, by decide⟩
  obtain ⟨T_43, h_43, X_43, e_43, W_43, st_43⟩ := stC X_42 hx hZ hh_42 Ar_43 (j := (4 : Int32)) hin_43 (g := (mkF m 26 #[.val (.ref a1), .val (.ref b_3), .val (.int (4 : Int32))] [(.int (own_sy d4)), (.int (4 : Int32)), (.ref b_3)])) rfl rfl (hb hby d4_26)
  have N_43 := Fr.snoc X_43 N_42 g_b_3
  have V_43 : Arv Z h_43 b_3 k_3 .char (16 : Int32) [(.int (nar .char (own_sy d0))), (.int (nar .char (own_sy d1))), (.int (nar .char (own_sy d2))), (.int (nar .char (own_sy d3))), (.int (nar .char (own_sy d4))), (.int (0 : Int32)), (.int (0 : Int32)), (.int (0 : Int32)), (.int (0 : Int32)), (.int (0 : Int32)), (.int (0 : Int32)), (.int (0 : Int32)), (.int (0 : Int32)), (.int (0 : Int32)), (.int (0 : Int32)), (.int (0 : Int32))] (.int (0 : Int32)) := Arv.set Ar_43 q_43 Sz_43 Ng_43 Hh_43 Gg_43 (fits_nar_char _) W_43 4 rfl (Nat.le_of_ble_eq_true rfl)
  refine Go.to (mkF m 27 #[.val (.ref a1), .val (.ref b_3), .val (.int (4 : Int32))] []) st_43 ?_
  refine Go.to (mkF m 30 #[.val (.ref a1), .val (.ref b_3), .val (.int (5 : Int32))] []) (fun _ k => XS.iinc X_43.here hx rfl (hb hby d4_27) rfl (l' := #[.val (.ref a1), .val (.ref b_3), .val (.int (5 : Int32))]) rfl k) ?_
  refine Go.to (mkF m 10 #[.val (.ref a1), .val (.ref b_3), .val (.int (5 : Int32))] []) (fun _ k => XS.goto X_43.here hx rfl (pc0 := 30) (pc' := 10) rfl (hb hby d4_30) (by decide) (by decide) k) ?_
  refine Go.to (mkF m 11 #[.val (.ref a1), .val (.ref b_3), .val (.int (5 : Int32))] [(.int (5 : Int32))]) (fun _ k => XS.iloadN X_43.here hx rfl (hb hby d4_10) rfl  k) ?_
  refine Go.to (mkF m 12 #[.val (.ref a1), .val (.ref b_3), .val (.int (5 : Int32))] [(.ref a1), (.int (5 : Int32))]) (fun _ k => XS.aloadN X_43.here hx rfl (hb hby d4_11) rfl rfl k) ?_
  have f_44 : Fld Z h_43 a1 "nonet/Grid" "digits" "[B" (.ref ad) := (f_36.other W_43 (Or.inl ne_a1_b_3))
  obtain ⟨T_45, X_45, e_45, st_45⟩ := getF X_43 hx hZ hown (host := "") (Or.inl (hw _ (List.mem_of_getElem? (i := 21) rfl))) Via.refl e_43 f_44 (g := (mkF m 12 #[.val (.ref a1), .val (.ref b_3), .val (.int (5 : Int32))] [(.ref a1), (.int (5 : Int32))])) rfl rfl (hb hby d4_12)
  refine Go.to (mkF m 15 #[.val (.ref a1), .val (.ref b_3), .val (.int (5 : Int32))] [(.ref ad), (.int (5 : Int32))]) st_45 ?_
  have f_46 : Arv Z h_43 ad kd .byte (16 : Int32) [(.int d0), (.int d1), (.int d2), (.int d3), (.int d4), (.int d5), (.int d6), (.int d7), (.int d8), (.int d9), (.int d10), (.int d11), (.int d12), (.int d13), (.int d14), (.int d15)] (.int (0 : Int32)) := (f_38.other W_43 ne_ad_b_3)
  obtain ⟨cl_47, Ar_47, -, Sz_47, Ng_47, -, -⟩ := id f_46
  refine Go.to (mkF m 16 #[.val (.ref a1), .val (.ref b_3), .val (.int (5 : Int32))] [(.int (16 : Int32)), (.int (5 : Int32))]) (fun _ k => by
    refine X_45.arraylength hx (by rw [e_45]; exact Ar_47.1) (State.isArrayOf_alike hZ.alike Ar_47.2.1) (g := (mkF m 15 #[.val (.ref a1), .val (.ref b_3), .val (.int (5 : Int32))] [(.ref ad), (.int (5 : Int32))])) rfl rfl (hb hby d4_15) _ ?_
    rw [len_of Sz_47 Ng_47]
    exact k) ?_
  refine Go.to (mkF m 19 #[.val (.ref a1), .val (.ref b_3), .val (.int (5 : Int32))] []) (fun _ k => XS.icmpNo X_45.here hx rfl (hb hby d4_16) rfl (tlt (by decide : (5 : Int32) < (16 : Int32))).2.1 k) ?_
  refine Go.to (mkF m 20 #[.val (.ref a1), .val (.ref b_3), .val (.int (5 : Int32))] [(.ref b_3)]) (fun _ k => XS.aloadN X_45.here hx rfl (hb hby d4_19) rfl rfl k) ?_
  refine Go.to (mkF m 21 #[.val (.ref a1), .val (.ref b_3), .val (.int (5 : Int32))] [(.int (5 : Int32)), (.ref b_3)]) (fun _ k => XS.iloadN X_45.here hx rfl (hb hby d4_20) rfl  k) ?_
  refine Go.to (mkF m 22 #[.val (.ref a1), .val (.ref b_3), .val (.int (5 : Int32))] [(.ref a1), (.int (5 : Int32)), (.ref b_3)]) (fun _ k => XS.aloadN X_45.here hx rfl (hb hby d4_21) rfl rfl k) ?_
  refine Go.to (mkF m 23 #[.val (.ref a1), .val (.ref b_3), .val (.int (5 : Int32))] [(.int (5 : Int32)), (.ref a1), (.int (5 : Int32)), (.ref b_3)]) (fun _ k => XS.iloadN X_45.here hx rfl (hb hby d4_22) rfl  k) ?_
  have f_48 : n0 ≤ h_43.size := (Nat.le_trans f_40 (Keep.of_wr W_43).1)
  have f_49 : Exa Z h_43 a1 "nonet/Grid" := (f_41.wr W_43)
  refine Go.priv X_45 hx hZ (y := (⟨"nonet/Grid", "symbol", "(I)C"⟩ : MethodName)) hown (hw _ (List.mem_of_getElem? (i := 29) rfl)) (hw _ (List.mem_of_getElem? (i := 30) rfl)) (Jvm.Kit.selects_private (by decide) (mvT hZ (hw _ (List.mem_of_getElem? (i := 8) rfl))) (mvP hZ (hw _ (List.mem_of_getElem? (i := 31) rfl))) (mvT hZ (hw _ (List.mem_of_getElem? (i := 30) rfl)))) (hw _ (List.mem_of_getElem? (i := 31) rfl)) (hw _ (List.mem_of_getElem? (i := 32) rfl)) (by decide) e_45 (a := a1) f_49 (argsL := [(.int (5 : Int32))]) (rest := [(.int (5 : Int32)), (.ref b_3)]) (Met1.back (W := 2) (rm5 l Z a0 hw a1 ad kd ([(.int d0), (.int d1), (.int d2), (.int d3), (.int d4), (.int d5), (.int d6), (.int d7), (.int d8), (.int d9), (.int d10), (.int d11), (.int d12), (.int d13), (.int d14), (.int d15)]) (5 : Int32) d5 h_43 n0 f_48 f_44 f_46 (by decide) (by decide) rfl) hZ (hw _ (List.mem_of_getElem? (i := 32) rfl)) (hw _ (List.mem_of_getElem? (i := 9) rfl)) (by decide) (by decide)) (pc := 23) (Ls := #[.val (.ref a1), .val (.ref b_3), .val (.int (5 : Int32))]) (by rw [hml]; rfl) (lenOf own_pd0 rfl) rfl (Nat.le_refl _) (hb hby d4_23) (by decide) (by decide) ?_
  intro T_50 v_50 L_50 X_50 hQ_50
  obtain ⟨rfl, Nq_50, hh_50⟩ := hQ_50
  have N_50 := Fr.app N_43 Nq_50
  show Go p e below (FinN s (Q4 Z a1 ad kd d0 d1 d2 d3 d4 d5 d6 d7 d8 d9 d10 d11 d12 d13 d14 d15 z h0 n0) ({ frames := 4, cells := 3, slots := 36, locals := 66 } : Room).cells ({ frames := 4, cells := 3, slots := 36, locals := 66 } : Room).slots) T_50 (mkF m 26 #[.val (.ref a1), .val (.ref b_3), .val (.int (5 : Int32))] [(.int (own_sy d5)), (.int (5 : Int32)), (.ref b_3)])
  obtain ⟨cl_51, Ar_51, q_51, Sz_51, Ng_51, Hh_51, Gg_51⟩ := id V_43
  have hin_51 : ¬ ((5 : Int32) < 0 ∨ cl_51.slots.size ≤ ((5 : Int32)).toNatClampNeg) := inb_of Sz_51 ⟨by decide, by decide⟩
  obtain ⟨T_51, h_51, X_51, e_51, W_51, st_51⟩ := stC X_50 hx hZ hh_50 Ar_51 (j := (5 : Int32)) hin_51 (g := (mkF m 26 #[.val (.ref a1), .val (.ref b_3), .val (.int (5 : Int32))] [(.int (own_sy d5)), (.int (5 : Int32)), (.ref b_3)])) rfl rfl (hb hby d4_26)
  have N_51 := Fr.snoc X_51 N_50 g_b_3
  have V_51 : Arv Z h_51 b_3 k_3 .char (16 : Int32) [(.int (nar .char (own_sy d0))), (.int (nar .char (own_sy d1))), (.int (nar .char (own_sy d2))), (.int (nar .char (own_sy d3))), (.int (nar .char (own_sy d4))), (.int (nar .char (own_sy d5))), (.int (0 : Int32)), (.int (0 : Int32)), (.int (0 : Int32)), (.int (0 : Int32)), (.int (0 : Int32)), (.int (0 : Int32)), (.int (0 : Int32)), (.int (0 : Int32)), (.int (0 : Int32)), (.int (0 : Int32))] (.int (0 : Int32)) := Arv.set Ar_51 q_51 Sz_51 Ng_51 Hh_51 Gg_51 (fits_nar_char _) W_51 5 rfl (Nat.le_of_ble_eq_true rfl)
  refine Go.to (mkF m 27 #[.val (.ref a1), .val (.ref b_3), .val (.int (5 : Int32))] []) st_51 ?_
  refine Go.to (mkF m 30 #[.val (.ref a1), .val (.ref b_3), .val (.int (6 : Int32))] []) (fun _ k => XS.iinc X_51.here hx rfl (hb hby d4_27) rfl (l' := #[.val (.ref a1), .val (.ref b_3), .val (.int (6 : Int32))]) rfl k) ?_
  refine Go.to (mkF m 10 #[.val (.ref a1), .val (.ref b_3), .val (.int (6 : Int32))] []) (fun _ k => XS.goto X_51.here hx rfl (pc0 := 30) (pc' := 10) rfl (hb hby d4_30) (by decide) (by decide) k) ?_
  refine Go.to (mkF m 11 #[.val (.ref a1), .val (.ref b_3), .val (.int (6 : Int32))] [(.int (6 : Int32))]) (fun _ k => XS.iloadN X_51.here hx rfl (hb hby d4_10) rfl  k) ?_
  refine Go.to (mkF m 12 #[.val (.ref a1), .val (.ref b_3), .val (.int (6 : Int32))] [(.ref a1), (.int (6 : Int32))]) (fun _ k => XS.aloadN X_51.here hx rfl (hb hby d4_11) rfl rfl k) ?_
  have f_52 : Fld Z h_51 a1 "nonet/Grid" "digits" "[B" (.ref ad) := (f_44.other W_51 (Or.inl ne_a1_b_3))
  obtain ⟨T_53, X_53, e_53, st_53⟩ := getF X_51 hx hZ hown (host := "") (Or.inl (hw _ (List.mem_of_getElem? (i := 21) rfl))) Via.refl e_51 f_52 (g := (mkF m 12 #[.val (.ref a1), .val (.ref b_3), .val (.int (6 : Int32))] [(.ref a1), (.int (6 : Int32))])) rfl rfl (hb hby d4_12)
  refine Go.to (mkF m 15 #[.val (.ref a1), .val (.ref b_3), .val (.int (6 : Int32))] [(.ref ad), (.int (6 : Int32))]) st_53 ?_
  have f_54 : Arv Z h_51 ad kd .byte (16 : Int32) [(.int d0), (.int d1), (.int d2), (.int d3), (.int d4), (.int d5), (.int d6), (.int d7), (.int d8), (.int d9), (.int d10), (.int d11), (.int d12), (.int d13), (.int d14), (.int d15)] (.int (0 : Int32)) := (f_46.other W_51 ne_ad_b_3)
  obtain ⟨cl_55, Ar_55, -, Sz_55, Ng_55, -, -⟩ := id f_54
  refine Go.to (mkF m 16 #[.val (.ref a1), .val (.ref b_3), .val (.int (6 : Int32))] [(.int (16 : Int32)), (.int (6 : Int32))]) (fun _ k => by
    refine X_53.arraylength hx (by rw [e_53]; exact Ar_55.1) (State.isArrayOf_alike hZ.alike Ar_55.2.1) (g := (mkF m 15 #[.val (.ref a1), .val (.ref b_3), .val (.int (6 : Int32))] [(.ref ad), (.int (6 : Int32))])) rfl rfl (hb hby d4_15) _ ?_
    rw [len_of Sz_55 Ng_55]
    exact k) ?_
  refine Go.to (mkF m 19 #[.val (.ref a1), .val (.ref b_3), .val (.int (6 : Int32))] []) (fun _ k => XS.icmpNo X_53.here hx rfl (hb hby d4_16) rfl (tlt (by decide : (6 : Int32) < (16 : Int32))).2.1 k) ?_
  refine Go.to (mkF m 20 #[.val (.ref a1), .val (.ref b_3), .val (.int (6 : Int32))] [(.ref b_3)]) (fun _ k => XS.aloadN X_53.here hx rfl (hb hby d4_19) rfl rfl k) ?_
  refine Go.to (mkF m 21 #[.val (.ref a1), .val (.ref b_3), .val (.int (6 : Int32))] [(.int (6 : Int32)), (.ref b_3)]) (fun _ k => XS.iloadN X_53.here hx rfl (hb hby d4_20) rfl  k) ?_
  refine Go.to (mkF m 22 #[.val (.ref a1), .val (.ref b_3), .val (.int (6 : Int32))] [(.ref a1), (.int (6 : Int32)), (.ref b_3)]) (fun _ k => XS.aloadN X_53.here hx rfl (hb hby d4_21) rfl rfl k) ?_
  refine Go.to (mkF m 23 #[.val (.ref a1), .val (.ref b_3), .val (.int (6 : Int32))] [(.int (6 : Int32)), (.ref a1), (.int (6 : Int32)), (.ref b_3)]) (fun _ k => XS.iloadN X_53.here hx rfl (hb hby d4_22) rfl  k) ?_
  have f_56 : n0 ≤ h_51.size := (Nat.le_trans f_48 (Keep.of_wr W_51).1)
  have f_57 : Exa Z h_51 a1 "nonet/Grid" := (f_49.wr W_51)
  refine Go.priv X_53 hx hZ (y := (⟨"nonet/Grid", "symbol", "(I)C"⟩ : MethodName)) hown (hw _ (List.mem_of_getElem? (i := 29) rfl)) (hw _ (List.mem_of_getElem? (i := 30) rfl)) (Jvm.Kit.selects_private (by decide) (mvT hZ (hw _ (List.mem_of_getElem? (i := 8) rfl))) (mvP hZ (hw _ (List.mem_of_getElem? (i := 31) rfl))) (mvT hZ (hw _ (List.mem_of_getElem? (i := 30) rfl)))) (hw _ (List.mem_of_getElem? (i := 31) rfl)) (hw _ (List.mem_of_getElem? (i := 32) rfl)) (by decide) e_53 (a := a1) f_57 (argsL := [(.int (6 : Int32))]) (rest := [(.int (6 : Int32)), (.ref b_3)]) (Met1.back (W := 2) (rm5 l Z a0 hw a1 ad kd ([(.int d0), (.int d1), (.int d2), (.int d3), (.int d4), (.int d5), (.int d6), (.int d7), (.int d8), (.int d9), (.int d10), (.int d11), (.int d12), (.int d13), (.int d14), (.int d15)]) (6 : Int32) d6 h_51 n0 f_56 f_52 f_54 (by decide) (by decide) rfl) hZ (hw _ (List.mem_of_getElem? (i := 32) rfl)) (hw _ (List.mem_of_getElem? (i := 9) rfl)) (by decide) (by decide)) (pc := 23) (Ls := #[.val (.ref a1), .val (.ref b_3), .val (.int (6 : Int32))]) (by rw [hml]; rfl) (lenOf own_pd0 rfl) rfl (Nat.le_refl _) (hb hby d4_23) (by decide) (by decide) ?_
  intro T_58 v_58 L_58 X_58 hQ_58
  obtain ⟨rfl, Nq_58, hh_58⟩ := hQ_58
  have N_58 := Fr.app N_51 Nq_58
  show Go p e below (FinN s (Q4 Z a1 ad kd d0 d1 d2 d3 d4 d5 d6 d7 d8 d9 d10 d11 d12 d13 d14 d15 z h0 n0) ({ frames := 4, cells := 3, slots := 36, locals := 66 } : Room).cells ({ frames := 4, cells := 3, slots := 36, locals := 66 } : Room).slots) T_58 (mkF m 26 #[.val (.ref a1), .val (.ref b_3), .val (.int (6 : Int32))] [(.int (own_sy d6)), (.int (6 : Int32)), (.ref b_3)])
  obtain ⟨cl_59, Ar_59, q_59, Sz_59, Ng_59, Hh_59, Gg_59⟩ := id V_51
  have hin_59 : ¬ ((6 : Int32) < 0 ∨ cl_59.slots.size ≤ ((6 : Int32)).toNatClampNeg) := inb_of Sz_59 ⟨by decide, by decide⟩
  obtain ⟨T_59, h_59, X_59, e_59, W_59, st_59⟩ := stC X_58 hx hZ hh_58 Ar_59 (j := (6 : Int32)) hin_59 (g := (mkF m 26 #[.val (.ref a1), .val (.ref b_3), .val (.int (6 : Int32))] [(.int (own_sy d6)), (.int (6 : Int32)), (.ref b_3)])) rfl rfl (hb hby d4_26)
  have N_59 := Fr.snoc X_59 N_58 g_b_3
  have V_59 : Arv Z h_59 b_3 k_3 .char (16 : Int32) [(.int (nar .char (own_sy d0))), (.int (nar .char (own_sy d1))), (.int (nar .char (own_sy d2))), (.int (nar .char (own_sy d3))), (.int (nar .char (own_sy d4))), (.int (nar .char (own_sy d5))), (.int (nar .char (own_sy d6))), (.int (0 : Int32)), (.int (0 : Int32)), (.int (0 : Int32)), (.int (0 : Int32)), (.int (0 : Int32)), (.int (0 : Int32)), (.int (0 : Int32)), (.int (0 : Int32)), (.int (0 : Int32))] (.int (0 : Int32)) := Arv.set Ar_59 q_59 Sz_59 Ng_59 Hh_59 Gg_59 (fits_nar_char _) W_59 6 rfl (Nat.le_of_ble_eq_true rfl)
  refine Go.to (mkF m 27 #[.val (.ref a1), .val (.ref b_3), .val (.int (6 : Int32))] []) st_59 ?_
  refine Go.to (mkF m 30 #[.val (.ref a1), .val (.ref b_3), .val (.int (7 : Int32))] []) (fun _ k => XS.iinc X_59.here hx rfl (hb hby d4_27) rfl (l' := #[.val (.ref a1), .val (.ref b_3), .val (.int (7 : Int32))]) rfl k) ?_
  refine Go.to (mkF m 10 #[.val (.ref a1), .val (.ref b_3), .val (.int (7 : Int32))] []) (fun _ k => XS.goto X_59.here hx rfl (pc0 := 30) (pc' := 10) rfl (hb hby d4_30) (by decide) (by decide) k) ?_
  refine Go.to (mkF m 11 #[.val (.ref a1), .val (.ref b_3), .val (.int (7 : Int32))] [(.int (7 : Int32))]) (fun _ k => XS.iloadN X_59.here hx rfl (hb hby d4_10) rfl  k) ?_
  refine Go.to (mkF m 12 #[.val (.ref a1), .val (.ref b_3), .val (.int (7 : Int32))] [(.ref a1), (.int (7 : Int32))]) (fun _ k => XS.aloadN X_59.here hx rfl (hb hby d4_11) rfl rfl k) ?_
  have f_60 : Fld Z h_59 a1 "nonet/Grid" "digits" "[B" (.ref ad) := (f_52.other W_59 (Or.inl ne_a1_b_3))
  obtain ⟨T_61, X_61, e_61, st_61⟩ := getF X_59 hx hZ hown (host := "") (Or.inl (hw _ (List.mem_of_getElem? (i := 21) rfl))) Via.refl e_59 f_60 (g := (mkF m 12 #[.val (.ref a1), .val (.ref b_3), .val (.int (7 : Int32))] [(.ref a1), (.int (7 : Int32))])) rfl rfl (hb hby d4_12)
  refine Go.to (mkF m 15 #[.val (.ref a1), .val (.ref b_3), .val (.int (7 : Int32))] [(.ref ad), (.int (7 : Int32))]) st_61 ?_
  have f_62 : Arv Z h_59 ad kd .byte (16 : Int32) [(.int d0), (.int d1), (.int d2), (.int d3), (.int d4), (.int d5), (.int d6), (.int d7), (.int d8), (.int d9), (.int d10), (.int d11), (.int d12), (.int d13), (.int d14), (.int d15)] (.int (0 : Int32)) := (f_54.other W_59 ne_ad_b_3)
  obtain ⟨cl_63, Ar_63, -, Sz_63, Ng_63, -, -⟩ := id f_62
  refine Go.to (mkF m 16 #[.val (.ref a1), .val (.ref b_3), .val (.int (7 : Int32))] [(.int (16 : Int32)), (.int (7 : Int32))]) (fun _ k => by
    refine X_61.arraylength hx (by rw [e_61]; exact Ar_63.1) (State.isArrayOf_alike hZ.alike Ar_63.2.1) (g := (mkF m 15 #[.val (.ref a1), .val (.ref b_3), .val (.int (7 : Int32))] [(.ref ad), (.int (7 : Int32))])) rfl rfl (hb hby d4_15) _ ?_
    rw [len_of Sz_63 Ng_63]
    exact k) ?_
  refine Go.to (mkF m 19 #[.val (.ref a1), .val (.ref b_3), .val (.int (7 : Int32))] []) (fun _ k => XS.icmpNo X_61.here hx rfl (hb hby d4_16) rfl (tlt (by decide : (7 : Int32) < (16 : Int32))).2.1 k) ?_
  refine Go.to (mkF m 20 #[.val (.ref a1), .val (.ref b_3), .val (.int (7 : Int32))] [(.ref b_3)]) (fun _ k => XS.aloadN X_61.here hx rfl (hb hby d4_19) rfl rfl k) ?_
  refine Go.to (mkF m 21 #[.val (.ref a1), .val (.ref b_3), .val (.int (7 : Int32))] [(.int (7 : Int32)), (.ref b_3)]) (fun _ k => XS.iloadN X_61.here hx rfl (hb hby d4_20) rfl  k) ?_
  refine Go.to (mkF m 22 #[.val (.ref a1), .val (.ref b_3), .val (.int (7 : Int32))] [(.ref a1), (.int (7 : Int32)), (.ref b_3)]) (fun _ k => XS.aloadN X_61.here hx rfl (hb hby d4_21) rfl rfl k) ?_
  refine Go.to (mkF m 23 #[.val (.ref a1), .val (.ref b_3), .val (.int (7 : Int32))] [(.int (7 : Int32)), (.ref a1), (.int (7 : Int32)), (.ref b_3)]) (fun _ k => XS.iloadN X_61.here hx rfl (hb hby d4_22) rfl  k) ?_
  have f_64 : n0 ≤ h_59.size := (Nat.le_trans f_56 (Keep.of_wr W_59).1)
  have f_65 : Exa Z h_59 a1 "nonet/Grid" := (f_57.wr W_59)
  refine Go.priv X_61 hx hZ (y := (⟨"nonet/Grid", "symbol", "(I)C"⟩ : MethodName)) hown (hw _ (List.mem_of_getElem? (i := 29) rfl)) (hw _ (List.mem_of_getElem? (i := 30) rfl)) (Jvm.Kit.selects_private (by decide) (mvT hZ (hw _ (List.mem_of_getElem? (i := 8) rfl))) (mvP hZ (hw _ (List.mem_of_getElem? (i := 31) rfl))) (mvT hZ (hw _ (List.mem_of_getElem? (i := 30) rfl)))) (hw _ (List.mem_of_getElem? (i := 31) rfl)) (hw _ (List.mem_of_getElem? (i := 32) rfl)) (by decide) e_61 (a := a1) f_65 (argsL := [(.int (7 : Int32))]) (rest := [(.int (7 : Int32)), (.ref b_3)]) (Met1.back (W := 2) (rm5 l Z a0 hw a1 ad kd ([(.int d0), (.int d1), (.int d2), (.int d3), (.int d4), (.int d5), (.int d6), (.int d7), (.int d8), (.int d9), (.int d10), (.int d11), (.int d12), (.int d13), (.int d14), (.int d15)]) (7 : Int32) d7 h_59 n0 f_64 f_60 f_62 (by decide) (by decide) rfl) hZ (hw _ (List.mem_of_getElem? (i := 32) rfl)) (hw _ (List.mem_of_getElem? (i := 9) rfl)) (by decide) (by decide)) (pc := 23) (Ls := #[.val (.ref a1), .val (.ref b_3), .val (.int (7 : Int32))]) (by rw [hml]; rfl) (lenOf own_pd0 rfl) rfl (Nat.le_refl _) (hb hby d4_23) (by decide) (by decide) ?_
  intro T_66 v_66 L_66 X_66 hQ_66
  obtain ⟨rfl, Nq_66, hh_66⟩ := hQ_66
  have N_66 := Fr.app N_59 Nq_66
  show Go p e below (FinN s (Q4 Z a1 ad kd d0 d1 d2 d3 d4 d5 d6 d7 d8 d9 d10 d11 d12 d13 d14 d15 z h0 n0) ({ frames := 4, cells := 3, slots := 36, locals := 66 } : Room).cells ({ frames := 4, cells := 3, slots := 36, locals := 66 } : Room).slots) T_66 (mkF m 26 #[.val (.ref a1), .val (.ref b_3), .val (.int (7 : Int32))] [(.int (own_sy d7)), (.int (7 : Int32)), (.ref b_3)])
  obtain ⟨cl_67, Ar_67, q_67, Sz_67, Ng_67, Hh_67, Gg_67⟩ := id V_59
  have hin_67 : ¬ ((7 : Int32) < 0 ∨ cl_67.slots.size ≤ ((7 : Int32)).toNatClampNeg) := inb_of Sz_67 ⟨by decide, by decide⟩
  obtain ⟨T_67, h_67, X_67, e_67, W_67, st_67⟩ := stC X_66 hx hZ hh_66 Ar_67 (j := (7 : Int32)) hin_67 (g := (mkF m 26 #[.val (.ref a1), .val (.ref b_3), .val (.int (7 : Int32))] [(.int (own_sy d7)), (.int (7 : Int32)), (.ref b_3)])) rfl rfl (hb hby d4_26)
  have N_67 := Fr.snoc X_67 N_66 g_b_3
  have V_67 : Arv Z h_67 b_3 k_3 .char (16 : Int32) [(.int (nar .char (own_sy d0))), (.int (nar .char (own_sy d1))), (.int (nar .char (own_sy d2))), (.int (nar .char (own_sy d3))), (.int (nar .char (own_sy d4))), (.int (nar .char (own_sy d5))), (.int (nar .char (own_sy d6))), (.int (nar .char (own_sy d7))), (.int (0 : Int32)), (.int (0 : Int32)), (.int (0 : Int32)), (.int (0 : Int32)), (.int (0 : Int32)), (.int (0 : Int32)), (.int (0 : Int32)), (.int (0 : Int32))] (.int (0 : Int32)) := Arv.set Ar_67 q_67 Sz_67 Ng_67 Hh_67 Gg_67 (fits_nar_char _) W_67 7 rfl (Nat.le_of_ble_eq_true rfl)
  refine Go.to (mkF m 27 #[.val (.ref a1), .val (.ref b_3), .val (.int (7 : Int32))] []) st_67 ?_
  refine Go.to (mkF m 30 #[.val (.ref a1), .val (.ref b_3), .val (.int (8 : Int32))] []) (fun _ k => XS.iinc X_67.here hx rfl (hb hby d4_27) rfl (l' := #[.val (.ref a1), .val (.ref b_3), .val (.int (8 : Int32))]) rfl k) ?_
  refine Go.to (mkF m 10 #[.val (.ref a1), .val (.ref b_3), .val (.int (8 : Int32))] []) (fun _ k => XS.goto X_67.here hx rfl (pc0 := 30) (pc' := 10) rfl (hb hby d4_30) (by decide) (by decide) k) ?_
  refine Go.to (mkF m 11 #[.val (.ref a1), .val (.ref b_3), .val (.int (8 : Int32))] [(.int (8 : Int32))]) (fun _ k => XS.iloadN X_67.here hx rfl (hb hby d4_10) rfl  k) ?_
  refine Go.to (mkF m 12 #[.val (.ref a1), .val (.ref b_3), .val (.int (8 : Int32))] [(.ref a1), (.int (8 : Int32))]) (fun _ k => XS.aloadN X_67.here hx rfl (hb hby d4_11) rfl rfl k) ?_
  have f_68 : Fld Z h_67 a1 "nonet/Grid" "digits" "[B" (.ref ad) := (f_60.other W_67 (Or.inl ne_a1_b_3))
  obtain ⟨T_69, X_69, e_69, st_69⟩ := getF X_67 hx hZ hown (host := "") (Or.inl (hw _ (List.mem_of_getElem? (i := 21) rfl))) Via.refl e_67 f_68 (g := (mkF m 12 #[.val (.ref a1), .val (.ref b_3), .val (.int (8 : Int32))] [(.ref a1), (.int (8 : Int32))])) rfl rfl (hb hby d4_12)
  refine Go.to (mkF m 15 #[.val (.ref a1), .val (.ref b_3), .val (.int (8 : Int32))] [(.ref ad), (.int (8 : Int32))]) st_69 ?_
  have f_70 : Arv Z h_67 ad kd .byte (16 : Int32) [(.int d0), (.int d1), (.int d2), (.int d3), (.int d4), (.int d5), (.int d6), (.int d7), (.int d8), (.int d9), (.int d10), (.int d11), (.int d12), (.int d13), (.int d14), (.int d15)] (.int (0 : Int32)) := (f_62.other W_67 ne_ad_b_3)
  obtain ⟨cl_71, Ar_71, -, Sz_71, Ng_71, -, -⟩ := id f_70
  refine Go.to (mkF m 16 #[.val (.ref a1), .val (.ref b_3), .val (.int (8 : Int32))] [(.int (16 : Int32)), (.int (8 : Int32))]) (fun _ k => by
    refine X_69.arraylength hx (by rw [e_69]; exact Ar_71.1) (State.isArrayOf_alike hZ.alike Ar_71.2.1) (g := (mkF m 15 #[.val (.ref a1), .val (.ref b_3), .val (.int (8 : Int32))] [(.ref ad), (.int (8 : Int32))])) rfl rfl (hb hby d4_15) _ ?_
    rw [len_of Sz_71 Ng_71]
    exact k) ?_
  refine Go.to (mkF m 19 #[.val (.ref a1), .val (.ref b_3), .val (.int (8 : Int32))] []) (fun _ k => XS.icmpNo X_69.here hx rfl (hb hby d4_16) rfl (tlt (by decide : (8 : Int32) < (16 : Int32))).2.1 k) ?_
  refine Go.to (mkF m 20 #[.val (.ref a1), .val (.ref b_3), .val (.int (8 : Int32))] [(.ref b_3)]) (fun _ k => XS.aloadN X_69.here hx rfl (hb hby d4_19) rfl rfl k) ?_
  refine Go.to (mkF m 21 #[.val (.ref a1), .val (.ref b_3), .val (.int (8 : Int32))] [(.int (8 : Int32)), (.ref b_3)]) (fun _ k => XS.iloadN X_69.here hx rfl (hb hby d4_20) rfl  k) ?_
  refine Go.to (mkF m 22 #[.val (.ref a1), .val (.ref b_3), .val (.int (8 : Int32))] [(.ref a1), (.int (8 : Int32)), (.ref b_3)]) (fun _ k => XS.aloadN X_69.here hx rfl (hb hby d4_21) rfl rfl k) ?_
  refine Go.to (mkF m 23 #[.val (.ref a1), .val (.ref b_3), .val (.int (8 : Int32))] [(.int (8 : Int32)), (.ref a1), (.int (8 : Int32)), (.ref b_3)]) (fun _ k => XS.iloadN X_69.here hx rfl (hb hby d4_22) rfl  k) ?_
  have f_72 : n0 ≤ h_67.size := (Nat.le_trans f_64 (Keep.of_wr W_67).1)
  have f_73 : Exa Z h_67 a1 "nonet/Grid" := (f_65.wr W_67)
  refine Go.priv X_69 hx hZ (y := (⟨"nonet/Grid", "symbol", "(I)C"⟩ : MethodName)) hown (hw _ (List.mem_of_getElem? (i := 29) rfl)) (hw _ (List.mem_of_getElem? (i := 30) rfl)) (Jvm.Kit.selects_private (by decide) (mvT hZ (hw _ (List.mem_of_getElem? (i := 8) rfl))) (mvP hZ (hw _ (List.mem_of_getElem? (i := 31) rfl))) (mvT hZ (hw _ (List.mem_of_getElem? (i := 30) rfl)))) (hw _ (List.mem_of_getElem? (i := 31) rfl)) (hw _ (List.mem_of_getElem? (i := 32) rfl)) (by decide) e_69 (a := a1) f_73 (argsL := [(.int (8 : Int32))]) (rest := [(.int (8 : Int32)), (.ref b_3)]) (Met1.back (W := 2) (rm5 l Z a0 hw a1 ad kd ([(.int d0), (.int d1), (.int d2), (.int d3), (.int d4), (.int d5), (.int d6), (.int d7), (.int d8), (.int d9), (.int d10), (.int d11), (.int d12), (.int d13), (.int d14), (.int d15)]) (8 : Int32) d8 h_67 n0 f_72 f_68 f_70 (by decide) (by decide) rfl) hZ (hw _ (List.mem_of_getElem? (i := 32) rfl)) (hw _ (List.mem_of_getElem? (i := 9) rfl)) (by decide) (by decide)) (pc := 23) (Ls := #[.val (.ref a1), .val (.ref b_3), .val (.int (8 : Int32))]) (by rw [hml]; rfl) (lenOf own_pd0 rfl) rfl (Nat.le_refl _) (hb hby d4_23) (by decide) (by decide) ?_
  intro T_74 v_74 L_74 X_74 hQ_74
  obtain ⟨rfl, Nq_74, hh_74⟩ := hQ_74
  have N_74 := Fr.app N_67 Nq_74
  show Go p e below (FinN s (Q4 Z a1 ad kd d0 d1 d2 d3 d4 d5 d6 d7 d8 d9 d10 d11 d12 d13 d14 d15 z h0 n0) ({ frames := 4, cells := 3, slots := 36, locals := 66 } : Room).cells ({ frames := 4, cells := 3, slots := 36, locals := 66 } : Room).slots) T_74 (mkF m 26 #[.val (.ref a1), .val (.ref b_3), .val (.int (8 : Int32))] [(.int (own_sy d8)), (.int (8 : Int32)), (.ref b_3)])
  obtain ⟨cl_75, Ar_75, q_75, Sz_75, Ng_75, Hh_75, Gg_75⟩ := id V_67
  have hin_75 : ¬ ((8 : Int32) < 0 ∨ cl_75.slots.size ≤ ((8 : Int32)).toNatClampNeg) := inb_of Sz_75 ⟨by decide, by decide⟩
  obtain ⟨T_75, h_75, X_75, e_75, W_75, st_75⟩ := stC X_74 hx hZ hh_74 Ar_75 (j := (8 : Int32)) hin_75 (g := (mkF m 26 #[.val (.ref a1), .val (.ref b_3), .val (.int (8 : Int32))] [(.int (own_sy d8)), (.int (8 : Int32)), (.ref b_3)])) rfl rfl (hb hby d4_26)
  have N_75 := Fr.snoc X_75 N_74 g_b_3
  have V_75 : Arv Z h_75 b_3 k_3 .char (16 : Int32) [(.int (nar .char (own_sy d0))), (.int (nar .char (own_sy d1))), (.int (nar .char (own_sy d2))), (.int (nar .char (own_sy d3))), (.int (nar .char (own_sy d4))), (.int (nar .char (own_sy d5))), (.int (nar .char (own_sy d6))), (.int (nar .char (own_sy d7))), (.int (nar .char (own_sy d8))), (.int (0 : Int32)), (.int (0 : Int32)), (.int (0 : Int32)), (.int (0 : Int32)), (.int (0 : Int32)), (.int (0 : Int32)), (.int (0 : Int32))] (.int (0 : Int32)) := Arv.set Ar_75 q_75 Sz_75 Ng_75 Hh_75 Gg_75 (fits_nar_char _) W_75 8 rfl (Nat.le_of_ble_eq_true rfl)
  refine Go.to (mkF m 27 #[.val (.ref a1), .val (.ref b_3), .val (.int (8 : Int32))] []) st_75 ?_
  refine Go.to (mkF m 30 #[.val (.ref a1), .val (.ref b_3), .val (.int (9 : Int32))] []) (fun _ k => XS.iinc X_75.here hx rfl (hb hby d4_27) rfl (l' := #[.val (.ref a1), .val (.ref b_3), .val (.int (9 : Int32))]) rfl k) ?_
  refine Go.to (mkF m 10 #[.val (.ref a1), .val (.ref b_3), .val (.int (9 : Int32))] []) (fun _ k => XS.goto X_75.here hx rfl (pc0 := 30) (pc' := 10) rfl (hb hby d4_30) (by decide) (by decide) k) ?_
  refine Go.to (mkF m 11 #[.val (.ref a1), .val (.ref b_3), .val (.int (9 : Int32))] [(.int (9 : Int32))]) (fun _ k => XS.iloadN X_75.here hx rfl (hb hby d4_10) rfl  k) ?_
  refine Go.to (mkF m 12 #[.val (.ref a1), .val (.ref b_3), .val (.int (9 : Int32))] [(.ref a1), (.int (9 : Int32))]) (fun _ k => XS.aloadN X_75.here hx rfl (hb hby d4_11) rfl rfl k) ?_
  have f_76 : Fld Z h_75 a1 "nonet/Grid" "digits" "[B" (.ref ad) := (f_68.other W_75 (Or.inl ne_a1_b_3))
  obtain ⟨T_77, X_77, e_77, st_77⟩ := getF X_75 hx hZ hown (host := "") (Or.inl (hw _ (List.mem_of_getElem? (i := 21) rfl))) Via.refl e_75 f_76 (g := (mkF m 12 #[.val (.ref a1), .val (.ref b_3), .val (.int (9 : Int32))] [(.ref a1), (.int (9 : Int32))])) rfl rfl (hb hby d4_12)
  refine Go.to (mkF m 15 #[.val (.ref a1), .val (.ref b_3), .val (.int (9 : Int32))] [(.ref ad), (.int (9 : Int32))]) st_77 ?_
  have f_78 : Arv Z h_75 ad kd .byte (16 : Int32) [(.int d0), (.int d1), (.int d2), (.int d3), (.int d4), (.int d5), (.int d6), (.int d7), (.int d8), (.int d9), (.int d10), (.int d11), (.int d12), (.int d13), (.int d14), (.int d15)] (.int (0 : Int32)) := (f_70.other W_75 ne_ad_b_3)
  obtain ⟨cl_79, Ar_79, -, Sz_79, Ng_79, -, -⟩ := id f_78
  refine Go.to (mkF m 16 #[.val (.ref a1), .val (.ref b_3), .val (.int (9 : Int32))] [(.int (16 : Int32)), (.int (9 : Int32))]) (fun _ k => by
    refine X_77.arraylength hx (by rw [e_77]; exact Ar_79.1) (State.isArrayOf_alike hZ.alike Ar_79.2.1) (g := (mkF m 15 #[.val (.ref a1), .val (.ref b_3), .val (.int (9 : Int32))] [(.ref ad), (.int (9 : Int32))])) rfl rfl (hb hby d4_15) _ ?_
    rw [len_of Sz_79 Ng_79]
    exact k) ?_
  refine Go.to (mkF m 19 #[.val (.ref a1), .val (.ref b_3), .val (.int (9 : Int32))] []) (fun _ k => XS.icmpNo X_77.here hx rfl (hb hby d4_16) rfl (tlt (by decide : (9 : Int32) < (16 : Int32))).2.1 k) ?_
  refine Go.to (mkF m 20 #[.val (.ref a1), .val (.ref b_3), .val (.int (9 : Int32))] [(.ref b_3)]) (fun _ k => XS.aloadN X_77.here hx rfl (hb hby d4_19) rfl rfl k) ?_
  refine Go.to (mkF m 21 #[.val (.ref a1), .val (.ref b_3), .val (.int (9 : Int32))] [(.int (9 : Int32)), (.ref b_3)]) (fun _ k => XS.iloadN X_77.here hx rfl (hb hby d4_20) rfl  k) ?_
  refine Go.to (mkF m 22 #[.val (.ref a1), .val (.ref b_3), .val (.int (9 : Int32))] [(.ref a1), (.int (9 : Int32)), (.ref b_3)]) (fun _ k => XS.aloadN X_77.here hx rfl (hb hby d4_21) rfl rfl k) ?_
  refine Go.to (mkF m 23 #[.val (.ref a1), .val (.ref b_3), .val (.int (9 : Int32))] [(.int (9 : Int32)), (.ref a1), (.int (9 : Int32)), (.ref b_3)]) (fun _ k => XS.iloadN X_77.here hx rfl (hb hby d4_22) rfl  k) ?_
  have f_80 : n0 ≤ h_75.size := (Nat.le_trans f_72 (Keep.of_wr W_75).1)
  have f_81 : Exa Z h_75 a1 "nonet/Grid" := (f_73.wr W_75)
  refine Go.priv X_77 hx hZ (y := (⟨"nonet/Grid", "symbol", "(I)C"⟩ : MethodName)) hown (hw _ (List.mem_of_getElem? (i := 29) rfl)) (hw _ (List.mem_of_getElem? (i := 30) rfl)) (Jvm.Kit.selects_private (by decide) (mvT hZ (hw _ (List.mem_of_getElem? (i := 8) rfl))) (mvP hZ (hw _ (List.mem_of_getElem? (i := 31) rfl))) (mvT hZ (hw _ (List.mem_of_getElem? (i := 30) rfl)))) (hw _ (List.mem_of_getElem? (i := 31) rfl)) (hw _ (List.mem_of_getElem? (i := 32) rfl)) (by decide) e_77 (a := a1) f_81 (argsL := [(.int (9 : Int32))]) (rest := [(.int (9 : Int32)), (.ref b_3)]) (Met1.back (W := 2) (rm5 l Z a0 hw a1 ad kd ([(.int d0), (.int d1), (.int d2), (.int d3), (.int d4), (.int d5), (.int d6), (.int d7), (.int d8), (.int d9), (.int d10), (.int d11), (.int d12), (.int d13), (.int d14), (.int d15)]) (9 : Int32) d9 h_75 n0 f_80 f_76 f_78 (by decide) (by decide) rfl) hZ (hw _ (List.mem_of_getElem? (i := 32) rfl)) (hw _ (List.mem_of_getElem? (i := 9) rfl)) (by decide) (by decide)) (pc := 23) (Ls := #[.val (.ref a1), .val (.ref b_3), .val (.int (9 : Int32))]) (by rw [hml]; rfl) (lenOf own_pd0 rfl) rfl (Nat.le_refl _) (hb hby d4_23) (by decide) (by decide) ?_
  intro T_82 v_82 L_82 X_82 hQ_82
  obtain ⟨rfl, Nq_82, hh_82⟩ := hQ_82
  have N_82 := Fr.app N_75 Nq_82
  show Go p e below (FinN s (Q4 Z a1 ad kd d0 d1 d2 d3 d4 d5 d6 d7 d8 d9 d10 d11 d12 d13 d14 d15 z h0 n0) ({ frames := 4, cells := 3, slots := 36, locals := 66 } : Room).cells ({ frames := 4, cells := 3, slots := 36, locals := 66 } : Room).slots) T_82 (mkF m 26 #[.val (.ref a1), .val (.ref b_3), .val (.int (9 : Int32))] [(.int (own_sy d9)), (.int (9 : Int32)), (.ref b_3)])
  obtain ⟨cl_83, Ar_83, q_83, Sz_83, Ng_83, Hh_83, Gg_83⟩ := id V_75
  have hin_83 : ¬ ((9 : Int32) < 0 ∨ cl_83.slots.size ≤ ((9 : Int32)).toNatClampNeg) := inb_of Sz_83 ⟨by decide, by decide⟩
  obtain ⟨T_83, h_83, X_83, e_83, W_83, st_83⟩ := stC X_82 hx hZ hh_82 Ar_83 (j := (9 : Int32)) hin_83 (g := (mkF m 26 #[.val (.ref a1), .val (.ref b_3), .val (.int (9 : Int32))] [(.int (own_sy d9)), (.int (9 : Int32)), (.ref b_3)])) rfl rfl (hb hby d4_26)
  have N_83 := Fr.snoc X_83 N_82 g_b_3
  have V_83 : Arv Z h_83 b_3 k_3 .char (16 : Int32) [(.int (nar .char (own_sy d0))), (.int (nar .char (own_sy d1))), (.int (nar .char (own_sy d2))), (.int (nar .char (own_sy d3))), (.int (nar .char (own_sy d4))), (.int (nar .char (own_sy d5))), (.int (nar .char (own_sy d6))), (.int (nar .char (own_sy d7))), (.int (nar .char (own_sy d8))), (.int (nar .char (own_sy d9))), (.int (0 : Int32)), (.int (0 : Int32)), (.int (0 : Int32)), (.int (0 : Int32)), (.int (0 : Int32)), (.int (0 : Int32))] (.int (0 : Int32)) := Arv.set Ar_83 q_83 Sz_83 Ng_83 Hh_83 Gg_83 (fits_nar_char _) W_83 9 rfl (Nat.le_of_ble_eq_true rfl)
  refine Go.to (mkF m 27 #[.val (.ref a1), .val (.ref b_3), .val (.int (9 : Int32))] []) st_83 ?_
  refine Go.to (mkF m 30 #[.val (.ref a1), .val (.ref b_3), .val (.int (10 : Int32))] []) (fun _ k => XS.iinc X_83.here hx rfl (hb hby d4_27) rfl (l' := #[.val (.ref a1), .val (.ref b_3), .val (.int (10 : Int32))]) rfl k) ?_
  refine Go.to (mkF m 10 #[.val (.ref a1), .val (.ref b_3), .val (.int (10 : Int32))] []) (fun _ k => XS.goto X_83.here hx rfl (pc0 := 30) (pc' := 10) rfl (hb hby d4_30) (by decide) (by decide) k) ?_
  refine Go.to (mkF m 11 #[.val (.ref a1), .val (.ref b_3), .val (.int (10 : Int32))] [(.int (10 : Int32))]) (fun _ k => XS.iloadN X_83.here hx rfl (hb hby d4_10) rfl  k) ?_
  refine Go.to (mkF m 12 #[.val (.ref a1), .val (.ref b_3), .val (.int (10 : Int32))] [(.ref a1), (.int (10 : Int32))]) (fun _ k => XS.aloadN X_83.here hx rfl (hb hby d4_11) rfl rfl k) ?_
  have f_84 : Fld Z h_83 a1 "nonet/Grid" "digits" "[B" (.ref ad) := (f_76.other W_83 (Or.inl ne_a1_b_3))
  obtain ⟨T_85, X_85, e_85, st_85⟩ := getF X_83 hx hZ hown (host := "") (Or.inl (hw _ (List.mem_of_getElem? (i := 21) rfl))) Via.refl e_83 f_84 (g := (mkF m 12 #[.val (.ref a1), .val (.ref b_3), .val (.int (10 : Int32))] [(.ref a1), (.int (10 : Int32))])) rfl rfl (hb hby d4_12)
  refine Go.to (mkF m 15 #[.val (.ref a1), .val (.ref b_3), .val (.int (10 : Int32))] [(.ref ad), (.int (10 : Int32))]) st_85 ?_
  have f_86 : Arv Z h_83 ad kd .byte (16 : Int32) [(.int d0), (.int d1), (.int d2), (.int d3), (.int d4), (.int d5), (.int d6), (.int d7), (.int d8), (.int d9), (.int d10), (.int d11), (.int d12), (.int d13), (.int d14), (.int d15)] (.int (0 : Int32)) := (f_78.other W_83 ne_ad_b_3)
  obtain ⟨cl_87, Ar_87, -, Sz_87, Ng_87, -, -⟩ := id f_86
  refine Go.to (mkF m 16 #[.val (.ref a1), .val (.ref b_3), .val (.int (10 : Int32))] [(.int (16 : Int32)), (.int (10 : Int32))]) (fun _ k => by
    refine X_85.arraylength hx (by rw [e_85]; exact Ar_87.1) (State.isArrayOf_alike hZ.alike Ar_87.2.1) (g := (mkF m 15 #[.val (.ref a1), .val (.ref b_3), .val (.int (10 : Int32))] [(.ref ad), (.int (10 : Int32))])) rfl rfl (hb hby d4_15) _ ?_
    rw [len_of Sz_87 Ng_87]
    exact k) ?_
  refine Go.to (mkF m 19 #[.val (.ref a1), .val (.ref b_3), .val (.int (10 : Int32))] []) (fun _ k => XS.icmpNo X_85.here hx rfl (hb hby d4_16) rfl (tlt (by decide : (10 : Int32) < (16 : Int32))).2.1 k) ?_
  refine Go.to (mkF m 20 #[.val (.ref a1), .val (.ref b_3), .val (.int (10 : Int32))] [(.ref b_3)]) (fun _ k => XS.aloadN X_85.here hx rfl (hb hby d4_19) rfl rfl k) ?_
  refine Go.to (mkF m 21 #[.val (.ref a1), .val (.ref b_3), .val (.int (10 : Int32))] [(.int (10 : Int32)), (.ref b_3)]) (fun _ k => XS.iloadN X_85.here hx rfl (hb hby d4_20) rfl  k) ?_
  refine Go.to (mkF m 22 #[.val (.ref a1), .val (.ref b_3), .val (.int (10 : Int32))] [(.ref a1), (.int (10 : Int32)), (.ref b_3)]) (fun _ k => XS.aloadN X_85.here hx rfl (hb hby d4_21) rfl rfl k) ?_
  refine Go.to (mkF m 23 #[.val (.ref a1), .val (.ref b_3), .val (.int (10 : Int32))] [(.int (10 : Int32)), (.ref a1), (.int (10 : Int32)), (.ref b_3)]) (fun _ k => XS.iloadN X_85.here hx rfl (hb hby d4_22) rfl  k) ?_
  have f_88 : n0 ≤ h_83.size := (Nat.le_trans f_80 (Keep.of_wr W_83).1)
  have f_89 : Exa Z h_83 a1 "nonet/Grid" := (f_81.wr W_83)
  refine Go.priv X_85 hx hZ (y := (⟨"nonet/Grid", "symbol", "(I)C"⟩ : MethodName)) hown (hw _ (List.mem_of_getElem? (i := 29) rfl)) (hw _ (List.mem_of_getElem? (i := 30) rfl)) (Jvm.Kit.selects_private (by decide) (mvT hZ (hw _ (List.mem_of_getElem? (i := 8) rfl))) (mvP hZ (hw _ (List.mem_of_getElem? (i := 31) rfl))) (mvT hZ (hw _ (List.mem_of_getElem? (i := 30) rfl)))) (hw _ (List.mem_of_getElem? (i := 31) rfl)) (hw _ (List.mem_of_getElem? (i := 32) rfl)) (by decide) e_85 (a := a1) f_89 (argsL := [(.int (10 : Int32))]) (rest := [(.int (10 : Int32)), (.ref b_3)]) (Met1.back (W := 2) (rm5 l Z a0 hw a1 ad kd ([(.int d0), (.int d1), (.int d2), (.int d3), (.int d4), (.int d5), (.int d6), (.int d7), (.int d8), (.int d9), (.int d10), (.int d11), (.int d12), (.int d13), (.int d14), (.int d15)]) (10 : Int32) d10 h_83 n0 f_88 f_84 f_86 (by decide) (by decide) rfl) hZ (hw _ (List.mem_of_getElem? (i := 32) rfl)) (hw _ (List.mem_of_getElem? (i := 9) rfl)) (by decide) (by decide)) (pc := 23) (Ls := #[.val (.ref a1), .val (.ref b_3), .val (.int (10 : Int32))]) (by rw [hml]; rfl) (lenOf own_pd0 rfl) rfl (Nat.le_refl _) (hb hby d4_23) (by decide) (by decide) ?_
  intro T_90 v_90 L_90 X_90 hQ_90
  obtain ⟨rfl, Nq_90, hh_90⟩ := hQ_90
  have N_90 := Fr.app N_83 Nq_90
  show Go p e below (FinN s (Q4 Z a1 ad kd d0 d1 d2 d3 d4 d5 d6 d7 d8 d9 d10 d11 d12 d13 d14 d15 z h0 n0) ({ frames := 4, cells := 3, slots := 36, locals := 66 } : Room).cells ({ frames := 4, cells := 3, slots := 36, locals := 66 } : Room).slots) T_90 (mkF m 26 #[.val (.ref a1), .val (.ref b_3), .val (.int (10 : Int32))] [(.int (own_sy d10)), (.int (10 : Int32)), (.ref b_3)])
  obtain ⟨cl_91, Ar_91, q_91, Sz_91, Ng_91, Hh_91, Gg_91⟩ := id V_83
  have hin_91 : ¬ ((10 : Int32) < 0 ∨ cl_91.slots.size ≤ ((10 : Int32)).toNatClampNeg) := inb_of Sz_91 ⟨by decide, by decide⟩
  obtain ⟨T_91, h_91, X_91, e_91, W_91, st_91⟩ := stC X_90 hx hZ hh_90 Ar_91 (j := (10 : Int32)) hin_91 (g := (mkF m 26 #[.val (.ref a1), .val (.ref b_3), .val (.int (10 : Int32))] [(.int (own_sy d10)), (.int (10 : Int32)), (.ref b_3)])) rfl rfl (hb hby d4_26)
  have N_91 := Fr.snoc X_91 N_90 g_b_3
  have V_91 : Arv Z h_91 b_3 k_3 .char (16 : Int32) [(.int (nar .char (own_sy d0))), (.int (nar .char (own_sy d1))), (.int (nar .char (own_sy d2))), (.int (nar .char (own_sy d3))), (.int (nar .char (own_sy d4))), (.int (nar .char (own_sy d5))), (.int (nar .char (own_sy d6))), (.int (nar .char (own_sy d7))), (.int (nar .char (own_sy d8))), (.int (nar .char (own_sy d9))), (.int (nar .char (own_sy d10))), (.int (0 : Int32)), (.int (0 : Int32)), (.int (0 : Int32)), (.int (0 : Int32)), (.int (0 : Int32))] (.int (0 : Int32)) := Arv.set Ar_91 q_91 Sz_91 Ng_91 Hh_91 Gg_91 (fits_nar_char _) W_91 10 rfl (Nat.le_of_ble_eq_true rfl)
  refine Go.to (mkF m 27 #[.val (.ref a1), .val (.ref b_3), .val (.int (10 : Int32))] []) st_91 ?_
  refine Go.to (mkF m 30 #[.val (.ref a1), .val (.ref b_3), .val (.int (11 : Int32))] []) (fun _ k => XS.iinc X_91.here hx rfl (hb hby d4_27) rfl (l' := #[.val (.ref a1), .val (.ref b_3), .val (.int (11 : Int32))]) rfl k) ?_
  refine Go.to (mkF m 10 #[.val (.ref a1), .val (.ref b_3), .val (.int (11 : Int32))] []) (fun _ k => XS.goto X_91.here hx rfl (pc0 := 30) (pc' := 10) rfl (hb hby d4_30) (by decide) (by decide) k) ?_
  refine Go.to (mkF m 11 #[.val (.ref a1), .val (.ref b_3), .val (.int (11 : Int32))] [(.int (11 : Int32))]) (fun _ k => XS.iloadN X_91.here hx rfl (hb hby d4_10) rfl  k) ?_
  refine Go.to (mkF m 12 #[.val (.ref a1), .val (.ref b_3), .val (.int (11 : Int32))] [(.ref a1), (.int (11 : Int32))]) (fun _ k => XS.aloadN X_91.here hx rfl (hb hby d4_11) rfl rfl k) ?_
  have f_92 : Fld Z h_91 a1 "nonet/Grid" "digits" "[B" (.ref ad) := (f_84.other W_91 (Or.inl ne_a1_b_3))
  obtain ⟨T_93, X_93, e_93, st_93⟩ := getF X_91 hx hZ hown (host := "") (Or.inl (hw _ (List.mem_of_getElem? (i := 21) rfl))) Via.refl e_91 f_92 (g := (mkF m 12 #[.val (.ref a1), .val (.ref b_3), .val (.int (11 : Int32))] [(.ref a1), (.int (11 : Int32))])) rfl rfl (hb hby d4_12)
  refine Go.to (mkF m 15 #[.val (.ref a1), .val (.ref b_3), .val (.int (11 : Int32))] [(.ref ad), (.int (11 : Int32))]) st_93 ?_
  have f_94 : Arv Z h_91 ad kd .byte (16 : Int32) [(.int d0), (.int d1), (.int d2), (.int d3), (.int d4), (.int d5), (.int d6), (.int d7), (.int d8), (.int d9), (.int d10), (.int d11), (.int d12), (.int d13), (.int d14), (.int d15)] (.int (0 : Int32)) := (f_86.other W_91 ne_ad_b_3)
  obtain ⟨cl_95, Ar_95, -, Sz_95, Ng_95, -, -⟩ := id f_94
  refine Go.to (mkF m 16 #[.val (.ref a1), .val (.ref b_3), .val (.int (11 : Int32))] [(.int (16 : Int32)), (.int (11 : Int32))]) (fun _ k => by
    refine X_93.arraylength hx (by rw [e_93]; exact Ar_95.1) (State.isArrayOf_alike hZ.alike Ar_95.2.1) (g := (mkF m 15 #[.val (.ref a1), .val (.ref b_3), .val (.int (11 : Int32))] [(.ref ad), (.int (11 : Int32))])) rfl rfl (hb hby d4_15) _ ?_
    rw [len_of Sz_95 Ng_95]
    exact k) ?_
  refine Go.to (mkF m 19 #[.val (.ref a1), .val (.ref b_3), .val (.int (11 : Int32))] []) (fun _ k => XS.icmpNo X_93.here hx rfl (hb hby d4_16) rfl (tlt (by decide : (11 : Int32) < (16 : Int32))).2.1 k) ?_
  refine Go.to (mkF m 20 #[.val (.ref a1), .val (.ref b_3), .val (.int (11 : Int32))] [(.ref b_3)]) (fun _ k => XS.aloadN X_93.here hx rfl (hb hby d4_19) rfl rfl k) ?_
  refine Go.to (mkF m 21 #[.val (.ref a1), .val (.ref b_3), .val (.int (11 : Int32))] [(.int (11 : Int32)), (.ref b_3)]) (fun _ k => XS.iloadN X_93.here hx rfl (hb hby d4_20) rfl  k) ?_
  refine Go.to (mkF m 22 #[.val (.ref a1), .val (.ref b_3), .val (.int (11 : Int32))] [(.ref a1), (.int (11 : Int32)), (.ref b_3)]) (fun _ k => XS.aloadN X_93.here hx rfl (hb hby d4_21) rfl rfl k) ?_
  refine Go.to (mkF m 23 #[.val (.ref a1), .val (.ref b_3), .val (.int (11 : Int32))] [(.int (11 : Int32)), (.ref a1), (.int (11 : Int32)), (.ref b_3)]) (fun _ k => XS.iloadN X_93.here hx rfl (hb hby d4_22) rfl  k) ?_
  have f_96 : n0 ≤ h_91.size := (Nat.le_trans f_88 (Keep.of_wr W_91).1)
  have f_97 : Exa Z h_91 a1 "nonet/Grid" := (f_89.wr W_91)
  refine Go.priv X_93 hx hZ (y := (⟨"nonet/Grid", "symbol", "(I)C"⟩ : MethodName)) hown (hw _ (List.mem_of_getElem? (i := 29) rfl)) (hw _ (List.mem_of_getElem? (i := 30) rfl)) (Jvm.Kit.selects_private (by decide) (mvT hZ (hw _ (List.mem_of_getElem? (i := 8) rfl))) (mvP hZ (hw _ (List.mem_of_getElem? (i := 31) rfl))) (mvT hZ (hw _ (List.mem_of_getElem? (i := 30) rfl)))) (hw _ (List.mem_of_getElem? (i := 31) rfl)) (hw _ (List.mem_of_getElem? (i := 32) rfl)) (by decide) e_93 (a := a1) f_97 (argsL := [(.int (11 : Int32))]) (rest := [(.int (11 : Int32)), (.ref b_3)]) (Met1.back (W := 2) (rm5 l Z a0 hw a1 ad kd ([(.int d0), (.int d1), (.int d2), (.int d3), (.int d4), (.int d5), (.int d6), (.int d7), (.int d8), (.int d9), (.int d10), (.int d11), (.int d12), (.int d13), (.int d14), (.int d15)]) (11 : Int32) d11 h_91 n0 f_96 f_92 f_94 (by decide) (by decide) rfl) hZ (hw _ (List.mem_of_getElem? (i := 32) rfl)) (hw _ (List.mem_of_getElem? (i := 9) rfl)) (by decide) (by decide)) (pc := 23) (Ls := #[.val (.ref a1), .val (.ref b_3), .val (.int (11 : Int32))]) (by rw [hml]; rfl) (lenOf own_pd0 rfl) rfl (Nat.le_refl _) (hb hby d4_23) (by decide) (by decide) ?_
  intro T_98 v_98 L_98 X_98 hQ_98
  obtain ⟨rfl, Nq_98, hh_98⟩ := hQ_98
  have N_98 := Fr.app N_91 Nq_98
  show Go p e below (FinN s (Q4 Z a1 ad kd d0 d1 d2 d3 d4 d5 d6 d7 d8 d9 d10 d11 d12 d13 d14 d15 z h0 n0) ({ frames := 4, cells := 3, slots := 36, locals := 66 } : Room).cells ({ frames := 4, cells := 3, slots := 36, locals := 66 } : Room).slots) T_98 (mkF m 26 #[.val (.ref a1), .val (.ref b_3), .val (.int (11 : Int32))] [(.int (own_sy d11)), (.int (11 : Int32)), (.ref b_3)])
  obtain ⟨cl_99, Ar_99, q_99, Sz_99, Ng_99, Hh_99, Gg_99⟩ := id V_91
  have hin_99 : ¬ ((11 : Int32) < 0 ∨ cl_99.slots.size ≤ ((11 : Int32)).toNatClampNeg) := inb_of Sz_99 ⟨by decide, by decide⟩
  obtain ⟨T_99, h_99, X_99, e_99, W_99, st_99⟩ := stC X_98 hx hZ hh_98 Ar_99 (j := (11 : Int32)) hin_99 (g := (mkF m 26 #[.val (.ref a1), .val (.ref b_3), .val (.int (11 : Int32))] [(.int (own_sy d11)), (.int (11 : Int32)), (.ref b_3)])) rfl rfl (hb hby d4_26)
  have N_99 := Fr.snoc X_99 N_98 g_b_3
  have V_99 : Arv Z h_99 b_3 k_3 .char (16 : Int32) [(.int (nar .char (own_sy d0))), (.int (nar .char (own_sy d1))), (.int (nar .char (own_sy d2))), (.int (nar .char (own_sy d3))), (.int (nar .char (own_sy d4))), (.int (nar .char (own_sy d5))), (.int (nar .char (own_sy d6))), (.int (nar .char (own_sy d7))), (.int (nar .char (own_sy d8))), (.int (nar .char (own_sy d9))), (.int (nar .char (own_sy d10))), (.int (nar .char (own_sy d11))), (.int (0 : Int32)), (.int (0 : Int32)), (.int (0 : Int32)), (.int (0 : Int32))] (.int (0 : Int32)) := Arv.set Ar_99 q_99 Sz_99 Ng_99 Hh_99 Gg_99 (fits_nar_char _) W_99 11 rfl (Nat.le_of_ble_eq_true rfl)
  refine Go.to (mkF m 27 #[.val (.ref a1), .val (.ref b_3), .val (.int (11 : Int32))] []) st_99 ?_
  refine Go.to (mkF m 30 #[.val (.ref a1), .val (.ref b_3), .val (.int (12 : Int32))] []) (fun _ k => XS.iinc X_99.here hx rfl (hb hby d4_27) rfl (l' := #[.val (.ref a1), .val (.ref b_3), .val (.int (12 : Int32))]) rfl k) ?_
  refine Go.to (mkF m 10 #[.val (.ref a1), .val (.ref b_3), .val (.int (12 : Int32))] []) (fun _ k => XS.goto X_99.here hx rfl (pc0 := 30) (pc' := 10) rfl (hb hby d4_30) (by decide) (by decide) k) ?_
  refine Go.to (mkF m 11 #[.val (.ref a1), .val (.ref b_3), .val (.int (12 : Int32))] [(.int (12 : Int32))]) (fun _ k => XS.iloadN X_99.here hx rfl (hb hby d4_10) rfl  k) ?_
  refine Go.to (mkF m 12 #[.val (.ref a1), .val (.ref b_3), .val (.int (12 : Int32))] [(.ref a1), (.int (12 : Int32))]) (fun _ k => XS.aloadN X_99.here hx rfl (hb hby d4_11) rfl rfl k) ?_
  have f_100 : Fld Z h_99 a1 "nonet/Grid" "digits" "[B" (.ref ad) := (f_92.other W_99 (Or.inl ne_a1_b_3))
  obtain ⟨T_101, X_101, e_101, st_101⟩ := getF X_99 hx hZ hown (host := "") (Or.inl (hw _ (List.mem_of_getElem? (i := 21) rfl))) Via.refl e_99 f_100 (g := (mkF m 12 #[.val (.ref a1), .val (.ref b_3), .val (.int (12 : Int32))] [(.ref a1), (.int (12 : Int32))])) rfl rfl (hb hby d4_12)
  refine Go.to (mkF m 15 #[.val (.ref a1), .val (.ref b_3), .val (.int (12 : Int32))] [(.ref ad), (.int (12 : Int32))]) st_101 ?_
  have f_102 : Arv Z h_99 ad kd .byte (16 : Int32) [(.int d0), (.int d1), (.int d2), (.int d3), (.int d4), (.int d5), (.int d6), (.int d7), (.int d8), (.int d9), (.int d10), (.int d11), (.int d12), (.int d13), (.int d14), (.int d15)] (.int (0 : Int32)) := (f_94.other W_99 ne_ad_b_3)
  obtain ⟨cl_103, Ar_103, -, Sz_103, Ng_103, -, -⟩ := id f_102
  refine Go.to (mkF m 16 #[.val (.ref a1), .val (.ref b_3), .val (.int (12 : Int32))] [(.int (16 : Int32)), (.int (12 : Int32))]) (fun _ k => by
    refine X_101.arraylength hx (by rw [e_101]; exact Ar_103.1) (State.isArrayOf_alike hZ.alike Ar_103.2.1) (g := (mkF m 15 #[.val (.ref a1), .val (.ref b_3), .val (.int (12 : Int32))] [(.ref ad), (.int (12 : Int32))])) rfl rfl (hb hby d4_15) _ ?_
    rw [len_of Sz_103 Ng_103]
    exact k) ?_
  refine Go.to (mkF m 19 #[.val (.ref a1), .val (.ref b_3), .val (.int (12 : Int32))] []) (fun _ k => XS.icmpNo X_101.here hx rfl (hb hby d4_16) rfl (tlt (by decide : (12 : Int32) < (16 : Int32))).2.1 k) ?_
  refine Go.to (mkF m 20 #[.val (.ref a1), .val (.ref b_3), .val (.int (12 : Int32))] [(.ref b_3)]) (fun _ k => XS.aloadN X_101.here hx rfl (hb hby d4_19) rfl rfl k) ?_
  refine Go.to (mkF m 21 #[.val (.ref a1), .val (.ref b_3), .val (.int (12 : Int32))] [(.int (12 : Int32)), (.ref b_3)]) (fun _ k => XS.iloadN X_101.here hx rfl (hb hby d4_20) rfl  k) ?_
  refine Go.to (mkF m 22 #[.val (.ref a1), .val (.ref b_3), .val (.int (12 : Int32))] [(.ref a1), (.int (12 : Int32)), (.ref b_3)]) (fun _ k => XS.aloadN X_101.here hx rfl (hb hby d4_21) rfl rfl k) ?_
  refine Go.to (mkF m 23 #[.val (.ref a1), .val (.ref b_3), .val (.int (12 : Int32))] [(.int (12 : Int32)), (.ref a1), (.int (12 : Int32)), (.ref b_3)]) (fun _ k => XS.iloadN X_101.here hx rfl (hb hby d4_22) rfl  k) ?_
  have f_104 : n0 ≤ h_99.size := (Nat.le_trans f_96 (Keep.of_wr W_99).1)
  have f_105 : Exa Z h_99 a1 "nonet/Grid" := (f_97.wr W_99)
  refine Go.priv X_101 hx hZ (y := (⟨"nonet/Grid", "symbol", "(I)C"⟩ : MethodName)) hown (hw _ (List.mem_of_getElem? (i := 29) rfl)) (hw _ (List.mem_of_getElem? (i := 30) rfl)) (Jvm.Kit.selects_private (by decide) (mvT hZ (hw _ (List.mem_of_getElem? (i := 8) rfl))) (mvP hZ (hw _ (List.mem_of_getElem? (i := 31) rfl))) (mvT hZ (hw _ (List.mem_of_getElem? (i := 30) rfl)))) (hw _ (List.mem_of_getElem? (i := 31) rfl)) (hw _ (List.mem_of_getElem? (i := 32) rfl)) (by decide) e_101 (a := a1) f_105 (argsL := [(.int (12 : Int32))]) (rest := [(.int (12 : Int32)), (.ref b_3)]) (Met1.back (W := 2) (rm5 l Z a0 hw a1 ad kd ([(.int d0), (.int d1), (.int d2), (.int d3), (.int d4), (.int d5), (.int d6), (.int d7), (.int d8), (.int d9), (.int d10), (.int d11), (.int d12), (.int d13), (.int d14), (.int d15)]) (12 : Int32) d12 h_99 n0 f_104 f_100 f_102 (by decide) (by decide) rfl) hZ (hw _ (List.mem_of_getElem? (i := 32) rfl)) (hw _ (List.mem_of_getElem? (i := 9) rfl)) (by decide) (by decide)) (pc := 23) (Ls := #[.val (.ref a1), .val (.ref b_3), .val (.int (12 : Int32))]) (by rw [hml]; rfl) (lenOf own_pd0 rfl) rfl (Nat.le_refl _) (hb hby d4_23) (by decide) (by decide) ?_
  intro T_106 v_106 L_106 X_106 hQ_106
  obtain ⟨rfl, Nq_106, hh_106⟩ := hQ_106
  have N_106 := Fr.app N_99 Nq_106
  show Go p e below (FinN s (Q4 Z a1 ad kd d0 d1 d2 d3 d4 d5 d6 d7 d8 d9 d10 d11 d12 d13 d14 d15 z h0 n0) ({ frames := 4, cells := 3, slots := 36, locals := 66 } : Room).cells ({ frames := 4, cells := 3, slots := 36, locals := 66 } : Room).slots) T_106 (mkF m 26 #[.val (.ref a1), .val (.ref b_3), .val (.int (12 : Int32))] [(.int (own_sy d12)), (.int (12 : Int32)), (.ref b_3)])
  obtain ⟨cl_107, Ar_107, q_107, Sz_107, Ng_107, Hh_107, Gg_107⟩ := id V_99
  have hin_107 : ¬ ((12 : Int32) < 0 ∨ cl_107.slots.size ≤ ((12 : Int32)).toNatClampNeg) := inb_of Sz_107 ⟨by decide, by decide⟩
  obtain ⟨T_107, h_107, X_107, e_107, W_107, st_107⟩ := stC X_106 hx hZ hh_106 Ar_107 (j := (12 : Int32)) hin_107 (g := (mkF m 26 #[.val (.ref a1), .val (.ref b_3), .val (.int (12 : Int32))] [(.int (own_sy d12)), (.int (12 : Int32)), (.ref b_3)])) rfl rfl (hb hby d4_26)
  have N_107 := Fr.snoc X_107 N_106 g_b_3
  have V_107 : Arv Z h_107 b_3 k_3 .char (16 : Int32) [(.int (nar .char (own_sy d0))), (.int (nar .char (own_sy d1))), (.int (nar .char (own_sy d2))), (.int (nar .char (own_sy d3))), (.int (nar .char (own_sy d4))), (.int (nar .char (own_sy d5))), (.int (nar .char (own_sy d6))), (.int (nar .char (own_sy d7))), (.int (nar .char (own_sy d8))), (.int (nar .char (own_sy d9))), (.int (nar .char (own_sy d10))), (.int (nar .char (own_sy d11))), (.int (nar .char (own_sy d12))), (.int (0 : Int32)), (.int (0 : Int32)), (.int (0 : Int32))] (.int (0 : Int32)) := Arv.set Ar_107 q_107 Sz_107 Ng_107 Hh_107 Gg_107 (fits_nar_char _) W_107 12 rfl (Nat.le_of_ble_eq_true rfl)
  refine Go.to (mkF m 27 #[.val (.ref a1), .val (.ref b_3), .val (.int (12 : Int32))] []) st_107 ?_
  refine Go.to (mkF m 30 #[.val (.ref a1), .val (.ref b_3), .val (.int (13 : Int32))] []) (fun _ k => XS.iinc X_107.here hx rfl (hb hby d4_27) rfl (l' := #[.val (.ref a1), .val (.ref b_3), .val (.int (13 : Int32))]) rfl k) ?_
  refine Go.to (mkF m 10 #[.val (.ref a1), .val (.ref b_3), .val (.int (13 : Int32))] []) (fun _ k => XS.goto X_107.here hx rfl (pc0 := 30) (pc' := 10) rfl (hb hby d4_30) (by decide) (by decide) k) ?_
  refine Go.to (mkF m 11 #[.val (.ref a1), .val (.ref b_3), .val (.int (13 : Int32))] [(.int (13 : Int32))]) (fun _ k => XS.iloadN X_107.here hx rfl (hb hby d4_10) rfl  k) ?_
  refine Go.to (mkF m 12 #[.val (.ref a1), .val (.ref b_3), .val (.int (13 : Int32))] [(.ref a1), (.int (13 : Int32))]) (fun _ k => XS.aloadN X_107.here hx rfl (hb hby d4_11) rfl rfl k) ?_
  have f_108 : Fld Z h_107 a1 "nonet/Grid" "digits" "[B" (.ref ad) := (f_100.other W_107 (Or.inl ne_a1_b_3))
  obtain ⟨T_109, X_109, e_109, st_109⟩ := getF X_107 hx hZ hown (host := "") (Or.inl (hw _ (List.mem_of_getElem? (i := 21) rfl))) Via.refl e_107 f_108 (g := (mkF m 12 #[.val (.ref a1), .val (.ref b_3), .val (.int (13 : Int32))] [(.ref a1), (.int (13 : Int32))])) rfl rfl (hb hby d4_12)
  refine Go.to (mkF m 15 #[.val (.ref a1), .val (.ref b_3), .val (.int (13 : Int32))] [(.ref ad), (.int (13 : Int32))]) st_109 ?_
  have f_110 : Arv Z h_107 ad kd .byte (16 : Int32) [(.int d0), (.int d1), (.int d2), (.int d3), (.int d4), (.int d5), (.int d6), (.int d7), (.int d8), (.int d9), (.int d10), (.int d11), (.int d12), (.int d13), (.int d14), (.int d15)] (.int (0 : Int32)) := (f_102.other W_107 ne_ad_b_3)
  obtain ⟨cl_111, Ar_111, -, Sz_111, Ng_111, -, -⟩ := id f_110
  refine Go.to (mkF m 16 #[.val (.ref a1), .val (.ref b_3), .val (.int (13 : Int32))] [(.int (16 : Int32)), (.int (13 : Int32))]) (fun _ k => by
    refine X_109.arraylength hx (by rw [e_109]; exact Ar_111.1) (State.isArrayOf_alike hZ.alike Ar_111.2.1) (g := (mkF m 15 #[.val (.ref a1), .val (.ref b_3), .val (.int (13 : Int32))] [(.ref ad), (.int (13 : Int32))])) rfl rfl (hb hby d4_15) _ ?_
    rw [len_of Sz_111 Ng_111]
    exact k) ?_
  refine Go.to (mkF m 19 #[.val (.ref a1), .val (.ref b_3), .val (.int (13 : Int32))] []) (fun _ k => XS.icmpNo X_109.here hx rfl (hb hby d4_16) rfl (tlt (by decide : (13 : Int32) < (16 : Int32))).2.1 k) ?_
  refine Go.to (mkF m 20 #[.val (.ref a1), .val (.ref b_3), .val (.int (13 : Int32))] [(.ref b_3)]) (fun _ k => XS.aloadN X_109.here hx rfl (hb hby d4_19) rfl rfl k) ?_
  refine Go.to (mkF m 21 #[.val (.ref a1), .val (.ref b_3), .val (.int (13 : Int32))] [(.int (13 : Int32)), (.ref b_3)]) (fun _ k => XS.iloadN X_109.here hx rfl (hb hby d4_20) rfl  k) ?_
  refine Go.to (mkF m 22 #[.val (.ref a1), .val (.ref b_3), .val (.int (13 : Int32))] [(.ref a1), (.int (13 : Int32)), (.ref b_3)]) (fun _ k => XS.aloadN X_109.here hx rfl (hb hby d4_21) rfl rfl k) ?_
  refine Go.to (mkF m 23 #[.val (.ref a1), .val (.ref b_3), .val (.int (13 : Int32))] [(.int (13 : Int32)), (.ref a1), (.int (13 : Int32)), (.ref b_3)]) (fun _ k => XS.iloadN X_109.here hx rfl (hb hby d4_22) rfl  k) ?_
  have f_112 : n0 ≤ h_107.size := (Nat.le_trans f_104 (Keep.of_wr W_107).1)
  have f_113 : Exa Z h_107 a1 "nonet/Grid" := (f_105.wr W_107)
  refine Go.priv X_109 hx hZ (y := (⟨"nonet/Grid", "symbol", "(I)C"⟩ : MethodName)) hown (hw _ (List.mem_of_getElem? (i := 29) rfl)) (hw _ (List.mem_of_getElem? (i := 30) rfl)) (Jvm.Kit.selects_private (by decide) (mvT hZ (hw _ (List.mem_of_getElem? (i := 8) rfl))) (mvP hZ (hw _ (List.mem_of_getElem? (i := 31) rfl))) (mvT hZ (hw _ (List.mem_of_getElem? (i := 30) rfl)))) (hw _ (List.mem_of_getElem? (i := 31) rfl)) (hw _ (List.mem_of_getElem? (i := 32) rfl)) (by decide) e_109 (a := a1) f_113 (argsL := [(.int (13 : Int32))]) (rest := [(.int (13 : Int32)), (.ref b_3)]) (Met1.back (W := 2) (rm5 l Z a0 hw a1 ad kd ([(.int d0), (.int d1), (.int d2), (.int d3), (.int d4), (.int d5), (.int d6), (.int d7), (.int d8), (.int d9), (.int d10), (.int d11), (.int d12), (.int d13), (.int d14), (.int d15)]) (13 : Int32) d13 h_107 n0 f_112 f_108 f_110 (by decide) (by decide) rfl) hZ (hw _ (List.mem_of_getElem? (i := 32) rfl)) (hw _ (List.mem_of_getElem? (i := 9) rfl)) (by decide) (by decide)) (pc := 23) (Ls := #[.val (.ref a1), .val (.ref b_3), .val (.int (13 : Int32))]) (by rw [hml]; rfl) (lenOf own_pd0 rfl) rfl (Nat.le_refl _) (hb hby d4_23) (by decide) (by decide) ?_
  intro T_114 v_114 L_114 X_114 hQ_114
  obtain ⟨rfl, Nq_114, hh_114⟩ := hQ_114
  have N_114 := Fr.app N_107 Nq_114
  show Go p e below (FinN s (Q4 Z a1 ad kd d0 d1 d2 d3 d4 d5 d6 d7 d8 d9 d10 d11 d12 d13 d14 d15 z h0 n0) ({ frames := 4, cells := 3, slots := 36, locals := 66 } : Room).cells ({ frames := 4, cells := 3, slots := 36, locals := 66 } : Room).slots) T_114 (mkF m 26 #[.val (.ref a1), .val (.ref b_3), .val (.int (13 : Int32))] [(.int (own_sy d13)), (.int (13 : Int32)), (.ref b_3)])
  obtain ⟨cl_115, Ar_115, q_115, Sz_115, Ng_115, Hh_115, Gg_115⟩ := id V_107
  have hin_115 : ¬ ((13 : Int32) < 0 ∨ cl_115.slots.size ≤ ((13 : Int32)).toNatClampNeg) := inb_of Sz_115 ⟨by decide, by decide⟩
  obtain ⟨T_115, h_115, X_115, e_115, W_115, st_115⟩ := stC X_114 hx hZ hh_114 Ar_115 (j := (13 : Int32)) hin_115 (g := (mkF m 26 #[.val (.ref a1), .val (.ref b_3), .val (.int (13 : Int32))] [(.int (own_sy d13)), (.int (13 : Int32)), (.ref b_3)])) rfl rfl (hb hby d4_26)
  have N_115 := Fr.snoc X_115 N_114 g_b_3
  have V_115 : Arv Z h_115 b_3 k_3 .char (16 : Int32) [(.int (nar .char (own_sy d0))), (.int (nar .char (own_sy d1))), (.int (nar .char (own_sy d2))), (.int (nar .char (own_sy d3))), (.int (nar .char (own_sy d4))), (.int (nar .char (own_sy d5))), (.int (nar .char (own_sy d6))), (.int (nar .char (own_sy d7))), (.int (nar .char (own_sy d8))), (.int (nar .char (own_sy d9))), (.int (nar .char (own_sy d10))), (.int (nar .char (own_sy d11))), (.int (nar .char (own_sy d12))), (.int (nar .char (own_sy d13))), (.int (0 : Int32)), (.int (0 : Int32))] (.int (0 : Int32)) := Arv.set Ar_115 q_115 Sz_115 Ng_115 Hh_115 Gg_115 (fits_nar_char _) W_115 13 rfl (Nat.le_of_ble_eq_true rfl)
  refine Go.to (mkF m 27 #[.val (.ref a1), .val (.ref b_3), .val (.int (13 : Int32))] []) st_115 ?_
  refine Go.to (mkF m 30 #[.val (.ref a1), .val (.ref b_3), .val (.int (14 : Int32))] []) (fun _ k => XS.iinc X_115.here hx rfl (hb hby d4_27) rfl (l' := #[.val (.ref a1), .val (.ref b_3), .val (.int (14 : Int32))]) rfl k) ?_
  refine Go.to (mkF m 10 #[.val (.ref a1), .val (.ref b_3), .val (.int (14 : Int32))] []) (fun _ k => XS.goto X_115.here hx rfl (pc0 := 30) (pc' := 10) rfl (hb hby d4_30) (by decide) (by decide) k) ?_
  refine Go.to (mkF m 11 #[.val (.ref a1), .val (.ref b_3), .val (.int (14 : Int32))] [(.int (14 : Int32))]) (fun _ k => XS.iloadN X_115.here hx rfl (hb hby d4_10) rfl  k) ?_
  refine Go.to (mkF m 12 #[.val (.ref a1), .val (.ref b_3), .val (.int (14 : Int32))] [(.ref a1), (.int (14 : Int32))]) (fun _ k => XS.aloadN X_115.here hx rfl (hb hby d4_11) rfl rfl k) ?_
  have f_116 : Fld Z h_115 a1 "nonet/Grid" "digits" "[B" (.ref ad) := (f_108.other W_115 (Or.inl ne_a1_b_3))
  obtain ⟨T_117, X_117, e_117, st_117⟩ := getF X_115 hx hZ hown (host := "") (Or.inl (hw _ (List.mem_of_getElem? (i := 21) rfl))) Via.refl e_115 f_116 (g := (mkF m 12 #[.val (.ref a1), .val (.ref b_3), .val (.int (14 : Int32))] [(.ref a1), (.int (14 : Int32))])) rfl rfl (hb hby d4_12)
  refine Go.to (mkF m 15 #[.val (.ref a1), .val (.ref b_3), .val (.int (14 : Int32))] [(.ref ad), (.int (14 : Int32))]) st_117 ?_
  have f_118 : Arv Z h_115 ad kd .byte (16 : Int32) [(.int d0), (.int d1), (.int d2), (.int d3), (.int d4), (.int d5), (.int d6), (.int d7), (.int d8), (.int d9), (.int d10), (.int d11), (.int d12), (.int d13), (.int d14), (.int d15)] (.int (0 : Int32)) := (f_110.other W_115 ne_ad_b_3)
  obtain ⟨cl_119, Ar_119, -, Sz_119, Ng_119, -, -⟩ := id f_118
  refine Go.to (mkF m 16 #[.val (.ref a1), .val (.ref b_3), .val (.int (14 : Int32))] [(.int (16 : Int32)), (.int (14 : Int32))]) (fun _ k => by
    refine X_117.arraylength hx (by rw [e_117]; exact Ar_119.1) (State.isArrayOf_alike hZ.alike Ar_119.2.1) (g := (mkF m 15 #[.val (.ref a1), .val (.ref b_3), .val (.int (14 : Int32))] [(.ref ad), (.int (14 : Int32))])) rfl rfl (hb hby d4_15) _ ?_
    rw [len_of Sz_119 Ng_119]
    exact k) ?_
  refine Go.to (mkF m 19 #[.val (.ref a1), .val (.ref b_3), .val (.int (14 : Int32))] []) (fun _ k => XS.icmpNo X_117.here hx rfl (hb hby d4_16) rfl (tlt (by decide : (14 : Int32) < (16 : Int32))).2.1 k) ?_
  refine Go.to (mkF m 20 #[.val (.ref a1), .val (.ref b_3), .val (.int (14 : Int32))] [(.ref b_3)]) (fun _ k => XS.aloadN X_117.here hx rfl (hb hby d4_19) rfl rfl k) ?_
  refine Go.to (mkF m 21 #[.val (.ref a1), .val (.ref b_3), .val (.int (14 : Int32))] [(.int (14 : Int32)), (.ref b_3)]) (fun _ k => XS.iloadN X_117.here hx rfl (hb hby d4_20) rfl  k) ?_
  refine Go.to (mkF m 22 #[.val (.ref a1), .val (.ref b_3), .val (.int (14 : Int32))] [(.ref a1), (.int (14 : Int32)), (.ref b_3)]) (fun _ k => XS.aloadN X_117.here hx rfl (hb hby d4_21) rfl rfl k) ?_
  refine Go.to (mkF m 23 #[.val (.ref a1), .val (.ref b_3), .val (.int (14 : Int32))] [(.int (14 : Int32)), (.ref a1), (.int (14 : Int32)), (.ref b_3)]) (fun _ k => XS.iloadN X_117.here hx rfl (hb hby d4_22) rfl  k) ?_
  have f_120 : n0 ≤ h_115.size := (Nat.le_trans f_112 (Keep.of_wr W_115).1)
  have f_121 : Exa Z h_115 a1 "nonet/Grid" := (f_113.wr W_115)
  refine Go.priv X_117 hx hZ (y := (⟨"nonet/Grid", "symbol", "(I)C"⟩ : MethodName)) hown (hw _ (List.mem_of_getElem? (i := 29) rfl)) (hw _ (List.mem_of_getElem? (i := 30) rfl)) (Jvm.Kit.selects_private (by decide) (mvT hZ (hw _ (List.mem_of_getElem? (i := 8) rfl))) (mvP hZ (hw _ (List.mem_of_getElem? (i := 31) rfl))) (mvT hZ (hw _ (List.mem_of_getElem? (i := 30) rfl)))) (hw _ (List.mem_of_getElem? (i := 31) rfl)) (hw _ (List.mem_of_getElem? (i := 32) rfl)) (by decide) e_117 (a := a1) f_121 (argsL := [(.int (14 : Int32))]) (rest := [(.int (14 : Int32)), (.ref b_3)]) (Met1.back (W := 2) (rm5 l Z a0 hw a1 ad kd ([(.int d0), (.int d1), (.int d2), (.int d3), (.int d4), (.int d5), (.int d6), (.int d7), (.int d8), (.int d9), (.int d10), (.int d11), (.int d12), (.int d13), (.int d14), (.int d15)]) (14 : Int32) d14 h_115 n0 f_120 f_116 f_118 (by decide) (by decide) rfl) hZ (hw _ (List.mem_of_getElem? (i := 32) rfl)) (hw _ (List.mem_of_getElem? (i := 9) rfl)) (by decide) (by decide)) (pc := 23) (Ls := #[.val (.ref a1), .val (.ref b_3), .val (.int (14 : Int32))]) (by rw [hml]; rfl) (lenOf own_pd0 rfl) rfl (Nat.le_refl _) (hb hby d4_23) (by decide) (by decide) ?_
  intro T_122 v_122 L_122 X_122 hQ_122
  obtain ⟨rfl, Nq_122, hh_122⟩ := hQ_122
  have N_122 := Fr.app N_115 Nq_122
  show Go p e below (FinN s (Q4 Z a1 ad kd d0 d1 d2 d3 d4 d5 d6 d7 d8 d9 d10 d11 d12 d13 d14 d15 z h0 n0) ({ frames := 4, cells := 3, slots := 36, locals := 66 } : Room).cells ({ frames := 4, cells := 3, slots := 36, locals := 66 } : Room).slots) T_122 (mkF m 26 #[.val (.ref a1), .val (.ref b_3), .val (.int (14 : Int32))] [(.int (own_sy d14)), (.int (14 : Int32)), (.ref b_3)])
  obtain ⟨cl_123, Ar_123, q_123, Sz_123, Ng_123, Hh_123, Gg_123⟩ := id V_115
  have hin_123 : ¬ ((14 : Int32) < 0 ∨ cl_123.slots.size ≤ ((14 : Int32)).toNatClampNeg) := inb_of Sz_123 ⟨by decide, by decide⟩
  obtain ⟨T_123, h_123, X_123, e_123, W_123, st_123⟩ := stC X_122 hx hZ hh_122 Ar_123 (j := (14 : Int32)) hin_123 (g := (mkF m 26 #[.val (.ref a1), .val (.ref b_3), .val (.int (14 : Int32))] [(.int (own_sy d14)), (.int (14 : Int32)), (.ref b_3)])) rfl rfl (hb hby d4_26)
  have N_123 := Fr.snoc X_123 N_122 g_b_3
  have V_123 : Arv Z h_123 b_3 k_3 .char (16 : Int32) [(.int (nar .char (own_sy d0))), (.int (nar .char (own_sy d1))), (.int (nar .char (own_sy d2))), (.int (nar .char (own_sy d3))), (.int (nar .char (own_sy d4))), (.int (nar .char (own_sy d5))), (.int (nar .char (own_sy d6))), (.int (nar .char (own_sy d7))), (.int (nar .char (own_sy d8))), (.int (nar .char (own_sy d9))), (.int (nar .char (own_sy d10))), (.int (nar .char (own_sy d11))), (.int (nar .char (own_sy d12))), (.int (nar .char (own_sy d13))), (.int (nar .char (own_sy d14))), (.int (0 : Int32))] (.int (0 : Int32)) := Arv.set Ar_123 q_123 Sz_123 Ng_123 Hh_123 Gg_123 (fits_nar_char _) W_123 14 rfl (Nat.le_of_ble_eq_true rfl)
  refine Go.to (mkF m 27 #[.val (.ref a1), .val (.ref b_3), .val (.int (14 : Int32))] []) st_123 ?_
  refine Go.to (mkF m 30 #[.val (.ref a1), .val (.ref b_3), .val (.int (15 : Int32))] []) (fun _ k => XS.iinc X_123.here hx rfl (hb hby d4_27) rfl (l' := #[.val (.ref a1), .val (.ref b_3), .val (.int (15 : Int32))]) rfl k) ?_
  refine Go.to (mkF m 10 #[.val (.ref a1), .val (.ref b_3), .val (.int (15 : Int32))] []) (fun _ k => XS.goto X_123.here hx rfl (pc0 := 30) (pc' := 10) rfl (hb hby d4_30) (by decide) (by decide) k) ?_
  refine Go.to (mkF m 11 #[.val (.ref a1), .val (.ref b_3), .val (.int (15 : Int32))] [(.int (15 : Int32))]) (fun _ k => XS.iloadN X_123.here hx rfl (hb hby d4_10) rfl  k) ?_
  refine Go.to (mkF m 12 #[.val (.ref a1), .val (.ref b_3), .val (.int (15 : Int32))] [(.ref a1), (.int (15 : Int32))]) (fun _ k => XS.aloadN X_123.here hx rfl (hb hby d4_11) rfl rfl k) ?_
  have f_124 : Fld Z h_123 a1 "nonet/Grid" "digits" "[B" (.ref ad) := (f_116.other W_123 (Or.inl ne_a1_b_3))
  obtain ⟨T_125, X_125, e_125, st_125⟩ := getF X_123 hx hZ hown (host := "") (Or.inl (hw _ (List.mem_of_getElem? (i := 21) rfl))) Via.refl e_123 f_124 (g := (mkF m 12 #[.val (.ref a1), .val (.ref b_3), .val (.int (15 : Int32))] [(.ref a1), (.int (15 : Int32))])) rfl rfl (hb hby d4_12)
  refine Go.to (mkF m 15 #[.val (.ref a1), .val (.ref b_3), .val (.int (15 : Int32))] [(.ref ad), (.int (15 : Int32))]) st_125 ?_
  have f_126 : Arv Z h_123 ad kd .byte (16 : Int32) [(.int d0), (.int d1), (.int d2), (.int d3), (.int d4), (.int d5), (.int d6), (.int d7), (.int d8), (.int d9), (.int d10), (.int d11), (.int d12), (.int d13), (.int d14), (.int d15)] (.int (0 : Int32)) := (f_118.other W_123 ne_ad_b_3)
  obtain ⟨cl_127, Ar_127, -, Sz_127, Ng_127, -, -⟩ := id f_126
  refine Go.to (mkF m 16 #[.val (.ref a1), .val (.ref b_3), .val (.int (15 : Int32))] [(.int (16 : Int32)), (.int (15 : Int32))]) (fun _ k => by
    refine X_125.arraylength hx (by rw [e_125]; exact Ar_127.1) (State.isArrayOf_alike hZ.alike Ar_127.2.1) (g := (mkF m 15 #[.val (.ref a1), .val (.ref b_3), .val (.int (15 : Int32))] [(.ref ad), (.int (15 : Int32))])) rfl rfl (hb hby d4_15) _ ?_
    rw [len_of Sz_127 Ng_127]
    exact k) ?_
  refine Go.to (mkF m 19 #[.val (.ref a1), .val (.ref b_3), .val (.int (15 : Int32))] []) (fun _ k => XS.icmpNo X_125.here hx rfl (hb hby d4_16) rfl (tlt (by decide : (15 : Int32) < (16 : Int32))).2.1 k) ?_
  refine Go.to (mkF m 20 #[.val (.ref a1), .val (.ref b_3), .val (.int (15 : Int32))] [(.ref b_3)]) (fun _ k => XS.aloadN X_125.here hx rfl (hb hby d4_19) rfl rfl k) ?_
  refine Go.to (mkF m 21 #[.val (.ref a1), .val (.ref b_3), .val (.int (15 : Int32))] [(.int (15 : Int32)), (.ref b_3)]) (fun _ k => XS.iloadN X_125.here hx rfl (hb hby d4_20) rfl  k) ?_
  refine Go.to (mkF m 22 #[.val (.ref a1), .val (.ref b_3), .val (.int (15 : Int32))] [(.ref a1), (.int (15 : Int32)), (.ref b_3)]) (fun _ k => XS.aloadN X_125.here hx rfl (hb hby d4_21) rfl rfl k) ?_
  refine Go.to (mkF m 23 #[.val (.ref a1), .val (.ref b_3), .val (.int (15 : Int32))] [(.int (15 : Int32)), (.ref a1), (.int (15 : Int32)), (.ref b_3)]) (fun _ k => XS.iloadN X_125.here hx rfl (hb hby d4_22) rfl  k) ?_
  have f_128 : n0 ≤ h_123.size := (Nat.le_trans f_120 (Keep.of_wr W_123).1)
  have f_129 : Exa Z h_123 a1 "nonet/Grid" := (f_121.wr W_123)
  refine Go.priv X_125 hx hZ (y := (⟨"nonet/Grid", "symbol", "(I)C"⟩ : MethodName)) hown (hw _ (List.mem_of_getElem? (i := 29) rfl)) (hw _ (List.mem_of_getElem? (i := 30) rfl)) (Jvm.Kit.selects_private (by decide) (mvT hZ (hw _ (List.mem_of_getElem? (i := 8) rfl))) (mvP hZ (hw _ (List.mem_of_getElem? (i := 31) rfl))) (mvT hZ (hw _ (List.mem_of_getElem? (i := 30) rfl)))) (hw _ (List.mem_of_getElem? (i := 31) rfl)) (hw _ (List.mem_of_getElem? (i := 32) rfl)) (by decide) e_125 (a := a1) f_129 (argsL := [(.int (15 : Int32))]) (rest := [(.int (15 : Int32)), (.ref b_3)]) (Met1.back (W := 2) (rm5 l Z a0 hw a1 ad kd ([(.int d0), (.int d1), (.int d2), (.int d3), (.int d4), (.int d5), (.int d6), (.int d7), (.int d8), (.int d9), (.int d10), (.int d11), (.int d12), (.int d13), (.int d14), (.int d15)]) (15 : Int32) d15 h_123 n0 f_128 f_124 f_126 (by decide) (by decide) rfl) hZ (hw _ (List.mem_of_getElem? (i := 32) rfl)) (hw _ (List.mem_of_getElem? (i := 9) rfl)) (by decide) (by decide)) (pc := 23) (Ls := #[.val (.ref a1), .val (.ref b_3), .val (.int (15 : Int32))]) (by rw [hml]; rfl) (lenOf own_pd0 rfl) rfl (Nat.le_refl _) (hb hby d4_23) (by decide) (by decide) ?_
  intro T_130 v_130 L_130 X_130 hQ_130
  obtain ⟨rfl, Nq_130, hh_130⟩ := hQ_130
  have N_130 := Fr.app N_123 Nq_130
  show Go p e below (FinN s (Q4 Z a1 ad kd d0 d1 d2 d3 d4 d5 d6 d7 d8 d9 d10 d11 d12 d13 d14 d15 z h0 n0) ({ frames := 4, cells := 3, slots := 36, locals := 66 } : Room).cells ({ frames := 4, cells := 3, slots := 36, locals := 66 } : Room).slots) T_130 (mkF m 26 #[.val (.ref a1), .val (.ref b_3), .val (.int (15 : Int32))] [(.int (own_sy d15)), (.int (15 : Int32)), (.ref b_3)])
  obtain ⟨cl_131, Ar_131, q_131, Sz_131, Ng_131, Hh_131, Gg_131⟩ := id V_123
  have hin_131 : ¬ ((15 : Int32) < 0 ∨ cl_131.slots.size ≤ ((15 : Int32)).toNatClampNeg) := inb_of Sz_131 ⟨by decide, by decide⟩
  obtain ⟨T_131, h_131, X_131, e_131, W_131, st_131⟩ := stC X_130 hx hZ hh_130 Ar_131 (j := (15 : Int32)) hin_131 (g := (mkF m 26 #[.val (.ref a1), .val (.ref b_3), .val (.int (15 : Int32))] [(.int (own_sy d15)), (.int (15 : Int32)), (.ref b_3)])) rfl rfl (hb hby d4_26)
  have N_131 := Fr.snoc X_131 N_130 g_b_3
  have V_131 : Arv Z h_131 b_3 k_3 .char (16 : Int32) [(.int (nar .char (own_sy d0))), (.int (nar .char (own_sy d1))), (.int (nar .char (own_sy d2))), (.int (nar .char (own_sy d3))), (.int (nar .char (own_sy d4))), (.int (nar .char (own_sy d5))), (.int (nar .char (own_sy d6))), (.int (nar .char (own_sy d7))), (.int (nar .char (own_sy d8))), (.int (nar .char (own_sy d9))), (.int (nar .char (own_sy d10))), (.int (nar .char (own_sy d11))), (.int (nar .char (own_sy d12))), (.int (nar .char (own_sy d13))), (.int (nar .char (own_sy d14))), (.int (nar .char (own_sy d15)))] (.int (0 : Int32)) := Arv.set Ar_131 q_131 Sz_131 Ng_131 Hh_131 Gg_131 (fits_nar_char _) W_131 15 rfl (Nat.le_of_ble_eq_true rfl)
  refine Go.to (mkF m 27 #[.val (.ref a1), .val (.ref b_3), .val (.int (15 : Int32))] []) st_131 ?_
  refine Go.to (mkF m 30 #[.val (.ref a1), .val (.ref b_3), .val (.int (16 : Int32))] []) (fun _ k => XS.iinc X_131.here hx rfl (hb hby d4_27) rfl (l' := #[.val (.ref a1), .val (.ref b_3), .val (.int (16 : Int32))]) rfl k) ?_
  refine Go.to (mkF m 10 #[.val (.ref a1), .val (.ref b_3), .val (.int (16 : Int32))] []) (fun _ k => XS.goto X_131.here hx rfl (pc0 := 30) (pc' := 10) rfl (hb hby d4_30) (by decide) (by decide) k) ?_
  refine Go.to (mkF m 11 #[.val (.ref a1), .val (.ref b_3), .val (.int (16 : Int32))] [(.int (16 : Int32))]) (fun _ k => XS.iloadN X_131.here hx rfl (hb hby d4_10) rfl  k) ?_
  refine Go.to (mkF m 12 #[.val (.ref a1), .val (.ref b_3), .val (.int (16 : Int32))] [(.ref a1), (.int (16 : Int32))]) (fun _ k => XS.aloadN X_131.here hx rfl (hb hby d4_11) rfl rfl k) ?_
  have f_132 : Fld Z h_131 a1 "nonet/Grid" "digits" "[B" (.ref ad) := (f_124.other W_131 (Or.inl ne_a1_b_3))
  obtain ⟨T_133, X_133, e_133, st_133⟩ := getF X_131 hx hZ hown (host := "") (Or.inl (hw _ (List.mem_of_getElem? (i := 21) rfl))) Via.refl e_131 f_132 (g := (mkF m 12 #[.val (.ref a1), .val (.ref b_3), .val (.int (16 : Int32))] [(.ref a1), (.int (16 : Int32))])) rfl rfl (hb hby d4_12)
  refine Go.to (mkF m 15 #[.val (.ref a1), .val (.ref b_3), .val (.int (16 : Int32))] [(.ref ad), (.int (16 : Int32))]) st_133 ?_
  have f_134 : Arv Z h_131 ad kd .byte (16 : Int32) [(.int d0), (.int d1), (.int d2), (.int d3), (.int d4), (.int d5), (.int d6), (.int d7), (.int d8), (.int d9), (.int d10), (.int d11), (.int d12), (.int d13), (.int d14), (.int d15)] (.int (0 : Int32)) := (f_126.other W_131 ne_ad_b_3)
  obtain ⟨cl_135, Ar_135, -, Sz_135, Ng_135, -, -⟩ := id f_134
  refine Go.to (mkF m 16 #[.val (.ref a1), .val (.ref b_3), .val (.int (16 : Int32))] [(.int (16 : Int32)), (.int (16 : Int32))]) (fun _ k => by
    refine X_133.arraylength hx (by rw [e_133]; exact Ar_135.1) (State.isArrayOf_alike hZ.alike Ar_135.2.1) (g := (mkF m 15 #[.val (.ref a1), .val (.ref b_3), .val (.int (16 : Int32))] [(.ref ad), (.int (16 : Int32))])) rfl rfl (hb hby d4_15) _ ?_
    rw [len_of Sz_135 Ng_135]
    exact k) ?_
  refine Go.to (mkF m 33 #[.val (.ref a1), .val (.ref b_3), .val (.int (16 : Int32))] []) (fun _ k => XS.icmpYes X_133.here hx rfl (pc0 := 16) (pc' := 33) rfl (hb hby d4_16) rfl (flt (by decide : ¬ ((16 : Int32) < (16 : Int32)))).2.1 (by decide) (by decide) k) ?_
  have f_137 : Exa Z h_131 a1 "nonet/Grid" := (f_129.wr W_131)
  have f_138 : n0 ≤ h_131.size := (Nat.le_trans f_128 (Keep.of_wr W_131).1)
  have f_139 : Keep h0 h_131 [] := ((((((((((((((((((Keep.refl h0 []).ext E_3).wr W_11 (Or.inr sz_b_3)).wr W_19 (Or.inr sz_b_3)).wr W_27 (Or.inr sz_b_3)).wr W_35 (Or.inr sz_b_3)).wr W_43 (Or.inr sz_b_3)).wr W_51 (Or.inr sz_b_3)).wr W_59 (Or.inr sz_b_3)).wr W_67 (Or.inr sz_b_3)).wr W_75 (Or.inr sz_b_3)).wr W_83 (Or.inr sz_b_3)).wr W_91 (Or.inr sz_b_3)).wr W_99 (Or.inr sz_b_3)).wr W_107 (Or.inr sz_b_3)).wr W_115 (Or.inr sz_b_3)).wr W_123 (Or.inr sz_b_3)).wr W_131 (Or.inr sz_b_3))
  obtain ⟨T_136, h_136, X_136, e_136, E_136, A_136, D_136, -, st_136⟩ := newO X_133 hx hZ hown (hw _ (List.mem_of_getElem? (i := 33) rfl)) (hw _ (List.mem_of_getElem? (i := 34) rfl)) (hw _ (List.mem_of_getElem? (i := 35) rfl)) e_133 (g := (mkF m 33 #[.val (.ref a1), .val (.ref b_3), .val (.int (16 : Int32))] [])) rfl (hb hby d4_33) (by decide) (by decide)
  obtain ⟨b_136, g_136⟩ : ∃ z, z = h_131.size := ⟨_, rfl⟩
  rw [← g_136] at A_136 D_136 st_136
  have g_b_136 : n0 ≤ b_136 := Nat.le_trans f_138 (Nat.le_of_eq g_136.symm)
  have sz_b_136 : h0.size ≤ b_136 := Nat.le_trans f_139.1 (Nat.le_of_eq g_136.symm)
  have ne_a1_b_136 : a1 ≠ b_136 := Nat.ne_of_lt (Nat.lt_of_lt_of_le f_137.lt (Nat.le_of_eq g_136.symm))
  have ne_ad_b_136 : ad ≠ b_136 := Nat.ne_of_lt (Nat.lt_of_lt_of_le f_134.lt (Nat.le_of_eq g_136.symm))
  have ne_b_3_b_136 : b_3 ≠ b_136 := Nat.ne_of_lt (Nat.lt_of_lt_of_le V_131.lt (Nat.le_of_eq g_136.symm))
  have F_coder_b_136 : Fld Z h_136 b_136 "java/lang/String" "coder" "B" (.int (0 : Int32)) := D_136 (Or.inr (hw _ (List.mem_of_getElem? (i := 56) rfl))) (ty := .byte) (by decide)
  have F_value_b_136 : Fld Z h_136 b_136 "java/lang/String" "value" "[B" .null := D_136 (Or.inr (hw _ (List.mem_of_getElem? (i := 58) rfl))) (ty := (.array .byte)) (by decide)
  refine Go.to (mkF m 36 #[.val (.ref a1), .val (.ref b_3), .val (.int (16 : Int32))] [(.ref b_136)]) st_136 ?_
  refine Go.to (mkF m 37 #[.val (.ref a1), .val (.ref b_3), .val (.int (16 : Int32))] [(.ref b_136), (.ref b_136)]) (fun _ k => XS.dup X_136.here hx rfl (hb hby d4_36) rfl rfl k) ?_
  refine Go.to (mkF m 38 #[.val (.ref a1), .val (.ref b_3), .val (.int (16 : Int32))] [(.ref b_3), (.ref b_136), (.ref b_136)]) (fun _ k => XS.aloadN X_136.here hx rfl (hb hby d4_37) rfl rfl k) ?_
  have hp : ∀ c ∈ ([(nar .char (own_sy d0)), (nar .char (own_sy d1)), (nar .char (own_sy d2)), (nar .char (own_sy d3)), (nar .char (own_sy d4)), (nar .char (own_sy d5)), (nar .char (own_sy d6)), (nar .char (own_sy d7)), (nar .char (own_sy d8)), (nar .char (own_sy d9)), (nar .char (own_sy d10)), (nar .char (own_sy d11)), (nar .char (own_sy d12)), (nar .char (own_sy d13)), (nar .char (own_sy d14)), (nar .char (own_sy d15))] : List Int32), ¬ c < 0 ∧ ¬ (255 : Int32) < c := (own_cS (own_syc (hd _ (List.mem_of_getElem? (i := 0) rfl))) (own_cS (own_syc (hd _ (List.mem_of_getElem? (i := 1) rfl))) (own_cS (own_syc (hd _ (List.mem_of_getElem? (i := 2) rfl))) (own_cS (own_syc (hd _ (List.mem_of_getElem? (i := 3) rfl))) (own_cS (own_syc (hd _ (List.mem_of_getElem? (i := 4) rfl))) (own_cS (own_syc (hd _ (List.mem_of_getElem? (i := 5) rfl))) (own_cS (own_syc (hd _ (List.mem_of_getElem? (i := 6) rfl))) (own_cS (own_syc (hd _ (List.mem_of_getElem? (i := 7) rfl))) (own_cS (own_syc (hd _ (List.mem_of_getElem? (i := 8) rfl))) (own_cS (own_syc (hd _ (List.mem_of_getElem? (i := 9) rfl))) (own_cS (own_syc (hd _ (List.mem_of_getElem? (i := 10) rfl))) (own_cS (own_syc (hd _ (List.mem_of_getElem? (i := 11) rfl))) (own_cS (own_syc (hd _ (List.mem_of_getElem? (i := 12) rfl))) (own_cS (own_syc (hd _ (List.mem_of_getElem? (i := 13) rfl))) (own_cS (own_syc (hd _ (List.mem_of_getElem? (i := 14) rfl))) (own_cS (own_syc (hd _ (List.mem_of_getElem? (i := 15) rfl))) own_c0))))))))))))))))
  have f_140 : Arv Z h_136 b_3 k_3 .char (16 : Int32) [(.int (nar .char (own_sy d0))), (.int (nar .char (own_sy d1))), (.int (nar .char (own_sy d2))), (.int (nar .char (own_sy d3))), (.int (nar .char (own_sy d4))), (.int (nar .char (own_sy d5))), (.int (nar .char (own_sy d6))), (.int (nar .char (own_sy d7))), (.int (nar .char (own_sy d8))), (.int (nar .char (own_sy d9))), (.int (nar .char (own_sy d10))), (.int (nar .char (own_sy d11))), (.int (nar .char (own_sy d12))), (.int (nar .char (own_sy d13))), (.int (nar .char (own_sy d14))), (.int (nar .char (own_sy d15)))] (.int (0 : Int32)) := (V_131.ext E_136)
  have f_141 : Sta Z h_136 "java/lang/String" "COMPACT_STRINGS" "Z" (.int z) := ((((((((((((((((((PS_java_lang_String_COMPACT_STRINGS.ext E_3).wr W_11).wr W_19).wr W_27).wr W_35).wr W_43).wr W_51).wr W_59).wr W_67).wr W_75).wr W_83).wr W_91).wr W_99).wr W_107).wr W_115).wr W_123).wr W_131).ext E_136)
  have f_142 : n0 ≤ h_136.size := (Nat.le_trans f_138 E_136.1)
  refine Go.special X_136 hx hZ (y := (⟨"java/lang/String", "<init>", "([C)V"⟩ : MethodName)) rfl hown (hw _ (List.mem_of_getElem? (i := 36) rfl)) (hw _ (List.mem_of_getElem? (i := 37) rfl)) (hw _ (List.mem_of_getElem? (i := 38) rfl)) (by decide) e_136 (a := b_136) (argsL := [(.ref b_3)]) (rest := [(.ref b_136)]) (own_newS (W := 1) hZ hw (hw _ (List.mem_of_getElem? (i := 34) rfl)) (cs := ([(nar .char (own_sy d0)), (nar .char (own_sy d1)), (nar .char (own_sy d2)), (nar .char (own_sy d3)), (nar .char (own_sy d4)), (nar .char (own_sy d5)), (nar .char (own_sy d6)), (nar .char (own_sy d7)), (nar .char (own_sy d8)), (nar .char (own_sy d9)), (nar .char (own_sy d10)), (nar .char (own_sy d11)), (nar .char (own_sy d12)), (nar .char (own_sy d13)), (nar .char (own_sy d14)), (nar .char (own_sy d15))] : List Int32)) (n := 16) g_b_136 f_142 A_136 F_value_b_136 F_coder_b_136 f_140 f_141 hz rfl rfl (by decide) (by decide) hp (by decide) (by decide)) (pc := 38) (Ls := #[.val (.ref a1), .val (.ref b_3), .val (.int (16 : Int32))]) (by rw [hml]; rfl) (lenOf own_pd1 rfl) rfl (Nat.le_refl _) (hb hby d4_38) (by decide) (by decide) ?_
  intro T_143 v_143 L_143 X_143 hQ_143
  obtain ⟨t_143, kb_143, rfl, Nq_143, K_143, pf_143_0, pf_143_1, pf_143_2, sz_t_143⟩ := hQ_143
  have N_143 := Fr.app N_131 Nq_143
  have f_144 : Exa Z h_136 a1 "nonet/Grid" := (f_137.ext E_136)
  have f_145 : Arv Z h_136 ad kd .byte (16 : Int32) [(.int d0), (.int d1), (.int d2), (.int d3), (.int d4), (.int d5), (.int d6), (.int d7), (.int d8), (.int d9), (.int d10), (.int d11), (.int d12), (.int d13), (.int d14), (.int d15)] (.int (0 : Int32)) := (f_134.ext E_136)
  have f_146 : Keep h0 h_136 [] := (f_139.ext E_136)
  show Go p e below (FinN s (Q4 Z a1 ad kd d0 d1 d2 d3 d4 d5 d6 d7 d8 d9 d10 d11 d12 d13 d14 d15 z h0 n0) ({ frames := 4, cells := 3, slots := 36, locals := 66 } : Room).cells ({ frames := 4, cells := 3, slots := 36, locals := 66 } : Room).slots) T_143 (mkF m 41 #[.val (.ref a1), .val (.ref b_3), .val (.int (16 : Int32))] [(.ref b_136)])
  have g_t_143 : n0 ≤ t_143 := Nat.le_trans f_142 sz_t_143
  have ne_a1_t_143 : a1 ≠ t_143 := Nat.ne_of_lt (Nat.lt_of_lt_of_le f_144.lt sz_t_143)
  have ne_ad_t_143 : ad ≠ t_143 := Nat.ne_of_lt (Nat.lt_of_lt_of_le f_145.lt sz_t_143)
  have ne_b_3_t_143 : b_3 ≠ t_143 := Nat.ne_of_lt (Nat.lt_of_lt_of_le f_140.lt sz_t_143)
  have ne_b_136_t_143 : b_136 ≠ t_143 := Nat.ne_of_lt (Nat.lt_of_lt_of_le A_136.lt sz_t_143)
  have sz_t_143 : h0.size ≤ t_143 := Nat.le_trans f_146.1 sz_t_143
  refine Go.retA X_143 hx (t := (.object "java/lang/String")) hret hlk rfl rfl (hb hby d4_41) (by decide) (by decide) ?_
  have f_147 : Keep h0 T_143.heap [] := (f_146.trans K_143 (allS (Or.inr sz_b_136) all0))
  have f_148 : Exa Z T_143.heap b_136 "java/lang/String" := (A_136.keep K_143)
  show (Q4 Z a1 ad kd d0 d1 d2 d3 d4 d5 d6 d7 d8 d9 d10 d11 d12 d13 d14 d15 z h0 n0) _ T_143.heap _
  exact ⟨b_136, t_143, kb_143, rfl, N_143, f_147, f_148, pf_143_1, pf_143_0, pf_143_2⟩
theorem own_pd2 : parseMethodDescriptor "(JI)B" = some ⟨[.long, .int], some .byte⟩ := by decide +kernel
def Q13 (Z : State) (x : Addr) (t : Addr) (kb : ClassId) (N : Int32) (cs : List Int32) (z : Int32) (a : Int64) (i : Int32) (j : Nat) (fm : Value) (h0 : Heap) (n0 : Nat) (v : Option Value) (h : Heap) (L : List Loc) : Prop := v = some (.int (1 : Int32)) ∧ Fr n0 L ∧ h = h0
theorem ef_13 (m : MethodId) (x : Addr) (a : Int64) (i : Int32) : entryFrame m #[(.ref x), (.long a), (.int i)] 4 = mkF m 0 #[.val (.ref x), .val (.long a), .second, .val (.int i)] [] := by first | (simp [entryFrame, mkF, argsToLocals, Value.category]; done) | (simp [entryFrame, mkF, argsToLocals, own_cat_i, own_cat_l, own_cat_r, own_cat_n]; done) | rfl
set_option maxRecDepth 65536 in
set_option maxHeartbeats 40000000 in
theorem rm13 (l : Launch) (Z : State) (a0 : Array Value) (hw : ∀ d ∈ tables_1, d.before a0 Z = true) (x : Addr) (t : Addr) (kb : ClassId) (N : Int32) (cs : List Int32) (z : Int32) (a : Int64) (i : Int32) (j : Nat) (fm : Value) (h0 : Heap) (n0 : Nat) (Z0 : n0 ≤ h0.size) (PE_x : Exa Z h0 x "java/lang/String") (PF_x_value : Fld Z h0 x "java/lang/String" "value" "[B" (.ref t)) (PF_x_coder : Fld Z h0 x "java/lang/String" "coder" "B" (.int (0 : Int32))) (PA_t : Arv Z h0 t kb .byte N (own_str cs) (.int (0 : Int32))) (PS_java_lang_String_COMPACT_STRINGS : Sta Z h0 "java/lang/String" "COMPACT_STRINGS" "Z" (.int z)) (PS_jdk_internal_util_Preconditions_SIOOBE_FORMATTER : Sta Z h0 "jdk/internal/util/Preconditions" "SIOOBE_FORMATTER" "Ljava/util/function/BiFunction;" fm) (hz : ¬ z = 0) (rf : fm.isRef = true) (hn : cs.length = 16) (hN : N = Int32.ofNat 16) (hp : ∀ c ∈ cs, ¬ c < 0 ∧ ¬ (255 : Int32) < c) (hi : j < 16) (hj : i = Int32.ofNat j) (he : cs.getD j 0 = own_sym (own_dig a i)) :
    Met1 l Z (⟨"nonet/GridToStringPinLaw", "at", "(Ljava/lang/String;JI)Z"⟩ : MethodName) method_5_code 4 (some .boolean) ({ frames := 4, cells := 0, slots := 0, locals := 53 } : Room) #[(.ref x), (.long a), (.int i)] h0 (Q13 Z x t kb N cs z a i j fm h0 n0) := by
  refine Met1.mk (plainFor_of_name (by first | (simp [plainName, overriddenIn]; done) | decide +kernel)) ?_
  intro p e s m below meth c s₁ hx hZ hby hml hown hnm hret hlk X0 e0
  have N0 := Fr.nil n0
  refine Go.cast (ef_13 m x a i) ?_
  show Go p e below (FinN s (Q13 Z x t kb N cs z a i j fm h0 n0) ({ frames := 4, cells := 0, slots := 0, locals := 53 } : Room).cells ({ frames := 4, cells := 0, slots := 0, locals := 53 } : Room).slots) s₁ (mkF m 0 #[.val (.ref x), .val (.long a), .second, .val (.int i)] [])
  refine Go.to (mkF m 1 #[.val (.ref x), .val (.long a), .second, .val (.int i)] [(.ref x)]) (fun _ k => XS.aloadN X0.here hx rfl (hb hby d13_0) rfl rfl k) ?_
  refine Go.to (mkF m 2 #[.val (.ref x), .val (.long a), .second, .val (.int i)] [(.int i), (.ref x)]) (fun _ k => XS.iloadN X0.here hx rfl (hb hby d13_1) rfl  k) ?_
  refine Go.virt X0 hx hZ (y := (⟨"java/lang/String", "charAt", "(I)C"⟩ : MethodName)) (z := (⟨"java/lang/String", "charAt", "(I)C"⟩ : MethodName)) hown (hw _ (List.mem_of_getElem? (i := 72) rfl)) (hw _ (List.mem_of_getElem? (i := 73) rfl)) (notFace_of_selects (args := #[]) (mvT hZ (hw _ (List.mem_of_getElem? (i := 75) rfl)))) (hw _ (List.mem_of_getElem? (i := 75) rfl)) (hw _ (List.mem_of_getElem? (i := 74) rfl)) (by decide) e0 (a := x) PE_x (argsL := [(.int i)]) (rest := []) (own_chS (W := 0) (n0 := n0) hZ hw (hw _ (List.mem_of_getElem? (i := 34) rfl)) (cs := cs) (i := j) PE_x PF_x_value PF_x_coder PA_t PS_java_lang_String_COMPACT_STRINGS hz PS_jdk_internal_util_Preconditions_SIOOBE_FORMATTER rf hn hN hp (Nat.le_of_ble_eq_true rfl) hi hj (by decide) (by decide)) (pc := 2) (Ls := #[.val (.ref x), .val (.long a), .second, .val (.int i)]) (by rw [hml]; rfl) (lenOf own_pd0 rfl) rfl (Nat.le_refl _) (hb hby d13_2) (by decide) (by decide) ?_
  intro T_1 v_1 L_1 X_1 hQ_1
  obtain ⟨rfl, Nq_1, hh_1⟩ := hQ_1
  have N_1 := Fr.app N0 Nq_1
  show Go p e below (FinN s (Q13 Z x t kb N cs z a i j fm h0 n0) ({ frames := 4, cells := 0, slots := 0, locals := 53 } : Room).cells ({ frames := 4, cells := 0, slots := 0, locals := 53 } : Room).slots) T_1 (mkF m 5 #[.val (.ref x), .val (.long a), .second, .val (.int i)] [(.int ((cs).getD j 0))])
  refine Go.to (mkF m 6 #[.val (.ref x), .val (.long a), .second, .val (.int i)] [(.long a), (.int ((cs).getD j 0))]) (fun _ k => XS.lloadN X_1.here hx rfl (hb hby d13_5) rfl  k) ?_
  refine Go.to (mkF m 7 #[.val (.ref x), .val (.long a), .second, .val (.int i)] [(.int i), (.long a), (.int ((cs).getD j 0))]) (fun _ k => XS.iloadN X_1.here hx rfl (hb hby d13_6) rfl  k) ?_
  refine Go.stat X_1 hx hZ (y := (⟨"nonet/GridToStringPinLaw", "dig", "(JI)B"⟩ : MethodName)) hown (hw _ (List.mem_of_getElem? (i := 1) rfl)) (hw _ (List.mem_of_getElem? (i := 2) rfl)) (hw _ (List.mem_of_getElem? (i := 3) rfl)) (hw _ (List.mem_of_getElem? (i := 4) rfl)) (by decide) hh_1 (argsL := [(.long a), (.int i)]) (rest := [(.int ((cs).getD j 0))]) (Met1.back (W := 1) (rm1 l Z a0 hw a i h0 n0 Z0) hZ (hw _ (List.mem_of_getElem? (i := 4) rfl)) (hw _ (List.mem_of_getElem? (i := 3) rfl)) (by decide) (by decide)) (pc := 7) (Ls := #[.val (.ref x), .val (.long a), .second, .val (.int i)]) (by rw [hml]; rfl) (lenOf own_pd2 rfl) rfl (Nat.le_refl _) (hb hby d13_7) (by decide) (by decide) ?_
  intro T_2 v_2 L_2 X_2 hQ_2
  obtain ⟨rfl, Nq_2, hh_2⟩ := hQ_2
  have N_2 := Fr.app N_1 Nq_2
  show Go p e below (FinN s (Q13 Z x t kb N cs z a i j fm h0 n0) ({ frames := 4, cells := 0, slots := 0, locals := 53 } : Room).cells ({ frames := 4, cells := 0, slots := 0, locals := 53 } : Room).slots) T_2 (mkF m 10 #[.val (.ref x), .val (.long a), .second, .val (.int i)] [(.int (own_dig a i)), (.int ((cs).getD j 0))])
  refine Go.stat X_2 hx hZ (y := (⟨"nonet/GridToStringPinLaw", "sym", "(I)C"⟩ : MethodName)) hown (hw _ (List.mem_of_getElem? (i := 94) rfl)) (hw _ (List.mem_of_getElem? (i := 95) rfl)) (hw _ (List.mem_of_getElem? (i := 3) rfl)) (hw _ (List.mem_of_getElem? (i := 96) rfl)) (by decide) hh_2 (argsL := [(.int (own_dig a i))]) (rest := [(.int ((cs).getD j 0))]) (Met1.back (W := 1) (rm19 l Z a0 hw (own_dig a i) h0 n0 Z0) hZ (hw _ (List.mem_of_getElem? (i := 96) rfl)) (hw _ (List.mem_of_getElem? (i := 3) rfl)) (by decide) (by decide)) (pc := 10) (Ls := #[.val (.ref x), .val (.long a), .second, .val (.int i)]) (by rw [hml]; rfl) (lenOf own_pd0 rfl) rfl (Nat.le_refl _) (hb hby d13_10) (by decide) (by decide) ?_
  intro T_3 v_3 L_3 X_3 hQ_3
  obtain ⟨rfl, Nq_3, hh_3⟩ := hQ_3
  have N_3 := Fr.app N_2 Nq_3
  show Go p e below (FinN s (Q13 Z x t kb N cs z a i j fm h0 n0) ({ frames := 4, cells := 0, slots := 0, locals := 53 } : Room).cells ({ frames := 4, cells := 0, slots := 0, locals := 53 } : Room).slots) T_3 (mkF m 13 #[.val (.ref x), .val (.long a), .second, .val (.int i)] [(.int (own_sym (own_dig a i))), (.int ((cs).getD j 0))])
  refine Go.to (mkF m 16 #[.val (.ref x), .val (.long a), .second, .val (.int i)] []) (fun _ k => XS.icmpNo X_3.here hx rfl (hb hby d13_13) rfl (teq he).2 k) ?_
  refine Go.to (mkF m 17 #[.val (.ref x), .val (.long a), .second, .val (.int i)] [(.int (1 : Int32))]) (fun _ k => XS.iconst X_3.here hx rfl (hb hby d13_16) k) ?_
  refine Go.to (mkF m 21 #[.val (.ref x), .val (.long a), .second, .val (.int i)] [(.int (1 : Int32))]) (fun _ k => XS.goto X_3.here hx rfl (pc0 := 17) (pc' := 21) rfl (hb hby d13_17) (by decide) (by decide) k) ?_
  refine Go.retN X_3 hx (t := .boolean) hret hlk (by simp) (hb hby d13_21) (by decide) (by decide) (z' := (1 : Int32)) rfl ?_
  show (Q13 Z x t kb N cs z a i j fm h0 n0) _ T_3.heap _
  rw [hh_3]
  exact ⟨rfl, N_3, rfl⟩
theorem own_pd3 : parseMethodDescriptor "(Lnonet/Size;[B)V" = some ⟨[(.object "nonet/Size"), (.array .byte)], none⟩ := by decide +kernel
theorem own_pd4 : parseMethodDescriptor "()Ljava/lang/String;" = some ⟨[], some (.object "java/lang/String")⟩ := by decide +kernel
theorem own_pd5 : parseMethodDescriptor "()I" = some ⟨[], some .int⟩ := by decide +kernel
theorem own_pd6 : parseMethodDescriptor "(Ljava/lang/String;JI)Z" = some ⟨[(.object "java/lang/String"), .long, .int], some .boolean⟩ := by decide +kernel
def Q0 (Z : State) (p1 : Int64) (w4 : Addr) (z : Int32) (fm : Value) (h0 : Heap) (n0 : Nat) (v : Option Value) (h : Heap) (L : List Loc) : Prop := v = some (.int (1 : Int32)) ∧ Fr n0 L ∧ Keep h0 h []
theorem ef_0 (m : MethodId) (p1 : Int64) : entryFrame m #[(.long p1)] maxLocals = mkF m 0 #[.val (.long p1), .second, .unset, .unset, .unset] [] := by first | (simp [entryFrame, mkF, argsToLocals, Value.category, maxLocals]; done) | (simp [entryFrame, mkF, argsToLocals, own_cat_i, own_cat_l, own_cat_r, own_cat_n, maxLocals]; done) | rfl
set_option maxRecDepth 65536 in
set_option maxHeartbeats 40000000 in
theorem rm0 (l : Launch) (Z : State) (a0 : Array Value) (hw : ∀ d ∈ tables_1, d.before a0 Z = true) (p1 : Int64) (w4 : Addr) (z : Int32) (fm : Value) (h0 : Heap) (n0 : Nat) (Z0 : n0 ≤ h0.size) (PS_nonet_Size_FOUR : Sta Z h0 "nonet/Size" "FOUR" "Lnonet/Size;" (.ref w4)) (PE_w4 : Exa Z h0 w4 "nonet/Size") (PS_java_lang_String_COMPACT_STRINGS : Sta Z h0 "java/lang/String" "COMPACT_STRINGS" "Z" (.int z)) (PS_jdk_internal_util_Preconditions_SIOOBE_FORMATTER : Sta Z h0 "jdk/internal/util/Preconditions" "SIOOBE_FORMATTER" "Ljava/util/function/BiFunction;" fm) (hz : ¬ z = 0) (rf : fm.isRef = true) :
    Met1 l Z x code maxLocals ret room_1 #[(.long p1)] h0 (Q0 Z p1 w4 z fm h0 n0) := by
  refine Met1.mk (plainFor_of_name (by first | (simp [plainName, overriddenIn]; done) | decide +kernel)) ?_
  intro p e s m below meth c s₁ hx hZ hby hml hown hnm hret hlk X0 e0
  have hml : c.maxLocals = 5 := hml
  have hret : meth.sig.returnType = some .boolean := hret
  have N0 := Fr.nil n0
  refine Go.cast (ef_0 m p1) ?_
  show Go p e below (FinN s (Q0 Z p1 w4 z fm h0 n0) room_1.cells room_1.slots) s₁ (mkF m 0 #[.val (.long p1), .second, .unset, .unset, .unset] [])
  refine Go.to (mkF m 2 #[.val (.long p1), .second, .unset, .unset, .unset] [(.int (16 : Int32))]) (fun _ k => XS.bipush X0.here hx rfl (hb hby at_0) k) ?_
  obtain ⟨T_1, h_1, k_1, X_1, e_1, E_1, A_1, st_1⟩ := newP X0 hx hZ (hw _ (List.mem_of_getElem? (i := 0) rfl)) e0 (g := (mkF m 2 #[.val (.long p1), .second, .unset, .unset, .unset] [(.int (16 : Int32))])) rfl (hb hby at_2) rfl (by decide) (cap := 16) (by decide) (by decide) (by decide) (by decide)
  obtain ⟨b_1, g_1⟩ : ∃ z, z = h0.size := ⟨_, rfl⟩
  rw [← g_1] at A_1 st_1
  have g_b_1 : n0 ≤ b_1 := Nat.le_trans Z0 (Nat.le_of_eq g_1.symm)
  have sz_b_1 : h0.size ≤ b_1 := Nat.le_trans (Keep.refl h0 []).1 (Nat.le_of_eq g_1.symm)
  have ne_w4_b_1 : w4 ≠ b_1 := Nat.ne_of_lt (Nat.lt_of_lt_of_le PE_w4.lt (Nat.le_of_eq g_1.symm))
  have V_b_1 : Arv Z h_1 b_1 k_1 .byte (16 : Int32) [(.int (0 : Int32)), (.int (0 : Int32)), (.int (0 : Int32)), (.int (0 : Int32)), (.int (0 : Int32)), (.int (0 : Int32)), (.int (0 : Int32)), (.int (0 : Int32)), (.int (0 : Int32)), (.int (0 : Int32)), (.int (0 : Int32)), (.int (0 : Int32)), (.int (0 : Int32)), (.int (0 : Int32)), (.int (0 : Int32)), (.int (0 : Int32))] (.int (0 : Int32)) := (Arv.new A_1 (by decide)).pad (pad_rep [] (.int (0 : Int32)) 16)
  refine Go.to (mkF m 4 #[.val (.long p1), .second, .unset, .unset, .unset] [(.ref b_1)]) st_1 ?_
  refine Go.to (mkF m 5 #[.val (.long p1), .second, .val (.ref b_1), .unset, .unset] []) (fun _ k => XS.astoreN X_1.here hx rfl (hb hby at_4) rfl rfl (l' := #[.val (.long p1), .second, .val (.ref b_1), .unset, .unset]) rfl k) ?_
  refine Go.to (mkF m 6 #[.val (.long p1), .second, .val (.ref b_1), .unset, .unset] [(.ref b_1)]) (fun _ k => XS.aloadN X_1.here hx rfl (hb hby at_5) rfl rfl k) ?_
  refine Go.to (mkF m 7 #[.val (.long p1), .second, .val (.ref b_1), .unset, .unset] [(.int (0 : Int32)), (.ref b_1)]) (fun _ k => XS.iconst X_1.here hx rfl (hb hby at_6) k) ?_
  refine Go.to (mkF m 8 #[.val (.long p1), .second, .val (.ref b_1), .unset, .unset] [(.long p1), (.int (0 : Int32)), (.ref b_1)]) (fun _ k => XS.lloadN X_1.here hx rfl (hb hby at_7) rfl  k) ?_
  refine Go.to (mkF m 9 #[.val (.long p1), .second, .val (.ref b_1), .unset, .unset] [(.int (0 : Int32)), (.long p1), (.int (0 : Int32)), (.ref b_1)]) (fun _ k => XS.iconst X_1.here hx rfl (hb hby at_8) k) ?_
  have f_2 : n0 ≤ h_1.size := (Nat.le_trans Z0 E_1.1)
  refine Go.stat X_1 hx hZ (y := (⟨"nonet/GridToStringPinLaw", "dig", "(JI)B"⟩ : MethodName)) hown (hw _ (List.mem_of_getElem? (i := 1) rfl)) (hw _ (List.mem_of_getElem? (i := 2) rfl)) (hw _ (List.mem_of_getElem? (i := 3) rfl)) (hw _ (List.mem_of_getElem? (i := 4) rfl)) (by decide) e_1 (argsL := [(.long p1), (.int (0 : Int32))]) (rest := [(.int (0 : Int32)), (.ref b_1)]) (Met1.back (W := 2) (rm1 l Z a0 hw p1 (0 : Int32) h_1 n0 f_2) hZ (hw _ (List.mem_of_getElem? (i := 4) rfl)) (hw _ (List.mem_of_getElem? (i := 3) rfl)) (by decide) (by decide)) (pc := 9) (Ls := #[.val (.long p1), .second, .val (.ref b_1), .unset, .unset]) (by rw [hml]; rfl) (lenOf own_pd2 rfl) rfl (Nat.le_refl _) (hb hby at_9) (by decide) (by decide) ?_
  intro T_3 v_3 L_3 X_3 hQ_3
  obtain ⟨rfl, Nq_3, hh_3⟩ := hQ_3
  have N_3 := Fr.app N0 Nq_3
  show Go p e below (FinN s (Q0 Z p1 w4 z fm h0 n0) room_1.cells room_1.slots) T_3 (mkF m 12 #[.val (.long p1), .second, .val (.ref b_1), .unset, .unset] [(.int (own_dig p1 (0 : Int32))), (.int (0 : Int32)), (.ref b_1)])
  obtain ⟨cl_4, Ar_4, q_4, Sz_4, Ng_4, Hh_4, Gg_4⟩ := id V_b_1
  have hin_4 : ¬ ((0 : Int32) < 0 ∨ cl_4.slots.size ≤ ((0 : Int32)).toNatClampNeg) := inb_of Sz_4 ⟨by decide, by decide⟩
  obtain ⟨T_4, h_4, X_4, e_4, W_4, st_4⟩ := stB X_3 hx hZ hh_3 Ar_4 (j := (0 : Int32)) hin_4 (g := (mkF m 12 #[.val (.long p1), .second, .val (.ref b_1), .unset, .unset] [(.int (own_dig p1 (0 : Int32))), (.int (0 : Int32)), (.ref b_1)])) rfl rfl (hb hby at_12)
  have N_4 := Fr.snoc X_4 N_3 g_b_1
  have V_4 : Arv Z h_4 b_1 k_1 .byte (16 : Int32) [(.int (nar .byte (own_dig p1 (0 : Int32)))), (.int (0 : Int32)), (.int (0 : Int32)), (.int (0 : Int32)), (.int (0 : Int32)), (.int (0 : Int32)), (.int (0 : Int32)), (.int (0 : Int32)), (.int (0 : Int32)), (.int (0 : Int32)), (.int (0 : Int32)), (.int (0 : Int32)), (.int (0 : Int32)), (.int (0 : Int32)), (.int (0 : Int32)), (.int (0 : Int32))] (.int (0 : Int32)) := Arv.set Ar_4 q_4 Sz_4 Ng_4 Hh_4 Gg_4 (fits_nar_byte _) W_4 0 rfl (Nat.le_of_ble_eq_true rfl)
  refine Go.to (mkF m 13 #[.val (.long p1), .second, .val (.ref b_1), .unset, .unset] []) st_4 ?_
  refine Go.to (mkF m 14 #[.val (.long p1), .second, .val (.ref b_1), .unset, .unset] [(.ref b_1)]) (fun _ k => XS.aloadN X_4.here hx rfl (hb hby at_13) rfl rfl k) ?_
  refine Go.to (mkF m 15 #[.val (.long p1), .second, .val (.ref b_1), .unset, .unset] [(.int (1 : Int32)), (.ref b_1)]) (fun _ k => XS.iconst X_4.here hx rfl (hb hby at_14) k) ?_
  refine Go.to (mkF m 16 #[.val (.long p1), .second, .val (.ref b_1), .unset, .unset] [(.long p1), (.int (1 : Int32)), (.ref b_1)]) (fun _ k => XS.lloadN X_4.here hx rfl (hb hby at_15) rfl  k) ?_
  refine Go.to (mkF m 17 #[.val (.long p1), .second, .val (.ref b_1), .unset, .unset] [(.int (1 : Int32)), (.long p1), (.int (1 : Int32)), (.ref b_1)]) (fun _ k => XS.iconst X_4.here hx rfl (hb hby at_16) k) ?_
  have f_5 : n0 ≤ h_4.size := (Nat.le_trans f_2 (Keep.of_wr W_4).1)
  refine Go.stat X_4 hx hZ (y := (⟨"nonet/GridToStringPinLaw", "dig", "(JI)B"⟩ : MethodName)) hown (hw _ (List.mem_of_getElem? (i := 1) rfl)) (hw _ (List.mem_of_getElem? (i := 2) rfl)) (hw _ (List.mem_of_getElem? (i := 3) rfl)) (hw _ (List.mem_of_getElem? (i := 4) rfl)) (by decide) e_4 (argsL := [(.long p1), (.int (1 : Int32))]) (rest := [(.int (1 : Int32)), (.ref b_1)]) (Met1.back (W := 2) (rm1 l Z a0 hw p1 (1 : Int32) h_4 n0 f_5) hZ (hw _ (List.mem_of_getElem? (i := 4) rfl)) (hw _ (List.mem_of_getElem? (i := 3) rfl)) (by decide) (by decide)) (pc := 17) (Ls := #[.val (.long p1), .second, .val (.ref b_1), .unset, .unset]) (by rw [hml]; rfl) (lenOf own_pd2 rfl) rfl (Nat.le_refl _) (hb hby at_17) (by decide) (by decide) ?_
  intro T_6 v_6 L_6 X_6 hQ_6
  obtain ⟨rfl, Nq_6, hh_6⟩ := hQ_6
  have N_6 := Fr.app N_4 Nq_6
  show Go p e below (FinN s (Q0 Z p1 w4 z fm h0 n0) room_1.cells room_1.slots) T_6 (mkF m 20 #[.val (.long p1), .second, .val (.ref b_1), .unset, .unset] [(.int (own_dig p1 (1 : Int32))), (.int (1 : Int32)), (.ref b_1)])
  obtain ⟨cl_7, Ar_7, q_7, Sz_7, Ng_7, Hh_7, Gg_7⟩ := id V_4
  have hin_7 : ¬ ((1 : Int32) < 0 ∨ cl_7.slots.size ≤ ((1 : Int32)).toNatClampNeg) := inb_of Sz_7 ⟨by decide, by decide⟩
  obtain ⟨T_7, h_7, X_7, e_7, W_7, st_7⟩ := stB X_6 hx hZ hh_6 Ar_7 (j := (1 : Int32)) hin_7 (g := (mkF m 20 #[.val (.long p1), .second, .val (.ref b_1), .unset, .unset] [(.int (own_dig p1 (1 : Int32))), (.int (1 : Int32)), (.ref b_1)])) rfl rfl (hb hby at_20)
  have N_7 := Fr.snoc X_7 N_6 g_b_1
  have V_7 : Arv Z h_7 b_1 k_1 .byte (16 : Int32) [(.int (nar .byte (own_dig p1 (0 : Int32)))), (.int (nar .byte (own_dig p1 (1 : Int32)))), (.int (0 : Int32)), (.int (0 : Int32)), (.int (0 : Int32)), (.int (0 : Int32)), (.int (0 : Int32)), (.int (0 : Int32)), (.int (0 : Int32)), (.int (0 : Int32)), (.int (0 : Int32)), (.int (0 : Int32)), (.int (0 : Int32)), (.int (0 : Int32)), (.int (0 : Int32)), (.int (0 : Int32))] (.int (0 : Int32)) := Arv.set Ar_7 q_7 Sz_7 Ng_7 Hh_7 Gg_7 (fits_nar_byte _) W_7 1 rfl (Nat.le_of_ble_eq_true rfl)
  refine Go.to (mkF m 21 #[.val (.long p1), .second, .val (.ref b_1), .unset, .unset] []) st_7 ?_
  refine Go.to (mkF m 22 #[.val (.long p1), .second, .val (.ref b_1), .unset, .unset] [(.ref b_1)]) (fun _ k => XS.aloadN X_7.here hx rfl (hb hby at_21) rfl rfl k) ?_
  refine Go.to (mkF m 23 #[.val (.long p1), .second, .val (.ref b_1), .unset, .unset] [(.int (2 : Int32)), (.ref b_1)]) (fun _ k => XS.iconst X_7.here hx rfl (hb hby at_22) k) ?_
  refine Go.to (mkF m 24 #[.val (.long p1), .second, .val (.ref b_1), .unset, .unset] [(.long p1), (.int (2 : Int32)), (.ref b_1)]) (fun _ k => XS.lloadN X_7.here hx rfl (hb hby at_23) rfl  k) ?_
  refine Go.to (mkF m 25 #[.val (.long p1), .second, .val (.ref b_1), .unset, .unset] [(.int (2 : Int32)), (.long p1), (.int (2 : Int32)), (.ref b_1)]) (fun _ k => XS.iconst X_7.here hx rfl (hb hby at_24) k) ?_
  have f_8 : n0 ≤ h_7.size := (Nat.le_trans f_5 (Keep.of_wr W_7).1)
  refine Go.stat X_7 hx hZ (y := (⟨"nonet/GridToStringPinLaw", "dig", "(JI)B"⟩ : MethodName)) hown (hw _ (List.mem_of_getElem? (i := 1) rfl)) (hw _ (List.mem_of_getElem? (i := 2) rfl)) (hw _ (List.mem_of_getElem? (i := 3) rfl)) (hw _ (List.mem_of_getElem? (i := 4) rfl)) (by decide) e_7 (argsL := [(.long p1), (.int (2 : Int32))]) (rest := [(.int (2 : Int32)), (.ref b_1)]) (Met1.back (W := 2) (rm1 l Z a0 hw p1 (2 : Int32) h_7 n0 f_8) hZ (hw _ (List.mem_of_getElem? (i := 4) rfl)) (hw _ (List.mem_of_getElem? (i := 3) rfl)) (by decide) (by decide)) (pc := 25) (Ls := #[.val (.long p1), .second, .val (.ref b_1), .unset, .unset]) (by rw [hml]; rfl) (lenOf own_pd2 rfl) rfl (Nat.le_refl _) (hb hby at_25) (by decide) (by decide) ?_
  intro T_9 v_9 L_9 X_9 hQ_9
  obtain ⟨rfl, Nq_9, hh_9⟩ := hQ_9
  have N_9 := Fr.app N_7 Nq_9
  show Go p e below (FinN s (Q0 Z p1 w4 z fm h0 n0) room_1.cells room_1.slots) T_9 (mkF m 28 #[.val (.long p1), .second, .val (.ref b_1), .unset, .unset] [(.int (own_dig p1 (2 : Int32))), (.int (2 : Int32)), (.ref b_1)])
  obtain ⟨cl_10, Ar_10, q_10, Sz_10, Ng_10, Hh_10, Gg_10⟩ := id V_7
  have hin_10 : ¬ ((2 : Int32) < 0 ∨ cl_10.slots.size ≤ ((2 : Int32)).toNatClampNeg) := inb_of Sz_10 ⟨by decide, by decide⟩
  obtain ⟨T_10, h_10, X_10, e_10, W_10, st_10⟩ := stB X_9 hx hZ hh_9 Ar_10 (j := (2 : Int32)) hin_10 (g := (mkF m 28 #[.val (.long p1), .second, .val (.ref b_1), .unset, .unset] [(.int (own_dig p1 (2 : Int32))), (.int (2 : Int32)), (.ref b_1)])) rfl rfl (hb hby at_28)
  have N_10 := Fr.snoc X_10 N_9 g_b_1
  have V_10 : Arv Z h_10 b_1 k_1 .byte (16 : Int32) [(.int (nar .byte (own_dig p1 (0 : Int32)))), (.int (nar .byte (own_dig p1 (1 : Int32)))), (.int (nar .byte (own_dig p1 (2 : Int32)))), (.int (0 : Int32)), (.int (0 : Int32)), (.int (0 : Int32)), (.int (0 : Int32)), (.int (0 : Int32)), (.int (0 : Int32)), (.int (0 : Int32)), (.int (0 : Int32)), (.int (0 : Int32)), (.int (0 : Int32)), (.int (0 : Int32)), (.int (0 : Int32)), (.int (0 : Int32))] (.int (0 : Int32)) := Arv.set Ar_10 q_10 Sz_10 Ng_10 Hh_10 Gg_10 (fits_nar_byte _) W_10 2 rfl (Nat.le_of_ble_eq_true rfl)
  refine Go.to (mkF m 29 #[.val (.long p1), .second, .val (.ref b_1), .unset, .unset] []) st_10 ?_
  refine Go.to (mkF m 30 #[.val (.long p1), .second, .val (.ref b_1), .unset, .unset] [(.ref b_1)]) (fun _ k => XS.aloadN X_10.here hx rfl (hb hby at_29) rfl rfl k) ?_
  refine Go.to (mkF m 31 #[.val (.long p1), .second, .val (.ref b_1), .unset, .unset] [(.int (3 : Int32)), (.ref b_1)]) (fun _ k => XS.iconst X_10.here hx rfl (hb hby at_30) k) ?_
  refine Go.to (mkF m 32 #[.val (.long p1), .second, .val (.ref b_1), .unset, .unset] [(.long p1), (.int (3 : Int32)), (.ref b_1)]) (fun _ k => XS.lloadN X_10.here hx rfl (hb hby at_31) rfl  k) ?_
  refine Go.to (mkF m 33 #[.val (.long p1), .second, .val (.ref b_1), .unset, .unset] [(.int (3 : Int32)), (.long p1), (.int (3 : Int32)), (.ref b_1)]) (fun _ k => XS.iconst X_10.here hx rfl (hb hby at_32) k) ?_
  have f_11 : n0 ≤ h_10.size := (Nat.le_trans f_8 (Keep.of_wr W_10).1)
  refine Go.stat X_10 hx hZ (y := (⟨"nonet/GridToStringPinLaw", "dig", "(JI)B"⟩ : MethodName)) hown (hw _ (List.mem_of_getElem? (i := 1) rfl)) (hw _ (List.mem_of_getElem? (i := 2) rfl)) (hw _ (List.mem_of_getElem? (i := 3) rfl)) (hw _ (List.mem_of_getElem? (i := 4) rfl)) (by decide) e_10 (argsL := [(.long p1), (.int (3 : Int32))]) (rest := [(.int (3 : Int32)), (.ref b_1)]) (Met1.back (W := 2) (rm1 l Z a0 hw p1 (3 : Int32) h_10 n0 f_11) hZ (hw _ (List.mem_of_getElem? (i := 4) rfl)) (hw _ (List.mem_of_getElem? (i := 3) rfl)) (by decide) (by decide)) (pc := 33) (Ls := #[.val (.long p1), .second, .val (.ref b_1), .unset, .unset]) (by rw [hml]; rfl) (lenOf own_pd2 rfl) rfl (Nat.le_refl _) (hb hby at_33) (by decide) (by decide) ?_
  intro T_12 v_12 L_12 X_12 hQ_12
  obtain ⟨rfl, Nq_12, hh_12⟩ := hQ_12
  have N_12 := Fr.app N_10 Nq_12
  show Go p e below (FinN s (Q0 Z p1 w4 z fm h0 n0) room_1.cells room_1.slots) T_12 (mkF m 36 #[.val (.long p1), .second, .val (.ref b_1), .unset, .unset] [(.int (own_dig p1 (3 : Int32))), (.int (3 : Int32)), (.ref b_1)])
  obtain ⟨cl_13, Ar_13, q_13, Sz_13, Ng_13, Hh_13, Gg_13⟩ := id V_10
  have hin_13 : ¬ ((3 : Int32) < 0 ∨ cl_13.slots.size ≤ ((3 : Int32)).toNatClampNeg) := inb_of Sz_13 ⟨by decide, by decide⟩
  obtain ⟨T_13, h_13, X_13, e_13, W_13, st_13⟩ := stB X_12 hx hZ hh_12 Ar_13 (j := (3 : Int32)) hin_13 (g := (mkF m 36 #[.val (.long p1), .second, .val (.ref b_1), .unset, .unset] [(.int (own_dig p1 (3 : Int32))), (.int (3 : Int32)), (.ref b_1)])) rfl rfl (hb hby at_36)
  have N_13 := Fr.snoc X_13 N_12 g_b_1
  have V_13 : Arv Z h_13 b_1 k_1 .byte (16 : Int32) [(.int (nar .byte (own_dig p1 (0 : Int32)))), (.int (nar .byte (own_dig p1 (1 : Int32)))), (.int (nar .byte (own_dig p1 (2 : Int32)))), (.int (nar .byte (own_dig p1 (3 : Int32)))), (.int (0 : Int32)), (.int (0 : Int32)), (.int (0 : Int32)), (.int (0 : Int32)), (.int (0 : Int32)), (.int (0 : Int32)), (.int (0 : Int32)), (.int (0 : Int32)), (.int (0 : Int32)), (.int (0 : Int32)), (.int (0 : Int32)), (.int (0 : Int32))] (.int (0 : Int32)) := Arv.set Ar_13 q_13 Sz_13 Ng_13 Hh_13 Gg_13 (fits_nar_byte _) W_13 3 rfl (Nat.le_of_ble_eq_true rfl)
  refine Go.to (mkF m 37 #[.val (.long p1), .second, .val (.ref b_1), .unset, .unset] []) st_13 ?_
  refine Go.to (mkF m 38 #[.val (.long p1), .second, .val (.ref b_1), .unset, .unset] [(.ref b_1)]) (fun _ k => XS.aloadN X_13.here hx rfl (hb hby at_37) rfl rfl k) ?_
  refine Go.to (mkF m 39 #[.val (.long p1), .second, .val (.ref b_1), .unset, .unset] [(.int (4 : Int32)), (.ref b_1)]) (fun _ k => XS.iconst X_13.here hx rfl (hb hby at_38) k) ?_
  refine Go.to (mkF m 40 #[.val (.long p1), .second, .val (.ref b_1), .unset, .unset] [(.long p1), (.int (4 : Int32)), (.ref b_1)]) (fun _ k => XS.lloadN X_13.here hx rfl (hb hby at_39) rfl  k) ?_
  refine Go.to (mkF m 41 #[.val (.long p1), .second, .val (.ref b_1), .unset, .unset] [(.int (4 : Int32)), (.long p1), (.int (4 : Int32)), (.ref b_1)]) (fun _ k => XS.iconst X_13.here hx rfl (hb hby at_40) k) ?_
  have f_14 : n0 ≤ h_13.size := (Nat.le_trans f_11 (Keep.of_wr W_13).1)
  refine Go.stat X_13 hx hZ (y := (⟨"nonet/GridToStringPinLaw", "dig", "(JI)B"⟩ : MethodName)) hown (hw _ (List.mem_of_getElem? (i := 1) rfl)) (hw _ (List.mem_of_getElem? (i := 2) rfl)) (hw _ (List.mem_of_getElem? (i := 3) rfl)) (hw _ (List.mem_of_getElem? (i := 4) rfl)) (by decide) e_13 (argsL := [(.long p1), (.int (4 : Int32))]) (rest := [(.int (4 : Int32)), (.ref b_1)]) (Met1.back (W := 2) (rm1 l Z a0 hw p1 (4 : Int32) h_13 n0 f_14) hZ (hw _ (List.mem_of_getElem? (i := 4) rfl)) (hw _ (List.mem_of_getElem? (i := 3) rfl)) (by decide) (by decide)) (pc := 41) (Ls := #[.val (.long p1), .second, .val (.ref b_1), .unset, .unset]) (by rw [hml]; rfl) (lenOf own_pd2 rfl) rfl (Nat.le_refl _) (hb hby at_41) (by decide) (by decide) ?_
  intro T_15 v_15 L_15 X_15 hQ_15
  obtain ⟨rfl, Nq_15, hh_15⟩ := hQ_15
  have N_15 := Fr.app N_13 Nq_15
  show Go p e below (FinN s (Q0 Z p1 w4 z fm h0 n0) room_1.cells room_1.slots) T_15 (mkF m 44 #[.val (.long p1), .second, .val (.ref b_1), .unset, .unset] [(.int (own_dig p1 (4 : Int32))), (.int (4 : Int32)), (.ref b_1)])
  obtain ⟨cl_16, Ar_16, q_16, Sz_16, Ng_16, Hh_16, Gg_16⟩ := id V_13
  have hin_16 : ¬ ((4 : Int32) < 0 ∨ cl_16.slots.size ≤ ((4 : Int32)).toNatClampNeg) := inb_of Sz_16 ⟨by decide, by decide⟩
  obtain ⟨T_16, h_16, X_16, e_16, W_16, st_16⟩ := stB X_15 hx hZ hh_15 Ar_16 (j := (4 : Int32)) hin_16 (g := (mkF m 44 #[.val (.long p1), .second, .val (.ref b_1), .unset, .unset] [(.int (own_dig p1 (4 : Int32))), (.int (4 : Int32)), (.ref b_1)])) rfl rfl (hb hby at_44)
  have N_16 := Fr.snoc X_16 N_15 g_b_1
  have V_16 : Arv Z h_16 b_1 k_1 .byte (16 : Int32) [(.int (nar .byte (own_dig p1 (0 : Int32)))), (.int (nar .byte (own_dig p1 (1 : Int32)))), (.int (nar .byte (own_dig p1 (2 : Int32)))), (.int (nar .byte (own_dig p1 (3 : Int32)))), (.int (nar .byte (own_dig p1 (4 : Int32)))), (.int (0 : Int32)), (.int (0 : Int32)), (.int (0 : Int32)), (.int (0 : Int32)), (.int (0 : Int32)), (.int (0 : Int32)), (.int (0 : Int32)), (.int (0 : Int32)), (.int (0 : Int32)), (.int (0 : Int32)), (.int (0 : Int32))] (.int (0 : Int32)) := Arv.set Ar_16 q_16 Sz_16 Ng_16 Hh_16 Gg_16 (fits_nar_byte _) W_16 4 rfl (Nat.le_of_ble_eq_true rfl)
  refine Go.to (mkF m 45 #[.val (.long p1), .second, .val (.ref b_1), .unset, .unset] []) st_16 ?_
  refine Go.to (mkF m 46 #[.val (.long p1), .second, .val (.ref b_1), .unset, .unset] [(.ref b_1)]) (fun _ k => XS.aloadN X_16.here hx rfl (hb hby at_45) rfl rfl k) ?_
  refine Go.to (mkF m 47 #[.val (.long p1), .second, .val (.ref b_1), .unset, .unset] [(.int (5 : Int32)), (.ref b_1)]) (fun _ k => XS.iconst X_16.here hx rfl (hb hby at_46) k) ?_
  refine Go.to (mkF m 48 #[.val (.long p1), .second, .val (.ref b_1), .unset, .unset] [(.long p1), (.int (5 : Int32)), (.ref b_1)]) (fun _ k => XS.lloadN X_16.here hx rfl (hb hby at_47) rfl  k) ?_
  refine Go.to (mkF m 49 #[.val (.long p1), .second, .val (.ref b_1), .unset, .unset] [(.int (5 : Int32)), (.long p1), (.int (5 : Int32)), (.ref b_1)]) (fun _ k => XS.iconst X_16.here hx rfl (hb hby at_48) k) ?_
  have f_17 : n0 ≤ h_16.size := (Nat.le_trans f_14 (Keep.of_wr W_16).1)
  refine Go.stat X_16 hx hZ (y := (⟨"nonet/GridToStringPinLaw", "dig", "(JI)B"⟩ : MethodName)) hown (hw _ (List.mem_of_getElem? (i := 1) rfl)) (hw _ (List.mem_of_getElem? (i := 2) rfl)) (hw _ (List.mem_of_getElem? (i := 3) rfl)) (hw _ (List.mem_of_getElem? (i := 4) rfl)) (by decide) e_16 (argsL := [(.long p1), (.int (5 : Int32))]) (rest := [(.int (5 : Int32)), (.ref b_1)]) (Met1.back (W := 2) (rm1 l Z a0 hw p1 (5 : Int32) h_16 n0 f_17) hZ (hw _ (List.mem_of_getElem? (i := 4) rfl)) (hw _ (List.mem_of_getElem? (i := 3) rfl)) (by decide) (by decide)) (pc := 49) (Ls := #[.val (.long p1), .second, .val (.ref b_1), .unset, .unset]) (by rw [hml]; rfl) (lenOf own_pd2 rfl) rfl (Nat.le_refl _) (hb hby at_49) (by decide) (by decide) ?_
  intro T_18 v_18 L_18 X_18 hQ_18
  obtain ⟨rfl, Nq_18, hh_18⟩ := hQ_18
  have N_18 := Fr.app N_16 Nq_18
  show Go p e below (FinN s (Q0 Z p1 w4 z fm h0 n0) room_1.cells room_1.slots) T_18 (mkF m 52 #[.val (.long p1), .second, .val (.ref b_1), .unset, .unset] [(.int (own_dig p1 (5 : Int32))), (.int (5 : Int32)), (.ref b_1)])
  obtain ⟨cl_19, Ar_19, q_19, Sz_19, Ng_19, Hh_19, Gg_19⟩ := id V_16
  have hin_19 : ¬ ((5 : Int32) < 0 ∨ cl_19.slots.size ≤ ((5 : Int32)).toNatClampNeg) := inb_of Sz_19 ⟨by decide, by decide⟩
  obtain ⟨T_19, h_19, X_19, e_19, W_19, st_19⟩ := stB X_18 hx hZ hh_18 Ar_19 (j := (5 : Int32)) hin_19 (g := (mkF m 52 #[.val (.long p1), .second, .val (.ref b_1), .unset, .unset] [(.int (own_dig p1 (5 : Int32))), (.int (5 : Int32)), (.ref b_1)])) rfl rfl (hb hby at_52)
  have N_19 := Fr.snoc X_19 N_18 g_b_1
  have V_19 : Arv Z h_19 b_1 k_1 .byte (16 : Int32) [(.int (nar .byte (own_dig p1 (0 : Int32)))), (.int (nar .byte (own_dig p1 (1 : Int32)))), (.int (nar .byte (own_dig p1 (2 : Int32)))), (.int (nar .byte (own_dig p1 (3 : Int32)))), (.int (nar .byte (own_dig p1 (4 : Int32)))), (.int (nar .byte (own_dig p1 (5 : Int32)))), (.int (0 : Int32)), (.int (0 : Int32)), (.int (0 : Int32)), (.int (0 : Int32)), (.int (0 : Int32)), (.int (0 : Int32)), (.int (0 : Int32)), (.int (0 : Int32)), (.int (0 : Int32)), (.int (0 : Int32))] (.int (0 : Int32)) := Arv.set Ar_19 q_19 Sz_19 Ng_19 Hh_19 Gg_19 (fits_nar_byte _) W_19 5 rfl (Nat.le_of_ble_eq_true rfl)
  refine Go.to (mkF m 53 #[.val (.long p1), .second, .val (.ref b_1), .unset, .unset] []) st_19 ?_
  refine Go.to (mkF m 54 #[.val (.long p1), .second, .val (.ref b_1), .unset, .unset] [(.ref b_1)]) (fun _ k => XS.aloadN X_19.here hx rfl (hb hby at_53) rfl rfl k) ?_
  refine Go.to (mkF m 56 #[.val (.long p1), .second, .val (.ref b_1), .unset, .unset] [(.int (6 : Int32)), (.ref b_1)]) (fun _ k => XS.bipush X_19.here hx rfl (hb hby at_54) k) ?_
  refine Go.to (mkF m 57 #[.val (.long p1), .second, .val (.ref b_1), .unset, .unset] [(.long p1), (.int (6 : Int32)), (.ref b_1)]) (fun _ k => XS.lloadN X_19.here hx rfl (hb hby at_56) rfl  k) ?_
  refine Go.to (mkF m 59 #[.val (.long p1), .second, .val (.ref b_1), .unset, .unset] [(.int (6 : Int32)), (.long p1), (.int (6 : Int32)), (.ref b_1)]) (fun _ k => XS.bipush X_19.here hx rfl (hb hby at_57) k) ?_
  have f_20 : n0 ≤ h_19.size := (Nat.le_trans f_17 (Keep.of_wr W_19).1)
  refine Go.stat X_19 hx hZ (y := (⟨"nonet/GridToStringPinLaw", "dig", "(JI)B"⟩ : MethodName)) hown (hw _ (List.mem_of_getElem? (i := 1) rfl)) (hw _ (List.mem_of_getElem? (i := 2) rfl)) (hw _ (List.mem_of_getElem? (i := 3) rfl)) (hw _ (List.mem_of_getElem? (i := 4) rfl)) (by decide) e_19 (argsL := [(.long p1), (.int (6 : Int32))]) (rest := [(.int (6 : Int32)), (.ref b_1)]) (Met1.back (W := 2) (rm1 l Z a0 hw p1 (6 : Int32) h_19 n0 f_20) hZ (hw _ (List.mem_of_getElem? (i := 4) rfl)) (hw _ (List.mem_of_getElem? (i := 3) rfl)) (by decide) (by decide)) (pc := 59) (Ls := #[.val (.long p1), .second, .val (.ref b_1), .unset, .unset]) (by rw [hml]; rfl) (lenOf own_pd2 rfl) rfl (Nat.le_refl _) (hb hby at_59) (by decide) (by decide) ?_
  intro T_21 v_21 L_21 X_21 hQ_21
  obtain ⟨rfl, Nq_21, hh_21⟩ := hQ_21
  have N_21 := Fr.app N_19 Nq_21
  show Go p e below (FinN s (Q0 Z p1 w4 z fm h0 n0) room_1.cells room_1.slots) T_21 (mkF m 62 #[.val (.long p1), .second, .val (.ref b_1), .unset, .unset] [(.int (own_dig p1 (6 : Int32))), (.int (6 : Int32)), (.ref b_1)])
  obtain ⟨cl_22, Ar_22, q_22, Sz_22, Ng_22, Hh_22, Gg_22⟩ := id V_19
  have hin_22 : ¬ ((6 : Int32) < 0 ∨ cl_22.slots.size ≤ ((6 : Int32)).toNatClampNeg) := inb_of Sz_22 ⟨by decide, by decide⟩
  obtain ⟨T_22, h_22, X_22, e_22, W_22, st_22⟩ := stB X_21 hx hZ hh_21 Ar_22 (j := (6 : Int32)) hin_22 (g := (mkF m 62 #[.val (.long p1), .second, .val (.ref b_1), .unset, .unset] [(.int (own_dig p1 (6 : Int32))), (.int (6 : Int32)), (.ref b_1)])) rfl rfl (hb hby at_62)
  have N_22 := Fr.snoc X_22 N_21 g_b_1
  have V_22 : Arv Z h_22 b_1 k_1 .byte (16 : Int32) [(.int (nar .byte (own_dig p1 (0 : Int32)))), (.int (nar .byte (own_dig p1 (1 : Int32)))), (.int (nar .byte (own_dig p1 (2 : Int32)))), (.int (nar .byte (own_dig p1 (3 : Int32)))), (.int (nar .byte (own_dig p1 (4 : Int32)))), (.int (nar .byte (own_dig p1 (5 : Int32)))), (.int (nar .byte (own_dig p1 (6 : Int32)))), (.int (0 : Int32)), (.int (0 : Int32)), (.int (0 : Int32)), (.int (0 : Int32)), (.int (0 : Int32)), (.int (0 : Int32)), (.int (0 : Int32)), (.int (0 : Int32)), (.int (0 : Int32))] (.int (0 : Int32)) := Arv.set Ar_22 q_22 Sz_22 Ng_22 Hh_22 Gg_22 (fits_nar_byte _) W_22 6 rfl (Nat.le_of_ble_eq_true rfl)
  refine Go.to (mkF m 63 #[.val (.long p1), .second, .val (.ref b_1), .unset, .unset] []) st_22 ?_
  refine Go.to (mkF m 64 #[.val (.long p1), .second, .val (.ref b_1), .unset, .unset] [(.ref b_1)]) (fun _ k => XS.aloadN X_22.here hx rfl (hb hby at_63) rfl rfl k) ?_
  refine Go.to (mkF m 66 #[.val (.long p1), .second, .val (.ref b_1), .unset, .unset] [(.int (7 : Int32)), (.ref b_1)]) (fun _ k => XS.bipush X_22.here hx rfl (hb hby at_64) k) ?_
  refine Go.to (mkF m 67 #[.val (.long p1), .second, .val (.ref b_1), .unset, .unset] [(.long p1), (.int (7 : Int32)), (.ref b_1)]) (fun _ k => XS.lloadN X_22.here hx rfl (hb hby at_66) rfl  k) ?_
  refine Go.to (mkF m 69 #[.val (.long p1), .second, .val (.ref b_1), .unset, .unset] [(.int (7 : Int32)), (.long p1), (.int (7 : Int32)), (.ref b_1)]) (fun _ k => XS.bipush X_22.here hx rfl (hb hby at_67) k) ?_
  have f_23 : n0 ≤ h_22.size := (Nat.le_trans f_20 (Keep.of_wr W_22).1)
  refine Go.stat X_22 hx hZ (y := (⟨"nonet/GridToStringPinLaw", "dig", "(JI)B"⟩ : MethodName)) hown (hw _ (List.mem_of_getElem? (i := 1) rfl)) (hw _ (List.mem_of_getElem? (i := 2) rfl)) (hw _ (List.mem_of_getElem? (i := 3) rfl)) (hw _ (List.mem_of_getElem? (i := 4) rfl)) (by decide) e_22 (argsL := [(.long p1), (.int (7 : Int32))]) (rest := [(.int (7 : Int32)), (.ref b_1)]) (Met1.back (W := 2) (rm1 l Z a0 hw p1 (7 : Int32) h_22 n0 f_23) hZ (hw _ (List.mem_of_getElem? (i := 4) rfl)) (hw _ (List.mem_of_getElem? (i := 3) rfl)) (by decide) (by decide)) (pc := 69) (Ls := #[.val (.long p1), .second, .val (.ref b_1), .unset, .unset]) (by rw [hml]; rfl) (lenOf own_pd2 rfl) rfl (Nat.le_refl _) (hb hby at_69) (by decide) (by decide) ?_
  intro T_24 v_24 L_24 X_24 hQ_24
  obtain ⟨rfl, Nq_24, hh_24⟩ := hQ_24
  have N_24 := Fr.app N_22 Nq_24
  show Go p e below (FinN s (Q0 Z p1 w4 z fm h0 n0) room_1.cells room_1.slots) T_24 (mkF m 72 #[.val (.long p1), .second, .val (.ref b_1), .unset, .unset] [(.int (own_dig p1 (7 : Int32))), (.int (7 : Int32)), (.ref b_1)])
  obtain ⟨cl_25, Ar_25, q_25, Sz_25, Ng_25, Hh_25, Gg_25⟩ := id V_22
  have hin_25 : ¬ ((7 : Int32) < 0 ∨ cl_25.slots.size ≤ ((7 : Int32)).toNatClampNeg) := inb_of Sz_25 ⟨by decide, by decide⟩
  obtain ⟨T_25, h_25, X_25, e_25, W_25, st_25⟩ := stB X_24 hx hZ hh_24 Ar_25 (j := (7 : Int32)) hin_25 (g := (mkF m 72 #[.val (.long p1), .second, .val (.ref b_1), .unset, .unset] [(.int (own_dig p1 (7 : Int32))), (.int (7 : Int32)), (.ref b_1)])) rfl rfl (hb hby at_72)
  have N_25 := Fr.snoc X_25 N_24 g_b_1
  have V_25 : Arv Z h_25 b_1 k_1 .byte (16 : Int32) [(.int (nar .byte (own_dig p1 (0 : Int32)))), (.int (nar .byte (own_dig p1 (1 : Int32)))), (.int (nar .byte (own_dig p1 (2 : Int32)))), (.int (nar .byte (own_dig p1 (3 : Int32)))), (.int (nar .byte (own_dig p1 (4 : Int32)))), (.int (nar .byte (own_dig p1 (5 : Int32)))), (.int (nar .byte (own_dig p1 (6 : Int32)))), (.int (nar .byte (own_dig p1 (7 : Int32)))), (.int (0 : Int32)), (.int (0 : Int32)), (.int (0 : Int32)), (.int (0 : Int32)), (.int (0 : Int32)), (.int (0 : Int32)), (.int (0 : Int32)), (.int (0 : Int32))] (.int (0 : Int32)) := Arv.set Ar_25 q_25 Sz_25 Ng_25 Hh_25 Gg_25 (fits_nar_byte _) W_25 7 rfl (Nat.le_of_ble_eq_true rfl)
  refine Go.to (mkF m 73 #[.val (.long p1), .second, .val (.ref b_1), .unset, .unset] []) st_25 ?_
  refine Go.to (mkF m 74 #[.val (.long p1), .second, .val (.ref b_1), .unset, .unset] [(.ref b_1)]) (fun _ k => XS.aloadN X_25.here hx rfl (hb hby at_73) rfl rfl k) ?_
  refine Go.to (mkF m 76 #[.val (.long p1), .second, .val (.ref b_1), .unset, .unset] [(.int (8 : Int32)), (.ref b_1)]) (fun _ k => XS.bipush X_25.here hx rfl (hb hby at_74) k) ?_
  refine Go.to (mkF m 77 #[.val (.long p1), .second, .val (.ref b_1), .unset, .unset] [(.long p1), (.int (8 : Int32)), (.ref b_1)]) (fun _ k => XS.lloadN X_25.here hx rfl (hb hby at_76) rfl  k) ?_
  refine Go.to (mkF m 79 #[.val (.long p1), .second, .val (.ref b_1), .unset, .unset] [(.int (8 : Int32)), (.long p1), (.int (8 : Int32)), (.ref b_1)]) (fun _ k => XS.bipush X_25.here hx rfl (hb hby at_77) k) ?_
  have f_26 : n0 ≤ h_25.size := (Nat.le_trans f_23 (Keep.of_wr W_25).1)
  refine Go.stat X_25 hx hZ (y := (⟨"nonet/GridToStringPinLaw", "dig", "(JI)B"⟩ : MethodName)) hown (hw _ (List.mem_of_getElem? (i := 1) rfl)) (hw _ (List.mem_of_getElem? (i := 2) rfl)) (hw _ (List.mem_of_getElem? (i := 3) rfl)) (hw _ (List.mem_of_getElem? (i := 4) rfl)) (by decide) e_25 (argsL := [(.long p1), (.int (8 : Int32))]) (rest := [(.int (8 : Int32)), (.ref b_1)]) (Met1.back (W := 2) (rm1 l Z a0 hw p1 (8 : Int32) h_25 n0 f_26) hZ (hw _ (List.mem_of_getElem? (i := 4) rfl)) (hw _ (List.mem_of_getElem? (i := 3) rfl)) (by decide) (by decide)) (pc := 79) (Ls := #[.val (.long p1), .second, .val (.ref b_1), .unset, .unset]) (by rw [hml]; rfl) (lenOf own_pd2 rfl) rfl (Nat.le_refl _) (hb hby at_79) (by decide) (by decide) ?_
  intro T_27 v_27 L_27 X_27 hQ_27
  obtain ⟨rfl, Nq_27, hh_27⟩ := hQ_27
  have N_27 := Fr.app N_25 Nq_27
  show Go p e below (FinN s (Q0 Z p1 w4 z fm h0 n0) room_1.cells room_1.slots) T_27 (mkF m 82 #[.val (.long p1), .second, .val (.ref b_1), .unset, .unset] [(.int (own_dig p1 (8 : Int32))), (.int (8 : Int32)), (.ref b_1)])
  obtain ⟨cl_28, Ar_28, q_28, Sz_28, Ng_28, Hh_28, Gg_28⟩ := id V_25
  have hin_28 : ¬ ((8 : Int32) < 0 ∨ cl_28.slots.size ≤ ((8 : Int32)).toNatClampNeg) := inb_of Sz_28 ⟨by decide, by decide⟩
  obtain ⟨T_28, h_28, X_28, e_28, W_28, st_28⟩ := stB X_27 hx hZ hh_27 Ar_28 (j := (8 : Int32)) hin_28 (g := (mkF m 82 #[.val (.long p1), .second, .val (.ref b_1), .unset, .unset] [(.int (own_dig p1 (8 : Int32))), (.int (8 : Int32)), (.ref b_1)])) rfl rfl (hb hby at_82)
  have N_28 := Fr.snoc X_28 N_27 g_b_1
  have V_28 : Arv Z h_28 b_1 k_1 .byte (16 : Int32) [(.int (nar .byte (own_dig p1 (0 : Int32)))), (.int (nar .byte (own_dig p1 (1 : Int32)))), (.int (nar .byte (own_dig p1 (2 : Int32)))), (.int (nar .byte (own_dig p1 (3 : Int32)))), (.int (nar .byte (own_dig p1 (4 : Int32)))), (.int (nar .byte (own_dig p1 (5 : Int32)))), (.int (nar .byte (own_dig p1 (6 : Int32)))), (.int (nar .byte (own_dig p1 (7 : Int32)))), (.int (nar .byte (own_dig p1 (8 : Int32)))), (.int (0 : Int32)), (.int (0 : Int32)), (.int (0 : Int32)), (.int (0 : Int32)), (.int (0 : Int32)), (.int (0 : Int32)), (.int (0 : Int32))] (.int (0 : Int32)) := Arv.set Ar_28 q_28 Sz_28 Ng_28 Hh_28 Gg_28 (fits_nar_byte _) W_28 8 rfl (Nat.le_of_ble_eq_true rfl)
  refine Go.to (mkF m 83 #[.val (.long p1), .second, .val (.ref b_1), .unset, .unset] []) st_28 ?_
  refine Go.to (mkF m 84 #[.val (.long p1), .second, .val (.ref b_1), .unset, .unset] [(.ref b_1)]) (fun _ k => XS.aloadN X_28.here hx rfl (hb hby at_83) rfl rfl k) ?_
  refine Go.to (mkF m 86 #[.val (.long p1), .second, .val (.ref b_1), .unset, .unset] [(.int (9 : Int32)), (.ref b_1)]) (fun _ k => XS.bipush X_28.here hx rfl (hb hby at_84) k) ?_
  refine Go.to (mkF m 87 #[.val (.long p1), .second, .val (.ref b_1), .unset, .unset] [(.long p1), (.int (9 : Int32)), (.ref b_1)]) (fun _ k => XS.lloadN X_28.here hx rfl (hb hby at_86) rfl  k) ?_
  refine Go.to (mkF m 89 #[.val (.long p1), .second, .val (.ref b_1), .unset, .unset] [(.int (9 : Int32)), (.long p1), (.int (9 : Int32)), (.ref b_1)]) (fun _ k => XS.bipush X_28.here hx rfl (hb hby at_87) k) ?_
  have f_29 : n0 ≤ h_28.size := (Nat.le_trans f_26 (Keep.of_wr W_28).1)
  refine Go.stat X_28 hx hZ (y := (⟨"nonet/GridToStringPinLaw", "dig", "(JI)B"⟩ : MethodName)) hown (hw _ (List.mem_of_getElem? (i := 1) rfl)) (hw _ (List.mem_of_getElem? (i := 2) rfl)) (hw _ (List.mem_of_getElem? (i := 3) rfl)) (hw _ (List.mem_of_getElem? (i := 4) rfl)) (by decide) e_28 (argsL := [(.long p1), (.int (9 : Int32))]) (rest := [(.int (9 : Int32)), (.ref b_1)]) (Met1.back (W := 2) (rm1 l Z a0 hw p1 (9 : Int32) h_28 n0 f_29) hZ (hw _ (List.mem_of_getElem? (i := 4) rfl)) (hw _ (List.mem_of_getElem? (i := 3) rfl)) (by decide) (by decide)) (pc := 89) (Ls := #[.val (.long p1), .second, .val (.ref b_1), .unset, .unset]) (by rw [hml]; rfl) (lenOf own_pd2 rfl) rfl (Nat.le_refl _) (hb hby at_89) (by decide) (by decide) ?_
  intro T_30 v_30 L_30 X_30 hQ_30
  obtain ⟨rfl, Nq_30, hh_30⟩ := hQ_30
  have N_30 := Fr.app N_28 Nq_30
  show Go p e below (FinN s (Q0 Z p1 w4 z fm h0 n0) room_1.cells room_1.slots) T_30 (mkF m 92 #[.val (.long p1), .second, .val (.ref b_1), .unset, .unset] [(.int (own_dig p1 (9 : Int32))), (.int (9 : Int32)), (.ref b_1)])
  obtain ⟨cl_31, Ar_31, q_31, Sz_31, Ng_31, Hh_31, Gg_31⟩ := id V_28
  have hin_31 : ¬ ((9 : Int32) < 0 ∨ cl_31.slots.size ≤ ((9 : Int32)).toNatClampNeg) := inb_of Sz_31 ⟨by decide, by decide⟩
  obtain ⟨T_31, h_31, X_31, e_31, W_31, st_31⟩ := stB X_30 hx hZ hh_30 Ar_31 (j := (9 : Int32)) hin_31 (g := (mkF m 92 #[.val (.long p1), .second, .val (.ref b_1), .unset, .unset] [(.int (own_dig p1 (9 : Int32))), (.int (9 : Int32)), (.ref b_1)])) rfl rfl (hb hby at_92)
  have N_31 := Fr.snoc X_31 N_30 g_b_1
  have V_31 : Arv Z h_31 b_1 k_1 .byte (16 : Int32) [(.int (nar .byte (own_dig p1 (0 : Int32)))), (.int (nar .byte (own_dig p1 (1 : Int32)))), (.int (nar .byte (own_dig p1 (2 : Int32)))), (.int (nar .byte (own_dig p1 (3 : Int32)))), (.int (nar .byte (own_dig p1 (4 : Int32)))), (.int (nar .byte (own_dig p1 (5 : Int32)))), (.int (nar .byte (own_dig p1 (6 : Int32)))), (.int (nar .byte (own_dig p1 (7 : Int32)))), (.int (nar .byte (own_dig p1 (8 : Int32)))), (.int (nar .byte (own_dig p1 (9 : Int32)))), (.int (0 : Int32)), (.int (0 : Int32)), (.int (0 : Int32)), (.int (0 : Int32)), (.int (0 : Int32)), (.int (0 : Int32))] (.int (0 : Int32)) := Arv.set Ar_31 q_31 Sz_31 Ng_31 Hh_31 Gg_31 (fits_nar_byte _) W_31 9 rfl (Nat.le_of_ble_eq_true rfl)
  refine Go.to (mkF m 93 #[.val (.long p1), .second, .val (.ref b_1), .unset, .unset] []) st_31 ?_
  refine Go.to (mkF m 94 #[.val (.long p1), .second, .val (.ref b_1), .unset, .unset] [(.ref b_1)]) (fun _ k => XS.aloadN X_31.here hx rfl (hb hby at_93) rfl rfl k) ?_
  refine Go.to (mkF m 96 #[.val (.long p1), .second, .val (.ref b_1), .unset, .unset] [(.int (10 : Int32)), (.ref b_1)]) (fun _ k => XS.bipush X_31.here hx rfl (hb hby at_94) k) ?_
  refine Go.to (mkF m 97 #[.val (.long p1), .second, .val (.ref b_1), .unset, .unset] [(.long p1), (.int (10 : Int32)), (.ref b_1)]) (fun _ k => XS.lloadN X_31.here hx rfl (hb hby at_96) rfl  k) ?_
  refine Go.to (mkF m 99 #[.val (.long p1), .second, .val (.ref b_1), .unset, .unset] [(.int (10 : Int32)), (.long p1), (.int (10 : Int32)), (.ref b_1)]) (fun _ k => XS.bipush X_31.here hx rfl (hb hby at_97) k) ?_
  have f_32 : n0 ≤ h_31.size := (Nat.le_trans f_29 (Keep.of_wr W_31).1)
  refine Go.stat X_31 hx hZ (y := (⟨"nonet/GridToStringPinLaw", "dig", "(JI)B"⟩ : MethodName)) hown (hw _ (List.mem_of_getElem? (i := 1) rfl)) (hw _ (List.mem_of_getElem? (i := 2) rfl)) (hw _ (List.mem_of_getElem? (i := 3) rfl)) (hw _ (List.mem_of_getElem? (i := 4) rfl)) (by decide) e_31 (argsL := [(.long p1), (.int (10 : Int32))]) (rest := [(.int (10 : Int32)), (.ref b_1)]) (Met1.back (W := 2) (rm1 l Z a0 hw p1 (10 : Int32) h_31 n0 f_32) hZ (hw _ (List.mem_of_getElem? (i := 4) rfl)) (hw _ (List.mem_of_getElem? (i := 3) rfl)) (by decide) (by decide)) (pc := 99) (Ls := #[.val (.long p1), .second, .val (.ref b_1), .unset, .unset]) (by rw [hml]; rfl) (lenOf own_pd2 rfl) rfl (Nat.le_refl _) (hb hby at_99) (by decide) (by decide) ?_
  intro T_33 v_33 L_33 X_33 hQ_33
  obtain ⟨rfl, Nq_33, hh_33⟩ := hQ_33
  have N_33 := Fr.app N_31 Nq_33
  show Go p e below (FinN s (Q0 Z p1 w4 z fm h0 n0) room_1.cells room_1.slots) T_33 (mkF m 102 #[.val (.long p1), .second, .val (.ref b_1), .unset, .unset] [(.int (own_dig p1 (10 : Int32))), (.int (10 : Int32)), (.ref b_1)])
  obtain ⟨cl_34, Ar_34, q_34, Sz_34, Ng_34, Hh_34, Gg_34⟩ := id V_31
  have hin_34 : ¬ ((10 : Int32) < 0 ∨ cl_34.slots.size ≤ ((10 : Int32)).toNatClampNeg) := inb_of Sz_34 ⟨by decide, by decide⟩
  obtain ⟨T_34, h_34, X_34, e_34, W_34, st_34⟩ := stB X_33 hx hZ hh_33 Ar_34 (j := (10 : Int32)) hin_34 (g := (mkF m 102 #[.val (.long p1), .second, .val (.ref b_1), .unset, .unset] [(.int (own_dig p1 (10 : Int32))), (.int (10 : Int32)), (.ref b_1)])) rfl rfl (hb hby at_102)
  have N_34 := Fr.snoc X_34 N_33 g_b_1
  have V_34 : Arv Z h_34 b_1 k_1 .byte (16 : Int32) [(.int (nar .byte (own_dig p1 (0 : Int32)))), (.int (nar .byte (own_dig p1 (1 : Int32)))), (.int (nar .byte (own_dig p1 (2 : Int32)))), (.int (nar .byte (own_dig p1 (3 : Int32)))), (.int (nar .byte (own_dig p1 (4 : Int32)))), (.int (nar .byte (own_dig p1 (5 : Int32)))), (.int (nar .byte (own_dig p1 (6 : Int32)))), (.int (nar .byte (own_dig p1 (7 : Int32)))), (.int (nar .byte (own_dig p1 (8 : Int32)))), (.int (nar .byte (own_dig p1 (9 : Int32)))), (.int (nar .byte (own_dig p1 (10 : Int32)))), (.int (0 : Int32)), (.int (0 : Int32)), (.int (0 : Int32)), (.int (0 : Int32)), (.int (0 : Int32))] (.int (0 : Int32)) := Arv.set Ar_34 q_34 Sz_34 Ng_34 Hh_34 Gg_34 (fits_nar_byte _) W_34 10 rfl (Nat.le_of_ble_eq_true rfl)
  refine Go.to (mkF m 103 #[.val (.long p1), .second, .val (.ref b_1), .unset, .unset] []) st_34 ?_
  refine Go.to (mkF m 104 #[.val (.long p1), .second, .val (.ref b_1), .unset, .unset] [(.ref b_1)]) (fun _ k => XS.aloadN X_34.here hx rfl (hb hby at_103) rfl rfl k) ?_
  refine Go.to (mkF m 106 #[.val (.long p1), .second, .val (.ref b_1), .unset, .unset] [(.int (11 : Int32)), (.ref b_1)]) (fun _ k => XS.bipush X_34.here hx rfl (hb hby at_104) k) ?_
  refine Go.to (mkF m 107 #[.val (.long p1), .second, .val (.ref b_1), .unset, .unset] [(.long p1), (.int (11 : Int32)), (.ref b_1)]) (fun _ k => XS.lloadN X_34.here hx rfl (hb hby at_106) rfl  k) ?_
  refine Go.to (mkF m 109 #[.val (.long p1), .second, .val (.ref b_1), .unset, .unset] [(.int (11 : Int32)), (.long p1), (.int (11 : Int32)), (.ref b_1)]) (fun _ k => XS.bipush X_34.here hx rfl (hb hby at_107) k) ?_
  have f_35 : n0 ≤ h_34.size := (Nat.le_trans f_32 (Keep.of_wr W_34).1)
  refine Go.stat X_34 hx hZ (y := (⟨"nonet/GridToStringPinLaw", "dig", "(JI)B"⟩ : MethodName)) hown (hw _ (List.mem_of_getElem? (i := 1) rfl)) (hw _ (List.mem_of_getElem? (i := 2) rfl)) (hw _ (List.mem_of_getElem? (i := 3) rfl)) (hw _ (List.mem_of_getElem? (i := 4) rfl)) (by decide) e_34 (argsL := [(.long p1), (.int (11 : Int32))]) (rest := [(.int (11 : Int32)), (.ref b_1)]) (Met1.back (W := 2) (rm1 l Z a0 hw p1 (11 : Int32) h_34 n0 f_35) hZ (hw _ (List.mem_of_getElem? (i := 4) rfl)) (hw _ (List.mem_of_getElem? (i := 3) rfl)) (by decide) (by decide)) (pc := 109) (Ls := #[.val (.long p1), .second, .val (.ref b_1), .unset, .unset]) (by rw [hml]; rfl) (lenOf own_pd2 rfl) rfl (Nat.le_refl _) (hb hby at_109) (by decide) (by decide) ?_
  intro T_36 v_36 L_36 X_36 hQ_36
  obtain ⟨rfl, Nq_36, hh_36⟩ := hQ_36
  have N_36 := Fr.app N_34 Nq_36
  show Go p e below (FinN s (Q0 Z p1 w4 z fm h0 n0) room_1.cells room_1.slots) T_36 (mkF m 112 #[.val (.long p1), .second, .val (.ref b_1), .unset, .unset] [(.int (own_dig p1 (11 : Int32))), (.int (11 : Int32)), (.ref b_1)])
  obtain ⟨cl_37, Ar_37, q_37, Sz_37, Ng_37, Hh_37, Gg_37⟩ := id V_34
  have hin_37 : ¬ ((11 : Int32) < 0 ∨ cl_37.slots.size ≤ ((11 : Int32)).toNatClampNeg) := inb_of Sz_37 ⟨by decide, by decide⟩
  obtain ⟨T_37, h_37, X_37, e_37, W_37, st_37⟩ := stB X_36 hx hZ hh_36 Ar_37 (j := (11 : Int32)) hin_37 (g := (mkF m 112 #[.val (.long p1), .second, .val (.ref b_1), .unset, .unset] [(.int (own_dig p1 (11 : Int32))), (.int (11 : Int32)), (.ref b_1)])) rfl rfl (hb hby at_112)
  have N_37 := Fr.snoc X_37 N_36 g_b_1
  have V_37 : Arv Z h_37 b_1 k_1 .byte (16 : Int32) [(.int (nar .byte (own_dig p1 (0 : Int32)))), (.int (nar .byte (own_dig p1 (1 : Int32)))), (.int (nar .byte (own_dig p1 (2 : Int32)))), (.int (nar .byte (own_dig p1 (3 : Int32)))), (.int (nar .byte (own_dig p1 (4 : Int32)))), (.int (nar .byte (own_dig p1 (5 : Int32)))), (.int (nar .byte (own_dig p1 (6 : Int32)))), (.int (nar .byte (own_dig p1 (7 : Int32)))), (.int (nar .byte (own_dig p1 (8 : Int32)))), (.int (nar .byte (own_dig p1 (9 : Int32)))), (.int (nar .byte (own_dig p1 (10 : Int32)))), (.int (nar .byte (own_dig p1 (11 : Int32)))), (.int (0 : Int32)), (.int (0 : Int32)), (.int (0 : Int32)), (.int (0 : Int32))] (.int (0 : Int32)) := Arv.set Ar_37 q_37 Sz_37 Ng_37 Hh_37 Gg_37 (fits_nar_byte _) W_37 11 rfl (Nat.le_of_ble_eq_true rfl)
  refine Go.to (mkF m 113 #[.val (.long p1), .second, .val (.ref b_1), .unset, .unset] []) st_37 ?_
  refine Go.to (mkF m 114 #[.val (.long p1), .second, .val (.ref b_1), .unset, .unset] [(.ref b_1)]) (fun _ k => XS.aloadN X_37.here hx rfl (hb hby at_113) rfl rfl k) ?_
  refine Go.to (mkF m 116 #[.val (.long p1), .second, .val (.ref b_1), .unset, .unset] [(.int (12 : Int32)), (.ref b_1)]) (fun _ k => XS.bipush X_37.here hx rfl (hb hby at_114) k) ?_
  refine Go.to (mkF m 117 #[.val (.long p1), .second, .val (.ref b_1), .unset, .unset] [(.long p1), (.int (12 : Int32)), (.ref b_1)]) (fun _ k => XS.lloadN X_37.here hx rfl (hb hby at_116) rfl  k) ?_
  refine Go.to (mkF m 119 #[.val (.long p1), .second, .val (.ref b_1), .unset, .unset] [(.int (12 : Int32)), (.long p1), (.int (12 : Int32)), (.ref b_1)]) (fun _ k => XS.bipush X_37.here hx rfl (hb hby at_117) k) ?_
  have f_38 : n0 ≤ h_37.size := (Nat.le_trans f_35 (Keep.of_wr W_37).1)
  refine Go.stat X_37 hx hZ (y := (⟨"nonet/GridToStringPinLaw", "dig", "(JI)B"⟩ : MethodName)) hown (hw _ (List.mem_of_getElem? (i := 1) rfl)) (hw _ (List.mem_of_getElem? (i := 2) rfl)) (hw _ (List.mem_of_getElem? (i := 3) rfl)) (hw _ (List.mem_of_getElem? (i := 4) rfl)) (by decide) e_37 (argsL := [(.long p1), (.int (12 : Int32))]) (rest := [(.int (12 : Int32)), (.ref b_1)]) (Met1.back (W := 2) (rm1 l Z a0 hw p1 (12 : Int32) h_37 n0 f_38) hZ (hw _ (List.mem_of_getElem? (i := 4) rfl)) (hw _ (List.mem_of_getElem? (i := 3) rfl)) (by decide) (by decide)) (pc := 119) (Ls := #[.val (.long p1), .second, .val (.ref b_1), .unset, .unset]) (by rw [hml]; rfl) (lenOf own_pd2 rfl) rfl (Nat.le_refl _) (hb hby at_119) (by decide) (by decide) ?_
  intro T_39 v_39 L_39 X_39 hQ_39
  obtain ⟨rfl, Nq_39, hh_39⟩ := hQ_39
  have N_39 := Fr.app N_37 Nq_39
  show Go p e below (FinN s (Q0 Z p1 w4 z fm h0 n0) room_1.cells room_1.slots) T_39 (mkF m 122 #[.val (.long p1), .second, .val (.ref b_1), .unset, .unset] [(.int (own_dig p1 (12 : Int32))), (.int (12 : Int32)), (.ref b_1)])
  obtain ⟨cl_40, Ar_40, q_40, Sz_40, Ng_40, Hh_40, Gg_40⟩ := id V_37
  have hin_40 : ¬ ((12 : Int32) < 0 ∨ cl_40.slots.size ≤ ((12 : Int32)).toNatClampNeg) := inb_of Sz_40 ⟨by decide, by decide⟩
  obtain ⟨T_40, h_40, X_40, e_40, W_40, st_40⟩ := stB X_39 hx hZ hh_39 Ar_40 (j := (12 : Int32)) hin_40 (g := (mkF m 122 #[.val (.long p1), .second, .val (.ref b_1), .unset, .unset] [(.int (own_dig p1 (12 : Int32))), (.int (12 : Int32)), (.ref b_1)])) rfl rfl (hb hby at_122)
  have N_40 := Fr.snoc X_40 N_39 g_b_1
  have V_40 : Arv Z h_40 b_1 k_1 .byte (16 : Int32) [(.int (nar .byte (own_dig p1 (0 : Int32)))), (.int (nar .byte (own_dig p1 (1 : Int32)))), (.int (nar .byte (own_dig p1 (2 : Int32)))), (.int (nar .byte (own_dig p1 (3 : Int32)))), (.int (nar .byte (own_dig p1 (4 : Int32)))), (.int (nar .byte (own_dig p1 (5 : Int32)))), (.int (nar .byte (own_dig p1 (6 : Int32)))), (.int (nar .byte (own_dig p1 (7 : Int32)))), (.int (nar .byte (own_dig p1 (8 : Int32)))), (.int (nar .byte (own_dig p1 (9 : Int32)))), (.int (nar .byte (own_dig p1 (10 : Int32)))), (.int (nar .byte (own_dig p1 (11 : Int32)))), (.int (nar .byte (own_dig p1 (12 : Int32)))), (.int (0 : Int32)), (.int (0 : Int32)), (.int (0 : Int32))] (.int (0 : Int32)) := Arv.set Ar_40 q_40 Sz_40 Ng_40 Hh_40 Gg_40 (fits_nar_byte _) W_40 12 rfl (Nat.le_of_ble_eq_true rfl)
  refine Go.to (mkF m 123 #[.val (.long p1), .second, .val (.ref b_1), .unset, .unset] []) st_40 ?_
  refine Go.to (mkF m 124 #[.val (.long p1), .second, .val (.ref b_1), .unset, .unset] [(.ref b_1)]) (fun _ k => XS.aloadN X_40.here hx rfl (hb hby at_123) rfl rfl k) ?_
  refine Go.to (mkF m 126 #[.val (.long p1), .second, .val (.ref b_1), .unset, .unset] [(.int (13 : Int32)), (.ref b_1)]) (fun _ k => XS.bipush X_40.here hx rfl (hb hby at_124) k) ?_
  refine Go.to (mkF m 127 #[.val (.long p1), .second, .val (.ref b_1), .unset, .unset] [(.long p1), (.int (13 : Int32)), (.ref b_1)]) (fun _ k => XS.lloadN X_40.here hx rfl (hb hby at_126) rfl  k) ?_
  refine Go.to (mkF m 129 #[.val (.long p1), .second, .val (.ref b_1), .unset, .unset] [(.int (13 : Int32)), (.long p1), (.int (13 : Int32)), (.ref b_1)]) (fun _ k => XS.bipush X_40.here hx rfl (hb hby at_127) k) ?_
  have f_41 : n0 ≤ h_40.size := (Nat.le_trans f_38 (Keep.of_wr W_40).1)
  refine Go.stat X_40 hx hZ (y := (⟨"nonet/GridToStringPinLaw", "dig", "(JI)B"⟩ : MethodName)) hown (hw _ (List.mem_of_getElem? (i := 1) rfl)) (hw _ (List.mem_of_getElem? (i := 2) rfl)) (hw _ (List.mem_of_getElem? (i := 3) rfl)) (hw _ (List.mem_of_getElem? (i := 4) rfl)) (by decide) e_40 (argsL := [(.long p1), (.int (13 : Int32))]) (rest := [(.int (13 : Int32)), (.ref b_1)]) (Met1.back (W := 2) (rm1 l Z a0 hw p1 (13 : Int32) h_40 n0 f_41) hZ (hw _ (List.mem_of_getElem? (i := 4) rfl)) (hw _ (List.mem_of_getElem? (i := 3) rfl)) (by decide) (by decide)) (pc := 129) (Ls := #[.val (.long p1), .second, .val (.ref b_1), .unset, .unset]) (by rw [hml]; rfl) (lenOf own_pd2 rfl) rfl (Nat.le_refl _) (hb hby at_129) (by decide) (by decide) ?_
  intro T_42 v_42 L_42 X_42 hQ_42
  obtain ⟨rfl, Nq_42, hh_42⟩ := hQ_42
  have N_42 := Fr.app N_40 Nq_42
  show Go p e below (FinN s (Q0 Z p1 w4 z fm h0 n0) room_1.cells room_1.slots) T_42 (mkF m 132 #[.val (.long p1), .second, .val (.ref b_1), .unset, .unset] [(.int (own_dig p1 (13 : Int32))), (.int (13 : Int32)), (.ref b_1)])
  obtain ⟨cl_43, Ar_43, q_43, Sz_43, Ng_43, Hh_43, Gg_43⟩ := id V_40
  have hin_43 : ¬ ((13 : Int32) < 0 ∨ cl_43.slots.size ≤ ((13 : Int32)).toNatClampNeg) := inb_of Sz_43 ⟨by decide, by decide⟩
  obtain ⟨T_43, h_43, X_43, e_43, W_43, st_43⟩ := stB X_42 hx hZ hh_42 Ar_43 (j := (13 : Int32)) hin_43 (g := (mkF m 132 #[.val (.long p1), .second, .val (.ref b_1), .unset, .unset] [(.int (own_dig p1 (13 : Int32))), (.int (13 : Int32)), (.ref b_1)])) rfl rfl (hb hby at_132)
  have N_43 := Fr.snoc X_43 N_42 g_b_1
  have V_43 : Arv Z h_43 b_1 k_1 .byte (16 : Int32) [(.int (nar .byte (own_dig p1 (0 : Int32)))), (.int (nar .byte (own_dig p1 (1 : Int32)))), (.int (nar .byte (own_dig p1 (2 : Int32)))), (.int (nar .byte (own_dig p1 (3 : Int32)))), (.int (nar .byte (own_dig p1 (4 : Int32)))), (.int (nar .byte (own_dig p1 (5 : Int32)))), (.int (nar .byte (own_dig p1 (6 : Int32)))), (.int (nar .byte (own_dig p1 (7 : Int32)))), (.int (nar .byte (own_dig p1 (8 : Int32)))), (.int (nar .byte (own_dig p1 (9 : Int32)))), (.int (nar .byte (own_dig p1 (10 : Int32)))), (.int (nar .byte (own_dig p1 (11 : Int32)))), (.int (nar .byte (own_dig p1 (12 : Int32)))), (.int (nar .byte (own_dig p1 (13 : Int32)))), (.int (0 : Int32)), (.int (0 : Int32))] (.int (0 : Int32)) := Arv.set Ar_43 q_43 Sz_43 Ng_43 Hh_43 Gg_43 (fits_nar_byte _) W_43 13 rfl (Nat.le_of_ble_eq_true rfl)
  refine Go.to (mkF m 133 #[.val (.long p1), .second, .val (.ref b_1), .unset, .unset] []) st_43 ?_
  refine Go.to (mkF m 134 #[.val (.long p1), .second, .val (.ref b_1), .unset, .unset] [(.ref b_1)]) (fun _ k => XS.aloadN X_43.here hx rfl (hb hby at_133) rfl rfl k) ?_
  refine Go.to (mkF m 136 #[.val (.long p1), .second, .val (.ref b_1), .unset, .unset] [(.int (14 : Int32)), (.ref b_1)]) (fun _ k => XS.bipush X_43.here hx rfl (hb hby at_134) k) ?_
  refine Go.to (mkF m 137 #[.val (.long p1), .second, .val (.ref b_1), .unset, .unset] [(.long p1), (.int (14 : Int32)), (.ref b_1)]) (fun _ k => XS.lloadN X_43.here hx rfl (hb hby at_136) rfl  k) ?_
  refine Go.to (mkF m 139 #[.val (.long p1), .second, .val (.ref b_1), .unset, .unset] [(.int (14 : Int32)), (.long p1), (.int (14 : Int32)), (.ref b_1)]) (fun _ k => XS.bipush X_43.here hx rfl (hb hby at_137) k) ?_
  have f_44 : n0 ≤ h_43.size := (Nat.le_trans f_41 (Keep.of_wr W_43).1)
  refine Go.stat X_43 hx hZ (y := (⟨"nonet/GridToStringPinLaw", "dig", "(JI)B"⟩ : MethodName)) hown (hw _ (List.mem_of_getElem? (i := 1) rfl)) (hw _ (List.mem_of_getElem? (i := 2) rfl)) (hw _ (List.mem_of_getElem? (i := 3) rfl)) (hw _ (List.mem_of_getElem? (i := 4) rfl)) (by decide) e_43 (argsL := [(.long p1), (.int (14 : Int32))]) (rest := [(.int (14 : Int32)), (.ref b_1)]) (Met1.back (W := 2) (rm1 l Z a0 hw p1 (14 : Int32) h_43 n0 f_44) hZ (hw _ (List.mem_of_getElem? (i := 4) rfl)) (hw _ (List.mem_of_getElem? (i := 3) rfl)) (by decide) (by decide)) (pc := 139) (Ls := #[.val (.long p1), .second, .val (.ref b_1), .unset, .unset]) (by rw [hml]; rfl) (lenOf own_pd2 rfl) rfl (Nat.le_refl _) (hb hby at_139) (by decide) (by decide) ?_
  intro T_45 v_45 L_45 X_45 hQ_45
  obtain ⟨rfl, Nq_45, hh_45⟩ := hQ_45
  have N_45 := Fr.app N_43 Nq_45
  show Go p e below (FinN s (Q0 Z p1 w4 z fm h0 n0) room_1.cells room_1.slots) T_45 (mkF m 142 #[.val (.long p1), .second, .val (.ref b_1), .unset, .unset] [(.int (own_dig p1 (14 : Int32))), (.int (14 : Int32)), (.ref b_1)])
  obtain ⟨cl_46, Ar_46, q_46, Sz_46, Ng_46, Hh_46, Gg_46⟩ := id V_43
  have hin_46 : ¬ ((14 : Int32) < 0 ∨ cl_46.slots.size ≤ ((14 : Int32)).toNatClampNeg) := inb_of Sz_46 ⟨by decide, by decide⟩
  obtain ⟨T_46, h_46, X_46, e_46, W_46, st_46⟩ := stB X_45 hx hZ hh_45 Ar_46 (j := (14 : Int32)) hin_46 (g := (mkF m 142 #[.val (.long p1), .second, .val (.ref b_1), .unset, .unset] [(.int (own_dig p1 (14 : Int32))), (.int (14 : Int32)), (.ref b_1)])) rfl rfl (hb hby at_142)
  have N_46 := Fr.snoc X_46 N_45 g_b_1
  have V_46 : Arv Z h_46 b_1 k_1 .byte (16 : Int32) [(.int (nar .byte (own_dig p1 (0 : Int32)))), (.int (nar .byte (own_dig p1 (1 : Int32)))), (.int (nar .byte (own_dig p1 (2 : Int32)))), (.int (nar .byte (own_dig p1 (3 : Int32)))), (.int (nar .byte (own_dig p1 (4 : Int32)))), (.int (nar .byte (own_dig p1 (5 : Int32)))), (.int (nar .byte (own_dig p1 (6 : Int32)))), (.int (nar .byte (own_dig p1 (7 : Int32)))), (.int (nar .byte (own_dig p1 (8 : Int32)))), (.int (nar .byte (own_dig p1 (9 : Int32)))), (.int (nar .byte (own_dig p1 (10 : Int32)))), (.int (nar .byte (own_dig p1 (11 : Int32)))), (.int (nar .byte (own_dig p1 (12 : Int32)))), (.int (nar .byte (own_dig p1 (13 : Int32)))), (.int (nar .byte (own_dig p1 (14 : Int32)))), (.int (0 : Int32))] (.int (0 : Int32)) := Arv.set Ar_46 q_46 Sz_46 Ng_46 Hh_46 Gg_46 (fits_nar_byte _) W_46 14 rfl (Nat.le_of_ble_eq_true rfl)
  refine Go.to (mkF m 143 #[.val (.long p1), .second, .val (.ref b_1), .unset, .unset] []) st_46 ?_
  refine Go.to (mkF m 144 #[.val (.long p1), .second, .val (.ref b_1), .unset, .unset] [(.ref b_1)]) (fun _ k => XS.aloadN X_46.here hx rfl (hb hby at_143) rfl rfl k) ?_
  refine Go.to (mkF m 146 #[.val (.long p1), .second, .val (.ref b_1), .unset, .unset] [(.int (15 : Int32)), (.ref b_1)]) (fun _ k => XS.bipush X_46.here hx rfl (hb hby at_144) k) ?_
  refine Go.to (mkF m 147 #[.val (.long p1), .second, .val (.ref b_1), .unset, .unset] [(.long p1), (.int (15 : Int32)), (.ref b_1)]) (fun _ k => XS.lloadN X_46.here hx rfl (hb hby at_146) rfl  k) ?_
  refine Go.to (mkF m 149 #[.val (.long p1), .second, .val (.ref b_1), .unset, .unset] [(.int (15 : Int32)), (.long p1), (.int (15 : Int32)), (.ref b_1)]) (fun _ k => XS.bipush X_46.here hx rfl (hb hby at_147) k) ?_
  have f_47 : n0 ≤ h_46.size := (Nat.le_trans f_44 (Keep.of_wr W_46).1)
  refine Go.stat X_46 hx hZ (y := (⟨"nonet/GridToStringPinLaw", "dig", "(JI)B"⟩ : MethodName)) hown (hw _ (List.mem_of_getElem? (i := 1) rfl)) (hw _ (List.mem_of_getElem? (i := 2) rfl)) (hw _ (List.mem_of_getElem? (i := 3) rfl)) (hw _ (List.mem_of_getElem? (i := 4) rfl)) (by decide) e_46 (argsL := [(.long p1), (.int (15 : Int32))]) (rest := [(.int (15 : Int32)), (.ref b_1)]) (Met1.back (W := 2) (rm1 l Z a0 hw p1 (15 : Int32) h_46 n0 f_47) hZ (hw _ (List.mem_of_getElem? (i := 4) rfl)) (hw _ (List.mem_of_getElem? (i := 3) rfl)) (by decide) (by decide)) (pc := 149) (Ls := #[.val (.long p1), .second, .val (.ref b_1), .unset, .unset]) (by rw [hml]; rfl) (lenOf own_pd2 rfl) rfl (Nat.le_refl _) (hb hby at_149) (by decide) (by decide) ?_
  intro T_48 v_48 L_48 X_48 hQ_48
  obtain ⟨rfl, Nq_48, hh_48⟩ := hQ_48
  have N_48 := Fr.app N_46 Nq_48
  show Go p e below (FinN s (Q0 Z p1 w4 z fm h0 n0) room_1.cells room_1.slots) T_48 (mkF m 152 #[.val (.long p1), .second, .val (.ref b_1), .unset, .unset] [(.int (own_dig p1 (15 : Int32))), (.int (15 : Int32)), (.ref b_1)])
  obtain ⟨cl_49, Ar_49, q_49, Sz_49, Ng_49, Hh_49, Gg_49⟩ := id V_46
  have hin_49 : ¬ ((15 : Int32) < 0 ∨ cl_49.slots.size ≤ ((15 : Int32)).toNatClampNeg) := inb_of Sz_49 ⟨by decide, by decide⟩
  obtain ⟨T_49, h_49, X_49, e_49, W_49, st_49⟩ := stB X_48 hx hZ hh_48 Ar_49 (j := (15 : Int32)) hin_49 (g := (mkF m 152 #[.val (.long p1), .second, .val (.ref b_1), .unset, .unset] [(.int (own_dig p1 (15 : Int32))), (.int (15 : Int32)), (.ref b_1)])) rfl rfl (hb hby at_152)
  have N_49 := Fr.snoc X_49 N_48 g_b_1
  have V_49 : Arv Z h_49 b_1 k_1 .byte (16 : Int32) [(.int (nar .byte (own_dig p1 (0 : Int32)))), (.int (nar .byte (own_dig p1 (1 : Int32)))), (.int (nar .byte (own_dig p1 (2 : Int32)))), (.int (nar .byte (own_dig p1 (3 : Int32)))), (.int (nar .byte (own_dig p1 (4 : Int32)))), (.int (nar .byte (own_dig p1 (5 : Int32)))), (.int (nar .byte (own_dig p1 (6 : Int32)))), (.int (nar .byte (own_dig p1 (7 : Int32)))), (.int (nar .byte (own_dig p1 (8 : Int32)))), (.int (nar .byte (own_dig p1 (9 : Int32)))), (.int (nar .byte (own_dig p1 (10 : Int32)))), (.int (nar .byte (own_dig p1 (11 : Int32)))), (.int (nar .byte (own_dig p1 (12 : Int32)))), (.int (nar .byte (own_dig p1 (13 : Int32)))), (.int (nar .byte (own_dig p1 (14 : Int32)))), (.int (nar .byte (own_dig p1 (15 : Int32))))] (.int (0 : Int32)) := Arv.set Ar_49 q_49 Sz_49 Ng_49 Hh_49 Gg_49 (fits_nar_byte _) W_49 15 rfl (Nat.le_of_ble_eq_true rfl)
  refine Go.to (mkF m 153 #[.val (.long p1), .second, .val (.ref b_1), .unset, .unset] []) st_49 ?_
  have f_51 : Exa Z h_49 w4 "nonet/Size" := (((((((((((((((((PE_w4.ext E_1).wr W_4).wr W_7).wr W_10).wr W_13).wr W_16).wr W_19).wr W_22).wr W_25).wr W_28).wr W_31).wr W_34).wr W_37).wr W_40).wr W_43).wr W_46).wr W_49)
  have f_52 : n0 ≤ h_49.size := (Nat.le_trans f_47 (Keep.of_wr W_49).1)
  have f_53 : Keep h0 h_49 [] := ((((((((((((((((((Keep.refl h0 []).ext E_1).wr W_4 (Or.inr sz_b_1)).wr W_7 (Or.inr sz_b_1)).wr W_10 (Or.inr sz_b_1)).wr W_13 (Or.inr sz_b_1)).wr W_16 (Or.inr sz_b_1)).wr W_19 (Or.inr sz_b_1)).wr W_22 (Or.inr sz_b_1)).wr W_25 (Or.inr sz_b_1)).wr W_28 (Or.inr sz_b_1)).wr W_31 (Or.inr sz_b_1)).wr W_34 (Or.inr sz_b_1)).wr W_37 (Or.inr sz_b_1)).wr W_40 (Or.inr sz_b_1)).wr W_43 (Or.inr sz_b_1)).wr W_46 (Or.inr sz_b_1)).wr W_49 (Or.inr sz_b_1))
  obtain ⟨T_50, h_50, X_50, e_50, E_50, A_50, D_50, -, st_50⟩ := newO X_49 hx hZ hown (hw _ (List.mem_of_getElem? (i := 7) rfl)) (hw _ (List.mem_of_getElem? (i := 8) rfl)) (hw _ (List.mem_of_getElem? (i := 9) rfl)) e_49 (g := (mkF m 153 #[.val (.long p1), .second, .val (.ref b_1), .unset, .unset] [])) rfl (hb hby at_153) (by decide) (by decide)
  obtain ⟨b_50, g_50⟩ : ∃ z, z = h_49.size := ⟨_, rfl⟩
  rw [← g_50] at A_50 D_50 st_50
  have g_b_50 : n0 ≤ b_50 := Nat.le_trans f_52 (Nat.le_of_eq g_50.symm)
  have sz_b_50 : h0.size ≤ b_50 := Nat.le_trans f_53.1 (Nat.le_of_eq g_50.symm)
  have ne_w4_b_50 : w4 ≠ b_50 := Nat.ne_of_lt (Nat.lt_of_lt_of_le f_51.lt (Nat.le_of_eq g_50.symm))
  have ne_b_1_b_50 : b_1 ≠ b_50 := Nat.ne_of_lt (Nat.lt_of_lt_of_le V_49.lt (Nat.le_of_eq g_50.symm))
  have F_size_b_50 : Fld Z h_50 b_50 "nonet/Grid" "size" "Lnonet/Size;" .null := D_50 (Or.inr (hw _ (List.mem_of_getElem? (i := 20) rfl))) (ty := (.object "nonet/Size")) (by decide)
  have F_digits_b_50 : Fld Z h_50 b_50 "nonet/Grid" "digits" "[B" .null := D_50 (Or.inr (hw _ (List.mem_of_getElem? (i := 22) rfl))) (ty := (.array .byte)) (by decide)
  refine Go.to (mkF m 156 #[.val (.long p1), .second, .val (.ref b_1), .unset, .unset] [(.ref b_50)]) st_50 ?_
  refine Go.to (mkF m 157 #[.val (.long p1), .second, .val (.ref b_1), .unset, .unset] [(.ref b_50), (.ref b_50)]) (fun _ k => XS.dup X_50.here hx rfl (hb hby at_156) rfl rfl k) ?_
  have f_54 : Sta Z h_50 "nonet/Size" "FOUR" "Lnonet/Size;" (.ref w4) := ((((((((((((((((((PS_nonet_Size_FOUR.ext E_1).wr W_4).wr W_7).wr W_10).wr W_13).wr W_16).wr W_19).wr W_22).wr W_25).wr W_28).wr W_31).wr W_34).wr W_37).wr W_40).wr W_43).wr W_46).wr W_49).ext E_50)
  obtain ⟨T_55, X_55, e_55, st_55⟩ := getS2 X_50 hx hZ hown (host := "") (Or.inl (hw _ (List.mem_of_getElem? (i := 10) rfl))) Via.refl e_50 f_54 (g := (mkF m 157 #[.val (.long p1), .second, .val (.ref b_1), .unset, .unset] [(.ref b_50), (.ref b_50)])) rfl (hb hby at_157)
  refine Go.to (mkF m 160 #[.val (.long p1), .second, .val (.ref b_1), .unset, .unset] [(.ref w4), (.ref b_50), (.ref b_50)]) st_55 ?_
  refine Go.to (mkF m 161 #[.val (.long p1), .second, .val (.ref b_1), .unset, .unset] [(.ref b_1), (.ref w4), (.ref b_50), (.ref b_50)]) (fun _ k => XS.aloadN X_55.here hx rfl (hb hby at_160) rfl rfl k) ?_
  have f_56 : n0 ≤ h_50.size := (Nat.le_trans f_52 E_50.1)
  refine Go.special X_55 hx hZ (y := (⟨"nonet/Grid", "<init>", "(Lnonet/Size;[B)V"⟩ : MethodName)) rfl hown (hw _ (List.mem_of_getElem? (i := 13) rfl)) (hw _ (List.mem_of_getElem? (i := 14) rfl)) (hw _ (List.mem_of_getElem? (i := 15) rfl)) (by decide) e_55 (a := b_50) (argsL := [(.ref w4), (.ref b_1)]) (rest := [(.ref b_50)]) (Met1.back (W := 1) (rm2 l Z a0 hw b_50 w4 b_1 .null .null h_50 n0 f_56 A_50 g_b_50 F_size_b_50 F_digits_b_50) hZ (hw _ (List.mem_of_getElem? (i := 15) rfl)) (hw _ (List.mem_of_getElem? (i := 9) rfl)) (by decide) (by decide)) (pc := 161) (Ls := #[.val (.long p1), .second, .val (.ref b_1), .unset, .unset]) (by rw [hml]; rfl) (lenOf own_pd3 rfl) rfl (Nat.le_refl _) (hb hby at_161) (by decide) (by decide) ?_
  intro T_57 v_57 L_57 X_57 hQ_57
  obtain ⟨rfl, Nq_57, K_57, pf_57_0⟩ := hQ_57
  have N_57 := Fr.app N_49 Nq_57
  have f_58 : Keep h0 h_50 [] := (f_53.ext E_50)
  show Go p e below (FinN s (Q0 Z p1 w4 z fm h0 n0) room_1.cells room_1.slots) T_57 (mkF m 164 #[.val (.long p1), .second, .val (.ref b_1), .unset, .unset] [(.ref b_50)])
  refine Go.to (mkF m 165 #[.val (.long p1), .second, .val (.ref b_1), .val (.ref b_50), .unset] []) (fun _ k => XS.astoreN X_57.here hx rfl (hb hby at_164) rfl rfl (l' := #[.val (.long p1), .second, .val (.ref b_1), .val (.ref b_50), .unset]) rfl k) ?_
  refine Go.to (mkF m 166 #[.val (.long p1), .second, .val (.ref b_1), .val (.ref b_50), .unset] [(.ref b_50)]) (fun _ k => XS.aloadN X_57.here hx rfl (hb hby at_165) rfl rfl k) ?_
  have hd : ∀ d ∈ ([(nar .byte (own_dig p1 (0 : Int32))), (nar .byte (own_dig p1 (1 : Int32))), (nar .byte (own_dig p1 (2 : Int32))), (nar .byte (own_dig p1 (3 : Int32))), (nar .byte (own_dig p1 (4 : Int32))), (nar .byte (own_dig p1 (5 : Int32))), (nar .byte (own_dig p1 (6 : Int32))), (nar .byte (own_dig p1 (7 : Int32))), (nar .byte (own_dig p1 (8 : Int32))), (nar .byte (own_dig p1 (9 : Int32))), (nar .byte (own_dig p1 (10 : Int32))), (nar .byte (own_dig p1 (11 : Int32))), (nar .byte (own_dig p1 (12 : Int32))), (nar .byte (own_dig p1 (13 : Int32))), (nar .byte (own_dig p1 (14 : Int32))), (nar .byte (own_dig p1 (15 : Int32)))] : List Int32), own_ok d := by
    intro d hd
    simp only [List.mem_cons, List.not_mem_nil, or_false] at hd
    rcases hd with rfl | rfl | rfl | rfl | rfl | rfl | rfl | rfl | rfl | rfl | rfl | rfl | rfl | rfl | rfl | rfl <;> exact own_ok_byte (own_dig_ok _ _)
  have f_59 : Exa Z T_57.heap b_50 "nonet/Grid" := (A_50.keep K_57)
  have f_60 : Arv Z T_57.heap b_1 k_1 .byte (16 : Int32) [(.int (nar .byte (own_dig p1 (0 : Int32)))), (.int (nar .byte (own_dig p1 (1 : Int32)))), (.int (nar .byte (own_dig p1 (2 : Int32)))), (.int (nar .byte (own_dig p1 (3 : Int32)))), (.int (nar .byte (own_dig p1 (4 : Int32)))), (.int (nar .byte (own_dig p1 (5 : Int32)))), (.int (nar .byte (own_dig p1 (6 : Int32)))), (.int (nar .byte (own_dig p1 (7 : Int32)))), (.int (nar .byte (own_dig p1 (8 : Int32)))), (.int (nar .byte (own_dig p1 (9 : Int32)))), (.int (nar .byte (own_dig p1 (10 : Int32)))), (.int (nar .byte (own_dig p1 (11 : Int32)))), (.int (nar .byte (own_dig p1 (12 : Int32)))), (.int (nar .byte (own_dig p1 (13 : Int32)))), (.int (nar .byte (own_dig p1 (14 : Int32)))), (.int (nar .byte (own_dig p1 (15 : Int32))))] (.int (0 : Int32)) := ((V_49.ext E_50).keep K_57 (ninS ne_b_1_b_50 nin0))
  have f_61 : Sta Z T_57.heap "java/lang/String" "COMPACT_STRINGS" "Z" (.int z) := (own_sta_keep ((((((((((((((((((PS_java_lang_String_COMPACT_STRINGS.ext E_1).wr W_4).wr W_7).wr W_10).wr W_13).wr W_16).wr W_19).wr W_22).wr W_25).wr W_28).wr W_31).wr W_34).wr W_37).wr W_40).wr W_43).wr W_46).wr W_49).ext E_50) K_57 (allS (own_exa_plain A_50) all0))
  have f_62 : n0 ≤ T_57.heap.size := (Nat.le_trans f_56 K_57.1)
  refine Go.virt X_57 hx hZ (y := (⟨"nonet/Grid", "toString", "()Ljava/lang/String;"⟩ : MethodName)) (z := (⟨"nonet/Grid", "toString", "()Ljava/lang/String;"⟩ : MethodName)) hown (hw _ (List.mem_of_getElem? (i := 23) rfl)) (hw _ (List.mem_of_getElem? (i := 24) rfl)) (notFace_of_selects (args := #[]) (mvT hZ (hw _ (List.mem_of_getElem? (i := 26) rfl)))) (hw _ (List.mem_of_getElem? (i := 26) rfl)) (hw _ (List.mem_of_getElem? (i := 25) rfl)) (by decide) rfl (a := b_50) f_59 (argsL := []) (rest := []) (Met1.back (W := 0) (rm4 l Z a0 hw b_50 b_1 k_1 (nar .byte (own_dig p1 (0 : Int32))) (nar .byte (own_dig p1 (1 : Int32))) (nar .byte (own_dig p1 (2 : Int32))) (nar .byte (own_dig p1 (3 : Int32))) (nar .byte (own_dig p1 (4 : Int32))) (nar .byte (own_dig p1 (5 : Int32))) (nar .byte (own_dig p1 (6 : Int32))) (nar .byte (own_dig p1 (7 : Int32))) (nar .byte (own_dig p1 (8 : Int32))) (nar .byte (own_dig p1 (9 : Int32))) (nar .byte (own_dig p1 (10 : Int32))) (nar .byte (own_dig p1 (11 : Int32))) (nar .byte (own_dig p1 (12 : Int32))) (nar .byte (own_dig p1 (13 : Int32))) (nar .byte (own_dig p1 (14 : Int32))) (nar .byte (own_dig p1 (15 : Int32))) z T_57.heap n0 f_62 f_59 pf_57_0 f_60 f_61 hz hd) hZ (hw _ (List.mem_of_getElem? (i := 27) rfl)) (hw _ (List.mem_of_getElem? (i := 9) rfl)) (by decide) (by decide)) (pc := 166) (Ls := #[.val (.long p1), .second, .val (.ref b_1), .val (.ref b_50), .unset]) (by rw [hml]; rfl) (lenOf own_pd4 rfl) rfl (Nat.le_refl _) (hb hby at_166) (by decide) (by decide) ?_
  intro T_63 v_63 L_63 X_63 hQ_63
  obtain ⟨x_63, t_63, kb_63, rfl, Nq_63, K_63, pf_63_0, pf_63_1, pf_63_2, pf_63_3⟩ := hQ_63
  have N_63 := Fr.app N_57 Nq_63
  have f_64 : Exa Z T_57.heap w4 "nonet/Size" := ((f_51.ext E_50).keep K_57)
  have f_65 : Keep h0 T_57.heap [] := (f_58.trans K_57 (allS (Or.inr sz_b_50) all0))
  show Go p e below (FinN s (Q0 Z p1 w4 z fm h0 n0) room_1.cells room_1.slots) T_63 (mkF m 169 #[.val (.long p1), .second, .val (.ref b_1), .val (.ref b_50), .unset] [(.ref x_63)])
  refine Go.to (mkF m 171 #[.val (.long p1), .second, .val (.ref b_1), .val (.ref b_50), .val (.ref x_63)] []) (fun _ k => XS.astore X_63.here hx rfl (hb hby at_169) rfl rfl (l' := #[.val (.long p1), .second, .val (.ref b_1), .val (.ref b_50), .val (.ref x_63)]) rfl k) ?_
  refine Go.to (mkF m 173 #[.val (.long p1), .second, .val (.ref b_1), .val (.ref b_50), .val (.ref x_63)] [(.ref x_63)]) (fun _ k => XS.aload X_63.here hx rfl (hb hby at_171) rfl rfl k) ?_
  have hp : ∀ c ∈ ([nar .char (own_sy (nar .byte (own_dig p1 (0 : Int32)))), nar .char (own_sy (nar .byte (own_dig p1 (1 : Int32)))), nar .char (own_sy (nar .byte (own_dig p1 (2 : Int32)))), nar .char (own_sy (nar .byte (own_dig p1 (3 : Int32)))), nar .char (own_sy (nar .byte (own_dig p1 (4 : Int32)))), nar .char (own_sy (nar .byte (own_dig p1 (5 : Int32)))), nar .char (own_sy (nar .byte (own_dig p1 (6 : Int32)))), nar .char (own_sy (nar .byte (own_dig p1 (7 : Int32)))), nar .char (own_sy (nar .byte (own_dig p1 (8 : Int32)))), nar .char (own_sy (nar .byte (own_dig p1 (9 : Int32)))), nar .char (own_sy (nar .byte (own_dig p1 (10 : Int32)))), nar .char (own_sy (nar .byte (own_dig p1 (11 : Int32)))), nar .char (own_sy (nar .byte (own_dig p1 (12 : Int32)))), nar .char (own_sy (nar .byte (own_dig p1 (13 : Int32)))), nar .char (own_sy (nar .byte (own_dig p1 (14 : Int32)))), nar .char (own_sy (nar .byte (own_dig p1 (15 : Int32))))] : List Int32), ¬ c < 0 ∧ ¬ (255 : Int32) < c := (own_cS (own_syc (own_ok_byte (own_dig_ok _ _))) (own_cS (own_syc (own_ok_byte (own_dig_ok _ _))) (own_cS (own_syc (own_ok_byte (own_dig_ok _ _))) (own_cS (own_syc (own_ok_byte (own_dig_ok _ _))) (own_cS (own_syc (own_ok_byte (own_dig_ok _ _))) (own_cS (own_syc (own_ok_byte (own_dig_ok _ _))) (own_cS (own_syc (own_ok_byte (own_dig_ok _ _))) (own_cS (own_syc (own_ok_byte (own_dig_ok _ _))) (own_cS (own_syc (own_ok_byte (own_dig_ok _ _))) (own_cS (own_syc (own_ok_byte (own_dig_ok _ _))) (own_cS (own_syc (own_ok_byte (own_dig_ok _ _))) (own_cS (own_syc (own_ok_byte (own_dig_ok _ _))) (own_cS (own_syc (own_ok_byte (own_dig_ok _ _))) (own_cS (own_syc (own_ok_byte (own_dig_ok _ _))) (own_cS (own_syc (own_ok_byte (own_dig_ok _ _))) (own_cS (own_syc (own_ok_byte (own_dig_ok _ _))) own_c0))))))))))))))))
  have f_66 : Sta Z T_63.heap "java/lang/String" "COMPACT_STRINGS" "Z" (.int z) := (own_sta_keep f_61 K_63 all0)
  have f_67 : n0 ≤ T_63.heap.size := (Nat.le_trans f_62 K_63.1)
  refine Go.virt X_63 hx hZ (y := (⟨"java/lang/String", "length", "()I"⟩ : MethodName)) (z := (⟨"java/lang/String", "length", "()I"⟩ : MethodName)) hown (hw _ (List.mem_of_getElem? (i := 59) rfl)) (hw _ (List.mem_of_getElem? (i := 60) rfl)) (notFace_of_selects (args := #[]) (mvT hZ (hw _ (List.mem_of_getElem? (i := 62) rfl)))) (hw _ (List.mem_of_getElem? (i := 62) rfl)) (hw _ (List.mem_of_getElem? (i := 61) rfl)) (by decide) rfl (a := x_63) pf_63_0 (argsL := []) (rest := []) (own_lenS (W := 0) (n0 := n0) hZ hw (hw _ (List.mem_of_getElem? (i := 34) rfl)) (cs := ([nar .char (own_sy (nar .byte (own_dig p1 (0 : Int32)))), nar .char (own_sy (nar .byte (own_dig p1 (1 : Int32)))), nar .char (own_sy (nar .byte (own_dig p1 (2 : Int32)))), nar .char (own_sy (nar .byte (own_dig p1 (3 : Int32)))), nar .char (own_sy (nar .byte (own_dig p1 (4 : Int32)))), nar .char (own_sy (nar .byte (own_dig p1 (5 : Int32)))), nar .char (own_sy (nar .byte (own_dig p1 (6 : Int32)))), nar .char (own_sy (nar .byte (own_dig p1 (7 : Int32)))), nar .char (own_sy (nar .byte (own_dig p1 (8 : Int32)))), nar .char (own_sy (nar .byte (own_dig p1 (9 : Int32)))), nar .char (own_sy (nar .byte (own_dig p1 (10 : Int32)))), nar .char (own_sy (nar .byte (own_dig p1 (11 : Int32)))), nar .char (own_sy (nar .byte (own_dig p1 (12 : Int32)))), nar .char (own_sy (nar .byte (own_dig p1 (13 : Int32)))), nar .char (own_sy (nar .byte (own_dig p1 (14 : Int32)))), nar .char (own_sy (nar .byte (own_dig p1 (15 : Int32))))] : List Int32)) pf_63_0 pf_63_1 pf_63_2 pf_63_3 f_66 hz (rfl : (([nar .char (own_sy (nar .byte (own_dig p1 (0 : Int32)))), nar .char (own_sy (nar .byte (own_dig p1 (1 : Int32)))), nar .char (own_sy (nar .byte (own_dig p1 (2 : Int32)))), nar .char (own_sy (nar .byte (own_dig p1 (3 : Int32)))), nar .char (own_sy (nar .byte (own_dig p1 (4 : Int32)))), nar .char (own_sy (nar .byte (own_dig p1 (5 : Int32)))), nar .char (own_sy (nar .byte (own_dig p1 (6 : Int32)))), nar .char (own_sy (nar .byte (own_dig p1 (7 : Int32)))), nar .char (own_sy (nar .byte (own_dig p1 (8 : Int32)))), nar .char (own_sy (nar .byte (own_dig p1 (9 : Int32)))), nar .char (own_sy (nar .byte (own_dig p1 (10 : Int32)))), nar .char (own_sy (nar .byte (own_dig p1 (11 : Int32)))), nar .char (own_sy (nar .byte (own_dig p1 (12 : Int32)))), nar .char (own_sy (nar .byte (own_dig p1 (13 : Int32)))), nar .char (own_sy (nar .byte (own_dig p1 (14 : Int32)))), nar .char (own_sy (nar .byte (own_dig p1 (15 : Int32))))] : List Int32)).length = 16) rfl hp (Nat.le_of_ble_eq_true rfl) (by decide) (by decide)) (pc := 173) (Ls := #[.val (.long p1), .second, .val (.ref b_1), .val (.ref b_50), .val (.ref x_63)]) (by rw [hml]; rfl) (lenOf own_pd5 rfl) rfl (Nat.le_refl _) (hb hby at_173) (by decide) (by decide) ?_
  intro T_68 v_68 L_68 X_68 hQ_68
  obtain ⟨rfl, Nq_68, hh_68⟩ := hQ_68
  have N_68 := Fr.app N_63 Nq_68
  show Go p e below (FinN s (Q0 Z p1 w4 z fm h0 n0) room_1.cells room_1.slots) T_68 (mkF m 176 #[.val (.long p1), .second, .val (.ref b_1), .val (.ref b_50), .val (.ref x_63)] [(.int (Int32.ofNat (([nar .char (own_sy (nar .byte (own_dig p1 (0 : Int32)))), nar .char (own_sy (nar .byte (own_dig p1 (1 : Int32)))), nar .char (own_sy (nar .byte (own_dig p1 (2 : Int32)))), nar .char (own_sy (nar .byte (own_dig p1 (3 : Int32)))), nar .char (own_sy (nar .byte (own_dig p1 (4 : Int32)))), nar .char (own_sy (nar .byte (own_dig p1 (5 : Int32)))), nar .char (own_sy (nar .byte (own_dig p1 (6 : Int32)))), nar .char (own_sy (nar .byte (own_dig p1 (7 : Int32)))), nar .char (own_sy (nar .byte (own_dig p1 (8 : Int32)))), nar .char (own_sy (nar .byte (own_dig p1 (9 : Int32)))), nar .char (own_sy (nar .byte (own_dig p1 (10 : Int32)))), nar .char (own_sy (nar .byte (own_dig p1 (11 : Int32)))), nar .char (own_sy (nar .byte (own_dig p1 (12 : Int32)))), nar .char (own_sy (nar .byte (own_dig p1 (13 : Int32)))), nar .char (own_sy (nar .byte (own_dig p1 (14 : Int32)))), nar .char (own_sy (nar .byte (own_dig p1 (15 : Int32))))] : List Int32)).length))])
  refine Go.to (mkF m 178 #[.val (.long p1), .second, .val (.ref b_1), .val (.ref b_50), .val (.ref x_63)] [(.int (16 : Int32)), (.int (Int32.ofNat (([nar .char (own_sy (nar .byte (own_dig p1 (0 : Int32)))), nar .char (own_sy (nar .byte (own_dig p1 (1 : Int32)))), nar .char (own_sy (nar .byte (own_dig p1 (2 : Int32)))), nar .char (own_sy (nar .byte (own_dig p1 (3 : Int32)))), nar .char (own_sy (nar .byte (own_dig p1 (4 : Int32)))), nar .char (own_sy (nar .byte (own_dig p1 (5 : Int32)))), nar .char (own_sy (nar .byte (own_dig p1 (6 : Int32)))), nar .char (own_sy (nar .byte (own_dig p1 (7 : Int32)))), nar .char (own_sy (nar .byte (own_dig p1 (8 : Int32)))), nar .char (own_sy (nar .byte (own_dig p1 (9 : Int32)))), nar .char (own_sy (nar .byte (own_dig p1 (10 : Int32)))), nar .char (own_sy (nar .byte (own_dig p1 (11 : Int32)))), nar .char (own_sy (nar .byte (own_dig p1 (12 : Int32)))), nar .char (own_sy (nar .byte (own_dig p1 (13 : Int32)))), nar .char (own_sy (nar .byte (own_dig p1 (14 : Int32)))), nar .char (own_sy (nar .byte (own_dig p1 (15 : Int32))))] : List Int32)).length))]) (fun _ k => XS.bipush X_68.here hx rfl (hb hby at_176) k) ?_
  refine Go.to (mkF m 183 #[.val (.long p1), .second, .val (.ref b_1), .val (.ref b_50), .val (.ref x_63)] []) (fun _ k => XS.icmpYes X_68.here hx rfl (pc0 := 178) (pc' := 183) rfl (hb hby at_178) rfl (teq rfl).1 (by decide) (by decide) k) ?_
  refine Go.to (mkF m 185 #[.val (.long p1), .second, .val (.ref b_1), .val (.ref b_50), .val (.ref x_63)] [(.ref x_63)]) (fun _ k => XS.aload X_68.here hx rfl (hb hby at_183) rfl rfl k) ?_
  refine Go.to (mkF m 186 #[.val (.long p1), .second, .val (.ref b_1), .val (.ref b_50), .val (.ref x_63)] [(.long p1), (.ref x_63)]) (fun _ k => XS.lloadN X_68.here hx rfl (hb hby at_185) rfl  k) ?_
  refine Go.to (mkF m 187 #[.val (.long p1), .second, .val (.ref b_1), .val (.ref b_50), .val (.ref x_63)] [(.int (0 : Int32)), (.long p1), (.ref x_63)]) (fun _ k => XS.iconst X_68.here hx rfl (hb hby at_186) k) ?_
  have f_69 : Sta Z T_63.heap "jdk/internal/util/Preconditions" "SIOOBE_FORMATTER" "Ljava/util/function/BiFunction;" fm := (own_sta_keep (own_sta_keep ((((((((((((((((((PS_jdk_internal_util_Preconditions_SIOOBE_FORMATTER.ext E_1).wr W_4).wr W_7).wr W_10).wr W_13).wr W_16).wr W_19).wr W_22).wr W_25).wr W_28).wr W_31).wr W_34).wr W_37).wr W_40).wr W_43).wr W_46).wr W_49).ext E_50) K_57 (allS (own_exa_plain A_50) all0)) K_63 all0)
  refine Go.stat X_68 hx hZ (y := (⟨"nonet/GridToStringPinLaw", "at", "(Ljava/lang/String;JI)Z"⟩ : MethodName)) hown (hw _ (List.mem_of_getElem? (i := 69) rfl)) (hw _ (List.mem_of_getElem? (i := 70) rfl)) (hw _ (List.mem_of_getElem? (i := 3) rfl)) (hw _ (List.mem_of_getElem? (i := 71) rfl)) (by decide) hh_68 (argsL := [(.ref x_63), (.long p1), (.int (0 : Int32))]) (rest := []) (Met1.back (W := 0) (rm13 l Z a0 hw x_63 t_63 kb_63 (16 : Int32) ([nar .char (own_sy (nar .byte (own_dig p1 (0 : Int32)))), nar .char (own_sy (nar .byte (own_dig p1 (1 : Int32)))), nar .char (own_sy (nar .byte (own_dig p1 (2 : Int32)))), nar .char (own_sy (nar .byte (own_dig p1 (3 : Int32)))), nar .char (own_sy (nar .byte (own_dig p1 (4 : Int32)))), nar .char (own_sy (nar .byte (own_dig p1 (5 : Int32)))), nar .char (own_sy (nar .byte (own_dig p1 (6 : Int32)))), nar .char (own_sy (nar .byte (own_dig p1 (7 : Int32)))), nar .char (own_sy (nar .byte (own_dig p1 (8 : Int32)))), nar .char (own_sy (nar .byte (own_dig p1 (9 : Int32)))), nar .char (own_sy (nar .byte (own_dig p1 (10 : Int32)))), nar .char (own_sy (nar .byte (own_dig p1 (11 : Int32)))), nar .char (own_sy (nar .byte (own_dig p1 (12 : Int32)))), nar .char (own_sy (nar .byte (own_dig p1 (13 : Int32)))), nar .char (own_sy (nar .byte (own_dig p1 (14 : Int32)))), nar .char (own_sy (nar .byte (own_dig p1 (15 : Int32))))] : List Int32) z p1 (0 : Int32) 0 fm T_63.heap n0 f_67 pf_63_0 pf_63_1 pf_63_2 pf_63_3 f_66 f_69 hz rf rfl rfl hp (by decide) rfl (own_same (own_dig_ok _ _))) hZ (hw _ (List.mem_of_getElem? (i := 71) rfl)) (hw _ (List.mem_of_getElem? (i := 3) rfl)) (by decide) (by decide)) (pc := 187) (Ls := #[.val (.long p1), .second, .val (.ref b_1), .val (.ref b_50), .val (.ref x_63)]) (by rw [hml]; rfl) (lenOf own_pd6 rfl) rfl (Nat.le_refl _) (hb hby at_187) (by decide) (by decide) ?_
  intro T_70 v_70 L_70 X_70 hQ_70
  obtain ⟨rfl, Nq_70, hh_70⟩ := hQ_70
  have N_70 := Fr.app N_68 Nq_70
  show Go p e below (FinN s (Q0 Z p1 w4 z fm h0 n0) room_1.cells room_1.slots) T_70 (mkF m 190 #[.val (.long p1), .second, .val (.ref b_1), .val (.ref b_50), .val (.ref x_63)] [(.int (1 : Int32))])
  refine Go.to (mkF m 193 #[.val (.long p1), .second, .val (.ref b_1), .val (.ref b_50), .val (.ref x_63)] []) (fun _ k => XS.ifNo X_70.here hx rfl (hb hby at_190) rfl ((if0 _ _).trans (feq (by decide : ¬ ((1 : Int32) = (0 : Int32)))).1) k) ?_
  refine Go.to (mkF m 195 #[.val (.long p1), .second, .val (.ref b_1), .val (.ref b_50), .val (.ref x_63)] [(.ref x_63)]) (fun _ k => XS.aload X_70.here hx rfl (hb hby at_193) rfl rfl k) ?_
  refine Go.to (mkF m 196 #[.val (.long p1), .second, .val (.ref b_1), .val (.ref b_50), .val (.ref x_63)] [(.long p1), (.ref x_63)]) (fun _ k => XS.lloadN X_70.here hx rfl (hb hby at_195) rfl  k) ?_
  refine Go.to (mkF m 197 #[.val (.long p1), .second, .val (.ref b_1), .val (.ref b_50), .val (.ref x_63)] [(.int (1 : Int32)), (.long p1), (.ref x_63)]) (fun _ k => XS.iconst X_70.here hx rfl (hb hby at_196) k) ?_
  refine Go.stat X_70 hx hZ (y := (⟨"nonet/GridToStringPinLaw", "at", "(Ljava/lang/String;JI)Z"⟩ : MethodName)) hown (hw _ (List.mem_of_getElem? (i := 69) rfl)) (hw _ (List.mem_of_getElem? (i := 70) rfl)) (hw _ (List.mem_of_getElem? (i := 3) rfl)) (hw _ (List.mem_of_getElem? (i := 71) rfl)) (by decide) hh_70 (argsL := [(.ref x_63), (.long p1), (.int (1 : Int32))]) (rest := []) (Met1.back (W := 0) (rm13 l Z a0 hw x_63 t_63 kb_63 (16 : Int32) ([nar .char (own_sy (nar .byte (own_dig p1 (0 : Int32)))), nar .char (own_sy (nar .byte (own_dig p1 (1 : Int32)))), nar .char (own_sy (nar .byte (own_dig p1 (2 : Int32)))), nar .char (own_sy (nar .byte (own_dig p1 (3 : Int32)))), nar .char (own_sy (nar .byte (own_dig p1 (4 : Int32)))), nar .char (own_sy (nar .byte (own_dig p1 (5 : Int32)))), nar .char (own_sy (nar .byte (own_dig p1 (6 : Int32)))), nar .char (own_sy (nar .byte (own_dig p1 (7 : Int32)))), nar .char (own_sy (nar .byte (own_dig p1 (8 : Int32)))), nar .char (own_sy (nar .byte (own_dig p1 (9 : Int32)))), nar .char (own_sy (nar .byte (own_dig p1 (10 : Int32)))), nar .char (own_sy (nar .byte (own_dig p1 (11 : Int32)))), nar .char (own_sy (nar .byte (own_dig p1 (12 : Int32)))), nar .char (own_sy (nar .byte (own_dig p1 (13 : Int32)))), nar .char (own_sy (nar .byte (own_dig p1 (14 : Int32)))), nar .char (own_sy (nar .byte (own_dig p1 (15 : Int32))))] : List Int32) z p1 (1 : Int32) 1 fm T_63.heap n0 f_67 pf_63_0 pf_63_1 pf_63_2 pf_63_3 f_66 f_69 hz rf rfl rfl hp (by decide) rfl (own_same (own_dig_ok _ _))) hZ (hw _ (List.mem_of_getElem? (i := 71) rfl)) (hw _ (List.mem_of_getElem? (i := 3) rfl)) (by decide) (by decide)) (pc := 197) (Ls := #[.val (.long p1), .second, .val (.ref b_1), .val (.ref b_50), .val (.ref x_63)]) (by rw [hml]; rfl) (lenOf own_pd6 rfl) rfl (Nat.le_refl _) (hb hby at_197) (by decide) (by decide) ?_
  intro T_71 v_71 L_71 X_71 hQ_71
  obtain ⟨rfl, Nq_71, hh_71⟩ := hQ_71
  have N_71 := Fr.app N_70 Nq_71
  show Go p e below (FinN s (Q0 Z p1 w4 z fm h0 n0) room_1.cells room_1.slots) T_71 (mkF m 200 #[.val (.long p1), .second, .val (.ref b_1), .val (.ref b_50), .val (.ref x_63)] [(.int (1 : Int32))])
  refine Go.to (mkF m 203 #[.val (.long p1), .second, .val (.ref b_1), .val (.ref b_50), .val (.ref x_63)] []) (fun _ k => XS.ifNo X_71.here hx rfl (hb hby at_200) rfl ((if0 _ _).trans (feq (by decide : ¬ ((1 : Int32) = (0 : Int32)))).1) k) ?_
  refine Go.to (mkF m 205 #[.val (.long p1), .second, .val (.ref b_1), .val (.ref b_50), .val (.ref x_63)] [(.ref x_63)]) (fun _ k => XS.aload X_71.here hx rfl (hb hby at_203) rfl rfl k) ?_
  refine Go.to (mkF m 206 #[.val (.long p1), .second, .val (.ref b_1), .val (.ref b_50), .val (.ref x_63)] [(.long p1), (.ref x_63)]) (fun _ k => XS.lloadN X_71.here hx rfl (hb hby at_205) rfl  k) ?_
  refine Go.to (mkF m 207 #[.val (.long p1), .second, .val (.ref b_1), .val (.ref b_50), .val (.ref x_63)] [(.int (2 : Int32)), (.long p1), (.ref x_63)]) (fun _ k => XS.iconst X_71.here hx rfl (hb hby at_206) k) ?_
  refine Go.stat X_71 hx hZ (y := (⟨"nonet/GridToStringPinLaw", "at", "(Ljava/lang/String;JI)Z"⟩ : MethodName)) hown (hw _ (List.mem_of_getElem? (i := 69) rfl)) (hw _ (List.mem_of_getElem? (i := 70) rfl)) (hw _ (List.mem_of_getElem? (i := 3) rfl)) (hw _ (List.mem_of_getElem? (i := 71) rfl)) (by decide) hh_71 (argsL := [(.ref x_63), (.long p1), (.int (2 : Int32))]) (rest := []) (Met1.back (W := 0) (rm13 l Z a0 hw x_63 t_63 kb_63 (16 : Int32) ([nar .char (own_sy (nar .byte (own_dig p1 (0 : Int32)))), nar .char (own_sy (nar .byte (own_dig p1 (1 : Int32)))), nar .char (own_sy (nar .byte (own_dig p1 (2 : Int32)))), nar .char (own_sy (nar .byte (own_dig p1 (3 : Int32)))), nar .char (own_sy (nar .byte (own_dig p1 (4 : Int32)))), nar .char (own_sy (nar .byte (own_dig p1 (5 : Int32)))), nar .char (own_sy (nar .byte (own_dig p1 (6 : Int32)))), nar .char (own_sy (nar .byte (own_dig p1 (7 : Int32)))), nar .char (own_sy (nar .byte (own_dig p1 (8 : Int32)))), nar .char (own_sy (nar .byte (own_dig p1 (9 : Int32)))), nar .char (own_sy (nar .byte (own_dig p1 (10 : Int32)))), nar .char (own_sy (nar .byte (own_dig p1 (11 : Int32)))), nar .char (own_sy (nar .byte (own_dig p1 (12 : Int32)))), nar .char (own_sy (nar .byte (own_dig p1 (13 : Int32)))), nar .char (own_sy (nar .byte (own_dig p1 (14 : Int32)))), nar .char (own_sy (nar .byte (own_dig p1 (15 : Int32))))] : List Int32) z p1 (2 : Int32) 2 fm T_63.heap n0 f_67 pf_63_0 pf_63_1 pf_63_2 pf_63_3 f_66 f_69 hz rf rfl rfl hp (by decide) rfl (own_same (own_dig_ok _ _))) hZ (hw _ (List.mem_of_getElem? (i := 71) rfl)) (hw _ (List.mem_of_getElem? (i := 3) rfl)) (by decide) (by decide)) (pc := 207) (Ls := #[.val (.long p1), .second, .val (.ref b_1), .val (.ref b_50), .val (.ref x_63)]) (by rw [hml]; rfl) (lenOf own_pd6 rfl) rfl (Nat.le_refl _) (hb hby at_207) (by decide) (by decide) ?_
  intro T_72 v_72 L_72 X_72 hQ_72
  obtain ⟨rfl, Nq_72, hh_72⟩ := hQ_72
  have N_72 := Fr.app N_71 Nq_72
  show Go p e below (FinN s (Q0 Z p1 w4 z fm h0 n0) room_1.cells room_1.slots) T_72 (mkF m 210 #[.val (.long p1), .second, .val (.ref b_1), .val (.ref b_50), .val (.ref x_63)] [(.int (1 : Int32))])
  refine Go.to (mkF m 213 #[.val (.long p1), .second, .val (.ref b_1), .val (.ref b_50), .val (.ref x_63)] []) (fun _ k => XS.ifNo X_72.here hx rfl (hb hby at_210) rfl ((if0 _ _).trans (feq (by decide : ¬ ((1 : Int32) = (0 : Int32)))).1) k) ?_
  refine Go.to (mkF m 215 #[.val (.long p1), .second, .val (.ref b_1), .val (.ref b_50), .val (.ref x_63)] [(.ref x_63)]) (fun _ k => XS.aload X_72.here hx rfl (hb hby at_213) rfl rfl k) ?_
  refine Go.to (mkF m 216 #[.val (.long p1), .second, .val (.ref b_1), .val (.ref b_50), .val (.ref x_63)] [(.long p1), (.ref x_63)]) (fun _ k => XS.lloadN X_72.here hx rfl (hb hby at_215) rfl  k) ?_
  refine Go.to (mkF m 217 #[.val (.long p1), .second, .val (.ref b_1), .val (.ref b_50), .val (.ref x_63)] [(.int (3 : Int32)), (.long p1), (.ref x_63)]) (fun _ k => XS.iconst X_72.here hx rfl (hb hby at_216) k) ?_
  refine Go.stat X_72 hx hZ (y := (⟨"nonet/GridToStringPinLaw", "at", "(Ljava/lang/String;JI)Z"⟩ : MethodName)) hown (hw _ (List.mem_of_getElem? (i := 69) rfl)) (hw _ (List.mem_of_getElem? (i := 70) rfl)) (hw _ (List.mem_of_getElem? (i := 3) rfl)) (hw _ (List.mem_of_getElem? (i := 71) rfl)) (by decide) hh_72 (argsL := [(.ref x_63), (.long p1), (.int (3 : Int32))]) (rest := []) (Met1.back (W := 0) (rm13 l Z a0 hw x_63 t_63 kb_63 (16 : Int32) ([nar .char (own_sy (nar .byte (own_dig p1 (0 : Int32)))), nar .char (own_sy (nar .byte (own_dig p1 (1 : Int32)))), nar .char (own_sy (nar .byte (own_dig p1 (2 : Int32)))), nar .char (own_sy (nar .byte (own_dig p1 (3 : Int32)))), nar .char (own_sy (nar .byte (own_dig p1 (4 : Int32)))), nar .char (own_sy (nar .byte (own_dig p1 (5 : Int32)))), nar .char (own_sy (nar .byte (own_dig p1 (6 : Int32)))), nar .char (own_sy (nar .byte (own_dig p1 (7 : Int32)))), nar .char (own_sy (nar .byte (own_dig p1 (8 : Int32)))), nar .char (own_sy (nar .byte (own_dig p1 (9 : Int32)))), nar .char (own_sy (nar .byte (own_dig p1 (10 : Int32)))), nar .char (own_sy (nar .byte (own_dig p1 (11 : Int32)))), nar .char (own_sy (nar .byte (own_dig p1 (12 : Int32)))), nar .char (own_sy (nar .byte (own_dig p1 (13 : Int32)))), nar .char (own_sy (nar .byte (own_dig p1 (14 : Int32)))), nar .char (own_sy (nar .byte (own_dig p1 (15 : Int32))))] : List Int32) z p1 (3 : Int32) 3 fm T_63.heap n0 f_67 pf_63_0 pf_63_1 pf_63_2 pf_63_3 f_66 f_69 hz rf rfl rfl hp (by decide) rfl (own_same (own_dig_ok _ _))) hZ (hw _ (List.mem_of_getElem? (i := 71) rfl)) (hw _ (List.mem_of_getElem? (i := 3) rfl)) (by decide) (by decide)) (pc := 217) (Ls := #[.val (.long p1), .second, .val (.ref b_1), .val (.ref b_50), .val (.ref x_63)]) (by rw [hml]; rfl) (lenOf own_pd6 rfl) rfl (Nat.le_refl _) (hb hby at_217) (by decide) (by decide) ?_
  intro T_73 v_73 L_73 X_73 hQ_73
  obtain ⟨rfl, Nq_73, hh_73⟩ := hQ_73
  have N_73 := Fr.app N_72 Nq_73
  show Go p e below (FinN s (Q0 Z p1 w4 z fm h0 n0) room_1.cells room_1.slots) T_73 (mkF m 220 #[.val (.long p1), .second, .val (.ref b_1), .val (.ref b_50), .val (.ref x_63)] [(.int (1 : Int32))])
  refine Go.to (mkF m 223 #[.val (.long p1), .second, .val (.ref b_1), .val (.ref b_50), .val (.ref x_63)] []) (fun _ k => XS.ifNo X_73.here hx rfl (hb hby at_220) rfl ((if0 _ _).trans (feq (by decide : ¬ ((1 : Int32) = (0 : Int32)))).1) k) ?_
  refine Go.to (mkF m 225 #[.val (.long p1), .second, .val (.ref b_1), .val (.ref b_50), .val (.ref x_63)] [(.ref x_63)]) (fun _ k => XS.aload X_73.here hx rfl (hb hby at_223) rfl rfl k) ?_
  refine Go.to (mkF m 226 #[.val (.long p1), .second, .val (.ref b_1), .val (.ref b_50), .val (.ref x_63)] [(.long p1), (.ref x_63)]) (fun _ k => XS.lloadN X_73.here hx rfl (hb hby at_225) rfl  k) ?_
  refine Go.to (mkF m 227 #[.val (.long p1), .second, .val (.ref b_1), .val (.ref b_50), .val (.ref x_63)] [(.int (4 : Int32)), (.long p1), (.ref x_63)]) (fun _ k => XS.iconst X_73.here hx rfl (hb hby at_226) k) ?_
  refine Go.stat X_73 hx hZ (y := (⟨"nonet/GridToStringPinLaw", "at", "(Ljava/lang/String;JI)Z"⟩ : MethodName)) hown (hw _ (List.mem_of_getElem? (i := 69) rfl)) (hw _ (List.mem_of_getElem? (i := 70) rfl)) (hw _ (List.mem_of_getElem? (i := 3) rfl)) (hw _ (List.mem_of_getElem? (i := 71) rfl)) (by decide) hh_73 (argsL := [(.ref x_63), (.long p1), (.int (4 : Int32))]) (rest := []) (Met1.back (W := 0) (rm13 l Z a0 hw x_63 t_63 kb_63 (16 : Int32) ([nar .char (own_sy (nar .byte (own_dig p1 (0 : Int32)))), nar .char (own_sy (nar .byte (own_dig p1 (1 : Int32)))), nar .char (own_sy (nar .byte (own_dig p1 (2 : Int32)))), nar .char (own_sy (nar .byte (own_dig p1 (3 : Int32)))), nar .char (own_sy (nar .byte (own_dig p1 (4 : Int32)))), nar .char (own_sy (nar .byte (own_dig p1 (5 : Int32)))), nar .char (own_sy (nar .byte (own_dig p1 (6 : Int32)))), nar .char (own_sy (nar .byte (own_dig p1 (7 : Int32)))), nar .char (own_sy (nar .byte (own_dig p1 (8 : Int32)))), nar .char (own_sy (nar .byte (own_dig p1 (9 : Int32)))), nar .char (own_sy (nar .byte (own_dig p1 (10 : Int32)))), nar .char (own_sy (nar .byte (own_dig p1 (11 : Int32)))), nar .char (own_sy (nar .byte (own_dig p1 (12 : Int32)))), nar .char (own_sy (nar .byte (own_dig p1 (13 : Int32)))), nar .char (own_sy (nar .byte (own_dig p1 (14 : Int32)))), nar .char (own_sy (nar .byte (own_dig p1 (15 : Int32))))] : List Int32) z p1 (4 : Int32) 4 fm T_63.heap n0 f_67 pf_63_0 pf_63_1 pf_63_2 pf_63_3 f_66 f_69 hz rf rfl rfl hp (by decide) rfl (own_same (own_dig_ok _ _))) hZ (hw _ (List.mem_of_getElem? (i := 71) rfl)) (hw _ (List.mem_of_getElem? (i := 3) rfl)) (by decide) (by decide)) (pc := 227) (Ls := #[.val (.long p1), .second, .val (.ref b_1), .val (.ref b_50), .val (.ref x_63)]) (by rw [hml]; rfl) (lenOf own_pd6 rfl) rfl (Nat.le_refl _) (hb hby at_227) (by decide) (by decide) ?_
  intro T_74 v_74 L_74 X_74 hQ_74
  obtain ⟨rfl, Nq_74, hh_74⟩ := hQ_74
  have N_74 := Fr.app N_73 Nq_74
  show Go p e below (FinN s (Q0 Z p1 w4 z fm h0 n0) room_1.cells room_1.slots) T_74 (mkF m 230 #[.val (.long p1), .second, .val (.ref b_1), .val (.ref b_50), .val (.ref x_63)] [(.int (1 : Int32))])
  refine Go.to (mkF m 233 #[.val (.long p1), .second, .val (.ref b_1), .val (.ref b_50), .val (.ref x_63)] []) (fun _ k => XS.ifNo X_74.here hx rfl (hb hby at_230) rfl ((if0 _ _).trans (feq (by decide : ¬ ((1 : Int32) = (0 : Int32)))).1) k) ?_
  refine Go.to (mkF m 235 #[.val (.long p1), .second, .val (.ref b_1), .val (.ref b_50), .val (.ref x_63)] [(.ref x_63)]) (fun _ k => XS.aload X_74.here hx rfl (hb hby at_233) rfl rfl k) ?_
  refine Go.to (mkF m 236 #[.val (.long p1), .second, .val (.ref b_1), .val (.ref b_50), .val (.ref x_63)] [(.long p1), (.ref x_63)]) (fun _ k => XS.lloadN X_74.here hx rfl (hb hby at_235) rfl  k) ?_
  refine Go.to (mkF m 237 #[.val (.long p1), .second, .val (.ref b_1), .val (.ref b_50), .val (.ref x_63)] [(.int (5 : Int32)), (.long p1), (.ref x_63)]) (fun _ k => XS.iconst X_74.here hx rfl (hb hby at_236) k) ?_
  refine Go.stat X_74 hx hZ (y := (⟨"nonet/GridToStringPinLaw", "at", "(Ljava/lang/String;JI)Z"⟩ : MethodName)) hown (hw _ (List.mem_of_getElem? (i := 69) rfl)) (hw _ (List.mem_of_getElem? (i := 70) rfl)) (hw _ (List.mem_of_getElem? (i := 3) rfl)) (hw _ (List.mem_of_getElem? (i := 71) rfl)) (by decide) hh_74 (argsL := [(.ref x_63), (.long p1), (.int (5 : Int32))]) (rest := []) (Met1.back (W := 0) (rm13 l Z a0 hw x_63 t_63 kb_63 (16 : Int32) ([nar .char (own_sy (nar .byte (own_dig p1 (0 : Int32)))), nar .char (own_sy (nar .byte (own_dig p1 (1 : Int32)))), nar .char (own_sy (nar .byte (own_dig p1 (2 : Int32)))), nar .char (own_sy (nar .byte (own_dig p1 (3 : Int32)))), nar .char (own_sy (nar .byte (own_dig p1 (4 : Int32)))), nar .char (own_sy (nar .byte (own_dig p1 (5 : Int32)))), nar .char (own_sy (nar .byte (own_dig p1 (6 : Int32)))), nar .char (own_sy (nar .byte (own_dig p1 (7 : Int32)))), nar .char (own_sy (nar .byte (own_dig p1 (8 : Int32)))), nar .char (own_sy (nar .byte (own_dig p1 (9 : Int32)))), nar .char (own_sy (nar .byte (own_dig p1 (10 : Int32)))), nar .char (own_sy (nar .byte (own_dig p1 (11 : Int32)))), nar .char (own_sy (nar .byte (own_dig p1 (12 : Int32)))), nar .char (own_sy (nar .byte (own_dig p1 (13 : Int32)))), nar .char (own_sy (nar .byte (own_dig p1 (14 : Int32)))), nar .char (own_sy (nar .byte (own_dig p1 (15 : Int32))))] : List Int32) z p1 (5 : Int32) 5 fm T_63.heap n0 f_67 pf_63_0 pf_63_1 pf_63_2 pf_63_3 f_66 f_69 hz rf rfl rfl hp (by decide) rfl (own_same (own_dig_ok _ _))) hZ (hw _ (List.mem_of_getElem? (i := 71) rfl)) (hw _ (List.mem_of_getElem? (i := 3) rfl)) (by decide) (by decide)) (pc := 237) (Ls := #[.val (.long p1), .second, .val (.ref b_1), .val (.ref b_50), .val (.ref x_63)]) (by rw [hml]; rfl) (lenOf own_pd6 rfl) rfl (Nat.le_refl _) (hb hby at_237) (by decide) (by decide) ?_
  intro T_75 v_75 L_75 X_75 hQ_75
  obtain ⟨rfl, Nq_75, hh_75⟩ := hQ_75
  have N_75 := Fr.app N_74 Nq_75
  show Go p e below (FinN s (Q0 Z p1 w4 z fm h0 n0) room_1.cells room_1.slots) T_75 (mkF m 240 #[.val (.long p1), .second, .val (.ref b_1), .val (.ref b_50), .val (.ref x_63)] [(.int (1 : Int32))])
  refine Go.to (mkF m 243 #[.val (.long p1), .second, .val (.ref b_1), .val (.ref b_50), .val (.ref x_63)] []) (fun _ k => XS.ifNo X_75.here hx rfl (hb hby at_240) rfl ((if0 _ _).trans (feq (by decide : ¬ ((1 : Int32) = (0 : Int32)))).1) k) ?_
  refine Go.to (mkF m 245 #[.val (.long p1), .second, .val (.ref b_1), .val (.ref b_50), .val (.ref x_63)] [(.ref x_63)]) (fun _ k => XS.aload X_75.here hx rfl (hb hby at_243) rfl rfl k) ?_
  refine Go.to (mkF m 246 #[.val (.long p1), .second, .val (.ref b_1), .val (.ref b_50), .val (.ref x_63)] [(.long p1), (.ref x_63)]) (fun _ k => XS.lloadN X_75.here hx rfl (hb hby at_245) rfl  k) ?_
  refine Go.to (mkF m 248 #[.val (.long p1), .second, .val (.ref b_1), .val (.ref b_50), .val (.ref x_63)] [(.int (6 : Int32)), (.long p1), (.ref x_63)]) (fun _ k => XS.bipush X_75.here hx rfl (hb hby at_246) k) ?_
  refine Go.stat X_75 hx hZ (y := (⟨"nonet/GridToStringPinLaw", "at", "(Ljava/lang/String;JI)Z"⟩ : MethodName)) hown (hw _ (List.mem_of_getElem? (i := 69) rfl)) (hw _ (List.mem_of_getElem? (i := 70) rfl)) (hw _ (List.mem_of_getElem? (i := 3) rfl)) (hw _ (List.mem_of_getElem? (i := 71) rfl)) (by decide) hh_75 (argsL := [(.ref x_63), (.long p1), (.int (6 : Int32))]) (rest := []) (Met1.back (W := 0) (rm13 l Z a0 hw x_63 t_63 kb_63 (16 : Int32) ([nar .char (own_sy (nar .byte (own_dig p1 (0 : Int32)))), nar .char (own_sy (nar .byte (own_dig p1 (1 : Int32)))), nar .char (own_sy (nar .byte (own_dig p1 (2 : Int32)))), nar .char (own_sy (nar .byte (own_dig p1 (3 : Int32)))), nar .char (own_sy (nar .byte (own_dig p1 (4 : Int32)))), nar .char (own_sy (nar .byte (own_dig p1 (5 : Int32)))), nar .char (own_sy (nar .byte (own_dig p1 (6 : Int32)))), nar .char (own_sy (nar .byte (own_dig p1 (7 : Int32)))), nar .char (own_sy (nar .byte (own_dig p1 (8 : Int32)))), nar .char (own_sy (nar .byte (own_dig p1 (9 : Int32)))), nar .char (own_sy (nar .byte (own_dig p1 (10 : Int32)))), nar .char (own_sy (nar .byte (own_dig p1 (11 : Int32)))), nar .char (own_sy (nar .byte (own_dig p1 (12 : Int32)))), nar .char (own_sy (nar .byte (own_dig p1 (13 : Int32)))), nar .char (own_sy (nar .byte (own_dig p1 (14 : Int32)))), nar .char (own_sy (nar .byte (own_dig p1 (15 : Int32))))] : List Int32) z p1 (6 : Int32) 6 fm T_63.heap n0 f_67 pf_63_0 pf_63_1 pf_63_2 pf_63_3 f_66 f_69 hz rf rfl rfl hp (by decide) rfl (own_same (own_dig_ok _ _))) hZ (hw _ (List.mem_of_getElem? (i := 71) rfl)) (hw _ (List.mem_of_getElem? (i := 3) rfl)) (by decide) (by decide)) (pc := 248) (Ls := #[.val (.long p1), .second, .val (.ref b_1), .val (.ref b_50), .val (.ref x_63)]) (by rw [hml]; rfl) (lenOf own_pd6 rfl) rfl (Nat.le_refl _) (hb hby at_248) (by decide) (by decide) ?_
  intro T_76 v_76 L_76 X_76 hQ_76
  obtain ⟨rfl, Nq_76, hh_76⟩ := hQ_76
  have N_76 := Fr.app N_75 Nq_76
  show Go p e below (FinN s (Q0 Z p1 w4 z fm h0 n0) room_1.cells room_1.slots) T_76 (mkF m 251 #[.val (.long p1), .second, .val (.ref b_1), .val (.ref b_50), .val (.ref x_63)] [(.int (1 : Int32))])
  refine Go.to (mkF m 254 #[.val (.long p1), .second, .val (.ref b_1), .val (.ref b_50), .val (.ref x_63)] []) (fun _ k => XS.ifNo X_76.here hx rfl (hb hby at_251) rfl ((if0 _ _).trans (feq (by decide : ¬ ((1 : Int32) = (0 : Int32)))).1) k) ?_
  refine Go.to (mkF m 256 #[.val (.long p1), .second, .val (.ref b_1), .val (.ref b_50), .val (.ref x_63)] [(.ref x_63)]) (fun _ k => XS.aload X_76.here hx rfl (hb hby at_254) rfl rfl k) ?_
  refine Go.to (mkF m 257 #[.val (.long p1), .second, .val (.ref b_1), .val (.ref b_50), .val (.ref x_63)] [(.long p1), (.ref x_63)]) (fun _ k => XS.lloadN X_76.here hx rfl (hb hby at_256) rfl  k) ?_
  refine Go.to (mkF m 259 #[.val (.long p1), .second, .val (.ref b_1), .val (.ref b_50), .val (.ref x_63)] [(.int (7 : Int32)), (.long p1), (.ref x_63)]) (fun _ k => XS.bipush X_76.here hx rfl (hb hby at_257) k) ?_
  refine Go.stat X_76 hx hZ (y := (⟨"nonet/GridToStringPinLaw", "at", "(Ljava/lang/String;JI)Z"⟩ : MethodName)) hown (hw _ (List.mem_of_getElem? (i := 69) rfl)) (hw _ (List.mem_of_getElem? (i := 70) rfl)) (hw _ (List.mem_of_getElem? (i := 3) rfl)) (hw _ (List.mem_of_getElem? (i := 71) rfl)) (by decide) hh_76 (argsL := [(.ref x_63), (.long p1), (.int (7 : Int32))]) (rest := []) (Met1.back (W := 0) (rm13 l Z a0 hw x_63 t_63 kb_63 (16 : Int32) ([nar .char (own_sy (nar .byte (own_dig p1 (0 : Int32)))), nar .char (own_sy (nar .byte (own_dig p1 (1 : Int32)))), nar .char (own_sy (nar .byte (own_dig p1 (2 : Int32)))), nar .char (own_sy (nar .byte (own_dig p1 (3 : Int32)))), nar .char (own_sy (nar .byte (own_dig p1 (4 : Int32)))), nar .char (own_sy (nar .byte (own_dig p1 (5 : Int32)))), nar .char (own_sy (nar .byte (own_dig p1 (6 : Int32)))), nar .char (own_sy (nar .byte (own_dig p1 (7 : Int32)))), nar .char (own_sy (nar .byte (own_dig p1 (8 : Int32)))), nar .char (own_sy (nar .byte (own_dig p1 (9 : Int32)))), nar .char (own_sy (nar .byte (own_dig p1 (10 : Int32)))), nar .char (own_sy (nar .byte (own_dig p1 (11 : Int32)))), nar .char (own_sy (nar .byte (own_dig p1 (12 : Int32)))), nar .char (own_sy (nar .byte (own_dig p1 (13 : Int32)))), nar .char (own_sy (nar .byte (own_dig p1 (14 : Int32)))), nar .char (own_sy (nar .byte (own_dig p1 (15 : Int32))))] : List Int32) z p1 (7 : Int32) 7 fm T_63.heap n0 f_67 pf_63_0 pf_63_1 pf_63_2 pf_63_3 f_66 f_69 hz rf rfl rfl hp (by decide) rfl (own_same (own_dig_ok _ _))) hZ (hw _ (List.mem_of_getElem? (i := 71) rfl)) (hw _ (List.mem_of_getElem? (i := 3) rfl)) (by decide) (by decide)) (pc := 259) (Ls := #[.val (.long p1), .second, .val (.ref b_1), .val (.ref b_50), .val (.ref x_63)]) (by rw [hml]; rfl) (lenOf own_pd6 rfl) rfl (Nat.le_refl _) (hb hby at_259) (by decide) (by decide) ?_
  intro T_77 v_77 L_77 X_77 hQ_77
  obtain ⟨rfl, Nq_77, hh_77⟩ := hQ_77
  have N_77 := Fr.app N_76 Nq_77
  show Go p e below (FinN s (Q0 Z p1 w4 z fm h0 n0) room_1.cells room_1.slots) T_77 (mkF m 262 #[.val (.long p1), .second, .val (.ref b_1), .val (.ref b_50), .val (.ref x_63)] [(.int (1 : Int32))])
  refine Go.to (mkF m 265 #[.val (.long p1), .second, .val (.ref b_1), .val (.ref b_50), .val (.ref x_63)] []) (fun _ k => XS.ifNo X_77.here hx rfl (hb hby at_262) rfl ((if0 _ _).trans (feq (by decide : ¬ ((1 : Int32) = (0 : Int32)))).1) k) ?_
  refine Go.to (mkF m 267 #[.val (.long p1), .second, .val (.ref b_1), .val (.ref b_50), .val (.ref x_63)] [(.ref x_63)]) (fun _ k => XS.aload X_77.here hx rfl (hb hby at_265) rfl rfl k) ?_
  refine Go.to (mkF m 268 #[.val (.long p1), .second, .val (.ref b_1), .val (.ref b_50), .val (.ref x_63)] [(.long p1), (.ref x_63)]) (fun _ k => XS.lloadN X_77.here hx rfl (hb hby at_267) rfl  k) ?_
  refine Go.to (mkF m 270 #[.val (.long p1), .second, .val (.ref b_1), .val (.ref b_50), .val (.ref x_63)] [(.int (8 : Int32)), (.long p1), (.ref x_63)]) (fun _ k => XS.bipush X_77.here hx rfl (hb hby at_268) k) ?_
  refine Go.stat X_77 hx hZ (y := (⟨"nonet/GridToStringPinLaw", "at", "(Ljava/lang/String;JI)Z"⟩ : MethodName)) hown (hw _ (List.mem_of_getElem? (i := 69) rfl)) (hw _ (List.mem_of_getElem? (i := 70) rfl)) (hw _ (List.mem_of_getElem? (i := 3) rfl)) (hw _ (List.mem_of_getElem? (i := 71) rfl)) (by decide) hh_77 (argsL := [(.ref x_63), (.long p1), (.int (8 : Int32))]) (rest := []) (Met1.back (W := 0) (rm13 l Z a0 hw x_63 t_63 kb_63 (16 : Int32) ([nar .char (own_sy (nar .byte (own_dig p1 (0 : Int32)))), nar .char (own_sy (nar .byte (own_dig p1 (1 : Int32)))), nar .char (own_sy (nar .byte (own_dig p1 (2 : Int32)))), nar .char (own_sy (nar .byte (own_dig p1 (3 : Int32)))), nar .char (own_sy (nar .byte (own_dig p1 (4 : Int32)))), nar .char (own_sy (nar .byte (own_dig p1 (5 : Int32)))), nar .char (own_sy (nar .byte (own_dig p1 (6 : Int32)))), nar .char (own_sy (nar .byte (own_dig p1 (7 : Int32)))), nar .char (own_sy (nar .byte (own_dig p1 (8 : Int32)))), nar .char (own_sy (nar .byte (own_dig p1 (9 : Int32)))), nar .char (own_sy (nar .byte (own_dig p1 (10 : Int32)))), nar .char (own_sy (nar .byte (own_dig p1 (11 : Int32)))), nar .char (own_sy (nar .byte (own_dig p1 (12 : Int32)))), nar .char (own_sy (nar .byte (own_dig p1 (13 : Int32)))), nar .char (own_sy (nar .byte (own_dig p1 (14 : Int32)))), nar .char (own_sy (nar .byte (own_dig p1 (15 : Int32))))] : List Int32) z p1 (8 : Int32) 8 fm T_63.heap n0 f_67 pf_63_0 pf_63_1 pf_63_2 pf_63_3 f_66 f_69 hz rf rfl rfl hp (by decide) rfl (own_same (own_dig_ok _ _))) hZ (hw _ (List.mem_of_getElem? (i := 71) rfl)) (hw _ (List.mem_of_getElem? (i := 3) rfl)) (by decide) (by decide)) (pc := 270) (Ls := #[.val (.long p1), .second, .val (.ref b_1), .val (.ref b_50), .val (.ref x_63)]) (by rw [hml]; rfl) (lenOf own_pd6 rfl) rfl (Nat.le_refl _) (hb hby at_270) (by decide) (by decide) ?_
  intro T_78 v_78 L_78 X_78 hQ_78
  obtain ⟨rfl, Nq_78, hh_78⟩ := hQ_78
  have N_78 := Fr.app N_77 Nq_78
  show Go p e below (FinN s (Q0 Z p1 w4 z fm h0 n0) room_1.cells room_1.slots) T_78 (mkF m 273 #[.val (.long p1), .second, .val (.ref b_1), .val (.ref b_50), .val (.ref x_63)] [(.int (1 : Int32))])
  refine Go.to (mkF m 276 #[.val (.long p1), .second, .val (.ref b_1), .val (.ref b_50), .val (.ref x_63)] []) (fun _ k => XS.ifNo X_78.here hx rfl (hb hby at_273) rfl ((if0 _ _).trans (feq (by decide : ¬ ((1 : Int32) = (0 : Int32)))).1) k) ?_
  refine Go.to (mkF m 278 #[.val (.long p1), .second, .val (.ref b_1), .val (.ref b_50), .val (.ref x_63)] [(.ref x_63)]) (fun _ k => XS.aload X_78.here hx rfl (hb hby at_276) rfl rfl k) ?_
  refine Go.to (mkF m 279 #[.val (.long p1), .second, .val (.ref b_1), .val (.ref b_50), .val (.ref x_63)] [(.long p1), (.ref x_63)]) (fun _ k => XS.lloadN X_78.here hx rfl (hb hby at_278) rfl  k) ?_
  refine Go.to (mkF m 281 #[.val (.long p1), .second, .val (.ref b_1), .val (.ref b_50), .val (.ref x_63)] [(.int (9 : Int32)), (.long p1), (.ref x_63)]) (fun _ k => XS.bipush X_78.here hx rfl (hb hby at_279) k) ?_
  refine Go.stat X_78 hx hZ (y := (⟨"nonet/GridToStringPinLaw", "at", "(Ljava/lang/String;JI)Z"⟩ : MethodName)) hown (hw _ (List.mem_of_getElem? (i := 69) rfl)) (hw _ (List.mem_of_getElem? (i := 70) rfl)) (hw _ (List.mem_of_getElem? (i := 3) rfl)) (hw _ (List.mem_of_getElem? (i := 71) rfl)) (by decide) hh_78 (argsL := [(.ref x_63), (.long p1), (.int (9 : Int32))]) (rest := []) (Met1.back (W := 0) (rm13 l Z a0 hw x_63 t_63 kb_63 (16 : Int32) ([nar .char (own_sy (nar .byte (own_dig p1 (0 : Int32)))), nar .char (own_sy (nar .byte (own_dig p1 (1 : Int32)))), nar .char (own_sy (nar .byte (own_dig p1 (2 : Int32)))), nar .char (own_sy (nar .byte (own_dig p1 (3 : Int32)))), nar .char (own_sy (nar .byte (own_dig p1 (4 : Int32)))), nar .char (own_sy (nar .byte (own_dig p1 (5 : Int32)))), nar .char (own_sy (nar .byte (own_dig p1 (6 : Int32)))), nar .char (own_sy (nar .byte (own_dig p1 (7 : Int32)))), nar .char (own_sy (nar .byte (own_dig p1 (8 : Int32)))), nar .char (own_sy (nar .byte (own_dig p1 (9 : Int32)))), nar .char (own_sy (nar .byte (own_dig p1 (10 : Int32)))), nar .char (own_sy (nar .byte (own_dig p1 (11 : Int32)))), nar .char (own_sy (nar .byte (own_dig p1 (12 : Int32)))), nar .char (own_sy (nar .byte (own_dig p1 (13 : Int32)))), nar .char (own_sy (nar .byte (own_dig p1 (14 : Int32)))), nar .char (own_sy (nar .byte (own_dig p1 (15 : Int32))))] : List Int32) z p1 (9 : Int32) 9 fm T_63.heap n0 f_67 pf_63_0 pf_63_1 pf_63_2 pf_63_3 f_66 f_69 hz rf rfl rfl hp (by decide) rfl (own_same (own_dig_ok _ _))) hZ (hw _ (List.mem_of_getElem? (i := 71) rfl)) (hw _ (List.mem_of_getElem? (i := 3) rfl)) (by decide) (by decide)) (pc := 281) (Ls := #[.val (.long p1), .second, .val (.ref b_1), .val (.ref b_50), .val (.ref x_63)]) (by rw [hml]; rfl) (lenOf own_pd6 rfl) rfl (Nat.le_refl _) (hb hby at_281) (by decide) (by decide) ?_
  intro T_79 v_79 L_79 X_79 hQ_79
  obtain ⟨rfl, Nq_79, hh_79⟩ := hQ_79
  have N_79 := Fr.app N_78 Nq_79
  show Go p e below (FinN s (Q0 Z p1 w4 z fm h0 n0) room_1.cells room_1.slots) T_79 (mkF m 284 #[.val (.long p1), .second, .val (.ref b_1), .val (.ref b_50), .val (.ref x_63)] [(.int (1 : Int32))])
  refine Go.to (mkF m 287 #[.val (.long p1), .second, .val (.ref b_1), .val (.ref b_50), .val (.ref x_63)] []) (fun _ k => XS.ifNo X_79.here hx rfl (hb hby at_284) rfl ((if0 _ _).trans (feq (by decide : ¬ ((1 : Int32) = (0 : Int32)))).1) k) ?_
  refine Go.to (mkF m 289 #[.val (.long p1), .second, .val (.ref b_1), .val (.ref b_50), .val (.ref x_63)] [(.ref x_63)]) (fun _ k => XS.aload X_79.here hx rfl (hb hby at_287) rfl rfl k) ?_
  refine Go.to (mkF m 290 #[.val (.long p1), .second, .val (.ref b_1), .val (.ref b_50), .val (.ref x_63)] [(.long p1), (.ref x_63)]) (fun _ k => XS.lloadN X_79.here hx rfl (hb hby at_289) rfl  k) ?_
  refine Go.to (mkF m 292 #[.val (.long p1), .second, .val (.ref b_1), .val (.ref b_50), .val (.ref x_63)] [(.int (10 : Int32)), (.long p1), (.ref x_63)]) (fun _ k => XS.bipush X_79.here hx rfl (hb hby at_290) k) ?_
  refine Go.stat X_79 hx hZ (y := (⟨"nonet/GridToStringPinLaw", "at", "(Ljava/lang/String;JI)Z"⟩ : MethodName)) hown (hw _ (List.mem_of_getElem? (i := 69) rfl)) (hw _ (List.mem_of_getElem? (i := 70) rfl)) (hw _ (List.mem_of_getElem? (i := 3) rfl)) (hw _ (List.mem_of_getElem? (i := 71) rfl)) (by decide) hh_79 (argsL := [(.ref x_63), (.long p1), (.int (10 : Int32))]) (rest := []) (Met1.back (W := 0) (rm13 l Z a0 hw x_63 t_63 kb_63 (16 : Int32) ([nar .char (own_sy (nar .byte (own_dig p1 (0 : Int32)))), nar .char (own_sy (nar .byte (own_dig p1 (1 : Int32)))), nar .char (own_sy (nar .byte (own_dig p1 (2 : Int32)))), nar .char (own_sy (nar .byte (own_dig p1 (3 : Int32)))), nar .char (own_sy (nar .byte (own_dig p1 (4 : Int32)))), nar .char (own_sy (nar .byte (own_dig p1 (5 : Int32)))), nar .char (own_sy (nar .byte (own_dig p1 (6 : Int32)))), nar .char (own_sy (nar .byte (own_dig p1 (7 : Int32)))), nar .char (own_sy (nar .byte (own_dig p1 (8 : Int32)))), nar .char (own_sy (nar .byte (own_dig p1 (9 : Int32)))), nar .char (own_sy (nar .byte (own_dig p1 (10 : Int32)))), nar .char (own_sy (nar .byte (own_dig p1 (11 : Int32)))), nar .char (own_sy (nar .byte (own_dig p1 (12 : Int32)))), nar .char (own_sy (nar .byte (own_dig p1 (13 : Int32)))), nar .char (own_sy (nar .byte (own_dig p1 (14 : Int32)))), nar .char (own_sy (nar .byte (own_dig p1 (15 : Int32))))] : List Int32) z p1 (10 : Int32) 10 fm T_63.heap n0 f_67 pf_63_0 pf_63_1 pf_63_2 pf_63_3 f_66 f_69 hz rf rfl rfl hp (by decide) rfl (own_same (own_dig_ok _ _))) hZ (hw _ (List.mem_of_getElem? (i := 71) rfl)) (hw _ (List.mem_of_getElem? (i := 3) rfl)) (by decide) (by decide)) (pc := 292) (Ls := #[.val (.long p1), .second, .val (.ref b_1), .val (.ref b_50), .val (.ref x_63)]) (by rw [hml]; rfl) (lenOf own_pd6 rfl) rfl (Nat.le_refl _) (hb hby at_292) (by decide) (by decide) ?_
  intro T_80 v_80 L_80 X_80 hQ_80
  obtain ⟨rfl, Nq_80, hh_80⟩ := hQ_80
  have N_80 := Fr.app N_79 Nq_80
  show Go p e below (FinN s (Q0 Z p1 w4 z fm h0 n0) room_1.cells room_1.slots) T_80 (mkF m 295 #[.val (.long p1), .second, .val (.ref b_1), .val (.ref b_50), .val (.ref x_63)] [(.int (1 : Int32))])
  refine Go.to (mkF m 298 #[.val (.long p1), .second, .val (.ref b_1), .val (.ref b_50), .val (.ref x_63)] []) (fun _ k => XS.ifNo X_80.here hx rfl (hb hby at_295) rfl ((if0 _ _).trans (feq (by decide : ¬ ((1 : Int32) = (0 : Int32)))).1) k) ?_
  refine Go.to (mkF m 300 #[.val (.long p1), .second, .val (.ref b_1), .val (.ref b_50), .val (.ref x_63)] [(.ref x_63)]) (fun _ k => XS.aload X_80.here hx rfl (hb hby at_298) rfl rfl k) ?_
  refine Go.to (mkF m 301 #[.val (.long p1), .second, .val (.ref b_1), .val (.ref b_50), .val (.ref x_63)] [(.long p1), (.ref x_63)]) (fun _ k => XS.lloadN X_80.here hx rfl (hb hby at_300) rfl  k) ?_
  refine Go.to (mkF m 303 #[.val (.long p1), .second, .val (.ref b_1), .val (.ref b_50), .val (.ref x_63)] [(.int (11 : Int32)), (.long p1), (.ref x_63)]) (fun _ k => XS.bipush X_80.here hx rfl (hb hby at_301) k) ?_
  refine Go.stat X_80 hx hZ (y := (⟨"nonet/GridToStringPinLaw", "at", "(Ljava/lang/String;JI)Z"⟩ : MethodName)) hown (hw _ (List.mem_of_getElem? (i := 69) rfl)) (hw _ (List.mem_of_getElem? (i := 70) rfl)) (hw _ (List.mem_of_getElem? (i := 3) rfl)) (hw _ (List.mem_of_getElem? (i := 71) rfl)) (by decide) hh_80 (argsL := [(.ref x_63), (.long p1), (.int (11 : Int32))]) (rest := []) (Met1.back (W := 0) (rm13 l Z a0 hw x_63 t_63 kb_63 (16 : Int32) ([nar .char (own_sy (nar .byte (own_dig p1 (0 : Int32)))), nar .char (own_sy (nar .byte (own_dig p1 (1 : Int32)))), nar .char (own_sy (nar .byte (own_dig p1 (2 : Int32)))), nar .char (own_sy (nar .byte (own_dig p1 (3 : Int32)))), nar .char (own_sy (nar .byte (own_dig p1 (4 : Int32)))), nar .char (own_sy (nar .byte (own_dig p1 (5 : Int32)))), nar .char (own_sy (nar .byte (own_dig p1 (6 : Int32)))), nar .char (own_sy (nar .byte (own_dig p1 (7 : Int32)))), nar .char (own_sy (nar .byte (own_dig p1 (8 : Int32)))), nar .char (own_sy (nar .byte (own_dig p1 (9 : Int32)))), nar .char (own_sy (nar .byte (own_dig p1 (10 : Int32)))), nar .char (own_sy (nar .byte (own_dig p1 (11 : Int32)))), nar .char (own_sy (nar .byte (own_dig p1 (12 : Int32)))), nar .char (own_sy (nar .byte (own_dig p1 (13 : Int32)))), nar .char (own_sy (nar .byte (own_dig p1 (14 : Int32)))), nar .char (own_sy (nar .byte (own_dig p1 (15 : Int32))))] : List Int32) z p1 (11 : Int32) 11 fm T_63.heap n0 f_67 pf_63_0 pf_63_1 pf_63_2 pf_63_3 f_66 f_69 hz rf rfl rfl hp (by decide) rfl (own_same (own_dig_ok _ _))) hZ (hw _ (List.mem_of_getElem? (i := 71) rfl)) (hw _ (List.mem_of_getElem? (i := 3) rfl)) (by decide) (by decide)) (pc := 303) (Ls := #[.val (.long p1), .second, .val (.ref b_1), .val (.ref b_50), .val (.ref x_63)]) (by rw [hml]; rfl) (lenOf own_pd6 rfl) rfl (Nat.le_refl _) (hb hby at_303) (by decide) (by decide) ?_
  intro T_81 v_81 L_81 X_81 hQ_81
  obtain ⟨rfl, Nq_81, hh_81⟩ := hQ_81
  have N_81 := Fr.app N_80 Nq_81
  show Go p e below (FinN s (Q0 Z p1 w4 z fm h0 n0) room_1.cells room_1.slots) T_81 (mkF m 306 #[.val (.long p1), .second, .val (.ref b_1), .val (.ref b_50), .val (.ref x_63)] [(.int (1 : Int32))])
  refine Go.to (mkF m 309 #[.val (.long p1), .second, .val (.ref b_1), .val (.ref b_50), .val (.ref x_63)] []) (fun _ k => XS.ifNo X_81.here hx rfl (hb hby at_306) rfl ((if0 _ _).trans (feq (by decide : ¬ ((1 : Int32) = (0 : Int32)))).1) k) ?_
  refine Go.to (mkF m 311 #[.val (.long p1), .second, .val (.ref b_1), .val (.ref b_50), .val (.ref x_63)] [(.ref x_63)]) (fun _ k => XS.aload X_81.here hx rfl (hb hby at_309) rfl rfl k) ?_
  refine Go.to (mkF m 312 #[.val (.long p1), .second, .val (.ref b_1), .val (.ref b_50), .val (.ref x_63)] [(.long p1), (.ref x_63)]) (fun _ k => XS.lloadN X_81.here hx rfl (hb hby at_311) rfl  k) ?_
  refine Go.to (mkF m 314 #[.val (.long p1), .second, .val (.ref b_1), .val (.ref b_50), .val (.ref x_63)] [(.int (12 : Int32)), (.long p1), (.ref x_63)]) (fun _ k => XS.bipush X_81.here hx rfl (hb hby at_312) k) ?_
  refine Go.stat X_81 hx hZ (y := (⟨"nonet/GridToStringPinLaw", "at", "(Ljava/lang/String;JI)Z"⟩ : MethodName)) hown (hw _ (List.mem_of_getElem? (i := 69) rfl)) (hw _ (List.mem_of_getElem? (i := 70) rfl)) (hw _ (List.mem_of_getElem? (i := 3) rfl)) (hw _ (List.mem_of_getElem? (i := 71) rfl)) (by decide) hh_81 (argsL := [(.ref x_63), (.long p1), (.int (12 : Int32))]) (rest := []) (Met1.back (W := 0) (rm13 l Z a0 hw x_63 t_63 kb_63 (16 : Int32) ([nar .char (own_sy (nar .byte (own_dig p1 (0 : Int32)))), nar .char (own_sy (nar .byte (own_dig p1 (1 : Int32)))), nar .char (own_sy (nar .byte (own_dig p1 (2 : Int32)))), nar .char (own_sy (nar .byte (own_dig p1 (3 : Int32)))), nar .char (own_sy (nar .byte (own_dig p1 (4 : Int32)))), nar .char (own_sy (nar .byte (own_dig p1 (5 : Int32)))), nar .char (own_sy (nar .byte (own_dig p1 (6 : Int32)))), nar .char (own_sy (nar .byte (own_dig p1 (7 : Int32)))), nar .char (own_sy (nar .byte (own_dig p1 (8 : Int32)))), nar .char (own_sy (nar .byte (own_dig p1 (9 : Int32)))), nar .char (own_sy (nar .byte (own_dig p1 (10 : Int32)))), nar .char (own_sy (nar .byte (own_dig p1 (11 : Int32)))), nar .char (own_sy (nar .byte (own_dig p1 (12 : Int32)))), nar .char (own_sy (nar .byte (own_dig p1 (13 : Int32)))), nar .char (own_sy (nar .byte (own_dig p1 (14 : Int32)))), nar .char (own_sy (nar .byte (own_dig p1 (15 : Int32))))] : List Int32) z p1 (12 : Int32) 12 fm T_63.heap n0 f_67 pf_63_0 pf_63_1 pf_63_2 pf_63_3 f_66 f_69 hz rf rfl rfl hp (by decide) rfl (own_same (own_dig_ok _ _))) hZ (hw _ (List.mem_of_getElem? (i := 71) rfl)) (hw _ (List.mem_of_getElem? (i := 3) rfl)) (by decide) (by decide)) (pc := 314) (Ls := #[.val (.long p1), .second, .val (.ref b_1), .val (.ref b_50), .val (.ref x_63)]) (by rw [hml]; rfl) (lenOf own_pd6 rfl) rfl (Nat.le_refl _) (hb hby at_314) (by decide) (by decide) ?_
  intro T_82 v_82 L_82 X_82 hQ_82
  obtain ⟨rfl, Nq_82, hh_82⟩ := hQ_82
  have N_82 := Fr.app N_81 Nq_82
  show Go p e below (FinN s (Q0 Z p1 w4 z fm h0 n0) room_1.cells room_1.slots) T_82 (mkF m 317 #[.val (.long p1), .second, .val (.ref b_1), .val (.ref b_50), .val (.ref x_63)] [(.int (1 : Int32))])
  refine Go.to (mkF m 320 #[.val (.long p1), .second, .val (.ref b_1), .val (.ref b_50), .val (.ref x_63)] []) (fun _ k => XS.ifNo X_82.here hx rfl (hb hby at_317) rfl ((if0 _ _).trans (feq (by decide : ¬ ((1 : Int32) = (0 : Int32)))).1) k) ?_
  refine Go.to (mkF m 322 #[.val (.long p1), .second, .val (.ref b_1), .val (.ref b_50), .val (.ref x_63)] [(.ref x_63)]) (fun _ k => XS.aload X_82.here hx rfl (hb hby at_320) rfl rfl k) ?_
  refine Go.to (mkF m 323 #[.val (.long p1), .second, .val (.ref b_1), .val (.ref b_50), .val (.ref x_63)] [(.long p1), (.ref x_63)]) (fun _ k => XS.lloadN X_82.here hx rfl (hb hby at_322) rfl  k) ?_
  refine Go.to (mkF m 325 #[.val (.long p1), .second, .val (.ref b_1), .val (.ref b_50), .val (.ref x_63)] [(.int (13 : Int32)), (.long p1), (.ref x_63)]) (fun _ k => XS.bipush X_82.here hx rfl (hb hby at_323) k) ?_
  refine Go.stat X_82 hx hZ (y := (⟨"nonet/GridToStringPinLaw", "at", "(Ljava/lang/String;JI)Z"⟩ : MethodName)) hown (hw _ (List.mem_of_getElem? (i := 69) rfl)) (hw _ (List.mem_of_getElem? (i := 70) rfl)) (hw _ (List.mem_of_getElem? (i := 3) rfl)) (hw _ (List.mem_of_getElem? (i := 71) rfl)) (by decide) hh_82 (argsL := [(.ref x_63), (.long p1), (.int (13 : Int32))]) (rest := []) (Met1.back (W := 0) (rm13 l Z a0 hw x_63 t_63 kb_63 (16 : Int32) ([nar .char (own_sy (nar .byte (own_dig p1 (0 : Int32)))), nar .char (own_sy (nar .byte (own_dig p1 (1 : Int32)))), nar .char (own_sy (nar .byte (own_dig p1 (2 : Int32)))), nar .char (own_sy (nar .byte (own_dig p1 (3 : Int32)))), nar .char (own_sy (nar .byte (own_dig p1 (4 : Int32)))), nar .char (own_sy (nar .byte (own_dig p1 (5 : Int32)))), nar .char (own_sy (nar .byte (own_dig p1 (6 : Int32)))), nar .char (own_sy (nar .byte (own_dig p1 (7 : Int32)))), nar .char (own_sy (nar .byte (own_dig p1 (8 : Int32)))), nar .char (own_sy (nar .byte (own_dig p1 (9 : Int32)))), nar .char (own_sy (nar .byte (own_dig p1 (10 : Int32)))), nar .char (own_sy (nar .byte (own_dig p1 (11 : Int32)))), nar .char (own_sy (nar .byte (own_dig p1 (12 : Int32)))), nar .char (own_sy (nar .byte (own_dig p1 (13 : Int32)))), nar .char (own_sy (nar .byte (own_dig p1 (14 : Int32)))), nar .char (own_sy (nar .byte (own_dig p1 (15 : Int32))))] : List Int32) z p1 (13 : Int32) 13 fm T_63.heap n0 f_67 pf_63_0 pf_63_1 pf_63_2 pf_63_3 f_66 f_69 hz rf rfl rfl hp (by decide) rfl (own_same (own_dig_ok _ _))) hZ (hw _ (List.mem_of_getElem? (i := 71) rfl)) (hw _ (List.mem_of_getElem? (i := 3) rfl)) (by decide) (by decide)) (pc := 325) (Ls := #[.val (.long p1), .second, .val (.ref b_1), .val (.ref b_50), .val (.ref x_63)]) (by rw [hml]; rfl) (lenOf own_pd6 rfl) rfl (Nat.le_refl _) (hb hby at_325) (by decide) (by decide) ?_
  intro T_83 v_83 L_83 X_83 hQ_83
  obtain ⟨rfl, Nq_83, hh_83⟩ := hQ_83
  have N_83 := Fr.app N_82 Nq_83
  show Go p e below (FinN s (Q0 Z p1 w4 z fm h0 n0) room_1.cells room_1.slots) T_83 (mkF m 328 #[.val (.long p1), .second, .val (.ref b_1), .val (.ref b_50), .val (.ref x_63)] [(.int (1 : Int32))])
  refine Go.to (mkF m 331 #[.val (.long p1), .second, .val (.ref b_1), .val (.ref b_50), .val (.ref x_63)] []) (fun _ k => XS.ifNo X_83.here hx rfl (hb hby at_328) rfl ((if0 _ _).trans (feq (by decide : ¬ ((1 : Int32) = (0 : Int32)))).1) k) ?_
  refine Go.to (mkF m 333 #[.val (.long p1), .second, .val (.ref b_1), .val (.ref b_50), .val (.ref x_63)] [(.ref x_63)]) (fun _ k => XS.aload X_83.here hx rfl (hb hby at_331) rfl rfl k) ?_
  refine Go.to (mkF m 334 #[.val (.long p1), .second, .val (.ref b_1), .val (.ref b_50), .val (.ref x_63)] [(.long p1), (.ref x_63)]) (fun _ k => XS.lloadN X_83.here hx rfl (hb hby at_333) rfl  k) ?_
  refine Go.to (mkF m 336 #[.val (.long p1), .second, .val (.ref b_1), .val (.ref b_50), .val (.ref x_63)] [(.int (14 : Int32)), (.long p1), (.ref x_63)]) (fun _ k => XS.bipush X_83.here hx rfl (hb hby at_334) k) ?_
  refine Go.stat X_83 hx hZ (y := (⟨"nonet/GridToStringPinLaw", "at", "(Ljava/lang/String;JI)Z"⟩ : MethodName)) hown (hw _ (List.mem_of_getElem? (i := 69) rfl)) (hw _ (List.mem_of_getElem? (i := 70) rfl)) (hw _ (List.mem_of_getElem? (i := 3) rfl)) (hw _ (List.mem_of_getElem? (i := 71) rfl)) (by decide) hh_83 (argsL := [(.ref x_63), (.long p1), (.int (14 : Int32))]) (rest := []) (Met1.back (W := 0) (rm13 l Z a0 hw x_63 t_63 kb_63 (16 : Int32) ([nar .char (own_sy (nar .byte (own_dig p1 (0 : Int32)))), nar .char (own_sy (nar .byte (own_dig p1 (1 : Int32)))), nar .char (own_sy (nar .byte (own_dig p1 (2 : Int32)))), nar .char (own_sy (nar .byte (own_dig p1 (3 : Int32)))), nar .char (own_sy (nar .byte (own_dig p1 (4 : Int32)))), nar .char (own_sy (nar .byte (own_dig p1 (5 : Int32)))), nar .char (own_sy (nar .byte (own_dig p1 (6 : Int32)))), nar .char (own_sy (nar .byte (own_dig p1 (7 : Int32)))), nar .char (own_sy (nar .byte (own_dig p1 (8 : Int32)))), nar .char (own_sy (nar .byte (own_dig p1 (9 : Int32)))), nar .char (own_sy (nar .byte (own_dig p1 (10 : Int32)))), nar .char (own_sy (nar .byte (own_dig p1 (11 : Int32)))), nar .char (own_sy (nar .byte (own_dig p1 (12 : Int32)))), nar .char (own_sy (nar .byte (own_dig p1 (13 : Int32)))), nar .char (own_sy (nar .byte (own_dig p1 (14 : Int32)))), nar .char (own_sy (nar .byte (own_dig p1 (15 : Int32))))] : List Int32) z p1 (14 : Int32) 14 fm T_63.heap n0 f_67 pf_63_0 pf_63_1 pf_63_2 pf_63_3 f_66 f_69 hz rf rfl rfl hp (by decide) rfl (own_same (own_dig_ok _ _))) hZ (hw _ (List.mem_of_getElem? (i := 71) rfl)) (hw _ (List.mem_of_getElem? (i := 3) rfl)) (by decide) (by decide)) (pc := 336) (Ls := #[.val (.long p1), .second, .val (.ref b_1), .val (.ref b_50), .val (.ref x_63)]) (by rw [hml]; rfl) (lenOf own_pd6 rfl) rfl (Nat.le_refl _) (hb hby at_336) (by decide) (by decide) ?_
  intro T_84 v_84 L_84 X_84 hQ_84
  obtain ⟨rfl, Nq_84, hh_84⟩ := hQ_84
  have N_84 := Fr.app N_83 Nq_84
  show Go p e below (FinN s (Q0 Z p1 w4 z fm h0 n0) room_1.cells room_1.slots) T_84 (mkF m 339 #[.val (.long p1), .second, .val (.ref b_1), .val (.ref b_50), .val (.ref x_63)] [(.int (1 : Int32))])
  refine Go.to (mkF m 342 #[.val (.long p1), .second, .val (.ref b_1), .val (.ref b_50), .val (.ref x_63)] []) (fun _ k => XS.ifNo X_84.here hx rfl (hb hby at_339) rfl ((if0 _ _).trans (feq (by decide : ¬ ((1 : Int32) = (0 : Int32)))).1) k) ?_
  refine Go.to (mkF m 344 #[.val (.long p1), .second, .val (.ref b_1), .val (.ref b_50), .val (.ref x_63)] [(.ref x_63)]) (fun _ k => XS.aload X_84.here hx rfl (hb hby at_342) rfl rfl k) ?_
  refine Go.to (mkF m 345 #[.val (.long p1), .second, .val (.ref b_1), .val (.ref b_50), .val (.ref x_63)] [(.long p1), (.ref x_63)]) (fun _ k => XS.lloadN X_84.here hx rfl (hb hby at_344) rfl  k) ?_
  refine Go.to (mkF m 347 #[.val (.long p1), .second, .val (.ref b_1), .val (.ref b_50), .val (.ref x_63)] [(.int (15 : Int32)), (.long p1), (.ref x_63)]) (fun _ k => XS.bipush X_84.here hx rfl (hb hby at_345) k) ?_
  refine Go.stat X_84 hx hZ (y := (⟨"nonet/GridToStringPinLaw", "at", "(Ljava/lang/String;JI)Z"⟩ : MethodName)) hown (hw _ (List.mem_of_getElem? (i := 69) rfl)) (hw _ (List.mem_of_getElem? (i := 70) rfl)) (hw _ (List.mem_of_getElem? (i := 3) rfl)) (hw _ (List.mem_of_getElem? (i := 71) rfl)) (by decide) hh_84 (argsL := [(.ref x_63), (.long p1), (.int (15 : Int32))]) (rest := []) (Met1.back (W := 0) (rm13 l Z a0 hw x_63 t_63 kb_63 (16 : Int32) ([nar .char (own_sy (nar .byte (own_dig p1 (0 : Int32)))), nar .char (own_sy (nar .byte (own_dig p1 (1 : Int32)))), nar .char (own_sy (nar .byte (own_dig p1 (2 : Int32)))), nar .char (own_sy (nar .byte (own_dig p1 (3 : Int32)))), nar .char (own_sy (nar .byte (own_dig p1 (4 : Int32)))), nar .char (own_sy (nar .byte (own_dig p1 (5 : Int32)))), nar .char (own_sy (nar .byte (own_dig p1 (6 : Int32)))), nar .char (own_sy (nar .byte (own_dig p1 (7 : Int32)))), nar .char (own_sy (nar .byte (own_dig p1 (8 : Int32)))), nar .char (own_sy (nar .byte (own_dig p1 (9 : Int32)))), nar .char (own_sy (nar .byte (own_dig p1 (10 : Int32)))), nar .char (own_sy (nar .byte (own_dig p1 (11 : Int32)))), nar .char (own_sy (nar .byte (own_dig p1 (12 : Int32)))), nar .char (own_sy (nar .byte (own_dig p1 (13 : Int32)))), nar .char (own_sy (nar .byte (own_dig p1 (14 : Int32)))), nar .char (own_sy (nar .byte (own_dig p1 (15 : Int32))))] : List Int32) z p1 (15 : Int32) 15 fm T_63.heap n0 f_67 pf_63_0 pf_63_1 pf_63_2 pf_63_3 f_66 f_69 hz rf rfl rfl hp (by decide) rfl (own_same (own_dig_ok _ _))) hZ (hw _ (List.mem_of_getElem? (i := 71) rfl)) (hw _ (List.mem_of_getElem? (i := 3) rfl)) (by decide) (by decide)) (pc := 347) (Ls := #[.val (.long p1), .second, .val (.ref b_1), .val (.ref b_50), .val (.ref x_63)]) (by rw [hml]; rfl) (lenOf own_pd6 rfl) rfl (Nat.le_refl _) (hb hby at_347) (by decide) (by decide) ?_
  intro T_85 v_85 L_85 X_85 hQ_85
  obtain ⟨rfl, Nq_85, hh_85⟩ := hQ_85
  have N_85 := Fr.app N_84 Nq_85
  show Go p e below (FinN s (Q0 Z p1 w4 z fm h0 n0) room_1.cells room_1.slots) T_85 (mkF m 350 #[.val (.long p1), .second, .val (.ref b_1), .val (.ref b_50), .val (.ref x_63)] [(.int (1 : Int32))])
  refine Go.to (mkF m 353 #[.val (.long p1), .second, .val (.ref b_1), .val (.ref b_50), .val (.ref x_63)] []) (fun _ k => XS.ifNo X_85.here hx rfl (hb hby at_350) rfl ((if0 _ _).trans (feq (by decide : ¬ ((1 : Int32) = (0 : Int32)))).1) k) ?_
  refine Go.to (mkF m 354 #[.val (.long p1), .second, .val (.ref b_1), .val (.ref b_50), .val (.ref x_63)] [(.int (1 : Int32))]) (fun _ k => XS.iconst X_85.here hx rfl (hb hby at_353) k) ?_
  refine Go.to (mkF m 358 #[.val (.long p1), .second, .val (.ref b_1), .val (.ref b_50), .val (.ref x_63)] [(.int (1 : Int32))]) (fun _ k => XS.goto X_85.here hx rfl (pc0 := 354) (pc' := 358) rfl (hb hby at_354) (by decide) (by decide) k) ?_
  refine Go.retN X_85 hx (t := .boolean) hret hlk (by simp) (hb hby at_358) (by decide) (by decide) (z' := (1 : Int32)) rfl ?_
  have f_86 : Keep h0 T_63.heap [] := (f_65.trans K_63 all0)
  show (Q0 Z p1 w4 z fm h0 n0) _ T_85.heap _
  rw [hh_85]
  exact ⟨rfl, N_85, f_86⟩
set_option maxRecDepth 65536 in
set_option maxHeartbeats 40000000 in
theorem comes_1 {Post : Tables → Env → Array Value → State → Outcome → State → Prop} (hpost : ∀ tb e args s v u, (limb_1_1.after args s (.returned v) u = true ∧ limb_1_2.after args s (.returned v) u = true ∧ True) → FrameEnd s (.returned v) u (Jvm.fieldLocs frame_1_writes args s ++ Jvm.arrayLocs frame_1_arrays args s ++ Jvm.staticLocs frame_1_statics s) 24 192 → Post tb e args s (.returned v) u) :
    ArmFor flags0 classFile x code maxLocals ret World_1 tables_1 room_1 Calls_1 rest_1 Pre_1 Post := by
  intro l hfl _ _ p e ha hc hk s m args below hf hA hF happ hP
  obtain ⟨hcalls, hrest, hpre⟩ := hP
  obtain ⟨-, -, -, hnamed, -, -, -, hat⟩ := (Spec.applies_iff hf).mp happ
  obtain ⟨hg, hn⟩ := and_e (Cond.before_iff.mp (show (Jvm.Cond.and given_1 narrow_1).before args s = true from hpre))
  obtain ⟨gc, ga0⟩ := and_e hg
  have gv0 := ga0
  obtain ⟨w0, rfl⟩ : ∃ w0 : Value, args = #[w0] := by
    have hs : args.size = 1 := by simpa [Cond.value, given_1] using gc
    obtain ⟨L⟩ := args
    match L, hs with
    | [w0], _ => exact ⟨w0, rfl⟩
  have hw := fun d (hd : d ∈ tables_1) => atoms_spec (ws := Jvm.Cond.code x code maxLocals ret :: tables_1) hat d (List.mem_cons_of_mem _ hd)
  have hfit : Fit s := fun {y c} hc i hi => by
    obtain ⟨ha, rfl⟩ := Array.getElem?_eq_some_iff.mp hc
    have q := List.all_eq_true.mp ((Array.all_eq_true_iff_forall_mem.mp hF) _ (Array.getElem_mem ha)) i (List.mem_range.mpr hi)
    simpa [Array.getElem?_eq_getElem hi] using q
  obtain ⟨hsets, hown0⟩ := atoms_of _ (rest_1_c_eq ▸ (show rest_1_c.before _ s = true from hrest))
  obtain ⟨i0, ei0⟩ := isL_v gv0
  obtain rfl : w0 = (.long i0) := Option.some.inj ei0
  obtain ⟨w4, e4, E4⟩ := own_exa_at hn
  have S4 := Sta.start e4 (Or.inr ⟨(hw _ (List.mem_of_getElem? (i := 11) rfl)), (hw _ (List.mem_of_getElem? (i := 12) rfl))⟩)
  obtain ⟨z, ez⟩ := is_v (Cond.before_iff.mp (hsets _ (List.mem_of_getElem? (i := 1) rfl)))
  have Sc := Sta.start ez (Or.inl (hsets _ (List.mem_of_getElem? (i := 0) rfl)))
  have hz : ¬ z = 0 := own_not_eq ez (Cond.before_iff.mp (hsets _ (List.mem_of_getElem? (i := 2) rfl)))
  obtain ⟨fm, ef, rf⟩ := isR_v (Cond.before_iff.mp (hsets _ (List.mem_of_getElem? (i := 8) rfl)))
  have Sf := Sta.start ef (Or.inl (hsets _ (List.mem_of_getElem? (i := 7) rfl)))
  obtain ⟨n, o, h1, h2, h3, _, L, rfl, ⟨rfl, N, -⟩, hq⟩ := rm0 l s _ hw i0 w4 z fm s.heap s.heap.size (Nat.le_refl _) S4 E4 Sc Sf hz rf tables_1 p e ha hc hk s m _ below hf ((Spec.applies_iff_loose hf).mp happ).1 ⟨rfl, State.Warmed39.refl s, rfl⟩ trivial
  refine ⟨n, _, h1, h2, h3, hpost _ _ _ _ _ _ ⟨Cond.after_iff.mpr rfl, Cond.after_iff.mpr (eq_i res_at (Term.int_eval (1)) rfl), trivial⟩ ⟨hq.1, hq.2.1, (hq.2.2.sift fun y hy => Or.inr (N y hy)).mono (by decide) (by decide)⟩⟩
theorem main_1_1 : Claimed_1_1 := comes_1 fun _ _ _ _ _ _ h hF => ⟨h.1, hF⟩
theorem main_1_2 : Claimed_1_2 := comes_1 fun _ _ _ _ _ _ h hF => ⟨h.2.1, hF⟩
end Jvm.Pilot.@@N@@
namespace Jvm.Pilot.@@N@@
open Jvm Jvm.ClassFile Sem Op Lib Jvm.Free Jvm.Stand Jvm.Pilot.@@N@@.Jvm.D
/-! MADE BY PROGRAM (witnessworld.py) out of the Statement's table words and the real class files: 22 classes; the members and pool entries that the words name. The judged class is class 1, her method 1. -/
namespace start1
open Jvm.ClassFile
def u (s : String) : CpInfo := .utf8 (stringToUtf16 s)
/-- a pool by its gaps: so many unusable entries, then the entry; so many at the end -/
def gap : Nat → List CpInfo → List CpInfo
  | 0, r => r
  | n + 1, r => .unusable :: gap n r
def poolList (es : List (Nat × CpInfo)) (last : Nat) : List CpInfo := es.foldr (fun e r => gap e.1 (e.2 :: r)) (gap last [])
def pool (es : List (Nat × CpInfo)) (last : Nat) : Array CpInfo := ⟨poolList es last⟩
def fileOf (pool : Array CpInfo) (this : Nat) (attrs : Array Attribute := #[]) (ms : Array MethodInfo := #[]) (fl : Nat := 33) (sup : Nat := 0) (ifs : Array Nat := #[]) (fds : Array FieldInfo := #[]) : ClassFile where
  minorVersion := 0
  majorVersion := 65
  constantPool := pool
  accessFlags := fl
  thisClass := this
  superClass := sup
  interfaces := ifs
  fields := fds
  methods := ms
  attributes := attrs
def plain (name : String) (sup : Option ClassId) : Class where
  name := name
  kind := .ordinary
  loader := none
  accessFlags := 33
  super := sup
  interfaces := #[]
  cf := none
  fields := #[]
  methods := #[]
  instanceTypes := #[]
  staticTypes := #[]
  resolved := #[]
  callSites := []
  init := .initialized
  statics := none
  mirror := none

def pool0 : Array CpInfo := pool [(5, u "<init>"), (0, u "()V"), (1, .class_ 10), (1, u "java/lang/Object")] 113

def k0c0 : Code := { maxStack := 0, maxLocals := 1, code := object_method_1_code, exceptionTable := #[], attributes := #[] }
def k0m0 : Method := { name := "<init>", desc := "()V", sig := { parameters := [], returnType := none }, accessFlags := 1, code := some k0c0 }
/-- java/lang/Object -/
def k0 : Class := { plain "java/lang/Object" none with
  accessFlags := 33
  interfaces := #[]
  cf := some (fileOf pool0 8 #[] #[{ accessFlags := 1, nameIndex := 5, descriptorIndex := 6, attributes := #[] }] 33 0 #[] #[])
  fields := #[]
  methods := #[k0m0]
  instanceTypes := #[]
  staticTypes := #[]
  resolved := Array.replicate 124 none
  statics := none }

def pool1 : Array CpInfo := pool [(2, .class_ 4), (1, u "java/lang/Object"), (0, u "<init>"), (0, u "()V"), (0, .methodref 8 9), (0, .class_ 10), (0, .nameAndType 11 12), (0, u "nonet/GridToStringPinLaw"), (0, u "dig"), (0, u "(JI)B"), (0, .class_ 14), (0, u "nonet/Grid"), (0, .fieldref 16 17), (0, .class_ 18), (0, .nameAndType 19 20), (0, u "nonet/Size"), (0, u "FOUR"), (0, u "Lnonet/Size;"), (0, .methodref 13 22), (0, .nameAndType 5 23), (0, u "(Lnonet/Size;[B)V"), (0, .methodref 13 25), (0, .nameAndType 26 27), (0, u "toString"), (0, u "()Ljava/lang/String;"), (0, .methodref 29 30), (0, .class_ 31), (0, .nameAndType 32 33), (0, u "java/lang/String"), (0, u "length"), (0, u "()I"), (0, .methodref 8 35), (0, .nameAndType 36 37), (0, u "at"), (0, u "(Ljava/lang/String;JI)Z"), (0, .long 15), (1, .long 5), (1, .methodref 29 43), (0, .nameAndType 44 45), (0, u "charAt"), (0, u "(I)C"), (0, .methodref 8 47), (0, .nameAndType 48 45), (0, u "sym"), (2, u "law"), (0, u "(J)Z")] 5

def k1m0 : Method := { name := "<init>", desc := "()V", sig := { parameters := [], returnType := none }, accessFlags := 1, code := none }
def k1c1 : Code := { maxStack := 5, maxLocals := 5, code := code, exceptionTable := #[], attributes := #[] }
def k1m1 : Method := { name := "law", desc := "(J)Z", sig := { parameters := [.long], returnType := some .boolean }, accessFlags := 9, code := some k1c1 }
def k1c2 : Code := { maxStack := 4, maxLocals := 3, code := method_3_code, exceptionTable := #[], attributes := #[] }
def k1m2 : Method := { name := "dig", desc := "(JI)B", sig := { parameters := [.long, .int], returnType := some .byte }, accessFlags := 10, code := some k1c2 }
def k1c3 : Code := { maxStack := 2, maxLocals := 1, code := method_4_code, exceptionTable := #[], attributes := #[] }
def k1m3 : Method := { name := "sym", desc := "(I)C", sig := { parameters := [.int], returnType := some .char }, accessFlags := 10, code := some k1c3 }
def k1c4 : Code := { maxStack := 4, maxLocals := 4, code := method_5_code, exceptionTable := #[], attributes := #[] }
def k1m4 : Method := { name := "at", desc := "(Ljava/lang/String;JI)Z", sig := { parameters := [(.object "java/lang/String"), .long, .int], returnType := some .boolean }, accessFlags := 10, code := some k1c4 }
/-- nonet/GridToStringPinLaw -/
def k1 : Class := { plain "nonet/GridToStringPinLaw" (some 0) with
  accessFlags := 49
  interfaces := #[]
  cf := some (fileOf pool1 8 #[] #[{ accessFlags := 1, nameIndex := 5, descriptorIndex := 6, attributes := #[] }, { accessFlags := 9, nameIndex := 51, descriptorIndex := 52, attributes := #[] }, { accessFlags := 10, nameIndex := 11, descriptorIndex := 12, attributes := #[] }, { accessFlags := 10, nameIndex := 48, descriptorIndex := 45, attributes := #[] }, { accessFlags := 10, nameIndex := 36, descriptorIndex := 37, attributes := #[] }] 49 2 #[] #[])
  fields := #[]
  methods := #[k1m0, k1m1, k1m2, k1m3, k1m4]
  instanceTypes := #[]
  staticTypes := #[]
  resolved := Array.replicate 58 none
  statics := none }

def pool2 : Array CpInfo := pool [(1, .methodref 2 3), (0, .class_ 4), (0, .nameAndType 5 6), (0, u "java/lang/Object"), (0, u "<init>"), (0, u "()V"), (0, .fieldref 8 9), (0, .class_ 10), (0, .nameAndType 11 12), (0, u "nonet/Grid"), (0, u "size"), (0, u "Lnonet/Size;"), (0, .fieldref 8 14), (0, .nameAndType 15 16), (0, u "digits"), (0, u "[B"), (4, u "toString"), (0, u "()Ljava/lang/String;"), (1, .class_ 26), (1, u "java/lang/String"), (27, u "(I)C"), (10, u "(Lnonet/Size;[B)V"), (10, .methodref 8 77), (0, .nameAndType 78 54), (0, u "symbol"), (0, .methodref 24 80), (0, .nameAndType 5 81), (0, u "([C)V")] 47

def k2c0 : Code := { maxStack := 2, maxLocals := 3, code := prog_7_method_1_code, exceptionTable := #[], attributes := #[] }
def k2m0 : Method := { name := "<init>", desc := "(Lnonet/Size;[B)V", sig := { parameters := [(.object "nonet/Size"), (.array .byte)], returnType := none }, accessFlags := 0, code := some k2c0 }
def k2c1 : Code := { maxStack := 4, maxLocals := 3, code := prog_7_method_7_code, exceptionTable := #[], attributes := #[] }
def k2m1 : Method := { name := "toString", desc := "()Ljava/lang/String;", sig := { parameters := [], returnType := some (.object "java/lang/String") }, accessFlags := 1, code := some k2c1 }
def k2c2 : Code := { maxStack := 3, maxLocals := 2, code := prog_7_method_9_code, exceptionTable := #[], attributes := #[] }
def k2m2 : Method := { name := "symbol", desc := "(I)C", sig := { parameters := [.int], returnType := some .char }, accessFlags := 2, code := some k2c2 }
/-- nonet/Grid -/
def k2 : Class := { plain "nonet/Grid" (some 0) with
  accessFlags := 49
  interfaces := #[]
  cf := some (fileOf pool2 8 #[] #[{ accessFlags := 0, nameIndex := 5, descriptorIndex := 65, attributes := #[] }, { accessFlags := 1, nameIndex := 21, descriptorIndex := 22, attributes := #[] }, { accessFlags := 2, nameIndex := 78, descriptorIndex := 54, attributes := #[] }] 49 2 #[] #[{ accessFlags := 18, nameIndex := 11, descriptorIndex := 12, attributes := #[] }, { accessFlags := 18, nameIndex := 15, descriptorIndex := 16, attributes := #[] }])
  fields := #[{ name := "size", type := (.object "nonet/Size"), accessFlags := 18, slot := 0, constantValue := 0 }, { name := "digits", type := (.array .byte), accessFlags := 18, slot := 1, constantValue := 0 }]
  methods := #[k2m0, k2m1, k2m2]
  instanceTypes := #[(.object "nonet/Size"), (.array .byte)]
  staticTypes := #[]
  resolved := Array.replicate 129 none
  statics := none }

def pool3 : Array CpInfo := pool [(1, .class_ 2), (0, u "java/lang/constant/Constable"), (0, .class_ 4), (0, u "java/lang/Object")] 6

/-- java/lang/constant/Constable -/
def k3 : Class := { plain "java/lang/constant/Constable" (some 0) with
  accessFlags := 1537
  interfaces := #[]
  cf := some (fileOf pool3 1 #[] #[] 1537 3 #[] #[])
  fields := #[]
  methods := #[]
  instanceTypes := #[]
  staticTypes := #[]
  resolved := Array.replicate 11 none
  statics := none }

def pool4 : Array CpInfo := pool [(1, .class_ 2), (0, u "java/lang/Comparable"), (0, .class_ 4), (0, u "java/lang/Object")] 7

/-- java/lang/Comparable -/
def k4 : Class := { plain "java/lang/Comparable" (some 0) with
  accessFlags := 1537
  interfaces := #[]
  cf := some (fileOf pool4 1 #[] #[] 1537 3 #[] #[])
  fields := #[]
  methods := #[]
  instanceTypes := #[]
  staticTypes := #[]
  resolved := Array.replicate 12 none
  statics := none }

def pool5 : Array CpInfo := pool [(1, .class_ 2), (0, u "java/io/Serializable"), (0, .class_ 4), (0, u "java/lang/Object")] 2

/-- java/io/Serializable -/
def k5 : Class := { plain "java/io/Serializable" (some 0) with
  accessFlags := 1537
  interfaces := #[]
  cf := some (fileOf pool5 1 #[] #[] 1537 3 #[] #[])
  fields := #[]
  methods := #[]
  instanceTypes := #[]
  staticTypes := #[]
  resolved := Array.replicate 7 none
  statics := none }

def pool6 : Array CpInfo := pool [(2, .class_ 4), (1, u "java/lang/Enum"), (0, u "name"), (0, u "Ljava/lang/String;"), (2, u "ordinal"), (0, u "I"), (1, .class_ 14), (1, u "java/lang/Object"), (4, u "hash"), (86, .class_ 108), (1, u "java/lang/Enum$EnumDesc"), (2, .class_ 112), (0, u "java/lang/constant/Constable"), (0, .class_ 114), (0, u "java/lang/Comparable"), (0, .class_ 116), (0, u "java/io/Serializable")] 87

/-- java/lang/Enum -/
def k6 : Class := { plain "java/lang/Enum" (some 0) with
  accessFlags := 1057
  interfaces := #[3, 4, 5]
  cf := some (fileOf pool6 2 #[.nestMembers #[106]] #[] 1057 12 #[111, 113, 115] #[{ accessFlags := 18, nameIndex := 5, descriptorIndex := 6, attributes := #[] }, { accessFlags := 18, nameIndex := 9, descriptorIndex := 10, attributes := #[] }, { accessFlags := 2, nameIndex := 19, descriptorIndex := 10, attributes := #[] }])
  fields := #[{ name := "name", type := (.object "java/lang/String"), accessFlags := 18, slot := 0, constantValue := 0 }, { name := "ordinal", type := .int, accessFlags := 18, slot := 1, constantValue := 0 }, { name := "hash", type := .int, accessFlags := 2, slot := 2, constantValue := 0 }]
  methods := #[]
  instanceTypes := #[(.object "java/lang/String"), .int, .int]
  staticTypes := #[]
  resolved := Array.replicate 204 none
  statics := none }

def pool7 : Array CpInfo := pool [(1, .class_ 2), (0, u "nonet/Size"), (2, u "FOUR"), (0, u "Lnonet/Size;"), (2, u "NINE"), (2, u "$VALUES"), (0, u "[Lnonet/Size;"), (6, .class_ 22), (1, u "java/lang/Enum"), (8, u "box"), (0, u "I"), (2, u "side"), (1, u "[[I"), (2, u "unitCells"), (1, u "[I"), (2, u "cellUnits"), (2, u "stacksOfColumns"), (8, u "columnsOfStacks"), (2, u "matched")] 87

/-- nonet/Size -/
def k7 : Class := { plain "nonet/Size" (some 6) with
  accessFlags := 16433
  interfaces := #[]
  cf := some (fileOf pool7 1 #[] #[] 16433 20 #[] #[{ accessFlags := 16409, nameIndex := 5, descriptorIndex := 6, attributes := #[] }, { accessFlags := 16409, nameIndex := 9, descriptorIndex := 6, attributes := #[] }, { accessFlags := 18, nameIndex := 31, descriptorIndex := 32, attributes := #[] }, { accessFlags := 18, nameIndex := 35, descriptorIndex := 32, attributes := #[] }, { accessFlags := 18, nameIndex := 40, descriptorIndex := 37, attributes := #[] }, { accessFlags := 18, nameIndex := 45, descriptorIndex := 37, attributes := #[] }, { accessFlags := 18, nameIndex := 48, descriptorIndex := 42, attributes := #[] }, { accessFlags := 18, nameIndex := 57, descriptorIndex := 42, attributes := #[] }, { accessFlags := 18, nameIndex := 60, descriptorIndex := 42, attributes := #[] }, { accessFlags := 4122, nameIndex := 12, descriptorIndex := 13, attributes := #[] }])
  fields := #[{ name := "FOUR", type := (.object "nonet/Size"), accessFlags := 16409, slot := 0, constantValue := 0 }, { name := "NINE", type := (.object "nonet/Size"), accessFlags := 16409, slot := 1, constantValue := 0 }, { name := "box", type := .int, accessFlags := 18, slot := 3, constantValue := 0 }, { name := "side", type := .int, accessFlags := 18, slot := 4, constantValue := 0 }, { name := "unitCells", type := (.array (.array .int)), accessFlags := 18, slot := 5, constantValue := 0 }, { name := "cellUnits", type := (.array (.array .int)), accessFlags := 18, slot := 6, constantValue := 0 }, { name := "stacksOfColumns", type := (.array .int), accessFlags := 18, slot := 7, constantValue := 0 }, { name := "columnsOfStacks", type := (.array .int), accessFlags := 18, slot := 8, constantValue := 0 }, { name := "matched", type := (.array .int), accessFlags := 18, slot := 9, constantValue := 0 }, { name := "$VALUES", type := (.array (.object "nonet/Size")), accessFlags := 4122, slot := 2, constantValue := 0 }]
  methods := #[]
  instanceTypes := #[(.object "java/lang/String"), .int, .int, .int, .int, (.array (.array .int)), (.array (.array .int)), (.array .int), (.array .int), (.array .int)]
  staticTypes := #[(.object "nonet/Size"), (.object "nonet/Size"), (.array (.object "nonet/Size"))]
  resolved := Array.replicate 148 none
  statics := some 0 }

def pool8 : Array CpInfo := pool [(2, .class_ 4), (1, u "java/lang/CharSequence"), (42, .class_ 48), (0, u "java/lang/CharSequence$1CodePointIterator"), (10, .class_ 60), (0, u "java/lang/CharSequence$1CharIterator"), (5, .class_ 67), (0, u "java/lang/Object")] 63

/-- java/lang/CharSequence -/
def k8 : Class := { plain "java/lang/CharSequence" (some 0) with
  accessFlags := 1537
  interfaces := #[]
  cf := some (fileOf pool8 2 #[.nestMembers #[47, 59]] #[] 1537 66 #[] #[])
  fields := #[]
  methods := #[]
  instanceTypes := #[]
  staticTypes := #[]
  resolved := Array.replicate 131 none
  statics := none }

def pool9 : Array CpInfo := pool [(1, .class_ 2), (0, u "java/lang/constant/ConstantDesc"), (0, .class_ 4), (0, u "java/lang/Object")] 32

/-- java/lang/constant/ConstantDesc -/
def k9 : Class := { plain "java/lang/constant/ConstantDesc" (some 0) with
  accessFlags := 1537
  interfaces := #[]
  cf := some (fileOf pool9 1 #[] #[] 1537 3 #[] #[])
  fields := #[]
  methods := #[]
  instanceTypes := #[]
  staticTypes := #[]
  resolved := Array.replicate 37 none
  statics := none }

def pool10 : Array CpInfo := pool [(1, .methodref 2 3), (0, .class_ 4), (0, .nameAndType 5 6), (0, u "java/lang/Object"), (0, u "<init>"), (0, u "()V"), (2, .fieldref 10 11), (0, .class_ 12), (0, .nameAndType 13 14), (0, u "java/lang/String"), (0, u "value"), (0, u "[B"), (0, .fieldref 10 16), (0, .nameAndType 17 18), (0, u "coder"), (0, u "B"), (2, u "hash"), (0, u "I"), (2, u "hashIsZero"), (0, u "Z"), (0, .methodref 10 28), (0, .nameAndType 5 29), (0, u "([CIILjava/lang/Void;)V"), (8, .fieldref 10 39), (0, .nameAndType 40 26), (0, u "COMPACT_STRINGS"), (1, .class_ 44), (1, u "java/lang/StringUTF16"), (0, u "compress"), (1, .methodref 42 48), (0, .nameAndType 49 50), (0, u "coderFromArrayLen"), (0, u "([BI)B"), (56, .class_ 109), (1, u "java/lang/StringLatin1"), (32, u "()Z"), (34, .methodref 42 178), (0, .nameAndType 45 179), (0, u "([CII)[B"), (154, u "()I"), (0, .methodref 10 336), (0, .nameAndType 17 337), (0, u "()B"), (25, u "([BI)C"), (27, u "(II)V"), (35, u "(I)C"), (64, .methodref 10 493), (0, .nameAndType 494 142), (0, u "isLatin1"), (0, .methodref 107 496), (0, .nameAndType 497 363), (0, u "charAt"), (3, u "checkIndex"), (5, u "length"), (67, .class_ 576), (0, u "java/lang/CharSequence"), (22, u "CASE_INSENSITIVE_ORDER"), (0, u "Ljava/util/Comparator;"), (409, u "([C)V"), (42, .fieldref 1054 1055), (0, .class_ 1056), (0, .nameAndType 1057 1058), (0, u "jdk/internal/util/Preconditions"), (0, u "SIOOBE_FORMATTER"), (0, u "Ljava/util/function/BiFunction;"), (0, .methodref 1054 1060), (0, .nameAndType 501 1061), (0, u "(IILjava/util/function/BiFunction;)I"), (39, u "serialPersistentFields"), (0, u "[Ljava/io/ObjectStreamField;"), (0, .class_ 1104), (0, u "java/lang/String$CaseInsensitiveComparator"), (1, .class_ 1107), (0, u "java/io/Serializable"), (0, .class_ 1109), (0, u "java/lang/Comparable"), (0, .class_ 1111), (0, u "java/lang/constant/Constable"), (0, .class_ 1113), (0, u "java/lang/constant/ConstantDesc"), (2, u "serialVersionUID"), (0, u "J"), (3, u "REPL"), (0, u "C"), (2, u "LATIN1"), (1, u "UTF16")] 323

def k10m0 : Method := { name := "<init>", desc := "()V", sig := { parameters := [], returnType := none }, accessFlags := 1, code := none }
def k10c1 : Code := { maxStack := 5, maxLocals := 2, code := jdk_42_method_3_code, exceptionTable := #[], attributes := #[] }
def k10m1 : Method := { name := "<init>", desc := "([C)V", sig := { parameters := [(.array .char)], returnType := none }, accessFlags := 1, code := some k10c1 }
def k10c2 : Code := { maxStack := 2, maxLocals := 1, code := jdk_42_method_54_code, exceptionTable := #[], attributes := #[] }
def k10m2 : Method := { name := "length", desc := "()I", sig := { parameters := [], returnType := some .int }, accessFlags := 1, code := some k10c2 }
def k10c3 : Code := { maxStack := 2, maxLocals := 2, code := jdk_42_method_56_code, exceptionTable := #[], attributes := #[] }
def k10m3 : Method := { name := "charAt", desc := "(I)C", sig := { parameters := [.int], returnType := some .char }, accessFlags := 1, code := some k10c3 }
def k10c4 : Code := { maxStack := 4, maxLocals := 6, code := jdk_42_method_149_code, exceptionTable := #[], attributes := #[] }
def k10m4 : Method := { name := "<init>", desc := "([CIILjava/lang/Void;)V", sig := { parameters := [(.array .char), .int, .int, (.object "java/lang/Void")], returnType := none }, accessFlags := 2, code := some k10c4 }
def k10c5 : Code := { maxStack := 1, maxLocals := 1, code := jdk_42_method_152_code, exceptionTable := #[], attributes := #[] }
def k10m5 : Method := { name := "coder", desc := "()B", sig := { parameters := [], returnType := some .byte }, accessFlags := 0, code := some k10c5 }
def k10c6 : Code := { maxStack := 1, maxLocals := 1, code := jdk_42_method_154_code, exceptionTable := #[], attributes := #[] }
def k10m6 : Method := { name := "isLatin1", desc := "()Z", sig := { parameters := [], returnType := some .boolean }, accessFlags := 0, code := some k10c6 }
def k10c7 : Code := { maxStack := 3, maxLocals := 2, code := jdk_42_method_155_code, exceptionTable := #[], attributes := #[] }
def k10m7 : Method := { name := "checkIndex", desc := "(II)V", sig := { parameters := [.int, .int], returnType := none }, accessFlags := 8, code := some k10c7 }
/-- java/lang/String -/
def k10 : Class := { plain "java/lang/String" (some 0) with
  accessFlags := 49
  interfaces := #[5, 4, 8, 3, 9]
  cf := some (fileOf pool10 10 #[.nestMembers #[1103]] #[{ accessFlags := 1, nameIndex := 5, descriptorIndex := 6, attributes := #[] }, { accessFlags := 1, nameIndex := 5, descriptorIndex := 1010, attributes := #[] }, { accessFlags := 1, nameIndex := 507, descriptorIndex := 334, attributes := #[] }, { accessFlags := 1, nameIndex := 497, descriptorIndex := 427, attributes := #[] }, { accessFlags := 2, nameIndex := 5, descriptorIndex := 29, attributes := #[] }, { accessFlags := 0, nameIndex := 17, descriptorIndex := 337, attributes := #[] }, { accessFlags := 0, nameIndex := 494, descriptorIndex := 142, attributes := #[] }, { accessFlags := 8, nameIndex := 501, descriptorIndex := 391, attributes := #[] }] 49 2 #[1106, 1108, 575, 1110, 1112] #[{ accessFlags := 18, nameIndex := 13, descriptorIndex := 14, attributes := #[] }, { accessFlags := 18, nameIndex := 17, descriptorIndex := 18, attributes := #[] }, { accessFlags := 2, nameIndex := 21, descriptorIndex := 22, attributes := #[] }, { accessFlags := 2, nameIndex := 25, descriptorIndex := 26, attributes := #[] }, { accessFlags := 26, nameIndex := 1116, descriptorIndex := 1117, attributes := #[] }, { accessFlags := 24, nameIndex := 40, descriptorIndex := 26, attributes := #[] }, { accessFlags := 26, nameIndex := 1101, descriptorIndex := 1102, attributes := #[] }, { accessFlags := 26, nameIndex := 1121, descriptorIndex := 1122, attributes := #[] }, { accessFlags := 25, nameIndex := 599, descriptorIndex := 600, attributes := #[] }, { accessFlags := 24, nameIndex := 1125, descriptorIndex := 18, attributes := #[] }, { accessFlags := 24, nameIndex := 1127, descriptorIndex := 18, attributes := #[] }])
  fields := #[{ name := "value", type := (.array .byte), accessFlags := 18, slot := 0, constantValue := 0 }, { name := "coder", type := .byte, accessFlags := 18, slot := 1, constantValue := 0 }, { name := "hash", type := .int, accessFlags := 2, slot := 2, constantValue := 0 }, { name := "hashIsZero", type := .boolean, accessFlags := 2, slot := 3, constantValue := 0 }, { name := "serialVersionUID", type := .long, accessFlags := 26, slot := 0, constantValue := 0 }, { name := "COMPACT_STRINGS", type := .boolean, accessFlags := 24, slot := 1, constantValue := 0 }, { name := "serialPersistentFields", type := (.array (.object "java/io/ObjectStreamField")), accessFlags := 26, slot := 2, constantValue := 0 }, { name := "REPL", type := .char, accessFlags := 26, slot := 3, constantValue := 0 }, { name := "CASE_INSENSITIVE_ORDER", type := (.object "java/util/Comparator"), accessFlags := 25, slot := 4, constantValue := 0 }, { name := "LATIN1", type := .byte, accessFlags := 24, slot := 5, constantValue := 0 }, { name := "UTF16", type := .byte, accessFlags := 24, slot := 6, constantValue := 0 }]
  methods := #[k10m0, k10m1, k10m2, k10m3, k10m4, k10m5, k10m6, k10m7]
  instanceTypes := #[(.array .byte), .byte, .int, .boolean]
  staticTypes := #[.long, .boolean, (.array (.object "java/io/ObjectStreamField")), .char, (.object "java/util/Comparator"), .byte, .byte]
  resolved := Array.replicate 1451 none
  statics := some 1 }

def pool11 : Array CpInfo := pool [(6, .class_ 8), (1, u "java/lang/Object"), (0, u "<init>"), (0, u "()V"), (1, .class_ 14), (1, u "java/lang/StringUTF16"), (31, u "$assertionsDisabled"), (0, u "Z"), (13, u "HI_BYTE_SHIFT"), (0, u "I"), (2, u "LO_BYTE_SHIFT"), (49, .methodref 12 116), (0, .nameAndType 117 118), (0, u "compress"), (0, u "([CI[BII)I"), (3, u "([CII)[B"), (138, u "coderFromArrayLen"), (0, u "([BI)B"), (106, .class_ 371), (1, u "java/lang/StringUTF16$LinesSpliterator"), (58, u "MAX_LENGTH"), (196, .class_ 628), (0, u "java/lang/StringUTF16$CodePointsSpliterator"), (0, .class_ 630), (0, u "java/lang/StringUTF16$CharsSpliterator")] 4

def k11m0 : Method := { name := "<init>", desc := "()V", sig := { parameters := [], returnType := none }, accessFlags := 0, code := none }
def k11c1 : Code := { maxStack := 2, maxLocals := 2, code := jdk_52_method_15_code, exceptionTable := #[], attributes := #[] }
def k11m1 : Method := { name := "coderFromArrayLen", desc := "([BI)B", sig := { parameters := [(.array .byte), .int], returnType := some .byte }, accessFlags := 8, code := some k11c1 }
def k11c2 : Code := { maxStack := 5, maxLocals := 6, code := jdk_52_method_16_code, exceptionTable := #[], attributes := #[] }
def k11m2 : Method := { name := "compress", desc := "([CII)[B", sig := { parameters := [(.array .char), .int, .int], returnType := some (.array .byte) }, accessFlags := 9, code := some k11c2 }
def k11c3 : Code := { maxStack := 3, maxLocals := 7, code := jdk_52_method_21_code, exceptionTable := #[], attributes := #[] }
def k11m3 : Method := { name := "compress", desc := "([CI[BII)I", sig := { parameters := [(.array .char), .int, (.array .byte), .int, .int], returnType := some .int }, accessFlags := 9, code := some k11c3 }
/-- java/lang/StringUTF16 -/
def k11 : Class := { plain "java/lang/StringUTF16" (some 0) with
  accessFlags := 48
  interfaces := #[]
  cf := some (fileOf pool11 12 #[.nestMembers #[627, 629, 369]] #[{ accessFlags := 0, nameIndex := 9, descriptorIndex := 10, attributes := #[] }, { accessFlags := 8, nameIndex := 261, descriptorIndex := 262, attributes := #[] }, { accessFlags := 9, nameIndex := 117, descriptorIndex := 122, attributes := #[] }, { accessFlags := 9, nameIndex := 117, descriptorIndex := 118, attributes := #[] }] 48 6 #[] #[{ accessFlags := 26, nameIndex := 61, descriptorIndex := 62, attributes := #[] }, { accessFlags := 26, nameIndex := 65, descriptorIndex := 62, attributes := #[] }, { accessFlags := 24, nameIndex := 430, descriptorIndex := 62, attributes := #[] }, { accessFlags := 4120, nameIndex := 46, descriptorIndex := 47, attributes := #[] }])
  fields := #[{ name := "HI_BYTE_SHIFT", type := .int, accessFlags := 26, slot := 0, constantValue := 0 }, { name := "LO_BYTE_SHIFT", type := .int, accessFlags := 26, slot := 1, constantValue := 0 }, { name := "MAX_LENGTH", type := .int, accessFlags := 24, slot := 2, constantValue := 0 }, { name := "$assertionsDisabled", type := .boolean, accessFlags := 4120, slot := 3, constantValue := 0 }]
  methods := #[k11m0, k11m1, k11m2, k11m3]
  instanceTypes := #[]
  staticTypes := #[.int, .int, .int, .boolean]
  resolved := Array.replicate 635 none
  statics := none }

def pool12 : Array CpInfo := pool [(1, .class_ 2), (0, u "java/lang/String"), (1, .class_ 6), (1, u "java/lang/Object"), (0, u "<init>"), (0, u "()V"), (0, .methodref 1 10), (0, .nameAndType 11 12), (0, u "checkIndex"), (0, u "(II)V"), (1, .class_ 16), (1, u "java/lang/StringLatin1"), (36, u "([BI)C"), (67, u "$assertionsDisabled"), (0, u "Z"), (98, .class_ 223), (1, u "java/lang/StringLatin1$LinesSpliterator"), (28, u "charAt"), (137, .class_ 391), (0, u "java/lang/StringLatin1$CharsSpliterator")] 3

def k12m0 : Method := { name := "<init>", desc := "()V", sig := { parameters := [], returnType := none }, accessFlags := 0, code := none }
def k12c1 : Code := { maxStack := 2, maxLocals := 2, code := jdk_43_method_2_code, exceptionTable := #[], attributes := #[] }
def k12m1 : Method := { name := "charAt", desc := "([BI)C", sig := { parameters := [(.array .byte), .int], returnType := some .char }, accessFlags := 9, code := some k12c1 }
/-- java/lang/StringLatin1 -/
def k12 : Class := { plain "java/lang/StringLatin1" (some 0) with
  accessFlags := 48
  interfaces := #[]
  cf := some (fileOf pool12 14 #[.nestMembers #[390, 221]] #[{ accessFlags := 0, nameIndex := 7, descriptorIndex := 8, attributes := #[] }, { accessFlags := 9, nameIndex := 252, descriptorIndex := 53, attributes := #[] }] 48 4 #[] #[{ accessFlags := 4120, nameIndex := 121, descriptorIndex := 122, attributes := #[] }])
  fields := #[{ name := "$assertionsDisabled", type := .boolean, accessFlags := 4120, slot := 0, constantValue := 0 }]
  methods := #[k12m0, k12m1]
  instanceTypes := #[]
  staticTypes := #[.boolean]
  resolved := Array.replicate 395 none
  statics := none }

def pool13 : Array CpInfo := pool [(2, .class_ 4), (1, u "java/lang/Object"), (0, u "<init>"), (0, u "()V"), (17, .class_ 26), (1, u "jdk/internal/util/Preconditions"), (6, u "checkIndex"), (21, .class_ 56), (0, u "jdk/internal/util/Preconditions$4"), (57, .class_ 115), (0, u "jdk/internal/util/Preconditions$1"), (7, u "SIOOBE_FORMATTER"), (0, u "Ljava/util/function/BiFunction;"), (0, .class_ 126), (0, u "jdk/internal/util/Preconditions$2"), (3, u "AIOOBE_FORMATTER"), (0, .class_ 132), (0, u "jdk/internal/util/Preconditions$3"), (3, u "IOOBE_FORMATTER"), (41, u "(IILjava/util/function/BiFunction;)I")] 15

def k13m0 : Method := { name := "<init>", desc := "()V", sig := { parameters := [], returnType := none }, accessFlags := 1, code := none }
def k13c1 : Code := { maxStack := 3, maxLocals := 3, code := jdk_41_method_11_code, exceptionTable := #[], attributes := #[] }
def k13m1 : Method := { name := "checkIndex", desc := "(IILjava/util/function/BiFunction;)I", sig := { parameters := [.int, .int, (.object "java/util/function/BiFunction")], returnType := some .int }, accessFlags := 9, code := some k13c1 }
/-- jdk/internal/util/Preconditions -/
def k13 : Class := { plain "jdk/internal/util/Preconditions" (some 0) with
  accessFlags := 33
  interfaces := #[]
  cf := some (fileOf pool13 24 #[.nestMembers #[55, 131, 125, 114]] #[{ accessFlags := 1, nameIndex := 5, descriptorIndex := 6, attributes := #[] }, { accessFlags := 9, nameIndex := 33, descriptorIndex := 178, attributes := #[] }] 33 2 #[] #[{ accessFlags := 25, nameIndex := 123, descriptorIndex := 124, attributes := #[] }, { accessFlags := 25, nameIndex := 130, descriptorIndex := 124, attributes := #[] }, { accessFlags := 25, nameIndex := 136, descriptorIndex := 124, attributes := #[] }])
  fields := #[{ name := "SIOOBE_FORMATTER", type := (.object "java/util/function/BiFunction"), accessFlags := 25, slot := 0, constantValue := 0 }, { name := "AIOOBE_FORMATTER", type := (.object "java/util/function/BiFunction"), accessFlags := 25, slot := 1, constantValue := 0 }, { name := "IOOBE_FORMATTER", type := (.object "java/util/function/BiFunction"), accessFlags := 25, slot := 2, constantValue := 0 }]
  methods := #[k13m0, k13m1]
  instanceTypes := #[]
  staticTypes := #[(.object "java/util/function/BiFunction"), (.object "java/util/function/BiFunction"), (.object "java/util/function/BiFunction")]
  resolved := Array.replicate 194 none
  statics := some 2 }

def pool14 : Array CpInfo := pool [(9, u "<init>"), (6, .class_ 18), (1, u "java/lang/Object"), (0, u "()V"), (1, .class_ 23), (1, u "jdk/internal/util/ArraysSupport"), (0, u "LOG2_ARRAY_LONG_INDEX_SCALE"), (0, u "I"), (2, u "U"), (0, u "Ljdk/internal/misc/Unsafe;"), (8, u "BIG_ENDIAN"), (0, u "Z"), (8, u "LOG2_BYTE_BIT_SIZE"), (4, u "LOG2_ARRAY_INT_INDEX_SCALE"), (54, u "JLA"), (0, u "Ljdk/internal/access/JavaLangAccess;"), (11, u "LOG2_ARRAY_BOOLEAN_INDEX_SCALE"), (9, u "LOG2_ARRAY_BYTE_INDEX_SCALE"), (5, u "LOG2_ARRAY_CHAR_INDEX_SCALE"), (5, u "LOG2_ARRAY_SHORT_INDEX_SCALE"), (18, u "LOG2_ARRAY_FLOAT_INDEX_SCALE"), (24, u "LOG2_ARRAY_DOUBLE_INDEX_SCALE"), (89, u "T_BOOLEAN"), (2, u "T_CHAR"), (1, u "T_FLOAT"), (1, u "T_DOUBLE"), (1, u "T_BYTE"), (1, u "T_SHORT"), (1, u "T_INT"), (1, u "T_LONG"), (1, u "SOFT_MAX_ARRAY_LENGTH")] 83

def k14m0 : Method := { name := "<init>", desc := "()V", sig := { parameters := [], returnType := none }, accessFlags := 2, code := none }
/-- jdk/internal/util/ArraysSupport -/
def k14 : Class := { plain "jdk/internal/util/ArraysSupport" (some 0) with
  accessFlags := 33
  interfaces := #[]
  cf := some (fileOf pool14 21 #[] #[{ accessFlags := 2, nameIndex := 9, descriptorIndex := 19, attributes := #[] }] 33 16 #[] #[{ accessFlags := 24, nameIndex := 28, descriptorIndex := 29, attributes := #[] }, { accessFlags := 26, nameIndex := 38, descriptorIndex := 39, attributes := #[] }, { accessFlags := 25, nameIndex := 121, descriptorIndex := 25, attributes := #[] }, { accessFlags := 25, nameIndex := 131, descriptorIndex := 25, attributes := #[] }, { accessFlags := 25, nameIndex := 137, descriptorIndex := 25, attributes := #[] }, { accessFlags := 25, nameIndex := 143, descriptorIndex := 25, attributes := #[] }, { accessFlags := 25, nameIndex := 53, descriptorIndex := 25, attributes := #[] }, { accessFlags := 25, nameIndex := 24, descriptorIndex := 25, attributes := #[] }, { accessFlags := 25, nameIndex := 162, descriptorIndex := 25, attributes := #[] }, { accessFlags := 25, nameIndex := 187, descriptorIndex := 25, attributes := #[] }, { accessFlags := 26, nameIndex := 48, descriptorIndex := 25, attributes := #[] }, { accessFlags := 25, nameIndex := 277, descriptorIndex := 25, attributes := #[] }, { accessFlags := 25, nameIndex := 280, descriptorIndex := 25, attributes := #[] }, { accessFlags := 25, nameIndex := 282, descriptorIndex := 25, attributes := #[] }, { accessFlags := 25, nameIndex := 284, descriptorIndex := 25, attributes := #[] }, { accessFlags := 25, nameIndex := 286, descriptorIndex := 25, attributes := #[] }, { accessFlags := 25, nameIndex := 288, descriptorIndex := 25, attributes := #[] }, { accessFlags := 25, nameIndex := 290, descriptorIndex := 25, attributes := #[] }, { accessFlags := 25, nameIndex := 292, descriptorIndex := 25, attributes := #[] }, { accessFlags := 26, nameIndex := 108, descriptorIndex := 109, attributes := #[] }, { accessFlags := 25, nameIndex := 294, descriptorIndex := 25, attributes := #[] }])
  fields := #[{ name := "U", type := (.object "jdk/internal/misc/Unsafe"), accessFlags := 24, slot := 0, constantValue := 0 }, { name := "BIG_ENDIAN", type := .boolean, accessFlags := 26, slot := 1, constantValue := 0 }, { name := "LOG2_ARRAY_BOOLEAN_INDEX_SCALE", type := .int, accessFlags := 25, slot := 2, constantValue := 0 }, { name := "LOG2_ARRAY_BYTE_INDEX_SCALE", type := .int, accessFlags := 25, slot := 3, constantValue := 0 }, { name := "LOG2_ARRAY_CHAR_INDEX_SCALE", type := .int, accessFlags := 25, slot := 4, constantValue := 0 }, { name := "LOG2_ARRAY_SHORT_INDEX_SCALE", type := .int, accessFlags := 25, slot := 5, constantValue := 0 }, { name := "LOG2_ARRAY_INT_INDEX_SCALE", type := .int, accessFlags := 25, slot := 6, constantValue := 0 }, { name := "LOG2_ARRAY_LONG_INDEX_SCALE", type := .int, accessFlags := 25, slot := 7, constantValue := 0 }, { name := "LOG2_ARRAY_FLOAT_INDEX_SCALE", type := .int, accessFlags := 25, slot := 8, constantValue := 0 }, { name := "LOG2_ARRAY_DOUBLE_INDEX_SCALE", type := .int, accessFlags := 25, slot := 9, constantValue := 0 }, { name := "LOG2_BYTE_BIT_SIZE", type := .int, accessFlags := 26, slot := 10, constantValue := 0 }, { name := "T_BOOLEAN", type := .int, accessFlags := 25, slot := 11, constantValue := 0 }, { name := "T_CHAR", type := .int, accessFlags := 25, slot := 12, constantValue := 0 }, { name := "T_FLOAT", type := .int, accessFlags := 25, slot := 13, constantValue := 0 }, { name := "T_DOUBLE", type := .int, accessFlags := 25, slot := 14, constantValue := 0 }, { name := "T_BYTE", type := .int, accessFlags := 25, slot := 15, constantValue := 0 }, { name := "T_SHORT", type := .int, accessFlags := 25, slot := 16, constantValue := 0 }, { name := "T_INT", type := .int, accessFlags := 25, slot := 17, constantValue := 0 }, { name := "T_LONG", type := .int, accessFlags := 25, slot := 18, constantValue := 0 }, { name := "JLA", type := (.object "jdk/internal/access/JavaLangAccess"), accessFlags := 26, slot := 19, constantValue := 0 }, { name := "SOFT_MAX_ARRAY_LENGTH", type := .int, accessFlags := 25, slot := 20, constantValue := 0 }]
  methods := #[k14m0]
  instanceTypes := #[]
  staticTypes := #[(.object "jdk/internal/misc/Unsafe"), .boolean, .int, .int, .int, .int, .int, .int, .int, .int, .int, .int, .int, .int, .int, .int, .int, .int, .int, (.object "jdk/internal/access/JavaLangAccess"), .int]
  resolved := Array.replicate 378 none
  statics := none }

def pool15 : Array CpInfo := pool [(1, u "java/lang/Cloneable"), (0, .class_ 1), (0, u "java/lang/Object"), (0, .class_ 3)] 3

/-- java/lang/Cloneable -/
def k15 : Class := { plain "java/lang/Cloneable" (some 0) with
  accessFlags := 1537
  interfaces := #[]
  cf := some (fileOf pool15 2 #[] #[] 1537 4 #[] #[])
  fields := #[]
  methods := #[]
  instanceTypes := #[]
  staticTypes := #[]
  resolved := Array.replicate 8 none
  statics := none }

/-- the primitive byte -/
def k16 : Class := { plain "byte" none with kind := .primitive 'B', accessFlags := 0x411 }
/-- [B -/
def k17 : Class := { plain "[B" (some 0) with kind := .array 16 .byte, interfaces := #[15, 5], accessFlags := 1041 }

/-- the primitive char -/
def k18 : Class := { plain "char" none with kind := .primitive 'C', accessFlags := 0x411 }
/-- [C -/
def k19 : Class := { plain "[C" (some 0) with kind := .array 18 .char, interfaces := #[15, 5], accessFlags := 1041 }

/-- the primitive int -/
def k20 : Class := { plain "int" none with kind := .primitive 'I', accessFlags := 0x411 }
/-- [I -/
def k21 : Class := { plain "[I" (some 0) with kind := .array 20 .int, interfaces := #[15, 5], accessFlags := 1041 }

def heap : Heap := #[{ cls := 7, slots := #[.ref 3, .null, .null], vm := .statics 7 },
  { cls := 10, slots := #[.long 0, .int 1, .null, .int 0, .null, .int 0, .int 0], vm := .statics 10 },
  { cls := 13, slots := #[.null, .null, .null], vm := .statics 13 },
  { cls := 7, slots := #[.null, .int 0, .int 0, .int 2, .int 4, .null, .null, .null, .null, .null], vm := .none }]
def classes : Array Class := #[k0, k1, k2, k3, k4, k5, k6, k7, k8, k9, k10, k11, k12, k13, k14, k15, k16, k17, k18, k19, k20, k21]
def interned : List (Array UInt16 × Addr) := []
def slotsUsed : Nat := 23
def theMethod : MethodId := ⟨1, 1⟩
def args0 : Array Value := #[.long 5]
def aboutOver (below : List Frame) : State where
  vm := { classes := classes, interned := interned.toArray }
  heap := heap
  slotsUsed := slotsUsed
  threads := #[{ frames := .invoking theMethod args0 :: below }]
def below0 : List Frame := [.native { method := ⟨0, 0⟩, args := #[] }]
def about1 : State := aboutOver below0
def p0 : Program := .bare "" "" ""
def e0 : Env := launch0.env 0 0 0
theorem w_frames : about1.frames = Frame.invoking theMethod args0 :: below0 := rfl
set_option maxRecDepth 65536 in
theorem w_args : argsFit about1.vm theMethod args0 = true := by decide +kernel
set_option maxRecDepth 65536 in
theorem w_heap : heapFits about1 = true := by decide +kernel
set_option maxRecDepth 65536 in
theorem w_runnable : about1.curStatus? = some .runnable := by decide +kernel
set_option maxRecDepth 65536 in
theorem w_alone : about1.alone = true := by decide +kernel
set_option maxRecDepth 65536 in
theorem w_named : about1.methodNamed? x = some theMethod := by decide +kernel
set_option maxRecDepth 65536 in
theorem w_hears : about1.hears theMethod below0 = true := by decide +kernel
set_option maxRecDepth 65536 in
theorem w_ripe : about1.ripe theMethod args0 below0 = true := by decide +kernel
theorem w_running : about1.status = .running := rfl
set_option maxRecDepth 65536 in
theorem w_room : about1.hasRoom e0.platform room_1 = true :=
  launch0.hasRoom_least _ room_1 (by decide +kernel) (by decide +kernel) (by decide +kernel) (by decide +kernel) (by decide +kernel) (by decide +kernel)
theorem allAtoms_all (ts : List Jvm.Cond) (a : Array Jvm.Value) (st : Jvm.State) : (allAtoms ts).before a st = ts.all (fun c => c.before a st) := by
  induction ts with
  | nil => rfl
  | cons c t ih =>
    show (Jvm.Cond.and c (allAtoms t)).before a st = _
    rw [Jvm.Cond.before_and, ih, List.all_cons]
def words1 : List Jvm.Cond := Jvm.Cond.code x code maxLocals ret :: tables_1
/-- a 'code' word, met by the world's own term for the bytes: nothing is compared byte by byte -/
theorem code_word {y : MethodName} {bytes : ByteArray} {mx : Nat} {rt : Option FieldType} {a : Array Value} {s : State} {m : MethodId} {meth : Method} {c : Code} (h1 : s.methodNamed? y = some m) (h2 : s.vm.method? m = some meth) (h3 : meth.code = some c) (h4 : c.code = bytes)
    (h5 : (c.maxLocals == mx && c.exceptionTable.isEmpty && decide (c.maxStack ≤ mostOperands) && decide (meth.sig.returnType = rt) && !meth.locks && decide (parseMethodDescriptor y.desc = some meth.sig)) = true) : (Jvm.Cond.code y bytes mx rt).before a s = true := by
  simp only [Bool.and_eq_true, beq_iff_eq, Bool.not_eq_true', decide_eq_true_eq] at h5
  obtain ⟨⟨⟨⟨⟨g1, g2⟩, g3⟩, g4⟩, g5⟩, g6⟩ := h5
  simp [Cond.before, Cond.holds, Cond.value, h1, h2, h3, h4, g1, g2, g3, g4, g5, g6]
def isCode : Jvm.Cond → Bool
  | .code _ _ _ _ => true
  | _ => false
theorem all_split {L : List Jvm.Cond} {P : Jvm.Cond → Bool} (h1 : L.all (fun c => isCode c || P c) = true) (h2 : ∀ c ∈ L.filter isCode, P c = true) : L.all P = true := by
  refine List.all_eq_true.mpr fun c hc => ?_
  have h := List.all_eq_true.mp h1 c hc
  rcases Bool.eq_false_or_eq_true (isCode c) with hi | hi
  · exact h2 c (List.mem_filter.mpr ⟨hc, hi⟩)
  · simpa [hi] using h
set_option maxRecDepth 65536 in
theorem w_c0 : (Jvm.Cond.code x code maxLocals ret).before args0 about1 = true := code_word (m := ⟨1, 1⟩) (meth := k1m1) (c := k1c1) (by decide +kernel) rfl rfl rfl (by decide +kernel)
set_option maxRecDepth 65536 in
theorem w_c1 : (Jvm.Cond.code ({ cls := "nonet/GridToStringPinLaw", name := "dig", desc := "(JI)B" } : Jvm.MethodName) method_3_code (3 : Nat) (Option.some Jvm.ClassFile.FieldType.byte)).before args0 about1 = true := code_word (m := ⟨1, 2⟩) (meth := k1m2) (c := k1c2) (by decide +kernel) rfl rfl rfl (by decide +kernel)
set_option maxRecDepth 65536 in
theorem w_c2 : (Jvm.Cond.code ({ cls := "nonet/Grid", name := "<init>", desc := "(Lnonet/Size;[B)V" } : Jvm.MethodName) prog_7_method_1_code (3 : Nat) (Option.none : Option Jvm.ClassFile.FieldType)).before args0 about1 = true := code_word (m := ⟨2, 0⟩) (meth := k2m0) (c := k2c0) (by decide +kernel) rfl rfl rfl (by decide +kernel)
set_option maxRecDepth 65536 in
theorem w_c3 : (Jvm.Cond.code ({ cls := "java/lang/Object", name := "<init>", desc := "()V" } : Jvm.MethodName) object_method_1_code (1 : Nat) (Option.none : Option Jvm.ClassFile.FieldType)).before args0 about1 = true := code_word (m := ⟨0, 0⟩) (meth := k0m0) (c := k0c0) (by decide +kernel) rfl rfl rfl (by decide +kernel)
set_option maxRecDepth 65536 in
theorem w_c4 : (Jvm.Cond.code ({ cls := "nonet/Grid", name := "toString", desc := "()Ljava/lang/String;" } : Jvm.MethodName) prog_7_method_7_code (3 : Nat) (Option.some (Jvm.ClassFile.FieldType.object "java/lang/String"))).before args0 about1 = true := code_word (m := ⟨2, 1⟩) (meth := k2m1) (c := k2c1) (by decide +kernel) rfl rfl rfl (by decide +kernel)
set_option maxRecDepth 65536 in
theorem w_c5 : (Jvm.Cond.code ({ cls := "nonet/Grid", name := "symbol", desc := "(I)C" } : Jvm.MethodName) prog_7_method_9_code (2 : Nat) (Option.some Jvm.ClassFile.FieldType.char)).before args0 about1 = true := code_word (m := ⟨2, 2⟩) (meth := k2m2) (c := k2c2) (by decide +kernel) rfl rfl rfl (by decide +kernel)
set_option maxRecDepth 65536 in
theorem w_c6 : (Jvm.Cond.code ({ cls := "java/lang/String", name := "<init>", desc := "([C)V" } : Jvm.MethodName) jdk_42_method_3_code (2 : Nat) (Option.none : Option Jvm.ClassFile.FieldType)).before args0 about1 = true := code_word (m := ⟨10, 1⟩) (meth := k10m1) (c := k10c1) (by decide +kernel) rfl rfl rfl (by decide +kernel)
set_option maxRecDepth 65536 in
theorem w_c7 : (Jvm.Cond.code ({ cls := "java/lang/String", name := "<init>", desc := "([CIILjava/lang/Void;)V" } : Jvm.MethodName) jdk_42_method_149_code (6 : Nat) (Option.none : Option Jvm.ClassFile.FieldType)).before args0 about1 = true := code_word (m := ⟨10, 4⟩) (meth := k10m4) (c := k10c4) (by decide +kernel) rfl rfl rfl (by decide +kernel)
set_option maxRecDepth 65536 in
theorem w_c8 : (Jvm.Cond.code ({ cls := "java/lang/StringUTF16", name := "compress", desc := "([CII)[B" } : Jvm.MethodName) jdk_52_method_16_code (6 : Nat) (Option.some (Jvm.ClassFile.FieldType.array Jvm.ClassFile.FieldType.byte))).before args0 about1 = true := code_word (m := ⟨11, 2⟩) (meth := k11m2) (c := k11c2) (by decide +kernel) rfl rfl rfl (by decide +kernel)
set_option maxRecDepth 65536 in
theorem w_c9 : (Jvm.Cond.code ({ cls := "java/lang/StringUTF16", name := "compress", desc := "([CI[BII)I" } : Jvm.MethodName) jdk_52_method_21_code (7 : Nat) (Option.some Jvm.ClassFile.FieldType.int)).before args0 about1 = true := code_word (m := ⟨11, 3⟩) (meth := k11m3) (c := k11c3) (by decide +kernel) rfl rfl rfl (by decide +kernel)
set_option maxRecDepth 65536 in
theorem w_c10 : (Jvm.Cond.code ({ cls := "java/lang/StringUTF16", name := "coderFromArrayLen", desc := "([BI)B" } : Jvm.MethodName) jdk_52_method_15_code (2 : Nat) (Option.some Jvm.ClassFile.FieldType.byte)).before args0 about1 = true := code_word (m := ⟨11, 1⟩) (meth := k11m1) (c := k11c1) (by decide +kernel) rfl rfl rfl (by decide +kernel)
set_option maxRecDepth 65536 in
theorem w_c11 : (Jvm.Cond.code ({ cls := "java/lang/String", name := "length", desc := "()I" } : Jvm.MethodName) jdk_42_method_54_code (1 : Nat) (Option.some Jvm.ClassFile.FieldType.int)).before args0 about1 = true := code_word (m := ⟨10, 2⟩) (meth := k10m2) (c := k10c2) (by decide +kernel) rfl rfl rfl (by decide +kernel)
set_option maxRecDepth 65536 in
theorem w_c12 : (Jvm.Cond.code ({ cls := "java/lang/String", name := "coder", desc := "()B" } : Jvm.MethodName) jdk_42_method_152_code (1 : Nat) (Option.some Jvm.ClassFile.FieldType.byte)).before args0 about1 = true := code_word (m := ⟨10, 5⟩) (meth := k10m5) (c := k10c5) (by decide +kernel) rfl rfl rfl (by decide +kernel)
set_option maxRecDepth 65536 in
theorem w_c13 : (Jvm.Cond.code ({ cls := "nonet/GridToStringPinLaw", name := "at", desc := "(Ljava/lang/String;JI)Z" } : Jvm.MethodName) method_5_code (4 : Nat) (Option.some Jvm.ClassFile.FieldType.boolean)).before args0 about1 = true := code_word (m := ⟨1, 4⟩) (meth := k1m4) (c := k1c4) (by decide +kernel) rfl rfl rfl (by decide +kernel)
set_option maxRecDepth 65536 in
theorem w_c14 : (Jvm.Cond.code ({ cls := "java/lang/String", name := "charAt", desc := "(I)C" } : Jvm.MethodName) jdk_42_method_56_code (2 : Nat) (Option.some Jvm.ClassFile.FieldType.char)).before args0 about1 = true := code_word (m := ⟨10, 3⟩) (meth := k10m3) (c := k10c3) (by decide +kernel) rfl rfl rfl (by decide +kernel)
set_option maxRecDepth 65536 in
theorem w_c15 : (Jvm.Cond.code ({ cls := "java/lang/String", name := "isLatin1", desc := "()Z" } : Jvm.MethodName) jdk_42_method_154_code (1 : Nat) (Option.some Jvm.ClassFile.FieldType.boolean)).before args0 about1 = true := code_word (m := ⟨10, 6⟩) (meth := k10m6) (c := k10c6) (by decide +kernel) rfl rfl rfl (by decide +kernel)
set_option maxRecDepth 65536 in
theorem w_c16 : (Jvm.Cond.code ({ cls := "java/lang/StringLatin1", name := "charAt", desc := "([BI)C" } : Jvm.MethodName) jdk_43_method_2_code (2 : Nat) (Option.some Jvm.ClassFile.FieldType.char)).before args0 about1 = true := code_word (m := ⟨12, 1⟩) (meth := k12m1) (c := k12c1) (by decide +kernel) rfl rfl rfl (by decide +kernel)
set_option maxRecDepth 65536 in
theorem w_c17 : (Jvm.Cond.code ({ cls := "java/lang/String", name := "checkIndex", desc := "(II)V" } : Jvm.MethodName) jdk_42_method_155_code (2 : Nat) (Option.none : Option Jvm.ClassFile.FieldType)).before args0 about1 = true := code_word (m := ⟨10, 7⟩) (meth := k10m7) (c := k10c7) (by decide +kernel) rfl rfl rfl (by decide +kernel)
set_option maxRecDepth 65536 in
theorem w_c18 : (Jvm.Cond.code ({ cls := "jdk/internal/util/Preconditions", name := "checkIndex", desc := "(IILjava/util/function/BiFunction;)I" } : Jvm.MethodName) jdk_41_method_11_code (3 : Nat) (Option.some Jvm.ClassFile.FieldType.int)).before args0 about1 = true := code_word (m := ⟨13, 1⟩) (meth := k13m1) (c := k13c1) (by decide +kernel) rfl rfl rfl (by decide +kernel)
set_option maxRecDepth 65536 in
theorem w_c19 : (Jvm.Cond.code ({ cls := "nonet/GridToStringPinLaw", name := "sym", desc := "(I)C" } : Jvm.MethodName) method_4_code (1 : Nat) (Option.some Jvm.ClassFile.FieldType.char)).before args0 about1 = true := code_word (m := ⟨1, 3⟩) (meth := k1m3) (c := k1c3) (by decide +kernel) rfl rfl rfl (by decide +kernel)
def codes1 : List Jvm.Cond := [Jvm.Cond.code x code maxLocals ret, Jvm.Cond.code ({ cls := "nonet/GridToStringPinLaw", name := "dig", desc := "(JI)B" } : Jvm.MethodName) method_3_code (3 : Nat) (Option.some Jvm.ClassFile.FieldType.byte), Jvm.Cond.code ({ cls := "nonet/Grid", name := "<init>", desc := "(Lnonet/Size;[B)V" } : Jvm.MethodName) prog_7_method_1_code (3 : Nat) (Option.none : Option Jvm.ClassFile.FieldType), Jvm.Cond.code ({ cls := "java/lang/Object", name := "<init>", desc := "()V" } : Jvm.MethodName) object_method_1_code (1 : Nat) (Option.none : Option Jvm.ClassFile.FieldType), Jvm.Cond.code ({ cls := "nonet/Grid", name := "toString", desc := "()Ljava/lang/String;" } : Jvm.MethodName) prog_7_method_7_code (3 : Nat) (Option.some (Jvm.ClassFile.FieldType.object "java/lang/String")), Jvm.Cond.code ({ cls := "nonet/Grid", name := "symbol", desc := "(I)C" } : Jvm.MethodName) prog_7_method_9_code (2 : Nat) (Option.some Jvm.ClassFile.FieldType.char), Jvm.Cond.code ({ cls := "java/lang/String", name := "<init>", desc := "([C)V" } : Jvm.MethodName) jdk_42_method_3_code (2 : Nat) (Option.none : Option Jvm.ClassFile.FieldType), Jvm.Cond.code ({ cls := "java/lang/String", name := "<init>", desc := "([CIILjava/lang/Void;)V" } : Jvm.MethodName) jdk_42_method_149_code (6 : Nat) (Option.none : Option Jvm.ClassFile.FieldType), Jvm.Cond.code ({ cls := "java/lang/StringUTF16", name := "compress", desc := "([CII)[B" } : Jvm.MethodName) jdk_52_method_16_code (6 : Nat) (Option.some (Jvm.ClassFile.FieldType.array Jvm.ClassFile.FieldType.byte)), Jvm.Cond.code ({ cls := "java/lang/StringUTF16", name := "compress", desc := "([CI[BII)I" } : Jvm.MethodName) jdk_52_method_21_code (7 : Nat) (Option.some Jvm.ClassFile.FieldType.int), Jvm.Cond.code ({ cls := "java/lang/StringUTF16", name := "coderFromArrayLen", desc := "([BI)B" } : Jvm.MethodName) jdk_52_method_15_code (2 : Nat) (Option.some Jvm.ClassFile.FieldType.byte), Jvm.Cond.code ({ cls := "java/lang/String", name := "length", desc := "()I" } : Jvm.MethodName) jdk_42_method_54_code (1 : Nat) (Option.some Jvm.ClassFile.FieldType.int), Jvm.Cond.code ({ cls := "java/lang/String", name := "coder", desc := "()B" } : Jvm.MethodName) jdk_42_method_152_code (1 : Nat) (Option.some Jvm.ClassFile.FieldType.byte), Jvm.Cond.code ({ cls := "nonet/GridToStringPinLaw", name := "at", desc := "(Ljava/lang/String;JI)Z" } : Jvm.MethodName) method_5_code (4 : Nat) (Option.some Jvm.ClassFile.FieldType.boolean), Jvm.Cond.code ({ cls := "java/lang/String", name := "charAt", desc := "(I)C" } : Jvm.MethodName) jdk_42_method_56_code (2 : Nat) (Option.some Jvm.ClassFile.FieldType.char), Jvm.Cond.code ({ cls := "java/lang/String", name := "isLatin1", desc := "()Z" } : Jvm.MethodName) jdk_42_method_154_code (1 : Nat) (Option.some Jvm.ClassFile.FieldType.boolean), Jvm.Cond.code ({ cls := "java/lang/StringLatin1", name := "charAt", desc := "([BI)C" } : Jvm.MethodName) jdk_43_method_2_code (2 : Nat) (Option.some Jvm.ClassFile.FieldType.char), Jvm.Cond.code ({ cls := "java/lang/String", name := "checkIndex", desc := "(II)V" } : Jvm.MethodName) jdk_42_method_155_code (2 : Nat) (Option.none : Option Jvm.ClassFile.FieldType), Jvm.Cond.code ({ cls := "jdk/internal/util/Preconditions", name := "checkIndex", desc := "(IILjava/util/function/BiFunction;)I" } : Jvm.MethodName) jdk_41_method_11_code (3 : Nat) (Option.some Jvm.ClassFile.FieldType.int), Jvm.Cond.code ({ cls := "nonet/GridToStringPinLaw", name := "sym", desc := "(I)C" } : Jvm.MethodName) method_4_code (1 : Nat) (Option.some Jvm.ClassFile.FieldType.char)]
set_option maxRecDepth 65536 in
theorem codes_eq : words1.filter isCode = codes1 := rfl
theorem w_codes : ∀ c ∈ words1.filter isCode, c.before args0 about1 = true := by
  rw [codes_eq]
  intro c hc
  simp only [codes1, List.mem_cons, List.not_mem_nil, or_false] at hc
  rcases hc with rfl | rfl | rfl | rfl | rfl | rfl | rfl | rfl | rfl | rfl | rfl | rfl | rfl | rfl | rfl | rfl | rfl | rfl | rfl | rfl
  · exact w_c0
  · exact w_c1
  · exact w_c2
  · exact w_c3
  · exact w_c4
  · exact w_c5
  · exact w_c6
  · exact w_c7
  · exact w_c8
  · exact w_c9
  · exact w_c10
  · exact w_c11
  · exact w_c12
  · exact w_c13
  · exact w_c14
  · exact w_c15
  · exact w_c16
  · exact w_c17
  · exact w_c18
  · exact w_c19
set_option maxRecDepth 65536 in
theorem w_t1 : (words1.take 24).all (fun c => isCode c || c.before args0 about1) = true := by decide +kernel
set_option maxRecDepth 65536 in
theorem w_t2 : ((words1.drop 24).take 24).all (fun c => isCode c || c.before args0 about1) = true := by decide +kernel
set_option maxRecDepth 65536 in
theorem w_t3 : (((words1.drop 24).drop 24).take 24).all (fun c => isCode c || c.before args0 about1) = true := by decide +kernel
set_option maxRecDepth 65536 in
theorem w_t4 : ((((words1.drop 24).drop 24).drop 24).take 24).all (fun c => isCode c || c.before args0 about1) = true := by decide +kernel
set_option maxRecDepth 65536 in
theorem w_t5 : ((((words1.drop 24).drop 24).drop 24).drop 24).all (fun c => isCode c || c.before args0 about1) = true := by decide +kernel
theorem w_tables : (allAtoms (Jvm.Cond.code x code maxLocals ret :: tables_1)).before args0 about1 = true := by
  rw [allAtoms_all]
  show words1.all (fun c => c.before args0 about1) = true
  refine all_split ?_ w_codes
  rw [← List.take_append_drop 24 words1, List.all_append, w_t1, ← List.take_append_drop 24 (words1.drop 24), List.all_append, w_t2, ← List.take_append_drop 24 ((words1.drop 24).drop 24), List.all_append, w_t3, ← List.take_append_drop 24 (((words1.drop 24).drop 24).drop 24), List.all_append, w_t4, w_t5]
  rfl
set_option maxRecDepth 65536 in
theorem w_rest : rest_1_c.before args0 about1 = true := by decide +kernel
set_option maxRecDepth 65536 in
theorem w_case : (Jvm.Cond.and given_1 narrow_1).before args0 about1 = true := by decide +kernel
theorem w_applies : (headSpec (Jvm.Cond.code x code maxLocals ret :: tables_1) room_1).applies x e0.platform about1 = true :=
  (Spec.applies_iff w_frames).mpr ⟨w_running, w_runnable, w_alone, w_named, w_hears, w_ripe, w_room, w_tables⟩
theorem atStart : AtStart classFile x code maxLocals ret World_1 tables_1 room_1 Calls_1 rest_1 Pre_1 launch0 p0 e0 about1 theMethod args0 below0 :=
  ⟨lists_1, trivial, launch0.admits_env _ _ _, launch0.least_env, fairChoices_fair.cas, fairChoices_fair.clock, w_frames, w_args, w_heap, w_applies, trivial, w_rest, w_case⟩
end start1
theorem witness_1 : WitnessClaimed_1 := ⟨start1.p0, start1.e0, start1.about1, start1.theMethod, start1.args0, start1.below0, start1.atStart⟩
end Jvm.Pilot.@@N@@
