import JvmDerived
import JvmDerived.Pilot.@@N@@Statement
import JvmDerived.Pilot.@@N@@Code
set_option linter.unusedVariables false
set_option linter.unusedSimpArgs false
namespace Jvm.RoadKit
open Sem ClassFile Op Lib Jvm.Stand Jvm.Free Jvm.LawKit
section OwnGo
variable {p : Program} {l : Launch} {e : Env} {R : Room} {s : State} {m : MethodId} {args : Array Value} {below : List Frame} {meth : Method} {c : Code} {T : State} {locs : List Loc} {cells slots : Nat} {Z : State} {a0 : Array Value} {h : Heap} {Q : Option Value → Heap → List Loc → Prop} {kc ks : Nat} {Fin : State → Outcome → Prop}
/-- what is left of a body's walk: from the frame g over T the run ends, in what Fin says -/
def Go (p : Program) (e : Env) (below : List Frame) (Fin : State → Outcome → Prop) (T : State) (g : JFrame) : Prop :=
  ∃ (t : State) (o : Outcome), Steps p.tables e below (T.setTop g) t ∧ t.status = .running ∧ Ended t below o ∧ Fin t o
/-- it returns what Q says; nothing interned -/
def FinN (s : State) (Q : Option Value → Heap → List Loc → Prop) (kc ks : Nat) (t : State) (o : Outcome) : Prop := ∃ v L, o = .returned v ∧ Q v t.heap L ∧ FrameEnd s o t L kc ks
/-- it returns what Q says; String constants may have been interned -/
def FinW (s : State) (Q : Option Value → Heap → List Loc → Vm → Prop) (kc ks : Nat) (t : State) (o : Outcome) : Prop := ∃ v L, o = .returned v ∧ Q v t.heap L t.vm ∧ ReturnedEndW s o t L kc ks
theorem Go.to {T' : State} {g : JFrame} (g' : JFrame) (st : ∀ t, Steps p.tables e below (T'.setTop g') t → Steps p.tables e below (T.setTop g) t) (K : Go p e below Fin T' g') : Go p e below Fin T g := by
  obtain ⟨t, o, h1, r⟩ := K
  exact ⟨t, o, st t h1, r⟩
theorem Go.cast {g g' : JFrame} (q : g = g') (K : Go p e below Fin T g') : Go p e below Fin T g := q ▸ K
/-- a body's contract: with the arguments as' at the heap h0 it returns what Q says -/
def Met1 (l : Launch) (Z : State) (y : MethodName) (bytes : ByteArray) (maxL : Nat) (ret : Option FieldType) (rm : Room) (as' : Array Value) (h0 : Heap) (Q : Option Value → Heap → List Loc → Prop) : Prop :=
  ∀ ws : List Cond, MetFree l y (head1 (Cond.code y bytes maxL ret :: ws) rm) (fun a U => a = as' ∧ Z.Warmed39 U.vm ∧ U.heap = h0) (fun _ _ _ _ _ => True) (fun _ U o U' => ∃ v L, o = .returned v ∧ Q v U'.heap L ∧ FrameEnd U o U' L rm.cells rm.slots)
/-- .. which may intern; J: what is known of the tables where it is called -/
def MetW (l : Launch) (Z : State) (y : MethodName) (bytes : ByteArray) (maxL : Nat) (ret : Option FieldType) (rm : Room) (as' : Array Value) (h0 : Heap) (J : Vm → Prop) (Q : Option Value → Heap → List Loc → Vm → Prop) : Prop :=
  ∀ ws : List Cond, MetFree l y (head1 (Cond.code y bytes maxL ret :: ws) rm) (fun a U => a = as' ∧ Z.Warmed39 U.vm ∧ U.heap = h0 ∧ J U.vm) (fun _ _ _ _ _ => True) (fun _ U o U' => ∃ v L, o = .returned v ∧ Q v U'.heap L U'.vm ∧ ReturnedEndW U o U' L rm.cells rm.slots)
theorem Met1.mk {y : MethodName} {bytes : ByteArray} {maxL : Nat} {ret : Option FieldType} {rm : Room} {as' : Array Value} {h0 : Heap} (hp : plainFor y = true)
    (body : ∀ (p : Program) (e : Env) (s : State) (m : MethodId) (below : List Frame) (meth : Method) (c : Code) (s₁ : State), p.tables.exec = Jvm.exec → Z.Warmed39 s.vm → c.code = bytes → c.maxLocals = maxL → s.vm.findClass y.cls = some m.cls → meth.name = y.name → meth.sig.returnType = ret → meth.locks = false → Stand p l e rm s m as' below meth c s₁ [] 0 0 → s₁.heap = h0 → Go p e below (FinN s Q rm.cells rm.slots) s₁ (entryFrame m as' maxL)) :
    Met1 l Z y bytes maxL ret rm as' h0 Q := by
  intro ws
  refine MetFree.of_bodySF hp hisR ?_
  intro p e s m args below meth c s₁ Bd hml0 hP hK
  obtain ⟨rfl, hZ, hh⟩ := hP
  exact body p e s m below meth c s₁ Bd.exec hZ Bd.bytes hml0 (findClass_of_methodNamed Bd.named) (name_of_methodNamed Bd.named Bd.method).1 Bd.returns Bd.notSynchronized (Stand.of_body Bd) (by rw [← hh, Bd.state]; rfl)
theorem MetW.mk {y : MethodName} {bytes : ByteArray} {maxL : Nat} {ret : Option FieldType} {rm : Room} {as' : Array Value} {h0 : Heap} {J : Vm → Prop} {QW : Option Value → Heap → List Loc → Vm → Prop} (hp : plainFor y = true)
    (body : ∀ (p : Program) (e : Env) (s : State) (m : MethodId) (below : List Frame) (meth : Method) (c : Code) (s₁ : State) (vm0 : Vm), p.tables.exec = Jvm.exec → Z.Warmed39 (s.setVm vm0).vm → c.code = bytes → c.maxLocals = maxL → (s.setVm vm0).vm.findClass y.cls = some m.cls → meth.name = y.name → meth.sig.returnType = ret → meth.locks = false → Stand p l e rm (s.setVm vm0) m as' below meth c s₁ [] 0 0 → s₁.heap = h0 → s.Since vm0 0 → s.heap = h0 → Z.methodNamed? y = some m → J vm0 → Go p e below (FinW s QW rm.cells rm.slots) s₁ (entryFrame m as' maxL)) :
    MetW l Z y bytes maxL ret rm as' h0 J QW := by
  intro ws
  refine MetFree.of_bodySF hp hisR ?_
  intro p e s m args below meth c s₁ Bd hml0 hP hK
  obtain ⟨rfl, hZ, hh, hJ⟩ := hP
  exact body p e s m below meth c s₁ s.vm Bd.exec hZ Bd.bytes hml0 (findClass_of_methodNamed Bd.named) (name_of_methodNamed Bd.named Bd.method).1 Bd.returns Bd.notSynchronized (Stand.of_body Bd) (by rw [← hh, Bd.state]; rfl) (State.WarmedH.since (State.WarmedH.refl s) 0) hh ((State.methodNamed?_setVm hZ.alike y).symm.trans Bd.named) hJ
theorem Go.retI (X : Stand p l e R s m args below meth c T locs cells slots) (hx : p.tables.exec = Jvm.exec) (hret : meth.sig.returnType = some .int) (hlk : meth.locks = false) {pc : Nat} {Ls : Array Slot} {z : Int32} {rest : List Value} (hd : decode c.code pc = .ok (.ireturn, 1)) (hc : cells ≤ kc) (hs : slots ≤ ks)
    (hq : Q (some (.int z)) T.heap locs) : Go p e below (FinN s Q kc ks) T (mkF m pc Ls (.int z :: rest)) := by
  obtain ⟨fs, hr, hrun, hended, hW, hsame⟩ := X.leave (v := (some (.int z))) (fun h => by rw [hret] at h; cases h) hlk
  exact ⟨_, _, Jvm.RoadKit.retOut X hx hret (t := .int) rfl (Or.inl ⟨rfl, Or.inl rfl, _, rfl⟩) hd hr, hrun, hended, _, _, rfl, hq, ⟨_, rfl⟩, hW, hsame.mono hc hs⟩
theorem Go.retIW {vm0 : Vm} {QW : Option Value → Heap → List Loc → Vm → Prop} (X : Stand p l e R (s.setVm vm0) m args below meth c T locs cells slots) (hx : p.tables.exec = Jvm.exec) (hret : meth.sig.returnType = some .int) (hlk : meth.locks = false) {pc : Nat} {Ls : Array Slot} {z : Int32} {rest : List Value} (hd : decode c.code pc = .ok (.ireturn, 1)) (hc : cells ≤ kc) (hs : slots ≤ ks) {n : Nat} (hS : s.Since vm0 n) (hn : n ≤ T.heap.size)
    (hq : QW (some (.int z)) T.heap locs T.vm) : Go p e below (FinW s QW kc ks) T (mkF m pc Ls (.int z :: rest)) := by
  obtain ⟨fs, hr, hrun, hended, h1, h2, h3, h4⟩ := X.leaveW hS hn (v := (some (.int z))) (fun h => by rw [hret] at h; cases h) hlk
  exact ⟨_, _, Jvm.RoadKit.retOut X hx hret (t := .int) rfl (Or.inl ⟨rfl, Or.inl rfl, _, rfl⟩) hd hr, hrun, hended, _, _, rfl, hq, h1, h2, h3, h4.mono hc hs⟩
theorem Go.retN' (X : Stand p l e R s m args below meth c T locs cells slots) (hx : p.tables.exec = Jvm.exec) {t : FieldType} (hret : meth.sig.returnType = some t) (hlk : meth.locks = false) (ht : t = .boolean ∨ t = .byte ∨ t = .char ∨ t = .short) {pc : Nat} {Ls : Array Slot} {z : Int32} {rest : List Value} (hd : decode c.code pc = .ok (.ireturn, 1)) (hc : cells ≤ kc) (hs : slots ≤ ks)
    (hq : Q (some (.int (nar t z))) T.heap locs) : Go p e below (FinN s Q kc ks) T (mkF m pc Ls (.int z :: rest)) := by
  obtain ⟨fs, hr, hrun, hended, hW, hsame⟩ := X.leave (v := (some (.int (nar t z)))) (fun h => by rw [hret] at h; cases h) hlk
  exact ⟨_, _, Jvm.RoadKit.retN X hx hret ht hd hr, hrun, hended, _, _, rfl, hq, ⟨_, rfl⟩, hW, hsame.mono hc hs⟩
theorem Go.retNW' {vm0 : Vm} {QW : Option Value → Heap → List Loc → Vm → Prop} (X : Stand p l e R (s.setVm vm0) m args below meth c T locs cells slots) (hx : p.tables.exec = Jvm.exec) {t : FieldType} (hret : meth.sig.returnType = some t) (hlk : meth.locks = false) (ht : t = .boolean ∨ t = .byte ∨ t = .char ∨ t = .short) {pc : Nat} {Ls : Array Slot} {z : Int32} {rest : List Value} (hd : decode c.code pc = .ok (.ireturn, 1)) (hc : cells ≤ kc) (hs : slots ≤ ks) {n : Nat} (hS : s.Since vm0 n) (hn : n ≤ T.heap.size)
    (hq : QW (some (.int (nar t z))) T.heap locs T.vm) : Go p e below (FinW s QW kc ks) T (mkF m pc Ls (.int z :: rest)) := by
  obtain ⟨fs, hr, hrun, hended, h1, h2, h3, h4⟩ := X.leaveW hS hn (v := (some (.int (nar t z)))) (fun h => by rw [hret] at h; cases h) hlk
  exact ⟨_, _, Jvm.RoadKit.retN X hx hret ht hd hr, hrun, hended, _, _, rfl, hq, h1, h2, h3, h4.mono hc hs⟩
theorem Go.retL (X : Stand p l e R s m args below meth c T locs cells slots) (hx : p.tables.exec = Jvm.exec) (hret : meth.sig.returnType = some .long) (hlk : meth.locks = false) {pc : Nat} {Ls : Array Slot} {z : Int64} {rest : List Value} (hd : decode c.code pc = .ok (.lreturn, 1)) (hc : cells ≤ kc) (hs : slots ≤ ks)
    (hq : Q (some (.long z)) T.heap locs) : Go p e below (FinN s Q kc ks) T (mkF m pc Ls (.long z :: rest)) := by
  obtain ⟨fs, hr, hrun, hended, hW, hsame⟩ := X.leave (v := (some (.long z))) (fun h => by rw [hret] at h; cases h) hlk
  exact ⟨_, _, Jvm.RoadKit.retOut X hx hret (t := .long) rfl (Or.inr (Or.inl ⟨rfl, rfl, _, rfl⟩)) hd hr, hrun, hended, _, _, rfl, hq, ⟨_, rfl⟩, hW, hsame.mono hc hs⟩
theorem Go.retLW {vm0 : Vm} {QW : Option Value → Heap → List Loc → Vm → Prop} (X : Stand p l e R (s.setVm vm0) m args below meth c T locs cells slots) (hx : p.tables.exec = Jvm.exec) (hret : meth.sig.returnType = some .long) (hlk : meth.locks = false) {pc : Nat} {Ls : Array Slot} {z : Int64} {rest : List Value} (hd : decode c.code pc = .ok (.lreturn, 1)) (hc : cells ≤ kc) (hs : slots ≤ ks) {n : Nat} (hS : s.Since vm0 n) (hn : n ≤ T.heap.size)
    (hq : QW (some (.long z)) T.heap locs T.vm) : Go p e below (FinW s QW kc ks) T (mkF m pc Ls (.long z :: rest)) := by
  obtain ⟨fs, hr, hrun, hended, h1, h2, h3, h4⟩ := X.leaveW hS hn (v := (some (.long z))) (fun h => by rw [hret] at h; cases h) hlk
  exact ⟨_, _, Jvm.RoadKit.retOut X hx hret (t := .long) rfl (Or.inr (Or.inl ⟨rfl, rfl, _, rfl⟩)) hd hr, hrun, hended, _, _, rfl, hq, h1, h2, h3, h4.mono hc hs⟩
theorem own_narrow_ref {t : FieldType} {w : Value} (ht : t.isReference = true) : narrow t w = w := by cases t <;> first | rfl | (cases ht)
theorem Go.retA (X : Stand p l e R s m args below meth c T locs cells slots) (hx : p.tables.exec = Jvm.exec) {t : FieldType} (hret : meth.sig.returnType = some t) (hlk : meth.locks = false) (ht : t.isReference = true) {pc : Nat} {Ls : Array Slot} {w : Value} {rest : List Value} (hw : w.isRef = true) (hd : decode c.code pc = .ok (.areturn, 1)) (hc : cells ≤ kc) (hs : slots ≤ ks)
    (hq : Q (some w) T.heap locs) : Go p e below (FinN s Q kc ks) T (mkF m pc Ls (w :: rest)) := by
  obtain ⟨fs, hr, hrun, hended, hW, hsame⟩ := X.leave (v := (some w)) (fun h => by rw [hret] at h; cases h) hlk
  exact ⟨_, _, Jvm.RoadKit.retOut X hx hret (t := t) (own_narrow_ref ht) (Or.inr (Or.inr (Or.inr (Or.inr ⟨rfl, ht, hw⟩)))) hd hr, hrun, hended, _, _, rfl, hq, ⟨_, rfl⟩, hW, hsame.mono hc hs⟩
theorem Go.retAW {vm0 : Vm} {QW : Option Value → Heap → List Loc → Vm → Prop} (X : Stand p l e R (s.setVm vm0) m args below meth c T locs cells slots) (hx : p.tables.exec = Jvm.exec) {t : FieldType} (hret : meth.sig.returnType = some t) (hlk : meth.locks = false) (ht : t.isReference = true) {pc : Nat} {Ls : Array Slot} {w : Value} {rest : List Value} (hw : w.isRef = true) (hd : decode c.code pc = .ok (.areturn, 1)) (hc : cells ≤ kc) (hs : slots ≤ ks) {n : Nat} (hS : s.Since vm0 n) (hn : n ≤ T.heap.size)
    (hq : QW (some w) T.heap locs T.vm) : Go p e below (FinW s QW kc ks) T (mkF m pc Ls (w :: rest)) := by
  obtain ⟨fs, hr, hrun, hended, h1, h2, h3, h4⟩ := X.leaveW hS hn (v := (some w)) (fun h => by rw [hret] at h; cases h) hlk
  exact ⟨_, _, Jvm.RoadKit.retOut X hx hret (t := t) (own_narrow_ref ht) (Or.inr (Or.inr (Or.inr (Or.inr ⟨rfl, ht, hw⟩)))) hd hr, hrun, hended, _, _, rfl, hq, h1, h2, h3, h4.mono hc hs⟩
theorem Go.ret0 (X : Stand p l e R s m args below meth c T locs cells slots) (hx : p.tables.exec = Jvm.exec) (hret : meth.sig.returnType = none) (hlk : meth.locks = false) {pc : Nat} {Ls : Array Slot} (hd : decode c.code pc = .ok (.return_, 1)) (hc : cells ≤ kc) (hs : slots ≤ ks)
    (hq : Q none T.heap locs) : Go p e below (FinN s Q kc ks) T (mkF m pc Ls []) := by
  obtain ⟨fs, hr, hrun, hended, hW, hsame⟩ := X.leave (v := none) (fun _ => rfl) hlk
  exact ⟨_, _, X.returnOut hx hret hd hr, hrun, hended, _, _, rfl, hq, ⟨_, rfl⟩, hW, hsame.mono hc hs⟩
theorem Go.ret0W {vm0 : Vm} {QW : Option Value → Heap → List Loc → Vm → Prop} (X : Stand p l e R (s.setVm vm0) m args below meth c T locs cells slots) (hx : p.tables.exec = Jvm.exec) (hret : meth.sig.returnType = none) (hlk : meth.locks = false) {pc : Nat} {Ls : Array Slot} (hd : decode c.code pc = .ok (.return_, 1)) (hc : cells ≤ kc) (hs : slots ≤ ks) {n : Nat} (hS : s.Since vm0 n) (hn : n ≤ T.heap.size)
    (hq : QW none T.heap locs T.vm) : Go p e below (FinW s QW kc ks) T (mkF m pc Ls []) := by
  obtain ⟨fs, hr, hrun, hended, h1, h2, h3, h4⟩ := X.leaveW hS hn (v := none) (fun _ => rfl) hlk
  exact ⟨_, _, X.returnOut hx hret hd hr, hrun, hended, _, _, rfl, hq, h1, h2, h3, h4.mono hc hs⟩
theorem Go.retN (X : Stand p l e R s m args below meth c T locs cells slots) (hx : p.tables.exec = Jvm.exec) {t : FieldType} (hret : meth.sig.returnType = some t) (hlk : meth.locks = false) (ht : t = .boolean ∨ t = .byte ∨ t = .char ∨ t = .short) {pc : Nat} {Ls : Array Slot} {z z' : Int32} {rest : List Value} (hd : decode c.code pc = .ok (.ireturn, 1)) (hc : cells ≤ kc) (hs : slots ≤ ks) (hz : nar t z = z')
    (hq : Q (some (.int z')) T.heap locs) : Go p e below (FinN s Q kc ks) T (mkF m pc Ls (.int z :: rest)) := by
  subst hz; exact Go.retN' X hx hret hlk ht hd hc hs hq
theorem Go.retNW {vm0 : Vm} {QW : Option Value → Heap → List Loc → Vm → Prop} (X : Stand p l e R (s.setVm vm0) m args below meth c T locs cells slots) (hx : p.tables.exec = Jvm.exec) {t : FieldType} (hret : meth.sig.returnType = some t) (hlk : meth.locks = false) (ht : t = .boolean ∨ t = .byte ∨ t = .char ∨ t = .short) {pc : Nat} {Ls : Array Slot} {z z' : Int32} {rest : List Value} (hd : decode c.code pc = .ok (.ireturn, 1)) (hc : cells ≤ kc) (hs : slots ≤ ks) {n : Nat} (hS : s.Since vm0 n) (hn : n ≤ T.heap.size) (hz : nar t z = z')
    (hq : QW (some (.int z')) T.heap locs T.vm) : Go p e below (FinW s QW kc ks) T (mkF m pc Ls (.int z :: rest)) := by
  subst hz; exact Go.retNW' X hx hret hlk ht hd hc hs hS hn hq
/-- who pays a call: with the arguments as' at the heap h, k cells and n slots more, what Qc says -/
def OBk (l : Launch) (R : Room) (p : Program) (e : Env) (below : List Frame) (s : State) (args : Array Value) (y : MethodName) (len W : Nat) (as' : Array Value) (h : Heap) (k n : Nat) (Qc : Option Value → Heap → List Loc → Prop) : Prop :=
  Back l R p e below s args y len W (fun A a => a = as' ∧ A.U.heap = h ∧ A.cells + k ≤ R.cells ∧ A.slots + n ≤ R.slots) (fun A _ v B => ∃ L, Qc v B.U.heap L ∧ B.locs = A.locs ++ L ∧ B.cells = A.cells + k ∧ B.slots = A.slots + n)
theorem Met1.back {y : MethodName} {bytes : ByteArray} {maxL : Nat} {ret : Option FieldType} {rm : Room} {as' : Array Value} {Qc : Option Value → Heap → List Loc → Prop} {len W : Nat} (M : Met1 l Z y bytes maxL ret rm as' h Qc) (hZ : Z.Warmed39 s.vm) (wc : (Cond.code y bytes maxL ret).before a0 Z = true) (wz : (Cond.initialized y.cls).before a0 Z = true) (hf : rm.frames + 1 ≤ R.frames) (hl : W + (maxL + 11) + rm.locals ≤ R.locals) :
    OBk l R p e below s args y len W as' h rm.cells rm.slots Qc := backOf (M []) hZ wc wz hf hl
/-- a constructor by its contract -/
theorem Go.special (X : Stand p l e R s m args below meth c T locs cells slots) (hx : p.tables.exec = Jvm.exec) (hZ : Z.Warmed39 s.vm) {own : String} {index : Nat} {y : MethodName} {bytes : ByteArray} {maxL : Nat} (hy1 : y.name = "<init>") (hown : s.vm.findClass own = some m.cls)
    (w1 : (Cond.methodLink own index y).before a0 Z = true) (w2 : (Cond.instanceMethod y).before a0 Z = true) (w3 : (Cond.code y bytes maxL none).before a0 Z = true) (hy : y.cls ≠ "java/lang/invoke/MethodHandle" ∧ y.cls ≠ "java/lang/invoke/VarHandle")
    (eT : T.heap = h) {kC kS : Nat} {a : Addr} {argsL rest : List Value} {Qc : Option Value → Heap → List Loc → Prop} {W : Nat} (B : OBk l R p e below s args y 3 W (.ref a :: argsL).toArray h kC kS Qc)
    {pc : Nat} {Ls : Array Slot} (hsz : Ls.size = c.maxLocals) (hlen : ∀ sig, parseMethodDescriptor y.desc = some sig → argsL.length = sig.parameters.length) {st : List Value} (hst : st = argsL.reverse ++ .ref a :: rest) (hW : (rest.map fun v => v.category).sum ≤ W) (hd : decode c.code pc = .ok (.invokespecial index, 3))
    (hc : cells + kC ≤ R.cells) (hs : slots + kS ≤ R.slots)
    (K : ∀ (T' : State) (v : Option Value) (L : List Loc), Stand p l e R s m args below meth c T' (locs ++ L) (cells + kC) (slots + kS) → Qc v T'.heap L → Go p e below Fin T' (mkF m (pc + 3) Ls (v.toList ++ rest))) : Go p e below Fin T (mkF m pc Ls st) := by
  subst hst
  obtain ⟨v, _, ⟨T', L', k', n'⟩, -, X', ⟨Lc, hQ, hl, hk, hn⟩, stp⟩ := X.specialBack hx (y := y) hy1 hown (mvT hZ w1) (mvT hZ w2) (mvT hZ w3) hy B (g := mkF m pc Ls (argsL.reverse ++ .ref a :: rest)) rfl hsz (Steps.refl _) (a := a) (argsL := argsL) (rest := rest) hlen rfl (by show 2 * 0 + _ ≤ _; omega) hd (fun _ _ => ⟨rfl, eT, hc, hs⟩)
  dsimp only [Pt.U, Pt.locs, Pt.cells, Pt.slots] at X' hl hk hn stp hQ
  subst hl hk hn
  obtain ⟨t, o, h1, r⟩ := K T' v Lc X' hQ
  exact ⟨t, o, stp.trans h1, r⟩
/-- an instance method by the contract of the body that the receiver's class selects -/
theorem Go.virt (X : Stand p l e R s m args below meth c T locs cells slots) (hx : p.tables.exec = Jvm.exec) (hZ : Z.Warmed39 s.vm) {own C : String} {index : Nat} {y z : MethodName} (hown : s.vm.findClass own = some m.cls)
    (w1 : (Cond.methodLink own index y).before a0 Z = true) (w2 : (Cond.declares y).before a0 Z = true) (nf : NotFace s y) (w3 : (Cond.selects C y z).before a0 Z = true) (w4 : (Cond.instanceMethod z).before a0 Z = true) (hy : y.cls ≠ "java/lang/invoke/MethodHandle" ∧ y.cls ≠ "java/lang/invoke/VarHandle")
    (eT : T.heap = h) {kC kS : Nat} {a : Addr} (E : Exa Z h a C) {argsL rest : List Value} {Qc : Option Value → Heap → List Loc → Prop} {W : Nat} (B : OBk l R p e below s args z 3 W (.ref a :: argsL).toArray h kC kS Qc)
    {pc : Nat} {Ls : Array Slot} (hsz : Ls.size = c.maxLocals) (hlen : ∀ sig, parseMethodDescriptor y.desc = some sig → argsL.length = sig.parameters.length) {st : List Value} (hst : st = argsL.reverse ++ .ref a :: rest) (hW : (rest.map fun v => v.category).sum ≤ W) (hd : decode c.code pc = .ok (.invokevirtual index, 3))
    (hc : cells + kC ≤ R.cells) (hs : slots + kS ≤ R.slots)
    (K : ∀ (T' : State) (v : Option Value) (L : List Loc), Stand p l e R s m args below meth c T' (locs ++ L) (cells + kC) (slots + kS) → Qc v T'.heap L → Go p e below Fin T' (mkF m (pc + 3) Ls (v.toList ++ rest))) : Go p e below Fin T (mkF m pc Ls st) := by
  subst hst
  obtain ⟨cq, kq, qa, qb, qc⟩ := isOf hZ eT E
  obtain ⟨v, _, ⟨T', L', k', n'⟩, -, X', ⟨Lc, hQ, hl, hk, hn⟩, stp⟩ := X.virtualBack hx (y := y) (z := z) hown (mvT hZ w1) (mvT hZ w2) nf (mvT hZ w3) (mvT hZ w4) hy B qa qc (g := mkF m pc Ls (argsL.reverse ++ .ref a :: rest)) rfl hsz (Steps.refl _) (argsL := argsL) (rest := rest) hlen rfl (by show 2 * 0 + _ ≤ _; omega) hd (fun _ _ => ⟨rfl, eT, hc, hs⟩)
  dsimp only [Pt.U, Pt.locs, Pt.cells, Pt.slots] at X' hl hk hn stp hQ
  subst hl hk hn
  obtain ⟨t, o, h1, r⟩ := K T' v Lc X' hQ
  exact ⟨t, o, stp.trans h1, r⟩
/-- an interface's method by the contract of the body that the receiver's class selects -/
theorem Go.face (X : Stand p l e R s m args below meth c T locs cells slots) (hx : p.tables.exec = Jvm.exec) (hZ : Z.Warmed39 s.vm) {own C : String} {index count : Nat} {y z : MethodName} (hown : s.vm.findClass own = some m.cls)
    (w1 : (Cond.methodLink own index y).before a0 Z = true) (w2 : (Cond.declares y).before a0 Z = true) (w2' : (Cond.interfaceMethod y.cls y.cls y.name y.desc).before a0 Z = true) (w3 : (Cond.selects C y z).before a0 Z = true) (w4 : (Cond.instanceMethod z).before a0 Z = true) (w4' : (Cond.publicMethod z).before a0 Z = true) (w7 : (Cond.unhidden C y.name y.desc).before a0 Z = true) (w8 : (Cond.castable C y.cls).before a0 Z = true) (hy : y.cls ≠ "java/lang/invoke/MethodHandle" ∧ y.cls ≠ "java/lang/invoke/VarHandle") (wq : ((Cond.interfaceMethod y.cls y.cls y.name y.desc).onTables && (Cond.interfaceMethod y.cls y.cls y.name y.desc).keepsFace) = true := by decide +kernel)
    (eT : T.heap = h) {kC kS : Nat} {a : Addr} (E : Exa Z h a C) {argsL rest : List Value} {Qc : Option Value → Heap → List Loc → Prop} {W : Nat} (B : OBk l R p e below s args z 5 W (.ref a :: argsL).toArray h kC kS Qc)
    {pc : Nat} {Ls : Array Slot} (hsz : Ls.size = c.maxLocals) (hlen : ∀ sig, parseMethodDescriptor y.desc = some sig → argsL.length = sig.parameters.length) {st : List Value} (hst : st = argsL.reverse ++ .ref a :: rest) (hW : (rest.map fun v => v.category).sum ≤ W) (hd : decode c.code pc = .ok (.invokeinterface index count, 5))
    (hc : cells + kC ≤ R.cells) (hs : slots + kS ≤ R.slots)
    (K : ∀ (T' : State) (v : Option Value) (L : List Loc), Stand p l e R s m args below meth c T' (locs ++ L) (cells + kC) (slots + kS) → Qc v T'.heap L → Go p e below Fin T' (mkF m (pc + 5) Ls (v.toList ++ rest))) : Go p e below Fin T (mkF m pc Ls st) := by
  subst hst
  obtain ⟨cq, kq, qa, qb, qc⟩ := isOf hZ eT E
  obtain ⟨v, _, ⟨T', L', k', n'⟩, -, X', ⟨Lc, hQ, hl, hk, hn⟩, stp⟩ := X.interfaceBack hx (xi := y) (y := z) hown (mvT hZ w1) (mvT hZ w2) (mvT hZ w2' wq) (mvT hZ w3) (mvT hZ w4) (mvT hZ w4') (mvT hZ w7) (mvT hZ w8) hy B qa qb qc (g := mkF m pc Ls (argsL.reverse ++ .ref a :: rest)) rfl hsz (Steps.refl _) (argsL := argsL) (rest := rest) hlen rfl (by show 2 * 0 + _ ≤ _; omega) hd (fun _ _ => ⟨rfl, eT, hc, hs⟩)
  dsimp only [Pt.U, Pt.locs, Pt.cells, Pt.slots] at X' hl hk hn stp hQ
  subst hl hk hn
  obtain ⟨t, o, h1, r⟩ := K T' v Lc X' hQ
  exact ⟨t, o, stp.trans h1, r⟩
/-- a private instance method by its contract -/
theorem Go.priv (X : Stand p l e R s m args below meth c T locs cells slots) (hx : p.tables.exec = Jvm.exec) (hZ : Z.Warmed39 s.vm) {own : String} {index : Nat} {y : MethodName} {bytes : ByteArray} {maxL : Nat} {ret : Option FieldType} {C : String} (hown : s.vm.findClass own = some m.cls)
    (w1 : (Cond.methodLink own index y).before a0 Z = true) (w2 : (Cond.instanceMethod y).before a0 Z = true) (sel : (Cond.selects y.cls y y).before args s = true) (w4 : (Cond.privateMethod y).before a0 Z = true) (w3 : (Cond.code y bytes maxL ret).before a0 Z = true) (hy : y.cls ≠ "java/lang/invoke/MethodHandle" ∧ y.cls ≠ "java/lang/invoke/VarHandle")
    (eT : T.heap = h) {kC kS : Nat} {a : Addr} (E : Exa Z h a C) {argsL rest : List Value} {Qc : Option Value → Heap → List Loc → Prop} {W : Nat} (B : OBk l R p e below s args y 3 W (.ref a :: argsL).toArray h kC kS Qc)
    {pc : Nat} {Ls : Array Slot} (hsz : Ls.size = c.maxLocals) (hlen : ∀ sig, parseMethodDescriptor y.desc = some sig → argsL.length = sig.parameters.length) {st : List Value} (hst : st = argsL.reverse ++ .ref a :: rest) (hW : (rest.map fun v => v.category).sum ≤ W) (hd : decode c.code pc = .ok (.invokevirtual index, 3))
    (hc : cells + kC ≤ R.cells) (hs : slots + kS ≤ R.slots)
    (K : ∀ (T' : State) (v : Option Value) (L : List Loc), Stand p l e R s m args below meth c T' (locs ++ L) (cells + kC) (slots + kS) → Qc v T'.heap L → Go p e below Fin T' (mkF m (pc + 3) Ls (v.toList ++ rest))) : Go p e below Fin T (mkF m pc Ls st) := by
  subst hst
  obtain ⟨cq, q, q'⟩ := E.cell
  obtain ⟨v, _, ⟨T', L', k', n'⟩, -, X', ⟨Lc, hQ, hl, hk, hn⟩, stp⟩ := X.privateBack hx (y := y) hown (mvT hZ w1) (mvT hZ w2) sel (Cond.privateMethod_at (mvP hZ w4 (args := #[]))) (mvT hZ w3) hy B (g := mkF m pc Ls (argsL.reverse ++ .ref a :: rest)) rfl hsz (Steps.refl _) (a := a) (by rw [eT]; exact q) q' (argsL := argsL) (rest := rest) hlen rfl (by show 2 * 0 + _ ≤ _; omega) hd (fun _ _ => ⟨rfl, eT, hc, hs⟩)
  dsimp only [Pt.U, Pt.locs, Pt.cells, Pt.slots] at X' hl hk hn stp hQ
  subst hl hk hn
  obtain ⟨t, o, h1, r⟩ := K T' v Lc X' hQ
  exact ⟨t, o, stp.trans h1, r⟩
/-- a static method by its contract -/
theorem Go.stat (X : Stand p l e R s m args below meth c T locs cells slots) (hx : p.tables.exec = Jvm.exec) (hZ : Z.Warmed39 s.vm) {own : String} {index : Nat} {y : MethodName} {bytes : ByteArray} {maxL : Nat} {ret : Option FieldType} (hown : s.vm.findClass own = some m.cls)
    (w1 : (Cond.methodLink own index y).before a0 Z = true) (w2 : (Cond.static y).before a0 Z = true) (w3 : (Cond.initialized y.cls).before a0 Z = true) (w4 : (Cond.code y bytes maxL ret).before a0 Z = true) (hy : y.cls ≠ "java/lang/invoke/MethodHandle" ∧ y.cls ≠ "java/lang/invoke/VarHandle")
    (eT : T.heap = h) {kC kS : Nat} {argsL rest : List Value} {Qc : Option Value → Heap → List Loc → Prop} {W : Nat} (B : OBk l R p e below s args y 3 W argsL.toArray h kC kS Qc)
    {pc : Nat} {Ls : Array Slot} (hsz : Ls.size = c.maxLocals) (hlen : ∀ sig, parseMethodDescriptor y.desc = some sig → argsL.length = sig.parameters.length) {st : List Value} (hst : st = argsL.reverse ++ rest) (hW : (rest.map fun v => v.category).sum ≤ W) (hd : decode c.code pc = .ok (.invokestatic index, 3))
    (hc : cells + kC ≤ R.cells) (hs : slots + kS ≤ R.slots)
    (K : ∀ (T' : State) (v : Option Value) (L : List Loc), Stand p l e R s m args below meth c T' (locs ++ L) (cells + kC) (slots + kS) → Qc v T'.heap L → Go p e below Fin T' (mkF m (pc + 3) Ls (v.toList ++ rest))) : Go p e below Fin T (mkF m pc Ls st) := by
  subst hst
  obtain ⟨v, _, ⟨T', L', k', n'⟩, -, X', ⟨Lc, hQ, hl, hk, hn⟩, stp⟩ := Jvm.LawKit.callS X hx (y := y) hown (mvT hZ w1) (mvT hZ w2) (mvT hZ w3) (mvT hZ w4) hy B (g := mkF m pc Ls (argsL.reverse ++ rest)) rfl hsz (argsL := argsL) (rest := rest) hlen rfl (by show 2 * 0 + _ ≤ _; omega) hd (fun _ _ => ⟨rfl, eT, hc, hs⟩)
  dsimp only [Pt.U, Pt.locs, Pt.cells, Pt.slots] at X' hl hk hn stp hQ
  subst hl hk hn
  obtain ⟨t, o, h1, r⟩ := K T' v Lc X' hQ
  exact ⟨t, o, stp t h1, r⟩
/-- who pays a call of a callee that may intern -/
def OBkS (l : Launch) (R : Room) (p : Program) (e : Env) (below : List Frame) (s : State) (args : Array Value) (y : MethodName) (len W : Nat) (as' : Array Value) (h : Heap) (k n : Nat) (Qc : Option Value → Heap → List Loc → Vm → Prop) : Prop :=
  BackS l R p e below s args y len W (fun A a => a = as' ∧ A.U.heap = h ∧ A.cells + k ≤ R.cells ∧ A.slots + n ≤ R.slots) (fun A _ v B => ∃ L, Qc v B.U.heap L B.U.vm ∧ B.locs = A.locs ++ L ∧ B.cells = A.cells + k ∧ B.slots = A.slots + n)
theorem MetW.back {y : MethodName} {bytes : ByteArray} {maxL : Nat} {ret : Option FieldType} {rm : Room} {as' : Array Value} {J : Vm → Prop} {Qc : Option Value → Heap → List Loc → Vm → Prop} {len W : Nat} (M : MetW l Z y bytes maxL ret rm as' h J Qc) (hZ : Z.Warmed39 s.vm) (hJ : ∀ vm1, s.WarmedH vm1 → J vm1) (wc : (Cond.code y bytes maxL ret).before a0 Z = true) (wz : (Cond.initialized y.cls).before a0 Z = true) (hf : rm.frames + 1 ≤ R.frames) (hl : W + (maxL + 11) + rm.locals ≤ R.locals) :
    OBkS l R p e below s args y len W as' h rm.cells rm.slots Qc :=
  BackS.of_freeW (bytes := bytes) (maxL := maxL) (ret := ret) (E := fun _ _ o t L k n => k = rm.cells ∧ n = rm.slots ∧ ∃ v, o = .returned v ∧ Qc v t.heap L t.vm) (M []) hf hl
    (fun m meth c A a Y hp => have hU : Z.Warmed39 A.U.vm := wtrans hZ Y.warmed
      ⟨by show (Cond.and _ .tt).before a A.U = true; rw [Cond.before_and, mv hU wc]; rfl, mv hU wc, mv hU wz, hp.2.2.1, hp.2.2.2⟩)
    (fun m meth c A a g mk Y hp => ⟨hp.1, wtrans hZ Y.warmed, hp.2.1, hJ _ Y.warmed⟩) (fun _ _ _ _ _ _ _ _ _ => trivial)
    (fun _ _ _ _ ⟨v, L, h1, h2, h3⟩ => ⟨L, _, _, h3, rfl, rfl, v, h1, h2⟩)
    (fun m meth c A a g mk v t L k n Y hp _ _ ⟨e1, e2, v', e3, e4⟩ => by cases e3; subst e1 e2; exact ⟨L, e4, rfl, rfl, rfl⟩)
/-- a constructor by its contract -/
theorem Go.specialS {vm0 : Vm} {k0 : Nat} (hS : s.Since vm0 k0) (hk0 : k0 ≤ h.size) (X : Stand p l e R (s.setVm vm0) m args below meth c T locs cells slots) (hx : p.tables.exec = Jvm.exec) (hZ : Z.Warmed39 (s.setVm vm0).vm) {own : String} {index : Nat} {y : MethodName} {bytes : ByteArray} {maxL : Nat} (hy1 : y.name = "<init>") (hown : (s.setVm vm0).vm.findClass own = some m.cls)
    (w1 : (Cond.methodLink own index y).before a0 Z = true) (w2 : (Cond.instanceMethod y).before a0 Z = true) (w3 : (Cond.code y bytes maxL none).before a0 Z = true) (hy : y.cls ≠ "java/lang/invoke/MethodHandle" ∧ y.cls ≠ "java/lang/invoke/VarHandle")
    (eT : T.heap = h) {kC kS : Nat} {a : Addr} {argsL rest : List Value} {Qc : Option Value → Heap → List Loc → Vm → Prop} {W : Nat} (B : OBkS l R p e below (s.setVm vm0) args y 3 W (.ref a :: argsL).toArray h kC kS Qc)
    {pc : Nat} {Ls : Array Slot} (hsz : Ls.size = c.maxLocals) (hlen : ∀ sig, parseMethodDescriptor y.desc = some sig → argsL.length = sig.parameters.length) {st : List Value} (hst : st = argsL.reverse ++ .ref a :: rest) (hW : (rest.map fun v => v.category).sum ≤ W) (hd : decode c.code pc = .ok (.invokespecial index, 3))
    (hc : cells + kC ≤ R.cells) (hs : slots + kS ≤ R.slots)
    (K : ∀ (T' : State) (v : Option Value) (L : List Loc), Stand p l e R (s.setVm T'.vm) m args below meth c T' (locs ++ L) (cells + kC) (slots + kS) → s.Since T'.vm T'.heap.size → (s.setVm vm0).Warmed39 T'.vm → Z.Warmed39 (s.setVm T'.vm).vm → (s.setVm T'.vm).vm.findClass own = some m.cls → h.size ≤ T'.heap.size → Qc v T'.heap L T'.vm → Go p e below Fin T' (mkF m (pc + 3) Ls (v.toList ++ rest))) : Go p e below Fin T (mkF m pc Ls st) := by
  subst hst
  obtain ⟨v, _, ⟨T', L', k', n'⟩, -, X', h2, hg, ⟨Lc, hQ, hl, hk, hn⟩, stp⟩ := X.specialBackS hx (y := y) hy1 hown (mvT hZ w1) (mvT hZ w2) (mvT hZ w3) hy B (g := mkF m pc Ls (argsL.reverse ++ .ref a :: rest)) rfl hsz (Steps.refl _) (a := a) (argsL := argsL) (rest := rest) hlen rfl (by show 2 * 0 + _ ≤ _; omega) hd (fun _ _ => ⟨rfl, eT, hc, hs⟩)
  dsimp only [Pt.U, Pt.locs, Pt.cells, Pt.slots] at X' h2 hg hl hk hn stp hQ
  subst hl hk hn
  rw [eT] at hg
  obtain ⟨X1, X2, X3, X4⟩ := rebS hS hk0 X' h2 hg hZ hown
  obtain ⟨t, o, h1, r⟩ := K T' v Lc X1 X2 h2.1 X3 X4 hg hQ
  exact ⟨t, o, stp.trans h1, r⟩
/-- an instance method by the contract of the body that the receiver's class selects -/
theorem Go.virtS {vm0 : Vm} {k0 : Nat} (hS : s.Since vm0 k0) (hk0 : k0 ≤ h.size) (X : Stand p l e R (s.setVm vm0) m args below meth c T locs cells slots) (hx : p.tables.exec = Jvm.exec) (hZ : Z.Warmed39 (s.setVm vm0).vm) {own C : String} {index : Nat} {y z : MethodName} (hown : (s.setVm vm0).vm.findClass own = some m.cls)
    (w1 : (Cond.methodLink own index y).before a0 Z = true) (w2 : (Cond.declares y).before a0 Z = true) (nf : NotFace (s.setVm vm0) y) (w3 : (Cond.selects C y z).before a0 Z = true) (w4 : (Cond.instanceMethod z).before a0 Z = true) (hy : y.cls ≠ "java/lang/invoke/MethodHandle" ∧ y.cls ≠ "java/lang/invoke/VarHandle")
    (eT : T.heap = h) {kC kS : Nat} {a : Addr} (E : Exa Z h a C) {argsL rest : List Value} {Qc : Option Value → Heap → List Loc → Vm → Prop} {W : Nat} (B : OBkS l R p e below (s.setVm vm0) args z 3 W (.ref a :: argsL).toArray h kC kS Qc)
    {pc : Nat} {Ls : Array Slot} (hsz : Ls.size = c.maxLocals) (hlen : ∀ sig, parseMethodDescriptor y.desc = some sig → argsL.length = sig.parameters.length) {st : List Value} (hst : st = argsL.reverse ++ .ref a :: rest) (hW : (rest.map fun v => v.category).sum ≤ W) (hd : decode c.code pc = .ok (.invokevirtual index, 3))
    (hc : cells + kC ≤ R.cells) (hs : slots + kS ≤ R.slots)
    (K : ∀ (T' : State) (v : Option Value) (L : List Loc), Stand p l e R (s.setVm T'.vm) m args below meth c T' (locs ++ L) (cells + kC) (slots + kS) → s.Since T'.vm T'.heap.size → (s.setVm vm0).Warmed39 T'.vm → Z.Warmed39 (s.setVm T'.vm).vm → (s.setVm T'.vm).vm.findClass own = some m.cls → h.size ≤ T'.heap.size → Qc v T'.heap L T'.vm → Go p e below Fin T' (mkF m (pc + 3) Ls (v.toList ++ rest))) : Go p e below Fin T (mkF m pc Ls st) := by
  subst hst
  obtain ⟨cq, kq, qa, qb, qc⟩ := isOf hZ eT E
  obtain ⟨v, _, ⟨T', L', k', n'⟩, -, X', h2, hg, ⟨Lc, hQ, hl, hk, hn⟩, stp⟩ := X.virtualBackS hx (y := y) (z := z) hown (mvT hZ w1) (mvT hZ w2) nf (mvT hZ w3) (mvT hZ w4) hy B qa qc (g := mkF m pc Ls (argsL.reverse ++ .ref a :: rest)) rfl hsz (Steps.refl _) (argsL := argsL) (rest := rest) hlen rfl (by show 2 * 0 + _ ≤ _; omega) hd (fun _ _ => ⟨rfl, eT, hc, hs⟩)
  dsimp only [Pt.U, Pt.locs, Pt.cells, Pt.slots] at X' h2 hg hl hk hn stp hQ
  subst hl hk hn
  rw [eT] at hg
  obtain ⟨X1, X2, X3, X4⟩ := rebS hS hk0 X' h2 hg hZ hown
  obtain ⟨t, o, h1, r⟩ := K T' v Lc X1 X2 h2.1 X3 X4 hg hQ
  exact ⟨t, o, stp.trans h1, r⟩
/-- an interface's method by the contract of the body that the receiver's class selects -/
theorem Go.faceS {vm0 : Vm} {k0 : Nat} (hS : s.Since vm0 k0) (hk0 : k0 ≤ h.size) (X : Stand p l e R (s.setVm vm0) m args below meth c T locs cells slots) (hx : p.tables.exec = Jvm.exec) (hZ : Z.Warmed39 (s.setVm vm0).vm) {own C : String} {index count : Nat} {y z : MethodName} (hown : (s.setVm vm0).vm.findClass own = some m.cls)
    (w1 : (Cond.methodLink own index y).before a0 Z = true) (w2 : (Cond.declares y).before a0 Z = true) (w2' : (Cond.interfaceMethod y.cls y.cls y.name y.desc).before a0 Z = true) (w3 : (Cond.selects C y z).before a0 Z = true) (w4 : (Cond.instanceMethod z).before a0 Z = true) (w4' : (Cond.publicMethod z).before a0 Z = true) (w7 : (Cond.unhidden C y.name y.desc).before a0 Z = true) (w8 : (Cond.castable C y.cls).before a0 Z = true) (hy : y.cls ≠ "java/lang/invoke/MethodHandle" ∧ y.cls ≠ "java/lang/invoke/VarHandle") (wq : ((Cond.interfaceMethod y.cls y.cls y.name y.desc).onTables && (Cond.interfaceMethod y.cls y.cls y.name y.desc).keepsFace) = true := by decide +kernel)
    (eT : T.heap = h) {kC kS : Nat} {a : Addr} (E : Exa Z h a C) {argsL rest : List Value} {Qc : Option Value → Heap → List Loc → Vm → Prop} {W : Nat} (B : OBkS l R p e below (s.setVm vm0) args z 5 W (.ref a :: argsL).toArray h kC kS Qc)
    {pc : Nat} {Ls : Array Slot} (hsz : Ls.size = c.maxLocals) (hlen : ∀ sig, parseMethodDescriptor y.desc = some sig → argsL.length = sig.parameters.length) {st : List Value} (hst : st = argsL.reverse ++ .ref a :: rest) (hW : (rest.map fun v => v.category).sum ≤ W) (hd : decode c.code pc = .ok (.invokeinterface index count, 5))
    (hc : cells + kC ≤ R.cells) (hs : slots + kS ≤ R.slots)
    (K : ∀ (T' : State) (v : Option Value) (L : List Loc), Stand p l e R (s.setVm T'.vm) m args below meth c T' (locs ++ L) (cells + kC) (slots + kS) → s.Since T'.vm T'.heap.size → (s.setVm vm0).Warmed39 T'.vm → Z.Warmed39 (s.setVm T'.vm).vm → (s.setVm T'.vm).vm.findClass own = some m.cls → h.size ≤ T'.heap.size → Qc v T'.heap L T'.vm → Go p e below Fin T' (mkF m (pc + 5) Ls (v.toList ++ rest))) : Go p e below Fin T (mkF m pc Ls st) := by
  subst hst
  obtain ⟨cq, kq, qa, qb, qc⟩ := isOf hZ eT E
  obtain ⟨v, _, ⟨T', L', k', n'⟩, -, X', h2, hg, ⟨Lc, hQ, hl, hk, hn⟩, stp⟩ := X.interfaceBackS hx (xi := y) (y := z) hown (mvT hZ w1) (mvT hZ w2) (mvT hZ w2' wq) (mvT hZ w3) (mvT hZ w4) (mvT hZ w4') (mvT hZ w7) (mvT hZ w8) hy B qa qb qc (g := mkF m pc Ls (argsL.reverse ++ .ref a :: rest)) rfl hsz (Steps.refl _) (argsL := argsL) (rest := rest) hlen rfl (by show 2 * 0 + _ ≤ _; omega) hd (fun _ _ => ⟨rfl, eT, hc, hs⟩)
  dsimp only [Pt.U, Pt.locs, Pt.cells, Pt.slots] at X' h2 hg hl hk hn stp hQ
  subst hl hk hn
  rw [eT] at hg
  obtain ⟨X1, X2, X3, X4⟩ := rebS hS hk0 X' h2 hg hZ hown
  obtain ⟨t, o, h1, r⟩ := K T' v Lc X1 X2 h2.1 X3 X4 hg hQ
  exact ⟨t, o, stp.trans h1, r⟩
/-- a private instance method by its contract -/
theorem Go.privS {vm0 : Vm} {k0 : Nat} (hS : s.Since vm0 k0) (hk0 : k0 ≤ h.size) (X : Stand p l e R (s.setVm vm0) m args below meth c T locs cells slots) (hx : p.tables.exec = Jvm.exec) (hZ : Z.Warmed39 (s.setVm vm0).vm) {own : String} {index : Nat} {y : MethodName} {bytes : ByteArray} {maxL : Nat} {ret : Option FieldType} {C : String} (hown : (s.setVm vm0).vm.findClass own = some m.cls)
    (w1 : (Cond.methodLink own index y).before a0 Z = true) (w2 : (Cond.instanceMethod y).before a0 Z = true) (sel : (Cond.selects y.cls y y).before args (s.setVm vm0) = true) (w4 : (Cond.privateMethod y).before a0 Z = true) (w3 : (Cond.code y bytes maxL ret).before a0 Z = true) (hy : y.cls ≠ "java/lang/invoke/MethodHandle" ∧ y.cls ≠ "java/lang/invoke/VarHandle")
    (eT : T.heap = h) {kC kS : Nat} {a : Addr} (E : Exa Z h a C) {argsL rest : List Value} {Qc : Option Value → Heap → List Loc → Vm → Prop} {W : Nat} (B : OBkS l R p e below (s.setVm vm0) args y 3 W (.ref a :: argsL).toArray h kC kS Qc)
    {pc : Nat} {Ls : Array Slot} (hsz : Ls.size = c.maxLocals) (hlen : ∀ sig, parseMethodDescriptor y.desc = some sig → argsL.length = sig.parameters.length) {st : List Value} (hst : st = argsL.reverse ++ .ref a :: rest) (hW : (rest.map fun v => v.category).sum ≤ W) (hd : decode c.code pc = .ok (.invokevirtual index, 3))
    (hc : cells + kC ≤ R.cells) (hs : slots + kS ≤ R.slots)
    (K : ∀ (T' : State) (v : Option Value) (L : List Loc), Stand p l e R (s.setVm T'.vm) m args below meth c T' (locs ++ L) (cells + kC) (slots + kS) → s.Since T'.vm T'.heap.size → (s.setVm vm0).Warmed39 T'.vm → Z.Warmed39 (s.setVm T'.vm).vm → (s.setVm T'.vm).vm.findClass own = some m.cls → h.size ≤ T'.heap.size → Qc v T'.heap L T'.vm → Go p e below Fin T' (mkF m (pc + 3) Ls (v.toList ++ rest))) : Go p e below Fin T (mkF m pc Ls st) := by
  subst hst
  obtain ⟨cq, q, q'⟩ := E.cell
  obtain ⟨v, _, ⟨T', L', k', n'⟩, -, X', h2, hg, ⟨Lc, hQ, hl, hk, hn⟩, stp⟩ := X.privateBackS hx (y := y) hown (mvT hZ w1) (mvT hZ w2) sel (Cond.privateMethod_at (mvP hZ w4 (args := #[]))) (mvT hZ w3) hy B (g := mkF m pc Ls (argsL.reverse ++ .ref a :: rest)) rfl hsz (Steps.refl _) (a := a) (by rw [eT]; exact q) q' (argsL := argsL) (rest := rest) hlen rfl (by show 2 * 0 + _ ≤ _; omega) hd (fun _ _ => ⟨rfl, eT, hc, hs⟩)
  dsimp only [Pt.U, Pt.locs, Pt.cells, Pt.slots] at X' h2 hg hl hk hn stp hQ
  subst hl hk hn
  rw [eT] at hg
  obtain ⟨X1, X2, X3, X4⟩ := rebS hS hk0 X' h2 hg hZ hown
  obtain ⟨t, o, h1, r⟩ := K T' v Lc X1 X2 h2.1 X3 X4 hg hQ
  exact ⟨t, o, stp.trans h1, r⟩
/-- a static method by its contract -/
theorem Go.statS {vm0 : Vm} {k0 : Nat} (hS : s.Since vm0 k0) (hk0 : k0 ≤ h.size) (X : Stand p l e R (s.setVm vm0) m args below meth c T locs cells slots) (hx : p.tables.exec = Jvm.exec) (hZ : Z.Warmed39 (s.setVm vm0).vm) {own : String} {index : Nat} {y : MethodName} {bytes : ByteArray} {maxL : Nat} {ret : Option FieldType} (hown : (s.setVm vm0).vm.findClass own = some m.cls)
    (w1 : (Cond.methodLink own index y).before a0 Z = true) (w2 : (Cond.static y).before a0 Z = true) (w3 : (Cond.initialized y.cls).before a0 Z = true) (w4 : (Cond.code y bytes maxL ret).before a0 Z = true) (hy : y.cls ≠ "java/lang/invoke/MethodHandle" ∧ y.cls ≠ "java/lang/invoke/VarHandle")
    (eT : T.heap = h) {kC kS : Nat} {argsL rest : List Value} {Qc : Option Value → Heap → List Loc → Vm → Prop} {W : Nat} (B : OBkS l R p e below (s.setVm vm0) args y 3 W argsL.toArray h kC kS Qc)
    {pc : Nat} {Ls : Array Slot} (hsz : Ls.size = c.maxLocals) (hlen : ∀ sig, parseMethodDescriptor y.desc = some sig → argsL.length = sig.parameters.length) {st : List Value} (hst : st = argsL.reverse ++ rest) (hW : (rest.map fun v => v.category).sum ≤ W) (hd : decode c.code pc = .ok (.invokestatic index, 3))
    (hc : cells + kC ≤ R.cells) (hs : slots + kS ≤ R.slots)
    (K : ∀ (T' : State) (v : Option Value) (L : List Loc), Stand p l e R (s.setVm T'.vm) m args below meth c T' (locs ++ L) (cells + kC) (slots + kS) → s.Since T'.vm T'.heap.size → (s.setVm vm0).Warmed39 T'.vm → Z.Warmed39 (s.setVm T'.vm).vm → (s.setVm T'.vm).vm.findClass own = some m.cls → h.size ≤ T'.heap.size → Qc v T'.heap L T'.vm → Go p e below Fin T' (mkF m (pc + 3) Ls (v.toList ++ rest))) : Go p e below Fin T (mkF m pc Ls st) := by
  subst hst
  obtain ⟨v, _, ⟨T', L', k', n'⟩, -, X', h2, hg, ⟨Lc, hQ, hl, hk, hn⟩, stp⟩ := callSS X hx (y := y) hown (mvT hZ w1) (mvT hZ w2) (mvT hZ w3) (mvT hZ w4) hy B (g := mkF m pc Ls (argsL.reverse ++ rest)) rfl hsz (argsL := argsL) (rest := rest) hlen rfl (by show 2 * 0 + _ ≤ _; omega) hd (fun _ _ => ⟨rfl, eT, hc, hs⟩)
  dsimp only [Pt.U, Pt.locs, Pt.cells, Pt.slots] at X' h2 hg hl hk hn stp hQ
  subst hl hk hn
  rw [eT] at hg
  obtain ⟨X1, X2, X3, X4⟩ := rebS hS hk0 X' h2 hg hZ hown
  obtain ⟨t, o, h1, r⟩ := K T' v Lc X1 X2 h2.1 X3 X4 hg hQ
  exact ⟨t, o, stp.trans h1, r⟩
/-- what a static holds stands over a call that writes no statics' cell -/
theorem own_sta_keep {C n d : String} {v : Value} {h h' : Heap} {ws : List Addr} (F : Sta Z h C n d v) (K : Keep h h' ws) (q : ∀ x ∈ ws, ∀ cell : Cell, h[x]? = some cell → cell.vm.isStatics = false) : Sta Z h' C n d v := by
  obtain ⟨cf, i, k, f, st, cell, h1, h2, h3, h4, h5, h6, h7⟩ := F
  exact ⟨cf, i, k, f, st, cell, h1, h2, h3, h4, K.2.1 st cell h5 (fun z => by rw [q st z cell h5] at h6; cases h6), h6, h7⟩
theorem own_exa_plain {C : String} {h : Heap} {a : Addr} (E : Exa Z h a C) : ∀ cell : Cell, h[a]? = some cell → cell.vm.isStatics = false := fun cell hc => by
  obtain ⟨c, k, h1, -, -, h4, -⟩ := E
  cases h1.symm.trans hc; exact h4
theorem own_exa_at {args : Array Value} {s : State} {t : Term} {C : String} (h : (Cond.exactly t C).value args s none s [] = some true) : ∃ a, t.eval args s none [] s = some (.ref a) ∧ Exa s s.heap a C := by
  have h' : (Cond.exactly t C).before args s = true := Cond.before_iff.mpr h
  obtain ⟨a, c', cell, k, e1, e2, e3, e4, e5, rfl, e7⟩ := Cond.exactly_spec h'
  exact ⟨a, e1, cell, k, e3, e2, e4, e5, e7⟩
theorem own_eq_int {args : Array Value} {s : State} {t : Term} {n : Int32} (h : (Cond.eq t (.int n)).value args s none s [] = some true) : t.eval args s none [] s = some (.int n) :=
  Cond.eq_int (b := .int n) (Cond.before_iff.mpr h) rfl
theorem own_field_at {args : Array Value} {s : State} {t : Term} {a : Addr} {C n d : String} {v : Value} (ht : t.eval args s none [] s = some (.ref a)) (h : (Term.field t C n d).eval args s none [] s = some v) : Fld s s.heap a C n d v := by
  rw [fld_at ht] at h
  exact Fld.start h
theorem own_not_eq {args : Array Value} {s : State} {t : Term} {z n : Int32} (ez : t.eval args s none [] s = some (.int z)) (h : (Cond.not (.eq t (.int n))).value args s none s [] = some true) : ¬ z = n := by
  intro e
  subst e
  have q := eq_i (idx := []) (o := none) (first := s) ez (Term.int_eval z) rfl
  rw [show (Cond.not (.eq t (.int z))).value args s none s [] = ((Cond.eq t (.int z)).value args s none s []).map (!·) from rfl, q] at h
  cases h
theorem own_refcat {v : Value} (h : v.isRef = true) : v.category = 1 := by cases v <;> first | rfl | (cases h)
theorem own_cat_i (z : Int32) : (Value.int z).category = 1 := rfl
theorem own_cat_l (z : Int64) : (Value.long z).category = 2 := rfl
theorem own_cat_r (a : Addr) : (Value.ref a).category = 1 := rfl
theorem own_cat_n : (Value.null).category = 1 := rfl
theorem own_one_u : (Slot.unset) = .unset ∨ ∃ w, Slot.unset = .val w ∧ w.category = 1 := Or.inl rfl
theorem own_one_v {w : Value} (h : w.category = 1) : (Slot.val w) = .unset ∨ ∃ u, Slot.val w = .val u ∧ u.category = 1 := Or.inr ⟨w, rfl, h⟩
theorem own_store1 {L L' : Array Slot} {i : Nat} {v : Value} {o : Slot} (hold : L[i]? = some o) (ho : o = .unset ∨ ∃ w, o = .val w ∧ w.category = 1) (hv : v.category = 1) (e : L.setIfInBounds i (.val v) = L') : storeLocals L i v = some L' := by
  rw [← e]; exact XS.store1 hold ho hv
theorem own_fits_of {t : FieldType} {z z' : Int32} (h : nar t z = z') (f : fits t (.int (nar t z)) = true) : fits t (.int z') = true := h ▸ f
theorem own_fits_ref {t : FieldType} {v : Value} (h : v.isRef = true) (ht : t.isReference = true) : fits t v = true := by
  cases t <;> first | (cases ht; done) | (cases v <;> first | rfl | (cases h; done))
theorem own_eq_long {args : Array Value} {s : State} {t : Term} {n : Int64} (h : (Cond.eq t (.long n)).value args s none s [] = some true) : t.eval args s none [] s = some (.long n) :=
  Cond.eq_long (b := .long n) (Cond.before_iff.mpr h) rfl
theorem own_elem_at {args : Array Value} {s : State} {t : Term} {a : Addr} {cl : Cell} {ty : FieldType} {j : Int32} {v : Value} {k : Nat} (ht : t.eval args s none [] s = some (.ref a)) (A : Arr s s.heap a cl ty) (h : (Term.elem t (.int j)).eval args s none [] s = some v) (hk : j.toNatClampNeg = k) : cl.slots[k]? = some v := by
  subst hk
  exact (elem_in h ht rfl A.1).2
theorem own_len_at {args : Array Value} {s : State} {t : Term} {a : Addr} {cl : Cell} {ty : FieldType} {n : Int32} (ht : t.eval args s none [] s = some (.ref a)) (A : Arr s s.heap a cl ty) (h : (Term.length t).eval args s none [] s = some (.int n)) : cl.slots.size < 2 ^ 31 ∧ cl.slots.size.toInt32 = n := by
  have hA := A.fin (Vm.Alike.refl _)
  by_cases q : cl.slots.size < 2 ^ 31
  · have e := len_f ht hA q
    exact ⟨q, Value.int.inj (Option.some.inj (e.symm.trans h))⟩
  · exfalso
    simp [Term.eval, ht, hA, q] at h
theorem own_eq_ref {args : Array Value} {s : State} {t u : Term} {a : Addr} (h : (Cond.eq t u).value args s none s [] = some true) (hu : u.eval args s none [] s = some (.ref a)) : t.eval args s none [] s = some (.ref a) :=
  Cond.eq_refs (Cond.before_iff.mpr h) hu rfl
theorem own_eq_null {args : Array Value} {s : State} {t : Term} (h : (Cond.eq t .null).value args s none s [] = some true) : t.eval args s none [] s = some .null := null_v h
theorem own_arr_keep {h h' : Heap} {a : Addr} {cl : Cell} {ty : FieldType} {ws : List Addr} (F : Arr Z h a cl ty) (K : Keep h h' ws) (q : a ∉ ws) : Arr Z h' a cl ty := ⟨K.2.1 a cl F.1 q, F.2⟩
theorem own_ib {vm0 : Vm} (h : vm0.interned = Z.vm.interned) : IB Z vm0 [] := ⟨#[], by simp [h], fun q hq => by simp at hq⟩
theorem own_lambda (X : Stand p l e R s m args below meth c T locs cells slots) (hx : p.tables.exec = Jvm.exec) (hZ : Z.Warmed39 s.vm) {x : MethodName} {pc index : Nat} {σ : Lambda.Shape} (hnamed : Z.methodNamed? x = some m) (w : (Cond.lambdaSite x pc index σ).before a0 Z = true) (hcap : σ.captured = [])
    {g : JFrame} (hg : g.method = m) (hpc : g.pc = pc) (hsize : g.locals.size = c.maxLocals) (hd : decode c.code g.pc = .ok (.invokedynamic index, 5)) (hwords : 2 * g.monitorRoom + (g.stack.map fun v => v.category).sum + 3072 ≤ R.locals) :
    ∃ a : Addr, ∀ t, Steps p.tables e below (T.setTop { g with pc := g.pc + 5, stack := .ref a :: g.stack }) t → Steps p.tables e below (T.setTop g) t := by
  obtain ⟨cK, one, hat⟩ := Cond.lambdaSite_spec w
  obtain ⟨mD, kD, cfD, i0, p0, lk, hmD, hkD, -, -, -, hfind, -, -, hl⟩ := State.lambdaAt?_spec hat
  cases hnamed.symm.trans hmD
  obtain ⟨k', hk', he, -⟩ := hZ.2.2.2 _ _ hkD
  have hw : e.platform.lambdaLinkWords = 3072 := by rw [X.admits.platform]
  rcases hl with ⟨a, cell, rfl, -⟩ | ⟨-, -, hne⟩
  · exact ⟨a, fun t k => X.lambdaConstant hx hg hsize hd hk' (by rw [hpc, he]; exact hfind) (by rw [hw]; exact hwords) k⟩
  · exact absurd hcap hne
/-- 'ldcSVL', with what it tells of the tables since just before it -/
theorem own_ldcL {vm0 : Vm} {own text : String} {index : Nat} {Ts : List String} (X : Stand p l e R (s.setVm vm0) m args below meth c T locs cells slots) (hx : p.tables.exec = Jvm.exec) (hZ : Z.Warmed39 (s.setVm vm0).vm) (hown : (s.setVm vm0).vm.findClass own = some m.cls) (w : (Cond.stringLink own index text).before a0 Z = true) (wS : ∀ a ∈ Bundle.stringAtoms, a.before a0 Z = true)
    (eT : T.heap = h) {k0 : Nat} (hS : s.Since vm0 k0) (hk : k0 ≤ h.size) (N : Fr s.heap.size locs) (hkeep : ∀ (b : Addr) (cl : Cell), Z.heap[b]? = some cl → s.heap[b]? = some cl) (I : IB Z vm0 Ts) (hnot : text ∉ Ts) (hh : Jvm.Lit.constHeld Z own index) (hcw : Jvm.Lit.compactW.before a0 Z = true)
    {vs : List Value} {z : Int32} (ht : (∀ c ∈ text.toList, c.toNat < 256) ∧ text.toList.map (fun c => Value.int (Jvm.Lit.byteI c.toNat.toUInt16)) = vs) (hz : ¬ z < 0) (hl : z.toNatClampNeg = vs.length)
    {g : JFrame} (hg : g.method = m) (hd : decode c.code g.pc = .ok (.ldc index, 2)) {n : Nat} (hn : 4 * text.toList.length ≤ n) (hbig : n ≤ 536870912) (hc : cells + 2 ≤ R.cells) (hl' : slots + (n + 4) ≤ R.slots) :
    ∃ (a : Addr) (T' : State) (h' : Heap) (b : Addr) (k : ClassId), Stand p l e R (s.setVm T'.vm) m args below meth c T' locs (cells + 2) (slots + (n + 4)) ∧ T'.heap = h' ∧ Ext h h' ∧ s.Since T'.vm h'.size ∧ (s.setVm vm0).Warmed39 T'.vm ∧ Z.Warmed39 (s.setVm T'.vm).vm ∧ (s.setVm T'.vm).vm.findClass own = some m.cls ∧
      Exa Z h' a "java/lang/String" ∧ Fld Z h' a "java/lang/String" "coder" "B" (.int 0) ∧ Fld Z h' a "java/lang/String" "value" "[B" (.ref b) ∧ Arv Z h' b k .byte z vs (.int 0) ∧ IB Z T'.vm (text :: Ts) ∧ Lit (Z.setVm T'.vm) own index a ∧
      ∀ target, Steps p.tables e below (T'.setTop { g with pc := g.pc + 2, stack := .ref a :: g.stack }) target → Steps p.tables e below (T.setTop g) target := by
  obtain ⟨a, T', h', k1, b, k, r1, r2, r3, r4, r5, r6, r7, r8, r9, r10, r11, -, -, r14, r15, st⟩ := ldcSVL (s := s.setVm vm0) (vm0 := vm0) (k0 := 0) X hx hZ hown w wS eT (State.WarmedH.since (State.WarmedH.refl (s.setVm vm0)) 0) (Nat.zero_le _) N hkeep I hnot hh hcw ht hz hl hg hd hn hbig hc hl'
  exact ⟨a, T', h', b, k, r1, r2, r3, hS.trans ⟨r4.1, r4.2.mono r5⟩ (Nat.le_trans hk r3.1), r4.1, r6, r7, r8, r9, r10, r11, r14, r15, st⟩
theorem own_lit_stays {vm0 vm1 : Vm} {own : String} {index : Nat} {a : Addr} (L : Lit (Z.setVm vm0) own index a) (hW : (s.setVm vm0).Warmed39 vm1) : Lit (Z.setVm vm1) own index a := (Lit.stays (s := s) (vm0 := vm0) (vm1 := vm1) L hW : Lit (s.setVm vm1) own index a)
theorem own_ib_more {vm0 : Vm} {Ts : List String} {t : String} (I : IB Z vm0 Ts) : IB Z vm0 (t :: Ts) := by
  obtain ⟨more, h1, h2⟩ := I
  exact ⟨more, h1, fun q hq => by obtain ⟨u, hu, e⟩ := h2 q hq; exact ⟨u, List.mem_cons_of_mem _ hu, e⟩⟩
theorem own_ib_warm {vm0 : Vm} {Ts : List String} (I : IB Z s.vm Ts) (hW : s.WarmedH vm0) : IB Z vm0 Ts := by
  obtain ⟨more, h1, h2⟩ := I
  exact ⟨more, by rw [hW.interned_eq]; exact h1, h2⟩
end OwnGo
end Jvm.RoadKit
namespace Jvm.RoadKit
open Sem ClassFile Op Lib Jvm.Stand Jvm.Free Jvm.LawKit
section OwnCan
variable {p : Program} {l : Launch} {e : Env} {R : Room} {s : State} {m : MethodId} {args : Array Value} {below : List Frame} {meth : Method} {c : Code} {T : State} {locs : List Loc} {cells slots : Nat} {Z : State} {a0 : Array Value} {h : Heap}
/-- what is known of the texts: none of ab, and of es none but cs's own, which is a, has been interned since Z -/
def OwnV (Z : State) (vm : Vm) (own : String) (a : Addr) (cs : List Int32) (ab : List String) (es : List (Nat × String × List Int32)) : Prop :=
  ∃ Ts, IB Z vm Ts ∧ (∀ t ∈ ab, t ∉ Ts) ∧ ∀ en ∈ es, en.2.1 ∉ Ts ∨ (Lit (Z.setVm vm) own en.1 a ∧ cs = en.2.2)
theorem OwnV.warm {own : String} {a : Addr} {cs : List Int32} {ab : List String} {es : List (Nat × String × List Int32)} {vm1 : Vm} (V : OwnV Z s.vm own a cs ab es) (hW : s.WarmedH vm1) : OwnV Z vm1 own a cs ab es := by
  obtain ⟨Ts, h1, h2, h3⟩ := V
  exact ⟨Ts, own_ib_warm h1 hW, h2, fun en hen => (h3 en hen).imp id (fun q => ⟨own_lit_stays (s := s) (vm0 := s.vm) q.1 hW.wide, q.2⟩)⟩
theorem OwnV.less {own : String} {a : Addr} {cs : List Int32} {ab : List String} {es : List (Nat × String × List Int32)} {vm1 : Vm} (V : OwnV Z vm1 own a cs ab es) : OwnV Z vm1 own a cs [] es := by
  obtain ⟨Ts, h1, h2, h3⟩ := V
  exact ⟨Ts, h1, (fun t ht => nomatch ht), h3⟩
theorem OwnV.first {own t : String} {a : Addr} {cs : List Int32} {ab : List String} {es : List (Nat × String × List Int32)} {vm1 : Vm} (I : IB Z vm1 [t]) (h2 : ∀ u ∈ ab, u ∉ [t]) (h3 : ∀ en ∈ es, en.2.1 ∉ [t] ∨ (Lit (Z.setVm vm1) own en.1 a ∧ cs = en.2.2)) : OwnV Z vm1 own a cs ab es := ⟨_, I, h2, h3⟩
theorem own_allC {α : Type} {P : α → Prop} {x : α} {xs : List α} (hx : P x) (h : ∀ y ∈ xs, P y) : ∀ y ∈ x :: xs, P y := fun y q => (List.mem_cons.mp q).elim (fun e => e ▸ hx) (h y)
theorem own_allN {α : Type} {P : α → Prop} : ∀ y ∈ ([] : List α), P y := fun _ q => nomatch q
theorem own_fld_inj {a : Addr} {C n d : String} {v w : Value} (F : Fld Z h a C n d v) (G : Fld Z h a C n d w) : v = w := by
  obtain ⟨c1, cf, k, i, f, h1, h2, -, -, -, -, h7⟩ := F
  obtain ⟨c2, cf', k', i', f', g1, g2, -, -, -, -, g7⟩ := G
  cases h1.symm.trans g1
  cases h2.symm.trans g2
  exact Option.some.inj (h7.symm.trans g7)
theorem own_fr_le {k k' : Nat} {L : List Loc} (q : k ≤ k') (N : Fr k' L) : Fr k L := fun y hy => Nat.le_trans q (N y hy)
/-- a String constant of which one of many may have been loaded before -/
theorem own_ldcC {vm0 : Vm} {own text : String} {index : Nat} {a5 t5 : Addr} {k5 : ClassId} {N5 : Int32} {cs5 cs : List Int32} {ab : List String} {es : List (Nat × String × List Int32)} {f : List Int32 → List Value}
    (X : Stand p l e R (s.setVm vm0) m args below meth c T locs cells slots) (hx : p.tables.exec = Jvm.exec) (hZ : Z.Warmed39 (s.setVm vm0).vm) (hown : (s.setVm vm0).vm.findClass own = some m.cls) (w : (Cond.stringLink own index text).before a0 Z = true) (wS : ∀ a ∈ Bundle.stringAtoms, a.before a0 Z = true)
    (eT : T.heap = h) {k0 : Nat} (hS : s.Since vm0 k0) (hk : k0 ≤ h.size) (N : Fr s.heap.size locs) (hkeep : ∀ (b : Addr) (cl : Cell), Z.heap[b]? = some cl → s.heap[b]? = some cl) (V : OwnV Z vm0 own a5 cs5 ab ((index, text, cs) :: es)) (hab : text ∉ ab) (hes : ∀ en ∈ es, en.2.1 ≠ text) (hh : Jvm.Lit.constHeld Z own index) (hcw : Jvm.Lit.compactW.before a0 Z = true)
    {z : Int32} (ht : (∀ c ∈ text.toList, c.toNat < 256) ∧ text.toList.map (fun c => Value.int (Jvm.Lit.byteI c.toNat.toUInt16)) = f cs) (hz : ¬ z < 0) (hl : z.toNatClampNeg = (f cs).length)
    (E5 : Exa Z h a5 "java/lang/String") (C5 : Fld Z h a5 "java/lang/String" "coder" "B" (.int 0)) (V5 : Fld Z h a5 "java/lang/String" "value" "[B" (.ref t5)) (A5 : Arv Z h t5 k5 .byte N5 (f cs5) (.int 0)) (hN : N5 = z)
    {g : JFrame} (hg : g.method = m) (hd : decode c.code g.pc = .ok (.ldc index, 2)) {n : Nat} (hn : 4 * text.toList.length ≤ n) (hbig : n ≤ 536870912) (hc : cells + 2 ≤ R.cells) (hl' : slots + (n + 4) ≤ R.slots) :
    ∃ (a : Addr) (vm1 : Vm) (T' : State) (h' : Heap) (b : Addr) (k : ClassId), Stand p l e R (s.setVm vm1) m args below meth c T' locs (cells + 2) (slots + (n + 4)) ∧ T'.heap = h' ∧ Ext h h' ∧ s.Since vm1 h'.size ∧ Z.Warmed39 (s.setVm vm1).vm ∧ (s.setVm vm1).vm.findClass own = some m.cls ∧
      Exa Z h' a "java/lang/String" ∧ Fld Z h' a "java/lang/String" "coder" "B" (.int 0) ∧ Fld Z h' a "java/lang/String" "value" "[B" (.ref b) ∧ Arv Z h' b k .byte z (f cs) (.int 0) ∧ OwnV Z vm1 own a5 cs5 ab es ∧
      ∀ target, Steps p.tables e below (T'.setTop { g with pc := g.pc + 2, stack := .ref a :: g.stack }) target → Steps p.tables e below (T.setTop g) target := by
  obtain ⟨Ts, I, hA, hE⟩ := V
  rcases hE _ (List.mem_cons_self ..) with hnot | ⟨L, hcs⟩
  · obtain ⟨a, T', h', b, k, r1, r2, r3, r4, r5, r6, r7, r8, r9, r10, r11, r12, r13, st⟩ := own_ldcL X hx hZ hown w wS eT hS hk N hkeep I hnot hh hcw ht hz hl hg hd hn hbig hc hl'
    refine ⟨a, T'.vm, T', h', b, k, r1, r2, r3, r4, r6, r7, r8, r9, r10, r11, ⟨text :: Ts, r12, fun t ht' q => ?_, fun en hen => ?_⟩, st⟩
    · rcases List.mem_cons.mp q with q | q
      · exact hab (q ▸ ht')
      · exact hA t ht' q
    · refine (hE en (List.mem_cons_of_mem _ hen)).imp (fun q r => ?_) (fun q => ⟨own_lit_stays (s := s) q.1 r5, q.2⟩)
      rcases List.mem_cons.mp r with r | r
      · exact hes en hen r
      · exact q r
  · refine ⟨a5, vm0, T, h, t5, k5, X.more (Nat.le_add_right _ _) (Nat.le_add_right _ _), eT, ⟨Nat.le_refl _, fun _ _ q => q⟩, ⟨hS.1, hS.2.mono hk⟩, hZ, hown, E5, C5, V5, ?_, ⟨Ts, I, hA, fun en hen => hE en (List.mem_cons_of_mem _ hen)⟩, ldcAgain X hx hZ hown w (L : Lit (s.setVm vm0) own index a5) hg hd⟩
    have hcs' : cs5 = cs := hcs
    rw [← hN, ← hcs']; exact A5
/-- .. of a text that hasn't been loaded yet -/
theorem own_ldcE {vm0 : Vm} {own own5 text : String} {index : Nat} {a5 : Addr} {cs5 : List Int32} {es : List (Nat × String × List Int32)}
    (X : Stand p l e R (s.setVm vm0) m args below meth c T locs cells slots) (hx : p.tables.exec = Jvm.exec) (hZ : Z.Warmed39 (s.setVm vm0).vm) (hown : (s.setVm vm0).vm.findClass own = some m.cls) (w : (Cond.stringLink own index text).before a0 Z = true) (wS : ∀ a ∈ Bundle.stringAtoms, a.before a0 Z = true)
    (eT : T.heap = h) {k0 : Nat} (hS : s.Since vm0 k0) (hk : k0 ≤ h.size) (N : Fr s.heap.size locs) (hkeep : ∀ (b : Addr) (cl : Cell), Z.heap[b]? = some cl → s.heap[b]? = some cl) (V : OwnV Z vm0 own5 a5 cs5 [text] es) (hes : ∀ en ∈ es, en.2.1 ≠ text) (hh : Jvm.Lit.constHeld Z own index) (hcw : Jvm.Lit.compactW.before a0 Z = true)
    {vs : List Value} {z : Int32} (ht : (∀ c ∈ text.toList, c.toNat < 256) ∧ text.toList.map (fun c => Value.int (Jvm.Lit.byteI c.toNat.toUInt16)) = vs) (hz : ¬ z < 0) (hl : z.toNatClampNeg = vs.length)
    {g : JFrame} (hg : g.method = m) (hd : decode c.code g.pc = .ok (.ldc index, 2)) {n : Nat} (hn : 4 * text.toList.length ≤ n) (hbig : n ≤ 536870912) (hc : cells + 2 ≤ R.cells) (hl' : slots + (n + 4) ≤ R.slots) :
    ∃ (a : Addr) (vm1 : Vm) (T' : State) (h' : Heap) (b : Addr) (k : ClassId), Stand p l e R (s.setVm vm1) m args below meth c T' locs (cells + 2) (slots + (n + 4)) ∧ T'.heap = h' ∧ Ext h h' ∧ s.Since vm1 h'.size ∧ Z.Warmed39 (s.setVm vm1).vm ∧ (s.setVm vm1).vm.findClass own = some m.cls ∧
      Exa Z h' a "java/lang/String" ∧ Fld Z h' a "java/lang/String" "coder" "B" (.int 0) ∧ Fld Z h' a "java/lang/String" "value" "[B" (.ref b) ∧ Arv Z h' b k .byte z vs (.int 0) ∧ OwnV Z vm1 own5 a5 cs5 [] es ∧ Lit (s.setVm vm1) own index a ∧
      ∀ target, Steps p.tables e below (T'.setTop { g with pc := g.pc + 2, stack := .ref a :: g.stack }) target → Steps p.tables e below (T.setTop g) target := by
  obtain ⟨Ts, I, hA, hE⟩ := V
  obtain ⟨a, T', h', b, k, r1, r2, r3, r4, r5, r6, r7, r8, r9, r10, r11, r12, r13, st⟩ := own_ldcL X hx hZ hown w wS eT hS hk N hkeep I (hA text (List.mem_cons_self ..)) hh hcw ht hz hl hg hd hn hbig hc hl'
  refine ⟨a, T'.vm, T', h', b, k, r1, r2, r3, r4, r6, r7, r8, r9, r10, r11, ⟨text :: Ts, r12, (fun t ht' => nomatch ht'), fun en hen => ?_⟩, r13, st⟩
  refine (hE en hen).imp (fun q r => ?_) (fun q => ⟨own_lit_stays (s := s) q.1 r5, q.2⟩)
  rcases List.mem_cons.mp r with r | r
  · exact hes en hen r
  · exact q r
end OwnCan
end Jvm.RoadKit
/- laws to paste: Road.backV, Road.chN, Road.eqW, Road.codOf (cut by pick.py; bodies as the Statement names them) -/
namespace Jvm.Pilot.@@N@@
namespace StrChars
open Jvm Sem ClassFile Op Lib Jvm.Stand Jvm.Free.XT Jvm.Free.ALB Jvm.Free.JM Jvm.Free
open Jvm.Lib.Cold (StaticIs)
/-- a char array whose places are chars -/
def Ch (a : Addr) (A : Cell) (U : State) : Prop := Arr .char a A U ∧ Typed .char A
theorem Ch.mv {a : Addr} {A : Cell} {U U' : State} (h : Ch a A U) (hal : U.vm.Alike U'.vm) (hh : U'.heap = U.heap) : Ch a A U' := ⟨h.1.mv hal hh, h.2⟩
theorem Ch.keep {a : Addr} {A : Cell} {U U' : State} (h : Ch a A U) (hal : U.vm.Alike U'.vm) (hk : U'.heap[a]? = some A) : Ch a A U' := ⟨h.1.keep hal hk, h.2⟩
/-- what place i of a char[]'s cell holds -/
def cv (A : Cell) (i : Nat) : Int32 := match A.slots[i]? with | some (.int x) => x | _ => 0
theorem Ch.get {a : Addr} {A : Cell} {U : State} (h : Ch a A U) {i : Nat} (hi : i < A.slots.size) : A.slots[i]? = some (.int (cv A i)) := by
  have e := Array.getElem?_eq_getElem hi
  have f := h.2 i _ e
  unfold cv; rw [e]
  generalize A.slots[i] = v at f
  cases v <;> simp [fits] at f ⊢
/-- the byte that i2b leaves of a char -/
def lo8 (x : Int32) : Int32 := x.toInt8.toInt32
theorem fits_lo8 (y : Int32) : fits .byte (.int (lo8 y)) = true := by
  have h1 := y.toInt8.le_toInt
  have h2 := y.toInt8.toInt_lt
  simp only [lo8, fits, Bool.and_eq_true, decide_eq_true_eq, Int32.le_iff_toInt_le, Int8.toInt_toInt32, show (-128 : Int32).toInt = -128 from by decide, show (127 : Int32).toInt = 127 from by decide]
  omega
/-- A' is A but that each place j of lo .. hi - 1 holds f j -/
def Laid (A A' : Cell) (lo hi : Nat) (f : Nat → Value) : Prop := A'.cls = A.cls ∧ A'.vm = A.vm ∧ A'.slots.size = A.slots.size ∧ ∀ i, A'.slots[i]? = if lo ≤ i ∧ i < hi then some (f i) else A.slots[i]?
theorem Laid.zero (A : Cell) (lo : Nat) (f : Nat → Value) : Laid A A lo (lo + 0) f := ⟨rfl, rfl, rfl, fun i => by rw [if_neg (by omega)]⟩
theorem Laid.step {A Ak : Cell} {lo k : Nat} {f : Nat → Value} {v : Value} (h : Laid A Ak lo k f) (hlo : lo ≤ k) (hk : k < Ak.slots.size) (hv : v = f k) : Laid A (Ak.setSlot k v) lo (k + 1) f := by
  refine ⟨h.1, h.2.1, by simpa [Cell.setSlot] using h.2.2.1, fun i => ?_⟩
  by_cases e : k = i
  · subst e; rw [Cell.slots_setSlot_self v hk, if_pos (by omega), hv]
  · rw [Cell.slots_setSlot_ne v e, h.2.2.2 i]
    by_cases q : lo ≤ i ∧ i < k
    · rw [if_pos q, if_pos (by omega)]
    · rw [if_neg q, if_neg (by omega)]
def U16 : String := "java/lang/StringUTF16"
namespace Cmp5
def yN : MethodName := ⟨"java/lang/StringUTF16", "compress", "([CI[BII)I"⟩
abbrev yB : ByteArray := jdk_52_method_21_code
theorem d0 : decode yB 0 = .ok (.iconst 0, 1) := by decide +kernel
theorem d1 : decode yB 1 = .ok (.istore 5, 2) := by decide +kernel
theorem d3 : decode yB 3 = .ok (.iload 5, 2) := by decide +kernel
theorem d5 : decode yB 5 = .ok (.iload 4, 2) := by decide +kernel
theorem d7 : decode yB 7 = .ok (.if_icmp (.ge) 37, 3) := by decide +kernel
theorem d10 : decode yB 10 = .ok (.aload_n 0, 1) := by decide +kernel
theorem d11 : decode yB 11 = .ok (.iload_n 1, 1) := by decide +kernel
theorem d12 : decode yB 12 = .ok (.caload, 1) := by decide +kernel
theorem d13 : decode yB 13 = .ok (.istore 6, 2) := by decide +kernel
theorem d15 : decode yB 15 = .ok (.iload 6, 2) := by decide +kernel
theorem d17 : decode yB 17 = .ok (.sipush 255, 3) := by decide +kernel
theorem d20 : decode yB 20 = .ok (.if_icmp (.le) 6, 3) := by decide +kernel
theorem d26 : decode yB 26 = .ok (.aload_n 2, 1) := by decide +kernel
theorem d27 : decode yB 27 = .ok (.iload_n 3, 1) := by decide +kernel
theorem d28 : decode yB 28 = .ok (.iload 6, 2) := by decide +kernel
theorem d30 : decode yB 30 = .ok (.i2b, 1) := by decide +kernel
theorem d31 : decode yB 31 = .ok (.bastore, 1) := by decide +kernel
theorem d32 : decode yB 32 = .ok (.iinc 1 1, 3) := by decide +kernel
theorem d35 : decode yB 35 = .ok (.iinc 3 1, 3) := by decide +kernel
theorem d38 : decode yB 38 = .ok (.iinc 5 1, 3) := by decide +kernel
theorem d41 : decode yB 41 = .ok (.goto (-38), 3) := by decide +kernel
theorem d44 : decode yB 44 = .ok (.iload 4, 2) := by decide +kernel
theorem d46 : decode yB 46 = .ok (.ireturn, 1) := by decide +kernel
def site : List Cond := []
def tab : Cond := tabOf yN yB 7 (some .int) site
def P (b : Addr) (A : Cell) (d : Addr) (B : Cell) (o q len : Nat) (args : Array Value) (s : State) : Prop := args = #[.ref b, .int (Int32.ofNat o), .ref d, .int (Int32.ofNat q), .int (Int32.ofNat len)] ∧ Ch b A s ∧ Arr .byte d B s ∧ b ≠ d ∧ o + len ≤ A.slots.size ∧ q + len ≤ B.slots.size ∧ ∀ i, i < len → ¬ 255 < cv A (o + i)
def E (b : Addr) (A : Cell) (d : Addr) (B : Cell) (o q len : Nat) (r : Option Value) (s u : State) : Prop := r = some (.int (Int32.ofNat len)) ∧ ∃ B', Put d B' s u ∧ Laid B B' q (q + len) (fun j => Value.int (lo8 (cv A (o + (j - q)))))
/-- no char of the range above 255: len; the places written hold each char's low byte -/
theorem law (l : Launch) (b : Addr) (A : Cell) (d : Addr) (B : Cell) (o q len : Nat) : Law l yN 5 5 0 0 yB 7 (some .int) site (P b A d B o q len) (E b A d B o q len) (copyLocs d q len) 0 0 := by
  refine Law.of_walk (plainFor_of_name (by decide +kernel)) (by decide +kernel) (by decide +kernel) (by decide) (fun _ _ h => by rw [h.1]; rfl) (fun _ U U' hal hh h => ⟨h.1, h.2.1.mv hal hh, h.2.2.1.mv hal hh, h.2.2.2⟩) (fun r U U' V V' h1 hal h2 h => ⟨h.1, h.2.elim fun B' q => ⟨B', q.1.mv h1 h2, q.2⟩⟩) ?_
  intro p e s m args below meth c s₁ X0 hexec hbytes hml hret hlk hnm hown hh0 W hP
  obtain ⟨rfl, hA, hB, hne, l1, l2, hp⟩ := hP
  have c1 : Steps p.tables e below (s₁.setTop (entryFrame m #[.ref b, .int (Int32.ofNat o), .ref d, .int (Int32.ofNat q), .int (Int32.ofNat len)] 7)) (s₁.setTop (mkF m 0 #[.val (.ref b), .val (.int (Int32.ofNat o)), .val (.ref d), .val (.int (Int32.ofNat q)), .val (.int (Int32.ofNat len)), .unset, .unset] [])) := entry rfl
  have hA0 := hA.1.mv X0.warmed.alike hh0
  have hB0 := hB.mv X0.warmed.alike hh0
  have a31 := hA.1.2.2.2
  have c2 : Steps p.tables e below (s₁.setTop (entryFrame m #[.ref b, .int (Int32.ofNat o), .ref d, .int (Int32.ofNat q), .int (Int32.ofNat len)] 7)) (s₁.setTop (mkF m 3 #[.val (.ref b), .val (.int (Int32.ofNat o)), .val (.ref d), .val (.int (Int32.ofNat q)), .val (.int (Int32.ofNat len)), .val (.int 0), .unset] [])) := c1.trans (by
    refine iconstV X0.here hexec rfl 0 (hb hbytes d0) (by decide) ?_
    refine XS.istore X0.here hexec rfl (hb hbytes d1) rfl rfl ?_
    exact Steps.refl _)
  have loop : ∀ (r i : Nat), i + r = len → ∀ (z : Slot), (z = .unset ∨ ∃ w, z = .val w ∧ w.category = 1) → ∀ (Tl : State) (Bk : Cell), Stand p l e { frames := 0, locals := 0, cells := 0, slots := 0 } s m #[.ref b, .int (Int32.ofNat o), .ref d, .int (Int32.ofNat q), .int (Int32.ofNat len)] below meth c Tl ([] ++ copyLocs d q i) 0 0 → Put d Bk s₁ Tl → Laid B Bk q (q + i) (fun j => Value.int (lo8 (cv A (o + (j - q))))) →
      Steps p.tables e below (s₁.setTop (entryFrame m #[.ref b, .int (Int32.ofNat o), .ref d, .int (Int32.ofNat q), .int (Int32.ofNat len)] 7)) (Tl.setTop (mkF m 3 #[.val (.ref b), .val (.int (Int32.ofNat (o + i))), .val (.ref d), .val (.int (Int32.ofNat (q + i))), .val (.int (Int32.ofNat len)), .val (.int (Int32.ofNat i)), z] [])) → ∃ (T' : State) (B' : Cell) (z' : Slot), Stand p l e { frames := 0, locals := 0, cells := 0, slots := 0 } s m #[.ref b, .int (Int32.ofNat o), .ref d, .int (Int32.ofNat q), .int (Int32.ofNat len)] below meth c T' ([] ++ copyLocs d q len) 0 0 ∧ Put d B' s₁ T' ∧ Laid B B' q (q + len) (fun j => Value.int (lo8 (cv A (o + (j - q))))) ∧
      Steps p.tables e below (s₁.setTop (entryFrame m #[.ref b, .int (Int32.ofNat o), .ref d, .int (Int32.ofNat q), .int (Int32.ofNat len)] 7)) (T'.setTop (mkF m 3 #[.val (.ref b), .val (.int (Int32.ofNat (o + len))), .val (.ref d), .val (.int (Int32.ofNat (q + len))), .val (.int (Int32.ofNat len)), .val (.int (Int32.ofNat len)), z'] [])) := by
    intro r
    induction r with
    | zero =>
      intro i hi z hz Tl Bk Xl pl fl cl
      have hil : i = len := by omega
      rw [hil] at Xl fl cl
      exact ⟨Tl, Bk, z, Xl, pl, fl, cl⟩
    | succ r ih =>
      intro i hi z hz Tl Bk Xl pl fl cl
      have all := X0.warmed.alike.symm.trans Xl.warmed.alike
      have hAl := hA0.keep all (pl.other hne hA0.1)
      have hBk := hB0.like all pl.1 fl.1 fl.2.1 fl.2.2.1
      have hlt : q + i < Bk.slots.size := by rw [fl.2.2.1]; omega
      have c3 : Steps p.tables e below (s₁.setTop (entryFrame m #[.ref b, .int (Int32.ofNat o), .ref d, .int (Int32.ofNat q), .int (Int32.ofNat len)] 7)) (Tl.setTop (mkF m 12 #[.val (.ref b), .val (.int (Int32.ofNat (o + i))), .val (.ref d), .val (.int (Int32.ofNat (q + i))), .val (.int (Int32.ofNat len)), .val (.int (Int32.ofNat i)), z] [.int (Int32.ofNat (o + i)), .ref b])) := cl.trans (by
        refine XS.iload Xl.here hexec rfl (hb hbytes d3) rfl ?_
        refine XS.iload Xl.here hexec rfl (hb hbytes d5) rfl ?_
        refine XS.icmpNo Xl.here hexec rfl (hb hbytes d7) rfl (ii_ge_f (lt32 (by omega) (by omega))) ?_
        refine XS.aloadN Xl.here hexec rfl (hb hbytes d10) rfl rfl ?_
        refine XS.iloadN Xl.here hexec rfl (hb hbytes d11) rfl ?_
        exact Steps.refl _)
      have c4 : Steps p.tables e below (s₁.setTop (entryFrame m #[.ref b, .int (Int32.ofNat o), .ref d, .int (Int32.ofNat q), .int (Int32.ofNat len)] 7)) (Tl.setTop (mkF m 13 #[.val (.ref b), .val (.int (Int32.ofNat (o + i))), .val (.ref d), .val (.int (Int32.ofNat (q + i))), .val (.int (Int32.ofNat len)), .val (.int (Int32.ofNat i)), z] [.int (cv A (o + i))])) := c3.trans (by
        refine Xl.aget hexec hAl rfl (hA.get (i := o + i) (by omega)) rfl rfl (hb hbytes d12) ?_
        exact Steps.refl _)
      have c5 : Steps p.tables e below (s₁.setTop (entryFrame m #[.ref b, .int (Int32.ofNat o), .ref d, .int (Int32.ofNat q), .int (Int32.ofNat len)] 7)) (Tl.setTop (mkF m 15 #[.val (.ref b), .val (.int (Int32.ofNat (o + i))), .val (.ref d), .val (.int (Int32.ofNat (q + i))), .val (.int (Int32.ofNat len)), .val (.int (Int32.ofNat i)), .val (.int (cv A (o + i)))] [])) := c4.trans (by
        refine XS.istoreS Xl.here hexec rfl (hb hbytes d13) rfl rfl hz ?_
        exact Steps.refl _)
      have c6 : Steps p.tables e below (s₁.setTop (entryFrame m #[.ref b, .int (Int32.ofNat o), .ref d, .int (Int32.ofNat q), .int (Int32.ofNat len)] 7)) (Tl.setTop (mkF m 31 #[.val (.ref b), .val (.int (Int32.ofNat (o + i))), .val (.ref d), .val (.int (Int32.ofNat (q + i))), .val (.int (Int32.ofNat len)), .val (.int (Int32.ofNat i)), .val (.int (cv A (o + i)))] [.int (lo8 (cv A (o + i))), .int (Int32.ofNat (q + i)), .ref d])) := c5.trans (by
        refine XS.iload Xl.here hexec rfl (hb hbytes d15) rfl ?_
        refine sipushV Xl.here hexec rfl 255 (hb hbytes d17) (by decide) ?_
        refine XS.icmpYes Xl.here hexec rfl (pc0 := 20) rfl (hb hbytes d20) rfl (ii_le_t (hp i (by omega))) (by decide) rfl ?_
        refine XS.aloadN Xl.here hexec rfl (hb hbytes d26) rfl rfl ?_
        refine XS.iloadN Xl.here hexec rfl (hb hbytes d27) rfl ?_
        refine XS.iload Xl.here hexec rfl (hb hbytes d28) rfl ?_
        refine i2b Xl.here hexec rfl (hb hbytes d30) rfl ?_
        exact Steps.refl _)
      obtain ⟨T7, X7, p7, st7⟩ := Xl.aput hexec hBk rfl hlt rfl (fits_lo8 (cv A (o + i))) (g := (mkF m 31 #[.val (.ref b), .val (.int (Int32.ofNat (o + i))), .val (.ref d), .val (.int (Int32.ofNat (q + i))), .val (.int (Int32.ofNat len)), .val (.int (Int32.ofNat i)), .val (.int (cv A (o + i)))] [.int (lo8 (cv A (o + i))), .int (Int32.ofNat (q + i)), .ref d])) rfl (rest := []) rfl (hb hbytes d31)
      have c8 : Steps p.tables e below (s₁.setTop (entryFrame m #[.ref b, .int (Int32.ofNat o), .ref d, .int (Int32.ofNat q), .int (Int32.ofNat len)] 7)) (T7.setTop (mkF m 32 #[.val (.ref b), .val (.int (Int32.ofNat (o + i))), .val (.ref d), .val (.int (Int32.ofNat (q + i))), .val (.int (Int32.ofNat len)), .val (.int (Int32.ofNat i)), .val (.int (cv A (o + i)))] [])) := c6.trans (st7 _ (Steps.refl _))
      have c9 : Steps p.tables e below (s₁.setTop (entryFrame m #[.ref b, .int (Int32.ofNat o), .ref d, .int (Int32.ofNat q), .int (Int32.ofNat len)] 7)) (T7.setTop (mkF m 3 #[.val (.ref b), .val (.int (Int32.ofNat (o + i) + 1)), .val (.ref d), .val (.int (Int32.ofNat (q + i) + 1)), .val (.int (Int32.ofNat len)), .val (.int (Int32.ofNat i + 1)), .val (.int (cv A (o + i)))] [])) := c8.trans (by
        refine iincV X7.here hexec rfl 1 (hb hbytes d32) (by decide) rfl rfl ?_
        refine iincV X7.here hexec rfl 1 (hb hbytes d35) (by decide) rfl rfl ?_
        refine iincV X7.here hexec rfl 1 (hb hbytes d38) (by decide) rfl rfl ?_
        refine XS.goto X7.here hexec rfl (pc0 := 41) rfl (hb hbytes d41) (by decide) rfl ?_
        exact Steps.refl _)
      have c10 : Steps p.tables e below (s₁.setTop (entryFrame m #[.ref b, .int (Int32.ofNat o), .ref d, .int (Int32.ofNat q), .int (Int32.ofNat len)] 7)) (T7.setTop (mkF m 3 #[.val (.ref b), .val (.int (Int32.ofNat (o + (i + 1)))), .val (.ref d), .val (.int (Int32.ofNat (q + (i + 1)))), .val (.int (Int32.ofNat len)), .val (.int (Int32.ofNat (i + 1))), .val (.int (cv A (o + i)))] [])) := by
        have := c9
        rw [succ32, succ32, succ32] at this
        exact this
      exact ih (i + 1) (by omega) _ (Or.inr ⟨_, rfl, rfl⟩) T7 _ (by rw [copyLocs_step, ← List.append_assoc]; exact X7) (pl.trans p7) (fl.step (by omega) hlt (by simp)) c10
  obtain ⟨T9, B9, z9, X9, p9, f9, g9⟩ := loop len 0 (by omega) .unset (Or.inl rfl) s₁ B (by simpa [copyLocs] using X0) ⟨hB0.1, fun _ _ => rfl, rfl⟩ (Laid.zero _ _ _) c2
  have c11 : Steps p.tables e below (s₁.setTop (entryFrame m #[.ref b, .int (Int32.ofNat o), .ref d, .int (Int32.ofNat q), .int (Int32.ofNat len)] 7)) (T9.setTop (mkF m 46 #[.val (.ref b), .val (.int (Int32.ofNat (o + len))), .val (.ref d), .val (.int (Int32.ofNat (q + len))), .val (.int (Int32.ofNat len)), .val (.int (Int32.ofNat len)), z9] [.int (Int32.ofNat len)])) := g9.trans (by
    refine XS.iload X9.here hexec rfl (hb hbytes d3) rfl ?_
    refine XS.iload X9.here hexec rfl (hb hbytes d5) rfl ?_
    refine XS.icmpYes X9.here hexec rfl (pc0 := 7) rfl (hb hbytes d7) rfl (ii_ge_t (nlt32 (by omega) (Nat.le_refl _))) (by decide) rfl ?_
    refine XS.iload X9.here hexec rfl (hb hbytes d44) rfl ?_
    exact Steps.refl _)
  exact ⟨T9, some (.int (Int32.ofNat len)), _, _, _, X9, by simp, rfl, rfl, (fun h => by cases h), ⟨rfl, B9, p9.from hh0, f9⟩, fun fs hl => c11.trans (X9.ireturnOut hexec hret rfl (Or.inl rfl) (hb hbytes d46) hl)⟩
end Cmp5
namespace Cmp3
def yN : MethodName := ⟨"java/lang/StringUTF16", "compress", "([CII)[B"⟩
abbrev yB : ByteArray := jdk_52_method_16_code
theorem d0 : decode yB 0 = .ok (.iload_n 2, 1) := by decide +kernel
theorem d1 : decode yB 1 = .ok (.newarray .byte, 2) := by decide +kernel
theorem d3 : decode yB 3 = .ok (.astore_n 3, 1) := by decide +kernel
theorem d4 : decode yB 4 = .ok (.aload_n 0, 1) := by decide +kernel
theorem d5 : decode yB 5 = .ok (.iload_n 1, 1) := by decide +kernel
theorem d6 : decode yB 6 = .ok (.aload_n 3, 1) := by decide +kernel
theorem d7 : decode yB 7 = .ok (.iconst 0, 1) := by decide +kernel
theorem d8 : decode yB 8 = .ok (.iload_n 2, 1) := by decide +kernel
theorem d9 : decode yB 9 = .ok (.invokestatic 115, 3) := by decide +kernel
theorem d12 : decode yB 12 = .ok (.istore 4, 2) := by decide +kernel
theorem d14 : decode yB 14 = .ok (.iload 4, 2) := by decide +kernel
theorem d16 : decode yB 16 = .ok (.iload_n 2, 1) := by decide +kernel
theorem d17 : decode yB 17 = .ok (.if_icmp (.eq) 40, 3) := by decide +kernel
theorem d57 : decode yB 57 = .ok (.aload_n 3, 1) := by decide +kernel
theorem d58 : decode yB 58 = .ok (.areturn, 1) := by decide +kernel
def site : List Cond := [.arrayClass .byte, Cmp5.tab] ++ staticW U16 115 Cmp5.yN
def tab : Cond := tabOf yN yB 6 (some (.array .byte)) site
def P (b : Addr) (A : Cell) (o len : Nat) (args : Array Value) (s : State) : Prop := args = #[.ref b, .int (Int32.ofNat o), .int (Int32.ofNat len)] ∧ Ch b A s ∧ o + len ≤ A.slots.size ∧ len ≤ 536870912 ∧ ∀ i, i < len → ¬ 255 < cv A (o + i)
def E (b : Addr) (A : Cell) (o len : Nat) (r : Option Value) (s u : State) : Prop := NewArr .byte "[B" len (fun j => .int (lo8 (cv A (o + j)))) r s u ∧ u.heap.size = s.heap.size + 1
/-- no char of the range above 255: a new byte[] of their low bytes -/
theorem law (l : Launch) (b : Addr) (A : Cell) (o len : Nat) : Law l yN 3 3 1 18 yB 6 (some (.array .byte)) site (P b A o len) (E b A o len) [] 1 len := by
  refine Law.of_walk (plainFor_of_name (by decide +kernel)) (by decide +kernel) (by decide +kernel) (by decide) (fun _ _ h => by rw [h.1]; rfl) (fun _ U U' hal hh h => ⟨h.1, h.2.1.mv hal hh, h.2.2⟩) (fun r U U' V V' h1 hal h2 h => ⟨NewArr.mv r U U' V V' h1 hal h2 h.1, by rw [h1, h2]; exact h.2⟩) ?_
  intro p e s m args below meth c s₁ X0 hexec hbytes hml hret hlk hnm hown hh0 W hP
  obtain ⟨rfl, hA, l1, l2, hp⟩ := hP
  have a31 := hA.1.2.2.2
  have c1 : Steps p.tables e below (s₁.setTop (entryFrame m #[.ref b, .int (Int32.ofNat o), .int (Int32.ofNat len)] 6)) (s₁.setTop (mkF m 0 #[.val (.ref b), .val (.int (Int32.ofNat o)), .val (.int (Int32.ofNat len)), .unset, .unset, .unset] [])) := entry rfl
  have c2 : Steps p.tables e below (s₁.setTop (entryFrame m #[.ref b, .int (Int32.ofNat o), .int (Int32.ofNat len)] 6)) (s₁.setTop (mkF m 1 #[.val (.ref b), .val (.int (Int32.ofNat o)), .val (.int (Int32.ofNat len)), .unset, .unset, .unset] [.int (Int32.ofNat len)])) := c1.trans (by
    refine XS.iloadN X0.here hexec rfl (hb hbytes d0) rfl ?_
    exact Steps.refl _)
  obtain ⟨T3, B3, X3, ba3, bs3, bv3, bh3, bf3, st3⟩ := X0.anew hexec (atype := .byte) (wk W (.arrayClass .byte)) rfl (by show len * 1 ≤ _; omega) (by omega) (g := (mkF m 1 #[.val (.ref b), .val (.int (Int32.ofNat o)), .val (.int (Int32.ofNat len)), .unset, .unset, .unset] [.int (Int32.ofNat len)])) rfl (hb hbytes d1) (rest := []) rfl (Nat.le_refl _) (by show 0 + len ≤ len; omega)
  rw [hh0] at ba3 st3
  have kp3 : XT.Kept s T3 := (XT.Kept.of_eq hh0).push bh3
  have hA3 := hA.keep X3.warmed.alike (kp3 _ _ hA.1.1)
  have hne : b ≠ s.heap.size := hA.1.ne
  have c4 : Steps p.tables e below (s₁.setTop (entryFrame m #[.ref b, .int (Int32.ofNat o), .int (Int32.ofNat len)] 6)) (T3.setTop (mkF m 3 #[.val (.ref b), .val (.int (Int32.ofNat o)), .val (.int (Int32.ofNat len)), .unset, .unset, .unset] [.ref s.heap.size])) := c2.trans (st3 _ (Steps.refl _))
  have c5 : Steps p.tables e below (s₁.setTop (entryFrame m #[.ref b, .int (Int32.ofNat o), .int (Int32.ofNat len)] 6)) (T3.setTop (mkF m 9 #[.val (.ref b), .val (.int (Int32.ofNat o)), .val (.int (Int32.ofNat len)), .val (.ref s.heap.size), .unset, .unset] [.int (Int32.ofNat len), .int 0, .ref s.heap.size, .int (Int32.ofNat o), .ref b])) := c4.trans (by
    refine XS.astoreN X3.here hexec rfl (hb hbytes d3) rfl rfl rfl ?_
    refine XS.aloadN X3.here hexec rfl (hb hbytes d4) rfl rfl ?_
    refine XS.iloadN X3.here hexec rfl (hb hbytes d5) rfl ?_
    refine XS.aloadN X3.here hexec rfl (hb hbytes d6) rfl rfl ?_
    refine iconstV X3.here hexec rfl 0 (hb hbytes d7) (by decide) ?_
    refine XS.iloadN X3.here hexec rfl (hb hbytes d8) rfl ?_
    exact Steps.refl _)
  obtain ⟨v6, T6, X6, E6, g6⟩ := X3.callS hexec (Cmp5.law l b A s.heap.size B3 o 0 len) hown (wks W (staticW U16 115 Cmp5.yN)) (wk W Cmp5.tab) (W := 0) (Nat.le_of_ble_eq_true rfl) (Nat.le_of_ble_eq_true rfl) (Nat.le_refl _) (by show 0 + len + 0 ≤ len; omega) (g := (mkF m 9 #[.val (.ref b), .val (.int (Int32.ofNat o)), .val (.int (Int32.ofNat len)), .val (.ref s.heap.size), .unset, .unset] [.int (Int32.ofNat len), .int (Int32.ofNat 0), .ref s.heap.size, .int (Int32.ofNat o), .ref b])) rfl (by rw [hml]; rfl) c5 (argsL := [.ref b, .int (Int32.ofNat o), .ref s.heap.size, .int (Int32.ofNat 0), .int (Int32.ofNat len)]) (rest := []) rfl rfl (by show 2 * 0 + 0 ≤ _; decide) (hb hbytes d9) (⟨rfl, hA3, ba3, hne, l1, by rw [bs3]; simp, hp⟩)
  obtain ⟨rfl, B6, p6, f6⟩ := E6
  have c7 : Steps p.tables e below (s₁.setTop (entryFrame m #[.ref b, .int (Int32.ofNat o), .int (Int32.ofNat len)] 6)) (T6.setTop (mkF m 12 #[.val (.ref b), .val (.int (Int32.ofNat o)), .val (.int (Int32.ofNat len)), .val (.ref s.heap.size), .unset, .unset] [.int (Int32.ofNat len)])) := g6
  have c8 : Steps p.tables e below (s₁.setTop (entryFrame m #[.ref b, .int (Int32.ofNat o), .int (Int32.ofNat len)] 6)) (T6.setTop (mkF m 58 #[.val (.ref b), .val (.int (Int32.ofNat o)), .val (.int (Int32.ofNat len)), .val (.ref s.heap.size), .val (.int (Int32.ofNat len)), .unset] [.ref s.heap.size])) := c7.trans (by
    refine XS.istore X6.here hexec rfl (hb hbytes d12) rfl rfl ?_
    refine XS.iload X6.here hexec rfl (hb hbytes d14) rfl ?_
    refine XS.iloadN X6.here hexec rfl (hb hbytes d16) rfl ?_
    refine XS.icmpYes X6.here hexec rfl (pc0 := 17) rfl (hb hbytes d17) rfl (ii_eq_t rfl) (by decide) rfl ?_
    refine XS.aloadN X6.here hexec rfl (hb hbytes d57) rfl rfl ?_
    exact Steps.refl _)
  have X8 := X6.wide (L' := []) (cells' := 1) (slots' := len) (fun x hx hlt => by
    simp only [List.nil_append, copyLocs, List.mem_map, List.mem_range] at hx
    obtain ⟨i, -, rfl⟩ := hx
    exact absurd hlt (Nat.lt_irrefl _)) (Nat.le_refl _) (by omega)
  exact ⟨T6, some (.ref s.heap.size), _, _, _, X8, rfl, rfl, rfl, (fun h => by cases h), ⟨⟨rfl, B6, ba3.like (X3.warmed.alike.symm.trans X6.warmed.alike) p6.1 f6.1 f6.2.1 f6.2.2.1, f6.2.1.trans bv3, by rw [X6.warmed.alike.findClass, f6.1]; exact bf3, by rw [f6.2.2.1, bs3]; simp, fun j hj => by rw [f6.2.2.2 j, if_pos (by omega)]; rfl, kp3.put p6 (Nat.le_refl _)⟩, by rw [p6.2.2, bh3, hh0]; simp⟩, fun fs hl => c8.trans (X8.areturnOut hexec rfl hret rfl (hb hbytes d58) hl)⟩
end Cmp3
namespace CodL
def yN : MethodName := ⟨"java/lang/StringUTF16", "coderFromArrayLen", "([BI)B"⟩
abbrev yB : ByteArray := jdk_52_method_15_code
theorem d0 : decode yB 0 = .ok (.iload_n 1, 1) := by decide +kernel
theorem d1 : decode yB 1 = .ok (.aload_n 0, 1) := by decide +kernel
theorem d2 : decode yB 2 = .ok (.arraylength, 1) := by decide +kernel
theorem d3 : decode yB 3 = .ok (.isub, 1) := by decide +kernel
theorem d4 : decode yB 4 = .ok (.bipush 31, 2) := by decide +kernel
theorem d6 : decode yB 6 = .ok (.iushr, 1) := by decide +kernel
theorem d7 : decode yB 7 = .ok (.i2b, 1) := by decide +kernel
theorem d8 : decode yB 8 = .ok (.ireturn, 1) := by decide +kernel
def site : List Cond := []
def tab : Cond := tabOf yN yB 2 (some .byte) site
def P (d : Addr) (B : Cell) (args : Array Value) (s : State) : Prop := args = #[.ref d, .int (Int32.ofNat B.slots.size)] ∧ Arr .byte d B s
def E (r : Option Value) (s u : State) : Prop := XT.PureE (some (.int 0)) r s u
/-- an array as long as the number of chars: LATIN1 -/
theorem law (l : Launch) (d : Addr) (B : Cell) : Law l yN 2 2 0 0 yB 2 (some .byte) site (P d B) E [] 0 0 := by
  refine Law.of_walk (plainFor_of_name (by decide +kernel)) (by decide +kernel) (by decide +kernel) (by decide) (fun _ _ h => by rw [h.1]; rfl) (fun _ U U' hal hh h => ⟨h.1, h.2.mv hal hh⟩) (fun r U U' V V' h1 hal h2 h => XT.PureE.mv r U U' V V' h1 hal h2 h) ?_
  intro p e s m args below meth c s₁ X0 hexec hbytes hml hret hlk hnm hown hh0 W hP
  obtain ⟨rfl, hB⟩ := hP
  have hB0 := hB.mv X0.warmed.alike hh0
  have c1 : Steps p.tables e below (s₁.setTop (entryFrame m #[.ref d, .int (Int32.ofNat B.slots.size)] 2)) (s₁.setTop (mkF m 0 #[.val (.ref d), .val (.int (Int32.ofNat B.slots.size))] [])) := entry rfl
  have c2 : Steps p.tables e below (s₁.setTop (entryFrame m #[.ref d, .int (Int32.ofNat B.slots.size)] 2)) (s₁.setTop (mkF m 2 #[.val (.ref d), .val (.int (Int32.ofNat B.slots.size))] [.ref d, .int (Int32.ofNat B.slots.size)])) := c1.trans (by
    refine XS.iloadN X0.here hexec rfl (hb hbytes d0) rfl ?_
    refine XS.aloadN X0.here hexec rfl (hb hbytes d1) rfl rfl ?_
    exact Steps.refl _)
  have c3 : Steps p.tables e below (s₁.setTop (entryFrame m #[.ref d, .int (Int32.ofNat B.slots.size)] 2)) (s₁.setTop (mkF m 8 #[.val (.ref d), .val (.int (Int32.ofNat B.slots.size))] [.int (lo8 (ushr (Int32.ofNat B.slots.size - Int32.ofNat B.slots.size) 31))])) := c2.trans (by
    refine X0.alen hexec hB0 rfl rfl (hb hbytes d2) ?_
    refine XS.isub X0.here hexec rfl (hb hbytes d3) rfl ?_
    refine bipushV X0.here hexec rfl 31 (hb hbytes d4) (by decide) ?_
    refine iushr X0.here hexec rfl (hb hbytes d6) rfl ?_
    refine i2b X0.here hexec rfl (hb hbytes d7) rfl ?_
    exact Steps.refl _)
  have e0 : lo8 (ushr (Int32.ofNat B.slots.size - Int32.ofNat B.slots.size) 31) = 0 := by rw [Int32.sub_self]; decide
  rw [e0] at c3
  exact ⟨s₁, some (.int 0), _, _, _, X0, rfl, rfl, rfl, (fun h => by cases h), ⟨rfl, hh0⟩, fun fs hl => c3.trans (X0.ireturnOut hexec hret rfl (Or.inr (Or.inr (Or.inl rfl))) (hb hbytes d8) hl)⟩
end CodL
/-- the String at a is Latin-1 over a new byte[] (the heap's one new cell): the low bytes of the len chars of A from o on; every cell but a is kept -/
def Got (a : Addr) (D : Cell) (fV fC : Field) (A : Cell) (o len : Nat) (r : Option Value) (s u : State) : Prop := r = none ∧ ∃ D' V : Cell, Blank "java/lang/String" a D' u ∧ Same D D' [fV.slot, fC.slot] ∧ D'.slots[fV.slot]? = some (.ref s.heap.size) ∧ D'.slots[fC.slot]? = some (.int 0) ∧ Arr .byte s.heap.size V u ∧ V.vm = .none ∧ u.vm.findClass "[B" = some V.cls ∧ V.slots.size = len ∧ (∀ j, j < len → V.slots[j]? = some (.int (lo8 (cv A (o + j))))) ∧ (∀ (y : Addr) (c : Cell), y ≠ a → s.heap[y]? = some c → u.heap[y]? = some c) ∧ u.heap.size = s.heap.size + 1
theorem Got.mv {a : Addr} {D A : Cell} {fV fC : Field} {o len : Nat} : ∀ r (U U' V V' : State), U'.heap = U.heap → V.vm.Alike V'.vm → V'.heap = V.heap → Got a D fV fC A o len r U V → Got a D fV fC A o len r U' V' :=
  fun r U U' V V' h1 hal h2 ⟨e0, D', X, a1, a2, a3, a4, a5, a6, a7, a8, a9, a10, a11⟩ => ⟨e0, D', X, a1.mv hal h2, a2, by rw [h1]; exact a3, a4, by rw [h1]; exact a5.mv hal h2, a6, by rw [hal.findClass]; exact a7, a8, a9, by rw [h1, h2]; exact a10, by rw [h1, h2]; exact a11⟩
namespace New4
def yN : MethodName := ⟨"java/lang/String", "<init>", "([CIILjava/lang/Void;)V"⟩
abbrev yB : ByteArray := jdk_42_method_149_code
theorem d0 : decode yB 0 = .ok (.aload_n 0, 1) := by decide +kernel
theorem d1 : decode yB 1 = .ok (.invokespecial 1, 3) := by decide +kernel
theorem d4 : decode yB 4 = .ok (.iload_n 3, 1) := by decide +kernel
theorem d5 : decode yB 5 = .ok (.ifCond (.ne) 22, 3) := by decide +kernel
theorem d27 : decode yB 27 = .ok (.getstatic 38, 3) := by decide +kernel
theorem d30 : decode yB 30 = .ok (.ifCond (.eq) 28, 3) := by decide +kernel
theorem d33 : decode yB 33 = .ok (.aload_n 1, 1) := by decide +kernel
theorem d34 : decode yB 34 = .ok (.iload_n 2, 1) := by decide +kernel
theorem d35 : decode yB 35 = .ok (.iload_n 3, 1) := by decide +kernel
theorem d36 : decode yB 36 = .ok (.invokestatic 177, 3) := by decide +kernel
theorem d39 : decode yB 39 = .ok (.astore 5, 2) := by decide +kernel
theorem d41 : decode yB 41 = .ok (.aload_n 0, 1) := by decide +kernel
theorem d42 : decode yB 42 = .ok (.aload 5, 2) := by decide +kernel
theorem d44 : decode yB 44 = .ok (.iload_n 3, 1) := by decide +kernel
theorem d45 : decode yB 45 = .ok (.invokestatic 47, 3) := by decide +kernel
theorem d48 : decode yB 48 = .ok (.putfield 15, 3) := by decide +kernel
theorem d51 : decode yB 51 = .ok (.aload_n 0, 1) := by decide +kernel
theorem d52 : decode yB 52 = .ok (.aload 5, 2) := by decide +kernel
theorem d54 : decode yB 54 = .ok (.putfield 9, 3) := by decide +kernel
theorem d57 : decode yB 57 = .ok (.return_, 1) := by decide +kernel
def site : List Cond := [.fieldLink "java/lang/String" 38 "java/lang/String" "COMPACT_STRINGS" "Z", Cmp3.tab, CodL.tab, .laysFinal "java/lang/String" "java/lang/String" "value" "[B", .fieldLink "java/lang/String" 9 "java/lang/String" "value" "[B", .laysFinal "java/lang/String" "java/lang/String" "coder" "B", .fieldLink "java/lang/String" 15 "java/lang/String" "coder" "B"] ++ objW "java/lang/String" 1 ++ staticW "java/lang/String" 177 Cmp3.yN ++ staticW "java/lang/String" 47 CodL.yN
def tab : Cond := tabOf yN yB 6 none site
def P (a : Addr) (D : Cell) (fV fC : Field) (b : Addr) (A : Cell) (z : Int32) (o len : Nat) (args : Array Value) (s : State) : Prop := args = #[.ref a, .ref b, .int (Int32.ofNat o), .int (Int32.ofNat len), .null] ∧ Blank "java/lang/String" a D s ∧ Found "java/lang/String" "value" "[B" fV s ∧ Found "java/lang/String" "coder" "B" fC s ∧ Ch b A s ∧ StaticIs s "java/lang/String" "COMPACT_STRINGS" "Z" (.int z) ∧ ¬ z = 0 ∧ 0 < len ∧ o + len ≤ A.slots.size ∧ len ≤ 536870912 ∧ ∀ i, i < len → ¬ 255 < cv A (o + i)
def E (a : Addr) (D : Cell) (fV fC : Field) (A : Cell) (o len : Nat) (r : Option Value) (s u : State) : Prop := Got a D fV fC A o len r s u
/-- len > 0, no char of the range above 255: a Latin-1 String of their low bytes -/
theorem law (l : Launch) (a : Addr) (D : Cell) (fV fC : Field) (b : Addr) (A : Cell) (z : Int32) (o len : Nat) : Law l yN 5 4 2 35 yB 6 none site (P a D fV fC b A z o len) (E a D fV fC A o len) [⟨a, fC.slot⟩, ⟨a, fV.slot⟩] 1 len := by
  refine Law.of_walk (plainFor_of_name (by decide +kernel)) (by decide +kernel) (by decide +kernel) (by decide) (fun _ _ h => by rw [h.1]; rfl) (fun _ U U' hal hh h => ⟨h.1, h.2.1.mv hal hh, h.2.2.1.al hal, h.2.2.2.1.al hal, h.2.2.2.2.1.mv hal hh, h.2.2.2.2.2.1.there hal hh, h.2.2.2.2.2.2⟩) (fun r U U' V V' h1 hal h2 h => Got.mv r U U' V V' h1 hal h2 h) ?_
  intro p e s m args below meth c s₁ X0 hexec hbytes hml hret hlk hnm hown hh0 W hP
  obtain ⟨rfl, hB, f1, f2, hA, s1, hz, l0, l1, l2, hp⟩ := hP
  have a31 := hA.1.2.2.2
  have c1 : Steps p.tables e below (s₁.setTop (entryFrame m #[.ref a, .ref b, .int (Int32.ofNat o), .int (Int32.ofNat len), .null] 6)) (s₁.setTop (mkF m 0 #[.val (.ref a), .val (.ref b), .val (.int (Int32.ofNat o)), .val (.int (Int32.ofNat len)), .val .null, .unset] [])) := entry rfl
  have c2 : Steps p.tables e below (s₁.setTop (entryFrame m #[.ref a, .ref b, .int (Int32.ofNat o), .int (Int32.ofNat len), .null] 6)) (s₁.setTop (mkF m 1 #[.val (.ref a), .val (.ref b), .val (.int (Int32.ofNat o)), .val (.int (Int32.ofNat len)), .val .null, .unset] [.ref a])) := c1.trans (by
    refine XS.aloadN X0.here hexec rfl (hb hbytes d0) rfl rfl ?_
    exact Steps.refl _)
  obtain ⟨T3, X3, q3, st3⟩ := X0.oinit hexec hown (wks W (objW "java/lang/String" 1)) (g := (mkF m 1 #[.val (.ref a), .val (.ref b), .val (.int (Int32.ofNat o)), .val (.int (Int32.ofNat len)), .val .null, .unset] [.ref a])) rfl (by rw [hml]; rfl) (rest := []) rfl (hb hbytes d1) (W := 0) (by show 2 * 0 + 0 ≤ _; decide) (Nat.le_of_ble_eq_true rfl) (Nat.le_of_ble_eq_true rfl)
  have hh3 := q3.trans hh0
  have c4 : Steps p.tables e below (s₁.setTop (entryFrame m #[.ref a, .ref b, .int (Int32.ofNat o), .int (Int32.ofNat len), .null] 6)) (T3.setTop (mkF m 27 #[.val (.ref a), .val (.ref b), .val (.int (Int32.ofNat o)), .val (.int (Int32.ofNat len)), .val .null, .unset] [])) := (c2.trans (st3 _ (Steps.refl _))).trans (by
    refine XS.iloadN X3.here hexec rfl (hb hbytes d4) rfl ?_
    refine XS.ifYes X3.here hexec rfl (pc0 := 5) rfl (hb hbytes d5) rfl (i0_ne_t (nz32 (by omega) l0)) (by decide) rfl ?_
    exact Steps.refl _)
  obtain ⟨T5, X5, q5, st5⟩ := X3.sget hexec hown (wk W (.fieldLink "java/lang/String" 38 "java/lang/String" "COMPACT_STRINGS" "Z")) s1 (fun _ _ h => by rw [hh3]; exact h) (g := (mkF m 27 #[.val (.ref a), .val (.ref b), .val (.int (Int32.ofNat o)), .val (.int (Int32.ofNat len)), .val .null, .unset] [])) rfl (hb hbytes d27)
  have hh5 := q5.trans hh3
  have c6 : Steps p.tables e below (s₁.setTop (entryFrame m #[.ref a, .ref b, .int (Int32.ofNat o), .int (Int32.ofNat len), .null] 6)) (T5.setTop (mkF m 30 #[.val (.ref a), .val (.ref b), .val (.int (Int32.ofNat o)), .val (.int (Int32.ofNat len)), .val .null, .unset] [.int z])) := c4.trans (st5 _ (Steps.refl _))
  have c7 : Steps p.tables e below (s₁.setTop (entryFrame m #[.ref a, .ref b, .int (Int32.ofNat o), .int (Int32.ofNat len), .null] 6)) (T5.setTop (mkF m 36 #[.val (.ref a), .val (.ref b), .val (.int (Int32.ofNat o)), .val (.int (Int32.ofNat len)), .val .null, .unset] [.int (Int32.ofNat len), .int (Int32.ofNat o), .ref b])) := c6.trans (by
    refine XS.ifNo X5.here hexec rfl (hb hbytes d30) rfl (i0_eq_f hz) ?_
    refine XS.aloadN X5.here hexec rfl (hb hbytes d33) rfl rfl ?_
    refine XS.iloadN X5.here hexec rfl (hb hbytes d34) rfl ?_
    refine XS.iloadN X5.here hexec rfl (hb hbytes d35) rfl ?_
    exact Steps.refl _)
  obtain ⟨v8, T8, X8, E8, g8⟩ := X5.callS hexec (Cmp3.law l b A o len) hown (wks W (staticW "java/lang/String" 177 Cmp3.yN)) (wk W Cmp3.tab) (W := 0) (Nat.le_of_ble_eq_true rfl) (Nat.le_of_ble_eq_true rfl) (Nat.le_refl _) (by show 0 + len ≤ len; omega) (g := (mkF m 36 #[.val (.ref a), .val (.ref b), .val (.int (Int32.ofNat o)), .val (.int (Int32.ofNat len)), .val .null, .unset] [.int (Int32.ofNat len), .int (Int32.ofNat o), .ref b])) rfl (by rw [hml]; rfl) c7 (argsL := [.ref b, .int (Int32.ofNat o), .int (Int32.ofNat len)]) (rest := []) rfl rfl (by show 2 * 0 + 0 ≤ _; decide) (hb hbytes d36) (⟨rfl, hA.mv X5.warmed.alike hh5, l1, l2, hp⟩)
  obtain ⟨e8, z8⟩ := E8
  obtain ⟨rfl, N, n1, n2, n3, n4, n5, n6⟩ := NewArr.mv _ T5 s _ _ hh5.symm (Vm.Alike.refl _) rfl e8
  rw [hh5] at z8
  have hB1 := hB.keep X8.warmed.alike (n6 _ _ hB.1)
  have hne : s.heap.size ≠ a := (Nat.ne_of_lt (Array.getElem?_eq_some_iff.mp hB.1).1).symm
  have c9 : Steps p.tables e below (s₁.setTop (entryFrame m #[.ref a, .ref b, .int (Int32.ofNat o), .int (Int32.ofNat len), .null] 6)) (T8.setTop (mkF m 39 #[.val (.ref a), .val (.ref b), .val (.int (Int32.ofNat o)), .val (.int (Int32.ofNat len)), .val .null, .unset] [.ref s.heap.size])) := g8
  have c10 : Steps p.tables e below (s₁.setTop (entryFrame m #[.ref a, .ref b, .int (Int32.ofNat o), .int (Int32.ofNat len), .null] 6)) (T8.setTop (mkF m 45 #[.val (.ref a), .val (.ref b), .val (.int (Int32.ofNat o)), .val (.int (Int32.ofNat len)), .val .null, .val (.ref s.heap.size)] [.int (Int32.ofNat N.slots.size), .ref s.heap.size, .ref a])) := by
    have hc : Steps p.tables e below (s₁.setTop (entryFrame m #[.ref a, .ref b, .int (Int32.ofNat o), .int (Int32.ofNat len), .null] 6)) (T8.setTop (mkF m 45 #[.val (.ref a), .val (.ref b), .val (.int (Int32.ofNat o)), .val (.int (Int32.ofNat len)), .val .null, .val (.ref s.heap.size)] [.int (Int32.ofNat len), .ref s.heap.size, .ref a])) := c9.trans (by
      refine XS.astore X8.here hexec rfl (hb hbytes d39) rfl rfl rfl ?_
      refine XS.aloadN X8.here hexec rfl (hb hbytes d41) rfl rfl ?_
      refine XS.aload X8.here hexec rfl (hb hbytes d42) rfl rfl ?_
      refine XS.iloadN X8.here hexec rfl (hb hbytes d44) rfl ?_
      exact Steps.refl _)
    rw [n4]; exact hc
  obtain ⟨v11, T11, X11, E11, g11⟩ := X8.callS hexec (CodL.law l s.heap.size N) hown (wks W (staticW "java/lang/String" 47 CodL.yN)) (wk W CodL.tab) (W := 1) (Nat.le_of_ble_eq_true rfl) (Nat.le_of_ble_eq_true rfl) (Nat.le_refl _) (by show 0 + len + 0 ≤ len; omega) (g := (mkF m 45 #[.val (.ref a), .val (.ref b), .val (.int (Int32.ofNat o)), .val (.int (Int32.ofNat len)), .val .null, .val (.ref s.heap.size)] [.int (Int32.ofNat N.slots.size), .ref s.heap.size, .ref a])) rfl (by rw [hml]; rfl) c10 (argsL := [.ref s.heap.size, .int (Int32.ofNat N.slots.size)]) (rest := [.ref a]) rfl rfl (by show 2 * 0 + (1 + 0) ≤ _; decide) (hb hbytes d45) (⟨rfl, n1⟩)
  obtain ⟨rfl, q11⟩ := E11
  have hB11 := hB1.mv (X8.warmed.alike.symm.trans X11.warmed.alike) q11
  have c12 : Steps p.tables e below (s₁.setTop (entryFrame m #[.ref a, .ref b, .int (Int32.ofNat o), .int (Int32.ofNat len), .null] 6)) (T11.setTop (mkF m 48 #[.val (.ref a), .val (.ref b), .val (.int (Int32.ofNat o)), .val (.int (Int32.ofNat len)), .val .null, .val (.ref s.heap.size)] [.int 0, .ref a])) := g11
  obtain ⟨T13, X13, p13, bl13, sl13, st13⟩ := X11.finit hexec hown (wk W (.fieldLink "java/lang/String" 15 "java/lang/String" "coder" "B")) (Or.inr ⟨_, (wk W (.laysFinal "java/lang/String" "java/lang/String" "coder" "B"))⟩) (Or.inl ⟨rfl, hnm⟩) f2 (Or.inl rfl) hB11 (t := .byte) (by decide +kernel) rfl (g := (mkF m 48 #[.val (.ref a), .val (.ref b), .val (.int (Int32.ofNat o)), .val (.int (Int32.ofNat len)), .val .null, .val (.ref s.heap.size)] [.int 0, .ref a])) rfl (rest := []) rfl (hb hbytes d48)
  have c14 : Steps p.tables e below (s₁.setTop (entryFrame m #[.ref a, .ref b, .int (Int32.ofNat o), .int (Int32.ofNat len), .null] 6)) (T13.setTop (mkF m 54 #[.val (.ref a), .val (.ref b), .val (.int (Int32.ofNat o)), .val (.int (Int32.ofNat len)), .val .null, .val (.ref s.heap.size)] [.ref s.heap.size, .ref a])) := (c12.trans (st13 _ (Steps.refl _))).trans (by
    refine XS.aloadN X13.here hexec rfl (hb hbytes d51) rfl rfl ?_
    refine XS.aload X13.here hexec rfl (hb hbytes d52) rfl rfl ?_
    exact Steps.refl _)
  obtain ⟨T15, X15, p15, bl15, sl15, st15⟩ := X13.finit hexec hown (wk W (.fieldLink "java/lang/String" 9 "java/lang/String" "value" "[B")) (Or.inr ⟨_, (wk W (.laysFinal "java/lang/String" "java/lang/String" "value" "[B"))⟩) (Or.inl ⟨rfl, hnm⟩) f1 (Or.inl rfl) bl13 (t := (.array .byte)) (by decide +kernel) rfl (g := (mkF m 54 #[.val (.ref a), .val (.ref b), .val (.int (Int32.ofNat o)), .val (.int (Int32.ofNat len)), .val .null, .val (.ref s.heap.size)] [.ref s.heap.size, .ref a])) rfl (rest := []) rfl (hb hbytes d54)
  have c16 : Steps p.tables e below (s₁.setTop (entryFrame m #[.ref a, .ref b, .int (Int32.ofNat o), .int (Int32.ofNat len), .null] 6)) (T15.setTop (mkF m 57 #[.val (.ref a), .val (.ref b), .val (.int (Int32.ofNat o)), .val (.int (Int32.ofNat len)), .val .null, .val (.ref s.heap.size)] [])) := c14.trans (st15 _ (Steps.refl _))
  have ap := apart (Or.inr ⟨_, (wk W (.laysFinal "java/lang/String" "java/lang/String" "value" "[B"))⟩) (Or.inr ⟨_, (wk W (.laysFinal "java/lang/String" "java/lang/String" "coder" "B"))⟩) f1 f2 (t₁ := .array .byte) (t₂ := .byte) (by decide +kernel) (by decide +kernel) (by decide)
  have al := X8.warmed.alike.symm.trans X15.warmed.alike
  have n7 : T11.heap[s.heap.size]? = some N := by rw [q11]; exact n1.1
  exact ⟨T15, none, _, _, _, X15, by simp, rfl, by omega, (fun _ => rfl), ⟨rfl, _, N, bl15, ((Same.refl D _).set _ (by simp)).set _ (by simp), sl15, (Cell.slots_setSlot_ne _ ap).trans sl13, n1.keep al (p15.other hne (p13.other hne n7)), n2, by rw [al.findClass]; exact n3, n4, n5, fun y c h1 h2 => p15.other h1 (p13.other h1 (by rw [q11]; exact n6 y c h2)), by rw [p15.2.2, p13.2.2, q11]; exact z8⟩, fun fs hl => c16.trans (X15.returnOut hexec hret (hb hbytes d57) hl)⟩
end New4
namespace New1
def yN : MethodName := ⟨"java/lang/String", "<init>", "([C)V"⟩
abbrev yB : ByteArray := jdk_42_method_3_code
theorem d0 : decode yB 0 = .ok (.aload_n 0, 1) := by decide +kernel
theorem d1 : decode yB 1 = .ok (.aload_n 1, 1) := by decide +kernel
theorem d2 : decode yB 2 = .ok (.iconst 0, 1) := by decide +kernel
theorem d3 : decode yB 3 = .ok (.aload_n 1, 1) := by decide +kernel
theorem d4 : decode yB 4 = .ok (.arraylength, 1) := by decide +kernel
theorem d5 : decode yB 5 = .ok (.aconst_null, 1) := by decide +kernel
theorem d6 : decode yB 6 = .ok (.invokespecial 27, 3) := by decide +kernel
theorem d9 : decode yB 9 = .ok (.return_, 1) := by decide +kernel
def site : List Cond := [New4.tab] ++ initW "java/lang/String" 27 New4.yN
def tab : Cond := tabOf yN yB 2 none site
def P (a : Addr) (D : Cell) (fV fC : Field) (b : Addr) (A : Cell) (z : Int32) (args : Array Value) (s : State) : Prop := args = #[.ref a, .ref b] ∧ Blank "java/lang/String" a D s ∧ Found "java/lang/String" "value" "[B" fV s ∧ Found "java/lang/String" "coder" "B" fC s ∧ Ch b A s ∧ StaticIs s "java/lang/String" "COMPACT_STRINGS" "Z" (.int z) ∧ ¬ z = 0 ∧ 0 < A.slots.size ∧ A.slots.size ≤ 536870912 ∧ ∀ i, i < A.slots.size → ¬ 255 < cv A i
def E (a : Addr) (D : Cell) (fV fC : Field) (A : Cell) (r : Option Value) (s u : State) : Prop := Got a D fV fC A 0 A.slots.size r s u
/-- new String(chars), not empty, no char above 255: a Latin-1 String of their low bytes -/
theorem law (l : Launch) (a : Addr) (D : Cell) (fV fC : Field) (b : Addr) (A : Cell) (z : Int32) : Law l yN 2 1 3 52 yB 2 none site (P a D fV fC b A z) (E a D fV fC A) [⟨a, fC.slot⟩, ⟨a, fV.slot⟩] 1 A.slots.size := by
  refine Law.of_walk (plainFor_of_name (by decide +kernel)) (by decide +kernel) (by decide +kernel) (by decide) (fun _ _ h => by rw [h.1]; rfl) (fun _ U U' hal hh h => ⟨h.1, h.2.1.mv hal hh, h.2.2.1.al hal, h.2.2.2.1.al hal, h.2.2.2.2.1.mv hal hh, h.2.2.2.2.2.1.there hal hh, h.2.2.2.2.2.2⟩) (fun r U U' V V' h1 hal h2 h => Got.mv r U U' V V' h1 hal h2 h) ?_
  intro p e s m args below meth c s₁ X0 hexec hbytes hml hret hlk hnm hown hh0 W hP
  obtain ⟨rfl, hB, f1, f2, hA, s1, hz, l0, l2, hp⟩ := hP
  have c1 : Steps p.tables e below (s₁.setTop (entryFrame m #[.ref a, .ref b] 2)) (s₁.setTop (mkF m 0 #[.val (.ref a), .val (.ref b)] [])) := entry rfl
  have c2 : Steps p.tables e below (s₁.setTop (entryFrame m #[.ref a, .ref b] 2)) (s₁.setTop (mkF m 6 #[.val (.ref a), .val (.ref b)] [.null, .int (Int32.ofNat A.slots.size), .int 0, .ref b, .ref a])) := c1.trans (by
    refine XS.aloadN X0.here hexec rfl (hb hbytes d0) rfl rfl ?_
    refine XS.aloadN X0.here hexec rfl (hb hbytes d1) rfl rfl ?_
    refine iconstV X0.here hexec rfl 0 (hb hbytes d2) (by decide) ?_
    refine XS.aloadN X0.here hexec rfl (hb hbytes d3) rfl rfl ?_
    refine X0.alen hexec (hA.1.mv X0.warmed.alike hh0) rfl rfl (hb hbytes d4) ?_
    refine XS.aconstNull X0.here hexec rfl (hb hbytes d5) ?_
    exact Steps.refl _)
  obtain ⟨v3, T3, X3, E3, g3⟩ := X0.callN hexec (New4.law l a D fV fC b A z 0 A.slots.size) rfl hown (wks W (initW "java/lang/String" 27 New4.yN)) (W New4.tab (by simp only [site, List.mem_cons, List.mem_append, true_or, or_true])) (W := 0) (Nat.le_of_ble_eq_true rfl) (Nat.le_of_ble_eq_true rfl) (Nat.le_refl _) (by show 0 + A.slots.size ≤ A.slots.size; omega) (g := (mkF m 6 #[.val (.ref a), .val (.ref b)] [.null, .int (Int32.ofNat A.slots.size), .int (Int32.ofNat 0), .ref b, .ref a])) rfl (by rw [hml]; rfl) c2 (argsL := [.ref b, .int (Int32.ofNat 0), .int (Int32.ofNat A.slots.size), .null]) (rest := []) rfl rfl (by show 2 * 0 + 0 ≤ _; decide) (hb hbytes d6) (⟨rfl, hB.mv X0.warmed.alike hh0, f1.al X0.warmed.alike, f2.al X0.warmed.alike, hA.mv X0.warmed.alike hh0, s1.there X0.warmed.alike hh0, hz, l0, by omega, l2, fun i hi => by rw [Nat.zero_add]; exact hp i hi⟩)
  have e0 := Got.mv _ s₁ s _ _ hh0.symm (Vm.Alike.refl _) rfl E3
  obtain rfl := e0.1
  have c4 : Steps p.tables e below (s₁.setTop (entryFrame m #[.ref a, .ref b] 2)) (T3.setTop (mkF m 9 #[.val (.ref a), .val (.ref b)] [])) := g3
  exact ⟨T3, none, _, _, _, X3, by simp, rfl, by omega, (fun _ => rfl), e0, fun fs hl => c4.trans (X3.returnOut hexec hret (hb hbytes d9) hl)⟩
theorem pays {l : Launch} {R : Room} {p : Program} {e : Env} {below : List Frame} {s : State} {sargs : Array Value} {len W : Nat} (a : Addr) (D : Cell) (fV fC : Field) (b : Addr) (A : Cell) (z : Int32) (htab : tab.before sargs s = true) (hfr : 4 ≤ R.frames) (hlo : W + 65 ≤ R.locals) :
    Back l R p e below s sargs yN len W (fun A₁ a₁ => A₁.cells + 1 ≤ R.cells ∧ A₁.slots + A.slots.size ≤ R.slots ∧ P a D fV fC b A z a₁ A₁.U) (fun A₁ _ v₁ B₁ => E a D fV fC A v₁ A₁.U B₁.U ∧ B₁.locs = A₁.locs ++ [⟨a, fC.slot⟩, ⟨a, fV.slot⟩] ∧ B₁.cells = A₁.cells + 1 ∧ B₁.slots = A₁.slots + A.slots.size) :=
  (law l a D fV fC b A z).pays htab hfr (by omega)
end New1
/-- the byte, read back as charAt reads it, is the char -/
theorem lo8_mask {x : Int32} (h0 : ¬ x < 0) (h1 : ¬ 255 < x) : lo8 x &&& 255 = x := by
  have t : ∀ k : Fin 256, lo8 (Int32.ofNat k.val) &&& 255 = Int32.ofNat k.val := by decide +kernel
  rw [Int32.lt_iff_toInt_lt] at h0 h1
  have e0 : (0 : Int32).toInt = 0 := rfl
  have e1 : (255 : Int32).toInt = 255 := rfl
  obtain ⟨k, hk⟩ : ∃ k : Nat, x.toInt = k := ⟨x.toInt.toNat, by omega⟩
  have hx : x = Int32.ofNat k := Int32.toInt_inj.mp (by rw [hk, Int32.toInt_ofNat_small (by omega)])
  rw [hx]
  exact t ⟨k, by omega⟩
end StrChars
namespace StrChars.Road
open Jvm Sem ClassFile Op Lib Jvm.Stand Jvm.Free Jvm.Free.XT
open Jvm.Lib.Cold (StaticIs)
abbrev ST : String := "java/lang/String"
/-- every table word that New1's law asks, flat -/
abbrev words : List Jvm.Cond := [.code New1.yN New1.yB 2 none, .initialized ST, .methodLink ST 27 New4.yN, .instanceMethod New4.yN,
  .code New4.yN New4.yB 6 none, .fieldLink ST 38 ST "COMPACT_STRINGS" "Z", .laysFinal ST ST "value" "[B", .fieldLink ST 9 ST "value" "[B", .laysFinal ST ST "coder" "B", .fieldLink ST 15 ST "coder" "B",
  .methodLink ST 1 Lib.objectInit, .instanceMethod Lib.objectInit, .code Lib.objectInit ⟨#[0xb1]⟩ 1 none, .methodLink ST 177 Cmp3.yN, .static Cmp3.yN, .methodLink ST 47 CodL.yN, .static CodL.yN,
  .code Cmp3.yN Cmp3.yB 6 (some (.array .byte)), .initialized U16, .arrayClass .byte, .methodLink U16 115 Cmp5.yN, .static Cmp5.yN, .code Cmp5.yN Cmp5.yB 7 (some .int), .code CodL.yN CodL.yB 2 (some .byte)]
theorem tab_of {a : Array Value} {s : State} (h : ∀ w ∈ words, w.before a s = true) : New1.tab.before a s = true := by
  have h5 : Cmp5.tab.before a s = true := unparts (wk h (.code Cmp5.yN Cmp5.yB 7 (some .int))) (wks h (.initialized Cmp5.yN.cls :: Cmp5.site))
  have hc : CodL.tab.before a s = true := unparts (wk h (.code CodL.yN CodL.yB 2 (some .byte))) (wks h (.initialized CodL.yN.cls :: CodL.site))
  have q5 : ∀ w ∈ Cmp5.tab :: words, w.before a s = true := fun w hw => (List.mem_cons.mp hw).elim (fun e => e ▸ h5) (h w)
  have h3 : Cmp3.tab.before a s = true := unparts (wk q5 (.code Cmp3.yN Cmp3.yB 6 (some (.array .byte)))) (wks q5 (.initialized Cmp3.yN.cls :: Cmp3.site))
  have q3 : ∀ w ∈ Cmp3.tab :: CodL.tab :: words, w.before a s = true := fun w hw => (List.mem_cons.mp hw).elim (fun e => e ▸ h3) fun hw => (List.mem_cons.mp hw).elim (fun e => e ▸ hc) (h w)
  have h4 : New4.tab.before a s = true := unparts (wk q3 (.code New4.yN New4.yB 6 none)) (wks q3 (.initialized New4.yN.cls :: New4.site))
  have q4 : ∀ w ∈ New4.tab :: words, w.before a s = true := fun w hw => (List.mem_cons.mp hw).elim (fun e => e ▸ h4) (h w)
  exact unparts (wk q4 (.code New1.yN New1.yB 2 none)) (wks q4 (.initialized New1.yN.cls :: New1.site))
/-- the words ride from the start Z to the walk's own state -/
theorem moved {Z s : State} {a0 args : Array Value} (hZ : Z.Warmed39 s.vm) (hw : ∀ d ∈ words, d.before a0 Z = true) : ∀ d ∈ words, d.before args s = true := fun d hd => by
  have q := hw d hd
  have t : ∀ d ∈ words, d = .arrayClass .byte ∨ (d.onTables && d.keepsFace) = true := by decide +kernel
  rcases t d hd with rfl | t
  · exact RoadKit.mvA hZ q
  · exact RoadKit.mv hZ q t
/-- WHAT COMES BACK, over the tables of the start Z: h the heap at the call, h' behind it -/
def Q (Z : State) (x : Addr) (A : Cell) (h : Heap) (v : Option Value) (h' : Heap) (L : List Loc) : Prop := v = none ∧ (∀ y ∈ L, y.base = x) ∧ RoadKit.Keep h h' [x] ∧ h'.size = h.size + 1 ∧ RoadKit.Exa Z h' x ST ∧ RoadKit.Fld Z h' x ST "value" "[B" (.ref h.size) ∧ RoadKit.Fld Z h' x ST "coder" "B" (.int 0) ∧
  (∃ V : Cell, RoadKit.Arr Z h' h.size V .byte ∧ V.vm = .none ∧ Z.vm.findClass "[B" = some V.cls ∧ V.slots.size = A.slots.size ∧ ∀ j, j < A.slots.size → V.slots[j]? = some (.int (lo8 (cv A j)))) ∧
  ∀ (O n d : String) (w : Value), RoadKit.Fld Z h x O n d w → RoadKit.slotOf Z O n d ≠ RoadKit.slotOf Z ST "value" "[B" → RoadKit.slotOf Z O n d ≠ RoadKit.slotOf Z ST "coder" "B" → RoadKit.Fld Z h' x O n d w
/-- **new String(chars) AT A CALL, IN THE ROAD'S FORM**: for specialBack behind newO: x the fresh String, b the char[] with the cell A -/
theorem back {p : Program} {l : Launch} {e : Env} {R : Room} {s : State} {args : Array Value} {below : List Frame} {len W : Nat} {Z : State} {a0 : Array Value} {h : Heap} (hZ : Z.Warmed39 s.vm) (hw : ∀ d ∈ words, d.before a0 Z = true) {kI : Nat} (wi : (Jvm.Cond.instantiable ST kI).before a0 Z = true)
    {x b : Addr} {A : Cell} {z : Int32} {v0 c0 : Value} (E : RoadKit.Exa Z h x ST) (V : RoadKit.Fld Z h x ST "value" "[B" v0) (C : RoadKit.Fld Z h x ST "coder" "B" c0) (K : RoadKit.Arr Z h b A .char) (hty : Typed .char A) (S : RoadKit.Sta Z h ST "COMPACT_STRINGS" "Z" (.int z)) (hz : ¬ z = 0)
    (l0 : 0 < A.slots.size) (l2 : A.slots.size ≤ 536870912) (hp : ∀ i, i < A.slots.size → ¬ 255 < cv A i) (hfr : 4 ≤ R.frames) (hlo : W + 65 ≤ R.locals) :
    Back l R p e below s args New1.yN len W (fun P a => a = #[.ref x, .ref b] ∧ P.U.heap = h ∧ P.cells + 1 ≤ R.cells ∧ P.slots + A.slots.size ≤ R.slots)
      (fun P _ v B => ∃ L, Q Z x A h v B.U.heap L ∧ B.locs = P.locs ++ L ∧ B.cells = P.cells + 1 ∧ B.slots = P.slots + A.slots.size) := by
  intro m meth c P g ig mk a X hg hsize hdg hW hn hp'
  obtain ⟨rfl, rfl, r1, r2⟩ := hp'
  have al : Z.vm.Alike P.U.vm := hZ.alike.trans X.warmed.alike
  obtain ⟨D, cfV, kV, iV, fV, hD, gV, stV, knV, obV, asV, slV⟩ := id V
  obtain ⟨D', cfC, kC, iC, fC, hD', gC, stC, -, -, asC, slC⟩ := id C
  cases hD.symm.trans hD'
  obtain ⟨D2, kD, e1, e2, e3, e4, e5⟩ := id E
  cases hD.symm.trans e1
  obtain ⟨c2, k2, i1, i2, i3, -⟩ := Cond.instantiable_spec wi
  cases e2.symm.trans i1
  cases e3.symm.trans i2
  obtain ⟨kU, u1, u2⟩ := al.2.2 _ _ e3
  have hB : Blank ST x D P.U := ⟨hD, ⟨knV, fun q hq => by rw [hq] at obV; cases obV⟩, by rw [al.findClass]; exact e2, kU, u1, by rw [u2]; exact i3, by rw [u2]; exact e5 i3⟩
  have F1 : Found ST "value" "[B" fV P.U := ⟨SBG.found_only al ⟨cfV, kV, iV, gV⟩, stV⟩
  have F2 : Found ST "coder" "B" fC P.U := ⟨SBG.found_only al ⟨cfC, kC, iC, gC⟩, stC⟩
  have hA : Ch b A P.U := ⟨⟨K.1, State.isArrayOf_alike al K.2.1, K.2.2, by omega⟩, hty⟩
  have hS : StaticIs P.U ST "COMPACT_STRINGS" "Z" (.int z) := by
    obtain ⟨cfS, iS, kS, fS, st, cS, t1, t2, t3, t4, t5, t6, t7⟩ := S
    exact StaticIs.there (s := { Z with heap := P.U.heap }) ⟨cfS, iS, kS, fS, st, cS, t1, t2, t3, t4, t5, (fun q => by rw [q] at t6; cases t6), t7⟩ al rfl
  obtain ⟨v, B, X', ⟨⟨hv, E', V', q1, q2, q3, q4, q5, q6, q7, q8, q9, q10, q11⟩, hl, hc, hs⟩, st⟩ := New1.pays x D fV fC b A z (tab_of (moved hZ hw)) hfr hlo m meth c P g ig mk _ X hg hsize hdg hW hn ⟨r1, r2, rfl, hB, F1, F2, hA, hS, hz, l0, l2, hp⟩
  have al' : Z.vm.Alike B.U.vm := hZ.alike.trans X'.warmed.alike
  have hsz : E'.slots.size = D.slots.size := by
    obtain ⟨-, -, -, kB, w1, w2, w3⟩ := q1
    obtain ⟨kB', y1, y2⟩ := al'.2.2 _ _ e3
    rw [q2.2.1] at w1
    cases w1.symm.trans y1
    rw [w3, e5 i3, y2]
  refine ⟨v, B, X', ⟨_, ⟨hv, ?_, ⟨by omega, fun y cy hy hn' => q10 y cy (by simpa using hn') hy, fun y cy hy => ?_⟩, q11, ⟨E', _, q1.1, by rw [q2.2.1]; exact e2, by rw [q2.2.1]; exact e3, by rw [q2.1]; exact obV, fun _ => by rw [hsz]; exact e5 i3⟩,
    ⟨E', cfV, kV, iV, fV, q1.1, gV, stV, by rw [q2.1]; exact knV, by rw [q2.1]; exact obV, by rw [q2.2.1]; exact asV, q3⟩, ⟨E', cfC, kC, iC, fC, q1.1, gC, stC, by rw [q2.1]; exact knV, by rw [q2.1]; exact obV, by rw [q2.2.1]; exact asC, q4⟩,
    ⟨V', ⟨q5.1, State.isArrayOf_alike al'.symm q5.2.1, q5.2.2.1⟩, q6, by rw [← al'.findClass]; exact q7, q8, fun j hj => by have := q9 j hj; rwa [Nat.zero_add] at this⟩, fun O n d w F n1 n2 => ?_⟩, hl, hc, hs⟩, st⟩
  · intro y hy
    simp only [List.mem_cons, List.not_mem_nil, or_false] at hy
    rcases hy with rfl | rfl <;> rfl
  · by_cases q : y = x
    · subst q
      cases hD.symm.trans hy
      exact ⟨E', q1.1, q2.2.1, q2.1, hsz⟩
    · exact ⟨cy, q10 y cy q hy, rfl, rfl, rfl⟩
  · obtain ⟨D3, cf, k, i, f, g1, g2, g3, g4, g5, g6, g7⟩ := F
    cases hD.symm.trans g1
    simp only [RoadKit.slotOf, g2, gV, gC, Option.map_some, Option.getD_some] at n1 n2
    exact ⟨E', cf, k, i, f, q1.1, g2, g3, by rw [q2.1]; exact g4, by rw [q2.1]; exact g5, by rw [q2.2.1]; exact g6, by rw [q2.2.2 f.slot (by simp [n1, n2])]; exact g7⟩
end StrChars.Road
namespace StrChars.Road
open Jvm Sem ClassFile Op Lib Jvm.Stand Jvm.Free Jvm.Free.XT
/-- WHAT COMES BACK, the byte[] as a list of values -/
def QA (Z : State) (x : Addr) (zn : Int32) (cs : List Int32) (h : Heap) (v : Option Value) (h' : Heap) (L : List Loc) : Prop := v = none ∧ (∀ y ∈ L, y.base = x) ∧ RoadKit.Keep h h' [x] ∧ h'.size = h.size + 1 ∧ RoadKit.Exa Z h' x ST ∧ RoadKit.Fld Z h' x ST "value" "[B" (.ref h.size) ∧ RoadKit.Fld Z h' x ST "coder" "B" (.int 0) ∧
  (∃ kb, Z.vm.findClass "[B" = some kb ∧ RoadKit.Arv Z h' h.size kb .byte zn (cs.map fun c => .int (lo8 c)) (.int 0)) ∧
  ∀ (O n d : String) (w : Value), RoadKit.Fld Z h x O n d w → RoadKit.slotOf Z O n d ≠ RoadKit.slotOf Z ST "value" "[B" → RoadKit.slotOf Z O n d ≠ RoadKit.slotOf Z ST "coder" "B" → RoadKit.Fld Z h' x O n d w
/-- **new String(chars) AT A CALL, THE ARRAYS AS LISTS**: the char[] at b holds cs, not empty, no char above 255 -/
theorem backArv {p : Program} {l : Launch} {e : Env} {R : Room} {s : State} {args : Array Value} {below : List Frame} {len W : Nat} {Z : State} {a0 : Array Value} {h : Heap} (hZ : Z.Warmed39 s.vm) (hw : ∀ d ∈ words, d.before a0 Z = true) {kI : Nat} (wi : (Jvm.Cond.instantiable ST kI).before a0 Z = true)
    {x b : Addr} {k : ClassId} {zn z : Int32} {cs : List Int32} {dv v0 c0 : Value} (E : RoadKit.Exa Z h x ST) (V : RoadKit.Fld Z h x ST "value" "[B" v0) (C : RoadKit.Fld Z h x ST "coder" "B" c0) (K : RoadKit.Arv Z h b k .char zn (cs.map Value.int) dv) (S : RoadKit.Sta Z h ST "COMPACT_STRINGS" "Z" (.int z)) (hz : ¬ z = 0)
    (hlen : zn.toNatClampNeg = cs.length) (h0 : 0 < cs.length) (hbig : cs.length ≤ 536870912) (hall : ∀ c ∈ cs, ¬ 255 < c) (hfr : 4 ≤ R.frames) (hlo : W + 65 ≤ R.locals) :
    Back l R p e below s args New1.yN len W (fun P a => a = #[.ref x, .ref b] ∧ P.U.heap = h ∧ P.cells + 1 ≤ R.cells ∧ P.slots + cs.length ≤ R.slots)
      (fun P _ v B => ∃ L, QA Z x zn cs h v B.U.heap L ∧ B.locs = P.locs ++ L ∧ B.cells = P.cells + 1 ∧ B.slots = P.slots + cs.length) := by
  obtain ⟨A, K1, K2, K3, K4, K5, K6⟩ := K
  have e : A.slots.size = cs.length := K3.trans hlen
  have hat : ∀ (i : Nat) (hi : i < cs.length), A.slots[i]? = some (.int cs[i]) := fun i hi => by rw [K5 i (by omega)]; simp [List.getD_eq_getElem?_getD, hi]
  have hcv : ∀ (i : Nat) (hi : i < cs.length), cv A i = cs[i] := fun i hi => by unfold cv; rw [hat i hi]
  have hty : Typed .char A := fun i v hv => by
    have hi : i < A.slots.size := (Array.getElem?_eq_some_iff.mp hv).1
    have q := K5 i hi
    rw [hv] at q
    rw [Option.some.inj q]
    exact K6 i hi
  refine Back.mono (back hZ hw wi E V C K1 hty S hz (by omega) (by omega) (fun i hi => by rw [hcv i (by omega)]; exact hall _ (List.getElem_mem _)) hfr hlo) (fun P a hp => ⟨hp.1, hp.2.1, hp.2.2.1, by rw [e]; exact hp.2.2.2⟩) (fun P a v B hp hq => ?_)
  obtain ⟨L, ⟨q1, q2, q3, q4, q5, q6, q7, ⟨V', v1, v2, v3, v4, v5⟩, q9⟩, hl, hc, hs⟩ := hq
  refine ⟨L, ⟨q1, q2, q3, q4, q5, q6, q7, ⟨V'.cls, v3, V', v1, rfl, by rw [v4, e, hlen], K4, fun i hi => ?_, fun i hi => ?_⟩, q9⟩, hl, hc, by rw [hs, e]⟩
  · have hi' : i < cs.length := by omega
    rw [v5 i (by omega), hcv i hi']; simp [List.getD_eq_getElem?_getD, hi']
  · have hi' : i < cs.length := by omega
    simp only [List.getD_eq_getElem?_getD, List.getElem?_map, List.getElem?_eq_getElem hi', Option.map_some, Option.getD_some]
    exact fits_lo8 _
end StrChars.Road
namespace StrChars.Road
open Jvm Sem ClassFile Op Lib Jvm.Stand Jvm.Free Jvm.Free.XT
/-- WHAT COMES BACK, in the writer's own shape -/
def QV (Z : State) (x : Addr) (N : Int32) (bs : List Int32) (h : Heap) (n0 : Nat) (v : Option Value) (h' : Heap) (L : List Loc) : Prop := v = none ∧ RoadKit.Fr n0 L ∧ RoadKit.Keep h h' [x] ∧ RoadKit.Exa Z h' x ST ∧ RoadKit.Fld Z h' x ST "coder" "B" (.int 0) ∧
  ∃ (t : Addr) (kb : ClassId), n0 ≤ t ∧ h.size ≤ t ∧ ¬ t = x ∧ RoadKit.Fld Z h' x ST "value" "[B" (.ref t) ∧ RoadKit.Arv Z h' t kb .byte N (bs.map Value.int) (.int 0)
/-- **new String(chars) AT A CALL, FOR THE WRITER**: a char[] of n known ints, each 0 to 255 -/
theorem backV {p : Program} {l : Launch} {e : Env} {R : Room} {s : State} {args : Array Value} {below : List Frame} {len W : Nat} {Z : State} {a0 : Array Value} {h : Heap} (hZ : Z.Warmed39 s.vm) (hw : ∀ d ∈ words, d.before a0 Z = true) {kI : Nat} (wi : (Jvm.Cond.instantiable ST kI).before a0 Z = true)
    {x b : Addr} {kC : ClassId} {cs bs : List Int32} {d v0 c0 : Value} {z N : Int32} {n n0 : Nat} (hx0 : n0 ≤ x) (hh0 : n0 ≤ h.size) (E : RoadKit.Exa Z h x ST) (V : RoadKit.Fld Z h x ST "value" "[B" v0) (C : RoadKit.Fld Z h x ST "coder" "B" c0) (K : RoadKit.Arv Z h b kC .char N (cs.map Value.int) d) (S : RoadKit.Sta Z h ST "COMPACT_STRINGS" "Z" (.int z)) (hz : ¬ z = 0)
    (hn : cs.length = n) (hN : N = Int32.ofNat n) (l0 : 0 < n) (l2 : n ≤ 4000) (hp : ∀ c ∈ cs, ¬ c < 0 ∧ ¬ (255 : Int32) < c) (hb : bs = cs.map (fun c => c.toInt8.toInt32)) (hfr : 4 ≤ R.frames) (hlo : W + 65 ≤ R.locals) :
    Back l R p e below s args (⟨"java/lang/String", "<init>", "([C)V"⟩ : MethodName) len W (fun P a => a = #[.ref x, .ref b] ∧ P.U.heap = h ∧ P.cells + 1 ≤ R.cells ∧ P.slots + n ≤ R.slots)
      (fun P _ v B => ∃ L, QV Z x N bs h n0 v B.U.heap L ∧ B.locs = P.locs ++ L ∧ B.cells = P.cells + 1 ∧ B.slots = P.slots + n) := by
  subst hn hN hb
  refine Back.mono (backArv hZ hw wi E V C K S hz (n32 (by omega)) l0 (by omega) (fun c hc => (hp c hc).2) hfr hlo) (fun P a hp => hp) (fun P a v B hp hq => ?_)
  obtain ⟨L, ⟨q1, q2, q3, q4, q5, q6, q7, ⟨kb, v1, v2⟩, q9⟩, hl, hc, hs⟩ := hq
  exact ⟨L, ⟨q1, fun y hy => by rw [q2 y hy]; exact hx0, q3, q5, q7, h.size, kb, hh0, Nat.le_refl _, Nat.ne_of_gt E.lt, q6, by rw [List.map_map]; exact v2⟩, hl, hc, hs⟩
end StrChars.Road
namespace StrChars
open Jvm Sem ClassFile Op Lib Jvm.Stand Jvm.Free.XT Jvm.Free.ALB Jvm.Free.JM Jvm.Free
open Jvm.Lib.Cold (StaticIs)
def hi8 (x : Int32) : Int32 := lo8 (x >>> ((8 : Int32) &&& 31))
/-- what StringUTF16.getChar makes of two bytes -/
def pairCh (u v : Int32) : Int32 := (((u &&& 255) <<< ((0 : Int32) &&& 31)) ||| ((v &&& 255) <<< ((8 : Int32) &&& 31))).toUInt32.toUInt16.toUInt32.toInt32
theorem lo8_and (x : Int32) : (lo8 x &&& 255).toBitVec.toNat = x.toBitVec.toNat % 256 := by
  have h : (lo8 x).toBitVec = (x.toBitVec.signExtend 8).signExtend 32 := by rw [lo8, Int8.toBitVec_toInt32, Int32.toBitVec_toInt8]
  rw [Int32.toBitVec_and, BitVec.toNat_and, h]
  have e : ((x.toBitVec.signExtend 8).signExtend 32).toNat % 256 = x.toBitVec.toNat % 256 := by
    rw [BitVec.toNat_signExtend]
    have hlt := x.toBitVec.isLt
    simp only [BitVec.toNat_setWidth, BitVec.toNat_signExtend]
    split <;> split <;> omega
  rw [← e]
  exact Nat.and_two_pow_sub_one_eq_mod _ 8
theorem pair_says {c : Int32} (h0 : ¬ c < 0) (h1 : ¬ 65535 < c) : pairCh (lo8 c) (hi8 c) = c := by
  rw [Int32.lt_iff_toInt_lt] at h0 h1
  have e0 : (0 : Int32).toInt = 0 := rfl
  have e1 : (65535 : Int32).toInt = 65535 := rfl
  have hc : c.toInt = c.toBitVec.toNat := by
    have := c.toBitVec.isLt
    have e : c.toInt = c.toBitVec.toInt := rfl
    rw [e] at h0 h1
    rw [e]
    rw [BitVec.toInt_eq_toNat_cond] at h0 h1 ⊢
    split at h0 <;> split <;> omega
  have hn : c.toBitVec.toNat < 65536 := by omega
  have a1 := lo8_and c
  have a2 : (hi8 c &&& 255).toBitVec.toNat = c.toBitVec.toNat / 256 := by
    rw [hi8, lo8_and]
    have e : ((8 : Int32) &&& 31) = 8 := by decide
    rw [e, Int32.toBitVec_shiftRight]
    have e2 : ((8 : Int32).toBitVec.smod 32) = 8#32 := by decide
    rw [e2, BitVec.sshiftRight_eq', BitVec.toNat_sshiftRight_of_msb_false (by rw [BitVec.msb_eq_false_iff_two_mul_lt]; omega)]
    show c.toBitVec.toNat >>> 8 % 256 = _
    rw [Nat.shiftRight_eq_div_pow]
    omega
  unfold pairCh
  apply Int32.toBitVec_inj.mp
  apply BitVec.eq_of_toNat_eq
  have f0 : ((0 : Int32) &&& 31) = 0 := by decide
  have f8 : ((8 : Int32) &&& 31) = 8 := by decide
  rw [f0, f8]
  have g : (((lo8 c &&& 255) <<< (0 : Int32)) ||| ((hi8 c &&& 255) <<< (8 : Int32))).toBitVec.toNat = c.toBitVec.toNat := by
    rw [Int32.toBitVec_or, Int32.toBitVec_shiftLeft, Int32.toBitVec_shiftLeft]
    have s0 : ((0 : Int32).toBitVec.smod 32) = 0#32 := by decide
    have s8 : ((8 : Int32).toBitVec.smod 32) = 8#32 := by decide
    rw [s0, s8, BitVec.toNat_or]
    simp only [BitVec.shiftLeft_eq', BitVec.toNat_shiftLeft, a1, a2]
    show (c.toBitVec.toNat % 256) <<< 0 % 2 ^ 32 ||| (c.toBitVec.toNat / 256) <<< 8 % 2 ^ 32 = _
    rw [Nat.shiftLeft_zero, Nat.mod_eq_of_lt (show c.toBitVec.toNat % 256 < 2 ^ 32 by omega), Nat.mod_eq_of_lt (show (c.toBitVec.toNat / 256) <<< 8 < 2 ^ 32 by rw [Nat.shiftLeft_eq]; omega), Nat.or_comm, ← Nat.shiftLeft_add_eq_or_of_lt (by omega), Nat.shiftLeft_eq]
    omega
  show BitVec.toNat (((((lo8 c &&& 255) <<< (0 : Int32)) ||| ((hi8 c &&& 255) <<< (8 : Int32))).toBitVec.setWidth 16).setWidth 32) = _
  rw [BitVec.toNat_setWidth, BitVec.toNat_setWidth, g]
  omega
end StrChars
namespace StrChars
open Jvm Sem ClassFile Op Lib Jvm.Stand Jvm.Free.XT Jvm.Free.ALB Jvm.Free.JM Jvm.Free
open Jvm.Lib.Cold (StaticIs)
/-- charAt's cast of a byte read back -/
def chr8 (u : Int32) : Int32 := (u &&& 255).toUInt32.toUInt16.toUInt32.toInt32
theorem chr8_lo8 {c : Int32} (h0 : ¬ c < 0) (h1 : ¬ 255 < c) : chr8 (lo8 c) = c := by
  have t : ∀ k : Fin 256, (Int32.ofNat k.val).toUInt32.toUInt16.toUInt32.toInt32 = Int32.ofNat k.val := by decide +kernel
  unfold chr8
  rw [lo8_mask h0 h1]
  rw [Int32.lt_iff_toInt_lt] at h0 h1
  have e0 : (0 : Int32).toInt = 0 := rfl
  have e1 : (255 : Int32).toInt = 255 := rfl
  obtain ⟨k, hk⟩ : ∃ k : Nat, c.toInt = k := ⟨c.toInt.toNat, by omega⟩
  have hx : c = Int32.ofNat k := Int32.toInt_inj.mp (by rw [hk, Int32.toInt_ofNat_small (by omega)])
  rw [hx]
  exact t ⟨k, by omega⟩
theorem narrow_ch {c : Int32} (h0 : ¬ c < 0) (h1 : ¬ 65535 < c) : narrow .char (.int c) = .int c := by
  have q : narrow .char (.int (pairCh (lo8 c) (hi8 c))) = .int (pairCh (lo8 c) (hi8 c)) := narrow_c _
  rwa [pair_says h0 h1] at q
/-- the array's cell V codes the n chars f 0 .. f (n - 1) by the coder cd, as the JDK does: coder 1 just where some char is above 255 -/
def Cod (cd : Int32) (n : Nat) (f : Nat → Int32) (V : Cell) : Prop := (cd = 0 ∧ V.slots.size = n ∧ ∀ j, j < n → V.slots[j]? = some (.int (lo8 (f j))) ∧ ¬ 255 < f j) ∨ (cd = 1 ∧ V.slots.size = 2 * n ∧ (∀ j, j < n → V.slots[2 * j]? = some (.int (lo8 (f j))) ∧ V.slots[2 * j + 1]? = some (.int (hi8 (f j)))) ∧ ∃ j, j < n ∧ 255 < f j)
theorem Cod.cd {cd : Int32} {n : Nat} {f : Nat → Int32} {V : Cell} (h : Cod cd n f V) : cd = 0 ∨ cd = 1 := h.imp (fun q => q.1) fun q => q.1
/-- **x is a String of the n chars f 0 .. f (n - 1)**, Latin-1 or UTF-16; its array at t has the cell V -/
def Txt (x t : Addr) (V : Cell) (cd : Int32) (n : Nat) (f : Nat → Int32) (U : State) : Prop := Exact "java/lang/String" x U ∧ Has x "java/lang/String" "value" "[B" (.ref t) U ∧ Has x "java/lang/String" "coder" "B" (.int cd) U ∧ XT.Arr .byte t V U ∧ Cod cd n f V ∧ ∀ j, j < n → ¬ f j < 0 ∧ ¬ 65535 < f j
theorem Txt.mv {x t : Addr} {V : Cell} {cd : Int32} {n : Nat} {f : Nat → Int32} {U U' : State} (h : Txt x t V cd n f U) (hal : U.vm.Alike U'.vm) (hh : U'.heap = U.heap) : Txt x t V cd n f U' := ⟨h.1.mv hal hh, h.2.1.mv hal hh, h.2.2.1.mv hal hh, h.2.2.2.1.mv hal hh, h.2.2.2.2⟩
namespace IsL
def yN : MethodName := ⟨"java/lang/String", "isLatin1", "()Z"⟩
abbrev yB : ByteArray := jdk_42_method_154_code
theorem d0 : decode yB 0 = .ok (.getstatic 38, 3) := by decide +kernel
theorem d3 : decode yB 3 = .ok (.ifCond (.eq) 14, 3) := by decide +kernel
theorem d6 : decode yB 6 = .ok (.aload_n 0, 1) := by decide +kernel
theorem d7 : decode yB 7 = .ok (.getfield 15, 3) := by decide +kernel
theorem d10 : decode yB 10 = .ok (.ifCond (.ne) 7, 3) := by decide +kernel
theorem d13 : decode yB 13 = .ok (.iconst 1, 1) := by decide +kernel
theorem d14 : decode yB 14 = .ok (.goto 4, 3) := by decide +kernel
theorem d17 : decode yB 17 = .ok (.iconst 0, 1) := by decide +kernel
theorem d18 : decode yB 18 = .ok (.ireturn, 1) := by decide +kernel
def site : List Cond := [.fieldLink "java/lang/String" 38 "java/lang/String" "COMPACT_STRINGS" "Z", .fieldLink "java/lang/String" 15 "java/lang/String" "coder" "B"]
def tab : Cond := tabOf yN yB 1 (some .boolean) site
def P (x : Addr) (cd z : Int32) (args : Array Value) (s : State) : Prop := args = #[.ref x] ∧ Has x "java/lang/String" "coder" "B" (.int cd) s ∧ (cd = 0 ∨ cd = 1) ∧ StaticIs s "java/lang/String" "COMPACT_STRINGS" "Z" (.int z) ∧ ¬ z = 0
def E (cd : Int32) (r : Option Value) (s u : State) : Prop := XT.PureE (some (.int (1 - cd))) r s u
theorem law (l : Launch) (x : Addr) (cd z : Int32) : Law l yN 1 0 0 0 yB 1 (some .boolean) site (P x cd z) (E cd) [] 0 0 := by
  refine Law.of_walk (plainFor_of_name (by decide +kernel)) (by decide +kernel) (by decide +kernel) (by decide) (fun _ _ h => by rw [h.1]; rfl) (fun _ U U' hal hh h => ⟨h.1, h.2.1.mv hal hh, h.2.2.1, h.2.2.2.1.there hal hh, h.2.2.2.2⟩) (fun r U U' V V' h1 hal h2 h => XT.PureE.mv r U U' V V' h1 hal h2 h) ?_
  intro p e s m args below meth c s₁ X0 hexec hbytes hml hret hlk hnm hown hh0 W hP
  obtain ⟨rfl, hx, hc, s1, hz⟩ := hP
  have c1 : Steps p.tables e below (s₁.setTop (entryFrame m #[.ref x] 1)) (s₁.setTop (mkF m 0 #[.val (.ref x)] [])) := entry rfl
  obtain ⟨T2, X2, q2, st2⟩ := X0.sget hexec hown (wk W (.fieldLink "java/lang/String" 38 "java/lang/String" "COMPACT_STRINGS" "Z")) s1 (fun _ _ h => by rw [hh0]; exact h) (g := (mkF m 0 #[.val (.ref x)] [])) rfl (hb hbytes d0)
  have hh2 := q2.trans hh0
  have c3 : Steps p.tables e below (s₁.setTop (entryFrame m #[.ref x] 1)) (T2.setTop (mkF m 7 #[.val (.ref x)] [.ref x])) := (c1.trans (st2 _ (Steps.refl _))).trans (by
    refine XS.ifNo X2.here hexec rfl (hb hbytes d3) rfl (i0_eq_f hz) ?_
    refine XS.aloadN X2.here hexec rfl (hb hbytes d6) rfl rfl ?_
    exact Steps.refl _)
  obtain ⟨T4, X4, q4, st4⟩ := X2.hget hexec hown (wk W (.fieldLink "java/lang/String" 15 "java/lang/String" "coder" "B")) (hx.mv X2.warmed.alike hh2) (g := (mkF m 7 #[.val (.ref x)] [.ref x])) rfl (rest := []) rfl (hb hbytes d7)
  have c5 : Steps p.tables e below (s₁.setTop (entryFrame m #[.ref x] 1)) (T4.setTop (mkF m 10 #[.val (.ref x)] [.int cd])) := c3.trans (st4 _ (Steps.refl _))
  have c6 : Steps p.tables e below (s₁.setTop (entryFrame m #[.ref x] 1)) (T4.setTop (mkF m 18 #[.val (.ref x)] [.int (1 - cd)])) := by
    rcases hc with rfl | rfl
    · exact c5.trans (by
        refine XS.ifNo X4.here hexec rfl (hb hbytes d10) rfl (i0_ne_f rfl) ?_
        refine iconstV X4.here hexec rfl 1 (hb hbytes d13) (by decide) ?_
        refine XS.goto X4.here hexec rfl (pc0 := 14) rfl (hb hbytes d14) (by decide) rfl ?_
        exact Steps.refl _)
    · exact c5.trans (by
        refine XS.ifYes X4.here hexec rfl (pc0 := 10) rfl (hb hbytes d10) rfl (i0_ne_t (by decide)) (by decide) rfl ?_
        refine iconstV X4.here hexec rfl 0 (hb hbytes d17) (by decide) ?_
        exact Steps.refl _)
  exact ⟨T4, some (.int (1 - cd)), _, _, _, X4, rfl, rfl, rfl, (fun h => by cases h), ⟨rfl, q4.trans hh2⟩, fun fs hl => c6.trans (X4.ireturnOut hexec hret (by rcases hc with rfl | rfl <;> rfl) (Or.inr (Or.inl rfl)) (hb hbytes d18) hl)⟩
end IsL
namespace LChA
def yN : MethodName := ⟨"java/lang/StringLatin1", "charAt", "([BI)C"⟩
abbrev yB : ByteArray := jdk_43_method_2_code
theorem d0 : decode yB 0 = .ok (.iload_n 1, 1) := by decide +kernel
theorem d1 : decode yB 1 = .ok (.aload_n 0, 1) := by decide +kernel
theorem d2 : decode yB 2 = .ok (.arraylength, 1) := by decide +kernel
theorem d3 : decode yB 3 = .ok (.invokestatic 9, 3) := by decide +kernel
theorem d6 : decode yB 6 = .ok (.aload_n 0, 1) := by decide +kernel
theorem d7 : decode yB 7 = .ok (.iload_n 1, 1) := by decide +kernel
theorem d8 : decode yB 8 = .ok (.baload, 1) := by decide +kernel
theorem d9 : decode yB 9 = .ok (.sipush 255, 3) := by decide +kernel
theorem d12 : decode yB 12 = .ok (.iand, 1) := by decide +kernel
theorem d13 : decode yB 13 = .ok (.i2c, 1) := by decide +kernel
theorem d14 : decode yB 14 = .ok (.ireturn, 1) := by decide +kernel
def site : List Cond := [JO.Str_checkIndex.tab] ++ staticW "java/lang/StringLatin1" 9 JO.Str_checkIndex.yN
def tab : Cond := tabOf yN yB 2 (some .char) site
def P (t : Addr) (V : Cell) (i : Nat) (u : Int32) (fm : Value) (args : Array Value) (s : State) : Prop := args = #[.ref t, .int (Int32.ofNat i)] ∧ XT.Arr .byte t V s ∧ V.slots[i]? = some (.int u) ∧ (StaticIs s "jdk/internal/util/Preconditions" "SIOOBE_FORMATTER" "Ljava/util/function/BiFunction;" fm ∧ fm.isRef = true)
def E (u : Int32) (r : Option Value) (s w : State) : Prop := XT.PureE (some (.int (chr8 u))) r s w
theorem law (l : Launch) (t : Addr) (V : Cell) (i : Nat) (u : Int32) (fm : Value) : Law l yN 2 2 2 27 yB 2 (some .char) site (P t V i u fm) (E u) [] 0 0 := by
  refine Law.of_walk (plainFor_of_name (by decide +kernel)) (by decide +kernel) (by decide +kernel) (by decide) (fun _ _ h => by rw [h.1]; rfl) (fun _ U U' hal hh h => ⟨h.1, h.2.1.mv hal hh, h.2.2.1, h.2.2.2.1.there hal hh, h.2.2.2.2⟩) (fun r U U' V V' h1 hal h2 h => XT.PureE.mv r U U' V V' h1 hal h2 h) ?_
  intro p e s m args below meth c s₁ X0 hexec hbytes hml hret hlk hnm hown hh0 W hP
  obtain ⟨rfl, hV, hu, s1, rf⟩ := hP
  have v31 := hV.2.2.2
  have hi : i < V.slots.size := (Array.getElem?_eq_some_iff.mp hu).1
  have c1 : Steps p.tables e below (s₁.setTop (entryFrame m #[.ref t, .int (Int32.ofNat i)] 2)) (s₁.setTop (mkF m 0 #[.val (.ref t), .val (.int (Int32.ofNat i))] [])) := entry rfl
  have c2 : Steps p.tables e below (s₁.setTop (entryFrame m #[.ref t, .int (Int32.ofNat i)] 2)) (s₁.setTop (mkF m 3 #[.val (.ref t), .val (.int (Int32.ofNat i))] [.int (Int32.ofNat V.slots.size), .int (Int32.ofNat i)])) := c1.trans (by
    refine XS.iloadN X0.here hexec rfl (hb hbytes d0) rfl ?_
    refine XS.aloadN X0.here hexec rfl (hb hbytes d1) rfl rfl ?_
    refine X0.alen hexec (hV.mv X0.warmed.alike hh0) rfl rfl (hb hbytes d2) ?_
    exact Steps.refl _)
  obtain ⟨v3, T3, X3, E3, g3⟩ := X0.callS hexec (JO.Str_checkIndex.law l (Int32.ofNat i) (Int32.ofNat V.slots.size) fm) hown (wks W (staticW "java/lang/StringLatin1" 9 JO.Str_checkIndex.yN)) (wk W JO.Str_checkIndex.tab) (W := 0) (Nat.le_of_ble_eq_true rfl) (Nat.le_of_ble_eq_true rfl) (Nat.le_refl _) (Nat.le_refl _) (g := (mkF m 3 #[.val (.ref t), .val (.int (Int32.ofNat i))] [.int (Int32.ofNat V.slots.size), .int (Int32.ofNat i)])) rfl (by rw [hml]; rfl) c2 (argsL := [.int (Int32.ofNat i), .int (Int32.ofNat V.slots.size)]) (rest := []) rfl rfl (by show 2 * 0 + 0 ≤ _; decide) (hb hbytes d3) (⟨rfl, rf, s1.there X0.warmed.alike hh0, Int32.ofNat_not_neg (by omega), lt32 v31 hi⟩)
  obtain ⟨rfl, q3⟩ := E3
  have hh3 := q3.trans hh0
  have c4 : Steps p.tables e below (s₁.setTop (entryFrame m #[.ref t, .int (Int32.ofNat i)] 2)) (T3.setTop (mkF m 14 #[.val (.ref t), .val (.int (Int32.ofNat i))] [.int (chr8 u)])) := Steps.trans g3 (by
    refine XS.aloadN X3.here hexec rfl (hb hbytes d6) rfl rfl ?_
    refine XS.iloadN X3.here hexec rfl (hb hbytes d7) rfl ?_
    refine X3.aget hexec (hV.mv X3.warmed.alike hh3) rfl hu rfl rfl (hb hbytes d8) ?_
    refine sipushV X3.here hexec rfl 255 (hb hbytes d9) (by decide) ?_
    refine XS.iand X3.here hexec rfl (hb hbytes d12) rfl ?_
    refine i2c X3.here hexec rfl (hb hbytes d13) rfl ?_
    exact Steps.refl _)
  exact ⟨T3, some (.int (chr8 u)), _, _, _, X3, rfl, rfl, rfl, (fun h => by cases h), ⟨rfl, hh3⟩, fun fs hl => c4.trans (X3.ireturnOut hexec hret (narrow_c _) (Or.inr (Or.inr (Or.inr (Or.inl rfl)))) (hb hbytes d14) hl)⟩
end LChA
end StrChars
namespace StrChars.Road
open Jvm Sem ClassFile Op Lib Jvm.Stand Jvm.Free Jvm.Free.XT
open Jvm.Lib.Cold (StaticIs)
theorem consq {a : Array Value} {s : State} {c : Jvm.Cond} {L : List Jvm.Cond} (h0 : c.before a s = true) (h : ∀ w ∈ L, w.before a s = true) : ∀ w ∈ c :: L, w.before a s = true := fun w hw => (List.mem_cons.mp hw).elim (fun e => e ▸ h0) (h w)
/-- the bytes of the chars cs, low before high -/
def wideBytes : List Int32 → List Value
  | [] => []
  | c :: cs => .int (lo8 c) :: .int (hi8 c) :: wideBytes cs
theorem wide_lo (d : Value) : ∀ (cs : List Int32) (j : Nat), j < cs.length → (wideBytes cs).getD (2 * j) d = .int (lo8 (cs.getD j 0))
  | [], j, h => absurd h (Nat.not_lt_zero j)
  | c :: cs, 0, _ => rfl
  | c :: cs, j + 1, h => by
    have q := wide_lo d cs j (by simpa using h)
    rw [show 2 * (j + 1) = 2 * j + 1 + 1 from by omega]
    simpa [wideBytes] using q
theorem wide_hi (d : Value) : ∀ (cs : List Int32) (j : Nat), j < cs.length → (wideBytes cs).getD (2 * j + 1) d = .int (hi8 (cs.getD j 0))
  | [], j, h => absurd h (Nat.not_lt_zero j)
  | c :: cs, 0, _ => rfl
  | c :: cs, j + 1, h => by
    have q := wide_hi d cs j (by simpa using h)
    rw [show 2 * (j + 1) + 1 = 2 * j + 1 + 1 + 1 from by omega]
    simpa [wideBytes] using q
theorem low_at (d : Value) (cs : List Int32) (j : Nat) (h : j < cs.length) : (cs.map fun c => Value.int (lo8 c)).getD j d = .int (lo8 (cs.getD j 0)) := by
  simp [List.getD_eq_getElem?_getD, h]
/-- an array of N2 bytes vs codes the chars cs by the coder cd -/
def CodA (cs : List Int32) (cd N2 : Int32) (vs : List Value) : Prop := (cd = 0 ∧ N2 = Int32.ofNat cs.length ∧ vs = (cs.map fun c => Value.int (lo8 c)) ∧ ∀ c ∈ cs, ¬ 255 < c) ∨ (cd = 1 ∧ N2 = Int32.ofNat (2 * cs.length) ∧ vs = wideBytes cs ∧ ∃ c ∈ cs, 255 < c)
theorem CodA.cod {cs : List Int32} {cd N2 : Int32} {vs : List Value} {V : Cell} (h : CodA cs cd N2 vs) (hn : 2 * cs.length < 2 ^ 31) (hs : V.slots.size = N2.toNatClampNeg) (hv : RoadKit.Has V vs (.int 0)) : Cod cd cs.length (fun j => cs.getD j 0) V := by
  rcases h with ⟨rfl, rfl, rfl, h⟩ | ⟨rfl, rfl, rfl, c, hc, hw⟩
  · rw [n32 (by omega)] at hs
    exact Or.inl ⟨rfl, hs, fun j hj => ⟨by rw [hv j (by omega), low_at _ _ _ hj], by
      have e : cs.getD j 0 = cs[j] := by simp [List.getD_eq_getElem?_getD, hj]
      show ¬ 255 < cs.getD j 0
      rw [e]; exact h _ (List.getElem_mem _)⟩⟩
  · rw [n32 (by omega)] at hs
    obtain ⟨j, hj, rfl⟩ := List.getElem_of_mem hc
    exact Or.inr ⟨rfl, hs, fun j hj => ⟨by rw [hv _ (by omega), wide_lo _ _ _ hj], by rw [hv _ (by omega), wide_hi _ _ _ hj]⟩, j, hj, by
      have e : cs.getD j 0 = cs[j] := by simp [List.getD_eq_getElem?_getD, hj]
      show 255 < cs.getD j 0
      rw [e]; exact hw⟩
/-- an object of exactly java/lang/String, its two fields found: as the laws ask it -/
theorem strObj {Z U : State} {a0 : Array Value} {kI : Nat} (wi : (Jvm.Cond.instantiable ST kI).before a0 Z = true) (al : Z.vm.Alike U.vm) {x : Addr} {v0 c0 : Value} (E : RoadKit.Exa Z U.heap x ST) (V : RoadKit.Fld Z U.heap x ST "value" "[B" v0) (C : RoadKit.Fld Z U.heap x ST "coder" "B" c0) :
    ∃ (D : Cell) (fV fC : Field), Blank ST x D U ∧ Found ST "value" "[B" fV U ∧ Found ST "coder" "B" fC U ∧ D.slots[fV.slot]? = some v0 ∧ D.slots[fC.slot]? = some c0 ∧ RoadKit.slotOf Z ST "value" "[B" = fV.slot ∧ RoadKit.slotOf Z ST "coder" "B" = fC.slot := by
  obtain ⟨D, cfV, kV, iV, fV, hD, gV, stV, knV, obV, asV, slV⟩ := V
  obtain ⟨D', cfC, kC, iC, fC, hD', gC, stC, -, -, asC, slC⟩ := C
  cases hD.symm.trans hD'
  obtain ⟨D2, kD, e1, e2, e3, e4, e5⟩ := E
  cases hD.symm.trans e1
  obtain ⟨c2, k2, i1, i2, i3, -⟩ := Cond.instantiable_spec wi
  cases e2.symm.trans i1
  cases e3.symm.trans i2
  obtain ⟨kU, u1, u2⟩ := al.2.2 _ _ e3
  exact ⟨D, fV, fC, ⟨hD, ⟨knV, fun q hq => by rw [hq] at obV; cases obV⟩, by rw [al.findClass]; exact e2, kU, u1, by rw [u2]; exact i3, by rw [u2]; exact e5 i3⟩, ⟨SBG.found_only al ⟨cfV, kV, iV, gV⟩, stV⟩, ⟨SBG.found_only al ⟨cfC, kC, iC, gC⟩, stC⟩, slV, slC, by simp [RoadKit.slotOf, gV], by simp [RoadKit.slotOf, gC]⟩
theorem sta_is {Z U : State} (al : Z.vm.Alike U.vm) {C n d : String} {v : Value} (S : RoadKit.Sta Z U.heap C n d v) : StaticIs U C n d v := by
  obtain ⟨cfS, iS, kS, fS, st, cS, t1, t2, t3, t4, t5, t6, t7⟩ := S
  exact StaticIs.there (s := { Z with heap := U.heap }) ⟨cfS, iS, kS, fS, st, cS, t1, t2, t3, t4, t5, (fun q => by rw [q] at t6; cases t6), t7⟩ al rfl
end StrChars.Road
namespace StrChars
open Jvm Sem ClassFile Op Lib Jvm.Stand Jvm.Free.XT Jvm.Free.ALB Jvm.Free.JM Jvm.Free
open Jvm.Lib.Cold (StaticIs)
/-- what place i of a byte[]'s cell holds -/
def yv (A : Cell) (i : Nat) : Int32 := match A.slots[i]? with | some (.int x) => x | _ => 0
theorem yv_get {a : Addr} {A : Cell} {U : State} (h : XT.Arr .byte a A U) (ht : Typed .byte A) {i : Nat} (hi : i < A.slots.size) : A.slots[i]? = some (.int (yv A i)) := by
  have e := Array.getElem?_eq_getElem hi
  have f := ht i _ e
  unfold yv; rw [e]
  generalize A.slots[i] = v at f
  cases v <;> simp [fits] at f ⊢
/-- the two arrays are equal, place for place -/
def EqC (A B : Cell) : Prop := A.slots.size = B.slots.size ∧ ∀ i, i < A.slots.size → yv A i = yv B i
/-- a boolean that says whether p -/
def Says01 (q : Prop) (r : Option Value) (s u : State) : Prop := ∃ v : Int32, r = some (.int v) ∧ u.heap = s.heap ∧ ((v = 1 ∧ q) ∨ (v = 0 ∧ ¬ q))
theorem Says01.mv {q : Prop} : ∀ r (U U' V V' : State), U'.heap = U.heap → V.vm.Alike V'.vm → V'.heap = V.heap → Says01 q r U V → Says01 q r U' V' :=
  fun r U U' V V' h1 _ h2 ⟨v, a, b, c⟩ => ⟨v, a, by rw [h1, h2]; exact b, c⟩
namespace LEq
def yN : MethodName := ⟨"java/lang/StringLatin1", "equals", "([B[B)Z"⟩
abbrev yB : ByteArray := jdk_43_method_13_code
theorem d0 : decode yB 0 = .ok (.aload_n 0, 1) := by decide +kernel
theorem d1 : decode yB 1 = .ok (.arraylength, 1) := by decide +kernel
theorem d2 : decode yB 2 = .ok (.aload_n 1, 1) := by decide +kernel
theorem d3 : decode yB 3 = .ok (.arraylength, 1) := by decide +kernel
theorem d4 : decode yB 4 = .ok (.if_icmp (.ne) 30, 3) := by decide +kernel
theorem d7 : decode yB 7 = .ok (.iconst 0, 1) := by decide +kernel
theorem d8 : decode yB 8 = .ok (.istore_n 2, 1) := by decide +kernel
theorem d9 : decode yB 9 = .ok (.iload_n 2, 1) := by decide +kernel
theorem d10 : decode yB 10 = .ok (.aload_n 0, 1) := by decide +kernel
theorem d11 : decode yB 11 = .ok (.arraylength, 1) := by decide +kernel
theorem d12 : decode yB 12 = .ok (.if_icmp (.ge) 20, 3) := by decide +kernel
theorem d15 : decode yB 15 = .ok (.aload_n 0, 1) := by decide +kernel
theorem d16 : decode yB 16 = .ok (.iload_n 2, 1) := by decide +kernel
theorem d17 : decode yB 17 = .ok (.baload, 1) := by decide +kernel
theorem d18 : decode yB 18 = .ok (.aload_n 1, 1) := by decide +kernel
theorem d19 : decode yB 19 = .ok (.iload_n 2, 1) := by decide +kernel
theorem d20 : decode yB 20 = .ok (.baload, 1) := by decide +kernel
theorem d21 : decode yB 21 = .ok (.if_icmp (.eq) 5, 3) := by decide +kernel
theorem d24 : decode yB 24 = .ok (.iconst 0, 1) := by decide +kernel
theorem d25 : decode yB 25 = .ok (.ireturn, 1) := by decide +kernel
theorem d26 : decode yB 26 = .ok (.iinc 2 1, 3) := by decide +kernel
theorem d29 : decode yB 29 = .ok (.goto (-20), 3) := by decide +kernel
theorem d32 : decode yB 32 = .ok (.iconst 1, 1) := by decide +kernel
theorem d33 : decode yB 33 = .ok (.ireturn, 1) := by decide +kernel
theorem d34 : decode yB 34 = .ok (.iconst 0, 1) := by decide +kernel
theorem d35 : decode yB 35 = .ok (.ireturn, 1) := by decide +kernel
def site : List Cond := []
def tab : Cond := tabOf yN yB 3 (some .boolean) site
def P (a : Addr) (A : Cell) (b : Addr) (B : Cell) (args : Array Value) (s : State) : Prop := args = #[.ref a, .ref b] ∧ XT.Arr .byte a A s ∧ Typed .byte A ∧ XT.Arr .byte b B s ∧ Typed .byte B
/-- whether two byte[] are equal, place for place -/
theorem law (l : Launch) (a : Addr) (A : Cell) (b : Addr) (B : Cell) : Law l yN 2 2 0 0 yB 3 (some .boolean) site (P a A b B) (Says01 (EqC A B)) [] 0 0 := by
  refine Law.of_walk (plainFor_of_name (by decide +kernel)) (by decide +kernel) (by decide +kernel) (by decide) (fun _ _ h => by rw [h.1]; rfl) (fun _ U U' hal hh h => ⟨h.1, h.2.1.mv hal hh, h.2.2.1, h.2.2.2.1.mv hal hh, h.2.2.2.2⟩) (fun r U U' V V' h1 hal h2 h => Says01.mv r U U' V V' h1 hal h2 h) ?_
  intro p e s m args below meth c s₁ X0 hexec hbytes hml hret hlk hnm hown hh0 W hP
  obtain ⟨rfl, hA, tA, hB, tB⟩ := hP
  have a31 := hA.2.2.2
  have b31 := hB.2.2.2
  have hA0 := hA.mv X0.warmed.alike hh0
  have hB0 := hB.mv X0.warmed.alike hh0
  have c1 : Steps p.tables e below (s₁.setTop (entryFrame m #[.ref a, .ref b] 3)) (s₁.setTop (mkF m 0 #[.val (.ref a), .val (.ref b), .unset] [])) := entry rfl
  have c2 : Steps p.tables e below (s₁.setTop (entryFrame m #[.ref a, .ref b] 3)) (s₁.setTop (mkF m 4 #[.val (.ref a), .val (.ref b), .unset] [.int (Int32.ofNat B.slots.size), .int (Int32.ofNat A.slots.size)])) := c1.trans (by
    refine XS.aloadN X0.here hexec rfl (hb hbytes d0) rfl rfl ?_
    refine X0.alen hexec hA0 rfl rfl (hb hbytes d1) ?_
    refine XS.aloadN X0.here hexec rfl (hb hbytes d2) rfl rfl ?_
    refine X0.alen hexec hB0 rfl rfl (hb hbytes d3) ?_
    exact Steps.refl _)
  by_cases hs : A.slots.size = B.slots.size
  · have c3 : Steps p.tables e below (s₁.setTop (entryFrame m #[.ref a, .ref b] 3)) (s₁.setTop (mkF m 9 #[.val (.ref a), .val (.ref b), .val (.int 0)] [])) := c2.trans (by
      refine XS.icmpNo X0.here hexec rfl (hb hbytes d4) rfl (ii_ne_f (by rw [hs])) ?_
      refine iconstV X0.here hexec rfl 0 (hb hbytes d7) (by decide) ?_
      refine XS.istoreN X0.here hexec rfl (hb hbytes d8) rfl rfl ?_
      exact Steps.refl _)
    have loop : ∀ (r i : Nat), i + r = A.slots.size → (∀ j, j < i → yv A j = yv B j) → Steps p.tables e below (s₁.setTop (entryFrame m #[.ref a, .ref b] 3)) (s₁.setTop (mkF m 9 #[.val (.ref a), .val (.ref b), .val (.int (Int32.ofNat i))] [])) → ∃ (pc : Nat) (Ls : Array Slot) (v : Int32), (pc = 25 ∨ pc = 33) ∧ ((v = 1 ∧ EqC A B) ∨ (v = 0 ∧ ¬ EqC A B)) ∧ Steps p.tables e below (s₁.setTop (entryFrame m #[.ref a, .ref b] 3)) (s₁.setTop (mkF m pc Ls [.int v])) := by
      intro r
      induction r with
      | zero =>
        intro i hi he cl
        exact ⟨33, _, 1, Or.inr rfl, Or.inl ⟨rfl, hs, fun j hj => he j (by omega)⟩, cl.trans (by
          refine XS.iloadN X0.here hexec rfl (hb hbytes d9) rfl ?_
          refine XS.aloadN X0.here hexec rfl (hb hbytes d10) rfl rfl ?_
          refine X0.alen hexec hA0 rfl rfl (hb hbytes d11) ?_
          refine XS.icmpYes X0.here hexec rfl (pc0 := 12) rfl (hb hbytes d12) rfl (ii_ge_t (nlt32 (by omega) (by omega))) (by decide) rfl ?_
          refine iconstV X0.here hexec rfl 1 (hb hbytes d32) (by decide) ?_
          exact Steps.refl _)⟩
      | succ r ih =>
        intro i hi he cl
        have c4 : Steps p.tables e below (s₁.setTop (entryFrame m #[.ref a, .ref b] 3)) (s₁.setTop (mkF m 21 #[.val (.ref a), .val (.ref b), .val (.int (Int32.ofNat i))] [.int (yv B i), .int (yv A i)])) := cl.trans (by
          refine XS.iloadN X0.here hexec rfl (hb hbytes d9) rfl ?_
          refine XS.aloadN X0.here hexec rfl (hb hbytes d10) rfl rfl ?_
          refine X0.alen hexec hA0 rfl rfl (hb hbytes d11) ?_
          refine XS.icmpNo X0.here hexec rfl (hb hbytes d12) rfl (ii_ge_f (lt32 (by omega) (by omega))) ?_
          refine XS.aloadN X0.here hexec rfl (hb hbytes d15) rfl rfl ?_
          refine XS.iloadN X0.here hexec rfl (hb hbytes d16) rfl ?_
          refine X0.aget hexec hA0 rfl (yv_get hA tA (i := i) (by omega)) rfl rfl (hb hbytes d17) ?_
          refine XS.aloadN X0.here hexec rfl (hb hbytes d18) rfl rfl ?_
          refine XS.iloadN X0.here hexec rfl (hb hbytes d19) rfl ?_
          refine X0.aget hexec hB0 rfl (yv_get hB tB (i := i) (by omega)) rfl rfl (hb hbytes d20) ?_
          exact Steps.refl _)
        by_cases hv : yv A i = yv B i
        · have c5 : Steps p.tables e below (s₁.setTop (entryFrame m #[.ref a, .ref b] 3)) (s₁.setTop (mkF m 9 #[.val (.ref a), .val (.ref b), .val (.int (Int32.ofNat i + 1))] [])) := c4.trans (by
            refine XS.icmpYes X0.here hexec rfl (pc0 := 21) rfl (hb hbytes d21) rfl (ii_eq_t hv) (by decide) rfl ?_
            refine iincV X0.here hexec rfl 1 (hb hbytes d26) (by decide) rfl rfl ?_
            refine XS.goto X0.here hexec rfl (pc0 := 29) rfl (hb hbytes d29) (by decide) rfl ?_
            exact Steps.refl _)
          rw [succ32] at c5
          exact ih (i + 1) (by omega) (fun j hj => by
            by_cases e : j = i
            · rw [e]; exact hv
            · exact he j (by omega)) c5
        · exact ⟨25, _, 0, Or.inl rfl, Or.inr ⟨rfl, fun q => hv (q.2 i (by omega))⟩, c4.trans (by
            refine XS.icmpNo X0.here hexec rfl (hb hbytes d21) rfl (ii_eq_f hv) ?_
            refine iconstV X0.here hexec rfl 0 (hb hbytes d24) (by decide) ?_
            exact Steps.refl _)⟩
    obtain ⟨pc, Ls, v, hpc, hv, cz⟩ := loop A.slots.size 0 (by omega) (fun j hj => absurd hj (Nat.not_lt_zero j)) c3
    have nv : narrow .boolean (.int v) = .int v := by rcases hv with ⟨rfl, -⟩ | ⟨rfl, -⟩ <;> rfl
    rcases hpc with rfl | rfl
    · exact ⟨s₁, some (.int v), _, _, _, X0, rfl, rfl, rfl, (fun h => by cases h), ⟨v, rfl, hh0, hv⟩, fun fs hl => cz.trans (X0.ireturnOut hexec hret nv (Or.inr (Or.inl rfl)) (hb hbytes d25) hl)⟩
    · exact ⟨s₁, some (.int v), _, _, _, X0, rfl, rfl, rfl, (fun h => by cases h), ⟨v, rfl, hh0, hv⟩, fun fs hl => cz.trans (X0.ireturnOut hexec hret nv (Or.inr (Or.inl rfl)) (hb hbytes d33) hl)⟩
  · have c3 : Steps p.tables e below (s₁.setTop (entryFrame m #[.ref a, .ref b] 3)) (s₁.setTop (mkF m 35 #[.val (.ref a), .val (.ref b), .unset] [.int 0])) := c2.trans (by
      refine XS.icmpYes X0.here hexec rfl (pc0 := 4) rfl (hb hbytes d4) rfl (ii_ne_t (ne32 a31 b31 hs)) (by decide) rfl ?_
      refine iconstV X0.here hexec rfl 0 (hb hbytes d34) (by decide) ?_
      exact Steps.refl _)
    exact ⟨s₁, some (.int 0), _, _, _, X0, rfl, rfl, rfl, (fun h => by cases h), ⟨0, rfl, hh0, Or.inr ⟨rfl, fun q => hs q.1⟩⟩, fun fs hl => c3.trans (X0.ireturnOut hexec hret rfl (Or.inr (Or.inl rfl)) (hb hbytes d35) hl)⟩
end LEq
theorem Cod.ty {cd : Int32} {n : Nat} {f : Nat → Int32} {V : Cell} (h : Cod cd n f V) : Typed .byte V := fun i v hv => by
  have hi : i < V.slots.size := (Array.getElem?_eq_some_iff.mp hv).1
  rcases h with ⟨-, k1, k2⟩ | ⟨-, k1, k2, -⟩
  · rw [(k2 i (by omega)).1] at hv; cases hv; exact fits_lo8 _
  · rcases Nat.mod_two_eq_zero_or_one i with e | e
    · obtain ⟨j, rfl⟩ : ∃ j, i = 2 * j := ⟨i / 2, by omega⟩
      rw [(k2 j (by omega)).1] at hv; cases hv; exact fits_lo8 _
    · obtain ⟨j, rfl⟩ : ∃ j, i = 2 * j + 1 := ⟨i / 2, by omega⟩
      rw [(k2 j (by omega)).2] at hv; cases hv; exact fits_lo8 _
/-- the same text -/
def SameT (n : Nat) (f : Nat → Int32) (k : Nat) (g : Nat → Int32) : Prop := n = k ∧ ∀ j, j < n → f j = g j
theorem lo8_inj {x y : Int32} (h0 : ¬ x < 0) (h1 : ¬ 255 < x) (k0 : ¬ y < 0) (k1 : ¬ 255 < y) (h : lo8 x = lo8 y) : x = y := by
  rw [← lo8_mask h0 h1, ← lo8_mask k0 k1, h]
/-- arrays coded by one coder are equal just where the texts are -/
theorem Cod.eqv {cd : Int32} {n k : Nat} {f g : Nat → Int32} {V V' : Cell} (h : Cod cd n f V) (h' : Cod cd k g V') (hf : ∀ j, j < n → ¬ f j < 0 ∧ ¬ 65535 < f j) (hg : ∀ j, j < k → ¬ g j < 0 ∧ ¬ 65535 < g j) : EqC V V' ↔ SameT n f k g := by
  have yvv : ∀ {W : Cell} {i : Nat} {x : Int32}, W.slots[i]? = some (.int x) → yv W i = x := fun q => by unfold yv; rw [q]
  rcases h with ⟨rfl, k1, k2⟩ | ⟨rfl, k1, k2, -⟩
  · rcases h' with ⟨-, m1, m2⟩ | ⟨e, -⟩
    · constructor
      · rintro ⟨e1, e2⟩
        refine ⟨by omega, fun j hj => ?_⟩
        have q := e2 j (by omega)
        rw [yvv (k2 j hj).1, yvv (m2 j (by omega)).1] at q
        exact lo8_inj (hf j hj).1 (k2 j hj).2 (hg j (by omega)).1 (m2 j (by omega)).2 q
      · rintro ⟨rfl, e2⟩
        refine ⟨by omega, fun j hj => ?_⟩
        rw [yvv (k2 j (by omega)).1, yvv (m2 j (by omega)).1, e2 j (by omega)]
    · exact absurd e (by decide)
  · rcases h' with ⟨e, -⟩ | ⟨-, m1, m2, -⟩
    · exact absurd e (by decide)
    · constructor
      · rintro ⟨e1, e2⟩
        refine ⟨by omega, fun j hj => ?_⟩
        have q1 := e2 (2 * j) (by omega)
        have q2 := e2 (2 * j + 1) (by omega)
        rw [yvv (k2 j hj).1, yvv (m2 j (by omega)).1] at q1
        rw [yvv (k2 j hj).2, yvv (m2 j (by omega)).2] at q2
        rw [← pair_says (hf j hj).1 (hf j hj).2, ← pair_says (hg j (by omega)).1 (hg j (by omega)).2, q1, q2]
      · rintro ⟨rfl, e2⟩
        refine ⟨by omega, fun i hi => ?_⟩
        rcases Nat.mod_two_eq_zero_or_one i with e | e
        · obtain ⟨j, rfl⟩ : ∃ j, i = 2 * j := ⟨i / 2, by omega⟩
          rw [yvv (k2 j (by omega)).1, yvv (m2 j (by omega)).1, e2 j (by omega)]
        · obtain ⟨j, rfl⟩ : ∃ j, i = 2 * j + 1 := ⟨i / 2, by omega⟩
          rw [yvv (k2 j (by omega)).2, yvv (m2 j (by omega)).2, e2 j (by omega)]
/-- two codings differ: so do the texts -/
theorem Cod.dif {cd cd' : Int32} {n k : Nat} {f g : Nat → Int32} {V V' : Cell} (h : Cod cd n f V) (h' : Cod cd' k g V') (hne : ¬ cd = cd') : ¬ SameT n f k g := by
  rintro ⟨rfl, e⟩
  rcases h with ⟨rfl, -, k2⟩ | ⟨rfl, -, -, j, hj, hw⟩
  · rcases h' with ⟨rfl, -⟩ | ⟨-, -, -, j, hj, hw⟩
    · exact hne rfl
    · exact (k2 j hj).2 (by rw [e j hj]; exact hw)
  · rcases h' with ⟨-, -, m2⟩ | ⟨rfl, -⟩
    · exact (m2 j hj).2 (by rw [← e j hj]; exact hw)
    · exact hne rfl
/-- an object of exactly C is an instance of C -/
theorem cinst {p : Program} {l : Launch} {e : Env} {R : Room} {s : State} {m : MethodId} {args : Array Value} {below : List Frame} {meth : Method} {c : Code} {T : State} {locs : List Loc} {cells slots : Nat} (X : Stand p l e R s m args below meth c T locs cells slots) (hexec : p.tables.exec = Jvm.exec) {own C : String} {index : Nat} (hown : s.vm.findClass own = some m.cls) (hlink : (Cond.classLink own index C).before args s = true) {a : Addr} (hE : Exact C a T)
    {g : JFrame} (hg : g.method = m) {rest : List Value} (hstack : g.stack = .ref a :: rest) (hdg : decode c.code g.pc = .ok (.instanceof index, 3)) :
    ∃ T', Stand p l e R s m args below meth c T' locs cells slots ∧ T'.heap = T.heap ∧ ∀ target, Steps p.tables e below (T'.setTop { g with pc := g.pc + 3, stack := .int 1 :: rest }) target → Steps p.tables e below (T.setTop g) target := by
  obtain ⟨cB, h1, D, h2, h3, h4⟩ := hE
  have h1' : s.vm.findClass C = some cB := by rw [← X.warmed.alike.findClass]; exact h1
  obtain ⟨vm', X', st⟩ := X.instanceofYes hexec hown hlink h2 h4 h1' (by rw [h3]; exact Jvm.Free.SB.assignable_self _ _) hg hstack hdg
  exact ⟨_, X', rfl, st⟩
theorem cself {p : Program} {l : Launch} {e : Env} {R : Room} {s : State} {m : MethodId} {args : Array Value} {below : List Frame} {meth : Method} {c : Code} {T : State} {locs : List Loc} {cells slots : Nat} (X : Stand p l e R s m args below meth c T locs cells slots) (hexec : p.tables.exec = Jvm.exec) {own C : String} {index : Nat} (hown : s.vm.findClass own = some m.cls) (hlink : (Cond.classLink own index C).before args s = true) {a : Addr} (hE : Exact C a T)
    {g : JFrame} (hg : g.method = m) {rest : List Value} (hstack : g.stack = .ref a :: rest) (hdg : decode c.code g.pc = .ok (.checkcast index, 3)) :
    ∃ T', Stand p l e R s m args below meth c T' locs cells slots ∧ T'.heap = T.heap ∧ ∀ target, Steps p.tables e below (T'.setTop { g with pc := g.pc + 3, stack := .ref a :: rest }) target → Steps p.tables e below (T.setTop g) target := by
  obtain ⟨cB, h1, D, h2, h3, h4⟩ := hE
  have h1' : s.vm.findClass C = some cB := by rw [← X.warmed.alike.findClass]; exact h1
  obtain ⟨vm', X', st⟩ := X.checkcastYes hexec hown hlink h2 h4 h1' (by rw [h3]; exact Jvm.Free.SB.assignable_self _ _) hg hstack hdg
  exact ⟨_, X', rfl, fun t h => st t (by rw [← hstack] at h; exact h)⟩
namespace SEq
def yN : MethodName := ⟨"java/lang/String", "equals", "(Ljava/lang/Object;)Z"⟩
abbrev yB : ByteArray := jdk_42_method_66_code
theorem d0 : decode yB 0 = .ok (.aload_n 0, 1) := by decide +kernel
theorem d1 : decode yB 1 = .ok (.aload_n 1, 1) := by decide +kernel
theorem d2 : decode yB 2 = .ok (.if_acmp (.ne) 5, 3) := by decide +kernel
theorem d5 : decode yB 5 = .ok (.iconst 1, 1) := by decide +kernel
theorem d6 : decode yB 6 = .ok (.ireturn, 1) := by decide +kernel
theorem d7 : decode yB 7 = .ok (.aload_n 1, 1) := by decide +kernel
theorem d8 : decode yB 8 = .ok (.instanceof 10, 3) := by decide +kernel
theorem d11 : decode yB 11 = .ok (.ifCond (.eq) 43, 3) := by decide +kernel
theorem d14 : decode yB 14 = .ok (.aload_n 1, 1) := by decide +kernel
theorem d15 : decode yB 15 = .ok (.checkcast 10, 3) := by decide +kernel
theorem d18 : decode yB 18 = .ok (.astore_n 2, 1) := by decide +kernel
theorem d19 : decode yB 19 = .ok (.getstatic 38, 3) := by decide +kernel
theorem d22 : decode yB 22 = .ok (.ifCond (.eq) 14, 3) := by decide +kernel
theorem d25 : decode yB 25 = .ok (.aload_n 0, 1) := by decide +kernel
theorem d26 : decode yB 26 = .ok (.getfield 15, 3) := by decide +kernel
theorem d29 : decode yB 29 = .ok (.aload_n 2, 1) := by decide +kernel
theorem d30 : decode yB 30 = .ok (.getfield 15, 3) := by decide +kernel
theorem d33 : decode yB 33 = .ok (.if_icmp (.ne) 21, 3) := by decide +kernel
theorem d36 : decode yB 36 = .ok (.aload_n 0, 1) := by decide +kernel
theorem d37 : decode yB 37 = .ok (.getfield 9, 3) := by decide +kernel
theorem d40 : decode yB 40 = .ok (.aload_n 2, 1) := by decide +kernel
theorem d41 : decode yB 41 = .ok (.getfield 9, 3) := by decide +kernel
theorem d44 : decode yB 44 = .ok (.invokestatic 541, 3) := by decide +kernel
theorem d47 : decode yB 47 = .ok (.ifCond (.eq) 7, 3) := by decide +kernel
theorem d50 : decode yB 50 = .ok (.iconst 1, 1) := by decide +kernel
theorem d51 : decode yB 51 = .ok (.goto 4, 3) := by decide +kernel
theorem d54 : decode yB 54 = .ok (.iconst 0, 1) := by decide +kernel
theorem d55 : decode yB 55 = .ok (.ireturn, 1) := by decide +kernel
def site : List Cond := [.classLink "java/lang/String" 10 "java/lang/String", .fieldLink "java/lang/String" 38 "java/lang/String" "COMPACT_STRINGS" "Z", .fieldLink "java/lang/String" 15 "java/lang/String" "coder" "B", .fieldLink "java/lang/String" 9 "java/lang/String" "value" "[B", LEq.tab] ++ staticW "java/lang/String" 541 LEq.yN
def tab : Cond := tabOf yN yB 3 (some .boolean) site
def P (x t : Addr) (V : Cell) (cd : Int32) (n : Nat) (f : Nat → Int32) (y t' : Addr) (V' : Cell) (cd' : Int32) (k : Nat) (g : Nat → Int32) (z : Int32) (args : Array Value) (s : State) : Prop := args = #[.ref x, .ref y] ∧ Txt x t V cd n f s ∧ Txt y t' V' cd' k g s ∧ StaticIs s "java/lang/String" "COMPACT_STRINGS" "Z" (.int z) ∧ ¬ z = 0
/-- equals(Object) of two Strings: whether the texts are the same -/
theorem law (l : Launch) (x t : Addr) (V : Cell) (cd : Int32) (n : Nat) (f : Nat → Int32) (y t' : Addr) (V' : Cell) (cd' : Int32) (k : Nat) (g : Nat → Int32) (z : Int32) : Law l yN 2 1 1 14 yB 3 (some .boolean) site (P x t V cd n f y t' V' cd' k g z) (Says01 (SameT n f k g)) [] 0 0 := by
  refine Law.of_walk (plainFor_of_name (by decide +kernel)) (by decide +kernel) (by decide +kernel) (by decide) (fun _ _ h => by rw [h.1]; rfl) (fun _ U U' hal hh h => ⟨h.1, h.2.1.mv hal hh, h.2.2.1.mv hal hh, h.2.2.2.1.there hal hh, h.2.2.2.2⟩) (fun r U U' V V' h1 hal h2 h => Says01.mv r U U' V V' h1 hal h2 h) ?_
  intro p e s m args below meth c s₁ X0 hexec hbytes hml hret hlk hnm hown hh0 W hP
  obtain ⟨rfl, hx, hy, s1, hz⟩ := hP
  have c1 : Steps p.tables e below (s₁.setTop (entryFrame m #[.ref x, .ref y] 3)) (s₁.setTop (mkF m 2 #[.val (.ref x), .val (.ref y), .unset] [.ref y, .ref x])) := Steps.trans (entry rfl) (by
    show Steps p.tables e below (s₁.setTop (mkF m 0 #[.val (.ref x), .val (.ref y), .unset] [])) _
    refine XS.aloadN X0.here hexec rfl (hb hbytes d0) rfl rfl ?_
    refine XS.aloadN X0.here hexec rfl (hb hbytes d1) rfl rfl ?_
    exact Steps.refl _)
  by_cases hxy : x = y
  · have c2 : Steps p.tables e below (s₁.setTop (entryFrame m #[.ref x, .ref y] 3)) (s₁.setTop (mkF m 6 #[.val (.ref x), .val (.ref y), .unset] [.int 1])) := c1.trans (by
      refine acmpNo X0.here hexec rfl (hb hbytes d2) rfl rfl rfl (by simp [acmp, hxy]) ?_
      refine iconstV X0.here hexec rfl 1 (hb hbytes d5) (by decide) ?_
      exact Steps.refl _)
    subst hxy
    have ec : cd = cd' := by
      obtain ⟨D, fd, a1, a2, a3⟩ := hx.2.2.1
      obtain ⟨D', fd', b1, b2, b3⟩ := hy.2.2.1
      cases a1.symm.trans b1
      obtain ⟨q1, q2, q3, q4⟩ := a2.1
      obtain ⟨r1, r2, r3, r4⟩ := b2.1
      cases q4.symm.trans r4
      cases a3.symm.trans b3; rfl
    have et : t = t' := by
      obtain ⟨D, fd, a1, a2, a3⟩ := hx.2.1
      obtain ⟨D', fd', b1, b2, b3⟩ := hy.2.1
      cases a1.symm.trans b1
      obtain ⟨q1, q2, q3, q4⟩ := a2.1
      obtain ⟨r1, r2, r3, r4⟩ := b2.1
      cases q4.symm.trans r4
      cases a3.symm.trans b3; rfl
    subst ec et
    have ev : V = V' := by cases hx.2.2.2.1.1.symm.trans hy.2.2.2.1.1; rfl
    subst ev
    have hs : SameT n f k g := (Cod.eqv hx.2.2.2.2.1 hy.2.2.2.2.1 hx.2.2.2.2.2 hy.2.2.2.2.2).mp ⟨rfl, fun _ _ => rfl⟩
    exact ⟨s₁, some (.int 1), _, _, _, X0, rfl, rfl, rfl, (fun h => by cases h), ⟨1, rfl, hh0, Or.inl ⟨rfl, hs⟩⟩, fun fs hl => c2.trans (X0.ireturnOut hexec hret rfl (Or.inr (Or.inl rfl)) (hb hbytes d6) hl)⟩
  · have c2 : Steps p.tables e below (s₁.setTop (entryFrame m #[.ref x, .ref y] 3)) (s₁.setTop (mkF m 8 #[.val (.ref x), .val (.ref y), .unset] [.ref y])) := c1.trans (by
      refine acmpYes X0.here hexec rfl (pc0 := 2) rfl (hb hbytes d2) rfl rfl rfl (by simp [acmp, hxy]) (by decide) rfl ?_
      refine XS.aloadN X0.here hexec rfl (hb hbytes d7) rfl rfl ?_
      exact Steps.refl _)
    obtain ⟨T3, X3, q3, st3⟩ := cinst X0 hexec hown (wk W (.classLink "java/lang/String" 10 "java/lang/String")) (hy.mv X0.warmed.alike hh0).1 (g := (mkF m 8 #[.val (.ref x), .val (.ref y), .unset] [.ref y])) rfl (rest := []) rfl (hb hbytes d8)
    have hh3 := q3.trans hh0
    have c4 : Steps p.tables e below (s₁.setTop (entryFrame m #[.ref x, .ref y] 3)) (T3.setTop (mkF m 15 #[.val (.ref x), .val (.ref y), .unset] [.ref y])) := (c2.trans (st3 _ (Steps.refl _))).trans (by
      refine XS.ifNo X3.here hexec rfl (hb hbytes d11) rfl (i0_eq_f (by decide)) ?_
      refine XS.aloadN X3.here hexec rfl (hb hbytes d14) rfl rfl ?_
      exact Steps.refl _)
    obtain ⟨T5, X5, q5, st5⟩ := cself X3 hexec hown (wk W (.classLink "java/lang/String" 10 "java/lang/String")) (hy.mv X3.warmed.alike hh3).1 (g := (mkF m 15 #[.val (.ref x), .val (.ref y), .unset] [.ref y])) rfl (rest := []) rfl (hb hbytes d15)
    have hh5 := q5.trans hh3
    have c6 : Steps p.tables e below (s₁.setTop (entryFrame m #[.ref x, .ref y] 3)) (T5.setTop (mkF m 19 #[.val (.ref x), .val (.ref y), .val (.ref y)] [])) := (c4.trans (st5 _ (Steps.refl _))).trans (by
      refine XS.astoreN X5.here hexec rfl (hb hbytes d18) rfl rfl rfl ?_
      exact Steps.refl _)
    obtain ⟨T7, X7, q7, st7⟩ := X5.sget hexec hown (wk W (.fieldLink "java/lang/String" 38 "java/lang/String" "COMPACT_STRINGS" "Z")) s1 (fun _ _ h => by rw [hh5]; exact h) (g := (mkF m 19 #[.val (.ref x), .val (.ref y), .val (.ref y)] [])) rfl (hb hbytes d19)
    have hh7 := q7.trans hh5
    have c8 : Steps p.tables e below (s₁.setTop (entryFrame m #[.ref x, .ref y] 3)) (T7.setTop (mkF m 26 #[.val (.ref x), .val (.ref y), .val (.ref y)] [.ref x])) := (c6.trans (st7 _ (Steps.refl _))).trans (by
      refine XS.ifNo X7.here hexec rfl (hb hbytes d22) rfl (i0_eq_f hz) ?_
      refine XS.aloadN X7.here hexec rfl (hb hbytes d25) rfl rfl ?_
      exact Steps.refl _)
    obtain ⟨T9, X9, q9, st9⟩ := X7.hget hexec hown (wk W (.fieldLink "java/lang/String" 15 "java/lang/String" "coder" "B")) (hx.mv X7.warmed.alike hh7).2.2.1 (g := (mkF m 26 #[.val (.ref x), .val (.ref y), .val (.ref y)] [.ref x])) rfl (rest := []) rfl (hb hbytes d26)
    have hh9 := q9.trans hh7
    have c10 : Steps p.tables e below (s₁.setTop (entryFrame m #[.ref x, .ref y] 3)) (T9.setTop (mkF m 30 #[.val (.ref x), .val (.ref y), .val (.ref y)] [.ref y, .int cd])) := (c8.trans (st9 _ (Steps.refl _))).trans (by
      refine XS.aloadN X9.here hexec rfl (hb hbytes d29) rfl rfl ?_
      exact Steps.refl _)
    obtain ⟨T11, X11, q11, st11⟩ := X9.hget hexec hown (wk W (.fieldLink "java/lang/String" 15 "java/lang/String" "coder" "B")) (hy.mv X9.warmed.alike hh9).2.2.1 (g := (mkF m 30 #[.val (.ref x), .val (.ref y), .val (.ref y)] [.ref y, .int cd])) rfl (rest := [.int cd]) rfl (hb hbytes d30)
    have hh11 := q11.trans hh9
    have c12 : Steps p.tables e below (s₁.setTop (entryFrame m #[.ref x, .ref y] 3)) (T11.setTop (mkF m 33 #[.val (.ref x), .val (.ref y), .val (.ref y)] [.int cd', .int cd])) := c10.trans (st11 _ (Steps.refl _))
    by_cases hcd : cd = cd'
    · subst hcd
      have c13 : Steps p.tables e below (s₁.setTop (entryFrame m #[.ref x, .ref y] 3)) (T11.setTop (mkF m 37 #[.val (.ref x), .val (.ref y), .val (.ref y)] [.ref x])) := c12.trans (by
        refine XS.icmpNo X11.here hexec rfl (hb hbytes d33) rfl (ii_ne_f rfl) ?_
        refine XS.aloadN X11.here hexec rfl (hb hbytes d36) rfl rfl ?_
        exact Steps.refl _)
      obtain ⟨T14, X14, q14, st14⟩ := X11.hget hexec hown (wk W (.fieldLink "java/lang/String" 9 "java/lang/String" "value" "[B")) (hx.mv X11.warmed.alike hh11).2.1 (g := (mkF m 37 #[.val (.ref x), .val (.ref y), .val (.ref y)] [.ref x])) rfl (rest := []) rfl (hb hbytes d37)
      have hh14 := q14.trans hh11
      have c15 : Steps p.tables e below (s₁.setTop (entryFrame m #[.ref x, .ref y] 3)) (T14.setTop (mkF m 41 #[.val (.ref x), .val (.ref y), .val (.ref y)] [.ref y, .ref t])) := (c13.trans (st14 _ (Steps.refl _))).trans (by
        refine XS.aloadN X14.here hexec rfl (hb hbytes d40) rfl rfl ?_
        exact Steps.refl _)
      obtain ⟨T16, X16, q16, st16⟩ := X14.hget hexec hown (wk W (.fieldLink "java/lang/String" 9 "java/lang/String" "value" "[B")) (hy.mv X14.warmed.alike hh14).2.1 (g := (mkF m 41 #[.val (.ref x), .val (.ref y), .val (.ref y)] [.ref y, .ref t])) rfl (rest := [.ref t]) rfl (hb hbytes d41)
      have hh16 := q16.trans hh14
      have c17 : Steps p.tables e below (s₁.setTop (entryFrame m #[.ref x, .ref y] 3)) (T16.setTop (mkF m 44 #[.val (.ref x), .val (.ref y), .val (.ref y)] [.ref t', .ref t])) := c15.trans (st16 _ (Steps.refl _))
      obtain ⟨v18, T18, X18, E18, g18⟩ := X16.callS hexec (LEq.law l t V t' V') hown (wks W (staticW "java/lang/String" 541 LEq.yN)) (wk W LEq.tab) (W := 0) (Nat.le_of_ble_eq_true rfl) (Nat.le_of_ble_eq_true rfl) (Nat.le_refl _) (Nat.le_refl _) (g := (mkF m 44 #[.val (.ref x), .val (.ref y), .val (.ref y)] [.ref t', .ref t])) rfl (by rw [hml]; rfl) c17 (argsL := [.ref t, .ref t']) (rest := []) rfl rfl (by show 2 * 0 + 0 ≤ _; decide) (hb hbytes d44) (⟨rfl, hx.2.2.2.1.mv X16.warmed.alike hh16, hx.2.2.2.2.1.ty, hy.2.2.2.1.mv X16.warmed.alike hh16, hy.2.2.2.2.1.ty⟩)
      obtain ⟨v, rfl, q18, hv⟩ := E18
      have iff := Cod.eqv hx.2.2.2.2.1 hy.2.2.2.2.1 hx.2.2.2.2.2 hy.2.2.2.2.2
      rcases hv with ⟨rfl, he⟩ | ⟨rfl, he⟩
      · have c19 : Steps p.tables e below (s₁.setTop (entryFrame m #[.ref x, .ref y] 3)) (T18.setTop (mkF m 55 #[.val (.ref x), .val (.ref y), .val (.ref y)] [.int 1])) := Steps.trans g18 (by
          refine XS.ifNo X18.here hexec rfl (hb hbytes d47) rfl (i0_eq_f (by decide)) ?_
          refine iconstV X18.here hexec rfl 1 (hb hbytes d50) (by decide) ?_
          refine XS.goto X18.here hexec rfl (pc0 := 51) rfl (hb hbytes d51) (by decide) rfl ?_
          exact Steps.refl _)
        exact ⟨T18, some (.int 1), _, _, _, X18, rfl, rfl, rfl, (fun h => by cases h), ⟨1, rfl, q18.trans hh16, Or.inl ⟨rfl, iff.mp he⟩⟩, fun fs hl => c19.trans (X18.ireturnOut hexec hret rfl (Or.inr (Or.inl rfl)) (hb hbytes d55) hl)⟩
      · have c19 : Steps p.tables e below (s₁.setTop (entryFrame m #[.ref x, .ref y] 3)) (T18.setTop (mkF m 55 #[.val (.ref x), .val (.ref y), .val (.ref y)] [.int 0])) := Steps.trans g18 (by
          refine XS.ifYes X18.here hexec rfl (pc0 := 47) rfl (hb hbytes d47) rfl (i0_eq_t rfl) (by decide) rfl ?_
          refine iconstV X18.here hexec rfl 0 (hb hbytes d54) (by decide) ?_
          exact Steps.refl _)
        exact ⟨T18, some (.int 0), _, _, _, X18, rfl, rfl, rfl, (fun h => by cases h), ⟨0, rfl, q18.trans hh16, Or.inr ⟨rfl, fun q => he (iff.mpr q)⟩⟩, fun fs hl => c19.trans (X18.ireturnOut hexec hret rfl (Or.inr (Or.inl rfl)) (hb hbytes d55) hl)⟩
    · have c13 : Steps p.tables e below (s₁.setTop (entryFrame m #[.ref x, .ref y] 3)) (T11.setTop (mkF m 55 #[.val (.ref x), .val (.ref y), .val (.ref y)] [.int 0])) := c12.trans (by
        refine XS.icmpYes X11.here hexec rfl (pc0 := 33) rfl (hb hbytes d33) rfl (ii_ne_t hcd) (by decide) rfl ?_
        refine iconstV X11.here hexec rfl 0 (hb hbytes d54) (by decide) ?_
        exact Steps.refl _)
      exact ⟨T11, some (.int 0), _, _, _, X11, rfl, rfl, rfl, (fun h => by cases h), ⟨0, rfl, hh11, Or.inr ⟨rfl, Cod.dif hx.2.2.2.2.1 hy.2.2.2.2.1 hcd⟩⟩, fun fs hl => c13.trans (X11.ireturnOut hexec hret rfl (Or.inr (Or.inl rfl)) (hb hbytes d55) hl)⟩
theorem pays {l : Launch} {R : Room} {p : Program} {e : Env} {below : List Frame} {s : State} {sargs : Array Value} {len W : Nat} (x t : Addr) (V : Cell) (cd : Int32) (n : Nat) (f : Nat → Int32) (y t' : Addr) (V' : Cell) (cd' : Int32) (k : Nat) (g : Nat → Int32) (z : Int32) (htab : tab.before sargs s = true) (hfr : 2 ≤ R.frames) (hlo : W + 28 ≤ R.locals) :
    Back l R p e below s sargs yN len W (fun A₁ a₁ => A₁.cells + 0 ≤ R.cells ∧ A₁.slots + 0 ≤ R.slots ∧ P x t V cd n f y t' V' cd' k g z a₁ A₁.U) (fun A₁ _ v₁ B₁ => Says01 (SameT n f k g) v₁ A₁.U B₁.U ∧ B₁.locs = A₁.locs ++ [] ∧ B₁.cells = A₁.cells + 0 ∧ B₁.slots = A₁.slots + 0) :=
  (law l x t V cd n f y t' V' cd' k g z).pays htab hfr (by omega)
end SEq
end StrChars
namespace StrChars.Road
open Jvm Sem ClassFile Op Lib Jvm.Stand Jvm.Free Jvm.Free.XT
open Jvm.Lib.Cold (StaticIs)
/-- the words of String.equals(Object) -/
abbrev wordsEq : List Jvm.Cond := [.code SEq.yN SEq.yB 3 (some .boolean), .initialized ST, .classLink ST 10 ST, .fieldLink ST 38 ST "COMPACT_STRINGS" "Z", .fieldLink ST 15 ST "coder" "B", .fieldLink ST 9 ST "value" "[B", .methodLink ST 541 LEq.yN, .static LEq.yN, .code LEq.yN LEq.yB 3 (some .boolean), .initialized "java/lang/StringLatin1"]
theorem tabEq_of {a : Array Value} {s : State} (h : ∀ w ∈ wordsEq, w.before a s = true) : SEq.tab.before a s = true := by
  have hl : LEq.tab.before a s = true := unparts (wk h (.code LEq.yN LEq.yB 3 (some .boolean))) (wks h (.initialized LEq.yN.cls :: LEq.site))
  have q := consq hl h
  exact unparts (wk q (.code SEq.yN SEq.yB 3 (some .boolean))) (wks q (.initialized SEq.yN.cls :: SEq.site))
theorem movedEq {Z s : State} {a0 args : Array Value} (hZ : Z.Warmed39 s.vm) (hw : ∀ d ∈ wordsEq, d.before a0 Z = true) : ∀ d ∈ wordsEq, d.before args s = true := fun d hd => by
  have t : ∀ d ∈ wordsEq, (d.onTables && d.keepsFace) = true := by decide +kernel
  exact RoadKit.mv hZ (hw d hd) (t d hd)
/-- the road's facts of a String, as the laws ask it -/
theorem txt_of {Z U : State} {a0 : Array Value} {kI : Nat} (wi : (Jvm.Cond.instantiable ST kI).before a0 Z = true) (al : Z.vm.Alike U.vm) {x t : Addr} {kb : ClassId} {cs : List Int32} {cd N2 : Int32} {vs : List Value} (E : RoadKit.Exa Z U.heap x ST) (V : RoadKit.Fld Z U.heap x ST "value" "[B" (.ref t)) (C : RoadKit.Fld Z U.heap x ST "coder" "B" (.int cd)) (K : RoadKit.Arv Z U.heap t kb .byte N2 vs (.int 0)) (hc : CodA cs cd N2 vs) (hb : ∀ c ∈ cs, ¬ c < 0 ∧ ¬ (65535 : Int32) < c) (l2 : cs.length ≤ 4000) :
    ∃ A, Txt x t A cd cs.length (fun j => cs.getD j 0) U := by
  obtain ⟨A, K1, K2, K3, K4, K5, K6⟩ := K
  have hcod := hc.cod (by omega) K3 K5
  obtain ⟨D, fV, fC, hB, F1, F2, g1, g2, -, -⟩ := strObj wi al E V C
  exact ⟨A, ⟨_, hB.2.2.1, D, hB.1, rfl, by cases q : D.vm <;> first | rfl | exact absurd q (hB.2.1.2 _)⟩, Has.of hB F1 g1, Has.of hB F2 g2, ⟨K1.1, State.isArrayOf_alike al K1.2.1, K1.2.2, by rcases hcod with ⟨-, q, -⟩ | ⟨-, q, -⟩ <;> omega⟩, hcod, fun j hj => by
    have e : cs.getD j 0 = cs[j] := by simp [List.getD_eq_getElem?_getD, hj]
    show ¬ cs.getD j 0 < 0 ∧ ¬ 65535 < cs.getD j 0
    rw [e]; exact hb _ (List.getElem_mem _)⟩
theorem same_list (cs ds : List Int32) : SameT cs.length (fun j => cs.getD j 0) ds.length (fun j => ds.getD j 0) ↔ cs = ds := by
  constructor
  · rintro ⟨e, q⟩
    refine List.ext_getElem e fun j h1 h2 => ?_
    have := q j h1
    simpa [List.getD_eq_getElem?_getD, h1, h2] using this
  · rintro rfl
    exact ⟨rfl, fun _ _ => rfl⟩
/-- **equals(Object) OF TWO SUCH STRINGS**: 1 just where the chars are the same -/
theorem eqW {p : Program} {l : Launch} {e : Env} {R : Room} {s : State} {args : Array Value} {below : List Frame} {len W : Nat} {Z : State} {a0 : Array Value} {h : Heap} (hZ : Z.Warmed39 s.vm) (hw : ∀ d ∈ wordsEq, d.before a0 Z = true) {kI : Nat} (wi : (Jvm.Cond.instantiable ST kI).before a0 Z = true)
    {x t : Addr} {kb : ClassId} {cs : List Int32} {cd N2 : Int32} {vs : List Value} (E : RoadKit.Exa Z h x ST) (V : RoadKit.Fld Z h x ST "value" "[B" (.ref t)) (C : RoadKit.Fld Z h x ST "coder" "B" (.int cd)) (K : RoadKit.Arv Z h t kb .byte N2 vs (.int 0)) (hc : CodA cs cd N2 vs) (hb : ∀ c ∈ cs, ¬ c < 0 ∧ ¬ (65535 : Int32) < c) (l2 : cs.length ≤ 4000)
    {y t' : Addr} {kb' : ClassId} {ds : List Int32} {cd' N2' : Int32} {vs' : List Value} (E' : RoadKit.Exa Z h y ST) (V' : RoadKit.Fld Z h y ST "value" "[B" (.ref t')) (C' : RoadKit.Fld Z h y ST "coder" "B" (.int cd')) (K' : RoadKit.Arv Z h t' kb' .byte N2' vs' (.int 0)) (hc' : CodA ds cd' N2' vs') (hb' : ∀ c ∈ ds, ¬ c < 0 ∧ ¬ (65535 : Int32) < c) (l2' : ds.length ≤ 4000)
    {z : Int32} (S : RoadKit.Sta Z h ST "COMPACT_STRINGS" "Z" (.int z)) (hz : ¬ z = 0) (hfr : 2 ≤ R.frames) (hlo : W + 28 ≤ R.locals) :
    Back l R p e below s args (⟨"java/lang/String", "equals", "(Ljava/lang/Object;)Z"⟩ : MethodName) len W (fun P a => a = #[.ref x, .ref y] ∧ P.U.heap = h ∧ P.cells + 0 ≤ R.cells ∧ P.slots + 0 ≤ R.slots)
      (fun P _ v B => ∃ L, (((v = some (.int 1) ∧ cs = ds) ∨ (v = some (.int 0) ∧ ¬ cs = ds)) ∧ L = [] ∧ B.U.heap = h) ∧ B.locs = P.locs ++ L ∧ B.cells = P.cells + 0 ∧ B.slots = P.slots + 0) := by
  intro m meth c P g ig mk a X hg hsize hdg hW hn hp'
  obtain ⟨rfl, rfl, r1, r2⟩ := hp'
  have al : Z.vm.Alike P.U.vm := hZ.alike.trans X.warmed.alike
  obtain ⟨A, hx⟩ := txt_of wi al E V C K hc hb l2
  obtain ⟨A', hy⟩ := txt_of wi al E' V' C' K' hc' hb' l2'
  obtain ⟨v, B, X', ⟨⟨w, hv, hh, hq⟩, hl, hk, hs⟩, st⟩ := SEq.pays x t A cd cs.length (fun j => cs.getD j 0) y t' A' cd' ds.length (fun j => ds.getD j 0) z (tabEq_of (movedEq hZ hw)) hfr hlo m meth c P g ig mk _ X hg hsize hdg hW hn ⟨r1, r2, rfl, hx, hy, sta_is al S, hz⟩
  refine ⟨v, B, X', ⟨[], ⟨?_, rfl, hh⟩, hl, hk, hs⟩, st⟩
  rcases hq with ⟨rfl, q⟩ | ⟨rfl, q⟩
  · exact Or.inl ⟨hv, (same_list cs ds).mp q⟩
  · exact Or.inr ⟨hv, fun e => q ((same_list cs ds).mpr e)⟩
end StrChars.Road
namespace StrChars
open Jvm Sem ClassFile Op Lib Jvm.Stand Jvm.Free.XT Jvm.Free.ALB Jvm.Free.JM Jvm.Free
open Jvm.Lib.Cold (StaticIs)
namespace ChN
def yN : MethodName := ⟨"java/lang/String", "charAt", "(I)C"⟩
abbrev yB : ByteArray := jdk_42_method_56_code
theorem d0 : decode yB 0 = .ok (.aload_n 0, 1) := by decide +kernel
theorem d1 : decode yB 1 = .ok (.invokevirtual 492, 3) := by decide +kernel
theorem d4 : decode yB 4 = .ok (.ifCond (.eq) 12, 3) := by decide +kernel
theorem d7 : decode yB 7 = .ok (.aload_n 0, 1) := by decide +kernel
theorem d8 : decode yB 8 = .ok (.getfield 9, 3) := by decide +kernel
theorem d11 : decode yB 11 = .ok (.iload_n 1, 1) := by decide +kernel
theorem d12 : decode yB 12 = .ok (.invokestatic 495, 3) := by decide +kernel
theorem d15 : decode yB 15 = .ok (.ireturn, 1) := by decide +kernel
def site : List Cond := [.fieldLink "java/lang/String" 9 "java/lang/String" "value" "[B", IsL.tab, LChA.tab] ++ virtW "java/lang/String" 492 "java/lang/String" IsL.yN IsL.yN ++ staticW "java/lang/String" 495 LChA.yN
def tab : Cond := tabOf yN yB 2 (some .char) site
def P (x t : Addr) (V : Cell) (n : Nat) (f : Nat → Int32) (z : Int32) (fm : Value) (i : Nat) (args : Array Value) (s : State) : Prop := args = #[.ref x, .int (Int32.ofNat i)] ∧ Txt x t V 0 n f s ∧ i < n ∧ StaticIs s "java/lang/String" "COMPACT_STRINGS" "Z" (.int z) ∧ ¬ z = 0 ∧ StaticIs s "jdk/internal/util/Preconditions" "SIOOBE_FORMATTER" "Ljava/util/function/BiFunction;" fm ∧ fm.isRef = true
def E (f : Nat → Int32) (i : Nat) (r : Option Value) (s u : State) : Prop := XT.PureE (some (.int (f i))) r s u
/-- charAt(i) of a Latin-1 String of n chars, i < n: f i -/
theorem law (l : Launch) (x t : Addr) (V : Cell) (n : Nat) (f : Nat → Int32) (z : Int32) (fm : Value) (i : Nat) : Law l yN 2 1 3 40 yB 2 (some .char) site (P x t V n f z fm i) (E f i) [] 0 0 := by
  refine Law.of_walk (plainFor_of_name (by decide +kernel)) (by decide +kernel) (by decide +kernel) (by decide) (fun _ _ h => by rw [h.1]; rfl) (fun _ U U' hal hh h => ⟨h.1, h.2.1.mv hal hh, h.2.2.1, h.2.2.2.1.there hal hh, h.2.2.2.2.1, h.2.2.2.2.2.1.there hal hh, h.2.2.2.2.2.2⟩) (fun r U U' V V' h1 hal h2 h => XT.PureE.mv r U U' V V' h1 hal h2 h) ?_
  intro p e s m args below meth c s₁ X0 hexec hbytes hml hret hlk hnm hown hh0 W hP
  obtain ⟨rfl, hx, hi, s1, hz, s3, rf⟩ := hP
  have v31 := hx.2.2.2.1.2.2.2
  have hr := hx.2.2.2.2.2 i hi
  have hx0 := hx.mv X0.warmed.alike hh0
  have c1 : Steps p.tables e below (s₁.setTop (entryFrame m #[.ref x, .int (Int32.ofNat i)] 2)) (s₁.setTop (mkF m 1 #[.val (.ref x), .val (.int (Int32.ofNat i))] [.ref x])) := Steps.trans (entry rfl) (by
    show Steps p.tables e below (s₁.setTop (mkF m 0 #[.val (.ref x), .val (.int (Int32.ofNat i))] [])) _
    refine XS.aloadN X0.here hexec rfl (hb hbytes d0) rfl rfl ?_
    exact Steps.refl _)
  obtain ⟨v2, T2, X2, E2, g2⟩ := X0.callV hexec (IsL.law l x 0 z) hown (wks W (virtW "java/lang/String" 492 "java/lang/String" IsL.yN IsL.yN)) rfl (by decide) (wk W IsL.tab) (W := 0) (Nat.le_of_ble_eq_true rfl) (Nat.le_of_ble_eq_true rfl) (Nat.le_refl _) (Nat.le_refl _) (hx0.1.fc X0.warmed.alike) hx0.1.is (g := (mkF m 1 #[.val (.ref x), .val (.int (Int32.ofNat i))] [.ref x])) rfl (by rw [hml]; rfl) c1 (argsL := []) (rest := []) rfl rfl (by show 2 * 0 + 0 ≤ _; decide) (hb hbytes d1) (⟨rfl, hx0.2.2.1, hx.2.2.2.2.1.cd, s1.there X0.warmed.alike hh0, hz⟩)
  obtain ⟨rfl, q2⟩ := E2
  have hh2 := q2.trans hh0
  have hx2 := hx.mv X2.warmed.alike hh2
  obtain ⟨-, k1, k2⟩ | ⟨k0, -⟩ := hx.2.2.2.2.1
  · have c3 : Steps p.tables e below (s₁.setTop (entryFrame m #[.ref x, .int (Int32.ofNat i)] 2)) (T2.setTop (mkF m 8 #[.val (.ref x), .val (.int (Int32.ofNat i))] [.ref x])) := Steps.trans g2 (by
      refine XS.ifNo X2.here hexec rfl (hb hbytes d4) rfl (i0_eq_f (by decide)) ?_
      refine XS.aloadN X2.here hexec rfl (hb hbytes d7) rfl rfl ?_
      exact Steps.refl _)
    obtain ⟨T4, X4, q4, st4⟩ := X2.hget hexec hown (wk W (.fieldLink "java/lang/String" 9 "java/lang/String" "value" "[B")) hx2.2.1 (g := (mkF m 8 #[.val (.ref x), .val (.int (Int32.ofNat i))] [.ref x])) rfl (rest := []) rfl (hb hbytes d8)
    have hh4 := q4.trans hh2
    have c5 : Steps p.tables e below (s₁.setTop (entryFrame m #[.ref x, .int (Int32.ofNat i)] 2)) (T4.setTop (mkF m 12 #[.val (.ref x), .val (.int (Int32.ofNat i))] [.int (Int32.ofNat i), .ref t])) := (c3.trans (st4 _ (Steps.refl _))).trans (by
      refine XS.iloadN X4.here hexec rfl (hb hbytes d11) rfl ?_
      exact Steps.refl _)
    obtain ⟨v6, T6, X6, E6, g6⟩ := X4.callS hexec (LChA.law l t V i (lo8 (f i)) fm) hown (wks W (staticW "java/lang/String" 495 LChA.yN)) (wk W LChA.tab) (W := 0) (Nat.le_of_ble_eq_true rfl) (Nat.le_of_ble_eq_true rfl) (Nat.le_refl _) (Nat.le_refl _) (g := (mkF m 12 #[.val (.ref x), .val (.int (Int32.ofNat i))] [.int (Int32.ofNat i), .ref t])) rfl (by rw [hml]; rfl) c5 (argsL := [.ref t, .int (Int32.ofNat i)]) (rest := []) rfl rfl (by show 2 * 0 + 0 ≤ _; decide) (hb hbytes d12) (⟨rfl, hx.2.2.2.1.mv X4.warmed.alike hh4, (k2 i hi).1, s3.there X4.warmed.alike hh4, rf⟩)
    obtain ⟨rfl, q6⟩ := E6
    rw [chr8_lo8 hr.1 (k2 i hi).2] at g6
    exact ⟨T6, some (.int (f i)), _, _, _, X6, rfl, rfl, rfl, (fun h => by cases h), ⟨rfl, q6.trans hh4⟩, fun fs hl => Steps.trans g6 (X6.ireturnOut hexec hret (narrow_ch hr.1 hr.2) (Or.inr (Or.inr (Or.inr (Or.inl rfl)))) (hb hbytes d15) hl)⟩
  · exact absurd k0 (by decide)
theorem pays {l : Launch} {R : Room} {p : Program} {e : Env} {below : List Frame} {s : State} {sargs : Array Value} {len W : Nat} (x t : Addr) (V : Cell) (n : Nat) (f : Nat → Int32) (z : Int32) (fm : Value) (i : Nat) (htab : tab.before sargs s = true) (hfr : 4 ≤ R.frames) (hlo : W + 53 ≤ R.locals) :
    Back l R p e below s sargs yN len W (fun A₁ a₁ => A₁.cells + 0 ≤ R.cells ∧ A₁.slots + 0 ≤ R.slots ∧ P x t V n f z fm i a₁ A₁.U) (fun A₁ _ v₁ B₁ => E f i v₁ A₁.U B₁.U ∧ B₁.locs = A₁.locs ++ [] ∧ B₁.cells = A₁.cells + 0 ∧ B₁.slots = A₁.slots + 0) :=
  (law l x t V n f z fm i).pays htab hfr (by omega)
end ChN
end StrChars
namespace StrChars.Road
open Jvm Sem ClassFile Op Lib Jvm.Stand Jvm.Free Jvm.Free.XT
open Jvm.Lib.Cold (StaticIs)
/-- the words of String.charAt(int), the Latin-1 road alone -/
abbrev wordsChN : List Jvm.Cond := [.code ChN.yN ChN.yB 2 (some .char), .initialized ST, .fieldLink ST 9 ST "value" "[B", .fieldLink ST 38 ST "COMPACT_STRINGS" "Z", .fieldLink ST 15 ST "coder" "B", .code IsL.yN IsL.yB 1 (some .boolean), .methodLink ST 492 IsL.yN, .declares IsL.yN, .selects ST IsL.yN IsL.yN, .instanceMethod IsL.yN,
  .methodLink ST 495 LChA.yN, .static LChA.yN, .code LChA.yN LChA.yB 2 (some .char), .initialized "java/lang/StringLatin1", .methodLink "java/lang/StringLatin1" 9 JO.Str_checkIndex.yN, .static JO.Str_checkIndex.yN, .code JO.Str_checkIndex.yN JO.Str_checkIndex.yB 2 none,
  .fieldLink ST 1053 "jdk/internal/util/Preconditions" "SIOOBE_FORMATTER" "Ljava/util/function/BiFunction;", .methodLink ST 1059 JC.PreCheck.yN, .static JC.PreCheck.yN, .code JC.PreCheck.yN JC.PreCheck.yB 3 (some .int), .initialized "jdk/internal/util/Preconditions"]
theorem tabChN_of {a : Array Value} {s : State} (h : ∀ w ∈ wordsChN, w.before a s = true) : ChN.tab.before a s = true := by
  have hp : JC.PreCheck.tab.before a s = true := unparts (wk h (.code JC.PreCheck.yN JC.PreCheck.yB 3 (some .int))) (wks h (.initialized JC.PreCheck.yN.cls :: JC.PreCheck.site))
  have qk := consq hp h
  have hk : JO.Str_checkIndex.tab.before a s = true := unparts (wk qk (.code JO.Str_checkIndex.yN JO.Str_checkIndex.yB 2 none)) (wks qk (.initialized JO.Str_checkIndex.yN.cls :: JO.Str_checkIndex.site))
  have ql := consq hk h
  have hl : LChA.tab.before a s = true := unparts (wk ql (.code LChA.yN LChA.yB 2 (some .char))) (wks ql (.initialized LChA.yN.cls :: LChA.site))
  have hi : IsL.tab.before a s = true := unparts (wk h (.code IsL.yN IsL.yB 1 (some .boolean))) (wks h (.initialized IsL.yN.cls :: IsL.site))
  have q := consq hi (consq hl h)
  exact unparts (wk q (.code ChN.yN ChN.yB 2 (some .char))) (wks q (.initialized ChN.yN.cls :: ChN.site))
theorem movedChN {Z s : State} {a0 args : Array Value} (hZ : Z.Warmed39 s.vm) (hw : ∀ d ∈ wordsChN, d.before a0 Z = true) : ∀ d ∈ wordsChN, d.before args s = true := fun d hd => by
  have t : ∀ d ∈ wordsChN, (d.onTables && d.keepsFace) = true := by decide +kernel
  exact RoadKit.mv hZ (hw d hd) (t d hd)
/-- **charAt(i) OF A LATIN-1 STRING**, i < n: the char -/
theorem chN {p : Program} {l : Launch} {e : Env} {R : Room} {s : State} {args : Array Value} {below : List Frame} {len W : Nat} {Z : State} {a0 : Array Value} {h : Heap} (hZ : Z.Warmed39 s.vm) (hw : ∀ d ∈ wordsChN, d.before a0 Z = true) {kI : Nat} (wi : (Jvm.Cond.instantiable ST kI).before a0 Z = true)
    {x t : Addr} {kb : ClassId} {cs : List Int32} {N2 z : Int32} {vs : List Value} {fm : Value} {i : Nat} {j : Int32} (E : RoadKit.Exa Z h x ST) (V : RoadKit.Fld Z h x ST "value" "[B" (.ref t)) (C : RoadKit.Fld Z h x ST "coder" "B" (.int 0)) (K : RoadKit.Arv Z h t kb .byte N2 vs (.int 0)) (hc : CodA cs 0 N2 vs) (hb : ∀ c ∈ cs, ¬ c < 0 ∧ ¬ (65535 : Int32) < c)
    (S : RoadKit.Sta Z h ST "COMPACT_STRINGS" "Z" (.int z)) (hz : ¬ z = 0) (F : RoadKit.Sta Z h "jdk/internal/util/Preconditions" "SIOOBE_FORMATTER" "Ljava/util/function/BiFunction;" fm) (rf : fm.isRef = true) (l2 : cs.length ≤ 4000) (hi : i < cs.length) (hj : j = Int32.ofNat i) (hfr : 4 ≤ R.frames) (hlo : W + 53 ≤ R.locals) :
    Back l R p e below s args (⟨"java/lang/String", "charAt", "(I)C"⟩ : MethodName) len W (fun P a => a = #[.ref x, .int j] ∧ P.U.heap = h ∧ P.cells + 0 ≤ R.cells ∧ P.slots + 0 ≤ R.slots)
      (fun P _ v B => ∃ L, (v = some (.int (cs.getD i 0)) ∧ L = [] ∧ B.U.heap = h) ∧ B.locs = P.locs ++ L ∧ B.cells = P.cells + 0 ∧ B.slots = P.slots + 0) := by
  subst hj
  intro m meth c P g ig mk a X hg hsize hdg hW hn hp'
  obtain ⟨rfl, rfl, r1, r2⟩ := hp'
  have al : Z.vm.Alike P.U.vm := hZ.alike.trans X.warmed.alike
  obtain ⟨A, hx⟩ := txt_of wi al E V C K hc hb l2
  obtain ⟨v, B, X', ⟨⟨hv, hh⟩, hl, hk, hs⟩, st⟩ := ChN.pays x t A cs.length (fun j => cs.getD j 0) z fm i (tabChN_of (movedChN hZ hw)) hfr hlo m meth c P g ig mk _ X hg hsize hdg hW hn ⟨r1, r2, rfl, hx, hi, sta_is al S, hz, sta_is al F, rf⟩
  exact ⟨v, B, X', ⟨[], ⟨hv, rfl, hh⟩, hl, hk, hs⟩, st⟩
/-- what backV says of its String, as the contracts of this text ask it: cs's low bytes, coder 0 -/
theorem codOf {cs : List Int32} {n : Nat} (hn : cs.length = n) (hb : ∀ c ∈ cs, ¬ 255 < c) : CodA cs 0 (Int32.ofNat n) ((cs.map lo8).map Value.int) := Or.inl ⟨rfl, by rw [hn], by simp [List.map_map, Function.comp_def], hb⟩
end StrChars.Road
end Jvm.Pilot.@@N@@
namespace Jvm.Pilot.@@N@@
open Jvm Jvm.ClassFile Sem Op Lib Jvm.Free Jvm.Stand Jvm.LawKit Jvm.RoadKit Bundle Jvm.Pilot.@@N@@.Jvm.D
theorem d6_0 : decode method_4_code 0 = .ok (.iload_n 1, 1) := by decide +kernel
theorem d6_1 : decode method_4_code 1 = .ok (.ifCond .ne 14, 3) := by decide +kernel
theorem d6_4 : decode method_4_code 4 = .ok (.new 16, 3) := by decide +kernel
theorem d6_7 : decode method_4_code 7 = .ok (.dup, 1) := by decide +kernel
theorem d6_8 : decode method_4_code 8 = .ok (.iconst 0, 1) := by decide +kernel
theorem d6_9 : decode method_4_code 9 = .ok (.newarray .char, 2) := by decide +kernel
theorem d6_11 : decode method_4_code 11 = .ok (.invokespecial 41, 3) := by decide +kernel
theorem d6_14 : decode method_4_code 14 = .ok (.areturn, 1) := by decide +kernel
theorem d6_15 : decode method_4_code 15 = .ok (.iload_n 1, 1) := by decide +kernel
theorem d6_16 : decode method_4_code 16 = .ok (.iconst 1, 1) := by decide +kernel
theorem d6_17 : decode method_4_code 17 = .ok (.if_icmp .ne 20, 3) := by decide +kernel
theorem d6_20 : decode method_4_code 20 = .ok (.new 16, 3) := by decide +kernel
theorem d6_23 : decode method_4_code 23 = .ok (.dup, 1) := by decide +kernel
theorem d6_24 : decode method_4_code 24 = .ok (.iconst 1, 1) := by decide +kernel
theorem d6_25 : decode method_4_code 25 = .ok (.newarray .char, 2) := by decide +kernel
theorem d6_27 : decode method_4_code 27 = .ok (.dup, 1) := by decide +kernel
theorem d6_28 : decode method_4_code 28 = .ok (.iconst 0, 1) := by decide +kernel
theorem d6_29 : decode method_4_code 29 = .ok (.aload_n 0, 1) := by decide +kernel
theorem d6_30 : decode method_4_code 30 = .ok (.iconst 0, 1) := by decide +kernel
theorem d6_31 : decode method_4_code 31 = .ok (.caload, 1) := by decide +kernel
theorem d6_32 : decode method_4_code 32 = .ok (.castore, 1) := by decide +kernel
theorem d6_33 : decode method_4_code 33 = .ok (.invokespecial 41, 3) := by decide +kernel
theorem d6_36 : decode method_4_code 36 = .ok (.areturn, 1) := by decide +kernel
theorem d6_37 : decode method_4_code 37 = .ok (.iload_n 1, 1) := by decide +kernel
theorem d6_38 : decode method_4_code 38 = .ok (.iconst 2, 1) := by decide +kernel
theorem d6_39 : decode method_4_code 39 = .ok (.if_icmp .ne 26, 3) := by decide +kernel
theorem d6_42 : decode method_4_code 42 = .ok (.new 16, 3) := by decide +kernel
theorem d6_45 : decode method_4_code 45 = .ok (.dup, 1) := by decide +kernel
theorem d6_46 : decode method_4_code 46 = .ok (.iconst 2, 1) := by decide +kernel
theorem d6_47 : decode method_4_code 47 = .ok (.newarray .char, 2) := by decide +kernel
theorem d6_49 : decode method_4_code 49 = .ok (.dup, 1) := by decide +kernel
theorem d6_50 : decode method_4_code 50 = .ok (.iconst 0, 1) := by decide +kernel
theorem d6_51 : decode method_4_code 51 = .ok (.aload_n 0, 1) := by decide +kernel
theorem d6_52 : decode method_4_code 52 = .ok (.iconst 0, 1) := by decide +kernel
theorem d6_53 : decode method_4_code 53 = .ok (.caload, 1) := by decide +kernel
theorem d6_54 : decode method_4_code 54 = .ok (.castore, 1) := by decide +kernel
theorem d6_55 : decode method_4_code 55 = .ok (.dup, 1) := by decide +kernel
theorem d6_56 : decode method_4_code 56 = .ok (.iconst 1, 1) := by decide +kernel
theorem d6_57 : decode method_4_code 57 = .ok (.aload_n 0, 1) := by decide +kernel
theorem d6_58 : decode method_4_code 58 = .ok (.iconst 1, 1) := by decide +kernel
theorem d6_59 : decode method_4_code 59 = .ok (.caload, 1) := by decide +kernel
theorem d6_60 : decode method_4_code 60 = .ok (.castore, 1) := by decide +kernel
theorem d6_61 : decode method_4_code 61 = .ok (.invokespecial 41, 3) := by decide +kernel
theorem d6_64 : decode method_4_code 64 = .ok (.areturn, 1) := by decide +kernel
theorem d6_65 : decode method_4_code 65 = .ok (.iload_n 1, 1) := by decide +kernel
theorem d6_66 : decode method_4_code 66 = .ok (.iconst 3, 1) := by decide +kernel
theorem d6_67 : decode method_4_code 67 = .ok (.if_icmp .ne 32, 3) := by decide +kernel
theorem d6_70 : decode method_4_code 70 = .ok (.new 16, 3) := by decide +kernel
theorem d6_73 : decode method_4_code 73 = .ok (.dup, 1) := by decide +kernel
theorem d6_74 : decode method_4_code 74 = .ok (.iconst 3, 1) := by decide +kernel
theorem d6_75 : decode method_4_code 75 = .ok (.newarray .char, 2) := by decide +kernel
theorem d6_77 : decode method_4_code 77 = .ok (.dup, 1) := by decide +kernel
theorem d6_78 : decode method_4_code 78 = .ok (.iconst 0, 1) := by decide +kernel
theorem d6_79 : decode method_4_code 79 = .ok (.aload_n 0, 1) := by decide +kernel
theorem d6_80 : decode method_4_code 80 = .ok (.iconst 0, 1) := by decide +kernel
theorem d6_81 : decode method_4_code 81 = .ok (.caload, 1) := by decide +kernel
theorem d6_82 : decode method_4_code 82 = .ok (.castore, 1) := by decide +kernel
theorem d6_83 : decode method_4_code 83 = .ok (.dup, 1) := by decide +kernel
theorem d6_84 : decode method_4_code 84 = .ok (.iconst 1, 1) := by decide +kernel
theorem d6_85 : decode method_4_code 85 = .ok (.aload_n 0, 1) := by decide +kernel
theorem d6_86 : decode method_4_code 86 = .ok (.iconst 1, 1) := by decide +kernel
theorem d6_87 : decode method_4_code 87 = .ok (.caload, 1) := by decide +kernel
theorem d6_88 : decode method_4_code 88 = .ok (.castore, 1) := by decide +kernel
theorem d6_89 : decode method_4_code 89 = .ok (.dup, 1) := by decide +kernel
theorem d6_90 : decode method_4_code 90 = .ok (.iconst 2, 1) := by decide +kernel
theorem d6_91 : decode method_4_code 91 = .ok (.aload_n 0, 1) := by decide +kernel
theorem d6_92 : decode method_4_code 92 = .ok (.iconst 2, 1) := by decide +kernel
theorem d6_93 : decode method_4_code 93 = .ok (.caload, 1) := by decide +kernel
theorem d6_94 : decode method_4_code 94 = .ok (.castore, 1) := by decide +kernel
theorem d6_95 : decode method_4_code 95 = .ok (.invokespecial 41, 3) := by decide +kernel
theorem d6_98 : decode method_4_code 98 = .ok (.areturn, 1) := by decide +kernel
theorem d6_99 : decode method_4_code 99 = .ok (.iload_n 1, 1) := by decide +kernel
theorem d6_100 : decode method_4_code 100 = .ok (.iconst 4, 1) := by decide +kernel
theorem d6_101 : decode method_4_code 101 = .ok (.if_icmp .ne 38, 3) := by decide +kernel
theorem d6_104 : decode method_4_code 104 = .ok (.new 16, 3) := by decide +kernel
theorem d6_107 : decode method_4_code 107 = .ok (.dup, 1) := by decide +kernel
theorem d6_108 : decode method_4_code 108 = .ok (.iconst 4, 1) := by decide +kernel
theorem d6_109 : decode method_4_code 109 = .ok (.newarray .char, 2) := by decide +kernel
theorem d6_111 : decode method_4_code 111 = .ok (.dup, 1) := by decide +kernel
theorem d6_112 : decode method_4_code 112 = .ok (.iconst 0, 1) := by decide +kernel
theorem d6_113 : decode method_4_code 113 = .ok (.aload_n 0, 1) := by decide +kernel
theorem d6_114 : decode method_4_code 114 = .ok (.iconst 0, 1) := by decide +kernel
theorem d6_115 : decode method_4_code 115 = .ok (.caload, 1) := by decide +kernel
theorem d6_116 : decode method_4_code 116 = .ok (.castore, 1) := by decide +kernel
theorem d6_117 : decode method_4_code 117 = .ok (.dup, 1) := by decide +kernel
theorem d6_118 : decode method_4_code 118 = .ok (.iconst 1, 1) := by decide +kernel
theorem d6_119 : decode method_4_code 119 = .ok (.aload_n 0, 1) := by decide +kernel
theorem d6_120 : decode method_4_code 120 = .ok (.iconst 1, 1) := by decide +kernel
theorem d6_121 : decode method_4_code 121 = .ok (.caload, 1) := by decide +kernel
theorem d6_122 : decode method_4_code 122 = .ok (.castore, 1) := by decide +kernel
theorem d6_123 : decode method_4_code 123 = .ok (.dup, 1) := by decide +kernel
theorem d6_124 : decode method_4_code 124 = .ok (.iconst 2, 1) := by decide +kernel
theorem d6_125 : decode method_4_code 125 = .ok (.aload_n 0, 1) := by decide +kernel
theorem d6_126 : decode method_4_code 126 = .ok (.iconst 2, 1) := by decide +kernel
theorem d6_127 : decode method_4_code 127 = .ok (.caload, 1) := by decide +kernel
theorem d6_128 : decode method_4_code 128 = .ok (.castore, 1) := by decide +kernel
theorem d6_129 : decode method_4_code 129 = .ok (.dup, 1) := by decide +kernel
theorem d6_130 : decode method_4_code 130 = .ok (.iconst 3, 1) := by decide +kernel
theorem d6_131 : decode method_4_code 131 = .ok (.aload_n 0, 1) := by decide +kernel
theorem d6_132 : decode method_4_code 132 = .ok (.iconst 3, 1) := by decide +kernel
theorem d6_133 : decode method_4_code 133 = .ok (.caload, 1) := by decide +kernel
theorem d6_134 : decode method_4_code 134 = .ok (.castore, 1) := by decide +kernel
theorem d6_135 : decode method_4_code 135 = .ok (.invokespecial 41, 3) := by decide +kernel
theorem d6_138 : decode method_4_code 138 = .ok (.areturn, 1) := by decide +kernel
theorem d6_139 : decode method_4_code 139 = .ok (.iload_n 1, 1) := by decide +kernel
theorem d6_140 : decode method_4_code 140 = .ok (.iconst 5, 1) := by decide +kernel
theorem d6_141 : decode method_4_code 141 = .ok (.if_icmp .ne 44, 3) := by decide +kernel
theorem d6_144 : decode method_4_code 144 = .ok (.new 16, 3) := by decide +kernel
theorem d6_147 : decode method_4_code 147 = .ok (.dup, 1) := by decide +kernel
theorem d6_148 : decode method_4_code 148 = .ok (.iconst 5, 1) := by decide +kernel
theorem d6_149 : decode method_4_code 149 = .ok (.newarray .char, 2) := by decide +kernel
theorem d6_151 : decode method_4_code 151 = .ok (.dup, 1) := by decide +kernel
theorem d6_152 : decode method_4_code 152 = .ok (.iconst 0, 1) := by decide +kernel
theorem d6_153 : decode method_4_code 153 = .ok (.aload_n 0, 1) := by decide +kernel
theorem d6_154 : decode method_4_code 154 = .ok (.iconst 0, 1) := by decide +kernel
theorem d6_155 : decode method_4_code 155 = .ok (.caload, 1) := by decide +kernel
theorem d6_156 : decode method_4_code 156 = .ok (.castore, 1) := by decide +kernel
theorem d6_157 : decode method_4_code 157 = .ok (.dup, 1) := by decide +kernel
theorem d6_158 : decode method_4_code 158 = .ok (.iconst 1, 1) := by decide +kernel
theorem d6_159 : decode method_4_code 159 = .ok (.aload_n 0, 1) := by decide +kernel
theorem d6_160 : decode method_4_code 160 = .ok (.iconst 1, 1) := by decide +kernel
theorem d6_161 : decode method_4_code 161 = .ok (.caload, 1) := by decide +kernel
theorem d6_162 : decode method_4_code 162 = .ok (.castore, 1) := by decide +kernel
theorem d6_163 : decode method_4_code 163 = .ok (.dup, 1) := by decide +kernel
theorem d6_164 : decode method_4_code 164 = .ok (.iconst 2, 1) := by decide +kernel
theorem d6_165 : decode method_4_code 165 = .ok (.aload_n 0, 1) := by decide +kernel
theorem d6_166 : decode method_4_code 166 = .ok (.iconst 2, 1) := by decide +kernel
theorem d6_167 : decode method_4_code 167 = .ok (.caload, 1) := by decide +kernel
theorem d6_168 : decode method_4_code 168 = .ok (.castore, 1) := by decide +kernel
theorem d6_169 : decode method_4_code 169 = .ok (.dup, 1) := by decide +kernel
theorem d6_170 : decode method_4_code 170 = .ok (.iconst 3, 1) := by decide +kernel
theorem d6_171 : decode method_4_code 171 = .ok (.aload_n 0, 1) := by decide +kernel
theorem d6_172 : decode method_4_code 172 = .ok (.iconst 3, 1) := by decide +kernel
theorem d6_173 : decode method_4_code 173 = .ok (.caload, 1) := by decide +kernel
theorem d6_174 : decode method_4_code 174 = .ok (.castore, 1) := by decide +kernel
theorem d6_175 : decode method_4_code 175 = .ok (.dup, 1) := by decide +kernel
theorem d6_176 : decode method_4_code 176 = .ok (.iconst 4, 1) := by decide +kernel
theorem d6_177 : decode method_4_code 177 = .ok (.aload_n 0, 1) := by decide +kernel
theorem d6_178 : decode method_4_code 178 = .ok (.iconst 4, 1) := by decide +kernel
theorem d6_179 : decode method_4_code 179 = .ok (.caload, 1) := by decide +kernel
theorem d6_180 : decode method_4_code 180 = .ok (.castore, 1) := by decide +kernel
theorem d6_181 : decode method_4_code 181 = .ok (.invokespecial 41, 3) := by decide +kernel
theorem d6_184 : decode method_4_code 184 = .ok (.areturn, 1) := by decide +kernel
theorem d6_185 : decode method_4_code 185 = .ok (.iload_n 1, 1) := by decide +kernel
theorem d6_186 : decode method_4_code 186 = .ok (.bipush 6, 2) := by decide +kernel
theorem d6_188 : decode method_4_code 188 = .ok (.if_icmp .ne 51, 3) := by decide +kernel
theorem d6_191 : decode method_4_code 191 = .ok (.new 16, 3) := by decide +kernel
theorem d6_194 : decode method_4_code 194 = .ok (.dup, 1) := by decide +kernel
theorem d6_195 : decode method_4_code 195 = .ok (.bipush 6, 2) := by decide +kernel
theorem d6_197 : decode method_4_code 197 = .ok (.newarray .char, 2) := by decide +kernel
theorem d6_199 : decode method_4_code 199 = .ok (.dup, 1) := by decide +kernel
theorem d6_200 : decode method_4_code 200 = .ok (.iconst 0, 1) := by decide +kernel
theorem d6_201 : decode method_4_code 201 = .ok (.aload_n 0, 1) := by decide +kernel
theorem d6_202 : decode method_4_code 202 = .ok (.iconst 0, 1) := by decide +kernel
theorem d6_203 : decode method_4_code 203 = .ok (.caload, 1) := by decide +kernel
theorem d6_204 : decode method_4_code 204 = .ok (.castore, 1) := by decide +kernel
theorem d6_205 : decode method_4_code 205 = .ok (.dup, 1) := by decide +kernel
theorem d6_206 : decode method_4_code 206 = .ok (.iconst 1, 1) := by decide +kernel
theorem d6_207 : decode method_4_code 207 = .ok (.aload_n 0, 1) := by decide +kernel
theorem d6_208 : decode method_4_code 208 = .ok (.iconst 1, 1) := by decide +kernel
theorem d6_209 : decode method_4_code 209 = .ok (.caload, 1) := by decide +kernel
theorem d6_210 : decode method_4_code 210 = .ok (.castore, 1) := by decide +kernel
theorem d6_211 : decode method_4_code 211 = .ok (.dup, 1) := by decide +kernel
theorem d6_212 : decode method_4_code 212 = .ok (.iconst 2, 1) := by decide +kernel
theorem d6_213 : decode method_4_code 213 = .ok (.aload_n 0, 1) := by decide +kernel
theorem d6_214 : decode method_4_code 214 = .ok (.iconst 2, 1) := by decide +kernel
theorem d6_215 : decode method_4_code 215 = .ok (.caload, 1) := by decide +kernel
theorem d6_216 : decode method_4_code 216 = .ok (.castore, 1) := by decide +kernel
theorem d6_217 : decode method_4_code 217 = .ok (.dup, 1) := by decide +kernel
theorem d6_218 : decode method_4_code 218 = .ok (.iconst 3, 1) := by decide +kernel
theorem d6_219 : decode method_4_code 219 = .ok (.aload_n 0, 1) := by decide +kernel
theorem d6_220 : decode method_4_code 220 = .ok (.iconst 3, 1) := by decide +kernel
theorem d6_221 : decode method_4_code 221 = .ok (.caload, 1) := by decide +kernel
theorem d6_222 : decode method_4_code 222 = .ok (.castore, 1) := by decide +kernel
theorem d6_223 : decode method_4_code 223 = .ok (.dup, 1) := by decide +kernel
theorem d6_224 : decode method_4_code 224 = .ok (.iconst 4, 1) := by decide +kernel
theorem d6_225 : decode method_4_code 225 = .ok (.aload_n 0, 1) := by decide +kernel
theorem d6_226 : decode method_4_code 226 = .ok (.iconst 4, 1) := by decide +kernel
theorem d6_227 : decode method_4_code 227 = .ok (.caload, 1) := by decide +kernel
theorem d6_228 : decode method_4_code 228 = .ok (.castore, 1) := by decide +kernel
theorem d6_229 : decode method_4_code 229 = .ok (.dup, 1) := by decide +kernel
theorem d6_230 : decode method_4_code 230 = .ok (.iconst 5, 1) := by decide +kernel
theorem d6_231 : decode method_4_code 231 = .ok (.aload_n 0, 1) := by decide +kernel
theorem d6_232 : decode method_4_code 232 = .ok (.iconst 5, 1) := by decide +kernel
theorem d6_233 : decode method_4_code 233 = .ok (.caload, 1) := by decide +kernel
theorem d6_234 : decode method_4_code 234 = .ok (.castore, 1) := by decide +kernel
theorem d6_235 : decode method_4_code 235 = .ok (.invokespecial 41, 3) := by decide +kernel
theorem d6_238 : decode method_4_code 238 = .ok (.areturn, 1) := by decide +kernel
theorem d6_239 : decode method_4_code 239 = .ok (.new 16, 3) := by decide +kernel
theorem d6_242 : decode method_4_code 242 = .ok (.dup, 1) := by decide +kernel
theorem d6_243 : decode method_4_code 243 = .ok (.bipush 7, 2) := by decide +kernel
theorem d6_245 : decode method_4_code 245 = .ok (.newarray .char, 2) := by decide +kernel
theorem d6_247 : decode method_4_code 247 = .ok (.dup, 1) := by decide +kernel
theorem d6_248 : decode method_4_code 248 = .ok (.iconst 0, 1) := by decide +kernel
theorem d6_249 : decode method_4_code 249 = .ok (.aload_n 0, 1) := by decide +kernel
theorem d6_250 : decode method_4_code 250 = .ok (.iconst 0, 1) := by decide +kernel
theorem d6_251 : decode method_4_code 251 = .ok (.caload, 1) := by decide +kernel
theorem d6_252 : decode method_4_code 252 = .ok (.castore, 1) := by decide +kernel
theorem d6_253 : decode method_4_code 253 = .ok (.dup, 1) := by decide +kernel
theorem d6_254 : decode method_4_code 254 = .ok (.iconst 1, 1) := by decide +kernel
theorem d6_255 : decode method_4_code 255 = .ok (.aload_n 0, 1) := by decide +kernel
theorem d6_256 : decode method_4_code 256 = .ok (.iconst 1, 1) := by decide +kernel
theorem d6_257 : decode method_4_code 257 = .ok (.caload, 1) := by decide +kernel
theorem d6_258 : decode method_4_code 258 = .ok (.castore, 1) := by decide +kernel
theorem d6_259 : decode method_4_code 259 = .ok (.dup, 1) := by decide +kernel
theorem d6_260 : decode method_4_code 260 = .ok (.iconst 2, 1) := by decide +kernel
theorem d6_261 : decode method_4_code 261 = .ok (.aload_n 0, 1) := by decide +kernel
theorem d6_262 : decode method_4_code 262 = .ok (.iconst 2, 1) := by decide +kernel
theorem d6_263 : decode method_4_code 263 = .ok (.caload, 1) := by decide +kernel
theorem d6_264 : decode method_4_code 264 = .ok (.castore, 1) := by decide +kernel
theorem d6_265 : decode method_4_code 265 = .ok (.dup, 1) := by decide +kernel
theorem d6_266 : decode method_4_code 266 = .ok (.iconst 3, 1) := by decide +kernel
theorem d6_267 : decode method_4_code 267 = .ok (.aload_n 0, 1) := by decide +kernel
theorem d6_268 : decode method_4_code 268 = .ok (.iconst 3, 1) := by decide +kernel
theorem d6_269 : decode method_4_code 269 = .ok (.caload, 1) := by decide +kernel
theorem d6_270 : decode method_4_code 270 = .ok (.castore, 1) := by decide +kernel
theorem d6_271 : decode method_4_code 271 = .ok (.dup, 1) := by decide +kernel
theorem d6_272 : decode method_4_code 272 = .ok (.iconst 4, 1) := by decide +kernel
theorem d6_273 : decode method_4_code 273 = .ok (.aload_n 0, 1) := by decide +kernel
theorem d6_274 : decode method_4_code 274 = .ok (.iconst 4, 1) := by decide +kernel
theorem d6_275 : decode method_4_code 275 = .ok (.caload, 1) := by decide +kernel
theorem d6_276 : decode method_4_code 276 = .ok (.castore, 1) := by decide +kernel
theorem d6_277 : decode method_4_code 277 = .ok (.dup, 1) := by decide +kernel
theorem d6_278 : decode method_4_code 278 = .ok (.iconst 5, 1) := by decide +kernel
theorem d6_279 : decode method_4_code 279 = .ok (.aload_n 0, 1) := by decide +kernel
theorem d6_280 : decode method_4_code 280 = .ok (.iconst 5, 1) := by decide +kernel
theorem d6_281 : decode method_4_code 281 = .ok (.caload, 1) := by decide +kernel
theorem d6_282 : decode method_4_code 282 = .ok (.castore, 1) := by decide +kernel
theorem d6_283 : decode method_4_code 283 = .ok (.dup, 1) := by decide +kernel
theorem d6_284 : decode method_4_code 284 = .ok (.bipush 6, 2) := by decide +kernel
theorem d6_286 : decode method_4_code 286 = .ok (.aload_n 0, 1) := by decide +kernel
theorem d6_287 : decode method_4_code 287 = .ok (.bipush 6, 2) := by decide +kernel
theorem d6_289 : decode method_4_code 289 = .ok (.caload, 1) := by decide +kernel
theorem d6_290 : decode method_4_code 290 = .ok (.castore, 1) := by decide +kernel
theorem d6_291 : decode method_4_code 291 = .ok (.invokespecial 41, 3) := by decide +kernel
theorem d6_294 : decode method_4_code 294 = .ok (.areturn, 1) := by decide +kernel
theorem d7_0 : decode jdk_42_method_3_code 0 = .ok (.aload_n 0, 1) := by decide +kernel
theorem d7_1 : decode jdk_42_method_3_code 1 = .ok (.aload_n 1, 1) := by decide +kernel
theorem d7_2 : decode jdk_42_method_3_code 2 = .ok (.iconst 0, 1) := by decide +kernel
theorem d7_3 : decode jdk_42_method_3_code 3 = .ok (.aload_n 1, 1) := by decide +kernel
theorem d7_4 : decode jdk_42_method_3_code 4 = .ok (.arraylength, 1) := by decide +kernel
theorem d7_5 : decode jdk_42_method_3_code 5 = .ok (.aconst_null, 1) := by decide +kernel
theorem d7_6 : decode jdk_42_method_3_code 6 = .ok (.invokespecial 27, 3) := by decide +kernel
theorem d7_9 : decode jdk_42_method_3_code 9 = .ok (.return_, 1) := by decide +kernel
theorem d8_0 : decode jdk_42_method_149_code 0 = .ok (.aload_n 0, 1) := by decide +kernel
theorem d8_1 : decode jdk_42_method_149_code 1 = .ok (.invokespecial 1, 3) := by decide +kernel
theorem d8_4 : decode jdk_42_method_149_code 4 = .ok (.iload_n 3, 1) := by decide +kernel
theorem d8_5 : decode jdk_42_method_149_code 5 = .ok (.ifCond .ne 22, 3) := by decide +kernel
theorem d8_8 : decode jdk_42_method_149_code 8 = .ok (.aload_n 0, 1) := by decide +kernel
theorem d8_9 : decode jdk_42_method_149_code 9 = .ok (.ldc 7, 2) := by decide +kernel
theorem d8_11 : decode jdk_42_method_149_code 11 = .ok (.getfield 9, 3) := by decide +kernel
theorem d8_14 : decode jdk_42_method_149_code 14 = .ok (.putfield 9, 3) := by decide +kernel
theorem d8_17 : decode jdk_42_method_149_code 17 = .ok (.aload_n 0, 1) := by decide +kernel
theorem d8_18 : decode jdk_42_method_149_code 18 = .ok (.ldc 7, 2) := by decide +kernel
theorem d8_20 : decode jdk_42_method_149_code 20 = .ok (.getfield 15, 3) := by decide +kernel
theorem d8_23 : decode jdk_42_method_149_code 23 = .ok (.putfield 15, 3) := by decide +kernel
theorem d8_26 : decode jdk_42_method_149_code 26 = .ok (.return_, 1) := by decide +kernel
theorem d8_27 : decode jdk_42_method_149_code 27 = .ok (.getstatic 38, 3) := by decide +kernel
theorem d8_30 : decode jdk_42_method_149_code 30 = .ok (.ifCond .eq 28, 3) := by decide +kernel
theorem d8_33 : decode jdk_42_method_149_code 33 = .ok (.aload_n 1, 1) := by decide +kernel
theorem d8_34 : decode jdk_42_method_149_code 34 = .ok (.iload_n 2, 1) := by decide +kernel
theorem d8_35 : decode jdk_42_method_149_code 35 = .ok (.iload_n 3, 1) := by decide +kernel
theorem d8_36 : decode jdk_42_method_149_code 36 = .ok (.invokestatic 177, 3) := by decide +kernel
theorem d8_39 : decode jdk_42_method_149_code 39 = .ok (.astore 5, 2) := by decide +kernel
theorem d8_41 : decode jdk_42_method_149_code 41 = .ok (.aload_n 0, 1) := by decide +kernel
theorem d8_42 : decode jdk_42_method_149_code 42 = .ok (.aload 5, 2) := by decide +kernel
theorem d8_44 : decode jdk_42_method_149_code 44 = .ok (.iload_n 3, 1) := by decide +kernel
theorem d8_45 : decode jdk_42_method_149_code 45 = .ok (.invokestatic 47, 3) := by decide +kernel
theorem d8_48 : decode jdk_42_method_149_code 48 = .ok (.putfield 15, 3) := by decide +kernel
theorem d8_51 : decode jdk_42_method_149_code 51 = .ok (.aload_n 0, 1) := by decide +kernel
theorem d8_52 : decode jdk_42_method_149_code 52 = .ok (.aload 5, 2) := by decide +kernel
theorem d8_54 : decode jdk_42_method_149_code 54 = .ok (.putfield 9, 3) := by decide +kernel
theorem d8_57 : decode jdk_42_method_149_code 57 = .ok (.return_, 1) := by decide +kernel
theorem d8_58 : decode jdk_42_method_149_code 58 = .ok (.aload_n 0, 1) := by decide +kernel
theorem d8_59 : decode jdk_42_method_149_code 59 = .ok (.iconst 1, 1) := by decide +kernel
theorem d8_60 : decode jdk_42_method_149_code 60 = .ok (.putfield 15, 3) := by decide +kernel
theorem d8_63 : decode jdk_42_method_149_code 63 = .ok (.aload_n 0, 1) := by decide +kernel
theorem d8_64 : decode jdk_42_method_149_code 64 = .ok (.aload_n 1, 1) := by decide +kernel
theorem d8_65 : decode jdk_42_method_149_code 65 = .ok (.iload_n 2, 1) := by decide +kernel
theorem d8_66 : decode jdk_42_method_149_code 66 = .ok (.iload_n 3, 1) := by decide +kernel
theorem d8_67 : decode jdk_42_method_149_code 67 = .ok (.invokestatic 180, 3) := by decide +kernel
theorem d8_70 : decode jdk_42_method_149_code 70 = .ok (.putfield 9, 3) := by decide +kernel
theorem d8_73 : decode jdk_42_method_149_code 73 = .ok (.return_, 1) := by decide +kernel
theorem d13_0 : decode prog_138_method_4_code 0 = .ok (.invokestatic 55, 3) := by decide +kernel
theorem d13_3 : decode prog_138_method_4_code 3 = .ok (.astore_n 1, 1) := by decide +kernel
theorem d13_4 : decode prog_138_method_4_code 4 = .ok (.aload_n 1, 1) := by decide +kernel
theorem d13_5 : decode prog_138_method_4_code 5 = .ok (.arraylength, 1) := by decide +kernel
theorem d13_6 : decode prog_138_method_4_code 6 = .ok (.istore_n 2, 1) := by decide +kernel
theorem d13_7 : decode prog_138_method_4_code 7 = .ok (.iconst 0, 1) := by decide +kernel
theorem d13_8 : decode prog_138_method_4_code 8 = .ok (.istore_n 3, 1) := by decide +kernel
theorem d13_9 : decode prog_138_method_4_code 9 = .ok (.iload_n 3, 1) := by decide +kernel
theorem d13_10 : decode prog_138_method_4_code 10 = .ok (.iload_n 2, 1) := by decide +kernel
theorem d13_11 : decode prog_138_method_4_code 11 = .ok (.if_icmp .ge 29, 3) := by decide +kernel
theorem d13_14 : decode prog_138_method_4_code 14 = .ok (.aload_n 1, 1) := by decide +kernel
theorem d13_15 : decode prog_138_method_4_code 15 = .ok (.iload_n 3, 1) := by decide +kernel
theorem d13_16 : decode prog_138_method_4_code 16 = .ok (.aaload, 1) := by decide +kernel
theorem d13_17 : decode prog_138_method_4_code 17 = .ok (.astore 4, 2) := by decide +kernel
theorem d13_19 : decode prog_138_method_4_code 19 = .ok (.aload 4, 2) := by decide +kernel
theorem d13_21 : decode prog_138_method_4_code 21 = .ok (.getfield 51, 3) := by decide +kernel
theorem d13_24 : decode prog_138_method_4_code 24 = .ok (.aload_n 0, 1) := by decide +kernel
theorem d13_25 : decode prog_138_method_4_code 25 = .ok (.invokevirtual 59, 3) := by decide +kernel
theorem d13_28 : decode prog_138_method_4_code 28 = .ok (.ifCond .eq 6, 3) := by decide +kernel
theorem d13_31 : decode prog_138_method_4_code 31 = .ok (.aload 4, 2) := by decide +kernel
theorem d13_33 : decode prog_138_method_4_code 33 = .ok (.areturn, 1) := by decide +kernel
theorem d13_34 : decode prog_138_method_4_code 34 = .ok (.iinc 3 1, 3) := by decide +kernel
theorem d13_37 : decode prog_138_method_4_code 37 = .ok (.goto (-28), 3) := by decide +kernel
theorem d13_40 : decode prog_138_method_4_code 40 = .ok (.aconst_null, 1) := by decide +kernel
theorem d13_41 : decode prog_138_method_4_code 41 = .ok (.areturn, 1) := by decide +kernel
theorem d14_0 : decode prog_138_method_1_code 0 = .ok (.getstatic 16, 3) := by decide +kernel
theorem d14_3 : decode prog_138_method_1_code 3 = .ok (.invokevirtual 20, 3) := by decide +kernel
theorem d14_6 : decode prog_138_method_1_code 6 = .ok (.checkcast 21, 3) := by decide +kernel
theorem d14_9 : decode prog_138_method_1_code 9 = .ok (.areturn, 1) := by decide +kernel
theorem d17_0 : decode method_5_code 0 = .ok (.aload_n 0, 1) := by decide +kernel
theorem d17_1 : decode method_5_code 1 = .ok (.ldc 7, 2) := by decide +kernel
theorem d17_3 : decode method_5_code 3 = .ok (.invokevirtual 44, 3) := by decide +kernel
theorem d17_6 : decode method_5_code 6 = .ok (.ifCond .eq 7, 3) := by decide +kernel
theorem d17_9 : decode method_5_code 9 = .ok (.getstatic 48, 3) := by decide +kernel
theorem d17_12 : decode method_5_code 12 = .ok (.areturn, 1) := by decide +kernel
theorem d17_13 : decode method_5_code 13 = .ok (.aload_n 0, 1) := by decide +kernel
theorem d17_14 : decode method_5_code 14 = .ok (.ldc 9, 2) := by decide +kernel
theorem d17_16 : decode method_5_code 16 = .ok (.invokevirtual 44, 3) := by decide +kernel
theorem d17_19 : decode method_5_code 19 = .ok (.ifCond .eq 7, 3) := by decide +kernel
theorem d17_22 : decode method_5_code 22 = .ok (.getstatic 52, 3) := by decide +kernel
theorem d17_25 : decode method_5_code 25 = .ok (.areturn, 1) := by decide +kernel
theorem d17_26 : decode method_5_code 26 = .ok (.aload_n 0, 1) := by decide +kernel
theorem d17_27 : decode method_5_code 27 = .ok (.ldc 11, 2) := by decide +kernel
theorem d17_29 : decode method_5_code 29 = .ok (.invokevirtual 44, 3) := by decide +kernel
theorem d17_32 : decode method_5_code 32 = .ok (.ifCond .eq 7, 3) := by decide +kernel
theorem d17_35 : decode method_5_code 35 = .ok (.getstatic 55, 3) := by decide +kernel
theorem d17_38 : decode method_5_code 38 = .ok (.areturn, 1) := by decide +kernel
theorem d17_39 : decode method_5_code 39 = .ok (.aload_n 0, 1) := by decide +kernel
theorem d17_40 : decode method_5_code 40 = .ok (.ldc 13, 2) := by decide +kernel
theorem d17_42 : decode method_5_code 42 = .ok (.invokevirtual 44, 3) := by decide +kernel
theorem d17_45 : decode method_5_code 45 = .ok (.ifCond .eq 7, 3) := by decide +kernel
theorem d17_48 : decode method_5_code 48 = .ok (.getstatic 58, 3) := by decide +kernel
theorem d17_51 : decode method_5_code 51 = .ok (.areturn, 1) := by decide +kernel
theorem d17_52 : decode method_5_code 52 = .ok (.aconst_null, 1) := by decide +kernel
theorem d17_53 : decode method_5_code 53 = .ok (.areturn, 1) := by decide +kernel
theorem d18_0 : decode method_3_code 0 = .ok (.iload_n 2, 1) := by decide +kernel
theorem d18_1 : decode method_3_code 1 = .ok (.iload_n 1, 1) := by decide +kernel
theorem d18_2 : decode method_3_code 2 = .ok (.iushr, 1) := by decide +kernel
theorem d18_3 : decode method_3_code 3 = .ok (.iconst 1, 1) := by decide +kernel
theorem d18_4 : decode method_3_code 4 = .ok (.iand, 1) := by decide +kernel
theorem d18_5 : decode method_3_code 5 = .ok (.ifCond .eq 13, 3) := by decide +kernel
theorem d18_8 : decode method_3_code 8 = .ok (.aload_n 0, 1) := by decide +kernel
theorem d18_9 : decode method_3_code 9 = .ok (.iload_n 1, 1) := by decide +kernel
theorem d18_10 : decode method_3_code 10 = .ok (.aload_n 0, 1) := by decide +kernel
theorem d18_11 : decode method_3_code 11 = .ok (.iload_n 1, 1) := by decide +kernel
theorem d18_12 : decode method_3_code 12 = .ok (.caload, 1) := by decide +kernel
theorem d18_13 : decode method_3_code 13 = .ok (.bipush 32, 2) := by decide +kernel
theorem d18_15 : decode method_3_code 15 = .ok (.isub, 1) := by decide +kernel
theorem d18_16 : decode method_3_code 16 = .ok (.i2c, 1) := by decide +kernel
theorem d18_17 : decode method_3_code 17 = .ok (.castore, 1) := by decide +kernel
theorem d18_18 : decode method_3_code 18 = .ok (.return_, 1) := by decide +kernel
theorem own_hws {a0 : Array Value} {Z : State} (hw : ∀ d ∈ tables_1, d.before a0 Z = true) : ∀ d ∈ StrChars.Road.words, d.before a0 Z = true := fun d hd => hw d ((by decide +kernel : ∀ d ∈ StrChars.Road.words, d ∈ tables_1) d hd)
def own_str (cs : List Int32) : List Value := (cs.map (fun c => c.toInt8.toInt32)).map Value.int
def QnewS (Z : State) (x : Addr) (N : Int32) (cs : List Int32) (h : Heap) (n0 : Nat) (v : Option Value) (h' : Heap) (L : List Loc) : Prop := ∃ (t : Addr) (kb : ClassId), v = none ∧ Fr n0 L ∧ Keep h h' [x] ∧ Fld Z h' x "java/lang/String" "coder" "B" (.int (0 : Int32)) ∧ Fld Z h' x "java/lang/String" "value" "[B" (.ref t) ∧ Arv Z h' t kb .byte N (own_str cs) (.int (0 : Int32)) ∧ h.size ≤ t
theorem own_newS {p : Program} {l : Launch} {e : Env} {R : Room} {s : State} {args : Array Value} {below : List Frame} {W : Nat} {Z : State} {a0 : Array Value} {h : Heap} (hZ : Z.Warmed39 s.vm) (hw : ∀ d ∈ tables_1, d.before a0 Z = true) {kI : Nat} (wi : (Jvm.Cond.instantiable "java/lang/String" kI).before a0 Z = true)
    {x b : Addr} {kC : ClassId} {cs : List Int32} {d v0 c0 : Value} {z N : Int32} {n n0 : Nat} (hx0 : n0 ≤ x) (hh0 : n0 ≤ h.size) (E : Exa Z h x "java/lang/String") (V : Fld Z h x "java/lang/String" "value" "[B" v0) (C : Fld Z h x "java/lang/String" "coder" "B" c0) (K : Arv Z h b kC .char N (cs.map Value.int) d) (S : Sta Z h "java/lang/String" "COMPACT_STRINGS" "Z" (.int z)) (hz : ¬ z = 0)
    (hn : cs.length = n) (hN : N = Int32.ofNat n) (l0 : 0 < n) (l2 : n ≤ 4000) (hp : ∀ c ∈ cs, ¬ c < 0 ∧ ¬ (255 : Int32) < c) (hfr : 4 ≤ R.frames) (hlo : W + 65 ≤ R.locals) :
    OBk l R p e below s args (⟨"java/lang/String", "<init>", "([C)V"⟩ : MethodName) 3 W (#[.ref x, .ref b] : Array Value) h 1 n (QnewS Z x N cs h n0) :=
  Back.mono (StrChars.Road.backV hZ (own_hws hw) wi hx0 hh0 E V C K S hz hn hN l0 l2 hp rfl hfr hlo) (fun _ _ q => q) (fun P a v B hp q => by
    obtain ⟨L, ⟨q1, q2, q3, q4, q5, t, kb, q6, q7, q8, q9, q10⟩, r⟩ := q
    exact ⟨L, ⟨t, kb, q1, q2, q3, q5, q9, q10, q7⟩, r⟩)
theorem own_and255 (x : Int32) : ¬ nar .char ((x &&& (255 : Int32)).toUInt32.toUInt16.toUInt32.toInt32) < 0 ∧ ¬ (255 : Int32) < nar .char ((x &&& (255 : Int32)).toUInt32.toUInt16.toUInt32.toInt32) := by
  have t : ∀ k : Fin 256, ¬ nar .char ((Int32.ofNat k.val).toUInt32.toUInt16.toUInt32.toInt32) < 0 ∧ ¬ (255 : Int32) < nar .char ((Int32.ofNat k.val).toUInt32.toUInt16.toUInt32.toInt32) := by decide +kernel
  have h : (x &&& 255).toBitVec.toNat < 256 := by
    simp only [Int32.toBitVec_and, BitVec.toNat_and]
    exact Nat.lt_succ_of_le Nat.and_le_right
  have e : (x &&& 255) = Int32.ofNat (x &&& 255).toBitVec.toNat := by
    apply Int32.toBitVec_inj.mp
    show _ = BitVec.ofNat 32 _
    rw [BitVec.ofNat_toNat]; simp
  rw [e]
  exact t ⟨_, h⟩
theorem own_up (cs : List Int32) (h : ∀ c ∈ cs, ¬ c < 0 ∧ ¬ (255 : Int32) < c) : ∀ c ∈ cs, ¬ c < 0 ∧ ¬ (65535 : Int32) < c := fun c hc => ⟨(h c hc).1, fun q => (h c hc).2 (by rw [Int32.lt_iff_toInt_lt] at q ⊢; have e1 : (65535 : Int32).toInt = 65535 := rfl; have e2 : (255 : Int32).toInt = 255 := rfl; omega)⟩
theorem own_c0 : ∀ c ∈ ([] : List Int32), ¬ c < 0 ∧ ¬ (255 : Int32) < c := fun _ q => nomatch q
theorem own_cS {a : Int32} {cs : List Int32} (ha : ¬ a < 0 ∧ ¬ (255 : Int32) < a) (h : ∀ c ∈ cs, ¬ c < 0 ∧ ¬ (255 : Int32) < c) : ∀ c ∈ a :: cs, ¬ c < 0 ∧ ¬ (255 : Int32) < c := fun c q => (List.mem_cons.mp q).elim (fun e => e ▸ ha) (h c)

theorem own_hch {a0 : Array Value} {Z : State} (hw : ∀ d ∈ tables_1, d.before a0 Z = true) : ∀ d ∈ StrChars.Road.wordsChN, d.before a0 Z = true := fun d hd => hw d ((by decide +kernel : ∀ d ∈ StrChars.Road.wordsChN, d ∈ tables_1) d hd)
def QchS (cs : List Int32) (i : Nat) (h : Heap) (n0 : Nat) (v : Option Value) (h' : Heap) (L : List Loc) : Prop := v = some (.int (cs.getD i 0)) ∧ Fr n0 L ∧ h' = h
theorem own_chS {p : Program} {l : Launch} {e : Env} {R : Room} {s : State} {args : Array Value} {below : List Frame} {W n0 : Nat} {Z : State} {a0 : Array Value} {h : Heap} (hZ : Z.Warmed39 s.vm) (hw : ∀ d ∈ tables_1, d.before a0 Z = true) {kI : Nat} (wi : (Jvm.Cond.instantiable "java/lang/String" kI).before a0 Z = true)
    {x t : Addr} {kb : ClassId} {cs : List Int32} {N z : Int32} {n i : Nat} {j : Int32} {fm : Value} (E : Exa Z h x "java/lang/String") (V : Fld Z h x "java/lang/String" "value" "[B" (.ref t)) (C : Fld Z h x "java/lang/String" "coder" "B" (.int (0 : Int32))) (K : Arv Z h t kb .byte N (own_str cs) (.int (0 : Int32))) (S : Sta Z h "java/lang/String" "COMPACT_STRINGS" "Z" (.int z)) (hz : ¬ z = 0)
    (F : Sta Z h "jdk/internal/util/Preconditions" "SIOOBE_FORMATTER" "Ljava/util/function/BiFunction;" fm) (rf : fm.isRef = true)
    (hn : cs.length = n) (hN : N = Int32.ofNat n) (hp : ∀ c ∈ cs, ¬ c < 0 ∧ ¬ (255 : Int32) < c) (l2 : n ≤ 4000) (hi : i < n) (hj : j = Int32.ofNat i) (hfr : 4 ≤ R.frames) (hlo : W + 53 ≤ R.locals) :
    OBk l R p e below s args (⟨"java/lang/String", "charAt", "(I)C"⟩ : MethodName) 3 W (#[.ref x, .int j] : Array Value) h 0 0 (QchS cs i h n0) := by
  subst hN
  exact Back.mono (StrChars.Road.chN hZ (own_hch hw) wi E V C K (StrChars.Road.codOf hn (fun c hc => (hp c hc).2)) (own_up cs hp) S hz F rf (by omega) (by omega) hj hfr hlo) (fun _ _ q => q) (fun P a v B hp q => by
    obtain ⟨L, ⟨q1, q2, q3⟩, r⟩ := q
    exact ⟨L, ⟨q1, by rw [q2]; exact Fr.nil n0, q3⟩, r⟩)

theorem own_heq {a0 : Array Value} {Z : State} (hw : ∀ d ∈ tables_1, d.before a0 Z = true) : ∀ d ∈ StrChars.Road.wordsEq, d.before a0 Z = true := fun d hd => hw d ((by decide +kernel : ∀ d ∈ StrChars.Road.wordsEq, d ∈ tables_1) d hd)
def own_eqI (cs ds : List Int32) : Int32 := if cs = ds then 1 else 0
def QeqS (cs ds : List Int32) (h : Heap) (n0 : Nat) (v : Option Value) (h' : Heap) (L : List Loc) : Prop := v = some (.int (own_eqI cs ds)) ∧ Fr n0 L ∧ h' = h
theorem own_eqS {p : Program} {l : Launch} {e : Env} {R : Room} {s : State} {args : Array Value} {below : List Frame} {W n0 : Nat} {Z : State} {a0 : Array Value} {h : Heap} (hZ : Z.Warmed39 s.vm) (hw : ∀ d ∈ tables_1, d.before a0 Z = true) {kI : Nat} (wi : (Jvm.Cond.instantiable "java/lang/String" kI).before a0 Z = true)
    {x t : Addr} {kb : ClassId} {cs : List Int32} {N z : Int32} (E : Exa Z h x "java/lang/String") (V : Fld Z h x "java/lang/String" "value" "[B" (.ref t)) (C : Fld Z h x "java/lang/String" "coder" "B" (.int (0 : Int32))) (K : Arv Z h t kb .byte N (own_str cs) (.int (0 : Int32))) (S : Sta Z h "java/lang/String" "COMPACT_STRINGS" "Z" (.int z)) (hz : ¬ z = 0)
    {y t' : Addr} {kb' : ClassId} {ds : List Int32} {N' : Int32} (E' : Exa Z h y "java/lang/String") (V' : Fld Z h y "java/lang/String" "value" "[B" (.ref t')) (C' : Fld Z h y "java/lang/String" "coder" "B" (.int (0 : Int32))) (K' : Arv Z h t' kb' .byte N' (own_str ds) (.int (0 : Int32)))
    (hN : N = Int32.ofNat cs.length) (hp : ∀ c ∈ cs, ¬ c < 0 ∧ ¬ (255 : Int32) < c) (l2 : cs.length ≤ 4000) (hN' : N' = Int32.ofNat ds.length) (hp' : ∀ c ∈ ds, ¬ c < 0 ∧ ¬ (255 : Int32) < c) (l2' : ds.length ≤ 4000) (hfr : 2 ≤ R.frames) (hlo : W + 28 ≤ R.locals) :
    OBk l R p e below s args (⟨"java/lang/String", "equals", "(Ljava/lang/Object;)Z"⟩ : MethodName) 3 W (#[.ref x, .ref y] : Array Value) h 0 0 (QeqS cs ds h n0) := by
  subst hN hN'
  exact Back.mono (StrChars.Road.eqW hZ (own_heq hw) wi E V C K (StrChars.Road.codOf rfl (fun c hc => (hp c hc).2)) (own_up cs hp) l2 E' V' C' K' (StrChars.Road.codOf rfl (fun c hc => (hp' c hc).2)) (own_up ds hp') l2' S hz hfr hlo) (fun _ _ q => q) (fun P a v B hp q => by
    obtain ⟨L, ⟨q1, q2, q3⟩, r⟩ := q
    refine ⟨L, ⟨?_, by rw [q2]; exact Fr.nil n0, q3⟩, r⟩
    rcases q1 with ⟨q, u⟩ | ⟨q, u⟩
    · rw [q, own_eqI, if_pos u]
    · rw [q, own_eqI, if_neg u])

theorem own_byte {c : Int32} (h0 : ¬ c < 0) (h1 : ¬ (255 : Int32) < c) : ∃ k : Fin 256, c = Int32.ofNat k.val := by
  rw [Int32.lt_iff_toInt_lt] at h0 h1
  have e0 : (0 : Int32).toInt = 0 := rfl
  have e1 : (255 : Int32).toInt = 255 := rfl
  refine ⟨⟨c.toInt.toNat, by omega⟩, ?_⟩
  apply Int32.toInt_inj.mp
  have h := Int32.toInt_ofNat_of_lt (n := c.toInt.toNat) (by omega)
  show c.toInt = (Int32.ofNat c.toInt.toNat).toInt
  rw [h]; omega
theorem own_nc {c : Int32} (h : ¬ c < 0 ∧ ¬ (255 : Int32) < c) : nar .char c = c := by
  obtain ⟨k, rfl⟩ := own_byte h.1 h.2
  exact (by decide +kernel : ∀ k : Fin 256, nar .char (Int32.ofNat k.val) = Int32.ofNat k.val) k
theorem own_az {c : Int32} (h : ¬ c < 97 ∧ ¬ (122 : Int32) < c) : ¬ c < 0 ∧ ¬ (255 : Int32) < c := by
  rw [Int32.lt_iff_toInt_lt, Int32.lt_iff_toInt_lt] at h ⊢
  have e0 : (0 : Int32).toInt = 0 := rfl
  have e1 : (255 : Int32).toInt = 255 := rfl
  have e2 : (97 : Int32).toInt = 97 := rfl
  have e3 : (122 : Int32).toInt = 122 := rfl
  omega
def own_upc (q e : Int32) : Int32 := if q = 0 then e else nar .char ((e - (32 : Int32)).toUInt32.toUInt16.toUInt32.toInt32)
theorem own_upc_y {q e : Int32} (h : q = 0) : own_upc q e = e := if_pos h
theorem own_upc_n {q e : Int32} (h : ¬ q = 0) : own_upc q e = nar .char ((e - (32 : Int32)).toUInt32.toUInt16.toUInt32.toInt32) := if_neg h
theorem own_upc_p {q c : Int32} (h : ¬ c < 97 ∧ ¬ (122 : Int32) < c) : ¬ own_upc q c < 0 ∧ ¬ (255 : Int32) < own_upc q c := by
  by_cases hq : q = 0
  · rw [own_upc_y hq]; exact own_az h
  · rw [own_upc_n hq]
    obtain ⟨k, rfl⟩ := own_byte (own_az h).1 (own_az h).2
    exact (by decide +kernel : ∀ k : Fin 256, ¬ (Int32.ofNat k.val) < 97 ∧ ¬ (122 : Int32) < Int32.ofNat k.val → ¬ nar .char (((Int32.ofNat k.val) - (32 : Int32)).toUInt32.toUInt16.toUInt32.toInt32) < 0 ∧ ¬ (255 : Int32) < nar .char (((Int32.ofNat k.val) - (32 : Int32)).toUInt32.toUInt16.toUInt32.toInt32)) k h
theorem own_and7 (x : Int32) : ¬ (x &&& (7 : Int32)) < 0 ∧ ¬ (7 : Int32) < (x &&& (7 : Int32)) := by
  have h := c_and x 7 (by decide)
  rw [Int32.lt_iff_toInt_lt, Int32.lt_iff_toInt_lt]
  have e0 : (0 : Int32).toInt = 0 := rfl
  have e1 : (7 : Int32).toInt = 7 := rfl
  omega
theorem own_seven {n : Int32} (h0 : ¬ n < 0) (h7 : ¬ (7 : Int32) < n) (q0 : ¬ n = 0) (q1 : ¬ n = 1) (q2 : ¬ n = 2) (q3 : ¬ n = 3) (q4 : ¬ n = 4) (q5 : ¬ n = 5) (q6 : ¬ n = 6) : n = 7 := by
  rw [Int32.lt_iff_toInt_lt] at h0 h7
  rw [← Int32.toInt_inj] at q0 q1 q2 q3 q4 q5 q6 ⊢
  have e0 : (0 : Int32).toInt = 0 := rfl
  have e1 : (1 : Int32).toInt = 1 := rfl
  have e2 : (2 : Int32).toInt = 2 := rfl
  have e3 : (3 : Int32).toInt = 3 := rfl
  have e4 : (4 : Int32).toInt = 4 := rfl
  have e5 : (5 : Int32).toInt = 5 := rfl
  have e6 : (6 : Int32).toInt = 6 := rfl
  have e7 : (7 : Int32).toInt = 7 := rfl
  omega
theorem own_six {n x : Int32} (h : n = (x &&& (2147483647 : Int32)) % (12 : Int32)) (h6 : n < 6) : n = 0 ∨ n = 1 ∨ n = 2 ∨ n = 3 ∨ n = 4 ∨ n = 5 := by
  have h1 := (c_and x 2147483647 (by decide)).1
  have h2 := (c_irem (x &&& 2147483647) 12 12 (by decide)).1 h1
  have h3 := Int.emod_nonneg (x &&& 2147483647).toInt (show (12 : Int) ≠ 0 by decide)
  rw [← h] at h2
  rw [Int32.lt_iff_toInt_lt] at h6
  simp only [← Int32.toInt_inj]
  have e0 : (0 : Int32).toInt = 0 := rfl
  have e1 : (1 : Int32).toInt = 1 := rfl
  have e2 : (2 : Int32).toInt = 2 := rfl
  have e3 : (3 : Int32).toInt = 3 := rfl
  have e4 : (4 : Int32).toInt = 4 := rfl
  have e5 : (5 : Int32).toInt = 5 := rfl
  have e6 : (6 : Int32).toInt = 6 := rfl
  omega
def own_take (n : Int32) (es : List Int32) : List Int32 := es.take n.toNatClampNeg
theorem own_take_p {n : Int32} {es : List Int32} (h : ∀ c ∈ es, ¬ c < 0 ∧ ¬ (255 : Int32) < c) : ∀ c ∈ own_take n es, ¬ c < 0 ∧ ¬ (255 : Int32) < c := fun c hc => h c (List.mem_of_mem_take hc)
theorem own_take_l {n : Int32} {es : List Int32} (h : es.length = 7) : (own_take n es).length ≤ 4000 := by
  have := List.length_take_le' n.toNatClampNeg es
  show (es.take n.toNatClampNeg).length ≤ 4000
  omega
theorem own_take_n {n : Int32} {es : List Int32} (h : es.length = 7) (h0 : ¬ n < 0) (h7 : ¬ (7 : Int32) < n) : n = Int32.ofNat (own_take n es).length := by
  have hl : (own_take n es).length = min n.toNatClampNeg es.length := List.length_take
  rw [Int32.lt_iff_toInt_lt] at h0 h7
  have e0 : (0 : Int32).toInt = 0 := rfl
  have e7 : (7 : Int32).toInt = 7 := rfl
  have hn : n.toNatClampNeg = n.toInt.toNat := rfl
  have : (own_take n es).length = n.toInt.toNat := by rw [hl, hn, h]; omega
  rw [this]
  apply Int32.toInt_inj.mp
  rw [Int32.toInt_ofNat_of_lt (n := n.toInt.toNat) (by omega)]
  omega

theorem own_wS {a0 : Array Value} {Z : State} (hw : ∀ d ∈ tables_1, d.before a0 Z = true) : ∀ d ∈ Bundle.stringAtoms, d.before a0 Z = true := fun d hd => hw d ((by decide +kernel : ∀ d ∈ Bundle.stringAtoms, d ∈ tables_1) d hd)
def own_t0 : List Int32 := [115, 101, 108, 101, 99, 116]
theorem own_p0 : ∀ c ∈ own_t0, ¬ c < 0 ∧ ¬ (255 : Int32) < c := by decide +kernel
def own_t1 : List Int32 := [105, 110, 115, 101, 114, 116]
theorem own_p1 : ∀ c ∈ own_t1, ¬ c < 0 ∧ ¬ (255 : Int32) < c := by decide +kernel
def own_t2 : List Int32 := [117, 112, 100, 97, 116, 101]
theorem own_p2 : ∀ c ∈ own_t2, ¬ c < 0 ∧ ¬ (255 : Int32) < c := by decide +kernel
def own_t3 : List Int32 := [100, 101, 108, 101, 116, 101]
theorem own_p3 : ∀ c ∈ own_t3, ¬ c < 0 ∧ ¬ (255 : Int32) < c := by decide +kernel
def own_es4 : List (Nat × String × List Int32) := []
def own_es3 : List (Nat × String × List Int32) := (13, "delete", own_t3) :: own_es4
def own_es2 : List (Nat × String × List Int32) := (11, "update", own_t2) :: own_es3
def own_es1 : List (Nat × String × List Int32) := (9, "insert", own_t1) :: own_es2
def own_es0 : List (Nat × String × List Int32) := (7, "select", own_t0) :: own_es1
theorem own_comm (a b : List Int32) : own_eqI a b = own_eqI b a := by
  by_cases h : a = b
  · rw [h]
  · rw [own_eqI, own_eqI, if_neg h, if_neg (fun q => h q.symm)]
def own_pick (cs : List Int32) (w0 w1 w2 w3 : Addr) : Value := if own_eqI own_t0 cs = 0 then (if own_eqI own_t1 cs = 0 then (if own_eqI own_t2 cs = 0 then (if own_eqI own_t3 cs = 0 then .null else .ref w3) else .ref w2) else .ref w1) else .ref w0
theorem own_pick_0 {cs : List Int32} {w0 w1 w2 w3 : Addr}  (h0 : ¬ own_eqI own_t0 cs = 0) : own_pick cs w0 w1 w2 w3 = .ref w0 := by simp only [own_pick, if_neg h0]
theorem own_pick_1 {cs : List Int32} {w0 w1 w2 w3 : Addr} (h0 : own_eqI own_t0 cs = 0) (h1 : ¬ own_eqI own_t1 cs = 0) : own_pick cs w0 w1 w2 w3 = .ref w1 := by simp only [own_pick, if_pos h0, if_neg h1]
theorem own_pick_2 {cs : List Int32} {w0 w1 w2 w3 : Addr} (h0 : own_eqI own_t0 cs = 0) (h1 : own_eqI own_t1 cs = 0) (h2 : ¬ own_eqI own_t2 cs = 0) : own_pick cs w0 w1 w2 w3 = .ref w2 := by simp only [own_pick, if_pos h0, if_pos h1, if_neg h2]
theorem own_pick_3 {cs : List Int32} {w0 w1 w2 w3 : Addr} (h0 : own_eqI own_t0 cs = 0) (h1 : own_eqI own_t1 cs = 0) (h2 : own_eqI own_t2 cs = 0) (h3 : ¬ own_eqI own_t3 cs = 0) : own_pick cs w0 w1 w2 w3 = .ref w3 := by simp only [own_pick, if_pos h0, if_pos h1, if_pos h2, if_neg h3]
theorem own_pick_4 {cs : List Int32} {w0 w1 w2 w3 : Addr} (h0 : own_eqI own_t0 cs = 0) (h1 : own_eqI own_t1 cs = 0) (h2 : own_eqI own_t2 cs = 0) (h3 : own_eqI own_t3 cs = 0) : own_pick cs w0 w1 w2 w3 = .null := by simp only [own_pick, if_pos h0, if_pos h1, if_pos h2, if_pos h3]
theorem own_pick_ref (cs : List Int32) (w0 w1 w2 w3 : Addr) : (own_pick cs w0 w1 w2 w3).isRef = true := by
  by_cases h0 : own_eqI own_t0 cs = 0
  · by_cases h1 : own_eqI own_t1 cs = 0
    · by_cases h2 : own_eqI own_t2 cs = 0
      · by_cases h3 : own_eqI own_t3 cs = 0
        · rw [own_pick_4 h0 h1 h2 h3]; rfl
        · rw [own_pick_3 h0 h1 h2 h3]; rfl
      · rw [own_pick_2 h0 h1 h2]; rfl
    · rw [own_pick_1 h0 h1]; rfl
  · rw [own_pick_0 h0]; rfl
theorem own_tk0 (y0 y1 y2 y3 y4 y5 y6 : Int32) : own_take (0 : Int32) [y0, y1, y2, y3, y4, y5, y6] = [] := rfl
theorem own_tk1 (y0 y1 y2 y3 y4 y5 y6 : Int32) : own_take (1 : Int32) [y0, y1, y2, y3, y4, y5, y6] = [y0] := rfl
theorem own_tk2 (y0 y1 y2 y3 y4 y5 y6 : Int32) : own_take (2 : Int32) [y0, y1, y2, y3, y4, y5, y6] = [y0, y1] := rfl
theorem own_tk3 (y0 y1 y2 y3 y4 y5 y6 : Int32) : own_take (3 : Int32) [y0, y1, y2, y3, y4, y5, y6] = [y0, y1, y2] := rfl
theorem own_tk4 (y0 y1 y2 y3 y4 y5 y6 : Int32) : own_take (4 : Int32) [y0, y1, y2, y3, y4, y5, y6] = [y0, y1, y2, y3] := rfl
theorem own_tk5 (y0 y1 y2 y3 y4 y5 y6 : Int32) : own_take (5 : Int32) [y0, y1, y2, y3, y4, y5, y6] = [y0, y1, y2, y3, y4] := rfl
theorem own_tk6 (y0 y1 y2 y3 y4 y5 y6 : Int32) : own_take (6 : Int32) [y0, y1, y2, y3, y4, y5, y6] = [y0, y1, y2, y3, y4, y5] := rfl
theorem own_tk7 (y0 y1 y2 y3 y4 y5 y6 : Int32) : own_take (7 : Int32) [y0, y1, y2, y3, y4, y5, y6] = [y0, y1, y2, y3, y4, y5, y6] := rfl
def Q8 (Z : State) (x : Addr) (b : Addr) (a5 : Addr) (cs5 : List Int32) (h0 : Heap) (n0 : Nat) (v : Option Value) (h : Heap) (L : List Loc) (vm : Vm) : Prop := ∃ (t : Addr) (kb : ClassId), v = none ∧ Fr n0 L ∧ Keep h0 h [x] ∧ Fld Z h x "java/lang/String" "coder" "B" (.int (0 : Int32)) ∧ Fld Z h x "java/lang/String" "value" "[B" (.ref t) ∧ Arv Z h t kb .byte (0 : Int32) [] (.int (0 : Int32)) ∧ OwnV Z vm "com/example/statementbound/statementbound/statements/internal/KindOfElementPinLaw" a5 cs5 [] own_es0
theorem ef_8 (m : MethodId) (x : Addr) (b : Addr) : entryFrame m #[(.ref x), (.ref b), (.int (0 : Int32)), (.int (0 : Int32)), .null] 6 = mkF m 0 #[.val (.ref x), .val (.ref b), .val (.int (0 : Int32)), .val (.int (0 : Int32)), .val .null, .unset] [] := by first | (simp [entryFrame, mkF, argsToLocals, Value.category]; done) | (simp [entryFrame, mkF, argsToLocals, own_cat_i, own_cat_l, own_cat_r, own_cat_n]; done) | rfl
set_option maxRecDepth 65536 in
set_option maxHeartbeats 40000000 in
theorem rm8 (l : Launch) (Z : State) (a0 : Array Value) (hw : ∀ d ∈ tables_1, d.before a0 Z = true) (x : Addr) (b : Addr) (a5 : Addr) (cs5 : List Int32) (h0 : Heap) (n0 : Nat) (Z0 : n0 ≤ h0.size) (PE_x : Exa Z h0 x "java/lang/String") (PF_x_value : Fld Z h0 x "java/lang/String" "value" "[B" .null) (PF_x_coder : Fld Z h0 x "java/lang/String" "coder" "B" (.int (0 : Int32))) (Pg_x : n0 ≤ x) (hEx : ∀ (b : Addr) (cl : Cell), Z.heap[b]? = some cl → h0[b]? = some cl) (hlS : Jvm.Lit.constHeld Z "java/lang/String" 7) (hcw : Jvm.Lit.compactW.before a0 Z = true) :
    MetW l Z (⟨"java/lang/String", "<init>", "([CIILjava/lang/Void;)V"⟩ : MethodName) jdk_42_method_149_code 6 none ({ frames := 1, cells := 2, slots := 4, locals := 12 } : Room) #[(.ref x), (.ref b), (.int (0 : Int32)), (.int (0 : Int32)), .null] h0 (fun vm => OwnV Z vm "com/example/statementbound/statementbound/statements/internal/KindOfElementPinLaw" a5 cs5 [""] own_es0) (Q8 Z x b a5 cs5 h0 n0) := by
  refine MetW.mk (plainFor_of_name (by first | (simp [plainName, overriddenIn]; done) | decide +kernel)) ?_
  intro p e s m below meth c s₁ vm0 hx hZ hby hml hown hnm hret hlk X0 e0 hS hh hnamed hJ
  have N0 := Fr.nil n0
  refine Go.cast (ef_8 m x b) ?_
  show Go p e below (FinW s (Q8 Z x b a5 cs5 h0 n0) ({ frames := 1, cells := 2, slots := 4, locals := 12 } : Room).cells ({ frames := 1, cells := 2, slots := 4, locals := 12 } : Room).slots) s₁ (mkF m 0 #[.val (.ref x), .val (.ref b), .val (.int (0 : Int32)), .val (.int (0 : Int32)), .val .null, .unset] [])
  have hV : OwnV Z vm0 "com/example/statementbound/statementbound/statements/internal/KindOfElementPinLaw" a5 cs5 [""] own_es0 := hJ
  refine Go.to (mkF m 1 #[.val (.ref x), .val (.ref b), .val (.int (0 : Int32)), .val (.int (0 : Int32)), .val .null, .unset] [(.ref x)]) (fun _ k => XS.aloadN X0.here hx rfl (hb hby d8_0) rfl rfl k) ?_
  obtain ⟨T_1, X_1, e_1, st_1⟩ := initO X0 hx hZ hown (hw _ (List.mem_of_getElem? (i := 47) rfl)) (hw _ (List.mem_of_getElem? (i := 48) rfl)) (hw _ (List.mem_of_getElem? (i := 49) rfl)) e0 (g := (mkF m 1 #[.val (.ref x), .val (.ref b), .val (.int (0 : Int32)), .val (.int (0 : Int32)), .val .null, .unset] [(.ref x)])) rfl (by rw [hml]; rfl) rfl (hb hby d8_1) (by decide) (W := 0) (by show 2 * 0 + _ ≤ _; exact Nat.le_of_eq rfl) (by decide)
  refine Go.to (mkF m 4 #[.val (.ref x), .val (.ref b), .val (.int (0 : Int32)), .val (.int (0 : Int32)), .val .null, .unset] []) st_1 ?_
  refine Go.to (mkF m 5 #[.val (.ref x), .val (.ref b), .val (.int (0 : Int32)), .val (.int (0 : Int32)), .val .null, .unset] [(.int (0 : Int32))]) (fun _ k => XS.iloadN X_1.here hx rfl (hb hby d8_4) rfl  k) ?_
  refine Go.to (mkF m 8 #[.val (.ref x), .val (.ref b), .val (.int (0 : Int32)), .val (.int (0 : Int32)), .val .null, .unset] []) (fun _ k => XS.ifNo X_1.here hx rfl (hb hby d8_5) rfl ((if0 _ _).trans (teq (by decide : (0 : Int32) = (0 : Int32))).2) k) ?_
  refine Go.to (mkF m 9 #[.val (.ref x), .val (.ref b), .val (.int (0 : Int32)), .val (.int (0 : Int32)), .val .null, .unset] [(.ref x)]) (fun _ k => XS.aloadN X_1.here hx rfl (hb hby d8_8) rfl rfl k) ?_
  obtain ⟨a_2, vm_2, T_2, h_2, b_2, k_2, X_2, e_2, E_2, hS_2, hZ_2, hown_2, x1_2, x2_2, x3_2, x4_2, ov_2, L_2, st_2⟩ := own_ldcE (vs := []) (z := (0 : Int32)) X_1 hx hZ hown (hw _ (List.mem_of_getElem? (i := 106) rfl)) (own_wS hw) e_1 hS (Nat.zero_le _) (Fr.nil _) (fun b cl q => by rw [hh]; exact hEx b cl q) hV (by decide +kernel) hlS hcw ⟨by decide, by decide⟩ (by decide) (by decide) (g := (mkF m 9 #[.val (.ref x), .val (.ref b), .val (.int (0 : Int32)), .val (.int (0 : Int32)), .val .null, .unset] [(.ref x)])) rfl (hb hby d8_9) (n := 0) (by decide) (by decide) (by decide) (by decide)
  refine Go.to (mkF m 11 #[.val (.ref x), .val (.ref b), .val (.int (0 : Int32)), .val (.int (0 : Int32)), .val .null, .unset] [(.ref a_2), (.ref x)]) st_2 ?_
  have f_3 : Fld Z h_2 x "java/lang/String" "value" "[B" .null := (PF_x_value.ext E_2)
  have f_4 : Exa Z h_2 x "java/lang/String" := (PE_x.ext E_2)
  have ne_2 : a_2 ≠ x := by
    intro q
    have y1 := x3_2
    rw [q] at y1
    cases own_fld_inj y1 f_3
  have nb_2 : x ≠ b_2 := by
    obtain ⟨cl, y1, -⟩ := id x4_2
    exact ne_arr f_4 (hw _ (List.mem_of_getElem? (i := 2) rfl)) y1
  obtain ⟨T_5, X_5, e_5, st_5⟩ := getF X_2 hx hZ_2 hown_2 (host := "") (Or.inl (hw _ (List.mem_of_getElem? (i := 21) rfl))) Via.refl e_2 x3_2 (g := (mkF m 11 #[.val (.ref x), .val (.ref b), .val (.int (0 : Int32)), .val (.int (0 : Int32)), .val .null, .unset] [(.ref a_2), (.ref x)])) rfl rfl (hb hby d8_11)
  refine Go.to (mkF m 14 #[.val (.ref x), .val (.ref b), .val (.int (0 : Int32)), .val (.int (0 : Int32)), .val .null, .unset] [(.ref b_2), (.ref x)]) st_5 ?_
  obtain ⟨T_6, h_6, X_6, e_6, W_6, st_6⟩ := putF X_5 hx hZ_2 hown_2 (host := "") (Or.inl (hw _ (List.mem_of_getElem? (i := 21) rfl))) Via.refl e_5 f_3 f_4 (Or.inr ⟨(hw _ (List.mem_of_getElem? (i := 4) rfl)), rfl, hnm⟩) (hw _ (List.mem_of_getElem? (i := 2) rfl)) (ty := (.array .byte)) (by decide) rfl rfl (g := (mkF m 14 #[.val (.ref x), .val (.ref b), .val (.int (0 : Int32)), .val (.int (0 : Int32)), .val .null, .unset] [(.ref b_2), (.ref x)])) rfl rfl (hb hby d8_14)
  have N_6 := Fr.snoc X_6 N0 Pg_x
  have Fw_6 : Fld Z h_6 x "java/lang/String" "value" "[B" (.ref b_2) := f_3.same W_6
  refine Go.to (mkF m 17 #[.val (.ref x), .val (.ref b), .val (.int (0 : Int32)), .val (.int (0 : Int32)), .val .null, .unset] []) st_6 ?_
  refine Go.to (mkF m 18 #[.val (.ref x), .val (.ref b), .val (.int (0 : Int32)), .val (.int (0 : Int32)), .val .null, .unset] [(.ref x)]) (fun _ k => XS.aloadN X_6.here hx rfl (hb hby d8_17) rfl rfl k) ?_
  refine Go.to (mkF m 20 #[.val (.ref x), .val (.ref b), .val (.int (0 : Int32)), .val (.int (0 : Int32)), .val .null, .unset] [(.ref a_2), (.ref x)]) (ldcAgain X_6 hx hZ_2 hown_2 (hw _ (List.mem_of_getElem? (i := 106) rfl)) L_2 (g := (mkF m 18 #[.val (.ref x), .val (.ref b), .val (.int (0 : Int32)), .val (.int (0 : Int32)), .val .null, .unset] [(.ref x)])) rfl (hb hby d8_18)) ?_
  have f_7 : Fld Z h_6 a_2 "java/lang/String" "coder" "B" (.int (0 : Int32)) := (x2_2.other W_6 (Or.inl ne_2))
  obtain ⟨T_8, X_8, e_8, st_8⟩ := getF X_6 hx hZ_2 hown_2 (host := "") (Or.inl (hw _ (List.mem_of_getElem? (i := 20) rfl))) Via.refl e_6 f_7 (g := (mkF m 20 #[.val (.ref x), .val (.ref b), .val (.int (0 : Int32)), .val (.int (0 : Int32)), .val .null, .unset] [(.ref a_2), (.ref x)])) rfl rfl (hb hby d8_20)
  refine Go.to (mkF m 23 #[.val (.ref x), .val (.ref b), .val (.int (0 : Int32)), .val (.int (0 : Int32)), .val .null, .unset] [(.int (0 : Int32)), (.ref x)]) st_8 ?_
  have f_9 : Exa Z h_6 x "java/lang/String" := (f_4.wr W_6)
  have f_10 : Fld Z h_6 x "java/lang/String" "coder" "B" (.int (0 : Int32)) := ((PF_x_coder.ext E_2).other W_6 (Or.inr (slot_ne (Or.inr (hw _ (List.mem_of_getElem? (i := 5) rfl))) (Or.inr (hw _ (List.mem_of_getElem? (i := 4) rfl))) (by decide) (t := .byte) (t' := (.array .byte)) (by decide) (by decide))))
  obtain ⟨T_11, h_11, X_11, e_11, W_11, st_11⟩ := putFN X_8 hx hZ_2 hown_2 (hw _ (List.mem_of_getElem? (i := 20) rfl)) Via.refl e_8 f_10 f_9 (Or.inr ⟨(hw _ (List.mem_of_getElem? (i := 5) rfl)), rfl, hnm⟩) (hw _ (List.mem_of_getElem? (i := 2) rfl)) (ty := .byte) (v := (.int (0 : Int32))) (v' := (.int (0 : Int32))) (by decide) rfl (by decide) (g := (mkF m 23 #[.val (.ref x), .val (.ref b), .val (.int (0 : Int32)), .val (.int (0 : Int32)), .val .null, .unset] [(.int (0 : Int32)), (.ref x)])) rfl rfl (hb hby d8_23)
  have N_11 := Fr.snoc X_11 N_6 Pg_x
  have Fw_11 : Fld Z h_11 x "java/lang/String" "coder" "B" (.int (0 : Int32)) := f_10.same W_11
  refine Go.to (mkF m 26 #[.val (.ref x), .val (.ref b), .val (.int (0 : Int32)), .val (.int (0 : Int32)), .val .null, .unset] []) st_11 ?_
  have f_12 : h_2.size ≤ h_11.size := (Nat.le_trans (Nat.le_trans (Nat.le_refl _) (Keep.of_wr W_6).1) (Keep.of_wr W_11).1)
  refine Go.ret0W X_11 hx hret hlk (hb hby d8_26) (by decide) (by decide) hS_2 (by rw [e_11]; exact f_12) ?_
  have f_13 : Keep h0 h_11 [x] := ((((Keep.refl h0 [x]).ext E_2).wr W_6 (Or.inl (List.mem_of_getElem? (i := 0) rfl))).wr W_11 (Or.inl (List.mem_of_getElem? (i := 0) rfl)))
  have f_14 : Fld Z h_11 x "java/lang/String" "value" "[B" (.ref b_2) := (Fw_6.other W_11 (Or.inr (slot_ne (Or.inr (hw _ (List.mem_of_getElem? (i := 4) rfl))) (Or.inr (hw _ (List.mem_of_getElem? (i := 5) rfl))) (by decide) (t := (.array .byte)) (t' := .byte) (by decide) (by decide))))
  have f_15 : Arv Z h_11 b_2 k_2 .byte (0 : Int32) [] (.int (0 : Int32)) := ((x4_2.other W_6 (Ne.symm nb_2)).other W_11 (Ne.symm nb_2))
  show (Q8 Z x b a5 cs5 h0 n0) _ T_11.heap _ _
  rw [e_11]
  exact ⟨b_2, k_2, rfl, N_11, f_13, Fw_11, f_14, f_15, (OwnV.warm (s := s.setVm _) ov_2 X_11.warmed)⟩
theorem own_pd0 : parseMethodDescriptor "([CIILjava/lang/Void;)V" = some ⟨[(.array .char), .int, .int, (.object "java/lang/Void")], none⟩ := by decide +kernel
def Q7 (Z : State) (x : Addr) (b : Addr) (kC : ClassId) (a5 : Addr) (cs5 : List Int32) (h0 : Heap) (n0 : Nat) (v : Option Value) (h : Heap) (L : List Loc) (vm : Vm) : Prop := ∃ (t : Addr) (kb : ClassId), v = none ∧ Fr n0 L ∧ Keep h0 h [x] ∧ Fld Z h x "java/lang/String" "coder" "B" (.int (0 : Int32)) ∧ Fld Z h x "java/lang/String" "value" "[B" (.ref t) ∧ Arv Z h t kb .byte (0 : Int32) [] (.int (0 : Int32)) ∧ OwnV Z vm "com/example/statementbound/statementbound/statements/internal/KindOfElementPinLaw" a5 cs5 [] own_es0
theorem ef_7 (m : MethodId) (x : Addr) (b : Addr) : entryFrame m #[(.ref x), (.ref b)] 2 = mkF m 0 #[.val (.ref x), .val (.ref b)] [] := by first | (simp [entryFrame, mkF, argsToLocals, Value.category]; done) | (simp [entryFrame, mkF, argsToLocals, own_cat_i, own_cat_l, own_cat_r, own_cat_n]; done) | rfl
set_option maxRecDepth 65536 in
set_option maxHeartbeats 40000000 in
theorem rm7 (l : Launch) (Z : State) (a0 : Array Value) (hw : ∀ d ∈ tables_1, d.before a0 Z = true) (x : Addr) (b : Addr) (kC : ClassId) (a5 : Addr) (cs5 : List Int32) (h0 : Heap) (n0 : Nat) (Z0 : n0 ≤ h0.size) (PE_x : Exa Z h0 x "java/lang/String") (PF_x_value : Fld Z h0 x "java/lang/String" "value" "[B" .null) (PF_x_coder : Fld Z h0 x "java/lang/String" "coder" "B" (.int (0 : Int32))) (Pg_x : n0 ≤ x) (PA_b : Arv Z h0 b kC .char (0 : Int32) [] (.int (0 : Int32))) (hEx : ∀ (b : Addr) (cl : Cell), Z.heap[b]? = some cl → h0[b]? = some cl) (hlS : Jvm.Lit.constHeld Z "java/lang/String" 7) (hcw : Jvm.Lit.compactW.before a0 Z = true) :
    MetW l Z (⟨"java/lang/String", "<init>", "([C)V"⟩ : MethodName) jdk_42_method_3_code 2 none ({ frames := 2, cells := 2, slots := 4, locals := 30 } : Room) #[(.ref x), (.ref b)] h0 (fun vm => OwnV Z vm "com/example/statementbound/statementbound/statements/internal/KindOfElementPinLaw" a5 cs5 [""] own_es0) (Q7 Z x b kC a5 cs5 h0 n0) := by
  refine MetW.mk (plainFor_of_name (by first | (simp [plainName, overriddenIn]; done) | decide +kernel)) ?_
  intro p e s m below meth c s₁ vm0 hx hZ hby hml hown hnm hret hlk X0 e0 hS hh hnamed hJ
  have N0 := Fr.nil n0
  refine Go.cast (ef_7 m x b) ?_
  show Go p e below (FinW s (Q7 Z x b kC a5 cs5 h0 n0) ({ frames := 2, cells := 2, slots := 4, locals := 30 } : Room).cells ({ frames := 2, cells := 2, slots := 4, locals := 30 } : Room).slots) s₁ (mkF m 0 #[.val (.ref x), .val (.ref b)] [])
  have hV : OwnV Z vm0 "com/example/statementbound/statementbound/statements/internal/KindOfElementPinLaw" a5 cs5 [""] own_es0 := hJ
  refine Go.to (mkF m 1 #[.val (.ref x), .val (.ref b)] [(.ref x)]) (fun _ k => XS.aloadN X0.here hx rfl (hb hby d7_0) rfl rfl k) ?_
  refine Go.to (mkF m 2 #[.val (.ref x), .val (.ref b)] [(.ref b), (.ref x)]) (fun _ k => XS.aloadN X0.here hx rfl (hb hby d7_1) rfl rfl k) ?_
  refine Go.to (mkF m 3 #[.val (.ref x), .val (.ref b)] [(.int (0 : Int32)), (.ref b), (.ref x)]) (fun _ k => XS.iconst X0.here hx rfl (hb hby d7_2) k) ?_
  refine Go.to (mkF m 4 #[.val (.ref x), .val (.ref b)] [(.ref b), (.int (0 : Int32)), (.ref b), (.ref x)]) (fun _ k => XS.aloadN X0.here hx rfl (hb hby d7_3) rfl rfl k) ?_
  obtain ⟨cl_1, Ar_1, -, Sz_1, Ng_1, -, -⟩ := id PA_b
  refine Go.to (mkF m 5 #[.val (.ref x), .val (.ref b)] [(.int (0 : Int32)), (.int (0 : Int32)), (.ref b), (.ref x)]) (fun _ k => by
    refine X0.arraylength hx (by rw [e0]; exact Ar_1.1) (State.isArrayOf_alike hZ.alike Ar_1.2.1) (g := (mkF m 4 #[.val (.ref x), .val (.ref b)] [(.ref b), (.int (0 : Int32)), (.ref b), (.ref x)])) rfl rfl (hb hby d7_4) _ ?_
    rw [len_of Sz_1 Ng_1]
    exact k) ?_
  refine Go.to (mkF m 6 #[.val (.ref x), .val (.ref b)] [.null, (.int (0 : Int32)), (.int (0 : Int32)), (.ref b), (.ref x)]) (fun _ k => XS.aconstNull X0.here hx rfl (hb hby d7_5) k) ?_
  refine Go.specialS hS (Nat.zero_le _) X0 hx hZ (y := (⟨"java/lang/String", "<init>", "([CIILjava/lang/Void;)V"⟩ : MethodName)) rfl hown (hw _ (List.mem_of_getElem? (i := 43) rfl)) (hw _ (List.mem_of_getElem? (i := 44) rfl)) (hw _ (List.mem_of_getElem? (i := 46) rfl)) (by decide) e0 (a := x) (argsL := [(.ref b), (.int (0 : Int32)), (.int (0 : Int32)), .null]) (rest := []) (MetW.back (W := 0) (rm8 l Z a0 hw x b a5 cs5 h0 n0 Z0 PE_x PF_x_value PF_x_coder Pg_x hEx hlS hcw) hZ (fun _ hv => OwnV.warm (s := s.setVm _) hV hv) (hw _ (List.mem_of_getElem? (i := 46) rfl)) (hw _ (List.mem_of_getElem? (i := 1) rfl)) (by decide) (by decide)) (pc := 6) (Ls := #[.val (.ref x), .val (.ref b)]) (by rw [hml]; rfl) (lenOf own_pd0 rfl) rfl (Nat.le_refl _) (hb hby d7_6) (by decide) (by decide) ?_
  intro T_2 v_2 L_2 X_2 hS_2 hV_2 hZ_2 hown_2 hg_2 hQ_2
  obtain ⟨t_2, kb_2, rfl, Nq_2, K_2, pf_2_0, pf_2_1, pf_2_2, ov_2⟩ := hQ_2
  have N_2 := Fr.app N0 Nq_2
  show Go p e below (FinW s (Q7 Z x b kC a5 cs5 h0 n0) ({ frames := 2, cells := 2, slots := 4, locals := 30 } : Room).cells ({ frames := 2, cells := 2, slots := 4, locals := 30 } : Room).slots) T_2 (mkF m 9 #[.val (.ref x), .val (.ref b)] [])
  refine Go.ret0W X_2 hx hret hlk (hb hby d7_9) (by decide) (by decide) hS_2 (Nat.le_refl _) ?_
  have f_3 : Keep h0 T_2.heap [x] := ((Keep.refl h0 [x]).trans K_2 (allS (Or.inl (List.mem_of_getElem? (i := 0) rfl)) all0))
  show (Q7 Z x b kC a5 cs5 h0 n0) _ T_2.heap _ _
  exact ⟨t_2, kb_2, rfl, N_2, f_3, pf_2_0, pf_2_1, pf_2_2, (OwnV.warm (s := s.setVm _) ov_2 X_2.warmed)⟩
theorem own_pd1 : parseMethodDescriptor "([C)V" = some ⟨[(.array .char)], none⟩ := by decide +kernel
def Q6 (Z : State) (b : Addr) (kC : ClassId) (y0 : Int32) (y1 : Int32) (y2 : Int32) (y3 : Int32) (y4 : Int32) (y5 : Int32) (y6 : Int32) (len : Int32) (a5 : Addr) (cs5 : List Int32) (z : Int32) (h0 : Heap) (n0 : Nat) (v : Option Value) (h : Heap) (L : List Loc) (vm : Vm) : Prop := ∃ (x : Addr) (t : Addr) (kb : ClassId), v = some (.ref x) ∧ Fr n0 L ∧ Keep h0 h [] ∧ Exa Z h x "java/lang/String" ∧ Fld Z h x "java/lang/String" "coder" "B" (.int (0 : Int32)) ∧ Fld Z h x "java/lang/String" "value" "[B" (.ref t) ∧ Arv Z h t kb .byte len (own_str (own_take len ([y0, y1, y2, y3, y4, y5, y6] : List Int32))) (.int (0 : Int32)) ∧ OwnV Z vm "com/example/statementbound/statementbound/statements/internal/KindOfElementPinLaw" a5 cs5 [] own_es0
theorem ef_6 (m : MethodId) (b : Addr) (len : Int32) : entryFrame m #[(.ref b), (.int len)] 2 = mkF m 0 #[.val (.ref b), .val (.int len)] [] := by first | (simp [entryFrame, mkF, argsToLocals, Value.category]; done) | (simp [entryFrame, mkF, argsToLocals, own_cat_i, own_cat_l, own_cat_r, own_cat_n]; done) | rfl
set_option maxRecDepth 65536 in
set_option maxHeartbeats 40000000 in
theorem rm6 (l : Launch) (Z : State) (a0 : Array Value) (hw : ∀ d ∈ tables_1, d.before a0 Z = true) (b : Addr) (kC : ClassId) (y0 : Int32) (y1 : Int32) (y2 : Int32) (y3 : Int32) (y4 : Int32) (y5 : Int32) (y6 : Int32) (len : Int32) (a5 : Addr) (cs5 : List Int32) (z : Int32) (h0 : Heap) (n0 : Nat) (Z0 : n0 ≤ h0.size) (PA_b : Arv Z h0 b kC .char (7 : Int32) [(.int y0), (.int y1), (.int y2), (.int y3), (.int y4), (.int y5), (.int y6)] (.int (0 : Int32))) (PS_java_lang_String_COMPACT_STRINGS : Sta Z h0 "java/lang/String" "COMPACT_STRINGS" "Z" (.int z)) (hz : ¬ z = 0) (hy0 : ¬ y0 < 0 ∧ ¬ (255 : Int32) < y0) (hy1 : ¬ y1 < 0 ∧ ¬ (255 : Int32) < y1) (hy2 : ¬ y2 < 0 ∧ ¬ (255 : Int32) < y2) (hy3 : ¬ y3 < 0 ∧ ¬ (255 : Int32) < y3) (hy4 : ¬ y4 < 0 ∧ ¬ (255 : Int32) < y4) (hy5 : ¬ y5 < 0 ∧ ¬ (255 : Int32) < y5) (hy6 : ¬ y6 < 0 ∧ ¬ (255 : Int32) < y6) (hl0 : ¬ len < 0) (hl7 : ¬ (7 : Int32) < len) (hEx : ∀ (b : Addr) (cl : Cell), Z.heap[b]? = some cl → h0[b]? = some cl) (hlS : Jvm.Lit.constHeld Z "java/lang/String" 7) (hcw : Jvm.Lit.compactW.before a0 Z = true) :
    MetW l Z (⟨"com/example/statementbound/statementbound/statements/internal/KindOfElementPinLaw", "take", "([CI)Ljava/lang/String;"⟩ : MethodName) method_4_code 2 (some (.object "java/lang/String")) ({ frames := 4, cells := 4, slots := 24, locals := 72 } : Room) #[(.ref b), (.int len)] h0 (fun vm => OwnV Z vm "com/example/statementbound/statementbound/statements/internal/KindOfElementPinLaw" a5 cs5 [""] own_es0) (Q6 Z b kC y0 y1 y2 y3 y4 y5 y6 len a5 cs5 z h0 n0) := by
  refine MetW.mk (plainFor_of_name (by first | (simp [plainName, overriddenIn]; done) | decide +kernel)) ?_
  intro p e s m below meth c s₁ vm0 hx hZ hby hml hown hnm hret hlk X0 e0 hS hh hnamed hJ
  have N0 := Fr.nil n0
  refine Go.cast (ef_6 m b len) ?_
  show Go p e below (FinW s (Q6 Z b kC y0 y1 y2 y3 y4 y5 y6 len a5 cs5 z h0 n0) ({ frames := 4, cells := 4, slots := 24, locals := 72 } : Room).cells ({ frames := 4, cells := 4, slots := 24, locals := 72 } : Room).slots) s₁ (mkF m 0 #[.val (.ref b), .val (.int len)] [])
  have hV : OwnV Z vm0 "com/example/statementbound/statementbound/statements/internal/KindOfElementPinLaw" a5 cs5 [""] own_es0 := hJ
  refine Go.to (mkF m 1 #[.val (.ref b), .val (.int len)] [(.int len)]) (fun _ k => XS.iloadN X0.here hx rfl (hb hby d6_0) rfl  k) ?_
  by_cases q0 : len = (0 : Int32)
  · refine Go.to (mkF m 4 #[.val (.ref b), .val (.int len)] []) (fun _ k => XS.ifNo X0.here hx rfl (hb hby d6_1) rfl ((if0 _ _).trans (teq q0).2) k) ?_
    obtain ⟨T_1, h_1, X_1, e_1, E_1, A_1, D_1, -, st_1⟩ := newO X0 hx hZ hown (hw _ (List.mem_of_getElem? (i := 39) rfl)) (hw _ (List.mem_of_getElem? (i := 2) rfl)) (hw _ (List.mem_of_getElem? (i := 1) rfl)) e0 (g := (mkF m 4 #[.val (.ref b), .val (.int len)] [])) rfl (hb hby d6_4) (by decide) (by decide)
    obtain ⟨b_1, g_1⟩ : ∃ z, z = h0.size := ⟨_, rfl⟩
    rw [← g_1] at A_1 D_1 st_1
    have g_b_1 : n0 ≤ b_1 := Nat.le_trans Z0 (Nat.le_of_eq g_1.symm)
    have sz_b_1 : h0.size ≤ b_1 := Nat.le_trans (Keep.refl h0 []).1 (Nat.le_of_eq g_1.symm)
    have ne_b_b_1 : b ≠ b_1 := Nat.ne_of_lt (Nat.lt_of_lt_of_le PA_b.lt (Nat.le_of_eq g_1.symm))
    have F_value_b_1 : Fld Z h_1 b_1 "java/lang/String" "value" "[B" .null := D_1 (Or.inr (hw _ (List.mem_of_getElem? (i := 4) rfl))) (ty := (.array .byte)) (by decide)
    have F_coder_b_1 : Fld Z h_1 b_1 "java/lang/String" "coder" "B" (.int (0 : Int32)) := D_1 (Or.inr (hw _ (List.mem_of_getElem? (i := 5) rfl))) (ty := .byte) (by decide)
    refine Go.to (mkF m 7 #[.val (.ref b), .val (.int len)] [(.ref b_1)]) st_1 ?_
    refine Go.to (mkF m 8 #[.val (.ref b), .val (.int len)] [(.ref b_1), (.ref b_1)]) (fun _ k => XS.dup X_1.here hx rfl (hb hby d6_7) rfl rfl k) ?_
    refine Go.to (mkF m 9 #[.val (.ref b), .val (.int len)] [(.int (0 : Int32)), (.ref b_1), (.ref b_1)]) (fun _ k => XS.iconst X_1.here hx rfl (hb hby d6_8) k) ?_
    have f_3 : Arv Z h_1 b kC .char (7 : Int32) [(.int y0), (.int y1), (.int y2), (.int y3), (.int y4), (.int y5), (.int y6)] (.int (0 : Int32)) := (PA_b.ext E_1)
    have f_4 : n0 ≤ h_1.size := (Nat.le_trans Z0 E_1.1)
    have f_5 : Keep h0 h_1 [] := ((Keep.refl h0 []).ext E_1)
    obtain ⟨T_2, h_2, k_2, X_2, e_2, E_2, A_2, st_2⟩ := newP X_1 hx hZ (hw _ (List.mem_of_getElem? (i := 8) rfl)) e_1 (g := (mkF m 9 #[.val (.ref b), .val (.int len)] [(.int (0 : Int32)), (.ref b_1), (.ref b_1)])) rfl (hb hby d6_9) rfl (by decide) (cap := 0) (by decide) (by decide) (by decide) (by decide)
    obtain ⟨b_2, g_2⟩ : ∃ z, z = h_1.size := ⟨_, rfl⟩
    rw [← g_2] at A_2 st_2
    have g_b_2 : n0 ≤ b_2 := Nat.le_trans f_4 (Nat.le_of_eq g_2.symm)
    have sz_b_2 : h0.size ≤ b_2 := Nat.le_trans f_5.1 (Nat.le_of_eq g_2.symm)
    have ne_b_b_2 : b ≠ b_2 := Nat.ne_of_lt (Nat.lt_of_lt_of_le f_3.lt (Nat.le_of_eq g_2.symm))
    have ne_b_1_b_2 : b_1 ≠ b_2 := Nat.ne_of_lt (Nat.lt_of_lt_of_le A_1.lt (Nat.le_of_eq g_2.symm))
    have V_b_2 : Arv Z h_2 b_2 k_2 .char (0 : Int32) [] (.int (0 : Int32)) := (Arv.new A_2 (by decide)).pad (pad_rep [] (.int (0 : Int32)) 0)
    refine Go.to (mkF m 11 #[.val (.ref b), .val (.int len)] [(.ref b_2), (.ref b_1), (.ref b_1)]) st_2 ?_
    have f_6 : Keep h0 h_2 [] := (f_5.ext E_2)
    have hEy : ∀ (b : Addr) (cl : Cell), Z.heap[b]? = some cl → h_2[b]? = some cl := fun b cl q => f_6.2.1 b cl (hEx b cl q) (fun r => nomatch r)
    have f_7 : Exa Z h_2 b_1 "java/lang/String" := (A_1.ext E_2)
    have f_8 : Fld Z h_2 b_1 "java/lang/String" "value" "[B" .null := (F_value_b_1.ext E_2)
    have f_9 : Fld Z h_2 b_1 "java/lang/String" "coder" "B" (.int (0 : Int32)) := (F_coder_b_1.ext E_2)
    have f_10 : n0 ≤ h_2.size := (Nat.le_trans f_4 E_2.1)
    have f_11 : 0 ≤ h_2.size := (Nat.le_trans (Nat.le_trans (Nat.zero_le _) E_1.1) E_2.1)
    refine Go.specialS hS f_11 X_2 hx hZ (y := (⟨"java/lang/String", "<init>", "([C)V"⟩ : MethodName)) rfl hown (hw _ (List.mem_of_getElem? (i := 40) rfl)) (hw _ (List.mem_of_getElem? (i := 41) rfl)) (hw _ (List.mem_of_getElem? (i := 42) rfl)) (by decide) e_2 (a := b_1) (argsL := [(.ref b_2)]) (rest := [(.ref b_1)]) (MetW.back (W := 1) (rm7 l Z a0 hw b_1 b_2 k_2 a5 cs5 h_2 n0 f_10 f_7 f_8 f_9 g_b_1 V_b_2 hEy hlS hcw) hZ (fun _ hv => OwnV.warm (s := s.setVm _) hV hv) (hw _ (List.mem_of_getElem? (i := 42) rfl)) (hw _ (List.mem_of_getElem? (i := 1) rfl)) (by decide) (by decide)) (pc := 11) (Ls := #[.val (.ref b), .val (.int len)]) (by rw [hml]; rfl) (lenOf own_pd1 rfl) rfl (Nat.le_refl _) (hb hby d6_11) (by decide) (by decide) ?_
    intro T_12 v_12 L_12 X_12 hS_12 hV_12 hZ_12 hown_12 hg_12 hQ_12
    obtain ⟨t_12, kb_12, rfl, Nq_12, K_12, pf_12_0, pf_12_1, pf_12_2, ov_12⟩ := hQ_12
    have N_12 := Fr.app N0 Nq_12
    have f_13 : Arv Z h_2 b kC .char (7 : Int32) [(.int y0), (.int y1), (.int y2), (.int y3), (.int y4), (.int y5), (.int y6)] (.int (0 : Int32)) := (f_3.ext E_2)
    show Go p e below (FinW s (Q6 Z b kC y0 y1 y2 y3 y4 y5 y6 len a5 cs5 z h0 n0) ({ frames := 4, cells := 4, slots := 24, locals := 72 } : Room).cells ({ frames := 4, cells := 4, slots := 24, locals := 72 } : Room).slots) T_12 (mkF m 14 #[.val (.ref b), .val (.int len)] [(.ref b_1)])
    refine Go.retAW X_12 hx (t := (.object "java/lang/String")) hret hlk rfl rfl (hb hby d6_14) (by decide) (by decide) hS_12 (Nat.le_refl _) ?_
    have f_14 : Keep h0 T_12.heap [] := (f_6.trans K_12 (allS (Or.inr sz_b_1) all0))
    have f_15 : Exa Z T_12.heap b_1 "java/lang/String" := (f_7.keep K_12)
    show (Q6 Z b kC y0 y1 y2 y3 y4 y5 y6 len a5 cs5 z h0 n0) _ T_12.heap _ _
    exact ⟨b_1, t_12, kb_12, rfl, N_12, f_14, f_15, pf_12_0, pf_12_1, (by rw [q0, own_tk0]; exact pf_12_2), (OwnV.warm (s := s.setVm _) ov_12 X_12.warmed)⟩
  · refine Go.to (mkF m 15 #[.val (.ref b), .val (.int len)] []) (fun _ k => XS.ifYes X0.here hx rfl (pc0 := 1) (pc' := 15) rfl (hb hby d6_1) rfl ((if0 _ _).trans (feq q0).2) (by decide) (by decide) k) ?_
    refine Go.to (mkF m 16 #[.val (.ref b), .val (.int len)] [(.int len)]) (fun _ k => XS.iloadN X0.here hx rfl (hb hby d6_15) rfl  k) ?_
    refine Go.to (mkF m 17 #[.val (.ref b), .val (.int len)] [(.int (1 : Int32)), (.int len)]) (fun _ k => XS.iconst X0.here hx rfl (hb hby d6_16) k) ?_
    by_cases q1 : len = (1 : Int32)
    · refine Go.to (mkF m 20 #[.val (.ref b), .val (.int len)] []) (fun _ k => XS.icmpNo X0.here hx rfl (hb hby d6_17) rfl (teq q1).2 k) ?_
      obtain ⟨T_16, h_16, X_16, e_16, E_16, A_16, D_16, -, st_16⟩ := newO X0 hx hZ hown (hw _ (List.mem_of_getElem? (i := 39) rfl)) (hw _ (List.mem_of_getElem? (i := 2) rfl)) (hw _ (List.mem_of_getElem? (i := 1) rfl)) e0 (g := (mkF m 20 #[.val (.ref b), .val (.int len)] [])) rfl (hb hby d6_20) (by decide) (by decide)
      obtain ⟨b_16, g_16⟩ : ∃ z, z = h0.size := ⟨_, rfl⟩
      rw [← g_16] at A_16 D_16 st_16
      have g_b_16 : n0 ≤ b_16 := Nat.le_trans Z0 (Nat.le_of_eq g_16.symm)
      have sz_b_16 : h0.size ≤ b_16 := Nat.le_trans (Keep.refl h0 []).1 (Nat.le_of_eq g_16.symm)
      have ne_b_b_16 : b ≠ b_16 := Nat.ne_of_lt (Nat.lt_of_lt_of_le PA_b.lt (Nat.le_of_eq g_16.symm))
      have F_value_b_16 : Fld Z h_16 b_16 "java/lang/String" "value" "[B" .null := D_16 (Or.inr (hw _ (List.mem_of_getElem? (i := 4) rfl))) (ty := (.array .byte)) (by decide)
      have F_coder_b_16 : Fld Z h_16 b_16 "java/lang/String" "coder" "B" (.int (0 : Int32)) := D_16 (Or.inr (hw _ (List.mem_of_getElem? (i := 5) rfl))) (ty := .byte) (by decide)
      refine Go.to (mkF m 23 #[.val (.ref b), .val (.int len)] [(.ref b_16)]) st_16 ?_
      refine Go.to (mkF m 24 #[.val (.ref b), .val (.int len)] [(.ref b_16), (.ref b_16)]) (fun _ k => XS.dup X_16.here hx rfl (hb hby d6_23) rfl rfl k) ?_
      refine Go.to (mkF m 25 #[.val (.ref b), .val (.int len)] [(.int (1 : Int32)), (.ref b_16), (.ref b_16)]) (fun _ k => XS.iconst X_16.here hx rfl (hb hby d6_24) k) ?_
      have f_18 : Arv Z h_16 b kC .char (7 : Int32) [(.int y0), (.int y1), (.int y2), (.int y3), (.int y4), (.int y5), (.int y6)] (.int (0 : Int32)) := (PA_b.ext E_16)
      have f_19 : n0 ≤ h_16.size := (Nat.le_trans Z0 E_16.1)
      have f_20 : Keep h0 h_16 [] := ((Keep.refl h0 []).ext E_16)
      obtain ⟨T_17, h_17, k_17, X_17, e_17, E_17, A_17, st_17⟩ := newP X_16 hx hZ (hw _ (List.mem_of_getElem? (i := 8) rfl)) e_16 (g := (mkF m 25 #[.val (.ref b), .val (.int len)] [(.int (1 : Int32)), (.ref b_16), (.ref b_16)])) rfl (hb hby d6_25) rfl (by decide) (cap := 1) (by decide) (by decide) (by decide) (by decide)
      obtain ⟨b_17, g_17⟩ : ∃ z, z = h_16.size := ⟨_, rfl⟩
      rw [← g_17] at A_17 st_17
      have g_b_17 : n0 ≤ b_17 := Nat.le_trans f_19 (Nat.le_of_eq g_17.symm)
      have sz_b_17 : h0.size ≤ b_17 := Nat.le_trans f_20.1 (Nat.le_of_eq g_17.symm)
      have ne_b_b_17 : b ≠ b_17 := Nat.ne_of_lt (Nat.lt_of_lt_of_le f_18.lt (Nat.le_of_eq g_17.symm))
      have ne_b_16_b_17 : b_16 ≠ b_17 := Nat.ne_of_lt (Nat.lt_of_lt_of_le A_16.lt (Nat.le_of_eq g_17.symm))
      have V_b_17 : Arv Z h_17 b_17 k_17 .char (1 : Int32) [(.int (0 : Int32))] (.int (0 : Int32)) := (Arv.new A_17 (by decide)).pad (pad_rep [] (.int (0 : Int32)) 1)
      refine Go.to (mkF m 27 #[.val (.ref b), .val (.int len)] [(.ref b_17), (.ref b_16), (.ref b_16)]) st_17 ?_
      refine Go.to (mkF m 28 #[.val (.ref b), .val (.int len)] [(.ref b_17), (.ref b_17), (.ref b_16), (.ref b_16)]) (fun _ k => XS.dup X_17.here hx rfl (hb hby d6_27) rfl rfl k) ?_
      refine Go.to (mkF m 29 #[.val (.ref b), .val (.int len)] [(.int (0 : Int32)), (.ref b_17), (.ref b_17), (.ref b_16), (.ref b_16)]) (fun _ k => XS.iconst X_17.here hx rfl (hb hby d6_28) k) ?_
      refine Go.to (mkF m 30 #[.val (.ref b), .val (.int len)] [(.ref b), (.int (0 : Int32)), (.ref b_17), (.ref b_17), (.ref b_16), (.ref b_16)]) (fun _ k => XS.aloadN X_17.here hx rfl (hb hby d6_29) rfl rfl k) ?_
      refine Go.to (mkF m 31 #[.val (.ref b), .val (.int len)] [(.int (0 : Int32)), (.ref b), (.int (0 : Int32)), (.ref b_17), (.ref b_17), (.ref b_16), (.ref b_16)]) (fun _ k => XS.iconst X_17.here hx rfl (hb hby d6_30) k) ?_
      have f_21 : Arv Z h_17 b kC .char (7 : Int32) [(.int y0), (.int y1), (.int y2), (.int y3), (.int y4), (.int y5), (.int y6)] (.int (0 : Int32)) := (f_18.ext E_17)
      obtain ⟨cl_22, Ar_22, -, Sz_22, Ng_22, Hh_22, -⟩ := id f_21
      have hin_22 : ¬ ((0 : Int32) < 0 ∨ cl_22.slots.size ≤ ((0 : Int32)).toNatClampNeg) := inb_of Sz_22 ⟨by decide, by decide⟩
      refine Go.to (mkF m 32 #[.val (.ref b), .val (.int len)] [(.int y0), (.int (0 : Int32)), (.ref b_17), (.ref b_17), (.ref b_16), (.ref b_16)]) (X_17.caload hx (j := (0 : Int32)) (v := (.int y0)) (by rw [e_17]; exact Ar_22.1) (State.isArrayOf_alike hZ.alike Ar_22.2.1) Ar_22.2.2 hin_22 (Hh_22.at hin_22 rfl) (g := (mkF m 31 #[.val (.ref b), .val (.int len)] [(.int (0 : Int32)), (.ref b), (.int (0 : Int32)), (.ref b_17), (.ref b_17), (.ref b_16), (.ref b_16)])) rfl rfl (hb hby d6_31)) ?_
      obtain ⟨cl_23, Ar_23, q_23, Sz_23, Ng_23, Hh_23, Gg_23⟩ := id V_b_17
      have hin_23 : ¬ ((0 : Int32) < 0 ∨ cl_23.slots.size ≤ ((0 : Int32)).toNatClampNeg) := inb_of Sz_23 ⟨by decide, by decide⟩
      obtain ⟨T_23, h_23, X_23, e_23, W_23, st_23⟩ := stC X_17 hx hZ e_17 Ar_23 (j := (0 : Int32)) hin_23 (g := (mkF m 32 #[.val (.ref b), .val (.int len)] [(.int y0), (.int (0 : Int32)), (.ref b_17), (.ref b_17), (.ref b_16), (.ref b_16)])) rfl rfl (hb hby d6_32)
      have N_23 := Fr.snoc X_23 N0 g_b_17
      have V_23 : Arv Z h_23 b_17 k_17 .char (1 : Int32) [(.int (nar .char y0))] (.int (0 : Int32)) := Arv.set Ar_23 q_23 Sz_23 Ng_23 Hh_23 Gg_23 (fits_nar_char _) W_23 0 rfl (Nat.le_of_ble_eq_true rfl)
      have Vn_23 : Arv Z h_23 b_17 k_17 .char (1 : Int32) [(.int y0)] (.int (0 : Int32)) := by have q := V_23; rw [own_nc hy0] at q; exact q
      refine Go.to (mkF m 33 #[.val (.ref b), .val (.int len)] [(.ref b_17), (.ref b_16), (.ref b_16)]) st_23 ?_
      have hp1 : ∀ c ∈ ([y0] : List Int32), ¬ c < 0 ∧ ¬ (255 : Int32) < c := (own_cS hy0 own_c0)
      have f_24 : Exa Z h_23 b_16 "java/lang/String" := ((A_16.ext E_17).wr W_23)
      have f_25 : Fld Z h_23 b_16 "java/lang/String" "value" "[B" .null := ((F_value_b_16.ext E_17).other W_23 (Or.inl ne_b_16_b_17))
      have f_26 : Fld Z h_23 b_16 "java/lang/String" "coder" "B" (.int (0 : Int32)) := ((F_coder_b_16.ext E_17).other W_23 (Or.inl ne_b_16_b_17))
      have f_27 : Sta Z h_23 "java/lang/String" "COMPACT_STRINGS" "Z" (.int z) := (((PS_java_lang_String_COMPACT_STRINGS.ext E_16).ext E_17).wr W_23)
      have f_28 : n0 ≤ h_23.size := (Nat.le_trans (Nat.le_trans f_19 E_17.1) (Keep.of_wr W_23).1)
      refine Go.special X_23 hx hZ (y := (⟨"java/lang/String", "<init>", "([C)V"⟩ : MethodName)) rfl hown (hw _ (List.mem_of_getElem? (i := 40) rfl)) (hw _ (List.mem_of_getElem? (i := 41) rfl)) (hw _ (List.mem_of_getElem? (i := 42) rfl)) (by decide) e_23 (a := b_16) (argsL := [(.ref b_17)]) (rest := [(.ref b_16)]) (own_newS (W := 1) hZ hw (hw _ (List.mem_of_getElem? (i := 2) rfl)) (cs := ([y0] : List Int32)) (n := 1) g_b_16 f_28 f_24 f_25 f_26 Vn_23 f_27 hz rfl rfl (by decide) (by decide) hp1 (by decide) (by decide)) (pc := 33) (Ls := #[.val (.ref b), .val (.int len)]) (by rw [hml]; rfl) (lenOf own_pd1 rfl) rfl (Nat.le_refl _) (hb hby d6_33) (by decide) (by decide) ?_
      intro T_29 v_29 L_29 X_29 hQ_29
      obtain ⟨t_29, kb_29, rfl, Nq_29, K_29, pf_29_0, pf_29_1, pf_29_2, sz_t_29⟩ := hQ_29
      have N_29 := Fr.app N_23 Nq_29
      have f_30 : Arv Z h_23 b kC .char (7 : Int32) [(.int y0), (.int y1), (.int y2), (.int y3), (.int y4), (.int y5), (.int y6)] (.int (0 : Int32)) := (f_21.other W_23 ne_b_b_17)
      have f_31 : Keep h0 h_23 [] := ((f_20.ext E_17).wr W_23 (Or.inr sz_b_17))
      show Go p e below (FinW s (Q6 Z b kC y0 y1 y2 y3 y4 y5 y6 len a5 cs5 z h0 n0) ({ frames := 4, cells := 4, slots := 24, locals := 72 } : Room).cells ({ frames := 4, cells := 4, slots := 24, locals := 72 } : Room).slots) T_29 (mkF m 36 #[.val (.ref b), .val (.int len)] [(.ref b_16)])
      have g_t_29 : n0 ≤ t_29 := Nat.le_trans f_28 sz_t_29
      have ne_b_t_29 : b ≠ t_29 := Nat.ne_of_lt (Nat.lt_of_lt_of_le f_30.lt sz_t_29)
      have ne_b_16_t_29 : b_16 ≠ t_29 := Nat.ne_of_lt (Nat.lt_of_lt_of_le f_24.lt sz_t_29)
      have ne_b_17_t_29 : b_17 ≠ t_29 := Nat.ne_of_lt (Nat.lt_of_lt_of_le Vn_23.lt sz_t_29)
      have sz_t_29 : h0.size ≤ t_29 := Nat.le_trans f_31.1 sz_t_29
      have f_32 : 0 ≤ T_29.heap.size := (Nat.le_trans (Nat.le_trans (Nat.le_trans (Nat.le_trans (Nat.zero_le _) E_16.1) E_17.1) (Keep.of_wr W_23).1) K_29.1)
      refine Go.retAW X_29 hx (t := (.object "java/lang/String")) hret hlk rfl rfl (hb hby d6_36) (by decide) (by decide) hS f_32 ?_
      have f_33 : Keep h0 T_29.heap [] := (f_31.trans K_29 (allS (Or.inr sz_b_16) all0))
      have f_34 : Exa Z T_29.heap b_16 "java/lang/String" := (f_24.keep K_29)
      show (Q6 Z b kC y0 y1 y2 y3 y4 y5 y6 len a5 cs5 z h0 n0) _ T_29.heap _ _
      exact ⟨b_16, t_29, kb_29, rfl, N_29, f_33, f_34, pf_29_0, pf_29_1, (by rw [q1, own_tk1]; exact pf_29_2), (OwnV.less (OwnV.warm (s := s.setVm _) hV X_29.warmed))⟩
    · refine Go.to (mkF m 37 #[.val (.ref b), .val (.int len)] []) (fun _ k => XS.icmpYes X0.here hx rfl (pc0 := 17) (pc' := 37) rfl (hb hby d6_17) rfl (feq q1).2 (by decide) (by decide) k) ?_
      refine Go.to (mkF m 38 #[.val (.ref b), .val (.int len)] [(.int len)]) (fun _ k => XS.iloadN X0.here hx rfl (hb hby d6_37) rfl  k) ?_
      refine Go.to (mkF m 39 #[.val (.ref b), .val (.int len)] [(.int (2 : Int32)), (.int len)]) (fun _ k => XS.iconst X0.here hx rfl (hb hby d6_38) k) ?_
      by_cases q2 : len = (2 : Int32)
      · refine Go.to (mkF m 42 #[.val (.ref b), .val (.int len)] []) (fun _ k => XS.icmpNo X0.here hx rfl (hb hby d6_39) rfl (teq q2).2 k) ?_
        obtain ⟨T_35, h_35, X_35, e_35, E_35, A_35, D_35, -, st_35⟩ := newO X0 hx hZ hown (hw _ (List.mem_of_getElem? (i := 39) rfl)) (hw _ (List.mem_of_getElem? (i := 2) rfl)) (hw _ (List.mem_of_getElem? (i := 1) rfl)) e0 (g := (mkF m 42 #[.val (.ref b), .val (.int len)] [])) rfl (hb hby d6_42) (by decide) (by decide)
        obtain ⟨b_35, g_35⟩ : ∃ z, z = h0.size := ⟨_, rfl⟩
        rw [← g_35] at A_35 D_35 st_35
        have g_b_35 : n0 ≤ b_35 := Nat.le_trans Z0 (Nat.le_of_eq g_35.symm)
        have sz_b_35 : h0.size ≤ b_35 := Nat.le_trans (Keep.refl h0 []).1 (Nat.le_of_eq g_35.symm)
        have ne_b_b_35 : b ≠ b_35 := Nat.ne_of_lt (Nat.lt_of_lt_of_le PA_b.lt (Nat.le_of_eq g_35.symm))
        have F_value_b_35 : Fld Z h_35 b_35 "java/lang/String" "value" "[B" .null := D_35 (Or.inr (hw _ (List.mem_of_getElem? (i := 4) rfl))) (ty := (.array .byte)) (by decide)
        have F_coder_b_35 : Fld Z h_35 b_35 "java/lang/String" "coder" "B" (.int (0 : Int32)) := D_35 (Or.inr (hw _ (List.mem_of_getElem? (i := 5) rfl))) (ty := .byte) (by decide)
        refine Go.to (mkF m 45 #[.val (.ref b), .val (.int len)] [(.ref b_35)]) st_35 ?_
        refine Go.to (mkF m 46 #[.val (.ref b), .val (.int len)] [(.ref b_35), (.ref b_35)]) (fun _ k => XS.dup X_35.here hx rfl (hb hby d6_45) rfl rfl k) ?_
        refine Go.to (mkF m 47 #[.val (.ref b), .val (.int len)] [(.int (2 : Int32)), (.ref b_35), (.ref b_35)]) (fun _ k => XS.iconst X_35.here hx rfl (hb hby d6_46) k) ?_
        have f_37 : Arv Z h_35 b kC .char (7 : Int32) [(.int y0), (.int y1), (.int y2), (.int y3), (.int y4), (.int y5), (.int y6)] (.int (0 : Int32)) := (PA_b.ext E_35)
        have f_38 : n0 ≤ h_35.size := (Nat.le_trans Z0 E_35.1)
        have f_39 : Keep h0 h_35 [] := ((Keep.refl h0 []).ext E_35)
        obtain ⟨T_36, h_36, k_36, X_36, e_36, E_36, A_36, st_36⟩ := newP X_35 hx hZ (hw _ (List.mem_of_getElem? (i := 8) rfl)) e_35 (g := (mkF m 47 #[.val (.ref b), .val (.int len)] [(.int (2 : Int32)), (.ref b_35), (.ref b_35)])) rfl (hb hby d6_47) rfl (by decide) (cap := 2) (by decide) (by decide) (by decide) (by decide)
        obtain ⟨b_36, g_36⟩ : ∃ z, z = h_35.size := ⟨_, rfl⟩
        rw [← g_36] at A_36 st_36
        have g_b_36 : n0 ≤ b_36 := Nat.le_trans f_38 (Nat.le_of_eq g_36.symm)
        have sz_b_36 : h0.size ≤ b_36 := Nat.le_trans f_39.1 (Nat.le_of_eq g_36.symm)
        have ne_b_b_36 : b ≠ b_36 := Nat.ne_of_lt (Nat.lt_of_lt_of_le f_37.lt (Nat.le_of_eq g_36.symm))
        have ne_b_35_b_36 : b_35 ≠ b_36 := Nat.ne_of_lt (Nat.lt_of_lt_of_le A_35.lt (Nat.le_of_eq g_36.symm))
        have V_b_36 : Arv Z h_36 b_36 k_36 .char (2 : Int32) [(.int (0 : Int32)), (.int (0 : Int32))] (.int (0 : Int32)) := (Arv.new A_36 (by decide)).pad (pad_rep [] (.int (0 : Int32)) 2)
        refine Go.to (mkF m 49 #[.val (.ref b), .val (.int len)] [(.ref b_36), (.ref b_35), (.ref b_35)]) st_36 ?_
        refine Go.to (mkF m 50 #[.val (.ref b), .val (.int len)] [(.ref b_36), (.ref b_36), (.ref b_35), (.ref b_35)]) (fun _ k => XS.dup X_36.here hx rfl (hb hby d6_49) rfl rfl k) ?_
        refine Go.to (mkF m 51 #[.val (.ref b), .val (.int len)] [(.int (0 : Int32)), (.ref b_36), (.ref b_36), (.ref b_35), (.ref b_35)]) (fun _ k => XS.iconst X_36.here hx rfl (hb hby d6_50) k) ?_
        refine Go.to (mkF m 52 #[.val (.ref b), .val (.int len)] [(.ref b), (.int (0 : Int32)), (.ref b_36), (.ref b_36), (.ref b_35), (.ref b_35)]) (fun _ k => XS.aloadN X_36.here hx rfl (hb hby d6_51) rfl rfl k) ?_
        refine Go.to (mkF m 53 #[.val (.ref b), .val (.int len)] [(.int (0 : Int32)), (.ref b), (.int (0 : Int32)), (.ref b_36), (.ref b_36), (.ref b_35), (.ref b_35)]) (fun _ k => XS.iconst X_36.here hx rfl (hb hby d6_52) k) ?_
        have f_40 : Arv Z h_36 b kC .char (7 : Int32) [(.int y0), (.int y1), (.int y2), (.int y3), (.int y4), (.int y5), (.int y6)] (.int (0 : Int32)) := (f_37.ext E_36)
        obtain ⟨cl_41, Ar_41, -, Sz_41, Ng_41, Hh_41, -⟩ := id f_40
        have hin_41 : ¬ ((0 : Int32) < 0 ∨ cl_41.slots.size ≤ ((0 : Int32)).toNatClampNeg) := inb_of Sz_41 ⟨by decide, by decide⟩
        refine Go.to (mkF m 54 #[.val (.ref b), .val (.int len)] [(.int y0), (.int (0 : Int32)), (.ref b_36), (.ref b_36), (.ref b_35), (.ref b_35)]) (X_36.caload hx (j := (0 : Int32)) (v := (.int y0)) (by rw [e_36]; exact Ar_41.1) (State.isArrayOf_alike hZ.alike Ar_41.2.1) Ar_41.2.2 hin_41 (Hh_41.at hin_41 rfl) (g := (mkF m 53 #[.val (.ref b), .val (.int len)] [(.int (0 : Int32)), (.ref b), (.int (0 : Int32)), (.ref b_36), (.ref b_36), (.ref b_35), (.ref b_35)])) rfl rfl (hb hby d6_53)) ?_
        obtain ⟨cl_42, Ar_42, q_42, Sz_42, Ng_42, Hh_42, Gg_42⟩ := id V_b_36
        have hin_42 : ¬ ((0 : Int32) < 0 ∨ cl_42.slots.size ≤ ((0 : Int32)).toNatClampNeg) := inb_of Sz_42 ⟨by decide, by decide⟩
        obtain ⟨T_42, h_42, X_42, e_42, W_42, st_42⟩ := stC X_36 hx hZ e_36 Ar_42 (j := (0 : Int32)) hin_42 (g := (mkF m 54 #[.val (.ref b), .val (.int len)] [(.int y0), (.int (0 : Int32)), (.ref b_36), (.ref b_36), (.ref b_35), (.ref b_35)])) rfl rfl (hb hby d6_54)
        have N_42 := Fr.snoc X_42 N0 g_b_36
        have V_42 : Arv Z h_42 b_36 k_36 .char (2 : Int32) [(.int (nar .char y0)), (.int (0 : Int32))] (.int (0 : Int32)) := Arv.set Ar_42 q_42 Sz_42 Ng_42 Hh_42 Gg_42 (fits_nar_char _) W_42 0 rfl (Nat.le_of_ble_eq_true rfl)
        have Vn_42 : Arv Z h_42 b_36 k_36 .char (2 : Int32) [(.int y0), (.int (0 : Int32))] (.int (0 : Int32)) := by have q := V_42; rw [own_nc hy0] at q; exact q
        refine Go.to (mkF m 55 #[.val (.ref b), .val (.int len)] [(.ref b_36), (.ref b_35), (.ref b_35)]) st_42 ?_
        refine Go.to (mkF m 56 #[.val (.ref b), .val (.int len)] [(.ref b_36), (.ref b_36), (.ref b_35), (.ref b_35)]) (fun _ k => XS.dup X_42.here hx rfl (hb hby d6_55) rfl rfl k) ?_
        refine Go.to (mkF m 57 #[.val (.ref b), .val (.int len)] [(.int (1 : Int32)), (.ref b_36), (.ref b_36), (.ref b_35), (.ref b_35)]) (fun _ k => XS.iconst X_42.here hx rfl (hb hby d6_56) k) ?_
        refine Go.to (mkF m 58 #[.val (.ref b), .val (.int len)] [(.ref b), (.int (1 : Int32)), (.ref b_36), (.ref b_36), (.ref b_35), (.ref b_35)]) (fun _ k => XS.aloadN X_42.here hx rfl (hb hby d6_57) rfl rfl k) ?_
        refine Go.to (mkF m 59 #[.val (.ref b), .val (.int len)] [(.int (1 : Int32)), (.ref b), (.int (1 : Int32)), (.ref b_36), (.ref b_36), (.ref b_35), (.ref b_35)]) (fun _ k => XS.iconst X_42.here hx rfl (hb hby d6_58) k) ?_
        have f_43 : Arv Z h_42 b kC .char (7 : Int32) [(.int y0), (.int y1), (.int y2), (.int y3), (.int y4), (.int y5), (.int y6)] (.int (0 : Int32)) := (f_40.other W_42 ne_b_b_36)
        obtain ⟨cl_44, Ar_44, -, Sz_44, Ng_44, Hh_44, -⟩ := id f_43
        have hin_44 : ¬ ((1 : Int32) < 0 ∨ cl_44.slots.size ≤ ((1 : Int32)).toNatClampNeg) := inb_of Sz_44 ⟨by decide, by decide⟩
        refine Go.to (mkF m 60 #[.val (.ref b), .val (.int len)] [(.int y1), (.int (1 : Int32)), (.ref b_36), (.ref b_36), (.ref b_35), (.ref b_35)]) (X_42.caload hx (j := (1 : Int32)) (v := (.int y1)) (by rw [e_42]; exact Ar_44.1) (State.isArrayOf_alike hZ.alike Ar_44.2.1) Ar_44.2.2 hin_44 (Hh_44.at hin_44 rfl) (g := (mkF m 59 #[.val (.ref b), .val (.int len)] [(.int (1 : Int32)), (.ref b), (.int (1 : Int32)), (.ref b_36), (.ref b_36), (.ref b_35), (.ref b_35)])) rfl rfl (hb hby d6_59)) ?_
        obtain ⟨cl_45, Ar_45, q_45, Sz_45, Ng_45, Hh_45, Gg_45⟩ := id Vn_42
        have hin_45 : ¬ ((1 : Int32) < 0 ∨ cl_45.slots.size ≤ ((1 : Int32)).toNatClampNeg) := inb_of Sz_45 ⟨by decide, by decide⟩
        obtain ⟨T_45, h_45, X_45, e_45, W_45, st_45⟩ := stC X_42 hx hZ e_42 Ar_45 (j := (1 : Int32)) hin_45 (g := (mkF m 60 #[.val (.ref b), .val (.int len)] [(.int y1), (.int (1 : Int32)), (.ref b_36), (.ref b_36), (.ref b_35), (.ref b_35)])) rfl rfl (hb hby d6_60)
        have N_45 := Fr.snoc X_45 N_42 g_b_36
        have V_45 : Arv Z h_45 b_36 k_36 .char (2 : Int32) [(.int y0), (.int (nar .char y1))] (.int (0 : Int32)) := Arv.set Ar_45 q_45 Sz_45 Ng_45 Hh_45 Gg_45 (fits_nar_char _) W_45 1 rfl (Nat.le_of_ble_eq_true rfl)
        have Vn_45 : Arv Z h_45 b_36 k_36 .char (2 : Int32) [(.int y0), (.int y1)] (.int (0 : Int32)) := by have q := V_45; rw [own_nc hy1] at q; exact q
        refine Go.to (mkF m 61 #[.val (.ref b), .val (.int len)] [(.ref b_36), (.ref b_35), (.ref b_35)]) st_45 ?_
        have hp2 : ∀ c ∈ ([y0, y1] : List Int32), ¬ c < 0 ∧ ¬ (255 : Int32) < c := (own_cS hy0 (own_cS hy1 own_c0))
        have f_46 : Exa Z h_45 b_35 "java/lang/String" := (((A_35.ext E_36).wr W_42).wr W_45)
        have f_47 : Fld Z h_45 b_35 "java/lang/String" "value" "[B" .null := (((F_value_b_35.ext E_36).other W_42 (Or.inl ne_b_35_b_36)).other W_45 (Or.inl ne_b_35_b_36))
        have f_48 : Fld Z h_45 b_35 "java/lang/String" "coder" "B" (.int (0 : Int32)) := (((F_coder_b_35.ext E_36).other W_42 (Or.inl ne_b_35_b_36)).other W_45 (Or.inl ne_b_35_b_36))
        have f_49 : Sta Z h_45 "java/lang/String" "COMPACT_STRINGS" "Z" (.int z) := ((((PS_java_lang_String_COMPACT_STRINGS.ext E_35).ext E_36).wr W_42).wr W_45)
        have f_50 : n0 ≤ h_45.size := (Nat.le_trans (Nat.le_trans (Nat.le_trans f_38 E_36.1) (Keep.of_wr W_42).1) (Keep.of_wr W_45).1)
        refine Go.special X_45 hx hZ (y := (⟨"java/lang/String", "<init>", "([C)V"⟩ : MethodName)) rfl hown (hw _ (List.mem_of_getElem? (i := 40) rfl)) (hw _ (List.mem_of_getElem? (i := 41) rfl)) (hw _ (List.mem_of_getElem? (i := 42) rfl)) (by decide) e_45 (a := b_35) (argsL := [(.ref b_36)]) (rest := [(.ref b_35)]) (own_newS (W := 1) hZ hw (hw _ (List.mem_of_getElem? (i := 2) rfl)) (cs := ([y0, y1] : List Int32)) (n := 2) g_b_35 f_50 f_46 f_47 f_48 Vn_45 f_49 hz rfl rfl (by decide) (by decide) hp2 (by decide) (by decide)) (pc := 61) (Ls := #[.val (.ref b), .val (.int len)]) (by rw [hml]; rfl) (lenOf own_pd1 rfl) rfl (Nat.le_refl _) (hb hby d6_61) (by decide) (by decide) ?_
        intro T_51 v_51 L_51 X_51 hQ_51
        obtain ⟨t_51, kb_51, rfl, Nq_51, K_51, pf_51_0, pf_51_1, pf_51_2, sz_t_51⟩ := hQ_51
        have N_51 := Fr.app N_45 Nq_51
        have f_52 : Arv Z h_45 b kC .char (7 : Int32) [(.int y0), (.int y1), (.int y2), (.int y3), (.int y4), (.int y5), (.int y6)] (.int (0 : Int32)) := (f_43.other W_45 ne_b_b_36)
        have f_53 : Keep h0 h_45 [] := (((f_39.ext E_36).wr W_42 (Or.inr sz_b_36)).wr W_45 (Or.inr sz_b_36))
        show Go p e below (FinW s (Q6 Z b kC y0 y1 y2 y3 y4 y5 y6 len a5 cs5 z h0 n0) ({ frames := 4, cells := 4, slots := 24, locals := 72 } : Room).cells ({ frames := 4, cells := 4, slots := 24, locals := 72 } : Room).slots) T_51 (mkF m 64 #[.val (.ref b), .val (.int len)] [(.ref b_35)])
        have g_t_51 : n0 ≤ t_51 := Nat.le_trans f_50 sz_t_51
        have ne_b_t_51 : b ≠ t_51 := Nat.ne_of_lt (Nat.lt_of_lt_of_le f_52.lt sz_t_51)
        have ne_b_35_t_51 : b_35 ≠ t_51 := Nat.ne_of_lt (Nat.lt_of_lt_of_le f_46.lt sz_t_51)
        have ne_b_36_t_51 : b_36 ≠ t_51 := Nat.ne_of_lt (Nat.lt_of_lt_of_le Vn_45.lt sz_t_51)
        have sz_t_51 : h0.size ≤ t_51 := Nat.le_trans f_53.1 sz_t_51
        have f_54 : 0 ≤ T_51.heap.size := (Nat.le_trans (Nat.le_trans (Nat.le_trans (Nat.le_trans (Nat.le_trans (Nat.zero_le _) E_35.1) E_36.1) (Keep.of_wr W_42).1) (Keep.of_wr W_45).1) K_51.1)
        refine Go.retAW X_51 hx (t := (.object "java/lang/String")) hret hlk rfl rfl (hb hby d6_64) (by decide) (by decide) hS f_54 ?_
        have f_55 : Keep h0 T_51.heap [] := (f_53.trans K_51 (allS (Or.inr sz_b_35) all0))
        have f_56 : Exa Z T_51.heap b_35 "java/lang/String" := (f_46.keep K_51)
        show (Q6 Z b kC y0 y1 y2 y3 y4 y5 y6 len a5 cs5 z h0 n0) _ T_51.heap _ _
        exact ⟨b_35, t_51, kb_51, rfl, N_51, f_55, f_56, pf_51_0, pf_51_1, (by rw [q2, own_tk2]; exact pf_51_2), (OwnV.less (OwnV.warm (s := s.setVm _) hV X_51.warmed))⟩
      · refine Go.to (mkF m 65 #[.val (.ref b), .val (.int len)] []) (fun _ k => XS.icmpYes X0.here hx rfl (pc0 := 39) (pc' := 65) rfl (hb hby d6_39) rfl (feq q2).2 (by decide) (by decide) k) ?_
        refine Go.to (mkF m 66 #[.val (.ref b), .val (.int len)] [(.int len)]) (fun _ k => XS.iloadN X0.here hx rfl (hb hby d6_65) rfl  k) ?_
        refine Go.to (mkF m 67 #[.val (.ref b), .val (.int len)] [(.int (3 : Int32)), (.int len)]) (fun _ k => XS.iconst X0.here hx rfl (hb hby d6_66) k) ?_
        by_cases q3 : len = (3 : Int32)
        · refine Go.to (mkF m 70 #[.val (.ref b), .val (.int len)] []) (fun _ k => XS.icmpNo X0.here hx rfl (hb hby d6_67) rfl (teq q3).2 k) ?_
          obtain ⟨T_57, h_57, X_57, e_57, E_57, A_57, D_57, -, st_57⟩ := newO X0 hx hZ hown (hw _ (List.mem_of_getElem? (i := 39) rfl)) (hw _ (List.mem_of_getElem? (i := 2) rfl)) (hw _ (List.mem_of_getElem? (i := 1) rfl)) e0 (g := (mkF m 70 #[.val (.ref b), .val (.int len)] [])) rfl (hb hby d6_70) (by decide) (by decide)
          obtain ⟨b_57, g_57⟩ : ∃ z, z = h0.size := ⟨_, rfl⟩
          rw [← g_57] at A_57 D_57 st_57
          have g_b_57 : n0 ≤ b_57 := Nat.le_trans Z0 (Nat.le_of_eq g_57.symm)
          have sz_b_57 : h0.size ≤ b_57 := Nat.le_trans (Keep.refl h0 []).1 (Nat.le_of_eq g_57.symm)
          have ne_b_b_57 : b ≠ b_57 := Nat.ne_of_lt (Nat.lt_of_lt_of_le PA_b.lt (Nat.le_of_eq g_57.symm))
          have F_value_b_57 : Fld Z h_57 b_57 "java/lang/String" "value" "[B" .null := D_57 (Or.inr (hw _ (List.mem_of_getElem? (i := 4) rfl))) (ty := (.array .byte)) (by decide)
          have F_coder_b_57 : Fld Z h_57 b_57 "java/lang/String" "coder" "B" (.int (0 : Int32)) := D_57 (Or.inr (hw _ (List.mem_of_getElem? (i := 5) rfl))) (ty := .byte) (by decide)
          refine Go.to (mkF m 73 #[.val (.ref b), .val (.int len)] [(.ref b_57)]) st_57 ?_
          refine Go.to (mkF m 74 #[.val (.ref b), .val (.int len)] [(.ref b_57), (.ref b_57)]) (fun _ k => XS.dup X_57.here hx rfl (hb hby d6_73) rfl rfl k) ?_
          refine Go.to (mkF m 75 #[.val (.ref b), .val (.int len)] [(.int (3 : Int32)), (.ref b_57), (.ref b_57)]) (fun _ k => XS.iconst X_57.here hx rfl (hb hby d6_74) k) ?_
          have f_59 : Arv Z h_57 b kC .char (7 : Int32) [(.int y0), (.int y1), (.int y2), (.int y3), (.int y4), (.int y5), (.int y6)] (.int (0 : Int32)) := (PA_b.ext E_57)
          have f_60 : n0 ≤ h_57.size := (Nat.le_trans Z0 E_57.1)
          have f_61 : Keep h0 h_57 [] := ((Keep.refl h0 []).ext E_57)
          obtain ⟨T_58, h_58, k_58, X_58, e_58, E_58, A_58, st_58⟩ := newP X_57 hx hZ (hw _ (List.mem_of_getElem? (i := 8) rfl)) e_57 (g := (mkF m 75 #[.val (.ref b), .val (.int len)] [(.int (3 : Int32)), (.ref b_57), (.ref b_57)])) rfl (hb hby d6_75) rfl (by decide) (cap := 3) (by decide) (by decide) (by decide) (by decide)
          obtain ⟨b_58, g_58⟩ : ∃ z, z = h_57.size := ⟨_, rfl⟩
          rw [← g_58] at A_58 st_58
          have g_b_58 : n0 ≤ b_58 := Nat.le_trans f_60 (Nat.le_of_eq g_58.symm)
          have sz_b_58 : h0.size ≤ b_58 := Nat.le_trans f_61.1 (Nat.le_of_eq g_58.symm)
          have ne_b_b_58 : b ≠ b_58 := Nat.ne_of_lt (Nat.lt_of_lt_of_le f_59.lt (Nat.le_of_eq g_58.symm))
          have ne_b_57_b_58 : b_57 ≠ b_58 := Nat.ne_of_lt (Nat.lt_of_lt_of_le A_57.lt (Nat.le_of_eq g_58.symm))
          have V_b_58 : Arv Z h_58 b_58 k_58 .char (3 : Int32) [(.int (0 : Int32)), (.int (0 : Int32)), (.int (0 : Int32))] (.int (0 : Int32)) := (Arv.new A_58 (by decide)).pad (pad_rep [] (.int (0 : Int32)) 3)
          refine Go.to (mkF m 77 #[.val (.ref b), .val (.int len)] [(.ref b_58), (.ref b_57), (.ref b_57)]) st_58 ?_
          refine Go.to (mkF m 78 #[.val (.ref b), .val (.int len)] [(.ref b_58), (.ref b_58), (.ref b_57), (.ref b_57)]) (fun _ k => XS.dup X_58.here hx rfl (hb hby d6_77) rfl rfl k) ?_
          refine Go.to (mkF m 79 #[.val (.ref b), .val (.int len)] [(.int (0 : Int32)), (.ref b_58), (.ref b_58), (.ref b_57), (.ref b_57)]) (fun _ k => XS.iconst X_58.here hx rfl (hb hby d6_78) k) ?_
          refine Go.to (mkF m 80 #[.val (.ref b), .val (.int len)] [(.ref b), (.int (0 : Int32)), (.ref b_58), (.ref b_58), (.ref b_57), (.ref b_57)]) (fun _ k => XS.aloadN X_58.here hx rfl (hb hby d6_79) rfl rfl k) ?_
          refine Go.to (mkF m 81 #[.val (.ref b), .val (.int len)] [(.int (0 : Int32)), (.ref b), (.int (0 : Int32)), (.ref b_58), (.ref b_58), (.ref b_57), (.ref b_57)]) (fun _ k => XS.iconst X_58.here hx rfl (hb hby d6_80) k) ?_
          have f_62 : Arv Z h_58 b kC .char (7 : Int32) [(.int y0), (.int y1), (.int y2), (.int y3), (.int y4), (.int y5), (.int y6)] (.int (0 : Int32)) := (f_59.ext E_58)
          obtain ⟨cl_63, Ar_63, -, Sz_63, Ng_63, Hh_63, -⟩ := id f_62
          have hin_63 : ¬ ((0 : Int32) < 0 ∨ cl_63.slots.size ≤ ((0 : Int32)).toNatClampNeg) := inb_of Sz_63 ⟨by decide, by decide⟩
          refine Go.to (mkF m 82 #[.val (.ref b), .val (.int len)] [(.int y0), (.int (0 : Int32)), (.ref b_58), (.ref b_58), (.ref b_57), (.ref b_57)]) (X_58.caload hx (j := (0 : Int32)) (v := (.int y0)) (by rw [e_58]; exact Ar_63.1) (State.isArrayOf_alike hZ.alike Ar_63.2.1) Ar_63.2.2 hin_63 (Hh_63.at hin_63 rfl) (g := (mkF m 81 #[.val (.ref b), .val (.int len)] [(.int (0 : Int32)), (.ref b), (.int (0 : Int32)), (.ref b_58), (.ref b_58), (.ref b_57), (.ref b_57)])) rfl rfl (hb hby d6_81)) ?_
          obtain ⟨cl_64, Ar_64, q_64, Sz_64, Ng_64, Hh_64, Gg_64⟩ := id V_b_58
          have hin_64 : ¬ ((0 : Int32) < 0 ∨ cl_64.slots.size ≤ ((0 : Int32)).toNatClampNeg) := inb_of Sz_64 ⟨by decide, by decide⟩
          obtain ⟨T_64, h_64, X_64, e_64, W_64, st_64⟩ := stC X_58 hx hZ e_58 Ar_64 (j := (0 : Int32)) hin_64 (g := (mkF m 82 #[.val (.ref b), .val (.int len)] [(.int y0), (.int (0 : Int32)), (.ref b_58), (.ref b_58), (.ref b_57), (.ref b_57)])) rfl rfl (hb hby d6_82)
          have N_64 := Fr.snoc X_64 N0 g_b_58
          have V_64 : Arv Z h_64 b_58 k_58 .char (3 : Int32) [(.int (nar .char y0)), (.int (0 : Int32)), (.int (0 : Int32))] (.int (0 : Int32)) := Arv.set Ar_64 q_64 Sz_64 Ng_64 Hh_64 Gg_64 (fits_nar_char _) W_64 0 rfl (Nat.le_of_ble_eq_true rfl)
          have Vn_64 : Arv Z h_64 b_58 k_58 .char (3 : Int32) [(.int y0), (.int (0 : Int32)), (.int (0 : Int32))] (.int (0 : Int32)) := by have q := V_64; rw [own_nc hy0] at q; exact q
          refine Go.to (mkF m 83 #[.val (.ref b), .val (.int len)] [(.ref b_58), (.ref b_57), (.ref b_57)]) st_64 ?_
          refine Go.to (mkF m 84 #[.val (.ref b), .val (.int len)] [(.ref b_58), (.ref b_58), (.ref b_57), (.ref b_57)]) (fun _ k => XS.dup X_64.here hx rfl (hb hby d6_83) rfl rfl k) ?_
          refine Go.to (mkF m 85 #[.val (.ref b), .val (.int len)] [(.int (1 : Int32)), (.ref b_58), (.ref b_58), (.ref b_57), (.ref b_57)]) (fun _ k => XS.iconst X_64.here hx rfl (hb hby d6_84) k) ?_
          refine Go.to (mkF m 86 #[.val (.ref b), .val (.int len)] [(.ref b), (.int (1 : Int32)), (.ref b_58), (.ref b_58), (.ref b_57), (.ref b_57)]) (fun _ k => XS.aloadN X_64.here hx rfl (hb hby d6_85) rfl rfl k) ?_
          refine Go.to (mkF m 87 #[.val (.ref b), .val (.int len)] [(.int (1 : Int32)), (.ref b), (.int (1 : Int32)), (.ref b_58), (.ref b_58), (.ref b_57), (.ref b_57)]) (fun _ k => XS.iconst X_64.here hx rfl (hb hby d6_86) k) ?_
          have f_65 : Arv Z h_64 b kC .char (7 : Int32) [(.int y0), (.int y1), (.int y2), (.int y3), (.int y4), (.int y5), (.int y6)] (.int (0 : Int32)) := (f_62.other W_64 ne_b_b_58)
          obtain ⟨cl_66, Ar_66, -, Sz_66, Ng_66, Hh_66, -⟩ := id f_65
          have hin_66 : ¬ ((1 : Int32) < 0 ∨ cl_66.slots.size ≤ ((1 : Int32)).toNatClampNeg) := inb_of Sz_66 ⟨by decide, by decide⟩
          refine Go.to (mkF m 88 #[.val (.ref b), .val (.int len)] [(.int y1), (.int (1 : Int32)), (.ref b_58), (.ref b_58), (.ref b_57), (.ref b_57)]) (X_64.caload hx (j := (1 : Int32)) (v := (.int y1)) (by rw [e_64]; exact Ar_66.1) (State.isArrayOf_alike hZ.alike Ar_66.2.1) Ar_66.2.2 hin_66 (Hh_66.at hin_66 rfl) (g := (mkF m 87 #[.val (.ref b), .val (.int len)] [(.int (1 : Int32)), (.ref b), (.int (1 : Int32)), (.ref b_58), (.ref b_58), (.ref b_57), (.ref b_57)])) rfl rfl (hb hby d6_87)) ?_
          obtain ⟨cl_67, Ar_67, q_67, Sz_67, Ng_67, Hh_67, Gg_67⟩ := id Vn_64
          have hin_67 : ¬ ((1 : Int32) < 0 ∨ cl_67.slots.size ≤ ((1 : Int32)).toNatClampNeg) := inb_of Sz_67 ⟨by decide, by decide⟩
          obtain ⟨T_67, h_67, X_67, e_67, W_67, st_67⟩ := stC X_64 hx hZ e_64 Ar_67 (j := (1 : Int32)) hin_67 (g := (mkF m 88 #[.val (.ref b), .val (.int len)] [(.int y1), (.int (1 : Int32)), (.ref b_58), (.ref b_58), (.ref b_57), (.ref b_57)])) rfl rfl (hb hby d6_88)
          have N_67 := Fr.snoc X_67 N_64 g_b_58
          have V_67 : Arv Z h_67 b_58 k_58 .char (3 : Int32) [(.int y0), (.int (nar .char y1)), (.int (0 : Int32))] (.int (0 : Int32)) := Arv.set Ar_67 q_67 Sz_67 Ng_67 Hh_67 Gg_67 (fits_nar_char _) W_67 1 rfl (Nat.le_of_ble_eq_true rfl)
          have Vn_67 : Arv Z h_67 b_58 k_58 .char (3 : Int32) [(.int y0), (.int y1), (.int (0 : Int32))] (.int (0 : Int32)) := by have q := V_67; rw [own_nc hy1] at q; exact q
          refine Go.to (mkF m 89 #[.val (.ref b), .val (.int len)] [(.ref b_58), (.ref b_57), (.ref b_57)]) st_67 ?_
          refine Go.to (mkF m 90 #[.val (.ref b), .val (.int len)] [(.ref b_58), (.ref b_58), (.ref b_57), (.ref b_57)]) (fun _ k => XS.dup X_67.here hx rfl (hb hby d6_89) rfl rfl k) ?_
          refine Go.to (mkF m 91 #[.val (.ref b), .val (.int len)] [(.int (2 : Int32)), (.ref b_58), (.ref b_58), (.ref b_57), (.ref b_57)]) (fun _ k => XS.iconst X_67.here hx rfl (hb hby d6_90) k) ?_
          refine Go.to (mkF m 92 #[.val (.ref b), .val (.int len)] [(.ref b), (.int (2 : Int32)), (.ref b_58), (.ref b_58), (.ref b_57), (.ref b_57)]) (fun _ k => XS.aloadN X_67.here hx rfl (hb hby d6_91) rfl rfl k) ?_
          refine Go.to (mkF m 93 #[.val (.ref b), .val (.int len)] [(.int (2 : Int32)), (.ref b), (.int (2 : Int32)), (.ref b_58), (.ref b_58), (.ref b_57), (.ref b_57)]) (fun _ k => XS.iconst X_67.here hx rfl (hb hby d6_92) k) ?_
          have f_68 : Arv Z h_67 b kC .char (7 : Int32) [(.int y0), (.int y1), (.int y2), (.int y3), (.int y4), (.int y5), (.int y6)] (.int (0 : Int32)) := (f_65.other W_67 ne_b_b_58)
          obtain ⟨cl_69, Ar_69, -, Sz_69, Ng_69, Hh_69, -⟩ := id f_68
          have hin_69 : ¬ ((2 : Int32) < 0 ∨ cl_69.slots.size ≤ ((2 : Int32)).toNatClampNeg) := inb_of Sz_69 ⟨by decide, by decide⟩
          refine Go.to (mkF m 94 #[.val (.ref b), .val (.int len)] [(.int y2), (.int (2 : Int32)), (.ref b_58), (.ref b_58), (.ref b_57), (.ref b_57)]) (X_67.caload hx (j := (2 : Int32)) (v := (.int y2)) (by rw [e_67]; exact Ar_69.1) (State.isArrayOf_alike hZ.alike Ar_69.2.1) Ar_69.2.2 hin_69 (Hh_69.at hin_69 rfl) (g := (mkF m 93 #[.val (.ref b), .val (.int len)] [(.int (2 : Int32)), (.ref b), (.int (2 : Int32)), (.ref b_58), (.ref b_58), (.ref b_57), (.ref b_57)])) rfl rfl (hb hby d6_93)) ?_
          obtain ⟨cl_70, Ar_70, q_70, Sz_70, Ng_70, Hh_70, Gg_70⟩ := id Vn_67
          have hin_70 : ¬ ((2 : Int32) < 0 ∨ cl_70.slots.size ≤ ((2 : Int32)).toNatClampNeg) := inb_of Sz_70 ⟨by decide, by decide⟩
          obtain ⟨T_70, h_70, X_70, e_70, W_70, st_70⟩ := stC X_67 hx hZ e_67 Ar_70 (j := (2 : Int32)) hin_70 (g := (mkF m 94 #[.val (.ref b), .val (.int len)] [(.int y2), (.int (2 : Int32)), (.ref b_58), (.ref b_58), (.ref b_57), (.ref b_57)])) rfl rfl (hb hby d6_94)
          have N_70 := Fr.snoc X_70 N_67 g_b_58
          have V_70 : Arv Z h_70 b_58 k_58 .char (3 : Int32) [(.int y0), (.int y1), (.int (nar .char y2))] (.int (0 : Int32)) := Arv.set Ar_70 q_70 Sz_70 Ng_70 Hh_70 Gg_70 (fits_nar_char _) W_70 2 rfl (Nat.le_of_ble_eq_true rfl)
          have Vn_70 : Arv Z h_70 b_58 k_58 .char (3 : Int32) [(.int y0), (.int y1), (.int y2)] (.int (0 : Int32)) := by have q := V_70; rw [own_nc hy2] at q; exact q
          refine Go.to (mkF m 95 #[.val (.ref b), .val (.int len)] [(.ref b_58), (.ref b_57), (.ref b_57)]) st_70 ?_
          have hp3 : ∀ c ∈ ([y0, y1, y2] : List Int32), ¬ c < 0 ∧ ¬ (255 : Int32) < c := (own_cS hy0 (own_cS hy1 (own_cS hy2 own_c0)))
          have f_71 : Exa Z h_70 b_57 "java/lang/String" := ((((A_57.ext E_58).wr W_64).wr W_67).wr W_70)
          have f_72 : Fld Z h_70 b_57 "java/lang/String" "value" "[B" .null := ((((F_value_b_57.ext E_58).other W_64 (Or.inl ne_b_57_b_58)).other W_67 (Or.inl ne_b_57_b_58)).other W_70 (Or.inl ne_b_57_b_58))
          have f_73 : Fld Z h_70 b_57 "java/lang/String" "coder" "B" (.int (0 : Int32)) := ((((F_coder_b_57.ext E_58).other W_64 (Or.inl ne_b_57_b_58)).other W_67 (Or.inl ne_b_57_b_58)).other W_70 (Or.inl ne_b_57_b_58))
          have f_74 : Sta Z h_70 "java/lang/String" "COMPACT_STRINGS" "Z" (.int z) := (((((PS_java_lang_String_COMPACT_STRINGS.ext E_57).ext E_58).wr W_64).wr W_67).wr W_70)
          have f_75 : n0 ≤ h_70.size := (Nat.le_trans (Nat.le_trans (Nat.le_trans (Nat.le_trans f_60 E_58.1) (Keep.of_wr W_64).1) (Keep.of_wr W_67).1) (Keep.of_wr W_70).1)
          refine Go.special X_70 hx hZ (y := (⟨"java/lang/String", "<init>", "([C)V"⟩ : MethodName)) rfl hown (hw _ (List.mem_of_getElem? (i := 40) rfl)) (hw _ (List.mem_of_getElem? (i := 41) rfl)) (hw _ (List.mem_of_getElem? (i := 42) rfl)) (by decide) e_70 (a := b_57) (argsL := [(.ref b_58)]) (rest := [(.ref b_57)]) (own_newS (W := 1) hZ hw (hw _ (List.mem_of_getElem? (i := 2) rfl)) (cs := ([y0, y1, y2] : List Int32)) (n := 3) g_b_57 f_75 f_71 f_72 f_73 Vn_70 f_74 hz rfl rfl (by decide) (by decide) hp3 (by decide) (by decide)) (pc := 95) (Ls := #[.val (.ref b), .val (.int len)]) (by rw [hml]; rfl) (lenOf own_pd1 rfl) rfl (Nat.le_refl _) (hb hby d6_95) (by decide) (by decide) ?_
          intro T_76 v_76 L_76 X_76 hQ_76
          obtain ⟨t_76, kb_76, rfl, Nq_76, K_76, pf_76_0, pf_76_1, pf_76_2, sz_t_76⟩ := hQ_76
          have N_76 := Fr.app N_70 Nq_76
          have f_77 : Arv Z h_70 b kC .char (7 : Int32) [(.int y0), (.int y1), (.int y2), (.int y3), (.int y4), (.int y5), (.int y6)] (.int (0 : Int32)) := (f_68.other W_70 ne_b_b_58)
          have f_78 : Keep h0 h_70 [] := ((((f_61.ext E_58).wr W_64 (Or.inr sz_b_58)).wr W_67 (Or.inr sz_b_58)).wr W_70 (Or.inr sz_b_58))
          show Go p e below (FinW s (Q6 Z b kC y0 y1 y2 y3 y4 y5 y6 len a5 cs5 z h0 n0) ({ frames := 4, cells := 4, slots := 24, locals := 72 } : Room).cells ({ frames := 4, cells := 4, slots := 24, locals := 72 } : Room).slots) T_76 (mkF m 98 #[.val (.ref b), .val (.int len)] [(.ref b_57)])
          have g_t_76 : n0 ≤ t_76 := Nat.le_trans f_75 sz_t_76
          have ne_b_t_76 : b ≠ t_76 := Nat.ne_of_lt (Nat.lt_of_lt_of_le f_77.lt sz_t_76)
          have ne_b_57_t_76 : b_57 ≠ t_76 := Nat.ne_of_lt (Nat.lt_of_lt_of_le f_71.lt sz_t_76)
          have ne_b_58_t_76 : b_58 ≠ t_76 := Nat.ne_of_lt (Nat.lt_of_lt_of_le Vn_70.lt sz_t_76)
          have sz_t_76 : h0.size ≤ t_76 := Nat.le_trans f_78.1 sz_t_76
          have f_79 : 0 ≤ T_76.heap.size := (Nat.le_trans (Nat.le_trans (Nat.le_trans (Nat.le_trans (Nat.le_trans (Nat.le_trans (Nat.zero_le _) E_57.1) E_58.1) (Keep.of_wr W_64).1) (Keep.of_wr W_67).1) (Keep.of_wr W_70).1) K_76.1)
          refine Go.retAW X_76 hx (t := (.object "java/lang/String")) hret hlk rfl rfl (hb hby d6_98) (by decide) (by decide) hS f_79 ?_
          have f_80 : Keep h0 T_76.heap [] := (f_78.trans K_76 (allS (Or.inr sz_b_57) all0))
          have f_81 : Exa Z T_76.heap b_57 "java/lang/String" := (f_71.keep K_76)
          show (Q6 Z b kC y0 y1 y2 y3 y4 y5 y6 len a5 cs5 z h0 n0) _ T_76.heap _ _
          exact ⟨b_57, t_76, kb_76, rfl, N_76, f_80, f_81, pf_76_0, pf_76_1, (by rw [q3, own_tk3]; exact pf_76_2), (OwnV.less (OwnV.warm (s := s.setVm _) hV X_76.warmed))⟩
        · refine Go.to (mkF m 99 #[.val (.ref b), .val (.int len)] []) (fun _ k => XS.icmpYes X0.here hx rfl (pc0 := 67) (pc' := 99) rfl (hb hby d6_67) rfl (feq q3).2 (by decide) (by decide) k) ?_
          refine Go.to (mkF m 100 #[.val (.ref b), .val (.int len)] [(.int len)]) (fun _ k => XS.iloadN X0.here hx rfl (hb hby d6_99) rfl  k) ?_
          refine Go.to (mkF m 101 #[.val (.ref b), .val (.int len)] [(.int (4 : Int32)), (.int len)]) (fun _ k => XS.iconst X0.here hx rfl (hb hby d6_100) k) ?_
          by_cases q4 : len = (4 : Int32)
          · refine Go.to (mkF m 104 #[.val (.ref b), .val (.int len)] []) (fun _ k => XS.icmpNo X0.here hx rfl (hb hby d6_101) rfl (teq q4).2 k) ?_
            obtain ⟨T_82, h_82, X_82, e_82, E_82, A_82, D_82, -, st_82⟩ := newO X0 hx hZ hown (hw _ (List.mem_of_getElem? (i := 39) rfl)) (hw _ (List.mem_of_getElem? (i := 2) rfl)) (hw _ (List.mem_of_getElem? (i := 1) rfl)) e0 (g := (mkF m 104 #[.val (.ref b), .val (.int len)] [])) rfl (hb hby d6_104) (by decide) (by decide)
            obtain ⟨b_82, g_82⟩ : ∃ z, z = h0.size := ⟨_, rfl⟩
            rw [← g_82] at A_82 D_82 st_82
            have g_b_82 : n0 ≤ b_82 := Nat.le_trans Z0 (Nat.le_of_eq g_82.symm)
            have sz_b_82 : h0.size ≤ b_82 := Nat.le_trans (Keep.refl h0 []).1 (Nat.le_of_eq g_82.symm)
            have ne_b_b_82 : b ≠ b_82 := Nat.ne_of_lt (Nat.lt_of_lt_of_le PA_b.lt (Nat.le_of_eq g_82.symm))
            have F_value_b_82 : Fld Z h_82 b_82 "java/lang/String" "value" "[B" .null := D_82 (Or.inr (hw _ (List.mem_of_getElem? (i := 4) rfl))) (ty := (.array .byte)) (by decide)
            have F_coder_b_82 : Fld Z h_82 b_82 "java/lang/String" "coder" "B" (.int (0 : Int32)) := D_82 (Or.inr (hw _ (List.mem_of_getElem? (i := 5) rfl))) (ty := .byte) (by decide)
            refine Go.to (mkF m 107 #[.val (.ref b), .val (.int len)] [(.ref b_82)]) st_82 ?_
            refine Go.to (mkF m 108 #[.val (.ref b), .val (.int len)] [(.ref b_82), (.ref b_82)]) (fun _ k => XS.dup X_82.here hx rfl (hb hby d6_107) rfl rfl k) ?_
            refine Go.to (mkF m 109 #[.val (.ref b), .val (.int len)] [(.int (4 : Int32)), (.ref b_82), (.ref b_82)]) (fun _ k => XS.iconst X_82.here hx rfl (hb hby d6_108) k) ?_
            have f_84 : Arv Z h_82 b kC .char (7 : Int32) [(.int y0), (.int y1), (.int y2), (.int y3), (.int y4), (.int y5), (.int y6)] (.int (0 : Int32)) := (PA_b.ext E_82)
            have f_85 : n0 ≤ h_82.size := (Nat.le_trans Z0 E_82.1)
            have f_86 : Keep h0 h_82 [] := ((Keep.refl h0 []).ext E_82)
            obtain ⟨T_83, h_83, k_83, X_83, e_83, E_83, A_83, st_83⟩ := newP X_82 hx hZ (hw _ (List.mem_of_getElem? (i := 8) rfl)) e_82 (g := (mkF m 109 #[.val (.ref b), .val (.int len)] [(.int (4 : Int32)), (.ref b_82), (.ref b_82)])) rfl (hb hby d6_109) rfl (by decide) (cap := 4) (by decide) (by decide) (by decide) (by decide)
            obtain ⟨b_83, g_83⟩ : ∃ z, z = h_82.size := ⟨_, rfl⟩
            rw [← g_83] at A_83 st_83
            have g_b_83 : n0 ≤ b_83 := Nat.le_trans f_85 (Nat.le_of_eq g_83.symm)
            have sz_b_83 : h0.size ≤ b_83 := Nat.le_trans f_86.1 (Nat.le_of_eq g_83.symm)
            have ne_b_b_83 : b ≠ b_83 := Nat.ne_of_lt (Nat.lt_of_lt_of_le f_84.lt (Nat.le_of_eq g_83.symm))
            have ne_b_82_b_83 : b_82 ≠ b_83 := Nat.ne_of_lt (Nat.lt_of_lt_of_le A_82.lt (Nat.le_of_eq g_83.symm))
            have V_b_83 : Arv Z h_83 b_83 k_83 .char (4 : Int32) [(.int (0 : Int32)), (.int (0 : Int32)), (.int (0 : Int32)), (.int (0 : Int32))] (.int (0 : Int32)) := (Arv.new A_83 (by decide)).pad (pad_rep [] (.int (0 : Int32)) 4)
            refine Go.to (mkF m 111 #[.val (.ref b), .val (.int len)] [(.ref b_83), (.ref b_82), (.ref b_82)]) st_83 ?_
            refine Go.to (mkF m 112 #[.val (.ref b), .val (.int len)] [(.ref b_83), (.ref b_83), (.ref b_82), (.ref b_82)]) (fun _ k => XS.dup X_83.here hx rfl (hb hby d6_111) rfl rfl k) ?_
            refine Go.to (mkF m 113 #[.val (.ref b), .val (.int len)] [(.int (0 : Int32)), (.ref b_83), (.ref b_83), (.ref b_82), (.ref b_82)]) (fun _ k => XS.iconst X_83.here hx rfl (hb hby d6_112) k) ?_
            refine Go.to (mkF m 114 #[.val (.ref b), .val (.int len)] [(.ref b), (.int (0 : Int32)), (.ref b_83), (.ref b_83), (.ref b_82), (.ref b_82)]) (fun _ k => XS.aloadN X_83.here hx rfl (hb hby d6_113) rfl rfl k) ?_
            refine Go.to (mkF m 115 #[.val (.ref b), .val (.int len)] [(.int (0 : Int32)), (.ref b), (.int (0 : Int32)), (.ref b_83), (.ref b_83), (.ref b_82), (.ref b_82)]) (fun _ k => XS.iconst X_83.here hx rfl (hb hby d6_114) k) ?_
            have f_87 : Arv Z h_83 b kC .char (7 : Int32) [(.int y0), (.int y1), (.int y2), (.int y3), (.int y4), (.int y5), (.int y6)] (.int (0 : Int32)) := (f_84.ext E_83)
            obtain ⟨cl_88, Ar_88, -, Sz_88, Ng_88, Hh_88, -⟩ := id f_87
            have hin_88 : ¬ ((0 : Int32) < 0 ∨ cl_88.slots.size ≤ ((0 : Int32)).toNatClampNeg) := inb_of Sz_88 ⟨by decide, by decide⟩
            refine Go.to (mkF m 116 #[.val (.ref b), .val (.int len)] [(.int y0), (.int (0 : Int32)), (.ref b_83), (.ref b_83), (.ref b_82), (.ref b_82)]) (X_83.caload hx (j := (0 : Int32)) (v := (.int y0)) (by rw [e_83]; exact Ar_88.1) (State.isArrayOf_alike hZ.alike Ar_88.2.1) Ar_88.2.2 hin_88 (Hh_88.at hin_88 rfl) (g := (mkF m 115 #[.val (.ref b), .val (.int len)] [(.int (0 : Int32)), (.ref b), (.int (0 : Int32)), (.ref b_83), (.ref b_83), (.ref b_82), (.ref b_82)])) rfl rfl (hb hby d6_115)) ?_
            obtain ⟨cl_89, Ar_89, q_89, Sz_89, Ng_89, Hh_89, Gg_89⟩ := id V_b_83
            have hin_89 : ¬ ((0 : Int32) < 0 ∨ cl_89.slots.size ≤ ((0 : Int32)).toNatClampNeg) := inb_of Sz_89 ⟨by decide, by decide⟩
            obtain ⟨T_89, h_89, X_89, e_89, W_89, st_89⟩ := stC X_83 hx hZ e_83 Ar_89 (j := (0 : Int32)) hin_89 (g := (mkF m 116 #[.val (.ref b), .val (.int len)] [(.int y0), (.int (0 : Int32)), (.ref b_83), (.ref b_83), (.ref b_82), (.ref b_82)])) rfl rfl (hb hby d6_116)
            have N_89 := Fr.snoc X_89 N0 g_b_83
            have V_89 : Arv Z h_89 b_83 k_83 .char (4 : Int32) [(.int (nar .char y0)), (.int (0 : Int32)), (.int (0 : Int32)), (.int (0 : Int32))] (.int (0 : Int32)) := Arv.set Ar_89 q_89 Sz_89 Ng_89 Hh_89 Gg_89 (fits_nar_char _) W_89 0 rfl (Nat.le_of_ble_eq_true rfl)
            have Vn_89 : Arv Z h_89 b_83 k_83 .char (4 : Int32) [(.int y0), (.int (0 : Int32)), (.int (0 : Int32)), (.int (0 : Int32))] (.int (0 : Int32)) := by have q := V_89; rw [own_nc hy0] at q; exact q
            refine Go.to (mkF m 117 #[.val (.ref b), .val (.int len)] [(.ref b_83), (.ref b_82), (.ref b_82)]) st_89 ?_
            refine Go.to (mkF m 118 #[.val (.ref b), .val (.int len)] [(.ref b_83), (.ref b_83), (.ref b_82), (.ref b_82)]) (fun _ k => XS.dup X_89.here hx rfl (hb hby d6_117) rfl rfl k) ?_
            refine Go.to (mkF m 119 #[.val (.ref b), .val (.int len)] [(.int (1 : Int32)), (.ref b_83), (.ref b_83), (.ref b_82), (.ref b_82)]) (fun _ k => XS.iconst X_89.here hx rfl (hb hby d6_118) k) ?_
            refine Go.to (mkF m 120 #[.val (.ref b), .val (.int len)] [(.ref b), (.int (1 : Int32)), (.ref b_83), (.ref b_83), (.ref b_82), (.ref b_82)]) (fun _ k => XS.aloadN X_89.here hx rfl (hb hby d6_119) rfl rfl k) ?_
            refine Go.to (mkF m 121 #[.val (.ref b), .val (.int len)] [(.int (1 : Int32)), (.ref b), (.int (1 : Int32)), (.ref b_83), (.ref b_83), (.ref b_82), (.ref b_82)]) (fun _ k => XS.iconst X_89.here hx rfl (hb hby d6_120) k) ?_
            have f_90 : Arv Z h_89 b kC .char (7 : Int32) [(.int y0), (.int y1), (.int y2), (.int y3), (.int y4), (.int y5), (.int y6)] (.int (0 : Int32)) := (f_87.other W_89 ne_b_b_83)
            obtain ⟨cl_91, Ar_91, -, Sz_91, Ng_91, Hh_91, -⟩ := id f_90
            have hin_91 : ¬ ((1 : Int32) < 0 ∨ cl_91.slots.size ≤ ((1 : Int32)).toNatClampNeg) := inb_of Sz_91 ⟨by decide, by decide⟩
            refine Go.to (mkF m 122 #[.val (.ref b), .val (.int len)] [(.int y1), (.int (1 : Int32)), (.ref b_83), (.ref b_83), (.ref b_82), (.ref b_82)]) (X_89.caload hx (j := (1 : Int32)) (v := (.int y1)) (by rw [e_89]; exact Ar_91.1) (State.isArrayOf_alike hZ.alike Ar_91.2.1) Ar_91.2.2 hin_91 (Hh_91.at hin_91 rfl) (g := (mkF m 121 #[.val (.ref b), .val (.int len)] [(.int (1 : Int32)), (.ref b), (.int (1 : Int32)), (.ref b_83), (.ref b_83), (.ref b_82), (.ref b_82)])) rfl rfl (hb hby d6_121)) ?_
            obtain ⟨cl_92, Ar_92, q_92, Sz_92, Ng_92, Hh_92, Gg_92⟩ := id Vn_89
            have hin_92 : ¬ ((1 : Int32) < 0 ∨ cl_92.slots.size ≤ ((1 : Int32)).toNatClampNeg) := inb_of Sz_92 ⟨by decide, by decide⟩
            obtain ⟨T_92, h_92, X_92, e_92, W_92, st_92⟩ := stC X_89 hx hZ e_89 Ar_92 (j := (1 : Int32)) hin_92 (g := (mkF m 122 #[.val (.ref b), .val (.int len)] [(.int y1), (.int (1 : Int32)), (.ref b_83), (.ref b_83), (.ref b_82), (.ref b_82)])) rfl rfl (hb hby d6_122)
            have N_92 := Fr.snoc X_92 N_89 g_b_83
            have V_92 : Arv Z h_92 b_83 k_83 .char (4 : Int32) [(.int y0), (.int (nar .char y1)), (.int (0 : Int32)), (.int (0 : Int32))] (.int (0 : Int32)) := Arv.set Ar_92 q_92 Sz_92 Ng_92 Hh_92 Gg_92 (fits_nar_char _) W_92 1 rfl (Nat.le_of_ble_eq_true rfl)
            have Vn_92 : Arv Z h_92 b_83 k_83 .char (4 : Int32) [(.int y0), (.int y1), (.int (0 : Int32)), (.int (0 : Int32))] (.int (0 : Int32)) := by have q := V_92; rw [own_nc hy1] at q; exact q
            refine Go.to (mkF m 123 #[.val (.ref b), .val (.int len)] [(.ref b_83), (.ref b_82), (.ref b_82)]) st_92 ?_
            refine Go.to (mkF m 124 #[.val (.ref b), .val (.int len)] [(.ref b_83), (.ref b_83), (.ref b_82), (.ref b_82)]) (fun _ k => XS.dup X_92.here hx rfl (hb hby d6_123) rfl rfl k) ?_
            refine Go.to (mkF m 125 #[.val (.ref b), .val (.int len)] [(.int (2 : Int32)), (.ref b_83), (.ref b_83), (.ref b_82), (.ref b_82)]) (fun _ k => XS.iconst X_92.here hx rfl (hb hby d6_124) k) ?_
            refine Go.to (mkF m 126 #[.val (.ref b), .val (.int len)] [(.ref b), (.int (2 : Int32)), (.ref b_83), (.ref b_83), (.ref b_82), (.ref b_82)]) (fun _ k => XS.aloadN X_92.here hx rfl (hb hby d6_125) rfl rfl k) ?_
            refine Go.to (mkF m 127 #[.val (.ref b), .val (.int len)] [(.int (2 : Int32)), (.ref b), (.int (2 : Int32)), (.ref b_83), (.ref b_83), (.ref b_82), (.ref b_82)]) (fun _ k => XS.iconst X_92.here hx rfl (hb hby d6_126) k) ?_
            have f_93 : Arv Z h_92 b kC .char (7 : Int32) [(.int y0), (.int y1), (.int y2), (.int y3), (.int y4), (.int y5), (.int y6)] (.int (0 : Int32)) := (f_90.other W_92 ne_b_b_83)
            obtain ⟨cl_94, Ar_94, -, Sz_94, Ng_94, Hh_94, -⟩ := id f_93
            have hin_94 : ¬ ((2 : Int32) < 0 ∨ cl_94.slots.size ≤ ((2 : Int32)).toNatClampNeg) := inb_of Sz_94 ⟨by decide, by decide⟩
            refine Go.to (mkF m 128 #[.val (.ref b), .val (.int len)] [(.int y2), (.int (2 : Int32)), (.ref b_83), (.ref b_83), (.ref b_82), (.ref b_82)]) (X_92.caload hx (j := (2 : Int32)) (v := (.int y2)) (by rw [e_92]; exact Ar_94.1) (State.isArrayOf_alike hZ.alike Ar_94.2.1) Ar_94.2.2 hin_94 (Hh_94.at hin_94 rfl) (g := (mkF m 127 #[.val (.ref b), .val (.int len)] [(.int (2 : Int32)), (.ref b), (.int (2 : Int32)), (.ref b_83), (.ref b_83), (.ref b_82), (.ref b_82)])) rfl rfl (hb hby d6_127)) ?_
            obtain ⟨cl_95, Ar_95, q_95, Sz_95, Ng_95, Hh_95, Gg_95⟩ := id Vn_92
            have hin_95 : ¬ ((2 : Int32) < 0 ∨ cl_95.slots.size ≤ ((2 : Int32)).toNatClampNeg) := inb_of Sz_95 ⟨by decide, by decide⟩
            obtain ⟨T_95, h_95, X_95, e_95, W_95, st_95⟩ := stC X_92 hx hZ e_92 Ar_95 (j := (2 : Int32)) hin_95 (g := (mkF m 128 #[.val (.ref b), .val (.int len)] [(.int y2), (.int (2 : Int32)), (.ref b_83), (.ref b_83), (.ref b_82), (.ref b_82)])) rfl rfl (hb hby d6_128)
            have N_95 := Fr.snoc X_95 N_92 g_b_83
            have V_95 : Arv Z h_95 b_83 k_83 .char (4 : Int32) [(.int y0), (.int y1), (.int (nar .char y2)), (.int (0 : Int32))] (.int (0 : Int32)) := Arv.set Ar_95 q_95 Sz_95 Ng_95 Hh_95 Gg_95 (fits_nar_char _) W_95 2 rfl (Nat.le_of_ble_eq_true rfl)
            have Vn_95 : Arv Z h_95 b_83 k_83 .char (4 : Int32) [(.int y0), (.int y1), (.int y2), (.int (0 : Int32))] (.int (0 : Int32)) := by have q := V_95; rw [own_nc hy2] at q; exact q
            refine Go.to (mkF m 129 #[.val (.ref b), .val (.int len)] [(.ref b_83), (.ref b_82), (.ref b_82)]) st_95 ?_
            refine Go.to (mkF m 130 #[.val (.ref b), .val (.int len)] [(.ref b_83), (.ref b_83), (.ref b_82), (.ref b_82)]) (fun _ k => XS.dup X_95.here hx rfl (hb hby d6_129) rfl rfl k) ?_
            refine Go.to (mkF m 131 #[.val (.ref b), .val (.int len)] [(.int (3 : Int32)), (.ref b_83), (.ref b_83), (.ref b_82), (.ref b_82)]) (fun _ k => XS.iconst X_95.here hx rfl (hb hby d6_130) k) ?_
            refine Go.to (mkF m 132 #[.val (.ref b), .val (.int len)] [(.ref b), (.int (3 : Int32)), (.ref b_83), (.ref b_83), (.ref b_82), (.ref b_82)]) (fun _ k => XS.aloadN X_95.here hx rfl (hb hby d6_131) rfl rfl k) ?_
            refine Go.to (mkF m 133 #[.val (.ref b), .val (.int len)] [(.int (3 : Int32)), (.ref b), (.int (3 : Int32)), (.ref b_83), (.ref b_83), (.ref b_82), (.ref b_82)]) (fun _ k => XS.iconst X_95.here hx rfl (hb hby d6_132) k) ?_
            have f_96 : Arv Z h_95 b kC .char (7 : Int32) [(.int y0), (.int y1), (.int y2), (.int y3), (.int y4), (.int y5), (.int y6)] (.int (0 : Int32)) := (f_93.other W_95 ne_b_b_83)
            obtain ⟨cl_97, Ar_97, -, Sz_97, Ng_97, Hh_97, -⟩ := id f_96
            have hin_97 : ¬ ((3 : Int32) < 0 ∨ cl_97.slots.size ≤ ((3 : Int32)).toNatClampNeg) := inb_of Sz_97 ⟨by decide, by decide⟩
            refine Go.to (mkF m 134 #[.val (.ref b), .val (.int len)] [(.int y3), (.int (3 : Int32)), (.ref b_83), (.ref b_83), (.ref b_82), (.ref b_82)]) (X_95.caload hx (j := (3 : Int32)) (v := (.int y3)) (by rw [e_95]; exact Ar_97.1) (State.isArrayOf_alike hZ.alike Ar_97.2.1) Ar_97.2.2 hin_97 (Hh_97.at hin_97 rfl) (g := (mkF m 133 #[.val (.ref b), .val (.int len)] [(.int (3 : Int32)), (.ref b), (.int (3 : Int32)), (.ref b_83), (.ref b_83), (.ref b_82), (.ref b_82)])) rfl rfl (hb hby d6_133)) ?_
            obtain ⟨cl_98, Ar_98, q_98, Sz_98, Ng_98, Hh_98, Gg_98⟩ := id Vn_95
            have hin_98 : ¬ ((3 : Int32) < 0 ∨ cl_98.slots.size ≤ ((3 : Int32)).toNatClampNeg) := inb_of Sz_98 ⟨by decide, by decide⟩
            obtain ⟨T_98, h_98, X_98, e_98, W_98, st_98⟩ := stC X_95 hx hZ e_95 Ar_98 (j := (3 : Int32)) hin_98 (g := (mkF m 134 #[.val (.ref b), .val (.int len)] [(.int y3), (.int (3 : Int32)), (.ref b_83), (.ref b_83), (.ref b_82), (.ref b_82)])) rfl rfl (hb hby d6_134)
            have N_98 := Fr.snoc X_98 N_95 g_b_83
            have V_98 : Arv Z h_98 b_83 k_83 .char (4 : Int32) [(.int y0), (.int y1), (.int y2), (.int (nar .char y3))] (.int (0 : Int32)) := Arv.set Ar_98 q_98 Sz_98 Ng_98 Hh_98 Gg_98 (fits_nar_char _) W_98 3 rfl (Nat.le_of_ble_eq_true rfl)
            have Vn_98 : Arv Z h_98 b_83 k_83 .char (4 : Int32) [(.int y0), (.int y1), (.int y2), (.int y3)] (.int (0 : Int32)) := by have q := V_98; rw [own_nc hy3] at q; exact q
            refine Go.to (mkF m 135 #[.val (.ref b), .val (.int len)] [(.ref b_83), (.ref b_82), (.ref b_82)]) st_98 ?_
            have hp4 : ∀ c ∈ ([y0, y1, y2, y3] : List Int32), ¬ c < 0 ∧ ¬ (255 : Int32) < c := (own_cS hy0 (own_cS hy1 (own_cS hy2 (own_cS hy3 own_c0))))
            have f_99 : Exa Z h_98 b_82 "java/lang/String" := (((((A_82.ext E_83).wr W_89).wr W_92).wr W_95).wr W_98)
            have f_100 : Fld Z h_98 b_82 "java/lang/String" "value" "[B" .null := (((((F_value_b_82.ext E_83).other W_89 (Or.inl ne_b_82_b_83)).other W_92 (Or.inl ne_b_82_b_83)).other W_95 (Or.inl ne_b_82_b_83)).other W_98 (Or.inl ne_b_82_b_83))
            have f_101 : Fld Z h_98 b_82 "java/lang/String" "coder" "B" (.int (0 : Int32)) := (((((F_coder_b_82.ext E_83).other W_89 (Or.inl ne_b_82_b_83)).other W_92 (Or.inl ne_b_82_b_83)).other W_95 (Or.inl ne_b_82_b_83)).other W_98 (Or.inl ne_b_82_b_83))
            have f_102 : Sta Z h_98 "java/lang/String" "COMPACT_STRINGS" "Z" (.int z) := ((((((PS_java_lang_String_COMPACT_STRINGS.ext E_82).ext E_83).wr W_89).wr W_92).wr W_95).wr W_98)
            have f_103 : n0 ≤ h_98.size := (Nat.le_trans (Nat.le_trans (Nat.le_trans (Nat.le_trans (Nat.le_trans f_85 E_83.1) (Keep.of_wr W_89).1) (Keep.of_wr W_92).1) (Keep.of_wr W_95).1) (Keep.of_wr W_98).1)
            refine Go.special X_98 hx hZ (y := (⟨"java/lang/String", "<init>", "([C)V"⟩ : MethodName)) rfl hown (hw _ (List.mem_of_getElem? (i := 40) rfl)) (hw _ (List.mem_of_getElem? (i := 41) rfl)) (hw _ (List.mem_of_getElem? (i := 42) rfl)) (by decide) e_98 (a := b_82) (argsL := [(.ref b_83)]) (rest := [(.ref b_82)]) (own_newS (W := 1) hZ hw (hw _ (List.mem_of_getElem? (i := 2) rfl)) (cs := ([y0, y1, y2, y3] : List Int32)) (n := 4) g_b_82 f_103 f_99 f_100 f_101 Vn_98 f_102 hz rfl rfl (by decide) (by decide) hp4 (by decide) (by decide)) (pc := 135) (Ls := #[.val (.ref b), .val (.int len)]) (by rw [hml]; rfl) (lenOf own_pd1 rfl) rfl (Nat.le_refl _) (hb hby d6_135) (by decide) (by decide) ?_
            intro T_104 v_104 L_104 X_104 hQ_104
            obtain ⟨t_104, kb_104, rfl, Nq_104, K_104, pf_104_0, pf_104_1, pf_104_2, sz_t_104⟩ := hQ_104
            have N_104 := Fr.app N_98 Nq_104
            have f_105 : Arv Z h_98 b kC .char (7 : Int32) [(.int y0), (.int y1), (.int y2), (.int y3), (.int y4), (.int y5), (.int y6)] (.int (0 : Int32)) := (f_96.other W_98 ne_b_b_83)
            have f_106 : Keep h0 h_98 [] := (((((f_86.ext E_83).wr W_89 (Or.inr sz_b_83)).wr W_92 (Or.inr sz_b_83)).wr W_95 (Or.inr sz_b_83)).wr W_98 (Or.inr sz_b_83))
            show Go p e below (FinW s (Q6 Z b kC y0 y1 y2 y3 y4 y5 y6 len a5 cs5 z h0 n0) ({ frames := 4, cells := 4, slots := 24, locals := 72 } : Room).cells ({ frames := 4, cells := 4, slots := 24, locals := 72 } : Room).slots) T_104 (mkF m 138 #[.val (.ref b), .val (.int len)] [(.ref b_82)])
            have g_t_104 : n0 ≤ t_104 := Nat.le_trans f_103 sz_t_104
            have ne_b_t_104 : b ≠ t_104 := Nat.ne_of_lt (Nat.lt_of_lt_of_le f_105.lt sz_t_104)
            have ne_b_82_t_104 : b_82 ≠ t_104 := Nat.ne_of_lt (Nat.lt_of_lt_of_le f_99.lt sz_t_104)
            have ne_b_83_t_104 : b_83 ≠ t_104 := Nat.ne_of_lt (Nat.lt_of_lt_of_le Vn_98.lt sz_t_104)
            have sz_t_104 : h0.size ≤ t_104 := Nat.le_trans f_106.1 sz_t_104
            have f_107 : 0 ≤ T_104.heap.size := (Nat.le_trans (Nat.le_trans (Nat.le_trans (Nat.le_trans (Nat.le_trans (Nat.le_trans (Nat.le_trans (Nat.zero_le _) E_82.1) E_83.1) (Keep.of_wr W_89).1) (Keep.of_wr W_92).1) (Keep.of_wr W_95).1) (Keep.of_wr W_98).1) K_104.1)
            refine Go.retAW X_104 hx (t := (.object "java/lang/String")) hret hlk rfl rfl (hb hby d6_138) (by decide) (by decide) hS f_107 ?_
            have f_108 : Keep h0 T_104.heap [] := (f_106.trans K_104 (allS (Or.inr sz_b_82) all0))
            have f_109 : Exa Z T_104.heap b_82 "java/lang/String" := (f_99.keep K_104)
            show (Q6 Z b kC y0 y1 y2 y3 y4 y5 y6 len a5 cs5 z h0 n0) _ T_104.heap _ _
            exact ⟨b_82, t_104, kb_104, rfl, N_104, f_108, f_109, pf_104_0, pf_104_1, (by rw [q4, own_tk4]; exact pf_104_2), (OwnV.less (OwnV.warm (s := s.setVm _) hV X_104.warmed))⟩
          · refine Go.to (mkF m 139 #[.val (.ref b), .val (.int len)] []) (fun _ k => XS.icmpYes X0.here hx rfl (pc0 := 101) (pc' := 139) rfl (hb hby d6_101) rfl (feq q4).2 (by decide) (by decide) k) ?_
            refine Go.to (mkF m 140 #[.val (.ref b), .val (.int len)] [(.int len)]) (fun _ k => XS.iloadN X0.here hx rfl (hb hby d6_139) rfl  k) ?_
            refine Go.to (mkF m 141 #[.val (.ref b), .val (.int len)] [(.int (5 : Int32)), (.int len)]) (fun _ k => XS.iconst X0.here hx rfl (hb hby d6_140) k) ?_
            by_cases q5 : len = (5 : Int32)
            · refine Go.to (mkF m 144 #[.val (.ref b), .val (.int len)] []) (fun _ k => XS.icmpNo X0.here hx rfl (hb hby d6_141) rfl (teq q5).2 k) ?_
              obtain ⟨T_110, h_110, X_110, e_110, E_110, A_110, D_110, -, st_110⟩ := newO X0 hx hZ hown (hw _ (List.mem_of_getElem? (i := 39) rfl)) (hw _ (List.mem_of_getElem? (i := 2) rfl)) (hw _ (List.mem_of_getElem? (i := 1) rfl)) e0 (g := (mkF m 144 #[.val (.ref b), .val (.int len)] [])) rfl (hb hby d6_144) (by decide) (by decide)
              obtain ⟨b_110, g_110⟩ : ∃ z, z = h0.size := ⟨_, rfl⟩
              rw [← g_110] at A_110 D_110 st_110
              have g_b_110 : n0 ≤ b_110 := Nat.le_trans Z0 (Nat.le_of_eq g_110.symm)
              have sz_b_110 : h0.size ≤ b_110 := Nat.le_trans (Keep.refl h0 []).1 (Nat.le_of_eq g_110.symm)
              have ne_b_b_110 : b ≠ b_110 := Nat.ne_of_lt (Nat.lt_of_lt_of_le PA_b.lt (Nat.le_of_eq g_110.symm))
              have F_value_b_110 : Fld Z h_110 b_110 "java/lang/String" "value" "[B" .null := D_110 (Or.inr (hw _ (List.mem_of_getElem? (i := 4) rfl))) (ty := (.array .byte)) (by decide)
              have F_coder_b_110 : Fld Z h_110 b_110 "java/lang/String" "coder" "B" (.int (0 : Int32)) := D_110 (Or.inr (hw _ (List.mem_of_getElem? (i := 5) rfl))) (ty := .byte) (by decide)
              refine Go.to (mkF m 147 #[.val (.ref b), .val (.int len)] [(.ref b_110)]) st_110 ?_
              refine Go.to (mkF m 148 #[.val (.ref b), .val (.int len)] [(.ref b_110), (.ref b_110)]) (fun _ k => XS.dup X_110.here hx rfl (hb hby d6_147) rfl rfl k) ?_
              refine Go.to (mkF m 149 #[.val (.ref b), .val (.int len)] [(.int (5 : Int32)), (.ref b_110), (.ref b_110)]) (fun _ k => XS.iconst X_110.here hx rfl (hb hby d6_148) k) ?_
              have f_112 : Arv Z h_110 b kC .char (7 : Int32) [(.int y0), (.int y1), (.int y2), (.int y3), (.int y4), (.int y5), (.int y6)] (.int (0 : Int32)) := (PA_b.ext E_110)
              have f_113 : n0 ≤ h_110.size := (Nat.le_trans Z0 E_110.1)
              have f_114 : Keep h0 h_110 [] := ((Keep.refl h0 []).ext E_110)
              obtain ⟨T_111, h_111, k_111, X_111, e_111, E_111, A_111, st_111⟩ := newP X_110 hx hZ (hw _ (List.mem_of_getElem? (i := 8) rfl)) e_110 (g := (mkF m 149 #[.val (.ref b), .val (.int len)] [(.int (5 : Int32)), (.ref b_110), (.ref b_110)])) rfl (hb hby d6_149) rfl (by decide) (cap := 5) (by decide) (by decide) (by decide) (by decide)
              obtain ⟨b_111, g_111⟩ : ∃ z, z = h_110.size := ⟨_, rfl⟩
              rw [← g_111] at A_111 st_111
              have g_b_111 : n0 ≤ b_111 := Nat.le_trans f_113 (Nat.le_of_eq g_111.symm)
              have sz_b_111 : h0.size ≤ b_111 := Nat.le_trans f_114.1 (Nat.le_of_eq g_111.symm)
              have ne_b_b_111 : b ≠ b_111 := Nat.ne_of_lt (Nat.lt_of_lt_of_le f_112.lt (Nat.le_of_eq g_111.symm))
              have ne_b_110_b_111 : b_110 ≠ b_111 := Nat.ne_of_lt (Nat.lt_of_lt_of_le A_110.lt (Nat.le_of_eq g_111.symm))
              have V_b_111 : Arv Z h_111 b_111 k_111 .char (5 : Int32) [(.int (0 : Int32)), (.int (0 : Int32)), (.int (0 : Int32)), (.int (0 : Int32)), (.int (0 : Int32))] (.int (0 : Int32)) := (Arv.new A_111 (by decide)).pad (pad_rep [] (.int (0 : Int32)) 5)
              refine Go.to (mkF m 151 #[.val (.ref b), .val (.int len)] [(.ref b_111), (.ref b_110), (.ref b_110)]) st_111 ?_
              refine Go.to (mkF m 152 #[.val (.ref b), .val (.int len)] [(.ref b_111), (.ref b_111), (.ref b_110), (.ref b_110)]) (fun _ k => XS.dup X_111.here hx rfl (hb hby d6_151) rfl rfl k) ?_
              refine Go.to (mkF m 153 #[.val (.ref b), .val (.int len)] [(.int (0 : Int32)), (.ref b_111), (.ref b_111), (.ref b_110), (.ref b_110)]) (fun _ k => XS.iconst X_111.here hx rfl (hb hby d6_152) k) ?_
              refine Go.to (mkF m 154 #[.val (.ref b), .val (.int len)] [(.ref b), (.int (0 : Int32)), (.ref b_111), (.ref b_111), (.ref b_110), (.ref b_110)]) (fun _ k => XS.aloadN X_111.here hx rfl (hb hby d6_153) rfl rfl k) ?_
              refine Go.to (mkF m 155 #[.val (.ref b), .val (.int len)] [(.int (0 : Int32)), (.ref b), (.int (0 : Int32)), (.ref b_111), (.ref b_111), (.ref b_110), (.ref b_110)]) (fun _ k => XS.iconst X_111.here hx rfl (hb hby d6_154) k) ?_
              have f_115 : Arv Z h_111 b kC .char (7 : Int32) [(.int y0), (.int y1), (.int y2), (.int y3), (.int y4), (.int y5), (.int y6)] (.int (0 : Int32)) := (f_112.ext E_111)
              obtain ⟨cl_116, Ar_116, -, Sz_116, Ng_116, Hh_116, -⟩ := id f_115
              have hin_116 : ¬ ((0 : Int32) < 0 ∨ cl_116.slots.size ≤ ((0 : Int32)).toNatClampNeg) := inb_of Sz_116 ⟨by decide, by decide⟩
              refine Go.to (mkF m 156 #[.val (.ref b), .val (.int len)] [(.int y0), (.int (0 : Int32)), (.ref b_111), (.ref b_111), (.ref b_110), (.ref b_110)]) (X_111.caload hx (j := (0 : Int32)) (v := (.int y0)) (by rw [e_111]; exact Ar_116.1) (State.isArrayOf_alike hZ.alike Ar_116.2.1) Ar_116.2.2 hin_116 (Hh_116.at hin_116 rfl) (g := (mkF m 155 #[.val (.ref b), .val (.int len)] [(.int (0 : Int32)), (.ref b), (.int (0 : Int32)), (.ref b_111), (.ref b_111), (.ref b_110), (.ref b_110)])) rfl rfl (hb hby d6_155)) ?_
              obtain ⟨cl_117, Ar_117, q_117, Sz_117, Ng_117, Hh_117, Gg_117⟩ := id V_b_111
              have hin_117 : ¬ ((0 : Int32) < 0 ∨ cl_117.slots.size ≤ ((0 : Int32)).toNatClampNeg) := inb_of Sz_117 ⟨by decide, by decide⟩
              obtain ⟨T_117, h_117, X_117, e_117, W_117, st_117⟩ := stC X_111 hx hZ e_111 Ar_117 (j := (0 : Int32)) hin_117 (g := (mkF m 156 #[.val (.ref b), .val (.int len)] [(.int y0), (.int (0 : Int32)), (.ref b_111), (.ref b_111), (.ref b_110), (.ref b_110)])) rfl rfl (hb hby d6_156)
              have N_117 := Fr.snoc X_117 N0 g_b_111
              have V_117 : Arv Z h_117 b_111 k_111 .char (5 : Int32) [(.int (nar .char y0)), (.int (0 : Int32)), (.int (0 : Int32)), (.int (0 : Int32)), (.int (0 : Int32))] (.int (0 : Int32)) := Arv.set Ar_117 q_117 Sz_117 Ng_117 Hh_117 Gg_117 (fits_nar_char _) W_117 0 rfl (Nat.le_of_ble_eq_true rfl)
              have Vn_117 : Arv Z h_117 b_111 k_111 .char (5 : Int32) [(.int y0), (.int (0 : Int32)), (.int (0 : Int32)), (.int (0 : Int32)), (.int (0 : Int32))] (.int (0 : Int32)) := by have q := V_117; rw [own_nc hy0] at q; exact q
              refine Go.to (mkF m 157 #[.val (.ref b), .val (.int len)] [(.ref b_111), (.ref b_110), (.ref b_110)]) st_117 ?_
              refine Go.to (mkF m 158 #[.val (.ref b), .val (.int len)] [(.ref b_111), (.ref b_111), (.ref b_110), (.ref b_110)]) (fun _ k => XS.dup X_117.here hx rfl (hb hby d6_157) rfl rfl k) ?_
              refine Go.to (mkF m 159 #[.val (.ref b), .val (.int len)] [(.int (1 : Int32)), (.ref b_111), (.ref b_111), (.ref b_110), (.ref b_110)]) (fun _ k => XS.iconst X_117.here hx rfl (hb hby d6_158) k) ?_
              refine Go.to (mkF m 160 #[.val (.ref b), .val (.int len)] [(.ref b), (.int (1 : Int32)), (.ref b_111), (.ref b_111), (.ref b_110), (.ref b_110)]) (fun _ k => XS.aloadN X_117.here hx rfl (hb hby d6_159) rfl rfl k) ?_
              refine Go.to (mkF m 161 #[.val (.ref b), .val (.int len)] [(.int (1 : Int32)), (.ref b), (.int (1 : Int32)), (.ref b_111), (.ref b_111), (.ref b_110), (.ref b_110)]) (fun _ k => XS.iconst X_117.here hx rfl (hb hby d6_160) k) ?_
              have f_118 : Arv Z h_117 b kC .char (7 : Int32) [(.int y0), (.int y1), (.int y2), (.int y3), (.int y4), (.int y5), (.int y6)] (.int (0 : Int32)) := (f_115.other W_117 ne_b_b_111)
              obtain ⟨cl_119, Ar_119, -, Sz_119, Ng_119, Hh_119, -⟩ := id f_118
              have hin_119 : ¬ ((1 : Int32) < 0 ∨ cl_119.slots.size ≤ ((1 : Int32)).toNatClampNeg) := inb_of Sz_119 ⟨by decide, by decide⟩
              refine Go.to (mkF m 162 #[.val (.ref b), .val (.int len)] [(.int y1), (.int (1 : Int32)), (.ref b_111), (.ref b_111), (.ref b_110), (.ref b_110)]) (X_117.caload hx (j := (1 : Int32)) (v := (.int y1)) (by rw [e_117]; exact Ar_119.1) (State.isArrayOf_alike hZ.alike Ar_119.2.1) Ar_119.2.2 hin_119 (Hh_119.at hin_119 rfl) (g := (mkF m 161 #[.val (.ref b), .val (.int len)] [(.int (1 : Int32)), (.ref b), (.int (1 : Int32)), (.ref b_111), (.ref b_111), (.ref b_110), (.ref b_110)])) rfl rfl (hb hby d6_161)) ?_
              obtain ⟨cl_120, Ar_120, q_120, Sz_120, Ng_120, Hh_120, Gg_120⟩ := id Vn_117
              have hin_120 : ¬ ((1 : Int32) < 0 ∨ cl_120.slots.size ≤ ((1 : Int32)).toNatClampNeg) := inb_of Sz_120 ⟨by decide, by decide⟩
              obtain ⟨T_120, h_120, X_120, e_120, W_120, st_120⟩ := stC X_117 hx hZ e_117 Ar_120 (j := (1 : Int32)) hin_120 (g := (mkF m 162 #[.val (.ref b), .val (.int len)] [(.int y1), (.int (1 : Int32)), (.ref b_111), (.ref b_111), (.ref b_110), (.ref b_110)])) rfl rfl (hb hby d6_162)
              have N_120 := Fr.snoc X_120 N_117 g_b_111
              have V_120 : Arv Z h_120 b_111 k_111 .char (5 : Int32) [(.int y0), (.int (nar .char y1)), (.int (0 : Int32)), (.int (0 : Int32)), (.int (0 : Int32))] (.int (0 : Int32)) := Arv.set Ar_120 q_120 Sz_120 Ng_120 Hh_120 Gg_120 (fits_nar_char _) W_120 1 rfl (Nat.le_of_ble_eq_true rfl)
              have Vn_120 : Arv Z h_120 b_111 k_111 .char (5 : Int32) [(.int y0), (.int y1), (.int (0 : Int32)), (.int (0 : Int32)), (.int (0 : Int32))] (.int (0 : Int32)) := by have q := V_120; rw [own_nc hy1] at q; exact q
              refine Go.to (mkF m 163 #[.val (.ref b), .val (.int len)] [(.ref b_111), (.ref b_110), (.ref b_110)]) st_120 ?_
              refine Go.to (mkF m 164 #[.val (.ref b), .val (.int len)] [(.ref b_111), (.ref b_111), (.ref b_110), (.ref b_110)]) (fun _ k => XS.dup X_120.here hx rfl (hb hby d6_163) rfl rfl k) ?_
              refine Go.to (mkF m 165 #[.val (.ref b), .val (.int len)] [(.int (2 : Int32)), (.ref b_111), (.ref b_111), (.ref b_110), (.ref b_110)]) (fun _ k => XS.iconst X_120.here hx rfl (hb hby d6_164) k) ?_
              refine Go.to (mkF m 166 #[.val (.ref b), .val (.int len)] [(.ref b), (.int (2 : Int32)), (.ref b_111), (.ref b_111), (.ref b_110), (.ref b_110)]) (fun _ k => XS.aloadN X_120.here hx rfl (hb hby d6_165) rfl rfl k) ?_
              refine Go.to (mkF m 167 #[.val (.ref b), .val (.int len)] [(.int (2 : Int32)), (.ref b), (.int (2 : Int32)), (.ref b_111), (.ref b_111), (.ref b_110), (.ref b_110)]) (fun _ k => XS.iconst X_120.here hx rfl (hb hby d6_166) k) ?_
              have f_121 : Arv Z h_120 b kC .char (7 : Int32) [(.int y0), (.int y1), (.int y2), (.int y3), (.int y4), (.int y5), (.int y6)] (.int (0 : Int32)) := (f_118.other W_120 ne_b_b_111)
              obtain ⟨cl_122, Ar_122, -, Sz_122, Ng_122, Hh_122, -⟩ := id f_121
              have hin_122 : ¬ ((2 : Int32) < 0 ∨ cl_122.slots.size ≤ ((2 : Int32)).toNatClampNeg) := inb_of Sz_122 ⟨by decide, by decide⟩
              refine Go.to (mkF m 168 #[.val (.ref b), .val (.int len)] [(.int y2), (.int (2 : Int32)), (.ref b_111), (.ref b_111), (.ref b_110), (.ref b_110)]) (X_120.caload hx (j := (2 : Int32)) (v := (.int y2)) (by rw [e_120]; exact Ar_122.1) (State.isArrayOf_alike hZ.alike Ar_122.2.1) Ar_122.2.2 hin_122 (Hh_122.at hin_122 rfl) (g := (mkF m 167 #[.val (.ref b), .val (.int len)] [(.int (2 : Int32)), (.ref b), (.int (2 : Int32)), (.ref b_111), (.ref b_111), (.ref b_110), (.ref b_110)])) rfl rfl (hb hby d6_167)) ?_
              obtain ⟨cl_123, Ar_123, q_123, Sz_123, Ng_123, Hh_123, Gg_123⟩ := id Vn_120
              have hin_123 : ¬ ((2 : Int32) < 0 ∨ cl_123.slots.size ≤ ((2 : Int32)).toNatClampNeg) := inb_of Sz_123 ⟨by decide, by decide⟩
              obtain ⟨T_123, h_123, X_123, e_123, W_123, st_123⟩ := stC X_120 hx hZ e_120 Ar_123 (j := (2 : Int32)) hin_123 (g := (mkF m 168 #[.val (.ref b), .val (.int len)] [(.int y2), (.int (2 : Int32)), (.ref b_111), (.ref b_111), (.ref b_110), (.ref b_110)])) rfl rfl (hb hby d6_168)
              have N_123 := Fr.snoc X_123 N_120 g_b_111
              have V_123 : Arv Z h_123 b_111 k_111 .char (5 : Int32) [(.int y0), (.int y1), (.int (nar .char y2)), (.int (0 : Int32)), (.int (0 : Int32))] (.int (0 : Int32)) := Arv.set Ar_123 q_123 Sz_123 Ng_123 Hh_123 Gg_123 (fits_nar_char _) W_123 2 rfl (Nat.le_of_ble_eq_true rfl)
              have Vn_123 : Arv Z h_123 b_111 k_111 .char (5 : Int32) [(.int y0), (.int y1), (.int y2), (.int (0 : Int32)), (.int (0 : Int32))] (.int (0 : Int32)) := by have q := V_123; rw [own_nc hy2] at q; exact q
              refine Go.to (mkF m 169 #[.val (.ref b), .val (.int len)] [(.ref b_111), (.ref b_110), (.ref b_110)]) st_123 ?_
              refine Go.to (mkF m 170 #[.val (.ref b), .val (.int len)] [(.ref b_111), (.ref b_111), (.ref b_110), (.ref b_110)]) (fun _ k => XS.dup X_123.here hx rfl (hb hby d6_169) rfl rfl k) ?_
              refine Go.to (mkF m 171 #[.val (.ref b), .val (.int len)] [(.int (3 : Int32)), (.ref b_111), (.ref b_111), (.ref b_110), (.ref b_110)]) (fun _ k => XS.iconst X_123.here hx rfl (hb hby d6_170) k) ?_
              refine Go.to (mkF m 172 #[.val (.ref b), .val (.int len)] [(.ref b), (.int (3 : Int32)), (.ref b_111), (.ref b_111), (.ref b_110), (.ref b_110)]) (fun _ k => XS.aloadN X_123.here hx rfl (hb hby d6_171) rfl rfl k) ?_
              refine Go.to (mkF m 173 #[.val (.ref b), .val (.int len)] [(.int (3 : Int32)), (.ref b), (.int (3 : Int32)), (.ref b_111), (.ref b_111), (.ref b_110), (.ref b_110)]) (fun _ k => XS.iconst X_123.here hx rfl (hb hby d6_172) k) ?_
              have f_124 : Arv Z h_123 b kC .char (7 : Int32) [(.int y0), (.int y1), (.int y2), (.int y3), (.int y4), (.int y5), (.int y6)] (.int (0 : Int32)) := (f_121.other W_123 ne_b_b_111)
              obtain ⟨cl_125, Ar_125, -, Sz_125, Ng_125, Hh_125, -⟩ := id f_124
              have hin_125 : ¬ ((3 : Int32) < 0 ∨ cl_125.slots.size ≤ ((3 : Int32)).toNatClampNeg) := inb_of Sz_125 ⟨by decide, by decide⟩
              refine Go.to (mkF m 174 #[.val (.ref b), .val (.int len)] [(.int y3), (.int (3 : Int32)), (.ref b_111), (.ref b_111), (.ref b_110), (.ref b_110)]) (X_123.caload hx (j := (3 : Int32)) (v := (.int y3)) (by rw [e_123]; exact Ar_125.1) (State.isArrayOf_alike hZ.alike Ar_125.2.1) Ar_125.2.2 hin_125 (Hh_125.at hin_125 rfl) (g := (mkF m 173 #[.val (.ref b), .val (.int len)] [(.int (3 : Int32)), (.ref b), (.int (3 : Int32)), (.ref b_111), (.ref b_111), (.ref b_110), (.ref b_110)])) rfl rfl (hb hby d6_173)) ?_
              obtain ⟨cl_126, Ar_126, q_126, Sz_126, Ng_126, Hh_126, Gg_126⟩ := id Vn_123
              have hin_126 : ¬ ((3 : Int32) < 0 ∨ cl_126.slots.size ≤ ((3 : Int32)).toNatClampNeg) := inb_of Sz_126 ⟨by decide, by decide⟩
              obtain ⟨T_126, h_126, X_126, e_126, W_126, st_126⟩ := stC X_123 hx hZ e_123 Ar_126 (j := (3 : Int32)) hin_126 (g := (mkF m 174 #[.val (.ref b), .val (.int len)] [(.int y3), (.int (3 : Int32)), (.ref b_111), (.ref b_111), (.ref b_110), (.ref b_110)])) rfl rfl (hb hby d6_174)
              have N_126 := Fr.snoc X_126 N_123 g_b_111
              have V_126 : Arv Z h_126 b_111 k_111 .char (5 : Int32) [(.int y0), (.int y1), (.int y2), (.int (nar .char y3)), (.int (0 : Int32))] (.int (0 : Int32)) := Arv.set Ar_126 q_126 Sz_126 Ng_126 Hh_126 Gg_126 (fits_nar_char _) W_126 3 rfl (Nat.le_of_ble_eq_true rfl)
              have Vn_126 : Arv Z h_126 b_111 k_111 .char (5 : Int32) [(.int y0), (.int y1), (.int y2), (.int y3), (.int (0 : Int32))] (.int (0 : Int32)) := by have q := V_126; rw [own_nc hy3] at q; exact q
              refine Go.to (mkF m 175 #[.val (.ref b), .val (.int len)] [(.ref b_111), (.ref b_110), (.ref b_110)]) st_126 ?_
              refine Go.to (mkF m 176 #[.val (.ref b), .val (.int len)] [(.ref b_111), (.ref b_111), (.ref b_110), (.ref b_110)]) (fun _ k => XS.dup X_126.here hx rfl (hb hby d6_175) rfl rfl k) ?_
              refine Go.to (mkF m 177 #[.val (.ref b), .val (.int len)] [(.int (4 : Int32)), (.ref b_111), (.ref b_111), (.ref b_110), (.ref b_110)]) (fun _ k => XS.iconst X_126.here hx rfl (hb hby d6_176) k) ?_
              refine Go.to (mkF m 178 #[.val (.ref b), .val (.int len)] [(.ref b), (.int (4 : Int32)), (.ref b_111), (.ref b_111), (.ref b_110), (.ref b_110)]) (fun _ k => XS.aloadN X_126.here hx rfl (hb hby d6_177) rfl rfl k) ?_
              refine Go.to (mkF m 179 #[.val (.ref b), .val (.int len)] [(.int (4 : Int32)), (.ref b), (.int (4 : Int32)), (.ref b_111), (.ref b_111), (.ref b_110), (.ref b_110)]) (fun _ k => XS.iconst X_126.here hx rfl (hb hby d6_178) k) ?_
              have f_127 : Arv Z h_126 b kC .char (7 : Int32) [(.int y0), (.int y1), (.int y2), (.int y3), (.int y4), (.int y5), (.int y6)] (.int (0 : Int32)) := (f_124.other W_126 ne_b_b_111)
              obtain ⟨cl_128, Ar_128, -, Sz_128, Ng_128, Hh_128, -⟩ := id f_127
              have hin_128 : ¬ ((4 : Int32) < 0 ∨ cl_128.slots.size ≤ ((4 : Int32)).toNatClampNeg) := inb_of Sz_128 ⟨by decide, by decide⟩
              refine Go.to (mkF m 180 #[.val (.ref b), .val (.int len)] [(.int y4), (.int (4 : Int32)), (.ref b_111), (.ref b_111), (.ref b_110), (.ref b_110)]) (X_126.caload hx (j := (4 : Int32)) (v := (.int y4)) (by rw [e_126]; exact Ar_128.1) (State.isArrayOf_alike hZ.alike Ar_128.2.1) Ar_128.2.2 hin_128 (Hh_128.at hin_128 rfl) (g := (mkF m 179 #[.val (.ref b), .val (.int len)] [(.int (4 : Int32)), (.ref b), (.int (4 : Int32)), (.ref b_111), (.ref b_111), (.ref b_110), (.ref b_110)])) rfl rfl (hb hby d6_179)) ?_
              obtain ⟨cl_129, Ar_129, q_129, Sz_129, Ng_129, Hh_129, Gg_129⟩ := id Vn_126
              have hin_129 : ¬ ((4 : Int32) < 0 ∨ cl_129.slots.size ≤ ((4 : Int32)).toNatClampNeg) := inb_of Sz_129 ⟨by decide, by decide⟩
              obtain ⟨T_129, h_129, X_129, e_129, W_129, st_129⟩ := stC X_126 hx hZ e_126 Ar_129 (j := (4 : Int32)) hin_129 (g := (mkF m 180 #[.val (.ref b), .val (.int len)] [(.int y4), (.int (4 : Int32)), (.ref b_111), (.ref b_111), (.ref b_110), (.ref b_110)])) rfl rfl (hb hby d6_180)
              have N_129 := Fr.snoc X_129 N_126 g_b_111
              have V_129 : Arv Z h_129 b_111 k_111 .char (5 : Int32) [(.int y0), (.int y1), (.int y2), (.int y3), (.int (nar .char y4))] (.int (0 : Int32)) := Arv.set Ar_129 q_129 Sz_129 Ng_129 Hh_129 Gg_129 (fits_nar_char _) W_129 4 rfl (Nat.le_of_ble_eq_true rfl)
              have Vn_129 : Arv Z h_129 b_111 k_111 .char (5 : Int32) [(.int y0), (.int y1), (.int y2), (.int y3), (.int y4)] (.int (0 : Int32)) := by have q := V_129; rw [own_nc hy4] at q; exact q
              refine Go.to (mkF m 181 #[.val (.ref b), .val (.int len)] [(.ref b_111), (.ref b_110), (.ref b_110)]) st_129 ?_
              have hp5 : ∀ c ∈ ([y0, y1, y2, y3, y4] : List Int32), ¬ c < 0 ∧ ¬ (255 : Int32) < c := (own_cS hy0 (own_cS hy1 (own_cS hy2 (own_cS hy3 (own_cS hy4 own_c0)))))
              have f_130 : Exa Z h_129 b_110 "java/lang/String" := ((((((A_110.ext E_111).wr W_117).wr W_120).wr W_123).wr W_126).wr W_129)
              have f_131 : Fld Z h_129 b_110 "java/lang/String" "value" "[B" .null := ((((((F_value_b_110.ext E_111).other W_117 (Or.inl ne_b_110_b_111)).other W_120 (Or.inl ne_b_110_b_111)).other W_123 (Or.inl ne_b_110_b_111)).other W_126 (Or.inl ne_b_110_b_111)).other W_129 (Or.inl ne_b_110_b_111))
              have f_132 : Fld Z h_129 b_110 "java/lang/String" "coder" "B" (.int (0 : Int32)) := ((((((F_coder_b_110.ext E_111).other W_117 (Or.inl ne_b_110_b_111)).other W_120 (Or.inl ne_b_110_b_111)).other W_123 (Or.inl ne_b_110_b_111)).other W_126 (Or.inl ne_b_110_b_111)).other W_129 (Or.inl ne_b_110_b_111))
              have f_133 : Sta Z h_129 "java/lang/String" "COMPACT_STRINGS" "Z" (.int z) := (((((((PS_java_lang_String_COMPACT_STRINGS.ext E_110).ext E_111).wr W_117).wr W_120).wr W_123).wr W_126).wr W_129)
              have f_134 : n0 ≤ h_129.size := (Nat.le_trans (Nat.le_trans (Nat.le_trans (Nat.le_trans (Nat.le_trans (Nat.le_trans f_113 E_111.1) (Keep.of_wr W_117).1) (Keep.of_wr W_120).1) (Keep.of_wr W_123).1) (Keep.of_wr W_126).1) (Keep.of_wr W_129).1)
              refine Go.special X_129 hx hZ (y := (⟨"java/lang/String", "<init>", "([C)V"⟩ : MethodName)) rfl hown (hw _ (List.mem_of_getElem? (i := 40) rfl)) (hw _ (List.mem_of_getElem? (i := 41) rfl)) (hw _ (List.mem_of_getElem? (i := 42) rfl)) (by decide) e_129 (a := b_110) (argsL := [(.ref b_111)]) (rest := [(.ref b_110)]) (own_newS (W := 1) hZ hw (hw _ (List.mem_of_getElem? (i := 2) rfl)) (cs := ([y0, y1, y2, y3, y4] : List Int32)) (n := 5) g_b_110 f_134 f_130 f_131 f_132 Vn_129 f_133 hz rfl rfl (by decide) (by decide) hp5 (by decide) (by decide)) (pc := 181) (Ls := #[.val (.ref b), .val (.int len)]) (by rw [hml]; rfl) (lenOf own_pd1 rfl) rfl (Nat.le_refl _) (hb hby d6_181) (by decide) (by decide) ?_
              intro T_135 v_135 L_135 X_135 hQ_135
              obtain ⟨t_135, kb_135, rfl, Nq_135, K_135, pf_135_0, pf_135_1, pf_135_2, sz_t_135⟩ := hQ_135
              have N_135 := Fr.app N_129 Nq_135
              have f_136 : Arv Z h_129 b kC .char (7 : Int32) [(.int y0), (.int y1), (.int y2), (.int y3), (.int y4), (.int y5), (.int y6)] (.int (0 : Int32)) := (f_127.other W_129 ne_b_b_111)
              have f_137 : Keep h0 h_129 [] := ((((((f_114.ext E_111).wr W_117 (Or.inr sz_b_111)).wr W_120 (Or.inr sz_b_111)).wr W_123 (Or.inr sz_b_111)).wr W_126 (Or.inr sz_b_111)).wr W_129 (Or.inr sz_b_111))
              show Go p e below (FinW s (Q6 Z b kC y0 y1 y2 y3 y4 y5 y6 len a5 cs5 z h0 n0) ({ frames := 4, cells := 4, slots := 24, locals := 72 } : Room).cells ({ frames := 4, cells := 4, slots := 24, locals := 72 } : Room).slots) T_135 (mkF m 184 #[.val (.ref b), .val (.int len)] [(.ref b_110)])
              have g_t_135 : n0 ≤ t_135 := Nat.le_trans f_134 sz_t_135
              have ne_b_t_135 : b ≠ t_135 := Nat.ne_of_lt (Nat.lt_of_lt_of_le f_136.lt sz_t_135)
              have ne_b_110_t_135 : b_110 ≠ t_135 := Nat.ne_of_lt (Nat.lt_of_lt_of_le f_130.lt sz_t_135)
              have ne_b_111_t_135 : b_111 ≠ t_135 := Nat.ne_of_lt (Nat.lt_of_lt_of_le Vn_129.lt sz_t_135)
              have sz_t_135 : h0.size ≤ t_135 := Nat.le_trans f_137.1 sz_t_135
              have f_138 : 0 ≤ T_135.heap.size := (Nat.le_trans (Nat.le_trans (Nat.le_trans (Nat.le_trans (Nat.le_trans (Nat.le_trans (Nat.le_trans (Nat.le_trans (Nat.zero_le _) E_110.1) E_111.1) (Keep.of_wr W_117).1) (Keep.of_wr W_120).1) (Keep.of_wr W_123).1) (Keep.of_wr W_126).1) (Keep.of_wr W_129).1) K_135.1)
              refine Go.retAW X_135 hx (t := (.object "java/lang/String")) hret hlk rfl rfl (hb hby d6_184) (by decide) (by decide) hS f_138 ?_
              have f_139 : Keep h0 T_135.heap [] := (f_137.trans K_135 (allS (Or.inr sz_b_110) all0))
              have f_140 : Exa Z T_135.heap b_110 "java/lang/String" := (f_130.keep K_135)
              show (Q6 Z b kC y0 y1 y2 y3 y4 y5 y6 len a5 cs5 z h0 n0) _ T_135.heap _ _
              exact ⟨b_110, t_135, kb_135, rfl, N_135, f_139, f_140, pf_135_0, pf_135_1, (by rw [q5, own_tk5]; exact pf_135_2), (OwnV.less (OwnV.warm (s := s.setVm _) hV X_135.warmed))⟩
            · refine Go.to (mkF m 185 #[.val (.ref b), .val (.int len)] []) (fun _ k => XS.icmpYes X0.here hx rfl (pc0 := 141) (pc' := 185) rfl (hb hby d6_141) rfl (feq q5).2 (by decide) (by decide) k) ?_
              refine Go.to (mkF m 186 #[.val (.ref b), .val (.int len)] [(.int len)]) (fun _ k => XS.iloadN X0.here hx rfl (hb hby d6_185) rfl  k) ?_
              refine Go.to (mkF m 188 #[.val (.ref b), .val (.int len)] [(.int (6 : Int32)), (.int len)]) (fun _ k => XS.bipush X0.here hx rfl (hb hby d6_186) k) ?_
              by_cases q6 : len = (6 : Int32)
              · refine Go.to (mkF m 191 #[.val (.ref b), .val (.int len)] []) (fun _ k => XS.icmpNo X0.here hx rfl (hb hby d6_188) rfl (teq q6).2 k) ?_
                obtain ⟨T_141, h_141, X_141, e_141, E_141, A_141, D_141, -, st_141⟩ := newO X0 hx hZ hown (hw _ (List.mem_of_getElem? (i := 39) rfl)) (hw _ (List.mem_of_getElem? (i := 2) rfl)) (hw _ (List.mem_of_getElem? (i := 1) rfl)) e0 (g := (mkF m 191 #[.val (.ref b), .val (.int len)] [])) rfl (hb hby d6_191) (by decide) (by decide)
                obtain ⟨b_141, g_141⟩ : ∃ z, z = h0.size := ⟨_, rfl⟩
                rw [← g_141] at A_141 D_141 st_141
                have g_b_141 : n0 ≤ b_141 := Nat.le_trans Z0 (Nat.le_of_eq g_141.symm)
                have sz_b_141 : h0.size ≤ b_141 := Nat.le_trans (Keep.refl h0 []).1 (Nat.le_of_eq g_141.symm)
                have ne_b_b_141 : b ≠ b_141 := Nat.ne_of_lt (Nat.lt_of_lt_of_le PA_b.lt (Nat.le_of_eq g_141.symm))
                have F_value_b_141 : Fld Z h_141 b_141 "java/lang/String" "value" "[B" .null := D_141 (Or.inr (hw _ (List.mem_of_getElem? (i := 4) rfl))) (ty := (.array .byte)) (by decide)
                have F_coder_b_141 : Fld Z h_141 b_141 "java/lang/String" "coder" "B" (.int (0 : Int32)) := D_141 (Or.inr (hw _ (List.mem_of_getElem? (i := 5) rfl))) (ty := .byte) (by decide)
                refine Go.to (mkF m 194 #[.val (.ref b), .val (.int len)] [(.ref b_141)]) st_141 ?_
                refine Go.to (mkF m 195 #[.val (.ref b), .val (.int len)] [(.ref b_141), (.ref b_141)]) (fun _ k => XS.dup X_141.here hx rfl (hb hby d6_194) rfl rfl k) ?_
                refine Go.to (mkF m 197 #[.val (.ref b), .val (.int len)] [(.int (6 : Int32)), (.ref b_141), (.ref b_141)]) (fun _ k => XS.bipush X_141.here hx rfl (hb hby d6_195) k) ?_
                have f_143 : Arv Z h_141 b kC .char (7 : Int32) [(.int y0), (.int y1), (.int y2), (.int y3), (.int y4), (.int y5), (.int y6)] (.int (0 : Int32)) := (PA_b.ext E_141)
                have f_144 : n0 ≤ h_141.size := (Nat.le_trans Z0 E_141.1)
                have f_145 : Keep h0 h_141 [] := ((Keep.refl h0 []).ext E_141)
                obtain ⟨T_142, h_142, k_142, X_142, e_142, E_142, A_142, st_142⟩ := newP X_141 hx hZ (hw _ (List.mem_of_getElem? (i := 8) rfl)) e_141 (g := (mkF m 197 #[.val (.ref b), .val (.int len)] [(.int (6 : Int32)), (.ref b_141), (.ref b_141)])) rfl (hb hby d6_197) rfl (by decide) (cap := 6) (by decide) (by decide) (by decide) (by decide)
                obtain ⟨b_142, g_142⟩ : ∃ z, z = h_141.size := ⟨_, rfl⟩
                rw [← g_142] at A_142 st_142
                have g_b_142 : n0 ≤ b_142 := Nat.le_trans f_144 (Nat.le_of_eq g_142.symm)
                have sz_b_142 : h0.size ≤ b_142 := Nat.le_trans f_145.1 (Nat.le_of_eq g_142.symm)
                have ne_b_b_142 : b ≠ b_142 := Nat.ne_of_lt (Nat.lt_of_lt_of_le f_143.lt (Nat.le_of_eq g_142.symm))
                have ne_b_141_b_142 : b_141 ≠ b_142 := Nat.ne_of_lt (Nat.lt_of_lt_of_le A_141.lt (Nat.le_of_eq g_142.symm))
                have V_b_142 : Arv Z h_142 b_142 k_142 .char (6 : Int32) [(.int (0 : Int32)), (.int (0 : Int32)), (.int (0 : Int32)), (.int (0 : Int32)), (.int (0 : Int32)), (.int (0 : Int32))] (.int (0 : Int32)) := (Arv.new A_142 (by decide)).pad (pad_rep [] (.int (0 : Int32)) 6)
                refine Go.to (mkF m 199 #[.val (.ref b), .val (.int len)] [(.ref b_142), (.ref b_141), (.ref b_141)]) st_142 ?_
                refine Go.to (mkF m 200 #[.val (.ref b), .val (.int len)] [(.ref b_142), (.ref b_142), (.ref b_141), (.ref b_141)]) (fun _ k => XS.dup X_142.here hx rfl (hb hby d6_199) rfl rfl k) ?_
                refine Go.to (mkF m 201 #[.val (.ref b), .val (.int len)] [(.int (0 : Int32)), (.ref b_142), (.ref b_142), (.ref b_141), (.ref b_141)]) (fun _ k => XS.iconst X_142.here hx rfl (hb hby d6_200) k) ?_
                refine Go.to (mkF m 202 #[.val (.ref b), .val (.int len)] [(.ref b), (.int (0 : Int32)), (.ref b_142), (.ref b_142), (.ref b_141), (.ref b_141)]) (fun _ k => XS.aloadN X_142.here hx rfl (hb hby d6_201) rfl rfl k) ?_
                refine Go.to (mkF m 203 #[.val (.ref b), .val (.int len)] [(.int (0 : Int32)), (.ref b), (.int (0 : Int32)), (.ref b_142), (.ref b_142), (.ref b_141), (.ref b_141)]) (fun _ k => XS.iconst X_142.here hx rfl (hb hby d6_202) k) ?_
                have f_146 : Arv Z h_142 b kC .char (7 : Int32) [(.int y0), (.int y1), (.int y2), (.int y3), (.int y4), (.int y5), (.int y6)] (.int (0 : Int32)) := (f_143.ext E_142)
                obtain ⟨cl_147, Ar_147, -, Sz_147, Ng_147, Hh_147, -⟩ := id f_146
                have hin_147 : ¬ ((0 : Int32) < 0 ∨ cl_147.slots.size ≤ ((0 : Int32)).toNatClampNeg) := inb_of Sz_147 ⟨by decide, by decide⟩
                refine Go.to (mkF m 204 #[.val (.ref b), .val (.int len)] [(.int y0), (.int (0 : Int32)), (.ref b_142), (.ref b_142), (.ref b_141), (.ref b_141)]) (X_142.caload hx (j := (0 : Int32)) (v := (.int y0)) (by rw [e_142]; exact Ar_147.1) (State.isArrayOf_alike hZ.alike Ar_147.2.1) Ar_147.2.2 hin_147 (Hh_147.at hin_147 rfl) (g := (mkF m 203 #[.val (.ref b), .val (.int len)] [(.int (0 : Int32)), (.ref b), (.int (0 : Int32)), (.ref b_142), (.ref b_142), (.ref b_141), (.ref b_141)])) rfl rfl (hb hby d6_203)) ?_
                obtain ⟨cl_148, Ar_148, q_148, Sz_148, Ng_148, Hh_148, Gg_148⟩ := id V_b_142
                have hin_148 : ¬ ((0 : Int32) < 0 ∨ cl_148.slots.size ≤ ((0 : Int32)).toNatClampNeg) := inb_of Sz_148 ⟨by decide, by decide⟩
                obtain ⟨T_148, h_148, X_148, e_148, W_148, st_148⟩ := stC X_142 hx hZ e_142 Ar_148 (j := (0 : Int32)) hin_148 (g := (mkF m 204 #[.val (.ref b), .val (.int len)] [(.int y0), (.int (0 : Int32)), (.ref b_142), (.ref b_142), (.ref b_141), (.ref b_141)])) rfl rfl (hb hby d6_204)
                have N_148 := Fr.snoc X_148 N0 g_b_142
                have V_148 : Arv Z h_148 b_142 k_142 .char (6 : Int32) [(.int (nar .char y0)), (.int (0 : Int32)), (.int (0 : Int32)), (.int (0 : Int32)), (.int (0 : Int32)), (.int (0 : Int32))] (.int (0 : Int32)) := Arv.set Ar_148 q_148 Sz_148 Ng_148 Hh_148 Gg_148 (fits_nar_char _) W_148 0 rfl (Nat.le_of_ble_eq_true rfl)
                have Vn_148 : Arv Z h_148 b_142 k_142 .char (6 : Int32) [(.int y0), (.int (0 : Int32)), (.int (0 : Int32)), (.int (0 : Int32)), (.int (0 : Int32)), (.int (0 : Int32))] (.int (0 : Int32)) := by have q := V_148; rw [own_nc hy0] at q; exact q
                refine Go.to (mkF m 205 #[.val (.ref b), .val (.int len)] [(.ref b_142), (.ref b_141), (.ref b_141)]) st_148 ?_
                refine Go.to (mkF m 206 #[.val (.ref b), .val (.int len)] [(.ref b_142), (.ref b_142), (.ref b_141), (.ref b_141)]) (fun _ k => XS.dup X_148.here hx rfl (hb hby d6_205) rfl rfl k) ?_
                refine Go.to (mkF m 207 #[.val (.ref b), .val (.int len)] [(.int (1 : Int32)), (.ref b_142), (.ref b_142), (.ref b_141), (.ref b_141)]) (fun _ k => XS.iconst X_148.here hx rfl (hb hby d6_206) k) ?_
                refine Go.to (mkF m 208 #[.val (.ref b), .val (.int len)] [(.ref b), (.int (1 : Int32)), (.ref b_142), (.ref b_142), (.ref b_141), (.ref b_141)]) (fun _ k => XS.aloadN X_148.here hx rfl (hb hby d6_207) rfl rfl k) ?_
                refine Go.to (mkF m 209 #[.val (.ref b), .val (.int len)] [(.int (1 : Int32)), (.ref b), (.int (1 : Int32)), (.ref b_142), (.ref b_142), (.ref b_141), (.ref b_141)]) (fun _ k => XS.iconst X_148.here hx rfl (hb hby d6_208) k) ?_
                have f_149 : Arv Z h_148 b kC .char (7 : Int32) [(.int y0), (.int y1), (.int y2), (.int y3), (.int y4), (.int y5), (.int y6)] (.int (0 : Int32)) := (f_146.other W_148 ne_b_b_142)
                obtain ⟨cl_150, Ar_150, -, Sz_150, Ng_150, Hh_150, -⟩ := id f_149
                have hin_150 : ¬ ((1 : Int32) < 0 ∨ cl_150.slots.size ≤ ((1 : Int32)).toNatClampNeg) := inb_of Sz_150 ⟨by decide, by decide⟩
                refine Go.to (mkF m 210 #[.val (.ref b), .val (.int len)] [(.int y1), (.int (1 : Int32)), (.ref b_142), (.ref b_142), (.ref b_141), (.ref b_141)]) (X_148.caload hx (j := (1 : Int32)) (v := (.int y1)) (by rw [e_148]; exact Ar_150.1) (State.isArrayOf_alike hZ.alike Ar_150.2.1) Ar_150.2.2 hin_150 (Hh_150.at hin_150 rfl) (g := (mkF m 209 #[.val (.ref b), .val (.int len)] [(.int (1 : Int32)), (.ref b), (.int (1 : Int32)), (.ref b_142), (.ref b_142), (.ref b_141), (.ref b_141)])) rfl rfl (hb hby d6_209)) ?_
                obtain ⟨cl_151, Ar_151, q_151, Sz_151, Ng_151, Hh_151, Gg_151⟩ := id Vn_148
                have hin_151 : ¬ ((1 : Int32) < 0 ∨ cl_151.slots.size ≤ ((1 : Int32)).toNatClampNeg) := inb_of Sz_151 ⟨by decide, by decide⟩
                obtain ⟨T_151, h_151, X_151, e_151, W_151, st_151⟩ := stC X_148 hx hZ e_148 Ar_151 (j := (1 : Int32)) hin_151 (g := (mkF m 210 #[.val (.ref b), .val (.int len)] [(.int y1), (.int (1 : Int32)), (.ref b_142), (.ref b_142), (.ref b_141), (.ref b_141)])) rfl rfl (hb hby d6_210)
                have N_151 := Fr.snoc X_151 N_148 g_b_142
                have V_151 : Arv Z h_151 b_142 k_142 .char (6 : Int32) [(.int y0), (.int (nar .char y1)), (.int (0 : Int32)), (.int (0 : Int32)), (.int (0 : Int32)), (.int (0 : Int32))] (.int (0 : Int32)) := Arv.set Ar_151 q_151 Sz_151 Ng_151 Hh_151 Gg_151 (fits_nar_char _) W_151 1 rfl (Nat.le_of_ble_eq_true rfl)
                have Vn_151 : Arv Z h_151 b_142 k_142 .char (6 : Int32) [(.int y0), (.int y1), (.int (0 : Int32)), (.int (0 : Int32)), (.int (0 : Int32)), (.int (0 : Int32))] (.int (0 : Int32)) := by have q := V_151; rw [own_nc hy1] at q; exact q
                refine Go.to (mkF m 211 #[.val (.ref b), .val (.int len)] [(.ref b_142), (.ref b_141), (.ref b_141)]) st_151 ?_
                refine Go.to (mkF m 212 #[.val (.ref b), .val (.int len)] [(.ref b_142), (.ref b_142), (.ref b_141), (.ref b_141)]) (fun _ k => XS.dup X_151.here hx rfl (hb hby d6_211) rfl rfl k) ?_
                refine Go.to (mkF m 213 #[.val (.ref b), .val (.int len)] [(.int (2 : Int32)), (.ref b_142), (.ref b_142), (.ref b_141), (.ref b_141)]) (fun _ k => XS.iconst X_151.here hx rfl (hb hby d6_212) k) ?_
                refine Go.to (mkF m 214 #[.val (.ref b), .val (.int len)] [(.ref b), (.int (2 : Int32)), (.ref b_142), (.ref b_142), (.ref b_141), (.ref b_141)]) (fun _ k => XS.aloadN X_151.here hx rfl (hb hby d6_213) rfl rfl k) ?_
                refine Go.to (mkF m 215 #[.val (.ref b), .val (.int len)] [(.int (2 : Int32)), (.ref b), (.int (2 : Int32)), (.ref b_142), (.ref b_142), (.ref b_141), (.ref b_141)]) (fun _ k => XS.iconst X_151.here hx rfl (hb hby d6_214) k) ?_
                have f_152 : Arv Z h_151 b kC .char (7 : Int32) [(.int y0), (.int y1), (.int y2), (.int y3), (.int y4), (.int y5), (.int y6)] (.int (0 : Int32)) := (f_149.other W_151 ne_b_b_142)
                obtain ⟨cl_153, Ar_153, -, Sz_153, Ng_153, Hh_153, -⟩ := id f_152
                have hin_153 : ¬ ((2 : Int32) < 0 ∨ cl_153.slots.size ≤ ((2 : Int32)).toNatClampNeg) := inb_of Sz_153 ⟨by decide, by decide⟩
                refine Go.to (mkF m 216 #[.val (.ref b), .val (.int len)] [(.int y2), (.int (2 : Int32)), (.ref b_142), (.ref b_142), (.ref b_141), (.ref b_141)]) (X_151.caload hx (j := (2 : Int32)) (v := (.int y2)) (by rw [e_151]; exact Ar_153.1) (State.isArrayOf_alike hZ.alike Ar_153.2.1) Ar_153.2.2 hin_153 (Hh_153.at hin_153 rfl) (g := (mkF m 215 #[.val (.ref b), .val (.int len)] [(.int (2 : Int32)), (.ref b), (.int (2 : Int32)), (.ref b_142), (.ref b_142), (.ref b_141), (.ref b_141)])) rfl rfl (hb hby d6_215)) ?_
                obtain ⟨cl_154, Ar_154, q_154, Sz_154, Ng_154, Hh_154, Gg_154⟩ := id Vn_151
                have hin_154 : ¬ ((2 : Int32) < 0 ∨ cl_154.slots.size ≤ ((2 : Int32)).toNatClampNeg) := inb_of Sz_154 ⟨by decide, by decide⟩
                obtain ⟨T_154, h_154, X_154, e_154, W_154, st_154⟩ := stC X_151 hx hZ e_151 Ar_154 (j := (2 : Int32)) hin_154 (g := (mkF m 216 #[.val (.ref b), .val (.int len)] [(.int y2), (.int (2 : Int32)), (.ref b_142), (.ref b_142), (.ref b_141), (.ref b_141)])) rfl rfl (hb hby d6_216)
                have N_154 := Fr.snoc X_154 N_151 g_b_142
                have V_154 : Arv Z h_154 b_142 k_142 .char (6 : Int32) [(.int y0), (.int y1), (.int (nar .char y2)), (.int (0 : Int32)), (.int (0 : Int32)), (.int (0 : Int32))] (.int (0 : Int32)) := Arv.set Ar_154 q_154 Sz_154 Ng_154 Hh_154 Gg_154 (fits_nar_char _) W_154 2 rfl (Nat.le_of_ble_eq_true rfl)
                have Vn_154 : Arv Z h_154 b_142 k_142 .char (6 : Int32) [(.int y0), (.int y1), (.int y2), (.int (0 : Int32)), (.int (0 : Int32)), (.int (0 : Int32))] (.int (0 : Int32)) := by have q := V_154; rw [own_nc hy2] at q; exact q
                refine Go.to (mkF m 217 #[.val (.ref b), .val (.int len)] [(.ref b_142), (.ref b_141), (.ref b_141)]) st_154 ?_
                refine Go.to (mkF m 218 #[.val (.ref b), .val (.int len)] [(.ref b_142), (.ref b_142), (.ref b_141), (.ref b_141)]) (fun _ k => XS.dup X_154.here hx rfl (hb hby d6_217) rfl rfl k) ?_
                refine Go.to (mkF m 219 #[.val (.ref b), .val (.int len)] [(.int (3 : Int32)), (.ref b_142), (.ref b_142), (.ref b_141), (.ref b_141)]) (fun _ k => XS.iconst X_154.here hx rfl (hb hby d6_218) k) ?_
                refine Go.to (mkF m 220 #[.val (.ref b), .val (.int len)] [(.ref b), (.int (3 : Int32)), (.ref b_142), (.ref b_142), (.ref b_141), (.ref b_141)]) (fun _ k => XS.aloadN X_154.here hx rfl (hb hby d6_219) rfl rfl k) ?_
                refine Go.to (mkF m 221 #[.val (.ref b), .val (.int len)] [(.int (3 : Int32)), (.ref b), (.int (3 : Int32)), (.ref b_142), (.ref b_142), (.ref b_141), (.ref b_141)]) (fun _ k => XS.iconst X_154.here hx rfl (hb hby d6_220) k) ?_
                have f_155 : Arv Z h_154 b kC .char (7 : Int32) [(.int y0), (.int y1), (.int y2), (.int y3), (.int y4), (.int y5), (.int y6)] (.int (0 : Int32)) := (f_152.other W_154 ne_b_b_142)
                obtain ⟨cl_156, Ar_156, -, Sz_156, Ng_156, Hh_156, -⟩ := id f_155
                have hin_156 : ¬ ((3 : Int32) < 0 ∨ cl_156.slots.size ≤ ((3 : Int32)).toNatClampNeg) := inb_of Sz_156 ⟨by decide, by decide⟩
                refine Go.to (mkF m 222 #[.val (.ref b), .val (.int len)] [(.int y3), (.int (3 : Int32)), (.ref b_142), (.ref b_142), (.ref b_141), (.ref b_141)]) (X_154.caload hx (j := (3 : Int32)) (v := (.int y3)) (by rw [e_154]; exact Ar_156.1) (State.isArrayOf_alike hZ.alike Ar_156.2.1) Ar_156.2.2 hin_156 (Hh_156.at hin_156 rfl) (g := (mkF m 221 #[.val (.ref b), .val (.int len)] [(.int (3 : Int32)), (.ref b), (.int (3 : Int32)), (.ref b_142), (.ref b_142), (.ref b_141), (.ref b_141)])) rfl rfl (hb hby d6_221)) ?_
                obtain ⟨cl_157, Ar_157, q_157, Sz_157, Ng_157, Hh_157, Gg_157⟩ := id Vn_154
                have hin_157 : ¬ ((3 : Int32) < 0 ∨ cl_157.slots.size ≤ ((3 : Int32)).toNatClampNeg) := inb_of Sz_157 ⟨by decide, by decide⟩
                obtain ⟨T_157, h_157, X_157, e_157, W_157, st_157⟩ := stC X_154 hx hZ e_154 Ar_157 (j := (3 : Int32)) hin_157 (g := (mkF m 222 #[.val (.ref b), .val (.int len)] [(.int y3), (.int (3 : Int32)), (.ref b_142), (.ref b_142), (.ref b_141), (.ref b_141)])) rfl rfl (hb hby d6_222)
                have N_157 := Fr.snoc X_157 N_154 g_b_142
                have V_157 : Arv Z h_157 b_142 k_142 .char (6 : Int32) [(.int y0), (.int y1), (.int y2), (.int (nar .char y3)), (.int (0 : Int32)), (.int (0 : Int32))] (.int (0 : Int32)) := Arv.set Ar_157 q_157 Sz_157 Ng_157 Hh_157 Gg_157 (fits_nar_char _) W_157 3 rfl (Nat.le_of_ble_eq_true rfl)
                have Vn_157 : Arv Z h_157 b_142 k_142 .char (6 : Int32) [(.int y0), (.int y1), (.int y2), (.int y3), (.int (0 : Int32)), (.int (0 : Int32))] (.int (0 : Int32)) := by have q := V_157; rw [own_nc hy3] at q; exact q
                refine Go.to (mkF m 223 #[.val (.ref b), .val (.int len)] [(.ref b_142), (.ref b_141), (.ref b_141)]) st_157 ?_
                refine Go.to (mkF m 224 #[.val (.ref b), .val (.int len)] [(.ref b_142), (.ref b_142), (.ref b_141), (.ref b_141)]) (fun _ k => XS.dup X_157.here hx rfl (hb hby d6_223) rfl rfl k) ?_
                refine Go.to (mkF m 225 #[.val (.ref b), .val (.int len)] [(.int (4 : Int32)), (.ref b_142), (.ref b_142), (.ref b_141), (.ref b_141)]) (fun _ k => XS.iconst X_157.here hx rfl (hb hby d6_224) k) ?_
                refine Go.to (mkF m 226 #[.val (.ref b), .val (.int len)] [(.ref b), (.int (4 : Int32)), (.ref b_142), (.ref b_142), (.ref b_141), (.ref b_141)]) (fun _ k => XS.aloadN X_157.here hx rfl (hb hby d6_225) rfl rfl k) ?_
                refine Go.to (mkF m 227 #[.val (.ref b), .val (.int len)] [(.int (4 : Int32)), (.ref b), (.int (4 : Int32)), (.ref b_142), (.ref b_142), (.ref b_141), (.ref b_141)]) (fun _ k => XS.iconst X_157.here hx rfl (hb hby d6_226) k) ?_
                have f_158 : Arv Z h_157 b kC .char (7 : Int32) [(.int y0), (.int y1), (.int y2), (.int y3), (.int y4), (.int y5), (.int y6)] (.int (0 : Int32)) := (f_155.other W_157 ne_b_b_142)
                obtain ⟨cl_159, Ar_159, -, Sz_159, Ng_159, Hh_159, -⟩ := id f_158
                have hin_159 : ¬ ((4 : Int32) < 0 ∨ cl_159.slots.size ≤ ((4 : Int32)).toNatClampNeg) := inb_of Sz_159 ⟨by decide, by decide⟩
                refine Go.to (mkF m 228 #[.val (.ref b), .val (.int len)] [(.int y4), (.int (4 : Int32)), (.ref b_142), (.ref b_142), (.ref b_141), (.ref b_141)]) (X_157.caload hx (j := (4 : Int32)) (v := (.int y4)) (by rw [e_157]; exact Ar_159.1) (State.isArrayOf_alike hZ.alike Ar_159.2.1) Ar_159.2.2 hin_159 (Hh_159.at hin_159 rfl) (g := (mkF m 227 #[.val (.ref b), .val (.int len)] [(.int (4 : Int32)), (.ref b), (.int (4 : Int32)), (.ref b_142), (.ref b_142), (.ref b_141), (.ref b_141)])) rfl rfl (hb hby d6_227)) ?_
                obtain ⟨cl_160, Ar_160, q_160, Sz_160, Ng_160, Hh_160, Gg_160⟩ := id Vn_157
                have hin_160 : ¬ ((4 : Int32) < 0 ∨ cl_160.slots.size ≤ ((4 : Int32)).toNatClampNeg) := inb_of Sz_160 ⟨by decide, by decide⟩
                obtain ⟨T_160, h_160, X_160, e_160, W_160, st_160⟩ := stC X_157 hx hZ e_157 Ar_160 (j := (4 : Int32)) hin_160 (g := (mkF m 228 #[.val (.ref b), .val (.int len)] [(.int y4), (.int (4 : Int32)), (.ref b_142), (.ref b_142), (.ref b_141), (.ref b_141)])) rfl rfl (hb hby d6_228)
                have N_160 := Fr.snoc X_160 N_157 g_b_142
                have V_160 : Arv Z h_160 b_142 k_142 .char (6 : Int32) [(.int y0), (.int y1), (.int y2), (.int y3), (.int (nar .char y4)), (.int (0 : Int32))] (.int (0 : Int32)) := Arv.set Ar_160 q_160 Sz_160 Ng_160 Hh_160 Gg_160 (fits_nar_char _) W_160 4 rfl (Nat.le_of_ble_eq_true rfl)
                have Vn_160 : Arv Z h_160 b_142 k_142 .char (6 : Int32) [(.int y0), (.int y1), (.int y2), (.int y3), (.int y4), (.int (0 : Int32))] (.int (0 : Int32)) := by have q := V_160; rw [own_nc hy4] at q; exact q
                refine Go.to (mkF m 229 #[.val (.ref b), .val (.int len)] [(.ref b_142), (.ref b_141), (.ref b_141)]) st_160 ?_
                refine Go.to (mkF m 230 #[.val (.ref b), .val (.int len)] [(.ref b_142), (.ref b_142), (.ref b_141), (.ref b_141)]) (fun _ k => XS.dup X_160.here hx rfl (hb hby d6_229) rfl rfl k) ?_
                refine Go.to (mkF m 231 #[.val (.ref b), .val (.int len)] [(.int (5 : Int32)), (.ref b_142), (.ref b_142), (.ref b_141), (.ref b_141)]) (fun _ k => XS.iconst X_160.here hx rfl (hb hby d6_230) k) ?_
                refine Go.to (mkF m 232 #[.val (.ref b), .val (.int len)] [(.ref b), (.int (5 : Int32)), (.ref b_142), (.ref b_142), (.ref b_141), (.ref b_141)]) (fun _ k => XS.aloadN X_160.here hx rfl (hb hby d6_231) rfl rfl k) ?_
                refine Go.to (mkF m 233 #[.val (.ref b), .val (.int len)] [(.int (5 : Int32)), (.ref b), (.int (5 : Int32)), (.ref b_142), (.ref b_142), (.ref b_141), (.ref b_141)]) (fun _ k => XS.iconst X_160.here hx rfl (hb hby d6_232) k) ?_
                have f_161 : Arv Z h_160 b kC .char (7 : Int32) [(.int y0), (.int y1), (.int y2), (.int y3), (.int y4), (.int y5), (.int y6)] (.int (0 : Int32)) := (f_158.other W_160 ne_b_b_142)
                obtain ⟨cl_162, Ar_162, -, Sz_162, Ng_162, Hh_162, -⟩ := id f_161
                have hin_162 : ¬ ((5 : Int32) < 0 ∨ cl_162.slots.size ≤ ((5 : Int32)).toNatClampNeg) := inb_of Sz_162 ⟨by decide, by decide⟩
                refine Go.to (mkF m 234 #[.val (.ref b), .val (.int len)] [(.int y5), (.int (5 : Int32)), (.ref b_142), (.ref b_142), (.ref b_141), (.ref b_141)]) (X_160.caload hx (j := (5 : Int32)) (v := (.int y5)) (by rw [e_160]; exact Ar_162.1) (State.isArrayOf_alike hZ.alike Ar_162.2.1) Ar_162.2.2 hin_162 (Hh_162.at hin_162 rfl) (g := (mkF m 233 #[.val (.ref b), .val (.int len)] [(.int (5 : Int32)), (.ref b), (.int (5 : Int32)), (.ref b_142), (.ref b_142), (.ref b_141), (.ref b_141)])) rfl rfl (hb hby d6_233)) ?_
                obtain ⟨cl_163, Ar_163, q_163, Sz_163, Ng_163, Hh_163, Gg_163⟩ := id Vn_160
                have hin_163 : ¬ ((5 : Int32) < 0 ∨ cl_163.slots.size ≤ ((5 : Int32)).toNatClampNeg) := inb_of Sz_163 ⟨by decide, by decide⟩
                obtain ⟨T_163, h_163, X_163, e_163, W_163, st_163⟩ := stC X_160 hx hZ e_160 Ar_163 (j := (5 : Int32)) hin_163 (g := (mkF m 234 #[.val (.ref b), .val (.int len)] [(.int y5), (.int (5 : Int32)), (.ref b_142), (.ref b_142), (.ref b_141), (.ref b_141)])) rfl rfl (hb hby d6_234)
                have N_163 := Fr.snoc X_163 N_160 g_b_142
                have V_163 : Arv Z h_163 b_142 k_142 .char (6 : Int32) [(.int y0), (.int y1), (.int y2), (.int y3), (.int y4), (.int (nar .char y5))] (.int (0 : Int32)) := Arv.set Ar_163 q_163 Sz_163 Ng_163 Hh_163 Gg_163 (fits_nar_char _) W_163 5 rfl (Nat.le_of_ble_eq_true rfl)
                have Vn_163 : Arv Z h_163 b_142 k_142 .char (6 : Int32) [(.int y0), (.int y1), (.int y2), (.int y3), (.int y4), (.int y5)] (.int (0 : Int32)) := by have q := V_163; rw [own_nc hy5] at q; exact q
                refine Go.to (mkF m 235 #[.val (.ref b), .val (.int len)] [(.ref b_142), (.ref b_141), (.ref b_141)]) st_163 ?_
                have hp6 : ∀ c ∈ ([y0, y1, y2, y3, y4, y5] : List Int32), ¬ c < 0 ∧ ¬ (255 : Int32) < c := (own_cS hy0 (own_cS hy1 (own_cS hy2 (own_cS hy3 (own_cS hy4 (own_cS hy5 own_c0))))))
                have f_164 : Exa Z h_163 b_141 "java/lang/String" := (((((((A_141.ext E_142).wr W_148).wr W_151).wr W_154).wr W_157).wr W_160).wr W_163)
                have f_165 : Fld Z h_163 b_141 "java/lang/String" "value" "[B" .null := (((((((F_value_b_141.ext E_142).other W_148 (Or.inl ne_b_141_b_142)).other W_151 (Or.inl ne_b_141_b_142)).other W_154 (Or.inl ne_b_141_b_142)).other W_157 (Or.inl ne_b_141_b_142)).other W_160 (Or.inl ne_b_141_b_142)).other W_163 (Or.inl ne_b_141_b_142))
                have f_166 : Fld Z h_163 b_141 "java/lang/String" "coder" "B" (.int (0 : Int32)) := (((((((F_coder_b_141.ext E_142).other W_148 (Or.inl ne_b_141_b_142)).other W_151 (Or.inl ne_b_141_b_142)).other W_154 (Or.inl ne_b_141_b_142)).other W_157 (Or.inl ne_b_141_b_142)).other W_160 (Or.inl ne_b_141_b_142)).other W_163 (Or.inl ne_b_141_b_142))
                have f_167 : Sta Z h_163 "java/lang/String" "COMPACT_STRINGS" "Z" (.int z) := ((((((((PS_java_lang_String_COMPACT_STRINGS.ext E_141).ext E_142).wr W_148).wr W_151).wr W_154).wr W_157).wr W_160).wr W_163)
                have f_168 : n0 ≤ h_163.size := (Nat.le_trans (Nat.le_trans (Nat.le_trans (Nat.le_trans (Nat.le_trans (Nat.le_trans (Nat.le_trans f_144 E_142.1) (Keep.of_wr W_148).1) (Keep.of_wr W_151).1) (Keep.of_wr W_154).1) (Keep.of_wr W_157).1) (Keep.of_wr W_160).1) (Keep.of_wr W_163).1)
                refine Go.special X_163 hx hZ (y := (⟨"java/lang/String", "<init>", "([C)V"⟩ : MethodName)) rfl hown (hw _ (List.mem_of_getElem? (i := 40) rfl)) (hw _ (List.mem_of_getElem? (i := 41) rfl)) (hw _ (List.mem_of_getElem? (i := 42) rfl)) (by decide) e_163 (a := b_141) (argsL := [(.ref b_142)]) (rest := [(.ref b_141)]) (own_newS (W := 1) hZ hw (hw _ (List.mem_of_getElem? (i := 2) rfl)) (cs := ([y0, y1, y2, y3, y4, y5] : List Int32)) (n := 6) g_b_141 f_168 f_164 f_165 f_166 Vn_163 f_167 hz rfl rfl (by decide) (by decide) hp6 (by decide) (by decide)) (pc := 235) (Ls := #[.val (.ref b), .val (.int len)]) (by rw [hml]; rfl) (lenOf own_pd1 rfl) rfl (Nat.le_refl _) (hb hby d6_235) (by decide) (by decide) ?_
                intro T_169 v_169 L_169 X_169 hQ_169
                obtain ⟨t_169, kb_169, rfl, Nq_169, K_169, pf_169_0, pf_169_1, pf_169_2, sz_t_169⟩ := hQ_169
                have N_169 := Fr.app N_163 Nq_169
                have f_170 : Arv Z h_163 b kC .char (7 : Int32) [(.int y0), (.int y1), (.int y2), (.int y3), (.int y4), (.int y5), (.int y6)] (.int (0 : Int32)) := (f_161.other W_163 ne_b_b_142)
                have f_171 : Keep h0 h_163 [] := (((((((f_145.ext E_142).wr W_148 (Or.inr sz_b_142)).wr W_151 (Or.inr sz_b_142)).wr W_154 (Or.inr sz_b_142)).wr W_157 (Or.inr sz_b_142)).wr W_160 (Or.inr sz_b_142)).wr W_163 (Or.inr sz_b_142))
                show Go p e below (FinW s (Q6 Z b kC y0 y1 y2 y3 y4 y5 y6 len a5 cs5 z h0 n0) ({ frames := 4, cells := 4, slots := 24, locals := 72 } : Room).cells ({ frames := 4, cells := 4, slots := 24, locals := 72 } : Room).slots) T_169 (mkF m 238 #[.val (.ref b), .val (.int len)] [(.ref b_141)])
                have g_t_169 : n0 ≤ t_169 := Nat.le_trans f_168 sz_t_169
                have ne_b_t_169 : b ≠ t_169 := Nat.ne_of_lt (Nat.lt_of_lt_of_le f_170.lt sz_t_169)
                have ne_b_141_t_169 : b_141 ≠ t_169 := Nat.ne_of_lt (Nat.lt_of_lt_of_le f_164.lt sz_t_169)
                have ne_b_142_t_169 : b_142 ≠ t_169 := Nat.ne_of_lt (Nat.lt_of_lt_of_le Vn_163.lt sz_t_169)
                have sz_t_169 : h0.size ≤ t_169 := Nat.le_trans f_171.1 sz_t_169
                have f_172 : 0 ≤ T_169.heap.size := (Nat.le_trans (Nat.le_trans (Nat.le_trans (Nat.le_trans (Nat.le_trans (Nat.le_trans (Nat.le_trans (Nat.le_trans (Nat.le_trans (Nat.zero_le _) E_141.1) E_142.1) (Keep.of_wr W_148).1) (Keep.of_wr W_151).1) (Keep.of_wr W_154).1) (Keep.of_wr W_157).1) (Keep.of_wr W_160).1) (Keep.of_wr W_163).1) K_169.1)
                refine Go.retAW X_169 hx (t := (.object "java/lang/String")) hret hlk rfl rfl (hb hby d6_238) (by decide) (by decide) hS f_172 ?_
                have f_173 : Keep h0 T_169.heap [] := (f_171.trans K_169 (allS (Or.inr sz_b_141) all0))
                have f_174 : Exa Z T_169.heap b_141 "java/lang/String" := (f_164.keep K_169)
                show (Q6 Z b kC y0 y1 y2 y3 y4 y5 y6 len a5 cs5 z h0 n0) _ T_169.heap _ _
                exact ⟨b_141, t_169, kb_169, rfl, N_169, f_173, f_174, pf_169_0, pf_169_1, (by rw [q6, own_tk6]; exact pf_169_2), (OwnV.less (OwnV.warm (s := s.setVm _) hV X_169.warmed))⟩
              · refine Go.to (mkF m 239 #[.val (.ref b), .val (.int len)] []) (fun _ k => XS.icmpYes X0.here hx rfl (pc0 := 188) (pc' := 239) rfl (hb hby d6_188) rfl (feq q6).2 (by decide) (by decide) k) ?_
                obtain ⟨T_175, h_175, X_175, e_175, E_175, A_175, D_175, -, st_175⟩ := newO X0 hx hZ hown (hw _ (List.mem_of_getElem? (i := 39) rfl)) (hw _ (List.mem_of_getElem? (i := 2) rfl)) (hw _ (List.mem_of_getElem? (i := 1) rfl)) e0 (g := (mkF m 239 #[.val (.ref b), .val (.int len)] [])) rfl (hb hby d6_239) (by decide) (by decide)
                obtain ⟨b_175, g_175⟩ : ∃ z, z = h0.size := ⟨_, rfl⟩
                rw [← g_175] at A_175 D_175 st_175
                have g_b_175 : n0 ≤ b_175 := Nat.le_trans Z0 (Nat.le_of_eq g_175.symm)
                have sz_b_175 : h0.size ≤ b_175 := Nat.le_trans (Keep.refl h0 []).1 (Nat.le_of_eq g_175.symm)
                have ne_b_b_175 : b ≠ b_175 := Nat.ne_of_lt (Nat.lt_of_lt_of_le PA_b.lt (Nat.le_of_eq g_175.symm))
                have F_value_b_175 : Fld Z h_175 b_175 "java/lang/String" "value" "[B" .null := D_175 (Or.inr (hw _ (List.mem_of_getElem? (i := 4) rfl))) (ty := (.array .byte)) (by decide)
                have F_coder_b_175 : Fld Z h_175 b_175 "java/lang/String" "coder" "B" (.int (0 : Int32)) := D_175 (Or.inr (hw _ (List.mem_of_getElem? (i := 5) rfl))) (ty := .byte) (by decide)
                refine Go.to (mkF m 242 #[.val (.ref b), .val (.int len)] [(.ref b_175)]) st_175 ?_
                refine Go.to (mkF m 243 #[.val (.ref b), .val (.int len)] [(.ref b_175), (.ref b_175)]) (fun _ k => XS.dup X_175.here hx rfl (hb hby d6_242) rfl rfl k) ?_
                refine Go.to (mkF m 245 #[.val (.ref b), .val (.int len)] [(.int (7 : Int32)), (.ref b_175), (.ref b_175)]) (fun _ k => XS.bipush X_175.here hx rfl (hb hby d6_243) k) ?_
                have f_177 : Arv Z h_175 b kC .char (7 : Int32) [(.int y0), (.int y1), (.int y2), (.int y3), (.int y4), (.int y5), (.int y6)] (.int (0 : Int32)) := (PA_b.ext E_175)
                have f_178 : n0 ≤ h_175.size := (Nat.le_trans Z0 E_175.1)
                have f_179 : Keep h0 h_175 [] := ((Keep.refl h0 []).ext E_175)
                obtain ⟨T_176, h_176, k_176, X_176, e_176, E_176, A_176, st_176⟩ := newP X_175 hx hZ (hw _ (List.mem_of_getElem? (i := 8) rfl)) e_175 (g := (mkF m 245 #[.val (.ref b), .val (.int len)] [(.int (7 : Int32)), (.ref b_175), (.ref b_175)])) rfl (hb hby d6_245) rfl (by decide) (cap := 7) (by decide) (by decide) (by decide) (by decide)
                obtain ⟨b_176, g_176⟩ : ∃ z, z = h_175.size := ⟨_, rfl⟩
                rw [← g_176] at A_176 st_176
                have g_b_176 : n0 ≤ b_176 := Nat.le_trans f_178 (Nat.le_of_eq g_176.symm)
                have sz_b_176 : h0.size ≤ b_176 := Nat.le_trans f_179.1 (Nat.le_of_eq g_176.symm)
                have ne_b_b_176 : b ≠ b_176 := Nat.ne_of_lt (Nat.lt_of_lt_of_le f_177.lt (Nat.le_of_eq g_176.symm))
                have ne_b_175_b_176 : b_175 ≠ b_176 := Nat.ne_of_lt (Nat.lt_of_lt_of_le A_175.lt (Nat.le_of_eq g_176.symm))
                have V_b_176 : Arv Z h_176 b_176 k_176 .char (7 : Int32) [(.int (0 : Int32)), (.int (0 : Int32)), (.int (0 : Int32)), (.int (0 : Int32)), (.int (0 : Int32)), (.int (0 : Int32)), (.int (0 : Int32))] (.int (0 : Int32)) := (Arv.new A_176 (by decide)).pad (pad_rep [] (.int (0 : Int32)) 7)
                refine Go.to (mkF m 247 #[.val (.ref b), .val (.int len)] [(.ref b_176), (.ref b_175), (.ref b_175)]) st_176 ?_
                refine Go.to (mkF m 248 #[.val (.ref b), .val (.int len)] [(.ref b_176), (.ref b_176), (.ref b_175), (.ref b_175)]) (fun _ k => XS.dup X_176.here hx rfl (hb hby d6_247) rfl rfl k) ?_
                refine Go.to (mkF m 249 #[.val (.ref b), .val (.int len)] [(.int (0 : Int32)), (.ref b_176), (.ref b_176), (.ref b_175), (.ref b_175)]) (fun _ k => XS.iconst X_176.here hx rfl (hb hby d6_248) k) ?_
                refine Go.to (mkF m 250 #[.val (.ref b), .val (.int len)] [(.ref b), (.int (0 : Int32)), (.ref b_176), (.ref b_176), (.ref b_175), (.ref b_175)]) (fun _ k => XS.aloadN X_176.here hx rfl (hb hby d6_249) rfl rfl k) ?_
                refine Go.to (mkF m 251 #[.val (.ref b), .val (.int len)] [(.int (0 : Int32)), (.ref b), (.int (0 : Int32)), (.ref b_176), (.ref b_176), (.ref b_175), (.ref b_175)]) (fun _ k => XS.iconst X_176.here hx rfl (hb hby d6_250) k) ?_
                have f_180 : Arv Z h_176 b kC .char (7 : Int32) [(.int y0), (.int y1), (.int y2), (.int y3), (.int y4), (.int y5), (.int y6)] (.int (0 : Int32)) := (f_177.ext E_176)
                obtain ⟨cl_181, Ar_181, -, Sz_181, Ng_181, Hh_181, -⟩ := id f_180
                have hin_181 : ¬ ((0 : Int32) < 0 ∨ cl_181.slots.size ≤ ((0 : Int32)).toNatClampNeg) := inb_of Sz_181 ⟨by decide, by decide⟩
                refine Go.to (mkF m 252 #[.val (.ref b), .val (.int len)] [(.int y0), (.int (0 : Int32)), (.ref b_176), (.ref b_176), (.ref b_175), (.ref b_175)]) (X_176.caload hx (j := (0 : Int32)) (v := (.int y0)) (by rw [e_176]; exact Ar_181.1) (State.isArrayOf_alike hZ.alike Ar_181.2.1) Ar_181.2.2 hin_181 (Hh_181.at hin_181 rfl) (g := (mkF m 251 #[.val (.ref b), .val (.int len)] [(.int (0 : Int32)), (.ref b), (.int (0 : Int32)), (.ref b_176), (.ref b_176), (.ref b_175), (.ref b_175)])) rfl rfl (hb hby d6_251)) ?_
                obtain ⟨cl_182, Ar_182, q_182, Sz_182, Ng_182, Hh_182, Gg_182⟩ := id V_b_176
                have hin_182 : ¬ ((0 : Int32) < 0 ∨ cl_182.slots.size ≤ ((0 : Int32)).toNatClampNeg) := inb_of Sz_182 ⟨by decide, by decide⟩
                obtain ⟨T_182, h_182, X_182, e_182, W_182, st_182⟩ := stC X_176 hx hZ e_176 Ar_182 (j := (0 : Int32)) hin_182 (g := (mkF m 252 #[.val (.ref b), .val (.int len)] [(.int y0), (.int (0 : Int32)), (.ref b_176), (.ref b_176), (.ref b_175), (.ref b_175)])) rfl rfl (hb hby d6_252)
                have N_182 := Fr.snoc X_182 N0 g_b_176
                have V_182 : Arv Z h_182 b_176 k_176 .char (7 : Int32) [(.int (nar .char y0)), (.int (0 : Int32)), (.int (0 : Int32)), (.int (0 : Int32)), (.int (0 : Int32)), (.int (0 : Int32)), (.int (0 : Int32))] (.int (0 : Int32)) := Arv.set Ar_182 q_182 Sz_182 Ng_182 Hh_182 Gg_182 (fits_nar_char _) W_182 0 rfl (Nat.le_of_ble_eq_true rfl)
                have Vn_182 : Arv Z h_182 b_176 k_176 .char (7 : Int32) [(.int y0), (.int (0 : Int32)), (.int (0 : Int32)), (.int (0 : Int32)), (.int (0 : Int32)), (.int (0 : Int32)), (.int (0 : Int32))] (.int (0 : Int32)) := by have q := V_182; rw [own_nc hy0] at q; exact q
                refine Go.to (mkF m 253 #[.val (.ref b), .val (.int len)] [(.ref b_176), (.ref b_175), (.ref b_175)]) st_182 ?_
                refine Go.to (mkF m 254 #[.val (.ref b), .val (.int len)] [(.ref b_176), (.ref b_176), (.ref b_175), (.ref b_175)]) (fun _ k => XS.dup X_182.here hx rfl (hb hby d6_253) rfl rfl k) ?_
                refine Go.to (mkF m 255 #[.val (.ref b), .val (.int len)] [(.int (1 : Int32)), (.ref b_176), (.ref b_176), (.ref b_175), (.ref b_175)]) (fun _ k => XS.iconst X_182.here hx rfl (hb hby d6_254) k) ?_
                refine Go.to (mkF m 256 #[.val (.ref b), .val (.int len)] [(.ref b), (.int (1 : Int32)), (.ref b_176), (.ref b_176), (.ref b_175), (.ref b_175)]) (fun _ k => XS.aloadN X_182.here hx rfl (hb hby d6_255) rfl rfl k) ?_
                refine Go.to (mkF m 257 #[.val (.ref b), .val (.int len)] [(.int (1 : Int32)), (.ref b), (.int (1 : Int32)), (.ref b_176), (.ref b_176), (.ref b_175), (.ref b_175)]) (fun _ k => XS.iconst X_182.here hx rfl (hb hby d6_256) k) ?_
                have f_183 : Arv Z h_182 b kC .char (7 : Int32) [(.int y0), (.int y1), (.int y2), (.int y3), (.int y4), (.int y5), (.int y6)] (.int (0 : Int32)) := (f_180.other W_182 ne_b_b_176)
                obtain ⟨cl_184, Ar_184, -, Sz_184, Ng_184, Hh_184, -⟩ := id f_183
                have hin_184 : ¬ ((1 : Int32) < 0 ∨ cl_184.slots.size ≤ ((1 : Int32)).toNatClampNeg) := inb_of Sz_184 ⟨by decide, by decide⟩
                refine Go.to (mkF m 258 #[.val (.ref b), .val (.int len)] [(.int y1), (.int (1 : Int32)), (.ref b_176), (.ref b_176), (.ref b_175), (.ref b_175)]) (X_182.caload hx (j := (1 : Int32)) (v := (.int y1)) (by rw [e_182]; exact Ar_184.1) (State.isArrayOf_alike hZ.alike Ar_184.2.1) Ar_184.2.2 hin_184 (Hh_184.at hin_184 rfl) (g := (mkF m 257 #[.val (.ref b), .val (.int len)] [(.int (1 : Int32)), (.ref b), (.int (1 : Int32)), (.ref b_176), (.ref b_176), (.ref b_175), (.ref b_175)])) rfl rfl (hb hby d6_257)) ?_
                obtain ⟨cl_185, Ar_185, q_185, Sz_185, Ng_185, Hh_185, Gg_185⟩ := id Vn_182
                have hin_185 : ¬ ((1 : Int32) < 0 ∨ cl_185.slots.size ≤ ((1 : Int32)).toNatClampNeg) := inb_of Sz_185 ⟨by decide, by decide⟩
                obtain ⟨T_185, h_185, X_185, e_185, W_185, st_185⟩ := stC X_182 hx hZ e_182 Ar_185 (j := (1 : Int32)) hin_185 (g := (mkF m 258 #[.val (.ref b), .val (.int len)] [(.int y1), (.int (1 : Int32)), (.ref b_176), (.ref b_176), (.ref b_175), (.ref b_175)])) rfl rfl (hb hby d6_258)
                have N_185 := Fr.snoc X_185 N_182 g_b_176
                have V_185 : Arv Z h_185 b_176 k_176 .char (7 : Int32) [(.int y0), (.int (nar .char y1)), (.int (0 : Int32)), (.int (0 : Int32)), (.int (0 : Int32)), (.int (0 : Int32)), (.int (0 : Int32))] (.int (0 : Int32)) := Arv.set Ar_185 q_185 Sz_185 Ng_185 Hh_185 Gg_185 (fits_nar_char _) W_185 1 rfl (Nat.le_of_ble_eq_true rfl)
                have Vn_185 : Arv Z h_185 b_176 k_176 .char (7 : Int32) [(.int y0), (.int y1), (.int (0 : Int32)), (.int (0 : Int32)), (.int (0 : Int32)), (.int (0 : Int32)), (.int (0 : Int32))] (.int (0 : Int32)) := by have q := V_185; rw [own_nc hy1] at q; exact q
                refine Go.to (mkF m 259 #[.val (.ref b), .val (.int len)] [(.ref b_176), (.ref b_175), (.ref b_175)]) st_185 ?_
                refine Go.to (mkF m 260 #[.val (.ref b), .val (.int len)] [(.ref b_176), (.ref b_176), (.ref b_175), (.ref b_175)]) (fun _ k => XS.dup X_185.here hx rfl (hb hby d6_259) rfl rfl k) ?_
                refine Go.to (mkF m 261 #[.val (.ref b), .val (.int len)] [(.int (2 : Int32)), (.ref b_176), (.ref b_176), (.ref b_175), (.ref b_175)]) (fun _ k => XS.iconst X_185.here hx rfl (hb hby d6_260) k) ?_
                refine Go.to (mkF m 262 #[.val (.ref b), .val (.int len)] [(.ref b), (.int (2 : Int32)), (.ref b_176), (.ref b_176), (.ref b_175), (.ref b_175)]) (fun _ k => XS.aloadN X_185.here hx rfl (hb hby d6_261) rfl rfl k) ?_
                refine Go.to (mkF m 263 #[.val (.ref b), .val (.int len)] [(.int (2 : Int32)), (.ref b), (.int (2 : Int32)), (.ref b_176), (.ref b_176), (.ref b_175), (.ref b_175)]) (fun _ k => XS.iconst X_185.here hx rfl (hb hby d6_262) k) ?_
                have f_186 : Arv Z h_185 b kC .char (7 : Int32) [(.int y0), (.int y1), (.int y2), (.int y3), (.int y4), (.int y5), (.int y6)] (.int (0 : Int32)) := (f_183.other W_185 ne_b_b_176)
                obtain ⟨cl_187, Ar_187, -, Sz_187, Ng_187, Hh_187, -⟩ := id f_186
                have hin_187 : ¬ ((2 : Int32) < 0 ∨ cl_187.slots.size ≤ ((2 : Int32)).toNatClampNeg) := inb_of Sz_187 ⟨by decide, by decide⟩
                refine Go.to (mkF m 264 #[.val (.ref b), .val (.int len)] [(.int y2), (.int (2 : Int32)), (.ref b_176), (.ref b_176), (.ref b_175), (.ref b_175)]) (X_185.caload hx (j := (2 : Int32)) (v := (.int y2)) (by rw [e_185]; exact Ar_187.1) (State.isArrayOf_alike hZ.alike Ar_187.2.1) Ar_187.2.2 hin_187 (Hh_187.at hin_187 rfl) (g := (mkF m 263 #[.val (.ref b), .val (.int len)] [(.int (2 : Int32)), (.ref b), (.int (2 : Int32)), (.ref b_176), (.ref b_176), (.ref b_175), (.ref b_175)])) rfl rfl (hb hby d6_263)) ?_
                obtain ⟨cl_188, Ar_188, q_188, Sz_188, Ng_188, Hh_188, Gg_188⟩ := id Vn_185
                have hin_188 : ¬ ((2 : Int32) < 0 ∨ cl_188.slots.size ≤ ((2 : Int32)).toNatClampNeg) := inb_of Sz_188 ⟨by decide, by decide⟩
                obtain ⟨T_188, h_188, X_188, e_188, W_188, st_188⟩ := stC X_185 hx hZ e_185 Ar_188 (j := (2 : Int32)) hin_188 (g := (mkF m 264 #[.val (.ref b), .val (.int len)] [(.int y2), (.int (2 : Int32)), (.ref b_176), (.ref b_176), (.ref b_175), (.ref b_175)])) rfl rfl (hb hby d6_264)
                have N_188 := Fr.snoc X_188 N_185 g_b_176
                have V_188 : Arv Z h_188 b_176 k_176 .char (7 : Int32) [(.int y0), (.int y1), (.int (nar .char y2)), (.int (0 : Int32)), (.int (0 : Int32)), (.int (0 : Int32)), (.int (0 : Int32))] (.int (0 : Int32)) := Arv.set Ar_188 q_188 Sz_188 Ng_188 Hh_188 Gg_188 (fits_nar_char _) W_188 2 rfl (Nat.le_of_ble_eq_true rfl)
                have Vn_188 : Arv Z h_188 b_176 k_176 .char (7 : Int32) [(.int y0), (.int y1), (.int y2), (.int (0 : Int32)), (.int (0 : Int32)), (.int (0 : Int32)), (.int (0 : Int32))] (.int (0 : Int32)) := by have q := V_188; rw [own_nc hy2] at q; exact q
                refine Go.to (mkF m 265 #[.val (.ref b), .val (.int len)] [(.ref b_176), (.ref b_175), (.ref b_175)]) st_188 ?_
                refine Go.to (mkF m 266 #[.val (.ref b), .val (.int len)] [(.ref b_176), (.ref b_176), (.ref b_175), (.ref b_175)]) (fun _ k => XS.dup X_188.here hx rfl (hb hby d6_265) rfl rfl k) ?_
                refine Go.to (mkF m 267 #[.val (.ref b), .val (.int len)] [(.int (3 : Int32)), (.ref b_176), (.ref b_176), (.ref b_175), (.ref b_175)]) (fun _ k => XS.iconst X_188.here hx rfl (hb hby d6_266) k) ?_
                refine Go.to (mkF m 268 #[.val (.ref b), .val (.int len)] [(.ref b), (.int (3 : Int32)), (.ref b_176), (.ref b_176), (.ref b_175), (.ref b_175)]) (fun _ k => XS.aloadN X_188.here hx rfl (hb hby d6_267) rfl rfl k) ?_
                refine Go.to (mkF m 269 #[.val (.ref b), .val (.int len)] [(.int (3 : Int32)), (.ref b), (.int (3 : Int32)), (.ref b_176), (.ref b_176), (.ref b_175), (.ref b_175)]) (fun _ k => XS.iconst X_188.here hx rfl (hb hby d6_268) k) ?_
                have f_189 : Arv Z h_188 b kC .char (7 : Int32) [(.int y0), (.int y1), (.int y2), (.int y3), (.int y4), (.int y5), (.int y6)] (.int (0 : Int32)) := (f_186.other W_188 ne_b_b_176)
                obtain ⟨cl_190, Ar_190, -, Sz_190, Ng_190, Hh_190, -⟩ := id f_189
                have hin_190 : ¬ ((3 : Int32) < 0 ∨ cl_190.slots.size ≤ ((3 : Int32)).toNatClampNeg) := inb_of Sz_190 ⟨by decide, by decide⟩
                refine Go.to (mkF m 270 #[.val (.ref b), .val (.int len)] [(.int y3), (.int (3 : Int32)), (.ref b_176), (.ref b_176), (.ref b_175), (.ref b_175)]) (X_188.caload hx (j := (3 : Int32)) (v := (.int y3)) (by rw [e_188]; exact Ar_190.1) (State.isArrayOf_alike hZ.alike Ar_190.2.1) Ar_190.2.2 hin_190 (Hh_190.at hin_190 rfl) (g := (mkF m 269 #[.val (.ref b), .val (.int len)] [(.int (3 : Int32)), (.ref b), (.int (3 : Int32)), (.ref b_176), (.ref b_176), (.ref b_175), (.ref b_175)])) rfl rfl (hb hby d6_269)) ?_
                obtain ⟨cl_191, Ar_191, q_191, Sz_191, Ng_191, Hh_191, Gg_191⟩ := id Vn_188
                have hin_191 : ¬ ((3 : Int32) < 0 ∨ cl_191.slots.size ≤ ((3 : Int32)).toNatClampNeg) := inb_of Sz_191 ⟨by decide, by decide⟩
                obtain ⟨T_191, h_191, X_191, e_191, W_191, st_191⟩ := stC X_188 hx hZ e_188 Ar_191 (j := (3 : Int32)) hin_191 (g := (mkF m 270 #[.val (.ref b), .val (.int len)] [(.int y3), (.int (3 : Int32)), (.ref b_176), (.ref b_176), (.ref b_175), (.ref b_175)])) rfl rfl (hb hby d6_270)
                have N_191 := Fr.snoc X_191 N_188 g_b_176
                have V_191 : Arv Z h_191 b_176 k_176 .char (7 : Int32) [(.int y0), (.int y1), (.int y2), (.int (nar .char y3)), (.int (0 : Int32)), (.int (0 : Int32)), (.int (0 : Int32))] (.int (0 : Int32)) := Arv.set Ar_191 q_191 Sz_191 Ng_191 Hh_191 Gg_191 (fits_nar_char _) W_191 3 rfl (Nat.le_of_ble_eq_true rfl)
                have Vn_191 : Arv Z h_191 b_176 k_176 .char (7 : Int32) [(.int y0), (.int y1), (.int y2), (.int y3), (.int (0 : Int32)), (.int (0 : Int32)), (.int (0 : Int32))] (.int (0 : Int32)) := by have q := V_191; rw [own_nc hy3] at q; exact q
                refine Go.to (mkF m 271 #[.val (.ref b), .val (.int len)] [(.ref b_176), (.ref b_175), (.ref b_175)]) st_191 ?_
                refine Go.to (mkF m 272 #[.val (.ref b), .val (.int len)] [(.ref b_176), (.ref b_176), (.ref b_175), (.ref b_175)]) (fun _ k => XS.dup X_191.here hx rfl (hb hby d6_271) rfl rfl k) ?_
                refine Go.to (mkF m 273 #[.val (.ref b), .val (.int len)] [(.int (4 : Int32)), (.ref b_176), (.ref b_176), (.ref b_175), (.ref b_175)]) (fun _ k => XS.iconst X_191.here hx rfl (hb hby d6_272) k) ?_
                refine Go.to (mkF m 274 #[.val (.ref b), .val (.int len)] [(.ref b), (.int (4 : Int32)), (.ref b_176), (.ref b_176), (.ref b_175), (.ref b_175)]) (fun _ k => XS.aloadN X_191.here hx rfl (hb hby d6_273) rfl rfl k) ?_
                refine Go.to (mkF m 275 #[.val (.ref b), .val (.int len)] [(.int (4 : Int32)), (.ref b), (.int (4 : Int32)), (.ref b_176), (.ref b_176), (.ref b_175), (.ref b_175)]) (fun _ k => XS.iconst X_191.here hx rfl (hb hby d6_274) k) ?_
                have f_192 : Arv Z h_191 b kC .char (7 : Int32) [(.int y0), (.int y1), (.int y2), (.int y3), (.int y4), (.int y5), (.int y6)] (.int (0 : Int32)) := (f_189.other W_191 ne_b_b_176)
                obtain ⟨cl_193, Ar_193, -, Sz_193, Ng_193, Hh_193, -⟩ := id f_192
                have hin_193 : ¬ ((4 : Int32) < 0 ∨ cl_193.slots.size ≤ ((4 : Int32)).toNatClampNeg) := inb_of Sz_193 ⟨by decide, by decide⟩
                refine Go.to (mkF m 276 #[.val (.ref b), .val (.int len)] [(.int y4), (.int (4 : Int32)), (.ref b_176), (.ref b_176), (.ref b_175), (.ref b_175)]) (X_191.caload hx (j := (4 : Int32)) (v := (.int y4)) (by rw [e_191]; exact Ar_193.1) (State.isArrayOf_alike hZ.alike Ar_193.2.1) Ar_193.2.2 hin_193 (Hh_193.at hin_193 rfl) (g := (mkF m 275 #[.val (.ref b), .val (.int len)] [(.int (4 : Int32)), (.ref b), (.int (4 : Int32)), (.ref b_176), (.ref b_176), (.ref b_175), (.ref b_175)])) rfl rfl (hb hby d6_275)) ?_
                obtain ⟨cl_194, Ar_194, q_194, Sz_194, Ng_194, Hh_194, Gg_194⟩ := id Vn_191
                have hin_194 : ¬ ((4 : Int32) < 0 ∨ cl_194.slots.size ≤ ((4 : Int32)).toNatClampNeg) := inb_of Sz_194 ⟨by decide, by decide⟩
                obtain ⟨T_194, h_194, X_194, e_194, W_194, st_194⟩ := stC X_191 hx hZ e_191 Ar_194 (j := (4 : Int32)) hin_194 (g := (mkF m 276 #[.val (.ref b), .val (.int len)] [(.int y4), (.int (4 : Int32)), (.ref b_176), (.ref b_176), (.ref b_175), (.ref b_175)])) rfl rfl (hb hby d6_276)
                have N_194 := Fr.snoc X_194 N_191 g_b_176
                have V_194 : Arv Z h_194 b_176 k_176 .char (7 : Int32) [(.int y0), (.int y1), (.int y2), (.int y3), (.int (nar .char y4)), (.int (0 : Int32)), (.int (0 : Int32))] (.int (0 : Int32)) := Arv.set Ar_194 q_194 Sz_194 Ng_194 Hh_194 Gg_194 (fits_nar_char _) W_194 4 rfl (Nat.le_of_ble_eq_true rfl)
                have Vn_194 : Arv Z h_194 b_176 k_176 .char (7 : Int32) [(.int y0), (.int y1), (.int y2), (.int y3), (.int y4), (.int (0 : Int32)), (.int (0 : Int32))] (.int (0 : Int32)) := by have q := V_194; rw [own_nc hy4] at q; exact q
                refine Go.to (mkF m 277 #[.val (.ref b), .val (.int len)] [(.ref b_176), (.ref b_175), (.ref b_175)]) st_194 ?_
                refine Go.to (mkF m 278 #[.val (.ref b), .val (.int len)] [(.ref b_176), (.ref b_176), (.ref b_175), (.ref b_175)]) (fun _ k => XS.dup X_194.here hx rfl (hb hby d6_277) rfl rfl k) ?_
                refine Go.to (mkF m 279 #[.val (.ref b), .val (.int len)] [(.int (5 : Int32)), (.ref b_176), (.ref b_176), (.ref b_175), (.ref b_175)]) (fun _ k => XS.iconst X_194.here hx rfl (hb hby d6_278) k) ?_
                refine Go.to (mkF m 280 #[.val (.ref b), .val (.int len)] [(.ref b), (.int (5 : Int32)), (.ref b_176), (.ref b_176), (.ref b_175), (.ref b_175)]) (fun _ k => XS.aloadN X_194.here hx rfl (hb hby d6_279) rfl rfl k) ?_
                refine Go.to (mkF m 281 #[.val (.ref b), .val (.int len)] [(.int (5 : Int32)), (.ref b), (.int (5 : Int32)), (.ref b_176), (.ref b_176), (.ref b_175), (.ref b_175)]) (fun _ k => XS.iconst X_194.here hx rfl (hb hby d6_280) k) ?_
                have f_195 : Arv Z h_194 b kC .char (7 : Int32) [(.int y0), (.int y1), (.int y2), (.int y3), (.int y4), (.int y5), (.int y6)] (.int (0 : Int32)) := (f_192.other W_194 ne_b_b_176)
                obtain ⟨cl_196, Ar_196, -, Sz_196, Ng_196, Hh_196, -⟩ := id f_195
                have hin_196 : ¬ ((5 : Int32) < 0 ∨ cl_196.slots.size ≤ ((5 : Int32)).toNatClampNeg) := inb_of Sz_196 ⟨by decide, by decide⟩
                refine Go.to (mkF m 282 #[.val (.ref b), .val (.int len)] [(.int y5), (.int (5 : Int32)), (.ref b_176), (.ref b_176), (.ref b_175), (.ref b_175)]) (X_194.caload hx (j := (5 : Int32)) (v := (.int y5)) (by rw [e_194]; exact Ar_196.1) (State.isArrayOf_alike hZ.alike Ar_196.2.1) Ar_196.2.2 hin_196 (Hh_196.at hin_196 rfl) (g := (mkF m 281 #[.val (.ref b), .val (.int len)] [(.int (5 : Int32)), (.ref b), (.int (5 : Int32)), (.ref b_176), (.ref b_176), (.ref b_175), (.ref b_175)])) rfl rfl (hb hby d6_281)) ?_
                obtain ⟨cl_197, Ar_197, q_197, Sz_197, Ng_197, Hh_197, Gg_197⟩ := id Vn_194
                have hin_197 : ¬ ((5 : Int32) < 0 ∨ cl_197.slots.size ≤ ((5 : Int32)).toNatClampNeg) := inb_of Sz_197 ⟨by decide, by decide⟩
                obtain ⟨T_197, h_197, X_197, e_197, W_197, st_197⟩ := stC X_194 hx hZ e_194 Ar_197 (j := (5 : Int32)) hin_197 (g := (mkF m 282 #[.val (.ref b), .val (.int len)] [(.int y5), (.int (5 : Int32)), (.ref b_176), (.ref b_176), (.ref b_175), (.ref b_175)])) rfl rfl (hb hby d6_282)
                have N_197 := Fr.snoc X_197 N_194 g_b_176
                have V_197 : Arv Z h_197 b_176 k_176 .char (7 : Int32) [(.int y0), (.int y1), (.int y2), (.int y3), (.int y4), (.int (nar .char y5)), (.int (0 : Int32))] (.int (0 : Int32)) := Arv.set Ar_197 q_197 Sz_197 Ng_197 Hh_197 Gg_197 (fits_nar_char _) W_197 5 rfl (Nat.le_of_ble_eq_true rfl)
                have Vn_197 : Arv Z h_197 b_176 k_176 .char (7 : Int32) [(.int y0), (.int y1), (.int y2), (.int y3), (.int y4), (.int y5), (.int (0 : Int32))] (.int (0 : Int32)) := by have q := V_197; rw [own_nc hy5] at q; exact q
                refine Go.to (mkF m 283 #[.val (.ref b), .val (.int len)] [(.ref b_176), (.ref b_175), (.ref b_175)]) st_197 ?_
                refine Go.to (mkF m 284 #[.val (.ref b), .val (.int len)] [(.ref b_176), (.ref b_176), (.ref b_175), (.ref b_175)]) (fun _ k => XS.dup X_197.here hx rfl (hb hby d6_283) rfl rfl k) ?_
                refine Go.to (mkF m 286 #[.val (.ref b), .val (.int len)] [(.int (6 : Int32)), (.ref b_176), (.ref b_176), (.ref b_175), (.ref b_175)]) (fun _ k => XS.bipush X_197.here hx rfl (hb hby d6_284) k) ?_
                refine Go.to (mkF m 287 #[.val (.ref b), .val (.int len)] [(.ref b), (.int (6 : Int32)), (.ref b_176), (.ref b_176), (.ref b_175), (.ref b_175)]) (fun _ k => XS.aloadN X_197.here hx rfl (hb hby d6_286) rfl rfl k) ?_
                refine Go.to (mkF m 289 #[.val (.ref b), .val (.int len)] [(.int (6 : Int32)), (.ref b), (.int (6 : Int32)), (.ref b_176), (.ref b_176), (.ref b_175), (.ref b_175)]) (fun _ k => XS.bipush X_197.here hx rfl (hb hby d6_287) k) ?_
                have f_198 : Arv Z h_197 b kC .char (7 : Int32) [(.int y0), (.int y1), (.int y2), (.int y3), (.int y4), (.int y5), (.int y6)] (.int (0 : Int32)) := (f_195.other W_197 ne_b_b_176)
                obtain ⟨cl_199, Ar_199, -, Sz_199, Ng_199, Hh_199, -⟩ := id f_198
                have hin_199 : ¬ ((6 : Int32) < 0 ∨ cl_199.slots.size ≤ ((6 : Int32)).toNatClampNeg) := inb_of Sz_199 ⟨by decide, by decide⟩
                refine Go.to (mkF m 290 #[.val (.ref b), .val (.int len)] [(.int y6), (.int (6 : Int32)), (.ref b_176), (.ref b_176), (.ref b_175), (.ref b_175)]) (X_197.caload hx (j := (6 : Int32)) (v := (.int y6)) (by rw [e_197]; exact Ar_199.1) (State.isArrayOf_alike hZ.alike Ar_199.2.1) Ar_199.2.2 hin_199 (Hh_199.at hin_199 rfl) (g := (mkF m 289 #[.val (.ref b), .val (.int len)] [(.int (6 : Int32)), (.ref b), (.int (6 : Int32)), (.ref b_176), (.ref b_176), (.ref b_175), (.ref b_175)])) rfl rfl (hb hby d6_289)) ?_
                obtain ⟨cl_200, Ar_200, q_200, Sz_200, Ng_200, Hh_200, Gg_200⟩ := id Vn_197
                have hin_200 : ¬ ((6 : Int32) < 0 ∨ cl_200.slots.size ≤ ((6 : Int32)).toNatClampNeg) := inb_of Sz_200 ⟨by decide, by decide⟩
                obtain ⟨T_200, h_200, X_200, e_200, W_200, st_200⟩ := stC X_197 hx hZ e_197 Ar_200 (j := (6 : Int32)) hin_200 (g := (mkF m 290 #[.val (.ref b), .val (.int len)] [(.int y6), (.int (6 : Int32)), (.ref b_176), (.ref b_176), (.ref b_175), (.ref b_175)])) rfl rfl (hb hby d6_290)
                have N_200 := Fr.snoc X_200 N_197 g_b_176
                have V_200 : Arv Z h_200 b_176 k_176 .char (7 : Int32) [(.int y0), (.int y1), (.int y2), (.int y3), (.int y4), (.int y5), (.int (nar .char y6))] (.int (0 : Int32)) := Arv.set Ar_200 q_200 Sz_200 Ng_200 Hh_200 Gg_200 (fits_nar_char _) W_200 6 rfl (Nat.le_of_ble_eq_true rfl)
                have Vn_200 : Arv Z h_200 b_176 k_176 .char (7 : Int32) [(.int y0), (.int y1), (.int y2), (.int y3), (.int y4), (.int y5), (.int y6)] (.int (0 : Int32)) := by have q := V_200; rw [own_nc hy6] at q; exact q
                refine Go.to (mkF m 291 #[.val (.ref b), .val (.int len)] [(.ref b_176), (.ref b_175), (.ref b_175)]) st_200 ?_
                have q7 := own_seven hl0 hl7 q0 q1 q2 q3 q4 q5 q6
                have hp7 : ∀ c ∈ ([y0, y1, y2, y3, y4, y5, y6] : List Int32), ¬ c < 0 ∧ ¬ (255 : Int32) < c := (own_cS hy0 (own_cS hy1 (own_cS hy2 (own_cS hy3 (own_cS hy4 (own_cS hy5 (own_cS hy6 own_c0)))))))
                have f_201 : Exa Z h_200 b_175 "java/lang/String" := ((((((((A_175.ext E_176).wr W_182).wr W_185).wr W_188).wr W_191).wr W_194).wr W_197).wr W_200)
                have f_202 : Fld Z h_200 b_175 "java/lang/String" "value" "[B" .null := ((((((((F_value_b_175.ext E_176).other W_182 (Or.inl ne_b_175_b_176)).other W_185 (Or.inl ne_b_175_b_176)).other W_188 (Or.inl ne_b_175_b_176)).other W_191 (Or.inl ne_b_175_b_176)).other W_194 (Or.inl ne_b_175_b_176)).other W_197 (Or.inl ne_b_175_b_176)).other W_200 (Or.inl ne_b_175_b_176))
                have f_203 : Fld Z h_200 b_175 "java/lang/String" "coder" "B" (.int (0 : Int32)) := ((((((((F_coder_b_175.ext E_176).other W_182 (Or.inl ne_b_175_b_176)).other W_185 (Or.inl ne_b_175_b_176)).other W_188 (Or.inl ne_b_175_b_176)).other W_191 (Or.inl ne_b_175_b_176)).other W_194 (Or.inl ne_b_175_b_176)).other W_197 (Or.inl ne_b_175_b_176)).other W_200 (Or.inl ne_b_175_b_176))
                have f_204 : Sta Z h_200 "java/lang/String" "COMPACT_STRINGS" "Z" (.int z) := (((((((((PS_java_lang_String_COMPACT_STRINGS.ext E_175).ext E_176).wr W_182).wr W_185).wr W_188).wr W_191).wr W_194).wr W_197).wr W_200)
                have f_205 : n0 ≤ h_200.size := (Nat.le_trans (Nat.le_trans (Nat.le_trans (Nat.le_trans (Nat.le_trans (Nat.le_trans (Nat.le_trans (Nat.le_trans f_178 E_176.1) (Keep.of_wr W_182).1) (Keep.of_wr W_185).1) (Keep.of_wr W_188).1) (Keep.of_wr W_191).1) (Keep.of_wr W_194).1) (Keep.of_wr W_197).1) (Keep.of_wr W_200).1)
                refine Go.special X_200 hx hZ (y := (⟨"java/lang/String", "<init>", "([C)V"⟩ : MethodName)) rfl hown (hw _ (List.mem_of_getElem? (i := 40) rfl)) (hw _ (List.mem_of_getElem? (i := 41) rfl)) (hw _ (List.mem_of_getElem? (i := 42) rfl)) (by decide) e_200 (a := b_175) (argsL := [(.ref b_176)]) (rest := [(.ref b_175)]) (own_newS (W := 1) hZ hw (hw _ (List.mem_of_getElem? (i := 2) rfl)) (cs := ([y0, y1, y2, y3, y4, y5, y6] : List Int32)) (n := 7) g_b_175 f_205 f_201 f_202 f_203 Vn_200 f_204 hz rfl rfl (by decide) (by decide) hp7 (by decide) (by decide)) (pc := 291) (Ls := #[.val (.ref b), .val (.int len)]) (by rw [hml]; rfl) (lenOf own_pd1 rfl) rfl (Nat.le_refl _) (hb hby d6_291) (by decide) (by decide) ?_
                intro T_206 v_206 L_206 X_206 hQ_206
                obtain ⟨t_206, kb_206, rfl, Nq_206, K_206, pf_206_0, pf_206_1, pf_206_2, sz_t_206⟩ := hQ_206
                have N_206 := Fr.app N_200 Nq_206
                have f_207 : Arv Z h_200 b kC .char (7 : Int32) [(.int y0), (.int y1), (.int y2), (.int y3), (.int y4), (.int y5), (.int y6)] (.int (0 : Int32)) := (f_198.other W_200 ne_b_b_176)
                have f_208 : Keep h0 h_200 [] := ((((((((f_179.ext E_176).wr W_182 (Or.inr sz_b_176)).wr W_185 (Or.inr sz_b_176)).wr W_188 (Or.inr sz_b_176)).wr W_191 (Or.inr sz_b_176)).wr W_194 (Or.inr sz_b_176)).wr W_197 (Or.inr sz_b_176)).wr W_200 (Or.inr sz_b_176))
                show Go p e below (FinW s (Q6 Z b kC y0 y1 y2 y3 y4 y5 y6 len a5 cs5 z h0 n0) ({ frames := 4, cells := 4, slots := 24, locals := 72 } : Room).cells ({ frames := 4, cells := 4, slots := 24, locals := 72 } : Room).slots) T_206 (mkF m 294 #[.val (.ref b), .val (.int len)] [(.ref b_175)])
                have g_t_206 : n0 ≤ t_206 := Nat.le_trans f_205 sz_t_206
                have ne_b_t_206 : b ≠ t_206 := Nat.ne_of_lt (Nat.lt_of_lt_of_le f_207.lt sz_t_206)
                have ne_b_175_t_206 : b_175 ≠ t_206 := Nat.ne_of_lt (Nat.lt_of_lt_of_le f_201.lt sz_t_206)
                have ne_b_176_t_206 : b_176 ≠ t_206 := Nat.ne_of_lt (Nat.lt_of_lt_of_le Vn_200.lt sz_t_206)
                have sz_t_206 : h0.size ≤ t_206 := Nat.le_trans f_208.1 sz_t_206
                have f_209 : 0 ≤ T_206.heap.size := (Nat.le_trans (Nat.le_trans (Nat.le_trans (Nat.le_trans (Nat.le_trans (Nat.le_trans (Nat.le_trans (Nat.le_trans (Nat.le_trans (Nat.le_trans (Nat.zero_le _) E_175.1) E_176.1) (Keep.of_wr W_182).1) (Keep.of_wr W_185).1) (Keep.of_wr W_188).1) (Keep.of_wr W_191).1) (Keep.of_wr W_194).1) (Keep.of_wr W_197).1) (Keep.of_wr W_200).1) K_206.1)
                refine Go.retAW X_206 hx (t := (.object "java/lang/String")) hret hlk rfl rfl (hb hby d6_294) (by decide) (by decide) hS f_209 ?_
                have f_210 : Keep h0 T_206.heap [] := (f_208.trans K_206 (allS (Or.inr sz_b_175) all0))
                have f_211 : Exa Z T_206.heap b_175 "java/lang/String" := (f_201.keep K_206)
                show (Q6 Z b kC y0 y1 y2 y3 y4 y5 y6 len a5 cs5 z h0 n0) _ T_206.heap _ _
                exact ⟨b_175, t_206, kb_206, rfl, N_206, f_210, f_211, pf_206_0, pf_206_1, (by rw [q7, own_tk7]; exact pf_206_2), (OwnV.less (OwnV.warm (s := s.setVm _) hV X_206.warmed))⟩
def Q18_0 (Z : State) (b : Addr) (kC : ClassId) (y0 : Int32) (y1 : Int32) (y2 : Int32) (y3 : Int32) (y4 : Int32) (y5 : Int32) (y6 : Int32) (vb : Int32) (h0 : Heap) (n0 : Nat) (v : Option Value) (h : Heap) (L : List Loc) : Prop := v = none ∧ Fr n0 L ∧ Keep h0 h [b] ∧ Arv Z h b kC .char (7 : Int32) [(.int (own_upc (((vb.toUInt32 >>> ((0 : Int32) &&& 31).toUInt32).toInt32) &&& (1 : Int32)) y0)), (.int y1), (.int y2), (.int y3), (.int y4), (.int y5), (.int y6)] (.int (0 : Int32))
theorem ef_18_0 (m : MethodId) (b : Addr) (vb : Int32) : entryFrame m #[(.ref b), (.int (0 : Int32)), (.int vb)] 3 = mkF m 0 #[.val (.ref b), .val (.int (0 : Int32)), .val (.int vb)] [] := by first | (simp [entryFrame, mkF, argsToLocals, Value.category]; done) | (simp [entryFrame, mkF, argsToLocals, own_cat_i, own_cat_l, own_cat_r, own_cat_n]; done) | rfl
set_option maxRecDepth 65536 in
set_option maxHeartbeats 40000000 in
theorem rm18_0 (l : Launch) (Z : State) (a0 : Array Value) (hw : ∀ d ∈ tables_1, d.before a0 Z = true) (b : Addr) (kC : ClassId) (y0 : Int32) (y1 : Int32) (y2 : Int32) (y3 : Int32) (y4 : Int32) (y5 : Int32) (y6 : Int32) (vb : Int32) (h0 : Heap) (n0 : Nat) (Z0 : n0 ≤ h0.size) (PA_b : Arv Z h0 b kC .char (7 : Int32) [(.int y0), (.int y1), (.int y2), (.int y3), (.int y4), (.int y5), (.int y6)] (.int (0 : Int32))) (Pg_b : n0 ≤ b) :
    Met1 l Z (⟨"com/example/statementbound/statementbound/statements/internal/KindOfElementPinLaw", "up", "([CII)V"⟩ : MethodName) method_3_code 3 none ({ frames := 0, cells := 0, slots := 0, locals := 0 } : Room) #[(.ref b), (.int (0 : Int32)), (.int vb)] h0 (Q18_0 Z b kC y0 y1 y2 y3 y4 y5 y6 vb h0 n0) := by
  refine Met1.mk (plainFor_of_name (by first | (simp [plainName, overriddenIn]; done) | decide +kernel)) ?_
  intro p e s m below meth c s₁ hx hZ hby hml hown hnm hret hlk X0 e0
  have N0 := Fr.nil n0
  refine Go.cast (ef_18_0 m b vb) ?_
  show Go p e below (FinN s (Q18_0 Z b kC y0 y1 y2 y3 y4 y5 y6 vb h0 n0) ({ frames := 0, cells := 0, slots := 0, locals := 0 } : Room).cells ({ frames := 0, cells := 0, slots := 0, locals := 0 } : Room).slots) s₁ (mkF m 0 #[.val (.ref b), .val (.int (0 : Int32)), .val (.int vb)] [])
  refine Go.to (mkF m 1 #[.val (.ref b), .val (.int (0 : Int32)), .val (.int vb)] [(.int vb)]) (fun _ k => XS.iloadN X0.here hx rfl (hb hby d18_0) rfl  k) ?_
  refine Go.to (mkF m 2 #[.val (.ref b), .val (.int (0 : Int32)), .val (.int vb)] [(.int (0 : Int32)), (.int vb)]) (fun _ k => XS.iloadN X0.here hx rfl (hb hby d18_1) rfl  k) ?_
  refine Go.to (mkF m 3 #[.val (.ref b), .val (.int (0 : Int32)), .val (.int vb)] [(.int ((vb.toUInt32 >>> ((0 : Int32) &&& 31).toUInt32).toInt32))]) (fun _ k => XS.iushr X0.here hx rfl (hb hby d18_2) rfl k) ?_
  refine Go.to (mkF m 4 #[.val (.ref b), .val (.int (0 : Int32)), .val (.int vb)] [(.int (1 : Int32)), (.int ((vb.toUInt32 >>> ((0 : Int32) &&& 31).toUInt32).toInt32))]) (fun _ k => XS.iconst X0.here hx rfl (hb hby d18_3) k) ?_
  refine Go.to (mkF m 5 #[.val (.ref b), .val (.int (0 : Int32)), .val (.int vb)] [(.int (((vb.toUInt32 >>> ((0 : Int32) &&& 31).toUInt32).toInt32) &&& (1 : Int32)))]) (fun _ k => XS.iand X0.here hx rfl (hb hby d18_4) rfl k) ?_
  by_cases hu : (((vb.toUInt32 >>> ((0 : Int32) &&& 31).toUInt32).toInt32) &&& (1 : Int32)) = (0 : Int32)
  · refine Go.to (mkF m 18 #[.val (.ref b), .val (.int (0 : Int32)), .val (.int vb)] []) (fun _ k => XS.ifYes X0.here hx rfl (pc0 := 5) (pc' := 18) rfl (hb hby d18_5) rfl ((if0 _ _).trans (teq hu).1) (by decide) (by decide) k) ?_
    refine Go.ret0 X0 hx hret hlk (hb hby d18_18) (by decide) (by decide) ?_
    show (Q18_0 Z b kC y0 y1 y2 y3 y4 y5 y6 vb h0 n0) _ s₁.heap _
    rw [e0]
    exact ⟨rfl, N0, (Keep.refl h0 [b]), (by rw [own_upc_y hu]; exact PA_b)⟩
  · refine Go.to (mkF m 8 #[.val (.ref b), .val (.int (0 : Int32)), .val (.int vb)] []) (fun _ k => XS.ifNo X0.here hx rfl (hb hby d18_5) rfl ((if0 _ _).trans (feq hu).1) k) ?_
    refine Go.to (mkF m 9 #[.val (.ref b), .val (.int (0 : Int32)), .val (.int vb)] [(.ref b)]) (fun _ k => XS.aloadN X0.here hx rfl (hb hby d18_8) rfl rfl k) ?_
    refine Go.to (mkF m 10 #[.val (.ref b), .val (.int (0 : Int32)), .val (.int vb)] [(.int (0 : Int32)), (.ref b)]) (fun _ k => XS.iloadN X0.here hx rfl (hb hby d18_9) rfl  k) ?_
    refine Go.to (mkF m 11 #[.val (.ref b), .val (.int (0 : Int32)), .val (.int vb)] [(.ref b), (.int (0 : Int32)), (.ref b)]) (fun _ k => XS.aloadN X0.here hx rfl (hb hby d18_10) rfl rfl k) ?_
    refine Go.to (mkF m 12 #[.val (.ref b), .val (.int (0 : Int32)), .val (.int vb)] [(.int (0 : Int32)), (.ref b), (.int (0 : Int32)), (.ref b)]) (fun _ k => XS.iloadN X0.here hx rfl (hb hby d18_11) rfl  k) ?_
    obtain ⟨cl_1, Ar_1, -, Sz_1, Ng_1, Hh_1, -⟩ := id PA_b
    have hin_1 : ¬ ((0 : Int32) < 0 ∨ cl_1.slots.size ≤ ((0 : Int32)).toNatClampNeg) := inb_of Sz_1 ⟨by decide, by decide⟩
    refine Go.to (mkF m 13 #[.val (.ref b), .val (.int (0 : Int32)), .val (.int vb)] [(.int y0), (.int (0 : Int32)), (.ref b)]) (X0.caload hx (j := (0 : Int32)) (v := (.int y0)) (by rw [e0]; exact Ar_1.1) (State.isArrayOf_alike hZ.alike Ar_1.2.1) Ar_1.2.2 hin_1 (Hh_1.at hin_1 rfl) (g := (mkF m 12 #[.val (.ref b), .val (.int (0 : Int32)), .val (.int vb)] [(.int (0 : Int32)), (.ref b), (.int (0 : Int32)), (.ref b)])) rfl rfl (hb hby d18_12)) ?_
    refine Go.to (mkF m 15 #[.val (.ref b), .val (.int (0 : Int32)), .val (.int vb)] [(.int (32 : Int32)), (.int y0), (.int (0 : Int32)), (.ref b)]) (fun _ k => XS.bipush X0.here hx rfl (hb hby d18_13) k) ?_
    refine Go.to (mkF m 16 #[.val (.ref b), .val (.int (0 : Int32)), .val (.int vb)] [(.int (y0 - (32 : Int32))), (.int (0 : Int32)), (.ref b)]) (fun _ k => XS.isub X0.here hx rfl (hb hby d18_15) rfl k) ?_
    refine Go.to (mkF m 17 #[.val (.ref b), .val (.int (0 : Int32)), .val (.int vb)] [(.int ((y0 - (32 : Int32)).toUInt32.toUInt16.toUInt32.toInt32)), (.int (0 : Int32)), (.ref b)]) (fun _ k => XS.i2c X0.here hx rfl (hb hby d18_16) rfl k) ?_
    obtain ⟨cl_2, Ar_2, q_2, Sz_2, Ng_2, Hh_2, Gg_2⟩ := id PA_b
    have hin_2 : ¬ ((0 : Int32) < 0 ∨ cl_2.slots.size ≤ ((0 : Int32)).toNatClampNeg) := inb_of Sz_2 ⟨by decide, by decide⟩
    obtain ⟨T_2, h_2, X_2, e_2, W_2, st_2⟩ := stC X0 hx hZ e0 Ar_2 (j := (0 : Int32)) hin_2 (g := (mkF m 17 #[.val (.ref b), .val (.int (0 : Int32)), .val (.int vb)] [(.int ((y0 - (32 : Int32)).toUInt32.toUInt16.toUInt32.toInt32)), (.int (0 : Int32)), (.ref b)])) rfl rfl (hb hby d18_17)
    have N_2 := Fr.snoc X_2 N0 Pg_b
    have V_2 : Arv Z h_2 b kC .char (7 : Int32) [(.int (nar .char ((y0 - (32 : Int32)).toUInt32.toUInt16.toUInt32.toInt32))), (.int y1), (.int y2), (.int y3), (.int y4), (.int y5), (.int y6)] (.int (0 : Int32)) := Arv.set Ar_2 q_2 Sz_2 Ng_2 Hh_2 Gg_2 (fits_nar_char _) W_2 0 rfl (Nat.le_of_ble_eq_true rfl)
    refine Go.to (mkF m 18 #[.val (.ref b), .val (.int (0 : Int32)), .val (.int vb)] []) st_2 ?_
    refine Go.ret0 X_2 hx hret hlk (hb hby d18_18) (by decide) (by decide) ?_
    have f_3 : Keep h0 h_2 [b] := ((Keep.refl h0 [b]).wr W_2 (Or.inl (List.mem_of_getElem? (i := 0) rfl)))
    show (Q18_0 Z b kC y0 y1 y2 y3 y4 y5 y6 vb h0 n0) _ T_2.heap _
    rw [e_2]
    exact ⟨rfl, N_2, f_3, (by rw [own_upc_n hu]; exact V_2)⟩
def Q18_1 (Z : State) (b : Addr) (kC : ClassId) (y0 : Int32) (y1 : Int32) (y2 : Int32) (y3 : Int32) (y4 : Int32) (y5 : Int32) (y6 : Int32) (vb : Int32) (h0 : Heap) (n0 : Nat) (v : Option Value) (h : Heap) (L : List Loc) : Prop := v = none ∧ Fr n0 L ∧ Keep h0 h [b] ∧ Arv Z h b kC .char (7 : Int32) [(.int y0), (.int (own_upc (((vb.toUInt32 >>> ((1 : Int32) &&& 31).toUInt32).toInt32) &&& (1 : Int32)) y1)), (.int y2), (.int y3), (.int y4), (.int y5), (.int y6)] (.int (0 : Int32))
theorem ef_18_1 (m : MethodId) (b : Addr) (vb : Int32) : entryFrame m #[(.ref b), (.int (1 : Int32)), (.int vb)] 3 = mkF m 0 #[.val (.ref b), .val (.int (1 : Int32)), .val (.int vb)] [] := by first | (simp [entryFrame, mkF, argsToLocals, Value.category]; done) | (simp [entryFrame, mkF, argsToLocals, own_cat_i, own_cat_l, own_cat_r, own_cat_n]; done) | rfl
set_option maxRecDepth 65536 in
set_option maxHeartbeats 40000000 in
theorem rm18_1 (l : Launch) (Z : State) (a0 : Array Value) (hw : ∀ d ∈ tables_1, d.before a0 Z = true) (b : Addr) (kC : ClassId) (y0 : Int32) (y1 : Int32) (y2 : Int32) (y3 : Int32) (y4 : Int32) (y5 : Int32) (y6 : Int32) (vb : Int32) (h0 : Heap) (n0 : Nat) (Z0 : n0 ≤ h0.size) (PA_b : Arv Z h0 b kC .char (7 : Int32) [(.int y0), (.int y1), (.int y2), (.int y3), (.int y4), (.int y5), (.int y6)] (.int (0 : Int32))) (Pg_b : n0 ≤ b) :
    Met1 l Z (⟨"com/example/statementbound/statementbound/statements/internal/KindOfElementPinLaw", "up", "([CII)V"⟩ : MethodName) method_3_code 3 none ({ frames := 0, cells := 0, slots := 0, locals := 0 } : Room) #[(.ref b), (.int (1 : Int32)), (.int vb)] h0 (Q18_1 Z b kC y0 y1 y2 y3 y4 y5 y6 vb h0 n0) := by
  refine Met1.mk (plainFor_of_name (by first | (simp [plainName, overriddenIn]; done) | decide +kernel)) ?_
  intro p e s m below meth c s₁ hx hZ hby hml hown hnm hret hlk X0 e0
  have N0 := Fr.nil n0
  refine Go.cast (ef_18_1 m b vb) ?_
  show Go p e below (FinN s (Q18_1 Z b kC y0 y1 y2 y3 y4 y5 y6 vb h0 n0) ({ frames := 0, cells := 0, slots := 0, locals := 0 } : Room).cells ({ frames := 0, cells := 0, slots := 0, locals := 0 } : Room).slots) s₁ (mkF m 0 #[.val (.ref b), .val (.int (1 : Int32)), .val (.int vb)] [])
  refine Go.to (mkF m 1 #[.val (.ref b), .val (.int (1 : Int32)), .val (.int vb)] [(.int vb)]) (fun _ k => XS.iloadN X0.here hx rfl (hb hby d18_0) rfl  k) ?_
  refine Go.to (mkF m 2 #[.val (.ref b), .val (.int (1 : Int32)), .val (.int vb)] [(.int (1 : Int32)), (.int vb)]) (fun _ k => XS.iloadN X0.here hx rfl (hb hby d18_1) rfl  k) ?_
  refine Go.to (mkF m 3 #[.val (.ref b), .val (.int (1 : Int32)), .val (.int vb)] [(.int ((vb.toUInt32 >>> ((1 : Int32) &&& 31).toUInt32).toInt32))]) (fun _ k => XS.iushr X0.here hx rfl (hb hby d18_2) rfl k) ?_
  refine Go.to (mkF m 4 #[.val (.ref b), .val (.int (1 : Int32)), .val (.int vb)] [(.int (1 : Int32)), (.int ((vb.toUInt32 >>> ((1 : Int32) &&& 31).toUInt32).toInt32))]) (fun _ k => XS.iconst X0.here hx rfl (hb hby d18_3) k) ?_
  refine Go.to (mkF m 5 #[.val (.ref b), .val (.int (1 : Int32)), .val (.int vb)] [(.int (((vb.toUInt32 >>> ((1 : Int32) &&& 31).toUInt32).toInt32) &&& (1 : Int32)))]) (fun _ k => XS.iand X0.here hx rfl (hb hby d18_4) rfl k) ?_
  by_cases hu : (((vb.toUInt32 >>> ((1 : Int32) &&& 31).toUInt32).toInt32) &&& (1 : Int32)) = (0 : Int32)
  · refine Go.to (mkF m 18 #[.val (.ref b), .val (.int (1 : Int32)), .val (.int vb)] []) (fun _ k => XS.ifYes X0.here hx rfl (pc0 := 5) (pc' := 18) rfl (hb hby d18_5) rfl ((if0 _ _).trans (teq hu).1) (by decide) (by decide) k) ?_
    refine Go.ret0 X0 hx hret hlk (hb hby d18_18) (by decide) (by decide) ?_
    show (Q18_1 Z b kC y0 y1 y2 y3 y4 y5 y6 vb h0 n0) _ s₁.heap _
    rw [e0]
    exact ⟨rfl, N0, (Keep.refl h0 [b]), (by rw [own_upc_y hu]; exact PA_b)⟩
  · refine Go.to (mkF m 8 #[.val (.ref b), .val (.int (1 : Int32)), .val (.int vb)] []) (fun _ k => XS.ifNo X0.here hx rfl (hb hby d18_5) rfl ((if0 _ _).trans (feq hu).1) k) ?_
    refine Go.to (mkF m 9 #[.val (.ref b), .val (.int (1 : Int32)), .val (.int vb)] [(.ref b)]) (fun _ k => XS.aloadN X0.here hx rfl (hb hby d18_8) rfl rfl k) ?_
    refine Go.to (mkF m 10 #[.val (.ref b), .val (.int (1 : Int32)), .val (.int vb)] [(.int (1 : Int32)), (.ref b)]) (fun _ k => XS.iloadN X0.here hx rfl (hb hby d18_9) rfl  k) ?_
    refine Go.to (mkF m 11 #[.val (.ref b), .val (.int (1 : Int32)), .val (.int vb)] [(.ref b), (.int (1 : Int32)), (.ref b)]) (fun _ k => XS.aloadN X0.here hx rfl (hb hby d18_10) rfl rfl k) ?_
    refine Go.to (mkF m 12 #[.val (.ref b), .val (.int (1 : Int32)), .val (.int vb)] [(.int (1 : Int32)), (.ref b), (.int (1 : Int32)), (.ref b)]) (fun _ k => XS.iloadN X0.here hx rfl (hb hby d18_11) rfl  k) ?_
    obtain ⟨cl_1, Ar_1, -, Sz_1, Ng_1, Hh_1, -⟩ := id PA_b
    have hin_1 : ¬ ((1 : Int32) < 0 ∨ cl_1.slots.size ≤ ((1 : Int32)).toNatClampNeg) := inb_of Sz_1 ⟨by decide, by decide⟩
    refine Go.to (mkF m 13 #[.val (.ref b), .val (.int (1 : Int32)), .val (.int vb)] [(.int y1), (.int (1 : Int32)), (.ref b)]) (X0.caload hx (j := (1 : Int32)) (v := (.int y1)) (by rw [e0]; exact Ar_1.1) (State.isArrayOf_alike hZ.alike Ar_1.2.1) Ar_1.2.2 hin_1 (Hh_1.at hin_1 rfl) (g := (mkF m 12 #[.val (.ref b), .val (.int (1 : Int32)), .val (.int vb)] [(.int (1 : Int32)), (.ref b), (.int (1 : Int32)), (.ref b)])) rfl rfl (hb hby d18_12)) ?_
    refine Go.to (mkF m 15 #[.val (.ref b), .val (.int (1 : Int32)), .val (.int vb)] [(.int (32 : Int32)), (.int y1), (.int (1 : Int32)), (.ref b)]) (fun _ k => XS.bipush X0.here hx rfl (hb hby d18_13) k) ?_
    refine Go.to (mkF m 16 #[.val (.ref b), .val (.int (1 : Int32)), .val (.int vb)] [(.int (y1 - (32 : Int32))), (.int (1 : Int32)), (.ref b)]) (fun _ k => XS.isub X0.here hx rfl (hb hby d18_15) rfl k) ?_
    refine Go.to (mkF m 17 #[.val (.ref b), .val (.int (1 : Int32)), .val (.int vb)] [(.int ((y1 - (32 : Int32)).toUInt32.toUInt16.toUInt32.toInt32)), (.int (1 : Int32)), (.ref b)]) (fun _ k => XS.i2c X0.here hx rfl (hb hby d18_16) rfl k) ?_
    obtain ⟨cl_2, Ar_2, q_2, Sz_2, Ng_2, Hh_2, Gg_2⟩ := id PA_b
    have hin_2 : ¬ ((1 : Int32) < 0 ∨ cl_2.slots.size ≤ ((1 : Int32)).toNatClampNeg) := inb_of Sz_2 ⟨by decide, by decide⟩
    obtain ⟨T_2, h_2, X_2, e_2, W_2, st_2⟩ := stC X0 hx hZ e0 Ar_2 (j := (1 : Int32)) hin_2 (g := (mkF m 17 #[.val (.ref b), .val (.int (1 : Int32)), .val (.int vb)] [(.int ((y1 - (32 : Int32)).toUInt32.toUInt16.toUInt32.toInt32)), (.int (1 : Int32)), (.ref b)])) rfl rfl (hb hby d18_17)
    have N_2 := Fr.snoc X_2 N0 Pg_b
    have V_2 : Arv Z h_2 b kC .char (7 : Int32) [(.int y0), (.int (nar .char ((y1 - (32 : Int32)).toUInt32.toUInt16.toUInt32.toInt32))), (.int y2), (.int y3), (.int y4), (.int y5), (.int y6)] (.int (0 : Int32)) := Arv.set Ar_2 q_2 Sz_2 Ng_2 Hh_2 Gg_2 (fits_nar_char _) W_2 1 rfl (Nat.le_of_ble_eq_true rfl)
    refine Go.to (mkF m 18 #[.val (.ref b), .val (.int (1 : Int32)), .val (.int vb)] []) st_2 ?_
    refine Go.ret0 X_2 hx hret hlk (hb hby d18_18) (by decide) (by decide) ?_
    have f_3 : Keep h0 h_2 [b] := ((Keep.refl h0 [b]).wr W_2 (Or.inl (List.mem_of_getElem? (i := 0) rfl)))
    show (Q18_1 Z b kC y0 y1 y2 y3 y4 y5 y6 vb h0 n0) _ T_2.heap _
    rw [e_2]
    exact ⟨rfl, N_2, f_3, (by rw [own_upc_n hu]; exact V_2)⟩
def Q18_2 (Z : State) (b : Addr) (kC : ClassId) (y0 : Int32) (y1 : Int32) (y2 : Int32) (y3 : Int32) (y4 : Int32) (y5 : Int32) (y6 : Int32) (vb : Int32) (h0 : Heap) (n0 : Nat) (v : Option Value) (h : Heap) (L : List Loc) : Prop := v = none ∧ Fr n0 L ∧ Keep h0 h [b] ∧ Arv Z h b kC .char (7 : Int32) [(.int y0), (.int y1), (.int (own_upc (((vb.toUInt32 >>> ((2 : Int32) &&& 31).toUInt32).toInt32) &&& (1 : Int32)) y2)), (.int y3), (.int y4), (.int y5), (.int y6)] (.int (0 : Int32))
theorem ef_18_2 (m : MethodId) (b : Addr) (vb : Int32) : entryFrame m #[(.ref b), (.int (2 : Int32)), (.int vb)] 3 = mkF m 0 #[.val (.ref b), .val (.int (2 : Int32)), .val (.int vb)] [] := by first | (simp [entryFrame, mkF, argsToLocals, Value.category]; done) | (simp [entryFrame, mkF, argsToLocals, own_cat_i, own_cat_l, own_cat_r, own_cat_n]; done) | rfl
set_option maxRecDepth 65536 in
set_option maxHeartbeats 40000000 in
theorem rm18_2 (l : Launch) (Z : State) (a0 : Array Value) (hw : ∀ d ∈ tables_1, d.before a0 Z = true) (b : Addr) (kC : ClassId) (y0 : Int32) (y1 : Int32) (y2 : Int32) (y3 : Int32) (y4 : Int32) (y5 : Int32) (y6 : Int32) (vb : Int32) (h0 : Heap) (n0 : Nat) (Z0 : n0 ≤ h0.size) (PA_b : Arv Z h0 b kC .char (7 : Int32) [(.int y0), (.int y1), (.int y2), (.int y3), (.int y4), (.int y5), (.int y6)] (.int (0 : Int32))) (Pg_b : n0 ≤ b) :
    Met1 l Z (⟨"com/example/statementbound/statementbound/statements/internal/KindOfElementPinLaw", "up", "([CII)V"⟩ : MethodName) method_3_code 3 none ({ frames := 0, cells := 0, slots := 0, locals := 0 } : Room) #[(.ref b), (.int (2 : Int32)), (.int vb)] h0 (Q18_2 Z b kC y0 y1 y2 y3 y4 y5 y6 vb h0 n0) := by
  refine Met1.mk (plainFor_of_name (by first | (simp [plainName, overriddenIn]; done) | decide +kernel)) ?_
  intro p e s m below meth c s₁ hx hZ hby hml hown hnm hret hlk X0 e0
  have N0 := Fr.nil n0
  refine Go.cast (ef_18_2 m b vb) ?_
  show Go p e below (FinN s (Q18_2 Z b kC y0 y1 y2 y3 y4 y5 y6 vb h0 n0) ({ frames := 0, cells := 0, slots := 0, locals := 0 } : Room).cells ({ frames := 0, cells := 0, slots := 0, locals := 0 } : Room).slots) s₁ (mkF m 0 #[.val (.ref b), .val (.int (2 : Int32)), .val (.int vb)] [])
  refine Go.to (mkF m 1 #[.val (.ref b), .val (.int (2 : Int32)), .val (.int vb)] [(.int vb)]) (fun _ k => XS.iloadN X0.here hx rfl (hb hby d18_0) rfl  k) ?_
  refine Go.to (mkF m 2 #[.val (.ref b), .val (.int (2 : Int32)), .val (.int vb)] [(.int (2 : Int32)), (.int vb)]) (fun _ k => XS.iloadN X0.here hx rfl (hb hby d18_1) rfl  k) ?_
  refine Go.to (mkF m 3 #[.val (.ref b), .val (.int (2 : Int32)), .val (.int vb)] [(.int ((vb.toUInt32 >>> ((2 : Int32) &&& 31).toUInt32).toInt32))]) (fun _ k => XS.iushr X0.here hx rfl (hb hby d18_2) rfl k) ?_
  refine Go.to (mkF m 4 #[.val (.ref b), .val (.int (2 : Int32)), .val (.int vb)] [(.int (1 : Int32)), (.int ((vb.toUInt32 >>> ((2 : Int32) &&& 31).toUInt32).toInt32))]) (fun _ k => XS.iconst X0.here hx rfl (hb hby d18_3) k) ?_
  refine Go.to (mkF m 5 #[.val (.ref b), .val (.int (2 : Int32)), .val (.int vb)] [(.int (((vb.toUInt32 >>> ((2 : Int32) &&& 31).toUInt32).toInt32) &&& (1 : Int32)))]) (fun _ k => XS.iand X0.here hx rfl (hb hby d18_4) rfl k) ?_
  by_cases hu : (((vb.toUInt32 >>> ((2 : Int32) &&& 31).toUInt32).toInt32) &&& (1 : Int32)) = (0 : Int32)
  · refine Go.to (mkF m 18 #[.val (.ref b), .val (.int (2 : Int32)), .val (.int vb)] []) (fun _ k => XS.ifYes X0.here hx rfl (pc0 := 5) (pc' := 18) rfl (hb hby d18_5) rfl ((if0 _ _).trans (teq hu).1) (by decide) (by decide) k) ?_
    refine Go.ret0 X0 hx hret hlk (hb hby d18_18) (by decide) (by decide) ?_
    show (Q18_2 Z b kC y0 y1 y2 y3 y4 y5 y6 vb h0 n0) _ s₁.heap _
    rw [e0]
    exact ⟨rfl, N0, (Keep.refl h0 [b]), (by rw [own_upc_y hu]; exact PA_b)⟩
  · refine Go.to (mkF m 8 #[.val (.ref b), .val (.int (2 : Int32)), .val (.int vb)] []) (fun _ k => XS.ifNo X0.here hx rfl (hb hby d18_5) rfl ((if0 _ _).trans (feq hu).1) k) ?_
    refine Go.to (mkF m 9 #[.val (.ref b), .val (.int (2 : Int32)), .val (.int vb)] [(.ref b)]) (fun _ k => XS.aloadN X0.here hx rfl (hb hby d18_8) rfl rfl k) ?_
    refine Go.to (mkF m 10 #[.val (.ref b), .val (.int (2 : Int32)), .val (.int vb)] [(.int (2 : Int32)), (.ref b)]) (fun _ k => XS.iloadN X0.here hx rfl (hb hby d18_9) rfl  k) ?_
    refine Go.to (mkF m 11 #[.val (.ref b), .val (.int (2 : Int32)), .val (.int vb)] [(.ref b), (.int (2 : Int32)), (.ref b)]) (fun _ k => XS.aloadN X0.here hx rfl (hb hby d18_10) rfl rfl k) ?_
    refine Go.to (mkF m 12 #[.val (.ref b), .val (.int (2 : Int32)), .val (.int vb)] [(.int (2 : Int32)), (.ref b), (.int (2 : Int32)), (.ref b)]) (fun _ k => XS.iloadN X0.here hx rfl (hb hby d18_11) rfl  k) ?_
    obtain ⟨cl_1, Ar_1, -, Sz_1, Ng_1, Hh_1, -⟩ := id PA_b
    have hin_1 : ¬ ((2 : Int32) < 0 ∨ cl_1.slots.size ≤ ((2 : Int32)).toNatClampNeg) := inb_of Sz_1 ⟨by decide, by decide⟩
    refine Go.to (mkF m 13 #[.val (.ref b), .val (.int (2 : Int32)), .val (.int vb)] [(.int y2), (.int (2 : Int32)), (.ref b)]) (X0.caload hx (j := (2 : Int32)) (v := (.int y2)) (by rw [e0]; exact Ar_1.1) (State.isArrayOf_alike hZ.alike Ar_1.2.1) Ar_1.2.2 hin_1 (Hh_1.at hin_1 rfl) (g := (mkF m 12 #[.val (.ref b), .val (.int (2 : Int32)), .val (.int vb)] [(.int (2 : Int32)), (.ref b), (.int (2 : Int32)), (.ref b)])) rfl rfl (hb hby d18_12)) ?_
    refine Go.to (mkF m 15 #[.val (.ref b), .val (.int (2 : Int32)), .val (.int vb)] [(.int (32 : Int32)), (.int y2), (.int (2 : Int32)), (.ref b)]) (fun _ k => XS.bipush X0.here hx rfl (hb hby d18_13) k) ?_
    refine Go.to (mkF m 16 #[.val (.ref b), .val (.int (2 : Int32)), .val (.int vb)] [(.int (y2 - (32 : Int32))), (.int (2 : Int32)), (.ref b)]) (fun _ k => XS.isub X0.here hx rfl (hb hby d18_15) rfl k) ?_
    refine Go.to (mkF m 17 #[.val (.ref b), .val (.int (2 : Int32)), .val (.int vb)] [(.int ((y2 - (32 : Int32)).toUInt32.toUInt16.toUInt32.toInt32)), (.int (2 : Int32)), (.ref b)]) (fun _ k => XS.i2c X0.here hx rfl (hb hby d18_16) rfl k) ?_
    obtain ⟨cl_2, Ar_2, q_2, Sz_2, Ng_2, Hh_2, Gg_2⟩ := id PA_b
    have hin_2 : ¬ ((2 : Int32) < 0 ∨ cl_2.slots.size ≤ ((2 : Int32)).toNatClampNeg) := inb_of Sz_2 ⟨by decide, by decide⟩
    obtain ⟨T_2, h_2, X_2, e_2, W_2, st_2⟩ := stC X0 hx hZ e0 Ar_2 (j := (2 : Int32)) hin_2 (g := (mkF m 17 #[.val (.ref b), .val (.int (2 : Int32)), .val (.int vb)] [(.int ((y2 - (32 : Int32)).toUInt32.toUInt16.toUInt32.toInt32)), (.int (2 : Int32)), (.ref b)])) rfl rfl (hb hby d18_17)
    have N_2 := Fr.snoc X_2 N0 Pg_b
    have V_2 : Arv Z h_2 b kC .char (7 : Int32) [(.int y0), (.int y1), (.int (nar .char ((y2 - (32 : Int32)).toUInt32.toUInt16.toUInt32.toInt32))), (.int y3), (.int y4), (.int y5), (.int y6)] (.int (0 : Int32)) := Arv.set Ar_2 q_2 Sz_2 Ng_2 Hh_2 Gg_2 (fits_nar_char _) W_2 2 rfl (Nat.le_of_ble_eq_true rfl)
    refine Go.to (mkF m 18 #[.val (.ref b), .val (.int (2 : Int32)), .val (.int vb)] []) st_2 ?_
    refine Go.ret0 X_2 hx hret hlk (hb hby d18_18) (by decide) (by decide) ?_
    have f_3 : Keep h0 h_2 [b] := ((Keep.refl h0 [b]).wr W_2 (Or.inl (List.mem_of_getElem? (i := 0) rfl)))
    show (Q18_2 Z b kC y0 y1 y2 y3 y4 y5 y6 vb h0 n0) _ T_2.heap _
    rw [e_2]
    exact ⟨rfl, N_2, f_3, (by rw [own_upc_n hu]; exact V_2)⟩
def Q18_3 (Z : State) (b : Addr) (kC : ClassId) (y0 : Int32) (y1 : Int32) (y2 : Int32) (y3 : Int32) (y4 : Int32) (y5 : Int32) (y6 : Int32) (vb : Int32) (h0 : Heap) (n0 : Nat) (v : Option Value) (h : Heap) (L : List Loc) : Prop := v = none ∧ Fr n0 L ∧ Keep h0 h [b] ∧ Arv Z h b kC .char (7 : Int32) [(.int y0), (.int y1), (.int y2), (.int (own_upc (((vb.toUInt32 >>> ((3 : Int32) &&& 31).toUInt32).toInt32) &&& (1 : Int32)) y3)), (.int y4), (.int y5), (.int y6)] (.int (0 : Int32))
theorem ef_18_3 (m : MethodId) (b : Addr) (vb : Int32) : entryFrame m #[(.ref b), (.int (3 : Int32)), (.int vb)] 3 = mkF m 0 #[.val (.ref b), .val (.int (3 : Int32)), .val (.int vb)] [] := by first | (simp [entryFrame, mkF, argsToLocals, Value.category]; done) | (simp [entryFrame, mkF, argsToLocals, own_cat_i, own_cat_l, own_cat_r, own_cat_n]; done) | rfl
set_option maxRecDepth 65536 in
set_option maxHeartbeats 40000000 in
theorem rm18_3 (l : Launch) (Z : State) (a0 : Array Value) (hw : ∀ d ∈ tables_1, d.before a0 Z = true) (b : Addr) (kC : ClassId) (y0 : Int32) (y1 : Int32) (y2 : Int32) (y3 : Int32) (y4 : Int32) (y5 : Int32) (y6 : Int32) (vb : Int32) (h0 : Heap) (n0 : Nat) (Z0 : n0 ≤ h0.size) (PA_b : Arv Z h0 b kC .char (7 : Int32) [(.int y0), (.int y1), (.int y2), (.int y3), (.int y4), (.int y5), (.int y6)] (.int (0 : Int32))) (Pg_b : n0 ≤ b) :
    Met1 l Z (⟨"com/example/statementbound/statementbound/statements/internal/KindOfElementPinLaw", "up", "([CII)V"⟩ : MethodName) method_3_code 3 none ({ frames := 0, cells := 0, slots := 0, locals := 0 } : Room) #[(.ref b), (.int (3 : Int32)), (.int vb)] h0 (Q18_3 Z b kC y0 y1 y2 y3 y4 y5 y6 vb h0 n0) := by
  refine Met1.mk (plainFor_of_name (by first | (simp [plainName, overriddenIn]; done) | decide +kernel)) ?_
  intro p e s m below meth c s₁ hx hZ hby hml hown hnm hret hlk X0 e0
  have N0 := Fr.nil n0
  refine Go.cast (ef_18_3 m b vb) ?_
  show Go p e below (FinN s (Q18_3 Z b kC y0 y1 y2 y3 y4 y5 y6 vb h0 n0) ({ frames := 0, cells := 0, slots := 0, locals := 0 } : Room).cells ({ frames := 0, cells := 0, slots := 0, locals := 0 } : Room).slots) s₁ (mkF m 0 #[.val (.ref b), .val (.int (3 : Int32)), .val (.int vb)] [])
  refine Go.to (mkF m 1 #[.val (.ref b), .val (.int (3 : Int32)), .val (.int vb)] [(.int vb)]) (fun _ k => XS.iloadN X0.here hx rfl (hb hby d18_0) rfl  k) ?_
  refine Go.to (mkF m 2 #[.val (.ref b), .val (.int (3 : Int32)), .val (.int vb)] [(.int (3 : Int32)), (.int vb)]) (fun _ k => XS.iloadN X0.here hx rfl (hb hby d18_1) rfl  k) ?_
  refine Go.to (mkF m 3 #[.val (.ref b), .val (.int (3 : Int32)), .val (.int vb)] [(.int ((vb.toUInt32 >>> ((3 : Int32) &&& 31).toUInt32).toInt32))]) (fun _ k => XS.iushr X0.here hx rfl (hb hby d18_2) rfl k) ?_
  refine Go.to (mkF m 4 #[.val (.ref b), .val (.int (3 : Int32)), .val (.int vb)] [(.int (1 : Int32)), (.int ((vb.toUInt32 >>> ((3 : Int32) &&& 31).toUInt32).toInt32))]) (fun _ k => XS.iconst X0.here hx rfl (hb hby d18_3) k) ?_
  refine Go.to (mkF m 5 #[.val (.ref b), .val (.int (3 : Int32)), .val (.int vb)] [(.int (((vb.toUInt32 >>> ((3 : Int32) &&& 31).toUInt32).toInt32) &&& (1 : Int32)))]) (fun _ k => XS.iand X0.here hx rfl (hb hby d18_4) rfl k) ?_
  by_cases hu : (((vb.toUInt32 >>> ((3 : Int32) &&& 31).toUInt32).toInt32) &&& (1 : Int32)) = (0 : Int32)
  · refine Go.to (mkF m 18 #[.val (.ref b), .val (.int (3 : Int32)), .val (.int vb)] []) (fun _ k => XS.ifYes X0.here hx rfl (pc0 := 5) (pc' := 18) rfl (hb hby d18_5) rfl ((if0 _ _).trans (teq hu).1) (by decide) (by decide) k) ?_
    refine Go.ret0 X0 hx hret hlk (hb hby d18_18) (by decide) (by decide) ?_
    show (Q18_3 Z b kC y0 y1 y2 y3 y4 y5 y6 vb h0 n0) _ s₁.heap _
    rw [e0]
    exact ⟨rfl, N0, (Keep.refl h0 [b]), (by rw [own_upc_y hu]; exact PA_b)⟩
  · refine Go.to (mkF m 8 #[.val (.ref b), .val (.int (3 : Int32)), .val (.int vb)] []) (fun _ k => XS.ifNo X0.here hx rfl (hb hby d18_5) rfl ((if0 _ _).trans (feq hu).1) k) ?_
    refine Go.to (mkF m 9 #[.val (.ref b), .val (.int (3 : Int32)), .val (.int vb)] [(.ref b)]) (fun _ k => XS.aloadN X0.here hx rfl (hb hby d18_8) rfl rfl k) ?_
    refine Go.to (mkF m 10 #[.val (.ref b), .val (.int (3 : Int32)), .val (.int vb)] [(.int (3 : Int32)), (.ref b)]) (fun _ k => XS.iloadN X0.here hx rfl (hb hby d18_9) rfl  k) ?_
    refine Go.to (mkF m 11 #[.val (.ref b), .val (.int (3 : Int32)), .val (.int vb)] [(.ref b), (.int (3 : Int32)), (.ref b)]) (fun _ k => XS.aloadN X0.here hx rfl (hb hby d18_10) rfl rfl k) ?_
    refine Go.to (mkF m 12 #[.val (.ref b), .val (.int (3 : Int32)), .val (.int vb)] [(.int (3 : Int32)), (.ref b), (.int (3 : Int32)), (.ref b)]) (fun _ k => XS.iloadN X0.here hx rfl (hb hby d18_11) rfl  k) ?_
    obtain ⟨cl_1, Ar_1, -, Sz_1, Ng_1, Hh_1, -⟩ := id PA_b
    have hin_1 : ¬ ((3 : Int32) < 0 ∨ cl_1.slots.size ≤ ((3 : Int32)).toNatClampNeg) := inb_of Sz_1 ⟨by decide, by decide⟩
    refine Go.to (mkF m 13 #[.val (.ref b), .val (.int (3 : Int32)), .val (.int vb)] [(.int y3), (.int (3 : Int32)), (.ref b)]) (X0.caload hx (j := (3 : Int32)) (v := (.int y3)) (by rw [e0]; exact Ar_1.1) (State.isArrayOf_alike hZ.alike Ar_1.2.1) Ar_1.2.2 hin_1 (Hh_1.at hin_1 rfl) (g := (mkF m 12 #[.val (.ref b), .val (.int (3 : Int32)), .val (.int vb)] [(.int (3 : Int32)), (.ref b), (.int (3 : Int32)), (.ref b)])) rfl rfl (hb hby d18_12)) ?_
    refine Go.to (mkF m 15 #[.val (.ref b), .val (.int (3 : Int32)), .val (.int vb)] [(.int (32 : Int32)), (.int y3), (.int (3 : Int32)), (.ref b)]) (fun _ k => XS.bipush X0.here hx rfl (hb hby d18_13) k) ?_
    refine Go.to (mkF m 16 #[.val (.ref b), .val (.int (3 : Int32)), .val (.int vb)] [(.int (y3 - (32 : Int32))), (.int (3 : Int32)), (.ref b)]) (fun _ k => XS.isub X0.here hx rfl (hb hby d18_15) rfl k) ?_
    refine Go.to (mkF m 17 #[.val (.ref b), .val (.int (3 : Int32)), .val (.int vb)] [(.int ((y3 - (32 : Int32)).toUInt32.toUInt16.toUInt32.toInt32)), (.int (3 : Int32)), (.ref b)]) (fun _ k => XS.i2c X0.here hx rfl (hb hby d18_16) rfl k) ?_
    obtain ⟨cl_2, Ar_2, q_2, Sz_2, Ng_2, Hh_2, Gg_2⟩ := id PA_b
    have hin_2 : ¬ ((3 : Int32) < 0 ∨ cl_2.slots.size ≤ ((3 : Int32)).toNatClampNeg) := inb_of Sz_2 ⟨by decide, by decide⟩
    obtain ⟨T_2, h_2, X_2, e_2, W_2, st_2⟩ := stC X0 hx hZ e0 Ar_2 (j := (3 : Int32)) hin_2 (g := (mkF m 17 #[.val (.ref b), .val (.int (3 : Int32)), .val (.int vb)] [(.int ((y3 - (32 : Int32)).toUInt32.toUInt16.toUInt32.toInt32)), (.int (3 : Int32)), (.ref b)])) rfl rfl (hb hby d18_17)
    have N_2 := Fr.snoc X_2 N0 Pg_b
    have V_2 : Arv Z h_2 b kC .char (7 : Int32) [(.int y0), (.int y1), (.int y2), (.int (nar .char ((y3 - (32 : Int32)).toUInt32.toUInt16.toUInt32.toInt32))), (.int y4), (.int y5), (.int y6)] (.int (0 : Int32)) := Arv.set Ar_2 q_2 Sz_2 Ng_2 Hh_2 Gg_2 (fits_nar_char _) W_2 3 rfl (Nat.le_of_ble_eq_true rfl)
    refine Go.to (mkF m 18 #[.val (.ref b), .val (.int (3 : Int32)), .val (.int vb)] []) st_2 ?_
    refine Go.ret0 X_2 hx hret hlk (hb hby d18_18) (by decide) (by decide) ?_
    have f_3 : Keep h0 h_2 [b] := ((Keep.refl h0 [b]).wr W_2 (Or.inl (List.mem_of_getElem? (i := 0) rfl)))
    show (Q18_3 Z b kC y0 y1 y2 y3 y4 y5 y6 vb h0 n0) _ T_2.heap _
    rw [e_2]
    exact ⟨rfl, N_2, f_3, (by rw [own_upc_n hu]; exact V_2)⟩
def Q18_4 (Z : State) (b : Addr) (kC : ClassId) (y0 : Int32) (y1 : Int32) (y2 : Int32) (y3 : Int32) (y4 : Int32) (y5 : Int32) (y6 : Int32) (vb : Int32) (h0 : Heap) (n0 : Nat) (v : Option Value) (h : Heap) (L : List Loc) : Prop := v = none ∧ Fr n0 L ∧ Keep h0 h [b] ∧ Arv Z h b kC .char (7 : Int32) [(.int y0), (.int y1), (.int y2), (.int y3), (.int (own_upc (((vb.toUInt32 >>> ((4 : Int32) &&& 31).toUInt32).toInt32) &&& (1 : Int32)) y4)), (.int y5), (.int y6)] (.int (0 : Int32))
theorem ef_18_4 (m : MethodId) (b : Addr) (vb : Int32) : entryFrame m #[(.ref b), (.int (4 : Int32)), (.int vb)] 3 = mkF m 0 #[.val (.ref b), .val (.int (4 : Int32)), .val (.int vb)] [] := by first | (simp [entryFrame, mkF, argsToLocals, Value.category]; done) | (simp [entryFrame, mkF, argsToLocals, own_cat_i, own_cat_l, own_cat_r, own_cat_n]; done) | rfl
set_option maxRecDepth 65536 in
set_option maxHeartbeats 40000000 in
theorem rm18_4 (l : Launch) (Z : State) (a0 : Array Value) (hw : ∀ d ∈ tables_1, d.before a0 Z = true) (b : Addr) (kC : ClassId) (y0 : Int32) (y1 : Int32) (y2 : Int32) (y3 : Int32) (y4 : Int32) (y5 : Int32) (y6 : Int32) (vb : Int32) (h0 : Heap) (n0 : Nat) (Z0 : n0 ≤ h0.size) (PA_b : Arv Z h0 b kC .char (7 : Int32) [(.int y0), (.int y1), (.int y2), (.int y3), (.int y4), (.int y5), (.int y6)] (.int (0 : Int32))) (Pg_b : n0 ≤ b) :
    Met1 l Z (⟨"com/example/statementbound/statementbound/statements/internal/KindOfElementPinLaw", "up", "([CII)V"⟩ : MethodName) method_3_code 3 none ({ frames := 0, cells := 0, slots := 0, locals := 0 } : Room) #[(.ref b), (.int (4 : Int32)), (.int vb)] h0 (Q18_4 Z b kC y0 y1 y2 y3 y4 y5 y6 vb h0 n0) := by
  refine Met1.mk (plainFor_of_name (by first | (simp [plainName, overriddenIn]; done) | decide +kernel)) ?_
  intro p e s m below meth c s₁ hx hZ hby hml hown hnm hret hlk X0 e0
  have N0 := Fr.nil n0
  refine Go.cast (ef_18_4 m b vb) ?_
  show Go p e below (FinN s (Q18_4 Z b kC y0 y1 y2 y3 y4 y5 y6 vb h0 n0) ({ frames := 0, cells := 0, slots := 0, locals := 0 } : Room).cells ({ frames := 0, cells := 0, slots := 0, locals := 0 } : Room).slots) s₁ (mkF m 0 #[.val (.ref b), .val (.int (4 : Int32)), .val (.int vb)] [])
  refine Go.to (mkF m 1 #[.val (.ref b), .val (.int (4 : Int32)), .val (.int vb)] [(.int vb)]) (fun _ k => XS.iloadN X0.here hx rfl (hb hby d18_0) rfl  k) ?_
  refine Go.to (mkF m 2 #[.val (.ref b), .val (.int (4 : Int32)), .val (.int vb)] [(.int (4 : Int32)), (.int vb)]) (fun _ k => XS.iloadN X0.here hx rfl (hb hby d18_1) rfl  k) ?_
  refine Go.to (mkF m 3 #[.val (.ref b), .val (.int (4 : Int32)), .val (.int vb)] [(.int ((vb.toUInt32 >>> ((4 : Int32) &&& 31).toUInt32).toInt32))]) (fun _ k => XS.iushr X0.here hx rfl (hb hby d18_2) rfl k) ?_
  refine Go.to (mkF m 4 #[.val (.ref b), .val (.int (4 : Int32)), .val (.int vb)] [(.int (1 : Int32)), (.int ((vb.toUInt32 >>> ((4 : Int32) &&& 31).toUInt32).toInt32))]) (fun _ k => XS.iconst X0.here hx rfl (hb hby d18_3) k) ?_
  refine Go.to (mkF m 5 #[.val (.ref b), .val (.int (4 : Int32)), .val (.int vb)] [(.int (((vb.toUInt32 >>> ((4 : Int32) &&& 31).toUInt32).toInt32) &&& (1 : Int32)))]) (fun _ k => XS.iand X0.here hx rfl (hb hby d18_4) rfl k) ?_
  by_cases hu : (((vb.toUInt32 >>> ((4 : Int32) &&& 31).toUInt32).toInt32) &&& (1 : Int32)) = (0 : Int32)
  · refine Go.to (mkF m 18 #[.val (.ref b), .val (.int (4 : Int32)), .val (.int vb)] []) (fun _ k => XS.ifYes X0.here hx rfl (pc0 := 5) (pc' := 18) rfl (hb hby d18_5) rfl ((if0 _ _).trans (teq hu).1) (by decide) (by decide) k) ?_
    refine Go.ret0 X0 hx hret hlk (hb hby d18_18) (by decide) (by decide) ?_
    show (Q18_4 Z b kC y0 y1 y2 y3 y4 y5 y6 vb h0 n0) _ s₁.heap _
    rw [e0]
    exact ⟨rfl, N0, (Keep.refl h0 [b]), (by rw [own_upc_y hu]; exact PA_b)⟩
  · refine Go.to (mkF m 8 #[.val (.ref b), .val (.int (4 : Int32)), .val (.int vb)] []) (fun _ k => XS.ifNo X0.here hx rfl (hb hby d18_5) rfl ((if0 _ _).trans (feq hu).1) k) ?_
    refine Go.to (mkF m 9 #[.val (.ref b), .val (.int (4 : Int32)), .val (.int vb)] [(.ref b)]) (fun _ k => XS.aloadN X0.here hx rfl (hb hby d18_8) rfl rfl k) ?_
    refine Go.to (mkF m 10 #[.val (.ref b), .val (.int (4 : Int32)), .val (.int vb)] [(.int (4 : Int32)), (.ref b)]) (fun _ k => XS.iloadN X0.here hx rfl (hb hby d18_9) rfl  k) ?_
    refine Go.to (mkF m 11 #[.val (.ref b), .val (.int (4 : Int32)), .val (.int vb)] [(.ref b), (.int (4 : Int32)), (.ref b)]) (fun _ k => XS.aloadN X0.here hx rfl (hb hby d18_10) rfl rfl k) ?_
    refine Go.to (mkF m 12 #[.val (.ref b), .val (.int (4 : Int32)), .val (.int vb)] [(.int (4 : Int32)), (.ref b), (.int (4 : Int32)), (.ref b)]) (fun _ k => XS.iloadN X0.here hx rfl (hb hby d18_11) rfl  k) ?_
    obtain ⟨cl_1, Ar_1, -, Sz_1, Ng_1, Hh_1, -⟩ := id PA_b
    have hin_1 : ¬ ((4 : Int32) < 0 ∨ cl_1.slots.size ≤ ((4 : Int32)).toNatClampNeg) := inb_of Sz_1 ⟨by decide, by decide⟩
    refine Go.to (mkF m 13 #[.val (.ref b), .val (.int (4 : Int32)), .val (.int vb)] [(.int y4), (.int (4 : Int32)), (.ref b)]) (X0.caload hx (j := (4 : Int32)) (v := (.int y4)) (by rw [e0]; exact Ar_1.1) (State.isArrayOf_alike hZ.alike Ar_1.2.1) Ar_1.2.2 hin_1 (Hh_1.at hin_1 rfl) (g := (mkF m 12 #[.val (.ref b), .val (.int (4 : Int32)), .val (.int vb)] [(.int (4 : Int32)), (.ref b), (.int (4 : Int32)), (.ref b)])) rfl rfl (hb hby d18_12)) ?_
    refine Go.to (mkF m 15 #[.val (.ref b), .val (.int (4 : Int32)), .val (.int vb)] [(.int (32 : Int32)), (.int y4), (.int (4 : Int32)), (.ref b)]) (fun _ k => XS.bipush X0.here hx rfl (hb hby d18_13) k) ?_
    refine Go.to (mkF m 16 #[.val (.ref b), .val (.int (4 : Int32)), .val (.int vb)] [(.int (y4 - (32 : Int32))), (.int (4 : Int32)), (.ref b)]) (fun _ k => XS.isub X0.here hx rfl (hb hby d18_15) rfl k) ?_
    refine Go.to (mkF m 17 #[.val (.ref b), .val (.int (4 : Int32)), .val (.int vb)] [(.int ((y4 - (32 : Int32)).toUInt32.toUInt16.toUInt32.toInt32)), (.int (4 : Int32)), (.ref b)]) (fun _ k => XS.i2c X0.here hx rfl (hb hby d18_16) rfl k) ?_
    obtain ⟨cl_2, Ar_2, q_2, Sz_2, Ng_2, Hh_2, Gg_2⟩ := id PA_b
    have hin_2 : ¬ ((4 : Int32) < 0 ∨ cl_2.slots.size ≤ ((4 : Int32)).toNatClampNeg) := inb_of Sz_2 ⟨by decide, by decide⟩
    obtain ⟨T_2, h_2, X_2, e_2, W_2, st_2⟩ := stC X0 hx hZ e0 Ar_2 (j := (4 : Int32)) hin_2 (g := (mkF m 17 #[.val (.ref b), .val (.int (4 : Int32)), .val (.int vb)] [(.int ((y4 - (32 : Int32)).toUInt32.toUInt16.toUInt32.toInt32)), (.int (4 : Int32)), (.ref b)])) rfl rfl (hb hby d18_17)
    have N_2 := Fr.snoc X_2 N0 Pg_b
    have V_2 : Arv Z h_2 b kC .char (7 : Int32) [(.int y0), (.int y1), (.int y2), (.int y3), (.int (nar .char ((y4 - (32 : Int32)).toUInt32.toUInt16.toUInt32.toInt32))), (.int y5), (.int y6)] (.int (0 : Int32)) := Arv.set Ar_2 q_2 Sz_2 Ng_2 Hh_2 Gg_2 (fits_nar_char _) W_2 4 rfl (Nat.le_of_ble_eq_true rfl)
    refine Go.to (mkF m 18 #[.val (.ref b), .val (.int (4 : Int32)), .val (.int vb)] []) st_2 ?_
    refine Go.ret0 X_2 hx hret hlk (hb hby d18_18) (by decide) (by decide) ?_
    have f_3 : Keep h0 h_2 [b] := ((Keep.refl h0 [b]).wr W_2 (Or.inl (List.mem_of_getElem? (i := 0) rfl)))
    show (Q18_4 Z b kC y0 y1 y2 y3 y4 y5 y6 vb h0 n0) _ T_2.heap _
    rw [e_2]
    exact ⟨rfl, N_2, f_3, (by rw [own_upc_n hu]; exact V_2)⟩
def Q18_5 (Z : State) (b : Addr) (kC : ClassId) (y0 : Int32) (y1 : Int32) (y2 : Int32) (y3 : Int32) (y4 : Int32) (y5 : Int32) (y6 : Int32) (vb : Int32) (h0 : Heap) (n0 : Nat) (v : Option Value) (h : Heap) (L : List Loc) : Prop := v = none ∧ Fr n0 L ∧ Keep h0 h [b] ∧ Arv Z h b kC .char (7 : Int32) [(.int y0), (.int y1), (.int y2), (.int y3), (.int y4), (.int (own_upc (((vb.toUInt32 >>> ((5 : Int32) &&& 31).toUInt32).toInt32) &&& (1 : Int32)) y5)), (.int y6)] (.int (0 : Int32))
theorem ef_18_5 (m : MethodId) (b : Addr) (vb : Int32) : entryFrame m #[(.ref b), (.int (5 : Int32)), (.int vb)] 3 = mkF m 0 #[.val (.ref b), .val (.int (5 : Int32)), .val (.int vb)] [] := by first | (simp [entryFrame, mkF, argsToLocals, Value.category]; done) | (simp [entryFrame, mkF, argsToLocals, own_cat_i, own_cat_l, own_cat_r, own_cat_n]; done) | rfl
set_option maxRecDepth 65536 in
set_option maxHeartbeats 40000000 in
theorem rm18_5 (l : Launch) (Z : State) (a0 : Array Value) (hw : ∀ d ∈ tables_1, d.before a0 Z = true) (b : Addr) (kC : ClassId) (y0 : Int32) (y1 : Int32) (y2 : Int32) (y3 : Int32) (y4 : Int32) (y5 : Int32) (y6 : Int32) (vb : Int32) (h0 : Heap) (n0 : Nat) (Z0 : n0 ≤ h0.size) (PA_b : Arv Z h0 b kC .char (7 : Int32) [(.int y0), (.int y1), (.int y2), (.int y3), (.int y4), (.int y5), (.int y6)] (.int (0 : Int32))) (Pg_b : n0 ≤ b) :
    Met1 l Z (⟨"com/example/statementbound/statementbound/statements/internal/KindOfElementPinLaw", "up", "([CII)V"⟩ : MethodName) method_3_code 3 none ({ frames := 0, cells := 0, slots := 0, locals := 0 } : Room) #[(.ref b), (.int (5 : Int32)), (.int vb)] h0 (Q18_5 Z b kC y0 y1 y2 y3 y4 y5 y6 vb h0 n0) := by
  refine Met1.mk (plainFor_of_name (by first | (simp [plainName, overriddenIn]; done) | decide +kernel)) ?_
  intro p e s m below meth c s₁ hx hZ hby hml hown hnm hret hlk X0 e0
  have N0 := Fr.nil n0
  refine Go.cast (ef_18_5 m b vb) ?_
  show Go p e below (FinN s (Q18_5 Z b kC y0 y1 y2 y3 y4 y5 y6 vb h0 n0) ({ frames := 0, cells := 0, slots := 0, locals := 0 } : Room).cells ({ frames := 0, cells := 0, slots := 0, locals := 0 } : Room).slots) s₁ (mkF m 0 #[.val (.ref b), .val (.int (5 : Int32)), .val (.int vb)] [])
  refine Go.to (mkF m 1 #[.val (.ref b), .val (.int (5 : Int32)), .val (.int vb)] [(.int vb)]) (fun _ k => XS.iloadN X0.here hx rfl (hb hby d18_0) rfl  k) ?_
  refine Go.to (mkF m 2 #[.val (.ref b), .val (.int (5 : Int32)), .val (.int vb)] [(.int (5 : Int32)), (.int vb)]) (fun _ k => XS.iloadN X0.here hx rfl (hb hby d18_1) rfl  k) ?_
  refine Go.to (mkF m 3 #[.val (.ref b), .val (.int (5 : Int32)), .val (.int vb)] [(.int ((vb.toUInt32 >>> ((5 : Int32) &&& 31).toUInt32).toInt32))]) (fun _ k => XS.iushr X0.here hx rfl (hb hby d18_2) rfl k) ?_
  refine Go.to (mkF m 4 #[.val (.ref b), .val (.int (5 : Int32)), .val (.int vb)] [(.int (1 : Int32)), (.int ((vb.toUInt32 >>> ((5 : Int32) &&& 31).toUInt32).toInt32))]) (fun _ k => XS.iconst X0.here hx rfl (hb hby d18_3) k) ?_
  refine Go.to (mkF m 5 #[.val (.ref b), .val (.int (5 : Int32)), .val (.int vb)] [(.int (((vb.toUInt32 >>> ((5 : Int32) &&& 31).toUInt32).toInt32) &&& (1 : Int32)))]) (fun _ k => XS.iand X0.here hx rfl (hb hby d18_4) rfl k) ?_
  by_cases hu : (((vb.toUInt32 >>> ((5 : Int32) &&& 31).toUInt32).toInt32) &&& (1 : Int32)) = (0 : Int32)
  · refine Go.to (mkF m 18 #[.val (.ref b), .val (.int (5 : Int32)), .val (.int vb)] []) (fun _ k => XS.ifYes X0.here hx rfl (pc0 := 5) (pc' := 18) rfl (hb hby d18_5) rfl ((if0 _ _).trans (teq hu).1) (by decide) (by decide) k) ?_
    refine Go.ret0 X0 hx hret hlk (hb hby d18_18) (by decide) (by decide) ?_
    show (Q18_5 Z b kC y0 y1 y2 y3 y4 y5 y6 vb h0 n0) _ s₁.heap _
    rw [e0]
    exact ⟨rfl, N0, (Keep.refl h0 [b]), (by rw [own_upc_y hu]; exact PA_b)⟩
  · refine Go.to (mkF m 8 #[.val (.ref b), .val (.int (5 : Int32)), .val (.int vb)] []) (fun _ k => XS.ifNo X0.here hx rfl (hb hby d18_5) rfl ((if0 _ _).trans (feq hu).1) k) ?_
    refine Go.to (mkF m 9 #[.val (.ref b), .val (.int (5 : Int32)), .val (.int vb)] [(.ref b)]) (fun _ k => XS.aloadN X0.here hx rfl (hb hby d18_8) rfl rfl k) ?_
    refine Go.to (mkF m 10 #[.val (.ref b), .val (.int (5 : Int32)), .val (.int vb)] [(.int (5 : Int32)), (.ref b)]) (fun _ k => XS.iloadN X0.here hx rfl (hb hby d18_9) rfl  k) ?_
    refine Go.to (mkF m 11 #[.val (.ref b), .val (.int (5 : Int32)), .val (.int vb)] [(.ref b), (.int (5 : Int32)), (.ref b)]) (fun _ k => XS.aloadN X0.here hx rfl (hb hby d18_10) rfl rfl k) ?_
    refine Go.to (mkF m 12 #[.val (.ref b), .val (.int (5 : Int32)), .val (.int vb)] [(.int (5 : Int32)), (.ref b), (.int (5 : Int32)), (.ref b)]) (fun _ k => XS.iloadN X0.here hx rfl (hb hby d18_11) rfl  k) ?_
    obtain ⟨cl_1, Ar_1, -, Sz_1, Ng_1, Hh_1, -⟩ := id PA_b
    have hin_1 : ¬ ((5 : Int32) < 0 ∨ cl_1.slots.size ≤ ((5 : Int32)).toNatClampNeg) := inb_of Sz_1 ⟨by decide, by decide⟩
    refine Go.to (mkF m 13 #[.val (.ref b), .val (.int (5 : Int32)), .val (.int vb)] [(.int y5), (.int (5 : Int32)), (.ref b)]) (X0.caload hx (j := (5 : Int32)) (v := (.int y5)) (by rw [e0]; exact Ar_1.1) (State.isArrayOf_alike hZ.alike Ar_1.2.1) Ar_1.2.2 hin_1 (Hh_1.at hin_1 rfl) (g := (mkF m 12 #[.val (.ref b), .val (.int (5 : Int32)), .val (.int vb)] [(.int (5 : Int32)), (.ref b), (.int (5 : Int32)), (.ref b)])) rfl rfl (hb hby d18_12)) ?_
    refine Go.to (mkF m 15 #[.val (.ref b), .val (.int (5 : Int32)), .val (.int vb)] [(.int (32 : Int32)), (.int y5), (.int (5 : Int32)), (.ref b)]) (fun _ k => XS.bipush X0.here hx rfl (hb hby d18_13) k) ?_
    refine Go.to (mkF m 16 #[.val (.ref b), .val (.int (5 : Int32)), .val (.int vb)] [(.int (y5 - (32 : Int32))), (.int (5 : Int32)), (.ref b)]) (fun _ k => XS.isub X0.here hx rfl (hb hby d18_15) rfl k) ?_
    refine Go.to (mkF m 17 #[.val (.ref b), .val (.int (5 : Int32)), .val (.int vb)] [(.int ((y5 - (32 : Int32)).toUInt32.toUInt16.toUInt32.toInt32)), (.int (5 : Int32)), (.ref b)]) (fun _ k => XS.i2c X0.here hx rfl (hb hby d18_16) rfl k) ?_
    obtain ⟨cl_2, Ar_2, q_2, Sz_2, Ng_2, Hh_2, Gg_2⟩ := id PA_b
    have hin_2 : ¬ ((5 : Int32) < 0 ∨ cl_2.slots.size ≤ ((5 : Int32)).toNatClampNeg) := inb_of Sz_2 ⟨by decide, by decide⟩
    obtain ⟨T_2, h_2, X_2, e_2, W_2, st_2⟩ := stC X0 hx hZ e0 Ar_2 (j := (5 : Int32)) hin_2 (g := (mkF m 17 #[.val (.ref b), .val (.int (5 : Int32)), .val (.int vb)] [(.int ((y5 - (32 : Int32)).toUInt32.toUInt16.toUInt32.toInt32)), (.int (5 : Int32)), (.ref b)])) rfl rfl (hb hby d18_17)
    have N_2 := Fr.snoc X_2 N0 Pg_b
    have V_2 : Arv Z h_2 b kC .char (7 : Int32) [(.int y0), (.int y1), (.int y2), (.int y3), (.int y4), (.int (nar .char ((y5 - (32 : Int32)).toUInt32.toUInt16.toUInt32.toInt32))), (.int y6)] (.int (0 : Int32)) := Arv.set Ar_2 q_2 Sz_2 Ng_2 Hh_2 Gg_2 (fits_nar_char _) W_2 5 rfl (Nat.le_of_ble_eq_true rfl)
    refine Go.to (mkF m 18 #[.val (.ref b), .val (.int (5 : Int32)), .val (.int vb)] []) st_2 ?_
    refine Go.ret0 X_2 hx hret hlk (hb hby d18_18) (by decide) (by decide) ?_
    have f_3 : Keep h0 h_2 [b] := ((Keep.refl h0 [b]).wr W_2 (Or.inl (List.mem_of_getElem? (i := 0) rfl)))
    show (Q18_5 Z b kC y0 y1 y2 y3 y4 y5 y6 vb h0 n0) _ T_2.heap _
    rw [e_2]
    exact ⟨rfl, N_2, f_3, (by rw [own_upc_n hu]; exact V_2)⟩
def Q14 (Z : State) (av : Addr) (kv : ClassId) (v0 : Addr) (v1 : Addr) (v2 : Addr) (v3 : Addr) (h0 : Heap) (n0 : Nat) (v : Option Value) (h : Heap) (L : List Loc) : Prop := ∃ (b : Addr), v = some (.ref b) ∧ Fr n0 L ∧ Keep h0 h [] ∧ Exa Z h b "[Lcom/example/statementbound/statementbound/statements/internal/Statement$Kind;" ∧ Arv Z h b kv (.object "com/example/statementbound/statementbound/statements/internal/Statement$Kind") (4 : Int32) [(.ref v0), (.ref v1), (.ref v2), (.ref v3)] .null ∧ h0.size ≤ b
theorem ef_14 (m : MethodId)  : entryFrame m #[] 0 = mkF m 0 #[] [] := by first | (simp [entryFrame, mkF, argsToLocals, Value.category]; done) | (simp [entryFrame, mkF, argsToLocals, own_cat_i, own_cat_l, own_cat_r, own_cat_n]; done) | rfl
set_option maxRecDepth 65536 in
set_option maxHeartbeats 40000000 in
theorem rm14 (l : Launch) (Z : State) (a0 : Array Value) (hw : ∀ d ∈ tables_1, d.before a0 Z = true) (av : Addr) (kv : ClassId) (v0 : Addr) (v1 : Addr) (v2 : Addr) (v3 : Addr) (h0 : Heap) (n0 : Nat) (Z0 : n0 ≤ h0.size) (PS_com_example_statementbound_statementbound_statements_internal_Statement_Kind__VALUES : Sta Z h0 "com/example/statementbound/statementbound/statements/internal/Statement$Kind" "$VALUES" "[Lcom/example/statementbound/statementbound/statements/internal/Statement$Kind;" (.ref av)) (PE_av : Exa Z h0 av "[Lcom/example/statementbound/statementbound/statements/internal/Statement$Kind;") (PA_av : Arv Z h0 av kv (.object "com/example/statementbound/statementbound/statements/internal/Statement$Kind") (4 : Int32) [(.ref v0), (.ref v1), (.ref v2), (.ref v3)] .null) :
    Met1 l Z (⟨"com/example/statementbound/statementbound/statements/internal/Statement$Kind", "values", "()[Lcom/example/statementbound/statementbound/statements/internal/Statement$Kind;"⟩ : MethodName) prog_138_method_1_code 0 (some (.array (.object "com/example/statementbound/statementbound/statements/internal/Statement$Kind"))) ({ frames := 1, cells := 1, slots := 4, locals := 14 } : Room) #[] h0 (Q14 Z av kv v0 v1 v2 v3 h0 n0) := by
  refine Met1.mk (plainFor_of_name (by first | (simp [plainName, overriddenIn]; done) | decide +kernel)) ?_
  intro p e s m below meth c s₁ hx hZ hby hml hown hnm hret hlk X0 e0
  have N0 := Fr.nil n0
  refine Go.cast (ef_14 m ) ?_
  show Go p e below (FinN s (Q14 Z av kv v0 v1 v2 v3 h0 n0) ({ frames := 1, cells := 1, slots := 4, locals := 14 } : Room).cells ({ frames := 1, cells := 1, slots := 4, locals := 14 } : Room).slots) s₁ (mkF m 0 #[] [])
  obtain ⟨T_1, X_1, e_1, st_1⟩ := getS2 X0 hx hZ hown (host := "") (Or.inl (hw _ (List.mem_of_getElem? (i := 67) rfl))) Via.refl e0 PS_com_example_statementbound_statementbound_statements_internal_Statement_Kind__VALUES (g := (mkF m 0 #[] [])) rfl (hb hby d14_0)
  refine Go.to (mkF m 3 #[] [(.ref av)]) st_1 ?_
  obtain ⟨T_2, h_2, X_2, e_2, E_2, A_2, Ex_2, st_2⟩ := cloneH X_1 hx hZ hown (hw _ (List.mem_of_getElem? (i := 69) rfl)) (hw _ (List.mem_of_getElem? (i := 70) rfl)) (hw _ (List.mem_of_getElem? (i := 74) rfl)) (hw _ (List.mem_of_getElem? (i := 72) rfl)) (hw _ (List.mem_of_getElem? (i := 73) rfl)) (hw _ (List.mem_of_getElem? (i := 75) rfl)) e_1 (Arv.arh PA_av) PE_av (g := (mkF m 3 #[] [(.ref av)])) rfl (by rw [hml]; rfl) rfl (hb hby d14_3) (by decide) (W := 0) (by show 2 * 0 + _ ≤ _; exact Nat.le_of_eq rfl) (by decide) (cap := 4) (by decide) (by decide) (by decide)
  obtain ⟨b_2, g_2⟩ : ∃ z, z = h0.size := ⟨_, rfl⟩
  rw [← g_2] at A_2 Ex_2 st_2
  have g_b_2 : n0 ≤ b_2 := Nat.le_trans Z0 (Nat.le_of_eq g_2.symm)
  have sz_b_2 : h0.size ≤ b_2 := Nat.le_trans (Keep.refl h0 []).1 (Nat.le_of_eq g_2.symm)
  have ne_av_b_2 : av ≠ b_2 := Nat.ne_of_lt (Nat.lt_of_lt_of_le PE_av.lt (Nat.le_of_eq g_2.symm))
  have V_b_2 : Arv Z h_2 b_2 kv (.object "com/example/statementbound/statementbound/statements/internal/Statement$Kind") (4 : Int32) [(.ref v0), (.ref v1), (.ref v2), (.ref v3)] .null := A_2
  refine Go.to (mkF m 6 #[] [(.ref b_2)]) st_2 ?_
  obtain ⟨T_3, X_3, e_3, st_3⟩ := castY X_2 hx hZ hown (hw _ (List.mem_of_getElem? (i := 81) rfl)) e_2 (Ins.self Ex_2) (g := (mkF m 6 #[] [(.ref b_2)])) rfl rfl (hb hby d14_6)
  refine Go.to (mkF m 9 #[] [(.ref b_2)]) st_3 ?_
  refine Go.retA X_3 hx (t := (.array (.object "com/example/statementbound/statementbound/statements/internal/Statement$Kind"))) hret hlk rfl rfl (hb hby d14_9) (by decide) (by decide) ?_
  have f_4 : Keep h0 h_2 [] := ((Keep.refl h0 []).ext E_2)
  show (Q14 Z av kv v0 v1 v2 v3 h0 n0) _ T_3.heap _
  rw [e_3]
  exact ⟨b_2, rfl, N0, f_4, Ex_2, V_b_2, sz_b_2⟩
theorem own_pd2 : parseMethodDescriptor "()[Lcom/example/statementbound/statementbound/statements/internal/Statement$Kind;" = some ⟨[], some (.array (.object "com/example/statementbound/statementbound/statements/internal/Statement$Kind"))⟩ := by decide +kernel
theorem own_pd3 : parseMethodDescriptor "(Ljava/lang/Object;)Z" = some ⟨[(.object "java/lang/Object")], some .boolean⟩ := by decide +kernel
def Q13 (Z : State) (x : Addr) (t : Addr) (kb : ClassId) (N : Int32) (cs : List Int32) (z : Int32) (av : Addr) (kv : ClassId) (v0 : Addr) (v1 : Addr) (v2 : Addr) (v3 : Addr) (x0 : Addr) (t0 : Addr) (kt0 : ClassId) (x1 : Addr) (t1 : Addr) (kt1 : ClassId) (x2 : Addr) (t2 : Addr) (kt2 : ClassId) (x3 : Addr) (t3 : Addr) (kt3 : ClassId) (r : Value) (h0 : Heap) (n0 : Nat) (v : Option Value) (h : Heap) (L : List Loc) : Prop := v = some r ∧ Fr n0 L ∧ Keep h0 h []
theorem ef_13 (m : MethodId) (x : Addr) : entryFrame m #[(.ref x)] 5 = mkF m 0 #[.val (.ref x), .unset, .unset, .unset, .unset] [] := by first | (simp [entryFrame, mkF, argsToLocals, Value.category]; done) | (simp [entryFrame, mkF, argsToLocals, own_cat_i, own_cat_l, own_cat_r, own_cat_n]; done) | rfl
set_option maxRecDepth 65536 in
set_option maxHeartbeats 40000000 in
theorem rm13 (l : Launch) (Z : State) (a0 : Array Value) (hw : ∀ d ∈ tables_1, d.before a0 Z = true) (x : Addr) (t : Addr) (kb : ClassId) (N : Int32) (cs : List Int32) (z : Int32) (av : Addr) (kv : ClassId) (v0 : Addr) (v1 : Addr) (v2 : Addr) (v3 : Addr) (x0 : Addr) (t0 : Addr) (kt0 : ClassId) (x1 : Addr) (t1 : Addr) (kt1 : ClassId) (x2 : Addr) (t2 : Addr) (kt2 : ClassId) (x3 : Addr) (t3 : Addr) (kt3 : ClassId) (r : Value) (h0 : Heap) (n0 : Nat) (Z0 : n0 ≤ h0.size) (PE_x : Exa Z h0 x "java/lang/String") (PF_x_value : Fld Z h0 x "java/lang/String" "value" "[B" (.ref t)) (PF_x_coder : Fld Z h0 x "java/lang/String" "coder" "B" (.int (0 : Int32))) (PA_t : Arv Z h0 t kb .byte N (own_str cs) (.int (0 : Int32))) (PS_java_lang_String_COMPACT_STRINGS : Sta Z h0 "java/lang/String" "COMPACT_STRINGS" "Z" (.int z)) (PS_com_example_statementbound_statementbound_statements_internal_Statement_Kind__VALUES : Sta Z h0 "com/example/statementbound/statementbound/statements/internal/Statement$Kind" "$VALUES" "[Lcom/example/statementbound/statementbound/statements/internal/Statement$Kind;" (.ref av)) (PE_av : Exa Z h0 av "[Lcom/example/statementbound/statementbound/statements/internal/Statement$Kind;") (PA_av : Arv Z h0 av kv (.object "com/example/statementbound/statementbound/statements/internal/Statement$Kind") (4 : Int32) [(.ref v0), (.ref v1), (.ref v2), (.ref v3)] .null) (PF_v0_element : Fld Z h0 v0 "com/example/statementbound/statementbound/statements/internal/Statement$Kind" "element" "Ljava/lang/String;" (.ref x0)) (PE_x0 : Exa Z h0 x0 "java/lang/String") (PF_x0_value : Fld Z h0 x0 "java/lang/String" "value" "[B" (.ref t0)) (PF_x0_coder : Fld Z h0 x0 "java/lang/String" "coder" "B" (.int (0 : Int32))) (PA_t0 : Arv Z h0 t0 kt0 .byte (6 : Int32) (own_str own_t0) (.int (0 : Int32))) (PF_v1_element : Fld Z h0 v1 "com/example/statementbound/statementbound/statements/internal/Statement$Kind" "element" "Ljava/lang/String;" (.ref x1)) (PE_x1 : Exa Z h0 x1 "java/lang/String") (PF_x1_value : Fld Z h0 x1 "java/lang/String" "value" "[B" (.ref t1)) (PF_x1_coder : Fld Z h0 x1 "java/lang/String" "coder" "B" (.int (0 : Int32))) (PA_t1 : Arv Z h0 t1 kt1 .byte (6 : Int32) (own_str own_t1) (.int (0 : Int32))) (PF_v2_element : Fld Z h0 v2 "com/example/statementbound/statementbound/statements/internal/Statement$Kind" "element" "Ljava/lang/String;" (.ref x2)) (PE_x2 : Exa Z h0 x2 "java/lang/String") (PF_x2_value : Fld Z h0 x2 "java/lang/String" "value" "[B" (.ref t2)) (PF_x2_coder : Fld Z h0 x2 "java/lang/String" "coder" "B" (.int (0 : Int32))) (PA_t2 : Arv Z h0 t2 kt2 .byte (6 : Int32) (own_str own_t2) (.int (0 : Int32))) (PF_v3_element : Fld Z h0 v3 "com/example/statementbound/statementbound/statements/internal/Statement$Kind" "element" "Ljava/lang/String;" (.ref x3)) (PE_x3 : Exa Z h0 x3 "java/lang/String") (PF_x3_value : Fld Z h0 x3 "java/lang/String" "value" "[B" (.ref t3)) (PF_x3_coder : Fld Z h0 x3 "java/lang/String" "coder" "B" (.int (0 : Int32))) (PA_t3 : Arv Z h0 t3 kt3 .byte (6 : Int32) (own_str own_t3) (.int (0 : Int32))) (hz : ¬ z = 0) (hN : N = Int32.ofNat (cs).length) (hp : ∀ c ∈ cs, ¬ c < 0 ∧ ¬ (255 : Int32) < c) (l2 : (cs).length ≤ 4000) (hpk : own_pick cs v0 v1 v2 v3 = r) (hr : r.isRef = true) :
    Met1 l Z (⟨"com/example/statementbound/statementbound/statements/internal/Statement$Kind", "ofElement", "(Ljava/lang/String;)Lcom/example/statementbound/statementbound/statements/internal/Statement$Kind;"⟩ : MethodName) prog_138_method_4_code 5 (some (.object "com/example/statementbound/statementbound/statements/internal/Statement$Kind")) ({ frames := 2, cells := 1, slots := 4, locals := 40 } : Room) #[(.ref x)] h0 (Q13 Z x t kb N cs z av kv v0 v1 v2 v3 x0 t0 kt0 x1 t1 kt1 x2 t2 kt2 x3 t3 kt3 r h0 n0) := by
  refine Met1.mk (plainFor_of_name (by first | (simp [plainName, overriddenIn]; done) | decide +kernel)) ?_
  intro p e s m below meth c s₁ hx hZ hby hml hown hnm hret hlk X0 e0
  have N0 := Fr.nil n0
  refine Go.cast (ef_13 m x) ?_
  show Go p e below (FinN s (Q13 Z x t kb N cs z av kv v0 v1 v2 v3 x0 t0 kt0 x1 t1 kt1 x2 t2 kt2 x3 t3 kt3 r h0 n0) ({ frames := 2, cells := 1, slots := 4, locals := 40 } : Room).cells ({ frames := 2, cells := 1, slots := 4, locals := 40 } : Room).slots) s₁ (mkF m 0 #[.val (.ref x), .unset, .unset, .unset, .unset] [])
  refine Go.stat X0 hx hZ (y := (⟨"com/example/statementbound/statementbound/statements/internal/Statement$Kind", "values", "()[Lcom/example/statementbound/statementbound/statements/internal/Statement$Kind;"⟩ : MethodName)) hown (hw _ (List.mem_of_getElem? (i := 64) rfl)) (hw _ (List.mem_of_getElem? (i := 65) rfl)) (hw _ (List.mem_of_getElem? (i := 62) rfl)) (hw _ (List.mem_of_getElem? (i := 66) rfl)) (by decide) e0 (argsL := []) (rest := []) (Met1.back (W := 0) (rm14 l Z a0 hw av kv v0 v1 v2 v3 h0 n0 Z0 PS_com_example_statementbound_statementbound_statements_internal_Statement_Kind__VALUES PE_av PA_av) hZ (hw _ (List.mem_of_getElem? (i := 66) rfl)) (hw _ (List.mem_of_getElem? (i := 62) rfl)) (by decide) (by decide)) (pc := 0) (Ls := #[.val (.ref x), .unset, .unset, .unset, .unset]) (by rw [hml]; rfl) (lenOf own_pd2 rfl) rfl (Nat.le_refl _) (hb hby d13_0) (by decide) (by decide) ?_
  intro T_1 v_1 L_1 X_1 hQ_1
  obtain ⟨b_1, rfl, Nq_1, K_1, pf_1_0, pf_1_1, sz_b_1⟩ := hQ_1
  have N_1 := Fr.app N0 Nq_1
  show Go p e below (FinN s (Q13 Z x t kb N cs z av kv v0 v1 v2 v3 x0 t0 kt0 x1 t1 kt1 x2 t2 kt2 x3 t3 kt3 r h0 n0) ({ frames := 2, cells := 1, slots := 4, locals := 40 } : Room).cells ({ frames := 2, cells := 1, slots := 4, locals := 40 } : Room).slots) T_1 (mkF m 3 #[.val (.ref x), .unset, .unset, .unset, .unset] [(.ref b_1)])
  have g_b_1 : n0 ≤ b_1 := Nat.le_trans Z0 sz_b_1
  have ne_x_b_1 : x ≠ b_1 := Nat.ne_of_lt (Nat.lt_of_lt_of_le PE_x.lt sz_b_1)
  have ne_t_b_1 : t ≠ b_1 := Nat.ne_of_lt (Nat.lt_of_lt_of_le PA_t.lt sz_b_1)
  have ne_av_b_1 : av ≠ b_1 := Nat.ne_of_lt (Nat.lt_of_lt_of_le PE_av.lt sz_b_1)
  have ne_v0_b_1 : v0 ≠ b_1 := Nat.ne_of_lt (Nat.lt_of_lt_of_le PF_v0_element.lt sz_b_1)
  have ne_x0_b_1 : x0 ≠ b_1 := Nat.ne_of_lt (Nat.lt_of_lt_of_le PE_x0.lt sz_b_1)
  have ne_t0_b_1 : t0 ≠ b_1 := Nat.ne_of_lt (Nat.lt_of_lt_of_le PA_t0.lt sz_b_1)
  have ne_v1_b_1 : v1 ≠ b_1 := Nat.ne_of_lt (Nat.lt_of_lt_of_le PF_v1_element.lt sz_b_1)
  have ne_x1_b_1 : x1 ≠ b_1 := Nat.ne_of_lt (Nat.lt_of_lt_of_le PE_x1.lt sz_b_1)
  have ne_t1_b_1 : t1 ≠ b_1 := Nat.ne_of_lt (Nat.lt_of_lt_of_le PA_t1.lt sz_b_1)
  have ne_v2_b_1 : v2 ≠ b_1 := Nat.ne_of_lt (Nat.lt_of_lt_of_le PF_v2_element.lt sz_b_1)
  have ne_x2_b_1 : x2 ≠ b_1 := Nat.ne_of_lt (Nat.lt_of_lt_of_le PE_x2.lt sz_b_1)
  have ne_t2_b_1 : t2 ≠ b_1 := Nat.ne_of_lt (Nat.lt_of_lt_of_le PA_t2.lt sz_b_1)
  have ne_v3_b_1 : v3 ≠ b_1 := Nat.ne_of_lt (Nat.lt_of_lt_of_le PF_v3_element.lt sz_b_1)
  have ne_x3_b_1 : x3 ≠ b_1 := Nat.ne_of_lt (Nat.lt_of_lt_of_le PE_x3.lt sz_b_1)
  have ne_t3_b_1 : t3 ≠ b_1 := Nat.ne_of_lt (Nat.lt_of_lt_of_le PA_t3.lt sz_b_1)
  have sz_b_1 : h0.size ≤ b_1 := Nat.le_trans (Keep.refl h0 []).1 sz_b_1
  refine Go.to (mkF m 4 #[.val (.ref x), .val (.ref b_1), .unset, .unset, .unset] []) (fun _ k => XS.astoreN X_1.here hx rfl (hb hby d13_3) rfl rfl (l' := #[.val (.ref x), .val (.ref b_1), .unset, .unset, .unset]) rfl k) ?_
  refine Go.to (mkF m 5 #[.val (.ref x), .val (.ref b_1), .unset, .unset, .unset] [(.ref b_1)]) (fun _ k => XS.aloadN X_1.here hx rfl (hb hby d13_4) rfl rfl k) ?_
  obtain ⟨cl_2, Ar_2, -, Sz_2, Ng_2, -, -⟩ := id pf_1_1
  refine Go.to (mkF m 6 #[.val (.ref x), .val (.ref b_1), .unset, .unset, .unset] [(.int (4 : Int32))]) (fun _ k => by
    refine X_1.arraylength hx (by exact Ar_2.1) (State.isArrayOf_alike hZ.alike Ar_2.2.1) (g := (mkF m 5 #[.val (.ref x), .val (.ref b_1), .unset, .unset, .unset] [(.ref b_1)])) rfl rfl (hb hby d13_5) _ ?_
    rw [len_of Sz_2 Ng_2]
    exact k) ?_
  refine Go.to (mkF m 7 #[.val (.ref x), .val (.ref b_1), .val (.int (4 : Int32)), .unset, .unset] []) (fun _ k => XS.istoreN X_1.here hx rfl (hb hby d13_6) rfl (l' := #[.val (.ref x), .val (.ref b_1), .val (.int (4 : Int32)), .unset, .unset]) rfl k) ?_
  refine Go.to (mkF m 8 #[.val (.ref x), .val (.ref b_1), .val (.int (4 : Int32)), .unset, .unset] [(.int (0 : Int32))]) (fun _ k => XS.iconst X_1.here hx rfl (hb hby d13_7) k) ?_
  refine Go.to (mkF m 9 #[.val (.ref x), .val (.ref b_1), .val (.int (4 : Int32)), .val (.int (0 : Int32)), .unset] []) (fun _ k => XS.istoreN X_1.here hx rfl (hb hby d13_8) rfl (l' := #[.val (.ref x), .val (.ref b_1), .val (.int (4 : Int32)), .val (.int (0 : Int32)), .unset]) rfl k) ?_
  refine Go.to (mkF m 10 #[.val (.ref x), .val (.ref b_1), .val (.int (4 : Int32)), .val (.int (0 : Int32)), .unset] [(.int (0 : Int32))]) (fun _ k => XS.iloadN X_1.here hx rfl (hb hby d13_9) rfl  k) ?_
  refine Go.to (mkF m 11 #[.val (.ref x), .val (.ref b_1), .val (.int (4 : Int32)), .val (.int (0 : Int32)), .unset] [(.int (4 : Int32)), (.int (0 : Int32))]) (fun _ k => XS.iloadN X_1.here hx rfl (hb hby d13_10) rfl  k) ?_
  refine Go.to (mkF m 14 #[.val (.ref x), .val (.ref b_1), .val (.int (4 : Int32)), .val (.int (0 : Int32)), .unset] []) (fun _ k => XS.icmpNo X_1.here hx rfl (hb hby d13_11) rfl (tlt (by decide : (0 : Int32) < (4 : Int32))).2.1 k) ?_
  refine Go.to (mkF m 15 #[.val (.ref x), .val (.ref b_1), .val (.int (4 : Int32)), .val (.int (0 : Int32)), .unset] [(.ref b_1)]) (fun _ k => XS.aloadN X_1.here hx rfl (hb hby d13_14) rfl rfl k) ?_
  refine Go.to (mkF m 16 #[.val (.ref x), .val (.ref b_1), .val (.int (4 : Int32)), .val (.int (0 : Int32)), .unset] [(.int (0 : Int32)), (.ref b_1)]) (fun _ k => XS.iloadN X_1.here hx rfl (hb hby d13_15) rfl  k) ?_
  obtain ⟨cl_3, Ar_3, -, Sz_3, Ng_3, Hh_3, -⟩ := id pf_1_1
  have hin_3 : ¬ ((0 : Int32) < 0 ∨ cl_3.slots.size ≤ ((0 : Int32)).toNatClampNeg) := inb_of Sz_3 ⟨by decide, by decide⟩
  refine Go.to (mkF m 17 #[.val (.ref x), .val (.ref b_1), .val (.int (4 : Int32)), .val (.int (0 : Int32)), .unset] [(.ref v0)]) (X_1.aaload hx (j := (0 : Int32)) (v := (.ref v0)) (by exact Ar_3.1) (State.isArrayOf_alike hZ.alike Ar_3.2.1) rfl Ar_3.2.2 hin_3 (Hh_3.at hin_3 rfl) (g := (mkF m 16 #[.val (.ref x), .val (.ref b_1), .val (.int (4 : Int32)), .val (.int (0 : Int32)), .unset] [(.int (0 : Int32)), (.ref b_1)])) rfl rfl (hb hby d13_16)) ?_
  refine Go.to (mkF m 19 #[.val (.ref x), .val (.ref b_1), .val (.int (4 : Int32)), .val (.int (0 : Int32)), .val (.ref v0)] []) (fun _ k => XS.astore X_1.here hx rfl (hb hby d13_17) rfl rfl (l' := #[.val (.ref x), .val (.ref b_1), .val (.int (4 : Int32)), .val (.int (0 : Int32)), .val (.ref v0)]) rfl k) ?_
  refine Go.to (mkF m 21 #[.val (.ref x), .val (.ref b_1), .val (.int (4 : Int32)), .val (.int (0 : Int32)), .val (.ref v0)] [(.ref v0)]) (fun _ k => XS.aload X_1.here hx rfl (hb hby d13_19) rfl rfl k) ?_
  have f_4 : Fld Z T_1.heap v0 "com/example/statementbound/statementbound/statements/internal/Statement$Kind" "element" "Ljava/lang/String;" (.ref x0) := (PF_v0_element.keep K_1 nin0)
  obtain ⟨T_5, X_5, e_5, st_5⟩ := getF X_1 hx hZ hown (host := "") (Or.inl (hw _ (List.mem_of_getElem? (i := 83) rfl))) Via.refl rfl f_4 (g := (mkF m 21 #[.val (.ref x), .val (.ref b_1), .val (.int (4 : Int32)), .val (.int (0 : Int32)), .val (.ref v0)] [(.ref v0)])) rfl rfl (hb hby d13_21)
  refine Go.to (mkF m 24 #[.val (.ref x), .val (.ref b_1), .val (.int (4 : Int32)), .val (.int (0 : Int32)), .val (.ref v0)] [(.ref x0)]) st_5 ?_
  refine Go.to (mkF m 25 #[.val (.ref x), .val (.ref b_1), .val (.int (4 : Int32)), .val (.int (0 : Int32)), .val (.ref v0)] [(.ref x), (.ref x0)]) (fun _ k => XS.aloadN X_5.here hx rfl (hb hby d13_24) rfl rfl k) ?_
  have f_6 : Exa Z T_1.heap x0 "java/lang/String" := (PE_x0.keep K_1)
  have f_7 : Fld Z T_1.heap x0 "java/lang/String" "value" "[B" (.ref t0) := (PF_x0_value.keep K_1 nin0)
  have f_8 : Fld Z T_1.heap x0 "java/lang/String" "coder" "B" (.int (0 : Int32)) := (PF_x0_coder.keep K_1 nin0)
  have f_9 : Arv Z T_1.heap t0 kt0 .byte (6 : Int32) (own_str own_t0) (.int (0 : Int32)) := (PA_t0.keep K_1 nin0)
  have f_10 : Sta Z T_1.heap "java/lang/String" "COMPACT_STRINGS" "Z" (.int z) := (own_sta_keep PS_java_lang_String_COMPACT_STRINGS K_1 all0)
  have f_11 : Exa Z T_1.heap x "java/lang/String" := (PE_x.keep K_1)
  have f_12 : Fld Z T_1.heap x "java/lang/String" "value" "[B" (.ref t) := (PF_x_value.keep K_1 nin0)
  have f_13 : Fld Z T_1.heap x "java/lang/String" "coder" "B" (.int (0 : Int32)) := (PF_x_coder.keep K_1 nin0)
  have f_14 : Arv Z T_1.heap t kb .byte N (own_str cs) (.int (0 : Int32)) := (PA_t.keep K_1 nin0)
  have f_15 : n0 ≤ T_1.heap.size := (Nat.le_trans Z0 K_1.1)
  refine Go.virt X_5 hx hZ (y := (⟨"java/lang/String", "equals", "(Ljava/lang/Object;)Z"⟩ : MethodName)) (z := (⟨"java/lang/String", "equals", "(Ljava/lang/Object;)Z"⟩ : MethodName)) hown (hw _ (List.mem_of_getElem? (i := 85) rfl)) (hw _ (List.mem_of_getElem? (i := 86) rfl)) (notFace_of_selects (args := #[]) (mvT hZ (hw _ (List.mem_of_getElem? (i := 88) rfl)))) (hw _ (List.mem_of_getElem? (i := 88) rfl)) (hw _ (List.mem_of_getElem? (i := 87) rfl)) (by decide) e_5 (a := x0) f_6 (argsL := [(.ref x)]) (rest := []) (own_eqS (W := 0) (n0 := n0) hZ hw (hw _ (List.mem_of_getElem? (i := 2) rfl)) (cs := own_t0) f_6 f_7 f_8 f_9 f_10 hz (ds := cs) f_11 f_12 f_13 f_14 (by decide) own_p0 (by decide) hN hp l2 (by decide) (by decide)) (pc := 25) (Ls := #[.val (.ref x), .val (.ref b_1), .val (.int (4 : Int32)), .val (.int (0 : Int32)), .val (.ref v0)]) (by rw [hml]; rfl) (lenOf own_pd3 rfl) rfl (Nat.le_refl _) (hb hby d13_25) (by decide) (by decide) ?_
  intro T_16 v_16 L_16 X_16 hQ_16
  obtain ⟨rfl, Nq_16, hh_16⟩ := hQ_16
  have N_16 := Fr.app N_1 Nq_16
  show Go p e below (FinN s (Q13 Z x t kb N cs z av kv v0 v1 v2 v3 x0 t0 kt0 x1 t1 kt1 x2 t2 kt2 x3 t3 kt3 r h0 n0) ({ frames := 2, cells := 1, slots := 4, locals := 40 } : Room).cells ({ frames := 2, cells := 1, slots := 4, locals := 40 } : Room).slots) T_16 (mkF m 28 #[.val (.ref x), .val (.ref b_1), .val (.int (4 : Int32)), .val (.int (0 : Int32)), .val (.ref v0)] [(.int (own_eqI own_t0 cs))])
  by_cases hk0 : (own_eqI own_t0 cs) = (0 : Int32)
  · refine Go.to (mkF m 34 #[.val (.ref x), .val (.ref b_1), .val (.int (4 : Int32)), .val (.int (0 : Int32)), .val (.ref v0)] []) (fun _ k => XS.ifYes X_16.here hx rfl (pc0 := 28) (pc' := 34) rfl (hb hby d13_28) rfl ((if0 _ _).trans (teq hk0).1) (by decide) (by decide) k) ?_
    refine Go.to (mkF m 37 #[.val (.ref x), .val (.ref b_1), .val (.int (4 : Int32)), .val (.int (1 : Int32)), .val (.ref v0)] []) (fun _ k => XS.iinc X_16.here hx rfl (hb hby d13_34) rfl (l' := #[.val (.ref x), .val (.ref b_1), .val (.int (4 : Int32)), .val (.int (1 : Int32)), .val (.ref v0)]) rfl k) ?_
    refine Go.to (mkF m 9 #[.val (.ref x), .val (.ref b_1), .val (.int (4 : Int32)), .val (.int (1 : Int32)), .val (.ref v0)] []) (fun _ k => XS.goto X_16.here hx rfl (pc0 := 37) (pc' := 9) rfl (hb hby d13_37) (by decide) (by decide) k) ?_
    refine Go.to (mkF m 10 #[.val (.ref x), .val (.ref b_1), .val (.int (4 : Int32)), .val (.int (1 : Int32)), .val (.ref v0)] [(.int (1 : Int32))]) (fun _ k => XS.iloadN X_16.here hx rfl (hb hby d13_9) rfl  k) ?_
    refine Go.to (mkF m 11 #[.val (.ref x), .val (.ref b_1), .val (.int (4 : Int32)), .val (.int (1 : Int32)), .val (.ref v0)] [(.int (4 : Int32)), (.int (1 : Int32))]) (fun _ k => XS.iloadN X_16.here hx rfl (hb hby d13_10) rfl  k) ?_
    refine Go.to (mkF m 14 #[.val (.ref x), .val (.ref b_1), .val (.int (4 : Int32)), .val (.int (1 : Int32)), .val (.ref v0)] []) (fun _ k => XS.icmpNo X_16.here hx rfl (hb hby d13_11) rfl (tlt (by decide : (1 : Int32) < (4 : Int32))).2.1 k) ?_
    refine Go.to (mkF m 15 #[.val (.ref x), .val (.ref b_1), .val (.int (4 : Int32)), .val (.int (1 : Int32)), .val (.ref v0)] [(.ref b_1)]) (fun _ k => XS.aloadN X_16.here hx rfl (hb hby d13_14) rfl rfl k) ?_
    refine Go.to (mkF m 16 #[.val (.ref x), .val (.ref b_1), .val (.int (4 : Int32)), .val (.int (1 : Int32)), .val (.ref v0)] [(.int (1 : Int32)), (.ref b_1)]) (fun _ k => XS.iloadN X_16.here hx rfl (hb hby d13_15) rfl  k) ?_
    obtain ⟨cl_17, Ar_17, -, Sz_17, Ng_17, Hh_17, -⟩ := id pf_1_1
    have hin_17 : ¬ ((1 : Int32) < 0 ∨ cl_17.slots.size ≤ ((1 : Int32)).toNatClampNeg) := inb_of Sz_17 ⟨by decide, by decide⟩
    refine Go.to (mkF m 17 #[.val (.ref x), .val (.ref b_1), .val (.int (4 : Int32)), .val (.int (1 : Int32)), .val (.ref v0)] [(.ref v1)]) (X_16.aaload hx (j := (1 : Int32)) (v := (.ref v1)) (by rw [hh_16]; exact Ar_17.1) (State.isArrayOf_alike hZ.alike Ar_17.2.1) rfl Ar_17.2.2 hin_17 (Hh_17.at hin_17 rfl) (g := (mkF m 16 #[.val (.ref x), .val (.ref b_1), .val (.int (4 : Int32)), .val (.int (1 : Int32)), .val (.ref v0)] [(.int (1 : Int32)), (.ref b_1)])) rfl rfl (hb hby d13_16)) ?_
    refine Go.to (mkF m 19 #[.val (.ref x), .val (.ref b_1), .val (.int (4 : Int32)), .val (.int (1 : Int32)), .val (.ref v1)] []) (fun _ k => XS.astore X_16.here hx rfl (hb hby d13_17) rfl rfl (l' := #[.val (.ref x), .val (.ref b_1), .val (.int (4 : Int32)), .val (.int (1 : Int32)), .val (.ref v1)]) rfl k) ?_
    refine Go.to (mkF m 21 #[.val (.ref x), .val (.ref b_1), .val (.int (4 : Int32)), .val (.int (1 : Int32)), .val (.ref v1)] [(.ref v1)]) (fun _ k => XS.aload X_16.here hx rfl (hb hby d13_19) rfl rfl k) ?_
    have f_18 : Fld Z T_1.heap v1 "com/example/statementbound/statementbound/statements/internal/Statement$Kind" "element" "Ljava/lang/String;" (.ref x1) := (PF_v1_element.keep K_1 nin0)
    obtain ⟨T_19, X_19, e_19, st_19⟩ := getF X_16 hx hZ hown (host := "") (Or.inl (hw _ (List.mem_of_getElem? (i := 83) rfl))) Via.refl hh_16 f_18 (g := (mkF m 21 #[.val (.ref x), .val (.ref b_1), .val (.int (4 : Int32)), .val (.int (1 : Int32)), .val (.ref v1)] [(.ref v1)])) rfl rfl (hb hby d13_21)
    refine Go.to (mkF m 24 #[.val (.ref x), .val (.ref b_1), .val (.int (4 : Int32)), .val (.int (1 : Int32)), .val (.ref v1)] [(.ref x1)]) st_19 ?_
    refine Go.to (mkF m 25 #[.val (.ref x), .val (.ref b_1), .val (.int (4 : Int32)), .val (.int (1 : Int32)), .val (.ref v1)] [(.ref x), (.ref x1)]) (fun _ k => XS.aloadN X_19.here hx rfl (hb hby d13_24) rfl rfl k) ?_
    have f_20 : Exa Z T_1.heap x1 "java/lang/String" := (PE_x1.keep K_1)
    have f_21 : Fld Z T_1.heap x1 "java/lang/String" "value" "[B" (.ref t1) := (PF_x1_value.keep K_1 nin0)
    have f_22 : Fld Z T_1.heap x1 "java/lang/String" "coder" "B" (.int (0 : Int32)) := (PF_x1_coder.keep K_1 nin0)
    have f_23 : Arv Z T_1.heap t1 kt1 .byte (6 : Int32) (own_str own_t1) (.int (0 : Int32)) := (PA_t1.keep K_1 nin0)
    refine Go.virt X_19 hx hZ (y := (⟨"java/lang/String", "equals", "(Ljava/lang/Object;)Z"⟩ : MethodName)) (z := (⟨"java/lang/String", "equals", "(Ljava/lang/Object;)Z"⟩ : MethodName)) hown (hw _ (List.mem_of_getElem? (i := 85) rfl)) (hw _ (List.mem_of_getElem? (i := 86) rfl)) (notFace_of_selects (args := #[]) (mvT hZ (hw _ (List.mem_of_getElem? (i := 88) rfl)))) (hw _ (List.mem_of_getElem? (i := 88) rfl)) (hw _ (List.mem_of_getElem? (i := 87) rfl)) (by decide) e_19 (a := x1) f_20 (argsL := [(.ref x)]) (rest := []) (own_eqS (W := 0) (n0 := n0) hZ hw (hw _ (List.mem_of_getElem? (i := 2) rfl)) (cs := own_t1) f_20 f_21 f_22 f_23 f_10 hz (ds := cs) f_11 f_12 f_13 f_14 (by decide) own_p1 (by decide) hN hp l2 (by decide) (by decide)) (pc := 25) (Ls := #[.val (.ref x), .val (.ref b_1), .val (.int (4 : Int32)), .val (.int (1 : Int32)), .val (.ref v1)]) (by rw [hml]; rfl) (lenOf own_pd3 rfl) rfl (Nat.le_refl _) (hb hby d13_25) (by decide) (by decide) ?_
    intro T_24 v_24 L_24 X_24 hQ_24
    obtain ⟨rfl, Nq_24, hh_24⟩ := hQ_24
    have N_24 := Fr.app N_16 Nq_24
    show Go p e below (FinN s (Q13 Z x t kb N cs z av kv v0 v1 v2 v3 x0 t0 kt0 x1 t1 kt1 x2 t2 kt2 x3 t3 kt3 r h0 n0) ({ frames := 2, cells := 1, slots := 4, locals := 40 } : Room).cells ({ frames := 2, cells := 1, slots := 4, locals := 40 } : Room).slots) T_24 (mkF m 28 #[.val (.ref x), .val (.ref b_1), .val (.int (4 : Int32)), .val (.int (1 : Int32)), .val (.ref v1)] [(.int (own_eqI own_t1 cs))])
    by_cases hk1 : (own_eqI own_t1 cs) = (0 : Int32)
    · refine Go.to (mkF m 34 #[.val (.ref x), .val (.ref b_1), .val (.int (4 : Int32)), .val (.int (1 : Int32)), .val (.ref v1)] []) (fun _ k => XS.ifYes X_24.here hx rfl (pc0 := 28) (pc' := 34) rfl (hb hby d13_28) rfl ((if0 _ _).trans (teq hk1).1) (by decide) (by decide) k) ?_
      refine Go.to (mkF m 37 #[.val (.ref x), .val (.ref b_1), .val (.int (4 : Int32)), .val (.int (2 : Int32)), .val (.ref v1)] []) (fun _ k => XS.iinc X_24.here hx rfl (hb hby d13_34) rfl (l' := #[.val (.ref x), .val (.ref b_1), .val (.int (4 : Int32)), .val (.int (2 : Int32)), .val (.ref v1)]) rfl k) ?_
      refine Go.to (mkF m 9 #[.val (.ref x), .val (.ref b_1), .val (.int (4 : Int32)), .val (.int (2 : Int32)), .val (.ref v1)] []) (fun _ k => XS.goto X_24.here hx rfl (pc0 := 37) (pc' := 9) rfl (hb hby d13_37) (by decide) (by decide) k) ?_
      refine Go.to (mkF m 10 #[.val (.ref x), .val (.ref b_1), .val (.int (4 : Int32)), .val (.int (2 : Int32)), .val (.ref v1)] [(.int (2 : Int32))]) (fun _ k => XS.iloadN X_24.here hx rfl (hb hby d13_9) rfl  k) ?_
      refine Go.to (mkF m 11 #[.val (.ref x), .val (.ref b_1), .val (.int (4 : Int32)), .val (.int (2 : Int32)), .val (.ref v1)] [(.int (4 : Int32)), (.int (2 : Int32))]) (fun _ k => XS.iloadN X_24.here hx rfl (hb hby d13_10) rfl  k) ?_
      refine Go.to (mkF m 14 #[.val (.ref x), .val (.ref b_1), .val (.int (4 : Int32)), .val (.int (2 : Int32)), .val (.ref v1)] []) (fun _ k => XS.icmpNo X_24.here hx rfl (hb hby d13_11) rfl (tlt (by decide : (2 : Int32) < (4 : Int32))).2.1 k) ?_
      refine Go.to (mkF m 15 #[.val (.ref x), .val (.ref b_1), .val (.int (4 : Int32)), .val (.int (2 : Int32)), .val (.ref v1)] [(.ref b_1)]) (fun _ k => XS.aloadN X_24.here hx rfl (hb hby d13_14) rfl rfl k) ?_
      refine Go.to (mkF m 16 #[.val (.ref x), .val (.ref b_1), .val (.int (4 : Int32)), .val (.int (2 : Int32)), .val (.ref v1)] [(.int (2 : Int32)), (.ref b_1)]) (fun _ k => XS.iloadN X_24.here hx rfl (hb hby d13_15) rfl  k) ?_
      obtain ⟨cl_25, Ar_25, -, Sz_25, Ng_25, Hh_25, -⟩ := id pf_1_1
      have hin_25 : ¬ ((2 : Int32) < 0 ∨ cl_25.slots.size ≤ ((2 : Int32)).toNatClampNeg) := inb_of Sz_25 ⟨by decide, by decide⟩
      refine Go.to (mkF m 17 #[.val (.ref x), .val (.ref b_1), .val (.int (4 : Int32)), .val (.int (2 : Int32)), .val (.ref v1)] [(.ref v2)]) (X_24.aaload hx (j := (2 : Int32)) (v := (.ref v2)) (by rw [hh_24]; exact Ar_25.1) (State.isArrayOf_alike hZ.alike Ar_25.2.1) rfl Ar_25.2.2 hin_25 (Hh_25.at hin_25 rfl) (g := (mkF m 16 #[.val (.ref x), .val (.ref b_1), .val (.int (4 : Int32)), .val (.int (2 : Int32)), .val (.ref v1)] [(.int (2 : Int32)), (.ref b_1)])) rfl rfl (hb hby d13_16)) ?_
      refine Go.to (mkF m 19 #[.val (.ref x), .val (.ref b_1), .val (.int (4 : Int32)), .val (.int (2 : Int32)), .val (.ref v2)] []) (fun _ k => XS.astore X_24.here hx rfl (hb hby d13_17) rfl rfl (l' := #[.val (.ref x), .val (.ref b_1), .val (.int (4 : Int32)), .val (.int (2 : Int32)), .val (.ref v2)]) rfl k) ?_
      refine Go.to (mkF m 21 #[.val (.ref x), .val (.ref b_1), .val (.int (4 : Int32)), .val (.int (2 : Int32)), .val (.ref v2)] [(.ref v2)]) (fun _ k => XS.aload X_24.here hx rfl (hb hby d13_19) rfl rfl k) ?_
      have f_26 : Fld Z T_1.heap v2 "com/example/statementbound/statementbound/statements/internal/Statement$Kind" "element" "Ljava/lang/String;" (.ref x2) := (PF_v2_element.keep K_1 nin0)
      obtain ⟨T_27, X_27, e_27, st_27⟩ := getF X_24 hx hZ hown (host := "") (Or.inl (hw _ (List.mem_of_getElem? (i := 83) rfl))) Via.refl hh_24 f_26 (g := (mkF m 21 #[.val (.ref x), .val (.ref b_1), .val (.int (4 : Int32)), .val (.int (2 : Int32)), .val (.ref v2)] [(.ref v2)])) rfl rfl (hb hby d13_21)
      refine Go.to (mkF m 24 #[.val (.ref x), .val (.ref b_1), .val (.int (4 : Int32)), .val (.int (2 : Int32)), .val (.ref v2)] [(.ref x2)]) st_27 ?_
      refine Go.to (mkF m 25 #[.val (.ref x), .val (.ref b_1), .val (.int (4 : Int32)), .val (.int (2 : Int32)), .val (.ref v2)] [(.ref x), (.ref x2)]) (fun _ k => XS.aloadN X_27.here hx rfl (hb hby d13_24) rfl rfl k) ?_
      have f_28 : Exa Z T_1.heap x2 "java/lang/String" := (PE_x2.keep K_1)
      have f_29 : Fld Z T_1.heap x2 "java/lang/String" "value" "[B" (.ref t2) := (PF_x2_value.keep K_1 nin0)
      have f_30 : Fld Z T_1.heap x2 "java/lang/String" "coder" "B" (.int (0 : Int32)) := (PF_x2_coder.keep K_1 nin0)
      have f_31 : Arv Z T_1.heap t2 kt2 .byte (6 : Int32) (own_str own_t2) (.int (0 : Int32)) := (PA_t2.keep K_1 nin0)
      refine Go.virt X_27 hx hZ (y := (⟨"java/lang/String", "equals", "(Ljava/lang/Object;)Z"⟩ : MethodName)) (z := (⟨"java/lang/String", "equals", "(Ljava/lang/Object;)Z"⟩ : MethodName)) hown (hw _ (List.mem_of_getElem? (i := 85) rfl)) (hw _ (List.mem_of_getElem? (i := 86) rfl)) (notFace_of_selects (args := #[]) (mvT hZ (hw _ (List.mem_of_getElem? (i := 88) rfl)))) (hw _ (List.mem_of_getElem? (i := 88) rfl)) (hw _ (List.mem_of_getElem? (i := 87) rfl)) (by decide) e_27 (a := x2) f_28 (argsL := [(.ref x)]) (rest := []) (own_eqS (W := 0) (n0 := n0) hZ hw (hw _ (List.mem_of_getElem? (i := 2) rfl)) (cs := own_t2) f_28 f_29 f_30 f_31 f_10 hz (ds := cs) f_11 f_12 f_13 f_14 (by decide) own_p2 (by decide) hN hp l2 (by decide) (by decide)) (pc := 25) (Ls := #[.val (.ref x), .val (.ref b_1), .val (.int (4 : Int32)), .val (.int (2 : Int32)), .val (.ref v2)]) (by rw [hml]; rfl) (lenOf own_pd3 rfl) rfl (Nat.le_refl _) (hb hby d13_25) (by decide) (by decide) ?_
      intro T_32 v_32 L_32 X_32 hQ_32
      obtain ⟨rfl, Nq_32, hh_32⟩ := hQ_32
      have N_32 := Fr.app N_24 Nq_32
      show Go p e below (FinN s (Q13 Z x t kb N cs z av kv v0 v1 v2 v3 x0 t0 kt0 x1 t1 kt1 x2 t2 kt2 x3 t3 kt3 r h0 n0) ({ frames := 2, cells := 1, slots := 4, locals := 40 } : Room).cells ({ frames := 2, cells := 1, slots := 4, locals := 40 } : Room).slots) T_32 (mkF m 28 #[.val (.ref x), .val (.ref b_1), .val (.int (4 : Int32)), .val (.int (2 : Int32)), .val (.ref v2)] [(.int (own_eqI own_t2 cs))])
      by_cases hk2 : (own_eqI own_t2 cs) = (0 : Int32)
      · refine Go.to (mkF m 34 #[.val (.ref x), .val (.ref b_1), .val (.int (4 : Int32)), .val (.int (2 : Int32)), .val (.ref v2)] []) (fun _ k => XS.ifYes X_32.here hx rfl (pc0 := 28) (pc' := 34) rfl (hb hby d13_28) rfl ((if0 _ _).trans (teq hk2).1) (by decide) (by decide) k) ?_
        refine Go.to (mkF m 37 #[.val (.ref x), .val (.ref b_1), .val (.int (4 : Int32)), .val (.int (3 : Int32)), .val (.ref v2)] []) (fun _ k => XS.iinc X_32.here hx rfl (hb hby d13_34) rfl (l' := #[.val (.ref x), .val (.ref b_1), .val (.int (4 : Int32)), .val (.int (3 : Int32)), .val (.ref v2)]) rfl k) ?_
        refine Go.to (mkF m 9 #[.val (.ref x), .val (.ref b_1), .val (.int (4 : Int32)), .val (.int (3 : Int32)), .val (.ref v2)] []) (fun _ k => XS.goto X_32.here hx rfl (pc0 := 37) (pc' := 9) rfl (hb hby d13_37) (by decide) (by decide) k) ?_
        refine Go.to (mkF m 10 #[.val (.ref x), .val (.ref b_1), .val (.int (4 : Int32)), .val (.int (3 : Int32)), .val (.ref v2)] [(.int (3 : Int32))]) (fun _ k => XS.iloadN X_32.here hx rfl (hb hby d13_9) rfl  k) ?_
        refine Go.to (mkF m 11 #[.val (.ref x), .val (.ref b_1), .val (.int (4 : Int32)), .val (.int (3 : Int32)), .val (.ref v2)] [(.int (4 : Int32)), (.int (3 : Int32))]) (fun _ k => XS.iloadN X_32.here hx rfl (hb hby d13_10) rfl  k) ?_
        refine Go.to (mkF m 14 #[.val (.ref x), .val (.ref b_1), .val (.int (4 : Int32)), .val (.int (3 : Int32)), .val (.ref v2)] []) (fun _ k => XS.icmpNo X_32.here hx rfl (hb hby d13_11) rfl (tlt (by decide : (3 : Int32) < (4 : Int32))).2.1 k) ?_
        refine Go.to (mkF m 15 #[.val (.ref x), .val (.ref b_1), .val (.int (4 : Int32)), .val (.int (3 : Int32)), .val (.ref v2)] [(.ref b_1)]) (fun _ k => XS.aloadN X_32.here hx rfl (hb hby d13_14) rfl rfl k) ?_
        refine Go.to (mkF m 16 #[.val (.ref x), .val (.ref b_1), .val (.int (4 : Int32)), .val (.int (3 : Int32)), .val (.ref v2)] [(.int (3 : Int32)), (.ref b_1)]) (fun _ k => XS.iloadN X_32.here hx rfl (hb hby d13_15) rfl  k) ?_
        obtain ⟨cl_33, Ar_33, -, Sz_33, Ng_33, Hh_33, -⟩ := id pf_1_1
        have hin_33 : ¬ ((3 : Int32) < 0 ∨ cl_33.slots.size ≤ ((3 : Int32)).toNatClampNeg) := inb_of Sz_33 ⟨by decide, by decide⟩
        refine Go.to (mkF m 17 #[.val (.ref x), .val (.ref b_1), .val (.int (4 : Int32)), .val (.int (3 : Int32)), .val (.ref v2)] [(.ref v3)]) (X_32.aaload hx (j := (3 : Int32)) (v := (.ref v3)) (by rw [hh_32]; exact Ar_33.1) (State.isArrayOf_alike hZ.alike Ar_33.2.1) rfl Ar_33.2.2 hin_33 (Hh_33.at hin_33 rfl) (g := (mkF m 16 #[.val (.ref x), .val (.ref b_1), .val (.int (4 : Int32)), .val (.int (3 : Int32)), .val (.ref v2)] [(.int (3 : Int32)), (.ref b_1)])) rfl rfl (hb hby d13_16)) ?_
        refine Go.to (mkF m 19 #[.val (.ref x), .val (.ref b_1), .val (.int (4 : Int32)), .val (.int (3 : Int32)), .val (.ref v3)] []) (fun _ k => XS.astore X_32.here hx rfl (hb hby d13_17) rfl rfl (l' := #[.val (.ref x), .val (.ref b_1), .val (.int (4 : Int32)), .val (.int (3 : Int32)), .val (.ref v3)]) rfl k) ?_
        refine Go.to (mkF m 21 #[.val (.ref x), .val (.ref b_1), .val (.int (4 : Int32)), .val (.int (3 : Int32)), .val (.ref v3)] [(.ref v3)]) (fun _ k => XS.aload X_32.here hx rfl (hb hby d13_19) rfl rfl k) ?_
        have f_34 : Fld Z T_1.heap v3 "com/example/statementbound/statementbound/statements/internal/Statement$Kind" "element" "Ljava/lang/String;" (.ref x3) := (PF_v3_element.keep K_1 nin0)
        obtain ⟨T_35, X_35, e_35, st_35⟩ := getF X_32 hx hZ hown (host := "") (Or.inl (hw _ (List.mem_of_getElem? (i := 83) rfl))) Via.refl hh_32 f_34 (g := (mkF m 21 #[.val (.ref x), .val (.ref b_1), .val (.int (4 : Int32)), .val (.int (3 : Int32)), .val (.ref v3)] [(.ref v3)])) rfl rfl (hb hby d13_21)
        refine Go.to (mkF m 24 #[.val (.ref x), .val (.ref b_1), .val (.int (4 : Int32)), .val (.int (3 : Int32)), .val (.ref v3)] [(.ref x3)]) st_35 ?_
        refine Go.to (mkF m 25 #[.val (.ref x), .val (.ref b_1), .val (.int (4 : Int32)), .val (.int (3 : Int32)), .val (.ref v3)] [(.ref x), (.ref x3)]) (fun _ k => XS.aloadN X_35.here hx rfl (hb hby d13_24) rfl rfl k) ?_
        have f_36 : Exa Z T_1.heap x3 "java/lang/String" := (PE_x3.keep K_1)
        have f_37 : Fld Z T_1.heap x3 "java/lang/String" "value" "[B" (.ref t3) := (PF_x3_value.keep K_1 nin0)
        have f_38 : Fld Z T_1.heap x3 "java/lang/String" "coder" "B" (.int (0 : Int32)) := (PF_x3_coder.keep K_1 nin0)
        have f_39 : Arv Z T_1.heap t3 kt3 .byte (6 : Int32) (own_str own_t3) (.int (0 : Int32)) := (PA_t3.keep K_1 nin0)
        refine Go.virt X_35 hx hZ (y := (⟨"java/lang/String", "equals", "(Ljava/lang/Object;)Z"⟩ : MethodName)) (z := (⟨"java/lang/String", "equals", "(Ljava/lang/Object;)Z"⟩ : MethodName)) hown (hw _ (List.mem_of_getElem? (i := 85) rfl)) (hw _ (List.mem_of_getElem? (i := 86) rfl)) (notFace_of_selects (args := #[]) (mvT hZ (hw _ (List.mem_of_getElem? (i := 88) rfl)))) (hw _ (List.mem_of_getElem? (i := 88) rfl)) (hw _ (List.mem_of_getElem? (i := 87) rfl)) (by decide) e_35 (a := x3) f_36 (argsL := [(.ref x)]) (rest := []) (own_eqS (W := 0) (n0 := n0) hZ hw (hw _ (List.mem_of_getElem? (i := 2) rfl)) (cs := own_t3) f_36 f_37 f_38 f_39 f_10 hz (ds := cs) f_11 f_12 f_13 f_14 (by decide) own_p3 (by decide) hN hp l2 (by decide) (by decide)) (pc := 25) (Ls := #[.val (.ref x), .val (.ref b_1), .val (.int (4 : Int32)), .val (.int (3 : Int32)), .val (.ref v3)]) (by rw [hml]; rfl) (lenOf own_pd3 rfl) rfl (Nat.le_refl _) (hb hby d13_25) (by decide) (by decide) ?_
        intro T_40 v_40 L_40 X_40 hQ_40
        obtain ⟨rfl, Nq_40, hh_40⟩ := hQ_40
        have N_40 := Fr.app N_32 Nq_40
        show Go p e below (FinN s (Q13 Z x t kb N cs z av kv v0 v1 v2 v3 x0 t0 kt0 x1 t1 kt1 x2 t2 kt2 x3 t3 kt3 r h0 n0) ({ frames := 2, cells := 1, slots := 4, locals := 40 } : Room).cells ({ frames := 2, cells := 1, slots := 4, locals := 40 } : Room).slots) T_40 (mkF m 28 #[.val (.ref x), .val (.ref b_1), .val (.int (4 : Int32)), .val (.int (3 : Int32)), .val (.ref v3)] [(.int (own_eqI own_t3 cs))])
        by_cases hk3 : (own_eqI own_t3 cs) = (0 : Int32)
        · refine Go.to (mkF m 34 #[.val (.ref x), .val (.ref b_1), .val (.int (4 : Int32)), .val (.int (3 : Int32)), .val (.ref v3)] []) (fun _ k => XS.ifYes X_40.here hx rfl (pc0 := 28) (pc' := 34) rfl (hb hby d13_28) rfl ((if0 _ _).trans (teq hk3).1) (by decide) (by decide) k) ?_
          refine Go.to (mkF m 37 #[.val (.ref x), .val (.ref b_1), .val (.int (4 : Int32)), .val (.int (4 : Int32)), .val (.ref v3)] []) (fun _ k => XS.iinc X_40.here hx rfl (hb hby d13_34) rfl (l' := #[.val (.ref x), .val (.ref b_1), .val (.int (4 : Int32)), .val (.int (4 : Int32)), .val (.ref v3)]) rfl k) ?_
          refine Go.to (mkF m 9 #[.val (.ref x), .val (.ref b_1), .val (.int (4 : Int32)), .val (.int (4 : Int32)), .val (.ref v3)] []) (fun _ k => XS.goto X_40.here hx rfl (pc0 := 37) (pc' := 9) rfl (hb hby d13_37) (by decide) (by decide) k) ?_
          refine Go.to (mkF m 10 #[.val (.ref x), .val (.ref b_1), .val (.int (4 : Int32)), .val (.int (4 : Int32)), .val (.ref v3)] [(.int (4 : Int32))]) (fun _ k => XS.iloadN X_40.here hx rfl (hb hby d13_9) rfl  k) ?_
          refine Go.to (mkF m 11 #[.val (.ref x), .val (.ref b_1), .val (.int (4 : Int32)), .val (.int (4 : Int32)), .val (.ref v3)] [(.int (4 : Int32)), (.int (4 : Int32))]) (fun _ k => XS.iloadN X_40.here hx rfl (hb hby d13_10) rfl  k) ?_
          refine Go.to (mkF m 40 #[.val (.ref x), .val (.ref b_1), .val (.int (4 : Int32)), .val (.int (4 : Int32)), .val (.ref v3)] []) (fun _ k => XS.icmpYes X_40.here hx rfl (pc0 := 11) (pc' := 40) rfl (hb hby d13_11) rfl (flt (by decide : ¬ ((4 : Int32) < (4 : Int32)))).2.1 (by decide) (by decide) k) ?_
          refine Go.to (mkF m 41 #[.val (.ref x), .val (.ref b_1), .val (.int (4 : Int32)), .val (.int (4 : Int32)), .val (.ref v3)] [.null]) (fun _ k => XS.aconstNull X_40.here hx rfl (hb hby d13_40) k) ?_
          refine Go.retA X_40 hx (t := (.object "com/example/statementbound/statementbound/statements/internal/Statement$Kind")) hret hlk rfl rfl (hb hby d13_41) (by decide) (by decide) ?_
          have f_41 : Keep h0 T_1.heap [] := ((Keep.refl h0 []).trans K_1 all0)
          show (Q13 Z x t kb N cs z av kv v0 v1 v2 v3 x0 t0 kt0 x1 t1 kt1 x2 t2 kt2 x3 t3 kt3 r h0 n0) _ T_40.heap _
          rw [hh_40]
          exact ⟨(congrArg some ((own_pick_4 hk0 hk1 hk2 hk3).symm.trans hpk)), N_40, f_41⟩
        · refine Go.to (mkF m 31 #[.val (.ref x), .val (.ref b_1), .val (.int (4 : Int32)), .val (.int (3 : Int32)), .val (.ref v3)] []) (fun _ k => XS.ifNo X_40.here hx rfl (hb hby d13_28) rfl ((if0 _ _).trans (feq hk3).1) k) ?_
          refine Go.to (mkF m 33 #[.val (.ref x), .val (.ref b_1), .val (.int (4 : Int32)), .val (.int (3 : Int32)), .val (.ref v3)] [(.ref v3)]) (fun _ k => XS.aload X_40.here hx rfl (hb hby d13_31) rfl rfl k) ?_
          refine Go.retA X_40 hx (t := (.object "com/example/statementbound/statementbound/statements/internal/Statement$Kind")) hret hlk rfl rfl (hb hby d13_33) (by decide) (by decide) ?_
          have f_42 : Keep h0 T_1.heap [] := ((Keep.refl h0 []).trans K_1 all0)
          show (Q13 Z x t kb N cs z av kv v0 v1 v2 v3 x0 t0 kt0 x1 t1 kt1 x2 t2 kt2 x3 t3 kt3 r h0 n0) _ T_40.heap _
          rw [hh_40]
          exact ⟨(congrArg some ((own_pick_3 hk0 hk1 hk2 hk3).symm.trans hpk)), N_40, f_42⟩
      · refine Go.to (mkF m 31 #[.val (.ref x), .val (.ref b_1), .val (.int (4 : Int32)), .val (.int (2 : Int32)), .val (.ref v2)] []) (fun _ k => XS.ifNo X_32.here hx rfl (hb hby d13_28) rfl ((if0 _ _).trans (feq hk2).1) k) ?_
        refine Go.to (mkF m 33 #[.val (.ref x), .val (.ref b_1), .val (.int (4 : Int32)), .val (.int (2 : Int32)), .val (.ref v2)] [(.ref v2)]) (fun _ k => XS.aload X_32.here hx rfl (hb hby d13_31) rfl rfl k) ?_
        refine Go.retA X_32 hx (t := (.object "com/example/statementbound/statementbound/statements/internal/Statement$Kind")) hret hlk rfl rfl (hb hby d13_33) (by decide) (by decide) ?_
        have f_43 : Keep h0 T_1.heap [] := ((Keep.refl h0 []).trans K_1 all0)
        show (Q13 Z x t kb N cs z av kv v0 v1 v2 v3 x0 t0 kt0 x1 t1 kt1 x2 t2 kt2 x3 t3 kt3 r h0 n0) _ T_32.heap _
        rw [hh_32]
        exact ⟨(congrArg some ((own_pick_2 hk0 hk1 hk2).symm.trans hpk)), N_32, f_43⟩
    · refine Go.to (mkF m 31 #[.val (.ref x), .val (.ref b_1), .val (.int (4 : Int32)), .val (.int (1 : Int32)), .val (.ref v1)] []) (fun _ k => XS.ifNo X_24.here hx rfl (hb hby d13_28) rfl ((if0 _ _).trans (feq hk1).1) k) ?_
      refine Go.to (mkF m 33 #[.val (.ref x), .val (.ref b_1), .val (.int (4 : Int32)), .val (.int (1 : Int32)), .val (.ref v1)] [(.ref v1)]) (fun _ k => XS.aload X_24.here hx rfl (hb hby d13_31) rfl rfl k) ?_
      refine Go.retA X_24 hx (t := (.object "com/example/statementbound/statementbound/statements/internal/Statement$Kind")) hret hlk rfl rfl (hb hby d13_33) (by decide) (by decide) ?_
      have f_44 : Keep h0 T_1.heap [] := ((Keep.refl h0 []).trans K_1 all0)
      show (Q13 Z x t kb N cs z av kv v0 v1 v2 v3 x0 t0 kt0 x1 t1 kt1 x2 t2 kt2 x3 t3 kt3 r h0 n0) _ T_24.heap _
      rw [hh_24]
      exact ⟨(congrArg some ((own_pick_1 hk0 hk1).symm.trans hpk)), N_24, f_44⟩
  · refine Go.to (mkF m 31 #[.val (.ref x), .val (.ref b_1), .val (.int (4 : Int32)), .val (.int (0 : Int32)), .val (.ref v0)] []) (fun _ k => XS.ifNo X_16.here hx rfl (hb hby d13_28) rfl ((if0 _ _).trans (feq hk0).1) k) ?_
    refine Go.to (mkF m 33 #[.val (.ref x), .val (.ref b_1), .val (.int (4 : Int32)), .val (.int (0 : Int32)), .val (.ref v0)] [(.ref v0)]) (fun _ k => XS.aload X_16.here hx rfl (hb hby d13_31) rfl rfl k) ?_
    refine Go.retA X_16 hx (t := (.object "com/example/statementbound/statementbound/statements/internal/Statement$Kind")) hret hlk rfl rfl (hb hby d13_33) (by decide) (by decide) ?_
    have f_45 : Keep h0 T_1.heap [] := ((Keep.refl h0 []).trans K_1 all0)
    show (Q13 Z x t kb N cs z av kv v0 v1 v2 v3 x0 t0 kt0 x1 t1 kt1 x2 t2 kt2 x3 t3 kt3 r h0 n0) _ T_16.heap _
    rw [hh_16]
    exact ⟨(congrArg some ((own_pick_0 hk0).symm.trans hpk)), N_16, f_45⟩
def Q17 (Z : State) (x : Addr) (t : Addr) (kb : ClassId) (N : Int32) (cs : List Int32) (z : Int32) (a5 : Addr) (t5 : Addr) (kb5 : ClassId) (cs5 : List Int32) (v0 : Addr) (v1 : Addr) (v2 : Addr) (v3 : Addr) (r : Value) (h0 : Heap) (n0 : Nat) (v : Option Value) (h : Heap) (L : List Loc) (vm : Vm) : Prop := v = some r ∧ Fr n0 L ∧ Keep h0 h []
theorem ef_17 (m : MethodId) (x : Addr) : entryFrame m #[(.ref x)] 1 = mkF m 0 #[.val (.ref x)] [] := by first | (simp [entryFrame, mkF, argsToLocals, Value.category]; done) | (simp [entryFrame, mkF, argsToLocals, own_cat_i, own_cat_l, own_cat_r, own_cat_n]; done) | rfl
set_option maxRecDepth 65536 in
set_option maxHeartbeats 40000000 in
theorem rm17 (l : Launch) (Z : State) (a0 : Array Value) (hw : ∀ d ∈ tables_1, d.before a0 Z = true) (x : Addr) (t : Addr) (kb : ClassId) (N : Int32) (cs : List Int32) (z : Int32) (a5 : Addr) (t5 : Addr) (kb5 : ClassId) (cs5 : List Int32) (v0 : Addr) (v1 : Addr) (v2 : Addr) (v3 : Addr) (r : Value) (h0 : Heap) (n0 : Nat) (Z0 : n0 ≤ h0.size) (PE_x : Exa Z h0 x "java/lang/String") (PF_x_value : Fld Z h0 x "java/lang/String" "value" "[B" (.ref t)) (PF_x_coder : Fld Z h0 x "java/lang/String" "coder" "B" (.int (0 : Int32))) (PA_t : Arv Z h0 t kb .byte N (own_str cs) (.int (0 : Int32))) (PS_java_lang_String_COMPACT_STRINGS : Sta Z h0 "java/lang/String" "COMPACT_STRINGS" "Z" (.int z)) (PE_a5 : Exa Z h0 a5 "java/lang/String") (PF_a5_value : Fld Z h0 a5 "java/lang/String" "value" "[B" (.ref t5)) (PF_a5_coder : Fld Z h0 a5 "java/lang/String" "coder" "B" (.int (0 : Int32))) (PA_t5 : Arv Z h0 t5 kb5 .byte (6 : Int32) (own_str cs5) (.int (0 : Int32))) (PS_com_example_statementbound_statementbound_statements_internal_Statement_Kind_SELECT : Sta Z h0 "com/example/statementbound/statementbound/statements/internal/Statement$Kind" "SELECT" "Lcom/example/statementbound/statementbound/statements/internal/Statement$Kind;" (.ref v0)) (PS_com_example_statementbound_statementbound_statements_internal_Statement_Kind_INSERT : Sta Z h0 "com/example/statementbound/statementbound/statements/internal/Statement$Kind" "INSERT" "Lcom/example/statementbound/statementbound/statements/internal/Statement$Kind;" (.ref v1)) (PS_com_example_statementbound_statementbound_statements_internal_Statement_Kind_UPDATE : Sta Z h0 "com/example/statementbound/statementbound/statements/internal/Statement$Kind" "UPDATE" "Lcom/example/statementbound/statementbound/statements/internal/Statement$Kind;" (.ref v2)) (PS_com_example_statementbound_statementbound_statements_internal_Statement_Kind_DELETE : Sta Z h0 "com/example/statementbound/statementbound/statements/internal/Statement$Kind" "DELETE" "Lcom/example/statementbound/statementbound/statements/internal/Statement$Kind;" (.ref v3)) (hz : ¬ z = 0) (hN : N = Int32.ofNat (cs).length) (hp : ∀ c ∈ cs, ¬ c < 0 ∧ ¬ (255 : Int32) < c) (l2 : (cs).length ≤ 4000) (hpk : own_pick cs v0 v1 v2 v3 = r) (hr : r.isRef = true) (hEx : ∀ (b : Addr) (cl : Cell), Z.heap[b]? = some cl → h0[b]? = some cl) (hcw : Jvm.Lit.compactW.before a0 Z = true) (hn0 : n0 = h0.size) (hl0 : Jvm.Lit.constHeld Z "com/example/statementbound/statementbound/statements/internal/KindOfElementPinLaw" 7) (hl1 : Jvm.Lit.constHeld Z "com/example/statementbound/statementbound/statements/internal/KindOfElementPinLaw" 9) (hl2 : Jvm.Lit.constHeld Z "com/example/statementbound/statementbound/statements/internal/KindOfElementPinLaw" 11) (hl3 : Jvm.Lit.constHeld Z "com/example/statementbound/statementbound/statements/internal/KindOfElementPinLaw" 13) :
    MetW l Z (⟨"com/example/statementbound/statementbound/statements/internal/KindOfElementPinLaw", "expected", "(Ljava/lang/String;)Lcom/example/statementbound/statementbound/statements/internal/Statement$Kind;"⟩ : MethodName) method_5_code 1 (some (.object "com/example/statementbound/statementbound/statements/internal/Statement$Kind")) ({ frames := 2, cells := 8, slots := 112, locals := 40 } : Room) #[(.ref x)] h0 (fun vm => OwnV Z vm "com/example/statementbound/statementbound/statements/internal/KindOfElementPinLaw" a5 cs5 [] own_es0) (Q17 Z x t kb N cs z a5 t5 kb5 cs5 v0 v1 v2 v3 r h0 n0) := by
  refine MetW.mk (plainFor_of_name (by first | (simp [plainName, overriddenIn]; done) | decide +kernel)) ?_
  intro p e s m below meth c s₁ vm0 hx hZ hby hml hown hnm hret hlk X0 e0 hS hh hnamed hJ
  have N0 := Fr.nil n0
  refine Go.cast (ef_17 m x) ?_
  show Go p e below (FinW s (Q17 Z x t kb N cs z a5 t5 kb5 cs5 v0 v1 v2 v3 r h0 n0) ({ frames := 2, cells := 8, slots := 112, locals := 40 } : Room).cells ({ frames := 2, cells := 8, slots := 112, locals := 40 } : Room).slots) s₁ (mkF m 0 #[.val (.ref x)] [])
  have hV : OwnV Z vm0 "com/example/statementbound/statementbound/statements/internal/KindOfElementPinLaw" a5 cs5 [] own_es0 := hJ
  refine Go.to (mkF m 1 #[.val (.ref x)] [(.ref x)]) (fun _ k => XS.aloadN X0.here hx rfl (hb hby d17_0) rfl rfl k) ?_
  obtain ⟨a_1, vm_1, T_1, h_1, b_1, k_1, X_1, e_1, E_1, hS_1, hZ_1, hown_1, x1_1, x2_1, x3_1, x4_1, ov_1, st_1⟩ := own_ldcC (f := own_str) (cs := own_t0) (es := own_es1) (z := (6 : Int32)) X0 hx hZ hown (hw _ (List.mem_of_getElem? (i := 0) rfl)) (own_wS hw) e0 hS (Nat.zero_le _) (by rw [hh, ← hn0]; exact N0) (fun b cl q => by rw [hh]; exact hEx b cl q) hV (by decide) (by decide +kernel) hl0 hcw ⟨by decide +kernel, by decide +kernel⟩ (by decide) (by decide +kernel) PE_a5 PF_a5_coder PF_a5_value PA_t5 rfl (g := (mkF m 1 #[.val (.ref x)] [(.ref x)])) rfl (hb hby d17_1) (n := 24) (by decide) (by decide) (by decide) (by decide)
  refine Go.to (mkF m 3 #[.val (.ref x)] [(.ref a_1), (.ref x)]) st_1 ?_
  have f_2 : Exa Z h_1 x "java/lang/String" := (PE_x.ext E_1)
  have f_3 : Fld Z h_1 x "java/lang/String" "value" "[B" (.ref t) := (PF_x_value.ext E_1)
  have f_4 : Fld Z h_1 x "java/lang/String" "coder" "B" (.int (0 : Int32)) := (PF_x_coder.ext E_1)
  have f_5 : Arv Z h_1 t kb .byte N (own_str cs) (.int (0 : Int32)) := (PA_t.ext E_1)
  have f_6 : Sta Z h_1 "java/lang/String" "COMPACT_STRINGS" "Z" (.int z) := (PS_java_lang_String_COMPACT_STRINGS.ext E_1)
  have f_7 : n0 ≤ h_1.size := (Nat.le_trans Z0 E_1.1)
  refine Go.virt X_1 hx hZ_1 (y := (⟨"java/lang/String", "equals", "(Ljava/lang/Object;)Z"⟩ : MethodName)) (z := (⟨"java/lang/String", "equals", "(Ljava/lang/Object;)Z"⟩ : MethodName)) hown_1 (hw _ (List.mem_of_getElem? (i := 97) rfl)) (hw _ (List.mem_of_getElem? (i := 86) rfl)) (notFace_of_selects (args := #[]) (mvT hZ_1 (hw _ (List.mem_of_getElem? (i := 88) rfl)))) (hw _ (List.mem_of_getElem? (i := 88) rfl)) (hw _ (List.mem_of_getElem? (i := 87) rfl)) (by decide) e_1 (a := x) f_2 (argsL := [(.ref a_1)]) (rest := []) (own_eqS (W := 0) (n0 := n0) hZ_1 hw (hw _ (List.mem_of_getElem? (i := 2) rfl)) (cs := cs) f_2 f_3 f_4 f_5 f_6 hz (ds := own_t0) x1_1 x3_1 x2_1 x4_1 hN hp l2 (by decide) own_p0 (by decide) (by decide) (by decide)) (pc := 3) (Ls := #[.val (.ref x)]) (by rw [hml]; rfl) (lenOf own_pd3 rfl) rfl (Nat.le_refl _) (hb hby d17_3) (by decide) (by decide) ?_
  intro T_8 v_8 L_8 X_8 hQ_8
  obtain ⟨rfl, Nq_8, hh_8⟩ := hQ_8
  have N_8 := Fr.app N0 Nq_8
  show Go p e below (FinW s (Q17 Z x t kb N cs z a5 t5 kb5 cs5 v0 v1 v2 v3 r h0 n0) ({ frames := 2, cells := 8, slots := 112, locals := 40 } : Room).cells ({ frames := 2, cells := 8, slots := 112, locals := 40 } : Room).slots) T_8 (mkF m 6 #[.val (.ref x)] [(.int (own_eqI cs own_t0))])
  by_cases hc0 : (own_eqI cs own_t0) = (0 : Int32)
  · refine Go.to (mkF m 13 #[.val (.ref x)] []) (fun _ k => XS.ifYes X_8.here hx rfl (pc0 := 6) (pc' := 13) rfl (hb hby d17_6) rfl ((if0 _ _).trans (teq hc0).1) (by decide) (by decide) k) ?_
    have hk0 := (own_comm own_t0 cs).trans hc0
    refine Go.to (mkF m 14 #[.val (.ref x)] [(.ref x)]) (fun _ k => XS.aloadN X_8.here hx rfl (hb hby d17_13) rfl rfl k) ?_
    have f_10 : Exa Z h_1 a5 "java/lang/String" := (PE_a5.ext E_1)
    have f_11 : Fld Z h_1 a5 "java/lang/String" "coder" "B" (.int (0 : Int32)) := (PF_a5_coder.ext E_1)
    have f_12 : Fld Z h_1 a5 "java/lang/String" "value" "[B" (.ref t5) := (PF_a5_value.ext E_1)
    have f_13 : Arv Z h_1 t5 kb5 .byte (6 : Int32) (own_str cs5) (.int (0 : Int32)) := (PA_t5.ext E_1)
    obtain ⟨a_9, vm_9, T_9, h_9, b_9, k_9, X_9, e_9, E_9, hS_9, hZ_9, hown_9, x1_9, x2_9, x3_9, x4_9, ov_9, st_9⟩ := own_ldcC (f := own_str) (cs := own_t1) (es := own_es2) (z := (6 : Int32)) X_8 hx hZ_1 hown_1 (hw _ (List.mem_of_getElem? (i := 98) rfl)) (own_wS hw) hh_8 hS_1 (Nat.le_refl _) (by rw [hh, ← hn0]; exact N_8) (fun b cl q => by rw [hh]; exact hEx b cl q) ov_1 (by decide) (by decide +kernel) hl1 hcw ⟨by decide +kernel, by decide +kernel⟩ (by decide) (by decide +kernel) f_10 f_11 f_12 f_13 rfl (g := (mkF m 14 #[.val (.ref x)] [(.ref x)])) rfl (hb hby d17_14) (n := 24) (by decide) (by decide) (by decide) (by decide)
    refine Go.to (mkF m 16 #[.val (.ref x)] [(.ref a_9), (.ref x)]) st_9 ?_
    have f_14 : Exa Z h_9 x "java/lang/String" := (f_2.ext E_9)
    have f_15 : Fld Z h_9 x "java/lang/String" "value" "[B" (.ref t) := (f_3.ext E_9)
    have f_16 : Fld Z h_9 x "java/lang/String" "coder" "B" (.int (0 : Int32)) := (f_4.ext E_9)
    have f_17 : Arv Z h_9 t kb .byte N (own_str cs) (.int (0 : Int32)) := (f_5.ext E_9)
    have f_18 : Sta Z h_9 "java/lang/String" "COMPACT_STRINGS" "Z" (.int z) := (f_6.ext E_9)
    have f_19 : n0 ≤ h_9.size := (Nat.le_trans f_7 E_9.1)
    refine Go.virt X_9 hx hZ_9 (y := (⟨"java/lang/String", "equals", "(Ljava/lang/Object;)Z"⟩ : MethodName)) (z := (⟨"java/lang/String", "equals", "(Ljava/lang/Object;)Z"⟩ : MethodName)) hown_9 (hw _ (List.mem_of_getElem? (i := 97) rfl)) (hw _ (List.mem_of_getElem? (i := 86) rfl)) (notFace_of_selects (args := #[]) (mvT hZ_9 (hw _ (List.mem_of_getElem? (i := 88) rfl)))) (hw _ (List.mem_of_getElem? (i := 88) rfl)) (hw _ (List.mem_of_getElem? (i := 87) rfl)) (by decide) e_9 (a := x) f_14 (argsL := [(.ref a_9)]) (rest := []) (own_eqS (W := 0) (n0 := n0) hZ_9 hw (hw _ (List.mem_of_getElem? (i := 2) rfl)) (cs := cs) f_14 f_15 f_16 f_17 f_18 hz (ds := own_t1) x1_9 x3_9 x2_9 x4_9 hN hp l2 (by decide) own_p1 (by decide) (by decide) (by decide)) (pc := 16) (Ls := #[.val (.ref x)]) (by rw [hml]; rfl) (lenOf own_pd3 rfl) rfl (Nat.le_refl _) (hb hby d17_16) (by decide) (by decide) ?_
    intro T_20 v_20 L_20 X_20 hQ_20
    obtain ⟨rfl, Nq_20, hh_20⟩ := hQ_20
    have N_20 := Fr.app N_8 Nq_20
    show Go p e below (FinW s (Q17 Z x t kb N cs z a5 t5 kb5 cs5 v0 v1 v2 v3 r h0 n0) ({ frames := 2, cells := 8, slots := 112, locals := 40 } : Room).cells ({ frames := 2, cells := 8, slots := 112, locals := 40 } : Room).slots) T_20 (mkF m 19 #[.val (.ref x)] [(.int (own_eqI cs own_t1))])
    by_cases hc1 : (own_eqI cs own_t1) = (0 : Int32)
    · refine Go.to (mkF m 26 #[.val (.ref x)] []) (fun _ k => XS.ifYes X_20.here hx rfl (pc0 := 19) (pc' := 26) rfl (hb hby d17_19) rfl ((if0 _ _).trans (teq hc1).1) (by decide) (by decide) k) ?_
      have hk1 := (own_comm own_t1 cs).trans hc1
      refine Go.to (mkF m 27 #[.val (.ref x)] [(.ref x)]) (fun _ k => XS.aloadN X_20.here hx rfl (hb hby d17_26) rfl rfl k) ?_
      have f_22 : Exa Z h_9 a5 "java/lang/String" := (f_10.ext E_9)
      have f_23 : Fld Z h_9 a5 "java/lang/String" "coder" "B" (.int (0 : Int32)) := (f_11.ext E_9)
      have f_24 : Fld Z h_9 a5 "java/lang/String" "value" "[B" (.ref t5) := (f_12.ext E_9)
      have f_25 : Arv Z h_9 t5 kb5 .byte (6 : Int32) (own_str cs5) (.int (0 : Int32)) := (f_13.ext E_9)
      obtain ⟨a_21, vm_21, T_21, h_21, b_21, k_21, X_21, e_21, E_21, hS_21, hZ_21, hown_21, x1_21, x2_21, x3_21, x4_21, ov_21, st_21⟩ := own_ldcC (f := own_str) (cs := own_t2) (es := own_es3) (z := (6 : Int32)) X_20 hx hZ_9 hown_9 (hw _ (List.mem_of_getElem? (i := 99) rfl)) (own_wS hw) hh_20 hS_9 (Nat.le_refl _) (by rw [hh, ← hn0]; exact N_20) (fun b cl q => by rw [hh]; exact hEx b cl q) ov_9 (by decide) (by decide +kernel) hl2 hcw ⟨by decide +kernel, by decide +kernel⟩ (by decide) (by decide +kernel) f_22 f_23 f_24 f_25 rfl (g := (mkF m 27 #[.val (.ref x)] [(.ref x)])) rfl (hb hby d17_27) (n := 24) (by decide) (by decide) (by decide) (by decide)
      refine Go.to (mkF m 29 #[.val (.ref x)] [(.ref a_21), (.ref x)]) st_21 ?_
      have f_26 : Exa Z h_21 x "java/lang/String" := (f_14.ext E_21)
      have f_27 : Fld Z h_21 x "java/lang/String" "value" "[B" (.ref t) := (f_15.ext E_21)
      have f_28 : Fld Z h_21 x "java/lang/String" "coder" "B" (.int (0 : Int32)) := (f_16.ext E_21)
      have f_29 : Arv Z h_21 t kb .byte N (own_str cs) (.int (0 : Int32)) := (f_17.ext E_21)
      have f_30 : Sta Z h_21 "java/lang/String" "COMPACT_STRINGS" "Z" (.int z) := (f_18.ext E_21)
      have f_31 : n0 ≤ h_21.size := (Nat.le_trans f_19 E_21.1)
      refine Go.virt X_21 hx hZ_21 (y := (⟨"java/lang/String", "equals", "(Ljava/lang/Object;)Z"⟩ : MethodName)) (z := (⟨"java/lang/String", "equals", "(Ljava/lang/Object;)Z"⟩ : MethodName)) hown_21 (hw _ (List.mem_of_getElem? (i := 97) rfl)) (hw _ (List.mem_of_getElem? (i := 86) rfl)) (notFace_of_selects (args := #[]) (mvT hZ_21 (hw _ (List.mem_of_getElem? (i := 88) rfl)))) (hw _ (List.mem_of_getElem? (i := 88) rfl)) (hw _ (List.mem_of_getElem? (i := 87) rfl)) (by decide) e_21 (a := x) f_26 (argsL := [(.ref a_21)]) (rest := []) (own_eqS (W := 0) (n0 := n0) hZ_21 hw (hw _ (List.mem_of_getElem? (i := 2) rfl)) (cs := cs) f_26 f_27 f_28 f_29 f_30 hz (ds := own_t2) x1_21 x3_21 x2_21 x4_21 hN hp l2 (by decide) own_p2 (by decide) (by decide) (by decide)) (pc := 29) (Ls := #[.val (.ref x)]) (by rw [hml]; rfl) (lenOf own_pd3 rfl) rfl (Nat.le_refl _) (hb hby d17_29) (by decide) (by decide) ?_
      intro T_32 v_32 L_32 X_32 hQ_32
      obtain ⟨rfl, Nq_32, hh_32⟩ := hQ_32
      have N_32 := Fr.app N_20 Nq_32
      show Go p e below (FinW s (Q17 Z x t kb N cs z a5 t5 kb5 cs5 v0 v1 v2 v3 r h0 n0) ({ frames := 2, cells := 8, slots := 112, locals := 40 } : Room).cells ({ frames := 2, cells := 8, slots := 112, locals := 40 } : Room).slots) T_32 (mkF m 32 #[.val (.ref x)] [(.int (own_eqI cs own_t2))])
      by_cases hc2 : (own_eqI cs own_t2) = (0 : Int32)
      · refine Go.to (mkF m 39 #[.val (.ref x)] []) (fun _ k => XS.ifYes X_32.here hx rfl (pc0 := 32) (pc' := 39) rfl (hb hby d17_32) rfl ((if0 _ _).trans (teq hc2).1) (by decide) (by decide) k) ?_
        have hk2 := (own_comm own_t2 cs).trans hc2
        refine Go.to (mkF m 40 #[.val (.ref x)] [(.ref x)]) (fun _ k => XS.aloadN X_32.here hx rfl (hb hby d17_39) rfl rfl k) ?_
        have f_34 : Exa Z h_21 a5 "java/lang/String" := (f_22.ext E_21)
        have f_35 : Fld Z h_21 a5 "java/lang/String" "coder" "B" (.int (0 : Int32)) := (f_23.ext E_21)
        have f_36 : Fld Z h_21 a5 "java/lang/String" "value" "[B" (.ref t5) := (f_24.ext E_21)
        have f_37 : Arv Z h_21 t5 kb5 .byte (6 : Int32) (own_str cs5) (.int (0 : Int32)) := (f_25.ext E_21)
        obtain ⟨a_33, vm_33, T_33, h_33, b_33, k_33, X_33, e_33, E_33, hS_33, hZ_33, hown_33, x1_33, x2_33, x3_33, x4_33, ov_33, st_33⟩ := own_ldcC (f := own_str) (cs := own_t3) (es := own_es4) (z := (6 : Int32)) X_32 hx hZ_21 hown_21 (hw _ (List.mem_of_getElem? (i := 100) rfl)) (own_wS hw) hh_32 hS_21 (Nat.le_refl _) (by rw [hh, ← hn0]; exact N_32) (fun b cl q => by rw [hh]; exact hEx b cl q) ov_21 (by decide) (by decide +kernel) hl3 hcw ⟨by decide +kernel, by decide +kernel⟩ (by decide) (by decide +kernel) f_34 f_35 f_36 f_37 rfl (g := (mkF m 40 #[.val (.ref x)] [(.ref x)])) rfl (hb hby d17_40) (n := 24) (by decide) (by decide) (by decide) (by decide)
        refine Go.to (mkF m 42 #[.val (.ref x)] [(.ref a_33), (.ref x)]) st_33 ?_
        have f_38 : Exa Z h_33 x "java/lang/String" := (f_26.ext E_33)
        have f_39 : Fld Z h_33 x "java/lang/String" "value" "[B" (.ref t) := (f_27.ext E_33)
        have f_40 : Fld Z h_33 x "java/lang/String" "coder" "B" (.int (0 : Int32)) := (f_28.ext E_33)
        have f_41 : Arv Z h_33 t kb .byte N (own_str cs) (.int (0 : Int32)) := (f_29.ext E_33)
        have f_42 : Sta Z h_33 "java/lang/String" "COMPACT_STRINGS" "Z" (.int z) := (f_30.ext E_33)
        have f_43 : n0 ≤ h_33.size := (Nat.le_trans f_31 E_33.1)
        refine Go.virt X_33 hx hZ_33 (y := (⟨"java/lang/String", "equals", "(Ljava/lang/Object;)Z"⟩ : MethodName)) (z := (⟨"java/lang/String", "equals", "(Ljava/lang/Object;)Z"⟩ : MethodName)) hown_33 (hw _ (List.mem_of_getElem? (i := 97) rfl)) (hw _ (List.mem_of_getElem? (i := 86) rfl)) (notFace_of_selects (args := #[]) (mvT hZ_33 (hw _ (List.mem_of_getElem? (i := 88) rfl)))) (hw _ (List.mem_of_getElem? (i := 88) rfl)) (hw _ (List.mem_of_getElem? (i := 87) rfl)) (by decide) e_33 (a := x) f_38 (argsL := [(.ref a_33)]) (rest := []) (own_eqS (W := 0) (n0 := n0) hZ_33 hw (hw _ (List.mem_of_getElem? (i := 2) rfl)) (cs := cs) f_38 f_39 f_40 f_41 f_42 hz (ds := own_t3) x1_33 x3_33 x2_33 x4_33 hN hp l2 (by decide) own_p3 (by decide) (by decide) (by decide)) (pc := 42) (Ls := #[.val (.ref x)]) (by rw [hml]; rfl) (lenOf own_pd3 rfl) rfl (Nat.le_refl _) (hb hby d17_42) (by decide) (by decide) ?_
        intro T_44 v_44 L_44 X_44 hQ_44
        obtain ⟨rfl, Nq_44, hh_44⟩ := hQ_44
        have N_44 := Fr.app N_32 Nq_44
        show Go p e below (FinW s (Q17 Z x t kb N cs z a5 t5 kb5 cs5 v0 v1 v2 v3 r h0 n0) ({ frames := 2, cells := 8, slots := 112, locals := 40 } : Room).cells ({ frames := 2, cells := 8, slots := 112, locals := 40 } : Room).slots) T_44 (mkF m 45 #[.val (.ref x)] [(.int (own_eqI cs own_t3))])
        by_cases hc3 : (own_eqI cs own_t3) = (0 : Int32)
        · refine Go.to (mkF m 52 #[.val (.ref x)] []) (fun _ k => XS.ifYes X_44.here hx rfl (pc0 := 45) (pc' := 52) rfl (hb hby d17_45) rfl ((if0 _ _).trans (teq hc3).1) (by decide) (by decide) k) ?_
          have hk3 := (own_comm own_t3 cs).trans hc3
          refine Go.to (mkF m 53 #[.val (.ref x)] [.null]) (fun _ k => XS.aconstNull X_44.here hx rfl (hb hby d17_52) k) ?_
          refine Go.retAW X_44 hx (t := (.object "com/example/statementbound/statementbound/statements/internal/Statement$Kind")) hret hlk rfl rfl (hb hby d17_53) (by decide) (by decide) hS_33 (by rw [hh_44]; exact (Nat.le_refl _)) ?_
          have f_45 : Keep h0 h_33 [] := (((((Keep.refl h0 []).ext E_1).ext E_9).ext E_21).ext E_33)
          show (Q17 Z x t kb N cs z a5 t5 kb5 cs5 v0 v1 v2 v3 r h0 n0) _ T_44.heap _ _
          rw [hh_44]
          exact ⟨(congrArg some ((own_pick_4 hk0 hk1 hk2 hk3).symm.trans hpk)), N_44, f_45⟩
        · refine Go.to (mkF m 48 #[.val (.ref x)] []) (fun _ k => XS.ifNo X_44.here hx rfl (hb hby d17_45) rfl ((if0 _ _).trans (feq hc3).1) k) ?_
          have hk3 : ¬ own_eqI own_t3 cs = 0 := fun q => hc3 ((own_comm cs own_t3).trans q)
          have f_46 : Sta Z h_33 "com/example/statementbound/statementbound/statements/internal/Statement$Kind" "DELETE" "Lcom/example/statementbound/statementbound/statements/internal/Statement$Kind;" (.ref v3) := ((((PS_com_example_statementbound_statementbound_statements_internal_Statement_Kind_DELETE.ext E_1).ext E_9).ext E_21).ext E_33)
          obtain ⟨T_47, X_47, e_47, st_47⟩ := getS2 X_44 hx hZ_33 hown_33 (host := "") (Or.inl (hw _ (List.mem_of_getElem? (i := 107) rfl))) Via.refl hh_44 f_46 (g := (mkF m 48 #[.val (.ref x)] [])) rfl (hb hby d17_48)
          refine Go.to (mkF m 51 #[.val (.ref x)] [(.ref v3)]) st_47 ?_
          refine Go.retAW X_47 hx (t := (.object "com/example/statementbound/statementbound/statements/internal/Statement$Kind")) hret hlk rfl rfl (hb hby d17_51) (by decide) (by decide) hS_33 (by rw [e_47]; exact (Nat.le_refl _)) ?_
          have f_48 : Keep h0 h_33 [] := (((((Keep.refl h0 []).ext E_1).ext E_9).ext E_21).ext E_33)
          show (Q17 Z x t kb N cs z a5 t5 kb5 cs5 v0 v1 v2 v3 r h0 n0) _ T_47.heap _ _
          rw [e_47]
          exact ⟨(congrArg some ((own_pick_3 hk0 hk1 hk2 hk3).symm.trans hpk)), N_44, f_48⟩
      · refine Go.to (mkF m 35 #[.val (.ref x)] []) (fun _ k => XS.ifNo X_32.here hx rfl (hb hby d17_32) rfl ((if0 _ _).trans (feq hc2).1) k) ?_
        have hk2 : ¬ own_eqI own_t2 cs = 0 := fun q => hc2 ((own_comm cs own_t2).trans q)
        have f_49 : Sta Z h_21 "com/example/statementbound/statementbound/statements/internal/Statement$Kind" "UPDATE" "Lcom/example/statementbound/statementbound/statements/internal/Statement$Kind;" (.ref v2) := (((PS_com_example_statementbound_statementbound_statements_internal_Statement_Kind_UPDATE.ext E_1).ext E_9).ext E_21)
        obtain ⟨T_50, X_50, e_50, st_50⟩ := getS2 X_32 hx hZ_21 hown_21 (host := "") (Or.inl (hw _ (List.mem_of_getElem? (i := 108) rfl))) Via.refl hh_32 f_49 (g := (mkF m 35 #[.val (.ref x)] [])) rfl (hb hby d17_35)
        refine Go.to (mkF m 38 #[.val (.ref x)] [(.ref v2)]) st_50 ?_
        refine Go.retAW X_50 hx (t := (.object "com/example/statementbound/statementbound/statements/internal/Statement$Kind")) hret hlk rfl rfl (hb hby d17_38) (by decide) (by decide) hS_21 (by rw [e_50]; exact (Nat.le_refl _)) ?_
        have f_51 : Keep h0 h_21 [] := ((((Keep.refl h0 []).ext E_1).ext E_9).ext E_21)
        show (Q17 Z x t kb N cs z a5 t5 kb5 cs5 v0 v1 v2 v3 r h0 n0) _ T_50.heap _ _
        rw [e_50]
        exact ⟨(congrArg some ((own_pick_2 hk0 hk1 hk2).symm.trans hpk)), N_32, f_51⟩
    · refine Go.to (mkF m 22 #[.val (.ref x)] []) (fun _ k => XS.ifNo X_20.here hx rfl (hb hby d17_19) rfl ((if0 _ _).trans (feq hc1).1) k) ?_
      have hk1 : ¬ own_eqI own_t1 cs = 0 := fun q => hc1 ((own_comm cs own_t1).trans q)
      have f_52 : Sta Z h_9 "com/example/statementbound/statementbound/statements/internal/Statement$Kind" "INSERT" "Lcom/example/statementbound/statementbound/statements/internal/Statement$Kind;" (.ref v1) := ((PS_com_example_statementbound_statementbound_statements_internal_Statement_Kind_INSERT.ext E_1).ext E_9)
      obtain ⟨T_53, X_53, e_53, st_53⟩ := getS2 X_20 hx hZ_9 hown_9 (host := "") (Or.inl (hw _ (List.mem_of_getElem? (i := 104) rfl))) Via.refl hh_20 f_52 (g := (mkF m 22 #[.val (.ref x)] [])) rfl (hb hby d17_22)
      refine Go.to (mkF m 25 #[.val (.ref x)] [(.ref v1)]) st_53 ?_
      refine Go.retAW X_53 hx (t := (.object "com/example/statementbound/statementbound/statements/internal/Statement$Kind")) hret hlk rfl rfl (hb hby d17_25) (by decide) (by decide) hS_9 (by rw [e_53]; exact (Nat.le_refl _)) ?_
      have f_54 : Keep h0 h_9 [] := (((Keep.refl h0 []).ext E_1).ext E_9)
      show (Q17 Z x t kb N cs z a5 t5 kb5 cs5 v0 v1 v2 v3 r h0 n0) _ T_53.heap _ _
      rw [e_53]
      exact ⟨(congrArg some ((own_pick_1 hk0 hk1).symm.trans hpk)), N_20, f_54⟩
  · refine Go.to (mkF m 9 #[.val (.ref x)] []) (fun _ k => XS.ifNo X_8.here hx rfl (hb hby d17_6) rfl ((if0 _ _).trans (feq hc0).1) k) ?_
    have hk0 : ¬ own_eqI own_t0 cs = 0 := fun q => hc0 ((own_comm cs own_t0).trans q)
    have f_55 : Sta Z h_1 "com/example/statementbound/statementbound/statements/internal/Statement$Kind" "SELECT" "Lcom/example/statementbound/statementbound/statements/internal/Statement$Kind;" (.ref v0) := (PS_com_example_statementbound_statementbound_statements_internal_Statement_Kind_SELECT.ext E_1)
    obtain ⟨T_56, X_56, e_56, st_56⟩ := getS2 X_8 hx hZ_1 hown_1 (host := "") (Or.inl (hw _ (List.mem_of_getElem? (i := 105) rfl))) Via.refl hh_8 f_55 (g := (mkF m 9 #[.val (.ref x)] [])) rfl (hb hby d17_9)
    refine Go.to (mkF m 12 #[.val (.ref x)] [(.ref v0)]) st_56 ?_
    refine Go.retAW X_56 hx (t := (.object "com/example/statementbound/statementbound/statements/internal/Statement$Kind")) hret hlk rfl rfl (hb hby d17_12) (by decide) (by decide) hS_1 (by rw [e_56]; exact (Nat.le_refl _)) ?_
    have f_57 : Keep h0 h_1 [] := ((Keep.refl h0 []).ext E_1)
    show (Q17 Z x t kb N cs z a5 t5 kb5 cs5 v0 v1 v2 v3 r h0 n0) _ T_56.heap _ _
    rw [e_56]
    exact ⟨(congrArg some ((own_pick_0 hk0).symm.trans hpk)), N_8, f_57⟩
theorem own_pd4 : parseMethodDescriptor "([CI)Ljava/lang/String;" = some ⟨[(.array .char), .int], some (.object "java/lang/String")⟩ := by decide +kernel
theorem own_pd5 : parseMethodDescriptor "(Ljava/lang/String;)Lcom/example/statementbound/statementbound/statements/internal/Statement$Kind;" = some ⟨[(.object "java/lang/String")], some (.object "com/example/statementbound/statementbound/statements/internal/Statement$Kind")⟩ := by decide +kernel
def Q0 (Z : State) (p1 : Int32) (p2 : Int32) (p3 : Int32) (p4 : Int32) (av : Addr) (kv : ClassId) (v0 : Addr) (v1 : Addr) (v2 : Addr) (v3 : Addr) (x0 : Addr) (t0 : Addr) (kt0 : ClassId) (x1 : Addr) (t1 : Addr) (kt1 : ClassId) (x2 : Addr) (t2 : Addr) (kt2 : ClassId) (x3 : Addr) (t3 : Addr) (kt3 : ClassId) (z : Int32) (fm : Value) (h0 : Heap) (n0 : Nat) (v : Option Value) (h : Heap) (L : List Loc) (vm : Vm) : Prop := v = some (.int (1 : Int32)) ∧ Fr n0 L ∧ Keep h0 h []
set_option maxRecDepth 65536 in
set_option maxHeartbeats 40000000 in
theorem own_s322 (l : Launch) (Z : State) (a0 : Array Value) (hw : ∀ d ∈ tables_1, d.before a0 Z = true) (p1 : Int32) (p2 : Int32) (p3 : Int32) (p4 : Int32) (av : Addr) (kv : ClassId) (v0 : Addr) (v1 : Addr) (v2 : Addr) (v3 : Addr) (x0 : Addr) (t0 : Addr) (kt0 : ClassId) (x1 : Addr) (t1 : Addr) (kt1 : ClassId) (x2 : Addr) (t2 : Addr) (kt2 : ClassId) (x3 : Addr) (t3 : Addr) (kt3 : ClassId) (z : Int32) (fm : Value) (a5 : Addr) (t5 : Addr) (kb5 : ClassId) (cs5 : List Int32) (b : Addr) (kC : ClassId) (y0 : Int32) (y1 : Int32) (y2 : Int32) (y3 : Int32) (y4 : Int32) (y5 : Int32) (y6 : Int32) (len : Int32) (sl9 : Slot) (hq : Heap) (p : Program) (e : Env) (s : State) (m : MethodId) (below : List Frame) (meth : Method) (c : Code) (s₁ : State) (locs : List Loc) (vm0 : Vm) (kk : Nat)
    (hx : p.tables.exec = Jvm.exec) (hZ : Z.Warmed39 (s.setVm vm0).vm) (hby : c.code = code) (hml : c.maxLocals = 10) (hown : (s.setVm vm0).vm.findClass "com/example/statementbound/statementbound/statements/internal/KindOfElementPinLaw" = some m.cls) (hnm : meth.name = "law") (hret : meth.sig.returnType = some .boolean) (hlk : meth.locks = false) (h0 : Heap) (n0 : Nat) (Z0 : n0 ≤ h0.size)
    (X0 : Stand p l e room_1 (s.setVm vm0) m #[(.int p1), (.int p2), (.int p3), (.int p4)] below meth c s₁ locs 3 100) (e0 : s₁.heap = h0) (N0 : Fr n0 locs) (hS : s.Since vm0 kk) (hk : kk ≤ h0.size) (hKq : Keep hq h0 []) (PS_java_lang_String_COMPACT_STRINGS : Sta Z h0 "java/lang/String" "COMPACT_STRINGS" "Z" (.int z)) (PS_jdk_internal_util_Preconditions_SIOOBE_FORMATTER : Sta Z h0 "jdk/internal/util/Preconditions" "SIOOBE_FORMATTER" "Ljava/util/function/BiFunction;" fm) (PS_com_example_statementbound_statementbound_statements_internal_Statement_Kind__VALUES : Sta Z h0 "com/example/statementbound/statementbound/statements/internal/Statement$Kind" "$VALUES" "[Lcom/example/statementbound/statementbound/statements/internal/Statement$Kind;" (.ref av)) (PE_av : Exa Z h0 av "[Lcom/example/statementbound/statementbound/statements/internal/Statement$Kind;") (PA_av : Arv Z h0 av kv (.object "com/example/statementbound/statementbound/statements/internal/Statement$Kind") (4 : Int32) [(.ref v0), (.ref v1), (.ref v2), (.ref v3)] .null) (PF_v0_element : Fld Z h0 v0 "com/example/statementbound/statementbound/statements/internal/Statement$Kind" "element" "Ljava/lang/String;" (.ref x0)) (PE_x0 : Exa Z h0 x0 "java/lang/String") (PF_x0_value : Fld Z h0 x0 "java/lang/String" "value" "[B" (.ref t0)) (PF_x0_coder : Fld Z h0 x0 "java/lang/String" "coder" "B" (.int (0 : Int32))) (PA_t0 : Arv Z h0 t0 kt0 .byte (6 : Int32) (own_str own_t0) (.int (0 : Int32))) (PF_v1_element : Fld Z h0 v1 "com/example/statementbound/statementbound/statements/internal/Statement$Kind" "element" "Ljava/lang/String;" (.ref x1)) (PE_x1 : Exa Z h0 x1 "java/lang/String") (PF_x1_value : Fld Z h0 x1 "java/lang/String" "value" "[B" (.ref t1)) (PF_x1_coder : Fld Z h0 x1 "java/lang/String" "coder" "B" (.int (0 : Int32))) (PA_t1 : Arv Z h0 t1 kt1 .byte (6 : Int32) (own_str own_t1) (.int (0 : Int32))) (PF_v2_element : Fld Z h0 v2 "com/example/statementbound/statementbound/statements/internal/Statement$Kind" "element" "Ljava/lang/String;" (.ref x2)) (PE_x2 : Exa Z h0 x2 "java/lang/String") (PF_x2_value : Fld Z h0 x2 "java/lang/String" "value" "[B" (.ref t2)) (PF_x2_coder : Fld Z h0 x2 "java/lang/String" "coder" "B" (.int (0 : Int32))) (PA_t2 : Arv Z h0 t2 kt2 .byte (6 : Int32) (own_str own_t2) (.int (0 : Int32))) (PF_v3_element : Fld Z h0 v3 "com/example/statementbound/statementbound/statements/internal/Statement$Kind" "element" "Ljava/lang/String;" (.ref x3)) (PE_x3 : Exa Z h0 x3 "java/lang/String") (PF_x3_value : Fld Z h0 x3 "java/lang/String" "value" "[B" (.ref t3)) (PF_x3_coder : Fld Z h0 x3 "java/lang/String" "coder" "B" (.int (0 : Int32))) (PA_t3 : Arv Z h0 t3 kt3 .byte (6 : Int32) (own_str own_t3) (.int (0 : Int32))) (PS_com_example_statementbound_statementbound_statements_internal_Statement_Kind_SELECT : Sta Z h0 "com/example/statementbound/statementbound/statements/internal/Statement$Kind" "SELECT" "Lcom/example/statementbound/statementbound/statements/internal/Statement$Kind;" (.ref v0)) (PS_com_example_statementbound_statementbound_statements_internal_Statement_Kind_INSERT : Sta Z h0 "com/example/statementbound/statementbound/statements/internal/Statement$Kind" "INSERT" "Lcom/example/statementbound/statementbound/statements/internal/Statement$Kind;" (.ref v1)) (PS_com_example_statementbound_statementbound_statements_internal_Statement_Kind_UPDATE : Sta Z h0 "com/example/statementbound/statementbound/statements/internal/Statement$Kind" "UPDATE" "Lcom/example/statementbound/statementbound/statements/internal/Statement$Kind;" (.ref v2)) (PS_com_example_statementbound_statementbound_statements_internal_Statement_Kind_DELETE : Sta Z h0 "com/example/statementbound/statementbound/statements/internal/Statement$Kind" "DELETE" "Lcom/example/statementbound/statementbound/statements/internal/Statement$Kind;" (.ref v3)) (PE_a5 : Exa Z h0 a5 "java/lang/String") (PF_a5_value : Fld Z h0 a5 "java/lang/String" "value" "[B" (.ref t5)) (PF_a5_coder : Fld Z h0 a5 "java/lang/String" "coder" "B" (.int (0 : Int32))) (PA_t5 : Arv Z h0 t5 kb5 .byte (6 : Int32) (own_str cs5) (.int (0 : Int32))) (PA_b : Arv Z h0 b kC .char (7 : Int32) [(.int y0), (.int y1), (.int y2), (.int y3), (.int y4), (.int y5), (.int y6)] (.int (0 : Int32))) (hz : ¬ z = 0) (rf : fm.isRef = true) (hcw : Jvm.Lit.compactW.before a0 Z = true) (hlS : Jvm.Lit.constHeld Z "java/lang/String" 7) (hl_0 : Jvm.Lit.constHeld Z "com/example/statementbound/statementbound/statements/internal/KindOfElementPinLaw" 7) (hl_1 : Jvm.Lit.constHeld Z "com/example/statementbound/statementbound/statements/internal/KindOfElementPinLaw" 9) (hl_2 : Jvm.Lit.constHeld Z "com/example/statementbound/statementbound/statements/internal/KindOfElementPinLaw" 11) (hl_3 : Jvm.Lit.constHeld Z "com/example/statementbound/statementbound/statements/internal/KindOfElementPinLaw" 13) (hZh : Z.heap = hq) (hy0 : ¬ y0 < 0 ∧ ¬ (255 : Int32) < y0) (hy1 : ¬ y1 < 0 ∧ ¬ (255 : Int32) < y1) (hy2 : ¬ y2 < 0 ∧ ¬ (255 : Int32) < y2) (hy3 : ¬ y3 < 0 ∧ ¬ (255 : Int32) < y3) (hy4 : ¬ y4 < 0 ∧ ¬ (255 : Int32) < y4) (hy5 : ¬ y5 < 0 ∧ ¬ (255 : Int32) < y5) (hy6 : ¬ y6 < 0 ∧ ¬ (255 : Int32) < y6) (hl0 : ¬ len < 0) (hl7 : ¬ (7 : Int32) < len) (hs9 : sl9 = .unset ∨ ∃ w, sl9 = .val w ∧ w.category = 1) (hov : OwnV Z vm0 "com/example/statementbound/statementbound/statements/internal/KindOfElementPinLaw" a5 cs5 [""] own_es0) :
    Go p e below (FinW s (Q0 Z p1 p2 p3 p4 av kv v0 v1 v2 v3 x0 t0 kt0 x1 t1 kt1 x2 t2 kt2 x3 t3 kt3 z fm hq n0) room_1.cells room_1.slots) s₁ (mkF m 322 #[.val (.int p1), .val (.int p2), .val (.int p3), .val (.int p4), .val (.int (p1 &&& (3 : Int32))), .val (.ref a5), .val (.int (((p1.toUInt32 >>> ((2 : Int32) &&& 31).toUInt32).toInt32) &&& (3 : Int32))), .val (.ref b), .val (.int len), sl9] []) := by
  refine Go.to (mkF m 324 #[.val (.int p1), .val (.int p2), .val (.int p3), .val (.int p4), .val (.int (p1 &&& (3 : Int32))), .val (.ref a5), .val (.int (((p1.toUInt32 >>> ((2 : Int32) &&& 31).toUInt32).toInt32) &&& (3 : Int32))), .val (.ref b), .val (.int len), sl9] [(.ref b)]) (fun _ k => XS.aload X0.here hx rfl (hb hby at_322) rfl rfl k) ?_
  refine Go.to (mkF m 326 #[.val (.int p1), .val (.int p2), .val (.int p3), .val (.int p4), .val (.int (p1 &&& (3 : Int32))), .val (.ref a5), .val (.int (((p1.toUInt32 >>> ((2 : Int32) &&& 31).toUInt32).toInt32) &&& (3 : Int32))), .val (.ref b), .val (.int len), sl9] [(.int len), (.ref b)]) (fun _ k => XS.iload X0.here hx rfl (hb hby at_324) rfl  k) ?_
  have hE1 : ∀ (b : Addr) (cl : Cell), Z.heap[b]? = some cl → h0[b]? = some cl := fun b cl q => hKq.2.1 b cl (by rw [← hZh]; exact q) (fun r => nomatch r)
  refine Go.statS hS hk X0 hx hZ (y := (⟨"com/example/statementbound/statementbound/statements/internal/KindOfElementPinLaw", "take", "([CI)Ljava/lang/String;"⟩ : MethodName)) hown (hw _ (List.mem_of_getElem? (i := 35) rfl)) (hw _ (List.mem_of_getElem? (i := 36) rfl)) (hw _ (List.mem_of_getElem? (i := 37) rfl)) (hw _ (List.mem_of_getElem? (i := 38) rfl)) (by decide) e0 (argsL := [(.ref b), (.int len)]) (rest := []) (MetW.back (W := 0) (rm6 l Z a0 hw b kC y0 y1 y2 y3 y4 y5 y6 len a5 cs5 z h0 n0 Z0 PA_b PS_java_lang_String_COMPACT_STRINGS hz hy0 hy1 hy2 hy3 hy4 hy5 hy6 hl0 hl7 hE1 hlS hcw) hZ (fun _ hv => OwnV.warm (s := s.setVm _) hov hv) (hw _ (List.mem_of_getElem? (i := 38) rfl)) (hw _ (List.mem_of_getElem? (i := 37) rfl)) (by decide) (by decide)) (pc := 326) (Ls := #[.val (.int p1), .val (.int p2), .val (.int p3), .val (.int p4), .val (.int (p1 &&& (3 : Int32))), .val (.ref a5), .val (.int (((p1.toUInt32 >>> ((2 : Int32) &&& 31).toUInt32).toInt32) &&& (3 : Int32))), .val (.ref b), .val (.int len), sl9]) (by rw [hml]; rfl) (lenOf own_pd4 rfl) rfl (Nat.le_refl _) (hb hby at_326) (by decide) (by decide) ?_
  intro T_1 v_1 L_1 X_1 hS_1 hV_1 hZ_1 hown_1 hg_1 hQ_1
  obtain ⟨x_1, t_1, kb_1, rfl, Nq_1, K_1, pf_1_0, pf_1_1, pf_1_2, pf_1_3, ov_1⟩ := hQ_1
  have N_1 := Fr.app N0 Nq_1
  show Go p e below (FinW s (Q0 Z p1 p2 p3 p4 av kv v0 v1 v2 v3 x0 t0 kt0 x1 t1 kt1 x2 t2 kt2 x3 t3 kt3 z fm hq n0) room_1.cells room_1.slots) T_1 (mkF m 329 #[.val (.int p1), .val (.int p2), .val (.int p3), .val (.int p4), .val (.int (p1 &&& (3 : Int32))), .val (.ref a5), .val (.int (((p1.toUInt32 >>> ((2 : Int32) &&& 31).toUInt32).toInt32) &&& (3 : Int32))), .val (.ref b), .val (.int len), sl9] [(.ref x_1)])
  refine Go.to (mkF m 331 #[.val (.int p1), .val (.int p2), .val (.int p3), .val (.int p4), .val (.int (p1 &&& (3 : Int32))), .val (.ref a5), .val (.int (((p1.toUInt32 >>> ((2 : Int32) &&& 31).toUInt32).toInt32) &&& (3 : Int32))), .val (.ref b), .val (.int len), .val (.ref x_1)] []) (fun _ k => XS.astore X_1.here hx rfl (hb hby at_329) rfl rfl (l' := #[.val (.int p1), .val (.int p2), .val (.int p3), .val (.int p4), .val (.int (p1 &&& (3 : Int32))), .val (.ref a5), .val (.int (((p1.toUInt32 >>> ((2 : Int32) &&& 31).toUInt32).toInt32) &&& (3 : Int32))), .val (.ref b), .val (.int len), .val (.ref x_1)]) (own_store1 rfl hs9 rfl rfl) k) ?_
  refine Go.to (mkF m 333 #[.val (.int p1), .val (.int p2), .val (.int p3), .val (.int p4), .val (.int (p1 &&& (3 : Int32))), .val (.ref a5), .val (.int (((p1.toUInt32 >>> ((2 : Int32) &&& 31).toUInt32).toInt32) &&& (3 : Int32))), .val (.ref b), .val (.int len), .val (.ref x_1)] [(.ref x_1)]) (fun _ k => XS.aload X_1.here hx rfl (hb hby at_331) rfl rfl k) ?_
  have hp7 : ∀ c ∈ ([y0, y1, y2, y3, y4, y5, y6] : List Int32), ¬ c < 0 ∧ ¬ (255 : Int32) < c := (own_cS hy0 (own_cS hy1 (own_cS hy2 (own_cS hy3 (own_cS hy4 (own_cS hy5 (own_cS hy6 own_c0)))))))
  obtain ⟨r, hpk⟩ : ∃ r : Value, own_pick (own_take len ([y0, y1, y2, y3, y4, y5, y6] : List Int32)) v0 v1 v2 v3 = r := ⟨_, rfl⟩
  have hr : r.isRef = true := hpk ▸ own_pick_ref _ _ _ _ _
  have f_2 : Sta Z T_1.heap "java/lang/String" "COMPACT_STRINGS" "Z" (.int z) := (own_sta_keep PS_java_lang_String_COMPACT_STRINGS K_1 all0)
  have f_3 : Sta Z T_1.heap "com/example/statementbound/statementbound/statements/internal/Statement$Kind" "$VALUES" "[Lcom/example/statementbound/statementbound/statements/internal/Statement$Kind;" (.ref av) := (own_sta_keep PS_com_example_statementbound_statementbound_statements_internal_Statement_Kind__VALUES K_1 all0)
  have f_4 : Exa Z T_1.heap av "[Lcom/example/statementbound/statementbound/statements/internal/Statement$Kind;" := (PE_av.keep K_1)
  have f_5 : Arv Z T_1.heap av kv (.object "com/example/statementbound/statementbound/statements/internal/Statement$Kind") (4 : Int32) [(.ref v0), (.ref v1), (.ref v2), (.ref v3)] .null := (PA_av.keep K_1 nin0)
  have f_6 : Fld Z T_1.heap v0 "com/example/statementbound/statementbound/statements/internal/Statement$Kind" "element" "Ljava/lang/String;" (.ref x0) := (PF_v0_element.keep K_1 nin0)
  have f_7 : Exa Z T_1.heap x0 "java/lang/String" := (PE_x0.keep K_1)
  have f_8 : Fld Z T_1.heap x0 "java/lang/String" "value" "[B" (.ref t0) := (PF_x0_value.keep K_1 nin0)
  have f_9 : Fld Z T_1.heap x0 "java/lang/String" "coder" "B" (.int (0 : Int32)) := (PF_x0_coder.keep K_1 nin0)
  have f_10 : Arv Z T_1.heap t0 kt0 .byte (6 : Int32) (own_str own_t0) (.int (0 : Int32)) := (PA_t0.keep K_1 nin0)
  have f_11 : Fld Z T_1.heap v1 "com/example/statementbound/statementbound/statements/internal/Statement$Kind" "element" "Ljava/lang/String;" (.ref x1) := (PF_v1_element.keep K_1 nin0)
  have f_12 : Exa Z T_1.heap x1 "java/lang/String" := (PE_x1.keep K_1)
  have f_13 : Fld Z T_1.heap x1 "java/lang/String" "value" "[B" (.ref t1) := (PF_x1_value.keep K_1 nin0)
  have f_14 : Fld Z T_1.heap x1 "java/lang/String" "coder" "B" (.int (0 : Int32)) := (PF_x1_coder.keep K_1 nin0)
  have f_15 : Arv Z T_1.heap t1 kt1 .byte (6 : Int32) (own_str own_t1) (.int (0 : Int32)) := (PA_t1.keep K_1 nin0)
  have f_16 : Fld Z T_1.heap v2 "com/example/statementbound/statementbound/statements/internal/Statement$Kind" "element" "Ljava/lang/String;" (.ref x2) := (PF_v2_element.keep K_1 nin0)
  have f_17 : Exa Z T_1.heap x2 "java/lang/String" := (PE_x2.keep K_1)
  have f_18 : Fld Z T_1.heap x2 "java/lang/String" "value" "[B" (.ref t2) := (PF_x2_value.keep K_1 nin0)
  have f_19 : Fld Z T_1.heap x2 "java/lang/String" "coder" "B" (.int (0 : Int32)) := (PF_x2_coder.keep K_1 nin0)
  have f_20 : Arv Z T_1.heap t2 kt2 .byte (6 : Int32) (own_str own_t2) (.int (0 : Int32)) := (PA_t2.keep K_1 nin0)
  have f_21 : Fld Z T_1.heap v3 "com/example/statementbound/statementbound/statements/internal/Statement$Kind" "element" "Ljava/lang/String;" (.ref x3) := (PF_v3_element.keep K_1 nin0)
  have f_22 : Exa Z T_1.heap x3 "java/lang/String" := (PE_x3.keep K_1)
  have f_23 : Fld Z T_1.heap x3 "java/lang/String" "value" "[B" (.ref t3) := (PF_x3_value.keep K_1 nin0)
  have f_24 : Fld Z T_1.heap x3 "java/lang/String" "coder" "B" (.int (0 : Int32)) := (PF_x3_coder.keep K_1 nin0)
  have f_25 : Arv Z T_1.heap t3 kt3 .byte (6 : Int32) (own_str own_t3) (.int (0 : Int32)) := (PA_t3.keep K_1 nin0)
  have f_26 : n0 ≤ T_1.heap.size := (Nat.le_trans Z0 K_1.1)
  refine Go.stat X_1 hx hZ_1 (y := (⟨"com/example/statementbound/statementbound/statements/internal/Statement$Kind", "ofElement", "(Ljava/lang/String;)Lcom/example/statementbound/statementbound/statements/internal/Statement$Kind;"⟩ : MethodName)) hown_1 (hw _ (List.mem_of_getElem? (i := 60) rfl)) (hw _ (List.mem_of_getElem? (i := 61) rfl)) (hw _ (List.mem_of_getElem? (i := 62) rfl)) (hw _ (List.mem_of_getElem? (i := 63) rfl)) (by decide) rfl (argsL := [(.ref x_1)]) (rest := []) (Met1.back (W := 0) (rm13 l Z a0 hw x_1 t_1 kb_1 len (own_take len ([y0, y1, y2, y3, y4, y5, y6] : List Int32)) z av kv v0 v1 v2 v3 x0 t0 kt0 x1 t1 kt1 x2 t2 kt2 x3 t3 kt3 r T_1.heap n0 f_26 pf_1_0 pf_1_2 pf_1_1 pf_1_3 f_2 f_3 f_4 f_5 f_6 f_7 f_8 f_9 f_10 f_11 f_12 f_13 f_14 f_15 f_16 f_17 f_18 f_19 f_20 f_21 f_22 f_23 f_24 f_25 hz (own_take_n rfl hl0 hl7) (own_take_p hp7) (own_take_l rfl) hpk hr) hZ_1 (hw _ (List.mem_of_getElem? (i := 63) rfl)) (hw _ (List.mem_of_getElem? (i := 62) rfl)) (by decide) (by decide)) (pc := 333) (Ls := #[.val (.int p1), .val (.int p2), .val (.int p3), .val (.int p4), .val (.int (p1 &&& (3 : Int32))), .val (.ref a5), .val (.int (((p1.toUInt32 >>> ((2 : Int32) &&& 31).toUInt32).toInt32) &&& (3 : Int32))), .val (.ref b), .val (.int len), .val (.ref x_1)]) (by rw [hml]; rfl) (lenOf own_pd5 rfl) rfl (Nat.le_refl _) (hb hby at_333) (by decide) (by decide) ?_
  intro T_27 v_27 L_27 X_27 hQ_27
  obtain ⟨rfl, Nq_27, K_27⟩ := hQ_27
  have N_27 := Fr.app N_1 Nq_27
  have f_28 : Keep hq T_1.heap [] := (hKq.trans K_1 all0)
  show Go p e below (FinW s (Q0 Z p1 p2 p3 p4 av kv v0 v1 v2 v3 x0 t0 kt0 x1 t1 kt1 x2 t2 kt2 x3 t3 kt3 z fm hq n0) room_1.cells room_1.slots) T_27 (mkF m 336 #[.val (.int p1), .val (.int p2), .val (.int p3), .val (.int p4), .val (.int (p1 &&& (3 : Int32))), .val (.ref a5), .val (.int (((p1.toUInt32 >>> ((2 : Int32) &&& 31).toUInt32).toInt32) &&& (3 : Int32))), .val (.ref b), .val (.int len), .val (.ref x_1)] [r])
  refine Go.to (mkF m 338 #[.val (.int p1), .val (.int p2), .val (.int p3), .val (.int p4), .val (.int (p1 &&& (3 : Int32))), .val (.ref a5), .val (.int (((p1.toUInt32 >>> ((2 : Int32) &&& 31).toUInt32).toInt32) &&& (3 : Int32))), .val (.ref b), .val (.int len), .val (.ref x_1)] [(.ref x_1), r]) (fun _ k => XS.aload X_27.here hx rfl (hb hby at_336) rfl rfl k) ?_
  have f_29 : Keep hq T_27.heap [] := (f_28.trans K_27 all0)
  have hE2 : ∀ (b : Addr) (cl : Cell), Z.heap[b]? = some cl → T_27.heap[b]? = some cl := fun b cl q => f_29.2.1 b cl (by rw [← hZh]; exact q) (fun r => nomatch r)
  have f_30 : Exa Z T_27.heap x_1 "java/lang/String" := (pf_1_0.keep K_27)
  have f_31 : Fld Z T_27.heap x_1 "java/lang/String" "value" "[B" (.ref t_1) := (pf_1_2.keep K_27 nin0)
  have f_32 : Fld Z T_27.heap x_1 "java/lang/String" "coder" "B" (.int (0 : Int32)) := (pf_1_1.keep K_27 nin0)
  have f_33 : Arv Z T_27.heap t_1 kb_1 .byte len (own_str (own_take len ([y0, y1, y2, y3, y4, y5, y6] : List Int32))) (.int (0 : Int32)) := (pf_1_3.keep K_27 nin0)
  have f_34 : Sta Z T_27.heap "java/lang/String" "COMPACT_STRINGS" "Z" (.int z) := (own_sta_keep f_2 K_27 all0)
  have f_35 : Exa Z T_27.heap a5 "java/lang/String" := ((PE_a5.keep K_1).keep K_27)
  have f_36 : Fld Z T_27.heap a5 "java/lang/String" "value" "[B" (.ref t5) := ((PF_a5_value.keep K_1 nin0).keep K_27 nin0)
  have f_37 : Fld Z T_27.heap a5 "java/lang/String" "coder" "B" (.int (0 : Int32)) := ((PF_a5_coder.keep K_1 nin0).keep K_27 nin0)
  have f_38 : Arv Z T_27.heap t5 kb5 .byte (6 : Int32) (own_str cs5) (.int (0 : Int32)) := ((PA_t5.keep K_1 nin0).keep K_27 nin0)
  have f_39 : Sta Z T_27.heap "com/example/statementbound/statementbound/statements/internal/Statement$Kind" "SELECT" "Lcom/example/statementbound/statementbound/statements/internal/Statement$Kind;" (.ref v0) := (own_sta_keep (own_sta_keep PS_com_example_statementbound_statementbound_statements_internal_Statement_Kind_SELECT K_1 all0) K_27 all0)
  have f_40 : Sta Z T_27.heap "com/example/statementbound/statementbound/statements/internal/Statement$Kind" "INSERT" "Lcom/example/statementbound/statementbound/statements/internal/Statement$Kind;" (.ref v1) := (own_sta_keep (own_sta_keep PS_com_example_statementbound_statementbound_statements_internal_Statement_Kind_INSERT K_1 all0) K_27 all0)
  have f_41 : Sta Z T_27.heap "com/example/statementbound/statementbound/statements/internal/Statement$Kind" "UPDATE" "Lcom/example/statementbound/statementbound/statements/internal/Statement$Kind;" (.ref v2) := (own_sta_keep (own_sta_keep PS_com_example_statementbound_statementbound_statements_internal_Statement_Kind_UPDATE K_1 all0) K_27 all0)
  have f_42 : Sta Z T_27.heap "com/example/statementbound/statementbound/statements/internal/Statement$Kind" "DELETE" "Lcom/example/statementbound/statementbound/statements/internal/Statement$Kind;" (.ref v3) := (own_sta_keep (own_sta_keep PS_com_example_statementbound_statementbound_statements_internal_Statement_Kind_DELETE K_1 all0) K_27 all0)
  have f_43 : n0 ≤ T_27.heap.size := (Nat.le_trans f_26 K_27.1)
  have f_44 : T_1.heap.size ≤ T_27.heap.size := (Nat.le_trans (Nat.le_refl _) K_27.1)
  refine Go.statS hS_1 f_44 X_27 hx hZ_1 (y := (⟨"com/example/statementbound/statementbound/statements/internal/KindOfElementPinLaw", "expected", "(Ljava/lang/String;)Lcom/example/statementbound/statementbound/statements/internal/Statement$Kind;"⟩ : MethodName)) hown_1 (hw _ (List.mem_of_getElem? (i := 94) rfl)) (hw _ (List.mem_of_getElem? (i := 95) rfl)) (hw _ (List.mem_of_getElem? (i := 37) rfl)) (hw _ (List.mem_of_getElem? (i := 96) rfl)) (by decide) rfl (argsL := [(.ref x_1)]) (rest := [r]) (MetW.back (W := 1) (rm17 l Z a0 hw x_1 t_1 kb_1 len (own_take len ([y0, y1, y2, y3, y4, y5, y6] : List Int32)) z a5 t5 kb5 cs5 v0 v1 v2 v3 r T_27.heap T_27.heap.size (Nat.le_refl _) f_30 f_31 f_32 f_33 f_34 f_35 f_36 f_37 f_38 f_39 f_40 f_41 f_42 hz (own_take_n rfl hl0 hl7) (own_take_p hp7) (own_take_l rfl) hpk hr hE2 hcw rfl hl_0 hl_1 hl_2 hl_3) hZ_1 (fun _ hv => OwnV.warm (s := s.setVm _) ov_1 hv) (hw _ (List.mem_of_getElem? (i := 96) rfl)) (hw _ (List.mem_of_getElem? (i := 37) rfl)) (by decide) (by decide)) (pc := 338) (Ls := #[.val (.int p1), .val (.int p2), .val (.int p3), .val (.int p4), .val (.int (p1 &&& (3 : Int32))), .val (.ref a5), .val (.int (((p1.toUInt32 >>> ((2 : Int32) &&& 31).toUInt32).toInt32) &&& (3 : Int32))), .val (.ref b), .val (.int len), .val (.ref x_1)]) (by rw [hml]; rfl) (lenOf own_pd5 rfl) rfl (Nat.le_of_eq (by simp [own_refcat hr, own_cat_i, own_cat_l, own_cat_r, own_cat_n])) (hb hby at_338) (by decide) (by decide) ?_
  intro T_45 v_45 L_45 X_45 hS_45 hV_45 hZ_45 hown_45 hg_45 hQ_45
  obtain ⟨rfl, Nq_45, K_45⟩ := hQ_45
  have N_45 := Fr.app N_27 (own_fr_le f_43 Nq_45)
  show Go p e below (FinW s (Q0 Z p1 p2 p3 p4 av kv v0 v1 v2 v3 x0 t0 kt0 x1 t1 kt1 x2 t2 kt2 x3 t3 kt3 z fm hq n0) room_1.cells room_1.slots) T_45 (mkF m 341 #[.val (.int p1), .val (.int p2), .val (.int p3), .val (.int p4), .val (.int (p1 &&& (3 : Int32))), .val (.ref a5), .val (.int (((p1.toUInt32 >>> ((2 : Int32) &&& 31).toUInt32).toInt32) &&& (3 : Int32))), .val (.ref b), .val (.int len), .val (.ref x_1)] [r, r])
  rcases ref_cases hr with rfl | ⟨y_46, rfl⟩
  · refine Go.to (mkF m 344 #[.val (.int p1), .val (.int p2), .val (.int p3), .val (.int p4), .val (.int (p1 &&& (3 : Int32))), .val (.ref a5), .val (.int (((p1.toUInt32 >>> ((2 : Int32) &&& 31).toUInt32).toInt32) &&& (3 : Int32))), .val (.ref b), .val (.int len), .val (.ref x_1)] []) (fun _ k => acmp X_45 hx rfl rfl rfl (pc0 := 341) (pc' := 344) (same := true) rfl (hb hby at_341) rfl (decide_eq_true rfl) (by decide) (by decide) k) ?_
    refine Go.to (mkF m 345 #[.val (.int p1), .val (.int p2), .val (.int p3), .val (.int p4), .val (.int (p1 &&& (3 : Int32))), .val (.ref a5), .val (.int (((p1.toUInt32 >>> ((2 : Int32) &&& 31).toUInt32).toInt32) &&& (3 : Int32))), .val (.ref b), .val (.int len), .val (.ref x_1)] [(.int (1 : Int32))]) (fun _ k => XS.iconst X_45.here hx rfl (hb hby at_344) k) ?_
    refine Go.to (mkF m 349 #[.val (.int p1), .val (.int p2), .val (.int p3), .val (.int p4), .val (.int (p1 &&& (3 : Int32))), .val (.ref a5), .val (.int (((p1.toUInt32 >>> ((2 : Int32) &&& 31).toUInt32).toInt32) &&& (3 : Int32))), .val (.ref b), .val (.int len), .val (.ref x_1)] [(.int (1 : Int32))]) (fun _ k => XS.goto X_45.here hx rfl (pc0 := 345) (pc' := 349) rfl (hb hby at_345) (by decide) (by decide) k) ?_
    refine Go.retNW X_45 hx (t := .boolean) hret hlk (by simp) (hb hby at_349) (by decide) (by decide) hS_45 (Nat.le_refl _) (z' := (1 : Int32)) rfl ?_
    have f_47 : Keep hq T_45.heap [] := (f_29.trans K_45 all0)
    show (Q0 Z p1 p2 p3 p4 av kv v0 v1 v2 v3 x0 t0 kt0 x1 t1 kt1 x2 t2 kt2 x3 t3 kt3 z fm hq n0) _ T_45.heap _ _
    exact ⟨rfl, N_45, f_47⟩
  · refine Go.to (mkF m 344 #[.val (.int p1), .val (.int p2), .val (.int p3), .val (.int p4), .val (.int (p1 &&& (3 : Int32))), .val (.ref a5), .val (.int (((p1.toUInt32 >>> ((2 : Int32) &&& 31).toUInt32).toInt32) &&& (3 : Int32))), .val (.ref b), .val (.int len), .val (.ref x_1)] []) (fun _ k => acmp X_45 hx rfl rfl rfl (pc0 := 341) (pc' := 344) (same := true) rfl (hb hby at_341) rfl (decide_eq_true rfl) (by decide) (by decide) k) ?_
    refine Go.to (mkF m 345 #[.val (.int p1), .val (.int p2), .val (.int p3), .val (.int p4), .val (.int (p1 &&& (3 : Int32))), .val (.ref a5), .val (.int (((p1.toUInt32 >>> ((2 : Int32) &&& 31).toUInt32).toInt32) &&& (3 : Int32))), .val (.ref b), .val (.int len), .val (.ref x_1)] [(.int (1 : Int32))]) (fun _ k => XS.iconst X_45.here hx rfl (hb hby at_344) k) ?_
    refine Go.to (mkF m 349 #[.val (.int p1), .val (.int p2), .val (.int p3), .val (.int p4), .val (.int (p1 &&& (3 : Int32))), .val (.ref a5), .val (.int (((p1.toUInt32 >>> ((2 : Int32) &&& 31).toUInt32).toInt32) &&& (3 : Int32))), .val (.ref b), .val (.int len), .val (.ref x_1)] [(.int (1 : Int32))]) (fun _ k => XS.goto X_45.here hx rfl (pc0 := 345) (pc' := 349) rfl (hb hby at_345) (by decide) (by decide) k) ?_
    refine Go.retNW X_45 hx (t := .boolean) hret hlk (by simp) (hb hby at_349) (by decide) (by decide) hS_45 (Nat.le_refl _) (z' := (1 : Int32)) rfl ?_
    have f_48 : Keep hq T_45.heap [] := (f_29.trans K_45 all0)
    show (Q0 Z p1 p2 p3 p4 av kv v0 v1 v2 v3 x0 t0 kt0 x1 t1 kt1 x2 t2 kt2 x3 t3 kt3 z fm hq n0) _ T_45.heap _ _
    exact ⟨rfl, N_45, f_48⟩
theorem own_pd6 : parseMethodDescriptor "(I)C" = some ⟨[.int], some .char⟩ := by decide +kernel
theorem own_pd7 : parseMethodDescriptor "([CII)V" = some ⟨[(.array .char), .int, .int], none⟩ := by decide +kernel
set_option maxRecDepth 65536 in
set_option maxHeartbeats 40000000 in
theorem own_s39 (l : Launch) (Z : State) (a0 : Array Value) (hw : ∀ d ∈ tables_1, d.before a0 Z = true) (p1 : Int32) (p2 : Int32) (p3 : Int32) (p4 : Int32) (av : Addr) (kv : ClassId) (v0 : Addr) (v1 : Addr) (v2 : Addr) (v3 : Addr) (x0 : Addr) (t0 : Addr) (kt0 : ClassId) (x1 : Addr) (t1 : Addr) (kt1 : ClassId) (x2 : Addr) (t2 : Addr) (kt2 : ClassId) (x3 : Addr) (t3 : Addr) (kt3 : ClassId) (z : Int32) (fm : Value) (a5 : Addr) (t5 : Addr) (kb5 : ClassId) (c0 : Int32) (c1 : Int32) (c2 : Int32) (c3 : Int32) (c4 : Int32) (c5 : Int32) (hq : Heap) (p : Program) (e : Env) (s : State) (m : MethodId) (below : List Frame) (meth : Method) (c : Code) (s₁ : State) (locs : List Loc) (vm0 : Vm) (kk : Nat)
    (hx : p.tables.exec = Jvm.exec) (hZ : Z.Warmed39 (s.setVm vm0).vm) (hby : c.code = code) (hml : c.maxLocals = 10) (hown : (s.setVm vm0).vm.findClass "com/example/statementbound/statementbound/statements/internal/KindOfElementPinLaw" = some m.cls) (hnm : meth.name = "law") (hret : meth.sig.returnType = some .boolean) (hlk : meth.locks = false) (h0 : Heap) (n0 : Nat) (Z0 : n0 ≤ h0.size)
    (X0 : Stand p l e room_1 (s.setVm vm0) m #[(.int p1), (.int p2), (.int p3), (.int p4)] below meth c s₁ locs 2 28) (e0 : s₁.heap = h0) (N0 : Fr n0 locs) (hS : s.Since vm0 kk) (hk : kk ≤ h0.size) (hKq : Keep hq h0 []) (PS_java_lang_String_COMPACT_STRINGS : Sta Z h0 "java/lang/String" "COMPACT_STRINGS" "Z" (.int z)) (PS_jdk_internal_util_Preconditions_SIOOBE_FORMATTER : Sta Z h0 "jdk/internal/util/Preconditions" "SIOOBE_FORMATTER" "Ljava/util/function/BiFunction;" fm) (PS_com_example_statementbound_statementbound_statements_internal_Statement_Kind__VALUES : Sta Z h0 "com/example/statementbound/statementbound/statements/internal/Statement$Kind" "$VALUES" "[Lcom/example/statementbound/statementbound/statements/internal/Statement$Kind;" (.ref av)) (PE_av : Exa Z h0 av "[Lcom/example/statementbound/statementbound/statements/internal/Statement$Kind;") (PA_av : Arv Z h0 av kv (.object "com/example/statementbound/statementbound/statements/internal/Statement$Kind") (4 : Int32) [(.ref v0), (.ref v1), (.ref v2), (.ref v3)] .null) (PF_v0_element : Fld Z h0 v0 "com/example/statementbound/statementbound/statements/internal/Statement$Kind" "element" "Ljava/lang/String;" (.ref x0)) (PE_x0 : Exa Z h0 x0 "java/lang/String") (PF_x0_value : Fld Z h0 x0 "java/lang/String" "value" "[B" (.ref t0)) (PF_x0_coder : Fld Z h0 x0 "java/lang/String" "coder" "B" (.int (0 : Int32))) (PA_t0 : Arv Z h0 t0 kt0 .byte (6 : Int32) (own_str own_t0) (.int (0 : Int32))) (PF_v1_element : Fld Z h0 v1 "com/example/statementbound/statementbound/statements/internal/Statement$Kind" "element" "Ljava/lang/String;" (.ref x1)) (PE_x1 : Exa Z h0 x1 "java/lang/String") (PF_x1_value : Fld Z h0 x1 "java/lang/String" "value" "[B" (.ref t1)) (PF_x1_coder : Fld Z h0 x1 "java/lang/String" "coder" "B" (.int (0 : Int32))) (PA_t1 : Arv Z h0 t1 kt1 .byte (6 : Int32) (own_str own_t1) (.int (0 : Int32))) (PF_v2_element : Fld Z h0 v2 "com/example/statementbound/statementbound/statements/internal/Statement$Kind" "element" "Ljava/lang/String;" (.ref x2)) (PE_x2 : Exa Z h0 x2 "java/lang/String") (PF_x2_value : Fld Z h0 x2 "java/lang/String" "value" "[B" (.ref t2)) (PF_x2_coder : Fld Z h0 x2 "java/lang/String" "coder" "B" (.int (0 : Int32))) (PA_t2 : Arv Z h0 t2 kt2 .byte (6 : Int32) (own_str own_t2) (.int (0 : Int32))) (PF_v3_element : Fld Z h0 v3 "com/example/statementbound/statementbound/statements/internal/Statement$Kind" "element" "Ljava/lang/String;" (.ref x3)) (PE_x3 : Exa Z h0 x3 "java/lang/String") (PF_x3_value : Fld Z h0 x3 "java/lang/String" "value" "[B" (.ref t3)) (PF_x3_coder : Fld Z h0 x3 "java/lang/String" "coder" "B" (.int (0 : Int32))) (PA_t3 : Arv Z h0 t3 kt3 .byte (6 : Int32) (own_str own_t3) (.int (0 : Int32))) (PS_com_example_statementbound_statementbound_statements_internal_Statement_Kind_SELECT : Sta Z h0 "com/example/statementbound/statementbound/statements/internal/Statement$Kind" "SELECT" "Lcom/example/statementbound/statementbound/statements/internal/Statement$Kind;" (.ref v0)) (PS_com_example_statementbound_statementbound_statements_internal_Statement_Kind_INSERT : Sta Z h0 "com/example/statementbound/statementbound/statements/internal/Statement$Kind" "INSERT" "Lcom/example/statementbound/statementbound/statements/internal/Statement$Kind;" (.ref v1)) (PS_com_example_statementbound_statementbound_statements_internal_Statement_Kind_UPDATE : Sta Z h0 "com/example/statementbound/statementbound/statements/internal/Statement$Kind" "UPDATE" "Lcom/example/statementbound/statementbound/statements/internal/Statement$Kind;" (.ref v2)) (PS_com_example_statementbound_statementbound_statements_internal_Statement_Kind_DELETE : Sta Z h0 "com/example/statementbound/statementbound/statements/internal/Statement$Kind" "DELETE" "Lcom/example/statementbound/statementbound/statements/internal/Statement$Kind;" (.ref v3)) (PE_a5 : Exa Z h0 a5 "java/lang/String") (PF_a5_value : Fld Z h0 a5 "java/lang/String" "value" "[B" (.ref t5)) (PF_a5_coder : Fld Z h0 a5 "java/lang/String" "coder" "B" (.int (0 : Int32))) (PA_t5 : Arv Z h0 t5 kb5 .byte (6 : Int32) (own_str ([c0, c1, c2, c3, c4, c5] : List Int32)) (.int (0 : Int32))) (hz : ¬ z = 0) (rf : fm.isRef = true) (hcw : Jvm.Lit.compactW.before a0 Z = true) (hlS : Jvm.Lit.constHeld Z "java/lang/String" 7) (hl_0 : Jvm.Lit.constHeld Z "com/example/statementbound/statementbound/statements/internal/KindOfElementPinLaw" 7) (hl_1 : Jvm.Lit.constHeld Z "com/example/statementbound/statementbound/statements/internal/KindOfElementPinLaw" 9) (hl_2 : Jvm.Lit.constHeld Z "com/example/statementbound/statementbound/statements/internal/KindOfElementPinLaw" 11) (hl_3 : Jvm.Lit.constHeld Z "com/example/statementbound/statementbound/statements/internal/KindOfElementPinLaw" 13) (hZh : Z.heap = hq) (hc0 : ¬ c0 < 97 ∧ ¬ (122 : Int32) < c0) (hc1 : ¬ c1 < 97 ∧ ¬ (122 : Int32) < c1) (hc2 : ¬ c2 < 97 ∧ ¬ (122 : Int32) < c2) (hc3 : ¬ c3 < 97 ∧ ¬ (122 : Int32) < c3) (hc4 : ¬ c4 < 97 ∧ ¬ (122 : Int32) < c4) (hc5 : ¬ c5 < 97 ∧ ¬ (122 : Int32) < c5) (hov : OwnV Z vm0 "com/example/statementbound/statementbound/statements/internal/KindOfElementPinLaw" a5 ([c0, c1, c2, c3, c4, c5] : List Int32) [""] own_es0) :
    Go p e below (FinW s (Q0 Z p1 p2 p3 p4 av kv v0 v1 v2 v3 x0 t0 kt0 x1 t1 kt1 x2 t2 kt2 x3 t3 kt3 z fm hq n0) room_1.cells room_1.slots) s₁ (mkF m 39 #[.val (.int p1), .val (.int p2), .val (.int p3), .val (.int p4), .val (.int (p1 &&& (3 : Int32))), .unset, .unset, .unset, .unset, .unset] [(.ref a5)]) := by
  have hp5 : ∀ c ∈ ([c0, c1, c2, c3, c4, c5] : List Int32), ¬ c < 0 ∧ ¬ (255 : Int32) < c := (own_cS (own_az hc0) (own_cS (own_az hc1) (own_cS (own_az hc2) (own_cS (own_az hc3) (own_cS (own_az hc4) (own_cS (own_az hc5) own_c0))))))
  refine Go.to (mkF m 41 #[.val (.int p1), .val (.int p2), .val (.int p3), .val (.int p4), .val (.int (p1 &&& (3 : Int32))), .val (.ref a5), .unset, .unset, .unset, .unset] []) (fun _ k => XS.astore X0.here hx rfl (hb hby at_39) rfl rfl (l' := #[.val (.int p1), .val (.int p2), .val (.int p3), .val (.int p4), .val (.int (p1 &&& (3 : Int32))), .val (.ref a5), .unset, .unset, .unset, .unset]) rfl k) ?_
  refine Go.to (mkF m 42 #[.val (.int p1), .val (.int p2), .val (.int p3), .val (.int p4), .val (.int (p1 &&& (3 : Int32))), .val (.ref a5), .unset, .unset, .unset, .unset] [(.int p1)]) (fun _ k => XS.iloadN X0.here hx rfl (hb hby at_41) rfl  k) ?_
  refine Go.to (mkF m 43 #[.val (.int p1), .val (.int p2), .val (.int p3), .val (.int p4), .val (.int (p1 &&& (3 : Int32))), .val (.ref a5), .unset, .unset, .unset, .unset] [(.int (2 : Int32)), (.int p1)]) (fun _ k => XS.iconst X0.here hx rfl (hb hby at_42) k) ?_
  refine Go.to (mkF m 44 #[.val (.int p1), .val (.int p2), .val (.int p3), .val (.int p4), .val (.int (p1 &&& (3 : Int32))), .val (.ref a5), .unset, .unset, .unset, .unset] [(.int ((p1.toUInt32 >>> ((2 : Int32) &&& 31).toUInt32).toInt32))]) (fun _ k => XS.iushr X0.here hx rfl (hb hby at_43) rfl k) ?_
  refine Go.to (mkF m 45 #[.val (.int p1), .val (.int p2), .val (.int p3), .val (.int p4), .val (.int (p1 &&& (3 : Int32))), .val (.ref a5), .unset, .unset, .unset, .unset] [(.int (3 : Int32)), (.int ((p1.toUInt32 >>> ((2 : Int32) &&& 31).toUInt32).toInt32))]) (fun _ k => XS.iconst X0.here hx rfl (hb hby at_44) k) ?_
  refine Go.to (mkF m 46 #[.val (.int p1), .val (.int p2), .val (.int p3), .val (.int p4), .val (.int (p1 &&& (3 : Int32))), .val (.ref a5), .unset, .unset, .unset, .unset] [(.int (((p1.toUInt32 >>> ((2 : Int32) &&& 31).toUInt32).toInt32) &&& (3 : Int32)))]) (fun _ k => XS.iand X0.here hx rfl (hb hby at_45) rfl k) ?_
  refine Go.to (mkF m 48 #[.val (.int p1), .val (.int p2), .val (.int p3), .val (.int p4), .val (.int (p1 &&& (3 : Int32))), .val (.ref a5), .val (.int (((p1.toUInt32 >>> ((2 : Int32) &&& 31).toUInt32).toInt32) &&& (3 : Int32))), .unset, .unset, .unset] []) (fun _ k => XS.istore X0.here hx rfl (hb hby at_46) rfl (l' := #[.val (.int p1), .val (.int p2), .val (.int p3), .val (.int p4), .val (.int (p1 &&& (3 : Int32))), .val (.ref a5), .val (.int (((p1.toUInt32 >>> ((2 : Int32) &&& 31).toUInt32).toInt32) &&& (3 : Int32))), .unset, .unset, .unset]) rfl k) ?_
  refine Go.to (mkF m 50 #[.val (.int p1), .val (.int p2), .val (.int p3), .val (.int p4), .val (.int (p1 &&& (3 : Int32))), .val (.ref a5), .val (.int (((p1.toUInt32 >>> ((2 : Int32) &&& 31).toUInt32).toInt32) &&& (3 : Int32))), .unset, .unset, .unset] [(.int (7 : Int32))]) (fun _ k => XS.bipush X0.here hx rfl (hb hby at_48) k) ?_
  obtain ⟨T_1, h_1, k_1, X_1, e_1, E_1, A_1, st_1⟩ := newP X0 hx hZ (hw _ (List.mem_of_getElem? (i := 8) rfl)) e0 (g := (mkF m 50 #[.val (.int p1), .val (.int p2), .val (.int p3), .val (.int p4), .val (.int (p1 &&& (3 : Int32))), .val (.ref a5), .val (.int (((p1.toUInt32 >>> ((2 : Int32) &&& 31).toUInt32).toInt32) &&& (3 : Int32))), .unset, .unset, .unset] [(.int (7 : Int32))])) rfl (hb hby at_50) rfl (by decide) (cap := 7) (by decide) (by decide) (by decide) (by decide)
  obtain ⟨b_1, g_1⟩ : ∃ z, z = h0.size := ⟨_, rfl⟩
  rw [← g_1] at A_1 st_1
  have g_b_1 : n0 ≤ b_1 := Nat.le_trans Z0 (Nat.le_of_eq g_1.symm)
  have sz_b_1 : hq.size ≤ b_1 := Nat.le_trans hKq.1 (Nat.le_of_eq g_1.symm)
  have ne_av_b_1 : av ≠ b_1 := Nat.ne_of_lt (Nat.lt_of_lt_of_le PE_av.lt (Nat.le_of_eq g_1.symm))
  have ne_v0_b_1 : v0 ≠ b_1 := Nat.ne_of_lt (Nat.lt_of_lt_of_le PF_v0_element.lt (Nat.le_of_eq g_1.symm))
  have ne_x0_b_1 : x0 ≠ b_1 := Nat.ne_of_lt (Nat.lt_of_lt_of_le PE_x0.lt (Nat.le_of_eq g_1.symm))
  have ne_t0_b_1 : t0 ≠ b_1 := Nat.ne_of_lt (Nat.lt_of_lt_of_le PA_t0.lt (Nat.le_of_eq g_1.symm))
  have ne_v1_b_1 : v1 ≠ b_1 := Nat.ne_of_lt (Nat.lt_of_lt_of_le PF_v1_element.lt (Nat.le_of_eq g_1.symm))
  have ne_x1_b_1 : x1 ≠ b_1 := Nat.ne_of_lt (Nat.lt_of_lt_of_le PE_x1.lt (Nat.le_of_eq g_1.symm))
  have ne_t1_b_1 : t1 ≠ b_1 := Nat.ne_of_lt (Nat.lt_of_lt_of_le PA_t1.lt (Nat.le_of_eq g_1.symm))
  have ne_v2_b_1 : v2 ≠ b_1 := Nat.ne_of_lt (Nat.lt_of_lt_of_le PF_v2_element.lt (Nat.le_of_eq g_1.symm))
  have ne_x2_b_1 : x2 ≠ b_1 := Nat.ne_of_lt (Nat.lt_of_lt_of_le PE_x2.lt (Nat.le_of_eq g_1.symm))
  have ne_t2_b_1 : t2 ≠ b_1 := Nat.ne_of_lt (Nat.lt_of_lt_of_le PA_t2.lt (Nat.le_of_eq g_1.symm))
  have ne_v3_b_1 : v3 ≠ b_1 := Nat.ne_of_lt (Nat.lt_of_lt_of_le PF_v3_element.lt (Nat.le_of_eq g_1.symm))
  have ne_x3_b_1 : x3 ≠ b_1 := Nat.ne_of_lt (Nat.lt_of_lt_of_le PE_x3.lt (Nat.le_of_eq g_1.symm))
  have ne_t3_b_1 : t3 ≠ b_1 := Nat.ne_of_lt (Nat.lt_of_lt_of_le PA_t3.lt (Nat.le_of_eq g_1.symm))
  have ne_a5_b_1 : a5 ≠ b_1 := Nat.ne_of_lt (Nat.lt_of_lt_of_le PE_a5.lt (Nat.le_of_eq g_1.symm))
  have ne_t5_b_1 : t5 ≠ b_1 := Nat.ne_of_lt (Nat.lt_of_lt_of_le PA_t5.lt (Nat.le_of_eq g_1.symm))
  have V_b_1 : Arv Z h_1 b_1 k_1 .char (7 : Int32) [(.int (0 : Int32)), (.int (0 : Int32)), (.int (0 : Int32)), (.int (0 : Int32)), (.int (0 : Int32)), (.int (0 : Int32)), (.int (0 : Int32))] (.int (0 : Int32)) := (Arv.new A_1 (by decide)).pad (pad_rep [] (.int (0 : Int32)) 7)
  refine Go.to (mkF m 52 #[.val (.int p1), .val (.int p2), .val (.int p3), .val (.int p4), .val (.int (p1 &&& (3 : Int32))), .val (.ref a5), .val (.int (((p1.toUInt32 >>> ((2 : Int32) &&& 31).toUInt32).toInt32) &&& (3 : Int32))), .unset, .unset, .unset] [(.ref b_1)]) st_1 ?_
  refine Go.to (mkF m 54 #[.val (.int p1), .val (.int p2), .val (.int p3), .val (.int p4), .val (.int (p1 &&& (3 : Int32))), .val (.ref a5), .val (.int (((p1.toUInt32 >>> ((2 : Int32) &&& 31).toUInt32).toInt32) &&& (3 : Int32))), .val (.ref b_1), .unset, .unset] []) (fun _ k => XS.astore X_1.here hx rfl (hb hby at_52) rfl rfl (l' := #[.val (.int p1), .val (.int p2), .val (.int p3), .val (.int p4), .val (.int (p1 &&& (3 : Int32))), .val (.ref a5), .val (.int (((p1.toUInt32 >>> ((2 : Int32) &&& 31).toUInt32).toInt32) &&& (3 : Int32))), .val (.ref b_1), .unset, .unset]) rfl k) ?_
  refine Go.to (mkF m 56 #[.val (.int p1), .val (.int p2), .val (.int p3), .val (.int p4), .val (.int (p1 &&& (3 : Int32))), .val (.ref a5), .val (.int (((p1.toUInt32 >>> ((2 : Int32) &&& 31).toUInt32).toInt32) &&& (3 : Int32))), .val (.ref b_1), .unset, .unset] [(.ref b_1)]) (fun _ k => XS.aload X_1.here hx rfl (hb hby at_54) rfl rfl k) ?_
  refine Go.to (mkF m 57 #[.val (.int p1), .val (.int p2), .val (.int p3), .val (.int p4), .val (.int (p1 &&& (3 : Int32))), .val (.ref a5), .val (.int (((p1.toUInt32 >>> ((2 : Int32) &&& 31).toUInt32).toInt32) &&& (3 : Int32))), .val (.ref b_1), .unset, .unset] [(.int (0 : Int32)), (.ref b_1)]) (fun _ k => XS.iconst X_1.here hx rfl (hb hby at_56) k) ?_
  refine Go.to (mkF m 59 #[.val (.int p1), .val (.int p2), .val (.int p3), .val (.int p4), .val (.int (p1 &&& (3 : Int32))), .val (.ref a5), .val (.int (((p1.toUInt32 >>> ((2 : Int32) &&& 31).toUInt32).toInt32) &&& (3 : Int32))), .val (.ref b_1), .unset, .unset] [(.ref a5), (.int (0 : Int32)), (.ref b_1)]) (fun _ k => XS.aload X_1.here hx rfl (hb hby at_57) rfl rfl k) ?_
  refine Go.to (mkF m 60 #[.val (.int p1), .val (.int p2), .val (.int p3), .val (.int p4), .val (.int (p1 &&& (3 : Int32))), .val (.ref a5), .val (.int (((p1.toUInt32 >>> ((2 : Int32) &&& 31).toUInt32).toInt32) &&& (3 : Int32))), .val (.ref b_1), .unset, .unset] [(.int (0 : Int32)), (.ref a5), (.int (0 : Int32)), (.ref b_1)]) (fun _ k => XS.iconst X_1.here hx rfl (hb hby at_59) k) ?_
  have f_2 : Exa Z h_1 a5 "java/lang/String" := (PE_a5.ext E_1)
  have f_3 : Fld Z h_1 a5 "java/lang/String" "value" "[B" (.ref t5) := (PF_a5_value.ext E_1)
  have f_4 : Fld Z h_1 a5 "java/lang/String" "coder" "B" (.int (0 : Int32)) := (PF_a5_coder.ext E_1)
  have f_5 : Arv Z h_1 t5 kb5 .byte (6 : Int32) (own_str ([c0, c1, c2, c3, c4, c5] : List Int32)) (.int (0 : Int32)) := (PA_t5.ext E_1)
  have f_6 : Sta Z h_1 "java/lang/String" "COMPACT_STRINGS" "Z" (.int z) := (PS_java_lang_String_COMPACT_STRINGS.ext E_1)
  have f_7 : Sta Z h_1 "jdk/internal/util/Preconditions" "SIOOBE_FORMATTER" "Ljava/util/function/BiFunction;" fm := (PS_jdk_internal_util_Preconditions_SIOOBE_FORMATTER.ext E_1)
  have f_8 : n0 ≤ h_1.size := (Nat.le_trans Z0 E_1.1)
  refine Go.virt X_1 hx hZ (y := (⟨"java/lang/String", "charAt", "(I)C"⟩ : MethodName)) (z := (⟨"java/lang/String", "charAt", "(I)C"⟩ : MethodName)) hown (hw _ (List.mem_of_getElem? (i := 9) rfl)) (hw _ (List.mem_of_getElem? (i := 10) rfl)) (notFace_of_selects (args := #[]) (mvT hZ (hw _ (List.mem_of_getElem? (i := 12) rfl)))) (hw _ (List.mem_of_getElem? (i := 12) rfl)) (hw _ (List.mem_of_getElem? (i := 11) rfl)) (by decide) e_1 (a := a5) f_2 (argsL := [(.int (0 : Int32))]) (rest := [(.int (0 : Int32)), (.ref b_1)]) (own_chS (W := 2) (n0 := n0) hZ hw (hw _ (List.mem_of_getElem? (i := 2) rfl)) (cs := ([c0, c1, c2, c3, c4, c5] : List Int32)) (i := 0) f_2 f_3 f_4 f_5 f_6 hz f_7 rf (rfl : (([c0, c1, c2, c3, c4, c5] : List Int32)).length = 6) rfl hp5 (show 6 ≤ 4000 from by decide) (show 0 < 6 from by decide) rfl (by decide) (by decide)) (pc := 60) (Ls := #[.val (.int p1), .val (.int p2), .val (.int p3), .val (.int p4), .val (.int (p1 &&& (3 : Int32))), .val (.ref a5), .val (.int (((p1.toUInt32 >>> ((2 : Int32) &&& 31).toUInt32).toInt32) &&& (3 : Int32))), .val (.ref b_1), .unset, .unset]) (by rw [hml]; rfl) (lenOf own_pd6 rfl) rfl (Nat.le_refl _) (hb hby at_60) (by decide) (by decide) ?_
  intro T_9 v_9 L_9 X_9 hQ_9
  obtain ⟨rfl, Nq_9, hh_9⟩ := hQ_9
  have N_9 := Fr.app N0 Nq_9
  show Go p e below (FinW s (Q0 Z p1 p2 p3 p4 av kv v0 v1 v2 v3 x0 t0 kt0 x1 t1 kt1 x2 t2 kt2 x3 t3 kt3 z fm hq n0) room_1.cells room_1.slots) T_9 (mkF m 63 #[.val (.int p1), .val (.int p2), .val (.int p3), .val (.int p4), .val (.int (p1 &&& (3 : Int32))), .val (.ref a5), .val (.int (((p1.toUInt32 >>> ((2 : Int32) &&& 31).toUInt32).toInt32) &&& (3 : Int32))), .val (.ref b_1), .unset, .unset] [(.int ((([c0, c1, c2, c3, c4, c5] : List Int32)).getD 0 0)), (.int (0 : Int32)), (.ref b_1)])
  show Go p e below (FinW s (Q0 Z p1 p2 p3 p4 av kv v0 v1 v2 v3 x0 t0 kt0 x1 t1 kt1 x2 t2 kt2 x3 t3 kt3 z fm hq n0) room_1.cells room_1.slots) T_9 (mkF m 63 #[.val (.int p1), .val (.int p2), .val (.int p3), .val (.int p4), .val (.int (p1 &&& (3 : Int32))), .val (.ref a5), .val (.int (((p1.toUInt32 >>> ((2 : Int32) &&& 31).toUInt32).toInt32) &&& (3 : Int32))), .val (.ref b_1), .unset, .unset] [(.int c0), (.int (0 : Int32)), (.ref b_1)])
  obtain ⟨cl_10, Ar_10, q_10, Sz_10, Ng_10, Hh_10, Gg_10⟩ := id V_b_1
  have hin_10 : ¬ ((0 : Int32) < 0 ∨ cl_10.slots.size ≤ ((0 : Int32)).toNatClampNeg) := inb_of Sz_10 ⟨by decide, by decide⟩
  obtain ⟨T_10, h_10, X_10, e_10, W_10, st_10⟩ := stC X_9 hx hZ hh_9 Ar_10 (j := (0 : Int32)) hin_10 (g := (mkF m 63 #[.val (.int p1), .val (.int p2), .val (.int p3), .val (.int p4), .val (.int (p1 &&& (3 : Int32))), .val (.ref a5), .val (.int (((p1.toUInt32 >>> ((2 : Int32) &&& 31).toUInt32).toInt32) &&& (3 : Int32))), .val (.ref b_1), .unset, .unset] [(.int c0), (.int (0 : Int32)), (.ref b_1)])) rfl rfl (hb hby at_63)
  have N_10 := Fr.snoc X_10 N_9 g_b_1
  have V_10 : Arv Z h_10 b_1 k_1 .char (7 : Int32) [(.int (nar .char c0)), (.int (0 : Int32)), (.int (0 : Int32)), (.int (0 : Int32)), (.int (0 : Int32)), (.int (0 : Int32)), (.int (0 : Int32))] (.int (0 : Int32)) := Arv.set Ar_10 q_10 Sz_10 Ng_10 Hh_10 Gg_10 (fits_nar_char _) W_10 0 rfl (Nat.le_of_ble_eq_true rfl)
  have Vn_10 : Arv Z h_10 b_1 k_1 .char (7 : Int32) [(.int c0), (.int (0 : Int32)), (.int (0 : Int32)), (.int (0 : Int32)), (.int (0 : Int32)), (.int (0 : Int32)), (.int (0 : Int32))] (.int (0 : Int32)) := by have q := V_10; rw [own_nc (own_az hc0)] at q; exact q
  refine Go.to (mkF m 64 #[.val (.int p1), .val (.int p2), .val (.int p3), .val (.int p4), .val (.int (p1 &&& (3 : Int32))), .val (.ref a5), .val (.int (((p1.toUInt32 >>> ((2 : Int32) &&& 31).toUInt32).toInt32) &&& (3 : Int32))), .val (.ref b_1), .unset, .unset] []) st_10 ?_
  refine Go.to (mkF m 66 #[.val (.int p1), .val (.int p2), .val (.int p3), .val (.int p4), .val (.int (p1 &&& (3 : Int32))), .val (.ref a5), .val (.int (((p1.toUInt32 >>> ((2 : Int32) &&& 31).toUInt32).toInt32) &&& (3 : Int32))), .val (.ref b_1), .unset, .unset] [(.ref b_1)]) (fun _ k => XS.aload X_10.here hx rfl (hb hby at_64) rfl rfl k) ?_
  refine Go.to (mkF m 67 #[.val (.int p1), .val (.int p2), .val (.int p3), .val (.int p4), .val (.int (p1 &&& (3 : Int32))), .val (.ref a5), .val (.int (((p1.toUInt32 >>> ((2 : Int32) &&& 31).toUInt32).toInt32) &&& (3 : Int32))), .val (.ref b_1), .unset, .unset] [(.int (1 : Int32)), (.ref b_1)]) (fun _ k => XS.iconst X_10.here hx rfl (hb hby at_66) k) ?_
  refine Go.to (mkF m 69 #[.val (.int p1), .val (.int p2), .val (.int p3), .val (.int p4), .val (.int (p1 &&& (3 : Int32))), .val (.ref a5), .val (.int (((p1.toUInt32 >>> ((2 : Int32) &&& 31).toUInt32).toInt32) &&& (3 : Int32))), .val (.ref b_1), .unset, .unset] [(.ref a5), (.int (1 : Int32)), (.ref b_1)]) (fun _ k => XS.aload X_10.here hx rfl (hb hby at_67) rfl rfl k) ?_
  refine Go.to (mkF m 70 #[.val (.int p1), .val (.int p2), .val (.int p3), .val (.int p4), .val (.int (p1 &&& (3 : Int32))), .val (.ref a5), .val (.int (((p1.toUInt32 >>> ((2 : Int32) &&& 31).toUInt32).toInt32) &&& (3 : Int32))), .val (.ref b_1), .unset, .unset] [(.int (1 : Int32)), (.ref a5), (.int (1 : Int32)), (.ref b_1)]) (fun _ k => XS.iconst X_10.here hx rfl (hb hby at_69) k) ?_
  have f_11 : Exa Z h_10 a5 "java/lang/String" := (f_2.wr W_10)
  have f_12 : Fld Z h_10 a5 "java/lang/String" "value" "[B" (.ref t5) := (f_3.other W_10 (Or.inl ne_a5_b_1))
  have f_13 : Fld Z h_10 a5 "java/lang/String" "coder" "B" (.int (0 : Int32)) := (f_4.other W_10 (Or.inl ne_a5_b_1))
  have f_14 : Arv Z h_10 t5 kb5 .byte (6 : Int32) (own_str ([c0, c1, c2, c3, c4, c5] : List Int32)) (.int (0 : Int32)) := (f_5.other W_10 ne_t5_b_1)
  have f_15 : Sta Z h_10 "java/lang/String" "COMPACT_STRINGS" "Z" (.int z) := (f_6.wr W_10)
  have f_16 : Sta Z h_10 "jdk/internal/util/Preconditions" "SIOOBE_FORMATTER" "Ljava/util/function/BiFunction;" fm := (f_7.wr W_10)
  have f_17 : n0 ≤ h_10.size := (Nat.le_trans f_8 (Keep.of_wr W_10).1)
  refine Go.virt X_10 hx hZ (y := (⟨"java/lang/String", "charAt", "(I)C"⟩ : MethodName)) (z := (⟨"java/lang/String", "charAt", "(I)C"⟩ : MethodName)) hown (hw _ (List.mem_of_getElem? (i := 9) rfl)) (hw _ (List.mem_of_getElem? (i := 10) rfl)) (notFace_of_selects (args := #[]) (mvT hZ (hw _ (List.mem_of_getElem? (i := 12) rfl)))) (hw _ (List.mem_of_getElem? (i := 12) rfl)) (hw _ (List.mem_of_getElem? (i := 11) rfl)) (by decide) e_10 (a := a5) f_11 (argsL := [(.int (1 : Int32))]) (rest := [(.int (1 : Int32)), (.ref b_1)]) (own_chS (W := 2) (n0 := n0) hZ hw (hw _ (List.mem_of_getElem? (i := 2) rfl)) (cs := ([c0, c1, c2, c3, c4, c5] : List Int32)) (i := 1) f_11 f_12 f_13 f_14 f_15 hz f_16 rf (rfl : (([c0, c1, c2, c3, c4, c5] : List Int32)).length = 6) rfl hp5 (show 6 ≤ 4000 from by decide) (show 1 < 6 from by decide) rfl (by decide) (by decide)) (pc := 70) (Ls := #[.val (.int p1), .val (.int p2), .val (.int p3), .val (.int p4), .val (.int (p1 &&& (3 : Int32))), .val (.ref a5), .val (.int (((p1.toUInt32 >>> ((2 : Int32) &&& 31).toUInt32).toInt32) &&& (3 : Int32))), .val (.ref b_1), .unset, .unset]) (by rw [hml]; rfl) (lenOf own_pd6 rfl) rfl (Nat.le_refl _) (hb hby at_70) (by decide) (by decide) ?_
  intro T_18 v_18 L_18 X_18 hQ_18
  obtain ⟨rfl, Nq_18, hh_18⟩ := hQ_18
  have N_18 := Fr.app N_10 Nq_18
  show Go p e below (FinW s (Q0 Z p1 p2 p3 p4 av kv v0 v1 v2 v3 x0 t0 kt0 x1 t1 kt1 x2 t2 kt2 x3 t3 kt3 z fm hq n0) room_1.cells room_1.slots) T_18 (mkF m 73 #[.val (.int p1), .val (.int p2), .val (.int p3), .val (.int p4), .val (.int (p1 &&& (3 : Int32))), .val (.ref a5), .val (.int (((p1.toUInt32 >>> ((2 : Int32) &&& 31).toUInt32).toInt32) &&& (3 : Int32))), .val (.ref b_1), .unset, .unset] [(.int ((([c0, c1, c2, c3, c4, c5] : List Int32)).getD 1 0)), (.int (1 : Int32)), (.ref b_1)])
  show Go p e below (FinW s (Q0 Z p1 p2 p3 p4 av kv v0 v1 v2 v3 x0 t0 kt0 x1 t1 kt1 x2 t2 kt2 x3 t3 kt3 z fm hq n0) room_1.cells room_1.slots) T_18 (mkF m 73 #[.val (.int p1), .val (.int p2), .val (.int p3), .val (.int p4), .val (.int (p1 &&& (3 : Int32))), .val (.ref a5), .val (.int (((p1.toUInt32 >>> ((2 : Int32) &&& 31).toUInt32).toInt32) &&& (3 : Int32))), .val (.ref b_1), .unset, .unset] [(.int c1), (.int (1 : Int32)), (.ref b_1)])
  obtain ⟨cl_19, Ar_19, q_19, Sz_19, Ng_19, Hh_19, Gg_19⟩ := id Vn_10
  have hin_19 : ¬ ((1 : Int32) < 0 ∨ cl_19.slots.size ≤ ((1 : Int32)).toNatClampNeg) := inb_of Sz_19 ⟨by decide, by decide⟩
  obtain ⟨T_19, h_19, X_19, e_19, W_19, st_19⟩ := stC X_18 hx hZ hh_18 Ar_19 (j := (1 : Int32)) hin_19 (g := (mkF m 73 #[.val (.int p1), .val (.int p2), .val (.int p3), .val (.int p4), .val (.int (p1 &&& (3 : Int32))), .val (.ref a5), .val (.int (((p1.toUInt32 >>> ((2 : Int32) &&& 31).toUInt32).toInt32) &&& (3 : Int32))), .val (.ref b_1), .unset, .unset] [(.int c1), (.int (1 : Int32)), (.ref b_1)])) rfl rfl (hb hby at_73)
  have N_19 := Fr.snoc X_19 N_18 g_b_1
  have V_19 : Arv Z h_19 b_1 k_1 .char (7 : Int32) [(.int c0), (.int (nar .char c1)), (.int (0 : Int32)), (.int (0 : Int32)), (.int (0 : Int32)), (.int (0 : Int32)), (.int (0 : Int32))] (.int (0 : Int32)) := Arv.set Ar_19 q_19 Sz_19 Ng_19 Hh_19 Gg_19 (fits_nar_char _) W_19 1 rfl (Nat.le_of_ble_eq_true rfl)
  have Vn_19 : Arv Z h_19 b_1 k_1 .char (7 : Int32) [(.int c0), (.int c1), (.int (0 : Int32)), (.int (0 : Int32)), (.int (0 : Int32)), (.int (0 : Int32)), (.int (0 : Int32))] (.int (0 : Int32)) := by have q := V_19; rw [own_nc (own_az hc1)] at q; exact q
  refine Go.to (mkF m 74 #[.val (.int p1), .val (.int p2), .val (.int p3), .val (.int p4), .val (.int (p1 &&& (3 : Int32))), .val (.ref a5), .val (.int (((p1.toUInt32 >>> ((2 : Int32) &&& 31).toUInt32).toInt32) &&& (3 : Int32))), .val (.ref b_1), .unset, .unset] []) st_19 ?_
  refine Go.to (mkF m 76 #[.val (.int p1), .val (.int p2), .val (.int p3), .val (.int p4), .val (.int (p1 &&& (3 : Int32))), .val (.ref a5), .val (.int (((p1.toUInt32 >>> ((2 : Int32) &&& 31).toUInt32).toInt32) &&& (3 : Int32))), .val (.ref b_1), .unset, .unset] [(.ref b_1)]) (fun _ k => XS.aload X_19.here hx rfl (hb hby at_74) rfl rfl k) ?_
  refine Go.to (mkF m 77 #[.val (.int p1), .val (.int p2), .val (.int p3), .val (.int p4), .val (.int (p1 &&& (3 : Int32))), .val (.ref a5), .val (.int (((p1.toUInt32 >>> ((2 : Int32) &&& 31).toUInt32).toInt32) &&& (3 : Int32))), .val (.ref b_1), .unset, .unset] [(.int (2 : Int32)), (.ref b_1)]) (fun _ k => XS.iconst X_19.here hx rfl (hb hby at_76) k) ?_
  refine Go.to (mkF m 79 #[.val (.int p1), .val (.int p2), .val (.int p3), .val (.int p4), .val (.int (p1 &&& (3 : Int32))), .val (.ref a5), .val (.int (((p1.toUInt32 >>> ((2 : Int32) &&& 31).toUInt32).toInt32) &&& (3 : Int32))), .val (.ref b_1), .unset, .unset] [(.ref a5), (.int (2 : Int32)), (.ref b_1)]) (fun _ k => XS.aload X_19.here hx rfl (hb hby at_77) rfl rfl k) ?_
  refine Go.to (mkF m 80 #[.val (.int p1), .val (.int p2), .val (.int p3), .val (.int p4), .val (.int (p1 &&& (3 : Int32))), .val (.ref a5), .val (.int (((p1.toUInt32 >>> ((2 : Int32) &&& 31).toUInt32).toInt32) &&& (3 : Int32))), .val (.ref b_1), .unset, .unset] [(.int (2 : Int32)), (.ref a5), (.int (2 : Int32)), (.ref b_1)]) (fun _ k => XS.iconst X_19.here hx rfl (hb hby at_79) k) ?_
  have f_20 : Exa Z h_19 a5 "java/lang/String" := (f_11.wr W_19)
  have f_21 : Fld Z h_19 a5 "java/lang/String" "value" "[B" (.ref t5) := (f_12.other W_19 (Or.inl ne_a5_b_1))
  have f_22 : Fld Z h_19 a5 "java/lang/String" "coder" "B" (.int (0 : Int32)) := (f_13.other W_19 (Or.inl ne_a5_b_1))
  have f_23 : Arv Z h_19 t5 kb5 .byte (6 : Int32) (own_str ([c0, c1, c2, c3, c4, c5] : List Int32)) (.int (0 : Int32)) := (f_14.other W_19 ne_t5_b_1)
  have f_24 : Sta Z h_19 "java/lang/String" "COMPACT_STRINGS" "Z" (.int z) := (f_15.wr W_19)
  have f_25 : Sta Z h_19 "jdk/internal/util/Preconditions" "SIOOBE_FORMATTER" "Ljava/util/function/BiFunction;" fm := (f_16.wr W_19)
  have f_26 : n0 ≤ h_19.size := (Nat.le_trans f_17 (Keep.of_wr W_19).1)
  refine Go.virt X_19 hx hZ (y := (⟨"java/lang/String", "charAt", "(I)C"⟩ : MethodName)) (z := (⟨"java/lang/String", "charAt", "(I)C"⟩ : MethodName)) hown (hw _ (List.mem_of_getElem? (i := 9) rfl)) (hw _ (List.mem_of_getElem? (i := 10) rfl)) (notFace_of_selects (args := #[]) (mvT hZ (hw _ (List.mem_of_getElem? (i := 12) rfl)))) (hw _ (List.mem_of_getElem? (i := 12) rfl)) (hw _ (List.mem_of_getElem? (i := 11) rfl)) (by decide) e_19 (a := a5) f_20 (argsL := [(.int (2 : Int32))]) (rest := [(.int (2 : Int32)), (.ref b_1)]) (own_chS (W := 2) (n0 := n0) hZ hw (hw _ (List.mem_of_getElem? (i := 2) rfl)) (cs := ([c0, c1, c2, c3, c4, c5] : List Int32)) (i := 2) f_20 f_21 f_22 f_23 f_24 hz f_25 rf (rfl : (([c0, c1, c2, c3, c4, c5] : List Int32)).length = 6) rfl hp5 (show 6 ≤ 4000 from by decide) (show 2 < 6 from by decide) rfl (by decide) (by decide)) (pc := 80) (Ls := #[.val (.int p1), .val (.int p2), .val (.int p3), .val (.int p4), .val (.int (p1 &&& (3 : Int32))), .val (.ref a5), .val (.int (((p1.toUInt32 >>> ((2 : Int32) &&& 31).toUInt32).toInt32) &&& (3 : Int32))), .val (.ref b_1), .unset, .unset]) (by rw [hml]; rfl) (lenOf own_pd6 rfl) rfl (Nat.le_refl _) (hb hby at_80) (by decide) (by decide) ?_
  intro T_27 v_27 L_27 X_27 hQ_27
  obtain ⟨rfl, Nq_27, hh_27⟩ := hQ_27
  have N_27 := Fr.app N_19 Nq_27
  show Go p e below (FinW s (Q0 Z p1 p2 p3 p4 av kv v0 v1 v2 v3 x0 t0 kt0 x1 t1 kt1 x2 t2 kt2 x3 t3 kt3 z fm hq n0) room_1.cells room_1.slots) T_27 (mkF m 83 #[.val (.int p1), .val (.int p2), .val (.int p3), .val (.int p4), .val (.int (p1 &&& (3 : Int32))), .val (.ref a5), .val (.int (((p1.toUInt32 >>> ((2 : Int32) &&& 31).toUInt32).toInt32) &&& (3 : Int32))), .val (.ref b_1), .unset, .unset] [(.int ((([c0, c1, c2, c3, c4, c5] : List Int32)).getD 2 0)), (.int (2 : Int32)), (.ref b_1)])
  show Go p e below (FinW s (Q0 Z p1 p2 p3 p4 av kv v0 v1 v2 v3 x0 t0 kt0 x1 t1 kt1 x2 t2 kt2 x3 t3 kt3 z fm hq n0) room_1.cells room_1.slots) T_27 (mkF m 83 #[.val (.int p1), .val (.int p2), .val (.int p3), .val (.int p4), .val (.int (p1 &&& (3 : Int32))), .val (.ref a5), .val (.int (((p1.toUInt32 >>> ((2 : Int32) &&& 31).toUInt32).toInt32) &&& (3 : Int32))), .val (.ref b_1), .unset, .unset] [(.int c2), (.int (2 : Int32)), (.ref b_1)])
  obtain ⟨cl_28, Ar_28, q_28, Sz_28, Ng_28, Hh_28, Gg_28⟩ := id Vn_19
  have hin_28 : ¬ ((2 : Int32) < 0 ∨ cl_28.slots.size ≤ ((2 : Int32)).toNatClampNeg) := inb_of Sz_28 ⟨by decide, by decide⟩
  obtain ⟨T_28, h_28, X_28, e_28, W_28, st_28⟩ := stC X_27 hx hZ hh_27 Ar_28 (j := (2 : Int32)) hin_28 (g := (mkF m 83 #[.val (.int p1), .val (.int p2), .val (.int p3), .val (.int p4), .val (.int (p1 &&& (3 : Int32))), .val (.ref a5), .val (.int (((p1.toUInt32 >>> ((2 : Int32) &&& 31).toUInt32).toInt32) &&& (3 : Int32))), .val (.ref b_1), .unset, .unset] [(.int c2), (.int (2 : Int32)), (.ref b_1)])) rfl rfl (hb hby at_83)
  have N_28 := Fr.snoc X_28 N_27 g_b_1
  have V_28 : Arv Z h_28 b_1 k_1 .char (7 : Int32) [(.int c0), (.int c1), (.int (nar .char c2)), (.int (0 : Int32)), (.int (0 : Int32)), (.int (0 : Int32)), (.int (0 : Int32))] (.int (0 : Int32)) := Arv.set Ar_28 q_28 Sz_28 Ng_28 Hh_28 Gg_28 (fits_nar_char _) W_28 2 rfl (Nat.le_of_ble_eq_true rfl)
  have Vn_28 : Arv Z h_28 b_1 k_1 .char (7 : Int32) [(.int c0), (.int c1), (.int c2), (.int (0 : Int32)), (.int (0 : Int32)), (.int (0 : Int32)), (.int (0 : Int32))] (.int (0 : Int32)) := by have q := V_28; rw [own_nc (own_az hc2)] at q; exact q
  refine Go.to (mkF m 84 #[.val (.int p1), .val (.int p2), .val (.int p3), .val (.int p4), .val (.int (p1 &&& (3 : Int32))), .val (.ref a5), .val (.int (((p1.toUInt32 >>> ((2 : Int32) &&& 31).toUInt32).toInt32) &&& (3 : Int32))), .val (.ref b_1), .unset, .unset] []) st_28 ?_
  refine Go.to (mkF m 86 #[.val (.int p1), .val (.int p2), .val (.int p3), .val (.int p4), .val (.int (p1 &&& (3 : Int32))), .val (.ref a5), .val (.int (((p1.toUInt32 >>> ((2 : Int32) &&& 31).toUInt32).toInt32) &&& (3 : Int32))), .val (.ref b_1), .unset, .unset] [(.ref b_1)]) (fun _ k => XS.aload X_28.here hx rfl (hb hby at_84) rfl rfl k) ?_
  refine Go.to (mkF m 87 #[.val (.int p1), .val (.int p2), .val (.int p3), .val (.int p4), .val (.int (p1 &&& (3 : Int32))), .val (.ref a5), .val (.int (((p1.toUInt32 >>> ((2 : Int32) &&& 31).toUInt32).toInt32) &&& (3 : Int32))), .val (.ref b_1), .unset, .unset] [(.int (3 : Int32)), (.ref b_1)]) (fun _ k => XS.iconst X_28.here hx rfl (hb hby at_86) k) ?_
  refine Go.to (mkF m 89 #[.val (.int p1), .val (.int p2), .val (.int p3), .val (.int p4), .val (.int (p1 &&& (3 : Int32))), .val (.ref a5), .val (.int (((p1.toUInt32 >>> ((2 : Int32) &&& 31).toUInt32).toInt32) &&& (3 : Int32))), .val (.ref b_1), .unset, .unset] [(.ref a5), (.int (3 : Int32)), (.ref b_1)]) (fun _ k => XS.aload X_28.here hx rfl (hb hby at_87) rfl rfl k) ?_
  refine Go.to (mkF m 90 #[.val (.int p1), .val (.int p2), .val (.int p3), .val (.int p4), .val (.int (p1 &&& (3 : Int32))), .val (.ref a5), .val (.int (((p1.toUInt32 >>> ((2 : Int32) &&& 31).toUInt32).toInt32) &&& (3 : Int32))), .val (.ref b_1), .unset, .unset] [(.int (3 : Int32)), (.ref a5), (.int (3 : Int32)), (.ref b_1)]) (fun _ k => XS.iconst X_28.here hx rfl (hb hby at_89) k) ?_
  have f_29 : Exa Z h_28 a5 "java/lang/String" := (f_20.wr W_28)
  have f_30 : Fld Z h_28 a5 "java/lang/String" "value" "[B" (.ref t5) := (f_21.other W_28 (Or.inl ne_a5_b_1))
  have f_31 : Fld Z h_28 a5 "java/lang/String" "coder" "B" (.int (0 : Int32)) := (f_22.other W_28 (Or.inl ne_a5_b_1))
  have f_32 : Arv Z h_28 t5 kb5 .byte (6 : Int32) (own_str ([c0, c1, c2, c3, c4, c5] : List Int32)) (.int (0 : Int32)) := (f_23.other W_28 ne_t5_b_1)
  have f_33 : Sta Z h_28 "java/lang/String" "COMPACT_STRINGS" "Z" (.int z) := (f_24.wr W_28)
  have f_34 : Sta Z h_28 "jdk/internal/util/Preconditions" "SIOOBE_FORMATTER" "Ljava/util/function/BiFunction;" fm := (f_25.wr W_28)
  have f_35 : n0 ≤ h_28.size := (Nat.le_trans f_26 (Keep.of_wr W_28).1)
  refine Go.virt X_28 hx hZ (y := (⟨"java/lang/String", "charAt", "(I)C"⟩ : MethodName)) (z := (⟨"java/lang/String", "charAt", "(I)C"⟩ : MethodName)) hown (hw _ (List.mem_of_getElem? (i := 9) rfl)) (hw _ (List.mem_of_getElem? (i := 10) rfl)) (notFace_of_selects (args := #[]) (mvT hZ (hw _ (List.mem_of_getElem? (i := 12) rfl)))) (hw _ (List.mem_of_getElem? (i := 12) rfl)) (hw _ (List.mem_of_getElem? (i := 11) rfl)) (by decide) e_28 (a := a5) f_29 (argsL := [(.int (3 : Int32))]) (rest := [(.int (3 : Int32)), (.ref b_1)]) (own_chS (W := 2) (n0 := n0) hZ hw (hw _ (List.mem_of_getElem? (i := 2) rfl)) (cs := ([c0, c1, c2, c3, c4, c5] : List Int32)) (i := 3) f_29 f_30 f_31 f_32 f_33 hz f_34 rf (rfl : (([c0, c1, c2, c3, c4, c5] : List Int32)).length = 6) rfl hp5 (show 6 ≤ 4000 from by decide) (show 3 < 6 from by decide) rfl (by decide) (by decide)) (pc := 90) (Ls := #[.val (.int p1), .val (.int p2), .val (.int p3), .val (.int p4), .val (.int (p1 &&& (3 : Int32))), .val (.ref a5), .val (.int (((p1.toUInt32 >>> ((2 : Int32) &&& 31).toUInt32).toInt32) &&& (3 : Int32))), .val (.ref b_1), .unset, .unset]) (by rw [hml]; rfl) (lenOf own_pd6 rfl) rfl (Nat.le_refl _) (hb hby at_90) (by decide) (by decide) ?_
  intro T_36 v_36 L_36 X_36 hQ_36
  obtain ⟨rfl, Nq_36, hh_36⟩ := hQ_36
  have N_36 := Fr.app N_28 Nq_36
  show Go p e below (FinW s (Q0 Z p1 p2 p3 p4 av kv v0 v1 v2 v3 x0 t0 kt0 x1 t1 kt1 x2 t2 kt2 x3 t3 kt3 z fm hq n0) room_1.cells room_1.slots) T_36 (mkF m 93 #[.val (.int p1), .val (.int p2), .val (.int p3), .val (.int p4), .val (.int (p1 &&& (3 : Int32))), .val (.ref a5), .val (.int (((p1.toUInt32 >>> ((2 : Int32) &&& 31).toUInt32).toInt32) &&& (3 : Int32))), .val (.ref b_1), .unset, .unset] [(.int ((([c0, c1, c2, c3, c4, c5] : List Int32)).getD 3 0)), (.int (3 : Int32)), (.ref b_1)])
  show Go p e below (FinW s (Q0 Z p1 p2 p3 p4 av kv v0 v1 v2 v3 x0 t0 kt0 x1 t1 kt1 x2 t2 kt2 x3 t3 kt3 z fm hq n0) room_1.cells room_1.slots) T_36 (mkF m 93 #[.val (.int p1), .val (.int p2), .val (.int p3), .val (.int p4), .val (.int (p1 &&& (3 : Int32))), .val (.ref a5), .val (.int (((p1.toUInt32 >>> ((2 : Int32) &&& 31).toUInt32).toInt32) &&& (3 : Int32))), .val (.ref b_1), .unset, .unset] [(.int c3), (.int (3 : Int32)), (.ref b_1)])
  obtain ⟨cl_37, Ar_37, q_37, Sz_37, Ng_37, Hh_37, Gg_37⟩ := id Vn_28
  have hin_37 : ¬ ((3 : Int32) < 0 ∨ cl_37.slots.size ≤ ((3 : Int32)).toNatClampNeg) := inb_of Sz_37 ⟨by decide, by decide⟩
  obtain ⟨T_37, h_37, X_37, e_37, W_37, st_37⟩ := stC X_36 hx hZ hh_36 Ar_37 (j := (3 : Int32)) hin_37 (g := (mkF m 93 #[.val (.int p1), .val (.int p2), .val (.int p3), .val (.int p4), .val (.int (p1 &&& (3 : Int32))), .val (.ref a5), .val (.int (((p1.toUInt32 >>> ((2 : Int32) &&& 31).toUInt32).toInt32) &&& (3 : Int32))), .val (.ref b_1), .unset, .unset] [(.int c3), (.int (3 : Int32)), (.ref b_1)])) rfl rfl (hb hby at_93)
  have N_37 := Fr.snoc X_37 N_36 g_b_1
  have V_37 : Arv Z h_37 b_1 k_1 .char (7 : Int32) [(.int c0), (.int c1), (.int c2), (.int (nar .char c3)), (.int (0 : Int32)), (.int (0 : Int32)), (.int (0 : Int32))] (.int (0 : Int32)) := Arv.set Ar_37 q_37 Sz_37 Ng_37 Hh_37 Gg_37 (fits_nar_char _) W_37 3 rfl (Nat.le_of_ble_eq_true rfl)
  have Vn_37 : Arv Z h_37 b_1 k_1 .char (7 : Int32) [(.int c0), (.int c1), (.int c2), (.int c3), (.int (0 : Int32)), (.int (0 : Int32)), (.int (0 : Int32))] (.int (0 : Int32)) := by have q := V_37; rw [own_nc (own_az hc3)] at q; exact q
  refine Go.to (mkF m 94 #[.val (.int p1), .val (.int p2), .val (.int p3), .val (.int p4), .val (.int (p1 &&& (3 : Int32))), .val (.ref a5), .val (.int (((p1.toUInt32 >>> ((2 : Int32) &&& 31).toUInt32).toInt32) &&& (3 : Int32))), .val (.ref b_1), .unset, .unset] []) st_37 ?_
  refine Go.to (mkF m 96 #[.val (.int p1), .val (.int p2), .val (.int p3), .val (.int p4), .val (.int (p1 &&& (3 : Int32))), .val (.ref a5), .val (.int (((p1.toUInt32 >>> ((2 : Int32) &&& 31).toUInt32).toInt32) &&& (3 : Int32))), .val (.ref b_1), .unset, .unset] [(.ref b_1)]) (fun _ k => XS.aload X_37.here hx rfl (hb hby at_94) rfl rfl k) ?_
  refine Go.to (mkF m 97 #[.val (.int p1), .val (.int p2), .val (.int p3), .val (.int p4), .val (.int (p1 &&& (3 : Int32))), .val (.ref a5), .val (.int (((p1.toUInt32 >>> ((2 : Int32) &&& 31).toUInt32).toInt32) &&& (3 : Int32))), .val (.ref b_1), .unset, .unset] [(.int (4 : Int32)), (.ref b_1)]) (fun _ k => XS.iconst X_37.here hx rfl (hb hby at_96) k) ?_
  refine Go.to (mkF m 99 #[.val (.int p1), .val (.int p2), .val (.int p3), .val (.int p4), .val (.int (p1 &&& (3 : Int32))), .val (.ref a5), .val (.int (((p1.toUInt32 >>> ((2 : Int32) &&& 31).toUInt32).toInt32) &&& (3 : Int32))), .val (.ref b_1), .unset, .unset] [(.ref a5), (.int (4 : Int32)), (.ref b_1)]) (fun _ k => XS.aload X_37.here hx rfl (hb hby at_97) rfl rfl k) ?_
  refine Go.to (mkF m 100 #[.val (.int p1), .val (.int p2), .val (.int p3), .val (.int p4), .val (.int (p1 &&& (3 : Int32))), .val (.ref a5), .val (.int (((p1.toUInt32 >>> ((2 : Int32) &&& 31).toUInt32).toInt32) &&& (3 : Int32))), .val (.ref b_1), .unset, .unset] [(.int (4 : Int32)), (.ref a5), (.int (4 : Int32)), (.ref b_1)]) (fun _ k => XS.iconst X_37.here hx rfl (hb hby at_99) k) ?_
  have f_38 : Exa Z h_37 a5 "java/lang/String" := (f_29.wr W_37)
  have f_39 : Fld Z h_37 a5 "java/lang/String" "value" "[B" (.ref t5) := (f_30.other W_37 (Or.inl ne_a5_b_1))
  have f_40 : Fld Z h_37 a5 "java/lang/String" "coder" "B" (.int (0 : Int32)) := (f_31.other W_37 (Or.inl ne_a5_b_1))
  have f_41 : Arv Z h_37 t5 kb5 .byte (6 : Int32) (own_str ([c0, c1, c2, c3, c4, c5] : List Int32)) (.int (0 : Int32)) := (f_32.other W_37 ne_t5_b_1)
  have f_42 : Sta Z h_37 "java/lang/String" "COMPACT_STRINGS" "Z" (.int z) := (f_33.wr W_37)
  have f_43 : Sta Z h_37 "jdk/internal/util/Preconditions" "SIOOBE_FORMATTER" "Ljava/util/function/BiFunction;" fm := (f_34.wr W_37)
  have f_44 : n0 ≤ h_37.size := (Nat.le_trans f_35 (Keep.of_wr W_37).1)
  refine Go.virt X_37 hx hZ (y := (⟨"java/lang/String", "charAt", "(I)C"⟩ : MethodName)) (z := (⟨"java/lang/String", "charAt", "(I)C"⟩ : MethodName)) hown (hw _ (List.mem_of_getElem? (i := 9) rfl)) (hw _ (List.mem_of_getElem? (i := 10) rfl)) (notFace_of_selects (args := #[]) (mvT hZ (hw _ (List.mem_of_getElem? (i := 12) rfl)))) (hw _ (List.mem_of_getElem? (i := 12) rfl)) (hw _ (List.mem_of_getElem? (i := 11) rfl)) (by decide) e_37 (a := a5) f_38 (argsL := [(.int (4 : Int32))]) (rest := [(.int (4 : Int32)), (.ref b_1)]) (own_chS (W := 2) (n0 := n0) hZ hw (hw _ (List.mem_of_getElem? (i := 2) rfl)) (cs := ([c0, c1, c2, c3, c4, c5] : List Int32)) (i := 4) f_38 f_39 f_40 f_41 f_42 hz f_43 rf (rfl : (([c0, c1, c2, c3, c4, c5] : List Int32)).length = 6) rfl hp5 (show 6 ≤ 4000 from by decide) (show 4 < 6 from by decide) rfl (by decide) (by decide)) (pc := 100) (Ls := #[.val (.int p1), .val (.int p2), .val (.int p3), .val (.int p4), .val (.int (p1 &&& (3 : Int32))), .val (.ref a5), .val (.int (((p1.toUInt32 >>> ((2 : Int32) &&& 31).toUInt32).toInt32) &&& (3 : Int32))), .val (.ref b_1), .unset, .unset]) (by rw [hml]; rfl) (lenOf own_pd6 rfl) rfl (Nat.le_refl _) (hb hby at_100) (by decide) (by decide) ?_
  intro T_45 v_45 L_45 X_45 hQ_45
  obtain ⟨rfl, Nq_45, hh_45⟩ := hQ_45
  have N_45 := Fr.app N_37 Nq_45
  show Go p e below (FinW s (Q0 Z p1 p2 p3 p4 av kv v0 v1 v2 v3 x0 t0 kt0 x1 t1 kt1 x2 t2 kt2 x3 t3 kt3 z fm hq n0) room_1.cells room_1.slots) T_45 (mkF m 103 #[.val (.int p1), .val (.int p2), .val (.int p3), .val (.int p4), .val (.int (p1 &&& (3 : Int32))), .val (.ref a5), .val (.int (((p1.toUInt32 >>> ((2 : Int32) &&& 31).toUInt32).toInt32) &&& (3 : Int32))), .val (.ref b_1), .unset, .unset] [(.int ((([c0, c1, c2, c3, c4, c5] : List Int32)).getD 4 0)), (.int (4 : Int32)), (.ref b_1)])
  show Go p e below (FinW s (Q0 Z p1 p2 p3 p4 av kv v0 v1 v2 v3 x0 t0 kt0 x1 t1 kt1 x2 t2 kt2 x3 t3 kt3 z fm hq n0) room_1.cells room_1.slots) T_45 (mkF m 103 #[.val (.int p1), .val (.int p2), .val (.int p3), .val (.int p4), .val (.int (p1 &&& (3 : Int32))), .val (.ref a5), .val (.int (((p1.toUInt32 >>> ((2 : Int32) &&& 31).toUInt32).toInt32) &&& (3 : Int32))), .val (.ref b_1), .unset, .unset] [(.int c4), (.int (4 : Int32)), (.ref b_1)])
  obtain ⟨cl_46, Ar_46, q_46, Sz_46, Ng_46, Hh_46, Gg_46⟩ := id Vn_37
  have hin_46 : ¬ ((4 : Int32) < 0 ∨ cl_46.slots.size ≤ ((4 : Int32)).toNatClampNeg) := inb_of Sz_46 ⟨by decide, by decide⟩
  obtain ⟨T_46, h_46, X_46, e_46, W_46, st_46⟩ := stC X_45 hx hZ hh_45 Ar_46 (j := (4 : Int32)) hin_46 (g := (mkF m 103 #[.val (.int p1), .val (.int p2), .val (.int p3), .val (.int p4), .val (.int (p1 &&& (3 : Int32))), .val (.ref a5), .val (.int (((p1.toUInt32 >>> ((2 : Int32) &&& 31).toUInt32).toInt32) &&& (3 : Int32))), .val (.ref b_1), .unset, .unset] [(.int c4), (.int (4 : Int32)), (.ref b_1)])) rfl rfl (hb hby at_103)
  have N_46 := Fr.snoc X_46 N_45 g_b_1
  have V_46 : Arv Z h_46 b_1 k_1 .char (7 : Int32) [(.int c0), (.int c1), (.int c2), (.int c3), (.int (nar .char c4)), (.int (0 : Int32)), (.int (0 : Int32))] (.int (0 : Int32)) := Arv.set Ar_46 q_46 Sz_46 Ng_46 Hh_46 Gg_46 (fits_nar_char _) W_46 4 rfl (Nat.le_of_ble_eq_true rfl)
  have Vn_46 : Arv Z h_46 b_1 k_1 .char (7 : Int32) [(.int c0), (.int c1), (.int c2), (.int c3), (.int c4), (.int (0 : Int32)), (.int (0 : Int32))] (.int (0 : Int32)) := by have q := V_46; rw [own_nc (own_az hc4)] at q; exact q
  refine Go.to (mkF m 104 #[.val (.int p1), .val (.int p2), .val (.int p3), .val (.int p4), .val (.int (p1 &&& (3 : Int32))), .val (.ref a5), .val (.int (((p1.toUInt32 >>> ((2 : Int32) &&& 31).toUInt32).toInt32) &&& (3 : Int32))), .val (.ref b_1), .unset, .unset] []) st_46 ?_
  refine Go.to (mkF m 106 #[.val (.int p1), .val (.int p2), .val (.int p3), .val (.int p4), .val (.int (p1 &&& (3 : Int32))), .val (.ref a5), .val (.int (((p1.toUInt32 >>> ((2 : Int32) &&& 31).toUInt32).toInt32) &&& (3 : Int32))), .val (.ref b_1), .unset, .unset] [(.ref b_1)]) (fun _ k => XS.aload X_46.here hx rfl (hb hby at_104) rfl rfl k) ?_
  refine Go.to (mkF m 107 #[.val (.int p1), .val (.int p2), .val (.int p3), .val (.int p4), .val (.int (p1 &&& (3 : Int32))), .val (.ref a5), .val (.int (((p1.toUInt32 >>> ((2 : Int32) &&& 31).toUInt32).toInt32) &&& (3 : Int32))), .val (.ref b_1), .unset, .unset] [(.int (5 : Int32)), (.ref b_1)]) (fun _ k => XS.iconst X_46.here hx rfl (hb hby at_106) k) ?_
  refine Go.to (mkF m 109 #[.val (.int p1), .val (.int p2), .val (.int p3), .val (.int p4), .val (.int (p1 &&& (3 : Int32))), .val (.ref a5), .val (.int (((p1.toUInt32 >>> ((2 : Int32) &&& 31).toUInt32).toInt32) &&& (3 : Int32))), .val (.ref b_1), .unset, .unset] [(.ref a5), (.int (5 : Int32)), (.ref b_1)]) (fun _ k => XS.aload X_46.here hx rfl (hb hby at_107) rfl rfl k) ?_
  refine Go.to (mkF m 110 #[.val (.int p1), .val (.int p2), .val (.int p3), .val (.int p4), .val (.int (p1 &&& (3 : Int32))), .val (.ref a5), .val (.int (((p1.toUInt32 >>> ((2 : Int32) &&& 31).toUInt32).toInt32) &&& (3 : Int32))), .val (.ref b_1), .unset, .unset] [(.int (5 : Int32)), (.ref a5), (.int (5 : Int32)), (.ref b_1)]) (fun _ k => XS.iconst X_46.here hx rfl (hb hby at_109) k) ?_
  have f_47 : Exa Z h_46 a5 "java/lang/String" := (f_38.wr W_46)
  have f_48 : Fld Z h_46 a5 "java/lang/String" "value" "[B" (.ref t5) := (f_39.other W_46 (Or.inl ne_a5_b_1))
  have f_49 : Fld Z h_46 a5 "java/lang/String" "coder" "B" (.int (0 : Int32)) := (f_40.other W_46 (Or.inl ne_a5_b_1))
  have f_50 : Arv Z h_46 t5 kb5 .byte (6 : Int32) (own_str ([c0, c1, c2, c3, c4, c5] : List Int32)) (.int (0 : Int32)) := (f_41.other W_46 ne_t5_b_1)
  have f_51 : Sta Z h_46 "java/lang/String" "COMPACT_STRINGS" "Z" (.int z) := (f_42.wr W_46)
  have f_52 : Sta Z h_46 "jdk/internal/util/Preconditions" "SIOOBE_FORMATTER" "Ljava/util/function/BiFunction;" fm := (f_43.wr W_46)
  have f_53 : n0 ≤ h_46.size := (Nat.le_trans f_44 (Keep.of_wr W_46).1)
  refine Go.virt X_46 hx hZ (y := (⟨"java/lang/String", "charAt", "(I)C"⟩ : MethodName)) (z := (⟨"java/lang/String", "charAt", "(I)C"⟩ : MethodName)) hown (hw _ (List.mem_of_getElem? (i := 9) rfl)) (hw _ (List.mem_of_getElem? (i := 10) rfl)) (notFace_of_selects (args := #[]) (mvT hZ (hw _ (List.mem_of_getElem? (i := 12) rfl)))) (hw _ (List.mem_of_getElem? (i := 12) rfl)) (hw _ (List.mem_of_getElem? (i := 11) rfl)) (by decide) e_46 (a := a5) f_47 (argsL := [(.int (5 : Int32))]) (rest := [(.int (5 : Int32)), (.ref b_1)]) (own_chS (W := 2) (n0 := n0) hZ hw (hw _ (List.mem_of_getElem? (i := 2) rfl)) (cs := ([c0, c1, c2, c3, c4, c5] : List Int32)) (i := 5) f_47 f_48 f_49 f_50 f_51 hz f_52 rf (rfl : (([c0, c1, c2, c3, c4, c5] : List Int32)).length = 6) rfl hp5 (show 6 ≤ 4000 from by decide) (show 5 < 6 from by decide) rfl (by decide) (by decide)) (pc := 110) (Ls := #[.val (.int p1), .val (.int p2), .val (.int p3), .val (.int p4), .val (.int (p1 &&& (3 : Int32))), .val (.ref a5), .val (.int (((p1.toUInt32 >>> ((2 : Int32) &&& 31).toUInt32).toInt32) &&& (3 : Int32))), .val (.ref b_1), .unset, .unset]) (by rw [hml]; rfl) (lenOf own_pd6 rfl) rfl (Nat.le_refl _) (hb hby at_110) (by decide) (by decide) ?_
  intro T_54 v_54 L_54 X_54 hQ_54
  obtain ⟨rfl, Nq_54, hh_54⟩ := hQ_54
  have N_54 := Fr.app N_46 Nq_54
  show Go p e below (FinW s (Q0 Z p1 p2 p3 p4 av kv v0 v1 v2 v3 x0 t0 kt0 x1 t1 kt1 x2 t2 kt2 x3 t3 kt3 z fm hq n0) room_1.cells room_1.slots) T_54 (mkF m 113 #[.val (.int p1), .val (.int p2), .val (.int p3), .val (.int p4), .val (.int (p1 &&& (3 : Int32))), .val (.ref a5), .val (.int (((p1.toUInt32 >>> ((2 : Int32) &&& 31).toUInt32).toInt32) &&& (3 : Int32))), .val (.ref b_1), .unset, .unset] [(.int ((([c0, c1, c2, c3, c4, c5] : List Int32)).getD 5 0)), (.int (5 : Int32)), (.ref b_1)])
  show Go p e below (FinW s (Q0 Z p1 p2 p3 p4 av kv v0 v1 v2 v3 x0 t0 kt0 x1 t1 kt1 x2 t2 kt2 x3 t3 kt3 z fm hq n0) room_1.cells room_1.slots) T_54 (mkF m 113 #[.val (.int p1), .val (.int p2), .val (.int p3), .val (.int p4), .val (.int (p1 &&& (3 : Int32))), .val (.ref a5), .val (.int (((p1.toUInt32 >>> ((2 : Int32) &&& 31).toUInt32).toInt32) &&& (3 : Int32))), .val (.ref b_1), .unset, .unset] [(.int c5), (.int (5 : Int32)), (.ref b_1)])
  obtain ⟨cl_55, Ar_55, q_55, Sz_55, Ng_55, Hh_55, Gg_55⟩ := id Vn_46
  have hin_55 : ¬ ((5 : Int32) < 0 ∨ cl_55.slots.size ≤ ((5 : Int32)).toNatClampNeg) := inb_of Sz_55 ⟨by decide, by decide⟩
  obtain ⟨T_55, h_55, X_55, e_55, W_55, st_55⟩ := stC X_54 hx hZ hh_54 Ar_55 (j := (5 : Int32)) hin_55 (g := (mkF m 113 #[.val (.int p1), .val (.int p2), .val (.int p3), .val (.int p4), .val (.int (p1 &&& (3 : Int32))), .val (.ref a5), .val (.int (((p1.toUInt32 >>> ((2 : Int32) &&& 31).toUInt32).toInt32) &&& (3 : Int32))), .val (.ref b_1), .unset, .unset] [(.int c5), (.int (5 : Int32)), (.ref b_1)])) rfl rfl (hb hby at_113)
  have N_55 := Fr.snoc X_55 N_54 g_b_1
  have V_55 : Arv Z h_55 b_1 k_1 .char (7 : Int32) [(.int c0), (.int c1), (.int c2), (.int c3), (.int c4), (.int (nar .char c5)), (.int (0 : Int32))] (.int (0 : Int32)) := Arv.set Ar_55 q_55 Sz_55 Ng_55 Hh_55 Gg_55 (fits_nar_char _) W_55 5 rfl (Nat.le_of_ble_eq_true rfl)
  have Vn_55 : Arv Z h_55 b_1 k_1 .char (7 : Int32) [(.int c0), (.int c1), (.int c2), (.int c3), (.int c4), (.int c5), (.int (0 : Int32))] (.int (0 : Int32)) := by have q := V_55; rw [own_nc (own_az hc5)] at q; exact q
  refine Go.to (mkF m 114 #[.val (.int p1), .val (.int p2), .val (.int p3), .val (.int p4), .val (.int (p1 &&& (3 : Int32))), .val (.ref a5), .val (.int (((p1.toUInt32 >>> ((2 : Int32) &&& 31).toUInt32).toInt32) &&& (3 : Int32))), .val (.ref b_1), .unset, .unset] []) st_55 ?_
  refine Go.to (mkF m 116 #[.val (.int p1), .val (.int p2), .val (.int p3), .val (.int p4), .val (.int (p1 &&& (3 : Int32))), .val (.ref a5), .val (.int (((p1.toUInt32 >>> ((2 : Int32) &&& 31).toUInt32).toInt32) &&& (3 : Int32))), .val (.ref b_1), .unset, .unset] [(.ref b_1)]) (fun _ k => XS.aload X_55.here hx rfl (hb hby at_114) rfl rfl k) ?_
  refine Go.to (mkF m 118 #[.val (.int p1), .val (.int p2), .val (.int p3), .val (.int p4), .val (.int (p1 &&& (3 : Int32))), .val (.ref a5), .val (.int (((p1.toUInt32 >>> ((2 : Int32) &&& 31).toUInt32).toInt32) &&& (3 : Int32))), .val (.ref b_1), .unset, .unset] [(.int (6 : Int32)), (.ref b_1)]) (fun _ k => XS.bipush X_55.here hx rfl (hb hby at_116) k) ?_
  refine Go.to (mkF m 119 #[.val (.int p1), .val (.int p2), .val (.int p3), .val (.int p4), .val (.int (p1 &&& (3 : Int32))), .val (.ref a5), .val (.int (((p1.toUInt32 >>> ((2 : Int32) &&& 31).toUInt32).toInt32) &&& (3 : Int32))), .val (.ref b_1), .unset, .unset] [(.int p3), (.int (6 : Int32)), (.ref b_1)]) (fun _ k => XS.iloadN X_55.here hx rfl (hb hby at_118) rfl  k) ?_
  refine Go.to (mkF m 122 #[.val (.int p1), .val (.int p2), .val (.int p3), .val (.int p4), .val (.int (p1 &&& (3 : Int32))), .val (.ref a5), .val (.int (((p1.toUInt32 >>> ((2 : Int32) &&& 31).toUInt32).toInt32) &&& (3 : Int32))), .val (.ref b_1), .unset, .unset] [(.int (255 : Int32)), (.int p3), (.int (6 : Int32)), (.ref b_1)]) (fun _ k => XS.sipush X_55.here hx rfl (hb hby at_119) k) ?_
  refine Go.to (mkF m 123 #[.val (.int p1), .val (.int p2), .val (.int p3), .val (.int p4), .val (.int (p1 &&& (3 : Int32))), .val (.ref a5), .val (.int (((p1.toUInt32 >>> ((2 : Int32) &&& 31).toUInt32).toInt32) &&& (3 : Int32))), .val (.ref b_1), .unset, .unset] [(.int (p3 &&& (255 : Int32))), (.int (6 : Int32)), (.ref b_1)]) (fun _ k => XS.iand X_55.here hx rfl (hb hby at_122) rfl k) ?_
  refine Go.to (mkF m 124 #[.val (.int p1), .val (.int p2), .val (.int p3), .val (.int p4), .val (.int (p1 &&& (3 : Int32))), .val (.ref a5), .val (.int (((p1.toUInt32 >>> ((2 : Int32) &&& 31).toUInt32).toInt32) &&& (3 : Int32))), .val (.ref b_1), .unset, .unset] [(.int ((p3 &&& (255 : Int32)).toUInt32.toUInt16.toUInt32.toInt32)), (.int (6 : Int32)), (.ref b_1)]) (fun _ k => XS.i2c X_55.here hx rfl (hb hby at_123) rfl k) ?_
  obtain ⟨cl_56, Ar_56, q_56, Sz_56, Ng_56, Hh_56, Gg_56⟩ := id Vn_55
  have hin_56 : ¬ ((6 : Int32) < 0 ∨ cl_56.slots.size ≤ ((6 : Int32)).toNatClampNeg) := inb_of Sz_56 ⟨by decide, by decide⟩
  obtain ⟨T_56, h_56, X_56, e_56, W_56, st_56⟩ := stC X_55 hx hZ e_55 Ar_56 (j := (6 : Int32)) hin_56 (g := (mkF m 124 #[.val (.int p1), .val (.int p2), .val (.int p3), .val (.int p4), .val (.int (p1 &&& (3 : Int32))), .val (.ref a5), .val (.int (((p1.toUInt32 >>> ((2 : Int32) &&& 31).toUInt32).toInt32) &&& (3 : Int32))), .val (.ref b_1), .unset, .unset] [(.int ((p3 &&& (255 : Int32)).toUInt32.toUInt16.toUInt32.toInt32)), (.int (6 : Int32)), (.ref b_1)])) rfl rfl (hb hby at_124)
  have N_56 := Fr.snoc X_56 N_55 g_b_1
  have V_56 : Arv Z h_56 b_1 k_1 .char (7 : Int32) [(.int c0), (.int c1), (.int c2), (.int c3), (.int c4), (.int c5), (.int (nar .char ((p3 &&& (255 : Int32)).toUInt32.toUInt16.toUInt32.toInt32)))] (.int (0 : Int32)) := Arv.set Ar_56 q_56 Sz_56 Ng_56 Hh_56 Gg_56 (fits_nar_char _) W_56 6 rfl (Nat.le_of_ble_eq_true rfl)
  refine Go.to (mkF m 125 #[.val (.int p1), .val (.int p2), .val (.int p3), .val (.int p4), .val (.int (p1 &&& (3 : Int32))), .val (.ref a5), .val (.int (((p1.toUInt32 >>> ((2 : Int32) &&& 31).toUInt32).toInt32) &&& (3 : Int32))), .val (.ref b_1), .unset, .unset] []) st_56 ?_
  refine Go.to (mkF m 127 #[.val (.int p1), .val (.int p2), .val (.int p3), .val (.int p4), .val (.int (p1 &&& (3 : Int32))), .val (.ref a5), .val (.int (((p1.toUInt32 >>> ((2 : Int32) &&& 31).toUInt32).toInt32) &&& (3 : Int32))), .val (.ref b_1), .unset, .unset] [(.int (6 : Int32))]) (fun _ k => XS.bipush X_56.here hx rfl (hb hby at_125) k) ?_
  refine Go.to (mkF m 129 #[.val (.int p1), .val (.int p2), .val (.int p3), .val (.int p4), .val (.int (p1 &&& (3 : Int32))), .val (.ref a5), .val (.int (((p1.toUInt32 >>> ((2 : Int32) &&& 31).toUInt32).toInt32) &&& (3 : Int32))), .val (.ref b_1), .val (.int (6 : Int32)), .unset] []) (fun _ k => XS.istore X_56.here hx rfl (hb hby at_127) rfl (l' := #[.val (.int p1), .val (.int p2), .val (.int p3), .val (.int p4), .val (.int (p1 &&& (3 : Int32))), .val (.ref a5), .val (.int (((p1.toUInt32 >>> ((2 : Int32) &&& 31).toUInt32).toInt32) &&& (3 : Int32))), .val (.ref b_1), .val (.int (6 : Int32)), .unset]) rfl k) ?_
  refine Go.to (mkF m 131 #[.val (.int p1), .val (.int p2), .val (.int p3), .val (.int p4), .val (.int (p1 &&& (3 : Int32))), .val (.ref a5), .val (.int (((p1.toUInt32 >>> ((2 : Int32) &&& 31).toUInt32).toInt32) &&& (3 : Int32))), .val (.ref b_1), .val (.int (6 : Int32)), .unset] [(.int (((p1.toUInt32 >>> ((2 : Int32) &&& 31).toUInt32).toInt32) &&& (3 : Int32)))]) (fun _ k => XS.iload X_56.here hx rfl (hb hby at_129) rfl  k) ?_
  by_cases hs0 : (((p1.toUInt32 >>> ((2 : Int32) &&& 31).toUInt32).toInt32) &&& (3 : Int32)) = (0 : Int32)
  · refine Go.to (mkF m 134 #[.val (.int p1), .val (.int p2), .val (.int p3), .val (.int p4), .val (.int (p1 &&& (3 : Int32))), .val (.ref a5), .val (.int (((p1.toUInt32 >>> ((2 : Int32) &&& 31).toUInt32).toInt32) &&& (3 : Int32))), .val (.ref b_1), .val (.int (6 : Int32)), .unset] []) (fun _ k => XS.ifNo X_56.here hx rfl (hb hby at_131) rfl ((if0 _ _).trans (teq hs0).2) k) ?_
    refine Go.to (mkF m 135 #[.val (.int p1), .val (.int p2), .val (.int p3), .val (.int p4), .val (.int (p1 &&& (3 : Int32))), .val (.ref a5), .val (.int (((p1.toUInt32 >>> ((2 : Int32) &&& 31).toUInt32).toInt32) &&& (3 : Int32))), .val (.ref b_1), .val (.int (6 : Int32)), .unset] [(.int p2)]) (fun _ k => XS.iloadN X_56.here hx rfl (hb hby at_134) rfl  k) ?_
    refine Go.to (mkF m 137 #[.val (.int p1), .val (.int p2), .val (.int p3), .val (.int p4), .val (.int (p1 &&& (3 : Int32))), .val (.ref a5), .val (.int (((p1.toUInt32 >>> ((2 : Int32) &&& 31).toUInt32).toInt32) &&& (3 : Int32))), .val (.ref b_1), .val (.int (6 : Int32)), .unset] [(.int (2147483647 : Int32)), (.int p2)]) (fun _ k => X_56.ldcInt hx hown (mvT hZ (hw _ (List.mem_of_getElem? (i := 34) rfl))) (g := (mkF m 135 #[.val (.int p1), .val (.int p2), .val (.int p3), .val (.int p4), .val (.int (p1 &&& (3 : Int32))), .val (.ref a5), .val (.int (((p1.toUInt32 >>> ((2 : Int32) &&& 31).toUInt32).toInt32) &&& (3 : Int32))), .val (.ref b_1), .val (.int (6 : Int32)), .unset] [(.int p2)])) rfl (hb hby at_135) _ k) ?_
    refine Go.to (mkF m 138 #[.val (.int p1), .val (.int p2), .val (.int p3), .val (.int p4), .val (.int (p1 &&& (3 : Int32))), .val (.ref a5), .val (.int (((p1.toUInt32 >>> ((2 : Int32) &&& 31).toUInt32).toInt32) &&& (3 : Int32))), .val (.ref b_1), .val (.int (6 : Int32)), .unset] [(.int (p2 &&& (2147483647 : Int32)))]) (fun _ k => XS.iand X_56.here hx rfl (hb hby at_137) rfl k) ?_
    refine Go.to (mkF m 140 #[.val (.int p1), .val (.int p2), .val (.int p3), .val (.int p4), .val (.int (p1 &&& (3 : Int32))), .val (.ref a5), .val (.int (((p1.toUInt32 >>> ((2 : Int32) &&& 31).toUInt32).toInt32) &&& (3 : Int32))), .val (.ref b_1), .val (.int (6 : Int32)), .unset] [(.int (12 : Int32)), (.int (p2 &&& (2147483647 : Int32)))]) (fun _ k => XS.bipush X_56.here hx rfl (hb hby at_138) k) ?_
    refine Go.to (mkF m 141 #[.val (.int p1), .val (.int p2), .val (.int p3), .val (.int p4), .val (.int (p1 &&& (3 : Int32))), .val (.ref a5), .val (.int (((p1.toUInt32 >>> ((2 : Int32) &&& 31).toUInt32).toInt32) &&& (3 : Int32))), .val (.ref b_1), .val (.int (6 : Int32)), .unset] [(.int ((p2 &&& (2147483647 : Int32)) % (12 : Int32)))]) (fun _ k => iremM X_56 hx rfl (hb hby at_140) rfl (by decide) k) ?_
    obtain ⟨ps, hps⟩ : ∃ y : Int32, y = ((p2 &&& (2147483647 : Int32)) % (12 : Int32)) := ⟨_, rfl⟩
    rw [← hps]
    refine Go.to (mkF m 143 #[.val (.int p1), .val (.int p2), .val (.int p3), .val (.int p4), .val (.int (p1 &&& (3 : Int32))), .val (.ref a5), .val (.int (((p1.toUInt32 >>> ((2 : Int32) &&& 31).toUInt32).toInt32) &&& (3 : Int32))), .val (.ref b_1), .val (.int (6 : Int32)), .val (.int ps)] []) (fun _ k => XS.istore X_56.here hx rfl (hb hby at_141) rfl (l' := #[.val (.int p1), .val (.int p2), .val (.int p3), .val (.int p4), .val (.int (p1 &&& (3 : Int32))), .val (.ref a5), .val (.int (((p1.toUInt32 >>> ((2 : Int32) &&& 31).toUInt32).toInt32) &&& (3 : Int32))), .val (.ref b_1), .val (.int (6 : Int32)), .val (.int ps)]) rfl k) ?_
    refine Go.to (mkF m 145 #[.val (.int p1), .val (.int p2), .val (.int p3), .val (.int p4), .val (.int (p1 &&& (3 : Int32))), .val (.ref a5), .val (.int (((p1.toUInt32 >>> ((2 : Int32) &&& 31).toUInt32).toInt32) &&& (3 : Int32))), .val (.ref b_1), .val (.int (6 : Int32)), .val (.int ps)] [(.int ps)]) (fun _ k => XS.iload X_56.here hx rfl (hb hby at_143) rfl  k) ?_
    refine Go.to (mkF m 147 #[.val (.int p1), .val (.int p2), .val (.int p3), .val (.int p4), .val (.int (p1 &&& (3 : Int32))), .val (.ref a5), .val (.int (((p1.toUInt32 >>> ((2 : Int32) &&& 31).toUInt32).toInt32) &&& (3 : Int32))), .val (.ref b_1), .val (.int (6 : Int32)), .val (.int ps)] [(.int (6 : Int32)), (.int ps)]) (fun _ k => XS.bipush X_56.here hx rfl (hb hby at_145) k) ?_
    by_cases h6 : ps < (6 : Int32)
    · refine Go.to (mkF m 150 #[.val (.int p1), .val (.int p2), .val (.int p3), .val (.int p4), .val (.int (p1 &&& (3 : Int32))), .val (.ref a5), .val (.int (((p1.toUInt32 >>> ((2 : Int32) &&& 31).toUInt32).toInt32) &&& (3 : Int32))), .val (.ref b_1), .val (.int (6 : Int32)), .val (.int ps)] []) (fun _ k => XS.icmpNo X_56.here hx rfl (hb hby at_147) rfl (tlt h6).2.1 k) ?_
      rcases own_six hps h6 with rfl | rfl | rfl | rfl | rfl | rfl
      · refine Go.to (mkF m 152 #[.val (.int p1), .val (.int p2), .val (.int p3), .val (.int p4), .val (.int (p1 &&& (3 : Int32))), .val (.ref a5), .val (.int (((p1.toUInt32 >>> ((2 : Int32) &&& 31).toUInt32).toInt32) &&& (3 : Int32))), .val (.ref b_1), .val (.int (6 : Int32)), .val (.int (0 : Int32))] [(.ref b_1)]) (fun _ k => XS.aload X_56.here hx rfl (hb hby at_150) rfl rfl k) ?_
        refine Go.to (mkF m 154 #[.val (.int p1), .val (.int p2), .val (.int p3), .val (.int p4), .val (.int (p1 &&& (3 : Int32))), .val (.ref a5), .val (.int (((p1.toUInt32 >>> ((2 : Int32) &&& 31).toUInt32).toInt32) &&& (3 : Int32))), .val (.ref b_1), .val (.int (6 : Int32)), .val (.int (0 : Int32))] [(.int (0 : Int32)), (.ref b_1)]) (fun _ k => XS.iload X_56.here hx rfl (hb hby at_152) rfl  k) ?_
        refine Go.to (mkF m 155 #[.val (.int p1), .val (.int p2), .val (.int p3), .val (.int p4), .val (.int (p1 &&& (3 : Int32))), .val (.ref a5), .val (.int (((p1.toUInt32 >>> ((2 : Int32) &&& 31).toUInt32).toInt32) &&& (3 : Int32))), .val (.ref b_1), .val (.int (6 : Int32)), .val (.int (0 : Int32))] [(.int p3), (.int (0 : Int32)), (.ref b_1)]) (fun _ k => XS.iloadN X_56.here hx rfl (hb hby at_154) rfl  k) ?_
        refine Go.to (mkF m 158 #[.val (.int p1), .val (.int p2), .val (.int p3), .val (.int p4), .val (.int (p1 &&& (3 : Int32))), .val (.ref a5), .val (.int (((p1.toUInt32 >>> ((2 : Int32) &&& 31).toUInt32).toInt32) &&& (3 : Int32))), .val (.ref b_1), .val (.int (6 : Int32)), .val (.int (0 : Int32))] [(.int (255 : Int32)), (.int p3), (.int (0 : Int32)), (.ref b_1)]) (fun _ k => XS.sipush X_56.here hx rfl (hb hby at_155) k) ?_
        refine Go.to (mkF m 159 #[.val (.int p1), .val (.int p2), .val (.int p3), .val (.int p4), .val (.int (p1 &&& (3 : Int32))), .val (.ref a5), .val (.int (((p1.toUInt32 >>> ((2 : Int32) &&& 31).toUInt32).toInt32) &&& (3 : Int32))), .val (.ref b_1), .val (.int (6 : Int32)), .val (.int (0 : Int32))] [(.int (p3 &&& (255 : Int32))), (.int (0 : Int32)), (.ref b_1)]) (fun _ k => XS.iand X_56.here hx rfl (hb hby at_158) rfl k) ?_
        refine Go.to (mkF m 160 #[.val (.int p1), .val (.int p2), .val (.int p3), .val (.int p4), .val (.int (p1 &&& (3 : Int32))), .val (.ref a5), .val (.int (((p1.toUInt32 >>> ((2 : Int32) &&& 31).toUInt32).toInt32) &&& (3 : Int32))), .val (.ref b_1), .val (.int (6 : Int32)), .val (.int (0 : Int32))] [(.int ((p3 &&& (255 : Int32)).toUInt32.toUInt16.toUInt32.toInt32)), (.int (0 : Int32)), (.ref b_1)]) (fun _ k => XS.i2c X_56.here hx rfl (hb hby at_159) rfl k) ?_
        obtain ⟨cl_57, Ar_57, q_57, Sz_57, Ng_57, Hh_57, Gg_57⟩ := id V_56
        have hin_57 : ¬ ((0 : Int32) < 0 ∨ cl_57.slots.size ≤ ((0 : Int32)).toNatClampNeg) := inb_of Sz_57 ⟨by decide, by decide⟩
        obtain ⟨T_57, h_57, X_57, e_57, W_57, st_57⟩ := stC X_56 hx hZ e_56 Ar_57 (j := (0 : Int32)) hin_57 (g := (mkF m 160 #[.val (.int p1), .val (.int p2), .val (.int p3), .val (.int p4), .val (.int (p1 &&& (3 : Int32))), .val (.ref a5), .val (.int (((p1.toUInt32 >>> ((2 : Int32) &&& 31).toUInt32).toInt32) &&& (3 : Int32))), .val (.ref b_1), .val (.int (6 : Int32)), .val (.int (0 : Int32))] [(.int ((p3 &&& (255 : Int32)).toUInt32.toUInt16.toUInt32.toInt32)), (.int (0 : Int32)), (.ref b_1)])) rfl rfl (hb hby at_160)
        have N_57 := Fr.snoc X_57 N_56 g_b_1
        have V_57 : Arv Z h_57 b_1 k_1 .char (7 : Int32) [(.int (nar .char ((p3 &&& (255 : Int32)).toUInt32.toUInt16.toUInt32.toInt32))), (.int c1), (.int c2), (.int c3), (.int c4), (.int c5), (.int (nar .char ((p3 &&& (255 : Int32)).toUInt32.toUInt16.toUInt32.toInt32)))] (.int (0 : Int32)) := Arv.set Ar_57 q_57 Sz_57 Ng_57 Hh_57 Gg_57 (fits_nar_char _) W_57 0 rfl (Nat.le_of_ble_eq_true rfl)
        refine Go.to (mkF m 161 #[.val (.int p1), .val (.int p2), .val (.int p3), .val (.int p4), .val (.int (p1 &&& (3 : Int32))), .val (.ref a5), .val (.int (((p1.toUInt32 >>> ((2 : Int32) &&& 31).toUInt32).toInt32) &&& (3 : Int32))), .val (.ref b_1), .val (.int (6 : Int32)), .val (.int (0 : Int32))] []) st_57 ?_
        refine Go.to (mkF m 322 #[.val (.int p1), .val (.int p2), .val (.int p3), .val (.int p4), .val (.int (p1 &&& (3 : Int32))), .val (.ref a5), .val (.int (((p1.toUInt32 >>> ((2 : Int32) &&& 31).toUInt32).toInt32) &&& (3 : Int32))), .val (.ref b_1), .val (.int (6 : Int32)), .val (.int (0 : Int32))] []) (fun _ k => XS.goto X_57.here hx rfl (pc0 := 161) (pc' := 322) rfl (hb hby at_161) (by decide) (by decide) k) ?_
        have f_58 : Sta Z h_57 "java/lang/String" "COMPACT_STRINGS" "Z" (.int z) := (((f_51.wr W_55).wr W_56).wr W_57)
        have f_59 : Sta Z h_57 "jdk/internal/util/Preconditions" "SIOOBE_FORMATTER" "Ljava/util/function/BiFunction;" fm := (((f_52.wr W_55).wr W_56).wr W_57)
        have f_60 : Sta Z h_57 "com/example/statementbound/statementbound/statements/internal/Statement$Kind" "$VALUES" "[Lcom/example/statementbound/statementbound/statements/internal/Statement$Kind;" (.ref av) := (((((((((PS_com_example_statementbound_statementbound_statements_internal_Statement_Kind__VALUES.ext E_1).wr W_10).wr W_19).wr W_28).wr W_37).wr W_46).wr W_55).wr W_56).wr W_57)
        have f_61 : Exa Z h_57 av "[Lcom/example/statementbound/statementbound/statements/internal/Statement$Kind;" := (((((((((PE_av.ext E_1).wr W_10).wr W_19).wr W_28).wr W_37).wr W_46).wr W_55).wr W_56).wr W_57)
        have f_62 : Arv Z h_57 av kv (.object "com/example/statementbound/statementbound/statements/internal/Statement$Kind") (4 : Int32) [(.ref v0), (.ref v1), (.ref v2), (.ref v3)] .null := (((((((((PA_av.ext E_1).other W_10 ne_av_b_1).other W_19 ne_av_b_1).other W_28 ne_av_b_1).other W_37 ne_av_b_1).other W_46 ne_av_b_1).other W_55 ne_av_b_1).other W_56 ne_av_b_1).other W_57 ne_av_b_1)
        have f_63 : Fld Z h_57 v0 "com/example/statementbound/statementbound/statements/internal/Statement$Kind" "element" "Ljava/lang/String;" (.ref x0) := (((((((((PF_v0_element.ext E_1).other W_10 (Or.inl ne_v0_b_1)).other W_19 (Or.inl ne_v0_b_1)).other W_28 (Or.inl ne_v0_b_1)).other W_37 (Or.inl ne_v0_b_1)).other W_46 (Or.inl ne_v0_b_1)).other W_55 (Or.inl ne_v0_b_1)).other W_56 (Or.inl ne_v0_b_1)).other W_57 (Or.inl ne_v0_b_1))
        have f_64 : Exa Z h_57 x0 "java/lang/String" := (((((((((PE_x0.ext E_1).wr W_10).wr W_19).wr W_28).wr W_37).wr W_46).wr W_55).wr W_56).wr W_57)
        have f_65 : Fld Z h_57 x0 "java/lang/String" "value" "[B" (.ref t0) := (((((((((PF_x0_value.ext E_1).other W_10 (Or.inl ne_x0_b_1)).other W_19 (Or.inl ne_x0_b_1)).other W_28 (Or.inl ne_x0_b_1)).other W_37 (Or.inl ne_x0_b_1)).other W_46 (Or.inl ne_x0_b_1)).other W_55 (Or.inl ne_x0_b_1)).other W_56 (Or.inl ne_x0_b_1)).other W_57 (Or.inl ne_x0_b_1))
        have f_66 : Fld Z h_57 x0 "java/lang/String" "coder" "B" (.int (0 : Int32)) := (((((((((PF_x0_coder.ext E_1).other W_10 (Or.inl ne_x0_b_1)).other W_19 (Or.inl ne_x0_b_1)).other W_28 (Or.inl ne_x0_b_1)).other W_37 (Or.inl ne_x0_b_1)).other W_46 (Or.inl ne_x0_b_1)).other W_55 (Or.inl ne_x0_b_1)).other W_56 (Or.inl ne_x0_b_1)).other W_57 (Or.inl ne_x0_b_1))
        have f_67 : Arv Z h_57 t0 kt0 .byte (6 : Int32) (own_str own_t0) (.int (0 : Int32)) := (((((((((PA_t0.ext E_1).other W_10 ne_t0_b_1).other W_19 ne_t0_b_1).other W_28 ne_t0_b_1).other W_37 ne_t0_b_1).other W_46 ne_t0_b_1).other W_55 ne_t0_b_1).other W_56 ne_t0_b_1).other W_57 ne_t0_b_1)
        have f_68 : Fld Z h_57 v1 "com/example/statementbound/statementbound/statements/internal/Statement$Kind" "element" "Ljava/lang/String;" (.ref x1) := (((((((((PF_v1_element.ext E_1).other W_10 (Or.inl ne_v1_b_1)).other W_19 (Or.inl ne_v1_b_1)).other W_28 (Or.inl ne_v1_b_1)).other W_37 (Or.inl ne_v1_b_1)).other W_46 (Or.inl ne_v1_b_1)).other W_55 (Or.inl ne_v1_b_1)).other W_56 (Or.inl ne_v1_b_1)).other W_57 (Or.inl ne_v1_b_1))
        have f_69 : Exa Z h_57 x1 "java/lang/String" := (((((((((PE_x1.ext E_1).wr W_10).wr W_19).wr W_28).wr W_37).wr W_46).wr W_55).wr W_56).wr W_57)
        have f_70 : Fld Z h_57 x1 "java/lang/String" "value" "[B" (.ref t1) := (((((((((PF_x1_value.ext E_1).other W_10 (Or.inl ne_x1_b_1)).other W_19 (Or.inl ne_x1_b_1)).other W_28 (Or.inl ne_x1_b_1)).other W_37 (Or.inl ne_x1_b_1)).other W_46 (Or.inl ne_x1_b_1)).other W_55 (Or.inl ne_x1_b_1)).other W_56 (Or.inl ne_x1_b_1)).other W_57 (Or.inl ne_x1_b_1))
        have f_71 : Fld Z h_57 x1 "java/lang/String" "coder" "B" (.int (0 : Int32)) := (((((((((PF_x1_coder.ext E_1).other W_10 (Or.inl ne_x1_b_1)).other W_19 (Or.inl ne_x1_b_1)).other W_28 (Or.inl ne_x1_b_1)).other W_37 (Or.inl ne_x1_b_1)).other W_46 (Or.inl ne_x1_b_1)).other W_55 (Or.inl ne_x1_b_1)).other W_56 (Or.inl ne_x1_b_1)).other W_57 (Or.inl ne_x1_b_1))
        have f_72 : Arv Z h_57 t1 kt1 .byte (6 : Int32) (own_str own_t1) (.int (0 : Int32)) := (((((((((PA_t1.ext E_1).other W_10 ne_t1_b_1).other W_19 ne_t1_b_1).other W_28 ne_t1_b_1).other W_37 ne_t1_b_1).other W_46 ne_t1_b_1).other W_55 ne_t1_b_1).other W_56 ne_t1_b_1).other W_57 ne_t1_b_1)
        have f_73 : Fld Z h_57 v2 "com/example/statementbound/statementbound/statements/internal/Statement$Kind" "element" "Ljava/lang/String;" (.ref x2) := (((((((((PF_v2_element.ext E_1).other W_10 (Or.inl ne_v2_b_1)).other W_19 (Or.inl ne_v2_b_1)).other W_28 (Or.inl ne_v2_b_1)).other W_37 (Or.inl ne_v2_b_1)).other W_46 (Or.inl ne_v2_b_1)).other W_55 (Or.inl ne_v2_b_1)).other W_56 (Or.inl ne_v2_b_1)).other W_57 (Or.inl ne_v2_b_1))
        have f_74 : Exa Z h_57 x2 "java/lang/String" := (((((((((PE_x2.ext E_1).wr W_10).wr W_19).wr W_28).wr W_37).wr W_46).wr W_55).wr W_56).wr W_57)
        have f_75 : Fld Z h_57 x2 "java/lang/String" "value" "[B" (.ref t2) := (((((((((PF_x2_value.ext E_1).other W_10 (Or.inl ne_x2_b_1)).other W_19 (Or.inl ne_x2_b_1)).other W_28 (Or.inl ne_x2_b_1)).other W_37 (Or.inl ne_x2_b_1)).other W_46 (Or.inl ne_x2_b_1)).other W_55 (Or.inl ne_x2_b_1)).other W_56 (Or.inl ne_x2_b_1)).other W_57 (Or.inl ne_x2_b_1))
        have f_76 : Fld Z h_57 x2 "java/lang/String" "coder" "B" (.int (0 : Int32)) := (((((((((PF_x2_coder.ext E_1).other W_10 (Or.inl ne_x2_b_1)).other W_19 (Or.inl ne_x2_b_1)).other W_28 (Or.inl ne_x2_b_1)).other W_37 (Or.inl ne_x2_b_1)).other W_46 (Or.inl ne_x2_b_1)).other W_55 (Or.inl ne_x2_b_1)).other W_56 (Or.inl ne_x2_b_1)).other W_57 (Or.inl ne_x2_b_1))
        have f_77 : Arv Z h_57 t2 kt2 .byte (6 : Int32) (own_str own_t2) (.int (0 : Int32)) := (((((((((PA_t2.ext E_1).other W_10 ne_t2_b_1).other W_19 ne_t2_b_1).other W_28 ne_t2_b_1).other W_37 ne_t2_b_1).other W_46 ne_t2_b_1).other W_55 ne_t2_b_1).other W_56 ne_t2_b_1).other W_57 ne_t2_b_1)
        have f_78 : Fld Z h_57 v3 "com/example/statementbound/statementbound/statements/internal/Statement$Kind" "element" "Ljava/lang/String;" (.ref x3) := (((((((((PF_v3_element.ext E_1).other W_10 (Or.inl ne_v3_b_1)).other W_19 (Or.inl ne_v3_b_1)).other W_28 (Or.inl ne_v3_b_1)).other W_37 (Or.inl ne_v3_b_1)).other W_46 (Or.inl ne_v3_b_1)).other W_55 (Or.inl ne_v3_b_1)).other W_56 (Or.inl ne_v3_b_1)).other W_57 (Or.inl ne_v3_b_1))
        have f_79 : Exa Z h_57 x3 "java/lang/String" := (((((((((PE_x3.ext E_1).wr W_10).wr W_19).wr W_28).wr W_37).wr W_46).wr W_55).wr W_56).wr W_57)
        have f_80 : Fld Z h_57 x3 "java/lang/String" "value" "[B" (.ref t3) := (((((((((PF_x3_value.ext E_1).other W_10 (Or.inl ne_x3_b_1)).other W_19 (Or.inl ne_x3_b_1)).other W_28 (Or.inl ne_x3_b_1)).other W_37 (Or.inl ne_x3_b_1)).other W_46 (Or.inl ne_x3_b_1)).other W_55 (Or.inl ne_x3_b_1)).other W_56 (Or.inl ne_x3_b_1)).other W_57 (Or.inl ne_x3_b_1))
        have f_81 : Fld Z h_57 x3 "java/lang/String" "coder" "B" (.int (0 : Int32)) := (((((((((PF_x3_coder.ext E_1).other W_10 (Or.inl ne_x3_b_1)).other W_19 (Or.inl ne_x3_b_1)).other W_28 (Or.inl ne_x3_b_1)).other W_37 (Or.inl ne_x3_b_1)).other W_46 (Or.inl ne_x3_b_1)).other W_55 (Or.inl ne_x3_b_1)).other W_56 (Or.inl ne_x3_b_1)).other W_57 (Or.inl ne_x3_b_1))
        have f_82 : Arv Z h_57 t3 kt3 .byte (6 : Int32) (own_str own_t3) (.int (0 : Int32)) := (((((((((PA_t3.ext E_1).other W_10 ne_t3_b_1).other W_19 ne_t3_b_1).other W_28 ne_t3_b_1).other W_37 ne_t3_b_1).other W_46 ne_t3_b_1).other W_55 ne_t3_b_1).other W_56 ne_t3_b_1).other W_57 ne_t3_b_1)
        have f_83 : Sta Z h_57 "com/example/statementbound/statementbound/statements/internal/Statement$Kind" "SELECT" "Lcom/example/statementbound/statementbound/statements/internal/Statement$Kind;" (.ref v0) := (((((((((PS_com_example_statementbound_statementbound_statements_internal_Statement_Kind_SELECT.ext E_1).wr W_10).wr W_19).wr W_28).wr W_37).wr W_46).wr W_55).wr W_56).wr W_57)
        have f_84 : Sta Z h_57 "com/example/statementbound/statementbound/statements/internal/Statement$Kind" "INSERT" "Lcom/example/statementbound/statementbound/statements/internal/Statement$Kind;" (.ref v1) := (((((((((PS_com_example_statementbound_statementbound_statements_internal_Statement_Kind_INSERT.ext E_1).wr W_10).wr W_19).wr W_28).wr W_37).wr W_46).wr W_55).wr W_56).wr W_57)
        have f_85 : Sta Z h_57 "com/example/statementbound/statementbound/statements/internal/Statement$Kind" "UPDATE" "Lcom/example/statementbound/statementbound/statements/internal/Statement$Kind;" (.ref v2) := (((((((((PS_com_example_statementbound_statementbound_statements_internal_Statement_Kind_UPDATE.ext E_1).wr W_10).wr W_19).wr W_28).wr W_37).wr W_46).wr W_55).wr W_56).wr W_57)
        have f_86 : Sta Z h_57 "com/example/statementbound/statementbound/statements/internal/Statement$Kind" "DELETE" "Lcom/example/statementbound/statementbound/statements/internal/Statement$Kind;" (.ref v3) := (((((((((PS_com_example_statementbound_statementbound_statements_internal_Statement_Kind_DELETE.ext E_1).wr W_10).wr W_19).wr W_28).wr W_37).wr W_46).wr W_55).wr W_56).wr W_57)
        have f_87 : Exa Z h_57 a5 "java/lang/String" := (((f_47.wr W_55).wr W_56).wr W_57)
        have f_88 : Fld Z h_57 a5 "java/lang/String" "value" "[B" (.ref t5) := (((f_48.other W_55 (Or.inl ne_a5_b_1)).other W_56 (Or.inl ne_a5_b_1)).other W_57 (Or.inl ne_a5_b_1))
        have f_89 : Fld Z h_57 a5 "java/lang/String" "coder" "B" (.int (0 : Int32)) := (((f_49.other W_55 (Or.inl ne_a5_b_1)).other W_56 (Or.inl ne_a5_b_1)).other W_57 (Or.inl ne_a5_b_1))
        have f_90 : Arv Z h_57 t5 kb5 .byte (6 : Int32) (own_str ([c0, c1, c2, c3, c4, c5] : List Int32)) (.int (0 : Int32)) := (((f_50.other W_55 ne_t5_b_1).other W_56 ne_t5_b_1).other W_57 ne_t5_b_1)
        have f_91 : n0 ≤ h_57.size := (Nat.le_trans (Nat.le_trans (Nat.le_trans f_53 (Keep.of_wr W_55).1) (Keep.of_wr W_56).1) (Keep.of_wr W_57).1)
        have f_92 : kk ≤ h_57.size := (Nat.le_trans (Nat.le_trans (Nat.le_trans (Nat.le_trans (Nat.le_trans (Nat.le_trans (Nat.le_trans (Nat.le_trans (Nat.le_trans hk E_1.1) (Keep.of_wr W_10).1) (Keep.of_wr W_19).1) (Keep.of_wr W_28).1) (Keep.of_wr W_37).1) (Keep.of_wr W_46).1) (Keep.of_wr W_55).1) (Keep.of_wr W_56).1) (Keep.of_wr W_57).1)
        have f_93 : Keep hq h_57 [] := (((((((((hKq.ext E_1).wr W_10 (Or.inr sz_b_1)).wr W_19 (Or.inr sz_b_1)).wr W_28 (Or.inr sz_b_1)).wr W_37 (Or.inr sz_b_1)).wr W_46 (Or.inr sz_b_1)).wr W_55 (Or.inr sz_b_1)).wr W_56 (Or.inr sz_b_1)).wr W_57 (Or.inr sz_b_1))
        exact own_s322 l Z a0 hw p1 p2 p3 p4 av kv v0 v1 v2 v3 x0 t0 kt0 x1 t1 kt1 x2 t2 kt2 x3 t3 kt3 z fm a5 t5 kb5 ([c0, c1, c2, c3, c4, c5] : List Int32) b_1 k_1 (nar .char ((p3 &&& (255 : Int32)).toUInt32.toUInt16.toUInt32.toInt32)) c1 c2 c3 c4 c5 (nar .char ((p3 &&& (255 : Int32)).toUInt32.toUInt16.toUInt32.toInt32)) (6 : Int32) (.val (.int (0 : Int32))) hq p e s m below meth c _ _ _ _ hx hZ hby hml hown hnm hret hlk _ n0 f_91 (X_57.more (by decide) (by decide)) e_57 N_57 hS f_92 f_93 f_58 f_59 f_60 f_61 f_62 f_63 f_64 f_65 f_66 f_67 f_68 f_69 f_70 f_71 f_72 f_73 f_74 f_75 f_76 f_77 f_78 f_79 f_80 f_81 f_82 f_83 f_84 f_85 f_86 f_87 f_88 f_89 f_90 V_57 hz rf hcw hlS hl_0 hl_1 hl_2 hl_3 hZh (own_and255 _) (own_az hc1) (own_az hc2) (own_az hc3) (own_az hc4) (own_az hc5) (own_and255 _) (by decide) (by decide) (own_one_v rfl) hov
      · refine Go.to (mkF m 152 #[.val (.int p1), .val (.int p2), .val (.int p3), .val (.int p4), .val (.int (p1 &&& (3 : Int32))), .val (.ref a5), .val (.int (((p1.toUInt32 >>> ((2 : Int32) &&& 31).toUInt32).toInt32) &&& (3 : Int32))), .val (.ref b_1), .val (.int (6 : Int32)), .val (.int (1 : Int32))] [(.ref b_1)]) (fun _ k => XS.aload X_56.here hx rfl (hb hby at_150) rfl rfl k) ?_
        refine Go.to (mkF m 154 #[.val (.int p1), .val (.int p2), .val (.int p3), .val (.int p4), .val (.int (p1 &&& (3 : Int32))), .val (.ref a5), .val (.int (((p1.toUInt32 >>> ((2 : Int32) &&& 31).toUInt32).toInt32) &&& (3 : Int32))), .val (.ref b_1), .val (.int (6 : Int32)), .val (.int (1 : Int32))] [(.int (1 : Int32)), (.ref b_1)]) (fun _ k => XS.iload X_56.here hx rfl (hb hby at_152) rfl  k) ?_
        refine Go.to (mkF m 155 #[.val (.int p1), .val (.int p2), .val (.int p3), .val (.int p4), .val (.int (p1 &&& (3 : Int32))), .val (.ref a5), .val (.int (((p1.toUInt32 >>> ((2 : Int32) &&& 31).toUInt32).toInt32) &&& (3 : Int32))), .val (.ref b_1), .val (.int (6 : Int32)), .val (.int (1 : Int32))] [(.int p3), (.int (1 : Int32)), (.ref b_1)]) (fun _ k => XS.iloadN X_56.here hx rfl (hb hby at_154) rfl  k) ?_
        refine Go.to (mkF m 158 #[.val (.int p1), .val (.int p2), .val (.int p3), .val (.int p4), .val (.int (p1 &&& (3 : Int32))), .val (.ref a5), .val (.int (((p1.toUInt32 >>> ((2 : Int32) &&& 31).toUInt32).toInt32) &&& (3 : Int32))), .val (.ref b_1), .val (.int (6 : Int32)), .val (.int (1 : Int32))] [(.int (255 : Int32)), (.int p3), (.int (1 : Int32)), (.ref b_1)]) (fun _ k => XS.sipush X_56.here hx rfl (hb hby at_155) k) ?_
        refine Go.to (mkF m 159 #[.val (.int p1), .val (.int p2), .val (.int p3), .val (.int p4), .val (.int (p1 &&& (3 : Int32))), .val (.ref a5), .val (.int (((p1.toUInt32 >>> ((2 : Int32) &&& 31).toUInt32).toInt32) &&& (3 : Int32))), .val (.ref b_1), .val (.int (6 : Int32)), .val (.int (1 : Int32))] [(.int (p3 &&& (255 : Int32))), (.int (1 : Int32)), (.ref b_1)]) (fun _ k => XS.iand X_56.here hx rfl (hb hby at_158) rfl k) ?_
        refine Go.to (mkF m 160 #[.val (.int p1), .val (.int p2), .val (.int p3), .val (.int p4), .val (.int (p1 &&& (3 : Int32))), .val (.ref a5), .val (.int (((p1.toUInt32 >>> ((2 : Int32) &&& 31).toUInt32).toInt32) &&& (3 : Int32))), .val (.ref b_1), .val (.int (6 : Int32)), .val (.int (1 : Int32))] [(.int ((p3 &&& (255 : Int32)).toUInt32.toUInt16.toUInt32.toInt32)), (.int (1 : Int32)), (.ref b_1)]) (fun _ k => XS.i2c X_56.here hx rfl (hb hby at_159) rfl k) ?_
        obtain ⟨cl_94, Ar_94, q_94, Sz_94, Ng_94, Hh_94, Gg_94⟩ := id V_56
        have hin_94 : ¬ ((1 : Int32) < 0 ∨ cl_94.slots.size ≤ ((1 : Int32)).toNatClampNeg) := inb_of Sz_94 ⟨by decide, by decide⟩
        obtain ⟨T_94, h_94, X_94, e_94, W_94, st_94⟩ := stC X_56 hx hZ e_56 Ar_94 (j := (1 : Int32)) hin_94 (g := (mkF m 160 #[.val (.int p1), .val (.int p2), .val (.int p3), .val (.int p4), .val (.int (p1 &&& (3 : Int32))), .val (.ref a5), .val (.int (((p1.toUInt32 >>> ((2 : Int32) &&& 31).toUInt32).toInt32) &&& (3 : Int32))), .val (.ref b_1), .val (.int (6 : Int32)), .val (.int (1 : Int32))] [(.int ((p3 &&& (255 : Int32)).toUInt32.toUInt16.toUInt32.toInt32)), (.int (1 : Int32)), (.ref b_1)])) rfl rfl (hb hby at_160)
        have N_94 := Fr.snoc X_94 N_56 g_b_1
        have V_94 : Arv Z h_94 b_1 k_1 .char (7 : Int32) [(.int c0), (.int (nar .char ((p3 &&& (255 : Int32)).toUInt32.toUInt16.toUInt32.toInt32))), (.int c2), (.int c3), (.int c4), (.int c5), (.int (nar .char ((p3 &&& (255 : Int32)).toUInt32.toUInt16.toUInt32.toInt32)))] (.int (0 : Int32)) := Arv.set Ar_94 q_94 Sz_94 Ng_94 Hh_94 Gg_94 (fits_nar_char _) W_94 1 rfl (Nat.le_of_ble_eq_true rfl)
        refine Go.to (mkF m 161 #[.val (.int p1), .val (.int p2), .val (.int p3), .val (.int p4), .val (.int (p1 &&& (3 : Int32))), .val (.ref a5), .val (.int (((p1.toUInt32 >>> ((2 : Int32) &&& 31).toUInt32).toInt32) &&& (3 : Int32))), .val (.ref b_1), .val (.int (6 : Int32)), .val (.int (1 : Int32))] []) st_94 ?_
        refine Go.to (mkF m 322 #[.val (.int p1), .val (.int p2), .val (.int p3), .val (.int p4), .val (.int (p1 &&& (3 : Int32))), .val (.ref a5), .val (.int (((p1.toUInt32 >>> ((2 : Int32) &&& 31).toUInt32).toInt32) &&& (3 : Int32))), .val (.ref b_1), .val (.int (6 : Int32)), .val (.int (1 : Int32))] []) (fun _ k => XS.goto X_94.here hx rfl (pc0 := 161) (pc' := 322) rfl (hb hby at_161) (by decide) (by decide) k) ?_
        have f_95 : Sta Z h_94 "java/lang/String" "COMPACT_STRINGS" "Z" (.int z) := (((f_51.wr W_55).wr W_56).wr W_94)
        have f_96 : Sta Z h_94 "jdk/internal/util/Preconditions" "SIOOBE_FORMATTER" "Ljava/util/function/BiFunction;" fm := (((f_52.wr W_55).wr W_56).wr W_94)
        have f_97 : Sta Z h_94 "com/example/statementbound/statementbound/statements/internal/Statement$Kind" "$VALUES" "[Lcom/example/statementbound/statementbound/statements/internal/Statement$Kind;" (.ref av) := (((((((((PS_com_example_statementbound_statementbound_statements_internal_Statement_Kind__VALUES.ext E_1).wr W_10).wr W_19).wr W_28).wr W_37).wr W_46).wr W_55).wr W_56).wr W_94)
        have f_98 : Exa Z h_94 av "[Lcom/example/statementbound/statementbound/statements/internal/Statement$Kind;" := (((((((((PE_av.ext E_1).wr W_10).wr W_19).wr W_28).wr W_37).wr W_46).wr W_55).wr W_56).wr W_94)
        have f_99 : Arv Z h_94 av kv (.object "com/example/statementbound/statementbound/statements/internal/Statement$Kind") (4 : Int32) [(.ref v0), (.ref v1), (.ref v2), (.ref v3)] .null := (((((((((PA_av.ext E_1).other W_10 ne_av_b_1).other W_19 ne_av_b_1).other W_28 ne_av_b_1).other W_37 ne_av_b_1).other W_46 ne_av_b_1).other W_55 ne_av_b_1).other W_56 ne_av_b_1).other W_94 ne_av_b_1)
        have f_100 : Fld Z h_94 v0 "com/example/statementbound/statementbound/statements/internal/Statement$Kind" "element" "Ljava/lang/String;" (.ref x0) := (((((((((PF_v0_element.ext E_1).other W_10 (Or.inl ne_v0_b_1)).other W_19 (Or.inl ne_v0_b_1)).other W_28 (Or.inl ne_v0_b_1)).other W_37 (Or.inl ne_v0_b_1)).other W_46 (Or.inl ne_v0_b_1)).other W_55 (Or.inl ne_v0_b_1)).other W_56 (Or.inl ne_v0_b_1)).other W_94 (Or.inl ne_v0_b_1))
        have f_101 : Exa Z h_94 x0 "java/lang/String" := (((((((((PE_x0.ext E_1).wr W_10).wr W_19).wr W_28).wr W_37).wr W_46).wr W_55).wr W_56).wr W_94)
        have f_102 : Fld Z h_94 x0 "java/lang/String" "value" "[B" (.ref t0) := (((((((((PF_x0_value.ext E_1).other W_10 (Or.inl ne_x0_b_1)).other W_19 (Or.inl ne_x0_b_1)).other W_28 (Or.inl ne_x0_b_1)).other W_37 (Or.inl ne_x0_b_1)).other W_46 (Or.inl ne_x0_b_1)).other W_55 (Or.inl ne_x0_b_1)).other W_56 (Or.inl ne_x0_b_1)).other W_94 (Or.inl ne_x0_b_1))
        have f_103 : Fld Z h_94 x0 "java/lang/String" "coder" "B" (.int (0 : Int32)) := (((((((((PF_x0_coder.ext E_1).other W_10 (Or.inl ne_x0_b_1)).other W_19 (Or.inl ne_x0_b_1)).other W_28 (Or.inl ne_x0_b_1)).other W_37 (Or.inl ne_x0_b_1)).other W_46 (Or.inl ne_x0_b_1)).other W_55 (Or.inl ne_x0_b_1)).other W_56 (Or.inl ne_x0_b_1)).other W_94 (Or.inl ne_x0_b_1))
        have f_104 : Arv Z h_94 t0 kt0 .byte (6 : Int32) (own_str own_t0) (.int (0 : Int32)) := (((((((((PA_t0.ext E_1).other W_10 ne_t0_b_1).other W_19 ne_t0_b_1).other W_28 ne_t0_b_1).other W_37 ne_t0_b_1).other W_46 ne_t0_b_1).other W_55 ne_t0_b_1).other W_56 ne_t0_b_1).other W_94 ne_t0_b_1)
        have f_105 : Fld Z h_94 v1 "com/example/statementbound/statementbound/statements/internal/Statement$Kind" "element" "Ljava/lang/String;" (.ref x1) := (((((((((PF_v1_element.ext E_1).other W_10 (Or.inl ne_v1_b_1)).other W_19 (Or.inl ne_v1_b_1)).other W_28 (Or.inl ne_v1_b_1)).other W_37 (Or.inl ne_v1_b_1)).other W_46 (Or.inl ne_v1_b_1)).other W_55 (Or.inl ne_v1_b_1)).other W_56 (Or.inl ne_v1_b_1)).other W_94 (Or.inl ne_v1_b_1))
        have f_106 : Exa Z h_94 x1 "java/lang/String" := (((((((((PE_x1.ext E_1).wr W_10).wr W_19).wr W_28).wr W_37).wr W_46).wr W_55).wr W_56).wr W_94)
        have f_107 : Fld Z h_94 x1 "java/lang/String" "value" "[B" (.ref t1) := (((((((((PF_x1_value.ext E_1).other W_10 (Or.inl ne_x1_b_1)).other W_19 (Or.inl ne_x1_b_1)).other W_28 (Or.inl ne_x1_b_1)).other W_37 (Or.inl ne_x1_b_1)).other W_46 (Or.inl ne_x1_b_1)).other W_55 (Or.inl ne_x1_b_1)).other W_56 (Or.inl ne_x1_b_1)).other W_94 (Or.inl ne_x1_b_1))
        have f_108 : Fld Z h_94 x1 "java/lang/String" "coder" "B" (.int (0 : Int32)) := (((((((((PF_x1_coder.ext E_1).other W_10 (Or.inl ne_x1_b_1)).other W_19 (Or.inl ne_x1_b_1)).other W_28 (Or.inl ne_x1_b_1)).other W_37 (Or.inl ne_x1_b_1)).other W_46 (Or.inl ne_x1_b_1)).other W_55 (Or.inl ne_x1_b_1)).other W_56 (Or.inl ne_x1_b_1)).other W_94 (Or.inl ne_x1_b_1))
        have f_109 : Arv Z h_94 t1 kt1 .byte (6 : Int32) (own_str own_t1) (.int (0 : Int32)) := (((((((((PA_t1.ext E_1).other W_10 ne_t1_b_1).other W_19 ne_t1_b_1).other W_28 ne_t1_b_1).other W_37 ne_t1_b_1).other W_46 ne_t1_b_1).other W_55 ne_t1_b_1).other W_56 ne_t1_b_1).other W_94 ne_t1_b_1)
        have f_110 : Fld Z h_94 v2 "com/example/statementbound/statementbound/statements/internal/Statement$Kind" "element" "Ljava/lang/String;" (.ref x2) := (((((((((PF_v2_element.ext E_1).other W_10 (Or.inl ne_v2_b_1)).other W_19 (Or.inl ne_v2_b_1)).other W_28 (Or.inl ne_v2_b_1)).other W_37 (Or.inl ne_v2_b_1)).other W_46 (Or.inl ne_v2_b_1)).other W_55 (Or.inl ne_v2_b_1)).other W_56 (Or.inl ne_v2_b_1)).other W_94 (Or.inl ne_v2_b_1))
        have f_111 : Exa Z h_94 x2 "java/lang/String" := (((((((((PE_x2.ext E_1).wr W_10).wr W_19).wr W_28).wr W_37).wr W_46).wr W_55).wr W_56).wr W_94)
        have f_112 : Fld Z h_94 x2 "java/lang/String" "value" "[B" (.ref t2) := (((((((((PF_x2_value.ext E_1).other W_10 (Or.inl ne_x2_b_1)).other W_19 (Or.inl ne_x2_b_1)).other W_28 (Or.inl ne_x2_b_1)).other W_37 (Or.inl ne_x2_b_1)).other W_46 (Or.inl ne_x2_b_1)).other W_55 (Or.inl ne_x2_b_1)).other W_56 (Or.inl ne_x2_b_1)).other W_94 (Or.inl ne_x2_b_1))
        have f_113 : Fld Z h_94 x2 "java/lang/String" "coder" "B" (.int (0 : Int32)) := (((((((((PF_x2_coder.ext E_1).other W_10 (Or.inl ne_x2_b_1)).other W_19 (Or.inl ne_x2_b_1)).other W_28 (Or.inl ne_x2_b_1)).other W_37 (Or.inl ne_x2_b_1)).other W_46 (Or.inl ne_x2_b_1)).other W_55 (Or.inl ne_x2_b_1)).other W_56 (Or.inl ne_x2_b_1)).other W_94 (Or.inl ne_x2_b_1))
        have f_114 : Arv Z h_94 t2 kt2 .byte (6 : Int32) (own_str own_t2) (.int (0 : Int32)) := (((((((((PA_t2.ext E_1).other W_10 ne_t2_b_1).other W_19 ne_t2_b_1).other W_28 ne_t2_b_1).other W_37 ne_t2_b_1).other W_46 ne_t2_b_1).other W_55 ne_t2_b_1).other W_56 ne_t2_b_1).other W_94 ne_t2_b_1)
        have f_115 : Fld Z h_94 v3 "com/example/statementbound/statementbound/statements/internal/Statement$Kind" "element" "Ljava/lang/String;" (.ref x3) := (((((((((PF_v3_element.ext E_1).other W_10 (Or.inl ne_v3_b_1)).other W_19 (Or.inl ne_v3_b_1)).other W_28 (Or.inl ne_v3_b_1)).other W_37 (Or.inl ne_v3_b_1)).other W_46 (Or.inl ne_v3_b_1)).other W_55 (Or.inl ne_v3_b_1)).other W_56 (Or.inl ne_v3_b_1)).other W_94 (Or.inl ne_v3_b_1))
        have f_116 : Exa Z h_94 x3 "java/lang/String" := (((((((((PE_x3.ext E_1).wr W_10).wr W_19).wr W_28).wr W_37).wr W_46).wr W_55).wr W_56).wr W_94)
        have f_117 : Fld Z h_94 x3 "java/lang/String" "value" "[B" (.ref t3) := (((((((((PF_x3_value.ext E_1).other W_10 (Or.inl ne_x3_b_1)).other W_19 (Or.inl ne_x3_b_1)).other W_28 (Or.inl ne_x3_b_1)).other W_37 (Or.inl ne_x3_b_1)).other W_46 (Or.inl ne_x3_b_1)).other W_55 (Or.inl ne_x3_b_1)).other W_56 (Or.inl ne_x3_b_1)).other W_94 (Or.inl ne_x3_b_1))
        have f_118 : Fld Z h_94 x3 "java/lang/String" "coder" "B" (.int (0 : Int32)) := (((((((((PF_x3_coder.ext E_1).other W_10 (Or.inl ne_x3_b_1)).other W_19 (Or.inl ne_x3_b_1)).other W_28 (Or.inl ne_x3_b_1)).other W_37 (Or.inl ne_x3_b_1)).other W_46 (Or.inl ne_x3_b_1)).other W_55 (Or.inl ne_x3_b_1)).other W_56 (Or.inl ne_x3_b_1)).other W_94 (Or.inl ne_x3_b_1))
        have f_119 : Arv Z h_94 t3 kt3 .byte (6 : Int32) (own_str own_t3) (.int (0 : Int32)) := (((((((((PA_t3.ext E_1).other W_10 ne_t3_b_1).other W_19 ne_t3_b_1).other W_28 ne_t3_b_1).other W_37 ne_t3_b_1).other W_46 ne_t3_b_1).other W_55 ne_t3_b_1).other W_56 ne_t3_b_1).other W_94 ne_t3_b_1)
        have f_120 : Sta Z h_94 "com/example/statementbound/statementbound/statements/internal/Statement$Kind" "SELECT" "Lcom/example/statementbound/statementbound/statements/internal/Statement$Kind;" (.ref v0) := (((((((((PS_com_example_statementbound_statementbound_statements_internal_Statement_Kind_SELECT.ext E_1).wr W_10).wr W_19).wr W_28).wr W_37).wr W_46).wr W_55).wr W_56).wr W_94)
        have f_121 : Sta Z h_94 "com/example/statementbound/statementbound/statements/internal/Statement$Kind" "INSERT" "Lcom/example/statementbound/statementbound/statements/internal/Statement$Kind;" (.ref v1) := (((((((((PS_com_example_statementbound_statementbound_statements_internal_Statement_Kind_INSERT.ext E_1).wr W_10).wr W_19).wr W_28).wr W_37).wr W_46).wr W_55).wr W_56).wr W_94)
        have f_122 : Sta Z h_94 "com/example/statementbound/statementbound/statements/internal/Statement$Kind" "UPDATE" "Lcom/example/statementbound/statementbound/statements/internal/Statement$Kind;" (.ref v2) := (((((((((PS_com_example_statementbound_statementbound_statements_internal_Statement_Kind_UPDATE.ext E_1).wr W_10).wr W_19).wr W_28).wr W_37).wr W_46).wr W_55).wr W_56).wr W_94)
        have f_123 : Sta Z h_94 "com/example/statementbound/statementbound/statements/internal/Statement$Kind" "DELETE" "Lcom/example/statementbound/statementbound/statements/internal/Statement$Kind;" (.ref v3) := (((((((((PS_com_example_statementbound_statementbound_statements_internal_Statement_Kind_DELETE.ext E_1).wr W_10).wr W_19).wr W_28).wr W_37).wr W_46).wr W_55).wr W_56).wr W_94)
        have f_124 : Exa Z h_94 a5 "java/lang/String" := (((f_47.wr W_55).wr W_56).wr W_94)
        have f_125 : Fld Z h_94 a5 "java/lang/String" "value" "[B" (.ref t5) := (((f_48.other W_55 (Or.inl ne_a5_b_1)).other W_56 (Or.inl ne_a5_b_1)).other W_94 (Or.inl ne_a5_b_1))
        have f_126 : Fld Z h_94 a5 "java/lang/String" "coder" "B" (.int (0 : Int32)) := (((f_49.other W_55 (Or.inl ne_a5_b_1)).other W_56 (Or.inl ne_a5_b_1)).other W_94 (Or.inl ne_a5_b_1))
        have f_127 : Arv Z h_94 t5 kb5 .byte (6 : Int32) (own_str ([c0, c1, c2, c3, c4, c5] : List Int32)) (.int (0 : Int32)) := (((f_50.other W_55 ne_t5_b_1).other W_56 ne_t5_b_1).other W_94 ne_t5_b_1)
        have f_128 : n0 ≤ h_94.size := (Nat.le_trans (Nat.le_trans (Nat.le_trans f_53 (Keep.of_wr W_55).1) (Keep.of_wr W_56).1) (Keep.of_wr W_94).1)
        have f_129 : kk ≤ h_94.size := (Nat.le_trans (Nat.le_trans (Nat.le_trans (Nat.le_trans (Nat.le_trans (Nat.le_trans (Nat.le_trans (Nat.le_trans (Nat.le_trans hk E_1.1) (Keep.of_wr W_10).1) (Keep.of_wr W_19).1) (Keep.of_wr W_28).1) (Keep.of_wr W_37).1) (Keep.of_wr W_46).1) (Keep.of_wr W_55).1) (Keep.of_wr W_56).1) (Keep.of_wr W_94).1)
        have f_130 : Keep hq h_94 [] := (((((((((hKq.ext E_1).wr W_10 (Or.inr sz_b_1)).wr W_19 (Or.inr sz_b_1)).wr W_28 (Or.inr sz_b_1)).wr W_37 (Or.inr sz_b_1)).wr W_46 (Or.inr sz_b_1)).wr W_55 (Or.inr sz_b_1)).wr W_56 (Or.inr sz_b_1)).wr W_94 (Or.inr sz_b_1))
        exact own_s322 l Z a0 hw p1 p2 p3 p4 av kv v0 v1 v2 v3 x0 t0 kt0 x1 t1 kt1 x2 t2 kt2 x3 t3 kt3 z fm a5 t5 kb5 ([c0, c1, c2, c3, c4, c5] : List Int32) b_1 k_1 c0 (nar .char ((p3 &&& (255 : Int32)).toUInt32.toUInt16.toUInt32.toInt32)) c2 c3 c4 c5 (nar .char ((p3 &&& (255 : Int32)).toUInt32.toUInt16.toUInt32.toInt32)) (6 : Int32) (.val (.int (1 : Int32))) hq p e s m below meth c _ _ _ _ hx hZ hby hml hown hnm hret hlk _ n0 f_128 (X_94.more (by decide) (by decide)) e_94 N_94 hS f_129 f_130 f_95 f_96 f_97 f_98 f_99 f_100 f_101 f_102 f_103 f_104 f_105 f_106 f_107 f_108 f_109 f_110 f_111 f_112 f_113 f_114 f_115 f_116 f_117 f_118 f_119 f_120 f_121 f_122 f_123 f_124 f_125 f_126 f_127 V_94 hz rf hcw hlS hl_0 hl_1 hl_2 hl_3 hZh (own_az hc0) (own_and255 _) (own_az hc2) (own_az hc3) (own_az hc4) (own_az hc5) (own_and255 _) (by decide) (by decide) (own_one_v rfl) hov
      · refine Go.to (mkF m 152 #[.val (.int p1), .val (.int p2), .val (.int p3), .val (.int p4), .val (.int (p1 &&& (3 : Int32))), .val (.ref a5), .val (.int (((p1.toUInt32 >>> ((2 : Int32) &&& 31).toUInt32).toInt32) &&& (3 : Int32))), .val (.ref b_1), .val (.int (6 : Int32)), .val (.int (2 : Int32))] [(.ref b_1)]) (fun _ k => XS.aload X_56.here hx rfl (hb hby at_150) rfl rfl k) ?_
        refine Go.to (mkF m 154 #[.val (.int p1), .val (.int p2), .val (.int p3), .val (.int p4), .val (.int (p1 &&& (3 : Int32))), .val (.ref a5), .val (.int (((p1.toUInt32 >>> ((2 : Int32) &&& 31).toUInt32).toInt32) &&& (3 : Int32))), .val (.ref b_1), .val (.int (6 : Int32)), .val (.int (2 : Int32))] [(.int (2 : Int32)), (.ref b_1)]) (fun _ k => XS.iload X_56.here hx rfl (hb hby at_152) rfl  k) ?_
        refine Go.to (mkF m 155 #[.val (.int p1), .val (.int p2), .val (.int p3), .val (.int p4), .val (.int (p1 &&& (3 : Int32))), .val (.ref a5), .val (.int (((p1.toUInt32 >>> ((2 : Int32) &&& 31).toUInt32).toInt32) &&& (3 : Int32))), .val (.ref b_1), .val (.int (6 : Int32)), .val (.int (2 : Int32))] [(.int p3), (.int (2 : Int32)), (.ref b_1)]) (fun _ k => XS.iloadN X_56.here hx rfl (hb hby at_154) rfl  k) ?_
        refine Go.to (mkF m 158 #[.val (.int p1), .val (.int p2), .val (.int p3), .val (.int p4), .val (.int (p1 &&& (3 : Int32))), .val (.ref a5), .val (.int (((p1.toUInt32 >>> ((2 : Int32) &&& 31).toUInt32).toInt32) &&& (3 : Int32))), .val (.ref b_1), .val (.int (6 : Int32)), .val (.int (2 : Int32))] [(.int (255 : Int32)), (.int p3), (.int (2 : Int32)), (.ref b_1)]) (fun _ k => XS.sipush X_56.here hx rfl (hb hby at_155) k) ?_
        refine Go.to (mkF m 159 #[.val (.int p1), .val (.int p2), .val (.int p3), .val (.int p4), .val (.int (p1 &&& (3 : Int32))), .val (.ref a5), .val (.int (((p1.toUInt32 >>> ((2 : Int32) &&& 31).toUInt32).toInt32) &&& (3 : Int32))), .val (.ref b_1), .val (.int (6 : Int32)), .val (.int (2 : Int32))] [(.int (p3 &&& (255 : Int32))), (.int (2 : Int32)), (.ref b_1)]) (fun _ k => XS.iand X_56.here hx rfl (hb hby at_158) rfl k) ?_
        refine Go.to (mkF m 160 #[.val (.int p1), .val (.int p2), .val (.int p3), .val (.int p4), .val (.int (p1 &&& (3 : Int32))), .val (.ref a5), .val (.int (((p1.toUInt32 >>> ((2 : Int32) &&& 31).toUInt32).toInt32) &&& (3 : Int32))), .val (.ref b_1), .val (.int (6 : Int32)), .val (.int (2 : Int32))] [(.int ((p3 &&& (255 : Int32)).toUInt32.toUInt16.toUInt32.toInt32)), (.int (2 : Int32)), (.ref b_1)]) (fun _ k => XS.i2c X_56.here hx rfl (hb hby at_159) rfl k) ?_
        obtain ⟨cl_131, Ar_131, q_131, Sz_131, Ng_131, Hh_131, Gg_131⟩ := id V_56
        have hin_131 : ¬ ((2 : Int32) < 0 ∨ cl_131.slots.size ≤ ((2 : Int32)).toNatClampNeg) := inb_of Sz_131 ⟨by decide, by decide⟩
        obtain ⟨T_131, h_131, X_131, e_131, W_131, st_131⟩ := stC X_56 hx hZ e_56 Ar_131 (j := (2 : Int32)) hin_131 (g := (mkF m 160 #[.val (.int p1), .val (.int p2), .val (.int p3), .val (.int p4), .val (.int (p1 &&& (3 : Int32))), .val (.ref a5), .val (.int (((p1.toUInt32 >>> ((2 : Int32) &&& 31).toUInt32).toInt32) &&& (3 : Int32))), .val (.ref b_1), .val (.int (6 : Int32)), .val (.int (2 : Int32))] [(.int ((p3 &&& (255 : Int32)).toUInt32.toUInt16.toUInt32.toInt32)), (.int (2 : Int32)), (.ref b_1)])) rfl rfl (hb hby at_160)
        have N_131 := Fr.snoc X_131 N_56 g_b_1
        have V_131 : Arv Z h_131 b_1 k_1 .char (7 : Int32) [(.int c0), (.int c1), (.int (nar .char ((p3 &&& (255 : Int32)).toUInt32.toUInt16.toUInt32.toInt32))), (.int c3), (.int c4), (.int c5), (.int (nar .char ((p3 &&& (255 : Int32)).toUInt32.toUInt16.toUInt32.toInt32)))] (.int (0 : Int32)) := Arv.set Ar_131 q_131 Sz_131 Ng_131 Hh_131 Gg_131 (fits_nar_char _) W_131 2 rfl (Nat.le_of_ble_eq_true rfl)
        refine Go.to (mkF m 161 #[.val (.int p1), .val (.int p2), .val (.int p3), .val (.int p4), .val (.int (p1 &&& (3 : Int32))), .val (.ref a5), .val (.int (((p1.toUInt32 >>> ((2 : Int32) &&& 31).toUInt32).toInt32) &&& (3 : Int32))), .val (.ref b_1), .val (.int (6 : Int32)), .val (.int (2 : Int32))] []) st_131 ?_
        refine Go.to (mkF m 322 #[.val (.int p1), .val (.int p2), .val (.int p3), .val (.int p4), .val (.int (p1 &&& (3 : Int32))), .val (.ref a5), .val (.int (((p1.toUInt32 >>> ((2 : Int32) &&& 31).toUInt32).toInt32) &&& (3 : Int32))), .val (.ref b_1), .val (.int (6 : Int32)), .val (.int (2 : Int32))] []) (fun _ k => XS.goto X_131.here hx rfl (pc0 := 161) (pc' := 322) rfl (hb hby at_161) (by decide) (by decide) k) ?_
        have f_132 : Sta Z h_131 "java/lang/String" "COMPACT_STRINGS" "Z" (.int z) := (((f_51.wr W_55).wr W_56).wr W_131)
        have f_133 : Sta Z h_131 "jdk/internal/util/Preconditions" "SIOOBE_FORMATTER" "Ljava/util/function/BiFunction;" fm := (((f_52.wr W_55).wr W_56).wr W_131)
        have f_134 : Sta Z h_131 "com/example/statementbound/statementbound/statements/internal/Statement$Kind" "$VALUES" "[Lcom/example/statementbound/statementbound/statements/internal/Statement$Kind;" (.ref av) := (((((((((PS_com_example_statementbound_statementbound_statements_internal_Statement_Kind__VALUES.ext E_1).wr W_10).wr W_19).wr W_28).wr W_37).wr W_46).wr W_55).wr W_56).wr W_131)
        have f_135 : Exa Z h_131 av "[Lcom/example/statementbound/statementbound/statements/internal/Statement$Kind;" := (((((((((PE_av.ext E_1).wr W_10).wr W_19).wr W_28).wr W_37).wr W_46).wr W_55).wr W_56).wr W_131)
        have f_136 : Arv Z h_131 av kv (.object "com/example/statementbound/statementbound/statements/internal/Statement$Kind") (4 : Int32) [(.ref v0), (.ref v1), (.ref v2), (.ref v3)] .null := (((((((((PA_av.ext E_1).other W_10 ne_av_b_1).other W_19 ne_av_b_1).other W_28 ne_av_b_1).other W_37 ne_av_b_1).other W_46 ne_av_b_1).other W_55 ne_av_b_1).other W_56 ne_av_b_1).other W_131 ne_av_b_1)
        have f_137 : Fld Z h_131 v0 "com/example/statementbound/statementbound/statements/internal/Statement$Kind" "element" "Ljava/lang/String;" (.ref x0) := (((((((((PF_v0_element.ext E_1).other W_10 (Or.inl ne_v0_b_1)).other W_19 (Or.inl ne_v0_b_1)).other W_28 (Or.inl ne_v0_b_1)).other W_37 (Or.inl ne_v0_b_1)).other W_46 (Or.inl ne_v0_b_1)).other W_55 (Or.inl ne_v0_b_1)).other W_56 (Or.inl ne_v0_b_1)).other W_131 (Or.inl ne_v0_b_1))
        have f_138 : Exa Z h_131 x0 "java/lang/String" := (((((((((PE_x0.ext E_1).wr W_10).wr W_19).wr W_28).wr W_37).wr W_46).wr W_55).wr W_56).wr W_131)
        have f_139 : Fld Z h_131 x0 "java/lang/String" "value" "[B" (.ref t0) := (((((((((PF_x0_value.ext E_1).other W_10 (Or.inl ne_x0_b_1)).other W_19 (Or.inl ne_x0_b_1)).other W_28 (Or.inl ne_x0_b_1)).other W_37 (Or.inl ne_x0_b_1)).other W_46 (Or.inl ne_x0_b_1)).other W_55 (Or.inl ne_x0_b_1)).other W_56 (Or.inl ne_x0_b_1)).other W_131 (Or.inl ne_x0_b_1))
        have f_140 : Fld Z h_131 x0 "java/lang/String" "coder" "B" (.int (0 : Int32)) := (((((((((PF_x0_coder.ext E_1).other W_10 (Or.inl ne_x0_b_1)).other W_19 (Or.inl ne_x0_b_1)).other W_28 (Or.inl ne_x0_b_1)).other W_37 (Or.inl ne_x0_b_1)).other W_46 (Or.inl ne_x0_b_1)).other W_55 (Or.inl ne_x0_b_1)).other W_56 (Or.inl ne_x0_b_1)).other W_131 (Or.inl ne_x0_b_1))
        have f_141 : Arv Z h_131 t0 kt0 .byte (6 : Int32) (own_str own_t0) (.int (0 : Int32)) := (((((((((PA_t0.ext E_1).other W_10 ne_t0_b_1).other W_19 ne_t0_b_1).other W_28 ne_t0_b_1).other W_37 ne_t0_b_1).other W_46 ne_t0_b_1).other W_55 ne_t0_b_1).other W_56 ne_t0_b_1).other W_131 ne_t0_b_1)
        have f_142 : Fld Z h_131 v1 "com/example/statementbound/statementbound/statements/internal/Statement$Kind" "element" "Ljava/lang/String;" (.ref x1) := (((((((((PF_v1_element.ext E_1).other W_10 (Or.inl ne_v1_b_1)).other W_19 (Or.inl ne_v1_b_1)).other W_28 (Or.inl ne_v1_b_1)).other W_37 (Or.inl ne_v1_b_1)).other W_46 (Or.inl ne_v1_b_1)).other W_55 (Or.inl ne_v1_b_1)).other W_56 (Or.inl ne_v1_b_1)).other W_131 (Or.inl ne_v1_b_1))
        have f_143 : Exa Z h_131 x1 "java/lang/String" := (((((((((PE_x1.ext E_1).wr W_10).wr W_19).wr W_28).wr W_37).wr W_46).wr W_55).wr W_56).wr W_131)
        have f_144 : Fld Z h_131 x1 "java/lang/String" "value" "[B" (.ref t1) := (((((((((PF_x1_value.ext E_1).other W_10 (Or.inl ne_x1_b_1)).other W_19 (Or.inl ne_x1_b_1)).other W_28 (Or.inl ne_x1_b_1)).other W_37 (Or.inl ne_x1_b_1)).other W_46 (Or.inl ne_x1_b_1)).other W_55 (Or.inl ne_x1_b_1)).other W_56 (Or.inl ne_x1_b_1)).other W_131 (Or.inl ne_x1_b_1))
        have f_145 : Fld Z h_131 x1 "java/lang/String" "coder" "B" (.int (0 : Int32)) := (((((((((PF_x1_coder.ext E_1).other W_10 (Or.inl ne_x1_b_1)).other W_19 (Or.inl ne_x1_b_1)).other W_28 (Or.inl ne_x1_b_1)).other W_37 (Or.inl ne_x1_b_1)).other W_46 (Or.inl ne_x1_b_1)).other W_55 (Or.inl ne_x1_b_1)).other W_56 (Or.inl ne_x1_b_1)).other W_131 (Or.inl ne_x1_b_1))
        have f_146 : Arv Z h_131 t1 kt1 .byte (6 : Int32) (own_str own_t1) (.int (0 : Int32)) := (((((((((PA_t1.ext E_1).other W_10 ne_t1_b_1).other W_19 ne_t1_b_1).other W_28 ne_t1_b_1).other W_37 ne_t1_b_1).other W_46 ne_t1_b_1).other W_55 ne_t1_b_1).other W_56 ne_t1_b_1).other W_131 ne_t1_b_1)
        have f_147 : Fld Z h_131 v2 "com/example/statementbound/statementbound/statements/internal/Statement$Kind" "element" "Ljava/lang/String;" (.ref x2) := (((((((((PF_v2_element.ext E_1).other W_10 (Or.inl ne_v2_b_1)).other W_19 (Or.inl ne_v2_b_1)).other W_28 (Or.inl ne_v2_b_1)).other W_37 (Or.inl ne_v2_b_1)).other W_46 (Or.inl ne_v2_b_1)).other W_55 (Or.inl ne_v2_b_1)).other W_56 (Or.inl ne_v2_b_1)).other W_131 (Or.inl ne_v2_b_1))
        have f_148 : Exa Z h_131 x2 "java/lang/String" := (((((((((PE_x2.ext E_1).wr W_10).wr W_19).wr W_28).wr W_37).wr W_46).wr W_55).wr W_56).wr W_131)
        have f_149 : Fld Z h_131 x2 "java/lang/String" "value" "[B" (.ref t2) := (((((((((PF_x2_value.ext E_1).other W_10 (Or.inl ne_x2_b_1)).other W_19 (Or.inl ne_x2_b_1)).other W_28 (Or.inl ne_x2_b_1)).other W_37 (Or.inl ne_x2_b_1)).other W_46 (Or.inl ne_x2_b_1)).other W_55 (Or.inl ne_x2_b_1)).other W_56 (Or.inl ne_x2_b_1)).other W_131 (Or.inl ne_x2_b_1))
        have f_150 : Fld Z h_131 x2 "java/lang/String" "coder" "B" (.int (0 : Int32)) := (((((((((PF_x2_coder.ext E_1).other W_10 (Or.inl ne_x2_b_1)).other W_19 (Or.inl ne_x2_b_1)).other W_28 (Or.inl ne_x2_b_1)).other W_37 (Or.inl ne_x2_b_1)).other W_46 (Or.inl ne_x2_b_1)).other W_55 (Or.inl ne_x2_b_1)).other W_56 (Or.inl ne_x2_b_1)).other W_131 (Or.inl ne_x2_b_1))
        have f_151 : Arv Z h_131 t2 kt2 .byte (6 : Int32) (own_str own_t2) (.int (0 : Int32)) := (((((((((PA_t2.ext E_1).other W_10 ne_t2_b_1).other W_19 ne_t2_b_1).other W_28 ne_t2_b_1).other W_37 ne_t2_b_1).other W_46 ne_t2_b_1).other W_55 ne_t2_b_1).other W_56 ne_t2_b_1).other W_131 ne_t2_b_1)
        have f_152 : Fld Z h_131 v3 "com/example/statementbound/statementbound/statements/internal/Statement$Kind" "element" "Ljava/lang/String;" (.ref x3) := (((((((((PF_v3_element.ext E_1).other W_10 (Or.inl ne_v3_b_1)).other W_19 (Or.inl ne_v3_b_1)).other W_28 (Or.inl ne_v3_b_1)).other W_37 (Or.inl ne_v3_b_1)).other W_46 (Or.inl ne_v3_b_1)).other W_55 (Or.inl ne_v3_b_1)).other W_56 (Or.inl ne_v3_b_1)).other W_131 (Or.inl ne_v3_b_1))
        have f_153 : Exa Z h_131 x3 "java/lang/String" := (((((((((PE_x3.ext E_1).wr W_10).wr W_19).wr W_28).wr W_37).wr W_46).wr W_55).wr W_56).wr W_131)
        have f_154 : Fld Z h_131 x3 "java/lang/String" "value" "[B" (.ref t3) := (((((((((PF_x3_value.ext E_1).other W_10 (Or.inl ne_x3_b_1)).other W_19 (Or.inl ne_x3_b_1)).other W_28 (Or.inl ne_x3_b_1)).other W_37 (Or.inl ne_x3_b_1)).other W_46 (Or.inl ne_x3_b_1)).other W_55 (Or.inl ne_x3_b_1)).other W_56 (Or.inl ne_x3_b_1)).other W_131 (Or.inl ne_x3_b_1))
        have f_155 : Fld Z h_131 x3 "java/lang/String" "coder" "B" (.int (0 : Int32)) := (((((((((PF_x3_coder.ext E_1).other W_10 (Or.inl ne_x3_b_1)).other W_19 (Or.inl ne_x3_b_1)).other W_28 (Or.inl ne_x3_b_1)).other W_37 (Or.inl ne_x3_b_1)).other W_46 (Or.inl ne_x3_b_1)).other W_55 (Or.inl ne_x3_b_1)).other W_56 (Or.inl ne_x3_b_1)).other W_131 (Or.inl ne_x3_b_1))
        have f_156 : Arv Z h_131 t3 kt3 .byte (6 : Int32) (own_str own_t3) (.int (0 : Int32)) := (((((((((PA_t3.ext E_1).other W_10 ne_t3_b_1).other W_19 ne_t3_b_1).other W_28 ne_t3_b_1).other W_37 ne_t3_b_1).other W_46 ne_t3_b_1).other W_55 ne_t3_b_1).other W_56 ne_t3_b_1).other W_131 ne_t3_b_1)
        have f_157 : Sta Z h_131 "com/example/statementbound/statementbound/statements/internal/Statement$Kind" "SELECT" "Lcom/example/statementbound/statementbound/statements/internal/Statement$Kind;" (.ref v0) := (((((((((PS_com_example_statementbound_statementbound_statements_internal_Statement_Kind_SELECT.ext E_1).wr W_10).wr W_19).wr W_28).wr W_37).wr W_46).wr W_55).wr W_56).wr W_131)
        have f_158 : Sta Z h_131 "com/example/statementbound/statementbound/statements/internal/Statement$Kind" "INSERT" "Lcom/example/statementbound/statementbound/statements/internal/Statement$Kind;" (.ref v1) := (((((((((PS_com_example_statementbound_statementbound_statements_internal_Statement_Kind_INSERT.ext E_1).wr W_10).wr W_19).wr W_28).wr W_37).wr W_46).wr W_55).wr W_56).wr W_131)
        have f_159 : Sta Z h_131 "com/example/statementbound/statementbound/statements/internal/Statement$Kind" "UPDATE" "Lcom/example/statementbound/statementbound/statements/internal/Statement$Kind;" (.ref v2) := (((((((((PS_com_example_statementbound_statementbound_statements_internal_Statement_Kind_UPDATE.ext E_1).wr W_10).wr W_19).wr W_28).wr W_37).wr W_46).wr W_55).wr W_56).wr W_131)
        have f_160 : Sta Z h_131 "com/example/statementbound/statementbound/statements/internal/Statement$Kind" "DELETE" "Lcom/example/statementbound/statementbound/statements/internal/Statement$Kind;" (.ref v3) := (((((((((PS_com_example_statementbound_statementbound_statements_internal_Statement_Kind_DELETE.ext E_1).wr W_10).wr W_19).wr W_28).wr W_37).wr W_46).wr W_55).wr W_56).wr W_131)
        have f_161 : Exa Z h_131 a5 "java/lang/String" := (((f_47.wr W_55).wr W_56).wr W_131)
        have f_162 : Fld Z h_131 a5 "java/lang/String" "value" "[B" (.ref t5) := (((f_48.other W_55 (Or.inl ne_a5_b_1)).other W_56 (Or.inl ne_a5_b_1)).other W_131 (Or.inl ne_a5_b_1))
        have f_163 : Fld Z h_131 a5 "java/lang/String" "coder" "B" (.int (0 : Int32)) := (((f_49.other W_55 (Or.inl ne_a5_b_1)).other W_56 (Or.inl ne_a5_b_1)).other W_131 (Or.inl ne_a5_b_1))
        have f_164 : Arv Z h_131 t5 kb5 .byte (6 : Int32) (own_str ([c0, c1, c2, c3, c4, c5] : List Int32)) (.int (0 : Int32)) := (((f_50.other W_55 ne_t5_b_1).other W_56 ne_t5_b_1).other W_131 ne_t5_b_1)
        have f_165 : n0 ≤ h_131.size := (Nat.le_trans (Nat.le_trans (Nat.le_trans f_53 (Keep.of_wr W_55).1) (Keep.of_wr W_56).1) (Keep.of_wr W_131).1)
        have f_166 : kk ≤ h_131.size := (Nat.le_trans (Nat.le_trans (Nat.le_trans (Nat.le_trans (Nat.le_trans (Nat.le_trans (Nat.le_trans (Nat.le_trans (Nat.le_trans hk E_1.1) (Keep.of_wr W_10).1) (Keep.of_wr W_19).1) (Keep.of_wr W_28).1) (Keep.of_wr W_37).1) (Keep.of_wr W_46).1) (Keep.of_wr W_55).1) (Keep.of_wr W_56).1) (Keep.of_wr W_131).1)
        have f_167 : Keep hq h_131 [] := (((((((((hKq.ext E_1).wr W_10 (Or.inr sz_b_1)).wr W_19 (Or.inr sz_b_1)).wr W_28 (Or.inr sz_b_1)).wr W_37 (Or.inr sz_b_1)).wr W_46 (Or.inr sz_b_1)).wr W_55 (Or.inr sz_b_1)).wr W_56 (Or.inr sz_b_1)).wr W_131 (Or.inr sz_b_1))
        exact own_s322 l Z a0 hw p1 p2 p3 p4 av kv v0 v1 v2 v3 x0 t0 kt0 x1 t1 kt1 x2 t2 kt2 x3 t3 kt3 z fm a5 t5 kb5 ([c0, c1, c2, c3, c4, c5] : List Int32) b_1 k_1 c0 c1 (nar .char ((p3 &&& (255 : Int32)).toUInt32.toUInt16.toUInt32.toInt32)) c3 c4 c5 (nar .char ((p3 &&& (255 : Int32)).toUInt32.toUInt16.toUInt32.toInt32)) (6 : Int32) (.val (.int (2 : Int32))) hq p e s m below meth c _ _ _ _ hx hZ hby hml hown hnm hret hlk _ n0 f_165 (X_131.more (by decide) (by decide)) e_131 N_131 hS f_166 f_167 f_132 f_133 f_134 f_135 f_136 f_137 f_138 f_139 f_140 f_141 f_142 f_143 f_144 f_145 f_146 f_147 f_148 f_149 f_150 f_151 f_152 f_153 f_154 f_155 f_156 f_157 f_158 f_159 f_160 f_161 f_162 f_163 f_164 V_131 hz rf hcw hlS hl_0 hl_1 hl_2 hl_3 hZh (own_az hc0) (own_az hc1) (own_and255 _) (own_az hc3) (own_az hc4) (own_az hc5) (own_and255 _) (by decide) (by decide) (own_one_v rfl) hov
      · refine Go.to (mkF m 152 #[.val (.int p1), .val (.int p2), .val (.int p3), .val (.int p4), .val (.int (p1 &&& (3 : Int32))), .val (.ref a5), .val (.int (((p1.toUInt32 >>> ((2 : Int32) &&& 31).toUInt32).toInt32) &&& (3 : Int32))), .val (.ref b_1), .val (.int (6 : Int32)), .val (.int (3 : Int32))] [(.ref b_1)]) (fun _ k => XS.aload X_56.here hx rfl (hb hby at_150) rfl rfl k) ?_
        refine Go.to (mkF m 154 #[.val (.int p1), .val (.int p2), .val (.int p3), .val (.int p4), .val (.int (p1 &&& (3 : Int32))), .val (.ref a5), .val (.int (((p1.toUInt32 >>> ((2 : Int32) &&& 31).toUInt32).toInt32) &&& (3 : Int32))), .val (.ref b_1), .val (.int (6 : Int32)), .val (.int (3 : Int32))] [(.int (3 : Int32)), (.ref b_1)]) (fun _ k => XS.iload X_56.here hx rfl (hb hby at_152) rfl  k) ?_
        refine Go.to (mkF m 155 #[.val (.int p1), .val (.int p2), .val (.int p3), .val (.int p4), .val (.int (p1 &&& (3 : Int32))), .val (.ref a5), .val (.int (((p1.toUInt32 >>> ((2 : Int32) &&& 31).toUInt32).toInt32) &&& (3 : Int32))), .val (.ref b_1), .val (.int (6 : Int32)), .val (.int (3 : Int32))] [(.int p3), (.int (3 : Int32)), (.ref b_1)]) (fun _ k => XS.iloadN X_56.here hx rfl (hb hby at_154) rfl  k) ?_
        refine Go.to (mkF m 158 #[.val (.int p1), .val (.int p2), .val (.int p3), .val (.int p4), .val (.int (p1 &&& (3 : Int32))), .val (.ref a5), .val (.int (((p1.toUInt32 >>> ((2 : Int32) &&& 31).toUInt32).toInt32) &&& (3 : Int32))), .val (.ref b_1), .val (.int (6 : Int32)), .val (.int (3 : Int32))] [(.int (255 : Int32)), (.int p3), (.int (3 : Int32)), (.ref b_1)]) (fun _ k => XS.sipush X_56.here hx rfl (hb hby at_155) k) ?_
        refine Go.to (mkF m 159 #[.val (.int p1), .val (.int p2), .val (.int p3), .val (.int p4), .val (.int (p1 &&& (3 : Int32))), .val (.ref a5), .val (.int (((p1.toUInt32 >>> ((2 : Int32) &&& 31).toUInt32).toInt32) &&& (3 : Int32))), .val (.ref b_1), .val (.int (6 : Int32)), .val (.int (3 : Int32))] [(.int (p3 &&& (255 : Int32))), (.int (3 : Int32)), (.ref b_1)]) (fun _ k => XS.iand X_56.here hx rfl (hb hby at_158) rfl k) ?_
        refine Go.to (mkF m 160 #[.val (.int p1), .val (.int p2), .val (.int p3), .val (.int p4), .val (.int (p1 &&& (3 : Int32))), .val (.ref a5), .val (.int (((p1.toUInt32 >>> ((2 : Int32) &&& 31).toUInt32).toInt32) &&& (3 : Int32))), .val (.ref b_1), .val (.int (6 : Int32)), .val (.int (3 : Int32))] [(.int ((p3 &&& (255 : Int32)).toUInt32.toUInt16.toUInt32.toInt32)), (.int (3 : Int32)), (.ref b_1)]) (fun _ k => XS.i2c X_56.here hx rfl (hb hby at_159) rfl k) ?_
        obtain ⟨cl_168, Ar_168, q_168, Sz_168, Ng_168, Hh_168, Gg_168⟩ := id V_56
        have hin_168 : ¬ ((3 : Int32) < 0 ∨ cl_168.slots.size ≤ ((3 : Int32)).toNatClampNeg) := inb_of Sz_168 ⟨by decide, by decide⟩
        obtain ⟨T_168, h_168, X_168, e_168, W_168, st_168⟩ := stC X_56 hx hZ e_56 Ar_168 (j := (3 : Int32)) hin_168 (g := (mkF m 160 #[.val (.int p1), .val (.int p2), .val (.int p3), .val (.int p4), .val (.int (p1 &&& (3 : Int32))), .val (.ref a5), .val (.int (((p1.toUInt32 >>> ((2 : Int32) &&& 31).toUInt32).toInt32) &&& (3 : Int32))), .val (.ref b_1), .val (.int (6 : Int32)), .val (.int (3 : Int32))] [(.int ((p3 &&& (255 : Int32)).toUInt32.toUInt16.toUInt32.toInt32)), (.int (3 : Int32)), (.ref b_1)])) rfl rfl (hb hby at_160)
        have N_168 := Fr.snoc X_168 N_56 g_b_1
        have V_168 : Arv Z h_168 b_1 k_1 .char (7 : Int32) [(.int c0), (.int c1), (.int c2), (.int (nar .char ((p3 &&& (255 : Int32)).toUInt32.toUInt16.toUInt32.toInt32))), (.int c4), (.int c5), (.int (nar .char ((p3 &&& (255 : Int32)).toUInt32.toUInt16.toUInt32.toInt32)))] (.int (0 : Int32)) := Arv.set Ar_168 q_168 Sz_168 Ng_168 Hh_168 Gg_168 (fits_nar_char _) W_168 3 rfl (Nat.le_of_ble_eq_true rfl)
        refine Go.to (mkF m 161 #[.val (.int p1), .val (.int p2), .val (.int p3), .val (.int p4), .val (.int (p1 &&& (3 : Int32))), .val (.ref a5), .val (.int (((p1.toUInt32 >>> ((2 : Int32) &&& 31).toUInt32).toInt32) &&& (3 : Int32))), .val (.ref b_1), .val (.int (6 : Int32)), .val (.int (3 : Int32))] []) st_168 ?_
        refine Go.to (mkF m 322 #[.val (.int p1), .val (.int p2), .val (.int p3), .val (.int p4), .val (.int (p1 &&& (3 : Int32))), .val (.ref a5), .val (.int (((p1.toUInt32 >>> ((2 : Int32) &&& 31).toUInt32).toInt32) &&& (3 : Int32))), .val (.ref b_1), .val (.int (6 : Int32)), .val (.int (3 : Int32))] []) (fun _ k => XS.goto X_168.here hx rfl (pc0 := 161) (pc' := 322) rfl (hb hby at_161) (by decide) (by decide) k) ?_
        have f_169 : Sta Z h_168 "java/lang/String" "COMPACT_STRINGS" "Z" (.int z) := (((f_51.wr W_55).wr W_56).wr W_168)
        have f_170 : Sta Z h_168 "jdk/internal/util/Preconditions" "SIOOBE_FORMATTER" "Ljava/util/function/BiFunction;" fm := (((f_52.wr W_55).wr W_56).wr W_168)
        have f_171 : Sta Z h_168 "com/example/statementbound/statementbound/statements/internal/Statement$Kind" "$VALUES" "[Lcom/example/statementbound/statementbound/statements/internal/Statement$Kind;" (.ref av) := (((((((((PS_com_example_statementbound_statementbound_statements_internal_Statement_Kind__VALUES.ext E_1).wr W_10).wr W_19).wr W_28).wr W_37).wr W_46).wr W_55).wr W_56).wr W_168)
        have f_172 : Exa Z h_168 av "[Lcom/example/statementbound/statementbound/statements/internal/Statement$Kind;" := (((((((((PE_av.ext E_1).wr W_10).wr W_19).wr W_28).wr W_37).wr W_46).wr W_55).wr W_56).wr W_168)
        have f_173 : Arv Z h_168 av kv (.object "com/example/statementbound/statementbound/statements/internal/Statement$Kind") (4 : Int32) [(.ref v0), (.ref v1), (.ref v2), (.ref v3)] .null := (((((((((PA_av.ext E_1).other W_10 ne_av_b_1).other W_19 ne_av_b_1).other W_28 ne_av_b_1).other W_37 ne_av_b_1).other W_46 ne_av_b_1).other W_55 ne_av_b_1).other W_56 ne_av_b_1).other W_168 ne_av_b_1)
        have f_174 : Fld Z h_168 v0 "com/example/statementbound/statementbound/statements/internal/Statement$Kind" "element" "Ljava/lang/String;" (.ref x0) := (((((((((PF_v0_element.ext E_1).other W_10 (Or.inl ne_v0_b_1)).other W_19 (Or.inl ne_v0_b_1)).other W_28 (Or.inl ne_v0_b_1)).other W_37 (Or.inl ne_v0_b_1)).other W_46 (Or.inl ne_v0_b_1)).other W_55 (Or.inl ne_v0_b_1)).other W_56 (Or.inl ne_v0_b_1)).other W_168 (Or.inl ne_v0_b_1))
        have f_175 : Exa Z h_168 x0 "java/lang/String" := (((((((((PE_x0.ext E_1).wr W_10).wr W_19).wr W_28).wr W_37).wr W_46).wr W_55).wr W_56).wr W_168)
        have f_176 : Fld Z h_168 x0 "java/lang/String" "value" "[B" (.ref t0) := (((((((((PF_x0_value.ext E_1).other W_10 (Or.inl ne_x0_b_1)).other W_19 (Or.inl ne_x0_b_1)).other W_28 (Or.inl ne_x0_b_1)).other W_37 (Or.inl ne_x0_b_1)).other W_46 (Or.inl ne_x0_b_1)).other W_55 (Or.inl ne_x0_b_1)).other W_56 (Or.inl ne_x0_b_1)).other W_168 (Or.inl ne_x0_b_1))
        have f_177 : Fld Z h_168 x0 "java/lang/String" "coder" "B" (.int (0 : Int32)) := (((((((((PF_x0_coder.ext E_1).other W_10 (Or.inl ne_x0_b_1)).other W_19 (Or.inl ne_x0_b_1)).other W_28 (Or.inl ne_x0_b_1)).other W_37 (Or.inl ne_x0_b_1)).other W_46 (Or.inl ne_x0_b_1)).other W_55 (Or.inl ne_x0_b_1)).other W_56 (Or.inl ne_x0_b_1)).other W_168 (Or.inl ne_x0_b_1))
        have f_178 : Arv Z h_168 t0 kt0 .byte (6 : Int32) (own_str own_t0) (.int (0 : Int32)) := (((((((((PA_t0.ext E_1).other W_10 ne_t0_b_1).other W_19 ne_t0_b_1).other W_28 ne_t0_b_1).other W_37 ne_t0_b_1).other W_46 ne_t0_b_1).other W_55 ne_t0_b_1).other W_56 ne_t0_b_1).other W_168 ne_t0_b_1)
        have f_179 : Fld Z h_168 v1 "com/example/statementbound/statementbound/statements/internal/Statement$Kind" "element" "Ljava/lang/String;" (.ref x1) := (((((((((PF_v1_element.ext E_1).other W_10 (Or.inl ne_v1_b_1)).other W_19 (Or.inl ne_v1_b_1)).other W_28 (Or.inl ne_v1_b_1)).other W_37 (Or.inl ne_v1_b_1)).other W_46 (Or.inl ne_v1_b_1)).other W_55 (Or.inl ne_v1_b_1)).other W_56 (Or.inl ne_v1_b_1)).other W_168 (Or.inl ne_v1_b_1))
        have f_180 : Exa Z h_168 x1 "java/lang/String" := (((((((((PE_x1.ext E_1).wr W_10).wr W_19).wr W_28).wr W_37).wr W_46).wr W_55).wr W_56).wr W_168)
        have f_181 : Fld Z h_168 x1 "java/lang/String" "value" "[B" (.ref t1) := (((((((((PF_x1_value.ext E_1).other W_10 (Or.inl ne_x1_b_1)).other W_19 (Or.inl ne_x1_b_1)).other W_28 (Or.inl ne_x1_b_1)).other W_37 (Or.inl ne_x1_b_1)).other W_46 (Or.inl ne_x1_b_1)).other W_55 (Or.inl ne_x1_b_1)).other W_56 (Or.inl ne_x1_b_1)).other W_168 (Or.inl ne_x1_b_1))
        have f_182 : Fld Z h_168 x1 "java/lang/String" "coder" "B" (.int (0 : Int32)) := (((((((((PF_x1_coder.ext E_1).other W_10 (Or.inl ne_x1_b_1)).other W_19 (Or.inl ne_x1_b_1)).other W_28 (Or.inl ne_x1_b_1)).other W_37 (Or.inl ne_x1_b_1)).other W_46 (Or.inl ne_x1_b_1)).other W_55 (Or.inl ne_x1_b_1)).other W_56 (Or.inl ne_x1_b_1)).other W_168 (Or.inl ne_x1_b_1))
        have f_183 : Arv Z h_168 t1 kt1 .byte (6 : Int32) (own_str own_t1) (.int (0 : Int32)) := (((((((((PA_t1.ext E_1).other W_10 ne_t1_b_1).other W_19 ne_t1_b_1).other W_28 ne_t1_b_1).other W_37 ne_t1_b_1).other W_46 ne_t1_b_1).other W_55 ne_t1_b_1).other W_56 ne_t1_b_1).other W_168 ne_t1_b_1)
        have f_184 : Fld Z h_168 v2 "com/example/statementbound/statementbound/statements/internal/Statement$Kind" "element" "Ljava/lang/String;" (.ref x2) := (((((((((PF_v2_element.ext E_1).other W_10 (Or.inl ne_v2_b_1)).other W_19 (Or.inl ne_v2_b_1)).other W_28 (Or.inl ne_v2_b_1)).other W_37 (Or.inl ne_v2_b_1)).other W_46 (Or.inl ne_v2_b_1)).other W_55 (Or.inl ne_v2_b_1)).other W_56 (Or.inl ne_v2_b_1)).other W_168 (Or.inl ne_v2_b_1))
        have f_185 : Exa Z h_168 x2 "java/lang/String" := (((((((((PE_x2.ext E_1).wr W_10).wr W_19).wr W_28).wr W_37).wr W_46).wr W_55).wr W_56).wr W_168)
        have f_186 : Fld Z h_168 x2 "java/lang/String" "value" "[B" (.ref t2) := (((((((((PF_x2_value.ext E_1).other W_10 (Or.inl ne_x2_b_1)).other W_19 (Or.inl ne_x2_b_1)).other W_28 (Or.inl ne_x2_b_1)).other W_37 (Or.inl ne_x2_b_1)).other W_46 (Or.inl ne_x2_b_1)).other W_55 (Or.inl ne_x2_b_1)).other W_56 (Or.inl ne_x2_b_1)).other W_168 (Or.inl ne_x2_b_1))
        have f_187 : Fld Z h_168 x2 "java/lang/String" "coder" "B" (.int (0 : Int32)) := (((((((((PF_x2_coder.ext E_1).other W_10 (Or.inl ne_x2_b_1)).other W_19 (Or.inl ne_x2_b_1)).other W_28 (Or.inl ne_x2_b_1)).other W_37 (Or.inl ne_x2_b_1)).other W_46 (Or.inl ne_x2_b_1)).other W_55 (Or.inl ne_x2_b_1)).other W_56 (Or.inl ne_x2_b_1)).other W_168 (Or.inl ne_x2_b_1))
        have f_188 : Arv Z h_168 t2 kt2 .byte (6 : Int32) (own_str own_t2) (.int (0 : Int32)) := (((((((((PA_t2.ext E_1).other W_10 ne_t2_b_1).other W_19 ne_t2_b_1).other W_28 ne_t2_b_1).other W_37 ne_t2_b_1).other W_46 ne_t2_b_1).other W_55 ne_t2_b_1).other W_56 ne_t2_b_1).other W_168 ne_t2_b_1)
        have f_189 : Fld Z h_168 v3 "com/example/statementbound/statementbound/statements/internal/Statement$Kind" "element" "Ljava/lang/String;" (.ref x3) := (((((((((PF_v3_element.ext E_1).other W_10 (Or.inl ne_v3_b_1)).other W_19 (Or.inl ne_v3_b_1)).other W_28 (Or.inl ne_v3_b_1)).other W_37 (Or.inl ne_v3_b_1)).other W_46 (Or.inl ne_v3_b_1)).other W_55 (Or.inl ne_v3_b_1)).other W_56 (Or.inl ne_v3_b_1)).other W_168 (Or.inl ne_v3_b_1))
        have f_190 : Exa Z h_168 x3 "java/lang/String" := (((((((((PE_x3.ext E_1).wr W_10).wr W_19).wr W_28).wr W_37).wr W_46).wr W_55).wr W_56).wr W_168)
        have f_191 : Fld Z h_168 x3 "java/lang/String" "value" "[B" (.ref t3) := (((((((((PF_x3_value.ext E_1).other W_10 (Or.inl ne_x3_b_1)).other W_19 (Or.inl ne_x3_b_1)).other W_28 (Or.inl ne_x3_b_1)).other W_37 (Or.inl ne_x3_b_1)).other W_46 (Or.inl ne_x3_b_1)).other W_55 (Or.inl ne_x3_b_1)).other W_56 (Or.inl ne_x3_b_1)).other W_168 (Or.inl ne_x3_b_1))
        have f_192 : Fld Z h_168 x3 "java/lang/String" "coder" "B" (.int (0 : Int32)) := (((((((((PF_x3_coder.ext E_1).other W_10 (Or.inl ne_x3_b_1)).other W_19 (Or.inl ne_x3_b_1)).other W_28 (Or.inl ne_x3_b_1)).other W_37 (Or.inl ne_x3_b_1)).other W_46 (Or.inl ne_x3_b_1)).other W_55 (Or.inl ne_x3_b_1)).other W_56 (Or.inl ne_x3_b_1)).other W_168 (Or.inl ne_x3_b_1))
        have f_193 : Arv Z h_168 t3 kt3 .byte (6 : Int32) (own_str own_t3) (.int (0 : Int32)) := (((((((((PA_t3.ext E_1).other W_10 ne_t3_b_1).other W_19 ne_t3_b_1).other W_28 ne_t3_b_1).other W_37 ne_t3_b_1).other W_46 ne_t3_b_1).other W_55 ne_t3_b_1).other W_56 ne_t3_b_1).other W_168 ne_t3_b_1)
        have f_194 : Sta Z h_168 "com/example/statementbound/statementbound/statements/internal/Statement$Kind" "SELECT" "Lcom/example/statementbound/statementbound/statements/internal/Statement$Kind;" (.ref v0) := (((((((((PS_com_example_statementbound_statementbound_statements_internal_Statement_Kind_SELECT.ext E_1).wr W_10).wr W_19).wr W_28).wr W_37).wr W_46).wr W_55).wr W_56).wr W_168)
        have f_195 : Sta Z h_168 "com/example/statementbound/statementbound/statements/internal/Statement$Kind" "INSERT" "Lcom/example/statementbound/statementbound/statements/internal/Statement$Kind;" (.ref v1) := (((((((((PS_com_example_statementbound_statementbound_statements_internal_Statement_Kind_INSERT.ext E_1).wr W_10).wr W_19).wr W_28).wr W_37).wr W_46).wr W_55).wr W_56).wr W_168)
        have f_196 : Sta Z h_168 "com/example/statementbound/statementbound/statements/internal/Statement$Kind" "UPDATE" "Lcom/example/statementbound/statementbound/statements/internal/Statement$Kind;" (.ref v2) := (((((((((PS_com_example_statementbound_statementbound_statements_internal_Statement_Kind_UPDATE.ext E_1).wr W_10).wr W_19).wr W_28).wr W_37).wr W_46).wr W_55).wr W_56).wr W_168)
        have f_197 : Sta Z h_168 "com/example/statementbound/statementbound/statements/internal/Statement$Kind" "DELETE" "Lcom/example/statementbound/statementbound/statements/internal/Statement$Kind;" (.ref v3) := (((((((((PS_com_example_statementbound_statementbound_statements_internal_Statement_Kind_DELETE.ext E_1).wr W_10).wr W_19).wr W_28).wr W_37).wr W_46).wr W_55).wr W_56).wr W_168)
        have f_198 : Exa Z h_168 a5 "java/lang/String" := (((f_47.wr W_55).wr W_56).wr W_168)
        have f_199 : Fld Z h_168 a5 "java/lang/String" "value" "[B" (.ref t5) := (((f_48.other W_55 (Or.inl ne_a5_b_1)).other W_56 (Or.inl ne_a5_b_1)).other W_168 (Or.inl ne_a5_b_1))
        have f_200 : Fld Z h_168 a5 "java/lang/String" "coder" "B" (.int (0 : Int32)) := (((f_49.other W_55 (Or.inl ne_a5_b_1)).other W_56 (Or.inl ne_a5_b_1)).other W_168 (Or.inl ne_a5_b_1))
        have f_201 : Arv Z h_168 t5 kb5 .byte (6 : Int32) (own_str ([c0, c1, c2, c3, c4, c5] : List Int32)) (.int (0 : Int32)) := (((f_50.other W_55 ne_t5_b_1).other W_56 ne_t5_b_1).other W_168 ne_t5_b_1)
        have f_202 : n0 ≤ h_168.size := (Nat.le_trans (Nat.le_trans (Nat.le_trans f_53 (Keep.of_wr W_55).1) (Keep.of_wr W_56).1) (Keep.of_wr W_168).1)
        have f_203 : kk ≤ h_168.size := (Nat.le_trans (Nat.le_trans (Nat.le_trans (Nat.le_trans (Nat.le_trans (Nat.le_trans (Nat.le_trans (Nat.le_trans (Nat.le_trans hk E_1.1) (Keep.of_wr W_10).1) (Keep.of_wr W_19).1) (Keep.of_wr W_28).1) (Keep.of_wr W_37).1) (Keep.of_wr W_46).1) (Keep.of_wr W_55).1) (Keep.of_wr W_56).1) (Keep.of_wr W_168).1)
        have f_204 : Keep hq h_168 [] := (((((((((hKq.ext E_1).wr W_10 (Or.inr sz_b_1)).wr W_19 (Or.inr sz_b_1)).wr W_28 (Or.inr sz_b_1)).wr W_37 (Or.inr sz_b_1)).wr W_46 (Or.inr sz_b_1)).wr W_55 (Or.inr sz_b_1)).wr W_56 (Or.inr sz_b_1)).wr W_168 (Or.inr sz_b_1))
        exact own_s322 l Z a0 hw p1 p2 p3 p4 av kv v0 v1 v2 v3 x0 t0 kt0 x1 t1 kt1 x2 t2 kt2 x3 t3 kt3 z fm a5 t5 kb5 ([c0, c1, c2, c3, c4, c5] : List Int32) b_1 k_1 c0 c1 c2 (nar .char ((p3 &&& (255 : Int32)).toUInt32.toUInt16.toUInt32.toInt32)) c4 c5 (nar .char ((p3 &&& (255 : Int32)).toUInt32.toUInt16.toUInt32.toInt32)) (6 : Int32) (.val (.int (3 : Int32))) hq p e s m below meth c _ _ _ _ hx hZ hby hml hown hnm hret hlk _ n0 f_202 (X_168.more (by decide) (by decide)) e_168 N_168 hS f_203 f_204 f_169 f_170 f_171 f_172 f_173 f_174 f_175 f_176 f_177 f_178 f_179 f_180 f_181 f_182 f_183 f_184 f_185 f_186 f_187 f_188 f_189 f_190 f_191 f_192 f_193 f_194 f_195 f_196 f_197 f_198 f_199 f_200 f_201 V_168 hz rf hcw hlS hl_0 hl_1 hl_2 hl_3 hZh (own_az hc0) (own_az hc1) (own_az hc2) (own_and255 _) (own_az hc4) (own_az hc5) (own_and255 _) (by decide) (by decide) (own_one_v rfl) hov
      · refine Go.to (mkF m 152 #[.val (.int p1), .val (.int p2), .val (.int p3), .val (.int p4), .val (.int (p1 &&& (3 : Int32))), .val (.ref a5), .val (.int (((p1.toUInt32 >>> ((2 : Int32) &&& 31).toUInt32).toInt32) &&& (3 : Int32))), .val (.ref b_1), .val (.int (6 : Int32)), .val (.int (4 : Int32))] [(.ref b_1)]) (fun _ k => XS.aload X_56.here hx rfl (hb hby at_150) rfl rfl k) ?_
        refine Go.to (mkF m 154 #[.val (.int p1), .val (.int p2), .val (.int p3), .val (.int p4), .val (.int (p1 &&& (3 : Int32))), .val (.ref a5), .val (.int (((p1.toUInt32 >>> ((2 : Int32) &&& 31).toUInt32).toInt32) &&& (3 : Int32))), .val (.ref b_1), .val (.int (6 : Int32)), .val (.int (4 : Int32))] [(.int (4 : Int32)), (.ref b_1)]) (fun _ k => XS.iload X_56.here hx rfl (hb hby at_152) rfl  k) ?_
        refine Go.to (mkF m 155 #[.val (.int p1), .val (.int p2), .val (.int p3), .val (.int p4), .val (.int (p1 &&& (3 : Int32))), .val (.ref a5), .val (.int (((p1.toUInt32 >>> ((2 : Int32) &&& 31).toUInt32).toInt32) &&& (3 : Int32))), .val (.ref b_1), .val (.int (6 : Int32)), .val (.int (4 : Int32))] [(.int p3), (.int (4 : Int32)), (.ref b_1)]) (fun _ k => XS.iloadN X_56.here hx rfl (hb hby at_154) rfl  k) ?_
        refine Go.to (mkF m 158 #[.val (.int p1), .val (.int p2), .val (.int p3), .val (.int p4), .val (.int (p1 &&& (3 : Int32))), .val (.ref a5), .val (.int (((p1.toUInt32 >>> ((2 : Int32) &&& 31).toUInt32).toInt32) &&& (3 : Int32))), .val (.ref b_1), .val (.int (6 : Int32)), .val (.int (4 : Int32))] [(.int (255 : Int32)), (.int p3), (.int (4 : Int32)), (.ref b_1)]) (fun _ k => XS.sipush X_56.here hx rfl (hb hby at_155) k) ?_
        refine Go.to (mkF m 159 #[.val (.int p1), .val (.int p2), .val (.int p3), .val (.int p4), .val (.int (p1 &&& (3 : Int32))), .val (.ref a5), .val (.int (((p1.toUInt32 >>> ((2 : Int32) &&& 31).toUInt32).toInt32) &&& (3 : Int32))), .val (.ref b_1), .val (.int (6 : Int32)), .val (.int (4 : Int32))] [(.int (p3 &&& (255 : Int32))), (.int (4 : Int32)), (.ref b_1)]) (fun _ k => XS.iand X_56.here hx rfl (hb hby at_158) rfl k) ?_
        refine Go.to (mkF m 160 #[.val (.int p1), .val (.int p2), .val (.int p3), .val (.int p4), .val (.int (p1 &&& (3 : Int32))), .val (.ref a5), .val (.int (((p1.toUInt32 >>> ((2 : Int32) &&& 31).toUInt32).toInt32) &&& (3 : Int32))), .val (.ref b_1), .val (.int (6 : Int32)), .val (.int (4 : Int32))] [(.int ((p3 &&& (255 : Int32)).toUInt32.toUInt16.toUInt32.toInt32)), (.int (4 : Int32)), (.ref b_1)]) (fun _ k => XS.i2c X_56.here hx rfl (hb hby at_159) rfl k) ?_
        obtain ⟨cl_205, Ar_205, q_205, Sz_205, Ng_205, Hh_205, Gg_205⟩ := id V_56
        have hin_205 : ¬ ((4 : Int32) < 0 ∨ cl_205.slots.size ≤ ((4 : Int32)).toNatClampNeg) := inb_of Sz_205 ⟨by decide, by decide⟩
        obtain ⟨T_205, h_205, X_205, e_205, W_205, st_205⟩ := stC X_56 hx hZ e_56 Ar_205 (j := (4 : Int32)) hin_205 (g := (mkF m 160 #[.val (.int p1), .val (.int p2), .val (.int p3), .val (.int p4), .val (.int (p1 &&& (3 : Int32))), .val (.ref a5), .val (.int (((p1.toUInt32 >>> ((2 : Int32) &&& 31).toUInt32).toInt32) &&& (3 : Int32))), .val (.ref b_1), .val (.int (6 : Int32)), .val (.int (4 : Int32))] [(.int ((p3 &&& (255 : Int32)).toUInt32.toUInt16.toUInt32.toInt32)), (.int (4 : Int32)), (.ref b_1)])) rfl rfl (hb hby at_160)
        have N_205 := Fr.snoc X_205 N_56 g_b_1
        have V_205 : Arv Z h_205 b_1 k_1 .char (7 : Int32) [(.int c0), (.int c1), (.int c2), (.int c3), (.int (nar .char ((p3 &&& (255 : Int32)).toUInt32.toUInt16.toUInt32.toInt32))), (.int c5), (.int (nar .char ((p3 &&& (255 : Int32)).toUInt32.toUInt16.toUInt32.toInt32)))] (.int (0 : Int32)) := Arv.set Ar_205 q_205 Sz_205 Ng_205 Hh_205 Gg_205 (fits_nar_char _) W_205 4 rfl (Nat.le_of_ble_eq_true rfl)
        refine Go.to (mkF m 161 #[.val (.int p1), .val (.int p2), .val (.int p3), .val (.int p4), .val (.int (p1 &&& (3 : Int32))), .val (.ref a5), .val (.int (((p1.toUInt32 >>> ((2 : Int32) &&& 31).toUInt32).toInt32) &&& (3 : Int32))), .val (.ref b_1), .val (.int (6 : Int32)), .val (.int (4 : Int32))] []) st_205 ?_
        refine Go.to (mkF m 322 #[.val (.int p1), .val (.int p2), .val (.int p3), .val (.int p4), .val (.int (p1 &&& (3 : Int32))), .val (.ref a5), .val (.int (((p1.toUInt32 >>> ((2 : Int32) &&& 31).toUInt32).toInt32) &&& (3 : Int32))), .val (.ref b_1), .val (.int (6 : Int32)), .val (.int (4 : Int32))] []) (fun _ k => XS.goto X_205.here hx rfl (pc0 := 161) (pc' := 322) rfl (hb hby at_161) (by decide) (by decide) k) ?_
        have f_206 : Sta Z h_205 "java/lang/String" "COMPACT_STRINGS" "Z" (.int z) := (((f_51.wr W_55).wr W_56).wr W_205)
        have f_207 : Sta Z h_205 "jdk/internal/util/Preconditions" "SIOOBE_FORMATTER" "Ljava/util/function/BiFunction;" fm := (((f_52.wr W_55).wr W_56).wr W_205)
        have f_208 : Sta Z h_205 "com/example/statementbound/statementbound/statements/internal/Statement$Kind" "$VALUES" "[Lcom/example/statementbound/statementbound/statements/internal/Statement$Kind;" (.ref av) := (((((((((PS_com_example_statementbound_statementbound_statements_internal_Statement_Kind__VALUES.ext E_1).wr W_10).wr W_19).wr W_28).wr W_37).wr W_46).wr W_55).wr W_56).wr W_205)
        have f_209 : Exa Z h_205 av "[Lcom/example/statementbound/statementbound/statements/internal/Statement$Kind;" := (((((((((PE_av.ext E_1).wr W_10).wr W_19).wr W_28).wr W_37).wr W_46).wr W_55).wr W_56).wr W_205)
        have f_210 : Arv Z h_205 av kv (.object "com/example/statementbound/statementbound/statements/internal/Statement$Kind") (4 : Int32) [(.ref v0), (.ref v1), (.ref v2), (.ref v3)] .null := (((((((((PA_av.ext E_1).other W_10 ne_av_b_1).other W_19 ne_av_b_1).other W_28 ne_av_b_1).other W_37 ne_av_b_1).other W_46 ne_av_b_1).other W_55 ne_av_b_1).other W_56 ne_av_b_1).other W_205 ne_av_b_1)
        have f_211 : Fld Z h_205 v0 "com/example/statementbound/statementbound/statements/internal/Statement$Kind" "element" "Ljava/lang/String;" (.ref x0) := (((((((((PF_v0_element.ext E_1).other W_10 (Or.inl ne_v0_b_1)).other W_19 (Or.inl ne_v0_b_1)).other W_28 (Or.inl ne_v0_b_1)).other W_37 (Or.inl ne_v0_b_1)).other W_46 (Or.inl ne_v0_b_1)).other W_55 (Or.inl ne_v0_b_1)).other W_56 (Or.inl ne_v0_b_1)).other W_205 (Or.inl ne_v0_b_1))
        have f_212 : Exa Z h_205 x0 "java/lang/String" := (((((((((PE_x0.ext E_1).wr W_10).wr W_19).wr W_28).wr W_37).wr W_46).wr W_55).wr W_56).wr W_205)
        have f_213 : Fld Z h_205 x0 "java/lang/String" "value" "[B" (.ref t0) := (((((((((PF_x0_value.ext E_1).other W_10 (Or.inl ne_x0_b_1)).other W_19 (Or.inl ne_x0_b_1)).other W_28 (Or.inl ne_x0_b_1)).other W_37 (Or.inl ne_x0_b_1)).other W_46 (Or.inl ne_x0_b_1)).other W_55 (Or.inl ne_x0_b_1)).other W_56 (Or.inl ne_x0_b_1)).other W_205 (Or.inl ne_x0_b_1))
        have f_214 : Fld Z h_205 x0 "java/lang/String" "coder" "B" (.int (0 : Int32)) := (((((((((PF_x0_coder.ext E_1).other W_10 (Or.inl ne_x0_b_1)).other W_19 (Or.inl ne_x0_b_1)).other W_28 (Or.inl ne_x0_b_1)).other W_37 (Or.inl ne_x0_b_1)).other W_46 (Or.inl ne_x0_b_1)).other W_55 (Or.inl ne_x0_b_1)).other W_56 (Or.inl ne_x0_b_1)).other W_205 (Or.inl ne_x0_b_1))
        have f_215 : Arv Z h_205 t0 kt0 .byte (6 : Int32) (own_str own_t0) (.int (0 : Int32)) := (((((((((PA_t0.ext E_1).other W_10 ne_t0_b_1).other W_19 ne_t0_b_1).other W_28 ne_t0_b_1).other W_37 ne_t0_b_1).other W_46 ne_t0_b_1).other W_55 ne_t0_b_1).other W_56 ne_t0_b_1).other W_205 ne_t0_b_1)
        have f_216 : Fld Z h_205 v1 "com/example/statementbound/statementbound/statements/internal/Statement$Kind" "element" "Ljava/lang/String;" (.ref x1) := (((((((((PF_v1_element.ext E_1).other W_10 (Or.inl ne_v1_b_1)).other W_19 (Or.inl ne_v1_b_1)).other W_28 (Or.inl ne_v1_b_1)).other W_37 (Or.inl ne_v1_b_1)).other W_46 (Or.inl ne_v1_b_1)).other W_55 (Or.inl ne_v1_b_1)).other W_56 (Or.inl ne_v1_b_1)).other W_205 (Or.inl ne_v1_b_1))
        have f_217 : Exa Z h_205 x1 "java/lang/String" := (((((((((PE_x1.ext E_1).wr W_10).wr W_19).wr W_28).wr W_37).wr W_46).wr W_55).wr W_56).wr W_205)
        have f_218 : Fld Z h_205 x1 "java/lang/String" "value" "[B" (.ref t1) := (((((((((PF_x1_value.ext E_1).other W_10 (Or.inl ne_x1_b_1)).other W_19 (Or.inl ne_x1_b_1)).other W_28 (Or.inl ne_x1_b_1)).other W_37 (Or.inl ne_x1_b_1)).other W_46 (Or.inl ne_x1_b_1)).other W_55 (Or.inl ne_x1_b_1)).other W_56 (Or.inl ne_x1_b_1)).other W_205 (Or.inl ne_x1_b_1))
        have f_219 : Fld Z h_205 x1 "java/lang/String" "coder" "B" (.int (0 : Int32)) := (((((((((PF_x1_coder.ext E_1).other W_10 (Or.inl ne_x1_b_1)).other W_19 (Or.inl ne_x1_b_1)).other W_28 (Or.inl ne_x1_b_1)).other W_37 (Or.inl ne_x1_b_1)).other W_46 (Or.inl ne_x1_b_1)).other W_55 (Or.inl ne_x1_b_1)).other W_56 (Or.inl ne_x1_b_1)).other W_205 (Or.inl ne_x1_b_1))
        have f_220 : Arv Z h_205 t1 kt1 .byte (6 : Int32) (own_str own_t1) (.int (0 : Int32)) := (((((((((PA_t1.ext E_1).other W_10 ne_t1_b_1).other W_19 ne_t1_b_1).other W_28 ne_t1_b_1).other W_37 ne_t1_b_1).other W_46 ne_t1_b_1).other W_55 ne_t1_b_1).other W_56 ne_t1_b_1).other W_205 ne_t1_b_1)
        have f_221 : Fld Z h_205 v2 "com/example/statementbound/statementbound/statements/internal/Statement$Kind" "element" "Ljava/lang/String;" (.ref x2) := (((((((((PF_v2_element.ext E_1).other W_10 (Or.inl ne_v2_b_1)).other W_19 (Or.inl ne_v2_b_1)).other W_28 (Or.inl ne_v2_b_1)).other W_37 (Or.inl ne_v2_b_1)).other W_46 (Or.inl ne_v2_b_1)).other W_55 (Or.inl ne_v2_b_1)).other W_56 (Or.inl ne_v2_b_1)).other W_205 (Or.inl ne_v2_b_1))
        have f_222 : Exa Z h_205 x2 "java/lang/String" := (((((((((PE_x2.ext E_1).wr W_10).wr W_19).wr W_28).wr W_37).wr W_46).wr W_55).wr W_56).wr W_205)
        have f_223 : Fld Z h_205 x2 "java/lang/String" "value" "[B" (.ref t2) := (((((((((PF_x2_value.ext E_1).other W_10 (Or.inl ne_x2_b_1)).other W_19 (Or.inl ne_x2_b_1)).other W_28 (Or.inl ne_x2_b_1)).other W_37 (Or.inl ne_x2_b_1)).other W_46 (Or.inl ne_x2_b_1)).other W_55 (Or.inl ne_x2_b_1)).other W_56 (Or.inl ne_x2_b_1)).other W_205 (Or.inl ne_x2_b_1))
        have f_224 : Fld Z h_205 x2 "java/lang/String" "coder" "B" (.int (0 : Int32)) := (((((((((PF_x2_coder.ext E_1).other W_10 (Or.inl ne_x2_b_1)).other W_19 (Or.inl ne_x2_b_1)).other W_28 (Or.inl ne_x2_b_1)).other W_37 (Or.inl ne_x2_b_1)).other W_46 (Or.inl ne_x2_b_1)).other W_55 (Or.inl ne_x2_b_1)).other W_56 (Or.inl ne_x2_b_1)).other W_205 (Or.inl ne_x2_b_1))
        have f_225 : Arv Z h_205 t2 kt2 .byte (6 : Int32) (own_str own_t2) (.int (0 : Int32)) := (((((((((PA_t2.ext E_1).other W_10 ne_t2_b_1).other W_19 ne_t2_b_1).other W_28 ne_t2_b_1).other W_37 ne_t2_b_1).other W_46 ne_t2_b_1).other W_55 ne_t2_b_1).other W_56 ne_t2_b_1).other W_205 ne_t2_b_1)
        have f_226 : Fld Z h_205 v3 "com/example/statementbound/statementbound/statements/internal/Statement$Kind" "element" "Ljava/lang/String;" (.ref x3) := (((((((((PF_v3_element.ext E_1).other W_10 (Or.inl ne_v3_b_1)).other W_19 (Or.inl ne_v3_b_1)).other W_28 (Or.inl ne_v3_b_1)).other W_37 (Or.inl ne_v3_b_1)).other W_46 (Or.inl ne_v3_b_1)).other W_55 (Or.inl ne_v3_b_1)).other W_56 (Or.inl ne_v3_b_1)).other W_205 (Or.inl ne_v3_b_1))
        have f_227 : Exa Z h_205 x3 "java/lang/String" := (((((((((PE_x3.ext E_1).wr W_10).wr W_19).wr W_28).wr W_37).wr W_46).wr W_55).wr W_56).wr W_205)
        have f_228 : Fld Z h_205 x3 "java/lang/String" "value" "[B" (.ref t3) := (((((((((PF_x3_value.ext E_1).other W_10 (Or.inl ne_x3_b_1)).other W_19 (Or.inl ne_x3_b_1)).other W_28 (Or.inl ne_x3_b_1)).other W_37 (Or.inl ne_x3_b_1)).other W_46 (Or.inl ne_x3_b_1)).other W_55 (Or.inl ne_x3_b_1)).other W_56 (Or.inl ne_x3_b_1)).other W_205 (Or.inl ne_x3_b_1))
        have f_229 : Fld Z h_205 x3 "java/lang/String" "coder" "B" (.int (0 : Int32)) := (((((((((PF_x3_coder.ext E_1).other W_10 (Or.inl ne_x3_b_1)).other W_19 (Or.inl ne_x3_b_1)).other W_28 (Or.inl ne_x3_b_1)).other W_37 (Or.inl ne_x3_b_1)).other W_46 (Or.inl ne_x3_b_1)).other W_55 (Or.inl ne_x3_b_1)).other W_56 (Or.inl ne_x3_b_1)).other W_205 (Or.inl ne_x3_b_1))
        have f_230 : Arv Z h_205 t3 kt3 .byte (6 : Int32) (own_str own_t3) (.int (0 : Int32)) := (((((((((PA_t3.ext E_1).other W_10 ne_t3_b_1).other W_19 ne_t3_b_1).other W_28 ne_t3_b_1).other W_37 ne_t3_b_1).other W_46 ne_t3_b_1).other W_55 ne_t3_b_1).other W_56 ne_t3_b_1).other W_205 ne_t3_b_1)
        have f_231 : Sta Z h_205 "com/example/statementbound/statementbound/statements/internal/Statement$Kind" "SELECT" "Lcom/example/statementbound/statementbound/statements/internal/Statement$Kind;" (.ref v0) := (((((((((PS_com_example_statementbound_statementbound_statements_internal_Statement_Kind_SELECT.ext E_1).wr W_10).wr W_19).wr W_28).wr W_37).wr W_46).wr W_55).wr W_56).wr W_205)
        have f_232 : Sta Z h_205 "com/example/statementbound/statementbound/statements/internal/Statement$Kind" "INSERT" "Lcom/example/statementbound/statementbound/statements/internal/Statement$Kind;" (.ref v1) := (((((((((PS_com_example_statementbound_statementbound_statements_internal_Statement_Kind_INSERT.ext E_1).wr W_10).wr W_19).wr W_28).wr W_37).wr W_46).wr W_55).wr W_56).wr W_205)
        have f_233 : Sta Z h_205 "com/example/statementbound/statementbound/statements/internal/Statement$Kind" "UPDATE" "Lcom/example/statementbound/statementbound/statements/internal/Statement$Kind;" (.ref v2) := (((((((((PS_com_example_statementbound_statementbound_statements_internal_Statement_Kind_UPDATE.ext E_1).wr W_10).wr W_19).wr W_28).wr W_37).wr W_46).wr W_55).wr W_56).wr W_205)
        have f_234 : Sta Z h_205 "com/example/statementbound/statementbound/statements/internal/Statement$Kind" "DELETE" "Lcom/example/statementbound/statementbound/statements/internal/Statement$Kind;" (.ref v3) := (((((((((PS_com_example_statementbound_statementbound_statements_internal_Statement_Kind_DELETE.ext E_1).wr W_10).wr W_19).wr W_28).wr W_37).wr W_46).wr W_55).wr W_56).wr W_205)
        have f_235 : Exa Z h_205 a5 "java/lang/String" := (((f_47.wr W_55).wr W_56).wr W_205)
        have f_236 : Fld Z h_205 a5 "java/lang/String" "value" "[B" (.ref t5) := (((f_48.other W_55 (Or.inl ne_a5_b_1)).other W_56 (Or.inl ne_a5_b_1)).other W_205 (Or.inl ne_a5_b_1))
        have f_237 : Fld Z h_205 a5 "java/lang/String" "coder" "B" (.int (0 : Int32)) := (((f_49.other W_55 (Or.inl ne_a5_b_1)).other W_56 (Or.inl ne_a5_b_1)).other W_205 (Or.inl ne_a5_b_1))
        have f_238 : Arv Z h_205 t5 kb5 .byte (6 : Int32) (own_str ([c0, c1, c2, c3, c4, c5] : List Int32)) (.int (0 : Int32)) := (((f_50.other W_55 ne_t5_b_1).other W_56 ne_t5_b_1).other W_205 ne_t5_b_1)
        have f_239 : n0 ≤ h_205.size := (Nat.le_trans (Nat.le_trans (Nat.le_trans f_53 (Keep.of_wr W_55).1) (Keep.of_wr W_56).1) (Keep.of_wr W_205).1)
        have f_240 : kk ≤ h_205.size := (Nat.le_trans (Nat.le_trans (Nat.le_trans (Nat.le_trans (Nat.le_trans (Nat.le_trans (Nat.le_trans (Nat.le_trans (Nat.le_trans hk E_1.1) (Keep.of_wr W_10).1) (Keep.of_wr W_19).1) (Keep.of_wr W_28).1) (Keep.of_wr W_37).1) (Keep.of_wr W_46).1) (Keep.of_wr W_55).1) (Keep.of_wr W_56).1) (Keep.of_wr W_205).1)
        have f_241 : Keep hq h_205 [] := (((((((((hKq.ext E_1).wr W_10 (Or.inr sz_b_1)).wr W_19 (Or.inr sz_b_1)).wr W_28 (Or.inr sz_b_1)).wr W_37 (Or.inr sz_b_1)).wr W_46 (Or.inr sz_b_1)).wr W_55 (Or.inr sz_b_1)).wr W_56 (Or.inr sz_b_1)).wr W_205 (Or.inr sz_b_1))
        exact own_s322 l Z a0 hw p1 p2 p3 p4 av kv v0 v1 v2 v3 x0 t0 kt0 x1 t1 kt1 x2 t2 kt2 x3 t3 kt3 z fm a5 t5 kb5 ([c0, c1, c2, c3, c4, c5] : List Int32) b_1 k_1 c0 c1 c2 c3 (nar .char ((p3 &&& (255 : Int32)).toUInt32.toUInt16.toUInt32.toInt32)) c5 (nar .char ((p3 &&& (255 : Int32)).toUInt32.toUInt16.toUInt32.toInt32)) (6 : Int32) (.val (.int (4 : Int32))) hq p e s m below meth c _ _ _ _ hx hZ hby hml hown hnm hret hlk _ n0 f_239 (X_205.more (by decide) (by decide)) e_205 N_205 hS f_240 f_241 f_206 f_207 f_208 f_209 f_210 f_211 f_212 f_213 f_214 f_215 f_216 f_217 f_218 f_219 f_220 f_221 f_222 f_223 f_224 f_225 f_226 f_227 f_228 f_229 f_230 f_231 f_232 f_233 f_234 f_235 f_236 f_237 f_238 V_205 hz rf hcw hlS hl_0 hl_1 hl_2 hl_3 hZh (own_az hc0) (own_az hc1) (own_az hc2) (own_az hc3) (own_and255 _) (own_az hc5) (own_and255 _) (by decide) (by decide) (own_one_v rfl) hov
      · refine Go.to (mkF m 152 #[.val (.int p1), .val (.int p2), .val (.int p3), .val (.int p4), .val (.int (p1 &&& (3 : Int32))), .val (.ref a5), .val (.int (((p1.toUInt32 >>> ((2 : Int32) &&& 31).toUInt32).toInt32) &&& (3 : Int32))), .val (.ref b_1), .val (.int (6 : Int32)), .val (.int (5 : Int32))] [(.ref b_1)]) (fun _ k => XS.aload X_56.here hx rfl (hb hby at_150) rfl rfl k) ?_
        refine Go.to (mkF m 154 #[.val (.int p1), .val (.int p2), .val (.int p3), .val (.int p4), .val (.int (p1 &&& (3 : Int32))), .val (.ref a5), .val (.int (((p1.toUInt32 >>> ((2 : Int32) &&& 31).toUInt32).toInt32) &&& (3 : Int32))), .val (.ref b_1), .val (.int (6 : Int32)), .val (.int (5 : Int32))] [(.int (5 : Int32)), (.ref b_1)]) (fun _ k => XS.iload X_56.here hx rfl (hb hby at_152) rfl  k) ?_
        refine Go.to (mkF m 155 #[.val (.int p1), .val (.int p2), .val (.int p3), .val (.int p4), .val (.int (p1 &&& (3 : Int32))), .val (.ref a5), .val (.int (((p1.toUInt32 >>> ((2 : Int32) &&& 31).toUInt32).toInt32) &&& (3 : Int32))), .val (.ref b_1), .val (.int (6 : Int32)), .val (.int (5 : Int32))] [(.int p3), (.int (5 : Int32)), (.ref b_1)]) (fun _ k => XS.iloadN X_56.here hx rfl (hb hby at_154) rfl  k) ?_
        refine Go.to (mkF m 158 #[.val (.int p1), .val (.int p2), .val (.int p3), .val (.int p4), .val (.int (p1 &&& (3 : Int32))), .val (.ref a5), .val (.int (((p1.toUInt32 >>> ((2 : Int32) &&& 31).toUInt32).toInt32) &&& (3 : Int32))), .val (.ref b_1), .val (.int (6 : Int32)), .val (.int (5 : Int32))] [(.int (255 : Int32)), (.int p3), (.int (5 : Int32)), (.ref b_1)]) (fun _ k => XS.sipush X_56.here hx rfl (hb hby at_155) k) ?_
        refine Go.to (mkF m 159 #[.val (.int p1), .val (.int p2), .val (.int p3), .val (.int p4), .val (.int (p1 &&& (3 : Int32))), .val (.ref a5), .val (.int (((p1.toUInt32 >>> ((2 : Int32) &&& 31).toUInt32).toInt32) &&& (3 : Int32))), .val (.ref b_1), .val (.int (6 : Int32)), .val (.int (5 : Int32))] [(.int (p3 &&& (255 : Int32))), (.int (5 : Int32)), (.ref b_1)]) (fun _ k => XS.iand X_56.here hx rfl (hb hby at_158) rfl k) ?_
        refine Go.to (mkF m 160 #[.val (.int p1), .val (.int p2), .val (.int p3), .val (.int p4), .val (.int (p1 &&& (3 : Int32))), .val (.ref a5), .val (.int (((p1.toUInt32 >>> ((2 : Int32) &&& 31).toUInt32).toInt32) &&& (3 : Int32))), .val (.ref b_1), .val (.int (6 : Int32)), .val (.int (5 : Int32))] [(.int ((p3 &&& (255 : Int32)).toUInt32.toUInt16.toUInt32.toInt32)), (.int (5 : Int32)), (.ref b_1)]) (fun _ k => XS.i2c X_56.here hx rfl (hb hby at_159) rfl k) ?_
        obtain ⟨cl_242, Ar_242, q_242, Sz_242, Ng_242, Hh_242, Gg_242⟩ := id V_56
        have hin_242 : ¬ ((5 : Int32) < 0 ∨ cl_242.slots.size ≤ ((5 : Int32)).toNatClampNeg) := inb_of Sz_242 ⟨by decide, by decide⟩
        obtain ⟨T_242, h_242, X_242, e_242, W_242, st_242⟩ := stC X_56 hx hZ e_56 Ar_242 (j := (5 : Int32)) hin_242 (g := (mkF m 160 #[.val (.int p1), .val (.int p2), .val (.int p3), .val (.int p4), .val (.int (p1 &&& (3 : Int32))), .val (.ref a5), .val (.int (((p1.toUInt32 >>> ((2 : Int32) &&& 31).toUInt32).toInt32) &&& (3 : Int32))), .val (.ref b_1), .val (.int (6 : Int32)), .val (.int (5 : Int32))] [(.int ((p3 &&& (255 : Int32)).toUInt32.toUInt16.toUInt32.toInt32)), (.int (5 : Int32)), (.ref b_1)])) rfl rfl (hb hby at_160)
        have N_242 := Fr.snoc X_242 N_56 g_b_1
        have V_242 : Arv Z h_242 b_1 k_1 .char (7 : Int32) [(.int c0), (.int c1), (.int c2), (.int c3), (.int c4), (.int (nar .char ((p3 &&& (255 : Int32)).toUInt32.toUInt16.toUInt32.toInt32))), (.int (nar .char ((p3 &&& (255 : Int32)).toUInt32.toUInt16.toUInt32.toInt32)))] (.int (0 : Int32)) := Arv.set Ar_242 q_242 Sz_242 Ng_242 Hh_242 Gg_242 (fits_nar_char _) W_242 5 rfl (Nat.le_of_ble_eq_true rfl)
        refine Go.to (mkF m 161 #[.val (.int p1), .val (.int p2), .val (.int p3), .val (.int p4), .val (.int (p1 &&& (3 : Int32))), .val (.ref a5), .val (.int (((p1.toUInt32 >>> ((2 : Int32) &&& 31).toUInt32).toInt32) &&& (3 : Int32))), .val (.ref b_1), .val (.int (6 : Int32)), .val (.int (5 : Int32))] []) st_242 ?_
        refine Go.to (mkF m 322 #[.val (.int p1), .val (.int p2), .val (.int p3), .val (.int p4), .val (.int (p1 &&& (3 : Int32))), .val (.ref a5), .val (.int (((p1.toUInt32 >>> ((2 : Int32) &&& 31).toUInt32).toInt32) &&& (3 : Int32))), .val (.ref b_1), .val (.int (6 : Int32)), .val (.int (5 : Int32))] []) (fun _ k => XS.goto X_242.here hx rfl (pc0 := 161) (pc' := 322) rfl (hb hby at_161) (by decide) (by decide) k) ?_
        have f_243 : Sta Z h_242 "java/lang/String" "COMPACT_STRINGS" "Z" (.int z) := (((f_51.wr W_55).wr W_56).wr W_242)
        have f_244 : Sta Z h_242 "jdk/internal/util/Preconditions" "SIOOBE_FORMATTER" "Ljava/util/function/BiFunction;" fm := (((f_52.wr W_55).wr W_56).wr W_242)
        have f_245 : Sta Z h_242 "com/example/statementbound/statementbound/statements/internal/Statement$Kind" "$VALUES" "[Lcom/example/statementbound/statementbound/statements/internal/Statement$Kind;" (.ref av) := (((((((((PS_com_example_statementbound_statementbound_statements_internal_Statement_Kind__VALUES.ext E_1).wr W_10).wr W_19).wr W_28).wr W_37).wr W_46).wr W_55).wr W_56).wr W_242)
        have f_246 : Exa Z h_242 av "[Lcom/example/statementbound/statementbound/statements/internal/Statement$Kind;" := (((((((((PE_av.ext E_1).wr W_10).wr W_19).wr W_28).wr W_37).wr W_46).wr W_55).wr W_56).wr W_242)
        have f_247 : Arv Z h_242 av kv (.object "com/example/statementbound/statementbound/statements/internal/Statement$Kind") (4 : Int32) [(.ref v0), (.ref v1), (.ref v2), (.ref v3)] .null := (((((((((PA_av.ext E_1).other W_10 ne_av_b_1).other W_19 ne_av_b_1).other W_28 ne_av_b_1).other W_37 ne_av_b_1).other W_46 ne_av_b_1).other W_55 ne_av_b_1).other W_56 ne_av_b_1).other W_242 ne_av_b_1)
        have f_248 : Fld Z h_242 v0 "com/example/statementbound/statementbound/statements/internal/Statement$Kind" "element" "Ljava/lang/String;" (.ref x0) := (((((((((PF_v0_element.ext E_1).other W_10 (Or.inl ne_v0_b_1)).other W_19 (Or.inl ne_v0_b_1)).other W_28 (Or.inl ne_v0_b_1)).other W_37 (Or.inl ne_v0_b_1)).other W_46 (Or.inl ne_v0_b_1)).other W_55 (Or.inl ne_v0_b_1)).other W_56 (Or.inl ne_v0_b_1)).other W_242 (Or.inl ne_v0_b_1))
        have f_249 : Exa Z h_242 x0 "java/lang/String" := (((((((((PE_x0.ext E_1).wr W_10).wr W_19).wr W_28).wr W_37).wr W_46).wr W_55).wr W_56).wr W_242)
        have f_250 : Fld Z h_242 x0 "java/lang/String" "value" "[B" (.ref t0) := (((((((((PF_x0_value.ext E_1).other W_10 (Or.inl ne_x0_b_1)).other W_19 (Or.inl ne_x0_b_1)).other W_28 (Or.inl ne_x0_b_1)).other W_37 (Or.inl ne_x0_b_1)).other W_46 (Or.inl ne_x0_b_1)).other W_55 (Or.inl ne_x0_b_1)).other W_56 (Or.inl ne_x0_b_1)).other W_242 (Or.inl ne_x0_b_1))
        have f_251 : Fld Z h_242 x0 "java/lang/String" "coder" "B" (.int (0 : Int32)) := (((((((((PF_x0_coder.ext E_1).other W_10 (Or.inl ne_x0_b_1)).other W_19 (Or.inl ne_x0_b_1)).other W_28 (Or.inl ne_x0_b_1)).other W_37 (Or.inl ne_x0_b_1)).other W_46 (Or.inl ne_x0_b_1)).other W_55 (Or.inl ne_x0_b_1)).other W_56 (Or.inl ne_x0_b_1)).other W_242 (Or.inl ne_x0_b_1))
        have f_252 : Arv Z h_242 t0 kt0 .byte (6 : Int32) (own_str own_t0) (.int (0 : Int32)) := (((((((((PA_t0.ext E_1).other W_10 ne_t0_b_1).other W_19 ne_t0_b_1).other W_28 ne_t0_b_1).other W_37 ne_t0_b_1).other W_46 ne_t0_b_1).other W_55 ne_t0_b_1).other W_56 ne_t0_b_1).other W_242 ne_t0_b_1)
        have f_253 : Fld Z h_242 v1 "com/example/statementbound/statementbound/statements/internal/Statement$Kind" "element" "Ljava/lang/String;" (.ref x1) := (((((((((PF_v1_element.ext E_1).other W_10 (Or.inl ne_v1_b_1)).other W_19 (Or.inl ne_v1_b_1)).other W_28 (Or.inl ne_v1_b_1)).other W_37 (Or.inl ne_v1_b_1)).other W_46 (Or.inl ne_v1_b_1)).other W_55 (Or.inl ne_v1_b_1)).other W_56 (Or.inl ne_v1_b_1)).other W_242 (Or.inl ne_v1_b_1))
        have f_254 : Exa Z h_242 x1 "java/lang/String" := (((((((((PE_x1.ext E_1).wr W_10).wr W_19).wr W_28).wr W_37).wr W_46).wr W_55).wr W_56).wr W_242)
        have f_255 : Fld Z h_242 x1 "java/lang/String" "value" "[B" (.ref t1) := (((((((((PF_x1_value.ext E_1).other W_10 (Or.inl ne_x1_b_1)).other W_19 (Or.inl ne_x1_b_1)).other W_28 (Or.inl ne_x1_b_1)).other W_37 (Or.inl ne_x1_b_1)).other W_46 (Or.inl ne_x1_b_1)).other W_55 (Or.inl ne_x1_b_1)).other W_56 (Or.inl ne_x1_b_1)).other W_242 (Or.inl ne_x1_b_1))
        have f_256 : Fld Z h_242 x1 "java/lang/String" "coder" "B" (.int (0 : Int32)) := (((((((((PF_x1_coder.ext E_1).other W_10 (Or.inl ne_x1_b_1)).other W_19 (Or.inl ne_x1_b_1)).other W_28 (Or.inl ne_x1_b_1)).other W_37 (Or.inl ne_x1_b_1)).other W_46 (Or.inl ne_x1_b_1)).other W_55 (Or.inl ne_x1_b_1)).other W_56 (Or.inl ne_x1_b_1)).other W_242 (Or.inl ne_x1_b_1))
        have f_257 : Arv Z h_242 t1 kt1 .byte (6 : Int32) (own_str own_t1) (.int (0 : Int32)) := (((((((((PA_t1.ext E_1).other W_10 ne_t1_b_1).other W_19 ne_t1_b_1).other W_28 ne_t1_b_1).other W_37 ne_t1_b_1).other W_46 ne_t1_b_1).other W_55 ne_t1_b_1).other W_56 ne_t1_b_1).other W_242 ne_t1_b_1)
        have f_258 : Fld Z h_242 v2 "com/example/statementbound/statementbound/statements/internal/Statement$Kind" "element" "Ljava/lang/String;" (.ref x2) := (((((((((PF_v2_element.ext E_1).other W_10 (Or.inl ne_v2_b_1)).other W_19 (Or.inl ne_v2_b_1)).other W_28 (Or.inl ne_v2_b_1)).other W_37 (Or.inl ne_v2_b_1)).other W_46 (Or.inl ne_v2_b_1)).other W_55 (Or.inl ne_v2_b_1)).other W_56 (Or.inl ne_v2_b_1)).other W_242 (Or.inl ne_v2_b_1))
        have f_259 : Exa Z h_242 x2 "java/lang/String" := (((((((((PE_x2.ext E_1).wr W_10).wr W_19).wr W_28).wr W_37).wr W_46).wr W_55).wr W_56).wr W_242)
        have f_260 : Fld Z h_242 x2 "java/lang/String" "value" "[B" (.ref t2) := (((((((((PF_x2_value.ext E_1).other W_10 (Or.inl ne_x2_b_1)).other W_19 (Or.inl ne_x2_b_1)).other W_28 (Or.inl ne_x2_b_1)).other W_37 (Or.inl ne_x2_b_1)).other W_46 (Or.inl ne_x2_b_1)).other W_55 (Or.inl ne_x2_b_1)).other W_56 (Or.inl ne_x2_b_1)).other W_242 (Or.inl ne_x2_b_1))
        have f_261 : Fld Z h_242 x2 "java/lang/String" "coder" "B" (.int (0 : Int32)) := (((((((((PF_x2_coder.ext E_1).other W_10 (Or.inl ne_x2_b_1)).other W_19 (Or.inl ne_x2_b_1)).other W_28 (Or.inl ne_x2_b_1)).other W_37 (Or.inl ne_x2_b_1)).other W_46 (Or.inl ne_x2_b_1)).other W_55 (Or.inl ne_x2_b_1)).other W_56 (Or.inl ne_x2_b_1)).other W_242 (Or.inl ne_x2_b_1))
        have f_262 : Arv Z h_242 t2 kt2 .byte (6 : Int32) (own_str own_t2) (.int (0 : Int32)) := (((((((((PA_t2.ext E_1).other W_10 ne_t2_b_1).other W_19 ne_t2_b_1).other W_28 ne_t2_b_1).other W_37 ne_t2_b_1).other W_46 ne_t2_b_1).other W_55 ne_t2_b_1).other W_56 ne_t2_b_1).other W_242 ne_t2_b_1)
        have f_263 : Fld Z h_242 v3 "com/example/statementbound/statementbound/statements/internal/Statement$Kind" "element" "Ljava/lang/String;" (.ref x3) := (((((((((PF_v3_element.ext E_1).other W_10 (Or.inl ne_v3_b_1)).other W_19 (Or.inl ne_v3_b_1)).other W_28 (Or.inl ne_v3_b_1)).other W_37 (Or.inl ne_v3_b_1)).other W_46 (Or.inl ne_v3_b_1)).other W_55 (Or.inl ne_v3_b_1)).other W_56 (Or.inl ne_v3_b_1)).other W_242 (Or.inl ne_v3_b_1))
        have f_264 : Exa Z h_242 x3 "java/lang/String" := (((((((((PE_x3.ext E_1).wr W_10).wr W_19).wr W_28).wr W_37).wr W_46).wr W_55).wr W_56).wr W_242)
        have f_265 : Fld Z h_242 x3 "java/lang/String" "value" "[B" (.ref t3) := (((((((((PF_x3_value.ext E_1).other W_10 (Or.inl ne_x3_b_1)).other W_19 (Or.inl ne_x3_b_1)).other W_28 (Or.inl ne_x3_b_1)).other W_37 (Or.inl ne_x3_b_1)).other W_46 (Or.inl ne_x3_b_1)).other W_55 (Or.inl ne_x3_b_1)).other W_56 (Or.inl ne_x3_b_1)).other W_242 (Or.inl ne_x3_b_1))
        have f_266 : Fld Z h_242 x3 "java/lang/String" "coder" "B" (.int (0 : Int32)) := (((((((((PF_x3_coder.ext E_1).other W_10 (Or.inl ne_x3_b_1)).other W_19 (Or.inl ne_x3_b_1)).other W_28 (Or.inl ne_x3_b_1)).other W_37 (Or.inl ne_x3_b_1)).other W_46 (Or.inl ne_x3_b_1)).other W_55 (Or.inl ne_x3_b_1)).other W_56 (Or.inl ne_x3_b_1)).other W_242 (Or.inl ne_x3_b_1))
        have f_267 : Arv Z h_242 t3 kt3 .byte (6 : Int32) (own_str own_t3) (.int (0 : Int32)) := (((((((((PA_t3.ext E_1).other W_10 ne_t3_b_1).other W_19 ne_t3_b_1).other W_28 ne_t3_b_1).other W_37 ne_t3_b_1).other W_46 ne_t3_b_1).other W_55 ne_t3_b_1).other W_56 ne_t3_b_1).other W_242 ne_t3_b_1)
        have f_268 : Sta Z h_242 "com/example/statementbound/statementbound/statements/internal/Statement$Kind" "SELECT" "Lcom/example/statementbound/statementbound/statements/internal/Statement$Kind;" (.ref v0) := (((((((((PS_com_example_statementbound_statementbound_statements_internal_Statement_Kind_SELECT.ext E_1).wr W_10).wr W_19).wr W_28).wr W_37).wr W_46).wr W_55).wr W_56).wr W_242)
        have f_269 : Sta Z h_242 "com/example/statementbound/statementbound/statements/internal/Statement$Kind" "INSERT" "Lcom/example/statementbound/statementbound/statements/internal/Statement$Kind;" (.ref v1) := (((((((((PS_com_example_statementbound_statementbound_statements_internal_Statement_Kind_INSERT.ext E_1).wr W_10).wr W_19).wr W_28).wr W_37).wr W_46).wr W_55).wr W_56).wr W_242)
        have f_270 : Sta Z h_242 "com/example/statementbound/statementbound/statements/internal/Statement$Kind" "UPDATE" "Lcom/example/statementbound/statementbound/statements/internal/Statement$Kind;" (.ref v2) := (((((((((PS_com_example_statementbound_statementbound_statements_internal_Statement_Kind_UPDATE.ext E_1).wr W_10).wr W_19).wr W_28).wr W_37).wr W_46).wr W_55).wr W_56).wr W_242)
        have f_271 : Sta Z h_242 "com/example/statementbound/statementbound/statements/internal/Statement$Kind" "DELETE" "Lcom/example/statementbound/statementbound/statements/internal/Statement$Kind;" (.ref v3) := (((((((((PS_com_example_statementbound_statementbound_statements_internal_Statement_Kind_DELETE.ext E_1).wr W_10).wr W_19).wr W_28).wr W_37).wr W_46).wr W_55).wr W_56).wr W_242)
        have f_272 : Exa Z h_242 a5 "java/lang/String" := (((f_47.wr W_55).wr W_56).wr W_242)
        have f_273 : Fld Z h_242 a5 "java/lang/String" "value" "[B" (.ref t5) := (((f_48.other W_55 (Or.inl ne_a5_b_1)).other W_56 (Or.inl ne_a5_b_1)).other W_242 (Or.inl ne_a5_b_1))
        have f_274 : Fld Z h_242 a5 "java/lang/String" "coder" "B" (.int (0 : Int32)) := (((f_49.other W_55 (Or.inl ne_a5_b_1)).other W_56 (Or.inl ne_a5_b_1)).other W_242 (Or.inl ne_a5_b_1))
        have f_275 : Arv Z h_242 t5 kb5 .byte (6 : Int32) (own_str ([c0, c1, c2, c3, c4, c5] : List Int32)) (.int (0 : Int32)) := (((f_50.other W_55 ne_t5_b_1).other W_56 ne_t5_b_1).other W_242 ne_t5_b_1)
        have f_276 : n0 ≤ h_242.size := (Nat.le_trans (Nat.le_trans (Nat.le_trans f_53 (Keep.of_wr W_55).1) (Keep.of_wr W_56).1) (Keep.of_wr W_242).1)
        have f_277 : kk ≤ h_242.size := (Nat.le_trans (Nat.le_trans (Nat.le_trans (Nat.le_trans (Nat.le_trans (Nat.le_trans (Nat.le_trans (Nat.le_trans (Nat.le_trans hk E_1.1) (Keep.of_wr W_10).1) (Keep.of_wr W_19).1) (Keep.of_wr W_28).1) (Keep.of_wr W_37).1) (Keep.of_wr W_46).1) (Keep.of_wr W_55).1) (Keep.of_wr W_56).1) (Keep.of_wr W_242).1)
        have f_278 : Keep hq h_242 [] := (((((((((hKq.ext E_1).wr W_10 (Or.inr sz_b_1)).wr W_19 (Or.inr sz_b_1)).wr W_28 (Or.inr sz_b_1)).wr W_37 (Or.inr sz_b_1)).wr W_46 (Or.inr sz_b_1)).wr W_55 (Or.inr sz_b_1)).wr W_56 (Or.inr sz_b_1)).wr W_242 (Or.inr sz_b_1))
        exact own_s322 l Z a0 hw p1 p2 p3 p4 av kv v0 v1 v2 v3 x0 t0 kt0 x1 t1 kt1 x2 t2 kt2 x3 t3 kt3 z fm a5 t5 kb5 ([c0, c1, c2, c3, c4, c5] : List Int32) b_1 k_1 c0 c1 c2 c3 c4 (nar .char ((p3 &&& (255 : Int32)).toUInt32.toUInt16.toUInt32.toInt32)) (nar .char ((p3 &&& (255 : Int32)).toUInt32.toUInt16.toUInt32.toInt32)) (6 : Int32) (.val (.int (5 : Int32))) hq p e s m below meth c _ _ _ _ hx hZ hby hml hown hnm hret hlk _ n0 f_276 (X_242.more (by decide) (by decide)) e_242 N_242 hS f_277 f_278 f_243 f_244 f_245 f_246 f_247 f_248 f_249 f_250 f_251 f_252 f_253 f_254 f_255 f_256 f_257 f_258 f_259 f_260 f_261 f_262 f_263 f_264 f_265 f_266 f_267 f_268 f_269 f_270 f_271 f_272 f_273 f_274 f_275 V_242 hz rf hcw hlS hl_0 hl_1 hl_2 hl_3 hZh (own_az hc0) (own_az hc1) (own_az hc2) (own_az hc3) (own_az hc4) (own_and255 _) (own_and255 _) (by decide) (by decide) (own_one_v rfl) hov
    · refine Go.to (mkF m 161 #[.val (.int p1), .val (.int p2), .val (.int p3), .val (.int p4), .val (.int (p1 &&& (3 : Int32))), .val (.ref a5), .val (.int (((p1.toUInt32 >>> ((2 : Int32) &&& 31).toUInt32).toInt32) &&& (3 : Int32))), .val (.ref b_1), .val (.int (6 : Int32)), .val (.int ps)] []) (fun _ k => XS.icmpYes X_56.here hx rfl (pc0 := 147) (pc' := 161) rfl (hb hby at_147) rfl (flt h6).2.1 (by decide) (by decide) k) ?_
      refine Go.to (mkF m 322 #[.val (.int p1), .val (.int p2), .val (.int p3), .val (.int p4), .val (.int (p1 &&& (3 : Int32))), .val (.ref a5), .val (.int (((p1.toUInt32 >>> ((2 : Int32) &&& 31).toUInt32).toInt32) &&& (3 : Int32))), .val (.ref b_1), .val (.int (6 : Int32)), .val (.int ps)] []) (fun _ k => XS.goto X_56.here hx rfl (pc0 := 161) (pc' := 322) rfl (hb hby at_161) (by decide) (by decide) k) ?_
      have f_279 : Sta Z h_56 "java/lang/String" "COMPACT_STRINGS" "Z" (.int z) := ((f_51.wr W_55).wr W_56)
      have f_280 : Sta Z h_56 "jdk/internal/util/Preconditions" "SIOOBE_FORMATTER" "Ljava/util/function/BiFunction;" fm := ((f_52.wr W_55).wr W_56)
      have f_281 : Sta Z h_56 "com/example/statementbound/statementbound/statements/internal/Statement$Kind" "$VALUES" "[Lcom/example/statementbound/statementbound/statements/internal/Statement$Kind;" (.ref av) := ((((((((PS_com_example_statementbound_statementbound_statements_internal_Statement_Kind__VALUES.ext E_1).wr W_10).wr W_19).wr W_28).wr W_37).wr W_46).wr W_55).wr W_56)
      have f_282 : Exa Z h_56 av "[Lcom/example/statementbound/statementbound/statements/internal/Statement$Kind;" := ((((((((PE_av.ext E_1).wr W_10).wr W_19).wr W_28).wr W_37).wr W_46).wr W_55).wr W_56)
      have f_283 : Arv Z h_56 av kv (.object "com/example/statementbound/statementbound/statements/internal/Statement$Kind") (4 : Int32) [(.ref v0), (.ref v1), (.ref v2), (.ref v3)] .null := ((((((((PA_av.ext E_1).other W_10 ne_av_b_1).other W_19 ne_av_b_1).other W_28 ne_av_b_1).other W_37 ne_av_b_1).other W_46 ne_av_b_1).other W_55 ne_av_b_1).other W_56 ne_av_b_1)
      have f_284 : Fld Z h_56 v0 "com/example/statementbound/statementbound/statements/internal/Statement$Kind" "element" "Ljava/lang/String;" (.ref x0) := ((((((((PF_v0_element.ext E_1).other W_10 (Or.inl ne_v0_b_1)).other W_19 (Or.inl ne_v0_b_1)).other W_28 (Or.inl ne_v0_b_1)).other W_37 (Or.inl ne_v0_b_1)).other W_46 (Or.inl ne_v0_b_1)).other W_55 (Or.inl ne_v0_b_1)).other W_56 (Or.inl ne_v0_b_1))
      have f_285 : Exa Z h_56 x0 "java/lang/String" := ((((((((PE_x0.ext E_1).wr W_10).wr W_19).wr W_28).wr W_37).wr W_46).wr W_55).wr W_56)
      have f_286 : Fld Z h_56 x0 "java/lang/String" "value" "[B" (.ref t0) := ((((((((PF_x0_value.ext E_1).other W_10 (Or.inl ne_x0_b_1)).other W_19 (Or.inl ne_x0_b_1)).other W_28 (Or.inl ne_x0_b_1)).other W_37 (Or.inl ne_x0_b_1)).other W_46 (Or.inl ne_x0_b_1)).other W_55 (Or.inl ne_x0_b_1)).other W_56 (Or.inl ne_x0_b_1))
      have f_287 : Fld Z h_56 x0 "java/lang/String" "coder" "B" (.int (0 : Int32)) := ((((((((PF_x0_coder.ext E_1).other W_10 (Or.inl ne_x0_b_1)).other W_19 (Or.inl ne_x0_b_1)).other W_28 (Or.inl ne_x0_b_1)).other W_37 (Or.inl ne_x0_b_1)).other W_46 (Or.inl ne_x0_b_1)).other W_55 (Or.inl ne_x0_b_1)).other W_56 (Or.inl ne_x0_b_1))
      have f_288 : Arv Z h_56 t0 kt0 .byte (6 : Int32) (own_str own_t0) (.int (0 : Int32)) := ((((((((PA_t0.ext E_1).other W_10 ne_t0_b_1).other W_19 ne_t0_b_1).other W_28 ne_t0_b_1).other W_37 ne_t0_b_1).other W_46 ne_t0_b_1).other W_55 ne_t0_b_1).other W_56 ne_t0_b_1)
      have f_289 : Fld Z h_56 v1 "com/example/statementbound/statementbound/statements/internal/Statement$Kind" "element" "Ljava/lang/String;" (.ref x1) := ((((((((PF_v1_element.ext E_1).other W_10 (Or.inl ne_v1_b_1)).other W_19 (Or.inl ne_v1_b_1)).other W_28 (Or.inl ne_v1_b_1)).other W_37 (Or.inl ne_v1_b_1)).other W_46 (Or.inl ne_v1_b_1)).other W_55 (Or.inl ne_v1_b_1)).other W_56 (Or.inl ne_v1_b_1))
      have f_290 : Exa Z h_56 x1 "java/lang/String" := ((((((((PE_x1.ext E_1).wr W_10).wr W_19).wr W_28).wr W_37).wr W_46).wr W_55).wr W_56)
      have f_291 : Fld Z h_56 x1 "java/lang/String" "value" "[B" (.ref t1) := ((((((((PF_x1_value.ext E_1).other W_10 (Or.inl ne_x1_b_1)).other W_19 (Or.inl ne_x1_b_1)).other W_28 (Or.inl ne_x1_b_1)).other W_37 (Or.inl ne_x1_b_1)).other W_46 (Or.inl ne_x1_b_1)).other W_55 (Or.inl ne_x1_b_1)).other W_56 (Or.inl ne_x1_b_1))
      have f_292 : Fld Z h_56 x1 "java/lang/String" "coder" "B" (.int (0 : Int32)) := ((((((((PF_x1_coder.ext E_1).other W_10 (Or.inl ne_x1_b_1)).other W_19 (Or.inl ne_x1_b_1)).other W_28 (Or.inl ne_x1_b_1)).other W_37 (Or.inl ne_x1_b_1)).other W_46 (Or.inl ne_x1_b_1)).other W_55 (Or.inl ne_x1_b_1)).other W_56 (Or.inl ne_x1_b_1))
      have f_293 : Arv Z h_56 t1 kt1 .byte (6 : Int32) (own_str own_t1) (.int (0 : Int32)) := ((((((((PA_t1.ext E_1).other W_10 ne_t1_b_1).other W_19 ne_t1_b_1).other W_28 ne_t1_b_1).other W_37 ne_t1_b_1).other W_46 ne_t1_b_1).other W_55 ne_t1_b_1).other W_56 ne_t1_b_1)
      have f_294 : Fld Z h_56 v2 "com/example/statementbound/statementbound/statements/internal/Statement$Kind" "element" "Ljava/lang/String;" (.ref x2) := ((((((((PF_v2_element.ext E_1).other W_10 (Or.inl ne_v2_b_1)).other W_19 (Or.inl ne_v2_b_1)).other W_28 (Or.inl ne_v2_b_1)).other W_37 (Or.inl ne_v2_b_1)).other W_46 (Or.inl ne_v2_b_1)).other W_55 (Or.inl ne_v2_b_1)).other W_56 (Or.inl ne_v2_b_1))
      have f_295 : Exa Z h_56 x2 "java/lang/String" := ((((((((PE_x2.ext E_1).wr W_10).wr W_19).wr W_28).wr W_37).wr W_46).wr W_55).wr W_56)
      have f_296 : Fld Z h_56 x2 "java/lang/String" "value" "[B" (.ref t2) := ((((((((PF_x2_value.ext E_1).other W_10 (Or.inl ne_x2_b_1)).other W_19 (Or.inl ne_x2_b_1)).other W_28 (Or.inl ne_x2_b_1)).other W_37 (Or.inl ne_x2_b_1)).other W_46 (Or.inl ne_x2_b_1)).other W_55 (Or.inl ne_x2_b_1)).other W_56 (Or.inl ne_x2_b_1))
      have f_297 : Fld Z h_56 x2 "java/lang/String" "coder" "B" (.int (0 : Int32)) := ((((((((PF_x2_coder.ext E_1).other W_10 (Or.inl ne_x2_b_1)).other W_19 (Or.inl ne_x2_b_1)).other W_28 (Or.inl ne_x2_b_1)).other W_37 (Or.inl ne_x2_b_1)).other W_46 (Or.inl ne_x2_b_1)).other W_55 (Or.inl ne_x2_b_1)).other W_56 (Or.inl ne_x2_b_1))
      have f_298 : Arv Z h_56 t2 kt2 .byte (6 : Int32) (own_str own_t2) (.int (0 : Int32)) := ((((((((PA_t2.ext E_1).other W_10 ne_t2_b_1).other W_19 ne_t2_b_1).other W_28 ne_t2_b_1).other W_37 ne_t2_b_1).other W_46 ne_t2_b_1).other W_55 ne_t2_b_1).other W_56 ne_t2_b_1)
      have f_299 : Fld Z h_56 v3 "com/example/statementbound/statementbound/statements/internal/Statement$Kind" "element" "Ljava/lang/String;" (.ref x3) := ((((((((PF_v3_element.ext E_1).other W_10 (Or.inl ne_v3_b_1)).other W_19 (Or.inl ne_v3_b_1)).other W_28 (Or.inl ne_v3_b_1)).other W_37 (Or.inl ne_v3_b_1)).other W_46 (Or.inl ne_v3_b_1)).other W_55 (Or.inl ne_v3_b_1)).other W_56 (Or.inl ne_v3_b_1))
      have f_300 : Exa Z h_56 x3 "java/lang/String" := ((((((((PE_x3.ext E_1).wr W_10).wr W_19).wr W_28).wr W_37).wr W_46).wr W_55).wr W_56)
      have f_301 : Fld Z h_56 x3 "java/lang/String" "value" "[B" (.ref t3) := ((((((((PF_x3_value.ext E_1).other W_10 (Or.inl ne_x3_b_1)).other W_19 (Or.inl ne_x3_b_1)).other W_28 (Or.inl ne_x3_b_1)).other W_37 (Or.inl ne_x3_b_1)).other W_46 (Or.inl ne_x3_b_1)).other W_55 (Or.inl ne_x3_b_1)).other W_56 (Or.inl ne_x3_b_1))
      have f_302 : Fld Z h_56 x3 "java/lang/String" "coder" "B" (.int (0 : Int32)) := ((((((((PF_x3_coder.ext E_1).other W_10 (Or.inl ne_x3_b_1)).other W_19 (Or.inl ne_x3_b_1)).other W_28 (Or.inl ne_x3_b_1)).other W_37 (Or.inl ne_x3_b_1)).other W_46 (Or.inl ne_x3_b_1)).other W_55 (Or.inl ne_x3_b_1)).other W_56 (Or.inl ne_x3_b_1))
      have f_303 : Arv Z h_56 t3 kt3 .byte (6 : Int32) (own_str own_t3) (.int (0 : Int32)) := ((((((((PA_t3.ext E_1).other W_10 ne_t3_b_1).other W_19 ne_t3_b_1).other W_28 ne_t3_b_1).other W_37 ne_t3_b_1).other W_46 ne_t3_b_1).other W_55 ne_t3_b_1).other W_56 ne_t3_b_1)
      have f_304 : Sta Z h_56 "com/example/statementbound/statementbound/statements/internal/Statement$Kind" "SELECT" "Lcom/example/statementbound/statementbound/statements/internal/Statement$Kind;" (.ref v0) := ((((((((PS_com_example_statementbound_statementbound_statements_internal_Statement_Kind_SELECT.ext E_1).wr W_10).wr W_19).wr W_28).wr W_37).wr W_46).wr W_55).wr W_56)
      have f_305 : Sta Z h_56 "com/example/statementbound/statementbound/statements/internal/Statement$Kind" "INSERT" "Lcom/example/statementbound/statementbound/statements/internal/Statement$Kind;" (.ref v1) := ((((((((PS_com_example_statementbound_statementbound_statements_internal_Statement_Kind_INSERT.ext E_1).wr W_10).wr W_19).wr W_28).wr W_37).wr W_46).wr W_55).wr W_56)
      have f_306 : Sta Z h_56 "com/example/statementbound/statementbound/statements/internal/Statement$Kind" "UPDATE" "Lcom/example/statementbound/statementbound/statements/internal/Statement$Kind;" (.ref v2) := ((((((((PS_com_example_statementbound_statementbound_statements_internal_Statement_Kind_UPDATE.ext E_1).wr W_10).wr W_19).wr W_28).wr W_37).wr W_46).wr W_55).wr W_56)
      have f_307 : Sta Z h_56 "com/example/statementbound/statementbound/statements/internal/Statement$Kind" "DELETE" "Lcom/example/statementbound/statementbound/statements/internal/Statement$Kind;" (.ref v3) := ((((((((PS_com_example_statementbound_statementbound_statements_internal_Statement_Kind_DELETE.ext E_1).wr W_10).wr W_19).wr W_28).wr W_37).wr W_46).wr W_55).wr W_56)
      have f_308 : Exa Z h_56 a5 "java/lang/String" := ((f_47.wr W_55).wr W_56)
      have f_309 : Fld Z h_56 a5 "java/lang/String" "value" "[B" (.ref t5) := ((f_48.other W_55 (Or.inl ne_a5_b_1)).other W_56 (Or.inl ne_a5_b_1))
      have f_310 : Fld Z h_56 a5 "java/lang/String" "coder" "B" (.int (0 : Int32)) := ((f_49.other W_55 (Or.inl ne_a5_b_1)).other W_56 (Or.inl ne_a5_b_1))
      have f_311 : Arv Z h_56 t5 kb5 .byte (6 : Int32) (own_str ([c0, c1, c2, c3, c4, c5] : List Int32)) (.int (0 : Int32)) := ((f_50.other W_55 ne_t5_b_1).other W_56 ne_t5_b_1)
      have f_312 : n0 ≤ h_56.size := (Nat.le_trans (Nat.le_trans f_53 (Keep.of_wr W_55).1) (Keep.of_wr W_56).1)
      have f_313 : kk ≤ h_56.size := (Nat.le_trans (Nat.le_trans (Nat.le_trans (Nat.le_trans (Nat.le_trans (Nat.le_trans (Nat.le_trans (Nat.le_trans hk E_1.1) (Keep.of_wr W_10).1) (Keep.of_wr W_19).1) (Keep.of_wr W_28).1) (Keep.of_wr W_37).1) (Keep.of_wr W_46).1) (Keep.of_wr W_55).1) (Keep.of_wr W_56).1)
      have f_314 : Keep hq h_56 [] := ((((((((hKq.ext E_1).wr W_10 (Or.inr sz_b_1)).wr W_19 (Or.inr sz_b_1)).wr W_28 (Or.inr sz_b_1)).wr W_37 (Or.inr sz_b_1)).wr W_46 (Or.inr sz_b_1)).wr W_55 (Or.inr sz_b_1)).wr W_56 (Or.inr sz_b_1))
      exact own_s322 l Z a0 hw p1 p2 p3 p4 av kv v0 v1 v2 v3 x0 t0 kt0 x1 t1 kt1 x2 t2 kt2 x3 t3 kt3 z fm a5 t5 kb5 ([c0, c1, c2, c3, c4, c5] : List Int32) b_1 k_1 c0 c1 c2 c3 c4 c5 (nar .char ((p3 &&& (255 : Int32)).toUInt32.toUInt16.toUInt32.toInt32)) (6 : Int32) (.val (.int ps)) hq p e s m below meth c _ _ _ _ hx hZ hby hml hown hnm hret hlk _ n0 f_312 (X_56.more (by decide) (by decide)) e_56 N_56 hS f_313 f_314 f_279 f_280 f_281 f_282 f_283 f_284 f_285 f_286 f_287 f_288 f_289 f_290 f_291 f_292 f_293 f_294 f_295 f_296 f_297 f_298 f_299 f_300 f_301 f_302 f_303 f_304 f_305 f_306 f_307 f_308 f_309 f_310 f_311 V_56 hz rf hcw hlS hl_0 hl_1 hl_2 hl_3 hZh (own_az hc0) (own_az hc1) (own_az hc2) (own_az hc3) (own_az hc4) (own_az hc5) (own_and255 _) (by decide) (by decide) (own_one_v rfl) hov
  · refine Go.to (mkF m 164 #[.val (.int p1), .val (.int p2), .val (.int p3), .val (.int p4), .val (.int (p1 &&& (3 : Int32))), .val (.ref a5), .val (.int (((p1.toUInt32 >>> ((2 : Int32) &&& 31).toUInt32).toInt32) &&& (3 : Int32))), .val (.ref b_1), .val (.int (6 : Int32)), .unset] []) (fun _ k => XS.ifYes X_56.here hx rfl (pc0 := 131) (pc' := 164) rfl (hb hby at_131) rfl ((if0 _ _).trans (feq hs0).2) (by decide) (by decide) k) ?_
    refine Go.to (mkF m 166 #[.val (.int p1), .val (.int p2), .val (.int p3), .val (.int p4), .val (.int (p1 &&& (3 : Int32))), .val (.ref a5), .val (.int (((p1.toUInt32 >>> ((2 : Int32) &&& 31).toUInt32).toInt32) &&& (3 : Int32))), .val (.ref b_1), .val (.int (6 : Int32)), .unset] [(.int (((p1.toUInt32 >>> ((2 : Int32) &&& 31).toUInt32).toInt32) &&& (3 : Int32)))]) (fun _ k => XS.iload X_56.here hx rfl (hb hby at_164) rfl  k) ?_
    refine Go.to (mkF m 167 #[.val (.int p1), .val (.int p2), .val (.int p3), .val (.int p4), .val (.int (p1 &&& (3 : Int32))), .val (.ref a5), .val (.int (((p1.toUInt32 >>> ((2 : Int32) &&& 31).toUInt32).toInt32) &&& (3 : Int32))), .val (.ref b_1), .val (.int (6 : Int32)), .unset] [(.int (1 : Int32)), (.int (((p1.toUInt32 >>> ((2 : Int32) &&& 31).toUInt32).toInt32) &&& (3 : Int32)))]) (fun _ k => XS.iconst X_56.here hx rfl (hb hby at_166) k) ?_
    by_cases hs1 : (((p1.toUInt32 >>> ((2 : Int32) &&& 31).toUInt32).toInt32) &&& (3 : Int32)) = (1 : Int32)
    · refine Go.to (mkF m 170 #[.val (.int p1), .val (.int p2), .val (.int p3), .val (.int p4), .val (.int (p1 &&& (3 : Int32))), .val (.ref a5), .val (.int (((p1.toUInt32 >>> ((2 : Int32) &&& 31).toUInt32).toInt32) &&& (3 : Int32))), .val (.ref b_1), .val (.int (6 : Int32)), .unset] []) (fun _ k => XS.icmpNo X_56.here hx rfl (hb hby at_167) rfl (teq hs1).2 k) ?_
      refine Go.to (mkF m 171 #[.val (.int p1), .val (.int p2), .val (.int p3), .val (.int p4), .val (.int (p1 &&& (3 : Int32))), .val (.ref a5), .val (.int (((p1.toUInt32 >>> ((2 : Int32) &&& 31).toUInt32).toInt32) &&& (3 : Int32))), .val (.ref b_1), .val (.int (6 : Int32)), .unset] [(.int p2)]) (fun _ k => XS.iloadN X_56.here hx rfl (hb hby at_170) rfl  k) ?_
      refine Go.to (mkF m 173 #[.val (.int p1), .val (.int p2), .val (.int p3), .val (.int p4), .val (.int (p1 &&& (3 : Int32))), .val (.ref a5), .val (.int (((p1.toUInt32 >>> ((2 : Int32) &&& 31).toUInt32).toInt32) &&& (3 : Int32))), .val (.ref b_1), .val (.int (6 : Int32)), .unset] [(.int (7 : Int32)), (.int p2)]) (fun _ k => XS.bipush X_56.here hx rfl (hb hby at_171) k) ?_
      refine Go.to (mkF m 174 #[.val (.int p1), .val (.int p2), .val (.int p3), .val (.int p4), .val (.int (p1 &&& (3 : Int32))), .val (.ref a5), .val (.int (((p1.toUInt32 >>> ((2 : Int32) &&& 31).toUInt32).toInt32) &&& (3 : Int32))), .val (.ref b_1), .val (.int (6 : Int32)), .unset] [(.int (p2 &&& (7 : Int32)))]) (fun _ k => XS.iand X_56.here hx rfl (hb hby at_173) rfl k) ?_
      refine Go.to (mkF m 176 #[.val (.int p1), .val (.int p2), .val (.int p3), .val (.int p4), .val (.int (p1 &&& (3 : Int32))), .val (.ref a5), .val (.int (((p1.toUInt32 >>> ((2 : Int32) &&& 31).toUInt32).toInt32) &&& (3 : Int32))), .val (.ref b_1), .val (.int (p2 &&& (7 : Int32))), .unset] []) (fun _ k => XS.istore X_56.here hx rfl (hb hby at_174) rfl (l' := #[.val (.int p1), .val (.int p2), .val (.int p3), .val (.int p4), .val (.int (p1 &&& (3 : Int32))), .val (.ref a5), .val (.int (((p1.toUInt32 >>> ((2 : Int32) &&& 31).toUInt32).toInt32) &&& (3 : Int32))), .val (.ref b_1), .val (.int (p2 &&& (7 : Int32))), .unset]) rfl k) ?_
      refine Go.to (mkF m 322 #[.val (.int p1), .val (.int p2), .val (.int p3), .val (.int p4), .val (.int (p1 &&& (3 : Int32))), .val (.ref a5), .val (.int (((p1.toUInt32 >>> ((2 : Int32) &&& 31).toUInt32).toInt32) &&& (3 : Int32))), .val (.ref b_1), .val (.int (p2 &&& (7 : Int32))), .unset] []) (fun _ k => XS.goto X_56.here hx rfl (pc0 := 176) (pc' := 322) rfl (hb hby at_176) (by decide) (by decide) k) ?_
      have f_315 : Sta Z h_56 "java/lang/String" "COMPACT_STRINGS" "Z" (.int z) := ((f_51.wr W_55).wr W_56)
      have f_316 : Sta Z h_56 "jdk/internal/util/Preconditions" "SIOOBE_FORMATTER" "Ljava/util/function/BiFunction;" fm := ((f_52.wr W_55).wr W_56)
      have f_317 : Sta Z h_56 "com/example/statementbound/statementbound/statements/internal/Statement$Kind" "$VALUES" "[Lcom/example/statementbound/statementbound/statements/internal/Statement$Kind;" (.ref av) := ((((((((PS_com_example_statementbound_statementbound_statements_internal_Statement_Kind__VALUES.ext E_1).wr W_10).wr W_19).wr W_28).wr W_37).wr W_46).wr W_55).wr W_56)
      have f_318 : Exa Z h_56 av "[Lcom/example/statementbound/statementbound/statements/internal/Statement$Kind;" := ((((((((PE_av.ext E_1).wr W_10).wr W_19).wr W_28).wr W_37).wr W_46).wr W_55).wr W_56)
      have f_319 : Arv Z h_56 av kv (.object "com/example/statementbound/statementbound/statements/internal/Statement$Kind") (4 : Int32) [(.ref v0), (.ref v1), (.ref v2), (.ref v3)] .null := ((((((((PA_av.ext E_1).other W_10 ne_av_b_1).other W_19 ne_av_b_1).other W_28 ne_av_b_1).other W_37 ne_av_b_1).other W_46 ne_av_b_1).other W_55 ne_av_b_1).other W_56 ne_av_b_1)
      have f_320 : Fld Z h_56 v0 "com/example/statementbound/statementbound/statements/internal/Statement$Kind" "element" "Ljava/lang/String;" (.ref x0) := ((((((((PF_v0_element.ext E_1).other W_10 (Or.inl ne_v0_b_1)).other W_19 (Or.inl ne_v0_b_1)).other W_28 (Or.inl ne_v0_b_1)).other W_37 (Or.inl ne_v0_b_1)).other W_46 (Or.inl ne_v0_b_1)).other W_55 (Or.inl ne_v0_b_1)).other W_56 (Or.inl ne_v0_b_1))
      have f_321 : Exa Z h_56 x0 "java/lang/String" := ((((((((PE_x0.ext E_1).wr W_10).wr W_19).wr W_28).wr W_37).wr W_46).wr W_55).wr W_56)
      have f_322 : Fld Z h_56 x0 "java/lang/String" "value" "[B" (.ref t0) := ((((((((PF_x0_value.ext E_1).other W_10 (Or.inl ne_x0_b_1)).other W_19 (Or.inl ne_x0_b_1)).other W_28 (Or.inl ne_x0_b_1)).other W_37 (Or.inl ne_x0_b_1)).other W_46 (Or.inl ne_x0_b_1)).other W_55 (Or.inl ne_x0_b_1)).other W_56 (Or.inl ne_x0_b_1))
      have f_323 : Fld Z h_56 x0 "java/lang/String" "coder" "B" (.int (0 : Int32)) := ((((((((PF_x0_coder.ext E_1).other W_10 (Or.inl ne_x0_b_1)).other W_19 (Or.inl ne_x0_b_1)).other W_28 (Or.inl ne_x0_b_1)).other W_37 (Or.inl ne_x0_b_1)).other W_46 (Or.inl ne_x0_b_1)).other W_55 (Or.inl ne_x0_b_1)).other W_56 (Or.inl ne_x0_b_1))
      have f_324 : Arv Z h_56 t0 kt0 .byte (6 : Int32) (own_str own_t0) (.int (0 : Int32)) := ((((((((PA_t0.ext E_1).other W_10 ne_t0_b_1).other W_19 ne_t0_b_1).other W_28 ne_t0_b_1).other W_37 ne_t0_b_1).other W_46 ne_t0_b_1).other W_55 ne_t0_b_1).other W_56 ne_t0_b_1)
      have f_325 : Fld Z h_56 v1 "com/example/statementbound/statementbound/statements/internal/Statement$Kind" "element" "Ljava/lang/String;" (.ref x1) := ((((((((PF_v1_element.ext E_1).other W_10 (Or.inl ne_v1_b_1)).other W_19 (Or.inl ne_v1_b_1)).other W_28 (Or.inl ne_v1_b_1)).other W_37 (Or.inl ne_v1_b_1)).other W_46 (Or.inl ne_v1_b_1)).other W_55 (Or.inl ne_v1_b_1)).other W_56 (Or.inl ne_v1_b_1))
      have f_326 : Exa Z h_56 x1 "java/lang/String" := ((((((((PE_x1.ext E_1).wr W_10).wr W_19).wr W_28).wr W_37).wr W_46).wr W_55).wr W_56)
      have f_327 : Fld Z h_56 x1 "java/lang/String" "value" "[B" (.ref t1) := ((((((((PF_x1_value.ext E_1).other W_10 (Or.inl ne_x1_b_1)).other W_19 (Or.inl ne_x1_b_1)).other W_28 (Or.inl ne_x1_b_1)).other W_37 (Or.inl ne_x1_b_1)).other W_46 (Or.inl ne_x1_b_1)).other W_55 (Or.inl ne_x1_b_1)).other W_56 (Or.inl ne_x1_b_1))
      have f_328 : Fld Z h_56 x1 "java/lang/String" "coder" "B" (.int (0 : Int32)) := ((((((((PF_x1_coder.ext E_1).other W_10 (Or.inl ne_x1_b_1)).other W_19 (Or.inl ne_x1_b_1)).other W_28 (Or.inl ne_x1_b_1)).other W_37 (Or.inl ne_x1_b_1)).other W_46 (Or.inl ne_x1_b_1)).other W_55 (Or.inl ne_x1_b_1)).other W_56 (Or.inl ne_x1_b_1))
      have f_329 : Arv Z h_56 t1 kt1 .byte (6 : Int32) (own_str own_t1) (.int (0 : Int32)) := ((((((((PA_t1.ext E_1).other W_10 ne_t1_b_1).other W_19 ne_t1_b_1).other W_28 ne_t1_b_1).other W_37 ne_t1_b_1).other W_46 ne_t1_b_1).other W_55 ne_t1_b_1).other W_56 ne_t1_b_1)
      have f_330 : Fld Z h_56 v2 "com/example/statementbound/statementbound/statements/internal/Statement$Kind" "element" "Ljava/lang/String;" (.ref x2) := ((((((((PF_v2_element.ext E_1).other W_10 (Or.inl ne_v2_b_1)).other W_19 (Or.inl ne_v2_b_1)).other W_28 (Or.inl ne_v2_b_1)).other W_37 (Or.inl ne_v2_b_1)).other W_46 (Or.inl ne_v2_b_1)).other W_55 (Or.inl ne_v2_b_1)).other W_56 (Or.inl ne_v2_b_1))
      have f_331 : Exa Z h_56 x2 "java/lang/String" := ((((((((PE_x2.ext E_1).wr W_10).wr W_19).wr W_28).wr W_37).wr W_46).wr W_55).wr W_56)
      have f_332 : Fld Z h_56 x2 "java/lang/String" "value" "[B" (.ref t2) := ((((((((PF_x2_value.ext E_1).other W_10 (Or.inl ne_x2_b_1)).other W_19 (Or.inl ne_x2_b_1)).other W_28 (Or.inl ne_x2_b_1)).other W_37 (Or.inl ne_x2_b_1)).other W_46 (Or.inl ne_x2_b_1)).other W_55 (Or.inl ne_x2_b_1)).other W_56 (Or.inl ne_x2_b_1))
      have f_333 : Fld Z h_56 x2 "java/lang/String" "coder" "B" (.int (0 : Int32)) := ((((((((PF_x2_coder.ext E_1).other W_10 (Or.inl ne_x2_b_1)).other W_19 (Or.inl ne_x2_b_1)).other W_28 (Or.inl ne_x2_b_1)).other W_37 (Or.inl ne_x2_b_1)).other W_46 (Or.inl ne_x2_b_1)).other W_55 (Or.inl ne_x2_b_1)).other W_56 (Or.inl ne_x2_b_1))
      have f_334 : Arv Z h_56 t2 kt2 .byte (6 : Int32) (own_str own_t2) (.int (0 : Int32)) := ((((((((PA_t2.ext E_1).other W_10 ne_t2_b_1).other W_19 ne_t2_b_1).other W_28 ne_t2_b_1).other W_37 ne_t2_b_1).other W_46 ne_t2_b_1).other W_55 ne_t2_b_1).other W_56 ne_t2_b_1)
      have f_335 : Fld Z h_56 v3 "com/example/statementbound/statementbound/statements/internal/Statement$Kind" "element" "Ljava/lang/String;" (.ref x3) := ((((((((PF_v3_element.ext E_1).other W_10 (Or.inl ne_v3_b_1)).other W_19 (Or.inl ne_v3_b_1)).other W_28 (Or.inl ne_v3_b_1)).other W_37 (Or.inl ne_v3_b_1)).other W_46 (Or.inl ne_v3_b_1)).other W_55 (Or.inl ne_v3_b_1)).other W_56 (Or.inl ne_v3_b_1))
      have f_336 : Exa Z h_56 x3 "java/lang/String" := ((((((((PE_x3.ext E_1).wr W_10).wr W_19).wr W_28).wr W_37).wr W_46).wr W_55).wr W_56)
      have f_337 : Fld Z h_56 x3 "java/lang/String" "value" "[B" (.ref t3) := ((((((((PF_x3_value.ext E_1).other W_10 (Or.inl ne_x3_b_1)).other W_19 (Or.inl ne_x3_b_1)).other W_28 (Or.inl ne_x3_b_1)).other W_37 (Or.inl ne_x3_b_1)).other W_46 (Or.inl ne_x3_b_1)).other W_55 (Or.inl ne_x3_b_1)).other W_56 (Or.inl ne_x3_b_1))
      have f_338 : Fld Z h_56 x3 "java/lang/String" "coder" "B" (.int (0 : Int32)) := ((((((((PF_x3_coder.ext E_1).other W_10 (Or.inl ne_x3_b_1)).other W_19 (Or.inl ne_x3_b_1)).other W_28 (Or.inl ne_x3_b_1)).other W_37 (Or.inl ne_x3_b_1)).other W_46 (Or.inl ne_x3_b_1)).other W_55 (Or.inl ne_x3_b_1)).other W_56 (Or.inl ne_x3_b_1))
      have f_339 : Arv Z h_56 t3 kt3 .byte (6 : Int32) (own_str own_t3) (.int (0 : Int32)) := ((((((((PA_t3.ext E_1).other W_10 ne_t3_b_1).other W_19 ne_t3_b_1).other W_28 ne_t3_b_1).other W_37 ne_t3_b_1).other W_46 ne_t3_b_1).other W_55 ne_t3_b_1).other W_56 ne_t3_b_1)
      have f_340 : Sta Z h_56 "com/example/statementbound/statementbound/statements/internal/Statement$Kind" "SELECT" "Lcom/example/statementbound/statementbound/statements/internal/Statement$Kind;" (.ref v0) := ((((((((PS_com_example_statementbound_statementbound_statements_internal_Statement_Kind_SELECT.ext E_1).wr W_10).wr W_19).wr W_28).wr W_37).wr W_46).wr W_55).wr W_56)
      have f_341 : Sta Z h_56 "com/example/statementbound/statementbound/statements/internal/Statement$Kind" "INSERT" "Lcom/example/statementbound/statementbound/statements/internal/Statement$Kind;" (.ref v1) := ((((((((PS_com_example_statementbound_statementbound_statements_internal_Statement_Kind_INSERT.ext E_1).wr W_10).wr W_19).wr W_28).wr W_37).wr W_46).wr W_55).wr W_56)
      have f_342 : Sta Z h_56 "com/example/statementbound/statementbound/statements/internal/Statement$Kind" "UPDATE" "Lcom/example/statementbound/statementbound/statements/internal/Statement$Kind;" (.ref v2) := ((((((((PS_com_example_statementbound_statementbound_statements_internal_Statement_Kind_UPDATE.ext E_1).wr W_10).wr W_19).wr W_28).wr W_37).wr W_46).wr W_55).wr W_56)
      have f_343 : Sta Z h_56 "com/example/statementbound/statementbound/statements/internal/Statement$Kind" "DELETE" "Lcom/example/statementbound/statementbound/statements/internal/Statement$Kind;" (.ref v3) := ((((((((PS_com_example_statementbound_statementbound_statements_internal_Statement_Kind_DELETE.ext E_1).wr W_10).wr W_19).wr W_28).wr W_37).wr W_46).wr W_55).wr W_56)
      have f_344 : Exa Z h_56 a5 "java/lang/String" := ((f_47.wr W_55).wr W_56)
      have f_345 : Fld Z h_56 a5 "java/lang/String" "value" "[B" (.ref t5) := ((f_48.other W_55 (Or.inl ne_a5_b_1)).other W_56 (Or.inl ne_a5_b_1))
      have f_346 : Fld Z h_56 a5 "java/lang/String" "coder" "B" (.int (0 : Int32)) := ((f_49.other W_55 (Or.inl ne_a5_b_1)).other W_56 (Or.inl ne_a5_b_1))
      have f_347 : Arv Z h_56 t5 kb5 .byte (6 : Int32) (own_str ([c0, c1, c2, c3, c4, c5] : List Int32)) (.int (0 : Int32)) := ((f_50.other W_55 ne_t5_b_1).other W_56 ne_t5_b_1)
      have f_348 : n0 ≤ h_56.size := (Nat.le_trans (Nat.le_trans f_53 (Keep.of_wr W_55).1) (Keep.of_wr W_56).1)
      have f_349 : kk ≤ h_56.size := (Nat.le_trans (Nat.le_trans (Nat.le_trans (Nat.le_trans (Nat.le_trans (Nat.le_trans (Nat.le_trans (Nat.le_trans hk E_1.1) (Keep.of_wr W_10).1) (Keep.of_wr W_19).1) (Keep.of_wr W_28).1) (Keep.of_wr W_37).1) (Keep.of_wr W_46).1) (Keep.of_wr W_55).1) (Keep.of_wr W_56).1)
      have f_350 : Keep hq h_56 [] := ((((((((hKq.ext E_1).wr W_10 (Or.inr sz_b_1)).wr W_19 (Or.inr sz_b_1)).wr W_28 (Or.inr sz_b_1)).wr W_37 (Or.inr sz_b_1)).wr W_46 (Or.inr sz_b_1)).wr W_55 (Or.inr sz_b_1)).wr W_56 (Or.inr sz_b_1))
      exact own_s322 l Z a0 hw p1 p2 p3 p4 av kv v0 v1 v2 v3 x0 t0 kt0 x1 t1 kt1 x2 t2 kt2 x3 t3 kt3 z fm a5 t5 kb5 ([c0, c1, c2, c3, c4, c5] : List Int32) b_1 k_1 c0 c1 c2 c3 c4 c5 (nar .char ((p3 &&& (255 : Int32)).toUInt32.toUInt16.toUInt32.toInt32)) (p2 &&& (7 : Int32)) .unset hq p e s m below meth c _ _ _ _ hx hZ hby hml hown hnm hret hlk _ n0 f_348 (X_56.more (by decide) (by decide)) e_56 N_56 hS f_349 f_350 f_315 f_316 f_317 f_318 f_319 f_320 f_321 f_322 f_323 f_324 f_325 f_326 f_327 f_328 f_329 f_330 f_331 f_332 f_333 f_334 f_335 f_336 f_337 f_338 f_339 f_340 f_341 f_342 f_343 f_344 f_345 f_346 f_347 V_56 hz rf hcw hlS hl_0 hl_1 hl_2 hl_3 hZh (own_az hc0) (own_az hc1) (own_az hc2) (own_az hc3) (own_az hc4) (own_az hc5) (own_and255 _) (own_and7 _).1 (own_and7 _).2 own_one_u hov
    · refine Go.to (mkF m 179 #[.val (.int p1), .val (.int p2), .val (.int p3), .val (.int p4), .val (.int (p1 &&& (3 : Int32))), .val (.ref a5), .val (.int (((p1.toUInt32 >>> ((2 : Int32) &&& 31).toUInt32).toInt32) &&& (3 : Int32))), .val (.ref b_1), .val (.int (6 : Int32)), .unset] []) (fun _ k => XS.icmpYes X_56.here hx rfl (pc0 := 167) (pc' := 179) rfl (hb hby at_167) rfl (feq hs1).2 (by decide) (by decide) k) ?_
      refine Go.to (mkF m 181 #[.val (.int p1), .val (.int p2), .val (.int p3), .val (.int p4), .val (.int (p1 &&& (3 : Int32))), .val (.ref a5), .val (.int (((p1.toUInt32 >>> ((2 : Int32) &&& 31).toUInt32).toInt32) &&& (3 : Int32))), .val (.ref b_1), .val (.int (6 : Int32)), .unset] [(.int (((p1.toUInt32 >>> ((2 : Int32) &&& 31).toUInt32).toInt32) &&& (3 : Int32)))]) (fun _ k => XS.iload X_56.here hx rfl (hb hby at_179) rfl  k) ?_
      refine Go.to (mkF m 182 #[.val (.int p1), .val (.int p2), .val (.int p3), .val (.int p4), .val (.int (p1 &&& (3 : Int32))), .val (.ref a5), .val (.int (((p1.toUInt32 >>> ((2 : Int32) &&& 31).toUInt32).toInt32) &&& (3 : Int32))), .val (.ref b_1), .val (.int (6 : Int32)), .unset] [(.int (2 : Int32)), (.int (((p1.toUInt32 >>> ((2 : Int32) &&& 31).toUInt32).toInt32) &&& (3 : Int32)))]) (fun _ k => XS.iconst X_56.here hx rfl (hb hby at_181) k) ?_
      by_cases hs2 : (((p1.toUInt32 >>> ((2 : Int32) &&& 31).toUInt32).toInt32) &&& (3 : Int32)) = (2 : Int32)
      · refine Go.to (mkF m 185 #[.val (.int p1), .val (.int p2), .val (.int p3), .val (.int p4), .val (.int (p1 &&& (3 : Int32))), .val (.ref a5), .val (.int (((p1.toUInt32 >>> ((2 : Int32) &&& 31).toUInt32).toInt32) &&& (3 : Int32))), .val (.ref b_1), .val (.int (6 : Int32)), .unset] []) (fun _ k => XS.icmpNo X_56.here hx rfl (hb hby at_182) rfl (teq hs2).2 k) ?_
        refine Go.to (mkF m 187 #[.val (.int p1), .val (.int p2), .val (.int p3), .val (.int p4), .val (.int (p1 &&& (3 : Int32))), .val (.ref a5), .val (.int (((p1.toUInt32 >>> ((2 : Int32) &&& 31).toUInt32).toInt32) &&& (3 : Int32))), .val (.ref b_1), .val (.int (6 : Int32)), .unset] [(.ref b_1)]) (fun _ k => XS.aload X_56.here hx rfl (hb hby at_185) rfl rfl k) ?_
        refine Go.to (mkF m 188 #[.val (.int p1), .val (.int p2), .val (.int p3), .val (.int p4), .val (.int (p1 &&& (3 : Int32))), .val (.ref a5), .val (.int (((p1.toUInt32 >>> ((2 : Int32) &&& 31).toUInt32).toInt32) &&& (3 : Int32))), .val (.ref b_1), .val (.int (6 : Int32)), .unset] [(.int (0 : Int32)), (.ref b_1)]) (fun _ k => XS.iconst X_56.here hx rfl (hb hby at_187) k) ?_
        refine Go.to (mkF m 189 #[.val (.int p1), .val (.int p2), .val (.int p3), .val (.int p4), .val (.int (p1 &&& (3 : Int32))), .val (.ref a5), .val (.int (((p1.toUInt32 >>> ((2 : Int32) &&& 31).toUInt32).toInt32) &&& (3 : Int32))), .val (.ref b_1), .val (.int (6 : Int32)), .unset] [(.int p3), (.int (0 : Int32)), (.ref b_1)]) (fun _ k => XS.iloadN X_56.here hx rfl (hb hby at_188) rfl  k) ?_
        refine Go.to (mkF m 192 #[.val (.int p1), .val (.int p2), .val (.int p3), .val (.int p4), .val (.int (p1 &&& (3 : Int32))), .val (.ref a5), .val (.int (((p1.toUInt32 >>> ((2 : Int32) &&& 31).toUInt32).toInt32) &&& (3 : Int32))), .val (.ref b_1), .val (.int (6 : Int32)), .unset] [(.int (255 : Int32)), (.int p3), (.int (0 : Int32)), (.ref b_1)]) (fun _ k => XS.sipush X_56.here hx rfl (hb hby at_189) k) ?_
        refine Go.to (mkF m 193 #[.val (.int p1), .val (.int p2), .val (.int p3), .val (.int p4), .val (.int (p1 &&& (3 : Int32))), .val (.ref a5), .val (.int (((p1.toUInt32 >>> ((2 : Int32) &&& 31).toUInt32).toInt32) &&& (3 : Int32))), .val (.ref b_1), .val (.int (6 : Int32)), .unset] [(.int (p3 &&& (255 : Int32))), (.int (0 : Int32)), (.ref b_1)]) (fun _ k => XS.iand X_56.here hx rfl (hb hby at_192) rfl k) ?_
        refine Go.to (mkF m 194 #[.val (.int p1), .val (.int p2), .val (.int p3), .val (.int p4), .val (.int (p1 &&& (3 : Int32))), .val (.ref a5), .val (.int (((p1.toUInt32 >>> ((2 : Int32) &&& 31).toUInt32).toInt32) &&& (3 : Int32))), .val (.ref b_1), .val (.int (6 : Int32)), .unset] [(.int ((p3 &&& (255 : Int32)).toUInt32.toUInt16.toUInt32.toInt32)), (.int (0 : Int32)), (.ref b_1)]) (fun _ k => XS.i2c X_56.here hx rfl (hb hby at_193) rfl k) ?_
        obtain ⟨cl_351, Ar_351, q_351, Sz_351, Ng_351, Hh_351, Gg_351⟩ := id V_56
        have hin_351 : ¬ ((0 : Int32) < 0 ∨ cl_351.slots.size ≤ ((0 : Int32)).toNatClampNeg) := inb_of Sz_351 ⟨by decide, by decide⟩
        obtain ⟨T_351, h_351, X_351, e_351, W_351, st_351⟩ := stC X_56 hx hZ e_56 Ar_351 (j := (0 : Int32)) hin_351 (g := (mkF m 194 #[.val (.int p1), .val (.int p2), .val (.int p3), .val (.int p4), .val (.int (p1 &&& (3 : Int32))), .val (.ref a5), .val (.int (((p1.toUInt32 >>> ((2 : Int32) &&& 31).toUInt32).toInt32) &&& (3 : Int32))), .val (.ref b_1), .val (.int (6 : Int32)), .unset] [(.int ((p3 &&& (255 : Int32)).toUInt32.toUInt16.toUInt32.toInt32)), (.int (0 : Int32)), (.ref b_1)])) rfl rfl (hb hby at_194)
        have N_351 := Fr.snoc X_351 N_56 g_b_1
        have V_351 : Arv Z h_351 b_1 k_1 .char (7 : Int32) [(.int (nar .char ((p3 &&& (255 : Int32)).toUInt32.toUInt16.toUInt32.toInt32))), (.int c1), (.int c2), (.int c3), (.int c4), (.int c5), (.int (nar .char ((p3 &&& (255 : Int32)).toUInt32.toUInt16.toUInt32.toInt32)))] (.int (0 : Int32)) := Arv.set Ar_351 q_351 Sz_351 Ng_351 Hh_351 Gg_351 (fits_nar_char _) W_351 0 rfl (Nat.le_of_ble_eq_true rfl)
        refine Go.to (mkF m 195 #[.val (.int p1), .val (.int p2), .val (.int p3), .val (.int p4), .val (.int (p1 &&& (3 : Int32))), .val (.ref a5), .val (.int (((p1.toUInt32 >>> ((2 : Int32) &&& 31).toUInt32).toInt32) &&& (3 : Int32))), .val (.ref b_1), .val (.int (6 : Int32)), .unset] []) st_351 ?_
        refine Go.to (mkF m 197 #[.val (.int p1), .val (.int p2), .val (.int p3), .val (.int p4), .val (.int (p1 &&& (3 : Int32))), .val (.ref a5), .val (.int (((p1.toUInt32 >>> ((2 : Int32) &&& 31).toUInt32).toInt32) &&& (3 : Int32))), .val (.ref b_1), .val (.int (6 : Int32)), .unset] [(.ref b_1)]) (fun _ k => XS.aload X_351.here hx rfl (hb hby at_195) rfl rfl k) ?_
        refine Go.to (mkF m 198 #[.val (.int p1), .val (.int p2), .val (.int p3), .val (.int p4), .val (.int (p1 &&& (3 : Int32))), .val (.ref a5), .val (.int (((p1.toUInt32 >>> ((2 : Int32) &&& 31).toUInt32).toInt32) &&& (3 : Int32))), .val (.ref b_1), .val (.int (6 : Int32)), .unset] [(.int (1 : Int32)), (.ref b_1)]) (fun _ k => XS.iconst X_351.here hx rfl (hb hby at_197) k) ?_
        refine Go.to (mkF m 199 #[.val (.int p1), .val (.int p2), .val (.int p3), .val (.int p4), .val (.int (p1 &&& (3 : Int32))), .val (.ref a5), .val (.int (((p1.toUInt32 >>> ((2 : Int32) &&& 31).toUInt32).toInt32) &&& (3 : Int32))), .val (.ref b_1), .val (.int (6 : Int32)), .unset] [(.int p3), (.int (1 : Int32)), (.ref b_1)]) (fun _ k => XS.iloadN X_351.here hx rfl (hb hby at_198) rfl  k) ?_
        refine Go.to (mkF m 201 #[.val (.int p1), .val (.int p2), .val (.int p3), .val (.int p4), .val (.int (p1 &&& (3 : Int32))), .val (.ref a5), .val (.int (((p1.toUInt32 >>> ((2 : Int32) &&& 31).toUInt32).toInt32) &&& (3 : Int32))), .val (.ref b_1), .val (.int (6 : Int32)), .unset] [(.int (8 : Int32)), (.int p3), (.int (1 : Int32)), (.ref b_1)]) (fun _ k => XS.bipush X_351.here hx rfl (hb hby at_199) k) ?_
        refine Go.to (mkF m 202 #[.val (.int p1), .val (.int p2), .val (.int p3), .val (.int p4), .val (.int (p1 &&& (3 : Int32))), .val (.ref a5), .val (.int (((p1.toUInt32 >>> ((2 : Int32) &&& 31).toUInt32).toInt32) &&& (3 : Int32))), .val (.ref b_1), .val (.int (6 : Int32)), .unset] [(.int ((p3.toUInt32 >>> ((8 : Int32) &&& 31).toUInt32).toInt32)), (.int (1 : Int32)), (.ref b_1)]) (fun _ k => XS.iushr X_351.here hx rfl (hb hby at_201) rfl k) ?_
        refine Go.to (mkF m 205 #[.val (.int p1), .val (.int p2), .val (.int p3), .val (.int p4), .val (.int (p1 &&& (3 : Int32))), .val (.ref a5), .val (.int (((p1.toUInt32 >>> ((2 : Int32) &&& 31).toUInt32).toInt32) &&& (3 : Int32))), .val (.ref b_1), .val (.int (6 : Int32)), .unset] [(.int (255 : Int32)), (.int ((p3.toUInt32 >>> ((8 : Int32) &&& 31).toUInt32).toInt32)), (.int (1 : Int32)), (.ref b_1)]) (fun _ k => XS.sipush X_351.here hx rfl (hb hby at_202) k) ?_
        refine Go.to (mkF m 206 #[.val (.int p1), .val (.int p2), .val (.int p3), .val (.int p4), .val (.int (p1 &&& (3 : Int32))), .val (.ref a5), .val (.int (((p1.toUInt32 >>> ((2 : Int32) &&& 31).toUInt32).toInt32) &&& (3 : Int32))), .val (.ref b_1), .val (.int (6 : Int32)), .unset] [(.int (((p3.toUInt32 >>> ((8 : Int32) &&& 31).toUInt32).toInt32) &&& (255 : Int32))), (.int (1 : Int32)), (.ref b_1)]) (fun _ k => XS.iand X_351.here hx rfl (hb hby at_205) rfl k) ?_
        refine Go.to (mkF m 207 #[.val (.int p1), .val (.int p2), .val (.int p3), .val (.int p4), .val (.int (p1 &&& (3 : Int32))), .val (.ref a5), .val (.int (((p1.toUInt32 >>> ((2 : Int32) &&& 31).toUInt32).toInt32) &&& (3 : Int32))), .val (.ref b_1), .val (.int (6 : Int32)), .unset] [(.int ((((p3.toUInt32 >>> ((8 : Int32) &&& 31).toUInt32).toInt32) &&& (255 : Int32)).toUInt32.toUInt16.toUInt32.toInt32)), (.int (1 : Int32)), (.ref b_1)]) (fun _ k => XS.i2c X_351.here hx rfl (hb hby at_206) rfl k) ?_
        obtain ⟨cl_352, Ar_352, q_352, Sz_352, Ng_352, Hh_352, Gg_352⟩ := id V_351
        have hin_352 : ¬ ((1 : Int32) < 0 ∨ cl_352.slots.size ≤ ((1 : Int32)).toNatClampNeg) := inb_of Sz_352 ⟨by decide, by decide⟩
        obtain ⟨T_352, h_352, X_352, e_352, W_352, st_352⟩ := stC X_351 hx hZ e_351 Ar_352 (j := (1 : Int32)) hin_352 (g := (mkF m 207 #[.val (.int p1), .val (.int p2), .val (.int p3), .val (.int p4), .val (.int (p1 &&& (3 : Int32))), .val (.ref a5), .val (.int (((p1.toUInt32 >>> ((2 : Int32) &&& 31).toUInt32).toInt32) &&& (3 : Int32))), .val (.ref b_1), .val (.int (6 : Int32)), .unset] [(.int ((((p3.toUInt32 >>> ((8 : Int32) &&& 31).toUInt32).toInt32) &&& (255 : Int32)).toUInt32.toUInt16.toUInt32.toInt32)), (.int (1 : Int32)), (.ref b_1)])) rfl rfl (hb hby at_207)
        have N_352 := Fr.snoc X_352 N_351 g_b_1
        have V_352 : Arv Z h_352 b_1 k_1 .char (7 : Int32) [(.int (nar .char ((p3 &&& (255 : Int32)).toUInt32.toUInt16.toUInt32.toInt32))), (.int (nar .char ((((p3.toUInt32 >>> ((8 : Int32) &&& 31).toUInt32).toInt32) &&& (255 : Int32)).toUInt32.toUInt16.toUInt32.toInt32))), (.int c2), (.int c3), (.int c4), (.int c5), (.int (nar .char ((p3 &&& (255 : Int32)).toUInt32.toUInt16.toUInt32.toInt32)))] (.int (0 : Int32)) := Arv.set Ar_352 q_352 Sz_352 Ng_352 Hh_352 Gg_352 (fits_nar_char _) W_352 1 rfl (Nat.le_of_ble_eq_true rfl)
        refine Go.to (mkF m 208 #[.val (.int p1), .val (.int p2), .val (.int p3), .val (.int p4), .val (.int (p1 &&& (3 : Int32))), .val (.ref a5), .val (.int (((p1.toUInt32 >>> ((2 : Int32) &&& 31).toUInt32).toInt32) &&& (3 : Int32))), .val (.ref b_1), .val (.int (6 : Int32)), .unset] []) st_352 ?_
        refine Go.to (mkF m 210 #[.val (.int p1), .val (.int p2), .val (.int p3), .val (.int p4), .val (.int (p1 &&& (3 : Int32))), .val (.ref a5), .val (.int (((p1.toUInt32 >>> ((2 : Int32) &&& 31).toUInt32).toInt32) &&& (3 : Int32))), .val (.ref b_1), .val (.int (6 : Int32)), .unset] [(.ref b_1)]) (fun _ k => XS.aload X_352.here hx rfl (hb hby at_208) rfl rfl k) ?_
        refine Go.to (mkF m 211 #[.val (.int p1), .val (.int p2), .val (.int p3), .val (.int p4), .val (.int (p1 &&& (3 : Int32))), .val (.ref a5), .val (.int (((p1.toUInt32 >>> ((2 : Int32) &&& 31).toUInt32).toInt32) &&& (3 : Int32))), .val (.ref b_1), .val (.int (6 : Int32)), .unset] [(.int (2 : Int32)), (.ref b_1)]) (fun _ k => XS.iconst X_352.here hx rfl (hb hby at_210) k) ?_
        refine Go.to (mkF m 212 #[.val (.int p1), .val (.int p2), .val (.int p3), .val (.int p4), .val (.int (p1 &&& (3 : Int32))), .val (.ref a5), .val (.int (((p1.toUInt32 >>> ((2 : Int32) &&& 31).toUInt32).toInt32) &&& (3 : Int32))), .val (.ref b_1), .val (.int (6 : Int32)), .unset] [(.int p3), (.int (2 : Int32)), (.ref b_1)]) (fun _ k => XS.iloadN X_352.here hx rfl (hb hby at_211) rfl  k) ?_
        refine Go.to (mkF m 214 #[.val (.int p1), .val (.int p2), .val (.int p3), .val (.int p4), .val (.int (p1 &&& (3 : Int32))), .val (.ref a5), .val (.int (((p1.toUInt32 >>> ((2 : Int32) &&& 31).toUInt32).toInt32) &&& (3 : Int32))), .val (.ref b_1), .val (.int (6 : Int32)), .unset] [(.int (16 : Int32)), (.int p3), (.int (2 : Int32)), (.ref b_1)]) (fun _ k => XS.bipush X_352.here hx rfl (hb hby at_212) k) ?_
        refine Go.to (mkF m 215 #[.val (.int p1), .val (.int p2), .val (.int p3), .val (.int p4), .val (.int (p1 &&& (3 : Int32))), .val (.ref a5), .val (.int (((p1.toUInt32 >>> ((2 : Int32) &&& 31).toUInt32).toInt32) &&& (3 : Int32))), .val (.ref b_1), .val (.int (6 : Int32)), .unset] [(.int ((p3.toUInt32 >>> ((16 : Int32) &&& 31).toUInt32).toInt32)), (.int (2 : Int32)), (.ref b_1)]) (fun _ k => XS.iushr X_352.here hx rfl (hb hby at_214) rfl k) ?_
        refine Go.to (mkF m 218 #[.val (.int p1), .val (.int p2), .val (.int p3), .val (.int p4), .val (.int (p1 &&& (3 : Int32))), .val (.ref a5), .val (.int (((p1.toUInt32 >>> ((2 : Int32) &&& 31).toUInt32).toInt32) &&& (3 : Int32))), .val (.ref b_1), .val (.int (6 : Int32)), .unset] [(.int (255 : Int32)), (.int ((p3.toUInt32 >>> ((16 : Int32) &&& 31).toUInt32).toInt32)), (.int (2 : Int32)), (.ref b_1)]) (fun _ k => XS.sipush X_352.here hx rfl (hb hby at_215) k) ?_
        refine Go.to (mkF m 219 #[.val (.int p1), .val (.int p2), .val (.int p3), .val (.int p4), .val (.int (p1 &&& (3 : Int32))), .val (.ref a5), .val (.int (((p1.toUInt32 >>> ((2 : Int32) &&& 31).toUInt32).toInt32) &&& (3 : Int32))), .val (.ref b_1), .val (.int (6 : Int32)), .unset] [(.int (((p3.toUInt32 >>> ((16 : Int32) &&& 31).toUInt32).toInt32) &&& (255 : Int32))), (.int (2 : Int32)), (.ref b_1)]) (fun _ k => XS.iand X_352.here hx rfl (hb hby at_218) rfl k) ?_
        refine Go.to (mkF m 220 #[.val (.int p1), .val (.int p2), .val (.int p3), .val (.int p4), .val (.int (p1 &&& (3 : Int32))), .val (.ref a5), .val (.int (((p1.toUInt32 >>> ((2 : Int32) &&& 31).toUInt32).toInt32) &&& (3 : Int32))), .val (.ref b_1), .val (.int (6 : Int32)), .unset] [(.int ((((p3.toUInt32 >>> ((16 : Int32) &&& 31).toUInt32).toInt32) &&& (255 : Int32)).toUInt32.toUInt16.toUInt32.toInt32)), (.int (2 : Int32)), (.ref b_1)]) (fun _ k => XS.i2c X_352.here hx rfl (hb hby at_219) rfl k) ?_
        obtain ⟨cl_353, Ar_353, q_353, Sz_353, Ng_353, Hh_353, Gg_353⟩ := id V_352
        have hin_353 : ¬ ((2 : Int32) < 0 ∨ cl_353.slots.size ≤ ((2 : Int32)).toNatClampNeg) := inb_of Sz_353 ⟨by decide, by decide⟩
        obtain ⟨T_353, h_353, X_353, e_353, W_353, st_353⟩ := stC X_352 hx hZ e_352 Ar_353 (j := (2 : Int32)) hin_353 (g := (mkF m 220 #[.val (.int p1), .val (.int p2), .val (.int p3), .val (.int p4), .val (.int (p1 &&& (3 : Int32))), .val (.ref a5), .val (.int (((p1.toUInt32 >>> ((2 : Int32) &&& 31).toUInt32).toInt32) &&& (3 : Int32))), .val (.ref b_1), .val (.int (6 : Int32)), .unset] [(.int ((((p3.toUInt32 >>> ((16 : Int32) &&& 31).toUInt32).toInt32) &&& (255 : Int32)).toUInt32.toUInt16.toUInt32.toInt32)), (.int (2 : Int32)), (.ref b_1)])) rfl rfl (hb hby at_220)
        have N_353 := Fr.snoc X_353 N_352 g_b_1
        have V_353 : Arv Z h_353 b_1 k_1 .char (7 : Int32) [(.int (nar .char ((p3 &&& (255 : Int32)).toUInt32.toUInt16.toUInt32.toInt32))), (.int (nar .char ((((p3.toUInt32 >>> ((8 : Int32) &&& 31).toUInt32).toInt32) &&& (255 : Int32)).toUInt32.toUInt16.toUInt32.toInt32))), (.int (nar .char ((((p3.toUInt32 >>> ((16 : Int32) &&& 31).toUInt32).toInt32) &&& (255 : Int32)).toUInt32.toUInt16.toUInt32.toInt32))), (.int c3), (.int c4), (.int c5), (.int (nar .char ((p3 &&& (255 : Int32)).toUInt32.toUInt16.toUInt32.toInt32)))] (.int (0 : Int32)) := Arv.set Ar_353 q_353 Sz_353 Ng_353 Hh_353 Gg_353 (fits_nar_char _) W_353 2 rfl (Nat.le_of_ble_eq_true rfl)
        refine Go.to (mkF m 221 #[.val (.int p1), .val (.int p2), .val (.int p3), .val (.int p4), .val (.int (p1 &&& (3 : Int32))), .val (.ref a5), .val (.int (((p1.toUInt32 >>> ((2 : Int32) &&& 31).toUInt32).toInt32) &&& (3 : Int32))), .val (.ref b_1), .val (.int (6 : Int32)), .unset] []) st_353 ?_
        refine Go.to (mkF m 223 #[.val (.int p1), .val (.int p2), .val (.int p3), .val (.int p4), .val (.int (p1 &&& (3 : Int32))), .val (.ref a5), .val (.int (((p1.toUInt32 >>> ((2 : Int32) &&& 31).toUInt32).toInt32) &&& (3 : Int32))), .val (.ref b_1), .val (.int (6 : Int32)), .unset] [(.ref b_1)]) (fun _ k => XS.aload X_353.here hx rfl (hb hby at_221) rfl rfl k) ?_
        refine Go.to (mkF m 224 #[.val (.int p1), .val (.int p2), .val (.int p3), .val (.int p4), .val (.int (p1 &&& (3 : Int32))), .val (.ref a5), .val (.int (((p1.toUInt32 >>> ((2 : Int32) &&& 31).toUInt32).toInt32) &&& (3 : Int32))), .val (.ref b_1), .val (.int (6 : Int32)), .unset] [(.int (3 : Int32)), (.ref b_1)]) (fun _ k => XS.iconst X_353.here hx rfl (hb hby at_223) k) ?_
        refine Go.to (mkF m 225 #[.val (.int p1), .val (.int p2), .val (.int p3), .val (.int p4), .val (.int (p1 &&& (3 : Int32))), .val (.ref a5), .val (.int (((p1.toUInt32 >>> ((2 : Int32) &&& 31).toUInt32).toInt32) &&& (3 : Int32))), .val (.ref b_1), .val (.int (6 : Int32)), .unset] [(.int p3), (.int (3 : Int32)), (.ref b_1)]) (fun _ k => XS.iloadN X_353.here hx rfl (hb hby at_224) rfl  k) ?_
        refine Go.to (mkF m 227 #[.val (.int p1), .val (.int p2), .val (.int p3), .val (.int p4), .val (.int (p1 &&& (3 : Int32))), .val (.ref a5), .val (.int (((p1.toUInt32 >>> ((2 : Int32) &&& 31).toUInt32).toInt32) &&& (3 : Int32))), .val (.ref b_1), .val (.int (6 : Int32)), .unset] [(.int (24 : Int32)), (.int p3), (.int (3 : Int32)), (.ref b_1)]) (fun _ k => XS.bipush X_353.here hx rfl (hb hby at_225) k) ?_
        refine Go.to (mkF m 228 #[.val (.int p1), .val (.int p2), .val (.int p3), .val (.int p4), .val (.int (p1 &&& (3 : Int32))), .val (.ref a5), .val (.int (((p1.toUInt32 >>> ((2 : Int32) &&& 31).toUInt32).toInt32) &&& (3 : Int32))), .val (.ref b_1), .val (.int (6 : Int32)), .unset] [(.int ((p3.toUInt32 >>> ((24 : Int32) &&& 31).toUInt32).toInt32)), (.int (3 : Int32)), (.ref b_1)]) (fun _ k => XS.iushr X_353.here hx rfl (hb hby at_227) rfl k) ?_
        refine Go.to (mkF m 231 #[.val (.int p1), .val (.int p2), .val (.int p3), .val (.int p4), .val (.int (p1 &&& (3 : Int32))), .val (.ref a5), .val (.int (((p1.toUInt32 >>> ((2 : Int32) &&& 31).toUInt32).toInt32) &&& (3 : Int32))), .val (.ref b_1), .val (.int (6 : Int32)), .unset] [(.int (255 : Int32)), (.int ((p3.toUInt32 >>> ((24 : Int32) &&& 31).toUInt32).toInt32)), (.int (3 : Int32)), (.ref b_1)]) (fun _ k => XS.sipush X_353.here hx rfl (hb hby at_228) k) ?_
        refine Go.to (mkF m 232 #[.val (.int p1), .val (.int p2), .val (.int p3), .val (.int p4), .val (.int (p1 &&& (3 : Int32))), .val (.ref a5), .val (.int (((p1.toUInt32 >>> ((2 : Int32) &&& 31).toUInt32).toInt32) &&& (3 : Int32))), .val (.ref b_1), .val (.int (6 : Int32)), .unset] [(.int (((p3.toUInt32 >>> ((24 : Int32) &&& 31).toUInt32).toInt32) &&& (255 : Int32))), (.int (3 : Int32)), (.ref b_1)]) (fun _ k => XS.iand X_353.here hx rfl (hb hby at_231) rfl k) ?_
        refine Go.to (mkF m 233 #[.val (.int p1), .val (.int p2), .val (.int p3), .val (.int p4), .val (.int (p1 &&& (3 : Int32))), .val (.ref a5), .val (.int (((p1.toUInt32 >>> ((2 : Int32) &&& 31).toUInt32).toInt32) &&& (3 : Int32))), .val (.ref b_1), .val (.int (6 : Int32)), .unset] [(.int ((((p3.toUInt32 >>> ((24 : Int32) &&& 31).toUInt32).toInt32) &&& (255 : Int32)).toUInt32.toUInt16.toUInt32.toInt32)), (.int (3 : Int32)), (.ref b_1)]) (fun _ k => XS.i2c X_353.here hx rfl (hb hby at_232) rfl k) ?_
        obtain ⟨cl_354, Ar_354, q_354, Sz_354, Ng_354, Hh_354, Gg_354⟩ := id V_353
        have hin_354 : ¬ ((3 : Int32) < 0 ∨ cl_354.slots.size ≤ ((3 : Int32)).toNatClampNeg) := inb_of Sz_354 ⟨by decide, by decide⟩
        obtain ⟨T_354, h_354, X_354, e_354, W_354, st_354⟩ := stC X_353 hx hZ e_353 Ar_354 (j := (3 : Int32)) hin_354 (g := (mkF m 233 #[.val (.int p1), .val (.int p2), .val (.int p3), .val (.int p4), .val (.int (p1 &&& (3 : Int32))), .val (.ref a5), .val (.int (((p1.toUInt32 >>> ((2 : Int32) &&& 31).toUInt32).toInt32) &&& (3 : Int32))), .val (.ref b_1), .val (.int (6 : Int32)), .unset] [(.int ((((p3.toUInt32 >>> ((24 : Int32) &&& 31).toUInt32).toInt32) &&& (255 : Int32)).toUInt32.toUInt16.toUInt32.toInt32)), (.int (3 : Int32)), (.ref b_1)])) rfl rfl (hb hby at_233)
        have N_354 := Fr.snoc X_354 N_353 g_b_1
        have V_354 : Arv Z h_354 b_1 k_1 .char (7 : Int32) [(.int (nar .char ((p3 &&& (255 : Int32)).toUInt32.toUInt16.toUInt32.toInt32))), (.int (nar .char ((((p3.toUInt32 >>> ((8 : Int32) &&& 31).toUInt32).toInt32) &&& (255 : Int32)).toUInt32.toUInt16.toUInt32.toInt32))), (.int (nar .char ((((p3.toUInt32 >>> ((16 : Int32) &&& 31).toUInt32).toInt32) &&& (255 : Int32)).toUInt32.toUInt16.toUInt32.toInt32))), (.int (nar .char ((((p3.toUInt32 >>> ((24 : Int32) &&& 31).toUInt32).toInt32) &&& (255 : Int32)).toUInt32.toUInt16.toUInt32.toInt32))), (.int c4), (.int c5), (.int (nar .char ((p3 &&& (255 : Int32)).toUInt32.toUInt16.toUInt32.toInt32)))] (.int (0 : Int32)) := Arv.set Ar_354 q_354 Sz_354 Ng_354 Hh_354 Gg_354 (fits_nar_char _) W_354 3 rfl (Nat.le_of_ble_eq_true rfl)
        refine Go.to (mkF m 234 #[.val (.int p1), .val (.int p2), .val (.int p3), .val (.int p4), .val (.int (p1 &&& (3 : Int32))), .val (.ref a5), .val (.int (((p1.toUInt32 >>> ((2 : Int32) &&& 31).toUInt32).toInt32) &&& (3 : Int32))), .val (.ref b_1), .val (.int (6 : Int32)), .unset] []) st_354 ?_
        refine Go.to (mkF m 236 #[.val (.int p1), .val (.int p2), .val (.int p3), .val (.int p4), .val (.int (p1 &&& (3 : Int32))), .val (.ref a5), .val (.int (((p1.toUInt32 >>> ((2 : Int32) &&& 31).toUInt32).toInt32) &&& (3 : Int32))), .val (.ref b_1), .val (.int (6 : Int32)), .unset] [(.ref b_1)]) (fun _ k => XS.aload X_354.here hx rfl (hb hby at_234) rfl rfl k) ?_
        refine Go.to (mkF m 237 #[.val (.int p1), .val (.int p2), .val (.int p3), .val (.int p4), .val (.int (p1 &&& (3 : Int32))), .val (.ref a5), .val (.int (((p1.toUInt32 >>> ((2 : Int32) &&& 31).toUInt32).toInt32) &&& (3 : Int32))), .val (.ref b_1), .val (.int (6 : Int32)), .unset] [(.int (4 : Int32)), (.ref b_1)]) (fun _ k => XS.iconst X_354.here hx rfl (hb hby at_236) k) ?_
        refine Go.to (mkF m 238 #[.val (.int p1), .val (.int p2), .val (.int p3), .val (.int p4), .val (.int (p1 &&& (3 : Int32))), .val (.ref a5), .val (.int (((p1.toUInt32 >>> ((2 : Int32) &&& 31).toUInt32).toInt32) &&& (3 : Int32))), .val (.ref b_1), .val (.int (6 : Int32)), .unset] [(.int p4), (.int (4 : Int32)), (.ref b_1)]) (fun _ k => XS.iloadN X_354.here hx rfl (hb hby at_237) rfl  k) ?_
        refine Go.to (mkF m 241 #[.val (.int p1), .val (.int p2), .val (.int p3), .val (.int p4), .val (.int (p1 &&& (3 : Int32))), .val (.ref a5), .val (.int (((p1.toUInt32 >>> ((2 : Int32) &&& 31).toUInt32).toInt32) &&& (3 : Int32))), .val (.ref b_1), .val (.int (6 : Int32)), .unset] [(.int (255 : Int32)), (.int p4), (.int (4 : Int32)), (.ref b_1)]) (fun _ k => XS.sipush X_354.here hx rfl (hb hby at_238) k) ?_
        refine Go.to (mkF m 242 #[.val (.int p1), .val (.int p2), .val (.int p3), .val (.int p4), .val (.int (p1 &&& (3 : Int32))), .val (.ref a5), .val (.int (((p1.toUInt32 >>> ((2 : Int32) &&& 31).toUInt32).toInt32) &&& (3 : Int32))), .val (.ref b_1), .val (.int (6 : Int32)), .unset] [(.int (p4 &&& (255 : Int32))), (.int (4 : Int32)), (.ref b_1)]) (fun _ k => XS.iand X_354.here hx rfl (hb hby at_241) rfl k) ?_
        refine Go.to (mkF m 243 #[.val (.int p1), .val (.int p2), .val (.int p3), .val (.int p4), .val (.int (p1 &&& (3 : Int32))), .val (.ref a5), .val (.int (((p1.toUInt32 >>> ((2 : Int32) &&& 31).toUInt32).toInt32) &&& (3 : Int32))), .val (.ref b_1), .val (.int (6 : Int32)), .unset] [(.int ((p4 &&& (255 : Int32)).toUInt32.toUInt16.toUInt32.toInt32)), (.int (4 : Int32)), (.ref b_1)]) (fun _ k => XS.i2c X_354.here hx rfl (hb hby at_242) rfl k) ?_
        obtain ⟨cl_355, Ar_355, q_355, Sz_355, Ng_355, Hh_355, Gg_355⟩ := id V_354
        have hin_355 : ¬ ((4 : Int32) < 0 ∨ cl_355.slots.size ≤ ((4 : Int32)).toNatClampNeg) := inb_of Sz_355 ⟨by decide, by decide⟩
        obtain ⟨T_355, h_355, X_355, e_355, W_355, st_355⟩ := stC X_354 hx hZ e_354 Ar_355 (j := (4 : Int32)) hin_355 (g := (mkF m 243 #[.val (.int p1), .val (.int p2), .val (.int p3), .val (.int p4), .val (.int (p1 &&& (3 : Int32))), .val (.ref a5), .val (.int (((p1.toUInt32 >>> ((2 : Int32) &&& 31).toUInt32).toInt32) &&& (3 : Int32))), .val (.ref b_1), .val (.int (6 : Int32)), .unset] [(.int ((p4 &&& (255 : Int32)).toUInt32.toUInt16.toUInt32.toInt32)), (.int (4 : Int32)), (.ref b_1)])) rfl rfl (hb hby at_243)
        have N_355 := Fr.snoc X_355 N_354 g_b_1
        have V_355 : Arv Z h_355 b_1 k_1 .char (7 : Int32) [(.int (nar .char ((p3 &&& (255 : Int32)).toUInt32.toUInt16.toUInt32.toInt32))), (.int (nar .char ((((p3.toUInt32 >>> ((8 : Int32) &&& 31).toUInt32).toInt32) &&& (255 : Int32)).toUInt32.toUInt16.toUInt32.toInt32))), (.int (nar .char ((((p3.toUInt32 >>> ((16 : Int32) &&& 31).toUInt32).toInt32) &&& (255 : Int32)).toUInt32.toUInt16.toUInt32.toInt32))), (.int (nar .char ((((p3.toUInt32 >>> ((24 : Int32) &&& 31).toUInt32).toInt32) &&& (255 : Int32)).toUInt32.toUInt16.toUInt32.toInt32))), (.int (nar .char ((p4 &&& (255 : Int32)).toUInt32.toUInt16.toUInt32.toInt32))), (.int c5), (.int (nar .char ((p3 &&& (255 : Int32)).toUInt32.toUInt16.toUInt32.toInt32)))] (.int (0 : Int32)) := Arv.set Ar_355 q_355 Sz_355 Ng_355 Hh_355 Gg_355 (fits_nar_char _) W_355 4 rfl (Nat.le_of_ble_eq_true rfl)
        refine Go.to (mkF m 244 #[.val (.int p1), .val (.int p2), .val (.int p3), .val (.int p4), .val (.int (p1 &&& (3 : Int32))), .val (.ref a5), .val (.int (((p1.toUInt32 >>> ((2 : Int32) &&& 31).toUInt32).toInt32) &&& (3 : Int32))), .val (.ref b_1), .val (.int (6 : Int32)), .unset] []) st_355 ?_
        refine Go.to (mkF m 246 #[.val (.int p1), .val (.int p2), .val (.int p3), .val (.int p4), .val (.int (p1 &&& (3 : Int32))), .val (.ref a5), .val (.int (((p1.toUInt32 >>> ((2 : Int32) &&& 31).toUInt32).toInt32) &&& (3 : Int32))), .val (.ref b_1), .val (.int (6 : Int32)), .unset] [(.ref b_1)]) (fun _ k => XS.aload X_355.here hx rfl (hb hby at_244) rfl rfl k) ?_
        refine Go.to (mkF m 247 #[.val (.int p1), .val (.int p2), .val (.int p3), .val (.int p4), .val (.int (p1 &&& (3 : Int32))), .val (.ref a5), .val (.int (((p1.toUInt32 >>> ((2 : Int32) &&& 31).toUInt32).toInt32) &&& (3 : Int32))), .val (.ref b_1), .val (.int (6 : Int32)), .unset] [(.int (5 : Int32)), (.ref b_1)]) (fun _ k => XS.iconst X_355.here hx rfl (hb hby at_246) k) ?_
        refine Go.to (mkF m 248 #[.val (.int p1), .val (.int p2), .val (.int p3), .val (.int p4), .val (.int (p1 &&& (3 : Int32))), .val (.ref a5), .val (.int (((p1.toUInt32 >>> ((2 : Int32) &&& 31).toUInt32).toInt32) &&& (3 : Int32))), .val (.ref b_1), .val (.int (6 : Int32)), .unset] [(.int p4), (.int (5 : Int32)), (.ref b_1)]) (fun _ k => XS.iloadN X_355.here hx rfl (hb hby at_247) rfl  k) ?_
        refine Go.to (mkF m 250 #[.val (.int p1), .val (.int p2), .val (.int p3), .val (.int p4), .val (.int (p1 &&& (3 : Int32))), .val (.ref a5), .val (.int (((p1.toUInt32 >>> ((2 : Int32) &&& 31).toUInt32).toInt32) &&& (3 : Int32))), .val (.ref b_1), .val (.int (6 : Int32)), .unset] [(.int (8 : Int32)), (.int p4), (.int (5 : Int32)), (.ref b_1)]) (fun _ k => XS.bipush X_355.here hx rfl (hb hby at_248) k) ?_
        refine Go.to (mkF m 251 #[.val (.int p1), .val (.int p2), .val (.int p3), .val (.int p4), .val (.int (p1 &&& (3 : Int32))), .val (.ref a5), .val (.int (((p1.toUInt32 >>> ((2 : Int32) &&& 31).toUInt32).toInt32) &&& (3 : Int32))), .val (.ref b_1), .val (.int (6 : Int32)), .unset] [(.int ((p4.toUInt32 >>> ((8 : Int32) &&& 31).toUInt32).toInt32)), (.int (5 : Int32)), (.ref b_1)]) (fun _ k => XS.iushr X_355.here hx rfl (hb hby at_250) rfl k) ?_
        refine Go.to (mkF m 254 #[.val (.int p1), .val (.int p2), .val (.int p3), .val (.int p4), .val (.int (p1 &&& (3 : Int32))), .val (.ref a5), .val (.int (((p1.toUInt32 >>> ((2 : Int32) &&& 31).toUInt32).toInt32) &&& (3 : Int32))), .val (.ref b_1), .val (.int (6 : Int32)), .unset] [(.int (255 : Int32)), (.int ((p4.toUInt32 >>> ((8 : Int32) &&& 31).toUInt32).toInt32)), (.int (5 : Int32)), (.ref b_1)]) (fun _ k => XS.sipush X_355.here hx rfl (hb hby at_251) k) ?_
        refine Go.to (mkF m 255 #[.val (.int p1), .val (.int p2), .val (.int p3), .val (.int p4), .val (.int (p1 &&& (3 : Int32))), .val (.ref a5), .val (.int (((p1.toUInt32 >>> ((2 : Int32) &&& 31).toUInt32).toInt32) &&& (3 : Int32))), .val (.ref b_1), .val (.int (6 : Int32)), .unset] [(.int (((p4.toUInt32 >>> ((8 : Int32) &&& 31).toUInt32).toInt32) &&& (255 : Int32))), (.int (5 : Int32)), (.ref b_1)]) (fun _ k => XS.iand X_355.here hx rfl (hb hby at_254) rfl k) ?_
        refine Go.to (mkF m 256 #[.val (.int p1), .val (.int p2), .val (.int p3), .val (.int p4), .val (.int (p1 &&& (3 : Int32))), .val (.ref a5), .val (.int (((p1.toUInt32 >>> ((2 : Int32) &&& 31).toUInt32).toInt32) &&& (3 : Int32))), .val (.ref b_1), .val (.int (6 : Int32)), .unset] [(.int ((((p4.toUInt32 >>> ((8 : Int32) &&& 31).toUInt32).toInt32) &&& (255 : Int32)).toUInt32.toUInt16.toUInt32.toInt32)), (.int (5 : Int32)), (.ref b_1)]) (fun _ k => XS.i2c X_355.here hx rfl (hb hby at_255) rfl k) ?_
        obtain ⟨cl_356, Ar_356, q_356, Sz_356, Ng_356, Hh_356, Gg_356⟩ := id V_355
        have hin_356 : ¬ ((5 : Int32) < 0 ∨ cl_356.slots.size ≤ ((5 : Int32)).toNatClampNeg) := inb_of Sz_356 ⟨by decide, by decide⟩
        obtain ⟨T_356, h_356, X_356, e_356, W_356, st_356⟩ := stC X_355 hx hZ e_355 Ar_356 (j := (5 : Int32)) hin_356 (g := (mkF m 256 #[.val (.int p1), .val (.int p2), .val (.int p3), .val (.int p4), .val (.int (p1 &&& (3 : Int32))), .val (.ref a5), .val (.int (((p1.toUInt32 >>> ((2 : Int32) &&& 31).toUInt32).toInt32) &&& (3 : Int32))), .val (.ref b_1), .val (.int (6 : Int32)), .unset] [(.int ((((p4.toUInt32 >>> ((8 : Int32) &&& 31).toUInt32).toInt32) &&& (255 : Int32)).toUInt32.toUInt16.toUInt32.toInt32)), (.int (5 : Int32)), (.ref b_1)])) rfl rfl (hb hby at_256)
        have N_356 := Fr.snoc X_356 N_355 g_b_1
        have V_356 : Arv Z h_356 b_1 k_1 .char (7 : Int32) [(.int (nar .char ((p3 &&& (255 : Int32)).toUInt32.toUInt16.toUInt32.toInt32))), (.int (nar .char ((((p3.toUInt32 >>> ((8 : Int32) &&& 31).toUInt32).toInt32) &&& (255 : Int32)).toUInt32.toUInt16.toUInt32.toInt32))), (.int (nar .char ((((p3.toUInt32 >>> ((16 : Int32) &&& 31).toUInt32).toInt32) &&& (255 : Int32)).toUInt32.toUInt16.toUInt32.toInt32))), (.int (nar .char ((((p3.toUInt32 >>> ((24 : Int32) &&& 31).toUInt32).toInt32) &&& (255 : Int32)).toUInt32.toUInt16.toUInt32.toInt32))), (.int (nar .char ((p4 &&& (255 : Int32)).toUInt32.toUInt16.toUInt32.toInt32))), (.int (nar .char ((((p4.toUInt32 >>> ((8 : Int32) &&& 31).toUInt32).toInt32) &&& (255 : Int32)).toUInt32.toUInt16.toUInt32.toInt32))), (.int (nar .char ((p3 &&& (255 : Int32)).toUInt32.toUInt16.toUInt32.toInt32)))] (.int (0 : Int32)) := Arv.set Ar_356 q_356 Sz_356 Ng_356 Hh_356 Gg_356 (fits_nar_char _) W_356 5 rfl (Nat.le_of_ble_eq_true rfl)
        refine Go.to (mkF m 257 #[.val (.int p1), .val (.int p2), .val (.int p3), .val (.int p4), .val (.int (p1 &&& (3 : Int32))), .val (.ref a5), .val (.int (((p1.toUInt32 >>> ((2 : Int32) &&& 31).toUInt32).toInt32) &&& (3 : Int32))), .val (.ref b_1), .val (.int (6 : Int32)), .unset] []) st_356 ?_
        refine Go.to (mkF m 259 #[.val (.int p1), .val (.int p2), .val (.int p3), .val (.int p4), .val (.int (p1 &&& (3 : Int32))), .val (.ref a5), .val (.int (((p1.toUInt32 >>> ((2 : Int32) &&& 31).toUInt32).toInt32) &&& (3 : Int32))), .val (.ref b_1), .val (.int (6 : Int32)), .unset] [(.ref b_1)]) (fun _ k => XS.aload X_356.here hx rfl (hb hby at_257) rfl rfl k) ?_
        refine Go.to (mkF m 261 #[.val (.int p1), .val (.int p2), .val (.int p3), .val (.int p4), .val (.int (p1 &&& (3 : Int32))), .val (.ref a5), .val (.int (((p1.toUInt32 >>> ((2 : Int32) &&& 31).toUInt32).toInt32) &&& (3 : Int32))), .val (.ref b_1), .val (.int (6 : Int32)), .unset] [(.int (6 : Int32)), (.ref b_1)]) (fun _ k => XS.bipush X_356.here hx rfl (hb hby at_259) k) ?_
        refine Go.to (mkF m 262 #[.val (.int p1), .val (.int p2), .val (.int p3), .val (.int p4), .val (.int (p1 &&& (3 : Int32))), .val (.ref a5), .val (.int (((p1.toUInt32 >>> ((2 : Int32) &&& 31).toUInt32).toInt32) &&& (3 : Int32))), .val (.ref b_1), .val (.int (6 : Int32)), .unset] [(.int p4), (.int (6 : Int32)), (.ref b_1)]) (fun _ k => XS.iloadN X_356.here hx rfl (hb hby at_261) rfl  k) ?_
        refine Go.to (mkF m 264 #[.val (.int p1), .val (.int p2), .val (.int p3), .val (.int p4), .val (.int (p1 &&& (3 : Int32))), .val (.ref a5), .val (.int (((p1.toUInt32 >>> ((2 : Int32) &&& 31).toUInt32).toInt32) &&& (3 : Int32))), .val (.ref b_1), .val (.int (6 : Int32)), .unset] [(.int (16 : Int32)), (.int p4), (.int (6 : Int32)), (.ref b_1)]) (fun _ k => XS.bipush X_356.here hx rfl (hb hby at_262) k) ?_
        refine Go.to (mkF m 265 #[.val (.int p1), .val (.int p2), .val (.int p3), .val (.int p4), .val (.int (p1 &&& (3 : Int32))), .val (.ref a5), .val (.int (((p1.toUInt32 >>> ((2 : Int32) &&& 31).toUInt32).toInt32) &&& (3 : Int32))), .val (.ref b_1), .val (.int (6 : Int32)), .unset] [(.int ((p4.toUInt32 >>> ((16 : Int32) &&& 31).toUInt32).toInt32)), (.int (6 : Int32)), (.ref b_1)]) (fun _ k => XS.iushr X_356.here hx rfl (hb hby at_264) rfl k) ?_
        refine Go.to (mkF m 268 #[.val (.int p1), .val (.int p2), .val (.int p3), .val (.int p4), .val (.int (p1 &&& (3 : Int32))), .val (.ref a5), .val (.int (((p1.toUInt32 >>> ((2 : Int32) &&& 31).toUInt32).toInt32) &&& (3 : Int32))), .val (.ref b_1), .val (.int (6 : Int32)), .unset] [(.int (255 : Int32)), (.int ((p4.toUInt32 >>> ((16 : Int32) &&& 31).toUInt32).toInt32)), (.int (6 : Int32)), (.ref b_1)]) (fun _ k => XS.sipush X_356.here hx rfl (hb hby at_265) k) ?_
        refine Go.to (mkF m 269 #[.val (.int p1), .val (.int p2), .val (.int p3), .val (.int p4), .val (.int (p1 &&& (3 : Int32))), .val (.ref a5), .val (.int (((p1.toUInt32 >>> ((2 : Int32) &&& 31).toUInt32).toInt32) &&& (3 : Int32))), .val (.ref b_1), .val (.int (6 : Int32)), .unset] [(.int (((p4.toUInt32 >>> ((16 : Int32) &&& 31).toUInt32).toInt32) &&& (255 : Int32))), (.int (6 : Int32)), (.ref b_1)]) (fun _ k => XS.iand X_356.here hx rfl (hb hby at_268) rfl k) ?_
        refine Go.to (mkF m 270 #[.val (.int p1), .val (.int p2), .val (.int p3), .val (.int p4), .val (.int (p1 &&& (3 : Int32))), .val (.ref a5), .val (.int (((p1.toUInt32 >>> ((2 : Int32) &&& 31).toUInt32).toInt32) &&& (3 : Int32))), .val (.ref b_1), .val (.int (6 : Int32)), .unset] [(.int ((((p4.toUInt32 >>> ((16 : Int32) &&& 31).toUInt32).toInt32) &&& (255 : Int32)).toUInt32.toUInt16.toUInt32.toInt32)), (.int (6 : Int32)), (.ref b_1)]) (fun _ k => XS.i2c X_356.here hx rfl (hb hby at_269) rfl k) ?_
        obtain ⟨cl_357, Ar_357, q_357, Sz_357, Ng_357, Hh_357, Gg_357⟩ := id V_356
        have hin_357 : ¬ ((6 : Int32) < 0 ∨ cl_357.slots.size ≤ ((6 : Int32)).toNatClampNeg) := inb_of Sz_357 ⟨by decide, by decide⟩
        obtain ⟨T_357, h_357, X_357, e_357, W_357, st_357⟩ := stC X_356 hx hZ e_356 Ar_357 (j := (6 : Int32)) hin_357 (g := (mkF m 270 #[.val (.int p1), .val (.int p2), .val (.int p3), .val (.int p4), .val (.int (p1 &&& (3 : Int32))), .val (.ref a5), .val (.int (((p1.toUInt32 >>> ((2 : Int32) &&& 31).toUInt32).toInt32) &&& (3 : Int32))), .val (.ref b_1), .val (.int (6 : Int32)), .unset] [(.int ((((p4.toUInt32 >>> ((16 : Int32) &&& 31).toUInt32).toInt32) &&& (255 : Int32)).toUInt32.toUInt16.toUInt32.toInt32)), (.int (6 : Int32)), (.ref b_1)])) rfl rfl (hb hby at_270)
        have N_357 := Fr.snoc X_357 N_356 g_b_1
        have V_357 : Arv Z h_357 b_1 k_1 .char (7 : Int32) [(.int (nar .char ((p3 &&& (255 : Int32)).toUInt32.toUInt16.toUInt32.toInt32))), (.int (nar .char ((((p3.toUInt32 >>> ((8 : Int32) &&& 31).toUInt32).toInt32) &&& (255 : Int32)).toUInt32.toUInt16.toUInt32.toInt32))), (.int (nar .char ((((p3.toUInt32 >>> ((16 : Int32) &&& 31).toUInt32).toInt32) &&& (255 : Int32)).toUInt32.toUInt16.toUInt32.toInt32))), (.int (nar .char ((((p3.toUInt32 >>> ((24 : Int32) &&& 31).toUInt32).toInt32) &&& (255 : Int32)).toUInt32.toUInt16.toUInt32.toInt32))), (.int (nar .char ((p4 &&& (255 : Int32)).toUInt32.toUInt16.toUInt32.toInt32))), (.int (nar .char ((((p4.toUInt32 >>> ((8 : Int32) &&& 31).toUInt32).toInt32) &&& (255 : Int32)).toUInt32.toUInt16.toUInt32.toInt32))), (.int (nar .char ((((p4.toUInt32 >>> ((16 : Int32) &&& 31).toUInt32).toInt32) &&& (255 : Int32)).toUInt32.toUInt16.toUInt32.toInt32)))] (.int (0 : Int32)) := Arv.set Ar_357 q_357 Sz_357 Ng_357 Hh_357 Gg_357 (fits_nar_char _) W_357 6 rfl (Nat.le_of_ble_eq_true rfl)
        refine Go.to (mkF m 271 #[.val (.int p1), .val (.int p2), .val (.int p3), .val (.int p4), .val (.int (p1 &&& (3 : Int32))), .val (.ref a5), .val (.int (((p1.toUInt32 >>> ((2 : Int32) &&& 31).toUInt32).toInt32) &&& (3 : Int32))), .val (.ref b_1), .val (.int (6 : Int32)), .unset] []) st_357 ?_
        refine Go.to (mkF m 272 #[.val (.int p1), .val (.int p2), .val (.int p3), .val (.int p4), .val (.int (p1 &&& (3 : Int32))), .val (.ref a5), .val (.int (((p1.toUInt32 >>> ((2 : Int32) &&& 31).toUInt32).toInt32) &&& (3 : Int32))), .val (.ref b_1), .val (.int (6 : Int32)), .unset] [(.int p2)]) (fun _ k => XS.iloadN X_357.here hx rfl (hb hby at_271) rfl  k) ?_
        refine Go.to (mkF m 274 #[.val (.int p1), .val (.int p2), .val (.int p3), .val (.int p4), .val (.int (p1 &&& (3 : Int32))), .val (.ref a5), .val (.int (((p1.toUInt32 >>> ((2 : Int32) &&& 31).toUInt32).toInt32) &&& (3 : Int32))), .val (.ref b_1), .val (.int (6 : Int32)), .unset] [(.int (7 : Int32)), (.int p2)]) (fun _ k => XS.bipush X_357.here hx rfl (hb hby at_272) k) ?_
        refine Go.to (mkF m 275 #[.val (.int p1), .val (.int p2), .val (.int p3), .val (.int p4), .val (.int (p1 &&& (3 : Int32))), .val (.ref a5), .val (.int (((p1.toUInt32 >>> ((2 : Int32) &&& 31).toUInt32).toInt32) &&& (3 : Int32))), .val (.ref b_1), .val (.int (6 : Int32)), .unset] [(.int (p2 &&& (7 : Int32)))]) (fun _ k => XS.iand X_357.here hx rfl (hb hby at_274) rfl k) ?_
        refine Go.to (mkF m 277 #[.val (.int p1), .val (.int p2), .val (.int p3), .val (.int p4), .val (.int (p1 &&& (3 : Int32))), .val (.ref a5), .val (.int (((p1.toUInt32 >>> ((2 : Int32) &&& 31).toUInt32).toInt32) &&& (3 : Int32))), .val (.ref b_1), .val (.int (p2 &&& (7 : Int32))), .unset] []) (fun _ k => XS.istore X_357.here hx rfl (hb hby at_275) rfl (l' := #[.val (.int p1), .val (.int p2), .val (.int p3), .val (.int p4), .val (.int (p1 &&& (3 : Int32))), .val (.ref a5), .val (.int (((p1.toUInt32 >>> ((2 : Int32) &&& 31).toUInt32).toInt32) &&& (3 : Int32))), .val (.ref b_1), .val (.int (p2 &&& (7 : Int32))), .unset]) rfl k) ?_
        refine Go.to (mkF m 322 #[.val (.int p1), .val (.int p2), .val (.int p3), .val (.int p4), .val (.int (p1 &&& (3 : Int32))), .val (.ref a5), .val (.int (((p1.toUInt32 >>> ((2 : Int32) &&& 31).toUInt32).toInt32) &&& (3 : Int32))), .val (.ref b_1), .val (.int (p2 &&& (7 : Int32))), .unset] []) (fun _ k => XS.goto X_357.here hx rfl (pc0 := 277) (pc' := 322) rfl (hb hby at_277) (by decide) (by decide) k) ?_
        have f_358 : Sta Z h_357 "java/lang/String" "COMPACT_STRINGS" "Z" (.int z) := (((((((((f_51.wr W_55).wr W_56).wr W_351).wr W_352).wr W_353).wr W_354).wr W_355).wr W_356).wr W_357)
        have f_359 : Sta Z h_357 "jdk/internal/util/Preconditions" "SIOOBE_FORMATTER" "Ljava/util/function/BiFunction;" fm := (((((((((f_52.wr W_55).wr W_56).wr W_351).wr W_352).wr W_353).wr W_354).wr W_355).wr W_356).wr W_357)
        have f_360 : Sta Z h_357 "com/example/statementbound/statementbound/statements/internal/Statement$Kind" "$VALUES" "[Lcom/example/statementbound/statementbound/statements/internal/Statement$Kind;" (.ref av) := (((((((((((((((PS_com_example_statementbound_statementbound_statements_internal_Statement_Kind__VALUES.ext E_1).wr W_10).wr W_19).wr W_28).wr W_37).wr W_46).wr W_55).wr W_56).wr W_351).wr W_352).wr W_353).wr W_354).wr W_355).wr W_356).wr W_357)
        have f_361 : Exa Z h_357 av "[Lcom/example/statementbound/statementbound/statements/internal/Statement$Kind;" := (((((((((((((((PE_av.ext E_1).wr W_10).wr W_19).wr W_28).wr W_37).wr W_46).wr W_55).wr W_56).wr W_351).wr W_352).wr W_353).wr W_354).wr W_355).wr W_356).wr W_357)
        have f_362 : Arv Z h_357 av kv (.object "com/example/statementbound/statementbound/statements/internal/Statement$Kind") (4 : Int32) [(.ref v0), (.ref v1), (.ref v2), (.ref v3)] .null := (((((((((((((((PA_av.ext E_1).other W_10 ne_av_b_1).other W_19 ne_av_b_1).other W_28 ne_av_b_1).other W_37 ne_av_b_1).other W_46 ne_av_b_1).other W_55 ne_av_b_1).other W_56 ne_av_b_1).other W_351 ne_av_b_1).other W_352 ne_av_b_1).other W_353 ne_av_b_1).other W_354 ne_av_b_1).other W_355 ne_av_b_1).other W_356 ne_av_b_1).other W_357 ne_av_b_1)
        have f_363 : Fld Z h_357 v0 "com/example/statementbound/statementbound/statements/internal/Statement$Kind" "element" "Ljava/lang/String;" (.ref x0) := (((((((((((((((PF_v0_element.ext E_1).other W_10 (Or.inl ne_v0_b_1)).other W_19 (Or.inl ne_v0_b_1)).other W_28 (Or.inl ne_v0_b_1)).other W_37 (Or.inl ne_v0_b_1)).other W_46 (Or.inl ne_v0_b_1)).other W_55 (Or.inl ne_v0_b_1)).other W_56 (Or.inl ne_v0_b_1)).other W_351 (Or.inl ne_v0_b_1)).other W_352 (Or.inl ne_v0_b_1)).other W_353 (Or.inl ne_v0_b_1)).other W_354 (Or.inl ne_v0_b_1)).other W_355 (Or.inl ne_v0_b_1)).other W_356 (Or.inl ne_v0_b_1)).other W_357 (Or.inl ne_v0_b_1))
        have f_364 : Exa Z h_357 x0 "java/lang/String" := (((((((((((((((PE_x0.ext E_1).wr W_10).wr W_19).wr W_28).wr W_37).wr W_46).wr W_55).wr W_56).wr W_351).wr W_352).wr W_353).wr W_354).wr W_355).wr W_356).wr W_357)
        have f_365 : Fld Z h_357 x0 "java/lang/String" "value" "[B" (.ref t0) := (((((((((((((((PF_x0_value.ext E_1).other W_10 (Or.inl ne_x0_b_1)).other W_19 (Or.inl ne_x0_b_1)).other W_28 (Or.inl ne_x0_b_1)).other W_37 (Or.inl ne_x0_b_1)).other W_46 (Or.inl ne_x0_b_1)).other W_55 (Or.inl ne_x0_b_1)).other W_56 (Or.inl ne_x0_b_1)).other W_351 (Or.inl ne_x0_b_1)).other W_352 (Or.inl ne_x0_b_1)).other W_353 (Or.inl ne_x0_b_1)).other W_354 (Or.inl ne_x0_b_1)).other W_355 (Or.inl ne_x0_b_1)).other W_356 (Or.inl ne_x0_b_1)).other W_357 (Or.inl ne_x0_b_1))
        have f_366 : Fld Z h_357 x0 "java/lang/String" "coder" "B" (.int (0 : Int32)) := (((((((((((((((PF_x0_coder.ext E_1).other W_10 (Or.inl ne_x0_b_1)).other W_19 (Or.inl ne_x0_b_1)).other W_28 (Or.inl ne_x0_b_1)).other W_37 (Or.inl ne_x0_b_1)).other W_46 (Or.inl ne_x0_b_1)).other W_55 (Or.inl ne_x0_b_1)).other W_56 (Or.inl ne_x0_b_1)).other W_351 (Or.inl ne_x0_b_1)).other W_352 (Or.inl ne_x0_b_1)).other W_353 (Or.inl ne_x0_b_1)).other W_354 (Or.inl ne_x0_b_1)).other W_355 (Or.inl ne_x0_b_1)).other W_356 (Or.inl ne_x0_b_1)).other W_357 (Or.inl ne_x0_b_1))
        have f_367 : Arv Z h_357 t0 kt0 .byte (6 : Int32) (own_str own_t0) (.int (0 : Int32)) := (((((((((((((((PA_t0.ext E_1).other W_10 ne_t0_b_1).other W_19 ne_t0_b_1).other W_28 ne_t0_b_1).other W_37 ne_t0_b_1).other W_46 ne_t0_b_1).other W_55 ne_t0_b_1).other W_56 ne_t0_b_1).other W_351 ne_t0_b_1).other W_352 ne_t0_b_1).other W_353 ne_t0_b_1).other W_354 ne_t0_b_1).other W_355 ne_t0_b_1).other W_356 ne_t0_b_1).other W_357 ne_t0_b_1)
        have f_368 : Fld Z h_357 v1 "com/example/statementbound/statementbound/statements/internal/Statement$Kind" "element" "Ljava/lang/String;" (.ref x1) := (((((((((((((((PF_v1_element.ext E_1).other W_10 (Or.inl ne_v1_b_1)).other W_19 (Or.inl ne_v1_b_1)).other W_28 (Or.inl ne_v1_b_1)).other W_37 (Or.inl ne_v1_b_1)).other W_46 (Or.inl ne_v1_b_1)).other W_55 (Or.inl ne_v1_b_1)).other W_56 (Or.inl ne_v1_b_1)).other W_351 (Or.inl ne_v1_b_1)).other W_352 (Or.inl ne_v1_b_1)).other W_353 (Or.inl ne_v1_b_1)).other W_354 (Or.inl ne_v1_b_1)).other W_355 (Or.inl ne_v1_b_1)).other W_356 (Or.inl ne_v1_b_1)).other W_357 (Or.inl ne_v1_b_1))
        have f_369 : Exa Z h_357 x1 "java/lang/String" := (((((((((((((((PE_x1.ext E_1).wr W_10).wr W_19).wr W_28).wr W_37).wr W_46).wr W_55).wr W_56).wr W_351).wr W_352).wr W_353).wr W_354).wr W_355).wr W_356).wr W_357)
        have f_370 : Fld Z h_357 x1 "java/lang/String" "value" "[B" (.ref t1) := (((((((((((((((PF_x1_value.ext E_1).other W_10 (Or.inl ne_x1_b_1)).other W_19 (Or.inl ne_x1_b_1)).other W_28 (Or.inl ne_x1_b_1)).other W_37 (Or.inl ne_x1_b_1)).other W_46 (Or.inl ne_x1_b_1)).other W_55 (Or.inl ne_x1_b_1)).other W_56 (Or.inl ne_x1_b_1)).other W_351 (Or.inl ne_x1_b_1)).other W_352 (Or.inl ne_x1_b_1)).other W_353 (Or.inl ne_x1_b_1)).other W_354 (Or.inl ne_x1_b_1)).other W_355 (Or.inl ne_x1_b_1)).other W_356 (Or.inl ne_x1_b_1)).other W_357 (Or.inl ne_x1_b_1))
        have f_371 : Fld Z h_357 x1 "java/lang/String" "coder" "B" (.int (0 : Int32)) := (((((((((((((((PF_x1_coder.ext E_1).other W_10 (Or.inl ne_x1_b_1)).other W_19 (Or.inl ne_x1_b_1)).other W_28 (Or.inl ne_x1_b_1)).other W_37 (Or.inl ne_x1_b_1)).other W_46 (Or.inl ne_x1_b_1)).other W_55 (Or.inl ne_x1_b_1)).other W_56 (Or.inl ne_x1_b_1)).other W_351 (Or.inl ne_x1_b_1)).other W_352 (Or.inl ne_x1_b_1)).other W_353 (Or.inl ne_x1_b_1)).other W_354 (Or.inl ne_x1_b_1)).other W_355 (Or.inl ne_x1_b_1)).other W_356 (Or.inl ne_x1_b_1)).other W_357 (Or.inl ne_x1_b_1))
        have f_372 : Arv Z h_357 t1 kt1 .byte (6 : Int32) (own_str own_t1) (.int (0 : Int32)) := (((((((((((((((PA_t1.ext E_1).other W_10 ne_t1_b_1).other W_19 ne_t1_b_1).other W_28 ne_t1_b_1).other W_37 ne_t1_b_1).other W_46 ne_t1_b_1).other W_55 ne_t1_b_1).other W_56 ne_t1_b_1).other W_351 ne_t1_b_1).other W_352 ne_t1_b_1).other W_353 ne_t1_b_1).other W_354 ne_t1_b_1).other W_355 ne_t1_b_1).other W_356 ne_t1_b_1).other W_357 ne_t1_b_1)
        have f_373 : Fld Z h_357 v2 "com/example/statementbound/statementbound/statements/internal/Statement$Kind" "element" "Ljava/lang/String;" (.ref x2) := (((((((((((((((PF_v2_element.ext E_1).other W_10 (Or.inl ne_v2_b_1)).other W_19 (Or.inl ne_v2_b_1)).other W_28 (Or.inl ne_v2_b_1)).other W_37 (Or.inl ne_v2_b_1)).other W_46 (Or.inl ne_v2_b_1)).other W_55 (Or.inl ne_v2_b_1)).other W_56 (Or.inl ne_v2_b_1)).other W_351 (Or.inl ne_v2_b_1)).other W_352 (Or.inl ne_v2_b_1)).other W_353 (Or.inl ne_v2_b_1)).other W_354 (Or.inl ne_v2_b_1)).other W_355 (Or.inl ne_v2_b_1)).other W_356 (Or.inl ne_v2_b_1)).other W_357 (Or.inl ne_v2_b_1))
        have f_374 : Exa Z h_357 x2 "java/lang/String" := (((((((((((((((PE_x2.ext E_1).wr W_10).wr W_19).wr W_28).wr W_37).wr W_46).wr W_55).wr W_56).wr W_351).wr W_352).wr W_353).wr W_354).wr W_355).wr W_356).wr W_357)
        have f_375 : Fld Z h_357 x2 "java/lang/String" "value" "[B" (.ref t2) := (((((((((((((((PF_x2_value.ext E_1).other W_10 (Or.inl ne_x2_b_1)).other W_19 (Or.inl ne_x2_b_1)).other W_28 (Or.inl ne_x2_b_1)).other W_37 (Or.inl ne_x2_b_1)).other W_46 (Or.inl ne_x2_b_1)).other W_55 (Or.inl ne_x2_b_1)).other W_56 (Or.inl ne_x2_b_1)).other W_351 (Or.inl ne_x2_b_1)).other W_352 (Or.inl ne_x2_b_1)).other W_353 (Or.inl ne_x2_b_1)).other W_354 (Or.inl ne_x2_b_1)).other W_355 (Or.inl ne_x2_b_1)).other W_356 (Or.inl ne_x2_b_1)).other W_357 (Or.inl ne_x2_b_1))
        have f_376 : Fld Z h_357 x2 "java/lang/String" "coder" "B" (.int (0 : Int32)) := (((((((((((((((PF_x2_coder.ext E_1).other W_10 (Or.inl ne_x2_b_1)).other W_19 (Or.inl ne_x2_b_1)).other W_28 (Or.inl ne_x2_b_1)).other W_37 (Or.inl ne_x2_b_1)).other W_46 (Or.inl ne_x2_b_1)).other W_55 (Or.inl ne_x2_b_1)).other W_56 (Or.inl ne_x2_b_1)).other W_351 (Or.inl ne_x2_b_1)).other W_352 (Or.inl ne_x2_b_1)).other W_353 (Or.inl ne_x2_b_1)).other W_354 (Or.inl ne_x2_b_1)).other W_355 (Or.inl ne_x2_b_1)).other W_356 (Or.inl ne_x2_b_1)).other W_357 (Or.inl ne_x2_b_1))
        have f_377 : Arv Z h_357 t2 kt2 .byte (6 : Int32) (own_str own_t2) (.int (0 : Int32)) := (((((((((((((((PA_t2.ext E_1).other W_10 ne_t2_b_1).other W_19 ne_t2_b_1).other W_28 ne_t2_b_1).other W_37 ne_t2_b_1).other W_46 ne_t2_b_1).other W_55 ne_t2_b_1).other W_56 ne_t2_b_1).other W_351 ne_t2_b_1).other W_352 ne_t2_b_1).other W_353 ne_t2_b_1).other W_354 ne_t2_b_1).other W_355 ne_t2_b_1).other W_356 ne_t2_b_1).other W_357 ne_t2_b_1)
        have f_378 : Fld Z h_357 v3 "com/example/statementbound/statementbound/statements/internal/Statement$Kind" "element" "Ljava/lang/String;" (.ref x3) := (((((((((((((((PF_v3_element.ext E_1).other W_10 (Or.inl ne_v3_b_1)).other W_19 (Or.inl ne_v3_b_1)).other W_28 (Or.inl ne_v3_b_1)).other W_37 (Or.inl ne_v3_b_1)).other W_46 (Or.inl ne_v3_b_1)).other W_55 (Or.inl ne_v3_b_1)).other W_56 (Or.inl ne_v3_b_1)).other W_351 (Or.inl ne_v3_b_1)).other W_352 (Or.inl ne_v3_b_1)).other W_353 (Or.inl ne_v3_b_1)).other W_354 (Or.inl ne_v3_b_1)).other W_355 (Or.inl ne_v3_b_1)).other W_356 (Or.inl ne_v3_b_1)).other W_357 (Or.inl ne_v3_b_1))
        have f_379 : Exa Z h_357 x3 "java/lang/String" := (((((((((((((((PE_x3.ext E_1).wr W_10).wr W_19).wr W_28).wr W_37).wr W_46).wr W_55).wr W_56).wr W_351).wr W_352).wr W_353).wr W_354).wr W_355).wr W_356).wr W_357)
        have f_380 : Fld Z h_357 x3 "java/lang/String" "value" "[B" (.ref t3) := (((((((((((((((PF_x3_value.ext E_1).other W_10 (Or.inl ne_x3_b_1)).other W_19 (Or.inl ne_x3_b_1)).other W_28 (Or.inl ne_x3_b_1)).other W_37 (Or.inl ne_x3_b_1)).other W_46 (Or.inl ne_x3_b_1)).other W_55 (Or.inl ne_x3_b_1)).other W_56 (Or.inl ne_x3_b_1)).other W_351 (Or.inl ne_x3_b_1)).other W_352 (Or.inl ne_x3_b_1)).other W_353 (Or.inl ne_x3_b_1)).other W_354 (Or.inl ne_x3_b_1)).other W_355 (Or.inl ne_x3_b_1)).other W_356 (Or.inl ne_x3_b_1)).other W_357 (Or.inl ne_x3_b_1))
        have f_381 : Fld Z h_357 x3 "java/lang/String" "coder" "B" (.int (0 : Int32)) := (((((((((((((((PF_x3_coder.ext E_1).other W_10 (Or.inl ne_x3_b_1)).other W_19 (Or.inl ne_x3_b_1)).other W_28 (Or.inl ne_x3_b_1)).other W_37 (Or.inl ne_x3_b_1)).other W_46 (Or.inl ne_x3_b_1)).other W_55 (Or.inl ne_x3_b_1)).other W_56 (Or.inl ne_x3_b_1)).other W_351 (Or.inl ne_x3_b_1)).other W_352 (Or.inl ne_x3_b_1)).other W_353 (Or.inl ne_x3_b_1)).other W_354 (Or.inl ne_x3_b_1)).other W_355 (Or.inl ne_x3_b_1)).other W_356 (Or.inl ne_x3_b_1)).other W_357 (Or.inl ne_x3_b_1))
        have f_382 : Arv Z h_357 t3 kt3 .byte (6 : Int32) (own_str own_t3) (.int (0 : Int32)) := (((((((((((((((PA_t3.ext E_1).other W_10 ne_t3_b_1).other W_19 ne_t3_b_1).other W_28 ne_t3_b_1).other W_37 ne_t3_b_1).other W_46 ne_t3_b_1).other W_55 ne_t3_b_1).other W_56 ne_t3_b_1).other W_351 ne_t3_b_1).other W_352 ne_t3_b_1).other W_353 ne_t3_b_1).other W_354 ne_t3_b_1).other W_355 ne_t3_b_1).other W_356 ne_t3_b_1).other W_357 ne_t3_b_1)
        have f_383 : Sta Z h_357 "com/example/statementbound/statementbound/statements/internal/Statement$Kind" "SELECT" "Lcom/example/statementbound/statementbound/statements/internal/Statement$Kind;" (.ref v0) := (((((((((((((((PS_com_example_statementbound_statementbound_statements_internal_Statement_Kind_SELECT.ext E_1).wr W_10).wr W_19).wr W_28).wr W_37).wr W_46).wr W_55).wr W_56).wr W_351).wr W_352).wr W_353).wr W_354).wr W_355).wr W_356).wr W_357)
        have f_384 : Sta Z h_357 "com/example/statementbound/statementbound/statements/internal/Statement$Kind" "INSERT" "Lcom/example/statementbound/statementbound/statements/internal/Statement$Kind;" (.ref v1) := (((((((((((((((PS_com_example_statementbound_statementbound_statements_internal_Statement_Kind_INSERT.ext E_1).wr W_10).wr W_19).wr W_28).wr W_37).wr W_46).wr W_55).wr W_56).wr W_351).wr W_352).wr W_353).wr W_354).wr W_355).wr W_356).wr W_357)
        have f_385 : Sta Z h_357 "com/example/statementbound/statementbound/statements/internal/Statement$Kind" "UPDATE" "Lcom/example/statementbound/statementbound/statements/internal/Statement$Kind;" (.ref v2) := (((((((((((((((PS_com_example_statementbound_statementbound_statements_internal_Statement_Kind_UPDATE.ext E_1).wr W_10).wr W_19).wr W_28).wr W_37).wr W_46).wr W_55).wr W_56).wr W_351).wr W_352).wr W_353).wr W_354).wr W_355).wr W_356).wr W_357)
        have f_386 : Sta Z h_357 "com/example/statementbound/statementbound/statements/internal/Statement$Kind" "DELETE" "Lcom/example/statementbound/statementbound/statements/internal/Statement$Kind;" (.ref v3) := (((((((((((((((PS_com_example_statementbound_statementbound_statements_internal_Statement_Kind_DELETE.ext E_1).wr W_10).wr W_19).wr W_28).wr W_37).wr W_46).wr W_55).wr W_56).wr W_351).wr W_352).wr W_353).wr W_354).wr W_355).wr W_356).wr W_357)
        have f_387 : Exa Z h_357 a5 "java/lang/String" := (((((((((f_47.wr W_55).wr W_56).wr W_351).wr W_352).wr W_353).wr W_354).wr W_355).wr W_356).wr W_357)
        have f_388 : Fld Z h_357 a5 "java/lang/String" "value" "[B" (.ref t5) := (((((((((f_48.other W_55 (Or.inl ne_a5_b_1)).other W_56 (Or.inl ne_a5_b_1)).other W_351 (Or.inl ne_a5_b_1)).other W_352 (Or.inl ne_a5_b_1)).other W_353 (Or.inl ne_a5_b_1)).other W_354 (Or.inl ne_a5_b_1)).other W_355 (Or.inl ne_a5_b_1)).other W_356 (Or.inl ne_a5_b_1)).other W_357 (Or.inl ne_a5_b_1))
        have f_389 : Fld Z h_357 a5 "java/lang/String" "coder" "B" (.int (0 : Int32)) := (((((((((f_49.other W_55 (Or.inl ne_a5_b_1)).other W_56 (Or.inl ne_a5_b_1)).other W_351 (Or.inl ne_a5_b_1)).other W_352 (Or.inl ne_a5_b_1)).other W_353 (Or.inl ne_a5_b_1)).other W_354 (Or.inl ne_a5_b_1)).other W_355 (Or.inl ne_a5_b_1)).other W_356 (Or.inl ne_a5_b_1)).other W_357 (Or.inl ne_a5_b_1))
        have f_390 : Arv Z h_357 t5 kb5 .byte (6 : Int32) (own_str ([c0, c1, c2, c3, c4, c5] : List Int32)) (.int (0 : Int32)) := (((((((((f_50.other W_55 ne_t5_b_1).other W_56 ne_t5_b_1).other W_351 ne_t5_b_1).other W_352 ne_t5_b_1).other W_353 ne_t5_b_1).other W_354 ne_t5_b_1).other W_355 ne_t5_b_1).other W_356 ne_t5_b_1).other W_357 ne_t5_b_1)
        have f_391 : n0 ≤ h_357.size := (Nat.le_trans (Nat.le_trans (Nat.le_trans (Nat.le_trans (Nat.le_trans (Nat.le_trans (Nat.le_trans (Nat.le_trans (Nat.le_trans f_53 (Keep.of_wr W_55).1) (Keep.of_wr W_56).1) (Keep.of_wr W_351).1) (Keep.of_wr W_352).1) (Keep.of_wr W_353).1) (Keep.of_wr W_354).1) (Keep.of_wr W_355).1) (Keep.of_wr W_356).1) (Keep.of_wr W_357).1)
        have f_392 : kk ≤ h_357.size := (Nat.le_trans (Nat.le_trans (Nat.le_trans (Nat.le_trans (Nat.le_trans (Nat.le_trans (Nat.le_trans (Nat.le_trans (Nat.le_trans (Nat.le_trans (Nat.le_trans (Nat.le_trans (Nat.le_trans (Nat.le_trans (Nat.le_trans hk E_1.1) (Keep.of_wr W_10).1) (Keep.of_wr W_19).1) (Keep.of_wr W_28).1) (Keep.of_wr W_37).1) (Keep.of_wr W_46).1) (Keep.of_wr W_55).1) (Keep.of_wr W_56).1) (Keep.of_wr W_351).1) (Keep.of_wr W_352).1) (Keep.of_wr W_353).1) (Keep.of_wr W_354).1) (Keep.of_wr W_355).1) (Keep.of_wr W_356).1) (Keep.of_wr W_357).1)
        have f_393 : Keep hq h_357 [] := (((((((((((((((hKq.ext E_1).wr W_10 (Or.inr sz_b_1)).wr W_19 (Or.inr sz_b_1)).wr W_28 (Or.inr sz_b_1)).wr W_37 (Or.inr sz_b_1)).wr W_46 (Or.inr sz_b_1)).wr W_55 (Or.inr sz_b_1)).wr W_56 (Or.inr sz_b_1)).wr W_351 (Or.inr sz_b_1)).wr W_352 (Or.inr sz_b_1)).wr W_353 (Or.inr sz_b_1)).wr W_354 (Or.inr sz_b_1)).wr W_355 (Or.inr sz_b_1)).wr W_356 (Or.inr sz_b_1)).wr W_357 (Or.inr sz_b_1))
        exact own_s322 l Z a0 hw p1 p2 p3 p4 av kv v0 v1 v2 v3 x0 t0 kt0 x1 t1 kt1 x2 t2 kt2 x3 t3 kt3 z fm a5 t5 kb5 ([c0, c1, c2, c3, c4, c5] : List Int32) b_1 k_1 (nar .char ((p3 &&& (255 : Int32)).toUInt32.toUInt16.toUInt32.toInt32)) (nar .char ((((p3.toUInt32 >>> ((8 : Int32) &&& 31).toUInt32).toInt32) &&& (255 : Int32)).toUInt32.toUInt16.toUInt32.toInt32)) (nar .char ((((p3.toUInt32 >>> ((16 : Int32) &&& 31).toUInt32).toInt32) &&& (255 : Int32)).toUInt32.toUInt16.toUInt32.toInt32)) (nar .char ((((p3.toUInt32 >>> ((24 : Int32) &&& 31).toUInt32).toInt32) &&& (255 : Int32)).toUInt32.toUInt16.toUInt32.toInt32)) (nar .char ((p4 &&& (255 : Int32)).toUInt32.toUInt16.toUInt32.toInt32)) (nar .char ((((p4.toUInt32 >>> ((8 : Int32) &&& 31).toUInt32).toInt32) &&& (255 : Int32)).toUInt32.toUInt16.toUInt32.toInt32)) (nar .char ((((p4.toUInt32 >>> ((16 : Int32) &&& 31).toUInt32).toInt32) &&& (255 : Int32)).toUInt32.toUInt16.toUInt32.toInt32)) (p2 &&& (7 : Int32)) .unset hq p e s m below meth c _ _ _ _ hx hZ hby hml hown hnm hret hlk _ n0 f_391 (X_357.more (by decide) (by decide)) e_357 N_357 hS f_392 f_393 f_358 f_359 f_360 f_361 f_362 f_363 f_364 f_365 f_366 f_367 f_368 f_369 f_370 f_371 f_372 f_373 f_374 f_375 f_376 f_377 f_378 f_379 f_380 f_381 f_382 f_383 f_384 f_385 f_386 f_387 f_388 f_389 f_390 V_357 hz rf hcw hlS hl_0 hl_1 hl_2 hl_3 hZh (own_and255 _) (own_and255 _) (own_and255 _) (own_and255 _) (own_and255 _) (own_and255 _) (own_and255 _) (own_and7 _).1 (own_and7 _).2 own_one_u hov
      · refine Go.to (mkF m 280 #[.val (.int p1), .val (.int p2), .val (.int p3), .val (.int p4), .val (.int (p1 &&& (3 : Int32))), .val (.ref a5), .val (.int (((p1.toUInt32 >>> ((2 : Int32) &&& 31).toUInt32).toInt32) &&& (3 : Int32))), .val (.ref b_1), .val (.int (6 : Int32)), .unset] []) (fun _ k => XS.icmpYes X_56.here hx rfl (pc0 := 182) (pc' := 280) rfl (hb hby at_182) rfl (feq hs2).2 (by decide) (by decide) k) ?_
        refine Go.to (mkF m 282 #[.val (.int p1), .val (.int p2), .val (.int p3), .val (.int p4), .val (.int (p1 &&& (3 : Int32))), .val (.ref a5), .val (.int (((p1.toUInt32 >>> ((2 : Int32) &&& 31).toUInt32).toInt32) &&& (3 : Int32))), .val (.ref b_1), .val (.int (6 : Int32)), .unset] [(.ref b_1)]) (fun _ k => XS.aload X_56.here hx rfl (hb hby at_280) rfl rfl k) ?_
        refine Go.to (mkF m 283 #[.val (.int p1), .val (.int p2), .val (.int p3), .val (.int p4), .val (.int (p1 &&& (3 : Int32))), .val (.ref a5), .val (.int (((p1.toUInt32 >>> ((2 : Int32) &&& 31).toUInt32).toInt32) &&& (3 : Int32))), .val (.ref b_1), .val (.int (6 : Int32)), .unset] [(.int (0 : Int32)), (.ref b_1)]) (fun _ k => XS.iconst X_56.here hx rfl (hb hby at_282) k) ?_
        refine Go.to (mkF m 284 #[.val (.int p1), .val (.int p2), .val (.int p3), .val (.int p4), .val (.int (p1 &&& (3 : Int32))), .val (.ref a5), .val (.int (((p1.toUInt32 >>> ((2 : Int32) &&& 31).toUInt32).toInt32) &&& (3 : Int32))), .val (.ref b_1), .val (.int (6 : Int32)), .unset] [(.int p3), (.int (0 : Int32)), (.ref b_1)]) (fun _ k => XS.iloadN X_56.here hx rfl (hb hby at_283) rfl  k) ?_
        have f_394 : n0 ≤ h_56.size := (Nat.le_trans (Nat.le_trans f_53 (Keep.of_wr W_55).1) (Keep.of_wr W_56).1)
        refine Go.stat X_56 hx hZ (y := (⟨"com/example/statementbound/statementbound/statements/internal/KindOfElementPinLaw", "up", "([CII)V"⟩ : MethodName)) hown (hw _ (List.mem_of_getElem? (i := 101) rfl)) (hw _ (List.mem_of_getElem? (i := 102) rfl)) (hw _ (List.mem_of_getElem? (i := 37) rfl)) (hw _ (List.mem_of_getElem? (i := 103) rfl)) (by decide) e_56 (argsL := [(.ref b_1), (.int (0 : Int32)), (.int p3)]) (rest := []) (Met1.back (W := 0) (rm18_0 l Z a0 hw b_1 k_1 c0 c1 c2 c3 c4 c5 (nar .char ((p3 &&& (255 : Int32)).toUInt32.toUInt16.toUInt32.toInt32)) p3 h_56 n0 f_394 V_56 g_b_1) hZ (hw _ (List.mem_of_getElem? (i := 103) rfl)) (hw _ (List.mem_of_getElem? (i := 37) rfl)) (by decide) (by decide)) (pc := 284) (Ls := #[.val (.int p1), .val (.int p2), .val (.int p3), .val (.int p4), .val (.int (p1 &&& (3 : Int32))), .val (.ref a5), .val (.int (((p1.toUInt32 >>> ((2 : Int32) &&& 31).toUInt32).toInt32) &&& (3 : Int32))), .val (.ref b_1), .val (.int (6 : Int32)), .unset]) (by rw [hml]; rfl) (lenOf own_pd7 rfl) rfl (Nat.le_refl _) (hb hby at_284) (by decide) (by decide) ?_
        intro T_395 v_395 L_395 X_395 hQ_395
        obtain ⟨rfl, Nq_395, K_395, pf_395_0⟩ := hQ_395
        have N_395 := Fr.app N_56 Nq_395
        have f_396 : Keep hq h_56 [] := ((((((((hKq.ext E_1).wr W_10 (Or.inr sz_b_1)).wr W_19 (Or.inr sz_b_1)).wr W_28 (Or.inr sz_b_1)).wr W_37 (Or.inr sz_b_1)).wr W_46 (Or.inr sz_b_1)).wr W_55 (Or.inr sz_b_1)).wr W_56 (Or.inr sz_b_1))
        show Go p e below (FinW s (Q0 Z p1 p2 p3 p4 av kv v0 v1 v2 v3 x0 t0 kt0 x1 t1 kt1 x2 t2 kt2 x3 t3 kt3 z fm hq n0) room_1.cells room_1.slots) T_395 (mkF m 287 #[.val (.int p1), .val (.int p2), .val (.int p3), .val (.int p4), .val (.int (p1 &&& (3 : Int32))), .val (.ref a5), .val (.int (((p1.toUInt32 >>> ((2 : Int32) &&& 31).toUInt32).toInt32) &&& (3 : Int32))), .val (.ref b_1), .val (.int (6 : Int32)), .unset] [])
        refine Go.to (mkF m 289 #[.val (.int p1), .val (.int p2), .val (.int p3), .val (.int p4), .val (.int (p1 &&& (3 : Int32))), .val (.ref a5), .val (.int (((p1.toUInt32 >>> ((2 : Int32) &&& 31).toUInt32).toInt32) &&& (3 : Int32))), .val (.ref b_1), .val (.int (6 : Int32)), .unset] [(.ref b_1)]) (fun _ k => XS.aload X_395.here hx rfl (hb hby at_287) rfl rfl k) ?_
        refine Go.to (mkF m 290 #[.val (.int p1), .val (.int p2), .val (.int p3), .val (.int p4), .val (.int (p1 &&& (3 : Int32))), .val (.ref a5), .val (.int (((p1.toUInt32 >>> ((2 : Int32) &&& 31).toUInt32).toInt32) &&& (3 : Int32))), .val (.ref b_1), .val (.int (6 : Int32)), .unset] [(.int (1 : Int32)), (.ref b_1)]) (fun _ k => XS.iconst X_395.here hx rfl (hb hby at_289) k) ?_
        refine Go.to (mkF m 291 #[.val (.int p1), .val (.int p2), .val (.int p3), .val (.int p4), .val (.int (p1 &&& (3 : Int32))), .val (.ref a5), .val (.int (((p1.toUInt32 >>> ((2 : Int32) &&& 31).toUInt32).toInt32) &&& (3 : Int32))), .val (.ref b_1), .val (.int (6 : Int32)), .unset] [(.int p3), (.int (1 : Int32)), (.ref b_1)]) (fun _ k => XS.iloadN X_395.here hx rfl (hb hby at_290) rfl  k) ?_
        have f_397 : n0 ≤ T_395.heap.size := (Nat.le_trans f_394 K_395.1)
        refine Go.stat X_395 hx hZ (y := (⟨"com/example/statementbound/statementbound/statements/internal/KindOfElementPinLaw", "up", "([CII)V"⟩ : MethodName)) hown (hw _ (List.mem_of_getElem? (i := 101) rfl)) (hw _ (List.mem_of_getElem? (i := 102) rfl)) (hw _ (List.mem_of_getElem? (i := 37) rfl)) (hw _ (List.mem_of_getElem? (i := 103) rfl)) (by decide) rfl (argsL := [(.ref b_1), (.int (1 : Int32)), (.int p3)]) (rest := []) (Met1.back (W := 0) (rm18_1 l Z a0 hw b_1 k_1 (own_upc (((p3.toUInt32 >>> ((0 : Int32) &&& 31).toUInt32).toInt32) &&& (1 : Int32)) c0) c1 c2 c3 c4 c5 (nar .char ((p3 &&& (255 : Int32)).toUInt32.toUInt16.toUInt32.toInt32)) p3 T_395.heap n0 f_397 pf_395_0 g_b_1) hZ (hw _ (List.mem_of_getElem? (i := 103) rfl)) (hw _ (List.mem_of_getElem? (i := 37) rfl)) (by decide) (by decide)) (pc := 291) (Ls := #[.val (.int p1), .val (.int p2), .val (.int p3), .val (.int p4), .val (.int (p1 &&& (3 : Int32))), .val (.ref a5), .val (.int (((p1.toUInt32 >>> ((2 : Int32) &&& 31).toUInt32).toInt32) &&& (3 : Int32))), .val (.ref b_1), .val (.int (6 : Int32)), .unset]) (by rw [hml]; rfl) (lenOf own_pd7 rfl) rfl (Nat.le_refl _) (hb hby at_291) (by decide) (by decide) ?_
        intro T_398 v_398 L_398 X_398 hQ_398
        obtain ⟨rfl, Nq_398, K_398, pf_398_0⟩ := hQ_398
        have N_398 := Fr.app N_395 Nq_398
        have f_399 : Keep hq T_395.heap [] := (f_396.trans K_395 (allS (Or.inr sz_b_1) all0))
        show Go p e below (FinW s (Q0 Z p1 p2 p3 p4 av kv v0 v1 v2 v3 x0 t0 kt0 x1 t1 kt1 x2 t2 kt2 x3 t3 kt3 z fm hq n0) room_1.cells room_1.slots) T_398 (mkF m 294 #[.val (.int p1), .val (.int p2), .val (.int p3), .val (.int p4), .val (.int (p1 &&& (3 : Int32))), .val (.ref a5), .val (.int (((p1.toUInt32 >>> ((2 : Int32) &&& 31).toUInt32).toInt32) &&& (3 : Int32))), .val (.ref b_1), .val (.int (6 : Int32)), .unset] [])
        refine Go.to (mkF m 296 #[.val (.int p1), .val (.int p2), .val (.int p3), .val (.int p4), .val (.int (p1 &&& (3 : Int32))), .val (.ref a5), .val (.int (((p1.toUInt32 >>> ((2 : Int32) &&& 31).toUInt32).toInt32) &&& (3 : Int32))), .val (.ref b_1), .val (.int (6 : Int32)), .unset] [(.ref b_1)]) (fun _ k => XS.aload X_398.here hx rfl (hb hby at_294) rfl rfl k) ?_
        refine Go.to (mkF m 297 #[.val (.int p1), .val (.int p2), .val (.int p3), .val (.int p4), .val (.int (p1 &&& (3 : Int32))), .val (.ref a5), .val (.int (((p1.toUInt32 >>> ((2 : Int32) &&& 31).toUInt32).toInt32) &&& (3 : Int32))), .val (.ref b_1), .val (.int (6 : Int32)), .unset] [(.int (2 : Int32)), (.ref b_1)]) (fun _ k => XS.iconst X_398.here hx rfl (hb hby at_296) k) ?_
        refine Go.to (mkF m 298 #[.val (.int p1), .val (.int p2), .val (.int p3), .val (.int p4), .val (.int (p1 &&& (3 : Int32))), .val (.ref a5), .val (.int (((p1.toUInt32 >>> ((2 : Int32) &&& 31).toUInt32).toInt32) &&& (3 : Int32))), .val (.ref b_1), .val (.int (6 : Int32)), .unset] [(.int p3), (.int (2 : Int32)), (.ref b_1)]) (fun _ k => XS.iloadN X_398.here hx rfl (hb hby at_297) rfl  k) ?_
        have f_400 : n0 ≤ T_398.heap.size := (Nat.le_trans f_397 K_398.1)
        refine Go.stat X_398 hx hZ (y := (⟨"com/example/statementbound/statementbound/statements/internal/KindOfElementPinLaw", "up", "([CII)V"⟩ : MethodName)) hown (hw _ (List.mem_of_getElem? (i := 101) rfl)) (hw _ (List.mem_of_getElem? (i := 102) rfl)) (hw _ (List.mem_of_getElem? (i := 37) rfl)) (hw _ (List.mem_of_getElem? (i := 103) rfl)) (by decide) rfl (argsL := [(.ref b_1), (.int (2 : Int32)), (.int p3)]) (rest := []) (Met1.back (W := 0) (rm18_2 l Z a0 hw b_1 k_1 (own_upc (((p3.toUInt32 >>> ((0 : Int32) &&& 31).toUInt32).toInt32) &&& (1 : Int32)) c0) (own_upc (((p3.toUInt32 >>> ((1 : Int32) &&& 31).toUInt32).toInt32) &&& (1 : Int32)) c1) c2 c3 c4 c5 (nar .char ((p3 &&& (255 : Int32)).toUInt32.toUInt16.toUInt32.toInt32)) p3 T_398.heap n0 f_400 pf_398_0 g_b_1) hZ (hw _ (List.mem_of_getElem? (i := 103) rfl)) (hw _ (List.mem_of_getElem? (i := 37) rfl)) (by decide) (by decide)) (pc := 298) (Ls := #[.val (.int p1), .val (.int p2), .val (.int p3), .val (.int p4), .val (.int (p1 &&& (3 : Int32))), .val (.ref a5), .val (.int (((p1.toUInt32 >>> ((2 : Int32) &&& 31).toUInt32).toInt32) &&& (3 : Int32))), .val (.ref b_1), .val (.int (6 : Int32)), .unset]) (by rw [hml]; rfl) (lenOf own_pd7 rfl) rfl (Nat.le_refl _) (hb hby at_298) (by decide) (by decide) ?_
        intro T_401 v_401 L_401 X_401 hQ_401
        obtain ⟨rfl, Nq_401, K_401, pf_401_0⟩ := hQ_401
        have N_401 := Fr.app N_398 Nq_401
        have f_402 : Keep hq T_398.heap [] := (f_399.trans K_398 (allS (Or.inr sz_b_1) all0))
        show Go p e below (FinW s (Q0 Z p1 p2 p3 p4 av kv v0 v1 v2 v3 x0 t0 kt0 x1 t1 kt1 x2 t2 kt2 x3 t3 kt3 z fm hq n0) room_1.cells room_1.slots) T_401 (mkF m 301 #[.val (.int p1), .val (.int p2), .val (.int p3), .val (.int p4), .val (.int (p1 &&& (3 : Int32))), .val (.ref a5), .val (.int (((p1.toUInt32 >>> ((2 : Int32) &&& 31).toUInt32).toInt32) &&& (3 : Int32))), .val (.ref b_1), .val (.int (6 : Int32)), .unset] [])
        refine Go.to (mkF m 303 #[.val (.int p1), .val (.int p2), .val (.int p3), .val (.int p4), .val (.int (p1 &&& (3 : Int32))), .val (.ref a5), .val (.int (((p1.toUInt32 >>> ((2 : Int32) &&& 31).toUInt32).toInt32) &&& (3 : Int32))), .val (.ref b_1), .val (.int (6 : Int32)), .unset] [(.ref b_1)]) (fun _ k => XS.aload X_401.here hx rfl (hb hby at_301) rfl rfl k) ?_
        refine Go.to (mkF m 304 #[.val (.int p1), .val (.int p2), .val (.int p3), .val (.int p4), .val (.int (p1 &&& (3 : Int32))), .val (.ref a5), .val (.int (((p1.toUInt32 >>> ((2 : Int32) &&& 31).toUInt32).toInt32) &&& (3 : Int32))), .val (.ref b_1), .val (.int (6 : Int32)), .unset] [(.int (3 : Int32)), (.ref b_1)]) (fun _ k => XS.iconst X_401.here hx rfl (hb hby at_303) k) ?_
        refine Go.to (mkF m 305 #[.val (.int p1), .val (.int p2), .val (.int p3), .val (.int p4), .val (.int (p1 &&& (3 : Int32))), .val (.ref a5), .val (.int (((p1.toUInt32 >>> ((2 : Int32) &&& 31).toUInt32).toInt32) &&& (3 : Int32))), .val (.ref b_1), .val (.int (6 : Int32)), .unset] [(.int p3), (.int (3 : Int32)), (.ref b_1)]) (fun _ k => XS.iloadN X_401.here hx rfl (hb hby at_304) rfl  k) ?_
        have f_403 : n0 ≤ T_401.heap.size := (Nat.le_trans f_400 K_401.1)
        refine Go.stat X_401 hx hZ (y := (⟨"com/example/statementbound/statementbound/statements/internal/KindOfElementPinLaw", "up", "([CII)V"⟩ : MethodName)) hown (hw _ (List.mem_of_getElem? (i := 101) rfl)) (hw _ (List.mem_of_getElem? (i := 102) rfl)) (hw _ (List.mem_of_getElem? (i := 37) rfl)) (hw _ (List.mem_of_getElem? (i := 103) rfl)) (by decide) rfl (argsL := [(.ref b_1), (.int (3 : Int32)), (.int p3)]) (rest := []) (Met1.back (W := 0) (rm18_3 l Z a0 hw b_1 k_1 (own_upc (((p3.toUInt32 >>> ((0 : Int32) &&& 31).toUInt32).toInt32) &&& (1 : Int32)) c0) (own_upc (((p3.toUInt32 >>> ((1 : Int32) &&& 31).toUInt32).toInt32) &&& (1 : Int32)) c1) (own_upc (((p3.toUInt32 >>> ((2 : Int32) &&& 31).toUInt32).toInt32) &&& (1 : Int32)) c2) c3 c4 c5 (nar .char ((p3 &&& (255 : Int32)).toUInt32.toUInt16.toUInt32.toInt32)) p3 T_401.heap n0 f_403 pf_401_0 g_b_1) hZ (hw _ (List.mem_of_getElem? (i := 103) rfl)) (hw _ (List.mem_of_getElem? (i := 37) rfl)) (by decide) (by decide)) (pc := 305) (Ls := #[.val (.int p1), .val (.int p2), .val (.int p3), .val (.int p4), .val (.int (p1 &&& (3 : Int32))), .val (.ref a5), .val (.int (((p1.toUInt32 >>> ((2 : Int32) &&& 31).toUInt32).toInt32) &&& (3 : Int32))), .val (.ref b_1), .val (.int (6 : Int32)), .unset]) (by rw [hml]; rfl) (lenOf own_pd7 rfl) rfl (Nat.le_refl _) (hb hby at_305) (by decide) (by decide) ?_
        intro T_404 v_404 L_404 X_404 hQ_404
        obtain ⟨rfl, Nq_404, K_404, pf_404_0⟩ := hQ_404
        have N_404 := Fr.app N_401 Nq_404
        have f_405 : Keep hq T_401.heap [] := (f_402.trans K_401 (allS (Or.inr sz_b_1) all0))
        show Go p e below (FinW s (Q0 Z p1 p2 p3 p4 av kv v0 v1 v2 v3 x0 t0 kt0 x1 t1 kt1 x2 t2 kt2 x3 t3 kt3 z fm hq n0) room_1.cells room_1.slots) T_404 (mkF m 308 #[.val (.int p1), .val (.int p2), .val (.int p3), .val (.int p4), .val (.int (p1 &&& (3 : Int32))), .val (.ref a5), .val (.int (((p1.toUInt32 >>> ((2 : Int32) &&& 31).toUInt32).toInt32) &&& (3 : Int32))), .val (.ref b_1), .val (.int (6 : Int32)), .unset] [])
        refine Go.to (mkF m 310 #[.val (.int p1), .val (.int p2), .val (.int p3), .val (.int p4), .val (.int (p1 &&& (3 : Int32))), .val (.ref a5), .val (.int (((p1.toUInt32 >>> ((2 : Int32) &&& 31).toUInt32).toInt32) &&& (3 : Int32))), .val (.ref b_1), .val (.int (6 : Int32)), .unset] [(.ref b_1)]) (fun _ k => XS.aload X_404.here hx rfl (hb hby at_308) rfl rfl k) ?_
        refine Go.to (mkF m 311 #[.val (.int p1), .val (.int p2), .val (.int p3), .val (.int p4), .val (.int (p1 &&& (3 : Int32))), .val (.ref a5), .val (.int (((p1.toUInt32 >>> ((2 : Int32) &&& 31).toUInt32).toInt32) &&& (3 : Int32))), .val (.ref b_1), .val (.int (6 : Int32)), .unset] [(.int (4 : Int32)), (.ref b_1)]) (fun _ k => XS.iconst X_404.here hx rfl (hb hby at_310) k) ?_
        refine Go.to (mkF m 312 #[.val (.int p1), .val (.int p2), .val (.int p3), .val (.int p4), .val (.int (p1 &&& (3 : Int32))), .val (.ref a5), .val (.int (((p1.toUInt32 >>> ((2 : Int32) &&& 31).toUInt32).toInt32) &&& (3 : Int32))), .val (.ref b_1), .val (.int (6 : Int32)), .unset] [(.int p3), (.int (4 : Int32)), (.ref b_1)]) (fun _ k => XS.iloadN X_404.here hx rfl (hb hby at_311) rfl  k) ?_
        have f_406 : n0 ≤ T_404.heap.size := (Nat.le_trans f_403 K_404.1)
        refine Go.stat X_404 hx hZ (y := (⟨"com/example/statementbound/statementbound/statements/internal/KindOfElementPinLaw", "up", "([CII)V"⟩ : MethodName)) hown (hw _ (List.mem_of_getElem? (i := 101) rfl)) (hw _ (List.mem_of_getElem? (i := 102) rfl)) (hw _ (List.mem_of_getElem? (i := 37) rfl)) (hw _ (List.mem_of_getElem? (i := 103) rfl)) (by decide) rfl (argsL := [(.ref b_1), (.int (4 : Int32)), (.int p3)]) (rest := []) (Met1.back (W := 0) (rm18_4 l Z a0 hw b_1 k_1 (own_upc (((p3.toUInt32 >>> ((0 : Int32) &&& 31).toUInt32).toInt32) &&& (1 : Int32)) c0) (own_upc (((p3.toUInt32 >>> ((1 : Int32) &&& 31).toUInt32).toInt32) &&& (1 : Int32)) c1) (own_upc (((p3.toUInt32 >>> ((2 : Int32) &&& 31).toUInt32).toInt32) &&& (1 : Int32)) c2) (own_upc (((p3.toUInt32 >>> ((3 : Int32) &&& 31).toUInt32).toInt32) &&& (1 : Int32)) c3) c4 c5 (nar .char ((p3 &&& (255 : Int32)).toUInt32.toUInt16.toUInt32.toInt32)) p3 T_404.heap n0 f_406 pf_404_0 g_b_1) hZ (hw _ (List.mem_of_getElem? (i := 103) rfl)) (hw _ (List.mem_of_getElem? (i := 37) rfl)) (by decide) (by decide)) (pc := 312) (Ls := #[.val (.int p1), .val (.int p2), .val (.int p3), .val (.int p4), .val (.int (p1 &&& (3 : Int32))), .val (.ref a5), .val (.int (((p1.toUInt32 >>> ((2 : Int32) &&& 31).toUInt32).toInt32) &&& (3 : Int32))), .val (.ref b_1), .val (.int (6 : Int32)), .unset]) (by rw [hml]; rfl) (lenOf own_pd7 rfl) rfl (Nat.le_refl _) (hb hby at_312) (by decide) (by decide) ?_
        intro T_407 v_407 L_407 X_407 hQ_407
        obtain ⟨rfl, Nq_407, K_407, pf_407_0⟩ := hQ_407
        have N_407 := Fr.app N_404 Nq_407
        have f_408 : Keep hq T_404.heap [] := (f_405.trans K_404 (allS (Or.inr sz_b_1) all0))
        show Go p e below (FinW s (Q0 Z p1 p2 p3 p4 av kv v0 v1 v2 v3 x0 t0 kt0 x1 t1 kt1 x2 t2 kt2 x3 t3 kt3 z fm hq n0) room_1.cells room_1.slots) T_407 (mkF m 315 #[.val (.int p1), .val (.int p2), .val (.int p3), .val (.int p4), .val (.int (p1 &&& (3 : Int32))), .val (.ref a5), .val (.int (((p1.toUInt32 >>> ((2 : Int32) &&& 31).toUInt32).toInt32) &&& (3 : Int32))), .val (.ref b_1), .val (.int (6 : Int32)), .unset] [])
        refine Go.to (mkF m 317 #[.val (.int p1), .val (.int p2), .val (.int p3), .val (.int p4), .val (.int (p1 &&& (3 : Int32))), .val (.ref a5), .val (.int (((p1.toUInt32 >>> ((2 : Int32) &&& 31).toUInt32).toInt32) &&& (3 : Int32))), .val (.ref b_1), .val (.int (6 : Int32)), .unset] [(.ref b_1)]) (fun _ k => XS.aload X_407.here hx rfl (hb hby at_315) rfl rfl k) ?_
        refine Go.to (mkF m 318 #[.val (.int p1), .val (.int p2), .val (.int p3), .val (.int p4), .val (.int (p1 &&& (3 : Int32))), .val (.ref a5), .val (.int (((p1.toUInt32 >>> ((2 : Int32) &&& 31).toUInt32).toInt32) &&& (3 : Int32))), .val (.ref b_1), .val (.int (6 : Int32)), .unset] [(.int (5 : Int32)), (.ref b_1)]) (fun _ k => XS.iconst X_407.here hx rfl (hb hby at_317) k) ?_
        refine Go.to (mkF m 319 #[.val (.int p1), .val (.int p2), .val (.int p3), .val (.int p4), .val (.int (p1 &&& (3 : Int32))), .val (.ref a5), .val (.int (((p1.toUInt32 >>> ((2 : Int32) &&& 31).toUInt32).toInt32) &&& (3 : Int32))), .val (.ref b_1), .val (.int (6 : Int32)), .unset] [(.int p3), (.int (5 : Int32)), (.ref b_1)]) (fun _ k => XS.iloadN X_407.here hx rfl (hb hby at_318) rfl  k) ?_
        have f_409 : n0 ≤ T_407.heap.size := (Nat.le_trans f_406 K_407.1)
        refine Go.stat X_407 hx hZ (y := (⟨"com/example/statementbound/statementbound/statements/internal/KindOfElementPinLaw", "up", "([CII)V"⟩ : MethodName)) hown (hw _ (List.mem_of_getElem? (i := 101) rfl)) (hw _ (List.mem_of_getElem? (i := 102) rfl)) (hw _ (List.mem_of_getElem? (i := 37) rfl)) (hw _ (List.mem_of_getElem? (i := 103) rfl)) (by decide) rfl (argsL := [(.ref b_1), (.int (5 : Int32)), (.int p3)]) (rest := []) (Met1.back (W := 0) (rm18_5 l Z a0 hw b_1 k_1 (own_upc (((p3.toUInt32 >>> ((0 : Int32) &&& 31).toUInt32).toInt32) &&& (1 : Int32)) c0) (own_upc (((p3.toUInt32 >>> ((1 : Int32) &&& 31).toUInt32).toInt32) &&& (1 : Int32)) c1) (own_upc (((p3.toUInt32 >>> ((2 : Int32) &&& 31).toUInt32).toInt32) &&& (1 : Int32)) c2) (own_upc (((p3.toUInt32 >>> ((3 : Int32) &&& 31).toUInt32).toInt32) &&& (1 : Int32)) c3) (own_upc (((p3.toUInt32 >>> ((4 : Int32) &&& 31).toUInt32).toInt32) &&& (1 : Int32)) c4) c5 (nar .char ((p3 &&& (255 : Int32)).toUInt32.toUInt16.toUInt32.toInt32)) p3 T_407.heap n0 f_409 pf_407_0 g_b_1) hZ (hw _ (List.mem_of_getElem? (i := 103) rfl)) (hw _ (List.mem_of_getElem? (i := 37) rfl)) (by decide) (by decide)) (pc := 319) (Ls := #[.val (.int p1), .val (.int p2), .val (.int p3), .val (.int p4), .val (.int (p1 &&& (3 : Int32))), .val (.ref a5), .val (.int (((p1.toUInt32 >>> ((2 : Int32) &&& 31).toUInt32).toInt32) &&& (3 : Int32))), .val (.ref b_1), .val (.int (6 : Int32)), .unset]) (by rw [hml]; rfl) (lenOf own_pd7 rfl) rfl (Nat.le_refl _) (hb hby at_319) (by decide) (by decide) ?_
        intro T_410 v_410 L_410 X_410 hQ_410
        obtain ⟨rfl, Nq_410, K_410, pf_410_0⟩ := hQ_410
        have N_410 := Fr.app N_407 Nq_410
        have f_411 : Keep hq T_407.heap [] := (f_408.trans K_407 (allS (Or.inr sz_b_1) all0))
        show Go p e below (FinW s (Q0 Z p1 p2 p3 p4 av kv v0 v1 v2 v3 x0 t0 kt0 x1 t1 kt1 x2 t2 kt2 x3 t3 kt3 z fm hq n0) room_1.cells room_1.slots) T_410 (mkF m 322 #[.val (.int p1), .val (.int p2), .val (.int p3), .val (.int p4), .val (.int (p1 &&& (3 : Int32))), .val (.ref a5), .val (.int (((p1.toUInt32 >>> ((2 : Int32) &&& 31).toUInt32).toInt32) &&& (3 : Int32))), .val (.ref b_1), .val (.int (6 : Int32)), .unset] [])
        have f_412 : Sta Z T_410.heap "java/lang/String" "COMPACT_STRINGS" "Z" (.int z) := (own_sta_keep (own_sta_keep (own_sta_keep (own_sta_keep (own_sta_keep (own_sta_keep ((f_51.wr W_55).wr W_56) K_395 (allS (Arv.nostat V_56) all0)) K_398 (allS (Arv.nostat pf_395_0) all0)) K_401 (allS (Arv.nostat pf_398_0) all0)) K_404 (allS (Arv.nostat pf_401_0) all0)) K_407 (allS (Arv.nostat pf_404_0) all0)) K_410 (allS (Arv.nostat pf_407_0) all0))
        have f_413 : Sta Z T_410.heap "jdk/internal/util/Preconditions" "SIOOBE_FORMATTER" "Ljava/util/function/BiFunction;" fm := (own_sta_keep (own_sta_keep (own_sta_keep (own_sta_keep (own_sta_keep (own_sta_keep ((f_52.wr W_55).wr W_56) K_395 (allS (Arv.nostat V_56) all0)) K_398 (allS (Arv.nostat pf_395_0) all0)) K_401 (allS (Arv.nostat pf_398_0) all0)) K_404 (allS (Arv.nostat pf_401_0) all0)) K_407 (allS (Arv.nostat pf_404_0) all0)) K_410 (allS (Arv.nostat pf_407_0) all0))
        have f_414 : Sta Z T_410.heap "com/example/statementbound/statementbound/statements/internal/Statement$Kind" "$VALUES" "[Lcom/example/statementbound/statementbound/statements/internal/Statement$Kind;" (.ref av) := (own_sta_keep (own_sta_keep (own_sta_keep (own_sta_keep (own_sta_keep (own_sta_keep ((((((((PS_com_example_statementbound_statementbound_statements_internal_Statement_Kind__VALUES.ext E_1).wr W_10).wr W_19).wr W_28).wr W_37).wr W_46).wr W_55).wr W_56) K_395 (allS (Arv.nostat V_56) all0)) K_398 (allS (Arv.nostat pf_395_0) all0)) K_401 (allS (Arv.nostat pf_398_0) all0)) K_404 (allS (Arv.nostat pf_401_0) all0)) K_407 (allS (Arv.nostat pf_404_0) all0)) K_410 (allS (Arv.nostat pf_407_0) all0))
        have f_415 : Exa Z T_410.heap av "[Lcom/example/statementbound/statementbound/statements/internal/Statement$Kind;" := ((((((((((((((PE_av.ext E_1).wr W_10).wr W_19).wr W_28).wr W_37).wr W_46).wr W_55).wr W_56).keep K_395).keep K_398).keep K_401).keep K_404).keep K_407).keep K_410)
        have f_416 : Arv Z T_410.heap av kv (.object "com/example/statementbound/statementbound/statements/internal/Statement$Kind") (4 : Int32) [(.ref v0), (.ref v1), (.ref v2), (.ref v3)] .null := ((((((((((((((PA_av.ext E_1).other W_10 ne_av_b_1).other W_19 ne_av_b_1).other W_28 ne_av_b_1).other W_37 ne_av_b_1).other W_46 ne_av_b_1).other W_55 ne_av_b_1).other W_56 ne_av_b_1).keep K_395 (ninS ne_av_b_1 nin0)).keep K_398 (ninS ne_av_b_1 nin0)).keep K_401 (ninS ne_av_b_1 nin0)).keep K_404 (ninS ne_av_b_1 nin0)).keep K_407 (ninS ne_av_b_1 nin0)).keep K_410 (ninS ne_av_b_1 nin0))
        have f_417 : Fld Z T_410.heap v0 "com/example/statementbound/statementbound/statements/internal/Statement$Kind" "element" "Ljava/lang/String;" (.ref x0) := ((((((((((((((PF_v0_element.ext E_1).other W_10 (Or.inl ne_v0_b_1)).other W_19 (Or.inl ne_v0_b_1)).other W_28 (Or.inl ne_v0_b_1)).other W_37 (Or.inl ne_v0_b_1)).other W_46 (Or.inl ne_v0_b_1)).other W_55 (Or.inl ne_v0_b_1)).other W_56 (Or.inl ne_v0_b_1)).keep K_395 (ninS ne_v0_b_1 nin0)).keep K_398 (ninS ne_v0_b_1 nin0)).keep K_401 (ninS ne_v0_b_1 nin0)).keep K_404 (ninS ne_v0_b_1 nin0)).keep K_407 (ninS ne_v0_b_1 nin0)).keep K_410 (ninS ne_v0_b_1 nin0))
        have f_418 : Exa Z T_410.heap x0 "java/lang/String" := ((((((((((((((PE_x0.ext E_1).wr W_10).wr W_19).wr W_28).wr W_37).wr W_46).wr W_55).wr W_56).keep K_395).keep K_398).keep K_401).keep K_404).keep K_407).keep K_410)
        have f_419 : Fld Z T_410.heap x0 "java/lang/String" "value" "[B" (.ref t0) := ((((((((((((((PF_x0_value.ext E_1).other W_10 (Or.inl ne_x0_b_1)).other W_19 (Or.inl ne_x0_b_1)).other W_28 (Or.inl ne_x0_b_1)).other W_37 (Or.inl ne_x0_b_1)).other W_46 (Or.inl ne_x0_b_1)).other W_55 (Or.inl ne_x0_b_1)).other W_56 (Or.inl ne_x0_b_1)).keep K_395 (ninS ne_x0_b_1 nin0)).keep K_398 (ninS ne_x0_b_1 nin0)).keep K_401 (ninS ne_x0_b_1 nin0)).keep K_404 (ninS ne_x0_b_1 nin0)).keep K_407 (ninS ne_x0_b_1 nin0)).keep K_410 (ninS ne_x0_b_1 nin0))
        have f_420 : Fld Z T_410.heap x0 "java/lang/String" "coder" "B" (.int (0 : Int32)) := ((((((((((((((PF_x0_coder.ext E_1).other W_10 (Or.inl ne_x0_b_1)).other W_19 (Or.inl ne_x0_b_1)).other W_28 (Or.inl ne_x0_b_1)).other W_37 (Or.inl ne_x0_b_1)).other W_46 (Or.inl ne_x0_b_1)).other W_55 (Or.inl ne_x0_b_1)).other W_56 (Or.inl ne_x0_b_1)).keep K_395 (ninS ne_x0_b_1 nin0)).keep K_398 (ninS ne_x0_b_1 nin0)).keep K_401 (ninS ne_x0_b_1 nin0)).keep K_404 (ninS ne_x0_b_1 nin0)).keep K_407 (ninS ne_x0_b_1 nin0)).keep K_410 (ninS ne_x0_b_1 nin0))
        have f_421 : Arv Z T_410.heap t0 kt0 .byte (6 : Int32) (own_str own_t0) (.int (0 : Int32)) := ((((((((((((((PA_t0.ext E_1).other W_10 ne_t0_b_1).other W_19 ne_t0_b_1).other W_28 ne_t0_b_1).other W_37 ne_t0_b_1).other W_46 ne_t0_b_1).other W_55 ne_t0_b_1).other W_56 ne_t0_b_1).keep K_395 (ninS ne_t0_b_1 nin0)).keep K_398 (ninS ne_t0_b_1 nin0)).keep K_401 (ninS ne_t0_b_1 nin0)).keep K_404 (ninS ne_t0_b_1 nin0)).keep K_407 (ninS ne_t0_b_1 nin0)).keep K_410 (ninS ne_t0_b_1 nin0))
        have f_422 : Fld Z T_410.heap v1 "com/example/statementbound/statementbound/statements/internal/Statement$Kind" "element" "Ljava/lang/String;" (.ref x1) := ((((((((((((((PF_v1_element.ext E_1).other W_10 (Or.inl ne_v1_b_1)).other W_19 (Or.inl ne_v1_b_1)).other W_28 (Or.inl ne_v1_b_1)).other W_37 (Or.inl ne_v1_b_1)).other W_46 (Or.inl ne_v1_b_1)).other W_55 (Or.inl ne_v1_b_1)).other W_56 (Or.inl ne_v1_b_1)).keep K_395 (ninS ne_v1_b_1 nin0)).keep K_398 (ninS ne_v1_b_1 nin0)).keep K_401 (ninS ne_v1_b_1 nin0)).keep K_404 (ninS ne_v1_b_1 nin0)).keep K_407 (ninS ne_v1_b_1 nin0)).keep K_410 (ninS ne_v1_b_1 nin0))
        have f_423 : Exa Z T_410.heap x1 "java/lang/String" := ((((((((((((((PE_x1.ext E_1).wr W_10).wr W_19).wr W_28).wr W_37).wr W_46).wr W_55).wr W_56).keep K_395).keep K_398).keep K_401).keep K_404).keep K_407).keep K_410)
        have f_424 : Fld Z T_410.heap x1 "java/lang/String" "value" "[B" (.ref t1) := ((((((((((((((PF_x1_value.ext E_1).other W_10 (Or.inl ne_x1_b_1)).other W_19 (Or.inl ne_x1_b_1)).other W_28 (Or.inl ne_x1_b_1)).other W_37 (Or.inl ne_x1_b_1)).other W_46 (Or.inl ne_x1_b_1)).other W_55 (Or.inl ne_x1_b_1)).other W_56 (Or.inl ne_x1_b_1)).keep K_395 (ninS ne_x1_b_1 nin0)).keep K_398 (ninS ne_x1_b_1 nin0)).keep K_401 (ninS ne_x1_b_1 nin0)).keep K_404 (ninS ne_x1_b_1 nin0)).keep K_407 (ninS ne_x1_b_1 nin0)).keep K_410 (ninS ne_x1_b_1 nin0))
        have f_425 : Fld Z T_410.heap x1 "java/lang/String" "coder" "B" (.int (0 : Int32)) := ((((((((((((((PF_x1_coder.ext E_1).other W_10 (Or.inl ne_x1_b_1)).other W_19 (Or.inl ne_x1_b_1)).other W_28 (Or.inl ne_x1_b_1)).other W_37 (Or.inl ne_x1_b_1)).other W_46 (Or.inl ne_x1_b_1)).other W_55 (Or.inl ne_x1_b_1)).other W_56 (Or.inl ne_x1_b_1)).keep K_395 (ninS ne_x1_b_1 nin0)).keep K_398 (ninS ne_x1_b_1 nin0)).keep K_401 (ninS ne_x1_b_1 nin0)).keep K_404 (ninS ne_x1_b_1 nin0)).keep K_407 (ninS ne_x1_b_1 nin0)).keep K_410 (ninS ne_x1_b_1 nin0))
        have f_426 : Arv Z T_410.heap t1 kt1 .byte (6 : Int32) (own_str own_t1) (.int (0 : Int32)) := ((((((((((((((PA_t1.ext E_1).other W_10 ne_t1_b_1).other W_19 ne_t1_b_1).other W_28 ne_t1_b_1).other W_37 ne_t1_b_1).other W_46 ne_t1_b_1).other W_55 ne_t1_b_1).other W_56 ne_t1_b_1).keep K_395 (ninS ne_t1_b_1 nin0)).keep K_398 (ninS ne_t1_b_1 nin0)).keep K_401 (ninS ne_t1_b_1 nin0)).keep K_404 (ninS ne_t1_b_1 nin0)).keep K_407 (ninS ne_t1_b_1 nin0)).keep K_410 (ninS ne_t1_b_1 nin0))
        have f_427 : Fld Z T_410.heap v2 "com/example/statementbound/statementbound/statements/internal/Statement$Kind" "element" "Ljava/lang/String;" (.ref x2) := ((((((((((((((PF_v2_element.ext E_1).other W_10 (Or.inl ne_v2_b_1)).other W_19 (Or.inl ne_v2_b_1)).other W_28 (Or.inl ne_v2_b_1)).other W_37 (Or.inl ne_v2_b_1)).other W_46 (Or.inl ne_v2_b_1)).other W_55 (Or.inl ne_v2_b_1)).other W_56 (Or.inl ne_v2_b_1)).keep K_395 (ninS ne_v2_b_1 nin0)).keep K_398 (ninS ne_v2_b_1 nin0)).keep K_401 (ninS ne_v2_b_1 nin0)).keep K_404 (ninS ne_v2_b_1 nin0)).keep K_407 (ninS ne_v2_b_1 nin0)).keep K_410 (ninS ne_v2_b_1 nin0))
        have f_428 : Exa Z T_410.heap x2 "java/lang/String" := ((((((((((((((PE_x2.ext E_1).wr W_10).wr W_19).wr W_28).wr W_37).wr W_46).wr W_55).wr W_56).keep K_395).keep K_398).keep K_401).keep K_404).keep K_407).keep K_410)
        have f_429 : Fld Z T_410.heap x2 "java/lang/String" "value" "[B" (.ref t2) := ((((((((((((((PF_x2_value.ext E_1).other W_10 (Or.inl ne_x2_b_1)).other W_19 (Or.inl ne_x2_b_1)).other W_28 (Or.inl ne_x2_b_1)).other W_37 (Or.inl ne_x2_b_1)).other W_46 (Or.inl ne_x2_b_1)).other W_55 (Or.inl ne_x2_b_1)).other W_56 (Or.inl ne_x2_b_1)).keep K_395 (ninS ne_x2_b_1 nin0)).keep K_398 (ninS ne_x2_b_1 nin0)).keep K_401 (ninS ne_x2_b_1 nin0)).keep K_404 (ninS ne_x2_b_1 nin0)).keep K_407 (ninS ne_x2_b_1 nin0)).keep K_410 (ninS ne_x2_b_1 nin0))
        have f_430 : Fld Z T_410.heap x2 "java/lang/String" "coder" "B" (.int (0 : Int32)) := ((((((((((((((PF_x2_coder.ext E_1).other W_10 (Or.inl ne_x2_b_1)).other W_19 (Or.inl ne_x2_b_1)).other W_28 (Or.inl ne_x2_b_1)).other W_37 (Or.inl ne_x2_b_1)).other W_46 (Or.inl ne_x2_b_1)).other W_55 (Or.inl ne_x2_b_1)).other W_56 (Or.inl ne_x2_b_1)).keep K_395 (ninS ne_x2_b_1 nin0)).keep K_398 (ninS ne_x2_b_1 nin0)).keep K_401 (ninS ne_x2_b_1 nin0)).keep K_404 (ninS ne_x2_b_1 nin0)).keep K_407 (ninS ne_x2_b_1 nin0)).keep K_410 (ninS ne_x2_b_1 nin0))
        have f_431 : Arv Z T_410.heap t2 kt2 .byte (6 : Int32) (own_str own_t2) (.int (0 : Int32)) := ((((((((((((((PA_t2.ext E_1).other W_10 ne_t2_b_1).other W_19 ne_t2_b_1).other W_28 ne_t2_b_1).other W_37 ne_t2_b_1).other W_46 ne_t2_b_1).other W_55 ne_t2_b_1).other W_56 ne_t2_b_1).keep K_395 (ninS ne_t2_b_1 nin0)).keep K_398 (ninS ne_t2_b_1 nin0)).keep K_401 (ninS ne_t2_b_1 nin0)).keep K_404 (ninS ne_t2_b_1 nin0)).keep K_407 (ninS ne_t2_b_1 nin0)).keep K_410 (ninS ne_t2_b_1 nin0))
        have f_432 : Fld Z T_410.heap v3 "com/example/statementbound/statementbound/statements/internal/Statement$Kind" "element" "Ljava/lang/String;" (.ref x3) := ((((((((((((((PF_v3_element.ext E_1).other W_10 (Or.inl ne_v3_b_1)).other W_19 (Or.inl ne_v3_b_1)).other W_28 (Or.inl ne_v3_b_1)).other W_37 (Or.inl ne_v3_b_1)).other W_46 (Or.inl ne_v3_b_1)).other W_55 (Or.inl ne_v3_b_1)).other W_56 (Or.inl ne_v3_b_1)).keep K_395 (ninS ne_v3_b_1 nin0)).keep K_398 (ninS ne_v3_b_1 nin0)).keep K_401 (ninS ne_v3_b_1 nin0)).keep K_404 (ninS ne_v3_b_1 nin0)).keep K_407 (ninS ne_v3_b_1 nin0)).keep K_410 (ninS ne_v3_b_1 nin0))
        have f_433 : Exa Z T_410.heap x3 "java/lang/String" := ((((((((((((((PE_x3.ext E_1).wr W_10).wr W_19).wr W_28).wr W_37).wr W_46).wr W_55).wr W_56).keep K_395).keep K_398).keep K_401).keep K_404).keep K_407).keep K_410)
        have f_434 : Fld Z T_410.heap x3 "java/lang/String" "value" "[B" (.ref t3) := ((((((((((((((PF_x3_value.ext E_1).other W_10 (Or.inl ne_x3_b_1)).other W_19 (Or.inl ne_x3_b_1)).other W_28 (Or.inl ne_x3_b_1)).other W_37 (Or.inl ne_x3_b_1)).other W_46 (Or.inl ne_x3_b_1)).other W_55 (Or.inl ne_x3_b_1)).other W_56 (Or.inl ne_x3_b_1)).keep K_395 (ninS ne_x3_b_1 nin0)).keep K_398 (ninS ne_x3_b_1 nin0)).keep K_401 (ninS ne_x3_b_1 nin0)).keep K_404 (ninS ne_x3_b_1 nin0)).keep K_407 (ninS ne_x3_b_1 nin0)).keep K_410 (ninS ne_x3_b_1 nin0))
        have f_435 : Fld Z T_410.heap x3 "java/lang/String" "coder" "B" (.int (0 : Int32)) := ((((((((((((((PF_x3_coder.ext E_1).other W_10 (Or.inl ne_x3_b_1)).other W_19 (Or.inl ne_x3_b_1)).other W_28 (Or.inl ne_x3_b_1)).other W_37 (Or.inl ne_x3_b_1)).other W_46 (Or.inl ne_x3_b_1)).other W_55 (Or.inl ne_x3_b_1)).other W_56 (Or.inl ne_x3_b_1)).keep K_395 (ninS ne_x3_b_1 nin0)).keep K_398 (ninS ne_x3_b_1 nin0)).keep K_401 (ninS ne_x3_b_1 nin0)).keep K_404 (ninS ne_x3_b_1 nin0)).keep K_407 (ninS ne_x3_b_1 nin0)).keep K_410 (ninS ne_x3_b_1 nin0))
        have f_436 : Arv Z T_410.heap t3 kt3 .byte (6 : Int32) (own_str own_t3) (.int (0 : Int32)) := ((((((((((((((PA_t3.ext E_1).other W_10 ne_t3_b_1).other W_19 ne_t3_b_1).other W_28 ne_t3_b_1).other W_37 ne_t3_b_1).other W_46 ne_t3_b_1).other W_55 ne_t3_b_1).other W_56 ne_t3_b_1).keep K_395 (ninS ne_t3_b_1 nin0)).keep K_398 (ninS ne_t3_b_1 nin0)).keep K_401 (ninS ne_t3_b_1 nin0)).keep K_404 (ninS ne_t3_b_1 nin0)).keep K_407 (ninS ne_t3_b_1 nin0)).keep K_410 (ninS ne_t3_b_1 nin0))
        have f_437 : Sta Z T_410.heap "com/example/statementbound/statementbound/statements/internal/Statement$Kind" "SELECT" "Lcom/example/statementbound/statementbound/statements/internal/Statement$Kind;" (.ref v0) := (own_sta_keep (own_sta_keep (own_sta_keep (own_sta_keep (own_sta_keep (own_sta_keep ((((((((PS_com_example_statementbound_statementbound_statements_internal_Statement_Kind_SELECT.ext E_1).wr W_10).wr W_19).wr W_28).wr W_37).wr W_46).wr W_55).wr W_56) K_395 (allS (Arv.nostat V_56) all0)) K_398 (allS (Arv.nostat pf_395_0) all0)) K_401 (allS (Arv.nostat pf_398_0) all0)) K_404 (allS (Arv.nostat pf_401_0) all0)) K_407 (allS (Arv.nostat pf_404_0) all0)) K_410 (allS (Arv.nostat pf_407_0) all0))
        have f_438 : Sta Z T_410.heap "com/example/statementbound/statementbound/statements/internal/Statement$Kind" "INSERT" "Lcom/example/statementbound/statementbound/statements/internal/Statement$Kind;" (.ref v1) := (own_sta_keep (own_sta_keep (own_sta_keep (own_sta_keep (own_sta_keep (own_sta_keep ((((((((PS_com_example_statementbound_statementbound_statements_internal_Statement_Kind_INSERT.ext E_1).wr W_10).wr W_19).wr W_28).wr W_37).wr W_46).wr W_55).wr W_56) K_395 (allS (Arv.nostat V_56) all0)) K_398 (allS (Arv.nostat pf_395_0) all0)) K_401 (allS (Arv.nostat pf_398_0) all0)) K_404 (allS (Arv.nostat pf_401_0) all0)) K_407 (allS (Arv.nostat pf_404_0) all0)) K_410 (allS (Arv.nostat pf_407_0) all0))
        have f_439 : Sta Z T_410.heap "com/example/statementbound/statementbound/statements/internal/Statement$Kind" "UPDATE" "Lcom/example/statementbound/statementbound/statements/internal/Statement$Kind;" (.ref v2) := (own_sta_keep (own_sta_keep (own_sta_keep (own_sta_keep (own_sta_keep (own_sta_keep ((((((((PS_com_example_statementbound_statementbound_statements_internal_Statement_Kind_UPDATE.ext E_1).wr W_10).wr W_19).wr W_28).wr W_37).wr W_46).wr W_55).wr W_56) K_395 (allS (Arv.nostat V_56) all0)) K_398 (allS (Arv.nostat pf_395_0) all0)) K_401 (allS (Arv.nostat pf_398_0) all0)) K_404 (allS (Arv.nostat pf_401_0) all0)) K_407 (allS (Arv.nostat pf_404_0) all0)) K_410 (allS (Arv.nostat pf_407_0) all0))
        have f_440 : Sta Z T_410.heap "com/example/statementbound/statementbound/statements/internal/Statement$Kind" "DELETE" "Lcom/example/statementbound/statementbound/statements/internal/Statement$Kind;" (.ref v3) := (own_sta_keep (own_sta_keep (own_sta_keep (own_sta_keep (own_sta_keep (own_sta_keep ((((((((PS_com_example_statementbound_statementbound_statements_internal_Statement_Kind_DELETE.ext E_1).wr W_10).wr W_19).wr W_28).wr W_37).wr W_46).wr W_55).wr W_56) K_395 (allS (Arv.nostat V_56) all0)) K_398 (allS (Arv.nostat pf_395_0) all0)) K_401 (allS (Arv.nostat pf_398_0) all0)) K_404 (allS (Arv.nostat pf_401_0) all0)) K_407 (allS (Arv.nostat pf_404_0) all0)) K_410 (allS (Arv.nostat pf_407_0) all0))
        have f_441 : Exa Z T_410.heap a5 "java/lang/String" := ((((((((f_47.wr W_55).wr W_56).keep K_395).keep K_398).keep K_401).keep K_404).keep K_407).keep K_410)
        have f_442 : Fld Z T_410.heap a5 "java/lang/String" "value" "[B" (.ref t5) := ((((((((f_48.other W_55 (Or.inl ne_a5_b_1)).other W_56 (Or.inl ne_a5_b_1)).keep K_395 (ninS ne_a5_b_1 nin0)).keep K_398 (ninS ne_a5_b_1 nin0)).keep K_401 (ninS ne_a5_b_1 nin0)).keep K_404 (ninS ne_a5_b_1 nin0)).keep K_407 (ninS ne_a5_b_1 nin0)).keep K_410 (ninS ne_a5_b_1 nin0))
        have f_443 : Fld Z T_410.heap a5 "java/lang/String" "coder" "B" (.int (0 : Int32)) := ((((((((f_49.other W_55 (Or.inl ne_a5_b_1)).other W_56 (Or.inl ne_a5_b_1)).keep K_395 (ninS ne_a5_b_1 nin0)).keep K_398 (ninS ne_a5_b_1 nin0)).keep K_401 (ninS ne_a5_b_1 nin0)).keep K_404 (ninS ne_a5_b_1 nin0)).keep K_407 (ninS ne_a5_b_1 nin0)).keep K_410 (ninS ne_a5_b_1 nin0))
        have f_444 : Arv Z T_410.heap t5 kb5 .byte (6 : Int32) (own_str ([c0, c1, c2, c3, c4, c5] : List Int32)) (.int (0 : Int32)) := ((((((((f_50.other W_55 ne_t5_b_1).other W_56 ne_t5_b_1).keep K_395 (ninS ne_t5_b_1 nin0)).keep K_398 (ninS ne_t5_b_1 nin0)).keep K_401 (ninS ne_t5_b_1 nin0)).keep K_404 (ninS ne_t5_b_1 nin0)).keep K_407 (ninS ne_t5_b_1 nin0)).keep K_410 (ninS ne_t5_b_1 nin0))
        have f_445 : n0 ≤ T_410.heap.size := (Nat.le_trans f_409 K_410.1)
        have f_446 : kk ≤ T_410.heap.size := (Nat.le_trans (Nat.le_trans (Nat.le_trans (Nat.le_trans (Nat.le_trans (Nat.le_trans (Nat.le_trans (Nat.le_trans (Nat.le_trans (Nat.le_trans (Nat.le_trans (Nat.le_trans (Nat.le_trans (Nat.le_trans hk E_1.1) (Keep.of_wr W_10).1) (Keep.of_wr W_19).1) (Keep.of_wr W_28).1) (Keep.of_wr W_37).1) (Keep.of_wr W_46).1) (Keep.of_wr W_55).1) (Keep.of_wr W_56).1) K_395.1) K_398.1) K_401.1) K_404.1) K_407.1) K_410.1)
        have f_447 : Keep hq T_410.heap [] := (f_411.trans K_410 (allS (Or.inr sz_b_1) all0))
        exact own_s322 l Z a0 hw p1 p2 p3 p4 av kv v0 v1 v2 v3 x0 t0 kt0 x1 t1 kt1 x2 t2 kt2 x3 t3 kt3 z fm a5 t5 kb5 ([c0, c1, c2, c3, c4, c5] : List Int32) b_1 k_1 (own_upc (((p3.toUInt32 >>> ((0 : Int32) &&& 31).toUInt32).toInt32) &&& (1 : Int32)) c0) (own_upc (((p3.toUInt32 >>> ((1 : Int32) &&& 31).toUInt32).toInt32) &&& (1 : Int32)) c1) (own_upc (((p3.toUInt32 >>> ((2 : Int32) &&& 31).toUInt32).toInt32) &&& (1 : Int32)) c2) (own_upc (((p3.toUInt32 >>> ((3 : Int32) &&& 31).toUInt32).toInt32) &&& (1 : Int32)) c3) (own_upc (((p3.toUInt32 >>> ((4 : Int32) &&& 31).toUInt32).toInt32) &&& (1 : Int32)) c4) (own_upc (((p3.toUInt32 >>> ((5 : Int32) &&& 31).toUInt32).toInt32) &&& (1 : Int32)) c5) (nar .char ((p3 &&& (255 : Int32)).toUInt32.toUInt16.toUInt32.toInt32)) (6 : Int32) .unset hq p e s m below meth c _ _ _ _ hx hZ hby hml hown hnm hret hlk _ n0 f_445 (X_410.more (by decide) (by decide)) rfl N_410 hS f_446 f_447 f_412 f_413 f_414 f_415 f_416 f_417 f_418 f_419 f_420 f_421 f_422 f_423 f_424 f_425 f_426 f_427 f_428 f_429 f_430 f_431 f_432 f_433 f_434 f_435 f_436 f_437 f_438 f_439 f_440 f_441 f_442 f_443 f_444 pf_410_0 hz rf hcw hlS hl_0 hl_1 hl_2 hl_3 hZh (own_upc_p hc0) (own_upc_p hc1) (own_upc_p hc2) (own_upc_p hc3) (own_upc_p hc4) (own_upc_p hc5) (own_and255 _) (by decide) (by decide) own_one_u hov
theorem ef_0 (m : MethodId) (p1 : Int32) (p2 : Int32) (p3 : Int32) (p4 : Int32) : entryFrame m #[(.int p1), (.int p2), (.int p3), (.int p4)] maxLocals = mkF m 0 #[.val (.int p1), .val (.int p2), .val (.int p3), .val (.int p4), .unset, .unset, .unset, .unset, .unset, .unset] [] := by first | (simp [entryFrame, mkF, argsToLocals, Value.category, maxLocals]; done) | (simp [entryFrame, mkF, argsToLocals, own_cat_i, own_cat_l, own_cat_r, own_cat_n, maxLocals]; done) | rfl
set_option maxRecDepth 65536 in
set_option maxHeartbeats 40000000 in
theorem rm0 (l : Launch) (Z : State) (a0 : Array Value) (hw : ∀ d ∈ tables_1, d.before a0 Z = true) (p1 : Int32) (p2 : Int32) (p3 : Int32) (p4 : Int32) (av : Addr) (kv : ClassId) (v0 : Addr) (v1 : Addr) (v2 : Addr) (v3 : Addr) (x0 : Addr) (t0 : Addr) (kt0 : ClassId) (x1 : Addr) (t1 : Addr) (kt1 : ClassId) (x2 : Addr) (t2 : Addr) (kt2 : ClassId) (x3 : Addr) (t3 : Addr) (kt3 : ClassId) (z : Int32) (fm : Value) (h0 : Heap) (n0 : Nat) (Z0 : n0 ≤ h0.size) (PS_java_lang_String_COMPACT_STRINGS : Sta Z h0 "java/lang/String" "COMPACT_STRINGS" "Z" (.int z)) (PS_jdk_internal_util_Preconditions_SIOOBE_FORMATTER : Sta Z h0 "jdk/internal/util/Preconditions" "SIOOBE_FORMATTER" "Ljava/util/function/BiFunction;" fm) (PS_com_example_statementbound_statementbound_statements_internal_Statement_Kind__VALUES : Sta Z h0 "com/example/statementbound/statementbound/statements/internal/Statement$Kind" "$VALUES" "[Lcom/example/statementbound/statementbound/statements/internal/Statement$Kind;" (.ref av)) (PE_av : Exa Z h0 av "[Lcom/example/statementbound/statementbound/statements/internal/Statement$Kind;") (PA_av : Arv Z h0 av kv (.object "com/example/statementbound/statementbound/statements/internal/Statement$Kind") (4 : Int32) [(.ref v0), (.ref v1), (.ref v2), (.ref v3)] .null) (PF_v0_element : Fld Z h0 v0 "com/example/statementbound/statementbound/statements/internal/Statement$Kind" "element" "Ljava/lang/String;" (.ref x0)) (PE_x0 : Exa Z h0 x0 "java/lang/String") (PF_x0_value : Fld Z h0 x0 "java/lang/String" "value" "[B" (.ref t0)) (PF_x0_coder : Fld Z h0 x0 "java/lang/String" "coder" "B" (.int (0 : Int32))) (PA_t0 : Arv Z h0 t0 kt0 .byte (6 : Int32) (own_str own_t0) (.int (0 : Int32))) (PF_v1_element : Fld Z h0 v1 "com/example/statementbound/statementbound/statements/internal/Statement$Kind" "element" "Ljava/lang/String;" (.ref x1)) (PE_x1 : Exa Z h0 x1 "java/lang/String") (PF_x1_value : Fld Z h0 x1 "java/lang/String" "value" "[B" (.ref t1)) (PF_x1_coder : Fld Z h0 x1 "java/lang/String" "coder" "B" (.int (0 : Int32))) (PA_t1 : Arv Z h0 t1 kt1 .byte (6 : Int32) (own_str own_t1) (.int (0 : Int32))) (PF_v2_element : Fld Z h0 v2 "com/example/statementbound/statementbound/statements/internal/Statement$Kind" "element" "Ljava/lang/String;" (.ref x2)) (PE_x2 : Exa Z h0 x2 "java/lang/String") (PF_x2_value : Fld Z h0 x2 "java/lang/String" "value" "[B" (.ref t2)) (PF_x2_coder : Fld Z h0 x2 "java/lang/String" "coder" "B" (.int (0 : Int32))) (PA_t2 : Arv Z h0 t2 kt2 .byte (6 : Int32) (own_str own_t2) (.int (0 : Int32))) (PF_v3_element : Fld Z h0 v3 "com/example/statementbound/statementbound/statements/internal/Statement$Kind" "element" "Ljava/lang/String;" (.ref x3)) (PE_x3 : Exa Z h0 x3 "java/lang/String") (PF_x3_value : Fld Z h0 x3 "java/lang/String" "value" "[B" (.ref t3)) (PF_x3_coder : Fld Z h0 x3 "java/lang/String" "coder" "B" (.int (0 : Int32))) (PA_t3 : Arv Z h0 t3 kt3 .byte (6 : Int32) (own_str own_t3) (.int (0 : Int32))) (PS_com_example_statementbound_statementbound_statements_internal_Statement_Kind_SELECT : Sta Z h0 "com/example/statementbound/statementbound/statements/internal/Statement$Kind" "SELECT" "Lcom/example/statementbound/statementbound/statements/internal/Statement$Kind;" (.ref v0)) (PS_com_example_statementbound_statementbound_statements_internal_Statement_Kind_INSERT : Sta Z h0 "com/example/statementbound/statementbound/statements/internal/Statement$Kind" "INSERT" "Lcom/example/statementbound/statementbound/statements/internal/Statement$Kind;" (.ref v1)) (PS_com_example_statementbound_statementbound_statements_internal_Statement_Kind_UPDATE : Sta Z h0 "com/example/statementbound/statementbound/statements/internal/Statement$Kind" "UPDATE" "Lcom/example/statementbound/statementbound/statements/internal/Statement$Kind;" (.ref v2)) (PS_com_example_statementbound_statementbound_statements_internal_Statement_Kind_DELETE : Sta Z h0 "com/example/statementbound/statementbound/statements/internal/Statement$Kind" "DELETE" "Lcom/example/statementbound/statementbound/statements/internal/Statement$Kind;" (.ref v3)) (hz : ¬ z = 0) (rf : fm.isRef = true) (hcw : Jvm.Lit.compactW.before a0 Z = true) (hlS : Jvm.Lit.constHeld Z "java/lang/String" 7) (hl_0 : Jvm.Lit.constHeld Z "com/example/statementbound/statementbound/statements/internal/KindOfElementPinLaw" 7) (hl_1 : Jvm.Lit.constHeld Z "com/example/statementbound/statementbound/statements/internal/KindOfElementPinLaw" 9) (hl_2 : Jvm.Lit.constHeld Z "com/example/statementbound/statementbound/statements/internal/KindOfElementPinLaw" 11) (hl_3 : Jvm.Lit.constHeld Z "com/example/statementbound/statementbound/statements/internal/KindOfElementPinLaw" 13) (hZh : Z.heap = h0) :
    MetW l Z x code maxLocals ret room_1 #[(.int p1), (.int p2), (.int p3), (.int p4)] h0 (fun vm => IB Z vm []) (Q0 Z p1 p2 p3 p4 av kv v0 v1 v2 v3 x0 t0 kt0 x1 t1 kt1 x2 t2 kt2 x3 t3 kt3 z fm h0 n0) := by
  refine MetW.mk (plainFor_of_name (by first | (simp [plainName, overriddenIn]; done) | decide +kernel)) ?_
  intro p e s m below meth c s₁ vm0 hx hZ hby hml hown hnm hret hlk X0 e0 hS hh hnamed hJ
  have hml : c.maxLocals = 10 := hml
  have hret : meth.sig.returnType = some .boolean := hret
  have N0 := Fr.nil n0
  refine Go.cast (ef_0 m p1 p2 p3 p4) ?_
  show Go p e below (FinW s (Q0 Z p1 p2 p3 p4 av kv v0 v1 v2 v3 x0 t0 kt0 x1 t1 kt1 x2 t2 kt2 x3 t3 kt3 z fm h0 n0) room_1.cells room_1.slots) s₁ (mkF m 0 #[.val (.int p1), .val (.int p2), .val (.int p3), .val (.int p4), .unset, .unset, .unset, .unset, .unset, .unset] [])
  refine Go.to (mkF m 1 #[.val (.int p1), .val (.int p2), .val (.int p3), .val (.int p4), .unset, .unset, .unset, .unset, .unset, .unset] [(.int p1)]) (fun _ k => XS.iloadN X0.here hx rfl (hb hby at_0) rfl  k) ?_
  refine Go.to (mkF m 2 #[.val (.int p1), .val (.int p2), .val (.int p3), .val (.int p4), .unset, .unset, .unset, .unset, .unset, .unset] [(.int (3 : Int32)), (.int p1)]) (fun _ k => XS.iconst X0.here hx rfl (hb hby at_1) k) ?_
  refine Go.to (mkF m 3 #[.val (.int p1), .val (.int p2), .val (.int p3), .val (.int p4), .unset, .unset, .unset, .unset, .unset, .unset] [(.int (p1 &&& (3 : Int32)))]) (fun _ k => XS.iand X0.here hx rfl (hb hby at_2) rfl k) ?_
  refine Go.to (mkF m 5 #[.val (.int p1), .val (.int p2), .val (.int p3), .val (.int p4), .val (.int (p1 &&& (3 : Int32))), .unset, .unset, .unset, .unset, .unset] []) (fun _ k => XS.istore X0.here hx rfl (hb hby at_3) rfl (l' := #[.val (.int p1), .val (.int p2), .val (.int p3), .val (.int p4), .val (.int (p1 &&& (3 : Int32))), .unset, .unset, .unset, .unset, .unset]) rfl k) ?_
  refine Go.to (mkF m 7 #[.val (.int p1), .val (.int p2), .val (.int p3), .val (.int p4), .val (.int (p1 &&& (3 : Int32))), .unset, .unset, .unset, .unset, .unset] [(.int (p1 &&& (3 : Int32)))]) (fun _ k => XS.iload X0.here hx rfl (hb hby at_5) rfl  k) ?_
  by_cases hs0 : (p1 &&& (3 : Int32)) = (0 : Int32)
  · refine Go.to (mkF m 10 #[.val (.int p1), .val (.int p2), .val (.int p3), .val (.int p4), .val (.int (p1 &&& (3 : Int32))), .unset, .unset, .unset, .unset, .unset] []) (fun _ k => XS.ifNo X0.here hx rfl (hb hby at_7) rfl ((if0 _ _).trans (teq hs0).2) k) ?_
    obtain ⟨a_1, T_1, h_1, b_1, k_1, X_1, e_1, E_1, hS_1, -, hZ_1, hown_1, x1_1, x2_1, x3_1, x4_1, I_1, L_1, st_1⟩ := own_ldcL (vs := own_str own_t0) (z := (6 : Int32)) X0 hx hZ hown (hw _ (List.mem_of_getElem? (i := 0) rfl)) (own_wS hw) e0 hS (Nat.zero_le _) (Fr.nil _) (fun b cl q => by rw [hh, ← hZh]; exact q) hJ (by decide) hl_0 hcw ⟨by decide +kernel, by decide +kernel⟩ (by decide) (by decide) (g := (mkF m 10 #[.val (.int p1), .val (.int p2), .val (.int p3), .val (.int p4), .val (.int (p1 &&& (3 : Int32))), .unset, .unset, .unset, .unset, .unset] [])) rfl (hb hby at_10) (n := 24) (by decide) (by decide) (by decide) (by decide)
    refine Go.to (mkF m 12 #[.val (.int p1), .val (.int p2), .val (.int p3), .val (.int p4), .val (.int (p1 &&& (3 : Int32))), .unset, .unset, .unset, .unset, .unset] [(.ref a_1)]) st_1 ?_
    have ov_1 : OwnV Z T_1.vm "com/example/statementbound/statementbound/statements/internal/KindOfElementPinLaw" a_1 own_t0 [""] own_es0 := OwnV.first I_1 (by decide +kernel) (own_allC (Or.inr ⟨L_1, rfl⟩) (own_allC (Or.inl (by decide +kernel)) (own_allC (Or.inl (by decide +kernel)) (own_allC (Or.inl (by decide +kernel)) own_allN))))
    refine Go.to (mkF m 39 #[.val (.int p1), .val (.int p2), .val (.int p3), .val (.int p4), .val (.int (p1 &&& (3 : Int32))), .unset, .unset, .unset, .unset, .unset] [(.ref a_1)]) (fun _ k => XS.goto X_1.here hx rfl (pc0 := 12) (pc' := 39) rfl (hb hby at_12) (by decide) (by decide) k) ?_
    have f_2 : Sta Z h_1 "java/lang/String" "COMPACT_STRINGS" "Z" (.int z) := (PS_java_lang_String_COMPACT_STRINGS.ext E_1)
    have f_3 : Sta Z h_1 "jdk/internal/util/Preconditions" "SIOOBE_FORMATTER" "Ljava/util/function/BiFunction;" fm := (PS_jdk_internal_util_Preconditions_SIOOBE_FORMATTER.ext E_1)
    have f_4 : Sta Z h_1 "com/example/statementbound/statementbound/statements/internal/Statement$Kind" "$VALUES" "[Lcom/example/statementbound/statementbound/statements/internal/Statement$Kind;" (.ref av) := (PS_com_example_statementbound_statementbound_statements_internal_Statement_Kind__VALUES.ext E_1)
    have f_5 : Exa Z h_1 av "[Lcom/example/statementbound/statementbound/statements/internal/Statement$Kind;" := (PE_av.ext E_1)
    have f_6 : Arv Z h_1 av kv (.object "com/example/statementbound/statementbound/statements/internal/Statement$Kind") (4 : Int32) [(.ref v0), (.ref v1), (.ref v2), (.ref v3)] .null := (PA_av.ext E_1)
    have f_7 : Fld Z h_1 v0 "com/example/statementbound/statementbound/statements/internal/Statement$Kind" "element" "Ljava/lang/String;" (.ref x0) := (PF_v0_element.ext E_1)
    have f_8 : Exa Z h_1 x0 "java/lang/String" := (PE_x0.ext E_1)
    have f_9 : Fld Z h_1 x0 "java/lang/String" "value" "[B" (.ref t0) := (PF_x0_value.ext E_1)
    have f_10 : Fld Z h_1 x0 "java/lang/String" "coder" "B" (.int (0 : Int32)) := (PF_x0_coder.ext E_1)
    have f_11 : Arv Z h_1 t0 kt0 .byte (6 : Int32) (own_str own_t0) (.int (0 : Int32)) := (PA_t0.ext E_1)
    have f_12 : Fld Z h_1 v1 "com/example/statementbound/statementbound/statements/internal/Statement$Kind" "element" "Ljava/lang/String;" (.ref x1) := (PF_v1_element.ext E_1)
    have f_13 : Exa Z h_1 x1 "java/lang/String" := (PE_x1.ext E_1)
    have f_14 : Fld Z h_1 x1 "java/lang/String" "value" "[B" (.ref t1) := (PF_x1_value.ext E_1)
    have f_15 : Fld Z h_1 x1 "java/lang/String" "coder" "B" (.int (0 : Int32)) := (PF_x1_coder.ext E_1)
    have f_16 : Arv Z h_1 t1 kt1 .byte (6 : Int32) (own_str own_t1) (.int (0 : Int32)) := (PA_t1.ext E_1)
    have f_17 : Fld Z h_1 v2 "com/example/statementbound/statementbound/statements/internal/Statement$Kind" "element" "Ljava/lang/String;" (.ref x2) := (PF_v2_element.ext E_1)
    have f_18 : Exa Z h_1 x2 "java/lang/String" := (PE_x2.ext E_1)
    have f_19 : Fld Z h_1 x2 "java/lang/String" "value" "[B" (.ref t2) := (PF_x2_value.ext E_1)
    have f_20 : Fld Z h_1 x2 "java/lang/String" "coder" "B" (.int (0 : Int32)) := (PF_x2_coder.ext E_1)
    have f_21 : Arv Z h_1 t2 kt2 .byte (6 : Int32) (own_str own_t2) (.int (0 : Int32)) := (PA_t2.ext E_1)
    have f_22 : Fld Z h_1 v3 "com/example/statementbound/statementbound/statements/internal/Statement$Kind" "element" "Ljava/lang/String;" (.ref x3) := (PF_v3_element.ext E_1)
    have f_23 : Exa Z h_1 x3 "java/lang/String" := (PE_x3.ext E_1)
    have f_24 : Fld Z h_1 x3 "java/lang/String" "value" "[B" (.ref t3) := (PF_x3_value.ext E_1)
    have f_25 : Fld Z h_1 x3 "java/lang/String" "coder" "B" (.int (0 : Int32)) := (PF_x3_coder.ext E_1)
    have f_26 : Arv Z h_1 t3 kt3 .byte (6 : Int32) (own_str own_t3) (.int (0 : Int32)) := (PA_t3.ext E_1)
    have f_27 : Sta Z h_1 "com/example/statementbound/statementbound/statements/internal/Statement$Kind" "SELECT" "Lcom/example/statementbound/statementbound/statements/internal/Statement$Kind;" (.ref v0) := (PS_com_example_statementbound_statementbound_statements_internal_Statement_Kind_SELECT.ext E_1)
    have f_28 : Sta Z h_1 "com/example/statementbound/statementbound/statements/internal/Statement$Kind" "INSERT" "Lcom/example/statementbound/statementbound/statements/internal/Statement$Kind;" (.ref v1) := (PS_com_example_statementbound_statementbound_statements_internal_Statement_Kind_INSERT.ext E_1)
    have f_29 : Sta Z h_1 "com/example/statementbound/statementbound/statements/internal/Statement$Kind" "UPDATE" "Lcom/example/statementbound/statementbound/statements/internal/Statement$Kind;" (.ref v2) := (PS_com_example_statementbound_statementbound_statements_internal_Statement_Kind_UPDATE.ext E_1)
    have f_30 : Sta Z h_1 "com/example/statementbound/statementbound/statements/internal/Statement$Kind" "DELETE" "Lcom/example/statementbound/statementbound/statements/internal/Statement$Kind;" (.ref v3) := (PS_com_example_statementbound_statementbound_statements_internal_Statement_Kind_DELETE.ext E_1)
    have f_31 : n0 ≤ h_1.size := (Nat.le_trans Z0 E_1.1)
    have f_32 : Keep h0 h_1 [] := ((Keep.refl h0 []).ext E_1)
    exact own_s39 l Z a0 hw p1 p2 p3 p4 av kv v0 v1 v2 v3 x0 t0 kt0 x1 t1 kt1 x2 t2 kt2 x3 t3 kt3 z fm a_1 b_1 k_1 (115 : Int32) (101 : Int32) (108 : Int32) (101 : Int32) (99 : Int32) (116 : Int32) h0 p e s m below meth c _ _ _ _ hx hZ_1 hby hml hown_1 hnm hret hlk _ n0 f_31 (X_1.more (by decide) (by decide)) e_1 N0 hS_1 (Nat.le_refl _) f_32 f_2 f_3 f_4 f_5 f_6 f_7 f_8 f_9 f_10 f_11 f_12 f_13 f_14 f_15 f_16 f_17 f_18 f_19 f_20 f_21 f_22 f_23 f_24 f_25 f_26 f_27 f_28 f_29 f_30 x1_1 x3_1 x2_1 x4_1 hz rf hcw hlS hl_0 hl_1 hl_2 hl_3 hZh (by decide) (by decide) (by decide) (by decide) (by decide) (by decide) ov_1
  · refine Go.to (mkF m 15 #[.val (.int p1), .val (.int p2), .val (.int p3), .val (.int p4), .val (.int (p1 &&& (3 : Int32))), .unset, .unset, .unset, .unset, .unset] []) (fun _ k => XS.ifYes X0.here hx rfl (pc0 := 7) (pc' := 15) rfl (hb hby at_7) rfl ((if0 _ _).trans (feq hs0).2) (by decide) (by decide) k) ?_
    refine Go.to (mkF m 17 #[.val (.int p1), .val (.int p2), .val (.int p3), .val (.int p4), .val (.int (p1 &&& (3 : Int32))), .unset, .unset, .unset, .unset, .unset] [(.int (p1 &&& (3 : Int32)))]) (fun _ k => XS.iload X0.here hx rfl (hb hby at_15) rfl  k) ?_
    refine Go.to (mkF m 18 #[.val (.int p1), .val (.int p2), .val (.int p3), .val (.int p4), .val (.int (p1 &&& (3 : Int32))), .unset, .unset, .unset, .unset, .unset] [(.int (1 : Int32)), (.int (p1 &&& (3 : Int32)))]) (fun _ k => XS.iconst X0.here hx rfl (hb hby at_17) k) ?_
    by_cases hs1 : (p1 &&& (3 : Int32)) = (1 : Int32)
    · refine Go.to (mkF m 21 #[.val (.int p1), .val (.int p2), .val (.int p3), .val (.int p4), .val (.int (p1 &&& (3 : Int32))), .unset, .unset, .unset, .unset, .unset] []) (fun _ k => XS.icmpNo X0.here hx rfl (hb hby at_18) rfl (teq hs1).2 k) ?_
      obtain ⟨a_33, T_33, h_33, b_33, k_33, X_33, e_33, E_33, hS_33, -, hZ_33, hown_33, x1_33, x2_33, x3_33, x4_33, I_33, L_33, st_33⟩ := own_ldcL (vs := own_str own_t1) (z := (6 : Int32)) X0 hx hZ hown (hw _ (List.mem_of_getElem? (i := 98) rfl)) (own_wS hw) e0 hS (Nat.zero_le _) (Fr.nil _) (fun b cl q => by rw [hh, ← hZh]; exact q) hJ (by decide) hl_1 hcw ⟨by decide +kernel, by decide +kernel⟩ (by decide) (by decide) (g := (mkF m 21 #[.val (.int p1), .val (.int p2), .val (.int p3), .val (.int p4), .val (.int (p1 &&& (3 : Int32))), .unset, .unset, .unset, .unset, .unset] [])) rfl (hb hby at_21) (n := 24) (by decide) (by decide) (by decide) (by decide)
      refine Go.to (mkF m 23 #[.val (.int p1), .val (.int p2), .val (.int p3), .val (.int p4), .val (.int (p1 &&& (3 : Int32))), .unset, .unset, .unset, .unset, .unset] [(.ref a_33)]) st_33 ?_
      have ov_33 : OwnV Z T_33.vm "com/example/statementbound/statementbound/statements/internal/KindOfElementPinLaw" a_33 own_t1 [""] own_es0 := OwnV.first I_33 (by decide +kernel) (own_allC (Or.inl (by decide +kernel)) (own_allC (Or.inr ⟨L_33, rfl⟩) (own_allC (Or.inl (by decide +kernel)) (own_allC (Or.inl (by decide +kernel)) own_allN))))
      refine Go.to (mkF m 39 #[.val (.int p1), .val (.int p2), .val (.int p3), .val (.int p4), .val (.int (p1 &&& (3 : Int32))), .unset, .unset, .unset, .unset, .unset] [(.ref a_33)]) (fun _ k => XS.goto X_33.here hx rfl (pc0 := 23) (pc' := 39) rfl (hb hby at_23) (by decide) (by decide) k) ?_
      have f_34 : Sta Z h_33 "java/lang/String" "COMPACT_STRINGS" "Z" (.int z) := (PS_java_lang_String_COMPACT_STRINGS.ext E_33)
      have f_35 : Sta Z h_33 "jdk/internal/util/Preconditions" "SIOOBE_FORMATTER" "Ljava/util/function/BiFunction;" fm := (PS_jdk_internal_util_Preconditions_SIOOBE_FORMATTER.ext E_33)
      have f_36 : Sta Z h_33 "com/example/statementbound/statementbound/statements/internal/Statement$Kind" "$VALUES" "[Lcom/example/statementbound/statementbound/statements/internal/Statement$Kind;" (.ref av) := (PS_com_example_statementbound_statementbound_statements_internal_Statement_Kind__VALUES.ext E_33)
      have f_37 : Exa Z h_33 av "[Lcom/example/statementbound/statementbound/statements/internal/Statement$Kind;" := (PE_av.ext E_33)
      have f_38 : Arv Z h_33 av kv (.object "com/example/statementbound/statementbound/statements/internal/Statement$Kind") (4 : Int32) [(.ref v0), (.ref v1), (.ref v2), (.ref v3)] .null := (PA_av.ext E_33)
      have f_39 : Fld Z h_33 v0 "com/example/statementbound/statementbound/statements/internal/Statement$Kind" "element" "Ljava/lang/String;" (.ref x0) := (PF_v0_element.ext E_33)
      have f_40 : Exa Z h_33 x0 "java/lang/String" := (PE_x0.ext E_33)
      have f_41 : Fld Z h_33 x0 "java/lang/String" "value" "[B" (.ref t0) := (PF_x0_value.ext E_33)
      have f_42 : Fld Z h_33 x0 "java/lang/String" "coder" "B" (.int (0 : Int32)) := (PF_x0_coder.ext E_33)
      have f_43 : Arv Z h_33 t0 kt0 .byte (6 : Int32) (own_str own_t0) (.int (0 : Int32)) := (PA_t0.ext E_33)
      have f_44 : Fld Z h_33 v1 "com/example/statementbound/statementbound/statements/internal/Statement$Kind" "element" "Ljava/lang/String;" (.ref x1) := (PF_v1_element.ext E_33)
      have f_45 : Exa Z h_33 x1 "java/lang/String" := (PE_x1.ext E_33)
      have f_46 : Fld Z h_33 x1 "java/lang/String" "value" "[B" (.ref t1) := (PF_x1_value.ext E_33)
      have f_47 : Fld Z h_33 x1 "java/lang/String" "coder" "B" (.int (0 : Int32)) := (PF_x1_coder.ext E_33)
      have f_48 : Arv Z h_33 t1 kt1 .byte (6 : Int32) (own_str own_t1) (.int (0 : Int32)) := (PA_t1.ext E_33)
      have f_49 : Fld Z h_33 v2 "com/example/statementbound/statementbound/statements/internal/Statement$Kind" "element" "Ljava/lang/String;" (.ref x2) := (PF_v2_element.ext E_33)
      have f_50 : Exa Z h_33 x2 "java/lang/String" := (PE_x2.ext E_33)
      have f_51 : Fld Z h_33 x2 "java/lang/String" "value" "[B" (.ref t2) := (PF_x2_value.ext E_33)
      have f_52 : Fld Z h_33 x2 "java/lang/String" "coder" "B" (.int (0 : Int32)) := (PF_x2_coder.ext E_33)
      have f_53 : Arv Z h_33 t2 kt2 .byte (6 : Int32) (own_str own_t2) (.int (0 : Int32)) := (PA_t2.ext E_33)
      have f_54 : Fld Z h_33 v3 "com/example/statementbound/statementbound/statements/internal/Statement$Kind" "element" "Ljava/lang/String;" (.ref x3) := (PF_v3_element.ext E_33)
      have f_55 : Exa Z h_33 x3 "java/lang/String" := (PE_x3.ext E_33)
      have f_56 : Fld Z h_33 x3 "java/lang/String" "value" "[B" (.ref t3) := (PF_x3_value.ext E_33)
      have f_57 : Fld Z h_33 x3 "java/lang/String" "coder" "B" (.int (0 : Int32)) := (PF_x3_coder.ext E_33)
      have f_58 : Arv Z h_33 t3 kt3 .byte (6 : Int32) (own_str own_t3) (.int (0 : Int32)) := (PA_t3.ext E_33)
      have f_59 : Sta Z h_33 "com/example/statementbound/statementbound/statements/internal/Statement$Kind" "SELECT" "Lcom/example/statementbound/statementbound/statements/internal/Statement$Kind;" (.ref v0) := (PS_com_example_statementbound_statementbound_statements_internal_Statement_Kind_SELECT.ext E_33)
      have f_60 : Sta Z h_33 "com/example/statementbound/statementbound/statements/internal/Statement$Kind" "INSERT" "Lcom/example/statementbound/statementbound/statements/internal/Statement$Kind;" (.ref v1) := (PS_com_example_statementbound_statementbound_statements_internal_Statement_Kind_INSERT.ext E_33)
      have f_61 : Sta Z h_33 "com/example/statementbound/statementbound/statements/internal/Statement$Kind" "UPDATE" "Lcom/example/statementbound/statementbound/statements/internal/Statement$Kind;" (.ref v2) := (PS_com_example_statementbound_statementbound_statements_internal_Statement_Kind_UPDATE.ext E_33)
      have f_62 : Sta Z h_33 "com/example/statementbound/statementbound/statements/internal/Statement$Kind" "DELETE" "Lcom/example/statementbound/statementbound/statements/internal/Statement$Kind;" (.ref v3) := (PS_com_example_statementbound_statementbound_statements_internal_Statement_Kind_DELETE.ext E_33)
      have f_63 : n0 ≤ h_33.size := (Nat.le_trans Z0 E_33.1)
      have f_64 : Keep h0 h_33 [] := ((Keep.refl h0 []).ext E_33)
      exact own_s39 l Z a0 hw p1 p2 p3 p4 av kv v0 v1 v2 v3 x0 t0 kt0 x1 t1 kt1 x2 t2 kt2 x3 t3 kt3 z fm a_33 b_33 k_33 (105 : Int32) (110 : Int32) (115 : Int32) (101 : Int32) (114 : Int32) (116 : Int32) h0 p e s m below meth c _ _ _ _ hx hZ_33 hby hml hown_33 hnm hret hlk _ n0 f_63 (X_33.more (by decide) (by decide)) e_33 N0 hS_33 (Nat.le_refl _) f_64 f_34 f_35 f_36 f_37 f_38 f_39 f_40 f_41 f_42 f_43 f_44 f_45 f_46 f_47 f_48 f_49 f_50 f_51 f_52 f_53 f_54 f_55 f_56 f_57 f_58 f_59 f_60 f_61 f_62 x1_33 x3_33 x2_33 x4_33 hz rf hcw hlS hl_0 hl_1 hl_2 hl_3 hZh (by decide) (by decide) (by decide) (by decide) (by decide) (by decide) ov_33
    · refine Go.to (mkF m 26 #[.val (.int p1), .val (.int p2), .val (.int p3), .val (.int p4), .val (.int (p1 &&& (3 : Int32))), .unset, .unset, .unset, .unset, .unset] []) (fun _ k => XS.icmpYes X0.here hx rfl (pc0 := 18) (pc' := 26) rfl (hb hby at_18) rfl (feq hs1).2 (by decide) (by decide) k) ?_
      refine Go.to (mkF m 28 #[.val (.int p1), .val (.int p2), .val (.int p3), .val (.int p4), .val (.int (p1 &&& (3 : Int32))), .unset, .unset, .unset, .unset, .unset] [(.int (p1 &&& (3 : Int32)))]) (fun _ k => XS.iload X0.here hx rfl (hb hby at_26) rfl  k) ?_
      refine Go.to (mkF m 29 #[.val (.int p1), .val (.int p2), .val (.int p3), .val (.int p4), .val (.int (p1 &&& (3 : Int32))), .unset, .unset, .unset, .unset, .unset] [(.int (2 : Int32)), (.int (p1 &&& (3 : Int32)))]) (fun _ k => XS.iconst X0.here hx rfl (hb hby at_28) k) ?_
      by_cases hs2 : (p1 &&& (3 : Int32)) = (2 : Int32)
      · refine Go.to (mkF m 32 #[.val (.int p1), .val (.int p2), .val (.int p3), .val (.int p4), .val (.int (p1 &&& (3 : Int32))), .unset, .unset, .unset, .unset, .unset] []) (fun _ k => XS.icmpNo X0.here hx rfl (hb hby at_29) rfl (teq hs2).2 k) ?_
        obtain ⟨a_65, T_65, h_65, b_65, k_65, X_65, e_65, E_65, hS_65, -, hZ_65, hown_65, x1_65, x2_65, x3_65, x4_65, I_65, L_65, st_65⟩ := own_ldcL (vs := own_str own_t2) (z := (6 : Int32)) X0 hx hZ hown (hw _ (List.mem_of_getElem? (i := 99) rfl)) (own_wS hw) e0 hS (Nat.zero_le _) (Fr.nil _) (fun b cl q => by rw [hh, ← hZh]; exact q) hJ (by decide) hl_2 hcw ⟨by decide +kernel, by decide +kernel⟩ (by decide) (by decide) (g := (mkF m 32 #[.val (.int p1), .val (.int p2), .val (.int p3), .val (.int p4), .val (.int (p1 &&& (3 : Int32))), .unset, .unset, .unset, .unset, .unset] [])) rfl (hb hby at_32) (n := 24) (by decide) (by decide) (by decide) (by decide)
        refine Go.to (mkF m 34 #[.val (.int p1), .val (.int p2), .val (.int p3), .val (.int p4), .val (.int (p1 &&& (3 : Int32))), .unset, .unset, .unset, .unset, .unset] [(.ref a_65)]) st_65 ?_
        have ov_65 : OwnV Z T_65.vm "com/example/statementbound/statementbound/statements/internal/KindOfElementPinLaw" a_65 own_t2 [""] own_es0 := OwnV.first I_65 (by decide +kernel) (own_allC (Or.inl (by decide +kernel)) (own_allC (Or.inl (by decide +kernel)) (own_allC (Or.inr ⟨L_65, rfl⟩) (own_allC (Or.inl (by decide +kernel)) own_allN))))
        refine Go.to (mkF m 39 #[.val (.int p1), .val (.int p2), .val (.int p3), .val (.int p4), .val (.int (p1 &&& (3 : Int32))), .unset, .unset, .unset, .unset, .unset] [(.ref a_65)]) (fun _ k => XS.goto X_65.here hx rfl (pc0 := 34) (pc' := 39) rfl (hb hby at_34) (by decide) (by decide) k) ?_
        have f_66 : Sta Z h_65 "java/lang/String" "COMPACT_STRINGS" "Z" (.int z) := (PS_java_lang_String_COMPACT_STRINGS.ext E_65)
        have f_67 : Sta Z h_65 "jdk/internal/util/Preconditions" "SIOOBE_FORMATTER" "Ljava/util/function/BiFunction;" fm := (PS_jdk_internal_util_Preconditions_SIOOBE_FORMATTER.ext E_65)
        have f_68 : Sta Z h_65 "com/example/statementbound/statementbound/statements/internal/Statement$Kind" "$VALUES" "[Lcom/example/statementbound/statementbound/statements/internal/Statement$Kind;" (.ref av) := (PS_com_example_statementbound_statementbound_statements_internal_Statement_Kind__VALUES.ext E_65)
        have f_69 : Exa Z h_65 av "[Lcom/example/statementbound/statementbound/statements/internal/Statement$Kind;" := (PE_av.ext E_65)
        have f_70 : Arv Z h_65 av kv (.object "com/example/statementbound/statementbound/statements/internal/Statement$Kind") (4 : Int32) [(.ref v0), (.ref v1), (.ref v2), (.ref v3)] .null := (PA_av.ext E_65)
        have f_71 : Fld Z h_65 v0 "com/example/statementbound/statementbound/statements/internal/Statement$Kind" "element" "Ljava/lang/String;" (.ref x0) := (PF_v0_element.ext E_65)
        have f_72 : Exa Z h_65 x0 "java/lang/String" := (PE_x0.ext E_65)
        have f_73 : Fld Z h_65 x0 "java/lang/String" "value" "[B" (.ref t0) := (PF_x0_value.ext E_65)
        have f_74 : Fld Z h_65 x0 "java/lang/String" "coder" "B" (.int (0 : Int32)) := (PF_x0_coder.ext E_65)
        have f_75 : Arv Z h_65 t0 kt0 .byte (6 : Int32) (own_str own_t0) (.int (0 : Int32)) := (PA_t0.ext E_65)
        have f_76 : Fld Z h_65 v1 "com/example/statementbound/statementbound/statements/internal/Statement$Kind" "element" "Ljava/lang/String;" (.ref x1) := (PF_v1_element.ext E_65)
        have f_77 : Exa Z h_65 x1 "java/lang/String" := (PE_x1.ext E_65)
        have f_78 : Fld Z h_65 x1 "java/lang/String" "value" "[B" (.ref t1) := (PF_x1_value.ext E_65)
        have f_79 : Fld Z h_65 x1 "java/lang/String" "coder" "B" (.int (0 : Int32)) := (PF_x1_coder.ext E_65)
        have f_80 : Arv Z h_65 t1 kt1 .byte (6 : Int32) (own_str own_t1) (.int (0 : Int32)) := (PA_t1.ext E_65)
        have f_81 : Fld Z h_65 v2 "com/example/statementbound/statementbound/statements/internal/Statement$Kind" "element" "Ljava/lang/String;" (.ref x2) := (PF_v2_element.ext E_65)
        have f_82 : Exa Z h_65 x2 "java/lang/String" := (PE_x2.ext E_65)
        have f_83 : Fld Z h_65 x2 "java/lang/String" "value" "[B" (.ref t2) := (PF_x2_value.ext E_65)
        have f_84 : Fld Z h_65 x2 "java/lang/String" "coder" "B" (.int (0 : Int32)) := (PF_x2_coder.ext E_65)
        have f_85 : Arv Z h_65 t2 kt2 .byte (6 : Int32) (own_str own_t2) (.int (0 : Int32)) := (PA_t2.ext E_65)
        have f_86 : Fld Z h_65 v3 "com/example/statementbound/statementbound/statements/internal/Statement$Kind" "element" "Ljava/lang/String;" (.ref x3) := (PF_v3_element.ext E_65)
        have f_87 : Exa Z h_65 x3 "java/lang/String" := (PE_x3.ext E_65)
        have f_88 : Fld Z h_65 x3 "java/lang/String" "value" "[B" (.ref t3) := (PF_x3_value.ext E_65)
        have f_89 : Fld Z h_65 x3 "java/lang/String" "coder" "B" (.int (0 : Int32)) := (PF_x3_coder.ext E_65)
        have f_90 : Arv Z h_65 t3 kt3 .byte (6 : Int32) (own_str own_t3) (.int (0 : Int32)) := (PA_t3.ext E_65)
        have f_91 : Sta Z h_65 "com/example/statementbound/statementbound/statements/internal/Statement$Kind" "SELECT" "Lcom/example/statementbound/statementbound/statements/internal/Statement$Kind;" (.ref v0) := (PS_com_example_statementbound_statementbound_statements_internal_Statement_Kind_SELECT.ext E_65)
        have f_92 : Sta Z h_65 "com/example/statementbound/statementbound/statements/internal/Statement$Kind" "INSERT" "Lcom/example/statementbound/statementbound/statements/internal/Statement$Kind;" (.ref v1) := (PS_com_example_statementbound_statementbound_statements_internal_Statement_Kind_INSERT.ext E_65)
        have f_93 : Sta Z h_65 "com/example/statementbound/statementbound/statements/internal/Statement$Kind" "UPDATE" "Lcom/example/statementbound/statementbound/statements/internal/Statement$Kind;" (.ref v2) := (PS_com_example_statementbound_statementbound_statements_internal_Statement_Kind_UPDATE.ext E_65)
        have f_94 : Sta Z h_65 "com/example/statementbound/statementbound/statements/internal/Statement$Kind" "DELETE" "Lcom/example/statementbound/statementbound/statements/internal/Statement$Kind;" (.ref v3) := (PS_com_example_statementbound_statementbound_statements_internal_Statement_Kind_DELETE.ext E_65)
        have f_95 : n0 ≤ h_65.size := (Nat.le_trans Z0 E_65.1)
        have f_96 : Keep h0 h_65 [] := ((Keep.refl h0 []).ext E_65)
        exact own_s39 l Z a0 hw p1 p2 p3 p4 av kv v0 v1 v2 v3 x0 t0 kt0 x1 t1 kt1 x2 t2 kt2 x3 t3 kt3 z fm a_65 b_65 k_65 (117 : Int32) (112 : Int32) (100 : Int32) (97 : Int32) (116 : Int32) (101 : Int32) h0 p e s m below meth c _ _ _ _ hx hZ_65 hby hml hown_65 hnm hret hlk _ n0 f_95 (X_65.more (by decide) (by decide)) e_65 N0 hS_65 (Nat.le_refl _) f_96 f_66 f_67 f_68 f_69 f_70 f_71 f_72 f_73 f_74 f_75 f_76 f_77 f_78 f_79 f_80 f_81 f_82 f_83 f_84 f_85 f_86 f_87 f_88 f_89 f_90 f_91 f_92 f_93 f_94 x1_65 x3_65 x2_65 x4_65 hz rf hcw hlS hl_0 hl_1 hl_2 hl_3 hZh (by decide) (by decide) (by decide) (by decide) (by decide) (by decide) ov_65
      · refine Go.to (mkF m 37 #[.val (.int p1), .val (.int p2), .val (.int p3), .val (.int p4), .val (.int (p1 &&& (3 : Int32))), .unset, .unset, .unset, .unset, .unset] []) (fun _ k => XS.icmpYes X0.here hx rfl (pc0 := 29) (pc' := 37) rfl (hb hby at_29) rfl (feq hs2).2 (by decide) (by decide) k) ?_
        obtain ⟨a_97, T_97, h_97, b_97, k_97, X_97, e_97, E_97, hS_97, -, hZ_97, hown_97, x1_97, x2_97, x3_97, x4_97, I_97, L_97, st_97⟩ := own_ldcL (vs := own_str own_t3) (z := (6 : Int32)) X0 hx hZ hown (hw _ (List.mem_of_getElem? (i := 100) rfl)) (own_wS hw) e0 hS (Nat.zero_le _) (Fr.nil _) (fun b cl q => by rw [hh, ← hZh]; exact q) hJ (by decide) hl_3 hcw ⟨by decide +kernel, by decide +kernel⟩ (by decide) (by decide) (g := (mkF m 37 #[.val (.int p1), .val (.int p2), .val (.int p3), .val (.int p4), .val (.int (p1 &&& (3 : Int32))), .unset, .unset, .unset, .unset, .unset] [])) rfl (hb hby at_37) (n := 24) (by decide) (by decide) (by decide) (by decide)
        refine Go.to (mkF m 39 #[.val (.int p1), .val (.int p2), .val (.int p3), .val (.int p4), .val (.int (p1 &&& (3 : Int32))), .unset, .unset, .unset, .unset, .unset] [(.ref a_97)]) st_97 ?_
        have ov_97 : OwnV Z T_97.vm "com/example/statementbound/statementbound/statements/internal/KindOfElementPinLaw" a_97 own_t3 [""] own_es0 := OwnV.first I_97 (by decide +kernel) (own_allC (Or.inl (by decide +kernel)) (own_allC (Or.inl (by decide +kernel)) (own_allC (Or.inl (by decide +kernel)) (own_allC (Or.inr ⟨L_97, rfl⟩) own_allN))))
        have f_98 : Sta Z h_97 "java/lang/String" "COMPACT_STRINGS" "Z" (.int z) := (PS_java_lang_String_COMPACT_STRINGS.ext E_97)
        have f_99 : Sta Z h_97 "jdk/internal/util/Preconditions" "SIOOBE_FORMATTER" "Ljava/util/function/BiFunction;" fm := (PS_jdk_internal_util_Preconditions_SIOOBE_FORMATTER.ext E_97)
        have f_100 : Sta Z h_97 "com/example/statementbound/statementbound/statements/internal/Statement$Kind" "$VALUES" "[Lcom/example/statementbound/statementbound/statements/internal/Statement$Kind;" (.ref av) := (PS_com_example_statementbound_statementbound_statements_internal_Statement_Kind__VALUES.ext E_97)
        have f_101 : Exa Z h_97 av "[Lcom/example/statementbound/statementbound/statements/internal/Statement$Kind;" := (PE_av.ext E_97)
        have f_102 : Arv Z h_97 av kv (.object "com/example/statementbound/statementbound/statements/internal/Statement$Kind") (4 : Int32) [(.ref v0), (.ref v1), (.ref v2), (.ref v3)] .null := (PA_av.ext E_97)
        have f_103 : Fld Z h_97 v0 "com/example/statementbound/statementbound/statements/internal/Statement$Kind" "element" "Ljava/lang/String;" (.ref x0) := (PF_v0_element.ext E_97)
        have f_104 : Exa Z h_97 x0 "java/lang/String" := (PE_x0.ext E_97)
        have f_105 : Fld Z h_97 x0 "java/lang/String" "value" "[B" (.ref t0) := (PF_x0_value.ext E_97)
        have f_106 : Fld Z h_97 x0 "java/lang/String" "coder" "B" (.int (0 : Int32)) := (PF_x0_coder.ext E_97)
        have f_107 : Arv Z h_97 t0 kt0 .byte (6 : Int32) (own_str own_t0) (.int (0 : Int32)) := (PA_t0.ext E_97)
        have f_108 : Fld Z h_97 v1 "com/example/statementbound/statementbound/statements/internal/Statement$Kind" "element" "Ljava/lang/String;" (.ref x1) := (PF_v1_element.ext E_97)
        have f_109 : Exa Z h_97 x1 "java/lang/String" := (PE_x1.ext E_97)
        have f_110 : Fld Z h_97 x1 "java/lang/String" "value" "[B" (.ref t1) := (PF_x1_value.ext E_97)
        have f_111 : Fld Z h_97 x1 "java/lang/String" "coder" "B" (.int (0 : Int32)) := (PF_x1_coder.ext E_97)
        have f_112 : Arv Z h_97 t1 kt1 .byte (6 : Int32) (own_str own_t1) (.int (0 : Int32)) := (PA_t1.ext E_97)
        have f_113 : Fld Z h_97 v2 "com/example/statementbound/statementbound/statements/internal/Statement$Kind" "element" "Ljava/lang/String;" (.ref x2) := (PF_v2_element.ext E_97)
        have f_114 : Exa Z h_97 x2 "java/lang/String" := (PE_x2.ext E_97)
        have f_115 : Fld Z h_97 x2 "java/lang/String" "value" "[B" (.ref t2) := (PF_x2_value.ext E_97)
        have f_116 : Fld Z h_97 x2 "java/lang/String" "coder" "B" (.int (0 : Int32)) := (PF_x2_coder.ext E_97)
        have f_117 : Arv Z h_97 t2 kt2 .byte (6 : Int32) (own_str own_t2) (.int (0 : Int32)) := (PA_t2.ext E_97)
        have f_118 : Fld Z h_97 v3 "com/example/statementbound/statementbound/statements/internal/Statement$Kind" "element" "Ljava/lang/String;" (.ref x3) := (PF_v3_element.ext E_97)
        have f_119 : Exa Z h_97 x3 "java/lang/String" := (PE_x3.ext E_97)
        have f_120 : Fld Z h_97 x3 "java/lang/String" "value" "[B" (.ref t3) := (PF_x3_value.ext E_97)
        have f_121 : Fld Z h_97 x3 "java/lang/String" "coder" "B" (.int (0 : Int32)) := (PF_x3_coder.ext E_97)
        have f_122 : Arv Z h_97 t3 kt3 .byte (6 : Int32) (own_str own_t3) (.int (0 : Int32)) := (PA_t3.ext E_97)
        have f_123 : Sta Z h_97 "com/example/statementbound/statementbound/statements/internal/Statement$Kind" "SELECT" "Lcom/example/statementbound/statementbound/statements/internal/Statement$Kind;" (.ref v0) := (PS_com_example_statementbound_statementbound_statements_internal_Statement_Kind_SELECT.ext E_97)
        have f_124 : Sta Z h_97 "com/example/statementbound/statementbound/statements/internal/Statement$Kind" "INSERT" "Lcom/example/statementbound/statementbound/statements/internal/Statement$Kind;" (.ref v1) := (PS_com_example_statementbound_statementbound_statements_internal_Statement_Kind_INSERT.ext E_97)
        have f_125 : Sta Z h_97 "com/example/statementbound/statementbound/statements/internal/Statement$Kind" "UPDATE" "Lcom/example/statementbound/statementbound/statements/internal/Statement$Kind;" (.ref v2) := (PS_com_example_statementbound_statementbound_statements_internal_Statement_Kind_UPDATE.ext E_97)
        have f_126 : Sta Z h_97 "com/example/statementbound/statementbound/statements/internal/Statement$Kind" "DELETE" "Lcom/example/statementbound/statementbound/statements/internal/Statement$Kind;" (.ref v3) := (PS_com_example_statementbound_statementbound_statements_internal_Statement_Kind_DELETE.ext E_97)
        have f_127 : n0 ≤ h_97.size := (Nat.le_trans Z0 E_97.1)
        have f_128 : Keep h0 h_97 [] := ((Keep.refl h0 []).ext E_97)
        exact own_s39 l Z a0 hw p1 p2 p3 p4 av kv v0 v1 v2 v3 x0 t0 kt0 x1 t1 kt1 x2 t2 kt2 x3 t3 kt3 z fm a_97 b_97 k_97 (100 : Int32) (101 : Int32) (108 : Int32) (101 : Int32) (116 : Int32) (101 : Int32) h0 p e s m below meth c _ _ _ _ hx hZ_97 hby hml hown_97 hnm hret hlk _ n0 f_127 (X_97.more (by decide) (by decide)) e_97 N0 hS_97 (Nat.le_refl _) f_128 f_98 f_99 f_100 f_101 f_102 f_103 f_104 f_105 f_106 f_107 f_108 f_109 f_110 f_111 f_112 f_113 f_114 f_115 f_116 f_117 f_118 f_119 f_120 f_121 f_122 f_123 f_124 f_125 f_126 x1_97 x3_97 x2_97 x4_97 hz rf hcw hlS hl_0 hl_1 hl_2 hl_3 hZh (by decide) (by decide) (by decide) (by decide) (by decide) (by decide) ov_97
set_option maxRecDepth 65536 in
set_option maxHeartbeats 40000000 in
theorem comes_1 {Post : Tables → Env → Array Value → State → Outcome → State → Prop} (hpost : ∀ tb e args s v u, (limb_1_1.after args s (.returned v) u = true ∧ limb_1_2.after args s (.returned v) u = true ∧ True) → ReturnedEndW s (.returned v) u (Jvm.fieldLocs frame_1_writes args s ++ Jvm.arrayLocs frame_1_arrays args s ++ Jvm.staticLocs frame_1_statics s) 32 5312 → Post tb e args s (.returned v) u) :
    ArmFor flags0 classFile x code maxLocals ret World_1 tables_1 room_1 Calls_1 rest_1 Pre_1 Post := by
  intro l hfl _ _ p e ha hc hk s m args below hf hA hF happ hP
  obtain ⟨hcalls, hrest, hpre⟩ := hP
  obtain ⟨-, -, -, hnamed, -, -, -, hat⟩ := (Spec.applies_iff hf).mp happ
  obtain ⟨hg, hn⟩ := and_e (Cond.before_iff.mp (show (Jvm.Cond.and given_1 narrow_1).before args s = true from hpre))
  obtain ⟨gc, ga0⟩ := and_e hg
  obtain ⟨gv0, ga1⟩ := and_e ga0
  obtain ⟨gv1, ga2⟩ := and_e ga1
  obtain ⟨gv2, ga3⟩ := and_e ga2
  have gv3 := ga3
  obtain ⟨w0, w1, w2, w3, rfl⟩ : ∃ w0 w1 w2 w3 : Value, args = #[w0, w1, w2, w3] := by
    have hs : args.size = 4 := by simpa [Cond.value, given_1] using gc
    obtain ⟨L⟩ := args
    match L, hs with
    | [w0, w1, w2, w3], _ => exact ⟨w0, w1, w2, w3, rfl⟩
  have hw := fun d (hd : d ∈ tables_1) => atoms_spec (ws := Jvm.Cond.code x code maxLocals ret :: tables_1) hat d (List.mem_cons_of_mem _ hd)
  have hfit : Fit s := fun {y c} hc i hi => by
    obtain ⟨ha, rfl⟩ := Array.getElem?_eq_some_iff.mp hc
    have q := List.all_eq_true.mp ((Array.all_eq_true_iff_forall_mem.mp hF) _ (Array.getElem_mem ha)) i (List.mem_range.mpr hi)
    simpa [Array.getElem?_eq_getElem hi] using q
  obtain ⟨hsets, hown0⟩ := atoms_of _ (rest_1_c_eq ▸ (show rest_1_c.before _ s = true from hrest))
  obtain ⟨i0, ei0⟩ := is_v gv0
  obtain rfl : w0 = (.int i0) := Option.some.inj ei0
  obtain ⟨i1, ei1⟩ := is_v gv1
  obtain rfl : w1 = (.int i1) := Option.some.inj ei1
  obtain ⟨i2, ei2⟩ := is_v gv2
  obtain rfl : w2 = (.int i2) := Option.some.inj ei2
  obtain ⟨i3, ei3⟩ := is_v gv3
  obtain rfl : w3 = (.int i3) := Option.some.inj ei3
  obtain ⟨m0, hn⟩ := and_e hn
  obtain ⟨m1, hn⟩ := and_e hn
  obtain ⟨m2, hn⟩ := and_e hn
  obtain ⟨n0, hn⟩ := and_e hn
  obtain ⟨q0, hn⟩ := and_e hn
  obtain ⟨n1, hn⟩ := and_e hn
  obtain ⟨q1, hn⟩ := and_e hn
  obtain ⟨n2, hn⟩ := and_e hn
  obtain ⟨q2, hn⟩ := and_e hn
  obtain ⟨n3, hn⟩ := and_e hn
  obtain ⟨q3, hn⟩ := and_e hn
  obtain ⟨s0, hn⟩ := and_e hn
  obtain ⟨o0, hn⟩ := and_e hn
  obtain ⟨b0, hn⟩ := and_e hn
  obtain ⟨g0, hn⟩ := and_e hn
  obtain ⟨s1, hn⟩ := and_e hn
  obtain ⟨o1, hn⟩ := and_e hn
  obtain ⟨b1, hn⟩ := and_e hn
  obtain ⟨g1, hn⟩ := and_e hn
  obtain ⟨s2, hn⟩ := and_e hn
  obtain ⟨o2, hn⟩ := and_e hn
  obtain ⟨b2, hn⟩ := and_e hn
  obtain ⟨g2, hn⟩ := and_e hn
  obtain ⟨s3, hn⟩ := and_e hn
  obtain ⟨o3, hn⟩ := and_e hn
  obtain ⟨b3, hn⟩ := and_e hn
  obtain ⟨g3, hn⟩ := and_e hn
  obtain ⟨u0_0, hn⟩ := and_e hn
  obtain ⟨u0_1, hn⟩ := and_e hn
  obtain ⟨u0_2, hn⟩ := and_e hn
  obtain ⟨u0_3, hn⟩ := and_e hn
  obtain ⟨u0_4, hn⟩ := and_e hn
  obtain ⟨u0_5, hn⟩ := and_e hn
  obtain ⟨u1_0, hn⟩ := and_e hn
  obtain ⟨u1_1, hn⟩ := and_e hn
  obtain ⟨u1_2, hn⟩ := and_e hn
  obtain ⟨u1_3, hn⟩ := and_e hn
  obtain ⟨u1_4, hn⟩ := and_e hn
  obtain ⟨u1_5, hn⟩ := and_e hn
  obtain ⟨u2_0, hn⟩ := and_e hn
  obtain ⟨u2_1, hn⟩ := and_e hn
  obtain ⟨u2_2, hn⟩ := and_e hn
  obtain ⟨u2_3, hn⟩ := and_e hn
  obtain ⟨u2_4, hn⟩ := and_e hn
  obtain ⟨u2_5, hn⟩ := and_e hn
  obtain ⟨u3_0, hn⟩ := and_e hn
  obtain ⟨u3_1, hn⟩ := and_e hn
  obtain ⟨u3_2, hn⟩ := and_e hn
  obtain ⟨u3_3, hn⟩ := and_e hn
  obtain ⟨u3_4, hn⟩ := and_e hn
  have u3_5 := hn
  obtain ⟨av, ea⟩ := arr_v m0
  obtain ⟨av', ea', EA⟩ := own_exa_at m1
  obtain rfl : av = av' := Value.ref.inj (Option.some.inj (ea.symm.trans ea'))
  obtain ⟨cl, Ar⟩ := Arr.start ea m0
  obtain ⟨z1, z2⟩ := own_len_at ea Ar (own_eq_int m2)
  obtain ⟨v0, ev0, Ev0⟩ := own_exa_at n0
  obtain ⟨x0, ex0, Ex0⟩ := own_exa_at s0
  have Fe0 := own_field_at ev0 ex0
  have Fc0 := own_field_at ex0 (own_eq_int o0)
  obtain ⟨t0, et0⟩ := arr_v b0
  have Fv0 := own_field_at ex0 et0
  obtain ⟨cl0, Ar0⟩ := Arr.start et0 b0
  obtain ⟨za0, zb0⟩ := own_len_at et0 Ar0 (own_eq_int g0)
  have At0 : Arv s s.heap t0 cl0.cls .byte (6 : Int32) [(.int (115 : Int32)), (.int (101 : Int32)), (.int (108 : Int32)), (.int (101 : Int32)), (.int (99 : Int32)), (.int (116 : Int32))] (.int (0 : Int32)) := Arv.start hfit Ar0 za0 zb0 (by decide) rfl ⟨own_elem_at et0 Ar0 (own_eq_int u0_0) rfl, own_elem_at et0 Ar0 (own_eq_int u0_1) rfl, own_elem_at et0 Ar0 (own_eq_int u0_2) rfl, own_elem_at et0 Ar0 (own_eq_int u0_3) rfl, own_elem_at et0 Ar0 (own_eq_int u0_4) rfl, own_elem_at et0 Ar0 (own_eq_int u0_5) rfl, trivial⟩
  have Ss0 := Sta.start ev0 (Or.inr ⟨(hw _ (List.mem_of_getElem? (i := 62) rfl)), (hw _ (List.mem_of_getElem? (i := 76) rfl))⟩)
  obtain ⟨v1, ev1, Ev1⟩ := own_exa_at n1
  obtain ⟨x1, ex1, Ex1⟩ := own_exa_at s1
  have Fe1 := own_field_at ev1 ex1
  have Fc1 := own_field_at ex1 (own_eq_int o1)
  obtain ⟨t1, et1⟩ := arr_v b1
  have Fv1 := own_field_at ex1 et1
  obtain ⟨cl1, Ar1⟩ := Arr.start et1 b1
  obtain ⟨za1, zb1⟩ := own_len_at et1 Ar1 (own_eq_int g1)
  have At1 : Arv s s.heap t1 cl1.cls .byte (6 : Int32) [(.int (105 : Int32)), (.int (110 : Int32)), (.int (115 : Int32)), (.int (101 : Int32)), (.int (114 : Int32)), (.int (116 : Int32))] (.int (0 : Int32)) := Arv.start hfit Ar1 za1 zb1 (by decide) rfl ⟨own_elem_at et1 Ar1 (own_eq_int u1_0) rfl, own_elem_at et1 Ar1 (own_eq_int u1_1) rfl, own_elem_at et1 Ar1 (own_eq_int u1_2) rfl, own_elem_at et1 Ar1 (own_eq_int u1_3) rfl, own_elem_at et1 Ar1 (own_eq_int u1_4) rfl, own_elem_at et1 Ar1 (own_eq_int u1_5) rfl, trivial⟩
  have Ss1 := Sta.start ev1 (Or.inr ⟨(hw _ (List.mem_of_getElem? (i := 62) rfl)), (hw _ (List.mem_of_getElem? (i := 77) rfl))⟩)
  obtain ⟨v2, ev2, Ev2⟩ := own_exa_at n2
  obtain ⟨x2, ex2, Ex2⟩ := own_exa_at s2
  have Fe2 := own_field_at ev2 ex2
  have Fc2 := own_field_at ex2 (own_eq_int o2)
  obtain ⟨t2, et2⟩ := arr_v b2
  have Fv2 := own_field_at ex2 et2
  obtain ⟨cl2, Ar2⟩ := Arr.start et2 b2
  obtain ⟨za2, zb2⟩ := own_len_at et2 Ar2 (own_eq_int g2)
  have At2 : Arv s s.heap t2 cl2.cls .byte (6 : Int32) [(.int (117 : Int32)), (.int (112 : Int32)), (.int (100 : Int32)), (.int (97 : Int32)), (.int (116 : Int32)), (.int (101 : Int32))] (.int (0 : Int32)) := Arv.start hfit Ar2 za2 zb2 (by decide) rfl ⟨own_elem_at et2 Ar2 (own_eq_int u2_0) rfl, own_elem_at et2 Ar2 (own_eq_int u2_1) rfl, own_elem_at et2 Ar2 (own_eq_int u2_2) rfl, own_elem_at et2 Ar2 (own_eq_int u2_3) rfl, own_elem_at et2 Ar2 (own_eq_int u2_4) rfl, own_elem_at et2 Ar2 (own_eq_int u2_5) rfl, trivial⟩
  have Ss2 := Sta.start ev2 (Or.inr ⟨(hw _ (List.mem_of_getElem? (i := 62) rfl)), (hw _ (List.mem_of_getElem? (i := 78) rfl))⟩)
  obtain ⟨v3, ev3, Ev3⟩ := own_exa_at n3
  obtain ⟨x3, ex3, Ex3⟩ := own_exa_at s3
  have Fe3 := own_field_at ev3 ex3
  have Fc3 := own_field_at ex3 (own_eq_int o3)
  obtain ⟨t3, et3⟩ := arr_v b3
  have Fv3 := own_field_at ex3 et3
  obtain ⟨cl3, Ar3⟩ := Arr.start et3 b3
  obtain ⟨za3, zb3⟩ := own_len_at et3 Ar3 (own_eq_int g3)
  have At3 : Arv s s.heap t3 cl3.cls .byte (6 : Int32) [(.int (100 : Int32)), (.int (101 : Int32)), (.int (108 : Int32)), (.int (101 : Int32)), (.int (116 : Int32)), (.int (101 : Int32))] (.int (0 : Int32)) := Arv.start hfit Ar3 za3 zb3 (by decide) rfl ⟨own_elem_at et3 Ar3 (own_eq_int u3_0) rfl, own_elem_at et3 Ar3 (own_eq_int u3_1) rfl, own_elem_at et3 Ar3 (own_eq_int u3_2) rfl, own_elem_at et3 Ar3 (own_eq_int u3_3) rfl, own_elem_at et3 Ar3 (own_eq_int u3_4) rfl, own_elem_at et3 Ar3 (own_eq_int u3_5) rfl, trivial⟩
  have Ss3 := Sta.start ev3 (Or.inr ⟨(hw _ (List.mem_of_getElem? (i := 62) rfl)), (hw _ (List.mem_of_getElem? (i := 79) rfl))⟩)
  have Av : Arv s s.heap av cl.cls (.object "com/example/statementbound/statementbound/statements/internal/Statement$Kind") (4 : Int32) [(.ref v0), (.ref v1), (.ref v2), (.ref v3)] .null := Arv.start hfit Ar z1 z2 (by decide) rfl ⟨own_elem_at ea Ar (own_eq_ref q0 ev0) rfl, own_elem_at ea Ar (own_eq_ref q1 ev1) rfl, own_elem_at ea Ar (own_eq_ref q2 ev2) rfl, own_elem_at ea Ar (own_eq_ref q3 ev3) rfl, trivial⟩
  have SVv := Sta.start ea (Or.inr ⟨(hw _ (List.mem_of_getElem? (i := 62) rfl)), (hw _ (List.mem_of_getElem? (i := 68) rfl))⟩)
  obtain ⟨z, ez⟩ := is_v (Cond.before_iff.mp (hsets _ (List.mem_of_getElem? (i := 1) rfl)))
  have Sc := Sta.start ez (Or.inl (hsets _ (List.mem_of_getElem? (i := 0) rfl)))
  have hcw := hsets _ (List.mem_of_getElem? (i := 2) rfl)
  have hz : ¬ z = 0 := own_not_eq ez (Cond.before_iff.mp hcw)
  obtain ⟨fm, ef, rf⟩ := isR_v (Cond.before_iff.mp (hsets _ (List.mem_of_getElem? (i := 8) rfl)))
  have Sf := Sta.start ef (Or.inl (hsets _ (List.mem_of_getElem? (i := 7) rfl)))
  have hd0 := hcalls.1 ("com/example/statementbound/statementbound/statements/internal/KindOfElementPinLaw", 7) (List.mem_of_getElem? (i := 0) rfl)
  have hd1 := hcalls.1 ("com/example/statementbound/statementbound/statements/internal/KindOfElementPinLaw", 9) (List.mem_of_getElem? (i := 1) rfl)
  have hd2 := hcalls.1 ("com/example/statementbound/statementbound/statements/internal/KindOfElementPinLaw", 11) (List.mem_of_getElem? (i := 2) rfl)
  have hd3 := hcalls.1 ("com/example/statementbound/statementbound/statements/internal/KindOfElementPinLaw", 13) (List.mem_of_getElem? (i := 3) rfl)
  have hdS := hcalls.1 ("java/lang/String", 7) (List.mem_of_getElem? (i := 4) rfl)
  obtain ⟨n, o, h1, h2, h3, _, L, rfl, ⟨rfl, N, -⟩, hq⟩ := rm0 l s _ hw i0 i1 i2 i3 av cl.cls v0 v1 v2 v3 x0 t0 cl0.cls x1 t1 cl1.cls x2 t2 cl2.cls x3 t3 cl3.cls z fm s.heap s.heap.size (Nat.le_refl _) Sc Sf SVv EA Av Fe0 Ex0 Fv0 Fc0 At0 Fe1 Ex1 Fv1 Fc1 At1 Fe2 Ex2 Fv2 Fc2 At2 Fe3 Ex3 Fv3 Fc3 At3 Ss0 Ss1 Ss2 Ss3 hz rf hcw hdS hd0 hd1 hd2 hd3 rfl tables_1 p e ha hc hk s m _ below hf ((Spec.applies_iff_loose hf).mp happ).1 ⟨rfl, State.Warmed39.refl s, rfl, IB.start⟩ trivial
  refine ⟨n, _, h1, h2, h3, hpost _ _ _ _ _ _ ⟨Cond.after_iff.mpr rfl, Cond.after_iff.mpr (eq_i res_at (Term.int_eval (1)) rfl), trivial⟩ ⟨hq.1, hq.2.1, hq.2.2.1, (hq.2.2.2.sift fun y hy => Or.inr (N y hy)).mono (by decide) (by decide)⟩⟩
theorem main_1_1 : Claimed_1_1 := comes_1 fun _ _ _ _ _ _ h hF => ⟨h.1, hF⟩
theorem main_1_2 : Claimed_1_2 := comes_1 fun _ _ _ _ _ _ h hF => ⟨h.2.1, hF⟩
end Jvm.Pilot.@@N@@
namespace Jvm.Pilot.@@N@@
open Jvm Jvm.ClassFile Sem Op Lib Jvm.Free Jvm.Stand Jvm.Pilot.@@N@@.Jvm.D
/-! MADE BY PROGRAM (witnessworld.py) out of the Statement's table words and the real class files: 22 classes; the members and pool entries that the words name. The judged class is class 1, her method 1. -/
namespace start1
open Jvm.ClassFile
def u (s : String) : CpInfo := .utf8 (stringToUtf16 s)
/-- a pool by its gaps: so many unusable entries, then the entry; so many at the end -/
def gap : Nat → List CpInfo → List CpInfo
  | 0, r => r
  | n + 1, r => .unusable :: gap n r
def poolList (es : List (Nat × CpInfo)) (last : Nat) : List CpInfo := es.foldr (fun e r => gap e.1 (e.2 :: r)) (gap last [])
def pool (es : List (Nat × CpInfo)) (last : Nat) : Array CpInfo := ⟨poolList es last⟩
def fileOf (pool : Array CpInfo) (this : Nat) (attrs : Array Attribute := #[]) (ms : Array MethodInfo := #[]) (fl : Nat := 33) (sup : Nat := 0) (ifs : Array Nat := #[]) (fds : Array FieldInfo := #[]) : ClassFile where
  minorVersion := 0
  majorVersion := 65
  constantPool := pool
  accessFlags := fl
  thisClass := this
  superClass := sup
  interfaces := ifs
  fields := fds
  methods := ms
  attributes := attrs
def plain (name : String) (sup : Option ClassId) : Class where
  name := name
  kind := .ordinary
  loader := none
  accessFlags := 33
  super := sup
  interfaces := #[]
  cf := none
  fields := #[]
  methods := #[]
  instanceTypes := #[]
  staticTypes := #[]
  resolved := #[]
  callSites := []
  init := .initialized
  statics := none
  mirror := none

def pool0 : Array CpInfo := pool [(5, u "<init>"), (0, u "()V"), (1, .class_ 10), (1, u "java/lang/Object"), (85, u "clone"), (0, u "()Ljava/lang/Object;")] 26

def k0c0 : Code := { maxStack := 0, maxLocals := 1, code := object_method_1_code, exceptionTable := #[], attributes := #[] }
def k0m0 : Method := { name := "<init>", desc := "()V", sig := { parameters := [], returnType := none }, accessFlags := 1, code := some k0c0 }
def k0m1 : Method := { name := "clone", desc := "()Ljava/lang/Object;", sig := { parameters := [], returnType := some (.object "java/lang/Object") }, accessFlags := 260, code := none }
/-- java/lang/Object -/
def k0 : Class := { plain "java/lang/Object" none with
  accessFlags := 33
  interfaces := #[]
  cf := some (fileOf pool0 8 #[] #[{ accessFlags := 1, nameIndex := 5, descriptorIndex := 6, attributes := #[] }, { accessFlags := 260, nameIndex := 96, descriptorIndex := 97, attributes := #[] }] 33 0 #[] #[])
  fields := #[]
  methods := #[k0m0, k0m1]
  instanceTypes := #[]
  staticTypes := #[]
  resolved := Array.replicate 124 none
  statics := none }

def pool1 : Array CpInfo := pool [(2, .class_ 4), (1, u "java/lang/Object"), (0, u "<init>"), (0, u "()V"), (0, .string 8), (0, u "select"), (0, .string 10), (0, u "insert"), (0, .string 12), (0, u "update"), (0, .string 14), (0, u "delete"), (0, .methodref 16 17), (0, .class_ 18), (0, .nameAndType 19 20), (0, u "java/lang/String"), (0, u "charAt"), (0, u "(I)C"), (0, .integer 2147483647), (0, .methodref 23 24), (0, .class_ 25), (0, .nameAndType 26 27), (0, u "com/example/statementbound/statementbound/statements/internal/KindOfElementPinLaw"), (0, u "up"), (0, u "([CII)V"), (0, .methodref 23 29), (0, .nameAndType 30 31), (0, u "take"), (0, u "([CI)Ljava/lang/String;"), (0, .methodref 33 34), (0, .class_ 35), (0, .nameAndType 36 37), (0, u "com/example/statementbound/statementbound/statements/internal/Statement$Kind"), (0, u "ofElement"), (0, u "(Ljava/lang/String;)Lcom/example/statementbound/statementbound/statements/internal/Statement$Kind;"), (0, .methodref 23 39), (0, .nameAndType 40 37), (0, u "expected"), (0, .methodref 16 42), (0, .nameAndType 5 43), (0, u "([C)V"), (0, .methodref 16 45), (0, .nameAndType 46 47), (0, u "equals"), (0, u "(Ljava/lang/Object;)Z"), (0, .fieldref 33 49), (0, .nameAndType 50 51), (0, u "SELECT"), (0, u "Lcom/example/statementbound/statementbound/statements/internal/Statement$Kind;"), (0, .fieldref 33 53), (0, .nameAndType 54 51), (0, u "INSERT"), (0, .fieldref 33 56), (0, .nameAndType 57 51), (0, u "UPDATE"), (0, .fieldref 33 59), (0, .nameAndType 60 51), (0, u "DELETE"), (2, u "law"), (0, u "(IIII)Z")] 9

def k1m0 : Method := { name := "<init>", desc := "()V", sig := { parameters := [], returnType := none }, accessFlags := 1, code := none }
def k1c1 : Code := { maxStack := 4, maxLocals := 10, code := code, exceptionTable := #[], attributes := #[] }
def k1m1 : Method := { name := "law", desc := "(IIII)Z", sig := { parameters := [.int, .int, .int, .int], returnType := some .boolean }, accessFlags := 9, code := some k1c1 }
def k1c2 : Code := { maxStack := 4, maxLocals := 3, code := method_3_code, exceptionTable := #[], attributes := #[] }
def k1m2 : Method := { name := "up", desc := "([CII)V", sig := { parameters := [(.array .char), .int, .int], returnType := none }, accessFlags := 10, code := some k1c2 }
def k1c3 : Code := { maxStack := 7, maxLocals := 2, code := method_4_code, exceptionTable := #[], attributes := #[] }
def k1m3 : Method := { name := "take", desc := "([CI)Ljava/lang/String;", sig := { parameters := [(.array .char), .int], returnType := some (.object "java/lang/String") }, accessFlags := 10, code := some k1c3 }
def k1c4 : Code := { maxStack := 2, maxLocals := 1, code := method_5_code, exceptionTable := #[], attributes := #[] }
def k1m4 : Method := { name := "expected", desc := "(Ljava/lang/String;)Lcom/example/statementbound/statementbound/statements/internal/Statement$Kind;", sig := { parameters := [(.object "java/lang/String")], returnType := some (.object "com/example/statementbound/statementbound/statements/internal/Statement$Kind") }, accessFlags := 10, code := some k1c4 }
/-- com/example/statementbound/statementbound/statements/internal/KindOfElementPinLaw -/
def k1 : Class := { plain "com/example/statementbound/statementbound/statements/internal/KindOfElementPinLaw" (some 0) with
  accessFlags := 49
  interfaces := #[]
  cf := some (fileOf pool1 23 #[] #[{ accessFlags := 1, nameIndex := 5, descriptorIndex := 6, attributes := #[] }, { accessFlags := 9, nameIndex := 63, descriptorIndex := 64, attributes := #[] }, { accessFlags := 10, nameIndex := 26, descriptorIndex := 27, attributes := #[] }, { accessFlags := 10, nameIndex := 30, descriptorIndex := 31, attributes := #[] }, { accessFlags := 10, nameIndex := 40, descriptorIndex := 37, attributes := #[] }] 49 2 #[] #[])
  fields := #[]
  methods := #[k1m0, k1m1, k1m2, k1m3, k1m4]
  instanceTypes := #[]
  staticTypes := #[]
  resolved := Array.replicate 74 none
  statics := none }

def pool2 : Array CpInfo := pool [(1, .class_ 2), (0, u "java/io/Serializable"), (0, .class_ 4), (0, u "java/lang/Object")] 2

/-- java/io/Serializable -/
def k2 : Class := { plain "java/io/Serializable" (some 0) with
  accessFlags := 1537
  interfaces := #[]
  cf := some (fileOf pool2 1 #[] #[] 1537 3 #[] #[])
  fields := #[]
  methods := #[]
  instanceTypes := #[]
  staticTypes := #[]
  resolved := Array.replicate 7 none
  statics := none }

def pool3 : Array CpInfo := pool [(1, .class_ 2), (0, u "java/lang/Comparable"), (0, .class_ 4), (0, u "java/lang/Object")] 7

/-- java/lang/Comparable -/
def k3 : Class := { plain "java/lang/Comparable" (some 0) with
  accessFlags := 1537
  interfaces := #[]
  cf := some (fileOf pool3 1 #[] #[] 1537 3 #[] #[])
  fields := #[]
  methods := #[]
  instanceTypes := #[]
  staticTypes := #[]
  resolved := Array.replicate 12 none
  statics := none }

def pool4 : Array CpInfo := pool [(2, .class_ 4), (1, u "java/lang/CharSequence"), (42, .class_ 48), (0, u "java/lang/CharSequence$1CodePointIterator"), (10, .class_ 60), (0, u "java/lang/CharSequence$1CharIterator"), (5, .class_ 67), (0, u "java/lang/Object")] 63

/-- java/lang/CharSequence -/
def k4 : Class := { plain "java/lang/CharSequence" (some 0) with
  accessFlags := 1537
  interfaces := #[]
  cf := some (fileOf pool4 2 #[.nestMembers #[47, 59]] #[] 1537 66 #[] #[])
  fields := #[]
  methods := #[]
  instanceTypes := #[]
  staticTypes := #[]
  resolved := Array.replicate 131 none
  statics := none }

def pool5 : Array CpInfo := pool [(1, .class_ 2), (0, u "java/lang/constant/Constable"), (0, .class_ 4), (0, u "java/lang/Object")] 6

/-- java/lang/constant/Constable -/
def k5 : Class := { plain "java/lang/constant/Constable" (some 0) with
  accessFlags := 1537
  interfaces := #[]
  cf := some (fileOf pool5 1 #[] #[] 1537 3 #[] #[])
  fields := #[]
  methods := #[]
  instanceTypes := #[]
  staticTypes := #[]
  resolved := Array.replicate 11 none
  statics := none }

def pool6 : Array CpInfo := pool [(1, .class_ 2), (0, u "java/lang/constant/ConstantDesc"), (0, .class_ 4), (0, u "java/lang/Object")] 32

/-- java/lang/constant/ConstantDesc -/
def k6 : Class := { plain "java/lang/constant/ConstantDesc" (some 0) with
  accessFlags := 1537
  interfaces := #[]
  cf := some (fileOf pool6 1 #[] #[] 1537 3 #[] #[])
  fields := #[]
  methods := #[]
  instanceTypes := #[]
  staticTypes := #[]
  resolved := Array.replicate 37 none
  statics := none }

def pool7 : Array CpInfo := pool [(1, .methodref 2 3), (0, .class_ 4), (0, .nameAndType 5 6), (0, u "java/lang/Object"), (0, u "<init>"), (0, u "()V"), (0, .string 8), (0, u ""), (0, .fieldref 10 11), (0, .class_ 12), (0, .nameAndType 13 14), (0, u "java/lang/String"), (0, u "value"), (0, u "[B"), (0, .fieldref 10 16), (0, .nameAndType 17 18), (0, u "coder"), (0, u "B"), (2, u "hash"), (0, u "I"), (2, u "hashIsZero"), (0, u "Z"), (0, .methodref 10 28), (0, .nameAndType 5 29), (0, u "([CIILjava/lang/Void;)V"), (8, .fieldref 10 39), (0, .nameAndType 40 26), (0, u "COMPACT_STRINGS"), (1, .class_ 44), (1, u "java/lang/StringUTF16"), (0, u "compress"), (1, .methodref 42 48), (0, .nameAndType 49 50), (0, u "coderFromArrayLen"), (0, u "([BI)B"), (56, .class_ 109), (1, u "java/lang/StringLatin1"), (32, u "()Z"), (34, .methodref 42 178), (0, .nameAndType 45 179), (0, u "([CII)[B"), (183, u "([BI)C"), (27, u "(II)V"), (35, u "(I)C"), (64, .methodref 10 493), (0, .nameAndType 494 142), (0, u "isLatin1"), (0, .methodref 107 496), (0, .nameAndType 497 363), (0, u "charAt"), (3, u "checkIndex"), (39, .methodref 107 542), (0, .nameAndType 543 544), (0, u "equals"), (0, u "([B[B)Z"), (28, u "(Ljava/lang/Object;)Z"), (1, .class_ 576), (0, u "java/lang/CharSequence"), (22, u "CASE_INSENSITIVE_ORDER"), (0, u "Ljava/util/Comparator;"), (409, u "([C)V"), (42, .fieldref 1054 1055), (0, .class_ 1056), (0, .nameAndType 1057 1058), (0, u "jdk/internal/util/Preconditions"), (0, u "SIOOBE_FORMATTER"), (0, u "Ljava/util/function/BiFunction;"), (0, .methodref 1054 1060), (0, .nameAndType 501 1061), (0, u "(IILjava/util/function/BiFunction;)I"), (39, u "serialPersistentFields"), (0, u "[Ljava/io/ObjectStreamField;"), (0, .class_ 1104), (0, u "java/lang/String$CaseInsensitiveComparator"), (1, .class_ 1107), (0, u "java/io/Serializable"), (0, .class_ 1109), (0, u "java/lang/Comparable"), (0, .class_ 1111), (0, u "java/lang/constant/Constable"), (0, .class_ 1113), (0, u "java/lang/constant/ConstantDesc"), (2, u "serialVersionUID"), (0, u "J"), (3, u "REPL"), (0, u "C"), (2, u "LATIN1"), (1, u "UTF16")] 323

def k7m0 : Method := { name := "<init>", desc := "()V", sig := { parameters := [], returnType := none }, accessFlags := 1, code := none }
def k7c1 : Code := { maxStack := 5, maxLocals := 2, code := jdk_42_method_3_code, exceptionTable := #[], attributes := #[] }
def k7m1 : Method := { name := "<init>", desc := "([C)V", sig := { parameters := [(.array .char)], returnType := none }, accessFlags := 1, code := some k7c1 }
def k7c2 : Code := { maxStack := 2, maxLocals := 2, code := jdk_42_method_56_code, exceptionTable := #[], attributes := #[] }
def k7m2 : Method := { name := "charAt", desc := "(I)C", sig := { parameters := [.int], returnType := some .char }, accessFlags := 1, code := some k7c2 }
def k7c3 : Code := { maxStack := 2, maxLocals := 3, code := jdk_42_method_66_code, exceptionTable := #[], attributes := #[] }
def k7m3 : Method := { name := "equals", desc := "(Ljava/lang/Object;)Z", sig := { parameters := [(.object "java/lang/Object")], returnType := some .boolean }, accessFlags := 1, code := some k7c3 }
def k7c4 : Code := { maxStack := 4, maxLocals := 6, code := jdk_42_method_149_code, exceptionTable := #[], attributes := #[] }
def k7m4 : Method := { name := "<init>", desc := "([CIILjava/lang/Void;)V", sig := { parameters := [(.array .char), .int, .int, (.object "java/lang/Void")], returnType := none }, accessFlags := 2, code := some k7c4 }
def k7c5 : Code := { maxStack := 1, maxLocals := 1, code := jdk_42_method_154_code, exceptionTable := #[], attributes := #[] }
def k7m5 : Method := { name := "isLatin1", desc := "()Z", sig := { parameters := [], returnType := some .boolean }, accessFlags := 0, code := some k7c5 }
def k7c6 : Code := { maxStack := 3, maxLocals := 2, code := jdk_42_method_155_code, exceptionTable := #[], attributes := #[] }
def k7m6 : Method := { name := "checkIndex", desc := "(II)V", sig := { parameters := [.int, .int], returnType := none }, accessFlags := 8, code := some k7c6 }
/-- java/lang/String -/
def k7 : Class := { plain "java/lang/String" (some 0) with
  accessFlags := 49
  interfaces := #[2, 3, 4, 5, 6]
  cf := some (fileOf pool7 10 #[.nestMembers #[1103]] #[{ accessFlags := 1, nameIndex := 5, descriptorIndex := 6, attributes := #[] }, { accessFlags := 1, nameIndex := 5, descriptorIndex := 1010, attributes := #[] }, { accessFlags := 1, nameIndex := 497, descriptorIndex := 427, attributes := #[] }, { accessFlags := 1, nameIndex := 543, descriptorIndex := 573, attributes := #[] }, { accessFlags := 2, nameIndex := 5, descriptorIndex := 29, attributes := #[] }, { accessFlags := 0, nameIndex := 494, descriptorIndex := 142, attributes := #[] }, { accessFlags := 8, nameIndex := 501, descriptorIndex := 391, attributes := #[] }] 49 2 #[1106, 1108, 575, 1110, 1112] #[{ accessFlags := 18, nameIndex := 13, descriptorIndex := 14, attributes := #[] }, { accessFlags := 18, nameIndex := 17, descriptorIndex := 18, attributes := #[] }, { accessFlags := 2, nameIndex := 21, descriptorIndex := 22, attributes := #[] }, { accessFlags := 2, nameIndex := 25, descriptorIndex := 26, attributes := #[] }, { accessFlags := 26, nameIndex := 1116, descriptorIndex := 1117, attributes := #[] }, { accessFlags := 24, nameIndex := 40, descriptorIndex := 26, attributes := #[] }, { accessFlags := 26, nameIndex := 1101, descriptorIndex := 1102, attributes := #[] }, { accessFlags := 26, nameIndex := 1121, descriptorIndex := 1122, attributes := #[] }, { accessFlags := 25, nameIndex := 599, descriptorIndex := 600, attributes := #[] }, { accessFlags := 24, nameIndex := 1125, descriptorIndex := 18, attributes := #[] }, { accessFlags := 24, nameIndex := 1127, descriptorIndex := 18, attributes := #[] }])
  fields := #[{ name := "value", type := (.array .byte), accessFlags := 18, slot := 0, constantValue := 0 }, { name := "coder", type := .byte, accessFlags := 18, slot := 1, constantValue := 0 }, { name := "hash", type := .int, accessFlags := 2, slot := 2, constantValue := 0 }, { name := "hashIsZero", type := .boolean, accessFlags := 2, slot := 3, constantValue := 0 }, { name := "serialVersionUID", type := .long, accessFlags := 26, slot := 0, constantValue := 0 }, { name := "COMPACT_STRINGS", type := .boolean, accessFlags := 24, slot := 1, constantValue := 0 }, { name := "serialPersistentFields", type := (.array (.object "java/io/ObjectStreamField")), accessFlags := 26, slot := 2, constantValue := 0 }, { name := "REPL", type := .char, accessFlags := 26, slot := 3, constantValue := 0 }, { name := "CASE_INSENSITIVE_ORDER", type := (.object "java/util/Comparator"), accessFlags := 25, slot := 4, constantValue := 0 }, { name := "LATIN1", type := .byte, accessFlags := 24, slot := 5, constantValue := 0 }, { name := "UTF16", type := .byte, accessFlags := 24, slot := 6, constantValue := 0 }]
  methods := #[k7m0, k7m1, k7m2, k7m3, k7m4, k7m5, k7m6]
  instanceTypes := #[(.array .byte), .byte, .int, .boolean]
  staticTypes := #[.long, .boolean, (.array (.object "java/io/ObjectStreamField")), .char, (.object "java/util/Comparator"), .byte, .byte]
  resolved := Array.replicate 1451 none
  statics := some 0 }

def pool8 : Array CpInfo := pool [(1, .class_ 2), (0, u "java/lang/String"), (1, .class_ 6), (1, u "java/lang/Object"), (0, u "<init>"), (0, u "()V"), (0, .methodref 1 10), (0, .nameAndType 11 12), (0, u "checkIndex"), (0, u "(II)V"), (1, .class_ 16), (1, u "java/lang/StringLatin1"), (36, u "([BI)C"), (67, u "$assertionsDisabled"), (0, u "Z"), (98, .class_ 223), (1, u "java/lang/StringLatin1$LinesSpliterator"), (28, u "charAt"), (28, u "equals"), (0, u "([B[B)Z"), (107, .class_ 391), (0, u "java/lang/StringLatin1$CharsSpliterator")] 3

def k8m0 : Method := { name := "<init>", desc := "()V", sig := { parameters := [], returnType := none }, accessFlags := 0, code := none }
def k8c1 : Code := { maxStack := 2, maxLocals := 2, code := jdk_43_method_2_code, exceptionTable := #[], attributes := #[] }
def k8m1 : Method := { name := "charAt", desc := "([BI)C", sig := { parameters := [(.array .byte), .int], returnType := some .char }, accessFlags := 9, code := some k8c1 }
def k8c2 : Code := { maxStack := 3, maxLocals := 3, code := jdk_43_method_13_code, exceptionTable := #[], attributes := #[] }
def k8m2 : Method := { name := "equals", desc := "([B[B)Z", sig := { parameters := [(.array .byte), (.array .byte)], returnType := some .boolean }, accessFlags := 9, code := some k8c2 }
/-- java/lang/StringLatin1 -/
def k8 : Class := { plain "java/lang/StringLatin1" (some 0) with
  accessFlags := 48
  interfaces := #[]
  cf := some (fileOf pool8 14 #[.nestMembers #[390, 221]] #[{ accessFlags := 0, nameIndex := 7, descriptorIndex := 8, attributes := #[] }, { accessFlags := 9, nameIndex := 252, descriptorIndex := 53, attributes := #[] }, { accessFlags := 9, nameIndex := 281, descriptorIndex := 282, attributes := #[] }] 48 4 #[] #[{ accessFlags := 4120, nameIndex := 121, descriptorIndex := 122, attributes := #[] }])
  fields := #[{ name := "$assertionsDisabled", type := .boolean, accessFlags := 4120, slot := 0, constantValue := 0 }]
  methods := #[k8m0, k8m1, k8m2]
  instanceTypes := #[]
  staticTypes := #[.boolean]
  resolved := Array.replicate 395 none
  statics := none }

def pool9 : Array CpInfo := pool [(2, .class_ 4), (1, u "java/lang/Object"), (0, u "<init>"), (0, u "()V"), (17, .class_ 26), (1, u "jdk/internal/util/Preconditions"), (6, u "checkIndex"), (21, .class_ 56), (0, u "jdk/internal/util/Preconditions$4"), (57, .class_ 115), (0, u "jdk/internal/util/Preconditions$1"), (7, u "SIOOBE_FORMATTER"), (0, u "Ljava/util/function/BiFunction;"), (0, .class_ 126), (0, u "jdk/internal/util/Preconditions$2"), (3, u "AIOOBE_FORMATTER"), (0, .class_ 132), (0, u "jdk/internal/util/Preconditions$3"), (3, u "IOOBE_FORMATTER"), (41, u "(IILjava/util/function/BiFunction;)I")] 15

def k9m0 : Method := { name := "<init>", desc := "()V", sig := { parameters := [], returnType := none }, accessFlags := 1, code := none }
def k9c1 : Code := { maxStack := 3, maxLocals := 3, code := jdk_41_method_11_code, exceptionTable := #[], attributes := #[] }
def k9m1 : Method := { name := "checkIndex", desc := "(IILjava/util/function/BiFunction;)I", sig := { parameters := [.int, .int, (.object "java/util/function/BiFunction")], returnType := some .int }, accessFlags := 9, code := some k9c1 }
/-- jdk/internal/util/Preconditions -/
def k9 : Class := { plain "jdk/internal/util/Preconditions" (some 0) with
  accessFlags := 33
  interfaces := #[]
  cf := some (fileOf pool9 24 #[.nestMembers #[55, 131, 125, 114]] #[{ accessFlags := 1, nameIndex := 5, descriptorIndex := 6, attributes := #[] }, { accessFlags := 9, nameIndex := 33, descriptorIndex := 178, attributes := #[] }] 33 2 #[] #[{ accessFlags := 25, nameIndex := 123, descriptorIndex := 124, attributes := #[] }, { accessFlags := 25, nameIndex := 130, descriptorIndex := 124, attributes := #[] }, { accessFlags := 25, nameIndex := 136, descriptorIndex := 124, attributes := #[] }])
  fields := #[{ name := "SIOOBE_FORMATTER", type := (.object "java/util/function/BiFunction"), accessFlags := 25, slot := 0, constantValue := 0 }, { name := "AIOOBE_FORMATTER", type := (.object "java/util/function/BiFunction"), accessFlags := 25, slot := 1, constantValue := 0 }, { name := "IOOBE_FORMATTER", type := (.object "java/util/function/BiFunction"), accessFlags := 25, slot := 2, constantValue := 0 }]
  methods := #[k9m0, k9m1]
  instanceTypes := #[]
  staticTypes := #[(.object "java/util/function/BiFunction"), (.object "java/util/function/BiFunction"), (.object "java/util/function/BiFunction")]
  resolved := Array.replicate 194 none
  statics := some 1 }

def pool10 : Array CpInfo := pool [(6, .class_ 8), (1, u "java/lang/Object"), (0, u "<init>"), (0, u "()V"), (1, .class_ 14), (1, u "java/lang/StringUTF16"), (31, u "$assertionsDisabled"), (0, u "Z"), (13, u "HI_BYTE_SHIFT"), (0, u "I"), (2, u "LO_BYTE_SHIFT"), (49, .methodref 12 116), (0, .nameAndType 117 118), (0, u "compress"), (0, u "([CI[BII)I"), (3, u "([CII)[B"), (138, u "coderFromArrayLen"), (0, u "([BI)B"), (106, .class_ 371), (1, u "java/lang/StringUTF16$LinesSpliterator"), (58, u "MAX_LENGTH"), (196, .class_ 628), (0, u "java/lang/StringUTF16$CodePointsSpliterator"), (0, .class_ 630), (0, u "java/lang/StringUTF16$CharsSpliterator")] 4

def k10m0 : Method := { name := "<init>", desc := "()V", sig := { parameters := [], returnType := none }, accessFlags := 0, code := none }
def k10c1 : Code := { maxStack := 2, maxLocals := 2, code := jdk_52_method_15_code, exceptionTable := #[], attributes := #[] }
def k10m1 : Method := { name := "coderFromArrayLen", desc := "([BI)B", sig := { parameters := [(.array .byte), .int], returnType := some .byte }, accessFlags := 8, code := some k10c1 }
def k10c2 : Code := { maxStack := 5, maxLocals := 6, code := jdk_52_method_16_code, exceptionTable := #[], attributes := #[] }
def k10m2 : Method := { name := "compress", desc := "([CII)[B", sig := { parameters := [(.array .char), .int, .int], returnType := some (.array .byte) }, accessFlags := 9, code := some k10c2 }
def k10c3 : Code := { maxStack := 3, maxLocals := 7, code := jdk_52_method_21_code, exceptionTable := #[], attributes := #[] }
def k10m3 : Method := { name := "compress", desc := "([CI[BII)I", sig := { parameters := [(.array .char), .int, (.array .byte), .int, .int], returnType := some .int }, accessFlags := 9, code := some k10c3 }
/-- java/lang/StringUTF16 -/
def k10 : Class := { plain "java/lang/StringUTF16" (some 0) with
  accessFlags := 48
  interfaces := #[]
  cf := some (fileOf pool10 12 #[.nestMembers #[627, 629, 369]] #[{ accessFlags := 0, nameIndex := 9, descriptorIndex := 10, attributes := #[] }, { accessFlags := 8, nameIndex := 261, descriptorIndex := 262, attributes := #[] }, { accessFlags := 9, nameIndex := 117, descriptorIndex := 122, attributes := #[] }, { accessFlags := 9, nameIndex := 117, descriptorIndex := 118, attributes := #[] }] 48 6 #[] #[{ accessFlags := 26, nameIndex := 61, descriptorIndex := 62, attributes := #[] }, { accessFlags := 26, nameIndex := 65, descriptorIndex := 62, attributes := #[] }, { accessFlags := 24, nameIndex := 430, descriptorIndex := 62, attributes := #[] }, { accessFlags := 4120, nameIndex := 46, descriptorIndex := 47, attributes := #[] }])
  fields := #[{ name := "HI_BYTE_SHIFT", type := .int, accessFlags := 26, slot := 0, constantValue := 0 }, { name := "LO_BYTE_SHIFT", type := .int, accessFlags := 26, slot := 1, constantValue := 0 }, { name := "MAX_LENGTH", type := .int, accessFlags := 24, slot := 2, constantValue := 0 }, { name := "$assertionsDisabled", type := .boolean, accessFlags := 4120, slot := 3, constantValue := 0 }]
  methods := #[k10m0, k10m1, k10m2, k10m3]
  instanceTypes := #[]
  staticTypes := #[.int, .int, .int, .boolean]
  resolved := Array.replicate 635 none
  statics := none }

def pool11 : Array CpInfo := pool [(2, .class_ 4), (1, u "java/lang/Enum"), (0, u "name"), (0, u "Ljava/lang/String;"), (2, u "ordinal"), (0, u "I"), (1, .class_ 14), (1, u "java/lang/Object"), (4, u "hash"), (86, .class_ 108), (1, u "java/lang/Enum$EnumDesc"), (2, .class_ 112), (0, u "java/lang/constant/Constable"), (0, .class_ 114), (0, u "java/lang/Comparable"), (0, .class_ 116), (0, u "java/io/Serializable")] 87

/-- java/lang/Enum -/
def k11 : Class := { plain "java/lang/Enum" (some 0) with
  accessFlags := 1057
  interfaces := #[5, 3, 2]
  cf := some (fileOf pool11 2 #[.nestMembers #[106]] #[] 1057 12 #[111, 113, 115] #[{ accessFlags := 18, nameIndex := 5, descriptorIndex := 6, attributes := #[] }, { accessFlags := 18, nameIndex := 9, descriptorIndex := 10, attributes := #[] }, { accessFlags := 2, nameIndex := 19, descriptorIndex := 10, attributes := #[] }])
  fields := #[{ name := "name", type := (.object "java/lang/String"), accessFlags := 18, slot := 0, constantValue := 0 }, { name := "ordinal", type := .int, accessFlags := 18, slot := 1, constantValue := 0 }, { name := "hash", type := .int, accessFlags := 2, slot := 2, constantValue := 0 }]
  methods := #[]
  instanceTypes := #[(.object "java/lang/String"), .int, .int]
  staticTypes := #[]
  resolved := Array.replicate 204 none
  statics := none }

def pool12 : Array CpInfo := pool [(1, .class_ 2), (0, u "com/example/statementbound/statementbound/statements/internal/Statement$Kind"), (2, u "SELECT"), (0, u "Lcom/example/statementbound/statementbound/statements/internal/Statement$Kind;"), (2, u "INSERT"), (2, u "UPDATE"), (2, u "DELETE"), (0, .fieldref 1 17), (0, .nameAndType 18 19), (0, u "$VALUES"), (0, u "[Lcom/example/statementbound/statementbound/statements/internal/Statement$Kind;"), (0, .methodref 21 22), (0, .class_ 19), (0, .nameAndType 23 24), (0, u "clone"), (0, u "()Ljava/lang/Object;"), (1, .class_ 28), (1, u "java/lang/Enum"), (17, .class_ 48), (1, u "java/lang/String"), (2, .fieldref 1 52), (0, .nameAndType 53 54), (0, u "element"), (0, u "Ljava/lang/String;"), (0, .methodref 1 56), (0, .nameAndType 57 58), (0, u "values"), (0, u "()[Lcom/example/statementbound/statementbound/statements/internal/Statement$Kind;"), (0, .methodref 46 60), (0, .nameAndType 61 62), (0, u "equals"), (0, u "(Ljava/lang/Object;)Z"), (10, u "(Ljava/lang/String;)Lcom/example/statementbound/statementbound/statements/internal/Statement$Kind;"), (3, u "ofElement"), (6, .class_ 85), (0, u "com/example/statementbound/statementbound/statements/internal/Statement")] 2

def k12c0 : Code := { maxStack := 1, maxLocals := 0, code := prog_138_method_1_code, exceptionTable := #[], attributes := #[] }
def k12m0 : Method := { name := "values", desc := "()[Lcom/example/statementbound/statementbound/statements/internal/Statement$Kind;", sig := { parameters := [], returnType := some (.array (.object "com/example/statementbound/statementbound/statements/internal/Statement$Kind")) }, accessFlags := 9, code := some k12c0 }
def k12c1 : Code := { maxStack := 2, maxLocals := 5, code := prog_138_method_4_code, exceptionTable := #[], attributes := #[] }
def k12m1 : Method := { name := "ofElement", desc := "(Ljava/lang/String;)Lcom/example/statementbound/statementbound/statements/internal/Statement$Kind;", sig := { parameters := [(.object "java/lang/String")], returnType := some (.object "com/example/statementbound/statementbound/statements/internal/Statement$Kind") }, accessFlags := 9, code := some k12c1 }
/-- com/example/statementbound/statementbound/statements/internal/Statement$Kind -/
def k12 : Class := { plain "com/example/statementbound/statementbound/statements/internal/Statement$Kind" (some 11) with
  accessFlags := 16433
  interfaces := #[]
  cf := some (fileOf pool12 1 #[.nestHost 84] #[{ accessFlags := 9, nameIndex := 57, descriptorIndex := 58, attributes := #[] }, { accessFlags := 9, nameIndex := 77, descriptorIndex := 73, attributes := #[] }] 16433 26 #[] #[{ accessFlags := 16409, nameIndex := 5, descriptorIndex := 6, attributes := #[] }, { accessFlags := 16409, nameIndex := 9, descriptorIndex := 6, attributes := #[] }, { accessFlags := 16409, nameIndex := 12, descriptorIndex := 6, attributes := #[] }, { accessFlags := 16409, nameIndex := 15, descriptorIndex := 6, attributes := #[] }, { accessFlags := 18, nameIndex := 53, descriptorIndex := 54, attributes := #[] }, { accessFlags := 4122, nameIndex := 18, descriptorIndex := 19, attributes := #[] }])
  fields := #[{ name := "SELECT", type := (.object "com/example/statementbound/statementbound/statements/internal/Statement$Kind"), accessFlags := 16409, slot := 0, constantValue := 0 }, { name := "INSERT", type := (.object "com/example/statementbound/statementbound/statements/internal/Statement$Kind"), accessFlags := 16409, slot := 1, constantValue := 0 }, { name := "UPDATE", type := (.object "com/example/statementbound/statementbound/statements/internal/Statement$Kind"), accessFlags := 16409, slot := 2, constantValue := 0 }, { name := "DELETE", type := (.object "com/example/statementbound/statementbound/statements/internal/Statement$Kind"), accessFlags := 16409, slot := 3, constantValue := 0 }, { name := "element", type := (.object "java/lang/String"), accessFlags := 18, slot := 3, constantValue := 0 }, { name := "$VALUES", type := (.array (.object "com/example/statementbound/statementbound/statements/internal/Statement$Kind")), accessFlags := 4122, slot := 4, constantValue := 0 }]
  methods := #[k12m0, k12m1]
  instanceTypes := #[(.object "java/lang/String"), .int, .int, (.object "java/lang/String")]
  staticTypes := #[(.object "com/example/statementbound/statementbound/statements/internal/Statement$Kind"), (.object "com/example/statementbound/statementbound/statements/internal/Statement$Kind"), (.object "com/example/statementbound/statementbound/statements/internal/Statement$Kind"), (.object "com/example/statementbound/statementbound/statements/internal/Statement$Kind"), (.array (.object "com/example/statementbound/statementbound/statements/internal/Statement$Kind"))]
  resolved := Array.replicate 88 none
  statics := some 2 }

def pool13 : Array CpInfo := pool [(1, .class_ 2), (0, u "java/lang/Cloneable"), (0, .class_ 4), (0, u "java/lang/Object")] 2

/-- java/lang/Cloneable -/
def k13 : Class := { plain "java/lang/Cloneable" (some 0) with
  accessFlags := 1537
  interfaces := #[]
  cf := some (fileOf pool13 1 #[] #[] 1537 3 #[] #[])
  fields := #[]
  methods := #[]
  instanceTypes := #[]
  staticTypes := #[]
  resolved := Array.replicate 7 none
  statics := none }

def pool14 : Array CpInfo := pool [(9, u "<init>"), (6, .class_ 18), (1, u "java/lang/Object"), (0, u "()V"), (1, .class_ 23), (1, u "jdk/internal/util/ArraysSupport"), (0, u "LOG2_ARRAY_LONG_INDEX_SCALE"), (0, u "I"), (2, u "U"), (0, u "Ljdk/internal/misc/Unsafe;"), (8, u "BIG_ENDIAN"), (0, u "Z"), (8, u "LOG2_BYTE_BIT_SIZE"), (4, u "LOG2_ARRAY_INT_INDEX_SCALE"), (54, u "JLA"), (0, u "Ljdk/internal/access/JavaLangAccess;"), (11, u "LOG2_ARRAY_BOOLEAN_INDEX_SCALE"), (9, u "LOG2_ARRAY_BYTE_INDEX_SCALE"), (5, u "LOG2_ARRAY_CHAR_INDEX_SCALE"), (5, u "LOG2_ARRAY_SHORT_INDEX_SCALE"), (18, u "LOG2_ARRAY_FLOAT_INDEX_SCALE"), (24, u "LOG2_ARRAY_DOUBLE_INDEX_SCALE"), (89, u "T_BOOLEAN"), (2, u "T_CHAR"), (1, u "T_FLOAT"), (1, u "T_DOUBLE"), (1, u "T_BYTE"), (1, u "T_SHORT"), (1, u "T_INT"), (1, u "T_LONG"), (1, u "SOFT_MAX_ARRAY_LENGTH")] 83

def k14m0 : Method := { name := "<init>", desc := "()V", sig := { parameters := [], returnType := none }, accessFlags := 2, code := none }
/-- jdk/internal/util/ArraysSupport -/
def k14 : Class := { plain "jdk/internal/util/ArraysSupport" (some 0) with
  accessFlags := 33
  interfaces := #[]
  cf := some (fileOf pool14 21 #[] #[{ accessFlags := 2, nameIndex := 9, descriptorIndex := 19, attributes := #[] }] 33 16 #[] #[{ accessFlags := 24, nameIndex := 28, descriptorIndex := 29, attributes := #[] }, { accessFlags := 26, nameIndex := 38, descriptorIndex := 39, attributes := #[] }, { accessFlags := 25, nameIndex := 121, descriptorIndex := 25, attributes := #[] }, { accessFlags := 25, nameIndex := 131, descriptorIndex := 25, attributes := #[] }, { accessFlags := 25, nameIndex := 137, descriptorIndex := 25, attributes := #[] }, { accessFlags := 25, nameIndex := 143, descriptorIndex := 25, attributes := #[] }, { accessFlags := 25, nameIndex := 53, descriptorIndex := 25, attributes := #[] }, { accessFlags := 25, nameIndex := 24, descriptorIndex := 25, attributes := #[] }, { accessFlags := 25, nameIndex := 162, descriptorIndex := 25, attributes := #[] }, { accessFlags := 25, nameIndex := 187, descriptorIndex := 25, attributes := #[] }, { accessFlags := 26, nameIndex := 48, descriptorIndex := 25, attributes := #[] }, { accessFlags := 25, nameIndex := 277, descriptorIndex := 25, attributes := #[] }, { accessFlags := 25, nameIndex := 280, descriptorIndex := 25, attributes := #[] }, { accessFlags := 25, nameIndex := 282, descriptorIndex := 25, attributes := #[] }, { accessFlags := 25, nameIndex := 284, descriptorIndex := 25, attributes := #[] }, { accessFlags := 25, nameIndex := 286, descriptorIndex := 25, attributes := #[] }, { accessFlags := 25, nameIndex := 288, descriptorIndex := 25, attributes := #[] }, { accessFlags := 25, nameIndex := 290, descriptorIndex := 25, attributes := #[] }, { accessFlags := 25, nameIndex := 292, descriptorIndex := 25, attributes := #[] }, { accessFlags := 26, nameIndex := 108, descriptorIndex := 109, attributes := #[] }, { accessFlags := 25, nameIndex := 294, descriptorIndex := 25, attributes := #[] }])
  fields := #[{ name := "U", type := (.object "jdk/internal/misc/Unsafe"), accessFlags := 24, slot := 0, constantValue := 0 }, { name := "BIG_ENDIAN", type := .boolean, accessFlags := 26, slot := 1, constantValue := 0 }, { name := "LOG2_ARRAY_BOOLEAN_INDEX_SCALE", type := .int, accessFlags := 25, slot := 2, constantValue := 0 }, { name := "LOG2_ARRAY_BYTE_INDEX_SCALE", type := .int, accessFlags := 25, slot := 3, constantValue := 0 }, { name := "LOG2_ARRAY_CHAR_INDEX_SCALE", type := .int, accessFlags := 25, slot := 4, constantValue := 0 }, { name := "LOG2_ARRAY_SHORT_INDEX_SCALE", type := .int, accessFlags := 25, slot := 5, constantValue := 0 }, { name := "LOG2_ARRAY_INT_INDEX_SCALE", type := .int, accessFlags := 25, slot := 6, constantValue := 0 }, { name := "LOG2_ARRAY_LONG_INDEX_SCALE", type := .int, accessFlags := 25, slot := 7, constantValue := 0 }, { name := "LOG2_ARRAY_FLOAT_INDEX_SCALE", type := .int, accessFlags := 25, slot := 8, constantValue := 0 }, { name := "LOG2_ARRAY_DOUBLE_INDEX_SCALE", type := .int, accessFlags := 25, slot := 9, constantValue := 0 }, { name := "LOG2_BYTE_BIT_SIZE", type := .int, accessFlags := 26, slot := 10, constantValue := 0 }, { name := "T_BOOLEAN", type := .int, accessFlags := 25, slot := 11, constantValue := 0 }, { name := "T_CHAR", type := .int, accessFlags := 25, slot := 12, constantValue := 0 }, { name := "T_FLOAT", type := .int, accessFlags := 25, slot := 13, constantValue := 0 }, { name := "T_DOUBLE", type := .int, accessFlags := 25, slot := 14, constantValue := 0 }, { name := "T_BYTE", type := .int, accessFlags := 25, slot := 15, constantValue := 0 }, { name := "T_SHORT", type := .int, accessFlags := 25, slot := 16, constantValue := 0 }, { name := "T_INT", type := .int, accessFlags := 25, slot := 17, constantValue := 0 }, { name := "T_LONG", type := .int, accessFlags := 25, slot := 18, constantValue := 0 }, { name := "JLA", type := (.object "jdk/internal/access/JavaLangAccess"), accessFlags := 26, slot := 19, constantValue := 0 }, { name := "SOFT_MAX_ARRAY_LENGTH", type := .int, accessFlags := 25, slot := 20, constantValue := 0 }]
  methods := #[k14m0]
  instanceTypes := #[]
  staticTypes := #[(.object "jdk/internal/misc/Unsafe"), .boolean, .int, .int, .int, .int, .int, .int, .int, .int, .int, .int, .int, .int, .int, .int, .int, .int, .int, (.object "jdk/internal/access/JavaLangAccess"), .int]
  resolved := Array.replicate 378 none
  statics := none }

/-- the primitive byte -/
def k15 : Class := { plain "byte" none with kind := .primitive 'B', accessFlags := 0x411 }
/-- [B -/
def k16 : Class := { plain "[B" (some 0) with kind := .array 15 .byte, interfaces := #[13, 2], accessFlags := 1041 }

/-- the primitive char -/
def k17 : Class := { plain "char" none with kind := .primitive 'C', accessFlags := 0x411 }
/-- [C -/
def k18 : Class := { plain "[C" (some 0) with kind := .array 17 .char, interfaces := #[13, 2], accessFlags := 1041 }

/-- the primitive int -/
def k19 : Class := { plain "int" none with kind := .primitive 'I', accessFlags := 0x411 }
/-- [I -/
def k20 : Class := { plain "[I" (some 0) with kind := .array 19 .int, interfaces := #[13, 2], accessFlags := 1041 }

/-- [Lcom/example/statementbound/statementbound/statements/internal/Statement$Kind; -/
def k21 : Class := { plain "[Lcom/example/statementbound/statementbound/statements/internal/Statement$Kind;" (some 0) with kind := .array 12 (.object "com/example/statementbound/statementbound/statements/internal/Statement$Kind"), interfaces := #[13, 2], accessFlags := 1041 }

def heap : Heap := #[{ cls := 7, slots := #[.long 0, .int 1, .null, .int 0, .null, .int 0, .int 0], vm := .statics 7 },
  { cls := 9, slots := #[.null, .null, .null], vm := .statics 9 },
  { cls := 12, slots := #[.ref 4, .ref 5, .ref 6, .ref 7, .ref 3], vm := .statics 12 },
  { cls := 21, slots := #[.ref 4, .ref 5, .ref 6, .ref 7], vm := .none },
  { cls := 12, slots := #[.null, .int 0, .int 0, .ref 8], vm := .none },
  { cls := 12, slots := #[.null, .int 1, .int 0, .ref 9], vm := .none },
  { cls := 12, slots := #[.null, .int 2, .int 0, .ref 10], vm := .none },
  { cls := 12, slots := #[.null, .int 3, .int 0, .ref 11], vm := .none },
  { cls := 7, slots := #[.ref 12, .int 0, .int 0, .int 0], vm := .none },
  { cls := 7, slots := #[.ref 13, .int 0, .int 0, .int 0], vm := .none },
  { cls := 7, slots := #[.ref 14, .int 0, .int 0, .int 0], vm := .none },
  { cls := 7, slots := #[.ref 15, .int 0, .int 0, .int 0], vm := .none },
  { cls := 16, slots := #[.int 115, .int 101, .int 108, .int 101, .int 99, .int 116], vm := .none },
  { cls := 16, slots := #[.int 105, .int 110, .int 115, .int 101, .int 114, .int 116], vm := .none },
  { cls := 16, slots := #[.int 117, .int 112, .int 100, .int 97, .int 116, .int 101], vm := .none },
  { cls := 16, slots := #[.int 100, .int 101, .int 108, .int 101, .int 116, .int 101], vm := .none },
  { cls := 14, slots := #[], vm := .none }]
def classes : Array Class := #[k0, k1, k2, k3, k4, k5, k6, k7, k8, k9, k10, k11, k12, k13, k14, k15, k16, k17, k18, k19, k20, k21]
def interned : List (Array UInt16 × Addr) := []
def slotsUsed : Nat := 75
def theMethod : MethodId := ⟨1, 1⟩
def args0 : Array Value := #[.int 5, .int 5, .int 5, .int 5]
def aboutOver (below : List Frame) : State where
  vm := { classes := classes, interned := interned.toArray }
  heap := heap
  slotsUsed := slotsUsed
  threads := #[{ frames := .invoking theMethod args0 :: below }]
def below0 : List Frame := [.native { method := ⟨0, 0⟩, args := #[] }]
def about1 : State := aboutOver below0
def p0 : Program := .bare "" "" ""
def e0 : Env := launch0.env 0 0 0
theorem w_frames : about1.frames = Frame.invoking theMethod args0 :: below0 := rfl
set_option maxRecDepth 65536 in
theorem w_args : argsFit about1.vm theMethod args0 = true := by decide +kernel
set_option maxRecDepth 65536 in
theorem w_heap : heapFits about1 = true := by decide +kernel
set_option maxRecDepth 65536 in
theorem w_runnable : about1.curStatus? = some .runnable := by decide +kernel
set_option maxRecDepth 65536 in
theorem w_alone : about1.alone = true := by decide +kernel
set_option maxRecDepth 65536 in
theorem w_named : about1.methodNamed? x = some theMethod := by decide +kernel
set_option maxRecDepth 65536 in
theorem w_hears : about1.hears theMethod below0 = true := by decide +kernel
set_option maxRecDepth 65536 in
theorem w_ripe : about1.ripe theMethod args0 below0 = true := by decide +kernel
theorem w_running : about1.status = .running := rfl
set_option maxRecDepth 65536 in
theorem w_room : about1.hasRoom e0.platform room_1 = true :=
  launch0.hasRoom_least _ room_1 (by decide +kernel) (by decide +kernel) (by decide +kernel) (by decide +kernel) (by decide +kernel) (by decide +kernel)
theorem allAtoms_all (ts : List Jvm.Cond) (a : Array Jvm.Value) (st : Jvm.State) : (allAtoms ts).before a st = ts.all (fun c => c.before a st) := by
  induction ts with
  | nil => rfl
  | cons c t ih =>
    show (Jvm.Cond.and c (allAtoms t)).before a st = _
    rw [Jvm.Cond.before_and, ih, List.all_cons]
def words1 : List Jvm.Cond := Jvm.Cond.code x code maxLocals ret :: tables_1
/-- a 'code' word, met by the world's own term for the bytes: nothing is compared byte by byte -/
theorem code_word {y : MethodName} {bytes : ByteArray} {mx : Nat} {rt : Option FieldType} {a : Array Value} {s : State} {m : MethodId} {meth : Method} {c : Code} (h1 : s.methodNamed? y = some m) (h2 : s.vm.method? m = some meth) (h3 : meth.code = some c) (h4 : c.code = bytes)
    (h5 : (c.maxLocals == mx && c.exceptionTable.isEmpty && decide (c.maxStack ≤ mostOperands) && decide (meth.sig.returnType = rt) && !meth.locks && decide (parseMethodDescriptor y.desc = some meth.sig)) = true) : (Jvm.Cond.code y bytes mx rt).before a s = true := by
  simp only [Bool.and_eq_true, beq_iff_eq, Bool.not_eq_true', decide_eq_true_eq] at h5
  obtain ⟨⟨⟨⟨⟨g1, g2⟩, g3⟩, g4⟩, g5⟩, g6⟩ := h5
  simp [Cond.before, Cond.holds, Cond.value, h1, h2, h3, h4, g1, g2, g3, g4, g5, g6]
def isCode : Jvm.Cond → Bool
  | .code _ _ _ _ => true
  | _ => false
theorem all_split {L : List Jvm.Cond} {P : Jvm.Cond → Bool} (h1 : L.all (fun c => isCode c || P c) = true) (h2 : ∀ c ∈ L.filter isCode, P c = true) : L.all P = true := by
  refine List.all_eq_true.mpr fun c hc => ?_
  have h := List.all_eq_true.mp h1 c hc
  rcases Bool.eq_false_or_eq_true (isCode c) with hi | hi
  · exact h2 c (List.mem_filter.mpr ⟨hc, hi⟩)
  · simpa [hi] using h
set_option maxRecDepth 65536 in
theorem w_c0 : (Jvm.Cond.code x code maxLocals ret).before args0 about1 = true := code_word (m := ⟨1, 1⟩) (meth := k1m1) (c := k1c1) (by decide +kernel) rfl rfl rfl (by decide +kernel)
set_option maxRecDepth 65536 in
theorem w_c1 : (Jvm.Cond.code ({ cls := "java/lang/String", name := "charAt", desc := "(I)C" } : Jvm.MethodName) jdk_42_method_56_code (2 : Nat) (Option.some Jvm.ClassFile.FieldType.char)).before args0 about1 = true := code_word (m := ⟨7, 2⟩) (meth := k7m2) (c := k7c2) (by decide +kernel) rfl rfl rfl (by decide +kernel)
set_option maxRecDepth 65536 in
theorem w_c2 : (Jvm.Cond.code ({ cls := "java/lang/String", name := "isLatin1", desc := "()Z" } : Jvm.MethodName) jdk_42_method_154_code (1 : Nat) (Option.some Jvm.ClassFile.FieldType.boolean)).before args0 about1 = true := code_word (m := ⟨7, 5⟩) (meth := k7m5) (c := k7c5) (by decide +kernel) rfl rfl rfl (by decide +kernel)
set_option maxRecDepth 65536 in
theorem w_c3 : (Jvm.Cond.code ({ cls := "java/lang/StringLatin1", name := "charAt", desc := "([BI)C" } : Jvm.MethodName) jdk_43_method_2_code (2 : Nat) (Option.some Jvm.ClassFile.FieldType.char)).before args0 about1 = true := code_word (m := ⟨8, 1⟩) (meth := k8m1) (c := k8c1) (by decide +kernel) rfl rfl rfl (by decide +kernel)
set_option maxRecDepth 65536 in
theorem w_c4 : (Jvm.Cond.code ({ cls := "java/lang/String", name := "checkIndex", desc := "(II)V" } : Jvm.MethodName) jdk_42_method_155_code (2 : Nat) (Option.none : Option Jvm.ClassFile.FieldType)).before args0 about1 = true := code_word (m := ⟨7, 6⟩) (meth := k7m6) (c := k7c6) (by decide +kernel) rfl rfl rfl (by decide +kernel)
set_option maxRecDepth 65536 in
theorem w_c5 : (Jvm.Cond.code ({ cls := "jdk/internal/util/Preconditions", name := "checkIndex", desc := "(IILjava/util/function/BiFunction;)I" } : Jvm.MethodName) jdk_41_method_11_code (3 : Nat) (Option.some Jvm.ClassFile.FieldType.int)).before args0 about1 = true := code_word (m := ⟨9, 1⟩) (meth := k9m1) (c := k9c1) (by decide +kernel) rfl rfl rfl (by decide +kernel)
set_option maxRecDepth 65536 in
theorem w_c6 : (Jvm.Cond.code ({ cls := "com/example/statementbound/statementbound/statements/internal/KindOfElementPinLaw", name := "take", desc := "([CI)Ljava/lang/String;" } : Jvm.MethodName) method_4_code (2 : Nat) (Option.some (Jvm.ClassFile.FieldType.object "java/lang/String"))).before args0 about1 = true := code_word (m := ⟨1, 3⟩) (meth := k1m3) (c := k1c3) (by decide +kernel) rfl rfl rfl (by decide +kernel)
set_option maxRecDepth 65536 in
theorem w_c7 : (Jvm.Cond.code ({ cls := "java/lang/String", name := "<init>", desc := "([C)V" } : Jvm.MethodName) jdk_42_method_3_code (2 : Nat) (Option.none : Option Jvm.ClassFile.FieldType)).before args0 about1 = true := code_word (m := ⟨7, 1⟩) (meth := k7m1) (c := k7c1) (by decide +kernel) rfl rfl rfl (by decide +kernel)
set_option maxRecDepth 65536 in
theorem w_c8 : (Jvm.Cond.code ({ cls := "java/lang/String", name := "<init>", desc := "([CIILjava/lang/Void;)V" } : Jvm.MethodName) jdk_42_method_149_code (6 : Nat) (Option.none : Option Jvm.ClassFile.FieldType)).before args0 about1 = true := code_word (m := ⟨7, 4⟩) (meth := k7m4) (c := k7c4) (by decide +kernel) rfl rfl rfl (by decide +kernel)
set_option maxRecDepth 65536 in
theorem w_c9 : (Jvm.Cond.code ({ cls := "java/lang/Object", name := "<init>", desc := "()V" } : Jvm.MethodName) object_method_1_code (1 : Nat) (Option.none : Option Jvm.ClassFile.FieldType)).before args0 about1 = true := code_word (m := ⟨0, 0⟩) (meth := k0m0) (c := k0c0) (by decide +kernel) rfl rfl rfl (by decide +kernel)
set_option maxRecDepth 65536 in
theorem w_c10 : (Jvm.Cond.code ({ cls := "java/lang/StringUTF16", name := "compress", desc := "([CII)[B" } : Jvm.MethodName) jdk_52_method_16_code (6 : Nat) (Option.some (Jvm.ClassFile.FieldType.array Jvm.ClassFile.FieldType.byte))).before args0 about1 = true := code_word (m := ⟨10, 2⟩) (meth := k10m2) (c := k10c2) (by decide +kernel) rfl rfl rfl (by decide +kernel)
set_option maxRecDepth 65536 in
theorem w_c11 : (Jvm.Cond.code ({ cls := "java/lang/StringUTF16", name := "compress", desc := "([CI[BII)I" } : Jvm.MethodName) jdk_52_method_21_code (7 : Nat) (Option.some Jvm.ClassFile.FieldType.int)).before args0 about1 = true := code_word (m := ⟨10, 3⟩) (meth := k10m3) (c := k10c3) (by decide +kernel) rfl rfl rfl (by decide +kernel)
set_option maxRecDepth 65536 in
theorem w_c12 : (Jvm.Cond.code ({ cls := "java/lang/StringUTF16", name := "coderFromArrayLen", desc := "([BI)B" } : Jvm.MethodName) jdk_52_method_15_code (2 : Nat) (Option.some Jvm.ClassFile.FieldType.byte)).before args0 about1 = true := code_word (m := ⟨10, 1⟩) (meth := k10m1) (c := k10c1) (by decide +kernel) rfl rfl rfl (by decide +kernel)
set_option maxRecDepth 65536 in
theorem w_c13 : (Jvm.Cond.code ({ cls := "com/example/statementbound/statementbound/statements/internal/Statement$Kind", name := "ofElement", desc := "(Ljava/lang/String;)Lcom/example/statementbound/statementbound/statements/internal/Statement$Kind;" } : Jvm.MethodName) prog_138_method_4_code (5 : Nat) (Option.some (Jvm.ClassFile.FieldType.object "com/example/statementbound/statementbound/statements/internal/Statement$Kind"))).before args0 about1 = true := code_word (m := ⟨12, 1⟩) (meth := k12m1) (c := k12c1) (by decide +kernel) rfl rfl rfl (by decide +kernel)
set_option maxRecDepth 65536 in
theorem w_c14 : (Jvm.Cond.code ({ cls := "com/example/statementbound/statementbound/statements/internal/Statement$Kind", name := "values", desc := "()[Lcom/example/statementbound/statementbound/statements/internal/Statement$Kind;" } : Jvm.MethodName) prog_138_method_1_code (0 : Nat) (Option.some (Jvm.ClassFile.FieldType.array (Jvm.ClassFile.FieldType.object "com/example/statementbound/statementbound/statements/internal/Statement$Kind")))).before args0 about1 = true := code_word (m := ⟨12, 0⟩) (meth := k12m0) (c := k12c0) (by decide +kernel) rfl rfl rfl (by decide +kernel)
set_option maxRecDepth 65536 in
theorem w_c15 : (Jvm.Cond.code ({ cls := "java/lang/String", name := "equals", desc := "(Ljava/lang/Object;)Z" } : Jvm.MethodName) jdk_42_method_66_code (3 : Nat) (Option.some Jvm.ClassFile.FieldType.boolean)).before args0 about1 = true := code_word (m := ⟨7, 3⟩) (meth := k7m3) (c := k7c3) (by decide +kernel) rfl rfl rfl (by decide +kernel)
set_option maxRecDepth 65536 in
theorem w_c16 : (Jvm.Cond.code ({ cls := "java/lang/StringLatin1", name := "equals", desc := "([B[B)Z" } : Jvm.MethodName) jdk_43_method_13_code (3 : Nat) (Option.some Jvm.ClassFile.FieldType.boolean)).before args0 about1 = true := code_word (m := ⟨8, 2⟩) (meth := k8m2) (c := k8c2) (by decide +kernel) rfl rfl rfl (by decide +kernel)
set_option maxRecDepth 65536 in
theorem w_c17 : (Jvm.Cond.code ({ cls := "com/example/statementbound/statementbound/statements/internal/KindOfElementPinLaw", name := "expected", desc := "(Ljava/lang/String;)Lcom/example/statementbound/statementbound/statements/internal/Statement$Kind;" } : Jvm.MethodName) method_5_code (1 : Nat) (Option.some (Jvm.ClassFile.FieldType.object "com/example/statementbound/statementbound/statements/internal/Statement$Kind"))).before args0 about1 = true := code_word (m := ⟨1, 4⟩) (meth := k1m4) (c := k1c4) (by decide +kernel) rfl rfl rfl (by decide +kernel)
set_option maxRecDepth 65536 in
theorem w_c18 : (Jvm.Cond.code ({ cls := "com/example/statementbound/statementbound/statements/internal/KindOfElementPinLaw", name := "up", desc := "([CII)V" } : Jvm.MethodName) method_3_code (3 : Nat) (Option.none : Option Jvm.ClassFile.FieldType)).before args0 about1 = true := code_word (m := ⟨1, 2⟩) (meth := k1m2) (c := k1c2) (by decide +kernel) rfl rfl rfl (by decide +kernel)
def codes1 : List Jvm.Cond := [Jvm.Cond.code x code maxLocals ret, Jvm.Cond.code ({ cls := "java/lang/String", name := "charAt", desc := "(I)C" } : Jvm.MethodName) jdk_42_method_56_code (2 : Nat) (Option.some Jvm.ClassFile.FieldType.char), Jvm.Cond.code ({ cls := "java/lang/String", name := "isLatin1", desc := "()Z" } : Jvm.MethodName) jdk_42_method_154_code (1 : Nat) (Option.some Jvm.ClassFile.FieldType.boolean), Jvm.Cond.code ({ cls := "java/lang/StringLatin1", name := "charAt", desc := "([BI)C" } : Jvm.MethodName) jdk_43_method_2_code (2 : Nat) (Option.some Jvm.ClassFile.FieldType.char), Jvm.Cond.code ({ cls := "java/lang/String", name := "checkIndex", desc := "(II)V" } : Jvm.MethodName) jdk_42_method_155_code (2 : Nat) (Option.none : Option Jvm.ClassFile.FieldType), Jvm.Cond.code ({ cls := "jdk/internal/util/Preconditions", name := "checkIndex", desc := "(IILjava/util/function/BiFunction;)I" } : Jvm.MethodName) jdk_41_method_11_code (3 : Nat) (Option.some Jvm.ClassFile.FieldType.int), Jvm.Cond.code ({ cls := "com/example/statementbound/statementbound/statements/internal/KindOfElementPinLaw", name := "take", desc := "([CI)Ljava/lang/String;" } : Jvm.MethodName) method_4_code (2 : Nat) (Option.some (Jvm.ClassFile.FieldType.object "java/lang/String")), Jvm.Cond.code ({ cls := "java/lang/String", name := "<init>", desc := "([C)V" } : Jvm.MethodName) jdk_42_method_3_code (2 : Nat) (Option.none : Option Jvm.ClassFile.FieldType), Jvm.Cond.code ({ cls := "java/lang/String", name := "<init>", desc := "([CIILjava/lang/Void;)V" } : Jvm.MethodName) jdk_42_method_149_code (6 : Nat) (Option.none : Option Jvm.ClassFile.FieldType), Jvm.Cond.code ({ cls := "java/lang/Object", name := "<init>", desc := "()V" } : Jvm.MethodName) object_method_1_code (1 : Nat) (Option.none : Option Jvm.ClassFile.FieldType), Jvm.Cond.code ({ cls := "java/lang/StringUTF16", name := "compress", desc := "([CII)[B" } : Jvm.MethodName) jdk_52_method_16_code (6 : Nat) (Option.some (Jvm.ClassFile.FieldType.array Jvm.ClassFile.FieldType.byte)), Jvm.Cond.code ({ cls := "java/lang/StringUTF16", name := "compress", desc := "([CI[BII)I" } : Jvm.MethodName) jdk_52_method_21_code (7 : Nat) (Option.some Jvm.ClassFile.FieldType.int), Jvm.Cond.code ({ cls := "java/lang/StringUTF16", name := "coderFromArrayLen", desc := "([BI)B" } : Jvm.MethodName) jdk_52_method_15_code (2 : Nat) (Option.some Jvm.ClassFile.FieldType.byte), Jvm.Cond.code ({ cls := "com/example/statementbound/statementbound/statements/internal/Statement$Kind", name := "ofElement", desc := "(Ljava/lang/String;)Lcom/example/statementbound/statementbound/statements/internal/Statement$Kind;" } : Jvm.MethodName) prog_138_method_4_code (5 : Nat) (Option.some (Jvm.ClassFile.FieldType.object "com/example/statementbound/statementbound/statements/internal/Statement$Kind")), Jvm.Cond.code ({ cls := "com/example/statementbound/statementbound/statements/internal/Statement$Kind", name := "values", desc := "()[Lcom/example/statementbound/statementbound/statements/internal/Statement$Kind;" } : Jvm.MethodName) prog_138_method_1_code (0 : Nat) (Option.some (Jvm.ClassFile.FieldType.array (Jvm.ClassFile.FieldType.object "com/example/statementbound/statementbound/statements/internal/Statement$Kind"))), Jvm.Cond.code ({ cls := "java/lang/String", name := "equals", desc := "(Ljava/lang/Object;)Z" } : Jvm.MethodName) jdk_42_method_66_code (3 : Nat) (Option.some Jvm.ClassFile.FieldType.boolean), Jvm.Cond.code ({ cls := "java/lang/StringLatin1", name := "equals", desc := "([B[B)Z" } : Jvm.MethodName) jdk_43_method_13_code (3 : Nat) (Option.some Jvm.ClassFile.FieldType.boolean), Jvm.Cond.code ({ cls := "com/example/statementbound/statementbound/statements/internal/KindOfElementPinLaw", name := "expected", desc := "(Ljava/lang/String;)Lcom/example/statementbound/statementbound/statements/internal/Statement$Kind;" } : Jvm.MethodName) method_5_code (1 : Nat) (Option.some (Jvm.ClassFile.FieldType.object "com/example/statementbound/statementbound/statements/internal/Statement$Kind")), Jvm.Cond.code ({ cls := "com/example/statementbound/statementbound/statements/internal/KindOfElementPinLaw", name := "up", desc := "([CII)V" } : Jvm.MethodName) method_3_code (3 : Nat) (Option.none : Option Jvm.ClassFile.FieldType)]
set_option maxRecDepth 65536 in
theorem codes_eq : words1.filter isCode = codes1 := rfl
theorem w_codes : ∀ c ∈ words1.filter isCode, c.before args0 about1 = true := by
  rw [codes_eq]
  intro c hc
  simp only [codes1, List.mem_cons, List.not_mem_nil, or_false] at hc
  rcases hc with rfl | rfl | rfl | rfl | rfl | rfl | rfl | rfl | rfl | rfl | rfl | rfl | rfl | rfl | rfl | rfl | rfl | rfl | rfl
  · exact w_c0
  · exact w_c1
  · exact w_c2
  · exact w_c3
  · exact w_c4
  · exact w_c5
  · exact w_c6
  · exact w_c7
  · exact w_c8
  · exact w_c9
  · exact w_c10
  · exact w_c11
  · exact w_c12
  · exact w_c13
  · exact w_c14
  · exact w_c15
  · exact w_c16
  · exact w_c17
  · exact w_c18
set_option maxRecDepth 65536 in
theorem w_t1 : (words1.take 24).all (fun c => isCode c || c.before args0 about1) = true := by decide +kernel
set_option maxRecDepth 65536 in
theorem w_t2 : ((words1.drop 24).take 24).all (fun c => isCode c || c.before args0 about1) = true := by decide +kernel
set_option maxRecDepth 65536 in
theorem w_t3 : (((words1.drop 24).drop 24).take 24).all (fun c => isCode c || c.before args0 about1) = true := by decide +kernel
set_option maxRecDepth 65536 in
theorem w_t4 : ((((words1.drop 24).drop 24).drop 24).take 24).all (fun c => isCode c || c.before args0 about1) = true := by decide +kernel
set_option maxRecDepth 65536 in
theorem w_t5 : ((((words1.drop 24).drop 24).drop 24).drop 24).all (fun c => isCode c || c.before args0 about1) = true := by decide +kernel
theorem w_tables : (allAtoms (Jvm.Cond.code x code maxLocals ret :: tables_1)).before args0 about1 = true := by
  rw [allAtoms_all]
  show words1.all (fun c => c.before args0 about1) = true
  refine all_split ?_ w_codes
  rw [← List.take_append_drop 24 words1, List.all_append, w_t1, ← List.take_append_drop 24 (words1.drop 24), List.all_append, w_t2, ← List.take_append_drop 24 ((words1.drop 24).drop 24), List.all_append, w_t3, ← List.take_append_drop 24 (((words1.drop 24).drop 24).drop 24), List.all_append, w_t4, w_t5]
  rfl
set_option maxRecDepth 65536 in
theorem w_rest : rest_1_c.before args0 about1 = true := by decide +kernel
set_option maxRecDepth 65536 in
theorem w_case : (Jvm.Cond.and given_1 narrow_1).before args0 about1 = true := by decide +kernel
set_option maxRecDepth 65536 in
theorem w_consts : constsHeld consts_1 about1 := Jvm.Lit.constsHeldB_iff.mp (by decide +kernel)
theorem w_applies : (headSpec (Jvm.Cond.code x code maxLocals ret :: tables_1) room_1).applies x e0.platform about1 = true :=
  (Spec.applies_iff w_frames).mpr ⟨w_running, w_runnable, w_alone, w_named, w_hears, w_ripe, w_room, w_tables⟩
theorem atStart : AtStart classFile x code maxLocals ret World_1 tables_1 room_1 Calls_1 rest_1 Pre_1 launch0 p0 e0 about1 theMethod args0 below0 :=
  ⟨lists_1, trivial, launch0.admits_env _ _ _, launch0.least_env, fairChoices_fair.cas, fairChoices_fair.clock, w_frames, w_args, w_heap, w_applies, ⟨w_consts, trivial⟩, w_rest, w_case⟩
end start1
theorem witness_1 : WitnessClaimed_1 := ⟨start1.p0, start1.e0, start1.about1, start1.theMethod, start1.args0, start1.below0, start1.atStart⟩
end Jvm.Pilot.@@N@@
