import JvmDerived
import JvmDerived.Pilot.@@N@@Statement
import JvmDerived.Pilot.@@N@@Code
set_option linter.unusedVariables false
set_option linter.unusedSimpArgs false
namespace Jvm.RoadKit
open Sem ClassFile Op Lib Jvm.Stand Jvm.Free Jvm.LawKit
section OwnGo
variable {p : Program} {l : Launch} {e : Env} {R : Room} {s : State} {m : MethodId} {args : Array Value} {below : List Frame} {meth : Method} {c : Code} {T : State} {locs : List Loc} {cells slots : Nat} {Z : State} {a0 : Array Value} {h : Heap} {Q : Option Value → Heap → List Loc → Prop} {kc ks : Nat} {Fin : State → Outcome → Prop}
/-- what is left of a body's walk: from the frame g over T the run ends, in what Fin says -/
def Go (p : Program) (e : Env) (below : List Frame) (Fin : State → Outcome → Prop) (T : State) (g : JFrame) : Prop :=
  ∃ (t : State) (o : Outcome), Steps p.tables e below (T.setTop g) t ∧ t.status = .running ∧ Ended t below o ∧ Fin t o
/-- it returns what Q says; nothing interned -/
def FinN (s : State) (Q : Option Value → Heap → List Loc → Prop) (kc ks : Nat) (t : State) (o : Outcome) : Prop := ∃ v L, o = .returned v ∧ Q v t.heap L ∧ FrameEnd s o t L kc ks
/-- it returns what Q says; String constants may have been interned -/
def FinW (s : State) (Q : Option Value → Heap → List Loc → Vm → Prop) (kc ks : Nat) (t : State) (o : Outcome) : Prop := ∃ v L, o = .returned v ∧ Q v t.heap L t.vm ∧ ReturnedEndW s o t L kc ks
theorem Go.to {T' : State} {g : JFrame} (g' : JFrame) (st : ∀ t, Steps p.tables e below (T'.setTop g') t → Steps p.tables e below (T.setTop g) t) (K : Go p e below Fin T' g') : Go p e below Fin T g := by
  obtain ⟨t, o, h1, r⟩ := K
  exact ⟨t, o, st t h1, r⟩
theorem Go.cast {g g' : JFrame} (q : g = g') (K : Go p e below Fin T g') : Go p e below Fin T g := q ▸ K
/-- a body's contract: with the arguments as' at the heap h0 it returns what Q says -/
def Met1 (l : Launch) (Z : State) (y : MethodName) (bytes : ByteArray) (maxL : Nat) (ret : Option FieldType) (rm : Room) (as' : Array Value) (h0 : Heap) (Q : Option Value → Heap → List Loc → Prop) : Prop :=
  ∀ ws : List Cond, MetFree l y (head1 (Cond.code y bytes maxL ret :: ws) rm) (fun a U => a = as' ∧ Z.Warmed39 U.vm ∧ U.heap = h0) (fun _ _ _ _ _ => True) (fun _ U o U' => ∃ v L, o = .returned v ∧ Q v U'.heap L ∧ FrameEnd U o U' L rm.cells rm.slots)
/-- .. which may intern; J: what is known of the tables where it is called -/
def MetW (l : Launch) (Z : State) (y : MethodName) (bytes : ByteArray) (maxL : Nat) (ret : Option FieldType) (rm : Room) (as' : Array Value) (h0 : Heap) (J : Vm → Prop) (Q : Option Value → Heap → List Loc → Vm → Prop) : Prop :=
  ∀ ws : List Cond, MetFree l y (head1 (Cond.code y bytes maxL ret :: ws) rm) (fun a U => a = as' ∧ Z.Warmed39 U.vm ∧ U.heap = h0 ∧ J U.vm) (fun _ _ _ _ _ => True) (fun _ U o U' => ∃ v L, o = .returned v ∧ Q v U'.heap L U'.vm ∧ ReturnedEndW U o U' L rm.cells rm.slots)
theorem Met1.mk {y : MethodName} {bytes : ByteArray} {maxL : Nat} {ret : Option FieldType} {rm : Room} {as' : Array Value} {h0 : Heap} (hp : plainFor y = true)
    (body : ∀ (p : Program) (e : Env) (s : State) (m : MethodId) (below : List Frame) (meth : Method) (c : Code) (s₁ : State), p.tables.exec = Jvm.exec → Z.Warmed39 s.vm → c.code = bytes → c.maxLocals = maxL → s.vm.findClass y.cls = some m.cls → meth.name = y.name → meth.sig.returnType = ret → meth.locks = false → Stand p l e rm s m as' below meth c s₁ [] 0 0 → s₁.heap = h0 → Go p e below (FinN s Q rm.cells rm.slots) s₁ (entryFrame m as' maxL)) :
    Met1 l Z y bytes maxL ret rm as' h0 Q := by
  intro ws
  refine MetFree.of_bodySF hp hisR ?_
  intro p e s m args below meth c s₁ Bd hml0 hP hK
  obtain ⟨rfl, hZ, hh⟩ := hP
  exact body p e s m below meth c s₁ Bd.exec hZ Bd.bytes hml0 (findClass_of_methodNamed Bd.named) (name_of_methodNamed Bd.named Bd.method).1 Bd.returns Bd.notSynchronized (Stand.of_body Bd) (by rw [← hh, Bd.state]; rfl)
theorem MetW.mk {y : MethodName} {bytes : ByteArray} {maxL : Nat} {ret : Option FieldType} {rm : Room} {as' : Array Value} {h0 : Heap} {J : Vm → Prop} {QW : Option Value → Heap → List Loc → Vm → Prop} (hp : plainFor y = true)
    (body : ∀ (p : Program) (e : Env) (s : State) (m : MethodId) (below : List Frame) (meth : Method) (c : Code) (s₁ : State) (vm0 : Vm), p.tables.exec = Jvm.exec → Z.Warmed39 (s.setVm vm0).vm → c.code = bytes → c.maxLocals = maxL → (s.setVm vm0).vm.findClass y.cls = some m.cls → meth.name = y.name → meth.sig.returnType = ret → meth.locks = false → Stand p l e rm (s.setVm vm0) m as' below meth c s₁ [] 0 0 → s₁.heap = h0 → s.Since vm0 0 → s.heap = h0 → Z.methodNamed? y = some m → J vm0 → Go p e below (FinW s QW rm.cells rm.slots) s₁ (entryFrame m as' maxL)) :
    MetW l Z y bytes maxL ret rm as' h0 J QW := by
  intro ws
  refine MetFree.of_bodySF hp hisR ?_
  intro p e s m args below meth c s₁ Bd hml0 hP hK
  obtain ⟨rfl, hZ, hh, hJ⟩ := hP
  exact body p e s m below meth c s₁ s.vm Bd.exec hZ Bd.bytes hml0 (findClass_of_methodNamed Bd.named) (name_of_methodNamed Bd.named Bd.method).1 Bd.returns Bd.notSynchronized (Stand.of_body Bd) (by rw [← hh, Bd.state]; rfl) (State.WarmedH.since (State.WarmedH.refl s) 0) hh ((State.methodNamed?_setVm hZ.alike y).symm.trans Bd.named) hJ
theorem Go.retI (X : Stand p l e R s m args below meth c T locs cells slots) (hx : p.tables.exec = Jvm.exec) (hret : meth.sig.returnType = some .int) (hlk : meth.locks = false) {pc : Nat} {Ls : Array Slot} {z : Int32} {rest : List Value} (hd : decode c.code pc = .ok (.ireturn, 1)) (hc : cells ≤ kc) (hs : slots ≤ ks)
    (hq : Q (some (.int z)) T.heap locs) : Go p e below (FinN s Q kc ks) T (mkF m pc Ls (.int z :: rest)) := by
  obtain ⟨fs, hr, hrun, hended, hW, hsame⟩ := X.leave (v := (some (.int z))) (fun h => by rw [hret] at h; cases h) hlk
  exact ⟨_, _, Jvm.RoadKit.retOut X hx hret (t := .int) rfl (Or.inl ⟨rfl, Or.inl rfl, _, rfl⟩) hd hr, hrun, hended, _, _, rfl, hq, ⟨_, rfl⟩, hW, hsame.mono hc hs⟩
theorem Go.retIW {vm0 : Vm} {QW : Option Value → Heap → List Loc → Vm → Prop} (X : Stand p l e R (s.setVm vm0) m args below meth c T locs cells slots) (hx : p.tables.exec = Jvm.exec) (hret : meth.sig.returnType = some .int) (hlk : meth.locks = false) {pc : Nat} {Ls : Array Slot} {z : Int32} {rest : List Value} (hd : decode c.code pc = .ok (.ireturn, 1)) (hc : cells ≤ kc) (hs : slots ≤ ks) {n : Nat} (hS : s.Since vm0 n) (hn : n ≤ T.heap.size)
    (hq : QW (some (.int z)) T.heap locs T.vm) : Go p e below (FinW s QW kc ks) T (mkF m pc Ls (.int z :: rest)) := by
  obtain ⟨fs, hr, hrun, hended, h1, h2, h3, h4⟩ := X.leaveW hS hn (v := (some (.int z))) (fun h => by rw [hret] at h; cases h) hlk
  exact ⟨_, _, Jvm.RoadKit.retOut X hx hret (t := .int) rfl (Or.inl ⟨rfl, Or.inl rfl, _, rfl⟩) hd hr, hrun, hended, _, _, rfl, hq, h1, h2, h3, h4.mono hc hs⟩
theorem Go.retN' (X : Stand p l e R s m args below meth c T locs cells slots) (hx : p.tables.exec = Jvm.exec) {t : FieldType} (hret : meth.sig.returnType = some t) (hlk : meth.locks = false) (ht : t = .boolean ∨ t = .byte ∨ t = .char ∨ t = .short) {pc : Nat} {Ls : Array Slot} {z : Int32} {rest : List Value} (hd : decode c.code pc = .ok (.ireturn, 1)) (hc : cells ≤ kc) (hs : slots ≤ ks)
    (hq : Q (some (.int (nar t z))) T.heap locs) : Go p e below (FinN s Q kc ks) T (mkF m pc Ls (.int z :: rest)) := by
  obtain ⟨fs, hr, hrun, hended, hW, hsame⟩ := X.leave (v := (some (.int (nar t z)))) (fun h => by rw [hret] at h; cases h) hlk
  exact ⟨_, _, Jvm.RoadKit.retN X hx hret ht hd hr, hrun, hended, _, _, rfl, hq, ⟨_, rfl⟩, hW, hsame.mono hc hs⟩
theorem Go.retNW' {vm0 : Vm} {QW : Option Value → Heap → List Loc → Vm → Prop} (X : Stand p l e R (s.setVm vm0) m args below meth c T locs cells slots) (hx : p.tables.exec = Jvm.exec) {t : FieldType} (hret : meth.sig.returnType = some t) (hlk : meth.locks = false) (ht : t = .boolean ∨ t = .byte ∨ t = .char ∨ t = .short) {pc : Nat} {Ls : Array Slot} {z : Int32} {rest : List Value} (hd : decode c.code pc = .ok (.ireturn, 1)) (hc : cells ≤ kc) (hs : slots ≤ ks) {n : Nat} (hS : s.Since vm0 n) (hn : n ≤ T.heap.size)
    (hq : QW (some (.int (nar t z))) T.heap locs T.vm) : Go p e below (FinW s QW kc ks) T (mkF m pc Ls (.int z :: rest)) := by
  obtain ⟨fs, hr, hrun, hended, h1, h2, h3, h4⟩ := X.leaveW hS hn (v := (some (.int (nar t z)))) (fun h => by rw [hret] at h; cases h) hlk
  exact ⟨_, _, Jvm.RoadKit.retN X hx hret ht hd hr, hrun, hended, _, _, rfl, hq, h1, h2, h3, h4.mono hc hs⟩
theorem Go.retL (X : Stand p l e R s m args below meth c T locs cells slots) (hx : p.tables.exec = Jvm.exec) (hret : meth.sig.returnType = some .long) (hlk : meth.locks = false) {pc : Nat} {Ls : Array Slot} {z : Int64} {rest : List Value} (hd : decode c.code pc = .ok (.lreturn, 1)) (hc : cells ≤ kc) (hs : slots ≤ ks)
    (hq : Q (some (.long z)) T.heap locs) : Go p e below (FinN s Q kc ks) T (mkF m pc Ls (.long z :: rest)) := by
  obtain ⟨fs, hr, hrun, hended, hW, hsame⟩ := X.leave (v := (some (.long z))) (fun h => by rw [hret] at h; cases h) hlk
  exact ⟨_, _, Jvm.RoadKit.retOut X hx hret (t := .long) rfl (Or.inr (Or.inl ⟨rfl, rfl, _, rfl⟩)) hd hr, hrun, hended, _, _, rfl, hq, ⟨_, rfl⟩, hW, hsame.mono hc hs⟩
theorem Go.retLW {vm0 : Vm} {QW : Option Value → Heap → List Loc → Vm → Prop} (X : Stand p l e R (s.setVm vm0) m args below meth c T locs cells slots) (hx : p.tables.exec = Jvm.exec) (hret : meth.sig.returnType = some .long) (hlk : meth.locks = false) {pc : Nat} {Ls : Array Slot} {z : Int64} {rest : List Value} (hd : decode c.code pc = .ok (.lreturn, 1)) (hc : cells ≤ kc) (hs : slots ≤ ks) {n : Nat} (hS : s.Since vm0 n) (hn : n ≤ T.heap.size)
    (hq : QW (some (.long z)) T.heap locs T.vm) : Go p e below (FinW s QW kc ks) T (mkF m pc Ls (.long z :: rest)) := by
  obtain ⟨fs, hr, hrun, hended, h1, h2, h3, h4⟩ := X.leaveW hS hn (v := (some (.long z))) (fun h => by rw [hret] at h; cases h) hlk
  exact ⟨_, _, Jvm.RoadKit.retOut X hx hret (t := .long) rfl (Or.inr (Or.inl ⟨rfl, rfl, _, rfl⟩)) hd hr, hrun, hended, _, _, rfl, hq, h1, h2, h3, h4.mono hc hs⟩
theorem own_narrow_ref {t : FieldType} {w : Value} (ht : t.isReference = true) : narrow t w = w := by cases t <;> first | rfl | (cases ht)
theorem Go.retA (X : Stand p l e R s m args below meth c T locs cells slots) (hx : p.tables.exec = Jvm.exec) {t : FieldType} (hret : meth.sig.returnType = some t) (hlk : meth.locks = false) (ht : t.isReference = true) {pc : Nat} {Ls : Array Slot} {w : Value} {rest : List Value} (hw : w.isRef = true) (hd : decode c.code pc = .ok (.areturn, 1)) (hc : cells ≤ kc) (hs : slots ≤ ks)
    (hq : Q (some w) T.heap locs) : Go p e below (FinN s Q kc ks) T (mkF m pc Ls (w :: rest)) := by
  obtain ⟨fs, hr, hrun, hended, hW, hsame⟩ := X.leave (v := (some w)) (fun h => by rw [hret] at h; cases h) hlk
  exact ⟨_, _, Jvm.RoadKit.retOut X hx hret (t := t) (own_narrow_ref ht) (Or.inr (Or.inr (Or.inr (Or.inr ⟨rfl, ht, hw⟩)))) hd hr, hrun, hended, _, _, rfl, hq, ⟨_, rfl⟩, hW, hsame.mono hc hs⟩
theorem Go.retAW {vm0 : Vm} {QW : Option Value → Heap → List Loc → Vm → Prop} (X : Stand p l e R (s.setVm vm0) m args below meth c T locs cells slots) (hx : p.tables.exec = Jvm.exec) {t : FieldType} (hret : meth.sig.returnType = some t) (hlk : meth.locks = false) (ht : t.isReference = true) {pc : Nat} {Ls : Array Slot} {w : Value} {rest : List Value} (hw : w.isRef = true) (hd : decode c.code pc = .ok (.areturn, 1)) (hc : cells ≤ kc) (hs : slots ≤ ks) {n : Nat} (hS : s.Since vm0 n) (hn : n ≤ T.heap.size)
    (hq : QW (some w) T.heap locs T.vm) : Go p e below (FinW s QW kc ks) T (mkF m pc Ls (w :: rest)) := by
  obtain ⟨fs, hr, hrun, hended, h1, h2, h3, h4⟩ := X.leaveW hS hn (v := (some w)) (fun h => by rw [hret] at h; cases h) hlk
  exact ⟨_, _, Jvm.RoadKit.retOut X hx hret (t := t) (own_narrow_ref ht) (Or.inr (Or.inr (Or.inr (Or.inr ⟨rfl, ht, hw⟩)))) hd hr, hrun, hended, _, _, rfl, hq, h1, h2, h3, h4.mono hc hs⟩
theorem Go.ret0 (X : Stand p l e R s m args below meth c T locs cells slots) (hx : p.tables.exec = Jvm.exec) (hret : meth.sig.returnType = none) (hlk : meth.locks = false) {pc : Nat} {Ls : Array Slot} (hd : decode c.code pc = .ok (.return_, 1)) (hc : cells ≤ kc) (hs : slots ≤ ks)
    (hq : Q none T.heap locs) : Go p e below (FinN s Q kc ks) T (mkF m pc Ls []) := by
  obtain ⟨fs, hr, hrun, hended, hW, hsame⟩ := X.leave (v := none) (fun _ => rfl) hlk
  exact ⟨_, _, X.returnOut hx hret hd hr, hrun, hended, _, _, rfl, hq, ⟨_, rfl⟩, hW, hsame.mono hc hs⟩
theorem Go.ret0W {vm0 : Vm} {QW : Option Value → Heap → List Loc → Vm → Prop} (X : Stand p l e R (s.setVm vm0) m args below meth c T locs cells slots) (hx : p.tables.exec = Jvm.exec) (hret : meth.sig.returnType = none) (hlk : meth.locks = false) {pc : Nat} {Ls : Array Slot} (hd : decode c.code pc = .ok (.return_, 1)) (hc : cells ≤ kc) (hs : slots ≤ ks) {n : Nat} (hS : s.Since vm0 n) (hn : n ≤ T.heap.size)
    (hq : QW none T.heap locs T.vm) : Go p e below (FinW s QW kc ks) T (mkF m pc Ls []) := by
  obtain ⟨fs, hr, hrun, hended, h1, h2, h3, h4⟩ := X.leaveW hS hn (v := none) (fun _ => rfl) hlk
  exact ⟨_, _, X.returnOut hx hret hd hr, hrun, hended, _, _, rfl, hq, h1, h2, h3, h4.mono hc hs⟩
theorem Go.retN (X : Stand p l e R s m args below meth c T locs cells slots) (hx : p.tables.exec = Jvm.exec) {t : FieldType} (hret : meth.sig.returnType = some t) (hlk : meth.locks = false) (ht : t = .boolean ∨ t = .byte ∨ t = .char ∨ t = .short) {pc : Nat} {Ls : Array Slot} {z z' : Int32} {rest : List Value} (hd : decode c.code pc = .ok (.ireturn, 1)) (hc : cells ≤ kc) (hs : slots ≤ ks) (hz : nar t z = z')
    (hq : Q (some (.int z')) T.heap locs) : Go p e below (FinN s Q kc ks) T (mkF m pc Ls (.int z :: rest)) := by
  subst hz; exact Go.retN' X hx hret hlk ht hd hc hs hq
theorem Go.retNW {vm0 : Vm} {QW : Option Value → Heap → List Loc → Vm → Prop} (X : Stand p l e R (s.setVm vm0) m args below meth c T locs cells slots) (hx : p.tables.exec = Jvm.exec) {t : FieldType} (hret : meth.sig.returnType = some t) (hlk : meth.locks = false) (ht : t = .boolean ∨ t = .byte ∨ t = .char ∨ t = .short) {pc : Nat} {Ls : Array Slot} {z z' : Int32} {rest : List Value} (hd : decode c.code pc = .ok (.ireturn, 1)) (hc : cells ≤ kc) (hs : slots ≤ ks) {n : Nat} (hS : s.Since vm0 n) (hn : n ≤ T.heap.size) (hz : nar t z = z')
    (hq : QW (some (.int z')) T.heap locs T.vm) : Go p e below (FinW s QW kc ks) T (mkF m pc Ls (.int z :: rest)) := by
  subst hz; exact Go.retNW' X hx hret hlk ht hd hc hs hS hn hq
/-- who pays a call: with the arguments as' at the heap h, k cells and n slots more, what Qc says -/
def OBk (l : Launch) (R : Room) (p : Program) (e : Env) (below : List Frame) (s : State) (args : Array Value) (y : MethodName) (len W : Nat) (as' : Array Value) (h : Heap) (k n : Nat) (Qc : Option Value → Heap → List Loc → Prop) : Prop :=
  Back l R p e below s args y len W (fun A a => a = as' ∧ A.U.heap = h ∧ A.cells + k ≤ R.cells ∧ A.slots + n ≤ R.slots) (fun A _ v B => ∃ L, Qc v B.U.heap L ∧ B.locs = A.locs ++ L ∧ B.cells = A.cells + k ∧ B.slots = A.slots + n)
theorem Met1.back {y : MethodName} {bytes : ByteArray} {maxL : Nat} {ret : Option FieldType} {rm : Room} {as' : Array Value} {Qc : Option Value → Heap → List Loc → Prop} {len W : Nat} (M : Met1 l Z y bytes maxL ret rm as' h Qc) (hZ : Z.Warmed39 s.vm) (wc : (Cond.code y bytes maxL ret).before a0 Z = true) (wz : (Cond.initialized y.cls).before a0 Z = true) (hf : rm.frames + 1 ≤ R.frames) (hl : W + (maxL + 11) + rm.locals ≤ R.locals) :
    OBk l R p e below s args y len W as' h rm.cells rm.slots Qc := backOf (M []) hZ wc wz hf hl
/-- a constructor by its contract -/
theorem Go.special (X : Stand p l e R s m args below meth c T locs cells slots) (hx : p.tables.exec = Jvm.exec) (hZ : Z.Warmed39 s.vm) {own : String} {index : Nat} {y : MethodName} {bytes : ByteArray} {maxL : Nat} (hy1 : y.name = "<init>") (hown : s.vm.findClass own = some m.cls)
    (w1 : (Cond.methodLink own index y).before a0 Z = true) (w2 : (Cond.instanceMethod y).before a0 Z = true) (w3 : (Cond.code y bytes maxL none).before a0 Z = true) (hy : y.cls ≠ "java/lang/invoke/MethodHandle" ∧ y.cls ≠ "java/lang/invoke/VarHandle")
    (eT : T.heap = h) {kC kS : Nat} {a : Addr} {argsL rest : List Value} {Qc : Option Value → Heap → List Loc → Prop} {W : Nat} (B : OBk l R p e below s args y 3 W (.ref a :: argsL).toArray h kC kS Qc)
    {pc : Nat} {Ls : Array Slot} (hsz : Ls.size = c.maxLocals) (hlen : ∀ sig, parseMethodDescriptor y.desc = some sig → argsL.length = sig.parameters.length) {st : List Value} (hst : st = argsL.reverse ++ .ref a :: rest) (hW : (rest.map fun v => v.category).sum ≤ W) (hd : decode c.code pc = .ok (.invokespecial index, 3))
    (hc : cells + kC ≤ R.cells) (hs : slots + kS ≤ R.slots)
    (K : ∀ (T' : State) (v : Option Value) (L : List Loc), Stand p l e R s m args below meth c T' (locs ++ L) (cells + kC) (slots + kS) → Qc v T'.heap L → Go p e below Fin T' (mkF m (pc + 3) Ls (v.toList ++ rest))) : Go p e below Fin T (mkF m pc Ls st) := by
  subst hst
  obtain ⟨v, _, ⟨T', L', k', n'⟩, -, X', ⟨Lc, hQ, hl, hk, hn⟩, stp⟩ := X.specialBack hx (y := y) hy1 hown (mvT hZ w1) (mvT hZ w2) (mvT hZ w3) hy B (g := mkF m pc Ls (argsL.reverse ++ .ref a :: rest)) rfl hsz (Steps.refl _) (a := a) (argsL := argsL) (rest := rest) hlen rfl (by show 2 * 0 + _ ≤ _; omega) hd (fun _ _ => ⟨rfl, eT, hc, hs⟩)
  dsimp only [Pt.U, Pt.locs, Pt.cells, Pt.slots] at X' hl hk hn stp hQ
  subst hl hk hn
  obtain ⟨t, o, h1, r⟩ := K T' v Lc X' hQ
  exact ⟨t, o, stp.trans h1, r⟩
/-- an instance method by the contract of the body that the receiver's class selects -/
theorem Go.virt (X : Stand p l e R s m args below meth c T locs cells slots) (hx : p.tables.exec = Jvm.exec) (hZ : Z.Warmed39 s.vm) {own C : String} {index : Nat} {y z : MethodName} (hown : s.vm.findClass own = some m.cls)
    (w1 : (Cond.methodLink own index y).before a0 Z = true) (w2 : (Cond.declares y).before a0 Z = true) (nf : NotFace s y) (w3 : (Cond.selects C y z).before a0 Z = true) (w4 : (Cond.instanceMethod z).before a0 Z = true) (hy : y.cls ≠ "java/lang/invoke/MethodHandle" ∧ y.cls ≠ "java/lang/invoke/VarHandle")
    (eT : T.heap = h) {kC kS : Nat} {a : Addr} (E : Exa Z h a C) {argsL rest : List Value} {Qc : Option Value → Heap → List Loc → Prop} {W : Nat} (B : OBk l R p e below s args z 3 W (.ref a :: argsL).toArray h kC kS Qc)
    {pc : Nat} {Ls : Array Slot} (hsz : Ls.size = c.maxLocals) (hlen : ∀ sig, parseMethodDescriptor y.desc = some sig → argsL.length = sig.parameters.length) {st : List Value} (hst : st = argsL.reverse ++ .ref a :: rest) (hW : (rest.map fun v => v.category).sum ≤ W) (hd : decode c.code pc = .ok (.invokevirtual index, 3))
    (hc : cells + kC ≤ R.cells) (hs : slots + kS ≤ R.slots)
    (K : ∀ (T' : State) (v : Option Value) (L : List Loc), Stand p l e R s m args below meth c T' (locs ++ L) (cells + kC) (slots + kS) → Qc v T'.heap L → Go p e below Fin T' (mkF m (pc + 3) Ls (v.toList ++ rest))) : Go p e below Fin T (mkF m pc Ls st) := by
  subst hst
  obtain ⟨cq, kq, qa, qb, qc⟩ := isOf hZ eT E
  obtain ⟨v, _, ⟨T', L', k', n'⟩, -, X', ⟨Lc, hQ, hl, hk, hn⟩, stp⟩ := X.virtualBack hx (y := y) (z := z) hown (mvT hZ w1) (mvT hZ w2) nf (mvT hZ w3) (mvT hZ w4) hy B qa qc (g := mkF m pc Ls (argsL.reverse ++ .ref a :: rest)) rfl hsz (Steps.refl _) (argsL := argsL) (rest := rest) hlen rfl (by show 2 * 0 + _ ≤ _; omega) hd (fun _ _ => ⟨rfl, eT, hc, hs⟩)
  dsimp only [Pt.U, Pt.locs, Pt.cells, Pt.slots] at X' hl hk hn stp hQ
  subst hl hk hn
  obtain ⟨t, o, h1, r⟩ := K T' v Lc X' hQ
  exact ⟨t, o, stp.trans h1, r⟩
/-- an interface's method by the contract of the body that the receiver's class selects -/
theorem Go.face (X : Stand p l e R s m args below meth c T locs cells slots) (hx : p.tables.exec = Jvm.exec) (hZ : Z.Warmed39 s.vm) {own C : String} {index count : Nat} {y z : MethodName} (hown : s.vm.findClass own = some m.cls)
    (w1 : (Cond.methodLink own index y).before a0 Z = true) (w2 : (Cond.declares y).before a0 Z = true) (w2' : (Cond.interfaceMethod y.cls y.cls y.name y.desc).before a0 Z = true) (w3 : (Cond.selects C y z).before a0 Z = true) (w4 : (Cond.instanceMethod z).before a0 Z = true) (w4' : (Cond.publicMethod z).before a0 Z = true) (w7 : (Cond.unhidden C y.name y.desc).before a0 Z = true) (w8 : (Cond.castable C y.cls).before a0 Z = true) (hy : y.cls ≠ "java/lang/invoke/MethodHandle" ∧ y.cls ≠ "java/lang/invoke/VarHandle") (wq : ((Cond.interfaceMethod y.cls y.cls y.name y.desc).onTables && (Cond.interfaceMethod y.cls y.cls y.name y.desc).keepsFace) = true := by decide +kernel)
    (eT : T.heap = h) {kC kS : Nat} {a : Addr} (E : Exa Z h a C) {argsL rest : List Value} {Qc : Option Value → Heap → List Loc → Prop} {W : Nat} (B : OBk l R p e below s args z 5 W (.ref a :: argsL).toArray h kC kS Qc)
    {pc : Nat} {Ls : Array Slot} (hsz : Ls.size = c.maxLocals) (hlen : ∀ sig, parseMethodDescriptor y.desc = some sig → argsL.length = sig.parameters.length) {st : List Value} (hst : st = argsL.reverse ++ .ref a :: rest) (hW : (rest.map fun v => v.category).sum ≤ W) (hd : decode c.code pc = .ok (.invokeinterface index count, 5))
    (hc : cells + kC ≤ R.cells) (hs : slots + kS ≤ R.slots)
    (K : ∀ (T' : State) (v : Option Value) (L : List Loc), Stand p l e R s m args below meth c T' (locs ++ L) (cells + kC) (slots + kS) → Qc v T'.heap L → Go p e below Fin T' (mkF m (pc + 5) Ls (v.toList ++ rest))) : Go p e below Fin T (mkF m pc Ls st) := by
  subst hst
  obtain ⟨cq, kq, qa, qb, qc⟩ := isOf hZ eT E
  obtain ⟨v, _, ⟨T', L', k', n'⟩, -, X', ⟨Lc, hQ, hl, hk, hn⟩, stp⟩ := X.interfaceBack hx (xi := y) (y := z) hown (mvT hZ w1) (mvT hZ w2) (mvT hZ w2' wq) (mvT hZ w3) (mvT hZ w4) (mvT hZ w4') (mvT hZ w7) (mvT hZ w8) hy B qa qb qc (g := mkF m pc Ls (argsL.reverse ++ .ref a :: rest)) rfl hsz (Steps.refl _) (argsL := argsL) (rest := rest) hlen rfl (by show 2 * 0 + _ ≤ _; omega) hd (fun _ _ => ⟨rfl, eT, hc, hs⟩)
  dsimp only [Pt.U, Pt.locs, Pt.cells, Pt.slots] at X' hl hk hn stp hQ
  subst hl hk hn
  obtain ⟨t, o, h1, r⟩ := K T' v Lc X' hQ
  exact ⟨t, o, stp.trans h1, r⟩
/-- a private instance method by its contract -/
theorem Go.priv (X : Stand p l e R s m args below meth c T locs cells slots) (hx : p.tables.exec = Jvm.exec) (hZ : Z.Warmed39 s.vm) {own : String} {index : Nat} {y : MethodName} {bytes : ByteArray} {maxL : Nat} {ret : Option FieldType} {C : String} (hown : s.vm.findClass own = some m.cls)
    (w1 : (Cond.methodLink own index y).before a0 Z = true) (w2 : (Cond.instanceMethod y).before a0 Z = true) (sel : (Cond.selects y.cls y y).before args s = true) (w4 : (Cond.privateMethod y).before a0 Z = true) (w3 : (Cond.code y bytes maxL ret).before a0 Z = true) (hy : y.cls ≠ "java/lang/invoke/MethodHandle" ∧ y.cls ≠ "java/lang/invoke/VarHandle")
    (eT : T.heap = h) {kC kS : Nat} {a : Addr} (E : Exa Z h a C) {argsL rest : List Value} {Qc : Option Value → Heap → List Loc → Prop} {W : Nat} (B : OBk l R p e below s args y 3 W (.ref a :: argsL).toArray h kC kS Qc)
    {pc : Nat} {Ls : Array Slot} (hsz : Ls.size = c.maxLocals) (hlen : ∀ sig, parseMethodDescriptor y.desc = some sig → argsL.length = sig.parameters.length) {st : List Value} (hst : st = argsL.reverse ++ .ref a :: rest) (hW : (rest.map fun v => v.category).sum ≤ W) (hd : decode c.code pc = .ok (.invokevirtual index, 3))
    (hc : cells + kC ≤ R.cells) (hs : slots + kS ≤ R.slots)
    (K : ∀ (T' : State) (v : Option Value) (L : List Loc), Stand p l e R s m args below meth c T' (locs ++ L) (cells + kC) (slots + kS) → Qc v T'.heap L → Go p e below Fin T' (mkF m (pc + 3) Ls (v.toList ++ rest))) : Go p e below Fin T (mkF m pc Ls st) := by
  subst hst
  obtain ⟨cq, q, q'⟩ := E.cell
  obtain ⟨v, _, ⟨T', L', k', n'⟩, -, X', ⟨Lc, hQ, hl, hk, hn⟩, stp⟩ := X.privateBack hx (y := y) hown (mvT hZ w1) (mvT hZ w2) sel (Cond.privateMethod_at (mvP hZ w4 (args := #[]))) (mvT hZ w3) hy B (g := mkF m pc Ls (argsL.reverse ++ .ref a :: rest)) rfl hsz (Steps.refl _) (a := a) (by rw [eT]; exact q) q' (argsL := argsL) (rest := rest) hlen rfl (by show 2 * 0 + _ ≤ _; omega) hd (fun _ _ => ⟨rfl, eT, hc, hs⟩)
  dsimp only [Pt.U, Pt.locs, Pt.cells, Pt.slots] at X' hl hk hn stp hQ
  subst hl hk hn
  obtain ⟨t, o, h1, r⟩ := K T' v Lc X' hQ
  exact ⟨t, o, stp.trans h1, r⟩
/-- a static method by its contract -/
theorem Go.stat (X : Stand p l e R s m args below meth c T locs cells slots) (hx : p.tables.exec = Jvm.exec) (hZ : Z.Warmed39 s.vm) {own : String} {index : Nat} {y : MethodName} {bytes : ByteArray} {maxL : Nat} {ret : Option FieldType} (hown : s.vm.findClass own = some m.cls)
    (w1 : (Cond.methodLink own index y).before a0 Z = true) (w2 : (Cond.static y).before a0 Z = true) (w3 : (Cond.initialized y.cls).before a0 Z = true) (w4 : (Cond.code y bytes maxL ret).before a0 Z = true) (hy : y.cls ≠ "java/lang/invoke/MethodHandle" ∧ y.cls ≠ "java/lang/invoke/VarHandle")
    (eT : T.heap = h) {kC kS : Nat} {argsL rest : List Value} {Qc : Option Value → Heap → List Loc → Prop} {W : Nat} (B : OBk l R p e below s args y 3 W argsL.toArray h kC kS Qc)
    {pc : Nat} {Ls : Array Slot} (hsz : Ls.size = c.maxLocals) (hlen : ∀ sig, parseMethodDescriptor y.desc = some sig → argsL.length = sig.parameters.length) {st : List Value} (hst : st = argsL.reverse ++ rest) (hW : (rest.map fun v => v.category).sum ≤ W) (hd : decode c.code pc = .ok (.invokestatic index, 3))
    (hc : cells + kC ≤ R.cells) (hs : slots + kS ≤ R.slots)
    (K : ∀ (T' : State) (v : Option Value) (L : List Loc), Stand p l e R s m args below meth c T' (locs ++ L) (cells + kC) (slots + kS) → Qc v T'.heap L → Go p e below Fin T' (mkF m (pc + 3) Ls (v.toList ++ rest))) : Go p e below Fin T (mkF m pc Ls st) := by
  subst hst
  obtain ⟨v, _, ⟨T', L', k', n'⟩, -, X', ⟨Lc, hQ, hl, hk, hn⟩, stp⟩ := Jvm.LawKit.callS X hx (y := y) hown (mvT hZ w1) (mvT hZ w2) (mvT hZ w3) (mvT hZ w4) hy B (g := mkF m pc Ls (argsL.reverse ++ rest)) rfl hsz (argsL := argsL) (rest := rest) hlen rfl (by show 2 * 0 + _ ≤ _; omega) hd (fun _ _ => ⟨rfl, eT, hc, hs⟩)
  dsimp only [Pt.U, Pt.locs, Pt.cells, Pt.slots] at X' hl hk hn stp hQ
  subst hl hk hn
  obtain ⟨t, o, h1, r⟩ := K T' v Lc X' hQ
  exact ⟨t, o, stp t h1, r⟩
/-- who pays a call of a callee that may intern -/
def OBkS (l : Launch) (R : Room) (p : Program) (e : Env) (below : List Frame) (s : State) (args : Array Value) (y : MethodName) (len W : Nat) (as' : Array Value) (h : Heap) (k n : Nat) (Qc : Option Value → Heap → List Loc → Vm → Prop) : Prop :=
  BackS l R p e below s args y len W (fun A a => a = as' ∧ A.U.heap = h ∧ A.cells + k ≤ R.cells ∧ A.slots + n ≤ R.slots) (fun A _ v B => ∃ L, Qc v B.U.heap L B.U.vm ∧ B.locs = A.locs ++ L ∧ B.cells = A.cells + k ∧ B.slots = A.slots + n)
theorem MetW.back {y : MethodName} {bytes : ByteArray} {maxL : Nat} {ret : Option FieldType} {rm : Room} {as' : Array Value} {J : Vm → Prop} {Qc : Option Value → Heap → List Loc → Vm → Prop} {len W : Nat} (M : MetW l Z y bytes maxL ret rm as' h J Qc) (hZ : Z.Warmed39 s.vm) (hJ : ∀ vm1, s.WarmedH vm1 → J vm1) (wc : (Cond.code y bytes maxL ret).before a0 Z = true) (wz : (Cond.initialized y.cls).before a0 Z = true) (hf : rm.frames + 1 ≤ R.frames) (hl : W + (maxL + 11) + rm.locals ≤ R.locals) :
    OBkS l R p e below s args y len W as' h rm.cells rm.slots Qc :=
  BackS.of_freeW (bytes := bytes) (maxL := maxL) (ret := ret) (E := fun _ _ o t L k n => k = rm.cells ∧ n = rm.slots ∧ ∃ v, o = .returned v ∧ Qc v t.heap L t.vm) (M []) hf hl
    (fun m meth c A a Y hp => have hU : Z.Warmed39 A.U.vm := wtrans hZ Y.warmed
      ⟨by show (Cond.and _ .tt).before a A.U = true; rw [Cond.before_and, mv hU wc]; rfl, mv hU wc, mv hU wz, hp.2.2.1, hp.2.2.2⟩)
    (fun m meth c A a g mk Y hp => ⟨hp.1, wtrans hZ Y.warmed, hp.2.1, hJ _ Y.warmed⟩) (fun _ _ _ _ _ _ _ _ _ => trivial)
    (fun _ _ _ _ ⟨v, L, h1, h2, h3⟩ => ⟨L, _, _, h3, rfl, rfl, v, h1, h2⟩)
    (fun m meth c A a g mk v t L k n Y hp _ _ ⟨e1, e2, v', e3, e4⟩ => by cases e3; subst e1 e2; exact ⟨L, e4, rfl, rfl, rfl⟩)
/-- a constructor by its contract -/
theorem Go.specialS {vm0 : Vm} {k0 : Nat} (hS : s.Since vm0 k0) (hk0 : k0 ≤ h.size) (X : Stand p l e R (s.setVm vm0) m args below meth c T locs cells slots) (hx : p.tables.exec = Jvm.exec) (hZ : Z.Warmed39 (s.setVm vm0).vm) {own : String} {index : Nat} {y : MethodName} {bytes : ByteArray} {maxL : Nat} (hy1 : y.name = "<init>") (hown : (s.setVm vm0).vm.findClass own = some m.cls)
    (w1 : (Cond.methodLink own index y).before a0 Z = true) (w2 : (Cond.instanceMethod y).before a0 Z = true) (w3 : (Cond.code y bytes maxL none).before a0 Z = true) (hy : y.cls ≠ "java/lang/invoke/MethodHandle" ∧ y.cls ≠ "java/lang/invoke/VarHandle")
    (eT : T.heap = h) {kC kS : Nat} {a : Addr} {argsL rest : List Value} {Qc : Option Value → Heap → List Loc → Vm → Prop} {W : Nat} (B : OBkS l R p e below (s.setVm vm0) args y 3 W (.ref a :: argsL).toArray h kC kS Qc)
    {pc : Nat} {Ls : Array Slot} (hsz : Ls.size = c.maxLocals) (hlen : ∀ sig, parseMethodDescriptor y.desc = some sig → argsL.length = sig.parameters.length) {st : List Value} (hst : st = argsL.reverse ++ .ref a :: rest) (hW : (rest.map fun v => v.category).sum ≤ W) (hd : decode c.code pc = .ok (.invokespecial index, 3))
    (hc : cells + kC ≤ R.cells) (hs : slots + kS ≤ R.slots)
    (K : ∀ (T' : State) (v : Option Value) (L : List Loc), Stand p l e R (s.setVm T'.vm) m args below meth c T' (locs ++ L) (cells + kC) (slots + kS) → s.Since T'.vm T'.heap.size → (s.setVm vm0).Warmed39 T'.vm → Z.Warmed39 (s.setVm T'.vm).vm → (s.setVm T'.vm).vm.findClass own = some m.cls → h.size ≤ T'.heap.size → Qc v T'.heap L T'.vm → Go p e below Fin T' (mkF m (pc + 3) Ls (v.toList ++ rest))) : Go p e below Fin T (mkF m pc Ls st) := by
  subst hst
  obtain ⟨v, _, ⟨T', L', k', n'⟩, -, X', h2, hg, ⟨Lc, hQ, hl, hk, hn⟩, stp⟩ := X.specialBackS hx (y := y) hy1 hown (mvT hZ w1) (mvT hZ w2) (mvT hZ w3) hy B (g := mkF m pc Ls (argsL.reverse ++ .ref a :: rest)) rfl hsz (Steps.refl _) (a := a) (argsL := argsL) (rest := rest) hlen rfl (by show 2 * 0 + _ ≤ _; omega) hd (fun _ _ => ⟨rfl, eT, hc, hs⟩)
  dsimp only [Pt.U, Pt.locs, Pt.cells, Pt.slots] at X' h2 hg hl hk hn stp hQ
  subst hl hk hn
  rw [eT] at hg
  obtain ⟨X1, X2, X3, X4⟩ := rebS hS hk0 X' h2 hg hZ hown
  obtain ⟨t, o, h1, r⟩ := K T' v Lc X1 X2 h2.1 X3 X4 hg hQ
  exact ⟨t, o, stp.trans h1, r⟩
/-- an instance method by the contract of the body that the receiver's class selects -/
theorem Go.virtS {vm0 : Vm} {k0 : Nat} (hS : s.Since vm0 k0) (hk0 : k0 ≤ h.size) (X : Stand p l e R (s.setVm vm0) m args below meth c T locs cells slots) (hx : p.tables.exec = Jvm.exec) (hZ : Z.Warmed39 (s.setVm vm0).vm) {own C : String} {index : Nat} {y z : MethodName} (hown : (s.setVm vm0).vm.findClass own = some m.cls)
    (w1 : (Cond.methodLink own index y).before a0 Z = true) (w2 : (Cond.declares y).before a0 Z = true) (nf : NotFace (s.setVm vm0) y) (w3 : (Cond.selects C y z).before a0 Z = true) (w4 : (Cond.instanceMethod z).before a0 Z = true) (hy : y.cls ≠ "java/lang/invoke/MethodHandle" ∧ y.cls ≠ "java/lang/invoke/VarHandle")
    (eT : T.heap = h) {kC kS : Nat} {a : Addr} (E : Exa Z h a C) {argsL rest : List Value} {Qc : Option Value → Heap → List Loc → Vm → Prop} {W : Nat} (B : OBkS l R p e below (s.setVm vm0) args z 3 W (.ref a :: argsL).toArray h kC kS Qc)
    {pc : Nat} {Ls : Array Slot} (hsz : Ls.size = c.maxLocals) (hlen : ∀ sig, parseMethodDescriptor y.desc = some sig → argsL.length = sig.parameters.length) {st : List Value} (hst : st = argsL.reverse ++ .ref a :: rest) (hW : (rest.map fun v => v.category).sum ≤ W) (hd : decode c.code pc = .ok (.invokevirtual index, 3))
    (hc : cells + kC ≤ R.cells) (hs : slots + kS ≤ R.slots)
    (K : ∀ (T' : State) (v : Option Value) (L : List Loc), Stand p l e R (s.setVm T'.vm) m args below meth c T' (locs ++ L) (cells + kC) (slots + kS) → s.Since T'.vm T'.heap.size → (s.setVm vm0).Warmed39 T'.vm → Z.Warmed39 (s.setVm T'.vm).vm → (s.setVm T'.vm).vm.findClass own = some m.cls → h.size ≤ T'.heap.size → Qc v T'.heap L T'.vm → Go p e below Fin T' (mkF m (pc + 3) Ls (v.toList ++ rest))) : Go p e below Fin T (mkF m pc Ls st) := by
  subst hst
  obtain ⟨cq, kq, qa, qb, qc⟩ := isOf hZ eT E
  obtain ⟨v, _, ⟨T', L', k', n'⟩, -, X', h2, hg, ⟨Lc, hQ, hl, hk, hn⟩, stp⟩ := X.virtualBackS hx (y := y) (z := z) hown (mvT hZ w1) (mvT hZ w2) nf (mvT hZ w3) (mvT hZ w4) hy B qa qc (g := mkF m pc Ls (argsL.reverse ++ .ref a :: rest)) rfl hsz (Steps.refl _) (argsL := argsL) (rest := rest) hlen rfl (by show 2 * 0 + _ ≤ _; omega) hd (fun _ _ => ⟨rfl, eT, hc, hs⟩)
  dsimp only [Pt.U, Pt.locs, Pt.cells, Pt.slots] at X' h2 hg hl hk hn stp hQ
  subst hl hk hn
  rw [eT] at hg
  obtain ⟨X1, X2, X3, X4⟩ := rebS hS hk0 X' h2 hg hZ hown
  obtain ⟨t, o, h1, r⟩ := K T' v Lc X1 X2 h2.1 X3 X4 hg hQ
  exact ⟨t, o, stp.trans h1, r⟩
/-- an interface's method by the contract of the body that the receiver's class selects -/
theorem Go.faceS {vm0 : Vm} {k0 : Nat} (hS : s.Since vm0 k0) (hk0 : k0 ≤ h.size) (X : Stand p l e R (s.setVm vm0) m args below meth c T locs cells slots) (hx : p.tables.exec = Jvm.exec) (hZ : Z.Warmed39 (s.setVm vm0).vm) {own C : String} {index count : Nat} {y z : MethodName} (hown : (s.setVm vm0).vm.findClass own = some m.cls)
    (w1 : (Cond.methodLink own index y).before a0 Z = true) (w2 : (Cond.declares y).before a0 Z = true) (w2' : (Cond.interfaceMethod y.cls y.cls y.name y.desc).before a0 Z = true) (w3 : (Cond.selects C y z).before a0 Z = true) (w4 : (Cond.instanceMethod z).before a0 Z = true) (w4' : (Cond.publicMethod z).before a0 Z = true) (w7 : (Cond.unhidden C y.name y.desc).before a0 Z = true) (w8 : (Cond.castable C y.cls).before a0 Z = true) (hy : y.cls ≠ "java/lang/invoke/MethodHandle" ∧ y.cls ≠ "java/lang/invoke/VarHandle") (wq : ((Cond.interfaceMethod y.cls y.cls y.name y.desc).onTables && (Cond.interfaceMethod y.cls y.cls y.name y.desc).keepsFace) = true := by decide +kernel)
    (eT : T.heap = h) {kC kS : Nat} {a : Addr} (E : Exa Z h a C) {argsL rest : List Value} {Qc : Option Value → Heap → List Loc → Vm → Prop} {W : Nat} (B : OBkS l R p e below (s.setVm vm0) args z 5 W (.ref a :: argsL).toArray h kC kS Qc)
    {pc : Nat} {Ls : Array Slot} (hsz : Ls.size = c.maxLocals) (hlen : ∀ sig, parseMethodDescriptor y.desc = some sig → argsL.length = sig.parameters.length) {st : List Value} (hst : st = argsL.reverse ++ .ref a :: rest) (hW : (rest.map fun v => v.category).sum ≤ W) (hd : decode c.code pc = .ok (.invokeinterface index count, 5))
    (hc : cells + kC ≤ R.cells) (hs : slots + kS ≤ R.slots)
    (K : ∀ (T' : State) (v : Option Value) (L : List Loc), Stand p l e R (s.setVm T'.vm) m args below meth c T' (locs ++ L) (cells + kC) (slots + kS) → s.Since T'.vm T'.heap.size → (s.setVm vm0).Warmed39 T'.vm → Z.Warmed39 (s.setVm T'.vm).vm → (s.setVm T'.vm).vm.findClass own = some m.cls → h.size ≤ T'.heap.size → Qc v T'.heap L T'.vm → Go p e below Fin T' (mkF m (pc + 5) Ls (v.toList ++ rest))) : Go p e below Fin T (mkF m pc Ls st) := by
  subst hst
  obtain ⟨cq, kq, qa, qb, qc⟩ := isOf hZ eT E
  obtain ⟨v, _, ⟨T', L', k', n'⟩, -, X', h2, hg, ⟨Lc, hQ, hl, hk, hn⟩, stp⟩ := X.interfaceBackS hx (xi := y) (y := z) hown (mvT hZ w1) (mvT hZ w2) (mvT hZ w2' wq) (mvT hZ w3) (mvT hZ w4) (mvT hZ w4') (mvT hZ w7) (mvT hZ w8) hy B qa qb qc (g := mkF m pc Ls (argsL.reverse ++ .ref a :: rest)) rfl hsz (Steps.refl _) (argsL := argsL) (rest := rest) hlen rfl (by show 2 * 0 + _ ≤ _; omega) hd (fun _ _ => ⟨rfl, eT, hc, hs⟩)
  dsimp only [Pt.U, Pt.locs, Pt.cells, Pt.slots] at X' h2 hg hl hk hn stp hQ
  subst hl hk hn
  rw [eT] at hg
  obtain ⟨X1, X2, X3, X4⟩ := rebS hS hk0 X' h2 hg hZ hown
  obtain ⟨t, o, h1, r⟩ := K T' v Lc X1 X2 h2.1 X3 X4 hg hQ
  exact ⟨t, o, stp.trans h1, r⟩
/-- a private instance method by its contract -/
theorem Go.privS {vm0 : Vm} {k0 : Nat} (hS : s.Since vm0 k0) (hk0 : k0 ≤ h.size) (X : Stand p l e R (s.setVm vm0) m args below meth c T locs cells slots) (hx : p.tables.exec = Jvm.exec) (hZ : Z.Warmed39 (s.setVm vm0).vm) {own : String} {index : Nat} {y : MethodName} {bytes : ByteArray} {maxL : Nat} {ret : Option FieldType} {C : String} (hown : (s.setVm vm0).vm.findClass own = some m.cls)
    (w1 : (Cond.methodLink own index y).before a0 Z = true) (w2 : (Cond.instanceMethod y).before a0 Z = true) (sel : (Cond.selects y.cls y y).before args (s.setVm vm0) = true) (w4 : (Cond.privateMethod y).before a0 Z = true) (w3 : (Cond.code y bytes maxL ret).before a0 Z = true) (hy : y.cls ≠ "java/lang/invoke/MethodHandle" ∧ y.cls ≠ "java/lang/invoke/VarHandle")
    (eT : T.heap = h) {kC kS : Nat} {a : Addr} (E : Exa Z h a C) {argsL rest : List Value} {Qc : Option Value → Heap → List Loc → Vm → Prop} {W : Nat} (B : OBkS l R p e below (s.setVm vm0) args y 3 W (.ref a :: argsL).toArray h kC kS Qc)
    {pc : Nat} {Ls : Array Slot} (hsz : Ls.size = c.maxLocals) (hlen : ∀ sig, parseMethodDescriptor y.desc = some sig → argsL.length = sig.parameters.length) {st : List Value} (hst : st = argsL.reverse ++ .ref a :: rest) (hW : (rest.map fun v => v.category).sum ≤ W) (hd : decode c.code pc = .ok (.invokevirtual index, 3))
    (hc : cells + kC ≤ R.cells) (hs : slots + kS ≤ R.slots)
    (K : ∀ (T' : State) (v : Option Value) (L : List Loc), Stand p l e R (s.setVm T'.vm) m args below meth c T' (locs ++ L) (cells + kC) (slots + kS) → s.Since T'.vm T'.heap.size → (s.setVm vm0).Warmed39 T'.vm → Z.Warmed39 (s.setVm T'.vm).vm → (s.setVm T'.vm).vm.findClass own = some m.cls → h.size ≤ T'.heap.size → Qc v T'.heap L T'.vm → Go p e below Fin T' (mkF m (pc + 3) Ls (v.toList ++ rest))) : Go p e below Fin T (mkF m pc Ls st) := by
  subst hst
  obtain ⟨cq, q, q'⟩ := E.cell
  obtain ⟨v, _, ⟨T', L', k', n'⟩, -, X', h2, hg, ⟨Lc, hQ, hl, hk, hn⟩, stp⟩ := X.privateBackS hx (y := y) hown (mvT hZ w1) (mvT hZ w2) sel (Cond.privateMethod_at (mvP hZ w4 (args := #[]))) (mvT hZ w3) hy B (g := mkF m pc Ls (argsL.reverse ++ .ref a :: rest)) rfl hsz (Steps.refl _) (a := a) (by rw [eT]; exact q) q' (argsL := argsL) (rest := rest) hlen rfl (by show 2 * 0 + _ ≤ _; omega) hd (fun _ _ => ⟨rfl, eT, hc, hs⟩)
  dsimp only [Pt.U, Pt.locs, Pt.cells, Pt.slots] at X' h2 hg hl hk hn stp hQ
  subst hl hk hn
  rw [eT] at hg
  obtain ⟨X1, X2, X3, X4⟩ := rebS hS hk0 X' h2 hg hZ hown
  obtain ⟨t, o, h1, r⟩ := K T' v Lc X1 X2 h2.1 X3 X4 hg hQ
  exact ⟨t, o, stp.trans h1, r⟩
/-- a static method by its contract -/
theorem Go.statS {vm0 : Vm} {k0 : Nat} (hS : s.Since vm0 k0) (hk0 : k0 ≤ h.size) (X : Stand p l e R (s.setVm vm0) m args below meth c T locs cells slots) (hx : p.tables.exec = Jvm.exec) (hZ : Z.Warmed39 (s.setVm vm0).vm) {own : String} {index : Nat} {y : MethodName} {bytes : ByteArray} {maxL : Nat} {ret : Option FieldType} (hown : (s.setVm vm0).vm.findClass own = some m.cls)
    (w1 : (Cond.methodLink own index y).before a0 Z = true) (w2 : (Cond.static y).before a0 Z = true) (w3 : (Cond.initialized y.cls).before a0 Z = true) (w4 : (Cond.code y bytes maxL ret).before a0 Z = true) (hy : y.cls ≠ "java/lang/invoke/MethodHandle" ∧ y.cls ≠ "java/lang/invoke/VarHandle")
    (eT : T.heap = h) {kC kS : Nat} {argsL rest : List Value} {Qc : Option Value → Heap → List Loc → Vm → Prop} {W : Nat} (B : OBkS l R p e below (s.setVm vm0) args y 3 W argsL.toArray h kC kS Qc)
    {pc : Nat} {Ls : Array Slot} (hsz : Ls.size = c.maxLocals) (hlen : ∀ sig, parseMethodDescriptor y.desc = some sig → argsL.length = sig.parameters.length) {st : List Value} (hst : st = argsL.reverse ++ rest) (hW : (rest.map fun v => v.category).sum ≤ W) (hd : decode c.code pc = .ok (.invokestatic index, 3))
    (hc : cells + kC ≤ R.cells) (hs : slots + kS ≤ R.slots)
    (K : ∀ (T' : State) (v : Option Value) (L : List Loc), Stand p l e R (s.setVm T'.vm) m args below meth c T' (locs ++ L) (cells + kC) (slots + kS) → s.Since T'.vm T'.heap.size → (s.setVm vm0).Warmed39 T'.vm → Z.Warmed39 (s.setVm T'.vm).vm → (s.setVm T'.vm).vm.findClass own = some m.cls → h.size ≤ T'.heap.size → Qc v T'.heap L T'.vm → Go p e below Fin T' (mkF m (pc + 3) Ls (v.toList ++ rest))) : Go p e below Fin T (mkF m pc Ls st) := by
  subst hst
  obtain ⟨v, _, ⟨T', L', k', n'⟩, -, X', h2, hg, ⟨Lc, hQ, hl, hk, hn⟩, stp⟩ := callSS X hx (y := y) hown (mvT hZ w1) (mvT hZ w2) (mvT hZ w3) (mvT hZ w4) hy B (g := mkF m pc Ls (argsL.reverse ++ rest)) rfl hsz (argsL := argsL) (rest := rest) hlen rfl (by show 2 * 0 + _ ≤ _; omega) hd (fun _ _ => ⟨rfl, eT, hc, hs⟩)
  dsimp only [Pt.U, Pt.locs, Pt.cells, Pt.slots] at X' h2 hg hl hk hn stp hQ
  subst hl hk hn
  rw [eT] at hg
  obtain ⟨X1, X2, X3, X4⟩ := rebS hS hk0 X' h2 hg hZ hown
  obtain ⟨t, o, h1, r⟩ := K T' v Lc X1 X2 h2.1 X3 X4 hg hQ
  exact ⟨t, o, stp.trans h1, r⟩
/-- what a static holds stands over a call that writes no statics' cell -/
theorem own_sta_keep {C n d : String} {v : Value} {h h' : Heap} {ws : List Addr} (F : Sta Z h C n d v) (K : Keep h h' ws) (q : ∀ x ∈ ws, ∀ cell : Cell, h[x]? = some cell → cell.vm.isStatics = false) : Sta Z h' C n d v := by
  obtain ⟨cf, i, k, f, st, cell, h1, h2, h3, h4, h5, h6, h7⟩ := F
  exact ⟨cf, i, k, f, st, cell, h1, h2, h3, h4, K.2.1 st cell h5 (fun z => by rw [q st z cell h5] at h6; cases h6), h6, h7⟩
theorem own_exa_plain {C : String} {h : Heap} {a : Addr} (E : Exa Z h a C) : ∀ cell : Cell, h[a]? = some cell → cell.vm.isStatics = false := fun cell hc => by
  obtain ⟨c, k, h1, -, -, h4, -⟩ := E
  cases h1.symm.trans hc; exact h4
theorem own_exa_at {args : Array Value} {s : State} {t : Term} {C : String} (h : (Cond.exactly t C).value args s none s [] = some true) : ∃ a, t.eval args s none [] s = some (.ref a) ∧ Exa s s.heap a C := by
  have h' : (Cond.exactly t C).before args s = true := Cond.before_iff.mpr h
  obtain ⟨a, c', cell, k, e1, e2, e3, e4, e5, rfl, e7⟩ := Cond.exactly_spec h'
  exact ⟨a, e1, cell, k, e3, e2, e4, e5, e7⟩
theorem own_eq_int {args : Array Value} {s : State} {t : Term} {n : Int32} (h : (Cond.eq t (.int n)).value args s none s [] = some true) : t.eval args s none [] s = some (.int n) :=
  Cond.eq_int (b := .int n) (Cond.before_iff.mpr h) rfl
theorem own_field_at {args : Array Value} {s : State} {t : Term} {a : Addr} {C n d : String} {v : Value} (ht : t.eval args s none [] s = some (.ref a)) (h : (Term.field t C n d).eval args s none [] s = some v) : Fld s s.heap a C n d v := by
  rw [fld_at ht] at h
  exact Fld.start h
theorem own_not_eq {args : Array Value} {s : State} {t : Term} {z n : Int32} (ez : t.eval args s none [] s = some (.int z)) (h : (Cond.not (.eq t (.int n))).value args s none s [] = some true) : ¬ z = n := by
  intro e
  subst e
  have q := eq_i (idx := []) (o := none) (first := s) ez (Term.int_eval z) rfl
  rw [show (Cond.not (.eq t (.int z))).value args s none s [] = ((Cond.eq t (.int z)).value args s none s []).map (!·) from rfl, q] at h
  cases h
theorem own_refcat {v : Value} (h : v.isRef = true) : v.category = 1 := by cases v <;> first | rfl | (cases h)
theorem own_cat_i (z : Int32) : (Value.int z).category = 1 := rfl
theorem own_cat_l (z : Int64) : (Value.long z).category = 2 := rfl
theorem own_cat_r (a : Addr) : (Value.ref a).category = 1 := rfl
theorem own_cat_n : (Value.null).category = 1 := rfl
theorem own_one_u : (Slot.unset) = .unset ∨ ∃ w, Slot.unset = .val w ∧ w.category = 1 := Or.inl rfl
theorem own_one_v {w : Value} (h : w.category = 1) : (Slot.val w) = .unset ∨ ∃ u, Slot.val w = .val u ∧ u.category = 1 := Or.inr ⟨w, rfl, h⟩
theorem own_store1 {L L' : Array Slot} {i : Nat} {v : Value} {o : Slot} (hold : L[i]? = some o) (ho : o = .unset ∨ ∃ w, o = .val w ∧ w.category = 1) (hv : v.category = 1) (e : L.setIfInBounds i (.val v) = L') : storeLocals L i v = some L' := by
  rw [← e]; exact XS.store1 hold ho hv
theorem own_fits_of {t : FieldType} {z z' : Int32} (h : nar t z = z') (f : fits t (.int (nar t z)) = true) : fits t (.int z') = true := h ▸ f
theorem own_fits_ref {t : FieldType} {v : Value} (h : v.isRef = true) (ht : t.isReference = true) : fits t v = true := by
  cases t <;> first | (cases ht; done) | (cases v <;> first | rfl | (cases h; done))
theorem own_eq_long {args : Array Value} {s : State} {t : Term} {n : Int64} (h : (Cond.eq t (.long n)).value args s none s [] = some true) : t.eval args s none [] s = some (.long n) :=
  Cond.eq_long (b := .long n) (Cond.before_iff.mpr h) rfl
theorem own_elem_at {args : Array Value} {s : State} {t : Term} {a : Addr} {cl : Cell} {ty : FieldType} {j : Int32} {v : Value} {k : Nat} (ht : t.eval args s none [] s = some (.ref a)) (A : Arr s s.heap a cl ty) (h : (Term.elem t (.int j)).eval args s none [] s = some v) (hk : j.toNatClampNeg = k) : cl.slots[k]? = some v := by
  subst hk
  exact (elem_in h ht rfl A.1).2
theorem own_len_at {args : Array Value} {s : State} {t : Term} {a : Addr} {cl : Cell} {ty : FieldType} {n : Int32} (ht : t.eval args s none [] s = some (.ref a)) (A : Arr s s.heap a cl ty) (h : (Term.length t).eval args s none [] s = some (.int n)) : cl.slots.size < 2 ^ 31 ∧ cl.slots.size.toInt32 = n := by
  have hA := A.fin (Vm.Alike.refl _)
  by_cases q : cl.slots.size < 2 ^ 31
  · have e := len_f ht hA q
    exact ⟨q, Value.int.inj (Option.some.inj (e.symm.trans h))⟩
  · exfalso
    simp [Term.eval, ht, hA, q] at h
theorem own_eq_ref {args : Array Value} {s : State} {t u : Term} {a : Addr} (h : (Cond.eq t u).value args s none s [] = some true) (hu : u.eval args s none [] s = some (.ref a)) : t.eval args s none [] s = some (.ref a) :=
  Cond.eq_refs (Cond.before_iff.mpr h) hu rfl
theorem own_eq_null {args : Array Value} {s : State} {t : Term} (h : (Cond.eq t .null).value args s none s [] = some true) : t.eval args s none [] s = some .null := null_v h
theorem own_arr_keep {h h' : Heap} {a : Addr} {cl : Cell} {ty : FieldType} {ws : List Addr} (F : Arr Z h a cl ty) (K : Keep h h' ws) (q : a ∉ ws) : Arr Z h' a cl ty := ⟨K.2.1 a cl F.1 q, F.2⟩
theorem own_ib {vm0 : Vm} (h : vm0.interned = Z.vm.interned) : IB Z vm0 [] := ⟨#[], by simp [h], fun q hq => by simp at hq⟩
theorem own_lambda (X : Stand p l e R s m args below meth c T locs cells slots) (hx : p.tables.exec = Jvm.exec) (hZ : Z.Warmed39 s.vm) {x : MethodName} {pc index : Nat} {σ : Lambda.Shape} (hnamed : Z.methodNamed? x = some m) (w : (Cond.lambdaSite x pc index σ).before a0 Z = true) (hcap : σ.captured = [])
    {g : JFrame} (hg : g.method = m) (hpc : g.pc = pc) (hsize : g.locals.size = c.maxLocals) (hd : decode c.code g.pc = .ok (.invokedynamic index, 5)) (hwords : 2 * g.monitorRoom + (g.stack.map fun v => v.category).sum + 3072 ≤ R.locals) :
    ∃ a : Addr, ∀ t, Steps p.tables e below (T.setTop { g with pc := g.pc + 5, stack := .ref a :: g.stack }) t → Steps p.tables e below (T.setTop g) t := by
  obtain ⟨cK, one, hat⟩ := Cond.lambdaSite_spec w
  obtain ⟨mD, kD, cfD, i0, p0, lk, hmD, hkD, -, -, -, hfind, -, -, hl⟩ := State.lambdaAt?_spec hat
  cases hnamed.symm.trans hmD
  obtain ⟨k', hk', he, -⟩ := hZ.2.2.2 _ _ hkD
  have hw : e.platform.lambdaLinkWords = 3072 := by rw [X.admits.platform]
  rcases hl with ⟨a, cell, rfl, -⟩ | ⟨-, -, hne⟩
  · exact ⟨a, fun t k => X.lambdaConstant hx hg hsize hd hk' (by rw [hpc, he]; exact hfind) (by rw [hw]; exact hwords) k⟩
  · exact absurd hcap hne
/-- 'ldcSVL', with what it tells of the tables since just before it -/
theorem own_ldcL {vm0 : Vm} {own text : String} {index : Nat} {Ts : List String} (X : Stand p l e R (s.setVm vm0) m args below meth c T locs cells slots) (hx : p.tables.exec = Jvm.exec) (hZ : Z.Warmed39 (s.setVm vm0).vm) (hown : (s.setVm vm0).vm.findClass own = some m.cls) (w : (Cond.stringLink own index text).before a0 Z = true) (wS : ∀ a ∈ Bundle.stringAtoms, a.before a0 Z = true)
    (eT : T.heap = h) {k0 : Nat} (hS : s.Since vm0 k0) (hk : k0 ≤ h.size) (N : Fr s.heap.size locs) (hkeep : ∀ (b : Addr) (cl : Cell), Z.heap[b]? = some cl → s.heap[b]? = some cl) (I : IB Z vm0 Ts) (hnot : text ∉ Ts) (hh : Jvm.Lit.constHeld Z own index) (hcw : Jvm.Lit.compactW.before a0 Z = true)
    {vs : List Value} {z : Int32} (ht : (∀ c ∈ text.toList, c.toNat < 256) ∧ text.toList.map (fun c => Value.int (Jvm.Lit.byteI c.toNat.toUInt16)) = vs) (hz : ¬ z < 0) (hl : z.toNatClampNeg = vs.length)
    {g : JFrame} (hg : g.method = m) (hd : decode c.code g.pc = .ok (.ldc index, 2)) {n : Nat} (hn : 4 * text.toList.length ≤ n) (hbig : n ≤ 536870912) (hc : cells + 2 ≤ R.cells) (hl' : slots + (n + 4) ≤ R.slots) :
    ∃ (a : Addr) (T' : State) (h' : Heap) (b : Addr) (k : ClassId), Stand p l e R (s.setVm T'.vm) m args below meth c T' locs (cells + 2) (slots + (n + 4)) ∧ T'.heap = h' ∧ Ext h h' ∧ s.Since T'.vm h'.size ∧ (s.setVm vm0).Warmed39 T'.vm ∧ Z.Warmed39 (s.setVm T'.vm).vm ∧ (s.setVm T'.vm).vm.findClass own = some m.cls ∧
      Exa Z h' a "java/lang/String" ∧ Fld Z h' a "java/lang/String" "coder" "B" (.int 0) ∧ Fld Z h' a "java/lang/String" "value" "[B" (.ref b) ∧ Arv Z h' b k .byte z vs (.int 0) ∧ IB Z T'.vm (text :: Ts) ∧ Lit (Z.setVm T'.vm) own index a ∧
      ∀ target, Steps p.tables e below (T'.setTop { g with pc := g.pc + 2, stack := .ref a :: g.stack }) target → Steps p.tables e below (T.setTop g) target := by
  obtain ⟨a, T', h', k1, b, k, r1, r2, r3, r4, r5, r6, r7, r8, r9, r10, r11, -, -, r14, r15, st⟩ := ldcSVL (s := s.setVm vm0) (vm0 := vm0) (k0 := 0) X hx hZ hown w wS eT (State.WarmedH.since (State.WarmedH.refl (s.setVm vm0)) 0) (Nat.zero_le _) N hkeep I hnot hh hcw ht hz hl hg hd hn hbig hc hl'
  exact ⟨a, T', h', b, k, r1, r2, r3, hS.trans ⟨r4.1, r4.2.mono r5⟩ (Nat.le_trans hk r3.1), r4.1, r6, r7, r8, r9, r10, r11, r14, r15, st⟩
theorem own_lit_stays {vm0 vm1 : Vm} {own : String} {index : Nat} {a : Addr} (L : Lit (Z.setVm vm0) own index a) (hW : (s.setVm vm0).Warmed39 vm1) : Lit (Z.setVm vm1) own index a := (Lit.stays (s := s) (vm0 := vm0) (vm1 := vm1) L hW : Lit (s.setVm vm1) own index a)
theorem own_ib_more {vm0 : Vm} {Ts : List String} {t : String} (I : IB Z vm0 Ts) : IB Z vm0 (t :: Ts) := by
  obtain ⟨more, h1, h2⟩ := I
  exact ⟨more, h1, fun q hq => by obtain ⟨u, hu, e⟩ := h2 q hq; exact ⟨u, List.mem_cons_of_mem _ hu, e⟩⟩
theorem own_ib_warm {vm0 : Vm} {Ts : List String} (I : IB Z s.vm Ts) (hW : s.WarmedH vm0) : IB Z vm0 Ts := by
  obtain ⟨more, h1, h2⟩ := I
  exact ⟨more, by rw [hW.interned_eq]; exact h1, h2⟩
end OwnGo
end Jvm.RoadKit
namespace Jvm.Pilot.@@N@@
open Jvm Jvm.ClassFile Sem Op Lib Jvm.Free Jvm.Stand Jvm.LawKit Jvm.RoadKit Bundle Jvm.Pilot.@@N@@.Jvm.D
def own_el (c : Int32) (tel0 tel1 tel2 tel3 tel4 tel5 tel6 : Addr) : Value := if (97 : Int32) = c then .ref tel0 else if (98 : Int32) = c then .ref tel1 else if (99 : Int32) = c then .ref tel2 else if (100 : Int32) = c then .ref tel3 else if (101 : Int32) = c then .ref tel4 else if (102 : Int32) = c then .ref tel5 else if (103 : Int32) = c then .ref tel6 else .null
theorem own_el_0 {c : Int32} {tel0 tel1 tel2 tel3 tel4 tel5 tel6 : Addr}  (h0 : (97 : Int32) = c) : own_el c tel0 tel1 tel2 tel3 tel4 tel5 tel6 = .ref tel0 := by simp only [own_el, if_pos h0]
theorem own_el_1 {c : Int32} {tel0 tel1 tel2 tel3 tel4 tel5 tel6 : Addr} (h0 : ¬ (97 : Int32) = c) (h1 : (98 : Int32) = c) : own_el c tel0 tel1 tel2 tel3 tel4 tel5 tel6 = .ref tel1 := by simp only [own_el, if_neg h0, if_pos h1]
theorem own_el_2 {c : Int32} {tel0 tel1 tel2 tel3 tel4 tel5 tel6 : Addr} (h0 : ¬ (97 : Int32) = c) (h1 : ¬ (98 : Int32) = c) (h2 : (99 : Int32) = c) : own_el c tel0 tel1 tel2 tel3 tel4 tel5 tel6 = .ref tel2 := by simp only [own_el, if_neg h0, if_neg h1, if_pos h2]
theorem own_el_3 {c : Int32} {tel0 tel1 tel2 tel3 tel4 tel5 tel6 : Addr} (h0 : ¬ (97 : Int32) = c) (h1 : ¬ (98 : Int32) = c) (h2 : ¬ (99 : Int32) = c) (h3 : (100 : Int32) = c) : own_el c tel0 tel1 tel2 tel3 tel4 tel5 tel6 = .ref tel3 := by simp only [own_el, if_neg h0, if_neg h1, if_neg h2, if_pos h3]
theorem own_el_4 {c : Int32} {tel0 tel1 tel2 tel3 tel4 tel5 tel6 : Addr} (h0 : ¬ (97 : Int32) = c) (h1 : ¬ (98 : Int32) = c) (h2 : ¬ (99 : Int32) = c) (h3 : ¬ (100 : Int32) = c) (h4 : (101 : Int32) = c) : own_el c tel0 tel1 tel2 tel3 tel4 tel5 tel6 = .ref tel4 := by simp only [own_el, if_neg h0, if_neg h1, if_neg h2, if_neg h3, if_pos h4]
theorem own_el_5 {c : Int32} {tel0 tel1 tel2 tel3 tel4 tel5 tel6 : Addr} (h0 : ¬ (97 : Int32) = c) (h1 : ¬ (98 : Int32) = c) (h2 : ¬ (99 : Int32) = c) (h3 : ¬ (100 : Int32) = c) (h4 : ¬ (101 : Int32) = c) (h5 : (102 : Int32) = c) : own_el c tel0 tel1 tel2 tel3 tel4 tel5 tel6 = .ref tel5 := by simp only [own_el, if_neg h0, if_neg h1, if_neg h2, if_neg h3, if_neg h4, if_pos h5]
theorem own_el_6 {c : Int32} {tel0 tel1 tel2 tel3 tel4 tel5 tel6 : Addr} (h0 : ¬ (97 : Int32) = c) (h1 : ¬ (98 : Int32) = c) (h2 : ¬ (99 : Int32) = c) (h3 : ¬ (100 : Int32) = c) (h4 : ¬ (101 : Int32) = c) (h5 : ¬ (102 : Int32) = c) (h6 : (103 : Int32) = c) : own_el c tel0 tel1 tel2 tel3 tel4 tel5 tel6 = .ref tel6 := by simp only [own_el, if_neg h0, if_neg h1, if_neg h2, if_neg h3, if_neg h4, if_neg h5, if_pos h6]
theorem own_el_7 {c : Int32} {tel0 tel1 tel2 tel3 tel4 tel5 tel6 : Addr} (h0 : ¬ (97 : Int32) = c) (h1 : ¬ (98 : Int32) = c) (h2 : ¬ (99 : Int32) = c) (h3 : ¬ (100 : Int32) = c) (h4 : ¬ (101 : Int32) = c) (h5 : ¬ (102 : Int32) = c) (h6 : ¬ (103 : Int32) = c) : own_el c tel0 tel1 tel2 tel3 tel4 tel5 tel6 = .null := by simp only [own_el, if_neg h0, if_neg h1, if_neg h2, if_neg h3, if_neg h4, if_neg h5, if_neg h6]
theorem own_el_cases (c : Int32) (tel0 tel1 tel2 tel3 tel4 tel5 tel6 : Addr) : own_el c tel0 tel1 tel2 tel3 tel4 tel5 tel6 = .ref tel0 ∨ own_el c tel0 tel1 tel2 tel3 tel4 tel5 tel6 = .ref tel1 ∨ own_el c tel0 tel1 tel2 tel3 tel4 tel5 tel6 = .ref tel2 ∨ own_el c tel0 tel1 tel2 tel3 tel4 tel5 tel6 = .ref tel3 ∨ own_el c tel0 tel1 tel2 tel3 tel4 tel5 tel6 = .ref tel4 ∨ own_el c tel0 tel1 tel2 tel3 tel4 tel5 tel6 = .ref tel5 ∨ own_el c tel0 tel1 tel2 tel3 tel4 tel5 tel6 = .ref tel6 ∨ own_el c tel0 tel1 tel2 tel3 tel4 tel5 tel6 = .null := by
  by_cases h0 : (97 : Int32) = c
  · exact Or.inl (own_el_0 h0)
  by_cases h1 : (98 : Int32) = c
  · exact Or.inr (Or.inl (own_el_1 h0 h1))
  by_cases h2 : (99 : Int32) = c
  · exact Or.inr (Or.inr (Or.inl (own_el_2 h0 h1 h2)))
  by_cases h3 : (100 : Int32) = c
  · exact Or.inr (Or.inr (Or.inr (Or.inl (own_el_3 h0 h1 h2 h3))))
  by_cases h4 : (101 : Int32) = c
  · exact Or.inr (Or.inr (Or.inr (Or.inr (Or.inl (own_el_4 h0 h1 h2 h3 h4)))))
  by_cases h5 : (102 : Int32) = c
  · exact Or.inr (Or.inr (Or.inr (Or.inr (Or.inr (Or.inl (own_el_5 h0 h1 h2 h3 h4 h5))))))
  by_cases h6 : (103 : Int32) = c
  · exact Or.inr (Or.inr (Or.inr (Or.inr (Or.inr (Or.inr (Or.inl (own_el_6 h0 h1 h2 h3 h4 h5 h6)))))))
  exact Or.inr (Or.inr (Or.inr (Or.inr (Or.inr (Or.inr (Or.inr (own_el_7 h0 h1 h2 h3 h4 h5 h6)))))))
theorem own_el_ref (c : Int32) (tel0 tel1 tel2 tel3 tel4 tel5 tel6 : Addr) : (own_el c tel0 tel1 tel2 tel3 tel4 tel5 tel6).isRef = true := by
  rcases own_el_cases c tel0 tel1 tel2 tel3 tel4 tel5 tel6 with h | h | h | h | h | h | h | h <;> rw [h] <;> rfl
theorem d2_0 : decode prog_6_method_1_code 0 = .ok (.getstatic 25, 3) := by decide +kernel
theorem d2_3 : decode prog_6_method_1_code 3 = .ok (.invokevirtual 29, 3) := by decide +kernel
theorem d2_6 : decode prog_6_method_1_code 6 = .ok (.checkcast 30, 3) := by decide +kernel
theorem d2_9 : decode prog_6_method_1_code 9 = .ok (.areturn, 1) := by decide +kernel
theorem d1_0 : decode prog_6_method_4_code 0 = .ok (.invokestatic 66, 3) := by decide +kernel
theorem d1_3 : decode prog_6_method_4_code 3 = .ok (.astore_n 1, 1) := by decide +kernel
theorem d1_4 : decode prog_6_method_4_code 4 = .ok (.aload_n 1, 1) := by decide +kernel
theorem d1_5 : decode prog_6_method_4_code 5 = .ok (.arraylength, 1) := by decide +kernel
theorem d1_6 : decode prog_6_method_4_code 6 = .ok (.istore_n 2, 1) := by decide +kernel
theorem d1_7 : decode prog_6_method_4_code 7 = .ok (.iconst 0, 1) := by decide +kernel
theorem d1_8 : decode prog_6_method_4_code 8 = .ok (.istore_n 3, 1) := by decide +kernel
theorem d1_9 : decode prog_6_method_4_code 9 = .ok (.iload_n 3, 1) := by decide +kernel
theorem d1_10 : decode prog_6_method_4_code 10 = .ok (.iload_n 2, 1) := by decide +kernel
theorem d1_11 : decode prog_6_method_4_code 11 = .ok (.if_icmp .ge 29, 3) := by decide +kernel
theorem d1_14 : decode prog_6_method_4_code 14 = .ok (.aload_n 1, 1) := by decide +kernel
theorem d1_15 : decode prog_6_method_4_code 15 = .ok (.iload_n 3, 1) := by decide +kernel
theorem d1_16 : decode prog_6_method_4_code 16 = .ok (.aaload, 1) := by decide +kernel
theorem d1_17 : decode prog_6_method_4_code 17 = .ok (.astore 4, 2) := by decide +kernel
theorem d1_19 : decode prog_6_method_4_code 19 = .ok (.aload 4, 2) := by decide +kernel
theorem d1_21 : decode prog_6_method_4_code 21 = .ok (.getfield 55, 3) := by decide +kernel
theorem d1_24 : decode prog_6_method_4_code 24 = .ok (.iload_n 0, 1) := by decide +kernel
theorem d1_25 : decode prog_6_method_4_code 25 = .ok (.if_icmp .ne 9, 3) := by decide +kernel
theorem d1_28 : decode prog_6_method_4_code 28 = .ok (.aload 4, 2) := by decide +kernel
theorem d1_30 : decode prog_6_method_4_code 30 = .ok (.invokestatic 70, 3) := by decide +kernel
theorem d1_33 : decode prog_6_method_4_code 33 = .ok (.areturn, 1) := by decide +kernel
theorem d1_34 : decode prog_6_method_4_code 34 = .ok (.iinc 3 1, 3) := by decide +kernel
theorem d1_37 : decode prog_6_method_4_code 37 = .ok (.goto (-28), 3) := by decide +kernel
theorem d1_40 : decode prog_6_method_4_code 40 = .ok (.invokestatic 76, 3) := by decide +kernel
theorem d1_43 : decode prog_6_method_4_code 43 = .ok (.areturn, 1) := by decide +kernel
theorem d3_0 : decode jdk_32_method_1_code 0 = .ok (.getstatic 1, 3) := by decide +kernel
theorem d3_3 : decode jdk_32_method_1_code 3 = .ok (.astore_n 0, 1) := by decide +kernel
theorem d3_4 : decode jdk_32_method_1_code 4 = .ok (.aload_n 0, 1) := by decide +kernel
theorem d3_5 : decode jdk_32_method_1_code 5 = .ok (.areturn, 1) := by decide +kernel
theorem d4_0 : decode jdk_32_method_15_code 0 = .ok (.aload_n 0, 1) := by decide +kernel
theorem d4_1 : decode jdk_32_method_15_code 1 = .ok (.getfield 13, 3) := by decide +kernel
theorem d4_4 : decode jdk_32_method_15_code 4 = .ok (.ifnull 10, 3) := by decide +kernel
theorem d4_7 : decode jdk_32_method_15_code 7 = .ok (.aload_n 0, 1) := by decide +kernel
theorem d4_8 : decode jdk_32_method_15_code 8 = .ok (.getfield 13, 3) := by decide +kernel
theorem d4_11 : decode jdk_32_method_15_code 11 = .ok (.goto 4, 3) := by decide +kernel
theorem d4_14 : decode jdk_32_method_15_code 14 = .ok (.aload_n 1, 1) := by decide +kernel
theorem d4_15 : decode jdk_32_method_15_code 15 = .ok (.areturn, 1) := by decide +kernel
theorem d5_0 : decode method_2_code 0 = .ok (.iload_n 0, 1) := by decide +kernel
theorem d5_1 : decode method_2_code 1 = .ok (.bipush 97, 2) := by decide +kernel
theorem d5_3 : decode method_2_code 3 = .ok (.if_icmp .ne 7, 3) := by decide +kernel
theorem d5_6 : decode method_2_code 6 = .ok (.getstatic 7, 3) := by decide +kernel
theorem d5_9 : decode method_2_code 9 = .ok (.areturn, 1) := by decide +kernel
theorem d5_10 : decode method_2_code 10 = .ok (.iload_n 0, 1) := by decide +kernel
theorem d5_11 : decode method_2_code 11 = .ok (.bipush 98, 2) := by decide +kernel
theorem d5_13 : decode method_2_code 13 = .ok (.if_icmp .ne 7, 3) := by decide +kernel
theorem d5_16 : decode method_2_code 16 = .ok (.getstatic 13, 3) := by decide +kernel
theorem d5_19 : decode method_2_code 19 = .ok (.areturn, 1) := by decide +kernel
theorem d5_20 : decode method_2_code 20 = .ok (.iload_n 0, 1) := by decide +kernel
theorem d5_21 : decode method_2_code 21 = .ok (.bipush 99, 2) := by decide +kernel
theorem d5_23 : decode method_2_code 23 = .ok (.if_icmp .ne 7, 3) := by decide +kernel
theorem d5_26 : decode method_2_code 26 = .ok (.getstatic 16, 3) := by decide +kernel
theorem d5_29 : decode method_2_code 29 = .ok (.areturn, 1) := by decide +kernel
theorem d5_30 : decode method_2_code 30 = .ok (.iload_n 0, 1) := by decide +kernel
theorem d5_31 : decode method_2_code 31 = .ok (.bipush 100, 2) := by decide +kernel
theorem d5_33 : decode method_2_code 33 = .ok (.if_icmp .ne 7, 3) := by decide +kernel
theorem d5_36 : decode method_2_code 36 = .ok (.getstatic 19, 3) := by decide +kernel
theorem d5_39 : decode method_2_code 39 = .ok (.areturn, 1) := by decide +kernel
theorem d5_40 : decode method_2_code 40 = .ok (.iload_n 0, 1) := by decide +kernel
theorem d5_41 : decode method_2_code 41 = .ok (.bipush 101, 2) := by decide +kernel
theorem d5_43 : decode method_2_code 43 = .ok (.if_icmp .ne 7, 3) := by decide +kernel
theorem d5_46 : decode method_2_code 46 = .ok (.getstatic 22, 3) := by decide +kernel
theorem d5_49 : decode method_2_code 49 = .ok (.areturn, 1) := by decide +kernel
theorem d5_50 : decode method_2_code 50 = .ok (.iload_n 0, 1) := by decide +kernel
theorem d5_51 : decode method_2_code 51 = .ok (.bipush 102, 2) := by decide +kernel
theorem d5_53 : decode method_2_code 53 = .ok (.if_icmp .ne 7, 3) := by decide +kernel
theorem d5_56 : decode method_2_code 56 = .ok (.getstatic 25, 3) := by decide +kernel
theorem d5_59 : decode method_2_code 59 = .ok (.areturn, 1) := by decide +kernel
theorem d5_60 : decode method_2_code 60 = .ok (.iload_n 0, 1) := by decide +kernel
theorem d5_61 : decode method_2_code 61 = .ok (.bipush 103, 2) := by decide +kernel
theorem d5_63 : decode method_2_code 63 = .ok (.if_icmp .ne 7, 3) := by decide +kernel
theorem d5_66 : decode method_2_code 66 = .ok (.getstatic 28, 3) := by decide +kernel
theorem d5_69 : decode method_2_code 69 = .ok (.areturn, 1) := by decide +kernel
theorem d5_70 : decode method_2_code 70 = .ok (.aconst_null, 1) := by decide +kernel
theorem d5_71 : decode method_2_code 71 = .ok (.areturn, 1) := by decide +kernel
theorem d6_0 : decode jdk_32_method_3_code 0 = .ok (.new 2, 3) := by decide +kernel
theorem d6_3 : decode jdk_32_method_3_code 3 = .ok (.dup, 1) := by decide +kernel
theorem d6_4 : decode jdk_32_method_3_code 4 = .ok (.aload_n 0, 1) := by decide +kernel
theorem d6_5 : decode jdk_32_method_3_code 5 = .ok (.invokestatic 17, 3) := by decide +kernel
theorem d6_8 : decode jdk_32_method_3_code 8 = .ok (.invokespecial 23, 3) := by decide +kernel
theorem d6_11 : decode jdk_32_method_3_code 11 = .ok (.areturn, 1) := by decide +kernel
theorem d7_0 : decode jdk_31_method_10_code 0 = .ok (.aload_n 0, 1) := by decide +kernel
theorem d7_1 : decode jdk_31_method_10_code 1 = .ok (.ifnonnull 11, 3) := by decide +kernel
theorem d7_4 : decode jdk_31_method_10_code 4 = .ok (.new 84, 3) := by decide +kernel
theorem d7_7 : decode jdk_31_method_10_code 7 = .ok (.dup, 1) := by decide +kernel
theorem d7_8 : decode jdk_31_method_10_code 8 = .ok (.invokespecial 86, 3) := by decide +kernel
theorem d7_11 : decode jdk_31_method_10_code 11 = .ok (.athrow, 1) := by decide +kernel
theorem d7_12 : decode jdk_31_method_10_code 12 = .ok (.aload_n 0, 1) := by decide +kernel
theorem d7_13 : decode jdk_31_method_10_code 13 = .ok (.areturn, 1) := by decide +kernel
theorem d8_0 : decode jdk_32_method_2_code 0 = .ok (.aload_n 0, 1) := by decide +kernel
theorem d8_1 : decode jdk_32_method_2_code 1 = .ok (.invokespecial 7, 3) := by decide +kernel
theorem d8_4 : decode jdk_32_method_2_code 4 = .ok (.aload_n 0, 1) := by decide +kernel
theorem d8_5 : decode jdk_32_method_2_code 5 = .ok (.aload_n 1, 1) := by decide +kernel
theorem d8_6 : decode jdk_32_method_2_code 6 = .ok (.putfield 13, 3) := by decide +kernel
theorem d8_9 : decode jdk_32_method_2_code 9 = .ok (.return_, 1) := by decide +kernel
def Q2 (Z : State) (av : Addr) (kv : ClassId) (el0 : Addr) (el1 : Addr) (el2 : Addr) (el3 : Addr) (el4 : Addr) (el5 : Addr) (el6 : Addr) (h0 : Heap) (n0 : Nat) (v : Option Value) (h : Heap) (L : List Loc) : Prop := ∃ (b : Addr), v = some (.ref b) ∧ Fr n0 L ∧ Keep h0 h [] ∧ Exa Z h b "[Lcom/example/reprofield/reprofield/CodedElement;" ∧ Arv Z h b kv (.object "com/example/reprofield/reprofield/CodedElement") (7 : Int32) [(.ref el0), (.ref el1), (.ref el2), (.ref el3), (.ref el4), (.ref el5), (.ref el6)] .null ∧ h0.size ≤ b
theorem ef_2 (m : MethodId)  : entryFrame m #[] 0 = mkF m 0 #[] [] := by first | (simp [entryFrame, mkF, argsToLocals, Value.category]; done) | (simp [entryFrame, mkF, argsToLocals, own_cat_i, own_cat_l, own_cat_r, own_cat_n]; done) | rfl
set_option maxRecDepth 65536 in
set_option maxHeartbeats 40000000 in
theorem rm2 (l : Launch) (Z : State) (a0 : Array Value) (hw : ∀ d ∈ tables_1, d.before a0 Z = true) (av : Addr) (kv : ClassId) (el0 : Addr) (el1 : Addr) (el2 : Addr) (el3 : Addr) (el4 : Addr) (el5 : Addr) (el6 : Addr) (h0 : Heap) (n0 : Nat) (Z0 : n0 ≤ h0.size) (PS_com_example_reprofield_reprofield_CodedElement__VALUES : Sta Z h0 "com/example/reprofield/reprofield/CodedElement" "$VALUES" "[Lcom/example/reprofield/reprofield/CodedElement;" (.ref av)) (PE_av : Exa Z h0 av "[Lcom/example/reprofield/reprofield/CodedElement;") (PA_av : Arv Z h0 av kv (.object "com/example/reprofield/reprofield/CodedElement") (7 : Int32) [(.ref el0), (.ref el1), (.ref el2), (.ref el3), (.ref el4), (.ref el5), (.ref el6)] .null) :
    Met1 l Z (⟨"com/example/reprofield/reprofield/CodedElement", "values", "()[Lcom/example/reprofield/reprofield/CodedElement;"⟩ : MethodName) prog_6_method_1_code 0 (some (.array (.object "com/example/reprofield/reprofield/CodedElement"))) ({ frames := 1, cells := 1, slots := 7, locals := 14 } : Room) #[] h0 (Q2 Z av kv el0 el1 el2 el3 el4 el5 el6 h0 n0) := by
  refine Met1.mk (plainFor_of_name (by first | (simp [plainName, overriddenIn]; done) | decide +kernel)) ?_
  intro p e s m below meth c s₁ hx hZ hby hml hown hnm hret hlk X0 e0
  have N0 := Fr.nil n0
  refine Go.cast (ef_2 m ) ?_
  show Go p e below (FinN s (Q2 Z av kv el0 el1 el2 el3 el4 el5 el6 h0 n0) ({ frames := 1, cells := 1, slots := 7, locals := 14 } : Room).cells ({ frames := 1, cells := 1, slots := 7, locals := 14 } : Room).slots) s₁ (mkF m 0 #[] [])
  obtain ⟨T_1, X_1, e_1, st_1⟩ := getS2 X0 hx hZ hown (host := "") (Or.inl (hw _ (List.mem_of_getElem? (i := 7) rfl))) Via.refl e0 PS_com_example_reprofield_reprofield_CodedElement__VALUES (g := (mkF m 0 #[] [])) rfl (hb hby d2_0)
  refine Go.to (mkF m 3 #[] [(.ref av)]) st_1 ?_
  obtain ⟨T_2, h_2, X_2, e_2, E_2, A_2, Ex_2, st_2⟩ := cloneH X_1 hx hZ hown (hw _ (List.mem_of_getElem? (i := 9) rfl)) (hw _ (List.mem_of_getElem? (i := 10) rfl)) (hw _ (List.mem_of_getElem? (i := 14) rfl)) (hw _ (List.mem_of_getElem? (i := 12) rfl)) (hw _ (List.mem_of_getElem? (i := 13) rfl)) (hw _ (List.mem_of_getElem? (i := 15) rfl)) e_1 (Arv.arh PA_av) PE_av (g := (mkF m 3 #[] [(.ref av)])) rfl (by rw [hml]; rfl) rfl (hb hby d2_3) (by decide) (W := 0) (by show 2 * 0 + _ ≤ _; exact Nat.le_of_eq rfl) (by decide) (cap := 7) (by decide) (by decide) (by decide)
  obtain ⟨b_2, g_2⟩ : ∃ z, z = h0.size := ⟨_, rfl⟩
  rw [← g_2] at A_2 Ex_2 st_2
  have g_b_2 : n0 ≤ b_2 := Nat.le_trans Z0 (Nat.le_of_eq g_2.symm)
  have sz_b_2 : h0.size ≤ b_2 := Nat.le_trans (Keep.refl h0 []).1 (Nat.le_of_eq g_2.symm)
  have ne_av_b_2 : av ≠ b_2 := Nat.ne_of_lt (Nat.lt_of_lt_of_le PE_av.lt (Nat.le_of_eq g_2.symm))
  have V_b_2 : Arv Z h_2 b_2 kv (.object "com/example/reprofield/reprofield/CodedElement") (7 : Int32) [(.ref el0), (.ref el1), (.ref el2), (.ref el3), (.ref el4), (.ref el5), (.ref el6)] .null := A_2
  refine Go.to (mkF m 6 #[] [(.ref b_2)]) st_2 ?_
  obtain ⟨T_3, X_3, e_3, st_3⟩ := castY X_2 hx hZ hown (hw _ (List.mem_of_getElem? (i := 23) rfl)) e_2 (Ins.self Ex_2) (g := (mkF m 6 #[] [(.ref b_2)])) rfl rfl (hb hby d2_6)
  refine Go.to (mkF m 9 #[] [(.ref b_2)]) st_3 ?_
  refine Go.retA X_3 hx (t := (.array (.object "com/example/reprofield/reprofield/CodedElement"))) hret hlk rfl rfl (hb hby d2_9) (by decide) (by decide) ?_
  have f_4 : Keep h0 h_2 [] := ((Keep.refl h0 []).ext E_2)
  show (Q2 Z av kv el0 el1 el2 el3 el4 el5 el6 h0 n0) _ T_3.heap _
  rw [e_3]
  exact ⟨b_2, rfl, N0, f_4, Ex_2, V_b_2, sz_b_2⟩
def Q3 (Z : State) (o : Addr) (h0 : Heap) (n0 : Nat) (v : Option Value) (h : Heap) (L : List Loc) : Prop := v = some (.ref o) ∧ Fr n0 L ∧ h = h0
theorem ef_3 (m : MethodId)  : entryFrame m #[] 1 = mkF m 0 #[.unset] [] := by first | (simp [entryFrame, mkF, argsToLocals, Value.category]; done) | (simp [entryFrame, mkF, argsToLocals, own_cat_i, own_cat_l, own_cat_r, own_cat_n]; done) | rfl
set_option maxRecDepth 65536 in
set_option maxHeartbeats 40000000 in
theorem rm3 (l : Launch) (Z : State) (a0 : Array Value) (hw : ∀ d ∈ tables_1, d.before a0 Z = true) (o : Addr) (h0 : Heap) (n0 : Nat) (Z0 : n0 ≤ h0.size) (PS_java_util_Optional_EMPTY : Sta Z h0 "java/util/Optional" "EMPTY" "Ljava/util/Optional;" (.ref o)) :
    Met1 l Z (⟨"java/util/Optional", "empty", "()Ljava/util/Optional;"⟩ : MethodName) jdk_32_method_1_code 1 (some (.object "java/util/Optional")) ({ frames := 0, cells := 0, slots := 0, locals := 0 } : Room) #[] h0 (Q3 Z o h0 n0) := by
  refine Met1.mk (plainFor_of_name (by first | (simp [plainName, overriddenIn]; done) | decide +kernel)) ?_
  intro p e s m below meth c s₁ hx hZ hby hml hown hnm hret hlk X0 e0
  have N0 := Fr.nil n0
  refine Go.cast (ef_3 m ) ?_
  show Go p e below (FinN s (Q3 Z o h0 n0) ({ frames := 0, cells := 0, slots := 0, locals := 0 } : Room).cells ({ frames := 0, cells := 0, slots := 0, locals := 0 } : Room).slots) s₁ (mkF m 0 #[.unset] [])
  obtain ⟨T_1, X_1, e_1, st_1⟩ := getS2 X0 hx hZ hown (host := "") (Or.inl (hw _ (List.mem_of_getElem? (i := 32) rfl))) Via.refl e0 PS_java_util_Optional_EMPTY (g := (mkF m 0 #[.unset] [])) rfl (hb hby d3_0)
  refine Go.to (mkF m 3 #[.unset] [(.ref o)]) st_1 ?_
  refine Go.to (mkF m 4 #[.val (.ref o)] []) (fun _ k => XS.astoreN X_1.here hx rfl (hb hby d3_3) rfl rfl (l' := #[.val (.ref o)]) rfl k) ?_
  refine Go.to (mkF m 5 #[.val (.ref o)] [(.ref o)]) (fun _ k => XS.aloadN X_1.here hx rfl (hb hby d3_4) rfl rfl k) ?_
  refine Go.retA X_1 hx (t := (.object "java/util/Optional")) hret hlk rfl rfl (hb hby d3_5) (by decide) (by decide) ?_
  show (Q3 Z o h0 n0) _ T_1.heap _
  rw [e_1]
  exact ⟨rfl, N0, rfl⟩
def Q7 (Z : State) (a1 : Addr) (h0 : Heap) (n0 : Nat) (v : Option Value) (h : Heap) (L : List Loc) : Prop := v = some (.ref a1) ∧ Fr n0 L ∧ h = h0
theorem ef_7 (m : MethodId) (a1 : Addr) : entryFrame m #[(.ref a1)] 1 = mkF m 0 #[.val (.ref a1)] [] := by first | (simp [entryFrame, mkF, argsToLocals, Value.category]; done) | (simp [entryFrame, mkF, argsToLocals, own_cat_i, own_cat_l, own_cat_r, own_cat_n]; done) | rfl
set_option maxRecDepth 65536 in
set_option maxHeartbeats 40000000 in
theorem rm7 (l : Launch) (Z : State) (a0 : Array Value) (hw : ∀ d ∈ tables_1, d.before a0 Z = true) (a1 : Addr) (h0 : Heap) (n0 : Nat) (Z0 : n0 ≤ h0.size) :
    Met1 l Z (⟨"java/util/Objects", "requireNonNull", "(Ljava/lang/Object;)Ljava/lang/Object;"⟩ : MethodName) jdk_31_method_10_code 1 (some (.object "java/lang/Object")) ({ frames := 0, cells := 0, slots := 0, locals := 0 } : Room) #[(.ref a1)] h0 (Q7 Z a1 h0 n0) := by
  refine Met1.mk (plainFor_of_name (by first | (simp [plainName, overriddenIn]; done) | decide +kernel)) ?_
  intro p e s m below meth c s₁ hx hZ hby hml hown hnm hret hlk X0 e0
  have N0 := Fr.nil n0
  refine Go.cast (ef_7 m a1) ?_
  show Go p e below (FinN s (Q7 Z a1 h0 n0) ({ frames := 0, cells := 0, slots := 0, locals := 0 } : Room).cells ({ frames := 0, cells := 0, slots := 0, locals := 0 } : Room).slots) s₁ (mkF m 0 #[.val (.ref a1)] [])
  refine Go.to (mkF m 1 #[.val (.ref a1)] [(.ref a1)]) (fun _ k => XS.aloadN X0.here hx rfl (hb hby d7_0) rfl rfl k) ?_
  refine Go.to (mkF m 12 #[.val (.ref a1)] []) (fun _ k => XS.ifnonnullYes X0.here hx rfl (pc0 := 1) (pc' := 12) rfl (hb hby d7_1) rfl (by decide) (by decide) k) ?_
  refine Go.to (mkF m 13 #[.val (.ref a1)] [(.ref a1)]) (fun _ k => XS.aloadN X0.here hx rfl (hb hby d7_12) rfl rfl k) ?_
  refine Go.retA X0 hx (t := (.object "java/lang/Object")) hret hlk rfl rfl (hb hby d7_13) (by decide) (by decide) ?_
  show (Q7 Z a1 h0 n0) _ s₁.heap _
  rw [e0]
  exact ⟨rfl, N0, rfl⟩
def Q8 (Z : State) (a1 : Addr) (a2 : Addr) (u : Value) (h0 : Heap) (n0 : Nat) (v : Option Value) (h : Heap) (L : List Loc) : Prop := v = none ∧ Fr n0 L ∧ Keep h0 h [a1] ∧ Fld Z h a1 "java/util/Optional" "value" "Ljava/lang/Object;" (.ref a2)
theorem ef_8 (m : MethodId) (a1 : Addr) (a2 : Addr) : entryFrame m #[(.ref a1), (.ref a2)] 2 = mkF m 0 #[.val (.ref a1), .val (.ref a2)] [] := by first | (simp [entryFrame, mkF, argsToLocals, Value.category]; done) | (simp [entryFrame, mkF, argsToLocals, own_cat_i, own_cat_l, own_cat_r, own_cat_n]; done) | rfl
set_option maxRecDepth 65536 in
set_option maxHeartbeats 40000000 in
theorem rm8 (l : Launch) (Z : State) (a0 : Array Value) (hw : ∀ d ∈ tables_1, d.before a0 Z = true) (a1 : Addr) (a2 : Addr) (u : Value) (h0 : Heap) (n0 : Nat) (Z0 : n0 ≤ h0.size) (PE_a1 : Exa Z h0 a1 "java/util/Optional") (Pg_a1 : n0 ≤ a1) (PF_a1_value : Fld Z h0 a1 "java/util/Optional" "value" "Ljava/lang/Object;" u) :
    Met1 l Z (⟨"java/util/Optional", "<init>", "(Ljava/lang/Object;)V"⟩ : MethodName) jdk_32_method_2_code 2 none ({ frames := 1, cells := 0, slots := 0, locals := 12 } : Room) #[(.ref a1), (.ref a2)] h0 (Q8 Z a1 a2 u h0 n0) := by
  refine Met1.mk (plainFor_of_name (by first | (simp [plainName, overriddenIn]; done) | decide +kernel)) ?_
  intro p e s m below meth c s₁ hx hZ hby hml hown hnm hret hlk X0 e0
  have N0 := Fr.nil n0
  refine Go.cast (ef_8 m a1 a2) ?_
  show Go p e below (FinN s (Q8 Z a1 a2 u h0 n0) ({ frames := 1, cells := 0, slots := 0, locals := 12 } : Room).cells ({ frames := 1, cells := 0, slots := 0, locals := 12 } : Room).slots) s₁ (mkF m 0 #[.val (.ref a1), .val (.ref a2)] [])
  refine Go.to (mkF m 1 #[.val (.ref a1), .val (.ref a2)] [(.ref a1)]) (fun _ k => XS.aloadN X0.here hx rfl (hb hby d8_0) rfl rfl k) ?_
  obtain ⟨T_1, X_1, e_1, st_1⟩ := initO X0 hx hZ hown (hw _ (List.mem_of_getElem? (i := 57) rfl)) (hw _ (List.mem_of_getElem? (i := 58) rfl)) (hw _ (List.mem_of_getElem? (i := 59) rfl)) e0 (g := (mkF m 1 #[.val (.ref a1), .val (.ref a2)] [(.ref a1)])) rfl (by rw [hml]; rfl) rfl (hb hby d8_1) (by decide) (W := 0) (by show 2 * 0 + _ ≤ _; exact Nat.le_of_eq rfl) (by decide)
  refine Go.to (mkF m 4 #[.val (.ref a1), .val (.ref a2)] []) st_1 ?_
  refine Go.to (mkF m 5 #[.val (.ref a1), .val (.ref a2)] [(.ref a1)]) (fun _ k => XS.aloadN X_1.here hx rfl (hb hby d8_4) rfl rfl k) ?_
  refine Go.to (mkF m 6 #[.val (.ref a1), .val (.ref a2)] [(.ref a2), (.ref a1)]) (fun _ k => XS.aloadN X_1.here hx rfl (hb hby d8_5) rfl rfl k) ?_
  obtain ⟨T_2, h_2, X_2, e_2, W_2, st_2⟩ := putF X_1 hx hZ hown (host := "") (Or.inl (hw _ (List.mem_of_getElem? (i := 38) rfl))) Via.refl e_1 PF_a1_value PE_a1 (Or.inr ⟨(hw _ (List.mem_of_getElem? (i := 39) rfl)), rfl, hnm⟩) (hw _ (List.mem_of_getElem? (i := 48) rfl)) (ty := (.object "java/lang/Object")) (by decide) rfl rfl (g := (mkF m 6 #[.val (.ref a1), .val (.ref a2)] [(.ref a2), (.ref a1)])) rfl rfl (hb hby d8_6)
  have N_2 := Fr.snoc X_2 N0 Pg_a1
  have Fw_2 : Fld Z h_2 a1 "java/util/Optional" "value" "Ljava/lang/Object;" (.ref a2) := PF_a1_value.same W_2
  refine Go.to (mkF m 9 #[.val (.ref a1), .val (.ref a2)] []) st_2 ?_
  refine Go.ret0 X_2 hx hret hlk (hb hby d8_9) (by decide) (by decide) ?_
  have f_3 : Keep h0 h_2 [a1] := ((Keep.refl h0 [a1]).wr W_2 (Or.inl (List.mem_of_getElem? (i := 0) rfl)))
  show (Q8 Z a1 a2 u h0 n0) _ T_2.heap _
  rw [e_2]
  exact ⟨rfl, N_2, f_3, Fw_2⟩
theorem own_pd0 : parseMethodDescriptor "(Ljava/lang/Object;)Ljava/lang/Object;" = some ⟨[(.object "java/lang/Object")], some (.object "java/lang/Object")⟩ := by decide +kernel
theorem own_pd1 : parseMethodDescriptor "(Ljava/lang/Object;)V" = some ⟨[(.object "java/lang/Object")], none⟩ := by decide +kernel
def Q6 (Z : State) (a1 : Addr) (h0 : Heap) (n0 : Nat) (v : Option Value) (h : Heap) (L : List Loc) : Prop := ∃ (b : Addr), v = some (.ref b) ∧ Fr n0 L ∧ Keep h0 h [] ∧ Exa Z h b "java/util/Optional" ∧ Fld Z h b "java/util/Optional" "value" "Ljava/lang/Object;" (.ref a1) ∧ h0.size ≤ b
theorem ef_6 (m : MethodId) (a1 : Addr) : entryFrame m #[(.ref a1)] 1 = mkF m 0 #[.val (.ref a1)] [] := by first | (simp [entryFrame, mkF, argsToLocals, Value.category]; done) | (simp [entryFrame, mkF, argsToLocals, own_cat_i, own_cat_l, own_cat_r, own_cat_n]; done) | rfl
set_option maxRecDepth 65536 in
set_option maxHeartbeats 40000000 in
theorem rm6 (l : Launch) (Z : State) (a0 : Array Value) (hw : ∀ d ∈ tables_1, d.before a0 Z = true) (a1 : Addr) (h0 : Heap) (n0 : Nat) (Z0 : n0 ≤ h0.size) :
    Met1 l Z (⟨"java/util/Optional", "of", "(Ljava/lang/Object;)Ljava/util/Optional;"⟩ : MethodName) jdk_32_method_3_code 1 (some (.object "java/util/Optional")) ({ frames := 2, cells := 1, slots := 1, locals := 26 } : Room) #[(.ref a1)] h0 (Q6 Z a1 h0 n0) := by
  refine Met1.mk (plainFor_of_name (by first | (simp [plainName, overriddenIn]; done) | decide +kernel)) ?_
  intro p e s m below meth c s₁ hx hZ hby hml hown hnm hret hlk X0 e0
  have N0 := Fr.nil n0
  refine Go.cast (ef_6 m a1) ?_
  show Go p e below (FinN s (Q6 Z a1 h0 n0) ({ frames := 2, cells := 1, slots := 1, locals := 26 } : Room).cells ({ frames := 2, cells := 1, slots := 1, locals := 26 } : Room).slots) s₁ (mkF m 0 #[.val (.ref a1)] [])
  obtain ⟨T_1, h_1, X_1, e_1, E_1, A_1, D_1, -, st_1⟩ := newO X0 hx hZ hown (hw _ (List.mem_of_getElem? (i := 47) rfl)) (hw _ (List.mem_of_getElem? (i := 48) rfl)) (hw _ (List.mem_of_getElem? (i := 30) rfl)) e0 (g := (mkF m 0 #[.val (.ref a1)] [])) rfl (hb hby d6_0) (by decide) (by decide)
  obtain ⟨b_1, g_1⟩ : ∃ z, z = h0.size := ⟨_, rfl⟩
  rw [← g_1] at A_1 D_1 st_1
  have g_b_1 : n0 ≤ b_1 := Nat.le_trans Z0 (Nat.le_of_eq g_1.symm)
  have sz_b_1 : h0.size ≤ b_1 := Nat.le_trans (Keep.refl h0 []).1 (Nat.le_of_eq g_1.symm)
  have F_value_b_1 : Fld Z h_1 b_1 "java/util/Optional" "value" "Ljava/lang/Object;" .null := D_1 (Or.inr (hw _ (List.mem_of_getElem? (i := 39) rfl))) (ty := (.object "java/lang/Object")) (by decide)
  refine Go.to (mkF m 3 #[.val (.ref a1)] [(.ref b_1)]) st_1 ?_
  refine Go.to (mkF m 4 #[.val (.ref a1)] [(.ref b_1), (.ref b_1)]) (fun _ k => XS.dup X_1.here hx rfl (hb hby d6_3) rfl rfl k) ?_
  refine Go.to (mkF m 5 #[.val (.ref a1)] [(.ref a1), (.ref b_1), (.ref b_1)]) (fun _ k => XS.aloadN X_1.here hx rfl (hb hby d6_4) rfl rfl k) ?_
  have f_2 : n0 ≤ h_1.size := (Nat.le_trans Z0 E_1.1)
  refine Go.stat X_1 hx hZ (y := (⟨"java/util/Objects", "requireNonNull", "(Ljava/lang/Object;)Ljava/lang/Object;"⟩ : MethodName)) hown (hw _ (List.mem_of_getElem? (i := 49) rfl)) (hw _ (List.mem_of_getElem? (i := 50) rfl)) (hw _ (List.mem_of_getElem? (i := 51) rfl)) (hw _ (List.mem_of_getElem? (i := 52) rfl)) (by decide) e_1 (argsL := [(.ref a1)]) (rest := [(.ref b_1), (.ref b_1)]) (Met1.back (W := 2) (rm7 l Z a0 hw a1 h_1 n0 f_2) hZ (hw _ (List.mem_of_getElem? (i := 52) rfl)) (hw _ (List.mem_of_getElem? (i := 51) rfl)) (by decide) (by decide)) (pc := 5) (Ls := #[.val (.ref a1)]) (by rw [hml]; rfl) (lenOf own_pd0 rfl) rfl (Nat.le_refl _) (hb hby d6_5) (by decide) (by decide) ?_
  intro T_3 v_3 L_3 X_3 hQ_3
  obtain ⟨rfl, Nq_3, hh_3⟩ := hQ_3
  have N_3 := Fr.app N0 Nq_3
  show Go p e below (FinN s (Q6 Z a1 h0 n0) ({ frames := 2, cells := 1, slots := 1, locals := 26 } : Room).cells ({ frames := 2, cells := 1, slots := 1, locals := 26 } : Room).slots) T_3 (mkF m 8 #[.val (.ref a1)] [(.ref a1), (.ref b_1), (.ref b_1)])
  refine Go.special X_3 hx hZ (y := (⟨"java/util/Optional", "<init>", "(Ljava/lang/Object;)V"⟩ : MethodName)) rfl hown (hw _ (List.mem_of_getElem? (i := 53) rfl)) (hw _ (List.mem_of_getElem? (i := 54) rfl)) (hw _ (List.mem_of_getElem? (i := 56) rfl)) (by decide) hh_3 (a := b_1) (argsL := [(.ref a1)]) (rest := [(.ref b_1)]) (Met1.back (W := 1) (rm8 l Z a0 hw b_1 a1 .null h_1 n0 f_2 A_1 g_b_1 F_value_b_1) hZ (hw _ (List.mem_of_getElem? (i := 56) rfl)) (hw _ (List.mem_of_getElem? (i := 30) rfl)) (by decide) (by decide)) (pc := 8) (Ls := #[.val (.ref a1)]) (by rw [hml]; rfl) (lenOf own_pd1 rfl) rfl (Nat.le_refl _) (hb hby d6_8) (by decide) (by decide) ?_
  intro T_4 v_4 L_4 X_4 hQ_4
  obtain ⟨rfl, Nq_4, K_4, pf_4_0⟩ := hQ_4
  have N_4 := Fr.app N_3 Nq_4
  have f_5 : Keep h0 h_1 [] := ((Keep.refl h0 []).ext E_1)
  show Go p e below (FinN s (Q6 Z a1 h0 n0) ({ frames := 2, cells := 1, slots := 1, locals := 26 } : Room).cells ({ frames := 2, cells := 1, slots := 1, locals := 26 } : Room).slots) T_4 (mkF m 11 #[.val (.ref a1)] [(.ref b_1)])
  refine Go.retA X_4 hx (t := (.object "java/util/Optional")) hret hlk rfl rfl (hb hby d6_11) (by decide) (by decide) ?_
  have f_6 : Keep h0 T_4.heap [] := (f_5.trans K_4 (allS (Or.inr sz_b_1) all0))
  have f_7 : Exa Z T_4.heap b_1 "java/util/Optional" := (A_1.keep K_4)
  show (Q6 Z a1 h0 n0) _ T_4.heap _
  exact ⟨b_1, rfl, N_4, f_6, f_7, pf_4_0, sz_b_1⟩
def Q15n (Z : State) (a1 : Addr) (h0 : Heap) (n0 : Nat) (v : Option Value) (h : Heap) (L : List Loc) : Prop := v = some .null ∧ Fr n0 L ∧ h = h0
theorem ef_15n (m : MethodId) (a1 : Addr) : entryFrame m #[(.ref a1), .null] 2 = mkF m 0 #[.val (.ref a1), .val .null] [] := by first | (simp [entryFrame, mkF, argsToLocals, Value.category]; done) | (simp [entryFrame, mkF, argsToLocals, own_cat_i, own_cat_l, own_cat_r, own_cat_n]; done) | rfl
set_option maxRecDepth 65536 in
set_option maxHeartbeats 40000000 in
theorem rm15n (l : Launch) (Z : State) (a0 : Array Value) (hw : ∀ d ∈ tables_1, d.before a0 Z = true) (a1 : Addr) (h0 : Heap) (n0 : Nat) (Z0 : n0 ≤ h0.size) (PF_a1_value : Fld Z h0 a1 "java/util/Optional" "value" "Ljava/lang/Object;" .null) :
    Met1 l Z (⟨"java/util/Optional", "orElse", "(Ljava/lang/Object;)Ljava/lang/Object;"⟩ : MethodName) jdk_32_method_15_code 2 (some (.object "java/lang/Object")) ({ frames := 0, cells := 0, slots := 0, locals := 0 } : Room) #[(.ref a1), .null] h0 (Q15n Z a1 h0 n0) := by
  refine Met1.mk (plainFor_of_name (by first | (simp [plainName, overriddenIn]; done) | decide +kernel)) ?_
  intro p e s m below meth c s₁ hx hZ hby hml hown hnm hret hlk X0 e0
  have N0 := Fr.nil n0
  refine Go.cast (ef_15n m a1) ?_
  show Go p e below (FinN s (Q15n Z a1 h0 n0) ({ frames := 0, cells := 0, slots := 0, locals := 0 } : Room).cells ({ frames := 0, cells := 0, slots := 0, locals := 0 } : Room).slots) s₁ (mkF m 0 #[.val (.ref a1), .val .null] [])
  refine Go.to (mkF m 1 #[.val (.ref a1), .val .null] [(.ref a1)]) (fun _ k => XS.aloadN X0.here hx rfl (hb hby d4_0) rfl rfl k) ?_
  obtain ⟨T_1, X_1, e_1, st_1⟩ := getF X0 hx hZ hown (host := "") (Or.inl (hw _ (List.mem_of_getElem? (i := 38) rfl))) Via.refl e0 PF_a1_value (g := (mkF m 1 #[.val (.ref a1), .val .null] [(.ref a1)])) rfl rfl (hb hby d4_1)
  refine Go.to (mkF m 4 #[.val (.ref a1), .val .null] [.null]) st_1 ?_
  refine Go.to (mkF m 14 #[.val (.ref a1), .val .null] []) (fun _ k => XS.ifnullYes X_1.here hx rfl (pc0 := 4) (pc' := 14) rfl (hb hby d4_4) rfl (by decide) (by decide) k) ?_
  refine Go.to (mkF m 15 #[.val (.ref a1), .val .null] [.null]) (fun _ k => XS.aloadN X_1.here hx rfl (hb hby d4_14) rfl rfl k) ?_
  refine Go.retA X_1 hx (t := (.object "java/lang/Object")) hret hlk rfl rfl (hb hby d4_15) (by decide) (by decide) ?_
  show (Q15n Z a1 h0 n0) _ T_1.heap _
  rw [e_1]
  exact ⟨rfl, N0, rfl⟩
def Q15s (Z : State) (a1 : Addr) (y : Addr) (h0 : Heap) (n0 : Nat) (v : Option Value) (h : Heap) (L : List Loc) : Prop := v = some (.ref y) ∧ Fr n0 L ∧ h = h0
theorem ef_15s (m : MethodId) (a1 : Addr) : entryFrame m #[(.ref a1), .null] 2 = mkF m 0 #[.val (.ref a1), .val .null] [] := by first | (simp [entryFrame, mkF, argsToLocals, Value.category]; done) | (simp [entryFrame, mkF, argsToLocals, own_cat_i, own_cat_l, own_cat_r, own_cat_n]; done) | rfl
set_option maxRecDepth 65536 in
set_option maxHeartbeats 40000000 in
theorem rm15s (l : Launch) (Z : State) (a0 : Array Value) (hw : ∀ d ∈ tables_1, d.before a0 Z = true) (a1 : Addr) (y : Addr) (h0 : Heap) (n0 : Nat) (Z0 : n0 ≤ h0.size) (PF_a1_value : Fld Z h0 a1 "java/util/Optional" "value" "Ljava/lang/Object;" (.ref y)) :
    Met1 l Z (⟨"java/util/Optional", "orElse", "(Ljava/lang/Object;)Ljava/lang/Object;"⟩ : MethodName) jdk_32_method_15_code 2 (some (.object "java/lang/Object")) ({ frames := 0, cells := 0, slots := 0, locals := 0 } : Room) #[(.ref a1), .null] h0 (Q15s Z a1 y h0 n0) := by
  refine Met1.mk (plainFor_of_name (by first | (simp [plainName, overriddenIn]; done) | decide +kernel)) ?_
  intro p e s m below meth c s₁ hx hZ hby hml hown hnm hret hlk X0 e0
  have N0 := Fr.nil n0
  refine Go.cast (ef_15s m a1) ?_
  show Go p e below (FinN s (Q15s Z a1 y h0 n0) ({ frames := 0, cells := 0, slots := 0, locals := 0 } : Room).cells ({ frames := 0, cells := 0, slots := 0, locals := 0 } : Room).slots) s₁ (mkF m 0 #[.val (.ref a1), .val .null] [])
  refine Go.to (mkF m 1 #[.val (.ref a1), .val .null] [(.ref a1)]) (fun _ k => XS.aloadN X0.here hx rfl (hb hby d4_0) rfl rfl k) ?_
  obtain ⟨T_1, X_1, e_1, st_1⟩ := getF X0 hx hZ hown (host := "") (Or.inl (hw _ (List.mem_of_getElem? (i := 38) rfl))) Via.refl e0 PF_a1_value (g := (mkF m 1 #[.val (.ref a1), .val .null] [(.ref a1)])) rfl rfl (hb hby d4_1)
  refine Go.to (mkF m 4 #[.val (.ref a1), .val .null] [(.ref y)]) st_1 ?_
  refine Go.to (mkF m 7 #[.val (.ref a1), .val .null] []) (fun _ k => XS.ifnullNo X_1.here hx rfl (hb hby d4_4) rfl k) ?_
  refine Go.to (mkF m 8 #[.val (.ref a1), .val .null] [(.ref a1)]) (fun _ k => XS.aloadN X_1.here hx rfl (hb hby d4_7) rfl rfl k) ?_
  obtain ⟨T_2, X_2, e_2, st_2⟩ := getF X_1 hx hZ hown (host := "") (Or.inl (hw _ (List.mem_of_getElem? (i := 38) rfl))) Via.refl e_1 PF_a1_value (g := (mkF m 8 #[.val (.ref a1), .val .null] [(.ref a1)])) rfl rfl (hb hby d4_8)
  refine Go.to (mkF m 11 #[.val (.ref a1), .val .null] [(.ref y)]) st_2 ?_
  refine Go.to (mkF m 15 #[.val (.ref a1), .val .null] [(.ref y)]) (fun _ k => XS.goto X_2.here hx rfl (pc0 := 11) (pc' := 15) rfl (hb hby d4_11) (by decide) (by decide) k) ?_
  refine Go.retA X_2 hx (t := (.object "java/lang/Object")) hret hlk rfl rfl (hb hby d4_15) (by decide) (by decide) ?_
  show (Q15s Z a1 y h0 n0) _ T_2.heap _
  rw [e_2]
  exact ⟨rfl, N0, rfl⟩
def Q5 (Z : State) (p1 : Int32) (el0 : Addr) (el1 : Addr) (el2 : Addr) (el3 : Addr) (el4 : Addr) (el5 : Addr) (el6 : Addr) (h0 : Heap) (n0 : Nat) (v : Option Value) (h : Heap) (L : List Loc) : Prop := v = some (own_el p1 el0 el1 el2 el3 el4 el5 el6) ∧ Fr n0 L ∧ h = h0
theorem ef_5 (m : MethodId) (p1 : Int32) : entryFrame m #[(.int p1)] 1 = mkF m 0 #[.val (.int p1)] [] := by first | (simp [entryFrame, mkF, argsToLocals, Value.category]; done) | (simp [entryFrame, mkF, argsToLocals, own_cat_i, own_cat_l, own_cat_r, own_cat_n]; done) | rfl
set_option maxRecDepth 65536 in
set_option maxHeartbeats 40000000 in
theorem rm5 (l : Launch) (Z : State) (a0 : Array Value) (hw : ∀ d ∈ tables_1, d.before a0 Z = true) (p1 : Int32) (el0 : Addr) (el1 : Addr) (el2 : Addr) (el3 : Addr) (el4 : Addr) (el5 : Addr) (el6 : Addr) (h0 : Heap) (n0 : Nat) (Z0 : n0 ≤ h0.size) (PS_com_example_reprofield_reprofield_CodedElement_TYPE_OF_DATE : Sta Z h0 "com/example/reprofield/reprofield/CodedElement" "TYPE_OF_DATE" "Lcom/example/reprofield/reprofield/CodedElement;" (.ref el0)) (PS_com_example_reprofield_reprofield_CodedElement_DATE_1 : Sta Z h0 "com/example/reprofield/reprofield/CodedElement" "DATE_1" "Lcom/example/reprofield/reprofield/CodedElement;" (.ref el1)) (PS_com_example_reprofield_reprofield_CodedElement_DATE_2 : Sta Z h0 "com/example/reprofield/reprofield/CodedElement" "DATE_2" "Lcom/example/reprofield/reprofield/CodedElement;" (.ref el2)) (PS_com_example_reprofield_reprofield_CodedElement_PLACE : Sta Z h0 "com/example/reprofield/reprofield/CodedElement" "PLACE" "Lcom/example/reprofield/reprofield/CodedElement;" (.ref el3)) (PS_com_example_reprofield_reprofield_CodedElement_FREQUENCY : Sta Z h0 "com/example/reprofield/reprofield/CodedElement" "FREQUENCY" "Lcom/example/reprofield/reprofield/CodedElement;" (.ref el4)) (PS_com_example_reprofield_reprofield_CodedElement_REGULARITY : Sta Z h0 "com/example/reprofield/reprofield/CodedElement" "REGULARITY" "Lcom/example/reprofield/reprofield/CodedElement;" (.ref el5)) (PS_com_example_reprofield_reprofield_CodedElement_FORM_OF_ITEM : Sta Z h0 "com/example/reprofield/reprofield/CodedElement" "FORM_OF_ITEM" "Lcom/example/reprofield/reprofield/CodedElement;" (.ref el6)) :
    Met1 l Z (⟨"com/example/reprofield/reprofield/CodedElementForOclcSubfieldPinLaw", "expected", "(C)Lcom/example/reprofield/reprofield/CodedElement;"⟩ : MethodName) method_2_code 1 (some (.object "com/example/reprofield/reprofield/CodedElement")) ({ frames := 0, cells := 0, slots := 0, locals := 0 } : Room) #[(.int p1)] h0 (Q5 Z p1 el0 el1 el2 el3 el4 el5 el6 h0 n0) := by
  refine Met1.mk (plainFor_of_name (by first | (simp [plainName, overriddenIn]; done) | decide +kernel)) ?_
  intro p e s m below meth c s₁ hx hZ hby hml hown hnm hret hlk X0 e0
  have N0 := Fr.nil n0
  refine Go.cast (ef_5 m p1) ?_
  show Go p e below (FinN s (Q5 Z p1 el0 el1 el2 el3 el4 el5 el6 h0 n0) ({ frames := 0, cells := 0, slots := 0, locals := 0 } : Room).cells ({ frames := 0, cells := 0, slots := 0, locals := 0 } : Room).slots) s₁ (mkF m 0 #[.val (.int p1)] [])
  refine Go.to (mkF m 1 #[.val (.int p1)] [(.int p1)]) (fun _ k => XS.iloadN X0.here hx rfl (hb hby d5_0) rfl  k) ?_
  refine Go.to (mkF m 3 #[.val (.int p1)] [(.int (97 : Int32)), (.int p1)]) (fun _ k => XS.bipush X0.here hx rfl (hb hby d5_1) k) ?_
  by_cases hx0 : p1 = (97 : Int32)
  · refine Go.to (mkF m 6 #[.val (.int p1)] []) (fun _ k => XS.icmpNo X0.here hx rfl (hb hby d5_3) rfl (teq hx0).2 k) ?_
    obtain ⟨T_1, X_1, e_1, st_1⟩ := getS2 X0 hx hZ hown (host := "") (Or.inl (hw _ (List.mem_of_getElem? (i := 68) rfl))) Via.refl e0 PS_com_example_reprofield_reprofield_CodedElement_TYPE_OF_DATE (g := (mkF m 6 #[.val (.int p1)] [])) rfl (hb hby d5_6)
    refine Go.to (mkF m 9 #[.val (.int p1)] [(.ref el0)]) st_1 ?_
    refine Go.retA X_1 hx (t := (.object "com/example/reprofield/reprofield/CodedElement")) hret hlk rfl rfl (hb hby d5_9) (by decide) (by decide) ?_
    show (Q5 Z p1 el0 el1 el2 el3 el4 el5 el6 h0 n0) _ T_1.heap _
    rw [e_1]
    exact ⟨(congrArg some (own_el_0  hx0.symm).symm), N0, rfl⟩
  · refine Go.to (mkF m 10 #[.val (.int p1)] []) (fun _ k => XS.icmpYes X0.here hx rfl (pc0 := 3) (pc' := 10) rfl (hb hby d5_3) rfl (feq hx0).2 (by decide) (by decide) k) ?_
    have nq0 : ¬ (97 : Int32) = p1 := fun q => hx0 q.symm
    refine Go.to (mkF m 11 #[.val (.int p1)] [(.int p1)]) (fun _ k => XS.iloadN X0.here hx rfl (hb hby d5_10) rfl  k) ?_
    refine Go.to (mkF m 13 #[.val (.int p1)] [(.int (98 : Int32)), (.int p1)]) (fun _ k => XS.bipush X0.here hx rfl (hb hby d5_11) k) ?_
    by_cases hx1 : p1 = (98 : Int32)
    · refine Go.to (mkF m 16 #[.val (.int p1)] []) (fun _ k => XS.icmpNo X0.here hx rfl (hb hby d5_13) rfl (teq hx1).2 k) ?_
      obtain ⟨T_2, X_2, e_2, st_2⟩ := getS2 X0 hx hZ hown (host := "") (Or.inl (hw _ (List.mem_of_getElem? (i := 63) rfl))) Via.refl e0 PS_com_example_reprofield_reprofield_CodedElement_DATE_1 (g := (mkF m 16 #[.val (.int p1)] [])) rfl (hb hby d5_16)
      refine Go.to (mkF m 19 #[.val (.int p1)] [(.ref el1)]) st_2 ?_
      refine Go.retA X_2 hx (t := (.object "com/example/reprofield/reprofield/CodedElement")) hret hlk rfl rfl (hb hby d5_19) (by decide) (by decide) ?_
      show (Q5 Z p1 el0 el1 el2 el3 el4 el5 el6 h0 n0) _ T_2.heap _
      rw [e_2]
      exact ⟨(congrArg some (own_el_1 nq0 hx1.symm).symm), N0, rfl⟩
    · refine Go.to (mkF m 20 #[.val (.int p1)] []) (fun _ k => XS.icmpYes X0.here hx rfl (pc0 := 13) (pc' := 20) rfl (hb hby d5_13) rfl (feq hx1).2 (by decide) (by decide) k) ?_
      have nq1 : ¬ (98 : Int32) = p1 := fun q => hx1 q.symm
      refine Go.to (mkF m 21 #[.val (.int p1)] [(.int p1)]) (fun _ k => XS.iloadN X0.here hx rfl (hb hby d5_20) rfl  k) ?_
      refine Go.to (mkF m 23 #[.val (.int p1)] [(.int (99 : Int32)), (.int p1)]) (fun _ k => XS.bipush X0.here hx rfl (hb hby d5_21) k) ?_
      by_cases hx2 : p1 = (99 : Int32)
      · refine Go.to (mkF m 26 #[.val (.int p1)] []) (fun _ k => XS.icmpNo X0.here hx rfl (hb hby d5_23) rfl (teq hx2).2 k) ?_
        obtain ⟨T_3, X_3, e_3, st_3⟩ := getS2 X0 hx hZ hown (host := "") (Or.inl (hw _ (List.mem_of_getElem? (i := 69) rfl))) Via.refl e0 PS_com_example_reprofield_reprofield_CodedElement_DATE_2 (g := (mkF m 26 #[.val (.int p1)] [])) rfl (hb hby d5_26)
        refine Go.to (mkF m 29 #[.val (.int p1)] [(.ref el2)]) st_3 ?_
        refine Go.retA X_3 hx (t := (.object "com/example/reprofield/reprofield/CodedElement")) hret hlk rfl rfl (hb hby d5_29) (by decide) (by decide) ?_
        show (Q5 Z p1 el0 el1 el2 el3 el4 el5 el6 h0 n0) _ T_3.heap _
        rw [e_3]
        exact ⟨(congrArg some (own_el_2 nq0 nq1 hx2.symm).symm), N0, rfl⟩
      · refine Go.to (mkF m 30 #[.val (.int p1)] []) (fun _ k => XS.icmpYes X0.here hx rfl (pc0 := 23) (pc' := 30) rfl (hb hby d5_23) rfl (feq hx2).2 (by decide) (by decide) k) ?_
        have nq2 : ¬ (99 : Int32) = p1 := fun q => hx2 q.symm
        refine Go.to (mkF m 31 #[.val (.int p1)] [(.int p1)]) (fun _ k => XS.iloadN X0.here hx rfl (hb hby d5_30) rfl  k) ?_
        refine Go.to (mkF m 33 #[.val (.int p1)] [(.int (100 : Int32)), (.int p1)]) (fun _ k => XS.bipush X0.here hx rfl (hb hby d5_31) k) ?_
        by_cases hx3 : p1 = (100 : Int32)
        · refine Go.to (mkF m 36 #[.val (.int p1)] []) (fun _ k => XS.icmpNo X0.here hx rfl (hb hby d5_33) rfl (teq hx3).2 k) ?_
          obtain ⟨T_4, X_4, e_4, st_4⟩ := getS2 X0 hx hZ hown (host := "") (Or.inl (hw _ (List.mem_of_getElem? (i := 66) rfl))) Via.refl e0 PS_com_example_reprofield_reprofield_CodedElement_PLACE (g := (mkF m 36 #[.val (.int p1)] [])) rfl (hb hby d5_36)
          refine Go.to (mkF m 39 #[.val (.int p1)] [(.ref el3)]) st_4 ?_
          refine Go.retA X_4 hx (t := (.object "com/example/reprofield/reprofield/CodedElement")) hret hlk rfl rfl (hb hby d5_39) (by decide) (by decide) ?_
          show (Q5 Z p1 el0 el1 el2 el3 el4 el5 el6 h0 n0) _ T_4.heap _
          rw [e_4]
          exact ⟨(congrArg some (own_el_3 nq0 nq1 nq2 hx3.symm).symm), N0, rfl⟩
        · refine Go.to (mkF m 40 #[.val (.int p1)] []) (fun _ k => XS.icmpYes X0.here hx rfl (pc0 := 33) (pc' := 40) rfl (hb hby d5_33) rfl (feq hx3).2 (by decide) (by decide) k) ?_
          have nq3 : ¬ (100 : Int32) = p1 := fun q => hx3 q.symm
          refine Go.to (mkF m 41 #[.val (.int p1)] [(.int p1)]) (fun _ k => XS.iloadN X0.here hx rfl (hb hby d5_40) rfl  k) ?_
          refine Go.to (mkF m 43 #[.val (.int p1)] [(.int (101 : Int32)), (.int p1)]) (fun _ k => XS.bipush X0.here hx rfl (hb hby d5_41) k) ?_
          by_cases hx4 : p1 = (101 : Int32)
          · refine Go.to (mkF m 46 #[.val (.int p1)] []) (fun _ k => XS.icmpNo X0.here hx rfl (hb hby d5_43) rfl (teq hx4).2 k) ?_
            obtain ⟨T_5, X_5, e_5, st_5⟩ := getS2 X0 hx hZ hown (host := "") (Or.inl (hw _ (List.mem_of_getElem? (i := 64) rfl))) Via.refl e0 PS_com_example_reprofield_reprofield_CodedElement_FREQUENCY (g := (mkF m 46 #[.val (.int p1)] [])) rfl (hb hby d5_46)
            refine Go.to (mkF m 49 #[.val (.int p1)] [(.ref el4)]) st_5 ?_
            refine Go.retA X_5 hx (t := (.object "com/example/reprofield/reprofield/CodedElement")) hret hlk rfl rfl (hb hby d5_49) (by decide) (by decide) ?_
            show (Q5 Z p1 el0 el1 el2 el3 el4 el5 el6 h0 n0) _ T_5.heap _
            rw [e_5]
            exact ⟨(congrArg some (own_el_4 nq0 nq1 nq2 nq3 hx4.symm).symm), N0, rfl⟩
          · refine Go.to (mkF m 50 #[.val (.int p1)] []) (fun _ k => XS.icmpYes X0.here hx rfl (pc0 := 43) (pc' := 50) rfl (hb hby d5_43) rfl (feq hx4).2 (by decide) (by decide) k) ?_
            have nq4 : ¬ (101 : Int32) = p1 := fun q => hx4 q.symm
            refine Go.to (mkF m 51 #[.val (.int p1)] [(.int p1)]) (fun _ k => XS.iloadN X0.here hx rfl (hb hby d5_50) rfl  k) ?_
            refine Go.to (mkF m 53 #[.val (.int p1)] [(.int (102 : Int32)), (.int p1)]) (fun _ k => XS.bipush X0.here hx rfl (hb hby d5_51) k) ?_
            by_cases hx5 : p1 = (102 : Int32)
            · refine Go.to (mkF m 56 #[.val (.int p1)] []) (fun _ k => XS.icmpNo X0.here hx rfl (hb hby d5_53) rfl (teq hx5).2 k) ?_
              obtain ⟨T_6, X_6, e_6, st_6⟩ := getS2 X0 hx hZ hown (host := "") (Or.inl (hw _ (List.mem_of_getElem? (i := 70) rfl))) Via.refl e0 PS_com_example_reprofield_reprofield_CodedElement_REGULARITY (g := (mkF m 56 #[.val (.int p1)] [])) rfl (hb hby d5_56)
              refine Go.to (mkF m 59 #[.val (.int p1)] [(.ref el5)]) st_6 ?_
              refine Go.retA X_6 hx (t := (.object "com/example/reprofield/reprofield/CodedElement")) hret hlk rfl rfl (hb hby d5_59) (by decide) (by decide) ?_
              show (Q5 Z p1 el0 el1 el2 el3 el4 el5 el6 h0 n0) _ T_6.heap _
              rw [e_6]
              exact ⟨(congrArg some (own_el_5 nq0 nq1 nq2 nq3 nq4 hx5.symm).symm), N0, rfl⟩
            · refine Go.to (mkF m 60 #[.val (.int p1)] []) (fun _ k => XS.icmpYes X0.here hx rfl (pc0 := 53) (pc' := 60) rfl (hb hby d5_53) rfl (feq hx5).2 (by decide) (by decide) k) ?_
              have nq5 : ¬ (102 : Int32) = p1 := fun q => hx5 q.symm
              refine Go.to (mkF m 61 #[.val (.int p1)] [(.int p1)]) (fun _ k => XS.iloadN X0.here hx rfl (hb hby d5_60) rfl  k) ?_
              refine Go.to (mkF m 63 #[.val (.int p1)] [(.int (103 : Int32)), (.int p1)]) (fun _ k => XS.bipush X0.here hx rfl (hb hby d5_61) k) ?_
              by_cases hx6 : p1 = (103 : Int32)
              · refine Go.to (mkF m 66 #[.val (.int p1)] []) (fun _ k => XS.icmpNo X0.here hx rfl (hb hby d5_63) rfl (teq hx6).2 k) ?_
                obtain ⟨T_7, X_7, e_7, st_7⟩ := getS2 X0 hx hZ hown (host := "") (Or.inl (hw _ (List.mem_of_getElem? (i := 62) rfl))) Via.refl e0 PS_com_example_reprofield_reprofield_CodedElement_FORM_OF_ITEM (g := (mkF m 66 #[.val (.int p1)] [])) rfl (hb hby d5_66)
                refine Go.to (mkF m 69 #[.val (.int p1)] [(.ref el6)]) st_7 ?_
                refine Go.retA X_7 hx (t := (.object "com/example/reprofield/reprofield/CodedElement")) hret hlk rfl rfl (hb hby d5_69) (by decide) (by decide) ?_
                show (Q5 Z p1 el0 el1 el2 el3 el4 el5 el6 h0 n0) _ T_7.heap _
                rw [e_7]
                exact ⟨(congrArg some (own_el_6 nq0 nq1 nq2 nq3 nq4 nq5 hx6.symm).symm), N0, rfl⟩
              · refine Go.to (mkF m 70 #[.val (.int p1)] []) (fun _ k => XS.icmpYes X0.here hx rfl (pc0 := 63) (pc' := 70) rfl (hb hby d5_63) rfl (feq hx6).2 (by decide) (by decide) k) ?_
                have nq6 : ¬ (103 : Int32) = p1 := fun q => hx6 q.symm
                refine Go.to (mkF m 71 #[.val (.int p1)] [.null]) (fun _ k => XS.aconstNull X0.here hx rfl (hb hby d5_70) k) ?_
                refine Go.retA X0 hx (t := (.object "com/example/reprofield/reprofield/CodedElement")) hret hlk rfl rfl (hb hby d5_71) (by decide) (by decide) ?_
                show (Q5 Z p1 el0 el1 el2 el3 el4 el5 el6 h0 n0) _ s₁.heap _
                rw [e0]
                exact ⟨(congrArg some (own_el_7 nq0 nq1 nq2 nq3 nq4 nq5 nq6).symm), N0, rfl⟩
theorem own_pd2 : parseMethodDescriptor "()[Lcom/example/reprofield/reprofield/CodedElement;" = some ⟨[], some (.array (.object "com/example/reprofield/reprofield/CodedElement"))⟩ := by decide +kernel
theorem own_pd3 : parseMethodDescriptor "(Ljava/lang/Object;)Ljava/util/Optional;" = some ⟨[(.object "java/lang/Object")], some (.object "java/util/Optional")⟩ := by decide +kernel
theorem own_pd4 : parseMethodDescriptor "()Ljava/util/Optional;" = some ⟨[], some (.object "java/util/Optional")⟩ := by decide +kernel
def Q1 (Z : State) (p1 : Int32) (av : Addr) (kv : ClassId) (o : Addr) (el0 : Addr) (el1 : Addr) (el2 : Addr) (el3 : Addr) (el4 : Addr) (el5 : Addr) (el6 : Addr) (h0 : Heap) (n0 : Nat) (v : Option Value) (h : Heap) (L : List Loc) : Prop := ∃ (r : Addr), v = some (.ref r) ∧ Fr n0 L ∧ Keep h0 h [] ∧ Exa Z h r "java/util/Optional" ∧ Fld Z h r "java/util/Optional" "value" "Ljava/lang/Object;" (own_el p1 el0 el1 el2 el3 el4 el5 el6)
theorem ef_1 (m : MethodId) (p1 : Int32) : entryFrame m #[(.int p1)] 5 = mkF m 0 #[.val (.int p1), .unset, .unset, .unset, .unset] [] := by first | (simp [entryFrame, mkF, argsToLocals, Value.category]; done) | (simp [entryFrame, mkF, argsToLocals, own_cat_i, own_cat_l, own_cat_r, own_cat_n]; done) | rfl
set_option maxRecDepth 65536 in
set_option maxHeartbeats 40000000 in
theorem rm1 (l : Launch) (Z : State) (a0 : Array Value) (hw : ∀ d ∈ tables_1, d.before a0 Z = true) (p1 : Int32) (av : Addr) (kv : ClassId) (o : Addr) (el0 : Addr) (el1 : Addr) (el2 : Addr) (el3 : Addr) (el4 : Addr) (el5 : Addr) (el6 : Addr) (h0 : Heap) (n0 : Nat) (Z0 : n0 ≤ h0.size) (PS_com_example_reprofield_reprofield_CodedElement__VALUES : Sta Z h0 "com/example/reprofield/reprofield/CodedElement" "$VALUES" "[Lcom/example/reprofield/reprofield/CodedElement;" (.ref av)) (PE_av : Exa Z h0 av "[Lcom/example/reprofield/reprofield/CodedElement;") (PA_av : Arv Z h0 av kv (.object "com/example/reprofield/reprofield/CodedElement") (7 : Int32) [(.ref el0), (.ref el1), (.ref el2), (.ref el3), (.ref el4), (.ref el5), (.ref el6)] .null) (PF_el0__oclcSubfield : Fld Z h0 el0 "com/example/reprofield/reprofield/CodedElement" "_oclcSubfield" "C" (.int (97 : Int32))) (PF_el1__oclcSubfield : Fld Z h0 el1 "com/example/reprofield/reprofield/CodedElement" "_oclcSubfield" "C" (.int (98 : Int32))) (PF_el2__oclcSubfield : Fld Z h0 el2 "com/example/reprofield/reprofield/CodedElement" "_oclcSubfield" "C" (.int (99 : Int32))) (PF_el3__oclcSubfield : Fld Z h0 el3 "com/example/reprofield/reprofield/CodedElement" "_oclcSubfield" "C" (.int (100 : Int32))) (PF_el4__oclcSubfield : Fld Z h0 el4 "com/example/reprofield/reprofield/CodedElement" "_oclcSubfield" "C" (.int (101 : Int32))) (PF_el5__oclcSubfield : Fld Z h0 el5 "com/example/reprofield/reprofield/CodedElement" "_oclcSubfield" "C" (.int (102 : Int32))) (PF_el6__oclcSubfield : Fld Z h0 el6 "com/example/reprofield/reprofield/CodedElement" "_oclcSubfield" "C" (.int (103 : Int32))) (PS_java_util_Optional_EMPTY : Sta Z h0 "java/util/Optional" "EMPTY" "Ljava/util/Optional;" (.ref o)) (PE_o : Exa Z h0 o "java/util/Optional") (PF_o_value : Fld Z h0 o "java/util/Optional" "value" "Ljava/lang/Object;" .null) :
    Met1 l Z (⟨"com/example/reprofield/reprofield/CodedElement", "forOclcSubfield", "(C)Ljava/util/Optional;"⟩ : MethodName) prog_6_method_4_code 5 (some (.object "java/util/Optional")) ({ frames := 3, cells := 2, slots := 8, locals := 38 } : Room) #[(.int p1)] h0 (Q1 Z p1 av kv o el0 el1 el2 el3 el4 el5 el6 h0 n0) := by
  refine Met1.mk (plainFor_of_name (by first | (simp [plainName, overriddenIn]; done) | decide +kernel)) ?_
  intro p e s m below meth c s₁ hx hZ hby hml hown hnm hret hlk X0 e0
  have N0 := Fr.nil n0
  refine Go.cast (ef_1 m p1) ?_
  show Go p e below (FinN s (Q1 Z p1 av kv o el0 el1 el2 el3 el4 el5 el6 h0 n0) ({ frames := 3, cells := 2, slots := 8, locals := 38 } : Room).cells ({ frames := 3, cells := 2, slots := 8, locals := 38 } : Room).slots) s₁ (mkF m 0 #[.val (.int p1), .unset, .unset, .unset, .unset] [])
  refine Go.stat X0 hx hZ (y := (⟨"com/example/reprofield/reprofield/CodedElement", "values", "()[Lcom/example/reprofield/reprofield/CodedElement;"⟩ : MethodName)) hown (hw _ (List.mem_of_getElem? (i := 4) rfl)) (hw _ (List.mem_of_getElem? (i := 5) rfl)) (hw _ (List.mem_of_getElem? (i := 2) rfl)) (hw _ (List.mem_of_getElem? (i := 6) rfl)) (by decide) e0 (argsL := []) (rest := []) (Met1.back (W := 0) (rm2 l Z a0 hw av kv el0 el1 el2 el3 el4 el5 el6 h0 n0 Z0 PS_com_example_reprofield_reprofield_CodedElement__VALUES PE_av PA_av) hZ (hw _ (List.mem_of_getElem? (i := 6) rfl)) (hw _ (List.mem_of_getElem? (i := 2) rfl)) (by decide) (by decide)) (pc := 0) (Ls := #[.val (.int p1), .unset, .unset, .unset, .unset]) (by rw [hml]; rfl) (lenOf own_pd2 rfl) rfl (Nat.le_refl _) (hb hby d1_0) (by decide) (by decide) ?_
  intro T_1 v_1 L_1 X_1 hQ_1
  obtain ⟨b_1, rfl, Nq_1, K_1, pf_1_0, pf_1_1, sz_b_1⟩ := hQ_1
  have N_1 := Fr.app N0 Nq_1
  show Go p e below (FinN s (Q1 Z p1 av kv o el0 el1 el2 el3 el4 el5 el6 h0 n0) ({ frames := 3, cells := 2, slots := 8, locals := 38 } : Room).cells ({ frames := 3, cells := 2, slots := 8, locals := 38 } : Room).slots) T_1 (mkF m 3 #[.val (.int p1), .unset, .unset, .unset, .unset] [(.ref b_1)])
  have g_b_1 : n0 ≤ b_1 := Nat.le_trans Z0 sz_b_1
  have ne_av_b_1 : av ≠ b_1 := Nat.ne_of_lt (Nat.lt_of_lt_of_le PE_av.lt sz_b_1)
  have ne_el0_b_1 : el0 ≠ b_1 := Nat.ne_of_lt (Nat.lt_of_lt_of_le PF_el0__oclcSubfield.lt sz_b_1)
  have ne_el1_b_1 : el1 ≠ b_1 := Nat.ne_of_lt (Nat.lt_of_lt_of_le PF_el1__oclcSubfield.lt sz_b_1)
  have ne_el2_b_1 : el2 ≠ b_1 := Nat.ne_of_lt (Nat.lt_of_lt_of_le PF_el2__oclcSubfield.lt sz_b_1)
  have ne_el3_b_1 : el3 ≠ b_1 := Nat.ne_of_lt (Nat.lt_of_lt_of_le PF_el3__oclcSubfield.lt sz_b_1)
  have ne_el4_b_1 : el4 ≠ b_1 := Nat.ne_of_lt (Nat.lt_of_lt_of_le PF_el4__oclcSubfield.lt sz_b_1)
  have ne_el5_b_1 : el5 ≠ b_1 := Nat.ne_of_lt (Nat.lt_of_lt_of_le PF_el5__oclcSubfield.lt sz_b_1)
  have ne_el6_b_1 : el6 ≠ b_1 := Nat.ne_of_lt (Nat.lt_of_lt_of_le PF_el6__oclcSubfield.lt sz_b_1)
  have ne_o_b_1 : o ≠ b_1 := Nat.ne_of_lt (Nat.lt_of_lt_of_le PE_o.lt sz_b_1)
  have sz_b_1 : h0.size ≤ b_1 := Nat.le_trans (Keep.refl h0 []).1 sz_b_1
  refine Go.to (mkF m 4 #[.val (.int p1), .val (.ref b_1), .unset, .unset, .unset] []) (fun _ k => XS.astoreN X_1.here hx rfl (hb hby d1_3) rfl rfl (l' := #[.val (.int p1), .val (.ref b_1), .unset, .unset, .unset]) rfl k) ?_
  refine Go.to (mkF m 5 #[.val (.int p1), .val (.ref b_1), .unset, .unset, .unset] [(.ref b_1)]) (fun _ k => XS.aloadN X_1.here hx rfl (hb hby d1_4) rfl rfl k) ?_
  obtain ⟨cl_2, Ar_2, -, Sz_2, Ng_2, -, -⟩ := id pf_1_1
  refine Go.to (mkF m 6 #[.val (.int p1), .val (.ref b_1), .unset, .unset, .unset] [(.int (7 : Int32))]) (fun _ k => by
    refine X_1.arraylength hx (by exact Ar_2.1) (State.isArrayOf_alike hZ.alike Ar_2.2.1) (g := (mkF m 5 #[.val (.int p1), .val (.ref b_1), .unset, .unset, .unset] [(.ref b_1)])) rfl rfl (hb hby d1_5) _ ?_
    rw [len_of Sz_2 Ng_2]
    exact k) ?_
  refine Go.to (mkF m 7 #[.val (.int p1), .val (.ref b_1), .val (.int (7 : Int32)), .unset, .unset] []) (fun _ k => XS.istoreN X_1.here hx rfl (hb hby d1_6) rfl (l' := #[.val (.int p1), .val (.ref b_1), .val (.int (7 : Int32)), .unset, .unset]) rfl k) ?_
  refine Go.to (mkF m 8 #[.val (.int p1), .val (.ref b_1), .val (.int (7 : Int32)), .unset, .unset] [(.int (0 : Int32))]) (fun _ k => XS.iconst X_1.here hx rfl (hb hby d1_7) k) ?_
  refine Go.to (mkF m 9 #[.val (.int p1), .val (.ref b_1), .val (.int (7 : Int32)), .val (.int (0 : Int32)), .unset] []) (fun _ k => XS.istoreN X_1.here hx rfl (hb hby d1_8) rfl (l' := #[.val (.int p1), .val (.ref b_1), .val (.int (7 : Int32)), .val (.int (0 : Int32)), .unset]) rfl k) ?_
  refine Go.to (mkF m 10 #[.val (.int p1), .val (.ref b_1), .val (.int (7 : Int32)), .val (.int (0 : Int32)), .unset] [(.int (0 : Int32))]) (fun _ k => XS.iloadN X_1.here hx rfl (hb hby d1_9) rfl  k) ?_
  refine Go.to (mkF m 11 #[.val (.int p1), .val (.ref b_1), .val (.int (7 : Int32)), .val (.int (0 : Int32)), .unset] [(.int (7 : Int32)), (.int (0 : Int32))]) (fun _ k => XS.iloadN X_1.here hx rfl (hb hby d1_10) rfl  k) ?_
  refine Go.to (mkF m 14 #[.val (.int p1), .val (.ref b_1), .val (.int (7 : Int32)), .val (.int (0 : Int32)), .unset] []) (fun _ k => XS.icmpNo X_1.here hx rfl (hb hby d1_11) rfl (tlt (by decide : (0 : Int32) < (7 : Int32))).2.1 k) ?_
  refine Go.to (mkF m 15 #[.val (.int p1), .val (.ref b_1), .val (.int (7 : Int32)), .val (.int (0 : Int32)), .unset] [(.ref b_1)]) (fun _ k => XS.aloadN X_1.here hx rfl (hb hby d1_14) rfl rfl k) ?_
  refine Go.to (mkF m 16 #[.val (.int p1), .val (.ref b_1), .val (.int (7 : Int32)), .val (.int (0 : Int32)), .unset] [(.int (0 : Int32)), (.ref b_1)]) (fun _ k => XS.iloadN X_1.here hx rfl (hb hby d1_15) rfl  k) ?_
  obtain ⟨cl_3, Ar_3, -, Sz_3, Ng_3, Hh_3, -⟩ := id pf_1_1
  have hin_3 : ¬ ((0 : Int32) < 0 ∨ cl_3.slots.size ≤ ((0 : Int32)).toNatClampNeg) := inb_of Sz_3 ⟨by decide, by decide⟩
  refine Go.to (mkF m 17 #[.val (.int p1), .val (.ref b_1), .val (.int (7 : Int32)), .val (.int (0 : Int32)), .unset] [(.ref el0)]) (X_1.aaload hx (j := (0 : Int32)) (v := (.ref el0)) (by exact Ar_3.1) (State.isArrayOf_alike hZ.alike Ar_3.2.1) rfl Ar_3.2.2 hin_3 (Hh_3.at hin_3 rfl) (g := (mkF m 16 #[.val (.int p1), .val (.ref b_1), .val (.int (7 : Int32)), .val (.int (0 : Int32)), .unset] [(.int (0 : Int32)), (.ref b_1)])) rfl rfl (hb hby d1_16)) ?_
  refine Go.to (mkF m 19 #[.val (.int p1), .val (.ref b_1), .val (.int (7 : Int32)), .val (.int (0 : Int32)), .val (.ref el0)] []) (fun _ k => XS.astore X_1.here hx rfl (hb hby d1_17) rfl rfl (l' := #[.val (.int p1), .val (.ref b_1), .val (.int (7 : Int32)), .val (.int (0 : Int32)), .val (.ref el0)]) rfl k) ?_
  refine Go.to (mkF m 21 #[.val (.int p1), .val (.ref b_1), .val (.int (7 : Int32)), .val (.int (0 : Int32)), .val (.ref el0)] [(.ref el0)]) (fun _ k => XS.aload X_1.here hx rfl (hb hby d1_19) rfl rfl k) ?_
  have f_4 : Fld Z T_1.heap el0 "com/example/reprofield/reprofield/CodedElement" "_oclcSubfield" "C" (.int (97 : Int32)) := (PF_el0__oclcSubfield.keep K_1 nin0)
  obtain ⟨T_5, X_5, e_5, st_5⟩ := getF X_1 hx hZ hown (host := "") (Or.inl (hw _ (List.mem_of_getElem? (i := 25) rfl))) Via.refl rfl f_4 (g := (mkF m 21 #[.val (.int p1), .val (.ref b_1), .val (.int (7 : Int32)), .val (.int (0 : Int32)), .val (.ref el0)] [(.ref el0)])) rfl rfl (hb hby d1_21)
  refine Go.to (mkF m 24 #[.val (.int p1), .val (.ref b_1), .val (.int (7 : Int32)), .val (.int (0 : Int32)), .val (.ref el0)] [(.int (97 : Int32))]) st_5 ?_
  refine Go.to (mkF m 25 #[.val (.int p1), .val (.ref b_1), .val (.int (7 : Int32)), .val (.int (0 : Int32)), .val (.ref el0)] [(.int p1), (.int (97 : Int32))]) (fun _ k => XS.iloadN X_5.here hx rfl (hb hby d1_24) rfl  k) ?_
  by_cases nq0 : (97 : Int32) = p1
  · refine Go.to (mkF m 28 #[.val (.int p1), .val (.ref b_1), .val (.int (7 : Int32)), .val (.int (0 : Int32)), .val (.ref el0)] []) (fun _ k => XS.icmpNo X_5.here hx rfl (hb hby d1_25) rfl (teq nq0).2 k) ?_
    refine Go.to (mkF m 30 #[.val (.int p1), .val (.ref b_1), .val (.int (7 : Int32)), .val (.int (0 : Int32)), .val (.ref el0)] [(.ref el0)]) (fun _ k => XS.aload X_5.here hx rfl (hb hby d1_28) rfl rfl k) ?_
    have f_6 : n0 ≤ T_1.heap.size := (Nat.le_trans Z0 K_1.1)
    refine Go.stat X_5 hx hZ (y := (⟨"java/util/Optional", "of", "(Ljava/lang/Object;)Ljava/util/Optional;"⟩ : MethodName)) hown (hw _ (List.mem_of_getElem? (i := 44) rfl)) (hw _ (List.mem_of_getElem? (i := 45) rfl)) (hw _ (List.mem_of_getElem? (i := 30) rfl)) (hw _ (List.mem_of_getElem? (i := 46) rfl)) (by decide) e_5 (argsL := [(.ref el0)]) (rest := []) (Met1.back (W := 0) (rm6 l Z a0 hw el0 T_1.heap n0 f_6) hZ (hw _ (List.mem_of_getElem? (i := 46) rfl)) (hw _ (List.mem_of_getElem? (i := 30) rfl)) (by decide) (by decide)) (pc := 30) (Ls := #[.val (.int p1), .val (.ref b_1), .val (.int (7 : Int32)), .val (.int (0 : Int32)), .val (.ref el0)]) (by rw [hml]; rfl) (lenOf own_pd3 rfl) rfl (Nat.le_refl _) (hb hby d1_30) (by decide) (by decide) ?_
    intro T_7 v_7 L_7 X_7 hQ_7
    obtain ⟨b_7, rfl, Nq_7, K_7, pf_7_0, pf_7_1, sz_b_7⟩ := hQ_7
    have N_7 := Fr.app N_1 Nq_7
    have f_8 : Exa Z T_1.heap av "[Lcom/example/reprofield/reprofield/CodedElement;" := (PE_av.keep K_1)
    have f_9 : Fld Z T_1.heap el1 "com/example/reprofield/reprofield/CodedElement" "_oclcSubfield" "C" (.int (98 : Int32)) := (PF_el1__oclcSubfield.keep K_1 nin0)
    have f_10 : Fld Z T_1.heap el2 "com/example/reprofield/reprofield/CodedElement" "_oclcSubfield" "C" (.int (99 : Int32)) := (PF_el2__oclcSubfield.keep K_1 nin0)
    have f_11 : Fld Z T_1.heap el3 "com/example/reprofield/reprofield/CodedElement" "_oclcSubfield" "C" (.int (100 : Int32)) := (PF_el3__oclcSubfield.keep K_1 nin0)
    have f_12 : Fld Z T_1.heap el4 "com/example/reprofield/reprofield/CodedElement" "_oclcSubfield" "C" (.int (101 : Int32)) := (PF_el4__oclcSubfield.keep K_1 nin0)
    have f_13 : Fld Z T_1.heap el5 "com/example/reprofield/reprofield/CodedElement" "_oclcSubfield" "C" (.int (102 : Int32)) := (PF_el5__oclcSubfield.keep K_1 nin0)
    have f_14 : Fld Z T_1.heap el6 "com/example/reprofield/reprofield/CodedElement" "_oclcSubfield" "C" (.int (103 : Int32)) := (PF_el6__oclcSubfield.keep K_1 nin0)
    have f_15 : Exa Z T_1.heap o "java/util/Optional" := (PE_o.keep K_1)
    have f_16 : Keep h0 T_1.heap [] := ((Keep.refl h0 []).trans K_1 all0)
    show Go p e below (FinN s (Q1 Z p1 av kv o el0 el1 el2 el3 el4 el5 el6 h0 n0) ({ frames := 3, cells := 2, slots := 8, locals := 38 } : Room).cells ({ frames := 3, cells := 2, slots := 8, locals := 38 } : Room).slots) T_7 (mkF m 33 #[.val (.int p1), .val (.ref b_1), .val (.int (7 : Int32)), .val (.int (0 : Int32)), .val (.ref el0)] [(.ref b_7)])
    have g_b_7 : n0 ≤ b_7 := Nat.le_trans f_6 sz_b_7
    have ne_av_b_7 : av ≠ b_7 := Nat.ne_of_lt (Nat.lt_of_lt_of_le f_8.lt sz_b_7)
    have ne_el0_b_7 : el0 ≠ b_7 := Nat.ne_of_lt (Nat.lt_of_lt_of_le f_4.lt sz_b_7)
    have ne_el1_b_7 : el1 ≠ b_7 := Nat.ne_of_lt (Nat.lt_of_lt_of_le f_9.lt sz_b_7)
    have ne_el2_b_7 : el2 ≠ b_7 := Nat.ne_of_lt (Nat.lt_of_lt_of_le f_10.lt sz_b_7)
    have ne_el3_b_7 : el3 ≠ b_7 := Nat.ne_of_lt (Nat.lt_of_lt_of_le f_11.lt sz_b_7)
    have ne_el4_b_7 : el4 ≠ b_7 := Nat.ne_of_lt (Nat.lt_of_lt_of_le f_12.lt sz_b_7)
    have ne_el5_b_7 : el5 ≠ b_7 := Nat.ne_of_lt (Nat.lt_of_lt_of_le f_13.lt sz_b_7)
    have ne_el6_b_7 : el6 ≠ b_7 := Nat.ne_of_lt (Nat.lt_of_lt_of_le f_14.lt sz_b_7)
    have ne_o_b_7 : o ≠ b_7 := Nat.ne_of_lt (Nat.lt_of_lt_of_le f_15.lt sz_b_7)
    have ne_b_1_b_7 : b_1 ≠ b_7 := Nat.ne_of_lt (Nat.lt_of_lt_of_le pf_1_0.lt sz_b_7)
    have sz_b_7 : h0.size ≤ b_7 := Nat.le_trans f_16.1 sz_b_7
    refine Go.retA X_7 hx (t := (.object "java/util/Optional")) hret hlk rfl rfl (hb hby d1_33) (by decide) (by decide) ?_
    have f_17 : Keep h0 T_7.heap [] := (f_16.trans K_7 all0)
    show (Q1 Z p1 av kv o el0 el1 el2 el3 el4 el5 el6 h0 n0) _ T_7.heap _
    exact ⟨b_7, rfl, N_7, f_17, pf_7_0, ((own_el_0  nq0).symm ▸ pf_7_1)⟩
  · refine Go.to (mkF m 34 #[.val (.int p1), .val (.ref b_1), .val (.int (7 : Int32)), .val (.int (0 : Int32)), .val (.ref el0)] []) (fun _ k => XS.icmpYes X_5.here hx rfl (pc0 := 25) (pc' := 34) rfl (hb hby d1_25) rfl (feq nq0).2 (by decide) (by decide) k) ?_
    refine Go.to (mkF m 37 #[.val (.int p1), .val (.ref b_1), .val (.int (7 : Int32)), .val (.int (1 : Int32)), .val (.ref el0)] []) (fun _ k => XS.iinc X_5.here hx rfl (hb hby d1_34) rfl (l' := #[.val (.int p1), .val (.ref b_1), .val (.int (7 : Int32)), .val (.int (1 : Int32)), .val (.ref el0)]) rfl k) ?_
    refine Go.to (mkF m 9 #[.val (.int p1), .val (.ref b_1), .val (.int (7 : Int32)), .val (.int (1 : Int32)), .val (.ref el0)] []) (fun _ k => XS.goto X_5.here hx rfl (pc0 := 37) (pc' := 9) rfl (hb hby d1_37) (by decide) (by decide) k) ?_
    refine Go.to (mkF m 10 #[.val (.int p1), .val (.ref b_1), .val (.int (7 : Int32)), .val (.int (1 : Int32)), .val (.ref el0)] [(.int (1 : Int32))]) (fun _ k => XS.iloadN X_5.here hx rfl (hb hby d1_9) rfl  k) ?_
    refine Go.to (mkF m 11 #[.val (.int p1), .val (.ref b_1), .val (.int (7 : Int32)), .val (.int (1 : Int32)), .val (.ref el0)] [(.int (7 : Int32)), (.int (1 : Int32))]) (fun _ k => XS.iloadN X_5.here hx rfl (hb hby d1_10) rfl  k) ?_
    refine Go.to (mkF m 14 #[.val (.int p1), .val (.ref b_1), .val (.int (7 : Int32)), .val (.int (1 : Int32)), .val (.ref el0)] []) (fun _ k => XS.icmpNo X_5.here hx rfl (hb hby d1_11) rfl (tlt (by decide : (1 : Int32) < (7 : Int32))).2.1 k) ?_
    refine Go.to (mkF m 15 #[.val (.int p1), .val (.ref b_1), .val (.int (7 : Int32)), .val (.int (1 : Int32)), .val (.ref el0)] [(.ref b_1)]) (fun _ k => XS.aloadN X_5.here hx rfl (hb hby d1_14) rfl rfl k) ?_
    refine Go.to (mkF m 16 #[.val (.int p1), .val (.ref b_1), .val (.int (7 : Int32)), .val (.int (1 : Int32)), .val (.ref el0)] [(.int (1 : Int32)), (.ref b_1)]) (fun _ k => XS.iloadN X_5.here hx rfl (hb hby d1_15) rfl  k) ?_
    obtain ⟨cl_18, Ar_18, -, Sz_18, Ng_18, Hh_18, -⟩ := id pf_1_1
    have hin_18 : ¬ ((1 : Int32) < 0 ∨ cl_18.slots.size ≤ ((1 : Int32)).toNatClampNeg) := inb_of Sz_18 ⟨by decide, by decide⟩
    refine Go.to (mkF m 17 #[.val (.int p1), .val (.ref b_1), .val (.int (7 : Int32)), .val (.int (1 : Int32)), .val (.ref el0)] [(.ref el1)]) (X_5.aaload hx (j := (1 : Int32)) (v := (.ref el1)) (by rw [e_5]; exact Ar_18.1) (State.isArrayOf_alike hZ.alike Ar_18.2.1) rfl Ar_18.2.2 hin_18 (Hh_18.at hin_18 rfl) (g := (mkF m 16 #[.val (.int p1), .val (.ref b_1), .val (.int (7 : Int32)), .val (.int (1 : Int32)), .val (.ref el0)] [(.int (1 : Int32)), (.ref b_1)])) rfl rfl (hb hby d1_16)) ?_
    refine Go.to (mkF m 19 #[.val (.int p1), .val (.ref b_1), .val (.int (7 : Int32)), .val (.int (1 : Int32)), .val (.ref el1)] []) (fun _ k => XS.astore X_5.here hx rfl (hb hby d1_17) rfl rfl (l' := #[.val (.int p1), .val (.ref b_1), .val (.int (7 : Int32)), .val (.int (1 : Int32)), .val (.ref el1)]) rfl k) ?_
    refine Go.to (mkF m 21 #[.val (.int p1), .val (.ref b_1), .val (.int (7 : Int32)), .val (.int (1 : Int32)), .val (.ref el1)] [(.ref el1)]) (fun _ k => XS.aload X_5.here hx rfl (hb hby d1_19) rfl rfl k) ?_
    have f_19 : Fld Z T_1.heap el1 "com/example/reprofield/reprofield/CodedElement" "_oclcSubfield" "C" (.int (98 : Int32)) := (PF_el1__oclcSubfield.keep K_1 nin0)
    obtain ⟨T_20, X_20, e_20, st_20⟩ := getF X_5 hx hZ hown (host := "") (Or.inl (hw _ (List.mem_of_getElem? (i := 25) rfl))) Via.refl e_5 f_19 (g := (mkF m 21 #[.val (.int p1), .val (.ref b_1), .val (.int (7 : Int32)), .val (.int (1 : Int32)), .val (.ref el1)] [(.ref el1)])) rfl rfl (hb hby d1_21)
    refine Go.to (mkF m 24 #[.val (.int p1), .val (.ref b_1), .val (.int (7 : Int32)), .val (.int (1 : Int32)), .val (.ref el1)] [(.int (98 : Int32))]) st_20 ?_
    refine Go.to (mkF m 25 #[.val (.int p1), .val (.ref b_1), .val (.int (7 : Int32)), .val (.int (1 : Int32)), .val (.ref el1)] [(.int p1), (.int (98 : Int32))]) (fun _ k => XS.iloadN X_20.here hx rfl (hb hby d1_24) rfl  k) ?_
    by_cases nq1 : (98 : Int32) = p1
    · refine Go.to (mkF m 28 #[.val (.int p1), .val (.ref b_1), .val (.int (7 : Int32)), .val (.int (1 : Int32)), .val (.ref el1)] []) (fun _ k => XS.icmpNo X_20.here hx rfl (hb hby d1_25) rfl (teq nq1).2 k) ?_
      refine Go.to (mkF m 30 #[.val (.int p1), .val (.ref b_1), .val (.int (7 : Int32)), .val (.int (1 : Int32)), .val (.ref el1)] [(.ref el1)]) (fun _ k => XS.aload X_20.here hx rfl (hb hby d1_28) rfl rfl k) ?_
      have f_21 : n0 ≤ T_1.heap.size := (Nat.le_trans Z0 K_1.1)
      refine Go.stat X_20 hx hZ (y := (⟨"java/util/Optional", "of", "(Ljava/lang/Object;)Ljava/util/Optional;"⟩ : MethodName)) hown (hw _ (List.mem_of_getElem? (i := 44) rfl)) (hw _ (List.mem_of_getElem? (i := 45) rfl)) (hw _ (List.mem_of_getElem? (i := 30) rfl)) (hw _ (List.mem_of_getElem? (i := 46) rfl)) (by decide) e_20 (argsL := [(.ref el1)]) (rest := []) (Met1.back (W := 0) (rm6 l Z a0 hw el1 T_1.heap n0 f_21) hZ (hw _ (List.mem_of_getElem? (i := 46) rfl)) (hw _ (List.mem_of_getElem? (i := 30) rfl)) (by decide) (by decide)) (pc := 30) (Ls := #[.val (.int p1), .val (.ref b_1), .val (.int (7 : Int32)), .val (.int (1 : Int32)), .val (.ref el1)]) (by rw [hml]; rfl) (lenOf own_pd3 rfl) rfl (Nat.le_refl _) (hb hby d1_30) (by decide) (by decide) ?_
      intro T_22 v_22 L_22 X_22 hQ_22
      obtain ⟨b_22, rfl, Nq_22, K_22, pf_22_0, pf_22_1, sz_b_22⟩ := hQ_22
      have N_22 := Fr.app N_1 Nq_22
      have f_23 : Exa Z T_1.heap av "[Lcom/example/reprofield/reprofield/CodedElement;" := (PE_av.keep K_1)
      have f_24 : Fld Z T_1.heap el2 "com/example/reprofield/reprofield/CodedElement" "_oclcSubfield" "C" (.int (99 : Int32)) := (PF_el2__oclcSubfield.keep K_1 nin0)
      have f_25 : Fld Z T_1.heap el3 "com/example/reprofield/reprofield/CodedElement" "_oclcSubfield" "C" (.int (100 : Int32)) := (PF_el3__oclcSubfield.keep K_1 nin0)
      have f_26 : Fld Z T_1.heap el4 "com/example/reprofield/reprofield/CodedElement" "_oclcSubfield" "C" (.int (101 : Int32)) := (PF_el4__oclcSubfield.keep K_1 nin0)
      have f_27 : Fld Z T_1.heap el5 "com/example/reprofield/reprofield/CodedElement" "_oclcSubfield" "C" (.int (102 : Int32)) := (PF_el5__oclcSubfield.keep K_1 nin0)
      have f_28 : Fld Z T_1.heap el6 "com/example/reprofield/reprofield/CodedElement" "_oclcSubfield" "C" (.int (103 : Int32)) := (PF_el6__oclcSubfield.keep K_1 nin0)
      have f_29 : Exa Z T_1.heap o "java/util/Optional" := (PE_o.keep K_1)
      have f_30 : Keep h0 T_1.heap [] := ((Keep.refl h0 []).trans K_1 all0)
      show Go p e below (FinN s (Q1 Z p1 av kv o el0 el1 el2 el3 el4 el5 el6 h0 n0) ({ frames := 3, cells := 2, slots := 8, locals := 38 } : Room).cells ({ frames := 3, cells := 2, slots := 8, locals := 38 } : Room).slots) T_22 (mkF m 33 #[.val (.int p1), .val (.ref b_1), .val (.int (7 : Int32)), .val (.int (1 : Int32)), .val (.ref el1)] [(.ref b_22)])
      have g_b_22 : n0 ≤ b_22 := Nat.le_trans f_21 sz_b_22
      have ne_av_b_22 : av ≠ b_22 := Nat.ne_of_lt (Nat.lt_of_lt_of_le f_23.lt sz_b_22)
      have ne_el0_b_22 : el0 ≠ b_22 := Nat.ne_of_lt (Nat.lt_of_lt_of_le f_4.lt sz_b_22)
      have ne_el1_b_22 : el1 ≠ b_22 := Nat.ne_of_lt (Nat.lt_of_lt_of_le f_19.lt sz_b_22)
      have ne_el2_b_22 : el2 ≠ b_22 := Nat.ne_of_lt (Nat.lt_of_lt_of_le f_24.lt sz_b_22)
      have ne_el3_b_22 : el3 ≠ b_22 := Nat.ne_of_lt (Nat.lt_of_lt_of_le f_25.lt sz_b_22)
      have ne_el4_b_22 : el4 ≠ b_22 := Nat.ne_of_lt (Nat.lt_of_lt_of_le f_26.lt sz_b_22)
      have ne_el5_b_22 : el5 ≠ b_22 := Nat.ne_of_lt (Nat.lt_of_lt_of_le f_27.lt sz_b_22)
      have ne_el6_b_22 : el6 ≠ b_22 := Nat.ne_of_lt (Nat.lt_of_lt_of_le f_28.lt sz_b_22)
      have ne_o_b_22 : o ≠ b_22 := Nat.ne_of_lt (Nat.lt_of_lt_of_le f_29.lt sz_b_22)
      have ne_b_1_b_22 : b_1 ≠ b_22 := Nat.ne_of_lt (Nat.lt_of_lt_of_le pf_1_0.lt sz_b_22)
      have sz_b_22 : h0.size ≤ b_22 := Nat.le_trans f_30.1 sz_b_22
      refine Go.retA X_22 hx (t := (.object "java/util/Optional")) hret hlk rfl rfl (hb hby d1_33) (by decide) (by decide) ?_
      have f_31 : Keep h0 T_22.heap [] := (f_30.trans K_22 all0)
      show (Q1 Z p1 av kv o el0 el1 el2 el3 el4 el5 el6 h0 n0) _ T_22.heap _
      exact ⟨b_22, rfl, N_22, f_31, pf_22_0, ((own_el_1 nq0 nq1).symm ▸ pf_22_1)⟩
    · refine Go.to (mkF m 34 #[.val (.int p1), .val (.ref b_1), .val (.int (7 : Int32)), .val (.int (1 : Int32)), .val (.ref el1)] []) (fun _ k => XS.icmpYes X_20.here hx rfl (pc0 := 25) (pc' := 34) rfl (hb hby d1_25) rfl (feq nq1).2 (by decide) (by decide) k) ?_
      refine Go.to (mkF m 37 #[.val (.int p1), .val (.ref b_1), .val (.int (7 : Int32)), .val (.int (2 : Int32)), .val (.ref el1)] []) (fun _ k => XS.iinc X_20.here hx rfl (hb hby d1_34) rfl (l' := #[.val (.int p1), .val (.ref b_1), .val (.int (7 : Int32)), .val (.int (2 : Int32)), .val (.ref el1)]) rfl k) ?_
      refine Go.to (mkF m 9 #[.val (.int p1), .val (.ref b_1), .val (.int (7 : Int32)), .val (.int (2 : Int32)), .val (.ref el1)] []) (fun _ k => XS.goto X_20.here hx rfl (pc0 := 37) (pc' := 9) rfl (hb hby d1_37) (by decide) (by decide) k) ?_
      refine Go.to (mkF m 10 #[.val (.int p1), .val (.ref b_1), .val (.int (7 : Int32)), .val (.int (2 : Int32)), .val (.ref el1)] [(.int (2 : Int32))]) (fun _ k => XS.iloadN X_20.here hx rfl (hb hby d1_9) rfl  k) ?_
      refine Go.to (mkF m 11 #[.val (.int p1), .val (.ref b_1), .val (.int (7 : Int32)), .val (.int (2 : Int32)), .val (.ref el1)] [(.int (7 : Int32)), (.int (2 : Int32))]) (fun _ k => XS.iloadN X_20.here hx rfl (hb hby d1_10) rfl  k) ?_
      refine Go.to (mkF m 14 #[.val (.int p1), .val (.ref b_1), .val (.int (7 : Int32)), .val (.int (2 : Int32)), .val (.ref el1)] []) (fun _ k => XS.icmpNo X_20.here hx rfl (hb hby d1_11) rfl (tlt (by decide : (2 : Int32) < (7 : Int32))).2.1 k) ?_
      refine Go.to (mkF m 15 #[.val (.int p1), .val (.ref b_1), .val (.int (7 : Int32)), .val (.int (2 : Int32)), .val (.ref el1)] [(.ref b_1)]) (fun _ k => XS.aloadN X_20.here hx rfl (hb hby d1_14) rfl rfl k) ?_
      refine Go.to (mkF m 16 #[.val (.int p1), .val (.ref b_1), .val (.int (7 : Int32)), .val (.int (2 : Int32)), .val (.ref el1)] [(.int (2 : Int32)), (.ref b_1)]) (fun _ k => XS.iloadN X_20.here hx rfl (hb hby d1_15) rfl  k) ?_
      obtain ⟨cl_32, Ar_32, -, Sz_32, Ng_32, Hh_32, -⟩ := id pf_1_1
      have hin_32 : ¬ ((2 : Int32) < 0 ∨ cl_32.slots.size ≤ ((2 : Int32)).toNatClampNeg) := inb_of Sz_32 ⟨by decide, by decide⟩
      refine Go.to (mkF m 17 #[.val (.int p1), .val (.ref b_1), .val (.int (7 : Int32)), .val (.int (2 : Int32)), .val (.ref el1)] [(.ref el2)]) (X_20.aaload hx (j := (2 : Int32)) (v := (.ref el2)) (by rw [e_20]; exact Ar_32.1) (State.isArrayOf_alike hZ.alike Ar_32.2.1) rfl Ar_32.2.2 hin_32 (Hh_32.at hin_32 rfl) (g := (mkF m 16 #[.val (.int p1), .val (.ref b_1), .val (.int (7 : Int32)), .val (.int (2 : Int32)), .val (.ref el1)] [(.int (2 : Int32)), (.ref b_1)])) rfl rfl (hb hby d1_16)) ?_
      refine Go.to (mkF m 19 #[.val (.int p1), .val (.ref b_1), .val (.int (7 : Int32)), .val (.int (2 : Int32)), .val (.ref el2)] []) (fun _ k => XS.astore X_20.here hx rfl (hb hby d1_17) rfl rfl (l' := #[.val (.int p1), .val (.ref b_1), .val (.int (7 : Int32)), .val (.int (2 : Int32)), .val (.ref el2)]) rfl k) ?_
      refine Go.to (mkF m 21 #[.val (.int p1), .val (.ref b_1), .val (.int (7 : Int32)), .val (.int (2 : Int32)), .val (.ref el2)] [(.ref el2)]) (fun _ k => XS.aload X_20.here hx rfl (hb hby d1_19) rfl rfl k) ?_
      have f_33 : Fld Z T_1.heap el2 "com/example/reprofield/reprofield/CodedElement" "_oclcSubfield" "C" (.int (99 : Int32)) := (PF_el2__oclcSubfield.keep K_1 nin0)
      obtain ⟨T_34, X_34, e_34, st_34⟩ := getF X_20 hx hZ hown (host := "") (Or.inl (hw _ (List.mem_of_getElem? (i := 25) rfl))) Via.refl e_20 f_33 (g := (mkF m 21 #[.val (.int p1), .val (.ref b_1), .val (.int (7 : Int32)), .val (.int (2 : Int32)), .val (.ref el2)] [(.ref el2)])) rfl rfl (hb hby d1_21)
      refine Go.to (mkF m 24 #[.val (.int p1), .val (.ref b_1), .val (.int (7 : Int32)), .val (.int (2 : Int32)), .val (.ref el2)] [(.int (99 : Int32))]) st_34 ?_
      refine Go.to (mkF m 25 #[.val (.int p1), .val (.ref b_1), .val (.int (7 : Int32)), .val (.int (2 : Int32)), .val (.ref el2)] [(.int p1), (.int (99 : Int32))]) (fun _ k => XS.iloadN X_34.here hx rfl (hb hby d1_24) rfl  k) ?_
      by_cases nq2 : (99 : Int32) = p1
      · refine Go.to (mkF m 28 #[.val (.int p1), .val (.ref b_1), .val (.int (7 : Int32)), .val (.int (2 : Int32)), .val (.ref el2)] []) (fun _ k => XS.icmpNo X_34.here hx rfl (hb hby d1_25) rfl (teq nq2).2 k) ?_
        refine Go.to (mkF m 30 #[.val (.int p1), .val (.ref b_1), .val (.int (7 : Int32)), .val (.int (2 : Int32)), .val (.ref el2)] [(.ref el2)]) (fun _ k => XS.aload X_34.here hx rfl (hb hby d1_28) rfl rfl k) ?_
        have f_35 : n0 ≤ T_1.heap.size := (Nat.le_trans Z0 K_1.1)
        refine Go.stat X_34 hx hZ (y := (⟨"java/util/Optional", "of", "(Ljava/lang/Object;)Ljava/util/Optional;"⟩ : MethodName)) hown (hw _ (List.mem_of_getElem? (i := 44) rfl)) (hw _ (List.mem_of_getElem? (i := 45) rfl)) (hw _ (List.mem_of_getElem? (i := 30) rfl)) (hw _ (List.mem_of_getElem? (i := 46) rfl)) (by decide) e_34 (argsL := [(.ref el2)]) (rest := []) (Met1.back (W := 0) (rm6 l Z a0 hw el2 T_1.heap n0 f_35) hZ (hw _ (List.mem_of_getElem? (i := 46) rfl)) (hw _ (List.mem_of_getElem? (i := 30) rfl)) (by decide) (by decide)) (pc := 30) (Ls := #[.val (.int p1), .val (.ref b_1), .val (.int (7 : Int32)), .val (.int (2 : Int32)), .val (.ref el2)]) (by rw [hml]; rfl) (lenOf own_pd3 rfl) rfl (Nat.le_refl _) (hb hby d1_30) (by decide) (by decide) ?_
        intro T_36 v_36 L_36 X_36 hQ_36
        obtain ⟨b_36, rfl, Nq_36, K_36, pf_36_0, pf_36_1, sz_b_36⟩ := hQ_36
        have N_36 := Fr.app N_1 Nq_36
        have f_37 : Exa Z T_1.heap av "[Lcom/example/reprofield/reprofield/CodedElement;" := (PE_av.keep K_1)
        have f_38 : Fld Z T_1.heap el3 "com/example/reprofield/reprofield/CodedElement" "_oclcSubfield" "C" (.int (100 : Int32)) := (PF_el3__oclcSubfield.keep K_1 nin0)
        have f_39 : Fld Z T_1.heap el4 "com/example/reprofield/reprofield/CodedElement" "_oclcSubfield" "C" (.int (101 : Int32)) := (PF_el4__oclcSubfield.keep K_1 nin0)
        have f_40 : Fld Z T_1.heap el5 "com/example/reprofield/reprofield/CodedElement" "_oclcSubfield" "C" (.int (102 : Int32)) := (PF_el5__oclcSubfield.keep K_1 nin0)
        have f_41 : Fld Z T_1.heap el6 "com/example/reprofield/reprofield/CodedElement" "_oclcSubfield" "C" (.int (103 : Int32)) := (PF_el6__oclcSubfield.keep K_1 nin0)
        have f_42 : Exa Z T_1.heap o "java/util/Optional" := (PE_o.keep K_1)
        have f_43 : Keep h0 T_1.heap [] := ((Keep.refl h0 []).trans K_1 all0)
        show Go p e below (FinN s (Q1 Z p1 av kv o el0 el1 el2 el3 el4 el5 el6 h0 n0) ({ frames := 3, cells := 2, slots := 8, locals := 38 } : Room).cells ({ frames := 3, cells := 2, slots := 8, locals := 38 } : Room).slots) T_36 (mkF m 33 #[.val (.int p1), .val (.ref b_1), .val (.int (7 : Int32)), .val (.int (2 : Int32)), .val (.ref el2)] [(.ref b_36)])
        have g_b_36 : n0 ≤ b_36 := Nat.le_trans f_35 sz_b_36
        have ne_av_b_36 : av ≠ b_36 := Nat.ne_of_lt (Nat.lt_of_lt_of_le f_37.lt sz_b_36)
        have ne_el0_b_36 : el0 ≠ b_36 := Nat.ne_of_lt (Nat.lt_of_lt_of_le f_4.lt sz_b_36)
        have ne_el1_b_36 : el1 ≠ b_36 := Nat.ne_of_lt (Nat.lt_of_lt_of_le f_19.lt sz_b_36)
        have ne_el2_b_36 : el2 ≠ b_36 := Nat.ne_of_lt (Nat.lt_of_lt_of_le f_33.lt sz_b_36)
        have ne_el3_b_36 : el3 ≠ b_36 := Nat.ne_of_lt (Nat.lt_of_lt_of_le f_38.lt sz_b_36)
        have ne_el4_b_36 : el4 ≠ b_36 := Nat.ne_of_lt (Nat.lt_of_lt_of_le f_39.lt sz_b_36)
        have ne_el5_b_36 : el5 ≠ b_36 := Nat.ne_of_lt (Nat.lt_of_lt_of_le f_40.lt sz_b_36)
        have ne_el6_b_36 : el6 ≠ b_36 := Nat.ne_of_lt (Nat.lt_of_lt_of_le f_41.lt sz_b_36)
        have ne_o_b_36 : o ≠ b_36 := Nat.ne_of_lt (Nat.lt_of_lt_of_le f_42.lt sz_b_36)
        have ne_b_1_b_36 : b_1 ≠ b_36 := Nat.ne_of_lt (Nat.lt_of_lt_of_le pf_1_0.lt sz_b_36)
        have sz_b_36 : h0.size ≤ b_36 := Nat.le_trans f_43.1 sz_b_36
        refine Go.retA X_36 hx (t := (.object "java/util/Optional")) hret hlk rfl rfl (hb hby d1_33) (by decide) (by decide) ?_
        have f_44 : Keep h0 T_36.heap [] := (f_43.trans K_36 all0)
        show (Q1 Z p1 av kv o el0 el1 el2 el3 el4 el5 el6 h0 n0) _ T_36.heap _
        exact ⟨b_36, rfl, N_36, f_44, pf_36_0, ((own_el_2 nq0 nq1 nq2).symm ▸ pf_36_1)⟩
      · refine Go.to (mkF m 34 #[.val (.int p1), .val (.ref b_1), .val (.int (7 : Int32)), .val (.int (2 : Int32)), .val (.ref el2)] []) (fun _ k => XS.icmpYes X_34.here hx rfl (pc0 := 25) (pc' := 34) rfl (hb hby d1_25) rfl (feq nq2).2 (by decide) (by decide) k) ?_
        refine Go.to (mkF m 37 #[.val (.int p1), .val (.ref b_1), .val (.int (7 : Int32)), .val (.int (3 : Int32)), .val (.ref el2)] []) (fun _ k => XS.iinc X_34.here hx rfl (hb hby d1_34) rfl (l' := #[.val (.int p1), .val (.ref b_1), .val (.int (7 : Int32)), .val (.int (3 : Int32)), .val (.ref el2)]) rfl k) ?_
        refine Go.to (mkF m 9 #[.val (.int p1), .val (.ref b_1), .val (.int (7 : Int32)), .val (.int (3 : Int32)), .val (.ref el2)] []) (fun _ k => XS.goto X_34.here hx rfl (pc0 := 37) (pc' := 9) rfl (hb hby d1_37) (by decide) (by decide) k) ?_
        refine Go.to (mkF m 10 #[.val (.int p1), .val (.ref b_1), .val (.int (7 : Int32)), .val (.int (3 : Int32)), .val (.ref el2)] [(.int (3 : Int32))]) (fun _ k => XS.iloadN X_34.here hx rfl (hb hby d1_9) rfl  k) ?_
        refine Go.to (mkF m 11 #[.val (.int p1), .val (.ref b_1), .val (.int (7 : Int32)), .val (.int (3 : Int32)), .val (.ref el2)] [(.int (7 : Int32)), (.int (3 : Int32))]) (fun _ k => XS.iloadN X_34.here hx rfl (hb hby d1_10) rfl  k) ?_
        refine Go.to (mkF m 14 #[.val (.int p1), .val (.ref b_1), .val (.int (7 : Int32)), .val (.int (3 : Int32)), .val (.ref el2)] []) (fun _ k => XS.icmpNo X_34.here hx rfl (hb hby d1_11) rfl (tlt (by decide : (3 : Int32) < (7 : Int32))).2.1 k) ?_
        refine Go.to (mkF m 15 #[.val (.int p1), .val (.ref b_1), .val (.int (7 : Int32)), .val (.int (3 : Int32)), .val (.ref el2)] [(.ref b_1)]) (fun _ k => XS.aloadN X_34.here hx rfl (hb hby d1_14) rfl rfl k) ?_
        refine Go.to (mkF m 16 #[.val (.int p1), .val (.ref b_1), .val (.int (7 : Int32)), .val (.int (3 : Int32)), .val (.ref el2)] [(.int (3 : Int32)), (.ref b_1)]) (fun _ k => XS.iloadN X_34.here hx rfl (hb hby d1_15) rfl  k) ?_
        obtain ⟨cl_45, Ar_45, -, Sz_45, Ng_45, Hh_45, -⟩ := id pf_1_1
        have hin_45 : ¬ ((3 : Int32) < 0 ∨ cl_45.slots.size ≤ ((3 : Int32)).toNatClampNeg) := inb_of Sz_45 ⟨by decide, by decide⟩
        refine Go.to (mkF m 17 #[.val (.int p1), .val (.ref b_1), .val (.int (7 : Int32)), .val (.int (3 : Int32)), .val (.ref el2)] [(.ref el3)]) (X_34.aaload hx (j := (3 : Int32)) (v := (.ref el3)) (by rw [e_34]; exact Ar_45.1) (State.isArrayOf_alike hZ.alike Ar_45.2.1) rfl Ar_45.2.2 hin_45 (Hh_45.at hin_45 rfl) (g := (mkF m 16 #[.val (.int p1), .val (.ref b_1), .val (.int (7 : Int32)), .val (.int (3 : Int32)), .val (.ref el2)] [(.int (3 : Int32)), (.ref b_1)])) rfl rfl (hb hby d1_16)) ?_
        refine Go.to (mkF m 19 #[.val (.int p1), .val (.ref b_1), .val (.int (7 : Int32)), .val (.int (3 : Int32)), .val (.ref el3)] []) (fun _ k => XS.astore X_34.here hx rfl (hb hby d1_17) rfl rfl (l' := #[.val (.int p1), .val (.ref b_1), .val (.int (7 : Int32)), .val (.int (3 : Int32)), .val (.ref el3)]) rfl k) ?_
        refine Go.to (mkF m 21 #[.val (.int p1), .val (.ref b_1), .val (.int (7 : Int32)), .val (.int (3 : Int32)), .val (.ref el3)] [(.ref el3)]) (fun _ k => XS.aload X_34.here hx rfl (hb hby d1_19) rfl rfl k) ?_
        have f_46 : Fld Z T_1.heap el3 "com/example/reprofield/reprofield/CodedElement" "_oclcSubfield" "C" (.int (100 : Int32)) := (PF_el3__oclcSubfield.keep K_1 nin0)
        obtain ⟨T_47, X_47, e_47, st_47⟩ := getF X_34 hx hZ hown (host := "") (Or.inl (hw _ (List.mem_of_getElem? (i := 25) rfl))) Via.refl e_34 f_46 (g := (mkF m 21 #[.val (.int p1), .val (.ref b_1), .val (.int (7 : Int32)), .val (.int (3 : Int32)), .val (.ref el3)] [(.ref el3)])) rfl rfl (hb hby d1_21)
        refine Go.to (mkF m 24 #[.val (.int p1), .val (.ref b_1), .val (.int (7 : Int32)), .val (.int (3 : Int32)), .val (.ref el3)] [(.int (100 : Int32))]) st_47 ?_
        refine Go.to (mkF m 25 #[.val (.int p1), .val (.ref b_1), .val (.int (7 : Int32)), .val (.int (3 : Int32)), .val (.ref el3)] [(.int p1), (.int (100 : Int32))]) (fun _ k => XS.iloadN X_47.here hx rfl (hb hby d1_24) rfl  k) ?_
        by_cases nq3 : (100 : Int32) = p1
        · refine Go.to (mkF m 28 #[.val (.int p1), .val (.ref b_1), .val (.int (7 : Int32)), .val (.int (3 : Int32)), .val (.ref el3)] []) (fun _ k => XS.icmpNo X_47.here hx rfl (hb hby d1_25) rfl (teq nq3).2 k) ?_
          refine Go.to (mkF m 30 #[.val (.int p1), .val (.ref b_1), .val (.int (7 : Int32)), .val (.int (3 : Int32)), .val (.ref el3)] [(.ref el3)]) (fun _ k => XS.aload X_47.here hx rfl (hb hby d1_28) rfl rfl k) ?_
          have f_48 : n0 ≤ T_1.heap.size := (Nat.le_trans Z0 K_1.1)
          refine Go.stat X_47 hx hZ (y := (⟨"java/util/Optional", "of", "(Ljava/lang/Object;)Ljava/util/Optional;"⟩ : MethodName)) hown (hw _ (List.mem_of_getElem? (i := 44) rfl)) (hw _ (List.mem_of_getElem? (i := 45) rfl)) (hw _ (List.mem_of_getElem? (i := 30) rfl)) (hw _ (List.mem_of_getElem? (i := 46) rfl)) (by decide) e_47 (argsL := [(.ref el3)]) (rest := []) (Met1.back (W := 0) (rm6 l Z a0 hw el3 T_1.heap n0 f_48) hZ (hw _ (List.mem_of_getElem? (i := 46) rfl)) (hw _ (List.mem_of_getElem? (i := 30) rfl)) (by decide) (by decide)) (pc := 30) (Ls := #[.val (.int p1), .val (.ref b_1), .val (.int (7 : Int32)), .val (.int (3 : Int32)), .val (.ref el3)]) (by rw [hml]; rfl) (lenOf own_pd3 rfl) rfl (Nat.le_refl _) (hb hby d1_30) (by decide) (by decide) ?_
          intro T_49 v_49 L_49 X_49 hQ_49
          obtain ⟨b_49, rfl, Nq_49, K_49, pf_49_0, pf_49_1, sz_b_49⟩ := hQ_49
          have N_49 := Fr.app N_1 Nq_49
          have f_50 : Exa Z T_1.heap av "[Lcom/example/reprofield/reprofield/CodedElement;" := (PE_av.keep K_1)
          have f_51 : Fld Z T_1.heap el4 "com/example/reprofield/reprofield/CodedElement" "_oclcSubfield" "C" (.int (101 : Int32)) := (PF_el4__oclcSubfield.keep K_1 nin0)
          have f_52 : Fld Z T_1.heap el5 "com/example/reprofield/reprofield/CodedElement" "_oclcSubfield" "C" (.int (102 : Int32)) := (PF_el5__oclcSubfield.keep K_1 nin0)
          have f_53 : Fld Z T_1.heap el6 "com/example/reprofield/reprofield/CodedElement" "_oclcSubfield" "C" (.int (103 : Int32)) := (PF_el6__oclcSubfield.keep K_1 nin0)
          have f_54 : Exa Z T_1.heap o "java/util/Optional" := (PE_o.keep K_1)
          have f_55 : Keep h0 T_1.heap [] := ((Keep.refl h0 []).trans K_1 all0)
          show Go p e below (FinN s (Q1 Z p1 av kv o el0 el1 el2 el3 el4 el5 el6 h0 n0) ({ frames := 3, cells := 2, slots := 8, locals := 38 } : Room).cells ({ frames := 3, cells := 2, slots := 8, locals := 38 } : Room).slots) T_49 (mkF m 33 #[.val (.int p1), .val (.ref b_1), .val (.int (7 : Int32)), .val (.int (3 : Int32)), .val (.ref el3)] [(.ref b_49)])
          have g_b_49 : n0 ≤ b_49 := Nat.le_trans f_48 sz_b_49
          have ne_av_b_49 : av ≠ b_49 := Nat.ne_of_lt (Nat.lt_of_lt_of_le f_50.lt sz_b_49)
          have ne_el0_b_49 : el0 ≠ b_49 := Nat.ne_of_lt (Nat.lt_of_lt_of_le f_4.lt sz_b_49)
          have ne_el1_b_49 : el1 ≠ b_49 := Nat.ne_of_lt (Nat.lt_of_lt_of_le f_19.lt sz_b_49)
          have ne_el2_b_49 : el2 ≠ b_49 := Nat.ne_of_lt (Nat.lt_of_lt_of_le f_33.lt sz_b_49)
          have ne_el3_b_49 : el3 ≠ b_49 := Nat.ne_of_lt (Nat.lt_of_lt_of_le f_46.lt sz_b_49)
          have ne_el4_b_49 : el4 ≠ b_49 := Nat.ne_of_lt (Nat.lt_of_lt_of_le f_51.lt sz_b_49)
          have ne_el5_b_49 : el5 ≠ b_49 := Nat.ne_of_lt (Nat.lt_of_lt_of_le f_52.lt sz_b_49)
          have ne_el6_b_49 : el6 ≠ b_49 := Nat.ne_of_lt (Nat.lt_of_lt_of_le f_53.lt sz_b_49)
          have ne_o_b_49 : o ≠ b_49 := Nat.ne_of_lt (Nat.lt_of_lt_of_le f_54.lt sz_b_49)
          have ne_b_1_b_49 : b_1 ≠ b_49 := Nat.ne_of_lt (Nat.lt_of_lt_of_le pf_1_0.lt sz_b_49)
          have sz_b_49 : h0.size ≤ b_49 := Nat.le_trans f_55.1 sz_b_49
          refine Go.retA X_49 hx (t := (.object "java/util/Optional")) hret hlk rfl rfl (hb hby d1_33) (by decide) (by decide) ?_
          have f_56 : Keep h0 T_49.heap [] := (f_55.trans K_49 all0)
          show (Q1 Z p1 av kv o el0 el1 el2 el3 el4 el5 el6 h0 n0) _ T_49.heap _
          exact ⟨b_49, rfl, N_49, f_56, pf_49_0, ((own_el_3 nq0 nq1 nq2 nq3).symm ▸ pf_49_1)⟩
        · refine Go.to (mkF m 34 #[.val (.int p1), .val (.ref b_1), .val (.int (7 : Int32)), .val (.int (3 : Int32)), .val (.ref el3)] []) (fun _ k => XS.icmpYes X_47.here hx rfl (pc0 := 25) (pc' := 34) rfl (hb hby d1_25) rfl (feq nq3).2 (by decide) (by decide) k) ?_
          refine Go.to (mkF m 37 #[.val (.int p1), .val (.ref b_1), .val (.int (7 : Int32)), .val (.int (4 : Int32)), .val (.ref el3)] []) (fun _ k => XS.iinc X_47.here hx rfl (hb hby d1_34) rfl (l' := #[.val (.int p1), .val (.ref b_1), .val (.int (7 : Int32)), .val (.int (4 : Int32)), .val (.ref el3)]) rfl k) ?_
          refine Go.to (mkF m 9 #[.val (.int p1), .val (.ref b_1), .val (.int (7 : Int32)), .val (.int (4 : Int32)), .val (.ref el3)] []) (fun _ k => XS.goto X_47.here hx rfl (pc0 := 37) (pc' := 9) rfl (hb hby d1_37) (by decide) (by decide) k) ?_
          refine Go.to (mkF m 10 #[.val (.int p1), .val (.ref b_1), .val (.int (7 : Int32)), .val (.int (4 : Int32)), .val (.ref el3)] [(.int (4 : Int32))]) (fun _ k => XS.iloadN X_47.here hx rfl (hb hby d1_9) rfl  k) ?_
          refine Go.to (mkF m 11 #[.val (.int p1), .val (.ref b_1), .val (.int (7 : Int32)), .val (.int (4 : Int32)), .val (.ref el3)] [(.int (7 : Int32)), (.int (4 : Int32))]) (fun _ k => XS.iloadN X_47.here hx rfl (hb hby d1_10) rfl  k) ?_
          refine Go.to (mkF m 14 #[.val (.int p1), .val (.ref b_1), .val (.int (7 : Int32)), .val (.int (4 : Int32)), .val (.ref el3)] []) (fun _ k => XS.icmpNo X_47.here hx rfl (hb hby d1_11) rfl (tlt (by decide : (4 : Int32) < (7 : Int32))).2.1 k) ?_
          refine Go.to (mkF m 15 #[.val (.int p1), .val (.ref b_1), .val (.int (7 : Int32)), .val (.int (4 : Int32)), .val (.ref el3)] [(.ref b_1)]) (fun _ k => XS.aloadN X_47.here hx rfl (hb hby d1_14) rfl rfl k) ?_
          refine Go.to (mkF m 16 #[.val (.int p1), .val (.ref b_1), .val (.int (7 : Int32)), .val (.int (4 : Int32)), .val (.ref el3)] [(.int (4 : Int32)), (.ref b_1)]) (fun _ k => XS.iloadN X_47.here hx rfl (hb hby d1_15) rfl  k) ?_
          obtain ⟨cl_57, Ar_57, -, Sz_57, Ng_57, Hh_57, -⟩ := id pf_1_1
          have hin_57 : ¬ ((4 : Int32) < 0 ∨ cl_57.slots.size ≤ ((4 : Int32)).toNatClampNeg) := inb_of Sz_57 ⟨by decide, by decide⟩
          refine Go.to (mkF m 17 #[.val (.int p1), .val (.ref b_1), .val (.int (7 : Int32)), .val (.int (4 : Int32)), .val (.ref el3)] [(.ref el4)]) (X_47.aaload hx (j := (4 : Int32)) (v := (.ref el4)) (by rw [e_47]; exact Ar_57.1) (State.isArrayOf_alike hZ.alike Ar_57.2.1) rfl Ar_57.2.2 hin_57 (Hh_57.at hin_57 rfl) (g := (mkF m 16 #[.val (.int p1), .val (.ref b_1), .val (.int (7 : Int32)), .val (.int (4 : Int32)), .val (.ref el3)] [(.int (4 : Int32)), (.ref b_1)])) rfl rfl (hb hby d1_16)) ?_
          refine Go.to (mkF m 19 #[.val (.int p1), .val (.ref b_1), .val (.int (7 : Int32)), .val (.int (4 : Int32)), .val (.ref el4)] []) (fun _ k => XS.astore X_47.here hx rfl (hb hby d1_17) rfl rfl (l' := #[.val (.int p1), .val (.ref b_1), .val (.int (7 : Int32)), .val (.int (4 : Int32)), .val (.ref el4)]) rfl k) ?_
          refine Go.to (mkF m 21 #[.val (.int p1), .val (.ref b_1), .val (.int (7 : Int32)), .val (.int (4 : Int32)), .val (.ref el4)] [(.ref el4)]) (fun _ k => XS.aload X_47.here hx rfl (hb hby d1_19) rfl rfl k) ?_
          have f_58 : Fld Z T_1.heap el4 "com/example/reprofield/reprofield/CodedElement" "_oclcSubfield" "C" (.int (101 : Int32)) := (PF_el4__oclcSubfield.keep K_1 nin0)
          obtain ⟨T_59, X_59, e_59, st_59⟩ := getF X_47 hx hZ hown (host := "") (Or.inl (hw _ (List.mem_of_getElem? (i := 25) rfl))) Via.refl e_47 f_58 (g := (mkF m 21 #[.val (.int p1), .val (.ref b_1), .val (.int (7 : Int32)), .val (.int (4 : Int32)), .val (.ref el4)] [(.ref el4)])) rfl rfl (hb hby d1_21)
          refine Go.to (mkF m 24 #[.val (.int p1), .val (.ref b_1), .val (.int (7 : Int32)), .val (.int (4 : Int32)), .val (.ref el4)] [(.int (101 : Int32))]) st_59 ?_
          refine Go.to (mkF m 25 #[.val (.int p1), .val (.ref b_1), .val (.int (7 : Int32)), .val (.int (4 : Int32)), .val (.ref el4)] [(.int p1), (.int (101 : Int32))]) (fun _ k => XS.iloadN X_59.here hx rfl (hb hby d1_24) rfl  k) ?_
          by_cases nq4 : (101 : Int32) = p1
          · refine Go.to (mkF m 28 #[.val (.int p1), .val (.ref b_1), .val (.int (7 : Int32)), .val (.int (4 : Int32)), .val (.ref el4)] []) (fun _ k => XS.icmpNo X_59.here hx rfl (hb hby d1_25) rfl (teq nq4).2 k) ?_
            refine Go.to (mkF m 30 #[.val (.int p1), .val (.ref b_1), .val (.int (7 : Int32)), .val (.int (4 : Int32)), .val (.ref el4)] [(.ref el4)]) (fun _ k => XS.aload X_59.here hx rfl (hb hby d1_28) rfl rfl k) ?_
            have f_60 : n0 ≤ T_1.heap.size := (Nat.le_trans Z0 K_1.1)
            refine Go.stat X_59 hx hZ (y := (⟨"java/util/Optional", "of", "(Ljava/lang/Object;)Ljava/util/Optional;"⟩ : MethodName)) hown (hw _ (List.mem_of_getElem? (i := 44) rfl)) (hw _ (List.mem_of_getElem? (i := 45) rfl)) (hw _ (List.mem_of_getElem? (i := 30) rfl)) (hw _ (List.mem_of_getElem? (i := 46) rfl)) (by decide) e_59 (argsL := [(.ref el4)]) (rest := []) (Met1.back (W := 0) (rm6 l Z a0 hw el4 T_1.heap n0 f_60) hZ (hw _ (List.mem_of_getElem? (i := 46) rfl)) (hw _ (List.mem_of_getElem? (i := 30) rfl)) (by decide) (by decide)) (pc := 30) (Ls := #[.val (.int p1), .val (.ref b_1), .val (.int (7 : Int32)), .val (.int (4 : Int32)), .val (.ref el4)]) (by rw [hml]; rfl) (lenOf own_pd3 rfl) rfl (Nat.le_refl _) (hb hby d1_30) (by decide) (by decide) ?_
            intro T_61 v_61 L_61 X_61 hQ_61
            obtain ⟨b_61, rfl, Nq_61, K_61, pf_61_0, pf_61_1, sz_b_61⟩ := hQ_61
            have N_61 := Fr.app N_1 Nq_61
            have f_62 : Exa Z T_1.heap av "[Lcom/example/reprofield/reprofield/CodedElement;" := (PE_av.keep K_1)
            have f_63 : Fld Z T_1.heap el5 "com/example/reprofield/reprofield/CodedElement" "_oclcSubfield" "C" (.int (102 : Int32)) := (PF_el5__oclcSubfield.keep K_1 nin0)
            have f_64 : Fld Z T_1.heap el6 "com/example/reprofield/reprofield/CodedElement" "_oclcSubfield" "C" (.int (103 : Int32)) := (PF_el6__oclcSubfield.keep K_1 nin0)
            have f_65 : Exa Z T_1.heap o "java/util/Optional" := (PE_o.keep K_1)
            have f_66 : Keep h0 T_1.heap [] := ((Keep.refl h0 []).trans K_1 all0)
            show Go p e below (FinN s (Q1 Z p1 av kv o el0 el1 el2 el3 el4 el5 el6 h0 n0) ({ frames := 3, cells := 2, slots := 8, locals := 38 } : Room).cells ({ frames := 3, cells := 2, slots := 8, locals := 38 } : Room).slots) T_61 (mkF m 33 #[.val (.int p1), .val (.ref b_1), .val (.int (7 : Int32)), .val (.int (4 : Int32)), .val (.ref el4)] [(.ref b_61)])
            have g_b_61 : n0 ≤ b_61 := Nat.le_trans f_60 sz_b_61
            have ne_av_b_61 : av ≠ b_61 := Nat.ne_of_lt (Nat.lt_of_lt_of_le f_62.lt sz_b_61)
            have ne_el0_b_61 : el0 ≠ b_61 := Nat.ne_of_lt (Nat.lt_of_lt_of_le f_4.lt sz_b_61)
            have ne_el1_b_61 : el1 ≠ b_61 := Nat.ne_of_lt (Nat.lt_of_lt_of_le f_19.lt sz_b_61)
            have ne_el2_b_61 : el2 ≠ b_61 := Nat.ne_of_lt (Nat.lt_of_lt_of_le f_33.lt sz_b_61)
            have ne_el3_b_61 : el3 ≠ b_61 := Nat.ne_of_lt (Nat.lt_of_lt_of_le f_46.lt sz_b_61)
            have ne_el4_b_61 : el4 ≠ b_61 := Nat.ne_of_lt (Nat.lt_of_lt_of_le f_58.lt sz_b_61)
            have ne_el5_b_61 : el5 ≠ b_61 := Nat.ne_of_lt (Nat.lt_of_lt_of_le f_63.lt sz_b_61)
            have ne_el6_b_61 : el6 ≠ b_61 := Nat.ne_of_lt (Nat.lt_of_lt_of_le f_64.lt sz_b_61)
            have ne_o_b_61 : o ≠ b_61 := Nat.ne_of_lt (Nat.lt_of_lt_of_le f_65.lt sz_b_61)
            have ne_b_1_b_61 : b_1 ≠ b_61 := Nat.ne_of_lt (Nat.lt_of_lt_of_le pf_1_0.lt sz_b_61)
            have sz_b_61 : h0.size ≤ b_61 := Nat.le_trans f_66.1 sz_b_61
            refine Go.retA X_61 hx (t := (.object "java/util/Optional")) hret hlk rfl rfl (hb hby d1_33) (by decide) (by decide) ?_
            have f_67 : Keep h0 T_61.heap [] := (f_66.trans K_61 all0)
            show (Q1 Z p1 av kv o el0 el1 el2 el3 el4 el5 el6 h0 n0) _ T_61.heap _
            exact ⟨b_61, rfl, N_61, f_67, pf_61_0, ((own_el_4 nq0 nq1 nq2 nq3 nq4).symm ▸ pf_61_1)⟩
          · refine Go.to (mkF m 34 #[.val (.int p1), .val (.ref b_1), .val (.int (7 : Int32)), .val (.int (4 : Int32)), .val (.ref el4)] []) (fun _ k => XS.icmpYes X_59.here hx rfl (pc0 := 25) (pc' := 34) rfl (hb hby d1_25) rfl (feq nq4).2 (by decide) (by decide) k) ?_
            refine Go.to (mkF m 37 #[.val (.int p1), .val (.ref b_1), .val (.int (7 : Int32)), .val (.int (5 : Int32)), .val (.ref el4)] []) (fun _ k => XS.iinc X_59.here hx rfl (hb hby d1_34) rfl (l' := #[.val (.int p1), .val (.ref b_1), .val (.int (7 : Int32)), .val (.int (5 : Int32)), .val (.ref el4)]) rfl k) ?_
            refine Go.to (mkF m 9 #[.val (.int p1), .val (.ref b_1), .val (.int (7 : Int32)), .val (.int (5 : Int32)), .val (.ref el4)] []) (fun _ k => XS.goto X_59.here hx rfl (pc0 := 37) (pc' := 9) rfl (hb hby d1_37) (by decide) (by decide) k) ?_
            refine Go.to (mkF m 10 #[.val (.int p1), .val (.ref b_1), .val (.int (7 : Int32)), .val (.int (5 : Int32)), .val (.ref el4)] [(.int (5 : Int32))]) (fun _ k => XS.iloadN X_59.here hx rfl (hb hby d1_9) rfl  k) ?_
            refine Go.to (mkF m 11 #[.val (.int p1), .val (.ref b_1), .val (.int (7 : Int32)), .val (.int (5 : Int32)), .val (.ref el4)] [(.int (7 : Int32)), (.int (5 : Int32))]) (fun _ k => XS.iloadN X_59.here hx rfl (hb hby d1_10) rfl  k) ?_
            refine Go.to (mkF m 14 #[.val (.int p1), .val (.ref b_1), .val (.int (7 : Int32)), .val (.int (5 : Int32)), .val (.ref el4)] []) (fun _ k => XS.icmpNo X_59.here hx rfl (hb hby d1_11) rfl (tlt (by decide : (5 : Int32) < (7 : Int32))).2.1 k) ?_
            refine Go.to (mkF m 15 #[.val (.int p1), .val (.ref b_1), .val (.int (7 : Int32)), .val (.int (5 : Int32)), .val (.ref el4)] [(.ref b_1)]) (fun _ k => XS.aloadN X_59.here hx rfl (hb hby d1_14) rfl rfl k) ?_
            refine Go.to (mkF m 16 #[.val (.int p1), .val (.ref b_1), .val (.int (7 : Int32)), .val (.int (5 : Int32)), .val (.ref el4)] [(.int (5 : Int32)), (.ref b_1)]) (fun _ k => XS.iloadN X_59.here hx rfl (hb hby d1_15) rfl  k) ?_
            obtain ⟨cl_68, Ar_68, -, Sz_68, Ng_68, Hh_68, -⟩ := id pf_1_1
            have hin_68 : ¬ ((5 : Int32) < 0 ∨ cl_68.slots.size ≤ ((5 : Int32)).toNatClampNeg) := inb_of Sz_68 ⟨by decide, by decide⟩
            refine Go.to (mkF m 17 #[.val (.int p1), .val (.ref b_1), .val (.int (7 : Int32)), .val (.int (5 : Int32)), .val (.ref el4)] [(.ref el5)]) (X_59.aaload hx (j := (5 : Int32)) (v := (.ref el5)) (by rw [e_59]; exact Ar_68.1) (State.isArrayOf_alike hZ.alike Ar_68.2.1) rfl Ar_68.2.2 hin_68 (Hh_68.at hin_68 rfl) (g := (mkF m 16 #[.val (.int p1), .val (.ref b_1), .val (.int (7 : Int32)), .val (.int (5 : Int32)), .val (.ref el4)] [(.int (5 : Int32)), (.ref b_1)])) rfl rfl (hb hby d1_16)) ?_
            refine Go.to (mkF m 19 #[.val (.int p1), .val (.ref b_1), .val (.int (7 : Int32)), .val (.int (5 : Int32)), .val (.ref el5)] []) (fun _ k => XS.astore X_59.here hx rfl (hb hby d1_17) rfl rfl (l' := #[.val (.int p1), .val (.ref b_1), .val (.int (7 : Int32)), .val (.int (5 : Int32)), .val (.ref el5)]) rfl k) ?_
            refine Go.to (mkF m 21 #[.val (.int p1), .val (.ref b_1), .val (.int (7 : Int32)), .val (.int (5 : Int32)), .val (.ref el5)] [(.ref el5)]) (fun _ k => XS.aload X_59.here hx rfl (hb hby d1_19) rfl rfl k) ?_
            have f_69 : Fld Z T_1.heap el5 "com/example/reprofield/reprofield/CodedElement" "_oclcSubfield" "C" (.int (102 : Int32)) := (PF_el5__oclcSubfield.keep K_1 nin0)
            obtain ⟨T_70, X_70, e_70, st_70⟩ := getF X_59 hx hZ hown (host := "") (Or.inl (hw _ (List.mem_of_getElem? (i := 25) rfl))) Via.refl e_59 f_69 (g := (mkF m 21 #[.val (.int p1), .val (.ref b_1), .val (.int (7 : Int32)), .val (.int (5 : Int32)), .val (.ref el5)] [(.ref el5)])) rfl rfl (hb hby d1_21)
            refine Go.to (mkF m 24 #[.val (.int p1), .val (.ref b_1), .val (.int (7 : Int32)), .val (.int (5 : Int32)), .val (.ref el5)] [(.int (102 : Int32))]) st_70 ?_
            refine Go.to (mkF m 25 #[.val (.int p1), .val (.ref b_1), .val (.int (7 : Int32)), .val (.int (5 : Int32)), .val (.ref el5)] [(.int p1), (.int (102 : Int32))]) (fun _ k => XS.iloadN X_70.here hx rfl (hb hby d1_24) rfl  k) ?_
            by_cases nq5 : (102 : Int32) = p1
            · refine Go.to (mkF m 28 #[.val (.int p1), .val (.ref b_1), .val (.int (7 : Int32)), .val (.int (5 : Int32)), .val (.ref el5)] []) (fun _ k => XS.icmpNo X_70.here hx rfl (hb hby d1_25) rfl (teq nq5).2 k) ?_
              refine Go.to (mkF m 30 #[.val (.int p1), .val (.ref b_1), .val (.int (7 : Int32)), .val (.int (5 : Int32)), .val (.ref el5)] [(.ref el5)]) (fun _ k => XS.aload X_70.here hx rfl (hb hby d1_28) rfl rfl k) ?_
              have f_71 : n0 ≤ T_1.heap.size := (Nat.le_trans Z0 K_1.1)
              refine Go.stat X_70 hx hZ (y := (⟨"java/util/Optional", "of", "(Ljava/lang/Object;)Ljava/util/Optional;"⟩ : MethodName)) hown (hw _ (List.mem_of_getElem? (i := 44) rfl)) (hw _ (List.mem_of_getElem? (i := 45) rfl)) (hw _ (List.mem_of_getElem? (i := 30) rfl)) (hw _ (List.mem_of_getElem? (i := 46) rfl)) (by decide) e_70 (argsL := [(.ref el5)]) (rest := []) (Met1.back (W := 0) (rm6 l Z a0 hw el5 T_1.heap n0 f_71) hZ (hw _ (List.mem_of_getElem? (i := 46) rfl)) (hw _ (List.mem_of_getElem? (i := 30) rfl)) (by decide) (by decide)) (pc := 30) (Ls := #[.val (.int p1), .val (.ref b_1), .val (.int (7 : Int32)), .val (.int (5 : Int32)), .val (.ref el5)]) (by rw [hml]; rfl) (lenOf own_pd3 rfl) rfl (Nat.le_refl _) (hb hby d1_30) (by decide) (by decide) ?_
              intro T_72 v_72 L_72 X_72 hQ_72
              obtain ⟨b_72, rfl, Nq_72, K_72, pf_72_0, pf_72_1, sz_b_72⟩ := hQ_72
              have N_72 := Fr.app N_1 Nq_72
              have f_73 : Exa Z T_1.heap av "[Lcom/example/reprofield/reprofield/CodedElement;" := (PE_av.keep K_1)
              have f_74 : Fld Z T_1.heap el6 "com/example/reprofield/reprofield/CodedElement" "_oclcSubfield" "C" (.int (103 : Int32)) := (PF_el6__oclcSubfield.keep K_1 nin0)
              have f_75 : Exa Z T_1.heap o "java/util/Optional" := (PE_o.keep K_1)
              have f_76 : Keep h0 T_1.heap [] := ((Keep.refl h0 []).trans K_1 all0)
              show Go p e below (FinN s (Q1 Z p1 av kv o el0 el1 el2 el3 el4 el5 el6 h0 n0) ({ frames := 3, cells := 2, slots := 8, locals := 38 } : Room).cells ({ frames := 3, cells := 2, slots := 8, locals := 38 } : Room).slots) T_72 (mkF m 33 #[.val (.int p1), .val (.ref b_1), .val (.int (7 : Int32)), .val (.int (5 : Int32)), .val (.ref el5)] [(.ref b_72)])
              have g_b_72 : n0 ≤ b_72 := Nat.le_trans f_71 sz_b_72
              have ne_av_b_72 : av ≠ b_72 := Nat.ne_of_lt (Nat.lt_of_lt_of_le f_73.lt sz_b_72)
              have ne_el0_b_72 : el0 ≠ b_72 := Nat.ne_of_lt (Nat.lt_of_lt_of_le f_4.lt sz_b_72)
              have ne_el1_b_72 : el1 ≠ b_72 := Nat.ne_of_lt (Nat.lt_of_lt_of_le f_19.lt sz_b_72)
              have ne_el2_b_72 : el2 ≠ b_72 := Nat.ne_of_lt (Nat.lt_of_lt_of_le f_33.lt sz_b_72)
              have ne_el3_b_72 : el3 ≠ b_72 := Nat.ne_of_lt (Nat.lt_of_lt_of_le f_46.lt sz_b_72)
              have ne_el4_b_72 : el4 ≠ b_72 := Nat.ne_of_lt (Nat.lt_of_lt_of_le f_58.lt sz_b_72)
              have ne_el5_b_72 : el5 ≠ b_72 := Nat.ne_of_lt (Nat.lt_of_lt_of_le f_69.lt sz_b_72)
              have ne_el6_b_72 : el6 ≠ b_72 := Nat.ne_of_lt (Nat.lt_of_lt_of_le f_74.lt sz_b_72)
              have ne_o_b_72 : o ≠ b_72 := Nat.ne_of_lt (Nat.lt_of_lt_of_le f_75.lt sz_b_72)
              have ne_b_1_b_72 : b_1 ≠ b_72 := Nat.ne_of_lt (Nat.lt_of_lt_of_le pf_1_0.lt sz_b_72)
              have sz_b_72 : h0.size ≤ b_72 := Nat.le_trans f_76.1 sz_b_72
              refine Go.retA X_72 hx (t := (.object "java/util/Optional")) hret hlk rfl rfl (hb hby d1_33) (by decide) (by decide) ?_
              have f_77 : Keep h0 T_72.heap [] := (f_76.trans K_72 all0)
              show (Q1 Z p1 av kv o el0 el1 el2 el3 el4 el5 el6 h0 n0) _ T_72.heap _
              exact ⟨b_72, rfl, N_72, f_77, pf_72_0, ((own_el_5 nq0 nq1 nq2 nq3 nq4 nq5).symm ▸ pf_72_1)⟩
            · refine Go.to (mkF m 34 #[.val (.int p1), .val (.ref b_1), .val (.int (7 : Int32)), .val (.int (5 : Int32)), .val (.ref el5)] []) (fun _ k => XS.icmpYes X_70.here hx rfl (pc0 := 25) (pc' := 34) rfl (hb hby d1_25) rfl (feq nq5).2 (by decide) (by decide) k) ?_
              refine Go.to (mkF m 37 #[.val (.int p1), .val (.ref b_1), .val (.int (7 : Int32)), .val (.int (6 : Int32)), .val (.ref el5)] []) (fun _ k => XS.iinc X_70.here hx rfl (hb hby d1_34) rfl (l' := #[.val (.int p1), .val (.ref b_1), .val (.int (7 : Int32)), .val (.int (6 : Int32)), .val (.ref el5)]) rfl k) ?_
              refine Go.to (mkF m 9 #[.val (.int p1), .val (.ref b_1), .val (.int (7 : Int32)), .val (.int (6 : Int32)), .val (.ref el5)] []) (fun _ k => XS.goto X_70.here hx rfl (pc0 := 37) (pc' := 9) rfl (hb hby d1_37) (by decide) (by decide) k) ?_
              refine Go.to (mkF m 10 #[.val (.int p1), .val (.ref b_1), .val (.int (7 : Int32)), .val (.int (6 : Int32)), .val (.ref el5)] [(.int (6 : Int32))]) (fun _ k => XS.iloadN X_70.here hx rfl (hb hby d1_9) rfl  k) ?_
              refine Go.to (mkF m 11 #[.val (.int p1), .val (.ref b_1), .val (.int (7 : Int32)), .val (.int (6 : Int32)), .val (.ref el5)] [(.int (7 : Int32)), (.int (6 : Int32))]) (fun _ k => XS.iloadN X_70.here hx rfl (hb hby d1_10) rfl  k) ?_
              refine Go.to (mkF m 14 #[.val (.int p1), .val (.ref b_1), .val (.int (7 : Int32)), .val (.int (6 : Int32)), .val (.ref el5)] []) (fun _ k => XS.icmpNo X_70.here hx rfl (hb hby d1_11) rfl (tlt (by decide : (6 : Int32) < (7 : Int32))).2.1 k) ?_
              refine Go.to (mkF m 15 #[.val (.int p1), .val (.ref b_1), .val (.int (7 : Int32)), .val (.int (6 : Int32)), .val (.ref el5)] [(.ref b_1)]) (fun _ k => XS.aloadN X_70.here hx rfl (hb hby d1_14) rfl rfl k) ?_
              refine Go.to (mkF m 16 #[.val (.int p1), .val (.ref b_1), .val (.int (7 : Int32)), .val (.int (6 : Int32)), .val (.ref el5)] [(.int (6 : Int32)), (.ref b_1)]) (fun _ k => XS.iloadN X_70.here hx rfl (hb hby d1_15) rfl  k) ?_
              obtain ⟨cl_78, Ar_78, -, Sz_78, Ng_78, Hh_78, -⟩ := id pf_1_1
              have hin_78 : ¬ ((6 : Int32) < 0 ∨ cl_78.slots.size ≤ ((6 : Int32)).toNatClampNeg) := inb_of Sz_78 ⟨by decide, by decide⟩
              refine Go.to (mkF m 17 #[.val (.int p1), .val (.ref b_1), .val (.int (7 : Int32)), .val (.int (6 : Int32)), .val (.ref el5)] [(.ref el6)]) (X_70.aaload hx (j := (6 : Int32)) (v := (.ref el6)) (by rw [e_70]; exact Ar_78.1) (State.isArrayOf_alike hZ.alike Ar_78.2.1) rfl Ar_78.2.2 hin_78 (Hh_78.at hin_78 rfl) (g := (mkF m 16 #[.val (.int p1), .val (.ref b_1), .val (.int (7 : Int32)), .val (.int (6 : Int32)), .val (.ref el5)] [(.int (6 : Int32)), (.ref b_1)])) rfl rfl (hb hby d1_16)) ?_
              refine Go.to (mkF m 19 #[.val (.int p1), .val (.ref b_1), .val (.int (7 : Int32)), .val (.int (6 : Int32)), .val (.ref el6)] []) (fun _ k => XS.astore X_70.here hx rfl (hb hby d1_17) rfl rfl (l' := #[.val (.int p1), .val (.ref b_1), .val (.int (7 : Int32)), .val (.int (6 : Int32)), .val (.ref el6)]) rfl k) ?_
              refine Go.to (mkF m 21 #[.val (.int p1), .val (.ref b_1), .val (.int (7 : Int32)), .val (.int (6 : Int32)), .val (.ref el6)] [(.ref el6)]) (fun _ k => XS.aload X_70.here hx rfl (hb hby d1_19) rfl rfl k) ?_
              have f_79 : Fld Z T_1.heap el6 "com/example/reprofield/reprofield/CodedElement" "_oclcSubfield" "C" (.int (103 : Int32)) := (PF_el6__oclcSubfield.keep K_1 nin0)
              obtain ⟨T_80, X_80, e_80, st_80⟩ := getF X_70 hx hZ hown (host := "") (Or.inl (hw _ (List.mem_of_getElem? (i := 25) rfl))) Via.refl e_70 f_79 (g := (mkF m 21 #[.val (.int p1), .val (.ref b_1), .val (.int (7 : Int32)), .val (.int (6 : Int32)), .val (.ref el6)] [(.ref el6)])) rfl rfl (hb hby d1_21)
              refine Go.to (mkF m 24 #[.val (.int p1), .val (.ref b_1), .val (.int (7 : Int32)), .val (.int (6 : Int32)), .val (.ref el6)] [(.int (103 : Int32))]) st_80 ?_
              refine Go.to (mkF m 25 #[.val (.int p1), .val (.ref b_1), .val (.int (7 : Int32)), .val (.int (6 : Int32)), .val (.ref el6)] [(.int p1), (.int (103 : Int32))]) (fun _ k => XS.iloadN X_80.here hx rfl (hb hby d1_24) rfl  k) ?_
              by_cases nq6 : (103 : Int32) = p1
              · refine Go.to (mkF m 28 #[.val (.int p1), .val (.ref b_1), .val (.int (7 : Int32)), .val (.int (6 : Int32)), .val (.ref el6)] []) (fun _ k => XS.icmpNo X_80.here hx rfl (hb hby d1_25) rfl (teq nq6).2 k) ?_
                refine Go.to (mkF m 30 #[.val (.int p1), .val (.ref b_1), .val (.int (7 : Int32)), .val (.int (6 : Int32)), .val (.ref el6)] [(.ref el6)]) (fun _ k => XS.aload X_80.here hx rfl (hb hby d1_28) rfl rfl k) ?_
                have f_81 : n0 ≤ T_1.heap.size := (Nat.le_trans Z0 K_1.1)
                refine Go.stat X_80 hx hZ (y := (⟨"java/util/Optional", "of", "(Ljava/lang/Object;)Ljava/util/Optional;"⟩ : MethodName)) hown (hw _ (List.mem_of_getElem? (i := 44) rfl)) (hw _ (List.mem_of_getElem? (i := 45) rfl)) (hw _ (List.mem_of_getElem? (i := 30) rfl)) (hw _ (List.mem_of_getElem? (i := 46) rfl)) (by decide) e_80 (argsL := [(.ref el6)]) (rest := []) (Met1.back (W := 0) (rm6 l Z a0 hw el6 T_1.heap n0 f_81) hZ (hw _ (List.mem_of_getElem? (i := 46) rfl)) (hw _ (List.mem_of_getElem? (i := 30) rfl)) (by decide) (by decide)) (pc := 30) (Ls := #[.val (.int p1), .val (.ref b_1), .val (.int (7 : Int32)), .val (.int (6 : Int32)), .val (.ref el6)]) (by rw [hml]; rfl) (lenOf own_pd3 rfl) rfl (Nat.le_refl _) (hb hby d1_30) (by decide) (by decide) ?_
                intro T_82 v_82 L_82 X_82 hQ_82
                obtain ⟨b_82, rfl, Nq_82, K_82, pf_82_0, pf_82_1, sz_b_82⟩ := hQ_82
                have N_82 := Fr.app N_1 Nq_82
                have f_83 : Exa Z T_1.heap av "[Lcom/example/reprofield/reprofield/CodedElement;" := (PE_av.keep K_1)
                have f_84 : Exa Z T_1.heap o "java/util/Optional" := (PE_o.keep K_1)
                have f_85 : Keep h0 T_1.heap [] := ((Keep.refl h0 []).trans K_1 all0)
                show Go p e below (FinN s (Q1 Z p1 av kv o el0 el1 el2 el3 el4 el5 el6 h0 n0) ({ frames := 3, cells := 2, slots := 8, locals := 38 } : Room).cells ({ frames := 3, cells := 2, slots := 8, locals := 38 } : Room).slots) T_82 (mkF m 33 #[.val (.int p1), .val (.ref b_1), .val (.int (7 : Int32)), .val (.int (6 : Int32)), .val (.ref el6)] [(.ref b_82)])
                have g_b_82 : n0 ≤ b_82 := Nat.le_trans f_81 sz_b_82
                have ne_av_b_82 : av ≠ b_82 := Nat.ne_of_lt (Nat.lt_of_lt_of_le f_83.lt sz_b_82)
                have ne_el0_b_82 : el0 ≠ b_82 := Nat.ne_of_lt (Nat.lt_of_lt_of_le f_4.lt sz_b_82)
                have ne_el1_b_82 : el1 ≠ b_82 := Nat.ne_of_lt (Nat.lt_of_lt_of_le f_19.lt sz_b_82)
                have ne_el2_b_82 : el2 ≠ b_82 := Nat.ne_of_lt (Nat.lt_of_lt_of_le f_33.lt sz_b_82)
                have ne_el3_b_82 : el3 ≠ b_82 := Nat.ne_of_lt (Nat.lt_of_lt_of_le f_46.lt sz_b_82)
                have ne_el4_b_82 : el4 ≠ b_82 := Nat.ne_of_lt (Nat.lt_of_lt_of_le f_58.lt sz_b_82)
                have ne_el5_b_82 : el5 ≠ b_82 := Nat.ne_of_lt (Nat.lt_of_lt_of_le f_69.lt sz_b_82)
                have ne_el6_b_82 : el6 ≠ b_82 := Nat.ne_of_lt (Nat.lt_of_lt_of_le f_79.lt sz_b_82)
                have ne_o_b_82 : o ≠ b_82 := Nat.ne_of_lt (Nat.lt_of_lt_of_le f_84.lt sz_b_82)
                have ne_b_1_b_82 : b_1 ≠ b_82 := Nat.ne_of_lt (Nat.lt_of_lt_of_le pf_1_0.lt sz_b_82)
                have sz_b_82 : h0.size ≤ b_82 := Nat.le_trans f_85.1 sz_b_82
                refine Go.retA X_82 hx (t := (.object "java/util/Optional")) hret hlk rfl rfl (hb hby d1_33) (by decide) (by decide) ?_
                have f_86 : Keep h0 T_82.heap [] := (f_85.trans K_82 all0)
                show (Q1 Z p1 av kv o el0 el1 el2 el3 el4 el5 el6 h0 n0) _ T_82.heap _
                exact ⟨b_82, rfl, N_82, f_86, pf_82_0, ((own_el_6 nq0 nq1 nq2 nq3 nq4 nq5 nq6).symm ▸ pf_82_1)⟩
              · refine Go.to (mkF m 34 #[.val (.int p1), .val (.ref b_1), .val (.int (7 : Int32)), .val (.int (6 : Int32)), .val (.ref el6)] []) (fun _ k => XS.icmpYes X_80.here hx rfl (pc0 := 25) (pc' := 34) rfl (hb hby d1_25) rfl (feq nq6).2 (by decide) (by decide) k) ?_
                refine Go.to (mkF m 37 #[.val (.int p1), .val (.ref b_1), .val (.int (7 : Int32)), .val (.int (7 : Int32)), .val (.ref el6)] []) (fun _ k => XS.iinc X_80.here hx rfl (hb hby d1_34) rfl (l' := #[.val (.int p1), .val (.ref b_1), .val (.int (7 : Int32)), .val (.int (7 : Int32)), .val (.ref el6)]) rfl k) ?_
                refine Go.to (mkF m 9 #[.val (.int p1), .val (.ref b_1), .val (.int (7 : Int32)), .val (.int (7 : Int32)), .val (.ref el6)] []) (fun _ k => XS.goto X_80.here hx rfl (pc0 := 37) (pc' := 9) rfl (hb hby d1_37) (by decide) (by decide) k) ?_
                refine Go.to (mkF m 10 #[.val (.int p1), .val (.ref b_1), .val (.int (7 : Int32)), .val (.int (7 : Int32)), .val (.ref el6)] [(.int (7 : Int32))]) (fun _ k => XS.iloadN X_80.here hx rfl (hb hby d1_9) rfl  k) ?_
                refine Go.to (mkF m 11 #[.val (.int p1), .val (.ref b_1), .val (.int (7 : Int32)), .val (.int (7 : Int32)), .val (.ref el6)] [(.int (7 : Int32)), (.int (7 : Int32))]) (fun _ k => XS.iloadN X_80.here hx rfl (hb hby d1_10) rfl  k) ?_
                refine Go.to (mkF m 40 #[.val (.int p1), .val (.ref b_1), .val (.int (7 : Int32)), .val (.int (7 : Int32)), .val (.ref el6)] []) (fun _ k => XS.icmpYes X_80.here hx rfl (pc0 := 11) (pc' := 40) rfl (hb hby d1_11) rfl (flt (by decide : ¬ ((7 : Int32) < (7 : Int32)))).2.1 (by decide) (by decide) k) ?_
                have f_87 : Sta Z T_1.heap "java/util/Optional" "EMPTY" "Ljava/util/Optional;" (.ref o) := (own_sta_keep PS_java_util_Optional_EMPTY K_1 all0)
                have f_88 : n0 ≤ T_1.heap.size := (Nat.le_trans Z0 K_1.1)
                refine Go.stat X_80 hx hZ (y := (⟨"java/util/Optional", "empty", "()Ljava/util/Optional;"⟩ : MethodName)) hown (hw _ (List.mem_of_getElem? (i := 28) rfl)) (hw _ (List.mem_of_getElem? (i := 29) rfl)) (hw _ (List.mem_of_getElem? (i := 30) rfl)) (hw _ (List.mem_of_getElem? (i := 31) rfl)) (by decide) e_80 (argsL := []) (rest := []) (Met1.back (W := 0) (rm3 l Z a0 hw o T_1.heap n0 f_88 f_87) hZ (hw _ (List.mem_of_getElem? (i := 31) rfl)) (hw _ (List.mem_of_getElem? (i := 30) rfl)) (by decide) (by decide)) (pc := 40) (Ls := #[.val (.int p1), .val (.ref b_1), .val (.int (7 : Int32)), .val (.int (7 : Int32)), .val (.ref el6)]) (by rw [hml]; rfl) (lenOf own_pd4 rfl) rfl (Nat.le_refl _) (hb hby d1_40) (by decide) (by decide) ?_
                intro T_89 v_89 L_89 X_89 hQ_89
                obtain ⟨rfl, Nq_89, hh_89⟩ := hQ_89
                have N_89 := Fr.app N_1 Nq_89
                show Go p e below (FinN s (Q1 Z p1 av kv o el0 el1 el2 el3 el4 el5 el6 h0 n0) ({ frames := 3, cells := 2, slots := 8, locals := 38 } : Room).cells ({ frames := 3, cells := 2, slots := 8, locals := 38 } : Room).slots) T_89 (mkF m 43 #[.val (.int p1), .val (.ref b_1), .val (.int (7 : Int32)), .val (.int (7 : Int32)), .val (.ref el6)] [(.ref o)])
                refine Go.retA X_89 hx (t := (.object "java/util/Optional")) hret hlk rfl rfl (hb hby d1_43) (by decide) (by decide) ?_
                have f_90 : Keep h0 T_1.heap [] := ((Keep.refl h0 []).trans K_1 all0)
                have f_91 : Exa Z T_1.heap o "java/util/Optional" := (PE_o.keep K_1)
                have f_92 : Fld Z T_1.heap o "java/util/Optional" "value" "Ljava/lang/Object;" .null := (PF_o_value.keep K_1 nin0)
                show (Q1 Z p1 av kv o el0 el1 el2 el3 el4 el5 el6 h0 n0) _ T_89.heap _
                rw [hh_89]
                exact ⟨o, rfl, N_89, f_90, f_91, ((own_el_7 nq0 nq1 nq2 nq3 nq4 nq5 nq6).symm ▸ f_92)⟩
theorem own_pd5 : parseMethodDescriptor "(C)Ljava/util/Optional;" = some ⟨[.char], some (.object "java/util/Optional")⟩ := by decide +kernel
theorem own_pd6 : parseMethodDescriptor "(C)Lcom/example/reprofield/reprofield/CodedElement;" = some ⟨[.char], some (.object "com/example/reprofield/reprofield/CodedElement")⟩ := by decide +kernel
def Q0 (Z : State) (p1 : Int32) (p2 : Int32) (av : Addr) (kv : ClassId) (o : Addr) (el0 : Addr) (el1 : Addr) (el2 : Addr) (el3 : Addr) (el4 : Addr) (el5 : Addr) (el6 : Addr) (h0 : Heap) (n0 : Nat) (v : Option Value) (h : Heap) (L : List Loc) : Prop := v = some (.int (1 : Int32)) ∧ Fr n0 L ∧ Keep h0 h []
theorem ef_0 (m : MethodId) (p1 : Int32) (p2 : Int32) : entryFrame m #[(.int p1), (.int p2)] maxLocals = mkF m 0 #[.val (.int p1), .val (.int p2), .unset, .unset] [] := by first | (simp [entryFrame, mkF, argsToLocals, Value.category, maxLocals]; done) | (simp [entryFrame, mkF, argsToLocals, own_cat_i, own_cat_l, own_cat_r, own_cat_n, maxLocals]; done) | rfl
set_option maxRecDepth 65536 in
set_option maxHeartbeats 40000000 in
theorem rm0 (l : Launch) (Z : State) (a0 : Array Value) (hw : ∀ d ∈ tables_1, d.before a0 Z = true) (p1 : Int32) (p2 : Int32) (av : Addr) (kv : ClassId) (o : Addr) (el0 : Addr) (el1 : Addr) (el2 : Addr) (el3 : Addr) (el4 : Addr) (el5 : Addr) (el6 : Addr) (h0 : Heap) (n0 : Nat) (Z0 : n0 ≤ h0.size) (PS_com_example_reprofield_reprofield_CodedElement__VALUES : Sta Z h0 "com/example/reprofield/reprofield/CodedElement" "$VALUES" "[Lcom/example/reprofield/reprofield/CodedElement;" (.ref av)) (PE_av : Exa Z h0 av "[Lcom/example/reprofield/reprofield/CodedElement;") (PA_av : Arv Z h0 av kv (.object "com/example/reprofield/reprofield/CodedElement") (7 : Int32) [(.ref el0), (.ref el1), (.ref el2), (.ref el3), (.ref el4), (.ref el5), (.ref el6)] .null) (PF_el0__oclcSubfield : Fld Z h0 el0 "com/example/reprofield/reprofield/CodedElement" "_oclcSubfield" "C" (.int (97 : Int32))) (PF_el1__oclcSubfield : Fld Z h0 el1 "com/example/reprofield/reprofield/CodedElement" "_oclcSubfield" "C" (.int (98 : Int32))) (PF_el2__oclcSubfield : Fld Z h0 el2 "com/example/reprofield/reprofield/CodedElement" "_oclcSubfield" "C" (.int (99 : Int32))) (PF_el3__oclcSubfield : Fld Z h0 el3 "com/example/reprofield/reprofield/CodedElement" "_oclcSubfield" "C" (.int (100 : Int32))) (PF_el4__oclcSubfield : Fld Z h0 el4 "com/example/reprofield/reprofield/CodedElement" "_oclcSubfield" "C" (.int (101 : Int32))) (PF_el5__oclcSubfield : Fld Z h0 el5 "com/example/reprofield/reprofield/CodedElement" "_oclcSubfield" "C" (.int (102 : Int32))) (PF_el6__oclcSubfield : Fld Z h0 el6 "com/example/reprofield/reprofield/CodedElement" "_oclcSubfield" "C" (.int (103 : Int32))) (PS_java_util_Optional_EMPTY : Sta Z h0 "java/util/Optional" "EMPTY" "Ljava/util/Optional;" (.ref o)) (PE_o : Exa Z h0 o "java/util/Optional") (PF_o_value : Fld Z h0 o "java/util/Optional" "value" "Ljava/lang/Object;" .null) (PS_com_example_reprofield_reprofield_CodedElement_TYPE_OF_DATE : Sta Z h0 "com/example/reprofield/reprofield/CodedElement" "TYPE_OF_DATE" "Lcom/example/reprofield/reprofield/CodedElement;" (.ref el0)) (PS_com_example_reprofield_reprofield_CodedElement_DATE_1 : Sta Z h0 "com/example/reprofield/reprofield/CodedElement" "DATE_1" "Lcom/example/reprofield/reprofield/CodedElement;" (.ref el1)) (PS_com_example_reprofield_reprofield_CodedElement_DATE_2 : Sta Z h0 "com/example/reprofield/reprofield/CodedElement" "DATE_2" "Lcom/example/reprofield/reprofield/CodedElement;" (.ref el2)) (PS_com_example_reprofield_reprofield_CodedElement_PLACE : Sta Z h0 "com/example/reprofield/reprofield/CodedElement" "PLACE" "Lcom/example/reprofield/reprofield/CodedElement;" (.ref el3)) (PS_com_example_reprofield_reprofield_CodedElement_FREQUENCY : Sta Z h0 "com/example/reprofield/reprofield/CodedElement" "FREQUENCY" "Lcom/example/reprofield/reprofield/CodedElement;" (.ref el4)) (PS_com_example_reprofield_reprofield_CodedElement_REGULARITY : Sta Z h0 "com/example/reprofield/reprofield/CodedElement" "REGULARITY" "Lcom/example/reprofield/reprofield/CodedElement;" (.ref el5)) (PS_com_example_reprofield_reprofield_CodedElement_FORM_OF_ITEM : Sta Z h0 "com/example/reprofield/reprofield/CodedElement" "FORM_OF_ITEM" "Lcom/example/reprofield/reprofield/CodedElement;" (.ref el6)) (PE_el0 : Exa Z h0 el0 "com/example/reprofield/reprofield/CodedElement") (PE_el1 : Exa Z h0 el1 "com/example/reprofield/reprofield/CodedElement") (PE_el2 : Exa Z h0 el2 "com/example/reprofield/reprofield/CodedElement") (PE_el3 : Exa Z h0 el3 "com/example/reprofield/reprofield/CodedElement$1") (PE_el4 : Exa Z h0 el4 "com/example/reprofield/reprofield/CodedElement") (PE_el5 : Exa Z h0 el5 "com/example/reprofield/reprofield/CodedElement") (PE_el6 : Exa Z h0 el6 "com/example/reprofield/reprofield/CodedElement") :
    Met1 l Z x code maxLocals ret room_1 #[(.int p1), (.int p2)] h0 (Q0 Z p1 p2 av kv o el0 el1 el2 el3 el4 el5 el6 h0 n0) := by
  refine Met1.mk (plainFor_of_name (by first | (simp [plainName, overriddenIn]; done) | decide +kernel)) ?_
  intro p e s m below meth c s₁ hx hZ hby hml hown hnm hret hlk X0 e0
  have hml : c.maxLocals = 4 := hml
  have hret : meth.sig.returnType = some .boolean := hret
  have N0 := Fr.nil n0
  refine Go.cast (ef_0 m p1 p2) ?_
  show Go p e below (FinN s (Q0 Z p1 p2 av kv o el0 el1 el2 el3 el4 el5 el6 h0 n0) room_1.cells room_1.slots) s₁ (mkF m 0 #[.val (.int p1), .val (.int p2), .unset, .unset] [])
  refine Go.to (mkF m 1 #[.val (.int p1), .val (.int p2), .unset, .unset] [(.int p2)]) (fun _ k => XS.iloadN X0.here hx rfl (hb hby at_0) rfl  k) ?_
  refine Go.to (mkF m 2 #[.val (.int p1), .val (.int p2), .unset, .unset] [(.int (1 : Int32)), (.int p2)]) (fun _ k => XS.iconst X0.here hx rfl (hb hby at_1) k) ?_
  refine Go.to (mkF m 3 #[.val (.int p1), .val (.int p2), .unset, .unset] [(.int (p2 &&& (1 : Int32)))]) (fun _ k => XS.iand X0.here hx rfl (hb hby at_2) rfl k) ?_
  suffices J_1 : ∀ (c : Int32), Go p e below (FinN s (Q0 Z p1 p2 av kv o el0 el1 el2 el3 el4 el5 el6 h0 n0) room_1.cells room_1.slots) s₁ (mkF m 21 #[.val (.int p1), .val (.int p2), .val (.int c), .unset] []) by
    by_cases hs : (p2 &&& (1 : Int32)) = (0 : Int32)
    · refine Go.to (mkF m 18 #[.val (.int p1), .val (.int p2), .unset, .unset] []) (fun _ k => XS.ifYes X0.here hx rfl (pc0 := 3) (pc' := 18) rfl (hb hby at_3) rfl ((if0 _ _).trans (teq hs).1) (by decide) (by decide) k) ?_
      refine Go.to (mkF m 19 #[.val (.int p1), .val (.int p2), .unset, .unset] [(.int p1)]) (fun _ k => XS.iloadN X0.here hx rfl (hb hby at_18) rfl  k) ?_
      refine Go.to (mkF m 20 #[.val (.int p1), .val (.int p2), .unset, .unset] [(.int (p1.toUInt32.toUInt16.toUInt32.toInt32))]) (fun _ k => XS.i2c X0.here hx rfl (hb hby at_19) rfl k) ?_
      refine Go.to (mkF m 21 #[.val (.int p1), .val (.int p2), .val (.int (p1.toUInt32.toUInt16.toUInt32.toInt32)), .unset] []) (fun _ k => XS.istoreN X0.here hx rfl (hb hby at_20) rfl (l' := #[.val (.int p1), .val (.int p2), .val (.int (p1.toUInt32.toUInt16.toUInt32.toInt32)), .unset]) rfl k) ?_
      exact J_1 _
    · refine Go.to (mkF m 6 #[.val (.int p1), .val (.int p2), .unset, .unset] []) (fun _ k => XS.ifNo X0.here hx rfl (hb hby at_3) rfl ((if0 _ _).trans (feq hs).1) k) ?_
      refine Go.to (mkF m 8 #[.val (.int p1), .val (.int p2), .unset, .unset] [(.int (95 : Int32))]) (fun _ k => XS.bipush X0.here hx rfl (hb hby at_6) k) ?_
      refine Go.to (mkF m 9 #[.val (.int p1), .val (.int p2), .unset, .unset] [(.int p1), (.int (95 : Int32))]) (fun _ k => XS.iloadN X0.here hx rfl (hb hby at_8) rfl  k) ?_
      refine Go.to (mkF m 11 #[.val (.int p1), .val (.int p2), .unset, .unset] [(.int (15 : Int32)), (.int p1), (.int (95 : Int32))]) (fun _ k => XS.bipush X0.here hx rfl (hb hby at_9) k) ?_
      refine Go.to (mkF m 12 #[.val (.int p1), .val (.int p2), .unset, .unset] [(.int (p1 &&& (15 : Int32))), (.int (95 : Int32))]) (fun _ k => XS.iand X0.here hx rfl (hb hby at_11) rfl k) ?_
      refine Go.to (mkF m 13 #[.val (.int p1), .val (.int p2), .unset, .unset] [(.int ((95 : Int32) + (p1 &&& (15 : Int32))))]) (fun _ k => XS.iadd X0.here hx rfl (hb hby at_12) rfl k) ?_
      refine Go.to (mkF m 14 #[.val (.int p1), .val (.int p2), .unset, .unset] [(.int (((95 : Int32) + (p1 &&& (15 : Int32))).toUInt32.toUInt16.toUInt32.toInt32))]) (fun _ k => XS.i2c X0.here hx rfl (hb hby at_13) rfl k) ?_
      refine Go.to (mkF m 15 #[.val (.int p1), .val (.int p2), .val (.int (((95 : Int32) + (p1 &&& (15 : Int32))).toUInt32.toUInt16.toUInt32.toInt32)), .unset] []) (fun _ k => XS.istoreN X0.here hx rfl (hb hby at_14) rfl (l' := #[.val (.int p1), .val (.int p2), .val (.int (((95 : Int32) + (p1 &&& (15 : Int32))).toUInt32.toUInt16.toUInt32.toInt32)), .unset]) rfl k) ?_
      refine Go.to (mkF m 21 #[.val (.int p1), .val (.int p2), .val (.int (((95 : Int32) + (p1 &&& (15 : Int32))).toUInt32.toUInt16.toUInt32.toInt32)), .unset] []) (fun _ k => XS.goto X0.here hx rfl (pc0 := 15) (pc' := 21) rfl (hb hby at_15) (by decide) (by decide) k) ?_
      exact J_1 _
  intro c
  refine Go.to (mkF m 22 #[.val (.int p1), .val (.int p2), .val (.int c), .unset] [(.int c)]) (fun _ k => XS.iloadN X0.here hx rfl (hb hby at_21) rfl  k) ?_
  refine Go.stat X0 hx hZ (y := (⟨"com/example/reprofield/reprofield/CodedElement", "forOclcSubfield", "(C)Ljava/util/Optional;"⟩ : MethodName)) hown (hw _ (List.mem_of_getElem? (i := 0) rfl)) (hw _ (List.mem_of_getElem? (i := 1) rfl)) (hw _ (List.mem_of_getElem? (i := 2) rfl)) (hw _ (List.mem_of_getElem? (i := 3) rfl)) (by decide) e0 (argsL := [(.int c)]) (rest := []) (Met1.back (W := 0) (rm1 l Z a0 hw c av kv o el0 el1 el2 el3 el4 el5 el6 h0 n0 Z0 PS_com_example_reprofield_reprofield_CodedElement__VALUES PE_av PA_av PF_el0__oclcSubfield PF_el1__oclcSubfield PF_el2__oclcSubfield PF_el3__oclcSubfield PF_el4__oclcSubfield PF_el5__oclcSubfield PF_el6__oclcSubfield PS_java_util_Optional_EMPTY PE_o PF_o_value) hZ (hw _ (List.mem_of_getElem? (i := 3) rfl)) (hw _ (List.mem_of_getElem? (i := 2) rfl)) (by decide) (by decide)) (pc := 22) (Ls := #[.val (.int p1), .val (.int p2), .val (.int c), .unset]) (by rw [hml]; rfl) (lenOf own_pd5 rfl) rfl (Nat.le_refl _) (hb hby at_22) (by decide) (by decide) ?_
  intro T_2 v_2 L_2 X_2 hQ_2
  obtain ⟨r_2, rfl, Nq_2, K_2, pf_2_0, pf_2_1⟩ := hQ_2
  have N_2 := Fr.app N0 Nq_2
  show Go p e below (FinN s (Q0 Z p1 p2 av kv o el0 el1 el2 el3 el4 el5 el6 h0 n0) room_1.cells room_1.slots) T_2 (mkF m 25 #[.val (.int p1), .val (.int p2), .val (.int c), .unset] [(.ref r_2)])
  refine Go.to (mkF m 26 #[.val (.int p1), .val (.int p2), .val (.int c), .unset] [.null, (.ref r_2)]) (fun _ k => XS.aconstNull X_2.here hx rfl (hb hby at_25) k) ?_
  rcases own_el_cases c el0 el1 el2 el3 el4 el5 el6 with hk | hk | hk | hk | hk | hk | hk | hk
  · have f_3 : Fld Z T_2.heap r_2 "java/util/Optional" "value" "Ljava/lang/Object;" (.ref el0) := hk ▸ pf_2_1
    have f_4 : n0 ≤ T_2.heap.size := (Nat.le_trans Z0 K_2.1)
    refine Go.virt X_2 hx hZ (y := (⟨"java/util/Optional", "orElse", "(Ljava/lang/Object;)Ljava/lang/Object;"⟩ : MethodName)) (z := (⟨"java/util/Optional", "orElse", "(Ljava/lang/Object;)Ljava/lang/Object;"⟩ : MethodName)) hown (hw _ (List.mem_of_getElem? (i := 33) rfl)) (hw _ (List.mem_of_getElem? (i := 34) rfl)) (notFace_of_selects (args := #[]) (mvT hZ (hw _ (List.mem_of_getElem? (i := 36) rfl)))) (hw _ (List.mem_of_getElem? (i := 36) rfl)) (hw _ (List.mem_of_getElem? (i := 35) rfl)) (by decide) rfl (a := r_2) pf_2_0 (argsL := [.null]) (rest := []) (Met1.back (W := 0) (rm15s l Z a0 hw r_2 el0 T_2.heap n0 f_4 f_3) hZ (hw _ (List.mem_of_getElem? (i := 37) rfl)) (hw _ (List.mem_of_getElem? (i := 30) rfl)) (by decide) (by decide)) (pc := 26) (Ls := #[.val (.int p1), .val (.int p2), .val (.int c), .unset]) (by rw [hml]; rfl) (lenOf own_pd0 rfl) rfl (Nat.le_refl _) (hb hby at_26) (by decide) (by decide) ?_
    intro T_5 v_5 L_5 X_5 hQ_5
    obtain ⟨rfl, Nq_5, hh_5⟩ := hQ_5
    have N_5 := Fr.app N_2 Nq_5
    show Go p e below (FinN s (Q0 Z p1 p2 av kv o el0 el1 el2 el3 el4 el5 el6 h0 n0) room_1.cells room_1.slots) T_5 (mkF m 29 #[.val (.int p1), .val (.int p2), .val (.int c), .unset] [(.ref el0)])
    have f_7 : Exa Z T_2.heap el0 "com/example/reprofield/reprofield/CodedElement" := (PE_el0.keep K_2)
    obtain ⟨T_6, X_6, e_6, st_6⟩ := castY X_5 hx hZ hown (hw _ (List.mem_of_getElem? (i := 60) rfl)) hh_5 (Ins.self f_7) (g := (mkF m 29 #[.val (.int p1), .val (.int p2), .val (.int c), .unset] [(.ref el0)])) rfl rfl (hb hby at_29)
    refine Go.to (mkF m 32 #[.val (.int p1), .val (.int p2), .val (.int c), .unset] [(.ref el0)]) st_6 ?_
    refine Go.to (mkF m 33 #[.val (.int p1), .val (.int p2), .val (.int c), .val (.ref el0)] []) (fun _ k => XS.astoreN X_6.here hx rfl (hb hby at_32) rfl rfl (l' := #[.val (.int p1), .val (.int p2), .val (.int c), .val (.ref el0)]) rfl k) ?_
    refine Go.to (mkF m 34 #[.val (.int p1), .val (.int p2), .val (.int c), .val (.ref el0)] [(.ref el0)]) (fun _ k => XS.aloadN X_6.here hx rfl (hb hby at_33) rfl rfl k) ?_
    refine Go.to (mkF m 35 #[.val (.int p1), .val (.int p2), .val (.int c), .val (.ref el0)] [(.int c), (.ref el0)]) (fun _ k => XS.iloadN X_6.here hx rfl (hb hby at_34) rfl  k) ?_
    have f_8 : Sta Z T_2.heap "com/example/reprofield/reprofield/CodedElement" "TYPE_OF_DATE" "Lcom/example/reprofield/reprofield/CodedElement;" (.ref el0) := (own_sta_keep PS_com_example_reprofield_reprofield_CodedElement_TYPE_OF_DATE K_2 all0)
    have f_9 : Sta Z T_2.heap "com/example/reprofield/reprofield/CodedElement" "DATE_1" "Lcom/example/reprofield/reprofield/CodedElement;" (.ref el1) := (own_sta_keep PS_com_example_reprofield_reprofield_CodedElement_DATE_1 K_2 all0)
    have f_10 : Sta Z T_2.heap "com/example/reprofield/reprofield/CodedElement" "DATE_2" "Lcom/example/reprofield/reprofield/CodedElement;" (.ref el2) := (own_sta_keep PS_com_example_reprofield_reprofield_CodedElement_DATE_2 K_2 all0)
    have f_11 : Sta Z T_2.heap "com/example/reprofield/reprofield/CodedElement" "PLACE" "Lcom/example/reprofield/reprofield/CodedElement;" (.ref el3) := (own_sta_keep PS_com_example_reprofield_reprofield_CodedElement_PLACE K_2 all0)
    have f_12 : Sta Z T_2.heap "com/example/reprofield/reprofield/CodedElement" "FREQUENCY" "Lcom/example/reprofield/reprofield/CodedElement;" (.ref el4) := (own_sta_keep PS_com_example_reprofield_reprofield_CodedElement_FREQUENCY K_2 all0)
    have f_13 : Sta Z T_2.heap "com/example/reprofield/reprofield/CodedElement" "REGULARITY" "Lcom/example/reprofield/reprofield/CodedElement;" (.ref el5) := (own_sta_keep PS_com_example_reprofield_reprofield_CodedElement_REGULARITY K_2 all0)
    have f_14 : Sta Z T_2.heap "com/example/reprofield/reprofield/CodedElement" "FORM_OF_ITEM" "Lcom/example/reprofield/reprofield/CodedElement;" (.ref el6) := (own_sta_keep PS_com_example_reprofield_reprofield_CodedElement_FORM_OF_ITEM K_2 all0)
    refine Go.stat X_6 hx hZ (y := (⟨"com/example/reprofield/reprofield/CodedElementForOclcSubfieldPinLaw", "expected", "(C)Lcom/example/reprofield/reprofield/CodedElement;"⟩ : MethodName)) hown (hw _ (List.mem_of_getElem? (i := 40) rfl)) (hw _ (List.mem_of_getElem? (i := 41) rfl)) (hw _ (List.mem_of_getElem? (i := 42) rfl)) (hw _ (List.mem_of_getElem? (i := 43) rfl)) (by decide) e_6 (argsL := [(.int c)]) (rest := [(.ref el0)]) (Met1.back (W := 1) (rm5 l Z a0 hw c el0 el1 el2 el3 el4 el5 el6 T_2.heap n0 f_4 f_8 f_9 f_10 f_11 f_12 f_13 f_14) hZ (hw _ (List.mem_of_getElem? (i := 43) rfl)) (hw _ (List.mem_of_getElem? (i := 42) rfl)) (by decide) (by decide)) (pc := 35) (Ls := #[.val (.int p1), .val (.int p2), .val (.int c), .val (.ref el0)]) (by rw [hml]; rfl) (lenOf own_pd6 rfl) rfl (Nat.le_refl _) (hb hby at_35) (by decide) (by decide) ?_
    intro T_15 v_15 L_15 X_15 hQ_15
    obtain ⟨rfl, Nq_15, hh_15⟩ := hQ_15
    have N_15 := Fr.app N_5 Nq_15
    show Go p e below (FinN s (Q0 Z p1 p2 av kv o el0 el1 el2 el3 el4 el5 el6 h0 n0) room_1.cells room_1.slots) T_15 (mkF m 38 #[.val (.int p1), .val (.int p2), .val (.int c), .val (.ref el0)] [(own_el c el0 el1 el2 el3 el4 el5 el6), (.ref el0)])
    refine Go.to (mkF m 41 #[.val (.int p1), .val (.int p2), .val (.int c), .val (.ref el0)] []) (fun _ k => acmp X_15 hx rfl rfl (own_el_ref _ _ _ _ _ _ _ _) (pc0 := 38) (pc' := 41) (same := true) rfl (hb hby at_38) rfl (decide_eq_true hk.symm) (by decide) (by decide) k) ?_
    refine Go.to (mkF m 42 #[.val (.int p1), .val (.int p2), .val (.int c), .val (.ref el0)] [(.int (1 : Int32))]) (fun _ k => XS.iconst X_15.here hx rfl (hb hby at_41) k) ?_
    refine Go.to (mkF m 46 #[.val (.int p1), .val (.int p2), .val (.int c), .val (.ref el0)] [(.int (1 : Int32))]) (fun _ k => XS.goto X_15.here hx rfl (pc0 := 42) (pc' := 46) rfl (hb hby at_42) (by decide) (by decide) k) ?_
    refine Go.retN X_15 hx (t := .boolean) hret hlk (by simp) (hb hby at_46) (by decide) (by decide) (z' := (1 : Int32)) rfl ?_
    have f_16 : Keep h0 T_2.heap [] := ((Keep.refl h0 []).trans K_2 all0)
    show (Q0 Z p1 p2 av kv o el0 el1 el2 el3 el4 el5 el6 h0 n0) _ T_15.heap _
    rw [hh_15]
    exact ⟨rfl, N_15, f_16⟩
  · have f_17 : Fld Z T_2.heap r_2 "java/util/Optional" "value" "Ljava/lang/Object;" (.ref el1) := hk ▸ pf_2_1
    have f_18 : n0 ≤ T_2.heap.size := (Nat.le_trans Z0 K_2.1)
    refine Go.virt X_2 hx hZ (y := (⟨"java/util/Optional", "orElse", "(Ljava/lang/Object;)Ljava/lang/Object;"⟩ : MethodName)) (z := (⟨"java/util/Optional", "orElse", "(Ljava/lang/Object;)Ljava/lang/Object;"⟩ : MethodName)) hown (hw _ (List.mem_of_getElem? (i := 33) rfl)) (hw _ (List.mem_of_getElem? (i := 34) rfl)) (notFace_of_selects (args := #[]) (mvT hZ (hw _ (List.mem_of_getElem? (i := 36) rfl)))) (hw _ (List.mem_of_getElem? (i := 36) rfl)) (hw _ (List.mem_of_getElem? (i := 35) rfl)) (by decide) rfl (a := r_2) pf_2_0 (argsL := [.null]) (rest := []) (Met1.back (W := 0) (rm15s l Z a0 hw r_2 el1 T_2.heap n0 f_18 f_17) hZ (hw _ (List.mem_of_getElem? (i := 37) rfl)) (hw _ (List.mem_of_getElem? (i := 30) rfl)) (by decide) (by decide)) (pc := 26) (Ls := #[.val (.int p1), .val (.int p2), .val (.int c), .unset]) (by rw [hml]; rfl) (lenOf own_pd0 rfl) rfl (Nat.le_refl _) (hb hby at_26) (by decide) (by decide) ?_
    intro T_19 v_19 L_19 X_19 hQ_19
    obtain ⟨rfl, Nq_19, hh_19⟩ := hQ_19
    have N_19 := Fr.app N_2 Nq_19
    show Go p e below (FinN s (Q0 Z p1 p2 av kv o el0 el1 el2 el3 el4 el5 el6 h0 n0) room_1.cells room_1.slots) T_19 (mkF m 29 #[.val (.int p1), .val (.int p2), .val (.int c), .unset] [(.ref el1)])
    have f_21 : Exa Z T_2.heap el1 "com/example/reprofield/reprofield/CodedElement" := (PE_el1.keep K_2)
    obtain ⟨T_20, X_20, e_20, st_20⟩ := castY X_19 hx hZ hown (hw _ (List.mem_of_getElem? (i := 60) rfl)) hh_19 (Ins.self f_21) (g := (mkF m 29 #[.val (.int p1), .val (.int p2), .val (.int c), .unset] [(.ref el1)])) rfl rfl (hb hby at_29)
    refine Go.to (mkF m 32 #[.val (.int p1), .val (.int p2), .val (.int c), .unset] [(.ref el1)]) st_20 ?_
    refine Go.to (mkF m 33 #[.val (.int p1), .val (.int p2), .val (.int c), .val (.ref el1)] []) (fun _ k => XS.astoreN X_20.here hx rfl (hb hby at_32) rfl rfl (l' := #[.val (.int p1), .val (.int p2), .val (.int c), .val (.ref el1)]) rfl k) ?_
    refine Go.to (mkF m 34 #[.val (.int p1), .val (.int p2), .val (.int c), .val (.ref el1)] [(.ref el1)]) (fun _ k => XS.aloadN X_20.here hx rfl (hb hby at_33) rfl rfl k) ?_
    refine Go.to (mkF m 35 #[.val (.int p1), .val (.int p2), .val (.int c), .val (.ref el1)] [(.int c), (.ref el1)]) (fun _ k => XS.iloadN X_20.here hx rfl (hb hby at_34) rfl  k) ?_
    have f_22 : Sta Z T_2.heap "com/example/reprofield/reprofield/CodedElement" "TYPE_OF_DATE" "Lcom/example/reprofield/reprofield/CodedElement;" (.ref el0) := (own_sta_keep PS_com_example_reprofield_reprofield_CodedElement_TYPE_OF_DATE K_2 all0)
    have f_23 : Sta Z T_2.heap "com/example/reprofield/reprofield/CodedElement" "DATE_1" "Lcom/example/reprofield/reprofield/CodedElement;" (.ref el1) := (own_sta_keep PS_com_example_reprofield_reprofield_CodedElement_DATE_1 K_2 all0)
    have f_24 : Sta Z T_2.heap "com/example/reprofield/reprofield/CodedElement" "DATE_2" "Lcom/example/reprofield/reprofield/CodedElement;" (.ref el2) := (own_sta_keep PS_com_example_reprofield_reprofield_CodedElement_DATE_2 K_2 all0)
    have f_25 : Sta Z T_2.heap "com/example/reprofield/reprofield/CodedElement" "PLACE" "Lcom/example/reprofield/reprofield/CodedElement;" (.ref el3) := (own_sta_keep PS_com_example_reprofield_reprofield_CodedElement_PLACE K_2 all0)
    have f_26 : Sta Z T_2.heap "com/example/reprofield/reprofield/CodedElement" "FREQUENCY" "Lcom/example/reprofield/reprofield/CodedElement;" (.ref el4) := (own_sta_keep PS_com_example_reprofield_reprofield_CodedElement_FREQUENCY K_2 all0)
    have f_27 : Sta Z T_2.heap "com/example/reprofield/reprofield/CodedElement" "REGULARITY" "Lcom/example/reprofield/reprofield/CodedElement;" (.ref el5) := (own_sta_keep PS_com_example_reprofield_reprofield_CodedElement_REGULARITY K_2 all0)
    have f_28 : Sta Z T_2.heap "com/example/reprofield/reprofield/CodedElement" "FORM_OF_ITEM" "Lcom/example/reprofield/reprofield/CodedElement;" (.ref el6) := (own_sta_keep PS_com_example_reprofield_reprofield_CodedElement_FORM_OF_ITEM K_2 all0)
    refine Go.stat X_20 hx hZ (y := (⟨"com/example/reprofield/reprofield/CodedElementForOclcSubfieldPinLaw", "expected", "(C)Lcom/example/reprofield/reprofield/CodedElement;"⟩ : MethodName)) hown (hw _ (List.mem_of_getElem? (i := 40) rfl)) (hw _ (List.mem_of_getElem? (i := 41) rfl)) (hw _ (List.mem_of_getElem? (i := 42) rfl)) (hw _ (List.mem_of_getElem? (i := 43) rfl)) (by decide) e_20 (argsL := [(.int c)]) (rest := [(.ref el1)]) (Met1.back (W := 1) (rm5 l Z a0 hw c el0 el1 el2 el3 el4 el5 el6 T_2.heap n0 f_18 f_22 f_23 f_24 f_25 f_26 f_27 f_28) hZ (hw _ (List.mem_of_getElem? (i := 43) rfl)) (hw _ (List.mem_of_getElem? (i := 42) rfl)) (by decide) (by decide)) (pc := 35) (Ls := #[.val (.int p1), .val (.int p2), .val (.int c), .val (.ref el1)]) (by rw [hml]; rfl) (lenOf own_pd6 rfl) rfl (Nat.le_refl _) (hb hby at_35) (by decide) (by decide) ?_
    intro T_29 v_29 L_29 X_29 hQ_29
    obtain ⟨rfl, Nq_29, hh_29⟩ := hQ_29
    have N_29 := Fr.app N_19 Nq_29
    show Go p e below (FinN s (Q0 Z p1 p2 av kv o el0 el1 el2 el3 el4 el5 el6 h0 n0) room_1.cells room_1.slots) T_29 (mkF m 38 #[.val (.int p1), .val (.int p2), .val (.int c), .val (.ref el1)] [(own_el c el0 el1 el2 el3 el4 el5 el6), (.ref el1)])
    refine Go.to (mkF m 41 #[.val (.int p1), .val (.int p2), .val (.int c), .val (.ref el1)] []) (fun _ k => acmp X_29 hx rfl rfl (own_el_ref _ _ _ _ _ _ _ _) (pc0 := 38) (pc' := 41) (same := true) rfl (hb hby at_38) rfl (decide_eq_true hk.symm) (by decide) (by decide) k) ?_
    refine Go.to (mkF m 42 #[.val (.int p1), .val (.int p2), .val (.int c), .val (.ref el1)] [(.int (1 : Int32))]) (fun _ k => XS.iconst X_29.here hx rfl (hb hby at_41) k) ?_
    refine Go.to (mkF m 46 #[.val (.int p1), .val (.int p2), .val (.int c), .val (.ref el1)] [(.int (1 : Int32))]) (fun _ k => XS.goto X_29.here hx rfl (pc0 := 42) (pc' := 46) rfl (hb hby at_42) (by decide) (by decide) k) ?_
    refine Go.retN X_29 hx (t := .boolean) hret hlk (by simp) (hb hby at_46) (by decide) (by decide) (z' := (1 : Int32)) rfl ?_
    have f_30 : Keep h0 T_2.heap [] := ((Keep.refl h0 []).trans K_2 all0)
    show (Q0 Z p1 p2 av kv o el0 el1 el2 el3 el4 el5 el6 h0 n0) _ T_29.heap _
    rw [hh_29]
    exact ⟨rfl, N_29, f_30⟩
  · have f_31 : Fld Z T_2.heap r_2 "java/util/Optional" "value" "Ljava/lang/Object;" (.ref el2) := hk ▸ pf_2_1
    have f_32 : n0 ≤ T_2.heap.size := (Nat.le_trans Z0 K_2.1)
    refine Go.virt X_2 hx hZ (y := (⟨"java/util/Optional", "orElse", "(Ljava/lang/Object;)Ljava/lang/Object;"⟩ : MethodName)) (z := (⟨"java/util/Optional", "orElse", "(Ljava/lang/Object;)Ljava/lang/Object;"⟩ : MethodName)) hown (hw _ (List.mem_of_getElem? (i := 33) rfl)) (hw _ (List.mem_of_getElem? (i := 34) rfl)) (notFace_of_selects (args := #[]) (mvT hZ (hw _ (List.mem_of_getElem? (i := 36) rfl)))) (hw _ (List.mem_of_getElem? (i := 36) rfl)) (hw _ (List.mem_of_getElem? (i := 35) rfl)) (by decide) rfl (a := r_2) pf_2_0 (argsL := [.null]) (rest := []) (Met1.back (W := 0) (rm15s l Z a0 hw r_2 el2 T_2.heap n0 f_32 f_31) hZ (hw _ (List.mem_of_getElem? (i := 37) rfl)) (hw _ (List.mem_of_getElem? (i := 30) rfl)) (by decide) (by decide)) (pc := 26) (Ls := #[.val (.int p1), .val (.int p2), .val (.int c), .unset]) (by rw [hml]; rfl) (lenOf own_pd0 rfl) rfl (Nat.le_refl _) (hb hby at_26) (by decide) (by decide) ?_
    intro T_33 v_33 L_33 X_33 hQ_33
    obtain ⟨rfl, Nq_33, hh_33⟩ := hQ_33
    have N_33 := Fr.app N_2 Nq_33
    show Go p e below (FinN s (Q0 Z p1 p2 av kv o el0 el1 el2 el3 el4 el5 el6 h0 n0) room_1.cells room_1.slots) T_33 (mkF m 29 #[.val (.int p1), .val (.int p2), .val (.int c), .unset] [(.ref el2)])
    have f_35 : Exa Z T_2.heap el2 "com/example/reprofield/reprofield/CodedElement" := (PE_el2.keep K_2)
    obtain ⟨T_34, X_34, e_34, st_34⟩ := castY X_33 hx hZ hown (hw _ (List.mem_of_getElem? (i := 60) rfl)) hh_33 (Ins.self f_35) (g := (mkF m 29 #[.val (.int p1), .val (.int p2), .val (.int c), .unset] [(.ref el2)])) rfl rfl (hb hby at_29)
    refine Go.to (mkF m 32 #[.val (.int p1), .val (.int p2), .val (.int c), .unset] [(.ref el2)]) st_34 ?_
    refine Go.to (mkF m 33 #[.val (.int p1), .val (.int p2), .val (.int c), .val (.ref el2)] []) (fun _ k => XS.astoreN X_34.here hx rfl (hb hby at_32) rfl rfl (l' := #[.val (.int p1), .val (.int p2), .val (.int c), .val (.ref el2)]) rfl k) ?_
    refine Go.to (mkF m 34 #[.val (.int p1), .val (.int p2), .val (.int c), .val (.ref el2)] [(.ref el2)]) (fun _ k => XS.aloadN X_34.here hx rfl (hb hby at_33) rfl rfl k) ?_
    refine Go.to (mkF m 35 #[.val (.int p1), .val (.int p2), .val (.int c), .val (.ref el2)] [(.int c), (.ref el2)]) (fun _ k => XS.iloadN X_34.here hx rfl (hb hby at_34) rfl  k) ?_
    have f_36 : Sta Z T_2.heap "com/example/reprofield/reprofield/CodedElement" "TYPE_OF_DATE" "Lcom/example/reprofield/reprofield/CodedElement;" (.ref el0) := (own_sta_keep PS_com_example_reprofield_reprofield_CodedElement_TYPE_OF_DATE K_2 all0)
    have f_37 : Sta Z T_2.heap "com/example/reprofield/reprofield/CodedElement" "DATE_1" "Lcom/example/reprofield/reprofield/CodedElement;" (.ref el1) := (own_sta_keep PS_com_example_reprofield_reprofield_CodedElement_DATE_1 K_2 all0)
    have f_38 : Sta Z T_2.heap "com/example/reprofield/reprofield/CodedElement" "DATE_2" "Lcom/example/reprofield/reprofield/CodedElement;" (.ref el2) := (own_sta_keep PS_com_example_reprofield_reprofield_CodedElement_DATE_2 K_2 all0)
    have f_39 : Sta Z T_2.heap "com/example/reprofield/reprofield/CodedElement" "PLACE" "Lcom/example/reprofield/reprofield/CodedElement;" (.ref el3) := (own_sta_keep PS_com_example_reprofield_reprofield_CodedElement_PLACE K_2 all0)
    have f_40 : Sta Z T_2.heap "com/example/reprofield/reprofield/CodedElement" "FREQUENCY" "Lcom/example/reprofield/reprofield/CodedElement;" (.ref el4) := (own_sta_keep PS_com_example_reprofield_reprofield_CodedElement_FREQUENCY K_2 all0)
    have f_41 : Sta Z T_2.heap "com/example/reprofield/reprofield/CodedElement" "REGULARITY" "Lcom/example/reprofield/reprofield/CodedElement;" (.ref el5) := (own_sta_keep PS_com_example_reprofield_reprofield_CodedElement_REGULARITY K_2 all0)
    have f_42 : Sta Z T_2.heap "com/example/reprofield/reprofield/CodedElement" "FORM_OF_ITEM" "Lcom/example/reprofield/reprofield/CodedElement;" (.ref el6) := (own_sta_keep PS_com_example_reprofield_reprofield_CodedElement_FORM_OF_ITEM K_2 all0)
    refine Go.stat X_34 hx hZ (y := (⟨"com/example/reprofield/reprofield/CodedElementForOclcSubfieldPinLaw", "expected", "(C)Lcom/example/reprofield/reprofield/CodedElement;"⟩ : MethodName)) hown (hw _ (List.mem_of_getElem? (i := 40) rfl)) (hw _ (List.mem_of_getElem? (i := 41) rfl)) (hw _ (List.mem_of_getElem? (i := 42) rfl)) (hw _ (List.mem_of_getElem? (i := 43) rfl)) (by decide) e_34 (argsL := [(.int c)]) (rest := [(.ref el2)]) (Met1.back (W := 1) (rm5 l Z a0 hw c el0 el1 el2 el3 el4 el5 el6 T_2.heap n0 f_32 f_36 f_37 f_38 f_39 f_40 f_41 f_42) hZ (hw _ (List.mem_of_getElem? (i := 43) rfl)) (hw _ (List.mem_of_getElem? (i := 42) rfl)) (by decide) (by decide)) (pc := 35) (Ls := #[.val (.int p1), .val (.int p2), .val (.int c), .val (.ref el2)]) (by rw [hml]; rfl) (lenOf own_pd6 rfl) rfl (Nat.le_refl _) (hb hby at_35) (by decide) (by decide) ?_
    intro T_43 v_43 L_43 X_43 hQ_43
    obtain ⟨rfl, Nq_43, hh_43⟩ := hQ_43
    have N_43 := Fr.app N_33 Nq_43
    show Go p e below (FinN s (Q0 Z p1 p2 av kv o el0 el1 el2 el3 el4 el5 el6 h0 n0) room_1.cells room_1.slots) T_43 (mkF m 38 #[.val (.int p1), .val (.int p2), .val (.int c), .val (.ref el2)] [(own_el c el0 el1 el2 el3 el4 el5 el6), (.ref el2)])
    refine Go.to (mkF m 41 #[.val (.int p1), .val (.int p2), .val (.int c), .val (.ref el2)] []) (fun _ k => acmp X_43 hx rfl rfl (own_el_ref _ _ _ _ _ _ _ _) (pc0 := 38) (pc' := 41) (same := true) rfl (hb hby at_38) rfl (decide_eq_true hk.symm) (by decide) (by decide) k) ?_
    refine Go.to (mkF m 42 #[.val (.int p1), .val (.int p2), .val (.int c), .val (.ref el2)] [(.int (1 : Int32))]) (fun _ k => XS.iconst X_43.here hx rfl (hb hby at_41) k) ?_
    refine Go.to (mkF m 46 #[.val (.int p1), .val (.int p2), .val (.int c), .val (.ref el2)] [(.int (1 : Int32))]) (fun _ k => XS.goto X_43.here hx rfl (pc0 := 42) (pc' := 46) rfl (hb hby at_42) (by decide) (by decide) k) ?_
    refine Go.retN X_43 hx (t := .boolean) hret hlk (by simp) (hb hby at_46) (by decide) (by decide) (z' := (1 : Int32)) rfl ?_
    have f_44 : Keep h0 T_2.heap [] := ((Keep.refl h0 []).trans K_2 all0)
    show (Q0 Z p1 p2 av kv o el0 el1 el2 el3 el4 el5 el6 h0 n0) _ T_43.heap _
    rw [hh_43]
    exact ⟨rfl, N_43, f_44⟩
  · have f_45 : Fld Z T_2.heap r_2 "java/util/Optional" "value" "Ljava/lang/Object;" (.ref el3) := hk ▸ pf_2_1
    have f_46 : n0 ≤ T_2.heap.size := (Nat.le_trans Z0 K_2.1)
    refine Go.virt X_2 hx hZ (y := (⟨"java/util/Optional", "orElse", "(Ljava/lang/Object;)Ljava/lang/Object;"⟩ : MethodName)) (z := (⟨"java/util/Optional", "orElse", "(Ljava/lang/Object;)Ljava/lang/Object;"⟩ : MethodName)) hown (hw _ (List.mem_of_getElem? (i := 33) rfl)) (hw _ (List.mem_of_getElem? (i := 34) rfl)) (notFace_of_selects (args := #[]) (mvT hZ (hw _ (List.mem_of_getElem? (i := 36) rfl)))) (hw _ (List.mem_of_getElem? (i := 36) rfl)) (hw _ (List.mem_of_getElem? (i := 35) rfl)) (by decide) rfl (a := r_2) pf_2_0 (argsL := [.null]) (rest := []) (Met1.back (W := 0) (rm15s l Z a0 hw r_2 el3 T_2.heap n0 f_46 f_45) hZ (hw _ (List.mem_of_getElem? (i := 37) rfl)) (hw _ (List.mem_of_getElem? (i := 30) rfl)) (by decide) (by decide)) (pc := 26) (Ls := #[.val (.int p1), .val (.int p2), .val (.int c), .unset]) (by rw [hml]; rfl) (lenOf own_pd0 rfl) rfl (Nat.le_refl _) (hb hby at_26) (by decide) (by decide) ?_
    intro T_47 v_47 L_47 X_47 hQ_47
    obtain ⟨rfl, Nq_47, hh_47⟩ := hQ_47
    have N_47 := Fr.app N_2 Nq_47
    show Go p e below (FinN s (Q0 Z p1 p2 av kv o el0 el1 el2 el3 el4 el5 el6 h0 n0) room_1.cells room_1.slots) T_47 (mkF m 29 #[.val (.int p1), .val (.int p2), .val (.int c), .unset] [(.ref el3)])
    have f_49 : Exa Z T_2.heap el3 "com/example/reprofield/reprofield/CodedElement$1" := (PE_el3.keep K_2)
    obtain ⟨T_48, X_48, e_48, st_48⟩ := castY X_47 hx hZ hown (hw _ (List.mem_of_getElem? (i := 60) rfl)) hh_47 (Ins.of_exa f_49 (hw _ (List.mem_of_getElem? (i := 65) rfl))) (g := (mkF m 29 #[.val (.int p1), .val (.int p2), .val (.int c), .unset] [(.ref el3)])) rfl rfl (hb hby at_29)
    refine Go.to (mkF m 32 #[.val (.int p1), .val (.int p2), .val (.int c), .unset] [(.ref el3)]) st_48 ?_
    refine Go.to (mkF m 33 #[.val (.int p1), .val (.int p2), .val (.int c), .val (.ref el3)] []) (fun _ k => XS.astoreN X_48.here hx rfl (hb hby at_32) rfl rfl (l' := #[.val (.int p1), .val (.int p2), .val (.int c), .val (.ref el3)]) rfl k) ?_
    refine Go.to (mkF m 34 #[.val (.int p1), .val (.int p2), .val (.int c), .val (.ref el3)] [(.ref el3)]) (fun _ k => XS.aloadN X_48.here hx rfl (hb hby at_33) rfl rfl k) ?_
    refine Go.to (mkF m 35 #[.val (.int p1), .val (.int p2), .val (.int c), .val (.ref el3)] [(.int c), (.ref el3)]) (fun _ k => XS.iloadN X_48.here hx rfl (hb hby at_34) rfl  k) ?_
    have f_50 : Sta Z T_2.heap "com/example/reprofield/reprofield/CodedElement" "TYPE_OF_DATE" "Lcom/example/reprofield/reprofield/CodedElement;" (.ref el0) := (own_sta_keep PS_com_example_reprofield_reprofield_CodedElement_TYPE_OF_DATE K_2 all0)
    have f_51 : Sta Z T_2.heap "com/example/reprofield/reprofield/CodedElement" "DATE_1" "Lcom/example/reprofield/reprofield/CodedElement;" (.ref el1) := (own_sta_keep PS_com_example_reprofield_reprofield_CodedElement_DATE_1 K_2 all0)
    have f_52 : Sta Z T_2.heap "com/example/reprofield/reprofield/CodedElement" "DATE_2" "Lcom/example/reprofield/reprofield/CodedElement;" (.ref el2) := (own_sta_keep PS_com_example_reprofield_reprofield_CodedElement_DATE_2 K_2 all0)
    have f_53 : Sta Z T_2.heap "com/example/reprofield/reprofield/CodedElement" "PLACE" "Lcom/example/reprofield/reprofield/CodedElement;" (.ref el3) := (own_sta_keep PS_com_example_reprofield_reprofield_CodedElement_PLACE K_2 all0)
    have f_54 : Sta Z T_2.heap "com/example/reprofield/reprofield/CodedElement" "FREQUENCY" "Lcom/example/reprofield/reprofield/CodedElement;" (.ref el4) := (own_sta_keep PS_com_example_reprofield_reprofield_CodedElement_FREQUENCY K_2 all0)
    have f_55 : Sta Z T_2.heap "com/example/reprofield/reprofield/CodedElement" "REGULARITY" "Lcom/example/reprofield/reprofield/CodedElement;" (.ref el5) := (own_sta_keep PS_com_example_reprofield_reprofield_CodedElement_REGULARITY K_2 all0)
    have f_56 : Sta Z T_2.heap "com/example/reprofield/reprofield/CodedElement" "FORM_OF_ITEM" "Lcom/example/reprofield/reprofield/CodedElement;" (.ref el6) := (own_sta_keep PS_com_example_reprofield_reprofield_CodedElement_FORM_OF_ITEM K_2 all0)
    refine Go.stat X_48 hx hZ (y := (⟨"com/example/reprofield/reprofield/CodedElementForOclcSubfieldPinLaw", "expected", "(C)Lcom/example/reprofield/reprofield/CodedElement;"⟩ : MethodName)) hown (hw _ (List.mem_of_getElem? (i := 40) rfl)) (hw _ (List.mem_of_getElem? (i := 41) rfl)) (hw _ (List.mem_of_getElem? (i := 42) rfl)) (hw _ (List.mem_of_getElem? (i := 43) rfl)) (by decide) e_48 (argsL := [(.int c)]) (rest := [(.ref el3)]) (Met1.back (W := 1) (rm5 l Z a0 hw c el0 el1 el2 el3 el4 el5 el6 T_2.heap n0 f_46 f_50 f_51 f_52 f_53 f_54 f_55 f_56) hZ (hw _ (List.mem_of_getElem? (i := 43) rfl)) (hw _ (List.mem_of_getElem? (i := 42) rfl)) (by decide) (by decide)) (pc := 35) (Ls := #[.val (.int p1), .val (.int p2), .val (.int c), .val (.ref el3)]) (by rw [hml]; rfl) (lenOf own_pd6 rfl) rfl (Nat.le_refl _) (hb hby at_35) (by decide) (by decide) ?_
    intro T_57 v_57 L_57 X_57 hQ_57
    obtain ⟨rfl, Nq_57, hh_57⟩ := hQ_57
    have N_57 := Fr.app N_47 Nq_57
    show Go p e below (FinN s (Q0 Z p1 p2 av kv o el0 el1 el2 el3 el4 el5 el6 h0 n0) room_1.cells room_1.slots) T_57 (mkF m 38 #[.val (.int p1), .val (.int p2), .val (.int c), .val (.ref el3)] [(own_el c el0 el1 el2 el3 el4 el5 el6), (.ref el3)])
    refine Go.to (mkF m 41 #[.val (.int p1), .val (.int p2), .val (.int c), .val (.ref el3)] []) (fun _ k => acmp X_57 hx rfl rfl (own_el_ref _ _ _ _ _ _ _ _) (pc0 := 38) (pc' := 41) (same := true) rfl (hb hby at_38) rfl (decide_eq_true hk.symm) (by decide) (by decide) k) ?_
    refine Go.to (mkF m 42 #[.val (.int p1), .val (.int p2), .val (.int c), .val (.ref el3)] [(.int (1 : Int32))]) (fun _ k => XS.iconst X_57.here hx rfl (hb hby at_41) k) ?_
    refine Go.to (mkF m 46 #[.val (.int p1), .val (.int p2), .val (.int c), .val (.ref el3)] [(.int (1 : Int32))]) (fun _ k => XS.goto X_57.here hx rfl (pc0 := 42) (pc' := 46) rfl (hb hby at_42) (by decide) (by decide) k) ?_
    refine Go.retN X_57 hx (t := .boolean) hret hlk (by simp) (hb hby at_46) (by decide) (by decide) (z' := (1 : Int32)) rfl ?_
    have f_58 : Keep h0 T_2.heap [] := ((Keep.refl h0 []).trans K_2 all0)
    show (Q0 Z p1 p2 av kv o el0 el1 el2 el3 el4 el5 el6 h0 n0) _ T_57.heap _
    rw [hh_57]
    exact ⟨rfl, N_57, f_58⟩
  · have f_59 : Fld Z T_2.heap r_2 "java/util/Optional" "value" "Ljava/lang/Object;" (.ref el4) := hk ▸ pf_2_1
    have f_60 : n0 ≤ T_2.heap.size := (Nat.le_trans Z0 K_2.1)
    refine Go.virt X_2 hx hZ (y := (⟨"java/util/Optional", "orElse", "(Ljava/lang/Object;)Ljava/lang/Object;"⟩ : MethodName)) (z := (⟨"java/util/Optional", "orElse", "(Ljava/lang/Object;)Ljava/lang/Object;"⟩ : MethodName)) hown (hw _ (List.mem_of_getElem? (i := 33) rfl)) (hw _ (List.mem_of_getElem? (i := 34) rfl)) (notFace_of_selects (args := #[]) (mvT hZ (hw _ (List.mem_of_getElem? (i := 36) rfl)))) (hw _ (List.mem_of_getElem? (i := 36) rfl)) (hw _ (List.mem_of_getElem? (i := 35) rfl)) (by decide) rfl (a := r_2) pf_2_0 (argsL := [.null]) (rest := []) (Met1.back (W := 0) (rm15s l Z a0 hw r_2 el4 T_2.heap n0 f_60 f_59) hZ (hw _ (List.mem_of_getElem? (i := 37) rfl)) (hw _ (List.mem_of_getElem? (i := 30) rfl)) (by decide) (by decide)) (pc := 26) (Ls := #[.val (.int p1), .val (.int p2), .val (.int c), .unset]) (by rw [hml]; rfl) (lenOf own_pd0 rfl) rfl (Nat.le_refl _) (hb hby at_26) (by decide) (by decide) ?_
    intro T_61 v_61 L_61 X_61 hQ_61
    obtain ⟨rfl, Nq_61, hh_61⟩ := hQ_61
    have N_61 := Fr.app N_2 Nq_61
    show Go p e below (FinN s (Q0 Z p1 p2 av kv o el0 el1 el2 el3 el4 el5 el6 h0 n0) room_1.cells room_1.slots) T_61 (mkF m 29 #[.val (.int p1), .val (.int p2), .val (.int c), .unset] [(.ref el4)])
    have f_63 : Exa Z T_2.heap el4 "com/example/reprofield/reprofield/CodedElement" := (PE_el4.keep K_2)
    obtain ⟨T_62, X_62, e_62, st_62⟩ := castY X_61 hx hZ hown (hw _ (List.mem_of_getElem? (i := 60) rfl)) hh_61 (Ins.self f_63) (g := (mkF m 29 #[.val (.int p1), .val (.int p2), .val (.int c), .unset] [(.ref el4)])) rfl rfl (hb hby at_29)
    refine Go.to (mkF m 32 #[.val (.int p1), .val (.int p2), .val (.int c), .unset] [(.ref el4)]) st_62 ?_
    refine Go.to (mkF m 33 #[.val (.int p1), .val (.int p2), .val (.int c), .val (.ref el4)] []) (fun _ k => XS.astoreN X_62.here hx rfl (hb hby at_32) rfl rfl (l' := #[.val (.int p1), .val (.int p2), .val (.int c), .val (.ref el4)]) rfl k) ?_
    refine Go.to (mkF m 34 #[.val (.int p1), .val (.int p2), .val (.int c), .val (.ref el4)] [(.ref el4)]) (fun _ k => XS.aloadN X_62.here hx rfl (hb hby at_33) rfl rfl k) ?_
    refine Go.to (mkF m 35 #[.val (.int p1), .val (.int p2), .val (.int c), .val (.ref el4)] [(.int c), (.ref el4)]) (fun _ k => XS.iloadN X_62.here hx rfl (hb hby at_34) rfl  k) ?_
    have f_64 : Sta Z T_2.heap "com/example/reprofield/reprofield/CodedElement" "TYPE_OF_DATE" "Lcom/example/reprofield/reprofield/CodedElement;" (.ref el0) := (own_sta_keep PS_com_example_reprofield_reprofield_CodedElement_TYPE_OF_DATE K_2 all0)
    have f_65 : Sta Z T_2.heap "com/example/reprofield/reprofield/CodedElement" "DATE_1" "Lcom/example/reprofield/reprofield/CodedElement;" (.ref el1) := (own_sta_keep PS_com_example_reprofield_reprofield_CodedElement_DATE_1 K_2 all0)
    have f_66 : Sta Z T_2.heap "com/example/reprofield/reprofield/CodedElement" "DATE_2" "Lcom/example/reprofield/reprofield/CodedElement;" (.ref el2) := (own_sta_keep PS_com_example_reprofield_reprofield_CodedElement_DATE_2 K_2 all0)
    have f_67 : Sta Z T_2.heap "com/example/reprofield/reprofield/CodedElement" "PLACE" "Lcom/example/reprofield/reprofield/CodedElement;" (.ref el3) := (own_sta_keep PS_com_example_reprofield_reprofield_CodedElement_PLACE K_2 all0)
    have f_68 : Sta Z T_2.heap "com/example/reprofield/reprofield/CodedElement" "FREQUENCY" "Lcom/example/reprofield/reprofield/CodedElement;" (.ref el4) := (own_sta_keep PS_com_example_reprofield_reprofield_CodedElement_FREQUENCY K_2 all0)
    have f_69 : Sta Z T_2.heap "com/example/reprofield/reprofield/CodedElement" "REGULARITY" "Lcom/example/reprofield/reprofield/CodedElement;" (.ref el5) := (own_sta_keep PS_com_example_reprofield_reprofield_CodedElement_REGULARITY K_2 all0)
    have f_70 : Sta Z T_2.heap "com/example/reprofield/reprofield/CodedElement" "FORM_OF_ITEM" "Lcom/example/reprofield/reprofield/CodedElement;" (.ref el6) := (own_sta_keep PS_com_example_reprofield_reprofield_CodedElement_FORM_OF_ITEM K_2 all0)
    refine Go.stat X_62 hx hZ (y := (⟨"com/example/reprofield/reprofield/CodedElementForOclcSubfieldPinLaw", "expected", "(C)Lcom/example/reprofield/reprofield/CodedElement;"⟩ : MethodName)) hown (hw _ (List.mem_of_getElem? (i := 40) rfl)) (hw _ (List.mem_of_getElem? (i := 41) rfl)) (hw _ (List.mem_of_getElem? (i := 42) rfl)) (hw _ (List.mem_of_getElem? (i := 43) rfl)) (by decide) e_62 (argsL := [(.int c)]) (rest := [(.ref el4)]) (Met1.back (W := 1) (rm5 l Z a0 hw c el0 el1 el2 el3 el4 el5 el6 T_2.heap n0 f_60 f_64 f_65 f_66 f_67 f_68 f_69 f_70) hZ (hw _ (List.mem_of_getElem? (i := 43) rfl)) (hw _ (List.mem_of_getElem? (i := 42) rfl)) (by decide) (by decide)) (pc := 35) (Ls := #[.val (.int p1), .val (.int p2), .val (.int c), .val (.ref el4)]) (by rw [hml]; rfl) (lenOf own_pd6 rfl) rfl (Nat.le_refl _) (hb hby at_35) (by decide) (by decide) ?_
    intro T_71 v_71 L_71 X_71 hQ_71
    obtain ⟨rfl, Nq_71, hh_71⟩ := hQ_71
    have N_71 := Fr.app N_61 Nq_71
    show Go p e below (FinN s (Q0 Z p1 p2 av kv o el0 el1 el2 el3 el4 el5 el6 h0 n0) room_1.cells room_1.slots) T_71 (mkF m 38 #[.val (.int p1), .val (.int p2), .val (.int c), .val (.ref el4)] [(own_el c el0 el1 el2 el3 el4 el5 el6), (.ref el4)])
    refine Go.to (mkF m 41 #[.val (.int p1), .val (.int p2), .val (.int c), .val (.ref el4)] []) (fun _ k => acmp X_71 hx rfl rfl (own_el_ref _ _ _ _ _ _ _ _) (pc0 := 38) (pc' := 41) (same := true) rfl (hb hby at_38) rfl (decide_eq_true hk.symm) (by decide) (by decide) k) ?_
    refine Go.to (mkF m 42 #[.val (.int p1), .val (.int p2), .val (.int c), .val (.ref el4)] [(.int (1 : Int32))]) (fun _ k => XS.iconst X_71.here hx rfl (hb hby at_41) k) ?_
    refine Go.to (mkF m 46 #[.val (.int p1), .val (.int p2), .val (.int c), .val (.ref el4)] [(.int (1 : Int32))]) (fun _ k => XS.goto X_71.here hx rfl (pc0 := 42) (pc' := 46) rfl (hb hby at_42) (by decide) (by decide) k) ?_
    refine Go.retN X_71 hx (t := .boolean) hret hlk (by simp) (hb hby at_46) (by decide) (by decide) (z' := (1 : Int32)) rfl ?_
    have f_72 : Keep h0 T_2.heap [] := ((Keep.refl h0 []).trans K_2 all0)
    show (Q0 Z p1 p2 av kv o el0 el1 el2 el3 el4 el5 el6 h0 n0) _ T_71.heap _
    rw [hh_71]
    exact ⟨rfl, N_71, f_72⟩
  · have f_73 : Fld Z T_2.heap r_2 "java/util/Optional" "value" "Ljava/lang/Object;" (.ref el5) := hk ▸ pf_2_1
    have f_74 : n0 ≤ T_2.heap.size := (Nat.le_trans Z0 K_2.1)
    refine Go.virt X_2 hx hZ (y := (⟨"java/util/Optional", "orElse", "(Ljava/lang/Object;)Ljava/lang/Object;"⟩ : MethodName)) (z := (⟨"java/util/Optional", "orElse", "(Ljava/lang/Object;)Ljava/lang/Object;"⟩ : MethodName)) hown (hw _ (List.mem_of_getElem? (i := 33) rfl)) (hw _ (List.mem_of_getElem? (i := 34) rfl)) (notFace_of_selects (args := #[]) (mvT hZ (hw _ (List.mem_of_getElem? (i := 36) rfl)))) (hw _ (List.mem_of_getElem? (i := 36) rfl)) (hw _ (List.mem_of_getElem? (i := 35) rfl)) (by decide) rfl (a := r_2) pf_2_0 (argsL := [.null]) (rest := []) (Met1.back (W := 0) (rm15s l Z a0 hw r_2 el5 T_2.heap n0 f_74 f_73) hZ (hw _ (List.mem_of_getElem? (i := 37) rfl)) (hw _ (List.mem_of_getElem? (i := 30) rfl)) (by decide) (by decide)) (pc := 26) (Ls := #[.val (.int p1), .val (.int p2), .val (.int c), .unset]) (by rw [hml]; rfl) (lenOf own_pd0 rfl) rfl (Nat.le_refl _) (hb hby at_26) (by decide) (by decide) ?_
    intro T_75 v_75 L_75 X_75 hQ_75
    obtain ⟨rfl, Nq_75, hh_75⟩ := hQ_75
    have N_75 := Fr.app N_2 Nq_75
    show Go p e below (FinN s (Q0 Z p1 p2 av kv o el0 el1 el2 el3 el4 el5 el6 h0 n0) room_1.cells room_1.slots) T_75 (mkF m 29 #[.val (.int p1), .val (.int p2), .val (.int c), .unset] [(.ref el5)])
    have f_77 : Exa Z T_2.heap el5 "com/example/reprofield/reprofield/CodedElement" := (PE_el5.keep K_2)
    obtain ⟨T_76, X_76, e_76, st_76⟩ := castY X_75 hx hZ hown (hw _ (List.mem_of_getElem? (i := 60) rfl)) hh_75 (Ins.self f_77) (g := (mkF m 29 #[.val (.int p1), .val (.int p2), .val (.int c), .unset] [(.ref el5)])) rfl rfl (hb hby at_29)
    refine Go.to (mkF m 32 #[.val (.int p1), .val (.int p2), .val (.int c), .unset] [(.ref el5)]) st_76 ?_
    refine Go.to (mkF m 33 #[.val (.int p1), .val (.int p2), .val (.int c), .val (.ref el5)] []) (fun _ k => XS.astoreN X_76.here hx rfl (hb hby at_32) rfl rfl (l' := #[.val (.int p1), .val (.int p2), .val (.int c), .val (.ref el5)]) rfl k) ?_
    refine Go.to (mkF m 34 #[.val (.int p1), .val (.int p2), .val (.int c), .val (.ref el5)] [(.ref el5)]) (fun _ k => XS.aloadN X_76.here hx rfl (hb hby at_33) rfl rfl k) ?_
    refine Go.to (mkF m 35 #[.val (.int p1), .val (.int p2), .val (.int c), .val (.ref el5)] [(.int c), (.ref el5)]) (fun _ k => XS.iloadN X_76.here hx rfl (hb hby at_34) rfl  k) ?_
    have f_78 : Sta Z T_2.heap "com/example/reprofield/reprofield/CodedElement" "TYPE_OF_DATE" "Lcom/example/reprofield/reprofield/CodedElement;" (.ref el0) := (own_sta_keep PS_com_example_reprofield_reprofield_CodedElement_TYPE_OF_DATE K_2 all0)
    have f_79 : Sta Z T_2.heap "com/example/reprofield/reprofield/CodedElement" "DATE_1" "Lcom/example/reprofield/reprofield/CodedElement;" (.ref el1) := (own_sta_keep PS_com_example_reprofield_reprofield_CodedElement_DATE_1 K_2 all0)
    have f_80 : Sta Z T_2.heap "com/example/reprofield/reprofield/CodedElement" "DATE_2" "Lcom/example/reprofield/reprofield/CodedElement;" (.ref el2) := (own_sta_keep PS_com_example_reprofield_reprofield_CodedElement_DATE_2 K_2 all0)
    have f_81 : Sta Z T_2.heap "com/example/reprofield/reprofield/CodedElement" "PLACE" "Lcom/example/reprofield/reprofield/CodedElement;" (.ref el3) := (own_sta_keep PS_com_example_reprofield_reprofield_CodedElement_PLACE K_2 all0)
    have f_82 : Sta Z T_2.heap "com/example/reprofield/reprofield/CodedElement" "FREQUENCY" "Lcom/example/reprofield/reprofield/CodedElement;" (.ref el4) := (own_sta_keep PS_com_example_reprofield_reprofield_CodedElement_FREQUENCY K_2 all0)
    have f_83 : Sta Z T_2.heap "com/example/reprofield/reprofield/CodedElement" "REGULARITY" "Lcom/example/reprofield/reprofield/CodedElement;" (.ref el5) := (own_sta_keep PS_com_example_reprofield_reprofield_CodedElement_REGULARITY K_2 all0)
    have f_84 : Sta Z T_2.heap "com/example/reprofield/reprofield/CodedElement" "FORM_OF_ITEM" "Lcom/example/reprofield/reprofield/CodedElement;" (.ref el6) := (own_sta_keep PS_com_example_reprofield_reprofield_CodedElement_FORM_OF_ITEM K_2 all0)
    refine Go.stat X_76 hx hZ (y := (⟨"com/example/reprofield/reprofield/CodedElementForOclcSubfieldPinLaw", "expected", "(C)Lcom/example/reprofield/reprofield/CodedElement;"⟩ : MethodName)) hown (hw _ (List.mem_of_getElem? (i := 40) rfl)) (hw _ (List.mem_of_getElem? (i := 41) rfl)) (hw _ (List.mem_of_getElem? (i := 42) rfl)) (hw _ (List.mem_of_getElem? (i := 43) rfl)) (by decide) e_76 (argsL := [(.int c)]) (rest := [(.ref el5)]) (Met1.back (W := 1) (rm5 l Z a0 hw c el0 el1 el2 el3 el4 el5 el6 T_2.heap n0 f_74 f_78 f_79 f_80 f_81 f_82 f_83 f_84) hZ (hw _ (List.mem_of_getElem? (i := 43) rfl)) (hw _ (List.mem_of_getElem? (i := 42) rfl)) (by decide) (by decide)) (pc := 35) (Ls := #[.val (.int p1), .val (.int p2), .val (.int c), .val (.ref el5)]) (by rw [hml]; rfl) (lenOf own_pd6 rfl) rfl (Nat.le_refl _) (hb hby at_35) (by decide) (by decide) ?_
    intro T_85 v_85 L_85 X_85 hQ_85
    obtain ⟨rfl, Nq_85, hh_85⟩ := hQ_85
    have N_85 := Fr.app N_75 Nq_85
    show Go p e below (FinN s (Q0 Z p1 p2 av kv o el0 el1 el2 el3 el4 el5 el6 h0 n0) room_1.cells room_1.slots) T_85 (mkF m 38 #[.val (.int p1), .val (.int p2), .val (.int c), .val (.ref el5)] [(own_el c el0 el1 el2 el3 el4 el5 el6), (.ref el5)])
    refine Go.to (mkF m 41 #[.val (.int p1), .val (.int p2), .val (.int c), .val (.ref el5)] []) (fun _ k => acmp X_85 hx rfl rfl (own_el_ref _ _ _ _ _ _ _ _) (pc0 := 38) (pc' := 41) (same := true) rfl (hb hby at_38) rfl (decide_eq_true hk.symm) (by decide) (by decide) k) ?_
    refine Go.to (mkF m 42 #[.val (.int p1), .val (.int p2), .val (.int c), .val (.ref el5)] [(.int (1 : Int32))]) (fun _ k => XS.iconst X_85.here hx rfl (hb hby at_41) k) ?_
    refine Go.to (mkF m 46 #[.val (.int p1), .val (.int p2), .val (.int c), .val (.ref el5)] [(.int (1 : Int32))]) (fun _ k => XS.goto X_85.here hx rfl (pc0 := 42) (pc' := 46) rfl (hb hby at_42) (by decide) (by decide) k) ?_
    refine Go.retN X_85 hx (t := .boolean) hret hlk (by simp) (hb hby at_46) (by decide) (by decide) (z' := (1 : Int32)) rfl ?_
    have f_86 : Keep h0 T_2.heap [] := ((Keep.refl h0 []).trans K_2 all0)
    show (Q0 Z p1 p2 av kv o el0 el1 el2 el3 el4 el5 el6 h0 n0) _ T_85.heap _
    rw [hh_85]
    exact ⟨rfl, N_85, f_86⟩
  · have f_87 : Fld Z T_2.heap r_2 "java/util/Optional" "value" "Ljava/lang/Object;" (.ref el6) := hk ▸ pf_2_1
    have f_88 : n0 ≤ T_2.heap.size := (Nat.le_trans Z0 K_2.1)
    refine Go.virt X_2 hx hZ (y := (⟨"java/util/Optional", "orElse", "(Ljava/lang/Object;)Ljava/lang/Object;"⟩ : MethodName)) (z := (⟨"java/util/Optional", "orElse", "(Ljava/lang/Object;)Ljava/lang/Object;"⟩ : MethodName)) hown (hw _ (List.mem_of_getElem? (i := 33) rfl)) (hw _ (List.mem_of_getElem? (i := 34) rfl)) (notFace_of_selects (args := #[]) (mvT hZ (hw _ (List.mem_of_getElem? (i := 36) rfl)))) (hw _ (List.mem_of_getElem? (i := 36) rfl)) (hw _ (List.mem_of_getElem? (i := 35) rfl)) (by decide) rfl (a := r_2) pf_2_0 (argsL := [.null]) (rest := []) (Met1.back (W := 0) (rm15s l Z a0 hw r_2 el6 T_2.heap n0 f_88 f_87) hZ (hw _ (List.mem_of_getElem? (i := 37) rfl)) (hw _ (List.mem_of_getElem? (i := 30) rfl)) (by decide) (by decide)) (pc := 26) (Ls := #[.val (.int p1), .val (.int p2), .val (.int c), .unset]) (by rw [hml]; rfl) (lenOf own_pd0 rfl) rfl (Nat.le_refl _) (hb hby at_26) (by decide) (by decide) ?_
    intro T_89 v_89 L_89 X_89 hQ_89
    obtain ⟨rfl, Nq_89, hh_89⟩ := hQ_89
    have N_89 := Fr.app N_2 Nq_89
    show Go p e below (FinN s (Q0 Z p1 p2 av kv o el0 el1 el2 el3 el4 el5 el6 h0 n0) room_1.cells room_1.slots) T_89 (mkF m 29 #[.val (.int p1), .val (.int p2), .val (.int c), .unset] [(.ref el6)])
    have f_91 : Exa Z T_2.heap el6 "com/example/reprofield/reprofield/CodedElement" := (PE_el6.keep K_2)
    obtain ⟨T_90, X_90, e_90, st_90⟩ := castY X_89 hx hZ hown (hw _ (List.mem_of_getElem? (i := 60) rfl)) hh_89 (Ins.self f_91) (g := (mkF m 29 #[.val (.int p1), .val (.int p2), .val (.int c), .unset] [(.ref el6)])) rfl rfl (hb hby at_29)
    refine Go.to (mkF m 32 #[.val (.int p1), .val (.int p2), .val (.int c), .unset] [(.ref el6)]) st_90 ?_
    refine Go.to (mkF m 33 #[.val (.int p1), .val (.int p2), .val (.int c), .val (.ref el6)] []) (fun _ k => XS.astoreN X_90.here hx rfl (hb hby at_32) rfl rfl (l' := #[.val (.int p1), .val (.int p2), .val (.int c), .val (.ref el6)]) rfl k) ?_
    refine Go.to (mkF m 34 #[.val (.int p1), .val (.int p2), .val (.int c), .val (.ref el6)] [(.ref el6)]) (fun _ k => XS.aloadN X_90.here hx rfl (hb hby at_33) rfl rfl k) ?_
    refine Go.to (mkF m 35 #[.val (.int p1), .val (.int p2), .val (.int c), .val (.ref el6)] [(.int c), (.ref el6)]) (fun _ k => XS.iloadN X_90.here hx rfl (hb hby at_34) rfl  k) ?_
    have f_92 : Sta Z T_2.heap "com/example/reprofield/reprofield/CodedElement" "TYPE_OF_DATE" "Lcom/example/reprofield/reprofield/CodedElement;" (.ref el0) := (own_sta_keep PS_com_example_reprofield_reprofield_CodedElement_TYPE_OF_DATE K_2 all0)
    have f_93 : Sta Z T_2.heap "com/example/reprofield/reprofield/CodedElement" "DATE_1" "Lcom/example/reprofield/reprofield/CodedElement;" (.ref el1) := (own_sta_keep PS_com_example_reprofield_reprofield_CodedElement_DATE_1 K_2 all0)
    have f_94 : Sta Z T_2.heap "com/example/reprofield/reprofield/CodedElement" "DATE_2" "Lcom/example/reprofield/reprofield/CodedElement;" (.ref el2) := (own_sta_keep PS_com_example_reprofield_reprofield_CodedElement_DATE_2 K_2 all0)
    have f_95 : Sta Z T_2.heap "com/example/reprofield/reprofield/CodedElement" "PLACE" "Lcom/example/reprofield/reprofield/CodedElement;" (.ref el3) := (own_sta_keep PS_com_example_reprofield_reprofield_CodedElement_PLACE K_2 all0)
    have f_96 : Sta Z T_2.heap "com/example/reprofield/reprofield/CodedElement" "FREQUENCY" "Lcom/example/reprofield/reprofield/CodedElement;" (.ref el4) := (own_sta_keep PS_com_example_reprofield_reprofield_CodedElement_FREQUENCY K_2 all0)
    have f_97 : Sta Z T_2.heap "com/example/reprofield/reprofield/CodedElement" "REGULARITY" "Lcom/example/reprofield/reprofield/CodedElement;" (.ref el5) := (own_sta_keep PS_com_example_reprofield_reprofield_CodedElement_REGULARITY K_2 all0)
    have f_98 : Sta Z T_2.heap "com/example/reprofield/reprofield/CodedElement" "FORM_OF_ITEM" "Lcom/example/reprofield/reprofield/CodedElement;" (.ref el6) := (own_sta_keep PS_com_example_reprofield_reprofield_CodedElement_FORM_OF_ITEM K_2 all0)
    refine Go.stat X_90 hx hZ (y := (⟨"com/example/reprofield/reprofield/CodedElementForOclcSubfieldPinLaw", "expected", "(C)Lcom/example/reprofield/reprofield/CodedElement;"⟩ : MethodName)) hown (hw _ (List.mem_of_getElem? (i := 40) rfl)) (hw _ (List.mem_of_getElem? (i := 41) rfl)) (hw _ (List.mem_of_getElem? (i := 42) rfl)) (hw _ (List.mem_of_getElem? (i := 43) rfl)) (by decide) e_90 (argsL := [(.int c)]) (rest := [(.ref el6)]) (Met1.back (W := 1) (rm5 l Z a0 hw c el0 el1 el2 el3 el4 el5 el6 T_2.heap n0 f_88 f_92 f_93 f_94 f_95 f_96 f_97 f_98) hZ (hw _ (List.mem_of_getElem? (i := 43) rfl)) (hw _ (List.mem_of_getElem? (i := 42) rfl)) (by decide) (by decide)) (pc := 35) (Ls := #[.val (.int p1), .val (.int p2), .val (.int c), .val (.ref el6)]) (by rw [hml]; rfl) (lenOf own_pd6 rfl) rfl (Nat.le_refl _) (hb hby at_35) (by decide) (by decide) ?_
    intro T_99 v_99 L_99 X_99 hQ_99
    obtain ⟨rfl, Nq_99, hh_99⟩ := hQ_99
    have N_99 := Fr.app N_89 Nq_99
    show Go p e below (FinN s (Q0 Z p1 p2 av kv o el0 el1 el2 el3 el4 el5 el6 h0 n0) room_1.cells room_1.slots) T_99 (mkF m 38 #[.val (.int p1), .val (.int p2), .val (.int c), .val (.ref el6)] [(own_el c el0 el1 el2 el3 el4 el5 el6), (.ref el6)])
    refine Go.to (mkF m 41 #[.val (.int p1), .val (.int p2), .val (.int c), .val (.ref el6)] []) (fun _ k => acmp X_99 hx rfl rfl (own_el_ref _ _ _ _ _ _ _ _) (pc0 := 38) (pc' := 41) (same := true) rfl (hb hby at_38) rfl (decide_eq_true hk.symm) (by decide) (by decide) k) ?_
    refine Go.to (mkF m 42 #[.val (.int p1), .val (.int p2), .val (.int c), .val (.ref el6)] [(.int (1 : Int32))]) (fun _ k => XS.iconst X_99.here hx rfl (hb hby at_41) k) ?_
    refine Go.to (mkF m 46 #[.val (.int p1), .val (.int p2), .val (.int c), .val (.ref el6)] [(.int (1 : Int32))]) (fun _ k => XS.goto X_99.here hx rfl (pc0 := 42) (pc' := 46) rfl (hb hby at_42) (by decide) (by decide) k) ?_
    refine Go.retN X_99 hx (t := .boolean) hret hlk (by simp) (hb hby at_46) (by decide) (by decide) (z' := (1 : Int32)) rfl ?_
    have f_100 : Keep h0 T_2.heap [] := ((Keep.refl h0 []).trans K_2 all0)
    show (Q0 Z p1 p2 av kv o el0 el1 el2 el3 el4 el5 el6 h0 n0) _ T_99.heap _
    rw [hh_99]
    exact ⟨rfl, N_99, f_100⟩
  · have f_101 : Fld Z T_2.heap r_2 "java/util/Optional" "value" "Ljava/lang/Object;" .null := hk ▸ pf_2_1
    have f_102 : n0 ≤ T_2.heap.size := (Nat.le_trans Z0 K_2.1)
    refine Go.virt X_2 hx hZ (y := (⟨"java/util/Optional", "orElse", "(Ljava/lang/Object;)Ljava/lang/Object;"⟩ : MethodName)) (z := (⟨"java/util/Optional", "orElse", "(Ljava/lang/Object;)Ljava/lang/Object;"⟩ : MethodName)) hown (hw _ (List.mem_of_getElem? (i := 33) rfl)) (hw _ (List.mem_of_getElem? (i := 34) rfl)) (notFace_of_selects (args := #[]) (mvT hZ (hw _ (List.mem_of_getElem? (i := 36) rfl)))) (hw _ (List.mem_of_getElem? (i := 36) rfl)) (hw _ (List.mem_of_getElem? (i := 35) rfl)) (by decide) rfl (a := r_2) pf_2_0 (argsL := [.null]) (rest := []) (Met1.back (W := 0) (rm15n l Z a0 hw r_2 T_2.heap n0 f_102 f_101) hZ (hw _ (List.mem_of_getElem? (i := 37) rfl)) (hw _ (List.mem_of_getElem? (i := 30) rfl)) (by decide) (by decide)) (pc := 26) (Ls := #[.val (.int p1), .val (.int p2), .val (.int c), .unset]) (by rw [hml]; rfl) (lenOf own_pd0 rfl) rfl (Nat.le_refl _) (hb hby at_26) (by decide) (by decide) ?_
    intro T_103 v_103 L_103 X_103 hQ_103
    obtain ⟨rfl, Nq_103, hh_103⟩ := hQ_103
    have N_103 := Fr.app N_2 Nq_103
    show Go p e below (FinN s (Q0 Z p1 p2 av kv o el0 el1 el2 el3 el4 el5 el6 h0 n0) room_1.cells room_1.slots) T_103 (mkF m 29 #[.val (.int p1), .val (.int p2), .val (.int c), .unset] [.null])
    refine Go.to (mkF m 32 #[.val (.int p1), .val (.int p2), .val (.int c), .unset] [.null]) (fun _ k => X_103.checkcastNull hx (g := (mkF m 29 #[.val (.int p1), .val (.int p2), .val (.int c), .unset] [.null])) rfl rfl (hb hby at_29) _ k) ?_
    refine Go.to (mkF m 33 #[.val (.int p1), .val (.int p2), .val (.int c), .val .null] []) (fun _ k => XS.astoreN X_103.here hx rfl (hb hby at_32) rfl rfl (l' := #[.val (.int p1), .val (.int p2), .val (.int c), .val .null]) rfl k) ?_
    refine Go.to (mkF m 34 #[.val (.int p1), .val (.int p2), .val (.int c), .val .null] [.null]) (fun _ k => XS.aloadN X_103.here hx rfl (hb hby at_33) rfl rfl k) ?_
    refine Go.to (mkF m 35 #[.val (.int p1), .val (.int p2), .val (.int c), .val .null] [(.int c), .null]) (fun _ k => XS.iloadN X_103.here hx rfl (hb hby at_34) rfl  k) ?_
    have f_104 : Sta Z T_2.heap "com/example/reprofield/reprofield/CodedElement" "TYPE_OF_DATE" "Lcom/example/reprofield/reprofield/CodedElement;" (.ref el0) := (own_sta_keep PS_com_example_reprofield_reprofield_CodedElement_TYPE_OF_DATE K_2 all0)
    have f_105 : Sta Z T_2.heap "com/example/reprofield/reprofield/CodedElement" "DATE_1" "Lcom/example/reprofield/reprofield/CodedElement;" (.ref el1) := (own_sta_keep PS_com_example_reprofield_reprofield_CodedElement_DATE_1 K_2 all0)
    have f_106 : Sta Z T_2.heap "com/example/reprofield/reprofield/CodedElement" "DATE_2" "Lcom/example/reprofield/reprofield/CodedElement;" (.ref el2) := (own_sta_keep PS_com_example_reprofield_reprofield_CodedElement_DATE_2 K_2 all0)
    have f_107 : Sta Z T_2.heap "com/example/reprofield/reprofield/CodedElement" "PLACE" "Lcom/example/reprofield/reprofield/CodedElement;" (.ref el3) := (own_sta_keep PS_com_example_reprofield_reprofield_CodedElement_PLACE K_2 all0)
    have f_108 : Sta Z T_2.heap "com/example/reprofield/reprofield/CodedElement" "FREQUENCY" "Lcom/example/reprofield/reprofield/CodedElement;" (.ref el4) := (own_sta_keep PS_com_example_reprofield_reprofield_CodedElement_FREQUENCY K_2 all0)
    have f_109 : Sta Z T_2.heap "com/example/reprofield/reprofield/CodedElement" "REGULARITY" "Lcom/example/reprofield/reprofield/CodedElement;" (.ref el5) := (own_sta_keep PS_com_example_reprofield_reprofield_CodedElement_REGULARITY K_2 all0)
    have f_110 : Sta Z T_2.heap "com/example/reprofield/reprofield/CodedElement" "FORM_OF_ITEM" "Lcom/example/reprofield/reprofield/CodedElement;" (.ref el6) := (own_sta_keep PS_com_example_reprofield_reprofield_CodedElement_FORM_OF_ITEM K_2 all0)
    refine Go.stat X_103 hx hZ (y := (⟨"com/example/reprofield/reprofield/CodedElementForOclcSubfieldPinLaw", "expected", "(C)Lcom/example/reprofield/reprofield/CodedElement;"⟩ : MethodName)) hown (hw _ (List.mem_of_getElem? (i := 40) rfl)) (hw _ (List.mem_of_getElem? (i := 41) rfl)) (hw _ (List.mem_of_getElem? (i := 42) rfl)) (hw _ (List.mem_of_getElem? (i := 43) rfl)) (by decide) hh_103 (argsL := [(.int c)]) (rest := [.null]) (Met1.back (W := 1) (rm5 l Z a0 hw c el0 el1 el2 el3 el4 el5 el6 T_2.heap n0 f_102 f_104 f_105 f_106 f_107 f_108 f_109 f_110) hZ (hw _ (List.mem_of_getElem? (i := 43) rfl)) (hw _ (List.mem_of_getElem? (i := 42) rfl)) (by decide) (by decide)) (pc := 35) (Ls := #[.val (.int p1), .val (.int p2), .val (.int c), .val .null]) (by rw [hml]; rfl) (lenOf own_pd6 rfl) rfl (Nat.le_refl _) (hb hby at_35) (by decide) (by decide) ?_
    intro T_111 v_111 L_111 X_111 hQ_111
    obtain ⟨rfl, Nq_111, hh_111⟩ := hQ_111
    have N_111 := Fr.app N_103 Nq_111
    show Go p e below (FinN s (Q0 Z p1 p2 av kv o el0 el1 el2 el3 el4 el5 el6 h0 n0) room_1.cells room_1.slots) T_111 (mkF m 38 #[.val (.int p1), .val (.int p2), .val (.int c), .val .null] [(own_el c el0 el1 el2 el3 el4 el5 el6), .null])
    refine Go.to (mkF m 41 #[.val (.int p1), .val (.int p2), .val (.int c), .val .null] []) (fun _ k => acmp X_111 hx rfl rfl (own_el_ref _ _ _ _ _ _ _ _) (pc0 := 38) (pc' := 41) (same := true) rfl (hb hby at_38) rfl (decide_eq_true hk.symm) (by decide) (by decide) k) ?_
    refine Go.to (mkF m 42 #[.val (.int p1), .val (.int p2), .val (.int c), .val .null] [(.int (1 : Int32))]) (fun _ k => XS.iconst X_111.here hx rfl (hb hby at_41) k) ?_
    refine Go.to (mkF m 46 #[.val (.int p1), .val (.int p2), .val (.int c), .val .null] [(.int (1 : Int32))]) (fun _ k => XS.goto X_111.here hx rfl (pc0 := 42) (pc' := 46) rfl (hb hby at_42) (by decide) (by decide) k) ?_
    refine Go.retN X_111 hx (t := .boolean) hret hlk (by simp) (hb hby at_46) (by decide) (by decide) (z' := (1 : Int32)) rfl ?_
    have f_112 : Keep h0 T_2.heap [] := ((Keep.refl h0 []).trans K_2 all0)
    show (Q0 Z p1 p2 av kv o el0 el1 el2 el3 el4 el5 el6 h0 n0) _ T_111.heap _
    rw [hh_111]
    exact ⟨rfl, N_111, f_112⟩
set_option maxRecDepth 65536 in
set_option maxHeartbeats 40000000 in
theorem comes_1 {Post : Tables → Env → Array Value → State → Outcome → State → Prop} (hpost : ∀ tb e args s v u, (limb_1_1.after args s (.returned v) u = true ∧ limb_1_2.after args s (.returned v) u = true ∧ True) → FrameEnd s (.returned v) u (Jvm.fieldLocs frame_1_writes args s ++ Jvm.arrayLocs frame_1_arrays args s ++ Jvm.staticLocs frame_1_statics s) 16 128 → Post tb e args s (.returned v) u) :
    ArmFor flags0 classFile x code maxLocals ret World_1 tables_1 room_1 Calls_1 rest_1 Pre_1 Post := by
  intro l hfl _ _ p e ha hc hk s m args below hf hA hF happ hP
  obtain ⟨hcalls, hrest, hpre⟩ := hP
  obtain ⟨-, -, -, hnamed, -, -, -, hat⟩ := (Spec.applies_iff hf).mp happ
  obtain ⟨hg, hn⟩ := and_e (Cond.before_iff.mp (show (Jvm.Cond.and given_1 narrow_1).before args s = true from hpre))
  obtain ⟨gc, ga0⟩ := and_e hg
  obtain ⟨gv0, ga1⟩ := and_e ga0
  have gv1 := ga1
  obtain ⟨w0, w1, rfl⟩ : ∃ w0 w1 : Value, args = #[w0, w1] := by
    have hs : args.size = 2 := by simpa [Cond.value, given_1] using gc
    obtain ⟨L⟩ := args
    match L, hs with
    | [w0, w1], _ => exact ⟨w0, w1, rfl⟩
  have hw := fun d (hd : d ∈ tables_1) => atoms_spec (ws := Jvm.Cond.code x code maxLocals ret :: tables_1) hat d (List.mem_cons_of_mem _ hd)
  have hfit : Fit s := fun {y c} hc i hi => by
    obtain ⟨ha, rfl⟩ := Array.getElem?_eq_some_iff.mp hc
    have q := List.all_eq_true.mp ((Array.all_eq_true_iff_forall_mem.mp hF) _ (Array.getElem_mem ha)) i (List.mem_range.mpr hi)
    simpa [Array.getElem?_eq_getElem hi] using q
  obtain ⟨hsets, hown0⟩ := atoms_of _ (rest_1_c_eq ▸ (show rest_1_c.before _ s = true from hrest))
  obtain ⟨i0, ei0⟩ := is_v gv0
  obtain rfl : w0 = (.int i0) := Option.some.inj ei0
  obtain ⟨i1, ei1⟩ := is_v gv1
  obtain rfl : w1 = (.int i1) := Option.some.inj ei1
  obtain ⟨m0, hn⟩ := and_e hn
  obtain ⟨m1, hn⟩ := and_e hn
  obtain ⟨m2, hn⟩ := and_e hn
  obtain ⟨x0, hn⟩ := and_e hn
  obtain ⟨q0, hn⟩ := and_e hn
  obtain ⟨x1, hn⟩ := and_e hn
  obtain ⟨q1, hn⟩ := and_e hn
  obtain ⟨x2, hn⟩ := and_e hn
  obtain ⟨q2, hn⟩ := and_e hn
  obtain ⟨x3, hn⟩ := and_e hn
  obtain ⟨x4, hn⟩ := and_e hn
  obtain ⟨q4, hn⟩ := and_e hn
  obtain ⟨x5, hn⟩ := and_e hn
  obtain ⟨q5, hn⟩ := and_e hn
  obtain ⟨x6, hn⟩ := and_e hn
  obtain ⟨q6, hn⟩ := and_e hn
  obtain ⟨f0, hn⟩ := and_e hn
  obtain ⟨f1, hn⟩ := and_e hn
  obtain ⟨f2, hn⟩ := and_e hn
  obtain ⟨f3, hn⟩ := and_e hn
  obtain ⟨f4, hn⟩ := and_e hn
  obtain ⟨f5, hn⟩ := and_e hn
  obtain ⟨f6, hn⟩ := and_e hn
  have pl := hn
  obtain ⟨av, ea⟩ := arr_v m0
  obtain ⟨av', ea', EA⟩ := own_exa_at m1
  obtain rfl : av = av' := Value.ref.inj (Option.some.inj (ea.symm.trans ea'))
  obtain ⟨cl, Ar⟩ := Arr.start ea m0
  obtain ⟨z1, z2⟩ := own_len_at ea Ar (own_eq_int m2)
  obtain ⟨el0, ee0, EE0⟩ := own_exa_at x0
  obtain ⟨el1, ee1, EE1⟩ := own_exa_at x1
  obtain ⟨el2, ee2, EE2⟩ := own_exa_at x2
  obtain ⟨el3, ee3, EE3⟩ := own_exa_at x3
  obtain ⟨el4, ee4, EE4⟩ := own_exa_at x4
  obtain ⟨el5, ee5, EE5⟩ := own_exa_at x5
  obtain ⟨el6, ee6, EE6⟩ := own_exa_at x6
  have pe := own_eq_ref pl ee3
  have FF0 := own_field_at ee0 (own_eq_int f0)
  have FF1 := own_field_at ee1 (own_eq_int f1)
  have FF2 := own_field_at ee2 (own_eq_int f2)
  have FF3 := own_field_at ee3 (own_eq_int f3)
  have FF4 := own_field_at ee4 (own_eq_int f4)
  have FF5 := own_field_at ee5 (own_eq_int f5)
  have FF6 := own_field_at ee6 (own_eq_int f6)
  have Av : Arv s s.heap av cl.cls (.object "com/example/reprofield/reprofield/CodedElement") (7 : Int32) [(.ref el0), (.ref el1), (.ref el2), (.ref el3), (.ref el4), (.ref el5), (.ref el6)] .null := Arv.start hfit Ar z1 z2 (by decide) rfl ⟨own_elem_at ea Ar (own_eq_ref q0 ee0) rfl, own_elem_at ea Ar (own_eq_ref q1 ee1) rfl, own_elem_at ea Ar (own_eq_ref q2 ee2) rfl, own_elem_at ea Ar ee3 rfl, own_elem_at ea Ar (own_eq_ref q4 ee4) rfl, own_elem_at ea Ar (own_eq_ref q5 ee5) rfl, own_elem_at ea Ar (own_eq_ref q6 ee6) rfl, trivial⟩
  have SV := Sta.start ea (Or.inr ⟨(hw _ (List.mem_of_getElem? (i := 2) rfl)), (hw _ (List.mem_of_getElem? (i := 8) rfl))⟩)
  have SS0 := Sta.start ee0 (Or.inr ⟨(hw _ (List.mem_of_getElem? (i := 2) rfl)), (hw _ (List.mem_of_getElem? (i := 16) rfl))⟩)
  have SS1 := Sta.start ee1 (Or.inr ⟨(hw _ (List.mem_of_getElem? (i := 2) rfl)), (hw _ (List.mem_of_getElem? (i := 17) rfl))⟩)
  have SS2 := Sta.start ee2 (Or.inr ⟨(hw _ (List.mem_of_getElem? (i := 2) rfl)), (hw _ (List.mem_of_getElem? (i := 18) rfl))⟩)
  have SS3 := Sta.start pe (Or.inr ⟨(hw _ (List.mem_of_getElem? (i := 2) rfl)), (hw _ (List.mem_of_getElem? (i := 67) rfl))⟩)
  have SS4 := Sta.start ee4 (Or.inr ⟨(hw _ (List.mem_of_getElem? (i := 2) rfl)), (hw _ (List.mem_of_getElem? (i := 19) rfl))⟩)
  have SS5 := Sta.start ee5 (Or.inr ⟨(hw _ (List.mem_of_getElem? (i := 2) rfl)), (hw _ (List.mem_of_getElem? (i := 20) rfl))⟩)
  have SS6 := Sta.start ee6 (Or.inr ⟨(hw _ (List.mem_of_getElem? (i := 2) rfl)), (hw _ (List.mem_of_getElem? (i := 21) rfl))⟩)
  obtain ⟨o, eo, EO⟩ := own_exa_at (Cond.before_iff.mp (hsets _ (List.mem_of_getElem? (i := 2) rfl)))
  have FO := own_field_at eo (own_eq_null (Cond.before_iff.mp (hsets _ (List.mem_of_getElem? (i := 3) rfl))))
  have SO := Sta.start eo (Or.inl (hsets _ (List.mem_of_getElem? (i := 1) rfl)))
  obtain ⟨n, o, h1, h2, h3, _, L, rfl, ⟨rfl, N, -⟩, hq⟩ := rm0 l s _ hw i0 i1 av cl.cls o el0 el1 el2 el3 el4 el5 el6 s.heap s.heap.size (Nat.le_refl _) SV EA Av FF0 FF1 FF2 FF3 FF4 FF5 FF6 SO EO FO SS0 SS1 SS2 SS3 SS4 SS5 SS6 EE0 EE1 EE2 EE3 EE4 EE5 EE6 tables_1 p e ha hc hk s m _ below hf ((Spec.applies_iff_loose hf).mp happ).1 ⟨rfl, State.Warmed39.refl s, rfl⟩ trivial
  refine ⟨n, _, h1, h2, h3, hpost _ _ _ _ _ _ ⟨Cond.after_iff.mpr rfl, Cond.after_iff.mpr (eq_i res_at (Term.int_eval (1)) rfl), trivial⟩ ⟨hq.1, hq.2.1, (hq.2.2.sift fun y hy => Or.inr (N y hy)).mono (by decide) (by decide)⟩⟩
theorem main_1_1 : Claimed_1_1 := comes_1 fun _ _ _ _ _ _ h hF => ⟨h.1, hF⟩
theorem main_1_2 : Claimed_1_2 := comes_1 fun _ _ _ _ _ _ h hF => ⟨h.2.1, hF⟩
end Jvm.Pilot.@@N@@
namespace Jvm.Pilot.@@N@@
open Jvm Jvm.ClassFile Sem Op Lib Jvm.Free Jvm.Stand Jvm.Pilot.@@N@@.Jvm.D
/-! MADE BY PROGRAM (witnessworld.py) out of the Statement's table words and the real class files: 16 classes; the members and pool entries that the words name. The judged class is class 1, her method 2. -/
namespace start1
open Jvm.ClassFile
def u (s : String) : CpInfo := .utf8 (stringToUtf16 s)
/-- a pool by its gaps: so many unusable entries, then the entry; so many at the end -/
def gap : Nat → List CpInfo → List CpInfo
  | 0, r => r
  | n + 1, r => .unusable :: gap n r
def poolList (es : List (Nat × CpInfo)) (last : Nat) : List CpInfo := es.foldr (fun e r => gap e.1 (e.2 :: r)) (gap last [])
def pool (es : List (Nat × CpInfo)) (last : Nat) : Array CpInfo := ⟨poolList es last⟩
def fileOf (pool : Array CpInfo) (this : Nat) (attrs : Array Attribute := #[]) (ms : Array MethodInfo := #[]) (fl : Nat := 33) (sup : Nat := 0) (ifs : Array Nat := #[]) (fds : Array FieldInfo := #[]) : ClassFile where
  minorVersion := 0
  majorVersion := 65
  constantPool := pool
  accessFlags := fl
  thisClass := this
  superClass := sup
  interfaces := ifs
  fields := fds
  methods := ms
  attributes := attrs
def plain (name : String) (sup : Option ClassId) : Class where
  name := name
  kind := .ordinary
  loader := none
  accessFlags := 33
  super := sup
  interfaces := #[]
  cf := none
  fields := #[]
  methods := #[]
  instanceTypes := #[]
  staticTypes := #[]
  resolved := #[]
  callSites := []
  init := .initialized
  statics := none
  mirror := none

def pool0 : Array CpInfo := pool [(5, u "<init>"), (0, u "()V"), (1, .class_ 10), (1, u "java/lang/Object"), (85, u "clone"), (0, u "()Ljava/lang/Object;")] 26

def k0c0 : Code := { maxStack := 0, maxLocals := 1, code := object_method_1_code, exceptionTable := #[], attributes := #[] }
def k0m0 : Method := { name := "<init>", desc := "()V", sig := { parameters := [], returnType := none }, accessFlags := 1, code := some k0c0 }
def k0m1 : Method := { name := "clone", desc := "()Ljava/lang/Object;", sig := { parameters := [], returnType := some (.object "java/lang/Object") }, accessFlags := 260, code := none }
/-- java/lang/Object -/
def k0 : Class := { plain "java/lang/Object" none with
  accessFlags := 33
  interfaces := #[]
  cf := some (fileOf pool0 8 #[] #[{ accessFlags := 1, nameIndex := 5, descriptorIndex := 6, attributes := #[] }, { accessFlags := 260, nameIndex := 96, descriptorIndex := 97, attributes := #[] }] 33 0 #[] #[])
  fields := #[]
  methods := #[k0m0, k0m1]
  instanceTypes := #[]
  staticTypes := #[]
  resolved := Array.replicate 124 none
  statics := none }

def pool1 : Array CpInfo := pool [(2, .class_ 4), (1, u "java/lang/Object"), (0, u "<init>"), (0, u "()V"), (0, .fieldref 8 9), (0, .class_ 10), (0, .nameAndType 11 12), (0, u "com/example/reprofield/reprofield/CodedElement"), (0, u "TYPE_OF_DATE"), (0, u "Lcom/example/reprofield/reprofield/CodedElement;"), (0, .fieldref 8 14), (0, .nameAndType 15 12), (0, u "DATE_1"), (0, .fieldref 8 17), (0, .nameAndType 18 12), (0, u "DATE_2"), (0, .fieldref 8 20), (0, .nameAndType 21 12), (0, u "PLACE"), (0, .fieldref 8 23), (0, .nameAndType 24 12), (0, u "FREQUENCY"), (0, .fieldref 8 26), (0, .nameAndType 27 12), (0, u "REGULARITY"), (0, .fieldref 8 29), (0, .nameAndType 30 12), (0, u "FORM_OF_ITEM"), (0, .methodref 8 32), (0, .nameAndType 33 34), (0, u "forOclcSubfield"), (0, u "(C)Ljava/util/Optional;"), (0, .methodref 36 37), (0, .class_ 38), (0, .nameAndType 39 40), (0, u "java/util/Optional"), (0, u "orElse"), (0, u "(Ljava/lang/Object;)Ljava/lang/Object;"), (0, .methodref 42 43), (0, .class_ 44), (0, .nameAndType 45 46), (0, u "com/example/reprofield/reprofield/CodedElementForOclcSubfieldPinLaw"), (0, u "expected"), (0, u "(C)Lcom/example/reprofield/reprofield/CodedElement;"), (3, u "law"), (0, u "(II)Z")] 2

def k1m0 : Method := { name := "<init>", desc := "()V", sig := { parameters := [], returnType := none }, accessFlags := 2, code := none }
def k1c1 : Code := { maxStack := 2, maxLocals := 1, code := method_2_code, exceptionTable := #[], attributes := #[] }
def k1m1 : Method := { name := "expected", desc := "(C)Lcom/example/reprofield/reprofield/CodedElement;", sig := { parameters := [.char], returnType := some (.object "com/example/reprofield/reprofield/CodedElement") }, accessFlags := 10, code := some k1c1 }
def k1c2 : Code := { maxStack := 3, maxLocals := 4, code := code, exceptionTable := #[], attributes := #[] }
def k1m2 : Method := { name := "law", desc := "(II)Z", sig := { parameters := [.int, .int], returnType := some .boolean }, accessFlags := 9, code := some k1c2 }
/-- com/example/reprofield/reprofield/CodedElementForOclcSubfieldPinLaw -/
def k1 : Class := { plain "com/example/reprofield/reprofield/CodedElementForOclcSubfieldPinLaw" (some 0) with
  accessFlags := 49
  interfaces := #[]
  cf := some (fileOf pool1 42 #[] #[{ accessFlags := 2, nameIndex := 5, descriptorIndex := 6, attributes := #[] }, { accessFlags := 10, nameIndex := 45, descriptorIndex := 46, attributes := #[] }, { accessFlags := 9, nameIndex := 50, descriptorIndex := 51, attributes := #[] }] 49 2 #[] #[])
  fields := #[]
  methods := #[k1m0, k1m1, k1m2]
  instanceTypes := #[]
  staticTypes := #[]
  resolved := Array.replicate 54 none
  statics := none }

def pool2 : Array CpInfo := pool [(1, .class_ 2), (0, u "java/lang/constant/Constable"), (0, .class_ 4), (0, u "java/lang/Object")] 6

/-- java/lang/constant/Constable -/
def k2 : Class := { plain "java/lang/constant/Constable" (some 0) with
  accessFlags := 1537
  interfaces := #[]
  cf := some (fileOf pool2 1 #[] #[] 1537 3 #[] #[])
  fields := #[]
  methods := #[]
  instanceTypes := #[]
  staticTypes := #[]
  resolved := Array.replicate 11 none
  statics := none }

def pool3 : Array CpInfo := pool [(1, .class_ 2), (0, u "java/lang/Comparable"), (0, .class_ 4), (0, u "java/lang/Object")] 7

/-- java/lang/Comparable -/
def k3 : Class := { plain "java/lang/Comparable" (some 0) with
  accessFlags := 1537
  interfaces := #[]
  cf := some (fileOf pool3 1 #[] #[] 1537 3 #[] #[])
  fields := #[]
  methods := #[]
  instanceTypes := #[]
  staticTypes := #[]
  resolved := Array.replicate 12 none
  statics := none }

def pool4 : Array CpInfo := pool [(1, .class_ 2), (0, u "java/io/Serializable"), (0, .class_ 4), (0, u "java/lang/Object")] 2

/-- java/io/Serializable -/
def k4 : Class := { plain "java/io/Serializable" (some 0) with
  accessFlags := 1537
  interfaces := #[]
  cf := some (fileOf pool4 1 #[] #[] 1537 3 #[] #[])
  fields := #[]
  methods := #[]
  instanceTypes := #[]
  staticTypes := #[]
  resolved := Array.replicate 7 none
  statics := none }

def pool5 : Array CpInfo := pool [(2, .class_ 4), (1, u "java/lang/Enum"), (0, u "name"), (0, u "Ljava/lang/String;"), (2, u "ordinal"), (0, u "I"), (1, .class_ 14), (1, u "java/lang/Object"), (4, u "hash"), (86, .class_ 108), (1, u "java/lang/Enum$EnumDesc"), (2, .class_ 112), (0, u "java/lang/constant/Constable"), (0, .class_ 114), (0, u "java/lang/Comparable"), (0, .class_ 116), (0, u "java/io/Serializable")] 87

/-- java/lang/Enum -/
def k5 : Class := { plain "java/lang/Enum" (some 0) with
  accessFlags := 1057
  interfaces := #[2, 3, 4]
  cf := some (fileOf pool5 2 #[.nestMembers #[106]] #[] 1057 12 #[111, 113, 115] #[{ accessFlags := 18, nameIndex := 5, descriptorIndex := 6, attributes := #[] }, { accessFlags := 18, nameIndex := 9, descriptorIndex := 10, attributes := #[] }, { accessFlags := 2, nameIndex := 19, descriptorIndex := 10, attributes := #[] }])
  fields := #[{ name := "name", type := (.object "java/lang/String"), accessFlags := 18, slot := 0, constantValue := 0 }, { name := "ordinal", type := .int, accessFlags := 18, slot := 1, constantValue := 0 }, { name := "hash", type := .int, accessFlags := 2, slot := 2, constantValue := 0 }]
  methods := #[]
  instanceTypes := #[(.object "java/lang/String"), .int, .int]
  staticTypes := #[]
  resolved := Array.replicate 204 none
  statics := none }

def pool6 : Array CpInfo := pool [(1, .class_ 2), (0, u "com/example/reprofield/reprofield/CodedElement"), (2, u "TYPE_OF_DATE"), (0, u "Lcom/example/reprofield/reprofield/CodedElement;"), (2, u "DATE_1"), (2, u "DATE_2"), (2, u "PLACE"), (2, u "FREQUENCY"), (2, u "REGULARITY"), (2, u "FORM_OF_ITEM"), (0, .fieldref 1 26), (0, .nameAndType 27 28), (0, u "$VALUES"), (0, u "[Lcom/example/reprofield/reprofield/CodedElement;"), (0, .methodref 30 31), (0, .class_ 28), (0, .nameAndType 32 33), (0, u "clone"), (0, u "()Ljava/lang/Object;"), (1, .class_ 37), (1, u "java/lang/Enum"), (8, u "_label"), (0, u "Ljava/lang/String;"), (2, u "_start"), (0, u "I"), (2, u "_width"), (0, .fieldref 1 56), (0, .nameAndType 57 58), (0, u "_oclcSubfield"), (0, u "C"), (2, u "_rule"), (2, u "_form"), (0, u "Lcom/example/reprofield/reprofield/CodedElement$Form;"), (0, .methodref 1 67), (0, .nameAndType 68 69), (0, u "values"), (0, u "()[Lcom/example/reprofield/reprofield/CodedElement;"), (0, .methodref 71 72), (0, .class_ 73), (0, .nameAndType 74 75), (0, u "java/util/Optional"), (0, u "of"), (0, u "(Ljava/lang/Object;)Ljava/util/Optional;"), (0, .methodref 71 77), (0, .nameAndType 78 79), (0, u "empty"), (0, u "()Ljava/util/Optional;"), (9, .class_ 91), (1, u "com/example/reprofield/reprofield/CodedElement$Form"), (167, .class_ 260), (0, u "com/example/reprofield/reprofield/CodedElement$1"), (32, u "FILL"), (8, u "forOclcSubfield"), (0, u "(C)Ljava/util/Optional;")] 76

def k6c0 : Code := { maxStack := 1, maxLocals := 0, code := prog_6_method_1_code, exceptionTable := #[], attributes := #[] }
def k6m0 : Method := { name := "values", desc := "()[Lcom/example/reprofield/reprofield/CodedElement;", sig := { parameters := [], returnType := some (.array (.object "com/example/reprofield/reprofield/CodedElement")) }, accessFlags := 9, code := some k6c0 }
def k6c1 : Code := { maxStack := 2, maxLocals := 5, code := prog_6_method_4_code, exceptionTable := #[], attributes := #[] }
def k6m1 : Method := { name := "forOclcSubfield", desc := "(C)Ljava/util/Optional;", sig := { parameters := [.char], returnType := some (.object "java/util/Optional") }, accessFlags := 9, code := some k6c1 }
/-- com/example/reprofield/reprofield/CodedElement -/
def k6 : Class := { plain "com/example/reprofield/reprofield/CodedElement" (some 5) with
  accessFlags := 16417
  interfaces := #[]
  cf := some (fileOf pool6 1 #[.nestMembers #[89, 259]] #[{ accessFlags := 9, nameIndex := 68, descriptorIndex := 69, attributes := #[] }, { accessFlags := 9, nameIndex := 302, descriptorIndex := 303, attributes := #[] }] 16417 35 #[] #[{ accessFlags := 16409, nameIndex := 5, descriptorIndex := 6, attributes := #[] }, { accessFlags := 16409, nameIndex := 9, descriptorIndex := 6, attributes := #[] }, { accessFlags := 16409, nameIndex := 12, descriptorIndex := 6, attributes := #[] }, { accessFlags := 16409, nameIndex := 15, descriptorIndex := 6, attributes := #[] }, { accessFlags := 16409, nameIndex := 18, descriptorIndex := 6, attributes := #[] }, { accessFlags := 16409, nameIndex := 21, descriptorIndex := 6, attributes := #[] }, { accessFlags := 16409, nameIndex := 24, descriptorIndex := 6, attributes := #[] }, { accessFlags := 26, nameIndex := 293, descriptorIndex := 58, attributes := #[] }, { accessFlags := 18, nameIndex := 46, descriptorIndex := 47, attributes := #[] }, { accessFlags := 18, nameIndex := 50, descriptorIndex := 51, attributes := #[] }, { accessFlags := 18, nameIndex := 54, descriptorIndex := 51, attributes := #[] }, { accessFlags := 18, nameIndex := 57, descriptorIndex := 58, attributes := #[] }, { accessFlags := 18, nameIndex := 61, descriptorIndex := 47, attributes := #[] }, { accessFlags := 18, nameIndex := 64, descriptorIndex := 65, attributes := #[] }, { accessFlags := 4122, nameIndex := 27, descriptorIndex := 28, attributes := #[] }])
  fields := #[{ name := "TYPE_OF_DATE", type := (.object "com/example/reprofield/reprofield/CodedElement"), accessFlags := 16409, slot := 0, constantValue := 0 }, { name := "DATE_1", type := (.object "com/example/reprofield/reprofield/CodedElement"), accessFlags := 16409, slot := 1, constantValue := 0 }, { name := "DATE_2", type := (.object "com/example/reprofield/reprofield/CodedElement"), accessFlags := 16409, slot := 2, constantValue := 0 }, { name := "PLACE", type := (.object "com/example/reprofield/reprofield/CodedElement"), accessFlags := 16409, slot := 3, constantValue := 0 }, { name := "FREQUENCY", type := (.object "com/example/reprofield/reprofield/CodedElement"), accessFlags := 16409, slot := 4, constantValue := 0 }, { name := "REGULARITY", type := (.object "com/example/reprofield/reprofield/CodedElement"), accessFlags := 16409, slot := 5, constantValue := 0 }, { name := "FORM_OF_ITEM", type := (.object "com/example/reprofield/reprofield/CodedElement"), accessFlags := 16409, slot := 6, constantValue := 0 }, { name := "FILL", type := .char, accessFlags := 26, slot := 7, constantValue := 0 }, { name := "_label", type := (.object "java/lang/String"), accessFlags := 18, slot := 3, constantValue := 0 }, { name := "_start", type := .int, accessFlags := 18, slot := 4, constantValue := 0 }, { name := "_width", type := .int, accessFlags := 18, slot := 5, constantValue := 0 }, { name := "_oclcSubfield", type := .char, accessFlags := 18, slot := 6, constantValue := 0 }, { name := "_rule", type := (.object "java/lang/String"), accessFlags := 18, slot := 7, constantValue := 0 }, { name := "_form", type := (.object "com/example/reprofield/reprofield/CodedElement$Form"), accessFlags := 18, slot := 8, constantValue := 0 }, { name := "$VALUES", type := (.array (.object "com/example/reprofield/reprofield/CodedElement")), accessFlags := 4122, slot := 8, constantValue := 0 }]
  methods := #[k6m0, k6m1]
  instanceTypes := #[(.object "java/lang/String"), .int, .int, (.object "java/lang/String"), .int, .int, .char, (.object "java/lang/String"), (.object "com/example/reprofield/reprofield/CodedElement$Form")]
  staticTypes := #[(.object "com/example/reprofield/reprofield/CodedElement"), (.object "com/example/reprofield/reprofield/CodedElement"), (.object "com/example/reprofield/reprofield/CodedElement"), (.object "com/example/reprofield/reprofield/CodedElement"), (.object "com/example/reprofield/reprofield/CodedElement"), (.object "com/example/reprofield/reprofield/CodedElement"), (.object "com/example/reprofield/reprofield/CodedElement"), .char, (.array (.object "com/example/reprofield/reprofield/CodedElement"))]
  resolved := Array.replicate 380 none
  statics := some 0 }

def pool7 : Array CpInfo := pool [(1, .class_ 2), (0, u "java/lang/Cloneable"), (0, .class_ 4), (0, u "java/lang/Object")] 2

/-- java/lang/Cloneable -/
def k7 : Class := { plain "java/lang/Cloneable" (some 0) with
  accessFlags := 1537
  interfaces := #[]
  cf := some (fileOf pool7 1 #[] #[] 1537 3 #[] #[])
  fields := #[]
  methods := #[]
  instanceTypes := #[]
  staticTypes := #[]
  resolved := Array.replicate 7 none
  statics := none }

def pool8 : Array CpInfo := pool [(2, .class_ 4), (1, u "com/example/reprofield/reprofield/CodedElement"), (33, .class_ 40), (1, u "com/example/reprofield/reprofield/CodedElement$1")] 40

/-- com/example/reprofield/reprofield/CodedElement$1 -/
def k8 : Class := { plain "com/example/reprofield/reprofield/CodedElement$1" (some 6) with
  accessFlags := 16432
  interfaces := #[]
  cf := some (fileOf pool8 38 #[.nestHost 2] #[] 16432 2 #[] #[])
  fields := #[]
  methods := #[]
  instanceTypes := #[(.object "java/lang/String"), .int, .int, (.object "java/lang/String"), .int, .int, .char, (.object "java/lang/String"), (.object "com/example/reprofield/reprofield/CodedElement$Form")]
  staticTypes := #[]
  resolved := Array.replicate 81 none
  statics := none }

def pool9 : Array CpInfo := pool [(1, .fieldref 2 3), (0, .class_ 4), (0, .nameAndType 5 6), (0, u "java/util/Optional"), (0, u "EMPTY"), (0, u "Ljava/util/Optional;"), (0, .methodref 8 9), (0, .class_ 10), (0, .nameAndType 11 12), (0, u "java/lang/Object"), (0, u "<init>"), (0, u "()V"), (0, .fieldref 2 14), (0, .nameAndType 15 16), (0, u "value"), (0, u "Ljava/lang/Object;"), (0, .methodref 18 19), (0, .class_ 20), (0, .nameAndType 21 22), (0, u "java/util/Objects"), (0, u "requireNonNull"), (0, u "(Ljava/lang/Object;)Ljava/lang/Object;"), (0, .methodref 2 24), (0, .nameAndType 11 25), (0, u "(Ljava/lang/Object;)V"), (29, u "empty"), (0, u "()Ljava/util/Optional;"), (8, u "(Ljava/lang/Object;)Ljava/util/Optional;"), (16, u "of"), (82, u "orElse")] 21

def k9c0 : Code := { maxStack := 1, maxLocals := 1, code := jdk_32_method_1_code, exceptionTable := #[], attributes := #[] }
def k9m0 : Method := { name := "empty", desc := "()Ljava/util/Optional;", sig := { parameters := [], returnType := some (.object "java/util/Optional") }, accessFlags := 9, code := some k9c0 }
def k9c1 : Code := { maxStack := 2, maxLocals := 2, code := jdk_32_method_2_code, exceptionTable := #[], attributes := #[] }
def k9m1 : Method := { name := "<init>", desc := "(Ljava/lang/Object;)V", sig := { parameters := [(.object "java/lang/Object")], returnType := none }, accessFlags := 2, code := some k9c1 }
def k9c2 : Code := { maxStack := 3, maxLocals := 1, code := jdk_32_method_3_code, exceptionTable := #[], attributes := #[] }
def k9m2 : Method := { name := "of", desc := "(Ljava/lang/Object;)Ljava/util/Optional;", sig := { parameters := [(.object "java/lang/Object")], returnType := some (.object "java/util/Optional") }, accessFlags := 9, code := some k9c2 }
def k9c3 : Code := { maxStack := 1, maxLocals := 2, code := jdk_32_method_15_code, exceptionTable := #[], attributes := #[] }
def k9m3 : Method := { name := "orElse", desc := "(Ljava/lang/Object;)Ljava/lang/Object;", sig := { parameters := [(.object "java/lang/Object")], returnType := some (.object "java/lang/Object") }, accessFlags := 1, code := some k9c3 }
/-- java/util/Optional -/
def k9 : Class := { plain "java/util/Optional" (some 0) with
  accessFlags := 49
  interfaces := #[]
  cf := some (fileOf pool9 2 #[] #[{ accessFlags := 9, nameIndex := 55, descriptorIndex := 56, attributes := #[] }, { accessFlags := 2, nameIndex := 11, descriptorIndex := 25, attributes := #[] }, { accessFlags := 9, nameIndex := 82, descriptorIndex := 65, attributes := #[] }, { accessFlags := 1, nameIndex := 165, descriptorIndex := 22, attributes := #[] }] 49 8 #[] #[{ accessFlags := 26, nameIndex := 5, descriptorIndex := 6, attributes := #[] }, { accessFlags := 18, nameIndex := 15, descriptorIndex := 16, attributes := #[] }])
  fields := #[{ name := "EMPTY", type := (.object "java/util/Optional"), accessFlags := 26, slot := 0, constantValue := 0 }, { name := "value", type := (.object "java/lang/Object"), accessFlags := 18, slot := 0, constantValue := 0 }]
  methods := #[k9m0, k9m1, k9m2, k9m3]
  instanceTypes := #[(.object "java/lang/Object")]
  staticTypes := #[(.object "java/util/Optional")]
  resolved := Array.replicate 187 none
  statics := some 1 }

def pool10 : Array CpInfo := pool [(2, .class_ 4), (1, u "java/lang/Object"), (0, u "<init>"), (0, u "()V"), (35, .class_ 44), (1, u "java/util/Objects"), (0, u "requireNonNull"), (0, u "(Ljava/lang/Object;)Ljava/lang/Object;")] 137

def k10m0 : Method := { name := "<init>", desc := "()V", sig := { parameters := [], returnType := none }, accessFlags := 2, code := none }
def k10c1 : Code := { maxStack := 2, maxLocals := 1, code := jdk_31_method_10_code, exceptionTable := #[], attributes := #[] }
def k10m1 : Method := { name := "requireNonNull", desc := "(Ljava/lang/Object;)Ljava/lang/Object;", sig := { parameters := [(.object "java/lang/Object")], returnType := some (.object "java/lang/Object") }, accessFlags := 9, code := some k10c1 }
/-- java/util/Objects -/
def k10 : Class := { plain "java/util/Objects" (some 0) with
  accessFlags := 49
  interfaces := #[]
  cf := some (fileOf pool10 42 #[] #[{ accessFlags := 2, nameIndex := 5, descriptorIndex := 6, attributes := #[] }, { accessFlags := 9, nameIndex := 45, descriptorIndex := 46, attributes := #[] }] 49 2 #[] #[])
  fields := #[]
  methods := #[k10m0, k10m1]
  instanceTypes := #[]
  staticTypes := #[]
  resolved := Array.replicate 184 none
  statics := none }

/-- the primitive byte -/
def k11 : Class := { plain "byte" none with kind := .primitive 'B', accessFlags := 0x411 }
/-- [B -/
def k12 : Class := { plain "[B" (some 0) with kind := .array 11 .byte, interfaces := #[7, 4], accessFlags := 1041 }

/-- the primitive int -/
def k13 : Class := { plain "int" none with kind := .primitive 'I', accessFlags := 0x411 }
/-- [I -/
def k14 : Class := { plain "[I" (some 0) with kind := .array 13 .int, interfaces := #[7, 4], accessFlags := 1041 }

/-- [Lcom/example/reprofield/reprofield/CodedElement; -/
def k15 : Class := { plain "[Lcom/example/reprofield/reprofield/CodedElement;" (some 0) with kind := .array 6 (.object "com/example/reprofield/reprofield/CodedElement"), interfaces := #[7, 4], accessFlags := 1041 }

def heap : Heap := #[{ cls := 6, slots := #[.ref 3, .ref 4, .ref 5, .ref 6, .ref 7, .ref 8, .ref 9, .int 0, .ref 2], vm := .statics 6 },
  { cls := 9, slots := #[.ref 10], vm := .statics 9 },
  { cls := 15, slots := #[.ref 3, .ref 4, .ref 5, .ref 6, .ref 7, .ref 8, .ref 9], vm := .none },
  { cls := 6, slots := #[.null, .int 0, .int 0, .null, .int 0, .int 0, .int 97, .null, .null], vm := .none },
  { cls := 6, slots := #[.null, .int 1, .int 0, .null, .int 0, .int 0, .int 98, .null, .null], vm := .none },
  { cls := 6, slots := #[.null, .int 2, .int 0, .null, .int 0, .int 0, .int 99, .null, .null], vm := .none },
  { cls := 8, slots := #[.null, .int 3, .int 0, .null, .int 0, .int 0, .int 100, .null, .null], vm := .none },
  { cls := 6, slots := #[.null, .int 4, .int 0, .null, .int 0, .int 0, .int 101, .null, .null], vm := .none },
  { cls := 6, slots := #[.null, .int 5, .int 0, .null, .int 0, .int 0, .int 102, .null, .null], vm := .none },
  { cls := 6, slots := #[.null, .int 6, .int 0, .null, .int 0, .int 0, .int 103, .null, .null], vm := .none },
  { cls := 9, slots := #[.null], vm := .none }]
def classes : Array Class := #[k0, k1, k2, k3, k4, k5, k6, k7, k8, k9, k10, k11, k12, k13, k14, k15]
def interned : List (Array UInt16 × Addr) := []
def slotsUsed : Nat := 81
def theMethod : MethodId := ⟨1, 2⟩
def args0 : Array Value := #[.int 5, .int 5]
def aboutOver (below : List Frame) : State where
  vm := { classes := classes, interned := interned.toArray }
  heap := heap
  slotsUsed := slotsUsed
  threads := #[{ frames := .invoking theMethod args0 :: below }]
def below0 : List Frame := [.native { method := ⟨0, 0⟩, args := #[] }]
def about1 : State := aboutOver below0
def p0 : Program := .bare "" "" ""
def e0 : Env := launch0.env 0 0 0
theorem w_frames : about1.frames = Frame.invoking theMethod args0 :: below0 := rfl
set_option maxRecDepth 65536 in
theorem w_args : argsFit about1.vm theMethod args0 = true := by decide +kernel
set_option maxRecDepth 65536 in
theorem w_heap : heapFits about1 = true := by decide +kernel
set_option maxRecDepth 65536 in
theorem w_runnable : about1.curStatus? = some .runnable := by decide +kernel
set_option maxRecDepth 65536 in
theorem w_alone : about1.alone = true := by decide +kernel
set_option maxRecDepth 65536 in
theorem w_named : about1.methodNamed? x = some theMethod := by decide +kernel
set_option maxRecDepth 65536 in
theorem w_hears : about1.hears theMethod below0 = true := by decide +kernel
set_option maxRecDepth 65536 in
theorem w_ripe : about1.ripe theMethod args0 below0 = true := by decide +kernel
theorem w_running : about1.status = .running := rfl
set_option maxRecDepth 65536 in
theorem w_room : about1.hasRoom e0.platform room_1 = true :=
  launch0.hasRoom_least _ room_1 (by decide +kernel) (by decide +kernel) (by decide +kernel) (by decide +kernel) (by decide +kernel) (by decide +kernel)
theorem allAtoms_all (ts : List Jvm.Cond) (a : Array Jvm.Value) (st : Jvm.State) : (allAtoms ts).before a st = ts.all (fun c => c.before a st) := by
  induction ts with
  | nil => rfl
  | cons c t ih =>
    show (Jvm.Cond.and c (allAtoms t)).before a st = _
    rw [Jvm.Cond.before_and, ih, List.all_cons]
def words1 : List Jvm.Cond := Jvm.Cond.code x code maxLocals ret :: tables_1
/-- a 'code' word, met by the world's own term for the bytes: nothing is compared byte by byte -/
theorem code_word {y : MethodName} {bytes : ByteArray} {mx : Nat} {rt : Option FieldType} {a : Array Value} {s : State} {m : MethodId} {meth : Method} {c : Code} (h1 : s.methodNamed? y = some m) (h2 : s.vm.method? m = some meth) (h3 : meth.code = some c) (h4 : c.code = bytes)
    (h5 : (c.maxLocals == mx && c.exceptionTable.isEmpty && decide (c.maxStack ≤ mostOperands) && decide (meth.sig.returnType = rt) && !meth.locks && decide (parseMethodDescriptor y.desc = some meth.sig)) = true) : (Jvm.Cond.code y bytes mx rt).before a s = true := by
  simp only [Bool.and_eq_true, beq_iff_eq, Bool.not_eq_true', decide_eq_true_eq] at h5
  obtain ⟨⟨⟨⟨⟨g1, g2⟩, g3⟩, g4⟩, g5⟩, g6⟩ := h5
  simp [Cond.before, Cond.holds, Cond.value, h1, h2, h3, h4, g1, g2, g3, g4, g5, g6]
def isCode : Jvm.Cond → Bool
  | .code _ _ _ _ => true
  | _ => false
theorem all_split {L : List Jvm.Cond} {P : Jvm.Cond → Bool} (h1 : L.all (fun c => isCode c || P c) = true) (h2 : ∀ c ∈ L.filter isCode, P c = true) : L.all P = true := by
  refine List.all_eq_true.mpr fun c hc => ?_
  have h := List.all_eq_true.mp h1 c hc
  rcases Bool.eq_false_or_eq_true (isCode c) with hi | hi
  · exact h2 c (List.mem_filter.mpr ⟨hc, hi⟩)
  · simpa [hi] using h
set_option maxRecDepth 65536 in
theorem w_c0 : (Jvm.Cond.code x code maxLocals ret).before args0 about1 = true := code_word (m := ⟨1, 2⟩) (meth := k1m2) (c := k1c2) (by decide +kernel) rfl rfl rfl (by decide +kernel)
set_option maxRecDepth 65536 in
theorem w_c1 : (Jvm.Cond.code ({ cls := "com/example/reprofield/reprofield/CodedElement", name := "forOclcSubfield", desc := "(C)Ljava/util/Optional;" } : Jvm.MethodName) prog_6_method_4_code (5 : Nat) (Option.some (Jvm.ClassFile.FieldType.object "java/util/Optional"))).before args0 about1 = true := code_word (m := ⟨6, 1⟩) (meth := k6m1) (c := k6c1) (by decide +kernel) rfl rfl rfl (by decide +kernel)
set_option maxRecDepth 65536 in
theorem w_c2 : (Jvm.Cond.code ({ cls := "com/example/reprofield/reprofield/CodedElement", name := "values", desc := "()[Lcom/example/reprofield/reprofield/CodedElement;" } : Jvm.MethodName) prog_6_method_1_code (0 : Nat) (Option.some (Jvm.ClassFile.FieldType.array (Jvm.ClassFile.FieldType.object "com/example/reprofield/reprofield/CodedElement")))).before args0 about1 = true := code_word (m := ⟨6, 0⟩) (meth := k6m0) (c := k6c0) (by decide +kernel) rfl rfl rfl (by decide +kernel)
set_option maxRecDepth 65536 in
theorem w_c3 : (Jvm.Cond.code ({ cls := "java/util/Optional", name := "empty", desc := "()Ljava/util/Optional;" } : Jvm.MethodName) jdk_32_method_1_code (1 : Nat) (Option.some (Jvm.ClassFile.FieldType.object "java/util/Optional"))).before args0 about1 = true := code_word (m := ⟨9, 0⟩) (meth := k9m0) (c := k9c0) (by decide +kernel) rfl rfl rfl (by decide +kernel)
set_option maxRecDepth 65536 in
theorem w_c4 : (Jvm.Cond.code ({ cls := "java/util/Optional", name := "orElse", desc := "(Ljava/lang/Object;)Ljava/lang/Object;" } : Jvm.MethodName) jdk_32_method_15_code (2 : Nat) (Option.some (Jvm.ClassFile.FieldType.object "java/lang/Object"))).before args0 about1 = true := code_word (m := ⟨9, 3⟩) (meth := k9m3) (c := k9c3) (by decide +kernel) rfl rfl rfl (by decide +kernel)
set_option maxRecDepth 65536 in
theorem w_c5 : (Jvm.Cond.code ({ cls := "com/example/reprofield/reprofield/CodedElementForOclcSubfieldPinLaw", name := "expected", desc := "(C)Lcom/example/reprofield/reprofield/CodedElement;" } : Jvm.MethodName) method_2_code (1 : Nat) (Option.some (Jvm.ClassFile.FieldType.object "com/example/reprofield/reprofield/CodedElement"))).before args0 about1 = true := code_word (m := ⟨1, 1⟩) (meth := k1m1) (c := k1c1) (by decide +kernel) rfl rfl rfl (by decide +kernel)
set_option maxRecDepth 65536 in
theorem w_c6 : (Jvm.Cond.code ({ cls := "java/util/Optional", name := "of", desc := "(Ljava/lang/Object;)Ljava/util/Optional;" } : Jvm.MethodName) jdk_32_method_3_code (1 : Nat) (Option.some (Jvm.ClassFile.FieldType.object "java/util/Optional"))).before args0 about1 = true := code_word (m := ⟨9, 2⟩) (meth := k9m2) (c := k9c2) (by decide +kernel) rfl rfl rfl (by decide +kernel)
set_option maxRecDepth 65536 in
theorem w_c7 : (Jvm.Cond.code ({ cls := "java/util/Objects", name := "requireNonNull", desc := "(Ljava/lang/Object;)Ljava/lang/Object;" } : Jvm.MethodName) jdk_31_method_10_code (1 : Nat) (Option.some (Jvm.ClassFile.FieldType.object "java/lang/Object"))).before args0 about1 = true := code_word (m := ⟨10, 1⟩) (meth := k10m1) (c := k10c1) (by decide +kernel) rfl rfl rfl (by decide +kernel)
set_option maxRecDepth 65536 in
theorem w_c8 : (Jvm.Cond.code ({ cls := "java/util/Optional", name := "<init>", desc := "(Ljava/lang/Object;)V" } : Jvm.MethodName) jdk_32_method_2_code (2 : Nat) (Option.none : Option Jvm.ClassFile.FieldType)).before args0 about1 = true := code_word (m := ⟨9, 1⟩) (meth := k9m1) (c := k9c1) (by decide +kernel) rfl rfl rfl (by decide +kernel)
set_option maxRecDepth 65536 in
theorem w_c9 : (Jvm.Cond.code ({ cls := "java/lang/Object", name := "<init>", desc := "()V" } : Jvm.MethodName) object_method_1_code (1 : Nat) (Option.none : Option Jvm.ClassFile.FieldType)).before args0 about1 = true := code_word (m := ⟨0, 0⟩) (meth := k0m0) (c := k0c0) (by decide +kernel) rfl rfl rfl (by decide +kernel)
def codes1 : List Jvm.Cond := [Jvm.Cond.code x code maxLocals ret, Jvm.Cond.code ({ cls := "com/example/reprofield/reprofield/CodedElement", name := "forOclcSubfield", desc := "(C)Ljava/util/Optional;" } : Jvm.MethodName) prog_6_method_4_code (5 : Nat) (Option.some (Jvm.ClassFile.FieldType.object "java/util/Optional")), Jvm.Cond.code ({ cls := "com/example/reprofield/reprofield/CodedElement", name := "values", desc := "()[Lcom/example/reprofield/reprofield/CodedElement;" } : Jvm.MethodName) prog_6_method_1_code (0 : Nat) (Option.some (Jvm.ClassFile.FieldType.array (Jvm.ClassFile.FieldType.object "com/example/reprofield/reprofield/CodedElement"))), Jvm.Cond.code ({ cls := "java/util/Optional", name := "empty", desc := "()Ljava/util/Optional;" } : Jvm.MethodName) jdk_32_method_1_code (1 : Nat) (Option.some (Jvm.ClassFile.FieldType.object "java/util/Optional")), Jvm.Cond.code ({ cls := "java/util/Optional", name := "orElse", desc := "(Ljava/lang/Object;)Ljava/lang/Object;" } : Jvm.MethodName) jdk_32_method_15_code (2 : Nat) (Option.some (Jvm.ClassFile.FieldType.object "java/lang/Object")), Jvm.Cond.code ({ cls := "com/example/reprofield/reprofield/CodedElementForOclcSubfieldPinLaw", name := "expected", desc := "(C)Lcom/example/reprofield/reprofield/CodedElement;" } : Jvm.MethodName) method_2_code (1 : Nat) (Option.some (Jvm.ClassFile.FieldType.object "com/example/reprofield/reprofield/CodedElement")), Jvm.Cond.code ({ cls := "java/util/Optional", name := "of", desc := "(Ljava/lang/Object;)Ljava/util/Optional;" } : Jvm.MethodName) jdk_32_method_3_code (1 : Nat) (Option.some (Jvm.ClassFile.FieldType.object "java/util/Optional")), Jvm.Cond.code ({ cls := "java/util/Objects", name := "requireNonNull", desc := "(Ljava/lang/Object;)Ljava/lang/Object;" } : Jvm.MethodName) jdk_31_method_10_code (1 : Nat) (Option.some (Jvm.ClassFile.FieldType.object "java/lang/Object")), Jvm.Cond.code ({ cls := "java/util/Optional", name := "<init>", desc := "(Ljava/lang/Object;)V" } : Jvm.MethodName) jdk_32_method_2_code (2 : Nat) (Option.none : Option Jvm.ClassFile.FieldType), Jvm.Cond.code ({ cls := "java/lang/Object", name := "<init>", desc := "()V" } : Jvm.MethodName) object_method_1_code (1 : Nat) (Option.none : Option Jvm.ClassFile.FieldType)]
set_option maxRecDepth 65536 in
theorem codes_eq : words1.filter isCode = codes1 := rfl
theorem w_codes : ∀ c ∈ words1.filter isCode, c.before args0 about1 = true := by
  rw [codes_eq]
  intro c hc
  simp only [codes1, List.mem_cons, List.not_mem_nil, or_false] at hc
  rcases hc with rfl | rfl | rfl | rfl | rfl | rfl | rfl | rfl | rfl | rfl
  · exact w_c0
  · exact w_c1
  · exact w_c2
  · exact w_c3
  · exact w_c4
  · exact w_c5
  · exact w_c6
  · exact w_c7
  · exact w_c8
  · exact w_c9
set_option maxRecDepth 65536 in
theorem w_t1 : (words1.take 24).all (fun c => isCode c || c.before args0 about1) = true := by decide +kernel
set_option maxRecDepth 65536 in
theorem w_t2 : ((words1.drop 24).take 24).all (fun c => isCode c || c.before args0 about1) = true := by decide +kernel
set_option maxRecDepth 65536 in
theorem w_t3 : ((words1.drop 24).drop 24).all (fun c => isCode c || c.before args0 about1) = true := by decide +kernel
theorem w_tables : (allAtoms (Jvm.Cond.code x code maxLocals ret :: tables_1)).before args0 about1 = true := by
  rw [allAtoms_all]
  show words1.all (fun c => c.before args0 about1) = true
  refine all_split ?_ w_codes
  rw [← List.take_append_drop 24 words1, List.all_append, w_t1, ← List.take_append_drop 24 (words1.drop 24), List.all_append, w_t2, w_t3]
  rfl
set_option maxRecDepth 65536 in
theorem w_rest : rest_1_c.before args0 about1 = true := by decide +kernel
set_option maxRecDepth 65536 in
theorem w_case : (Jvm.Cond.and given_1 narrow_1).before args0 about1 = true := by decide +kernel
theorem w_applies : (headSpec (Jvm.Cond.code x code maxLocals ret :: tables_1) room_1).applies x e0.platform about1 = true :=
  (Spec.applies_iff w_frames).mpr ⟨w_running, w_runnable, w_alone, w_named, w_hears, w_ripe, w_room, w_tables⟩
theorem atStart : AtStart classFile x code maxLocals ret World_1 tables_1 room_1 Calls_1 rest_1 Pre_1 launch0 p0 e0 about1 theMethod args0 below0 :=
  ⟨lists_1, trivial, launch0.admits_env _ _ _, launch0.least_env, fairChoices_fair.cas, fairChoices_fair.clock, w_frames, w_args, w_heap, w_applies, trivial, w_rest, w_case⟩
end start1
theorem witness_1 : WitnessClaimed_1 := ⟨start1.p0, start1.e0, start1.about1, start1.theMethod, start1.args0, start1.below0, start1.atStart⟩
end Jvm.Pilot.@@N@@
