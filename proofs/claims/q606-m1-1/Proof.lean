import JvmDerived
import JvmDerived.Pilot.@@N@@Statement
import JvmDerived.Pilot.@@N@@Code
set_option linter.unusedVariables false
set_option linter.unusedSimpArgs false
namespace Jvm.RoadKit
open Sem ClassFile Op Lib Jvm.Stand Jvm.Free Jvm.LawKit
section OwnGo
variable {p : Program} {l : Launch} {e : Env} {R : Room} {s : State} {m : MethodId} {args : Array Value} {below : List Frame} {meth : Method} {c : Code} {T : State} {locs : List Loc} {cells slots : Nat} {Z : State} {a0 : Array Value} {h : Heap} {Q : Option Value → Heap → List Loc → Prop} {kc ks : Nat} {Fin : State → Outcome → Prop}
/-- what is left of a body's walk: from the frame g over T the run ends, in what Fin says -/
def Go (p : Program) (e : Env) (below : List Frame) (Fin : State → Outcome → Prop) (T : State) (g : JFrame) : Prop :=
  ∃ (t : State) (o : Outcome), Steps p.tables e below (T.setTop g) t ∧ t.status = .running ∧ Ended t below o ∧ Fin t o
/-- it returns what Q says; nothing interned -/
def FinN (s : State) (Q : Option Value → Heap → List Loc → Prop) (kc ks : Nat) (t : State) (o : Outcome) : Prop := ∃ v L, o = .returned v ∧ Q v t.heap L ∧ FrameEnd s o t L kc ks
/-- it returns what Q says; String constants may have been interned -/
def FinW (s : State) (Q : Option Value → Heap → List Loc → Vm → Prop) (kc ks : Nat) (t : State) (o : Outcome) : Prop := ∃ v L, o = .returned v ∧ Q v t.heap L t.vm ∧ ReturnedEndW s o t L kc ks
theorem Go.to {T' : State} {g : JFrame} (g' : JFrame) (st : ∀ t, Steps p.tables e below (T'.setTop g') t → Steps p.tables e below (T.setTop g) t) (K : Go p e below Fin T' g') : Go p e below Fin T g := by
  obtain ⟨t, o, h1, r⟩ := K
  exact ⟨t, o, st t h1, r⟩
theorem Go.cast {g g' : JFrame} (q : g = g') (K : Go p e below Fin T g') : Go p e below Fin T g := q ▸ K
/-- a body's contract: with the arguments as' at the heap h0 it returns what Q says -/
def Met1 (l : Launch) (Z : State) (y : MethodName) (bytes : ByteArray) (maxL : Nat) (ret : Option FieldType) (rm : Room) (as' : Array Value) (h0 : Heap) (Q : Option Value → Heap → List Loc → Prop) : Prop :=
  ∀ ws : List Cond, MetFree l y (head1 (Cond.code y bytes maxL ret :: ws) rm) (fun a U => a = as' ∧ Z.Warmed39 U.vm ∧ U.heap = h0) (fun _ _ _ _ _ => True) (fun _ U o U' => ∃ v L, o = .returned v ∧ Q v U'.heap L ∧ FrameEnd U o U' L rm.cells rm.slots)
/-- .. which may intern; J: what is known of the tables where it is called -/
def MetW (l : Launch) (Z : State) (y : MethodName) (bytes : ByteArray) (maxL : Nat) (ret : Option FieldType) (rm : Room) (as' : Array Value) (h0 : Heap) (J : Vm → Prop) (Q : Option Value → Heap → List Loc → Vm → Prop) : Prop :=
  ∀ ws : List Cond, MetFree l y (head1 (Cond.code y bytes maxL ret :: ws) rm) (fun a U => a = as' ∧ Z.Warmed39 U.vm ∧ U.heap = h0 ∧ J U.vm) (fun _ _ _ _ _ => True) (fun _ U o U' => ∃ v L, o = .returned v ∧ Q v U'.heap L U'.vm ∧ ReturnedEndW U o U' L rm.cells rm.slots)
theorem Met1.mk {y : MethodName} {bytes : ByteArray} {maxL : Nat} {ret : Option FieldType} {rm : Room} {as' : Array Value} {h0 : Heap} (hp : plainFor y = true)
    (body : ∀ (p : Program) (e : Env) (s : State) (m : MethodId) (below : List Frame) (meth : Method) (c : Code) (s₁ : State), p.tables.exec = Jvm.exec → Z.Warmed39 s.vm → c.code = bytes → c.maxLocals = maxL → s.vm.findClass y.cls = some m.cls → meth.name = y.name → meth.sig.returnType = ret → meth.locks = false → Stand p l e rm s m as' below meth c s₁ [] 0 0 → s₁.heap = h0 → Go p e below (FinN s Q rm.cells rm.slots) s₁ (entryFrame m as' maxL)) :
    Met1 l Z y bytes maxL ret rm as' h0 Q := by
  intro ws
  refine MetFree.of_bodySF hp hisR ?_
  intro p e s m args below meth c s₁ Bd hml0 hP hK
  obtain ⟨rfl, hZ, hh⟩ := hP
  exact body p e s m below meth c s₁ Bd.exec hZ Bd.bytes hml0 (findClass_of_methodNamed Bd.named) (name_of_methodNamed Bd.named Bd.method).1 Bd.returns Bd.notSynchronized (Stand.of_body Bd) (by rw [← hh, Bd.state]; rfl)
theorem MetW.mk {y : MethodName} {bytes : ByteArray} {maxL : Nat} {ret : Option FieldType} {rm : Room} {as' : Array Value} {h0 : Heap} {J : Vm → Prop} {QW : Option Value → Heap → List Loc → Vm → Prop} (hp : plainFor y = true)
    (body : ∀ (p : Program) (e : Env) (s : State) (m : MethodId) (below : List Frame) (meth : Method) (c : Code) (s₁ : State) (vm0 : Vm), p.tables.exec = Jvm.exec → Z.Warmed39 (s.setVm vm0).vm → c.code = bytes → c.maxLocals = maxL → (s.setVm vm0).vm.findClass y.cls = some m.cls → meth.name = y.name → meth.sig.returnType = ret → meth.locks = false → Stand p l e rm (s.setVm vm0) m as' below meth c s₁ [] 0 0 → s₁.heap = h0 → s.Since vm0 0 → s.heap = h0 → (s.setVm vm0).methodNamed? y = some m → J vm0 → Go p e below (FinW s QW rm.cells rm.slots) s₁ (entryFrame m as' maxL)) :
    MetW l Z y bytes maxL ret rm as' h0 J QW := by
  intro ws
  refine MetFree.of_bodySF hp hisR ?_
  intro p e s m args below meth c s₁ Bd hml0 hP hK
  obtain ⟨rfl, hZ, hh, hJ⟩ := hP
  exact body p e s m below meth c s₁ s.vm Bd.exec hZ Bd.bytes hml0 (findClass_of_methodNamed Bd.named) (name_of_methodNamed Bd.named Bd.method).1 Bd.returns Bd.notSynchronized (Stand.of_body Bd) (by rw [← hh, Bd.state]; rfl) (State.WarmedH.since (State.WarmedH.refl s) 0) hh Bd.named hJ
theorem Go.retI (X : Stand p l e R s m args below meth c T locs cells slots) (hx : p.tables.exec = Jvm.exec) (hret : meth.sig.returnType = some .int) (hlk : meth.locks = false) {pc : Nat} {Ls : Array Slot} {z : Int32} {rest : List Value} (hd : decode c.code pc = .ok (.ireturn, 1)) (hc : cells ≤ kc) (hs : slots ≤ ks)
    (hq : Q (some (.int z)) T.heap locs) : Go p e below (FinN s Q kc ks) T (mkF m pc Ls (.int z :: rest)) := by
  obtain ⟨fs, hr, hrun, hended, hW, hsame⟩ := X.leave (v := (some (.int z))) (fun h => by rw [hret] at h; cases h) hlk
  exact ⟨_, _, Jvm.RoadKit.retOut X hx hret (t := .int) rfl (Or.inl ⟨rfl, Or.inl rfl, _, rfl⟩) hd hr, hrun, hended, _, _, rfl, hq, ⟨_, rfl⟩, hW, hsame.mono hc hs⟩
theorem Go.retIW {vm0 : Vm} {QW : Option Value → Heap → List Loc → Vm → Prop} (X : Stand p l e R (s.setVm vm0) m args below meth c T locs cells slots) (hx : p.tables.exec = Jvm.exec) (hret : meth.sig.returnType = some .int) (hlk : meth.locks = false) {pc : Nat} {Ls : Array Slot} {z : Int32} {rest : List Value} (hd : decode c.code pc = .ok (.ireturn, 1)) (hc : cells ≤ kc) (hs : slots ≤ ks) {n : Nat} (hS : s.Since vm0 n) (hn : n ≤ T.heap.size)
    (hq : QW (some (.int z)) T.heap locs T.vm) : Go p e below (FinW s QW kc ks) T (mkF m pc Ls (.int z :: rest)) := by
  obtain ⟨fs, hr, hrun, hended, h1, h2, h3, h4⟩ := X.leaveW hS hn (v := (some (.int z))) (fun h => by rw [hret] at h; cases h) hlk
  exact ⟨_, _, Jvm.RoadKit.retOut X hx hret (t := .int) rfl (Or.inl ⟨rfl, Or.inl rfl, _, rfl⟩) hd hr, hrun, hended, _, _, rfl, hq, h1, h2, h3, h4.mono hc hs⟩
theorem Go.retN' (X : Stand p l e R s m args below meth c T locs cells slots) (hx : p.tables.exec = Jvm.exec) {t : FieldType} (hret : meth.sig.returnType = some t) (hlk : meth.locks = false) (ht : t = .boolean ∨ t = .byte ∨ t = .char ∨ t = .short) {pc : Nat} {Ls : Array Slot} {z : Int32} {rest : List Value} (hd : decode c.code pc = .ok (.ireturn, 1)) (hc : cells ≤ kc) (hs : slots ≤ ks)
    (hq : Q (some (.int (nar t z))) T.heap locs) : Go p e below (FinN s Q kc ks) T (mkF m pc Ls (.int z :: rest)) := by
  obtain ⟨fs, hr, hrun, hended, hW, hsame⟩ := X.leave (v := (some (.int (nar t z)))) (fun h => by rw [hret] at h; cases h) hlk
  exact ⟨_, _, Jvm.RoadKit.retN X hx hret ht hd hr, hrun, hended, _, _, rfl, hq, ⟨_, rfl⟩, hW, hsame.mono hc hs⟩
theorem Go.retNW' {vm0 : Vm} {QW : Option Value → Heap → List Loc → Vm → Prop} (X : Stand p l e R (s.setVm vm0) m args below meth c T locs cells slots) (hx : p.tables.exec = Jvm.exec) {t : FieldType} (hret : meth.sig.returnType = some t) (hlk : meth.locks = false) (ht : t = .boolean ∨ t = .byte ∨ t = .char ∨ t = .short) {pc : Nat} {Ls : Array Slot} {z : Int32} {rest : List Value} (hd : decode c.code pc = .ok (.ireturn, 1)) (hc : cells ≤ kc) (hs : slots ≤ ks) {n : Nat} (hS : s.Since vm0 n) (hn : n ≤ T.heap.size)
    (hq : QW (some (.int (nar t z))) T.heap locs T.vm) : Go p e below (FinW s QW kc ks) T (mkF m pc Ls (.int z :: rest)) := by
  obtain ⟨fs, hr, hrun, hended, h1, h2, h3, h4⟩ := X.leaveW hS hn (v := (some (.int (nar t z)))) (fun h => by rw [hret] at h; cases h) hlk
  exact ⟨_, _, Jvm.RoadKit.retN X hx hret ht hd hr, hrun, hended, _, _, rfl, hq, h1, h2, h3, h4.mono hc hs⟩
theorem Go.retL (X : Stand p l e R s m args below meth c T locs cells slots) (hx : p.tables.exec = Jvm.exec) (hret : meth.sig.returnType = some .long) (hlk : meth.locks = false) {pc : Nat} {Ls : Array Slot} {z : Int64} {rest : List Value} (hd : decode c.code pc = .ok (.lreturn, 1)) (hc : cells ≤ kc) (hs : slots ≤ ks)
    (hq : Q (some (.long z)) T.heap locs) : Go p e below (FinN s Q kc ks) T (mkF m pc Ls (.long z :: rest)) := by
  obtain ⟨fs, hr, hrun, hended, hW, hsame⟩ := X.leave (v := (some (.long z))) (fun h => by rw [hret] at h; cases h) hlk
  exact ⟨_, _, Jvm.RoadKit.retOut X hx hret (t := .long) rfl (Or.inr (Or.inl ⟨rfl, rfl, _, rfl⟩)) hd hr, hrun, hended, _, _, rfl, hq, ⟨_, rfl⟩, hW, hsame.mono hc hs⟩
theorem Go.retLW {vm0 : Vm} {QW : Option Value → Heap → List Loc → Vm → Prop} (X : Stand p l e R (s.setVm vm0) m args below meth c T locs cells slots) (hx : p.tables.exec = Jvm.exec) (hret : meth.sig.returnType = some .long) (hlk : meth.locks = false) {pc : Nat} {Ls : Array Slot} {z : Int64} {rest : List Value} (hd : decode c.code pc = .ok (.lreturn, 1)) (hc : cells ≤ kc) (hs : slots ≤ ks) {n : Nat} (hS : s.Since vm0 n) (hn : n ≤ T.heap.size)
    (hq : QW (some (.long z)) T.heap locs T.vm) : Go p e below (FinW s QW kc ks) T (mkF m pc Ls (.long z :: rest)) := by
  obtain ⟨fs, hr, hrun, hended, h1, h2, h3, h4⟩ := X.leaveW hS hn (v := (some (.long z))) (fun h => by rw [hret] at h; cases h) hlk
  exact ⟨_, _, Jvm.RoadKit.retOut X hx hret (t := .long) rfl (Or.inr (Or.inl ⟨rfl, rfl, _, rfl⟩)) hd hr, hrun, hended, _, _, rfl, hq, h1, h2, h3, h4.mono hc hs⟩
theorem own_narrow_ref {t : FieldType} {w : Value} (ht : t.isReference = true) : narrow t w = w := by cases t <;> first | rfl | (cases ht)
theorem Go.retA (X : Stand p l e R s m args below meth c T locs cells slots) (hx : p.tables.exec = Jvm.exec) {t : FieldType} (hret : meth.sig.returnType = some t) (hlk : meth.locks = false) (ht : t.isReference = true) {pc : Nat} {Ls : Array Slot} {w : Value} {rest : List Value} (hw : w.isRef = true) (hd : decode c.code pc = .ok (.areturn, 1)) (hc : cells ≤ kc) (hs : slots ≤ ks)
    (hq : Q (some w) T.heap locs) : Go p e below (FinN s Q kc ks) T (mkF m pc Ls (w :: rest)) := by
  obtain ⟨fs, hr, hrun, hended, hW, hsame⟩ := X.leave (v := (some w)) (fun h => by rw [hret] at h; cases h) hlk
  exact ⟨_, _, Jvm.RoadKit.retOut X hx hret (t := t) (own_narrow_ref ht) (Or.inr (Or.inr (Or.inr (Or.inr ⟨rfl, ht, hw⟩)))) hd hr, hrun, hended, _, _, rfl, hq, ⟨_, rfl⟩, hW, hsame.mono hc hs⟩
theorem Go.retAW {vm0 : Vm} {QW : Option Value → Heap → List Loc → Vm → Prop} (X : Stand p l e R (s.setVm vm0) m args below meth c T locs cells slots) (hx : p.tables.exec = Jvm.exec) {t : FieldType} (hret : meth.sig.returnType = some t) (hlk : meth.locks = false) (ht : t.isReference = true) {pc : Nat} {Ls : Array Slot} {w : Value} {rest : List Value} (hw : w.isRef = true) (hd : decode c.code pc = .ok (.areturn, 1)) (hc : cells ≤ kc) (hs : slots ≤ ks) {n : Nat} (hS : s.Since vm0 n) (hn : n ≤ T.heap.size)
    (hq : QW (some w) T.heap locs T.vm) : Go p e below (FinW s QW kc ks) T (mkF m pc Ls (w :: rest)) := by
  obtain ⟨fs, hr, hrun, hended, h1, h2, h3, h4⟩ := X.leaveW hS hn (v := (some w)) (fun h => by rw [hret] at h; cases h) hlk
  exact ⟨_, _, Jvm.RoadKit.retOut X hx hret (t := t) (own_narrow_ref ht) (Or.inr (Or.inr (Or.inr (Or.inr ⟨rfl, ht, hw⟩)))) hd hr, hrun, hended, _, _, rfl, hq, h1, h2, h3, h4.mono hc hs⟩
theorem Go.ret0 (X : Stand p l e R s m args below meth c T locs cells slots) (hx : p.tables.exec = Jvm.exec) (hret : meth.sig.returnType = none) (hlk : meth.locks = false) {pc : Nat} {Ls : Array Slot} (hd : decode c.code pc = .ok (.return_, 1)) (hc : cells ≤ kc) (hs : slots ≤ ks)
    (hq : Q none T.heap locs) : Go p e below (FinN s Q kc ks) T (mkF m pc Ls []) := by
  obtain ⟨fs, hr, hrun, hended, hW, hsame⟩ := X.leave (v := none) (fun _ => rfl) hlk
  exact ⟨_, _, X.returnOut hx hret hd hr, hrun, hended, _, _, rfl, hq, ⟨_, rfl⟩, hW, hsame.mono hc hs⟩
theorem Go.ret0W {vm0 : Vm} {QW : Option Value → Heap → List Loc → Vm → Prop} (X : Stand p l e R (s.setVm vm0) m args below meth c T locs cells slots) (hx : p.tables.exec = Jvm.exec) (hret : meth.sig.returnType = none) (hlk : meth.locks = false) {pc : Nat} {Ls : Array Slot} (hd : decode c.code pc = .ok (.return_, 1)) (hc : cells ≤ kc) (hs : slots ≤ ks) {n : Nat} (hS : s.Since vm0 n) (hn : n ≤ T.heap.size)
    (hq : QW none T.heap locs T.vm) : Go p e below (FinW s QW kc ks) T (mkF m pc Ls []) := by
  obtain ⟨fs, hr, hrun, hended, h1, h2, h3, h4⟩ := X.leaveW hS hn (v := none) (fun _ => rfl) hlk
  exact ⟨_, _, X.returnOut hx hret hd hr, hrun, hended, _, _, rfl, hq, h1, h2, h3, h4.mono hc hs⟩
theorem Go.retN (X : Stand p l e R s m args below meth c T locs cells slots) (hx : p.tables.exec = Jvm.exec) {t : FieldType} (hret : meth.sig.returnType = some t) (hlk : meth.locks = false) (ht : t = .boolean ∨ t = .byte ∨ t = .char ∨ t = .short) {pc : Nat} {Ls : Array Slot} {z z' : Int32} {rest : List Value} (hd : decode c.code pc = .ok (.ireturn, 1)) (hc : cells ≤ kc) (hs : slots ≤ ks) (hz : nar t z = z')
    (hq : Q (some (.int z')) T.heap locs) : Go p e below (FinN s Q kc ks) T (mkF m pc Ls (.int z :: rest)) := by
  subst hz; exact Go.retN' X hx hret hlk ht hd hc hs hq
theorem Go.retNW {vm0 : Vm} {QW : Option Value → Heap → List Loc → Vm → Prop} (X : Stand p l e R (s.setVm vm0) m args below meth c T locs cells slots) (hx : p.tables.exec = Jvm.exec) {t : FieldType} (hret : meth.sig.returnType = some t) (hlk : meth.locks = false) (ht : t = .boolean ∨ t = .byte ∨ t = .char ∨ t = .short) {pc : Nat} {Ls : Array Slot} {z z' : Int32} {rest : List Value} (hd : decode c.code pc = .ok (.ireturn, 1)) (hc : cells ≤ kc) (hs : slots ≤ ks) {n : Nat} (hS : s.Since vm0 n) (hn : n ≤ T.heap.size) (hz : nar t z = z')
    (hq : QW (some (.int z')) T.heap locs T.vm) : Go p e below (FinW s QW kc ks) T (mkF m pc Ls (.int z :: rest)) := by
  subst hz; exact Go.retNW' X hx hret hlk ht hd hc hs hS hn hq
/-- who pays a call: with the arguments as' at the heap h, k cells and n slots more, what Qc says -/
def OBk (l : Launch) (R : Room) (p : Program) (e : Env) (below : List Frame) (s : State) (args : Array Value) (y : MethodName) (len W : Nat) (as' : Array Value) (h : Heap) (k n : Nat) (Qc : Option Value → Heap → List Loc → Prop) : Prop :=
  Back l R p e below s args y len W (fun A a => a = as' ∧ A.U.heap = h ∧ A.cells + k ≤ R.cells ∧ A.slots + n ≤ R.slots) (fun A _ v B => ∃ L, Qc v B.U.heap L ∧ B.locs = A.locs ++ L ∧ B.cells = A.cells + k ∧ B.slots = A.slots + n)
theorem Met1.back {y : MethodName} {bytes : ByteArray} {maxL : Nat} {ret : Option FieldType} {rm : Room} {as' : Array Value} {Qc : Option Value → Heap → List Loc → Prop} {len W : Nat} (M : Met1 l Z y bytes maxL ret rm as' h Qc) (hZ : Z.Warmed39 s.vm) (wc : (Cond.code y bytes maxL ret).before a0 Z = true) (wz : (Cond.initialized y.cls).before a0 Z = true) (hf : rm.frames + 1 ≤ R.frames) (hl : W + (maxL + 11) + rm.locals ≤ R.locals) :
    OBk l R p e below s args y len W as' h rm.cells rm.slots Qc := backOf (M []) hZ wc wz hf hl
/-- a constructor by its contract -/
theorem Go.special (X : Stand p l e R s m args below meth c T locs cells slots) (hx : p.tables.exec = Jvm.exec) (hZ : Z.Warmed39 s.vm) {own : String} {index : Nat} {y : MethodName} {bytes : ByteArray} {maxL : Nat} (hy1 : y.name = "<init>") (hown : s.vm.findClass own = some m.cls)
    (w1 : (Cond.methodLink own index y).before a0 Z = true) (w2 : (Cond.instanceMethod y).before a0 Z = true) (w3 : (Cond.code y bytes maxL none).before a0 Z = true) (hy : y.cls ≠ "java/lang/invoke/MethodHandle" ∧ y.cls ≠ "java/lang/invoke/VarHandle")
    (eT : T.heap = h) {kC kS : Nat} {a : Addr} {argsL rest : List Value} {Qc : Option Value → Heap → List Loc → Prop} {W : Nat} (B : OBk l R p e below s args y 3 W (.ref a :: argsL).toArray h kC kS Qc)
    {pc : Nat} {Ls : Array Slot} (hsz : Ls.size = c.maxLocals) (hlen : ∀ sig, parseMethodDescriptor y.desc = some sig → argsL.length = sig.parameters.length) {st : List Value} (hst : st = argsL.reverse ++ .ref a :: rest) (hW : (rest.map fun v => v.category).sum ≤ W) (hd : decode c.code pc = .ok (.invokespecial index, 3))
    (hc : cells + kC ≤ R.cells) (hs : slots + kS ≤ R.slots)
    (K : ∀ (T' : State) (v : Option Value) (L : List Loc), Stand p l e R s m args below meth c T' (locs ++ L) (cells + kC) (slots + kS) → Qc v T'.heap L → Go p e below Fin T' (mkF m (pc + 3) Ls (v.toList ++ rest))) : Go p e below Fin T (mkF m pc Ls st) := by
  subst hst
  obtain ⟨v, _, ⟨T', L', k', n'⟩, -, X', ⟨Lc, hQ, hl, hk, hn⟩, stp⟩ := X.specialBack hx (y := y) hy1 hown (mvT hZ w1) (mvT hZ w2) (mvT hZ w3) hy B (g := mkF m pc Ls (argsL.reverse ++ .ref a :: rest)) rfl hsz (Steps.refl _) (a := a) (argsL := argsL) (rest := rest) hlen rfl (by show 2 * 0 + _ ≤ _; omega) hd (fun _ _ => ⟨rfl, eT, hc, hs⟩)
  dsimp only [Pt.U, Pt.locs, Pt.cells, Pt.slots] at X' hl hk hn stp hQ
  subst hl hk hn
  obtain ⟨t, o, h1, r⟩ := K T' v Lc X' hQ
  exact ⟨t, o, stp.trans h1, r⟩
/-- an instance method by the contract of the body that the receiver's class selects -/
theorem Go.virt (X : Stand p l e R s m args below meth c T locs cells slots) (hx : p.tables.exec = Jvm.exec) (hZ : Z.Warmed39 s.vm) {own C : String} {index : Nat} {y z : MethodName} (hown : s.vm.findClass own = some m.cls)
    (w1 : (Cond.methodLink own index y).before a0 Z = true) (w2 : (Cond.declares y).before a0 Z = true) (nf : NotFace s y) (w3 : (Cond.selects C y z).before a0 Z = true) (w4 : (Cond.instanceMethod z).before a0 Z = true) (hy : y.cls ≠ "java/lang/invoke/MethodHandle" ∧ y.cls ≠ "java/lang/invoke/VarHandle")
    (eT : T.heap = h) {kC kS : Nat} {a : Addr} (E : Exa Z h a C) {argsL rest : List Value} {Qc : Option Value → Heap → List Loc → Prop} {W : Nat} (B : OBk l R p e below s args z 3 W (.ref a :: argsL).toArray h kC kS Qc)
    {pc : Nat} {Ls : Array Slot} (hsz : Ls.size = c.maxLocals) (hlen : ∀ sig, parseMethodDescriptor y.desc = some sig → argsL.length = sig.parameters.length) {st : List Value} (hst : st = argsL.reverse ++ .ref a :: rest) (hW : (rest.map fun v => v.category).sum ≤ W) (hd : decode c.code pc = .ok (.invokevirtual index, 3))
    (hc : cells + kC ≤ R.cells) (hs : slots + kS ≤ R.slots)
    (K : ∀ (T' : State) (v : Option Value) (L : List Loc), Stand p l e R s m args below meth c T' (locs ++ L) (cells + kC) (slots + kS) → Qc v T'.heap L → Go p e below Fin T' (mkF m (pc + 3) Ls (v.toList ++ rest))) : Go p e below Fin T (mkF m pc Ls st) := by
  subst hst
  obtain ⟨cq, kq, qa, qb, qc⟩ := isOf hZ eT E
  obtain ⟨v, _, ⟨T', L', k', n'⟩, -, X', ⟨Lc, hQ, hl, hk, hn⟩, stp⟩ := X.virtualBack hx (y := y) (z := z) hown (mvT hZ w1) (mvT hZ w2) nf (mvT hZ w3) (mvT hZ w4) hy B qa qc (g := mkF m pc Ls (argsL.reverse ++ .ref a :: rest)) rfl hsz (Steps.refl _) (argsL := argsL) (rest := rest) hlen rfl (by show 2 * 0 + _ ≤ _; omega) hd (fun _ _ => ⟨rfl, eT, hc, hs⟩)
  dsimp only [Pt.U, Pt.locs, Pt.cells, Pt.slots] at X' hl hk hn stp hQ
  subst hl hk hn
  obtain ⟨t, o, h1, r⟩ := K T' v Lc X' hQ
  exact ⟨t, o, stp.trans h1, r⟩
/-- an interface's method by the contract of the body that the receiver's class selects -/
theorem Go.face (X : Stand p l e R s m args below meth c T locs cells slots) (hx : p.tables.exec = Jvm.exec) (hZ : Z.Warmed39 s.vm) {own C : String} {index count : Nat} {y z : MethodName} (hown : s.vm.findClass own = some m.cls)
    (w1 : (Cond.methodLink own index y).before a0 Z = true) (w2 : (Cond.declares y).before a0 Z = true) (w2' : (Cond.interfaceMethod y.cls y.cls y.name y.desc).before a0 Z = true) (w3 : (Cond.selects C y z).before a0 Z = true) (w4 : (Cond.instanceMethod z).before a0 Z = true) (w4' : (Cond.publicMethod z).before a0 Z = true) (w7 : (Cond.unhidden C y.name y.desc).before a0 Z = true) (w8 : (Cond.castable C y.cls).before a0 Z = true) (hy : y.cls ≠ "java/lang/invoke/MethodHandle" ∧ y.cls ≠ "java/lang/invoke/VarHandle") (wq : ((Cond.interfaceMethod y.cls y.cls y.name y.desc).onTables && (Cond.interfaceMethod y.cls y.cls y.name y.desc).keepsFace) = true := by decide +kernel)
    (eT : T.heap = h) {kC kS : Nat} {a : Addr} (E : Exa Z h a C) {argsL rest : List Value} {Qc : Option Value → Heap → List Loc → Prop} {W : Nat} (B : OBk l R p e below s args z 5 W (.ref a :: argsL).toArray h kC kS Qc)
    {pc : Nat} {Ls : Array Slot} (hsz : Ls.size = c.maxLocals) (hlen : ∀ sig, parseMethodDescriptor y.desc = some sig → argsL.length = sig.parameters.length) {st : List Value} (hst : st = argsL.reverse ++ .ref a :: rest) (hW : (rest.map fun v => v.category).sum ≤ W) (hd : decode c.code pc = .ok (.invokeinterface index count, 5))
    (hc : cells + kC ≤ R.cells) (hs : slots + kS ≤ R.slots)
    (K : ∀ (T' : State) (v : Option Value) (L : List Loc), Stand p l e R s m args below meth c T' (locs ++ L) (cells + kC) (slots + kS) → Qc v T'.heap L → Go p e below Fin T' (mkF m (pc + 5) Ls (v.toList ++ rest))) : Go p e below Fin T (mkF m pc Ls st) := by
  subst hst
  obtain ⟨cq, kq, qa, qb, qc⟩ := isOf hZ eT E
  obtain ⟨v, _, ⟨T', L', k', n'⟩, -, X', ⟨Lc, hQ, hl, hk, hn⟩, stp⟩ := X.interfaceBack hx (xi := y) (y := z) hown (mvT hZ w1) (mvT hZ w2) (mvT hZ w2' wq) (mvT hZ w3) (mvT hZ w4) (mvT hZ w4') (mvT hZ w7) (mvT hZ w8) hy B qa qb qc (g := mkF m pc Ls (argsL.reverse ++ .ref a :: rest)) rfl hsz (Steps.refl _) (argsL := argsL) (rest := rest) hlen rfl (by show 2 * 0 + _ ≤ _; omega) hd (fun _ _ => ⟨rfl, eT, hc, hs⟩)
  dsimp only [Pt.U, Pt.locs, Pt.cells, Pt.slots] at X' hl hk hn stp hQ
  subst hl hk hn
  obtain ⟨t, o, h1, r⟩ := K T' v Lc X' hQ
  exact ⟨t, o, stp.trans h1, r⟩
/-- a private instance method by its contract -/
theorem Go.priv (X : Stand p l e R s m args below meth c T locs cells slots) (hx : p.tables.exec = Jvm.exec) (hZ : Z.Warmed39 s.vm) {own : String} {index : Nat} {y : MethodName} {bytes : ByteArray} {maxL : Nat} {ret : Option FieldType} {C : String} (hown : s.vm.findClass own = some m.cls)
    (w1 : (Cond.methodLink own index y).before a0 Z = true) (w2 : (Cond.instanceMethod y).before a0 Z = true) (sel : (Cond.selects y.cls y y).before args s = true) (w4 : (Cond.privateMethod y).before a0 Z = true) (w3 : (Cond.code y bytes maxL ret).before a0 Z = true) (hy : y.cls ≠ "java/lang/invoke/MethodHandle" ∧ y.cls ≠ "java/lang/invoke/VarHandle")
    (eT : T.heap = h) {kC kS : Nat} {a : Addr} (E : Exa Z h a C) {argsL rest : List Value} {Qc : Option Value → Heap → List Loc → Prop} {W : Nat} (B : OBk l R p e below s args y 3 W (.ref a :: argsL).toArray h kC kS Qc)
    {pc : Nat} {Ls : Array Slot} (hsz : Ls.size = c.maxLocals) (hlen : ∀ sig, parseMethodDescriptor y.desc = some sig → argsL.length = sig.parameters.length) {st : List Value} (hst : st = argsL.reverse ++ .ref a :: rest) (hW : (rest.map fun v => v.category).sum ≤ W) (hd : decode c.code pc = .ok (.invokevirtual index, 3))
    (hc : cells + kC ≤ R.cells) (hs : slots + kS ≤ R.slots)
    (K : ∀ (T' : State) (v : Option Value) (L : List Loc), Stand p l e R s m args below meth c T' (locs ++ L) (cells + kC) (slots + kS) → Qc v T'.heap L → Go p e below Fin T' (mkF m (pc + 3) Ls (v.toList ++ rest))) : Go p e below Fin T (mkF m pc Ls st) := by
  subst hst
  obtain ⟨cq, q, q'⟩ := E.cell
  obtain ⟨v, _, ⟨T', L', k', n'⟩, -, X', ⟨Lc, hQ, hl, hk, hn⟩, stp⟩ := X.privateBack hx (y := y) hown (mvT hZ w1) (mvT hZ w2) sel (Cond.privateMethod_at (mvP hZ w4 (args := #[]))) (mvT hZ w3) hy B (g := mkF m pc Ls (argsL.reverse ++ .ref a :: rest)) rfl hsz (Steps.refl _) (a := a) (by rw [eT]; exact q) q' (argsL := argsL) (rest := rest) hlen rfl (by show 2 * 0 + _ ≤ _; omega) hd (fun _ _ => ⟨rfl, eT, hc, hs⟩)
  dsimp only [Pt.U, Pt.locs, Pt.cells, Pt.slots] at X' hl hk hn stp hQ
  subst hl hk hn
  obtain ⟨t, o, h1, r⟩ := K T' v Lc X' hQ
  exact ⟨t, o, stp.trans h1, r⟩
/-- a static method by its contract -/
theorem Go.stat (X : Stand p l e R s m args below meth c T locs cells slots) (hx : p.tables.exec = Jvm.exec) (hZ : Z.Warmed39 s.vm) {own : String} {index : Nat} {y : MethodName} {bytes : ByteArray} {maxL : Nat} {ret : Option FieldType} (hown : s.vm.findClass own = some m.cls)
    (w1 : (Cond.methodLink own index y).before a0 Z = true) (w2 : (Cond.static y).before a0 Z = true) (w3 : (Cond.initialized y.cls).before a0 Z = true) (w4 : (Cond.code y bytes maxL ret).before a0 Z = true) (hy : y.cls ≠ "java/lang/invoke/MethodHandle" ∧ y.cls ≠ "java/lang/invoke/VarHandle")
    (eT : T.heap = h) {kC kS : Nat} {argsL rest : List Value} {Qc : Option Value → Heap → List Loc → Prop} {W : Nat} (B : OBk l R p e below s args y 3 W argsL.toArray h kC kS Qc)
    {pc : Nat} {Ls : Array Slot} (hsz : Ls.size = c.maxLocals) (hlen : ∀ sig, parseMethodDescriptor y.desc = some sig → argsL.length = sig.parameters.length) {st : List Value} (hst : st = argsL.reverse ++ rest) (hW : (rest.map fun v => v.category).sum ≤ W) (hd : decode c.code pc = .ok (.invokestatic index, 3))
    (hc : cells + kC ≤ R.cells) (hs : slots + kS ≤ R.slots)
    (K : ∀ (T' : State) (v : Option Value) (L : List Loc), Stand p l e R s m args below meth c T' (locs ++ L) (cells + kC) (slots + kS) → Qc v T'.heap L → Go p e below Fin T' (mkF m (pc + 3) Ls (v.toList ++ rest))) : Go p e below Fin T (mkF m pc Ls st) := by
  subst hst
  obtain ⟨v, _, ⟨T', L', k', n'⟩, -, X', ⟨Lc, hQ, hl, hk, hn⟩, stp⟩ := Jvm.LawKit.callS X hx (y := y) hown (mvT hZ w1) (mvT hZ w2) (mvT hZ w3) (mvT hZ w4) hy B (g := mkF m pc Ls (argsL.reverse ++ rest)) rfl hsz (argsL := argsL) (rest := rest) hlen rfl (by show 2 * 0 + _ ≤ _; omega) hd (fun _ _ => ⟨rfl, eT, hc, hs⟩)
  dsimp only [Pt.U, Pt.locs, Pt.cells, Pt.slots] at X' hl hk hn stp hQ
  subst hl hk hn
  obtain ⟨t, o, h1, r⟩ := K T' v Lc X' hQ
  exact ⟨t, o, stp t h1, r⟩
/-- who pays a call of a callee that may intern -/
def OBkS (l : Launch) (R : Room) (p : Program) (e : Env) (below : List Frame) (s : State) (args : Array Value) (y : MethodName) (len W : Nat) (as' : Array Value) (h : Heap) (k n : Nat) (Qc : Option Value → Heap → List Loc → Vm → Prop) : Prop :=
  BackS l R p e below s args y len W (fun A a => a = as' ∧ A.U.heap = h ∧ A.cells + k ≤ R.cells ∧ A.slots + n ≤ R.slots) (fun A _ v B => ∃ L, Qc v B.U.heap L B.U.vm ∧ B.locs = A.locs ++ L ∧ B.cells = A.cells + k ∧ B.slots = A.slots + n)
theorem MetW.back {y : MethodName} {bytes : ByteArray} {maxL : Nat} {ret : Option FieldType} {rm : Room} {as' : Array Value} {J : Vm → Prop} {Qc : Option Value → Heap → List Loc → Vm → Prop} {len W : Nat} (M : MetW l Z y bytes maxL ret rm as' h J Qc) (hZ : Z.Warmed39 s.vm) (hJ : ∀ vm1, s.WarmedH vm1 → J vm1) (wc : (Cond.code y bytes maxL ret).before a0 Z = true) (wz : (Cond.initialized y.cls).before a0 Z = true) (hf : rm.frames + 1 ≤ R.frames) (hl : W + (maxL + 11) + rm.locals ≤ R.locals) :
    OBkS l R p e below s args y len W as' h rm.cells rm.slots Qc :=
  BackS.of_freeW (bytes := bytes) (maxL := maxL) (ret := ret) (E := fun _ _ o t L k n => k = rm.cells ∧ n = rm.slots ∧ ∃ v, o = .returned v ∧ Qc v t.heap L t.vm) (M []) hf hl
    (fun m meth c A a Y hp => have hU : Z.Warmed39 A.U.vm := wtrans hZ Y.warmed
      ⟨by show (Cond.and _ .tt).before a A.U = true; rw [Cond.before_and, mv hU wc]; rfl, mv hU wc, mv hU wz, hp.2.2.1, hp.2.2.2⟩)
    (fun m meth c A a g mk Y hp => ⟨hp.1, wtrans hZ Y.warmed, hp.2.1, hJ _ Y.warmed⟩) (fun _ _ _ _ _ _ _ _ _ => trivial)
    (fun _ _ _ _ ⟨v, L, h1, h2, h3⟩ => ⟨L, _, _, h3, rfl, rfl, v, h1, h2⟩)
    (fun m meth c A a g mk v t L k n Y hp _ _ ⟨e1, e2, v', e3, e4⟩ => by cases e3; subst e1 e2; exact ⟨L, e4, rfl, rfl, rfl⟩)
/-- a constructor by its contract -/
theorem Go.specialS {vm0 : Vm} {k0 : Nat} (hS : s.Since vm0 k0) (hk0 : k0 ≤ h.size) (X : Stand p l e R (s.setVm vm0) m args below meth c T locs cells slots) (hx : p.tables.exec = Jvm.exec) (hZ : Z.Warmed39 (s.setVm vm0).vm) {own : String} {index : Nat} {y : MethodName} {bytes : ByteArray} {maxL : Nat} (hy1 : y.name = "<init>") (hown : (s.setVm vm0).vm.findClass own = some m.cls)
    (w1 : (Cond.methodLink own index y).before a0 Z = true) (w2 : (Cond.instanceMethod y).before a0 Z = true) (w3 : (Cond.code y bytes maxL none).before a0 Z = true) (hy : y.cls ≠ "java/lang/invoke/MethodHandle" ∧ y.cls ≠ "java/lang/invoke/VarHandle")
    (eT : T.heap = h) {kC kS : Nat} {a : Addr} {argsL rest : List Value} {Qc : Option Value → Heap → List Loc → Vm → Prop} {W : Nat} (B : OBkS l R p e below (s.setVm vm0) args y 3 W (.ref a :: argsL).toArray h kC kS Qc)
    {pc : Nat} {Ls : Array Slot} (hsz : Ls.size = c.maxLocals) (hlen : ∀ sig, parseMethodDescriptor y.desc = some sig → argsL.length = sig.parameters.length) {st : List Value} (hst : st = argsL.reverse ++ .ref a :: rest) (hW : (rest.map fun v => v.category).sum ≤ W) (hd : decode c.code pc = .ok (.invokespecial index, 3))
    (hc : cells + kC ≤ R.cells) (hs : slots + kS ≤ R.slots)
    (K : ∀ (T' : State) (v : Option Value) (L : List Loc), Stand p l e R (s.setVm T'.vm) m args below meth c T' (locs ++ L) (cells + kC) (slots + kS) → s.Since T'.vm T'.heap.size → (s.setVm vm0).Warmed39 T'.vm → Z.Warmed39 (s.setVm T'.vm).vm → (s.setVm T'.vm).vm.findClass own = some m.cls → h.size ≤ T'.heap.size → Qc v T'.heap L T'.vm → Go p e below Fin T' (mkF m (pc + 3) Ls (v.toList ++ rest))) : Go p e below Fin T (mkF m pc Ls st) := by
  subst hst
  obtain ⟨v, _, ⟨T', L', k', n'⟩, -, X', h2, hg, ⟨Lc, hQ, hl, hk, hn⟩, stp⟩ := X.specialBackS hx (y := y) hy1 hown (mvT hZ w1) (mvT hZ w2) (mvT hZ w3) hy B (g := mkF m pc Ls (argsL.reverse ++ .ref a :: rest)) rfl hsz (Steps.refl _) (a := a) (argsL := argsL) (rest := rest) hlen rfl (by show 2 * 0 + _ ≤ _; omega) hd (fun _ _ => ⟨rfl, eT, hc, hs⟩)
  dsimp only [Pt.U, Pt.locs, Pt.cells, Pt.slots] at X' h2 hg hl hk hn stp hQ
  subst hl hk hn
  rw [eT] at hg
  obtain ⟨X1, X2, X3, X4⟩ := rebS hS hk0 X' h2 hg hZ hown
  obtain ⟨t, o, h1, r⟩ := K T' v Lc X1 X2 h2.1 X3 X4 hg hQ
  exact ⟨t, o, stp.trans h1, r⟩
/-- an instance method by the contract of the body that the receiver's class selects -/
theorem Go.virtS {vm0 : Vm} {k0 : Nat} (hS : s.Since vm0 k0) (hk0 : k0 ≤ h.size) (X : Stand p l e R (s.setVm vm0) m args below meth c T locs cells slots) (hx : p.tables.exec = Jvm.exec) (hZ : Z.Warmed39 (s.setVm vm0).vm) {own C : String} {index : Nat} {y z : MethodName} (hown : (s.setVm vm0).vm.findClass own = some m.cls)
    (w1 : (Cond.methodLink own index y).before a0 Z = true) (w2 : (Cond.declares y).before a0 Z = true) (nf : NotFace (s.setVm vm0) y) (w3 : (Cond.selects C y z).before a0 Z = true) (w4 : (Cond.instanceMethod z).before a0 Z = true) (hy : y.cls ≠ "java/lang/invoke/MethodHandle" ∧ y.cls ≠ "java/lang/invoke/VarHandle")
    (eT : T.heap = h) {kC kS : Nat} {a : Addr} (E : Exa Z h a C) {argsL rest : List Value} {Qc : Option Value → Heap → List Loc → Vm → Prop} {W : Nat} (B : OBkS l R p e below (s.setVm vm0) args z 3 W (.ref a :: argsL).toArray h kC kS Qc)
    {pc : Nat} {Ls : Array Slot} (hsz : Ls.size = c.maxLocals) (hlen : ∀ sig, parseMethodDescriptor y.desc = some sig → argsL.length = sig.parameters.length) {st : List Value} (hst : st = argsL.reverse ++ .ref a :: rest) (hW : (rest.map fun v => v.category).sum ≤ W) (hd : decode c.code pc = .ok (.invokevirtual index, 3))
    (hc : cells + kC ≤ R.cells) (hs : slots + kS ≤ R.slots)
    (K : ∀ (T' : State) (v : Option Value) (L : List Loc), Stand p l e R (s.setVm T'.vm) m args below meth c T' (locs ++ L) (cells + kC) (slots + kS) → s.Since T'.vm T'.heap.size → (s.setVm vm0).Warmed39 T'.vm → Z.Warmed39 (s.setVm T'.vm).vm → (s.setVm T'.vm).vm.findClass own = some m.cls → h.size ≤ T'.heap.size → Qc v T'.heap L T'.vm → Go p e below Fin T' (mkF m (pc + 3) Ls (v.toList ++ rest))) : Go p e below Fin T (mkF m pc Ls st) := by
  subst hst
  obtain ⟨cq, kq, qa, qb, qc⟩ := isOf hZ eT E
  obtain ⟨v, _, ⟨T', L', k', n'⟩, -, X', h2, hg, ⟨Lc, hQ, hl, hk, hn⟩, stp⟩ := X.virtualBackS hx (y := y) (z := z) hown (mvT hZ w1) (mvT hZ w2) nf (mvT hZ w3) (mvT hZ w4) hy B qa qc (g := mkF m pc Ls (argsL.reverse ++ .ref a :: rest)) rfl hsz (Steps.refl _) (argsL := argsL) (rest := rest) hlen rfl (by show 2 * 0 + _ ≤ _; omega) hd (fun _ _ => ⟨rfl, eT, hc, hs⟩)
  dsimp only [Pt.U, Pt.locs, Pt.cells, Pt.slots] at X' h2 hg hl hk hn stp hQ
  subst hl hk hn
  rw [eT] at hg
  obtain ⟨X1, X2, X3, X4⟩ := rebS hS hk0 X' h2 hg hZ hown
  obtain ⟨t, o, h1, r⟩ := K T' v Lc X1 X2 h2.1 X3 X4 hg hQ
  exact ⟨t, o, stp.trans h1, r⟩
/-- an interface's method by the contract of the body that the receiver's class selects -/
theorem Go.faceS {vm0 : Vm} {k0 : Nat} (hS : s.Since vm0 k0) (hk0 : k0 ≤ h.size) (X : Stand p l e R (s.setVm vm0) m args below meth c T locs cells slots) (hx : p.tables.exec = Jvm.exec) (hZ : Z.Warmed39 (s.setVm vm0).vm) {own C : String} {index count : Nat} {y z : MethodName} (hown : (s.setVm vm0).vm.findClass own = some m.cls)
    (w1 : (Cond.methodLink own index y).before a0 Z = true) (w2 : (Cond.declares y).before a0 Z = true) (w2' : (Cond.interfaceMethod y.cls y.cls y.name y.desc).before a0 Z = true) (w3 : (Cond.selects C y z).before a0 Z = true) (w4 : (Cond.instanceMethod z).before a0 Z = true) (w4' : (Cond.publicMethod z).before a0 Z = true) (w7 : (Cond.unhidden C y.name y.desc).before a0 Z = true) (w8 : (Cond.castable C y.cls).before a0 Z = true) (hy : y.cls ≠ "java/lang/invoke/MethodHandle" ∧ y.cls ≠ "java/lang/invoke/VarHandle") (wq : ((Cond.interfaceMethod y.cls y.cls y.name y.desc).onTables && (Cond.interfaceMethod y.cls y.cls y.name y.desc).keepsFace) = true := by decide +kernel)
    (eT : T.heap = h) {kC kS : Nat} {a : Addr} (E : Exa Z h a C) {argsL rest : List Value} {Qc : Option Value → Heap → List Loc → Vm → Prop} {W : Nat} (B : OBkS l R p e below (s.setVm vm0) args z 5 W (.ref a :: argsL).toArray h kC kS Qc)
    {pc : Nat} {Ls : Array Slot} (hsz : Ls.size = c.maxLocals) (hlen : ∀ sig, parseMethodDescriptor y.desc = some sig → argsL.length = sig.parameters.length) {st : List Value} (hst : st = argsL.reverse ++ .ref a :: rest) (hW : (rest.map fun v => v.category).sum ≤ W) (hd : decode c.code pc = .ok (.invokeinterface index count, 5))
    (hc : cells + kC ≤ R.cells) (hs : slots + kS ≤ R.slots)
    (K : ∀ (T' : State) (v : Option Value) (L : List Loc), Stand p l e R (s.setVm T'.vm) m args below meth c T' (locs ++ L) (cells + kC) (slots + kS) → s.Since T'.vm T'.heap.size → (s.setVm vm0).Warmed39 T'.vm → Z.Warmed39 (s.setVm T'.vm).vm → (s.setVm T'.vm).vm.findClass own = some m.cls → h.size ≤ T'.heap.size → Qc v T'.heap L T'.vm → Go p e below Fin T' (mkF m (pc + 5) Ls (v.toList ++ rest))) : Go p e below Fin T (mkF m pc Ls st) := by
  subst hst
  obtain ⟨cq, kq, qa, qb, qc⟩ := isOf hZ eT E
  obtain ⟨v, _, ⟨T', L', k', n'⟩, -, X', h2, hg, ⟨Lc, hQ, hl, hk, hn⟩, stp⟩ := X.interfaceBackS hx (xi := y) (y := z) hown (mvT hZ w1) (mvT hZ w2) (mvT hZ w2' wq) (mvT hZ w3) (mvT hZ w4) (mvT hZ w4') (mvT hZ w7) (mvT hZ w8) hy B qa qb qc (g := mkF m pc Ls (argsL.reverse ++ .ref a :: rest)) rfl hsz (Steps.refl _) (argsL := argsL) (rest := rest) hlen rfl (by show 2 * 0 + _ ≤ _; omega) hd (fun _ _ => ⟨rfl, eT, hc, hs⟩)
  dsimp only [Pt.U, Pt.locs, Pt.cells, Pt.slots] at X' h2 hg hl hk hn stp hQ
  subst hl hk hn
  rw [eT] at hg
  obtain ⟨X1, X2, X3, X4⟩ := rebS hS hk0 X' h2 hg hZ hown
  obtain ⟨t, o, h1, r⟩ := K T' v Lc X1 X2 h2.1 X3 X4 hg hQ
  exact ⟨t, o, stp.trans h1, r⟩
/-- a private instance method by its contract -/
theorem Go.privS {vm0 : Vm} {k0 : Nat} (hS : s.Since vm0 k0) (hk0 : k0 ≤ h.size) (X : Stand p l e R (s.setVm vm0) m args below meth c T locs cells slots) (hx : p.tables.exec = Jvm.exec) (hZ : Z.Warmed39 (s.setVm vm0).vm) {own : String} {index : Nat} {y : MethodName} {bytes : ByteArray} {maxL : Nat} {ret : Option FieldType} {C : String} (hown : (s.setVm vm0).vm.findClass own = some m.cls)
    (w1 : (Cond.methodLink own index y).before a0 Z = true) (w2 : (Cond.instanceMethod y).before a0 Z = true) (sel : (Cond.selects y.cls y y).before args (s.setVm vm0) = true) (w4 : (Cond.privateMethod y).before a0 Z = true) (w3 : (Cond.code y bytes maxL ret).before a0 Z = true) (hy : y.cls ≠ "java/lang/invoke/MethodHandle" ∧ y.cls ≠ "java/lang/invoke/VarHandle")
    (eT : T.heap = h) {kC kS : Nat} {a : Addr} (E : Exa Z h a C) {argsL rest : List Value} {Qc : Option Value → Heap → List Loc → Vm → Prop} {W : Nat} (B : OBkS l R p e below (s.setVm vm0) args y 3 W (.ref a :: argsL).toArray h kC kS Qc)
    {pc : Nat} {Ls : Array Slot} (hsz : Ls.size = c.maxLocals) (hlen : ∀ sig, parseMethodDescriptor y.desc = some sig → argsL.length = sig.parameters.length) {st : List Value} (hst : st = argsL.reverse ++ .ref a :: rest) (hW : (rest.map fun v => v.category).sum ≤ W) (hd : decode c.code pc = .ok (.invokevirtual index, 3))
    (hc : cells + kC ≤ R.cells) (hs : slots + kS ≤ R.slots)
    (K : ∀ (T' : State) (v : Option Value) (L : List Loc), Stand p l e R (s.setVm T'.vm) m args below meth c T' (locs ++ L) (cells + kC) (slots + kS) → s.Since T'.vm T'.heap.size → (s.setVm vm0).Warmed39 T'.vm → Z.Warmed39 (s.setVm T'.vm).vm → (s.setVm T'.vm).vm.findClass own = some m.cls → h.size ≤ T'.heap.size → Qc v T'.heap L T'.vm → Go p e below Fin T' (mkF m (pc + 3) Ls (v.toList ++ rest))) : Go p e below Fin T (mkF m pc Ls st) := by
  subst hst
  obtain ⟨cq, q, q'⟩ := E.cell
  obtain ⟨v, _, ⟨T', L', k', n'⟩, -, X', h2, hg, ⟨Lc, hQ, hl, hk, hn⟩, stp⟩ := X.privateBackS hx (y := y) hown (mvT hZ w1) (mvT hZ w2) sel (Cond.privateMethod_at (mvP hZ w4 (args := #[]))) (mvT hZ w3) hy B (g := mkF m pc Ls (argsL.reverse ++ .ref a :: rest)) rfl hsz (Steps.refl _) (a := a) (by rw [eT]; exact q) q' (argsL := argsL) (rest := rest) hlen rfl (by show 2 * 0 + _ ≤ _; omega) hd (fun _ _ => ⟨rfl, eT, hc, hs⟩)
  dsimp only [Pt.U, Pt.locs, Pt.cells, Pt.slots] at X' h2 hg hl hk hn stp hQ
  subst hl hk hn
  rw [eT] at hg
  obtain ⟨X1, X2, X3, X4⟩ := rebS hS hk0 X' h2 hg hZ hown
  obtain ⟨t, o, h1, r⟩ := K T' v Lc X1 X2 h2.1 X3 X4 hg hQ
  exact ⟨t, o, stp.trans h1, r⟩
/-- a static method by its contract -/
theorem Go.statS {vm0 : Vm} {k0 : Nat} (hS : s.Since vm0 k0) (hk0 : k0 ≤ h.size) (X : Stand p l e R (s.setVm vm0) m args below meth c T locs cells slots) (hx : p.tables.exec = Jvm.exec) (hZ : Z.Warmed39 (s.setVm vm0).vm) {own : String} {index : Nat} {y : MethodName} {bytes : ByteArray} {maxL : Nat} {ret : Option FieldType} (hown : (s.setVm vm0).vm.findClass own = some m.cls)
    (w1 : (Cond.methodLink own index y).before a0 Z = true) (w2 : (Cond.static y).before a0 Z = true) (w3 : (Cond.initialized y.cls).before a0 Z = true) (w4 : (Cond.code y bytes maxL ret).before a0 Z = true) (hy : y.cls ≠ "java/lang/invoke/MethodHandle" ∧ y.cls ≠ "java/lang/invoke/VarHandle")
    (eT : T.heap = h) {kC kS : Nat} {argsL rest : List Value} {Qc : Option Value → Heap → List Loc → Vm → Prop} {W : Nat} (B : OBkS l R p e below (s.setVm vm0) args y 3 W argsL.toArray h kC kS Qc)
    {pc : Nat} {Ls : Array Slot} (hsz : Ls.size = c.maxLocals) (hlen : ∀ sig, parseMethodDescriptor y.desc = some sig → argsL.length = sig.parameters.length) {st : List Value} (hst : st = argsL.reverse ++ rest) (hW : (rest.map fun v => v.category).sum ≤ W) (hd : decode c.code pc = .ok (.invokestatic index, 3))
    (hc : cells + kC ≤ R.cells) (hs : slots + kS ≤ R.slots)
    (K : ∀ (T' : State) (v : Option Value) (L : List Loc), Stand p l e R (s.setVm T'.vm) m args below meth c T' (locs ++ L) (cells + kC) (slots + kS) → s.Since T'.vm T'.heap.size → (s.setVm vm0).Warmed39 T'.vm → Z.Warmed39 (s.setVm T'.vm).vm → (s.setVm T'.vm).vm.findClass own = some m.cls → h.size ≤ T'.heap.size → Qc v T'.heap L T'.vm → Go p e below Fin T' (mkF m (pc + 3) Ls (v.toList ++ rest))) : Go p e below Fin T (mkF m pc Ls st) := by
  subst hst
  obtain ⟨v, _, ⟨T', L', k', n'⟩, -, X', h2, hg, ⟨Lc, hQ, hl, hk, hn⟩, stp⟩ := callSS X hx (y := y) hown (mvT hZ w1) (mvT hZ w2) (mvT hZ w3) (mvT hZ w4) hy B (g := mkF m pc Ls (argsL.reverse ++ rest)) rfl hsz (argsL := argsL) (rest := rest) hlen rfl (by show 2 * 0 + _ ≤ _; omega) hd (fun _ _ => ⟨rfl, eT, hc, hs⟩)
  dsimp only [Pt.U, Pt.locs, Pt.cells, Pt.slots] at X' h2 hg hl hk hn stp hQ
  subst hl hk hn
  rw [eT] at hg
  obtain ⟨X1, X2, X3, X4⟩ := rebS hS hk0 X' h2 hg hZ hown
  obtain ⟨t, o, h1, r⟩ := K T' v Lc X1 X2 h2.1 X3 X4 hg hQ
  exact ⟨t, o, stp.trans h1, r⟩
/-- what a static holds stands over a call that writes no statics' cell -/
theorem own_sta_keep {C n d : String} {v : Value} {h h' : Heap} {ws : List Addr} (F : Sta Z h C n d v) (K : Keep h h' ws) (q : ∀ x ∈ ws, ∀ cell : Cell, h[x]? = some cell → cell.vm.isStatics = false) : Sta Z h' C n d v := by
  obtain ⟨cf, i, k, f, st, cell, h1, h2, h3, h4, h5, h6, h7⟩ := F
  exact ⟨cf, i, k, f, st, cell, h1, h2, h3, h4, K.2.1 st cell h5 (fun z => by rw [q st z cell h5] at h6; cases h6), h6, h7⟩
theorem own_exa_plain {C : String} {h : Heap} {a : Addr} (E : Exa Z h a C) : ∀ cell : Cell, h[a]? = some cell → cell.vm.isStatics = false := fun cell hc => by
  obtain ⟨c, k, h1, -, -, h4, -⟩ := E
  cases h1.symm.trans hc; exact h4
theorem own_exa_at {args : Array Value} {s : State} {t : Term} {C : String} (h : (Cond.exactly t C).value args s none s [] = some true) : ∃ a, t.eval args s none [] s = some (.ref a) ∧ Exa s s.heap a C := by
  have h' : (Cond.exactly t C).before args s = true := Cond.before_iff.mpr h
  obtain ⟨a, c', cell, k, e1, e2, e3, e4, e5, rfl, e7⟩ := Cond.exactly_spec h'
  exact ⟨a, e1, cell, k, e3, e2, e4, e5, e7⟩
theorem own_eq_int {args : Array Value} {s : State} {t : Term} {n : Int32} (h : (Cond.eq t (.int n)).value args s none s [] = some true) : t.eval args s none [] s = some (.int n) :=
  Cond.eq_int (b := .int n) (Cond.before_iff.mpr h) rfl
theorem own_field_at {args : Array Value} {s : State} {t : Term} {a : Addr} {C n d : String} {v : Value} (ht : t.eval args s none [] s = some (.ref a)) (h : (Term.field t C n d).eval args s none [] s = some v) : Fld s s.heap a C n d v := by
  rw [fld_at ht] at h
  exact Fld.start h
theorem own_not_eq {args : Array Value} {s : State} {t : Term} {z n : Int32} (ez : t.eval args s none [] s = some (.int z)) (h : (Cond.not (.eq t (.int n))).value args s none s [] = some true) : ¬ z = n := by
  intro e
  subst e
  have q := eq_i (idx := []) (o := none) (first := s) ez (Term.int_eval z) rfl
  rw [show (Cond.not (.eq t (.int z))).value args s none s [] = ((Cond.eq t (.int z)).value args s none s []).map (!·) from rfl, q] at h
  cases h
theorem own_refcat {v : Value} (h : v.isRef = true) : v.category = 1 := by cases v <;> first | rfl | (cases h)
theorem own_one_u : (Slot.unset) = .unset ∨ ∃ w, Slot.unset = .val w ∧ w.category = 1 := Or.inl rfl
theorem own_one_v {w : Value} (h : w.category = 1) : (Slot.val w) = .unset ∨ ∃ u, Slot.val w = .val u ∧ u.category = 1 := Or.inr ⟨w, rfl, h⟩
theorem own_store1 {L L' : Array Slot} {i : Nat} {v : Value} {o : Slot} (hold : L[i]? = some o) (ho : o = .unset ∨ ∃ w, o = .val w ∧ w.category = 1) (hv : v.category = 1) (e : L.setIfInBounds i (.val v) = L') : storeLocals L i v = some L' := by
  rw [← e]; exact XS.store1 hold ho hv
theorem own_fits_of {t : FieldType} {z z' : Int32} (h : nar t z = z') (f : fits t (.int (nar t z)) = true) : fits t (.int z') = true := h ▸ f
theorem own_fits_ref {t : FieldType} {v : Value} (h : v.isRef = true) (ht : t.isReference = true) : fits t v = true := by
  cases t <;> first | (cases ht; done) | (cases v <;> first | rfl | (cases h; done))
theorem own_eq_long {args : Array Value} {s : State} {t : Term} {n : Int64} (h : (Cond.eq t (.long n)).value args s none s [] = some true) : t.eval args s none [] s = some (.long n) :=
  Cond.eq_long (b := .long n) (Cond.before_iff.mpr h) rfl
theorem own_elem_at {args : Array Value} {s : State} {t : Term} {a : Addr} {cl : Cell} {ty : FieldType} {j : Int32} {v : Value} {k : Nat} (ht : t.eval args s none [] s = some (.ref a)) (A : Arr s s.heap a cl ty) (h : (Term.elem t (.int j)).eval args s none [] s = some v) (hk : j.toNatClampNeg = k) : cl.slots[k]? = some v := by
  subst hk
  exact (elem_in h ht rfl A.1).2
theorem own_len_at {args : Array Value} {s : State} {t : Term} {a : Addr} {cl : Cell} {ty : FieldType} {n : Int32} (ht : t.eval args s none [] s = some (.ref a)) (A : Arr s s.heap a cl ty) (h : (Term.length t).eval args s none [] s = some (.int n)) : cl.slots.size < 2 ^ 31 ∧ cl.slots.size.toInt32 = n := by
  have hA := A.fin (Vm.Alike.refl _)
  by_cases q : cl.slots.size < 2 ^ 31
  · have e := len_f ht hA q
    exact ⟨q, Value.int.inj (Option.some.inj (e.symm.trans h))⟩
  · exfalso
    simp [Term.eval, ht, hA, q] at h
theorem own_eq_ref {args : Array Value} {s : State} {t u : Term} {a : Addr} (h : (Cond.eq t u).value args s none s [] = some true) (hu : u.eval args s none [] s = some (.ref a)) : t.eval args s none [] s = some (.ref a) :=
  Cond.eq_refs (Cond.before_iff.mpr h) hu rfl
theorem own_eq_null {args : Array Value} {s : State} {t : Term} (h : (Cond.eq t .null).value args s none s [] = some true) : t.eval args s none [] s = some .null := null_v h
theorem own_arr_keep {h h' : Heap} {a : Addr} {cl : Cell} {ty : FieldType} {ws : List Addr} (F : Arr Z h a cl ty) (K : Keep h h' ws) (q : a ∉ ws) : Arr Z h' a cl ty := ⟨K.2.1 a cl F.1 q, F.2⟩
theorem own_ib {vm0 : Vm} (h : vm0.interned = Z.vm.interned) : IB Z vm0 [] := ⟨#[], by simp [h], fun q hq => by simp at hq⟩
theorem own_lambda (X : Stand p l e R s m args below meth c T locs cells slots) (hx : p.tables.exec = Jvm.exec) (hZ : Z.Warmed39 s.vm) {x : MethodName} {pc index : Nat} {σ : Lambda.Shape} (hnamed : s.methodNamed? x = some m) (w : (Cond.lambdaSite x pc index σ).before a0 Z = true) (hcap : σ.captured = [])
    {g : JFrame} (hg : g.method = m) (hpc : g.pc = pc) (hsize : g.locals.size = c.maxLocals) (hd : decode c.code g.pc = .ok (.invokedynamic index, 5)) (hwords : 2 * g.monitorRoom + (g.stack.map fun v => v.category).sum + 3072 ≤ R.locals) :
    ∃ a : Addr, ∀ t, Steps p.tables e below (T.setTop { g with pc := g.pc + 5, stack := .ref a :: g.stack }) t → Steps p.tables e below (T.setTop g) t := by
  obtain ⟨cK, one, hat⟩ := Cond.lambdaSite_spec w
  obtain ⟨mD, kD, cfD, i0, p0, lk, hmD, hkD, -, -, -, hfind, -, -, hl⟩ := State.lambdaAt?_spec hat
  have hm2 : (Z.setVm s.vm).methodNamed? x = some mD := by rw [State.methodNamed?_setVm hZ.alike]; exact hmD
  have hm3 : s.methodNamed? x = (Z.setVm s.vm).methodNamed? x := rfl
  rw [hm3, hm2] at hnamed
  cases hnamed
  obtain ⟨k', hk', he, -⟩ := hZ.2.2.2 _ _ hkD
  have hw : e.platform.lambdaLinkWords = 3072 := by rw [X.admits.platform]
  rcases hl with ⟨a, cell, rfl, -⟩ | ⟨-, -, hne⟩
  · exact ⟨a, fun t k => X.lambdaConstant hx hg hsize hd hk' (by rw [hpc, he]; exact hfind) (by rw [hw]; exact hwords) k⟩
  · exact absurd hcap hne
/-- 'ldcSVL', with what it tells of the tables since just before it -/
theorem own_ldcL {vm0 : Vm} {own text : String} {index : Nat} {Ts : List String} (X : Stand p l e R (s.setVm vm0) m args below meth c T locs cells slots) (hx : p.tables.exec = Jvm.exec) (hZ : Z.Warmed39 (s.setVm vm0).vm) (hown : (s.setVm vm0).vm.findClass own = some m.cls) (w : (Cond.stringLink own index text).before a0 Z = true) (wS : ∀ a ∈ Bundle.stringAtoms, a.before a0 Z = true)
    (eT : T.heap = h) {k0 : Nat} (hS : s.Since vm0 k0) (hk : k0 ≤ h.size) (N : Fr s.heap.size locs) (hkeep : ∀ (b : Addr) (cl : Cell), Z.heap[b]? = some cl → s.heap[b]? = some cl) (I : IB Z vm0 Ts) (hnot : text ∉ Ts) (hh : Jvm.Lit.constHeld Z own index) (hcw : Jvm.Lit.compactW.before a0 Z = true)
    {vs : List Value} {z : Int32} (ht : (∀ c ∈ text.toList, c.toNat < 256) ∧ text.toList.map (fun c => Value.int (Jvm.Lit.byteI c.toNat.toUInt16)) = vs) (hz : ¬ z < 0) (hl : z.toNatClampNeg = vs.length)
    {g : JFrame} (hg : g.method = m) (hd : decode c.code g.pc = .ok (.ldc index, 2)) {n : Nat} (hn : 4 * text.toList.length ≤ n) (hbig : n ≤ 536870912) (hc : cells + 2 ≤ R.cells) (hl' : slots + (n + 4) ≤ R.slots) :
    ∃ (a : Addr) (T' : State) (h' : Heap) (b : Addr) (k : ClassId), Stand p l e R (s.setVm T'.vm) m args below meth c T' locs (cells + 2) (slots + (n + 4)) ∧ T'.heap = h' ∧ Ext h h' ∧ s.Since T'.vm h'.size ∧ (s.setVm vm0).Warmed39 T'.vm ∧ Z.Warmed39 (s.setVm T'.vm).vm ∧ (s.setVm T'.vm).vm.findClass own = some m.cls ∧
      Exa Z h' a "java/lang/String" ∧ Fld Z h' a "java/lang/String" "coder" "B" (.int 0) ∧ Fld Z h' a "java/lang/String" "value" "[B" (.ref b) ∧ Arv Z h' b k .byte z vs (.int 0) ∧ IB Z T'.vm (text :: Ts) ∧ Lit (Z.setVm T'.vm) own index a ∧
      ∀ target, Steps p.tables e below (T'.setTop { g with pc := g.pc + 2, stack := .ref a :: g.stack }) target → Steps p.tables e below (T.setTop g) target := by
  obtain ⟨a, T', h', k1, b, k, r1, r2, r3, r4, r5, r6, r7, r8, r9, r10, r11, -, -, r14, r15, st⟩ := ldcSVL (s := s.setVm vm0) (vm0 := vm0) (k0 := 0) X hx hZ hown w wS eT (State.WarmedH.since (State.WarmedH.refl (s.setVm vm0)) 0) (Nat.zero_le _) N hkeep I hnot hh hcw ht hz hl hg hd hn hbig hc hl'
  exact ⟨a, T', h', b, k, r1, r2, r3, hS.trans ⟨r4.1, r4.2.mono r5⟩ (Nat.le_trans hk r3.1), r4.1, r6, r7, r8, r9, r10, r11, r14, r15, st⟩
theorem own_lit_stays {vm0 vm1 : Vm} {own : String} {index : Nat} {a : Addr} (L : Lit (Z.setVm vm0) own index a) (hW : (s.setVm vm0).Warmed39 vm1) : Lit (Z.setVm vm1) own index a := (Lit.stays (s := s) (vm0 := vm0) (vm1 := vm1) L hW : Lit (s.setVm vm1) own index a)
theorem own_ib_more {vm0 : Vm} {Ts : List String} {t : String} (I : IB Z vm0 Ts) : IB Z vm0 (t :: Ts) := by
  obtain ⟨more, h1, h2⟩ := I
  exact ⟨more, h1, fun q hq => by obtain ⟨u, hu, e⟩ := h2 q hq; exact ⟨u, List.mem_cons_of_mem _ hu, e⟩⟩
theorem own_ib_warm {vm0 : Vm} {Ts : List String} (I : IB Z s.vm Ts) (hW : s.WarmedH vm0) : IB Z vm0 Ts := by
  obtain ⟨more, h1, h2⟩ := I
  exact ⟨more, by rw [hW.interned_eq]; exact h1, h2⟩
end OwnGo
end Jvm.RoadKit
namespace Jvm.Pilot.@@N@@
open Jvm Jvm.ClassFile Sem Op Lib Jvm.Free Jvm.Stand Jvm.LawKit Jvm.RoadKit Bundle Jvm.Pilot.@@N@@.Jvm.D
def own_cnt (n : Int64) : Int32 := if n < (10 : Int64) then 1 else if n < (100 : Int64) then 2 else if n < (1000 : Int64) then 3 else if n < (10000 : Int64) then 4 else if n < (100000 : Int64) then 5 else if n < (1000000 : Int64) then 6 else if n < (10000000 : Int64) then 7 else if n < (100000000 : Int64) then 8 else if n < (1000000000 : Int64) then 9 else if n < (10000000000 : Int64) then 10 else if n < (100000000000 : Int64) then 11 else if n < (1000000000000 : Int64) then 12 else if n < (10000000000000 : Int64) then 13 else if n < (100000000000000 : Int64) then 14 else if n < (1000000000000000 : Int64) then 15 else if n < (10000000000000000 : Int64) then 16 else if n < (100000000000000000 : Int64) then 17 else if n < (1000000000000000000 : Int64) then 18 else 19
theorem own_cnt_1 {n : Int64}  (h1 : n < (10 : Int64)) : own_cnt n = 1 := by simp only [own_cnt, if_pos h1]
theorem own_cnt_2 {n : Int64} (h1 : ¬ n < (10 : Int64)) (h2 : n < (100 : Int64)) : own_cnt n = 2 := by simp only [own_cnt, if_neg h1, if_pos h2]
theorem own_cnt_3 {n : Int64} (h1 : ¬ n < (10 : Int64)) (h2 : ¬ n < (100 : Int64)) (h3 : n < (1000 : Int64)) : own_cnt n = 3 := by simp only [own_cnt, if_neg h1, if_neg h2, if_pos h3]
theorem own_cnt_4 {n : Int64} (h1 : ¬ n < (10 : Int64)) (h2 : ¬ n < (100 : Int64)) (h3 : ¬ n < (1000 : Int64)) (h4 : n < (10000 : Int64)) : own_cnt n = 4 := by simp only [own_cnt, if_neg h1, if_neg h2, if_neg h3, if_pos h4]
theorem own_cnt_5 {n : Int64} (h1 : ¬ n < (10 : Int64)) (h2 : ¬ n < (100 : Int64)) (h3 : ¬ n < (1000 : Int64)) (h4 : ¬ n < (10000 : Int64)) (h5 : n < (100000 : Int64)) : own_cnt n = 5 := by simp only [own_cnt, if_neg h1, if_neg h2, if_neg h3, if_neg h4, if_pos h5]
theorem own_cnt_6 {n : Int64} (h1 : ¬ n < (10 : Int64)) (h2 : ¬ n < (100 : Int64)) (h3 : ¬ n < (1000 : Int64)) (h4 : ¬ n < (10000 : Int64)) (h5 : ¬ n < (100000 : Int64)) (h6 : n < (1000000 : Int64)) : own_cnt n = 6 := by simp only [own_cnt, if_neg h1, if_neg h2, if_neg h3, if_neg h4, if_neg h5, if_pos h6]
theorem own_cnt_7 {n : Int64} (h1 : ¬ n < (10 : Int64)) (h2 : ¬ n < (100 : Int64)) (h3 : ¬ n < (1000 : Int64)) (h4 : ¬ n < (10000 : Int64)) (h5 : ¬ n < (100000 : Int64)) (h6 : ¬ n < (1000000 : Int64)) (h7 : n < (10000000 : Int64)) : own_cnt n = 7 := by simp only [own_cnt, if_neg h1, if_neg h2, if_neg h3, if_neg h4, if_neg h5, if_neg h6, if_pos h7]
theorem own_cnt_8 {n : Int64} (h1 : ¬ n < (10 : Int64)) (h2 : ¬ n < (100 : Int64)) (h3 : ¬ n < (1000 : Int64)) (h4 : ¬ n < (10000 : Int64)) (h5 : ¬ n < (100000 : Int64)) (h6 : ¬ n < (1000000 : Int64)) (h7 : ¬ n < (10000000 : Int64)) (h8 : n < (100000000 : Int64)) : own_cnt n = 8 := by simp only [own_cnt, if_neg h1, if_neg h2, if_neg h3, if_neg h4, if_neg h5, if_neg h6, if_neg h7, if_pos h8]
theorem own_cnt_9 {n : Int64} (h1 : ¬ n < (10 : Int64)) (h2 : ¬ n < (100 : Int64)) (h3 : ¬ n < (1000 : Int64)) (h4 : ¬ n < (10000 : Int64)) (h5 : ¬ n < (100000 : Int64)) (h6 : ¬ n < (1000000 : Int64)) (h7 : ¬ n < (10000000 : Int64)) (h8 : ¬ n < (100000000 : Int64)) (h9 : n < (1000000000 : Int64)) : own_cnt n = 9 := by simp only [own_cnt, if_neg h1, if_neg h2, if_neg h3, if_neg h4, if_neg h5, if_neg h6, if_neg h7, if_neg h8, if_pos h9]
theorem own_cnt_10 {n : Int64} (h1 : ¬ n < (10 : Int64)) (h2 : ¬ n < (100 : Int64)) (h3 : ¬ n < (1000 : Int64)) (h4 : ¬ n < (10000 : Int64)) (h5 : ¬ n < (100000 : Int64)) (h6 : ¬ n < (1000000 : Int64)) (h7 : ¬ n < (10000000 : Int64)) (h8 : ¬ n < (100000000 : Int64)) (h9 : ¬ n < (1000000000 : Int64)) (h10 : n < (10000000000 : Int64)) : own_cnt n = 10 := by simp only [own_cnt, if_neg h1, if_neg h2, if_neg h3, if_neg h4, if_neg h5, if_neg h6, if_neg h7, if_neg h8, if_neg h9, if_pos h10]
theorem own_cnt_11 {n : Int64} (h1 : ¬ n < (10 : Int64)) (h2 : ¬ n < (100 : Int64)) (h3 : ¬ n < (1000 : Int64)) (h4 : ¬ n < (10000 : Int64)) (h5 : ¬ n < (100000 : Int64)) (h6 : ¬ n < (1000000 : Int64)) (h7 : ¬ n < (10000000 : Int64)) (h8 : ¬ n < (100000000 : Int64)) (h9 : ¬ n < (1000000000 : Int64)) (h10 : ¬ n < (10000000000 : Int64)) (h11 : n < (100000000000 : Int64)) : own_cnt n = 11 := by simp only [own_cnt, if_neg h1, if_neg h2, if_neg h3, if_neg h4, if_neg h5, if_neg h6, if_neg h7, if_neg h8, if_neg h9, if_neg h10, if_pos h11]
theorem own_cnt_12 {n : Int64} (h1 : ¬ n < (10 : Int64)) (h2 : ¬ n < (100 : Int64)) (h3 : ¬ n < (1000 : Int64)) (h4 : ¬ n < (10000 : Int64)) (h5 : ¬ n < (100000 : Int64)) (h6 : ¬ n < (1000000 : Int64)) (h7 : ¬ n < (10000000 : Int64)) (h8 : ¬ n < (100000000 : Int64)) (h9 : ¬ n < (1000000000 : Int64)) (h10 : ¬ n < (10000000000 : Int64)) (h11 : ¬ n < (100000000000 : Int64)) (h12 : n < (1000000000000 : Int64)) : own_cnt n = 12 := by simp only [own_cnt, if_neg h1, if_neg h2, if_neg h3, if_neg h4, if_neg h5, if_neg h6, if_neg h7, if_neg h8, if_neg h9, if_neg h10, if_neg h11, if_pos h12]
theorem own_cnt_13 {n : Int64} (h1 : ¬ n < (10 : Int64)) (h2 : ¬ n < (100 : Int64)) (h3 : ¬ n < (1000 : Int64)) (h4 : ¬ n < (10000 : Int64)) (h5 : ¬ n < (100000 : Int64)) (h6 : ¬ n < (1000000 : Int64)) (h7 : ¬ n < (10000000 : Int64)) (h8 : ¬ n < (100000000 : Int64)) (h9 : ¬ n < (1000000000 : Int64)) (h10 : ¬ n < (10000000000 : Int64)) (h11 : ¬ n < (100000000000 : Int64)) (h12 : ¬ n < (1000000000000 : Int64)) (h13 : n < (10000000000000 : Int64)) : own_cnt n = 13 := by simp only [own_cnt, if_neg h1, if_neg h2, if_neg h3, if_neg h4, if_neg h5, if_neg h6, if_neg h7, if_neg h8, if_neg h9, if_neg h10, if_neg h11, if_neg h12, if_pos h13]
theorem own_cnt_14 {n : Int64} (h1 : ¬ n < (10 : Int64)) (h2 : ¬ n < (100 : Int64)) (h3 : ¬ n < (1000 : Int64)) (h4 : ¬ n < (10000 : Int64)) (h5 : ¬ n < (100000 : Int64)) (h6 : ¬ n < (1000000 : Int64)) (h7 : ¬ n < (10000000 : Int64)) (h8 : ¬ n < (100000000 : Int64)) (h9 : ¬ n < (1000000000 : Int64)) (h10 : ¬ n < (10000000000 : Int64)) (h11 : ¬ n < (100000000000 : Int64)) (h12 : ¬ n < (1000000000000 : Int64)) (h13 : ¬ n < (10000000000000 : Int64)) (h14 : n < (100000000000000 : Int64)) : own_cnt n = 14 := by simp only [own_cnt, if_neg h1, if_neg h2, if_neg h3, if_neg h4, if_neg h5, if_neg h6, if_neg h7, if_neg h8, if_neg h9, if_neg h10, if_neg h11, if_neg h12, if_neg h13, if_pos h14]
theorem own_cnt_15 {n : Int64} (h1 : ¬ n < (10 : Int64)) (h2 : ¬ n < (100 : Int64)) (h3 : ¬ n < (1000 : Int64)) (h4 : ¬ n < (10000 : Int64)) (h5 : ¬ n < (100000 : Int64)) (h6 : ¬ n < (1000000 : Int64)) (h7 : ¬ n < (10000000 : Int64)) (h8 : ¬ n < (100000000 : Int64)) (h9 : ¬ n < (1000000000 : Int64)) (h10 : ¬ n < (10000000000 : Int64)) (h11 : ¬ n < (100000000000 : Int64)) (h12 : ¬ n < (1000000000000 : Int64)) (h13 : ¬ n < (10000000000000 : Int64)) (h14 : ¬ n < (100000000000000 : Int64)) (h15 : n < (1000000000000000 : Int64)) : own_cnt n = 15 := by simp only [own_cnt, if_neg h1, if_neg h2, if_neg h3, if_neg h4, if_neg h5, if_neg h6, if_neg h7, if_neg h8, if_neg h9, if_neg h10, if_neg h11, if_neg h12, if_neg h13, if_neg h14, if_pos h15]
theorem own_cnt_16 {n : Int64} (h1 : ¬ n < (10 : Int64)) (h2 : ¬ n < (100 : Int64)) (h3 : ¬ n < (1000 : Int64)) (h4 : ¬ n < (10000 : Int64)) (h5 : ¬ n < (100000 : Int64)) (h6 : ¬ n < (1000000 : Int64)) (h7 : ¬ n < (10000000 : Int64)) (h8 : ¬ n < (100000000 : Int64)) (h9 : ¬ n < (1000000000 : Int64)) (h10 : ¬ n < (10000000000 : Int64)) (h11 : ¬ n < (100000000000 : Int64)) (h12 : ¬ n < (1000000000000 : Int64)) (h13 : ¬ n < (10000000000000 : Int64)) (h14 : ¬ n < (100000000000000 : Int64)) (h15 : ¬ n < (1000000000000000 : Int64)) (h16 : n < (10000000000000000 : Int64)) : own_cnt n = 16 := by simp only [own_cnt, if_neg h1, if_neg h2, if_neg h3, if_neg h4, if_neg h5, if_neg h6, if_neg h7, if_neg h8, if_neg h9, if_neg h10, if_neg h11, if_neg h12, if_neg h13, if_neg h14, if_neg h15, if_pos h16]
theorem own_cnt_17 {n : Int64} (h1 : ¬ n < (10 : Int64)) (h2 : ¬ n < (100 : Int64)) (h3 : ¬ n < (1000 : Int64)) (h4 : ¬ n < (10000 : Int64)) (h5 : ¬ n < (100000 : Int64)) (h6 : ¬ n < (1000000 : Int64)) (h7 : ¬ n < (10000000 : Int64)) (h8 : ¬ n < (100000000 : Int64)) (h9 : ¬ n < (1000000000 : Int64)) (h10 : ¬ n < (10000000000 : Int64)) (h11 : ¬ n < (100000000000 : Int64)) (h12 : ¬ n < (1000000000000 : Int64)) (h13 : ¬ n < (10000000000000 : Int64)) (h14 : ¬ n < (100000000000000 : Int64)) (h15 : ¬ n < (1000000000000000 : Int64)) (h16 : ¬ n < (10000000000000000 : Int64)) (h17 : n < (100000000000000000 : Int64)) : own_cnt n = 17 := by simp only [own_cnt, if_neg h1, if_neg h2, if_neg h3, if_neg h4, if_neg h5, if_neg h6, if_neg h7, if_neg h8, if_neg h9, if_neg h10, if_neg h11, if_neg h12, if_neg h13, if_neg h14, if_neg h15, if_neg h16, if_pos h17]
theorem own_cnt_18 {n : Int64} (h1 : ¬ n < (10 : Int64)) (h2 : ¬ n < (100 : Int64)) (h3 : ¬ n < (1000 : Int64)) (h4 : ¬ n < (10000 : Int64)) (h5 : ¬ n < (100000 : Int64)) (h6 : ¬ n < (1000000 : Int64)) (h7 : ¬ n < (10000000 : Int64)) (h8 : ¬ n < (100000000 : Int64)) (h9 : ¬ n < (1000000000 : Int64)) (h10 : ¬ n < (10000000000 : Int64)) (h11 : ¬ n < (100000000000 : Int64)) (h12 : ¬ n < (1000000000000 : Int64)) (h13 : ¬ n < (10000000000000 : Int64)) (h14 : ¬ n < (100000000000000 : Int64)) (h15 : ¬ n < (1000000000000000 : Int64)) (h16 : ¬ n < (10000000000000000 : Int64)) (h17 : ¬ n < (100000000000000000 : Int64)) (h18 : n < (1000000000000000000 : Int64)) : own_cnt n = 18 := by simp only [own_cnt, if_neg h1, if_neg h2, if_neg h3, if_neg h4, if_neg h5, if_neg h6, if_neg h7, if_neg h8, if_neg h9, if_neg h10, if_neg h11, if_neg h12, if_neg h13, if_neg h14, if_neg h15, if_neg h16, if_neg h17, if_pos h18]
theorem own_cnt_19 {n : Int64} (h1 : ¬ n < (10 : Int64)) (h2 : ¬ n < (100 : Int64)) (h3 : ¬ n < (1000 : Int64)) (h4 : ¬ n < (10000 : Int64)) (h5 : ¬ n < (100000 : Int64)) (h6 : ¬ n < (1000000 : Int64)) (h7 : ¬ n < (10000000 : Int64)) (h8 : ¬ n < (100000000 : Int64)) (h9 : ¬ n < (1000000000 : Int64)) (h10 : ¬ n < (10000000000 : Int64)) (h11 : ¬ n < (100000000000 : Int64)) (h12 : ¬ n < (1000000000000 : Int64)) (h13 : ¬ n < (10000000000000 : Int64)) (h14 : ¬ n < (100000000000000 : Int64)) (h15 : ¬ n < (1000000000000000 : Int64)) (h16 : ¬ n < (10000000000000000 : Int64)) (h17 : ¬ n < (100000000000000000 : Int64)) (h18 : ¬ n < (1000000000000000000 : Int64)) : own_cnt n = 19 := by simp only [own_cnt, if_neg h1, if_neg h2, if_neg h3, if_neg h4, if_neg h5, if_neg h6, if_neg h7, if_neg h8, if_neg h9, if_neg h10, if_neg h11, if_neg h12, if_neg h13, if_neg h14, if_neg h15, if_neg h16, if_neg h17, if_neg h18]
theorem own_low (n : Int64) (h : ¬ own_cnt n = (1 : Int32)) : ∃ y : Int64, ([(.long (1 : Int64)), (.long (10 : Int64)), (.long (100 : Int64)), (.long (1000 : Int64)), (.long (10000 : Int64)), (.long (100000 : Int64)), (.long (1000000 : Int64)), (.long (10000000 : Int64)), (.long (100000000 : Int64)), (.long (1000000000 : Int64)), (.long (10000000000 : Int64)), (.long (100000000000 : Int64)), (.long (1000000000000 : Int64)), (.long (10000000000000 : Int64)), (.long (100000000000000 : Int64)), (.long (1000000000000000 : Int64)), (.long (10000000000000000 : Int64)), (.long (100000000000000000 : Int64)), (.long (1000000000000000000 : Int64))] : List Value).getD (own_cnt n - (1 : Int32)).toNatClampNeg (.long (0 : Int64)) = .long y ∧ ¬ n < y ∧ ¬ (own_cnt n - (1 : Int32) < 0) ∧ own_cnt n - (1 : Int32) < (19 : Int32) := by
  by_cases h1 : n < (10 : Int64)
  · exact absurd (own_cnt_1 h1) h
  by_cases h2 : n < (100 : Int64)
  · rw [own_cnt_2 h1 h2]; exact ⟨(10 : Int64), rfl, h1, by decide, by decide⟩
  by_cases h3 : n < (1000 : Int64)
  · rw [own_cnt_3 h1 h2 h3]; exact ⟨(100 : Int64), rfl, h2, by decide, by decide⟩
  by_cases h4 : n < (10000 : Int64)
  · rw [own_cnt_4 h1 h2 h3 h4]; exact ⟨(1000 : Int64), rfl, h3, by decide, by decide⟩
  by_cases h5 : n < (100000 : Int64)
  · rw [own_cnt_5 h1 h2 h3 h4 h5]; exact ⟨(10000 : Int64), rfl, h4, by decide, by decide⟩
  by_cases h6 : n < (1000000 : Int64)
  · rw [own_cnt_6 h1 h2 h3 h4 h5 h6]; exact ⟨(100000 : Int64), rfl, h5, by decide, by decide⟩
  by_cases h7 : n < (10000000 : Int64)
  · rw [own_cnt_7 h1 h2 h3 h4 h5 h6 h7]; exact ⟨(1000000 : Int64), rfl, h6, by decide, by decide⟩
  by_cases h8 : n < (100000000 : Int64)
  · rw [own_cnt_8 h1 h2 h3 h4 h5 h6 h7 h8]; exact ⟨(10000000 : Int64), rfl, h7, by decide, by decide⟩
  by_cases h9 : n < (1000000000 : Int64)
  · rw [own_cnt_9 h1 h2 h3 h4 h5 h6 h7 h8 h9]; exact ⟨(100000000 : Int64), rfl, h8, by decide, by decide⟩
  by_cases h10 : n < (10000000000 : Int64)
  · rw [own_cnt_10 h1 h2 h3 h4 h5 h6 h7 h8 h9 h10]; exact ⟨(1000000000 : Int64), rfl, h9, by decide, by decide⟩
  by_cases h11 : n < (100000000000 : Int64)
  · rw [own_cnt_11 h1 h2 h3 h4 h5 h6 h7 h8 h9 h10 h11]; exact ⟨(10000000000 : Int64), rfl, h10, by decide, by decide⟩
  by_cases h12 : n < (1000000000000 : Int64)
  · rw [own_cnt_12 h1 h2 h3 h4 h5 h6 h7 h8 h9 h10 h11 h12]; exact ⟨(100000000000 : Int64), rfl, h11, by decide, by decide⟩
  by_cases h13 : n < (10000000000000 : Int64)
  · rw [own_cnt_13 h1 h2 h3 h4 h5 h6 h7 h8 h9 h10 h11 h12 h13]; exact ⟨(1000000000000 : Int64), rfl, h12, by decide, by decide⟩
  by_cases h14 : n < (100000000000000 : Int64)
  · rw [own_cnt_14 h1 h2 h3 h4 h5 h6 h7 h8 h9 h10 h11 h12 h13 h14]; exact ⟨(10000000000000 : Int64), rfl, h13, by decide, by decide⟩
  by_cases h15 : n < (1000000000000000 : Int64)
  · rw [own_cnt_15 h1 h2 h3 h4 h5 h6 h7 h8 h9 h10 h11 h12 h13 h14 h15]; exact ⟨(100000000000000 : Int64), rfl, h14, by decide, by decide⟩
  by_cases h16 : n < (10000000000000000 : Int64)
  · rw [own_cnt_16 h1 h2 h3 h4 h5 h6 h7 h8 h9 h10 h11 h12 h13 h14 h15 h16]; exact ⟨(1000000000000000 : Int64), rfl, h15, by decide, by decide⟩
  by_cases h17 : n < (100000000000000000 : Int64)
  · rw [own_cnt_17 h1 h2 h3 h4 h5 h6 h7 h8 h9 h10 h11 h12 h13 h14 h15 h16 h17]; exact ⟨(10000000000000000 : Int64), rfl, h16, by decide, by decide⟩
  by_cases h18 : n < (1000000000000000000 : Int64)
  · rw [own_cnt_18 h1 h2 h3 h4 h5 h6 h7 h8 h9 h10 h11 h12 h13 h14 h15 h16 h17 h18]; exact ⟨(100000000000000000 : Int64), rfl, h17, by decide, by decide⟩
  rw [own_cnt_19 h1 h2 h3 h4 h5 h6 h7 h8 h9 h10 h11 h12 h13 h14 h15 h16 h17 h18]; exact ⟨(1000000000000000000 : Int64), rfl, h18, by decide, by decide⟩
theorem own_high (n : Int64) (h : ¬ own_cnt n = (19 : Int32)) : ∃ y : Int64, ([(.long (1 : Int64)), (.long (10 : Int64)), (.long (100 : Int64)), (.long (1000 : Int64)), (.long (10000 : Int64)), (.long (100000 : Int64)), (.long (1000000 : Int64)), (.long (10000000 : Int64)), (.long (100000000 : Int64)), (.long (1000000000 : Int64)), (.long (10000000000 : Int64)), (.long (100000000000 : Int64)), (.long (1000000000000 : Int64)), (.long (10000000000000 : Int64)), (.long (100000000000000 : Int64)), (.long (1000000000000000 : Int64)), (.long (10000000000000000 : Int64)), (.long (100000000000000000 : Int64)), (.long (1000000000000000000 : Int64))] : List Value).getD (own_cnt n).toNatClampNeg (.long (0 : Int64)) = .long y ∧ n < y ∧ ¬ (own_cnt n < 0) ∧ own_cnt n < (19 : Int32) := by
  by_cases h1 : n < (10 : Int64)
  · rw [own_cnt_1 h1]; exact ⟨(10 : Int64), rfl, h1, by decide, by decide⟩
  by_cases h2 : n < (100 : Int64)
  · rw [own_cnt_2 h1 h2]; exact ⟨(100 : Int64), rfl, h2, by decide, by decide⟩
  by_cases h3 : n < (1000 : Int64)
  · rw [own_cnt_3 h1 h2 h3]; exact ⟨(1000 : Int64), rfl, h3, by decide, by decide⟩
  by_cases h4 : n < (10000 : Int64)
  · rw [own_cnt_4 h1 h2 h3 h4]; exact ⟨(10000 : Int64), rfl, h4, by decide, by decide⟩
  by_cases h5 : n < (100000 : Int64)
  · rw [own_cnt_5 h1 h2 h3 h4 h5]; exact ⟨(100000 : Int64), rfl, h5, by decide, by decide⟩
  by_cases h6 : n < (1000000 : Int64)
  · rw [own_cnt_6 h1 h2 h3 h4 h5 h6]; exact ⟨(1000000 : Int64), rfl, h6, by decide, by decide⟩
  by_cases h7 : n < (10000000 : Int64)
  · rw [own_cnt_7 h1 h2 h3 h4 h5 h6 h7]; exact ⟨(10000000 : Int64), rfl, h7, by decide, by decide⟩
  by_cases h8 : n < (100000000 : Int64)
  · rw [own_cnt_8 h1 h2 h3 h4 h5 h6 h7 h8]; exact ⟨(100000000 : Int64), rfl, h8, by decide, by decide⟩
  by_cases h9 : n < (1000000000 : Int64)
  · rw [own_cnt_9 h1 h2 h3 h4 h5 h6 h7 h8 h9]; exact ⟨(1000000000 : Int64), rfl, h9, by decide, by decide⟩
  by_cases h10 : n < (10000000000 : Int64)
  · rw [own_cnt_10 h1 h2 h3 h4 h5 h6 h7 h8 h9 h10]; exact ⟨(10000000000 : Int64), rfl, h10, by decide, by decide⟩
  by_cases h11 : n < (100000000000 : Int64)
  · rw [own_cnt_11 h1 h2 h3 h4 h5 h6 h7 h8 h9 h10 h11]; exact ⟨(100000000000 : Int64), rfl, h11, by decide, by decide⟩
  by_cases h12 : n < (1000000000000 : Int64)
  · rw [own_cnt_12 h1 h2 h3 h4 h5 h6 h7 h8 h9 h10 h11 h12]; exact ⟨(1000000000000 : Int64), rfl, h12, by decide, by decide⟩
  by_cases h13 : n < (10000000000000 : Int64)
  · rw [own_cnt_13 h1 h2 h3 h4 h5 h6 h7 h8 h9 h10 h11 h12 h13]; exact ⟨(10000000000000 : Int64), rfl, h13, by decide, by decide⟩
  by_cases h14 : n < (100000000000000 : Int64)
  · rw [own_cnt_14 h1 h2 h3 h4 h5 h6 h7 h8 h9 h10 h11 h12 h13 h14]; exact ⟨(100000000000000 : Int64), rfl, h14, by decide, by decide⟩
  by_cases h15 : n < (1000000000000000 : Int64)
  · rw [own_cnt_15 h1 h2 h3 h4 h5 h6 h7 h8 h9 h10 h11 h12 h13 h14 h15]; exact ⟨(1000000000000000 : Int64), rfl, h15, by decide, by decide⟩
  by_cases h16 : n < (10000000000000000 : Int64)
  · rw [own_cnt_16 h1 h2 h3 h4 h5 h6 h7 h8 h9 h10 h11 h12 h13 h14 h15 h16]; exact ⟨(10000000000000000 : Int64), rfl, h16, by decide, by decide⟩
  by_cases h17 : n < (100000000000000000 : Int64)
  · rw [own_cnt_17 h1 h2 h3 h4 h5 h6 h7 h8 h9 h10 h11 h12 h13 h14 h15 h16 h17]; exact ⟨(100000000000000000 : Int64), rfl, h17, by decide, by decide⟩
  by_cases h18 : n < (1000000000000000000 : Int64)
  · rw [own_cnt_18 h1 h2 h3 h4 h5 h6 h7 h8 h9 h10 h11 h12 h13 h14 h15 h16 h17 h18]; exact ⟨(1000000000000000000 : Int64), rfl, h18, by decide, by decide⟩
  exact absurd (own_cnt_19 h1 h2 h3 h4 h5 h6 h7 h8 h9 h10 h11 h12 h13 h14 h15 h16 h17 h18) h
theorem own_rng (n : Int64) : ¬ (own_cnt n < (1 : Int32)) ∧ ¬ ((19 : Int32) < own_cnt n) := by
  by_cases h1 : n < (10 : Int64)
  · rw [own_cnt_1 h1]; exact ⟨by decide, by decide⟩
  by_cases h2 : n < (100 : Int64)
  · rw [own_cnt_2 h1 h2]; exact ⟨by decide, by decide⟩
  by_cases h3 : n < (1000 : Int64)
  · rw [own_cnt_3 h1 h2 h3]; exact ⟨by decide, by decide⟩
  by_cases h4 : n < (10000 : Int64)
  · rw [own_cnt_4 h1 h2 h3 h4]; exact ⟨by decide, by decide⟩
  by_cases h5 : n < (100000 : Int64)
  · rw [own_cnt_5 h1 h2 h3 h4 h5]; exact ⟨by decide, by decide⟩
  by_cases h6 : n < (1000000 : Int64)
  · rw [own_cnt_6 h1 h2 h3 h4 h5 h6]; exact ⟨by decide, by decide⟩
  by_cases h7 : n < (10000000 : Int64)
  · rw [own_cnt_7 h1 h2 h3 h4 h5 h6 h7]; exact ⟨by decide, by decide⟩
  by_cases h8 : n < (100000000 : Int64)
  · rw [own_cnt_8 h1 h2 h3 h4 h5 h6 h7 h8]; exact ⟨by decide, by decide⟩
  by_cases h9 : n < (1000000000 : Int64)
  · rw [own_cnt_9 h1 h2 h3 h4 h5 h6 h7 h8 h9]; exact ⟨by decide, by decide⟩
  by_cases h10 : n < (10000000000 : Int64)
  · rw [own_cnt_10 h1 h2 h3 h4 h5 h6 h7 h8 h9 h10]; exact ⟨by decide, by decide⟩
  by_cases h11 : n < (100000000000 : Int64)
  · rw [own_cnt_11 h1 h2 h3 h4 h5 h6 h7 h8 h9 h10 h11]; exact ⟨by decide, by decide⟩
  by_cases h12 : n < (1000000000000 : Int64)
  · rw [own_cnt_12 h1 h2 h3 h4 h5 h6 h7 h8 h9 h10 h11 h12]; exact ⟨by decide, by decide⟩
  by_cases h13 : n < (10000000000000 : Int64)
  · rw [own_cnt_13 h1 h2 h3 h4 h5 h6 h7 h8 h9 h10 h11 h12 h13]; exact ⟨by decide, by decide⟩
  by_cases h14 : n < (100000000000000 : Int64)
  · rw [own_cnt_14 h1 h2 h3 h4 h5 h6 h7 h8 h9 h10 h11 h12 h13 h14]; exact ⟨by decide, by decide⟩
  by_cases h15 : n < (1000000000000000 : Int64)
  · rw [own_cnt_15 h1 h2 h3 h4 h5 h6 h7 h8 h9 h10 h11 h12 h13 h14 h15]; exact ⟨by decide, by decide⟩
  by_cases h16 : n < (10000000000000000 : Int64)
  · rw [own_cnt_16 h1 h2 h3 h4 h5 h6 h7 h8 h9 h10 h11 h12 h13 h14 h15 h16]; exact ⟨by decide, by decide⟩
  by_cases h17 : n < (100000000000000000 : Int64)
  · rw [own_cnt_17 h1 h2 h3 h4 h5 h6 h7 h8 h9 h10 h11 h12 h13 h14 h15 h16 h17]; exact ⟨by decide, by decide⟩
  by_cases h18 : n < (1000000000000000000 : Int64)
  · rw [own_cnt_18 h1 h2 h3 h4 h5 h6 h7 h8 h9 h10 h11 h12 h13 h14 h15 h16 h17 h18]; exact ⟨by decide, by decide⟩
  rw [own_cnt_19 h1 h2 h3 h4 h5 h6 h7 h8 h9 h10 h11 h12 h13 h14 h15 h16 h17 h18]; exact ⟨by decide, by decide⟩
theorem d1_0 : decode prog_3_method_4_code 0 = .ok (.iconst 1, 1) := by decide +kernel
theorem d1_1 : decode prog_3_method_4_code 1 = .ok (.istore_n 2, 1) := by decide +kernel
theorem d1_2 : decode prog_3_method_4_code 2 = .ok (.iload_n 2, 1) := by decide +kernel
theorem d1_3 : decode prog_3_method_4_code 3 = .ok (.getstatic 9, 3) := by decide +kernel
theorem d1_6 : decode prog_3_method_4_code 6 = .ok (.arraylength, 1) := by decide +kernel
theorem d1_7 : decode prog_3_method_4_code 7 = .ok (.if_icmp .ge 19, 3) := by decide +kernel
theorem d1_10 : decode prog_3_method_4_code 10 = .ok (.lload_n 0, 1) := by decide +kernel
theorem d1_11 : decode prog_3_method_4_code 11 = .ok (.getstatic 9, 3) := by decide +kernel
theorem d1_14 : decode prog_3_method_4_code 14 = .ok (.iload_n 2, 1) := by decide +kernel
theorem d1_15 : decode prog_3_method_4_code 15 = .ok (.laload, 1) := by decide +kernel
theorem d1_16 : decode prog_3_method_4_code 16 = .ok (.lcmp, 1) := by decide +kernel
theorem d1_17 : decode prog_3_method_4_code 17 = .ok (.ifCond .lt 9, 3) := by decide +kernel
theorem d1_20 : decode prog_3_method_4_code 20 = .ok (.iinc 2 1, 3) := by decide +kernel
theorem d1_23 : decode prog_3_method_4_code 23 = .ok (.goto (-21), 3) := by decide +kernel
theorem d1_26 : decode prog_3_method_4_code 26 = .ok (.iload_n 2, 1) := by decide +kernel
theorem d1_27 : decode prog_3_method_4_code 27 = .ok (.ireturn, 1) := by decide +kernel
def Q1 (Z : State) (n : Int64) (a : Addr) (kp : ClassId) (h0 : Heap) (n0 : Nat) (v : Option Value) (h : Heap) (L : List Loc) : Prop := v = some (.int (own_cnt n)) ∧ Fr n0 L ∧ h = h0
theorem ef_1 (m : MethodId) (n : Int64) : entryFrame m #[(.long n)] 3 = mkF m 0 #[.val (.long n), .second, .unset] [] := by first | (simp [entryFrame, mkF, argsToLocals, Value.category]; done) | (simp [entryFrame, mkF, argsToLocals, Value.category]; done) | rfl
set_option maxRecDepth 65536 in
set_option maxHeartbeats 40000000 in
theorem rm1 (l : Launch) (Z : State) (a0 : Array Value) (hw : ∀ d ∈ tables_1, d.before a0 Z = true) (n : Int64) (a : Addr) (kp : ClassId) (h0 : Heap) (n0 : Nat) (Z0 : n0 ≤ h0.size) (PS_com_example_parting_terms_partingterms_Digits_POWERS : Sta Z h0 "com/example/parting_terms/partingterms/Digits" "POWERS" "[J" (.ref a)) (PA_a : Arv Z h0 a kp .long (19 : Int32) [(.long (1 : Int64)), (.long (10 : Int64)), (.long (100 : Int64)), (.long (1000 : Int64)), (.long (10000 : Int64)), (.long (100000 : Int64)), (.long (1000000 : Int64)), (.long (10000000 : Int64)), (.long (100000000 : Int64)), (.long (1000000000 : Int64)), (.long (10000000000 : Int64)), (.long (100000000000 : Int64)), (.long (1000000000000 : Int64)), (.long (10000000000000 : Int64)), (.long (100000000000000 : Int64)), (.long (1000000000000000 : Int64)), (.long (10000000000000000 : Int64)), (.long (100000000000000000 : Int64)), (.long (1000000000000000000 : Int64))] (.long (0 : Int64))) :
    Met1 l Z (⟨"com/example/parting_terms/partingterms/Digits", "count", "(J)I"⟩ : MethodName) prog_3_method_4_code 3 (some .int) ({ frames := 0, cells := 0, slots := 0, locals := 0 } : Room) #[(.long n)] h0 (Q1 Z n a kp h0 n0) := by
  refine Met1.mk (plainFor_of_name (by first | (simp [plainName, overriddenIn]; done) | decide +kernel)) ?_
  intro p e s m below meth c s₁ hx hZ hby hml hown hnm hret hlk X0 e0
  have N0 := Fr.nil n0
  refine Go.cast (ef_1 m n) ?_
  show Go p e below (FinN s (Q1 Z n a kp h0 n0) ({ frames := 0, cells := 0, slots := 0, locals := 0 } : Room).cells ({ frames := 0, cells := 0, slots := 0, locals := 0 } : Room).slots) s₁ (mkF m 0 #[.val (.long n), .second, .unset] [])
  refine Go.to (mkF m 1 #[.val (.long n), .second, .unset] [(.int (1 : Int32))]) (fun _ k => XS.iconst X0.here hx rfl (hb hby d1_0) k) ?_
  refine Go.to (mkF m 2 #[.val (.long n), .second, .val (.int (1 : Int32))] []) (fun _ k => XS.istoreN X0.here hx rfl (hb hby d1_1) rfl (l' := #[.val (.long n), .second, .val (.int (1 : Int32))]) rfl k) ?_
  refine Go.to (mkF m 3 #[.val (.long n), .second, .val (.int (1 : Int32))] [(.int (1 : Int32))]) (fun _ k => XS.iloadN X0.here hx rfl (hb hby d1_2) rfl  k) ?_
  obtain ⟨T_1, X_1, e_1, st_1⟩ := getS2 X0 hx hZ hown (host := "") (Or.inl (hw _ (List.mem_of_getElem? (i := 24) rfl))) Via.refl e0 PS_com_example_parting_terms_partingterms_Digits_POWERS (g := (mkF m 3 #[.val (.long n), .second, .val (.int (1 : Int32))] [(.int (1 : Int32))])) rfl (hb hby d1_3)
  refine Go.to (mkF m 6 #[.val (.long n), .second, .val (.int (1 : Int32))] [(.ref a), (.int (1 : Int32))]) st_1 ?_
  obtain ⟨cl_2, Ar_2, -, Sz_2, Ng_2, -, -⟩ := id PA_a
  refine Go.to (mkF m 7 #[.val (.long n), .second, .val (.int (1 : Int32))] [(.int (19 : Int32)), (.int (1 : Int32))]) (fun _ k => by
    refine X_1.arraylength hx (by rw [e_1]; exact Ar_2.1) (State.isArrayOf_alike hZ.alike Ar_2.2.1) (g := (mkF m 6 #[.val (.long n), .second, .val (.int (1 : Int32))] [(.ref a), (.int (1 : Int32))])) rfl rfl (hb hby d1_6) _ ?_
    rw [len_of Sz_2 Ng_2]
    exact k) ?_
  refine Go.to (mkF m 10 #[.val (.long n), .second, .val (.int (1 : Int32))] []) (fun _ k => XS.icmpNo X_1.here hx rfl (hb hby d1_7) rfl (tlt (by decide : (1 : Int32) < (19 : Int32))).2.1 k) ?_
  refine Go.to (mkF m 11 #[.val (.long n), .second, .val (.int (1 : Int32))] [(.long n)]) (fun _ k => XS.lloadN X_1.here hx rfl (hb hby d1_10) rfl  k) ?_
  obtain ⟨T_3, X_3, e_3, st_3⟩ := getS2 X_1 hx hZ hown (host := "") (Or.inl (hw _ (List.mem_of_getElem? (i := 24) rfl))) Via.refl e_1 PS_com_example_parting_terms_partingterms_Digits_POWERS (g := (mkF m 11 #[.val (.long n), .second, .val (.int (1 : Int32))] [(.long n)])) rfl (hb hby d1_11)
  refine Go.to (mkF m 14 #[.val (.long n), .second, .val (.int (1 : Int32))] [(.ref a), (.long n)]) st_3 ?_
  refine Go.to (mkF m 15 #[.val (.long n), .second, .val (.int (1 : Int32))] [(.int (1 : Int32)), (.ref a), (.long n)]) (fun _ k => XS.iloadN X_3.here hx rfl (hb hby d1_14) rfl  k) ?_
  obtain ⟨cl_4, Ar_4, -, Sz_4, Ng_4, Hh_4, -⟩ := id PA_a
  have hin_4 : ¬ ((1 : Int32) < 0 ∨ cl_4.slots.size ≤ ((1 : Int32)).toNatClampNeg) := inb_of Sz_4 ⟨by decide, by decide⟩
  refine Go.to (mkF m 16 #[.val (.long n), .second, .val (.int (1 : Int32))] [(.long (10 : Int64)), (.long n)]) (X_3.laload hx (j := (1 : Int32)) (v := (.long (10 : Int64))) (by rw [e_3]; exact Ar_4.1) (State.isArrayOf_alike hZ.alike Ar_4.2.1) Ar_4.2.2 hin_4 (Hh_4.at hin_4 rfl) (g := (mkF m 15 #[.val (.long n), .second, .val (.int (1 : Int32))] [(.int (1 : Int32)), (.ref a), (.long n)])) rfl rfl (hb hby d1_15)) ?_
  refine Go.to (mkF m 17 #[.val (.long n), .second, .val (.int (1 : Int32))] [(.int (lcmpW n (10 : Int64)))]) (fun _ k => XS.lcmp X_3.here hx rfl (hb hby d1_16) rfl k) ?_
  by_cases hc1 : (lcmpW n (10 : Int64)) < (0 : Int32)
  · refine Go.to (mkF m 26 #[.val (.long n), .second, .val (.int (1 : Int32))] []) (fun _ k => XS.ifYes X_3.here hx rfl (pc0 := 17) (pc' := 26) rfl (hb hby d1_17) rfl ((if0 _ _).trans (tlt hc1).1) (by decide) (by decide) k) ?_
    have b1 : n < (10 : Int64) := (lw_lt _ _).mp hc1
    refine Go.to (mkF m 27 #[.val (.long n), .second, .val (.int (1 : Int32))] [(.int (1 : Int32))]) (fun _ k => XS.iloadN X_3.here hx rfl (hb hby d1_26) rfl  k) ?_
    refine Go.retI X_3 hx hret hlk (hb hby d1_27) (by decide) (by decide) ?_
    show (Q1 Z n a kp h0 n0) _ T_3.heap _
    rw [e_3]
    exact ⟨(congrArg (fun z => some (Value.int z)) (own_cnt_1 b1).symm), N0, rfl⟩
  · refine Go.to (mkF m 20 #[.val (.long n), .second, .val (.int (1 : Int32))] []) (fun _ k => XS.ifNo X_3.here hx rfl (hb hby d1_17) rfl ((if0 _ _).trans (flt hc1).1) k) ?_
    have b1 : ¬ n < (10 : Int64) := fun q => hc1 ((lw_lt _ _).mpr q)
    refine Go.to (mkF m 23 #[.val (.long n), .second, .val (.int (2 : Int32))] []) (fun _ k => XS.iinc X_3.here hx rfl (hb hby d1_20) rfl (l' := #[.val (.long n), .second, .val (.int (2 : Int32))]) rfl k) ?_
    refine Go.to (mkF m 2 #[.val (.long n), .second, .val (.int (2 : Int32))] []) (fun _ k => XS.goto X_3.here hx rfl (pc0 := 23) (pc' := 2) rfl (hb hby d1_23) (by decide) (by decide) k) ?_
    refine Go.to (mkF m 3 #[.val (.long n), .second, .val (.int (2 : Int32))] [(.int (2 : Int32))]) (fun _ k => XS.iloadN X_3.here hx rfl (hb hby d1_2) rfl  k) ?_
    obtain ⟨T_5, X_5, e_5, st_5⟩ := getS2 X_3 hx hZ hown (host := "") (Or.inl (hw _ (List.mem_of_getElem? (i := 24) rfl))) Via.refl e_3 PS_com_example_parting_terms_partingterms_Digits_POWERS (g := (mkF m 3 #[.val (.long n), .second, .val (.int (2 : Int32))] [(.int (2 : Int32))])) rfl (hb hby d1_3)
    refine Go.to (mkF m 6 #[.val (.long n), .second, .val (.int (2 : Int32))] [(.ref a), (.int (2 : Int32))]) st_5 ?_
    obtain ⟨cl_6, Ar_6, -, Sz_6, Ng_6, -, -⟩ := id PA_a
    refine Go.to (mkF m 7 #[.val (.long n), .second, .val (.int (2 : Int32))] [(.int (19 : Int32)), (.int (2 : Int32))]) (fun _ k => by
      refine X_5.arraylength hx (by rw [e_5]; exact Ar_6.1) (State.isArrayOf_alike hZ.alike Ar_6.2.1) (g := (mkF m 6 #[.val (.long n), .second, .val (.int (2 : Int32))] [(.ref a), (.int (2 : Int32))])) rfl rfl (hb hby d1_6) _ ?_
      rw [len_of Sz_6 Ng_6]
      exact k) ?_
    refine Go.to (mkF m 10 #[.val (.long n), .second, .val (.int (2 : Int32))] []) (fun _ k => XS.icmpNo X_5.here hx rfl (hb hby d1_7) rfl (tlt (by decide : (2 : Int32) < (19 : Int32))).2.1 k) ?_
    refine Go.to (mkF m 11 #[.val (.long n), .second, .val (.int (2 : Int32))] [(.long n)]) (fun _ k => XS.lloadN X_5.here hx rfl (hb hby d1_10) rfl  k) ?_
    obtain ⟨T_7, X_7, e_7, st_7⟩ := getS2 X_5 hx hZ hown (host := "") (Or.inl (hw _ (List.mem_of_getElem? (i := 24) rfl))) Via.refl e_5 PS_com_example_parting_terms_partingterms_Digits_POWERS (g := (mkF m 11 #[.val (.long n), .second, .val (.int (2 : Int32))] [(.long n)])) rfl (hb hby d1_11)
    refine Go.to (mkF m 14 #[.val (.long n), .second, .val (.int (2 : Int32))] [(.ref a), (.long n)]) st_7 ?_
    refine Go.to (mkF m 15 #[.val (.long n), .second, .val (.int (2 : Int32))] [(.int (2 : Int32)), (.ref a), (.long n)]) (fun _ k => XS.iloadN X_7.here hx rfl (hb hby d1_14) rfl  k) ?_
    obtain ⟨cl_8, Ar_8, -, Sz_8, Ng_8, Hh_8, -⟩ := id PA_a
    have hin_8 : ¬ ((2 : Int32) < 0 ∨ cl_8.slots.size ≤ ((2 : Int32)).toNatClampNeg) := inb_of Sz_8 ⟨by decide, by decide⟩
    refine Go.to (mkF m 16 #[.val (.long n), .second, .val (.int (2 : Int32))] [(.long (100 : Int64)), (.long n)]) (X_7.laload hx (j := (2 : Int32)) (v := (.long (100 : Int64))) (by rw [e_7]; exact Ar_8.1) (State.isArrayOf_alike hZ.alike Ar_8.2.1) Ar_8.2.2 hin_8 (Hh_8.at hin_8 rfl) (g := (mkF m 15 #[.val (.long n), .second, .val (.int (2 : Int32))] [(.int (2 : Int32)), (.ref a), (.long n)])) rfl rfl (hb hby d1_15)) ?_
    refine Go.to (mkF m 17 #[.val (.long n), .second, .val (.int (2 : Int32))] [(.int (lcmpW n (100 : Int64)))]) (fun _ k => XS.lcmp X_7.here hx rfl (hb hby d1_16) rfl k) ?_
    by_cases hc2 : (lcmpW n (100 : Int64)) < (0 : Int32)
    · refine Go.to (mkF m 26 #[.val (.long n), .second, .val (.int (2 : Int32))] []) (fun _ k => XS.ifYes X_7.here hx rfl (pc0 := 17) (pc' := 26) rfl (hb hby d1_17) rfl ((if0 _ _).trans (tlt hc2).1) (by decide) (by decide) k) ?_
      have b2 : n < (100 : Int64) := (lw_lt _ _).mp hc2
      refine Go.to (mkF m 27 #[.val (.long n), .second, .val (.int (2 : Int32))] [(.int (2 : Int32))]) (fun _ k => XS.iloadN X_7.here hx rfl (hb hby d1_26) rfl  k) ?_
      refine Go.retI X_7 hx hret hlk (hb hby d1_27) (by decide) (by decide) ?_
      show (Q1 Z n a kp h0 n0) _ T_7.heap _
      rw [e_7]
      exact ⟨(congrArg (fun z => some (Value.int z)) (own_cnt_2 b1 b2).symm), N0, rfl⟩
    · refine Go.to (mkF m 20 #[.val (.long n), .second, .val (.int (2 : Int32))] []) (fun _ k => XS.ifNo X_7.here hx rfl (hb hby d1_17) rfl ((if0 _ _).trans (flt hc2).1) k) ?_
      have b2 : ¬ n < (100 : Int64) := fun q => hc2 ((lw_lt _ _).mpr q)
      refine Go.to (mkF m 23 #[.val (.long n), .second, .val (.int (3 : Int32))] []) (fun _ k => XS.iinc X_7.here hx rfl (hb hby d1_20) rfl (l' := #[.val (.long n), .second, .val (.int (3 : Int32))]) rfl k) ?_
      refine Go.to (mkF m 2 #[.val (.long n), .second, .val (.int (3 : Int32))] []) (fun _ k => XS.goto X_7.here hx rfl (pc0 := 23) (pc' := 2) rfl (hb hby d1_23) (by decide) (by decide) k) ?_
      refine Go.to (mkF m 3 #[.val (.long n), .second, .val (.int (3 : Int32))] [(.int (3 : Int32))]) (fun _ k => XS.iloadN X_7.here hx rfl (hb hby d1_2) rfl  k) ?_
      obtain ⟨T_9, X_9, e_9, st_9⟩ := getS2 X_7 hx hZ hown (host := "") (Or.inl (hw _ (List.mem_of_getElem? (i := 24) rfl))) Via.refl e_7 PS_com_example_parting_terms_partingterms_Digits_POWERS (g := (mkF m 3 #[.val (.long n), .second, .val (.int (3 : Int32))] [(.int (3 : Int32))])) rfl (hb hby d1_3)
      refine Go.to (mkF m 6 #[.val (.long n), .second, .val (.int (3 : Int32))] [(.ref a), (.int (3 : Int32))]) st_9 ?_
      obtain ⟨cl_10, Ar_10, -, Sz_10, Ng_10, -, -⟩ := id PA_a
      refine Go.to (mkF m 7 #[.val (.long n), .second, .val (.int (3 : Int32))] [(.int (19 : Int32)), (.int (3 : Int32))]) (fun _ k => by
        refine X_9.arraylength hx (by rw [e_9]; exact Ar_10.1) (State.isArrayOf_alike hZ.alike Ar_10.2.1) (g := (mkF m 6 #[.val (.long n), .second, .val (.int (3 : Int32))] [(.ref a), (.int (3 : Int32))])) rfl rfl (hb hby d1_6) _ ?_
        rw [len_of Sz_10 Ng_10]
        exact k) ?_
      refine Go.to (mkF m 10 #[.val (.long n), .second, .val (.int (3 : Int32))] []) (fun _ k => XS.icmpNo X_9.here hx rfl (hb hby d1_7) rfl (tlt (by decide : (3 : Int32) < (19 : Int32))).2.1 k) ?_
      refine Go.to (mkF m 11 #[.val (.long n), .second, .val (.int (3 : Int32))] [(.long n)]) (fun _ k => XS.lloadN X_9.here hx rfl (hb hby d1_10) rfl  k) ?_
      obtain ⟨T_11, X_11, e_11, st_11⟩ := getS2 X_9 hx hZ hown (host := "") (Or.inl (hw _ (List.mem_of_getElem? (i := 24) rfl))) Via.refl e_9 PS_com_example_parting_terms_partingterms_Digits_POWERS (g := (mkF m 11 #[.val (.long n), .second, .val (.int (3 : Int32))] [(.long n)])) rfl (hb hby d1_11)
      refine Go.to (mkF m 14 #[.val (.long n), .second, .val (.int (3 : Int32))] [(.ref a), (.long n)]) st_11 ?_
      refine Go.to (mkF m 15 #[.val (.long n), .second, .val (.int (3 : Int32))] [(.int (3 : Int32)), (.ref a), (.long n)]) (fun _ k => XS.iloadN X_11.here hx rfl (hb hby d1_14) rfl  k) ?_
      obtain ⟨cl_12, Ar_12, -, Sz_12, Ng_12, Hh_12, -⟩ := id PA_a
      have hin_12 : ¬ ((3 : Int32) < 0 ∨ cl_12.slots.size ≤ ((3 : Int32)).toNatClampNeg) := inb_of Sz_12 ⟨by decide, by decide⟩
      refine Go.to (mkF m 16 #[.val (.long n), .second, .val (.int (3 : Int32))] [(.long (1000 : Int64)), (.long n)]) (X_11.laload hx (j := (3 : Int32)) (v := (.long (1000 : Int64))) (by rw [e_11]; exact Ar_12.1) (State.isArrayOf_alike hZ.alike Ar_12.2.1) Ar_12.2.2 hin_12 (Hh_12.at hin_12 rfl) (g := (mkF m 15 #[.val (.long n), .second, .val (.int (3 : Int32))] [(.int (3 : Int32)), (.ref a), (.long n)])) rfl rfl (hb hby d1_15)) ?_
      refine Go.to (mkF m 17 #[.val (.long n), .second, .val (.int (3 : Int32))] [(.int (lcmpW n (1000 : Int64)))]) (fun _ k => XS.lcmp X_11.here hx rfl (hb hby d1_16) rfl k) ?_
      by_cases hc3 : (lcmpW n (1000 : Int64)) < (0 : Int32)
      · refine Go.to (mkF m 26 #[.val (.long n), .second, .val (.int (3 : Int32))] []) (fun _ k => XS.ifYes X_11.here hx rfl (pc0 := 17) (pc' := 26) rfl (hb hby d1_17) rfl ((if0 _ _).trans (tlt hc3).1) (by decide) (by decide) k) ?_
        have b3 : n < (1000 : Int64) := (lw_lt _ _).mp hc3
        refine Go.to (mkF m 27 #[.val (.long n), .second, .val (.int (3 : Int32))] [(.int (3 : Int32))]) (fun _ k => XS.iloadN X_11.here hx rfl (hb hby d1_26) rfl  k) ?_
        refine Go.retI X_11 hx hret hlk (hb hby d1_27) (by decide) (by decide) ?_
        show (Q1 Z n a kp h0 n0) _ T_11.heap _
        rw [e_11]
        exact ⟨(congrArg (fun z => some (Value.int z)) (own_cnt_3 b1 b2 b3).symm), N0, rfl⟩
      · refine Go.to (mkF m 20 #[.val (.long n), .second, .val (.int (3 : Int32))] []) (fun _ k => XS.ifNo X_11.here hx rfl (hb hby d1_17) rfl ((if0 _ _).trans (flt hc3).1) k) ?_
        have b3 : ¬ n < (1000 : Int64) := fun q => hc3 ((lw_lt _ _).mpr q)
        refine Go.to (mkF m 23 #[.val (.long n), .second, .val (.int (4 : Int32))] []) (fun _ k => XS.iinc X_11.here hx rfl (hb hby d1_20) rfl (l' := #[.val (.long n), .second, .val (.int (4 : Int32))]) rfl k) ?_
        refine Go.to (mkF m 2 #[.val (.long n), .second, .val (.int (4 : Int32))] []) (fun _ k => XS.goto X_11.here hx rfl (pc0 := 23) (pc' := 2) rfl (hb hby d1_23) (by decide) (by decide) k) ?_
        refine Go.to (mkF m 3 #[.val (.long n), .second, .val (.int (4 : Int32))] [(.int (4 : Int32))]) (fun _ k => XS.iloadN X_11.here hx rfl (hb hby d1_2) rfl  k) ?_
        obtain ⟨T_13, X_13, e_13, st_13⟩ := getS2 X_11 hx hZ hown (host := "") (Or.inl (hw _ (List.mem_of_getElem? (i := 24) rfl))) Via.refl e_11 PS_com_example_parting_terms_partingterms_Digits_POWERS (g := (mkF m 3 #[.val (.long n), .second, .val (.int (4 : Int32))] [(.int (4 : Int32))])) rfl (hb hby d1_3)
        refine Go.to (mkF m 6 #[.val (.long n), .second, .val (.int (4 : Int32))] [(.ref a), (.int (4 : Int32))]) st_13 ?_
        obtain ⟨cl_14, Ar_14, -, Sz_14, Ng_14, -, -⟩ := id PA_a
        refine Go.to (mkF m 7 #[.val (.long n), .second, .val (.int (4 : Int32))] [(.int (19 : Int32)), (.int (4 : Int32))]) (fun _ k => by
          refine X_13.arraylength hx (by rw [e_13]; exact Ar_14.1) (State.isArrayOf_alike hZ.alike Ar_14.2.1) (g := (mkF m 6 #[.val (.long n), .second, .val (.int (4 : Int32))] [(.ref a), (.int (4 : Int32))])) rfl rfl (hb hby d1_6) _ ?_
          rw [len_of Sz_14 Ng_14]
          exact k) ?_
        refine Go.to (mkF m 10 #[.val (.long n), .second, .val (.int (4 : Int32))] []) (fun _ k => XS.icmpNo X_13.here hx rfl (hb hby d1_7) rfl (tlt (by decide : (4 : Int32) < (19 : Int32))).2.1 k) ?_
        refine Go.to (mkF m 11 #[.val (.long n), .second, .val (.int (4 : Int32))] [(.long n)]) (fun _ k => XS.lloadN X_13.here hx rfl (hb hby d1_10) rfl  k) ?_
        obtain ⟨T_15, X_15, e_15, st_15⟩ := getS2 X_13 hx hZ hown (host := "") (Or.inl (hw _ (List.mem_of_getElem? (i := 24) rfl))) Via.refl e_13 PS_com_example_parting_terms_partingterms_Digits_POWERS (g := (mkF m 11 #[.val (.long n), .second, .val (.int (4 : Int32))] [(.long n)])) rfl (hb hby d1_11)
        refine Go.to (mkF m 14 #[.val (.long n), .second, .val (.int (4 : Int32))] [(.ref a), (.long n)]) st_15 ?_
        refine Go.to (mkF m 15 #[.val (.long n), .second, .val (.int (4 : Int32))] [(.int (4 : Int32)), (.ref a), (.long n)]) (fun _ k => XS.iloadN X_15.here hx rfl (hb hby d1_14) rfl  k) ?_
        obtain ⟨cl_16, Ar_16, -, Sz_16, Ng_16, Hh_16, -⟩ := id PA_a
        have hin_16 : ¬ ((4 : Int32) < 0 ∨ cl_16.slots.size ≤ ((4 : Int32)).toNatClampNeg) := inb_of Sz_16 ⟨by decide, by decide⟩
        refine Go.to (mkF m 16 #[.val (.long n), .second, .val (.int (4 : Int32))] [(.long (10000 : Int64)), (.long n)]) (X_15.laload hx (j := (4 : Int32)) (v := (.long (10000 : Int64))) (by rw [e_15]; exact Ar_16.1) (State.isArrayOf_alike hZ.alike Ar_16.2.1) Ar_16.2.2 hin_16 (Hh_16.at hin_16 rfl) (g := (mkF m 15 #[.val (.long n), .second, .val (.int (4 : Int32))] [(.int (4 : Int32)), (.ref a), (.long n)])) rfl rfl (hb hby d1_15)) ?_
        refine Go.to (mkF m 17 #[.val (.long n), .second, .val (.int (4 : Int32))] [(.int (lcmpW n (10000 : Int64)))]) (fun _ k => XS.lcmp X_15.here hx rfl (hb hby d1_16) rfl k) ?_
        by_cases hc4 : (lcmpW n (10000 : Int64)) < (0 : Int32)
        · refine Go.to (mkF m 26 #[.val (.long n), .second, .val (.int (4 : Int32))] []) (fun _ k => XS.ifYes X_15.here hx rfl (pc0 := 17) (pc' := 26) rfl (hb hby d1_17) rfl ((if0 _ _).trans (tlt hc4).1) (by decide) (by decide) k) ?_
          have b4 : n < (10000 : Int64) := (lw_lt _ _).mp hc4
          refine Go.to (mkF m 27 #[.val (.long n), .second, .val (.int (4 : Int32))] [(.int (4 : Int32))]) (fun _ k => XS.iloadN X_15.here hx rfl (hb hby d1_26) rfl  k) ?_
          refine Go.retI X_15 hx hret hlk (hb hby d1_27) (by decide) (by decide) ?_
          show (Q1 Z n a kp h0 n0) _ T_15.heap _
          rw [e_15]
          exact ⟨(congrArg (fun z => some (Value.int z)) (own_cnt_4 b1 b2 b3 b4).symm), N0, rfl⟩
        · refine Go.to (mkF m 20 #[.val (.long n), .second, .val (.int (4 : Int32))] []) (fun _ k => XS.ifNo X_15.here hx rfl (hb hby d1_17) rfl ((if0 _ _).trans (flt hc4).1) k) ?_
          have b4 : ¬ n < (10000 : Int64) := fun q => hc4 ((lw_lt _ _).mpr q)
          refine Go.to (mkF m 23 #[.val (.long n), .second, .val (.int (5 : Int32))] []) (fun _ k => XS.iinc X_15.here hx rfl (hb hby d1_20) rfl (l' := #[.val (.long n), .second, .val (.int (5 : Int32))]) rfl k) ?_
          refine Go.to (mkF m 2 #[.val (.long n), .second, .val (.int (5 : Int32))] []) (fun _ k => XS.goto X_15.here hx rfl (pc0 := 23) (pc' := 2) rfl (hb hby d1_23) (by decide) (by decide) k) ?_
          refine Go.to (mkF m 3 #[.val (.long n), .second, .val (.int (5 : Int32))] [(.int (5 : Int32))]) (fun _ k => XS.iloadN X_15.here hx rfl (hb hby d1_2) rfl  k) ?_
          obtain ⟨T_17, X_17, e_17, st_17⟩ := getS2 X_15 hx hZ hown (host := "") (Or.inl (hw _ (List.mem_of_getElem? (i := 24) rfl))) Via.refl e_15 PS_com_example_parting_terms_partingterms_Digits_POWERS (g := (mkF m 3 #[.val (.long n), .second, .val (.int (5 : Int32))] [(.int (5 : Int32))])) rfl (hb hby d1_3)
          refine Go.to (mkF m 6 #[.val (.long n), .second, .val (.int (5 : Int32))] [(.ref a), (.int (5 : Int32))]) st_17 ?_
          obtain ⟨cl_18, Ar_18, -, Sz_18, Ng_18, -, -⟩ := id PA_a
          refine Go.to (mkF m 7 #[.val (.long n), .second, .val (.int (5 : Int32))] [(.int (19 : Int32)), (.int (5 : Int32))]) (fun _ k => by
            refine X_17.arraylength hx (by rw [e_17]; exact Ar_18.1) (State.isArrayOf_alike hZ.alike Ar_18.2.1) (g := (mkF m 6 #[.val (.long n), .second, .val (.int (5 : Int32))] [(.ref a), (.int (5 : Int32))])) rfl rfl (hb hby d1_6) _ ?_
            rw [len_of Sz_18 Ng_18]
            exact k) ?_
          refine Go.to (mkF m 10 #[.val (.long n), .second, .val (.int (5 : Int32))] []) (fun _ k => XS.icmpNo X_17.here hx rfl (hb hby d1_7) rfl (tlt (by decide : (5 : Int32) < (19 : Int32))).2.1 k) ?_
          refine Go.to (mkF m 11 #[.val (.long n), .second, .val (.int (5 : Int32))] [(.long n)]) (fun _ k => XS.lloadN X_17.here hx rfl (hb hby d1_10) rfl  k) ?_
          obtain ⟨T_19, X_19, e_19, st_19⟩ := getS2 X_17 hx hZ hown (host := "") (Or.inl (hw _ (List.mem_of_getElem? (i := 24) rfl))) Via.refl e_17 PS_com_example_parting_terms_partingterms_Digits_POWERS (g := (mkF m 11 #[.val (.long n), .second, .val (.int (5 : Int32))] [(.long n)])) rfl (hb hby d1_11)
          refine Go.to (mkF m 14 #[.val (.long n), .second, .val (.int (5 : Int32))] [(.ref a), (.long n)]) st_19 ?_
          refine Go.to (mkF m 15 #[.val (.long n), .second, .val (.int (5 : Int32))] [(.int (5 : Int32)), (.ref a), (.long n)]) (fun _ k => XS.iloadN X_19.here hx rfl (hb hby d1_14) rfl  k) ?_
          obtain ⟨cl_20, Ar_20, -, Sz_20, Ng_20, Hh_20, -⟩ := id PA_a
          have hin_20 : ¬ ((5 : Int32) < 0 ∨ cl_20.slots.size ≤ ((5 : Int32)).toNatClampNeg) := inb_of Sz_20 ⟨by decide, by decide⟩
          refine Go.to (mkF m 16 #[.val (.long n), .second, .val (.int (5 : Int32))] [(.long (100000 : Int64)), (.long n)]) (X_19.laload hx (j := (5 : Int32)) (v := (.long (100000 : Int64))) (by rw [e_19]; exact Ar_20.1) (State.isArrayOf_alike hZ.alike Ar_20.2.1) Ar_20.2.2 hin_20 (Hh_20.at hin_20 rfl) (g := (mkF m 15 #[.val (.long n), .second, .val (.int (5 : Int32))] [(.int (5 : Int32)), (.ref a), (.long n)])) rfl rfl (hb hby d1_15)) ?_
          refine Go.to (mkF m 17 #[.val (.long n), .second, .val (.int (5 : Int32))] [(.int (lcmpW n (100000 : Int64)))]) (fun _ k => XS.lcmp X_19.here hx rfl (hb hby d1_16) rfl k) ?_
          by_cases hc5 : (lcmpW n (100000 : Int64)) < (0 : Int32)
          · refine Go.to (mkF m 26 #[.val (.long n), .second, .val (.int (5 : Int32))] []) (fun _ k => XS.ifYes X_19.here hx rfl (pc0 := 17) (pc' := 26) rfl (hb hby d1_17) rfl ((if0 _ _).trans (tlt hc5).1) (by decide) (by decide) k) ?_
            have b5 : n < (100000 : Int64) := (lw_lt _ _).mp hc5
            refine Go.to (mkF m 27 #[.val (.long n), .second, .val (.int (5 : Int32))] [(.int (5 : Int32))]) (fun _ k => XS.iloadN X_19.here hx rfl (hb hby d1_26) rfl  k) ?_
            refine Go.retI X_19 hx hret hlk (hb hby d1_27) (by decide) (by decide) ?_
            show (Q1 Z n a kp h0 n0) _ T_19.heap _
            rw [e_19]
            exact ⟨(congrArg (fun z => some (Value.int z)) (own_cnt_5 b1 b2 b3 b4 b5).symm), N0, rfl⟩
          · refine Go.to (mkF m 20 #[.val (.long n), .second, .val (.int (5 : Int32))] []) (fun _ k => XS.ifNo X_19.here hx rfl (hb hby d1_17) rfl ((if0 _ _).trans (flt hc5).1) k) ?_
            have b5 : ¬ n < (100000 : Int64) := fun q => hc5 ((lw_lt _ _).mpr q)
            refine Go.to (mkF m 23 #[.val (.long n), .second, .val (.int (6 : Int32))] []) (fun _ k => XS.iinc X_19.here hx rfl (hb hby d1_20) rfl (l' := #[.val (.long n), .second, .val (.int (6 : Int32))]) rfl k) ?_
            refine Go.to (mkF m 2 #[.val (.long n), .second, .val (.int (6 : Int32))] []) (fun _ k => XS.goto X_19.here hx rfl (pc0 := 23) (pc' := 2) rfl (hb hby d1_23) (by decide) (by decide) k) ?_
            refine Go.to (mkF m 3 #[.val (.long n), .second, .val (.int (6 : Int32))] [(.int (6 : Int32))]) (fun _ k => XS.iloadN X_19.here hx rfl (hb hby d1_2) rfl  k) ?_
            obtain ⟨T_21, X_21, e_21, st_21⟩ := getS2 X_19 hx hZ hown (host := "") (Or.inl (hw _ (List.mem_of_getElem? (i := 24) rfl))) Via.refl e_19 PS_com_example_parting_terms_partingterms_Digits_POWERS (g := (mkF m 3 #[.val (.long n), .second, .val (.int (6 : Int32))] [(.int (6 : Int32))])) rfl (hb hby d1_3)
            refine Go.to (mkF m 6 #[.val (.long n), .second, .val (.int (6 : Int32))] [(.ref a), (.int (6 : Int32))]) st_21 ?_
            obtain ⟨cl_22, Ar_22, -, Sz_22, Ng_22, -, -⟩ := id PA_a
            refine Go.to (mkF m 7 #[.val (.long n), .second, .val (.int (6 : Int32))] [(.int (19 : Int32)), (.int (6 : Int32))]) (fun _ k => by
              refine X_21.arraylength hx (by rw [e_21]; exact Ar_22.1) (State.isArrayOf_alike hZ.alike Ar_22.2.1) (g := (mkF m 6 #[.val (.long n), .second, .val (.int (6 : Int32))] [(.ref a), (.int (6 : Int32))])) rfl rfl (hb hby d1_6) _ ?_
              rw [len_of Sz_22 Ng_22]
              exact k) ?_
            refine Go.to (mkF m 10 #[.val (.long n), .second, .val (.int (6 : Int32))] []) (fun _ k => XS.icmpNo X_21.here hx rfl (hb hby d1_7) rfl (tlt (by decide : (6 : Int32) < (19 : Int32))).2.1 k) ?_
            refine Go.to (mkF m 11 #[.val (.long n), .second, .val (.int (6 : Int32))] [(.long n)]) (fun _ k => XS.lloadN X_21.here hx rfl (hb hby d1_10) rfl  k) ?_
            obtain ⟨T_23, X_23, e_23, st_23⟩ := getS2 X_21 hx hZ hown (host := "") (Or.inl (hw _ (List.mem_of_getElem? (i := 24) rfl))) Via.refl e_21 PS_com_example_parting_terms_partingterms_Digits_POWERS (g := (mkF m 11 #[.val (.long n), .second, .val (.int (6 : Int32))] [(.long n)])) rfl (hb hby d1_11)
            refine Go.to (mkF m 14 #[.val (.long n), .second, .val (.int (6 : Int32))] [(.ref a), (.long n)]) st_23 ?_
            refine Go.to (mkF m 15 #[.val (.long n), .second, .val (.int (6 : Int32))] [(.int (6 : Int32)), (.ref a), (.long n)]) (fun _ k => XS.iloadN X_23.here hx rfl (hb hby d1_14) rfl  k) ?_
            obtain ⟨cl_24, Ar_24, -, Sz_24, Ng_24, Hh_24, -⟩ := id PA_a
            have hin_24 : ¬ ((6 : Int32) < 0 ∨ cl_24.slots.size ≤ ((6 : Int32)).toNatClampNeg) := inb_of Sz_24 ⟨by decide, by decide⟩
            refine Go.to (mkF m 16 #[.val (.long n), .second, .val (.int (6 : Int32))] [(.long (1000000 : Int64)), (.long n)]) (X_23.laload hx (j := (6 : Int32)) (v := (.long (1000000 : Int64))) (by rw [e_23]; exact Ar_24.1) (State.isArrayOf_alike hZ.alike Ar_24.2.1) Ar_24.2.2 hin_24 (Hh_24.at hin_24 rfl) (g := (mkF m 15 #[.val (.long n), .second, .val (.int (6 : Int32))] [(.int (6 : Int32)), (.ref a), (.long n)])) rfl rfl (hb hby d1_15)) ?_
            refine Go.to (mkF m 17 #[.val (.long n), .second, .val (.int (6 : Int32))] [(.int (lcmpW n (1000000 : Int64)))]) (fun _ k => XS.lcmp X_23.here hx rfl (hb hby d1_16) rfl k) ?_
            by_cases hc6 : (lcmpW n (1000000 : Int64)) < (0 : Int32)
            · refine Go.to (mkF m 26 #[.val (.long n), .second, .val (.int (6 : Int32))] []) (fun _ k => XS.ifYes X_23.here hx rfl (pc0 := 17) (pc' := 26) rfl (hb hby d1_17) rfl ((if0 _ _).trans (tlt hc6).1) (by decide) (by decide) k) ?_
              have b6 : n < (1000000 : Int64) := (lw_lt _ _).mp hc6
              refine Go.to (mkF m 27 #[.val (.long n), .second, .val (.int (6 : Int32))] [(.int (6 : Int32))]) (fun _ k => XS.iloadN X_23.here hx rfl (hb hby d1_26) rfl  k) ?_
              refine Go.retI X_23 hx hret hlk (hb hby d1_27) (by decide) (by decide) ?_
              show (Q1 Z n a kp h0 n0) _ T_23.heap _
              rw [e_23]
              exact ⟨(congrArg (fun z => some (Value.int z)) (own_cnt_6 b1 b2 b3 b4 b5 b6).symm), N0, rfl⟩
            · refine Go.to (mkF m 20 #[.val (.long n), .second, .val (.int (6 : Int32))] []) (fun _ k => XS.ifNo X_23.here hx rfl (hb hby d1_17) rfl ((if0 _ _).trans (flt hc6).1) k) ?_
              have b6 : ¬ n < (1000000 : Int64) := fun q => hc6 ((lw_lt _ _).mpr q)
              refine Go.to (mkF m 23 #[.val (.long n), .second, .val (.int (7 : Int32))] []) (fun _ k => XS.iinc X_23.here hx rfl (hb hby d1_20) rfl (l' := #[.val (.long n), .second, .val (.int (7 : Int32))]) rfl k) ?_
              refine Go.to (mkF m 2 #[.val (.long n), .second, .val (.int (7 : Int32))] []) (fun _ k => XS.goto X_23.here hx rfl (pc0 := 23) (pc' := 2) rfl (hb hby d1_23) (by decide) (by decide) k) ?_
              refine Go.to (mkF m 3 #[.val (.long n), .second, .val (.int (7 : Int32))] [(.int (7 : Int32))]) (fun _ k => XS.iloadN X_23.here hx rfl (hb hby d1_2) rfl  k) ?_
              obtain ⟨T_25, X_25, e_25, st_25⟩ := getS2 X_23 hx hZ hown (host := "") (Or.inl (hw _ (List.mem_of_getElem? (i := 24) rfl))) Via.refl e_23 PS_com_example_parting_terms_partingterms_Digits_POWERS (g := (mkF m 3 #[.val (.long n), .second, .val (.int (7 : Int32))] [(.int (7 : Int32))])) rfl (hb hby d1_3)
              refine Go.to (mkF m 6 #[.val (.long n), .second, .val (.int (7 : Int32))] [(.ref a), (.int (7 : Int32))]) st_25 ?_
              obtain ⟨cl_26, Ar_26, -, Sz_26, Ng_26, -, -⟩ := id PA_a
              refine Go.to (mkF m 7 #[.val (.long n), .second, .val (.int (7 : Int32))] [(.int (19 : Int32)), (.int (7 : Int32))]) (fun _ k => by
                refine X_25.arraylength hx (by rw [e_25]; exact Ar_26.1) (State.isArrayOf_alike hZ.alike Ar_26.2.1) (g := (mkF m 6 #[.val (.long n), .second, .val (.int (7 : Int32))] [(.ref a), (.int (7 : Int32))])) rfl rfl (hb hby d1_6) _ ?_
                rw [len_of Sz_26 Ng_26]
                exact k) ?_
              refine Go.to (mkF m 10 #[.val (.long n), .second, .val (.int (7 : Int32))] []) (fun _ k => XS.icmpNo X_25.here hx rfl (hb hby d1_7) rfl (tlt (by decide : (7 : Int32) < (19 : Int32))).2.1 k) ?_
              refine Go.to (mkF m 11 #[.val (.long n), .second, .val (.int (7 : Int32))] [(.long n)]) (fun _ k => XS.lloadN X_25.here hx rfl (hb hby d1_10) rfl  k) ?_
              obtain ⟨T_27, X_27, e_27, st_27⟩ := getS2 X_25 hx hZ hown (host := "") (Or.inl (hw _ (List.mem_of_getElem? (i := 24) rfl))) Via.refl e_25 PS_com_example_parting_terms_partingterms_Digits_POWERS (g := (mkF m 11 #[.val (.long n), .second, .val (.int (7 : Int32))] [(.long n)])) rfl (hb hby d1_11)
              refine Go.to (mkF m 14 #[.val (.long n), .second, .val (.int (7 : Int32))] [(.ref a), (.long n)]) st_27 ?_
              refine Go.to (mkF m 15 #[.val (.long n), .second, .val (.int (7 : Int32))] [(.int (7 : Int32)), (.ref a), (.long n)]) (fun _ k => XS.iloadN X_27.here hx rfl (hb hby d1_14) rfl  k) ?_
              obtain ⟨cl_28, Ar_28, -, Sz_28, Ng_28, Hh_28, -⟩ := id PA_a
              have hin_28 : ¬ ((7 : Int32) < 0 ∨ cl_28.slots.size ≤ ((7 : Int32)).toNatClampNeg) := inb_of Sz_28 ⟨by decide, by decide⟩
              refine Go.to (mkF m 16 #[.val (.long n), .second, .val (.int (7 : Int32))] [(.long (10000000 : Int64)), (.long n)]) (X_27.laload hx (j := (7 : Int32)) (v := (.long (10000000 : Int64))) (by rw [e_27]; exact Ar_28.1) (State.isArrayOf_alike hZ.alike Ar_28.2.1) Ar_28.2.2 hin_28 (Hh_28.at hin_28 rfl) (g := (mkF m 15 #[.val (.long n), .second, .val (.int (7 : Int32))] [(.int (7 : Int32)), (.ref a), (.long n)])) rfl rfl (hb hby d1_15)) ?_
              refine Go.to (mkF m 17 #[.val (.long n), .second, .val (.int (7 : Int32))] [(.int (lcmpW n (10000000 : Int64)))]) (fun _ k => XS.lcmp X_27.here hx rfl (hb hby d1_16) rfl k) ?_
              by_cases hc7 : (lcmpW n (10000000 : Int64)) < (0 : Int32)
              · refine Go.to (mkF m 26 #[.val (.long n), .second, .val (.int (7 : Int32))] []) (fun _ k => XS.ifYes X_27.here hx rfl (pc0 := 17) (pc' := 26) rfl (hb hby d1_17) rfl ((if0 _ _).trans (tlt hc7).1) (by decide) (by decide) k) ?_
                have b7 : n < (10000000 : Int64) := (lw_lt _ _).mp hc7
                refine Go.to (mkF m 27 #[.val (.long n), .second, .val (.int (7 : Int32))] [(.int (7 : Int32))]) (fun _ k => XS.iloadN X_27.here hx rfl (hb hby d1_26) rfl  k) ?_
                refine Go.retI X_27 hx hret hlk (hb hby d1_27) (by decide) (by decide) ?_
                show (Q1 Z n a kp h0 n0) _ T_27.heap _
                rw [e_27]
                exact ⟨(congrArg (fun z => some (Value.int z)) (own_cnt_7 b1 b2 b3 b4 b5 b6 b7).symm), N0, rfl⟩
              · refine Go.to (mkF m 20 #[.val (.long n), .second, .val (.int (7 : Int32))] []) (fun _ k => XS.ifNo X_27.here hx rfl (hb hby d1_17) rfl ((if0 _ _).trans (flt hc7).1) k) ?_
                have b7 : ¬ n < (10000000 : Int64) := fun q => hc7 ((lw_lt _ _).mpr q)
                refine Go.to (mkF m 23 #[.val (.long n), .second, .val (.int (8 : Int32))] []) (fun _ k => XS.iinc X_27.here hx rfl (hb hby d1_20) rfl (l' := #[.val (.long n), .second, .val (.int (8 : Int32))]) rfl k) ?_
                refine Go.to (mkF m 2 #[.val (.long n), .second, .val (.int (8 : Int32))] []) (fun _ k => XS.goto X_27.here hx rfl (pc0 := 23) (pc' := 2) rfl (hb hby d1_23) (by decide) (by decide) k) ?_
                refine Go.to (mkF m 3 #[.val (.long n), .second, .val (.int (8 : Int32))] [(.int (8 : Int32))]) (fun _ k => XS.iloadN X_27.here hx rfl (hb hby d1_2) rfl  k) ?_
                obtain ⟨T_29, X_29, e_29, st_29⟩ := getS2 X_27 hx hZ hown (host := "") (Or.inl (hw _ (List.mem_of_getElem? (i := 24) rfl))) Via.refl e_27 PS_com_example_parting_terms_partingterms_Digits_POWERS (g := (mkF m 3 #[.val (.long n), .second, .val (.int (8 : Int32))] [(.int (8 : Int32))])) rfl (hb hby d1_3)
                refine Go.to (mkF m 6 #[.val (.long n), .second, .val (.int (8 : Int32))] [(.ref a), (.int (8 : Int32))]) st_29 ?_
                obtain ⟨cl_30, Ar_30, -, Sz_30, Ng_30, -, -⟩ := id PA_a
                refine Go.to (mkF m 7 #[.val (.long n), .second, .val (.int (8 : Int32))] [(.int (19 : Int32)), (.int (8 : Int32))]) (fun _ k => by
                  refine X_29.arraylength hx (by rw [e_29]; exact Ar_30.1) (State.isArrayOf_alike hZ.alike Ar_30.2.1) (g := (mkF m 6 #[.val (.long n), .second, .val (.int (8 : Int32))] [(.ref a), (.int (8 : Int32))])) rfl rfl (hb hby d1_6) _ ?_
                  rw [len_of Sz_30 Ng_30]
                  exact k) ?_
                refine Go.to (mkF m 10 #[.val (.long n), .second, .val (.int (8 : Int32))] []) (fun _ k => XS.icmpNo X_29.here hx rfl (hb hby d1_7) rfl (tlt (by decide : (8 : Int32) < (19 : Int32))).2.1 k) ?_
                refine Go.to (mkF m 11 #[.val (.long n), .second, .val (.int (8 : Int32))] [(.long n)]) (fun _ k => XS.lloadN X_29.here hx rfl (hb hby d1_10) rfl  k) ?_
                obtain ⟨T_31, X_31, e_31, st_31⟩ := getS2 X_29 hx hZ hown (host := "") (Or.inl (hw _ (List.mem_of_getElem? (i := 24) rfl))) Via.refl e_29 PS_com_example_parting_terms_partingterms_Digits_POWERS (g := (mkF m 11 #[.val (.long n), .second, .val (.int (8 : Int32))] [(.long n)])) rfl (hb hby d1_11)
                refine Go.to (mkF m 14 #[.val (.long n), .second, .val (.int (8 : Int32))] [(.ref a), (.long n)]) st_31 ?_
                refine Go.to (mkF m 15 #[.val (.long n), .second, .val (.int (8 : Int32))] [(.int (8 : Int32)), (.ref a), (.long n)]) (fun _ k => XS.iloadN X_31.here hx rfl (hb hby d1_14) rfl  k) ?_
                obtain ⟨cl_32, Ar_32, -, Sz_32, Ng_32, Hh_32, -⟩ := id PA_a
                have hin_32 : ¬ ((8 : Int32) < 0 ∨ cl_32.slots.size ≤ ((8 : Int32)).toNatClampNeg) := inb_of Sz_32 ⟨by decide, by decide⟩
                refine Go.to (mkF m 16 #[.val (.long n), .second, .val (.int (8 : Int32))] [(.long (100000000 : Int64)), (.long n)]) (X_31.laload hx (j := (8 : Int32)) (v := (.long (100000000 : Int64))) (by rw [e_31]; exact Ar_32.1) (State.isArrayOf_alike hZ.alike Ar_32.2.1) Ar_32.2.2 hin_32 (Hh_32.at hin_32 rfl) (g := (mkF m 15 #[.val (.long n), .second, .val (.int (8 : Int32))] [(.int (8 : Int32)), (.ref a), (.long n)])) rfl rfl (hb hby d1_15)) ?_
                refine Go.to (mkF m 17 #[.val (.long n), .second, .val (.int (8 : Int32))] [(.int (lcmpW n (100000000 : Int64)))]) (fun _ k => XS.lcmp X_31.here hx rfl (hb hby d1_16) rfl k) ?_
                by_cases hc8 : (lcmpW n (100000000 : Int64)) < (0 : Int32)
                · refine Go.to (mkF m 26 #[.val (.long n), .second, .val (.int (8 : Int32))] []) (fun _ k => XS.ifYes X_31.here hx rfl (pc0 := 17) (pc' := 26) rfl (hb hby d1_17) rfl ((if0 _ _).trans (tlt hc8).1) (by decide) (by decide) k) ?_
                  have b8 : n < (100000000 : Int64) := (lw_lt _ _).mp hc8
                  refine Go.to (mkF m 27 #[.val (.long n), .second, .val (.int (8 : Int32))] [(.int (8 : Int32))]) (fun _ k => XS.iloadN X_31.here hx rfl (hb hby d1_26) rfl  k) ?_
                  refine Go.retI X_31 hx hret hlk (hb hby d1_27) (by decide) (by decide) ?_
                  show (Q1 Z n a kp h0 n0) _ T_31.heap _
                  rw [e_31]
                  exact ⟨(congrArg (fun z => some (Value.int z)) (own_cnt_8 b1 b2 b3 b4 b5 b6 b7 b8).symm), N0, rfl⟩
                · refine Go.to (mkF m 20 #[.val (.long n), .second, .val (.int (8 : Int32))] []) (fun _ k => XS.ifNo X_31.here hx rfl (hb hby d1_17) rfl ((if0 _ _).trans (flt hc8).1) k) ?_
                  have b8 : ¬ n < (100000000 : Int64) := fun q => hc8 ((lw_lt _ _).mpr q)
                  refine Go.to (mkF m 23 #[.val (.long n), .second, .val (.int (9 : Int32))] []) (fun _ k => XS.iinc X_31.here hx rfl (hb hby d1_20) rfl (l' := #[.val (.long n), .second, .val (.int (9 : Int32))]) rfl k) ?_
                  refine Go.to (mkF m 2 #[.val (.long n), .second, .val (.int (9 : Int32))] []) (fun _ k => XS.goto X_31.here hx rfl (pc0 := 23) (pc' := 2) rfl (hb hby d1_23) (by decide) (by decide) k) ?_
                  refine Go.to (mkF m 3 #[.val (.long n), .second, .val (.int (9 : Int32))] [(.int (9 : Int32))]) (fun _ k => XS.iloadN X_31.here hx rfl (hb hby d1_2) rfl  k) ?_
                  obtain ⟨T_33, X_33, e_33, st_33⟩ := getS2 X_31 hx hZ hown (host := "") (Or.inl (hw _ (List.mem_of_getElem? (i := 24) rfl))) Via.refl e_31 PS_com_example_parting_terms_partingterms_Digits_POWERS (g := (mkF m 3 #[.val (.long n), .second, .val (.int (9 : Int32))] [(.int (9 : Int32))])) rfl (hb hby d1_3)
                  refine Go.to (mkF m 6 #[.val (.long n), .second, .val (.int (9 : Int32))] [(.ref a), (.int (9 : Int32))]) st_33 ?_
                  obtain ⟨cl_34, Ar_34, -, Sz_34, Ng_34, -, -⟩ := id PA_a
                  refine Go.to (mkF m 7 #[.val (.long n), .second, .val (.int (9 : Int32))] [(.int (19 : Int32)), (.int (9 : Int32))]) (fun _ k => by
                    refine X_33.arraylength hx (by rw [e_33]; exact Ar_34.1) (State.isArrayOf_alike hZ.alike Ar_34.2.1) (g := (mkF m 6 #[.val (.long n), .second, .val (.int (9 : Int32))] [(.ref a), (.int (9 : Int32))])) rfl rfl (hb hby d1_6) _ ?_
                    rw [len_of Sz_34 Ng_34]
                    exact k) ?_
                  refine Go.to (mkF m 10 #[.val (.long n), .second, .val (.int (9 : Int32))] []) (fun _ k => XS.icmpNo X_33.here hx rfl (hb hby d1_7) rfl (tlt (by decide : (9 : Int32) < (19 : Int32))).2.1 k) ?_
                  refine Go.to (mkF m 11 #[.val (.long n), .second, .val (.int (9 : Int32))] [(.long n)]) (fun _ k => XS.lloadN X_33.here hx rfl (hb hby d1_10) rfl  k) ?_
                  obtain ⟨T_35, X_35, e_35, st_35⟩ := getS2 X_33 hx hZ hown (host := "") (Or.inl (hw _ (List.mem_of_getElem? (i := 24) rfl))) Via.refl e_33 PS_com_example_parting_terms_partingterms_Digits_POWERS (g := (mkF m 11 #[.val (.long n), .second, .val (.int (9 : Int32))] [(.long n)])) rfl (hb hby d1_11)
                  refine Go.to (mkF m 14 #[.val (.long n), .second, .val (.int (9 : Int32))] [(.ref a), (.long n)]) st_35 ?_
                  refine Go.to (mkF m 15 #[.val (.long n), .second, .val (.int (9 : Int32))] [(.int (9 : Int32)), (.ref a), (.long n)]) (fun _ k => XS.iloadN X_35.here hx rfl (hb hby d1_14) rfl  k) ?_
                  obtain ⟨cl_36, Ar_36, -, Sz_36, Ng_36, Hh_36, -⟩ := id PA_a
                  have hin_36 : ¬ ((9 : Int32) < 0 ∨ cl_36.slots.size ≤ ((9 : Int32)).toNatClampNeg) := inb_of Sz_36 ⟨by decide, by decide⟩
                  refine Go.to (mkF m 16 #[.val (.long n), .second, .val (.int (9 : Int32))] [(.long (1000000000 : Int64)), (.long n)]) (X_35.laload hx (j := (9 : Int32)) (v := (.long (1000000000 : Int64))) (by rw [e_35]; exact Ar_36.1) (State.isArrayOf_alike hZ.alike Ar_36.2.1) Ar_36.2.2 hin_36 (Hh_36.at hin_36 rfl) (g := (mkF m 15 #[.val (.long n), .second, .val (.int (9 : Int32))] [(.int (9 : Int32)), (.ref a), (.long n)])) rfl rfl (hb hby d1_15)) ?_
                  refine Go.to (mkF m 17 #[.val (.long n), .second, .val (.int (9 : Int32))] [(.int (lcmpW n (1000000000 : Int64)))]) (fun _ k => XS.lcmp X_35.here hx rfl (hb hby d1_16) rfl k) ?_
                  by_cases hc9 : (lcmpW n (1000000000 : Int64)) < (0 : Int32)
                  · refine Go.to (mkF m 26 #[.val (.long n), .second, .val (.int (9 : Int32))] []) (fun _ k => XS.ifYes X_35.here hx rfl (pc0 := 17) (pc' := 26) rfl (hb hby d1_17) rfl ((if0 _ _).trans (tlt hc9).1) (by decide) (by decide) k) ?_
                    have b9 : n < (1000000000 : Int64) := (lw_lt _ _).mp hc9
                    refine Go.to (mkF m 27 #[.val (.long n), .second, .val (.int (9 : Int32))] [(.int (9 : Int32))]) (fun _ k => XS.iloadN X_35.here hx rfl (hb hby d1_26) rfl  k) ?_
                    refine Go.retI X_35 hx hret hlk (hb hby d1_27) (by decide) (by decide) ?_
                    show (Q1 Z n a kp h0 n0) _ T_35.heap _
                    rw [e_35]
                    exact ⟨(congrArg (fun z => some (Value.int z)) (own_cnt_9 b1 b2 b3 b4 b5 b6 b7 b8 b9).symm), N0, rfl⟩
                  · refine Go.to (mkF m 20 #[.val (.long n), .second, .val (.int (9 : Int32))] []) (fun _ k => XS.ifNo X_35.here hx rfl (hb hby d1_17) rfl ((if0 _ _).trans (flt hc9).1) k) ?_
                    have b9 : ¬ n < (1000000000 : Int64) := fun q => hc9 ((lw_lt _ _).mpr q)
                    refine Go.to (mkF m 23 #[.val (.long n), .second, .val (.int (10 : Int32))] []) (fun _ k => XS.iinc X_35.here hx rfl (hb hby d1_20) rfl (l' := #[.val (.long n), .second, .val (.int (10 : Int32))]) rfl k) ?_
                    refine Go.to (mkF m 2 #[.val (.long n), .second, .val (.int (10 : Int32))] []) (fun _ k => XS.goto X_35.here hx rfl (pc0 := 23) (pc' := 2) rfl (hb hby d1_23) (by decide) (by decide) k) ?_
                    refine Go.to (mkF m 3 #[.val (.long n), .second, .val (.int (10 : Int32))] [(.int (10 : Int32))]) (fun _ k => XS.iloadN X_35.here hx rfl (hb hby d1_2) rfl  k) ?_
                    obtain ⟨T_37, X_37, e_37, st_37⟩ := getS2 X_35 hx hZ hown (host := "") (Or.inl (hw _ (List.mem_of_getElem? (i := 24) rfl))) Via.refl e_35 PS_com_example_parting_terms_partingterms_Digits_POWERS (g := (mkF m 3 #[.val (.long n), .second, .val (.int (10 : Int32))] [(.int (10 : Int32))])) rfl (hb hby d1_3)
                    refine Go.to (mkF m 6 #[.val (.long n), .second, .val (.int (10 : Int32))] [(.ref a), (.int (10 : Int32))]) st_37 ?_
                    obtain ⟨cl_38, Ar_38, -, Sz_38, Ng_38, -, -⟩ := id PA_a
                    refine Go.to (mkF m 7 #[.val (.long n), .second, .val (.int (10 : Int32))] [(.int (19 : Int32)), (.int (10 : Int32))]) (fun _ k => by
                      refine X_37.arraylength hx (by rw [e_37]; exact Ar_38.1) (State.isArrayOf_alike hZ.alike Ar_38.2.1) (g := (mkF m 6 #[.val (.long n), .second, .val (.int (10 : Int32))] [(.ref a), (.int (10 : Int32))])) rfl rfl (hb hby d1_6) _ ?_
                      rw [len_of Sz_38 Ng_38]
                      exact k) ?_
                    refine Go.to (mkF m 10 #[.val (.long n), .second, .val (.int (10 : Int32))] []) (fun _ k => XS.icmpNo X_37.here hx rfl (hb hby d1_7) rfl (tlt (by decide : (10 : Int32) < (19 : Int32))).2.1 k) ?_
                    refine Go.to (mkF m 11 #[.val (.long n), .second, .val (.int (10 : Int32))] [(.long n)]) (fun _ k => XS.lloadN X_37.here hx rfl (hb hby d1_10) rfl  k) ?_
                    obtain ⟨T_39, X_39, e_39, st_39⟩ := getS2 X_37 hx hZ hown (host := "") (Or.inl (hw _ (List.mem_of_getElem? (i := 24) rfl))) Via.refl e_37 PS_com_example_parting_terms_partingterms_Digits_POWERS (g := (mkF m 11 #[.val (.long n), .second, .val (.int (10 : Int32))] [(.long n)])) rfl (hb hby d1_11)
                    refine Go.to (mkF m 14 #[.val (.long n), .second, .val (.int (10 : Int32))] [(.ref a), (.long n)]) st_39 ?_
                    refine Go.to (mkF m 15 #[.val (.long n), .second, .val (.int (10 : Int32))] [(.int (10 : Int32)), (.ref a), (.long n)]) (fun _ k => XS.iloadN X_39.here hx rfl (hb hby d1_14) rfl  k) ?_
                    obtain ⟨cl_40, Ar_40, -, Sz_40, Ng_40, Hh_40, -⟩ := id PA_a
                    have hin_40 : ¬ ((10 : Int32) < 0 ∨ cl_40.slots.size ≤ ((10 : Int32)).toNatClampNeg) := inb_of Sz_40 ⟨by decide, by decide⟩
                    refine Go.to (mkF m 16 #[.val (.long n), .second, .val (.int (10 : Int32))] [(.long (10000000000 : Int64)), (.long n)]) (X_39.laload hx (j := (10 : Int32)) (v := (.long (10000000000 : Int64))) (by rw [e_39]; exact Ar_40.1) (State.isArrayOf_alike hZ.alike Ar_40.2.1) Ar_40.2.2 hin_40 (Hh_40.at hin_40 rfl) (g := (mkF m 15 #[.val (.long n), .second, .val (.int (10 : Int32))] [(.int (10 : Int32)), (.ref a), (.long n)])) rfl rfl (hb hby d1_15)) ?_
                    refine Go.to (mkF m 17 #[.val (.long n), .second, .val (.int (10 : Int32))] [(.int (lcmpW n (10000000000 : Int64)))]) (fun _ k => XS.lcmp X_39.here hx rfl (hb hby d1_16) rfl k) ?_
                    by_cases hc10 : (lcmpW n (10000000000 : Int64)) < (0 : Int32)
                    · refine Go.to (mkF m 26 #[.val (.long n), .second, .val (.int (10 : Int32))] []) (fun _ k => XS.ifYes X_39.here hx rfl (pc0 := 17) (pc' := 26) rfl (hb hby d1_17) rfl ((if0 _ _).trans (tlt hc10).1) (by decide) (by decide) k) ?_
                      have b10 : n < (10000000000 : Int64) := (lw_lt _ _).mp hc10
                      refine Go.to (mkF m 27 #[.val (.long n), .second, .val (.int (10 : Int32))] [(.int (10 : Int32))]) (fun _ k => XS.iloadN X_39.here hx rfl (hb hby d1_26) rfl  k) ?_
                      refine Go.retI X_39 hx hret hlk (hb hby d1_27) (by decide) (by decide) ?_
                      show (Q1 Z n a kp h0 n0) _ T_39.heap _
                      rw [e_39]
                      exact ⟨(congrArg (fun z => some (Value.int z)) (own_cnt_10 b1 b2 b3 b4 b5 b6 b7 b8 b9 b10).symm), N0, rfl⟩
                    · refine Go.to (mkF m 20 #[.val (.long n), .second, .val (.int (10 : Int32))] []) (fun _ k => XS.ifNo X_39.here hx rfl (hb hby d1_17) rfl ((if0 _ _).trans (flt hc10).1) k) ?_
                      have b10 : ¬ n < (10000000000 : Int64) := fun q => hc10 ((lw_lt _ _).mpr q)
                      refine Go.to (mkF m 23 #[.val (.long n), .second, .val (.int (11 : Int32))] []) (fun _ k => XS.iinc X_39.here hx rfl (hb hby d1_20) rfl (l' := #[.val (.long n), .second, .val (.int (11 : Int32))]) rfl k) ?_
                      refine Go.to (mkF m 2 #[.val (.long n), .second, .val (.int (11 : Int32))] []) (fun _ k => XS.goto X_39.here hx rfl (pc0 := 23) (pc' := 2) rfl (hb hby d1_23) (by decide) (by decide) k) ?_
                      refine Go.to (mkF m 3 #[.val (.long n), .second, .val (.int (11 : Int32))] [(.int (11 : Int32))]) (fun _ k => XS.iloadN X_39.here hx rfl (hb hby d1_2) rfl  k) ?_
                      obtain ⟨T_41, X_41, e_41, st_41⟩ := getS2 X_39 hx hZ hown (host := "") (Or.inl (hw _ (List.mem_of_getElem? (i := 24) rfl))) Via.refl e_39 PS_com_example_parting_terms_partingterms_Digits_POWERS (g := (mkF m 3 #[.val (.long n), .second, .val (.int (11 : Int32))] [(.int (11 : Int32))])) rfl (hb hby d1_3)
                      refine Go.to (mkF m 6 #[.val (.long n), .second, .val (.int (11 : Int32))] [(.ref a), (.int (11 : Int32))]) st_41 ?_
                      obtain ⟨cl_42, Ar_42, -, Sz_42, Ng_42, -, -⟩ := id PA_a
                      refine Go.to (mkF m 7 #[.val (.long n), .second, .val (.int (11 : Int32))] [(.int (19 : Int32)), (.int (11 : Int32))]) (fun _ k => by
                        refine X_41.arraylength hx (by rw [e_41]; exact Ar_42.1) (State.isArrayOf_alike hZ.alike Ar_42.2.1) (g := (mkF m 6 #[.val (.long n), .second, .val (.int (11 : Int32))] [(.ref a), (.int (11 : Int32))])) rfl rfl (hb hby d1_6) _ ?_
                        rw [len_of Sz_42 Ng_42]
                        exact k) ?_
                      refine Go.to (mkF m 10 #[.val (.long n), .second, .val (.int (11 : Int32))] []) (fun _ k => XS.icmpNo X_41.here hx rfl (hb hby d1_7) rfl (tlt (by decide : (11 : Int32) < (19 : Int32))).2.1 k) ?_
                      refine Go.to (mkF m 11 #[.val (.long n), .second, .val (.int (11 : Int32))] [(.long n)]) (fun _ k => XS.lloadN X_41.here hx rfl (hb hby d1_10) rfl  k) ?_
                      obtain ⟨T_43, X_43, e_43, st_43⟩ := getS2 X_41 hx hZ hown (host := "") (Or.inl (hw _ (List.mem_of_getElem? (i := 24) rfl))) Via.refl e_41 PS_com_example_parting_terms_partingterms_Digits_POWERS (g := (mkF m 11 #[.val (.long n), .second, .val (.int (11 : Int32))] [(.long n)])) rfl (hb hby d1_11)
                      refine Go.to (mkF m 14 #[.val (.long n), .second, .val (.int (11 : Int32))] [(.ref a), (.long n)]) st_43 ?_
                      refine Go.to (mkF m 15 #[.val (.long n), .second, .val (.int (11 : Int32))] [(.int (11 : Int32)), (.ref a), (.long n)]) (fun _ k => XS.iloadN X_43.here hx rfl (hb hby d1_14) rfl  k) ?_
                      obtain ⟨cl_44, Ar_44, -, Sz_44, Ng_44, Hh_44, -⟩ := id PA_a
                      have hin_44 : ¬ ((11 : Int32) < 0 ∨ cl_44.slots.size ≤ ((11 : Int32)).toNatClampNeg) := inb_of Sz_44 ⟨by decide, by decide⟩
                      refine Go.to (mkF m 16 #[.val (.long n), .second, .val (.int (11 : Int32))] [(.long (100000000000 : Int64)), (.long n)]) (X_43.laload hx (j := (11 : Int32)) (v := (.long (100000000000 : Int64))) (by rw [e_43]; exact Ar_44.1) (State.isArrayOf_alike hZ.alike Ar_44.2.1) Ar_44.2.2 hin_44 (Hh_44.at hin_44 rfl) (g := (mkF m 15 #[.val (.long n), .second, .val (.int (11 : Int32))] [(.int (11 : Int32)), (.ref a), (.long n)])) rfl rfl (hb hby d1_15)) ?_
                      refine Go.to (mkF m 17 #[.val (.long n), .second, .val (.int (11 : Int32))] [(.int (lcmpW n (100000000000 : Int64)))]) (fun _ k => XS.lcmp X_43.here hx rfl (hb hby d1_16) rfl k) ?_
                      by_cases hc11 : (lcmpW n (100000000000 : Int64)) < (0 : Int32)
                      · refine Go.to (mkF m 26 #[.val (.long n), .second, .val (.int (11 : Int32))] []) (fun _ k => XS.ifYes X_43.here hx rfl (pc0 := 17) (pc' := 26) rfl (hb hby d1_17) rfl ((if0 _ _).trans (tlt hc11).1) (by decide) (by decide) k) ?_
                        have b11 : n < (100000000000 : Int64) := (lw_lt _ _).mp hc11
                        refine Go.to (mkF m 27 #[.val (.long n), .second, .val (.int (11 : Int32))] [(.int (11 : Int32))]) (fun _ k => XS.iloadN X_43.here hx rfl (hb hby d1_26) rfl  k) ?_
                        refine Go.retI X_43 hx hret hlk (hb hby d1_27) (by decide) (by decide) ?_
                        show (Q1 Z n a kp h0 n0) _ T_43.heap _
                        rw [e_43]
                        exact ⟨(congrArg (fun z => some (Value.int z)) (own_cnt_11 b1 b2 b3 b4 b5 b6 b7 b8 b9 b10 b11).symm), N0, rfl⟩
                      · refine Go.to (mkF m 20 #[.val (.long n), .second, .val (.int (11 : Int32))] []) (fun _ k => XS.ifNo X_43.here hx rfl (hb hby d1_17) rfl ((if0 _ _).trans (flt hc11).1) k) ?_
                        have b11 : ¬ n < (100000000000 : Int64) := fun q => hc11 ((lw_lt _ _).mpr q)
                        refine Go.to (mkF m 23 #[.val (.long n), .second, .val (.int (12 : Int32))] []) (fun _ k => XS.iinc X_43.here hx rfl (hb hby d1_20) rfl (l' := #[.val (.long n), .second, .val (.int (12 : Int32))]) rfl k) ?_
                        refine Go.to (mkF m 2 #[.val (.long n), .second, .val (.int (12 : Int32))] []) (fun _ k => XS.goto X_43.here hx rfl (pc0 := 23) (pc' := 2) rfl (hb hby d1_23) (by decide) (by decide) k) ?_
                        refine Go.to (mkF m 3 #[.val (.long n), .second, .val (.int (12 : Int32))] [(.int (12 : Int32))]) (fun _ k => XS.iloadN X_43.here hx rfl (hb hby d1_2) rfl  k) ?_
                        obtain ⟨T_45, X_45, e_45, st_45⟩ := getS2 X_43 hx hZ hown (host := "") (Or.inl (hw _ (List.mem_of_getElem? (i := 24) rfl))) Via.refl e_43 PS_com_example_parting_terms_partingterms_Digits_POWERS (g := (mkF m 3 #[.val (.long n), .second, .val (.int (12 : Int32))] [(.int (12 : Int32))])) rfl (hb hby d1_3)
                        refine Go.to (mkF m 6 #[.val (.long n), .second, .val (.int (12 : Int32))] [(.ref a), (.int (12 : Int32))]) st_45 ?_
                        obtain ⟨cl_46, Ar_46, -, Sz_46, Ng_46, -, -⟩ := id PA_a
                        refine Go.to (mkF m 7 #[.val (.long n), .second, .val (.int (12 : Int32))] [(.int (19 : Int32)), (.int (12 : Int32))]) (fun _ k => by
                          refine X_45.arraylength hx (by rw [e_45]; exact Ar_46.1) (State.isArrayOf_alike hZ.alike Ar_46.2.1) (g := (mkF m 6 #[.val (.long n), .second, .val (.int (12 : Int32))] [(.ref a), (.int (12 : Int32))])) rfl rfl (hb hby d1_6) _ ?_
                          rw [len_of Sz_46 Ng_46]
                          exact k) ?_
                        refine Go.to (mkF m 10 #[.val (.long n), .second, .val (.int (12 : Int32))] []) (fun _ k => XS.icmpNo X_45.here hx rfl (hb hby d1_7) rfl (tlt (by decide : (12 : Int32) < (19 : Int32))).2.1 k) ?_
                        refine Go.to (mkF m 11 #[.val (.long n), .second, .val (.int (12 : Int32))] [(.long n)]) (fun _ k => XS.lloadN X_45.here hx rfl (hb hby d1_10) rfl  k) ?_
                        obtain ⟨T_47, X_47, e_47, st_47⟩ := getS2 X_45 hx hZ hown (host := "") (Or.inl (hw _ (List.mem_of_getElem? (i := 24) rfl))) Via.refl e_45 PS_com_example_parting_terms_partingterms_Digits_POWERS (g := (mkF m 11 #[.val (.long n), .second, .val (.int (12 : Int32))] [(.long n)])) rfl (hb hby d1_11)
                        refine Go.to (mkF m 14 #[.val (.long n), .second, .val (.int (12 : Int32))] [(.ref a), (.long n)]) st_47 ?_
                        refine Go.to (mkF m 15 #[.val (.long n), .second, .val (.int (12 : Int32))] [(.int (12 : Int32)), (.ref a), (.long n)]) (fun _ k => XS.iloadN X_47.here hx rfl (hb hby d1_14) rfl  k) ?_
                        obtain ⟨cl_48, Ar_48, -, Sz_48, Ng_48, Hh_48, -⟩ := id PA_a
                        have hin_48 : ¬ ((12 : Int32) < 0 ∨ cl_48.slots.size ≤ ((12 : Int32)).toNatClampNeg) := inb_of Sz_48 ⟨by decide, by decide⟩
                        refine Go.to (mkF m 16 #[.val (.long n), .second, .val (.int (12 : Int32))] [(.long (1000000000000 : Int64)), (.long n)]) (X_47.laload hx (j := (12 : Int32)) (v := (.long (1000000000000 : Int64))) (by rw [e_47]; exact Ar_48.1) (State.isArrayOf_alike hZ.alike Ar_48.2.1) Ar_48.2.2 hin_48 (Hh_48.at hin_48 rfl) (g := (mkF m 15 #[.val (.long n), .second, .val (.int (12 : Int32))] [(.int (12 : Int32)), (.ref a), (.long n)])) rfl rfl (hb hby d1_15)) ?_
                        refine Go.to (mkF m 17 #[.val (.long n), .second, .val (.int (12 : Int32))] [(.int (lcmpW n (1000000000000 : Int64)))]) (fun _ k => XS.lcmp X_47.here hx rfl (hb hby d1_16) rfl k) ?_
                        by_cases hc12 : (lcmpW n (1000000000000 : Int64)) < (0 : Int32)
                        · refine Go.to (mkF m 26 #[.val (.long n), .second, .val (.int (12 : Int32))] []) (fun _ k => XS.ifYes X_47.here hx rfl (pc0 := 17) (pc' := 26) rfl (hb hby d1_17) rfl ((if0 _ _).trans (tlt hc12).1) (by decide) (by decide) k) ?_
                          have b12 : n < (1000000000000 : Int64) := (lw_lt _ _).mp hc12
                          refine Go.to (mkF m 27 #[.val (.long n), .second, .val (.int (12 : Int32))] [(.int (12 : Int32))]) (fun _ k => XS.iloadN X_47.here hx rfl (hb hby d1_26) rfl  k) ?_
                          refine Go.retI X_47 hx hret hlk (hb hby d1_27) (by decide) (by decide) ?_
                          show (Q1 Z n a kp h0 n0) _ T_47.heap _
                          rw [e_47]
                          exact ⟨(congrArg (fun z => some (Value.int z)) (own_cnt_12 b1 b2 b3 b4 b5 b6 b7 b8 b9 b10 b11 b12).symm), N0, rfl⟩
                        · refine Go.to (mkF m 20 #[.val (.long n), .second, .val (.int (12 : Int32))] []) (fun _ k => XS.ifNo X_47.here hx rfl (hb hby d1_17) rfl ((if0 _ _).trans (flt hc12).1) k) ?_
                          have b12 : ¬ n < (1000000000000 : Int64) := fun q => hc12 ((lw_lt _ _).mpr q)
                          refine Go.to (mkF m 23 #[.val (.long n), .second, .val (.int (13 : Int32))] []) (fun _ k => XS.iinc X_47.here hx rfl (hb hby d1_20) rfl (l' := #[.val (.long n), .second, .val (.int (13 : Int32))]) rfl k) ?_
                          refine Go.to (mkF m 2 #[.val (.long n), .second, .val (.int (13 : Int32))] []) (fun _ k => XS.goto X_47.here hx rfl (pc0 := 23) (pc' := 2) rfl (hb hby d1_23) (by decide) (by decide) k) ?_
                          refine Go.to (mkF m 3 #[.val (.long n), .second, .val (.int (13 : Int32))] [(.int (13 : Int32))]) (fun _ k => XS.iloadN X_47.here hx rfl (hb hby d1_2) rfl  k) ?_
                          obtain ⟨T_49, X_49, e_49, st_49⟩ := getS2 X_47 hx hZ hown (host := "") (Or.inl (hw _ (List.mem_of_getElem? (i := 24) rfl))) Via.refl e_47 PS_com_example_parting_terms_partingterms_Digits_POWERS (g := (mkF m 3 #[.val (.long n), .second, .val (.int (13 : Int32))] [(.int (13 : Int32))])) rfl (hb hby d1_3)
                          refine Go.to (mkF m 6 #[.val (.long n), .second, .val (.int (13 : Int32))] [(.ref a), (.int (13 : Int32))]) st_49 ?_
                          obtain ⟨cl_50, Ar_50, -, Sz_50, Ng_50, -, -⟩ := id PA_a
                          refine Go.to (mkF m 7 #[.val (.long n), .second, .val (.int (13 : Int32))] [(.int (19 : Int32)), (.int (13 : Int32))]) (fun _ k => by
                            refine X_49.arraylength hx (by rw [e_49]; exact Ar_50.1) (State.isArrayOf_alike hZ.alike Ar_50.2.1) (g := (mkF m 6 #[.val (.long n), .second, .val (.int (13 : Int32))] [(.ref a), (.int (13 : Int32))])) rfl rfl (hb hby d1_6) _ ?_
                            rw [len_of Sz_50 Ng_50]
                            exact k) ?_
                          refine Go.to (mkF m 10 #[.val (.long n), .second, .val (.int (13 : Int32))] []) (fun _ k => XS.icmpNo X_49.here hx rfl (hb hby d1_7) rfl (tlt (by decide : (13 : Int32) < (19 : Int32))).2.1 k) ?_
                          refine Go.to (mkF m 11 #[.val (.long n), .second, .val (.int (13 : Int32))] [(.long n)]) (fun _ k => XS.lloadN X_49.here hx rfl (hb hby d1_10) rfl  k) ?_
                          obtain ⟨T_51, X_51, e_51, st_51⟩ := getS2 X_49 hx hZ hown (host := "") (Or.inl (hw _ (List.mem_of_getElem? (i := 24) rfl))) Via.refl e_49 PS_com_example_parting_terms_partingterms_Digits_POWERS (g := (mkF m 11 #[.val (.long n), .second, .val (.int (13 : Int32))] [(.long n)])) rfl (hb hby d1_11)
                          refine Go.to (mkF m 14 #[.val (.long n), .second, .val (.int (13 : Int32))] [(.ref a), (.long n)]) st_51 ?_
                          refine Go.to (mkF m 15 #[.val (.long n), .second, .val (.int (13 : Int32))] [(.int (13 : Int32)), (.ref a), (.long n)]) (fun _ k => XS.iloadN X_51.here hx rfl (hb hby d1_14) rfl  k) ?_
                          obtain ⟨cl_52, Ar_52, -, Sz_52, Ng_52, Hh_52, -⟩ := id PA_a
                          have hin_52 : ¬ ((13 : Int32) < 0 ∨ cl_52.slots.size ≤ ((13 : Int32)).toNatClampNeg) := inb_of Sz_52 ⟨by decide, by decide⟩
                          refine Go.to (mkF m 16 #[.val (.long n), .second, .val (.int (13 : Int32))] [(.long (10000000000000 : Int64)), (.long n)]) (X_51.laload hx (j := (13 : Int32)) (v := (.long (10000000000000 : Int64))) (by rw [e_51]; exact Ar_52.1) (State.isArrayOf_alike hZ.alike Ar_52.2.1) Ar_52.2.2 hin_52 (Hh_52.at hin_52 rfl) (g := (mkF m 15 #[.val (.long n), .second, .val (.int (13 : Int32))] [(.int (13 : Int32)), (.ref a), (.long n)])) rfl rfl (hb hby d1_15)) ?_
                          refine Go.to (mkF m 17 #[.val (.long n), .second, .val (.int (13 : Int32))] [(.int (lcmpW n (10000000000000 : Int64)))]) (fun _ k => XS.lcmp X_51.here hx rfl (hb hby d1_16) rfl k) ?_
                          by_cases hc13 : (lcmpW n (10000000000000 : Int64)) < (0 : Int32)
                          · refine Go.to (mkF m 26 #[.val (.long n), .second, .val (.int (13 : Int32))] []) (fun _ k => XS.ifYes X_51.here hx rfl (pc0 := 17) (pc' := 26) rfl (hb hby d1_17) rfl ((if0 _ _).trans (tlt hc13).1) (by decide) (by decide) k) ?_
                            have b13 : n < (10000000000000 : Int64) := (lw_lt _ _).mp hc13
                            refine Go.to (mkF m 27 #[.val (.long n), .second, .val (.int (13 : Int32))] [(.int (13 : Int32))]) (fun _ k => XS.iloadN X_51.here hx rfl (hb hby d1_26) rfl  k) ?_
                            refine Go.retI X_51 hx hret hlk (hb hby d1_27) (by decide) (by decide) ?_
                            show (Q1 Z n a kp h0 n0) _ T_51.heap _
                            rw [e_51]
                            exact ⟨(congrArg (fun z => some (Value.int z)) (own_cnt_13 b1 b2 b3 b4 b5 b6 b7 b8 b9 b10 b11 b12 b13).symm), N0, rfl⟩
                          · refine Go.to (mkF m 20 #[.val (.long n), .second, .val (.int (13 : Int32))] []) (fun _ k => XS.ifNo X_51.here hx rfl (hb hby d1_17) rfl ((if0 _ _).trans (flt hc13).1) k) ?_
                            have b13 : ¬ n < (10000000000000 : Int64) := fun q => hc13 ((lw_lt _ _).mpr q)
                            refine Go.to (mkF m 23 #[.val (.long n), .second, .val (.int (14 : Int32))] []) (fun _ k => XS.iinc X_51.here hx rfl (hb hby d1_20) rfl (l' := #[.val (.long n), .second, .val (.int (14 : Int32))]) rfl k) ?_
                            refine Go.to (mkF m 2 #[.val (.long n), .second, .val (.int (14 : Int32))] []) (fun _ k => XS.goto X_51.here hx rfl (pc0 := 23) (pc' := 2) rfl (hb hby d1_23) (by decide) (by decide) k) ?_
                            refine Go.to (mkF m 3 #[.val (.long n), .second, .val (.int (14 : Int32))] [(.int (14 : Int32))]) (fun _ k => XS.iloadN X_51.here hx rfl (hb hby d1_2) rfl  k) ?_
                            obtain ⟨T_53, X_53, e_53, st_53⟩ := getS2 X_51 hx hZ hown (host := "") (Or.inl (hw _ (List.mem_of_getElem? (i := 24) rfl))) Via.refl e_51 PS_com_example_parting_terms_partingterms_Digits_POWERS (g := (mkF m 3 #[.val (.long n), .second, .val (.int (14 : Int32))] [(.int (14 : Int32))])) rfl (hb hby d1_3)
                            refine Go.to (mkF m 6 #[.val (.long n), .second, .val (.int (14 : Int32))] [(.ref a), (.int (14 : Int32))]) st_53 ?_
                            obtain ⟨cl_54, Ar_54, -, Sz_54, Ng_54, -, -⟩ := id PA_a
                            refine Go.to (mkF m 7 #[.val (.long n), .second, .val (.int (14 : Int32))] [(.int (19 : Int32)), (.int (14 : Int32))]) (fun _ k => by
                              refine X_53.arraylength hx (by rw [e_53]; exact Ar_54.1) (State.isArrayOf_alike hZ.alike Ar_54.2.1) (g := (mkF m 6 #[.val (.long n), .second, .val (.int (14 : Int32))] [(.ref a), (.int (14 : Int32))])) rfl rfl (hb hby d1_6) _ ?_
                              rw [len_of Sz_54 Ng_54]
                              exact k) ?_
                            refine Go.to (mkF m 10 #[.val (.long n), .second, .val (.int (14 : Int32))] []) (fun _ k => XS.icmpNo X_53.here hx rfl (hb hby d1_7) rfl (tlt (by decide : (14 : Int32) < (19 : Int32))).2.1 k) ?_
                            refine Go.to (mkF m 11 #[.val (.long n), .second, .val (.int (14 : Int32))] [(.long n)]) (fun _ k => XS.lloadN X_53.here hx rfl (hb hby d1_10) rfl  k) ?_
                            obtain ⟨T_55, X_55, e_55, st_55⟩ := getS2 X_53 hx hZ hown (host := "") (Or.inl (hw _ (List.mem_of_getElem? (i := 24) rfl))) Via.refl e_53 PS_com_example_parting_terms_partingterms_Digits_POWERS (g := (mkF m 11 #[.val (.long n), .second, .val (.int (14 : Int32))] [(.long n)])) rfl (hb hby d1_11)
                            refine Go.to (mkF m 14 #[.val (.long n), .second, .val (.int (14 : Int32))] [(.ref a), (.long n)]) st_55 ?_
                            refine Go.to (mkF m 15 #[.val (.long n), .second, .val (.int (14 : Int32))] [(.int (14 : Int32)), (.ref a), (.long n)]) (fun _ k => XS.iloadN X_55.here hx rfl (hb hby d1_14) rfl  k) ?_
                            obtain ⟨cl_56, Ar_56, -, Sz_56, Ng_56, Hh_56, -⟩ := id PA_a
                            have hin_56 : ¬ ((14 : Int32) < 0 ∨ cl_56.slots.size ≤ ((14 : Int32)).toNatClampNeg) := inb_of Sz_56 ⟨by decide, by decide⟩
                            refine Go.to (mkF m 16 #[.val (.long n), .second, .val (.int (14 : Int32))] [(.long (100000000000000 : Int64)), (.long n)]) (X_55.laload hx (j := (14 : Int32)) (v := (.long (100000000000000 : Int64))) (by rw [e_55]; exact Ar_56.1) (State.isArrayOf_alike hZ.alike Ar_56.2.1) Ar_56.2.2 hin_56 (Hh_56.at hin_56 rfl) (g := (mkF m 15 #[.val (.long n), .second, .val (.int (14 : Int32))] [(.int (14 : Int32)), (.ref a), (.long n)])) rfl rfl (hb hby d1_15)) ?_
                            refine Go.to (mkF m 17 #[.val (.long n), .second, .val (.int (14 : Int32))] [(.int (lcmpW n (100000000000000 : Int64)))]) (fun _ k => XS.lcmp X_55.here hx rfl (hb hby d1_16) rfl k) ?_
                            by_cases hc14 : (lcmpW n (100000000000000 : Int64)) < (0 : Int32)
                            · refine Go.to (mkF m 26 #[.val (.long n), .second, .val (.int (14 : Int32))] []) (fun _ k => XS.ifYes X_55.here hx rfl (pc0 := 17) (pc' := 26) rfl (hb hby d1_17) rfl ((if0 _ _).trans (tlt hc14).1) (by decide) (by decide) k) ?_
                              have b14 : n < (100000000000000 : Int64) := (lw_lt _ _).mp hc14
                              refine Go.to (mkF m 27 #[.val (.long n), .second, .val (.int (14 : Int32))] [(.int (14 : Int32))]) (fun _ k => XS.iloadN X_55.here hx rfl (hb hby d1_26) rfl  k) ?_
                              refine Go.retI X_55 hx hret hlk (hb hby d1_27) (by decide) (by decide) ?_
                              show (Q1 Z n a kp h0 n0) _ T_55.heap _
                              rw [e_55]
                              exact ⟨(congrArg (fun z => some (Value.int z)) (own_cnt_14 b1 b2 b3 b4 b5 b6 b7 b8 b9 b10 b11 b12 b13 b14).symm), N0, rfl⟩
                            · refine Go.to (mkF m 20 #[.val (.long n), .second, .val (.int (14 : Int32))] []) (fun _ k => XS.ifNo X_55.here hx rfl (hb hby d1_17) rfl ((if0 _ _).trans (flt hc14).1) k) ?_
                              have b14 : ¬ n < (100000000000000 : Int64) := fun q => hc14 ((lw_lt _ _).mpr q)
                              refine Go.to (mkF m 23 #[.val (.long n), .second, .val (.int (15 : Int32))] []) (fun _ k => XS.iinc X_55.here hx rfl (hb hby d1_20) rfl (l' := #[.val (.long n), .second, .val (.int (15 : Int32))]) rfl k) ?_
                              refine Go.to (mkF m 2 #[.val (.long n), .second, .val (.int (15 : Int32))] []) (fun _ k => XS.goto X_55.here hx rfl (pc0 := 23) (pc' := 2) rfl (hb hby d1_23) (by decide) (by decide) k) ?_
                              refine Go.to (mkF m 3 #[.val (.long n), .second, .val (.int (15 : Int32))] [(.int (15 : Int32))]) (fun _ k => XS.iloadN X_55.here hx rfl (hb hby d1_2) rfl  k) ?_
                              obtain ⟨T_57, X_57, e_57, st_57⟩ := getS2 X_55 hx hZ hown (host := "") (Or.inl (hw _ (List.mem_of_getElem? (i := 24) rfl))) Via.refl e_55 PS_com_example_parting_terms_partingterms_Digits_POWERS (g := (mkF m 3 #[.val (.long n), .second, .val (.int (15 : Int32))] [(.int (15 : Int32))])) rfl (hb hby d1_3)
                              refine Go.to (mkF m 6 #[.val (.long n), .second, .val (.int (15 : Int32))] [(.ref a), (.int (15 : Int32))]) st_57 ?_
                              obtain ⟨cl_58, Ar_58, -, Sz_58, Ng_58, -, -⟩ := id PA_a
                              refine Go.to (mkF m 7 #[.val (.long n), .second, .val (.int (15 : Int32))] [(.int (19 : Int32)), (.int (15 : Int32))]) (fun _ k => by
                                refine X_57.arraylength hx (by rw [e_57]; exact Ar_58.1) (State.isArrayOf_alike hZ.alike Ar_58.2.1) (g := (mkF m 6 #[.val (.long n), .second, .val (.int (15 : Int32))] [(.ref a), (.int (15 : Int32))])) rfl rfl (hb hby d1_6) _ ?_
                                rw [len_of Sz_58 Ng_58]
                                exact k) ?_
                              refine Go.to (mkF m 10 #[.val (.long n), .second, .val (.int (15 : Int32))] []) (fun _ k => XS.icmpNo X_57.here hx rfl (hb hby d1_7) rfl (tlt (by decide : (15 : Int32) < (19 : Int32))).2.1 k) ?_
                              refine Go.to (mkF m 11 #[.val (.long n), .second, .val (.int (15 : Int32))] [(.long n)]) (fun _ k => XS.lloadN X_57.here hx rfl (hb hby d1_10) rfl  k) ?_
                              obtain ⟨T_59, X_59, e_59, st_59⟩ := getS2 X_57 hx hZ hown (host := "") (Or.inl (hw _ (List.mem_of_getElem? (i := 24) rfl))) Via.refl e_57 PS_com_example_parting_terms_partingterms_Digits_POWERS (g := (mkF m 11 #[.val (.long n), .second, .val (.int (15 : Int32))] [(.long n)])) rfl (hb hby d1_11)
                              refine Go.to (mkF m 14 #[.val (.long n), .second, .val (.int (15 : Int32))] [(.ref a), (.long n)]) st_59 ?_
                              refine Go.to (mkF m 15 #[.val (.long n), .second, .val (.int (15 : Int32))] [(.int (15 : Int32)), (.ref a), (.long n)]) (fun _ k => XS.iloadN X_59.here hx rfl (hb hby d1_14) rfl  k) ?_
                              obtain ⟨cl_60, Ar_60, -, Sz_60, Ng_60, Hh_60, -⟩ := id PA_a
                              have hin_60 : ¬ ((15 : Int32) < 0 ∨ cl_60.slots.size ≤ ((15 : Int32)).toNatClampNeg) := inb_of Sz_60 ⟨by decide, by decide⟩
                              refine Go.to (mkF m 16 #[.val (.long n), .second, .val (.int (15 : Int32))] [(.long (1000000000000000 : Int64)), (.long n)]) (X_59.laload hx (j := (15 : Int32)) (v := (.long (1000000000000000 : Int64))) (by rw [e_59]; exact Ar_60.1) (State.isArrayOf_alike hZ.alike Ar_60.2.1) Ar_60.2.2 hin_60 (Hh_60.at hin_60 rfl) (g := (mkF m 15 #[.val (.long n), .second, .val (.int (15 : Int32))] [(.int (15 : Int32)), (.ref a), (.long n)])) rfl rfl (hb hby d1_15)) ?_
                              refine Go.to (mkF m 17 #[.val (.long n), .second, .val (.int (15 : Int32))] [(.int (lcmpW n (1000000000000000 : Int64)))]) (fun _ k => XS.lcmp X_59.here hx rfl (hb hby d1_16) rfl k) ?_
                              by_cases hc15 : (lcmpW n (1000000000000000 : Int64)) < (0 : Int32)
                              · refine Go.to (mkF m 26 #[.val (.long n), .second, .val (.int (15 : Int32))] []) (fun _ k => XS.ifYes X_59.here hx rfl (pc0 := 17) (pc' := 26) rfl (hb hby d1_17) rfl ((if0 _ _).trans (tlt hc15).1) (by decide) (by decide) k) ?_
                                have b15 : n < (1000000000000000 : Int64) := (lw_lt _ _).mp hc15
                                refine Go.to (mkF m 27 #[.val (.long n), .second, .val (.int (15 : Int32))] [(.int (15 : Int32))]) (fun _ k => XS.iloadN X_59.here hx rfl (hb hby d1_26) rfl  k) ?_
                                refine Go.retI X_59 hx hret hlk (hb hby d1_27) (by decide) (by decide) ?_
                                show (Q1 Z n a kp h0 n0) _ T_59.heap _
                                rw [e_59]
                                exact ⟨(congrArg (fun z => some (Value.int z)) (own_cnt_15 b1 b2 b3 b4 b5 b6 b7 b8 b9 b10 b11 b12 b13 b14 b15).symm), N0, rfl⟩
                              · refine Go.to (mkF m 20 #[.val (.long n), .second, .val (.int (15 : Int32))] []) (fun _ k => XS.ifNo X_59.here hx rfl (hb hby d1_17) rfl ((if0 _ _).trans (flt hc15).1) k) ?_
                                have b15 : ¬ n < (1000000000000000 : Int64) := fun q => hc15 ((lw_lt _ _).mpr q)
                                refine Go.to (mkF m 23 #[.val (.long n), .second, .val (.int (16 : Int32))] []) (fun _ k => XS.iinc X_59.here hx rfl (hb hby d1_20) rfl (l' := #[.val (.long n), .second, .val (.int (16 : Int32))]) rfl k) ?_
                                refine Go.to (mkF m 2 #[.val (.long n), .second, .val (.int (16 : Int32))] []) (fun _ k => XS.goto X_59.here hx rfl (pc0 := 23) (pc' := 2) rfl (hb hby d1_23) (by decide) (by decide) k) ?_
                                refine Go.to (mkF m 3 #[.val (.long n), .second, .val (.int (16 : Int32))] [(.int (16 : Int32))]) (fun _ k => XS.iloadN X_59.here hx rfl (hb hby d1_2) rfl  k) ?_
                                obtain ⟨T_61, X_61, e_61, st_61⟩ := getS2 X_59 hx hZ hown (host := "") (Or.inl (hw _ (List.mem_of_getElem? (i := 24) rfl))) Via.refl e_59 PS_com_example_parting_terms_partingterms_Digits_POWERS (g := (mkF m 3 #[.val (.long n), .second, .val (.int (16 : Int32))] [(.int (16 : Int32))])) rfl (hb hby d1_3)
                                refine Go.to (mkF m 6 #[.val (.long n), .second, .val (.int (16 : Int32))] [(.ref a), (.int (16 : Int32))]) st_61 ?_
                                obtain ⟨cl_62, Ar_62, -, Sz_62, Ng_62, -, -⟩ := id PA_a
                                refine Go.to (mkF m 7 #[.val (.long n), .second, .val (.int (16 : Int32))] [(.int (19 : Int32)), (.int (16 : Int32))]) (fun _ k => by
                                  refine X_61.arraylength hx (by rw [e_61]; exact Ar_62.1) (State.isArrayOf_alike hZ.alike Ar_62.2.1) (g := (mkF m 6 #[.val (.long n), .second, .val (.int (16 : Int32))] [(.ref a), (.int (16 : Int32))])) rfl rfl (hb hby d1_6) _ ?_
                                  rw [len_of Sz_62 Ng_62]
                                  exact k) ?_
                                refine Go.to (mkF m 10 #[.val (.long n), .second, .val (.int (16 : Int32))] []) (fun _ k => XS.icmpNo X_61.here hx rfl (hb hby d1_7) rfl (tlt (by decide : (16 : Int32) < (19 : Int32))).2.1 k) ?_
                                refine Go.to (mkF m 11 #[.val (.long n), .second, .val (.int (16 : Int32))] [(.long n)]) (fun _ k => XS.lloadN X_61.here hx rfl (hb hby d1_10) rfl  k) ?_
                                obtain ⟨T_63, X_63, e_63, st_63⟩ := getS2 X_61 hx hZ hown (host := "") (Or.inl (hw _ (List.mem_of_getElem? (i := 24) rfl))) Via.refl e_61 PS_com_example_parting_terms_partingterms_Digits_POWERS (g := (mkF m 11 #[.val (.long n), .second, .val (.int (16 : Int32))] [(.long n)])) rfl (hb hby d1_11)
                                refine Go.to (mkF m 14 #[.val (.long n), .second, .val (.int (16 : Int32))] [(.ref a), (.long n)]) st_63 ?_
                                refine Go.to (mkF m 15 #[.val (.long n), .second, .val (.int (16 : Int32))] [(.int (16 : Int32)), (.ref a), (.long n)]) (fun _ k => XS.iloadN X_63.here hx rfl (hb hby d1_14) rfl  k) ?_
                                obtain ⟨cl_64, Ar_64, -, Sz_64, Ng_64, Hh_64, -⟩ := id PA_a
                                have hin_64 : ¬ ((16 : Int32) < 0 ∨ cl_64.slots.size ≤ ((16 : Int32)).toNatClampNeg) := inb_of Sz_64 ⟨by decide, by decide⟩
                                refine Go.to (mkF m 16 #[.val (.long n), .second, .val (.int (16 : Int32))] [(.long (10000000000000000 : Int64)), (.long n)]) (X_63.laload hx (j := (16 : Int32)) (v := (.long (10000000000000000 : Int64))) (by rw [e_63]; exact Ar_64.1) (State.isArrayOf_alike hZ.alike Ar_64.2.1) Ar_64.2.2 hin_64 (Hh_64.at hin_64 rfl) (g := (mkF m 15 #[.val (.long n), .second, .val (.int (16 : Int32))] [(.int (16 : Int32)), (.ref a), (.long n)])) rfl rfl (hb hby d1_15)) ?_
                                refine Go.to (mkF m 17 #[.val (.long n), .second, .val (.int (16 : Int32))] [(.int (lcmpW n (10000000000000000 : Int64)))]) (fun _ k => XS.lcmp X_63.here hx rfl (hb hby d1_16) rfl k) ?_
                                by_cases hc16 : (lcmpW n (10000000000000000 : Int64)) < (0 : Int32)
                                · refine Go.to (mkF m 26 #[.val (.long n), .second, .val (.int (16 : Int32))] []) (fun _ k => XS.ifYes X_63.here hx rfl (pc0 := 17) (pc' := 26) rfl (hb hby d1_17) rfl ((if0 _ _).trans (tlt hc16).1) (by decide) (by decide) k) ?_
                                  have b16 : n < (10000000000000000 : Int64) := (lw_lt _ _).mp hc16
                                  refine Go.to (mkF m 27 #[.val (.long n), .second, .val (.int (16 : Int32))] [(.int (16 : Int32))]) (fun _ k => XS.iloadN X_63.here hx rfl (hb hby d1_26) rfl  k) ?_
                                  refine Go.retI X_63 hx hret hlk (hb hby d1_27) (by decide) (by decide) ?_
                                  show (Q1 Z n a kp h0 n0) _ T_63.heap _
                                  rw [e_63]
                                  exact ⟨(congrArg (fun z => some (Value.int z)) (own_cnt_16 b1 b2 b3 b4 b5 b6 b7 b8 b9 b10 b11 b12 b13 b14 b15 b16).symm), N0, rfl⟩
                                · refine Go.to (mkF m 20 #[.val (.long n), .second, .val (.int (16 : Int32))] []) (fun _ k => XS.ifNo X_63.here hx rfl (hb hby d1_17) rfl ((if0 _ _).trans (flt hc16).1) k) ?_
                                  have b16 : ¬ n < (10000000000000000 : Int64) := fun q => hc16 ((lw_lt _ _).mpr q)
                                  refine Go.to (mkF m 23 #[.val (.long n), .second, .val (.int (17 : Int32))] []) (fun _ k => XS.iinc X_63.here hx rfl (hb hby d1_20) rfl (l' := #[.val (.long n), .second, .val (.int (17 : Int32))]) rfl k) ?_
                                  refine Go.to (mkF m 2 #[.val (.long n), .second, .val (.int (17 : Int32))] []) (fun _ k => XS.goto X_63.here hx rfl (pc0 := 23) (pc' := 2) rfl (hb hby d1_23) (by decide) (by decide) k) ?_
                                  refine Go.to (mkF m 3 #[.val (.long n), .second, .val (.int (17 : Int32))] [(.int (17 : Int32))]) (fun _ k => XS.iloadN X_63.here hx rfl (hb hby d1_2) rfl  k) ?_
                                  obtain ⟨T_65, X_65, e_65, st_65⟩ := getS2 X_63 hx hZ hown (host := "") (Or.inl (hw _ (List.mem_of_getElem? (i := 24) rfl))) Via.refl e_63 PS_com_example_parting_terms_partingterms_Digits_POWERS (g := (mkF m 3 #[.val (.long n), .second, .val (.int (17 : Int32))] [(.int (17 : Int32))])) rfl (hb hby d1_3)
                                  refine Go.to (mkF m 6 #[.val (.long n), .second, .val (.int (17 : Int32))] [(.ref a), (.int (17 : Int32))]) st_65 ?_
                                  obtain ⟨cl_66, Ar_66, -, Sz_66, Ng_66, -, -⟩ := id PA_a
                                  refine Go.to (mkF m 7 #[.val (.long n), .second, .val (.int (17 : Int32))] [(.int (19 : Int32)), (.int (17 : Int32))]) (fun _ k => by
                                    refine X_65.arraylength hx (by rw [e_65]; exact Ar_66.1) (State.isArrayOf_alike hZ.alike Ar_66.2.1) (g := (mkF m 6 #[.val (.long n), .second, .val (.int (17 : Int32))] [(.ref a), (.int (17 : Int32))])) rfl rfl (hb hby d1_6) _ ?_
                                    rw [len_of Sz_66 Ng_66]
                                    exact k) ?_
                                  refine Go.to (mkF m 10 #[.val (.long n), .second, .val (.int (17 : Int32))] []) (fun _ k => XS.icmpNo X_65.here hx rfl (hb hby d1_7) rfl (tlt (by decide : (17 : Int32) < (19 : Int32))).2.1 k) ?_
                                  refine Go.to (mkF m 11 #[.val (.long n), .second, .val (.int (17 : Int32))] [(.long n)]) (fun _ k => XS.lloadN X_65.here hx rfl (hb hby d1_10) rfl  k) ?_
                                  obtain ⟨T_67, X_67, e_67, st_67⟩ := getS2 X_65 hx hZ hown (host := "") (Or.inl (hw _ (List.mem_of_getElem? (i := 24) rfl))) Via.refl e_65 PS_com_example_parting_terms_partingterms_Digits_POWERS (g := (mkF m 11 #[.val (.long n), .second, .val (.int (17 : Int32))] [(.long n)])) rfl (hb hby d1_11)
                                  refine Go.to (mkF m 14 #[.val (.long n), .second, .val (.int (17 : Int32))] [(.ref a), (.long n)]) st_67 ?_
                                  refine Go.to (mkF m 15 #[.val (.long n), .second, .val (.int (17 : Int32))] [(.int (17 : Int32)), (.ref a), (.long n)]) (fun _ k => XS.iloadN X_67.here hx rfl (hb hby d1_14) rfl  k) ?_
                                  obtain ⟨cl_68, Ar_68, -, Sz_68, Ng_68, Hh_68, -⟩ := id PA_a
                                  have hin_68 : ¬ ((17 : Int32) < 0 ∨ cl_68.slots.size ≤ ((17 : Int32)).toNatClampNeg) := inb_of Sz_68 ⟨by decide, by decide⟩
                                  refine Go.to (mkF m 16 #[.val (.long n), .second, .val (.int (17 : Int32))] [(.long (100000000000000000 : Int64)), (.long n)]) (X_67.laload hx (j := (17 : Int32)) (v := (.long (100000000000000000 : Int64))) (by rw [e_67]; exact Ar_68.1) (State.isArrayOf_alike hZ.alike Ar_68.2.1) Ar_68.2.2 hin_68 (Hh_68.at hin_68 rfl) (g := (mkF m 15 #[.val (.long n), .second, .val (.int (17 : Int32))] [(.int (17 : Int32)), (.ref a), (.long n)])) rfl rfl (hb hby d1_15)) ?_
                                  refine Go.to (mkF m 17 #[.val (.long n), .second, .val (.int (17 : Int32))] [(.int (lcmpW n (100000000000000000 : Int64)))]) (fun _ k => XS.lcmp X_67.here hx rfl (hb hby d1_16) rfl k) ?_
                                  by_cases hc17 : (lcmpW n (100000000000000000 : Int64)) < (0 : Int32)
                                  · refine Go.to (mkF m 26 #[.val (.long n), .second, .val (.int (17 : Int32))] []) (fun _ k => XS.ifYes X_67.here hx rfl (pc0 := 17) (pc' := 26) rfl (hb hby d1_17) rfl ((if0 _ _).trans (tlt hc17).1) (by decide) (by decide) k) ?_
                                    have b17 : n < (100000000000000000 : Int64) := (lw_lt _ _).mp hc17
                                    refine Go.to (mkF m 27 #[.val (.long n), .second, .val (.int (17 : Int32))] [(.int (17 : Int32))]) (fun _ k => XS.iloadN X_67.here hx rfl (hb hby d1_26) rfl  k) ?_
                                    refine Go.retI X_67 hx hret hlk (hb hby d1_27) (by decide) (by decide) ?_
                                    show (Q1 Z n a kp h0 n0) _ T_67.heap _
                                    rw [e_67]
                                    exact ⟨(congrArg (fun z => some (Value.int z)) (own_cnt_17 b1 b2 b3 b4 b5 b6 b7 b8 b9 b10 b11 b12 b13 b14 b15 b16 b17).symm), N0, rfl⟩
                                  · refine Go.to (mkF m 20 #[.val (.long n), .second, .val (.int (17 : Int32))] []) (fun _ k => XS.ifNo X_67.here hx rfl (hb hby d1_17) rfl ((if0 _ _).trans (flt hc17).1) k) ?_
                                    have b17 : ¬ n < (100000000000000000 : Int64) := fun q => hc17 ((lw_lt _ _).mpr q)
                                    refine Go.to (mkF m 23 #[.val (.long n), .second, .val (.int (18 : Int32))] []) (fun _ k => XS.iinc X_67.here hx rfl (hb hby d1_20) rfl (l' := #[.val (.long n), .second, .val (.int (18 : Int32))]) rfl k) ?_
                                    refine Go.to (mkF m 2 #[.val (.long n), .second, .val (.int (18 : Int32))] []) (fun _ k => XS.goto X_67.here hx rfl (pc0 := 23) (pc' := 2) rfl (hb hby d1_23) (by decide) (by decide) k) ?_
                                    refine Go.to (mkF m 3 #[.val (.long n), .second, .val (.int (18 : Int32))] [(.int (18 : Int32))]) (fun _ k => XS.iloadN X_67.here hx rfl (hb hby d1_2) rfl  k) ?_
                                    obtain ⟨T_69, X_69, e_69, st_69⟩ := getS2 X_67 hx hZ hown (host := "") (Or.inl (hw _ (List.mem_of_getElem? (i := 24) rfl))) Via.refl e_67 PS_com_example_parting_terms_partingterms_Digits_POWERS (g := (mkF m 3 #[.val (.long n), .second, .val (.int (18 : Int32))] [(.int (18 : Int32))])) rfl (hb hby d1_3)
                                    refine Go.to (mkF m 6 #[.val (.long n), .second, .val (.int (18 : Int32))] [(.ref a), (.int (18 : Int32))]) st_69 ?_
                                    obtain ⟨cl_70, Ar_70, -, Sz_70, Ng_70, -, -⟩ := id PA_a
                                    refine Go.to (mkF m 7 #[.val (.long n), .second, .val (.int (18 : Int32))] [(.int (19 : Int32)), (.int (18 : Int32))]) (fun _ k => by
                                      refine X_69.arraylength hx (by rw [e_69]; exact Ar_70.1) (State.isArrayOf_alike hZ.alike Ar_70.2.1) (g := (mkF m 6 #[.val (.long n), .second, .val (.int (18 : Int32))] [(.ref a), (.int (18 : Int32))])) rfl rfl (hb hby d1_6) _ ?_
                                      rw [len_of Sz_70 Ng_70]
                                      exact k) ?_
                                    refine Go.to (mkF m 10 #[.val (.long n), .second, .val (.int (18 : Int32))] []) (fun _ k => XS.icmpNo X_69.here hx rfl (hb hby d1_7) rfl (tlt (by decide : (18 : Int32) < (19 : Int32))).2.1 k) ?_
                                    refine Go.to (mkF m 11 #[.val (.long n), .second, .val (.int (18 : Int32))] [(.long n)]) (fun _ k => XS.lloadN X_69.here hx rfl (hb hby d1_10) rfl  k) ?_
                                    obtain ⟨T_71, X_71, e_71, st_71⟩ := getS2 X_69 hx hZ hown (host := "") (Or.inl (hw _ (List.mem_of_getElem? (i := 24) rfl))) Via.refl e_69 PS_com_example_parting_terms_partingterms_Digits_POWERS (g := (mkF m 11 #[.val (.long n), .second, .val (.int (18 : Int32))] [(.long n)])) rfl (hb hby d1_11)
                                    refine Go.to (mkF m 14 #[.val (.long n), .second, .val (.int (18 : Int32))] [(.ref a), (.long n)]) st_71 ?_
                                    refine Go.to (mkF m 15 #[.val (.long n), .second, .val (.int (18 : Int32))] [(.int (18 : Int32)), (.ref a), (.long n)]) (fun _ k => XS.iloadN X_71.here hx rfl (hb hby d1_14) rfl  k) ?_
                                    obtain ⟨cl_72, Ar_72, -, Sz_72, Ng_72, Hh_72, -⟩ := id PA_a
                                    have hin_72 : ¬ ((18 : Int32) < 0 ∨ cl_72.slots.size ≤ ((18 : Int32)).toNatClampNeg) := inb_of Sz_72 ⟨by decide, by decide⟩
                                    refine Go.to (mkF m 16 #[.val (.long n), .second, .val (.int (18 : Int32))] [(.long (1000000000000000000 : Int64)), (.long n)]) (X_71.laload hx (j := (18 : Int32)) (v := (.long (1000000000000000000 : Int64))) (by rw [e_71]; exact Ar_72.1) (State.isArrayOf_alike hZ.alike Ar_72.2.1) Ar_72.2.2 hin_72 (Hh_72.at hin_72 rfl) (g := (mkF m 15 #[.val (.long n), .second, .val (.int (18 : Int32))] [(.int (18 : Int32)), (.ref a), (.long n)])) rfl rfl (hb hby d1_15)) ?_
                                    refine Go.to (mkF m 17 #[.val (.long n), .second, .val (.int (18 : Int32))] [(.int (lcmpW n (1000000000000000000 : Int64)))]) (fun _ k => XS.lcmp X_71.here hx rfl (hb hby d1_16) rfl k) ?_
                                    by_cases hc18 : (lcmpW n (1000000000000000000 : Int64)) < (0 : Int32)
                                    · refine Go.to (mkF m 26 #[.val (.long n), .second, .val (.int (18 : Int32))] []) (fun _ k => XS.ifYes X_71.here hx rfl (pc0 := 17) (pc' := 26) rfl (hb hby d1_17) rfl ((if0 _ _).trans (tlt hc18).1) (by decide) (by decide) k) ?_
                                      have b18 : n < (1000000000000000000 : Int64) := (lw_lt _ _).mp hc18
                                      refine Go.to (mkF m 27 #[.val (.long n), .second, .val (.int (18 : Int32))] [(.int (18 : Int32))]) (fun _ k => XS.iloadN X_71.here hx rfl (hb hby d1_26) rfl  k) ?_
                                      refine Go.retI X_71 hx hret hlk (hb hby d1_27) (by decide) (by decide) ?_
                                      show (Q1 Z n a kp h0 n0) _ T_71.heap _
                                      rw [e_71]
                                      exact ⟨(congrArg (fun z => some (Value.int z)) (own_cnt_18 b1 b2 b3 b4 b5 b6 b7 b8 b9 b10 b11 b12 b13 b14 b15 b16 b17 b18).symm), N0, rfl⟩
                                    · refine Go.to (mkF m 20 #[.val (.long n), .second, .val (.int (18 : Int32))] []) (fun _ k => XS.ifNo X_71.here hx rfl (hb hby d1_17) rfl ((if0 _ _).trans (flt hc18).1) k) ?_
                                      have b18 : ¬ n < (1000000000000000000 : Int64) := fun q => hc18 ((lw_lt _ _).mpr q)
                                      refine Go.to (mkF m 23 #[.val (.long n), .second, .val (.int (19 : Int32))] []) (fun _ k => XS.iinc X_71.here hx rfl (hb hby d1_20) rfl (l' := #[.val (.long n), .second, .val (.int (19 : Int32))]) rfl k) ?_
                                      refine Go.to (mkF m 2 #[.val (.long n), .second, .val (.int (19 : Int32))] []) (fun _ k => XS.goto X_71.here hx rfl (pc0 := 23) (pc' := 2) rfl (hb hby d1_23) (by decide) (by decide) k) ?_
                                      refine Go.to (mkF m 3 #[.val (.long n), .second, .val (.int (19 : Int32))] [(.int (19 : Int32))]) (fun _ k => XS.iloadN X_71.here hx rfl (hb hby d1_2) rfl  k) ?_
                                      obtain ⟨T_73, X_73, e_73, st_73⟩ := getS2 X_71 hx hZ hown (host := "") (Or.inl (hw _ (List.mem_of_getElem? (i := 24) rfl))) Via.refl e_71 PS_com_example_parting_terms_partingterms_Digits_POWERS (g := (mkF m 3 #[.val (.long n), .second, .val (.int (19 : Int32))] [(.int (19 : Int32))])) rfl (hb hby d1_3)
                                      refine Go.to (mkF m 6 #[.val (.long n), .second, .val (.int (19 : Int32))] [(.ref a), (.int (19 : Int32))]) st_73 ?_
                                      obtain ⟨cl_74, Ar_74, -, Sz_74, Ng_74, -, -⟩ := id PA_a
                                      refine Go.to (mkF m 7 #[.val (.long n), .second, .val (.int (19 : Int32))] [(.int (19 : Int32)), (.int (19 : Int32))]) (fun _ k => by
                                        refine X_73.arraylength hx (by rw [e_73]; exact Ar_74.1) (State.isArrayOf_alike hZ.alike Ar_74.2.1) (g := (mkF m 6 #[.val (.long n), .second, .val (.int (19 : Int32))] [(.ref a), (.int (19 : Int32))])) rfl rfl (hb hby d1_6) _ ?_
                                        rw [len_of Sz_74 Ng_74]
                                        exact k) ?_
                                      refine Go.to (mkF m 26 #[.val (.long n), .second, .val (.int (19 : Int32))] []) (fun _ k => XS.icmpYes X_73.here hx rfl (pc0 := 7) (pc' := 26) rfl (hb hby d1_7) rfl (flt (by decide : ¬ ((19 : Int32) < (19 : Int32)))).2.1 (by decide) (by decide) k) ?_
                                      refine Go.to (mkF m 27 #[.val (.long n), .second, .val (.int (19 : Int32))] [(.int (19 : Int32))]) (fun _ k => XS.iloadN X_73.here hx rfl (hb hby d1_26) rfl  k) ?_
                                      refine Go.retI X_73 hx hret hlk (hb hby d1_27) (by decide) (by decide) ?_
                                      show (Q1 Z n a kp h0 n0) _ T_73.heap _
                                      rw [e_73]
                                      exact ⟨(congrArg (fun z => some (Value.int z)) (own_cnt_19 b1 b2 b3 b4 b5 b6 b7 b8 b9 b10 b11 b12 b13 b14 b15 b16 b17 b18).symm), N0, rfl⟩
theorem own_pd0 : parseMethodDescriptor "(J)I" = some ⟨[.long], some .int⟩ := by decide +kernel
def Q0 (Z : State) (p1 : Int64) (p2 : Int32) (a : Addr) (kp : ClassId) (h0 : Heap) (n0 : Nat) (v : Option Value) (h : Heap) (L : List Loc) : Prop := v = some (.int (1 : Int32)) ∧ Fr n0 L ∧ Keep h0 h []
theorem ef_0 (m : MethodId) (p1 : Int64) (p2 : Int32) : entryFrame m #[(.long p1), (.int p2)] maxLocals = mkF m 0 #[.val (.long p1), .second, .val (.int p2), .unset, .unset, .unset, .unset, .unset, .unset] [] := by first | (simp [entryFrame, mkF, argsToLocals, Value.category, maxLocals]; done) | (simp [entryFrame, mkF, argsToLocals, Value.category, maxLocals]; done) | rfl
set_option maxRecDepth 65536 in
set_option maxHeartbeats 40000000 in
theorem rm0 (l : Launch) (Z : State) (a0 : Array Value) (hw : ∀ d ∈ tables_1, d.before a0 Z = true) (p1 : Int64) (p2 : Int32) (a : Addr) (kp : ClassId) (h0 : Heap) (n0 : Nat) (Z0 : n0 ≤ h0.size) (PS_com_example_parting_terms_partingterms_Digits_POWERS : Sta Z h0 "com/example/parting_terms/partingterms/Digits" "POWERS" "[J" (.ref a)) (PA_a : Arv Z h0 a kp .long (19 : Int32) [(.long (1 : Int64)), (.long (10 : Int64)), (.long (100 : Int64)), (.long (1000 : Int64)), (.long (10000 : Int64)), (.long (100000 : Int64)), (.long (1000000 : Int64)), (.long (10000000 : Int64)), (.long (100000000 : Int64)), (.long (1000000000 : Int64)), (.long (10000000000 : Int64)), (.long (100000000000 : Int64)), (.long (1000000000000 : Int64)), (.long (10000000000000 : Int64)), (.long (100000000000000 : Int64)), (.long (1000000000000000 : Int64)), (.long (10000000000000000 : Int64)), (.long (100000000000000000 : Int64)), (.long (1000000000000000000 : Int64))] (.long (0 : Int64))) :
    Met1 l Z x code maxLocals ret room_1 #[(.long p1), (.int p2)] h0 (Q0 Z p1 p2 a kp h0 n0) := by
  refine Met1.mk (plainFor_of_name (by first | (simp [plainName, overriddenIn]; done) | decide +kernel)) ?_
  intro p e s m below meth c s₁ hx hZ hby hml hown hnm hret hlk X0 e0
  have hml : c.maxLocals = 9 := hml
  have hret : meth.sig.returnType = some .boolean := hret
  have N0 := Fr.nil n0
  refine Go.cast (ef_0 m p1 p2) ?_
  show Go p e below (FinN s (Q0 Z p1 p2 a kp h0 n0) room_1.cells room_1.slots) s₁ (mkF m 0 #[.val (.long p1), .second, .val (.int p2), .unset, .unset, .unset, .unset, .unset, .unset] [])
  refine Go.to (mkF m 1 #[.val (.long p1), .second, .val (.int p2), .unset, .unset, .unset, .unset, .unset, .unset] [(.long p1)]) (fun _ k => XS.lloadN X0.here hx rfl (hb hby at_0) rfl  k) ?_
  refine Go.to (mkF m 4 #[.val (.long p1), .second, .val (.int p2), .unset, .unset, .unset, .unset, .unset, .unset] [(.long (9223372036854775807 : Int64)), (.long p1)]) (fun _ k => X0.ldc2Long hx hown (mvT hZ (hw _ (List.mem_of_getElem? (i := 0) rfl))) (g := (mkF m 1 #[.val (.long p1), .second, .val (.int p2), .unset, .unset, .unset, .unset, .unset, .unset] [(.long p1)])) rfl (hb hby at_1) _ k) ?_
  refine Go.to (mkF m 5 #[.val (.long p1), .second, .val (.int p2), .unset, .unset, .unset, .unset, .unset, .unset] [(.long (p1 &&& (9223372036854775807 : Int64)))]) (fun _ k => XS.land X0.here hx rfl (hb hby at_4) rfl k) ?_
  refine Go.to (mkF m 6 #[.val (.long p1), .second, .val (.int p2), .unset, .unset, .unset, .unset, .unset, .unset] [(.int p2), (.long (p1 &&& (9223372036854775807 : Int64)))]) (fun _ k => XS.iloadN X0.here hx rfl (hb hby at_5) rfl  k) ?_
  refine Go.to (mkF m 8 #[.val (.long p1), .second, .val (.int p2), .unset, .unset, .unset, .unset, .unset, .unset] [(.int (63 : Int32)), (.int p2), (.long (p1 &&& (9223372036854775807 : Int64)))]) (fun _ k => XS.bipush X0.here hx rfl (hb hby at_6) k) ?_
  refine Go.to (mkF m 9 #[.val (.long p1), .second, .val (.int p2), .unset, .unset, .unset, .unset, .unset, .unset] [(.int (p2 &&& (63 : Int32))), (.long (p1 &&& (9223372036854775807 : Int64)))]) (fun _ k => XS.iand X0.here hx rfl (hb hby at_8) rfl k) ?_
  refine Go.to (mkF m 10 #[.val (.long p1), .second, .val (.int p2), .unset, .unset, .unset, .unset, .unset, .unset] [(.long (((p1 &&& (9223372036854775807 : Int64)).toUInt64 >>> ((p2 &&& (63 : Int32)) &&& 0x3f).toInt64.toUInt64).toInt64))]) (fun _ k => XS.lushr X0.here hx rfl (hb hby at_9) rfl k) ?_
  refine Go.to (mkF m 11 #[.val (.long p1), .second, .val (.int p2), .val (.long (((p1 &&& (9223372036854775807 : Int64)).toUInt64 >>> ((p2 &&& (63 : Int32)) &&& 0x3f).toInt64.toUInt64).toInt64)), .second, .unset, .unset, .unset, .unset] []) (fun _ k => XS.lstoreN X0.here hx rfl (hb hby at_10) rfl (l' := #[.val (.long p1), .second, .val (.int p2), .val (.long (((p1 &&& (9223372036854775807 : Int64)).toUInt64 >>> ((p2 &&& (63 : Int32)) &&& 0x3f).toInt64.toUInt64).toInt64)), .second, .unset, .unset, .unset, .unset]) rfl k) ?_
  refine Go.to (mkF m 13 #[.val (.long p1), .second, .val (.int p2), .val (.long (((p1 &&& (9223372036854775807 : Int64)).toUInt64 >>> ((p2 &&& (63 : Int32)) &&& 0x3f).toInt64.toUInt64).toInt64)), .second, .unset, .unset, .unset, .unset] [(.int (19 : Int32))]) (fun _ k => XS.bipush X0.here hx rfl (hb hby at_11) k) ?_
  obtain ⟨T_1, h_1, k_1, X_1, e_1, E_1, A_1, st_1⟩ := newP X0 hx hZ (hw _ (List.mem_of_getElem? (i := 1) rfl)) e0 (g := (mkF m 13 #[.val (.long p1), .second, .val (.int p2), .val (.long (((p1 &&& (9223372036854775807 : Int64)).toUInt64 >>> ((p2 &&& (63 : Int32)) &&& 0x3f).toInt64.toUInt64).toInt64)), .second, .unset, .unset, .unset, .unset] [(.int (19 : Int32))])) rfl (hb hby at_13) rfl (by decide) (cap := 19) (by decide) (by decide) (by decide) (by decide)
  obtain ⟨b_1, g_1⟩ : ∃ z, z = h0.size := ⟨_, rfl⟩
  rw [← g_1] at A_1 st_1
  have g_b_1 : n0 ≤ b_1 := Nat.le_trans Z0 (Nat.le_of_eq g_1.symm)
  have sz_b_1 : h0.size ≤ b_1 := Nat.le_trans (Keep.refl h0 []).1 (Nat.le_of_eq g_1.symm)
  have ne_a_b_1 : a ≠ b_1 := Nat.ne_of_lt (Nat.lt_of_lt_of_le PA_a.lt (Nat.le_of_eq g_1.symm))
  have V_b_1 : Arv Z h_1 b_1 k_1 .long (19 : Int32) [(.long (0 : Int64)), (.long (0 : Int64)), (.long (0 : Int64)), (.long (0 : Int64)), (.long (0 : Int64)), (.long (0 : Int64)), (.long (0 : Int64)), (.long (0 : Int64)), (.long (0 : Int64)), (.long (0 : Int64)), (.long (0 : Int64)), (.long (0 : Int64)), (.long (0 : Int64)), (.long (0 : Int64)), (.long (0 : Int64)), (.long (0 : Int64)), (.long (0 : Int64)), (.long (0 : Int64)), (.long (0 : Int64))] (.long (0 : Int64)) := (Arv.new A_1 (by decide)).pad (pad_rep [] (.long (0 : Int64)) 19)
  refine Go.to (mkF m 15 #[.val (.long p1), .second, .val (.int p2), .val (.long (((p1 &&& (9223372036854775807 : Int64)).toUInt64 >>> ((p2 &&& (63 : Int32)) &&& 0x3f).toInt64.toUInt64).toInt64)), .second, .unset, .unset, .unset, .unset] [(.ref b_1)]) st_1 ?_
  refine Go.to (mkF m 16 #[.val (.long p1), .second, .val (.int p2), .val (.long (((p1 &&& (9223372036854775807 : Int64)).toUInt64 >>> ((p2 &&& (63 : Int32)) &&& 0x3f).toInt64.toUInt64).toInt64)), .second, .unset, .unset, .unset, .unset] [(.ref b_1), (.ref b_1)]) (fun _ k => XS.dup X_1.here hx rfl (hb hby at_15) rfl rfl k) ?_
  refine Go.to (mkF m 17 #[.val (.long p1), .second, .val (.int p2), .val (.long (((p1 &&& (9223372036854775807 : Int64)).toUInt64 >>> ((p2 &&& (63 : Int32)) &&& 0x3f).toInt64.toUInt64).toInt64)), .second, .unset, .unset, .unset, .unset] [(.int (0 : Int32)), (.ref b_1), (.ref b_1)]) (fun _ k => XS.iconst X_1.here hx rfl (hb hby at_16) k) ?_
  refine Go.to (mkF m 18 #[.val (.long p1), .second, .val (.int p2), .val (.long (((p1 &&& (9223372036854775807 : Int64)).toUInt64 >>> ((p2 &&& (63 : Int32)) &&& 0x3f).toInt64.toUInt64).toInt64)), .second, .unset, .unset, .unset, .unset] [(.long (1 : Int64)), (.int (0 : Int32)), (.ref b_1), (.ref b_1)]) (fun _ k => XS.lconst X_1.here hx rfl (hb hby at_17) k) ?_
  obtain ⟨cl_2, Ar_2, q_2, Sz_2, Ng_2, Hh_2, Gg_2⟩ := id V_b_1
  have hin_2 : ¬ ((0 : Int32) < 0 ∨ cl_2.slots.size ≤ ((0 : Int32)).toNatClampNeg) := inb_of Sz_2 ⟨by decide, by decide⟩
  obtain ⟨T_2, h_2, X_2, e_2, W_2, st_2⟩ := stJ X_1 hx hZ e_1 Ar_2 (j := (0 : Int32)) hin_2 (g := (mkF m 18 #[.val (.long p1), .second, .val (.int p2), .val (.long (((p1 &&& (9223372036854775807 : Int64)).toUInt64 >>> ((p2 &&& (63 : Int32)) &&& 0x3f).toInt64.toUInt64).toInt64)), .second, .unset, .unset, .unset, .unset] [(.long (1 : Int64)), (.int (0 : Int32)), (.ref b_1), (.ref b_1)])) rfl rfl (hb hby at_18)
  have N_2 := Fr.snoc X_2 N0 g_b_1
  have V_2 : Arv Z h_2 b_1 k_1 .long (19 : Int32) [(.long (1 : Int64)), (.long (0 : Int64)), (.long (0 : Int64)), (.long (0 : Int64)), (.long (0 : Int64)), (.long (0 : Int64)), (.long (0 : Int64)), (.long (0 : Int64)), (.long (0 : Int64)), (.long (0 : Int64)), (.long (0 : Int64)), (.long (0 : Int64)), (.long (0 : Int64)), (.long (0 : Int64)), (.long (0 : Int64)), (.long (0 : Int64)), (.long (0 : Int64)), (.long (0 : Int64)), (.long (0 : Int64))] (.long (0 : Int64)) := Arv.set Ar_2 q_2 Sz_2 Ng_2 Hh_2 Gg_2 rfl W_2 0 rfl (Nat.le_of_ble_eq_true rfl)
  refine Go.to (mkF m 19 #[.val (.long p1), .second, .val (.int p2), .val (.long (((p1 &&& (9223372036854775807 : Int64)).toUInt64 >>> ((p2 &&& (63 : Int32)) &&& 0x3f).toInt64.toUInt64).toInt64)), .second, .unset, .unset, .unset, .unset] [(.ref b_1)]) st_2 ?_
  refine Go.to (mkF m 20 #[.val (.long p1), .second, .val (.int p2), .val (.long (((p1 &&& (9223372036854775807 : Int64)).toUInt64 >>> ((p2 &&& (63 : Int32)) &&& 0x3f).toInt64.toUInt64).toInt64)), .second, .unset, .unset, .unset, .unset] [(.ref b_1), (.ref b_1)]) (fun _ k => XS.dup X_2.here hx rfl (hb hby at_19) rfl rfl k) ?_
  refine Go.to (mkF m 21 #[.val (.long p1), .second, .val (.int p2), .val (.long (((p1 &&& (9223372036854775807 : Int64)).toUInt64 >>> ((p2 &&& (63 : Int32)) &&& 0x3f).toInt64.toUInt64).toInt64)), .second, .unset, .unset, .unset, .unset] [(.int (1 : Int32)), (.ref b_1), (.ref b_1)]) (fun _ k => XS.iconst X_2.here hx rfl (hb hby at_20) k) ?_
  refine Go.to (mkF m 24 #[.val (.long p1), .second, .val (.int p2), .val (.long (((p1 &&& (9223372036854775807 : Int64)).toUInt64 >>> ((p2 &&& (63 : Int32)) &&& 0x3f).toInt64.toUInt64).toInt64)), .second, .unset, .unset, .unset, .unset] [(.long (10 : Int64)), (.int (1 : Int32)), (.ref b_1), (.ref b_1)]) (fun _ k => X_2.ldc2Long hx hown (mvT hZ (hw _ (List.mem_of_getElem? (i := 2) rfl))) (g := (mkF m 21 #[.val (.long p1), .second, .val (.int p2), .val (.long (((p1 &&& (9223372036854775807 : Int64)).toUInt64 >>> ((p2 &&& (63 : Int32)) &&& 0x3f).toInt64.toUInt64).toInt64)), .second, .unset, .unset, .unset, .unset] [(.int (1 : Int32)), (.ref b_1), (.ref b_1)])) rfl (hb hby at_21) _ k) ?_
  obtain ⟨cl_3, Ar_3, q_3, Sz_3, Ng_3, Hh_3, Gg_3⟩ := id V_2
  have hin_3 : ¬ ((1 : Int32) < 0 ∨ cl_3.slots.size ≤ ((1 : Int32)).toNatClampNeg) := inb_of Sz_3 ⟨by decide, by decide⟩
  obtain ⟨T_3, h_3, X_3, e_3, W_3, st_3⟩ := stJ X_2 hx hZ e_2 Ar_3 (j := (1 : Int32)) hin_3 (g := (mkF m 24 #[.val (.long p1), .second, .val (.int p2), .val (.long (((p1 &&& (9223372036854775807 : Int64)).toUInt64 >>> ((p2 &&& (63 : Int32)) &&& 0x3f).toInt64.toUInt64).toInt64)), .second, .unset, .unset, .unset, .unset] [(.long (10 : Int64)), (.int (1 : Int32)), (.ref b_1), (.ref b_1)])) rfl rfl (hb hby at_24)
  have N_3 := Fr.snoc X_3 N_2 g_b_1
  have V_3 : Arv Z h_3 b_1 k_1 .long (19 : Int32) [(.long (1 : Int64)), (.long (10 : Int64)), (.long (0 : Int64)), (.long (0 : Int64)), (.long (0 : Int64)), (.long (0 : Int64)), (.long (0 : Int64)), (.long (0 : Int64)), (.long (0 : Int64)), (.long (0 : Int64)), (.long (0 : Int64)), (.long (0 : Int64)), (.long (0 : Int64)), (.long (0 : Int64)), (.long (0 : Int64)), (.long (0 : Int64)), (.long (0 : Int64)), (.long (0 : Int64)), (.long (0 : Int64))] (.long (0 : Int64)) := Arv.set Ar_3 q_3 Sz_3 Ng_3 Hh_3 Gg_3 rfl W_3 1 rfl (Nat.le_of_ble_eq_true rfl)
  refine Go.to (mkF m 25 #[.val (.long p1), .second, .val (.int p2), .val (.long (((p1 &&& (9223372036854775807 : Int64)).toUInt64 >>> ((p2 &&& (63 : Int32)) &&& 0x3f).toInt64.toUInt64).toInt64)), .second, .unset, .unset, .unset, .unset] [(.ref b_1)]) st_3 ?_
  refine Go.to (mkF m 26 #[.val (.long p1), .second, .val (.int p2), .val (.long (((p1 &&& (9223372036854775807 : Int64)).toUInt64 >>> ((p2 &&& (63 : Int32)) &&& 0x3f).toInt64.toUInt64).toInt64)), .second, .unset, .unset, .unset, .unset] [(.ref b_1), (.ref b_1)]) (fun _ k => XS.dup X_3.here hx rfl (hb hby at_25) rfl rfl k) ?_
  refine Go.to (mkF m 27 #[.val (.long p1), .second, .val (.int p2), .val (.long (((p1 &&& (9223372036854775807 : Int64)).toUInt64 >>> ((p2 &&& (63 : Int32)) &&& 0x3f).toInt64.toUInt64).toInt64)), .second, .unset, .unset, .unset, .unset] [(.int (2 : Int32)), (.ref b_1), (.ref b_1)]) (fun _ k => XS.iconst X_3.here hx rfl (hb hby at_26) k) ?_
  refine Go.to (mkF m 30 #[.val (.long p1), .second, .val (.int p2), .val (.long (((p1 &&& (9223372036854775807 : Int64)).toUInt64 >>> ((p2 &&& (63 : Int32)) &&& 0x3f).toInt64.toUInt64).toInt64)), .second, .unset, .unset, .unset, .unset] [(.long (100 : Int64)), (.int (2 : Int32)), (.ref b_1), (.ref b_1)]) (fun _ k => X_3.ldc2Long hx hown (mvT hZ (hw _ (List.mem_of_getElem? (i := 3) rfl))) (g := (mkF m 27 #[.val (.long p1), .second, .val (.int p2), .val (.long (((p1 &&& (9223372036854775807 : Int64)).toUInt64 >>> ((p2 &&& (63 : Int32)) &&& 0x3f).toInt64.toUInt64).toInt64)), .second, .unset, .unset, .unset, .unset] [(.int (2 : Int32)), (.ref b_1), (.ref b_1)])) rfl (hb hby at_27) _ k) ?_
  obtain ⟨cl_4, Ar_4, q_4, Sz_4, Ng_4, Hh_4, Gg_4⟩ := id V_3
  have hin_4 : ¬ ((2 : Int32) < 0 ∨ cl_4.slots.size ≤ ((2 : Int32)).toNatClampNeg) := inb_of Sz_4 ⟨by decide, by decide⟩
  obtain ⟨T_4, h_4, X_4, e_4, W_4, st_4⟩ := stJ X_3 hx hZ e_3 Ar_4 (j := (2 : Int32)) hin_4 (g := (mkF m 30 #[.val (.long p1), .second, .val (.int p2), .val (.long (((p1 &&& (9223372036854775807 : Int64)).toUInt64 >>> ((p2 &&& (63 : Int32)) &&& 0x3f).toInt64.toUInt64).toInt64)), .second, .unset, .unset, .unset, .unset] [(.long (100 : Int64)), (.int (2 : Int32)), (.ref b_1), (.ref b_1)])) rfl rfl (hb hby at_30)
  have N_4 := Fr.snoc X_4 N_3 g_b_1
  have V_4 : Arv Z h_4 b_1 k_1 .long (19 : Int32) [(.long (1 : Int64)), (.long (10 : Int64)), (.long (100 : Int64)), (.long (0 : Int64)), (.long (0 : Int64)), (.long (0 : Int64)), (.long (0 : Int64)), (.long (0 : Int64)), (.long (0 : Int64)), (.long (0 : Int64)), (.long (0 : Int64)), (.long (0 : Int64)), (.long (0 : Int64)), (.long (0 : Int64)), (.long (0 : Int64)), (.long (0 : Int64)), (.long (0 : Int64)), (.long (0 : Int64)), (.long (0 : Int64))] (.long (0 : Int64)) := Arv.set Ar_4 q_4 Sz_4 Ng_4 Hh_4 Gg_4 rfl W_4 2 rfl (Nat.le_of_ble_eq_true rfl)
  refine Go.to (mkF m 31 #[.val (.long p1), .second, .val (.int p2), .val (.long (((p1 &&& (9223372036854775807 : Int64)).toUInt64 >>> ((p2 &&& (63 : Int32)) &&& 0x3f).toInt64.toUInt64).toInt64)), .second, .unset, .unset, .unset, .unset] [(.ref b_1)]) st_4 ?_
  refine Go.to (mkF m 32 #[.val (.long p1), .second, .val (.int p2), .val (.long (((p1 &&& (9223372036854775807 : Int64)).toUInt64 >>> ((p2 &&& (63 : Int32)) &&& 0x3f).toInt64.toUInt64).toInt64)), .second, .unset, .unset, .unset, .unset] [(.ref b_1), (.ref b_1)]) (fun _ k => XS.dup X_4.here hx rfl (hb hby at_31) rfl rfl k) ?_
  refine Go.to (mkF m 33 #[.val (.long p1), .second, .val (.int p2), .val (.long (((p1 &&& (9223372036854775807 : Int64)).toUInt64 >>> ((p2 &&& (63 : Int32)) &&& 0x3f).toInt64.toUInt64).toInt64)), .second, .unset, .unset, .unset, .unset] [(.int (3 : Int32)), (.ref b_1), (.ref b_1)]) (fun _ k => XS.iconst X_4.here hx rfl (hb hby at_32) k) ?_
  refine Go.to (mkF m 36 #[.val (.long p1), .second, .val (.int p2), .val (.long (((p1 &&& (9223372036854775807 : Int64)).toUInt64 >>> ((p2 &&& (63 : Int32)) &&& 0x3f).toInt64.toUInt64).toInt64)), .second, .unset, .unset, .unset, .unset] [(.long (1000 : Int64)), (.int (3 : Int32)), (.ref b_1), (.ref b_1)]) (fun _ k => X_4.ldc2Long hx hown (mvT hZ (hw _ (List.mem_of_getElem? (i := 4) rfl))) (g := (mkF m 33 #[.val (.long p1), .second, .val (.int p2), .val (.long (((p1 &&& (9223372036854775807 : Int64)).toUInt64 >>> ((p2 &&& (63 : Int32)) &&& 0x3f).toInt64.toUInt64).toInt64)), .second, .unset, .unset, .unset, .unset] [(.int (3 : Int32)), (.ref b_1), (.ref b_1)])) rfl (hb hby at_33) _ k) ?_
  obtain ⟨cl_5, Ar_5, q_5, Sz_5, Ng_5, Hh_5, Gg_5⟩ := id V_4
  have hin_5 : ¬ ((3 : Int32) < 0 ∨ cl_5.slots.size ≤ ((3 : Int32)).toNatClampNeg) := inb_of Sz_5 ⟨by decide, by decide⟩
  obtain ⟨T_5, h_5, X_5, e_5, W_5, st_5⟩ := stJ X_4 hx hZ e_4 Ar_5 (j := (3 : Int32)) hin_5 (g := (mkF m 36 #[.val (.long p1), .second, .val (.int p2), .val (.long (((p1 &&& (9223372036854775807 : Int64)).toUInt64 >>> ((p2 &&& (63 : Int32)) &&& 0x3f).toInt64.toUInt64).toInt64)), .second, .unset, .unset, .unset, .unset] [(.long (1000 : Int64)), (.int (3 : Int32)), (.ref b_1), (.ref b_1)])) rfl rfl (hb hby at_36)
  have N_5 := Fr.snoc X_5 N_4 g_b_1
  have V_5 : Arv Z h_5 b_1 k_1 .long (19 : Int32) [(.long (1 : Int64)), (.long (10 : Int64)), (.long (100 : Int64)), (.long (1000 : Int64)), (.long (0 : Int64)), (.long (0 : Int64)), (.long (0 : Int64)), (.long (0 : Int64)), (.long (0 : Int64)), (.long (0 : Int64)), (.long (0 : Int64)), (.long (0 : Int64)), (.long (0 : Int64)), (.long (0 : Int64)), (.long (0 : Int64)), (.long (0 : Int64)), (.long (0 : Int64)), (.long (0 : Int64)), (.long (0 : Int64))] (.long (0 : Int64)) := Arv.set Ar_5 q_5 Sz_5 Ng_5 Hh_5 Gg_5 rfl W_5 3 rfl (Nat.le_of_ble_eq_true rfl)
  refine Go.to (mkF m 37 #[.val (.long p1), .second, .val (.int p2), .val (.long (((p1 &&& (9223372036854775807 : Int64)).toUInt64 >>> ((p2 &&& (63 : Int32)) &&& 0x3f).toInt64.toUInt64).toInt64)), .second, .unset, .unset, .unset, .unset] [(.ref b_1)]) st_5 ?_
  refine Go.to (mkF m 38 #[.val (.long p1), .second, .val (.int p2), .val (.long (((p1 &&& (9223372036854775807 : Int64)).toUInt64 >>> ((p2 &&& (63 : Int32)) &&& 0x3f).toInt64.toUInt64).toInt64)), .second, .unset, .unset, .unset, .unset] [(.ref b_1), (.ref b_1)]) (fun _ k => XS.dup X_5.here hx rfl (hb hby at_37) rfl rfl k) ?_
  refine Go.to (mkF m 39 #[.val (.long p1), .second, .val (.int p2), .val (.long (((p1 &&& (9223372036854775807 : Int64)).toUInt64 >>> ((p2 &&& (63 : Int32)) &&& 0x3f).toInt64.toUInt64).toInt64)), .second, .unset, .unset, .unset, .unset] [(.int (4 : Int32)), (.ref b_1), (.ref b_1)]) (fun _ k => XS.iconst X_5.here hx rfl (hb hby at_38) k) ?_
  refine Go.to (mkF m 42 #[.val (.long p1), .second, .val (.int p2), .val (.long (((p1 &&& (9223372036854775807 : Int64)).toUInt64 >>> ((p2 &&& (63 : Int32)) &&& 0x3f).toInt64.toUInt64).toInt64)), .second, .unset, .unset, .unset, .unset] [(.long (10000 : Int64)), (.int (4 : Int32)), (.ref b_1), (.ref b_1)]) (fun _ k => X_5.ldc2Long hx hown (mvT hZ (hw _ (List.mem_of_getElem? (i := 5) rfl))) (g := (mkF m 39 #[.val (.long p1), .second, .val (.int p2), .val (.long (((p1 &&& (9223372036854775807 : Int64)).toUInt64 >>> ((p2 &&& (63 : Int32)) &&& 0x3f).toInt64.toUInt64).toInt64)), .second, .unset, .unset, .unset, .unset] [(.int (4 : Int32)), (.ref b_1), (.ref b_1)])) rfl (hb hby at_39) _ k) ?_
  obtain ⟨cl_6, Ar_6, q_6, Sz_6, Ng_6, Hh_6, Gg_6⟩ := id V_5
  have hin_6 : ¬ ((4 : Int32) < 0 ∨ cl_6.slots.size ≤ ((4 : Int32)).toNatClampNeg) := inb_of Sz_6 ⟨by decide, by decide⟩
  obtain ⟨T_6, h_6, X_6, e_6, W_6, st_6⟩ := stJ X_5 hx hZ e_5 Ar_6 (j := (4 : Int32)) hin_6 (g := (mkF m 42 #[.val (.long p1), .second, .val (.int p2), .val (.long (((p1 &&& (9223372036854775807 : Int64)).toUInt64 >>> ((p2 &&& (63 : Int32)) &&& 0x3f).toInt64.toUInt64).toInt64)), .second, .unset, .unset, .unset, .unset] [(.long (10000 : Int64)), (.int (4 : Int32)), (.ref b_1), (.ref b_1)])) rfl rfl (hb hby at_42)
  have N_6 := Fr.snoc X_6 N_5 g_b_1
  have V_6 : Arv Z h_6 b_1 k_1 .long (19 : Int32) [(.long (1 : Int64)), (.long (10 : Int64)), (.long (100 : Int64)), (.long (1000 : Int64)), (.long (10000 : Int64)), (.long (0 : Int64)), (.long (0 : Int64)), (.long (0 : Int64)), (.long (0 : Int64)), (.long (0 : Int64)), (.long (0 : Int64)), (.long (0 : Int64)), (.long (0 : Int64)), (.long (0 : Int64)), (.long (0 : Int64)), (.long (0 : Int64)), (.long (0 : Int64)), (.long (0 : Int64)), (.long (0 : Int64))] (.long (0 : Int64)) := Arv.set Ar_6 q_6 Sz_6 Ng_6 Hh_6 Gg_6 rfl W_6 4 rfl (Nat.le_of_ble_eq_true rfl)
  refine Go.to (mkF m 43 #[.val (.long p1), .second, .val (.int p2), .val (.long (((p1 &&& (9223372036854775807 : Int64)).toUInt64 >>> ((p2 &&& (63 : Int32)) &&& 0x3f).toInt64.toUInt64).toInt64)), .second, .unset, .unset, .unset, .unset] [(.ref b_1)]) st_6 ?_
  refine Go.to (mkF m 44 #[.val (.long p1), .second, .val (.int p2), .val (.long (((p1 &&& (9223372036854775807 : Int64)).toUInt64 >>> ((p2 &&& (63 : Int32)) &&& 0x3f).toInt64.toUInt64).toInt64)), .second, .unset, .unset, .unset, .unset] [(.ref b_1), (.ref b_1)]) (fun _ k => XS.dup X_6.here hx rfl (hb hby at_43) rfl rfl k) ?_
  refine Go.to (mkF m 45 #[.val (.long p1), .second, .val (.int p2), .val (.long (((p1 &&& (9223372036854775807 : Int64)).toUInt64 >>> ((p2 &&& (63 : Int32)) &&& 0x3f).toInt64.toUInt64).toInt64)), .second, .unset, .unset, .unset, .unset] [(.int (5 : Int32)), (.ref b_1), (.ref b_1)]) (fun _ k => XS.iconst X_6.here hx rfl (hb hby at_44) k) ?_
  refine Go.to (mkF m 48 #[.val (.long p1), .second, .val (.int p2), .val (.long (((p1 &&& (9223372036854775807 : Int64)).toUInt64 >>> ((p2 &&& (63 : Int32)) &&& 0x3f).toInt64.toUInt64).toInt64)), .second, .unset, .unset, .unset, .unset] [(.long (100000 : Int64)), (.int (5 : Int32)), (.ref b_1), (.ref b_1)]) (fun _ k => X_6.ldc2Long hx hown (mvT hZ (hw _ (List.mem_of_getElem? (i := 6) rfl))) (g := (mkF m 45 #[.val (.long p1), .second, .val (.int p2), .val (.long (((p1 &&& (9223372036854775807 : Int64)).toUInt64 >>> ((p2 &&& (63 : Int32)) &&& 0x3f).toInt64.toUInt64).toInt64)), .second, .unset, .unset, .unset, .unset] [(.int (5 : Int32)), (.ref b_1), (.ref b_1)])) rfl (hb hby at_45) _ k) ?_
  obtain ⟨cl_7, Ar_7, q_7, Sz_7, Ng_7, Hh_7, Gg_7⟩ := id V_6
  have hin_7 : ¬ ((5 : Int32) < 0 ∨ cl_7.slots.size ≤ ((5 : Int32)).toNatClampNeg) := inb_of Sz_7 ⟨by decide, by decide⟩
  obtain ⟨T_7, h_7, X_7, e_7, W_7, st_7⟩ := stJ X_6 hx hZ e_6 Ar_7 (j := (5 : Int32)) hin_7 (g := (mkF m 48 #[.val (.long p1), .second, .val (.int p2), .val (.long (((p1 &&& (9223372036854775807 : Int64)).toUInt64 >>> ((p2 &&& (63 : Int32)) &&& 0x3f).toInt64.toUInt64).toInt64)), .second, .unset, .unset, .unset, .unset] [(.long (100000 : Int64)), (.int (5 : Int32)), (.ref b_1), (.ref b_1)])) rfl rfl (hb hby at_48)
  have N_7 := Fr.snoc X_7 N_6 g_b_1
  have V_7 : Arv Z h_7 b_1 k_1 .long (19 : Int32) [(.long (1 : Int64)), (.long (10 : Int64)), (.long (100 : Int64)), (.long (1000 : Int64)), (.long (10000 : Int64)), (.long (100000 : Int64)), (.long (0 : Int64)), (.long (0 : Int64)), (.long (0 : Int64)), (.long (0 : Int64)), (.long (0 : Int64)), (.long (0 : Int64)), (.long (0 : Int64)), (.long (0 : Int64)), (.long (0 : Int64)), (.long (0 : Int64)), (.long (0 : Int64)), (.long (0 : Int64)), (.long (0 : Int64))] (.long (0 : Int64)) := Arv.set Ar_7 q_7 Sz_7 Ng_7 Hh_7 Gg_7 rfl W_7 5 rfl (Nat.le_of_ble_eq_true rfl)
  refine Go.to (mkF m 49 #[.val (.long p1), .second, .val (.int p2), .val (.long (((p1 &&& (9223372036854775807 : Int64)).toUInt64 >>> ((p2 &&& (63 : Int32)) &&& 0x3f).toInt64.toUInt64).toInt64)), .second, .unset, .unset, .unset, .unset] [(.ref b_1)]) st_7 ?_
  refine Go.to (mkF m 50 #[.val (.long p1), .second, .val (.int p2), .val (.long (((p1 &&& (9223372036854775807 : Int64)).toUInt64 >>> ((p2 &&& (63 : Int32)) &&& 0x3f).toInt64.toUInt64).toInt64)), .second, .unset, .unset, .unset, .unset] [(.ref b_1), (.ref b_1)]) (fun _ k => XS.dup X_7.here hx rfl (hb hby at_49) rfl rfl k) ?_
  refine Go.to (mkF m 52 #[.val (.long p1), .second, .val (.int p2), .val (.long (((p1 &&& (9223372036854775807 : Int64)).toUInt64 >>> ((p2 &&& (63 : Int32)) &&& 0x3f).toInt64.toUInt64).toInt64)), .second, .unset, .unset, .unset, .unset] [(.int (6 : Int32)), (.ref b_1), (.ref b_1)]) (fun _ k => XS.bipush X_7.here hx rfl (hb hby at_50) k) ?_
  refine Go.to (mkF m 55 #[.val (.long p1), .second, .val (.int p2), .val (.long (((p1 &&& (9223372036854775807 : Int64)).toUInt64 >>> ((p2 &&& (63 : Int32)) &&& 0x3f).toInt64.toUInt64).toInt64)), .second, .unset, .unset, .unset, .unset] [(.long (1000000 : Int64)), (.int (6 : Int32)), (.ref b_1), (.ref b_1)]) (fun _ k => X_7.ldc2Long hx hown (mvT hZ (hw _ (List.mem_of_getElem? (i := 7) rfl))) (g := (mkF m 52 #[.val (.long p1), .second, .val (.int p2), .val (.long (((p1 &&& (9223372036854775807 : Int64)).toUInt64 >>> ((p2 &&& (63 : Int32)) &&& 0x3f).toInt64.toUInt64).toInt64)), .second, .unset, .unset, .unset, .unset] [(.int (6 : Int32)), (.ref b_1), (.ref b_1)])) rfl (hb hby at_52) _ k) ?_
  obtain ⟨cl_8, Ar_8, q_8, Sz_8, Ng_8, Hh_8, Gg_8⟩ := id V_7
  have hin_8 : ¬ ((6 : Int32) < 0 ∨ cl_8.slots.size ≤ ((6 : Int32)).toNatClampNeg) := inb_of Sz_8 ⟨by decide, by decide⟩
  obtain ⟨T_8, h_8, X_8, e_8, W_8, st_8⟩ := stJ X_7 hx hZ e_7 Ar_8 (j := (6 : Int32)) hin_8 (g := (mkF m 55 #[.val (.long p1), .second, .val (.int p2), .val (.long (((p1 &&& (9223372036854775807 : Int64)).toUInt64 >>> ((p2 &&& (63 : Int32)) &&& 0x3f).toInt64.toUInt64).toInt64)), .second, .unset, .unset, .unset, .unset] [(.long (1000000 : Int64)), (.int (6 : Int32)), (.ref b_1), (.ref b_1)])) rfl rfl (hb hby at_55)
  have N_8 := Fr.snoc X_8 N_7 g_b_1
  have V_8 : Arv Z h_8 b_1 k_1 .long (19 : Int32) [(.long (1 : Int64)), (.long (10 : Int64)), (.long (100 : Int64)), (.long (1000 : Int64)), (.long (10000 : Int64)), (.long (100000 : Int64)), (.long (1000000 : Int64)), (.long (0 : Int64)), (.long (0 : Int64)), (.long (0 : Int64)), (.long (0 : Int64)), (.long (0 : Int64)), (.long (0 : Int64)), (.long (0 : Int64)), (.long (0 : Int64)), (.long (0 : Int64)), (.long (0 : Int64)), (.long (0 : Int64)), (.long (0 : Int64))] (.long (0 : Int64)) := Arv.set Ar_8 q_8 Sz_8 Ng_8 Hh_8 Gg_8 rfl W_8 6 rfl (Nat.le_of_ble_eq_true rfl)
  refine Go.to (mkF m 56 #[.val (.long p1), .second, .val (.int p2), .val (.long (((p1 &&& (9223372036854775807 : Int64)).toUInt64 >>> ((p2 &&& (63 : Int32)) &&& 0x3f).toInt64.toUInt64).toInt64)), .second, .unset, .unset, .unset, .unset] [(.ref b_1)]) st_8 ?_
  refine Go.to (mkF m 57 #[.val (.long p1), .second, .val (.int p2), .val (.long (((p1 &&& (9223372036854775807 : Int64)).toUInt64 >>> ((p2 &&& (63 : Int32)) &&& 0x3f).toInt64.toUInt64).toInt64)), .second, .unset, .unset, .unset, .unset] [(.ref b_1), (.ref b_1)]) (fun _ k => XS.dup X_8.here hx rfl (hb hby at_56) rfl rfl k) ?_
  refine Go.to (mkF m 59 #[.val (.long p1), .second, .val (.int p2), .val (.long (((p1 &&& (9223372036854775807 : Int64)).toUInt64 >>> ((p2 &&& (63 : Int32)) &&& 0x3f).toInt64.toUInt64).toInt64)), .second, .unset, .unset, .unset, .unset] [(.int (7 : Int32)), (.ref b_1), (.ref b_1)]) (fun _ k => XS.bipush X_8.here hx rfl (hb hby at_57) k) ?_
  refine Go.to (mkF m 62 #[.val (.long p1), .second, .val (.int p2), .val (.long (((p1 &&& (9223372036854775807 : Int64)).toUInt64 >>> ((p2 &&& (63 : Int32)) &&& 0x3f).toInt64.toUInt64).toInt64)), .second, .unset, .unset, .unset, .unset] [(.long (10000000 : Int64)), (.int (7 : Int32)), (.ref b_1), (.ref b_1)]) (fun _ k => X_8.ldc2Long hx hown (mvT hZ (hw _ (List.mem_of_getElem? (i := 8) rfl))) (g := (mkF m 59 #[.val (.long p1), .second, .val (.int p2), .val (.long (((p1 &&& (9223372036854775807 : Int64)).toUInt64 >>> ((p2 &&& (63 : Int32)) &&& 0x3f).toInt64.toUInt64).toInt64)), .second, .unset, .unset, .unset, .unset] [(.int (7 : Int32)), (.ref b_1), (.ref b_1)])) rfl (hb hby at_59) _ k) ?_
  obtain ⟨cl_9, Ar_9, q_9, Sz_9, Ng_9, Hh_9, Gg_9⟩ := id V_8
  have hin_9 : ¬ ((7 : Int32) < 0 ∨ cl_9.slots.size ≤ ((7 : Int32)).toNatClampNeg) := inb_of Sz_9 ⟨by decide, by decide⟩
  obtain ⟨T_9, h_9, X_9, e_9, W_9, st_9⟩ := stJ X_8 hx hZ e_8 Ar_9 (j := (7 : Int32)) hin_9 (g := (mkF m 62 #[.val (.long p1), .second, .val (.int p2), .val (.long (((p1 &&& (9223372036854775807 : Int64)).toUInt64 >>> ((p2 &&& (63 : Int32)) &&& 0x3f).toInt64.toUInt64).toInt64)), .second, .unset, .unset, .unset, .unset] [(.long (10000000 : Int64)), (.int (7 : Int32)), (.ref b_1), (.ref b_1)])) rfl rfl (hb hby at_62)
  have N_9 := Fr.snoc X_9 N_8 g_b_1
  have V_9 : Arv Z h_9 b_1 k_1 .long (19 : Int32) [(.long (1 : Int64)), (.long (10 : Int64)), (.long (100 : Int64)), (.long (1000 : Int64)), (.long (10000 : Int64)), (.long (100000 : Int64)), (.long (1000000 : Int64)), (.long (10000000 : Int64)), (.long (0 : Int64)), (.long (0 : Int64)), (.long (0 : Int64)), (.long (0 : Int64)), (.long (0 : Int64)), (.long (0 : Int64)), (.long (0 : Int64)), (.long (0 : Int64)), (.long (0 : Int64)), (.long (0 : Int64)), (.long (0 : Int64))] (.long (0 : Int64)) := Arv.set Ar_9 q_9 Sz_9 Ng_9 Hh_9 Gg_9 rfl W_9 7 rfl (Nat.le_of_ble_eq_true rfl)
  refine Go.to (mkF m 63 #[.val (.long p1), .second, .val (.int p2), .val (.long (((p1 &&& (9223372036854775807 : Int64)).toUInt64 >>> ((p2 &&& (63 : Int32)) &&& 0x3f).toInt64.toUInt64).toInt64)), .second, .unset, .unset, .unset, .unset] [(.ref b_1)]) st_9 ?_
  refine Go.to (mkF m 64 #[.val (.long p1), .second, .val (.int p2), .val (.long (((p1 &&& (9223372036854775807 : Int64)).toUInt64 >>> ((p2 &&& (63 : Int32)) &&& 0x3f).toInt64.toUInt64).toInt64)), .second, .unset, .unset, .unset, .unset] [(.ref b_1), (.ref b_1)]) (fun _ k => XS.dup X_9.here hx rfl (hb hby at_63) rfl rfl k) ?_
  refine Go.to (mkF m 66 #[.val (.long p1), .second, .val (.int p2), .val (.long (((p1 &&& (9223372036854775807 : Int64)).toUInt64 >>> ((p2 &&& (63 : Int32)) &&& 0x3f).toInt64.toUInt64).toInt64)), .second, .unset, .unset, .unset, .unset] [(.int (8 : Int32)), (.ref b_1), (.ref b_1)]) (fun _ k => XS.bipush X_9.here hx rfl (hb hby at_64) k) ?_
  refine Go.to (mkF m 69 #[.val (.long p1), .second, .val (.int p2), .val (.long (((p1 &&& (9223372036854775807 : Int64)).toUInt64 >>> ((p2 &&& (63 : Int32)) &&& 0x3f).toInt64.toUInt64).toInt64)), .second, .unset, .unset, .unset, .unset] [(.long (100000000 : Int64)), (.int (8 : Int32)), (.ref b_1), (.ref b_1)]) (fun _ k => X_9.ldc2Long hx hown (mvT hZ (hw _ (List.mem_of_getElem? (i := 9) rfl))) (g := (mkF m 66 #[.val (.long p1), .second, .val (.int p2), .val (.long (((p1 &&& (9223372036854775807 : Int64)).toUInt64 >>> ((p2 &&& (63 : Int32)) &&& 0x3f).toInt64.toUInt64).toInt64)), .second, .unset, .unset, .unset, .unset] [(.int (8 : Int32)), (.ref b_1), (.ref b_1)])) rfl (hb hby at_66) _ k) ?_
  obtain ⟨cl_10, Ar_10, q_10, Sz_10, Ng_10, Hh_10, Gg_10⟩ := id V_9
  have hin_10 : ¬ ((8 : Int32) < 0 ∨ cl_10.slots.size ≤ ((8 : Int32)).toNatClampNeg) := inb_of Sz_10 ⟨by decide, by decide⟩
  obtain ⟨T_10, h_10, X_10, e_10, W_10, st_10⟩ := stJ X_9 hx hZ e_9 Ar_10 (j := (8 : Int32)) hin_10 (g := (mkF m 69 #[.val (.long p1), .second, .val (.int p2), .val (.long (((p1 &&& (9223372036854775807 : Int64)).toUInt64 >>> ((p2 &&& (63 : Int32)) &&& 0x3f).toInt64.toUInt64).toInt64)), .second, .unset, .unset, .unset, .unset] [(.long (100000000 : Int64)), (.int (8 : Int32)), (.ref b_1), (.ref b_1)])) rfl rfl (hb hby at_69)
  have N_10 := Fr.snoc X_10 N_9 g_b_1
  have V_10 : Arv Z h_10 b_1 k_1 .long (19 : Int32) [(.long (1 : Int64)), (.long (10 : Int64)), (.long (100 : Int64)), (.long (1000 : Int64)), (.long (10000 : Int64)), (.long (100000 : Int64)), (.long (1000000 : Int64)), (.long (10000000 : Int64)), (.long (100000000 : Int64)), (.long (0 : Int64)), (.long (0 : Int64)), (.long (0 : Int64)), (.long (0 : Int64)), (.long (0 : Int64)), (.long (0 : Int64)), (.long (0 : Int64)), (.long (0 : Int64)), (.long (0 : Int64)), (.long (0 : Int64))] (.long (0 : Int64)) := Arv.set Ar_10 q_10 Sz_10 Ng_10 Hh_10 Gg_10 rfl W_10 8 rfl (Nat.le_of_ble_eq_true rfl)
  refine Go.to (mkF m 70 #[.val (.long p1), .second, .val (.int p2), .val (.long (((p1 &&& (9223372036854775807 : Int64)).toUInt64 >>> ((p2 &&& (63 : Int32)) &&& 0x3f).toInt64.toUInt64).toInt64)), .second, .unset, .unset, .unset, .unset] [(.ref b_1)]) st_10 ?_
  refine Go.to (mkF m 71 #[.val (.long p1), .second, .val (.int p2), .val (.long (((p1 &&& (9223372036854775807 : Int64)).toUInt64 >>> ((p2 &&& (63 : Int32)) &&& 0x3f).toInt64.toUInt64).toInt64)), .second, .unset, .unset, .unset, .unset] [(.ref b_1), (.ref b_1)]) (fun _ k => XS.dup X_10.here hx rfl (hb hby at_70) rfl rfl k) ?_
  refine Go.to (mkF m 73 #[.val (.long p1), .second, .val (.int p2), .val (.long (((p1 &&& (9223372036854775807 : Int64)).toUInt64 >>> ((p2 &&& (63 : Int32)) &&& 0x3f).toInt64.toUInt64).toInt64)), .second, .unset, .unset, .unset, .unset] [(.int (9 : Int32)), (.ref b_1), (.ref b_1)]) (fun _ k => XS.bipush X_10.here hx rfl (hb hby at_71) k) ?_
  refine Go.to (mkF m 76 #[.val (.long p1), .second, .val (.int p2), .val (.long (((p1 &&& (9223372036854775807 : Int64)).toUInt64 >>> ((p2 &&& (63 : Int32)) &&& 0x3f).toInt64.toUInt64).toInt64)), .second, .unset, .unset, .unset, .unset] [(.long (1000000000 : Int64)), (.int (9 : Int32)), (.ref b_1), (.ref b_1)]) (fun _ k => X_10.ldc2Long hx hown (mvT hZ (hw _ (List.mem_of_getElem? (i := 10) rfl))) (g := (mkF m 73 #[.val (.long p1), .second, .val (.int p2), .val (.long (((p1 &&& (9223372036854775807 : Int64)).toUInt64 >>> ((p2 &&& (63 : Int32)) &&& 0x3f).toInt64.toUInt64).toInt64)), .second, .unset, .unset, .unset, .unset] [(.int (9 : Int32)), (.ref b_1), (.ref b_1)])) rfl (hb hby at_73) _ k) ?_
  obtain ⟨cl_11, Ar_11, q_11, Sz_11, Ng_11, Hh_11, Gg_11⟩ := id V_10
  have hin_11 : ¬ ((9 : Int32) < 0 ∨ cl_11.slots.size ≤ ((9 : Int32)).toNatClampNeg) := inb_of Sz_11 ⟨by decide, by decide⟩
  obtain ⟨T_11, h_11, X_11, e_11, W_11, st_11⟩ := stJ X_10 hx hZ e_10 Ar_11 (j := (9 : Int32)) hin_11 (g := (mkF m 76 #[.val (.long p1), .second, .val (.int p2), .val (.long (((p1 &&& (9223372036854775807 : Int64)).toUInt64 >>> ((p2 &&& (63 : Int32)) &&& 0x3f).toInt64.toUInt64).toInt64)), .second, .unset, .unset, .unset, .unset] [(.long (1000000000 : Int64)), (.int (9 : Int32)), (.ref b_1), (.ref b_1)])) rfl rfl (hb hby at_76)
  have N_11 := Fr.snoc X_11 N_10 g_b_1
  have V_11 : Arv Z h_11 b_1 k_1 .long (19 : Int32) [(.long (1 : Int64)), (.long (10 : Int64)), (.long (100 : Int64)), (.long (1000 : Int64)), (.long (10000 : Int64)), (.long (100000 : Int64)), (.long (1000000 : Int64)), (.long (10000000 : Int64)), (.long (100000000 : Int64)), (.long (1000000000 : Int64)), (.long (0 : Int64)), (.long (0 : Int64)), (.long (0 : Int64)), (.long (0 : Int64)), (.long (0 : Int64)), (.long (0 : Int64)), (.long (0 : Int64)), (.long (0 : Int64)), (.long (0 : Int64))] (.long (0 : Int64)) := Arv.set Ar_11 q_11 Sz_11 Ng_11 Hh_11 Gg_11 rfl W_11 9 rfl (Nat.le_of_ble_eq_true rfl)
  refine Go.to (mkF m 77 #[.val (.long p1), .second, .val (.int p2), .val (.long (((p1 &&& (9223372036854775807 : Int64)).toUInt64 >>> ((p2 &&& (63 : Int32)) &&& 0x3f).toInt64.toUInt64).toInt64)), .second, .unset, .unset, .unset, .unset] [(.ref b_1)]) st_11 ?_
  refine Go.to (mkF m 78 #[.val (.long p1), .second, .val (.int p2), .val (.long (((p1 &&& (9223372036854775807 : Int64)).toUInt64 >>> ((p2 &&& (63 : Int32)) &&& 0x3f).toInt64.toUInt64).toInt64)), .second, .unset, .unset, .unset, .unset] [(.ref b_1), (.ref b_1)]) (fun _ k => XS.dup X_11.here hx rfl (hb hby at_77) rfl rfl k) ?_
  refine Go.to (mkF m 80 #[.val (.long p1), .second, .val (.int p2), .val (.long (((p1 &&& (9223372036854775807 : Int64)).toUInt64 >>> ((p2 &&& (63 : Int32)) &&& 0x3f).toInt64.toUInt64).toInt64)), .second, .unset, .unset, .unset, .unset] [(.int (10 : Int32)), (.ref b_1), (.ref b_1)]) (fun _ k => XS.bipush X_11.here hx rfl (hb hby at_78) k) ?_
  refine Go.to (mkF m 83 #[.val (.long p1), .second, .val (.int p2), .val (.long (((p1 &&& (9223372036854775807 : Int64)).toUInt64 >>> ((p2 &&& (63 : Int32)) &&& 0x3f).toInt64.toUInt64).toInt64)), .second, .unset, .unset, .unset, .unset] [(.long (10000000000 : Int64)), (.int (10 : Int32)), (.ref b_1), (.ref b_1)]) (fun _ k => X_11.ldc2Long hx hown (mvT hZ (hw _ (List.mem_of_getElem? (i := 11) rfl))) (g := (mkF m 80 #[.val (.long p1), .second, .val (.int p2), .val (.long (((p1 &&& (9223372036854775807 : Int64)).toUInt64 >>> ((p2 &&& (63 : Int32)) &&& 0x3f).toInt64.toUInt64).toInt64)), .second, .unset, .unset, .unset, .unset] [(.int (10 : Int32)), (.ref b_1), (.ref b_1)])) rfl (hb hby at_80) _ k) ?_
  obtain ⟨cl_12, Ar_12, q_12, Sz_12, Ng_12, Hh_12, Gg_12⟩ := id V_11
  have hin_12 : ¬ ((10 : Int32) < 0 ∨ cl_12.slots.size ≤ ((10 : Int32)).toNatClampNeg) := inb_of Sz_12 ⟨by decide, by decide⟩
  obtain ⟨T_12, h_12, X_12, e_12, W_12, st_12⟩ := stJ X_11 hx hZ e_11 Ar_12 (j := (10 : Int32)) hin_12 (g := (mkF m 83 #[.val (.long p1), .second, .val (.int p2), .val (.long (((p1 &&& (9223372036854775807 : Int64)).toUInt64 >>> ((p2 &&& (63 : Int32)) &&& 0x3f).toInt64.toUInt64).toInt64)), .second, .unset, .unset, .unset, .unset] [(.long (10000000000 : Int64)), (.int (10 : Int32)), (.ref b_1), (.ref b_1)])) rfl rfl (hb hby at_83)
  have N_12 := Fr.snoc X_12 N_11 g_b_1
  have V_12 : Arv Z h_12 b_1 k_1 .long (19 : Int32) [(.long (1 : Int64)), (.long (10 : Int64)), (.long (100 : Int64)), (.long (1000 : Int64)), (.long (10000 : Int64)), (.long (100000 : Int64)), (.long (1000000 : Int64)), (.long (10000000 : Int64)), (.long (100000000 : Int64)), (.long (1000000000 : Int64)), (.long (10000000000 : Int64)), (.long (0 : Int64)), (.long (0 : Int64)), (.long (0 : Int64)), (.long (0 : Int64)), (.long (0 : Int64)), (.long (0 : Int64)), (.long (0 : Int64)), (.long (0 : Int64))] (.long (0 : Int64)) := Arv.set Ar_12 q_12 Sz_12 Ng_12 Hh_12 Gg_12 rfl W_12 10 rfl (Nat.le_of_ble_eq_true rfl)
  refine Go.to (mkF m 84 #[.val (.long p1), .second, .val (.int p2), .val (.long (((p1 &&& (9223372036854775807 : Int64)).toUInt64 >>> ((p2 &&& (63 : Int32)) &&& 0x3f).toInt64.toUInt64).toInt64)), .second, .unset, .unset, .unset, .unset] [(.ref b_1)]) st_12 ?_
  refine Go.to (mkF m 85 #[.val (.long p1), .second, .val (.int p2), .val (.long (((p1 &&& (9223372036854775807 : Int64)).toUInt64 >>> ((p2 &&& (63 : Int32)) &&& 0x3f).toInt64.toUInt64).toInt64)), .second, .unset, .unset, .unset, .unset] [(.ref b_1), (.ref b_1)]) (fun _ k => XS.dup X_12.here hx rfl (hb hby at_84) rfl rfl k) ?_
  refine Go.to (mkF m 87 #[.val (.long p1), .second, .val (.int p2), .val (.long (((p1 &&& (9223372036854775807 : Int64)).toUInt64 >>> ((p2 &&& (63 : Int32)) &&& 0x3f).toInt64.toUInt64).toInt64)), .second, .unset, .unset, .unset, .unset] [(.int (11 : Int32)), (.ref b_1), (.ref b_1)]) (fun _ k => XS.bipush X_12.here hx rfl (hb hby at_85) k) ?_
  refine Go.to (mkF m 90 #[.val (.long p1), .second, .val (.int p2), .val (.long (((p1 &&& (9223372036854775807 : Int64)).toUInt64 >>> ((p2 &&& (63 : Int32)) &&& 0x3f).toInt64.toUInt64).toInt64)), .second, .unset, .unset, .unset, .unset] [(.long (100000000000 : Int64)), (.int (11 : Int32)), (.ref b_1), (.ref b_1)]) (fun _ k => X_12.ldc2Long hx hown (mvT hZ (hw _ (List.mem_of_getElem? (i := 12) rfl))) (g := (mkF m 87 #[.val (.long p1), .second, .val (.int p2), .val (.long (((p1 &&& (9223372036854775807 : Int64)).toUInt64 >>> ((p2 &&& (63 : Int32)) &&& 0x3f).toInt64.toUInt64).toInt64)), .second, .unset, .unset, .unset, .unset] [(.int (11 : Int32)), (.ref b_1), (.ref b_1)])) rfl (hb hby at_87) _ k) ?_
  obtain ⟨cl_13, Ar_13, q_13, Sz_13, Ng_13, Hh_13, Gg_13⟩ := id V_12
  have hin_13 : ¬ ((11 : Int32) < 0 ∨ cl_13.slots.size ≤ ((11 : Int32)).toNatClampNeg) := inb_of Sz_13 ⟨by decide, by decide⟩
  obtain ⟨T_13, h_13, X_13, e_13, W_13, st_13⟩ := stJ X_12 hx hZ e_12 Ar_13 (j := (11 : Int32)) hin_13 (g := (mkF m 90 #[.val (.long p1), .second, .val (.int p2), .val (.long (((p1 &&& (9223372036854775807 : Int64)).toUInt64 >>> ((p2 &&& (63 : Int32)) &&& 0x3f).toInt64.toUInt64).toInt64)), .second, .unset, .unset, .unset, .unset] [(.long (100000000000 : Int64)), (.int (11 : Int32)), (.ref b_1), (.ref b_1)])) rfl rfl (hb hby at_90)
  have N_13 := Fr.snoc X_13 N_12 g_b_1
  have V_13 : Arv Z h_13 b_1 k_1 .long (19 : Int32) [(.long (1 : Int64)), (.long (10 : Int64)), (.long (100 : Int64)), (.long (1000 : Int64)), (.long (10000 : Int64)), (.long (100000 : Int64)), (.long (1000000 : Int64)), (.long (10000000 : Int64)), (.long (100000000 : Int64)), (.long (1000000000 : Int64)), (.long (10000000000 : Int64)), (.long (100000000000 : Int64)), (.long (0 : Int64)), (.long (0 : Int64)), (.long (0 : Int64)), (.long (0 : Int64)), (.long (0 : Int64)), (.long (0 : Int64)), (.long (0 : Int64))] (.long (0 : Int64)) := Arv.set Ar_13 q_13 Sz_13 Ng_13 Hh_13 Gg_13 rfl W_13 11 rfl (Nat.le_of_ble_eq_true rfl)
  refine Go.to (mkF m 91 #[.val (.long p1), .second, .val (.int p2), .val (.long (((p1 &&& (9223372036854775807 : Int64)).toUInt64 >>> ((p2 &&& (63 : Int32)) &&& 0x3f).toInt64.toUInt64).toInt64)), .second, .unset, .unset, .unset, .unset] [(.ref b_1)]) st_13 ?_
  refine Go.to (mkF m 92 #[.val (.long p1), .second, .val (.int p2), .val (.long (((p1 &&& (9223372036854775807 : Int64)).toUInt64 >>> ((p2 &&& (63 : Int32)) &&& 0x3f).toInt64.toUInt64).toInt64)), .second, .unset, .unset, .unset, .unset] [(.ref b_1), (.ref b_1)]) (fun _ k => XS.dup X_13.here hx rfl (hb hby at_91) rfl rfl k) ?_
  refine Go.to (mkF m 94 #[.val (.long p1), .second, .val (.int p2), .val (.long (((p1 &&& (9223372036854775807 : Int64)).toUInt64 >>> ((p2 &&& (63 : Int32)) &&& 0x3f).toInt64.toUInt64).toInt64)), .second, .unset, .unset, .unset, .unset] [(.int (12 : Int32)), (.ref b_1), (.ref b_1)]) (fun _ k => XS.bipush X_13.here hx rfl (hb hby at_92) k) ?_
  refine Go.to (mkF m 97 #[.val (.long p1), .second, .val (.int p2), .val (.long (((p1 &&& (9223372036854775807 : Int64)).toUInt64 >>> ((p2 &&& (63 : Int32)) &&& 0x3f).toInt64.toUInt64).toInt64)), .second, .unset, .unset, .unset, .unset] [(.long (1000000000000 : Int64)), (.int (12 : Int32)), (.ref b_1), (.ref b_1)]) (fun _ k => X_13.ldc2Long hx hown (mvT hZ (hw _ (List.mem_of_getElem? (i := 13) rfl))) (g := (mkF m 94 #[.val (.long p1), .second, .val (.int p2), .val (.long (((p1 &&& (9223372036854775807 : Int64)).toUInt64 >>> ((p2 &&& (63 : Int32)) &&& 0x3f).toInt64.toUInt64).toInt64)), .second, .unset, .unset, .unset, .unset] [(.int (12 : Int32)), (.ref b_1), (.ref b_1)])) rfl (hb hby at_94) _ k) ?_
  obtain ⟨cl_14, Ar_14, q_14, Sz_14, Ng_14, Hh_14, Gg_14⟩ := id V_13
  have hin_14 : ¬ ((12 : Int32) < 0 ∨ cl_14.slots.size ≤ ((12 : Int32)).toNatClampNeg) := inb_of Sz_14 ⟨by decide, by decide⟩
  obtain ⟨T_14, h_14, X_14, e_14, W_14, st_14⟩ := stJ X_13 hx hZ e_13 Ar_14 (j := (12 : Int32)) hin_14 (g := (mkF m 97 #[.val (.long p1), .second, .val (.int p2), .val (.long (((p1 &&& (9223372036854775807 : Int64)).toUInt64 >>> ((p2 &&& (63 : Int32)) &&& 0x3f).toInt64.toUInt64).toInt64)), .second, .unset, .unset, .unset, .unset] [(.long (1000000000000 : Int64)), (.int (12 : Int32)), (.ref b_1), (.ref b_1)])) rfl rfl (hb hby at_97)
  have N_14 := Fr.snoc X_14 N_13 g_b_1
  have V_14 : Arv Z h_14 b_1 k_1 .long (19 : Int32) [(.long (1 : Int64)), (.long (10 : Int64)), (.long (100 : Int64)), (.long (1000 : Int64)), (.long (10000 : Int64)), (.long (100000 : Int64)), (.long (1000000 : Int64)), (.long (10000000 : Int64)), (.long (100000000 : Int64)), (.long (1000000000 : Int64)), (.long (10000000000 : Int64)), (.long (100000000000 : Int64)), (.long (1000000000000 : Int64)), (.long (0 : Int64)), (.long (0 : Int64)), (.long (0 : Int64)), (.long (0 : Int64)), (.long (0 : Int64)), (.long (0 : Int64))] (.long (0 : Int64)) := Arv.set Ar_14 q_14 Sz_14 Ng_14 Hh_14 Gg_14 rfl W_14 12 rfl (Nat.le_of_ble_eq_true rfl)
  refine Go.to (mkF m 98 #[.val (.long p1), .second, .val (.int p2), .val (.long (((p1 &&& (9223372036854775807 : Int64)).toUInt64 >>> ((p2 &&& (63 : Int32)) &&& 0x3f).toInt64.toUInt64).toInt64)), .second, .unset, .unset, .unset, .unset] [(.ref b_1)]) st_14 ?_
  refine Go.to (mkF m 99 #[.val (.long p1), .second, .val (.int p2), .val (.long (((p1 &&& (9223372036854775807 : Int64)).toUInt64 >>> ((p2 &&& (63 : Int32)) &&& 0x3f).toInt64.toUInt64).toInt64)), .second, .unset, .unset, .unset, .unset] [(.ref b_1), (.ref b_1)]) (fun _ k => XS.dup X_14.here hx rfl (hb hby at_98) rfl rfl k) ?_
  refine Go.to (mkF m 101 #[.val (.long p1), .second, .val (.int p2), .val (.long (((p1 &&& (9223372036854775807 : Int64)).toUInt64 >>> ((p2 &&& (63 : Int32)) &&& 0x3f).toInt64.toUInt64).toInt64)), .second, .unset, .unset, .unset, .unset] [(.int (13 : Int32)), (.ref b_1), (.ref b_1)]) (fun _ k => XS.bipush X_14.here hx rfl (hb hby at_99) k) ?_
  refine Go.to (mkF m 104 #[.val (.long p1), .second, .val (.int p2), .val (.long (((p1 &&& (9223372036854775807 : Int64)).toUInt64 >>> ((p2 &&& (63 : Int32)) &&& 0x3f).toInt64.toUInt64).toInt64)), .second, .unset, .unset, .unset, .unset] [(.long (10000000000000 : Int64)), (.int (13 : Int32)), (.ref b_1), (.ref b_1)]) (fun _ k => X_14.ldc2Long hx hown (mvT hZ (hw _ (List.mem_of_getElem? (i := 14) rfl))) (g := (mkF m 101 #[.val (.long p1), .second, .val (.int p2), .val (.long (((p1 &&& (9223372036854775807 : Int64)).toUInt64 >>> ((p2 &&& (63 : Int32)) &&& 0x3f).toInt64.toUInt64).toInt64)), .second, .unset, .unset, .unset, .unset] [(.int (13 : Int32)), (.ref b_1), (.ref b_1)])) rfl (hb hby at_101) _ k) ?_
  obtain ⟨cl_15, Ar_15, q_15, Sz_15, Ng_15, Hh_15, Gg_15⟩ := id V_14
  have hin_15 : ¬ ((13 : Int32) < 0 ∨ cl_15.slots.size ≤ ((13 : Int32)).toNatClampNeg) := inb_of Sz_15 ⟨by decide, by decide⟩
  obtain ⟨T_15, h_15, X_15, e_15, W_15, st_15⟩ := stJ X_14 hx hZ e_14 Ar_15 (j := (13 : Int32)) hin_15 (g := (mkF m 104 #[.val (.long p1), .second, .val (.int p2), .val (.long (((p1 &&& (9223372036854775807 : Int64)).toUInt64 >>> ((p2 &&& (63 : Int32)) &&& 0x3f).toInt64.toUInt64).toInt64)), .second, .unset, .unset, .unset, .unset] [(.long (10000000000000 : Int64)), (.int (13 : Int32)), (.ref b_1), (.ref b_1)])) rfl rfl (hb hby at_104)
  have N_15 := Fr.snoc X_15 N_14 g_b_1
  have V_15 : Arv Z h_15 b_1 k_1 .long (19 : Int32) [(.long (1 : Int64)), (.long (10 : Int64)), (.long (100 : Int64)), (.long (1000 : Int64)), (.long (10000 : Int64)), (.long (100000 : Int64)), (.long (1000000 : Int64)), (.long (10000000 : Int64)), (.long (100000000 : Int64)), (.long (1000000000 : Int64)), (.long (10000000000 : Int64)), (.long (100000000000 : Int64)), (.long (1000000000000 : Int64)), (.long (10000000000000 : Int64)), (.long (0 : Int64)), (.long (0 : Int64)), (.long (0 : Int64)), (.long (0 : Int64)), (.long (0 : Int64))] (.long (0 : Int64)) := Arv.set Ar_15 q_15 Sz_15 Ng_15 Hh_15 Gg_15 rfl W_15 13 rfl (Nat.le_of_ble_eq_true rfl)
  refine Go.to (mkF m 105 #[.val (.long p1), .second, .val (.int p2), .val (.long (((p1 &&& (9223372036854775807 : Int64)).toUInt64 >>> ((p2 &&& (63 : Int32)) &&& 0x3f).toInt64.toUInt64).toInt64)), .second, .unset, .unset, .unset, .unset] [(.ref b_1)]) st_15 ?_
  refine Go.to (mkF m 106 #[.val (.long p1), .second, .val (.int p2), .val (.long (((p1 &&& (9223372036854775807 : Int64)).toUInt64 >>> ((p2 &&& (63 : Int32)) &&& 0x3f).toInt64.toUInt64).toInt64)), .second, .unset, .unset, .unset, .unset] [(.ref b_1), (.ref b_1)]) (fun _ k => XS.dup X_15.here hx rfl (hb hby at_105) rfl rfl k) ?_
  refine Go.to (mkF m 108 #[.val (.long p1), .second, .val (.int p2), .val (.long (((p1 &&& (9223372036854775807 : Int64)).toUInt64 >>> ((p2 &&& (63 : Int32)) &&& 0x3f).toInt64.toUInt64).toInt64)), .second, .unset, .unset, .unset, .unset] [(.int (14 : Int32)), (.ref b_1), (.ref b_1)]) (fun _ k => XS.bipush X_15.here hx rfl (hb hby at_106) k) ?_
  refine Go.to (mkF m 111 #[.val (.long p1), .second, .val (.int p2), .val (.long (((p1 &&& (9223372036854775807 : Int64)).toUInt64 >>> ((p2 &&& (63 : Int32)) &&& 0x3f).toInt64.toUInt64).toInt64)), .second, .unset, .unset, .unset, .unset] [(.long (100000000000000 : Int64)), (.int (14 : Int32)), (.ref b_1), (.ref b_1)]) (fun _ k => X_15.ldc2Long hx hown (mvT hZ (hw _ (List.mem_of_getElem? (i := 15) rfl))) (g := (mkF m 108 #[.val (.long p1), .second, .val (.int p2), .val (.long (((p1 &&& (9223372036854775807 : Int64)).toUInt64 >>> ((p2 &&& (63 : Int32)) &&& 0x3f).toInt64.toUInt64).toInt64)), .second, .unset, .unset, .unset, .unset] [(.int (14 : Int32)), (.ref b_1), (.ref b_1)])) rfl (hb hby at_108) _ k) ?_
  obtain ⟨cl_16, Ar_16, q_16, Sz_16, Ng_16, Hh_16, Gg_16⟩ := id V_15
  have hin_16 : ¬ ((14 : Int32) < 0 ∨ cl_16.slots.size ≤ ((14 : Int32)).toNatClampNeg) := inb_of Sz_16 ⟨by decide, by decide⟩
  obtain ⟨T_16, h_16, X_16, e_16, W_16, st_16⟩ := stJ X_15 hx hZ e_15 Ar_16 (j := (14 : Int32)) hin_16 (g := (mkF m 111 #[.val (.long p1), .second, .val (.int p2), .val (.long (((p1 &&& (9223372036854775807 : Int64)).toUInt64 >>> ((p2 &&& (63 : Int32)) &&& 0x3f).toInt64.toUInt64).toInt64)), .second, .unset, .unset, .unset, .unset] [(.long (100000000000000 : Int64)), (.int (14 : Int32)), (.ref b_1), (.ref b_1)])) rfl rfl (hb hby at_111)
  have N_16 := Fr.snoc X_16 N_15 g_b_1
  have V_16 : Arv Z h_16 b_1 k_1 .long (19 : Int32) [(.long (1 : Int64)), (.long (10 : Int64)), (.long (100 : Int64)), (.long (1000 : Int64)), (.long (10000 : Int64)), (.long (100000 : Int64)), (.long (1000000 : Int64)), (.long (10000000 : Int64)), (.long (100000000 : Int64)), (.long (1000000000 : Int64)), (.long (10000000000 : Int64)), (.long (100000000000 : Int64)), (.long (1000000000000 : Int64)), (.long (10000000000000 : Int64)), (.long (100000000000000 : Int64)), (.long (0 : Int64)), (.long (0 : Int64)), (.long (0 : Int64)), (.long (0 : Int64))] (.long (0 : Int64)) := Arv.set Ar_16 q_16 Sz_16 Ng_16 Hh_16 Gg_16 rfl W_16 14 rfl (Nat.le_of_ble_eq_true rfl)
  refine Go.to (mkF m 112 #[.val (.long p1), .second, .val (.int p2), .val (.long (((p1 &&& (9223372036854775807 : Int64)).toUInt64 >>> ((p2 &&& (63 : Int32)) &&& 0x3f).toInt64.toUInt64).toInt64)), .second, .unset, .unset, .unset, .unset] [(.ref b_1)]) st_16 ?_
  refine Go.to (mkF m 113 #[.val (.long p1), .second, .val (.int p2), .val (.long (((p1 &&& (9223372036854775807 : Int64)).toUInt64 >>> ((p2 &&& (63 : Int32)) &&& 0x3f).toInt64.toUInt64).toInt64)), .second, .unset, .unset, .unset, .unset] [(.ref b_1), (.ref b_1)]) (fun _ k => XS.dup X_16.here hx rfl (hb hby at_112) rfl rfl k) ?_
  refine Go.to (mkF m 115 #[.val (.long p1), .second, .val (.int p2), .val (.long (((p1 &&& (9223372036854775807 : Int64)).toUInt64 >>> ((p2 &&& (63 : Int32)) &&& 0x3f).toInt64.toUInt64).toInt64)), .second, .unset, .unset, .unset, .unset] [(.int (15 : Int32)), (.ref b_1), (.ref b_1)]) (fun _ k => XS.bipush X_16.here hx rfl (hb hby at_113) k) ?_
  refine Go.to (mkF m 118 #[.val (.long p1), .second, .val (.int p2), .val (.long (((p1 &&& (9223372036854775807 : Int64)).toUInt64 >>> ((p2 &&& (63 : Int32)) &&& 0x3f).toInt64.toUInt64).toInt64)), .second, .unset, .unset, .unset, .unset] [(.long (1000000000000000 : Int64)), (.int (15 : Int32)), (.ref b_1), (.ref b_1)]) (fun _ k => X_16.ldc2Long hx hown (mvT hZ (hw _ (List.mem_of_getElem? (i := 16) rfl))) (g := (mkF m 115 #[.val (.long p1), .second, .val (.int p2), .val (.long (((p1 &&& (9223372036854775807 : Int64)).toUInt64 >>> ((p2 &&& (63 : Int32)) &&& 0x3f).toInt64.toUInt64).toInt64)), .second, .unset, .unset, .unset, .unset] [(.int (15 : Int32)), (.ref b_1), (.ref b_1)])) rfl (hb hby at_115) _ k) ?_
  obtain ⟨cl_17, Ar_17, q_17, Sz_17, Ng_17, Hh_17, Gg_17⟩ := id V_16
  have hin_17 : ¬ ((15 : Int32) < 0 ∨ cl_17.slots.size ≤ ((15 : Int32)).toNatClampNeg) := inb_of Sz_17 ⟨by decide, by decide⟩
  obtain ⟨T_17, h_17, X_17, e_17, W_17, st_17⟩ := stJ X_16 hx hZ e_16 Ar_17 (j := (15 : Int32)) hin_17 (g := (mkF m 118 #[.val (.long p1), .second, .val (.int p2), .val (.long (((p1 &&& (9223372036854775807 : Int64)).toUInt64 >>> ((p2 &&& (63 : Int32)) &&& 0x3f).toInt64.toUInt64).toInt64)), .second, .unset, .unset, .unset, .unset] [(.long (1000000000000000 : Int64)), (.int (15 : Int32)), (.ref b_1), (.ref b_1)])) rfl rfl (hb hby at_118)
  have N_17 := Fr.snoc X_17 N_16 g_b_1
  have V_17 : Arv Z h_17 b_1 k_1 .long (19 : Int32) [(.long (1 : Int64)), (.long (10 : Int64)), (.long (100 : Int64)), (.long (1000 : Int64)), (.long (10000 : Int64)), (.long (100000 : Int64)), (.long (1000000 : Int64)), (.long (10000000 : Int64)), (.long (100000000 : Int64)), (.long (1000000000 : Int64)), (.long (10000000000 : Int64)), (.long (100000000000 : Int64)), (.long (1000000000000 : Int64)), (.long (10000000000000 : Int64)), (.long (100000000000000 : Int64)), (.long (1000000000000000 : Int64)), (.long (0 : Int64)), (.long (0 : Int64)), (.long (0 : Int64))] (.long (0 : Int64)) := Arv.set Ar_17 q_17 Sz_17 Ng_17 Hh_17 Gg_17 rfl W_17 15 rfl (Nat.le_of_ble_eq_true rfl)
  refine Go.to (mkF m 119 #[.val (.long p1), .second, .val (.int p2), .val (.long (((p1 &&& (9223372036854775807 : Int64)).toUInt64 >>> ((p2 &&& (63 : Int32)) &&& 0x3f).toInt64.toUInt64).toInt64)), .second, .unset, .unset, .unset, .unset] [(.ref b_1)]) st_17 ?_
  refine Go.to (mkF m 120 #[.val (.long p1), .second, .val (.int p2), .val (.long (((p1 &&& (9223372036854775807 : Int64)).toUInt64 >>> ((p2 &&& (63 : Int32)) &&& 0x3f).toInt64.toUInt64).toInt64)), .second, .unset, .unset, .unset, .unset] [(.ref b_1), (.ref b_1)]) (fun _ k => XS.dup X_17.here hx rfl (hb hby at_119) rfl rfl k) ?_
  refine Go.to (mkF m 122 #[.val (.long p1), .second, .val (.int p2), .val (.long (((p1 &&& (9223372036854775807 : Int64)).toUInt64 >>> ((p2 &&& (63 : Int32)) &&& 0x3f).toInt64.toUInt64).toInt64)), .second, .unset, .unset, .unset, .unset] [(.int (16 : Int32)), (.ref b_1), (.ref b_1)]) (fun _ k => XS.bipush X_17.here hx rfl (hb hby at_120) k) ?_
  refine Go.to (mkF m 125 #[.val (.long p1), .second, .val (.int p2), .val (.long (((p1 &&& (9223372036854775807 : Int64)).toUInt64 >>> ((p2 &&& (63 : Int32)) &&& 0x3f).toInt64.toUInt64).toInt64)), .second, .unset, .unset, .unset, .unset] [(.long (10000000000000000 : Int64)), (.int (16 : Int32)), (.ref b_1), (.ref b_1)]) (fun _ k => X_17.ldc2Long hx hown (mvT hZ (hw _ (List.mem_of_getElem? (i := 17) rfl))) (g := (mkF m 122 #[.val (.long p1), .second, .val (.int p2), .val (.long (((p1 &&& (9223372036854775807 : Int64)).toUInt64 >>> ((p2 &&& (63 : Int32)) &&& 0x3f).toInt64.toUInt64).toInt64)), .second, .unset, .unset, .unset, .unset] [(.int (16 : Int32)), (.ref b_1), (.ref b_1)])) rfl (hb hby at_122) _ k) ?_
  obtain ⟨cl_18, Ar_18, q_18, Sz_18, Ng_18, Hh_18, Gg_18⟩ := id V_17
  have hin_18 : ¬ ((16 : Int32) < 0 ∨ cl_18.slots.size ≤ ((16 : Int32)).toNatClampNeg) := inb_of Sz_18 ⟨by decide, by decide⟩
  obtain ⟨T_18, h_18, X_18, e_18, W_18, st_18⟩ := stJ X_17 hx hZ e_17 Ar_18 (j := (16 : Int32)) hin_18 (g := (mkF m 125 #[.val (.long p1), .second, .val (.int p2), .val (.long (((p1 &&& (9223372036854775807 : Int64)).toUInt64 >>> ((p2 &&& (63 : Int32)) &&& 0x3f).toInt64.toUInt64).toInt64)), .second, .unset, .unset, .unset, .unset] [(.long (10000000000000000 : Int64)), (.int (16 : Int32)), (.ref b_1), (.ref b_1)])) rfl rfl (hb hby at_125)
  have N_18 := Fr.snoc X_18 N_17 g_b_1
  have V_18 : Arv Z h_18 b_1 k_1 .long (19 : Int32) [(.long (1 : Int64)), (.long (10 : Int64)), (.long (100 : Int64)), (.long (1000 : Int64)), (.long (10000 : Int64)), (.long (100000 : Int64)), (.long (1000000 : Int64)), (.long (10000000 : Int64)), (.long (100000000 : Int64)), (.long (1000000000 : Int64)), (.long (10000000000 : Int64)), (.long (100000000000 : Int64)), (.long (1000000000000 : Int64)), (.long (10000000000000 : Int64)), (.long (100000000000000 : Int64)), (.long (1000000000000000 : Int64)), (.long (10000000000000000 : Int64)), (.long (0 : Int64)), (.long (0 : Int64))] (.long (0 : Int64)) := Arv.set Ar_18 q_18 Sz_18 Ng_18 Hh_18 Gg_18 rfl W_18 16 rfl (Nat.le_of_ble_eq_true rfl)
  refine Go.to (mkF m 126 #[.val (.long p1), .second, .val (.int p2), .val (.long (((p1 &&& (9223372036854775807 : Int64)).toUInt64 >>> ((p2 &&& (63 : Int32)) &&& 0x3f).toInt64.toUInt64).toInt64)), .second, .unset, .unset, .unset, .unset] [(.ref b_1)]) st_18 ?_
  refine Go.to (mkF m 127 #[.val (.long p1), .second, .val (.int p2), .val (.long (((p1 &&& (9223372036854775807 : Int64)).toUInt64 >>> ((p2 &&& (63 : Int32)) &&& 0x3f).toInt64.toUInt64).toInt64)), .second, .unset, .unset, .unset, .unset] [(.ref b_1), (.ref b_1)]) (fun _ k => XS.dup X_18.here hx rfl (hb hby at_126) rfl rfl k) ?_
  refine Go.to (mkF m 129 #[.val (.long p1), .second, .val (.int p2), .val (.long (((p1 &&& (9223372036854775807 : Int64)).toUInt64 >>> ((p2 &&& (63 : Int32)) &&& 0x3f).toInt64.toUInt64).toInt64)), .second, .unset, .unset, .unset, .unset] [(.int (17 : Int32)), (.ref b_1), (.ref b_1)]) (fun _ k => XS.bipush X_18.here hx rfl (hb hby at_127) k) ?_
  refine Go.to (mkF m 132 #[.val (.long p1), .second, .val (.int p2), .val (.long (((p1 &&& (9223372036854775807 : Int64)).toUInt64 >>> ((p2 &&& (63 : Int32)) &&& 0x3f).toInt64.toUInt64).toInt64)), .second, .unset, .unset, .unset, .unset] [(.long (100000000000000000 : Int64)), (.int (17 : Int32)), (.ref b_1), (.ref b_1)]) (fun _ k => X_18.ldc2Long hx hown (mvT hZ (hw _ (List.mem_of_getElem? (i := 18) rfl))) (g := (mkF m 129 #[.val (.long p1), .second, .val (.int p2), .val (.long (((p1 &&& (9223372036854775807 : Int64)).toUInt64 >>> ((p2 &&& (63 : Int32)) &&& 0x3f).toInt64.toUInt64).toInt64)), .second, .unset, .unset, .unset, .unset] [(.int (17 : Int32)), (.ref b_1), (.ref b_1)])) rfl (hb hby at_129) _ k) ?_
  obtain ⟨cl_19, Ar_19, q_19, Sz_19, Ng_19, Hh_19, Gg_19⟩ := id V_18
  have hin_19 : ¬ ((17 : Int32) < 0 ∨ cl_19.slots.size ≤ ((17 : Int32)).toNatClampNeg) := inb_of Sz_19 ⟨by decide, by decide⟩
  obtain ⟨T_19, h_19, X_19, e_19, W_19, st_19⟩ := stJ X_18 hx hZ e_18 Ar_19 (j := (17 : Int32)) hin_19 (g := (mkF m 132 #[.val (.long p1), .second, .val (.int p2), .val (.long (((p1 &&& (9223372036854775807 : Int64)).toUInt64 >>> ((p2 &&& (63 : Int32)) &&& 0x3f).toInt64.toUInt64).toInt64)), .second, .unset, .unset, .unset, .unset] [(.long (100000000000000000 : Int64)), (.int (17 : Int32)), (.ref b_1), (.ref b_1)])) rfl rfl (hb hby at_132)
  have N_19 := Fr.snoc X_19 N_18 g_b_1
  have V_19 : Arv Z h_19 b_1 k_1 .long (19 : Int32) [(.long (1 : Int64)), (.long (10 : Int64)), (.long (100 : Int64)), (.long (1000 : Int64)), (.long (10000 : Int64)), (.long (100000 : Int64)), (.long (1000000 : Int64)), (.long (10000000 : Int64)), (.long (100000000 : Int64)), (.long (1000000000 : Int64)), (.long (10000000000 : Int64)), (.long (100000000000 : Int64)), (.long (1000000000000 : Int64)), (.long (10000000000000 : Int64)), (.long (100000000000000 : Int64)), (.long (1000000000000000 : Int64)), (.long (10000000000000000 : Int64)), (.long (100000000000000000 : Int64)), (.long (0 : Int64))] (.long (0 : Int64)) := Arv.set Ar_19 q_19 Sz_19 Ng_19 Hh_19 Gg_19 rfl W_19 17 rfl (Nat.le_of_ble_eq_true rfl)
  refine Go.to (mkF m 133 #[.val (.long p1), .second, .val (.int p2), .val (.long (((p1 &&& (9223372036854775807 : Int64)).toUInt64 >>> ((p2 &&& (63 : Int32)) &&& 0x3f).toInt64.toUInt64).toInt64)), .second, .unset, .unset, .unset, .unset] [(.ref b_1)]) st_19 ?_
  refine Go.to (mkF m 134 #[.val (.long p1), .second, .val (.int p2), .val (.long (((p1 &&& (9223372036854775807 : Int64)).toUInt64 >>> ((p2 &&& (63 : Int32)) &&& 0x3f).toInt64.toUInt64).toInt64)), .second, .unset, .unset, .unset, .unset] [(.ref b_1), (.ref b_1)]) (fun _ k => XS.dup X_19.here hx rfl (hb hby at_133) rfl rfl k) ?_
  refine Go.to (mkF m 136 #[.val (.long p1), .second, .val (.int p2), .val (.long (((p1 &&& (9223372036854775807 : Int64)).toUInt64 >>> ((p2 &&& (63 : Int32)) &&& 0x3f).toInt64.toUInt64).toInt64)), .second, .unset, .unset, .unset, .unset] [(.int (18 : Int32)), (.ref b_1), (.ref b_1)]) (fun _ k => XS.bipush X_19.here hx rfl (hb hby at_134) k) ?_
  refine Go.to (mkF m 139 #[.val (.long p1), .second, .val (.int p2), .val (.long (((p1 &&& (9223372036854775807 : Int64)).toUInt64 >>> ((p2 &&& (63 : Int32)) &&& 0x3f).toInt64.toUInt64).toInt64)), .second, .unset, .unset, .unset, .unset] [(.long (1000000000000000000 : Int64)), (.int (18 : Int32)), (.ref b_1), (.ref b_1)]) (fun _ k => X_19.ldc2Long hx hown (mvT hZ (hw _ (List.mem_of_getElem? (i := 19) rfl))) (g := (mkF m 136 #[.val (.long p1), .second, .val (.int p2), .val (.long (((p1 &&& (9223372036854775807 : Int64)).toUInt64 >>> ((p2 &&& (63 : Int32)) &&& 0x3f).toInt64.toUInt64).toInt64)), .second, .unset, .unset, .unset, .unset] [(.int (18 : Int32)), (.ref b_1), (.ref b_1)])) rfl (hb hby at_136) _ k) ?_
  obtain ⟨cl_20, Ar_20, q_20, Sz_20, Ng_20, Hh_20, Gg_20⟩ := id V_19
  have hin_20 : ¬ ((18 : Int32) < 0 ∨ cl_20.slots.size ≤ ((18 : Int32)).toNatClampNeg) := inb_of Sz_20 ⟨by decide, by decide⟩
  obtain ⟨T_20, h_20, X_20, e_20, W_20, st_20⟩ := stJ X_19 hx hZ e_19 Ar_20 (j := (18 : Int32)) hin_20 (g := (mkF m 139 #[.val (.long p1), .second, .val (.int p2), .val (.long (((p1 &&& (9223372036854775807 : Int64)).toUInt64 >>> ((p2 &&& (63 : Int32)) &&& 0x3f).toInt64.toUInt64).toInt64)), .second, .unset, .unset, .unset, .unset] [(.long (1000000000000000000 : Int64)), (.int (18 : Int32)), (.ref b_1), (.ref b_1)])) rfl rfl (hb hby at_139)
  have N_20 := Fr.snoc X_20 N_19 g_b_1
  have V_20 : Arv Z h_20 b_1 k_1 .long (19 : Int32) [(.long (1 : Int64)), (.long (10 : Int64)), (.long (100 : Int64)), (.long (1000 : Int64)), (.long (10000 : Int64)), (.long (100000 : Int64)), (.long (1000000 : Int64)), (.long (10000000 : Int64)), (.long (100000000 : Int64)), (.long (1000000000 : Int64)), (.long (10000000000 : Int64)), (.long (100000000000 : Int64)), (.long (1000000000000 : Int64)), (.long (10000000000000 : Int64)), (.long (100000000000000 : Int64)), (.long (1000000000000000 : Int64)), (.long (10000000000000000 : Int64)), (.long (100000000000000000 : Int64)), (.long (1000000000000000000 : Int64))] (.long (0 : Int64)) := Arv.set Ar_20 q_20 Sz_20 Ng_20 Hh_20 Gg_20 rfl W_20 18 rfl (Nat.le_of_ble_eq_true rfl)
  refine Go.to (mkF m 140 #[.val (.long p1), .second, .val (.int p2), .val (.long (((p1 &&& (9223372036854775807 : Int64)).toUInt64 >>> ((p2 &&& (63 : Int32)) &&& 0x3f).toInt64.toUInt64).toInt64)), .second, .unset, .unset, .unset, .unset] [(.ref b_1)]) st_20 ?_
  refine Go.to (mkF m 142 #[.val (.long p1), .second, .val (.int p2), .val (.long (((p1 &&& (9223372036854775807 : Int64)).toUInt64 >>> ((p2 &&& (63 : Int32)) &&& 0x3f).toInt64.toUInt64).toInt64)), .second, .val (.ref b_1), .unset, .unset, .unset] []) (fun _ k => XS.astore X_20.here hx rfl (hb hby at_140) rfl rfl (l' := #[.val (.long p1), .second, .val (.int p2), .val (.long (((p1 &&& (9223372036854775807 : Int64)).toUInt64 >>> ((p2 &&& (63 : Int32)) &&& 0x3f).toInt64.toUInt64).toInt64)), .second, .val (.ref b_1), .unset, .unset, .unset]) rfl k) ?_
  refine Go.to (mkF m 143 #[.val (.long p1), .second, .val (.int p2), .val (.long (((p1 &&& (9223372036854775807 : Int64)).toUInt64 >>> ((p2 &&& (63 : Int32)) &&& 0x3f).toInt64.toUInt64).toInt64)), .second, .val (.ref b_1), .unset, .unset, .unset] [(.long (((p1 &&& (9223372036854775807 : Int64)).toUInt64 >>> ((p2 &&& (63 : Int32)) &&& 0x3f).toInt64.toUInt64).toInt64))]) (fun _ k => XS.lloadN X_20.here hx rfl (hb hby at_142) rfl  k) ?_
  have f_21 : Sta Z h_20 "com/example/parting_terms/partingterms/Digits" "POWERS" "[J" (.ref a) := ((((((((((((((((((((PS_com_example_parting_terms_partingterms_Digits_POWERS.ext E_1).wr W_2).wr W_3).wr W_4).wr W_5).wr W_6).wr W_7).wr W_8).wr W_9).wr W_10).wr W_11).wr W_12).wr W_13).wr W_14).wr W_15).wr W_16).wr W_17).wr W_18).wr W_19).wr W_20)
  have f_22 : Arv Z h_20 a kp .long (19 : Int32) [(.long (1 : Int64)), (.long (10 : Int64)), (.long (100 : Int64)), (.long (1000 : Int64)), (.long (10000 : Int64)), (.long (100000 : Int64)), (.long (1000000 : Int64)), (.long (10000000 : Int64)), (.long (100000000 : Int64)), (.long (1000000000 : Int64)), (.long (10000000000 : Int64)), (.long (100000000000 : Int64)), (.long (1000000000000 : Int64)), (.long (10000000000000 : Int64)), (.long (100000000000000 : Int64)), (.long (1000000000000000 : Int64)), (.long (10000000000000000 : Int64)), (.long (100000000000000000 : Int64)), (.long (1000000000000000000 : Int64))] (.long (0 : Int64)) := ((((((((((((((((((((PA_a.ext E_1).other W_2 ne_a_b_1).other W_3 ne_a_b_1).other W_4 ne_a_b_1).other W_5 ne_a_b_1).other W_6 ne_a_b_1).other W_7 ne_a_b_1).other W_8 ne_a_b_1).other W_9 ne_a_b_1).other W_10 ne_a_b_1).other W_11 ne_a_b_1).other W_12 ne_a_b_1).other W_13 ne_a_b_1).other W_14 ne_a_b_1).other W_15 ne_a_b_1).other W_16 ne_a_b_1).other W_17 ne_a_b_1).other W_18 ne_a_b_1).other W_19 ne_a_b_1).other W_20 ne_a_b_1)
  have f_23 : n0 ≤ h_20.size := (Nat.le_trans (Nat.le_trans (Nat.le_trans (Nat.le_trans (Nat.le_trans (Nat.le_trans (Nat.le_trans (Nat.le_trans (Nat.le_trans (Nat.le_trans (Nat.le_trans (Nat.le_trans (Nat.le_trans (Nat.le_trans (Nat.le_trans (Nat.le_trans (Nat.le_trans (Nat.le_trans (Nat.le_trans (Nat.le_trans Z0 E_1.1) (Keep.of_wr W_2).1) (Keep.of_wr W_3).1) (Keep.of_wr W_4).1) (Keep.of_wr W_5).1) (Keep.of_wr W_6).1) (Keep.of_wr W_7).1) (Keep.of_wr W_8).1) (Keep.of_wr W_9).1) (Keep.of_wr W_10).1) (Keep.of_wr W_11).1) (Keep.of_wr W_12).1) (Keep.of_wr W_13).1) (Keep.of_wr W_14).1) (Keep.of_wr W_15).1) (Keep.of_wr W_16).1) (Keep.of_wr W_17).1) (Keep.of_wr W_18).1) (Keep.of_wr W_19).1) (Keep.of_wr W_20).1)
  refine Go.stat X_20 hx hZ (y := (⟨"com/example/parting_terms/partingterms/Digits", "count", "(J)I"⟩ : MethodName)) hown (hw _ (List.mem_of_getElem? (i := 20) rfl)) (hw _ (List.mem_of_getElem? (i := 21) rfl)) (hw _ (List.mem_of_getElem? (i := 22) rfl)) (hw _ (List.mem_of_getElem? (i := 23) rfl)) (by decide) e_20 (argsL := [(.long (((p1 &&& (9223372036854775807 : Int64)).toUInt64 >>> ((p2 &&& (63 : Int32)) &&& 0x3f).toInt64.toUInt64).toInt64))]) (rest := []) (Met1.back (W := 0) (rm1 l Z a0 hw (((p1 &&& (9223372036854775807 : Int64)).toUInt64 >>> ((p2 &&& (63 : Int32)) &&& 0x3f).toInt64.toUInt64).toInt64) a kp h_20 n0 f_23 f_21 f_22) hZ (hw _ (List.mem_of_getElem? (i := 23) rfl)) (hw _ (List.mem_of_getElem? (i := 22) rfl)) (by decide) (by decide)) (pc := 143) (Ls := #[.val (.long p1), .second, .val (.int p2), .val (.long (((p1 &&& (9223372036854775807 : Int64)).toUInt64 >>> ((p2 &&& (63 : Int32)) &&& 0x3f).toInt64.toUInt64).toInt64)), .second, .val (.ref b_1), .unset, .unset, .unset]) (by rw [hml]; rfl) (lenOf own_pd0 rfl) rfl (Nat.le_refl _) (hb hby at_143) (by decide) (by decide) ?_
  intro T_24 v_24 L_24 X_24 hQ_24
  obtain ⟨rfl, Nq_24, hh_24⟩ := hQ_24
  have N_24 := Fr.app N_20 Nq_24
  show Go p e below (FinN s (Q0 Z p1 p2 a kp h0 n0) room_1.cells room_1.slots) T_24 (mkF m 146 #[.val (.long p1), .second, .val (.int p2), .val (.long (((p1 &&& (9223372036854775807 : Int64)).toUInt64 >>> ((p2 &&& (63 : Int32)) &&& 0x3f).toInt64.toUInt64).toInt64)), .second, .val (.ref b_1), .unset, .unset, .unset] [(.int (own_cnt (((p1 &&& (9223372036854775807 : Int64)).toUInt64 >>> ((p2 &&& (63 : Int32)) &&& 0x3f).toInt64.toUInt64).toInt64)))])
  refine Go.to (mkF m 148 #[.val (.long p1), .second, .val (.int p2), .val (.long (((p1 &&& (9223372036854775807 : Int64)).toUInt64 >>> ((p2 &&& (63 : Int32)) &&& 0x3f).toInt64.toUInt64).toInt64)), .second, .val (.ref b_1), .val (.int (own_cnt (((p1 &&& (9223372036854775807 : Int64)).toUInt64 >>> ((p2 &&& (63 : Int32)) &&& 0x3f).toInt64.toUInt64).toInt64))), .unset, .unset] []) (fun _ k => XS.istore X_24.here hx rfl (hb hby at_146) rfl (l' := #[.val (.long p1), .second, .val (.int p2), .val (.long (((p1 &&& (9223372036854775807 : Int64)).toUInt64 >>> ((p2 &&& (63 : Int32)) &&& 0x3f).toInt64.toUInt64).toInt64)), .second, .val (.ref b_1), .val (.int (own_cnt (((p1 &&& (9223372036854775807 : Int64)).toUInt64 >>> ((p2 &&& (63 : Int32)) &&& 0x3f).toInt64.toUInt64).toInt64))), .unset, .unset]) rfl k) ?_
  refine Go.to (mkF m 150 #[.val (.long p1), .second, .val (.int p2), .val (.long (((p1 &&& (9223372036854775807 : Int64)).toUInt64 >>> ((p2 &&& (63 : Int32)) &&& 0x3f).toInt64.toUInt64).toInt64)), .second, .val (.ref b_1), .val (.int (own_cnt (((p1 &&& (9223372036854775807 : Int64)).toUInt64 >>> ((p2 &&& (63 : Int32)) &&& 0x3f).toInt64.toUInt64).toInt64))), .unset, .unset] [(.int (own_cnt (((p1 &&& (9223372036854775807 : Int64)).toUInt64 >>> ((p2 &&& (63 : Int32)) &&& 0x3f).toInt64.toUInt64).toInt64)))]) (fun _ k => XS.iload X_24.here hx rfl (hb hby at_148) rfl  k) ?_
  refine Go.to (mkF m 151 #[.val (.long p1), .second, .val (.int p2), .val (.long (((p1 &&& (9223372036854775807 : Int64)).toUInt64 >>> ((p2 &&& (63 : Int32)) &&& 0x3f).toInt64.toUInt64).toInt64)), .second, .val (.ref b_1), .val (.int (own_cnt (((p1 &&& (9223372036854775807 : Int64)).toUInt64 >>> ((p2 &&& (63 : Int32)) &&& 0x3f).toInt64.toUInt64).toInt64))), .unset, .unset] [(.int (1 : Int32)), (.int (own_cnt (((p1 &&& (9223372036854775807 : Int64)).toUInt64 >>> ((p2 &&& (63 : Int32)) &&& 0x3f).toInt64.toUInt64).toInt64)))]) (fun _ k => XS.iconst X_24.here hx rfl (hb hby at_150) k) ?_
  obtain ⟨q1, q2⟩ := own_rng (((p1 &&& (9223372036854775807 : Int64)).toUInt64 >>> ((p2 &&& (63 : Int32)) &&& 0x3f).toInt64.toUInt64).toInt64)
  refine Go.to (mkF m 154 #[.val (.long p1), .second, .val (.int p2), .val (.long (((p1 &&& (9223372036854775807 : Int64)).toUInt64 >>> ((p2 &&& (63 : Int32)) &&& 0x3f).toInt64.toUInt64).toInt64)), .second, .val (.ref b_1), .val (.int (own_cnt (((p1 &&& (9223372036854775807 : Int64)).toUInt64 >>> ((p2 &&& (63 : Int32)) &&& 0x3f).toInt64.toUInt64).toInt64))), .unset, .unset] []) (fun _ k => XS.icmpNo X_24.here hx rfl (hb hby at_151) rfl (flt q1).1 k) ?_
  refine Go.to (mkF m 156 #[.val (.long p1), .second, .val (.int p2), .val (.long (((p1 &&& (9223372036854775807 : Int64)).toUInt64 >>> ((p2 &&& (63 : Int32)) &&& 0x3f).toInt64.toUInt64).toInt64)), .second, .val (.ref b_1), .val (.int (own_cnt (((p1 &&& (9223372036854775807 : Int64)).toUInt64 >>> ((p2 &&& (63 : Int32)) &&& 0x3f).toInt64.toUInt64).toInt64))), .unset, .unset] [(.int (own_cnt (((p1 &&& (9223372036854775807 : Int64)).toUInt64 >>> ((p2 &&& (63 : Int32)) &&& 0x3f).toInt64.toUInt64).toInt64)))]) (fun _ k => XS.iload X_24.here hx rfl (hb hby at_154) rfl  k) ?_
  refine Go.to (mkF m 158 #[.val (.long p1), .second, .val (.int p2), .val (.long (((p1 &&& (9223372036854775807 : Int64)).toUInt64 >>> ((p2 &&& (63 : Int32)) &&& 0x3f).toInt64.toUInt64).toInt64)), .second, .val (.ref b_1), .val (.int (own_cnt (((p1 &&& (9223372036854775807 : Int64)).toUInt64 >>> ((p2 &&& (63 : Int32)) &&& 0x3f).toInt64.toUInt64).toInt64))), .unset, .unset] [(.int (19 : Int32)), (.int (own_cnt (((p1 &&& (9223372036854775807 : Int64)).toUInt64 >>> ((p2 &&& (63 : Int32)) &&& 0x3f).toInt64.toUInt64).toInt64)))]) (fun _ k => XS.bipush X_24.here hx rfl (hb hby at_156) k) ?_
  refine Go.to (mkF m 163 #[.val (.long p1), .second, .val (.int p2), .val (.long (((p1 &&& (9223372036854775807 : Int64)).toUInt64 >>> ((p2 &&& (63 : Int32)) &&& 0x3f).toInt64.toUInt64).toInt64)), .second, .val (.ref b_1), .val (.int (own_cnt (((p1 &&& (9223372036854775807 : Int64)).toUInt64 >>> ((p2 &&& (63 : Int32)) &&& 0x3f).toInt64.toUInt64).toInt64))), .unset, .unset] []) (fun _ k => XS.icmpYes X_24.here hx rfl (pc0 := 158) (pc' := 163) rfl (hb hby at_158) rfl (flt q2).2.2.2 (by decide) (by decide) k) ?_
  refine Go.to (mkF m 165 #[.val (.long p1), .second, .val (.int p2), .val (.long (((p1 &&& (9223372036854775807 : Int64)).toUInt64 >>> ((p2 &&& (63 : Int32)) &&& 0x3f).toInt64.toUInt64).toInt64)), .second, .val (.ref b_1), .val (.int (own_cnt (((p1 &&& (9223372036854775807 : Int64)).toUInt64 >>> ((p2 &&& (63 : Int32)) &&& 0x3f).toInt64.toUInt64).toInt64))), .unset, .unset] [(.int (own_cnt (((p1 &&& (9223372036854775807 : Int64)).toUInt64 >>> ((p2 &&& (63 : Int32)) &&& 0x3f).toInt64.toUInt64).toInt64)))]) (fun _ k => XS.iload X_24.here hx rfl (hb hby at_163) rfl  k) ?_
  refine Go.to (mkF m 166 #[.val (.long p1), .second, .val (.int p2), .val (.long (((p1 &&& (9223372036854775807 : Int64)).toUInt64 >>> ((p2 &&& (63 : Int32)) &&& 0x3f).toInt64.toUInt64).toInt64)), .second, .val (.ref b_1), .val (.int (own_cnt (((p1 &&& (9223372036854775807 : Int64)).toUInt64 >>> ((p2 &&& (63 : Int32)) &&& 0x3f).toInt64.toUInt64).toInt64))), .unset, .unset] [(.int (1 : Int32)), (.int (own_cnt (((p1 &&& (9223372036854775807 : Int64)).toUInt64 >>> ((p2 &&& (63 : Int32)) &&& 0x3f).toInt64.toUInt64).toInt64)))]) (fun _ k => XS.iconst X_24.here hx rfl (hb hby at_165) k) ?_
  suffices J_25 : Go p e below (FinN s (Q0 Z p1 p2 a kp h0 n0) room_1.cells room_1.slots) T_24 (mkF m 181 #[.val (.long p1), .second, .val (.int p2), .val (.long (((p1 &&& (9223372036854775807 : Int64)).toUInt64 >>> ((p2 &&& (63 : Int32)) &&& 0x3f).toInt64.toUInt64).toInt64)), .second, .val (.ref b_1), .val (.int (own_cnt (((p1 &&& (9223372036854775807 : Int64)).toUInt64 >>> ((p2 &&& (63 : Int32)) &&& 0x3f).toInt64.toUInt64).toInt64))), .unset, .unset] []) by
    by_cases hl1 : (own_cnt (((p1 &&& (9223372036854775807 : Int64)).toUInt64 >>> ((p2 &&& (63 : Int32)) &&& 0x3f).toInt64.toUInt64).toInt64)) = (1 : Int32)
    · refine Go.to (mkF m 181 #[.val (.long p1), .second, .val (.int p2), .val (.long (((p1 &&& (9223372036854775807 : Int64)).toUInt64 >>> ((p2 &&& (63 : Int32)) &&& 0x3f).toInt64.toUInt64).toInt64)), .second, .val (.ref b_1), .val (.int (own_cnt (((p1 &&& (9223372036854775807 : Int64)).toUInt64 >>> ((p2 &&& (63 : Int32)) &&& 0x3f).toInt64.toUInt64).toInt64))), .unset, .unset] []) (fun _ k => XS.icmpYes X_24.here hx rfl (pc0 := 166) (pc' := 181) rfl (hb hby at_166) rfl (teq hl1).1 (by decide) (by decide) k) ?_
      exact J_25
    · refine Go.to (mkF m 169 #[.val (.long p1), .second, .val (.int p2), .val (.long (((p1 &&& (9223372036854775807 : Int64)).toUInt64 >>> ((p2 &&& (63 : Int32)) &&& 0x3f).toInt64.toUInt64).toInt64)), .second, .val (.ref b_1), .val (.int (own_cnt (((p1 &&& (9223372036854775807 : Int64)).toUInt64 >>> ((p2 &&& (63 : Int32)) &&& 0x3f).toInt64.toUInt64).toInt64))), .unset, .unset] []) (fun _ k => XS.icmpNo X_24.here hx rfl (hb hby at_166) rfl (feq hl1).1 k) ?_
      refine Go.to (mkF m 170 #[.val (.long p1), .second, .val (.int p2), .val (.long (((p1 &&& (9223372036854775807 : Int64)).toUInt64 >>> ((p2 &&& (63 : Int32)) &&& 0x3f).toInt64.toUInt64).toInt64)), .second, .val (.ref b_1), .val (.int (own_cnt (((p1 &&& (9223372036854775807 : Int64)).toUInt64 >>> ((p2 &&& (63 : Int32)) &&& 0x3f).toInt64.toUInt64).toInt64))), .unset, .unset] [(.long (((p1 &&& (9223372036854775807 : Int64)).toUInt64 >>> ((p2 &&& (63 : Int32)) &&& 0x3f).toInt64.toUInt64).toInt64))]) (fun _ k => XS.lloadN X_24.here hx rfl (hb hby at_169) rfl  k) ?_
      refine Go.to (mkF m 172 #[.val (.long p1), .second, .val (.int p2), .val (.long (((p1 &&& (9223372036854775807 : Int64)).toUInt64 >>> ((p2 &&& (63 : Int32)) &&& 0x3f).toInt64.toUInt64).toInt64)), .second, .val (.ref b_1), .val (.int (own_cnt (((p1 &&& (9223372036854775807 : Int64)).toUInt64 >>> ((p2 &&& (63 : Int32)) &&& 0x3f).toInt64.toUInt64).toInt64))), .unset, .unset] [(.ref b_1), (.long (((p1 &&& (9223372036854775807 : Int64)).toUInt64 >>> ((p2 &&& (63 : Int32)) &&& 0x3f).toInt64.toUInt64).toInt64))]) (fun _ k => XS.aload X_24.here hx rfl (hb hby at_170) rfl rfl k) ?_
      refine Go.to (mkF m 174 #[.val (.long p1), .second, .val (.int p2), .val (.long (((p1 &&& (9223372036854775807 : Int64)).toUInt64 >>> ((p2 &&& (63 : Int32)) &&& 0x3f).toInt64.toUInt64).toInt64)), .second, .val (.ref b_1), .val (.int (own_cnt (((p1 &&& (9223372036854775807 : Int64)).toUInt64 >>> ((p2 &&& (63 : Int32)) &&& 0x3f).toInt64.toUInt64).toInt64))), .unset, .unset] [(.int (own_cnt (((p1 &&& (9223372036854775807 : Int64)).toUInt64 >>> ((p2 &&& (63 : Int32)) &&& 0x3f).toInt64.toUInt64).toInt64))), (.ref b_1), (.long (((p1 &&& (9223372036854775807 : Int64)).toUInt64 >>> ((p2 &&& (63 : Int32)) &&& 0x3f).toInt64.toUInt64).toInt64))]) (fun _ k => XS.iload X_24.here hx rfl (hb hby at_172) rfl  k) ?_
      refine Go.to (mkF m 175 #[.val (.long p1), .second, .val (.int p2), .val (.long (((p1 &&& (9223372036854775807 : Int64)).toUInt64 >>> ((p2 &&& (63 : Int32)) &&& 0x3f).toInt64.toUInt64).toInt64)), .second, .val (.ref b_1), .val (.int (own_cnt (((p1 &&& (9223372036854775807 : Int64)).toUInt64 >>> ((p2 &&& (63 : Int32)) &&& 0x3f).toInt64.toUInt64).toInt64))), .unset, .unset] [(.int (1 : Int32)), (.int (own_cnt (((p1 &&& (9223372036854775807 : Int64)).toUInt64 >>> ((p2 &&& (63 : Int32)) &&& 0x3f).toInt64.toUInt64).toInt64))), (.ref b_1), (.long (((p1 &&& (9223372036854775807 : Int64)).toUInt64 >>> ((p2 &&& (63 : Int32)) &&& 0x3f).toInt64.toUInt64).toInt64))]) (fun _ k => XS.iconst X_24.here hx rfl (hb hby at_174) k) ?_
      refine Go.to (mkF m 176 #[.val (.long p1), .second, .val (.int p2), .val (.long (((p1 &&& (9223372036854775807 : Int64)).toUInt64 >>> ((p2 &&& (63 : Int32)) &&& 0x3f).toInt64.toUInt64).toInt64)), .second, .val (.ref b_1), .val (.int (own_cnt (((p1 &&& (9223372036854775807 : Int64)).toUInt64 >>> ((p2 &&& (63 : Int32)) &&& 0x3f).toInt64.toUInt64).toInt64))), .unset, .unset] [(.int ((own_cnt (((p1 &&& (9223372036854775807 : Int64)).toUInt64 >>> ((p2 &&& (63 : Int32)) &&& 0x3f).toInt64.toUInt64).toInt64)) - (1 : Int32))), (.ref b_1), (.long (((p1 &&& (9223372036854775807 : Int64)).toUInt64 >>> ((p2 &&& (63 : Int32)) &&& 0x3f).toInt64.toUInt64).toInt64))]) (fun _ k => XS.isub X_24.here hx rfl (hb hby at_175) rfl k) ?_
      obtain ⟨y1, r1, r2, r3, r4⟩ := own_low _ hl1
      obtain ⟨cl_26, Ar_26, -, Sz_26, Ng_26, Hh_26, -⟩ := id V_20
      have hin_26 : ¬ (((own_cnt (((p1 &&& (9223372036854775807 : Int64)).toUInt64 >>> ((p2 &&& (63 : Int32)) &&& 0x3f).toInt64.toUInt64).toInt64)) - (1 : Int32)) < 0 ∨ cl_26.slots.size ≤ (((own_cnt (((p1 &&& (9223372036854775807 : Int64)).toUInt64 >>> ((p2 &&& (63 : Int32)) &&& 0x3f).toInt64.toUInt64).toInt64)) - (1 : Int32))).toNatClampNeg) := inb_of Sz_26 ⟨r3, r4⟩
      refine Go.to (mkF m 177 #[.val (.long p1), .second, .val (.int p2), .val (.long (((p1 &&& (9223372036854775807 : Int64)).toUInt64 >>> ((p2 &&& (63 : Int32)) &&& 0x3f).toInt64.toUInt64).toInt64)), .second, .val (.ref b_1), .val (.int (own_cnt (((p1 &&& (9223372036854775807 : Int64)).toUInt64 >>> ((p2 &&& (63 : Int32)) &&& 0x3f).toInt64.toUInt64).toInt64))), .unset, .unset] [(.long y1), (.long (((p1 &&& (9223372036854775807 : Int64)).toUInt64 >>> ((p2 &&& (63 : Int32)) &&& 0x3f).toInt64.toUInt64).toInt64))]) (X_24.laload hx (j := ((own_cnt (((p1 &&& (9223372036854775807 : Int64)).toUInt64 >>> ((p2 &&& (63 : Int32)) &&& 0x3f).toInt64.toUInt64).toInt64)) - (1 : Int32))) (v := (.long y1)) (by rw [hh_24]; exact Ar_26.1) (State.isArrayOf_alike hZ.alike Ar_26.2.1) Ar_26.2.2 hin_26 (Hh_26.at hin_26 r1) (g := (mkF m 176 #[.val (.long p1), .second, .val (.int p2), .val (.long (((p1 &&& (9223372036854775807 : Int64)).toUInt64 >>> ((p2 &&& (63 : Int32)) &&& 0x3f).toInt64.toUInt64).toInt64)), .second, .val (.ref b_1), .val (.int (own_cnt (((p1 &&& (9223372036854775807 : Int64)).toUInt64 >>> ((p2 &&& (63 : Int32)) &&& 0x3f).toInt64.toUInt64).toInt64))), .unset, .unset] [(.int ((own_cnt (((p1 &&& (9223372036854775807 : Int64)).toUInt64 >>> ((p2 &&& (63 : Int32)) &&& 0x3f).toInt64.toUInt64).toInt64)) - (1 : Int32))), (.ref b_1), (.long (((p1 &&& (9223372036854775807 : Int64)).toUInt64 >>> ((p2 &&& (63 : Int32)) &&& 0x3f).toInt64.toUInt64).toInt64))])) rfl rfl (hb hby at_176)) ?_
      refine Go.to (mkF m 178 #[.val (.long p1), .second, .val (.int p2), .val (.long (((p1 &&& (9223372036854775807 : Int64)).toUInt64 >>> ((p2 &&& (63 : Int32)) &&& 0x3f).toInt64.toUInt64).toInt64)), .second, .val (.ref b_1), .val (.int (own_cnt (((p1 &&& (9223372036854775807 : Int64)).toUInt64 >>> ((p2 &&& (63 : Int32)) &&& 0x3f).toInt64.toUInt64).toInt64))), .unset, .unset] [(.int (lcmpW (((p1 &&& (9223372036854775807 : Int64)).toUInt64 >>> ((p2 &&& (63 : Int32)) &&& 0x3f).toInt64.toUInt64).toInt64) y1))]) (fun _ k => XS.lcmp X_24.here hx rfl (hb hby at_177) rfl k) ?_
      refine Go.to (mkF m 181 #[.val (.long p1), .second, .val (.int p2), .val (.long (((p1 &&& (9223372036854775807 : Int64)).toUInt64 >>> ((p2 &&& (63 : Int32)) &&& 0x3f).toInt64.toUInt64).toInt64)), .second, .val (.ref b_1), .val (.int (own_cnt (((p1 &&& (9223372036854775807 : Int64)).toUInt64 >>> ((p2 &&& (63 : Int32)) &&& 0x3f).toInt64.toUInt64).toInt64))), .unset, .unset] []) (fun _ k => XS.ifNo X_24.here hx rfl (hb hby at_178) rfl ((if0 _ _).trans (flt (fun q => r2 ((lw_lt _ _).mp q))).1) k) ?_
      exact J_25
  refine Go.to (mkF m 182 #[.val (.long p1), .second, .val (.int p2), .val (.long (((p1 &&& (9223372036854775807 : Int64)).toUInt64 >>> ((p2 &&& (63 : Int32)) &&& 0x3f).toInt64.toUInt64).toInt64)), .second, .val (.ref b_1), .val (.int (own_cnt (((p1 &&& (9223372036854775807 : Int64)).toUInt64 >>> ((p2 &&& (63 : Int32)) &&& 0x3f).toInt64.toUInt64).toInt64))), .unset, .unset] [(.int (1 : Int32))]) (fun _ k => XS.iconst X_24.here hx rfl (hb hby at_181) k) ?_
  refine Go.to (mkF m 186 #[.val (.long p1), .second, .val (.int p2), .val (.long (((p1 &&& (9223372036854775807 : Int64)).toUInt64 >>> ((p2 &&& (63 : Int32)) &&& 0x3f).toInt64.toUInt64).toInt64)), .second, .val (.ref b_1), .val (.int (own_cnt (((p1 &&& (9223372036854775807 : Int64)).toUInt64 >>> ((p2 &&& (63 : Int32)) &&& 0x3f).toInt64.toUInt64).toInt64))), .unset, .unset] [(.int (1 : Int32))]) (fun _ k => XS.goto X_24.here hx rfl (pc0 := 182) (pc' := 186) rfl (hb hby at_182) (by decide) (by decide) k) ?_
  refine Go.to (mkF m 188 #[.val (.long p1), .second, .val (.int p2), .val (.long (((p1 &&& (9223372036854775807 : Int64)).toUInt64 >>> ((p2 &&& (63 : Int32)) &&& 0x3f).toInt64.toUInt64).toInt64)), .second, .val (.ref b_1), .val (.int (own_cnt (((p1 &&& (9223372036854775807 : Int64)).toUInt64 >>> ((p2 &&& (63 : Int32)) &&& 0x3f).toInt64.toUInt64).toInt64))), .val (.int (1 : Int32)), .unset] []) (fun _ k => XS.istore X_24.here hx rfl (hb hby at_186) rfl (l' := #[.val (.long p1), .second, .val (.int p2), .val (.long (((p1 &&& (9223372036854775807 : Int64)).toUInt64 >>> ((p2 &&& (63 : Int32)) &&& 0x3f).toInt64.toUInt64).toInt64)), .second, .val (.ref b_1), .val (.int (own_cnt (((p1 &&& (9223372036854775807 : Int64)).toUInt64 >>> ((p2 &&& (63 : Int32)) &&& 0x3f).toInt64.toUInt64).toInt64))), .val (.int (1 : Int32)), .unset]) rfl k) ?_
  refine Go.to (mkF m 190 #[.val (.long p1), .second, .val (.int p2), .val (.long (((p1 &&& (9223372036854775807 : Int64)).toUInt64 >>> ((p2 &&& (63 : Int32)) &&& 0x3f).toInt64.toUInt64).toInt64)), .second, .val (.ref b_1), .val (.int (own_cnt (((p1 &&& (9223372036854775807 : Int64)).toUInt64 >>> ((p2 &&& (63 : Int32)) &&& 0x3f).toInt64.toUInt64).toInt64))), .val (.int (1 : Int32)), .unset] [(.int (own_cnt (((p1 &&& (9223372036854775807 : Int64)).toUInt64 >>> ((p2 &&& (63 : Int32)) &&& 0x3f).toInt64.toUInt64).toInt64)))]) (fun _ k => XS.iload X_24.here hx rfl (hb hby at_188) rfl  k) ?_
  refine Go.to (mkF m 192 #[.val (.long p1), .second, .val (.int p2), .val (.long (((p1 &&& (9223372036854775807 : Int64)).toUInt64 >>> ((p2 &&& (63 : Int32)) &&& 0x3f).toInt64.toUInt64).toInt64)), .second, .val (.ref b_1), .val (.int (own_cnt (((p1 &&& (9223372036854775807 : Int64)).toUInt64 >>> ((p2 &&& (63 : Int32)) &&& 0x3f).toInt64.toUInt64).toInt64))), .val (.int (1 : Int32)), .unset] [(.int (19 : Int32)), (.int (own_cnt (((p1 &&& (9223372036854775807 : Int64)).toUInt64 >>> ((p2 &&& (63 : Int32)) &&& 0x3f).toInt64.toUInt64).toInt64)))]) (fun _ k => XS.bipush X_24.here hx rfl (hb hby at_190) k) ?_
  suffices J_27 : Go p e below (FinN s (Q0 Z p1 p2 a kp h0 n0) room_1.cells room_1.slots) T_24 (mkF m 205 #[.val (.long p1), .second, .val (.int p2), .val (.long (((p1 &&& (9223372036854775807 : Int64)).toUInt64 >>> ((p2 &&& (63 : Int32)) &&& 0x3f).toInt64.toUInt64).toInt64)), .second, .val (.ref b_1), .val (.int (own_cnt (((p1 &&& (9223372036854775807 : Int64)).toUInt64 >>> ((p2 &&& (63 : Int32)) &&& 0x3f).toInt64.toUInt64).toInt64))), .val (.int (1 : Int32)), .unset] []) by
    by_cases hl2 : (own_cnt (((p1 &&& (9223372036854775807 : Int64)).toUInt64 >>> ((p2 &&& (63 : Int32)) &&& 0x3f).toInt64.toUInt64).toInt64)) = (19 : Int32)
    · refine Go.to (mkF m 205 #[.val (.long p1), .second, .val (.int p2), .val (.long (((p1 &&& (9223372036854775807 : Int64)).toUInt64 >>> ((p2 &&& (63 : Int32)) &&& 0x3f).toInt64.toUInt64).toInt64)), .second, .val (.ref b_1), .val (.int (own_cnt (((p1 &&& (9223372036854775807 : Int64)).toUInt64 >>> ((p2 &&& (63 : Int32)) &&& 0x3f).toInt64.toUInt64).toInt64))), .val (.int (1 : Int32)), .unset] []) (fun _ k => XS.icmpYes X_24.here hx rfl (pc0 := 192) (pc' := 205) rfl (hb hby at_192) rfl (teq hl2).1 (by decide) (by decide) k) ?_
      exact J_27
    · refine Go.to (mkF m 195 #[.val (.long p1), .second, .val (.int p2), .val (.long (((p1 &&& (9223372036854775807 : Int64)).toUInt64 >>> ((p2 &&& (63 : Int32)) &&& 0x3f).toInt64.toUInt64).toInt64)), .second, .val (.ref b_1), .val (.int (own_cnt (((p1 &&& (9223372036854775807 : Int64)).toUInt64 >>> ((p2 &&& (63 : Int32)) &&& 0x3f).toInt64.toUInt64).toInt64))), .val (.int (1 : Int32)), .unset] []) (fun _ k => XS.icmpNo X_24.here hx rfl (hb hby at_192) rfl (feq hl2).1 k) ?_
      refine Go.to (mkF m 196 #[.val (.long p1), .second, .val (.int p2), .val (.long (((p1 &&& (9223372036854775807 : Int64)).toUInt64 >>> ((p2 &&& (63 : Int32)) &&& 0x3f).toInt64.toUInt64).toInt64)), .second, .val (.ref b_1), .val (.int (own_cnt (((p1 &&& (9223372036854775807 : Int64)).toUInt64 >>> ((p2 &&& (63 : Int32)) &&& 0x3f).toInt64.toUInt64).toInt64))), .val (.int (1 : Int32)), .unset] [(.long (((p1 &&& (9223372036854775807 : Int64)).toUInt64 >>> ((p2 &&& (63 : Int32)) &&& 0x3f).toInt64.toUInt64).toInt64))]) (fun _ k => XS.lloadN X_24.here hx rfl (hb hby at_195) rfl  k) ?_
      refine Go.to (mkF m 198 #[.val (.long p1), .second, .val (.int p2), .val (.long (((p1 &&& (9223372036854775807 : Int64)).toUInt64 >>> ((p2 &&& (63 : Int32)) &&& 0x3f).toInt64.toUInt64).toInt64)), .second, .val (.ref b_1), .val (.int (own_cnt (((p1 &&& (9223372036854775807 : Int64)).toUInt64 >>> ((p2 &&& (63 : Int32)) &&& 0x3f).toInt64.toUInt64).toInt64))), .val (.int (1 : Int32)), .unset] [(.ref b_1), (.long (((p1 &&& (9223372036854775807 : Int64)).toUInt64 >>> ((p2 &&& (63 : Int32)) &&& 0x3f).toInt64.toUInt64).toInt64))]) (fun _ k => XS.aload X_24.here hx rfl (hb hby at_196) rfl rfl k) ?_
      refine Go.to (mkF m 200 #[.val (.long p1), .second, .val (.int p2), .val (.long (((p1 &&& (9223372036854775807 : Int64)).toUInt64 >>> ((p2 &&& (63 : Int32)) &&& 0x3f).toInt64.toUInt64).toInt64)), .second, .val (.ref b_1), .val (.int (own_cnt (((p1 &&& (9223372036854775807 : Int64)).toUInt64 >>> ((p2 &&& (63 : Int32)) &&& 0x3f).toInt64.toUInt64).toInt64))), .val (.int (1 : Int32)), .unset] [(.int (own_cnt (((p1 &&& (9223372036854775807 : Int64)).toUInt64 >>> ((p2 &&& (63 : Int32)) &&& 0x3f).toInt64.toUInt64).toInt64))), (.ref b_1), (.long (((p1 &&& (9223372036854775807 : Int64)).toUInt64 >>> ((p2 &&& (63 : Int32)) &&& 0x3f).toInt64.toUInt64).toInt64))]) (fun _ k => XS.iload X_24.here hx rfl (hb hby at_198) rfl  k) ?_
      obtain ⟨y2, s1, s2, s3, s4⟩ := own_high _ hl2
      obtain ⟨cl_28, Ar_28, -, Sz_28, Ng_28, Hh_28, -⟩ := id V_20
      have hin_28 : ¬ ((own_cnt (((p1 &&& (9223372036854775807 : Int64)).toUInt64 >>> ((p2 &&& (63 : Int32)) &&& 0x3f).toInt64.toUInt64).toInt64)) < 0 ∨ cl_28.slots.size ≤ ((own_cnt (((p1 &&& (9223372036854775807 : Int64)).toUInt64 >>> ((p2 &&& (63 : Int32)) &&& 0x3f).toInt64.toUInt64).toInt64))).toNatClampNeg) := inb_of Sz_28 ⟨s3, s4⟩
      refine Go.to (mkF m 201 #[.val (.long p1), .second, .val (.int p2), .val (.long (((p1 &&& (9223372036854775807 : Int64)).toUInt64 >>> ((p2 &&& (63 : Int32)) &&& 0x3f).toInt64.toUInt64).toInt64)), .second, .val (.ref b_1), .val (.int (own_cnt (((p1 &&& (9223372036854775807 : Int64)).toUInt64 >>> ((p2 &&& (63 : Int32)) &&& 0x3f).toInt64.toUInt64).toInt64))), .val (.int (1 : Int32)), .unset] [(.long y2), (.long (((p1 &&& (9223372036854775807 : Int64)).toUInt64 >>> ((p2 &&& (63 : Int32)) &&& 0x3f).toInt64.toUInt64).toInt64))]) (X_24.laload hx (j := (own_cnt (((p1 &&& (9223372036854775807 : Int64)).toUInt64 >>> ((p2 &&& (63 : Int32)) &&& 0x3f).toInt64.toUInt64).toInt64))) (v := (.long y2)) (by rw [hh_24]; exact Ar_28.1) (State.isArrayOf_alike hZ.alike Ar_28.2.1) Ar_28.2.2 hin_28 (Hh_28.at hin_28 s1) (g := (mkF m 200 #[.val (.long p1), .second, .val (.int p2), .val (.long (((p1 &&& (9223372036854775807 : Int64)).toUInt64 >>> ((p2 &&& (63 : Int32)) &&& 0x3f).toInt64.toUInt64).toInt64)), .second, .val (.ref b_1), .val (.int (own_cnt (((p1 &&& (9223372036854775807 : Int64)).toUInt64 >>> ((p2 &&& (63 : Int32)) &&& 0x3f).toInt64.toUInt64).toInt64))), .val (.int (1 : Int32)), .unset] [(.int (own_cnt (((p1 &&& (9223372036854775807 : Int64)).toUInt64 >>> ((p2 &&& (63 : Int32)) &&& 0x3f).toInt64.toUInt64).toInt64))), (.ref b_1), (.long (((p1 &&& (9223372036854775807 : Int64)).toUInt64 >>> ((p2 &&& (63 : Int32)) &&& 0x3f).toInt64.toUInt64).toInt64))])) rfl rfl (hb hby at_200)) ?_
      refine Go.to (mkF m 202 #[.val (.long p1), .second, .val (.int p2), .val (.long (((p1 &&& (9223372036854775807 : Int64)).toUInt64 >>> ((p2 &&& (63 : Int32)) &&& 0x3f).toInt64.toUInt64).toInt64)), .second, .val (.ref b_1), .val (.int (own_cnt (((p1 &&& (9223372036854775807 : Int64)).toUInt64 >>> ((p2 &&& (63 : Int32)) &&& 0x3f).toInt64.toUInt64).toInt64))), .val (.int (1 : Int32)), .unset] [(.int (lcmpW (((p1 &&& (9223372036854775807 : Int64)).toUInt64 >>> ((p2 &&& (63 : Int32)) &&& 0x3f).toInt64.toUInt64).toInt64) y2))]) (fun _ k => XS.lcmp X_24.here hx rfl (hb hby at_201) rfl k) ?_
      refine Go.to (mkF m 205 #[.val (.long p1), .second, .val (.int p2), .val (.long (((p1 &&& (9223372036854775807 : Int64)).toUInt64 >>> ((p2 &&& (63 : Int32)) &&& 0x3f).toInt64.toUInt64).toInt64)), .second, .val (.ref b_1), .val (.int (own_cnt (((p1 &&& (9223372036854775807 : Int64)).toUInt64 >>> ((p2 &&& (63 : Int32)) &&& 0x3f).toInt64.toUInt64).toInt64))), .val (.int (1 : Int32)), .unset] []) (fun _ k => XS.ifNo X_24.here hx rfl (hb hby at_202) rfl ((if0 _ _).trans (tlt ((lw_lt _ _).mpr s2)).2.1) k) ?_
      exact J_27
  refine Go.to (mkF m 206 #[.val (.long p1), .second, .val (.int p2), .val (.long (((p1 &&& (9223372036854775807 : Int64)).toUInt64 >>> ((p2 &&& (63 : Int32)) &&& 0x3f).toInt64.toUInt64).toInt64)), .second, .val (.ref b_1), .val (.int (own_cnt (((p1 &&& (9223372036854775807 : Int64)).toUInt64 >>> ((p2 &&& (63 : Int32)) &&& 0x3f).toInt64.toUInt64).toInt64))), .val (.int (1 : Int32)), .unset] [(.int (1 : Int32))]) (fun _ k => XS.iconst X_24.here hx rfl (hb hby at_205) k) ?_
  refine Go.to (mkF m 210 #[.val (.long p1), .second, .val (.int p2), .val (.long (((p1 &&& (9223372036854775807 : Int64)).toUInt64 >>> ((p2 &&& (63 : Int32)) &&& 0x3f).toInt64.toUInt64).toInt64)), .second, .val (.ref b_1), .val (.int (own_cnt (((p1 &&& (9223372036854775807 : Int64)).toUInt64 >>> ((p2 &&& (63 : Int32)) &&& 0x3f).toInt64.toUInt64).toInt64))), .val (.int (1 : Int32)), .unset] [(.int (1 : Int32))]) (fun _ k => XS.goto X_24.here hx rfl (pc0 := 206) (pc' := 210) rfl (hb hby at_206) (by decide) (by decide) k) ?_
  refine Go.to (mkF m 212 #[.val (.long p1), .second, .val (.int p2), .val (.long (((p1 &&& (9223372036854775807 : Int64)).toUInt64 >>> ((p2 &&& (63 : Int32)) &&& 0x3f).toInt64.toUInt64).toInt64)), .second, .val (.ref b_1), .val (.int (own_cnt (((p1 &&& (9223372036854775807 : Int64)).toUInt64 >>> ((p2 &&& (63 : Int32)) &&& 0x3f).toInt64.toUInt64).toInt64))), .val (.int (1 : Int32)), .val (.int (1 : Int32))] []) (fun _ k => XS.istore X_24.here hx rfl (hb hby at_210) rfl (l' := #[.val (.long p1), .second, .val (.int p2), .val (.long (((p1 &&& (9223372036854775807 : Int64)).toUInt64 >>> ((p2 &&& (63 : Int32)) &&& 0x3f).toInt64.toUInt64).toInt64)), .second, .val (.ref b_1), .val (.int (own_cnt (((p1 &&& (9223372036854775807 : Int64)).toUInt64 >>> ((p2 &&& (63 : Int32)) &&& 0x3f).toInt64.toUInt64).toInt64))), .val (.int (1 : Int32)), .val (.int (1 : Int32))]) rfl k) ?_
  refine Go.to (mkF m 214 #[.val (.long p1), .second, .val (.int p2), .val (.long (((p1 &&& (9223372036854775807 : Int64)).toUInt64 >>> ((p2 &&& (63 : Int32)) &&& 0x3f).toInt64.toUInt64).toInt64)), .second, .val (.ref b_1), .val (.int (own_cnt (((p1 &&& (9223372036854775807 : Int64)).toUInt64 >>> ((p2 &&& (63 : Int32)) &&& 0x3f).toInt64.toUInt64).toInt64))), .val (.int (1 : Int32)), .val (.int (1 : Int32))] [(.int (1 : Int32))]) (fun _ k => XS.iload X_24.here hx rfl (hb hby at_212) rfl  k) ?_
  refine Go.to (mkF m 217 #[.val (.long p1), .second, .val (.int p2), .val (.long (((p1 &&& (9223372036854775807 : Int64)).toUInt64 >>> ((p2 &&& (63 : Int32)) &&& 0x3f).toInt64.toUInt64).toInt64)), .second, .val (.ref b_1), .val (.int (own_cnt (((p1 &&& (9223372036854775807 : Int64)).toUInt64 >>> ((p2 &&& (63 : Int32)) &&& 0x3f).toInt64.toUInt64).toInt64))), .val (.int (1 : Int32)), .val (.int (1 : Int32))] []) (fun _ k => XS.ifNo X_24.here hx rfl (hb hby at_214) rfl ((if0 _ _).trans (feq (by decide : ¬ ((1 : Int32) = (0 : Int32)))).1) k) ?_
  refine Go.to (mkF m 219 #[.val (.long p1), .second, .val (.int p2), .val (.long (((p1 &&& (9223372036854775807 : Int64)).toUInt64 >>> ((p2 &&& (63 : Int32)) &&& 0x3f).toInt64.toUInt64).toInt64)), .second, .val (.ref b_1), .val (.int (own_cnt (((p1 &&& (9223372036854775807 : Int64)).toUInt64 >>> ((p2 &&& (63 : Int32)) &&& 0x3f).toInt64.toUInt64).toInt64))), .val (.int (1 : Int32)), .val (.int (1 : Int32))] [(.int (1 : Int32))]) (fun _ k => XS.iload X_24.here hx rfl (hb hby at_217) rfl  k) ?_
  refine Go.to (mkF m 222 #[.val (.long p1), .second, .val (.int p2), .val (.long (((p1 &&& (9223372036854775807 : Int64)).toUInt64 >>> ((p2 &&& (63 : Int32)) &&& 0x3f).toInt64.toUInt64).toInt64)), .second, .val (.ref b_1), .val (.int (own_cnt (((p1 &&& (9223372036854775807 : Int64)).toUInt64 >>> ((p2 &&& (63 : Int32)) &&& 0x3f).toInt64.toUInt64).toInt64))), .val (.int (1 : Int32)), .val (.int (1 : Int32))] []) (fun _ k => XS.ifNo X_24.here hx rfl (hb hby at_219) rfl ((if0 _ _).trans (feq (by decide : ¬ ((1 : Int32) = (0 : Int32)))).1) k) ?_
  refine Go.to (mkF m 223 #[.val (.long p1), .second, .val (.int p2), .val (.long (((p1 &&& (9223372036854775807 : Int64)).toUInt64 >>> ((p2 &&& (63 : Int32)) &&& 0x3f).toInt64.toUInt64).toInt64)), .second, .val (.ref b_1), .val (.int (own_cnt (((p1 &&& (9223372036854775807 : Int64)).toUInt64 >>> ((p2 &&& (63 : Int32)) &&& 0x3f).toInt64.toUInt64).toInt64))), .val (.int (1 : Int32)), .val (.int (1 : Int32))] [(.int (1 : Int32))]) (fun _ k => XS.iconst X_24.here hx rfl (hb hby at_222) k) ?_
  refine Go.to (mkF m 227 #[.val (.long p1), .second, .val (.int p2), .val (.long (((p1 &&& (9223372036854775807 : Int64)).toUInt64 >>> ((p2 &&& (63 : Int32)) &&& 0x3f).toInt64.toUInt64).toInt64)), .second, .val (.ref b_1), .val (.int (own_cnt (((p1 &&& (9223372036854775807 : Int64)).toUInt64 >>> ((p2 &&& (63 : Int32)) &&& 0x3f).toInt64.toUInt64).toInt64))), .val (.int (1 : Int32)), .val (.int (1 : Int32))] [(.int (1 : Int32))]) (fun _ k => XS.goto X_24.here hx rfl (pc0 := 223) (pc' := 227) rfl (hb hby at_223) (by decide) (by decide) k) ?_
  refine Go.retN X_24 hx (t := .boolean) hret hlk (by simp) (hb hby at_227) (by decide) (by decide) (z' := (1 : Int32)) rfl ?_
  have f_29 : Keep h0 h_20 [] := (((((((((((((((((((((Keep.refl h0 []).ext E_1).wr W_2 (Or.inr sz_b_1)).wr W_3 (Or.inr sz_b_1)).wr W_4 (Or.inr sz_b_1)).wr W_5 (Or.inr sz_b_1)).wr W_6 (Or.inr sz_b_1)).wr W_7 (Or.inr sz_b_1)).wr W_8 (Or.inr sz_b_1)).wr W_9 (Or.inr sz_b_1)).wr W_10 (Or.inr sz_b_1)).wr W_11 (Or.inr sz_b_1)).wr W_12 (Or.inr sz_b_1)).wr W_13 (Or.inr sz_b_1)).wr W_14 (Or.inr sz_b_1)).wr W_15 (Or.inr sz_b_1)).wr W_16 (Or.inr sz_b_1)).wr W_17 (Or.inr sz_b_1)).wr W_18 (Or.inr sz_b_1)).wr W_19 (Or.inr sz_b_1)).wr W_20 (Or.inr sz_b_1))
  show (Q0 Z p1 p2 a kp h0 n0) _ T_24.heap _
  rw [hh_24]
  exact ⟨rfl, N_24, f_29⟩
set_option maxRecDepth 65536 in
set_option maxHeartbeats 40000000 in
theorem comes_1 {Post : Tables → Env → Array Value → State → Outcome → State → Prop} (hpost : ∀ tb e args s v u, (limb_1_1.after args s (.returned v) u = true ∧ limb_1_2.after args s (.returned v) u = true ∧ True) → FrameEnd s (.returned v) u (Jvm.fieldLocs frame_1_writes args s ++ Jvm.arrayLocs frame_1_arrays args s ++ Jvm.staticLocs frame_1_statics s) 16 128 → Post tb e args s (.returned v) u) :
    ArmFor flags0 classFile x code maxLocals ret World_1 tables_1 room_1 Calls_1 rest_1 Pre_1 Post := by
  intro l hfl _ _ p e ha hc hk s m args below hf hA hF happ hP
  obtain ⟨hcalls, hrest, hpre⟩ := hP
  obtain ⟨-, -, -, hnamed, -, -, -, hat⟩ := (Spec.applies_iff hf).mp happ
  obtain ⟨hg, hn⟩ := and_e (Cond.before_iff.mp (show (Jvm.Cond.and given_1 narrow_1).before args s = true from hpre))
  obtain ⟨gc, ga0⟩ := and_e hg
  obtain ⟨gv0, ga1⟩ := and_e ga0
  have gv1 := ga1
  obtain ⟨w0, w1, rfl⟩ : ∃ w0 w1 : Value, args = #[w0, w1] := by
    have hs : args.size = 2 := by simpa [Cond.value, given_1] using gc
    obtain ⟨L⟩ := args
    match L, hs with
    | [w0, w1], _ => exact ⟨w0, w1, rfl⟩
  have hw := fun d (hd : d ∈ tables_1) => atoms_spec (ws := Jvm.Cond.code x code maxLocals ret :: tables_1) hat d (List.mem_cons_of_mem _ hd)
  have hfit : Fit s := fun {y c} hc i hi => by
    obtain ⟨ha, rfl⟩ := Array.getElem?_eq_some_iff.mp hc
    have q := List.all_eq_true.mp ((Array.all_eq_true_iff_forall_mem.mp hF) _ (Array.getElem_mem ha)) i (List.mem_range.mpr hi)
    simpa [Array.getElem?_eq_getElem hi] using q
  obtain ⟨i0, ei0⟩ := isL_v gv0
  obtain rfl : w0 = (.long i0) := Option.some.inj ei0
  obtain ⟨i1, ei1⟩ := is_v gv1
  obtain rfl : w1 = (.int i1) := Option.some.inj ei1
  obtain ⟨m0, hn⟩ := and_e hn
  obtain ⟨m1, hn⟩ := and_e hn
  obtain ⟨c0, hn⟩ := and_e hn
  obtain ⟨c1, hn⟩ := and_e hn
  obtain ⟨c2, hn⟩ := and_e hn
  obtain ⟨c3, hn⟩ := and_e hn
  obtain ⟨c4, hn⟩ := and_e hn
  obtain ⟨c5, hn⟩ := and_e hn
  obtain ⟨c6, hn⟩ := and_e hn
  obtain ⟨c7, hn⟩ := and_e hn
  obtain ⟨c8, hn⟩ := and_e hn
  obtain ⟨c9, hn⟩ := and_e hn
  obtain ⟨c10, hn⟩ := and_e hn
  obtain ⟨c11, hn⟩ := and_e hn
  obtain ⟨c12, hn⟩ := and_e hn
  obtain ⟨c13, hn⟩ := and_e hn
  obtain ⟨c14, hn⟩ := and_e hn
  obtain ⟨c15, hn⟩ := and_e hn
  obtain ⟨c16, hn⟩ := and_e hn
  obtain ⟨c17, hn⟩ := and_e hn
  have c18 := hn
  obtain ⟨v, ev, fv⟩ := static_fit hfit (hw _ (List.mem_of_getElem? (i := 25) rfl)) (ty := .array .long) (by decide)
  obtain ⟨a, ea⟩ := arr_v m0
  have Sp := Sta.start ea (Or.inr ⟨(hw _ (List.mem_of_getElem? (i := 22) rfl)), (hw _ (List.mem_of_getElem? (i := 25) rfl))⟩)
  obtain ⟨cl, Ar⟩ := Arr.start ea m0
  obtain ⟨z1, z2⟩ := own_len_at ea Ar (own_eq_int m1)
  have Av : Arv s s.heap a cl.cls .long (19 : Int32) [(.long (1 : Int64)), (.long (10 : Int64)), (.long (100 : Int64)), (.long (1000 : Int64)), (.long (10000 : Int64)), (.long (100000 : Int64)), (.long (1000000 : Int64)), (.long (10000000 : Int64)), (.long (100000000 : Int64)), (.long (1000000000 : Int64)), (.long (10000000000 : Int64)), (.long (100000000000 : Int64)), (.long (1000000000000 : Int64)), (.long (10000000000000 : Int64)), (.long (100000000000000 : Int64)), (.long (1000000000000000 : Int64)), (.long (10000000000000000 : Int64)), (.long (100000000000000000 : Int64)), (.long (1000000000000000000 : Int64))] (.long (0 : Int64)) := Arv.start hfit Ar z1 z2 (by decide) (by decide) ⟨own_elem_at ea Ar (own_eq_long c0) rfl, own_elem_at ea Ar (own_eq_long c1) rfl, own_elem_at ea Ar (own_eq_long c2) rfl, own_elem_at ea Ar (own_eq_long c3) rfl, own_elem_at ea Ar (own_eq_long c4) rfl, own_elem_at ea Ar (own_eq_long c5) rfl, own_elem_at ea Ar (own_eq_long c6) rfl, own_elem_at ea Ar (own_eq_long c7) rfl, own_elem_at ea Ar (own_eq_long c8) rfl, own_elem_at ea Ar (own_eq_long c9) rfl, own_elem_at ea Ar (own_eq_long c10) rfl, own_elem_at ea Ar (own_eq_long c11) rfl, own_elem_at ea Ar (own_eq_long c12) rfl, own_elem_at ea Ar (own_eq_long c13) rfl, own_elem_at ea Ar (own_eq_long c14) rfl, own_elem_at ea Ar (own_eq_long c15) rfl, own_elem_at ea Ar (own_eq_long c16) rfl, own_elem_at ea Ar (own_eq_long c17) rfl, own_elem_at ea Ar (own_eq_long c18) rfl, trivial⟩
  obtain ⟨n, o, h1, h2, h3, _, L, rfl, ⟨rfl, N, -⟩, hq⟩ := rm0 l s _ hw i0 i1 a cl.cls s.heap s.heap.size (Nat.le_refl _) Sp Av tables_1 p e ha hc hk s m _ below hf ((Spec.applies_iff_loose hf).mp happ).1 ⟨rfl, State.Warmed39.refl s, rfl⟩ trivial
  refine ⟨n, _, h1, h2, h3, hpost _ _ _ _ _ _ ⟨Cond.after_iff.mpr rfl, Cond.after_iff.mpr (eq_i res_at (Term.int_eval (1)) rfl), trivial⟩ ⟨hq.1, hq.2.1, (hq.2.2.sift fun y hy => Or.inr (N y hy)).mono (by decide) (by decide)⟩⟩
theorem main_1_1 : Claimed_1_1 := comes_1 fun _ _ _ _ _ _ h hF => ⟨h.1, hF⟩
theorem main_1_2 : Claimed_1_2 := comes_1 fun _ _ _ _ _ _ h hF => ⟨h.2.1, hF⟩
end Jvm.Pilot.@@N@@
namespace Jvm.Pilot.@@N@@
open Jvm Jvm.ClassFile Sem Op Lib Jvm.Free Jvm.Stand Jvm.Pilot.@@N@@.Jvm.D
/-! MADE BY PROGRAM (witnessworld.py) out of the Statement's table words and the real class files: 11 classes; the members and pool entries that the words name. The judged class is class 1, her method 1. -/
namespace start1
open Jvm.ClassFile
def u (s : String) : CpInfo := .utf8 (stringToUtf16 s)
/-- a pool by its gaps: so many unusable entries, then the entry; so many at the end -/
def gap : Nat → List CpInfo → List CpInfo
  | 0, r => r
  | n + 1, r => .unusable :: gap n r
def poolList (es : List (Nat × CpInfo)) (last : Nat) : List CpInfo := es.foldr (fun e r => gap e.1 (e.2 :: r)) (gap last [])
def pool (es : List (Nat × CpInfo)) (last : Nat) : Array CpInfo := ⟨poolList es last⟩
def fileOf (pool : Array CpInfo) (this : Nat) (attrs : Array Attribute := #[]) (ms : Array MethodInfo := #[]) (fl : Nat := 33) (sup : Nat := 0) (ifs : Array Nat := #[]) (fds : Array FieldInfo := #[]) : ClassFile where
  minorVersion := 0
  majorVersion := 65
  constantPool := pool
  accessFlags := fl
  thisClass := this
  superClass := sup
  interfaces := ifs
  fields := fds
  methods := ms
  attributes := attrs
def plain (name : String) (sup : Option ClassId) : Class where
  name := name
  kind := .ordinary
  loader := none
  accessFlags := 33
  super := sup
  interfaces := #[]
  cf := none
  fields := #[]
  methods := #[]
  instanceTypes := #[]
  staticTypes := #[]
  resolved := #[]
  callSites := []
  init := .initialized
  statics := none
  mirror := none

def pool0 : Array CpInfo := pool [(5, u "<init>"), (0, u "()V"), (1, .class_ 10), (1, u "java/lang/Object")] 113

def k0m0 : Method := { name := "<init>", desc := "()V", sig := { parameters := [], returnType := none }, accessFlags := 1, code := none }
/-- java/lang/Object -/
def k0 : Class := { plain "java/lang/Object" none with
  accessFlags := 33
  interfaces := #[]
  cf := some (fileOf pool0 8 #[] #[{ accessFlags := 1, nameIndex := 5, descriptorIndex := 6, attributes := #[] }] 33 0 #[] #[])
  fields := #[]
  methods := #[k0m0]
  instanceTypes := #[]
  staticTypes := #[]
  resolved := Array.replicate 124 none
  statics := none }

def pool1 : Array CpInfo := pool [(2, .class_ 4), (1, u "java/lang/Object"), (0, u "<init>"), (0, u "()V"), (2, .long 9223372036854775807), (1, .long 10), (1, .long 100), (1, .long 1000), (1, .long 10000), (1, .long 100000), (1, .long 1000000), (1, .long 10000000), (1, .long 100000000), (1, .long 1000000000), (1, .long 10000000000), (1, .long 100000000000), (1, .long 1000000000000), (1, .long 10000000000000), (1, .long 100000000000000), (1, .long 1000000000000000), (1, .long 10000000000000000), (1, .long 100000000000000000), (1, .long 1000000000000000000), (1, .methodref 48 49), (0, .class_ 50), (0, .nameAndType 51 52), (0, u "com/example/parting_terms/partingterms/Digits"), (0, u "count"), (0, u "(J)I"), (0, .class_ 54), (0, u "com/example/parting_terms/partingterms/DigitsCountPinLaw"), (2, u "law"), (0, u "(JI)Z")] 5

def k1m0 : Method := { name := "<init>", desc := "()V", sig := { parameters := [], returnType := none }, accessFlags := 2, code := none }
def k1c1 : Code := { maxStack := 5, maxLocals := 9, code := code, exceptionTable := #[], attributes := #[] }
def k1m1 : Method := { name := "law", desc := "(JI)Z", sig := { parameters := [.long, .int], returnType := some .boolean }, accessFlags := 9, code := some k1c1 }
/-- com/example/parting_terms/partingterms/DigitsCountPinLaw -/
def k1 : Class := { plain "com/example/parting_terms/partingterms/DigitsCountPinLaw" (some 0) with
  accessFlags := 49
  interfaces := #[]
  cf := some (fileOf pool1 53 #[] #[{ accessFlags := 2, nameIndex := 5, descriptorIndex := 6, attributes := #[] }, { accessFlags := 9, nameIndex := 57, descriptorIndex := 58, attributes := #[] }] 49 2 #[] #[])
  fields := #[]
  methods := #[k1m0, k1m1]
  instanceTypes := #[]
  staticTypes := #[]
  resolved := Array.replicate 64 none
  statics := none }

def pool2 : Array CpInfo := pool [(2, .class_ 4), (1, u "java/lang/Object"), (0, u "<init>"), (0, u "()V"), (2, .fieldref 10 11), (0, .class_ 12), (0, .nameAndType 13 14), (0, u "com/example/parting_terms/partingterms/Digits"), (0, u "POWERS"), (0, u "[J"), (2, u "PAIRS"), (0, u "[B"), (21, u "count"), (0, u "(J)I")] 5

def k2m0 : Method := { name := "<init>", desc := "()V", sig := { parameters := [], returnType := none }, accessFlags := 2, code := none }
def k2c1 : Code := { maxStack := 4, maxLocals := 3, code := prog_3_method_4_code, exceptionTable := #[], attributes := #[] }
def k2m1 : Method := { name := "count", desc := "(J)I", sig := { parameters := [.long], returnType := some .int }, accessFlags := 8, code := some k2c1 }
/-- com/example/parting_terms/partingterms/Digits -/
def k2 : Class := { plain "com/example/parting_terms/partingterms/Digits" (some 0) with
  accessFlags := 48
  interfaces := #[]
  cf := some (fileOf pool2 10 #[] #[{ accessFlags := 2, nameIndex := 5, descriptorIndex := 6, attributes := #[] }, { accessFlags := 8, nameIndex := 40, descriptorIndex := 41, attributes := #[] }] 48 2 #[] #[{ accessFlags := 26, nameIndex := 17, descriptorIndex := 18, attributes := #[] }, { accessFlags := 26, nameIndex := 13, descriptorIndex := 14, attributes := #[] }])
  fields := #[{ name := "PAIRS", type := (.array .byte), accessFlags := 26, slot := 0, constantValue := 0 }, { name := "POWERS", type := (.array .long), accessFlags := 26, slot := 1, constantValue := 0 }]
  methods := #[k2m0, k2m1]
  instanceTypes := #[]
  staticTypes := #[(.array .byte), (.array .long)]
  resolved := Array.replicate 47 none
  statics := some 0 }

def pool3 : Array CpInfo := pool [(1, u "java/lang/Cloneable"), (0, .class_ 1), (0, u "java/lang/Object"), (0, .class_ 3)] 3

/-- java/lang/Cloneable -/
def k3 : Class := { plain "java/lang/Cloneable" (some 0) with
  accessFlags := 1537
  interfaces := #[]
  cf := some (fileOf pool3 2 #[] #[] 1537 4 #[] #[])
  fields := #[]
  methods := #[]
  instanceTypes := #[]
  staticTypes := #[]
  resolved := Array.replicate 8 none
  statics := none }

def pool4 : Array CpInfo := pool [(1, u "java/io/Serializable"), (0, .class_ 1), (0, u "java/lang/Object"), (0, .class_ 3)] 3

/-- java/io/Serializable -/
def k4 : Class := { plain "java/io/Serializable" (some 0) with
  accessFlags := 1537
  interfaces := #[]
  cf := some (fileOf pool4 2 #[] #[] 1537 4 #[] #[])
  fields := #[]
  methods := #[]
  instanceTypes := #[]
  staticTypes := #[]
  resolved := Array.replicate 8 none
  statics := none }

/-- the primitive byte -/
def k5 : Class := { plain "byte" none with kind := .primitive 'B', accessFlags := 0x411 }
/-- [B -/
def k6 : Class := { plain "[B" (some 0) with kind := .array 5 .byte, interfaces := #[3, 4], accessFlags := 1041 }

/-- the primitive int -/
def k7 : Class := { plain "int" none with kind := .primitive 'I', accessFlags := 0x411 }
/-- [I -/
def k8 : Class := { plain "[I" (some 0) with kind := .array 7 .int, interfaces := #[3, 4], accessFlags := 1041 }

/-- the primitive long -/
def k9 : Class := { plain "long" none with kind := .primitive 'J', accessFlags := 0x411 }
/-- [J -/
def k10 : Class := { plain "[J" (some 0) with kind := .array 9 .long, interfaces := #[3, 4], accessFlags := 1041 }

def heap : Heap := #[{ cls := 2, slots := #[.null, .ref 1], vm := .statics 2 },
  { cls := 10, slots := #[.long 1, .long 10, .long 100, .long 1000, .long 10000, .long 100000, .long 1000000, .long 10000000, .long 100000000, .long 1000000000, .long 10000000000, .long 100000000000, .long 1000000000000, .long 10000000000000, .long 100000000000000, .long 1000000000000000, .long 10000000000000000, .long 100000000000000000, .long 1000000000000000000], vm := .none }]
def classes : Array Class := #[k0, k1, k2, k3, k4, k5, k6, k7, k8, k9, k10]
def interned : List (Array UInt16 × Addr) := []
def slotsUsed : Nat := 21
def theMethod : MethodId := ⟨1, 1⟩
def args0 : Array Value := #[.long 5, .int 5]
def aboutOver (below : List Frame) : State where
  vm := { classes := classes, interned := interned.toArray }
  heap := heap
  slotsUsed := slotsUsed
  threads := #[{ frames := .invoking theMethod args0 :: below }]
def below0 : List Frame := [.native { method := ⟨0, 0⟩, args := #[] }]
def about1 : State := aboutOver below0
def p0 : Program := .bare "" "" ""
def e0 : Env := launch0.env 0 0 0
theorem w_frames : about1.frames = Frame.invoking theMethod args0 :: below0 := rfl
set_option maxRecDepth 65536 in
theorem w_args : argsFit about1.vm theMethod args0 = true := by decide +kernel
set_option maxRecDepth 65536 in
theorem w_heap : heapFits about1 = true := by decide +kernel
set_option maxRecDepth 65536 in
theorem w_runnable : about1.curStatus? = some .runnable := by decide +kernel
set_option maxRecDepth 65536 in
theorem w_alone : about1.alone = true := by decide +kernel
set_option maxRecDepth 65536 in
theorem w_named : about1.methodNamed? x = some theMethod := by decide +kernel
set_option maxRecDepth 65536 in
theorem w_hears : about1.hears theMethod below0 = true := by decide +kernel
set_option maxRecDepth 65536 in
theorem w_ripe : about1.ripe theMethod args0 below0 = true := by decide +kernel
theorem w_running : about1.status = .running := rfl
set_option maxRecDepth 65536 in
theorem w_room : about1.hasRoom e0.platform room_1 = true :=
  launch0.hasRoom_least _ room_1 (by decide +kernel) (by decide +kernel) (by decide +kernel) (by decide +kernel) (by decide +kernel) (by decide +kernel)
theorem allAtoms_all (ts : List Jvm.Cond) (a : Array Jvm.Value) (st : Jvm.State) : (allAtoms ts).before a st = ts.all (fun c => c.before a st) := by
  induction ts with
  | nil => rfl
  | cons c t ih =>
    show (Jvm.Cond.and c (allAtoms t)).before a st = _
    rw [Jvm.Cond.before_and, ih, List.all_cons]
def words1 : List Jvm.Cond := Jvm.Cond.code x code maxLocals ret :: tables_1
/-- a 'code' word, met by the world's own term for the bytes: nothing is compared byte by byte -/
theorem code_word {y : MethodName} {bytes : ByteArray} {mx : Nat} {rt : Option FieldType} {a : Array Value} {s : State} {m : MethodId} {meth : Method} {c : Code} (h1 : s.methodNamed? y = some m) (h2 : s.vm.method? m = some meth) (h3 : meth.code = some c) (h4 : c.code = bytes)
    (h5 : (c.maxLocals == mx && c.exceptionTable.isEmpty && decide (c.maxStack ≤ mostOperands) && decide (meth.sig.returnType = rt) && !meth.locks && decide (parseMethodDescriptor y.desc = some meth.sig)) = true) : (Jvm.Cond.code y bytes mx rt).before a s = true := by
  simp only [Bool.and_eq_true, beq_iff_eq, Bool.not_eq_true', decide_eq_true_eq] at h5
  obtain ⟨⟨⟨⟨⟨g1, g2⟩, g3⟩, g4⟩, g5⟩, g6⟩ := h5
  simp [Cond.before, Cond.holds, Cond.value, h1, h2, h3, h4, g1, g2, g3, g4, g5, g6]
def isCode : Jvm.Cond → Bool
  | .code _ _ _ _ => true
  | _ => false
theorem all_split {L : List Jvm.Cond} {P : Jvm.Cond → Bool} (h1 : L.all (fun c => isCode c || P c) = true) (h2 : ∀ c ∈ L.filter isCode, P c = true) : L.all P = true := by
  refine List.all_eq_true.mpr fun c hc => ?_
  have h := List.all_eq_true.mp h1 c hc
  rcases Bool.eq_false_or_eq_true (isCode c) with hi | hi
  · exact h2 c (List.mem_filter.mpr ⟨hc, hi⟩)
  · simpa [hi] using h
set_option maxRecDepth 65536 in
theorem w_c0 : (Jvm.Cond.code x code maxLocals ret).before args0 about1 = true := code_word (m := ⟨1, 1⟩) (meth := k1m1) (c := k1c1) (by decide +kernel) rfl rfl rfl (by decide +kernel)
set_option maxRecDepth 65536 in
theorem w_c1 : (Jvm.Cond.code ({ cls := "com/example/parting_terms/partingterms/Digits", name := "count", desc := "(J)I" } : Jvm.MethodName) prog_3_method_4_code (3 : Nat) (Option.some Jvm.ClassFile.FieldType.int)).before args0 about1 = true := code_word (m := ⟨2, 1⟩) (meth := k2m1) (c := k2c1) (by decide +kernel) rfl rfl rfl (by decide +kernel)
def codes1 : List Jvm.Cond := [Jvm.Cond.code x code maxLocals ret, Jvm.Cond.code ({ cls := "com/example/parting_terms/partingterms/Digits", name := "count", desc := "(J)I" } : Jvm.MethodName) prog_3_method_4_code (3 : Nat) (Option.some Jvm.ClassFile.FieldType.int)]
set_option maxRecDepth 65536 in
theorem codes_eq : words1.filter isCode = codes1 := rfl
theorem w_codes : ∀ c ∈ words1.filter isCode, c.before args0 about1 = true := by
  rw [codes_eq]
  intro c hc
  simp only [codes1, List.mem_cons, List.not_mem_nil, or_false] at hc
  rcases hc with rfl | rfl
  · exact w_c0
  · exact w_c1
set_option maxRecDepth 65536 in
theorem w_t1 : (words1.take 24).all (fun c => isCode c || c.before args0 about1) = true := by decide +kernel
set_option maxRecDepth 65536 in
theorem w_t2 : (words1.drop 24).all (fun c => isCode c || c.before args0 about1) = true := by decide +kernel
theorem w_tables : (allAtoms (Jvm.Cond.code x code maxLocals ret :: tables_1)).before args0 about1 = true := by
  rw [allAtoms_all]
  show words1.all (fun c => c.before args0 about1) = true
  refine all_split ?_ w_codes
  rw [← List.take_append_drop 24 words1, List.all_append, w_t1, w_t2]
  rfl
set_option maxRecDepth 65536 in
theorem w_case : (Jvm.Cond.and given_1 narrow_1).before args0 about1 = true := by decide +kernel
theorem w_applies : (headSpec (Jvm.Cond.code x code maxLocals ret :: tables_1) room_1).applies x e0.platform about1 = true :=
  (Spec.applies_iff w_frames).mpr ⟨w_running, w_runnable, w_alone, w_named, w_hears, w_ripe, w_room, w_tables⟩
theorem atStart : AtStart classFile x code maxLocals ret World_1 tables_1 room_1 Calls_1 rest_1 Pre_1 launch0 p0 e0 about1 theMethod args0 below0 :=
  ⟨lists_1, trivial, launch0.admits_env _ _ _, launch0.least_env, fairChoices_fair.cas, fairChoices_fair.clock, w_frames, w_args, w_heap, w_applies, trivial, trivial, w_case⟩
end start1
theorem witness_1 : WitnessClaimed_1 := ⟨start1.p0, start1.e0, start1.about1, start1.theMethod, start1.args0, start1.below0, start1.atStart⟩
end Jvm.Pilot.@@N@@
