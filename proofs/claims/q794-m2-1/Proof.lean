import JvmDerived
import JvmDerived.Pilot.@@N@@Statement
import JvmDerived.Pilot.@@N@@Code
set_option linter.unusedVariables false
set_option linter.unusedSimpArgs false
namespace Jvm.RoadKit
open Sem ClassFile Op Lib Jvm.Stand Jvm.Free Jvm.LawKit
section OwnGo
variable {p : Program} {l : Launch} {e : Env} {R : Room} {s : State} {m : MethodId} {args : Array Value} {below : List Frame} {meth : Method} {c : Code} {T : State} {locs : List Loc} {cells slots : Nat} {Z : State} {a0 : Array Value} {h : Heap} {Q : Option Value → Heap → List Loc → Prop} {kc ks : Nat} {Fin : State → Outcome → Prop}
/-- what is left of a body's walk: from the frame g over T the run ends, in what Fin says -/
def Go (p : Program) (e : Env) (below : List Frame) (Fin : State → Outcome → Prop) (T : State) (g : JFrame) : Prop :=
  ∃ (t : State) (o : Outcome), Steps p.tables e below (T.setTop g) t ∧ t.status = .running ∧ Ended t below o ∧ Fin t o
/-- it returns what Q says; nothing interned -/
def FinN (s : State) (Q : Option Value → Heap → List Loc → Prop) (kc ks : Nat) (t : State) (o : Outcome) : Prop := ∃ v L, o = .returned v ∧ Q v t.heap L ∧ FrameEnd s o t L kc ks
/-- it returns what Q says; String constants may have been interned -/
def FinW (s : State) (Q : Option Value → Heap → List Loc → Vm → Prop) (kc ks : Nat) (t : State) (o : Outcome) : Prop := ∃ v L, o = .returned v ∧ Q v t.heap L t.vm ∧ ReturnedEndW s o t L kc ks
theorem Go.to {T' : State} {g : JFrame} (g' : JFrame) (st : ∀ t, Steps p.tables e below (T'.setTop g') t → Steps p.tables e below (T.setTop g) t) (K : Go p e below Fin T' g') : Go p e below Fin T g := by
  obtain ⟨t, o, h1, r⟩ := K
  exact ⟨t, o, st t h1, r⟩
theorem Go.cast {g g' : JFrame} (q : g = g') (K : Go p e below Fin T g') : Go p e below Fin T g := q ▸ K
/-- a body's contract: with the arguments as' at the heap h0 it returns what Q says -/
def Met1 (l : Launch) (Z : State) (y : MethodName) (bytes : ByteArray) (maxL : Nat) (ret : Option FieldType) (rm : Room) (as' : Array Value) (h0 : Heap) (Q : Option Value → Heap → List Loc → Prop) : Prop :=
  ∀ ws : List Cond, MetFree l y (head1 (Cond.code y bytes maxL ret :: ws) rm) (fun a U => a = as' ∧ Z.Warmed39 U.vm ∧ U.heap = h0) (fun _ _ _ _ _ => True) (fun _ U o U' => ∃ v L, o = .returned v ∧ Q v U'.heap L ∧ FrameEnd U o U' L rm.cells rm.slots)
/-- .. which may intern; J: what is known of the tables where it is called -/
def MetW (l : Launch) (Z : State) (y : MethodName) (bytes : ByteArray) (maxL : Nat) (ret : Option FieldType) (rm : Room) (as' : Array Value) (h0 : Heap) (J : Vm → Prop) (Q : Option Value → Heap → List Loc → Vm → Prop) : Prop :=
  ∀ ws : List Cond, MetFree l y (head1 (Cond.code y bytes maxL ret :: ws) rm) (fun a U => a = as' ∧ Z.Warmed39 U.vm ∧ U.heap = h0 ∧ J U.vm) (fun _ _ _ _ _ => True) (fun _ U o U' => ∃ v L, o = .returned v ∧ Q v U'.heap L U'.vm ∧ ReturnedEndW U o U' L rm.cells rm.slots)
theorem Met1.mk {y : MethodName} {bytes : ByteArray} {maxL : Nat} {ret : Option FieldType} {rm : Room} {as' : Array Value} {h0 : Heap} (hp : plainFor y = true)
    (body : ∀ (p : Program) (e : Env) (s : State) (m : MethodId) (below : List Frame) (meth : Method) (c : Code) (s₁ : State), p.tables.exec = Jvm.exec → Z.Warmed39 s.vm → c.code = bytes → c.maxLocals = maxL → s.vm.findClass y.cls = some m.cls → meth.name = y.name → meth.sig.returnType = ret → meth.locks = false → Stand p l e rm s m as' below meth c s₁ [] 0 0 → s₁.heap = h0 → Go p e below (FinN s Q rm.cells rm.slots) s₁ (entryFrame m as' maxL)) :
    Met1 l Z y bytes maxL ret rm as' h0 Q := by
  intro ws
  refine MetFree.of_bodySF hp hisR ?_
  intro p e s m args below meth c s₁ Bd hml0 hP hK
  obtain ⟨rfl, hZ, hh⟩ := hP
  exact body p e s m below meth c s₁ Bd.exec hZ Bd.bytes hml0 (findClass_of_methodNamed Bd.named) (name_of_methodNamed Bd.named Bd.method).1 Bd.returns Bd.notSynchronized (Stand.of_body Bd) (by rw [← hh, Bd.state]; rfl)
theorem MetW.mk {y : MethodName} {bytes : ByteArray} {maxL : Nat} {ret : Option FieldType} {rm : Room} {as' : Array Value} {h0 : Heap} {J : Vm → Prop} {QW : Option Value → Heap → List Loc → Vm → Prop} (hp : plainFor y = true)
    (body : ∀ (p : Program) (e : Env) (s : State) (m : MethodId) (below : List Frame) (meth : Method) (c : Code) (s₁ : State) (vm0 : Vm), p.tables.exec = Jvm.exec → Z.Warmed39 (s.setVm vm0).vm → c.code = bytes → c.maxLocals = maxL → (s.setVm vm0).vm.findClass y.cls = some m.cls → meth.name = y.name → meth.sig.returnType = ret → meth.locks = false → Stand p l e rm (s.setVm vm0) m as' below meth c s₁ [] 0 0 → s₁.heap = h0 → s.Since vm0 0 → s.heap = h0 → (s.setVm vm0).methodNamed? y = some m → J vm0 → Go p e below (FinW s QW rm.cells rm.slots) s₁ (entryFrame m as' maxL)) :
    MetW l Z y bytes maxL ret rm as' h0 J QW := by
  intro ws
  refine MetFree.of_bodySF hp hisR ?_
  intro p e s m args below meth c s₁ Bd hml0 hP hK
  obtain ⟨rfl, hZ, hh, hJ⟩ := hP
  exact body p e s m below meth c s₁ s.vm Bd.exec hZ Bd.bytes hml0 (findClass_of_methodNamed Bd.named) (name_of_methodNamed Bd.named Bd.method).1 Bd.returns Bd.notSynchronized (Stand.of_body Bd) (by rw [← hh, Bd.state]; rfl) (State.WarmedH.since (State.WarmedH.refl s) 0) hh Bd.named hJ
theorem Go.retI (X : Stand p l e R s m args below meth c T locs cells slots) (hx : p.tables.exec = Jvm.exec) (hret : meth.sig.returnType = some .int) (hlk : meth.locks = false) {pc : Nat} {Ls : Array Slot} {z : Int32} {rest : List Value} (hd : decode c.code pc = .ok (.ireturn, 1)) (hc : cells ≤ kc) (hs : slots ≤ ks)
    (hq : Q (some (.int z)) T.heap locs) : Go p e below (FinN s Q kc ks) T (mkF m pc Ls (.int z :: rest)) := by
  obtain ⟨fs, hr, hrun, hended, hW, hsame⟩ := X.leave (v := (some (.int z))) (fun h => by rw [hret] at h; cases h) hlk
  exact ⟨_, _, Jvm.RoadKit.retOut X hx hret (t := .int) rfl (Or.inl ⟨rfl, Or.inl rfl, _, rfl⟩) hd hr, hrun, hended, _, _, rfl, hq, ⟨_, rfl⟩, hW, hsame.mono hc hs⟩
theorem Go.retIW {vm0 : Vm} {QW : Option Value → Heap → List Loc → Vm → Prop} (X : Stand p l e R (s.setVm vm0) m args below meth c T locs cells slots) (hx : p.tables.exec = Jvm.exec) (hret : meth.sig.returnType = some .int) (hlk : meth.locks = false) {pc : Nat} {Ls : Array Slot} {z : Int32} {rest : List Value} (hd : decode c.code pc = .ok (.ireturn, 1)) (hc : cells ≤ kc) (hs : slots ≤ ks) {n : Nat} (hS : s.Since vm0 n) (hn : n ≤ T.heap.size)
    (hq : QW (some (.int z)) T.heap locs T.vm) : Go p e below (FinW s QW kc ks) T (mkF m pc Ls (.int z :: rest)) := by
  obtain ⟨fs, hr, hrun, hended, h1, h2, h3, h4⟩ := X.leaveW hS hn (v := (some (.int z))) (fun h => by rw [hret] at h; cases h) hlk
  exact ⟨_, _, Jvm.RoadKit.retOut X hx hret (t := .int) rfl (Or.inl ⟨rfl, Or.inl rfl, _, rfl⟩) hd hr, hrun, hended, _, _, rfl, hq, h1, h2, h3, h4.mono hc hs⟩
theorem Go.retN' (X : Stand p l e R s m args below meth c T locs cells slots) (hx : p.tables.exec = Jvm.exec) {t : FieldType} (hret : meth.sig.returnType = some t) (hlk : meth.locks = false) (ht : t = .boolean ∨ t = .byte ∨ t = .char ∨ t = .short) {pc : Nat} {Ls : Array Slot} {z : Int32} {rest : List Value} (hd : decode c.code pc = .ok (.ireturn, 1)) (hc : cells ≤ kc) (hs : slots ≤ ks)
    (hq : Q (some (.int (nar t z))) T.heap locs) : Go p e below (FinN s Q kc ks) T (mkF m pc Ls (.int z :: rest)) := by
  obtain ⟨fs, hr, hrun, hended, hW, hsame⟩ := X.leave (v := (some (.int (nar t z)))) (fun h => by rw [hret] at h; cases h) hlk
  exact ⟨_, _, Jvm.RoadKit.retN X hx hret ht hd hr, hrun, hended, _, _, rfl, hq, ⟨_, rfl⟩, hW, hsame.mono hc hs⟩
theorem Go.retNW' {vm0 : Vm} {QW : Option Value → Heap → List Loc → Vm → Prop} (X : Stand p l e R (s.setVm vm0) m args below meth c T locs cells slots) (hx : p.tables.exec = Jvm.exec) {t : FieldType} (hret : meth.sig.returnType = some t) (hlk : meth.locks = false) (ht : t = .boolean ∨ t = .byte ∨ t = .char ∨ t = .short) {pc : Nat} {Ls : Array Slot} {z : Int32} {rest : List Value} (hd : decode c.code pc = .ok (.ireturn, 1)) (hc : cells ≤ kc) (hs : slots ≤ ks) {n : Nat} (hS : s.Since vm0 n) (hn : n ≤ T.heap.size)
    (hq : QW (some (.int (nar t z))) T.heap locs T.vm) : Go p e below (FinW s QW kc ks) T (mkF m pc Ls (.int z :: rest)) := by
  obtain ⟨fs, hr, hrun, hended, h1, h2, h3, h4⟩ := X.leaveW hS hn (v := (some (.int (nar t z)))) (fun h => by rw [hret] at h; cases h) hlk
  exact ⟨_, _, Jvm.RoadKit.retN X hx hret ht hd hr, hrun, hended, _, _, rfl, hq, h1, h2, h3, h4.mono hc hs⟩
theorem Go.retL (X : Stand p l e R s m args below meth c T locs cells slots) (hx : p.tables.exec = Jvm.exec) (hret : meth.sig.returnType = some .long) (hlk : meth.locks = false) {pc : Nat} {Ls : Array Slot} {z : Int64} {rest : List Value} (hd : decode c.code pc = .ok (.lreturn, 1)) (hc : cells ≤ kc) (hs : slots ≤ ks)
    (hq : Q (some (.long z)) T.heap locs) : Go p e below (FinN s Q kc ks) T (mkF m pc Ls (.long z :: rest)) := by
  obtain ⟨fs, hr, hrun, hended, hW, hsame⟩ := X.leave (v := (some (.long z))) (fun h => by rw [hret] at h; cases h) hlk
  exact ⟨_, _, Jvm.RoadKit.retOut X hx hret (t := .long) rfl (Or.inr (Or.inl ⟨rfl, rfl, _, rfl⟩)) hd hr, hrun, hended, _, _, rfl, hq, ⟨_, rfl⟩, hW, hsame.mono hc hs⟩
theorem Go.retLW {vm0 : Vm} {QW : Option Value → Heap → List Loc → Vm → Prop} (X : Stand p l e R (s.setVm vm0) m args below meth c T locs cells slots) (hx : p.tables.exec = Jvm.exec) (hret : meth.sig.returnType = some .long) (hlk : meth.locks = false) {pc : Nat} {Ls : Array Slot} {z : Int64} {rest : List Value} (hd : decode c.code pc = .ok (.lreturn, 1)) (hc : cells ≤ kc) (hs : slots ≤ ks) {n : Nat} (hS : s.Since vm0 n) (hn : n ≤ T.heap.size)
    (hq : QW (some (.long z)) T.heap locs T.vm) : Go p e below (FinW s QW kc ks) T (mkF m pc Ls (.long z :: rest)) := by
  obtain ⟨fs, hr, hrun, hended, h1, h2, h3, h4⟩ := X.leaveW hS hn (v := (some (.long z))) (fun h => by rw [hret] at h; cases h) hlk
  exact ⟨_, _, Jvm.RoadKit.retOut X hx hret (t := .long) rfl (Or.inr (Or.inl ⟨rfl, rfl, _, rfl⟩)) hd hr, hrun, hended, _, _, rfl, hq, h1, h2, h3, h4.mono hc hs⟩
theorem own_narrow_ref {t : FieldType} {w : Value} (ht : t.isReference = true) : narrow t w = w := by cases t <;> first | rfl | (cases ht)
theorem Go.retA (X : Stand p l e R s m args below meth c T locs cells slots) (hx : p.tables.exec = Jvm.exec) {t : FieldType} (hret : meth.sig.returnType = some t) (hlk : meth.locks = false) (ht : t.isReference = true) {pc : Nat} {Ls : Array Slot} {w : Value} {rest : List Value} (hw : w.isRef = true) (hd : decode c.code pc = .ok (.areturn, 1)) (hc : cells ≤ kc) (hs : slots ≤ ks)
    (hq : Q (some w) T.heap locs) : Go p e below (FinN s Q kc ks) T (mkF m pc Ls (w :: rest)) := by
  obtain ⟨fs, hr, hrun, hended, hW, hsame⟩ := X.leave (v := (some w)) (fun h => by rw [hret] at h; cases h) hlk
  exact ⟨_, _, Jvm.RoadKit.retOut X hx hret (t := t) (own_narrow_ref ht) (Or.inr (Or.inr (Or.inr (Or.inr ⟨rfl, ht, hw⟩)))) hd hr, hrun, hended, _, _, rfl, hq, ⟨_, rfl⟩, hW, hsame.mono hc hs⟩
theorem Go.retAW {vm0 : Vm} {QW : Option Value → Heap → List Loc → Vm → Prop} (X : Stand p l e R (s.setVm vm0) m args below meth c T locs cells slots) (hx : p.tables.exec = Jvm.exec) {t : FieldType} (hret : meth.sig.returnType = some t) (hlk : meth.locks = false) (ht : t.isReference = true) {pc : Nat} {Ls : Array Slot} {w : Value} {rest : List Value} (hw : w.isRef = true) (hd : decode c.code pc = .ok (.areturn, 1)) (hc : cells ≤ kc) (hs : slots ≤ ks) {n : Nat} (hS : s.Since vm0 n) (hn : n ≤ T.heap.size)
    (hq : QW (some w) T.heap locs T.vm) : Go p e below (FinW s QW kc ks) T (mkF m pc Ls (w :: rest)) := by
  obtain ⟨fs, hr, hrun, hended, h1, h2, h3, h4⟩ := X.leaveW hS hn (v := (some w)) (fun h => by rw [hret] at h; cases h) hlk
  exact ⟨_, _, Jvm.RoadKit.retOut X hx hret (t := t) (own_narrow_ref ht) (Or.inr (Or.inr (Or.inr (Or.inr ⟨rfl, ht, hw⟩)))) hd hr, hrun, hended, _, _, rfl, hq, h1, h2, h3, h4.mono hc hs⟩
theorem Go.ret0 (X : Stand p l e R s m args below meth c T locs cells slots) (hx : p.tables.exec = Jvm.exec) (hret : meth.sig.returnType = none) (hlk : meth.locks = false) {pc : Nat} {Ls : Array Slot} (hd : decode c.code pc = .ok (.return_, 1)) (hc : cells ≤ kc) (hs : slots ≤ ks)
    (hq : Q none T.heap locs) : Go p e below (FinN s Q kc ks) T (mkF m pc Ls []) := by
  obtain ⟨fs, hr, hrun, hended, hW, hsame⟩ := X.leave (v := none) (fun _ => rfl) hlk
  exact ⟨_, _, X.returnOut hx hret hd hr, hrun, hended, _, _, rfl, hq, ⟨_, rfl⟩, hW, hsame.mono hc hs⟩
theorem Go.ret0W {vm0 : Vm} {QW : Option Value → Heap → List Loc → Vm → Prop} (X : Stand p l e R (s.setVm vm0) m args below meth c T locs cells slots) (hx : p.tables.exec = Jvm.exec) (hret : meth.sig.returnType = none) (hlk : meth.locks = false) {pc : Nat} {Ls : Array Slot} (hd : decode c.code pc = .ok (.return_, 1)) (hc : cells ≤ kc) (hs : slots ≤ ks) {n : Nat} (hS : s.Since vm0 n) (hn : n ≤ T.heap.size)
    (hq : QW none T.heap locs T.vm) : Go p e below (FinW s QW kc ks) T (mkF m pc Ls []) := by
  obtain ⟨fs, hr, hrun, hended, h1, h2, h3, h4⟩ := X.leaveW hS hn (v := none) (fun _ => rfl) hlk
  exact ⟨_, _, X.returnOut hx hret hd hr, hrun, hended, _, _, rfl, hq, h1, h2, h3, h4.mono hc hs⟩
theorem Go.retN (X : Stand p l e R s m args below meth c T locs cells slots) (hx : p.tables.exec = Jvm.exec) {t : FieldType} (hret : meth.sig.returnType = some t) (hlk : meth.locks = false) (ht : t = .boolean ∨ t = .byte ∨ t = .char ∨ t = .short) {pc : Nat} {Ls : Array Slot} {z z' : Int32} {rest : List Value} (hd : decode c.code pc = .ok (.ireturn, 1)) (hc : cells ≤ kc) (hs : slots ≤ ks) (hz : nar t z = z')
    (hq : Q (some (.int z')) T.heap locs) : Go p e below (FinN s Q kc ks) T (mkF m pc Ls (.int z :: rest)) := by
  subst hz; exact Go.retN' X hx hret hlk ht hd hc hs hq
theorem Go.retNW {vm0 : Vm} {QW : Option Value → Heap → List Loc → Vm → Prop} (X : Stand p l e R (s.setVm vm0) m args below meth c T locs cells slots) (hx : p.tables.exec = Jvm.exec) {t : FieldType} (hret : meth.sig.returnType = some t) (hlk : meth.locks = false) (ht : t = .boolean ∨ t = .byte ∨ t = .char ∨ t = .short) {pc : Nat} {Ls : Array Slot} {z z' : Int32} {rest : List Value} (hd : decode c.code pc = .ok (.ireturn, 1)) (hc : cells ≤ kc) (hs : slots ≤ ks) {n : Nat} (hS : s.Since vm0 n) (hn : n ≤ T.heap.size) (hz : nar t z = z')
    (hq : QW (some (.int z')) T.heap locs T.vm) : Go p e below (FinW s QW kc ks) T (mkF m pc Ls (.int z :: rest)) := by
  subst hz; exact Go.retNW' X hx hret hlk ht hd hc hs hS hn hq
/-- who pays a call: with the arguments as' at the heap h, k cells and n slots more, what Qc says -/
def OBk (l : Launch) (R : Room) (p : Program) (e : Env) (below : List Frame) (s : State) (args : Array Value) (y : MethodName) (len W : Nat) (as' : Array Value) (h : Heap) (k n : Nat) (Qc : Option Value → Heap → List Loc → Prop) : Prop :=
  Back l R p e below s args y len W (fun A a => a = as' ∧ A.U.heap = h ∧ A.cells + k ≤ R.cells ∧ A.slots + n ≤ R.slots) (fun A _ v B => ∃ L, Qc v B.U.heap L ∧ B.locs = A.locs ++ L ∧ B.cells = A.cells + k ∧ B.slots = A.slots + n)
theorem Met1.back {y : MethodName} {bytes : ByteArray} {maxL : Nat} {ret : Option FieldType} {rm : Room} {as' : Array Value} {Qc : Option Value → Heap → List Loc → Prop} {len W : Nat} (M : Met1 l Z y bytes maxL ret rm as' h Qc) (hZ : Z.Warmed39 s.vm) (wc : (Cond.code y bytes maxL ret).before a0 Z = true) (wz : (Cond.initialized y.cls).before a0 Z = true) (hf : rm.frames + 1 ≤ R.frames) (hl : W + (maxL + 11) + rm.locals ≤ R.locals) :
    OBk l R p e below s args y len W as' h rm.cells rm.slots Qc := backOf (M []) hZ wc wz hf hl
/-- a constructor by its contract -/
theorem Go.special (X : Stand p l e R s m args below meth c T locs cells slots) (hx : p.tables.exec = Jvm.exec) (hZ : Z.Warmed39 s.vm) {own : String} {index : Nat} {y : MethodName} {bytes : ByteArray} {maxL : Nat} (hy1 : y.name = "<init>") (hown : s.vm.findClass own = some m.cls)
    (w1 : (Cond.methodLink own index y).before a0 Z = true) (w2 : (Cond.instanceMethod y).before a0 Z = true) (w3 : (Cond.code y bytes maxL none).before a0 Z = true) (hy : y.cls ≠ "java/lang/invoke/MethodHandle" ∧ y.cls ≠ "java/lang/invoke/VarHandle")
    (eT : T.heap = h) {kC kS : Nat} {a : Addr} {argsL rest : List Value} {Qc : Option Value → Heap → List Loc → Prop} {W : Nat} (B : OBk l R p e below s args y 3 W (.ref a :: argsL).toArray h kC kS Qc)
    {pc : Nat} {Ls : Array Slot} (hsz : Ls.size = c.maxLocals) (hlen : ∀ sig, parseMethodDescriptor y.desc = some sig → argsL.length = sig.parameters.length) {st : List Value} (hst : st = argsL.reverse ++ .ref a :: rest) (hW : (rest.map fun v => v.category).sum ≤ W) (hd : decode c.code pc = .ok (.invokespecial index, 3))
    (hc : cells + kC ≤ R.cells) (hs : slots + kS ≤ R.slots)
    (K : ∀ (T' : State) (v : Option Value) (L : List Loc), Stand p l e R s m args below meth c T' (locs ++ L) (cells + kC) (slots + kS) → Qc v T'.heap L → Go p e below Fin T' (mkF m (pc + 3) Ls (v.toList ++ rest))) : Go p e below Fin T (mkF m pc Ls st) := by
  subst hst
  obtain ⟨v, _, ⟨T', L', k', n'⟩, -, X', ⟨Lc, hQ, hl, hk, hn⟩, stp⟩ := X.specialBack hx (y := y) hy1 hown (mvT hZ w1) (mvT hZ w2) (mvT hZ w3) hy B (g := mkF m pc Ls (argsL.reverse ++ .ref a :: rest)) rfl hsz (Steps.refl _) (a := a) (argsL := argsL) (rest := rest) hlen rfl (by show 2 * 0 + _ ≤ _; omega) hd (fun _ _ => ⟨rfl, eT, hc, hs⟩)
  dsimp only [Pt.U, Pt.locs, Pt.cells, Pt.slots] at X' hl hk hn stp hQ
  subst hl hk hn
  obtain ⟨t, o, h1, r⟩ := K T' v Lc X' hQ
  exact ⟨t, o, stp.trans h1, r⟩
/-- an instance method by the contract of the body that the receiver's class selects -/
theorem Go.virt (X : Stand p l e R s m args below meth c T locs cells slots) (hx : p.tables.exec = Jvm.exec) (hZ : Z.Warmed39 s.vm) {own C : String} {index : Nat} {y z : MethodName} (hown : s.vm.findClass own = some m.cls)
    (w1 : (Cond.methodLink own index y).before a0 Z = true) (w2 : (Cond.declares y).before a0 Z = true) (nf : NotFace s y) (w3 : (Cond.selects C y z).before a0 Z = true) (w4 : (Cond.instanceMethod z).before a0 Z = true) (hy : y.cls ≠ "java/lang/invoke/MethodHandle" ∧ y.cls ≠ "java/lang/invoke/VarHandle")
    (eT : T.heap = h) {kC kS : Nat} {a : Addr} (E : Exa Z h a C) {argsL rest : List Value} {Qc : Option Value → Heap → List Loc → Prop} {W : Nat} (B : OBk l R p e below s args z 3 W (.ref a :: argsL).toArray h kC kS Qc)
    {pc : Nat} {Ls : Array Slot} (hsz : Ls.size = c.maxLocals) (hlen : ∀ sig, parseMethodDescriptor y.desc = some sig → argsL.length = sig.parameters.length) {st : List Value} (hst : st = argsL.reverse ++ .ref a :: rest) (hW : (rest.map fun v => v.category).sum ≤ W) (hd : decode c.code pc = .ok (.invokevirtual index, 3))
    (hc : cells + kC ≤ R.cells) (hs : slots + kS ≤ R.slots)
    (K : ∀ (T' : State) (v : Option Value) (L : List Loc), Stand p l e R s m args below meth c T' (locs ++ L) (cells + kC) (slots + kS) → Qc v T'.heap L → Go p e below Fin T' (mkF m (pc + 3) Ls (v.toList ++ rest))) : Go p e below Fin T (mkF m pc Ls st) := by
  subst hst
  obtain ⟨cq, kq, qa, qb, qc⟩ := isOf hZ eT E
  obtain ⟨v, _, ⟨T', L', k', n'⟩, -, X', ⟨Lc, hQ, hl, hk, hn⟩, stp⟩ := X.virtualBack hx (y := y) (z := z) hown (mvT hZ w1) (mvT hZ w2) nf (mvT hZ w3) (mvT hZ w4) hy B qa qc (g := mkF m pc Ls (argsL.reverse ++ .ref a :: rest)) rfl hsz (Steps.refl _) (argsL := argsL) (rest := rest) hlen rfl (by show 2 * 0 + _ ≤ _; omega) hd (fun _ _ => ⟨rfl, eT, hc, hs⟩)
  dsimp only [Pt.U, Pt.locs, Pt.cells, Pt.slots] at X' hl hk hn stp hQ
  subst hl hk hn
  obtain ⟨t, o, h1, r⟩ := K T' v Lc X' hQ
  exact ⟨t, o, stp.trans h1, r⟩
/-- an interface's method by the contract of the body that the receiver's class selects -/
theorem Go.face (X : Stand p l e R s m args below meth c T locs cells slots) (hx : p.tables.exec = Jvm.exec) (hZ : Z.Warmed39 s.vm) {own C : String} {index count : Nat} {y z : MethodName} (hown : s.vm.findClass own = some m.cls)
    (w1 : (Cond.methodLink own index y).before a0 Z = true) (w2 : (Cond.declares y).before a0 Z = true) (w2' : (Cond.interfaceMethod y.cls y.cls y.name y.desc).before a0 Z = true) (w3 : (Cond.selects C y z).before a0 Z = true) (w4 : (Cond.instanceMethod z).before a0 Z = true) (w4' : (Cond.publicMethod z).before a0 Z = true) (w7 : (Cond.unhidden C y.name y.desc).before a0 Z = true) (w8 : (Cond.castable C y.cls).before a0 Z = true) (hy : y.cls ≠ "java/lang/invoke/MethodHandle" ∧ y.cls ≠ "java/lang/invoke/VarHandle") (wq : ((Cond.interfaceMethod y.cls y.cls y.name y.desc).onTables && (Cond.interfaceMethod y.cls y.cls y.name y.desc).keepsFace) = true := by decide +kernel)
    (eT : T.heap = h) {kC kS : Nat} {a : Addr} (E : Exa Z h a C) {argsL rest : List Value} {Qc : Option Value → Heap → List Loc → Prop} {W : Nat} (B : OBk l R p e below s args z 5 W (.ref a :: argsL).toArray h kC kS Qc)
    {pc : Nat} {Ls : Array Slot} (hsz : Ls.size = c.maxLocals) (hlen : ∀ sig, parseMethodDescriptor y.desc = some sig → argsL.length = sig.parameters.length) {st : List Value} (hst : st = argsL.reverse ++ .ref a :: rest) (hW : (rest.map fun v => v.category).sum ≤ W) (hd : decode c.code pc = .ok (.invokeinterface index count, 5))
    (hc : cells + kC ≤ R.cells) (hs : slots + kS ≤ R.slots)
    (K : ∀ (T' : State) (v : Option Value) (L : List Loc), Stand p l e R s m args below meth c T' (locs ++ L) (cells + kC) (slots + kS) → Qc v T'.heap L → Go p e below Fin T' (mkF m (pc + 5) Ls (v.toList ++ rest))) : Go p e below Fin T (mkF m pc Ls st) := by
  subst hst
  obtain ⟨cq, kq, qa, qb, qc⟩ := isOf hZ eT E
  obtain ⟨v, _, ⟨T', L', k', n'⟩, -, X', ⟨Lc, hQ, hl, hk, hn⟩, stp⟩ := X.interfaceBack hx (xi := y) (y := z) hown (mvT hZ w1) (mvT hZ w2) (mvT hZ w2' wq) (mvT hZ w3) (mvT hZ w4) (mvT hZ w4') (mvT hZ w7) (mvT hZ w8) hy B qa qb qc (g := mkF m pc Ls (argsL.reverse ++ .ref a :: rest)) rfl hsz (Steps.refl _) (argsL := argsL) (rest := rest) hlen rfl (by show 2 * 0 + _ ≤ _; omega) hd (fun _ _ => ⟨rfl, eT, hc, hs⟩)
  dsimp only [Pt.U, Pt.locs, Pt.cells, Pt.slots] at X' hl hk hn stp hQ
  subst hl hk hn
  obtain ⟨t, o, h1, r⟩ := K T' v Lc X' hQ
  exact ⟨t, o, stp.trans h1, r⟩
/-- a private instance method by its contract -/
theorem Go.priv (X : Stand p l e R s m args below meth c T locs cells slots) (hx : p.tables.exec = Jvm.exec) (hZ : Z.Warmed39 s.vm) {own : String} {index : Nat} {y : MethodName} {bytes : ByteArray} {maxL : Nat} {ret : Option FieldType} {C : String} (hown : s.vm.findClass own = some m.cls)
    (w1 : (Cond.methodLink own index y).before a0 Z = true) (w2 : (Cond.instanceMethod y).before a0 Z = true) (sel : (Cond.selects y.cls y y).before args s = true) (w4 : (Cond.privateMethod y).before a0 Z = true) (w3 : (Cond.code y bytes maxL ret).before a0 Z = true) (hy : y.cls ≠ "java/lang/invoke/MethodHandle" ∧ y.cls ≠ "java/lang/invoke/VarHandle")
    (eT : T.heap = h) {kC kS : Nat} {a : Addr} (E : Exa Z h a C) {argsL rest : List Value} {Qc : Option Value → Heap → List Loc → Prop} {W : Nat} (B : OBk l R p e below s args y 3 W (.ref a :: argsL).toArray h kC kS Qc)
    {pc : Nat} {Ls : Array Slot} (hsz : Ls.size = c.maxLocals) (hlen : ∀ sig, parseMethodDescriptor y.desc = some sig → argsL.length = sig.parameters.length) {st : List Value} (hst : st = argsL.reverse ++ .ref a :: rest) (hW : (rest.map fun v => v.category).sum ≤ W) (hd : decode c.code pc = .ok (.invokevirtual index, 3))
    (hc : cells + kC ≤ R.cells) (hs : slots + kS ≤ R.slots)
    (K : ∀ (T' : State) (v : Option Value) (L : List Loc), Stand p l e R s m args below meth c T' (locs ++ L) (cells + kC) (slots + kS) → Qc v T'.heap L → Go p e below Fin T' (mkF m (pc + 3) Ls (v.toList ++ rest))) : Go p e below Fin T (mkF m pc Ls st) := by
  subst hst
  obtain ⟨cq, q, q'⟩ := E.cell
  obtain ⟨v, _, ⟨T', L', k', n'⟩, -, X', ⟨Lc, hQ, hl, hk, hn⟩, stp⟩ := X.privateBack hx (y := y) hown (mvT hZ w1) (mvT hZ w2) sel (Cond.privateMethod_at (mvP hZ w4 (args := #[]))) (mvT hZ w3) hy B (g := mkF m pc Ls (argsL.reverse ++ .ref a :: rest)) rfl hsz (Steps.refl _) (a := a) (by rw [eT]; exact q) q' (argsL := argsL) (rest := rest) hlen rfl (by show 2 * 0 + _ ≤ _; omega) hd (fun _ _ => ⟨rfl, eT, hc, hs⟩)
  dsimp only [Pt.U, Pt.locs, Pt.cells, Pt.slots] at X' hl hk hn stp hQ
  subst hl hk hn
  obtain ⟨t, o, h1, r⟩ := K T' v Lc X' hQ
  exact ⟨t, o, stp.trans h1, r⟩
/-- a static method by its contract -/
theorem Go.stat (X : Stand p l e R s m args below meth c T locs cells slots) (hx : p.tables.exec = Jvm.exec) (hZ : Z.Warmed39 s.vm) {own : String} {index : Nat} {y : MethodName} {bytes : ByteArray} {maxL : Nat} {ret : Option FieldType} (hown : s.vm.findClass own = some m.cls)
    (w1 : (Cond.methodLink own index y).before a0 Z = true) (w2 : (Cond.static y).before a0 Z = true) (w3 : (Cond.initialized y.cls).before a0 Z = true) (w4 : (Cond.code y bytes maxL ret).before a0 Z = true) (hy : y.cls ≠ "java/lang/invoke/MethodHandle" ∧ y.cls ≠ "java/lang/invoke/VarHandle")
    (eT : T.heap = h) {kC kS : Nat} {argsL rest : List Value} {Qc : Option Value → Heap → List Loc → Prop} {W : Nat} (B : OBk l R p e below s args y 3 W argsL.toArray h kC kS Qc)
    {pc : Nat} {Ls : Array Slot} (hsz : Ls.size = c.maxLocals) (hlen : ∀ sig, parseMethodDescriptor y.desc = some sig → argsL.length = sig.parameters.length) {st : List Value} (hst : st = argsL.reverse ++ rest) (hW : (rest.map fun v => v.category).sum ≤ W) (hd : decode c.code pc = .ok (.invokestatic index, 3))
    (hc : cells + kC ≤ R.cells) (hs : slots + kS ≤ R.slots)
    (K : ∀ (T' : State) (v : Option Value) (L : List Loc), Stand p l e R s m args below meth c T' (locs ++ L) (cells + kC) (slots + kS) → Qc v T'.heap L → Go p e below Fin T' (mkF m (pc + 3) Ls (v.toList ++ rest))) : Go p e below Fin T (mkF m pc Ls st) := by
  subst hst
  obtain ⟨v, _, ⟨T', L', k', n'⟩, -, X', ⟨Lc, hQ, hl, hk, hn⟩, stp⟩ := Jvm.LawKit.callS X hx (y := y) hown (mvT hZ w1) (mvT hZ w2) (mvT hZ w3) (mvT hZ w4) hy B (g := mkF m pc Ls (argsL.reverse ++ rest)) rfl hsz (argsL := argsL) (rest := rest) hlen rfl (by show 2 * 0 + _ ≤ _; omega) hd (fun _ _ => ⟨rfl, eT, hc, hs⟩)
  dsimp only [Pt.U, Pt.locs, Pt.cells, Pt.slots] at X' hl hk hn stp hQ
  subst hl hk hn
  obtain ⟨t, o, h1, r⟩ := K T' v Lc X' hQ
  exact ⟨t, o, stp t h1, r⟩
/-- who pays a call of a callee that may intern -/
def OBkS (l : Launch) (R : Room) (p : Program) (e : Env) (below : List Frame) (s : State) (args : Array Value) (y : MethodName) (len W : Nat) (as' : Array Value) (h : Heap) (k n : Nat) (Qc : Option Value → Heap → List Loc → Vm → Prop) : Prop :=
  BackS l R p e below s args y len W (fun A a => a = as' ∧ A.U.heap = h ∧ A.cells + k ≤ R.cells ∧ A.slots + n ≤ R.slots) (fun A _ v B => ∃ L, Qc v B.U.heap L B.U.vm ∧ B.locs = A.locs ++ L ∧ B.cells = A.cells + k ∧ B.slots = A.slots + n)
theorem MetW.back {y : MethodName} {bytes : ByteArray} {maxL : Nat} {ret : Option FieldType} {rm : Room} {as' : Array Value} {J : Vm → Prop} {Qc : Option Value → Heap → List Loc → Vm → Prop} {len W : Nat} (M : MetW l Z y bytes maxL ret rm as' h J Qc) (hZ : Z.Warmed39 s.vm) (hJ : ∀ vm1, s.WarmedH vm1 → J vm1) (wc : (Cond.code y bytes maxL ret).before a0 Z = true) (wz : (Cond.initialized y.cls).before a0 Z = true) (hf : rm.frames + 1 ≤ R.frames) (hl : W + (maxL + 11) + rm.locals ≤ R.locals) :
    OBkS l R p e below s args y len W as' h rm.cells rm.slots Qc :=
  BackS.of_freeW (bytes := bytes) (maxL := maxL) (ret := ret) (E := fun _ _ o t L k n => k = rm.cells ∧ n = rm.slots ∧ ∃ v, o = .returned v ∧ Qc v t.heap L t.vm) (M []) hf hl
    (fun m meth c A a Y hp => have hU : Z.Warmed39 A.U.vm := wtrans hZ Y.warmed
      ⟨by show (Cond.and _ .tt).before a A.U = true; rw [Cond.before_and, mv hU wc]; rfl, mv hU wc, mv hU wz, hp.2.2.1, hp.2.2.2⟩)
    (fun m meth c A a g mk Y hp => ⟨hp.1, wtrans hZ Y.warmed, hp.2.1, hJ _ Y.warmed⟩) (fun _ _ _ _ _ _ _ _ _ => trivial)
    (fun _ _ _ _ ⟨v, L, h1, h2, h3⟩ => ⟨L, _, _, h3, rfl, rfl, v, h1, h2⟩)
    (fun m meth c A a g mk v t L k n Y hp _ _ ⟨e1, e2, v', e3, e4⟩ => by cases e3; subst e1 e2; exact ⟨L, e4, rfl, rfl, rfl⟩)
/-- a constructor by its contract -/
theorem Go.specialS {vm0 : Vm} {k0 : Nat} (hS : s.Since vm0 k0) (hk0 : k0 ≤ h.size) (X : Stand p l e R (s.setVm vm0) m args below meth c T locs cells slots) (hx : p.tables.exec = Jvm.exec) (hZ : Z.Warmed39 (s.setVm vm0).vm) {own : String} {index : Nat} {y : MethodName} {bytes : ByteArray} {maxL : Nat} (hy1 : y.name = "<init>") (hown : (s.setVm vm0).vm.findClass own = some m.cls)
    (w1 : (Cond.methodLink own index y).before a0 Z = true) (w2 : (Cond.instanceMethod y).before a0 Z = true) (w3 : (Cond.code y bytes maxL none).before a0 Z = true) (hy : y.cls ≠ "java/lang/invoke/MethodHandle" ∧ y.cls ≠ "java/lang/invoke/VarHandle")
    (eT : T.heap = h) {kC kS : Nat} {a : Addr} {argsL rest : List Value} {Qc : Option Value → Heap → List Loc → Vm → Prop} {W : Nat} (B : OBkS l R p e below (s.setVm vm0) args y 3 W (.ref a :: argsL).toArray h kC kS Qc)
    {pc : Nat} {Ls : Array Slot} (hsz : Ls.size = c.maxLocals) (hlen : ∀ sig, parseMethodDescriptor y.desc = some sig → argsL.length = sig.parameters.length) {st : List Value} (hst : st = argsL.reverse ++ .ref a :: rest) (hW : (rest.map fun v => v.category).sum ≤ W) (hd : decode c.code pc = .ok (.invokespecial index, 3))
    (hc : cells + kC ≤ R.cells) (hs : slots + kS ≤ R.slots)
    (K : ∀ (T' : State) (v : Option Value) (L : List Loc), Stand p l e R (s.setVm T'.vm) m args below meth c T' (locs ++ L) (cells + kC) (slots + kS) → s.Since T'.vm T'.heap.size → (s.setVm vm0).Warmed39 T'.vm → Z.Warmed39 (s.setVm T'.vm).vm → (s.setVm T'.vm).vm.findClass own = some m.cls → h.size ≤ T'.heap.size → Qc v T'.heap L T'.vm → Go p e below Fin T' (mkF m (pc + 3) Ls (v.toList ++ rest))) : Go p e below Fin T (mkF m pc Ls st) := by
  subst hst
  obtain ⟨v, _, ⟨T', L', k', n'⟩, -, X', h2, hg, ⟨Lc, hQ, hl, hk, hn⟩, stp⟩ := X.specialBackS hx (y := y) hy1 hown (mvT hZ w1) (mvT hZ w2) (mvT hZ w3) hy B (g := mkF m pc Ls (argsL.reverse ++ .ref a :: rest)) rfl hsz (Steps.refl _) (a := a) (argsL := argsL) (rest := rest) hlen rfl (by show 2 * 0 + _ ≤ _; omega) hd (fun _ _ => ⟨rfl, eT, hc, hs⟩)
  dsimp only [Pt.U, Pt.locs, Pt.cells, Pt.slots] at X' h2 hg hl hk hn stp hQ
  subst hl hk hn
  rw [eT] at hg
  obtain ⟨X1, X2, X3, X4⟩ := rebS hS hk0 X' h2 hg hZ hown
  obtain ⟨t, o, h1, r⟩ := K T' v Lc X1 X2 h2.1 X3 X4 hg hQ
  exact ⟨t, o, stp.trans h1, r⟩
/-- an instance method by the contract of the body that the receiver's class selects -/
theorem Go.virtS {vm0 : Vm} {k0 : Nat} (hS : s.Since vm0 k0) (hk0 : k0 ≤ h.size) (X : Stand p l e R (s.setVm vm0) m args below meth c T locs cells slots) (hx : p.tables.exec = Jvm.exec) (hZ : Z.Warmed39 (s.setVm vm0).vm) {own C : String} {index : Nat} {y z : MethodName} (hown : (s.setVm vm0).vm.findClass own = some m.cls)
    (w1 : (Cond.methodLink own index y).before a0 Z = true) (w2 : (Cond.declares y).before a0 Z = true) (nf : NotFace (s.setVm vm0) y) (w3 : (Cond.selects C y z).before a0 Z = true) (w4 : (Cond.instanceMethod z).before a0 Z = true) (hy : y.cls ≠ "java/lang/invoke/MethodHandle" ∧ y.cls ≠ "java/lang/invoke/VarHandle")
    (eT : T.heap = h) {kC kS : Nat} {a : Addr} (E : Exa Z h a C) {argsL rest : List Value} {Qc : Option Value → Heap → List Loc → Vm → Prop} {W : Nat} (B : OBkS l R p e below (s.setVm vm0) args z 3 W (.ref a :: argsL).toArray h kC kS Qc)
    {pc : Nat} {Ls : Array Slot} (hsz : Ls.size = c.maxLocals) (hlen : ∀ sig, parseMethodDescriptor y.desc = some sig → argsL.length = sig.parameters.length) {st : List Value} (hst : st = argsL.reverse ++ .ref a :: rest) (hW : (rest.map fun v => v.category).sum ≤ W) (hd : decode c.code pc = .ok (.invokevirtual index, 3))
    (hc : cells + kC ≤ R.cells) (hs : slots + kS ≤ R.slots)
    (K : ∀ (T' : State) (v : Option Value) (L : List Loc), Stand p l e R (s.setVm T'.vm) m args below meth c T' (locs ++ L) (cells + kC) (slots + kS) → s.Since T'.vm T'.heap.size → (s.setVm vm0).Warmed39 T'.vm → Z.Warmed39 (s.setVm T'.vm).vm → (s.setVm T'.vm).vm.findClass own = some m.cls → h.size ≤ T'.heap.size → Qc v T'.heap L T'.vm → Go p e below Fin T' (mkF m (pc + 3) Ls (v.toList ++ rest))) : Go p e below Fin T (mkF m pc Ls st) := by
  subst hst
  obtain ⟨cq, kq, qa, qb, qc⟩ := isOf hZ eT E
  obtain ⟨v, _, ⟨T', L', k', n'⟩, -, X', h2, hg, ⟨Lc, hQ, hl, hk, hn⟩, stp⟩ := X.virtualBackS hx (y := y) (z := z) hown (mvT hZ w1) (mvT hZ w2) nf (mvT hZ w3) (mvT hZ w4) hy B qa qc (g := mkF m pc Ls (argsL.reverse ++ .ref a :: rest)) rfl hsz (Steps.refl _) (argsL := argsL) (rest := rest) hlen rfl (by show 2 * 0 + _ ≤ _; omega) hd (fun _ _ => ⟨rfl, eT, hc, hs⟩)
  dsimp only [Pt.U, Pt.locs, Pt.cells, Pt.slots] at X' h2 hg hl hk hn stp hQ
  subst hl hk hn
  rw [eT] at hg
  obtain ⟨X1, X2, X3, X4⟩ := rebS hS hk0 X' h2 hg hZ hown
  obtain ⟨t, o, h1, r⟩ := K T' v Lc X1 X2 h2.1 X3 X4 hg hQ
  exact ⟨t, o, stp.trans h1, r⟩
/-- an interface's method by the contract of the body that the receiver's class selects -/
theorem Go.faceS {vm0 : Vm} {k0 : Nat} (hS : s.Since vm0 k0) (hk0 : k0 ≤ h.size) (X : Stand p l e R (s.setVm vm0) m args below meth c T locs cells slots) (hx : p.tables.exec = Jvm.exec) (hZ : Z.Warmed39 (s.setVm vm0).vm) {own C : String} {index count : Nat} {y z : MethodName} (hown : (s.setVm vm0).vm.findClass own = some m.cls)
    (w1 : (Cond.methodLink own index y).before a0 Z = true) (w2 : (Cond.declares y).before a0 Z = true) (w2' : (Cond.interfaceMethod y.cls y.cls y.name y.desc).before a0 Z = true) (w3 : (Cond.selects C y z).before a0 Z = true) (w4 : (Cond.instanceMethod z).before a0 Z = true) (w4' : (Cond.publicMethod z).before a0 Z = true) (w7 : (Cond.unhidden C y.name y.desc).before a0 Z = true) (w8 : (Cond.castable C y.cls).before a0 Z = true) (hy : y.cls ≠ "java/lang/invoke/MethodHandle" ∧ y.cls ≠ "java/lang/invoke/VarHandle") (wq : ((Cond.interfaceMethod y.cls y.cls y.name y.desc).onTables && (Cond.interfaceMethod y.cls y.cls y.name y.desc).keepsFace) = true := by decide +kernel)
    (eT : T.heap = h) {kC kS : Nat} {a : Addr} (E : Exa Z h a C) {argsL rest : List Value} {Qc : Option Value → Heap → List Loc → Vm → Prop} {W : Nat} (B : OBkS l R p e below (s.setVm vm0) args z 5 W (.ref a :: argsL).toArray h kC kS Qc)
    {pc : Nat} {Ls : Array Slot} (hsz : Ls.size = c.maxLocals) (hlen : ∀ sig, parseMethodDescriptor y.desc = some sig → argsL.length = sig.parameters.length) {st : List Value} (hst : st = argsL.reverse ++ .ref a :: rest) (hW : (rest.map fun v => v.category).sum ≤ W) (hd : decode c.code pc = .ok (.invokeinterface index count, 5))
    (hc : cells + kC ≤ R.cells) (hs : slots + kS ≤ R.slots)
    (K : ∀ (T' : State) (v : Option Value) (L : List Loc), Stand p l e R (s.setVm T'.vm) m args below meth c T' (locs ++ L) (cells + kC) (slots + kS) → s.Since T'.vm T'.heap.size → (s.setVm vm0).Warmed39 T'.vm → Z.Warmed39 (s.setVm T'.vm).vm → (s.setVm T'.vm).vm.findClass own = some m.cls → h.size ≤ T'.heap.size → Qc v T'.heap L T'.vm → Go p e below Fin T' (mkF m (pc + 5) Ls (v.toList ++ rest))) : Go p e below Fin T (mkF m pc Ls st) := by
  subst hst
  obtain ⟨cq, kq, qa, qb, qc⟩ := isOf hZ eT E
  obtain ⟨v, _, ⟨T', L', k', n'⟩, -, X', h2, hg, ⟨Lc, hQ, hl, hk, hn⟩, stp⟩ := X.interfaceBackS hx (xi := y) (y := z) hown (mvT hZ w1) (mvT hZ w2) (mvT hZ w2' wq) (mvT hZ w3) (mvT hZ w4) (mvT hZ w4') (mvT hZ w7) (mvT hZ w8) hy B qa qb qc (g := mkF m pc Ls (argsL.reverse ++ .ref a :: rest)) rfl hsz (Steps.refl _) (argsL := argsL) (rest := rest) hlen rfl (by show 2 * 0 + _ ≤ _; omega) hd (fun _ _ => ⟨rfl, eT, hc, hs⟩)
  dsimp only [Pt.U, Pt.locs, Pt.cells, Pt.slots] at X' h2 hg hl hk hn stp hQ
  subst hl hk hn
  rw [eT] at hg
  obtain ⟨X1, X2, X3, X4⟩ := rebS hS hk0 X' h2 hg hZ hown
  obtain ⟨t, o, h1, r⟩ := K T' v Lc X1 X2 h2.1 X3 X4 hg hQ
  exact ⟨t, o, stp.trans h1, r⟩
/-- a private instance method by its contract -/
theorem Go.privS {vm0 : Vm} {k0 : Nat} (hS : s.Since vm0 k0) (hk0 : k0 ≤ h.size) (X : Stand p l e R (s.setVm vm0) m args below meth c T locs cells slots) (hx : p.tables.exec = Jvm.exec) (hZ : Z.Warmed39 (s.setVm vm0).vm) {own : String} {index : Nat} {y : MethodName} {bytes : ByteArray} {maxL : Nat} {ret : Option FieldType} {C : String} (hown : (s.setVm vm0).vm.findClass own = some m.cls)
    (w1 : (Cond.methodLink own index y).before a0 Z = true) (w2 : (Cond.instanceMethod y).before a0 Z = true) (sel : (Cond.selects y.cls y y).before args (s.setVm vm0) = true) (w4 : (Cond.privateMethod y).before a0 Z = true) (w3 : (Cond.code y bytes maxL ret).before a0 Z = true) (hy : y.cls ≠ "java/lang/invoke/MethodHandle" ∧ y.cls ≠ "java/lang/invoke/VarHandle")
    (eT : T.heap = h) {kC kS : Nat} {a : Addr} (E : Exa Z h a C) {argsL rest : List Value} {Qc : Option Value → Heap → List Loc → Vm → Prop} {W : Nat} (B : OBkS l R p e below (s.setVm vm0) args y 3 W (.ref a :: argsL).toArray h kC kS Qc)
    {pc : Nat} {Ls : Array Slot} (hsz : Ls.size = c.maxLocals) (hlen : ∀ sig, parseMethodDescriptor y.desc = some sig → argsL.length = sig.parameters.length) {st : List Value} (hst : st = argsL.reverse ++ .ref a :: rest) (hW : (rest.map fun v => v.category).sum ≤ W) (hd : decode c.code pc = .ok (.invokevirtual index, 3))
    (hc : cells + kC ≤ R.cells) (hs : slots + kS ≤ R.slots)
    (K : ∀ (T' : State) (v : Option Value) (L : List Loc), Stand p l e R (s.setVm T'.vm) m args below meth c T' (locs ++ L) (cells + kC) (slots + kS) → s.Since T'.vm T'.heap.size → (s.setVm vm0).Warmed39 T'.vm → Z.Warmed39 (s.setVm T'.vm).vm → (s.setVm T'.vm).vm.findClass own = some m.cls → h.size ≤ T'.heap.size → Qc v T'.heap L T'.vm → Go p e below Fin T' (mkF m (pc + 3) Ls (v.toList ++ rest))) : Go p e below Fin T (mkF m pc Ls st) := by
  subst hst
  obtain ⟨cq, q, q'⟩ := E.cell
  obtain ⟨v, _, ⟨T', L', k', n'⟩, -, X', h2, hg, ⟨Lc, hQ, hl, hk, hn⟩, stp⟩ := X.privateBackS hx (y := y) hown (mvT hZ w1) (mvT hZ w2) sel (Cond.privateMethod_at (mvP hZ w4 (args := #[]))) (mvT hZ w3) hy B (g := mkF m pc Ls (argsL.reverse ++ .ref a :: rest)) rfl hsz (Steps.refl _) (a := a) (by rw [eT]; exact q) q' (argsL := argsL) (rest := rest) hlen rfl (by show 2 * 0 + _ ≤ _; omega) hd (fun _ _ => ⟨rfl, eT, hc, hs⟩)
  dsimp only [Pt.U, Pt.locs, Pt.cells, Pt.slots] at X' h2 hg hl hk hn stp hQ
  subst hl hk hn
  rw [eT] at hg
  obtain ⟨X1, X2, X3, X4⟩ := rebS hS hk0 X' h2 hg hZ hown
  obtain ⟨t, o, h1, r⟩ := K T' v Lc X1 X2 h2.1 X3 X4 hg hQ
  exact ⟨t, o, stp.trans h1, r⟩
/-- a static method by its contract -/
theorem Go.statS {vm0 : Vm} {k0 : Nat} (hS : s.Since vm0 k0) (hk0 : k0 ≤ h.size) (X : Stand p l e R (s.setVm vm0) m args below meth c T locs cells slots) (hx : p.tables.exec = Jvm.exec) (hZ : Z.Warmed39 (s.setVm vm0).vm) {own : String} {index : Nat} {y : MethodName} {bytes : ByteArray} {maxL : Nat} {ret : Option FieldType} (hown : (s.setVm vm0).vm.findClass own = some m.cls)
    (w1 : (Cond.methodLink own index y).before a0 Z = true) (w2 : (Cond.static y).before a0 Z = true) (w3 : (Cond.initialized y.cls).before a0 Z = true) (w4 : (Cond.code y bytes maxL ret).before a0 Z = true) (hy : y.cls ≠ "java/lang/invoke/MethodHandle" ∧ y.cls ≠ "java/lang/invoke/VarHandle")
    (eT : T.heap = h) {kC kS : Nat} {argsL rest : List Value} {Qc : Option Value → Heap → List Loc → Vm → Prop} {W : Nat} (B : OBkS l R p e below (s.setVm vm0) args y 3 W argsL.toArray h kC kS Qc)
    {pc : Nat} {Ls : Array Slot} (hsz : Ls.size = c.maxLocals) (hlen : ∀ sig, parseMethodDescriptor y.desc = some sig → argsL.length = sig.parameters.length) {st : List Value} (hst : st = argsL.reverse ++ rest) (hW : (rest.map fun v => v.category).sum ≤ W) (hd : decode c.code pc = .ok (.invokestatic index, 3))
    (hc : cells + kC ≤ R.cells) (hs : slots + kS ≤ R.slots)
    (K : ∀ (T' : State) (v : Option Value) (L : List Loc), Stand p l e R (s.setVm T'.vm) m args below meth c T' (locs ++ L) (cells + kC) (slots + kS) → s.Since T'.vm T'.heap.size → (s.setVm vm0).Warmed39 T'.vm → Z.Warmed39 (s.setVm T'.vm).vm → (s.setVm T'.vm).vm.findClass own = some m.cls → h.size ≤ T'.heap.size → Qc v T'.heap L T'.vm → Go p e below Fin T' (mkF m (pc + 3) Ls (v.toList ++ rest))) : Go p e below Fin T (mkF m pc Ls st) := by
  subst hst
  obtain ⟨v, _, ⟨T', L', k', n'⟩, -, X', h2, hg, ⟨Lc, hQ, hl, hk, hn⟩, stp⟩ := callSS X hx (y := y) hown (mvT hZ w1) (mvT hZ w2) (mvT hZ w3) (mvT hZ w4) hy B (g := mkF m pc Ls (argsL.reverse ++ rest)) rfl hsz (argsL := argsL) (rest := rest) hlen rfl (by show 2 * 0 + _ ≤ _; omega) hd (fun _ _ => ⟨rfl, eT, hc, hs⟩)
  dsimp only [Pt.U, Pt.locs, Pt.cells, Pt.slots] at X' h2 hg hl hk hn stp hQ
  subst hl hk hn
  rw [eT] at hg
  obtain ⟨X1, X2, X3, X4⟩ := rebS hS hk0 X' h2 hg hZ hown
  obtain ⟨t, o, h1, r⟩ := K T' v Lc X1 X2 h2.1 X3 X4 hg hQ
  exact ⟨t, o, stp.trans h1, r⟩
/-- what a static holds stands over a call that writes no statics' cell -/
theorem own_sta_keep {C n d : String} {v : Value} {h h' : Heap} {ws : List Addr} (F : Sta Z h C n d v) (K : Keep h h' ws) (q : ∀ x ∈ ws, ∀ cell : Cell, h[x]? = some cell → cell.vm.isStatics = false) : Sta Z h' C n d v := by
  obtain ⟨cf, i, k, f, st, cell, h1, h2, h3, h4, h5, h6, h7⟩ := F
  exact ⟨cf, i, k, f, st, cell, h1, h2, h3, h4, K.2.1 st cell h5 (fun z => by rw [q st z cell h5] at h6; cases h6), h6, h7⟩
theorem own_exa_plain {C : String} {h : Heap} {a : Addr} (E : Exa Z h a C) : ∀ cell : Cell, h[a]? = some cell → cell.vm.isStatics = false := fun cell hc => by
  obtain ⟨c, k, h1, -, -, h4, -⟩ := E
  cases h1.symm.trans hc; exact h4
theorem own_exa_at {args : Array Value} {s : State} {t : Term} {C : String} (h : (Cond.exactly t C).value args s none s [] = some true) : ∃ a, t.eval args s none [] s = some (.ref a) ∧ Exa s s.heap a C := by
  have h' : (Cond.exactly t C).before args s = true := Cond.before_iff.mpr h
  obtain ⟨a, c', cell, k, e1, e2, e3, e4, e5, rfl, e7⟩ := Cond.exactly_spec h'
  exact ⟨a, e1, cell, k, e3, e2, e4, e5, e7⟩
theorem own_eq_int {args : Array Value} {s : State} {t : Term} {n : Int32} (h : (Cond.eq t (.int n)).value args s none s [] = some true) : t.eval args s none [] s = some (.int n) :=
  Cond.eq_int (b := .int n) (Cond.before_iff.mpr h) rfl
theorem own_field_at {args : Array Value} {s : State} {t : Term} {a : Addr} {C n d : String} {v : Value} (ht : t.eval args s none [] s = some (.ref a)) (h : (Term.field t C n d).eval args s none [] s = some v) : Fld s s.heap a C n d v := by
  rw [fld_at ht] at h
  exact Fld.start h
theorem own_not_eq {args : Array Value} {s : State} {t : Term} {z n : Int32} (ez : t.eval args s none [] s = some (.int z)) (h : (Cond.not (.eq t (.int n))).value args s none s [] = some true) : ¬ z = n := by
  intro e
  subst e
  have q := eq_i (idx := []) (o := none) (first := s) ez (Term.int_eval z) rfl
  rw [show (Cond.not (.eq t (.int z))).value args s none s [] = ((Cond.eq t (.int z)).value args s none s []).map (!·) from rfl, q] at h
  cases h
theorem own_refcat {v : Value} (h : v.isRef = true) : v.category = 1 := by cases v <;> first | rfl | (cases h)
theorem own_one_u : (Slot.unset) = .unset ∨ ∃ w, Slot.unset = .val w ∧ w.category = 1 := Or.inl rfl
theorem own_one_v {w : Value} (h : w.category = 1) : (Slot.val w) = .unset ∨ ∃ u, Slot.val w = .val u ∧ u.category = 1 := Or.inr ⟨w, rfl, h⟩
theorem own_store1 {L L' : Array Slot} {i : Nat} {v : Value} {o : Slot} (hold : L[i]? = some o) (ho : o = .unset ∨ ∃ w, o = .val w ∧ w.category = 1) (hv : v.category = 1) (e : L.setIfInBounds i (.val v) = L') : storeLocals L i v = some L' := by
  rw [← e]; exact XS.store1 hold ho hv
theorem own_fits_of {t : FieldType} {z z' : Int32} (h : nar t z = z') (f : fits t (.int (nar t z)) = true) : fits t (.int z') = true := h ▸ f
theorem own_fits_ref {t : FieldType} {v : Value} (h : v.isRef = true) (ht : t.isReference = true) : fits t v = true := by
  cases t <;> first | (cases ht; done) | (cases v <;> first | rfl | (cases h; done))
theorem own_eq_long {args : Array Value} {s : State} {t : Term} {n : Int64} (h : (Cond.eq t (.long n)).value args s none s [] = some true) : t.eval args s none [] s = some (.long n) :=
  Cond.eq_long (b := .long n) (Cond.before_iff.mpr h) rfl
theorem own_elem_at {args : Array Value} {s : State} {t : Term} {a : Addr} {cl : Cell} {ty : FieldType} {j : Int32} {v : Value} {k : Nat} (ht : t.eval args s none [] s = some (.ref a)) (A : Arr s s.heap a cl ty) (h : (Term.elem t (.int j)).eval args s none [] s = some v) (hk : j.toNatClampNeg = k) : cl.slots[k]? = some v := by
  subst hk
  exact (elem_in h ht rfl A.1).2
theorem own_len_at {args : Array Value} {s : State} {t : Term} {a : Addr} {cl : Cell} {ty : FieldType} {n : Int32} (ht : t.eval args s none [] s = some (.ref a)) (A : Arr s s.heap a cl ty) (h : (Term.length t).eval args s none [] s = some (.int n)) : cl.slots.size < 2 ^ 31 ∧ cl.slots.size.toInt32 = n := by
  have hA := A.fin (Vm.Alike.refl _)
  by_cases q : cl.slots.size < 2 ^ 31
  · have e := len_f ht hA q
    exact ⟨q, Value.int.inj (Option.some.inj (e.symm.trans h))⟩
  · exfalso
    simp [Term.eval, ht, hA, q] at h
theorem own_eq_ref {args : Array Value} {s : State} {t u : Term} {a : Addr} (h : (Cond.eq t u).value args s none s [] = some true) (hu : u.eval args s none [] s = some (.ref a)) : t.eval args s none [] s = some (.ref a) :=
  Cond.eq_refs (Cond.before_iff.mpr h) hu rfl
theorem own_eq_null {args : Array Value} {s : State} {t : Term} (h : (Cond.eq t .null).value args s none s [] = some true) : t.eval args s none [] s = some .null := null_v h
theorem own_arr_keep {h h' : Heap} {a : Addr} {cl : Cell} {ty : FieldType} {ws : List Addr} (F : Arr Z h a cl ty) (K : Keep h h' ws) (q : a ∉ ws) : Arr Z h' a cl ty := ⟨K.2.1 a cl F.1 q, F.2⟩
theorem own_ib {vm0 : Vm} (h : vm0.interned = Z.vm.interned) : IB Z vm0 [] := ⟨#[], by simp [h], fun q hq => by simp at hq⟩
theorem own_lambda (X : Stand p l e R s m args below meth c T locs cells slots) (hx : p.tables.exec = Jvm.exec) (hZ : Z.Warmed39 s.vm) {x : MethodName} {pc index : Nat} {σ : Lambda.Shape} (hnamed : s.methodNamed? x = some m) (w : (Cond.lambdaSite x pc index σ).before a0 Z = true) (hcap : σ.captured = [])
    {g : JFrame} (hg : g.method = m) (hpc : g.pc = pc) (hsize : g.locals.size = c.maxLocals) (hd : decode c.code g.pc = .ok (.invokedynamic index, 5)) (hwords : 2 * g.monitorRoom + (g.stack.map fun v => v.category).sum + 3072 ≤ R.locals) :
    ∃ a : Addr, ∀ t, Steps p.tables e below (T.setTop { g with pc := g.pc + 5, stack := .ref a :: g.stack }) t → Steps p.tables e below (T.setTop g) t := by
  obtain ⟨cK, one, hat⟩ := Cond.lambdaSite_spec w
  obtain ⟨mD, kD, cfD, i0, p0, lk, hmD, hkD, -, -, -, hfind, -, -, hl⟩ := State.lambdaAt?_spec hat
  have hm2 : (Z.setVm s.vm).methodNamed? x = some mD := by rw [State.methodNamed?_setVm hZ.alike]; exact hmD
  have hm3 : s.methodNamed? x = (Z.setVm s.vm).methodNamed? x := rfl
  rw [hm3, hm2] at hnamed
  cases hnamed
  obtain ⟨k', hk', he, -⟩ := hZ.2.2.2 _ _ hkD
  have hw : e.platform.lambdaLinkWords = 3072 := by rw [X.admits.platform]
  rcases hl with ⟨a, cell, rfl, -⟩ | ⟨-, -, hne⟩
  · exact ⟨a, fun t k => X.lambdaConstant hx hg hsize hd hk' (by rw [hpc, he]; exact hfind) (by rw [hw]; exact hwords) k⟩
  · exact absurd hcap hne
/-- 'ldcSVL', with what it tells of the tables since just before it -/
theorem own_ldcL {vm0 : Vm} {own text : String} {index : Nat} {Ts : List String} (X : Stand p l e R (s.setVm vm0) m args below meth c T locs cells slots) (hx : p.tables.exec = Jvm.exec) (hZ : Z.Warmed39 (s.setVm vm0).vm) (hown : (s.setVm vm0).vm.findClass own = some m.cls) (w : (Cond.stringLink own index text).before a0 Z = true) (wS : ∀ a ∈ Bundle.stringAtoms, a.before a0 Z = true)
    (eT : T.heap = h) {k0 : Nat} (hS : s.Since vm0 k0) (hk : k0 ≤ h.size) (N : Fr s.heap.size locs) (hkeep : ∀ (b : Addr) (cl : Cell), Z.heap[b]? = some cl → s.heap[b]? = some cl) (I : IB Z vm0 Ts) (hnot : text ∉ Ts) (hh : Jvm.Lit.constHeld Z own index) (hcw : Jvm.Lit.compactW.before a0 Z = true)
    {vs : List Value} {z : Int32} (ht : (∀ c ∈ text.toList, c.toNat < 256) ∧ text.toList.map (fun c => Value.int (Jvm.Lit.byteI c.toNat.toUInt16)) = vs) (hz : ¬ z < 0) (hl : z.toNatClampNeg = vs.length)
    {g : JFrame} (hg : g.method = m) (hd : decode c.code g.pc = .ok (.ldc index, 2)) {n : Nat} (hn : 4 * text.toList.length ≤ n) (hbig : n ≤ 536870912) (hc : cells + 2 ≤ R.cells) (hl' : slots + (n + 4) ≤ R.slots) :
    ∃ (a : Addr) (T' : State) (h' : Heap) (b : Addr) (k : ClassId), Stand p l e R (s.setVm T'.vm) m args below meth c T' locs (cells + 2) (slots + (n + 4)) ∧ T'.heap = h' ∧ Ext h h' ∧ s.Since T'.vm h'.size ∧ (s.setVm vm0).Warmed39 T'.vm ∧ Z.Warmed39 (s.setVm T'.vm).vm ∧ (s.setVm T'.vm).vm.findClass own = some m.cls ∧
      Exa Z h' a "java/lang/String" ∧ Fld Z h' a "java/lang/String" "coder" "B" (.int 0) ∧ Fld Z h' a "java/lang/String" "value" "[B" (.ref b) ∧ Arv Z h' b k .byte z vs (.int 0) ∧ IB Z T'.vm (text :: Ts) ∧ Lit (Z.setVm T'.vm) own index a ∧
      ∀ target, Steps p.tables e below (T'.setTop { g with pc := g.pc + 2, stack := .ref a :: g.stack }) target → Steps p.tables e below (T.setTop g) target := by
  obtain ⟨a, T', h', k1, b, k, r1, r2, r3, r4, r5, r6, r7, r8, r9, r10, r11, -, -, r14, r15, st⟩ := ldcSVL (s := s.setVm vm0) (vm0 := vm0) (k0 := 0) X hx hZ hown w wS eT (State.WarmedH.since (State.WarmedH.refl (s.setVm vm0)) 0) (Nat.zero_le _) N hkeep I hnot hh hcw ht hz hl hg hd hn hbig hc hl'
  exact ⟨a, T', h', b, k, r1, r2, r3, hS.trans ⟨r4.1, r4.2.mono r5⟩ (Nat.le_trans hk r3.1), r4.1, r6, r7, r8, r9, r10, r11, r14, r15, st⟩
theorem own_lit_stays {vm0 vm1 : Vm} {own : String} {index : Nat} {a : Addr} (L : Lit (Z.setVm vm0) own index a) (hW : (s.setVm vm0).Warmed39 vm1) : Lit (Z.setVm vm1) own index a := (Lit.stays (s := s) (vm0 := vm0) (vm1 := vm1) L hW : Lit (s.setVm vm1) own index a)
theorem own_ib_more {vm0 : Vm} {Ts : List String} {t : String} (I : IB Z vm0 Ts) : IB Z vm0 (t :: Ts) := by
  obtain ⟨more, h1, h2⟩ := I
  exact ⟨more, h1, fun q hq => by obtain ⟨u, hu, e⟩ := h2 q hq; exact ⟨u, List.mem_cons_of_mem _ hu, e⟩⟩
theorem own_ib_warm {vm0 : Vm} {Ts : List String} (I : IB Z s.vm Ts) (hW : s.WarmedH vm0) : IB Z vm0 Ts := by
  obtain ⟨more, h1, h2⟩ := I
  exact ⟨more, by rw [hW.interned_eq]; exact h1, h2⟩
end OwnGo
end Jvm.RoadKit
namespace Jvm.Pilot.@@N@@
open Jvm Jvm.ClassFile Sem Op Lib Jvm.Free Jvm.Stand Jvm.LawKit Jvm.RoadKit Bundle Jvm.Pilot.@@N@@.Jvm.D
theorem own_bd (x : Int32) (n : Int32) (d : Int) (hd : n.toInt = d) (h0 : 0 < d) : 0 ≤ ((x &&& 2147483647) % n).toInt ∧ ((x &&& 2147483647) % n).toInt < d := by
  have h1 := (c_and x 2147483647 (by decide)).1
  have h2 := (c_irem (x &&& 2147483647) n d hd).1 h1
  rw [h2]
  exact ⟨Int.emod_nonneg _ (by omega), Int.emod_lt_of_pos _ h0⟩
theorem own_fin (i : Int32) (n : Nat) (h0 : 0 ≤ i.toInt) (h1 : i.toInt < n) : ∃ k : Fin n, i = Int32.ofInt (k.1 : Int) := by
  refine ⟨⟨i.toInt.toNat, by omega⟩, ?_⟩
  rw [show ((i.toInt.toNat : Nat) : Int) = i.toInt from Int.toNat_of_nonneg h0]
  exact (Int32.ofInt_toInt i).symm
theorem own_four (x : Int32) : ∀ i, i = (x &&& 2147483647) % ((4 : Int32) * 4) → ¬ (i / 4 + 1 < 1) ∧ ¬ (4 < i / 4 + 1) ∧ ¬ (i % 4 + 1 < 1) ∧ ¬ (4 < i % 4 + 1) ∧ (i / 4 + 1 - 1) * 4 + (i % 4 + 1 - 1) = i := by
  intro i hi
  obtain ⟨a, b⟩ := own_bd x ((4 : Int32) * 4) 16 (by decide) (by decide)
  rw [← hi] at a b
  obtain ⟨k, rfl⟩ := own_fin i 16 a b
  exact (by decide +kernel : ∀ k : Fin 16, ¬ (Int32.ofInt (k.1 : Int) / 4 + 1 < 1) ∧ ¬ (4 < Int32.ofInt (k.1 : Int) / 4 + 1) ∧ ¬ (Int32.ofInt (k.1 : Int) % 4 + 1 < 1) ∧ ¬ (4 < Int32.ofInt (k.1 : Int) % 4 + 1) ∧ (Int32.ofInt (k.1 : Int) / 4 + 1 - 1) * 4 + (Int32.ofInt (k.1 : Int) % 4 + 1 - 1) = Int32.ofInt (k.1 : Int)) k
theorem own_nine (x : Int32) : ∀ i, i = (x &&& 2147483647) % ((9 : Int32) * 9) → ¬ (i / 9 + 1 < 1) ∧ ¬ (9 < i / 9 + 1) ∧ ¬ (i % 9 + 1 < 1) ∧ ¬ (9 < i % 9 + 1) ∧ (i / 9 + 1 - 1) * 9 + (i % 9 + 1 - 1) = i := by
  intro i hi
  obtain ⟨a, b⟩ := own_bd x ((9 : Int32) * 9) 81 (by decide) (by decide)
  rw [← hi] at a b
  obtain ⟨k, rfl⟩ := own_fin i 81 a b
  exact (by decide +kernel : ∀ k : Fin 81, ¬ (Int32.ofInt (k.1 : Int) / 9 + 1 < 1) ∧ ¬ (9 < Int32.ofInt (k.1 : Int) / 9 + 1) ∧ ¬ (Int32.ofInt (k.1 : Int) % 9 + 1 < 1) ∧ ¬ (9 < Int32.ofInt (k.1 : Int) % 9 + 1) ∧ (Int32.ofInt (k.1 : Int) / 9 + 1 - 1) * 9 + (Int32.ofInt (k.1 : Int) % 9 + 1 - 1) = Int32.ofInt (k.1 : Int)) k
theorem d1_0 : decode prog_10_method_17_code 0 = .ok (.new 109, 3) := by decide +kernel
theorem d1_3 : decode prog_10_method_17_code 3 = .ok (.dup, 1) := by decide +kernel
theorem d1_4 : decode prog_10_method_17_code 4 = .ok (.iload_n 1, 1) := by decide +kernel
theorem d1_5 : decode prog_10_method_17_code 5 = .ok (.aload_n 0, 1) := by decide +kernel
theorem d1_6 : decode prog_10_method_17_code 6 = .ok (.getfield 33, 3) := by decide +kernel
theorem d1_9 : decode prog_10_method_17_code 9 = .ok (.idiv, 1) := by decide +kernel
theorem d1_10 : decode prog_10_method_17_code 10 = .ok (.iconst 1, 1) := by decide +kernel
theorem d1_11 : decode prog_10_method_17_code 11 = .ok (.iadd, 1) := by decide +kernel
theorem d1_12 : decode prog_10_method_17_code 12 = .ok (.iload_n 1, 1) := by decide +kernel
theorem d1_13 : decode prog_10_method_17_code 13 = .ok (.aload_n 0, 1) := by decide +kernel
theorem d1_14 : decode prog_10_method_17_code 14 = .ok (.getfield 33, 3) := by decide +kernel
theorem d1_17 : decode prog_10_method_17_code 17 = .ok (.irem, 1) := by decide +kernel
theorem d1_18 : decode prog_10_method_17_code 18 = .ok (.iconst 1, 1) := by decide +kernel
theorem d1_19 : decode prog_10_method_17_code 19 = .ok (.iadd, 1) := by decide +kernel
theorem d1_20 : decode prog_10_method_17_code 20 = .ok (.invokespecial 111, 3) := by decide +kernel
theorem d1_23 : decode prog_10_method_17_code 23 = .ok (.areturn, 1) := by decide +kernel
theorem d2_0 : decode prog_2_method_1_code 0 = .ok (.aload_n 0, 1) := by decide +kernel
theorem d2_1 : decode prog_2_method_1_code 1 = .ok (.invokespecial 1, 3) := by decide +kernel
theorem d2_4 : decode prog_2_method_1_code 4 = .ok (.aload_n 0, 1) := by decide +kernel
theorem d2_5 : decode prog_2_method_1_code 5 = .ok (.iload_n 1, 1) := by decide +kernel
theorem d2_6 : decode prog_2_method_1_code 6 = .ok (.putfield 7, 3) := by decide +kernel
theorem d2_9 : decode prog_2_method_1_code 9 = .ok (.aload_n 0, 1) := by decide +kernel
theorem d2_10 : decode prog_2_method_1_code 10 = .ok (.iload_n 2, 1) := by decide +kernel
theorem d2_11 : decode prog_2_method_1_code 11 = .ok (.putfield 13, 3) := by decide +kernel
theorem d2_14 : decode prog_2_method_1_code 14 = .ok (.return_, 1) := by decide +kernel
theorem d3_0 : decode jdk_30_method_1_code 0 = .ok (.aload_n 0, 1) := by decide +kernel
theorem d3_1 : decode jdk_30_method_1_code 1 = .ok (.invokespecial 1, 3) := by decide +kernel
theorem d3_4 : decode jdk_30_method_1_code 4 = .ok (.return_, 1) := by decide +kernel
theorem d5_0 : decode prog_2_method_5_code 0 = .ok (.aload_n 0, 1) := by decide +kernel
theorem d5_1 : decode prog_2_method_5_code 1 = .ok (.getfield 7, 3) := by decide +kernel
theorem d5_4 : decode prog_2_method_5_code 4 = .ok (.ireturn, 1) := by decide +kernel
theorem d6_0 : decode prog_2_method_6_code 0 = .ok (.aload_n 0, 1) := by decide +kernel
theorem d6_1 : decode prog_2_method_6_code 1 = .ok (.getfield 13, 3) := by decide +kernel
theorem d6_4 : decode prog_2_method_6_code 4 = .ok (.ireturn, 1) := by decide +kernel
def Q3 (Z : State) (a1 : Addr) (h0 : Heap) (n0 : Nat) (v : Option Value) (h : Heap) (L : List Loc) : Prop := v = none ∧ Fr n0 L ∧ h = h0
theorem ef_3 (m : MethodId) (a1 : Addr) : entryFrame m #[(.ref a1)] 1 = mkF m 0 #[.val (.ref a1)] [] := by first | (simp [entryFrame, mkF, argsToLocals, Value.category]; done) | (simp [entryFrame, mkF, argsToLocals, Value.category]; done) | rfl
set_option maxRecDepth 65536 in
set_option maxHeartbeats 40000000 in
theorem rm3 (l : Launch) (Z : State) (a0 : Array Value) (hw : ∀ d ∈ tables_1, d.before a0 Z = true) (a1 : Addr) (h0 : Heap) (n0 : Nat) (Z0 : n0 ≤ h0.size) :
    Met1 l Z (⟨"java/lang/Record", "<init>", "()V"⟩ : MethodName) jdk_30_method_1_code 1 none ({ frames := 1, cells := 0, slots := 0, locals := 12 } : Room) #[(.ref a1)] h0 (Q3 Z a1 h0 n0) := by
  refine Met1.mk (plainFor_of_name (by first | (simp [plainName, overriddenIn]; done) | decide +kernel)) ?_
  intro p e s m below meth c s₁ hx hZ hby hml hown hnm hret hlk X0 e0
  have N0 := Fr.nil n0
  refine Go.cast (ef_3 m a1) ?_
  show Go p e below (FinN s (Q3 Z a1 h0 n0) ({ frames := 1, cells := 0, slots := 0, locals := 12 } : Room).cells ({ frames := 1, cells := 0, slots := 0, locals := 12 } : Room).slots) s₁ (mkF m 0 #[.val (.ref a1)] [])
  refine Go.to (mkF m 1 #[.val (.ref a1)] [(.ref a1)]) (fun _ k => XS.aloadN X0.here hx rfl (hb hby d3_0) rfl rfl k) ?_
  obtain ⟨T_1, X_1, e_1, st_1⟩ := initO X0 hx hZ hown (hw _ (List.mem_of_getElem? (i := 22) rfl)) (hw _ (List.mem_of_getElem? (i := 23) rfl)) (hw _ (List.mem_of_getElem? (i := 24) rfl)) e0 (g := (mkF m 1 #[.val (.ref a1)] [(.ref a1)])) rfl (by rw [hml]; rfl) rfl (hb hby d3_1) (by decide) (W := 0) (by show 2 * 0 + _ ≤ _; exact Nat.le_of_eq rfl) (by decide)
  refine Go.to (mkF m 4 #[.val (.ref a1)] []) st_1 ?_
  refine Go.ret0 X_1 hx hret hlk (hb hby d3_4) (by decide) (by decide) ?_
  show (Q3 Z a1 h0 n0) _ T_1.heap _
  rw [e_1]
  exact ⟨rfl, N0, rfl⟩
theorem own_pd0 : parseMethodDescriptor "()V" = some ⟨[], none⟩ := by decide +kernel
def Q2 (Z : State) (a1 : Addr) (p2 : Int32) (p3 : Int32) (u1 : Value) (u2 : Value) (h0 : Heap) (n0 : Nat) (v : Option Value) (h : Heap) (L : List Loc) : Prop := v = none ∧ Fr n0 L ∧ Keep h0 h [a1] ∧ Fld Z h a1 "nonet/Cell" "row" "I" (.int p2) ∧ Fld Z h a1 "nonet/Cell" "column" "I" (.int p3)
theorem ef_2 (m : MethodId) (a1 : Addr) (p2 : Int32) (p3 : Int32) : entryFrame m #[(.ref a1), (.int p2), (.int p3)] 3 = mkF m 0 #[.val (.ref a1), .val (.int p2), .val (.int p3)] [] := by first | (simp [entryFrame, mkF, argsToLocals, Value.category]; done) | (simp [entryFrame, mkF, argsToLocals, Value.category]; done) | rfl
set_option maxRecDepth 65536 in
set_option maxHeartbeats 40000000 in
theorem rm2 (l : Launch) (Z : State) (a0 : Array Value) (hw : ∀ d ∈ tables_1, d.before a0 Z = true) (a1 : Addr) (p2 : Int32) (p3 : Int32) (u1 : Value) (u2 : Value) (h0 : Heap) (n0 : Nat) (Z0 : n0 ≤ h0.size) (PE_a1 : Exa Z h0 a1 "nonet/Cell") (PF_a1_row : Fld Z h0 a1 "nonet/Cell" "row" "I" u1) (PF_a1_column : Fld Z h0 a1 "nonet/Cell" "column" "I" u2) (Pg_a1 : n0 ≤ a1) :
    Met1 l Z (⟨"nonet/Cell", "<init>", "(II)V"⟩ : MethodName) prog_2_method_1_code 3 none ({ frames := 2, cells := 0, slots := 0, locals := 24 } : Room) #[(.ref a1), (.int p2), (.int p3)] h0 (Q2 Z a1 p2 p3 u1 u2 h0 n0) := by
  refine Met1.mk (plainFor_of_name (by first | (simp [plainName, overriddenIn]; done) | decide +kernel)) ?_
  intro p e s m below meth c s₁ hx hZ hby hml hown hnm hret hlk X0 e0
  have N0 := Fr.nil n0
  refine Go.cast (ef_2 m a1 p2 p3) ?_
  show Go p e below (FinN s (Q2 Z a1 p2 p3 u1 u2 h0 n0) ({ frames := 2, cells := 0, slots := 0, locals := 24 } : Room).cells ({ frames := 2, cells := 0, slots := 0, locals := 24 } : Room).slots) s₁ (mkF m 0 #[.val (.ref a1), .val (.int p2), .val (.int p3)] [])
  refine Go.to (mkF m 1 #[.val (.ref a1), .val (.int p2), .val (.int p3)] [(.ref a1)]) (fun _ k => XS.aloadN X0.here hx rfl (hb hby d2_0) rfl rfl k) ?_
  refine Go.special X0 hx hZ (y := (⟨"java/lang/Record", "<init>", "()V"⟩ : MethodName)) rfl hown (hw _ (List.mem_of_getElem? (i := 17) rfl)) (hw _ (List.mem_of_getElem? (i := 18) rfl)) (hw _ (List.mem_of_getElem? (i := 21) rfl)) (by decide) e0 (a := a1) (argsL := []) (rest := []) (Met1.back (W := 0) (rm3 l Z a0 hw a1 h0 n0 Z0) hZ (hw _ (List.mem_of_getElem? (i := 21) rfl)) (hw _ (List.mem_of_getElem? (i := 20) rfl)) (by decide) (by decide)) (pc := 1) (Ls := #[.val (.ref a1), .val (.int p2), .val (.int p3)]) (by rw [hml]; rfl) (lenOf own_pd0 rfl) rfl (Nat.le_refl _) (hb hby d2_1) (by decide) (by decide) ?_
  intro T_1 v_1 L_1 X_1 hQ_1
  obtain ⟨rfl, Nq_1, hh_1⟩ := hQ_1
  have N_1 := Fr.app N0 Nq_1
  show Go p e below (FinN s (Q2 Z a1 p2 p3 u1 u2 h0 n0) ({ frames := 2, cells := 0, slots := 0, locals := 24 } : Room).cells ({ frames := 2, cells := 0, slots := 0, locals := 24 } : Room).slots) T_1 (mkF m 4 #[.val (.ref a1), .val (.int p2), .val (.int p3)] [])
  refine Go.to (mkF m 5 #[.val (.ref a1), .val (.int p2), .val (.int p3)] [(.ref a1)]) (fun _ k => XS.aloadN X_1.here hx rfl (hb hby d2_4) rfl rfl k) ?_
  refine Go.to (mkF m 6 #[.val (.ref a1), .val (.int p2), .val (.int p3)] [(.int p2), (.ref a1)]) (fun _ k => XS.iloadN X_1.here hx rfl (hb hby d2_5) rfl  k) ?_
  obtain ⟨T_2, h_2, X_2, e_2, W_2, st_2⟩ := putF X_1 hx hZ hown (host := "") (Or.inl (hw _ (List.mem_of_getElem? (i := 25) rfl))) Via.refl hh_1 PF_a1_row PE_a1 (Or.inr ⟨(hw _ (List.mem_of_getElem? (i := 26) rfl)), rfl, hnm⟩) (hw _ (List.mem_of_getElem? (i := 10) rfl)) (ty := .int) (by decide) rfl rfl (g := (mkF m 6 #[.val (.ref a1), .val (.int p2), .val (.int p3)] [(.int p2), (.ref a1)])) rfl rfl (hb hby d2_6)
  have N_2 := Fr.snoc X_2 N_1 Pg_a1
  have Fw_2 : Fld Z h_2 a1 "nonet/Cell" "row" "I" (.int p2) := PF_a1_row.same W_2
  refine Go.to (mkF m 9 #[.val (.ref a1), .val (.int p2), .val (.int p3)] []) st_2 ?_
  refine Go.to (mkF m 10 #[.val (.ref a1), .val (.int p2), .val (.int p3)] [(.ref a1)]) (fun _ k => XS.aloadN X_2.here hx rfl (hb hby d2_9) rfl rfl k) ?_
  refine Go.to (mkF m 11 #[.val (.ref a1), .val (.int p2), .val (.int p3)] [(.int p3), (.ref a1)]) (fun _ k => XS.iloadN X_2.here hx rfl (hb hby d2_10) rfl  k) ?_
  have f_3 : Exa Z h_2 a1 "nonet/Cell" := (PE_a1.wr W_2)
  have f_4 : Fld Z h_2 a1 "nonet/Cell" "column" "I" u2 := (PF_a1_column.other W_2 (Or.inr (slot_ne (Or.inr (hw _ (List.mem_of_getElem? (i := 28) rfl))) (Or.inr (hw _ (List.mem_of_getElem? (i := 26) rfl))) (by decide) (t := .int) (t' := .int) (by decide) (by decide))))
  obtain ⟨T_5, h_5, X_5, e_5, W_5, st_5⟩ := putF X_2 hx hZ hown (host := "") (Or.inl (hw _ (List.mem_of_getElem? (i := 27) rfl))) Via.refl e_2 f_4 f_3 (Or.inr ⟨(hw _ (List.mem_of_getElem? (i := 28) rfl)), rfl, hnm⟩) (hw _ (List.mem_of_getElem? (i := 10) rfl)) (ty := .int) (by decide) rfl rfl (g := (mkF m 11 #[.val (.ref a1), .val (.int p2), .val (.int p3)] [(.int p3), (.ref a1)])) rfl rfl (hb hby d2_11)
  have N_5 := Fr.snoc X_5 N_2 Pg_a1
  have Fw_5 : Fld Z h_5 a1 "nonet/Cell" "column" "I" (.int p3) := f_4.same W_5
  refine Go.to (mkF m 14 #[.val (.ref a1), .val (.int p2), .val (.int p3)] []) st_5 ?_
  refine Go.ret0 X_5 hx hret hlk (hb hby d2_14) (by decide) (by decide) ?_
  have f_6 : Keep h0 h_5 [a1] := (((Keep.refl h0 [a1]).wr W_2 (Or.inl (List.mem_of_getElem? (i := 0) rfl))).wr W_5 (Or.inl (List.mem_of_getElem? (i := 0) rfl)))
  have f_7 : Fld Z h_5 a1 "nonet/Cell" "row" "I" (.int p2) := (Fw_2.other W_5 (Or.inr (slot_ne (Or.inr (hw _ (List.mem_of_getElem? (i := 26) rfl))) (Or.inr (hw _ (List.mem_of_getElem? (i := 28) rfl))) (by decide) (t := .int) (t' := .int) (by decide) (by decide))))
  show (Q2 Z a1 p2 p3 u1 u2 h0 n0) _ T_5.heap _
  rw [e_5]
  exact ⟨rfl, N_5, f_6, f_7, Fw_5⟩
theorem own_pd1 : parseMethodDescriptor "(II)V" = some ⟨[.int, .int], none⟩ := by decide +kernel
def Q1 (Z : State) (a1 : Addr) (p2 : Int32) (w : Int32) (h0 : Heap) (n0 : Nat) (v : Option Value) (h : Heap) (L : List Loc) : Prop := ∃ (b : Addr), v = some (.ref b) ∧ Fr n0 L ∧ Keep h0 h [] ∧ Exa Z h b "nonet/Cell" ∧ Fld Z h b "nonet/Cell" "row" "I" (.int ((p2 / w) + (1 : Int32))) ∧ Fld Z h b "nonet/Cell" "column" "I" (.int ((p2 % w) + (1 : Int32))) ∧ h0.size ≤ b
theorem ef_1 (m : MethodId) (a1 : Addr) (p2 : Int32) : entryFrame m #[(.ref a1), (.int p2)] 2 = mkF m 0 #[.val (.ref a1), .val (.int p2)] [] := by first | (simp [entryFrame, mkF, argsToLocals, Value.category]; done) | (simp [entryFrame, mkF, argsToLocals, Value.category]; done) | rfl
set_option maxRecDepth 65536 in
set_option maxHeartbeats 40000000 in
theorem rm1 (l : Launch) (Z : State) (a0 : Array Value) (hw : ∀ d ∈ tables_1, d.before a0 Z = true) (a1 : Addr) (p2 : Int32) (w : Int32) (h0 : Heap) (n0 : Nat) (Z0 : n0 ≤ h0.size) (PF_a1_side : Fld Z h0 a1 "nonet/Size" "side" "I" (.int w)) (hnz : ¬ w = 0) :
    Met1 l Z (⟨"nonet/Size", "cell", "(I)Lnonet/Cell;"⟩ : MethodName) prog_10_method_17_code 2 (some (.object "nonet/Cell")) ({ frames := 3, cells := 1, slots := 2, locals := 39 } : Room) #[(.ref a1), (.int p2)] h0 (Q1 Z a1 p2 w h0 n0) := by
  refine Met1.mk (plainFor_of_name (by first | (simp [plainName, overriddenIn]; done) | decide +kernel)) ?_
  intro p e s m below meth c s₁ hx hZ hby hml hown hnm hret hlk X0 e0
  have N0 := Fr.nil n0
  refine Go.cast (ef_1 m a1 p2) ?_
  show Go p e below (FinN s (Q1 Z a1 p2 w h0 n0) ({ frames := 3, cells := 1, slots := 2, locals := 39 } : Room).cells ({ frames := 3, cells := 1, slots := 2, locals := 39 } : Room).slots) s₁ (mkF m 0 #[.val (.ref a1), .val (.int p2)] [])
  obtain ⟨T_1, h_1, X_1, e_1, E_1, A_1, D_1, -, st_1⟩ := newO X0 hx hZ hown (hw _ (List.mem_of_getElem? (i := 9) rfl)) (hw _ (List.mem_of_getElem? (i := 10) rfl)) (hw _ (List.mem_of_getElem? (i := 11) rfl)) e0 (g := (mkF m 0 #[.val (.ref a1), .val (.int p2)] [])) rfl (hb hby d1_0) (by decide) (by decide)
  obtain ⟨b_1, g_1⟩ : ∃ z, z = h0.size := ⟨_, rfl⟩
  rw [← g_1] at A_1 D_1 st_1
  have g_b_1 : n0 ≤ b_1 := Nat.le_trans Z0 (Nat.le_of_eq g_1.symm)
  have sz_b_1 : h0.size ≤ b_1 := Nat.le_trans (Keep.refl h0 []).1 (Nat.le_of_eq g_1.symm)
  have ne_a1_b_1 : a1 ≠ b_1 := Nat.ne_of_lt (Nat.lt_of_lt_of_le PF_a1_side.lt (Nat.le_of_eq g_1.symm))
  have F_row_b_1 : Fld Z h_1 b_1 "nonet/Cell" "row" "I" (.int (0 : Int32)) := D_1 (Or.inr (hw _ (List.mem_of_getElem? (i := 26) rfl))) (ty := .int) (by decide)
  have F_column_b_1 : Fld Z h_1 b_1 "nonet/Cell" "column" "I" (.int (0 : Int32)) := D_1 (Or.inr (hw _ (List.mem_of_getElem? (i := 28) rfl))) (ty := .int) (by decide)
  refine Go.to (mkF m 3 #[.val (.ref a1), .val (.int p2)] [(.ref b_1)]) st_1 ?_
  refine Go.to (mkF m 4 #[.val (.ref a1), .val (.int p2)] [(.ref b_1), (.ref b_1)]) (fun _ k => XS.dup X_1.here hx rfl (hb hby d1_3) rfl rfl k) ?_
  refine Go.to (mkF m 5 #[.val (.ref a1), .val (.int p2)] [(.int p2), (.ref b_1), (.ref b_1)]) (fun _ k => XS.iloadN X_1.here hx rfl (hb hby d1_4) rfl  k) ?_
  refine Go.to (mkF m 6 #[.val (.ref a1), .val (.int p2)] [(.ref a1), (.int p2), (.ref b_1), (.ref b_1)]) (fun _ k => XS.aloadN X_1.here hx rfl (hb hby d1_5) rfl rfl k) ?_
  have f_2 : Fld Z h_1 a1 "nonet/Size" "side" "I" (.int w) := (PF_a1_side.ext E_1)
  obtain ⟨T_3, X_3, e_3, st_3⟩ := getF X_1 hx hZ hown (host := "") (Or.inl (hw _ (List.mem_of_getElem? (i := 12) rfl))) Via.refl e_1 f_2 (g := (mkF m 6 #[.val (.ref a1), .val (.int p2)] [(.ref a1), (.int p2), (.ref b_1), (.ref b_1)])) rfl rfl (hb hby d1_6)
  refine Go.to (mkF m 9 #[.val (.ref a1), .val (.int p2)] [(.int w), (.int p2), (.ref b_1), (.ref b_1)]) st_3 ?_
  refine Go.to (mkF m 10 #[.val (.ref a1), .val (.int p2)] [(.int (p2 / w)), (.ref b_1), (.ref b_1)]) (fun _ k => XS.idiv X_3.here hx rfl (hb hby d1_9) rfl hnz k) ?_
  refine Go.to (mkF m 11 #[.val (.ref a1), .val (.int p2)] [(.int (1 : Int32)), (.int (p2 / w)), (.ref b_1), (.ref b_1)]) (fun _ k => XS.iconst X_3.here hx rfl (hb hby d1_10) k) ?_
  refine Go.to (mkF m 12 #[.val (.ref a1), .val (.int p2)] [(.int ((p2 / w) + (1 : Int32))), (.ref b_1), (.ref b_1)]) (fun _ k => XS.iadd X_3.here hx rfl (hb hby d1_11) rfl k) ?_
  refine Go.to (mkF m 13 #[.val (.ref a1), .val (.int p2)] [(.int p2), (.int ((p2 / w) + (1 : Int32))), (.ref b_1), (.ref b_1)]) (fun _ k => XS.iloadN X_3.here hx rfl (hb hby d1_12) rfl  k) ?_
  refine Go.to (mkF m 14 #[.val (.ref a1), .val (.int p2)] [(.ref a1), (.int p2), (.int ((p2 / w) + (1 : Int32))), (.ref b_1), (.ref b_1)]) (fun _ k => XS.aloadN X_3.here hx rfl (hb hby d1_13) rfl rfl k) ?_
  obtain ⟨T_4, X_4, e_4, st_4⟩ := getF X_3 hx hZ hown (host := "") (Or.inl (hw _ (List.mem_of_getElem? (i := 12) rfl))) Via.refl e_3 f_2 (g := (mkF m 14 #[.val (.ref a1), .val (.int p2)] [(.ref a1), (.int p2), (.int ((p2 / w) + (1 : Int32))), (.ref b_1), (.ref b_1)])) rfl rfl (hb hby d1_14)
  refine Go.to (mkF m 17 #[.val (.ref a1), .val (.int p2)] [(.int w), (.int p2), (.int ((p2 / w) + (1 : Int32))), (.ref b_1), (.ref b_1)]) st_4 ?_
  refine Go.to (mkF m 18 #[.val (.ref a1), .val (.int p2)] [(.int (p2 % w)), (.int ((p2 / w) + (1 : Int32))), (.ref b_1), (.ref b_1)]) (fun _ k => iremM X_4 hx rfl (hb hby d1_17) rfl hnz k) ?_
  refine Go.to (mkF m 19 #[.val (.ref a1), .val (.int p2)] [(.int (1 : Int32)), (.int (p2 % w)), (.int ((p2 / w) + (1 : Int32))), (.ref b_1), (.ref b_1)]) (fun _ k => XS.iconst X_4.here hx rfl (hb hby d1_18) k) ?_
  refine Go.to (mkF m 20 #[.val (.ref a1), .val (.int p2)] [(.int ((p2 % w) + (1 : Int32))), (.int ((p2 / w) + (1 : Int32))), (.ref b_1), (.ref b_1)]) (fun _ k => XS.iadd X_4.here hx rfl (hb hby d1_19) rfl k) ?_
  have f_5 : n0 ≤ h_1.size := (Nat.le_trans Z0 E_1.1)
  refine Go.special X_4 hx hZ (y := (⟨"nonet/Cell", "<init>", "(II)V"⟩ : MethodName)) rfl hown (hw _ (List.mem_of_getElem? (i := 14) rfl)) (hw _ (List.mem_of_getElem? (i := 15) rfl)) (hw _ (List.mem_of_getElem? (i := 16) rfl)) (by decide) e_4 (a := b_1) (argsL := [(.int ((p2 / w) + (1 : Int32))), (.int ((p2 % w) + (1 : Int32)))]) (rest := [(.ref b_1)]) (Met1.back (W := 1) (rm2 l Z a0 hw b_1 ((p2 / w) + (1 : Int32)) ((p2 % w) + (1 : Int32)) (.int (0 : Int32)) (.int (0 : Int32)) h_1 n0 f_5 A_1 F_row_b_1 F_column_b_1 g_b_1) hZ (hw _ (List.mem_of_getElem? (i := 16) rfl)) (hw _ (List.mem_of_getElem? (i := 11) rfl)) (by decide) (by decide)) (pc := 20) (Ls := #[.val (.ref a1), .val (.int p2)]) (by rw [hml]; rfl) (lenOf own_pd1 rfl) rfl (Nat.le_refl _) (hb hby d1_20) (by decide) (by decide) ?_
  intro T_6 v_6 L_6 X_6 hQ_6
  obtain ⟨rfl, Nq_6, K_6, pf_6_0, pf_6_1⟩ := hQ_6
  have N_6 := Fr.app N0 Nq_6
  have f_7 : Keep h0 h_1 [] := ((Keep.refl h0 []).ext E_1)
  show Go p e below (FinN s (Q1 Z a1 p2 w h0 n0) ({ frames := 3, cells := 1, slots := 2, locals := 39 } : Room).cells ({ frames := 3, cells := 1, slots := 2, locals := 39 } : Room).slots) T_6 (mkF m 23 #[.val (.ref a1), .val (.int p2)] [(.ref b_1)])
  refine Go.retA X_6 hx (t := (.object "nonet/Cell")) hret hlk rfl rfl (hb hby d1_23) (by decide) (by decide) ?_
  have f_8 : Keep h0 T_6.heap [] := (f_7.trans K_6 (allS (Or.inr sz_b_1) all0))
  have f_9 : Exa Z T_6.heap b_1 "nonet/Cell" := (A_1.keep K_6)
  show (Q1 Z a1 p2 w h0 n0) _ T_6.heap _
  exact ⟨b_1, rfl, N_6, f_8, f_9, pf_6_0, pf_6_1, sz_b_1⟩
def Q5 (Z : State) (a1 : Addr) (w : Int32) (h0 : Heap) (n0 : Nat) (v : Option Value) (h : Heap) (L : List Loc) : Prop := v = some (.int w) ∧ Fr n0 L ∧ h = h0
theorem ef_5 (m : MethodId) (a1 : Addr) : entryFrame m #[(.ref a1)] 1 = mkF m 0 #[.val (.ref a1)] [] := by first | (simp [entryFrame, mkF, argsToLocals, Value.category]; done) | (simp [entryFrame, mkF, argsToLocals, Value.category]; done) | rfl
set_option maxRecDepth 65536 in
set_option maxHeartbeats 40000000 in
theorem rm5 (l : Launch) (Z : State) (a0 : Array Value) (hw : ∀ d ∈ tables_1, d.before a0 Z = true) (a1 : Addr) (w : Int32) (h0 : Heap) (n0 : Nat) (Z0 : n0 ≤ h0.size) (PF_a1_row : Fld Z h0 a1 "nonet/Cell" "row" "I" (.int w)) :
    Met1 l Z (⟨"nonet/Cell", "row", "()I"⟩ : MethodName) prog_2_method_5_code 1 (some .int) ({ frames := 0, cells := 0, slots := 0, locals := 0 } : Room) #[(.ref a1)] h0 (Q5 Z a1 w h0 n0) := by
  refine Met1.mk (plainFor_of_name (by first | (simp [plainName, overriddenIn]; done) | decide +kernel)) ?_
  intro p e s m below meth c s₁ hx hZ hby hml hown hnm hret hlk X0 e0
  have N0 := Fr.nil n0
  refine Go.cast (ef_5 m a1) ?_
  show Go p e below (FinN s (Q5 Z a1 w h0 n0) ({ frames := 0, cells := 0, slots := 0, locals := 0 } : Room).cells ({ frames := 0, cells := 0, slots := 0, locals := 0 } : Room).slots) s₁ (mkF m 0 #[.val (.ref a1)] [])
  refine Go.to (mkF m 1 #[.val (.ref a1)] [(.ref a1)]) (fun _ k => XS.aloadN X0.here hx rfl (hb hby d5_0) rfl rfl k) ?_
  obtain ⟨T_1, X_1, e_1, st_1⟩ := getF X0 hx hZ hown (host := "") (Or.inl (hw _ (List.mem_of_getElem? (i := 25) rfl))) Via.refl e0 PF_a1_row (g := (mkF m 1 #[.val (.ref a1)] [(.ref a1)])) rfl rfl (hb hby d5_1)
  refine Go.to (mkF m 4 #[.val (.ref a1)] [(.int w)]) st_1 ?_
  refine Go.retI X_1 hx hret hlk (hb hby d5_4) (by decide) (by decide) ?_
  show (Q5 Z a1 w h0 n0) _ T_1.heap _
  rw [e_1]
  exact ⟨rfl, N0, rfl⟩
def Q6 (Z : State) (a1 : Addr) (w : Int32) (h0 : Heap) (n0 : Nat) (v : Option Value) (h : Heap) (L : List Loc) : Prop := v = some (.int w) ∧ Fr n0 L ∧ h = h0
theorem ef_6 (m : MethodId) (a1 : Addr) : entryFrame m #[(.ref a1)] 1 = mkF m 0 #[.val (.ref a1)] [] := by first | (simp [entryFrame, mkF, argsToLocals, Value.category]; done) | (simp [entryFrame, mkF, argsToLocals, Value.category]; done) | rfl
set_option maxRecDepth 65536 in
set_option maxHeartbeats 40000000 in
theorem rm6 (l : Launch) (Z : State) (a0 : Array Value) (hw : ∀ d ∈ tables_1, d.before a0 Z = true) (a1 : Addr) (w : Int32) (h0 : Heap) (n0 : Nat) (Z0 : n0 ≤ h0.size) (PF_a1_column : Fld Z h0 a1 "nonet/Cell" "column" "I" (.int w)) :
    Met1 l Z (⟨"nonet/Cell", "column", "()I"⟩ : MethodName) prog_2_method_6_code 1 (some .int) ({ frames := 0, cells := 0, slots := 0, locals := 0 } : Room) #[(.ref a1)] h0 (Q6 Z a1 w h0 n0) := by
  refine Met1.mk (plainFor_of_name (by first | (simp [plainName, overriddenIn]; done) | decide +kernel)) ?_
  intro p e s m below meth c s₁ hx hZ hby hml hown hnm hret hlk X0 e0
  have N0 := Fr.nil n0
  refine Go.cast (ef_6 m a1) ?_
  show Go p e below (FinN s (Q6 Z a1 w h0 n0) ({ frames := 0, cells := 0, slots := 0, locals := 0 } : Room).cells ({ frames := 0, cells := 0, slots := 0, locals := 0 } : Room).slots) s₁ (mkF m 0 #[.val (.ref a1)] [])
  refine Go.to (mkF m 1 #[.val (.ref a1)] [(.ref a1)]) (fun _ k => XS.aloadN X0.here hx rfl (hb hby d6_0) rfl rfl k) ?_
  obtain ⟨T_1, X_1, e_1, st_1⟩ := getF X0 hx hZ hown (host := "") (Or.inl (hw _ (List.mem_of_getElem? (i := 27) rfl))) Via.refl e0 PF_a1_column (g := (mkF m 1 #[.val (.ref a1)] [(.ref a1)])) rfl rfl (hb hby d6_1)
  refine Go.to (mkF m 4 #[.val (.ref a1)] [(.int w)]) st_1 ?_
  refine Go.retI X_1 hx hret hlk (hb hby d6_4) (by decide) (by decide) ?_
  show (Q6 Z a1 w h0 n0) _ T_1.heap _
  rw [e_1]
  exact ⟨rfl, N0, rfl⟩
theorem own_pd2 : parseMethodDescriptor "(I)Lnonet/Cell;" = some ⟨[.int], some (.object "nonet/Cell")⟩ := by decide +kernel
theorem own_pd3 : parseMethodDescriptor "()I" = some ⟨[], some .int⟩ := by decide +kernel
def Q0 (Z : State) (p1 : Int32) (p2 : Int32) (w4 : Addr) (w9 : Addr) (h0 : Heap) (n0 : Nat) (v : Option Value) (h : Heap) (L : List Loc) : Prop := v = some (.int (1 : Int32)) ∧ Fr n0 L ∧ Keep h0 h []
theorem ef_0 (m : MethodId) (p1 : Int32) (p2 : Int32) : entryFrame m #[(.int p1), (.int p2)] maxLocals = mkF m 0 #[.val (.int p1), .val (.int p2), .unset, .unset, .unset, .unset, .unset, .unset, .unset] [] := by first | (simp [entryFrame, mkF, argsToLocals, Value.category, maxLocals]; done) | (simp [entryFrame, mkF, argsToLocals, Value.category, maxLocals]; done) | rfl
set_option maxRecDepth 65536 in
set_option maxHeartbeats 40000000 in
theorem rm0 (l : Launch) (Z : State) (a0 : Array Value) (hw : ∀ d ∈ tables_1, d.before a0 Z = true) (p1 : Int32) (p2 : Int32) (w4 : Addr) (w9 : Addr) (h0 : Heap) (n0 : Nat) (Z0 : n0 ≤ h0.size) (PS_nonet_Size_FOUR : Sta Z h0 "nonet/Size" "FOUR" "Lnonet/Size;" (.ref w4)) (PS_nonet_Size_NINE : Sta Z h0 "nonet/Size" "NINE" "Lnonet/Size;" (.ref w9)) (PE_w4 : Exa Z h0 w4 "nonet/Size") (PE_w9 : Exa Z h0 w9 "nonet/Size") (PF_w4_side : Fld Z h0 w4 "nonet/Size" "side" "I" (.int (4 : Int32))) (PF_w9_side : Fld Z h0 w9 "nonet/Size" "side" "I" (.int (9 : Int32))) :
    Met1 l Z x code maxLocals ret room_1 #[(.int p1), (.int p2)] h0 (Q0 Z p1 p2 w4 w9 h0 n0) := by
  refine Met1.mk (plainFor_of_name (by first | (simp [plainName, overriddenIn]; done) | decide +kernel)) ?_
  intro p e s m below meth c s₁ hx hZ hby hml hown hnm hret hlk X0 e0
  have hml : c.maxLocals = 9 := hml
  have hret : meth.sig.returnType = some .boolean := hret
  have N0 := Fr.nil n0
  refine Go.cast (ef_0 m p1 p2) ?_
  show Go p e below (FinN s (Q0 Z p1 p2 w4 w9 h0 n0) room_1.cells room_1.slots) s₁ (mkF m 0 #[.val (.int p1), .val (.int p2), .unset, .unset, .unset, .unset, .unset, .unset, .unset] [])
  refine Go.to (mkF m 1 #[.val (.int p1), .val (.int p2), .unset, .unset, .unset, .unset, .unset, .unset, .unset] [(.int p1)]) (fun _ k => XS.iloadN X0.here hx rfl (hb hby at_0) rfl  k) ?_
  refine Go.to (mkF m 2 #[.val (.int p1), .val (.int p2), .unset, .unset, .unset, .unset, .unset, .unset, .unset] [(.int (1 : Int32)), (.int p1)]) (fun _ k => XS.iconst X0.here hx rfl (hb hby at_1) k) ?_
  refine Go.to (mkF m 3 #[.val (.int p1), .val (.int p2), .unset, .unset, .unset, .unset, .unset, .unset, .unset] [(.int (p1 &&& (1 : Int32)))]) (fun _ k => XS.iand X0.here hx rfl (hb hby at_2) rfl k) ?_
  by_cases hc3 : (p1 &&& (1 : Int32)) = (0 : Int32)
  · refine Go.to (mkF m 10 #[.val (.int p1), .val (.int p2), .unset, .unset, .unset, .unset, .unset, .unset, .unset] []) (fun _ k => XS.ifYes X0.here hx rfl (pc0 := 3) (pc' := 10) rfl (hb hby at_3) rfl ((if0 _ _).trans (teq hc3).1) (by decide) (by decide) k) ?_
    refine Go.to (mkF m 11 #[.val (.int p1), .val (.int p2), .unset, .unset, .unset, .unset, .unset, .unset, .unset] [(.int (0 : Int32))]) (fun _ k => XS.iconst X0.here hx rfl (hb hby at_10) k) ?_
    refine Go.to (mkF m 12 #[.val (.int p1), .val (.int p2), .val (.int (0 : Int32)), .unset, .unset, .unset, .unset, .unset, .unset] []) (fun _ k => XS.istoreN X0.here hx rfl (hb hby at_11) rfl (l' := #[.val (.int p1), .val (.int p2), .val (.int (0 : Int32)), .unset, .unset, .unset, .unset, .unset, .unset]) rfl k) ?_
    refine Go.to (mkF m 13 #[.val (.int p1), .val (.int p2), .val (.int (0 : Int32)), .unset, .unset, .unset, .unset, .unset, .unset] [(.int (0 : Int32))]) (fun _ k => XS.iloadN X0.here hx rfl (hb hby at_12) rfl  k) ?_
    refine Go.to (mkF m 22 #[.val (.int p1), .val (.int p2), .val (.int (0 : Int32)), .unset, .unset, .unset, .unset, .unset, .unset] []) (fun _ k => XS.ifYes X0.here hx rfl (pc0 := 13) (pc' := 22) rfl (hb hby at_13) rfl ((if0 _ _).trans (teq (by decide : (0 : Int32) = (0 : Int32))).1) (by decide) (by decide) k) ?_
    obtain ⟨T_1, X_1, e_1, st_1⟩ := getS2 X0 hx hZ hown (host := "") (Or.inl (hw _ (List.mem_of_getElem? (i := 0) rfl))) Via.refl e0 PS_nonet_Size_FOUR (g := (mkF m 22 #[.val (.int p1), .val (.int p2), .val (.int (0 : Int32)), .unset, .unset, .unset, .unset, .unset, .unset] [])) rfl (hb hby at_22)
    refine Go.to (mkF m 25 #[.val (.int p1), .val (.int p2), .val (.int (0 : Int32)), .unset, .unset, .unset, .unset, .unset, .unset] [(.ref w4)]) st_1 ?_
    refine Go.to (mkF m 26 #[.val (.int p1), .val (.int p2), .val (.int (0 : Int32)), .val (.ref w4), .unset, .unset, .unset, .unset, .unset] []) (fun _ k => XS.astoreN X_1.here hx rfl (hb hby at_25) rfl rfl (l' := #[.val (.int p1), .val (.int p2), .val (.int (0 : Int32)), .val (.ref w4), .unset, .unset, .unset, .unset, .unset]) rfl k) ?_
    refine Go.to (mkF m 27 #[.val (.int p1), .val (.int p2), .val (.int (0 : Int32)), .val (.ref w4), .unset, .unset, .unset, .unset, .unset] [(.int (0 : Int32))]) (fun _ k => XS.iloadN X_1.here hx rfl (hb hby at_26) rfl  k) ?_
    refine Go.to (mkF m 35 #[.val (.int p1), .val (.int p2), .val (.int (0 : Int32)), .val (.ref w4), .unset, .unset, .unset, .unset, .unset] []) (fun _ k => XS.ifYes X_1.here hx rfl (pc0 := 27) (pc' := 35) rfl (hb hby at_27) rfl ((if0 _ _).trans (teq (by decide : (0 : Int32) = (0 : Int32))).1) (by decide) (by decide) k) ?_
    refine Go.to (mkF m 36 #[.val (.int p1), .val (.int p2), .val (.int (0 : Int32)), .val (.ref w4), .unset, .unset, .unset, .unset, .unset] [(.int (4 : Int32))]) (fun _ k => XS.iconst X_1.here hx rfl (hb hby at_35) k) ?_
    refine Go.to (mkF m 38 #[.val (.int p1), .val (.int p2), .val (.int (0 : Int32)), .val (.ref w4), .val (.int (4 : Int32)), .unset, .unset, .unset, .unset] []) (fun _ k => XS.istore X_1.here hx rfl (hb hby at_36) rfl (l' := #[.val (.int p1), .val (.int p2), .val (.int (0 : Int32)), .val (.ref w4), .val (.int (4 : Int32)), .unset, .unset, .unset, .unset]) rfl k) ?_
    refine Go.to (mkF m 39 #[.val (.int p1), .val (.int p2), .val (.int (0 : Int32)), .val (.ref w4), .val (.int (4 : Int32)), .unset, .unset, .unset, .unset] [(.int p2)]) (fun _ k => XS.iloadN X_1.here hx rfl (hb hby at_38) rfl  k) ?_
    refine Go.to (mkF m 41 #[.val (.int p1), .val (.int p2), .val (.int (0 : Int32)), .val (.ref w4), .val (.int (4 : Int32)), .unset, .unset, .unset, .unset] [(.int (2147483647 : Int32)), (.int p2)]) (fun _ k => X_1.ldcInt hx hown (mvT hZ (hw _ (List.mem_of_getElem? (i := 3) rfl))) (g := (mkF m 39 #[.val (.int p1), .val (.int p2), .val (.int (0 : Int32)), .val (.ref w4), .val (.int (4 : Int32)), .unset, .unset, .unset, .unset] [(.int p2)])) rfl (hb hby at_39) _ k) ?_
    refine Go.to (mkF m 42 #[.val (.int p1), .val (.int p2), .val (.int (0 : Int32)), .val (.ref w4), .val (.int (4 : Int32)), .unset, .unset, .unset, .unset] [(.int (p2 &&& (2147483647 : Int32)))]) (fun _ k => XS.iand X_1.here hx rfl (hb hby at_41) rfl k) ?_
    refine Go.to (mkF m 44 #[.val (.int p1), .val (.int p2), .val (.int (0 : Int32)), .val (.ref w4), .val (.int (4 : Int32)), .unset, .unset, .unset, .unset] [(.int (4 : Int32)), (.int (p2 &&& (2147483647 : Int32)))]) (fun _ k => XS.iload X_1.here hx rfl (hb hby at_42) rfl  k) ?_
    refine Go.to (mkF m 46 #[.val (.int p1), .val (.int p2), .val (.int (0 : Int32)), .val (.ref w4), .val (.int (4 : Int32)), .unset, .unset, .unset, .unset] [(.int (4 : Int32)), (.int (4 : Int32)), (.int (p2 &&& (2147483647 : Int32)))]) (fun _ k => XS.iload X_1.here hx rfl (hb hby at_44) rfl  k) ?_
    refine Go.to (mkF m 47 #[.val (.int p1), .val (.int p2), .val (.int (0 : Int32)), .val (.ref w4), .val (.int (4 : Int32)), .unset, .unset, .unset, .unset] [(.int ((4 : Int32) * (4 : Int32))), (.int (p2 &&& (2147483647 : Int32)))]) (fun _ k => XS.imul X_1.here hx rfl (hb hby at_46) rfl k) ?_
    refine Go.to (mkF m 48 #[.val (.int p1), .val (.int p2), .val (.int (0 : Int32)), .val (.ref w4), .val (.int (4 : Int32)), .unset, .unset, .unset, .unset] [(.int ((p2 &&& (2147483647 : Int32)) % ((4 : Int32) * (4 : Int32))))]) (fun _ k => iremM X_1 hx rfl (hb hby at_47) rfl (by decide) k) ?_
    refine Go.to (mkF m 50 #[.val (.int p1), .val (.int p2), .val (.int (0 : Int32)), .val (.ref w4), .val (.int (4 : Int32)), .val (.int ((p2 &&& (2147483647 : Int32)) % ((4 : Int32) * (4 : Int32)))), .unset, .unset, .unset] []) (fun _ k => XS.istore X_1.here hx rfl (hb hby at_48) rfl (l' := #[.val (.int p1), .val (.int p2), .val (.int (0 : Int32)), .val (.ref w4), .val (.int (4 : Int32)), .val (.int ((p2 &&& (2147483647 : Int32)) % ((4 : Int32) * (4 : Int32)))), .unset, .unset, .unset]) rfl k) ?_
    refine Go.to (mkF m 51 #[.val (.int p1), .val (.int p2), .val (.int (0 : Int32)), .val (.ref w4), .val (.int (4 : Int32)), .val (.int ((p2 &&& (2147483647 : Int32)) % ((4 : Int32) * (4 : Int32)))), .unset, .unset, .unset] [(.ref w4)]) (fun _ k => XS.aloadN X_1.here hx rfl (hb hby at_50) rfl rfl k) ?_
    refine Go.to (mkF m 53 #[.val (.int p1), .val (.int p2), .val (.int (0 : Int32)), .val (.ref w4), .val (.int (4 : Int32)), .val (.int ((p2 &&& (2147483647 : Int32)) % ((4 : Int32) * (4 : Int32)))), .unset, .unset, .unset] [(.int ((p2 &&& (2147483647 : Int32)) % ((4 : Int32) * (4 : Int32)))), (.ref w4)]) (fun _ k => XS.iload X_1.here hx rfl (hb hby at_51) rfl  k) ?_
    obtain ⟨q1, q2, q3, q4, q5⟩ := own_four p2 ((p2 &&& (2147483647 : Int32)) % ((4 : Int32) * (4 : Int32))) rfl
    refine Go.virt X_1 hx hZ (y := (⟨"nonet/Size", "cell", "(I)Lnonet/Cell;"⟩ : MethodName)) (z := (⟨"nonet/Size", "cell", "(I)Lnonet/Cell;"⟩ : MethodName)) hown (hw _ (List.mem_of_getElem? (i := 4) rfl)) (hw _ (List.mem_of_getElem? (i := 5) rfl)) (notFace_of_selects (args := #[]) (mvT hZ (hw _ (List.mem_of_getElem? (i := 7) rfl)))) (hw _ (List.mem_of_getElem? (i := 7) rfl)) (hw _ (List.mem_of_getElem? (i := 6) rfl)) (by decide) e_1 (a := w4) PE_w4 (argsL := [(.int ((p2 &&& (2147483647 : Int32)) % ((4 : Int32) * (4 : Int32))))]) (rest := []) (Met1.back (W := 0) (rm1 l Z a0 hw w4 ((p2 &&& (2147483647 : Int32)) % ((4 : Int32) * (4 : Int32))) (4 : Int32) h0 n0 Z0 PF_w4_side (by decide)) hZ (hw _ (List.mem_of_getElem? (i := 8) rfl)) (hw _ (List.mem_of_getElem? (i := 1) rfl)) (by decide) (by decide)) (pc := 53) (Ls := #[.val (.int p1), .val (.int p2), .val (.int (0 : Int32)), .val (.ref w4), .val (.int (4 : Int32)), .val (.int ((p2 &&& (2147483647 : Int32)) % ((4 : Int32) * (4 : Int32)))), .unset, .unset, .unset]) (by rw [hml]; rfl) (lenOf own_pd2 rfl) rfl (Nat.le_refl _) (hb hby at_53) (by decide) (by decide) ?_
    intro T_2 v_2 L_2 X_2 hQ_2
    obtain ⟨b_2, rfl, Nq_2, K_2, pf_2_0, pf_2_1, pf_2_2, sz_b_2⟩ := hQ_2
    have N_2 := Fr.app N0 Nq_2
    show Go p e below (FinN s (Q0 Z p1 p2 w4 w9 h0 n0) room_1.cells room_1.slots) T_2 (mkF m 56 #[.val (.int p1), .val (.int p2), .val (.int (0 : Int32)), .val (.ref w4), .val (.int (4 : Int32)), .val (.int ((p2 &&& (2147483647 : Int32)) % ((4 : Int32) * (4 : Int32)))), .unset, .unset, .unset] [(.ref b_2)])
    have g_b_2 : n0 ≤ b_2 := Nat.le_trans Z0 sz_b_2
    have ne_w4_b_2 : w4 ≠ b_2 := Nat.ne_of_lt (Nat.lt_of_lt_of_le PE_w4.lt sz_b_2)
    have ne_w9_b_2 : w9 ≠ b_2 := Nat.ne_of_lt (Nat.lt_of_lt_of_le PE_w9.lt sz_b_2)
    have sz_b_2 : h0.size ≤ b_2 := Nat.le_trans (Keep.refl h0 []).1 sz_b_2
    refine Go.to (mkF m 58 #[.val (.int p1), .val (.int p2), .val (.int (0 : Int32)), .val (.ref w4), .val (.int (4 : Int32)), .val (.int ((p2 &&& (2147483647 : Int32)) % ((4 : Int32) * (4 : Int32)))), .val (.ref b_2), .unset, .unset] []) (fun _ k => XS.astore X_2.here hx rfl (hb hby at_56) rfl rfl (l' := #[.val (.int p1), .val (.int p2), .val (.int (0 : Int32)), .val (.ref w4), .val (.int (4 : Int32)), .val (.int ((p2 &&& (2147483647 : Int32)) % ((4 : Int32) * (4 : Int32)))), .val (.ref b_2), .unset, .unset]) rfl k) ?_
    refine Go.to (mkF m 60 #[.val (.int p1), .val (.int p2), .val (.int (0 : Int32)), .val (.ref w4), .val (.int (4 : Int32)), .val (.int ((p2 &&& (2147483647 : Int32)) % ((4 : Int32) * (4 : Int32)))), .val (.ref b_2), .unset, .unset] [(.ref b_2)]) (fun _ k => XS.aload X_2.here hx rfl (hb hby at_58) rfl rfl k) ?_
    have f_3 : n0 ≤ T_2.heap.size := (Nat.le_trans Z0 K_2.1)
    refine Go.virt X_2 hx hZ (y := (⟨"nonet/Cell", "row", "()I"⟩ : MethodName)) (z := (⟨"nonet/Cell", "row", "()I"⟩ : MethodName)) hown (hw _ (List.mem_of_getElem? (i := 29) rfl)) (hw _ (List.mem_of_getElem? (i := 30) rfl)) (notFace_of_selects (args := #[]) (mvT hZ (hw _ (List.mem_of_getElem? (i := 32) rfl)))) (hw _ (List.mem_of_getElem? (i := 32) rfl)) (hw _ (List.mem_of_getElem? (i := 31) rfl)) (by decide) rfl (a := b_2) pf_2_0 (argsL := []) (rest := []) (Met1.back (W := 0) (rm5 l Z a0 hw b_2 ((((p2 &&& (2147483647 : Int32)) % ((4 : Int32) * (4 : Int32))) / (4 : Int32)) + (1 : Int32)) T_2.heap n0 f_3 pf_2_1) hZ (hw _ (List.mem_of_getElem? (i := 33) rfl)) (hw _ (List.mem_of_getElem? (i := 11) rfl)) (by decide) (by decide)) (pc := 60) (Ls := #[.val (.int p1), .val (.int p2), .val (.int (0 : Int32)), .val (.ref w4), .val (.int (4 : Int32)), .val (.int ((p2 &&& (2147483647 : Int32)) % ((4 : Int32) * (4 : Int32)))), .val (.ref b_2), .unset, .unset]) (by rw [hml]; rfl) (lenOf own_pd3 rfl) rfl (Nat.le_refl _) (hb hby at_60) (by decide) (by decide) ?_
    intro T_4 v_4 L_4 X_4 hQ_4
    obtain ⟨rfl, Nq_4, hh_4⟩ := hQ_4
    have N_4 := Fr.app N_2 Nq_4
    show Go p e below (FinN s (Q0 Z p1 p2 w4 w9 h0 n0) room_1.cells room_1.slots) T_4 (mkF m 63 #[.val (.int p1), .val (.int p2), .val (.int (0 : Int32)), .val (.ref w4), .val (.int (4 : Int32)), .val (.int ((p2 &&& (2147483647 : Int32)) % ((4 : Int32) * (4 : Int32)))), .val (.ref b_2), .unset, .unset] [(.int ((((p2 &&& (2147483647 : Int32)) % ((4 : Int32) * (4 : Int32))) / (4 : Int32)) + (1 : Int32)))])
    refine Go.to (mkF m 65 #[.val (.int p1), .val (.int p2), .val (.int (0 : Int32)), .val (.ref w4), .val (.int (4 : Int32)), .val (.int ((p2 &&& (2147483647 : Int32)) % ((4 : Int32) * (4 : Int32)))), .val (.ref b_2), .val (.int ((((p2 &&& (2147483647 : Int32)) % ((4 : Int32) * (4 : Int32))) / (4 : Int32)) + (1 : Int32))), .unset] []) (fun _ k => XS.istore X_4.here hx rfl (hb hby at_63) rfl (l' := #[.val (.int p1), .val (.int p2), .val (.int (0 : Int32)), .val (.ref w4), .val (.int (4 : Int32)), .val (.int ((p2 &&& (2147483647 : Int32)) % ((4 : Int32) * (4 : Int32)))), .val (.ref b_2), .val (.int ((((p2 &&& (2147483647 : Int32)) % ((4 : Int32) * (4 : Int32))) / (4 : Int32)) + (1 : Int32))), .unset]) rfl k) ?_
    refine Go.to (mkF m 67 #[.val (.int p1), .val (.int p2), .val (.int (0 : Int32)), .val (.ref w4), .val (.int (4 : Int32)), .val (.int ((p2 &&& (2147483647 : Int32)) % ((4 : Int32) * (4 : Int32)))), .val (.ref b_2), .val (.int ((((p2 &&& (2147483647 : Int32)) % ((4 : Int32) * (4 : Int32))) / (4 : Int32)) + (1 : Int32))), .unset] [(.ref b_2)]) (fun _ k => XS.aload X_4.here hx rfl (hb hby at_65) rfl rfl k) ?_
    refine Go.virt X_4 hx hZ (y := (⟨"nonet/Cell", "column", "()I"⟩ : MethodName)) (z := (⟨"nonet/Cell", "column", "()I"⟩ : MethodName)) hown (hw _ (List.mem_of_getElem? (i := 34) rfl)) (hw _ (List.mem_of_getElem? (i := 35) rfl)) (notFace_of_selects (args := #[]) (mvT hZ (hw _ (List.mem_of_getElem? (i := 37) rfl)))) (hw _ (List.mem_of_getElem? (i := 37) rfl)) (hw _ (List.mem_of_getElem? (i := 36) rfl)) (by decide) hh_4 (a := b_2) pf_2_0 (argsL := []) (rest := []) (Met1.back (W := 0) (rm6 l Z a0 hw b_2 ((((p2 &&& (2147483647 : Int32)) % ((4 : Int32) * (4 : Int32))) % (4 : Int32)) + (1 : Int32)) T_2.heap n0 f_3 pf_2_2) hZ (hw _ (List.mem_of_getElem? (i := 38) rfl)) (hw _ (List.mem_of_getElem? (i := 11) rfl)) (by decide) (by decide)) (pc := 67) (Ls := #[.val (.int p1), .val (.int p2), .val (.int (0 : Int32)), .val (.ref w4), .val (.int (4 : Int32)), .val (.int ((p2 &&& (2147483647 : Int32)) % ((4 : Int32) * (4 : Int32)))), .val (.ref b_2), .val (.int ((((p2 &&& (2147483647 : Int32)) % ((4 : Int32) * (4 : Int32))) / (4 : Int32)) + (1 : Int32))), .unset]) (by rw [hml]; rfl) (lenOf own_pd3 rfl) rfl (Nat.le_refl _) (hb hby at_67) (by decide) (by decide) ?_
    intro T_5 v_5 L_5 X_5 hQ_5
    obtain ⟨rfl, Nq_5, hh_5⟩ := hQ_5
    have N_5 := Fr.app N_4 Nq_5
    show Go p e below (FinN s (Q0 Z p1 p2 w4 w9 h0 n0) room_1.cells room_1.slots) T_5 (mkF m 70 #[.val (.int p1), .val (.int p2), .val (.int (0 : Int32)), .val (.ref w4), .val (.int (4 : Int32)), .val (.int ((p2 &&& (2147483647 : Int32)) % ((4 : Int32) * (4 : Int32)))), .val (.ref b_2), .val (.int ((((p2 &&& (2147483647 : Int32)) % ((4 : Int32) * (4 : Int32))) / (4 : Int32)) + (1 : Int32))), .unset] [(.int ((((p2 &&& (2147483647 : Int32)) % ((4 : Int32) * (4 : Int32))) % (4 : Int32)) + (1 : Int32)))])
    refine Go.to (mkF m 72 #[.val (.int p1), .val (.int p2), .val (.int (0 : Int32)), .val (.ref w4), .val (.int (4 : Int32)), .val (.int ((p2 &&& (2147483647 : Int32)) % ((4 : Int32) * (4 : Int32)))), .val (.ref b_2), .val (.int ((((p2 &&& (2147483647 : Int32)) % ((4 : Int32) * (4 : Int32))) / (4 : Int32)) + (1 : Int32))), .val (.int ((((p2 &&& (2147483647 : Int32)) % ((4 : Int32) * (4 : Int32))) % (4 : Int32)) + (1 : Int32)))] []) (fun _ k => XS.istore X_5.here hx rfl (hb hby at_70) rfl (l' := #[.val (.int p1), .val (.int p2), .val (.int (0 : Int32)), .val (.ref w4), .val (.int (4 : Int32)), .val (.int ((p2 &&& (2147483647 : Int32)) % ((4 : Int32) * (4 : Int32)))), .val (.ref b_2), .val (.int ((((p2 &&& (2147483647 : Int32)) % ((4 : Int32) * (4 : Int32))) / (4 : Int32)) + (1 : Int32))), .val (.int ((((p2 &&& (2147483647 : Int32)) % ((4 : Int32) * (4 : Int32))) % (4 : Int32)) + (1 : Int32)))]) rfl k) ?_
    refine Go.to (mkF m 74 #[.val (.int p1), .val (.int p2), .val (.int (0 : Int32)), .val (.ref w4), .val (.int (4 : Int32)), .val (.int ((p2 &&& (2147483647 : Int32)) % ((4 : Int32) * (4 : Int32)))), .val (.ref b_2), .val (.int ((((p2 &&& (2147483647 : Int32)) % ((4 : Int32) * (4 : Int32))) / (4 : Int32)) + (1 : Int32))), .val (.int ((((p2 &&& (2147483647 : Int32)) % ((4 : Int32) * (4 : Int32))) % (4 : Int32)) + (1 : Int32)))] [(.int ((((p2 &&& (2147483647 : Int32)) % ((4 : Int32) * (4 : Int32))) / (4 : Int32)) + (1 : Int32)))]) (fun _ k => XS.iload X_5.here hx rfl (hb hby at_72) rfl  k) ?_
    refine Go.to (mkF m 75 #[.val (.int p1), .val (.int p2), .val (.int (0 : Int32)), .val (.ref w4), .val (.int (4 : Int32)), .val (.int ((p2 &&& (2147483647 : Int32)) % ((4 : Int32) * (4 : Int32)))), .val (.ref b_2), .val (.int ((((p2 &&& (2147483647 : Int32)) % ((4 : Int32) * (4 : Int32))) / (4 : Int32)) + (1 : Int32))), .val (.int ((((p2 &&& (2147483647 : Int32)) % ((4 : Int32) * (4 : Int32))) % (4 : Int32)) + (1 : Int32)))] [(.int (1 : Int32)), (.int ((((p2 &&& (2147483647 : Int32)) % ((4 : Int32) * (4 : Int32))) / (4 : Int32)) + (1 : Int32)))]) (fun _ k => XS.iconst X_5.here hx rfl (hb hby at_74) k) ?_
    refine Go.to (mkF m 78 #[.val (.int p1), .val (.int p2), .val (.int (0 : Int32)), .val (.ref w4), .val (.int (4 : Int32)), .val (.int ((p2 &&& (2147483647 : Int32)) % ((4 : Int32) * (4 : Int32)))), .val (.ref b_2), .val (.int ((((p2 &&& (2147483647 : Int32)) % ((4 : Int32) * (4 : Int32))) / (4 : Int32)) + (1 : Int32))), .val (.int ((((p2 &&& (2147483647 : Int32)) % ((4 : Int32) * (4 : Int32))) % (4 : Int32)) + (1 : Int32)))] []) (fun _ k => XS.icmpNo X_5.here hx rfl (hb hby at_75) rfl (flt q1).1 k) ?_
    refine Go.to (mkF m 80 #[.val (.int p1), .val (.int p2), .val (.int (0 : Int32)), .val (.ref w4), .val (.int (4 : Int32)), .val (.int ((p2 &&& (2147483647 : Int32)) % ((4 : Int32) * (4 : Int32)))), .val (.ref b_2), .val (.int ((((p2 &&& (2147483647 : Int32)) % ((4 : Int32) * (4 : Int32))) / (4 : Int32)) + (1 : Int32))), .val (.int ((((p2 &&& (2147483647 : Int32)) % ((4 : Int32) * (4 : Int32))) % (4 : Int32)) + (1 : Int32)))] [(.int ((((p2 &&& (2147483647 : Int32)) % ((4 : Int32) * (4 : Int32))) / (4 : Int32)) + (1 : Int32)))]) (fun _ k => XS.iload X_5.here hx rfl (hb hby at_78) rfl  k) ?_
    refine Go.to (mkF m 82 #[.val (.int p1), .val (.int p2), .val (.int (0 : Int32)), .val (.ref w4), .val (.int (4 : Int32)), .val (.int ((p2 &&& (2147483647 : Int32)) % ((4 : Int32) * (4 : Int32)))), .val (.ref b_2), .val (.int ((((p2 &&& (2147483647 : Int32)) % ((4 : Int32) * (4 : Int32))) / (4 : Int32)) + (1 : Int32))), .val (.int ((((p2 &&& (2147483647 : Int32)) % ((4 : Int32) * (4 : Int32))) % (4 : Int32)) + (1 : Int32)))] [(.int (4 : Int32)), (.int ((((p2 &&& (2147483647 : Int32)) % ((4 : Int32) * (4 : Int32))) / (4 : Int32)) + (1 : Int32)))]) (fun _ k => XS.iload X_5.here hx rfl (hb hby at_80) rfl  k) ?_
    refine Go.to (mkF m 87 #[.val (.int p1), .val (.int p2), .val (.int (0 : Int32)), .val (.ref w4), .val (.int (4 : Int32)), .val (.int ((p2 &&& (2147483647 : Int32)) % ((4 : Int32) * (4 : Int32)))), .val (.ref b_2), .val (.int ((((p2 &&& (2147483647 : Int32)) % ((4 : Int32) * (4 : Int32))) / (4 : Int32)) + (1 : Int32))), .val (.int ((((p2 &&& (2147483647 : Int32)) % ((4 : Int32) * (4 : Int32))) % (4 : Int32)) + (1 : Int32)))] []) (fun _ k => XS.icmpYes X_5.here hx rfl (pc0 := 82) (pc' := 87) rfl (hb hby at_82) rfl (flt q2).2.2.2 (by decide) (by decide) k) ?_
    refine Go.to (mkF m 89 #[.val (.int p1), .val (.int p2), .val (.int (0 : Int32)), .val (.ref w4), .val (.int (4 : Int32)), .val (.int ((p2 &&& (2147483647 : Int32)) % ((4 : Int32) * (4 : Int32)))), .val (.ref b_2), .val (.int ((((p2 &&& (2147483647 : Int32)) % ((4 : Int32) * (4 : Int32))) / (4 : Int32)) + (1 : Int32))), .val (.int ((((p2 &&& (2147483647 : Int32)) % ((4 : Int32) * (4 : Int32))) % (4 : Int32)) + (1 : Int32)))] [(.int ((((p2 &&& (2147483647 : Int32)) % ((4 : Int32) * (4 : Int32))) % (4 : Int32)) + (1 : Int32)))]) (fun _ k => XS.iload X_5.here hx rfl (hb hby at_87) rfl  k) ?_
    refine Go.to (mkF m 90 #[.val (.int p1), .val (.int p2), .val (.int (0 : Int32)), .val (.ref w4), .val (.int (4 : Int32)), .val (.int ((p2 &&& (2147483647 : Int32)) % ((4 : Int32) * (4 : Int32)))), .val (.ref b_2), .val (.int ((((p2 &&& (2147483647 : Int32)) % ((4 : Int32) * (4 : Int32))) / (4 : Int32)) + (1 : Int32))), .val (.int ((((p2 &&& (2147483647 : Int32)) % ((4 : Int32) * (4 : Int32))) % (4 : Int32)) + (1 : Int32)))] [(.int (1 : Int32)), (.int ((((p2 &&& (2147483647 : Int32)) % ((4 : Int32) * (4 : Int32))) % (4 : Int32)) + (1 : Int32)))]) (fun _ k => XS.iconst X_5.here hx rfl (hb hby at_89) k) ?_
    refine Go.to (mkF m 93 #[.val (.int p1), .val (.int p2), .val (.int (0 : Int32)), .val (.ref w4), .val (.int (4 : Int32)), .val (.int ((p2 &&& (2147483647 : Int32)) % ((4 : Int32) * (4 : Int32)))), .val (.ref b_2), .val (.int ((((p2 &&& (2147483647 : Int32)) % ((4 : Int32) * (4 : Int32))) / (4 : Int32)) + (1 : Int32))), .val (.int ((((p2 &&& (2147483647 : Int32)) % ((4 : Int32) * (4 : Int32))) % (4 : Int32)) + (1 : Int32)))] []) (fun _ k => XS.icmpNo X_5.here hx rfl (hb hby at_90) rfl (flt q3).1 k) ?_
    refine Go.to (mkF m 95 #[.val (.int p1), .val (.int p2), .val (.int (0 : Int32)), .val (.ref w4), .val (.int (4 : Int32)), .val (.int ((p2 &&& (2147483647 : Int32)) % ((4 : Int32) * (4 : Int32)))), .val (.ref b_2), .val (.int ((((p2 &&& (2147483647 : Int32)) % ((4 : Int32) * (4 : Int32))) / (4 : Int32)) + (1 : Int32))), .val (.int ((((p2 &&& (2147483647 : Int32)) % ((4 : Int32) * (4 : Int32))) % (4 : Int32)) + (1 : Int32)))] [(.int ((((p2 &&& (2147483647 : Int32)) % ((4 : Int32) * (4 : Int32))) % (4 : Int32)) + (1 : Int32)))]) (fun _ k => XS.iload X_5.here hx rfl (hb hby at_93) rfl  k) ?_
    refine Go.to (mkF m 97 #[.val (.int p1), .val (.int p2), .val (.int (0 : Int32)), .val (.ref w4), .val (.int (4 : Int32)), .val (.int ((p2 &&& (2147483647 : Int32)) % ((4 : Int32) * (4 : Int32)))), .val (.ref b_2), .val (.int ((((p2 &&& (2147483647 : Int32)) % ((4 : Int32) * (4 : Int32))) / (4 : Int32)) + (1 : Int32))), .val (.int ((((p2 &&& (2147483647 : Int32)) % ((4 : Int32) * (4 : Int32))) % (4 : Int32)) + (1 : Int32)))] [(.int (4 : Int32)), (.int ((((p2 &&& (2147483647 : Int32)) % ((4 : Int32) * (4 : Int32))) % (4 : Int32)) + (1 : Int32)))]) (fun _ k => XS.iload X_5.here hx rfl (hb hby at_95) rfl  k) ?_
    refine Go.to (mkF m 102 #[.val (.int p1), .val (.int p2), .val (.int (0 : Int32)), .val (.ref w4), .val (.int (4 : Int32)), .val (.int ((p2 &&& (2147483647 : Int32)) % ((4 : Int32) * (4 : Int32)))), .val (.ref b_2), .val (.int ((((p2 &&& (2147483647 : Int32)) % ((4 : Int32) * (4 : Int32))) / (4 : Int32)) + (1 : Int32))), .val (.int ((((p2 &&& (2147483647 : Int32)) % ((4 : Int32) * (4 : Int32))) % (4 : Int32)) + (1 : Int32)))] []) (fun _ k => XS.icmpYes X_5.here hx rfl (pc0 := 97) (pc' := 102) rfl (hb hby at_97) rfl (flt q4).2.2.2 (by decide) (by decide) k) ?_
    refine Go.to (mkF m 104 #[.val (.int p1), .val (.int p2), .val (.int (0 : Int32)), .val (.ref w4), .val (.int (4 : Int32)), .val (.int ((p2 &&& (2147483647 : Int32)) % ((4 : Int32) * (4 : Int32)))), .val (.ref b_2), .val (.int ((((p2 &&& (2147483647 : Int32)) % ((4 : Int32) * (4 : Int32))) / (4 : Int32)) + (1 : Int32))), .val (.int ((((p2 &&& (2147483647 : Int32)) % ((4 : Int32) * (4 : Int32))) % (4 : Int32)) + (1 : Int32)))] [(.int ((((p2 &&& (2147483647 : Int32)) % ((4 : Int32) * (4 : Int32))) / (4 : Int32)) + (1 : Int32)))]) (fun _ k => XS.iload X_5.here hx rfl (hb hby at_102) rfl  k) ?_
    refine Go.to (mkF m 105 #[.val (.int p1), .val (.int p2), .val (.int (0 : Int32)), .val (.ref w4), .val (.int (4 : Int32)), .val (.int ((p2 &&& (2147483647 : Int32)) % ((4 : Int32) * (4 : Int32)))), .val (.ref b_2), .val (.int ((((p2 &&& (2147483647 : Int32)) % ((4 : Int32) * (4 : Int32))) / (4 : Int32)) + (1 : Int32))), .val (.int ((((p2 &&& (2147483647 : Int32)) % ((4 : Int32) * (4 : Int32))) % (4 : Int32)) + (1 : Int32)))] [(.int (1 : Int32)), (.int ((((p2 &&& (2147483647 : Int32)) % ((4 : Int32) * (4 : Int32))) / (4 : Int32)) + (1 : Int32)))]) (fun _ k => XS.iconst X_5.here hx rfl (hb hby at_104) k) ?_
    refine Go.to (mkF m 106 #[.val (.int p1), .val (.int p2), .val (.int (0 : Int32)), .val (.ref w4), .val (.int (4 : Int32)), .val (.int ((p2 &&& (2147483647 : Int32)) % ((4 : Int32) * (4 : Int32)))), .val (.ref b_2), .val (.int ((((p2 &&& (2147483647 : Int32)) % ((4 : Int32) * (4 : Int32))) / (4 : Int32)) + (1 : Int32))), .val (.int ((((p2 &&& (2147483647 : Int32)) % ((4 : Int32) * (4 : Int32))) % (4 : Int32)) + (1 : Int32)))] [(.int (((((p2 &&& (2147483647 : Int32)) % ((4 : Int32) * (4 : Int32))) / (4 : Int32)) + (1 : Int32)) - (1 : Int32)))]) (fun _ k => XS.isub X_5.here hx rfl (hb hby at_105) rfl k) ?_
    refine Go.to (mkF m 108 #[.val (.int p1), .val (.int p2), .val (.int (0 : Int32)), .val (.ref w4), .val (.int (4 : Int32)), .val (.int ((p2 &&& (2147483647 : Int32)) % ((4 : Int32) * (4 : Int32)))), .val (.ref b_2), .val (.int ((((p2 &&& (2147483647 : Int32)) % ((4 : Int32) * (4 : Int32))) / (4 : Int32)) + (1 : Int32))), .val (.int ((((p2 &&& (2147483647 : Int32)) % ((4 : Int32) * (4 : Int32))) % (4 : Int32)) + (1 : Int32)))] [(.int (4 : Int32)), (.int (((((p2 &&& (2147483647 : Int32)) % ((4 : Int32) * (4 : Int32))) / (4 : Int32)) + (1 : Int32)) - (1 : Int32)))]) (fun _ k => XS.iload X_5.here hx rfl (hb hby at_106) rfl  k) ?_
    refine Go.to (mkF m 109 #[.val (.int p1), .val (.int p2), .val (.int (0 : Int32)), .val (.ref w4), .val (.int (4 : Int32)), .val (.int ((p2 &&& (2147483647 : Int32)) % ((4 : Int32) * (4 : Int32)))), .val (.ref b_2), .val (.int ((((p2 &&& (2147483647 : Int32)) % ((4 : Int32) * (4 : Int32))) / (4 : Int32)) + (1 : Int32))), .val (.int ((((p2 &&& (2147483647 : Int32)) % ((4 : Int32) * (4 : Int32))) % (4 : Int32)) + (1 : Int32)))] [(.int ((((((p2 &&& (2147483647 : Int32)) % ((4 : Int32) * (4 : Int32))) / (4 : Int32)) + (1 : Int32)) - (1 : Int32)) * (4 : Int32)))]) (fun _ k => XS.imul X_5.here hx rfl (hb hby at_108) rfl k) ?_
    refine Go.to (mkF m 111 #[.val (.int p1), .val (.int p2), .val (.int (0 : Int32)), .val (.ref w4), .val (.int (4 : Int32)), .val (.int ((p2 &&& (2147483647 : Int32)) % ((4 : Int32) * (4 : Int32)))), .val (.ref b_2), .val (.int ((((p2 &&& (2147483647 : Int32)) % ((4 : Int32) * (4 : Int32))) / (4 : Int32)) + (1 : Int32))), .val (.int ((((p2 &&& (2147483647 : Int32)) % ((4 : Int32) * (4 : Int32))) % (4 : Int32)) + (1 : Int32)))] [(.int ((((p2 &&& (2147483647 : Int32)) % ((4 : Int32) * (4 : Int32))) % (4 : Int32)) + (1 : Int32))), (.int ((((((p2 &&& (2147483647 : Int32)) % ((4 : Int32) * (4 : Int32))) / (4 : Int32)) + (1 : Int32)) - (1 : Int32)) * (4 : Int32)))]) (fun _ k => XS.iload X_5.here hx rfl (hb hby at_109) rfl  k) ?_
    refine Go.to (mkF m 112 #[.val (.int p1), .val (.int p2), .val (.int (0 : Int32)), .val (.ref w4), .val (.int (4 : Int32)), .val (.int ((p2 &&& (2147483647 : Int32)) % ((4 : Int32) * (4 : Int32)))), .val (.ref b_2), .val (.int ((((p2 &&& (2147483647 : Int32)) % ((4 : Int32) * (4 : Int32))) / (4 : Int32)) + (1 : Int32))), .val (.int ((((p2 &&& (2147483647 : Int32)) % ((4 : Int32) * (4 : Int32))) % (4 : Int32)) + (1 : Int32)))] [(.int (1 : Int32)), (.int ((((p2 &&& (2147483647 : Int32)) % ((4 : Int32) * (4 : Int32))) % (4 : Int32)) + (1 : Int32))), (.int ((((((p2 &&& (2147483647 : Int32)) % ((4 : Int32) * (4 : Int32))) / (4 : Int32)) + (1 : Int32)) - (1 : Int32)) * (4 : Int32)))]) (fun _ k => XS.iconst X_5.here hx rfl (hb hby at_111) k) ?_
    refine Go.to (mkF m 113 #[.val (.int p1), .val (.int p2), .val (.int (0 : Int32)), .val (.ref w4), .val (.int (4 : Int32)), .val (.int ((p2 &&& (2147483647 : Int32)) % ((4 : Int32) * (4 : Int32)))), .val (.ref b_2), .val (.int ((((p2 &&& (2147483647 : Int32)) % ((4 : Int32) * (4 : Int32))) / (4 : Int32)) + (1 : Int32))), .val (.int ((((p2 &&& (2147483647 : Int32)) % ((4 : Int32) * (4 : Int32))) % (4 : Int32)) + (1 : Int32)))] [(.int (((((p2 &&& (2147483647 : Int32)) % ((4 : Int32) * (4 : Int32))) % (4 : Int32)) + (1 : Int32)) - (1 : Int32))), (.int ((((((p2 &&& (2147483647 : Int32)) % ((4 : Int32) * (4 : Int32))) / (4 : Int32)) + (1 : Int32)) - (1 : Int32)) * (4 : Int32)))]) (fun _ k => XS.isub X_5.here hx rfl (hb hby at_112) rfl k) ?_
    refine Go.to (mkF m 114 #[.val (.int p1), .val (.int p2), .val (.int (0 : Int32)), .val (.ref w4), .val (.int (4 : Int32)), .val (.int ((p2 &&& (2147483647 : Int32)) % ((4 : Int32) * (4 : Int32)))), .val (.ref b_2), .val (.int ((((p2 &&& (2147483647 : Int32)) % ((4 : Int32) * (4 : Int32))) / (4 : Int32)) + (1 : Int32))), .val (.int ((((p2 &&& (2147483647 : Int32)) % ((4 : Int32) * (4 : Int32))) % (4 : Int32)) + (1 : Int32)))] [(.int (((((((p2 &&& (2147483647 : Int32)) % ((4 : Int32) * (4 : Int32))) / (4 : Int32)) + (1 : Int32)) - (1 : Int32)) * (4 : Int32)) + (((((p2 &&& (2147483647 : Int32)) % ((4 : Int32) * (4 : Int32))) % (4 : Int32)) + (1 : Int32)) - (1 : Int32))))]) (fun _ k => XS.iadd X_5.here hx rfl (hb hby at_113) rfl k) ?_
    refine Go.to (mkF m 116 #[.val (.int p1), .val (.int p2), .val (.int (0 : Int32)), .val (.ref w4), .val (.int (4 : Int32)), .val (.int ((p2 &&& (2147483647 : Int32)) % ((4 : Int32) * (4 : Int32)))), .val (.ref b_2), .val (.int ((((p2 &&& (2147483647 : Int32)) % ((4 : Int32) * (4 : Int32))) / (4 : Int32)) + (1 : Int32))), .val (.int ((((p2 &&& (2147483647 : Int32)) % ((4 : Int32) * (4 : Int32))) % (4 : Int32)) + (1 : Int32)))] [(.int ((p2 &&& (2147483647 : Int32)) % ((4 : Int32) * (4 : Int32)))), (.int (((((((p2 &&& (2147483647 : Int32)) % ((4 : Int32) * (4 : Int32))) / (4 : Int32)) + (1 : Int32)) - (1 : Int32)) * (4 : Int32)) + (((((p2 &&& (2147483647 : Int32)) % ((4 : Int32) * (4 : Int32))) % (4 : Int32)) + (1 : Int32)) - (1 : Int32))))]) (fun _ k => XS.iload X_5.here hx rfl (hb hby at_114) rfl  k) ?_
    refine Go.to (mkF m 119 #[.val (.int p1), .val (.int p2), .val (.int (0 : Int32)), .val (.ref w4), .val (.int (4 : Int32)), .val (.int ((p2 &&& (2147483647 : Int32)) % ((4 : Int32) * (4 : Int32)))), .val (.ref b_2), .val (.int ((((p2 &&& (2147483647 : Int32)) % ((4 : Int32) * (4 : Int32))) / (4 : Int32)) + (1 : Int32))), .val (.int ((((p2 &&& (2147483647 : Int32)) % ((4 : Int32) * (4 : Int32))) % (4 : Int32)) + (1 : Int32)))] []) (fun _ k => XS.icmpNo X_5.here hx rfl (hb hby at_116) rfl (teq q5).2 k) ?_
    refine Go.to (mkF m 120 #[.val (.int p1), .val (.int p2), .val (.int (0 : Int32)), .val (.ref w4), .val (.int (4 : Int32)), .val (.int ((p2 &&& (2147483647 : Int32)) % ((4 : Int32) * (4 : Int32)))), .val (.ref b_2), .val (.int ((((p2 &&& (2147483647 : Int32)) % ((4 : Int32) * (4 : Int32))) / (4 : Int32)) + (1 : Int32))), .val (.int ((((p2 &&& (2147483647 : Int32)) % ((4 : Int32) * (4 : Int32))) % (4 : Int32)) + (1 : Int32)))] [(.int (1 : Int32))]) (fun _ k => XS.iconst X_5.here hx rfl (hb hby at_119) k) ?_
    refine Go.to (mkF m 124 #[.val (.int p1), .val (.int p2), .val (.int (0 : Int32)), .val (.ref w4), .val (.int (4 : Int32)), .val (.int ((p2 &&& (2147483647 : Int32)) % ((4 : Int32) * (4 : Int32)))), .val (.ref b_2), .val (.int ((((p2 &&& (2147483647 : Int32)) % ((4 : Int32) * (4 : Int32))) / (4 : Int32)) + (1 : Int32))), .val (.int ((((p2 &&& (2147483647 : Int32)) % ((4 : Int32) * (4 : Int32))) % (4 : Int32)) + (1 : Int32)))] [(.int (1 : Int32))]) (fun _ k => XS.goto X_5.here hx rfl (pc0 := 120) (pc' := 124) rfl (hb hby at_120) (by decide) (by decide) k) ?_
    refine Go.retN X_5 hx (t := .boolean) hret hlk (by simp) (hb hby at_124) (by decide) (by decide) (z' := (1 : Int32)) rfl ?_
    have f_6 : Keep h0 T_2.heap [] := ((Keep.refl h0 []).trans K_2 all0)
    show (Q0 Z p1 p2 w4 w9 h0 n0) _ T_5.heap _
    rw [hh_5]
    exact ⟨rfl, N_5, f_6⟩
  · refine Go.to (mkF m 6 #[.val (.int p1), .val (.int p2), .unset, .unset, .unset, .unset, .unset, .unset, .unset] []) (fun _ k => XS.ifNo X0.here hx rfl (hb hby at_3) rfl ((if0 _ _).trans (feq hc3).1) k) ?_
    refine Go.to (mkF m 7 #[.val (.int p1), .val (.int p2), .unset, .unset, .unset, .unset, .unset, .unset, .unset] [(.int (1 : Int32))]) (fun _ k => XS.iconst X0.here hx rfl (hb hby at_6) k) ?_
    refine Go.to (mkF m 11 #[.val (.int p1), .val (.int p2), .unset, .unset, .unset, .unset, .unset, .unset, .unset] [(.int (1 : Int32))]) (fun _ k => XS.goto X0.here hx rfl (pc0 := 7) (pc' := 11) rfl (hb hby at_7) (by decide) (by decide) k) ?_
    refine Go.to (mkF m 12 #[.val (.int p1), .val (.int p2), .val (.int (1 : Int32)), .unset, .unset, .unset, .unset, .unset, .unset] []) (fun _ k => XS.istoreN X0.here hx rfl (hb hby at_11) rfl (l' := #[.val (.int p1), .val (.int p2), .val (.int (1 : Int32)), .unset, .unset, .unset, .unset, .unset, .unset]) rfl k) ?_
    refine Go.to (mkF m 13 #[.val (.int p1), .val (.int p2), .val (.int (1 : Int32)), .unset, .unset, .unset, .unset, .unset, .unset] [(.int (1 : Int32))]) (fun _ k => XS.iloadN X0.here hx rfl (hb hby at_12) rfl  k) ?_
    refine Go.to (mkF m 16 #[.val (.int p1), .val (.int p2), .val (.int (1 : Int32)), .unset, .unset, .unset, .unset, .unset, .unset] []) (fun _ k => XS.ifNo X0.here hx rfl (hb hby at_13) rfl ((if0 _ _).trans (feq (by decide : ¬ ((1 : Int32) = (0 : Int32)))).1) k) ?_
    obtain ⟨T_7, X_7, e_7, st_7⟩ := getS2 X0 hx hZ hown (host := "") (Or.inl (hw _ (List.mem_of_getElem? (i := 39) rfl))) Via.refl e0 PS_nonet_Size_NINE (g := (mkF m 16 #[.val (.int p1), .val (.int p2), .val (.int (1 : Int32)), .unset, .unset, .unset, .unset, .unset, .unset] [])) rfl (hb hby at_16)
    refine Go.to (mkF m 19 #[.val (.int p1), .val (.int p2), .val (.int (1 : Int32)), .unset, .unset, .unset, .unset, .unset, .unset] [(.ref w9)]) st_7 ?_
    refine Go.to (mkF m 25 #[.val (.int p1), .val (.int p2), .val (.int (1 : Int32)), .unset, .unset, .unset, .unset, .unset, .unset] [(.ref w9)]) (fun _ k => XS.goto X_7.here hx rfl (pc0 := 19) (pc' := 25) rfl (hb hby at_19) (by decide) (by decide) k) ?_
    refine Go.to (mkF m 26 #[.val (.int p1), .val (.int p2), .val (.int (1 : Int32)), .val (.ref w9), .unset, .unset, .unset, .unset, .unset] []) (fun _ k => XS.astoreN X_7.here hx rfl (hb hby at_25) rfl rfl (l' := #[.val (.int p1), .val (.int p2), .val (.int (1 : Int32)), .val (.ref w9), .unset, .unset, .unset, .unset, .unset]) rfl k) ?_
    refine Go.to (mkF m 27 #[.val (.int p1), .val (.int p2), .val (.int (1 : Int32)), .val (.ref w9), .unset, .unset, .unset, .unset, .unset] [(.int (1 : Int32))]) (fun _ k => XS.iloadN X_7.here hx rfl (hb hby at_26) rfl  k) ?_
    refine Go.to (mkF m 30 #[.val (.int p1), .val (.int p2), .val (.int (1 : Int32)), .val (.ref w9), .unset, .unset, .unset, .unset, .unset] []) (fun _ k => XS.ifNo X_7.here hx rfl (hb hby at_27) rfl ((if0 _ _).trans (feq (by decide : ¬ ((1 : Int32) = (0 : Int32)))).1) k) ?_
    refine Go.to (mkF m 32 #[.val (.int p1), .val (.int p2), .val (.int (1 : Int32)), .val (.ref w9), .unset, .unset, .unset, .unset, .unset] [(.int (9 : Int32))]) (fun _ k => XS.bipush X_7.here hx rfl (hb hby at_30) k) ?_
    refine Go.to (mkF m 36 #[.val (.int p1), .val (.int p2), .val (.int (1 : Int32)), .val (.ref w9), .unset, .unset, .unset, .unset, .unset] [(.int (9 : Int32))]) (fun _ k => XS.goto X_7.here hx rfl (pc0 := 32) (pc' := 36) rfl (hb hby at_32) (by decide) (by decide) k) ?_
    refine Go.to (mkF m 38 #[.val (.int p1), .val (.int p2), .val (.int (1 : Int32)), .val (.ref w9), .val (.int (9 : Int32)), .unset, .unset, .unset, .unset] []) (fun _ k => XS.istore X_7.here hx rfl (hb hby at_36) rfl (l' := #[.val (.int p1), .val (.int p2), .val (.int (1 : Int32)), .val (.ref w9), .val (.int (9 : Int32)), .unset, .unset, .unset, .unset]) rfl k) ?_
    refine Go.to (mkF m 39 #[.val (.int p1), .val (.int p2), .val (.int (1 : Int32)), .val (.ref w9), .val (.int (9 : Int32)), .unset, .unset, .unset, .unset] [(.int p2)]) (fun _ k => XS.iloadN X_7.here hx rfl (hb hby at_38) rfl  k) ?_
    refine Go.to (mkF m 41 #[.val (.int p1), .val (.int p2), .val (.int (1 : Int32)), .val (.ref w9), .val (.int (9 : Int32)), .unset, .unset, .unset, .unset] [(.int (2147483647 : Int32)), (.int p2)]) (fun _ k => X_7.ldcInt hx hown (mvT hZ (hw _ (List.mem_of_getElem? (i := 3) rfl))) (g := (mkF m 39 #[.val (.int p1), .val (.int p2), .val (.int (1 : Int32)), .val (.ref w9), .val (.int (9 : Int32)), .unset, .unset, .unset, .unset] [(.int p2)])) rfl (hb hby at_39) _ k) ?_
    refine Go.to (mkF m 42 #[.val (.int p1), .val (.int p2), .val (.int (1 : Int32)), .val (.ref w9), .val (.int (9 : Int32)), .unset, .unset, .unset, .unset] [(.int (p2 &&& (2147483647 : Int32)))]) (fun _ k => XS.iand X_7.here hx rfl (hb hby at_41) rfl k) ?_
    refine Go.to (mkF m 44 #[.val (.int p1), .val (.int p2), .val (.int (1 : Int32)), .val (.ref w9), .val (.int (9 : Int32)), .unset, .unset, .unset, .unset] [(.int (9 : Int32)), (.int (p2 &&& (2147483647 : Int32)))]) (fun _ k => XS.iload X_7.here hx rfl (hb hby at_42) rfl  k) ?_
    refine Go.to (mkF m 46 #[.val (.int p1), .val (.int p2), .val (.int (1 : Int32)), .val (.ref w9), .val (.int (9 : Int32)), .unset, .unset, .unset, .unset] [(.int (9 : Int32)), (.int (9 : Int32)), (.int (p2 &&& (2147483647 : Int32)))]) (fun _ k => XS.iload X_7.here hx rfl (hb hby at_44) rfl  k) ?_
    refine Go.to (mkF m 47 #[.val (.int p1), .val (.int p2), .val (.int (1 : Int32)), .val (.ref w9), .val (.int (9 : Int32)), .unset, .unset, .unset, .unset] [(.int ((9 : Int32) * (9 : Int32))), (.int (p2 &&& (2147483647 : Int32)))]) (fun _ k => XS.imul X_7.here hx rfl (hb hby at_46) rfl k) ?_
    refine Go.to (mkF m 48 #[.val (.int p1), .val (.int p2), .val (.int (1 : Int32)), .val (.ref w9), .val (.int (9 : Int32)), .unset, .unset, .unset, .unset] [(.int ((p2 &&& (2147483647 : Int32)) % ((9 : Int32) * (9 : Int32))))]) (fun _ k => iremM X_7 hx rfl (hb hby at_47) rfl (by decide) k) ?_
    refine Go.to (mkF m 50 #[.val (.int p1), .val (.int p2), .val (.int (1 : Int32)), .val (.ref w9), .val (.int (9 : Int32)), .val (.int ((p2 &&& (2147483647 : Int32)) % ((9 : Int32) * (9 : Int32)))), .unset, .unset, .unset] []) (fun _ k => XS.istore X_7.here hx rfl (hb hby at_48) rfl (l' := #[.val (.int p1), .val (.int p2), .val (.int (1 : Int32)), .val (.ref w9), .val (.int (9 : Int32)), .val (.int ((p2 &&& (2147483647 : Int32)) % ((9 : Int32) * (9 : Int32)))), .unset, .unset, .unset]) rfl k) ?_
    refine Go.to (mkF m 51 #[.val (.int p1), .val (.int p2), .val (.int (1 : Int32)), .val (.ref w9), .val (.int (9 : Int32)), .val (.int ((p2 &&& (2147483647 : Int32)) % ((9 : Int32) * (9 : Int32)))), .unset, .unset, .unset] [(.ref w9)]) (fun _ k => XS.aloadN X_7.here hx rfl (hb hby at_50) rfl rfl k) ?_
    refine Go.to (mkF m 53 #[.val (.int p1), .val (.int p2), .val (.int (1 : Int32)), .val (.ref w9), .val (.int (9 : Int32)), .val (.int ((p2 &&& (2147483647 : Int32)) % ((9 : Int32) * (9 : Int32)))), .unset, .unset, .unset] [(.int ((p2 &&& (2147483647 : Int32)) % ((9 : Int32) * (9 : Int32)))), (.ref w9)]) (fun _ k => XS.iload X_7.here hx rfl (hb hby at_51) rfl  k) ?_
    obtain ⟨q1, q2, q3, q4, q5⟩ := own_nine p2 ((p2 &&& (2147483647 : Int32)) % ((9 : Int32) * (9 : Int32))) rfl
    refine Go.virt X_7 hx hZ (y := (⟨"nonet/Size", "cell", "(I)Lnonet/Cell;"⟩ : MethodName)) (z := (⟨"nonet/Size", "cell", "(I)Lnonet/Cell;"⟩ : MethodName)) hown (hw _ (List.mem_of_getElem? (i := 4) rfl)) (hw _ (List.mem_of_getElem? (i := 5) rfl)) (notFace_of_selects (args := #[]) (mvT hZ (hw _ (List.mem_of_getElem? (i := 7) rfl)))) (hw _ (List.mem_of_getElem? (i := 7) rfl)) (hw _ (List.mem_of_getElem? (i := 6) rfl)) (by decide) e_7 (a := w9) PE_w9 (argsL := [(.int ((p2 &&& (2147483647 : Int32)) % ((9 : Int32) * (9 : Int32))))]) (rest := []) (Met1.back (W := 0) (rm1 l Z a0 hw w9 ((p2 &&& (2147483647 : Int32)) % ((9 : Int32) * (9 : Int32))) (9 : Int32) h0 n0 Z0 PF_w9_side (by decide)) hZ (hw _ (List.mem_of_getElem? (i := 8) rfl)) (hw _ (List.mem_of_getElem? (i := 1) rfl)) (by decide) (by decide)) (pc := 53) (Ls := #[.val (.int p1), .val (.int p2), .val (.int (1 : Int32)), .val (.ref w9), .val (.int (9 : Int32)), .val (.int ((p2 &&& (2147483647 : Int32)) % ((9 : Int32) * (9 : Int32)))), .unset, .unset, .unset]) (by rw [hml]; rfl) (lenOf own_pd2 rfl) rfl (Nat.le_refl _) (hb hby at_53) (by decide) (by decide) ?_
    intro T_8 v_8 L_8 X_8 hQ_8
    obtain ⟨b_8, rfl, Nq_8, K_8, pf_8_0, pf_8_1, pf_8_2, sz_b_8⟩ := hQ_8
    have N_8 := Fr.app N0 Nq_8
    show Go p e below (FinN s (Q0 Z p1 p2 w4 w9 h0 n0) room_1.cells room_1.slots) T_8 (mkF m 56 #[.val (.int p1), .val (.int p2), .val (.int (1 : Int32)), .val (.ref w9), .val (.int (9 : Int32)), .val (.int ((p2 &&& (2147483647 : Int32)) % ((9 : Int32) * (9 : Int32)))), .unset, .unset, .unset] [(.ref b_8)])
    have g_b_8 : n0 ≤ b_8 := Nat.le_trans Z0 sz_b_8
    have ne_w4_b_8 : w4 ≠ b_8 := Nat.ne_of_lt (Nat.lt_of_lt_of_le PE_w4.lt sz_b_8)
    have ne_w9_b_8 : w9 ≠ b_8 := Nat.ne_of_lt (Nat.lt_of_lt_of_le PE_w9.lt sz_b_8)
    have sz_b_8 : h0.size ≤ b_8 := Nat.le_trans (Keep.refl h0 []).1 sz_b_8
    refine Go.to (mkF m 58 #[.val (.int p1), .val (.int p2), .val (.int (1 : Int32)), .val (.ref w9), .val (.int (9 : Int32)), .val (.int ((p2 &&& (2147483647 : Int32)) % ((9 : Int32) * (9 : Int32)))), .val (.ref b_8), .unset, .unset] []) (fun _ k => XS.astore X_8.here hx rfl (hb hby at_56) rfl rfl (l' := #[.val (.int p1), .val (.int p2), .val (.int (1 : Int32)), .val (.ref w9), .val (.int (9 : Int32)), .val (.int ((p2 &&& (2147483647 : Int32)) % ((9 : Int32) * (9 : Int32)))), .val (.ref b_8), .unset, .unset]) rfl k) ?_
    refine Go.to (mkF m 60 #[.val (.int p1), .val (.int p2), .val (.int (1 : Int32)), .val (.ref w9), .val (.int (9 : Int32)), .val (.int ((p2 &&& (2147483647 : Int32)) % ((9 : Int32) * (9 : Int32)))), .val (.ref b_8), .unset, .unset] [(.ref b_8)]) (fun _ k => XS.aload X_8.here hx rfl (hb hby at_58) rfl rfl k) ?_
    have f_9 : n0 ≤ T_8.heap.size := (Nat.le_trans Z0 K_8.1)
    refine Go.virt X_8 hx hZ (y := (⟨"nonet/Cell", "row", "()I"⟩ : MethodName)) (z := (⟨"nonet/Cell", "row", "()I"⟩ : MethodName)) hown (hw _ (List.mem_of_getElem? (i := 29) rfl)) (hw _ (List.mem_of_getElem? (i := 30) rfl)) (notFace_of_selects (args := #[]) (mvT hZ (hw _ (List.mem_of_getElem? (i := 32) rfl)))) (hw _ (List.mem_of_getElem? (i := 32) rfl)) (hw _ (List.mem_of_getElem? (i := 31) rfl)) (by decide) rfl (a := b_8) pf_8_0 (argsL := []) (rest := []) (Met1.back (W := 0) (rm5 l Z a0 hw b_8 ((((p2 &&& (2147483647 : Int32)) % ((9 : Int32) * (9 : Int32))) / (9 : Int32)) + (1 : Int32)) T_8.heap n0 f_9 pf_8_1) hZ (hw _ (List.mem_of_getElem? (i := 33) rfl)) (hw _ (List.mem_of_getElem? (i := 11) rfl)) (by decide) (by decide)) (pc := 60) (Ls := #[.val (.int p1), .val (.int p2), .val (.int (1 : Int32)), .val (.ref w9), .val (.int (9 : Int32)), .val (.int ((p2 &&& (2147483647 : Int32)) % ((9 : Int32) * (9 : Int32)))), .val (.ref b_8), .unset, .unset]) (by rw [hml]; rfl) (lenOf own_pd3 rfl) rfl (Nat.le_refl _) (hb hby at_60) (by decide) (by decide) ?_
    intro T_10 v_10 L_10 X_10 hQ_10
    obtain ⟨rfl, Nq_10, hh_10⟩ := hQ_10
    have N_10 := Fr.app N_8 Nq_10
    show Go p e below (FinN s (Q0 Z p1 p2 w4 w9 h0 n0) room_1.cells room_1.slots) T_10 (mkF m 63 #[.val (.int p1), .val (.int p2), .val (.int (1 : Int32)), .val (.ref w9), .val (.int (9 : Int32)), .val (.int ((p2 &&& (2147483647 : Int32)) % ((9 : Int32) * (9 : Int32)))), .val (.ref b_8), .unset, .unset] [(.int ((((p2 &&& (2147483647 : Int32)) % ((9 : Int32) * (9 : Int32))) / (9 : Int32)) + (1 : Int32)))])
    refine Go.to (mkF m 65 #[.val (.int p1), .val (.int p2), .val (.int (1 : Int32)), .val (.ref w9), .val (.int (9 : Int32)), .val (.int ((p2 &&& (2147483647 : Int32)) % ((9 : Int32) * (9 : Int32)))), .val (.ref b_8), .val (.int ((((p2 &&& (2147483647 : Int32)) % ((9 : Int32) * (9 : Int32))) / (9 : Int32)) + (1 : Int32))), .unset] []) (fun _ k => XS.istore X_10.here hx rfl (hb hby at_63) rfl (l' := #[.val (.int p1), .val (.int p2), .val (.int (1 : Int32)), .val (.ref w9), .val (.int (9 : Int32)), .val (.int ((p2 &&& (2147483647 : Int32)) % ((9 : Int32) * (9 : Int32)))), .val (.ref b_8), .val (.int ((((p2 &&& (2147483647 : Int32)) % ((9 : Int32) * (9 : Int32))) / (9 : Int32)) + (1 : Int32))), .unset]) rfl k) ?_
    refine Go.to (mkF m 67 #[.val (.int p1), .val (.int p2), .val (.int (1 : Int32)), .val (.ref w9), .val (.int (9 : Int32)), .val (.int ((p2 &&& (2147483647 : Int32)) % ((9 : Int32) * (9 : Int32)))), .val (.ref b_8), .val (.int ((((p2 &&& (2147483647 : Int32)) % ((9 : Int32) * (9 : Int32))) / (9 : Int32)) + (1 : Int32))), .unset] [(.ref b_8)]) (fun _ k => XS.aload X_10.here hx rfl (hb hby at_65) rfl rfl k) ?_
    refine Go.virt X_10 hx hZ (y := (⟨"nonet/Cell", "column", "()I"⟩ : MethodName)) (z := (⟨"nonet/Cell", "column", "()I"⟩ : MethodName)) hown (hw _ (List.mem_of_getElem? (i := 34) rfl)) (hw _ (List.mem_of_getElem? (i := 35) rfl)) (notFace_of_selects (args := #[]) (mvT hZ (hw _ (List.mem_of_getElem? (i := 37) rfl)))) (hw _ (List.mem_of_getElem? (i := 37) rfl)) (hw _ (List.mem_of_getElem? (i := 36) rfl)) (by decide) hh_10 (a := b_8) pf_8_0 (argsL := []) (rest := []) (Met1.back (W := 0) (rm6 l Z a0 hw b_8 ((((p2 &&& (2147483647 : Int32)) % ((9 : Int32) * (9 : Int32))) % (9 : Int32)) + (1 : Int32)) T_8.heap n0 f_9 pf_8_2) hZ (hw _ (List.mem_of_getElem? (i := 38) rfl)) (hw _ (List.mem_of_getElem? (i := 11) rfl)) (by decide) (by decide)) (pc := 67) (Ls := #[.val (.int p1), .val (.int p2), .val (.int (1 : Int32)), .val (.ref w9), .val (.int (9 : Int32)), .val (.int ((p2 &&& (2147483647 : Int32)) % ((9 : Int32) * (9 : Int32)))), .val (.ref b_8), .val (.int ((((p2 &&& (2147483647 : Int32)) % ((9 : Int32) * (9 : Int32))) / (9 : Int32)) + (1 : Int32))), .unset]) (by rw [hml]; rfl) (lenOf own_pd3 rfl) rfl (Nat.le_refl _) (hb hby at_67) (by decide) (by decide) ?_
    intro T_11 v_11 L_11 X_11 hQ_11
    obtain ⟨rfl, Nq_11, hh_11⟩ := hQ_11
    have N_11 := Fr.app N_10 Nq_11
    show Go p e below (FinN s (Q0 Z p1 p2 w4 w9 h0 n0) room_1.cells room_1.slots) T_11 (mkF m 70 #[.val (.int p1), .val (.int p2), .val (.int (1 : Int32)), .val (.ref w9), .val (.int (9 : Int32)), .val (.int ((p2 &&& (2147483647 : Int32)) % ((9 : Int32) * (9 : Int32)))), .val (.ref b_8), .val (.int ((((p2 &&& (2147483647 : Int32)) % ((9 : Int32) * (9 : Int32))) / (9 : Int32)) + (1 : Int32))), .unset] [(.int ((((p2 &&& (2147483647 : Int32)) % ((9 : Int32) * (9 : Int32))) % (9 : Int32)) + (1 : Int32)))])
    refine Go.to (mkF m 72 #[.val (.int p1), .val (.int p2), .val (.int (1 : Int32)), .val (.ref w9), .val (.int (9 : Int32)), .val (.int ((p2 &&& (2147483647 : Int32)) % ((9 : Int32) * (9 : Int32)))), .val (.ref b_8), .val (.int ((((p2 &&& (2147483647 : Int32)) % ((9 : Int32) * (9 : Int32))) / (9 : Int32)) + (1 : Int32))), .val (.int ((((p2 &&& (2147483647 : Int32)) % ((9 : Int32) * (9 : Int32))) % (9 : Int32)) + (1 : Int32)))] []) (fun _ k => XS.istore X_11.here hx rfl (hb hby at_70) rfl (l' := #[.val (.int p1), .val (.int p2), .val (.int (1 : Int32)), .val (.ref w9), .val (.int (9 : Int32)), .val (.int ((p2 &&& (2147483647 : Int32)) % ((9 : Int32) * (9 : Int32)))), .val (.ref b_8), .val (.int ((((p2 &&& (2147483647 : Int32)) % ((9 : Int32) * (9 : Int32))) / (9 : Int32)) + (1 : Int32))), .val (.int ((((p2 &&& (2147483647 : Int32)) % ((9 : Int32) * (9 : Int32))) % (9 : Int32)) + (1 : Int32)))]) rfl k) ?_
    refine Go.to (mkF m 74 #[.val (.int p1), .val (.int p2), .val (.int (1 : Int32)), .val (.ref w9), .val (.int (9 : Int32)), .val (.int ((p2 &&& (2147483647 : Int32)) % ((9 : Int32) * (9 : Int32)))), .val (.ref b_8), .val (.int ((((p2 &&& (2147483647 : Int32)) % ((9 : Int32) * (9 : Int32))) / (9 : Int32)) + (1 : Int32))), .val (.int ((((p2 &&& (2147483647 : Int32)) % ((9 : Int32) * (9 : Int32))) % (9 : Int32)) + (1 : Int32)))] [(.int ((((p2 &&& (2147483647 : Int32)) % ((9 : Int32) * (9 : Int32))) / (9 : Int32)) + (1 : Int32)))]) (fun _ k => XS.iload X_11.here hx rfl (hb hby at_72) rfl  k) ?_
    refine Go.to (mkF m 75 #[.val (.int p1), .val (.int p2), .val (.int (1 : Int32)), .val (.ref w9), .val (.int (9 : Int32)), .val (.int ((p2 &&& (2147483647 : Int32)) % ((9 : Int32) * (9 : Int32)))), .val (.ref b_8), .val (.int ((((p2 &&& (2147483647 : Int32)) % ((9 : Int32) * (9 : Int32))) / (9 : Int32)) + (1 : Int32))), .val (.int ((((p2 &&& (2147483647 : Int32)) % ((9 : Int32) * (9 : Int32))) % (9 : Int32)) + (1 : Int32)))] [(.int (1 : Int32)), (.int ((((p2 &&& (2147483647 : Int32)) % ((9 : Int32) * (9 : Int32))) / (9 : Int32)) + (1 : Int32)))]) (fun _ k => XS.iconst X_11.here hx rfl (hb hby at_74) k) ?_
    refine Go.to (mkF m 78 #[.val (.int p1), .val (.int p2), .val (.int (1 : Int32)), .val (.ref w9), .val (.int (9 : Int32)), .val (.int ((p2 &&& (2147483647 : Int32)) % ((9 : Int32) * (9 : Int32)))), .val (.ref b_8), .val (.int ((((p2 &&& (2147483647 : Int32)) % ((9 : Int32) * (9 : Int32))) / (9 : Int32)) + (1 : Int32))), .val (.int ((((p2 &&& (2147483647 : Int32)) % ((9 : Int32) * (9 : Int32))) % (9 : Int32)) + (1 : Int32)))] []) (fun _ k => XS.icmpNo X_11.here hx rfl (hb hby at_75) rfl (flt q1).1 k) ?_
    refine Go.to (mkF m 80 #[.val (.int p1), .val (.int p2), .val (.int (1 : Int32)), .val (.ref w9), .val (.int (9 : Int32)), .val (.int ((p2 &&& (2147483647 : Int32)) % ((9 : Int32) * (9 : Int32)))), .val (.ref b_8), .val (.int ((((p2 &&& (2147483647 : Int32)) % ((9 : Int32) * (9 : Int32))) / (9 : Int32)) + (1 : Int32))), .val (.int ((((p2 &&& (2147483647 : Int32)) % ((9 : Int32) * (9 : Int32))) % (9 : Int32)) + (1 : Int32)))] [(.int ((((p2 &&& (2147483647 : Int32)) % ((9 : Int32) * (9 : Int32))) / (9 : Int32)) + (1 : Int32)))]) (fun _ k => XS.iload X_11.here hx rfl (hb hby at_78) rfl  k) ?_
    refine Go.to (mkF m 82 #[.val (.int p1), .val (.int p2), .val (.int (1 : Int32)), .val (.ref w9), .val (.int (9 : Int32)), .val (.int ((p2 &&& (2147483647 : Int32)) % ((9 : Int32) * (9 : Int32)))), .val (.ref b_8), .val (.int ((((p2 &&& (2147483647 : Int32)) % ((9 : Int32) * (9 : Int32))) / (9 : Int32)) + (1 : Int32))), .val (.int ((((p2 &&& (2147483647 : Int32)) % ((9 : Int32) * (9 : Int32))) % (9 : Int32)) + (1 : Int32)))] [(.int (9 : Int32)), (.int ((((p2 &&& (2147483647 : Int32)) % ((9 : Int32) * (9 : Int32))) / (9 : Int32)) + (1 : Int32)))]) (fun _ k => XS.iload X_11.here hx rfl (hb hby at_80) rfl  k) ?_
    refine Go.to (mkF m 87 #[.val (.int p1), .val (.int p2), .val (.int (1 : Int32)), .val (.ref w9), .val (.int (9 : Int32)), .val (.int ((p2 &&& (2147483647 : Int32)) % ((9 : Int32) * (9 : Int32)))), .val (.ref b_8), .val (.int ((((p2 &&& (2147483647 : Int32)) % ((9 : Int32) * (9 : Int32))) / (9 : Int32)) + (1 : Int32))), .val (.int ((((p2 &&& (2147483647 : Int32)) % ((9 : Int32) * (9 : Int32))) % (9 : Int32)) + (1 : Int32)))] []) (fun _ k => XS.icmpYes X_11.here hx rfl (pc0 := 82) (pc' := 87) rfl (hb hby at_82) rfl (flt q2).2.2.2 (by decide) (by decide) k) ?_
    refine Go.to (mkF m 89 #[.val (.int p1), .val (.int p2), .val (.int (1 : Int32)), .val (.ref w9), .val (.int (9 : Int32)), .val (.int ((p2 &&& (2147483647 : Int32)) % ((9 : Int32) * (9 : Int32)))), .val (.ref b_8), .val (.int ((((p2 &&& (2147483647 : Int32)) % ((9 : Int32) * (9 : Int32))) / (9 : Int32)) + (1 : Int32))), .val (.int ((((p2 &&& (2147483647 : Int32)) % ((9 : Int32) * (9 : Int32))) % (9 : Int32)) + (1 : Int32)))] [(.int ((((p2 &&& (2147483647 : Int32)) % ((9 : Int32) * (9 : Int32))) % (9 : Int32)) + (1 : Int32)))]) (fun _ k => XS.iload X_11.here hx rfl (hb hby at_87) rfl  k) ?_
    refine Go.to (mkF m 90 #[.val (.int p1), .val (.int p2), .val (.int (1 : Int32)), .val (.ref w9), .val (.int (9 : Int32)), .val (.int ((p2 &&& (2147483647 : Int32)) % ((9 : Int32) * (9 : Int32)))), .val (.ref b_8), .val (.int ((((p2 &&& (2147483647 : Int32)) % ((9 : Int32) * (9 : Int32))) / (9 : Int32)) + (1 : Int32))), .val (.int ((((p2 &&& (2147483647 : Int32)) % ((9 : Int32) * (9 : Int32))) % (9 : Int32)) + (1 : Int32)))] [(.int (1 : Int32)), (.int ((((p2 &&& (2147483647 : Int32)) % ((9 : Int32) * (9 : Int32))) % (9 : Int32)) + (1 : Int32)))]) (fun _ k => XS.iconst X_11.here hx rfl (hb hby at_89) k) ?_
    refine Go.to (mkF m 93 #[.val (.int p1), .val (.int p2), .val (.int (1 : Int32)), .val (.ref w9), .val (.int (9 : Int32)), .val (.int ((p2 &&& (2147483647 : Int32)) % ((9 : Int32) * (9 : Int32)))), .val (.ref b_8), .val (.int ((((p2 &&& (2147483647 : Int32)) % ((9 : Int32) * (9 : Int32))) / (9 : Int32)) + (1 : Int32))), .val (.int ((((p2 &&& (2147483647 : Int32)) % ((9 : Int32) * (9 : Int32))) % (9 : Int32)) + (1 : Int32)))] []) (fun _ k => XS.icmpNo X_11.here hx rfl (hb hby at_90) rfl (flt q3).1 k) ?_
    refine Go.to (mkF m 95 #[.val (.int p1), .val (.int p2), .val (.int (1 : Int32)), .val (.ref w9), .val (.int (9 : Int32)), .val (.int ((p2 &&& (2147483647 : Int32)) % ((9 : Int32) * (9 : Int32)))), .val (.ref b_8), .val (.int ((((p2 &&& (2147483647 : Int32)) % ((9 : Int32) * (9 : Int32))) / (9 : Int32)) + (1 : Int32))), .val (.int ((((p2 &&& (2147483647 : Int32)) % ((9 : Int32) * (9 : Int32))) % (9 : Int32)) + (1 : Int32)))] [(.int ((((p2 &&& (2147483647 : Int32)) % ((9 : Int32) * (9 : Int32))) % (9 : Int32)) + (1 : Int32)))]) (fun _ k => XS.iload X_11.here hx rfl (hb hby at_93) rfl  k) ?_
    refine Go.to (mkF m 97 #[.val (.int p1), .val (.int p2), .val (.int (1 : Int32)), .val (.ref w9), .val (.int (9 : Int32)), .val (.int ((p2 &&& (2147483647 : Int32)) % ((9 : Int32) * (9 : Int32)))), .val (.ref b_8), .val (.int ((((p2 &&& (2147483647 : Int32)) % ((9 : Int32) * (9 : Int32))) / (9 : Int32)) + (1 : Int32))), .val (.int ((((p2 &&& (2147483647 : Int32)) % ((9 : Int32) * (9 : Int32))) % (9 : Int32)) + (1 : Int32)))] [(.int (9 : Int32)), (.int ((((p2 &&& (2147483647 : Int32)) % ((9 : Int32) * (9 : Int32))) % (9 : Int32)) + (1 : Int32)))]) (fun _ k => XS.iload X_11.here hx rfl (hb hby at_95) rfl  k) ?_
    refine Go.to (mkF m 102 #[.val (.int p1), .val (.int p2), .val (.int (1 : Int32)), .val (.ref w9), .val (.int (9 : Int32)), .val (.int ((p2 &&& (2147483647 : Int32)) % ((9 : Int32) * (9 : Int32)))), .val (.ref b_8), .val (.int ((((p2 &&& (2147483647 : Int32)) % ((9 : Int32) * (9 : Int32))) / (9 : Int32)) + (1 : Int32))), .val (.int ((((p2 &&& (2147483647 : Int32)) % ((9 : Int32) * (9 : Int32))) % (9 : Int32)) + (1 : Int32)))] []) (fun _ k => XS.icmpYes X_11.here hx rfl (pc0 := 97) (pc' := 102) rfl (hb hby at_97) rfl (flt q4).2.2.2 (by decide) (by decide) k) ?_
    refine Go.to (mkF m 104 #[.val (.int p1), .val (.int p2), .val (.int (1 : Int32)), .val (.ref w9), .val (.int (9 : Int32)), .val (.int ((p2 &&& (2147483647 : Int32)) % ((9 : Int32) * (9 : Int32)))), .val (.ref b_8), .val (.int ((((p2 &&& (2147483647 : Int32)) % ((9 : Int32) * (9 : Int32))) / (9 : Int32)) + (1 : Int32))), .val (.int ((((p2 &&& (2147483647 : Int32)) % ((9 : Int32) * (9 : Int32))) % (9 : Int32)) + (1 : Int32)))] [(.int ((((p2 &&& (2147483647 : Int32)) % ((9 : Int32) * (9 : Int32))) / (9 : Int32)) + (1 : Int32)))]) (fun _ k => XS.iload X_11.here hx rfl (hb hby at_102) rfl  k) ?_
    refine Go.to (mkF m 105 #[.val (.int p1), .val (.int p2), .val (.int (1 : Int32)), .val (.ref w9), .val (.int (9 : Int32)), .val (.int ((p2 &&& (2147483647 : Int32)) % ((9 : Int32) * (9 : Int32)))), .val (.ref b_8), .val (.int ((((p2 &&& (2147483647 : Int32)) % ((9 : Int32) * (9 : Int32))) / (9 : Int32)) + (1 : Int32))), .val (.int ((((p2 &&& (2147483647 : Int32)) % ((9 : Int32) * (9 : Int32))) % (9 : Int32)) + (1 : Int32)))] [(.int (1 : Int32)), (.int ((((p2 &&& (2147483647 : Int32)) % ((9 : Int32) * (9 : Int32))) / (9 : Int32)) + (1 : Int32)))]) (fun _ k => XS.iconst X_11.here hx rfl (hb hby at_104) k) ?_
    refine Go.to (mkF m 106 #[.val (.int p1), .val (.int p2), .val (.int (1 : Int32)), .val (.ref w9), .val (.int (9 : Int32)), .val (.int ((p2 &&& (2147483647 : Int32)) % ((9 : Int32) * (9 : Int32)))), .val (.ref b_8), .val (.int ((((p2 &&& (2147483647 : Int32)) % ((9 : Int32) * (9 : Int32))) / (9 : Int32)) + (1 : Int32))), .val (.int ((((p2 &&& (2147483647 : Int32)) % ((9 : Int32) * (9 : Int32))) % (9 : Int32)) + (1 : Int32)))] [(.int (((((p2 &&& (2147483647 : Int32)) % ((9 : Int32) * (9 : Int32))) / (9 : Int32)) + (1 : Int32)) - (1 : Int32)))]) (fun _ k => XS.isub X_11.here hx rfl (hb hby at_105) rfl k) ?_
    refine Go.to (mkF m 108 #[.val (.int p1), .val (.int p2), .val (.int (1 : Int32)), .val (.ref w9), .val (.int (9 : Int32)), .val (.int ((p2 &&& (2147483647 : Int32)) % ((9 : Int32) * (9 : Int32)))), .val (.ref b_8), .val (.int ((((p2 &&& (2147483647 : Int32)) % ((9 : Int32) * (9 : Int32))) / (9 : Int32)) + (1 : Int32))), .val (.int ((((p2 &&& (2147483647 : Int32)) % ((9 : Int32) * (9 : Int32))) % (9 : Int32)) + (1 : Int32)))] [(.int (9 : Int32)), (.int (((((p2 &&& (2147483647 : Int32)) % ((9 : Int32) * (9 : Int32))) / (9 : Int32)) + (1 : Int32)) - (1 : Int32)))]) (fun _ k => XS.iload X_11.here hx rfl (hb hby at_106) rfl  k) ?_
    refine Go.to (mkF m 109 #[.val (.int p1), .val (.int p2), .val (.int (1 : Int32)), .val (.ref w9), .val (.int (9 : Int32)), .val (.int ((p2 &&& (2147483647 : Int32)) % ((9 : Int32) * (9 : Int32)))), .val (.ref b_8), .val (.int ((((p2 &&& (2147483647 : Int32)) % ((9 : Int32) * (9 : Int32))) / (9 : Int32)) + (1 : Int32))), .val (.int ((((p2 &&& (2147483647 : Int32)) % ((9 : Int32) * (9 : Int32))) % (9 : Int32)) + (1 : Int32)))] [(.int ((((((p2 &&& (2147483647 : Int32)) % ((9 : Int32) * (9 : Int32))) / (9 : Int32)) + (1 : Int32)) - (1 : Int32)) * (9 : Int32)))]) (fun _ k => XS.imul X_11.here hx rfl (hb hby at_108) rfl k) ?_
    refine Go.to (mkF m 111 #[.val (.int p1), .val (.int p2), .val (.int (1 : Int32)), .val (.ref w9), .val (.int (9 : Int32)), .val (.int ((p2 &&& (2147483647 : Int32)) % ((9 : Int32) * (9 : Int32)))), .val (.ref b_8), .val (.int ((((p2 &&& (2147483647 : Int32)) % ((9 : Int32) * (9 : Int32))) / (9 : Int32)) + (1 : Int32))), .val (.int ((((p2 &&& (2147483647 : Int32)) % ((9 : Int32) * (9 : Int32))) % (9 : Int32)) + (1 : Int32)))] [(.int ((((p2 &&& (2147483647 : Int32)) % ((9 : Int32) * (9 : Int32))) % (9 : Int32)) + (1 : Int32))), (.int ((((((p2 &&& (2147483647 : Int32)) % ((9 : Int32) * (9 : Int32))) / (9 : Int32)) + (1 : Int32)) - (1 : Int32)) * (9 : Int32)))]) (fun _ k => XS.iload X_11.here hx rfl (hb hby at_109) rfl  k) ?_
    refine Go.to (mkF m 112 #[.val (.int p1), .val (.int p2), .val (.int (1 : Int32)), .val (.ref w9), .val (.int (9 : Int32)), .val (.int ((p2 &&& (2147483647 : Int32)) % ((9 : Int32) * (9 : Int32)))), .val (.ref b_8), .val (.int ((((p2 &&& (2147483647 : Int32)) % ((9 : Int32) * (9 : Int32))) / (9 : Int32)) + (1 : Int32))), .val (.int ((((p2 &&& (2147483647 : Int32)) % ((9 : Int32) * (9 : Int32))) % (9 : Int32)) + (1 : Int32)))] [(.int (1 : Int32)), (.int ((((p2 &&& (2147483647 : Int32)) % ((9 : Int32) * (9 : Int32))) % (9 : Int32)) + (1 : Int32))), (.int ((((((p2 &&& (2147483647 : Int32)) % ((9 : Int32) * (9 : Int32))) / (9 : Int32)) + (1 : Int32)) - (1 : Int32)) * (9 : Int32)))]) (fun _ k => XS.iconst X_11.here hx rfl (hb hby at_111) k) ?_
    refine Go.to (mkF m 113 #[.val (.int p1), .val (.int p2), .val (.int (1 : Int32)), .val (.ref w9), .val (.int (9 : Int32)), .val (.int ((p2 &&& (2147483647 : Int32)) % ((9 : Int32) * (9 : Int32)))), .val (.ref b_8), .val (.int ((((p2 &&& (2147483647 : Int32)) % ((9 : Int32) * (9 : Int32))) / (9 : Int32)) + (1 : Int32))), .val (.int ((((p2 &&& (2147483647 : Int32)) % ((9 : Int32) * (9 : Int32))) % (9 : Int32)) + (1 : Int32)))] [(.int (((((p2 &&& (2147483647 : Int32)) % ((9 : Int32) * (9 : Int32))) % (9 : Int32)) + (1 : Int32)) - (1 : Int32))), (.int ((((((p2 &&& (2147483647 : Int32)) % ((9 : Int32) * (9 : Int32))) / (9 : Int32)) + (1 : Int32)) - (1 : Int32)) * (9 : Int32)))]) (fun _ k => XS.isub X_11.here hx rfl (hb hby at_112) rfl k) ?_
    refine Go.to (mkF m 114 #[.val (.int p1), .val (.int p2), .val (.int (1 : Int32)), .val (.ref w9), .val (.int (9 : Int32)), .val (.int ((p2 &&& (2147483647 : Int32)) % ((9 : Int32) * (9 : Int32)))), .val (.ref b_8), .val (.int ((((p2 &&& (2147483647 : Int32)) % ((9 : Int32) * (9 : Int32))) / (9 : Int32)) + (1 : Int32))), .val (.int ((((p2 &&& (2147483647 : Int32)) % ((9 : Int32) * (9 : Int32))) % (9 : Int32)) + (1 : Int32)))] [(.int (((((((p2 &&& (2147483647 : Int32)) % ((9 : Int32) * (9 : Int32))) / (9 : Int32)) + (1 : Int32)) - (1 : Int32)) * (9 : Int32)) + (((((p2 &&& (2147483647 : Int32)) % ((9 : Int32) * (9 : Int32))) % (9 : Int32)) + (1 : Int32)) - (1 : Int32))))]) (fun _ k => XS.iadd X_11.here hx rfl (hb hby at_113) rfl k) ?_
    refine Go.to (mkF m 116 #[.val (.int p1), .val (.int p2), .val (.int (1 : Int32)), .val (.ref w9), .val (.int (9 : Int32)), .val (.int ((p2 &&& (2147483647 : Int32)) % ((9 : Int32) * (9 : Int32)))), .val (.ref b_8), .val (.int ((((p2 &&& (2147483647 : Int32)) % ((9 : Int32) * (9 : Int32))) / (9 : Int32)) + (1 : Int32))), .val (.int ((((p2 &&& (2147483647 : Int32)) % ((9 : Int32) * (9 : Int32))) % (9 : Int32)) + (1 : Int32)))] [(.int ((p2 &&& (2147483647 : Int32)) % ((9 : Int32) * (9 : Int32)))), (.int (((((((p2 &&& (2147483647 : Int32)) % ((9 : Int32) * (9 : Int32))) / (9 : Int32)) + (1 : Int32)) - (1 : Int32)) * (9 : Int32)) + (((((p2 &&& (2147483647 : Int32)) % ((9 : Int32) * (9 : Int32))) % (9 : Int32)) + (1 : Int32)) - (1 : Int32))))]) (fun _ k => XS.iload X_11.here hx rfl (hb hby at_114) rfl  k) ?_
    refine Go.to (mkF m 119 #[.val (.int p1), .val (.int p2), .val (.int (1 : Int32)), .val (.ref w9), .val (.int (9 : Int32)), .val (.int ((p2 &&& (2147483647 : Int32)) % ((9 : Int32) * (9 : Int32)))), .val (.ref b_8), .val (.int ((((p2 &&& (2147483647 : Int32)) % ((9 : Int32) * (9 : Int32))) / (9 : Int32)) + (1 : Int32))), .val (.int ((((p2 &&& (2147483647 : Int32)) % ((9 : Int32) * (9 : Int32))) % (9 : Int32)) + (1 : Int32)))] []) (fun _ k => XS.icmpNo X_11.here hx rfl (hb hby at_116) rfl (teq q5).2 k) ?_
    refine Go.to (mkF m 120 #[.val (.int p1), .val (.int p2), .val (.int (1 : Int32)), .val (.ref w9), .val (.int (9 : Int32)), .val (.int ((p2 &&& (2147483647 : Int32)) % ((9 : Int32) * (9 : Int32)))), .val (.ref b_8), .val (.int ((((p2 &&& (2147483647 : Int32)) % ((9 : Int32) * (9 : Int32))) / (9 : Int32)) + (1 : Int32))), .val (.int ((((p2 &&& (2147483647 : Int32)) % ((9 : Int32) * (9 : Int32))) % (9 : Int32)) + (1 : Int32)))] [(.int (1 : Int32))]) (fun _ k => XS.iconst X_11.here hx rfl (hb hby at_119) k) ?_
    refine Go.to (mkF m 124 #[.val (.int p1), .val (.int p2), .val (.int (1 : Int32)), .val (.ref w9), .val (.int (9 : Int32)), .val (.int ((p2 &&& (2147483647 : Int32)) % ((9 : Int32) * (9 : Int32)))), .val (.ref b_8), .val (.int ((((p2 &&& (2147483647 : Int32)) % ((9 : Int32) * (9 : Int32))) / (9 : Int32)) + (1 : Int32))), .val (.int ((((p2 &&& (2147483647 : Int32)) % ((9 : Int32) * (9 : Int32))) % (9 : Int32)) + (1 : Int32)))] [(.int (1 : Int32))]) (fun _ k => XS.goto X_11.here hx rfl (pc0 := 120) (pc' := 124) rfl (hb hby at_120) (by decide) (by decide) k) ?_
    refine Go.retN X_11 hx (t := .boolean) hret hlk (by simp) (hb hby at_124) (by decide) (by decide) (z' := (1 : Int32)) rfl ?_
    have f_12 : Keep h0 T_8.heap [] := ((Keep.refl h0 []).trans K_8 all0)
    show (Q0 Z p1 p2 w4 w9 h0 n0) _ T_11.heap _
    rw [hh_11]
    exact ⟨rfl, N_11, f_12⟩
set_option maxRecDepth 65536 in
set_option maxHeartbeats 40000000 in
theorem comes_1 {Post : Tables → Env → Array Value → State → Outcome → State → Prop} (hpost : ∀ tb e args s v u, (limb_1_1.after args s (.returned v) u = true ∧ limb_1_2.after args s (.returned v) u = true ∧ True) → FrameEnd s (.returned v) u (Jvm.fieldLocs frame_1_writes args s ++ Jvm.arrayLocs frame_1_arrays args s ++ Jvm.staticLocs frame_1_statics s) 16 128 → Post tb e args s (.returned v) u) :
    ArmFor flags0 classFile x code maxLocals ret World_1 tables_1 room_1 Calls_1 rest_1 Pre_1 Post := by
  intro l hfl _ _ p e ha hc hk s m args below hf hA hF happ hP
  obtain ⟨hcalls, hrest, hpre⟩ := hP
  obtain ⟨-, -, -, hnamed, -, -, -, hat⟩ := (Spec.applies_iff hf).mp happ
  obtain ⟨hg, hn⟩ := and_e (Cond.before_iff.mp (show (Jvm.Cond.and given_1 narrow_1).before args s = true from hpre))
  obtain ⟨gc, ga0⟩ := and_e hg
  obtain ⟨gv0, ga1⟩ := and_e ga0
  have gv1 := ga1
  obtain ⟨w0, w1, rfl⟩ : ∃ w0 w1 : Value, args = #[w0, w1] := by
    have hs : args.size = 2 := by simpa [Cond.value, given_1] using gc
    obtain ⟨L⟩ := args
    match L, hs with
    | [w0, w1], _ => exact ⟨w0, w1, rfl⟩
  have hw := fun d (hd : d ∈ tables_1) => atoms_spec (ws := Jvm.Cond.code x code maxLocals ret :: tables_1) hat d (List.mem_cons_of_mem _ hd)
  have hfit : Fit s := fun {y c} hc i hi => by
    obtain ⟨ha, rfl⟩ := Array.getElem?_eq_some_iff.mp hc
    have q := List.all_eq_true.mp ((Array.all_eq_true_iff_forall_mem.mp hF) _ (Array.getElem_mem ha)) i (List.mem_range.mpr hi)
    simpa [Array.getElem?_eq_getElem hi] using q
  obtain ⟨i0, ei0⟩ := is_v gv0
  obtain rfl : w0 = (.int i0) := Option.some.inj ei0
  obtain ⟨i1, ei1⟩ := is_v gv1
  obtain rfl : w1 = (.int i1) := Option.some.inj ei1
  obtain ⟨n1, n2⟩ := and_e hn
  obtain ⟨n2, n3⟩ := and_e n2
  obtain ⟨n3, n4⟩ := and_e n3
  obtain ⟨w4, e4, E4⟩ := own_exa_at n1
  obtain ⟨w9, e9, E9⟩ := own_exa_at n3
  have F4 := own_field_at e4 (own_eq_int n2)
  have F9 := own_field_at e9 (own_eq_int n4)
  have S4 := Sta.start e4 (Or.inr ⟨(hw _ (List.mem_of_getElem? (i := 1) rfl)), (hw _ (List.mem_of_getElem? (i := 2) rfl))⟩)
  have S9 := Sta.start e9 (Or.inr ⟨(hw _ (List.mem_of_getElem? (i := 1) rfl)), (hw _ (List.mem_of_getElem? (i := 40) rfl))⟩)
  obtain ⟨n, o, h1, h2, h3, _, L, rfl, ⟨rfl, N, -⟩, hq⟩ := rm0 l s _ hw i0 i1 w4 w9 s.heap s.heap.size (Nat.le_refl _) S4 S9 E4 E9 F4 F9 tables_1 p e ha hc hk s m _ below hf ((Spec.applies_iff_loose hf).mp happ).1 ⟨rfl, State.Warmed39.refl s, rfl⟩ trivial
  refine ⟨n, _, h1, h2, h3, hpost _ _ _ _ _ _ ⟨Cond.after_iff.mpr rfl, Cond.after_iff.mpr (eq_i res_at (Term.int_eval (1)) rfl), trivial⟩ ⟨hq.1, hq.2.1, (hq.2.2.sift fun y hy => Or.inr (N y hy)).mono (by decide) (by decide)⟩⟩
theorem main_1_1 : Claimed_1_1 := comes_1 fun _ _ _ _ _ _ h hF => ⟨h.1, hF⟩
theorem main_1_2 : Claimed_1_2 := comes_1 fun _ _ _ _ _ _ h hF => ⟨h.2.1, hF⟩
end Jvm.Pilot.@@N@@
namespace Jvm.Pilot.@@N@@
open Jvm Jvm.ClassFile Sem Op Lib Jvm.Free Jvm.Stand Jvm.Pilot.@@N@@.Jvm.D
/-! MADE BY PROGRAM (witnessworld.py) out of the Statement's table words and the real class files: 14 classes; the members and pool entries that the words name. The judged class is class 1, her method 1. -/
namespace start1
open Jvm.ClassFile
def u (s : String) : CpInfo := .utf8 (stringToUtf16 s)
/-- a pool by its gaps: so many unusable entries, then the entry; so many at the end -/
def gap : Nat → List CpInfo → List CpInfo
  | 0, r => r
  | n + 1, r => .unusable :: gap n r
def poolList (es : List (Nat × CpInfo)) (last : Nat) : List CpInfo := es.foldr (fun e r => gap e.1 (e.2 :: r)) (gap last [])
def pool (es : List (Nat × CpInfo)) (last : Nat) : Array CpInfo := ⟨poolList es last⟩
def fileOf (pool : Array CpInfo) (this : Nat) (attrs : Array Attribute := #[]) (ms : Array MethodInfo := #[]) (fl : Nat := 33) (sup : Nat := 0) (ifs : Array Nat := #[]) (fds : Array FieldInfo := #[]) : ClassFile where
  minorVersion := 0
  majorVersion := 65
  constantPool := pool
  accessFlags := fl
  thisClass := this
  superClass := sup
  interfaces := ifs
  fields := fds
  methods := ms
  attributes := attrs
def plain (name : String) (sup : Option ClassId) : Class where
  name := name
  kind := .ordinary
  loader := none
  accessFlags := 33
  super := sup
  interfaces := #[]
  cf := none
  fields := #[]
  methods := #[]
  instanceTypes := #[]
  staticTypes := #[]
  resolved := #[]
  callSites := []
  init := .initialized
  statics := none
  mirror := none

def pool0 : Array CpInfo := pool [(5, u "<init>"), (0, u "()V"), (1, .class_ 10), (1, u "java/lang/Object")] 113

def k0c0 : Code := { maxStack := 0, maxLocals := 1, code := object_method_1_code, exceptionTable := #[], attributes := #[] }
def k0m0 : Method := { name := "<init>", desc := "()V", sig := { parameters := [], returnType := none }, accessFlags := 1, code := some k0c0 }
/-- java/lang/Object -/
def k0 : Class := { plain "java/lang/Object" none with
  accessFlags := 33
  interfaces := #[]
  cf := some (fileOf pool0 8 #[] #[{ accessFlags := 1, nameIndex := 5, descriptorIndex := 6, attributes := #[] }] 33 0 #[] #[])
  fields := #[]
  methods := #[k0m0]
  instanceTypes := #[]
  staticTypes := #[]
  resolved := Array.replicate 124 none
  statics := none }

def pool1 : Array CpInfo := pool [(2, .class_ 4), (1, u "java/lang/Object"), (0, u "<init>"), (0, u "()V"), (0, .fieldref 8 9), (0, .class_ 10), (0, .nameAndType 11 12), (0, u "nonet/Size"), (0, u "NINE"), (0, u "Lnonet/Size;"), (0, .fieldref 8 14), (0, .nameAndType 15 12), (0, u "FOUR"), (0, .integer 2147483647), (0, .methodref 8 18), (0, .nameAndType 19 20), (0, u "cell"), (0, u "(I)Lnonet/Cell;"), (0, .methodref 22 23), (0, .class_ 24), (0, .nameAndType 25 26), (0, u "nonet/Cell"), (0, u "row"), (0, u "()I"), (0, .methodref 22 28), (0, .nameAndType 29 26), (0, u "column"), (0, .class_ 31), (0, u "nonet/SizeCellPinLaw"), (2, u "law"), (0, u "(II)Z")] 3

def k1m0 : Method := { name := "<init>", desc := "()V", sig := { parameters := [], returnType := none }, accessFlags := 2, code := none }
def k1c1 : Code := { maxStack := 3, maxLocals := 9, code := code, exceptionTable := #[], attributes := #[] }
def k1m1 : Method := { name := "law", desc := "(II)Z", sig := { parameters := [.int, .int], returnType := some .boolean }, accessFlags := 9, code := some k1c1 }
/-- nonet/SizeCellPinLaw -/
def k1 : Class := { plain "nonet/SizeCellPinLaw" (some 0) with
  accessFlags := 49
  interfaces := #[]
  cf := some (fileOf pool1 30 #[] #[{ accessFlags := 2, nameIndex := 5, descriptorIndex := 6, attributes := #[] }, { accessFlags := 9, nameIndex := 34, descriptorIndex := 35, attributes := #[] }] 49 2 #[] #[])
  fields := #[]
  methods := #[k1m0, k1m1]
  instanceTypes := #[]
  staticTypes := #[]
  resolved := Array.replicate 39 none
  statics := none }

def pool2 : Array CpInfo := pool [(1, .class_ 2), (0, u "java/lang/constant/Constable"), (0, .class_ 4), (0, u "java/lang/Object")] 6

/-- java/lang/constant/Constable -/
def k2 : Class := { plain "java/lang/constant/Constable" (some 0) with
  accessFlags := 1537
  interfaces := #[]
  cf := some (fileOf pool2 1 #[] #[] 1537 3 #[] #[])
  fields := #[]
  methods := #[]
  instanceTypes := #[]
  staticTypes := #[]
  resolved := Array.replicate 11 none
  statics := none }

def pool3 : Array CpInfo := pool [(1, .class_ 2), (0, u "java/lang/Comparable"), (0, .class_ 4), (0, u "java/lang/Object")] 7

/-- java/lang/Comparable -/
def k3 : Class := { plain "java/lang/Comparable" (some 0) with
  accessFlags := 1537
  interfaces := #[]
  cf := some (fileOf pool3 1 #[] #[] 1537 3 #[] #[])
  fields := #[]
  methods := #[]
  instanceTypes := #[]
  staticTypes := #[]
  resolved := Array.replicate 12 none
  statics := none }

def pool4 : Array CpInfo := pool [(1, .class_ 2), (0, u "java/io/Serializable"), (0, .class_ 4), (0, u "java/lang/Object")] 2

/-- java/io/Serializable -/
def k4 : Class := { plain "java/io/Serializable" (some 0) with
  accessFlags := 1537
  interfaces := #[]
  cf := some (fileOf pool4 1 #[] #[] 1537 3 #[] #[])
  fields := #[]
  methods := #[]
  instanceTypes := #[]
  staticTypes := #[]
  resolved := Array.replicate 7 none
  statics := none }

def pool5 : Array CpInfo := pool [(2, .class_ 4), (1, u "java/lang/Enum"), (0, u "name"), (0, u "Ljava/lang/String;"), (2, u "ordinal"), (0, u "I"), (1, .class_ 14), (1, u "java/lang/Object"), (4, u "hash"), (86, .class_ 108), (1, u "java/lang/Enum$EnumDesc"), (2, .class_ 112), (0, u "java/lang/constant/Constable"), (0, .class_ 114), (0, u "java/lang/Comparable"), (0, .class_ 116), (0, u "java/io/Serializable")] 87

/-- java/lang/Enum -/
def k5 : Class := { plain "java/lang/Enum" (some 0) with
  accessFlags := 1057
  interfaces := #[2, 3, 4]
  cf := some (fileOf pool5 2 #[.nestMembers #[106]] #[] 1057 12 #[111, 113, 115] #[{ accessFlags := 18, nameIndex := 5, descriptorIndex := 6, attributes := #[] }, { accessFlags := 18, nameIndex := 9, descriptorIndex := 10, attributes := #[] }, { accessFlags := 2, nameIndex := 19, descriptorIndex := 10, attributes := #[] }])
  fields := #[{ name := "name", type := (.object "java/lang/String"), accessFlags := 18, slot := 0, constantValue := 0 }, { name := "ordinal", type := .int, accessFlags := 18, slot := 1, constantValue := 0 }, { name := "hash", type := .int, accessFlags := 2, slot := 2, constantValue := 0 }]
  methods := #[]
  instanceTypes := #[(.object "java/lang/String"), .int, .int]
  staticTypes := #[]
  resolved := Array.replicate 204 none
  statics := none }

def pool6 : Array CpInfo := pool [(1, .class_ 2), (0, u "nonet/Size"), (2, u "FOUR"), (0, u "Lnonet/Size;"), (2, u "NINE"), (2, u "$VALUES"), (0, u "[Lnonet/Size;"), (6, .class_ 22), (1, u "java/lang/Enum"), (4, u "<init>"), (3, u "box"), (0, u "I"), (0, .fieldref 1 34), (0, .nameAndType 35 32), (0, u "side"), (1, u "[[I"), (2, u "unitCells"), (1, u "[I"), (2, u "cellUnits"), (2, u "stacksOfColumns"), (8, u "columnsOfStacks"), (2, u "matched"), (48, .class_ 110), (0, u "nonet/Cell"), (0, .methodref 109 112), (0, .nameAndType 27 113), (0, u "(II)V"), (26, u "cell"), (0, u "(I)Lnonet/Cell;")] 6

def k6c0 : Code := { maxStack := 5, maxLocals := 2, code := prog_10_method_17_code, exceptionTable := #[], attributes := #[] }
def k6m0 : Method := { name := "cell", desc := "(I)Lnonet/Cell;", sig := { parameters := [.int], returnType := some (.object "nonet/Cell") }, accessFlags := 0, code := some k6c0 }
/-- nonet/Size -/
def k6 : Class := { plain "nonet/Size" (some 5) with
  accessFlags := 16433
  interfaces := #[]
  cf := some (fileOf pool6 1 #[] #[{ accessFlags := 0, nameIndex := 140, descriptorIndex := 141, attributes := #[] }] 16433 20 #[] #[{ accessFlags := 16409, nameIndex := 5, descriptorIndex := 6, attributes := #[] }, { accessFlags := 16409, nameIndex := 9, descriptorIndex := 6, attributes := #[] }, { accessFlags := 18, nameIndex := 31, descriptorIndex := 32, attributes := #[] }, { accessFlags := 18, nameIndex := 35, descriptorIndex := 32, attributes := #[] }, { accessFlags := 18, nameIndex := 40, descriptorIndex := 37, attributes := #[] }, { accessFlags := 18, nameIndex := 45, descriptorIndex := 37, attributes := #[] }, { accessFlags := 18, nameIndex := 48, descriptorIndex := 42, attributes := #[] }, { accessFlags := 18, nameIndex := 57, descriptorIndex := 42, attributes := #[] }, { accessFlags := 18, nameIndex := 60, descriptorIndex := 42, attributes := #[] }, { accessFlags := 4122, nameIndex := 12, descriptorIndex := 13, attributes := #[] }])
  fields := #[{ name := "FOUR", type := (.object "nonet/Size"), accessFlags := 16409, slot := 0, constantValue := 0 }, { name := "NINE", type := (.object "nonet/Size"), accessFlags := 16409, slot := 1, constantValue := 0 }, { name := "box", type := .int, accessFlags := 18, slot := 3, constantValue := 0 }, { name := "side", type := .int, accessFlags := 18, slot := 4, constantValue := 0 }, { name := "unitCells", type := (.array (.array .int)), accessFlags := 18, slot := 5, constantValue := 0 }, { name := "cellUnits", type := (.array (.array .int)), accessFlags := 18, slot := 6, constantValue := 0 }, { name := "stacksOfColumns", type := (.array .int), accessFlags := 18, slot := 7, constantValue := 0 }, { name := "columnsOfStacks", type := (.array .int), accessFlags := 18, slot := 8, constantValue := 0 }, { name := "matched", type := (.array .int), accessFlags := 18, slot := 9, constantValue := 0 }, { name := "$VALUES", type := (.array (.object "nonet/Size")), accessFlags := 4122, slot := 2, constantValue := 0 }]
  methods := #[k6m0]
  instanceTypes := #[(.object "java/lang/String"), .int, .int, .int, .int, (.array (.array .int)), (.array (.array .int)), (.array .int), (.array .int), (.array .int)]
  staticTypes := #[(.object "nonet/Size"), (.object "nonet/Size"), (.array (.object "nonet/Size"))]
  resolved := Array.replicate 148 none
  statics := some 0 }

def pool7 : Array CpInfo := pool [(1, .methodref 2 3), (0, .class_ 4), (0, .nameAndType 5 6), (0, u "java/lang/Object"), (0, u "<init>"), (0, u "()V"), (0, .class_ 8), (0, u "java/lang/Record")] 13

def k7c0 : Code := { maxStack := 1, maxLocals := 1, code := jdk_30_method_1_code, exceptionTable := #[], attributes := #[] }
def k7m0 : Method := { name := "<init>", desc := "()V", sig := { parameters := [], returnType := none }, accessFlags := 4, code := some k7c0 }
/-- java/lang/Record -/
def k7 : Class := { plain "java/lang/Record" (some 0) with
  accessFlags := 1057
  interfaces := #[]
  cf := some (fileOf pool7 7 #[] #[{ accessFlags := 4, nameIndex := 5, descriptorIndex := 6, attributes := #[] }] 1057 2 #[] #[])
  fields := #[]
  methods := #[k7m0]
  instanceTypes := #[]
  staticTypes := #[]
  resolved := Array.replicate 22 none
  statics := none }

def pool8 : Array CpInfo := pool [(1, .methodref 2 3), (0, .class_ 4), (0, .nameAndType 5 6), (0, u "java/lang/Record"), (0, u "<init>"), (0, u "()V"), (0, .fieldref 8 9), (0, .class_ 10), (0, .nameAndType 11 12), (0, u "nonet/Cell"), (0, u "row"), (0, u "I"), (0, .fieldref 8 14), (0, .nameAndType 15 12), (0, u "column"), (12, u "(II)V"), (5, u "()I")] 30

def k8c0 : Code := { maxStack := 2, maxLocals := 3, code := prog_2_method_1_code, exceptionTable := #[], attributes := #[] }
def k8m0 : Method := { name := "<init>", desc := "(II)V", sig := { parameters := [.int, .int], returnType := none }, accessFlags := 1, code := some k8c0 }
def k8c1 : Code := { maxStack := 1, maxLocals := 1, code := prog_2_method_5_code, exceptionTable := #[], attributes := #[] }
def k8m1 : Method := { name := "row", desc := "()I", sig := { parameters := [], returnType := some .int }, accessFlags := 1, code := some k8c1 }
def k8c2 : Code := { maxStack := 1, maxLocals := 1, code := prog_2_method_6_code, exceptionTable := #[], attributes := #[] }
def k8m2 : Method := { name := "column", desc := "()I", sig := { parameters := [], returnType := some .int }, accessFlags := 1, code := some k8c2 }
/-- nonet/Cell -/
def k8 : Class := { plain "nonet/Cell" (some 7) with
  accessFlags := 49
  interfaces := #[]
  cf := some (fileOf pool8 8 #[] #[{ accessFlags := 1, nameIndex := 5, descriptorIndex := 28, attributes := #[] }, { accessFlags := 1, nameIndex := 11, descriptorIndex := 34, attributes := #[] }, { accessFlags := 1, nameIndex := 15, descriptorIndex := 34, attributes := #[] }] 49 2 #[] #[{ accessFlags := 18, nameIndex := 11, descriptorIndex := 12, attributes := #[] }, { accessFlags := 18, nameIndex := 15, descriptorIndex := 12, attributes := #[] }])
  fields := #[{ name := "row", type := .int, accessFlags := 18, slot := 0, constantValue := 0 }, { name := "column", type := .int, accessFlags := 18, slot := 1, constantValue := 0 }]
  methods := #[k8m0, k8m1, k8m2]
  instanceTypes := #[.int, .int]
  staticTypes := #[]
  resolved := Array.replicate 65 none
  statics := none }

def pool9 : Array CpInfo := pool [(1, u "java/lang/Cloneable"), (0, .class_ 1), (0, u "java/lang/Object"), (0, .class_ 3)] 3

/-- java/lang/Cloneable -/
def k9 : Class := { plain "java/lang/Cloneable" (some 0) with
  accessFlags := 1537
  interfaces := #[]
  cf := some (fileOf pool9 2 #[] #[] 1537 4 #[] #[])
  fields := #[]
  methods := #[]
  instanceTypes := #[]
  staticTypes := #[]
  resolved := Array.replicate 8 none
  statics := none }

/-- the primitive byte -/
def k10 : Class := { plain "byte" none with kind := .primitive 'B', accessFlags := 0x411 }
/-- [B -/
def k11 : Class := { plain "[B" (some 0) with kind := .array 10 .byte, interfaces := #[9, 4], accessFlags := 1041 }

/-- the primitive int -/
def k12 : Class := { plain "int" none with kind := .primitive 'I', accessFlags := 0x411 }
/-- [I -/
def k13 : Class := { plain "[I" (some 0) with kind := .array 12 .int, interfaces := #[9, 4], accessFlags := 1041 }

def heap : Heap := #[{ cls := 6, slots := #[.ref 1, .ref 2, .null], vm := .statics 6 },
  { cls := 6, slots := #[.null, .int 0, .int 0, .int 2, .int 4, .null, .null, .null, .null, .null], vm := .none },
  { cls := 6, slots := #[.null, .int 1, .int 0, .int 3, .int 9, .null, .null, .null, .null, .null], vm := .none }]
def classes : Array Class := #[k0, k1, k2, k3, k4, k5, k6, k7, k8, k9, k10, k11, k12, k13]
def interned : List (Array UInt16 × Addr) := []
def slotsUsed : Nat := 23
def theMethod : MethodId := ⟨1, 1⟩
def args0 : Array Value := #[.int 5, .int 5]
def aboutOver (below : List Frame) : State where
  vm := { classes := classes, interned := interned.toArray }
  heap := heap
  slotsUsed := slotsUsed
  threads := #[{ frames := .invoking theMethod args0 :: below }]
def below0 : List Frame := [.native { method := ⟨0, 0⟩, args := #[] }]
def about1 : State := aboutOver below0
def p0 : Program := .bare "" "" ""
def e0 : Env := launch0.env 0 0 0
theorem w_frames : about1.frames = Frame.invoking theMethod args0 :: below0 := rfl
set_option maxRecDepth 65536 in
theorem w_args : argsFit about1.vm theMethod args0 = true := by decide +kernel
set_option maxRecDepth 65536 in
theorem w_heap : heapFits about1 = true := by decide +kernel
set_option maxRecDepth 65536 in
theorem w_runnable : about1.curStatus? = some .runnable := by decide +kernel
set_option maxRecDepth 65536 in
theorem w_alone : about1.alone = true := by decide +kernel
set_option maxRecDepth 65536 in
theorem w_named : about1.methodNamed? x = some theMethod := by decide +kernel
set_option maxRecDepth 65536 in
theorem w_hears : about1.hears theMethod below0 = true := by decide +kernel
set_option maxRecDepth 65536 in
theorem w_ripe : about1.ripe theMethod args0 below0 = true := by decide +kernel
theorem w_running : about1.status = .running := rfl
set_option maxRecDepth 65536 in
theorem w_room : about1.hasRoom e0.platform room_1 = true :=
  launch0.hasRoom_least _ room_1 (by decide +kernel) (by decide +kernel) (by decide +kernel) (by decide +kernel) (by decide +kernel) (by decide +kernel)
theorem allAtoms_all (ts : List Jvm.Cond) (a : Array Jvm.Value) (st : Jvm.State) : (allAtoms ts).before a st = ts.all (fun c => c.before a st) := by
  induction ts with
  | nil => rfl
  | cons c t ih =>
    show (Jvm.Cond.and c (allAtoms t)).before a st = _
    rw [Jvm.Cond.before_and, ih, List.all_cons]
def words1 : List Jvm.Cond := Jvm.Cond.code x code maxLocals ret :: tables_1
/-- a 'code' word, met by the world's own term for the bytes: nothing is compared byte by byte -/
theorem code_word {y : MethodName} {bytes : ByteArray} {mx : Nat} {rt : Option FieldType} {a : Array Value} {s : State} {m : MethodId} {meth : Method} {c : Code} (h1 : s.methodNamed? y = some m) (h2 : s.vm.method? m = some meth) (h3 : meth.code = some c) (h4 : c.code = bytes)
    (h5 : (c.maxLocals == mx && c.exceptionTable.isEmpty && decide (c.maxStack ≤ mostOperands) && decide (meth.sig.returnType = rt) && !meth.locks && decide (parseMethodDescriptor y.desc = some meth.sig)) = true) : (Jvm.Cond.code y bytes mx rt).before a s = true := by
  simp only [Bool.and_eq_true, beq_iff_eq, Bool.not_eq_true', decide_eq_true_eq] at h5
  obtain ⟨⟨⟨⟨⟨g1, g2⟩, g3⟩, g4⟩, g5⟩, g6⟩ := h5
  simp [Cond.before, Cond.holds, Cond.value, h1, h2, h3, h4, g1, g2, g3, g4, g5, g6]
def isCode : Jvm.Cond → Bool
  | .code _ _ _ _ => true
  | _ => false
theorem all_split {L : List Jvm.Cond} {P : Jvm.Cond → Bool} (h1 : L.all (fun c => isCode c || P c) = true) (h2 : ∀ c ∈ L.filter isCode, P c = true) : L.all P = true := by
  refine List.all_eq_true.mpr fun c hc => ?_
  have h := List.all_eq_true.mp h1 c hc
  rcases Bool.eq_false_or_eq_true (isCode c) with hi | hi
  · exact h2 c (List.mem_filter.mpr ⟨hc, hi⟩)
  · simpa [hi] using h
set_option maxRecDepth 65536 in
theorem w_c0 : (Jvm.Cond.code x code maxLocals ret).before args0 about1 = true := code_word (m := ⟨1, 1⟩) (meth := k1m1) (c := k1c1) (by decide +kernel) rfl rfl rfl (by decide +kernel)
set_option maxRecDepth 65536 in
theorem w_c1 : (Jvm.Cond.code ({ cls := "nonet/Size", name := "cell", desc := "(I)Lnonet/Cell;" } : Jvm.MethodName) prog_10_method_17_code (2 : Nat) (Option.some (Jvm.ClassFile.FieldType.object "nonet/Cell"))).before args0 about1 = true := code_word (m := ⟨6, 0⟩) (meth := k6m0) (c := k6c0) (by decide +kernel) rfl rfl rfl (by decide +kernel)
set_option maxRecDepth 65536 in
theorem w_c2 : (Jvm.Cond.code ({ cls := "nonet/Cell", name := "<init>", desc := "(II)V" } : Jvm.MethodName) prog_2_method_1_code (3 : Nat) (Option.none : Option Jvm.ClassFile.FieldType)).before args0 about1 = true := code_word (m := ⟨8, 0⟩) (meth := k8m0) (c := k8c0) (by decide +kernel) rfl rfl rfl (by decide +kernel)
set_option maxRecDepth 65536 in
theorem w_c3 : (Jvm.Cond.code ({ cls := "java/lang/Record", name := "<init>", desc := "()V" } : Jvm.MethodName) jdk_30_method_1_code (1 : Nat) (Option.none : Option Jvm.ClassFile.FieldType)).before args0 about1 = true := code_word (m := ⟨7, 0⟩) (meth := k7m0) (c := k7c0) (by decide +kernel) rfl rfl rfl (by decide +kernel)
set_option maxRecDepth 65536 in
theorem w_c4 : (Jvm.Cond.code ({ cls := "java/lang/Object", name := "<init>", desc := "()V" } : Jvm.MethodName) object_method_1_code (1 : Nat) (Option.none : Option Jvm.ClassFile.FieldType)).before args0 about1 = true := code_word (m := ⟨0, 0⟩) (meth := k0m0) (c := k0c0) (by decide +kernel) rfl rfl rfl (by decide +kernel)
set_option maxRecDepth 65536 in
theorem w_c5 : (Jvm.Cond.code ({ cls := "nonet/Cell", name := "row", desc := "()I" } : Jvm.MethodName) prog_2_method_5_code (1 : Nat) (Option.some Jvm.ClassFile.FieldType.int)).before args0 about1 = true := code_word (m := ⟨8, 1⟩) (meth := k8m1) (c := k8c1) (by decide +kernel) rfl rfl rfl (by decide +kernel)
set_option maxRecDepth 65536 in
theorem w_c6 : (Jvm.Cond.code ({ cls := "nonet/Cell", name := "column", desc := "()I" } : Jvm.MethodName) prog_2_method_6_code (1 : Nat) (Option.some Jvm.ClassFile.FieldType.int)).before args0 about1 = true := code_word (m := ⟨8, 2⟩) (meth := k8m2) (c := k8c2) (by decide +kernel) rfl rfl rfl (by decide +kernel)
def codes1 : List Jvm.Cond := [Jvm.Cond.code x code maxLocals ret, Jvm.Cond.code ({ cls := "nonet/Size", name := "cell", desc := "(I)Lnonet/Cell;" } : Jvm.MethodName) prog_10_method_17_code (2 : Nat) (Option.some (Jvm.ClassFile.FieldType.object "nonet/Cell")), Jvm.Cond.code ({ cls := "nonet/Cell", name := "<init>", desc := "(II)V" } : Jvm.MethodName) prog_2_method_1_code (3 : Nat) (Option.none : Option Jvm.ClassFile.FieldType), Jvm.Cond.code ({ cls := "java/lang/Record", name := "<init>", desc := "()V" } : Jvm.MethodName) jdk_30_method_1_code (1 : Nat) (Option.none : Option Jvm.ClassFile.FieldType), Jvm.Cond.code ({ cls := "java/lang/Object", name := "<init>", desc := "()V" } : Jvm.MethodName) object_method_1_code (1 : Nat) (Option.none : Option Jvm.ClassFile.FieldType), Jvm.Cond.code ({ cls := "nonet/Cell", name := "row", desc := "()I" } : Jvm.MethodName) prog_2_method_5_code (1 : Nat) (Option.some Jvm.ClassFile.FieldType.int), Jvm.Cond.code ({ cls := "nonet/Cell", name := "column", desc := "()I" } : Jvm.MethodName) prog_2_method_6_code (1 : Nat) (Option.some Jvm.ClassFile.FieldType.int)]
set_option maxRecDepth 65536 in
theorem codes_eq : words1.filter isCode = codes1 := rfl
theorem w_codes : ∀ c ∈ words1.filter isCode, c.before args0 about1 = true := by
  rw [codes_eq]
  intro c hc
  simp only [codes1, List.mem_cons, List.not_mem_nil, or_false] at hc
  rcases hc with rfl | rfl | rfl | rfl | rfl | rfl | rfl
  · exact w_c0
  · exact w_c1
  · exact w_c2
  · exact w_c3
  · exact w_c4
  · exact w_c5
  · exact w_c6
set_option maxRecDepth 65536 in
theorem w_t1 : (words1.take 24).all (fun c => isCode c || c.before args0 about1) = true := by decide +kernel
set_option maxRecDepth 65536 in
theorem w_t2 : (words1.drop 24).all (fun c => isCode c || c.before args0 about1) = true := by decide +kernel
theorem w_tables : (allAtoms (Jvm.Cond.code x code maxLocals ret :: tables_1)).before args0 about1 = true := by
  rw [allAtoms_all]
  show words1.all (fun c => c.before args0 about1) = true
  refine all_split ?_ w_codes
  rw [← List.take_append_drop 24 words1, List.all_append, w_t1, w_t2]
  rfl
set_option maxRecDepth 65536 in
theorem w_case : (Jvm.Cond.and given_1 narrow_1).before args0 about1 = true := by decide +kernel
theorem w_applies : (headSpec (Jvm.Cond.code x code maxLocals ret :: tables_1) room_1).applies x e0.platform about1 = true :=
  (Spec.applies_iff w_frames).mpr ⟨w_running, w_runnable, w_alone, w_named, w_hears, w_ripe, w_room, w_tables⟩
theorem atStart : AtStart classFile x code maxLocals ret World_1 tables_1 room_1 Calls_1 rest_1 Pre_1 launch0 p0 e0 about1 theMethod args0 below0 :=
  ⟨lists_1, trivial, launch0.admits_env _ _ _, launch0.least_env, fairChoices_fair.cas, fairChoices_fair.clock, w_frames, w_args, w_heap, w_applies, trivial, trivial, w_case⟩
end start1
theorem witness_1 : WitnessClaimed_1 := ⟨start1.p0, start1.e0, start1.about1, start1.theMethod, start1.args0, start1.below0, start1.atStart⟩
end Jvm.Pilot.@@N@@
