import JvmDerived
import JvmDerived.Pilot.@@N@@Statement
import JvmDerived.Pilot.@@N@@Code
set_option linter.unusedVariables false
set_option linter.unusedSimpArgs false
namespace Jvm.Own
open Sem ClassFile Op Lib Jvm.Stand Jvm.Free Jvm.LawKit Jvm.RoadKit
/-- from the frame g, standing in T, the run ends in what P says -/
def Goes (p : Program) (e : Env) (below : List Frame) (P : Outcome → State → Prop) (T : State) (g : JFrame) : Prop :=
  ∃ s₂ o, Steps p.tables e below (T.setTop g) s₂ ∧ s₂.status = .running ∧ Ended s₂ below o ∧ P o s₂
/-- what a body leaves -/
abbrev Leaves (s : State) (Q : Option Value → Heap → List Loc → Prop) (C N : Nat) (o : Outcome) (U : State) : Prop := ∃ v L, o = .returned v ∧ Q v U.heap L ∧ FrameEnd s o U L C N
/-- a body's contract, asked at the arguments 'as' and the heap h0 -/
abbrev Pays (l : Launch) (Z : State) (y : MethodName) (bytes : ByteArray) (maxL : Nat) (ret : Option FieldType) (ws : List Jvm.Cond) (rm : Room) (as : Array Value) (h0 : Heap) (Q : Option Value → Heap → List Loc → Prop) : Prop :=
  MetFree l y (head1 (Jvm.Cond.code y bytes maxL ret :: ws) rm) (fun a U => a = as ∧ Z.Warmed39 U.vm ∧ U.heap = h0) (fun _ _ _ _ _ => True) (fun _ U o U' => ∃ v L, o = .returned v ∧ Q v U'.heap L ∧ FrameEnd U o U' L rm.cells rm.slots)
section Steps
variable {p : Program} {l : Launch} {e : Env} {R : Room} {s : State} {m : MethodId} {args : Array Value} {below : List Frame} {meth : Method} {c : Code} {T T' : State} {locs : List Loc} {cells slots : Nat} {Z : State} {a0 : Array Value} {h : Heap} {P : Outcome → State → Prop} {g g' : JFrame}
theorem Goes.on (st : ∀ t, Steps p.tables e below (T'.setTop g') t → Steps p.tables e below (T.setTop g) t) (k : Goes p e below P T' g') : Goes p e below P T g := by
  obtain ⟨s₂, o, h1, h2⟩ := k
  exact ⟨s₂, o, st _ h1, h2⟩
theorem Goes.joinB {fr : Int32 → JFrame} (k : ∀ z, (z = 0 ∨ z = 1) → Goes p e below P T' (fr z)) (u : (∀ z, (z = 0 ∨ z = 1) → Goes p e below P T' (fr z)) → Goes p e below P T g) : Goes p e below P T g := u k
theorem Goes.joinI {fr : Int32 → JFrame} (k : ∀ z, Goes p e below P T' (fr z)) (u : (∀ z, Goes p e below P T' (fr z)) → Goes p e below P T g) : Goes p e below P T g := u k
theorem Goes.joinJ {fr : Int64 → JFrame} (k : ∀ z, Goes p e below P T' (fr z)) (u : (∀ z, Goes p e below P T' (fr z)) → Goes p e below P T g) : Goes p e below P T g := u k
theorem Goes.joinR {fr : Addr → JFrame} (k : ∀ z, Goes p e below P T' (fr z)) (u : (∀ z, Goes p e below P T' (fr z)) → Goes p e below P T g) : Goes p e below P T g := u k
theorem Goes.joinT (X : Stand p l e R s m args below meth c T locs cells slots) {fr : Addr → JFrame} (k : ∀ z T', Stand p l e R s m args below meth c T' locs cells slots → T'.heap = h → Goes p e below P T' (fr z)) (u : (∀ z T', Stand p l e R s m args below meth c T' locs cells slots → T'.heap = h → Goes p e below P T' (fr z)) → Goes p e below P T g) : Goes p e below P T g := u k
theorem Goes.out {Q : Option Value → Heap → List Loc → Prop} {C N : Nat} (X : Stand p l e R s m args below meth c T locs cells slots) {v : Option Value} (hv : meth.sig.returnType = none → v = none) (hlk : meth.locks = false) (hc : cells ≤ C) (hs : slots ≤ N) (hq : Q v T.heap locs)
    (st : ∀ fs, (∀ (f : JFrame) (acts : List Action), f.method = m → f.locked = none → f.entered = [] → (doReturn e (T.setTop f) acts v).1 = T.setFrames fs) → Steps p.tables e below (T.setTop g) (T.setFrames fs)) : Goes p e below (Leaves s Q C N) T g := by
  obtain ⟨fs, hr, hrun, hended, hW, hsame⟩ := X.leave (v := v) hv hlk
  exact ⟨_, _, st fs hr, hrun, hended, v, locs, rfl, hq, ⟨_, rfl⟩, hW, hsame.mono hc hs⟩
theorem Goes.retV {Q : Option Value → Heap → List Loc → Prop} {C N : Nat} (X : Stand p l e R s m args below meth c T locs cells slots) (hx : p.tables.exec = Jvm.exec) (hlk : meth.locks = false) (hret : meth.sig.returnType = none) {pc : Nat} {Ls : Array Slot} (hd : decode c.code pc = .ok (.return_, 1)) (hc : cells ≤ C) (hs : slots ≤ N) (hq : Q none T.heap locs) :
    Goes p e below (Leaves s Q C N) T (mkF m pc Ls []) :=
  Goes.out X (fun _ => rfl) hlk hc hs hq fun _ hr => X.returnOut hx hret hd hr
theorem Goes.retW {Q : Option Value → Heap → List Loc → Prop} {C N : Nat} (X : Stand p l e R s m args below meth c T locs cells slots) (hx : p.tables.exec = Jvm.exec) (hlk : meth.locks = false) {t : FieldType} {i : Instr} {w : Value} (hret : meth.sig.returnType = some t) {pc : Nat} {Ls : Array Slot} {rest : List Value} (hn : narrow t w = w)
    (hi : (i = .ireturn ∧ (t = .int ∨ t = .boolean ∨ t = .byte ∨ t = .char ∨ t = .short) ∧ ∃ z, w = .int z) ∨ (i = .lreturn ∧ t = .long ∧ ∃ z, w = .long z) ∨ (i = .dreturn ∧ t = .double ∧ ∃ z, w = .double z) ∨ (i = .freturn ∧ t = .float ∧ ∃ z, w = .float z) ∨ (i = .areturn ∧ t.isReference = true ∧ w.isRef = true))
    (hd : decode c.code pc = .ok (i, 1)) (hc : cells ≤ C) (hs : slots ≤ N) (hq : Q (some w) T.heap locs) : Goes p e below (Leaves s Q C N) T (mkF m pc Ls (w :: rest)) :=
  Goes.out X (fun h => by rw [hret] at h; cases h) hlk hc hs hq fun _ hr => retOut X hx hret hn hi hd hr
theorem Goes.retI {Q : Option Value → Heap → List Loc → Prop} {C N : Nat} (X : Stand p l e R s m args below meth c T locs cells slots) (hx : p.tables.exec = Jvm.exec) (hlk : meth.locks = false) {z : Int32} (hret : meth.sig.returnType = some .int) {pc : Nat} {Ls : Array Slot} {rest : List Value} (hd : decode c.code pc = .ok (.ireturn, 1)) (hc : cells ≤ C) (hs : slots ≤ N) (hq : Q (some (.int z)) T.heap locs) :
    Goes p e below (Leaves s Q C N) T (mkF m pc Ls (.int z :: rest)) := Goes.retW X hx hlk hret rfl (Or.inl ⟨rfl, Or.inl rfl, _, rfl⟩) hd hc hs hq
theorem Goes.retB {Q : Option Value → Heap → List Loc → Prop} {C N : Nat} (X : Stand p l e R s m args below meth c T locs cells slots) (hx : p.tables.exec = Jvm.exec) (hlk : meth.locks = false) {z : Int32} (hret : meth.sig.returnType = some .boolean) {pc : Nat} {Ls : Array Slot} {rest : List Value} (hz : z = 0 ∨ z = 1) (hd : decode c.code pc = .ok (.ireturn, 1)) (hc : cells ≤ C) (hs : slots ≤ N) (hq : Q (some (.int z)) T.heap locs) :
    Goes p e below (Leaves s Q C N) T (mkF m pc Ls (.int z :: rest)) := Goes.retW X hx hlk hret (by rcases hz with rfl | rfl <;> rfl) (Or.inl ⟨rfl, Or.inr (Or.inl rfl), _, rfl⟩) hd hc hs hq
theorem Goes.retC {Q : Option Value → Heap → List Loc → Prop} {C N : Nat} (X : Stand p l e R s m args below meth c T locs cells slots) (hx : p.tables.exec = Jvm.exec) (hlk : meth.locks = false) {z : Int32} (hret : meth.sig.returnType = some .char) {pc : Nat} {Ls : Array Slot} {rest : List Value} (hz : nar .char z = z) (hd : decode c.code pc = .ok (.ireturn, 1)) (hc : cells ≤ C) (hs : slots ≤ N) (hq : Q (some (.int z)) T.heap locs) :
    Goes p e below (Leaves s Q C N) T (mkF m pc Ls (.int z :: rest)) := Goes.retW X hx hlk hret (by show Value.int (nar .char z) = _; rw [hz]) (Or.inl ⟨rfl, Or.inr (Or.inr (Or.inr (Or.inl rfl))), _, rfl⟩) hd hc hs hq
theorem Goes.retY {Q : Option Value → Heap → List Loc → Prop} {C N : Nat} (X : Stand p l e R s m args below meth c T locs cells slots) (hx : p.tables.exec = Jvm.exec) (hlk : meth.locks = false) {z : Int32} (hret : meth.sig.returnType = some .byte) {pc : Nat} {Ls : Array Slot} {rest : List Value} (hz : nar .byte z = z) (hd : decode c.code pc = .ok (.ireturn, 1)) (hc : cells ≤ C) (hs : slots ≤ N) (hq : Q (some (.int z)) T.heap locs) :
    Goes p e below (Leaves s Q C N) T (mkF m pc Ls (.int z :: rest)) := Goes.retW X hx hlk hret (by show Value.int (nar .byte z) = _; rw [hz]) (Or.inl ⟨rfl, Or.inr (Or.inr (Or.inl rfl)), _, rfl⟩) hd hc hs hq
theorem Goes.retJ {Q : Option Value → Heap → List Loc → Prop} {C N : Nat} (X : Stand p l e R s m args below meth c T locs cells slots) (hx : p.tables.exec = Jvm.exec) (hlk : meth.locks = false) {z : Int64} (hret : meth.sig.returnType = some .long) {pc : Nat} {Ls : Array Slot} {rest : List Value} (hd : decode c.code pc = .ok (.lreturn, 1)) (hc : cells ≤ C) (hs : slots ≤ N) (hq : Q (some (.long z)) T.heap locs) :
    Goes p e below (Leaves s Q C N) T (mkF m pc Ls (.long z :: rest)) := Goes.retW X hx hlk hret rfl (Or.inr (Or.inl ⟨rfl, rfl, _, rfl⟩)) hd hc hs hq
theorem Goes.retD {Q : Option Value → Heap → List Loc → Prop} {C N : Nat} (X : Stand p l e R s m args below meth c T locs cells slots) (hx : p.tables.exec = Jvm.exec) (hlk : meth.locks = false) {z : UInt64} (hret : meth.sig.returnType = some .double) {pc : Nat} {Ls : Array Slot} {rest : List Value} (hd : decode c.code pc = .ok (.dreturn, 1)) (hc : cells ≤ C) (hs : slots ≤ N) (hq : Q (some (.double z)) T.heap locs) :
    Goes p e below (Leaves s Q C N) T (mkF m pc Ls (.double z :: rest)) := Goes.retW X hx hlk hret rfl (Or.inr (Or.inr (Or.inl ⟨rfl, rfl, _, rfl⟩))) hd hc hs hq
theorem Goes.retA {Q : Option Value → Heap → List Loc → Prop} {C N : Nat} (X : Stand p l e R s m args below meth c T locs cells slots) (hx : p.tables.exec = Jvm.exec) (hlk : meth.locks = false) {w : Value} {t : FieldType} (hret : meth.sig.returnType = some t) (ht : t.isReference = true) (hw : w.isRef = true) {pc : Nat} {Ls : Array Slot} {rest : List Value} (hd : decode c.code pc = .ok (.areturn, 1)) (hc : cells ≤ C) (hs : slots ≤ N) (hq : Q (some w) T.heap locs) :
    Goes p e below (Leaves s Q C N) T (mkF m pc Ls (w :: rest)) := Goes.retW X hx hlk hret (by cases t <;> first | rfl | cases ht) (Or.inr (Or.inr (Or.inr (Or.inr ⟨rfl, ht, hw⟩)))) hd hc hs hq
/-- a body's contract out of its walk -/
theorem Pays.walk {y : MethodName} {bytes : ByteArray} {maxL : Nat} {ret : Option FieldType} {ws : List Jvm.Cond} {rm : Room} {as : Array Value} {h0 : Heap} {Q : Option Value → Heap → List Loc → Prop} {Ls : Array Slot}
    (hn : plainFor y = true) (hef : ∀ m, entryFrame m as maxL = mkF m 0 Ls [])
    (body : ∀ (p : Program) (e : Env) (s : State) (m : MethodId) (below : List Frame) (meth : Method) (c : Code) (T : State), Stand p l e rm s m as below meth c T [] 0 0 → p.tables.exec = Jvm.exec → c.code = bytes → c.maxLocals = maxL → s.vm.findClass y.cls = some m.cls → meth.name = y.name → Z.Warmed39 s.vm → T.heap = h0 → meth.sig.returnType = ret → meth.locks = false →
      Goes p e below (Leaves s Q rm.cells rm.slots) T (mkF m 0 Ls [])) : Pays l Z y bytes maxL ret ws rm as h0 Q := by
  refine MetFree.of_bodySF hn hisR ?_
  intro p e s m args below meth c s₁ Bd hml0 hP hK
  obtain ⟨rfl, hZ, hh⟩ := hP
  have X0 : Stand p l e rm s m args below meth c s₁ [] 0 0 := Stand.of_body Bd
  obtain ⟨s₂, o, h1, h2⟩ := body p e s m below meth c s₁ X0 Bd.exec Bd.bytes hml0 (findClass_of_methodNamed Bd.named) (name_of_methodNamed Bd.named Bd.method).1 hZ (by rw [← hh, Bd.state]; rfl) Bd.returns Bd.notSynchronized
  exact ⟨s₂, o, castTop (hef m) h1, h2⟩
/-- a static call by its contract -/
theorem Goes.callS (X : Stand p l e R s m args below meth c T locs cells slots) (hx : p.tables.exec = Jvm.exec) (hZ : Z.Warmed39 s.vm) {own : String} {index : Nat} {y : MethodName} {bytes : ByteArray} {maxL : Nat} {ret : Option FieldType} {rm : Room} {as' : Array Value} {Q : Option Value → Heap → List Loc → Prop} (W : Nat)
    (hown : s.vm.findClass own = some m.cls) (w1 : (Jvm.Cond.methodLink own index y).before a0 Z = true) (w2 : (Jvm.Cond.static y).before a0 Z = true) (w3 : (Jvm.Cond.initialized y.cls).before a0 Z = true) (w4 : (Jvm.Cond.code y bytes maxL ret).before a0 Z = true) (hy : y.cls ≠ "java/lang/invoke/MethodHandle" ∧ y.cls ≠ "java/lang/invoke/VarHandle")
    (eT : T.heap = h) (hM : Pays l Z y bytes maxL ret [] rm as' h Q) (hf : rm.frames + 1 ≤ R.frames) (hl : W + (maxL + 11) + rm.locals ≤ R.locals) (hc : cells + rm.cells ≤ R.cells) (hs : slots + rm.slots ≤ R.slots)
    (hg : g.method = m) (hsize : g.locals.size = c.maxLocals) {argsL rest : List Value} (has : argsL.toArray = as') (hlen : ∀ sig, parseMethodDescriptor y.desc = some sig → argsL.length = sig.parameters.length) (hstack : g.stack = argsL.reverse ++ rest) (hW : 2 * g.monitorRoom + (rest.map fun v => v.category).sum ≤ W)
    (hd : decode c.code g.pc = .ok (.invokestatic index, 3))
    (k : ∀ v T' L, Stand p l e R s m args below meth c T' (locs ++ L) (cells + rm.cells) (slots + rm.slots) → Q v T'.heap L → Goes p e below P T' { g with pc := g.pc + 3, stack := v.toList ++ rest }) : Goes p e below P T g := by
  obtain ⟨v, _, ⟨T', L', k', n'⟩, -, X', ⟨Lc, hQ, l', y', z'⟩, st⟩ := Jvm.LawKit.callS X hx hown (mvT hZ w1) (mvT hZ w2) (mvT hZ w3) (mvT hZ w4) hy (backOf (W := W) hM hZ w4 w3 hf hl) hg hsize (argsL := argsL) (rest := rest) hlen hstack hW hd (fun _ _ => ⟨has, eT, hc, hs⟩)
  dsimp only [Pt.U, Pt.locs, Pt.cells, Pt.slots] at X' l' y' z' st hQ
  subst l' y' z'
  exact Goes.on st (k v T' Lc X' hQ)
/-- a constructor by its contract -/
theorem Goes.callC (X : Stand p l e R s m args below meth c T locs cells slots) (hx : p.tables.exec = Jvm.exec) (hZ : Z.Warmed39 s.vm) {own : String} {index : Nat} {y : MethodName} {bytes : ByteArray} {maxL : Nat} {rm : Room} {as' : Array Value} {Q : Option Value → Heap → List Loc → Prop} (W : Nat) (hy1 : y.name = "<init>")
    (hown : s.vm.findClass own = some m.cls) (w1 : (Jvm.Cond.methodLink own index y).before a0 Z = true) (w2 : (Jvm.Cond.instanceMethod y).before a0 Z = true) (w3 : (Jvm.Cond.initialized y.cls).before a0 Z = true) (w4 : (Jvm.Cond.code y bytes maxL none).before a0 Z = true) (hy : y.cls ≠ "java/lang/invoke/MethodHandle" ∧ y.cls ≠ "java/lang/invoke/VarHandle")
    (eT : T.heap = h) (hM : Pays l Z y bytes maxL none [] rm as' h Q) (hf : rm.frames + 1 ≤ R.frames) (hl : W + (maxL + 11) + rm.locals ≤ R.locals) (hc : cells + rm.cells ≤ R.cells) (hs : slots + rm.slots ≤ R.slots)
    (hg : g.method = m) (hsize : g.locals.size = c.maxLocals) {a : Addr} {argsL rest : List Value} (has : (Value.ref a :: argsL).toArray = as') (hlen : ∀ sig, parseMethodDescriptor y.desc = some sig → argsL.length = sig.parameters.length) (hstack : g.stack = argsL.reverse ++ .ref a :: rest) (hW : 2 * g.monitorRoom + (rest.map fun v => v.category).sum ≤ W)
    (hd : decode c.code g.pc = .ok (.invokespecial index, 3))
    (k : ∀ v T' L, Stand p l e R s m args below meth c T' (locs ++ L) (cells + rm.cells) (slots + rm.slots) → Q v T'.heap L → Goes p e below P T' { g with pc := g.pc + 3, stack := v.toList ++ rest }) : Goes p e below P T g := by
  obtain ⟨v, _, ⟨T', L', k', n'⟩, -, X', ⟨Lc, hQ, l', y', z'⟩, st⟩ := X.specialBack hx (y := y) hy1 hown (mvT hZ w1) (mvT hZ w2) (mvT hZ w4) hy (backOf (W := W) hM hZ w4 w3 hf hl) hg hsize (Steps.refl _) (a := a) (argsL := argsL) (rest := rest) hlen hstack hW hd (fun _ _ => ⟨has, eT, hc, hs⟩)
  dsimp only [Pt.U, Pt.locs, Pt.cells, Pt.slots] at X' l' y' z' st hQ
  subst l' y' z'
  exact Goes.on (fun _ q => st.trans q) (k v T' Lc X' hQ)
/-- an instance method by its contract, on an object of the class C -/
theorem Goes.callV (X : Stand p l e R s m args below meth c T locs cells slots) (hx : p.tables.exec = Jvm.exec) (hZ : Z.Warmed39 s.vm) {own C : String} {index : Nat} {y z : MethodName} {bytes : ByteArray} {maxL : Nat} {ret : Option FieldType} {rm : Room} {as' : Array Value} {Q : Option Value → Heap → List Loc → Prop} (W : Nat)
    (hown : s.vm.findClass own = some m.cls) (w1 : (Jvm.Cond.methodLink own index y).before a0 Z = true) (w2 : (Jvm.Cond.declares y).before a0 Z = true) (hnf : NotFace s y) (w5 : (Jvm.Cond.selects C y z).before a0 Z = true) (w6 : (Jvm.Cond.instanceMethod z).before a0 Z = true) (w3 : (Jvm.Cond.initialized z.cls).before a0 Z = true) (w4 : (Jvm.Cond.code z bytes maxL ret).before a0 Z = true) (hy : y.cls ≠ "java/lang/invoke/MethodHandle" ∧ y.cls ≠ "java/lang/invoke/VarHandle")
    (eT : T.heap = h) {a : Addr} (E : Exa Z h a C) (hM : Pays l Z z bytes maxL ret [] rm as' h Q) (hf : rm.frames + 1 ≤ R.frames) (hl : W + (maxL + 11) + rm.locals ≤ R.locals) (hc : cells + rm.cells ≤ R.cells) (hs : slots + rm.slots ≤ R.slots)
    (hg : g.method = m) (hsize : g.locals.size = c.maxLocals) {argsL rest : List Value} (has : (Value.ref a :: argsL).toArray = as') (hlen : ∀ sig, parseMethodDescriptor y.desc = some sig → argsL.length = sig.parameters.length) (hstack : g.stack = argsL.reverse ++ .ref a :: rest) (hW : 2 * g.monitorRoom + (rest.map fun v => v.category).sum ≤ W)
    (hd : decode c.code g.pc = .ok (.invokevirtual index, 3))
    (k : ∀ v T' L, Stand p l e R s m args below meth c T' (locs ++ L) (cells + rm.cells) (slots + rm.slots) → Q v T'.heap L → Goes p e below P T' { g with pc := g.pc + 3, stack := v.toList ++ rest }) : Goes p e below P T g := by
  obtain ⟨cq, kq, qa, qb, qc⟩ := isOf hZ eT E
  obtain ⟨v, _, ⟨T', L', k', n'⟩, -, X', ⟨Lc, hQ, l', y', z'⟩, st⟩ := X.virtualBack hx (y := y) (z := z) hown (mvT hZ w1) (mvT hZ w2) hnf (mvT hZ w5) (mvT hZ w6) hy (backOf (W := W) hM hZ w4 w3 hf hl) qa qc hg hsize (Steps.refl _) (argsL := argsL) (rest := rest) hlen hstack hW hd (fun _ _ => ⟨has, eT, hc, hs⟩)
  dsimp only [Pt.U, Pt.locs, Pt.cells, Pt.slots] at X' l' y' z' st hQ
  subst l' y' z'
  exact Goes.on (fun _ q => st.trans q) (k v T' Lc X' hQ)
/-- what a ready payer (Back) asks and gives -/
abbrev Payer (l : Launch) (R : Room) (p : Program) (e : Env) (below : List Frame) (s : State) (args : Array Value) (y : MethodName) (W : Nat) (as' : Array Value) (h : Heap) (C N : Nat) (Q : Option Value → Heap → List Loc → Prop) : Prop :=
  Back l R p e below s args y 3 W (fun A a => a = as' ∧ A.U.heap = h ∧ A.cells + C ≤ R.cells ∧ A.slots + N ≤ R.slots) (fun A _ v B => ∃ L, Q v B.U.heap L ∧ B.locs = A.locs ++ L ∧ B.cells = A.cells + C ∧ B.slots = A.slots + N)
theorem Goes.callVB (X : Stand p l e R s m args below meth c T locs cells slots) (hx : p.tables.exec = Jvm.exec) (hZ : Z.Warmed39 s.vm) {own C : String} {index : Nat} {y z : MethodName} {as' : Array Value} {Q : Option Value → Heap → List Loc → Prop} {W nc ns : Nat}
    (hown : s.vm.findClass own = some m.cls) (w1 : (Jvm.Cond.methodLink own index y).before a0 Z = true) (w2 : (Jvm.Cond.declares y).before a0 Z = true) (hnf : NotFace s y) (w5 : (Jvm.Cond.selects C y z).before a0 Z = true) (w6 : (Jvm.Cond.instanceMethod z).before a0 Z = true) (hy : y.cls ≠ "java/lang/invoke/MethodHandle" ∧ y.cls ≠ "java/lang/invoke/VarHandle")
    (eT : T.heap = h) {a : Addr} (E : Exa Z h a C) (hK : Payer l R p e below s args z W as' h nc ns Q) (hc : cells + nc ≤ R.cells) (hs : slots + ns ≤ R.slots)
    (hg : g.method = m) (hsize : g.locals.size = c.maxLocals) {argsL rest : List Value} (has : (Value.ref a :: argsL).toArray = as') (hlen : ∀ sig, parseMethodDescriptor y.desc = some sig → argsL.length = sig.parameters.length) (hstack : g.stack = argsL.reverse ++ .ref a :: rest) (hW : 2 * g.monitorRoom + (rest.map fun v => v.category).sum ≤ W)
    (hd : decode c.code g.pc = .ok (.invokevirtual index, 3))
    (k : ∀ v T' L, Stand p l e R s m args below meth c T' (locs ++ L) (cells + nc) (slots + ns) → Q v T'.heap L → Goes p e below P T' { g with pc := g.pc + 3, stack := v.toList ++ rest }) : Goes p e below P T g := by
  obtain ⟨cq, kq, qa, qb, qc⟩ := isOf hZ eT E
  obtain ⟨v, _, ⟨T', L', k', n'⟩, -, X', ⟨Lc, hQ, l', y', z'⟩, st⟩ := X.virtualBack hx (y := y) (z := z) hown (mvT hZ w1) (mvT hZ w2) hnf (mvT hZ w5) (mvT hZ w6) hy hK qa qc hg hsize (Steps.refl _) (argsL := argsL) (rest := rest) hlen hstack hW hd (fun _ _ => ⟨has, eT, hc, hs⟩)
  dsimp only [Pt.U, Pt.locs, Pt.cells, Pt.slots] at X' l' y' z' st hQ
  subst l' y' z'
  exact Goes.on (fun _ q => st.trans q) (k v T' Lc X' hQ)
theorem Goes.callCB (X : Stand p l e R s m args below meth c T locs cells slots) (hx : p.tables.exec = Jvm.exec) (hZ : Z.Warmed39 s.vm) {own : String} {index : Nat} {y : MethodName} {bytes : ByteArray} {maxL : Nat} {as' : Array Value} {Q : Option Value → Heap → List Loc → Prop} {W nc ns : Nat} (hy1 : y.name = "<init>")
    (hown : s.vm.findClass own = some m.cls) (w1 : (Jvm.Cond.methodLink own index y).before a0 Z = true) (w2 : (Jvm.Cond.instanceMethod y).before a0 Z = true) (w4 : (Jvm.Cond.code y bytes maxL none).before a0 Z = true) (hy : y.cls ≠ "java/lang/invoke/MethodHandle" ∧ y.cls ≠ "java/lang/invoke/VarHandle")
    (eT : T.heap = h) (hK : Payer l R p e below s args y W as' h nc ns Q) (hc : cells + nc ≤ R.cells) (hs : slots + ns ≤ R.slots)
    (hg : g.method = m) (hsize : g.locals.size = c.maxLocals) {a : Addr} {argsL rest : List Value} (has : (Value.ref a :: argsL).toArray = as') (hlen : ∀ sig, parseMethodDescriptor y.desc = some sig → argsL.length = sig.parameters.length) (hstack : g.stack = argsL.reverse ++ .ref a :: rest) (hW : 2 * g.monitorRoom + (rest.map fun v => v.category).sum ≤ W)
    (hd : decode c.code g.pc = .ok (.invokespecial index, 3))
    (k : ∀ v T' L, Stand p l e R s m args below meth c T' (locs ++ L) (cells + nc) (slots + ns) → Q v T'.heap L → Goes p e below P T' { g with pc := g.pc + 3, stack := v.toList ++ rest }) : Goes p e below P T g := by
  obtain ⟨v, _, ⟨T', L', k', n'⟩, -, X', ⟨Lc, hQ, l', y', z'⟩, st⟩ := X.specialBack hx (y := y) hy1 hown (mvT hZ w1) (mvT hZ w2) (mvT hZ w4) hy hK hg hsize (Steps.refl _) (a := a) (argsL := argsL) (rest := rest) hlen hstack hW hd (fun _ _ => ⟨has, eT, hc, hs⟩)
  dsimp only [Pt.U, Pt.locs, Pt.cells, Pt.slots] at X' l' y' z' st hQ
  subst l' y' z'
  exact Goes.on (fun _ q => st.trans q) (k v T' Lc X' hQ)
/-- a private instance method (invokevirtual) by its contract -/
theorem Goes.callP (X : Stand p l e R s m args below meth c T locs cells slots) (hx : p.tables.exec = Jvm.exec) (hZ : Z.Warmed39 s.vm) {own C : String} {index ni : Nat} {y : MethodName} {bytes : ByteArray} {maxL : Nat} {ret : Option FieldType} {rm : Room} {as' : Array Value} {Q : Option Value → Heap → List Loc → Prop} (W : Nat)
    (hown : s.vm.findClass own = some m.cls) (w1 : (Jvm.Cond.methodLink own index y).before a0 Z = true) (w6 : (Jvm.Cond.instanceMethod y).before a0 Z = true) (wp : (Jvm.Cond.privateMethod y).before a0 Z = true) (wi : (Jvm.Cond.instantiable y.cls ni).before a0 Z = true) (w3 : (Jvm.Cond.initialized y.cls).before a0 Z = true) (w4 : (Jvm.Cond.code y bytes maxL ret).before a0 Z = true) (hy : y.cls ≠ "java/lang/invoke/MethodHandle" ∧ y.cls ≠ "java/lang/invoke/VarHandle")
    (eT : T.heap = h) {a : Addr} (E : Exa Z h a C) (hM : Pays l Z y bytes maxL ret [] rm as' h Q) (hf : rm.frames + 1 ≤ R.frames) (hl : W + (maxL + 11) + rm.locals ≤ R.locals) (hc : cells + rm.cells ≤ R.cells) (hs : slots + rm.slots ≤ R.slots)
    (hg : g.method = m) (hsize : g.locals.size = c.maxLocals) {argsL rest : List Value} (has : (Value.ref a :: argsL).toArray = as') (hlen : ∀ sig, parseMethodDescriptor y.desc = some sig → argsL.length = sig.parameters.length) (hstack : g.stack = argsL.reverse ++ .ref a :: rest) (hW : 2 * g.monitorRoom + (rest.map fun v => v.category).sum ≤ W)
    (hd : decode c.code g.pc = .ok (.invokevirtual index, 3))
    (k : ∀ v T' L, Stand p l e R s m args below meth c T' (locs ++ L) (cells + rm.cells) (slots + rm.slots) → Q v T'.heap L → Goes p e below P T' { g with pc := g.pc + 3, stack := v.toList ++ rest }) : Goes p e below P T g := by
  obtain ⟨ce, hce, hst⟩ := E.cell
  have hp := Cond.privateMethod_at (args := args) (mvP hZ wp)
  obtain ⟨ci, ki, i1, i2, -, i4, -⟩ := Cond.instantiable_spec (mvT (args := args) hZ wi)
  have i5 : ki.isInterface = false := by cases hq : ki.isInterface <;> simp [hq] at i4 ⊢
  have hsel := selects_self_of_private (args := args) i1 i2 i5 hp (mvT hZ w6) hy
  obtain ⟨v, _, ⟨T', L', k', n'⟩, -, X', ⟨Lc, hQ, l', y', z'⟩, st⟩ := X.privateBack hx (y := y) hown (mvT hZ w1) (mvT hZ w6) hsel hp (mvT hZ w4) hy (backOf (W := W) hM hZ w4 w3 hf hl) hg hsize (Steps.refl _) (a := a) (cell := ce) (by rw [eT]; exact hce) hst (argsL := argsL) (rest := rest) hlen hstack hW hd (fun _ _ => ⟨has, eT, hc, hs⟩)
  dsimp only [Pt.U, Pt.locs, Pt.cells, Pt.slots] at X' l' y' z' st hQ
  subst l' y' z'
  exact Goes.on (fun _ q => st.trans q) (k v T' Lc X' hQ)
theorem eqInt {t : Jvm.Term} {i : Int32} (hq : (Jvm.Cond.eq t (.int i)).value args Z none Z [] = some true) : t.eval args Z none [] Z = some (.int i) := by
  obtain ⟨x, y, e1, e2, -, k⟩ := cmp_v (Or.inl hq)
  cases Option.some.inj ((Term.int_eval i).symm.trans e2)
  obtain ⟨z, rfl⟩ := k
  rw [e1]
  simpa [Jvm.Cond.value, e1, e2] using hq
theorem fldInt {t : Jvm.Term} {C n d : String} {i : Int32} {a : Addr} (ht : t.eval args Z none [] Z = some (.ref a)) (hq : (Jvm.Cond.eq (.field t C n d) (.int i)).value args Z none Z [] = some true) : Fld Z Z.heap a C n d (.int i) := by
  refine Fld.start ((fld_at (C := C) (n := n) (dd := d) ht).symm.trans ?_)
  obtain ⟨x, y, e1, e2, -, k⟩ := cmp_v (Or.inl hq)
  cases Option.some.inj ((Term.int_eval i).symm.trans e2)
  obtain ⟨z, rfl⟩ := k
  rw [e1]
  simpa [Jvm.Cond.value, e1, e2] using hq
theorem fldRef {t u : Jvm.Term} {C n d : String} {a b : Addr} (ht : t.eval args Z none [] Z = some (.ref a)) (hu : u.eval args Z none [] Z = some (.ref b)) (hq : (Jvm.Cond.eq (.field t C n d) u).value args Z none Z [] = some true) : Fld Z Z.heap a C n d (.ref b) := by
  refine Fld.start ((fld_at (C := C) (n := n) (dd := d) ht).symm.trans ?_)
  obtain ⟨x, y, e1, e2, k, k'⟩ := cmp_v (Or.inl hq)
  cases Option.some.inj (hu.symm.trans e2)
  have := gotT (eq_R e1 e2 k'.2 rfl) hq
  rw [e1, this]
theorem lremM {g : JFrame} {target : State} (X : Stand p l e R s m args below meth c T locs cells slots) (hx : p.tables.exec = Jvm.exec) (hg : g.method = m) {x y : Int64} {rest : List Value} (hd : decode c.code g.pc = .ok (.lrem, 1)) (hs : g.stack = .long y :: .long x :: rest) (hy : y ≠ 0)
    (hr : Steps p.tables e below (T.setTop { g with pc := g.pc + 1, stack := .long (x % y) :: rest }) target) : Steps p.tables e below (T.setTop g) target :=
  XS.lrem X.here hx hg hd hs hy (by rw [lrem_mod]; exact hr)
theorem nsRoot {O K : String} {n : Nat} (w : (Jvm.Cond.noSuperclass O).before a0 Z = true) (wk : (Jvm.Cond.instantiable K n).before a0 Z = true) (hn : O ≠ K) : NS Z O K := by
  obtain ⟨c, k, h1, h2, h3, -, -⟩ := Cond.noSuperclass_spec w
  obtain ⟨t, kt, g1, -⟩ := Cond.instantiable_spec wk
  have ne := ids_ne h1 g1 hn
  refine ⟨c, t, h1, g1, fun fuel => ?_⟩
  cases fuel with
  | zero => rfl
  | succ f => simp [Vm.isSubclassAux, ne, h2, h3]
theorem nsNo {C S K : String} {n : Nat} (w : (Jvm.Cond.superclass C S).before a0 Z = true) (wk : (Jvm.Cond.instantiable K n).before a0 Z = true) (q : NS Z C K) (hn : C ≠ K) : ∃ c t, Z.vm.findClass C = some c ∧ Z.vm.findClass K = some t ∧ Z.vm.assignable c t = false := by
  obtain ⟨c, t, h0, g0, n3⟩ := q
  obtain ⟨p, k, kp, h1, h2, h3, h4, h5, -, h7⟩ := Cond.superclass_spec h0 w
  obtain ⟨t', k', g1, g2, g5, g6, -⟩ := Cond.instantiable_spec wk
  cases g0.symm.trans g1
  have g7 : k'.isInterface = false := by cases hq : k'.isInterface <;> simp [hq] at g6 ⊢
  have ne := ids_ne h0 g0 hn
  refine ⟨c, t, h0, g0, ?_⟩
  show Z.vm.assignableAux (255 + 1) c t = false
  simp [Vm.assignableAux, ne, h2, g2, h5, g5, g7, Vm.isSubclass, n3]
theorem narB {z : Int32} (h : z = 0 ∨ z = 1) : narrow .boolean (.int z) = .int z := by rcases h with rfl | rfl <;> rfl
theorem narR {t : FieldType} {v : Value} (ht : t.isReference = true) (h : v.isRef = true) : narrow t v = v := by cases t <;> first | rfl | cases ht
theorem fitR {t : FieldType} {v : Value} (ht : t.isReference = true) (h : v.isRef = true) : fits t v = true := by
  rcases ref_cases h with rfl | ⟨a, rfl⟩ <;> cases t <;> first | rfl | cases ht
theorem fitB {z : Int32} (h : z = 0 ∨ z = 1) : fits .boolean (.int z) = true := by rcases h with rfl | rfl <;> rfl
end Steps
/-- an array by what its places hold -/
def Upd {α : Type} (f : Nat → α) (j : Nat) (x : α) : Nat → α := fun i => if i = j then x else f i
def Arf {α : Type} (Z : State) (h : Heap) (a : Addr) (ty : FieldType) (con : α → Value) (n : Nat) (f : Nat → α) : Prop := ∃ c : Cell, Arr Z h a c ty ∧ c.slots.size = n ∧ ∀ i, i < n → c.slots[i]? = some (con (f i))
theorem updS {α : Type} (f : Nat → α) (j : Nat) (x : α) : Upd f j x j = x := if_pos rfl
theorem updN {α : Type} (f : Nat → α) {i j : Nat} (x : α) (h : i ≠ j) : Upd f j x i = f i := if_neg h
section Arrays
variable {p : Program} {l : Launch} {e : Env} {R : Room} {s : State} {m : MethodId} {args : Array Value} {below : List Frame} {meth : Method} {c : Code} {T T' : State} {locs : List Loc} {cells slots : Nat} {Z : State} {a0 : Array Value} {h h' : Heap} {P : Outcome → State → Prop} {g g' : JFrame} {α : Type} {con : α → Value} {a b : Addr} {ty : FieldType} {n : Nat} {f : Nat → α} {j : Int32} {rest : List Value}
theorem Arf.lt (F : Arf Z h a ty con n f) : a < h.size := by obtain ⟨c, A, -⟩ := F; exact A.lt
theorem Arf.ext (F : Arf Z h a ty con n f) (E : Ext h h') : Arf Z h' a ty con n f := by obtain ⟨c, A, r⟩ := F; exact ⟨c, A.ext E, r⟩
theorem Arf.other {sl : Nat} {v : Value} (F : Arf Z h b ty con n f) (W : Wr h h' a sl v) (q : b ≠ a) : Arf Z h' b ty con n f := by obtain ⟨c, A, r⟩ := F; exact ⟨c, A.other W q, r⟩
theorem Arf.keep {ws : List Addr} (F : Arf Z h a ty con n f) (K : Keep h h' ws) (q : a ∉ ws) : Arf Z h' a ty con n f := by obtain ⟨c, A, r⟩ := F; exact ⟨c, ⟨K.2.1 a c A.1 q, A.2⟩, r⟩
theorem Arf.new {cA : ClassId} {z : Int32} {d : α} (A : Arr Z h a (newA cA ty z) ty) (hd : defaultValue ty = con d) : Arf Z h a ty con z.toNatClampNeg (fun _ => d) :=
  ⟨_, A, sz_new _ _ _, fun i hi => by simp [newA, hi, hd]⟩
theorem Arf.set (F : Arf Z h a ty con n f) {k : Nat} {v : Value} {x : α} (W : Wr h h' a k v) (hv : v = con x) : Arf Z h' a ty con n (Upd f k x) := by
  obtain ⟨c, A, S, H⟩ := F
  refine ⟨_, A.same W, (sz_set _ _ _).trans S, fun i hi => ?_⟩
  subst hv
  by_cases q : i = k
  · subst q; simp [Cell.setSlot, Upd, S, hi]
  · have : ((c.setSlot k (con x)).slots)[i]? = c.slots[i]? := Array.getElem?_setIfInBounds_ne (Ne.symm q)
    rw [this, H i hi]; simp [Upd, q]
theorem Arf.inb {c : Cell} (S : c.slots.size = n) (hj : ¬ j < 0 ∧ j.toNatClampNeg < n) : ¬ (j < 0 ∨ c.slots.size ≤ j.toNatClampNeg) := fun q => q.elim hj.1 fun r => by omega
theorem ldJ {f : Nat → Int64} (X : Stand p l e R s m args below meth c T locs cells slots) (hx : p.tables.exec = Jvm.exec) (hZ : Z.Warmed39 s.vm) (eT : T.heap = h) (F : Arf Z h a .long Value.long n f) (hj : ¬ j < 0 ∧ j.toNatClampNeg < n) (hg : g.method = m) (hs : g.stack = .int j :: .ref a :: rest) (hd : decode c.code g.pc = .ok (.laload, 1)) {t : State}
    (k : Steps p.tables e below (T.setTop { g with pc := g.pc + 1, stack := .long (f j.toNatClampNeg) :: rest }) t) : Steps p.tables e below (T.setTop g) t := by
  obtain ⟨cl, A, S, H⟩ := F
  exact X.laload hx (by rw [eT]; exact A.1) (State.isArrayOf_alike hZ.alike A.2.1) A.2.2 (Arf.inb S hj) (H _ hj.2) hg hs hd t k
theorem ldJm {f : Nat → Int64} (X : Stand p l e R s m args below meth c T locs cells slots) (hx : p.tables.exec = Jvm.exec) (hZ : Z.Warmed39 s.vm) (eT : T.heap = h) (F : Arf Z h a .long Value.long n f) (hj : ¬ j < 0 ∧ j.toNatClampNeg < n) {pc : Nat} {Ls : Array Slot} (hd : decode c.code pc = .ok (.laload, 1)) {t : State}
    (k : Steps p.tables e below (T.setTop (mkF m (pc + 1) Ls (.long (f j.toNatClampNeg) :: rest))) t) : Steps p.tables e below (T.setTop (mkF m pc Ls (.int j :: .ref a :: rest))) t :=
  ldJ (g := mkF m pc Ls (.int j :: .ref a :: rest)) X hx hZ eT F hj rfl rfl hd k
theorem ldI {f : Nat → Int32} (X : Stand p l e R s m args below meth c T locs cells slots) (hx : p.tables.exec = Jvm.exec) (hZ : Z.Warmed39 s.vm) (eT : T.heap = h) (F : Arf Z h a .int Value.int n f) (hj : ¬ j < 0 ∧ j.toNatClampNeg < n) (hg : g.method = m) (hs : g.stack = .int j :: .ref a :: rest) (hd : decode c.code g.pc = .ok (.iaload, 1)) {t : State}
    (k : Steps p.tables e below (T.setTop { g with pc := g.pc + 1, stack := .int (f j.toNatClampNeg) :: rest }) t) : Steps p.tables e below (T.setTop g) t := by
  obtain ⟨cl, A, S, H⟩ := F
  exact X.iaload hx (by rw [eT]; exact A.1) (State.isArrayOf_alike hZ.alike A.2.1) A.2.2 (Arf.inb S hj) (H _ hj.2) hg hs hd t k
theorem ldIm {f : Nat → Int32} (X : Stand p l e R s m args below meth c T locs cells slots) (hx : p.tables.exec = Jvm.exec) (hZ : Z.Warmed39 s.vm) (eT : T.heap = h) (F : Arf Z h a .int Value.int n f) (hj : ¬ j < 0 ∧ j.toNatClampNeg < n) {pc : Nat} {Ls : Array Slot} (hd : decode c.code pc = .ok (.iaload, 1)) {t : State}
    (k : Steps p.tables e below (T.setTop (mkF m (pc + 1) Ls (.int (f j.toNatClampNeg) :: rest))) t) : Steps p.tables e below (T.setTop (mkF m pc Ls (.int j :: .ref a :: rest))) t :=
  ldI (g := mkF m pc Ls (.int j :: .ref a :: rest)) X hx hZ eT F hj rfl rfl hd k
theorem ldZ {f : Nat → Int32} (X : Stand p l e R s m args below meth c T locs cells slots) (hx : p.tables.exec = Jvm.exec) (hZ : Z.Warmed39 s.vm) (eT : T.heap = h) (F : Arf Z h a .boolean Value.int n f) (hj : ¬ j < 0 ∧ j.toNatClampNeg < n) (hg : g.method = m) (hs : g.stack = .int j :: .ref a :: rest) (hd : decode c.code g.pc = .ok (.baload, 1)) {t : State}
    (k : Steps p.tables e below (T.setTop { g with pc := g.pc + 1, stack := .int (f j.toNatClampNeg) :: rest }) t) : Steps p.tables e below (T.setTop g) t := by
  obtain ⟨cl, A, S, H⟩ := F
  exact X.baloadBooleans hx (by rw [eT]; exact A.1) (State.isArrayOf_alike hZ.alike A.2.1) A.2.2 (Arf.inb S hj) (H _ hj.2) hg hs hd t k
theorem ldZm {f : Nat → Int32} (X : Stand p l e R s m args below meth c T locs cells slots) (hx : p.tables.exec = Jvm.exec) (hZ : Z.Warmed39 s.vm) (eT : T.heap = h) (F : Arf Z h a .boolean Value.int n f) (hj : ¬ j < 0 ∧ j.toNatClampNeg < n) {pc : Nat} {Ls : Array Slot} (hd : decode c.code pc = .ok (.baload, 1)) {t : State}
    (k : Steps p.tables e below (T.setTop (mkF m (pc + 1) Ls (.int (f j.toNatClampNeg) :: rest))) t) : Steps p.tables e below (T.setTop (mkF m pc Ls (.int j :: .ref a :: rest))) t :=
  ldZ (g := mkF m pc Ls (.int j :: .ref a :: rest)) X hx hZ eT F hj rfl rfl hd k
theorem ldY {f : Nat → Int32} (X : Stand p l e R s m args below meth c T locs cells slots) (hx : p.tables.exec = Jvm.exec) (hZ : Z.Warmed39 s.vm) (eT : T.heap = h) (F : Arf Z h a .byte Value.int n f) (hj : ¬ j < 0 ∧ j.toNatClampNeg < n) (hg : g.method = m) (hs : g.stack = .int j :: .ref a :: rest) (hd : decode c.code g.pc = .ok (.baload, 1)) {t : State}
    (k : Steps p.tables e below (T.setTop { g with pc := g.pc + 1, stack := .int (f j.toNatClampNeg) :: rest }) t) : Steps p.tables e below (T.setTop g) t := by
  obtain ⟨cl, A, S, H⟩ := F
  exact X.baloadBytes hx (by rw [eT]; exact A.1) (State.isArrayOf_alike hZ.alike A.2.1) A.2.2 (Arf.inb S hj) (H _ hj.2) hg hs hd t k
theorem ldYm {f : Nat → Int32} (X : Stand p l e R s m args below meth c T locs cells slots) (hx : p.tables.exec = Jvm.exec) (hZ : Z.Warmed39 s.vm) (eT : T.heap = h) (F : Arf Z h a .byte Value.int n f) (hj : ¬ j < 0 ∧ j.toNatClampNeg < n) {pc : Nat} {Ls : Array Slot} (hd : decode c.code pc = .ok (.baload, 1)) {t : State}
    (k : Steps p.tables e below (T.setTop (mkF m (pc + 1) Ls (.int (f j.toNatClampNeg) :: rest))) t) : Steps p.tables e below (T.setTop (mkF m pc Ls (.int j :: .ref a :: rest))) t :=
  ldY (g := mkF m pc Ls (.int j :: .ref a :: rest)) X hx hZ eT F hj rfl rfl hd k
theorem ldD {f : Nat → UInt64} (X : Stand p l e R s m args below meth c T locs cells slots) (hx : p.tables.exec = Jvm.exec) (hZ : Z.Warmed39 s.vm) (eT : T.heap = h) (F : Arf Z h a .double Value.double n f) (hj : ¬ j < 0 ∧ j.toNatClampNeg < n) (hg : g.method = m) (hs : g.stack = .int j :: .ref a :: rest) (hd : decode c.code g.pc = .ok (.daload, 1)) {t : State}
    (k : Steps p.tables e below (T.setTop { g with pc := g.pc + 1, stack := .double (f j.toNatClampNeg) :: rest }) t) : Steps p.tables e below (T.setTop g) t := by
  obtain ⟨cl, A, S, H⟩ := F
  exact X.daload hx (by rw [eT]; exact A.1) (State.isArrayOf_alike hZ.alike A.2.1) A.2.2 (Arf.inb S hj) (H _ hj.2) hg hs hd t k
theorem ldDm {f : Nat → UInt64} (X : Stand p l e R s m args below meth c T locs cells slots) (hx : p.tables.exec = Jvm.exec) (hZ : Z.Warmed39 s.vm) (eT : T.heap = h) (F : Arf Z h a .double Value.double n f) (hj : ¬ j < 0 ∧ j.toNatClampNeg < n) {pc : Nat} {Ls : Array Slot} (hd : decode c.code pc = .ok (.daload, 1)) {t : State}
    (k : Steps p.tables e below (T.setTop (mkF m (pc + 1) Ls (.double (f j.toNatClampNeg) :: rest))) t) : Steps p.tables e below (T.setTop (mkF m pc Ls (.int j :: .ref a :: rest))) t :=
  ldD (g := mkF m pc Ls (.int j :: .ref a :: rest)) X hx hZ eT F hj rfl rfl hd k
theorem aLen (X : Stand p l e R s m args below meth c T locs cells slots) (hx : p.tables.exec = Jvm.exec) (hZ : Z.Warmed39 s.vm) (eT : T.heap = h) (F : Arf Z h a ty con n f) (hg : g.method = m) (hs : g.stack = .ref a :: rest) (hd : decode c.code g.pc = .ok (.arraylength, 1)) {t : State}
    (k : Steps p.tables e below (T.setTop { g with pc := g.pc + 1, stack := .int n.toInt32 :: rest }) t) : Steps p.tables e below (T.setTop g) t := by
  obtain ⟨cl, A, S, H⟩ := F
  exact X.arraylength hx (by rw [eT]; exact A.1) (State.isArrayOf_alike hZ.alike A.2.1) hg hs hd t (by rw [S]; exact k)
theorem aLenm (X : Stand p l e R s m args below meth c T locs cells slots) (hx : p.tables.exec = Jvm.exec) (hZ : Z.Warmed39 s.vm) (eT : T.heap = h) (F : Arf Z h a ty con n f) {pc : Nat} {Ls : Array Slot} (hd : decode c.code pc = .ok (.arraylength, 1)) {t : State}
    (k : Steps p.tables e below (T.setTop (mkF m (pc + 1) Ls (.int n.toInt32 :: rest))) t) : Steps p.tables e below (T.setTop (mkF m pc Ls (.ref a :: rest))) t :=
  aLen (g := mkF m pc Ls (.ref a :: rest)) X hx hZ eT F rfl rfl hd k
theorem wrJ {f : Nat → Int64} {x : Int64} (X : Stand p l e R s m args below meth c T locs cells slots) (hx : p.tables.exec = Jvm.exec) (hZ : Z.Warmed39 s.vm) (eT : T.heap = h) (F : Arf Z h a .long Value.long n f) (hj : ¬ j < 0 ∧ j.toNatClampNeg < n) (hg : g.method = m) (hs : g.stack = .long x :: .int j :: .ref a :: rest) (hd : decode c.code g.pc = .ok (.lastore, 1)) :
    ∃ T' h', Stand p l e R s m args below meth c T' (locs ++ [⟨a, j.toNatClampNeg⟩]) cells slots ∧ T'.heap = h' ∧ Wr h h' a j.toNatClampNeg (.long x) ∧ Arf Z h' a .long Value.long n (Upd f j.toNatClampNeg x) ∧ ∀ target, Steps p.tables e below (T'.setTop { g with pc := g.pc + 1, stack := rest }) target → Steps p.tables e below (T.setTop g) target := by
  have F' := F
  obtain ⟨cl, A, S, H⟩ := F
  obtain ⟨T', h', X', e', W, st⟩ := stJ X hx hZ eT A (Arf.inb S hj) hg hs hd
  exact ⟨T', h', X', e', W, F'.set W rfl, st⟩
theorem wrI {f : Nat → Int32} {x : Int32} (X : Stand p l e R s m args below meth c T locs cells slots) (hx : p.tables.exec = Jvm.exec) (hZ : Z.Warmed39 s.vm) (eT : T.heap = h) (F : Arf Z h a .int Value.int n f) (hj : ¬ j < 0 ∧ j.toNatClampNeg < n) (hg : g.method = m) (hs : g.stack = .int x :: .int j :: .ref a :: rest) (hd : decode c.code g.pc = .ok (.iastore, 1)) :
    ∃ T' h', Stand p l e R s m args below meth c T' (locs ++ [⟨a, j.toNatClampNeg⟩]) cells slots ∧ T'.heap = h' ∧ Wr h h' a j.toNatClampNeg (.int x) ∧ Arf Z h' a .int Value.int n (Upd f j.toNatClampNeg x) ∧ ∀ target, Steps p.tables e below (T'.setTop { g with pc := g.pc + 1, stack := rest }) target → Steps p.tables e below (T.setTop g) target := by
  have F' := F
  obtain ⟨cl, A, S, H⟩ := F
  obtain ⟨T', h', X', e', W, st⟩ := stI X hx hZ eT A (Arf.inb S hj) hg hs hd
  exact ⟨T', h', X', e', W, F'.set W rfl, st⟩
theorem wrD {f : Nat → UInt64} {x : UInt64} (X : Stand p l e R s m args below meth c T locs cells slots) (hx : p.tables.exec = Jvm.exec) (hZ : Z.Warmed39 s.vm) (eT : T.heap = h) (F : Arf Z h a .double Value.double n f) (hj : ¬ j < 0 ∧ j.toNatClampNeg < n) (hg : g.method = m) (hs : g.stack = .double x :: .int j :: .ref a :: rest) (hd : decode c.code g.pc = .ok (.dastore, 1)) :
    ∃ T' h', Stand p l e R s m args below meth c T' (locs ++ [⟨a, j.toNatClampNeg⟩]) cells slots ∧ T'.heap = h' ∧ Wr h h' a j.toNatClampNeg (.double x) ∧ Arf Z h' a .double Value.double n (Upd f j.toNatClampNeg x) ∧ ∀ target, Steps p.tables e below (T'.setTop { g with pc := g.pc + 1, stack := rest }) target → Steps p.tables e below (T.setTop g) target := by
  have F' := F
  obtain ⟨cl, A, S, H⟩ := F
  obtain ⟨T', h', X', e', W, st⟩ := stD X hx hZ eT A (Arf.inb S hj) hg hs hd
  exact ⟨T', h', X', e', W, F'.set W rfl, st⟩
theorem wrZ {f : Nat → Int32} {x : Int32} (X : Stand p l e R s m args below meth c T locs cells slots) (hx : p.tables.exec = Jvm.exec) (hZ : Z.Warmed39 s.vm) (eT : T.heap = h) (F : Arf Z h a .boolean Value.int n f) (hj : ¬ j < 0 ∧ j.toNatClampNeg < n) (hb : x = 0 ∨ x = 1) (hg : g.method = m) (hs : g.stack = .int x :: .int j :: .ref a :: rest) (hd : decode c.code g.pc = .ok (.bastore, 1)) :
    ∃ T' h', Stand p l e R s m args below meth c T' (locs ++ [⟨a, j.toNatClampNeg⟩]) cells slots ∧ T'.heap = h' ∧ Wr h h' a j.toNatClampNeg (.int x) ∧ Arf Z h' a .boolean Value.int n (Upd f j.toNatClampNeg x) ∧ ∀ target, Steps p.tables e below (T'.setTop { g with pc := g.pc + 1, stack := rest }) target → Steps p.tables e below (T.setTop g) target := by
  have F' := F
  obtain ⟨cl, A, S, H⟩ := F
  obtain ⟨T', h', X', e', W, st⟩ := stZ X hx hZ eT A (Arf.inb S hj) hg hs hd
  have q : nar .boolean x = x := by rcases hb with rfl | rfl <;> rfl
  rw [q] at W
  exact ⟨T', h', X', e', W, F'.set W rfl, st⟩
theorem nat32 {n : Nat} (hn : n < 2 ^ 31) : n.toInt32.toNatClampNeg = n := by
  have q : n.toInt32.toInt = n := len_toInt hn
  simp only [Int32.toNatClampNeg, q]; omega
theorem pos32 {n : Nat} (hn : n < 2 ^ 31) : ¬ n.toInt32 < 0 := by
  have q : n.toInt32.toInt = n := len_toInt hn
  rw [Int32.lt_iff_toInt_lt, q]; have k : (0 : Int32).toInt = 0 := rfl
  omega
theorem Arf.arv (F : Arf Z h a ty con n f) (hn : n < 2 ^ 31) (hf : ∀ x, fits ty (con x) = true) (d : Value) : ∃ k, Arv Z h a k ty n.toInt32 ((List.range n).map fun i => con (f i)) d := by
  obtain ⟨cl, A, S, H⟩ := F
  refine ⟨cl.cls, cl, A, rfl, by rw [nat32 hn, S], pos32 hn, fun i hi => ?_, fun i hi => ?_⟩
  · rw [S] at hi; rw [H i hi]; simp [List.getD, hi]
  · rw [S] at hi; simp [List.getD, hi, hf]
theorem Arf.arv' (F : Arf Z h a ty con n f) (hn : n < 2 ^ 31) (hf : ∀ i, i < n → fits ty (con (f i)) = true) (d : Value) : ∃ k, Arv Z h a k ty n.toInt32 ((List.range n).map fun i => con (f i)) d := by
  obtain ⟨cl, A, S, H⟩ := F
  refine ⟨cl.cls, cl, A, rfl, by rw [nat32 hn, S], pos32 hn, fun i hi => ?_, fun i hi => ?_⟩
  · rw [S] at hi; rw [H i hi]; simp [List.getD, hi]
  · rw [S] at hi; simp [List.getD, hi, hf i hi]
theorem wrC {f : Nat → Int32} {x : Int32} (X : Stand p l e R s m args below meth c T locs cells slots) (hx : p.tables.exec = Jvm.exec) (hZ : Z.Warmed39 s.vm) (eT : T.heap = h) (F : Arf Z h a .char Value.int n f) (hj : ¬ j < 0 ∧ j.toNatClampNeg < n) (hb : nar .char x = x) (hg : g.method = m) (hs : g.stack = .int x :: .int j :: .ref a :: rest) (hd : decode c.code g.pc = .ok (.castore, 1)) :
    ∃ T' h', Stand p l e R s m args below meth c T' (locs ++ [⟨a, j.toNatClampNeg⟩]) cells slots ∧ T'.heap = h' ∧ Wr h h' a j.toNatClampNeg (.int x) ∧ Arf Z h' a .char Value.int n (Upd f j.toNatClampNeg x) ∧ ∀ target, Steps p.tables e below (T'.setTop { g with pc := g.pc + 1, stack := rest }) target → Steps p.tables e below (T.setTop g) target := by
  have F' := F
  obtain ⟨cl, A, S, H⟩ := F
  obtain ⟨T', h', X', e', W, st⟩ := stC X hx hZ eT A (Arf.inb S hj) hg hs hd
  rw [hb] at W
  exact ⟨T', h', X', e', W, F'.set W rfl, st⟩
theorem narC (y : Int32) : nar .char (y.toUInt32.toUInt16.toUInt32.toInt32) = y.toUInt32.toUInt16.toUInt32.toInt32 := by
  simp only [nar, UInt32.toUInt32_toInt32, UInt16.toUInt16_toUInt32]
theorem Arv.arf {k : ClassId} {z : Int32} {vs : List Value} {d : Value} (V : Arv Z h a k ty z vs d) (hz : z.toNatClampNeg = n) (hv : ∀ i, i < n → vs.getD i d = con (f i)) : Arf Z h a ty con n f := by
  obtain ⟨cl, A, -, S, -, H, -⟩ := V
  exact ⟨cl, A, S.trans hz, fun i hi => by rw [H i (by omega), hv i hi]⟩
/-- System.arraycopy(src, 0, dst, 0, len) -/
theorem acF (X : Stand p l e R s m args below meth c T locs cells slots) (hx : p.tables.exec = Jvm.exec) (hZ : Z.Warmed39 s.vm) {own : String} {index : Nat} (hown : s.vm.findClass own = some m.cls)
    (w1 : (Jvm.Cond.methodLink own index Jvm.Stand.acN).before a0 Z = true) (w2 : (Jvm.Cond.native Jvm.Stand.acN).before a0 Z = true) (w3 : (Jvm.Cond.static Jvm.Stand.acN).before a0 Z = true) (w4 : (Jvm.Cond.initialized "java/lang/System").before a0 Z = true) (eT : T.heap = h)
    {n' : Nat} {f' : Nat → α} {nn : Int32} {len : Nat} (A : Arf Z h a ty con n f) (B : Arf Z h b ty con n' f') (hty : refKind ty = false) (hf : ∀ x, fits ty (con x) = true) (hn : n < 2 ^ 31) (hn' : n' < 2 ^ 31) (h3 : ¬ nn < 0) (hl : nn.toNatClampNeg = len) (h4 : len ≤ n) (h5 : len ≤ n') {n0 : Nat} (N : Fr n0 locs) (ge : n0 ≤ b)
    (hg : g.method = m) (hsize : g.locals.size = c.maxLocals) (hs : g.stack = .int nn :: .int 0 :: .ref b :: .int 0 :: .ref a :: rest) (hd : decode c.code g.pc = .ok (.invokestatic index, 3))
    (hfr : 1 ≤ R.frames) {W : Nat} (hW : 2 * g.monitorRoom + (rest.map fun v => v.category).sum ≤ W) (hlo : W + (nativeFrameWords "java/lang/System" "arraycopy" 5 + 11) ≤ R.locals) :
    ∃ T' h' L, Stand p l e R s m args below meth c T' L cells slots ∧ T'.heap = h' ∧ Fr n0 L ∧ Keep h h' [b] ∧ Arf Z h' b ty con n' (fun i => if i < len then f i else f' i) ∧
      ∀ target, Steps p.tables e below (T'.setTop { g with pc := g.pc + 3, stack := rest }) target → Steps p.tables e below (T.setTop g) target := by
  obtain ⟨k, VA⟩ := A.arv hn hf .null
  obtain ⟨k', VB⟩ := B.arv hn' hf .null
  have z0 : (0 : Int32).toNatClampNeg = 0 := rfl
  obtain ⟨T', h', L, X', e', F', K', V', st⟩ := cpA X hx hZ hown w1 w2 w3 w4 eT VA VB (us := (List.range nn.toNatClampNeg).map fun i => ((List.range n).map fun i => con (f i)).getD ((0 : Int32).toNatClampNeg + i) .null) (Or.inl ⟨rfl, hty⟩) (sp := 0) (dp := 0) (nn := nn) (by decide) (by decide) h3 (by rw [z0, hl, nat32 hn]; omega) (by rw [z0, hl, nat32 hn']; omega) rfl (by rw [z0, hl]; simp; omega) N ge hg hsize hs hd hfr hW hlo
  refine ⟨T', h', L, X', e', F', K', Arv.arf V' (nat32 hn') fun i hi => ?_, st⟩
  rw [z0, hl]
  by_cases q : i < len
  · have q2 : i < n := by omega
    simp [List.getD, List.getElem?_append, q, q2]
  · have q3 : len + (i - len) = i := by omega
    have q4 : i < n' := hi
    simp [List.getD, List.getElem?_append, q, q3, q4]
/-- an array of arrays, with the class that it takes -/
def Blk (Z : State) (h : Heap) (b : Addr) (ty : FieldType) (C : String) (n : Nat) (f : Nat → Value) : Prop := ∃ c : Cell, Arr Z h b c (.array ty) ∧ OvrA Z c.cls ty C ∧ c.slots.size = n ∧ ∀ i, i < n → c.slots[i]? = some (f i)
section Blks
variable {C : String} {f : Nat → Value}
theorem Blk.lt (F : Blk Z h a ty C n f) : a < h.size := by obtain ⟨c, A, -⟩ := F; exact A.lt
theorem Blk.ext (F : Blk Z h a ty C n f) (E : Ext h h') : Blk Z h' a ty C n f := by obtain ⟨c, A, r⟩ := F; exact ⟨c, A.ext E, r⟩
theorem Blk.other {sl : Nat} {v : Value} (F : Blk Z h b ty C n f) (W : Wr h h' a sl v) (q : b ≠ a) : Blk Z h' b ty C n f := by obtain ⟨c, A, r⟩ := F; exact ⟨c, A.other W q, r⟩
theorem Blk.keep {ws : List Addr} (F : Blk Z h a ty C n f) (K : Keep h h' ws) (q : a ∉ ws) : Blk Z h' a ty C n f := by obtain ⟨c, A, r⟩ := F; exact ⟨c, ⟨K.2.1 a c A.1 q, A.2⟩, r⟩
theorem Blk.new {cA : ClassId} {z : Int32} (A : Arr Z h a (newA cA (.array ty) z) (.array ty)) (O : OvrA Z cA ty C) : Blk Z h a ty C z.toNatClampNeg (fun _ => .null) :=
  ⟨_, A, O, sz_new _ _ _, fun i hi => by simp [newA, hi, defaultValue]⟩
theorem ldB (X : Stand p l e R s m args below meth c T locs cells slots) (hx : p.tables.exec = Jvm.exec) (hZ : Z.Warmed39 s.vm) (eT : T.heap = h) (F : Blk Z h a ty C n f) (hj : ¬ j < 0 ∧ j.toNatClampNeg < n) (hg : g.method = m) (hs : g.stack = .int j :: .ref a :: rest) (hd : decode c.code g.pc = .ok (.aaload, 1)) {t : State}
    (k : Steps p.tables e below (T.setTop { g with pc := g.pc + 1, stack := f j.toNatClampNeg :: rest }) t) : Steps p.tables e below (T.setTop g) t := by
  obtain ⟨cl, A, O, S, H⟩ := F
  exact X.aaload hx (by rw [eT]; exact A.1) (State.isArrayOf_alike hZ.alike A.2.1) rfl A.2.2 (Arf.inb S hj) (H _ hj.2) hg hs hd t k
theorem ldBm (X : Stand p l e R s m args below meth c T locs cells slots) (hx : p.tables.exec = Jvm.exec) (hZ : Z.Warmed39 s.vm) (eT : T.heap = h) (F : Blk Z h a ty C n f) (hj : ¬ j < 0 ∧ j.toNatClampNeg < n) {pc : Nat} {Ls : Array Slot} (hd : decode c.code pc = .ok (.aaload, 1)) {t : State}
    (k : Steps p.tables e below (T.setTop (mkF m (pc + 1) Ls (f j.toNatClampNeg :: rest))) t) : Steps p.tables e below (T.setTop (mkF m pc Ls (.int j :: .ref a :: rest))) t :=
  ldB (g := mkF m pc Ls (.int j :: .ref a :: rest)) X hx hZ eT F hj rfl rfl hd k
theorem lenB (X : Stand p l e R s m args below meth c T locs cells slots) (hx : p.tables.exec = Jvm.exec) (hZ : Z.Warmed39 s.vm) (eT : T.heap = h) (F : Blk Z h a ty C n f) (hg : g.method = m) (hs : g.stack = .ref a :: rest) (hd : decode c.code g.pc = .ok (.arraylength, 1)) {t : State}
    (k : Steps p.tables e below (T.setTop { g with pc := g.pc + 1, stack := .int n.toInt32 :: rest }) t) : Steps p.tables e below (T.setTop g) t := by
  obtain ⟨cl, A, O, S, H⟩ := F
  exact X.arraylength hx (by rw [eT]; exact A.1) (State.isArrayOf_alike hZ.alike A.2.1) hg hs hd t (by rw [S]; exact k)
theorem lenBm (X : Stand p l e R s m args below meth c T locs cells slots) (hx : p.tables.exec = Jvm.exec) (hZ : Z.Warmed39 s.vm) (eT : T.heap = h) (F : Blk Z h a ty C n f) {pc : Nat} {Ls : Array Slot} (hd : decode c.code pc = .ok (.arraylength, 1)) {t : State}
    (k : Steps p.tables e below (T.setTop (mkF m (pc + 1) Ls (.int n.toInt32 :: rest))) t) : Steps p.tables e below (T.setTop (mkF m pc Ls (.ref a :: rest))) t :=
  lenB (g := mkF m pc Ls (.ref a :: rest)) X hx hZ eT F rfl rfl hd k
theorem wrB {y : Addr} (X : Stand p l e R s m args below meth c T locs cells slots) (hx : p.tables.exec = Jvm.exec) (hZ : Z.Warmed39 s.vm) (eT : T.heap = h) (F : Blk Z h a ty C n f) (I : Ins Z h y C true) (hj : ¬ j < 0 ∧ j.toNatClampNeg < n) (hg : g.method = m) (hs : g.stack = .ref y :: .int j :: .ref a :: rest) (hd : decode c.code g.pc = .ok (.aastore, 1)) :
    ∃ T' h', Stand p l e R s m args below meth c T' (locs ++ [⟨a, j.toNatClampNeg⟩]) cells slots ∧ T'.heap = h' ∧ Wr h h' a j.toNatClampNeg (.ref y) ∧ Blk Z h' a ty C n (Upd f j.toNatClampNeg (.ref y)) ∧ ∀ target, Steps p.tables e below (T'.setTop { g with pc := g.pc + 1, stack := rest }) target → Steps p.tables e below (T.setTop g) target := by
  obtain ⟨cl, A, O, S, H⟩ := F
  obtain ⟨T', h', X', e', W, st⟩ := stR X hx hZ eT A (Arf.inb S hj) rfl (Sto.ofVA A rfl O I) hg hs hd
  refine ⟨T', h', X', e', W, ⟨_, A.same W, O, (sz_set _ _ _).trans S, fun i hi => ?_⟩, st⟩
  by_cases q : i = j.toNatClampNeg
  · subst q; simp [Cell.setSlot, Upd, S, hi]
  · have : ((cl.setSlot j.toNatClampNeg (.ref y)).slots)[i]? = cl.slots[i]? := Array.getElem?_setIfInBounds_ne (Ne.symm q)
    rw [this, H i hi]; simp [Upd, q]
theorem Blk.one {v : Value} (F : Blk Z h b ty C 1 f) (hv : f 0 = v) : Blk Z h b ty C 1 (fun _ => v) := by
  obtain ⟨c, A, O, S, H⟩ := F
  refine ⟨c, A, O, S, fun i hi => ?_⟩
  obtain rfl : i = 0 := by omega
  rw [H 0 hi, hv]
end Blks
end Arrays
end Jvm.Own
namespace Jvm.Pilot.@@N@@
open Jvm Jvm.ClassFile Sem Op Lib Jvm.Free Jvm.Stand Jvm.LawKit Jvm.RoadKit Bundle Jvm.Own Jvm.Pilot.@@N@@.Jvm.D
theorem own_w {Z : State} {a0 : Array Value} (hw : ∀ d ∈ tables_1, d.before a0 Z = true) (i : Nat) {d : Jvm.Cond} (h : tables_1[i]? = some d) : d.before a0 Z = true := hw d (List.mem_of_getElem? h)
theorem d1_0 : decode prog_10_method_2_code 0 = .ok (.lload_n 2, 1) := by decide +kernel
theorem d1_1 : decode prog_10_method_2_code 1 = .ok (.iload_n 1, 1) := by decide +kernel
theorem d1_2 : decode prog_10_method_2_code 2 = .ok (.i2l, 1) := by decide +kernel
theorem d1_3 : decode prog_10_method_2_code 3 = .ok (.lmul, 1) := by decide +kernel
theorem d1_4 : decode prog_10_method_2_code 4 = .ok (.lstore 4, 2) := by decide +kernel
theorem d1_6 : decode prog_10_method_2_code 6 = .ok (.lload 4, 2) := by decide +kernel
theorem d1_8 : decode prog_10_method_2_code 8 = .ok (.ldc2_w 23, 3) := by decide +kernel
theorem d1_11 : decode prog_10_method_2_code 11 = .ok (.ldiv, 1) := by decide +kernel
theorem d1_12 : decode prog_10_method_2_code 12 = .ok (.l2i, 1) := by decide +kernel
theorem d1_13 : decode prog_10_method_2_code 13 = .ok (.istore 6, 2) := by decide +kernel
theorem d1_15 : decode prog_10_method_2_code 15 = .ok (.lload 4, 2) := by decide +kernel
theorem d1_17 : decode prog_10_method_2_code 17 = .ok (.ldc2_w 23, 3) := by decide +kernel
theorem d1_20 : decode prog_10_method_2_code 20 = .ok (.lrem, 1) := by decide +kernel
theorem d1_21 : decode prog_10_method_2_code 21 = .ok (.l2i, 1) := by decide +kernel
theorem d1_22 : decode prog_10_method_2_code 22 = .ok (.istore 7, 2) := by decide +kernel
theorem d1_24 : decode prog_10_method_2_code 24 = .ok (.aload_n 0, 1) := by decide +kernel
theorem d1_25 : decode prog_10_method_2_code 25 = .ok (.iload 6, 2) := by decide +kernel
theorem d1_27 : decode prog_10_method_2_code 27 = .ok (.laload, 1) := by decide +kernel
theorem d1_28 : decode prog_10_method_2_code 28 = .ok (.iload 7, 2) := by decide +kernel
theorem d1_30 : decode prog_10_method_2_code 30 = .ok (.lushr, 1) := by decide +kernel
theorem d1_31 : decode prog_10_method_2_code 31 = .ok (.lstore 8, 2) := by decide +kernel
theorem d1_33 : decode prog_10_method_2_code 33 = .ok (.iload 7, 2) := by decide +kernel
theorem d1_35 : decode prog_10_method_2_code 35 = .ok (.iload_n 1, 1) := by decide +kernel
theorem d1_36 : decode prog_10_method_2_code 36 = .ok (.iadd, 1) := by decide +kernel
theorem d1_37 : decode prog_10_method_2_code 37 = .ok (.bipush 64, 2) := by decide +kernel
theorem d1_39 : decode prog_10_method_2_code 39 = .ok (.if_icmp .le 20, 3) := by decide +kernel
theorem d1_42 : decode prog_10_method_2_code 42 = .ok (.lload 8, 2) := by decide +kernel
theorem d1_44 : decode prog_10_method_2_code 44 = .ok (.aload_n 0, 1) := by decide +kernel
theorem d1_45 : decode prog_10_method_2_code 45 = .ok (.iload 6, 2) := by decide +kernel
theorem d1_47 : decode prog_10_method_2_code 47 = .ok (.iconst 1, 1) := by decide +kernel
theorem d1_48 : decode prog_10_method_2_code 48 = .ok (.iadd, 1) := by decide +kernel
theorem d1_49 : decode prog_10_method_2_code 49 = .ok (.laload, 1) := by decide +kernel
theorem d1_50 : decode prog_10_method_2_code 50 = .ok (.bipush 64, 2) := by decide +kernel
theorem d1_52 : decode prog_10_method_2_code 52 = .ok (.iload 7, 2) := by decide +kernel
theorem d1_54 : decode prog_10_method_2_code 54 = .ok (.isub, 1) := by decide +kernel
theorem d1_55 : decode prog_10_method_2_code 55 = .ok (.lshl, 1) := by decide +kernel
theorem d1_56 : decode prog_10_method_2_code 56 = .ok (.lor, 1) := by decide +kernel
theorem d1_57 : decode prog_10_method_2_code 57 = .ok (.lstore 8, 2) := by decide +kernel
theorem d1_59 : decode prog_10_method_2_code 59 = .ok (.lload 8, 2) := by decide +kernel
theorem d1_61 : decode prog_10_method_2_code 61 = .ok (.ldc2_w 29, 3) := by decide +kernel
theorem d1_64 : decode prog_10_method_2_code 64 = .ok (.bipush 64, 2) := by decide +kernel
theorem d1_66 : decode prog_10_method_2_code 66 = .ok (.iload_n 1, 1) := by decide +kernel
theorem d1_67 : decode prog_10_method_2_code 67 = .ok (.isub, 1) := by decide +kernel
theorem d1_68 : decode prog_10_method_2_code 68 = .ok (.lushr, 1) := by decide +kernel
theorem d1_69 : decode prog_10_method_2_code 69 = .ok (.land, 1) := by decide +kernel
theorem d1_70 : decode prog_10_method_2_code 70 = .ok (.lreturn, 1) := by decide +kernel
theorem ef_0 (m : MethodId) (x0 : Addr) (x1 : Int32) (x2 : Int64) : entryFrame m #[(.ref x0), (.int x1), (.long x2)] 10 = mkF m 0 #[.val (.ref x0), .val (.int x1), .val (.long x2), .second, .unset, .unset, .unset, .unset, .unset, .unset] [] := by first | (simp [entryFrame, mkF, argsToLocals, Value.category]; done) | rfl
theorem pn_0 : plainName "com/example/boceto/boceto/format/PackedValues" = true := by first | (simp [plainName, overriddenIn]; done) | decide +kernel
def F1 (x1 : Int32) (x2 : Int64) (f : Nat → Int64) : Int64 := (if (64 : Int32) < (((x2 * x1.toInt64) % (64 : Int64)).toInt32 + x1) then ((((f (((x2 * x1.toInt64) / (64 : Int64)).toInt32).toNatClampNeg).toUInt64 >>> (((x2 * x1.toInt64) % (64 : Int64)).toInt32 &&& 0x3f).toInt64.toUInt64).toInt64 ||| ((f (((x2 * x1.toInt64) / (64 : Int64)).toInt32 + (1 : Int32)).toNatClampNeg) <<< (((64 : Int32) - ((x2 * x1.toInt64) % (64 : Int64)).toInt32) &&& 0x3f).toInt64)) &&& ((-1 : Int64).toUInt64 >>> (((64 : Int32) - x1) &&& 0x3f).toInt64.toUInt64).toInt64) else (((f (((x2 * x1.toInt64) / (64 : Int64)).toInt32).toNatClampNeg).toUInt64 >>> (((x2 * x1.toInt64) % (64 : Int64)).toInt32 &&& 0x3f).toInt64.toUInt64).toInt64 &&& ((-1 : Int64).toUInt64 >>> (((64 : Int32) - x1) &&& 0x3f).toInt64.toUInt64).toInt64))
set_option maxRecDepth 65536 in
set_option maxHeartbeats 40000000 in
theorem rm1 (l : Launch) (Z : State) (a0 : Array Value) (hw : ∀ d ∈ tables_1, d.before a0 Z = true) (x0 : Addr) (x1 : Int32) (x2 : Int64) (f : Nat → Int64) (h0 : Heap) (n0 : Nat) (Z0 : n0 ≤ h0.size) (B0 : Arf Z h0 x0 .long Value.long 3 f) (hk : ¬ ((x2 * x1.toInt64) / (64 : Int64)).toInt32 < 0 ∧ (((x2 * x1.toInt64) / (64 : Int64)).toInt32).toNatClampNeg < 3) (hk1 : (64 : Int32) < (((x2 * x1.toInt64) % (64 : Int64)).toInt32 + x1) → ¬ (((x2 * x1.toInt64) / (64 : Int64)).toInt32 + (1 : Int32)) < 0 ∧ ((((x2 * x1.toInt64) / (64 : Int64)).toInt32 + (1 : Int32))).toNatClampNeg < 3) :
    Pays l Z (⟨"com/example/boceto/boceto/format/PackedValues", "valueAt", "([JIJ)J"⟩ : MethodName) prog_10_method_2_code 10 (some .long) [] ({ frames := 0, cells := 0, slots := 0, locals := 0 } : Room) #[(.ref x0), (.int x1), (.long x2)] h0 (fun v h L => v = some (.long (F1 x1 x2 f)) ∧ Fr n0 L ∧ h = h0) := by
  refine Pays.walk (plainFor_of_name pn_0) (fun m => ef_0 m x0 x1 x2 ) ?_
  intro p e s m below meth c T0 X0 hx hby hml hown hnm hZ e0 hret hlk
  have N0 := Fr.nil n0
  refine Goes.on (T' := T0) (g' := (mkF m 20 #[.val (.ref x0), .val (.int x1), .val (.long x2), .second, .val (.long (x2 * x1.toInt64)), .second, .val (.int (((x2 * x1.toInt64) / (64 : Int64)).toInt32)), .unset, .unset, .unset] [(.long (64 : Int64)), (.long (x2 * x1.toInt64))])) (fun _ k => XS.lloadN X0.here hx rfl (hb hby d1_0) rfl (XS.iloadN X0.here hx rfl (hb hby d1_1) rfl (XS.i2l X0.here hx rfl (hb hby d1_2) rfl (XS.lmul X0.here hx rfl (hb hby d1_3) rfl (XS.lstore X0.here hx rfl (hb hby d1_4) rfl (l' := #[.val (.ref x0), .val (.int x1), .val (.long x2), .second, .val (.long (x2 * x1.toInt64)), .second, .unset, .unset, .unset, .unset]) rfl (XS.lload X0.here hx rfl (hb hby d1_6) rfl (X0.ldc2Long hx hown (mvT hZ (own_w hw 8 rfl)) (g := (mkF m 8 #[.val (.ref x0), .val (.int x1), .val (.long x2), .second, .val (.long (x2 * x1.toInt64)), .second, .unset, .unset, .unset, .unset] [(.long (x2 * x1.toInt64))])) rfl (hb hby d1_8) _ (XS.ldiv X0.here hx rfl (hb hby d1_11) rfl (by decide) (XT.l2i X0.here hx rfl (hb hby d1_12) rfl (XS.istore X0.here hx rfl (hb hby d1_13) rfl (l' := #[.val (.ref x0), .val (.int x1), .val (.long x2), .second, .val (.long (x2 * x1.toInt64)), .second, .val (.int (((x2 * x1.toInt64) / (64 : Int64)).toInt32)), .unset, .unset, .unset]) rfl (XS.lload X0.here hx rfl (hb hby d1_15) rfl (X0.ldc2Long hx hown (mvT hZ (own_w hw 8 rfl)) (g := (mkF m 17 #[.val (.ref x0), .val (.int x1), .val (.long x2), .second, .val (.long (x2 * x1.toInt64)), .second, .val (.int (((x2 * x1.toInt64) / (64 : Int64)).toInt32)), .unset, .unset, .unset] [(.long (x2 * x1.toInt64))])) rfl (hb hby d1_17) _ k)))))))))))) ?_
  refine Goes.on (T' := T0) (g' := (mkF m 37 #[.val (.ref x0), .val (.int x1), .val (.long x2), .second, .val (.long (x2 * x1.toInt64)), .second, .val (.int (((x2 * x1.toInt64) / (64 : Int64)).toInt32)), .val (.int (((x2 * x1.toInt64) % (64 : Int64)).toInt32)), .val (.long (((f (((x2 * x1.toInt64) / (64 : Int64)).toInt32).toNatClampNeg).toUInt64 >>> (((x2 * x1.toInt64) % (64 : Int64)).toInt32 &&& 0x3f).toInt64.toUInt64).toInt64)), .second] [(.int (((x2 * x1.toInt64) % (64 : Int64)).toInt32 + x1))])) (fun _ k => lremM X0 hx rfl (hb hby d1_20) rfl (by decide) (XT.l2i X0.here hx rfl (hb hby d1_21) rfl (XS.istore X0.here hx rfl (hb hby d1_22) rfl (l' := #[.val (.ref x0), .val (.int x1), .val (.long x2), .second, .val (.long (x2 * x1.toInt64)), .second, .val (.int (((x2 * x1.toInt64) / (64 : Int64)).toInt32)), .val (.int (((x2 * x1.toInt64) % (64 : Int64)).toInt32)), .unset, .unset]) rfl (XS.aloadN X0.here hx rfl (hb hby d1_24) rfl rfl (XS.iload X0.here hx rfl (hb hby d1_25) rfl (ldJm X0 hx hZ e0 B0 hk (hb hby d1_27) (XS.iload X0.here hx rfl (hb hby d1_28) rfl (XS.lushr X0.here hx rfl (hb hby d1_30) rfl (XS.lstore X0.here hx rfl (hb hby d1_31) rfl (l' := #[.val (.ref x0), .val (.int x1), .val (.long x2), .second, .val (.long (x2 * x1.toInt64)), .second, .val (.int (((x2 * x1.toInt64) / (64 : Int64)).toInt32)), .val (.int (((x2 * x1.toInt64) % (64 : Int64)).toInt32)), .val (.long (((f (((x2 * x1.toInt64) / (64 : Int64)).toInt32).toNatClampNeg).toUInt64 >>> (((x2 * x1.toInt64) % (64 : Int64)).toInt32 &&& 0x3f).toInt64.toUInt64).toInt64)), .second]) rfl (XS.iload X0.here hx rfl (hb hby d1_33) rfl (XS.iloadN X0.here hx rfl (hb hby d1_35) rfl (XS.iadd X0.here hx rfl (hb hby d1_36) rfl k)))))))))))) ?_
  refine Goes.on (T' := T0) (g' := (mkF m 39 #[.val (.ref x0), .val (.int x1), .val (.long x2), .second, .val (.long (x2 * x1.toInt64)), .second, .val (.int (((x2 * x1.toInt64) / (64 : Int64)).toInt32)), .val (.int (((x2 * x1.toInt64) % (64 : Int64)).toInt32)), .val (.long (((f (((x2 * x1.toInt64) / (64 : Int64)).toInt32).toNatClampNeg).toUInt64 >>> (((x2 * x1.toInt64) % (64 : Int64)).toInt32 &&& 0x3f).toInt64.toUInt64).toInt64)), .second] [(.int (64 : Int32)), (.int (((x2 * x1.toInt64) % (64 : Int64)).toInt32 + x1))])) (fun _ k => XS.bipush X0.here hx rfl (hb hby d1_37) k) ?_
  by_cases hc2 : (64 : Int32) < (((x2 * x1.toInt64) % (64 : Int64)).toInt32 + x1)
  · refine Goes.on (T' := T0) (g' := (mkF m 57 #[.val (.ref x0), .val (.int x1), .val (.long x2), .second, .val (.long (x2 * x1.toInt64)), .second, .val (.int (((x2 * x1.toInt64) / (64 : Int64)).toInt32)), .val (.int (((x2 * x1.toInt64) % (64 : Int64)).toInt32)), .val (.long (((f (((x2 * x1.toInt64) / (64 : Int64)).toInt32).toNatClampNeg).toUInt64 >>> (((x2 * x1.toInt64) % (64 : Int64)).toInt32 &&& 0x3f).toInt64.toUInt64).toInt64)), .second] [(.long (((f (((x2 * x1.toInt64) / (64 : Int64)).toInt32).toNatClampNeg).toUInt64 >>> (((x2 * x1.toInt64) % (64 : Int64)).toInt32 &&& 0x3f).toInt64.toUInt64).toInt64 ||| ((f (((x2 * x1.toInt64) / (64 : Int64)).toInt32 + (1 : Int32)).toNatClampNeg) <<< (((64 : Int32) - ((x2 * x1.toInt64) % (64 : Int64)).toInt32) &&& 0x3f).toInt64)))])) (fun _ k => XS.icmpNo X0.here hx rfl (hb hby d1_39) rfl (XT.ii_le_f hc2) (XS.lload X0.here hx rfl (hb hby d1_42) rfl (XS.aloadN X0.here hx rfl (hb hby d1_44) rfl rfl (XS.iload X0.here hx rfl (hb hby d1_45) rfl (XS.iconst X0.here hx rfl (hb hby d1_47) (XS.iadd X0.here hx rfl (hb hby d1_48) rfl (ldJm X0 hx hZ e0 B0 (hk1 hc2) (hb hby d1_49) (XS.bipush X0.here hx rfl (hb hby d1_50) (XS.iload X0.here hx rfl (hb hby d1_52) rfl (XS.isub X0.here hx rfl (hb hby d1_54) rfl (XS.lshl X0.here hx rfl (hb hby d1_55) rfl (XS.lor X0.here hx rfl (hb hby d1_56) rfl k)))))))))))) ?_
    refine Goes.on (T' := T0) (g' := (mkF m 70 #[.val (.ref x0), .val (.int x1), .val (.long x2), .second, .val (.long (x2 * x1.toInt64)), .second, .val (.int (((x2 * x1.toInt64) / (64 : Int64)).toInt32)), .val (.int (((x2 * x1.toInt64) % (64 : Int64)).toInt32)), .val (.long (((f (((x2 * x1.toInt64) / (64 : Int64)).toInt32).toNatClampNeg).toUInt64 >>> (((x2 * x1.toInt64) % (64 : Int64)).toInt32 &&& 0x3f).toInt64.toUInt64).toInt64 ||| ((f (((x2 * x1.toInt64) / (64 : Int64)).toInt32 + (1 : Int32)).toNatClampNeg) <<< (((64 : Int32) - ((x2 * x1.toInt64) % (64 : Int64)).toInt32) &&& 0x3f).toInt64))), .second] [(.long ((((f (((x2 * x1.toInt64) / (64 : Int64)).toInt32).toNatClampNeg).toUInt64 >>> (((x2 * x1.toInt64) % (64 : Int64)).toInt32 &&& 0x3f).toInt64.toUInt64).toInt64 ||| ((f (((x2 * x1.toInt64) / (64 : Int64)).toInt32 + (1 : Int32)).toNatClampNeg) <<< (((64 : Int32) - ((x2 * x1.toInt64) % (64 : Int64)).toInt32) &&& 0x3f).toInt64)) &&& ((-1 : Int64).toUInt64 >>> (((64 : Int32) - x1) &&& 0x3f).toInt64.toUInt64).toInt64))])) (fun _ k => XS.lstore X0.here hx rfl (hb hby d1_57) rfl (l' := #[.val (.ref x0), .val (.int x1), .val (.long x2), .second, .val (.long (x2 * x1.toInt64)), .second, .val (.int (((x2 * x1.toInt64) / (64 : Int64)).toInt32)), .val (.int (((x2 * x1.toInt64) % (64 : Int64)).toInt32)), .val (.long (((f (((x2 * x1.toInt64) / (64 : Int64)).toInt32).toNatClampNeg).toUInt64 >>> (((x2 * x1.toInt64) % (64 : Int64)).toInt32 &&& 0x3f).toInt64.toUInt64).toInt64 ||| ((f (((x2 * x1.toInt64) / (64 : Int64)).toInt32 + (1 : Int32)).toNatClampNeg) <<< (((64 : Int32) - ((x2 * x1.toInt64) % (64 : Int64)).toInt32) &&& 0x3f).toInt64))), .second]) rfl (XS.lload X0.here hx rfl (hb hby d1_59) rfl (X0.ldc2Long hx hown (mvT hZ (own_w hw 9 rfl)) (g := (mkF m 61 #[.val (.ref x0), .val (.int x1), .val (.long x2), .second, .val (.long (x2 * x1.toInt64)), .second, .val (.int (((x2 * x1.toInt64) / (64 : Int64)).toInt32)), .val (.int (((x2 * x1.toInt64) % (64 : Int64)).toInt32)), .val (.long (((f (((x2 * x1.toInt64) / (64 : Int64)).toInt32).toNatClampNeg).toUInt64 >>> (((x2 * x1.toInt64) % (64 : Int64)).toInt32 &&& 0x3f).toInt64.toUInt64).toInt64 ||| ((f (((x2 * x1.toInt64) / (64 : Int64)).toInt32 + (1 : Int32)).toNatClampNeg) <<< (((64 : Int32) - ((x2 * x1.toInt64) % (64 : Int64)).toInt32) &&& 0x3f).toInt64))), .second] [(.long (((f (((x2 * x1.toInt64) / (64 : Int64)).toInt32).toNatClampNeg).toUInt64 >>> (((x2 * x1.toInt64) % (64 : Int64)).toInt32 &&& 0x3f).toInt64.toUInt64).toInt64 ||| ((f (((x2 * x1.toInt64) / (64 : Int64)).toInt32 + (1 : Int32)).toNatClampNeg) <<< (((64 : Int32) - ((x2 * x1.toInt64) % (64 : Int64)).toInt32) &&& 0x3f).toInt64)))])) rfl (hb hby d1_61) _ (XS.bipush X0.here hx rfl (hb hby d1_64) (XS.iloadN X0.here hx rfl (hb hby d1_66) rfl (XS.isub X0.here hx rfl (hb hby d1_67) rfl (XS.lushr X0.here hx rfl (hb hby d1_68) rfl (XS.land X0.here hx rfl (hb hby d1_69) rfl k)))))))) ?_
    exact Goes.retJ X0 hx hlk hret (hb hby d1_70) (by decide) (by decide) ⟨(by unfold F1; rw [if_pos hc2]), N0, e0⟩
  · refine Goes.on (T' := T0) (g' := (mkF m 70 #[.val (.ref x0), .val (.int x1), .val (.long x2), .second, .val (.long (x2 * x1.toInt64)), .second, .val (.int (((x2 * x1.toInt64) / (64 : Int64)).toInt32)), .val (.int (((x2 * x1.toInt64) % (64 : Int64)).toInt32)), .val (.long (((f (((x2 * x1.toInt64) / (64 : Int64)).toInt32).toNatClampNeg).toUInt64 >>> (((x2 * x1.toInt64) % (64 : Int64)).toInt32 &&& 0x3f).toInt64.toUInt64).toInt64)), .second] [(.long (((f (((x2 * x1.toInt64) / (64 : Int64)).toInt32).toNatClampNeg).toUInt64 >>> (((x2 * x1.toInt64) % (64 : Int64)).toInt32 &&& 0x3f).toInt64.toUInt64).toInt64 &&& ((-1 : Int64).toUInt64 >>> (((64 : Int32) - x1) &&& 0x3f).toInt64.toUInt64).toInt64))])) (fun _ k => XS.icmpYes X0.here hx rfl (pc0 := 39) (pc' := 59) rfl (hb hby d1_39) rfl (XT.ii_le_t hc2) (by decide) (by decide) (XS.lload X0.here hx rfl (hb hby d1_59) rfl (X0.ldc2Long hx hown (mvT hZ (own_w hw 9 rfl)) (g := (mkF m 61 #[.val (.ref x0), .val (.int x1), .val (.long x2), .second, .val (.long (x2 * x1.toInt64)), .second, .val (.int (((x2 * x1.toInt64) / (64 : Int64)).toInt32)), .val (.int (((x2 * x1.toInt64) % (64 : Int64)).toInt32)), .val (.long (((f (((x2 * x1.toInt64) / (64 : Int64)).toInt32).toNatClampNeg).toUInt64 >>> (((x2 * x1.toInt64) % (64 : Int64)).toInt32 &&& 0x3f).toInt64.toUInt64).toInt64)), .second] [(.long (((f (((x2 * x1.toInt64) / (64 : Int64)).toInt32).toNatClampNeg).toUInt64 >>> (((x2 * x1.toInt64) % (64 : Int64)).toInt32 &&& 0x3f).toInt64.toUInt64).toInt64))])) rfl (hb hby d1_61) _ (XS.bipush X0.here hx rfl (hb hby d1_64) (XS.iloadN X0.here hx rfl (hb hby d1_66) rfl (XS.isub X0.here hx rfl (hb hby d1_67) rfl (XS.lushr X0.here hx rfl (hb hby d1_68) rfl (XS.land X0.here hx rfl (hb hby d1_69) rfl k)))))))) ?_
    exact Goes.retJ X0 hx hlk hret (hb hby d1_70) (by decide) (by decide) ⟨(by unfold F1; rw [if_neg hc2]), N0, e0⟩
theorem own_nz {x : Int32} (h : x.toInt ≠ 0) : x ≠ 0 := fun q => h (by rw [q]; rfl)
theorem own_ww (x : Int32) : 1 ≤ ((x &&& (63 : Int32)) + (1 : Int32)).toInt ∧ ((x &&& (63 : Int32)) + (1 : Int32)).toInt ≤ 64 := by
  have h := c_mask x (63 : Int32) 6 (by decide) (by decide)
  have a := c_iadd (x &&& (63 : Int32)) (1 : Int32)
  have r := rng32 ((x &&& (63 : Int32)) + (1 : Int32))
  have k1 : (1 : Int32).toInt = 1 := rfl
  omega
theorem own_c {W C : Int32} (bW : 1 ≤ W.toInt ∧ W.toInt ≤ 64) (hC : (192 : Int32) / W = C) : (1 ≤ C.toInt ∧ C.toInt ≤ 192) ∧ C.toInt * W.toInt ≤ 192 := by
  have h := (c_idiv (192 : Int32) W W.toInt rfl (fun q => by rw [q] at bW; exact absurd bW.1 (by decide))).1 (by decide)
  rw [hC] at h
  have k : (192 : Int32).toInt = 192 := rfl
  rw [k] at h
  have h1 : 192 / W.toInt * W.toInt ≤ 192 := Int.ediv_mul_le _ (by omega)
  have h2 : 1 ≤ 192 / W.toInt := by
    have : (1 : Int) * W.toInt ≤ 192 := by omega
    exact (Int.le_ediv_iff_mul_le (by omega)).mpr this
  have h3 : 192 / W.toInt ≤ 192 := Int.ediv_le_self _ (by decide)
  rw [h]; exact ⟨⟨h2, h3⟩, h1⟩
theorem own_i {x C : Int32} {I : Int64} (bC : 1 ≤ C.toInt ∧ C.toInt ≤ 192) (hI : ((x &&& (2147483647 : Int32)) % C).toInt64 = I) : 0 ≤ I.toInt ∧ I.toInt < C.toInt := by
  have h := c_mask x (2147483647 : Int32) 31 (by decide) (by decide)
  have h2 := (c_irem (x &&& (2147483647 : Int32)) C C.toInt rfl).1 (by rw [h]; exact Int.emod_nonneg _ (by decide))
  rw [← hI, c_i2l, h2]
  exact ⟨Int.emod_nonneg _ (by omega), Int.emod_lt_of_pos _ (by omega)⟩
theorem own_s {W C : Int32} {I SS : Int64} (bW : 1 ≤ W.toInt ∧ W.toInt ≤ 64) (bC : (1 ≤ C.toInt ∧ C.toInt ≤ 192) ∧ C.toInt * W.toInt ≤ 192) (bI : 0 ≤ I.toInt ∧ I.toInt < C.toInt) (hS : (I * W.toInt64) = SS) : 0 ≤ SS.toInt ∧ SS.toInt + W.toInt ≤ 192 := by
  have h := c_lmul I W.toInt64
  rw [hS, c_i2l] at h
  have r := rng64 SS
  have h0 : 0 ≤ I.toInt * W.toInt := Int.mul_nonneg bI.1 (by omega)
  have h1 : (I.toInt + 1) * W.toInt ≤ C.toInt * W.toInt := Int.mul_le_mul_of_nonneg_right (by omega) (by omega)
  rw [Int.add_mul] at h1
  generalize I.toInt * W.toInt = Y at *
  omega
theorem own_k {W K O : Int32} {SS : Int64} (bS : 0 ≤ SS.toInt ∧ SS.toInt + W.toInt ≤ 192) (bW : 1 ≤ W.toInt ∧ W.toInt ≤ 64) (hK : (SS / (64 : Int64)).toInt32 = K) (hO : (SS % (64 : Int64)).toInt32 = O) : (0 ≤ K.toInt ∧ K.toInt ≤ 2) ∧ (0 ≤ O.toInt ∧ O.toInt < 64) ∧ K.toInt * 64 + O.toInt = SS.toInt := by
  have h1 := (c_ldiv SS (64 : Int64) 64 rfl (by decide)).1 bS.1
  have h2 : (SS % (64 : Int64)).toInt = SS.toInt % 64 := by
    rw [Int64.toInt_mod]; exact (tr SS.toInt 64).1 bS.1
  have h3 := c_l2i (SS / (64 : Int64))
  have h4 := c_l2i (SS % (64 : Int64))
  rw [hK] at h3; rw [hO] at h4
  have r1 := rng32 K
  have r2 := rng32 O
  omega
theorem own_in {j : Int32} {n : Nat} (h0 : 0 ≤ j.toInt) (h1 : j.toInt < n) : ¬ j < 0 ∧ j.toNatClampNeg < n := by
  refine ⟨fun q => ?_, ?_⟩
  · rw [Int32.lt_iff_toInt_lt] at q; have k : (0 : Int32).toInt = 0 := rfl; omega
  · simp only [Int32.toNatClampNeg]; omega
theorem own_in1 {j : Int32} {n : Nat} (h0 : 0 ≤ j.toInt) (h1 : j.toInt + 1 < n) (hn : (n : Int) < 2147483647 := by decide) : ¬ (j + (1 : Int32)) < 0 ∧ (j + (1 : Int32)).toNatClampNeg < n := by
  have a := c_iadd j (1 : Int32)
  have k1 : (1 : Int32).toInt = 1 := rfl
  have r := rng32 (j + (1 : Int32))
  exact own_in (by omega) (by omega)
theorem own_add {W O : Int32} (bW : 1 ≤ W.toInt ∧ W.toInt ≤ 64) (bO : 0 ≤ O.toInt ∧ O.toInt < 64) : (O + W).toInt = O.toInt + W.toInt := by
  have a := c_iadd O W
  have r := rng32 (O + W)
  omega
theorem own_sum {W O : Int32} (bW : 1 ≤ W.toInt ∧ W.toInt ≤ 64) (bO : 0 ≤ O.toInt ∧ O.toInt < 64) (h : (64 : Int32) < (O + W)) : 64 < O.toInt + W.toInt := by
  rw [Int32.lt_iff_toInt_lt, own_add bW bO] at h
  exact h
theorem own_le {W O : Int32} (bW : 1 ≤ W.toInt ∧ W.toInt ≤ 64) (bO : 0 ≤ O.toInt ∧ O.toInt < 64) (h : ¬ (64 : Int32) < (O + W)) : O.toInt + W.toInt ≤ 64 := by
  rw [Int32.lt_iff_toInt_lt, own_add bW bO] at h
  have k : (64 : Int32).toInt = 64 := rfl
  omega
theorem own_shl (x : Int64) (q : Int32) (k : Nat) (hk : q.toBitVec.toNat % 64 = k) : (x <<< (q &&& 0x3f).toInt64).toBitVec = x.toBitVec <<< k := by
  show x.toBitVec <<< ((q &&& 0x3f).toInt64.toBitVec.smod 64) = _
  rw [BitVec.shiftLeft_eq', (sm64 q k hk).1, smod64 k (sm64 q k hk).2]
theorem own_ushr (x : Int64) (q : Int32) (k : Nat) (hk : q.toBitVec.toNat % 64 = k) : ((x.toUInt64 >>> (q &&& 0x3f).toInt64.toUInt64).toInt64).toBitVec = x.toBitVec >>> k := by
  have h5 := (sm64 q k hk).2
  show x.toBitVec >>> ((q &&& 0x3f).toInt64.toBitVec % 64) = _
  rw [BitVec.ushiftRight_eq', BitVec.toNat_umod, (sm64 q k hk).1, BitVec.toNat_ofNat]
  congr 1; show k % 2 ^ 64 % 64 = k; omega
theorem own_tn {q : Int32} (h : 0 ≤ q.toInt) : q.toBitVec.toNat = q.toInt.toNat := by
  have e : q.toInt = q.toBitVec.toInt := rfl
  rw [e] at h ⊢
  rw [BitVec.toInt_eq_toNat_cond] at h ⊢
  have := q.toBitVec.isLt
  split at h
  · rename_i hh; rw [if_pos hh]; rfl
  · omega
theorem own_tn64 {q : Int32} (h : 0 ≤ q.toInt) (h2 : q.toInt < 64) : q.toBitVec.toNat % 64 = q.toInt.toNat := by rw [own_tn h]; omega
theorem own_mask1 {W : Int32} (h : W = (64 : Int32)) : ∀ i, (-1 : Int64).toBitVec.getLsbD i = decide (i < W.toInt.toNat) := by
  intro i
  subst h
  have e : (-1 : Int64).toBitVec = BitVec.allOnes 64 := by decide
  rw [e, BitVec.getLsbD_allOnes]
  rfl
theorem own_mask2 {W : Int32} (bW : 1 ≤ W.toInt ∧ W.toInt ≤ 64) (h : ¬ W = (64 : Int32)) : ∀ i, (((1 : Int64) <<< (W &&& 0x3f).toInt64) - (1 : Int64)).toBitVec.getLsbD i = decide (i < W.toInt.toNat) := by
  intro i
  have hne : W.toInt ≠ 64 := fun q => h (Int32.toInt_inj.mp (by rw [q]; rfl))
  have hlt : W.toInt.toNat < 64 := by omega
  have e : (((1 : Int64) <<< (W &&& 0x3f).toInt64) - (1 : Int64)).toBitVec = ((1 : Int64) <<< (W &&& 0x3f).toInt64).toBitVec - 1#64 := rfl
  rw [e, own_shl _ _ _ (own_tn64 (by omega) (by omega))]
  have e1 : (1 : Int64).toBitVec = 1#64 := rfl
  have h2 : 2 ^ W.toInt.toNat < 2 ^ 64 := Nat.pow_lt_pow_right (by decide) hlt
  have h1 : 1 ≤ 2 ^ W.toInt.toNat := Nat.one_le_two_pow
  have t : ((1 : Int64).toBitVec <<< W.toInt.toNat - 1#64).toNat = 2 ^ W.toInt.toNat - 1 := by
    rw [e1, BitVec.toNat_sub, BitVec.toNat_shiftLeft, BitVec.toNat_ofNat, Nat.shiftLeft_eq]
    generalize 2 ^ W.toInt.toNat = Y at *
    omega
  rw [BitVec.getLsbD, t, Nat.testBit_two_pow_sub_one]
theorem own_low {W : Int32} (bW : 1 ≤ W.toInt ∧ W.toInt ≤ 64) : ∀ i, (((-1 : Int64).toUInt64 >>> (((64 : Int32) - W) &&& 0x3f).toInt64.toUInt64).toInt64).toBitVec.getLsbD i = decide (i < W.toInt.toNat) := by
  intro i
  have a := c_isub (64 : Int32) W
  have k : (64 : Int32).toInt = 64 := rfl
  have r := rng32 ((64 : Int32) - W)
  have e0 : ((64 : Int32) - W).toInt = 64 - W.toInt := by omega
  rw [own_ushr _ _ (64 - W.toInt.toNat) (by rw [own_tn64 (by omega) (by omega)]; omega)]
  have e : (-1 : Int64).toBitVec = BitVec.allOnes 64 := by decide
  rw [e, BitVec.getLsbD_ushiftRight, BitVec.getLsbD_allOnes]
  congr 1
  apply propext
  omega
theorem own_fin1 {W K O : Int32} {I SS M v w0 : Int64} {g : Nat → Int64} (hS : I * W.toInt64 = SS) (hK : (SS / (64 : Int64)).toInt32 = K) (hO : (SS % (64 : Int64)).toInt32 = O) (bW : 1 ≤ W.toInt ∧ W.toInt ≤ 64) (bO : 0 ≤ O.toInt ∧ O.toInt < 64) (hM : ∀ i, M.toBitVec.getLsbD i = decide (i < W.toInt.toNat)) (hc : ¬ (64 : Int32) < (O + W))
    (hg : g K.toNatClampNeg = ((w0 &&& ((M <<< (O &&& 0x3f).toInt64) ^^^ (-1 : Int64))) ||| ((v &&& M) <<< (O &&& 0x3f).toInt64))) : F1 W I g = (v &&& M) := by
  have hl := own_le bW bO hc
  have hlow := own_low bW
  unfold F1
  rw [hS, hK, hO, if_neg hc, hg]
  apply Int64.toBitVec_inj.mp
  have ho := own_tn64 bO.1 bO.2
  have e : (-1 : Int64).toBitVec = BitVec.allOnes 64 := by decide
  simp only [Int64.toBitVec_and, Int64.toBitVec_or, Int64.toBitVec_xor, own_shl _ _ _ ho, own_ushr _ _ _ ho]
  apply BitVec.eq_of_getLsbD_eq
  intro i hi
  simp only [BitVec.getLsbD_and, BitVec.getLsbD_or, BitVec.getLsbD_xor, BitVec.getLsbD_ushiftRight, BitVec.getLsbD_shiftLeft, hM, hlow, e, BitVec.getLsbD_allOnes]
  by_cases q : i < W.toInt.toNat
  · have q1 : O.toInt.toNat + i < 64 := by omega
    have q2 : ¬ O.toInt.toNat + i < O.toInt.toNat := by omega
    have q3 : O.toInt.toNat + i - O.toInt.toNat = i := by omega
    simp [-Int32.toNat_toInt, q, q1, q2, q3]
  · simp [-Int32.toNat_toInt, q]
theorem own_kne {K : Int32} (h0 : 0 ≤ K.toInt) (h1 : K.toInt ≤ 1) : K.toNatClampNeg ≠ (K + (1 : Int32)).toNatClampNeg := by
  have a := c_iadd K (1 : Int32)
  have k1 : (1 : Int32).toInt = 1 := rfl
  have r := rng32 (K + (1 : Int32))
  simp only [Int32.toNatClampNeg]
  omega
theorem own_fin2 {W K O : Int32} {I SS M v w0 w1 : Int64} {g : Nat → Int64} (hS : I * W.toInt64 = SS) (hK : (SS / (64 : Int64)).toInt32 = K) (hO : (SS % (64 : Int64)).toInt32 = O) (bW : 1 ≤ W.toInt ∧ W.toInt ≤ 64) (bO : 0 ≤ O.toInt ∧ O.toInt < 64) (hM : ∀ i, M.toBitVec.getLsbD i = decide (i < W.toInt.toNat)) (hc : (64 : Int32) < (O + W))
    (hg : g K.toNatClampNeg = ((w0 &&& ((M <<< (O &&& 0x3f).toInt64) ^^^ (-1 : Int64))) ||| ((v &&& M) <<< (O &&& 0x3f).toInt64)))
    (hg1 : g (K + (1 : Int32)).toNatClampNeg = ((w1 &&& ((M.toUInt64 >>> (((64 : Int32) - O) &&& 0x3f).toInt64.toUInt64).toInt64 ^^^ (-1 : Int64))) ||| ((v &&& M).toUInt64 >>> (((64 : Int32) - O) &&& 0x3f).toInt64.toUInt64).toInt64)) : F1 W I g = (v &&& M) := by
  have hl := own_sum bW bO hc
  have hlow := own_low bW
  unfold F1
  rw [hS, hK, hO, if_pos hc, hg, hg1]
  apply Int64.toBitVec_inj.mp
  have ho := own_tn64 bO.1 bO.2
  have a := c_isub (64 : Int32) O
  have k : (64 : Int32).toInt = 64 := rfl
  have r := rng32 ((64 : Int32) - O)
  have e0 : ((64 : Int32) - O).toInt = 64 - O.toInt := by omega
  have hp : ((64 : Int32) - O).toBitVec.toNat % 64 = 64 - O.toInt.toNat := by rw [own_tn64 (by omega) (by omega)]; omega
  have e : (-1 : Int64).toBitVec = BitVec.allOnes 64 := by decide
  simp only [Int64.toBitVec_and, Int64.toBitVec_or, Int64.toBitVec_xor, own_shl _ _ _ ho, own_ushr _ _ _ ho, own_shl _ _ _ hp, own_ushr _ _ _ hp]
  apply BitVec.eq_of_getLsbD_eq
  intro i hi
  simp only [BitVec.getLsbD_and, BitVec.getLsbD_or, BitVec.getLsbD_xor, BitVec.getLsbD_ushiftRight, BitVec.getLsbD_shiftLeft, hM, hlow, e, BitVec.getLsbD_allOnes]
  by_cases q : i < W.toInt.toNat
  · by_cases q0 : i < 64 - O.toInt.toNat
    · have q1 : O.toInt.toNat + i < 64 := by omega
      have q2 : ¬ O.toInt.toNat + i < O.toInt.toNat := by omega
      have q3 : O.toInt.toNat + i - O.toInt.toNat = i := by omega
      simp [-Int32.toNat_toInt, q, q0, q1, q2, q3]
    · have q1 : ¬ O.toInt.toNat + i < 64 := by omega
      have q3 : 64 - O.toInt.toNat + (i - (64 - O.toInt.toNat)) = i := by omega
      have q4 : i - (64 - O.toInt.toNat) < 64 := by omega
      simp [-Int32.toNat_toInt, q, q0, q1, q3, q4, hi]
  · simp [-Int32.toNat_toInt, q]

theorem pd_0 : parseMethodDescriptor "([JIJ)J" = some ⟨[(.array .long), .int, .long], some .long⟩ := by decide +kernel
theorem ef_1 (m : MethodId) (x0 : Int64) (x1 : Int64) (x2 : Int64) (x3 : Int64) (x4 : Int32) (x5 : Int32) : entryFrame m #[(.long x0), (.long x1), (.long x2), (.long x3), (.int x4), (.int x5)] maxLocals = mkF m 0 #[.val (.long x0), .second, .val (.long x1), .second, .val (.long x2), .second, .val (.long x3), .second, .val (.int x4), .val (.int x5), .unset, .unset, .unset, .unset, .unset, .unset, .unset, .unset, .unset, .unset, .unset, .unset, .unset, .unset] [] := by first | (simp [entryFrame, mkF, argsToLocals, Value.category, maxLocals]; done) | rfl
theorem pn_1 : plainName "com/example/boceto/boceto/format/PackedValuesValueAtPinLaw" = true := by first | (simp [plainName, overriddenIn]; done) | decide +kernel
set_option maxRecDepth 65536 in
set_option maxHeartbeats 40000000 in
theorem rm0 (l : Launch) (Z : State) (a0 : Array Value) (hw : ∀ d ∈ tables_1, d.before a0 Z = true) (x0 x1 x2 x3 : Int64) (x4 x5 : Int32) (h0 : Heap) (n0 : Nat) (Z0 : n0 ≤ h0.size) :
    Pays l Z x code maxLocals ret tables_1 room_1 #[(.long x0), (.long x1), (.long x2), (.long x3), (.int x4), (.int x5)] h0 (fun v h L => v = some (.int (1 : Int32)) ∧ Fr n0 L) := by
  refine Pays.walk (plainFor_of_name pn_1) (fun m => ef_1 m x0 x1 x2 x3 x4 x5 ) ?_
  intro p e s m below meth c T0 X0 hx hby hml hown hnm hZ e0 hret hlk
  have hown : s.vm.findClass "com/example/boceto/boceto/format/PackedValuesValueAtPinLaw" = some m.cls := hown
  have N0 := Fr.nil n0
  refine Goes.on (T' := T0) (g' := (mkF m 9 #[.val (.long x0), .second, .val (.long x1), .second, .val (.long x2), .second, .val (.long x3), .second, .val (.int x4), .val (.int x5), .val (.int ((x4 &&& (63 : Int32)) + (1 : Int32))), .unset, .unset, .unset, .unset, .unset, .unset, .unset, .unset, .unset, .unset, .unset, .unset, .unset] [])) (fun _ k => XS.iload X0.here hx rfl (hb hby at_0) rfl (XS.bipush X0.here hx rfl (hb hby at_2) (XS.iand X0.here hx rfl (hb hby at_4) rfl (XS.iconst X0.here hx rfl (hb hby at_5) (XS.iadd X0.here hx rfl (hb hby at_6) rfl (XS.istore X0.here hx rfl (hb hby at_7) rfl (l' := #[.val (.long x0), .second, .val (.long x1), .second, .val (.long x2), .second, .val (.long x3), .second, .val (.int x4), .val (.int x5), .val (.int ((x4 &&& (63 : Int32)) + (1 : Int32))), .unset, .unset, .unset, .unset, .unset, .unset, .unset, .unset, .unset, .unset, .unset, .unset, .unset]) rfl k)))))) ?_
  generalize hW : ((x4 &&& (63 : Int32)) + (1 : Int32)) = W
  have bW : 1 ≤ W.toInt ∧ W.toInt ≤ 64 := by rw [← hW]; exact own_ww x4
  have zW : W ≠ 0 := own_nz (by omega)
  refine Goes.on (T' := T0) (g' := (mkF m 13 #[.val (.long x0), .second, .val (.long x1), .second, .val (.long x2), .second, .val (.long x3), .second, .val (.int x4), .val (.int x5), .val (.int W), .unset, .unset, .unset, .unset, .unset, .unset, .unset, .unset, .unset, .unset, .unset, .unset, .unset] [(.int (64 : Int32)), (.int W)])) (fun _ k => XS.iload X0.here hx rfl (hb hby at_9) rfl (XS.bipush X0.here hx rfl (hb hby at_11) k)) ?_
  by_cases hc1 : W = (64 : Int32)
  · refine Goes.on (T' := T0) (g' := (mkF m 30 #[.val (.long x0), .second, .val (.long x1), .second, .val (.long x2), .second, .val (.long x3), .second, .val (.int x4), .val (.int x5), .val (.int W), .val (.long (-1 : Int64)), .second, .unset, .unset, .unset, .unset, .unset, .unset, .unset, .unset, .unset, .unset, .unset] [])) (fun _ k => XS.icmpNo X0.here hx rfl (hb hby at_13) rfl (XT.ii_ne_f hc1) (X0.ldc2Long hx hown (mvT hZ (own_w hw 3 rfl)) (g := (mkF m 16 #[.val (.long x0), .second, .val (.long x1), .second, .val (.long x2), .second, .val (.long x3), .second, .val (.int x4), .val (.int x5), .val (.int W), .unset, .unset, .unset, .unset, .unset, .unset, .unset, .unset, .unset, .unset, .unset, .unset, .unset] [])) rfl (hb hby at_16) _ (XS.goto X0.here hx rfl (pc0 := 19) (pc' := 28) rfl (hb hby at_19) (by decide) (by decide) (XS.lstore X0.here hx rfl (hb hby at_28) rfl (l' := #[.val (.long x0), .second, .val (.long x1), .second, .val (.long x2), .second, .val (.long x3), .second, .val (.int x4), .val (.int x5), .val (.int W), .val (.long (-1 : Int64)), .second, .unset, .unset, .unset, .unset, .unset, .unset, .unset, .unset, .unset, .unset, .unset]) rfl k)))) ?_
    have hM : ∀ i, ((-1 : Int64)).toBitVec.getLsbD i = decide (i < W.toInt.toNat) := own_mask1 hc1
    generalize (-1 : Int64) = M at hM ⊢
    refine Goes.on (T' := T0) (g' := (mkF m 45 #[.val (.long x0), .second, .val (.long x1), .second, .val (.long x2), .second, .val (.long x3), .second, .val (.int x4), .val (.int x5), .val (.int W), .val (.long M), .second, .val (.long (x3 &&& M)), .second, .val (.int ((192 : Int32) / W)), .unset, .unset, .unset, .unset, .unset, .unset, .unset, .unset] [])) (fun _ k => XS.lload X0.here hx rfl (hb hby at_30) rfl (XS.lload X0.here hx rfl (hb hby at_32) rfl (XS.land X0.here hx rfl (hb hby at_34) rfl (XS.lstore X0.here hx rfl (hb hby at_35) rfl (l' := #[.val (.long x0), .second, .val (.long x1), .second, .val (.long x2), .second, .val (.long x3), .second, .val (.int x4), .val (.int x5), .val (.int W), .val (.long M), .second, .val (.long (x3 &&& M)), .second, .unset, .unset, .unset, .unset, .unset, .unset, .unset, .unset, .unset]) rfl (XS.sipush X0.here hx rfl (hb hby at_37) (XS.iload X0.here hx rfl (hb hby at_40) rfl (XS.idiv X0.here hx rfl (hb hby at_42) rfl zW (XS.istore X0.here hx rfl (hb hby at_43) rfl (l' := #[.val (.long x0), .second, .val (.long x1), .second, .val (.long x2), .second, .val (.long x3), .second, .val (.int x4), .val (.int x5), .val (.int W), .val (.long M), .second, .val (.long (x3 &&& M)), .second, .val (.int ((192 : Int32) / W)), .unset, .unset, .unset, .unset, .unset, .unset, .unset, .unset]) rfl k)))))))) ?_
    generalize hC : ((192 : Int32) / W) = C
    have bC := own_c bW hC
    have zC : C ≠ 0 := own_nz (by omega)
    refine Goes.on (T' := T0) (g' := (mkF m 56 #[.val (.long x0), .second, .val (.long x1), .second, .val (.long x2), .second, .val (.long x3), .second, .val (.int x4), .val (.int x5), .val (.int W), .val (.long M), .second, .val (.long (x3 &&& M)), .second, .val (.int C), .val (.long (((x5 &&& (2147483647 : Int32)) % C).toInt64)), .second, .unset, .unset, .unset, .unset, .unset, .unset] [])) (fun _ k => XS.iload X0.here hx rfl (hb hby at_45) rfl (X0.ldcInt hx hown (mvT hZ (own_w hw 0 rfl)) (g := (mkF m 47 #[.val (.long x0), .second, .val (.long x1), .second, .val (.long x2), .second, .val (.long x3), .second, .val (.int x4), .val (.int x5), .val (.int W), .val (.long M), .second, .val (.long (x3 &&& M)), .second, .val (.int C), .unset, .unset, .unset, .unset, .unset, .unset, .unset, .unset] [(.int x5)])) rfl (hb hby at_47) _ (XS.iand X0.here hx rfl (hb hby at_49) rfl (XS.iload X0.here hx rfl (hb hby at_50) rfl (iremM X0 hx rfl (hb hby at_52) rfl zC (XS.i2l X0.here hx rfl (hb hby at_53) rfl (XS.lstore X0.here hx rfl (hb hby at_54) rfl (l' := #[.val (.long x0), .second, .val (.long x1), .second, .val (.long x2), .second, .val (.long x3), .second, .val (.int x4), .val (.int x5), .val (.int W), .val (.long M), .second, .val (.long (x3 &&& M)), .second, .val (.int C), .val (.long (((x5 &&& (2147483647 : Int32)) % C).toInt64)), .second, .unset, .unset, .unset, .unset, .unset, .unset]) rfl k))))))) ?_
    generalize hI : ((x5 &&& (2147483647 : Int32)) % C).toInt64 = I
    have bI := own_i bC.1 hI
    refine Goes.on (T' := T0) (g' := (mkF m 64 #[.val (.long x0), .second, .val (.long x1), .second, .val (.long x2), .second, .val (.long x3), .second, .val (.int x4), .val (.int x5), .val (.int W), .val (.long M), .second, .val (.long (x3 &&& M)), .second, .val (.int C), .val (.long I), .second, .val (.long (I * W.toInt64)), .second, .unset, .unset, .unset, .unset] [])) (fun _ k => XS.lload X0.here hx rfl (hb hby at_56) rfl (XS.iload X0.here hx rfl (hb hby at_58) rfl (XS.i2l X0.here hx rfl (hb hby at_60) rfl (XS.lmul X0.here hx rfl (hb hby at_61) rfl (XS.lstore X0.here hx rfl (hb hby at_62) rfl (l' := #[.val (.long x0), .second, .val (.long x1), .second, .val (.long x2), .second, .val (.long x3), .second, .val (.int x4), .val (.int x5), .val (.int W), .val (.long M), .second, .val (.long (x3 &&& M)), .second, .val (.int C), .val (.long I), .second, .val (.long (I * W.toInt64)), .second, .unset, .unset, .unset, .unset]) rfl k))))) ?_
    generalize hS : (I * W.toInt64) = SS
    have bS := own_s bW bC bI hS
    refine Goes.on (T' := T0) (g' := (mkF m 73 #[.val (.long x0), .second, .val (.long x1), .second, .val (.long x2), .second, .val (.long x3), .second, .val (.int x4), .val (.int x5), .val (.int W), .val (.long M), .second, .val (.long (x3 &&& M)), .second, .val (.int C), .val (.long I), .second, .val (.long SS), .second, .val (.int ((SS / (64 : Int64)).toInt32)), .unset, .unset, .unset] [])) (fun _ k => XS.lload X0.here hx rfl (hb hby at_64) rfl (X0.ldc2Long hx hown (mvT hZ (own_w hw 1 rfl)) (g := (mkF m 66 #[.val (.long x0), .second, .val (.long x1), .second, .val (.long x2), .second, .val (.long x3), .second, .val (.int x4), .val (.int x5), .val (.int W), .val (.long M), .second, .val (.long (x3 &&& M)), .second, .val (.int C), .val (.long I), .second, .val (.long SS), .second, .unset, .unset, .unset, .unset] [(.long SS)])) rfl (hb hby at_66) _ (XS.ldiv X0.here hx rfl (hb hby at_69) rfl (by decide) (XT.l2i X0.here hx rfl (hb hby at_70) rfl (XS.istore X0.here hx rfl (hb hby at_71) rfl (l' := #[.val (.long x0), .second, .val (.long x1), .second, .val (.long x2), .second, .val (.long x3), .second, .val (.int x4), .val (.int x5), .val (.int W), .val (.long M), .second, .val (.long (x3 &&& M)), .second, .val (.int C), .val (.long I), .second, .val (.long SS), .second, .val (.int ((SS / (64 : Int64)).toInt32)), .unset, .unset, .unset]) rfl k))))) ?_
    generalize hK : (SS / (64 : Int64)).toInt32 = K
    refine Goes.on (T' := T0) (g' := (mkF m 82 #[.val (.long x0), .second, .val (.long x1), .second, .val (.long x2), .second, .val (.long x3), .second, .val (.int x4), .val (.int x5), .val (.int W), .val (.long M), .second, .val (.long (x3 &&& M)), .second, .val (.int C), .val (.long I), .second, .val (.long SS), .second, .val (.int K), .val (.int ((SS % (64 : Int64)).toInt32)), .unset, .unset] [])) (fun _ k => XS.lload X0.here hx rfl (hb hby at_73) rfl (X0.ldc2Long hx hown (mvT hZ (own_w hw 1 rfl)) (g := (mkF m 75 #[.val (.long x0), .second, .val (.long x1), .second, .val (.long x2), .second, .val (.long x3), .second, .val (.int x4), .val (.int x5), .val (.int W), .val (.long M), .second, .val (.long (x3 &&& M)), .second, .val (.int C), .val (.long I), .second, .val (.long SS), .second, .val (.int K), .unset, .unset, .unset] [(.long SS)])) rfl (hb hby at_75) _ (lremM X0 hx rfl (hb hby at_78) rfl (by decide) (XT.l2i X0.here hx rfl (hb hby at_79) rfl (XS.istore X0.here hx rfl (hb hby at_80) rfl (l' := #[.val (.long x0), .second, .val (.long x1), .second, .val (.long x2), .second, .val (.long x3), .second, .val (.int x4), .val (.int x5), .val (.int W), .val (.long M), .second, .val (.long (x3 &&& M)), .second, .val (.int C), .val (.long I), .second, .val (.long SS), .second, .val (.int K), .val (.int ((SS % (64 : Int64)).toInt32)), .unset, .unset]) rfl k))))) ?_
    generalize hO : (SS % (64 : Int64)).toInt32 = O
    have bK := own_k bS bW hK hO
    have nK := own_in (n := 3) (by omega : 0 ≤ K.toInt) (by omega : K.toInt < 3)
    refine Goes.on (T' := T0) (g' := (mkF m 83 #[.val (.long x0), .second, .val (.long x1), .second, .val (.long x2), .second, .val (.long x3), .second, .val (.int x4), .val (.int x5), .val (.int W), .val (.long M), .second, .val (.long (x3 &&& M)), .second, .val (.int C), .val (.long I), .second, .val (.long SS), .second, .val (.int K), .val (.int O), .unset, .unset] [(.int (3 : Int32))])) (fun _ k => XS.iconst X0.here hx rfl (hb hby at_82) k) ?_
    obtain ⟨T2, h2, cA2, X2, e2, E2, A2, J2, st2⟩ := newPE X0 hx hZ (own_w hw 2 rfl) e0 (g := (mkF m 83 #[.val (.long x0), .second, .val (.long x1), .second, .val (.long x2), .second, .val (.long x3), .second, .val (.int x4), .val (.int x5), .val (.int W), .val (.long M), .second, .val (.long (x3 &&& M)), .second, .val (.int C), .val (.long I), .second, .val (.long SS), .second, .val (.int K), .val (.int O), .unset, .unset] [(.int (3 : Int32))])) rfl (hb hby at_83) rfl (by decide) (cap := 3) (by decide) (by decide) (by decide) (by decide) (ad := "[J") (by decide)
    obtain ⟨a2, g2⟩ : ∃ z, z = h0.size := ⟨_, rfl⟩
    rw [← g2] at A2 J2 st2
    have Z3 : n0 ≤ h2.size := Nat.le_trans Z0 E2.1
    have B2 : Arf Z h2 a2 .long Value.long 3 (fun _ => (0 : Int64)) := Arf.new A2 rfl
    have G2 : n0 ≤ a2 := Nat.le_trans Z0 (Nat.le_of_eq g2.symm)
    refine Goes.on (T' := T2) (g' := (mkF m 88 #[.val (.long x0), .second, .val (.long x1), .second, .val (.long x2), .second, .val (.long x3), .second, .val (.int x4), .val (.int x5), .val (.int W), .val (.long M), .second, .val (.long (x3 &&& M)), .second, .val (.int C), .val (.long I), .second, .val (.long SS), .second, .val (.int K), .val (.int O), .unset, .unset] [(.long x0), (.int (0 : Int32)), (.ref a2), (.ref a2)])) (fun _ k => st2 _ (XS.dup X2.here hx rfl (hb hby at_85) rfl rfl (XS.iconst X2.here hx rfl (hb hby at_86) (XS.lloadN X2.here hx rfl (hb hby at_87) rfl k)))) ?_
    obtain ⟨T4, h4, X4, e4, W4, B4, st4⟩ := wrJ X2 hx hZ e2 B2 (by decide)  (g := (mkF m 88 #[.val (.long x0), .second, .val (.long x1), .second, .val (.long x2), .second, .val (.long x3), .second, .val (.int x4), .val (.int x5), .val (.int W), .val (.long M), .second, .val (.long (x3 &&& M)), .second, .val (.int C), .val (.long I), .second, .val (.long SS), .second, .val (.int K), .val (.int O), .unset, .unset] [(.long x0), (.int (0 : Int32)), (.ref a2), (.ref a2)])) rfl rfl (hb hby at_88)
    have N4 := Fr.snoc X4 N0 G2
    have Z6 : n0 ≤ h4.size := by rw [W4.size]; exact Z3
    have B4 : Arf Z h4 a2 .long Value.long 3 (Upd (fun _ => (0 : Int64)) 0 x0) := B4
    refine Goes.on (T' := T4) (g' := (mkF m 92 #[.val (.long x0), .second, .val (.long x1), .second, .val (.long x2), .second, .val (.long x3), .second, .val (.int x4), .val (.int x5), .val (.int W), .val (.long M), .second, .val (.long (x3 &&& M)), .second, .val (.int C), .val (.long I), .second, .val (.long SS), .second, .val (.int K), .val (.int O), .unset, .unset] [(.long x1), (.int (1 : Int32)), (.ref a2), (.ref a2)])) (fun _ k => st4 _ (XS.dup X4.here hx rfl (hb hby at_89) rfl rfl (XS.iconst X4.here hx rfl (hb hby at_90) (XS.lloadN X4.here hx rfl (hb hby at_91) rfl k)))) ?_
    obtain ⟨T7, h7, X7, e7, W7, B7, st7⟩ := wrJ X4 hx hZ e4 B4 (by decide)  (g := (mkF m 92 #[.val (.long x0), .second, .val (.long x1), .second, .val (.long x2), .second, .val (.long x3), .second, .val (.int x4), .val (.int x5), .val (.int W), .val (.long M), .second, .val (.long (x3 &&& M)), .second, .val (.int C), .val (.long I), .second, .val (.long SS), .second, .val (.int K), .val (.int O), .unset, .unset] [(.long x1), (.int (1 : Int32)), (.ref a2), (.ref a2)])) rfl rfl (hb hby at_92)
    have N7 := Fr.snoc X7 N4 G2
    have Z9 : n0 ≤ h7.size := by rw [W7.size]; exact Z6
    have B7 : Arf Z h7 a2 .long Value.long 3 (Upd (Upd (fun _ => (0 : Int64)) 0 x0) 1 x1) := B7
    refine Goes.on (T' := T7) (g' := (mkF m 97 #[.val (.long x0), .second, .val (.long x1), .second, .val (.long x2), .second, .val (.long x3), .second, .val (.int x4), .val (.int x5), .val (.int W), .val (.long M), .second, .val (.long (x3 &&& M)), .second, .val (.int C), .val (.long I), .second, .val (.long SS), .second, .val (.int K), .val (.int O), .unset, .unset] [(.long x2), (.int (2 : Int32)), (.ref a2), (.ref a2)])) (fun _ k => st7 _ (XS.dup X7.here hx rfl (hb hby at_93) rfl rfl (XS.iconst X7.here hx rfl (hb hby at_94) (XS.lload X7.here hx rfl (hb hby at_95) rfl k)))) ?_
    obtain ⟨T10, h10, X10, e10, W10, B10, st10⟩ := wrJ X7 hx hZ e7 B7 (by decide)  (g := (mkF m 97 #[.val (.long x0), .second, .val (.long x1), .second, .val (.long x2), .second, .val (.long x3), .second, .val (.int x4), .val (.int x5), .val (.int W), .val (.long M), .second, .val (.long (x3 &&& M)), .second, .val (.int C), .val (.long I), .second, .val (.long SS), .second, .val (.int K), .val (.int O), .unset, .unset] [(.long x2), (.int (2 : Int32)), (.ref a2), (.ref a2)])) rfl rfl (hb hby at_97)
    have N10 := Fr.snoc X10 N7 G2
    have Z12 : n0 ≤ h10.size := by rw [W10.size]; exact Z9
    have B10 : Arf Z h10 a2 .long Value.long 3 (Upd (Upd (Upd (fun _ => (0 : Int64)) 0 x0) 1 x1) 2 x2) := B10
    refine Goes.on (T' := T10) (g' := (mkF m 118 #[.val (.long x0), .second, .val (.long x1), .second, .val (.long x2), .second, .val (.long x3), .second, .val (.int x4), .val (.int x5), .val (.int W), .val (.long M), .second, .val (.long (x3 &&& M)), .second, .val (.int C), .val (.long I), .second, .val (.long SS), .second, .val (.int K), .val (.int O), .val (.ref a2), .unset] [(.long ((M <<< (O &&& 0x3f).toInt64) ^^^ (-1 : Int64))), (.long ((Upd (Upd (Upd (fun _ => (0 : Int64)) 0 x0) 1 x1) 2 x2) K.toNatClampNeg)), (.int K), (.ref a2)])) (fun _ k => st10 _ (XS.astore X10.here hx rfl (hb hby at_98) rfl rfl (l' := #[.val (.long x0), .second, .val (.long x1), .second, .val (.long x2), .second, .val (.long x3), .second, .val (.int x4), .val (.int x5), .val (.int W), .val (.long M), .second, .val (.long (x3 &&& M)), .second, .val (.int C), .val (.long I), .second, .val (.long SS), .second, .val (.int K), .val (.int O), .val (.ref a2), .unset]) rfl (XS.aload X10.here hx rfl (hb hby at_100) rfl rfl (XS.iload X10.here hx rfl (hb hby at_102) rfl (XS.aload X10.here hx rfl (hb hby at_104) rfl rfl (XS.iload X10.here hx rfl (hb hby at_106) rfl (ldJm X10 hx hZ e10 B10 nK (hb hby at_108) (XS.lload X10.here hx rfl (hb hby at_109) rfl (XS.iload X10.here hx rfl (hb hby at_111) rfl (XS.lshl X10.here hx rfl (hb hby at_113) rfl (X10.ldc2Long hx hown (mvT hZ (own_w hw 3 rfl)) (g := (mkF m 114 #[.val (.long x0), .second, .val (.long x1), .second, .val (.long x2), .second, .val (.long x3), .second, .val (.int x4), .val (.int x5), .val (.int W), .val (.long M), .second, .val (.long (x3 &&& M)), .second, .val (.int C), .val (.long I), .second, .val (.long SS), .second, .val (.int K), .val (.int O), .val (.ref a2), .unset] [(.long (M <<< (O &&& 0x3f).toInt64)), (.long ((Upd (Upd (Upd (fun _ => (0 : Int64)) 0 x0) 1 x1) 2 x2) K.toNatClampNeg)), (.int K), (.ref a2)])) rfl (hb hby at_114) _ (XS.lxor X10.here hx rfl (hb hby at_117) rfl k)))))))))))) ?_
    refine Goes.on (T' := T10) (g' := (mkF m 125 #[.val (.long x0), .second, .val (.long x1), .second, .val (.long x2), .second, .val (.long x3), .second, .val (.int x4), .val (.int x5), .val (.int W), .val (.long M), .second, .val (.long (x3 &&& M)), .second, .val (.int C), .val (.long I), .second, .val (.long SS), .second, .val (.int K), .val (.int O), .val (.ref a2), .unset] [(.long ((((Upd (Upd (Upd (fun _ => (0 : Int64)) 0 x0) 1 x1) 2 x2) K.toNatClampNeg) &&& ((M <<< (O &&& 0x3f).toInt64) ^^^ (-1 : Int64))) ||| ((x3 &&& M) <<< (O &&& 0x3f).toInt64))), (.int K), (.ref a2)])) (fun _ k => XS.land X10.here hx rfl (hb hby at_118) rfl (XS.lload X10.here hx rfl (hb hby at_119) rfl (XS.iload X10.here hx rfl (hb hby at_121) rfl (XS.lshl X10.here hx rfl (hb hby at_123) rfl (XS.lor X10.here hx rfl (hb hby at_124) rfl k))))) ?_
    obtain ⟨T14, h14, X14, e14, W14, B14, st14⟩ := wrJ X10 hx hZ e10 B10 nK  (g := (mkF m 125 #[.val (.long x0), .second, .val (.long x1), .second, .val (.long x2), .second, .val (.long x3), .second, .val (.int x4), .val (.int x5), .val (.int W), .val (.long M), .second, .val (.long (x3 &&& M)), .second, .val (.int C), .val (.long I), .second, .val (.long SS), .second, .val (.int K), .val (.int O), .val (.ref a2), .unset] [(.long ((((Upd (Upd (Upd (fun _ => (0 : Int64)) 0 x0) 1 x1) 2 x2) K.toNatClampNeg) &&& ((M <<< (O &&& 0x3f).toInt64) ^^^ (-1 : Int64))) ||| ((x3 &&& M) <<< (O &&& 0x3f).toInt64))), (.int K), (.ref a2)])) rfl rfl (hb hby at_125)
    have N14 := Fr.snoc X14 N10 G2
    have Z16 : n0 ≤ h14.size := by rw [W14.size]; exact Z12
    have B14 : Arf Z h14 a2 .long Value.long 3 (Upd (Upd (Upd (Upd (fun _ => (0 : Int64)) 0 x0) 1 x1) 2 x2) K.toNatClampNeg ((((Upd (Upd (Upd (fun _ => (0 : Int64)) 0 x0) 1 x1) 2 x2) K.toNatClampNeg) &&& ((M <<< (O &&& 0x3f).toInt64) ^^^ (-1 : Int64))) ||| ((x3 &&& M) <<< (O &&& 0x3f).toInt64))) := B14
    refine Goes.on (T' := T14) (g' := (mkF m 133 #[.val (.long x0), .second, .val (.long x1), .second, .val (.long x2), .second, .val (.long x3), .second, .val (.int x4), .val (.int x5), .val (.int W), .val (.long M), .second, .val (.long (x3 &&& M)), .second, .val (.int C), .val (.long I), .second, .val (.long SS), .second, .val (.int K), .val (.int O), .val (.ref a2), .unset] [(.int (64 : Int32)), (.int (O + W))])) (fun _ k => st14 _ (XS.iload X14.here hx rfl (hb hby at_126) rfl (XS.iload X14.here hx rfl (hb hby at_128) rfl (XS.iadd X14.here hx rfl (hb hby at_130) rfl (XS.bipush X14.here hx rfl (hb hby at_131) k))))) ?_
    by_cases hc17 : (64 : Int32) < (O + W)
    · refine Goes.on (T' := T14) (g' := (mkF m 136 #[.val (.long x0), .second, .val (.long x1), .second, .val (.long x2), .second, .val (.long x3), .second, .val (.int x4), .val (.int x5), .val (.int W), .val (.long M), .second, .val (.long (x3 &&& M)), .second, .val (.int C), .val (.long I), .second, .val (.long SS), .second, .val (.int K), .val (.int O), .val (.ref a2), .unset] [])) (fun _ k => XS.icmpNo X14.here hx rfl (hb hby at_133) rfl (XT.ii_le_f hc17) k) ?_
      have oS := own_sum bW bK.2.1 hc17
      have nK1 := own_in1 (n := 3) (by omega : 0 ≤ K.toInt) (by omega : K.toInt + 1 < 3)
      refine Goes.on (T' := T14) (g' := (mkF m 155 #[.val (.long x0), .second, .val (.long x1), .second, .val (.long x2), .second, .val (.long x3), .second, .val (.int x4), .val (.int x5), .val (.int W), .val (.long M), .second, .val (.long (x3 &&& M)), .second, .val (.int C), .val (.long I), .second, .val (.long SS), .second, .val (.int K), .val (.int O), .val (.ref a2), .val (.int ((64 : Int32) - O))] [(.int (K + (1 : Int32))), (.ref a2), (.int (K + (1 : Int32))), (.ref a2)])) (fun _ k => XS.bipush X14.here hx rfl (hb hby at_136) (XS.iload X14.here hx rfl (hb hby at_138) rfl (XS.isub X14.here hx rfl (hb hby at_140) rfl (XS.istore X14.here hx rfl (hb hby at_141) rfl (l' := #[.val (.long x0), .second, .val (.long x1), .second, .val (.long x2), .second, .val (.long x3), .second, .val (.int x4), .val (.int x5), .val (.int W), .val (.long M), .second, .val (.long (x3 &&& M)), .second, .val (.int C), .val (.long I), .second, .val (.long SS), .second, .val (.int K), .val (.int O), .val (.ref a2), .val (.int ((64 : Int32) - O))]) rfl (XS.aload X14.here hx rfl (hb hby at_143) rfl rfl (XS.iload X14.here hx rfl (hb hby at_145) rfl (XS.iconst X14.here hx rfl (hb hby at_147) (XS.iadd X14.here hx rfl (hb hby at_148) rfl (XS.aload X14.here hx rfl (hb hby at_149) rfl rfl (XS.iload X14.here hx rfl (hb hby at_151) rfl (XS.iconst X14.here hx rfl (hb hby at_153) (XS.iadd X14.here hx rfl (hb hby at_154) rfl k)))))))))))) ?_
      refine Goes.on (T' := T14) (g' := (mkF m 172 #[.val (.long x0), .second, .val (.long x1), .second, .val (.long x2), .second, .val (.long x3), .second, .val (.int x4), .val (.int x5), .val (.int W), .val (.long M), .second, .val (.long (x3 &&& M)), .second, .val (.int C), .val (.long I), .second, .val (.long SS), .second, .val (.int K), .val (.int O), .val (.ref a2), .val (.int ((64 : Int32) - O))] [(.long ((((Upd (Upd (Upd (Upd (fun _ => (0 : Int64)) 0 x0) 1 x1) 2 x2) K.toNatClampNeg ((((Upd (Upd (Upd (fun _ => (0 : Int64)) 0 x0) 1 x1) 2 x2) K.toNatClampNeg) &&& ((M <<< (O &&& 0x3f).toInt64) ^^^ (-1 : Int64))) ||| ((x3 &&& M) <<< (O &&& 0x3f).toInt64))) (K + (1 : Int32)).toNatClampNeg) &&& ((M.toUInt64 >>> (((64 : Int32) - O) &&& 0x3f).toInt64.toUInt64).toInt64 ^^^ (-1 : Int64))) ||| ((x3 &&& M).toUInt64 >>> (((64 : Int32) - O) &&& 0x3f).toInt64.toUInt64).toInt64)), (.int (K + (1 : Int32))), (.ref a2)])) (fun _ k => ldJm X14 hx hZ e14 B14 nK1 (hb hby at_155) (XS.lload X14.here hx rfl (hb hby at_156) rfl (XS.iload X14.here hx rfl (hb hby at_158) rfl (XS.lushr X14.here hx rfl (hb hby at_160) rfl (X14.ldc2Long hx hown (mvT hZ (own_w hw 3 rfl)) (g := (mkF m 161 #[.val (.long x0), .second, .val (.long x1), .second, .val (.long x2), .second, .val (.long x3), .second, .val (.int x4), .val (.int x5), .val (.int W), .val (.long M), .second, .val (.long (x3 &&& M)), .second, .val (.int C), .val (.long I), .second, .val (.long SS), .second, .val (.int K), .val (.int O), .val (.ref a2), .val (.int ((64 : Int32) - O))] [(.long ((M.toUInt64 >>> (((64 : Int32) - O) &&& 0x3f).toInt64.toUInt64).toInt64)), (.long ((Upd (Upd (Upd (Upd (fun _ => (0 : Int64)) 0 x0) 1 x1) 2 x2) K.toNatClampNeg ((((Upd (Upd (Upd (fun _ => (0 : Int64)) 0 x0) 1 x1) 2 x2) K.toNatClampNeg) &&& ((M <<< (O &&& 0x3f).toInt64) ^^^ (-1 : Int64))) ||| ((x3 &&& M) <<< (O &&& 0x3f).toInt64))) (K + (1 : Int32)).toNatClampNeg)), (.int (K + (1 : Int32))), (.ref a2)])) rfl (hb hby at_161) _ (XS.lxor X14.here hx rfl (hb hby at_164) rfl (XS.land X14.here hx rfl (hb hby at_165) rfl (XS.lload X14.here hx rfl (hb hby at_166) rfl (XS.iload X14.here hx rfl (hb hby at_168) rfl (XS.lushr X14.here hx rfl (hb hby at_170) rfl (XS.lor X14.here hx rfl (hb hby at_171) rfl k))))))))))) ?_
      obtain ⟨T19, h19, X19, e19, W19, B19, st19⟩ := wrJ X14 hx hZ e14 B14 nK1  (g := (mkF m 172 #[.val (.long x0), .second, .val (.long x1), .second, .val (.long x2), .second, .val (.long x3), .second, .val (.int x4), .val (.int x5), .val (.int W), .val (.long M), .second, .val (.long (x3 &&& M)), .second, .val (.int C), .val (.long I), .second, .val (.long SS), .second, .val (.int K), .val (.int O), .val (.ref a2), .val (.int ((64 : Int32) - O))] [(.long ((((Upd (Upd (Upd (Upd (fun _ => (0 : Int64)) 0 x0) 1 x1) 2 x2) K.toNatClampNeg ((((Upd (Upd (Upd (fun _ => (0 : Int64)) 0 x0) 1 x1) 2 x2) K.toNatClampNeg) &&& ((M <<< (O &&& 0x3f).toInt64) ^^^ (-1 : Int64))) ||| ((x3 &&& M) <<< (O &&& 0x3f).toInt64))) (K + (1 : Int32)).toNatClampNeg) &&& ((M.toUInt64 >>> (((64 : Int32) - O) &&& 0x3f).toInt64.toUInt64).toInt64 ^^^ (-1 : Int64))) ||| ((x3 &&& M).toUInt64 >>> (((64 : Int32) - O) &&& 0x3f).toInt64.toUInt64).toInt64)), (.int (K + (1 : Int32))), (.ref a2)])) rfl rfl (hb hby at_172)
      have N19 := Fr.snoc X19 N14 G2
      have Z21 : n0 ≤ h19.size := by rw [W19.size]; exact Z16
      have B19 : Arf Z h19 a2 .long Value.long 3 (Upd (Upd (Upd (Upd (Upd (fun _ => (0 : Int64)) 0 x0) 1 x1) 2 x2) K.toNatClampNeg ((((Upd (Upd (Upd (fun _ => (0 : Int64)) 0 x0) 1 x1) 2 x2) K.toNatClampNeg) &&& ((M <<< (O &&& 0x3f).toInt64) ^^^ (-1 : Int64))) ||| ((x3 &&& M) <<< (O &&& 0x3f).toInt64))) (K + (1 : Int32)).toNatClampNeg ((((Upd (Upd (Upd (Upd (fun _ => (0 : Int64)) 0 x0) 1 x1) 2 x2) K.toNatClampNeg ((((Upd (Upd (Upd (fun _ => (0 : Int64)) 0 x0) 1 x1) 2 x2) K.toNatClampNeg) &&& ((M <<< (O &&& 0x3f).toInt64) ^^^ (-1 : Int64))) ||| ((x3 &&& M) <<< (O &&& 0x3f).toInt64))) (K + (1 : Int32)).toNatClampNeg) &&& ((M.toUInt64 >>> (((64 : Int32) - O) &&& 0x3f).toInt64.toUInt64).toInt64 ^^^ (-1 : Int64))) ||| ((x3 &&& M).toUInt64 >>> (((64 : Int32) - O) &&& 0x3f).toInt64.toUInt64).toInt64)) := B19
      refine Goes.on (T' := T19) (g' := (mkF m 179 #[.val (.long x0), .second, .val (.long x1), .second, .val (.long x2), .second, .val (.long x3), .second, .val (.int x4), .val (.int x5), .val (.int W), .val (.long M), .second, .val (.long (x3 &&& M)), .second, .val (.int C), .val (.long I), .second, .val (.long SS), .second, .val (.int K), .val (.int O), .val (.ref a2), .val (.int ((64 : Int32) - O))] [(.long I), (.int W), (.ref a2)])) (fun _ k => st19 _ (XS.aload X19.here hx rfl (hb hby at_173) rfl rfl (XS.iload X19.here hx rfl (hb hby at_175) rfl (XS.lload X19.here hx rfl (hb hby at_177) rfl k)))) ?_
      refine Goes.callS X19 hx hZ 0 hown (own_w hw 4 rfl) (own_w hw 5 rfl) (own_w hw 6 rfl) (own_w hw 7 rfl) (by decide) e19 (rm1 l Z a0 hw a2 W I (Upd (Upd (Upd (Upd (Upd (fun _ => (0 : Int64)) 0 x0) 1 x1) 2 x2) K.toNatClampNeg ((((Upd (Upd (Upd (fun _ => (0 : Int64)) 0 x0) 1 x1) 2 x2) K.toNatClampNeg) &&& ((M <<< (O &&& 0x3f).toInt64) ^^^ (-1 : Int64))) ||| ((x3 &&& M) <<< (O &&& 0x3f).toInt64))) (K + (1 : Int32)).toNatClampNeg ((((Upd (Upd (Upd (Upd (fun _ => (0 : Int64)) 0 x0) 1 x1) 2 x2) K.toNatClampNeg ((((Upd (Upd (Upd (fun _ => (0 : Int64)) 0 x0) 1 x1) 2 x2) K.toNatClampNeg) &&& ((M <<< (O &&& 0x3f).toInt64) ^^^ (-1 : Int64))) ||| ((x3 &&& M) <<< (O &&& 0x3f).toInt64))) (K + (1 : Int32)).toNatClampNeg) &&& ((M.toUInt64 >>> (((64 : Int32) - O) &&& 0x3f).toInt64.toUInt64).toInt64 ^^^ (-1 : Int64))) ||| ((x3 &&& M).toUInt64 >>> (((64 : Int32) - O) &&& 0x3f).toInt64.toUInt64).toInt64)) h19 n0 Z21 B19 (by rw [hS, hK]; exact nK) (fun _ => by rw [hS, hK]; exact nK1)) (by decide) (by decide) (by decide) (by decide) rfl (by rw [hml]; rfl) (argsL := [(.ref a2), (.int W), (.long I)]) (rest := []) rfl (lenOf pd_0 rfl) rfl (by show 2 * 0 + _ ≤ _; exact Nat.le_of_eq rfl) (hb hby at_179) ?_
      intro v22 T22 L22 X22 hQ22
      obtain ⟨rfl, N22q, e22⟩ := hQ22
      have N22 := Fr.app N19 N22q
      show Goes p e below _ T22 (mkF m 182 #[.val (.long x0), .second, .val (.long x1), .second, .val (.long x2), .second, .val (.long x3), .second, .val (.int x4), .val (.int x5), .val (.int W), .val (.long M), .second, .val (.long (x3 &&& M)), .second, .val (.int C), .val (.long I), .second, .val (.long SS), .second, .val (.int K), .val (.int O), .val (.ref a2), .val (.int ((64 : Int32) - O))] [(.long (F1 W I (Upd (Upd (Upd (Upd (Upd (fun _ => (0 : Int64)) 0 x0) 1 x1) 2 x2) K.toNatClampNeg ((((Upd (Upd (Upd (fun _ => (0 : Int64)) 0 x0) 1 x1) 2 x2) K.toNatClampNeg) &&& ((M <<< (O &&& 0x3f).toInt64) ^^^ (-1 : Int64))) ||| ((x3 &&& M) <<< (O &&& 0x3f).toInt64))) (K + (1 : Int32)).toNatClampNeg ((((Upd (Upd (Upd (Upd (fun _ => (0 : Int64)) 0 x0) 1 x1) 2 x2) K.toNatClampNeg ((((Upd (Upd (Upd (fun _ => (0 : Int64)) 0 x0) 1 x1) 2 x2) K.toNatClampNeg) &&& ((M <<< (O &&& 0x3f).toInt64) ^^^ (-1 : Int64))) ||| ((x3 &&& M) <<< (O &&& 0x3f).toInt64))) (K + (1 : Int32)).toNatClampNeg) &&& ((M.toUInt64 >>> (((64 : Int32) - O) &&& 0x3f).toInt64.toUInt64).toInt64 ^^^ (-1 : Int64))) ||| ((x3 &&& M).toUInt64 >>> (((64 : Int32) - O) &&& 0x3f).toInt64.toUInt64).toInt64))))])
      refine Goes.on (T' := T22) (g' := (mkF m 193 #[.val (.long x0), .second, .val (.long x1), .second, .val (.long x2), .second, .val (.long x3), .second, .val (.int x4), .val (.int x5), .val (.int W), .val (.long M), .second, .val (.long (x3 &&& M)), .second, .val (.int C), .val (.long I), .second, .val (.long SS), .second, .val (.int K), .val (.int O), .val (.ref a2), .val (.int ((64 : Int32) - O))] [(.int (1 : Int32))])) (fun _ k => XS.lload X22.here hx rfl (hb hby at_182) rfl (XT.lcmp X22.here hx rfl (hb hby at_184) rfl (XS.ifNo X22.here hx rfl (hb hby at_185) rfl (XT.ll_ne_f (own_fin2 hS hK hO bW bK.2.1 hM hc17 ((updN _ _ (own_kne (by omega) (by omega))).trans (updS _ _ _)) (updS _ _ _))) (XS.iconst X22.here hx rfl (hb hby at_188) (XS.goto X22.here hx rfl (pc0 := 189) (pc' := 193) rfl (hb hby at_189) (by decide) (by decide) k))))) ?_
      exact Goes.retB X22 hx hlk hret (Or.inr rfl) (hb hby at_193) (by decide) (by decide) ⟨rfl, N22⟩
    · refine Goes.on (T' := T14) (g' := (mkF m 179 #[.val (.long x0), .second, .val (.long x1), .second, .val (.long x2), .second, .val (.long x3), .second, .val (.int x4), .val (.int x5), .val (.int W), .val (.long M), .second, .val (.long (x3 &&& M)), .second, .val (.int C), .val (.long I), .second, .val (.long SS), .second, .val (.int K), .val (.int O), .val (.ref a2), .unset] [(.long I), (.int W), (.ref a2)])) (fun _ k => XS.icmpYes X14.here hx rfl (pc0 := 133) (pc' := 173) rfl (hb hby at_133) rfl (XT.ii_le_t hc17) (by decide) (by decide) (XS.aload X14.here hx rfl (hb hby at_173) rfl rfl (XS.iload X14.here hx rfl (hb hby at_175) rfl (XS.lload X14.here hx rfl (hb hby at_177) rfl k)))) ?_
      refine Goes.callS X14 hx hZ 0 hown (own_w hw 4 rfl) (own_w hw 5 rfl) (own_w hw 6 rfl) (own_w hw 7 rfl) (by decide) e14 (rm1 l Z a0 hw a2 W I (Upd (Upd (Upd (Upd (fun _ => (0 : Int64)) 0 x0) 1 x1) 2 x2) K.toNatClampNeg ((((Upd (Upd (Upd (fun _ => (0 : Int64)) 0 x0) 1 x1) 2 x2) K.toNatClampNeg) &&& ((M <<< (O &&& 0x3f).toInt64) ^^^ (-1 : Int64))) ||| ((x3 &&& M) <<< (O &&& 0x3f).toInt64))) h14 n0 Z16 B14 (by rw [hS, hK]; exact nK) (fun q => absurd (by rw [hS, hO] at q; exact q) hc17)) (by decide) (by decide) (by decide) (by decide) rfl (by rw [hml]; rfl) (argsL := [(.ref a2), (.int W), (.long I)]) (rest := []) rfl (lenOf pd_0 rfl) rfl (by show 2 * 0 + _ ≤ _; exact Nat.le_of_eq rfl) (hb hby at_179) ?_
      intro v23 T23 L23 X23 hQ23
      obtain ⟨rfl, N23q, e23⟩ := hQ23
      have N23 := Fr.app N14 N23q
      show Goes p e below _ T23 (mkF m 182 #[.val (.long x0), .second, .val (.long x1), .second, .val (.long x2), .second, .val (.long x3), .second, .val (.int x4), .val (.int x5), .val (.int W), .val (.long M), .second, .val (.long (x3 &&& M)), .second, .val (.int C), .val (.long I), .second, .val (.long SS), .second, .val (.int K), .val (.int O), .val (.ref a2), .unset] [(.long (F1 W I (Upd (Upd (Upd (Upd (fun _ => (0 : Int64)) 0 x0) 1 x1) 2 x2) K.toNatClampNeg ((((Upd (Upd (Upd (fun _ => (0 : Int64)) 0 x0) 1 x1) 2 x2) K.toNatClampNeg) &&& ((M <<< (O &&& 0x3f).toInt64) ^^^ (-1 : Int64))) ||| ((x3 &&& M) <<< (O &&& 0x3f).toInt64)))))])
      refine Goes.on (T' := T23) (g' := (mkF m 193 #[.val (.long x0), .second, .val (.long x1), .second, .val (.long x2), .second, .val (.long x3), .second, .val (.int x4), .val (.int x5), .val (.int W), .val (.long M), .second, .val (.long (x3 &&& M)), .second, .val (.int C), .val (.long I), .second, .val (.long SS), .second, .val (.int K), .val (.int O), .val (.ref a2), .unset] [(.int (1 : Int32))])) (fun _ k => XS.lload X23.here hx rfl (hb hby at_182) rfl (XT.lcmp X23.here hx rfl (hb hby at_184) rfl (XS.ifNo X23.here hx rfl (hb hby at_185) rfl (XT.ll_ne_f (own_fin1 hS hK hO bW bK.2.1 hM hc17 (updS _ _ _))) (XS.iconst X23.here hx rfl (hb hby at_188) (XS.goto X23.here hx rfl (pc0 := 189) (pc' := 193) rfl (hb hby at_189) (by decide) (by decide) k))))) ?_
      exact Goes.retB X23 hx hlk hret (Or.inr rfl) (hb hby at_193) (by decide) (by decide) ⟨rfl, N23⟩
  · refine Goes.on (T' := T0) (g' := (mkF m 30 #[.val (.long x0), .second, .val (.long x1), .second, .val (.long x2), .second, .val (.long x3), .second, .val (.int x4), .val (.int x5), .val (.int W), .val (.long (((1 : Int64) <<< (W &&& 0x3f).toInt64) - (1 : Int64))), .second, .unset, .unset, .unset, .unset, .unset, .unset, .unset, .unset, .unset, .unset, .unset] [])) (fun _ k => XS.icmpYes X0.here hx rfl (pc0 := 13) (pc' := 22) rfl (hb hby at_13) rfl (XT.ii_ne_t hc1) (by decide) (by decide) (XS.lconst X0.here hx rfl (hb hby at_22) (XS.iload X0.here hx rfl (hb hby at_23) rfl (XS.lshl X0.here hx rfl (hb hby at_25) rfl (XS.lconst X0.here hx rfl (hb hby at_26) (XS.lsub X0.here hx rfl (hb hby at_27) rfl (XS.lstore X0.here hx rfl (hb hby at_28) rfl (l' := #[.val (.long x0), .second, .val (.long x1), .second, .val (.long x2), .second, .val (.long x3), .second, .val (.int x4), .val (.int x5), .val (.int W), .val (.long (((1 : Int64) <<< (W &&& 0x3f).toInt64) - (1 : Int64))), .second, .unset, .unset, .unset, .unset, .unset, .unset, .unset, .unset, .unset, .unset, .unset]) rfl k))))))) ?_
    have hM : ∀ i, ((((1 : Int64) <<< (W &&& 0x3f).toInt64) - (1 : Int64))).toBitVec.getLsbD i = decide (i < W.toInt.toNat) := own_mask2 bW hc1
    generalize (((1 : Int64) <<< (W &&& 0x3f).toInt64) - (1 : Int64)) = M at hM ⊢
    refine Goes.on (T' := T0) (g' := (mkF m 45 #[.val (.long x0), .second, .val (.long x1), .second, .val (.long x2), .second, .val (.long x3), .second, .val (.int x4), .val (.int x5), .val (.int W), .val (.long M), .second, .val (.long (x3 &&& M)), .second, .val (.int ((192 : Int32) / W)), .unset, .unset, .unset, .unset, .unset, .unset, .unset, .unset] [])) (fun _ k => XS.lload X0.here hx rfl (hb hby at_30) rfl (XS.lload X0.here hx rfl (hb hby at_32) rfl (XS.land X0.here hx rfl (hb hby at_34) rfl (XS.lstore X0.here hx rfl (hb hby at_35) rfl (l' := #[.val (.long x0), .second, .val (.long x1), .second, .val (.long x2), .second, .val (.long x3), .second, .val (.int x4), .val (.int x5), .val (.int W), .val (.long M), .second, .val (.long (x3 &&& M)), .second, .unset, .unset, .unset, .unset, .unset, .unset, .unset, .unset, .unset]) rfl (XS.sipush X0.here hx rfl (hb hby at_37) (XS.iload X0.here hx rfl (hb hby at_40) rfl (XS.idiv X0.here hx rfl (hb hby at_42) rfl zW (XS.istore X0.here hx rfl (hb hby at_43) rfl (l' := #[.val (.long x0), .second, .val (.long x1), .second, .val (.long x2), .second, .val (.long x3), .second, .val (.int x4), .val (.int x5), .val (.int W), .val (.long M), .second, .val (.long (x3 &&& M)), .second, .val (.int ((192 : Int32) / W)), .unset, .unset, .unset, .unset, .unset, .unset, .unset, .unset]) rfl k)))))))) ?_
    generalize hC : ((192 : Int32) / W) = C
    have bC := own_c bW hC
    have zC : C ≠ 0 := own_nz (by omega)
    refine Goes.on (T' := T0) (g' := (mkF m 56 #[.val (.long x0), .second, .val (.long x1), .second, .val (.long x2), .second, .val (.long x3), .second, .val (.int x4), .val (.int x5), .val (.int W), .val (.long M), .second, .val (.long (x3 &&& M)), .second, .val (.int C), .val (.long (((x5 &&& (2147483647 : Int32)) % C).toInt64)), .second, .unset, .unset, .unset, .unset, .unset, .unset] [])) (fun _ k => XS.iload X0.here hx rfl (hb hby at_45) rfl (X0.ldcInt hx hown (mvT hZ (own_w hw 0 rfl)) (g := (mkF m 47 #[.val (.long x0), .second, .val (.long x1), .second, .val (.long x2), .second, .val (.long x3), .second, .val (.int x4), .val (.int x5), .val (.int W), .val (.long M), .second, .val (.long (x3 &&& M)), .second, .val (.int C), .unset, .unset, .unset, .unset, .unset, .unset, .unset, .unset] [(.int x5)])) rfl (hb hby at_47) _ (XS.iand X0.here hx rfl (hb hby at_49) rfl (XS.iload X0.here hx rfl (hb hby at_50) rfl (iremM X0 hx rfl (hb hby at_52) rfl zC (XS.i2l X0.here hx rfl (hb hby at_53) rfl (XS.lstore X0.here hx rfl (hb hby at_54) rfl (l' := #[.val (.long x0), .second, .val (.long x1), .second, .val (.long x2), .second, .val (.long x3), .second, .val (.int x4), .val (.int x5), .val (.int W), .val (.long M), .second, .val (.long (x3 &&& M)), .second, .val (.int C), .val (.long (((x5 &&& (2147483647 : Int32)) % C).toInt64)), .second, .unset, .unset, .unset, .unset, .unset, .unset]) rfl k))))))) ?_
    generalize hI : ((x5 &&& (2147483647 : Int32)) % C).toInt64 = I
    have bI := own_i bC.1 hI
    refine Goes.on (T' := T0) (g' := (mkF m 64 #[.val (.long x0), .second, .val (.long x1), .second, .val (.long x2), .second, .val (.long x3), .second, .val (.int x4), .val (.int x5), .val (.int W), .val (.long M), .second, .val (.long (x3 &&& M)), .second, .val (.int C), .val (.long I), .second, .val (.long (I * W.toInt64)), .second, .unset, .unset, .unset, .unset] [])) (fun _ k => XS.lload X0.here hx rfl (hb hby at_56) rfl (XS.iload X0.here hx rfl (hb hby at_58) rfl (XS.i2l X0.here hx rfl (hb hby at_60) rfl (XS.lmul X0.here hx rfl (hb hby at_61) rfl (XS.lstore X0.here hx rfl (hb hby at_62) rfl (l' := #[.val (.long x0), .second, .val (.long x1), .second, .val (.long x2), .second, .val (.long x3), .second, .val (.int x4), .val (.int x5), .val (.int W), .val (.long M), .second, .val (.long (x3 &&& M)), .second, .val (.int C), .val (.long I), .second, .val (.long (I * W.toInt64)), .second, .unset, .unset, .unset, .unset]) rfl k))))) ?_
    generalize hS : (I * W.toInt64) = SS
    have bS := own_s bW bC bI hS
    refine Goes.on (T' := T0) (g' := (mkF m 73 #[.val (.long x0), .second, .val (.long x1), .second, .val (.long x2), .second, .val (.long x3), .second, .val (.int x4), .val (.int x5), .val (.int W), .val (.long M), .second, .val (.long (x3 &&& M)), .second, .val (.int C), .val (.long I), .second, .val (.long SS), .second, .val (.int ((SS / (64 : Int64)).toInt32)), .unset, .unset, .unset] [])) (fun _ k => XS.lload X0.here hx rfl (hb hby at_64) rfl (X0.ldc2Long hx hown (mvT hZ (own_w hw 1 rfl)) (g := (mkF m 66 #[.val (.long x0), .second, .val (.long x1), .second, .val (.long x2), .second, .val (.long x3), .second, .val (.int x4), .val (.int x5), .val (.int W), .val (.long M), .second, .val (.long (x3 &&& M)), .second, .val (.int C), .val (.long I), .second, .val (.long SS), .second, .unset, .unset, .unset, .unset] [(.long SS)])) rfl (hb hby at_66) _ (XS.ldiv X0.here hx rfl (hb hby at_69) rfl (by decide) (XT.l2i X0.here hx rfl (hb hby at_70) rfl (XS.istore X0.here hx rfl (hb hby at_71) rfl (l' := #[.val (.long x0), .second, .val (.long x1), .second, .val (.long x2), .second, .val (.long x3), .second, .val (.int x4), .val (.int x5), .val (.int W), .val (.long M), .second, .val (.long (x3 &&& M)), .second, .val (.int C), .val (.long I), .second, .val (.long SS), .second, .val (.int ((SS / (64 : Int64)).toInt32)), .unset, .unset, .unset]) rfl k))))) ?_
    generalize hK : (SS / (64 : Int64)).toInt32 = K
    refine Goes.on (T' := T0) (g' := (mkF m 82 #[.val (.long x0), .second, .val (.long x1), .second, .val (.long x2), .second, .val (.long x3), .second, .val (.int x4), .val (.int x5), .val (.int W), .val (.long M), .second, .val (.long (x3 &&& M)), .second, .val (.int C), .val (.long I), .second, .val (.long SS), .second, .val (.int K), .val (.int ((SS % (64 : Int64)).toInt32)), .unset, .unset] [])) (fun _ k => XS.lload X0.here hx rfl (hb hby at_73) rfl (X0.ldc2Long hx hown (mvT hZ (own_w hw 1 rfl)) (g := (mkF m 75 #[.val (.long x0), .second, .val (.long x1), .second, .val (.long x2), .second, .val (.long x3), .second, .val (.int x4), .val (.int x5), .val (.int W), .val (.long M), .second, .val (.long (x3 &&& M)), .second, .val (.int C), .val (.long I), .second, .val (.long SS), .second, .val (.int K), .unset, .unset, .unset] [(.long SS)])) rfl (hb hby at_75) _ (lremM X0 hx rfl (hb hby at_78) rfl (by decide) (XT.l2i X0.here hx rfl (hb hby at_79) rfl (XS.istore X0.here hx rfl (hb hby at_80) rfl (l' := #[.val (.long x0), .second, .val (.long x1), .second, .val (.long x2), .second, .val (.long x3), .second, .val (.int x4), .val (.int x5), .val (.int W), .val (.long M), .second, .val (.long (x3 &&& M)), .second, .val (.int C), .val (.long I), .second, .val (.long SS), .second, .val (.int K), .val (.int ((SS % (64 : Int64)).toInt32)), .unset, .unset]) rfl k))))) ?_
    generalize hO : (SS % (64 : Int64)).toInt32 = O
    have bK := own_k bS bW hK hO
    have nK := own_in (n := 3) (by omega : 0 ≤ K.toInt) (by omega : K.toInt < 3)
    refine Goes.on (T' := T0) (g' := (mkF m 83 #[.val (.long x0), .second, .val (.long x1), .second, .val (.long x2), .second, .val (.long x3), .second, .val (.int x4), .val (.int x5), .val (.int W), .val (.long M), .second, .val (.long (x3 &&& M)), .second, .val (.int C), .val (.long I), .second, .val (.long SS), .second, .val (.int K), .val (.int O), .unset, .unset] [(.int (3 : Int32))])) (fun _ k => XS.iconst X0.here hx rfl (hb hby at_82) k) ?_
    obtain ⟨T24, h24, cA24, X24, e24, E24, A24, J24, st24⟩ := newPE X0 hx hZ (own_w hw 2 rfl) e0 (g := (mkF m 83 #[.val (.long x0), .second, .val (.long x1), .second, .val (.long x2), .second, .val (.long x3), .second, .val (.int x4), .val (.int x5), .val (.int W), .val (.long M), .second, .val (.long (x3 &&& M)), .second, .val (.int C), .val (.long I), .second, .val (.long SS), .second, .val (.int K), .val (.int O), .unset, .unset] [(.int (3 : Int32))])) rfl (hb hby at_83) rfl (by decide) (cap := 3) (by decide) (by decide) (by decide) (by decide) (ad := "[J") (by decide)
    obtain ⟨a24, g24⟩ : ∃ z, z = h0.size := ⟨_, rfl⟩
    rw [← g24] at A24 J24 st24
    have Z25 : n0 ≤ h24.size := Nat.le_trans Z0 E24.1
    have B24 : Arf Z h24 a24 .long Value.long 3 (fun _ => (0 : Int64)) := Arf.new A24 rfl
    have G24 : n0 ≤ a24 := Nat.le_trans Z0 (Nat.le_of_eq g24.symm)
    refine Goes.on (T' := T24) (g' := (mkF m 88 #[.val (.long x0), .second, .val (.long x1), .second, .val (.long x2), .second, .val (.long x3), .second, .val (.int x4), .val (.int x5), .val (.int W), .val (.long M), .second, .val (.long (x3 &&& M)), .second, .val (.int C), .val (.long I), .second, .val (.long SS), .second, .val (.int K), .val (.int O), .unset, .unset] [(.long x0), (.int (0 : Int32)), (.ref a24), (.ref a24)])) (fun _ k => st24 _ (XS.dup X24.here hx rfl (hb hby at_85) rfl rfl (XS.iconst X24.here hx rfl (hb hby at_86) (XS.lloadN X24.here hx rfl (hb hby at_87) rfl k)))) ?_
    obtain ⟨T26, h26, X26, e26, W26, B26, st26⟩ := wrJ X24 hx hZ e24 B24 (by decide)  (g := (mkF m 88 #[.val (.long x0), .second, .val (.long x1), .second, .val (.long x2), .second, .val (.long x3), .second, .val (.int x4), .val (.int x5), .val (.int W), .val (.long M), .second, .val (.long (x3 &&& M)), .second, .val (.int C), .val (.long I), .second, .val (.long SS), .second, .val (.int K), .val (.int O), .unset, .unset] [(.long x0), (.int (0 : Int32)), (.ref a24), (.ref a24)])) rfl rfl (hb hby at_88)
    have N26 := Fr.snoc X26 N0 G24
    have Z28 : n0 ≤ h26.size := by rw [W26.size]; exact Z25
    have B26 : Arf Z h26 a24 .long Value.long 3 (Upd (fun _ => (0 : Int64)) 0 x0) := B26
    refine Goes.on (T' := T26) (g' := (mkF m 92 #[.val (.long x0), .second, .val (.long x1), .second, .val (.long x2), .second, .val (.long x3), .second, .val (.int x4), .val (.int x5), .val (.int W), .val (.long M), .second, .val (.long (x3 &&& M)), .second, .val (.int C), .val (.long I), .second, .val (.long SS), .second, .val (.int K), .val (.int O), .unset, .unset] [(.long x1), (.int (1 : Int32)), (.ref a24), (.ref a24)])) (fun _ k => st26 _ (XS.dup X26.here hx rfl (hb hby at_89) rfl rfl (XS.iconst X26.here hx rfl (hb hby at_90) (XS.lloadN X26.here hx rfl (hb hby at_91) rfl k)))) ?_
    obtain ⟨T29, h29, X29, e29, W29, B29, st29⟩ := wrJ X26 hx hZ e26 B26 (by decide)  (g := (mkF m 92 #[.val (.long x0), .second, .val (.long x1), .second, .val (.long x2), .second, .val (.long x3), .second, .val (.int x4), .val (.int x5), .val (.int W), .val (.long M), .second, .val (.long (x3 &&& M)), .second, .val (.int C), .val (.long I), .second, .val (.long SS), .second, .val (.int K), .val (.int O), .unset, .unset] [(.long x1), (.int (1 : Int32)), (.ref a24), (.ref a24)])) rfl rfl (hb hby at_92)
    have N29 := Fr.snoc X29 N26 G24
    have Z31 : n0 ≤ h29.size := by rw [W29.size]; exact Z28
    have B29 : Arf Z h29 a24 .long Value.long 3 (Upd (Upd (fun _ => (0 : Int64)) 0 x0) 1 x1) := B29
    refine Goes.on (T' := T29) (g' := (mkF m 97 #[.val (.long x0), .second, .val (.long x1), .second, .val (.long x2), .second, .val (.long x3), .second, .val (.int x4), .val (.int x5), .val (.int W), .val (.long M), .second, .val (.long (x3 &&& M)), .second, .val (.int C), .val (.long I), .second, .val (.long SS), .second, .val (.int K), .val (.int O), .unset, .unset] [(.long x2), (.int (2 : Int32)), (.ref a24), (.ref a24)])) (fun _ k => st29 _ (XS.dup X29.here hx rfl (hb hby at_93) rfl rfl (XS.iconst X29.here hx rfl (hb hby at_94) (XS.lload X29.here hx rfl (hb hby at_95) rfl k)))) ?_
    obtain ⟨T32, h32, X32, e32, W32, B32, st32⟩ := wrJ X29 hx hZ e29 B29 (by decide)  (g := (mkF m 97 #[.val (.long x0), .second, .val (.long x1), .second, .val (.long x2), .second, .val (.long x3), .second, .val (.int x4), .val (.int x5), .val (.int W), .val (.long M), .second, .val (.long (x3 &&& M)), .second, .val (.int C), .val (.long I), .second, .val (.long SS), .second, .val (.int K), .val (.int O), .unset, .unset] [(.long x2), (.int (2 : Int32)), (.ref a24), (.ref a24)])) rfl rfl (hb hby at_97)
    have N32 := Fr.snoc X32 N29 G24
    have Z34 : n0 ≤ h32.size := by rw [W32.size]; exact Z31
    have B32 : Arf Z h32 a24 .long Value.long 3 (Upd (Upd (Upd (fun _ => (0 : Int64)) 0 x0) 1 x1) 2 x2) := B32
    refine Goes.on (T' := T32) (g' := (mkF m 118 #[.val (.long x0), .second, .val (.long x1), .second, .val (.long x2), .second, .val (.long x3), .second, .val (.int x4), .val (.int x5), .val (.int W), .val (.long M), .second, .val (.long (x3 &&& M)), .second, .val (.int C), .val (.long I), .second, .val (.long SS), .second, .val (.int K), .val (.int O), .val (.ref a24), .unset] [(.long ((M <<< (O &&& 0x3f).toInt64) ^^^ (-1 : Int64))), (.long ((Upd (Upd (Upd (fun _ => (0 : Int64)) 0 x0) 1 x1) 2 x2) K.toNatClampNeg)), (.int K), (.ref a24)])) (fun _ k => st32 _ (XS.astore X32.here hx rfl (hb hby at_98) rfl rfl (l' := #[.val (.long x0), .second, .val (.long x1), .second, .val (.long x2), .second, .val (.long x3), .second, .val (.int x4), .val (.int x5), .val (.int W), .val (.long M), .second, .val (.long (x3 &&& M)), .second, .val (.int C), .val (.long I), .second, .val (.long SS), .second, .val (.int K), .val (.int O), .val (.ref a24), .unset]) rfl (XS.aload X32.here hx rfl (hb hby at_100) rfl rfl (XS.iload X32.here hx rfl (hb hby at_102) rfl (XS.aload X32.here hx rfl (hb hby at_104) rfl rfl (XS.iload X32.here hx rfl (hb hby at_106) rfl (ldJm X32 hx hZ e32 B32 nK (hb hby at_108) (XS.lload X32.here hx rfl (hb hby at_109) rfl (XS.iload X32.here hx rfl (hb hby at_111) rfl (XS.lshl X32.here hx rfl (hb hby at_113) rfl (X32.ldc2Long hx hown (mvT hZ (own_w hw 3 rfl)) (g := (mkF m 114 #[.val (.long x0), .second, .val (.long x1), .second, .val (.long x2), .second, .val (.long x3), .second, .val (.int x4), .val (.int x5), .val (.int W), .val (.long M), .second, .val (.long (x3 &&& M)), .second, .val (.int C), .val (.long I), .second, .val (.long SS), .second, .val (.int K), .val (.int O), .val (.ref a24), .unset] [(.long (M <<< (O &&& 0x3f).toInt64)), (.long ((Upd (Upd (Upd (fun _ => (0 : Int64)) 0 x0) 1 x1) 2 x2) K.toNatClampNeg)), (.int K), (.ref a24)])) rfl (hb hby at_114) _ (XS.lxor X32.here hx rfl (hb hby at_117) rfl k)))))))))))) ?_
    refine Goes.on (T' := T32) (g' := (mkF m 125 #[.val (.long x0), .second, .val (.long x1), .second, .val (.long x2), .second, .val (.long x3), .second, .val (.int x4), .val (.int x5), .val (.int W), .val (.long M), .second, .val (.long (x3 &&& M)), .second, .val (.int C), .val (.long I), .second, .val (.long SS), .second, .val (.int K), .val (.int O), .val (.ref a24), .unset] [(.long ((((Upd (Upd (Upd (fun _ => (0 : Int64)) 0 x0) 1 x1) 2 x2) K.toNatClampNeg) &&& ((M <<< (O &&& 0x3f).toInt64) ^^^ (-1 : Int64))) ||| ((x3 &&& M) <<< (O &&& 0x3f).toInt64))), (.int K), (.ref a24)])) (fun _ k => XS.land X32.here hx rfl (hb hby at_118) rfl (XS.lload X32.here hx rfl (hb hby at_119) rfl (XS.iload X32.here hx rfl (hb hby at_121) rfl (XS.lshl X32.here hx rfl (hb hby at_123) rfl (XS.lor X32.here hx rfl (hb hby at_124) rfl k))))) ?_
    obtain ⟨T36, h36, X36, e36, W36, B36, st36⟩ := wrJ X32 hx hZ e32 B32 nK  (g := (mkF m 125 #[.val (.long x0), .second, .val (.long x1), .second, .val (.long x2), .second, .val (.long x3), .second, .val (.int x4), .val (.int x5), .val (.int W), .val (.long M), .second, .val (.long (x3 &&& M)), .second, .val (.int C), .val (.long I), .second, .val (.long SS), .second, .val (.int K), .val (.int O), .val (.ref a24), .unset] [(.long ((((Upd (Upd (Upd (fun _ => (0 : Int64)) 0 x0) 1 x1) 2 x2) K.toNatClampNeg) &&& ((M <<< (O &&& 0x3f).toInt64) ^^^ (-1 : Int64))) ||| ((x3 &&& M) <<< (O &&& 0x3f).toInt64))), (.int K), (.ref a24)])) rfl rfl (hb hby at_125)
    have N36 := Fr.snoc X36 N32 G24
    have Z38 : n0 ≤ h36.size := by rw [W36.size]; exact Z34
    have B36 : Arf Z h36 a24 .long Value.long 3 (Upd (Upd (Upd (Upd (fun _ => (0 : Int64)) 0 x0) 1 x1) 2 x2) K.toNatClampNeg ((((Upd (Upd (Upd (fun _ => (0 : Int64)) 0 x0) 1 x1) 2 x2) K.toNatClampNeg) &&& ((M <<< (O &&& 0x3f).toInt64) ^^^ (-1 : Int64))) ||| ((x3 &&& M) <<< (O &&& 0x3f).toInt64))) := B36
    refine Goes.on (T' := T36) (g' := (mkF m 133 #[.val (.long x0), .second, .val (.long x1), .second, .val (.long x2), .second, .val (.long x3), .second, .val (.int x4), .val (.int x5), .val (.int W), .val (.long M), .second, .val (.long (x3 &&& M)), .second, .val (.int C), .val (.long I), .second, .val (.long SS), .second, .val (.int K), .val (.int O), .val (.ref a24), .unset] [(.int (64 : Int32)), (.int (O + W))])) (fun _ k => st36 _ (XS.iload X36.here hx rfl (hb hby at_126) rfl (XS.iload X36.here hx rfl (hb hby at_128) rfl (XS.iadd X36.here hx rfl (hb hby at_130) rfl (XS.bipush X36.here hx rfl (hb hby at_131) k))))) ?_
    by_cases hc39 : (64 : Int32) < (O + W)
    · refine Goes.on (T' := T36) (g' := (mkF m 136 #[.val (.long x0), .second, .val (.long x1), .second, .val (.long x2), .second, .val (.long x3), .second, .val (.int x4), .val (.int x5), .val (.int W), .val (.long M), .second, .val (.long (x3 &&& M)), .second, .val (.int C), .val (.long I), .second, .val (.long SS), .second, .val (.int K), .val (.int O), .val (.ref a24), .unset] [])) (fun _ k => XS.icmpNo X36.here hx rfl (hb hby at_133) rfl (XT.ii_le_f hc39) k) ?_
      have oS := own_sum bW bK.2.1 hc39
      have nK1 := own_in1 (n := 3) (by omega : 0 ≤ K.toInt) (by omega : K.toInt + 1 < 3)
      refine Goes.on (T' := T36) (g' := (mkF m 155 #[.val (.long x0), .second, .val (.long x1), .second, .val (.long x2), .second, .val (.long x3), .second, .val (.int x4), .val (.int x5), .val (.int W), .val (.long M), .second, .val (.long (x3 &&& M)), .second, .val (.int C), .val (.long I), .second, .val (.long SS), .second, .val (.int K), .val (.int O), .val (.ref a24), .val (.int ((64 : Int32) - O))] [(.int (K + (1 : Int32))), (.ref a24), (.int (K + (1 : Int32))), (.ref a24)])) (fun _ k => XS.bipush X36.here hx rfl (hb hby at_136) (XS.iload X36.here hx rfl (hb hby at_138) rfl (XS.isub X36.here hx rfl (hb hby at_140) rfl (XS.istore X36.here hx rfl (hb hby at_141) rfl (l' := #[.val (.long x0), .second, .val (.long x1), .second, .val (.long x2), .second, .val (.long x3), .second, .val (.int x4), .val (.int x5), .val (.int W), .val (.long M), .second, .val (.long (x3 &&& M)), .second, .val (.int C), .val (.long I), .second, .val (.long SS), .second, .val (.int K), .val (.int O), .val (.ref a24), .val (.int ((64 : Int32) - O))]) rfl (XS.aload X36.here hx rfl (hb hby at_143) rfl rfl (XS.iload X36.here hx rfl (hb hby at_145) rfl (XS.iconst X36.here hx rfl (hb hby at_147) (XS.iadd X36.here hx rfl (hb hby at_148) rfl (XS.aload X36.here hx rfl (hb hby at_149) rfl rfl (XS.iload X36.here hx rfl (hb hby at_151) rfl (XS.iconst X36.here hx rfl (hb hby at_153) (XS.iadd X36.here hx rfl (hb hby at_154) rfl k)))))))))))) ?_
      refine Goes.on (T' := T36) (g' := (mkF m 172 #[.val (.long x0), .second, .val (.long x1), .second, .val (.long x2), .second, .val (.long x3), .second, .val (.int x4), .val (.int x5), .val (.int W), .val (.long M), .second, .val (.long (x3 &&& M)), .second, .val (.int C), .val (.long I), .second, .val (.long SS), .second, .val (.int K), .val (.int O), .val (.ref a24), .val (.int ((64 : Int32) - O))] [(.long ((((Upd (Upd (Upd (Upd (fun _ => (0 : Int64)) 0 x0) 1 x1) 2 x2) K.toNatClampNeg ((((Upd (Upd (Upd (fun _ => (0 : Int64)) 0 x0) 1 x1) 2 x2) K.toNatClampNeg) &&& ((M <<< (O &&& 0x3f).toInt64) ^^^ (-1 : Int64))) ||| ((x3 &&& M) <<< (O &&& 0x3f).toInt64))) (K + (1 : Int32)).toNatClampNeg) &&& ((M.toUInt64 >>> (((64 : Int32) - O) &&& 0x3f).toInt64.toUInt64).toInt64 ^^^ (-1 : Int64))) ||| ((x3 &&& M).toUInt64 >>> (((64 : Int32) - O) &&& 0x3f).toInt64.toUInt64).toInt64)), (.int (K + (1 : Int32))), (.ref a24)])) (fun _ k => ldJm X36 hx hZ e36 B36 nK1 (hb hby at_155) (XS.lload X36.here hx rfl (hb hby at_156) rfl (XS.iload X36.here hx rfl (hb hby at_158) rfl (XS.lushr X36.here hx rfl (hb hby at_160) rfl (X36.ldc2Long hx hown (mvT hZ (own_w hw 3 rfl)) (g := (mkF m 161 #[.val (.long x0), .second, .val (.long x1), .second, .val (.long x2), .second, .val (.long x3), .second, .val (.int x4), .val (.int x5), .val (.int W), .val (.long M), .second, .val (.long (x3 &&& M)), .second, .val (.int C), .val (.long I), .second, .val (.long SS), .second, .val (.int K), .val (.int O), .val (.ref a24), .val (.int ((64 : Int32) - O))] [(.long ((M.toUInt64 >>> (((64 : Int32) - O) &&& 0x3f).toInt64.toUInt64).toInt64)), (.long ((Upd (Upd (Upd (Upd (fun _ => (0 : Int64)) 0 x0) 1 x1) 2 x2) K.toNatClampNeg ((((Upd (Upd (Upd (fun _ => (0 : Int64)) 0 x0) 1 x1) 2 x2) K.toNatClampNeg) &&& ((M <<< (O &&& 0x3f).toInt64) ^^^ (-1 : Int64))) ||| ((x3 &&& M) <<< (O &&& 0x3f).toInt64))) (K + (1 : Int32)).toNatClampNeg)), (.int (K + (1 : Int32))), (.ref a24)])) rfl (hb hby at_161) _ (XS.lxor X36.here hx rfl (hb hby at_164) rfl (XS.land X36.here hx rfl (hb hby at_165) rfl (XS.lload X36.here hx rfl (hb hby at_166) rfl (XS.iload X36.here hx rfl (hb hby at_168) rfl (XS.lushr X36.here hx rfl (hb hby at_170) rfl (XS.lor X36.here hx rfl (hb hby at_171) rfl k))))))))))) ?_
      obtain ⟨T41, h41, X41, e41, W41, B41, st41⟩ := wrJ X36 hx hZ e36 B36 nK1  (g := (mkF m 172 #[.val (.long x0), .second, .val (.long x1), .second, .val (.long x2), .second, .val (.long x3), .second, .val (.int x4), .val (.int x5), .val (.int W), .val (.long M), .second, .val (.long (x3 &&& M)), .second, .val (.int C), .val (.long I), .second, .val (.long SS), .second, .val (.int K), .val (.int O), .val (.ref a24), .val (.int ((64 : Int32) - O))] [(.long ((((Upd (Upd (Upd (Upd (fun _ => (0 : Int64)) 0 x0) 1 x1) 2 x2) K.toNatClampNeg ((((Upd (Upd (Upd (fun _ => (0 : Int64)) 0 x0) 1 x1) 2 x2) K.toNatClampNeg) &&& ((M <<< (O &&& 0x3f).toInt64) ^^^ (-1 : Int64))) ||| ((x3 &&& M) <<< (O &&& 0x3f).toInt64))) (K + (1 : Int32)).toNatClampNeg) &&& ((M.toUInt64 >>> (((64 : Int32) - O) &&& 0x3f).toInt64.toUInt64).toInt64 ^^^ (-1 : Int64))) ||| ((x3 &&& M).toUInt64 >>> (((64 : Int32) - O) &&& 0x3f).toInt64.toUInt64).toInt64)), (.int (K + (1 : Int32))), (.ref a24)])) rfl rfl (hb hby at_172)
      have N41 := Fr.snoc X41 N36 G24
      have Z43 : n0 ≤ h41.size := by rw [W41.size]; exact Z38
      have B41 : Arf Z h41 a24 .long Value.long 3 (Upd (Upd (Upd (Upd (Upd (fun _ => (0 : Int64)) 0 x0) 1 x1) 2 x2) K.toNatClampNeg ((((Upd (Upd (Upd (fun _ => (0 : Int64)) 0 x0) 1 x1) 2 x2) K.toNatClampNeg) &&& ((M <<< (O &&& 0x3f).toInt64) ^^^ (-1 : Int64))) ||| ((x3 &&& M) <<< (O &&& 0x3f).toInt64))) (K + (1 : Int32)).toNatClampNeg ((((Upd (Upd (Upd (Upd (fun _ => (0 : Int64)) 0 x0) 1 x1) 2 x2) K.toNatClampNeg ((((Upd (Upd (Upd (fun _ => (0 : Int64)) 0 x0) 1 x1) 2 x2) K.toNatClampNeg) &&& ((M <<< (O &&& 0x3f).toInt64) ^^^ (-1 : Int64))) ||| ((x3 &&& M) <<< (O &&& 0x3f).toInt64))) (K + (1 : Int32)).toNatClampNeg) &&& ((M.toUInt64 >>> (((64 : Int32) - O) &&& 0x3f).toInt64.toUInt64).toInt64 ^^^ (-1 : Int64))) ||| ((x3 &&& M).toUInt64 >>> (((64 : Int32) - O) &&& 0x3f).toInt64.toUInt64).toInt64)) := B41
      refine Goes.on (T' := T41) (g' := (mkF m 179 #[.val (.long x0), .second, .val (.long x1), .second, .val (.long x2), .second, .val (.long x3), .second, .val (.int x4), .val (.int x5), .val (.int W), .val (.long M), .second, .val (.long (x3 &&& M)), .second, .val (.int C), .val (.long I), .second, .val (.long SS), .second, .val (.int K), .val (.int O), .val (.ref a24), .val (.int ((64 : Int32) - O))] [(.long I), (.int W), (.ref a24)])) (fun _ k => st41 _ (XS.aload X41.here hx rfl (hb hby at_173) rfl rfl (XS.iload X41.here hx rfl (hb hby at_175) rfl (XS.lload X41.here hx rfl (hb hby at_177) rfl k)))) ?_
      refine Goes.callS X41 hx hZ 0 hown (own_w hw 4 rfl) (own_w hw 5 rfl) (own_w hw 6 rfl) (own_w hw 7 rfl) (by decide) e41 (rm1 l Z a0 hw a24 W I (Upd (Upd (Upd (Upd (Upd (fun _ => (0 : Int64)) 0 x0) 1 x1) 2 x2) K.toNatClampNeg ((((Upd (Upd (Upd (fun _ => (0 : Int64)) 0 x0) 1 x1) 2 x2) K.toNatClampNeg) &&& ((M <<< (O &&& 0x3f).toInt64) ^^^ (-1 : Int64))) ||| ((x3 &&& M) <<< (O &&& 0x3f).toInt64))) (K + (1 : Int32)).toNatClampNeg ((((Upd (Upd (Upd (Upd (fun _ => (0 : Int64)) 0 x0) 1 x1) 2 x2) K.toNatClampNeg ((((Upd (Upd (Upd (fun _ => (0 : Int64)) 0 x0) 1 x1) 2 x2) K.toNatClampNeg) &&& ((M <<< (O &&& 0x3f).toInt64) ^^^ (-1 : Int64))) ||| ((x3 &&& M) <<< (O &&& 0x3f).toInt64))) (K + (1 : Int32)).toNatClampNeg) &&& ((M.toUInt64 >>> (((64 : Int32) - O) &&& 0x3f).toInt64.toUInt64).toInt64 ^^^ (-1 : Int64))) ||| ((x3 &&& M).toUInt64 >>> (((64 : Int32) - O) &&& 0x3f).toInt64.toUInt64).toInt64)) h41 n0 Z43 B41 (by rw [hS, hK]; exact nK) (fun _ => by rw [hS, hK]; exact nK1)) (by decide) (by decide) (by decide) (by decide) rfl (by rw [hml]; rfl) (argsL := [(.ref a24), (.int W), (.long I)]) (rest := []) rfl (lenOf pd_0 rfl) rfl (by show 2 * 0 + _ ≤ _; exact Nat.le_of_eq rfl) (hb hby at_179) ?_
      intro v44 T44 L44 X44 hQ44
      obtain ⟨rfl, N44q, e44⟩ := hQ44
      have N44 := Fr.app N41 N44q
      show Goes p e below _ T44 (mkF m 182 #[.val (.long x0), .second, .val (.long x1), .second, .val (.long x2), .second, .val (.long x3), .second, .val (.int x4), .val (.int x5), .val (.int W), .val (.long M), .second, .val (.long (x3 &&& M)), .second, .val (.int C), .val (.long I), .second, .val (.long SS), .second, .val (.int K), .val (.int O), .val (.ref a24), .val (.int ((64 : Int32) - O))] [(.long (F1 W I (Upd (Upd (Upd (Upd (Upd (fun _ => (0 : Int64)) 0 x0) 1 x1) 2 x2) K.toNatClampNeg ((((Upd (Upd (Upd (fun _ => (0 : Int64)) 0 x0) 1 x1) 2 x2) K.toNatClampNeg) &&& ((M <<< (O &&& 0x3f).toInt64) ^^^ (-1 : Int64))) ||| ((x3 &&& M) <<< (O &&& 0x3f).toInt64))) (K + (1 : Int32)).toNatClampNeg ((((Upd (Upd (Upd (Upd (fun _ => (0 : Int64)) 0 x0) 1 x1) 2 x2) K.toNatClampNeg ((((Upd (Upd (Upd (fun _ => (0 : Int64)) 0 x0) 1 x1) 2 x2) K.toNatClampNeg) &&& ((M <<< (O &&& 0x3f).toInt64) ^^^ (-1 : Int64))) ||| ((x3 &&& M) <<< (O &&& 0x3f).toInt64))) (K + (1 : Int32)).toNatClampNeg) &&& ((M.toUInt64 >>> (((64 : Int32) - O) &&& 0x3f).toInt64.toUInt64).toInt64 ^^^ (-1 : Int64))) ||| ((x3 &&& M).toUInt64 >>> (((64 : Int32) - O) &&& 0x3f).toInt64.toUInt64).toInt64))))])
      refine Goes.on (T' := T44) (g' := (mkF m 193 #[.val (.long x0), .second, .val (.long x1), .second, .val (.long x2), .second, .val (.long x3), .second, .val (.int x4), .val (.int x5), .val (.int W), .val (.long M), .second, .val (.long (x3 &&& M)), .second, .val (.int C), .val (.long I), .second, .val (.long SS), .second, .val (.int K), .val (.int O), .val (.ref a24), .val (.int ((64 : Int32) - O))] [(.int (1 : Int32))])) (fun _ k => XS.lload X44.here hx rfl (hb hby at_182) rfl (XT.lcmp X44.here hx rfl (hb hby at_184) rfl (XS.ifNo X44.here hx rfl (hb hby at_185) rfl (XT.ll_ne_f (own_fin2 hS hK hO bW bK.2.1 hM hc39 ((updN _ _ (own_kne (by omega) (by omega))).trans (updS _ _ _)) (updS _ _ _))) (XS.iconst X44.here hx rfl (hb hby at_188) (XS.goto X44.here hx rfl (pc0 := 189) (pc' := 193) rfl (hb hby at_189) (by decide) (by decide) k))))) ?_
      exact Goes.retB X44 hx hlk hret (Or.inr rfl) (hb hby at_193) (by decide) (by decide) ⟨rfl, N44⟩
    · refine Goes.on (T' := T36) (g' := (mkF m 179 #[.val (.long x0), .second, .val (.long x1), .second, .val (.long x2), .second, .val (.long x3), .second, .val (.int x4), .val (.int x5), .val (.int W), .val (.long M), .second, .val (.long (x3 &&& M)), .second, .val (.int C), .val (.long I), .second, .val (.long SS), .second, .val (.int K), .val (.int O), .val (.ref a24), .unset] [(.long I), (.int W), (.ref a24)])) (fun _ k => XS.icmpYes X36.here hx rfl (pc0 := 133) (pc' := 173) rfl (hb hby at_133) rfl (XT.ii_le_t hc39) (by decide) (by decide) (XS.aload X36.here hx rfl (hb hby at_173) rfl rfl (XS.iload X36.here hx rfl (hb hby at_175) rfl (XS.lload X36.here hx rfl (hb hby at_177) rfl k)))) ?_
      refine Goes.callS X36 hx hZ 0 hown (own_w hw 4 rfl) (own_w hw 5 rfl) (own_w hw 6 rfl) (own_w hw 7 rfl) (by decide) e36 (rm1 l Z a0 hw a24 W I (Upd (Upd (Upd (Upd (fun _ => (0 : Int64)) 0 x0) 1 x1) 2 x2) K.toNatClampNeg ((((Upd (Upd (Upd (fun _ => (0 : Int64)) 0 x0) 1 x1) 2 x2) K.toNatClampNeg) &&& ((M <<< (O &&& 0x3f).toInt64) ^^^ (-1 : Int64))) ||| ((x3 &&& M) <<< (O &&& 0x3f).toInt64))) h36 n0 Z38 B36 (by rw [hS, hK]; exact nK) (fun q => absurd (by rw [hS, hO] at q; exact q) hc39)) (by decide) (by decide) (by decide) (by decide) rfl (by rw [hml]; rfl) (argsL := [(.ref a24), (.int W), (.long I)]) (rest := []) rfl (lenOf pd_0 rfl) rfl (by show 2 * 0 + _ ≤ _; exact Nat.le_of_eq rfl) (hb hby at_179) ?_
      intro v45 T45 L45 X45 hQ45
      obtain ⟨rfl, N45q, e45⟩ := hQ45
      have N45 := Fr.app N36 N45q
      show Goes p e below _ T45 (mkF m 182 #[.val (.long x0), .second, .val (.long x1), .second, .val (.long x2), .second, .val (.long x3), .second, .val (.int x4), .val (.int x5), .val (.int W), .val (.long M), .second, .val (.long (x3 &&& M)), .second, .val (.int C), .val (.long I), .second, .val (.long SS), .second, .val (.int K), .val (.int O), .val (.ref a24), .unset] [(.long (F1 W I (Upd (Upd (Upd (Upd (fun _ => (0 : Int64)) 0 x0) 1 x1) 2 x2) K.toNatClampNeg ((((Upd (Upd (Upd (fun _ => (0 : Int64)) 0 x0) 1 x1) 2 x2) K.toNatClampNeg) &&& ((M <<< (O &&& 0x3f).toInt64) ^^^ (-1 : Int64))) ||| ((x3 &&& M) <<< (O &&& 0x3f).toInt64)))))])
      refine Goes.on (T' := T45) (g' := (mkF m 193 #[.val (.long x0), .second, .val (.long x1), .second, .val (.long x2), .second, .val (.long x3), .second, .val (.int x4), .val (.int x5), .val (.int W), .val (.long M), .second, .val (.long (x3 &&& M)), .second, .val (.int C), .val (.long I), .second, .val (.long SS), .second, .val (.int K), .val (.int O), .val (.ref a24), .unset] [(.int (1 : Int32))])) (fun _ k => XS.lload X45.here hx rfl (hb hby at_182) rfl (XT.lcmp X45.here hx rfl (hb hby at_184) rfl (XS.ifNo X45.here hx rfl (hb hby at_185) rfl (XT.ll_ne_f (own_fin1 hS hK hO bW bK.2.1 hM hc39 (updS _ _ _))) (XS.iconst X45.here hx rfl (hb hby at_188) (XS.goto X45.here hx rfl (pc0 := 189) (pc' := 193) rfl (hb hby at_189) (by decide) (by decide) k))))) ?_
      exact Goes.retB X45 hx hlk hret (Or.inr rfl) (hb hby at_193) (by decide) (by decide) ⟨rfl, N45⟩
set_option maxRecDepth 65536 in
set_option maxHeartbeats 40000000 in
theorem comes_1 {Post : Tables → Env → Array Value → State → Outcome → State → Prop} (hpost : ∀ tb e args s v u, (limb_1_1.after args s (.returned v) u = true ∧ limb_1_2.after args s (.returned v) u = true ∧ True) → FrameEnd s (.returned v) u (Jvm.fieldLocs frame_1_writes args s ++ Jvm.arrayLocs frame_1_arrays args s ++ Jvm.staticLocs frame_1_statics s) 16 128 → Post tb e args s (.returned v) u) :
    ArmFor flags0 classFile x code maxLocals ret World_1 tables_1 room_1 Calls_1 rest_1 Pre_1 Post := by
  intro l hfl _ _ p e ha hc hk s m args below hf hA hF happ hP
  obtain ⟨hcalls, hrest, hpre⟩ := hP
  obtain ⟨-, -, -, hnamed, -, -, -, hat⟩ := (Spec.applies_iff hf).mp happ
  obtain ⟨hg, hn⟩ := and_e (Cond.before_iff.mp (show (Jvm.Cond.and given_1 narrow_1).before args s = true from hpre))
  obtain ⟨g0, r0⟩ := and_e hg
  obtain ⟨g1, r1⟩ := and_e r0
  obtain ⟨g2, r2⟩ := and_e r1
  obtain ⟨g3, r3⟩ := and_e r2
  obtain ⟨g4, r4⟩ := and_e r3
  obtain ⟨g5, r5⟩ := and_e r4
  obtain ⟨w0, w1, w2, w3, w4, w5, rfl⟩ : ∃ w0 w1 w2 w3 w4 w5 : Value, args = #[w0, w1, w2, w3, w4, w5] := by
    have hs : args.size = 6 := by simpa [Cond.value, given_1] using g0
    obtain ⟨L⟩ := args
    match L, hs with
    | [w0, w1, w2, w3, w4, w5], _ => exact ⟨w0, w1, w2, w3, w4, w5, rfl⟩
  have hw := fun d (hd : d ∈ tables_1) => atoms_spec (ws := Jvm.Cond.code x code maxLocals ret :: tables_1) hat d (List.mem_cons_of_mem _ hd)
  have hfit : Fit s := fun {y c} hc i hi => by
    obtain ⟨ha, rfl⟩ := Array.getElem?_eq_some_iff.mp hc
    have q := List.all_eq_true.mp ((Array.all_eq_true_iff_forall_mem.mp hF) _ (Array.getElem_mem ha)) i (List.mem_range.mpr hi)
    simpa [Array.getElem?_eq_getElem hi] using q
  obtain ⟨i0, ei0⟩ := isL_v g1
  obtain rfl : w0 = (.long i0) := Option.some.inj ei0
  obtain ⟨i1, ei1⟩ := isL_v g2
  obtain rfl : w1 = (.long i1) := Option.some.inj ei1
  obtain ⟨i2, ei2⟩ := isL_v g3
  obtain rfl : w2 = (.long i2) := Option.some.inj ei2
  obtain ⟨i3, ei3⟩ := isL_v g4
  obtain rfl : w3 = (.long i3) := Option.some.inj ei3
  obtain ⟨i4, ei4⟩ := is_v g5
  obtain rfl : w4 = (.int i4) := Option.some.inj ei4
  obtain ⟨i5, ei5⟩ := is_v r5
  obtain rfl : w5 = (.int i5) := Option.some.inj ei5
  obtain ⟨n, o, h1, h2, h3, _, L, rfl, ⟨rfl, N⟩, hq⟩ := rm0 l s _ hw i0 i1 i2 i3 i4 i5 s.heap s.heap.size (Nat.le_refl _)  p e ha hc hk s m _ below hf ((Spec.applies_iff_loose hf).mp happ).1 ⟨rfl, State.Warmed39.refl s, rfl⟩ trivial
  refine ⟨n, _, h1, h2, h3, hpost _ _ _ _ _ _ ⟨Cond.after_iff.mpr rfl, Cond.after_iff.mpr (eq_i res_at (Term.int_eval (1)) rfl), trivial⟩ ⟨hq.1, hq.2.1, (hq.2.2.sift fun y hy => Or.inr (N y hy)).mono (by decide) (by decide)⟩⟩
theorem main_1_1 : Claimed_1_1 := comes_1 fun _ _ _ _ _ _ h hF => ⟨h.1, hF⟩
theorem main_1_2 : Claimed_1_2 := comes_1 fun _ _ _ _ _ _ h hF => ⟨h.2.1, hF⟩

end Jvm.Pilot.@@N@@
namespace Jvm.Pilot.@@N@@
open Jvm Jvm.ClassFile Sem Op Lib Jvm.Free Jvm.Stand Jvm.Pilot.@@N@@.Jvm.D
/-! MADE BY PROGRAM (witnessworld.py) out of the Statement's table words and the real class files: 11 classes; the members and pool entries that the words name. The judged class is class 1, her method 1. -/
namespace start1
open Jvm.ClassFile
def u (s : String) : CpInfo := .utf8 (stringToUtf16 s)
/-- a pool by its gaps: so many unusable entries, then the entry; so many at the end -/
def gap : Nat → List CpInfo → List CpInfo
  | 0, r => r
  | n + 1, r => .unusable :: gap n r
def poolList (es : List (Nat × CpInfo)) (last : Nat) : List CpInfo := es.foldr (fun e r => gap e.1 (e.2 :: r)) (gap last [])
def pool (es : List (Nat × CpInfo)) (last : Nat) : Array CpInfo := ⟨poolList es last⟩
def fileOf (pool : Array CpInfo) (this : Nat) (attrs : Array Attribute := #[]) (ms : Array MethodInfo := #[]) (fl : Nat := 33) (sup : Nat := 0) (ifs : Array Nat := #[]) (fds : Array FieldInfo := #[]) : ClassFile where
  minorVersion := 0
  majorVersion := 65
  constantPool := pool
  accessFlags := fl
  thisClass := this
  superClass := sup
  interfaces := ifs
  fields := fds
  methods := ms
  attributes := attrs
def plain (name : String) (sup : Option ClassId) : Class where
  name := name
  kind := .ordinary
  loader := none
  accessFlags := 33
  super := sup
  interfaces := #[]
  cf := none
  fields := #[]
  methods := #[]
  instanceTypes := #[]
  staticTypes := #[]
  resolved := #[]
  callSites := []
  init := .initialized
  statics := none
  mirror := none

def pool0 : Array CpInfo := pool [(5, u "<init>"), (0, u "()V"), (1, .class_ 10), (1, u "java/lang/Object")] 113

def k0m0 : Method := { name := "<init>", desc := "()V", sig := { parameters := [], returnType := none }, accessFlags := 1, code := none }
/-- java/lang/Object -/
def k0 : Class := { plain "java/lang/Object" none with
  accessFlags := 33
  interfaces := #[]
  cf := some (fileOf pool0 8 #[] #[{ accessFlags := 1, nameIndex := 5, descriptorIndex := 6, attributes := #[] }] 33 0 #[] #[])
  fields := #[]
  methods := #[k0m0]
  instanceTypes := #[]
  staticTypes := #[]
  resolved := Array.replicate 124 none
  statics := none }

def pool1 : Array CpInfo := pool [(2, .class_ 4), (1, u "java/lang/Object"), (0, u "<init>"), (0, u "()V"), (0, .long 18446744073709551615), (1, .integer 2147483647), (0, .long 64), (1, .methodref 13 14), (0, .class_ 15), (0, .nameAndType 16 17), (0, u "com/example/boceto/boceto/format/PackedValues"), (0, u "valueAt"), (0, u "([JIJ)J"), (0, .class_ 19), (0, u "com/example/boceto/boceto/format/PackedValuesValueAtPinLaw"), (2, u "law"), (0, u "(JJJJII)Z")] 5

def k1m0 : Method := { name := "<init>", desc := "()V", sig := { parameters := [], returnType := none }, accessFlags := 1, code := none }
def k1c1 : Code := { maxStack := 8, maxLocals := 24, code := code, exceptionTable := #[], attributes := #[] }
def k1m1 : Method := { name := "law", desc := "(JJJJII)Z", sig := { parameters := [.long, .long, .long, .long, .int, .int], returnType := some .boolean }, accessFlags := 9, code := some k1c1 }
/-- com/example/boceto/boceto/format/PackedValuesValueAtPinLaw -/
def k1 : Class := { plain "com/example/boceto/boceto/format/PackedValuesValueAtPinLaw" (some 0) with
  accessFlags := 49
  interfaces := #[]
  cf := some (fileOf pool1 18 #[] #[{ accessFlags := 1, nameIndex := 5, descriptorIndex := 6, attributes := #[] }, { accessFlags := 9, nameIndex := 22, descriptorIndex := 23, attributes := #[] }] 49 2 #[] #[])
  fields := #[]
  methods := #[k1m0, k1m1]
  instanceTypes := #[]
  staticTypes := #[]
  resolved := Array.replicate 29 none
  statics := none }

def pool2 : Array CpInfo := pool [(4, .class_ 6), (1, u "java/lang/Object"), (2, .class_ 10), (0, u "com/example/boceto/boceto/format/PackedValues"), (8, u "_width"), (0, u "I"), (2, .long 64), (3, u "_words"), (0, u "[J"), (0, .long 18446744073709551615), (3, u "valueAt"), (0, u "([JIJ)J"), (26, u "MAX_WIDTH")] 15

def k2c0 : Code := { maxStack := 6, maxLocals := 10, code := prog_10_method_2_code, exceptionTable := #[], attributes := #[] }
def k2m0 : Method := { name := "valueAt", desc := "([JIJ)J", sig := { parameters := [(.array .long), .int, .long], returnType := some .long }, accessFlags := 9, code := some k2c0 }
/-- com/example/boceto/boceto/format/PackedValues -/
def k2 : Class := { plain "com/example/boceto/boceto/format/PackedValues" (some 0) with
  accessFlags := 33
  interfaces := #[]
  cf := some (fileOf pool2 9 #[] #[{ accessFlags := 9, nameIndex := 33, descriptorIndex := 34, attributes := #[] }] 33 4 #[] #[{ accessFlags := 26, nameIndex := 61, descriptorIndex := 20, attributes := #[] }, { accessFlags := 18, nameIndex := 19, descriptorIndex := 20, attributes := #[] }, { accessFlags := 18, nameIndex := 27, descriptorIndex := 28, attributes := #[] }])
  fields := #[{ name := "MAX_WIDTH", type := .int, accessFlags := 26, slot := 0, constantValue := 0 }, { name := "_width", type := .int, accessFlags := 18, slot := 0, constantValue := 0 }, { name := "_words", type := (.array .long), accessFlags := 18, slot := 1, constantValue := 0 }]
  methods := #[k2m0]
  instanceTypes := #[.int, (.array .long)]
  staticTypes := #[.int]
  resolved := Array.replicate 77 none
  statics := none }

def pool3 : Array CpInfo := pool [(1, u "java/lang/Cloneable"), (0, .class_ 1), (0, u "java/lang/Object"), (0, .class_ 3)] 3

/-- java/lang/Cloneable -/
def k3 : Class := { plain "java/lang/Cloneable" (some 0) with
  accessFlags := 1537
  interfaces := #[]
  cf := some (fileOf pool3 2 #[] #[] 1537 4 #[] #[])
  fields := #[]
  methods := #[]
  instanceTypes := #[]
  staticTypes := #[]
  resolved := Array.replicate 8 none
  statics := none }

def pool4 : Array CpInfo := pool [(1, u "java/io/Serializable"), (0, .class_ 1), (0, u "java/lang/Object"), (0, .class_ 3)] 3

/-- java/io/Serializable -/
def k4 : Class := { plain "java/io/Serializable" (some 0) with
  accessFlags := 1537
  interfaces := #[]
  cf := some (fileOf pool4 2 #[] #[] 1537 4 #[] #[])
  fields := #[]
  methods := #[]
  instanceTypes := #[]
  staticTypes := #[]
  resolved := Array.replicate 8 none
  statics := none }

/-- the primitive byte -/
def k5 : Class := { plain "byte" none with kind := .primitive 'B', accessFlags := 0x411 }
/-- [B -/
def k6 : Class := { plain "[B" (some 0) with kind := .array 5 .byte, interfaces := #[3, 4], accessFlags := 1041 }

/-- the primitive int -/
def k7 : Class := { plain "int" none with kind := .primitive 'I', accessFlags := 0x411 }
/-- [I -/
def k8 : Class := { plain "[I" (some 0) with kind := .array 7 .int, interfaces := #[3, 4], accessFlags := 1041 }

/-- the primitive long -/
def k9 : Class := { plain "long" none with kind := .primitive 'J', accessFlags := 0x411 }
/-- [J -/
def k10 : Class := { plain "[J" (some 0) with kind := .array 9 .long, interfaces := #[3, 4], accessFlags := 1041 }

def heap : Heap := #[]
def classes : Array Class := #[k0, k1, k2, k3, k4, k5, k6, k7, k8, k9, k10]
def interned : List (Array UInt16 × Addr) := []
def slotsUsed : Nat := 0
def theMethod : MethodId := ⟨1, 1⟩
def args0 : Array Value := #[.long 1, .long 2, .long 3, .long 4, .int 6, .int 7]
def aboutOver (below : List Frame) : State where
  vm := { classes := classes, interned := interned.toArray }
  heap := heap
  slotsUsed := slotsUsed
  threads := #[{ frames := .invoking theMethod args0 :: below }]
def below0 : List Frame := [.native { method := ⟨0, 0⟩, args := #[] }]
def about1 : State := aboutOver below0
def p0 : Program := .bare "" "" ""
def e0 : Env := launch0.env 0 0 0
theorem w_frames : about1.frames = Frame.invoking theMethod args0 :: below0 := rfl
set_option maxRecDepth 65536 in
theorem w_args : argsFit about1.vm theMethod args0 = true := by decide +kernel
set_option maxRecDepth 65536 in
theorem w_heap : heapFits about1 = true := by decide +kernel
set_option maxRecDepth 65536 in
theorem w_runnable : about1.curStatus? = some .runnable := by decide +kernel
set_option maxRecDepth 65536 in
theorem w_alone : about1.alone = true := by decide +kernel
set_option maxRecDepth 65536 in
theorem w_named : about1.methodNamed? x = some theMethod := by decide +kernel
set_option maxRecDepth 65536 in
theorem w_hears : about1.hears theMethod below0 = true := by decide +kernel
set_option maxRecDepth 65536 in
theorem w_ripe : about1.ripe theMethod args0 below0 = true := by decide +kernel
theorem w_running : about1.status = .running := rfl
set_option maxRecDepth 65536 in
theorem w_room : about1.hasRoom e0.platform room_1 = true :=
  launch0.hasRoom_least _ room_1 (by decide +kernel) (by decide +kernel) (by decide +kernel) (by decide +kernel) (by decide +kernel) (by decide +kernel)
theorem allAtoms_all (ts : List Jvm.Cond) (a : Array Jvm.Value) (st : Jvm.State) : (allAtoms ts).before a st = ts.all (fun c => c.before a st) := by
  induction ts with
  | nil => rfl
  | cons c t ih =>
    show (Jvm.Cond.and c (allAtoms t)).before a st = _
    rw [Jvm.Cond.before_and, ih, List.all_cons]
def words1 : List Jvm.Cond := Jvm.Cond.code x code maxLocals ret :: tables_1
/-- a 'code' word, met by the world's own term for the bytes: nothing is compared byte by byte -/
theorem code_word {y : MethodName} {bytes : ByteArray} {mx : Nat} {rt : Option FieldType} {a : Array Value} {s : State} {m : MethodId} {meth : Method} {c : Code} (h1 : s.methodNamed? y = some m) (h2 : s.vm.method? m = some meth) (h3 : meth.code = some c) (h4 : c.code = bytes)
    (h5 : (c.maxLocals == mx && c.exceptionTable.isEmpty && decide (c.maxStack ≤ mostOperands) && decide (meth.sig.returnType = rt) && !meth.locks && decide (parseMethodDescriptor y.desc = some meth.sig)) = true) : (Jvm.Cond.code y bytes mx rt).before a s = true := by
  simp only [Bool.and_eq_true, beq_iff_eq, Bool.not_eq_true', decide_eq_true_eq] at h5
  obtain ⟨⟨⟨⟨⟨g1, g2⟩, g3⟩, g4⟩, g5⟩, g6⟩ := h5
  simp [Cond.before, Cond.holds, Cond.value, h1, h2, h3, h4, g1, g2, g3, g4, g5, g6]
def isCode : Jvm.Cond → Bool
  | .code _ _ _ _ => true
  | _ => false
theorem all_split {L : List Jvm.Cond} {P : Jvm.Cond → Bool} (h1 : L.all (fun c => isCode c || P c) = true) (h2 : ∀ c ∈ L.filter isCode, P c = true) : L.all P = true := by
  refine List.all_eq_true.mpr fun c hc => ?_
  have h := List.all_eq_true.mp h1 c hc
  rcases Bool.eq_false_or_eq_true (isCode c) with hi | hi
  · exact h2 c (List.mem_filter.mpr ⟨hc, hi⟩)
  · simpa [hi] using h
set_option maxRecDepth 65536 in
theorem w_c0 : (Jvm.Cond.code x code maxLocals ret).before args0 about1 = true := code_word (m := ⟨1, 1⟩) (meth := k1m1) (c := k1c1) (by decide +kernel) rfl rfl rfl (by decide +kernel)
set_option maxRecDepth 65536 in
theorem w_c1 : (Jvm.Cond.code ({ cls := "com/example/boceto/boceto/format/PackedValues", name := "valueAt", desc := "([JIJ)J" } : Jvm.MethodName) prog_10_method_2_code (10 : Nat) (Option.some Jvm.ClassFile.FieldType.long)).before args0 about1 = true := code_word (m := ⟨2, 0⟩) (meth := k2m0) (c := k2c0) (by decide +kernel) rfl rfl rfl (by decide +kernel)
def codes1 : List Jvm.Cond := [Jvm.Cond.code x code maxLocals ret, Jvm.Cond.code ({ cls := "com/example/boceto/boceto/format/PackedValues", name := "valueAt", desc := "([JIJ)J" } : Jvm.MethodName) prog_10_method_2_code (10 : Nat) (Option.some Jvm.ClassFile.FieldType.long)]
set_option maxRecDepth 65536 in
theorem codes_eq : words1.filter isCode = codes1 := rfl
theorem w_codes : ∀ c ∈ words1.filter isCode, c.before args0 about1 = true := by
  rw [codes_eq]
  intro c hc
  simp only [codes1, List.mem_cons, List.not_mem_nil, or_false] at hc
  rcases hc with rfl | rfl
  · exact w_c0
  · exact w_c1
set_option maxRecDepth 65536 in
theorem w_t1 : words1.all (fun c => isCode c || c.before args0 about1) = true := by decide +kernel
theorem w_tables : (allAtoms (Jvm.Cond.code x code maxLocals ret :: tables_1)).before args0 about1 = true := by
  rw [allAtoms_all]
  show words1.all (fun c => c.before args0 about1) = true
  refine all_split ?_ w_codes
  rw [w_t1]
set_option maxRecDepth 65536 in
theorem w_case : (Jvm.Cond.and given_1 narrow_1).before args0 about1 = true := by decide +kernel
theorem w_applies : (headSpec (Jvm.Cond.code x code maxLocals ret :: tables_1) room_1).applies x e0.platform about1 = true :=
  (Spec.applies_iff w_frames).mpr ⟨w_running, w_runnable, w_alone, w_named, w_hears, w_ripe, w_room, w_tables⟩
theorem atStart : AtStart classFile x code maxLocals ret World_1 tables_1 room_1 Calls_1 rest_1 Pre_1 launch0 p0 e0 about1 theMethod args0 below0 :=
  ⟨lists_1, trivial, launch0.admits_env _ _ _, launch0.least_env, fairChoices_fair.cas, fairChoices_fair.clock, w_frames, w_args, w_heap, w_applies, trivial, trivial, w_case⟩
end start1
theorem witness_1 : WitnessClaimed_1 := ⟨start1.p0, start1.e0, start1.about1, start1.theMethod, start1.args0, start1.below0, start1.atStart⟩
end Jvm.Pilot.@@N@@
