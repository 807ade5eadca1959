import JvmDerived
import JvmDerived.Pilot.@@N@@Statement
import JvmDerived.Pilot.@@N@@Code
set_option linter.unusedVariables false
set_option linter.unusedSimpArgs false
namespace Jvm.Own
open Sem ClassFile Op Lib Jvm.Stand Jvm.Free Jvm.LawKit Jvm.RoadKit
/-- from the frame g, standing in T, the run ends in what P says -/
def Goes (p : Program) (e : Env) (below : List Frame) (P : Outcome → State → Prop) (T : State) (g : JFrame) : Prop :=
  ∃ s₂ o, Steps p.tables e below (T.setTop g) s₂ ∧ s₂.status = .running ∧ Ended s₂ below o ∧ P o s₂
/-- what a body leaves -/
abbrev Leaves (s : State) (Q : Option Value → Heap → List Loc → Prop) (C N : Nat) (o : Outcome) (U : State) : Prop := ∃ v L, o = .returned v ∧ Q v U.heap L ∧ FrameEnd s o U L C N
/-- a body's contract, asked at the arguments 'as' and the heap h0 -/
abbrev Pays (l : Launch) (Z : State) (y : MethodName) (bytes : ByteArray) (maxL : Nat) (ret : Option FieldType) (ws : List Jvm.Cond) (rm : Room) (as : Array Value) (h0 : Heap) (Q : Option Value → Heap → List Loc → Prop) : Prop :=
  MetFree l y (head1 (Jvm.Cond.code y bytes maxL ret :: ws) rm) (fun a U => a = as ∧ Z.Warmed39 U.vm ∧ U.heap = h0) (fun _ _ _ _ _ => True) (fun _ U o U' => ∃ v L, o = .returned v ∧ Q v U'.heap L ∧ FrameEnd U o U' L rm.cells rm.slots)
section Steps
variable {p : Program} {l : Launch} {e : Env} {R : Room} {s : State} {m : MethodId} {args : Array Value} {below : List Frame} {meth : Method} {c : Code} {T T' : State} {locs : List Loc} {cells slots : Nat} {Z : State} {a0 : Array Value} {h : Heap} {P : Outcome → State → Prop} {g g' : JFrame}
theorem Goes.on (st : ∀ t, Steps p.tables e below (T'.setTop g') t → Steps p.tables e below (T.setTop g) t) (k : Goes p e below P T' g') : Goes p e below P T g := by
  obtain ⟨s₂, o, h1, h2⟩ := k
  exact ⟨s₂, o, st _ h1, h2⟩
theorem Goes.joinB {fr : Int32 → JFrame} (k : ∀ z, (z = 0 ∨ z = 1) → Goes p e below P T' (fr z)) (u : (∀ z, (z = 0 ∨ z = 1) → Goes p e below P T' (fr z)) → Goes p e below P T g) : Goes p e below P T g := u k
theorem Goes.joinI {fr : Int32 → JFrame} (k : ∀ z, Goes p e below P T' (fr z)) (u : (∀ z, Goes p e below P T' (fr z)) → Goes p e below P T g) : Goes p e below P T g := u k
theorem Goes.joinJ {fr : Int64 → JFrame} (k : ∀ z, Goes p e below P T' (fr z)) (u : (∀ z, Goes p e below P T' (fr z)) → Goes p e below P T g) : Goes p e below P T g := u k
theorem Goes.joinR {fr : Addr → JFrame} (k : ∀ z, Goes p e below P T' (fr z)) (u : (∀ z, Goes p e below P T' (fr z)) → Goes p e below P T g) : Goes p e below P T g := u k
theorem Goes.joinT (X : Stand p l e R s m args below meth c T locs cells slots) {fr : Addr → JFrame} (k : ∀ z T', Stand p l e R s m args below meth c T' locs cells slots → T'.heap = h → Goes p e below P T' (fr z)) (u : (∀ z T', Stand p l e R s m args below meth c T' locs cells slots → T'.heap = h → Goes p e below P T' (fr z)) → Goes p e below P T g) : Goes p e below P T g := u k
theorem Goes.out {Q : Option Value → Heap → List Loc → Prop} {C N : Nat} (X : Stand p l e R s m args below meth c T locs cells slots) {v : Option Value} (hv : meth.sig.returnType = none → v = none) (hlk : meth.locks = false) (hc : cells ≤ C) (hs : slots ≤ N) (hq : Q v T.heap locs)
    (st : ∀ fs, (∀ (f : JFrame) (acts : List Action), f.method = m → f.locked = none → f.entered = [] → (doReturn e (T.setTop f) acts v).1 = T.setFrames fs) → Steps p.tables e below (T.setTop g) (T.setFrames fs)) : Goes p e below (Leaves s Q C N) T g := by
  obtain ⟨fs, hr, hrun, hended, hW, hsame⟩ := X.leave (v := v) hv hlk
  exact ⟨_, _, st fs hr, hrun, hended, v, locs, rfl, hq, ⟨_, rfl⟩, hW, hsame.mono hc hs⟩
theorem Goes.retV {Q : Option Value → Heap → List Loc → Prop} {C N : Nat} (X : Stand p l e R s m args below meth c T locs cells slots) (hx : p.tables.exec = Jvm.exec) (hlk : meth.locks = false) (hret : meth.sig.returnType = none) {pc : Nat} {Ls : Array Slot} (hd : decode c.code pc = .ok (.return_, 1)) (hc : cells ≤ C) (hs : slots ≤ N) (hq : Q none T.heap locs) :
    Goes p e below (Leaves s Q C N) T (mkF m pc Ls []) :=
  Goes.out X (fun _ => rfl) hlk hc hs hq fun _ hr => X.returnOut hx hret hd hr
theorem Goes.retW {Q : Option Value → Heap → List Loc → Prop} {C N : Nat} (X : Stand p l e R s m args below meth c T locs cells slots) (hx : p.tables.exec = Jvm.exec) (hlk : meth.locks = false) {t : FieldType} {i : Instr} {w : Value} (hret : meth.sig.returnType = some t) {pc : Nat} {Ls : Array Slot} {rest : List Value} (hn : narrow t w = w)
    (hi : (i = .ireturn ∧ (t = .int ∨ t = .boolean ∨ t = .byte ∨ t = .char ∨ t = .short) ∧ ∃ z, w = .int z) ∨ (i = .lreturn ∧ t = .long ∧ ∃ z, w = .long z) ∨ (i = .dreturn ∧ t = .double ∧ ∃ z, w = .double z) ∨ (i = .freturn ∧ t = .float ∧ ∃ z, w = .float z) ∨ (i = .areturn ∧ t.isReference = true ∧ w.isRef = true))
    (hd : decode c.code pc = .ok (i, 1)) (hc : cells ≤ C) (hs : slots ≤ N) (hq : Q (some w) T.heap locs) : Goes p e below (Leaves s Q C N) T (mkF m pc Ls (w :: rest)) :=
  Goes.out X (fun h => by rw [hret] at h; cases h) hlk hc hs hq fun _ hr => retOut X hx hret hn hi hd hr
theorem Goes.retI {Q : Option Value → Heap → List Loc → Prop} {C N : Nat} (X : Stand p l e R s m args below meth c T locs cells slots) (hx : p.tables.exec = Jvm.exec) (hlk : meth.locks = false) {z : Int32} (hret : meth.sig.returnType = some .int) {pc : Nat} {Ls : Array Slot} {rest : List Value} (hd : decode c.code pc = .ok (.ireturn, 1)) (hc : cells ≤ C) (hs : slots ≤ N) (hq : Q (some (.int z)) T.heap locs) :
    Goes p e below (Leaves s Q C N) T (mkF m pc Ls (.int z :: rest)) := Goes.retW X hx hlk hret rfl (Or.inl ⟨rfl, Or.inl rfl, _, rfl⟩) hd hc hs hq
theorem Goes.retB {Q : Option Value → Heap → List Loc → Prop} {C N : Nat} (X : Stand p l e R s m args below meth c T locs cells slots) (hx : p.tables.exec = Jvm.exec) (hlk : meth.locks = false) {z : Int32} (hret : meth.sig.returnType = some .boolean) {pc : Nat} {Ls : Array Slot} {rest : List Value} (hz : z = 0 ∨ z = 1) (hd : decode c.code pc = .ok (.ireturn, 1)) (hc : cells ≤ C) (hs : slots ≤ N) (hq : Q (some (.int z)) T.heap locs) :
    Goes p e below (Leaves s Q C N) T (mkF m pc Ls (.int z :: rest)) := Goes.retW X hx hlk hret (by rcases hz with rfl | rfl <;> rfl) (Or.inl ⟨rfl, Or.inr (Or.inl rfl), _, rfl⟩) hd hc hs hq
theorem Goes.retC {Q : Option Value → Heap → List Loc → Prop} {C N : Nat} (X : Stand p l e R s m args below meth c T locs cells slots) (hx : p.tables.exec = Jvm.exec) (hlk : meth.locks = false) {z : Int32} (hret : meth.sig.returnType = some .char) {pc : Nat} {Ls : Array Slot} {rest : List Value} (hz : nar .char z = z) (hd : decode c.code pc = .ok (.ireturn, 1)) (hc : cells ≤ C) (hs : slots ≤ N) (hq : Q (some (.int z)) T.heap locs) :
    Goes p e below (Leaves s Q C N) T (mkF m pc Ls (.int z :: rest)) := Goes.retW X hx hlk hret (by show Value.int (nar .char z) = _; rw [hz]) (Or.inl ⟨rfl, Or.inr (Or.inr (Or.inr (Or.inl rfl))), _, rfl⟩) hd hc hs hq
theorem Goes.retY {Q : Option Value → Heap → List Loc → Prop} {C N : Nat} (X : Stand p l e R s m args below meth c T locs cells slots) (hx : p.tables.exec = Jvm.exec) (hlk : meth.locks = false) {z : Int32} (hret : meth.sig.returnType = some .byte) {pc : Nat} {Ls : Array Slot} {rest : List Value} (hz : nar .byte z = z) (hd : decode c.code pc = .ok (.ireturn, 1)) (hc : cells ≤ C) (hs : slots ≤ N) (hq : Q (some (.int z)) T.heap locs) :
    Goes p e below (Leaves s Q C N) T (mkF m pc Ls (.int z :: rest)) := Goes.retW X hx hlk hret (by show Value.int (nar .byte z) = _; rw [hz]) (Or.inl ⟨rfl, Or.inr (Or.inr (Or.inl rfl)), _, rfl⟩) hd hc hs hq
theorem Goes.retJ {Q : Option Value → Heap → List Loc → Prop} {C N : Nat} (X : Stand p l e R s m args below meth c T locs cells slots) (hx : p.tables.exec = Jvm.exec) (hlk : meth.locks = false) {z : Int64} (hret : meth.sig.returnType = some .long) {pc : Nat} {Ls : Array Slot} {rest : List Value} (hd : decode c.code pc = .ok (.lreturn, 1)) (hc : cells ≤ C) (hs : slots ≤ N) (hq : Q (some (.long z)) T.heap locs) :
    Goes p e below (Leaves s Q C N) T (mkF m pc Ls (.long z :: rest)) := Goes.retW X hx hlk hret rfl (Or.inr (Or.inl ⟨rfl, rfl, _, rfl⟩)) hd hc hs hq
theorem Goes.retD {Q : Option Value → Heap → List Loc → Prop} {C N : Nat} (X : Stand p l e R s m args below meth c T locs cells slots) (hx : p.tables.exec = Jvm.exec) (hlk : meth.locks = false) {z : UInt64} (hret : meth.sig.returnType = some .double) {pc : Nat} {Ls : Array Slot} {rest : List Value} (hd : decode c.code pc = .ok (.dreturn, 1)) (hc : cells ≤ C) (hs : slots ≤ N) (hq : Q (some (.double z)) T.heap locs) :
    Goes p e below (Leaves s Q C N) T (mkF m pc Ls (.double z :: rest)) := Goes.retW X hx hlk hret rfl (Or.inr (Or.inr (Or.inl ⟨rfl, rfl, _, rfl⟩))) hd hc hs hq
theorem Goes.retA {Q : Option Value → Heap → List Loc → Prop} {C N : Nat} (X : Stand p l e R s m args below meth c T locs cells slots) (hx : p.tables.exec = Jvm.exec) (hlk : meth.locks = false) {w : Value} {t : FieldType} (hret : meth.sig.returnType = some t) (ht : t.isReference = true) (hw : w.isRef = true) {pc : Nat} {Ls : Array Slot} {rest : List Value} (hd : decode c.code pc = .ok (.areturn, 1)) (hc : cells ≤ C) (hs : slots ≤ N) (hq : Q (some w) T.heap locs) :
    Goes p e below (Leaves s Q C N) T (mkF m pc Ls (w :: rest)) := Goes.retW X hx hlk hret (by cases t <;> first | rfl | cases ht) (Or.inr (Or.inr (Or.inr (Or.inr ⟨rfl, ht, hw⟩)))) hd hc hs hq
/-- a body's contract out of its walk -/
theorem Pays.walk {y : MethodName} {bytes : ByteArray} {maxL : Nat} {ret : Option FieldType} {ws : List Jvm.Cond} {rm : Room} {as : Array Value} {h0 : Heap} {Q : Option Value → Heap → List Loc → Prop} {Ls : Array Slot}
    (hn : plainFor y = true) (hef : ∀ m, entryFrame m as maxL = mkF m 0 Ls [])
    (body : ∀ (p : Program) (e : Env) (s : State) (m : MethodId) (below : List Frame) (meth : Method) (c : Code) (T : State), Stand p l e rm s m as below meth c T [] 0 0 → p.tables.exec = Jvm.exec → c.code = bytes → c.maxLocals = maxL → s.vm.findClass y.cls = some m.cls → meth.name = y.name → Z.Warmed39 s.vm → T.heap = h0 → meth.sig.returnType = ret → meth.locks = false →
      Goes p e below (Leaves s Q rm.cells rm.slots) T (mkF m 0 Ls [])) : Pays l Z y bytes maxL ret ws rm as h0 Q := by
  refine MetFree.of_bodySF hn hisR ?_
  intro p e s m args below meth c s₁ Bd hml0 hP hK
  obtain ⟨rfl, hZ, hh⟩ := hP
  have X0 : Stand p l e rm s m args below meth c s₁ [] 0 0 := Stand.of_body Bd
  obtain ⟨s₂, o, h1, h2⟩ := body p e s m below meth c s₁ X0 Bd.exec Bd.bytes hml0 (findClass_of_methodNamed Bd.named) (name_of_methodNamed Bd.named Bd.method).1 hZ (by rw [← hh, Bd.state]; rfl) Bd.returns Bd.notSynchronized
  exact ⟨s₂, o, castTop (hef m) h1, h2⟩
/-- a static call by its contract -/
theorem Goes.callS (X : Stand p l e R s m args below meth c T locs cells slots) (hx : p.tables.exec = Jvm.exec) (hZ : Z.Warmed39 s.vm) {own : String} {index : Nat} {y : MethodName} {bytes : ByteArray} {maxL : Nat} {ret : Option FieldType} {rm : Room} {as' : Array Value} {Q : Option Value → Heap → List Loc → Prop} (W : Nat)
    (hown : s.vm.findClass own = some m.cls) (w1 : (Jvm.Cond.methodLink own index y).before a0 Z = true) (w2 : (Jvm.Cond.static y).before a0 Z = true) (w3 : (Jvm.Cond.initialized y.cls).before a0 Z = true) (w4 : (Jvm.Cond.code y bytes maxL ret).before a0 Z = true) (hy : y.cls ≠ "java/lang/invoke/MethodHandle" ∧ y.cls ≠ "java/lang/invoke/VarHandle")
    (eT : T.heap = h) (hM : Pays l Z y bytes maxL ret [] rm as' h Q) (hf : rm.frames + 1 ≤ R.frames) (hl : W + (maxL + 11) + rm.locals ≤ R.locals) (hc : cells + rm.cells ≤ R.cells) (hs : slots + rm.slots ≤ R.slots)
    (hg : g.method = m) (hsize : g.locals.size = c.maxLocals) {argsL rest : List Value} (has : argsL.toArray = as') (hlen : ∀ sig, parseMethodDescriptor y.desc = some sig → argsL.length = sig.parameters.length) (hstack : g.stack = argsL.reverse ++ rest) (hW : 2 * g.monitorRoom + (rest.map fun v => v.category).sum ≤ W)
    (hd : decode c.code g.pc = .ok (.invokestatic index, 3))
    (k : ∀ v T' L, Stand p l e R s m args below meth c T' (locs ++ L) (cells + rm.cells) (slots + rm.slots) → Q v T'.heap L → Goes p e below P T' { g with pc := g.pc + 3, stack := v.toList ++ rest }) : Goes p e below P T g := by
  obtain ⟨v, _, ⟨T', L', k', n'⟩, -, X', ⟨Lc, hQ, l', y', z'⟩, st⟩ := Jvm.LawKit.callS X hx hown (mvT hZ w1) (mvT hZ w2) (mvT hZ w3) (mvT hZ w4) hy (backOf (W := W) hM hZ w4 w3 hf hl) hg hsize (argsL := argsL) (rest := rest) hlen hstack hW hd (fun _ _ => ⟨has, eT, hc, hs⟩)
  dsimp only [Pt.U, Pt.locs, Pt.cells, Pt.slots] at X' l' y' z' st hQ
  subst l' y' z'
  exact Goes.on st (k v T' Lc X' hQ)
/-- a constructor by its contract -/
theorem Goes.callC (X : Stand p l e R s m args below meth c T locs cells slots) (hx : p.tables.exec = Jvm.exec) (hZ : Z.Warmed39 s.vm) {own : String} {index : Nat} {y : MethodName} {bytes : ByteArray} {maxL : Nat} {rm : Room} {as' : Array Value} {Q : Option Value → Heap → List Loc → Prop} (W : Nat) (hy1 : y.name = "<init>")
    (hown : s.vm.findClass own = some m.cls) (w1 : (Jvm.Cond.methodLink own index y).before a0 Z = true) (w2 : (Jvm.Cond.instanceMethod y).before a0 Z = true) (w3 : (Jvm.Cond.initialized y.cls).before a0 Z = true) (w4 : (Jvm.Cond.code y bytes maxL none).before a0 Z = true) (hy : y.cls ≠ "java/lang/invoke/MethodHandle" ∧ y.cls ≠ "java/lang/invoke/VarHandle")
    (eT : T.heap = h) (hM : Pays l Z y bytes maxL none [] rm as' h Q) (hf : rm.frames + 1 ≤ R.frames) (hl : W + (maxL + 11) + rm.locals ≤ R.locals) (hc : cells + rm.cells ≤ R.cells) (hs : slots + rm.slots ≤ R.slots)
    (hg : g.method = m) (hsize : g.locals.size = c.maxLocals) {a : Addr} {argsL rest : List Value} (has : (Value.ref a :: argsL).toArray = as') (hlen : ∀ sig, parseMethodDescriptor y.desc = some sig → argsL.length = sig.parameters.length) (hstack : g.stack = argsL.reverse ++ .ref a :: rest) (hW : 2 * g.monitorRoom + (rest.map fun v => v.category).sum ≤ W)
    (hd : decode c.code g.pc = .ok (.invokespecial index, 3))
    (k : ∀ v T' L, Stand p l e R s m args below meth c T' (locs ++ L) (cells + rm.cells) (slots + rm.slots) → Q v T'.heap L → Goes p e below P T' { g with pc := g.pc + 3, stack := v.toList ++ rest }) : Goes p e below P T g := by
  obtain ⟨v, _, ⟨T', L', k', n'⟩, -, X', ⟨Lc, hQ, l', y', z'⟩, st⟩ := X.specialBack hx (y := y) hy1 hown (mvT hZ w1) (mvT hZ w2) (mvT hZ w4) hy (backOf (W := W) hM hZ w4 w3 hf hl) hg hsize (Steps.refl _) (a := a) (argsL := argsL) (rest := rest) hlen hstack hW hd (fun _ _ => ⟨has, eT, hc, hs⟩)
  dsimp only [Pt.U, Pt.locs, Pt.cells, Pt.slots] at X' l' y' z' st hQ
  subst l' y' z'
  exact Goes.on (fun _ q => st.trans q) (k v T' Lc X' hQ)
/-- an instance method by its contract, on an object of the class C -/
theorem Goes.callV (X : Stand p l e R s m args below meth c T locs cells slots) (hx : p.tables.exec = Jvm.exec) (hZ : Z.Warmed39 s.vm) {own C : String} {index : Nat} {y z : MethodName} {bytes : ByteArray} {maxL : Nat} {ret : Option FieldType} {rm : Room} {as' : Array Value} {Q : Option Value → Heap → List Loc → Prop} (W : Nat)
    (hown : s.vm.findClass own = some m.cls) (w1 : (Jvm.Cond.methodLink own index y).before a0 Z = true) (w2 : (Jvm.Cond.declares y).before a0 Z = true) (hnf : NotFace s y) (w5 : (Jvm.Cond.selects C y z).before a0 Z = true) (w6 : (Jvm.Cond.instanceMethod z).before a0 Z = true) (w3 : (Jvm.Cond.initialized z.cls).before a0 Z = true) (w4 : (Jvm.Cond.code z bytes maxL ret).before a0 Z = true) (hy : y.cls ≠ "java/lang/invoke/MethodHandle" ∧ y.cls ≠ "java/lang/invoke/VarHandle")
    (eT : T.heap = h) {a : Addr} (E : Exa Z h a C) (hM : Pays l Z z bytes maxL ret [] rm as' h Q) (hf : rm.frames + 1 ≤ R.frames) (hl : W + (maxL + 11) + rm.locals ≤ R.locals) (hc : cells + rm.cells ≤ R.cells) (hs : slots + rm.slots ≤ R.slots)
    (hg : g.method = m) (hsize : g.locals.size = c.maxLocals) {argsL rest : List Value} (has : (Value.ref a :: argsL).toArray = as') (hlen : ∀ sig, parseMethodDescriptor y.desc = some sig → argsL.length = sig.parameters.length) (hstack : g.stack = argsL.reverse ++ .ref a :: rest) (hW : 2 * g.monitorRoom + (rest.map fun v => v.category).sum ≤ W)
    (hd : decode c.code g.pc = .ok (.invokevirtual index, 3))
    (k : ∀ v T' L, Stand p l e R s m args below meth c T' (locs ++ L) (cells + rm.cells) (slots + rm.slots) → Q v T'.heap L → Goes p e below P T' { g with pc := g.pc + 3, stack := v.toList ++ rest }) : Goes p e below P T g := by
  obtain ⟨cq, kq, qa, qb, qc⟩ := isOf hZ eT E
  obtain ⟨v, _, ⟨T', L', k', n'⟩, -, X', ⟨Lc, hQ, l', y', z'⟩, st⟩ := X.virtualBack hx (y := y) (z := z) hown (mvT hZ w1) (mvT hZ w2) hnf (mvT hZ w5) (mvT hZ w6) hy (backOf (W := W) hM hZ w4 w3 hf hl) qa qc hg hsize (Steps.refl _) (argsL := argsL) (rest := rest) hlen hstack hW hd (fun _ _ => ⟨has, eT, hc, hs⟩)
  dsimp only [Pt.U, Pt.locs, Pt.cells, Pt.slots] at X' l' y' z' st hQ
  subst l' y' z'
  exact Goes.on (fun _ q => st.trans q) (k v T' Lc X' hQ)
/-- what a ready payer (Back) asks and gives -/
abbrev Payer (l : Launch) (R : Room) (p : Program) (e : Env) (below : List Frame) (s : State) (args : Array Value) (y : MethodName) (W : Nat) (as' : Array Value) (h : Heap) (C N : Nat) (Q : Option Value → Heap → List Loc → Prop) : Prop :=
  Back l R p e below s args y 3 W (fun A a => a = as' ∧ A.U.heap = h ∧ A.cells + C ≤ R.cells ∧ A.slots + N ≤ R.slots) (fun A _ v B => ∃ L, Q v B.U.heap L ∧ B.locs = A.locs ++ L ∧ B.cells = A.cells + C ∧ B.slots = A.slots + N)
theorem Goes.callVB (X : Stand p l e R s m args below meth c T locs cells slots) (hx : p.tables.exec = Jvm.exec) (hZ : Z.Warmed39 s.vm) {own C : String} {index : Nat} {y z : MethodName} {as' : Array Value} {Q : Option Value → Heap → List Loc → Prop} {W nc ns : Nat}
    (hown : s.vm.findClass own = some m.cls) (w1 : (Jvm.Cond.methodLink own index y).before a0 Z = true) (w2 : (Jvm.Cond.declares y).before a0 Z = true) (hnf : NotFace s y) (w5 : (Jvm.Cond.selects C y z).before a0 Z = true) (w6 : (Jvm.Cond.instanceMethod z).before a0 Z = true) (hy : y.cls ≠ "java/lang/invoke/MethodHandle" ∧ y.cls ≠ "java/lang/invoke/VarHandle")
    (eT : T.heap = h) {a : Addr} (E : Exa Z h a C) (hK : Payer l R p e below s args z W as' h nc ns Q) (hc : cells + nc ≤ R.cells) (hs : slots + ns ≤ R.slots)
    (hg : g.method = m) (hsize : g.locals.size = c.maxLocals) {argsL rest : List Value} (has : (Value.ref a :: argsL).toArray = as') (hlen : ∀ sig, parseMethodDescriptor y.desc = some sig → argsL.length = sig.parameters.length) (hstack : g.stack = argsL.reverse ++ .ref a :: rest) (hW : 2 * g.monitorRoom + (rest.map fun v => v.category).sum ≤ W)
    (hd : decode c.code g.pc = .ok (.invokevirtual index, 3))
    (k : ∀ v T' L, Stand p l e R s m args below meth c T' (locs ++ L) (cells + nc) (slots + ns) → Q v T'.heap L → Goes p e below P T' { g with pc := g.pc + 3, stack := v.toList ++ rest }) : Goes p e below P T g := by
  obtain ⟨cq, kq, qa, qb, qc⟩ := isOf hZ eT E
  obtain ⟨v, _, ⟨T', L', k', n'⟩, -, X', ⟨Lc, hQ, l', y', z'⟩, st⟩ := X.virtualBack hx (y := y) (z := z) hown (mvT hZ w1) (mvT hZ w2) hnf (mvT hZ w5) (mvT hZ w6) hy hK qa qc hg hsize (Steps.refl _) (argsL := argsL) (rest := rest) hlen hstack hW hd (fun _ _ => ⟨has, eT, hc, hs⟩)
  dsimp only [Pt.U, Pt.locs, Pt.cells, Pt.slots] at X' l' y' z' st hQ
  subst l' y' z'
  exact Goes.on (fun _ q => st.trans q) (k v T' Lc X' hQ)
theorem Goes.callCB (X : Stand p l e R s m args below meth c T locs cells slots) (hx : p.tables.exec = Jvm.exec) (hZ : Z.Warmed39 s.vm) {own : String} {index : Nat} {y : MethodName} {bytes : ByteArray} {maxL : Nat} {as' : Array Value} {Q : Option Value → Heap → List Loc → Prop} {W nc ns : Nat} (hy1 : y.name = "<init>")
    (hown : s.vm.findClass own = some m.cls) (w1 : (Jvm.Cond.methodLink own index y).before a0 Z = true) (w2 : (Jvm.Cond.instanceMethod y).before a0 Z = true) (w4 : (Jvm.Cond.code y bytes maxL none).before a0 Z = true) (hy : y.cls ≠ "java/lang/invoke/MethodHandle" ∧ y.cls ≠ "java/lang/invoke/VarHandle")
    (eT : T.heap = h) (hK : Payer l R p e below s args y W as' h nc ns Q) (hc : cells + nc ≤ R.cells) (hs : slots + ns ≤ R.slots)
    (hg : g.method = m) (hsize : g.locals.size = c.maxLocals) {a : Addr} {argsL rest : List Value} (has : (Value.ref a :: argsL).toArray = as') (hlen : ∀ sig, parseMethodDescriptor y.desc = some sig → argsL.length = sig.parameters.length) (hstack : g.stack = argsL.reverse ++ .ref a :: rest) (hW : 2 * g.monitorRoom + (rest.map fun v => v.category).sum ≤ W)
    (hd : decode c.code g.pc = .ok (.invokespecial index, 3))
    (k : ∀ v T' L, Stand p l e R s m args below meth c T' (locs ++ L) (cells + nc) (slots + ns) → Q v T'.heap L → Goes p e below P T' { g with pc := g.pc + 3, stack := v.toList ++ rest }) : Goes p e below P T g := by
  obtain ⟨v, _, ⟨T', L', k', n'⟩, -, X', ⟨Lc, hQ, l', y', z'⟩, st⟩ := X.specialBack hx (y := y) hy1 hown (mvT hZ w1) (mvT hZ w2) (mvT hZ w4) hy hK hg hsize (Steps.refl _) (a := a) (argsL := argsL) (rest := rest) hlen hstack hW hd (fun _ _ => ⟨has, eT, hc, hs⟩)
  dsimp only [Pt.U, Pt.locs, Pt.cells, Pt.slots] at X' l' y' z' st hQ
  subst l' y' z'
  exact Goes.on (fun _ q => st.trans q) (k v T' Lc X' hQ)
/-- a private instance method (invokevirtual) by its contract -/
theorem Goes.callP (X : Stand p l e R s m args below meth c T locs cells slots) (hx : p.tables.exec = Jvm.exec) (hZ : Z.Warmed39 s.vm) {own C : String} {index ni : Nat} {y : MethodName} {bytes : ByteArray} {maxL : Nat} {ret : Option FieldType} {rm : Room} {as' : Array Value} {Q : Option Value → Heap → List Loc → Prop} (W : Nat)
    (hown : s.vm.findClass own = some m.cls) (w1 : (Jvm.Cond.methodLink own index y).before a0 Z = true) (w6 : (Jvm.Cond.instanceMethod y).before a0 Z = true) (wp : (Jvm.Cond.privateMethod y).before a0 Z = true) (wi : (Jvm.Cond.instantiable y.cls ni).before a0 Z = true) (w3 : (Jvm.Cond.initialized y.cls).before a0 Z = true) (w4 : (Jvm.Cond.code y bytes maxL ret).before a0 Z = true) (hy : y.cls ≠ "java/lang/invoke/MethodHandle" ∧ y.cls ≠ "java/lang/invoke/VarHandle")
    (eT : T.heap = h) {a : Addr} (E : Exa Z h a C) (hM : Pays l Z y bytes maxL ret [] rm as' h Q) (hf : rm.frames + 1 ≤ R.frames) (hl : W + (maxL + 11) + rm.locals ≤ R.locals) (hc : cells + rm.cells ≤ R.cells) (hs : slots + rm.slots ≤ R.slots)
    (hg : g.method = m) (hsize : g.locals.size = c.maxLocals) {argsL rest : List Value} (has : (Value.ref a :: argsL).toArray = as') (hlen : ∀ sig, parseMethodDescriptor y.desc = some sig → argsL.length = sig.parameters.length) (hstack : g.stack = argsL.reverse ++ .ref a :: rest) (hW : 2 * g.monitorRoom + (rest.map fun v => v.category).sum ≤ W)
    (hd : decode c.code g.pc = .ok (.invokevirtual index, 3))
    (k : ∀ v T' L, Stand p l e R s m args below meth c T' (locs ++ L) (cells + rm.cells) (slots + rm.slots) → Q v T'.heap L → Goes p e below P T' { g with pc := g.pc + 3, stack := v.toList ++ rest }) : Goes p e below P T g := by
  obtain ⟨ce, hce, hst⟩ := E.cell
  have hp := Cond.privateMethod_at (args := args) (mvP hZ wp)
  obtain ⟨ci, ki, i1, i2, -, i4, -⟩ := Cond.instantiable_spec (mvT (args := args) hZ wi)
  have i5 : ki.isInterface = false := by cases hq : ki.isInterface <;> simp [hq] at i4 ⊢
  have hsel := selects_self_of_private (args := args) i1 i2 i5 hp (mvT hZ w6) hy
  obtain ⟨v, _, ⟨T', L', k', n'⟩, -, X', ⟨Lc, hQ, l', y', z'⟩, st⟩ := X.privateBack hx (y := y) hown (mvT hZ w1) (mvT hZ w6) hsel hp (mvT hZ w4) hy (backOf (W := W) hM hZ w4 w3 hf hl) hg hsize (Steps.refl _) (a := a) (cell := ce) (by rw [eT]; exact hce) hst (argsL := argsL) (rest := rest) hlen hstack hW hd (fun _ _ => ⟨has, eT, hc, hs⟩)
  dsimp only [Pt.U, Pt.locs, Pt.cells, Pt.slots] at X' l' y' z' st hQ
  subst l' y' z'
  exact Goes.on (fun _ q => st.trans q) (k v T' Lc X' hQ)
theorem eqInt {t : Jvm.Term} {i : Int32} (hq : (Jvm.Cond.eq t (.int i)).value args Z none Z [] = some true) : t.eval args Z none [] Z = some (.int i) := by
  obtain ⟨x, y, e1, e2, -, k⟩ := cmp_v (Or.inl hq)
  cases Option.some.inj ((Term.int_eval i).symm.trans e2)
  obtain ⟨z, rfl⟩ := k
  rw [e1]
  simpa [Jvm.Cond.value, e1, e2] using hq
theorem fldInt {t : Jvm.Term} {C n d : String} {i : Int32} {a : Addr} (ht : t.eval args Z none [] Z = some (.ref a)) (hq : (Jvm.Cond.eq (.field t C n d) (.int i)).value args Z none Z [] = some true) : Fld Z Z.heap a C n d (.int i) := by
  refine Fld.start ((fld_at (C := C) (n := n) (dd := d) ht).symm.trans ?_)
  obtain ⟨x, y, e1, e2, -, k⟩ := cmp_v (Or.inl hq)
  cases Option.some.inj ((Term.int_eval i).symm.trans e2)
  obtain ⟨z, rfl⟩ := k
  rw [e1]
  simpa [Jvm.Cond.value, e1, e2] using hq
theorem fldRef {t u : Jvm.Term} {C n d : String} {a b : Addr} (ht : t.eval args Z none [] Z = some (.ref a)) (hu : u.eval args Z none [] Z = some (.ref b)) (hq : (Jvm.Cond.eq (.field t C n d) u).value args Z none Z [] = some true) : Fld Z Z.heap a C n d (.ref b) := by
  refine Fld.start ((fld_at (C := C) (n := n) (dd := d) ht).symm.trans ?_)
  obtain ⟨x, y, e1, e2, k, k'⟩ := cmp_v (Or.inl hq)
  cases Option.some.inj (hu.symm.trans e2)
  have := gotT (eq_R e1 e2 k'.2 rfl) hq
  rw [e1, this]
theorem lremM {g : JFrame} {target : State} (X : Stand p l e R s m args below meth c T locs cells slots) (hx : p.tables.exec = Jvm.exec) (hg : g.method = m) {x y : Int64} {rest : List Value} (hd : decode c.code g.pc = .ok (.lrem, 1)) (hs : g.stack = .long y :: .long x :: rest) (hy : y ≠ 0)
    (hr : Steps p.tables e below (T.setTop { g with pc := g.pc + 1, stack := .long (x % y) :: rest }) target) : Steps p.tables e below (T.setTop g) target :=
  XS.lrem X.here hx hg hd hs hy (by rw [lrem_mod]; exact hr)
theorem nsRoot {O K : String} {n : Nat} (w : (Jvm.Cond.noSuperclass O).before a0 Z = true) (wk : (Jvm.Cond.instantiable K n).before a0 Z = true) (hn : O ≠ K) : NS Z O K := by
  obtain ⟨c, k, h1, h2, h3, -, -⟩ := Cond.noSuperclass_spec w
  obtain ⟨t, kt, g1, -⟩ := Cond.instantiable_spec wk
  have ne := ids_ne h1 g1 hn
  refine ⟨c, t, h1, g1, fun fuel => ?_⟩
  cases fuel with
  | zero => rfl
  | succ f => simp [Vm.isSubclassAux, ne, h2, h3]
theorem nsNo {C S K : String} {n : Nat} (w : (Jvm.Cond.superclass C S).before a0 Z = true) (wk : (Jvm.Cond.instantiable K n).before a0 Z = true) (q : NS Z C K) (hn : C ≠ K) : ∃ c t, Z.vm.findClass C = some c ∧ Z.vm.findClass K = some t ∧ Z.vm.assignable c t = false := by
  obtain ⟨c, t, h0, g0, n3⟩ := q
  obtain ⟨p, k, kp, h1, h2, h3, h4, h5, -, h7⟩ := Cond.superclass_spec h0 w
  obtain ⟨t', k', g1, g2, g5, g6, -⟩ := Cond.instantiable_spec wk
  cases g0.symm.trans g1
  have g7 : k'.isInterface = false := by cases hq : k'.isInterface <;> simp [hq] at g6 ⊢
  have ne := ids_ne h0 g0 hn
  refine ⟨c, t, h0, g0, ?_⟩
  show Z.vm.assignableAux (255 + 1) c t = false
  simp [Vm.assignableAux, ne, h2, g2, h5, g5, g7, Vm.isSubclass, n3]
theorem narB {z : Int32} (h : z = 0 ∨ z = 1) : narrow .boolean (.int z) = .int z := by rcases h with rfl | rfl <;> rfl
theorem narR {t : FieldType} {v : Value} (ht : t.isReference = true) (h : v.isRef = true) : narrow t v = v := by cases t <;> first | rfl | cases ht
theorem fitR {t : FieldType} {v : Value} (ht : t.isReference = true) (h : v.isRef = true) : fits t v = true := by
  rcases ref_cases h with rfl | ⟨a, rfl⟩ <;> cases t <;> first | rfl | cases ht
theorem fitB {z : Int32} (h : z = 0 ∨ z = 1) : fits .boolean (.int z) = true := by rcases h with rfl | rfl <;> rfl
end Steps
/-- an array by what its places hold -/
def Upd {α : Type} (f : Nat → α) (j : Nat) (x : α) : Nat → α := fun i => if i = j then x else f i
def Arf {α : Type} (Z : State) (h : Heap) (a : Addr) (ty : FieldType) (con : α → Value) (n : Nat) (f : Nat → α) : Prop := ∃ c : Cell, Arr Z h a c ty ∧ c.slots.size = n ∧ ∀ i, i < n → c.slots[i]? = some (con (f i))
theorem updS {α : Type} (f : Nat → α) (j : Nat) (x : α) : Upd f j x j = x := if_pos rfl
theorem updN {α : Type} (f : Nat → α) {i j : Nat} (x : α) (h : i ≠ j) : Upd f j x i = f i := if_neg h
section Arrays
variable {p : Program} {l : Launch} {e : Env} {R : Room} {s : State} {m : MethodId} {args : Array Value} {below : List Frame} {meth : Method} {c : Code} {T T' : State} {locs : List Loc} {cells slots : Nat} {Z : State} {a0 : Array Value} {h h' : Heap} {P : Outcome → State → Prop} {g g' : JFrame} {α : Type} {con : α → Value} {a b : Addr} {ty : FieldType} {n : Nat} {f : Nat → α} {j : Int32} {rest : List Value}
theorem Arf.lt (F : Arf Z h a ty con n f) : a < h.size := by obtain ⟨c, A, -⟩ := F; exact A.lt
theorem Arf.ext (F : Arf Z h a ty con n f) (E : Ext h h') : Arf Z h' a ty con n f := by obtain ⟨c, A, r⟩ := F; exact ⟨c, A.ext E, r⟩
theorem Arf.other {sl : Nat} {v : Value} (F : Arf Z h b ty con n f) (W : Wr h h' a sl v) (q : b ≠ a) : Arf Z h' b ty con n f := by obtain ⟨c, A, r⟩ := F; exact ⟨c, A.other W q, r⟩
theorem Arf.keep {ws : List Addr} (F : Arf Z h a ty con n f) (K : Keep h h' ws) (q : a ∉ ws) : Arf Z h' a ty con n f := by obtain ⟨c, A, r⟩ := F; exact ⟨c, ⟨K.2.1 a c A.1 q, A.2⟩, r⟩
theorem Arf.new {cA : ClassId} {z : Int32} {d : α} (A : Arr Z h a (newA cA ty z) ty) (hd : defaultValue ty = con d) : Arf Z h a ty con z.toNatClampNeg (fun _ => d) :=
  ⟨_, A, sz_new _ _ _, fun i hi => by simp [newA, hi, hd]⟩
theorem Arf.set (F : Arf Z h a ty con n f) {k : Nat} {v : Value} {x : α} (W : Wr h h' a k v) (hv : v = con x) : Arf Z h' a ty con n (Upd f k x) := by
  obtain ⟨c, A, S, H⟩ := F
  refine ⟨_, A.same W, (sz_set _ _ _).trans S, fun i hi => ?_⟩
  subst hv
  by_cases q : i = k
  · subst q; simp [Cell.setSlot, Upd, S, hi]
  · have : ((c.setSlot k (con x)).slots)[i]? = c.slots[i]? := Array.getElem?_setIfInBounds_ne (Ne.symm q)
    rw [this, H i hi]; simp [Upd, q]
theorem Arf.inb {c : Cell} (S : c.slots.size = n) (hj : ¬ j < 0 ∧ j.toNatClampNeg < n) : ¬ (j < 0 ∨ c.slots.size ≤ j.toNatClampNeg) := fun q => q.elim hj.1 fun r => by omega
theorem ldJ {f : Nat → Int64} (X : Stand p l e R s m args below meth c T locs cells slots) (hx : p.tables.exec = Jvm.exec) (hZ : Z.Warmed39 s.vm) (eT : T.heap = h) (F : Arf Z h a .long Value.long n f) (hj : ¬ j < 0 ∧ j.toNatClampNeg < n) (hg : g.method = m) (hs : g.stack = .int j :: .ref a :: rest) (hd : decode c.code g.pc = .ok (.laload, 1)) {t : State}
    (k : Steps p.tables e below (T.setTop { g with pc := g.pc + 1, stack := .long (f j.toNatClampNeg) :: rest }) t) : Steps p.tables e below (T.setTop g) t := by
  obtain ⟨cl, A, S, H⟩ := F
  exact X.laload hx (by rw [eT]; exact A.1) (State.isArrayOf_alike hZ.alike A.2.1) A.2.2 (Arf.inb S hj) (H _ hj.2) hg hs hd t k
theorem ldI {f : Nat → Int32} (X : Stand p l e R s m args below meth c T locs cells slots) (hx : p.tables.exec = Jvm.exec) (hZ : Z.Warmed39 s.vm) (eT : T.heap = h) (F : Arf Z h a .int Value.int n f) (hj : ¬ j < 0 ∧ j.toNatClampNeg < n) (hg : g.method = m) (hs : g.stack = .int j :: .ref a :: rest) (hd : decode c.code g.pc = .ok (.iaload, 1)) {t : State}
    (k : Steps p.tables e below (T.setTop { g with pc := g.pc + 1, stack := .int (f j.toNatClampNeg) :: rest }) t) : Steps p.tables e below (T.setTop g) t := by
  obtain ⟨cl, A, S, H⟩ := F
  exact X.iaload hx (by rw [eT]; exact A.1) (State.isArrayOf_alike hZ.alike A.2.1) A.2.2 (Arf.inb S hj) (H _ hj.2) hg hs hd t k
theorem ldZ {f : Nat → Int32} (X : Stand p l e R s m args below meth c T locs cells slots) (hx : p.tables.exec = Jvm.exec) (hZ : Z.Warmed39 s.vm) (eT : T.heap = h) (F : Arf Z h a .boolean Value.int n f) (hj : ¬ j < 0 ∧ j.toNatClampNeg < n) (hg : g.method = m) (hs : g.stack = .int j :: .ref a :: rest) (hd : decode c.code g.pc = .ok (.baload, 1)) {t : State}
    (k : Steps p.tables e below (T.setTop { g with pc := g.pc + 1, stack := .int (f j.toNatClampNeg) :: rest }) t) : Steps p.tables e below (T.setTop g) t := by
  obtain ⟨cl, A, S, H⟩ := F
  exact X.baloadBooleans hx (by rw [eT]; exact A.1) (State.isArrayOf_alike hZ.alike A.2.1) A.2.2 (Arf.inb S hj) (H _ hj.2) hg hs hd t k
theorem ldY {f : Nat → Int32} (X : Stand p l e R s m args below meth c T locs cells slots) (hx : p.tables.exec = Jvm.exec) (hZ : Z.Warmed39 s.vm) (eT : T.heap = h) (F : Arf Z h a .byte Value.int n f) (hj : ¬ j < 0 ∧ j.toNatClampNeg < n) (hg : g.method = m) (hs : g.stack = .int j :: .ref a :: rest) (hd : decode c.code g.pc = .ok (.baload, 1)) {t : State}
    (k : Steps p.tables e below (T.setTop { g with pc := g.pc + 1, stack := .int (f j.toNatClampNeg) :: rest }) t) : Steps p.tables e below (T.setTop g) t := by
  obtain ⟨cl, A, S, H⟩ := F
  exact X.baloadBytes hx (by rw [eT]; exact A.1) (State.isArrayOf_alike hZ.alike A.2.1) A.2.2 (Arf.inb S hj) (H _ hj.2) hg hs hd t k
theorem ldD {f : Nat → UInt64} (X : Stand p l e R s m args below meth c T locs cells slots) (hx : p.tables.exec = Jvm.exec) (hZ : Z.Warmed39 s.vm) (eT : T.heap = h) (F : Arf Z h a .double Value.double n f) (hj : ¬ j < 0 ∧ j.toNatClampNeg < n) (hg : g.method = m) (hs : g.stack = .int j :: .ref a :: rest) (hd : decode c.code g.pc = .ok (.daload, 1)) {t : State}
    (k : Steps p.tables e below (T.setTop { g with pc := g.pc + 1, stack := .double (f j.toNatClampNeg) :: rest }) t) : Steps p.tables e below (T.setTop g) t := by
  obtain ⟨cl, A, S, H⟩ := F
  exact X.daload hx (by rw [eT]; exact A.1) (State.isArrayOf_alike hZ.alike A.2.1) A.2.2 (Arf.inb S hj) (H _ hj.2) hg hs hd t k
theorem aLen (X : Stand p l e R s m args below meth c T locs cells slots) (hx : p.tables.exec = Jvm.exec) (hZ : Z.Warmed39 s.vm) (eT : T.heap = h) (F : Arf Z h a ty con n f) (hg : g.method = m) (hs : g.stack = .ref a :: rest) (hd : decode c.code g.pc = .ok (.arraylength, 1)) {t : State}
    (k : Steps p.tables e below (T.setTop { g with pc := g.pc + 1, stack := .int n.toInt32 :: rest }) t) : Steps p.tables e below (T.setTop g) t := by
  obtain ⟨cl, A, S, H⟩ := F
  exact X.arraylength hx (by rw [eT]; exact A.1) (State.isArrayOf_alike hZ.alike A.2.1) hg hs hd t (by rw [S]; exact k)
theorem wrJ {f : Nat → Int64} {x : Int64} (X : Stand p l e R s m args below meth c T locs cells slots) (hx : p.tables.exec = Jvm.exec) (hZ : Z.Warmed39 s.vm) (eT : T.heap = h) (F : Arf Z h a .long Value.long n f) (hj : ¬ j < 0 ∧ j.toNatClampNeg < n) (hg : g.method = m) (hs : g.stack = .long x :: .int j :: .ref a :: rest) (hd : decode c.code g.pc = .ok (.lastore, 1)) :
    ∃ T' h', Stand p l e R s m args below meth c T' (locs ++ [⟨a, j.toNatClampNeg⟩]) cells slots ∧ T'.heap = h' ∧ Wr h h' a j.toNatClampNeg (.long x) ∧ Arf Z h' a .long Value.long n (Upd f j.toNatClampNeg x) ∧ ∀ target, Steps p.tables e below (T'.setTop { g with pc := g.pc + 1, stack := rest }) target → Steps p.tables e below (T.setTop g) target := by
  have F' := F
  obtain ⟨cl, A, S, H⟩ := F
  obtain ⟨T', h', X', e', W, st⟩ := stJ X hx hZ eT A (Arf.inb S hj) hg hs hd
  exact ⟨T', h', X', e', W, F'.set W rfl, st⟩
theorem wrI {f : Nat → Int32} {x : Int32} (X : Stand p l e R s m args below meth c T locs cells slots) (hx : p.tables.exec = Jvm.exec) (hZ : Z.Warmed39 s.vm) (eT : T.heap = h) (F : Arf Z h a .int Value.int n f) (hj : ¬ j < 0 ∧ j.toNatClampNeg < n) (hg : g.method = m) (hs : g.stack = .int x :: .int j :: .ref a :: rest) (hd : decode c.code g.pc = .ok (.iastore, 1)) :
    ∃ T' h', Stand p l e R s m args below meth c T' (locs ++ [⟨a, j.toNatClampNeg⟩]) cells slots ∧ T'.heap = h' ∧ Wr h h' a j.toNatClampNeg (.int x) ∧ Arf Z h' a .int Value.int n (Upd f j.toNatClampNeg x) ∧ ∀ target, Steps p.tables e below (T'.setTop { g with pc := g.pc + 1, stack := rest }) target → Steps p.tables e below (T.setTop g) target := by
  have F' := F
  obtain ⟨cl, A, S, H⟩ := F
  obtain ⟨T', h', X', e', W, st⟩ := stI X hx hZ eT A (Arf.inb S hj) hg hs hd
  exact ⟨T', h', X', e', W, F'.set W rfl, st⟩
theorem wrD {f : Nat → UInt64} {x : UInt64} (X : Stand p l e R s m args below meth c T locs cells slots) (hx : p.tables.exec = Jvm.exec) (hZ : Z.Warmed39 s.vm) (eT : T.heap = h) (F : Arf Z h a .double Value.double n f) (hj : ¬ j < 0 ∧ j.toNatClampNeg < n) (hg : g.method = m) (hs : g.stack = .double x :: .int j :: .ref a :: rest) (hd : decode c.code g.pc = .ok (.dastore, 1)) :
    ∃ T' h', Stand p l e R s m args below meth c T' (locs ++ [⟨a, j.toNatClampNeg⟩]) cells slots ∧ T'.heap = h' ∧ Wr h h' a j.toNatClampNeg (.double x) ∧ Arf Z h' a .double Value.double n (Upd f j.toNatClampNeg x) ∧ ∀ target, Steps p.tables e below (T'.setTop { g with pc := g.pc + 1, stack := rest }) target → Steps p.tables e below (T.setTop g) target := by
  have F' := F
  obtain ⟨cl, A, S, H⟩ := F
  obtain ⟨T', h', X', e', W, st⟩ := stD X hx hZ eT A (Arf.inb S hj) hg hs hd
  exact ⟨T', h', X', e', W, F'.set W rfl, st⟩
theorem wrZ {f : Nat → Int32} {x : Int32} (X : Stand p l e R s m args below meth c T locs cells slots) (hx : p.tables.exec = Jvm.exec) (hZ : Z.Warmed39 s.vm) (eT : T.heap = h) (F : Arf Z h a .boolean Value.int n f) (hj : ¬ j < 0 ∧ j.toNatClampNeg < n) (hb : x = 0 ∨ x = 1) (hg : g.method = m) (hs : g.stack = .int x :: .int j :: .ref a :: rest) (hd : decode c.code g.pc = .ok (.bastore, 1)) :
    ∃ T' h', Stand p l e R s m args below meth c T' (locs ++ [⟨a, j.toNatClampNeg⟩]) cells slots ∧ T'.heap = h' ∧ Wr h h' a j.toNatClampNeg (.int x) ∧ Arf Z h' a .boolean Value.int n (Upd f j.toNatClampNeg x) ∧ ∀ target, Steps p.tables e below (T'.setTop { g with pc := g.pc + 1, stack := rest }) target → Steps p.tables e below (T.setTop g) target := by
  have F' := F
  obtain ⟨cl, A, S, H⟩ := F
  obtain ⟨T', h', X', e', W, st⟩ := stZ X hx hZ eT A (Arf.inb S hj) hg hs hd
  have q : nar .boolean x = x := by rcases hb with rfl | rfl <;> rfl
  rw [q] at W
  exact ⟨T', h', X', e', W, F'.set W rfl, st⟩
theorem nat32 {n : Nat} (hn : n < 2 ^ 31) : n.toInt32.toNatClampNeg = n := by
  have q : n.toInt32.toInt = n := len_toInt hn
  simp only [Int32.toNatClampNeg, q]; omega
theorem pos32 {n : Nat} (hn : n < 2 ^ 31) : ¬ n.toInt32 < 0 := by
  have q : n.toInt32.toInt = n := len_toInt hn
  rw [Int32.lt_iff_toInt_lt, q]; have k : (0 : Int32).toInt = 0 := rfl
  omega
theorem Arf.arv (F : Arf Z h a ty con n f) (hn : n < 2 ^ 31) (hf : ∀ x, fits ty (con x) = true) (d : Value) : ∃ k, Arv Z h a k ty n.toInt32 ((List.range n).map fun i => con (f i)) d := by
  obtain ⟨cl, A, S, H⟩ := F
  refine ⟨cl.cls, cl, A, rfl, by rw [nat32 hn, S], pos32 hn, fun i hi => ?_, fun i hi => ?_⟩
  · rw [S] at hi; rw [H i hi]; simp [List.getD, hi]
  · rw [S] at hi; simp [List.getD, hi, hf]
theorem Arf.arv' (F : Arf Z h a ty con n f) (hn : n < 2 ^ 31) (hf : ∀ i, i < n → fits ty (con (f i)) = true) (d : Value) : ∃ k, Arv Z h a k ty n.toInt32 ((List.range n).map fun i => con (f i)) d := by
  obtain ⟨cl, A, S, H⟩ := F
  refine ⟨cl.cls, cl, A, rfl, by rw [nat32 hn, S], pos32 hn, fun i hi => ?_, fun i hi => ?_⟩
  · rw [S] at hi; rw [H i hi]; simp [List.getD, hi]
  · rw [S] at hi; simp [List.getD, hi, hf i hi]
theorem wrC {f : Nat → Int32} {x : Int32} (X : Stand p l e R s m args below meth c T locs cells slots) (hx : p.tables.exec = Jvm.exec) (hZ : Z.Warmed39 s.vm) (eT : T.heap = h) (F : Arf Z h a .char Value.int n f) (hj : ¬ j < 0 ∧ j.toNatClampNeg < n) (hb : nar .char x = x) (hg : g.method = m) (hs : g.stack = .int x :: .int j :: .ref a :: rest) (hd : decode c.code g.pc = .ok (.castore, 1)) :
    ∃ T' h', Stand p l e R s m args below meth c T' (locs ++ [⟨a, j.toNatClampNeg⟩]) cells slots ∧ T'.heap = h' ∧ Wr h h' a j.toNatClampNeg (.int x) ∧ Arf Z h' a .char Value.int n (Upd f j.toNatClampNeg x) ∧ ∀ target, Steps p.tables e below (T'.setTop { g with pc := g.pc + 1, stack := rest }) target → Steps p.tables e below (T.setTop g) target := by
  have F' := F
  obtain ⟨cl, A, S, H⟩ := F
  obtain ⟨T', h', X', e', W, st⟩ := stC X hx hZ eT A (Arf.inb S hj) hg hs hd
  rw [hb] at W
  exact ⟨T', h', X', e', W, F'.set W rfl, st⟩
theorem narC (y : Int32) : nar .char (y.toUInt32.toUInt16.toUInt32.toInt32) = y.toUInt32.toUInt16.toUInt32.toInt32 := by
  simp only [nar, UInt32.toUInt32_toInt32, UInt16.toUInt16_toUInt32]
theorem Arv.arf {k : ClassId} {z : Int32} {vs : List Value} {d : Value} (V : Arv Z h a k ty z vs d) (hz : z.toNatClampNeg = n) (hv : ∀ i, i < n → vs.getD i d = con (f i)) : Arf Z h a ty con n f := by
  obtain ⟨cl, A, -, S, -, H, -⟩ := V
  exact ⟨cl, A, S.trans hz, fun i hi => by rw [H i (by omega), hv i hi]⟩
/-- System.arraycopy(src, 0, dst, 0, len) -/
theorem acF (X : Stand p l e R s m args below meth c T locs cells slots) (hx : p.tables.exec = Jvm.exec) (hZ : Z.Warmed39 s.vm) {own : String} {index : Nat} (hown : s.vm.findClass own = some m.cls)
    (w1 : (Jvm.Cond.methodLink own index Jvm.Stand.acN).before a0 Z = true) (w2 : (Jvm.Cond.native Jvm.Stand.acN).before a0 Z = true) (w3 : (Jvm.Cond.static Jvm.Stand.acN).before a0 Z = true) (w4 : (Jvm.Cond.initialized "java/lang/System").before a0 Z = true) (eT : T.heap = h)
    {n' : Nat} {f' : Nat → α} {nn : Int32} {len : Nat} (A : Arf Z h a ty con n f) (B : Arf Z h b ty con n' f') (hty : refKind ty = false) (hf : ∀ x, fits ty (con x) = true) (hn : n < 2 ^ 31) (hn' : n' < 2 ^ 31) (h3 : ¬ nn < 0) (hl : nn.toNatClampNeg = len) (h4 : len ≤ n) (h5 : len ≤ n') {n0 : Nat} (N : Fr n0 locs) (ge : n0 ≤ b)
    (hg : g.method = m) (hsize : g.locals.size = c.maxLocals) (hs : g.stack = .int nn :: .int 0 :: .ref b :: .int 0 :: .ref a :: rest) (hd : decode c.code g.pc = .ok (.invokestatic index, 3))
    (hfr : 1 ≤ R.frames) {W : Nat} (hW : 2 * g.monitorRoom + (rest.map fun v => v.category).sum ≤ W) (hlo : W + (nativeFrameWords "java/lang/System" "arraycopy" 5 + 11) ≤ R.locals) :
    ∃ T' h' L, Stand p l e R s m args below meth c T' L cells slots ∧ T'.heap = h' ∧ Fr n0 L ∧ Keep h h' [b] ∧ Arf Z h' b ty con n' (fun i => if i < len then f i else f' i) ∧
      ∀ target, Steps p.tables e below (T'.setTop { g with pc := g.pc + 3, stack := rest }) target → Steps p.tables e below (T.setTop g) target := by
  obtain ⟨k, VA⟩ := A.arv hn hf .null
  obtain ⟨k', VB⟩ := B.arv hn' hf .null
  have z0 : (0 : Int32).toNatClampNeg = 0 := rfl
  obtain ⟨T', h', L, X', e', F', K', V', st⟩ := cpA X hx hZ hown w1 w2 w3 w4 eT VA VB (us := (List.range nn.toNatClampNeg).map fun i => ((List.range n).map fun i => con (f i)).getD ((0 : Int32).toNatClampNeg + i) .null) (Or.inl ⟨rfl, hty⟩) (sp := 0) (dp := 0) (nn := nn) (by decide) (by decide) h3 (by rw [z0, hl, nat32 hn]; omega) (by rw [z0, hl, nat32 hn']; omega) rfl (by rw [z0, hl]; simp; omega) N ge hg hsize hs hd hfr hW hlo
  refine ⟨T', h', L, X', e', F', K', Arv.arf V' (nat32 hn') fun i hi => ?_, st⟩
  rw [z0, hl]
  by_cases q : i < len
  · have q2 : i < n := by omega
    simp [List.getD, List.getElem?_append, q, q2]
  · have q3 : len + (i - len) = i := by omega
    have q4 : i < n' := hi
    simp [List.getD, List.getElem?_append, q, q3, q4]
/-- an array of arrays, with the class that it takes -/
def Blk (Z : State) (h : Heap) (b : Addr) (ty : FieldType) (C : String) (n : Nat) (f : Nat → Value) : Prop := ∃ c : Cell, Arr Z h b c (.array ty) ∧ OvrA Z c.cls ty C ∧ c.slots.size = n ∧ ∀ i, i < n → c.slots[i]? = some (f i)
section Blks
variable {C : String} {f : Nat → Value}
theorem Blk.lt (F : Blk Z h a ty C n f) : a < h.size := by obtain ⟨c, A, -⟩ := F; exact A.lt
theorem Blk.ext (F : Blk Z h a ty C n f) (E : Ext h h') : Blk Z h' a ty C n f := by obtain ⟨c, A, r⟩ := F; exact ⟨c, A.ext E, r⟩
theorem Blk.other {sl : Nat} {v : Value} (F : Blk Z h b ty C n f) (W : Wr h h' a sl v) (q : b ≠ a) : Blk Z h' b ty C n f := by obtain ⟨c, A, r⟩ := F; exact ⟨c, A.other W q, r⟩
theorem Blk.keep {ws : List Addr} (F : Blk Z h a ty C n f) (K : Keep h h' ws) (q : a ∉ ws) : Blk Z h' a ty C n f := by obtain ⟨c, A, r⟩ := F; exact ⟨c, ⟨K.2.1 a c A.1 q, A.2⟩, r⟩
theorem Blk.new {cA : ClassId} {z : Int32} (A : Arr Z h a (newA cA (.array ty) z) (.array ty)) (O : OvrA Z cA ty C) : Blk Z h a ty C z.toNatClampNeg (fun _ => .null) :=
  ⟨_, A, O, sz_new _ _ _, fun i hi => by simp [newA, hi, defaultValue]⟩
theorem ldB (X : Stand p l e R s m args below meth c T locs cells slots) (hx : p.tables.exec = Jvm.exec) (hZ : Z.Warmed39 s.vm) (eT : T.heap = h) (F : Blk Z h a ty C n f) (hj : ¬ j < 0 ∧ j.toNatClampNeg < n) (hg : g.method = m) (hs : g.stack = .int j :: .ref a :: rest) (hd : decode c.code g.pc = .ok (.aaload, 1)) {t : State}
    (k : Steps p.tables e below (T.setTop { g with pc := g.pc + 1, stack := f j.toNatClampNeg :: rest }) t) : Steps p.tables e below (T.setTop g) t := by
  obtain ⟨cl, A, O, S, H⟩ := F
  exact X.aaload hx (by rw [eT]; exact A.1) (State.isArrayOf_alike hZ.alike A.2.1) rfl A.2.2 (Arf.inb S hj) (H _ hj.2) hg hs hd t k
theorem lenB (X : Stand p l e R s m args below meth c T locs cells slots) (hx : p.tables.exec = Jvm.exec) (hZ : Z.Warmed39 s.vm) (eT : T.heap = h) (F : Blk Z h a ty C n f) (hg : g.method = m) (hs : g.stack = .ref a :: rest) (hd : decode c.code g.pc = .ok (.arraylength, 1)) {t : State}
    (k : Steps p.tables e below (T.setTop { g with pc := g.pc + 1, stack := .int n.toInt32 :: rest }) t) : Steps p.tables e below (T.setTop g) t := by
  obtain ⟨cl, A, O, S, H⟩ := F
  exact X.arraylength hx (by rw [eT]; exact A.1) (State.isArrayOf_alike hZ.alike A.2.1) hg hs hd t (by rw [S]; exact k)
theorem wrB {y : Addr} (X : Stand p l e R s m args below meth c T locs cells slots) (hx : p.tables.exec = Jvm.exec) (hZ : Z.Warmed39 s.vm) (eT : T.heap = h) (F : Blk Z h a ty C n f) (I : Ins Z h y C true) (hj : ¬ j < 0 ∧ j.toNatClampNeg < n) (hg : g.method = m) (hs : g.stack = .ref y :: .int j :: .ref a :: rest) (hd : decode c.code g.pc = .ok (.aastore, 1)) :
    ∃ T' h', Stand p l e R s m args below meth c T' (locs ++ [⟨a, j.toNatClampNeg⟩]) cells slots ∧ T'.heap = h' ∧ Wr h h' a j.toNatClampNeg (.ref y) ∧ Blk Z h' a ty C n (Upd f j.toNatClampNeg (.ref y)) ∧ ∀ target, Steps p.tables e below (T'.setTop { g with pc := g.pc + 1, stack := rest }) target → Steps p.tables e below (T.setTop g) target := by
  obtain ⟨cl, A, O, S, H⟩ := F
  obtain ⟨T', h', X', e', W, st⟩ := stR X hx hZ eT A (Arf.inb S hj) rfl (Sto.ofVA A rfl O I) hg hs hd
  refine ⟨T', h', X', e', W, ⟨_, A.same W, O, (sz_set _ _ _).trans S, fun i hi => ?_⟩, st⟩
  by_cases q : i = j.toNatClampNeg
  · subst q; simp [Cell.setSlot, Upd, S, hi]
  · have : ((cl.setSlot j.toNatClampNeg (.ref y)).slots)[i]? = cl.slots[i]? := Array.getElem?_setIfInBounds_ne (Ne.symm q)
    rw [this, H i hi]; simp [Upd, q]
theorem Blk.one {v : Value} (F : Blk Z h b ty C 1 f) (hv : f 0 = v) : Blk Z h b ty C 1 (fun _ => v) := by
  obtain ⟨c, A, O, S, H⟩ := F
  refine ⟨c, A, O, S, fun i hi => ?_⟩
  obtain rfl : i = 0 := by omega
  rw [H 0 hi, hv]
end Blks
end Arrays
end Jvm.Own
namespace Jvm.Pilot.@@N@@
open Jvm Jvm.ClassFile Sem Op Lib Jvm.Free Jvm.Stand Jvm.LawKit Jvm.RoadKit Bundle Jvm.Own Jvm.Pilot.@@N@@.Jvm.D
theorem own_w {Z : State} {a0 : Array Value} (hw : ∀ d ∈ tables_1, d.before a0 Z = true) (i : Nat) {d : Jvm.Cond} (h : tables_1[i]? = some d) : d.before a0 Z = true := hw d (List.mem_of_getElem? h)
theorem d1_0 : decode prog_5_method_2_code 0 = .ok (.lload_n 0, 1) := by decide +kernel
theorem d1_1 : decode prog_5_method_2_code 1 = .ok (.lconst 0, 1) := by decide +kernel
theorem d1_2 : decode prog_5_method_2_code 2 = .ok (.lcmp, 1) := by decide +kernel
theorem d1_3 : decode prog_5_method_2_code 3 = .ok (.ifCond .lt 16, 3) := by decide +kernel
theorem d1_19 : decode prog_5_method_2_code 19 = .ok (.lload_n 0, 1) := by decide +kernel
theorem d1_20 : decode prog_5_method_2_code 20 = .ok (.lconst 0, 1) := by decide +kernel
theorem d1_21 : decode prog_5_method_2_code 21 = .ok (.lcmp, 1) := by decide +kernel
theorem d1_22 : decode prog_5_method_2_code 22 = .ok (.ifCond .lt 16, 3) := by decide +kernel
theorem d1_38 : decode prog_5_method_2_code 38 = .ok (.lload_n 0, 1) := by decide +kernel
theorem d1_39 : decode prog_5_method_2_code 39 = .ok (.lconst 0, 1) := by decide +kernel
theorem d1_40 : decode prog_5_method_2_code 40 = .ok (.lcmp, 1) := by decide +kernel
theorem d1_41 : decode prog_5_method_2_code 41 = .ok (.ifCond .lt 16, 3) := by decide +kernel
theorem d1_57 : decode prog_5_method_2_code 57 = .ok (.lload_n 0, 1) := by decide +kernel
theorem d1_58 : decode prog_5_method_2_code 58 = .ok (.lconst 0, 1) := by decide +kernel
theorem d1_59 : decode prog_5_method_2_code 59 = .ok (.lcmp, 1) := by decide +kernel
theorem d1_60 : decode prog_5_method_2_code 60 = .ok (.ifCond .lt 16, 3) := by decide +kernel
theorem d1_76 : decode prog_5_method_2_code 76 = .ok (.bipush 9, 2) := by decide +kernel
theorem d1_78 : decode prog_5_method_2_code 78 = .ok (.istore_n 2, 1) := by decide +kernel
theorem d1_79 : decode prog_5_method_2_code 79 = .ok (.iload_n 2, 1) := by decide +kernel
theorem d1_80 : decode prog_5_method_2_code 80 = .ok (.ireturn, 1) := by decide +kernel
theorem d1_6 : decode prog_5_method_2_code 6 = .ok (.lload_n 0, 1) := by decide +kernel
theorem d1_7 : decode prog_5_method_2_code 7 = .ok (.ldc2_w 9, 3) := by decide +kernel
theorem d1_10 : decode prog_5_method_2_code 10 = .ok (.lcmp, 1) := by decide +kernel
theorem d1_11 : decode prog_5_method_2_code 11 = .ok (.ifCond .ge 8, 3) := by decide +kernel
theorem d1_14 : decode prog_5_method_2_code 14 = .ok (.iconst 1, 1) := by decide +kernel
theorem d1_15 : decode prog_5_method_2_code 15 = .ok (.istore_n 2, 1) := by decide +kernel
theorem d1_16 : decode prog_5_method_2_code 16 = .ok (.goto 63, 3) := by decide +kernel
theorem d1_25 : decode prog_5_method_2_code 25 = .ok (.lload_n 0, 1) := by decide +kernel
theorem d1_26 : decode prog_5_method_2_code 26 = .ok (.ldc2_w 11, 3) := by decide +kernel
theorem d1_29 : decode prog_5_method_2_code 29 = .ok (.lcmp, 1) := by decide +kernel
theorem d1_30 : decode prog_5_method_2_code 30 = .ok (.ifCond .gt 8, 3) := by decide +kernel
theorem d1_44 : decode prog_5_method_2_code 44 = .ok (.lload_n 0, 1) := by decide +kernel
theorem d1_45 : decode prog_5_method_2_code 45 = .ok (.ldc2_w 13, 3) := by decide +kernel
theorem d1_48 : decode prog_5_method_2_code 48 = .ok (.lcmp, 1) := by decide +kernel
theorem d1_49 : decode prog_5_method_2_code 49 = .ok (.ifCond .gt 8, 3) := by decide +kernel
theorem d1_63 : decode prog_5_method_2_code 63 = .ok (.lload_n 0, 1) := by decide +kernel
theorem d1_64 : decode prog_5_method_2_code 64 = .ok (.ldc2_w 15, 3) := by decide +kernel
theorem d1_67 : decode prog_5_method_2_code 67 = .ok (.lcmp, 1) := by decide +kernel
theorem d1_68 : decode prog_5_method_2_code 68 = .ok (.ifCond .gt 8, 3) := by decide +kernel
theorem d1_71 : decode prog_5_method_2_code 71 = .ok (.iconst 5, 1) := by decide +kernel
theorem d1_72 : decode prog_5_method_2_code 72 = .ok (.istore_n 2, 1) := by decide +kernel
theorem d1_73 : decode prog_5_method_2_code 73 = .ok (.goto 6, 3) := by decide +kernel
theorem d1_52 : decode prog_5_method_2_code 52 = .ok (.iconst 3, 1) := by decide +kernel
theorem d1_53 : decode prog_5_method_2_code 53 = .ok (.istore_n 2, 1) := by decide +kernel
theorem d1_54 : decode prog_5_method_2_code 54 = .ok (.goto 25, 3) := by decide +kernel
theorem d1_33 : decode prog_5_method_2_code 33 = .ok (.iconst 2, 1) := by decide +kernel
theorem d1_34 : decode prog_5_method_2_code 34 = .ok (.istore_n 2, 1) := by decide +kernel
theorem d1_35 : decode prog_5_method_2_code 35 = .ok (.goto 44, 3) := by decide +kernel
theorem ef_0 (m : MethodId) (x0 : Int64) : entryFrame m #[(.long x0)] 3 = mkF m 0 #[.val (.long x0), .second, .unset] [] := by first | (simp [entryFrame, mkF, argsToLocals, Value.category]; done) | rfl
theorem pn_0 : plainName "com/example/arcbind/arcbind/Cbor" = true := by first | (simp [plainName, overriddenIn]; done) | decide +kernel
def F1 (x0 : Int64) : Int32 := (if x0 < (0 : Int64) then (9 : Int32) else (if x0 < (24 : Int64) then (1 : Int32) else (if (255 : Int64) < x0 then (if (65535 : Int64) < x0 then (if (4294967295 : Int64) < x0 then (9 : Int32) else (5 : Int32)) else (3 : Int32)) else (2 : Int32))))
set_option maxRecDepth 65536 in
set_option maxHeartbeats 40000000 in
theorem rm1 (l : Launch) (Z : State) (a0 : Array Value) (hw : ∀ d ∈ tables_1, d.before a0 Z = true) (x0 : Int64) (h0 : Heap) (n0 : Nat) (Z0 : n0 ≤ h0.size) :
    Pays l Z (⟨"com/example/arcbind/arcbind/Cbor", "headSize", "(J)I"⟩ : MethodName) prog_5_method_2_code 3 (some .int) [] ({ frames := 0, cells := 0, slots := 0, locals := 0 } : Room) #[(.long x0)] h0 (fun v h L => v = some (.int (F1 x0)) ∧ Fr n0 L ∧ h = h0) := by
  refine Pays.walk (plainFor_of_name pn_0) (fun m => ef_0 m x0 ) ?_
  intro p e s m below meth c T0 X0 hx hby hml hown hnm hZ e0 hret hlk
  have N0 := Fr.nil n0
  refine Goes.on (T' := T0) (g' := (mkF m 3 #[.val (.long x0), .second, .unset] [(.int (XT.cmpL x0 (0 : Int64)))])) (fun _ k => XS.lloadN X0.here hx rfl (hb hby d1_0) rfl (XS.lconst X0.here hx rfl (hb hby d1_1) (XT.lcmp X0.here hx rfl (hb hby d1_2) rfl k))) ?_
  by_cases hc1 : x0 < (0 : Int64)
  · refine Goes.on (T' := T0) (g' := (mkF m 60 #[.val (.long x0), .second, .unset] [(.int (XT.cmpL x0 (0 : Int64)))])) (fun _ k => XS.ifYes X0.here hx rfl (pc0 := 3) (pc' := 19) rfl (hb hby d1_3) rfl (XT.ll_lt_t hc1) (by decide) (by decide) (XS.lloadN X0.here hx rfl (hb hby d1_19) rfl (XS.lconst X0.here hx rfl (hb hby d1_20) (XT.lcmp X0.here hx rfl (hb hby d1_21) rfl (XS.ifYes X0.here hx rfl (pc0 := 22) (pc' := 38) rfl (hb hby d1_22) rfl (XT.ll_lt_t hc1) (by decide) (by decide) (XS.lloadN X0.here hx rfl (hb hby d1_38) rfl (XS.lconst X0.here hx rfl (hb hby d1_39) (XT.lcmp X0.here hx rfl (hb hby d1_40) rfl (XS.ifYes X0.here hx rfl (pc0 := 41) (pc' := 57) rfl (hb hby d1_41) rfl (XT.ll_lt_t hc1) (by decide) (by decide) (XS.lloadN X0.here hx rfl (hb hby d1_57) rfl (XS.lconst X0.here hx rfl (hb hby d1_58) (XT.lcmp X0.here hx rfl (hb hby d1_59) rfl k)))))))))))) ?_
    refine Goes.on (T' := T0) (g' := (mkF m 80 #[.val (.long x0), .second, .val (.int (9 : Int32))] [(.int (9 : Int32))])) (fun _ k => XS.ifYes X0.here hx rfl (pc0 := 60) (pc' := 76) rfl (hb hby d1_60) rfl (XT.ll_lt_t hc1) (by decide) (by decide) (XS.bipush X0.here hx rfl (hb hby d1_76) (XS.istoreN X0.here hx rfl (hb hby d1_78) rfl (l' := #[.val (.long x0), .second, .val (.int (9 : Int32))]) rfl (XS.iloadN X0.here hx rfl (hb hby d1_79) rfl k)))) ?_
    exact Goes.retI X0 hx hlk hret (hb hby d1_80) (by decide) (by decide) ⟨(by unfold F1; rw [if_pos hc1]), N0, e0⟩
  · refine Goes.on (T' := T0) (g' := (mkF m 11 #[.val (.long x0), .second, .unset] [(.int (XT.cmpL x0 (24 : Int64)))])) (fun _ k => XS.ifNo X0.here hx rfl (hb hby d1_3) rfl (XT.ll_lt_f hc1) (XS.lloadN X0.here hx rfl (hb hby d1_6) rfl (X0.ldc2Long hx hown (mvT hZ (own_w hw 4 rfl)) (g := (mkF m 7 #[.val (.long x0), .second, .unset] [(.long x0)])) rfl (hb hby d1_7) _ (XT.lcmp X0.here hx rfl (hb hby d1_10) rfl k)))) ?_
    by_cases hc2 : x0 < (24 : Int64)
    · refine Goes.on (T' := T0) (g' := (mkF m 80 #[.val (.long x0), .second, .val (.int (1 : Int32))] [(.int (1 : Int32))])) (fun _ k => XS.ifNo X0.here hx rfl (hb hby d1_11) rfl (XT.ll_ge_f hc2) (XS.iconst X0.here hx rfl (hb hby d1_14) (XS.istoreN X0.here hx rfl (hb hby d1_15) rfl (l' := #[.val (.long x0), .second, .val (.int (1 : Int32))]) rfl (XS.goto X0.here hx rfl (pc0 := 16) (pc' := 79) rfl (hb hby d1_16) (by decide) (by decide) (XS.iloadN X0.here hx rfl (hb hby d1_79) rfl k))))) ?_
      exact Goes.retI X0 hx hlk hret (hb hby d1_80) (by decide) (by decide) ⟨(by unfold F1; rw [if_neg hc1, if_pos hc2]), N0, e0⟩
    · refine Goes.on (T' := T0) (g' := (mkF m 30 #[.val (.long x0), .second, .unset] [(.int (XT.cmpL x0 (255 : Int64)))])) (fun _ k => XS.ifYes X0.here hx rfl (pc0 := 11) (pc' := 19) rfl (hb hby d1_11) rfl (XT.ll_ge_t hc2) (by decide) (by decide) (XS.lloadN X0.here hx rfl (hb hby d1_19) rfl (XS.lconst X0.here hx rfl (hb hby d1_20) (XT.lcmp X0.here hx rfl (hb hby d1_21) rfl (XS.ifNo X0.here hx rfl (hb hby d1_22) rfl (XT.ll_lt_f hc1) (XS.lloadN X0.here hx rfl (hb hby d1_25) rfl (X0.ldc2Long hx hown (mvT hZ (own_w hw 10 rfl)) (g := (mkF m 26 #[.val (.long x0), .second, .unset] [(.long x0)])) rfl (hb hby d1_26) _ (XT.lcmp X0.here hx rfl (hb hby d1_29) rfl k)))))))) ?_
      by_cases hc3 : (255 : Int64) < x0
      · refine Goes.on (T' := T0) (g' := (mkF m 49 #[.val (.long x0), .second, .unset] [(.int (XT.cmpL x0 (65535 : Int64)))])) (fun _ k => XS.ifYes X0.here hx rfl (pc0 := 30) (pc' := 38) rfl (hb hby d1_30) rfl (XT.ll_gt_t hc3) (by decide) (by decide) (XS.lloadN X0.here hx rfl (hb hby d1_38) rfl (XS.lconst X0.here hx rfl (hb hby d1_39) (XT.lcmp X0.here hx rfl (hb hby d1_40) rfl (XS.ifNo X0.here hx rfl (hb hby d1_41) rfl (XT.ll_lt_f hc1) (XS.lloadN X0.here hx rfl (hb hby d1_44) rfl (X0.ldc2Long hx hown (mvT hZ (own_w hw 11 rfl)) (g := (mkF m 45 #[.val (.long x0), .second, .unset] [(.long x0)])) rfl (hb hby d1_45) _ (XT.lcmp X0.here hx rfl (hb hby d1_48) rfl k)))))))) ?_
        by_cases hc4 : (65535 : Int64) < x0
        · refine Goes.on (T' := T0) (g' := (mkF m 68 #[.val (.long x0), .second, .unset] [(.int (XT.cmpL x0 (4294967295 : Int64)))])) (fun _ k => XS.ifYes X0.here hx rfl (pc0 := 49) (pc' := 57) rfl (hb hby d1_49) rfl (XT.ll_gt_t hc4) (by decide) (by decide) (XS.lloadN X0.here hx rfl (hb hby d1_57) rfl (XS.lconst X0.here hx rfl (hb hby d1_58) (XT.lcmp X0.here hx rfl (hb hby d1_59) rfl (XS.ifNo X0.here hx rfl (hb hby d1_60) rfl (XT.ll_lt_f hc1) (XS.lloadN X0.here hx rfl (hb hby d1_63) rfl (X0.ldc2Long hx hown (mvT hZ (own_w hw 12 rfl)) (g := (mkF m 64 #[.val (.long x0), .second, .unset] [(.long x0)])) rfl (hb hby d1_64) _ (XT.lcmp X0.here hx rfl (hb hby d1_67) rfl k)))))))) ?_
          by_cases hc5 : (4294967295 : Int64) < x0
          · refine Goes.on (T' := T0) (g' := (mkF m 80 #[.val (.long x0), .second, .val (.int (9 : Int32))] [(.int (9 : Int32))])) (fun _ k => XS.ifYes X0.here hx rfl (pc0 := 68) (pc' := 76) rfl (hb hby d1_68) rfl (XT.ll_gt_t hc5) (by decide) (by decide) (XS.bipush X0.here hx rfl (hb hby d1_76) (XS.istoreN X0.here hx rfl (hb hby d1_78) rfl (l' := #[.val (.long x0), .second, .val (.int (9 : Int32))]) rfl (XS.iloadN X0.here hx rfl (hb hby d1_79) rfl k)))) ?_
            exact Goes.retI X0 hx hlk hret (hb hby d1_80) (by decide) (by decide) ⟨(by unfold F1; rw [if_neg hc1, if_neg hc2, if_pos hc3, if_pos hc4, if_pos hc5]), N0, e0⟩
          · refine Goes.on (T' := T0) (g' := (mkF m 80 #[.val (.long x0), .second, .val (.int (5 : Int32))] [(.int (5 : Int32))])) (fun _ k => XS.ifNo X0.here hx rfl (hb hby d1_68) rfl (XT.ll_gt_f hc5) (XS.iconst X0.here hx rfl (hb hby d1_71) (XS.istoreN X0.here hx rfl (hb hby d1_72) rfl (l' := #[.val (.long x0), .second, .val (.int (5 : Int32))]) rfl (XS.goto X0.here hx rfl (pc0 := 73) (pc' := 79) rfl (hb hby d1_73) (by decide) (by decide) (XS.iloadN X0.here hx rfl (hb hby d1_79) rfl k))))) ?_
            exact Goes.retI X0 hx hlk hret (hb hby d1_80) (by decide) (by decide) ⟨(by unfold F1; rw [if_neg hc1, if_neg hc2, if_pos hc3, if_pos hc4, if_neg hc5]), N0, e0⟩
        · refine Goes.on (T' := T0) (g' := (mkF m 80 #[.val (.long x0), .second, .val (.int (3 : Int32))] [(.int (3 : Int32))])) (fun _ k => XS.ifNo X0.here hx rfl (hb hby d1_49) rfl (XT.ll_gt_f hc4) (XS.iconst X0.here hx rfl (hb hby d1_52) (XS.istoreN X0.here hx rfl (hb hby d1_53) rfl (l' := #[.val (.long x0), .second, .val (.int (3 : Int32))]) rfl (XS.goto X0.here hx rfl (pc0 := 54) (pc' := 79) rfl (hb hby d1_54) (by decide) (by decide) (XS.iloadN X0.here hx rfl (hb hby d1_79) rfl k))))) ?_
          exact Goes.retI X0 hx hlk hret (hb hby d1_80) (by decide) (by decide) ⟨(by unfold F1; rw [if_neg hc1, if_neg hc2, if_pos hc3, if_neg hc4]), N0, e0⟩
      · refine Goes.on (T' := T0) (g' := (mkF m 80 #[.val (.long x0), .second, .val (.int (2 : Int32))] [(.int (2 : Int32))])) (fun _ k => XS.ifNo X0.here hx rfl (hb hby d1_30) rfl (XT.ll_gt_f hc3) (XS.iconst X0.here hx rfl (hb hby d1_33) (XS.istoreN X0.here hx rfl (hb hby d1_34) rfl (l' := #[.val (.long x0), .second, .val (.int (2 : Int32))]) rfl (XS.goto X0.here hx rfl (pc0 := 35) (pc' := 79) rfl (hb hby d1_35) (by decide) (by decide) (XS.iloadN X0.here hx rfl (hb hby d1_79) rfl k))))) ?_
        exact Goes.retI X0 hx hlk hret (hb hby d1_80) (by decide) (by decide) ⟨(by unfold F1; rw [if_neg hc1, if_neg hc2, if_neg hc3]), N0, e0⟩
theorem d2_0 : decode method_2_code 0 = .ok (.lload_n 0, 1) := by decide +kernel
theorem d2_1 : decode method_2_code 1 = .ok (.bipush 32, 2) := by decide +kernel
theorem d2_3 : decode method_2_code 3 = .ok (.lushr, 1) := by decide +kernel
theorem d2_4 : decode method_2_code 4 = .ok (.lconst 0, 1) := by decide +kernel
theorem d2_5 : decode method_2_code 5 = .ok (.lcmp, 1) := by decide +kernel
theorem d2_6 : decode method_2_code 6 = .ok (.ifCond .eq 6, 3) := by decide +kernel
theorem d2_12 : decode method_2_code 12 = .ok (.lload_n 0, 1) := by decide +kernel
theorem d2_13 : decode method_2_code 13 = .ok (.bipush 16, 2) := by decide +kernel
theorem d2_15 : decode method_2_code 15 = .ok (.lushr, 1) := by decide +kernel
theorem d2_16 : decode method_2_code 16 = .ok (.lconst 0, 1) := by decide +kernel
theorem d2_17 : decode method_2_code 17 = .ok (.lcmp, 1) := by decide +kernel
theorem d2_18 : decode method_2_code 18 = .ok (.ifCond .eq 5, 3) := by decide +kernel
theorem d2_23 : decode method_2_code 23 = .ok (.lload_n 0, 1) := by decide +kernel
theorem d2_24 : decode method_2_code 24 = .ok (.bipush 8, 2) := by decide +kernel
theorem d2_26 : decode method_2_code 26 = .ok (.lushr, 1) := by decide +kernel
theorem d2_27 : decode method_2_code 27 = .ok (.lconst 0, 1) := by decide +kernel
theorem d2_28 : decode method_2_code 28 = .ok (.lcmp, 1) := by decide +kernel
theorem d2_29 : decode method_2_code 29 = .ok (.ifCond .eq 5, 3) := by decide +kernel
theorem d2_34 : decode method_2_code 34 = .ok (.lload_n 0, 1) := by decide +kernel
theorem d2_35 : decode method_2_code 35 = .ok (.ldc2_w 7, 3) := by decide +kernel
theorem d2_38 : decode method_2_code 38 = .ok (.lcmp, 1) := by decide +kernel
theorem d2_39 : decode method_2_code 39 = .ok (.ifCond .lt 5, 3) := by decide +kernel
theorem d2_44 : decode method_2_code 44 = .ok (.iconst 1, 1) := by decide +kernel
theorem d2_45 : decode method_2_code 45 = .ok (.ireturn, 1) := by decide +kernel
theorem d2_42 : decode method_2_code 42 = .ok (.iconst 2, 1) := by decide +kernel
theorem d2_43 : decode method_2_code 43 = .ok (.ireturn, 1) := by decide +kernel
theorem d2_32 : decode method_2_code 32 = .ok (.iconst 3, 1) := by decide +kernel
theorem d2_33 : decode method_2_code 33 = .ok (.ireturn, 1) := by decide +kernel
theorem d2_21 : decode method_2_code 21 = .ok (.iconst 5, 1) := by decide +kernel
theorem d2_22 : decode method_2_code 22 = .ok (.ireturn, 1) := by decide +kernel
theorem d2_9 : decode method_2_code 9 = .ok (.bipush 9, 2) := by decide +kernel
theorem d2_11 : decode method_2_code 11 = .ok (.ireturn, 1) := by decide +kernel
theorem ef_1 (m : MethodId) (x0 : Int64) : entryFrame m #[(.long x0)] 2 = mkF m 0 #[.val (.long x0), .second] [] := by first | (simp [entryFrame, mkF, argsToLocals, Value.category]; done) | rfl
theorem pn_1 : plainName "com/example/arcbind/arcbind/CborHeadSizePinLaw" = true := by first | (simp [plainName, overriddenIn]; done) | decide +kernel
def F2 (x0 : Int64) : Int32 := (if (x0.toUInt64 >>> ((32 : Int32) &&& 0x3f).toInt64.toUInt64).toInt64 = (0 : Int64) then (if (x0.toUInt64 >>> ((16 : Int32) &&& 0x3f).toInt64.toUInt64).toInt64 = (0 : Int64) then (if (x0.toUInt64 >>> ((8 : Int32) &&& 0x3f).toInt64.toUInt64).toInt64 = (0 : Int64) then (if x0 < (24 : Int64) then (1 : Int32) else (2 : Int32)) else (3 : Int32)) else (5 : Int32)) else (9 : Int32))
set_option maxRecDepth 65536 in
set_option maxHeartbeats 40000000 in
theorem rm2 (l : Launch) (Z : State) (a0 : Array Value) (hw : ∀ d ∈ tables_1, d.before a0 Z = true) (x0 : Int64) (h0 : Heap) (n0 : Nat) (Z0 : n0 ≤ h0.size) :
    Pays l Z (⟨"com/example/arcbind/arcbind/CborHeadSizePinLaw", "reference", "(J)I"⟩ : MethodName) method_2_code 2 (some .int) [] ({ frames := 0, cells := 0, slots := 0, locals := 0 } : Room) #[(.long x0)] h0 (fun v h L => v = some (.int (F2 x0)) ∧ Fr n0 L ∧ h = h0) := by
  refine Pays.walk (plainFor_of_name pn_1) (fun m => ef_1 m x0 ) ?_
  intro p e s m below meth c T0 X0 hx hby hml hown hnm hZ e0 hret hlk
  have N0 := Fr.nil n0
  refine Goes.on (T' := T0) (g' := (mkF m 6 #[.val (.long x0), .second] [(.int (XT.cmpL (x0.toUInt64 >>> ((32 : Int32) &&& 0x3f).toInt64.toUInt64).toInt64 (0 : Int64)))])) (fun _ k => XS.lloadN X0.here hx rfl (hb hby d2_0) rfl (XS.bipush X0.here hx rfl (hb hby d2_1) (XS.lushr X0.here hx rfl (hb hby d2_3) rfl (XS.lconst X0.here hx rfl (hb hby d2_4) (XT.lcmp X0.here hx rfl (hb hby d2_5) rfl k))))) ?_
  by_cases hc1 : (x0.toUInt64 >>> ((32 : Int32) &&& 0x3f).toInt64.toUInt64).toInt64 = (0 : Int64)
  · refine Goes.on (T' := T0) (g' := (mkF m 18 #[.val (.long x0), .second] [(.int (XT.cmpL (x0.toUInt64 >>> ((16 : Int32) &&& 0x3f).toInt64.toUInt64).toInt64 (0 : Int64)))])) (fun _ k => XS.ifYes X0.here hx rfl (pc0 := 6) (pc' := 12) rfl (hb hby d2_6) rfl (XT.ll_eq_t hc1) (by decide) (by decide) (XS.lloadN X0.here hx rfl (hb hby d2_12) rfl (XS.bipush X0.here hx rfl (hb hby d2_13) (XS.lushr X0.here hx rfl (hb hby d2_15) rfl (XS.lconst X0.here hx rfl (hb hby d2_16) (XT.lcmp X0.here hx rfl (hb hby d2_17) rfl k)))))) ?_
    by_cases hc2 : (x0.toUInt64 >>> ((16 : Int32) &&& 0x3f).toInt64.toUInt64).toInt64 = (0 : Int64)
    · refine Goes.on (T' := T0) (g' := (mkF m 29 #[.val (.long x0), .second] [(.int (XT.cmpL (x0.toUInt64 >>> ((8 : Int32) &&& 0x3f).toInt64.toUInt64).toInt64 (0 : Int64)))])) (fun _ k => XS.ifYes X0.here hx rfl (pc0 := 18) (pc' := 23) rfl (hb hby d2_18) rfl (XT.ll_eq_t hc2) (by decide) (by decide) (XS.lloadN X0.here hx rfl (hb hby d2_23) rfl (XS.bipush X0.here hx rfl (hb hby d2_24) (XS.lushr X0.here hx rfl (hb hby d2_26) rfl (XS.lconst X0.here hx rfl (hb hby d2_27) (XT.lcmp X0.here hx rfl (hb hby d2_28) rfl k)))))) ?_
      by_cases hc3 : (x0.toUInt64 >>> ((8 : Int32) &&& 0x3f).toInt64.toUInt64).toInt64 = (0 : Int64)
      · refine Goes.on (T' := T0) (g' := (mkF m 39 #[.val (.long x0), .second] [(.int (XT.cmpL x0 (24 : Int64)))])) (fun _ k => XS.ifYes X0.here hx rfl (pc0 := 29) (pc' := 34) rfl (hb hby d2_29) rfl (XT.ll_eq_t hc3) (by decide) (by decide) (XS.lloadN X0.here hx rfl (hb hby d2_34) rfl (X0.ldc2Long hx hown (mvT hZ (own_w hw 9 rfl)) (g := (mkF m 35 #[.val (.long x0), .second] [(.long x0)])) rfl (hb hby d2_35) _ (XT.lcmp X0.here hx rfl (hb hby d2_38) rfl k)))) ?_
        by_cases hc4 : x0 < (24 : Int64)
        · refine Goes.on (T' := T0) (g' := (mkF m 45 #[.val (.long x0), .second] [(.int (1 : Int32))])) (fun _ k => XS.ifYes X0.here hx rfl (pc0 := 39) (pc' := 44) rfl (hb hby d2_39) rfl (XT.ll_lt_t hc4) (by decide) (by decide) (XS.iconst X0.here hx rfl (hb hby d2_44) k)) ?_
          exact Goes.retI X0 hx hlk hret (hb hby d2_45) (by decide) (by decide) ⟨(by unfold F2; rw [if_pos hc1, if_pos hc2, if_pos hc3, if_pos hc4]), N0, e0⟩
        · refine Goes.on (T' := T0) (g' := (mkF m 43 #[.val (.long x0), .second] [(.int (2 : Int32))])) (fun _ k => XS.ifNo X0.here hx rfl (hb hby d2_39) rfl (XT.ll_lt_f hc4) (XS.iconst X0.here hx rfl (hb hby d2_42) k)) ?_
          exact Goes.retI X0 hx hlk hret (hb hby d2_43) (by decide) (by decide) ⟨(by unfold F2; rw [if_pos hc1, if_pos hc2, if_pos hc3, if_neg hc4]), N0, e0⟩
      · refine Goes.on (T' := T0) (g' := (mkF m 33 #[.val (.long x0), .second] [(.int (3 : Int32))])) (fun _ k => XS.ifNo X0.here hx rfl (hb hby d2_29) rfl (XT.ll_eq_f hc3) (XS.iconst X0.here hx rfl (hb hby d2_32) k)) ?_
        exact Goes.retI X0 hx hlk hret (hb hby d2_33) (by decide) (by decide) ⟨(by unfold F2; rw [if_pos hc1, if_pos hc2, if_neg hc3]), N0, e0⟩
    · refine Goes.on (T' := T0) (g' := (mkF m 22 #[.val (.long x0), .second] [(.int (5 : Int32))])) (fun _ k => XS.ifNo X0.here hx rfl (hb hby d2_18) rfl (XT.ll_eq_f hc2) (XS.iconst X0.here hx rfl (hb hby d2_21) k)) ?_
      exact Goes.retI X0 hx hlk hret (hb hby d2_22) (by decide) (by decide) ⟨(by unfold F2; rw [if_pos hc1, if_neg hc2]), N0, e0⟩
  · refine Goes.on (T' := T0) (g' := (mkF m 11 #[.val (.long x0), .second] [(.int (9 : Int32))])) (fun _ k => XS.ifNo X0.here hx rfl (hb hby d2_6) rfl (XT.ll_eq_f hc1) (XS.bipush X0.here hx rfl (hb hby d2_9) k)) ?_
    exact Goes.retI X0 hx hlk hret (hb hby d2_11) (by decide) (by decide) ⟨(by unfold F2; rw [if_neg hc1]), N0, e0⟩
theorem own_z (y : Int64) : y = 0 ↔ y.toInt = 0 := ⟨fun h => by rw [h]; rfl, fun h => Int64.toInt_inj.mp (by rw [h]; rfl)⟩
theorem own_same (a : Int64) : F1 a = F2 a := by
  have s32 := c_lushr a (32 : Int32) 32 (by decide) (by decide)
  have s16 := c_lushr a (16 : Int32) 16 (by decide) (by decide)
  have s8 := c_lushr a (8 : Int32) 8 (by decide) (by decide)
  have r := rng64 a
  have k0 : (0 : Int64).toInt = 0 := rfl
  have k1 : (24 : Int64).toInt = 24 := rfl
  have k2 : (255 : Int64).toInt = 255 := rfl
  have k3 : (65535 : Int64).toInt = 65535 := rfl
  have k4 : (4294967295 : Int64).toInt = 4294967295 := rfl
  unfold F1 F2
  simp only [own_z, Int64.lt_iff_toInt_lt, s32, s16, s8, k0, k1, k2, k3, k4]
  repeat' split
  all_goals first | rfl | (exfalso; omega)

theorem pd_0 : parseMethodDescriptor "(J)I" = some ⟨[.long], some .int⟩ := by decide +kernel
theorem ef_2 (m : MethodId) (x0 : Int64) (x1 : Int32) : entryFrame m #[(.long x0), (.int x1)] maxLocals = mkF m 0 #[.val (.long x0), .second, .val (.int x1), .unset, .unset] [] := by first | (simp [entryFrame, mkF, argsToLocals, Value.category, maxLocals]; done) | rfl
set_option maxRecDepth 65536 in
set_option maxHeartbeats 40000000 in
theorem rm0 (l : Launch) (Z : State) (a0 : Array Value) (hw : ∀ d ∈ tables_1, d.before a0 Z = true) (x0 : Int64) (x1 : Int32) (h0 : Heap) (n0 : Nat) (Z0 : n0 ≤ h0.size) :
    Pays l Z x code maxLocals ret tables_1 room_1 #[(.long x0), (.int x1)] h0 (fun v h L => v = some (.int (1 : Int32)) ∧ Fr n0 L) := by
  refine Pays.walk (plainFor_of_name pn_1) (fun m => ef_2 m x0 x1 ) ?_
  intro p e s m below meth c T0 X0 hx hby hml hown hnm hZ e0 hret hlk
  have hown : s.vm.findClass "com/example/arcbind/arcbind/CborHeadSizePinLaw" = some m.cls := hown
  have N0 := Fr.nil n0
  refine Goes.on (T' := T0) (g' := (mkF m 8 #[.val (.long x0), .second, .val (.int x1), .val (.long ((x0.toUInt64 >>> ((x1 &&& (63 : Int32)) &&& 0x3f).toInt64.toUInt64).toInt64)), .second] [(.long ((x0.toUInt64 >>> ((x1 &&& (63 : Int32)) &&& 0x3f).toInt64.toUInt64).toInt64))])) (fun _ k => XS.lloadN X0.here hx rfl (hb hby at_0) rfl (XS.iloadN X0.here hx rfl (hb hby at_1) rfl (XS.bipush X0.here hx rfl (hb hby at_2) (XS.iand X0.here hx rfl (hb hby at_4) rfl (XS.lushr X0.here hx rfl (hb hby at_5) rfl (XS.lstoreN X0.here hx rfl (hb hby at_6) rfl (l' := #[.val (.long x0), .second, .val (.int x1), .val (.long ((x0.toUInt64 >>> ((x1 &&& (63 : Int32)) &&& 0x3f).toInt64.toUInt64).toInt64)), .second]) rfl (XS.lloadN X0.here hx rfl (hb hby at_7) rfl k))))))) ?_
  refine Goes.callS X0 hx hZ 0 hown (own_w hw 0 rfl) (own_w hw 1 rfl) (own_w hw 2 rfl) (own_w hw 3 rfl) (by decide) e0 (rm1 l Z a0 hw (x0.toUInt64 >>> ((x1 &&& (63 : Int32)) &&& 0x3f).toInt64.toUInt64).toInt64 h0 n0 Z0) (by decide) (by decide) (by decide) (by decide) rfl (by rw [hml]; rfl) (argsL := [(.long ((x0.toUInt64 >>> ((x1 &&& (63 : Int32)) &&& 0x3f).toInt64.toUInt64).toInt64))]) (rest := []) rfl (lenOf pd_0 rfl) rfl (by show 2 * 0 + _ ≤ _; exact Nat.le_of_eq rfl) (hb hby at_8) ?_
  intro v1 T1 L1 X1 hQ1
  obtain ⟨rfl, N1q, e1⟩ := hQ1
  have N1 := Fr.app N0 N1q
  show Goes p e below _ T1 (mkF m 11 #[.val (.long x0), .second, .val (.int x1), .val (.long ((x0.toUInt64 >>> ((x1 &&& (63 : Int32)) &&& 0x3f).toInt64.toUInt64).toInt64)), .second] [(.int (F1 (x0.toUInt64 >>> ((x1 &&& (63 : Int32)) &&& 0x3f).toInt64.toUInt64).toInt64))])
  refine Goes.on (T' := T1) (g' := (mkF m 12 #[.val (.long x0), .second, .val (.int x1), .val (.long ((x0.toUInt64 >>> ((x1 &&& (63 : Int32)) &&& 0x3f).toInt64.toUInt64).toInt64)), .second] [(.long ((x0.toUInt64 >>> ((x1 &&& (63 : Int32)) &&& 0x3f).toInt64.toUInt64).toInt64)), (.int (F1 (x0.toUInt64 >>> ((x1 &&& (63 : Int32)) &&& 0x3f).toInt64.toUInt64).toInt64))])) (fun _ k => XS.lloadN X1.here hx rfl (hb hby at_11) rfl k) ?_
  refine Goes.callS X1 hx hZ 1 hown (own_w hw 5 rfl) (own_w hw 6 rfl) (own_w hw 7 rfl) (own_w hw 8 rfl) (by decide) e1 (rm2 l Z a0 hw (x0.toUInt64 >>> ((x1 &&& (63 : Int32)) &&& 0x3f).toInt64.toUInt64).toInt64 h0 n0 Z0) (by decide) (by decide) (by decide) (by decide) rfl (by rw [hml]; rfl) (argsL := [(.long ((x0.toUInt64 >>> ((x1 &&& (63 : Int32)) &&& 0x3f).toInt64.toUInt64).toInt64))]) (rest := [(.int (F1 (x0.toUInt64 >>> ((x1 &&& (63 : Int32)) &&& 0x3f).toInt64.toUInt64).toInt64))]) rfl (lenOf pd_0 rfl) rfl (by show 2 * 0 + _ ≤ _; exact Nat.le_of_eq rfl) (hb hby at_12) ?_
  intro v2 T2 L2 X2 hQ2
  obtain ⟨rfl, N2q, e2⟩ := hQ2
  have N2 := Fr.app N1 N2q
  show Goes p e below _ T2 (mkF m 15 #[.val (.long x0), .second, .val (.int x1), .val (.long ((x0.toUInt64 >>> ((x1 &&& (63 : Int32)) &&& 0x3f).toInt64.toUInt64).toInt64)), .second] [(.int (F2 (x0.toUInt64 >>> ((x1 &&& (63 : Int32)) &&& 0x3f).toInt64.toUInt64).toInt64)), (.int (F1 (x0.toUInt64 >>> ((x1 &&& (63 : Int32)) &&& 0x3f).toInt64.toUInt64).toInt64))])
  refine Goes.on (T' := T2) (g' := (mkF m 23 #[.val (.long x0), .second, .val (.int x1), .val (.long ((x0.toUInt64 >>> ((x1 &&& (63 : Int32)) &&& 0x3f).toInt64.toUInt64).toInt64)), .second] [(.int (1 : Int32))])) (fun _ k => XS.icmpNo X2.here hx rfl (hb hby at_15) rfl (XT.ii_ne_f (own_same _)) (XS.iconst X2.here hx rfl (hb hby at_18) (XS.goto X2.here hx rfl (pc0 := 19) (pc' := 23) rfl (hb hby at_19) (by decide) (by decide) k))) ?_
  exact Goes.retB X2 hx hlk hret (Or.inr rfl) (hb hby at_23) (by decide) (by decide) ⟨rfl, N2⟩
set_option maxRecDepth 65536 in
set_option maxHeartbeats 40000000 in
theorem comes_1 {Post : Tables → Env → Array Value → State → Outcome → State → Prop} (hpost : ∀ tb e args s v u, (limb_1_1.after args s (.returned v) u = true ∧ limb_1_2.after args s (.returned v) u = true ∧ True) → FrameEnd s (.returned v) u (Jvm.fieldLocs frame_1_writes args s ++ Jvm.arrayLocs frame_1_arrays args s ++ Jvm.staticLocs frame_1_statics s) 0 0 → Post tb e args s (.returned v) u) :
    ArmFor flags0 classFile x code maxLocals ret World_1 tables_1 room_1 Calls_1 rest_1 Pre_1 Post := by
  intro l hfl _ _ p e ha hc hk s m args below hf hA hF happ hP
  obtain ⟨hcalls, hrest, hpre⟩ := hP
  obtain ⟨-, -, -, hnamed, -, -, -, hat⟩ := (Spec.applies_iff hf).mp happ
  obtain ⟨hg, hn⟩ := and_e (Cond.before_iff.mp (show (Jvm.Cond.and given_1 narrow_1).before args s = true from hpre))
  obtain ⟨g0, r0⟩ := and_e hg
  obtain ⟨g1, r1⟩ := and_e r0
  obtain ⟨w0, w1, rfl⟩ : ∃ w0 w1 : Value, args = #[w0, w1] := by
    have hs : args.size = 2 := by simpa [Cond.value, given_1] using g0
    obtain ⟨L⟩ := args
    match L, hs with
    | [w0, w1], _ => exact ⟨w0, w1, rfl⟩
  have hw := fun d (hd : d ∈ tables_1) => atoms_spec (ws := Jvm.Cond.code x code maxLocals ret :: tables_1) hat d (List.mem_cons_of_mem _ hd)
  have hfit : Fit s := fun {y c} hc i hi => by
    obtain ⟨ha, rfl⟩ := Array.getElem?_eq_some_iff.mp hc
    have q := List.all_eq_true.mp ((Array.all_eq_true_iff_forall_mem.mp hF) _ (Array.getElem_mem ha)) i (List.mem_range.mpr hi)
    simpa [Array.getElem?_eq_getElem hi] using q
  obtain ⟨i0, ei0⟩ := isL_v g1
  obtain rfl : w0 = (.long i0) := Option.some.inj ei0
  obtain ⟨i1, ei1⟩ := is_v r1
  obtain rfl : w1 = (.int i1) := Option.some.inj ei1
  obtain ⟨n, o, h1, h2, h3, _, L, rfl, ⟨rfl, N⟩, hq⟩ := rm0 l s _ hw i0 i1 s.heap s.heap.size (Nat.le_refl _)  p e ha hc hk s m _ below hf ((Spec.applies_iff_loose hf).mp happ).1 ⟨rfl, State.Warmed39.refl s, rfl⟩ trivial
  refine ⟨n, _, h1, h2, h3, hpost _ _ _ _ _ _ ⟨Cond.after_iff.mpr rfl, Cond.after_iff.mpr (eq_i res_at (Term.int_eval (1)) rfl), trivial⟩ ⟨hq.1, hq.2.1, (hq.2.2.sift fun y hy => Or.inr (N y hy)).mono (by decide) (by decide)⟩⟩
theorem main_1_1 : Claimed_1_1 := comes_1 fun _ _ _ _ _ _ h hF => ⟨h.1, hF⟩
theorem main_1_2 : Claimed_1_2 := comes_1 fun _ _ _ _ _ _ h hF => ⟨h.2.1, hF⟩

end Jvm.Pilot.@@N@@
namespace Jvm.Pilot.@@N@@
open Jvm Jvm.ClassFile Sem Op Lib Jvm.Free Jvm.Stand Jvm.Pilot.@@N@@.Jvm.D
/-! MADE BY PROGRAM (witnessworld.py) out of the Statement's table words and the real class files: 9 classes; the members and pool entries that the words name. The judged class is class 1, her method 2. -/
namespace start1
open Jvm.ClassFile
def u (s : String) : CpInfo := .utf8 (stringToUtf16 s)
/-- a pool by its gaps: so many unusable entries, then the entry; so many at the end -/
def gap : Nat → List CpInfo → List CpInfo
  | 0, r => r
  | n + 1, r => .unusable :: gap n r
def poolList (es : List (Nat × CpInfo)) (last : Nat) : List CpInfo := es.foldr (fun e r => gap e.1 (e.2 :: r)) (gap last [])
def pool (es : List (Nat × CpInfo)) (last : Nat) : Array CpInfo := ⟨poolList es last⟩
def fileOf (pool : Array CpInfo) (this : Nat) (attrs : Array Attribute := #[]) (ms : Array MethodInfo := #[]) (fl : Nat := 33) (sup : Nat := 0) (ifs : Array Nat := #[]) (fds : Array FieldInfo := #[]) : ClassFile where
  minorVersion := 0
  majorVersion := 65
  constantPool := pool
  accessFlags := fl
  thisClass := this
  superClass := sup
  interfaces := ifs
  fields := fds
  methods := ms
  attributes := attrs
def plain (name : String) (sup : Option ClassId) : Class where
  name := name
  kind := .ordinary
  loader := none
  accessFlags := 33
  super := sup
  interfaces := #[]
  cf := none
  fields := #[]
  methods := #[]
  instanceTypes := #[]
  staticTypes := #[]
  resolved := #[]
  callSites := []
  init := .initialized
  statics := none
  mirror := none

def pool0 : Array CpInfo := pool [(5, u "<init>"), (0, u "()V"), (1, .class_ 10), (1, u "java/lang/Object")] 113

def k0m0 : Method := { name := "<init>", desc := "()V", sig := { parameters := [], returnType := none }, accessFlags := 1, code := none }
/-- java/lang/Object -/
def k0 : Class := { plain "java/lang/Object" none with
  accessFlags := 33
  interfaces := #[]
  cf := some (fileOf pool0 8 #[] #[{ accessFlags := 1, nameIndex := 5, descriptorIndex := 6, attributes := #[] }] 33 0 #[] #[])
  fields := #[]
  methods := #[k0m0]
  instanceTypes := #[]
  staticTypes := #[]
  resolved := Array.replicate 124 none
  statics := none }

def pool1 : Array CpInfo := pool [(2, .class_ 4), (1, u "java/lang/Object"), (0, u "<init>"), (0, u "()V"), (0, .long 24), (1, .methodref 10 11), (0, .class_ 12), (0, .nameAndType 13 14), (0, u "com/example/arcbind/arcbind/Cbor"), (0, u "headSize"), (0, u "(J)I"), (0, .methodref 16 17), (0, .class_ 18), (0, .nameAndType 19 14), (0, u "com/example/arcbind/arcbind/CborHeadSizePinLaw"), (0, u "reference"), (3, u "law"), (0, u "(JI)Z")] 2

def k1m0 : Method := { name := "<init>", desc := "()V", sig := { parameters := [], returnType := none }, accessFlags := 2, code := none }
def k1c1 : Code := { maxStack := 4, maxLocals := 2, code := method_2_code, exceptionTable := #[], attributes := #[] }
def k1m1 : Method := { name := "reference", desc := "(J)I", sig := { parameters := [.long], returnType := some .int }, accessFlags := 10, code := some k1c1 }
def k1c2 : Code := { maxStack := 4, maxLocals := 5, code := code, exceptionTable := #[], attributes := #[] }
def k1m2 : Method := { name := "law", desc := "(JI)Z", sig := { parameters := [.long, .int], returnType := some .boolean }, accessFlags := 9, code := some k1c2 }
/-- com/example/arcbind/arcbind/CborHeadSizePinLaw -/
def k1 : Class := { plain "com/example/arcbind/arcbind/CborHeadSizePinLaw" (some 0) with
  accessFlags := 49
  interfaces := #[]
  cf := some (fileOf pool1 16 #[] #[{ accessFlags := 2, nameIndex := 5, descriptorIndex := 6, attributes := #[] }, { accessFlags := 10, nameIndex := 19, descriptorIndex := 14, attributes := #[] }, { accessFlags := 9, nameIndex := 23, descriptorIndex := 24, attributes := #[] }] 49 2 #[] #[])
  fields := #[]
  methods := #[k1m0, k1m1, k1m2]
  instanceTypes := #[]
  staticTypes := #[]
  resolved := Array.replicate 27 none
  statics := none }

def pool2 : Array CpInfo := pool [(2, .class_ 4), (1, u "java/lang/Object"), (0, u "<init>"), (0, u "()V"), (0, .class_ 8), (0, u "com/example/arcbind/arcbind/Cbor"), (0, .long 24), (1, .long 255), (1, .long 65535), (1, .long 4294967295), (3, u "headSize"), (0, u "(J)I"), (0, u "UNSIGNED_INTEGER"), (0, u "I"), (2, u "NEGATIVE_INTEGER"), (1, u "BYTE_STRING"), (1, u "TEXT_STRING"), (1, u "ARRAY"), (1, u "MAP"), (1, u "TAG"), (1, u "SIMPLE_OR_FLOAT"), (1, u "INDEFINITE"), (1, u "BREAK"), (0, u "B"), (1, u "FIRST_TWO_BYTE_SIMPLE_VALUE"), (1, u "ONE_BYTE_ARGUMENT"), (1, u "TWO_BYTE_ARGUMENT"), (1, u "FOUR_BYTE_ARGUMENT"), (1, u "EIGHT_BYTE_ARGUMENT"), (9, .class_ 63), (0, u "com/example/arcbind/arcbind/Cbor$Place")] 2

def k2m0 : Method := { name := "<init>", desc := "()V", sig := { parameters := [], returnType := none }, accessFlags := 2, code := none }
def k2c1 : Code := { maxStack := 4, maxLocals := 3, code := prog_5_method_2_code, exceptionTable := #[], attributes := #[] }
def k2m1 : Method := { name := "headSize", desc := "(J)I", sig := { parameters := [.long], returnType := some .int }, accessFlags := 8, code := some k2c1 }
/-- com/example/arcbind/arcbind/Cbor -/
def k2 : Class := { plain "com/example/arcbind/arcbind/Cbor" (some 0) with
  accessFlags := 48
  interfaces := #[]
  cf := some (fileOf pool2 7 #[.nestMembers #[62]] #[{ accessFlags := 2, nameIndex := 5, descriptorIndex := 6, attributes := #[] }, { accessFlags := 8, nameIndex := 19, descriptorIndex := 20, attributes := #[] }] 48 2 #[] #[{ accessFlags := 24, nameIndex := 21, descriptorIndex := 22, attributes := #[] }, { accessFlags := 24, nameIndex := 25, descriptorIndex := 22, attributes := #[] }, { accessFlags := 24, nameIndex := 27, descriptorIndex := 22, attributes := #[] }, { accessFlags := 24, nameIndex := 29, descriptorIndex := 22, attributes := #[] }, { accessFlags := 24, nameIndex := 31, descriptorIndex := 22, attributes := #[] }, { accessFlags := 24, nameIndex := 33, descriptorIndex := 22, attributes := #[] }, { accessFlags := 24, nameIndex := 35, descriptorIndex := 22, attributes := #[] }, { accessFlags := 24, nameIndex := 37, descriptorIndex := 22, attributes := #[] }, { accessFlags := 24, nameIndex := 39, descriptorIndex := 22, attributes := #[] }, { accessFlags := 24, nameIndex := 41, descriptorIndex := 42, attributes := #[] }, { accessFlags := 24, nameIndex := 44, descriptorIndex := 22, attributes := #[] }, { accessFlags := 24, nameIndex := 46, descriptorIndex := 22, attributes := #[] }, { accessFlags := 24, nameIndex := 48, descriptorIndex := 22, attributes := #[] }, { accessFlags := 24, nameIndex := 50, descriptorIndex := 22, attributes := #[] }, { accessFlags := 24, nameIndex := 52, descriptorIndex := 22, attributes := #[] }])
  fields := #[{ name := "UNSIGNED_INTEGER", type := .int, accessFlags := 24, slot := 0, constantValue := 0 }, { name := "NEGATIVE_INTEGER", type := .int, accessFlags := 24, slot := 1, constantValue := 0 }, { name := "BYTE_STRING", type := .int, accessFlags := 24, slot := 2, constantValue := 0 }, { name := "TEXT_STRING", type := .int, accessFlags := 24, slot := 3, constantValue := 0 }, { name := "ARRAY", type := .int, accessFlags := 24, slot := 4, constantValue := 0 }, { name := "MAP", type := .int, accessFlags := 24, slot := 5, constantValue := 0 }, { name := "TAG", type := .int, accessFlags := 24, slot := 6, constantValue := 0 }, { name := "SIMPLE_OR_FLOAT", type := .int, accessFlags := 24, slot := 7, constantValue := 0 }, { name := "INDEFINITE", type := .int, accessFlags := 24, slot := 8, constantValue := 0 }, { name := "BREAK", type := .byte, accessFlags := 24, slot := 9, constantValue := 0 }, { name := "FIRST_TWO_BYTE_SIMPLE_VALUE", type := .int, accessFlags := 24, slot := 10, constantValue := 0 }, { name := "ONE_BYTE_ARGUMENT", type := .int, accessFlags := 24, slot := 11, constantValue := 0 }, { name := "TWO_BYTE_ARGUMENT", type := .int, accessFlags := 24, slot := 12, constantValue := 0 }, { name := "FOUR_BYTE_ARGUMENT", type := .int, accessFlags := 24, slot := 13, constantValue := 0 }, { name := "EIGHT_BYTE_ARGUMENT", type := .int, accessFlags := 24, slot := 14, constantValue := 0 }]
  methods := #[k2m0, k2m1]
  instanceTypes := #[]
  staticTypes := #[.int, .int, .int, .int, .int, .int, .int, .int, .int, .byte, .int, .int, .int, .int, .int]
  resolved := Array.replicate 66 none
  statics := none }

def pool3 : Array CpInfo := pool [(1, u "java/lang/Cloneable"), (0, .class_ 1), (0, u "java/lang/Object"), (0, .class_ 3)] 3

/-- java/lang/Cloneable -/
def k3 : Class := { plain "java/lang/Cloneable" (some 0) with
  accessFlags := 1537
  interfaces := #[]
  cf := some (fileOf pool3 2 #[] #[] 1537 4 #[] #[])
  fields := #[]
  methods := #[]
  instanceTypes := #[]
  staticTypes := #[]
  resolved := Array.replicate 8 none
  statics := none }

def pool4 : Array CpInfo := pool [(1, u "java/io/Serializable"), (0, .class_ 1), (0, u "java/lang/Object"), (0, .class_ 3)] 3

/-- java/io/Serializable -/
def k4 : Class := { plain "java/io/Serializable" (some 0) with
  accessFlags := 1537
  interfaces := #[]
  cf := some (fileOf pool4 2 #[] #[] 1537 4 #[] #[])
  fields := #[]
  methods := #[]
  instanceTypes := #[]
  staticTypes := #[]
  resolved := Array.replicate 8 none
  statics := none }

/-- the primitive byte -/
def k5 : Class := { plain "byte" none with kind := .primitive 'B', accessFlags := 0x411 }
/-- [B -/
def k6 : Class := { plain "[B" (some 0) with kind := .array 5 .byte, interfaces := #[3, 4], accessFlags := 1041 }

/-- the primitive int -/
def k7 : Class := { plain "int" none with kind := .primitive 'I', accessFlags := 0x411 }
/-- [I -/
def k8 : Class := { plain "[I" (some 0) with kind := .array 7 .int, interfaces := #[3, 4], accessFlags := 1041 }

def heap : Heap := #[]
def classes : Array Class := #[k0, k1, k2, k3, k4, k5, k6, k7, k8]
def interned : List (Array UInt16 × Addr) := []
def slotsUsed : Nat := 0
def theMethod : MethodId := ⟨1, 2⟩
def args0 : Array Value := #[.long 70000, .int 3]
def aboutOver (below : List Frame) : State where
  vm := { classes := classes, interned := interned.toArray }
  heap := heap
  slotsUsed := slotsUsed
  threads := #[{ frames := .invoking theMethod args0 :: below }]
def below0 : List Frame := [.native { method := ⟨0, 0⟩, args := #[] }]
def about1 : State := aboutOver below0
def p0 : Program := .bare "" "" ""
def e0 : Env := launch0.env 0 0 0
theorem w_frames : about1.frames = Frame.invoking theMethod args0 :: below0 := rfl
set_option maxRecDepth 65536 in
theorem w_args : argsFit about1.vm theMethod args0 = true := by decide +kernel
set_option maxRecDepth 65536 in
theorem w_heap : heapFits about1 = true := by decide +kernel
set_option maxRecDepth 65536 in
theorem w_runnable : about1.curStatus? = some .runnable := by decide +kernel
set_option maxRecDepth 65536 in
theorem w_alone : about1.alone = true := by decide +kernel
set_option maxRecDepth 65536 in
theorem w_named : about1.methodNamed? x = some theMethod := by decide +kernel
set_option maxRecDepth 65536 in
theorem w_hears : about1.hears theMethod below0 = true := by decide +kernel
set_option maxRecDepth 65536 in
theorem w_ripe : about1.ripe theMethod args0 below0 = true := by decide +kernel
theorem w_running : about1.status = .running := rfl
set_option maxRecDepth 65536 in
theorem w_room : about1.hasRoom e0.platform room_1 = true :=
  launch0.hasRoom_least _ room_1 (by decide +kernel) (by decide +kernel) (by decide +kernel) (by decide +kernel) (by decide +kernel) (by decide +kernel)
theorem allAtoms_all (ts : List Jvm.Cond) (a : Array Jvm.Value) (st : Jvm.State) : (allAtoms ts).before a st = ts.all (fun c => c.before a st) := by
  induction ts with
  | nil => rfl
  | cons c t ih =>
    show (Jvm.Cond.and c (allAtoms t)).before a st = _
    rw [Jvm.Cond.before_and, ih, List.all_cons]
def words1 : List Jvm.Cond := Jvm.Cond.code x code maxLocals ret :: tables_1
/-- a 'code' word, met by the world's own term for the bytes: nothing is compared byte by byte -/
theorem code_word {y : MethodName} {bytes : ByteArray} {mx : Nat} {rt : Option FieldType} {a : Array Value} {s : State} {m : MethodId} {meth : Method} {c : Code} (h1 : s.methodNamed? y = some m) (h2 : s.vm.method? m = some meth) (h3 : meth.code = some c) (h4 : c.code = bytes)
    (h5 : (c.maxLocals == mx && c.exceptionTable.isEmpty && decide (c.maxStack ≤ mostOperands) && decide (meth.sig.returnType = rt) && !meth.locks && decide (parseMethodDescriptor y.desc = some meth.sig)) = true) : (Jvm.Cond.code y bytes mx rt).before a s = true := by
  simp only [Bool.and_eq_true, beq_iff_eq, Bool.not_eq_true', decide_eq_true_eq] at h5
  obtain ⟨⟨⟨⟨⟨g1, g2⟩, g3⟩, g4⟩, g5⟩, g6⟩ := h5
  simp [Cond.before, Cond.holds, Cond.value, h1, h2, h3, h4, g1, g2, g3, g4, g5, g6]
def isCode : Jvm.Cond → Bool
  | .code _ _ _ _ => true
  | _ => false
theorem all_split {L : List Jvm.Cond} {P : Jvm.Cond → Bool} (h1 : L.all (fun c => isCode c || P c) = true) (h2 : ∀ c ∈ L.filter isCode, P c = true) : L.all P = true := by
  refine List.all_eq_true.mpr fun c hc => ?_
  have h := List.all_eq_true.mp h1 c hc
  rcases Bool.eq_false_or_eq_true (isCode c) with hi | hi
  · exact h2 c (List.mem_filter.mpr ⟨hc, hi⟩)
  · simpa [hi] using h
set_option maxRecDepth 65536 in
theorem w_c0 : (Jvm.Cond.code x code maxLocals ret).before args0 about1 = true := code_word (m := ⟨1, 2⟩) (meth := k1m2) (c := k1c2) (by decide +kernel) rfl rfl rfl (by decide +kernel)
set_option maxRecDepth 65536 in
theorem w_c1 : (Jvm.Cond.code ({ cls := "com/example/arcbind/arcbind/Cbor", name := "headSize", desc := "(J)I" } : Jvm.MethodName) prog_5_method_2_code (3 : Nat) (Option.some Jvm.ClassFile.FieldType.int)).before args0 about1 = true := code_word (m := ⟨2, 1⟩) (meth := k2m1) (c := k2c1) (by decide +kernel) rfl rfl rfl (by decide +kernel)
set_option maxRecDepth 65536 in
theorem w_c2 : (Jvm.Cond.code ({ cls := "com/example/arcbind/arcbind/CborHeadSizePinLaw", name := "reference", desc := "(J)I" } : Jvm.MethodName) method_2_code (2 : Nat) (Option.some Jvm.ClassFile.FieldType.int)).before args0 about1 = true := code_word (m := ⟨1, 1⟩) (meth := k1m1) (c := k1c1) (by decide +kernel) rfl rfl rfl (by decide +kernel)
def codes1 : List Jvm.Cond := [Jvm.Cond.code x code maxLocals ret, Jvm.Cond.code ({ cls := "com/example/arcbind/arcbind/Cbor", name := "headSize", desc := "(J)I" } : Jvm.MethodName) prog_5_method_2_code (3 : Nat) (Option.some Jvm.ClassFile.FieldType.int), Jvm.Cond.code ({ cls := "com/example/arcbind/arcbind/CborHeadSizePinLaw", name := "reference", desc := "(J)I" } : Jvm.MethodName) method_2_code (2 : Nat) (Option.some Jvm.ClassFile.FieldType.int)]
set_option maxRecDepth 65536 in
theorem codes_eq : words1.filter isCode = codes1 := rfl
theorem w_codes : ∀ c ∈ words1.filter isCode, c.before args0 about1 = true := by
  rw [codes_eq]
  intro c hc
  simp only [codes1, List.mem_cons, List.not_mem_nil, or_false] at hc
  rcases hc with rfl | rfl | rfl
  · exact w_c0
  · exact w_c1
  · exact w_c2
set_option maxRecDepth 65536 in
theorem w_t1 : words1.all (fun c => isCode c || c.before args0 about1) = true := by decide +kernel
theorem w_tables : (allAtoms (Jvm.Cond.code x code maxLocals ret :: tables_1)).before args0 about1 = true := by
  rw [allAtoms_all]
  show words1.all (fun c => c.before args0 about1) = true
  refine all_split ?_ w_codes
  rw [w_t1]
set_option maxRecDepth 65536 in
theorem w_case : (Jvm.Cond.and given_1 narrow_1).before args0 about1 = true := by decide +kernel
theorem w_applies : (headSpec (Jvm.Cond.code x code maxLocals ret :: tables_1) room_1).applies x e0.platform about1 = true :=
  (Spec.applies_iff w_frames).mpr ⟨w_running, w_runnable, w_alone, w_named, w_hears, w_ripe, w_room, w_tables⟩
theorem atStart : AtStart classFile x code maxLocals ret World_1 tables_1 room_1 Calls_1 rest_1 Pre_1 launch0 p0 e0 about1 theMethod args0 below0 :=
  ⟨lists_1, trivial, launch0.admits_env _ _ _, launch0.least_env, fairChoices_fair.cas, fairChoices_fair.clock, w_frames, w_args, w_heap, w_applies, trivial, trivial, w_case⟩
end start1
theorem witness_1 : WitnessClaimed_1 := ⟨start1.p0, start1.e0, start1.about1, start1.theMethod, start1.args0, start1.below0, start1.atStart⟩
end Jvm.Pilot.@@N@@
