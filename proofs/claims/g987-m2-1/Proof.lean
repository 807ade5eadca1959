import JvmDerived
import JvmDerived.Pilot.@@N@@Statement
import JvmDerived.Pilot.@@N@@Code
set_option linter.unusedVariables false
set_option linter.unusedSimpArgs false
namespace Jvm.Own
open Sem ClassFile Op Lib Jvm.Stand Jvm.Free Jvm.LawKit Jvm.RoadKit
/-- from the frame g, standing in T, the run ends in what P says -/
def Goes (p : Program) (e : Env) (below : List Frame) (P : Outcome → State → Prop) (T : State) (g : JFrame) : Prop :=
  ∃ s₂ o, Steps p.tables e below (T.setTop g) s₂ ∧ s₂.status = .running ∧ Ended s₂ below o ∧ P o s₂
/-- what a body leaves -/
abbrev Leaves (s : State) (Q : Option Value → Heap → List Loc → Prop) (C N : Nat) (o : Outcome) (U : State) : Prop := ∃ v L, o = .returned v ∧ Q v U.heap L ∧ FrameEnd s o U L C N
/-- a body's contract, asked at the arguments 'as' and the heap h0 -/
abbrev Pays (l : Launch) (Z : State) (y : MethodName) (bytes : ByteArray) (maxL : Nat) (ret : Option FieldType) (ws : List Jvm.Cond) (rm : Room) (as : Array Value) (h0 : Heap) (Q : Option Value → Heap → List Loc → Prop) : Prop :=
  MetFree l y (head1 (Jvm.Cond.code y bytes maxL ret :: ws) rm) (fun a U => a = as ∧ Z.Warmed39 U.vm ∧ U.heap = h0) (fun _ _ _ _ _ => True) (fun _ U o U' => ∃ v L, o = .returned v ∧ Q v U'.heap L ∧ FrameEnd U o U' L rm.cells rm.slots)
section Steps
variable {p : Program} {l : Launch} {e : Env} {R : Room} {s : State} {m : MethodId} {args : Array Value} {below : List Frame} {meth : Method} {c : Code} {T T' : State} {locs : List Loc} {cells slots : Nat} {Z : State} {a0 : Array Value} {h : Heap} {P : Outcome → State → Prop} {g g' : JFrame}
theorem Goes.on (st : ∀ t, Steps p.tables e below (T'.setTop g') t → Steps p.tables e below (T.setTop g) t) (k : Goes p e below P T' g') : Goes p e below P T g := by
  obtain ⟨s₂, o, h1, h2⟩ := k
  exact ⟨s₂, o, st _ h1, h2⟩
theorem Goes.joinB {fr : Int32 → JFrame} (k : ∀ z, (z = 0 ∨ z = 1) → Goes p e below P T' (fr z)) (u : (∀ z, (z = 0 ∨ z = 1) → Goes p e below P T' (fr z)) → Goes p e below P T g) : Goes p e below P T g := u k
theorem Goes.joinI {fr : Int32 → JFrame} (k : ∀ z, Goes p e below P T' (fr z)) (u : (∀ z, Goes p e below P T' (fr z)) → Goes p e below P T g) : Goes p e below P T g := u k
theorem Goes.joinJ {fr : Int64 → JFrame} (k : ∀ z, Goes p e below P T' (fr z)) (u : (∀ z, Goes p e below P T' (fr z)) → Goes p e below P T g) : Goes p e below P T g := u k
theorem Goes.joinR {fr : Addr → JFrame} (k : ∀ z, Goes p e below P T' (fr z)) (u : (∀ z, Goes p e below P T' (fr z)) → Goes p e below P T g) : Goes p e below P T g := u k
theorem Goes.joinT (X : Stand p l e R s m args below meth c T locs cells slots) {fr : Addr → JFrame} (k : ∀ z T', Stand p l e R s m args below meth c T' locs cells slots → T'.heap = h → Goes p e below P T' (fr z)) (u : (∀ z T', Stand p l e R s m args below meth c T' locs cells slots → T'.heap = h → Goes p e below P T' (fr z)) → Goes p e below P T g) : Goes p e below P T g := u k
theorem Goes.out {Q : Option Value → Heap → List Loc → Prop} {C N : Nat} (X : Stand p l e R s m args below meth c T locs cells slots) {v : Option Value} (hv : meth.sig.returnType = none → v = none) (hlk : meth.locks = false) (hc : cells ≤ C) (hs : slots ≤ N) (hq : Q v T.heap locs)
    (st : ∀ fs, (∀ (f : JFrame) (acts : List Action), f.method = m → f.locked = none → f.entered = [] → (doReturn e (T.setTop f) acts v).1 = T.setFrames fs) → Steps p.tables e below (T.setTop g) (T.setFrames fs)) : Goes p e below (Leaves s Q C N) T g := by
  obtain ⟨fs, hr, hrun, hended, hW, hsame⟩ := X.leave (v := v) hv hlk
  exact ⟨_, _, st fs hr, hrun, hended, v, locs, rfl, hq, ⟨_, rfl⟩, hW, hsame.mono hc hs⟩
theorem Goes.retV {Q : Option Value → Heap → List Loc → Prop} {C N : Nat} (X : Stand p l e R s m args below meth c T locs cells slots) (hx : p.tables.exec = Jvm.exec) (hlk : meth.locks = false) (hret : meth.sig.returnType = none) {pc : Nat} {Ls : Array Slot} (hd : decode c.code pc = .ok (.return_, 1)) (hc : cells ≤ C) (hs : slots ≤ N) (hq : Q none T.heap locs) :
    Goes p e below (Leaves s Q C N) T (mkF m pc Ls []) :=
  Goes.out X (fun _ => rfl) hlk hc hs hq fun _ hr => X.returnOut hx hret hd hr
theorem Goes.retW {Q : Option Value → Heap → List Loc → Prop} {C N : Nat} (X : Stand p l e R s m args below meth c T locs cells slots) (hx : p.tables.exec = Jvm.exec) (hlk : meth.locks = false) {t : FieldType} {i : Instr} {w : Value} (hret : meth.sig.returnType = some t) {pc : Nat} {Ls : Array Slot} {rest : List Value} (hn : narrow t w = w)
    (hi : (i = .ireturn ∧ (t = .int ∨ t = .boolean ∨ t = .byte ∨ t = .char ∨ t = .short) ∧ ∃ z, w = .int z) ∨ (i = .lreturn ∧ t = .long ∧ ∃ z, w = .long z) ∨ (i = .dreturn ∧ t = .double ∧ ∃ z, w = .double z) ∨ (i = .freturn ∧ t = .float ∧ ∃ z, w = .float z) ∨ (i = .areturn ∧ t.isReference = true ∧ w.isRef = true))
    (hd : decode c.code pc = .ok (i, 1)) (hc : cells ≤ C) (hs : slots ≤ N) (hq : Q (some w) T.heap locs) : Goes p e below (Leaves s Q C N) T (mkF m pc Ls (w :: rest)) :=
  Goes.out X (fun h => by rw [hret] at h; cases h) hlk hc hs hq fun _ hr => retOut X hx hret hn hi hd hr
theorem Goes.retI {Q : Option Value → Heap → List Loc → Prop} {C N : Nat} (X : Stand p l e R s m args below meth c T locs cells slots) (hx : p.tables.exec = Jvm.exec) (hlk : meth.locks = false) {z : Int32} (hret : meth.sig.returnType = some .int) {pc : Nat} {Ls : Array Slot} {rest : List Value} (hd : decode c.code pc = .ok (.ireturn, 1)) (hc : cells ≤ C) (hs : slots ≤ N) (hq : Q (some (.int z)) T.heap locs) :
    Goes p e below (Leaves s Q C N) T (mkF m pc Ls (.int z :: rest)) := Goes.retW X hx hlk hret rfl (Or.inl ⟨rfl, Or.inl rfl, _, rfl⟩) hd hc hs hq
theorem Goes.retB {Q : Option Value → Heap → List Loc → Prop} {C N : Nat} (X : Stand p l e R s m args below meth c T locs cells slots) (hx : p.tables.exec = Jvm.exec) (hlk : meth.locks = false) {z : Int32} (hret : meth.sig.returnType = some .boolean) {pc : Nat} {Ls : Array Slot} {rest : List Value} (hz : z = 0 ∨ z = 1) (hd : decode c.code pc = .ok (.ireturn, 1)) (hc : cells ≤ C) (hs : slots ≤ N) (hq : Q (some (.int z)) T.heap locs) :
    Goes p e below (Leaves s Q C N) T (mkF m pc Ls (.int z :: rest)) := Goes.retW X hx hlk hret (by rcases hz with rfl | rfl <;> rfl) (Or.inl ⟨rfl, Or.inr (Or.inl rfl), _, rfl⟩) hd hc hs hq
theorem Goes.retC {Q : Option Value → Heap → List Loc → Prop} {C N : Nat} (X : Stand p l e R s m args below meth c T locs cells slots) (hx : p.tables.exec = Jvm.exec) (hlk : meth.locks = false) {z : Int32} (hret : meth.sig.returnType = some .char) {pc : Nat} {Ls : Array Slot} {rest : List Value} (hz : nar .char z = z) (hd : decode c.code pc = .ok (.ireturn, 1)) (hc : cells ≤ C) (hs : slots ≤ N) (hq : Q (some (.int z)) T.heap locs) :
    Goes p e below (Leaves s Q C N) T (mkF m pc Ls (.int z :: rest)) := Goes.retW X hx hlk hret (by show Value.int (nar .char z) = _; rw [hz]) (Or.inl ⟨rfl, Or.inr (Or.inr (Or.inr (Or.inl rfl))), _, rfl⟩) hd hc hs hq
theorem Goes.retY {Q : Option Value → Heap → List Loc → Prop} {C N : Nat} (X : Stand p l e R s m args below meth c T locs cells slots) (hx : p.tables.exec = Jvm.exec) (hlk : meth.locks = false) {z : Int32} (hret : meth.sig.returnType = some .byte) {pc : Nat} {Ls : Array Slot} {rest : List Value} (hz : nar .byte z = z) (hd : decode c.code pc = .ok (.ireturn, 1)) (hc : cells ≤ C) (hs : slots ≤ N) (hq : Q (some (.int z)) T.heap locs) :
    Goes p e below (Leaves s Q C N) T (mkF m pc Ls (.int z :: rest)) := Goes.retW X hx hlk hret (by show Value.int (nar .byte z) = _; rw [hz]) (Or.inl ⟨rfl, Or.inr (Or.inr (Or.inl rfl)), _, rfl⟩) hd hc hs hq
theorem Goes.retJ {Q : Option Value → Heap → List Loc → Prop} {C N : Nat} (X : Stand p l e R s m args below meth c T locs cells slots) (hx : p.tables.exec = Jvm.exec) (hlk : meth.locks = false) {z : Int64} (hret : meth.sig.returnType = some .long) {pc : Nat} {Ls : Array Slot} {rest : List Value} (hd : decode c.code pc = .ok (.lreturn, 1)) (hc : cells ≤ C) (hs : slots ≤ N) (hq : Q (some (.long z)) T.heap locs) :
    Goes p e below (Leaves s Q C N) T (mkF m pc Ls (.long z :: rest)) := Goes.retW X hx hlk hret rfl (Or.inr (Or.inl ⟨rfl, rfl, _, rfl⟩)) hd hc hs hq
theorem Goes.retD {Q : Option Value → Heap → List Loc → Prop} {C N : Nat} (X : Stand p l e R s m args below meth c T locs cells slots) (hx : p.tables.exec = Jvm.exec) (hlk : meth.locks = false) {z : UInt64} (hret : meth.sig.returnType = some .double) {pc : Nat} {Ls : Array Slot} {rest : List Value} (hd : decode c.code pc = .ok (.dreturn, 1)) (hc : cells ≤ C) (hs : slots ≤ N) (hq : Q (some (.double z)) T.heap locs) :
    Goes p e below (Leaves s Q C N) T (mkF m pc Ls (.double z :: rest)) := Goes.retW X hx hlk hret rfl (Or.inr (Or.inr (Or.inl ⟨rfl, rfl, _, rfl⟩))) hd hc hs hq
theorem Goes.retA {Q : Option Value → Heap → List Loc → Prop} {C N : Nat} (X : Stand p l e R s m args below meth c T locs cells slots) (hx : p.tables.exec = Jvm.exec) (hlk : meth.locks = false) {w : Value} {t : FieldType} (hret : meth.sig.returnType = some t) (ht : t.isReference = true) (hw : w.isRef = true) {pc : Nat} {Ls : Array Slot} {rest : List Value} (hd : decode c.code pc = .ok (.areturn, 1)) (hc : cells ≤ C) (hs : slots ≤ N) (hq : Q (some w) T.heap locs) :
    Goes p e below (Leaves s Q C N) T (mkF m pc Ls (w :: rest)) := Goes.retW X hx hlk hret (by cases t <;> first | rfl | cases ht) (Or.inr (Or.inr (Or.inr (Or.inr ⟨rfl, ht, hw⟩)))) hd hc hs hq
/-- a body's contract out of its walk -/
theorem Pays.walk {y : MethodName} {bytes : ByteArray} {maxL : Nat} {ret : Option FieldType} {ws : List Jvm.Cond} {rm : Room} {as : Array Value} {h0 : Heap} {Q : Option Value → Heap → List Loc → Prop} {Ls : Array Slot}
    (hn : plainFor y = true) (hef : ∀ m, entryFrame m as maxL = mkF m 0 Ls [])
    (body : ∀ (p : Program) (e : Env) (s : State) (m : MethodId) (below : List Frame) (meth : Method) (c : Code) (T : State), Stand p l e rm s m as below meth c T [] 0 0 → p.tables.exec = Jvm.exec → c.code = bytes → c.maxLocals = maxL → s.vm.findClass y.cls = some m.cls → meth.name = y.name → Z.Warmed39 s.vm → T.heap = h0 → meth.sig.returnType = ret → meth.locks = false →
      Goes p e below (Leaves s Q rm.cells rm.slots) T (mkF m 0 Ls [])) : Pays l Z y bytes maxL ret ws rm as h0 Q := by
  refine MetFree.of_bodySF hn hisR ?_
  intro p e s m args below meth c s₁ Bd hml0 hP hK
  obtain ⟨rfl, hZ, hh⟩ := hP
  have X0 : Stand p l e rm s m args below meth c s₁ [] 0 0 := Stand.of_body Bd
  obtain ⟨s₂, o, h1, h2⟩ := body p e s m below meth c s₁ X0 Bd.exec Bd.bytes hml0 (findClass_of_methodNamed Bd.named) (name_of_methodNamed Bd.named Bd.method).1 hZ (by rw [← hh, Bd.state]; rfl) Bd.returns Bd.notSynchronized
  exact ⟨s₂, o, castTop (hef m) h1, h2⟩
/-- a static call by its contract -/
theorem Goes.callS (X : Stand p l e R s m args below meth c T locs cells slots) (hx : p.tables.exec = Jvm.exec) (hZ : Z.Warmed39 s.vm) {own : String} {index : Nat} {y : MethodName} {bytes : ByteArray} {maxL : Nat} {ret : Option FieldType} {rm : Room} {as' : Array Value} {Q : Option Value → Heap → List Loc → Prop} (W : Nat)
    (hown : s.vm.findClass own = some m.cls) (w1 : (Jvm.Cond.methodLink own index y).before a0 Z = true) (w2 : (Jvm.Cond.static y).before a0 Z = true) (w3 : (Jvm.Cond.initialized y.cls).before a0 Z = true) (w4 : (Jvm.Cond.code y bytes maxL ret).before a0 Z = true) (hy : y.cls ≠ "java/lang/invoke/MethodHandle" ∧ y.cls ≠ "java/lang/invoke/VarHandle")
    (eT : T.heap = h) (hM : Pays l Z y bytes maxL ret [] rm as' h Q) (hf : rm.frames + 1 ≤ R.frames) (hl : W + (maxL + 11) + rm.locals ≤ R.locals) (hc : cells + rm.cells ≤ R.cells) (hs : slots + rm.slots ≤ R.slots)
    (hg : g.method = m) (hsize : g.locals.size = c.maxLocals) {argsL rest : List Value} (has : argsL.toArray = as') (hlen : ∀ sig, parseMethodDescriptor y.desc = some sig → argsL.length = sig.parameters.length) (hstack : g.stack = argsL.reverse ++ rest) (hW : 2 * g.monitorRoom + (rest.map fun v => v.category).sum ≤ W)
    (hd : decode c.code g.pc = .ok (.invokestatic index, 3))
    (k : ∀ v T' L, Stand p l e R s m args below meth c T' (locs ++ L) (cells + rm.cells) (slots + rm.slots) → Q v T'.heap L → Goes p e below P T' { g with pc := g.pc + 3, stack := v.toList ++ rest }) : Goes p e below P T g := by
  obtain ⟨v, _, ⟨T', L', k', n'⟩, -, X', ⟨Lc, hQ, l', y', z'⟩, st⟩ := Jvm.LawKit.callS X hx hown (mvT hZ w1) (mvT hZ w2) (mvT hZ w3) (mvT hZ w4) hy (backOf (W := W) hM hZ w4 w3 hf hl) hg hsize (argsL := argsL) (rest := rest) hlen hstack hW hd (fun _ _ => ⟨has, eT, hc, hs⟩)
  dsimp only [Pt.U, Pt.locs, Pt.cells, Pt.slots] at X' l' y' z' st hQ
  subst l' y' z'
  exact Goes.on st (k v T' Lc X' hQ)
/-- a constructor by its contract -/
theorem Goes.callC (X : Stand p l e R s m args below meth c T locs cells slots) (hx : p.tables.exec = Jvm.exec) (hZ : Z.Warmed39 s.vm) {own : String} {index : Nat} {y : MethodName} {bytes : ByteArray} {maxL : Nat} {rm : Room} {as' : Array Value} {Q : Option Value → Heap → List Loc → Prop} (W : Nat) (hy1 : y.name = "<init>")
    (hown : s.vm.findClass own = some m.cls) (w1 : (Jvm.Cond.methodLink own index y).before a0 Z = true) (w2 : (Jvm.Cond.instanceMethod y).before a0 Z = true) (w3 : (Jvm.Cond.initialized y.cls).before a0 Z = true) (w4 : (Jvm.Cond.code y bytes maxL none).before a0 Z = true) (hy : y.cls ≠ "java/lang/invoke/MethodHandle" ∧ y.cls ≠ "java/lang/invoke/VarHandle")
    (eT : T.heap = h) (hM : Pays l Z y bytes maxL none [] rm as' h Q) (hf : rm.frames + 1 ≤ R.frames) (hl : W + (maxL + 11) + rm.locals ≤ R.locals) (hc : cells + rm.cells ≤ R.cells) (hs : slots + rm.slots ≤ R.slots)
    (hg : g.method = m) (hsize : g.locals.size = c.maxLocals) {a : Addr} {argsL rest : List Value} (has : (Value.ref a :: argsL).toArray = as') (hlen : ∀ sig, parseMethodDescriptor y.desc = some sig → argsL.length = sig.parameters.length) (hstack : g.stack = argsL.reverse ++ .ref a :: rest) (hW : 2 * g.monitorRoom + (rest.map fun v => v.category).sum ≤ W)
    (hd : decode c.code g.pc = .ok (.invokespecial index, 3))
    (k : ∀ v T' L, Stand p l e R s m args below meth c T' (locs ++ L) (cells + rm.cells) (slots + rm.slots) → Q v T'.heap L → Goes p e below P T' { g with pc := g.pc + 3, stack := v.toList ++ rest }) : Goes p e below P T g := by
  obtain ⟨v, _, ⟨T', L', k', n'⟩, -, X', ⟨Lc, hQ, l', y', z'⟩, st⟩ := X.specialBack hx (y := y) hy1 hown (mvT hZ w1) (mvT hZ w2) (mvT hZ w4) hy (backOf (W := W) hM hZ w4 w3 hf hl) hg hsize (Steps.refl _) (a := a) (argsL := argsL) (rest := rest) hlen hstack hW hd (fun _ _ => ⟨has, eT, hc, hs⟩)
  dsimp only [Pt.U, Pt.locs, Pt.cells, Pt.slots] at X' l' y' z' st hQ
  subst l' y' z'
  exact Goes.on (fun _ q => st.trans q) (k v T' Lc X' hQ)
/-- an instance method by its contract, on an object of the class C -/
theorem Goes.callV (X : Stand p l e R s m args below meth c T locs cells slots) (hx : p.tables.exec = Jvm.exec) (hZ : Z.Warmed39 s.vm) {own C : String} {index : Nat} {y z : MethodName} {bytes : ByteArray} {maxL : Nat} {ret : Option FieldType} {rm : Room} {as' : Array Value} {Q : Option Value → Heap → List Loc → Prop} (W : Nat)
    (hown : s.vm.findClass own = some m.cls) (w1 : (Jvm.Cond.methodLink own index y).before a0 Z = true) (w2 : (Jvm.Cond.declares y).before a0 Z = true) (hnf : NotFace s y) (w5 : (Jvm.Cond.selects C y z).before a0 Z = true) (w6 : (Jvm.Cond.instanceMethod z).before a0 Z = true) (w3 : (Jvm.Cond.initialized z.cls).before a0 Z = true) (w4 : (Jvm.Cond.code z bytes maxL ret).before a0 Z = true) (hy : y.cls ≠ "java/lang/invoke/MethodHandle" ∧ y.cls ≠ "java/lang/invoke/VarHandle")
    (eT : T.heap = h) {a : Addr} (E : Exa Z h a C) (hM : Pays l Z z bytes maxL ret [] rm as' h Q) (hf : rm.frames + 1 ≤ R.frames) (hl : W + (maxL + 11) + rm.locals ≤ R.locals) (hc : cells + rm.cells ≤ R.cells) (hs : slots + rm.slots ≤ R.slots)
    (hg : g.method = m) (hsize : g.locals.size = c.maxLocals) {argsL rest : List Value} (has : (Value.ref a :: argsL).toArray = as') (hlen : ∀ sig, parseMethodDescriptor y.desc = some sig → argsL.length = sig.parameters.length) (hstack : g.stack = argsL.reverse ++ .ref a :: rest) (hW : 2 * g.monitorRoom + (rest.map fun v => v.category).sum ≤ W)
    (hd : decode c.code g.pc = .ok (.invokevirtual index, 3))
    (k : ∀ v T' L, Stand p l e R s m args below meth c T' (locs ++ L) (cells + rm.cells) (slots + rm.slots) → Q v T'.heap L → Goes p e below P T' { g with pc := g.pc + 3, stack := v.toList ++ rest }) : Goes p e below P T g := by
  obtain ⟨cq, kq, qa, qb, qc⟩ := isOf hZ eT E
  obtain ⟨v, _, ⟨T', L', k', n'⟩, -, X', ⟨Lc, hQ, l', y', z'⟩, st⟩ := X.virtualBack hx (y := y) (z := z) hown (mvT hZ w1) (mvT hZ w2) hnf (mvT hZ w5) (mvT hZ w6) hy (backOf (W := W) hM hZ w4 w3 hf hl) qa qc hg hsize (Steps.refl _) (argsL := argsL) (rest := rest) hlen hstack hW hd (fun _ _ => ⟨has, eT, hc, hs⟩)
  dsimp only [Pt.U, Pt.locs, Pt.cells, Pt.slots] at X' l' y' z' st hQ
  subst l' y' z'
  exact Goes.on (fun _ q => st.trans q) (k v T' Lc X' hQ)
/-- what a ready payer (Back) asks and gives -/
abbrev Payer (l : Launch) (R : Room) (p : Program) (e : Env) (below : List Frame) (s : State) (args : Array Value) (y : MethodName) (W : Nat) (as' : Array Value) (h : Heap) (C N : Nat) (Q : Option Value → Heap → List Loc → Prop) : Prop :=
  Back l R p e below s args y 3 W (fun A a => a = as' ∧ A.U.heap = h ∧ A.cells + C ≤ R.cells ∧ A.slots + N ≤ R.slots) (fun A _ v B => ∃ L, Q v B.U.heap L ∧ B.locs = A.locs ++ L ∧ B.cells = A.cells + C ∧ B.slots = A.slots + N)
theorem Goes.callVB (X : Stand p l e R s m args below meth c T locs cells slots) (hx : p.tables.exec = Jvm.exec) (hZ : Z.Warmed39 s.vm) {own C : String} {index : Nat} {y z : MethodName} {as' : Array Value} {Q : Option Value → Heap → List Loc → Prop} {W nc ns : Nat}
    (hown : s.vm.findClass own = some m.cls) (w1 : (Jvm.Cond.methodLink own index y).before a0 Z = true) (w2 : (Jvm.Cond.declares y).before a0 Z = true) (hnf : NotFace s y) (w5 : (Jvm.Cond.selects C y z).before a0 Z = true) (w6 : (Jvm.Cond.instanceMethod z).before a0 Z = true) (hy : y.cls ≠ "java/lang/invoke/MethodHandle" ∧ y.cls ≠ "java/lang/invoke/VarHandle")
    (eT : T.heap = h) {a : Addr} (E : Exa Z h a C) (hK : Payer l R p e below s args z W as' h nc ns Q) (hc : cells + nc ≤ R.cells) (hs : slots + ns ≤ R.slots)
    (hg : g.method = m) (hsize : g.locals.size = c.maxLocals) {argsL rest : List Value} (has : (Value.ref a :: argsL).toArray = as') (hlen : ∀ sig, parseMethodDescriptor y.desc = some sig → argsL.length = sig.parameters.length) (hstack : g.stack = argsL.reverse ++ .ref a :: rest) (hW : 2 * g.monitorRoom + (rest.map fun v => v.category).sum ≤ W)
    (hd : decode c.code g.pc = .ok (.invokevirtual index, 3))
    (k : ∀ v T' L, Stand p l e R s m args below meth c T' (locs ++ L) (cells + nc) (slots + ns) → Q v T'.heap L → Goes p e below P T' { g with pc := g.pc + 3, stack := v.toList ++ rest }) : Goes p e below P T g := by
  obtain ⟨cq, kq, qa, qb, qc⟩ := isOf hZ eT E
  obtain ⟨v, _, ⟨T', L', k', n'⟩, -, X', ⟨Lc, hQ, l', y', z'⟩, st⟩ := X.virtualBack hx (y := y) (z := z) hown (mvT hZ w1) (mvT hZ w2) hnf (mvT hZ w5) (mvT hZ w6) hy hK qa qc hg hsize (Steps.refl _) (argsL := argsL) (rest := rest) hlen hstack hW hd (fun _ _ => ⟨has, eT, hc, hs⟩)
  dsimp only [Pt.U, Pt.locs, Pt.cells, Pt.slots] at X' l' y' z' st hQ
  subst l' y' z'
  exact Goes.on (fun _ q => st.trans q) (k v T' Lc X' hQ)
theorem Goes.callCB (X : Stand p l e R s m args below meth c T locs cells slots) (hx : p.tables.exec = Jvm.exec) (hZ : Z.Warmed39 s.vm) {own : String} {index : Nat} {y : MethodName} {bytes : ByteArray} {maxL : Nat} {as' : Array Value} {Q : Option Value → Heap → List Loc → Prop} {W nc ns : Nat} (hy1 : y.name = "<init>")
    (hown : s.vm.findClass own = some m.cls) (w1 : (Jvm.Cond.methodLink own index y).before a0 Z = true) (w2 : (Jvm.Cond.instanceMethod y).before a0 Z = true) (w4 : (Jvm.Cond.code y bytes maxL none).before a0 Z = true) (hy : y.cls ≠ "java/lang/invoke/MethodHandle" ∧ y.cls ≠ "java/lang/invoke/VarHandle")
    (eT : T.heap = h) (hK : Payer l R p e below s args y W as' h nc ns Q) (hc : cells + nc ≤ R.cells) (hs : slots + ns ≤ R.slots)
    (hg : g.method = m) (hsize : g.locals.size = c.maxLocals) {a : Addr} {argsL rest : List Value} (has : (Value.ref a :: argsL).toArray = as') (hlen : ∀ sig, parseMethodDescriptor y.desc = some sig → argsL.length = sig.parameters.length) (hstack : g.stack = argsL.reverse ++ .ref a :: rest) (hW : 2 * g.monitorRoom + (rest.map fun v => v.category).sum ≤ W)
    (hd : decode c.code g.pc = .ok (.invokespecial index, 3))
    (k : ∀ v T' L, Stand p l e R s m args below meth c T' (locs ++ L) (cells + nc) (slots + ns) → Q v T'.heap L → Goes p e below P T' { g with pc := g.pc + 3, stack := v.toList ++ rest }) : Goes p e below P T g := by
  obtain ⟨v, _, ⟨T', L', k', n'⟩, -, X', ⟨Lc, hQ, l', y', z'⟩, st⟩ := X.specialBack hx (y := y) hy1 hown (mvT hZ w1) (mvT hZ w2) (mvT hZ w4) hy hK hg hsize (Steps.refl _) (a := a) (argsL := argsL) (rest := rest) hlen hstack hW hd (fun _ _ => ⟨has, eT, hc, hs⟩)
  dsimp only [Pt.U, Pt.locs, Pt.cells, Pt.slots] at X' l' y' z' st hQ
  subst l' y' z'
  exact Goes.on (fun _ q => st.trans q) (k v T' Lc X' hQ)
/-- a private instance method (invokevirtual) by its contract -/
theorem Goes.callP (X : Stand p l e R s m args below meth c T locs cells slots) (hx : p.tables.exec = Jvm.exec) (hZ : Z.Warmed39 s.vm) {own C : String} {index ni : Nat} {y : MethodName} {bytes : ByteArray} {maxL : Nat} {ret : Option FieldType} {rm : Room} {as' : Array Value} {Q : Option Value → Heap → List Loc → Prop} (W : Nat)
    (hown : s.vm.findClass own = some m.cls) (w1 : (Jvm.Cond.methodLink own index y).before a0 Z = true) (w6 : (Jvm.Cond.instanceMethod y).before a0 Z = true) (wp : (Jvm.Cond.privateMethod y).before a0 Z = true) (wi : (Jvm.Cond.instantiable y.cls ni).before a0 Z = true) (w3 : (Jvm.Cond.initialized y.cls).before a0 Z = true) (w4 : (Jvm.Cond.code y bytes maxL ret).before a0 Z = true) (hy : y.cls ≠ "java/lang/invoke/MethodHandle" ∧ y.cls ≠ "java/lang/invoke/VarHandle")
    (eT : T.heap = h) {a : Addr} (E : Exa Z h a C) (hM : Pays l Z y bytes maxL ret [] rm as' h Q) (hf : rm.frames + 1 ≤ R.frames) (hl : W + (maxL + 11) + rm.locals ≤ R.locals) (hc : cells + rm.cells ≤ R.cells) (hs : slots + rm.slots ≤ R.slots)
    (hg : g.method = m) (hsize : g.locals.size = c.maxLocals) {argsL rest : List Value} (has : (Value.ref a :: argsL).toArray = as') (hlen : ∀ sig, parseMethodDescriptor y.desc = some sig → argsL.length = sig.parameters.length) (hstack : g.stack = argsL.reverse ++ .ref a :: rest) (hW : 2 * g.monitorRoom + (rest.map fun v => v.category).sum ≤ W)
    (hd : decode c.code g.pc = .ok (.invokevirtual index, 3))
    (k : ∀ v T' L, Stand p l e R s m args below meth c T' (locs ++ L) (cells + rm.cells) (slots + rm.slots) → Q v T'.heap L → Goes p e below P T' { g with pc := g.pc + 3, stack := v.toList ++ rest }) : Goes p e below P T g := by
  obtain ⟨ce, hce, hst⟩ := E.cell
  have hp := Cond.privateMethod_at (args := args) (mvP hZ wp)
  obtain ⟨ci, ki, i1, i2, -, i4, -⟩ := Cond.instantiable_spec (mvT (args := args) hZ wi)
  have i5 : ki.isInterface = false := by cases hq : ki.isInterface <;> simp [hq] at i4 ⊢
  have hsel := selects_self_of_private (args := args) i1 i2 i5 hp (mvT hZ w6) hy
  obtain ⟨v, _, ⟨T', L', k', n'⟩, -, X', ⟨Lc, hQ, l', y', z'⟩, st⟩ := X.privateBack hx (y := y) hown (mvT hZ w1) (mvT hZ w6) hsel hp (mvT hZ w4) hy (backOf (W := W) hM hZ w4 w3 hf hl) hg hsize (Steps.refl _) (a := a) (cell := ce) (by rw [eT]; exact hce) hst (argsL := argsL) (rest := rest) hlen hstack hW hd (fun _ _ => ⟨has, eT, hc, hs⟩)
  dsimp only [Pt.U, Pt.locs, Pt.cells, Pt.slots] at X' l' y' z' st hQ
  subst l' y' z'
  exact Goes.on (fun _ q => st.trans q) (k v T' Lc X' hQ)
theorem eqInt {t : Jvm.Term} {i : Int32} (hq : (Jvm.Cond.eq t (.int i)).value args Z none Z [] = some true) : t.eval args Z none [] Z = some (.int i) := by
  obtain ⟨x, y, e1, e2, -, k⟩ := cmp_v (Or.inl hq)
  cases Option.some.inj ((Term.int_eval i).symm.trans e2)
  obtain ⟨z, rfl⟩ := k
  rw [e1]
  simpa [Jvm.Cond.value, e1, e2] using hq
theorem fldInt {t : Jvm.Term} {C n d : String} {i : Int32} {a : Addr} (ht : t.eval args Z none [] Z = some (.ref a)) (hq : (Jvm.Cond.eq (.field t C n d) (.int i)).value args Z none Z [] = some true) : Fld Z Z.heap a C n d (.int i) := by
  refine Fld.start ((fld_at (C := C) (n := n) (dd := d) ht).symm.trans ?_)
  obtain ⟨x, y, e1, e2, -, k⟩ := cmp_v (Or.inl hq)
  cases Option.some.inj ((Term.int_eval i).symm.trans e2)
  obtain ⟨z, rfl⟩ := k
  rw [e1]
  simpa [Jvm.Cond.value, e1, e2] using hq
theorem fldRef {t u : Jvm.Term} {C n d : String} {a b : Addr} (ht : t.eval args Z none [] Z = some (.ref a)) (hu : u.eval args Z none [] Z = some (.ref b)) (hq : (Jvm.Cond.eq (.field t C n d) u).value args Z none Z [] = some true) : Fld Z Z.heap a C n d (.ref b) := by
  refine Fld.start ((fld_at (C := C) (n := n) (dd := d) ht).symm.trans ?_)
  obtain ⟨x, y, e1, e2, k, k'⟩ := cmp_v (Or.inl hq)
  cases Option.some.inj (hu.symm.trans e2)
  have := gotT (eq_R e1 e2 k'.2 rfl) hq
  rw [e1, this]
theorem lremM {g : JFrame} {target : State} (X : Stand p l e R s m args below meth c T locs cells slots) (hx : p.tables.exec = Jvm.exec) (hg : g.method = m) {x y : Int64} {rest : List Value} (hd : decode c.code g.pc = .ok (.lrem, 1)) (hs : g.stack = .long y :: .long x :: rest) (hy : y ≠ 0)
    (hr : Steps p.tables e below (T.setTop { g with pc := g.pc + 1, stack := .long (x % y) :: rest }) target) : Steps p.tables e below (T.setTop g) target :=
  XS.lrem X.here hx hg hd hs hy (by rw [lrem_mod]; exact hr)
theorem nsRoot {O K : String} {n : Nat} (w : (Jvm.Cond.noSuperclass O).before a0 Z = true) (wk : (Jvm.Cond.instantiable K n).before a0 Z = true) (hn : O ≠ K) : NS Z O K := by
  obtain ⟨c, k, h1, h2, h3, -, -⟩ := Cond.noSuperclass_spec w
  obtain ⟨t, kt, g1, -⟩ := Cond.instantiable_spec wk
  have ne := ids_ne h1 g1 hn
  refine ⟨c, t, h1, g1, fun fuel => ?_⟩
  cases fuel with
  | zero => rfl
  | succ f => simp [Vm.isSubclassAux, ne, h2, h3]
theorem nsNo {C S K : String} {n : Nat} (w : (Jvm.Cond.superclass C S).before a0 Z = true) (wk : (Jvm.Cond.instantiable K n).before a0 Z = true) (q : NS Z C K) (hn : C ≠ K) : ∃ c t, Z.vm.findClass C = some c ∧ Z.vm.findClass K = some t ∧ Z.vm.assignable c t = false := by
  obtain ⟨c, t, h0, g0, n3⟩ := q
  obtain ⟨p, k, kp, h1, h2, h3, h4, h5, -, h7⟩ := Cond.superclass_spec h0 w
  obtain ⟨t', k', g1, g2, g5, g6, -⟩ := Cond.instantiable_spec wk
  cases g0.symm.trans g1
  have g7 : k'.isInterface = false := by cases hq : k'.isInterface <;> simp [hq] at g6 ⊢
  have ne := ids_ne h0 g0 hn
  refine ⟨c, t, h0, g0, ?_⟩
  show Z.vm.assignableAux (255 + 1) c t = false
  simp [Vm.assignableAux, ne, h2, g2, h5, g5, g7, Vm.isSubclass, n3]
theorem narB {z : Int32} (h : z = 0 ∨ z = 1) : narrow .boolean (.int z) = .int z := by rcases h with rfl | rfl <;> rfl
theorem narR {t : FieldType} {v : Value} (ht : t.isReference = true) (h : v.isRef = true) : narrow t v = v := by cases t <;> first | rfl | cases ht
theorem fitR {t : FieldType} {v : Value} (ht : t.isReference = true) (h : v.isRef = true) : fits t v = true := by
  rcases ref_cases h with rfl | ⟨a, rfl⟩ <;> cases t <;> first | rfl | cases ht
theorem fitB {z : Int32} (h : z = 0 ∨ z = 1) : fits .boolean (.int z) = true := by rcases h with rfl | rfl <;> rfl
end Steps
/-- an array by what its places hold -/
def Upd {α : Type} (f : Nat → α) (j : Nat) (x : α) : Nat → α := fun i => if i = j then x else f i
def Arf {α : Type} (Z : State) (h : Heap) (a : Addr) (ty : FieldType) (con : α → Value) (n : Nat) (f : Nat → α) : Prop := ∃ c : Cell, Arr Z h a c ty ∧ c.slots.size = n ∧ ∀ i, i < n → c.slots[i]? = some (con (f i))
theorem updS {α : Type} (f : Nat → α) (j : Nat) (x : α) : Upd f j x j = x := if_pos rfl
theorem updN {α : Type} (f : Nat → α) {i j : Nat} (x : α) (h : i ≠ j) : Upd f j x i = f i := if_neg h
section Arrays
variable {p : Program} {l : Launch} {e : Env} {R : Room} {s : State} {m : MethodId} {args : Array Value} {below : List Frame} {meth : Method} {c : Code} {T T' : State} {locs : List Loc} {cells slots : Nat} {Z : State} {a0 : Array Value} {h h' : Heap} {P : Outcome → State → Prop} {g g' : JFrame} {α : Type} {con : α → Value} {a b : Addr} {ty : FieldType} {n : Nat} {f : Nat → α} {j : Int32} {rest : List Value}
theorem Arf.lt (F : Arf Z h a ty con n f) : a < h.size := by obtain ⟨c, A, -⟩ := F; exact A.lt
theorem Arf.ext (F : Arf Z h a ty con n f) (E : Ext h h') : Arf Z h' a ty con n f := by obtain ⟨c, A, r⟩ := F; exact ⟨c, A.ext E, r⟩
theorem Arf.other {sl : Nat} {v : Value} (F : Arf Z h b ty con n f) (W : Wr h h' a sl v) (q : b ≠ a) : Arf Z h' b ty con n f := by obtain ⟨c, A, r⟩ := F; exact ⟨c, A.other W q, r⟩
theorem Arf.keep {ws : List Addr} (F : Arf Z h a ty con n f) (K : Keep h h' ws) (q : a ∉ ws) : Arf Z h' a ty con n f := by obtain ⟨c, A, r⟩ := F; exact ⟨c, ⟨K.2.1 a c A.1 q, A.2⟩, r⟩
theorem Arf.new {cA : ClassId} {z : Int32} {d : α} (A : Arr Z h a (newA cA ty z) ty) (hd : defaultValue ty = con d) : Arf Z h a ty con z.toNatClampNeg (fun _ => d) :=
  ⟨_, A, sz_new _ _ _, fun i hi => by simp [newA, hi, hd]⟩
theorem Arf.set (F : Arf Z h a ty con n f) {k : Nat} {v : Value} {x : α} (W : Wr h h' a k v) (hv : v = con x) : Arf Z h' a ty con n (Upd f k x) := by
  obtain ⟨c, A, S, H⟩ := F
  refine ⟨_, A.same W, (sz_set _ _ _).trans S, fun i hi => ?_⟩
  subst hv
  by_cases q : i = k
  · subst q; simp [Cell.setSlot, Upd, S, hi]
  · have : ((c.setSlot k (con x)).slots)[i]? = c.slots[i]? := Array.getElem?_setIfInBounds_ne (Ne.symm q)
    rw [this, H i hi]; simp [Upd, q]
theorem Arf.inb {c : Cell} (S : c.slots.size = n) (hj : ¬ j < 0 ∧ j.toNatClampNeg < n) : ¬ (j < 0 ∨ c.slots.size ≤ j.toNatClampNeg) := fun q => q.elim hj.1 fun r => by omega
theorem ldJ {f : Nat → Int64} (X : Stand p l e R s m args below meth c T locs cells slots) (hx : p.tables.exec = Jvm.exec) (hZ : Z.Warmed39 s.vm) (eT : T.heap = h) (F : Arf Z h a .long Value.long n f) (hj : ¬ j < 0 ∧ j.toNatClampNeg < n) (hg : g.method = m) (hs : g.stack = .int j :: .ref a :: rest) (hd : decode c.code g.pc = .ok (.laload, 1)) {t : State}
    (k : Steps p.tables e below (T.setTop { g with pc := g.pc + 1, stack := .long (f j.toNatClampNeg) :: rest }) t) : Steps p.tables e below (T.setTop g) t := by
  obtain ⟨cl, A, S, H⟩ := F
  exact X.laload hx (by rw [eT]; exact A.1) (State.isArrayOf_alike hZ.alike A.2.1) A.2.2 (Arf.inb S hj) (H _ hj.2) hg hs hd t k
theorem ldI {f : Nat → Int32} (X : Stand p l e R s m args below meth c T locs cells slots) (hx : p.tables.exec = Jvm.exec) (hZ : Z.Warmed39 s.vm) (eT : T.heap = h) (F : Arf Z h a .int Value.int n f) (hj : ¬ j < 0 ∧ j.toNatClampNeg < n) (hg : g.method = m) (hs : g.stack = .int j :: .ref a :: rest) (hd : decode c.code g.pc = .ok (.iaload, 1)) {t : State}
    (k : Steps p.tables e below (T.setTop { g with pc := g.pc + 1, stack := .int (f j.toNatClampNeg) :: rest }) t) : Steps p.tables e below (T.setTop g) t := by
  obtain ⟨cl, A, S, H⟩ := F
  exact X.iaload hx (by rw [eT]; exact A.1) (State.isArrayOf_alike hZ.alike A.2.1) A.2.2 (Arf.inb S hj) (H _ hj.2) hg hs hd t k
theorem ldZ {f : Nat → Int32} (X : Stand p l e R s m args below meth c T locs cells slots) (hx : p.tables.exec = Jvm.exec) (hZ : Z.Warmed39 s.vm) (eT : T.heap = h) (F : Arf Z h a .boolean Value.int n f) (hj : ¬ j < 0 ∧ j.toNatClampNeg < n) (hg : g.method = m) (hs : g.stack = .int j :: .ref a :: rest) (hd : decode c.code g.pc = .ok (.baload, 1)) {t : State}
    (k : Steps p.tables e below (T.setTop { g with pc := g.pc + 1, stack := .int (f j.toNatClampNeg) :: rest }) t) : Steps p.tables e below (T.setTop g) t := by
  obtain ⟨cl, A, S, H⟩ := F
  exact X.baloadBooleans hx (by rw [eT]; exact A.1) (State.isArrayOf_alike hZ.alike A.2.1) A.2.2 (Arf.inb S hj) (H _ hj.2) hg hs hd t k
theorem ldY {f : Nat → Int32} (X : Stand p l e R s m args below meth c T locs cells slots) (hx : p.tables.exec = Jvm.exec) (hZ : Z.Warmed39 s.vm) (eT : T.heap = h) (F : Arf Z h a .byte Value.int n f) (hj : ¬ j < 0 ∧ j.toNatClampNeg < n) (hg : g.method = m) (hs : g.stack = .int j :: .ref a :: rest) (hd : decode c.code g.pc = .ok (.baload, 1)) {t : State}
    (k : Steps p.tables e below (T.setTop { g with pc := g.pc + 1, stack := .int (f j.toNatClampNeg) :: rest }) t) : Steps p.tables e below (T.setTop g) t := by
  obtain ⟨cl, A, S, H⟩ := F
  exact X.baloadBytes hx (by rw [eT]; exact A.1) (State.isArrayOf_alike hZ.alike A.2.1) A.2.2 (Arf.inb S hj) (H _ hj.2) hg hs hd t k
theorem ldD {f : Nat → UInt64} (X : Stand p l e R s m args below meth c T locs cells slots) (hx : p.tables.exec = Jvm.exec) (hZ : Z.Warmed39 s.vm) (eT : T.heap = h) (F : Arf Z h a .double Value.double n f) (hj : ¬ j < 0 ∧ j.toNatClampNeg < n) (hg : g.method = m) (hs : g.stack = .int j :: .ref a :: rest) (hd : decode c.code g.pc = .ok (.daload, 1)) {t : State}
    (k : Steps p.tables e below (T.setTop { g with pc := g.pc + 1, stack := .double (f j.toNatClampNeg) :: rest }) t) : Steps p.tables e below (T.setTop g) t := by
  obtain ⟨cl, A, S, H⟩ := F
  exact X.daload hx (by rw [eT]; exact A.1) (State.isArrayOf_alike hZ.alike A.2.1) A.2.2 (Arf.inb S hj) (H _ hj.2) hg hs hd t k
theorem aLen (X : Stand p l e R s m args below meth c T locs cells slots) (hx : p.tables.exec = Jvm.exec) (hZ : Z.Warmed39 s.vm) (eT : T.heap = h) (F : Arf Z h a ty con n f) (hg : g.method = m) (hs : g.stack = .ref a :: rest) (hd : decode c.code g.pc = .ok (.arraylength, 1)) {t : State}
    (k : Steps p.tables e below (T.setTop { g with pc := g.pc + 1, stack := .int n.toInt32 :: rest }) t) : Steps p.tables e below (T.setTop g) t := by
  obtain ⟨cl, A, S, H⟩ := F
  exact X.arraylength hx (by rw [eT]; exact A.1) (State.isArrayOf_alike hZ.alike A.2.1) hg hs hd t (by rw [S]; exact k)
theorem wrJ {f : Nat → Int64} {x : Int64} (X : Stand p l e R s m args below meth c T locs cells slots) (hx : p.tables.exec = Jvm.exec) (hZ : Z.Warmed39 s.vm) (eT : T.heap = h) (F : Arf Z h a .long Value.long n f) (hj : ¬ j < 0 ∧ j.toNatClampNeg < n) (hg : g.method = m) (hs : g.stack = .long x :: .int j :: .ref a :: rest) (hd : decode c.code g.pc = .ok (.lastore, 1)) :
    ∃ T' h', Stand p l e R s m args below meth c T' (locs ++ [⟨a, j.toNatClampNeg⟩]) cells slots ∧ T'.heap = h' ∧ Wr h h' a j.toNatClampNeg (.long x) ∧ Arf Z h' a .long Value.long n (Upd f j.toNatClampNeg x) ∧ ∀ target, Steps p.tables e below (T'.setTop { g with pc := g.pc + 1, stack := rest }) target → Steps p.tables e below (T.setTop g) target := by
  have F' := F
  obtain ⟨cl, A, S, H⟩ := F
  obtain ⟨T', h', X', e', W, st⟩ := stJ X hx hZ eT A (Arf.inb S hj) hg hs hd
  exact ⟨T', h', X', e', W, F'.set W rfl, st⟩
theorem wrI {f : Nat → Int32} {x : Int32} (X : Stand p l e R s m args below meth c T locs cells slots) (hx : p.tables.exec = Jvm.exec) (hZ : Z.Warmed39 s.vm) (eT : T.heap = h) (F : Arf Z h a .int Value.int n f) (hj : ¬ j < 0 ∧ j.toNatClampNeg < n) (hg : g.method = m) (hs : g.stack = .int x :: .int j :: .ref a :: rest) (hd : decode c.code g.pc = .ok (.iastore, 1)) :
    ∃ T' h', Stand p l e R s m args below meth c T' (locs ++ [⟨a, j.toNatClampNeg⟩]) cells slots ∧ T'.heap = h' ∧ Wr h h' a j.toNatClampNeg (.int x) ∧ Arf Z h' a .int Value.int n (Upd f j.toNatClampNeg x) ∧ ∀ target, Steps p.tables e below (T'.setTop { g with pc := g.pc + 1, stack := rest }) target → Steps p.tables e below (T.setTop g) target := by
  have F' := F
  obtain ⟨cl, A, S, H⟩ := F
  obtain ⟨T', h', X', e', W, st⟩ := stI X hx hZ eT A (Arf.inb S hj) hg hs hd
  exact ⟨T', h', X', e', W, F'.set W rfl, st⟩
theorem wrD {f : Nat → UInt64} {x : UInt64} (X : Stand p l e R s m args below meth c T locs cells slots) (hx : p.tables.exec = Jvm.exec) (hZ : Z.Warmed39 s.vm) (eT : T.heap = h) (F : Arf Z h a .double Value.double n f) (hj : ¬ j < 0 ∧ j.toNatClampNeg < n) (hg : g.method = m) (hs : g.stack = .double x :: .int j :: .ref a :: rest) (hd : decode c.code g.pc = .ok (.dastore, 1)) :
    ∃ T' h', Stand p l e R s m args below meth c T' (locs ++ [⟨a, j.toNatClampNeg⟩]) cells slots ∧ T'.heap = h' ∧ Wr h h' a j.toNatClampNeg (.double x) ∧ Arf Z h' a .double Value.double n (Upd f j.toNatClampNeg x) ∧ ∀ target, Steps p.tables e below (T'.setTop { g with pc := g.pc + 1, stack := rest }) target → Steps p.tables e below (T.setTop g) target := by
  have F' := F
  obtain ⟨cl, A, S, H⟩ := F
  obtain ⟨T', h', X', e', W, st⟩ := stD X hx hZ eT A (Arf.inb S hj) hg hs hd
  exact ⟨T', h', X', e', W, F'.set W rfl, st⟩
theorem wrZ {f : Nat → Int32} {x : Int32} (X : Stand p l e R s m args below meth c T locs cells slots) (hx : p.tables.exec = Jvm.exec) (hZ : Z.Warmed39 s.vm) (eT : T.heap = h) (F : Arf Z h a .boolean Value.int n f) (hj : ¬ j < 0 ∧ j.toNatClampNeg < n) (hb : x = 0 ∨ x = 1) (hg : g.method = m) (hs : g.stack = .int x :: .int j :: .ref a :: rest) (hd : decode c.code g.pc = .ok (.bastore, 1)) :
    ∃ T' h', Stand p l e R s m args below meth c T' (locs ++ [⟨a, j.toNatClampNeg⟩]) cells slots ∧ T'.heap = h' ∧ Wr h h' a j.toNatClampNeg (.int x) ∧ Arf Z h' a .boolean Value.int n (Upd f j.toNatClampNeg x) ∧ ∀ target, Steps p.tables e below (T'.setTop { g with pc := g.pc + 1, stack := rest }) target → Steps p.tables e below (T.setTop g) target := by
  have F' := F
  obtain ⟨cl, A, S, H⟩ := F
  obtain ⟨T', h', X', e', W, st⟩ := stZ X hx hZ eT A (Arf.inb S hj) hg hs hd
  have q : nar .boolean x = x := by rcases hb with rfl | rfl <;> rfl
  rw [q] at W
  exact ⟨T', h', X', e', W, F'.set W rfl, st⟩
theorem nat32 {n : Nat} (hn : n < 2 ^ 31) : n.toInt32.toNatClampNeg = n := by
  have q : n.toInt32.toInt = n := len_toInt hn
  simp only [Int32.toNatClampNeg, q]; omega
theorem pos32 {n : Nat} (hn : n < 2 ^ 31) : ¬ n.toInt32 < 0 := by
  have q : n.toInt32.toInt = n := len_toInt hn
  rw [Int32.lt_iff_toInt_lt, q]; have k : (0 : Int32).toInt = 0 := rfl
  omega
theorem Arf.arv (F : Arf Z h a ty con n f) (hn : n < 2 ^ 31) (hf : ∀ x, fits ty (con x) = true) (d : Value) : ∃ k, Arv Z h a k ty n.toInt32 ((List.range n).map fun i => con (f i)) d := by
  obtain ⟨cl, A, S, H⟩ := F
  refine ⟨cl.cls, cl, A, rfl, by rw [nat32 hn, S], pos32 hn, fun i hi => ?_, fun i hi => ?_⟩
  · rw [S] at hi; rw [H i hi]; simp [List.getD, hi]
  · rw [S] at hi; simp [List.getD, hi, hf]
theorem Arf.arv' (F : Arf Z h a ty con n f) (hn : n < 2 ^ 31) (hf : ∀ i, i < n → fits ty (con (f i)) = true) (d : Value) : ∃ k, Arv Z h a k ty n.toInt32 ((List.range n).map fun i => con (f i)) d := by
  obtain ⟨cl, A, S, H⟩ := F
  refine ⟨cl.cls, cl, A, rfl, by rw [nat32 hn, S], pos32 hn, fun i hi => ?_, fun i hi => ?_⟩
  · rw [S] at hi; rw [H i hi]; simp [List.getD, hi]
  · rw [S] at hi; simp [List.getD, hi, hf i hi]
theorem wrC {f : Nat → Int32} {x : Int32} (X : Stand p l e R s m args below meth c T locs cells slots) (hx : p.tables.exec = Jvm.exec) (hZ : Z.Warmed39 s.vm) (eT : T.heap = h) (F : Arf Z h a .char Value.int n f) (hj : ¬ j < 0 ∧ j.toNatClampNeg < n) (hb : nar .char x = x) (hg : g.method = m) (hs : g.stack = .int x :: .int j :: .ref a :: rest) (hd : decode c.code g.pc = .ok (.castore, 1)) :
    ∃ T' h', Stand p l e R s m args below meth c T' (locs ++ [⟨a, j.toNatClampNeg⟩]) cells slots ∧ T'.heap = h' ∧ Wr h h' a j.toNatClampNeg (.int x) ∧ Arf Z h' a .char Value.int n (Upd f j.toNatClampNeg x) ∧ ∀ target, Steps p.tables e below (T'.setTop { g with pc := g.pc + 1, stack := rest }) target → Steps p.tables e below (T.setTop g) target := by
  have F' := F
  obtain ⟨cl, A, S, H⟩ := F
  obtain ⟨T', h', X', e', W, st⟩ := stC X hx hZ eT A (Arf.inb S hj) hg hs hd
  rw [hb] at W
  exact ⟨T', h', X', e', W, F'.set W rfl, st⟩
theorem narC (y : Int32) : nar .char (y.toUInt32.toUInt16.toUInt32.toInt32) = y.toUInt32.toUInt16.toUInt32.toInt32 := by
  simp only [nar, UInt32.toUInt32_toInt32, UInt16.toUInt16_toUInt32]
theorem Arv.arf {k : ClassId} {z : Int32} {vs : List Value} {d : Value} (V : Arv Z h a k ty z vs d) (hz : z.toNatClampNeg = n) (hv : ∀ i, i < n → vs.getD i d = con (f i)) : Arf Z h a ty con n f := by
  obtain ⟨cl, A, -, S, -, H, -⟩ := V
  exact ⟨cl, A, S.trans hz, fun i hi => by rw [H i (by omega), hv i hi]⟩
/-- System.arraycopy(src, 0, dst, 0, len) -/
theorem acF (X : Stand p l e R s m args below meth c T locs cells slots) (hx : p.tables.exec = Jvm.exec) (hZ : Z.Warmed39 s.vm) {own : String} {index : Nat} (hown : s.vm.findClass own = some m.cls)
    (w1 : (Jvm.Cond.methodLink own index Jvm.Stand.acN).before a0 Z = true) (w2 : (Jvm.Cond.native Jvm.Stand.acN).before a0 Z = true) (w3 : (Jvm.Cond.static Jvm.Stand.acN).before a0 Z = true) (w4 : (Jvm.Cond.initialized "java/lang/System").before a0 Z = true) (eT : T.heap = h)
    {n' : Nat} {f' : Nat → α} {nn : Int32} {len : Nat} (A : Arf Z h a ty con n f) (B : Arf Z h b ty con n' f') (hty : refKind ty = false) (hf : ∀ x, fits ty (con x) = true) (hn : n < 2 ^ 31) (hn' : n' < 2 ^ 31) (h3 : ¬ nn < 0) (hl : nn.toNatClampNeg = len) (h4 : len ≤ n) (h5 : len ≤ n') {n0 : Nat} (N : Fr n0 locs) (ge : n0 ≤ b)
    (hg : g.method = m) (hsize : g.locals.size = c.maxLocals) (hs : g.stack = .int nn :: .int 0 :: .ref b :: .int 0 :: .ref a :: rest) (hd : decode c.code g.pc = .ok (.invokestatic index, 3))
    (hfr : 1 ≤ R.frames) {W : Nat} (hW : 2 * g.monitorRoom + (rest.map fun v => v.category).sum ≤ W) (hlo : W + (nativeFrameWords "java/lang/System" "arraycopy" 5 + 11) ≤ R.locals) :
    ∃ T' h' L, Stand p l e R s m args below meth c T' L cells slots ∧ T'.heap = h' ∧ Fr n0 L ∧ Keep h h' [b] ∧ Arf Z h' b ty con n' (fun i => if i < len then f i else f' i) ∧
      ∀ target, Steps p.tables e below (T'.setTop { g with pc := g.pc + 3, stack := rest }) target → Steps p.tables e below (T.setTop g) target := by
  obtain ⟨k, VA⟩ := A.arv hn hf .null
  obtain ⟨k', VB⟩ := B.arv hn' hf .null
  have z0 : (0 : Int32).toNatClampNeg = 0 := rfl
  obtain ⟨T', h', L, X', e', F', K', V', st⟩ := cpA X hx hZ hown w1 w2 w3 w4 eT VA VB (us := (List.range nn.toNatClampNeg).map fun i => ((List.range n).map fun i => con (f i)).getD ((0 : Int32).toNatClampNeg + i) .null) (Or.inl ⟨rfl, hty⟩) (sp := 0) (dp := 0) (nn := nn) (by decide) (by decide) h3 (by rw [z0, hl, nat32 hn]; omega) (by rw [z0, hl, nat32 hn']; omega) rfl (by rw [z0, hl]; simp; omega) N ge hg hsize hs hd hfr hW hlo
  refine ⟨T', h', L, X', e', F', K', Arv.arf V' (nat32 hn') fun i hi => ?_, st⟩
  rw [z0, hl]
  by_cases q : i < len
  · have q2 : i < n := by omega
    simp [List.getD, List.getElem?_append, q, q2]
  · have q3 : len + (i - len) = i := by omega
    have q4 : i < n' := hi
    simp [List.getD, List.getElem?_append, q, q3, q4]
/-- an array of arrays, with the class that it takes -/
def Blk (Z : State) (h : Heap) (b : Addr) (ty : FieldType) (C : String) (n : Nat) (f : Nat → Value) : Prop := ∃ c : Cell, Arr Z h b c (.array ty) ∧ OvrA Z c.cls ty C ∧ c.slots.size = n ∧ ∀ i, i < n → c.slots[i]? = some (f i)
section Blks
variable {C : String} {f : Nat → Value}
theorem Blk.lt (F : Blk Z h a ty C n f) : a < h.size := by obtain ⟨c, A, -⟩ := F; exact A.lt
theorem Blk.ext (F : Blk Z h a ty C n f) (E : Ext h h') : Blk Z h' a ty C n f := by obtain ⟨c, A, r⟩ := F; exact ⟨c, A.ext E, r⟩
theorem Blk.other {sl : Nat} {v : Value} (F : Blk Z h b ty C n f) (W : Wr h h' a sl v) (q : b ≠ a) : Blk Z h' b ty C n f := by obtain ⟨c, A, r⟩ := F; exact ⟨c, A.other W q, r⟩
theorem Blk.keep {ws : List Addr} (F : Blk Z h a ty C n f) (K : Keep h h' ws) (q : a ∉ ws) : Blk Z h' a ty C n f := by obtain ⟨c, A, r⟩ := F; exact ⟨c, ⟨K.2.1 a c A.1 q, A.2⟩, r⟩
theorem Blk.new {cA : ClassId} {z : Int32} (A : Arr Z h a (newA cA (.array ty) z) (.array ty)) (O : OvrA Z cA ty C) : Blk Z h a ty C z.toNatClampNeg (fun _ => .null) :=
  ⟨_, A, O, sz_new _ _ _, fun i hi => by simp [newA, hi, defaultValue]⟩
theorem ldB (X : Stand p l e R s m args below meth c T locs cells slots) (hx : p.tables.exec = Jvm.exec) (hZ : Z.Warmed39 s.vm) (eT : T.heap = h) (F : Blk Z h a ty C n f) (hj : ¬ j < 0 ∧ j.toNatClampNeg < n) (hg : g.method = m) (hs : g.stack = .int j :: .ref a :: rest) (hd : decode c.code g.pc = .ok (.aaload, 1)) {t : State}
    (k : Steps p.tables e below (T.setTop { g with pc := g.pc + 1, stack := f j.toNatClampNeg :: rest }) t) : Steps p.tables e below (T.setTop g) t := by
  obtain ⟨cl, A, O, S, H⟩ := F
  exact X.aaload hx (by rw [eT]; exact A.1) (State.isArrayOf_alike hZ.alike A.2.1) rfl A.2.2 (Arf.inb S hj) (H _ hj.2) hg hs hd t k
theorem lenB (X : Stand p l e R s m args below meth c T locs cells slots) (hx : p.tables.exec = Jvm.exec) (hZ : Z.Warmed39 s.vm) (eT : T.heap = h) (F : Blk Z h a ty C n f) (hg : g.method = m) (hs : g.stack = .ref a :: rest) (hd : decode c.code g.pc = .ok (.arraylength, 1)) {t : State}
    (k : Steps p.tables e below (T.setTop { g with pc := g.pc + 1, stack := .int n.toInt32 :: rest }) t) : Steps p.tables e below (T.setTop g) t := by
  obtain ⟨cl, A, O, S, H⟩ := F
  exact X.arraylength hx (by rw [eT]; exact A.1) (State.isArrayOf_alike hZ.alike A.2.1) hg hs hd t (by rw [S]; exact k)
theorem wrB {y : Addr} (X : Stand p l e R s m args below meth c T locs cells slots) (hx : p.tables.exec = Jvm.exec) (hZ : Z.Warmed39 s.vm) (eT : T.heap = h) (F : Blk Z h a ty C n f) (I : Ins Z h y C true) (hj : ¬ j < 0 ∧ j.toNatClampNeg < n) (hg : g.method = m) (hs : g.stack = .ref y :: .int j :: .ref a :: rest) (hd : decode c.code g.pc = .ok (.aastore, 1)) :
    ∃ T' h', Stand p l e R s m args below meth c T' (locs ++ [⟨a, j.toNatClampNeg⟩]) cells slots ∧ T'.heap = h' ∧ Wr h h' a j.toNatClampNeg (.ref y) ∧ Blk Z h' a ty C n (Upd f j.toNatClampNeg (.ref y)) ∧ ∀ target, Steps p.tables e below (T'.setTop { g with pc := g.pc + 1, stack := rest }) target → Steps p.tables e below (T.setTop g) target := by
  obtain ⟨cl, A, O, S, H⟩ := F
  obtain ⟨T', h', X', e', W, st⟩ := stR X hx hZ eT A (Arf.inb S hj) rfl (Sto.ofVA A rfl O I) hg hs hd
  refine ⟨T', h', X', e', W, ⟨_, A.same W, O, (sz_set _ _ _).trans S, fun i hi => ?_⟩, st⟩
  by_cases q : i = j.toNatClampNeg
  · subst q; simp [Cell.setSlot, Upd, S, hi]
  · have : ((cl.setSlot j.toNatClampNeg (.ref y)).slots)[i]? = cl.slots[i]? := Array.getElem?_setIfInBounds_ne (Ne.symm q)
    rw [this, H i hi]; simp [Upd, q]
theorem Blk.one {v : Value} (F : Blk Z h b ty C 1 f) (hv : f 0 = v) : Blk Z h b ty C 1 (fun _ => v) := by
  obtain ⟨c, A, O, S, H⟩ := F
  refine ⟨c, A, O, S, fun i hi => ?_⟩
  obtain rfl : i = 0 := by omega
  rw [H 0 hi, hv]
end Blks
end Arrays
end Jvm.Own
namespace Jvm.Pilot.@@N@@
open Jvm Jvm.ClassFile Sem Op Lib Jvm.Free Jvm.Stand Jvm.LawKit Jvm.RoadKit Bundle Jvm.Own Jvm.Pilot.@@N@@.Jvm.D
theorem own_w {Z : State} {a0 : Array Value} (hw : ∀ d ∈ tables_1, d.before a0 Z = true) (i : Nat) {d : Jvm.Cond} (h : tables_1[i]? = some d) : d.before a0 Z = true := hw d (List.mem_of_getElem? h)
theorem d1_0 : decode method_2_code 0 = .ok (.iload_n 0, 1) := by decide +kernel
theorem d1_1 : decode method_2_code 1 = .ok (.iconst 3, 1) := by decide +kernel
theorem d1_2 : decode method_2_code 2 = .ok (.iand, 1) := by decide +kernel
theorem d1_3 : decode method_2_code 3 = .ok (.istore_n 1, 1) := by decide +kernel
theorem d1_4 : decode method_2_code 4 = .ok (.iload_n 1, 1) := by decide +kernel
theorem d1_5 : decode method_2_code 5 = .ok (.ifCond .ne 7, 3) := by decide +kernel
theorem d1_8 : decode method_2_code 8 = .ok (.getstatic 7, 3) := by decide +kernel
theorem d1_11 : decode method_2_code 11 = .ok (.areturn, 1) := by decide +kernel
theorem d1_12 : decode method_2_code 12 = .ok (.iload_n 1, 1) := by decide +kernel
theorem d1_13 : decode method_2_code 13 = .ok (.iconst 1, 1) := by decide +kernel
theorem d1_14 : decode method_2_code 14 = .ok (.if_icmp .ne 7, 3) := by decide +kernel
theorem d1_17 : decode method_2_code 17 = .ok (.getstatic 13, 3) := by decide +kernel
theorem d1_20 : decode method_2_code 20 = .ok (.areturn, 1) := by decide +kernel
theorem d1_21 : decode method_2_code 21 = .ok (.iload_n 1, 1) := by decide +kernel
theorem d1_22 : decode method_2_code 22 = .ok (.iconst 2, 1) := by decide +kernel
theorem d1_23 : decode method_2_code 23 = .ok (.if_icmp .ne 7, 3) := by decide +kernel
theorem d1_26 : decode method_2_code 26 = .ok (.getstatic 16, 3) := by decide +kernel
theorem d1_29 : decode method_2_code 29 = .ok (.areturn, 1) := by decide +kernel
theorem d1_30 : decode method_2_code 30 = .ok (.getstatic 19, 3) := by decide +kernel
theorem d1_33 : decode method_2_code 33 = .ok (.areturn, 1) := by decide +kernel
theorem ef_0 (m : MethodId) (x0 : Int32) : entryFrame m #[(.int x0)] 2 = mkF m 0 #[.val (.int x0), .unset] [] := by first | (simp [entryFrame, mkF, argsToLocals, Value.category]; done) | rfl
theorem pn_0 : plainName "com/example/arcbind/arcbind/ViolationEqualsPinLaw" = true := by first | (simp [plainName, overriddenIn]; done) | decide +kernel
def FP (x0 : Int32) (r0 : Addr) (r1 : Addr) (r2 : Addr) (r3 : Addr) : Value := (if (x0 &&& (3 : Int32)) = (0 : Int32) then (.ref r0) else (if (x0 &&& (3 : Int32)) = (1 : Int32) then (.ref r1) else (if (x0 &&& (3 : Int32)) = (2 : Int32) then (.ref r2) else (.ref r3))))
set_option maxRecDepth 65536 in
set_option maxHeartbeats 40000000 in
theorem rmP (l : Launch) (Z : State) (a0 : Array Value) (hw : ∀ d ∈ tables_1, d.before a0 Z = true) (x0 : Int32) (r0 r1 r2 r3 : Addr) (h0 : Heap) (n0 : Nat) (Z0 : n0 ≤ h0.size) (B0 : Sta Z h0 "com/example/arcbind/arcbind/ArcbindException$Reason" "VALUE_STARTS_WITH_0X80" "Lcom/example/arcbind/arcbind/ArcbindException$Reason;" (.ref r0)) (B1 : Sta Z h0 "com/example/arcbind/arcbind/ArcbindException$Reason" "UNFINISHED_VALUE" "Lcom/example/arcbind/arcbind/ArcbindException$Reason;" (.ref r1)) (B2 : Sta Z h0 "com/example/arcbind/arcbind/ArcbindException$Reason" "EMPTY_ABSOLUTE_CONTENT" "Lcom/example/arcbind/arcbind/ArcbindException$Reason;" (.ref r2)) (B3 : Sta Z h0 "com/example/arcbind/arcbind/ArcbindException$Reason" "CONTENT_NOT_A_BYTE_STRING" "Lcom/example/arcbind/arcbind/ArcbindException$Reason;" (.ref r3)) :
    Pays l Z (⟨"com/example/arcbind/arcbind/ViolationEqualsPinLaw", "reason", "(I)Lcom/example/arcbind/arcbind/ArcbindException$Reason;"⟩ : MethodName) method_2_code 2 (some (.object "com/example/arcbind/arcbind/ArcbindException$Reason")) [] ({ frames := 0, cells := 0, slots := 0, locals := 0 } : Room) #[(.int x0)] h0 (fun v h L => v = some (FP x0 r0 r1 r2 r3) ∧ Fr n0 L ∧ h = h0) := by
  refine Pays.walk (plainFor_of_name pn_0) (fun m => ef_0 m x0 ) ?_
  intro p e s m below meth c T0 X0 hx hby hml hown hnm hZ e0 hret hlk
  have N0 := Fr.nil n0
  refine Goes.on (T' := T0) (g' := (mkF m 5 #[.val (.int x0), .val (.int (x0 &&& (3 : Int32)))] [(.int (x0 &&& (3 : Int32)))])) (fun _ k => XS.iloadN X0.here hx rfl (hb hby d1_0) rfl (XS.iconst X0.here hx rfl (hb hby d1_1) (XS.iand X0.here hx rfl (hb hby d1_2) rfl (XS.istoreN X0.here hx rfl (hb hby d1_3) rfl (l' := #[.val (.int x0), .val (.int (x0 &&& (3 : Int32)))]) rfl (XS.iloadN X0.here hx rfl (hb hby d1_4) rfl k))))) ?_
  by_cases hc1 : (x0 &&& (3 : Int32)) = (0 : Int32)
  · refine Goes.on (T' := T0) (g' := (mkF m 8 #[.val (.int x0), .val (.int (x0 &&& (3 : Int32)))] [])) (fun _ k => XS.ifNo X0.here hx rfl (hb hby d1_5) rfl (XT.i0_ne_f hc1) k) ?_
    obtain ⟨T2, X2, e2, st2⟩ := getS (host := "") X0 hx hZ hown (own_w hw 4 rfl) Via.refl e0 B0 (g := (mkF m 8 #[.val (.int x0), .val (.int (x0 &&& (3 : Int32)))] [])) rfl (hb hby d1_8)
    refine Goes.on (T' := T2) (g' := (mkF m 11 #[.val (.int x0), .val (.int (x0 &&& (3 : Int32)))] [(.ref r0)])) (fun _ k => st2 _ k) ?_
    exact Goes.retA X2 hx hlk hret rfl rfl (hb hby d1_11) (by decide) (by decide) ⟨(by unfold FP; rw [if_pos hc1]), N0, e2⟩
  · refine Goes.on (T' := T0) (g' := (mkF m 14 #[.val (.int x0), .val (.int (x0 &&& (3 : Int32)))] [(.int (1 : Int32)), (.int (x0 &&& (3 : Int32)))])) (fun _ k => XS.ifYes X0.here hx rfl (pc0 := 5) (pc' := 12) rfl (hb hby d1_5) rfl (XT.i0_ne_t hc1) (by decide) (by decide) (XS.iloadN X0.here hx rfl (hb hby d1_12) rfl (XS.iconst X0.here hx rfl (hb hby d1_13) k))) ?_
    by_cases hc3 : (x0 &&& (3 : Int32)) = (1 : Int32)
    · refine Goes.on (T' := T0) (g' := (mkF m 17 #[.val (.int x0), .val (.int (x0 &&& (3 : Int32)))] [])) (fun _ k => XS.icmpNo X0.here hx rfl (hb hby d1_14) rfl (XT.ii_ne_f hc3) k) ?_
      obtain ⟨T4, X4, e4, st4⟩ := getS (host := "") X0 hx hZ hown (own_w hw 56 rfl) Via.refl e0 B1 (g := (mkF m 17 #[.val (.int x0), .val (.int (x0 &&& (3 : Int32)))] [])) rfl (hb hby d1_17)
      refine Goes.on (T' := T4) (g' := (mkF m 20 #[.val (.int x0), .val (.int (x0 &&& (3 : Int32)))] [(.ref r1)])) (fun _ k => st4 _ k) ?_
      exact Goes.retA X4 hx hlk hret rfl rfl (hb hby d1_20) (by decide) (by decide) ⟨(by unfold FP; rw [if_neg hc1, if_pos hc3]), N0, e4⟩
    · refine Goes.on (T' := T0) (g' := (mkF m 23 #[.val (.int x0), .val (.int (x0 &&& (3 : Int32)))] [(.int (2 : Int32)), (.int (x0 &&& (3 : Int32)))])) (fun _ k => XS.icmpYes X0.here hx rfl (pc0 := 14) (pc' := 21) rfl (hb hby d1_14) rfl (XT.ii_ne_t hc3) (by decide) (by decide) (XS.iloadN X0.here hx rfl (hb hby d1_21) rfl (XS.iconst X0.here hx rfl (hb hby d1_22) k))) ?_
      by_cases hc5 : (x0 &&& (3 : Int32)) = (2 : Int32)
      · refine Goes.on (T' := T0) (g' := (mkF m 26 #[.val (.int x0), .val (.int (x0 &&& (3 : Int32)))] [])) (fun _ k => XS.icmpNo X0.here hx rfl (hb hby d1_23) rfl (XT.ii_ne_f hc5) k) ?_
        obtain ⟨T6, X6, e6, st6⟩ := getS (host := "") X0 hx hZ hown (own_w hw 39 rfl) Via.refl e0 B2 (g := (mkF m 26 #[.val (.int x0), .val (.int (x0 &&& (3 : Int32)))] [])) rfl (hb hby d1_26)
        refine Goes.on (T' := T6) (g' := (mkF m 29 #[.val (.int x0), .val (.int (x0 &&& (3 : Int32)))] [(.ref r2)])) (fun _ k => st6 _ k) ?_
        exact Goes.retA X6 hx hlk hret rfl rfl (hb hby d1_29) (by decide) (by decide) ⟨(by unfold FP; rw [if_neg hc1, if_neg hc3, if_pos hc5]), N0, e6⟩
      · refine Goes.on (T' := T0) (g' := (mkF m 30 #[.val (.int x0), .val (.int (x0 &&& (3 : Int32)))] [])) (fun _ k => XS.icmpYes X0.here hx rfl (pc0 := 23) (pc' := 30) rfl (hb hby d1_23) rfl (XT.ii_ne_t hc5) (by decide) (by decide) k) ?_
        obtain ⟨T7, X7, e7, st7⟩ := getS (host := "") X0 hx hZ hown (own_w hw 7 rfl) Via.refl e0 B3 (g := (mkF m 30 #[.val (.int x0), .val (.int (x0 &&& (3 : Int32)))] [])) rfl (hb hby d1_30)
        refine Goes.on (T' := T7) (g' := (mkF m 33 #[.val (.int x0), .val (.int (x0 &&& (3 : Int32)))] [(.ref r3)])) (fun _ k => st7 _ k) ?_
        exact Goes.retA X7 hx hlk hret rfl rfl (hb hby d1_33) (by decide) (by decide) ⟨(by unfold FP; rw [if_neg hc1, if_neg hc3, if_neg hc5]), N0, e7⟩
theorem own_ref (x0 : Int32) (r0 r1 r2 r3 : Addr) : ∃ r, FP x0 r0 r1 r2 r3 = .ref r := by
  unfold FP
  repeat' split
  all_goals exact ⟨_, rfl⟩
theorem d2_0 : decode prog_19_method_1_code 0 = .ok (.aload_n 0, 1) := by decide +kernel
theorem d2_1 : decode prog_19_method_1_code 1 = .ok (.invokespecial 1, 3) := by decide +kernel
theorem d2_4 : decode prog_19_method_1_code 4 = .ok (.aload_n 0, 1) := by decide +kernel
theorem d2_5 : decode prog_19_method_1_code 5 = .ok (.aload_n 1, 1) := by decide +kernel
theorem d2_6 : decode prog_19_method_1_code 6 = .ok (.putfield 7, 3) := by decide +kernel
theorem d2_9 : decode prog_19_method_1_code 9 = .ok (.aload_n 0, 1) := by decide +kernel
theorem d2_10 : decode prog_19_method_1_code 10 = .ok (.iload_n 2, 1) := by decide +kernel
theorem d2_11 : decode prog_19_method_1_code 11 = .ok (.putfield 13, 3) := by decide +kernel
theorem d2_14 : decode prog_19_method_1_code 14 = .ok (.return_, 1) := by decide +kernel
theorem ef_1 (m : MethodId) (x0 : Addr) (x1 : Value) (x2 : Int32) (c1 : x1.category = 1) : entryFrame m #[(.ref x0), x1, (.int x2)] 3 = mkF m 0 #[.val (.ref x0), .val x1, .val (.int x2)] [] := by have q0 : ((.ref x0) : Value).category = 1 := rfl; have q2 : ((.int x2) : Value).category = 1 := rfl; simp [entryFrame, mkF, argsToLocals, c1, q0, q2]
theorem pn_1 : plainName "com/example/arcbind/arcbind/OidContent$Violation" = true := by first | (simp [plainName, overriddenIn]; done) | decide +kernel
set_option maxRecDepth 65536 in
set_option maxHeartbeats 40000000 in
theorem rmC (l : Launch) (Z : State) (a0 : Array Value) (hw : ∀ d ∈ tables_1, d.before a0 Z = true) (a : Addr) (x1 : Value) (x2 : Int32) (h0 : Heap) (n0 : Nat) (Z0 : n0 ≤ h0.size) (E0 : Exa Z h0 a "com/example/arcbind/arcbind/OidContent$Violation") (ga : n0 ≤ a) (F_reason : Fld Z h0 a "com/example/arcbind/arcbind/OidContent$Violation" "reason" "Lcom/example/arcbind/arcbind/ArcbindException$Reason;" .null) (F_offset : Fld Z h0 a "com/example/arcbind/arcbind/OidContent$Violation" "offset" "I" (.int (0 : Int32))) (hr1 : x1.isRef = true) :
    Pays l Z (⟨"com/example/arcbind/arcbind/OidContent$Violation", "<init>", "(Lcom/example/arcbind/arcbind/ArcbindException$Reason;I)V"⟩ : MethodName) prog_19_method_1_code 3 none [] ({ frames := 1, cells := 0, slots := 0, locals := 12 } : Room) #[(.ref a), x1, (.int x2)] h0 (fun v h L => v = none ∧ Fr n0 L ∧ Keep h0 h [a] ∧ Exa Z h a "com/example/arcbind/arcbind/OidContent$Violation" ∧ Fld Z h a "com/example/arcbind/arcbind/OidContent$Violation" "reason" "Lcom/example/arcbind/arcbind/ArcbindException$Reason;" x1 ∧ Fld Z h a "com/example/arcbind/arcbind/OidContent$Violation" "offset" "I" (.int x2)) := by
  refine Pays.walk (plainFor_of_name pn_1) (fun m => ef_1 m a x1 x2 (XT.cat1 hr1)) ?_
  intro p e s m below meth c T0 X0 hx hby hml hown hnm hZ e0 hret hlk
  have N0 := Fr.nil n0
  have K0 := Keep.refl h0 [a]
  refine Goes.on (T' := T0) (g' := (mkF m 1 #[.val (.ref a), .val x1, .val (.int x2)] [(.ref a)])) (fun _ k => XS.aloadN X0.here hx rfl (hb hby d2_0) rfl rfl k) ?_
  obtain ⟨T1, X1, e1, st1⟩ := initO X0 hx hZ hown (own_w hw 15 rfl) (own_w hw 16 rfl) (own_w hw 17 rfl) e0 (g := (mkF m 1 #[.val (.ref a), .val x1, .val (.int x2)] [(.ref a)])) rfl (by rw [hml]; rfl) rfl (hb hby d2_1) (by decide) (W := 0) (by show 2 * 0 + _ ≤ _; exact Nat.le_of_eq rfl) (by decide)
  refine Goes.on (T' := T1) (g' := (mkF m 6 #[.val (.ref a), .val x1, .val (.int x2)] [x1, (.ref a)])) (fun _ k => st1 _ (XS.aloadN X1.here hx rfl (hb hby d2_4) rfl rfl (XS.aloadN X1.here hx rfl (hb hby d2_5) rfl hr1 k))) ?_
  obtain ⟨T2, h2, X2, e2, W2, st2⟩ := putF X1 hx hZ hown (host := "") (Or.inl (own_w hw 18 rfl)) Via.refl e1 F_reason E0 (Or.inr ⟨(own_w hw 19 rfl), rfl, hnm⟩) (own_w hw 10 rfl) (ty := (.object "com/example/arcbind/arcbind/ArcbindException$Reason")) (by decide) (narR rfl hr1) (fitR rfl hr1) (g := (mkF m 6 #[.val (.ref a), .val x1, .val (.int x2)] [x1, (.ref a)])) rfl rfl (hb hby d2_6)
  have N2 := Fr.snoc X2 N0 ga
  have C3 := E0.wr W2
  have C4 := F_reason.same W2
  have C5 := F_offset.other W2 (Or.inr (slot_ne (Or.inr (own_w hw 21 rfl)) (Or.inr (own_w hw 19 rfl)) (by decide) (t := .int) (by decide) (t' := (.object "com/example/arcbind/arcbind/ArcbindException$Reason")) (by decide)))
  have K7 := K0.wr W2 (Or.inl (List.mem_of_getElem? (i := 0) rfl))
  refine Goes.on (T' := T2) (g' := (mkF m 11 #[.val (.ref a), .val x1, .val (.int x2)] [(.int x2), (.ref a)])) (fun _ k => st2 _ (XS.aloadN X2.here hx rfl (hb hby d2_9) rfl rfl (XS.iloadN X2.here hx rfl (hb hby d2_10) rfl k))) ?_
  obtain ⟨T8, h8, X8, e8, W8, st8⟩ := putF X2 hx hZ hown (host := "") (Or.inl (own_w hw 20 rfl)) Via.refl e2 C5 C3 (Or.inr ⟨(own_w hw 21 rfl), rfl, hnm⟩) (own_w hw 10 rfl) (ty := .int) (by decide) rfl rfl (g := (mkF m 11 #[.val (.ref a), .val x1, .val (.int x2)] [(.int x2), (.ref a)])) rfl rfl (hb hby d2_11)
  have N8 := Fr.snoc X8 N2 ga
  have C9 := C3.wr W8
  have C10 := C4.other W8 (Or.inr (slot_ne (Or.inr (own_w hw 19 rfl)) (Or.inr (own_w hw 21 rfl)) (by decide) (t := (.object "com/example/arcbind/arcbind/ArcbindException$Reason")) (by decide) (t' := .int) (by decide)))
  have C11 := C5.same W8
  have K13 := K7.wr W8 (Or.inl (List.mem_of_getElem? (i := 0) rfl))
  refine Goes.on (T' := T8) (g' := (mkF m 14 #[.val (.ref a), .val x1, .val (.int x2)] [])) (fun _ k => st8 _ k) ?_
  exact Goes.retV X8 hx hlk hret (hb hby d2_14) (by decide) (by decide) (by rw [e8]; exact ⟨rfl, N8, K13, C9, C10, C11⟩)
theorem d4_0 : decode prog_19_method_4_code 0 = .ok (.aload_n 1, 1) := by decide +kernel
theorem d4_1 : decode prog_19_method_4_code 1 = .ok (.instanceof 8, 3) := by decide +kernel
theorem d4_4 : decode prog_19_method_4_code 4 = .ok (.ifCond .eq 34, 3) := by decide +kernel
theorem d4_7 : decode prog_19_method_4_code 7 = .ok (.aload_n 1, 1) := by decide +kernel
theorem d4_8 : decode prog_19_method_4_code 8 = .ok (.checkcast 8, 3) := by decide +kernel
theorem d4_11 : decode prog_19_method_4_code 11 = .ok (.astore_n 2, 1) := by decide +kernel
theorem d4_12 : decode prog_19_method_4_code 12 = .ok (.aload_n 0, 1) := by decide +kernel
theorem d4_13 : decode prog_19_method_4_code 13 = .ok (.getfield 7, 3) := by decide +kernel
theorem d4_16 : decode prog_19_method_4_code 16 = .ok (.aload_n 2, 1) := by decide +kernel
theorem d4_17 : decode prog_19_method_4_code 17 = .ok (.getfield 7, 3) := by decide +kernel
theorem d4_20 : decode prog_19_method_4_code 20 = .ok (.if_acmp .ne 18, 3) := by decide +kernel
theorem d4_23 : decode prog_19_method_4_code 23 = .ok (.aload_n 0, 1) := by decide +kernel
theorem d4_24 : decode prog_19_method_4_code 24 = .ok (.getfield 13, 3) := by decide +kernel
theorem d4_27 : decode prog_19_method_4_code 27 = .ok (.aload_n 2, 1) := by decide +kernel
theorem d4_28 : decode prog_19_method_4_code 28 = .ok (.getfield 13, 3) := by decide +kernel
theorem d4_31 : decode prog_19_method_4_code 31 = .ok (.if_icmp .ne 7, 3) := by decide +kernel
theorem d4_34 : decode prog_19_method_4_code 34 = .ok (.iconst 1, 1) := by decide +kernel
theorem d4_35 : decode prog_19_method_4_code 35 = .ok (.goto 4, 3) := by decide +kernel
theorem d4_39 : decode prog_19_method_4_code 39 = .ok (.ireturn, 1) := by decide +kernel
theorem d4_38 : decode prog_19_method_4_code 38 = .ok (.iconst 0, 1) := by decide +kernel
theorem ef_2 (m : MethodId) (x0 : Addr) (x1 : Addr) : entryFrame m #[(.ref x0), (.ref x1)] 3 = mkF m 0 #[.val (.ref x0), .val (.ref x1), .unset] [] := by first | (simp [entryFrame, mkF, argsToLocals, Value.category]; done) | rfl
def FE (r1 : Addr) (r2 : Addr) (o1 : Int32) (o2 : Int32) : Int32 := (if ((.ref r1) : Value) = (.ref r2) then (if o1 = o2 then (1 : Int32) else (0 : Int32)) else (0 : Int32))
set_option maxRecDepth 65536 in
set_option maxHeartbeats 40000000 in
theorem rmE (l : Launch) (Z : State) (a0 : Array Value) (hw : ∀ d ∈ tables_1, d.before a0 Z = true) (a : Addr) (b : Addr) (r1 r2 : Addr) (o1 o2 : Int32) (h0 : Heap) (n0 : Nat) (Z0 : n0 ≤ h0.size) (Eb : Exa Z h0 b "com/example/arcbind/arcbind/OidContent$Violation") (R1 : Fld Z h0 a "com/example/arcbind/arcbind/OidContent$Violation" "reason" "Lcom/example/arcbind/arcbind/ArcbindException$Reason;" (.ref r1)) (O1 : Fld Z h0 a "com/example/arcbind/arcbind/OidContent$Violation" "offset" "I" (.int o1)) (R2 : Fld Z h0 b "com/example/arcbind/arcbind/OidContent$Violation" "reason" "Lcom/example/arcbind/arcbind/ArcbindException$Reason;" (.ref r2)) (O2 : Fld Z h0 b "com/example/arcbind/arcbind/OidContent$Violation" "offset" "I" (.int o2)) :
    Pays l Z (⟨"com/example/arcbind/arcbind/OidContent$Violation", "equals", "(Ljava/lang/Object;)Z"⟩ : MethodName) prog_19_method_4_code 3 (some .boolean) [] ({ frames := 0, cells := 0, slots := 0, locals := 0 } : Room) #[(.ref a), (.ref b)] h0 (fun v h L => v = some (.int (FE r1 r2 o1 o2)) ∧ Fr n0 L ∧ h = h0) := by
  refine Pays.walk (plainFor_of_name pn_1) (fun m => ef_2 m a b ) ?_
  intro p e s m below meth c T0 X0 hx hby hml hown hnm hZ e0 hret hlk
  have N0 := Fr.nil n0
  refine Goes.on (T' := T0) (g' := (mkF m 1 #[.val (.ref a), .val (.ref b), .unset] [(.ref b)])) (fun _ k => XS.aloadN X0.here hx rfl (hb hby d4_0) rfl rfl k) ?_
  obtain ⟨T1, X1, e1, st1⟩ := instY X0 hx hZ hown (own_w hw 27 rfl) e0 (Ins.self Eb) (g := (mkF m 1 #[.val (.ref a), .val (.ref b), .unset] [(.ref b)])) rfl rfl (hb hby d4_1)
  refine Goes.on (T' := T1) (g' := (mkF m 8 #[.val (.ref a), .val (.ref b), .unset] [(.ref b)])) (fun _ k => st1 _ (XS.ifNo X1.here hx rfl (hb hby d4_4) rfl (XT.i0_eq_f (by decide)) (XS.aloadN X1.here hx rfl (hb hby d4_7) rfl rfl k))) ?_
  obtain ⟨T2, X2, e2, st2⟩ := castY X1 hx hZ hown (own_w hw 27 rfl) e1 (Ins.self Eb) (g := (mkF m 8 #[.val (.ref a), .val (.ref b), .unset] [(.ref b)])) rfl rfl (hb hby d4_8)
  refine Goes.on (T' := T2) (g' := (mkF m 13 #[.val (.ref a), .val (.ref b), .val (.ref b)] [(.ref a)])) (fun _ k => st2 _ (XS.astoreN X2.here hx rfl (hb hby d4_11) rfl rfl (l' := #[.val (.ref a), .val (.ref b), .val (.ref b)]) rfl (XS.aloadN X2.here hx rfl (hb hby d4_12) rfl rfl k))) ?_
  obtain ⟨T3, X3, e3, st3⟩ := getF X2 hx hZ hown (host := "") (Or.inl (own_w hw 18 rfl)) Via.refl e2 R1 (g := (mkF m 13 #[.val (.ref a), .val (.ref b), .val (.ref b)] [(.ref a)])) rfl rfl (hb hby d4_13)
  refine Goes.on (T' := T3) (g' := (mkF m 17 #[.val (.ref a), .val (.ref b), .val (.ref b)] [(.ref b), (.ref r1)])) (fun _ k => st3 _ (XS.aloadN X3.here hx rfl (hb hby d4_16) rfl rfl k)) ?_
  obtain ⟨T4, X4, e4, st4⟩ := getF X3 hx hZ hown (host := "") (Or.inl (own_w hw 18 rfl)) Via.refl e3 R2 (g := (mkF m 17 #[.val (.ref a), .val (.ref b), .val (.ref b)] [(.ref b), (.ref r1)])) rfl rfl (hb hby d4_17)
  refine Goes.on (T' := T4) (g' := (mkF m 20 #[.val (.ref a), .val (.ref b), .val (.ref b)] [(.ref r2), (.ref r1)])) (fun _ k => st4 _ k) ?_
  by_cases hc5 : ((.ref r1) : Value) = (.ref r2)
  · refine Goes.on (T' := T4) (g' := (mkF m 24 #[.val (.ref a), .val (.ref b), .val (.ref b)] [(.ref a)])) (fun _ k => XT.acmpNo X4.here hx rfl (hb hby d4_20) rfl rfl rfl (XT.aa_ne_f hc5) (XS.aloadN X4.here hx rfl (hb hby d4_23) rfl rfl k)) ?_
    obtain ⟨T6, X6, e6, st6⟩ := getF X4 hx hZ hown (host := "") (Or.inl (own_w hw 20 rfl)) Via.refl e4 O1 (g := (mkF m 24 #[.val (.ref a), .val (.ref b), .val (.ref b)] [(.ref a)])) rfl rfl (hb hby d4_24)
    refine Goes.on (T' := T6) (g' := (mkF m 28 #[.val (.ref a), .val (.ref b), .val (.ref b)] [(.ref b), (.int o1)])) (fun _ k => st6 _ (XS.aloadN X6.here hx rfl (hb hby d4_27) rfl rfl k)) ?_
    obtain ⟨T7, X7, e7, st7⟩ := getF X6 hx hZ hown (host := "") (Or.inl (own_w hw 20 rfl)) Via.refl e6 O2 (g := (mkF m 28 #[.val (.ref a), .val (.ref b), .val (.ref b)] [(.ref b), (.int o1)])) rfl rfl (hb hby d4_28)
    refine Goes.on (T' := T7) (g' := (mkF m 31 #[.val (.ref a), .val (.ref b), .val (.ref b)] [(.int o2), (.int o1)])) (fun _ k => st7 _ k) ?_
    by_cases hc8 : o1 = o2
    · refine Goes.on (T' := T7) (g' := (mkF m 39 #[.val (.ref a), .val (.ref b), .val (.ref b)] [(.int (1 : Int32))])) (fun _ k => XS.icmpNo X7.here hx rfl (hb hby d4_31) rfl (XT.ii_ne_f hc8) (XS.iconst X7.here hx rfl (hb hby d4_34) (XS.goto X7.here hx rfl (pc0 := 35) (pc' := 39) rfl (hb hby d4_35) (by decide) (by decide) k))) ?_
      exact Goes.retB X7 hx hlk hret (Or.inr rfl) (hb hby d4_39) (by decide) (by decide) ⟨(by unfold FE; rw [if_pos hc5, if_pos hc8]), N0, e7⟩
    · refine Goes.on (T' := T7) (g' := (mkF m 39 #[.val (.ref a), .val (.ref b), .val (.ref b)] [(.int (0 : Int32))])) (fun _ k => XS.icmpYes X7.here hx rfl (pc0 := 31) (pc' := 38) rfl (hb hby d4_31) rfl (XT.ii_ne_t hc8) (by decide) (by decide) (XS.iconst X7.here hx rfl (hb hby d4_38) k)) ?_
      exact Goes.retB X7 hx hlk hret (Or.inl rfl) (hb hby d4_39) (by decide) (by decide) ⟨(by unfold FE; rw [if_pos hc5, if_neg hc8]), N0, e7⟩
  · refine Goes.on (T' := T4) (g' := (mkF m 39 #[.val (.ref a), .val (.ref b), .val (.ref b)] [(.int (0 : Int32))])) (fun _ k => XT.acmpYes X4.here hx rfl (pc0 := 20) (pc' := 38) rfl (hb hby d4_20) rfl rfl rfl (XT.aa_ne_t hc5) (by decide) (by decide) (XS.iconst X4.here hx rfl (hb hby d4_38) k)) ?_
    exact Goes.retB X4 hx hlk hret (Or.inl rfl) (hb hby d4_39) (by decide) (by decide) ⟨(by unfold FE; rw [if_neg hc5]), N0, e4⟩
def FI (a : Addr) : Int32 := (0 : Int32)
set_option maxRecDepth 65536 in
set_option maxHeartbeats 40000000 in
theorem rmI (l : Launch) (Z : State) (a0 : Array Value) (hw : ∀ d ∈ tables_1, d.before a0 Z = true) (a : Addr) (b : Addr) (h0 : Heap) (n0 : Nat) (Z0 : n0 ≤ h0.size) (Eb : Exa Z h0 b "java/lang/Integer") :
    Pays l Z (⟨"com/example/arcbind/arcbind/OidContent$Violation", "equals", "(Ljava/lang/Object;)Z"⟩ : MethodName) prog_19_method_4_code 3 (some .boolean) [] ({ frames := 0, cells := 0, slots := 0, locals := 0 } : Room) #[(.ref a), (.ref b)] h0 (fun v h L => v = some (.int (FI a)) ∧ Fr n0 L ∧ h = h0) := by
  refine Pays.walk (plainFor_of_name pn_1) (fun m => ef_2 m a b ) ?_
  intro p e s m below meth c T0 X0 hx hby hml hown hnm hZ e0 hret hlk
  have N0 := Fr.nil n0
  refine Goes.on (T' := T0) (g' := (mkF m 1 #[.val (.ref a), .val (.ref b), .unset] [(.ref b)])) (fun _ k => XS.aloadN X0.here hx rfl (hb hby d4_0) rfl rfl k) ?_
  obtain ⟨T1, X1, e1, st1⟩ := instNo X0 hx hZ hown (own_w hw 27 rfl) e0 Eb (nsNo (own_w hw 36 rfl) (own_w hw 10 rfl) (NS.step (own_w hw 36 rfl) (NS.step (own_w hw 37 rfl) (nsRoot (own_w hw 38 rfl) (own_w hw 10 rfl) (by decide)) (by decide)) (by decide)) (by decide)) (g := (mkF m 1 #[.val (.ref a), .val (.ref b), .unset] [(.ref b)])) rfl rfl (hb hby d4_1)
  refine Goes.on (T' := T1) (g' := (mkF m 39 #[.val (.ref a), .val (.ref b), .unset] [(.int (0 : Int32))])) (fun _ k => st1 _ (XS.ifYes X1.here hx rfl (pc0 := 4) (pc' := 38) rfl (hb hby d4_4) rfl (XT.i0_eq_t (by decide)) (by decide) (by decide) (XS.iconst X1.here hx rfl (hb hby d4_38) k))) ?_
  exact Goes.retB X1 hx hlk hret (Or.inl rfl) (hb hby d4_39) (by decide) (by decide) ⟨(rfl), N0, e1⟩
theorem ef_3 (m : MethodId) (x0 : Addr) : entryFrame m #[(.ref x0), .null] 3 = mkF m 0 #[.val (.ref x0), .val .null, .unset] [] := by first | (simp [entryFrame, mkF, argsToLocals, Value.category]; done) | rfl
set_option maxRecDepth 65536 in
set_option maxHeartbeats 40000000 in
theorem rmN (l : Launch) (Z : State) (a0 : Array Value) (hw : ∀ d ∈ tables_1, d.before a0 Z = true) (a : Addr) (h0 : Heap) (n0 : Nat) (Z0 : n0 ≤ h0.size) :
    Pays l Z (⟨"com/example/arcbind/arcbind/OidContent$Violation", "equals", "(Ljava/lang/Object;)Z"⟩ : MethodName) prog_19_method_4_code 3 (some .boolean) [] ({ frames := 0, cells := 0, slots := 0, locals := 0 } : Room) #[(.ref a), .null] h0 (fun v h L => v = some (.int (0 : Int32)) ∧ Fr n0 L ∧ h = h0) := by
  refine Pays.walk (plainFor_of_name pn_1) (fun m => ef_3 m a  ) ?_
  intro p e s m below meth c T0 X0 hx hby hml hown hnm hZ e0 hret hlk
  have N0 := Fr.nil n0
  refine Goes.on (T' := T0) (g' := (mkF m 39 #[.val (.ref a), .val .null, .unset] [(.int (0 : Int32))])) (fun _ k => XS.aloadN X0.here hx rfl (hb hby d4_0) rfl rfl (X0.instanceofNull hx (g := (mkF m 1 #[.val (.ref a), .val .null, .unset] [.null])) rfl rfl (hb hby d4_1) _ (XS.ifYes X0.here hx rfl (pc0 := 4) (pc' := 38) rfl (hb hby d4_4) rfl (XT.i0_eq_t (by decide)) (by decide) (by decide) (XS.iconst X0.here hx rfl (hb hby d4_38) k)))) ?_
  exact Goes.retB X0 hx hlk hret (Or.inl rfl) (hb hby d4_39) (by decide) (by decide) ⟨rfl, N0, e0⟩
theorem d7_0 : decode jdk_18_method_1_code 0 = .ok (.aload_n 0, 1) := by decide +kernel
theorem d7_1 : decode jdk_18_method_1_code 1 = .ok (.invokespecial 1, 3) := by decide +kernel
theorem d7_4 : decode jdk_18_method_1_code 4 = .ok (.return_, 1) := by decide +kernel
theorem ef_4 (m : MethodId) (x0 : Addr) : entryFrame m #[(.ref x0)] 1 = mkF m 0 #[.val (.ref x0)] [] := by first | (simp [entryFrame, mkF, argsToLocals, Value.category]; done) | rfl
theorem pn_2 : plainName "java/lang/Number" = true := by first | (simp [plainName, overriddenIn]; done) | decide +kernel
set_option maxRecDepth 65536 in
set_option maxHeartbeats 40000000 in
theorem rmU (l : Launch) (Z : State) (a0 : Array Value) (hw : ∀ d ∈ tables_1, d.before a0 Z = true) (a : Addr) (h0 : Heap) (n0 : Nat) (Z0 : n0 ≤ h0.size) :
    Pays l Z (⟨"java/lang/Number", "<init>", "()V"⟩ : MethodName) jdk_18_method_1_code 1 none [] ({ frames := 1, cells := 0, slots := 0, locals := 12 } : Room) #[(.ref a)] h0 (fun v h L => v = none ∧ Fr n0 L ∧ h = h0) := by
  refine Pays.walk (plainFor_of_name pn_2) (fun m => ef_4 m a ) ?_
  intro p e s m below meth c T0 X0 hx hby hml hown hnm hZ e0 hret hlk
  have N0 := Fr.nil n0
  refine Goes.on (T' := T0) (g' := (mkF m 1 #[.val (.ref a)] [(.ref a)])) (fun _ k => XS.aloadN X0.here hx rfl (hb hby d7_0) rfl rfl k) ?_
  obtain ⟨T1, X1, e1, st1⟩ := initO X0 hx hZ hown (own_w hw 53 rfl) (own_w hw 16 rfl) (own_w hw 17 rfl) e0 (g := (mkF m 1 #[.val (.ref a)] [(.ref a)])) rfl (by rw [hml]; rfl) rfl (hb hby d7_1) (by decide) (W := 0) (by show 2 * 0 + _ ≤ _; exact Nat.le_of_eq rfl) (by decide)
  refine Goes.on (T' := T1) (g' := (mkF m 4 #[.val (.ref a)] [])) (fun _ k => st1 _ k) ?_
  exact Goes.retV X1 hx hlk hret (hb hby d7_4) (by decide) (by decide) ⟨rfl, N0, e1⟩
theorem d6_0 : decode jdk_33_method_23_code 0 = .ok (.aload_n 0, 1) := by decide +kernel
theorem pd_0 : parseMethodDescriptor "()V" = some ⟨[], none⟩ := by decide +kernel
theorem d6_1 : decode jdk_33_method_23_code 1 = .ok (.invokespecial 202, 3) := by decide +kernel
theorem d6_4 : decode jdk_33_method_23_code 4 = .ok (.aload_n 0, 1) := by decide +kernel
theorem d6_5 : decode jdk_33_method_23_code 5 = .ok (.iload_n 1, 1) := by decide +kernel
theorem d6_6 : decode jdk_33_method_23_code 6 = .ok (.putfield 205, 3) := by decide +kernel
theorem d6_9 : decode jdk_33_method_23_code 9 = .ok (.return_, 1) := by decide +kernel
theorem ef_5 (m : MethodId) (x0 : Addr) (x1 : Int32) : entryFrame m #[(.ref x0), (.int x1)] 2 = mkF m 0 #[.val (.ref x0), .val (.int x1)] [] := by first | (simp [entryFrame, mkF, argsToLocals, Value.category]; done) | rfl
theorem pn_3 : plainName "java/lang/Integer" = true := by first | (simp [plainName, overriddenIn]; done) | decide +kernel
set_option maxRecDepth 65536 in
set_option maxHeartbeats 40000000 in
theorem rmJ (l : Launch) (Z : State) (a0 : Array Value) (hw : ∀ d ∈ tables_1, d.before a0 Z = true) (a : Addr) (x1 : Int32) (h0 : Heap) (n0 : Nat) (Z0 : n0 ≤ h0.size) (E0 : Exa Z h0 a "java/lang/Integer") (ga : n0 ≤ a) (F_value : Fld Z h0 a "java/lang/Integer" "value" "I" (.int (0 : Int32))) :
    Pays l Z (⟨"java/lang/Integer", "<init>", "(I)V"⟩ : MethodName) jdk_33_method_23_code 2 none [] ({ frames := 2, cells := 0, slots := 0, locals := 24 } : Room) #[(.ref a), (.int x1)] h0 (fun v h L => v = none ∧ Fr n0 L ∧ Keep h0 h [a] ∧ Exa Z h a "java/lang/Integer" ∧ Fld Z h a "java/lang/Integer" "value" "I" (.int x1)) := by
  refine Pays.walk (plainFor_of_name pn_3) (fun m => ef_5 m a x1 ) ?_
  intro p e s m below meth c T0 X0 hx hby hml hown hnm hZ e0 hret hlk
  have N0 := Fr.nil n0
  have K0 := Keep.refl h0 [a]
  refine Goes.on (T' := T0) (g' := (mkF m 1 #[.val (.ref a), .val (.int x1)] [(.ref a)])) (fun _ k => XS.aloadN X0.here hx rfl (hb hby d6_0) rfl rfl k) ?_
  refine Goes.callC X0 hx hZ 0 rfl hown (own_w hw 47 rfl) (own_w hw 48 rfl) (own_w hw 51 rfl) (own_w hw 52 rfl) (by decide) e0 (rmU l Z a0 hw a h0 n0 Z0) (by decide) (by decide) (by decide) (by decide) rfl (by rw [hml]; rfl) (a := a) (argsL := []) (rest := []) rfl (lenOf pd_0 rfl) rfl (by show 2 * 0 + _ ≤ _; exact Nat.le_of_eq rfl) (hb hby d6_1) ?_
  intro v1 T1 L1 X1 hQ1
  obtain ⟨rfl, N1q, e1⟩ := hQ1
  have N1 := Fr.app N0 N1q
  show Goes p e below _ T1 (mkF m 4 #[.val (.ref a), .val (.int x1)] [])
  refine Goes.on (T' := T1) (g' := (mkF m 6 #[.val (.ref a), .val (.int x1)] [(.int x1), (.ref a)])) (fun _ k => XS.aloadN X1.here hx rfl (hb hby d6_4) rfl rfl (XS.iloadN X1.here hx rfl (hb hby d6_5) rfl k)) ?_
  obtain ⟨T2, h2, X2, e2, W2, st2⟩ := putF X1 hx hZ hown (host := "") (Or.inl (own_w hw 54 rfl)) Via.refl e1 F_value E0 (Or.inr ⟨(own_w hw 55 rfl), rfl, hnm⟩) (own_w hw 42 rfl) (ty := .int) (by decide) rfl rfl (g := (mkF m 6 #[.val (.ref a), .val (.int x1)] [(.int x1), (.ref a)])) rfl rfl (hb hby d6_6)
  have N2 := Fr.snoc X2 N1 ga
  have C3 := E0.wr W2
  have C4 := F_value.same W2
  have K6 := K0.wr W2 (Or.inl (List.mem_of_getElem? (i := 0) rfl))
  refine Goes.on (T' := T2) (g' := (mkF m 9 #[.val (.ref a), .val (.int x1)] [])) (fun _ k => st2 _ k) ?_
  exact Goes.retV X2 hx hlk hret (hb hby d6_9) (by decide) (by decide) (by rw [e2]; exact ⟨rfl, N2, K6, C3, C4⟩)
theorem d5_0 : decode jdk_33_method_22_code 0 = .ok (.iload_n 0, 1) := by decide +kernel
theorem d5_1 : decode jdk_33_method_22_code 1 = .ok (.bipush (-128), 2) := by decide +kernel
theorem d5_3 : decode jdk_33_method_22_code 3 = .ok (.if_icmp .lt 20, 3) := by decide +kernel
theorem d5_23 : decode jdk_33_method_22_code 23 = .ok (.new 1, 3) := by decide +kernel
theorem d5_26 : decode jdk_33_method_22_code 26 = .ok (.dup, 1) := by decide +kernel
theorem d5_27 : decode jdk_33_method_22_code 27 = .ok (.iload_n 0, 1) := by decide +kernel
theorem pd_1 : parseMethodDescriptor "(I)V" = some ⟨[.int], none⟩ := by decide +kernel
theorem d5_28 : decode jdk_33_method_22_code 28 = .ok (.invokespecial 199, 3) := by decide +kernel
theorem d5_31 : decode jdk_33_method_22_code 31 = .ok (.areturn, 1) := by decide +kernel
theorem d5_6 : decode jdk_33_method_22_code 6 = .ok (.iload_n 0, 1) := by decide +kernel
theorem d5_7 : decode jdk_33_method_22_code 7 = .ok (.getstatic 191, 3) := by decide +kernel
theorem d5_10 : decode jdk_33_method_22_code 10 = .ok (.if_icmp .gt 13, 3) := by decide +kernel
theorem d5_13 : decode jdk_33_method_22_code 13 = .ok (.getstatic 195, 3) := by decide +kernel
theorem d5_16 : decode jdk_33_method_22_code 16 = .ok (.iload_n 0, 1) := by decide +kernel
theorem d5_17 : decode jdk_33_method_22_code 17 = .ok (.sipush 128, 3) := by decide +kernel
theorem d5_20 : decode jdk_33_method_22_code 20 = .ok (.iadd, 1) := by decide +kernel
theorem d5_21 : decode jdk_33_method_22_code 21 = .ok (.aaload, 1) := by decide +kernel
theorem d5_22 : decode jdk_33_method_22_code 22 = .ok (.areturn, 1) := by decide +kernel
theorem ef_6 (m : MethodId) (x0 : Int32) : entryFrame m #[(.int x0)] 1 = mkF m 0 #[.val (.int x0)] [] := by first | (simp [entryFrame, mkF, argsToLocals, Value.category]; done) | rfl
set_option maxRecDepth 65536 in
set_option maxHeartbeats 40000000 in
theorem rmK (l : Launch) (Z : State) (a0 : Array Value) (hw : ∀ d ∈ tables_1, d.before a0 Z = true) (x0 : Int32) (h0 : Heap) (n0 : Nat) (Z0 : n0 ≤ h0.size) (O0 : Old Z n0 h0) (ca : Addr) (SH : Sta Z Z.heap "java/lang/Integer$IntegerCache" "high" "I" (.int (127 : Int32))) (SC : Sta Z Z.heap "java/lang/Integer$IntegerCache" "cache" "[Ljava/lang/Integer;" (.ref ca)) (HC : ∀ x : Int32, ¬ x < (-128 : Int32) → ¬ (127 : Int32) < x → ∃ r, (∃ cl, Arr Z Z.heap ca cl (.object "java/lang/Integer") ∧ ¬ ((x + (128 : Int32)) < 0 ∨ cl.slots.size ≤ (x + (128 : Int32)).toNatClampNeg) ∧ cl.slots[(x + (128 : Int32)).toNatClampNeg]? = some (.ref r)) ∧ Exa Z Z.heap r "java/lang/Integer") :
    Pays l Z (⟨"java/lang/Integer", "valueOf", "(I)Ljava/lang/Integer;"⟩ : MethodName) jdk_33_method_22_code 1 (some (.object "java/lang/Integer")) [] ({ frames := 3, cells := 1, slots := 1, locals := 38 } : Room) #[(.int x0)] h0 (fun v h L => ∃ r, v = some (.ref r) ∧ Fr n0 L ∧ Keep h0 h [] ∧ Exa Z h r "java/lang/Integer") := by
  refine Pays.walk (plainFor_of_name pn_3) (fun m => ef_6 m x0 ) ?_
  intro p e s m below meth c T0 X0 hx hby hml hown hnm hZ e0 hret hlk
  have N0 := Fr.nil n0
  have K0 := Keep.refl h0 ([] : List Addr)
  refine Goes.on (T' := T0) (g' := (mkF m 3 #[.val (.int x0)] [(.int (-128 : Int32)), (.int x0)])) (fun _ k => XS.iloadN X0.here hx rfl (hb hby d5_0) rfl (XS.bipush X0.here hx rfl (hb hby d5_1) k)) ?_
  by_cases hc1 : x0 < (-128 : Int32)
  · refine Goes.on (T' := T0) (g' := (mkF m 23 #[.val (.int x0)] [])) (fun _ k => XS.icmpYes X0.here hx rfl (pc0 := 3) (pc' := 23) rfl (hb hby d5_3) rfl (XT.ii_lt_t hc1) (by decide) (by decide) k) ?_
    obtain ⟨T2, h2, X2, e2, E2, A2, D2, U2, st2⟩ := newO X0 hx hZ hown (own_w hw 41 rfl) (own_w hw 42 rfl) (own_w hw 31 rfl) e0 (g := (mkF m 23 #[.val (.int x0)] [])) rfl (hb hby d5_23) (by decide) (by decide)
    obtain ⟨a2, g2⟩ : ∃ z, z = h0.size := ⟨_, rfl⟩
    rw [← g2] at A2 D2 U2 st2
    have M2 : h0.size ≤ a2 := Nat.le_trans K0.1 (Nat.le_of_eq g2.symm)
    have Z4 : n0 ≤ h2.size := Nat.le_trans Z0 E2.1
    have K5 := K0.ext E2
    have F6 : Fld Z h2 a2 "java/lang/Integer" "value" "I" (.int (0 : Int32)) := D2 (Or.inr (own_w hw 55 rfl)) (ty := .int) (by decide)
    have G2 : n0 ≤ a2 := Nat.le_trans Z0 (Nat.le_of_eq g2.symm)
    refine Goes.on (T' := T2) (g' := (mkF m 28 #[.val (.int x0)] [(.int x0), (.ref a2), (.ref a2)])) (fun _ k => st2 _ (XS.dup X2.here hx rfl (hb hby d5_26) rfl rfl (XS.iloadN X2.here hx rfl (hb hby d5_27) rfl k))) ?_
    refine Goes.callC X2 hx hZ 1 rfl hown (own_w hw 43 rfl) (own_w hw 44 rfl) (own_w hw 31 rfl) (own_w hw 46 rfl) (by decide) e2 (rmJ l Z a0 hw a2 x0 h2 n0 Z4 A2 G2 F6) (by decide) (by decide) (by decide) (by decide) rfl (by rw [hml]; rfl) (a := a2) (argsL := [(.int x0)]) (rest := [(.ref a2)]) rfl (lenOf pd_1 rfl) rfl (by show 2 * 0 + _ ≤ _; exact Nat.le_of_eq rfl) (hb hby d5_28) ?_
    intro v7 T7 L7 X7 hQ7
    obtain ⟨rfl, N7q, K7, A7, B7_value⟩ := hQ7
    have N7 := Fr.app N0 N7q
    show Goes p e below _ T7 (mkF m 31 #[.val (.int x0)] [(.ref a2)])
    have K11 := K5.trans K7 (allS (Or.inr M2) all0)
    exact Goes.retA X7 hx hlk hret rfl rfl (hb hby d5_31) (by decide) (by decide) (by exact ⟨_, rfl, N7, K11, A7⟩)
  · refine Goes.on (T' := T0) (g' := (mkF m 7 #[.val (.int x0)] [(.int x0)])) (fun _ k => XS.icmpNo X0.here hx rfl (hb hby d5_3) rfl (XT.ii_lt_f hc1) (XS.iloadN X0.here hx rfl (hb hby d5_6) rfl k)) ?_
    obtain ⟨T12, X12, e12, st12⟩ := getS (host := "") X0 hx hZ hown (own_w hw 33 rfl) Via.refl e0 (Sta.ext O0.2 SH) (g := (mkF m 7 #[.val (.int x0)] [(.int x0)])) rfl (hb hby d5_7)
    refine Goes.on (T' := T12) (g' := (mkF m 10 #[.val (.int x0)] [(.int (127 : Int32)), (.int x0)])) (fun _ k => st12 _ k) ?_
    by_cases hc13 : (127 : Int32) < x0
    · refine Goes.on (T' := T12) (g' := (mkF m 23 #[.val (.int x0)] [])) (fun _ k => XS.icmpYes X12.here hx rfl (pc0 := 10) (pc' := 23) rfl (hb hby d5_10) rfl (XT.ii_gt_t hc13) (by decide) (by decide) k) ?_
      obtain ⟨T14, h14, X14, e14, E14, A14, D14, U14, st14⟩ := newO X12 hx hZ hown (own_w hw 41 rfl) (own_w hw 42 rfl) (own_w hw 31 rfl) e12 (g := (mkF m 23 #[.val (.int x0)] [])) rfl (hb hby d5_23) (by decide) (by decide)
      obtain ⟨a14, g14⟩ : ∃ z, z = h0.size := ⟨_, rfl⟩
      rw [← g14] at A14 D14 U14 st14
      have M14 : h0.size ≤ a14 := Nat.le_trans K0.1 (Nat.le_of_eq g14.symm)
      have Z16 : n0 ≤ h14.size := Nat.le_trans Z0 E14.1
      have K17 := K0.ext E14
      have F18 : Fld Z h14 a14 "java/lang/Integer" "value" "I" (.int (0 : Int32)) := D14 (Or.inr (own_w hw 55 rfl)) (ty := .int) (by decide)
      have G14 : n0 ≤ a14 := Nat.le_trans Z0 (Nat.le_of_eq g14.symm)
      refine Goes.on (T' := T14) (g' := (mkF m 28 #[.val (.int x0)] [(.int x0), (.ref a14), (.ref a14)])) (fun _ k => st14 _ (XS.dup X14.here hx rfl (hb hby d5_26) rfl rfl (XS.iloadN X14.here hx rfl (hb hby d5_27) rfl k))) ?_
      refine Goes.callC X14 hx hZ 1 rfl hown (own_w hw 43 rfl) (own_w hw 44 rfl) (own_w hw 31 rfl) (own_w hw 46 rfl) (by decide) e14 (rmJ l Z a0 hw a14 x0 h14 n0 Z16 A14 G14 F18) (by decide) (by decide) (by decide) (by decide) rfl (by rw [hml]; rfl) (a := a14) (argsL := [(.int x0)]) (rest := [(.ref a14)]) rfl (lenOf pd_1 rfl) rfl (by show 2 * 0 + _ ≤ _; exact Nat.le_of_eq rfl) (hb hby d5_28) ?_
      intro v19 T19 L19 X19 hQ19
      obtain ⟨rfl, N19q, K19, A19, B19_value⟩ := hQ19
      have N19 := Fr.app N0 N19q
      show Goes p e below _ T19 (mkF m 31 #[.val (.int x0)] [(.ref a14)])
      have K23 := K17.trans K19 (allS (Or.inr M14) all0)
      exact Goes.retA X19 hx hlk hret rfl rfl (hb hby d5_31) (by decide) (by decide) (by exact ⟨_, rfl, N19, K23, A19⟩)
    · refine Goes.on (T' := T12) (g' := (mkF m 13 #[.val (.int x0)] [])) (fun _ k => XS.icmpNo X12.here hx rfl (hb hby d5_10) rfl (XT.ii_gt_f hc13) k) ?_
      obtain ⟨T24, X24, e24, st24⟩ := getS (host := "") X12 hx hZ hown (own_w hw 35 rfl) Via.refl e12 (Sta.ext O0.2 SC) (g := (mkF m 13 #[.val (.int x0)] [])) rfl (hb hby d5_13)
      refine Goes.on (T' := T24) (g' := (mkF m 21 #[.val (.int x0)] [(.int (x0 + (128 : Int32))), (.ref ca)])) (fun _ k => st24 _ (XS.iloadN X24.here hx rfl (hb hby d5_16) rfl (XS.sipush X24.here hx rfl (hb hby d5_17) (XS.iadd X24.here hx rfl (hb hby d5_20) rfl k)))) ?_
      obtain ⟨r25, q25, Er25⟩ := HC x0 hc1 hc13
      obtain ⟨cl25, A25, B25, D25⟩ := q25
      refine Goes.on (T' := T24) (g' := (mkF m 22 #[.val (.int x0)] [(.ref r25)])) (fun _ k => X24.aaload hx (by rw [e24]; exact (Arr.ext O0.2 A25).1) (State.isArrayOf_alike hZ.alike A25.2.1) rfl A25.2.2 B25 D25 (g := (mkF m 21 #[.val (.int x0)] [(.int (x0 + (128 : Int32))), (.ref ca)])) rfl rfl (hb hby d5_21) _ k) ?_
      exact Goes.retA X24 hx hlk hret rfl rfl (hb hby d5_22) (by decide) (by decide) (by rw [e24]; exact ⟨_, rfl, N0, K0, (Exa.ext O0.2 Er25)⟩)
theorem own_small {t : Jvm.Term} {args : Array Value} {first s : State} {o : Option Outcome} {idx : List Nat} {v : Value} {a : Addr} {cell : Cell} (h : (Jvm.Term.length t).eval args first o idx s = some v) (ht : t.eval args first o idx s = some (.ref a)) (hc : s.arrayAt? a = some cell) : cell.slots.size < 2 ^ 31 := by
  by_cases p : cell.slots.size < 2 ^ 31
  · exact p
  · simp [Term.eval, ht, hc, p] at h
theorem own_cache {s : State} {args : Array Value} {ca : Addr} {C n d : String} {D : Jvm.Cond} (ec : (Jvm.Term.static C n d).eval args s none [] s = some (.ref ca))
    (h4 : (Jvm.Cond.arrayOf (.static C n d) (.object "java/lang/Integer")).value args s none s [] = some true) (h6 : (Jvm.Cond.eq (.length (.static C n d)) (.int (256 : Int32))).value args s none s [] = some true)
    (h7 : (Jvm.Cond.all (.static C n d) (.and (.exactly (.elem (.static C n d) (.index 0)) "java/lang/Integer") D)).value args s none s [] = some true) :
    ∀ x : Int32, ¬ x < (-128 : Int32) → ¬ (127 : Int32) < x → ∃ r, (∃ cl, Arr s s.heap ca cl (.object "java/lang/Integer") ∧ ¬ ((x + (128 : Int32)) < 0 ∨ cl.slots.size ≤ (x + (128 : Int32)).toNatClampNeg) ∧ cl.slots[(x + (128 : Int32)).toNatClampNeg]? = some (.ref r)) ∧ Exa s s.heap r "java/lang/Integer" := by
  intro x hx1 hx2
  obtain ⟨cl, A⟩ := Arr.start ec h4
  have hA := A.fin (Vm.Alike.refl _)
  have h6' := eqInt h6
  obtain ⟨x', cl', e1, e2, e3⟩ := Term.length_spec h6'
  cases ec.symm.trans e1
  cases hA.symm.trans e2
  have a := c_iadd x (128 : Int32)
  have k1 : (128 : Int32).toInt = 128 := rfl
  have k2 : (-128 : Int32).toInt = -128 := rfl
  have k3 : (127 : Int32).toInt = 127 := rfl
  have k0 : (0 : Int32).toInt = 0 := rfl
  have k256 : (256 : Int32).toInt = 256 := rfl
  rw [Int32.lt_iff_toInt_lt] at hx1 hx2
  have r := rng32 (x + (128 : Int32))
  have r' := rng32 x
  have hj0 : ¬ (x + (128 : Int32)) < 0 := by rw [Int32.lt_iff_toInt_lt]; omega
  have hs0 := own_small h6' ec hA
  have hs : cl.slots.size = 256 := by
    have q := congrArg Int32.toInt (Value.int.inj e3)
    rw [len_toInt hs0, k256] at q
    omega
  have hlt : (x + (128 : Int32)).toNatClampNeg < 256 := by simp only [Int32.toNatClampNeg]; omega
  have q := Cond.all_elim ec hA h7 (x + (128 : Int32)).toNatClampNeg (by omega)
  obtain ⟨q1, -⟩ := and_e q
  obtain ⟨rr, er⟩ := exa_v q1
  have hi := idx_at (args := args) (s := s) (first := s) (o := none) hj0
  have E := exa_at er q1
  have el := elem_in er (show (Jvm.Term.static C n d).eval args s none [(x + (128 : Int32)).toNatClampNeg] s = some (.ref ca) from ec) hi A.1
  exact ⟨rr, ⟨cl, A, el.1, el.2⟩, E⟩

theorem pd_2 : parseMethodDescriptor "(I)Lcom/example/arcbind/arcbind/ArcbindException$Reason;" = some ⟨[.int], some (.object "com/example/arcbind/arcbind/ArcbindException$Reason")⟩ := by decide +kernel
theorem pd_3 : parseMethodDescriptor "(Lcom/example/arcbind/arcbind/ArcbindException$Reason;I)V" = some ⟨[(.object "com/example/arcbind/arcbind/ArcbindException$Reason"), .int], none⟩ := by decide +kernel
theorem pd_4 : parseMethodDescriptor "(Ljava/lang/Object;)Z" = some ⟨[(.object "java/lang/Object")], some .boolean⟩ := by decide +kernel
theorem pd_5 : parseMethodDescriptor "(I)Ljava/lang/Integer;" = some ⟨[.int], some (.object "java/lang/Integer")⟩ := by decide +kernel
theorem ef_7 (m : MethodId) (x0 : Int32) (x1 : Int32) (x2 : Int32) (x3 : Int32) (x4 : Int32) : entryFrame m #[(.int x0), (.int x1), (.int x2), (.int x3), (.int x4)] maxLocals = mkF m 0 #[.val (.int x0), .val (.int x1), .val (.int x2), .val (.int x3), .val (.int x4), .unset, .unset, .unset, .unset, .unset, .unset, .unset, .unset, .unset, .unset, .unset] [] := by first | (simp [entryFrame, mkF, argsToLocals, Value.category, maxLocals]; done) | rfl
set_option maxRecDepth 65536 in
set_option maxHeartbeats 40000000 in
theorem rm0 (l : Launch) (Z : State) (a0 : Array Value) (hw : ∀ d ∈ tables_1, d.before a0 Z = true) (x0 x1 x2 x3 x4 : Int32) (h0 : Heap) (n0 : Nat) (Z0 : n0 ≤ h0.size) (O0 : Old Z n0 h0) (k0 : Addr) (k1 : Addr) (k2 : Addr) (k3 : Addr) (ST_k0 : Sta Z Z.heap "com/example/arcbind/arcbind/ArcbindException$Reason" "VALUE_STARTS_WITH_0X80" "Lcom/example/arcbind/arcbind/ArcbindException$Reason;" (.ref k0)) (EX_k0 : Exa Z Z.heap k0 "com/example/arcbind/arcbind/ArcbindException$Reason") (ST_k1 : Sta Z Z.heap "com/example/arcbind/arcbind/ArcbindException$Reason" "CONTENT_NOT_A_BYTE_STRING" "Lcom/example/arcbind/arcbind/ArcbindException$Reason;" (.ref k1)) (EX_k1 : Exa Z Z.heap k1 "com/example/arcbind/arcbind/ArcbindException$Reason") (ST_k2 : Sta Z Z.heap "com/example/arcbind/arcbind/ArcbindException$Reason" "EMPTY_ABSOLUTE_CONTENT" "Lcom/example/arcbind/arcbind/ArcbindException$Reason;" (.ref k2)) (EX_k2 : Exa Z Z.heap k2 "com/example/arcbind/arcbind/ArcbindException$Reason") (ST_k3 : Sta Z Z.heap "com/example/arcbind/arcbind/ArcbindException$Reason" "UNFINISHED_VALUE" "Lcom/example/arcbind/arcbind/ArcbindException$Reason;" (.ref k3)) (EX_k3 : Exa Z Z.heap k3 "com/example/arcbind/arcbind/ArcbindException$Reason") (FZ2 : Fld Z Z.heap k0 "java/lang/Enum" "ordinal" "I" (.int (6 : Int32))) (FZ3 : Fld Z Z.heap k1 "java/lang/Enum" "ordinal" "I" (.int (21 : Int32))) (FZ5 : Fld Z Z.heap k2 "java/lang/Enum" "ordinal" "I" (.int (8 : Int32))) (FZ7 : Fld Z Z.heap k3 "java/lang/Enum" "ordinal" "I" (.int (7 : Int32))) (ca : Addr) (SH : Sta Z Z.heap "java/lang/Integer$IntegerCache" "high" "I" (.int (127 : Int32))) (SC : Sta Z Z.heap "java/lang/Integer$IntegerCache" "cache" "[Ljava/lang/Integer;" (.ref ca)) (HC : ∀ x : Int32, ¬ x < (-128 : Int32) → ¬ (127 : Int32) < x → ∃ r, (∃ cl, Arr Z Z.heap ca cl (.object "java/lang/Integer") ∧ ¬ ((x + (128 : Int32)) < 0 ∨ cl.slots.size ≤ (x + (128 : Int32)).toNatClampNeg) ∧ cl.slots[(x + (128 : Int32)).toNatClampNeg]? = some (.ref r)) ∧ Exa Z Z.heap r "java/lang/Integer") :
    Pays l Z x code maxLocals ret tables_1 room_1 #[(.int x0), (.int x1), (.int x2), (.int x3), (.int x4)] h0 (fun v h L => v = some (.int (1 : Int32)) ∧ Fr n0 L) := by
  refine Pays.walk (plainFor_of_name pn_0) (fun m => ef_7 m x0 x1 x2 x3 x4 ) ?_
  intro p e s m below meth c T0 X0 hx hby hml hown hnm hZ e0 hret hlk
  have hown : s.vm.findClass "com/example/arcbind/arcbind/ViolationEqualsPinLaw" = some m.cls := hown
  have N0 := Fr.nil n0
  refine Goes.on (T' := T0) (g' := (mkF m 1 #[.val (.int x0), .val (.int x1), .val (.int x2), .val (.int x3), .val (.int x4), .unset, .unset, .unset, .unset, .unset, .unset, .unset, .unset, .unset, .unset, .unset] [(.int x0)])) (fun _ k => XS.iloadN X0.here hx rfl (hb hby at_0) rfl k) ?_
  obtain ⟨rp, hrp⟩ := own_ref x0 k0 k3 k2 k1
  refine Goes.callS X0 hx hZ 0 hown (own_w hw 0 rfl) (own_w hw 1 rfl) (own_w hw 2 rfl) (own_w hw 3 rfl) (by decide) e0 (rmP l Z a0 hw x0 k0 k3 k2 k1 h0 n0 Z0 (Sta.ext O0.2 ST_k0) (Sta.ext O0.2 ST_k3) (Sta.ext O0.2 ST_k2) (Sta.ext O0.2 ST_k1)) (by decide) (by decide) (by decide) (by decide) rfl (by rw [hml]; rfl) (argsL := [(.int x0)]) (rest := []) rfl (lenOf pd_2 rfl) rfl (by show 2 * 0 + _ ≤ _; exact Nat.le_of_eq rfl) (hb hby at_1) ?_
  intro v1 T1 L1 X1 hQ1
  obtain ⟨rfl, N1q, e1⟩ := hQ1
  have N1 := Fr.app N0 N1q
  show Goes p e below _ T1 (mkF m 4 #[.val (.int x0), .val (.int x1), .val (.int x2), .val (.int x3), .val (.int x4), .unset, .unset, .unset, .unset, .unset, .unset, .unset, .unset, .unset, .unset, .unset] [(FP x0 k0 k3 k2 k1)])
  rw [hrp]
  refine Goes.on (T' := T1) (g' := (mkF m 7 #[.val (.int x0), .val (.int x1), .val (.int x2), .val (.int x3), .val (.int x4), .val (.ref rp), .unset, .unset, .unset, .unset, .unset, .unset, .unset, .unset, .unset, .unset] [(.int x1)])) (fun _ k => XS.astore X1.here hx rfl (hb hby at_4) rfl rfl (l' := #[.val (.int x0), .val (.int x1), .val (.int x2), .val (.int x3), .val (.int x4), .val (.ref rp), .unset, .unset, .unset, .unset, .unset, .unset, .unset, .unset, .unset, .unset]) rfl (XS.iloadN X1.here hx rfl (hb hby at_6) rfl k)) ?_
  obtain ⟨rq, hrq⟩ := own_ref x1 k0 k3 k2 k1
  refine Goes.callS X1 hx hZ 0 hown (own_w hw 0 rfl) (own_w hw 1 rfl) (own_w hw 2 rfl) (own_w hw 3 rfl) (by decide) e1 (rmP l Z a0 hw x1 k0 k3 k2 k1 h0 n0 Z0 (Sta.ext O0.2 ST_k0) (Sta.ext O0.2 ST_k3) (Sta.ext O0.2 ST_k2) (Sta.ext O0.2 ST_k1)) (by decide) (by decide) (by decide) (by decide) rfl (by rw [hml]; rfl) (argsL := [(.int x1)]) (rest := []) rfl (lenOf pd_2 rfl) rfl (by show 2 * 0 + _ ≤ _; exact Nat.le_of_eq rfl) (hb hby at_7) ?_
  intro v2 T2 L2 X2 hQ2
  obtain ⟨rfl, N2q, e2⟩ := hQ2
  have N2 := Fr.app N1 N2q
  show Goes p e below _ T2 (mkF m 10 #[.val (.int x0), .val (.int x1), .val (.int x2), .val (.int x3), .val (.int x4), .val (.ref rp), .unset, .unset, .unset, .unset, .unset, .unset, .unset, .unset, .unset, .unset] [(FP x1 k0 k3 k2 k1)])
  rw [hrq]
  refine Goes.on (T' := T2) (g' := (mkF m 16 #[.val (.int x0), .val (.int x1), .val (.int x2), .val (.int x3), .val (.int x4), .val (.ref rp), .val (.ref rq), .unset, .unset, .unset, .unset, .unset, .unset, .unset, .unset, .unset] [(.int (x4 &&& (1 : Int32)))])) (fun _ k => XS.astore X2.here hx rfl (hb hby at_10) rfl rfl (l' := #[.val (.int x0), .val (.int x1), .val (.int x2), .val (.int x3), .val (.int x4), .val (.ref rp), .val (.ref rq), .unset, .unset, .unset, .unset, .unset, .unset, .unset, .unset, .unset]) rfl (XS.iload X2.here hx rfl (hb hby at_12) rfl (XS.iconst X2.here hx rfl (hb hby at_14) (XS.iand X2.here hx rfl (hb hby at_15) rfl k)))) ?_
  by_cases hc3 : (x4 &&& (1 : Int32)) = (0 : Int32)
  · refine Goes.on (T' := T2) (g' := (mkF m 26 #[.val (.int x0), .val (.int x1), .val (.int x2), .val (.int x3), .val (.int x4), .val (.ref rp), .val (.ref rq), .val (.int x3), .unset, .unset, .unset, .unset, .unset, .unset, .unset, .unset] [])) (fun _ k => XS.ifYes X2.here hx rfl (pc0 := 16) (pc' := 23) rfl (hb hby at_16) rfl (XT.i0_eq_t hc3) (by decide) (by decide) (XS.iloadN X2.here hx rfl (hb hby at_23) rfl (XS.istore X2.here hx rfl (hb hby at_24) rfl (l' := #[.val (.int x0), .val (.int x1), .val (.int x2), .val (.int x3), .val (.int x4), .val (.ref rp), .val (.ref rq), .val (.int x3), .unset, .unset, .unset, .unset, .unset, .unset, .unset, .unset]) rfl k))) ?_
    obtain ⟨T4, h4, X4, e4, E4, A4, D4, U4, st4⟩ := newO X2 hx hZ hown (own_w hw 9 rfl) (own_w hw 10 rfl) (own_w hw 11 rfl) e2 (g := (mkF m 26 #[.val (.int x0), .val (.int x1), .val (.int x2), .val (.int x3), .val (.int x4), .val (.ref rp), .val (.ref rq), .val (.int x3), .unset, .unset, .unset, .unset, .unset, .unset, .unset, .unset] [])) rfl (hb hby at_26) (by decide) (by decide)
    obtain ⟨a4, g4⟩ : ∃ z, z = h0.size := ⟨_, rfl⟩
    rw [← g4] at A4 D4 U4 st4
    have C5 := O0.ext E4
    have Z10 : n0 ≤ h4.size := Nat.le_trans Z0 E4.1
    have F11 : Fld Z h4 a4 "com/example/arcbind/arcbind/OidContent$Violation" "reason" "Lcom/example/arcbind/arcbind/ArcbindException$Reason;" .null := D4 (Or.inr (own_w hw 19 rfl)) (ty := (.object "com/example/arcbind/arcbind/ArcbindException$Reason")) (by decide)
    have F12 : Fld Z h4 a4 "com/example/arcbind/arcbind/OidContent$Violation" "offset" "I" (.int (0 : Int32)) := D4 (Or.inr (own_w hw 21 rfl)) (ty := .int) (by decide)
    have G4 : n0 ≤ a4 := Nat.le_trans Z0 (Nat.le_of_eq g4.symm)
    refine Goes.on (T' := T4) (g' := (mkF m 33 #[.val (.int x0), .val (.int x1), .val (.int x2), .val (.int x3), .val (.int x4), .val (.ref rp), .val (.ref rq), .val (.int x3), .unset, .unset, .unset, .unset, .unset, .unset, .unset, .unset] [(.int x2), (.ref rp), (.ref a4), (.ref a4)])) (fun _ k => st4 _ (XS.dup X4.here hx rfl (hb hby at_29) rfl rfl (XS.aload X4.here hx rfl (hb hby at_30) rfl rfl (XS.iloadN X4.here hx rfl (hb hby at_32) rfl k)))) ?_
    refine Goes.callC X4 hx hZ 1 rfl hown (own_w hw 12 rfl) (own_w hw 13 rfl) (own_w hw 11 rfl) (own_w hw 14 rfl) (by decide) e4 (rmC l Z a0 hw a4 (.ref rp) x2 h4 n0 Z10 A4 G4 F11 F12 rfl) (by decide) (by decide) (by decide) (by decide) rfl (by rw [hml]; rfl) (a := a4) (argsL := [(.ref rp), (.int x2)]) (rest := [(.ref a4)]) rfl (lenOf pd_3 rfl) rfl (by show 2 * 0 + _ ≤ _; exact Nat.le_of_eq rfl) (hb hby at_33) ?_
    intro v13 T13 L13 X13 hQ13
    obtain ⟨rfl, N13q, K13, A13, B13_reason, B13_offset⟩ := hQ13
    have N13 := Fr.app N2 N13q
    show Goes p e below _ T13 (mkF m 36 #[.val (.int x0), .val (.int x1), .val (.int x2), .val (.int x3), .val (.int x4), .val (.ref rp), .val (.ref rq), .val (.int x3), .unset, .unset, .unset, .unset, .unset, .unset, .unset, .unset] [(.ref a4)])
    have C14 := C5.keep K13 (allS G4 all0)
    have Z16 : n0 ≤ T13.heap.size := Nat.le_trans Z10 K13.1
    refine Goes.on (T' := T13) (g' := (mkF m 38 #[.val (.int x0), .val (.int x1), .val (.int x2), .val (.int x3), .val (.int x4), .val (.ref rp), .val (.ref rq), .val (.int x3), .val (.ref a4), .unset, .unset, .unset, .unset, .unset, .unset, .unset] [])) (fun _ k => XS.astore X13.here hx rfl (hb hby at_36) rfl rfl (l' := #[.val (.int x0), .val (.int x1), .val (.int x2), .val (.int x3), .val (.int x4), .val (.ref rp), .val (.ref rq), .val (.int x3), .val (.ref a4), .unset, .unset, .unset, .unset, .unset, .unset, .unset]) rfl k) ?_
    obtain ⟨T17, h17, X17, e17, E17, A17, D17, U17, st17⟩ := newO X13 hx hZ hown (own_w hw 9 rfl) (own_w hw 10 rfl) (own_w hw 11 rfl) rfl (g := (mkF m 38 #[.val (.int x0), .val (.int x1), .val (.int x2), .val (.int x3), .val (.int x4), .val (.ref rp), .val (.ref rq), .val (.int x3), .val (.ref a4), .unset, .unset, .unset, .unset, .unset, .unset, .unset] [])) rfl (hb hby at_38) (by decide) (by decide)
    obtain ⟨a17, g17⟩ : ∃ z, z = T13.heap.size := ⟨_, rfl⟩
    rw [← g17] at A17 D17 U17 st17
    have C18 := C14.ext E17
    have C19 := A13.ext E17
    have C20 := B13_reason.ext E17
    have C21 := B13_offset.ext E17
    have ne26 : a4 ≠ a17 := Nat.ne_of_lt (Nat.lt_of_lt_of_le (A13).lt (Nat.le_of_eq g17.symm))
    have Z27 : n0 ≤ h17.size := Nat.le_trans Z16 E17.1
    have F28 : Fld Z h17 a17 "com/example/arcbind/arcbind/OidContent$Violation" "reason" "Lcom/example/arcbind/arcbind/ArcbindException$Reason;" .null := D17 (Or.inr (own_w hw 19 rfl)) (ty := (.object "com/example/arcbind/arcbind/ArcbindException$Reason")) (by decide)
    have F29 : Fld Z h17 a17 "com/example/arcbind/arcbind/OidContent$Violation" "offset" "I" (.int (0 : Int32)) := D17 (Or.inr (own_w hw 21 rfl)) (ty := .int) (by decide)
    have G17 : n0 ≤ a17 := Nat.le_trans Z16 (Nat.le_of_eq g17.symm)
    refine Goes.on (T' := T17) (g' := (mkF m 46 #[.val (.int x0), .val (.int x1), .val (.int x2), .val (.int x3), .val (.int x4), .val (.ref rp), .val (.ref rq), .val (.int x3), .val (.ref a4), .unset, .unset, .unset, .unset, .unset, .unset, .unset] [(.int x3), (.ref rq), (.ref a17), (.ref a17)])) (fun _ k => st17 _ (XS.dup X17.here hx rfl (hb hby at_41) rfl rfl (XS.aload X17.here hx rfl (hb hby at_42) rfl rfl (XS.iload X17.here hx rfl (hb hby at_44) rfl k)))) ?_
    refine Goes.callC X17 hx hZ 1 rfl hown (own_w hw 12 rfl) (own_w hw 13 rfl) (own_w hw 11 rfl) (own_w hw 14 rfl) (by decide) e17 (rmC l Z a0 hw a17 (.ref rq) x3 h17 n0 Z27 A17 G17 F28 F29 rfl) (by decide) (by decide) (by decide) (by decide) rfl (by rw [hml]; rfl) (a := a17) (argsL := [(.ref rq), (.int x3)]) (rest := [(.ref a17)]) rfl (lenOf pd_3 rfl) rfl (by show 2 * 0 + _ ≤ _; exact Nat.le_of_eq rfl) (hb hby at_46) ?_
    intro v30 T30 L30 X30 hQ30
    obtain ⟨rfl, N30q, K30, A30, B30_reason, B30_offset⟩ := hQ30
    have N30 := Fr.app N13 N30q
    show Goes p e below _ T30 (mkF m 49 #[.val (.int x0), .val (.int x1), .val (.int x2), .val (.int x3), .val (.int x4), .val (.ref rp), .val (.ref rq), .val (.int x3), .val (.ref a4), .unset, .unset, .unset, .unset, .unset, .unset, .unset] [(.ref a17)])
    have C31 := C18.keep K30 (allS G17 all0)
    have C32 := C19.keep K30
    have C33 := C20.keep K30 (ninS ne26 nin0)
    have C34 := C21.keep K30 (ninS ne26 nin0)
    have Z36 : n0 ≤ T30.heap.size := Nat.le_trans Z27 K30.1
    refine Goes.on (T' := T30) (g' := (mkF m 55 #[.val (.int x0), .val (.int x1), .val (.int x2), .val (.int x3), .val (.int x4), .val (.ref rp), .val (.ref rq), .val (.int x3), .val (.ref a4), .val (.ref a17), .unset, .unset, .unset, .unset, .unset, .unset] [(.ref rq), (.ref rp)])) (fun _ k => XS.astore X30.here hx rfl (hb hby at_49) rfl rfl (l' := #[.val (.int x0), .val (.int x1), .val (.int x2), .val (.int x3), .val (.int x4), .val (.ref rp), .val (.ref rq), .val (.int x3), .val (.ref a4), .val (.ref a17), .unset, .unset, .unset, .unset, .unset, .unset]) rfl (XS.aload X30.here hx rfl (hb hby at_51) rfl rfl (XS.aload X30.here hx rfl (hb hby at_53) rfl rfl k))) ?_
    by_cases hc37 : ((.ref rp) : Value) = (.ref rq)
    · refine Goes.on (T' := T30) (g' := (mkF m 61 #[.val (.int x0), .val (.int x1), .val (.int x2), .val (.int x3), .val (.int x4), .val (.ref rp), .val (.ref rq), .val (.int x3), .val (.ref a4), .val (.ref a17), .unset, .unset, .unset, .unset, .unset, .unset] [(.int x3), (.int x2)])) (fun _ k => XT.acmpNo X30.here hx rfl (hb hby at_55) rfl rfl rfl (XT.aa_ne_f hc37) (XS.iloadN X30.here hx rfl (hb hby at_58) rfl (XS.iload X30.here hx rfl (hb hby at_59) rfl k))) ?_
      by_cases hc38 : x2 = x3
      · refine Goes.on (T' := T30) (g' := (mkF m 75 #[.val (.int x0), .val (.int x1), .val (.int x2), .val (.int x3), .val (.int x4), .val (.ref rp), .val (.ref rq), .val (.int x3), .val (.ref a4), .val (.ref a17), .val (.int (1 : Int32)), .unset, .unset, .unset, .unset, .unset] [(.ref a17), (.ref a4)])) (fun _ k => XS.icmpNo X30.here hx rfl (hb hby at_61) rfl (XT.ii_ne_f hc38) (XS.iconst X30.here hx rfl (hb hby at_64) (XS.goto X30.here hx rfl (pc0 := 65) (pc' := 69) rfl (hb hby at_65) (by decide) (by decide) (XS.istore X30.here hx rfl (hb hby at_69) rfl (l' := #[.val (.int x0), .val (.int x1), .val (.int x2), .val (.int x3), .val (.int x4), .val (.ref rp), .val (.ref rq), .val (.int x3), .val (.ref a4), .val (.ref a17), .val (.int (1 : Int32)), .unset, .unset, .unset, .unset, .unset]) rfl (XS.aload X30.here hx rfl (hb hby at_71) rfl rfl (XS.aload X30.here hx rfl (hb hby at_73) rfl rfl k)))))) ?_
        refine Goes.callV X30 hx hZ 0 hown (own_w hw 22 rfl) (own_w hw 23 rfl) (notFace_of_selects (args := #[]) (mvT hZ (own_w hw 25 rfl))) (own_w hw 25 rfl) (own_w hw 24 rfl) (own_w hw 11 rfl) (own_w hw 26 rfl) (by decide) rfl C32 (rmE l Z a0 hw a4 a17 rp rq x2 x3 T30.heap n0 Z36 A30 C33 C34 B30_reason B30_offset) (by decide) (by decide) (by decide) (by decide) rfl (by rw [hml]; rfl) (argsL := [(.ref a17)]) (rest := []) rfl (lenOf pd_4 rfl) rfl (by show 2 * 0 + _ ≤ _; exact Nat.le_of_eq rfl) (hb hby at_75) ?_
        intro v39 T39 L39 X39 hQ39
        obtain ⟨rfl, N39q, e39⟩ := hQ39
        have N39 := Fr.app N30 N39q
        show Goes p e below _ T39 (mkF m 78 #[.val (.int x0), .val (.int x1), .val (.int x2), .val (.int x3), .val (.int x4), .val (.ref rp), .val (.ref rq), .val (.int x3), .val (.ref a4), .val (.ref a17), .val (.int (1 : Int32)), .unset, .unset, .unset, .unset, .unset] [(.int (FE rp rq x2 x3))])
        rw [show (FE rp rq x2 x3) = (1 : Int32) from by unfold FE; rw [if_pos hc37, if_pos hc38]]
        refine Goes.on (T' := T39) (g' := (mkF m 94 #[.val (.int x0), .val (.int x1), .val (.int x2), .val (.int x3), .val (.int x4), .val (.ref rp), .val (.ref rq), .val (.int x3), .val (.ref a4), .val (.ref a17), .val (.int (1 : Int32)), .val (.int (1 : Int32)), .unset, .unset, .unset, .unset] [(.ref a4), (.ref a17)])) (fun _ k => XS.iload X39.here hx rfl (hb hby at_78) rfl (XS.icmpNo X39.here hx rfl (hb hby at_80) rfl (XT.ii_ne_f (by decide)) (XS.iconst X39.here hx rfl (hb hby at_83) (XS.goto X39.here hx rfl (pc0 := 84) (pc' := 88) rfl (hb hby at_84) (by decide) (by decide) (XS.istore X39.here hx rfl (hb hby at_88) rfl (l' := #[.val (.int x0), .val (.int x1), .val (.int x2), .val (.int x3), .val (.int x4), .val (.ref rp), .val (.ref rq), .val (.int x3), .val (.ref a4), .val (.ref a17), .val (.int (1 : Int32)), .val (.int (1 : Int32)), .unset, .unset, .unset, .unset]) rfl (XS.aload X39.here hx rfl (hb hby at_90) rfl rfl (XS.aload X39.here hx rfl (hb hby at_92) rfl rfl k))))))) ?_
        refine Goes.callV X39 hx hZ 0 hown (own_w hw 22 rfl) (own_w hw 23 rfl) (notFace_of_selects (args := #[]) (mvT hZ (own_w hw 25 rfl))) (own_w hw 25 rfl) (own_w hw 24 rfl) (own_w hw 11 rfl) (own_w hw 26 rfl) (by decide) e39 A30 (rmE l Z a0 hw a17 a4 rq rp x3 x2 T30.heap n0 Z36 C32 B30_reason B30_offset C33 C34) (by decide) (by decide) (by decide) (by decide) rfl (by rw [hml]; rfl) (argsL := [(.ref a4)]) (rest := []) rfl (lenOf pd_4 rfl) rfl (by show 2 * 0 + _ ≤ _; exact Nat.le_of_eq rfl) (hb hby at_94) ?_
        intro v40 T40 L40 X40 hQ40
        obtain ⟨rfl, N40q, e40⟩ := hQ40
        have N40 := Fr.app N39 N40q
        show Goes p e below _ T40 (mkF m 97 #[.val (.int x0), .val (.int x1), .val (.int x2), .val (.int x3), .val (.int x4), .val (.ref rp), .val (.ref rq), .val (.int x3), .val (.ref a4), .val (.ref a17), .val (.int (1 : Int32)), .val (.int (1 : Int32)), .unset, .unset, .unset, .unset] [(.int (FE rq rp x3 x2))])
        rw [show (FE rq rp x3 x2) = (1 : Int32) from by unfold FE; rw [if_pos hc37.symm, if_pos hc38.symm]]
        refine Goes.on (T' := T40) (g' := (mkF m 113 #[.val (.int x0), .val (.int x1), .val (.int x2), .val (.int x3), .val (.int x4), .val (.ref rp), .val (.ref rq), .val (.int x3), .val (.ref a4), .val (.ref a17), .val (.int (1 : Int32)), .val (.int (1 : Int32)), .val (.int (1 : Int32)), .unset, .unset, .unset] [(.ref a4), (.ref a4)])) (fun _ k => XS.iload X40.here hx rfl (hb hby at_97) rfl (XS.icmpNo X40.here hx rfl (hb hby at_99) rfl (XT.ii_ne_f (by decide)) (XS.iconst X40.here hx rfl (hb hby at_102) (XS.goto X40.here hx rfl (pc0 := 103) (pc' := 107) rfl (hb hby at_103) (by decide) (by decide) (XS.istore X40.here hx rfl (hb hby at_107) rfl (l' := #[.val (.int x0), .val (.int x1), .val (.int x2), .val (.int x3), .val (.int x4), .val (.ref rp), .val (.ref rq), .val (.int x3), .val (.ref a4), .val (.ref a17), .val (.int (1 : Int32)), .val (.int (1 : Int32)), .val (.int (1 : Int32)), .unset, .unset, .unset]) rfl (XS.aload X40.here hx rfl (hb hby at_109) rfl rfl (XS.aload X40.here hx rfl (hb hby at_111) rfl rfl k))))))) ?_
        refine Goes.callV X40 hx hZ 0 hown (own_w hw 22 rfl) (own_w hw 23 rfl) (notFace_of_selects (args := #[]) (mvT hZ (own_w hw 25 rfl))) (own_w hw 25 rfl) (own_w hw 24 rfl) (own_w hw 11 rfl) (own_w hw 26 rfl) (by decide) e40 C32 (rmE l Z a0 hw a4 a4 rp rp x2 x2 T30.heap n0 Z36 C32 C33 C34 C33 C34) (by decide) (by decide) (by decide) (by decide) rfl (by rw [hml]; rfl) (argsL := [(.ref a4)]) (rest := []) rfl (lenOf pd_4 rfl) rfl (by show 2 * 0 + _ ≤ _; exact Nat.le_of_eq rfl) (hb hby at_113) ?_
        intro v41 T41 L41 X41 hQ41
        obtain ⟨rfl, N41q, e41⟩ := hQ41
        have N41 := Fr.app N40 N41q
        show Goes p e below _ T41 (mkF m 116 #[.val (.int x0), .val (.int x1), .val (.int x2), .val (.int x3), .val (.int x4), .val (.ref rp), .val (.ref rq), .val (.int x3), .val (.ref a4), .val (.ref a17), .val (.int (1 : Int32)), .val (.int (1 : Int32)), .val (.int (1 : Int32)), .unset, .unset, .unset] [(.int (FE rp rp x2 x2))])
        rw [show (FE rp rp x2 x2) = (1 : Int32) from by unfold FE; rw [if_pos rfl, if_pos rfl]]
        refine Goes.on (T' := T41) (g' := (mkF m 121 #[.val (.int x0), .val (.int x1), .val (.int x2), .val (.int x3), .val (.int x4), .val (.ref rp), .val (.ref rq), .val (.int x3), .val (.ref a4), .val (.ref a17), .val (.int (1 : Int32)), .val (.int (1 : Int32)), .val (.int (1 : Int32)), .val (.int (1 : Int32)), .unset, .unset] [.null, (.ref a4)])) (fun _ k => XS.istore X41.here hx rfl (hb hby at_116) rfl (l' := #[.val (.int x0), .val (.int x1), .val (.int x2), .val (.int x3), .val (.int x4), .val (.ref rp), .val (.ref rq), .val (.int x3), .val (.ref a4), .val (.ref a17), .val (.int (1 : Int32)), .val (.int (1 : Int32)), .val (.int (1 : Int32)), .val (.int (1 : Int32)), .unset, .unset]) rfl (XS.aload X41.here hx rfl (hb hby at_118) rfl rfl (XS.aconstNull X41.here hx rfl (hb hby at_120) k))) ?_
        refine Goes.callV X41 hx hZ 0 hown (own_w hw 22 rfl) (own_w hw 23 rfl) (notFace_of_selects (args := #[]) (mvT hZ (own_w hw 25 rfl))) (own_w hw 25 rfl) (own_w hw 24 rfl) (own_w hw 11 rfl) (own_w hw 26 rfl) (by decide) e41 C32 (rmN l Z a0 hw a4 T30.heap n0 Z36) (by decide) (by decide) (by decide) (by decide) rfl (by rw [hml]; rfl) (argsL := [.null]) (rest := []) rfl (lenOf pd_4 rfl) rfl (by show 2 * 0 + _ ≤ _; exact Nat.le_of_eq rfl) (hb hby at_121) ?_
        intro v42 T42 L42 X42 hQ42
        obtain ⟨rfl, N42q, e42⟩ := hQ42
        have N42 := Fr.app N41 N42q
        show Goes p e below _ T42 (mkF m 124 #[.val (.int x0), .val (.int x1), .val (.int x2), .val (.int x3), .val (.int x4), .val (.ref rp), .val (.ref rq), .val (.int x3), .val (.ref a4), .val (.ref a17), .val (.int (1 : Int32)), .val (.int (1 : Int32)), .val (.int (1 : Int32)), .val (.int (1 : Int32)), .unset, .unset] [(.int (0 : Int32))])
        refine Goes.on (T' := T42) (g' := (mkF m 137 #[.val (.int x0), .val (.int x1), .val (.int x2), .val (.int x3), .val (.int x4), .val (.ref rp), .val (.ref rq), .val (.int x3), .val (.ref a4), .val (.ref a17), .val (.int (1 : Int32)), .val (.int (1 : Int32)), .val (.int (1 : Int32)), .val (.int (1 : Int32)), .val (.int (1 : Int32)), .unset] [(.int x2), (.ref a4)])) (fun _ k => XS.ifNo X42.here hx rfl (hb hby at_124) rfl (XT.i0_ne_f (by decide)) (XS.iconst X42.here hx rfl (hb hby at_127) (XS.goto X42.here hx rfl (pc0 := 128) (pc' := 132) rfl (hb hby at_128) (by decide) (by decide) (XS.istore X42.here hx rfl (hb hby at_132) rfl (l' := #[.val (.int x0), .val (.int x1), .val (.int x2), .val (.int x3), .val (.int x4), .val (.ref rp), .val (.ref rq), .val (.int x3), .val (.ref a4), .val (.ref a17), .val (.int (1 : Int32)), .val (.int (1 : Int32)), .val (.int (1 : Int32)), .val (.int (1 : Int32)), .val (.int (1 : Int32)), .unset]) rfl (XS.aload X42.here hx rfl (hb hby at_134) rfl rfl (XS.iloadN X42.here hx rfl (hb hby at_136) rfl k)))))) ?_
        refine Goes.callS X42 hx hZ 1 hown (own_w hw 29 rfl) (own_w hw 30 rfl) (own_w hw 31 rfl) (own_w hw 32 rfl) (by decide) e42 (rmK l Z a0 hw x2 T30.heap n0 Z36 C31 ca SH SC HC) (by decide) (by decide) (by decide) (by decide) rfl (by rw [hml]; rfl) (argsL := [(.int x2)]) (rest := [(.ref a4)]) rfl (lenOf pd_5 rfl) rfl (by show 2 * 0 + _ ≤ _; exact Nat.le_of_eq rfl) (hb hby at_137) ?_
        intro v43 T43 L43 X43 hQ43
        obtain ⟨rI, rfl, N43q, K43, A43⟩ := hQ43
        have N43 := Fr.app N42 N43q
        show Goes p e below _ T43 (mkF m 140 #[.val (.int x0), .val (.int x1), .val (.int x2), .val (.int x3), .val (.int x4), .val (.ref rp), .val (.ref rq), .val (.int x3), .val (.ref a4), .val (.ref a17), .val (.int (1 : Int32)), .val (.int (1 : Int32)), .val (.int (1 : Int32)), .val (.int (1 : Int32)), .val (.int (1 : Int32)), .unset] [(.ref rI), (.ref a4)])
        have C45 := C32.keep K43
        have Z51 : n0 ≤ T43.heap.size := Nat.le_trans Z36 K43.1
        refine Goes.callV X43 hx hZ 0 hown (own_w hw 22 rfl) (own_w hw 23 rfl) (notFace_of_selects (args := #[]) (mvT hZ (own_w hw 25 rfl))) (own_w hw 25 rfl) (own_w hw 24 rfl) (own_w hw 11 rfl) (own_w hw 26 rfl) (by decide) rfl C45 (rmI l Z a0 hw a4 rI T43.heap n0 Z51 A43) (by decide) (by decide) (by decide) (by decide) rfl (by rw [hml]; rfl) (argsL := [(.ref rI)]) (rest := []) rfl (lenOf pd_4 rfl) rfl (by show 2 * 0 + _ ≤ _; exact Nat.le_of_eq rfl) (hb hby at_140) ?_
        intro v52 T52 L52 X52 hQ52
        obtain ⟨rfl, N52q, e52⟩ := hQ52
        have N52 := Fr.app N43 N52q
        show Goes p e below _ T52 (mkF m 143 #[.val (.int x0), .val (.int x1), .val (.int x2), .val (.int x3), .val (.int x4), .val (.ref rp), .val (.ref rq), .val (.int x3), .val (.ref a4), .val (.ref a17), .val (.int (1 : Int32)), .val (.int (1 : Int32)), .val (.int (1 : Int32)), .val (.int (1 : Int32)), .val (.int (1 : Int32)), .unset] [(.int (0 : Int32))])
        refine Goes.on (T' := T52) (g' := (mkF m 173 #[.val (.int x0), .val (.int x1), .val (.int x2), .val (.int x3), .val (.int x4), .val (.ref rp), .val (.ref rq), .val (.int x3), .val (.ref a4), .val (.ref a17), .val (.int (1 : Int32)), .val (.int (1 : Int32)), .val (.int (1 : Int32)), .val (.int (1 : Int32)), .val (.int (1 : Int32)), .val (.int (1 : Int32))] [])) (fun _ k => XS.ifNo X52.here hx rfl (hb hby at_143) rfl (XT.i0_ne_f (by decide)) (XS.iconst X52.here hx rfl (hb hby at_146) (XS.goto X52.here hx rfl (pc0 := 147) (pc' := 151) rfl (hb hby at_147) (by decide) (by decide) (XS.istore X52.here hx rfl (hb hby at_151) rfl (l' := #[.val (.int x0), .val (.int x1), .val (.int x2), .val (.int x3), .val (.int x4), .val (.ref rp), .val (.ref rq), .val (.int x3), .val (.ref a4), .val (.ref a17), .val (.int (1 : Int32)), .val (.int (1 : Int32)), .val (.int (1 : Int32)), .val (.int (1 : Int32)), .val (.int (1 : Int32)), .val (.int (1 : Int32))]) rfl (XS.iload X52.here hx rfl (hb hby at_153) rfl (XS.ifNo X52.here hx rfl (hb hby at_155) rfl (XT.i0_eq_f (by decide)) (XS.iload X52.here hx rfl (hb hby at_158) rfl (XS.ifNo X52.here hx rfl (hb hby at_160) rfl (XT.i0_eq_f (by decide)) (XS.iload X52.here hx rfl (hb hby at_163) rfl (XS.ifNo X52.here hx rfl (hb hby at_165) rfl (XT.i0_eq_f (by decide)) (XS.iload X52.here hx rfl (hb hby at_168) rfl (XS.ifNo X52.here hx rfl (hb hby at_170) rfl (XT.i0_eq_f (by decide)) k)))))))))))) ?_
        refine Goes.on (T' := T52) (g' := (mkF m 183 #[.val (.int x0), .val (.int x1), .val (.int x2), .val (.int x3), .val (.int x4), .val (.ref rp), .val (.ref rq), .val (.int x3), .val (.ref a4), .val (.ref a17), .val (.int (1 : Int32)), .val (.int (1 : Int32)), .val (.int (1 : Int32)), .val (.int (1 : Int32)), .val (.int (1 : Int32)), .val (.int (1 : Int32))] [(.int (1 : Int32))])) (fun _ k => XS.iload X52.here hx rfl (hb hby at_173) rfl (XS.ifNo X52.here hx rfl (hb hby at_175) rfl (XT.i0_eq_f (by decide)) (XS.iconst X52.here hx rfl (hb hby at_178) (XS.goto X52.here hx rfl (pc0 := 179) (pc' := 183) rfl (hb hby at_179) (by decide) (by decide) k)))) ?_
        exact Goes.retB X52 hx hlk hret (Or.inr rfl) (hb hby at_183) (by decide) (by decide) ⟨rfl, N52⟩
      · refine Goes.on (T' := T30) (g' := (mkF m 75 #[.val (.int x0), .val (.int x1), .val (.int x2), .val (.int x3), .val (.int x4), .val (.ref rp), .val (.ref rq), .val (.int x3), .val (.ref a4), .val (.ref a17), .val (.int (0 : Int32)), .unset, .unset, .unset, .unset, .unset] [(.ref a17), (.ref a4)])) (fun _ k => XS.icmpYes X30.here hx rfl (pc0 := 61) (pc' := 68) rfl (hb hby at_61) rfl (XT.ii_ne_t hc38) (by decide) (by decide) (XS.iconst X30.here hx rfl (hb hby at_68) (XS.istore X30.here hx rfl (hb hby at_69) rfl (l' := #[.val (.int x0), .val (.int x1), .val (.int x2), .val (.int x3), .val (.int x4), .val (.ref rp), .val (.ref rq), .val (.int x3), .val (.ref a4), .val (.ref a17), .val (.int (0 : Int32)), .unset, .unset, .unset, .unset, .unset]) rfl (XS.aload X30.here hx rfl (hb hby at_71) rfl rfl (XS.aload X30.here hx rfl (hb hby at_73) rfl rfl k))))) ?_
        refine Goes.callV X30 hx hZ 0 hown (own_w hw 22 rfl) (own_w hw 23 rfl) (notFace_of_selects (args := #[]) (mvT hZ (own_w hw 25 rfl))) (own_w hw 25 rfl) (own_w hw 24 rfl) (own_w hw 11 rfl) (own_w hw 26 rfl) (by decide) rfl C32 (rmE l Z a0 hw a4 a17 rp rq x2 x3 T30.heap n0 Z36 A30 C33 C34 B30_reason B30_offset) (by decide) (by decide) (by decide) (by decide) rfl (by rw [hml]; rfl) (argsL := [(.ref a17)]) (rest := []) rfl (lenOf pd_4 rfl) rfl (by show 2 * 0 + _ ≤ _; exact Nat.le_of_eq rfl) (hb hby at_75) ?_
        intro v53 T53 L53 X53 hQ53
        obtain ⟨rfl, N53q, e53⟩ := hQ53
        have N53 := Fr.app N30 N53q
        show Goes p e below _ T53 (mkF m 78 #[.val (.int x0), .val (.int x1), .val (.int x2), .val (.int x3), .val (.int x4), .val (.ref rp), .val (.ref rq), .val (.int x3), .val (.ref a4), .val (.ref a17), .val (.int (0 : Int32)), .unset, .unset, .unset, .unset, .unset] [(.int (FE rp rq x2 x3))])
        rw [show (FE rp rq x2 x3) = (0 : Int32) from by unfold FE; rw [if_pos hc37, if_neg hc38]]
        refine Goes.on (T' := T53) (g' := (mkF m 94 #[.val (.int x0), .val (.int x1), .val (.int x2), .val (.int x3), .val (.int x4), .val (.ref rp), .val (.ref rq), .val (.int x3), .val (.ref a4), .val (.ref a17), .val (.int (0 : Int32)), .val (.int (1 : Int32)), .unset, .unset, .unset, .unset] [(.ref a4), (.ref a17)])) (fun _ k => XS.iload X53.here hx rfl (hb hby at_78) rfl (XS.icmpNo X53.here hx rfl (hb hby at_80) rfl (XT.ii_ne_f (by decide)) (XS.iconst X53.here hx rfl (hb hby at_83) (XS.goto X53.here hx rfl (pc0 := 84) (pc' := 88) rfl (hb hby at_84) (by decide) (by decide) (XS.istore X53.here hx rfl (hb hby at_88) rfl (l' := #[.val (.int x0), .val (.int x1), .val (.int x2), .val (.int x3), .val (.int x4), .val (.ref rp), .val (.ref rq), .val (.int x3), .val (.ref a4), .val (.ref a17), .val (.int (0 : Int32)), .val (.int (1 : Int32)), .unset, .unset, .unset, .unset]) rfl (XS.aload X53.here hx rfl (hb hby at_90) rfl rfl (XS.aload X53.here hx rfl (hb hby at_92) rfl rfl k))))))) ?_
        refine Goes.callV X53 hx hZ 0 hown (own_w hw 22 rfl) (own_w hw 23 rfl) (notFace_of_selects (args := #[]) (mvT hZ (own_w hw 25 rfl))) (own_w hw 25 rfl) (own_w hw 24 rfl) (own_w hw 11 rfl) (own_w hw 26 rfl) (by decide) e53 A30 (rmE l Z a0 hw a17 a4 rq rp x3 x2 T30.heap n0 Z36 C32 B30_reason B30_offset C33 C34) (by decide) (by decide) (by decide) (by decide) rfl (by rw [hml]; rfl) (argsL := [(.ref a4)]) (rest := []) rfl (lenOf pd_4 rfl) rfl (by show 2 * 0 + _ ≤ _; exact Nat.le_of_eq rfl) (hb hby at_94) ?_
        intro v54 T54 L54 X54 hQ54
        obtain ⟨rfl, N54q, e54⟩ := hQ54
        have N54 := Fr.app N53 N54q
        show Goes p e below _ T54 (mkF m 97 #[.val (.int x0), .val (.int x1), .val (.int x2), .val (.int x3), .val (.int x4), .val (.ref rp), .val (.ref rq), .val (.int x3), .val (.ref a4), .val (.ref a17), .val (.int (0 : Int32)), .val (.int (1 : Int32)), .unset, .unset, .unset, .unset] [(.int (FE rq rp x3 x2))])
        rw [show (FE rq rp x3 x2) = (0 : Int32) from by unfold FE; rw [if_pos hc37.symm, if_neg (fun q => hc38 q.symm)]]
        refine Goes.on (T' := T54) (g' := (mkF m 113 #[.val (.int x0), .val (.int x1), .val (.int x2), .val (.int x3), .val (.int x4), .val (.ref rp), .val (.ref rq), .val (.int x3), .val (.ref a4), .val (.ref a17), .val (.int (0 : Int32)), .val (.int (1 : Int32)), .val (.int (1 : Int32)), .unset, .unset, .unset] [(.ref a4), (.ref a4)])) (fun _ k => XS.iload X54.here hx rfl (hb hby at_97) rfl (XS.icmpNo X54.here hx rfl (hb hby at_99) rfl (XT.ii_ne_f (by decide)) (XS.iconst X54.here hx rfl (hb hby at_102) (XS.goto X54.here hx rfl (pc0 := 103) (pc' := 107) rfl (hb hby at_103) (by decide) (by decide) (XS.istore X54.here hx rfl (hb hby at_107) rfl (l' := #[.val (.int x0), .val (.int x1), .val (.int x2), .val (.int x3), .val (.int x4), .val (.ref rp), .val (.ref rq), .val (.int x3), .val (.ref a4), .val (.ref a17), .val (.int (0 : Int32)), .val (.int (1 : Int32)), .val (.int (1 : Int32)), .unset, .unset, .unset]) rfl (XS.aload X54.here hx rfl (hb hby at_109) rfl rfl (XS.aload X54.here hx rfl (hb hby at_111) rfl rfl k))))))) ?_
        refine Goes.callV X54 hx hZ 0 hown (own_w hw 22 rfl) (own_w hw 23 rfl) (notFace_of_selects (args := #[]) (mvT hZ (own_w hw 25 rfl))) (own_w hw 25 rfl) (own_w hw 24 rfl) (own_w hw 11 rfl) (own_w hw 26 rfl) (by decide) e54 C32 (rmE l Z a0 hw a4 a4 rp rp x2 x2 T30.heap n0 Z36 C32 C33 C34 C33 C34) (by decide) (by decide) (by decide) (by decide) rfl (by rw [hml]; rfl) (argsL := [(.ref a4)]) (rest := []) rfl (lenOf pd_4 rfl) rfl (by show 2 * 0 + _ ≤ _; exact Nat.le_of_eq rfl) (hb hby at_113) ?_
        intro v55 T55 L55 X55 hQ55
        obtain ⟨rfl, N55q, e55⟩ := hQ55
        have N55 := Fr.app N54 N55q
        show Goes p e below _ T55 (mkF m 116 #[.val (.int x0), .val (.int x1), .val (.int x2), .val (.int x3), .val (.int x4), .val (.ref rp), .val (.ref rq), .val (.int x3), .val (.ref a4), .val (.ref a17), .val (.int (0 : Int32)), .val (.int (1 : Int32)), .val (.int (1 : Int32)), .unset, .unset, .unset] [(.int (FE rp rp x2 x2))])
        rw [show (FE rp rp x2 x2) = (1 : Int32) from by unfold FE; rw [if_pos rfl, if_pos rfl]]
        refine Goes.on (T' := T55) (g' := (mkF m 121 #[.val (.int x0), .val (.int x1), .val (.int x2), .val (.int x3), .val (.int x4), .val (.ref rp), .val (.ref rq), .val (.int x3), .val (.ref a4), .val (.ref a17), .val (.int (0 : Int32)), .val (.int (1 : Int32)), .val (.int (1 : Int32)), .val (.int (1 : Int32)), .unset, .unset] [.null, (.ref a4)])) (fun _ k => XS.istore X55.here hx rfl (hb hby at_116) rfl (l' := #[.val (.int x0), .val (.int x1), .val (.int x2), .val (.int x3), .val (.int x4), .val (.ref rp), .val (.ref rq), .val (.int x3), .val (.ref a4), .val (.ref a17), .val (.int (0 : Int32)), .val (.int (1 : Int32)), .val (.int (1 : Int32)), .val (.int (1 : Int32)), .unset, .unset]) rfl (XS.aload X55.here hx rfl (hb hby at_118) rfl rfl (XS.aconstNull X55.here hx rfl (hb hby at_120) k))) ?_
        refine Goes.callV X55 hx hZ 0 hown (own_w hw 22 rfl) (own_w hw 23 rfl) (notFace_of_selects (args := #[]) (mvT hZ (own_w hw 25 rfl))) (own_w hw 25 rfl) (own_w hw 24 rfl) (own_w hw 11 rfl) (own_w hw 26 rfl) (by decide) e55 C32 (rmN l Z a0 hw a4 T30.heap n0 Z36) (by decide) (by decide) (by decide) (by decide) rfl (by rw [hml]; rfl) (argsL := [.null]) (rest := []) rfl (lenOf pd_4 rfl) rfl (by show 2 * 0 + _ ≤ _; exact Nat.le_of_eq rfl) (hb hby at_121) ?_
        intro v56 T56 L56 X56 hQ56
        obtain ⟨rfl, N56q, e56⟩ := hQ56
        have N56 := Fr.app N55 N56q
        show Goes p e below _ T56 (mkF m 124 #[.val (.int x0), .val (.int x1), .val (.int x2), .val (.int x3), .val (.int x4), .val (.ref rp), .val (.ref rq), .val (.int x3), .val (.ref a4), .val (.ref a17), .val (.int (0 : Int32)), .val (.int (1 : Int32)), .val (.int (1 : Int32)), .val (.int (1 : Int32)), .unset, .unset] [(.int (0 : Int32))])
        refine Goes.on (T' := T56) (g' := (mkF m 137 #[.val (.int x0), .val (.int x1), .val (.int x2), .val (.int x3), .val (.int x4), .val (.ref rp), .val (.ref rq), .val (.int x3), .val (.ref a4), .val (.ref a17), .val (.int (0 : Int32)), .val (.int (1 : Int32)), .val (.int (1 : Int32)), .val (.int (1 : Int32)), .val (.int (1 : Int32)), .unset] [(.int x2), (.ref a4)])) (fun _ k => XS.ifNo X56.here hx rfl (hb hby at_124) rfl (XT.i0_ne_f (by decide)) (XS.iconst X56.here hx rfl (hb hby at_127) (XS.goto X56.here hx rfl (pc0 := 128) (pc' := 132) rfl (hb hby at_128) (by decide) (by decide) (XS.istore X56.here hx rfl (hb hby at_132) rfl (l' := #[.val (.int x0), .val (.int x1), .val (.int x2), .val (.int x3), .val (.int x4), .val (.ref rp), .val (.ref rq), .val (.int x3), .val (.ref a4), .val (.ref a17), .val (.int (0 : Int32)), .val (.int (1 : Int32)), .val (.int (1 : Int32)), .val (.int (1 : Int32)), .val (.int (1 : Int32)), .unset]) rfl (XS.aload X56.here hx rfl (hb hby at_134) rfl rfl (XS.iloadN X56.here hx rfl (hb hby at_136) rfl k)))))) ?_
        refine Goes.callS X56 hx hZ 1 hown (own_w hw 29 rfl) (own_w hw 30 rfl) (own_w hw 31 rfl) (own_w hw 32 rfl) (by decide) e56 (rmK l Z a0 hw x2 T30.heap n0 Z36 C31 ca SH SC HC) (by decide) (by decide) (by decide) (by decide) rfl (by rw [hml]; rfl) (argsL := [(.int x2)]) (rest := [(.ref a4)]) rfl (lenOf pd_5 rfl) rfl (by show 2 * 0 + _ ≤ _; exact Nat.le_of_eq rfl) (hb hby at_137) ?_
        intro v57 T57 L57 X57 hQ57
        obtain ⟨rI, rfl, N57q, K57, A57⟩ := hQ57
        have N57 := Fr.app N56 N57q
        show Goes p e below _ T57 (mkF m 140 #[.val (.int x0), .val (.int x1), .val (.int x2), .val (.int x3), .val (.int x4), .val (.ref rp), .val (.ref rq), .val (.int x3), .val (.ref a4), .val (.ref a17), .val (.int (0 : Int32)), .val (.int (1 : Int32)), .val (.int (1 : Int32)), .val (.int (1 : Int32)), .val (.int (1 : Int32)), .unset] [(.ref rI), (.ref a4)])
        have C59 := C32.keep K57
        have Z65 : n0 ≤ T57.heap.size := Nat.le_trans Z36 K57.1
        refine Goes.callV X57 hx hZ 0 hown (own_w hw 22 rfl) (own_w hw 23 rfl) (notFace_of_selects (args := #[]) (mvT hZ (own_w hw 25 rfl))) (own_w hw 25 rfl) (own_w hw 24 rfl) (own_w hw 11 rfl) (own_w hw 26 rfl) (by decide) rfl C59 (rmI l Z a0 hw a4 rI T57.heap n0 Z65 A57) (by decide) (by decide) (by decide) (by decide) rfl (by rw [hml]; rfl) (argsL := [(.ref rI)]) (rest := []) rfl (lenOf pd_4 rfl) rfl (by show 2 * 0 + _ ≤ _; exact Nat.le_of_eq rfl) (hb hby at_140) ?_
        intro v66 T66 L66 X66 hQ66
        obtain ⟨rfl, N66q, e66⟩ := hQ66
        have N66 := Fr.app N57 N66q
        show Goes p e below _ T66 (mkF m 143 #[.val (.int x0), .val (.int x1), .val (.int x2), .val (.int x3), .val (.int x4), .val (.ref rp), .val (.ref rq), .val (.int x3), .val (.ref a4), .val (.ref a17), .val (.int (0 : Int32)), .val (.int (1 : Int32)), .val (.int (1 : Int32)), .val (.int (1 : Int32)), .val (.int (1 : Int32)), .unset] [(.int (0 : Int32))])
        refine Goes.on (T' := T66) (g' := (mkF m 173 #[.val (.int x0), .val (.int x1), .val (.int x2), .val (.int x3), .val (.int x4), .val (.ref rp), .val (.ref rq), .val (.int x3), .val (.ref a4), .val (.ref a17), .val (.int (0 : Int32)), .val (.int (1 : Int32)), .val (.int (1 : Int32)), .val (.int (1 : Int32)), .val (.int (1 : Int32)), .val (.int (1 : Int32))] [])) (fun _ k => XS.ifNo X66.here hx rfl (hb hby at_143) rfl (XT.i0_ne_f (by decide)) (XS.iconst X66.here hx rfl (hb hby at_146) (XS.goto X66.here hx rfl (pc0 := 147) (pc' := 151) rfl (hb hby at_147) (by decide) (by decide) (XS.istore X66.here hx rfl (hb hby at_151) rfl (l' := #[.val (.int x0), .val (.int x1), .val (.int x2), .val (.int x3), .val (.int x4), .val (.ref rp), .val (.ref rq), .val (.int x3), .val (.ref a4), .val (.ref a17), .val (.int (0 : Int32)), .val (.int (1 : Int32)), .val (.int (1 : Int32)), .val (.int (1 : Int32)), .val (.int (1 : Int32)), .val (.int (1 : Int32))]) rfl (XS.iload X66.here hx rfl (hb hby at_153) rfl (XS.ifNo X66.here hx rfl (hb hby at_155) rfl (XT.i0_eq_f (by decide)) (XS.iload X66.here hx rfl (hb hby at_158) rfl (XS.ifNo X66.here hx rfl (hb hby at_160) rfl (XT.i0_eq_f (by decide)) (XS.iload X66.here hx rfl (hb hby at_163) rfl (XS.ifNo X66.here hx rfl (hb hby at_165) rfl (XT.i0_eq_f (by decide)) (XS.iload X66.here hx rfl (hb hby at_168) rfl (XS.ifNo X66.here hx rfl (hb hby at_170) rfl (XT.i0_eq_f (by decide)) k)))))))))))) ?_
        refine Goes.on (T' := T66) (g' := (mkF m 183 #[.val (.int x0), .val (.int x1), .val (.int x2), .val (.int x3), .val (.int x4), .val (.ref rp), .val (.ref rq), .val (.int x3), .val (.ref a4), .val (.ref a17), .val (.int (0 : Int32)), .val (.int (1 : Int32)), .val (.int (1 : Int32)), .val (.int (1 : Int32)), .val (.int (1 : Int32)), .val (.int (1 : Int32))] [(.int (1 : Int32))])) (fun _ k => XS.iload X66.here hx rfl (hb hby at_173) rfl (XS.ifNo X66.here hx rfl (hb hby at_175) rfl (XT.i0_eq_f (by decide)) (XS.iconst X66.here hx rfl (hb hby at_178) (XS.goto X66.here hx rfl (pc0 := 179) (pc' := 183) rfl (hb hby at_179) (by decide) (by decide) k)))) ?_
        exact Goes.retB X66 hx hlk hret (Or.inr rfl) (hb hby at_183) (by decide) (by decide) ⟨rfl, N66⟩
    · refine Goes.on (T' := T30) (g' := (mkF m 75 #[.val (.int x0), .val (.int x1), .val (.int x2), .val (.int x3), .val (.int x4), .val (.ref rp), .val (.ref rq), .val (.int x3), .val (.ref a4), .val (.ref a17), .val (.int (0 : Int32)), .unset, .unset, .unset, .unset, .unset] [(.ref a17), (.ref a4)])) (fun _ k => XT.acmpYes X30.here hx rfl (pc0 := 55) (pc' := 68) rfl (hb hby at_55) rfl rfl rfl (XT.aa_ne_t hc37) (by decide) (by decide) (XS.iconst X30.here hx rfl (hb hby at_68) (XS.istore X30.here hx rfl (hb hby at_69) rfl (l' := #[.val (.int x0), .val (.int x1), .val (.int x2), .val (.int x3), .val (.int x4), .val (.ref rp), .val (.ref rq), .val (.int x3), .val (.ref a4), .val (.ref a17), .val (.int (0 : Int32)), .unset, .unset, .unset, .unset, .unset]) rfl (XS.aload X30.here hx rfl (hb hby at_71) rfl rfl (XS.aload X30.here hx rfl (hb hby at_73) rfl rfl k))))) ?_
      refine Goes.callV X30 hx hZ 0 hown (own_w hw 22 rfl) (own_w hw 23 rfl) (notFace_of_selects (args := #[]) (mvT hZ (own_w hw 25 rfl))) (own_w hw 25 rfl) (own_w hw 24 rfl) (own_w hw 11 rfl) (own_w hw 26 rfl) (by decide) rfl C32 (rmE l Z a0 hw a4 a17 rp rq x2 x3 T30.heap n0 Z36 A30 C33 C34 B30_reason B30_offset) (by decide) (by decide) (by decide) (by decide) rfl (by rw [hml]; rfl) (argsL := [(.ref a17)]) (rest := []) rfl (lenOf pd_4 rfl) rfl (by show 2 * 0 + _ ≤ _; exact Nat.le_of_eq rfl) (hb hby at_75) ?_
      intro v67 T67 L67 X67 hQ67
      obtain ⟨rfl, N67q, e67⟩ := hQ67
      have N67 := Fr.app N30 N67q
      show Goes p e below _ T67 (mkF m 78 #[.val (.int x0), .val (.int x1), .val (.int x2), .val (.int x3), .val (.int x4), .val (.ref rp), .val (.ref rq), .val (.int x3), .val (.ref a4), .val (.ref a17), .val (.int (0 : Int32)), .unset, .unset, .unset, .unset, .unset] [(.int (FE rp rq x2 x3))])
      rw [show (FE rp rq x2 x3) = (0 : Int32) from by unfold FE; rw [if_neg hc37]]
      refine Goes.on (T' := T67) (g' := (mkF m 94 #[.val (.int x0), .val (.int x1), .val (.int x2), .val (.int x3), .val (.int x4), .val (.ref rp), .val (.ref rq), .val (.int x3), .val (.ref a4), .val (.ref a17), .val (.int (0 : Int32)), .val (.int (1 : Int32)), .unset, .unset, .unset, .unset] [(.ref a4), (.ref a17)])) (fun _ k => XS.iload X67.here hx rfl (hb hby at_78) rfl (XS.icmpNo X67.here hx rfl (hb hby at_80) rfl (XT.ii_ne_f (by decide)) (XS.iconst X67.here hx rfl (hb hby at_83) (XS.goto X67.here hx rfl (pc0 := 84) (pc' := 88) rfl (hb hby at_84) (by decide) (by decide) (XS.istore X67.here hx rfl (hb hby at_88) rfl (l' := #[.val (.int x0), .val (.int x1), .val (.int x2), .val (.int x3), .val (.int x4), .val (.ref rp), .val (.ref rq), .val (.int x3), .val (.ref a4), .val (.ref a17), .val (.int (0 : Int32)), .val (.int (1 : Int32)), .unset, .unset, .unset, .unset]) rfl (XS.aload X67.here hx rfl (hb hby at_90) rfl rfl (XS.aload X67.here hx rfl (hb hby at_92) rfl rfl k))))))) ?_
      refine Goes.callV X67 hx hZ 0 hown (own_w hw 22 rfl) (own_w hw 23 rfl) (notFace_of_selects (args := #[]) (mvT hZ (own_w hw 25 rfl))) (own_w hw 25 rfl) (own_w hw 24 rfl) (own_w hw 11 rfl) (own_w hw 26 rfl) (by decide) e67 A30 (rmE l Z a0 hw a17 a4 rq rp x3 x2 T30.heap n0 Z36 C32 B30_reason B30_offset C33 C34) (by decide) (by decide) (by decide) (by decide) rfl (by rw [hml]; rfl) (argsL := [(.ref a4)]) (rest := []) rfl (lenOf pd_4 rfl) rfl (by show 2 * 0 + _ ≤ _; exact Nat.le_of_eq rfl) (hb hby at_94) ?_
      intro v68 T68 L68 X68 hQ68
      obtain ⟨rfl, N68q, e68⟩ := hQ68
      have N68 := Fr.app N67 N68q
      show Goes p e below _ T68 (mkF m 97 #[.val (.int x0), .val (.int x1), .val (.int x2), .val (.int x3), .val (.int x4), .val (.ref rp), .val (.ref rq), .val (.int x3), .val (.ref a4), .val (.ref a17), .val (.int (0 : Int32)), .val (.int (1 : Int32)), .unset, .unset, .unset, .unset] [(.int (FE rq rp x3 x2))])
      rw [show (FE rq rp x3 x2) = (0 : Int32) from by unfold FE; rw [if_neg (fun q => hc37 q.symm)]]
      refine Goes.on (T' := T68) (g' := (mkF m 113 #[.val (.int x0), .val (.int x1), .val (.int x2), .val (.int x3), .val (.int x4), .val (.ref rp), .val (.ref rq), .val (.int x3), .val (.ref a4), .val (.ref a17), .val (.int (0 : Int32)), .val (.int (1 : Int32)), .val (.int (1 : Int32)), .unset, .unset, .unset] [(.ref a4), (.ref a4)])) (fun _ k => XS.iload X68.here hx rfl (hb hby at_97) rfl (XS.icmpNo X68.here hx rfl (hb hby at_99) rfl (XT.ii_ne_f (by decide)) (XS.iconst X68.here hx rfl (hb hby at_102) (XS.goto X68.here hx rfl (pc0 := 103) (pc' := 107) rfl (hb hby at_103) (by decide) (by decide) (XS.istore X68.here hx rfl (hb hby at_107) rfl (l' := #[.val (.int x0), .val (.int x1), .val (.int x2), .val (.int x3), .val (.int x4), .val (.ref rp), .val (.ref rq), .val (.int x3), .val (.ref a4), .val (.ref a17), .val (.int (0 : Int32)), .val (.int (1 : Int32)), .val (.int (1 : Int32)), .unset, .unset, .unset]) rfl (XS.aload X68.here hx rfl (hb hby at_109) rfl rfl (XS.aload X68.here hx rfl (hb hby at_111) rfl rfl k))))))) ?_
      refine Goes.callV X68 hx hZ 0 hown (own_w hw 22 rfl) (own_w hw 23 rfl) (notFace_of_selects (args := #[]) (mvT hZ (own_w hw 25 rfl))) (own_w hw 25 rfl) (own_w hw 24 rfl) (own_w hw 11 rfl) (own_w hw 26 rfl) (by decide) e68 C32 (rmE l Z a0 hw a4 a4 rp rp x2 x2 T30.heap n0 Z36 C32 C33 C34 C33 C34) (by decide) (by decide) (by decide) (by decide) rfl (by rw [hml]; rfl) (argsL := [(.ref a4)]) (rest := []) rfl (lenOf pd_4 rfl) rfl (by show 2 * 0 + _ ≤ _; exact Nat.le_of_eq rfl) (hb hby at_113) ?_
      intro v69 T69 L69 X69 hQ69
      obtain ⟨rfl, N69q, e69⟩ := hQ69
      have N69 := Fr.app N68 N69q
      show Goes p e below _ T69 (mkF m 116 #[.val (.int x0), .val (.int x1), .val (.int x2), .val (.int x3), .val (.int x4), .val (.ref rp), .val (.ref rq), .val (.int x3), .val (.ref a4), .val (.ref a17), .val (.int (0 : Int32)), .val (.int (1 : Int32)), .val (.int (1 : Int32)), .unset, .unset, .unset] [(.int (FE rp rp x2 x2))])
      rw [show (FE rp rp x2 x2) = (1 : Int32) from by unfold FE; rw [if_pos rfl, if_pos rfl]]
      refine Goes.on (T' := T69) (g' := (mkF m 121 #[.val (.int x0), .val (.int x1), .val (.int x2), .val (.int x3), .val (.int x4), .val (.ref rp), .val (.ref rq), .val (.int x3), .val (.ref a4), .val (.ref a17), .val (.int (0 : Int32)), .val (.int (1 : Int32)), .val (.int (1 : Int32)), .val (.int (1 : Int32)), .unset, .unset] [.null, (.ref a4)])) (fun _ k => XS.istore X69.here hx rfl (hb hby at_116) rfl (l' := #[.val (.int x0), .val (.int x1), .val (.int x2), .val (.int x3), .val (.int x4), .val (.ref rp), .val (.ref rq), .val (.int x3), .val (.ref a4), .val (.ref a17), .val (.int (0 : Int32)), .val (.int (1 : Int32)), .val (.int (1 : Int32)), .val (.int (1 : Int32)), .unset, .unset]) rfl (XS.aload X69.here hx rfl (hb hby at_118) rfl rfl (XS.aconstNull X69.here hx rfl (hb hby at_120) k))) ?_
      refine Goes.callV X69 hx hZ 0 hown (own_w hw 22 rfl) (own_w hw 23 rfl) (notFace_of_selects (args := #[]) (mvT hZ (own_w hw 25 rfl))) (own_w hw 25 rfl) (own_w hw 24 rfl) (own_w hw 11 rfl) (own_w hw 26 rfl) (by decide) e69 C32 (rmN l Z a0 hw a4 T30.heap n0 Z36) (by decide) (by decide) (by decide) (by decide) rfl (by rw [hml]; rfl) (argsL := [.null]) (rest := []) rfl (lenOf pd_4 rfl) rfl (by show 2 * 0 + _ ≤ _; exact Nat.le_of_eq rfl) (hb hby at_121) ?_
      intro v70 T70 L70 X70 hQ70
      obtain ⟨rfl, N70q, e70⟩ := hQ70
      have N70 := Fr.app N69 N70q
      show Goes p e below _ T70 (mkF m 124 #[.val (.int x0), .val (.int x1), .val (.int x2), .val (.int x3), .val (.int x4), .val (.ref rp), .val (.ref rq), .val (.int x3), .val (.ref a4), .val (.ref a17), .val (.int (0 : Int32)), .val (.int (1 : Int32)), .val (.int (1 : Int32)), .val (.int (1 : Int32)), .unset, .unset] [(.int (0 : Int32))])
      refine Goes.on (T' := T70) (g' := (mkF m 137 #[.val (.int x0), .val (.int x1), .val (.int x2), .val (.int x3), .val (.int x4), .val (.ref rp), .val (.ref rq), .val (.int x3), .val (.ref a4), .val (.ref a17), .val (.int (0 : Int32)), .val (.int (1 : Int32)), .val (.int (1 : Int32)), .val (.int (1 : Int32)), .val (.int (1 : Int32)), .unset] [(.int x2), (.ref a4)])) (fun _ k => XS.ifNo X70.here hx rfl (hb hby at_124) rfl (XT.i0_ne_f (by decide)) (XS.iconst X70.here hx rfl (hb hby at_127) (XS.goto X70.here hx rfl (pc0 := 128) (pc' := 132) rfl (hb hby at_128) (by decide) (by decide) (XS.istore X70.here hx rfl (hb hby at_132) rfl (l' := #[.val (.int x0), .val (.int x1), .val (.int x2), .val (.int x3), .val (.int x4), .val (.ref rp), .val (.ref rq), .val (.int x3), .val (.ref a4), .val (.ref a17), .val (.int (0 : Int32)), .val (.int (1 : Int32)), .val (.int (1 : Int32)), .val (.int (1 : Int32)), .val (.int (1 : Int32)), .unset]) rfl (XS.aload X70.here hx rfl (hb hby at_134) rfl rfl (XS.iloadN X70.here hx rfl (hb hby at_136) rfl k)))))) ?_
      refine Goes.callS X70 hx hZ 1 hown (own_w hw 29 rfl) (own_w hw 30 rfl) (own_w hw 31 rfl) (own_w hw 32 rfl) (by decide) e70 (rmK l Z a0 hw x2 T30.heap n0 Z36 C31 ca SH SC HC) (by decide) (by decide) (by decide) (by decide) rfl (by rw [hml]; rfl) (argsL := [(.int x2)]) (rest := [(.ref a4)]) rfl (lenOf pd_5 rfl) rfl (by show 2 * 0 + _ ≤ _; exact Nat.le_of_eq rfl) (hb hby at_137) ?_
      intro v71 T71 L71 X71 hQ71
      obtain ⟨rI, rfl, N71q, K71, A71⟩ := hQ71
      have N71 := Fr.app N70 N71q
      show Goes p e below _ T71 (mkF m 140 #[.val (.int x0), .val (.int x1), .val (.int x2), .val (.int x3), .val (.int x4), .val (.ref rp), .val (.ref rq), .val (.int x3), .val (.ref a4), .val (.ref a17), .val (.int (0 : Int32)), .val (.int (1 : Int32)), .val (.int (1 : Int32)), .val (.int (1 : Int32)), .val (.int (1 : Int32)), .unset] [(.ref rI), (.ref a4)])
      have C73 := C32.keep K71
      have Z79 : n0 ≤ T71.heap.size := Nat.le_trans Z36 K71.1
      refine Goes.callV X71 hx hZ 0 hown (own_w hw 22 rfl) (own_w hw 23 rfl) (notFace_of_selects (args := #[]) (mvT hZ (own_w hw 25 rfl))) (own_w hw 25 rfl) (own_w hw 24 rfl) (own_w hw 11 rfl) (own_w hw 26 rfl) (by decide) rfl C73 (rmI l Z a0 hw a4 rI T71.heap n0 Z79 A71) (by decide) (by decide) (by decide) (by decide) rfl (by rw [hml]; rfl) (argsL := [(.ref rI)]) (rest := []) rfl (lenOf pd_4 rfl) rfl (by show 2 * 0 + _ ≤ _; exact Nat.le_of_eq rfl) (hb hby at_140) ?_
      intro v80 T80 L80 X80 hQ80
      obtain ⟨rfl, N80q, e80⟩ := hQ80
      have N80 := Fr.app N71 N80q
      show Goes p e below _ T80 (mkF m 143 #[.val (.int x0), .val (.int x1), .val (.int x2), .val (.int x3), .val (.int x4), .val (.ref rp), .val (.ref rq), .val (.int x3), .val (.ref a4), .val (.ref a17), .val (.int (0 : Int32)), .val (.int (1 : Int32)), .val (.int (1 : Int32)), .val (.int (1 : Int32)), .val (.int (1 : Int32)), .unset] [(.int (0 : Int32))])
      refine Goes.on (T' := T80) (g' := (mkF m 173 #[.val (.int x0), .val (.int x1), .val (.int x2), .val (.int x3), .val (.int x4), .val (.ref rp), .val (.ref rq), .val (.int x3), .val (.ref a4), .val (.ref a17), .val (.int (0 : Int32)), .val (.int (1 : Int32)), .val (.int (1 : Int32)), .val (.int (1 : Int32)), .val (.int (1 : Int32)), .val (.int (1 : Int32))] [])) (fun _ k => XS.ifNo X80.here hx rfl (hb hby at_143) rfl (XT.i0_ne_f (by decide)) (XS.iconst X80.here hx rfl (hb hby at_146) (XS.goto X80.here hx rfl (pc0 := 147) (pc' := 151) rfl (hb hby at_147) (by decide) (by decide) (XS.istore X80.here hx rfl (hb hby at_151) rfl (l' := #[.val (.int x0), .val (.int x1), .val (.int x2), .val (.int x3), .val (.int x4), .val (.ref rp), .val (.ref rq), .val (.int x3), .val (.ref a4), .val (.ref a17), .val (.int (0 : Int32)), .val (.int (1 : Int32)), .val (.int (1 : Int32)), .val (.int (1 : Int32)), .val (.int (1 : Int32)), .val (.int (1 : Int32))]) rfl (XS.iload X80.here hx rfl (hb hby at_153) rfl (XS.ifNo X80.here hx rfl (hb hby at_155) rfl (XT.i0_eq_f (by decide)) (XS.iload X80.here hx rfl (hb hby at_158) rfl (XS.ifNo X80.here hx rfl (hb hby at_160) rfl (XT.i0_eq_f (by decide)) (XS.iload X80.here hx rfl (hb hby at_163) rfl (XS.ifNo X80.here hx rfl (hb hby at_165) rfl (XT.i0_eq_f (by decide)) (XS.iload X80.here hx rfl (hb hby at_168) rfl (XS.ifNo X80.here hx rfl (hb hby at_170) rfl (XT.i0_eq_f (by decide)) k)))))))))))) ?_
      refine Goes.on (T' := T80) (g' := (mkF m 183 #[.val (.int x0), .val (.int x1), .val (.int x2), .val (.int x3), .val (.int x4), .val (.ref rp), .val (.ref rq), .val (.int x3), .val (.ref a4), .val (.ref a17), .val (.int (0 : Int32)), .val (.int (1 : Int32)), .val (.int (1 : Int32)), .val (.int (1 : Int32)), .val (.int (1 : Int32)), .val (.int (1 : Int32))] [(.int (1 : Int32))])) (fun _ k => XS.iload X80.here hx rfl (hb hby at_173) rfl (XS.ifNo X80.here hx rfl (hb hby at_175) rfl (XT.i0_eq_f (by decide)) (XS.iconst X80.here hx rfl (hb hby at_178) (XS.goto X80.here hx rfl (pc0 := 179) (pc' := 183) rfl (hb hby at_179) (by decide) (by decide) k)))) ?_
      exact Goes.retB X80 hx hlk hret (Or.inr rfl) (hb hby at_183) (by decide) (by decide) ⟨rfl, N80⟩
  · refine Goes.on (T' := T2) (g' := (mkF m 26 #[.val (.int x0), .val (.int x1), .val (.int x2), .val (.int x3), .val (.int x4), .val (.ref rp), .val (.ref rq), .val (.int x2), .unset, .unset, .unset, .unset, .unset, .unset, .unset, .unset] [])) (fun _ k => XS.ifNo X2.here hx rfl (hb hby at_16) rfl (XT.i0_eq_f hc3) (XS.iloadN X2.here hx rfl (hb hby at_19) rfl (XS.goto X2.here hx rfl (pc0 := 20) (pc' := 24) rfl (hb hby at_20) (by decide) (by decide) (XS.istore X2.here hx rfl (hb hby at_24) rfl (l' := #[.val (.int x0), .val (.int x1), .val (.int x2), .val (.int x3), .val (.int x4), .val (.ref rp), .val (.ref rq), .val (.int x2), .unset, .unset, .unset, .unset, .unset, .unset, .unset, .unset]) rfl k)))) ?_
    obtain ⟨T81, h81, X81, e81, E81, A81, D81, U81, st81⟩ := newO X2 hx hZ hown (own_w hw 9 rfl) (own_w hw 10 rfl) (own_w hw 11 rfl) e2 (g := (mkF m 26 #[.val (.int x0), .val (.int x1), .val (.int x2), .val (.int x3), .val (.int x4), .val (.ref rp), .val (.ref rq), .val (.int x2), .unset, .unset, .unset, .unset, .unset, .unset, .unset, .unset] [])) rfl (hb hby at_26) (by decide) (by decide)
    obtain ⟨a81, g81⟩ : ∃ z, z = h0.size := ⟨_, rfl⟩
    rw [← g81] at A81 D81 U81 st81
    have C82 := O0.ext E81
    have Z87 : n0 ≤ h81.size := Nat.le_trans Z0 E81.1
    have F88 : Fld Z h81 a81 "com/example/arcbind/arcbind/OidContent$Violation" "reason" "Lcom/example/arcbind/arcbind/ArcbindException$Reason;" .null := D81 (Or.inr (own_w hw 19 rfl)) (ty := (.object "com/example/arcbind/arcbind/ArcbindException$Reason")) (by decide)
    have F89 : Fld Z h81 a81 "com/example/arcbind/arcbind/OidContent$Violation" "offset" "I" (.int (0 : Int32)) := D81 (Or.inr (own_w hw 21 rfl)) (ty := .int) (by decide)
    have G81 : n0 ≤ a81 := Nat.le_trans Z0 (Nat.le_of_eq g81.symm)
    refine Goes.on (T' := T81) (g' := (mkF m 33 #[.val (.int x0), .val (.int x1), .val (.int x2), .val (.int x3), .val (.int x4), .val (.ref rp), .val (.ref rq), .val (.int x2), .unset, .unset, .unset, .unset, .unset, .unset, .unset, .unset] [(.int x2), (.ref rp), (.ref a81), (.ref a81)])) (fun _ k => st81 _ (XS.dup X81.here hx rfl (hb hby at_29) rfl rfl (XS.aload X81.here hx rfl (hb hby at_30) rfl rfl (XS.iloadN X81.here hx rfl (hb hby at_32) rfl k)))) ?_
    refine Goes.callC X81 hx hZ 1 rfl hown (own_w hw 12 rfl) (own_w hw 13 rfl) (own_w hw 11 rfl) (own_w hw 14 rfl) (by decide) e81 (rmC l Z a0 hw a81 (.ref rp) x2 h81 n0 Z87 A81 G81 F88 F89 rfl) (by decide) (by decide) (by decide) (by decide) rfl (by rw [hml]; rfl) (a := a81) (argsL := [(.ref rp), (.int x2)]) (rest := [(.ref a81)]) rfl (lenOf pd_3 rfl) rfl (by show 2 * 0 + _ ≤ _; exact Nat.le_of_eq rfl) (hb hby at_33) ?_
    intro v90 T90 L90 X90 hQ90
    obtain ⟨rfl, N90q, K90, A90, B90_reason, B90_offset⟩ := hQ90
    have N90 := Fr.app N2 N90q
    show Goes p e below _ T90 (mkF m 36 #[.val (.int x0), .val (.int x1), .val (.int x2), .val (.int x3), .val (.int x4), .val (.ref rp), .val (.ref rq), .val (.int x2), .unset, .unset, .unset, .unset, .unset, .unset, .unset, .unset] [(.ref a81)])
    have C91 := C82.keep K90 (allS G81 all0)
    have Z93 : n0 ≤ T90.heap.size := Nat.le_trans Z87 K90.1
    refine Goes.on (T' := T90) (g' := (mkF m 38 #[.val (.int x0), .val (.int x1), .val (.int x2), .val (.int x3), .val (.int x4), .val (.ref rp), .val (.ref rq), .val (.int x2), .val (.ref a81), .unset, .unset, .unset, .unset, .unset, .unset, .unset] [])) (fun _ k => XS.astore X90.here hx rfl (hb hby at_36) rfl rfl (l' := #[.val (.int x0), .val (.int x1), .val (.int x2), .val (.int x3), .val (.int x4), .val (.ref rp), .val (.ref rq), .val (.int x2), .val (.ref a81), .unset, .unset, .unset, .unset, .unset, .unset, .unset]) rfl k) ?_
    obtain ⟨T94, h94, X94, e94, E94, A94, D94, U94, st94⟩ := newO X90 hx hZ hown (own_w hw 9 rfl) (own_w hw 10 rfl) (own_w hw 11 rfl) rfl (g := (mkF m 38 #[.val (.int x0), .val (.int x1), .val (.int x2), .val (.int x3), .val (.int x4), .val (.ref rp), .val (.ref rq), .val (.int x2), .val (.ref a81), .unset, .unset, .unset, .unset, .unset, .unset, .unset] [])) rfl (hb hby at_38) (by decide) (by decide)
    obtain ⟨a94, g94⟩ : ∃ z, z = T90.heap.size := ⟨_, rfl⟩
    rw [← g94] at A94 D94 U94 st94
    have C95 := C91.ext E94
    have C96 := A90.ext E94
    have C97 := B90_reason.ext E94
    have C98 := B90_offset.ext E94
    have ne103 : a81 ≠ a94 := Nat.ne_of_lt (Nat.lt_of_lt_of_le (A90).lt (Nat.le_of_eq g94.symm))
    have Z104 : n0 ≤ h94.size := Nat.le_trans Z93 E94.1
    have F105 : Fld Z h94 a94 "com/example/arcbind/arcbind/OidContent$Violation" "reason" "Lcom/example/arcbind/arcbind/ArcbindException$Reason;" .null := D94 (Or.inr (own_w hw 19 rfl)) (ty := (.object "com/example/arcbind/arcbind/ArcbindException$Reason")) (by decide)
    have F106 : Fld Z h94 a94 "com/example/arcbind/arcbind/OidContent$Violation" "offset" "I" (.int (0 : Int32)) := D94 (Or.inr (own_w hw 21 rfl)) (ty := .int) (by decide)
    have G94 : n0 ≤ a94 := Nat.le_trans Z93 (Nat.le_of_eq g94.symm)
    refine Goes.on (T' := T94) (g' := (mkF m 46 #[.val (.int x0), .val (.int x1), .val (.int x2), .val (.int x3), .val (.int x4), .val (.ref rp), .val (.ref rq), .val (.int x2), .val (.ref a81), .unset, .unset, .unset, .unset, .unset, .unset, .unset] [(.int x2), (.ref rq), (.ref a94), (.ref a94)])) (fun _ k => st94 _ (XS.dup X94.here hx rfl (hb hby at_41) rfl rfl (XS.aload X94.here hx rfl (hb hby at_42) rfl rfl (XS.iload X94.here hx rfl (hb hby at_44) rfl k)))) ?_
    refine Goes.callC X94 hx hZ 1 rfl hown (own_w hw 12 rfl) (own_w hw 13 rfl) (own_w hw 11 rfl) (own_w hw 14 rfl) (by decide) e94 (rmC l Z a0 hw a94 (.ref rq) x2 h94 n0 Z104 A94 G94 F105 F106 rfl) (by decide) (by decide) (by decide) (by decide) rfl (by rw [hml]; rfl) (a := a94) (argsL := [(.ref rq), (.int x2)]) (rest := [(.ref a94)]) rfl (lenOf pd_3 rfl) rfl (by show 2 * 0 + _ ≤ _; exact Nat.le_of_eq rfl) (hb hby at_46) ?_
    intro v107 T107 L107 X107 hQ107
    obtain ⟨rfl, N107q, K107, A107, B107_reason, B107_offset⟩ := hQ107
    have N107 := Fr.app N90 N107q
    show Goes p e below _ T107 (mkF m 49 #[.val (.int x0), .val (.int x1), .val (.int x2), .val (.int x3), .val (.int x4), .val (.ref rp), .val (.ref rq), .val (.int x2), .val (.ref a81), .unset, .unset, .unset, .unset, .unset, .unset, .unset] [(.ref a94)])
    have C108 := C95.keep K107 (allS G94 all0)
    have C109 := C96.keep K107
    have C110 := C97.keep K107 (ninS ne103 nin0)
    have C111 := C98.keep K107 (ninS ne103 nin0)
    have Z113 : n0 ≤ T107.heap.size := Nat.le_trans Z104 K107.1
    refine Goes.on (T' := T107) (g' := (mkF m 55 #[.val (.int x0), .val (.int x1), .val (.int x2), .val (.int x3), .val (.int x4), .val (.ref rp), .val (.ref rq), .val (.int x2), .val (.ref a81), .val (.ref a94), .unset, .unset, .unset, .unset, .unset, .unset] [(.ref rq), (.ref rp)])) (fun _ k => XS.astore X107.here hx rfl (hb hby at_49) rfl rfl (l' := #[.val (.int x0), .val (.int x1), .val (.int x2), .val (.int x3), .val (.int x4), .val (.ref rp), .val (.ref rq), .val (.int x2), .val (.ref a81), .val (.ref a94), .unset, .unset, .unset, .unset, .unset, .unset]) rfl (XS.aload X107.here hx rfl (hb hby at_51) rfl rfl (XS.aload X107.here hx rfl (hb hby at_53) rfl rfl k))) ?_
    by_cases hc114 : ((.ref rp) : Value) = (.ref rq)
    · refine Goes.on (T' := T107) (g' := (mkF m 75 #[.val (.int x0), .val (.int x1), .val (.int x2), .val (.int x3), .val (.int x4), .val (.ref rp), .val (.ref rq), .val (.int x2), .val (.ref a81), .val (.ref a94), .val (.int (1 : Int32)), .unset, .unset, .unset, .unset, .unset] [(.ref a94), (.ref a81)])) (fun _ k => XT.acmpNo X107.here hx rfl (hb hby at_55) rfl rfl rfl (XT.aa_ne_f hc114) (XS.iloadN X107.here hx rfl (hb hby at_58) rfl (XS.iload X107.here hx rfl (hb hby at_59) rfl (XS.icmpNo X107.here hx rfl (hb hby at_61) rfl (XT.ii_ne_f rfl) (XS.iconst X107.here hx rfl (hb hby at_64) (XS.goto X107.here hx rfl (pc0 := 65) (pc' := 69) rfl (hb hby at_65) (by decide) (by decide) (XS.istore X107.here hx rfl (hb hby at_69) rfl (l' := #[.val (.int x0), .val (.int x1), .val (.int x2), .val (.int x3), .val (.int x4), .val (.ref rp), .val (.ref rq), .val (.int x2), .val (.ref a81), .val (.ref a94), .val (.int (1 : Int32)), .unset, .unset, .unset, .unset, .unset]) rfl (XS.aload X107.here hx rfl (hb hby at_71) rfl rfl (XS.aload X107.here hx rfl (hb hby at_73) rfl rfl k))))))))) ?_
      refine Goes.callV X107 hx hZ 0 hown (own_w hw 22 rfl) (own_w hw 23 rfl) (notFace_of_selects (args := #[]) (mvT hZ (own_w hw 25 rfl))) (own_w hw 25 rfl) (own_w hw 24 rfl) (own_w hw 11 rfl) (own_w hw 26 rfl) (by decide) rfl C109 (rmE l Z a0 hw a81 a94 rp rq x2 x2 T107.heap n0 Z113 A107 C110 C111 B107_reason B107_offset) (by decide) (by decide) (by decide) (by decide) rfl (by rw [hml]; rfl) (argsL := [(.ref a94)]) (rest := []) rfl (lenOf pd_4 rfl) rfl (by show 2 * 0 + _ ≤ _; exact Nat.le_of_eq rfl) (hb hby at_75) ?_
      intro v115 T115 L115 X115 hQ115
      obtain ⟨rfl, N115q, e115⟩ := hQ115
      have N115 := Fr.app N107 N115q
      show Goes p e below _ T115 (mkF m 78 #[.val (.int x0), .val (.int x1), .val (.int x2), .val (.int x3), .val (.int x4), .val (.ref rp), .val (.ref rq), .val (.int x2), .val (.ref a81), .val (.ref a94), .val (.int (1 : Int32)), .unset, .unset, .unset, .unset, .unset] [(.int (FE rp rq x2 x2))])
      rw [show (FE rp rq x2 x2) = (1 : Int32) from by unfold FE; rw [if_pos hc114, if_pos rfl]]
      refine Goes.on (T' := T115) (g' := (mkF m 94 #[.val (.int x0), .val (.int x1), .val (.int x2), .val (.int x3), .val (.int x4), .val (.ref rp), .val (.ref rq), .val (.int x2), .val (.ref a81), .val (.ref a94), .val (.int (1 : Int32)), .val (.int (1 : Int32)), .unset, .unset, .unset, .unset] [(.ref a81), (.ref a94)])) (fun _ k => XS.iload X115.here hx rfl (hb hby at_78) rfl (XS.icmpNo X115.here hx rfl (hb hby at_80) rfl (XT.ii_ne_f (by decide)) (XS.iconst X115.here hx rfl (hb hby at_83) (XS.goto X115.here hx rfl (pc0 := 84) (pc' := 88) rfl (hb hby at_84) (by decide) (by decide) (XS.istore X115.here hx rfl (hb hby at_88) rfl (l' := #[.val (.int x0), .val (.int x1), .val (.int x2), .val (.int x3), .val (.int x4), .val (.ref rp), .val (.ref rq), .val (.int x2), .val (.ref a81), .val (.ref a94), .val (.int (1 : Int32)), .val (.int (1 : Int32)), .unset, .unset, .unset, .unset]) rfl (XS.aload X115.here hx rfl (hb hby at_90) rfl rfl (XS.aload X115.here hx rfl (hb hby at_92) rfl rfl k))))))) ?_
      refine Goes.callV X115 hx hZ 0 hown (own_w hw 22 rfl) (own_w hw 23 rfl) (notFace_of_selects (args := #[]) (mvT hZ (own_w hw 25 rfl))) (own_w hw 25 rfl) (own_w hw 24 rfl) (own_w hw 11 rfl) (own_w hw 26 rfl) (by decide) e115 A107 (rmE l Z a0 hw a94 a81 rq rp x2 x2 T107.heap n0 Z113 C109 B107_reason B107_offset C110 C111) (by decide) (by decide) (by decide) (by decide) rfl (by rw [hml]; rfl) (argsL := [(.ref a81)]) (rest := []) rfl (lenOf pd_4 rfl) rfl (by show 2 * 0 + _ ≤ _; exact Nat.le_of_eq rfl) (hb hby at_94) ?_
      intro v116 T116 L116 X116 hQ116
      obtain ⟨rfl, N116q, e116⟩ := hQ116
      have N116 := Fr.app N115 N116q
      show Goes p e below _ T116 (mkF m 97 #[.val (.int x0), .val (.int x1), .val (.int x2), .val (.int x3), .val (.int x4), .val (.ref rp), .val (.ref rq), .val (.int x2), .val (.ref a81), .val (.ref a94), .val (.int (1 : Int32)), .val (.int (1 : Int32)), .unset, .unset, .unset, .unset] [(.int (FE rq rp x2 x2))])
      rw [show (FE rq rp x2 x2) = (1 : Int32) from by unfold FE; rw [if_pos hc114.symm, if_pos rfl]]
      refine Goes.on (T' := T116) (g' := (mkF m 113 #[.val (.int x0), .val (.int x1), .val (.int x2), .val (.int x3), .val (.int x4), .val (.ref rp), .val (.ref rq), .val (.int x2), .val (.ref a81), .val (.ref a94), .val (.int (1 : Int32)), .val (.int (1 : Int32)), .val (.int (1 : Int32)), .unset, .unset, .unset] [(.ref a81), (.ref a81)])) (fun _ k => XS.iload X116.here hx rfl (hb hby at_97) rfl (XS.icmpNo X116.here hx rfl (hb hby at_99) rfl (XT.ii_ne_f (by decide)) (XS.iconst X116.here hx rfl (hb hby at_102) (XS.goto X116.here hx rfl (pc0 := 103) (pc' := 107) rfl (hb hby at_103) (by decide) (by decide) (XS.istore X116.here hx rfl (hb hby at_107) rfl (l' := #[.val (.int x0), .val (.int x1), .val (.int x2), .val (.int x3), .val (.int x4), .val (.ref rp), .val (.ref rq), .val (.int x2), .val (.ref a81), .val (.ref a94), .val (.int (1 : Int32)), .val (.int (1 : Int32)), .val (.int (1 : Int32)), .unset, .unset, .unset]) rfl (XS.aload X116.here hx rfl (hb hby at_109) rfl rfl (XS.aload X116.here hx rfl (hb hby at_111) rfl rfl k))))))) ?_
      refine Goes.callV X116 hx hZ 0 hown (own_w hw 22 rfl) (own_w hw 23 rfl) (notFace_of_selects (args := #[]) (mvT hZ (own_w hw 25 rfl))) (own_w hw 25 rfl) (own_w hw 24 rfl) (own_w hw 11 rfl) (own_w hw 26 rfl) (by decide) e116 C109 (rmE l Z a0 hw a81 a81 rp rp x2 x2 T107.heap n0 Z113 C109 C110 C111 C110 C111) (by decide) (by decide) (by decide) (by decide) rfl (by rw [hml]; rfl) (argsL := [(.ref a81)]) (rest := []) rfl (lenOf pd_4 rfl) rfl (by show 2 * 0 + _ ≤ _; exact Nat.le_of_eq rfl) (hb hby at_113) ?_
      intro v117 T117 L117 X117 hQ117
      obtain ⟨rfl, N117q, e117⟩ := hQ117
      have N117 := Fr.app N116 N117q
      show Goes p e below _ T117 (mkF m 116 #[.val (.int x0), .val (.int x1), .val (.int x2), .val (.int x3), .val (.int x4), .val (.ref rp), .val (.ref rq), .val (.int x2), .val (.ref a81), .val (.ref a94), .val (.int (1 : Int32)), .val (.int (1 : Int32)), .val (.int (1 : Int32)), .unset, .unset, .unset] [(.int (FE rp rp x2 x2))])
      rw [show (FE rp rp x2 x2) = (1 : Int32) from by unfold FE; rw [if_pos rfl, if_pos rfl]]
      refine Goes.on (T' := T117) (g' := (mkF m 121 #[.val (.int x0), .val (.int x1), .val (.int x2), .val (.int x3), .val (.int x4), .val (.ref rp), .val (.ref rq), .val (.int x2), .val (.ref a81), .val (.ref a94), .val (.int (1 : Int32)), .val (.int (1 : Int32)), .val (.int (1 : Int32)), .val (.int (1 : Int32)), .unset, .unset] [.null, (.ref a81)])) (fun _ k => XS.istore X117.here hx rfl (hb hby at_116) rfl (l' := #[.val (.int x0), .val (.int x1), .val (.int x2), .val (.int x3), .val (.int x4), .val (.ref rp), .val (.ref rq), .val (.int x2), .val (.ref a81), .val (.ref a94), .val (.int (1 : Int32)), .val (.int (1 : Int32)), .val (.int (1 : Int32)), .val (.int (1 : Int32)), .unset, .unset]) rfl (XS.aload X117.here hx rfl (hb hby at_118) rfl rfl (XS.aconstNull X117.here hx rfl (hb hby at_120) k))) ?_
      refine Goes.callV X117 hx hZ 0 hown (own_w hw 22 rfl) (own_w hw 23 rfl) (notFace_of_selects (args := #[]) (mvT hZ (own_w hw 25 rfl))) (own_w hw 25 rfl) (own_w hw 24 rfl) (own_w hw 11 rfl) (own_w hw 26 rfl) (by decide) e117 C109 (rmN l Z a0 hw a81 T107.heap n0 Z113) (by decide) (by decide) (by decide) (by decide) rfl (by rw [hml]; rfl) (argsL := [.null]) (rest := []) rfl (lenOf pd_4 rfl) rfl (by show 2 * 0 + _ ≤ _; exact Nat.le_of_eq rfl) (hb hby at_121) ?_
      intro v118 T118 L118 X118 hQ118
      obtain ⟨rfl, N118q, e118⟩ := hQ118
      have N118 := Fr.app N117 N118q
      show Goes p e below _ T118 (mkF m 124 #[.val (.int x0), .val (.int x1), .val (.int x2), .val (.int x3), .val (.int x4), .val (.ref rp), .val (.ref rq), .val (.int x2), .val (.ref a81), .val (.ref a94), .val (.int (1 : Int32)), .val (.int (1 : Int32)), .val (.int (1 : Int32)), .val (.int (1 : Int32)), .unset, .unset] [(.int (0 : Int32))])
      refine Goes.on (T' := T118) (g' := (mkF m 137 #[.val (.int x0), .val (.int x1), .val (.int x2), .val (.int x3), .val (.int x4), .val (.ref rp), .val (.ref rq), .val (.int x2), .val (.ref a81), .val (.ref a94), .val (.int (1 : Int32)), .val (.int (1 : Int32)), .val (.int (1 : Int32)), .val (.int (1 : Int32)), .val (.int (1 : Int32)), .unset] [(.int x2), (.ref a81)])) (fun _ k => XS.ifNo X118.here hx rfl (hb hby at_124) rfl (XT.i0_ne_f (by decide)) (XS.iconst X118.here hx rfl (hb hby at_127) (XS.goto X118.here hx rfl (pc0 := 128) (pc' := 132) rfl (hb hby at_128) (by decide) (by decide) (XS.istore X118.here hx rfl (hb hby at_132) rfl (l' := #[.val (.int x0), .val (.int x1), .val (.int x2), .val (.int x3), .val (.int x4), .val (.ref rp), .val (.ref rq), .val (.int x2), .val (.ref a81), .val (.ref a94), .val (.int (1 : Int32)), .val (.int (1 : Int32)), .val (.int (1 : Int32)), .val (.int (1 : Int32)), .val (.int (1 : Int32)), .unset]) rfl (XS.aload X118.here hx rfl (hb hby at_134) rfl rfl (XS.iloadN X118.here hx rfl (hb hby at_136) rfl k)))))) ?_
      refine Goes.callS X118 hx hZ 1 hown (own_w hw 29 rfl) (own_w hw 30 rfl) (own_w hw 31 rfl) (own_w hw 32 rfl) (by decide) e118 (rmK l Z a0 hw x2 T107.heap n0 Z113 C108 ca SH SC HC) (by decide) (by decide) (by decide) (by decide) rfl (by rw [hml]; rfl) (argsL := [(.int x2)]) (rest := [(.ref a81)]) rfl (lenOf pd_5 rfl) rfl (by show 2 * 0 + _ ≤ _; exact Nat.le_of_eq rfl) (hb hby at_137) ?_
      intro v119 T119 L119 X119 hQ119
      obtain ⟨rI, rfl, N119q, K119, A119⟩ := hQ119
      have N119 := Fr.app N118 N119q
      show Goes p e below _ T119 (mkF m 140 #[.val (.int x0), .val (.int x1), .val (.int x2), .val (.int x3), .val (.int x4), .val (.ref rp), .val (.ref rq), .val (.int x2), .val (.ref a81), .val (.ref a94), .val (.int (1 : Int32)), .val (.int (1 : Int32)), .val (.int (1 : Int32)), .val (.int (1 : Int32)), .val (.int (1 : Int32)), .unset] [(.ref rI), (.ref a81)])
      have C121 := C109.keep K119
      have Z127 : n0 ≤ T119.heap.size := Nat.le_trans Z113 K119.1
      refine Goes.callV X119 hx hZ 0 hown (own_w hw 22 rfl) (own_w hw 23 rfl) (notFace_of_selects (args := #[]) (mvT hZ (own_w hw 25 rfl))) (own_w hw 25 rfl) (own_w hw 24 rfl) (own_w hw 11 rfl) (own_w hw 26 rfl) (by decide) rfl C121 (rmI l Z a0 hw a81 rI T119.heap n0 Z127 A119) (by decide) (by decide) (by decide) (by decide) rfl (by rw [hml]; rfl) (argsL := [(.ref rI)]) (rest := []) rfl (lenOf pd_4 rfl) rfl (by show 2 * 0 + _ ≤ _; exact Nat.le_of_eq rfl) (hb hby at_140) ?_
      intro v128 T128 L128 X128 hQ128
      obtain ⟨rfl, N128q, e128⟩ := hQ128
      have N128 := Fr.app N119 N128q
      show Goes p e below _ T128 (mkF m 143 #[.val (.int x0), .val (.int x1), .val (.int x2), .val (.int x3), .val (.int x4), .val (.ref rp), .val (.ref rq), .val (.int x2), .val (.ref a81), .val (.ref a94), .val (.int (1 : Int32)), .val (.int (1 : Int32)), .val (.int (1 : Int32)), .val (.int (1 : Int32)), .val (.int (1 : Int32)), .unset] [(.int (0 : Int32))])
      refine Goes.on (T' := T128) (g' := (mkF m 173 #[.val (.int x0), .val (.int x1), .val (.int x2), .val (.int x3), .val (.int x4), .val (.ref rp), .val (.ref rq), .val (.int x2), .val (.ref a81), .val (.ref a94), .val (.int (1 : Int32)), .val (.int (1 : Int32)), .val (.int (1 : Int32)), .val (.int (1 : Int32)), .val (.int (1 : Int32)), .val (.int (1 : Int32))] [])) (fun _ k => XS.ifNo X128.here hx rfl (hb hby at_143) rfl (XT.i0_ne_f (by decide)) (XS.iconst X128.here hx rfl (hb hby at_146) (XS.goto X128.here hx rfl (pc0 := 147) (pc' := 151) rfl (hb hby at_147) (by decide) (by decide) (XS.istore X128.here hx rfl (hb hby at_151) rfl (l' := #[.val (.int x0), .val (.int x1), .val (.int x2), .val (.int x3), .val (.int x4), .val (.ref rp), .val (.ref rq), .val (.int x2), .val (.ref a81), .val (.ref a94), .val (.int (1 : Int32)), .val (.int (1 : Int32)), .val (.int (1 : Int32)), .val (.int (1 : Int32)), .val (.int (1 : Int32)), .val (.int (1 : Int32))]) rfl (XS.iload X128.here hx rfl (hb hby at_153) rfl (XS.ifNo X128.here hx rfl (hb hby at_155) rfl (XT.i0_eq_f (by decide)) (XS.iload X128.here hx rfl (hb hby at_158) rfl (XS.ifNo X128.here hx rfl (hb hby at_160) rfl (XT.i0_eq_f (by decide)) (XS.iload X128.here hx rfl (hb hby at_163) rfl (XS.ifNo X128.here hx rfl (hb hby at_165) rfl (XT.i0_eq_f (by decide)) (XS.iload X128.here hx rfl (hb hby at_168) rfl (XS.ifNo X128.here hx rfl (hb hby at_170) rfl (XT.i0_eq_f (by decide)) k)))))))))))) ?_
      refine Goes.on (T' := T128) (g' := (mkF m 183 #[.val (.int x0), .val (.int x1), .val (.int x2), .val (.int x3), .val (.int x4), .val (.ref rp), .val (.ref rq), .val (.int x2), .val (.ref a81), .val (.ref a94), .val (.int (1 : Int32)), .val (.int (1 : Int32)), .val (.int (1 : Int32)), .val (.int (1 : Int32)), .val (.int (1 : Int32)), .val (.int (1 : Int32))] [(.int (1 : Int32))])) (fun _ k => XS.iload X128.here hx rfl (hb hby at_173) rfl (XS.ifNo X128.here hx rfl (hb hby at_175) rfl (XT.i0_eq_f (by decide)) (XS.iconst X128.here hx rfl (hb hby at_178) (XS.goto X128.here hx rfl (pc0 := 179) (pc' := 183) rfl (hb hby at_179) (by decide) (by decide) k)))) ?_
      exact Goes.retB X128 hx hlk hret (Or.inr rfl) (hb hby at_183) (by decide) (by decide) ⟨rfl, N128⟩
    · refine Goes.on (T' := T107) (g' := (mkF m 75 #[.val (.int x0), .val (.int x1), .val (.int x2), .val (.int x3), .val (.int x4), .val (.ref rp), .val (.ref rq), .val (.int x2), .val (.ref a81), .val (.ref a94), .val (.int (0 : Int32)), .unset, .unset, .unset, .unset, .unset] [(.ref a94), (.ref a81)])) (fun _ k => XT.acmpYes X107.here hx rfl (pc0 := 55) (pc' := 68) rfl (hb hby at_55) rfl rfl rfl (XT.aa_ne_t hc114) (by decide) (by decide) (XS.iconst X107.here hx rfl (hb hby at_68) (XS.istore X107.here hx rfl (hb hby at_69) rfl (l' := #[.val (.int x0), .val (.int x1), .val (.int x2), .val (.int x3), .val (.int x4), .val (.ref rp), .val (.ref rq), .val (.int x2), .val (.ref a81), .val (.ref a94), .val (.int (0 : Int32)), .unset, .unset, .unset, .unset, .unset]) rfl (XS.aload X107.here hx rfl (hb hby at_71) rfl rfl (XS.aload X107.here hx rfl (hb hby at_73) rfl rfl k))))) ?_
      refine Goes.callV X107 hx hZ 0 hown (own_w hw 22 rfl) (own_w hw 23 rfl) (notFace_of_selects (args := #[]) (mvT hZ (own_w hw 25 rfl))) (own_w hw 25 rfl) (own_w hw 24 rfl) (own_w hw 11 rfl) (own_w hw 26 rfl) (by decide) rfl C109 (rmE l Z a0 hw a81 a94 rp rq x2 x2 T107.heap n0 Z113 A107 C110 C111 B107_reason B107_offset) (by decide) (by decide) (by decide) (by decide) rfl (by rw [hml]; rfl) (argsL := [(.ref a94)]) (rest := []) rfl (lenOf pd_4 rfl) rfl (by show 2 * 0 + _ ≤ _; exact Nat.le_of_eq rfl) (hb hby at_75) ?_
      intro v129 T129 L129 X129 hQ129
      obtain ⟨rfl, N129q, e129⟩ := hQ129
      have N129 := Fr.app N107 N129q
      show Goes p e below _ T129 (mkF m 78 #[.val (.int x0), .val (.int x1), .val (.int x2), .val (.int x3), .val (.int x4), .val (.ref rp), .val (.ref rq), .val (.int x2), .val (.ref a81), .val (.ref a94), .val (.int (0 : Int32)), .unset, .unset, .unset, .unset, .unset] [(.int (FE rp rq x2 x2))])
      rw [show (FE rp rq x2 x2) = (0 : Int32) from by unfold FE; rw [if_neg hc114]]
      refine Goes.on (T' := T129) (g' := (mkF m 94 #[.val (.int x0), .val (.int x1), .val (.int x2), .val (.int x3), .val (.int x4), .val (.ref rp), .val (.ref rq), .val (.int x2), .val (.ref a81), .val (.ref a94), .val (.int (0 : Int32)), .val (.int (1 : Int32)), .unset, .unset, .unset, .unset] [(.ref a81), (.ref a94)])) (fun _ k => XS.iload X129.here hx rfl (hb hby at_78) rfl (XS.icmpNo X129.here hx rfl (hb hby at_80) rfl (XT.ii_ne_f (by decide)) (XS.iconst X129.here hx rfl (hb hby at_83) (XS.goto X129.here hx rfl (pc0 := 84) (pc' := 88) rfl (hb hby at_84) (by decide) (by decide) (XS.istore X129.here hx rfl (hb hby at_88) rfl (l' := #[.val (.int x0), .val (.int x1), .val (.int x2), .val (.int x3), .val (.int x4), .val (.ref rp), .val (.ref rq), .val (.int x2), .val (.ref a81), .val (.ref a94), .val (.int (0 : Int32)), .val (.int (1 : Int32)), .unset, .unset, .unset, .unset]) rfl (XS.aload X129.here hx rfl (hb hby at_90) rfl rfl (XS.aload X129.here hx rfl (hb hby at_92) rfl rfl k))))))) ?_
      refine Goes.callV X129 hx hZ 0 hown (own_w hw 22 rfl) (own_w hw 23 rfl) (notFace_of_selects (args := #[]) (mvT hZ (own_w hw 25 rfl))) (own_w hw 25 rfl) (own_w hw 24 rfl) (own_w hw 11 rfl) (own_w hw 26 rfl) (by decide) e129 A107 (rmE l Z a0 hw a94 a81 rq rp x2 x2 T107.heap n0 Z113 C109 B107_reason B107_offset C110 C111) (by decide) (by decide) (by decide) (by decide) rfl (by rw [hml]; rfl) (argsL := [(.ref a81)]) (rest := []) rfl (lenOf pd_4 rfl) rfl (by show 2 * 0 + _ ≤ _; exact Nat.le_of_eq rfl) (hb hby at_94) ?_
      intro v130 T130 L130 X130 hQ130
      obtain ⟨rfl, N130q, e130⟩ := hQ130
      have N130 := Fr.app N129 N130q
      show Goes p e below _ T130 (mkF m 97 #[.val (.int x0), .val (.int x1), .val (.int x2), .val (.int x3), .val (.int x4), .val (.ref rp), .val (.ref rq), .val (.int x2), .val (.ref a81), .val (.ref a94), .val (.int (0 : Int32)), .val (.int (1 : Int32)), .unset, .unset, .unset, .unset] [(.int (FE rq rp x2 x2))])
      rw [show (FE rq rp x2 x2) = (0 : Int32) from by unfold FE; rw [if_neg (fun q => hc114 q.symm)]]
      refine Goes.on (T' := T130) (g' := (mkF m 113 #[.val (.int x0), .val (.int x1), .val (.int x2), .val (.int x3), .val (.int x4), .val (.ref rp), .val (.ref rq), .val (.int x2), .val (.ref a81), .val (.ref a94), .val (.int (0 : Int32)), .val (.int (1 : Int32)), .val (.int (1 : Int32)), .unset, .unset, .unset] [(.ref a81), (.ref a81)])) (fun _ k => XS.iload X130.here hx rfl (hb hby at_97) rfl (XS.icmpNo X130.here hx rfl (hb hby at_99) rfl (XT.ii_ne_f (by decide)) (XS.iconst X130.here hx rfl (hb hby at_102) (XS.goto X130.here hx rfl (pc0 := 103) (pc' := 107) rfl (hb hby at_103) (by decide) (by decide) (XS.istore X130.here hx rfl (hb hby at_107) rfl (l' := #[.val (.int x0), .val (.int x1), .val (.int x2), .val (.int x3), .val (.int x4), .val (.ref rp), .val (.ref rq), .val (.int x2), .val (.ref a81), .val (.ref a94), .val (.int (0 : Int32)), .val (.int (1 : Int32)), .val (.int (1 : Int32)), .unset, .unset, .unset]) rfl (XS.aload X130.here hx rfl (hb hby at_109) rfl rfl (XS.aload X130.here hx rfl (hb hby at_111) rfl rfl k))))))) ?_
      refine Goes.callV X130 hx hZ 0 hown (own_w hw 22 rfl) (own_w hw 23 rfl) (notFace_of_selects (args := #[]) (mvT hZ (own_w hw 25 rfl))) (own_w hw 25 rfl) (own_w hw 24 rfl) (own_w hw 11 rfl) (own_w hw 26 rfl) (by decide) e130 C109 (rmE l Z a0 hw a81 a81 rp rp x2 x2 T107.heap n0 Z113 C109 C110 C111 C110 C111) (by decide) (by decide) (by decide) (by decide) rfl (by rw [hml]; rfl) (argsL := [(.ref a81)]) (rest := []) rfl (lenOf pd_4 rfl) rfl (by show 2 * 0 + _ ≤ _; exact Nat.le_of_eq rfl) (hb hby at_113) ?_
      intro v131 T131 L131 X131 hQ131
      obtain ⟨rfl, N131q, e131⟩ := hQ131
      have N131 := Fr.app N130 N131q
      show Goes p e below _ T131 (mkF m 116 #[.val (.int x0), .val (.int x1), .val (.int x2), .val (.int x3), .val (.int x4), .val (.ref rp), .val (.ref rq), .val (.int x2), .val (.ref a81), .val (.ref a94), .val (.int (0 : Int32)), .val (.int (1 : Int32)), .val (.int (1 : Int32)), .unset, .unset, .unset] [(.int (FE rp rp x2 x2))])
      rw [show (FE rp rp x2 x2) = (1 : Int32) from by unfold FE; rw [if_pos rfl, if_pos rfl]]
      refine Goes.on (T' := T131) (g' := (mkF m 121 #[.val (.int x0), .val (.int x1), .val (.int x2), .val (.int x3), .val (.int x4), .val (.ref rp), .val (.ref rq), .val (.int x2), .val (.ref a81), .val (.ref a94), .val (.int (0 : Int32)), .val (.int (1 : Int32)), .val (.int (1 : Int32)), .val (.int (1 : Int32)), .unset, .unset] [.null, (.ref a81)])) (fun _ k => XS.istore X131.here hx rfl (hb hby at_116) rfl (l' := #[.val (.int x0), .val (.int x1), .val (.int x2), .val (.int x3), .val (.int x4), .val (.ref rp), .val (.ref rq), .val (.int x2), .val (.ref a81), .val (.ref a94), .val (.int (0 : Int32)), .val (.int (1 : Int32)), .val (.int (1 : Int32)), .val (.int (1 : Int32)), .unset, .unset]) rfl (XS.aload X131.here hx rfl (hb hby at_118) rfl rfl (XS.aconstNull X131.here hx rfl (hb hby at_120) k))) ?_
      refine Goes.callV X131 hx hZ 0 hown (own_w hw 22 rfl) (own_w hw 23 rfl) (notFace_of_selects (args := #[]) (mvT hZ (own_w hw 25 rfl))) (own_w hw 25 rfl) (own_w hw 24 rfl) (own_w hw 11 rfl) (own_w hw 26 rfl) (by decide) e131 C109 (rmN l Z a0 hw a81 T107.heap n0 Z113) (by decide) (by decide) (by decide) (by decide) rfl (by rw [hml]; rfl) (argsL := [.null]) (rest := []) rfl (lenOf pd_4 rfl) rfl (by show 2 * 0 + _ ≤ _; exact Nat.le_of_eq rfl) (hb hby at_121) ?_
      intro v132 T132 L132 X132 hQ132
      obtain ⟨rfl, N132q, e132⟩ := hQ132
      have N132 := Fr.app N131 N132q
      show Goes p e below _ T132 (mkF m 124 #[.val (.int x0), .val (.int x1), .val (.int x2), .val (.int x3), .val (.int x4), .val (.ref rp), .val (.ref rq), .val (.int x2), .val (.ref a81), .val (.ref a94), .val (.int (0 : Int32)), .val (.int (1 : Int32)), .val (.int (1 : Int32)), .val (.int (1 : Int32)), .unset, .unset] [(.int (0 : Int32))])
      refine Goes.on (T' := T132) (g' := (mkF m 137 #[.val (.int x0), .val (.int x1), .val (.int x2), .val (.int x3), .val (.int x4), .val (.ref rp), .val (.ref rq), .val (.int x2), .val (.ref a81), .val (.ref a94), .val (.int (0 : Int32)), .val (.int (1 : Int32)), .val (.int (1 : Int32)), .val (.int (1 : Int32)), .val (.int (1 : Int32)), .unset] [(.int x2), (.ref a81)])) (fun _ k => XS.ifNo X132.here hx rfl (hb hby at_124) rfl (XT.i0_ne_f (by decide)) (XS.iconst X132.here hx rfl (hb hby at_127) (XS.goto X132.here hx rfl (pc0 := 128) (pc' := 132) rfl (hb hby at_128) (by decide) (by decide) (XS.istore X132.here hx rfl (hb hby at_132) rfl (l' := #[.val (.int x0), .val (.int x1), .val (.int x2), .val (.int x3), .val (.int x4), .val (.ref rp), .val (.ref rq), .val (.int x2), .val (.ref a81), .val (.ref a94), .val (.int (0 : Int32)), .val (.int (1 : Int32)), .val (.int (1 : Int32)), .val (.int (1 : Int32)), .val (.int (1 : Int32)), .unset]) rfl (XS.aload X132.here hx rfl (hb hby at_134) rfl rfl (XS.iloadN X132.here hx rfl (hb hby at_136) rfl k)))))) ?_
      refine Goes.callS X132 hx hZ 1 hown (own_w hw 29 rfl) (own_w hw 30 rfl) (own_w hw 31 rfl) (own_w hw 32 rfl) (by decide) e132 (rmK l Z a0 hw x2 T107.heap n0 Z113 C108 ca SH SC HC) (by decide) (by decide) (by decide) (by decide) rfl (by rw [hml]; rfl) (argsL := [(.int x2)]) (rest := [(.ref a81)]) rfl (lenOf pd_5 rfl) rfl (by show 2 * 0 + _ ≤ _; exact Nat.le_of_eq rfl) (hb hby at_137) ?_
      intro v133 T133 L133 X133 hQ133
      obtain ⟨rI, rfl, N133q, K133, A133⟩ := hQ133
      have N133 := Fr.app N132 N133q
      show Goes p e below _ T133 (mkF m 140 #[.val (.int x0), .val (.int x1), .val (.int x2), .val (.int x3), .val (.int x4), .val (.ref rp), .val (.ref rq), .val (.int x2), .val (.ref a81), .val (.ref a94), .val (.int (0 : Int32)), .val (.int (1 : Int32)), .val (.int (1 : Int32)), .val (.int (1 : Int32)), .val (.int (1 : Int32)), .unset] [(.ref rI), (.ref a81)])
      have C135 := C109.keep K133
      have Z141 : n0 ≤ T133.heap.size := Nat.le_trans Z113 K133.1
      refine Goes.callV X133 hx hZ 0 hown (own_w hw 22 rfl) (own_w hw 23 rfl) (notFace_of_selects (args := #[]) (mvT hZ (own_w hw 25 rfl))) (own_w hw 25 rfl) (own_w hw 24 rfl) (own_w hw 11 rfl) (own_w hw 26 rfl) (by decide) rfl C135 (rmI l Z a0 hw a81 rI T133.heap n0 Z141 A133) (by decide) (by decide) (by decide) (by decide) rfl (by rw [hml]; rfl) (argsL := [(.ref rI)]) (rest := []) rfl (lenOf pd_4 rfl) rfl (by show 2 * 0 + _ ≤ _; exact Nat.le_of_eq rfl) (hb hby at_140) ?_
      intro v142 T142 L142 X142 hQ142
      obtain ⟨rfl, N142q, e142⟩ := hQ142
      have N142 := Fr.app N133 N142q
      show Goes p e below _ T142 (mkF m 143 #[.val (.int x0), .val (.int x1), .val (.int x2), .val (.int x3), .val (.int x4), .val (.ref rp), .val (.ref rq), .val (.int x2), .val (.ref a81), .val (.ref a94), .val (.int (0 : Int32)), .val (.int (1 : Int32)), .val (.int (1 : Int32)), .val (.int (1 : Int32)), .val (.int (1 : Int32)), .unset] [(.int (0 : Int32))])
      refine Goes.on (T' := T142) (g' := (mkF m 173 #[.val (.int x0), .val (.int x1), .val (.int x2), .val (.int x3), .val (.int x4), .val (.ref rp), .val (.ref rq), .val (.int x2), .val (.ref a81), .val (.ref a94), .val (.int (0 : Int32)), .val (.int (1 : Int32)), .val (.int (1 : Int32)), .val (.int (1 : Int32)), .val (.int (1 : Int32)), .val (.int (1 : Int32))] [])) (fun _ k => XS.ifNo X142.here hx rfl (hb hby at_143) rfl (XT.i0_ne_f (by decide)) (XS.iconst X142.here hx rfl (hb hby at_146) (XS.goto X142.here hx rfl (pc0 := 147) (pc' := 151) rfl (hb hby at_147) (by decide) (by decide) (XS.istore X142.here hx rfl (hb hby at_151) rfl (l' := #[.val (.int x0), .val (.int x1), .val (.int x2), .val (.int x3), .val (.int x4), .val (.ref rp), .val (.ref rq), .val (.int x2), .val (.ref a81), .val (.ref a94), .val (.int (0 : Int32)), .val (.int (1 : Int32)), .val (.int (1 : Int32)), .val (.int (1 : Int32)), .val (.int (1 : Int32)), .val (.int (1 : Int32))]) rfl (XS.iload X142.here hx rfl (hb hby at_153) rfl (XS.ifNo X142.here hx rfl (hb hby at_155) rfl (XT.i0_eq_f (by decide)) (XS.iload X142.here hx rfl (hb hby at_158) rfl (XS.ifNo X142.here hx rfl (hb hby at_160) rfl (XT.i0_eq_f (by decide)) (XS.iload X142.here hx rfl (hb hby at_163) rfl (XS.ifNo X142.here hx rfl (hb hby at_165) rfl (XT.i0_eq_f (by decide)) (XS.iload X142.here hx rfl (hb hby at_168) rfl (XS.ifNo X142.here hx rfl (hb hby at_170) rfl (XT.i0_eq_f (by decide)) k)))))))))))) ?_
      refine Goes.on (T' := T142) (g' := (mkF m 183 #[.val (.int x0), .val (.int x1), .val (.int x2), .val (.int x3), .val (.int x4), .val (.ref rp), .val (.ref rq), .val (.int x2), .val (.ref a81), .val (.ref a94), .val (.int (0 : Int32)), .val (.int (1 : Int32)), .val (.int (1 : Int32)), .val (.int (1 : Int32)), .val (.int (1 : Int32)), .val (.int (1 : Int32))] [(.int (1 : Int32))])) (fun _ k => XS.iload X142.here hx rfl (hb hby at_173) rfl (XS.ifNo X142.here hx rfl (hb hby at_175) rfl (XT.i0_eq_f (by decide)) (XS.iconst X142.here hx rfl (hb hby at_178) (XS.goto X142.here hx rfl (pc0 := 179) (pc' := 183) rfl (hb hby at_179) (by decide) (by decide) k)))) ?_
      exact Goes.retB X142 hx hlk hret (Or.inr rfl) (hb hby at_183) (by decide) (by decide) ⟨rfl, N142⟩
set_option maxRecDepth 65536 in
set_option maxHeartbeats 40000000 in
theorem comes_1 {Post : Tables → Env → Array Value → State → Outcome → State → Prop} (hpost : ∀ tb e args s v u, (limb_1_1.after args s (.returned v) u = true ∧ limb_1_2.after args s (.returned v) u = true ∧ True) → FrameEnd s (.returned v) u (Jvm.fieldLocs frame_1_writes args s ++ Jvm.arrayLocs frame_1_arrays args s ++ Jvm.staticLocs frame_1_statics s) 16 128 → Post tb e args s (.returned v) u) :
    ArmFor flags0 classFile x code maxLocals ret World_1 tables_1 room_1 Calls_1 rest_1 Pre_1 Post := by
  intro l hfl _ _ p e ha hc hk s m args below hf hA hF happ hP
  obtain ⟨hcalls, hrest, hpre⟩ := hP
  obtain ⟨-, -, -, hnamed, -, -, -, hat⟩ := (Spec.applies_iff hf).mp happ
  obtain ⟨hg, hn⟩ := and_e (Cond.before_iff.mp (show (Jvm.Cond.and given_1 narrow_1).before args s = true from hpre))
  obtain ⟨g0, r0⟩ := and_e hg
  obtain ⟨g1, r1⟩ := and_e r0
  obtain ⟨g2, r2⟩ := and_e r1
  obtain ⟨g3, r3⟩ := and_e r2
  obtain ⟨g4, r4⟩ := and_e r3
  obtain ⟨w0, w1, w2, w3, w4, rfl⟩ : ∃ w0 w1 w2 w3 w4 : Value, args = #[w0, w1, w2, w3, w4] := by
    have hs : args.size = 5 := by simpa [Cond.value, given_1] using g0
    obtain ⟨L⟩ := args
    match L, hs with
    | [w0, w1, w2, w3, w4], _ => exact ⟨w0, w1, w2, w3, w4, rfl⟩
  have hw := fun d (hd : d ∈ tables_1) => atoms_spec (ws := Jvm.Cond.code x code maxLocals ret :: tables_1) hat d (List.mem_cons_of_mem _ hd)
  have hfit : Fit s := fun {y c} hc i hi => by
    obtain ⟨ha, rfl⟩ := Array.getElem?_eq_some_iff.mp hc
    have q := List.all_eq_true.mp ((Array.all_eq_true_iff_forall_mem.mp hF) _ (Array.getElem_mem ha)) i (List.mem_range.mpr hi)
    simpa [Array.getElem?_eq_getElem hi] using q
  obtain ⟨i0, ei0⟩ := is_v g1
  obtain rfl : w0 = (.int i0) := Option.some.inj ei0
  obtain ⟨i1, ei1⟩ := is_v g2
  obtain rfl : w1 = (.int i1) := Option.some.inj ei1
  obtain ⟨i2, ei2⟩ := is_v g3
  obtain rfl : w2 = (.int i2) := Option.some.inj ei2
  obtain ⟨i3, ei3⟩ := is_v g4
  obtain rfl : w3 = (.int i3) := Option.some.inj ei3
  obtain ⟨i4, ei4⟩ := is_v r4
  obtain rfl : w4 = (.int i4) := Option.some.inj ei4
  obtain ⟨nw0, nr0⟩ := and_e hn
  obtain ⟨nw1, nr1⟩ := and_e nr0
  obtain ⟨nw2, nr2⟩ := and_e nr1
  obtain ⟨nw3, nr3⟩ := and_e nr2
  obtain ⟨nw4, nr4⟩ := and_e nr3
  obtain ⟨nw5, nr5⟩ := and_e nr4
  obtain ⟨nw6, nr6⟩ := and_e nr5
  have nw7 := nr6
  obtain ⟨k0, ev_k0⟩ := exa_v nw0
  have EX_k0 := Exa.start ev_k0 nw0
  have ST_k0 := Sta.start ev_k0 (Or.inr ⟨(own_w hw 5 rfl), (own_w hw 6 rfl)⟩)
  obtain ⟨k1, ev_k1⟩ := exa_v nw1
  have EX_k1 := Exa.start ev_k1 nw1
  have ST_k1 := Sta.start ev_k1 (Or.inr ⟨(own_w hw 5 rfl), (own_w hw 8 rfl)⟩)
  obtain ⟨k2, ev_k2⟩ := exa_v nw4
  have EX_k2 := Exa.start ev_k2 nw4
  have ST_k2 := Sta.start ev_k2 (Or.inr ⟨(own_w hw 5 rfl), (own_w hw 40 rfl)⟩)
  obtain ⟨k3, ev_k3⟩ := exa_v nw6
  have EX_k3 := Exa.start ev_k3 nw6
  have ST_k3 := Sta.start ev_k3 (Or.inr ⟨(own_w hw 5 rfl), (own_w hw 57 rfl)⟩)
  have FZ2 := fldInt ev_k0 nw2
  have FZ3 := fldInt ev_k1 nw3
  have FZ5 := fldInt ev_k2 nw5
  have FZ7 := fldInt ev_k3 nw7
  obtain ⟨hsets, hown0⟩ := atoms_of _ (rest_1_c_eq ▸ (show rest_1_c.before _ s = true from hrest))
  have SH := Sta.start (eqInt (Cond.before_iff.mp (hsets _ (List.mem_of_getElem? (i := 3) rfl)))) (Or.inr ⟨hw _ (List.mem_of_getElem? (i := 34) rfl), hsets _ (List.mem_of_getElem? (i := 0) rfl)⟩)
  obtain ⟨ca, ec⟩ := arr_v (Cond.before_iff.mp (hsets _ (List.mem_of_getElem? (i := 4) rfl)))
  have SC := Sta.start ec (Or.inr ⟨hw _ (List.mem_of_getElem? (i := 34) rfl), hsets _ (List.mem_of_getElem? (i := 2) rfl)⟩)
  have HC := own_cache ec (Cond.before_iff.mp (hsets _ (List.mem_of_getElem? (i := 4) rfl))) (Cond.before_iff.mp (hsets _ (List.mem_of_getElem? (i := 6) rfl))) (Cond.before_iff.mp (hsets _ (List.mem_of_getElem? (i := 7) rfl)))
  obtain ⟨n, o, h1, h2, h3, _, L, rfl, ⟨rfl, N⟩, hq⟩ := rm0 l s _ hw i0 i1 i2 i3 i4 s.heap s.heap.size (Nat.le_refl _) (Old.start s) k0 k1 k2 k3 ST_k0 EX_k0 ST_k1 EX_k1 ST_k2 EX_k2 ST_k3 EX_k3 FZ2 FZ3 FZ5 FZ7 ca SH SC HC p e ha hc hk s m _ below hf ((Spec.applies_iff_loose hf).mp happ).1 ⟨rfl, State.Warmed39.refl s, rfl⟩ trivial
  refine ⟨n, _, h1, h2, h3, hpost _ _ _ _ _ _ ⟨Cond.after_iff.mpr rfl, Cond.after_iff.mpr (eq_i res_at (Term.int_eval (1)) rfl), trivial⟩ ⟨hq.1, hq.2.1, (hq.2.2.sift fun y hy => Or.inr (N y hy)).mono (by decide) (by decide)⟩⟩
theorem main_1_1 : Claimed_1_1 := comes_1 fun _ _ _ _ _ _ h hF => ⟨h.1, hF⟩
theorem main_1_2 : Claimed_1_2 := comes_1 fun _ _ _ _ _ _ h hF => ⟨h.2.1, hF⟩

end Jvm.Pilot.@@N@@
namespace Jvm.Pilot.@@N@@
open Jvm Jvm.ClassFile Sem Op Lib Jvm.Free Jvm.Stand Jvm.Pilot.@@N@@.Jvm.D
/-! MADE BY PROGRAM (witnessworld.py) out of the Statement's table words and the real class files: 18 classes; the members and pool entries that the words name. The judged class is class 1, her method 2. -/
namespace start1
open Jvm.ClassFile
def u (s : String) : CpInfo := .utf8 (stringToUtf16 s)
/-- a pool by its gaps: so many unusable entries, then the entry; so many at the end -/
def gap : Nat → List CpInfo → List CpInfo
  | 0, r => r
  | n + 1, r => .unusable :: gap n r
def poolList (es : List (Nat × CpInfo)) (last : Nat) : List CpInfo := es.foldr (fun e r => gap e.1 (e.2 :: r)) (gap last [])
def pool (es : List (Nat × CpInfo)) (last : Nat) : Array CpInfo := ⟨poolList es last⟩
def fileOf (pool : Array CpInfo) (this : Nat) (attrs : Array Attribute := #[]) (ms : Array MethodInfo := #[]) (fl : Nat := 33) (sup : Nat := 0) (ifs : Array Nat := #[]) (fds : Array FieldInfo := #[]) : ClassFile where
  minorVersion := 0
  majorVersion := 65
  constantPool := pool
  accessFlags := fl
  thisClass := this
  superClass := sup
  interfaces := ifs
  fields := fds
  methods := ms
  attributes := attrs
def plain (name : String) (sup : Option ClassId) : Class where
  name := name
  kind := .ordinary
  loader := none
  accessFlags := 33
  super := sup
  interfaces := #[]
  cf := none
  fields := #[]
  methods := #[]
  instanceTypes := #[]
  staticTypes := #[]
  resolved := #[]
  callSites := []
  init := .initialized
  statics := none
  mirror := none

def pool0 : Array CpInfo := pool [(5, u "<init>"), (0, u "()V"), (1, .class_ 10), (1, u "java/lang/Object")] 113

def k0c0 : Code := { maxStack := 0, maxLocals := 1, code := object_method_1_code, exceptionTable := #[], attributes := #[] }
def k0m0 : Method := { name := "<init>", desc := "()V", sig := { parameters := [], returnType := none }, accessFlags := 1, code := some k0c0 }
/-- java/lang/Object -/
def k0 : Class := { plain "java/lang/Object" none with
  accessFlags := 33
  interfaces := #[]
  cf := some (fileOf pool0 8 #[] #[{ accessFlags := 1, nameIndex := 5, descriptorIndex := 6, attributes := #[] }] 33 0 #[] #[])
  fields := #[]
  methods := #[k0m0]
  instanceTypes := #[]
  staticTypes := #[]
  resolved := Array.replicate 124 none
  statics := none }

def pool1 : Array CpInfo := pool [(2, .class_ 4), (1, u "java/lang/Object"), (0, u "<init>"), (0, u "()V"), (0, .fieldref 8 9), (0, .class_ 10), (0, .nameAndType 11 12), (0, u "com/example/arcbind/arcbind/ArcbindException$Reason"), (0, u "VALUE_STARTS_WITH_0X80"), (0, u "Lcom/example/arcbind/arcbind/ArcbindException$Reason;"), (0, .fieldref 8 14), (0, .nameAndType 15 12), (0, u "UNFINISHED_VALUE"), (0, .fieldref 8 17), (0, .nameAndType 18 12), (0, u "EMPTY_ABSOLUTE_CONTENT"), (0, .fieldref 8 20), (0, .nameAndType 21 12), (0, u "CONTENT_NOT_A_BYTE_STRING"), (0, .methodref 23 24), (0, .class_ 25), (0, .nameAndType 26 27), (0, u "com/example/arcbind/arcbind/ViolationEqualsPinLaw"), (0, u "reason"), (0, u "(I)Lcom/example/arcbind/arcbind/ArcbindException$Reason;"), (0, .class_ 29), (0, u "com/example/arcbind/arcbind/OidContent$Violation"), (0, .methodref 28 31), (0, .nameAndType 5 32), (0, u "(Lcom/example/arcbind/arcbind/ArcbindException$Reason;I)V"), (0, .methodref 28 34), (0, .nameAndType 35 36), (0, u "equals"), (0, u "(Ljava/lang/Object;)Z"), (0, .methodref 38 39), (0, .class_ 40), (0, .nameAndType 41 42), (0, u "java/lang/Integer"), (0, u "valueOf"), (0, u "(I)Ljava/lang/Integer;"), (3, u "law"), (0, u "(IIIII)Z")] 9

def k1m0 : Method := { name := "<init>", desc := "()V", sig := { parameters := [], returnType := none }, accessFlags := 1, code := none }
def k1c1 : Code := { maxStack := 2, maxLocals := 2, code := method_2_code, exceptionTable := #[], attributes := #[] }
def k1m1 : Method := { name := "reason", desc := "(I)Lcom/example/arcbind/arcbind/ArcbindException$Reason;", sig := { parameters := [.int], returnType := some (.object "com/example/arcbind/arcbind/ArcbindException$Reason") }, accessFlags := 10, code := some k1c1 }
def k1c2 : Code := { maxStack := 4, maxLocals := 16, code := code, exceptionTable := #[], attributes := #[] }
def k1m2 : Method := { name := "law", desc := "(IIIII)Z", sig := { parameters := [.int, .int, .int, .int, .int], returnType := some .boolean }, accessFlags := 9, code := some k1c2 }
/-- com/example/arcbind/arcbind/ViolationEqualsPinLaw -/
def k1 : Class := { plain "com/example/arcbind/arcbind/ViolationEqualsPinLaw" (some 0) with
  accessFlags := 49
  interfaces := #[]
  cf := some (fileOf pool1 23 #[] #[{ accessFlags := 1, nameIndex := 5, descriptorIndex := 6, attributes := #[] }, { accessFlags := 10, nameIndex := 26, descriptorIndex := 27, attributes := #[] }, { accessFlags := 9, nameIndex := 46, descriptorIndex := 47, attributes := #[] }] 49 2 #[] #[])
  fields := #[]
  methods := #[k1m0, k1m1, k1m2]
  instanceTypes := #[]
  staticTypes := #[]
  resolved := Array.replicate 57 none
  statics := none }

def pool2 : Array CpInfo := pool [(1, .class_ 2), (0, u "java/lang/constant/Constable"), (0, .class_ 4), (0, u "java/lang/Object")] 6

/-- java/lang/constant/Constable -/
def k2 : Class := { plain "java/lang/constant/Constable" (some 0) with
  accessFlags := 1537
  interfaces := #[]
  cf := some (fileOf pool2 1 #[] #[] 1537 3 #[] #[])
  fields := #[]
  methods := #[]
  instanceTypes := #[]
  staticTypes := #[]
  resolved := Array.replicate 11 none
  statics := none }

def pool3 : Array CpInfo := pool [(1, .class_ 2), (0, u "java/lang/Comparable"), (0, .class_ 4), (0, u "java/lang/Object")] 7

/-- java/lang/Comparable -/
def k3 : Class := { plain "java/lang/Comparable" (some 0) with
  accessFlags := 1537
  interfaces := #[]
  cf := some (fileOf pool3 1 #[] #[] 1537 3 #[] #[])
  fields := #[]
  methods := #[]
  instanceTypes := #[]
  staticTypes := #[]
  resolved := Array.replicate 12 none
  statics := none }

def pool4 : Array CpInfo := pool [(1, .class_ 2), (0, u "java/io/Serializable"), (0, .class_ 4), (0, u "java/lang/Object")] 2

/-- java/io/Serializable -/
def k4 : Class := { plain "java/io/Serializable" (some 0) with
  accessFlags := 1537
  interfaces := #[]
  cf := some (fileOf pool4 1 #[] #[] 1537 3 #[] #[])
  fields := #[]
  methods := #[]
  instanceTypes := #[]
  staticTypes := #[]
  resolved := Array.replicate 7 none
  statics := none }

def pool5 : Array CpInfo := pool [(2, .class_ 4), (1, u "java/lang/Enum"), (0, u "name"), (0, u "Ljava/lang/String;"), (2, u "ordinal"), (0, u "I"), (1, .class_ 14), (1, u "java/lang/Object"), (4, u "hash"), (86, .class_ 108), (1, u "java/lang/Enum$EnumDesc"), (2, .class_ 112), (0, u "java/lang/constant/Constable"), (0, .class_ 114), (0, u "java/lang/Comparable"), (0, .class_ 116), (0, u "java/io/Serializable")] 87

/-- java/lang/Enum -/
def k5 : Class := { plain "java/lang/Enum" (some 0) with
  accessFlags := 1057
  interfaces := #[2, 3, 4]
  cf := some (fileOf pool5 2 #[.nestMembers #[106]] #[] 1057 12 #[111, 113, 115] #[{ accessFlags := 18, nameIndex := 5, descriptorIndex := 6, attributes := #[] }, { accessFlags := 18, nameIndex := 9, descriptorIndex := 10, attributes := #[] }, { accessFlags := 2, nameIndex := 19, descriptorIndex := 10, attributes := #[] }])
  fields := #[{ name := "name", type := (.object "java/lang/String"), accessFlags := 18, slot := 0, constantValue := 0 }, { name := "ordinal", type := .int, accessFlags := 18, slot := 1, constantValue := 0 }, { name := "hash", type := .int, accessFlags := 2, slot := 2, constantValue := 0 }]
  methods := #[]
  instanceTypes := #[(.object "java/lang/String"), .int, .int]
  staticTypes := #[]
  resolved := Array.replicate 204 none
  statics := none }

def pool6 : Array CpInfo := pool [(1, .class_ 2), (0, u "com/example/arcbind/arcbind/ArcbindException$Reason"), (2, u "EXPECTED_DIGIT"), (0, u "Lcom/example/arcbind/arcbind/ArcbindException$Reason;"), (2, u "EXPECTED_DOT"), (2, u "LEADING_ZERO"), (2, u "TOO_FEW_ARCS"), (2, u "FIRST_ARC_OUT_OF_RANGE"), (2, u "SECOND_ARC_OUT_OF_RANGE"), (2, u "VALUE_STARTS_WITH_0X80"), (2, u "UNFINISHED_VALUE"), (2, u "EMPTY_ABSOLUTE_CONTENT"), (2, u "NEGATIVE_NUMBER"), (2, u "EMPTY_SDNV"), (2, u "MORE_THAN_ONE_SDNV"), (2, u "OVER_CONVERSION_LIMIT"), (2, u "TRUNCATED"), (2, u "EXTRA_DATA"), (2, u "RESERVED_ADDITIONAL_INFORMATION"), (2, u "INDEFINITE_LENGTH_NOT_ALLOWED"), (2, u "INVALID_CHUNK"), (2, u "UNEXPECTED_BREAK"), (2, u "TWO_BYTE_SIMPLE_VALUE_BELOW_32"), (2, u "NOT_AN_OID_TAG"), (2, u "CONTENT_NOT_A_BYTE_STRING"), (2, u "$VALUES"), (0, u "[Lcom/example/arcbind/arcbind/ArcbindException$Reason;"), (6, .class_ 82), (1, u "java/lang/Enum"), (8, u "description"), (0, u "Ljava/lang/String;"), (87, .class_ 181), (0, u "com/example/arcbind/arcbind/ArcbindException")] 2

/-- com/example/arcbind/arcbind/ArcbindException$Reason -/
def k6 : Class := { plain "com/example/arcbind/arcbind/ArcbindException$Reason" (some 5) with
  accessFlags := 16433
  interfaces := #[]
  cf := some (fileOf pool6 1 #[.nestHost 180] #[] 16433 80 #[] #[{ accessFlags := 16409, nameIndex := 5, descriptorIndex := 6, attributes := #[] }, { accessFlags := 16409, nameIndex := 9, descriptorIndex := 6, attributes := #[] }, { accessFlags := 16409, nameIndex := 12, descriptorIndex := 6, attributes := #[] }, { accessFlags := 16409, nameIndex := 15, descriptorIndex := 6, attributes := #[] }, { accessFlags := 16409, nameIndex := 18, descriptorIndex := 6, attributes := #[] }, { accessFlags := 16409, nameIndex := 21, descriptorIndex := 6, attributes := #[] }, { accessFlags := 16409, nameIndex := 24, descriptorIndex := 6, attributes := #[] }, { accessFlags := 16409, nameIndex := 27, descriptorIndex := 6, attributes := #[] }, { accessFlags := 16409, nameIndex := 30, descriptorIndex := 6, attributes := #[] }, { accessFlags := 16409, nameIndex := 33, descriptorIndex := 6, attributes := #[] }, { accessFlags := 16409, nameIndex := 36, descriptorIndex := 6, attributes := #[] }, { accessFlags := 16409, nameIndex := 39, descriptorIndex := 6, attributes := #[] }, { accessFlags := 16409, nameIndex := 42, descriptorIndex := 6, attributes := #[] }, { accessFlags := 16409, nameIndex := 45, descriptorIndex := 6, attributes := #[] }, { accessFlags := 16409, nameIndex := 48, descriptorIndex := 6, attributes := #[] }, { accessFlags := 16409, nameIndex := 51, descriptorIndex := 6, attributes := #[] }, { accessFlags := 16409, nameIndex := 54, descriptorIndex := 6, attributes := #[] }, { accessFlags := 16409, nameIndex := 57, descriptorIndex := 6, attributes := #[] }, { accessFlags := 16409, nameIndex := 60, descriptorIndex := 6, attributes := #[] }, { accessFlags := 16409, nameIndex := 63, descriptorIndex := 6, attributes := #[] }, { accessFlags := 16409, nameIndex := 66, descriptorIndex := 6, attributes := #[] }, { accessFlags := 16409, nameIndex := 69, descriptorIndex := 6, attributes := #[] }, { accessFlags := 18, nameIndex := 91, descriptorIndex := 92, attributes := #[] }, { accessFlags := 4122, nameIndex := 72, descriptorIndex := 73, attributes := #[] }])
  fields := #[{ name := "EXPECTED_DIGIT", type := (.object "com/example/arcbind/arcbind/ArcbindException$Reason"), accessFlags := 16409, slot := 0, constantValue := 0 }, { name := "EXPECTED_DOT", type := (.object "com/example/arcbind/arcbind/ArcbindException$Reason"), accessFlags := 16409, slot := 1, constantValue := 0 }, { name := "LEADING_ZERO", type := (.object "com/example/arcbind/arcbind/ArcbindException$Reason"), accessFlags := 16409, slot := 2, constantValue := 0 }, { name := "TOO_FEW_ARCS", type := (.object "com/example/arcbind/arcbind/ArcbindException$Reason"), accessFlags := 16409, slot := 3, constantValue := 0 }, { name := "FIRST_ARC_OUT_OF_RANGE", type := (.object "com/example/arcbind/arcbind/ArcbindException$Reason"), accessFlags := 16409, slot := 4, constantValue := 0 }, { name := "SECOND_ARC_OUT_OF_RANGE", type := (.object "com/example/arcbind/arcbind/ArcbindException$Reason"), accessFlags := 16409, slot := 5, constantValue := 0 }, { name := "VALUE_STARTS_WITH_0X80", type := (.object "com/example/arcbind/arcbind/ArcbindException$Reason"), accessFlags := 16409, slot := 6, constantValue := 0 }, { name := "UNFINISHED_VALUE", type := (.object "com/example/arcbind/arcbind/ArcbindException$Reason"), accessFlags := 16409, slot := 7, constantValue := 0 }, { name := "EMPTY_ABSOLUTE_CONTENT", type := (.object "com/example/arcbind/arcbind/ArcbindException$Reason"), accessFlags := 16409, slot := 8, constantValue := 0 }, { name := "NEGATIVE_NUMBER", type := (.object "com/example/arcbind/arcbind/ArcbindException$Reason"), accessFlags := 16409, slot := 9, constantValue := 0 }, { name := "EMPTY_SDNV", type := (.object "com/example/arcbind/arcbind/ArcbindException$Reason"), accessFlags := 16409, slot := 10, constantValue := 0 }, { name := "MORE_THAN_ONE_SDNV", type := (.object "com/example/arcbind/arcbind/ArcbindException$Reason"), accessFlags := 16409, slot := 11, constantValue := 0 }, { name := "OVER_CONVERSION_LIMIT", type := (.object "com/example/arcbind/arcbind/ArcbindException$Reason"), accessFlags := 16409, slot := 12, constantValue := 0 }, { name := "TRUNCATED", type := (.object "com/example/arcbind/arcbind/ArcbindException$Reason"), accessFlags := 16409, slot := 13, constantValue := 0 }, { name := "EXTRA_DATA", type := (.object "com/example/arcbind/arcbind/ArcbindException$Reason"), accessFlags := 16409, slot := 14, constantValue := 0 }, { name := "RESERVED_ADDITIONAL_INFORMATION", type := (.object "com/example/arcbind/arcbind/ArcbindException$Reason"), accessFlags := 16409, slot := 15, constantValue := 0 }, { name := "INDEFINITE_LENGTH_NOT_ALLOWED", type := (.object "com/example/arcbind/arcbind/ArcbindException$Reason"), accessFlags := 16409, slot := 16, constantValue := 0 }, { name := "INVALID_CHUNK", type := (.object "com/example/arcbind/arcbind/ArcbindException$Reason"), accessFlags := 16409, slot := 17, constantValue := 0 }, { name := "UNEXPECTED_BREAK", type := (.object "com/example/arcbind/arcbind/ArcbindException$Reason"), accessFlags := 16409, slot := 18, constantValue := 0 }, { name := "TWO_BYTE_SIMPLE_VALUE_BELOW_32", type := (.object "com/example/arcbind/arcbind/ArcbindException$Reason"), accessFlags := 16409, slot := 19, constantValue := 0 }, { name := "NOT_AN_OID_TAG", type := (.object "com/example/arcbind/arcbind/ArcbindException$Reason"), accessFlags := 16409, slot := 20, constantValue := 0 }, { name := "CONTENT_NOT_A_BYTE_STRING", type := (.object "com/example/arcbind/arcbind/ArcbindException$Reason"), accessFlags := 16409, slot := 21, constantValue := 0 }, { name := "description", type := (.object "java/lang/String"), accessFlags := 18, slot := 3, constantValue := 0 }, { name := "$VALUES", type := (.array (.object "com/example/arcbind/arcbind/ArcbindException$Reason")), accessFlags := 4122, slot := 22, constantValue := 0 }]
  methods := #[]
  instanceTypes := #[(.object "java/lang/String"), .int, .int, (.object "java/lang/String")]
  staticTypes := #[(.object "com/example/arcbind/arcbind/ArcbindException$Reason"), (.object "com/example/arcbind/arcbind/ArcbindException$Reason"), (.object "com/example/arcbind/arcbind/ArcbindException$Reason"), (.object "com/example/arcbind/arcbind/ArcbindException$Reason"), (.object "com/example/arcbind/arcbind/ArcbindException$Reason"), (.object "com/example/arcbind/arcbind/ArcbindException$Reason"), (.object "com/example/arcbind/arcbind/ArcbindException$Reason"), (.object "com/example/arcbind/arcbind/ArcbindException$Reason"), (.object "com/example/arcbind/arcbind/ArcbindException$Reason"), (.object "com/example/arcbind/arcbind/ArcbindException$Reason"), (.object "com/example/arcbind/arcbind/ArcbindException$Reason"), (.object "com/example/arcbind/arcbind/ArcbindException$Reason"), (.object "com/example/arcbind/arcbind/ArcbindException$Reason"), (.object "com/example/arcbind/arcbind/ArcbindException$Reason"), (.object "com/example/arcbind/arcbind/ArcbindException$Reason"), (.object "com/example/arcbind/arcbind/ArcbindException$Reason"), (.object "com/example/arcbind/arcbind/ArcbindException$Reason"), (.object "com/example/arcbind/arcbind/ArcbindException$Reason"), (.object "com/example/arcbind/arcbind/ArcbindException$Reason"), (.object "com/example/arcbind/arcbind/ArcbindException$Reason"), (.object "com/example/arcbind/arcbind/ArcbindException$Reason"), (.object "com/example/arcbind/arcbind/ArcbindException$Reason"), (.array (.object "com/example/arcbind/arcbind/ArcbindException$Reason"))]
  resolved := Array.replicate 184 none
  statics := some 0 }

def pool7 : Array CpInfo := pool [(1, .methodref 2 3), (0, .class_ 4), (0, .nameAndType 5 6), (0, u "java/lang/Object"), (0, u "<init>"), (0, u "()V"), (0, .fieldref 8 9), (0, .class_ 10), (0, .nameAndType 11 12), (0, u "com/example/arcbind/arcbind/OidContent$Violation"), (0, u "reason"), (0, u "Lcom/example/arcbind/arcbind/ArcbindException$Reason;"), (0, .fieldref 8 14), (0, .nameAndType 15 16), (0, u "offset"), (0, u "I"), (11, u "(Lcom/example/arcbind/arcbind/ArcbindException$Reason;I)V"), (3, u "equals"), (0, u "(Ljava/lang/Object;)Z"), (7, .class_ 42), (0, u "com/example/arcbind/arcbind/OidContent")] 3

def k7c0 : Code := { maxStack := 2, maxLocals := 3, code := prog_19_method_1_code, exceptionTable := #[], attributes := #[] }
def k7m0 : Method := { name := "<init>", desc := "(Lcom/example/arcbind/arcbind/ArcbindException$Reason;I)V", sig := { parameters := [(.object "com/example/arcbind/arcbind/ArcbindException$Reason"), .int], returnType := none }, accessFlags := 0, code := some k7c0 }
def k7c1 : Code := { maxStack := 2, maxLocals := 3, code := prog_19_method_4_code, exceptionTable := #[], attributes := #[] }
def k7m1 : Method := { name := "equals", desc := "(Ljava/lang/Object;)Z", sig := { parameters := [(.object "java/lang/Object")], returnType := some .boolean }, accessFlags := 1, code := some k7c1 }
/-- com/example/arcbind/arcbind/OidContent$Violation -/
def k7 : Class := { plain "com/example/arcbind/arcbind/OidContent$Violation" (some 0) with
  accessFlags := 49
  interfaces := #[]
  cf := some (fileOf pool7 8 #[.nestHost 41] #[{ accessFlags := 0, nameIndex := 5, descriptorIndex := 28, attributes := #[] }, { accessFlags := 1, nameIndex := 32, descriptorIndex := 33, attributes := #[] }] 49 2 #[] #[{ accessFlags := 18, nameIndex := 11, descriptorIndex := 12, attributes := #[] }, { accessFlags := 18, nameIndex := 15, descriptorIndex := 16, attributes := #[] }])
  fields := #[{ name := "reason", type := (.object "com/example/arcbind/arcbind/ArcbindException$Reason"), accessFlags := 18, slot := 0, constantValue := 0 }, { name := "offset", type := .int, accessFlags := 18, slot := 1, constantValue := 0 }]
  methods := #[k7m0, k7m1]
  instanceTypes := #[(.object "com/example/arcbind/arcbind/ArcbindException$Reason"), .int]
  staticTypes := #[]
  resolved := Array.replicate 46 none
  statics := none }

def pool8 : Array CpInfo := pool [(1, .methodref 2 3), (0, .class_ 4), (0, .nameAndType 5 6), (0, u "java/lang/Object"), (0, u "<init>"), (0, u "()V"), (1, .class_ 10), (1, u "java/lang/Number"), (2, .class_ 14), (0, u "java/io/Serializable"), (0, u "serialVersionUID"), (0, u "J")] 20

def k8c0 : Code := { maxStack := 1, maxLocals := 1, code := jdk_18_method_1_code, exceptionTable := #[], attributes := #[] }
def k8m0 : Method := { name := "<init>", desc := "()V", sig := { parameters := [], returnType := none }, accessFlags := 1, code := some k8c0 }
/-- java/lang/Number -/
def k8 : Class := { plain "java/lang/Number" (some 0) with
  accessFlags := 1057
  interfaces := #[4]
  cf := some (fileOf pool8 8 #[] #[{ accessFlags := 1, nameIndex := 5, descriptorIndex := 6, attributes := #[] }] 1057 2 #[13] #[{ accessFlags := 26, nameIndex := 15, descriptorIndex := 16, attributes := #[] }])
  fields := #[{ name := "serialVersionUID", type := .long, accessFlags := 26, slot := 0, constantValue := 0 }]
  methods := #[k8m0]
  instanceTypes := #[]
  staticTypes := #[.long]
  resolved := Array.replicate 37 none
  statics := none }

def pool9 : Array CpInfo := pool [(1, .class_ 2), (0, u "java/lang/constant/ConstantDesc"), (0, .class_ 4), (0, u "java/lang/Object")] 32

/-- java/lang/constant/ConstantDesc -/
def k9 : Class := { plain "java/lang/constant/ConstantDesc" (some 0) with
  accessFlags := 1537
  interfaces := #[]
  cf := some (fileOf pool9 1 #[] #[] 1537 3 #[] #[])
  fields := #[]
  methods := #[]
  instanceTypes := #[]
  staticTypes := #[]
  resolved := Array.replicate 37 none
  statics := none }

def pool10 : Array CpInfo := pool [(1, .class_ 2), (0, u "java/lang/Integer"), (16, u "digits"), (0, u "[C"), (46, u "<init>"), (17, u "DigitOnes"), (0, u "[B"), (2, u "DigitTens"), (10, .nameAndType 67 101), (0, u "()V"), (85, u "valueOf"), (0, u "(I)Ljava/lang/Integer;"), (0, .class_ 190), (0, u "java/lang/Integer$IntegerCache"), (0, .fieldref 189 192), (0, .nameAndType 193 194), (0, u "high"), (0, u "I"), (0, .fieldref 189 196), (0, .nameAndType 197 198), (0, u "cache"), (0, u "[Ljava/lang/Integer;"), (0, .methodref 1 200), (0, .nameAndType 67 201), (0, u "(I)V"), (0, .methodref 203 100), (0, .class_ 204), (0, u "java/lang/Number"), (0, .fieldref 1 206), (0, .nameAndType 207 194), (0, u "value"), (94, u "TYPE"), (0, u "Ljava/lang/Class;"), (0, .class_ 305), (0, u "java/lang/Comparable"), (0, .class_ 307), (0, u "java/lang/constant/Constable"), (0, .class_ 309), (0, u "java/lang/constant/ConstantDesc"), (0, u "MIN_VALUE"), (1, u "MAX_VALUE"), (3, u "SIZE"), (1, u "BYTES"), (1, u "serialVersionUID"), (0, u "J")] 131

def k10c0 : Code := { maxStack := 3, maxLocals := 1, code := jdk_33_method_22_code, exceptionTable := #[], attributes := #[] }
def k10m0 : Method := { name := "valueOf", desc := "(I)Ljava/lang/Integer;", sig := { parameters := [.int], returnType := some (.object "java/lang/Integer") }, accessFlags := 9, code := some k10c0 }
def k10c1 : Code := { maxStack := 2, maxLocals := 2, code := jdk_33_method_23_code, exceptionTable := #[], attributes := #[] }
def k10m1 : Method := { name := "<init>", desc := "(I)V", sig := { parameters := [.int], returnType := none }, accessFlags := 1, code := some k10c1 }
/-- java/lang/Integer -/
def k10 : Class := { plain "java/lang/Integer" (some 8) with
  accessFlags := 49
  interfaces := #[3, 2, 9]
  cf := some (fileOf pool10 1 #[.nestMembers #[189]] #[{ accessFlags := 9, nameIndex := 187, descriptorIndex := 188, attributes := #[] }, { accessFlags := 1, nameIndex := 67, descriptorIndex := 201, attributes := #[] }] 49 203 #[304, 306, 308] #[{ accessFlags := 25, nameIndex := 310, descriptorIndex := 194, attributes := #[] }, { accessFlags := 25, nameIndex := 312, descriptorIndex := 194, attributes := #[] }, { accessFlags := 25, nameIndex := 302, descriptorIndex := 303, attributes := #[] }, { accessFlags := 24, nameIndex := 19, descriptorIndex := 20, attributes := #[] }, { accessFlags := 24, nameIndex := 89, descriptorIndex := 86, attributes := #[] }, { accessFlags := 24, nameIndex := 85, descriptorIndex := 86, attributes := #[] }, { accessFlags := 18, nameIndex := 207, descriptorIndex := 194, attributes := #[] }, { accessFlags := 25, nameIndex := 316, descriptorIndex := 194, attributes := #[] }, { accessFlags := 25, nameIndex := 318, descriptorIndex := 194, attributes := #[] }, { accessFlags := 26, nameIndex := 320, descriptorIndex := 321, attributes := #[] }])
  fields := #[{ name := "MIN_VALUE", type := .int, accessFlags := 25, slot := 0, constantValue := 0 }, { name := "MAX_VALUE", type := .int, accessFlags := 25, slot := 1, constantValue := 0 }, { name := "TYPE", type := (.object "java/lang/Class"), accessFlags := 25, slot := 2, constantValue := 0 }, { name := "digits", type := (.array .char), accessFlags := 24, slot := 3, constantValue := 0 }, { name := "DigitTens", type := (.array .byte), accessFlags := 24, slot := 4, constantValue := 0 }, { name := "DigitOnes", type := (.array .byte), accessFlags := 24, slot := 5, constantValue := 0 }, { name := "value", type := .int, accessFlags := 18, slot := 0, constantValue := 0 }, { name := "SIZE", type := .int, accessFlags := 25, slot := 6, constantValue := 0 }, { name := "BYTES", type := .int, accessFlags := 25, slot := 7, constantValue := 0 }, { name := "serialVersionUID", type := .long, accessFlags := 26, slot := 8, constantValue := 0 }]
  methods := #[k10m0, k10m1]
  instanceTypes := #[.int]
  staticTypes := #[.int, .int, (.object "java/lang/Class"), (.array .char), (.array .byte), (.array .byte), .int, .int, .long]
  resolved := Array.replicate 453 none
  statics := none }

def pool11 : Array CpInfo := pool [(2, .class_ 4), (1, u "java/lang/Object"), (0, u "<init>"), (0, u "()V"), (0, .class_ 8), (0, u "java/lang/Integer"), (7, .class_ 18), (1, u "java/lang/Integer$IntegerCache"), (0, u "$assertionsDisabled"), (0, u "Z"), (26, u "high"), (0, u "I"), (8, u "archivedCache"), (0, u "[Ljava/lang/Integer;"), (12, u "cache"), (0, u "low")] 27

def k11m0 : Method := { name := "<init>", desc := "()V", sig := { parameters := [], returnType := none }, accessFlags := 2, code := none }
/-- java/lang/Integer$IntegerCache -/
def k11 : Class := { plain "java/lang/Integer$IntegerCache" (some 0) with
  accessFlags := 48
  interfaces := #[]
  cf := some (fileOf pool11 16 #[.nestHost 7] #[{ accessFlags := 2, nameIndex := 5, descriptorIndex := 6, attributes := #[] }] 48 2 #[] #[{ accessFlags := 24, nameIndex := 72, descriptorIndex := 48, attributes := #[] }, { accessFlags := 24, nameIndex := 47, descriptorIndex := 48, attributes := #[] }, { accessFlags := 24, nameIndex := 71, descriptorIndex := 58, attributes := #[] }, { accessFlags := 8, nameIndex := 57, descriptorIndex := 58, attributes := #[] }, { accessFlags := 4120, nameIndex := 19, descriptorIndex := 20, attributes := #[] }])
  fields := #[{ name := "low", type := .int, accessFlags := 24, slot := 0, constantValue := 0 }, { name := "high", type := .int, accessFlags := 24, slot := 1, constantValue := 0 }, { name := "cache", type := (.array (.object "java/lang/Integer")), accessFlags := 24, slot := 2, constantValue := 0 }, { name := "archivedCache", type := (.array (.object "java/lang/Integer")), accessFlags := 8, slot := 3, constantValue := 0 }, { name := "$assertionsDisabled", type := .boolean, accessFlags := 4120, slot := 4, constantValue := 0 }]
  methods := #[k11m0]
  instanceTypes := #[]
  staticTypes := #[.int, .int, (.array (.object "java/lang/Integer")), (.array (.object "java/lang/Integer")), .boolean]
  resolved := Array.replicate 100 none
  statics := some 1 }

def pool12 : Array CpInfo := pool [(1, u "java/lang/Cloneable"), (0, .class_ 1), (0, u "java/lang/Object"), (0, .class_ 3)] 3

/-- java/lang/Cloneable -/
def k12 : Class := { plain "java/lang/Cloneable" (some 0) with
  accessFlags := 1537
  interfaces := #[]
  cf := some (fileOf pool12 2 #[] #[] 1537 4 #[] #[])
  fields := #[]
  methods := #[]
  instanceTypes := #[]
  staticTypes := #[]
  resolved := Array.replicate 8 none
  statics := none }

/-- the primitive byte -/
def k13 : Class := { plain "byte" none with kind := .primitive 'B', accessFlags := 0x411 }
/-- [B -/
def k14 : Class := { plain "[B" (some 0) with kind := .array 13 .byte, interfaces := #[12, 4], accessFlags := 1041 }

/-- the primitive int -/
def k15 : Class := { plain "int" none with kind := .primitive 'I', accessFlags := 0x411 }
/-- [I -/
def k16 : Class := { plain "[I" (some 0) with kind := .array 15 .int, interfaces := #[12, 4], accessFlags := 1041 }

/-- [Ljava/lang/Integer; -/
def k17 : Class := { plain "[Ljava/lang/Integer;" (some 0) with kind := .array 10 (.object "java/lang/Integer"), interfaces := #[12, 4], accessFlags := 1041 }

def heap : Heap := #[{ cls := 6, slots := #[.null, .null, .null, .null, .null, .null, .ref 3, .ref 6, .ref 5, .null, .null, .null, .null, .null, .null, .null, .null, .null, .null, .null, .null, .ref 4, .null], vm := .statics 6 },
  { cls := 11, slots := #[.int 0, .int 127, .ref 2, .null, .int 0], vm := .statics 11 },
  { cls := 17, slots := #[.ref 7, .ref 8, .ref 9, .ref 10, .ref 11, .ref 12, .ref 13, .ref 14, .ref 15, .ref 16, .ref 17, .ref 18, .ref 19, .ref 20, .ref 21, .ref 22, .ref 23, .ref 24, .ref 25, .ref 26, .ref 27, .ref 28, .ref 29, .ref 30, .ref 31, .ref 32, .ref 33, .ref 34, .ref 35, .ref 36, .ref 37, .ref 38, .ref 39, .ref 40, .ref 41, .ref 42, .ref 43, .ref 44, .ref 45, .ref 46, .ref 47, .ref 48, .ref 49, .ref 50, .ref 51, .ref 52, .ref 53, .ref 54, .ref 55, .ref 56, .ref 57, .ref 58, .ref 59, .ref 60, .ref 61, .ref 62, .ref 63, .ref 64, .ref 65, .ref 66, .ref 67, .ref 68, .ref 69, .ref 70, .ref 71, .ref 72, .ref 73, .ref 74, .ref 75, .ref 76, .ref 77, .ref 78, .ref 79, .ref 80, .ref 81, .ref 82, .ref 83, .ref 84, .ref 85, .ref 86, .ref 87, .ref 88, .ref 89, .ref 90, .ref 91, .ref 92, .ref 93, .ref 94, .ref 95, .ref 96, .ref 97, .ref 98, .ref 99, .ref 100, .ref 101, .ref 102, .ref 103, .ref 104, .ref 105, .ref 106, .ref 107, .ref 108, .ref 109, .ref 110, .ref 111, .ref 112, .ref 113, .ref 114, .ref 115, .ref 116, .ref 117, .ref 118, .ref 119, .ref 120, .ref 121, .ref 122, .ref 123, .ref 124, .ref 125, .ref 126, .ref 127, .ref 128, .ref 129, .ref 130, .ref 131, .ref 132, .ref 133, .ref 134, .ref 135, .ref 136, .ref 137, .ref 138, .ref 139, .ref 140, .ref 141, .ref 142, .ref 143, .ref 144, .ref 145, .ref 146, .ref 147, .ref 148, .ref 149, .ref 150, .ref 151, .ref 152, .ref 153, .ref 154, .ref 155, .ref 156, .ref 157, .ref 158, .ref 159, .ref 160, .ref 161, .ref 162, .ref 163, .ref 164, .ref 165, .ref 166, .ref 167, .ref 168, .ref 169, .ref 170, .ref 171, .ref 172, .ref 173, .ref 174, .ref 175, .ref 176, .ref 177, .ref 178, .ref 179, .ref 180, .ref 181, .ref 182, .ref 183, .ref 184, .ref 185, .ref 186, .ref 187, .ref 188, .ref 189, .ref 190, .ref 191, .ref 192, .ref 193, .ref 194, .ref 195, .ref 196, .ref 197, .ref 198, .ref 199, .ref 200, .ref 201, .ref 202, .ref 203, .ref 204, .ref 205, .ref 206, .ref 207, .ref 208, .ref 209, .ref 210, .ref 211, .ref 212, .ref 213, .ref 214, .ref 215, .ref 216, .ref 217, .ref 218, .ref 219, .ref 220, .ref 221, .ref 222, .ref 223, .ref 224, .ref 225, .ref 226, .ref 227, .ref 228, .ref 229, .ref 230, .ref 231, .ref 232, .ref 233, .ref 234, .ref 235, .ref 236, .ref 237, .ref 238, .ref 239, .ref 240, .ref 241, .ref 242, .ref 243, .ref 244, .ref 245, .ref 246, .ref 247, .ref 248, .ref 249, .ref 250, .ref 251, .ref 252, .ref 253, .ref 254, .ref 255, .ref 256, .ref 257, .ref 258, .ref 259, .ref 260, .ref 261, .ref 262], vm := .none },
  { cls := 6, slots := #[.null, .int 6, .int 0, .null], vm := .none },
  { cls := 6, slots := #[.null, .int 21, .int 0, .null], vm := .none },
  { cls := 6, slots := #[.null, .int 8, .int 0, .null], vm := .none },
  { cls := 6, slots := #[.null, .int 7, .int 0, .null], vm := .none },
  { cls := 10, slots := #[.int (-128)], vm := .none },
  { cls := 10, slots := #[.int (-127)], vm := .none },
  { cls := 10, slots := #[.int (-126)], vm := .none },
  { cls := 10, slots := #[.int (-125)], vm := .none },
  { cls := 10, slots := #[.int (-124)], vm := .none },
  { cls := 10, slots := #[.int (-123)], vm := .none },
  { cls := 10, slots := #[.int (-122)], vm := .none },
  { cls := 10, slots := #[.int (-121)], vm := .none },
  { cls := 10, slots := #[.int (-120)], vm := .none },
  { cls := 10, slots := #[.int (-119)], vm := .none },
  { cls := 10, slots := #[.int (-118)], vm := .none },
  { cls := 10, slots := #[.int (-117)], vm := .none },
  { cls := 10, slots := #[.int (-116)], vm := .none },
  { cls := 10, slots := #[.int (-115)], vm := .none },
  { cls := 10, slots := #[.int (-114)], vm := .none },
  { cls := 10, slots := #[.int (-113)], vm := .none },
  { cls := 10, slots := #[.int (-112)], vm := .none },
  { cls := 10, slots := #[.int (-111)], vm := .none },
  { cls := 10, slots := #[.int (-110)], vm := .none },
  { cls := 10, slots := #[.int (-109)], vm := .none },
  { cls := 10, slots := #[.int (-108)], vm := .none },
  { cls := 10, slots := #[.int (-107)], vm := .none },
  { cls := 10, slots := #[.int (-106)], vm := .none },
  { cls := 10, slots := #[.int (-105)], vm := .none },
  { cls := 10, slots := #[.int (-104)], vm := .none },
  { cls := 10, slots := #[.int (-103)], vm := .none },
  { cls := 10, slots := #[.int (-102)], vm := .none },
  { cls := 10, slots := #[.int (-101)], vm := .none },
  { cls := 10, slots := #[.int (-100)], vm := .none },
  { cls := 10, slots := #[.int (-99)], vm := .none },
  { cls := 10, slots := #[.int (-98)], vm := .none },
  { cls := 10, slots := #[.int (-97)], vm := .none },
  { cls := 10, slots := #[.int (-96)], vm := .none },
  { cls := 10, slots := #[.int (-95)], vm := .none },
  { cls := 10, slots := #[.int (-94)], vm := .none },
  { cls := 10, slots := #[.int (-93)], vm := .none },
  { cls := 10, slots := #[.int (-92)], vm := .none },
  { cls := 10, slots := #[.int (-91)], vm := .none },
  { cls := 10, slots := #[.int (-90)], vm := .none },
  { cls := 10, slots := #[.int (-89)], vm := .none },
  { cls := 10, slots := #[.int (-88)], vm := .none },
  { cls := 10, slots := #[.int (-87)], vm := .none },
  { cls := 10, slots := #[.int (-86)], vm := .none },
  { cls := 10, slots := #[.int (-85)], vm := .none },
  { cls := 10, slots := #[.int (-84)], vm := .none },
  { cls := 10, slots := #[.int (-83)], vm := .none },
  { cls := 10, slots := #[.int (-82)], vm := .none },
  { cls := 10, slots := #[.int (-81)], vm := .none },
  { cls := 10, slots := #[.int (-80)], vm := .none },
  { cls := 10, slots := #[.int (-79)], vm := .none },
  { cls := 10, slots := #[.int (-78)], vm := .none },
  { cls := 10, slots := #[.int (-77)], vm := .none },
  { cls := 10, slots := #[.int (-76)], vm := .none },
  { cls := 10, slots := #[.int (-75)], vm := .none },
  { cls := 10, slots := #[.int (-74)], vm := .none },
  { cls := 10, slots := #[.int (-73)], vm := .none },
  { cls := 10, slots := #[.int (-72)], vm := .none },
  { cls := 10, slots := #[.int (-71)], vm := .none },
  { cls := 10, slots := #[.int (-70)], vm := .none },
  { cls := 10, slots := #[.int (-69)], vm := .none },
  { cls := 10, slots := #[.int (-68)], vm := .none },
  { cls := 10, slots := #[.int (-67)], vm := .none },
  { cls := 10, slots := #[.int (-66)], vm := .none },
  { cls := 10, slots := #[.int (-65)], vm := .none },
  { cls := 10, slots := #[.int (-64)], vm := .none },
  { cls := 10, slots := #[.int (-63)], vm := .none },
  { cls := 10, slots := #[.int (-62)], vm := .none },
  { cls := 10, slots := #[.int (-61)], vm := .none },
  { cls := 10, slots := #[.int (-60)], vm := .none },
  { cls := 10, slots := #[.int (-59)], vm := .none },
  { cls := 10, slots := #[.int (-58)], vm := .none },
  { cls := 10, slots := #[.int (-57)], vm := .none },
  { cls := 10, slots := #[.int (-56)], vm := .none },
  { cls := 10, slots := #[.int (-55)], vm := .none },
  { cls := 10, slots := #[.int (-54)], vm := .none },
  { cls := 10, slots := #[.int (-53)], vm := .none },
  { cls := 10, slots := #[.int (-52)], vm := .none },
  { cls := 10, slots := #[.int (-51)], vm := .none },
  { cls := 10, slots := #[.int (-50)], vm := .none },
  { cls := 10, slots := #[.int (-49)], vm := .none },
  { cls := 10, slots := #[.int (-48)], vm := .none },
  { cls := 10, slots := #[.int (-47)], vm := .none },
  { cls := 10, slots := #[.int (-46)], vm := .none },
  { cls := 10, slots := #[.int (-45)], vm := .none },
  { cls := 10, slots := #[.int (-44)], vm := .none },
  { cls := 10, slots := #[.int (-43)], vm := .none },
  { cls := 10, slots := #[.int (-42)], vm := .none },
  { cls := 10, slots := #[.int (-41)], vm := .none },
  { cls := 10, slots := #[.int (-40)], vm := .none },
  { cls := 10, slots := #[.int (-39)], vm := .none },
  { cls := 10, slots := #[.int (-38)], vm := .none },
  { cls := 10, slots := #[.int (-37)], vm := .none },
  { cls := 10, slots := #[.int (-36)], vm := .none },
  { cls := 10, slots := #[.int (-35)], vm := .none },
  { cls := 10, slots := #[.int (-34)], vm := .none },
  { cls := 10, slots := #[.int (-33)], vm := .none },
  { cls := 10, slots := #[.int (-32)], vm := .none },
  { cls := 10, slots := #[.int (-31)], vm := .none },
  { cls := 10, slots := #[.int (-30)], vm := .none },
  { cls := 10, slots := #[.int (-29)], vm := .none },
  { cls := 10, slots := #[.int (-28)], vm := .none },
  { cls := 10, slots := #[.int (-27)], vm := .none },
  { cls := 10, slots := #[.int (-26)], vm := .none },
  { cls := 10, slots := #[.int (-25)], vm := .none },
  { cls := 10, slots := #[.int (-24)], vm := .none },
  { cls := 10, slots := #[.int (-23)], vm := .none },
  { cls := 10, slots := #[.int (-22)], vm := .none },
  { cls := 10, slots := #[.int (-21)], vm := .none },
  { cls := 10, slots := #[.int (-20)], vm := .none },
  { cls := 10, slots := #[.int (-19)], vm := .none },
  { cls := 10, slots := #[.int (-18)], vm := .none },
  { cls := 10, slots := #[.int (-17)], vm := .none },
  { cls := 10, slots := #[.int (-16)], vm := .none },
  { cls := 10, slots := #[.int (-15)], vm := .none },
  { cls := 10, slots := #[.int (-14)], vm := .none },
  { cls := 10, slots := #[.int (-13)], vm := .none },
  { cls := 10, slots := #[.int (-12)], vm := .none },
  { cls := 10, slots := #[.int (-11)], vm := .none },
  { cls := 10, slots := #[.int (-10)], vm := .none },
  { cls := 10, slots := #[.int (-9)], vm := .none },
  { cls := 10, slots := #[.int (-8)], vm := .none },
  { cls := 10, slots := #[.int (-7)], vm := .none },
  { cls := 10, slots := #[.int (-6)], vm := .none },
  { cls := 10, slots := #[.int (-5)], vm := .none },
  { cls := 10, slots := #[.int (-4)], vm := .none },
  { cls := 10, slots := #[.int (-3)], vm := .none },
  { cls := 10, slots := #[.int (-2)], vm := .none },
  { cls := 10, slots := #[.int (-1)], vm := .none },
  { cls := 10, slots := #[.int 0], vm := .none },
  { cls := 10, slots := #[.int 1], vm := .none },
  { cls := 10, slots := #[.int 2], vm := .none },
  { cls := 10, slots := #[.int 3], vm := .none },
  { cls := 10, slots := #[.int 4], vm := .none },
  { cls := 10, slots := #[.int 5], vm := .none },
  { cls := 10, slots := #[.int 6], vm := .none },
  { cls := 10, slots := #[.int 7], vm := .none },
  { cls := 10, slots := #[.int 8], vm := .none },
  { cls := 10, slots := #[.int 9], vm := .none },
  { cls := 10, slots := #[.int 10], vm := .none },
  { cls := 10, slots := #[.int 11], vm := .none },
  { cls := 10, slots := #[.int 12], vm := .none },
  { cls := 10, slots := #[.int 13], vm := .none },
  { cls := 10, slots := #[.int 14], vm := .none },
  { cls := 10, slots := #[.int 15], vm := .none },
  { cls := 10, slots := #[.int 16], vm := .none },
  { cls := 10, slots := #[.int 17], vm := .none },
  { cls := 10, slots := #[.int 18], vm := .none },
  { cls := 10, slots := #[.int 19], vm := .none },
  { cls := 10, slots := #[.int 20], vm := .none },
  { cls := 10, slots := #[.int 21], vm := .none },
  { cls := 10, slots := #[.int 22], vm := .none },
  { cls := 10, slots := #[.int 23], vm := .none },
  { cls := 10, slots := #[.int 24], vm := .none },
  { cls := 10, slots := #[.int 25], vm := .none },
  { cls := 10, slots := #[.int 26], vm := .none },
  { cls := 10, slots := #[.int 27], vm := .none },
  { cls := 10, slots := #[.int 28], vm := .none },
  { cls := 10, slots := #[.int 29], vm := .none },
  { cls := 10, slots := #[.int 30], vm := .none },
  { cls := 10, slots := #[.int 31], vm := .none },
  { cls := 10, slots := #[.int 32], vm := .none },
  { cls := 10, slots := #[.int 33], vm := .none },
  { cls := 10, slots := #[.int 34], vm := .none },
  { cls := 10, slots := #[.int 35], vm := .none },
  { cls := 10, slots := #[.int 36], vm := .none },
  { cls := 10, slots := #[.int 37], vm := .none },
  { cls := 10, slots := #[.int 38], vm := .none },
  { cls := 10, slots := #[.int 39], vm := .none },
  { cls := 10, slots := #[.int 40], vm := .none },
  { cls := 10, slots := #[.int 41], vm := .none },
  { cls := 10, slots := #[.int 42], vm := .none },
  { cls := 10, slots := #[.int 43], vm := .none },
  { cls := 10, slots := #[.int 44], vm := .none },
  { cls := 10, slots := #[.int 45], vm := .none },
  { cls := 10, slots := #[.int 46], vm := .none },
  { cls := 10, slots := #[.int 47], vm := .none },
  { cls := 10, slots := #[.int 48], vm := .none },
  { cls := 10, slots := #[.int 49], vm := .none },
  { cls := 10, slots := #[.int 50], vm := .none },
  { cls := 10, slots := #[.int 51], vm := .none },
  { cls := 10, slots := #[.int 52], vm := .none },
  { cls := 10, slots := #[.int 53], vm := .none },
  { cls := 10, slots := #[.int 54], vm := .none },
  { cls := 10, slots := #[.int 55], vm := .none },
  { cls := 10, slots := #[.int 56], vm := .none },
  { cls := 10, slots := #[.int 57], vm := .none },
  { cls := 10, slots := #[.int 58], vm := .none },
  { cls := 10, slots := #[.int 59], vm := .none },
  { cls := 10, slots := #[.int 60], vm := .none },
  { cls := 10, slots := #[.int 61], vm := .none },
  { cls := 10, slots := #[.int 62], vm := .none },
  { cls := 10, slots := #[.int 63], vm := .none },
  { cls := 10, slots := #[.int 64], vm := .none },
  { cls := 10, slots := #[.int 65], vm := .none },
  { cls := 10, slots := #[.int 66], vm := .none },
  { cls := 10, slots := #[.int 67], vm := .none },
  { cls := 10, slots := #[.int 68], vm := .none },
  { cls := 10, slots := #[.int 69], vm := .none },
  { cls := 10, slots := #[.int 70], vm := .none },
  { cls := 10, slots := #[.int 71], vm := .none },
  { cls := 10, slots := #[.int 72], vm := .none },
  { cls := 10, slots := #[.int 73], vm := .none },
  { cls := 10, slots := #[.int 74], vm := .none },
  { cls := 10, slots := #[.int 75], vm := .none },
  { cls := 10, slots := #[.int 76], vm := .none },
  { cls := 10, slots := #[.int 77], vm := .none },
  { cls := 10, slots := #[.int 78], vm := .none },
  { cls := 10, slots := #[.int 79], vm := .none },
  { cls := 10, slots := #[.int 80], vm := .none },
  { cls := 10, slots := #[.int 81], vm := .none },
  { cls := 10, slots := #[.int 82], vm := .none },
  { cls := 10, slots := #[.int 83], vm := .none },
  { cls := 10, slots := #[.int 84], vm := .none },
  { cls := 10, slots := #[.int 85], vm := .none },
  { cls := 10, slots := #[.int 86], vm := .none },
  { cls := 10, slots := #[.int 87], vm := .none },
  { cls := 10, slots := #[.int 88], vm := .none },
  { cls := 10, slots := #[.int 89], vm := .none },
  { cls := 10, slots := #[.int 90], vm := .none },
  { cls := 10, slots := #[.int 91], vm := .none },
  { cls := 10, slots := #[.int 92], vm := .none },
  { cls := 10, slots := #[.int 93], vm := .none },
  { cls := 10, slots := #[.int 94], vm := .none },
  { cls := 10, slots := #[.int 95], vm := .none },
  { cls := 10, slots := #[.int 96], vm := .none },
  { cls := 10, slots := #[.int 97], vm := .none },
  { cls := 10, slots := #[.int 98], vm := .none },
  { cls := 10, slots := #[.int 99], vm := .none },
  { cls := 10, slots := #[.int 100], vm := .none },
  { cls := 10, slots := #[.int 101], vm := .none },
  { cls := 10, slots := #[.int 102], vm := .none },
  { cls := 10, slots := #[.int 103], vm := .none },
  { cls := 10, slots := #[.int 104], vm := .none },
  { cls := 10, slots := #[.int 105], vm := .none },
  { cls := 10, slots := #[.int 106], vm := .none },
  { cls := 10, slots := #[.int 107], vm := .none },
  { cls := 10, slots := #[.int 108], vm := .none },
  { cls := 10, slots := #[.int 109], vm := .none },
  { cls := 10, slots := #[.int 110], vm := .none },
  { cls := 10, slots := #[.int 111], vm := .none },
  { cls := 10, slots := #[.int 112], vm := .none },
  { cls := 10, slots := #[.int 113], vm := .none },
  { cls := 10, slots := #[.int 114], vm := .none },
  { cls := 10, slots := #[.int 115], vm := .none },
  { cls := 10, slots := #[.int 116], vm := .none },
  { cls := 10, slots := #[.int 117], vm := .none },
  { cls := 10, slots := #[.int 118], vm := .none },
  { cls := 10, slots := #[.int 119], vm := .none },
  { cls := 10, slots := #[.int 120], vm := .none },
  { cls := 10, slots := #[.int 121], vm := .none },
  { cls := 10, slots := #[.int 122], vm := .none },
  { cls := 10, slots := #[.int 123], vm := .none },
  { cls := 10, slots := #[.int 124], vm := .none },
  { cls := 10, slots := #[.int 125], vm := .none },
  { cls := 10, slots := #[.int 126], vm := .none },
  { cls := 10, slots := #[.int 127], vm := .none }]
def classes : Array Class := #[k0, k1, k2, k3, k4, k5, k6, k7, k8, k9, k10, k11, k12, k13, k14, k15, k16, k17]
def interned : List (Array UInt16 × Addr) := []
def slotsUsed : Nat := 556
def theMethod : MethodId := ⟨1, 2⟩
def args0 : Array Value := #[.int 1, .int 2, .int 3, .int 4, .int 5]
def aboutOver (below : List Frame) : State where
  vm := { classes := classes, interned := interned.toArray }
  heap := heap
  slotsUsed := slotsUsed
  threads := #[{ frames := .invoking theMethod args0 :: below }]
def below0 : List Frame := [.native { method := ⟨0, 0⟩, args := #[] }]
def about1 : State := aboutOver below0
def p0 : Program := .bare "" "" ""
def e0 : Env := launch0.env 0 0 0
theorem w_frames : about1.frames = Frame.invoking theMethod args0 :: below0 := rfl
set_option maxRecDepth 65536 in
theorem w_args : argsFit about1.vm theMethod args0 = true := by decide +kernel
set_option maxRecDepth 65536 in
theorem w_heap : heapFits about1 = true := by decide +kernel
set_option maxRecDepth 65536 in
theorem w_runnable : about1.curStatus? = some .runnable := by decide +kernel
set_option maxRecDepth 65536 in
theorem w_alone : about1.alone = true := by decide +kernel
set_option maxRecDepth 65536 in
theorem w_named : about1.methodNamed? x = some theMethod := by decide +kernel
set_option maxRecDepth 65536 in
theorem w_hears : about1.hears theMethod below0 = true := by decide +kernel
set_option maxRecDepth 65536 in
theorem w_ripe : about1.ripe theMethod args0 below0 = true := by decide +kernel
theorem w_running : about1.status = .running := rfl
set_option maxRecDepth 65536 in
theorem w_room : about1.hasRoom e0.platform room_1 = true :=
  launch0.hasRoom_least _ room_1 (by decide +kernel) (by decide +kernel) (by decide +kernel) (by decide +kernel) (by decide +kernel) (by decide +kernel)
theorem allAtoms_all (ts : List Jvm.Cond) (a : Array Jvm.Value) (st : Jvm.State) : (allAtoms ts).before a st = ts.all (fun c => c.before a st) := by
  induction ts with
  | nil => rfl
  | cons c t ih =>
    show (Jvm.Cond.and c (allAtoms t)).before a st = _
    rw [Jvm.Cond.before_and, ih, List.all_cons]
def words1 : List Jvm.Cond := Jvm.Cond.code x code maxLocals ret :: tables_1
/-- a 'code' word, met by the world's own term for the bytes: nothing is compared byte by byte -/
theorem code_word {y : MethodName} {bytes : ByteArray} {mx : Nat} {rt : Option FieldType} {a : Array Value} {s : State} {m : MethodId} {meth : Method} {c : Code} (h1 : s.methodNamed? y = some m) (h2 : s.vm.method? m = some meth) (h3 : meth.code = some c) (h4 : c.code = bytes)
    (h5 : (c.maxLocals == mx && c.exceptionTable.isEmpty && decide (c.maxStack ≤ mostOperands) && decide (meth.sig.returnType = rt) && !meth.locks && decide (parseMethodDescriptor y.desc = some meth.sig)) = true) : (Jvm.Cond.code y bytes mx rt).before a s = true := by
  simp only [Bool.and_eq_true, beq_iff_eq, Bool.not_eq_true', decide_eq_true_eq] at h5
  obtain ⟨⟨⟨⟨⟨g1, g2⟩, g3⟩, g4⟩, g5⟩, g6⟩ := h5
  simp [Cond.before, Cond.holds, Cond.value, h1, h2, h3, h4, g1, g2, g3, g4, g5, g6]
def isCode : Jvm.Cond → Bool
  | .code _ _ _ _ => true
  | _ => false
theorem all_split {L : List Jvm.Cond} {P : Jvm.Cond → Bool} (h1 : L.all (fun c => isCode c || P c) = true) (h2 : ∀ c ∈ L.filter isCode, P c = true) : L.all P = true := by
  refine List.all_eq_true.mpr fun c hc => ?_
  have h := List.all_eq_true.mp h1 c hc
  rcases Bool.eq_false_or_eq_true (isCode c) with hi | hi
  · exact h2 c (List.mem_filter.mpr ⟨hc, hi⟩)
  · simpa [hi] using h
set_option maxRecDepth 65536 in
theorem w_c0 : (Jvm.Cond.code x code maxLocals ret).before args0 about1 = true := code_word (m := ⟨1, 2⟩) (meth := k1m2) (c := k1c2) (by decide +kernel) rfl rfl rfl (by decide +kernel)
set_option maxRecDepth 65536 in
theorem w_c1 : (Jvm.Cond.code ({ cls := "com/example/arcbind/arcbind/ViolationEqualsPinLaw", name := "reason", desc := "(I)Lcom/example/arcbind/arcbind/ArcbindException$Reason;" } : Jvm.MethodName) method_2_code (2 : Nat) (Option.some (Jvm.ClassFile.FieldType.object "com/example/arcbind/arcbind/ArcbindException$Reason"))).before args0 about1 = true := code_word (m := ⟨1, 1⟩) (meth := k1m1) (c := k1c1) (by decide +kernel) rfl rfl rfl (by decide +kernel)
set_option maxRecDepth 65536 in
theorem w_c2 : (Jvm.Cond.code ({ cls := "com/example/arcbind/arcbind/OidContent$Violation", name := "<init>", desc := "(Lcom/example/arcbind/arcbind/ArcbindException$Reason;I)V" } : Jvm.MethodName) prog_19_method_1_code (3 : Nat) (Option.none : Option Jvm.ClassFile.FieldType)).before args0 about1 = true := code_word (m := ⟨7, 0⟩) (meth := k7m0) (c := k7c0) (by decide +kernel) rfl rfl rfl (by decide +kernel)
set_option maxRecDepth 65536 in
theorem w_c3 : (Jvm.Cond.code ({ cls := "java/lang/Object", name := "<init>", desc := "()V" } : Jvm.MethodName) object_method_1_code (1 : Nat) (Option.none : Option Jvm.ClassFile.FieldType)).before args0 about1 = true := code_word (m := ⟨0, 0⟩) (meth := k0m0) (c := k0c0) (by decide +kernel) rfl rfl rfl (by decide +kernel)
set_option maxRecDepth 65536 in
theorem w_c4 : (Jvm.Cond.code ({ cls := "com/example/arcbind/arcbind/OidContent$Violation", name := "equals", desc := "(Ljava/lang/Object;)Z" } : Jvm.MethodName) prog_19_method_4_code (3 : Nat) (Option.some Jvm.ClassFile.FieldType.boolean)).before args0 about1 = true := code_word (m := ⟨7, 1⟩) (meth := k7m1) (c := k7c1) (by decide +kernel) rfl rfl rfl (by decide +kernel)
set_option maxRecDepth 65536 in
theorem w_c5 : (Jvm.Cond.code ({ cls := "java/lang/Integer", name := "valueOf", desc := "(I)Ljava/lang/Integer;" } : Jvm.MethodName) jdk_33_method_22_code (1 : Nat) (Option.some (Jvm.ClassFile.FieldType.object "java/lang/Integer"))).before args0 about1 = true := code_word (m := ⟨10, 0⟩) (meth := k10m0) (c := k10c0) (by decide +kernel) rfl rfl rfl (by decide +kernel)
set_option maxRecDepth 65536 in
theorem w_c6 : (Jvm.Cond.code ({ cls := "java/lang/Integer", name := "<init>", desc := "(I)V" } : Jvm.MethodName) jdk_33_method_23_code (2 : Nat) (Option.none : Option Jvm.ClassFile.FieldType)).before args0 about1 = true := code_word (m := ⟨10, 1⟩) (meth := k10m1) (c := k10c1) (by decide +kernel) rfl rfl rfl (by decide +kernel)
set_option maxRecDepth 65536 in
theorem w_c7 : (Jvm.Cond.code ({ cls := "java/lang/Number", name := "<init>", desc := "()V" } : Jvm.MethodName) jdk_18_method_1_code (1 : Nat) (Option.none : Option Jvm.ClassFile.FieldType)).before args0 about1 = true := code_word (m := ⟨8, 0⟩) (meth := k8m0) (c := k8c0) (by decide +kernel) rfl rfl rfl (by decide +kernel)
def codes1 : List Jvm.Cond := [Jvm.Cond.code x code maxLocals ret, Jvm.Cond.code ({ cls := "com/example/arcbind/arcbind/ViolationEqualsPinLaw", name := "reason", desc := "(I)Lcom/example/arcbind/arcbind/ArcbindException$Reason;" } : Jvm.MethodName) method_2_code (2 : Nat) (Option.some (Jvm.ClassFile.FieldType.object "com/example/arcbind/arcbind/ArcbindException$Reason")), Jvm.Cond.code ({ cls := "com/example/arcbind/arcbind/OidContent$Violation", name := "<init>", desc := "(Lcom/example/arcbind/arcbind/ArcbindException$Reason;I)V" } : Jvm.MethodName) prog_19_method_1_code (3 : Nat) (Option.none : Option Jvm.ClassFile.FieldType), Jvm.Cond.code ({ cls := "java/lang/Object", name := "<init>", desc := "()V" } : Jvm.MethodName) object_method_1_code (1 : Nat) (Option.none : Option Jvm.ClassFile.FieldType), Jvm.Cond.code ({ cls := "com/example/arcbind/arcbind/OidContent$Violation", name := "equals", desc := "(Ljava/lang/Object;)Z" } : Jvm.MethodName) prog_19_method_4_code (3 : Nat) (Option.some Jvm.ClassFile.FieldType.boolean), Jvm.Cond.code ({ cls := "java/lang/Integer", name := "valueOf", desc := "(I)Ljava/lang/Integer;" } : Jvm.MethodName) jdk_33_method_22_code (1 : Nat) (Option.some (Jvm.ClassFile.FieldType.object "java/lang/Integer")), Jvm.Cond.code ({ cls := "java/lang/Integer", name := "<init>", desc := "(I)V" } : Jvm.MethodName) jdk_33_method_23_code (2 : Nat) (Option.none : Option Jvm.ClassFile.FieldType), Jvm.Cond.code ({ cls := "java/lang/Number", name := "<init>", desc := "()V" } : Jvm.MethodName) jdk_18_method_1_code (1 : Nat) (Option.none : Option Jvm.ClassFile.FieldType)]
set_option maxRecDepth 65536 in
theorem codes_eq : words1.filter isCode = codes1 := rfl
theorem w_codes : ∀ c ∈ words1.filter isCode, c.before args0 about1 = true := by
  rw [codes_eq]
  intro c hc
  simp only [codes1, List.mem_cons, List.not_mem_nil, or_false] at hc
  rcases hc with rfl | rfl | rfl | rfl | rfl | rfl | rfl | rfl
  · exact w_c0
  · exact w_c1
  · exact w_c2
  · exact w_c3
  · exact w_c4
  · exact w_c5
  · exact w_c6
  · exact w_c7
set_option maxRecDepth 65536 in
theorem w_t1 : (words1.take 24).all (fun c => isCode c || c.before args0 about1) = true := by decide +kernel
set_option maxRecDepth 65536 in
theorem w_t2 : ((words1.drop 24).take 24).all (fun c => isCode c || c.before args0 about1) = true := by decide +kernel
set_option maxRecDepth 65536 in
theorem w_t3 : ((words1.drop 24).drop 24).all (fun c => isCode c || c.before args0 about1) = true := by decide +kernel
theorem w_tables : (allAtoms (Jvm.Cond.code x code maxLocals ret :: tables_1)).before args0 about1 = true := by
  rw [allAtoms_all]
  show words1.all (fun c => c.before args0 about1) = true
  refine all_split ?_ w_codes
  rw [← List.take_append_drop 24 words1, List.all_append, w_t1, ← List.take_append_drop 24 (words1.drop 24), List.all_append, w_t2, w_t3]
  rfl
set_option maxRecDepth 65536 in
theorem w_rest : rest_1_c.before args0 about1 = true := by decide +kernel
set_option maxRecDepth 65536 in
theorem w_case : (Jvm.Cond.and given_1 narrow_1).before args0 about1 = true := by decide +kernel
theorem w_applies : (headSpec (Jvm.Cond.code x code maxLocals ret :: tables_1) room_1).applies x e0.platform about1 = true :=
  (Spec.applies_iff w_frames).mpr ⟨w_running, w_runnable, w_alone, w_named, w_hears, w_ripe, w_room, w_tables⟩
theorem atStart : AtStart classFile x code maxLocals ret World_1 tables_1 room_1 Calls_1 rest_1 Pre_1 launch0 p0 e0 about1 theMethod args0 below0 :=
  ⟨lists_1, trivial, launch0.admits_env _ _ _, launch0.least_env, fairChoices_fair.cas, fairChoices_fair.clock, w_frames, w_args, w_heap, w_applies, trivial, w_rest, w_case⟩
end start1
theorem witness_1 : WitnessClaimed_1 := ⟨start1.p0, start1.e0, start1.about1, start1.theMethod, start1.args0, start1.below0, start1.atStart⟩
end Jvm.Pilot.@@N@@
