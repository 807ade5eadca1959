import JvmDerived
import JvmDerived.Pilot.@@N@@Statement
import JvmDerived.Pilot.@@N@@Code
set_option linter.unusedVariables false
set_option linter.unusedSimpArgs false
namespace Jvm.Own
open Sem ClassFile Op Lib Jvm.Stand Jvm.Free Jvm.LawKit Jvm.RoadKit
/-- from the frame g, standing in T, the run ends in what P says -/
def Goes (p : Program) (e : Env) (below : List Frame) (P : Outcome → State → Prop) (T : State) (g : JFrame) : Prop :=
  ∃ s₂ o, Steps p.tables e below (T.setTop g) s₂ ∧ s₂.status = .running ∧ Ended s₂ below o ∧ P o s₂
/-- what a body leaves -/
abbrev Leaves (s : State) (Q : Option Value → Heap → List Loc → Prop) (C N : Nat) (o : Outcome) (U : State) : Prop := ∃ v L, o = .returned v ∧ Q v U.heap L ∧ FrameEnd s o U L C N
/-- a body's contract, asked at the arguments 'as' and the heap h0 -/
abbrev Pays (l : Launch) (Z : State) (y : MethodName) (bytes : ByteArray) (maxL : Nat) (ret : Option FieldType) (ws : List Jvm.Cond) (rm : Room) (as : Array Value) (h0 : Heap) (Q : Option Value → Heap → List Loc → Prop) : Prop :=
  MetFree l y (head1 (Jvm.Cond.code y bytes maxL ret :: ws) rm) (fun a U => a = as ∧ Z.Warmed39 U.vm ∧ U.heap = h0) (fun _ _ _ _ _ => True) (fun _ U o U' => ∃ v L, o = .returned v ∧ Q v U'.heap L ∧ FrameEnd U o U' L rm.cells rm.slots)
section Steps
variable {p : Program} {l : Launch} {e : Env} {R : Room} {s : State} {m : MethodId} {args : Array Value} {below : List Frame} {meth : Method} {c : Code} {T T' : State} {locs : List Loc} {cells slots : Nat} {Z : State} {a0 : Array Value} {h : Heap} {P : Outcome → State → Prop} {g g' : JFrame}
theorem Goes.on (st : ∀ t, Steps p.tables e below (T'.setTop g') t → Steps p.tables e below (T.setTop g) t) (k : Goes p e below P T' g') : Goes p e below P T g := by
  obtain ⟨s₂, o, h1, h2⟩ := k
  exact ⟨s₂, o, st _ h1, h2⟩
theorem Goes.joinB {fr : Int32 → JFrame} (k : ∀ z, (z = 0 ∨ z = 1) → Goes p e below P T' (fr z)) (u : (∀ z, (z = 0 ∨ z = 1) → Goes p e below P T' (fr z)) → Goes p e below P T g) : Goes p e below P T g := u k
theorem Goes.joinI {fr : Int32 → JFrame} (k : ∀ z, Goes p e below P T' (fr z)) (u : (∀ z, Goes p e below P T' (fr z)) → Goes p e below P T g) : Goes p e below P T g := u k
theorem Goes.joinJ {fr : Int64 → JFrame} (k : ∀ z, Goes p e below P T' (fr z)) (u : (∀ z, Goes p e below P T' (fr z)) → Goes p e below P T g) : Goes p e below P T g := u k
theorem Goes.joinR {fr : Addr → JFrame} (k : ∀ z, Goes p e below P T' (fr z)) (u : (∀ z, Goes p e below P T' (fr z)) → Goes p e below P T g) : Goes p e below P T g := u k
theorem Goes.joinT (X : Stand p l e R s m args below meth c T locs cells slots) {fr : Addr → JFrame} (k : ∀ z T', Stand p l e R s m args below meth c T' locs cells slots → T'.heap = h → Goes p e below P T' (fr z)) (u : (∀ z T', Stand p l e R s m args below meth c T' locs cells slots → T'.heap = h → Goes p e below P T' (fr z)) → Goes p e below P T g) : Goes p e below P T g := u k
theorem Goes.out {Q : Option Value → Heap → List Loc → Prop} {C N : Nat} (X : Stand p l e R s m args below meth c T locs cells slots) {v : Option Value} (hv : meth.sig.returnType = none → v = none) (hlk : meth.locks = false) (hc : cells ≤ C) (hs : slots ≤ N) (hq : Q v T.heap locs)
    (st : ∀ fs, (∀ (f : JFrame) (acts : List Action), f.method = m → f.locked = none → f.entered = [] → (doReturn e (T.setTop f) acts v).1 = T.setFrames fs) → Steps p.tables e below (T.setTop g) (T.setFrames fs)) : Goes p e below (Leaves s Q C N) T g := by
  obtain ⟨fs, hr, hrun, hended, hW, hsame⟩ := X.leave (v := v) hv hlk
  exact ⟨_, _, st fs hr, hrun, hended, v, locs, rfl, hq, ⟨_, rfl⟩, hW, hsame.mono hc hs⟩
theorem Goes.retV {Q : Option Value → Heap → List Loc → Prop} {C N : Nat} (X : Stand p l e R s m args below meth c T locs cells slots) (hx : p.tables.exec = Jvm.exec) (hlk : meth.locks = false) (hret : meth.sig.returnType = none) {pc : Nat} {Ls : Array Slot} (hd : decode c.code pc = .ok (.return_, 1)) (hc : cells ≤ C) (hs : slots ≤ N) (hq : Q none T.heap locs) :
    Goes p e below (Leaves s Q C N) T (mkF m pc Ls []) :=
  Goes.out X (fun _ => rfl) hlk hc hs hq fun _ hr => X.returnOut hx hret hd hr
theorem Goes.retW {Q : Option Value → Heap → List Loc → Prop} {C N : Nat} (X : Stand p l e R s m args below meth c T locs cells slots) (hx : p.tables.exec = Jvm.exec) (hlk : meth.locks = false) {t : FieldType} {i : Instr} {w : Value} (hret : meth.sig.returnType = some t) {pc : Nat} {Ls : Array Slot} {rest : List Value} (hn : narrow t w = w)
    (hi : (i = .ireturn ∧ (t = .int ∨ t = .boolean ∨ t = .byte ∨ t = .char ∨ t = .short) ∧ ∃ z, w = .int z) ∨ (i = .lreturn ∧ t = .long ∧ ∃ z, w = .long z) ∨ (i = .dreturn ∧ t = .double ∧ ∃ z, w = .double z) ∨ (i = .freturn ∧ t = .float ∧ ∃ z, w = .float z) ∨ (i = .areturn ∧ t.isReference = true ∧ w.isRef = true))
    (hd : decode c.code pc = .ok (i, 1)) (hc : cells ≤ C) (hs : slots ≤ N) (hq : Q (some w) T.heap locs) : Goes p e below (Leaves s Q C N) T (mkF m pc Ls (w :: rest)) :=
  Goes.out X (fun h => by rw [hret] at h; cases h) hlk hc hs hq fun _ hr => retOut X hx hret hn hi hd hr
theorem Goes.retI {Q : Option Value → Heap → List Loc → Prop} {C N : Nat} (X : Stand p l e R s m args below meth c T locs cells slots) (hx : p.tables.exec = Jvm.exec) (hlk : meth.locks = false) {z : Int32} (hret : meth.sig.returnType = some .int) {pc : Nat} {Ls : Array Slot} {rest : List Value} (hd : decode c.code pc = .ok (.ireturn, 1)) (hc : cells ≤ C) (hs : slots ≤ N) (hq : Q (some (.int z)) T.heap locs) :
    Goes p e below (Leaves s Q C N) T (mkF m pc Ls (.int z :: rest)) := Goes.retW X hx hlk hret rfl (Or.inl ⟨rfl, Or.inl rfl, _, rfl⟩) hd hc hs hq
theorem Goes.retB {Q : Option Value → Heap → List Loc → Prop} {C N : Nat} (X : Stand p l e R s m args below meth c T locs cells slots) (hx : p.tables.exec = Jvm.exec) (hlk : meth.locks = false) {z : Int32} (hret : meth.sig.returnType = some .boolean) {pc : Nat} {Ls : Array Slot} {rest : List Value} (hz : z = 0 ∨ z = 1) (hd : decode c.code pc = .ok (.ireturn, 1)) (hc : cells ≤ C) (hs : slots ≤ N) (hq : Q (some (.int z)) T.heap locs) :
    Goes p e below (Leaves s Q C N) T (mkF m pc Ls (.int z :: rest)) := Goes.retW X hx hlk hret (by rcases hz with rfl | rfl <;> rfl) (Or.inl ⟨rfl, Or.inr (Or.inl rfl), _, rfl⟩) hd hc hs hq
theorem Goes.retC {Q : Option Value → Heap → List Loc → Prop} {C N : Nat} (X : Stand p l e R s m args below meth c T locs cells slots) (hx : p.tables.exec = Jvm.exec) (hlk : meth.locks = false) {z : Int32} (hret : meth.sig.returnType = some .char) {pc : Nat} {Ls : Array Slot} {rest : List Value} (hz : nar .char z = z) (hd : decode c.code pc = .ok (.ireturn, 1)) (hc : cells ≤ C) (hs : slots ≤ N) (hq : Q (some (.int z)) T.heap locs) :
    Goes p e below (Leaves s Q C N) T (mkF m pc Ls (.int z :: rest)) := Goes.retW X hx hlk hret (by show Value.int (nar .char z) = _; rw [hz]) (Or.inl ⟨rfl, Or.inr (Or.inr (Or.inr (Or.inl rfl))), _, rfl⟩) hd hc hs hq
theorem Goes.retY {Q : Option Value → Heap → List Loc → Prop} {C N : Nat} (X : Stand p l e R s m args below meth c T locs cells slots) (hx : p.tables.exec = Jvm.exec) (hlk : meth.locks = false) {z : Int32} (hret : meth.sig.returnType = some .byte) {pc : Nat} {Ls : Array Slot} {rest : List Value} (hz : nar .byte z = z) (hd : decode c.code pc = .ok (.ireturn, 1)) (hc : cells ≤ C) (hs : slots ≤ N) (hq : Q (some (.int z)) T.heap locs) :
    Goes p e below (Leaves s Q C N) T (mkF m pc Ls (.int z :: rest)) := Goes.retW X hx hlk hret (by show Value.int (nar .byte z) = _; rw [hz]) (Or.inl ⟨rfl, Or.inr (Or.inr (Or.inl rfl)), _, rfl⟩) hd hc hs hq
theorem Goes.retJ {Q : Option Value → Heap → List Loc → Prop} {C N : Nat} (X : Stand p l e R s m args below meth c T locs cells slots) (hx : p.tables.exec = Jvm.exec) (hlk : meth.locks = false) {z : Int64} (hret : meth.sig.returnType = some .long) {pc : Nat} {Ls : Array Slot} {rest : List Value} (hd : decode c.code pc = .ok (.lreturn, 1)) (hc : cells ≤ C) (hs : slots ≤ N) (hq : Q (some (.long z)) T.heap locs) :
    Goes p e below (Leaves s Q C N) T (mkF m pc Ls (.long z :: rest)) := Goes.retW X hx hlk hret rfl (Or.inr (Or.inl ⟨rfl, rfl, _, rfl⟩)) hd hc hs hq
theorem Goes.retD {Q : Option Value → Heap → List Loc → Prop} {C N : Nat} (X : Stand p l e R s m args below meth c T locs cells slots) (hx : p.tables.exec = Jvm.exec) (hlk : meth.locks = false) {z : UInt64} (hret : meth.sig.returnType = some .double) {pc : Nat} {Ls : Array Slot} {rest : List Value} (hd : decode c.code pc = .ok (.dreturn, 1)) (hc : cells ≤ C) (hs : slots ≤ N) (hq : Q (some (.double z)) T.heap locs) :
    Goes p e below (Leaves s Q C N) T (mkF m pc Ls (.double z :: rest)) := Goes.retW X hx hlk hret rfl (Or.inr (Or.inr (Or.inl ⟨rfl, rfl, _, rfl⟩))) hd hc hs hq
theorem Goes.retA {Q : Option Value → Heap → List Loc → Prop} {C N : Nat} (X : Stand p l e R s m args below meth c T locs cells slots) (hx : p.tables.exec = Jvm.exec) (hlk : meth.locks = false) {w : Value} {t : FieldType} (hret : meth.sig.returnType = some t) (ht : t.isReference = true) (hw : w.isRef = true) {pc : Nat} {Ls : Array Slot} {rest : List Value} (hd : decode c.code pc = .ok (.areturn, 1)) (hc : cells ≤ C) (hs : slots ≤ N) (hq : Q (some w) T.heap locs) :
    Goes p e below (Leaves s Q C N) T (mkF m pc Ls (w :: rest)) := Goes.retW X hx hlk hret (by cases t <;> first | rfl | cases ht) (Or.inr (Or.inr (Or.inr (Or.inr ⟨rfl, ht, hw⟩)))) hd hc hs hq
/-- a body's contract out of its walk -/
theorem Pays.walk {y : MethodName} {bytes : ByteArray} {maxL : Nat} {ret : Option FieldType} {ws : List Jvm.Cond} {rm : Room} {as : Array Value} {h0 : Heap} {Q : Option Value → Heap → List Loc → Prop} {Ls : Array Slot}
    (hn : plainFor y = true) (hef : ∀ m, entryFrame m as maxL = mkF m 0 Ls [])
    (body : ∀ (p : Program) (e : Env) (s : State) (m : MethodId) (below : List Frame) (meth : Method) (c : Code) (T : State), Stand p l e rm s m as below meth c T [] 0 0 → p.tables.exec = Jvm.exec → c.code = bytes → c.maxLocals = maxL → s.vm.findClass y.cls = some m.cls → meth.name = y.name → Z.Warmed39 s.vm → T.heap = h0 → meth.sig.returnType = ret → meth.locks = false →
      Goes p e below (Leaves s Q rm.cells rm.slots) T (mkF m 0 Ls [])) : Pays l Z y bytes maxL ret ws rm as h0 Q := by
  refine MetFree.of_bodySF hn hisR ?_
  intro p e s m args below meth c s₁ Bd hml0 hP hK
  obtain ⟨rfl, hZ, hh⟩ := hP
  have X0 : Stand p l e rm s m args below meth c s₁ [] 0 0 := Stand.of_body Bd
  obtain ⟨s₂, o, h1, h2⟩ := body p e s m below meth c s₁ X0 Bd.exec Bd.bytes hml0 (findClass_of_methodNamed Bd.named) (name_of_methodNamed Bd.named Bd.method).1 hZ (by rw [← hh, Bd.state]; rfl) Bd.returns Bd.notSynchronized
  exact ⟨s₂, o, castTop (hef m) h1, h2⟩
/-- a static call by its contract -/
theorem Goes.callS (X : Stand p l e R s m args below meth c T locs cells slots) (hx : p.tables.exec = Jvm.exec) (hZ : Z.Warmed39 s.vm) {own : String} {index : Nat} {y : MethodName} {bytes : ByteArray} {maxL : Nat} {ret : Option FieldType} {rm : Room} {as' : Array Value} {Q : Option Value → Heap → List Loc → Prop} (W : Nat)
    (hown : s.vm.findClass own = some m.cls) (w1 : (Jvm.Cond.methodLink own index y).before a0 Z = true) (w2 : (Jvm.Cond.static y).before a0 Z = true) (w3 : (Jvm.Cond.initialized y.cls).before a0 Z = true) (w4 : (Jvm.Cond.code y bytes maxL ret).before a0 Z = true) (hy : y.cls ≠ "java/lang/invoke/MethodHandle" ∧ y.cls ≠ "java/lang/invoke/VarHandle")
    (eT : T.heap = h) (hM : Pays l Z y bytes maxL ret [] rm as' h Q) (hf : rm.frames + 1 ≤ R.frames) (hl : W + (maxL + 11) + rm.locals ≤ R.locals) (hc : cells + rm.cells ≤ R.cells) (hs : slots + rm.slots ≤ R.slots)
    (hg : g.method = m) (hsize : g.locals.size = c.maxLocals) {argsL rest : List Value} (has : argsL.toArray = as') (hlen : ∀ sig, parseMethodDescriptor y.desc = some sig → argsL.length = sig.parameters.length) (hstack : g.stack = argsL.reverse ++ rest) (hW : 2 * g.monitorRoom + (rest.map fun v => v.category).sum ≤ W)
    (hd : decode c.code g.pc = .ok (.invokestatic index, 3))
    (k : ∀ v T' L, Stand p l e R s m args below meth c T' (locs ++ L) (cells + rm.cells) (slots + rm.slots) → Q v T'.heap L → Goes p e below P T' { g with pc := g.pc + 3, stack := v.toList ++ rest }) : Goes p e below P T g := by
  obtain ⟨v, _, ⟨T', L', k', n'⟩, -, X', ⟨Lc, hQ, l', y', z'⟩, st⟩ := Jvm.LawKit.callS X hx hown (mvT hZ w1) (mvT hZ w2) (mvT hZ w3) (mvT hZ w4) hy (backOf (W := W) hM hZ w4 w3 hf hl) hg hsize (argsL := argsL) (rest := rest) hlen hstack hW hd (fun _ _ => ⟨has, eT, hc, hs⟩)
  dsimp only [Pt.U, Pt.locs, Pt.cells, Pt.slots] at X' l' y' z' st hQ
  subst l' y' z'
  exact Goes.on st (k v T' Lc X' hQ)
/-- a constructor by its contract -/
theorem Goes.callC (X : Stand p l e R s m args below meth c T locs cells slots) (hx : p.tables.exec = Jvm.exec) (hZ : Z.Warmed39 s.vm) {own : String} {index : Nat} {y : MethodName} {bytes : ByteArray} {maxL : Nat} {rm : Room} {as' : Array Value} {Q : Option Value → Heap → List Loc → Prop} (W : Nat) (hy1 : y.name = "<init>")
    (hown : s.vm.findClass own = some m.cls) (w1 : (Jvm.Cond.methodLink own index y).before a0 Z = true) (w2 : (Jvm.Cond.instanceMethod y).before a0 Z = true) (w3 : (Jvm.Cond.initialized y.cls).before a0 Z = true) (w4 : (Jvm.Cond.code y bytes maxL none).before a0 Z = true) (hy : y.cls ≠ "java/lang/invoke/MethodHandle" ∧ y.cls ≠ "java/lang/invoke/VarHandle")
    (eT : T.heap = h) (hM : Pays l Z y bytes maxL none [] rm as' h Q) (hf : rm.frames + 1 ≤ R.frames) (hl : W + (maxL + 11) + rm.locals ≤ R.locals) (hc : cells + rm.cells ≤ R.cells) (hs : slots + rm.slots ≤ R.slots)
    (hg : g.method = m) (hsize : g.locals.size = c.maxLocals) {a : Addr} {argsL rest : List Value} (has : (Value.ref a :: argsL).toArray = as') (hlen : ∀ sig, parseMethodDescriptor y.desc = some sig → argsL.length = sig.parameters.length) (hstack : g.stack = argsL.reverse ++ .ref a :: rest) (hW : 2 * g.monitorRoom + (rest.map fun v => v.category).sum ≤ W)
    (hd : decode c.code g.pc = .ok (.invokespecial index, 3))
    (k : ∀ v T' L, Stand p l e R s m args below meth c T' (locs ++ L) (cells + rm.cells) (slots + rm.slots) → Q v T'.heap L → Goes p e below P T' { g with pc := g.pc + 3, stack := v.toList ++ rest }) : Goes p e below P T g := by
  obtain ⟨v, _, ⟨T', L', k', n'⟩, -, X', ⟨Lc, hQ, l', y', z'⟩, st⟩ := X.specialBack hx (y := y) hy1 hown (mvT hZ w1) (mvT hZ w2) (mvT hZ w4) hy (backOf (W := W) hM hZ w4 w3 hf hl) hg hsize (Steps.refl _) (a := a) (argsL := argsL) (rest := rest) hlen hstack hW hd (fun _ _ => ⟨has, eT, hc, hs⟩)
  dsimp only [Pt.U, Pt.locs, Pt.cells, Pt.slots] at X' l' y' z' st hQ
  subst l' y' z'
  exact Goes.on (fun _ q => st.trans q) (k v T' Lc X' hQ)
/-- an instance method by its contract, on an object of the class C -/
theorem Goes.callV (X : Stand p l e R s m args below meth c T locs cells slots) (hx : p.tables.exec = Jvm.exec) (hZ : Z.Warmed39 s.vm) {own C : String} {index : Nat} {y z : MethodName} {bytes : ByteArray} {maxL : Nat} {ret : Option FieldType} {rm : Room} {as' : Array Value} {Q : Option Value → Heap → List Loc → Prop} (W : Nat)
    (hown : s.vm.findClass own = some m.cls) (w1 : (Jvm.Cond.methodLink own index y).before a0 Z = true) (w2 : (Jvm.Cond.declares y).before a0 Z = true) (hnf : NotFace s y) (w5 : (Jvm.Cond.selects C y z).before a0 Z = true) (w6 : (Jvm.Cond.instanceMethod z).before a0 Z = true) (w3 : (Jvm.Cond.initialized z.cls).before a0 Z = true) (w4 : (Jvm.Cond.code z bytes maxL ret).before a0 Z = true) (hy : y.cls ≠ "java/lang/invoke/MethodHandle" ∧ y.cls ≠ "java/lang/invoke/VarHandle")
    (eT : T.heap = h) {a : Addr} (E : Exa Z h a C) (hM : Pays l Z z bytes maxL ret [] rm as' h Q) (hf : rm.frames + 1 ≤ R.frames) (hl : W + (maxL + 11) + rm.locals ≤ R.locals) (hc : cells + rm.cells ≤ R.cells) (hs : slots + rm.slots ≤ R.slots)
    (hg : g.method = m) (hsize : g.locals.size = c.maxLocals) {argsL rest : List Value} (has : (Value.ref a :: argsL).toArray = as') (hlen : ∀ sig, parseMethodDescriptor y.desc = some sig → argsL.length = sig.parameters.length) (hstack : g.stack = argsL.reverse ++ .ref a :: rest) (hW : 2 * g.monitorRoom + (rest.map fun v => v.category).sum ≤ W)
    (hd : decode c.code g.pc = .ok (.invokevirtual index, 3))
    (k : ∀ v T' L, Stand p l e R s m args below meth c T' (locs ++ L) (cells + rm.cells) (slots + rm.slots) → Q v T'.heap L → Goes p e below P T' { g with pc := g.pc + 3, stack := v.toList ++ rest }) : Goes p e below P T g := by
  obtain ⟨cq, kq, qa, qb, qc⟩ := isOf hZ eT E
  obtain ⟨v, _, ⟨T', L', k', n'⟩, -, X', ⟨Lc, hQ, l', y', z'⟩, st⟩ := X.virtualBack hx (y := y) (z := z) hown (mvT hZ w1) (mvT hZ w2) hnf (mvT hZ w5) (mvT hZ w6) hy (backOf (W := W) hM hZ w4 w3 hf hl) qa qc hg hsize (Steps.refl _) (argsL := argsL) (rest := rest) hlen hstack hW hd (fun _ _ => ⟨has, eT, hc, hs⟩)
  dsimp only [Pt.U, Pt.locs, Pt.cells, Pt.slots] at X' l' y' z' st hQ
  subst l' y' z'
  exact Goes.on (fun _ q => st.trans q) (k v T' Lc X' hQ)
/-- what a ready payer (Back) asks and gives -/
abbrev Payer (l : Launch) (R : Room) (p : Program) (e : Env) (below : List Frame) (s : State) (args : Array Value) (y : MethodName) (W : Nat) (as' : Array Value) (h : Heap) (C N : Nat) (Q : Option Value → Heap → List Loc → Prop) : Prop :=
  Back l R p e below s args y 3 W (fun A a => a = as' ∧ A.U.heap = h ∧ A.cells + C ≤ R.cells ∧ A.slots + N ≤ R.slots) (fun A _ v B => ∃ L, Q v B.U.heap L ∧ B.locs = A.locs ++ L ∧ B.cells = A.cells + C ∧ B.slots = A.slots + N)
theorem Goes.callVB (X : Stand p l e R s m args below meth c T locs cells slots) (hx : p.tables.exec = Jvm.exec) (hZ : Z.Warmed39 s.vm) {own C : String} {index : Nat} {y z : MethodName} {as' : Array Value} {Q : Option Value → Heap → List Loc → Prop} {W nc ns : Nat}
    (hown : s.vm.findClass own = some m.cls) (w1 : (Jvm.Cond.methodLink own index y).before a0 Z = true) (w2 : (Jvm.Cond.declares y).before a0 Z = true) (hnf : NotFace s y) (w5 : (Jvm.Cond.selects C y z).before a0 Z = true) (w6 : (Jvm.Cond.instanceMethod z).before a0 Z = true) (hy : y.cls ≠ "java/lang/invoke/MethodHandle" ∧ y.cls ≠ "java/lang/invoke/VarHandle")
    (eT : T.heap = h) {a : Addr} (E : Exa Z h a C) (hK : Payer l R p e below s args z W as' h nc ns Q) (hc : cells + nc ≤ R.cells) (hs : slots + ns ≤ R.slots)
    (hg : g.method = m) (hsize : g.locals.size = c.maxLocals) {argsL rest : List Value} (has : (Value.ref a :: argsL).toArray = as') (hlen : ∀ sig, parseMethodDescriptor y.desc = some sig → argsL.length = sig.parameters.length) (hstack : g.stack = argsL.reverse ++ .ref a :: rest) (hW : 2 * g.monitorRoom + (rest.map fun v => v.category).sum ≤ W)
    (hd : decode c.code g.pc = .ok (.invokevirtual index, 3))
    (k : ∀ v T' L, Stand p l e R s m args below meth c T' (locs ++ L) (cells + nc) (slots + ns) → Q v T'.heap L → Goes p e below P T' { g with pc := g.pc + 3, stack := v.toList ++ rest }) : Goes p e below P T g := by
  obtain ⟨cq, kq, qa, qb, qc⟩ := isOf hZ eT E
  obtain ⟨v, _, ⟨T', L', k', n'⟩, -, X', ⟨Lc, hQ, l', y', z'⟩, st⟩ := X.virtualBack hx (y := y) (z := z) hown (mvT hZ w1) (mvT hZ w2) hnf (mvT hZ w5) (mvT hZ w6) hy hK qa qc hg hsize (Steps.refl _) (argsL := argsL) (rest := rest) hlen hstack hW hd (fun _ _ => ⟨has, eT, hc, hs⟩)
  dsimp only [Pt.U, Pt.locs, Pt.cells, Pt.slots] at X' l' y' z' st hQ
  subst l' y' z'
  exact Goes.on (fun _ q => st.trans q) (k v T' Lc X' hQ)
theorem Goes.callCB (X : Stand p l e R s m args below meth c T locs cells slots) (hx : p.tables.exec = Jvm.exec) (hZ : Z.Warmed39 s.vm) {own : String} {index : Nat} {y : MethodName} {bytes : ByteArray} {maxL : Nat} {as' : Array Value} {Q : Option Value → Heap → List Loc → Prop} {W nc ns : Nat} (hy1 : y.name = "<init>")
    (hown : s.vm.findClass own = some m.cls) (w1 : (Jvm.Cond.methodLink own index y).before a0 Z = true) (w2 : (Jvm.Cond.instanceMethod y).before a0 Z = true) (w4 : (Jvm.Cond.code y bytes maxL none).before a0 Z = true) (hy : y.cls ≠ "java/lang/invoke/MethodHandle" ∧ y.cls ≠ "java/lang/invoke/VarHandle")
    (eT : T.heap = h) (hK : Payer l R p e below s args y W as' h nc ns Q) (hc : cells + nc ≤ R.cells) (hs : slots + ns ≤ R.slots)
    (hg : g.method = m) (hsize : g.locals.size = c.maxLocals) {a : Addr} {argsL rest : List Value} (has : (Value.ref a :: argsL).toArray = as') (hlen : ∀ sig, parseMethodDescriptor y.desc = some sig → argsL.length = sig.parameters.length) (hstack : g.stack = argsL.reverse ++ .ref a :: rest) (hW : 2 * g.monitorRoom + (rest.map fun v => v.category).sum ≤ W)
    (hd : decode c.code g.pc = .ok (.invokespecial index, 3))
    (k : ∀ v T' L, Stand p l e R s m args below meth c T' (locs ++ L) (cells + nc) (slots + ns) → Q v T'.heap L → Goes p e below P T' { g with pc := g.pc + 3, stack := v.toList ++ rest }) : Goes p e below P T g := by
  obtain ⟨v, _, ⟨T', L', k', n'⟩, -, X', ⟨Lc, hQ, l', y', z'⟩, st⟩ := X.specialBack hx (y := y) hy1 hown (mvT hZ w1) (mvT hZ w2) (mvT hZ w4) hy hK hg hsize (Steps.refl _) (a := a) (argsL := argsL) (rest := rest) hlen hstack hW hd (fun _ _ => ⟨has, eT, hc, hs⟩)
  dsimp only [Pt.U, Pt.locs, Pt.cells, Pt.slots] at X' l' y' z' st hQ
  subst l' y' z'
  exact Goes.on (fun _ q => st.trans q) (k v T' Lc X' hQ)
/-- a private instance method (invokevirtual) by its contract -/
theorem Goes.callP (X : Stand p l e R s m args below meth c T locs cells slots) (hx : p.tables.exec = Jvm.exec) (hZ : Z.Warmed39 s.vm) {own C : String} {index ni : Nat} {y : MethodName} {bytes : ByteArray} {maxL : Nat} {ret : Option FieldType} {rm : Room} {as' : Array Value} {Q : Option Value → Heap → List Loc → Prop} (W : Nat)
    (hown : s.vm.findClass own = some m.cls) (w1 : (Jvm.Cond.methodLink own index y).before a0 Z = true) (w6 : (Jvm.Cond.instanceMethod y).before a0 Z = true) (wp : (Jvm.Cond.privateMethod y).before a0 Z = true) (wi : (Jvm.Cond.instantiable y.cls ni).before a0 Z = true) (w3 : (Jvm.Cond.initialized y.cls).before a0 Z = true) (w4 : (Jvm.Cond.code y bytes maxL ret).before a0 Z = true) (hy : y.cls ≠ "java/lang/invoke/MethodHandle" ∧ y.cls ≠ "java/lang/invoke/VarHandle")
    (eT : T.heap = h) {a : Addr} (E : Exa Z h a C) (hM : Pays l Z y bytes maxL ret [] rm as' h Q) (hf : rm.frames + 1 ≤ R.frames) (hl : W + (maxL + 11) + rm.locals ≤ R.locals) (hc : cells + rm.cells ≤ R.cells) (hs : slots + rm.slots ≤ R.slots)
    (hg : g.method = m) (hsize : g.locals.size = c.maxLocals) {argsL rest : List Value} (has : (Value.ref a :: argsL).toArray = as') (hlen : ∀ sig, parseMethodDescriptor y.desc = some sig → argsL.length = sig.parameters.length) (hstack : g.stack = argsL.reverse ++ .ref a :: rest) (hW : 2 * g.monitorRoom + (rest.map fun v => v.category).sum ≤ W)
    (hd : decode c.code g.pc = .ok (.invokevirtual index, 3))
    (k : ∀ v T' L, Stand p l e R s m args below meth c T' (locs ++ L) (cells + rm.cells) (slots + rm.slots) → Q v T'.heap L → Goes p e below P T' { g with pc := g.pc + 3, stack := v.toList ++ rest }) : Goes p e below P T g := by
  obtain ⟨ce, hce, hst⟩ := E.cell
  have hp := Cond.privateMethod_at (args := args) (mvP hZ wp)
  obtain ⟨ci, ki, i1, i2, -, i4, -⟩ := Cond.instantiable_spec (mvT (args := args) hZ wi)
  have i5 : ki.isInterface = false := by cases hq : ki.isInterface <;> simp [hq] at i4 ⊢
  have hsel := selects_self_of_private (args := args) i1 i2 i5 hp (mvT hZ w6) hy
  obtain ⟨v, _, ⟨T', L', k', n'⟩, -, X', ⟨Lc, hQ, l', y', z'⟩, st⟩ := X.privateBack hx (y := y) hown (mvT hZ w1) (mvT hZ w6) hsel hp (mvT hZ w4) hy (backOf (W := W) hM hZ w4 w3 hf hl) hg hsize (Steps.refl _) (a := a) (cell := ce) (by rw [eT]; exact hce) hst (argsL := argsL) (rest := rest) hlen hstack hW hd (fun _ _ => ⟨has, eT, hc, hs⟩)
  dsimp only [Pt.U, Pt.locs, Pt.cells, Pt.slots] at X' l' y' z' st hQ
  subst l' y' z'
  exact Goes.on (fun _ q => st.trans q) (k v T' Lc X' hQ)
theorem eqInt {t : Jvm.Term} {i : Int32} (hq : (Jvm.Cond.eq t (.int i)).value args Z none Z [] = some true) : t.eval args Z none [] Z = some (.int i) := by
  obtain ⟨x, y, e1, e2, -, k⟩ := cmp_v (Or.inl hq)
  cases Option.some.inj ((Term.int_eval i).symm.trans e2)
  obtain ⟨z, rfl⟩ := k
  rw [e1]
  simpa [Jvm.Cond.value, e1, e2] using hq
theorem fldInt {t : Jvm.Term} {C n d : String} {i : Int32} {a : Addr} (ht : t.eval args Z none [] Z = some (.ref a)) (hq : (Jvm.Cond.eq (.field t C n d) (.int i)).value args Z none Z [] = some true) : Fld Z Z.heap a C n d (.int i) := by
  refine Fld.start ((fld_at (C := C) (n := n) (dd := d) ht).symm.trans ?_)
  obtain ⟨x, y, e1, e2, -, k⟩ := cmp_v (Or.inl hq)
  cases Option.some.inj ((Term.int_eval i).symm.trans e2)
  obtain ⟨z, rfl⟩ := k
  rw [e1]
  simpa [Jvm.Cond.value, e1, e2] using hq
theorem fldRef {t u : Jvm.Term} {C n d : String} {a b : Addr} (ht : t.eval args Z none [] Z = some (.ref a)) (hu : u.eval args Z none [] Z = some (.ref b)) (hq : (Jvm.Cond.eq (.field t C n d) u).value args Z none Z [] = some true) : Fld Z Z.heap a C n d (.ref b) := by
  refine Fld.start ((fld_at (C := C) (n := n) (dd := d) ht).symm.trans ?_)
  obtain ⟨x, y, e1, e2, k, k'⟩ := cmp_v (Or.inl hq)
  cases Option.some.inj (hu.symm.trans e2)
  have := gotT (eq_R e1 e2 k'.2 rfl) hq
  rw [e1, this]
theorem lremM {g : JFrame} {target : State} (X : Stand p l e R s m args below meth c T locs cells slots) (hx : p.tables.exec = Jvm.exec) (hg : g.method = m) {x y : Int64} {rest : List Value} (hd : decode c.code g.pc = .ok (.lrem, 1)) (hs : g.stack = .long y :: .long x :: rest) (hy : y ≠ 0)
    (hr : Steps p.tables e below (T.setTop { g with pc := g.pc + 1, stack := .long (x % y) :: rest }) target) : Steps p.tables e below (T.setTop g) target :=
  XS.lrem X.here hx hg hd hs hy (by rw [lrem_mod]; exact hr)
theorem nsRoot {O K : String} {n : Nat} (w : (Jvm.Cond.noSuperclass O).before a0 Z = true) (wk : (Jvm.Cond.instantiable K n).before a0 Z = true) (hn : O ≠ K) : NS Z O K := by
  obtain ⟨c, k, h1, h2, h3, -, -⟩ := Cond.noSuperclass_spec w
  obtain ⟨t, kt, g1, -⟩ := Cond.instantiable_spec wk
  have ne := ids_ne h1 g1 hn
  refine ⟨c, t, h1, g1, fun fuel => ?_⟩
  cases fuel with
  | zero => rfl
  | succ f => simp [Vm.isSubclassAux, ne, h2, h3]
theorem nsNo {C S K : String} {n : Nat} (w : (Jvm.Cond.superclass C S).before a0 Z = true) (wk : (Jvm.Cond.instantiable K n).before a0 Z = true) (q : NS Z C K) (hn : C ≠ K) : ∃ c t, Z.vm.findClass C = some c ∧ Z.vm.findClass K = some t ∧ Z.vm.assignable c t = false := by
  obtain ⟨c, t, h0, g0, n3⟩ := q
  obtain ⟨p, k, kp, h1, h2, h3, h4, h5, -, h7⟩ := Cond.superclass_spec h0 w
  obtain ⟨t', k', g1, g2, g5, g6, -⟩ := Cond.instantiable_spec wk
  cases g0.symm.trans g1
  have g7 : k'.isInterface = false := by cases hq : k'.isInterface <;> simp [hq] at g6 ⊢
  have ne := ids_ne h0 g0 hn
  refine ⟨c, t, h0, g0, ?_⟩
  show Z.vm.assignableAux (255 + 1) c t = false
  simp [Vm.assignableAux, ne, h2, g2, h5, g5, g7, Vm.isSubclass, n3]
theorem narB {z : Int32} (h : z = 0 ∨ z = 1) : narrow .boolean (.int z) = .int z := by rcases h with rfl | rfl <;> rfl
theorem narR {t : FieldType} {v : Value} (ht : t.isReference = true) (h : v.isRef = true) : narrow t v = v := by cases t <;> first | rfl | cases ht
theorem fitR {t : FieldType} {v : Value} (ht : t.isReference = true) (h : v.isRef = true) : fits t v = true := by
  rcases ref_cases h with rfl | ⟨a, rfl⟩ <;> cases t <;> first | rfl | cases ht
theorem fitB {z : Int32} (h : z = 0 ∨ z = 1) : fits .boolean (.int z) = true := by rcases h with rfl | rfl <;> rfl
end Steps
/-- an array by what its places hold -/
def Upd {α : Type} (f : Nat → α) (j : Nat) (x : α) : Nat → α := fun i => if i = j then x else f i
def Arf {α : Type} (Z : State) (h : Heap) (a : Addr) (ty : FieldType) (con : α → Value) (n : Nat) (f : Nat → α) : Prop := ∃ c : Cell, Arr Z h a c ty ∧ c.slots.size = n ∧ ∀ i, i < n → c.slots[i]? = some (con (f i))
theorem updS {α : Type} (f : Nat → α) (j : Nat) (x : α) : Upd f j x j = x := if_pos rfl
theorem updN {α : Type} (f : Nat → α) {i j : Nat} (x : α) (h : i ≠ j) : Upd f j x i = f i := if_neg h
section Arrays
variable {p : Program} {l : Launch} {e : Env} {R : Room} {s : State} {m : MethodId} {args : Array Value} {below : List Frame} {meth : Method} {c : Code} {T T' : State} {locs : List Loc} {cells slots : Nat} {Z : State} {a0 : Array Value} {h h' : Heap} {P : Outcome → State → Prop} {g g' : JFrame} {α : Type} {con : α → Value} {a b : Addr} {ty : FieldType} {n : Nat} {f : Nat → α} {j : Int32} {rest : List Value}
theorem Arf.lt (F : Arf Z h a ty con n f) : a < h.size := by obtain ⟨c, A, -⟩ := F; exact A.lt
theorem Arf.ext (F : Arf Z h a ty con n f) (E : Ext h h') : Arf Z h' a ty con n f := by obtain ⟨c, A, r⟩ := F; exact ⟨c, A.ext E, r⟩
theorem Arf.other {sl : Nat} {v : Value} (F : Arf Z h b ty con n f) (W : Wr h h' a sl v) (q : b ≠ a) : Arf Z h' b ty con n f := by obtain ⟨c, A, r⟩ := F; exact ⟨c, A.other W q, r⟩
theorem Arf.keep {ws : List Addr} (F : Arf Z h a ty con n f) (K : Keep h h' ws) (q : a ∉ ws) : Arf Z h' a ty con n f := by obtain ⟨c, A, r⟩ := F; exact ⟨c, ⟨K.2.1 a c A.1 q, A.2⟩, r⟩
theorem Arf.new {cA : ClassId} {z : Int32} {d : α} (A : Arr Z h a (newA cA ty z) ty) (hd : defaultValue ty = con d) : Arf Z h a ty con z.toNatClampNeg (fun _ => d) :=
  ⟨_, A, sz_new _ _ _, fun i hi => by simp [newA, hi, hd]⟩
theorem Arf.set (F : Arf Z h a ty con n f) {k : Nat} {v : Value} {x : α} (W : Wr h h' a k v) (hv : v = con x) : Arf Z h' a ty con n (Upd f k x) := by
  obtain ⟨c, A, S, H⟩ := F
  refine ⟨_, A.same W, (sz_set _ _ _).trans S, fun i hi => ?_⟩
  subst hv
  by_cases q : i = k
  · subst q; simp [Cell.setSlot, Upd, S, hi]
  · have : ((c.setSlot k (con x)).slots)[i]? = c.slots[i]? := Array.getElem?_setIfInBounds_ne (Ne.symm q)
    rw [this, H i hi]; simp [Upd, q]
theorem Arf.inb {c : Cell} (S : c.slots.size = n) (hj : ¬ j < 0 ∧ j.toNatClampNeg < n) : ¬ (j < 0 ∨ c.slots.size ≤ j.toNatClampNeg) := fun q => q.elim hj.1 fun r => by omega
theorem ldJ {f : Nat → Int64} (X : Stand p l e R s m args below meth c T locs cells slots) (hx : p.tables.exec = Jvm.exec) (hZ : Z.Warmed39 s.vm) (eT : T.heap = h) (F : Arf Z h a .long Value.long n f) (hj : ¬ j < 0 ∧ j.toNatClampNeg < n) (hg : g.method = m) (hs : g.stack = .int j :: .ref a :: rest) (hd : decode c.code g.pc = .ok (.laload, 1)) {t : State}
    (k : Steps p.tables e below (T.setTop { g with pc := g.pc + 1, stack := .long (f j.toNatClampNeg) :: rest }) t) : Steps p.tables e below (T.setTop g) t := by
  obtain ⟨cl, A, S, H⟩ := F
  exact X.laload hx (by rw [eT]; exact A.1) (State.isArrayOf_alike hZ.alike A.2.1) A.2.2 (Arf.inb S hj) (H _ hj.2) hg hs hd t k
theorem ldJm {f : Nat → Int64} (X : Stand p l e R s m args below meth c T locs cells slots) (hx : p.tables.exec = Jvm.exec) (hZ : Z.Warmed39 s.vm) (eT : T.heap = h) (F : Arf Z h a .long Value.long n f) (hj : ¬ j < 0 ∧ j.toNatClampNeg < n) {pc : Nat} {Ls : Array Slot} (hd : decode c.code pc = .ok (.laload, 1)) {t : State}
    (k : Steps p.tables e below (T.setTop (mkF m (pc + 1) Ls (.long (f j.toNatClampNeg) :: rest))) t) : Steps p.tables e below (T.setTop (mkF m pc Ls (.int j :: .ref a :: rest))) t :=
  ldJ (g := mkF m pc Ls (.int j :: .ref a :: rest)) X hx hZ eT F hj rfl rfl hd k
theorem ldI {f : Nat → Int32} (X : Stand p l e R s m args below meth c T locs cells slots) (hx : p.tables.exec = Jvm.exec) (hZ : Z.Warmed39 s.vm) (eT : T.heap = h) (F : Arf Z h a .int Value.int n f) (hj : ¬ j < 0 ∧ j.toNatClampNeg < n) (hg : g.method = m) (hs : g.stack = .int j :: .ref a :: rest) (hd : decode c.code g.pc = .ok (.iaload, 1)) {t : State}
    (k : Steps p.tables e below (T.setTop { g with pc := g.pc + 1, stack := .int (f j.toNatClampNeg) :: rest }) t) : Steps p.tables e below (T.setTop g) t := by
  obtain ⟨cl, A, S, H⟩ := F
  exact X.iaload hx (by rw [eT]; exact A.1) (State.isArrayOf_alike hZ.alike A.2.1) A.2.2 (Arf.inb S hj) (H _ hj.2) hg hs hd t k
theorem ldIm {f : Nat → Int32} (X : Stand p l e R s m args below meth c T locs cells slots) (hx : p.tables.exec = Jvm.exec) (hZ : Z.Warmed39 s.vm) (eT : T.heap = h) (F : Arf Z h a .int Value.int n f) (hj : ¬ j < 0 ∧ j.toNatClampNeg < n) {pc : Nat} {Ls : Array Slot} (hd : decode c.code pc = .ok (.iaload, 1)) {t : State}
    (k : Steps p.tables e below (T.setTop (mkF m (pc + 1) Ls (.int (f j.toNatClampNeg) :: rest))) t) : Steps p.tables e below (T.setTop (mkF m pc Ls (.int j :: .ref a :: rest))) t :=
  ldI (g := mkF m pc Ls (.int j :: .ref a :: rest)) X hx hZ eT F hj rfl rfl hd k
theorem ldZ {f : Nat → Int32} (X : Stand p l e R s m args below meth c T locs cells slots) (hx : p.tables.exec = Jvm.exec) (hZ : Z.Warmed39 s.vm) (eT : T.heap = h) (F : Arf Z h a .boolean Value.int n f) (hj : ¬ j < 0 ∧ j.toNatClampNeg < n) (hg : g.method = m) (hs : g.stack = .int j :: .ref a :: rest) (hd : decode c.code g.pc = .ok (.baload, 1)) {t : State}
    (k : Steps p.tables e below (T.setTop { g with pc := g.pc + 1, stack := .int (f j.toNatClampNeg) :: rest }) t) : Steps p.tables e below (T.setTop g) t := by
  obtain ⟨cl, A, S, H⟩ := F
  exact X.baloadBooleans hx (by rw [eT]; exact A.1) (State.isArrayOf_alike hZ.alike A.2.1) A.2.2 (Arf.inb S hj) (H _ hj.2) hg hs hd t k
theorem ldZm {f : Nat → Int32} (X : Stand p l e R s m args below meth c T locs cells slots) (hx : p.tables.exec = Jvm.exec) (hZ : Z.Warmed39 s.vm) (eT : T.heap = h) (F : Arf Z h a .boolean Value.int n f) (hj : ¬ j < 0 ∧ j.toNatClampNeg < n) {pc : Nat} {Ls : Array Slot} (hd : decode c.code pc = .ok (.baload, 1)) {t : State}
    (k : Steps p.tables e below (T.setTop (mkF m (pc + 1) Ls (.int (f j.toNatClampNeg) :: rest))) t) : Steps p.tables e below (T.setTop (mkF m pc Ls (.int j :: .ref a :: rest))) t :=
  ldZ (g := mkF m pc Ls (.int j :: .ref a :: rest)) X hx hZ eT F hj rfl rfl hd k
theorem ldY {f : Nat → Int32} (X : Stand p l e R s m args below meth c T locs cells slots) (hx : p.tables.exec = Jvm.exec) (hZ : Z.Warmed39 s.vm) (eT : T.heap = h) (F : Arf Z h a .byte Value.int n f) (hj : ¬ j < 0 ∧ j.toNatClampNeg < n) (hg : g.method = m) (hs : g.stack = .int j :: .ref a :: rest) (hd : decode c.code g.pc = .ok (.baload, 1)) {t : State}
    (k : Steps p.tables e below (T.setTop { g with pc := g.pc + 1, stack := .int (f j.toNatClampNeg) :: rest }) t) : Steps p.tables e below (T.setTop g) t := by
  obtain ⟨cl, A, S, H⟩ := F
  exact X.baloadBytes hx (by rw [eT]; exact A.1) (State.isArrayOf_alike hZ.alike A.2.1) A.2.2 (Arf.inb S hj) (H _ hj.2) hg hs hd t k
theorem ldYm {f : Nat → Int32} (X : Stand p l e R s m args below meth c T locs cells slots) (hx : p.tables.exec = Jvm.exec) (hZ : Z.Warmed39 s.vm) (eT : T.heap = h) (F : Arf Z h a .byte Value.int n f) (hj : ¬ j < 0 ∧ j.toNatClampNeg < n) {pc : Nat} {Ls : Array Slot} (hd : decode c.code pc = .ok (.baload, 1)) {t : State}
    (k : Steps p.tables e below (T.setTop (mkF m (pc + 1) Ls (.int (f j.toNatClampNeg) :: rest))) t) : Steps p.tables e below (T.setTop (mkF m pc Ls (.int j :: .ref a :: rest))) t :=
  ldY (g := mkF m pc Ls (.int j :: .ref a :: rest)) X hx hZ eT F hj rfl rfl hd k
theorem ldD {f : Nat → UInt64} (X : Stand p l e R s m args below meth c T locs cells slots) (hx : p.tables.exec = Jvm.exec) (hZ : Z.Warmed39 s.vm) (eT : T.heap = h) (F : Arf Z h a .double Value.double n f) (hj : ¬ j < 0 ∧ j.toNatClampNeg < n) (hg : g.method = m) (hs : g.stack = .int j :: .ref a :: rest) (hd : decode c.code g.pc = .ok (.daload, 1)) {t : State}
    (k : Steps p.tables e below (T.setTop { g with pc := g.pc + 1, stack := .double (f j.toNatClampNeg) :: rest }) t) : Steps p.tables e below (T.setTop g) t := by
  obtain ⟨cl, A, S, H⟩ := F
  exact X.daload hx (by rw [eT]; exact A.1) (State.isArrayOf_alike hZ.alike A.2.1) A.2.2 (Arf.inb S hj) (H _ hj.2) hg hs hd t k
theorem ldDm {f : Nat → UInt64} (X : Stand p l e R s m args below meth c T locs cells slots) (hx : p.tables.exec = Jvm.exec) (hZ : Z.Warmed39 s.vm) (eT : T.heap = h) (F : Arf Z h a .double Value.double n f) (hj : ¬ j < 0 ∧ j.toNatClampNeg < n) {pc : Nat} {Ls : Array Slot} (hd : decode c.code pc = .ok (.daload, 1)) {t : State}
    (k : Steps p.tables e below (T.setTop (mkF m (pc + 1) Ls (.double (f j.toNatClampNeg) :: rest))) t) : Steps p.tables e below (T.setTop (mkF m pc Ls (.int j :: .ref a :: rest))) t :=
  ldD (g := mkF m pc Ls (.int j :: .ref a :: rest)) X hx hZ eT F hj rfl rfl hd k
theorem aLen (X : Stand p l e R s m args below meth c T locs cells slots) (hx : p.tables.exec = Jvm.exec) (hZ : Z.Warmed39 s.vm) (eT : T.heap = h) (F : Arf Z h a ty con n f) (hg : g.method = m) (hs : g.stack = .ref a :: rest) (hd : decode c.code g.pc = .ok (.arraylength, 1)) {t : State}
    (k : Steps p.tables e below (T.setTop { g with pc := g.pc + 1, stack := .int n.toInt32 :: rest }) t) : Steps p.tables e below (T.setTop g) t := by
  obtain ⟨cl, A, S, H⟩ := F
  exact X.arraylength hx (by rw [eT]; exact A.1) (State.isArrayOf_alike hZ.alike A.2.1) hg hs hd t (by rw [S]; exact k)
theorem aLenm (X : Stand p l e R s m args below meth c T locs cells slots) (hx : p.tables.exec = Jvm.exec) (hZ : Z.Warmed39 s.vm) (eT : T.heap = h) (F : Arf Z h a ty con n f) {pc : Nat} {Ls : Array Slot} (hd : decode c.code pc = .ok (.arraylength, 1)) {t : State}
    (k : Steps p.tables e below (T.setTop (mkF m (pc + 1) Ls (.int n.toInt32 :: rest))) t) : Steps p.tables e below (T.setTop (mkF m pc Ls (.ref a :: rest))) t :=
  aLen (g := mkF m pc Ls (.ref a :: rest)) X hx hZ eT F rfl rfl hd k
theorem wrJ {f : Nat → Int64} {x : Int64} (X : Stand p l e R s m args below meth c T locs cells slots) (hx : p.tables.exec = Jvm.exec) (hZ : Z.Warmed39 s.vm) (eT : T.heap = h) (F : Arf Z h a .long Value.long n f) (hj : ¬ j < 0 ∧ j.toNatClampNeg < n) (hg : g.method = m) (hs : g.stack = .long x :: .int j :: .ref a :: rest) (hd : decode c.code g.pc = .ok (.lastore, 1)) :
    ∃ T' h', Stand p l e R s m args below meth c T' (locs ++ [⟨a, j.toNatClampNeg⟩]) cells slots ∧ T'.heap = h' ∧ Wr h h' a j.toNatClampNeg (.long x) ∧ Arf Z h' a .long Value.long n (Upd f j.toNatClampNeg x) ∧ ∀ target, Steps p.tables e below (T'.setTop { g with pc := g.pc + 1, stack := rest }) target → Steps p.tables e below (T.setTop g) target := by
  have F' := F
  obtain ⟨cl, A, S, H⟩ := F
  obtain ⟨T', h', X', e', W, st⟩ := stJ X hx hZ eT A (Arf.inb S hj) hg hs hd
  exact ⟨T', h', X', e', W, F'.set W rfl, st⟩
theorem wrI {f : Nat → Int32} {x : Int32} (X : Stand p l e R s m args below meth c T locs cells slots) (hx : p.tables.exec = Jvm.exec) (hZ : Z.Warmed39 s.vm) (eT : T.heap = h) (F : Arf Z h a .int Value.int n f) (hj : ¬ j < 0 ∧ j.toNatClampNeg < n) (hg : g.method = m) (hs : g.stack = .int x :: .int j :: .ref a :: rest) (hd : decode c.code g.pc = .ok (.iastore, 1)) :
    ∃ T' h', Stand p l e R s m args below meth c T' (locs ++ [⟨a, j.toNatClampNeg⟩]) cells slots ∧ T'.heap = h' ∧ Wr h h' a j.toNatClampNeg (.int x) ∧ Arf Z h' a .int Value.int n (Upd f j.toNatClampNeg x) ∧ ∀ target, Steps p.tables e below (T'.setTop { g with pc := g.pc + 1, stack := rest }) target → Steps p.tables e below (T.setTop g) target := by
  have F' := F
  obtain ⟨cl, A, S, H⟩ := F
  obtain ⟨T', h', X', e', W, st⟩ := stI X hx hZ eT A (Arf.inb S hj) hg hs hd
  exact ⟨T', h', X', e', W, F'.set W rfl, st⟩
theorem wrD {f : Nat → UInt64} {x : UInt64} (X : Stand p l e R s m args below meth c T locs cells slots) (hx : p.tables.exec = Jvm.exec) (hZ : Z.Warmed39 s.vm) (eT : T.heap = h) (F : Arf Z h a .double Value.double n f) (hj : ¬ j < 0 ∧ j.toNatClampNeg < n) (hg : g.method = m) (hs : g.stack = .double x :: .int j :: .ref a :: rest) (hd : decode c.code g.pc = .ok (.dastore, 1)) :
    ∃ T' h', Stand p l e R s m args below meth c T' (locs ++ [⟨a, j.toNatClampNeg⟩]) cells slots ∧ T'.heap = h' ∧ Wr h h' a j.toNatClampNeg (.double x) ∧ Arf Z h' a .double Value.double n (Upd f j.toNatClampNeg x) ∧ ∀ target, Steps p.tables e below (T'.setTop { g with pc := g.pc + 1, stack := rest }) target → Steps p.tables e below (T.setTop g) target := by
  have F' := F
  obtain ⟨cl, A, S, H⟩ := F
  obtain ⟨T', h', X', e', W, st⟩ := stD X hx hZ eT A (Arf.inb S hj) hg hs hd
  exact ⟨T', h', X', e', W, F'.set W rfl, st⟩
theorem wrZ {f : Nat → Int32} {x : Int32} (X : Stand p l e R s m args below meth c T locs cells slots) (hx : p.tables.exec = Jvm.exec) (hZ : Z.Warmed39 s.vm) (eT : T.heap = h) (F : Arf Z h a .boolean Value.int n f) (hj : ¬ j < 0 ∧ j.toNatClampNeg < n) (hb : x = 0 ∨ x = 1) (hg : g.method = m) (hs : g.stack = .int x :: .int j :: .ref a :: rest) (hd : decode c.code g.pc = .ok (.bastore, 1)) :
    ∃ T' h', Stand p l e R s m args below meth c T' (locs ++ [⟨a, j.toNatClampNeg⟩]) cells slots ∧ T'.heap = h' ∧ Wr h h' a j.toNatClampNeg (.int x) ∧ Arf Z h' a .boolean Value.int n (Upd f j.toNatClampNeg x) ∧ ∀ target, Steps p.tables e below (T'.setTop { g with pc := g.pc + 1, stack := rest }) target → Steps p.tables e below (T.setTop g) target := by
  have F' := F
  obtain ⟨cl, A, S, H⟩ := F
  obtain ⟨T', h', X', e', W, st⟩ := stZ X hx hZ eT A (Arf.inb S hj) hg hs hd
  have q : nar .boolean x = x := by rcases hb with rfl | rfl <;> rfl
  rw [q] at W
  exact ⟨T', h', X', e', W, F'.set W rfl, st⟩
theorem nat32 {n : Nat} (hn : n < 2 ^ 31) : n.toInt32.toNatClampNeg = n := by
  have q : n.toInt32.toInt = n := len_toInt hn
  simp only [Int32.toNatClampNeg, q]; omega
theorem pos32 {n : Nat} (hn : n < 2 ^ 31) : ¬ n.toInt32 < 0 := by
  have q : n.toInt32.toInt = n := len_toInt hn
  rw [Int32.lt_iff_toInt_lt, q]; have k : (0 : Int32).toInt = 0 := rfl
  omega
theorem Arf.arv (F : Arf Z h a ty con n f) (hn : n < 2 ^ 31) (hf : ∀ x, fits ty (con x) = true) (d : Value) : ∃ k, Arv Z h a k ty n.toInt32 ((List.range n).map fun i => con (f i)) d := by
  obtain ⟨cl, A, S, H⟩ := F
  refine ⟨cl.cls, cl, A, rfl, by rw [nat32 hn, S], pos32 hn, fun i hi => ?_, fun i hi => ?_⟩
  · rw [S] at hi; rw [H i hi]; simp [List.getD, hi]
  · rw [S] at hi; simp [List.getD, hi, hf]
theorem Arf.arv' (F : Arf Z h a ty con n f) (hn : n < 2 ^ 31) (hf : ∀ i, i < n → fits ty (con (f i)) = true) (d : Value) : ∃ k, Arv Z h a k ty n.toInt32 ((List.range n).map fun i => con (f i)) d := by
  obtain ⟨cl, A, S, H⟩ := F
  refine ⟨cl.cls, cl, A, rfl, by rw [nat32 hn, S], pos32 hn, fun i hi => ?_, fun i hi => ?_⟩
  · rw [S] at hi; rw [H i hi]; simp [List.getD, hi]
  · rw [S] at hi; simp [List.getD, hi, hf i hi]
theorem wrC {f : Nat → Int32} {x : Int32} (X : Stand p l e R s m args below meth c T locs cells slots) (hx : p.tables.exec = Jvm.exec) (hZ : Z.Warmed39 s.vm) (eT : T.heap = h) (F : Arf Z h a .char Value.int n f) (hj : ¬ j < 0 ∧ j.toNatClampNeg < n) (hb : nar .char x = x) (hg : g.method = m) (hs : g.stack = .int x :: .int j :: .ref a :: rest) (hd : decode c.code g.pc = .ok (.castore, 1)) :
    ∃ T' h', Stand p l e R s m args below meth c T' (locs ++ [⟨a, j.toNatClampNeg⟩]) cells slots ∧ T'.heap = h' ∧ Wr h h' a j.toNatClampNeg (.int x) ∧ Arf Z h' a .char Value.int n (Upd f j.toNatClampNeg x) ∧ ∀ target, Steps p.tables e below (T'.setTop { g with pc := g.pc + 1, stack := rest }) target → Steps p.tables e below (T.setTop g) target := by
  have F' := F
  obtain ⟨cl, A, S, H⟩ := F
  obtain ⟨T', h', X', e', W, st⟩ := stC X hx hZ eT A (Arf.inb S hj) hg hs hd
  rw [hb] at W
  exact ⟨T', h', X', e', W, F'.set W rfl, st⟩
theorem narC (y : Int32) : nar .char (y.toUInt32.toUInt16.toUInt32.toInt32) = y.toUInt32.toUInt16.toUInt32.toInt32 := by
  simp only [nar, UInt32.toUInt32_toInt32, UInt16.toUInt16_toUInt32]
theorem Arv.arf {k : ClassId} {z : Int32} {vs : List Value} {d : Value} (V : Arv Z h a k ty z vs d) (hz : z.toNatClampNeg = n) (hv : ∀ i, i < n → vs.getD i d = con (f i)) : Arf Z h a ty con n f := by
  obtain ⟨cl, A, -, S, -, H, -⟩ := V
  exact ⟨cl, A, S.trans hz, fun i hi => by rw [H i (by omega), hv i hi]⟩
/-- System.arraycopy(src, 0, dst, 0, len) -/
theorem acF (X : Stand p l e R s m args below meth c T locs cells slots) (hx : p.tables.exec = Jvm.exec) (hZ : Z.Warmed39 s.vm) {own : String} {index : Nat} (hown : s.vm.findClass own = some m.cls)
    (w1 : (Jvm.Cond.methodLink own index Jvm.Stand.acN).before a0 Z = true) (w2 : (Jvm.Cond.native Jvm.Stand.acN).before a0 Z = true) (w3 : (Jvm.Cond.static Jvm.Stand.acN).before a0 Z = true) (w4 : (Jvm.Cond.initialized "java/lang/System").before a0 Z = true) (eT : T.heap = h)
    {n' : Nat} {f' : Nat → α} {nn : Int32} {len : Nat} (A : Arf Z h a ty con n f) (B : Arf Z h b ty con n' f') (hty : refKind ty = false) (hf : ∀ x, fits ty (con x) = true) (hn : n < 2 ^ 31) (hn' : n' < 2 ^ 31) (h3 : ¬ nn < 0) (hl : nn.toNatClampNeg = len) (h4 : len ≤ n) (h5 : len ≤ n') {n0 : Nat} (N : Fr n0 locs) (ge : n0 ≤ b)
    (hg : g.method = m) (hsize : g.locals.size = c.maxLocals) (hs : g.stack = .int nn :: .int 0 :: .ref b :: .int 0 :: .ref a :: rest) (hd : decode c.code g.pc = .ok (.invokestatic index, 3))
    (hfr : 1 ≤ R.frames) {W : Nat} (hW : 2 * g.monitorRoom + (rest.map fun v => v.category).sum ≤ W) (hlo : W + (nativeFrameWords "java/lang/System" "arraycopy" 5 + 11) ≤ R.locals) :
    ∃ T' h' L, Stand p l e R s m args below meth c T' L cells slots ∧ T'.heap = h' ∧ Fr n0 L ∧ Keep h h' [b] ∧ Arf Z h' b ty con n' (fun i => if i < len then f i else f' i) ∧
      ∀ target, Steps p.tables e below (T'.setTop { g with pc := g.pc + 3, stack := rest }) target → Steps p.tables e below (T.setTop g) target := by
  obtain ⟨k, VA⟩ := A.arv hn hf .null
  obtain ⟨k', VB⟩ := B.arv hn' hf .null
  have z0 : (0 : Int32).toNatClampNeg = 0 := rfl
  obtain ⟨T', h', L, X', e', F', K', V', st⟩ := cpA X hx hZ hown w1 w2 w3 w4 eT VA VB (us := (List.range nn.toNatClampNeg).map fun i => ((List.range n).map fun i => con (f i)).getD ((0 : Int32).toNatClampNeg + i) .null) (Or.inl ⟨rfl, hty⟩) (sp := 0) (dp := 0) (nn := nn) (by decide) (by decide) h3 (by rw [z0, hl, nat32 hn]; omega) (by rw [z0, hl, nat32 hn']; omega) rfl (by rw [z0, hl]; simp; omega) N ge hg hsize hs hd hfr hW hlo
  refine ⟨T', h', L, X', e', F', K', Arv.arf V' (nat32 hn') fun i hi => ?_, st⟩
  rw [z0, hl]
  by_cases q : i < len
  · have q2 : i < n := by omega
    simp [List.getD, List.getElem?_append, q, q2]
  · have q3 : len + (i - len) = i := by omega
    have q4 : i < n' := hi
    simp [List.getD, List.getElem?_append, q, q3, q4]
/-- an array of arrays, with the class that it takes -/
def Blk (Z : State) (h : Heap) (b : Addr) (ty : FieldType) (C : String) (n : Nat) (f : Nat → Value) : Prop := ∃ c : Cell, Arr Z h b c (.array ty) ∧ OvrA Z c.cls ty C ∧ c.slots.size = n ∧ ∀ i, i < n → c.slots[i]? = some (f i)
section Blks
variable {C : String} {f : Nat → Value}
theorem Blk.lt (F : Blk Z h a ty C n f) : a < h.size := by obtain ⟨c, A, -⟩ := F; exact A.lt
theorem Blk.ext (F : Blk Z h a ty C n f) (E : Ext h h') : Blk Z h' a ty C n f := by obtain ⟨c, A, r⟩ := F; exact ⟨c, A.ext E, r⟩
theorem Blk.other {sl : Nat} {v : Value} (F : Blk Z h b ty C n f) (W : Wr h h' a sl v) (q : b ≠ a) : Blk Z h' b ty C n f := by obtain ⟨c, A, r⟩ := F; exact ⟨c, A.other W q, r⟩
theorem Blk.keep {ws : List Addr} (F : Blk Z h a ty C n f) (K : Keep h h' ws) (q : a ∉ ws) : Blk Z h' a ty C n f := by obtain ⟨c, A, r⟩ := F; exact ⟨c, ⟨K.2.1 a c A.1 q, A.2⟩, r⟩
theorem Blk.new {cA : ClassId} {z : Int32} (A : Arr Z h a (newA cA (.array ty) z) (.array ty)) (O : OvrA Z cA ty C) : Blk Z h a ty C z.toNatClampNeg (fun _ => .null) :=
  ⟨_, A, O, sz_new _ _ _, fun i hi => by simp [newA, hi, defaultValue]⟩
theorem ldB (X : Stand p l e R s m args below meth c T locs cells slots) (hx : p.tables.exec = Jvm.exec) (hZ : Z.Warmed39 s.vm) (eT : T.heap = h) (F : Blk Z h a ty C n f) (hj : ¬ j < 0 ∧ j.toNatClampNeg < n) (hg : g.method = m) (hs : g.stack = .int j :: .ref a :: rest) (hd : decode c.code g.pc = .ok (.aaload, 1)) {t : State}
    (k : Steps p.tables e below (T.setTop { g with pc := g.pc + 1, stack := f j.toNatClampNeg :: rest }) t) : Steps p.tables e below (T.setTop g) t := by
  obtain ⟨cl, A, O, S, H⟩ := F
  exact X.aaload hx (by rw [eT]; exact A.1) (State.isArrayOf_alike hZ.alike A.2.1) rfl A.2.2 (Arf.inb S hj) (H _ hj.2) hg hs hd t k
theorem ldBm (X : Stand p l e R s m args below meth c T locs cells slots) (hx : p.tables.exec = Jvm.exec) (hZ : Z.Warmed39 s.vm) (eT : T.heap = h) (F : Blk Z h a ty C n f) (hj : ¬ j < 0 ∧ j.toNatClampNeg < n) {pc : Nat} {Ls : Array Slot} (hd : decode c.code pc = .ok (.aaload, 1)) {t : State}
    (k : Steps p.tables e below (T.setTop (mkF m (pc + 1) Ls (f j.toNatClampNeg :: rest))) t) : Steps p.tables e below (T.setTop (mkF m pc Ls (.int j :: .ref a :: rest))) t :=
  ldB (g := mkF m pc Ls (.int j :: .ref a :: rest)) X hx hZ eT F hj rfl rfl hd k
theorem lenB (X : Stand p l e R s m args below meth c T locs cells slots) (hx : p.tables.exec = Jvm.exec) (hZ : Z.Warmed39 s.vm) (eT : T.heap = h) (F : Blk Z h a ty C n f) (hg : g.method = m) (hs : g.stack = .ref a :: rest) (hd : decode c.code g.pc = .ok (.arraylength, 1)) {t : State}
    (k : Steps p.tables e below (T.setTop { g with pc := g.pc + 1, stack := .int n.toInt32 :: rest }) t) : Steps p.tables e below (T.setTop g) t := by
  obtain ⟨cl, A, O, S, H⟩ := F
  exact X.arraylength hx (by rw [eT]; exact A.1) (State.isArrayOf_alike hZ.alike A.2.1) hg hs hd t (by rw [S]; exact k)
theorem lenBm (X : Stand p l e R s m args below meth c T locs cells slots) (hx : p.tables.exec = Jvm.exec) (hZ : Z.Warmed39 s.vm) (eT : T.heap = h) (F : Blk Z h a ty C n f) {pc : Nat} {Ls : Array Slot} (hd : decode c.code pc = .ok (.arraylength, 1)) {t : State}
    (k : Steps p.tables e below (T.setTop (mkF m (pc + 1) Ls (.int n.toInt32 :: rest))) t) : Steps p.tables e below (T.setTop (mkF m pc Ls (.ref a :: rest))) t :=
  lenB (g := mkF m pc Ls (.ref a :: rest)) X hx hZ eT F rfl rfl hd k
theorem wrB {y : Addr} (X : Stand p l e R s m args below meth c T locs cells slots) (hx : p.tables.exec = Jvm.exec) (hZ : Z.Warmed39 s.vm) (eT : T.heap = h) (F : Blk Z h a ty C n f) (I : Ins Z h y C true) (hj : ¬ j < 0 ∧ j.toNatClampNeg < n) (hg : g.method = m) (hs : g.stack = .ref y :: .int j :: .ref a :: rest) (hd : decode c.code g.pc = .ok (.aastore, 1)) :
    ∃ T' h', Stand p l e R s m args below meth c T' (locs ++ [⟨a, j.toNatClampNeg⟩]) cells slots ∧ T'.heap = h' ∧ Wr h h' a j.toNatClampNeg (.ref y) ∧ Blk Z h' a ty C n (Upd f j.toNatClampNeg (.ref y)) ∧ ∀ target, Steps p.tables e below (T'.setTop { g with pc := g.pc + 1, stack := rest }) target → Steps p.tables e below (T.setTop g) target := by
  obtain ⟨cl, A, O, S, H⟩ := F
  obtain ⟨T', h', X', e', W, st⟩ := stR X hx hZ eT A (Arf.inb S hj) rfl (Sto.ofVA A rfl O I) hg hs hd
  refine ⟨T', h', X', e', W, ⟨_, A.same W, O, (sz_set _ _ _).trans S, fun i hi => ?_⟩, st⟩
  by_cases q : i = j.toNatClampNeg
  · subst q; simp [Cell.setSlot, Upd, S, hi]
  · have : ((cl.setSlot j.toNatClampNeg (.ref y)).slots)[i]? = cl.slots[i]? := Array.getElem?_setIfInBounds_ne (Ne.symm q)
    rw [this, H i hi]; simp [Upd, q]
theorem Blk.one {v : Value} (F : Blk Z h b ty C 1 f) (hv : f 0 = v) : Blk Z h b ty C 1 (fun _ => v) := by
  obtain ⟨c, A, O, S, H⟩ := F
  refine ⟨c, A, O, S, fun i hi => ?_⟩
  obtain rfl : i = 0 := by omega
  rw [H 0 hi, hv]
end Blks
end Arrays
end Jvm.Own
namespace Jvm.Pilot.@@N@@
open Jvm Jvm.ClassFile Sem Op Lib Jvm.Free Jvm.Stand Jvm.LawKit Jvm.RoadKit Bundle Jvm.Own Jvm.Pilot.@@N@@.Jvm.D
theorem own_w {Z : State} {a0 : Array Value} (hw : ∀ d ∈ tables_1, d.before a0 Z = true) (i : Nat) {d : Jvm.Cond} (h : tables_1[i]? = some d) : d.before a0 Z = true := hw d (List.mem_of_getElem? h)
theorem d3_0 : decode jdk_29_method_69_code 0 = .ok (.iload_n 0, 1) := by decide +kernel
theorem d3_1 : decode jdk_29_method_69_code 1 = .ok (.iload_n 1, 1) := by decide +kernel
theorem d3_2 : decode jdk_29_method_69_code 2 = .ok (.if_icmp .gt 7, 3) := by decide +kernel
theorem d3_9 : decode jdk_29_method_69_code 9 = .ok (.iload_n 1, 1) := by decide +kernel
theorem d3_10 : decode jdk_29_method_69_code 10 = .ok (.ireturn, 1) := by decide +kernel
theorem d3_5 : decode jdk_29_method_69_code 5 = .ok (.iload_n 0, 1) := by decide +kernel
theorem d3_6 : decode jdk_29_method_69_code 6 = .ok (.goto 4, 3) := by decide +kernel
theorem ef_0 (m : MethodId) (x0 : Int32) (x1 : Int32) : entryFrame m #[(.int x0), (.int x1)] 2 = mkF m 0 #[.val (.int x0), .val (.int x1)] [] := by first | (simp [entryFrame, mkF, argsToLocals, Value.category]; done) | rfl
def FMn (x0 : Int32) (x1 : Int32) : Int32 := (if x1 < x0 then x1 else x0)
set_option maxRecDepth 65536 in
set_option maxHeartbeats 40000000 in
theorem rmMn (l : Launch) (Z : State) (a0 : Array Value) (hw : ∀ d ∈ tables_1, d.before a0 Z = true) (x0 : Int32) (x1 : Int32) (h0 : Heap) (n0 : Nat) (Z0 : n0 ≤ h0.size) :
    Pays l Z (⟨"java/lang/Math", "min", "(II)I"⟩ : MethodName) jdk_29_method_69_code 2 (some .int) [] ({ frames := 0, cells := 0, slots := 0, locals := 0 } : Room) #[(.int x0), (.int x1)] h0 (fun v h L => v = some (.int (FMn x0 x1)) ∧ Fr n0 L ∧ h = h0) := by
  refine Pays.walk (by decide +kernel) (fun m => ef_0 m x0 x1 ) ?_
  intro p e s m below meth c T0 X0 hx hby hml hown hnm hZ e0 hret hlk
  have N0 := Fr.nil n0
  refine Goes.on (T' := T0) (g' := (mkF m 2 #[.val (.int x0), .val (.int x1)] [(.int x1), (.int x0)])) (fun _ k => XS.iloadN X0.here hx rfl (hb hby d3_0) rfl (XS.iloadN X0.here hx rfl (hb hby d3_1) rfl k)) ?_
  by_cases hc1 : x1 < x0
  · refine Goes.on (T' := T0) (g' := (mkF m 10 #[.val (.int x0), .val (.int x1)] [(.int x1)])) (fun _ k => XS.icmpYes X0.here hx rfl (pc0 := 2) (pc' := 9) rfl (hb hby d3_2) rfl (XT.ii_gt_t hc1) (by decide) (by decide) (XS.iloadN X0.here hx rfl (hb hby d3_9) rfl k)) ?_
    exact Goes.retI X0 hx hlk hret (hb hby d3_10) (by decide) (by decide) ⟨(by unfold FMn; rw [if_pos hc1]), N0, e0⟩
  · refine Goes.on (T' := T0) (g' := (mkF m 10 #[.val (.int x0), .val (.int x1)] [(.int x0)])) (fun _ k => XS.icmpNo X0.here hx rfl (hb hby d3_2) rfl (XT.ii_gt_f hc1) (XS.iloadN X0.here hx rfl (hb hby d3_5) rfl (XS.goto X0.here hx rfl (pc0 := 6) (pc' := 10) rfl (hb hby d3_6) (by decide) (by decide) k))) ?_
    exact Goes.retI X0 hx hlk hret (hb hby d3_10) (by decide) (by decide) ⟨(by unfold FMn; rw [if_neg hc1]), N0, e0⟩
theorem d4_0 : decode jdk_29_method_65_code 0 = .ok (.iload_n 0, 1) := by decide +kernel
theorem d4_1 : decode jdk_29_method_65_code 1 = .ok (.iload_n 1, 1) := by decide +kernel
theorem d4_2 : decode jdk_29_method_65_code 2 = .ok (.if_icmp .lt 7, 3) := by decide +kernel
theorem d4_9 : decode jdk_29_method_65_code 9 = .ok (.iload_n 1, 1) := by decide +kernel
theorem d4_10 : decode jdk_29_method_65_code 10 = .ok (.ireturn, 1) := by decide +kernel
theorem d4_5 : decode jdk_29_method_65_code 5 = .ok (.iload_n 0, 1) := by decide +kernel
theorem d4_6 : decode jdk_29_method_65_code 6 = .ok (.goto 4, 3) := by decide +kernel
def FMx (x0 : Int32) (x1 : Int32) : Int32 := (if x0 < x1 then x1 else x0)
set_option maxRecDepth 65536 in
set_option maxHeartbeats 40000000 in
theorem rmMx (l : Launch) (Z : State) (a0 : Array Value) (hw : ∀ d ∈ tables_1, d.before a0 Z = true) (x0 : Int32) (x1 : Int32) (h0 : Heap) (n0 : Nat) (Z0 : n0 ≤ h0.size) :
    Pays l Z (⟨"java/lang/Math", "max", "(II)I"⟩ : MethodName) jdk_29_method_65_code 2 (some .int) [] ({ frames := 0, cells := 0, slots := 0, locals := 0 } : Room) #[(.int x0), (.int x1)] h0 (fun v h L => v = some (.int (FMx x0 x1)) ∧ Fr n0 L ∧ h = h0) := by
  refine Pays.walk (by decide +kernel) (fun m => ef_0 m x0 x1 ) ?_
  intro p e s m below meth c T0 X0 hx hby hml hown hnm hZ e0 hret hlk
  have N0 := Fr.nil n0
  refine Goes.on (T' := T0) (g' := (mkF m 2 #[.val (.int x0), .val (.int x1)] [(.int x1), (.int x0)])) (fun _ k => XS.iloadN X0.here hx rfl (hb hby d4_0) rfl (XS.iloadN X0.here hx rfl (hb hby d4_1) rfl k)) ?_
  by_cases hc1 : x0 < x1
  · refine Goes.on (T' := T0) (g' := (mkF m 10 #[.val (.int x0), .val (.int x1)] [(.int x1)])) (fun _ k => XS.icmpYes X0.here hx rfl (pc0 := 2) (pc' := 9) rfl (hb hby d4_2) rfl (XT.ii_lt_t hc1) (by decide) (by decide) (XS.iloadN X0.here hx rfl (hb hby d4_9) rfl k)) ?_
    exact Goes.retI X0 hx hlk hret (hb hby d4_10) (by decide) (by decide) ⟨(by unfold FMx; rw [if_pos hc1]), N0, e0⟩
  · refine Goes.on (T' := T0) (g' := (mkF m 10 #[.val (.int x0), .val (.int x1)] [(.int x0)])) (fun _ k => XS.icmpNo X0.here hx rfl (hb hby d4_2) rfl (XT.ii_lt_f hc1) (XS.iloadN X0.here hx rfl (hb hby d4_5) rfl (XS.goto X0.here hx rfl (pc0 := 6) (pc' := 10) rfl (hb hby d4_6) (by decide) (by decide) k))) ?_
    exact Goes.retI X0 hx hlk hret (hb hby d4_10) (by decide) (by decide) ⟨(by unfold FMx; rw [if_neg hc1]), N0, e0⟩
theorem own_b (x : Int32) : 1 ≤ (FMx (1 : Int32) (FMn x (32768 : Int32))).toInt ∧ (FMx (1 : Int32) (FMn x (32768 : Int32))).toInt ≤ 32768 := by
  have k1 : (1 : Int32).toInt = 1 := rfl
  have k2 : (32768 : Int32).toInt = 32768 := rfl
  unfold FMx FMn
  simp only [Int32.lt_iff_toInt_lt]
  repeat' split
  all_goals (simp only [k1, k2] at *; omega)
theorem own_cap (x : Int32) : ¬ (FMx (1 : Int32) (FMn x (32768 : Int32))) < 0 ∧ (FMx (1 : Int32) (FMn x (32768 : Int32))).toNatClampNeg ≤ 32768 := by
  have h := own_b x
  refine ⟨fun q => ?_, ?_⟩
  · rw [Int32.lt_iff_toInt_lt] at q; have k : (0 : Int32).toInt = 0 := rfl; omega
  · simp only [Int32.toNatClampNeg]; omega
theorem own_cap1 (x : Int32) : 1 ≤ (FMx (1 : Int32) (FMn x (32768 : Int32))).toNatClampNeg ∧ (FMx (1 : Int32) (FMn x (32768 : Int32))).toNatClampNeg ≤ 32768 := by
  have h := own_b x
  simp only [Int32.toNatClampNeg]; omega
theorem own_ne {n : Nat} {k : Int32} (hn : n ≤ 32768) (h0 : ¬ k < 0) (hk : k.toNatClampNeg < n) : ¬ k = n.toInt32 := fun q => by
  rw [q, nat32 (by omega)] at hk; omega
theorem own_i3 (x : Int32) : ((x &&& (2147483647 : Int32)) % (3 : Int32)) = (0 : Int32) ∨ ((x &&& (2147483647 : Int32)) % (3 : Int32)) = (1 : Int32) ∨ ((x &&& (2147483647 : Int32)) % (3 : Int32)) = (2 : Int32) := by
  have h := c_mask x (2147483647 : Int32) 31 (by decide) (by decide)
  have h2 := (c_irem (x &&& (2147483647 : Int32)) (3 : Int32) 3 rfl).1 (by rw [h]; exact Int.emod_nonneg _ (by decide))
  have k0 : (0 : Int32).toInt = 0 := rfl
  have k1 : (1 : Int32).toInt = 1 := rfl
  have k2 : (2 : Int32).toInt = 2 := rfl
  simp only [← Int32.toInt_inj, h2, k0, k1, k2]
  omega

theorem d7_0 : decode jdk_65_method_123_code 0 = .ok (.iload_n 1, 1) := by decide +kernel
theorem d7_1 : decode jdk_65_method_123_code 1 = .ok (.aload_n 0, 1) := by decide +kernel
theorem d7_2 : decode jdk_65_method_123_code 2 = .ok (.arraylength, 1) := by decide +kernel
theorem d7_3 : decode jdk_65_method_123_code 3 = .ok (.if_icmp .ne 11, 3) := by decide +kernel
theorem d7_14 : decode jdk_65_method_123_code 14 = .ok (.iload_n 1, 1) := by decide +kernel
theorem d7_15 : decode jdk_65_method_123_code 15 = .ok (.newarray .int, 2) := by decide +kernel
theorem d7_17 : decode jdk_65_method_123_code 17 = .ok (.astore_n 2, 1) := by decide +kernel
theorem d7_18 : decode jdk_65_method_123_code 18 = .ok (.aload_n 0, 1) := by decide +kernel
theorem d7_19 : decode jdk_65_method_123_code 19 = .ok (.iconst 0, 1) := by decide +kernel
theorem d7_20 : decode jdk_65_method_123_code 20 = .ok (.aload_n 2, 1) := by decide +kernel
theorem d7_21 : decode jdk_65_method_123_code 21 = .ok (.iconst 0, 1) := by decide +kernel
theorem d7_22 : decode jdk_65_method_123_code 22 = .ok (.aload_n 0, 1) := by decide +kernel
theorem d7_23 : decode jdk_65_method_123_code 23 = .ok (.arraylength, 1) := by decide +kernel
theorem d7_24 : decode jdk_65_method_123_code 24 = .ok (.iload_n 1, 1) := by decide +kernel
theorem pd_0 : parseMethodDescriptor "(II)I" = some ⟨[.int, .int], some .int⟩ := by decide +kernel
theorem d7_25 : decode jdk_65_method_123_code 25 = .ok (.invokestatic 304, 3) := by decide +kernel
theorem d7_28 : decode jdk_65_method_123_code 28 = .ok (.invokestatic 150, 3) := by decide +kernel
theorem d7_31 : decode jdk_65_method_123_code 31 = .ok (.aload_n 2, 1) := by decide +kernel
theorem d7_32 : decode jdk_65_method_123_code 32 = .ok (.areturn, 1) := by decide +kernel
theorem ef_1 (m : MethodId) (x0 : Addr) (x1 : Int32) : entryFrame m #[(.ref x0), (.int x1)] 3 = mkF m 0 #[.val (.ref x0), .val (.int x1), .unset] [] := by first | (simp [entryFrame, mkF, argsToLocals, Value.category]; done) | rfl
theorem pn_0 : plainName "java/util/Arrays" = true := by first | (simp [plainName, overriddenIn]; done) | decide +kernel
set_option maxRecDepth 65536 in
set_option maxHeartbeats 40000000 in
theorem rmY1 (l : Launch) (Z : State) (a0 : Array Value) (hw : ∀ d ∈ tables_1, d.before a0 Z = true) (a : Addr) (f : Nat → Int32) (h0 : Heap) (n0 : Nat) (Z0 : n0 ≤ h0.size) (B0 : Arf Z h0 a .int Value.int 1 f) :
    Pays l Z (⟨"java/util/Arrays", "copyOf", "([II)[I"⟩ : MethodName) jdk_65_method_123_code 3 (some (.array .int)) [] ({ frames := 1, cells := 1, slots := 2, locals := 40 } : Room) #[(.ref a), (.int (2 : Int32))] h0 (fun v h L => ∃ r, v = some (.ref r) ∧ Fr n0 L ∧ Keep h0 h [] ∧ Arf Z h r .int Value.int 2 (fun i => if i < 1 then f i else (fun _ => (0 : Int32)) i) ∧ Exa Z h r "[I" ∧ h0.size ≤ r) := by
  refine Pays.walk (plainFor_of_name pn_0) (fun m => ef_1 m a (2 : Int32) ) ?_
  intro p e s m below meth c T0 X0 hx hby hml hown hnm hZ e0 hret hlk
  have N0 := Fr.nil n0
  have K0 := Keep.refl h0 ([] : List Addr)
  refine Goes.on (T' := T0) (g' := (mkF m 15 #[.val (.ref a), .val (.int (2 : Int32)), .unset] [(.int (2 : Int32))])) (fun _ k => XS.iloadN X0.here hx rfl (hb hby d7_0) rfl (XS.aloadN X0.here hx rfl (hb hby d7_1) rfl rfl (aLenm X0 hx hZ e0 B0 (hb hby d7_2) (XS.icmpYes X0.here hx rfl (pc0 := 3) (pc' := 14) rfl (hb hby d7_3) rfl (XT.ii_ne_t (by decide)) (by decide) (by decide) (XS.iloadN X0.here hx rfl (hb hby d7_14) rfl k))))) ?_
  obtain ⟨T2, h2, cA2, X2, e2, E2, A2, J2, st2⟩ := newPE X0 hx hZ (own_w hw 17 rfl) e0 (g := (mkF m 15 #[.val (.ref a), .val (.int (2 : Int32)), .unset] [(.int (2 : Int32))])) rfl (hb hby d7_15) rfl (by decide) (cap := 2) (by decide) (by decide) (by decide) (by decide) (ad := "[I") (by decide)
  obtain ⟨a2, g2⟩ : ∃ z, z = h0.size := ⟨_, rfl⟩
  rw [← g2] at A2 J2 st2
  have M2 : h0.size ≤ a2 := Nat.le_trans K0.1 (Nat.le_of_eq g2.symm)
  have C3 := B0.ext E2
  have Z5 : n0 ≤ h2.size := Nat.le_trans Z0 E2.1
  have K6 := K0.ext E2
  have B2 : Arf Z h2 a2 .int Value.int 2 (fun _ => (0 : Int32)) := Arf.new A2 rfl
  have G2 : n0 ≤ a2 := Nat.le_trans Z0 (Nat.le_of_eq g2.symm)
  refine Goes.on (T' := T2) (g' := (mkF m 25 #[.val (.ref a), .val (.int (2 : Int32)), .val (.ref a2)] [(.int (2 : Int32)), (.int (1 : Int32)), (.int (0 : Int32)), (.ref a2), (.int (0 : Int32)), (.ref a)])) (fun _ k => st2 _ (XS.astoreN X2.here hx rfl (hb hby d7_17) rfl rfl (l' := #[.val (.ref a), .val (.int (2 : Int32)), .val (.ref a2)]) rfl (XS.aloadN X2.here hx rfl (hb hby d7_18) rfl rfl (XS.iconst X2.here hx rfl (hb hby d7_19) (XS.aloadN X2.here hx rfl (hb hby d7_20) rfl rfl (XS.iconst X2.here hx rfl (hb hby d7_21) (XS.aloadN X2.here hx rfl (hb hby d7_22) rfl rfl (aLenm X2 hx hZ e2 C3 (hb hby d7_23) (XS.iloadN X2.here hx rfl (hb hby d7_24) rfl k))))))))) ?_
  refine Goes.callS X2 hx hZ 4 hown (own_w hw 42 rfl) (own_w hw 11 rfl) (own_w hw 12 rfl) (own_w hw 13 rfl) (by decide) e2 (rmMn l Z a0 hw (1 : Int32) (2 : Int32) h2 n0 Z5) (by decide) (by decide) (by decide) (by decide) rfl (by rw [hml]; rfl) (argsL := [(.int (1 : Int32)), (.int (2 : Int32))]) (rest := [(.int (0 : Int32)), (.ref a2), (.int (0 : Int32)), (.ref a)]) rfl (lenOf pd_0 rfl) rfl (by show 2 * 0 + _ ≤ _; exact Nat.le_of_eq rfl) (hb hby d7_25) ?_
  intro v8 T8 L8 X8 hQ8
  obtain ⟨rfl, N8q, e8⟩ := hQ8
  have N8 := Fr.app N0 N8q
  show Goes p e below _ T8 (mkF m 28 #[.val (.ref a), .val (.int (2 : Int32)), .val (.ref a2)] [(.int (FMn (1 : Int32) (2 : Int32))), (.int (0 : Int32)), (.ref a2), (.int (0 : Int32)), (.ref a)])
  rw [show (FMn (1 : Int32) (2 : Int32)) = (1 : Int32) from by decide]
  obtain ⟨T9, h9, L9, X9, e9, N9, K9, B9, st9⟩ := acF X8 hx hZ hown (own_w hw 43 rfl) (own_w hw 46 rfl) (own_w hw 44 rfl) (own_w hw 45 rfl) e8 C3 B2 rfl (fun _ => rfl) (by decide) (by decide) (by decide) (len := 1) (by decide) (by decide) (by decide) N8 G2 (g := (mkF m 28 #[.val (.ref a), .val (.int (2 : Int32)), .val (.ref a2)] [(.int (1 : Int32)), (.int (0 : Int32)), (.ref a2), (.int (0 : Int32)), (.ref a)])) rfl (by rw [hml]; rfl) rfl (hb hby d7_28) (by decide) (W := 0) (by show 2 * 0 + _ ≤ _; exact Nat.le_of_eq rfl) (by decide)
  have C11 := J2.keep K9
  have K13 := K6.trans K9 (allS (Or.inr M2) all0)
  refine Goes.on (T' := T9) (g' := (mkF m 32 #[.val (.ref a), .val (.int (2 : Int32)), .val (.ref a2)] [(.ref a2)])) (fun _ k => st9 _ (XS.aloadN X9.here hx rfl (hb hby d7_31) rfl rfl k)) ?_
  exact Goes.retA X9 hx hlk hret rfl rfl (hb hby d7_32) (by decide) (by decide) (by rw [e9]; exact ⟨a2, rfl, N9, K13, B9, C11, M2⟩)
set_option maxRecDepth 65536 in
set_option maxHeartbeats 40000000 in
theorem rmY2 (l : Launch) (Z : State) (a0 : Array Value) (hw : ∀ d ∈ tables_1, d.before a0 Z = true) (a : Addr) (f : Nat → Int32) (h0 : Heap) (n0 : Nat) (Z0 : n0 ≤ h0.size) (B0 : Arf Z h0 a .int Value.int 2 f) :
    Pays l Z (⟨"java/util/Arrays", "copyOf", "([II)[I"⟩ : MethodName) jdk_65_method_123_code 3 (some (.array .int)) [] ({ frames := 1, cells := 1, slots := 4, locals := 40 } : Room) #[(.ref a), (.int (4 : Int32))] h0 (fun v h L => ∃ r, v = some (.ref r) ∧ Fr n0 L ∧ Keep h0 h [] ∧ Arf Z h r .int Value.int 4 (fun i => if i < 2 then f i else (fun _ => (0 : Int32)) i) ∧ Exa Z h r "[I" ∧ h0.size ≤ r) := by
  refine Pays.walk (plainFor_of_name pn_0) (fun m => ef_1 m a (4 : Int32) ) ?_
  intro p e s m below meth c T0 X0 hx hby hml hown hnm hZ e0 hret hlk
  have N0 := Fr.nil n0
  have K0 := Keep.refl h0 ([] : List Addr)
  refine Goes.on (T' := T0) (g' := (mkF m 15 #[.val (.ref a), .val (.int (4 : Int32)), .unset] [(.int (4 : Int32))])) (fun _ k => XS.iloadN X0.here hx rfl (hb hby d7_0) rfl (XS.aloadN X0.here hx rfl (hb hby d7_1) rfl rfl (aLenm X0 hx hZ e0 B0 (hb hby d7_2) (XS.icmpYes X0.here hx rfl (pc0 := 3) (pc' := 14) rfl (hb hby d7_3) rfl (XT.ii_ne_t (by decide)) (by decide) (by decide) (XS.iloadN X0.here hx rfl (hb hby d7_14) rfl k))))) ?_
  obtain ⟨T2, h2, cA2, X2, e2, E2, A2, J2, st2⟩ := newPE X0 hx hZ (own_w hw 17 rfl) e0 (g := (mkF m 15 #[.val (.ref a), .val (.int (4 : Int32)), .unset] [(.int (4 : Int32))])) rfl (hb hby d7_15) rfl (by decide) (cap := 4) (by decide) (by decide) (by decide) (by decide) (ad := "[I") (by decide)
  obtain ⟨a2, g2⟩ : ∃ z, z = h0.size := ⟨_, rfl⟩
  rw [← g2] at A2 J2 st2
  have M2 : h0.size ≤ a2 := Nat.le_trans K0.1 (Nat.le_of_eq g2.symm)
  have C3 := B0.ext E2
  have Z5 : n0 ≤ h2.size := Nat.le_trans Z0 E2.1
  have K6 := K0.ext E2
  have B2 : Arf Z h2 a2 .int Value.int 4 (fun _ => (0 : Int32)) := Arf.new A2 rfl
  have G2 : n0 ≤ a2 := Nat.le_trans Z0 (Nat.le_of_eq g2.symm)
  refine Goes.on (T' := T2) (g' := (mkF m 25 #[.val (.ref a), .val (.int (4 : Int32)), .val (.ref a2)] [(.int (4 : Int32)), (.int (2 : Int32)), (.int (0 : Int32)), (.ref a2), (.int (0 : Int32)), (.ref a)])) (fun _ k => st2 _ (XS.astoreN X2.here hx rfl (hb hby d7_17) rfl rfl (l' := #[.val (.ref a), .val (.int (4 : Int32)), .val (.ref a2)]) rfl (XS.aloadN X2.here hx rfl (hb hby d7_18) rfl rfl (XS.iconst X2.here hx rfl (hb hby d7_19) (XS.aloadN X2.here hx rfl (hb hby d7_20) rfl rfl (XS.iconst X2.here hx rfl (hb hby d7_21) (XS.aloadN X2.here hx rfl (hb hby d7_22) rfl rfl (aLenm X2 hx hZ e2 C3 (hb hby d7_23) (XS.iloadN X2.here hx rfl (hb hby d7_24) rfl k))))))))) ?_
  refine Goes.callS X2 hx hZ 4 hown (own_w hw 42 rfl) (own_w hw 11 rfl) (own_w hw 12 rfl) (own_w hw 13 rfl) (by decide) e2 (rmMn l Z a0 hw (2 : Int32) (4 : Int32) h2 n0 Z5) (by decide) (by decide) (by decide) (by decide) rfl (by rw [hml]; rfl) (argsL := [(.int (2 : Int32)), (.int (4 : Int32))]) (rest := [(.int (0 : Int32)), (.ref a2), (.int (0 : Int32)), (.ref a)]) rfl (lenOf pd_0 rfl) rfl (by show 2 * 0 + _ ≤ _; exact Nat.le_of_eq rfl) (hb hby d7_25) ?_
  intro v8 T8 L8 X8 hQ8
  obtain ⟨rfl, N8q, e8⟩ := hQ8
  have N8 := Fr.app N0 N8q
  show Goes p e below _ T8 (mkF m 28 #[.val (.ref a), .val (.int (4 : Int32)), .val (.ref a2)] [(.int (FMn (2 : Int32) (4 : Int32))), (.int (0 : Int32)), (.ref a2), (.int (0 : Int32)), (.ref a)])
  rw [show (FMn (2 : Int32) (4 : Int32)) = (2 : Int32) from by decide]
  obtain ⟨T9, h9, L9, X9, e9, N9, K9, B9, st9⟩ := acF X8 hx hZ hown (own_w hw 43 rfl) (own_w hw 46 rfl) (own_w hw 44 rfl) (own_w hw 45 rfl) e8 C3 B2 rfl (fun _ => rfl) (by decide) (by decide) (by decide) (len := 2) (by decide) (by decide) (by decide) N8 G2 (g := (mkF m 28 #[.val (.ref a), .val (.int (4 : Int32)), .val (.ref a2)] [(.int (2 : Int32)), (.int (0 : Int32)), (.ref a2), (.int (0 : Int32)), (.ref a)])) rfl (by rw [hml]; rfl) rfl (hb hby d7_28) (by decide) (W := 0) (by show 2 * 0 + _ ≤ _; exact Nat.le_of_eq rfl) (by decide)
  have C11 := J2.keep K9
  have K13 := K6.trans K9 (allS (Or.inr M2) all0)
  refine Goes.on (T' := T9) (g' := (mkF m 32 #[.val (.ref a), .val (.int (4 : Int32)), .val (.ref a2)] [(.ref a2)])) (fun _ k => st9 _ (XS.aloadN X9.here hx rfl (hb hby d7_31) rfl rfl k)) ?_
  exact Goes.retA X9 hx hlk hret rfl rfl (hb hby d7_32) (by decide) (by decide) (by rw [e9]; exact ⟨a2, rfl, N9, K13, B9, C11, M2⟩)
theorem d6_0 : decode prog_14_method_4_code 0 = .ok (.aload_n 0, 1) := by decide +kernel
theorem d6_1 : decode prog_14_method_4_code 1 = .ok (.getfield 22, 3) := by decide +kernel
theorem d6_4 : decode prog_14_method_4_code 4 = .ok (.arraylength, 1) := by decide +kernel
theorem d6_5 : decode prog_14_method_4_code 5 = .ok (.ldc 12, 2) := by decide +kernel
theorem d6_7 : decode prog_14_method_4_code 7 = .ok (.if_icmp .ge 39, 3) := by decide +kernel
theorem d6_10 : decode prog_14_method_4_code 10 = .ok (.aload_n 0, 1) := by decide +kernel
theorem d6_11 : decode prog_14_method_4_code 11 = .ok (.aload_n 0, 1) := by decide +kernel
theorem d6_12 : decode prog_14_method_4_code 12 = .ok (.getfield 22, 3) := by decide +kernel
theorem d6_15 : decode prog_14_method_4_code 15 = .ok (.iconst 2, 1) := by decide +kernel
theorem d6_16 : decode prog_14_method_4_code 16 = .ok (.aload_n 0, 1) := by decide +kernel
theorem d6_17 : decode prog_14_method_4_code 17 = .ok (.getfield 22, 3) := by decide +kernel
theorem d6_20 : decode prog_14_method_4_code 20 = .ok (.arraylength, 1) := by decide +kernel
theorem d6_21 : decode prog_14_method_4_code 21 = .ok (.imul, 1) := by decide +kernel
theorem d6_22 : decode prog_14_method_4_code 22 = .ok (.ldc 12, 2) := by decide +kernel
theorem d6_24 : decode prog_14_method_4_code 24 = .ok (.invokestatic 13, 3) := by decide +kernel
theorem pd_1 : parseMethodDescriptor "([II)[I" = some ⟨[(.array .int), .int], some (.array .int)⟩ := by decide +kernel
theorem d6_27 : decode prog_14_method_4_code 27 = .ok (.invokestatic 41, 3) := by decide +kernel
theorem d6_30 : decode prog_14_method_4_code 30 = .ok (.putfield 22, 3) := by decide +kernel
theorem d6_33 : decode prog_14_method_4_code 33 = .ok (.aload_n 0, 1) := by decide +kernel
theorem d6_34 : decode prog_14_method_4_code 34 = .ok (.getfield 27, 3) := by decide +kernel
theorem d6_37 : decode prog_14_method_4_code 37 = .ok (.iconst 0, 1) := by decide +kernel
theorem d6_38 : decode prog_14_method_4_code 38 = .ok (.aload_n 0, 1) := by decide +kernel
theorem d6_39 : decode prog_14_method_4_code 39 = .ok (.getfield 22, 3) := by decide +kernel
theorem d6_42 : decode prog_14_method_4_code 42 = .ok (.aastore, 1) := by decide +kernel
theorem d6_43 : decode prog_14_method_4_code 43 = .ok (.goto 71, 3) := by decide +kernel
theorem d6_114 : decode prog_14_method_4_code 114 = .ok (.return_, 1) := by decide +kernel
theorem ef_2 (m : MethodId) (x0 : Addr) : entryFrame m #[(.ref x0)] 2 = mkF m 0 #[.val (.ref x0), .unset] [] := by first | (simp [entryFrame, mkF, argsToLocals, Value.category]; done) | rfl
theorem pn_1 : plainName "com/example/arcbind/arcbind/IntBlocks" = true := by first | (simp [plainName, overriddenIn]; done) | decide +kernel
set_option maxRecDepth 65536 in
set_option maxHeartbeats 40000000 in
theorem rmR1 (l : Launch) (Z : State) (a0 : Array Value) (hw : ∀ d ∈ tables_1, d.before a0 Z = true) (a t b : Addr) (k sz : Int32) (f : Nat → Int32) (h0 : Heap) (n0 : Nat) (Z0 : n0 ≤ h0.size) (E0 : Exa Z h0 a "com/example/arcbind/arcbind/IntBlocks") (F_tail : Fld Z h0 a "com/example/arcbind/arcbind/IntBlocks" "tail" "[I" (.ref t)) (F_blocks : Fld Z h0 a "com/example/arcbind/arcbind/IntBlocks" "blocks" "[[I" (.ref b)) (F_tailSize : Fld Z h0 a "com/example/arcbind/arcbind/IntBlocks" "tailSize" "I" (.int k)) (F_size : Fld Z h0 a "com/example/arcbind/arcbind/IntBlocks" "size" "I" (.int sz)) (Et : Exa Z h0 t "[I") (Eb : Exa Z h0 b "[[I") (BB : Blk Z h0 b .int "[I" 1 (fun _ => .ref t)) (ga : n0 ≤ a) (gt : n0 ≤ t) (gb : n0 ≤ b) (BT : Arf Z h0 t .int Value.int 1 f) :
    Pays l Z (⟨"com/example/arcbind/arcbind/IntBlocks", "makeRoom", "()V"⟩ : MethodName) prog_14_method_4_code 2 none [] ({ frames := 2, cells := 1, slots := 2, locals := 70 } : Room) #[(.ref a)] h0 (fun v h L => ∃ r, v = none ∧ h0.size ≤ r ∧ Fr n0 L ∧ Keep h0 h [a, b] ∧ Exa Z h a "com/example/arcbind/arcbind/IntBlocks" ∧ Fld Z h a "com/example/arcbind/arcbind/IntBlocks" "tail" "[I" (.ref r) ∧ Fld Z h a "com/example/arcbind/arcbind/IntBlocks" "blocks" "[[I" (.ref b) ∧ Fld Z h a "com/example/arcbind/arcbind/IntBlocks" "tailSize" "I" (.int k) ∧ Fld Z h a "com/example/arcbind/arcbind/IntBlocks" "size" "I" (.int sz) ∧ Exa Z h r "[I" ∧ Exa Z h b "[[I" ∧ Blk Z h b .int "[I" 1 (fun _ => .ref r) ∧ Arf Z h r .int Value.int 2 (fun i => if i < 1 then f i else (fun _ => (0 : Int32)) i)) := by
  refine Pays.walk (plainFor_of_name pn_1) (fun m => ef_2 m a ) ?_
  intro p e s m below meth c T0 X0 hx hby hml hown hnm hZ e0 hret hlk
  have N0 := Fr.nil n0
  have nat_ : a ≠ t := ne_exa E0 Et (by decide)
  have nab_ : a ≠ b := ne_exa E0 Eb (by decide)
  have nbt_ : b ≠ t := ne_exa Eb Et (by decide)
  have K0 := Keep.refl h0 [a, b]
  refine Goes.on (T' := T0) (g' := (mkF m 1 #[.val (.ref a), .unset] [(.ref a)])) (fun _ k => XS.aloadN X0.here hx rfl (hb hby d6_0) rfl rfl k) ?_
  obtain ⟨T1, X1, e1, st1⟩ := getF X0 hx hZ hown (host := "") (Or.inl (own_w hw 18 rfl)) Via.refl e0 F_tail (g := (mkF m 1 #[.val (.ref a), .unset] [(.ref a)])) rfl rfl (hb hby d6_1)
  refine Goes.on (T' := T1) (g' := (mkF m 12 #[.val (.ref a), .unset] [(.ref a), (.ref a)])) (fun _ k => st1 _ (aLenm X1 hx hZ e1 BT (hb hby d6_4) (X1.ldcInt hx hown (mvT hZ (own_w hw 9 rfl)) (g := (mkF m 5 #[.val (.ref a), .unset] [(.int (1 : Int32))])) rfl (hb hby d6_5) _ (XS.icmpNo X1.here hx rfl (hb hby d6_7) rfl (XT.ii_ge_f (by decide)) (XS.aloadN X1.here hx rfl (hb hby d6_10) rfl rfl (XS.aloadN X1.here hx rfl (hb hby d6_11) rfl rfl k)))))) ?_
  obtain ⟨T3, X3, e3, st3⟩ := getF X1 hx hZ hown (host := "") (Or.inl (own_w hw 18 rfl)) Via.refl e1 F_tail (g := (mkF m 12 #[.val (.ref a), .unset] [(.ref a), (.ref a)])) rfl rfl (hb hby d6_12)
  refine Goes.on (T' := T3) (g' := (mkF m 17 #[.val (.ref a), .unset] [(.ref a), (.int (2 : Int32)), (.ref t), (.ref a)])) (fun _ k => st3 _ (XS.iconst X3.here hx rfl (hb hby d6_15) (XS.aloadN X3.here hx rfl (hb hby d6_16) rfl rfl k))) ?_
  obtain ⟨T4, X4, e4, st4⟩ := getF X3 hx hZ hown (host := "") (Or.inl (own_w hw 18 rfl)) Via.refl e3 F_tail (g := (mkF m 17 #[.val (.ref a), .unset] [(.ref a), (.int (2 : Int32)), (.ref t), (.ref a)])) rfl rfl (hb hby d6_17)
  refine Goes.on (T' := T4) (g' := (mkF m 24 #[.val (.ref a), .unset] [(.int (32768 : Int32)), (.int (2 : Int32)), (.ref t), (.ref a)])) (fun _ k => st4 _ (aLenm X4 hx hZ e4 BT (hb hby d6_20) (XS.imul X4.here hx rfl (hb hby d6_21) rfl (X4.ldcInt hx hown (mvT hZ (own_w hw 9 rfl)) (g := (mkF m 22 #[.val (.ref a), .unset] [(.int (2 : Int32)), (.ref t), (.ref a)])) rfl (hb hby d6_22) _ k)))) ?_
  refine Goes.callS X4 hx hZ 2 hown (own_w hw 10 rfl) (own_w hw 11 rfl) (own_w hw 12 rfl) (own_w hw 13 rfl) (by decide) e4 (rmMn l Z a0 hw (2 : Int32) (32768 : Int32) h0 n0 Z0) (by decide) (by decide) (by decide) (by decide) rfl (by rw [hml]; rfl) (argsL := [(.int (2 : Int32)), (.int (32768 : Int32))]) (rest := [(.ref t), (.ref a)]) rfl (lenOf pd_0 rfl) rfl (by show 2 * 0 + _ ≤ _; exact Nat.le_of_eq rfl) (hb hby d6_24) ?_
  intro v6 T6 L6 X6 hQ6
  obtain ⟨rfl, N6q, e6⟩ := hQ6
  have N6 := Fr.app N0 N6q
  show Goes p e below _ T6 (mkF m 27 #[.val (.ref a), .unset] [(.int (FMn (2 : Int32) (32768 : Int32))), (.ref t), (.ref a)])
  rw [show (FMn (2 : Int32) (32768 : Int32)) = (2 : Int32) from by decide]
  refine Goes.callS X6 hx hZ 1 hown (own_w hw 38 rfl) (own_w hw 39 rfl) (own_w hw 40 rfl) (own_w hw 41 rfl) (by decide) e6 (rmY1 l Z a0 hw t f h0 n0 Z0 BT) (by decide) (by decide) (by decide) (by decide) rfl (by rw [hml]; rfl) (argsL := [(.ref t), (.int (2 : Int32))]) (rest := [(.ref a)]) rfl (lenOf pd_1 rfl) rfl (by show 2 * 0 + _ ≤ _; exact Nat.le_of_eq rfl) (hb hby d6_27) ?_
  intro v7 T7 L7 X7 hQ7
  obtain ⟨r, rfl, N7q, K7, B7, J7, M7⟩ := hQ7
  have N7 := Fr.app N6 N7q
  show Goes p e below _ T7 (mkF m 30 #[.val (.ref a), .unset] [(.ref r), (.ref a)])
  have nr : n0 ≤ r := Nat.le_trans Z0 M7
  have nar : a ≠ r := Nat.ne_of_lt (Nat.lt_of_lt_of_le (E0).lt M7)
  have ntr : t ≠ r := Nat.ne_of_lt (Nat.lt_of_lt_of_le (Et).lt M7)
  have nbr : b ≠ r := Nat.ne_of_lt (Nat.lt_of_lt_of_le (Eb).lt M7)
  have mr : h0.size ≤ r := Nat.le_trans K0.1 M7
  have C8 := E0.keep K7
  have C10 := Eb.keep K7
  have C11 := F_tail.keep K7 nin0
  have C12 := F_blocks.keep K7 nin0
  have C13 := F_tailSize.keep K7 nin0
  have C14 := F_size.keep K7 nin0
  have C16 := BB.keep K7 nin0
  have K18 := K0.trans K7 all0
  obtain ⟨T19, h19, X19, e19, W19, st19⟩ := putF X7 hx hZ hown (host := "") (Or.inl (own_w hw 18 rfl)) Via.refl rfl C11 C8 (Or.inl (own_w hw 19 rfl)) (own_w hw 1 rfl) (ty := (.array .int)) (by decide) rfl rfl (g := (mkF m 30 #[.val (.ref a), .unset] [(.ref r), (.ref a)])) rfl rfl (hb hby d6_30)
  have N19 := Fr.snoc X19 N7 ga
  have C20 := C8.wr W19
  have C22 := C10.wr W19
  have C23 := C11.same W19
  have C24 := C12.other W19 (Or.inr (slot_ne (Or.inl (own_w hw 24 rfl)) (Or.inl (own_w hw 19 rfl)) (by decide) (t := (.array (.array .int))) (by decide) (t' := (.array .int)) (by decide)))
  have C25 := C13.other W19 (Or.inr (slot_ne (Or.inl (own_w hw 31 rfl)) (Or.inl (own_w hw 19 rfl)) (by decide) (t := .int) (by decide) (t' := (.array .int)) (by decide)))
  have C26 := C14.other W19 (Or.inr (slot_ne (Or.inl (own_w hw 33 rfl)) (Or.inl (own_w hw 19 rfl)) (by decide) (t := .int) (by decide) (t' := (.array .int)) (by decide)))
  have C28 := C16.other W19 nab_.symm
  have C29 := J7.wr W19
  have C30 := B7.other W19 nar.symm
  have K32 := K18.wr W19 (Or.inl (List.mem_of_getElem? (i := 0) rfl))
  refine Goes.on (T' := T19) (g' := (mkF m 34 #[.val (.ref a), .unset] [(.ref a)])) (fun _ k => st19 _ (XS.aloadN X19.here hx rfl (hb hby d6_33) rfl rfl k)) ?_
  obtain ⟨T33, X33, e33, st33⟩ := getF X19 hx hZ hown (host := "") (Or.inl (own_w hw 23 rfl)) Via.refl e19 C24 (g := (mkF m 34 #[.val (.ref a), .unset] [(.ref a)])) rfl rfl (hb hby d6_34)
  refine Goes.on (T' := T33) (g' := (mkF m 39 #[.val (.ref a), .unset] [(.ref a), (.int (0 : Int32)), (.ref b)])) (fun _ k => st33 _ (XS.iconst X33.here hx rfl (hb hby d6_37) (XS.aloadN X33.here hx rfl (hb hby d6_38) rfl rfl k))) ?_
  obtain ⟨T34, X34, e34, st34⟩ := getF X33 hx hZ hown (host := "") (Or.inl (own_w hw 18 rfl)) Via.refl e33 C23 (g := (mkF m 39 #[.val (.ref a), .unset] [(.ref a), (.int (0 : Int32)), (.ref b)])) rfl rfl (hb hby d6_39)
  refine Goes.on (T' := T34) (g' := (mkF m 42 #[.val (.ref a), .unset] [(.ref r), (.int (0 : Int32)), (.ref b)])) (fun _ k => st34 _ k) ?_
  obtain ⟨T35, h35, X35, e35, W35, B35, st35⟩ := wrB X34 hx hZ e34 C28 (Ins.self C29) (by decide) (g := (mkF m 42 #[.val (.ref a), .unset] [(.ref r), (.int (0 : Int32)), (.ref b)])) rfl rfl (hb hby d6_42)
  have N35 := Fr.snoc X35 N19 gb
  have C36 := C20.wr W35
  have C38 := C22.wr W35
  have C39 := C23.other W35 (Or.inl nab_)
  have C40 := C24.other W35 (Or.inl nab_)
  have C41 := C25.other W35 (Or.inl nab_)
  have C42 := C26.other W35 (Or.inl nab_)
  have C44 := C29.wr W35
  have C45 := C30.other W35 nbr.symm
  have K47 := K32.wr W35 (Or.inl (List.mem_of_getElem? (i := 1) rfl))
  have B35 : Blk Z h35 b .int "[I" 1 (Upd (fun _ => .ref t) 0 (.ref r)) := B35
  refine Goes.on (T' := T35) (g' := (mkF m 114 #[.val (.ref a), .unset] [])) (fun _ k => st35 _ (XS.goto X35.here hx rfl (pc0 := 43) (pc' := 114) rfl (hb hby d6_43) (by decide) (by decide) k)) ?_
  exact Goes.retV X35 hx hlk hret (hb hby d6_114) (by decide) (by decide) (by rw [e35]; exact ⟨r, rfl, mr, N35, K47, C36, C39, C40, C41, C42, C44, C38, (Blk.one B35 rfl), C45⟩)
set_option maxRecDepth 65536 in
set_option maxHeartbeats 40000000 in
theorem rmR2 (l : Launch) (Z : State) (a0 : Array Value) (hw : ∀ d ∈ tables_1, d.before a0 Z = true) (a t b : Addr) (k sz : Int32) (f : Nat → Int32) (h0 : Heap) (n0 : Nat) (Z0 : n0 ≤ h0.size) (E0 : Exa Z h0 a "com/example/arcbind/arcbind/IntBlocks") (F_tail : Fld Z h0 a "com/example/arcbind/arcbind/IntBlocks" "tail" "[I" (.ref t)) (F_blocks : Fld Z h0 a "com/example/arcbind/arcbind/IntBlocks" "blocks" "[[I" (.ref b)) (F_tailSize : Fld Z h0 a "com/example/arcbind/arcbind/IntBlocks" "tailSize" "I" (.int k)) (F_size : Fld Z h0 a "com/example/arcbind/arcbind/IntBlocks" "size" "I" (.int sz)) (Et : Exa Z h0 t "[I") (Eb : Exa Z h0 b "[[I") (BB : Blk Z h0 b .int "[I" 1 (fun _ => .ref t)) (ga : n0 ≤ a) (gt : n0 ≤ t) (gb : n0 ≤ b) (BT : Arf Z h0 t .int Value.int 2 f) :
    Pays l Z (⟨"com/example/arcbind/arcbind/IntBlocks", "makeRoom", "()V"⟩ : MethodName) prog_14_method_4_code 2 none [] ({ frames := 2, cells := 1, slots := 4, locals := 70 } : Room) #[(.ref a)] h0 (fun v h L => ∃ r, v = none ∧ h0.size ≤ r ∧ Fr n0 L ∧ Keep h0 h [a, b] ∧ Exa Z h a "com/example/arcbind/arcbind/IntBlocks" ∧ Fld Z h a "com/example/arcbind/arcbind/IntBlocks" "tail" "[I" (.ref r) ∧ Fld Z h a "com/example/arcbind/arcbind/IntBlocks" "blocks" "[[I" (.ref b) ∧ Fld Z h a "com/example/arcbind/arcbind/IntBlocks" "tailSize" "I" (.int k) ∧ Fld Z h a "com/example/arcbind/arcbind/IntBlocks" "size" "I" (.int sz) ∧ Exa Z h r "[I" ∧ Exa Z h b "[[I" ∧ Blk Z h b .int "[I" 1 (fun _ => .ref r) ∧ Arf Z h r .int Value.int 4 (fun i => if i < 2 then f i else (fun _ => (0 : Int32)) i)) := by
  refine Pays.walk (plainFor_of_name pn_1) (fun m => ef_2 m a ) ?_
  intro p e s m below meth c T0 X0 hx hby hml hown hnm hZ e0 hret hlk
  have N0 := Fr.nil n0
  have nat_ : a ≠ t := ne_exa E0 Et (by decide)
  have nab_ : a ≠ b := ne_exa E0 Eb (by decide)
  have nbt_ : b ≠ t := ne_exa Eb Et (by decide)
  have K0 := Keep.refl h0 [a, b]
  refine Goes.on (T' := T0) (g' := (mkF m 1 #[.val (.ref a), .unset] [(.ref a)])) (fun _ k => XS.aloadN X0.here hx rfl (hb hby d6_0) rfl rfl k) ?_
  obtain ⟨T1, X1, e1, st1⟩ := getF X0 hx hZ hown (host := "") (Or.inl (own_w hw 18 rfl)) Via.refl e0 F_tail (g := (mkF m 1 #[.val (.ref a), .unset] [(.ref a)])) rfl rfl (hb hby d6_1)
  refine Goes.on (T' := T1) (g' := (mkF m 12 #[.val (.ref a), .unset] [(.ref a), (.ref a)])) (fun _ k => st1 _ (aLenm X1 hx hZ e1 BT (hb hby d6_4) (X1.ldcInt hx hown (mvT hZ (own_w hw 9 rfl)) (g := (mkF m 5 #[.val (.ref a), .unset] [(.int (2 : Int32))])) rfl (hb hby d6_5) _ (XS.icmpNo X1.here hx rfl (hb hby d6_7) rfl (XT.ii_ge_f (by decide)) (XS.aloadN X1.here hx rfl (hb hby d6_10) rfl rfl (XS.aloadN X1.here hx rfl (hb hby d6_11) rfl rfl k)))))) ?_
  obtain ⟨T3, X3, e3, st3⟩ := getF X1 hx hZ hown (host := "") (Or.inl (own_w hw 18 rfl)) Via.refl e1 F_tail (g := (mkF m 12 #[.val (.ref a), .unset] [(.ref a), (.ref a)])) rfl rfl (hb hby d6_12)
  refine Goes.on (T' := T3) (g' := (mkF m 17 #[.val (.ref a), .unset] [(.ref a), (.int (2 : Int32)), (.ref t), (.ref a)])) (fun _ k => st3 _ (XS.iconst X3.here hx rfl (hb hby d6_15) (XS.aloadN X3.here hx rfl (hb hby d6_16) rfl rfl k))) ?_
  obtain ⟨T4, X4, e4, st4⟩ := getF X3 hx hZ hown (host := "") (Or.inl (own_w hw 18 rfl)) Via.refl e3 F_tail (g := (mkF m 17 #[.val (.ref a), .unset] [(.ref a), (.int (2 : Int32)), (.ref t), (.ref a)])) rfl rfl (hb hby d6_17)
  refine Goes.on (T' := T4) (g' := (mkF m 24 #[.val (.ref a), .unset] [(.int (32768 : Int32)), (.int (4 : Int32)), (.ref t), (.ref a)])) (fun _ k => st4 _ (aLenm X4 hx hZ e4 BT (hb hby d6_20) (XS.imul X4.here hx rfl (hb hby d6_21) rfl (X4.ldcInt hx hown (mvT hZ (own_w hw 9 rfl)) (g := (mkF m 22 #[.val (.ref a), .unset] [(.int (4 : Int32)), (.ref t), (.ref a)])) rfl (hb hby d6_22) _ k)))) ?_
  refine Goes.callS X4 hx hZ 2 hown (own_w hw 10 rfl) (own_w hw 11 rfl) (own_w hw 12 rfl) (own_w hw 13 rfl) (by decide) e4 (rmMn l Z a0 hw (4 : Int32) (32768 : Int32) h0 n0 Z0) (by decide) (by decide) (by decide) (by decide) rfl (by rw [hml]; rfl) (argsL := [(.int (4 : Int32)), (.int (32768 : Int32))]) (rest := [(.ref t), (.ref a)]) rfl (lenOf pd_0 rfl) rfl (by show 2 * 0 + _ ≤ _; exact Nat.le_of_eq rfl) (hb hby d6_24) ?_
  intro v6 T6 L6 X6 hQ6
  obtain ⟨rfl, N6q, e6⟩ := hQ6
  have N6 := Fr.app N0 N6q
  show Goes p e below _ T6 (mkF m 27 #[.val (.ref a), .unset] [(.int (FMn (4 : Int32) (32768 : Int32))), (.ref t), (.ref a)])
  rw [show (FMn (4 : Int32) (32768 : Int32)) = (4 : Int32) from by decide]
  refine Goes.callS X6 hx hZ 1 hown (own_w hw 38 rfl) (own_w hw 39 rfl) (own_w hw 40 rfl) (own_w hw 41 rfl) (by decide) e6 (rmY2 l Z a0 hw t f h0 n0 Z0 BT) (by decide) (by decide) (by decide) (by decide) rfl (by rw [hml]; rfl) (argsL := [(.ref t), (.int (4 : Int32))]) (rest := [(.ref a)]) rfl (lenOf pd_1 rfl) rfl (by show 2 * 0 + _ ≤ _; exact Nat.le_of_eq rfl) (hb hby d6_27) ?_
  intro v7 T7 L7 X7 hQ7
  obtain ⟨r, rfl, N7q, K7, B7, J7, M7⟩ := hQ7
  have N7 := Fr.app N6 N7q
  show Goes p e below _ T7 (mkF m 30 #[.val (.ref a), .unset] [(.ref r), (.ref a)])
  have nr : n0 ≤ r := Nat.le_trans Z0 M7
  have nar : a ≠ r := Nat.ne_of_lt (Nat.lt_of_lt_of_le (E0).lt M7)
  have ntr : t ≠ r := Nat.ne_of_lt (Nat.lt_of_lt_of_le (Et).lt M7)
  have nbr : b ≠ r := Nat.ne_of_lt (Nat.lt_of_lt_of_le (Eb).lt M7)
  have mr : h0.size ≤ r := Nat.le_trans K0.1 M7
  have C8 := E0.keep K7
  have C10 := Eb.keep K7
  have C11 := F_tail.keep K7 nin0
  have C12 := F_blocks.keep K7 nin0
  have C13 := F_tailSize.keep K7 nin0
  have C14 := F_size.keep K7 nin0
  have C16 := BB.keep K7 nin0
  have K18 := K0.trans K7 all0
  obtain ⟨T19, h19, X19, e19, W19, st19⟩ := putF X7 hx hZ hown (host := "") (Or.inl (own_w hw 18 rfl)) Via.refl rfl C11 C8 (Or.inl (own_w hw 19 rfl)) (own_w hw 1 rfl) (ty := (.array .int)) (by decide) rfl rfl (g := (mkF m 30 #[.val (.ref a), .unset] [(.ref r), (.ref a)])) rfl rfl (hb hby d6_30)
  have N19 := Fr.snoc X19 N7 ga
  have C20 := C8.wr W19
  have C22 := C10.wr W19
  have C23 := C11.same W19
  have C24 := C12.other W19 (Or.inr (slot_ne (Or.inl (own_w hw 24 rfl)) (Or.inl (own_w hw 19 rfl)) (by decide) (t := (.array (.array .int))) (by decide) (t' := (.array .int)) (by decide)))
  have C25 := C13.other W19 (Or.inr (slot_ne (Or.inl (own_w hw 31 rfl)) (Or.inl (own_w hw 19 rfl)) (by decide) (t := .int) (by decide) (t' := (.array .int)) (by decide)))
  have C26 := C14.other W19 (Or.inr (slot_ne (Or.inl (own_w hw 33 rfl)) (Or.inl (own_w hw 19 rfl)) (by decide) (t := .int) (by decide) (t' := (.array .int)) (by decide)))
  have C28 := C16.other W19 nab_.symm
  have C29 := J7.wr W19
  have C30 := B7.other W19 nar.symm
  have K32 := K18.wr W19 (Or.inl (List.mem_of_getElem? (i := 0) rfl))
  refine Goes.on (T' := T19) (g' := (mkF m 34 #[.val (.ref a), .unset] [(.ref a)])) (fun _ k => st19 _ (XS.aloadN X19.here hx rfl (hb hby d6_33) rfl rfl k)) ?_
  obtain ⟨T33, X33, e33, st33⟩ := getF X19 hx hZ hown (host := "") (Or.inl (own_w hw 23 rfl)) Via.refl e19 C24 (g := (mkF m 34 #[.val (.ref a), .unset] [(.ref a)])) rfl rfl (hb hby d6_34)
  refine Goes.on (T' := T33) (g' := (mkF m 39 #[.val (.ref a), .unset] [(.ref a), (.int (0 : Int32)), (.ref b)])) (fun _ k => st33 _ (XS.iconst X33.here hx rfl (hb hby d6_37) (XS.aloadN X33.here hx rfl (hb hby d6_38) rfl rfl k))) ?_
  obtain ⟨T34, X34, e34, st34⟩ := getF X33 hx hZ hown (host := "") (Or.inl (own_w hw 18 rfl)) Via.refl e33 C23 (g := (mkF m 39 #[.val (.ref a), .unset] [(.ref a), (.int (0 : Int32)), (.ref b)])) rfl rfl (hb hby d6_39)
  refine Goes.on (T' := T34) (g' := (mkF m 42 #[.val (.ref a), .unset] [(.ref r), (.int (0 : Int32)), (.ref b)])) (fun _ k => st34 _ k) ?_
  obtain ⟨T35, h35, X35, e35, W35, B35, st35⟩ := wrB X34 hx hZ e34 C28 (Ins.self C29) (by decide) (g := (mkF m 42 #[.val (.ref a), .unset] [(.ref r), (.int (0 : Int32)), (.ref b)])) rfl rfl (hb hby d6_42)
  have N35 := Fr.snoc X35 N19 gb
  have C36 := C20.wr W35
  have C38 := C22.wr W35
  have C39 := C23.other W35 (Or.inl nab_)
  have C40 := C24.other W35 (Or.inl nab_)
  have C41 := C25.other W35 (Or.inl nab_)
  have C42 := C26.other W35 (Or.inl nab_)
  have C44 := C29.wr W35
  have C45 := C30.other W35 nbr.symm
  have K47 := K32.wr W35 (Or.inl (List.mem_of_getElem? (i := 1) rfl))
  have B35 : Blk Z h35 b .int "[I" 1 (Upd (fun _ => .ref t) 0 (.ref r)) := B35
  refine Goes.on (T' := T35) (g' := (mkF m 114 #[.val (.ref a), .unset] [])) (fun _ k => st35 _ (XS.goto X35.here hx rfl (pc0 := 43) (pc' := 114) rfl (hb hby d6_43) (by decide) (by decide) k)) ?_
  exact Goes.retV X35 hx hlk hret (hb hby d6_114) (by decide) (by decide) (by rw [e35]; exact ⟨r, rfl, mr, N35, K47, C36, C39, C40, C41, C42, C44, C38, (Blk.one B35 rfl), C45⟩)
theorem d5_0 : decode prog_14_method_3_code 0 = .ok (.aload_n 0, 1) := by decide +kernel
theorem d5_1 : decode prog_14_method_3_code 1 = .ok (.getfield 31, 3) := by decide +kernel
theorem d5_4 : decode prog_14_method_3_code 4 = .ok (.aload_n 0, 1) := by decide +kernel
theorem d5_5 : decode prog_14_method_3_code 5 = .ok (.getfield 22, 3) := by decide +kernel
theorem d5_8 : decode prog_14_method_3_code 8 = .ok (.arraylength, 1) := by decide +kernel
theorem d5_9 : decode prog_14_method_3_code 9 = .ok (.if_icmp .ne 7, 3) := by decide +kernel
theorem d5_16 : decode prog_14_method_3_code 16 = .ok (.aload_n 0, 1) := by decide +kernel
theorem d5_17 : decode prog_14_method_3_code 17 = .ok (.getfield 22, 3) := by decide +kernel
theorem d5_20 : decode prog_14_method_3_code 20 = .ok (.aload_n 0, 1) := by decide +kernel
theorem d5_21 : decode prog_14_method_3_code 21 = .ok (.getfield 31, 3) := by decide +kernel
theorem d5_24 : decode prog_14_method_3_code 24 = .ok (.iload_n 1, 1) := by decide +kernel
theorem d5_25 : decode prog_14_method_3_code 25 = .ok (.iastore, 1) := by decide +kernel
theorem d5_26 : decode prog_14_method_3_code 26 = .ok (.aload_n 0, 1) := by decide +kernel
theorem d5_27 : decode prog_14_method_3_code 27 = .ok (.dup, 1) := by decide +kernel
theorem d5_28 : decode prog_14_method_3_code 28 = .ok (.getfield 31, 3) := by decide +kernel
theorem d5_31 : decode prog_14_method_3_code 31 = .ok (.iconst 1, 1) := by decide +kernel
theorem d5_32 : decode prog_14_method_3_code 32 = .ok (.iadd, 1) := by decide +kernel
theorem d5_33 : decode prog_14_method_3_code 33 = .ok (.putfield 31, 3) := by decide +kernel
theorem d5_36 : decode prog_14_method_3_code 36 = .ok (.aload_n 0, 1) := by decide +kernel
theorem d5_37 : decode prog_14_method_3_code 37 = .ok (.dup, 1) := by decide +kernel
theorem d5_38 : decode prog_14_method_3_code 38 = .ok (.getfield 38, 3) := by decide +kernel
theorem d5_41 : decode prog_14_method_3_code 41 = .ok (.iconst 1, 1) := by decide +kernel
theorem d5_42 : decode prog_14_method_3_code 42 = .ok (.iadd, 1) := by decide +kernel
theorem d5_43 : decode prog_14_method_3_code 43 = .ok (.putfield 38, 3) := by decide +kernel
theorem d5_46 : decode prog_14_method_3_code 46 = .ok (.return_, 1) := by decide +kernel
theorem ef_3 (m : MethodId) (x0 : Addr) (x1 : Int32) : entryFrame m #[(.ref x0), (.int x1)] 2 = mkF m 0 #[.val (.ref x0), .val (.int x1)] [] := by first | (simp [entryFrame, mkF, argsToLocals, Value.category]; done) | rfl
set_option maxRecDepth 65536 in
set_option maxHeartbeats 40000000 in
theorem rmA (l : Launch) (Z : State) (a0 : Array Value) (hw : ∀ d ∈ tables_1, d.before a0 Z = true) (a : Addr) (v : Int32) (t b : Addr) (k sz : Int32) (n : Nat) (f : Nat → Int32) (h0 : Heap) (n0 : Nat) (Z0 : n0 ≤ h0.size) (E0 : Exa Z h0 a "com/example/arcbind/arcbind/IntBlocks") (F_tail : Fld Z h0 a "com/example/arcbind/arcbind/IntBlocks" "tail" "[I" (.ref t)) (F_blocks : Fld Z h0 a "com/example/arcbind/arcbind/IntBlocks" "blocks" "[[I" (.ref b)) (F_tailSize : Fld Z h0 a "com/example/arcbind/arcbind/IntBlocks" "tailSize" "I" (.int k)) (F_size : Fld Z h0 a "com/example/arcbind/arcbind/IntBlocks" "size" "I" (.int sz)) (Et : Exa Z h0 t "[I") (Eb : Exa Z h0 b "[[I") (BB : Blk Z h0 b .int "[I" 1 (fun _ => .ref t)) (ga : n0 ≤ a) (gt : n0 ≤ t) (gb : n0 ≤ b) (BT : Arf Z h0 t .int Value.int n f) (hk : ¬ k < 0 ∧ k.toNatClampNeg < n) (hkn : ¬ k = n.toInt32) :
    Pays l Z (⟨"com/example/arcbind/arcbind/IntBlocks", "add", "(I)V"⟩ : MethodName) prog_14_method_3_code 2 none [] ({ frames := 0, cells := 0, slots := 0, locals := 0 } : Room) #[(.ref a), (.int v)] h0 (fun v_ h L => v_ = none ∧ Fr n0 L ∧ Keep h0 h [a, t] ∧ Exa Z h a "com/example/arcbind/arcbind/IntBlocks" ∧ Fld Z h a "com/example/arcbind/arcbind/IntBlocks" "tail" "[I" (.ref t) ∧ Fld Z h a "com/example/arcbind/arcbind/IntBlocks" "blocks" "[[I" (.ref b) ∧ Fld Z h a "com/example/arcbind/arcbind/IntBlocks" "tailSize" "I" (.int (k + (1 : Int32))) ∧ Fld Z h a "com/example/arcbind/arcbind/IntBlocks" "size" "I" (.int (sz + (1 : Int32))) ∧ Exa Z h t "[I" ∧ Exa Z h b "[[I" ∧ Blk Z h b .int "[I" 1 (fun _ => .ref t) ∧ Arf Z h t .int Value.int n (Upd f k.toNatClampNeg v)) := by
  refine Pays.walk (plainFor_of_name pn_1) (fun m => ef_3 m a v ) ?_
  intro p e s m below meth c T0 X0 hx hby hml hown hnm hZ e0 hret hlk
  have N0 := Fr.nil n0
  have nat_ : a ≠ t := ne_exa E0 Et (by decide)
  have nab_ : a ≠ b := ne_exa E0 Eb (by decide)
  have nbt_ : b ≠ t := ne_exa Eb Et (by decide)
  have K0 := Keep.refl h0 [a, t]
  refine Goes.on (T' := T0) (g' := (mkF m 1 #[.val (.ref a), .val (.int v)] [(.ref a)])) (fun _ k => XS.aloadN X0.here hx rfl (hb hby d5_0) rfl rfl k) ?_
  obtain ⟨T1, X1, e1, st1⟩ := getF X0 hx hZ hown (host := "") (Or.inl (own_w hw 30 rfl)) Via.refl e0 F_tailSize (g := (mkF m 1 #[.val (.ref a), .val (.int v)] [(.ref a)])) rfl rfl (hb hby d5_1)
  refine Goes.on (T' := T1) (g' := (mkF m 5 #[.val (.ref a), .val (.int v)] [(.ref a), (.int k)])) (fun _ k => st1 _ (XS.aloadN X1.here hx rfl (hb hby d5_4) rfl rfl k)) ?_
  obtain ⟨T2, X2, e2, st2⟩ := getF X1 hx hZ hown (host := "") (Or.inl (own_w hw 18 rfl)) Via.refl e1 F_tail (g := (mkF m 5 #[.val (.ref a), .val (.int v)] [(.ref a), (.int k)])) rfl rfl (hb hby d5_5)
  refine Goes.on (T' := T2) (g' := (mkF m 17 #[.val (.ref a), .val (.int v)] [(.ref a)])) (fun _ k => st2 _ (aLenm X2 hx hZ e2 BT (hb hby d5_8) (XS.icmpYes X2.here hx rfl (pc0 := 9) (pc' := 16) rfl (hb hby d5_9) rfl (XT.ii_ne_t hkn) (by decide) (by decide) (XS.aloadN X2.here hx rfl (hb hby d5_16) rfl rfl k)))) ?_
  obtain ⟨T4, X4, e4, st4⟩ := getF X2 hx hZ hown (host := "") (Or.inl (own_w hw 18 rfl)) Via.refl e2 F_tail (g := (mkF m 17 #[.val (.ref a), .val (.int v)] [(.ref a)])) rfl rfl (hb hby d5_17)
  refine Goes.on (T' := T4) (g' := (mkF m 21 #[.val (.ref a), .val (.int v)] [(.ref a), (.ref t)])) (fun _ k => st4 _ (XS.aloadN X4.here hx rfl (hb hby d5_20) rfl rfl k)) ?_
  obtain ⟨T5, X5, e5, st5⟩ := getF X4 hx hZ hown (host := "") (Or.inl (own_w hw 30 rfl)) Via.refl e4 F_tailSize (g := (mkF m 21 #[.val (.ref a), .val (.int v)] [(.ref a), (.ref t)])) rfl rfl (hb hby d5_21)
  refine Goes.on (T' := T5) (g' := (mkF m 25 #[.val (.ref a), .val (.int v)] [(.int v), (.int k), (.ref t)])) (fun _ k => st5 _ (XS.iloadN X5.here hx rfl (hb hby d5_24) rfl k)) ?_
  obtain ⟨T6, h6, X6, e6, W6, B6, st6⟩ := wrI X5 hx hZ e5 BT hk  (g := (mkF m 25 #[.val (.ref a), .val (.int v)] [(.int v), (.int k), (.ref t)])) rfl rfl (hb hby d5_25)
  have N6 := Fr.snoc X6 N0 gt
  have C7 := E0.wr W6
  have C8 := Et.wr W6
  have C9 := Eb.wr W6
  have C10 := F_tail.other W6 (Or.inl nat_)
  have C11 := F_blocks.other W6 (Or.inl nat_)
  have C12 := F_tailSize.other W6 (Or.inl nat_)
  have C13 := F_size.other W6 (Or.inl nat_)
  have C14 := BB.other W6 nbt_
  have K16 := K0.wr W6 (Or.inl (List.mem_of_getElem? (i := 1) rfl))
  have B6 : Arf Z h6 t .int Value.int n (Upd f k.toNatClampNeg v) := B6
  refine Goes.on (T' := T6) (g' := (mkF m 28 #[.val (.ref a), .val (.int v)] [(.ref a), (.ref a)])) (fun _ k => st6 _ (XS.aloadN X6.here hx rfl (hb hby d5_26) rfl rfl (XS.dup X6.here hx rfl (hb hby d5_27) rfl rfl k))) ?_
  obtain ⟨T17, X17, e17, st17⟩ := getF X6 hx hZ hown (host := "") (Or.inl (own_w hw 30 rfl)) Via.refl e6 C12 (g := (mkF m 28 #[.val (.ref a), .val (.int v)] [(.ref a), (.ref a)])) rfl rfl (hb hby d5_28)
  refine Goes.on (T' := T17) (g' := (mkF m 33 #[.val (.ref a), .val (.int v)] [(.int (k + (1 : Int32))), (.ref a)])) (fun _ k => st17 _ (XS.iconst X17.here hx rfl (hb hby d5_31) (XS.iadd X17.here hx rfl (hb hby d5_32) rfl k))) ?_
  obtain ⟨T18, h18, X18, e18, W18, st18⟩ := putF X17 hx hZ hown (host := "") (Or.inl (own_w hw 30 rfl)) Via.refl e17 C12 C7 (Or.inl (own_w hw 31 rfl)) (own_w hw 1 rfl) (ty := .int) (by decide) rfl rfl (g := (mkF m 33 #[.val (.ref a), .val (.int v)] [(.int (k + (1 : Int32))), (.ref a)])) rfl rfl (hb hby d5_33)
  have N18 := Fr.snoc X18 N6 ga
  have C19 := C7.wr W18
  have C20 := C8.wr W18
  have C21 := C9.wr W18
  have C22 := C10.other W18 (Or.inr (slot_ne (Or.inl (own_w hw 19 rfl)) (Or.inl (own_w hw 31 rfl)) (by decide) (t := (.array .int)) (by decide) (t' := .int) (by decide)))
  have C23 := C11.other W18 (Or.inr (slot_ne (Or.inl (own_w hw 24 rfl)) (Or.inl (own_w hw 31 rfl)) (by decide) (t := (.array (.array .int))) (by decide) (t' := .int) (by decide)))
  have C24 := C12.same W18
  have C25 := C13.other W18 (Or.inr (slot_ne (Or.inl (own_w hw 33 rfl)) (Or.inl (own_w hw 31 rfl)) (by decide) (t := .int) (by decide) (t' := .int) (by decide)))
  have C26 := B6.other W18 nat_.symm
  have C27 := C14.other W18 nab_.symm
  have K29 := K16.wr W18 (Or.inl (List.mem_of_getElem? (i := 0) rfl))
  refine Goes.on (T' := T18) (g' := (mkF m 38 #[.val (.ref a), .val (.int v)] [(.ref a), (.ref a)])) (fun _ k => st18 _ (XS.aloadN X18.here hx rfl (hb hby d5_36) rfl rfl (XS.dup X18.here hx rfl (hb hby d5_37) rfl rfl k))) ?_
  obtain ⟨T30, X30, e30, st30⟩ := getF X18 hx hZ hown (host := "") (Or.inl (own_w hw 32 rfl)) Via.refl e18 C25 (g := (mkF m 38 #[.val (.ref a), .val (.int v)] [(.ref a), (.ref a)])) rfl rfl (hb hby d5_38)
  refine Goes.on (T' := T30) (g' := (mkF m 43 #[.val (.ref a), .val (.int v)] [(.int (sz + (1 : Int32))), (.ref a)])) (fun _ k => st30 _ (XS.iconst X30.here hx rfl (hb hby d5_41) (XS.iadd X30.here hx rfl (hb hby d5_42) rfl k))) ?_
  obtain ⟨T31, h31, X31, e31, W31, st31⟩ := putF X30 hx hZ hown (host := "") (Or.inl (own_w hw 32 rfl)) Via.refl e30 C25 C19 (Or.inl (own_w hw 33 rfl)) (own_w hw 1 rfl) (ty := .int) (by decide) rfl rfl (g := (mkF m 43 #[.val (.ref a), .val (.int v)] [(.int (sz + (1 : Int32))), (.ref a)])) rfl rfl (hb hby d5_43)
  have N31 := Fr.snoc X31 N18 ga
  have C32 := C19.wr W31
  have C33 := C20.wr W31
  have C34 := C21.wr W31
  have C35 := C22.other W31 (Or.inr (slot_ne (Or.inl (own_w hw 19 rfl)) (Or.inl (own_w hw 33 rfl)) (by decide) (t := (.array .int)) (by decide) (t' := .int) (by decide)))
  have C36 := C23.other W31 (Or.inr (slot_ne (Or.inl (own_w hw 24 rfl)) (Or.inl (own_w hw 33 rfl)) (by decide) (t := (.array (.array .int))) (by decide) (t' := .int) (by decide)))
  have C37 := C24.other W31 (Or.inr (slot_ne (Or.inl (own_w hw 31 rfl)) (Or.inl (own_w hw 33 rfl)) (by decide) (t := .int) (by decide) (t' := .int) (by decide)))
  have C38 := C25.same W31
  have C39 := C26.other W31 nat_.symm
  have C40 := C27.other W31 nab_.symm
  have K42 := K29.wr W31 (Or.inl (List.mem_of_getElem? (i := 0) rfl))
  refine Goes.on (T' := T31) (g' := (mkF m 46 #[.val (.ref a), .val (.int v)] [])) (fun _ k => st31 _ k) ?_
  exact Goes.retV X31 hx hlk hret (hb hby d5_46) (by decide) (by decide) (by rw [e31]; exact ⟨rfl, N31, K42, C32, C35, C36, C37, C38, C33, C34, (Blk.one C40 rfl), C39⟩)
theorem d5_12 : decode prog_14_method_3_code 12 = .ok (.aload_n 0, 1) := by decide +kernel
theorem pd_2 : parseMethodDescriptor "()V" = some ⟨[], none⟩ := by decide +kernel
theorem d5_13 : decode prog_14_method_3_code 13 = .ok (.invokevirtual 35, 3) := by decide +kernel
set_option maxRecDepth 65536 in
set_option maxHeartbeats 40000000 in
theorem rmG1 (l : Launch) (Z : State) (a0 : Array Value) (hw : ∀ d ∈ tables_1, d.before a0 Z = true) (a : Addr) (v : Int32) (t b : Addr) (sz : Int32) (f : Nat → Int32) (h0 : Heap) (n0 : Nat) (Z0 : n0 ≤ h0.size) (E0 : Exa Z h0 a "com/example/arcbind/arcbind/IntBlocks") (F_tail : Fld Z h0 a "com/example/arcbind/arcbind/IntBlocks" "tail" "[I" (.ref t)) (F_blocks : Fld Z h0 a "com/example/arcbind/arcbind/IntBlocks" "blocks" "[[I" (.ref b)) (F_tailSize : Fld Z h0 a "com/example/arcbind/arcbind/IntBlocks" "tailSize" "I" (.int (1 : Int32))) (F_size : Fld Z h0 a "com/example/arcbind/arcbind/IntBlocks" "size" "I" (.int sz)) (Et : Exa Z h0 t "[I") (Eb : Exa Z h0 b "[[I") (BB : Blk Z h0 b .int "[I" 1 (fun _ => .ref t)) (ga : n0 ≤ a) (gt : n0 ≤ t) (gb : n0 ≤ b) (BT : Arf Z h0 t .int Value.int 1 f) :
    Pays l Z (⟨"com/example/arcbind/arcbind/IntBlocks", "add", "(I)V"⟩ : MethodName) prog_14_method_3_code 2 none [] ({ frames := 3, cells := 1, slots := 2, locals := 90 } : Room) #[(.ref a), (.int v)] h0 (fun v_ h L => ∃ r, v_ = none ∧ h0.size ≤ r ∧ Fr n0 L ∧ Keep h0 h [a, b] ∧ Exa Z h a "com/example/arcbind/arcbind/IntBlocks" ∧ Fld Z h a "com/example/arcbind/arcbind/IntBlocks" "tail" "[I" (.ref r) ∧ Fld Z h a "com/example/arcbind/arcbind/IntBlocks" "blocks" "[[I" (.ref b) ∧ Fld Z h a "com/example/arcbind/arcbind/IntBlocks" "tailSize" "I" (.int (2 : Int32)) ∧ Fld Z h a "com/example/arcbind/arcbind/IntBlocks" "size" "I" (.int (sz + (1 : Int32))) ∧ Exa Z h r "[I" ∧ Exa Z h b "[[I" ∧ Blk Z h b .int "[I" 1 (fun _ => .ref r) ∧ Arf Z h r .int Value.int 2 (Upd (fun i => if i < 1 then f i else (fun _ => (0 : Int32)) i) 1 v)) := by
  refine Pays.walk (plainFor_of_name pn_1) (fun m => ef_3 m a v ) ?_
  intro p e s m below meth c T0 X0 hx hby hml hown hnm hZ e0 hret hlk
  have N0 := Fr.nil n0
  have nat_ : a ≠ t := ne_exa E0 Et (by decide)
  have nab_ : a ≠ b := ne_exa E0 Eb (by decide)
  have nbt_ : b ≠ t := ne_exa Eb Et (by decide)
  have K0 := Keep.refl h0 [a, b]
  refine Goes.on (T' := T0) (g' := (mkF m 1 #[.val (.ref a), .val (.int v)] [(.ref a)])) (fun _ k => XS.aloadN X0.here hx rfl (hb hby d5_0) rfl rfl k) ?_
  obtain ⟨T1, X1, e1, st1⟩ := getF X0 hx hZ hown (host := "") (Or.inl (own_w hw 30 rfl)) Via.refl e0 F_tailSize (g := (mkF m 1 #[.val (.ref a), .val (.int v)] [(.ref a)])) rfl rfl (hb hby d5_1)
  refine Goes.on (T' := T1) (g' := (mkF m 5 #[.val (.ref a), .val (.int v)] [(.ref a), (.int (1 : Int32))])) (fun _ k => st1 _ (XS.aloadN X1.here hx rfl (hb hby d5_4) rfl rfl k)) ?_
  obtain ⟨T2, X2, e2, st2⟩ := getF X1 hx hZ hown (host := "") (Or.inl (own_w hw 18 rfl)) Via.refl e1 F_tail (g := (mkF m 5 #[.val (.ref a), .val (.int v)] [(.ref a), (.int (1 : Int32))])) rfl rfl (hb hby d5_5)
  refine Goes.on (T' := T2) (g' := (mkF m 13 #[.val (.ref a), .val (.int v)] [(.ref a)])) (fun _ k => st2 _ (aLenm X2 hx hZ e2 BT (hb hby d5_8) (XS.icmpNo X2.here hx rfl (hb hby d5_9) rfl (XT.ii_ne_f (by decide)) (XS.aloadN X2.here hx rfl (hb hby d5_12) rfl rfl k)))) ?_
  refine Goes.callP X2 hx hZ 0 hown (own_w hw 34 rfl) (own_w hw 35 rfl) (own_w hw 36 rfl) (own_w hw 1 rfl) (own_w hw 2 rfl) (own_w hw 37 rfl) (by decide) e2 E0 (rmR1 l Z a0 hw a t b (1 : Int32) sz f h0 n0 Z0 E0 F_tail F_blocks F_tailSize F_size Et Eb BB ga gt gb BT) (by decide) (by decide) (by decide) (by decide) rfl (by rw [hml]; rfl) (argsL := []) (rest := []) rfl (lenOf pd_2 rfl) rfl (by show 2 * 0 + _ ≤ _; exact Nat.le_of_eq rfl) (hb hby d5_13) ?_
  intro v4 T4 L4 X4 hQ4
  obtain ⟨r, rfl, M4, N4q, K4, A4, Ft4, Fb4, Fk4, Fs4, Er4, Eb4, BB4, BT4⟩ := hQ4
  have N4 := Fr.app N0 N4q
  show Goes p e below _ T4 (mkF m 16 #[.val (.ref a), .val (.int v)] [])
  have nr : n0 ≤ r := Nat.le_trans Z0 M4
  have mr : h0.size ≤ r := Nat.le_trans K0.1 M4
  have nar : a ≠ r := Nat.ne_of_lt (Nat.lt_of_lt_of_le (E0).lt M4)
  have nbr : b ≠ r := Nat.ne_of_lt (Nat.lt_of_lt_of_le (Eb).lt M4)
  have K8 := K0.trans K4 (allS (Or.inl (List.mem_of_getElem? (i := 0) rfl)) (allS (Or.inl (List.mem_of_getElem? (i := 1) rfl)) all0))
  refine Goes.on (T' := T4) (g' := (mkF m 17 #[.val (.ref a), .val (.int v)] [(.ref a)])) (fun _ k => XS.aloadN X4.here hx rfl (hb hby d5_16) rfl rfl k) ?_
  obtain ⟨T9, X9, e9, st9⟩ := getF X4 hx hZ hown (host := "") (Or.inl (own_w hw 18 rfl)) Via.refl rfl Ft4 (g := (mkF m 17 #[.val (.ref a), .val (.int v)] [(.ref a)])) rfl rfl (hb hby d5_17)
  refine Goes.on (T' := T9) (g' := (mkF m 21 #[.val (.ref a), .val (.int v)] [(.ref a), (.ref r)])) (fun _ k => st9 _ (XS.aloadN X9.here hx rfl (hb hby d5_20) rfl rfl k)) ?_
  obtain ⟨T10, X10, e10, st10⟩ := getF X9 hx hZ hown (host := "") (Or.inl (own_w hw 30 rfl)) Via.refl e9 Fk4 (g := (mkF m 21 #[.val (.ref a), .val (.int v)] [(.ref a), (.ref r)])) rfl rfl (hb hby d5_21)
  refine Goes.on (T' := T10) (g' := (mkF m 25 #[.val (.ref a), .val (.int v)] [(.int v), (.int (1 : Int32)), (.ref r)])) (fun _ k => st10 _ (XS.iloadN X10.here hx rfl (hb hby d5_24) rfl k)) ?_
  obtain ⟨T11, h11, X11, e11, W11, B11, st11⟩ := wrI X10 hx hZ e10 BT4 (by decide)  (g := (mkF m 25 #[.val (.ref a), .val (.int v)] [(.int v), (.int (1 : Int32)), (.ref r)])) rfl rfl (hb hby d5_25)
  have N11 := Fr.snoc X11 N4 nr
  have C12 := A4.wr W11
  have C13 := Eb4.wr W11
  have C14 := Er4.wr W11
  have C15 := Ft4.other W11 (Or.inl nar)
  have C16 := Fb4.other W11 (Or.inl nar)
  have C17 := Fk4.other W11 (Or.inl nar)
  have C18 := Fs4.other W11 (Or.inl nar)
  have C19 := BB4.other W11 nbr
  have K21 := K8.wr W11 (Or.inr mr)
  have B11 : Arf Z h11 r .int Value.int 2 (Upd (fun i => if i < 1 then f i else (fun _ => (0 : Int32)) i) 1 v) := B11
  refine Goes.on (T' := T11) (g' := (mkF m 28 #[.val (.ref a), .val (.int v)] [(.ref a), (.ref a)])) (fun _ k => st11 _ (XS.aloadN X11.here hx rfl (hb hby d5_26) rfl rfl (XS.dup X11.here hx rfl (hb hby d5_27) rfl rfl k))) ?_
  obtain ⟨T22, X22, e22, st22⟩ := getF X11 hx hZ hown (host := "") (Or.inl (own_w hw 30 rfl)) Via.refl e11 C17 (g := (mkF m 28 #[.val (.ref a), .val (.int v)] [(.ref a), (.ref a)])) rfl rfl (hb hby d5_28)
  refine Goes.on (T' := T22) (g' := (mkF m 33 #[.val (.ref a), .val (.int v)] [(.int (2 : Int32)), (.ref a)])) (fun _ k => st22 _ (XS.iconst X22.here hx rfl (hb hby d5_31) (XS.iadd X22.here hx rfl (hb hby d5_32) rfl k))) ?_
  obtain ⟨T23, h23, X23, e23, W23, st23⟩ := putF X22 hx hZ hown (host := "") (Or.inl (own_w hw 30 rfl)) Via.refl e22 C17 C12 (Or.inl (own_w hw 31 rfl)) (own_w hw 1 rfl) (ty := .int) (by decide) rfl rfl (g := (mkF m 33 #[.val (.ref a), .val (.int v)] [(.int (2 : Int32)), (.ref a)])) rfl rfl (hb hby d5_33)
  have N23 := Fr.snoc X23 N11 ga
  have C24 := C12.wr W23
  have C25 := C13.wr W23
  have C26 := C14.wr W23
  have C27 := C15.other W23 (Or.inr (slot_ne (Or.inl (own_w hw 19 rfl)) (Or.inl (own_w hw 31 rfl)) (by decide) (t := (.array .int)) (by decide) (t' := .int) (by decide)))
  have C28 := C16.other W23 (Or.inr (slot_ne (Or.inl (own_w hw 24 rfl)) (Or.inl (own_w hw 31 rfl)) (by decide) (t := (.array (.array .int))) (by decide) (t' := .int) (by decide)))
  have C29 := C17.same W23
  have C30 := C18.other W23 (Or.inr (slot_ne (Or.inl (own_w hw 33 rfl)) (Or.inl (own_w hw 31 rfl)) (by decide) (t := .int) (by decide) (t' := .int) (by decide)))
  have C31 := C19.other W23 nab_.symm
  have C32 := B11.other W23 nar.symm
  have K34 := K21.wr W23 (Or.inl (List.mem_of_getElem? (i := 0) rfl))
  refine Goes.on (T' := T23) (g' := (mkF m 38 #[.val (.ref a), .val (.int v)] [(.ref a), (.ref a)])) (fun _ k => st23 _ (XS.aloadN X23.here hx rfl (hb hby d5_36) rfl rfl (XS.dup X23.here hx rfl (hb hby d5_37) rfl rfl k))) ?_
  obtain ⟨T35, X35, e35, st35⟩ := getF X23 hx hZ hown (host := "") (Or.inl (own_w hw 32 rfl)) Via.refl e23 C30 (g := (mkF m 38 #[.val (.ref a), .val (.int v)] [(.ref a), (.ref a)])) rfl rfl (hb hby d5_38)
  refine Goes.on (T' := T35) (g' := (mkF m 43 #[.val (.ref a), .val (.int v)] [(.int (sz + (1 : Int32))), (.ref a)])) (fun _ k => st35 _ (XS.iconst X35.here hx rfl (hb hby d5_41) (XS.iadd X35.here hx rfl (hb hby d5_42) rfl k))) ?_
  obtain ⟨T36, h36, X36, e36, W36, st36⟩ := putF X35 hx hZ hown (host := "") (Or.inl (own_w hw 32 rfl)) Via.refl e35 C30 C24 (Or.inl (own_w hw 33 rfl)) (own_w hw 1 rfl) (ty := .int) (by decide) rfl rfl (g := (mkF m 43 #[.val (.ref a), .val (.int v)] [(.int (sz + (1 : Int32))), (.ref a)])) rfl rfl (hb hby d5_43)
  have N36 := Fr.snoc X36 N23 ga
  have C37 := C24.wr W36
  have C38 := C25.wr W36
  have C39 := C26.wr W36
  have C40 := C27.other W36 (Or.inr (slot_ne (Or.inl (own_w hw 19 rfl)) (Or.inl (own_w hw 33 rfl)) (by decide) (t := (.array .int)) (by decide) (t' := .int) (by decide)))
  have C41 := C28.other W36 (Or.inr (slot_ne (Or.inl (own_w hw 24 rfl)) (Or.inl (own_w hw 33 rfl)) (by decide) (t := (.array (.array .int))) (by decide) (t' := .int) (by decide)))
  have C42 := C29.other W36 (Or.inr (slot_ne (Or.inl (own_w hw 31 rfl)) (Or.inl (own_w hw 33 rfl)) (by decide) (t := .int) (by decide) (t' := .int) (by decide)))
  have C43 := C30.same W36
  have C44 := C31.other W36 nab_.symm
  have C45 := C32.other W36 nar.symm
  have K47 := K34.wr W36 (Or.inl (List.mem_of_getElem? (i := 0) rfl))
  refine Goes.on (T' := T36) (g' := (mkF m 46 #[.val (.ref a), .val (.int v)] [])) (fun _ k => st36 _ k) ?_
  exact Goes.retV X36 hx hlk hret (hb hby d5_46) (by decide) (by decide) (by rw [e36]; exact ⟨r, rfl, mr, N36, K47, C37, C40, C41, C42, C43, C39, C38, (Blk.one C44 rfl), C45⟩)
set_option maxRecDepth 65536 in
set_option maxHeartbeats 40000000 in
theorem rmG2 (l : Launch) (Z : State) (a0 : Array Value) (hw : ∀ d ∈ tables_1, d.before a0 Z = true) (a : Addr) (v : Int32) (t b : Addr) (sz : Int32) (f : Nat → Int32) (h0 : Heap) (n0 : Nat) (Z0 : n0 ≤ h0.size) (E0 : Exa Z h0 a "com/example/arcbind/arcbind/IntBlocks") (F_tail : Fld Z h0 a "com/example/arcbind/arcbind/IntBlocks" "tail" "[I" (.ref t)) (F_blocks : Fld Z h0 a "com/example/arcbind/arcbind/IntBlocks" "blocks" "[[I" (.ref b)) (F_tailSize : Fld Z h0 a "com/example/arcbind/arcbind/IntBlocks" "tailSize" "I" (.int (2 : Int32))) (F_size : Fld Z h0 a "com/example/arcbind/arcbind/IntBlocks" "size" "I" (.int sz)) (Et : Exa Z h0 t "[I") (Eb : Exa Z h0 b "[[I") (BB : Blk Z h0 b .int "[I" 1 (fun _ => .ref t)) (ga : n0 ≤ a) (gt : n0 ≤ t) (gb : n0 ≤ b) (BT : Arf Z h0 t .int Value.int 2 f) :
    Pays l Z (⟨"com/example/arcbind/arcbind/IntBlocks", "add", "(I)V"⟩ : MethodName) prog_14_method_3_code 2 none [] ({ frames := 3, cells := 1, slots := 4, locals := 90 } : Room) #[(.ref a), (.int v)] h0 (fun v_ h L => ∃ r, v_ = none ∧ h0.size ≤ r ∧ Fr n0 L ∧ Keep h0 h [a, b] ∧ Exa Z h a "com/example/arcbind/arcbind/IntBlocks" ∧ Fld Z h a "com/example/arcbind/arcbind/IntBlocks" "tail" "[I" (.ref r) ∧ Fld Z h a "com/example/arcbind/arcbind/IntBlocks" "blocks" "[[I" (.ref b) ∧ Fld Z h a "com/example/arcbind/arcbind/IntBlocks" "tailSize" "I" (.int (3 : Int32)) ∧ Fld Z h a "com/example/arcbind/arcbind/IntBlocks" "size" "I" (.int (sz + (1 : Int32))) ∧ Exa Z h r "[I" ∧ Exa Z h b "[[I" ∧ Blk Z h b .int "[I" 1 (fun _ => .ref r) ∧ Arf Z h r .int Value.int 4 (Upd (fun i => if i < 2 then f i else (fun _ => (0 : Int32)) i) 2 v)) := by
  refine Pays.walk (plainFor_of_name pn_1) (fun m => ef_3 m a v ) ?_
  intro p e s m below meth c T0 X0 hx hby hml hown hnm hZ e0 hret hlk
  have N0 := Fr.nil n0
  have nat_ : a ≠ t := ne_exa E0 Et (by decide)
  have nab_ : a ≠ b := ne_exa E0 Eb (by decide)
  have nbt_ : b ≠ t := ne_exa Eb Et (by decide)
  have K0 := Keep.refl h0 [a, b]
  refine Goes.on (T' := T0) (g' := (mkF m 1 #[.val (.ref a), .val (.int v)] [(.ref a)])) (fun _ k => XS.aloadN X0.here hx rfl (hb hby d5_0) rfl rfl k) ?_
  obtain ⟨T1, X1, e1, st1⟩ := getF X0 hx hZ hown (host := "") (Or.inl (own_w hw 30 rfl)) Via.refl e0 F_tailSize (g := (mkF m 1 #[.val (.ref a), .val (.int v)] [(.ref a)])) rfl rfl (hb hby d5_1)
  refine Goes.on (T' := T1) (g' := (mkF m 5 #[.val (.ref a), .val (.int v)] [(.ref a), (.int (2 : Int32))])) (fun _ k => st1 _ (XS.aloadN X1.here hx rfl (hb hby d5_4) rfl rfl k)) ?_
  obtain ⟨T2, X2, e2, st2⟩ := getF X1 hx hZ hown (host := "") (Or.inl (own_w hw 18 rfl)) Via.refl e1 F_tail (g := (mkF m 5 #[.val (.ref a), .val (.int v)] [(.ref a), (.int (2 : Int32))])) rfl rfl (hb hby d5_5)
  refine Goes.on (T' := T2) (g' := (mkF m 13 #[.val (.ref a), .val (.int v)] [(.ref a)])) (fun _ k => st2 _ (aLenm X2 hx hZ e2 BT (hb hby d5_8) (XS.icmpNo X2.here hx rfl (hb hby d5_9) rfl (XT.ii_ne_f (by decide)) (XS.aloadN X2.here hx rfl (hb hby d5_12) rfl rfl k)))) ?_
  refine Goes.callP X2 hx hZ 0 hown (own_w hw 34 rfl) (own_w hw 35 rfl) (own_w hw 36 rfl) (own_w hw 1 rfl) (own_w hw 2 rfl) (own_w hw 37 rfl) (by decide) e2 E0 (rmR2 l Z a0 hw a t b (2 : Int32) sz f h0 n0 Z0 E0 F_tail F_blocks F_tailSize F_size Et Eb BB ga gt gb BT) (by decide) (by decide) (by decide) (by decide) rfl (by rw [hml]; rfl) (argsL := []) (rest := []) rfl (lenOf pd_2 rfl) rfl (by show 2 * 0 + _ ≤ _; exact Nat.le_of_eq rfl) (hb hby d5_13) ?_
  intro v4 T4 L4 X4 hQ4
  obtain ⟨r, rfl, M4, N4q, K4, A4, Ft4, Fb4, Fk4, Fs4, Er4, Eb4, BB4, BT4⟩ := hQ4
  have N4 := Fr.app N0 N4q
  show Goes p e below _ T4 (mkF m 16 #[.val (.ref a), .val (.int v)] [])
  have nr : n0 ≤ r := Nat.le_trans Z0 M4
  have mr : h0.size ≤ r := Nat.le_trans K0.1 M4
  have nar : a ≠ r := Nat.ne_of_lt (Nat.lt_of_lt_of_le (E0).lt M4)
  have nbr : b ≠ r := Nat.ne_of_lt (Nat.lt_of_lt_of_le (Eb).lt M4)
  have K8 := K0.trans K4 (allS (Or.inl (List.mem_of_getElem? (i := 0) rfl)) (allS (Or.inl (List.mem_of_getElem? (i := 1) rfl)) all0))
  refine Goes.on (T' := T4) (g' := (mkF m 17 #[.val (.ref a), .val (.int v)] [(.ref a)])) (fun _ k => XS.aloadN X4.here hx rfl (hb hby d5_16) rfl rfl k) ?_
  obtain ⟨T9, X9, e9, st9⟩ := getF X4 hx hZ hown (host := "") (Or.inl (own_w hw 18 rfl)) Via.refl rfl Ft4 (g := (mkF m 17 #[.val (.ref a), .val (.int v)] [(.ref a)])) rfl rfl (hb hby d5_17)
  refine Goes.on (T' := T9) (g' := (mkF m 21 #[.val (.ref a), .val (.int v)] [(.ref a), (.ref r)])) (fun _ k => st9 _ (XS.aloadN X9.here hx rfl (hb hby d5_20) rfl rfl k)) ?_
  obtain ⟨T10, X10, e10, st10⟩ := getF X9 hx hZ hown (host := "") (Or.inl (own_w hw 30 rfl)) Via.refl e9 Fk4 (g := (mkF m 21 #[.val (.ref a), .val (.int v)] [(.ref a), (.ref r)])) rfl rfl (hb hby d5_21)
  refine Goes.on (T' := T10) (g' := (mkF m 25 #[.val (.ref a), .val (.int v)] [(.int v), (.int (2 : Int32)), (.ref r)])) (fun _ k => st10 _ (XS.iloadN X10.here hx rfl (hb hby d5_24) rfl k)) ?_
  obtain ⟨T11, h11, X11, e11, W11, B11, st11⟩ := wrI X10 hx hZ e10 BT4 (by decide)  (g := (mkF m 25 #[.val (.ref a), .val (.int v)] [(.int v), (.int (2 : Int32)), (.ref r)])) rfl rfl (hb hby d5_25)
  have N11 := Fr.snoc X11 N4 nr
  have C12 := A4.wr W11
  have C13 := Eb4.wr W11
  have C14 := Er4.wr W11
  have C15 := Ft4.other W11 (Or.inl nar)
  have C16 := Fb4.other W11 (Or.inl nar)
  have C17 := Fk4.other W11 (Or.inl nar)
  have C18 := Fs4.other W11 (Or.inl nar)
  have C19 := BB4.other W11 nbr
  have K21 := K8.wr W11 (Or.inr mr)
  have B11 : Arf Z h11 r .int Value.int 4 (Upd (fun i => if i < 2 then f i else (fun _ => (0 : Int32)) i) 2 v) := B11
  refine Goes.on (T' := T11) (g' := (mkF m 28 #[.val (.ref a), .val (.int v)] [(.ref a), (.ref a)])) (fun _ k => st11 _ (XS.aloadN X11.here hx rfl (hb hby d5_26) rfl rfl (XS.dup X11.here hx rfl (hb hby d5_27) rfl rfl k))) ?_
  obtain ⟨T22, X22, e22, st22⟩ := getF X11 hx hZ hown (host := "") (Or.inl (own_w hw 30 rfl)) Via.refl e11 C17 (g := (mkF m 28 #[.val (.ref a), .val (.int v)] [(.ref a), (.ref a)])) rfl rfl (hb hby d5_28)
  refine Goes.on (T' := T22) (g' := (mkF m 33 #[.val (.ref a), .val (.int v)] [(.int (3 : Int32)), (.ref a)])) (fun _ k => st22 _ (XS.iconst X22.here hx rfl (hb hby d5_31) (XS.iadd X22.here hx rfl (hb hby d5_32) rfl k))) ?_
  obtain ⟨T23, h23, X23, e23, W23, st23⟩ := putF X22 hx hZ hown (host := "") (Or.inl (own_w hw 30 rfl)) Via.refl e22 C17 C12 (Or.inl (own_w hw 31 rfl)) (own_w hw 1 rfl) (ty := .int) (by decide) rfl rfl (g := (mkF m 33 #[.val (.ref a), .val (.int v)] [(.int (3 : Int32)), (.ref a)])) rfl rfl (hb hby d5_33)
  have N23 := Fr.snoc X23 N11 ga
  have C24 := C12.wr W23
  have C25 := C13.wr W23
  have C26 := C14.wr W23
  have C27 := C15.other W23 (Or.inr (slot_ne (Or.inl (own_w hw 19 rfl)) (Or.inl (own_w hw 31 rfl)) (by decide) (t := (.array .int)) (by decide) (t' := .int) (by decide)))
  have C28 := C16.other W23 (Or.inr (slot_ne (Or.inl (own_w hw 24 rfl)) (Or.inl (own_w hw 31 rfl)) (by decide) (t := (.array (.array .int))) (by decide) (t' := .int) (by decide)))
  have C29 := C17.same W23
  have C30 := C18.other W23 (Or.inr (slot_ne (Or.inl (own_w hw 33 rfl)) (Or.inl (own_w hw 31 rfl)) (by decide) (t := .int) (by decide) (t' := .int) (by decide)))
  have C31 := C19.other W23 nab_.symm
  have C32 := B11.other W23 nar.symm
  have K34 := K21.wr W23 (Or.inl (List.mem_of_getElem? (i := 0) rfl))
  refine Goes.on (T' := T23) (g' := (mkF m 38 #[.val (.ref a), .val (.int v)] [(.ref a), (.ref a)])) (fun _ k => st23 _ (XS.aloadN X23.here hx rfl (hb hby d5_36) rfl rfl (XS.dup X23.here hx rfl (hb hby d5_37) rfl rfl k))) ?_
  obtain ⟨T35, X35, e35, st35⟩ := getF X23 hx hZ hown (host := "") (Or.inl (own_w hw 32 rfl)) Via.refl e23 C30 (g := (mkF m 38 #[.val (.ref a), .val (.int v)] [(.ref a), (.ref a)])) rfl rfl (hb hby d5_38)
  refine Goes.on (T' := T35) (g' := (mkF m 43 #[.val (.ref a), .val (.int v)] [(.int (sz + (1 : Int32))), (.ref a)])) (fun _ k => st35 _ (XS.iconst X35.here hx rfl (hb hby d5_41) (XS.iadd X35.here hx rfl (hb hby d5_42) rfl k))) ?_
  obtain ⟨T36, h36, X36, e36, W36, st36⟩ := putF X35 hx hZ hown (host := "") (Or.inl (own_w hw 32 rfl)) Via.refl e35 C30 C24 (Or.inl (own_w hw 33 rfl)) (own_w hw 1 rfl) (ty := .int) (by decide) rfl rfl (g := (mkF m 43 #[.val (.ref a), .val (.int v)] [(.int (sz + (1 : Int32))), (.ref a)])) rfl rfl (hb hby d5_43)
  have N36 := Fr.snoc X36 N23 ga
  have C37 := C24.wr W36
  have C38 := C25.wr W36
  have C39 := C26.wr W36
  have C40 := C27.other W36 (Or.inr (slot_ne (Or.inl (own_w hw 19 rfl)) (Or.inl (own_w hw 33 rfl)) (by decide) (t := (.array .int)) (by decide) (t' := .int) (by decide)))
  have C41 := C28.other W36 (Or.inr (slot_ne (Or.inl (own_w hw 24 rfl)) (Or.inl (own_w hw 33 rfl)) (by decide) (t := (.array (.array .int))) (by decide) (t' := .int) (by decide)))
  have C42 := C29.other W36 (Or.inr (slot_ne (Or.inl (own_w hw 31 rfl)) (Or.inl (own_w hw 33 rfl)) (by decide) (t := .int) (by decide) (t' := .int) (by decide)))
  have C43 := C30.same W36
  have C44 := C31.other W36 nab_.symm
  have C45 := C32.other W36 nar.symm
  have K47 := K34.wr W36 (Or.inl (List.mem_of_getElem? (i := 0) rfl))
  refine Goes.on (T' := T36) (g' := (mkF m 46 #[.val (.ref a), .val (.int v)] [])) (fun _ k => st36 _ k) ?_
  exact Goes.retV X36 hx hlk hret (hb hby d5_46) (by decide) (by decide) (by rw [e36]; exact ⟨r, rfl, mr, N36, K47, C37, C40, C41, C42, C43, C39, C38, (Blk.one C44 rfl), C45⟩)
theorem d1_0 : decode prog_14_method_2_code 0 = .ok (.aload_n 0, 1) := by decide +kernel
theorem d1_1 : decode prog_14_method_2_code 1 = .ok (.invokespecial 7, 3) := by decide +kernel
theorem d1_4 : decode prog_14_method_2_code 4 = .ok (.aload_n 0, 1) := by decide +kernel
theorem d1_5 : decode prog_14_method_2_code 5 = .ok (.iconst 1, 1) := by decide +kernel
theorem d1_6 : decode prog_14_method_2_code 6 = .ok (.iload_n 1, 1) := by decide +kernel
theorem d1_7 : decode prog_14_method_2_code 7 = .ok (.ldc 12, 2) := by decide +kernel
theorem d1_9 : decode prog_14_method_2_code 9 = .ok (.invokestatic 13, 3) := by decide +kernel
theorem d1_12 : decode prog_14_method_2_code 12 = .ok (.invokestatic 19, 3) := by decide +kernel
theorem d1_15 : decode prog_14_method_2_code 15 = .ok (.newarray .int, 2) := by decide +kernel
theorem d1_17 : decode prog_14_method_2_code 17 = .ok (.putfield 22, 3) := by decide +kernel
theorem d1_20 : decode prog_14_method_2_code 20 = .ok (.aload_n 0, 1) := by decide +kernel
theorem d1_21 : decode prog_14_method_2_code 21 = .ok (.iconst 1, 1) := by decide +kernel
theorem d1_22 : decode prog_14_method_2_code 22 = .ok (.anewarray 26, 3) := by decide +kernel
theorem d1_25 : decode prog_14_method_2_code 25 = .ok (.dup, 1) := by decide +kernel
theorem d1_26 : decode prog_14_method_2_code 26 = .ok (.iconst 0, 1) := by decide +kernel
theorem d1_27 : decode prog_14_method_2_code 27 = .ok (.aload_n 0, 1) := by decide +kernel
theorem d1_28 : decode prog_14_method_2_code 28 = .ok (.getfield 22, 3) := by decide +kernel
theorem d1_31 : decode prog_14_method_2_code 31 = .ok (.aastore, 1) := by decide +kernel
theorem d1_32 : decode prog_14_method_2_code 32 = .ok (.putfield 27, 3) := by decide +kernel
theorem d1_35 : decode prog_14_method_2_code 35 = .ok (.return_, 1) := by decide +kernel
set_option maxRecDepth 65536 in
set_option maxHeartbeats 40000000 in
theorem rmC (l : Launch) (Z : State) (a0 : Array Value) (hw : ∀ d ∈ tables_1, d.before a0 Z = true) (a : Addr) (x1 : Int32) (h0 : Heap) (n0 : Nat) (Z0 : n0 ≤ h0.size) (E0 : Exa Z h0 a "com/example/arcbind/arcbind/IntBlocks") (ga : n0 ≤ a) (F_tail : Fld Z h0 a "com/example/arcbind/arcbind/IntBlocks" "tail" "[I" .null) (F_blocks : Fld Z h0 a "com/example/arcbind/arcbind/IntBlocks" "blocks" "[[I" .null) (F_tailSize : Fld Z h0 a "com/example/arcbind/arcbind/IntBlocks" "tailSize" "I" (.int (0 : Int32))) (F_size : Fld Z h0 a "com/example/arcbind/arcbind/IntBlocks" "size" "I" (.int (0 : Int32))) :
    Pays l Z (⟨"com/example/arcbind/arcbind/IntBlocks", "<init>", "(I)V"⟩ : MethodName) prog_14_method_2_code 2 none [] ({ frames := 1, cells := 2, slots := 32769, locals := 20 } : Room) #[(.ref a), (.int x1)] h0 (fun v h L => ∃ t b, v = none ∧ h0.size ≤ t ∧ h0.size ≤ b ∧ Fr n0 L ∧ Keep h0 h [a] ∧ Exa Z h a "com/example/arcbind/arcbind/IntBlocks" ∧ Fld Z h a "com/example/arcbind/arcbind/IntBlocks" "tail" "[I" (.ref t) ∧ Fld Z h a "com/example/arcbind/arcbind/IntBlocks" "blocks" "[[I" (.ref b) ∧ Fld Z h a "com/example/arcbind/arcbind/IntBlocks" "tailSize" "I" (.int (0 : Int32)) ∧ Fld Z h a "com/example/arcbind/arcbind/IntBlocks" "size" "I" (.int (0 : Int32)) ∧ Exa Z h t "[I" ∧ Exa Z h b "[[I" ∧ Blk Z h b .int "[I" 1 (fun _ => .ref t) ∧ Arf Z h t .int Value.int (FMx (1 : Int32) (FMn x1 (32768 : Int32))).toNatClampNeg (fun _ => (0 : Int32))) := by
  refine Pays.walk (plainFor_of_name pn_1) (fun m => ef_3 m a x1 ) ?_
  intro p e s m below meth c T0 X0 hx hby hml hown hnm hZ e0 hret hlk
  have N0 := Fr.nil n0
  have K0 := Keep.refl h0 [a]
  refine Goes.on (T' := T0) (g' := (mkF m 1 #[.val (.ref a), .val (.int x1)] [(.ref a)])) (fun _ k => XS.aloadN X0.here hx rfl (hb hby d1_0) rfl rfl k) ?_
  obtain ⟨T1, X1, e1, st1⟩ := initO X0 hx hZ hown (own_w hw 6 rfl) (own_w hw 7 rfl) (own_w hw 8 rfl) e0 (g := (mkF m 1 #[.val (.ref a), .val (.int x1)] [(.ref a)])) rfl (by rw [hml]; rfl) rfl (hb hby d1_1) (by decide) (W := 0) (by show 2 * 0 + _ ≤ _; exact Nat.le_of_eq rfl) (by decide)
  refine Goes.on (T' := T1) (g' := (mkF m 9 #[.val (.ref a), .val (.int x1)] [(.int (32768 : Int32)), (.int x1), (.int (1 : Int32)), (.ref a)])) (fun _ k => st1 _ (XS.aloadN X1.here hx rfl (hb hby d1_4) rfl rfl (XS.iconst X1.here hx rfl (hb hby d1_5) (XS.iloadN X1.here hx rfl (hb hby d1_6) rfl (X1.ldcInt hx hown (mvT hZ (own_w hw 9 rfl)) (g := (mkF m 7 #[.val (.ref a), .val (.int x1)] [(.int x1), (.int (1 : Int32)), (.ref a)])) rfl (hb hby d1_7) _ k))))) ?_
  refine Goes.callS X1 hx hZ 2 hown (own_w hw 10 rfl) (own_w hw 11 rfl) (own_w hw 12 rfl) (own_w hw 13 rfl) (by decide) e1 (rmMn l Z a0 hw x1 (32768 : Int32) h0 n0 Z0) (by decide) (by decide) (by decide) (by decide) rfl (by rw [hml]; rfl) (argsL := [(.int x1), (.int (32768 : Int32))]) (rest := [(.int (1 : Int32)), (.ref a)]) rfl (lenOf pd_0 rfl) rfl (by show 2 * 0 + _ ≤ _; exact Nat.le_of_eq rfl) (hb hby d1_9) ?_
  intro v2 T2 L2 X2 hQ2
  obtain ⟨rfl, N2q, e2⟩ := hQ2
  have N2 := Fr.app N0 N2q
  show Goes p e below _ T2 (mkF m 12 #[.val (.ref a), .val (.int x1)] [(.int (FMn x1 (32768 : Int32))), (.int (1 : Int32)), (.ref a)])
  refine Goes.callS X2 hx hZ 1 hown (own_w hw 14 rfl) (own_w hw 15 rfl) (own_w hw 12 rfl) (own_w hw 16 rfl) (by decide) e2 (rmMx l Z a0 hw (1 : Int32) (FMn x1 (32768 : Int32)) h0 n0 Z0) (by decide) (by decide) (by decide) (by decide) rfl (by rw [hml]; rfl) (argsL := [(.int (1 : Int32)), (.int (FMn x1 (32768 : Int32)))]) (rest := [(.ref a)]) rfl (lenOf pd_0 rfl) rfl (by show 2 * 0 + _ ≤ _; exact Nat.le_of_eq rfl) (hb hby d1_12) ?_
  intro v3 T3 L3 X3 hQ3
  obtain ⟨rfl, N3q, e3⟩ := hQ3
  have N3 := Fr.app N2 N3q
  show Goes p e below _ T3 (mkF m 15 #[.val (.ref a), .val (.int x1)] [(.int (FMx (1 : Int32) (FMn x1 (32768 : Int32)))), (.ref a)])
  have hN := own_cap x1
  obtain ⟨T4, h4, cA4, X4, e4, E4, A4, J4, st4⟩ := newPE X3 hx hZ (own_w hw 17 rfl) e3 (g := (mkF m 15 #[.val (.ref a), .val (.int x1)] [(.int (FMx (1 : Int32) (FMn x1 (32768 : Int32)))), (.ref a)])) rfl (hb hby d1_15) rfl hN.1 (cap := 32768) hN.2 (by decide) (by decide) (by decide) (ad := "[I") (by decide)
  obtain ⟨a4, g4⟩ : ∃ z, z = h0.size := ⟨_, rfl⟩
  rw [← g4] at A4 J4 st4
  have M4 : h0.size ≤ a4 := Nat.le_trans K0.1 (Nat.le_of_eq g4.symm)
  have C5 := E0.ext E4
  have C6 := F_tail.ext E4
  have C7 := F_blocks.ext E4
  have C8 := F_tailSize.ext E4
  have C9 := F_size.ext E4
  have ne10 : a ≠ a4 := Nat.ne_of_lt (Nat.lt_of_lt_of_le (E0).lt (Nat.le_of_eq g4.symm))
  have Z11 : n0 ≤ h4.size := Nat.le_trans Z0 E4.1
  have K12 := K0.ext E4
  have B4 : Arf Z h4 a4 .int Value.int ((FMx (1 : Int32) (FMn x1 (32768 : Int32)))).toNatClampNeg (fun _ => (0 : Int32)) := Arf.new A4 rfl
  refine Goes.on (T' := T4) (g' := (mkF m 17 #[.val (.ref a), .val (.int x1)] [(.ref a4), (.ref a)])) (fun _ k => st4 _ k) ?_
  obtain ⟨T13, h13, X13, e13, W13, st13⟩ := putF X4 hx hZ hown (host := "") (Or.inl (own_w hw 18 rfl)) Via.refl e4 C6 C5 (Or.inl (own_w hw 19 rfl)) (own_w hw 1 rfl) (ty := (.array .int)) (by decide) rfl rfl (g := (mkF m 17 #[.val (.ref a), .val (.int x1)] [(.ref a4), (.ref a)])) rfl rfl (hb hby d1_17)
  have N13 := Fr.snoc X13 N3 ga
  have C14 := C5.wr W13
  have C15 := C6.same W13
  have C16 := C7.other W13 (Or.inr (slot_ne (Or.inl (own_w hw 24 rfl)) (Or.inl (own_w hw 19 rfl)) (by decide) (t := (.array (.array .int))) (by decide) (t' := (.array .int)) (by decide)))
  have C17 := C8.other W13 (Or.inr (slot_ne (Or.inl (own_w hw 31 rfl)) (Or.inl (own_w hw 19 rfl)) (by decide) (t := .int) (by decide) (t' := (.array .int)) (by decide)))
  have C18 := C9.other W13 (Or.inr (slot_ne (Or.inl (own_w hw 33 rfl)) (Or.inl (own_w hw 19 rfl)) (by decide) (t := .int) (by decide) (t' := (.array .int)) (by decide)))
  have C19 := J4.wr W13
  have C20 := B4.other W13 ne10.symm
  have Z21 : n0 ≤ h13.size := by rw [W13.size]; exact Z11
  have K22 := K12.wr W13 (Or.inl (List.mem_of_getElem? (i := 0) rfl))
  refine Goes.on (T' := T13) (g' := (mkF m 22 #[.val (.ref a), .val (.int x1)] [(.int (1 : Int32)), (.ref a)])) (fun _ k => st13 _ (XS.aloadN X13.here hx rfl (hb hby d1_20) rfl rfl (XS.iconst X13.here hx rfl (hb hby d1_21) k))) ?_
  obtain ⟨T23, h23, cA23, X23, e23, E23, A23, J23, O23, st23⟩ := newRA X13 hx hZ hown (C := "[I") (ty := .int) (by decide) (own_w hw 20 rfl) (own_w hw 21 rfl) e13 (g := (mkF m 22 #[.val (.ref a), .val (.int x1)] [(.int (1 : Int32)), (.ref a)])) rfl (hb hby d1_22) rfl (by decide) (cap := 1) (by decide) (by decide) (by decide) (by decide) (ad := "[[I") (by decide)
  obtain ⟨a23, g23⟩ : ∃ z, z = h13.size := ⟨_, rfl⟩
  rw [← g23] at A23 J23 st23
  have M23 : h0.size ≤ a23 := Nat.le_trans K22.1 (Nat.le_of_eq g23.symm)
  have C24 := C14.ext E23
  have C25 := C15.ext E23
  have C26 := C16.ext E23
  have C27 := C17.ext E23
  have C28 := C18.ext E23
  have C29 := C19.ext E23
  have C30 := C20.ext E23
  have ne31 : a ≠ a23 := Nat.ne_of_lt (Nat.lt_of_lt_of_le (C14).lt (Nat.le_of_eq g23.symm))
  have ne32 : a4 ≠ a23 := Nat.ne_of_lt (Nat.lt_of_lt_of_le (C19).lt (Nat.le_of_eq g23.symm))
  have K34 := K22.ext E23
  have B23 : Blk Z h23 a23 .int "[I" 1 (fun _ => .null) := Blk.new A23 O23
  have G23 : n0 ≤ a23 := Nat.le_trans Z21 (Nat.le_of_eq g23.symm)
  refine Goes.on (T' := T23) (g' := (mkF m 28 #[.val (.ref a), .val (.int x1)] [(.ref a), (.int (0 : Int32)), (.ref a23), (.ref a23), (.ref a)])) (fun _ k => st23 _ (XS.dup X23.here hx rfl (hb hby d1_25) rfl rfl (XS.iconst X23.here hx rfl (hb hby d1_26) (XS.aloadN X23.here hx rfl (hb hby d1_27) rfl rfl k)))) ?_
  obtain ⟨T35, X35, e35, st35⟩ := getF X23 hx hZ hown (host := "") (Or.inl (own_w hw 18 rfl)) Via.refl e23 C25 (g := (mkF m 28 #[.val (.ref a), .val (.int x1)] [(.ref a), (.int (0 : Int32)), (.ref a23), (.ref a23), (.ref a)])) rfl rfl (hb hby d1_28)
  refine Goes.on (T' := T35) (g' := (mkF m 31 #[.val (.ref a), .val (.int x1)] [(.ref a4), (.int (0 : Int32)), (.ref a23), (.ref a23), (.ref a)])) (fun _ k => st35 _ k) ?_
  obtain ⟨T36, h36, X36, e36, W36, B36, st36⟩ := wrB X35 hx hZ e35 B23 (Ins.self C29) (by decide) (g := (mkF m 31 #[.val (.ref a), .val (.int x1)] [(.ref a4), (.int (0 : Int32)), (.ref a23), (.ref a23), (.ref a)])) rfl rfl (hb hby d1_31)
  have N36 := Fr.snoc X36 N13 G23
  have C37 := C24.wr W36
  have C38 := C25.other W36 (Or.inl ne31)
  have C39 := C26.other W36 (Or.inl ne31)
  have C40 := C27.other W36 (Or.inl ne31)
  have C41 := C28.other W36 (Or.inl ne31)
  have C42 := C29.wr W36
  have C43 := C30.other W36 ne32
  have C44 := J23.wr W36
  have K46 := K34.wr W36 (Or.inr M23)
  have B36 : Blk Z h36 a23 .int "[I" 1 (Upd (fun _ => .null) 0 (.ref a4)) := B36
  refine Goes.on (T' := T36) (g' := (mkF m 32 #[.val (.ref a), .val (.int x1)] [(.ref a23), (.ref a)])) (fun _ k => st36 _ k) ?_
  obtain ⟨T47, h47, X47, e47, W47, st47⟩ := putF X36 hx hZ hown (host := "") (Or.inl (own_w hw 23 rfl)) Via.refl e36 C39 C37 (Or.inl (own_w hw 24 rfl)) (own_w hw 1 rfl) (ty := (.array (.array .int))) (by decide) rfl rfl (g := (mkF m 32 #[.val (.ref a), .val (.int x1)] [(.ref a23), (.ref a)])) rfl rfl (hb hby d1_32)
  have N47 := Fr.snoc X47 N36 ga
  have C48 := C37.wr W47
  have C49 := C38.other W47 (Or.inr (slot_ne (Or.inl (own_w hw 19 rfl)) (Or.inl (own_w hw 24 rfl)) (by decide) (t := (.array .int)) (by decide) (t' := (.array (.array .int))) (by decide)))
  have C50 := C39.same W47
  have C51 := C40.other W47 (Or.inr (slot_ne (Or.inl (own_w hw 31 rfl)) (Or.inl (own_w hw 24 rfl)) (by decide) (t := .int) (by decide) (t' := (.array (.array .int))) (by decide)))
  have C52 := C41.other W47 (Or.inr (slot_ne (Or.inl (own_w hw 33 rfl)) (Or.inl (own_w hw 24 rfl)) (by decide) (t := .int) (by decide) (t' := (.array (.array .int))) (by decide)))
  have C53 := C42.wr W47
  have C54 := C43.other W47 ne10.symm
  have C55 := C44.wr W47
  have C56 := B36.other W47 ne31.symm
  have K58 := K46.wr W47 (Or.inl (List.mem_of_getElem? (i := 0) rfl))
  refine Goes.on (T' := T47) (g' := (mkF m 35 #[.val (.ref a), .val (.int x1)] [])) (fun _ k => st47 _ k) ?_
  exact Goes.retV X47 hx hlk hret (hb hby d1_35) (by decide) (by decide) (by rw [e47]; exact ⟨a4, a23, rfl, M4, M23, N47, K58, C48, C49, C50, C51, C52, C53, C55, (Blk.one C56 rfl), C54⟩)
theorem d10_0 : decode prog_14_method_5_code 0 = .ok (.aload_n 0, 1) := by decide +kernel
theorem d10_1 : decode prog_14_method_5_code 1 = .ok (.getfield 27, 3) := by decide +kernel
theorem d10_4 : decode prog_14_method_5_code 4 = .ok (.iload_n 1, 1) := by decide +kernel
theorem d10_5 : decode prog_14_method_5_code 5 = .ok (.bipush 15, 2) := by decide +kernel
theorem d10_7 : decode prog_14_method_5_code 7 = .ok (.iushr, 1) := by decide +kernel
theorem d10_8 : decode prog_14_method_5_code 8 = .ok (.aaload, 1) := by decide +kernel
theorem d10_9 : decode prog_14_method_5_code 9 = .ok (.iload_n 1, 1) := by decide +kernel
theorem d10_10 : decode prog_14_method_5_code 10 = .ok (.sipush 32767, 3) := by decide +kernel
theorem d10_13 : decode prog_14_method_5_code 13 = .ok (.iand, 1) := by decide +kernel
theorem d10_14 : decode prog_14_method_5_code 14 = .ok (.iaload, 1) := by decide +kernel
theorem d10_15 : decode prog_14_method_5_code 15 = .ok (.ireturn, 1) := by decide +kernel
set_option maxRecDepth 65536 in
set_option maxHeartbeats 40000000 in
theorem rmT (l : Launch) (Z : State) (a0 : Array Value) (hw : ∀ d ∈ tables_1, d.before a0 Z = true) (a : Addr) (i : Int32) (t b : Addr) (n : Nat) (f : Nat → Int32) (h0 : Heap) (n0 : Nat) (Z0 : n0 ≤ h0.size) (F_blocks : Fld Z h0 a "com/example/arcbind/arcbind/IntBlocks" "blocks" "[[I" (.ref b)) (BB : Blk Z h0 b .int "[I" 1 (fun _ => .ref t)) (BT : Arf Z h0 t .int Value.int n f) (hz : (i.toUInt32 >>> ((15 : Int32) &&& 31).toUInt32).toInt32 = (0 : Int32)) (hi : ¬ (i &&& (32767 : Int32)) < 0 ∧ (i &&& (32767 : Int32)).toNatClampNeg < n) :
    Pays l Z (⟨"com/example/arcbind/arcbind/IntBlocks", "get", "(I)I"⟩ : MethodName) prog_14_method_5_code 2 (some .int) [] ({ frames := 0, cells := 0, slots := 0, locals := 0 } : Room) #[(.ref a), (.int i)] h0 (fun v h L => v = some (.int (f (i &&& (32767 : Int32)).toNatClampNeg)) ∧ Fr n0 L ∧ h = h0) := by
  refine Pays.walk (plainFor_of_name pn_1) (fun m => ef_3 m a i ) ?_
  intro p e s m below meth c T0 X0 hx hby hml hown hnm hZ e0 hret hlk
  have N0 := Fr.nil n0
  refine Goes.on (T' := T0) (g' := (mkF m 1 #[.val (.ref a), .val (.int i)] [(.ref a)])) (fun _ k => XS.aloadN X0.here hx rfl (hb hby d10_0) rfl rfl k) ?_
  obtain ⟨T1, X1, e1, st1⟩ := getF X0 hx hZ hown (host := "") (Or.inl (own_w hw 23 rfl)) Via.refl e0 F_blocks (g := (mkF m 1 #[.val (.ref a), .val (.int i)] [(.ref a)])) rfl rfl (hb hby d10_1)
  refine Goes.on (T' := T1) (g' := (mkF m 8 #[.val (.ref a), .val (.int i)] [(.int ((i.toUInt32 >>> ((15 : Int32) &&& 31).toUInt32).toInt32)), (.ref b)])) (fun _ k => st1 _ (XS.iloadN X1.here hx rfl (hb hby d10_4) rfl (XS.bipush X1.here hx rfl (hb hby d10_5) (XS.iushr X1.here hx rfl (hb hby d10_7) rfl k)))) ?_
  rw [hz]
  refine Goes.on (T' := T1) (g' := (mkF m 15 #[.val (.ref a), .val (.int i)] [(.int (f (i &&& (32767 : Int32)).toNatClampNeg))])) (fun _ k => ldBm X1 hx hZ e1 BB (by decide) (hb hby d10_8) (XS.iloadN X1.here hx rfl (hb hby d10_9) rfl (XS.sipush X1.here hx rfl (hb hby d10_10) (XS.iand X1.here hx rfl (hb hby d10_13) rfl (ldIm X1 hx hZ e1 BT hi (hb hby d10_14) k))))) ?_
  exact Goes.retI X1 hx hlk hret (hb hby d10_15) (by decide) (by decide) ⟨rfl, N0, e1⟩
theorem d8_0 : decode prog_14_method_6_code 0 = .ok (.aload_n 0, 1) := by decide +kernel
theorem d8_1 : decode prog_14_method_6_code 1 = .ok (.getfield 27, 3) := by decide +kernel
theorem d8_4 : decode prog_14_method_6_code 4 = .ok (.iload_n 1, 1) := by decide +kernel
theorem d8_5 : decode prog_14_method_6_code 5 = .ok (.bipush 15, 2) := by decide +kernel
theorem d8_7 : decode prog_14_method_6_code 7 = .ok (.iushr, 1) := by decide +kernel
theorem d8_8 : decode prog_14_method_6_code 8 = .ok (.aaload, 1) := by decide +kernel
theorem d8_9 : decode prog_14_method_6_code 9 = .ok (.iload_n 1, 1) := by decide +kernel
theorem d8_10 : decode prog_14_method_6_code 10 = .ok (.sipush 32767, 3) := by decide +kernel
theorem d8_13 : decode prog_14_method_6_code 13 = .ok (.iand, 1) := by decide +kernel
theorem d8_14 : decode prog_14_method_6_code 14 = .ok (.iload_n 2, 1) := by decide +kernel
theorem d8_15 : decode prog_14_method_6_code 15 = .ok (.iastore, 1) := by decide +kernel
theorem d8_16 : decode prog_14_method_6_code 16 = .ok (.return_, 1) := by decide +kernel
theorem ef_4 (m : MethodId) (x0 : Addr) (x1 : Int32) (x2 : Int32) : entryFrame m #[(.ref x0), (.int x1), (.int x2)] 3 = mkF m 0 #[.val (.ref x0), .val (.int x1), .val (.int x2)] [] := by first | (simp [entryFrame, mkF, argsToLocals, Value.category]; done) | rfl
set_option maxRecDepth 65536 in
set_option maxHeartbeats 40000000 in
theorem rmS (l : Launch) (Z : State) (a0 : Array Value) (hw : ∀ d ∈ tables_1, d.before a0 Z = true) (a : Addr) (i v : Int32) (t b : Addr) (n : Nat) (f : Nat → Int32) (h0 : Heap) (n0 : Nat) (Z0 : n0 ≤ h0.size) (F_blocks : Fld Z h0 a "com/example/arcbind/arcbind/IntBlocks" "blocks" "[[I" (.ref b)) (BB : Blk Z h0 b .int "[I" 1 (fun _ => .ref t)) (BT : Arf Z h0 t .int Value.int n f) (hz : (i.toUInt32 >>> ((15 : Int32) &&& 31).toUInt32).toInt32 = (0 : Int32)) (hi : ¬ (i &&& (32767 : Int32)) < 0 ∧ (i &&& (32767 : Int32)).toNatClampNeg < n) (gt : n0 ≤ t) (nbt : b ≠ t) (nat_ : a ≠ t) :
    Pays l Z (⟨"com/example/arcbind/arcbind/IntBlocks", "set", "(II)V"⟩ : MethodName) prog_14_method_6_code 3 none [] ({ frames := 0, cells := 0, slots := 0, locals := 0 } : Room) #[(.ref a), (.int i), (.int v)] h0 (fun v_ h L => v_ = none ∧ Fr n0 L ∧ Keep h0 h [t] ∧ Arf Z h t .int Value.int n (Upd f (i &&& (32767 : Int32)).toNatClampNeg v)) := by
  refine Pays.walk (plainFor_of_name pn_1) (fun m => ef_4 m a i v ) ?_
  intro p e s m below meth c T0 X0 hx hby hml hown hnm hZ e0 hret hlk
  have N0 := Fr.nil n0
  have K0 := Keep.refl h0 [t]
  refine Goes.on (T' := T0) (g' := (mkF m 1 #[.val (.ref a), .val (.int i), .val (.int v)] [(.ref a)])) (fun _ k => XS.aloadN X0.here hx rfl (hb hby d8_0) rfl rfl k) ?_
  obtain ⟨T1, X1, e1, st1⟩ := getF X0 hx hZ hown (host := "") (Or.inl (own_w hw 23 rfl)) Via.refl e0 F_blocks (g := (mkF m 1 #[.val (.ref a), .val (.int i), .val (.int v)] [(.ref a)])) rfl rfl (hb hby d8_1)
  refine Goes.on (T' := T1) (g' := (mkF m 8 #[.val (.ref a), .val (.int i), .val (.int v)] [(.int ((i.toUInt32 >>> ((15 : Int32) &&& 31).toUInt32).toInt32)), (.ref b)])) (fun _ k => st1 _ (XS.iloadN X1.here hx rfl (hb hby d8_4) rfl (XS.bipush X1.here hx rfl (hb hby d8_5) (XS.iushr X1.here hx rfl (hb hby d8_7) rfl k)))) ?_
  rw [hz]
  refine Goes.on (T' := T1) (g' := (mkF m 15 #[.val (.ref a), .val (.int i), .val (.int v)] [(.int v), (.int (i &&& (32767 : Int32))), (.ref t)])) (fun _ k => ldBm X1 hx hZ e1 BB (by decide) (hb hby d8_8) (XS.iloadN X1.here hx rfl (hb hby d8_9) rfl (XS.sipush X1.here hx rfl (hb hby d8_10) (XS.iand X1.here hx rfl (hb hby d8_13) rfl (XS.iloadN X1.here hx rfl (hb hby d8_14) rfl k))))) ?_
  obtain ⟨T3, h3, X3, e3, W3, B3, st3⟩ := wrI X1 hx hZ e1 BT hi  (g := (mkF m 15 #[.val (.ref a), .val (.int i), .val (.int v)] [(.int v), (.int (i &&& (32767 : Int32))), (.ref t)])) rfl rfl (hb hby d8_15)
  have N3 := Fr.snoc X3 N0 gt
  have K7 := K0.wr W3 (Or.inl (List.mem_of_getElem? (i := 0) rfl))
  have B3 : Arf Z h3 t .int Value.int n (Upd f (i &&& (32767 : Int32)).toNatClampNeg v) := B3
  refine Goes.on (T' := T3) (g' := (mkF m 16 #[.val (.ref a), .val (.int i), .val (.int v)] [])) (fun _ k => st3 _ k) ?_
  exact Goes.retV X3 hx hlk hret (hb hby d8_16) (by decide) (by decide) (by rw [e3]; exact ⟨rfl, N3, K7, B3⟩)
theorem d9_0 : decode prog_14_method_9_code 0 = .ok (.aload_n 0, 1) := by decide +kernel
theorem d9_1 : decode prog_14_method_9_code 1 = .ok (.getfield 38, 3) := by decide +kernel
theorem d9_4 : decode prog_14_method_9_code 4 = .ok (.ireturn, 1) := by decide +kernel
theorem ef_5 (m : MethodId) (x0 : Addr) : entryFrame m #[(.ref x0)] 1 = mkF m 0 #[.val (.ref x0)] [] := by first | (simp [entryFrame, mkF, argsToLocals, Value.category]; done) | rfl
def FZ (sz : Int32) : Int32 := sz
set_option maxRecDepth 65536 in
set_option maxHeartbeats 40000000 in
theorem rmZ (l : Launch) (Z : State) (a0 : Array Value) (hw : ∀ d ∈ tables_1, d.before a0 Z = true) (a : Addr) (sz : Int32) (h0 : Heap) (n0 : Nat) (Z0 : n0 ≤ h0.size) (F0 : Fld Z h0 a "com/example/arcbind/arcbind/IntBlocks" "size" "I" (.int sz)) :
    Pays l Z (⟨"com/example/arcbind/arcbind/IntBlocks", "size", "()I"⟩ : MethodName) prog_14_method_9_code 1 (some .int) [] ({ frames := 0, cells := 0, slots := 0, locals := 0 } : Room) #[(.ref a)] h0 (fun v h L => v = some (.int (FZ sz)) ∧ Fr n0 L ∧ h = h0) := by
  refine Pays.walk (plainFor_of_name pn_1) (fun m => ef_5 m a ) ?_
  intro p e s m below meth c T0 X0 hx hby hml hown hnm hZ e0 hret hlk
  have N0 := Fr.nil n0
  refine Goes.on (T' := T0) (g' := (mkF m 1 #[.val (.ref a)] [(.ref a)])) (fun _ k => XS.aloadN X0.here hx rfl (hb hby d9_0) rfl rfl k) ?_
  obtain ⟨T1, X1, e1, st1⟩ := getF X0 hx hZ hown (host := "") (Or.inl (own_w hw 32 rfl)) Via.refl e0 F0 (g := (mkF m 1 #[.val (.ref a)] [(.ref a)])) rfl rfl (hb hby d9_1)
  refine Goes.on (T' := T1) (g' := (mkF m 4 #[.val (.ref a)] [(.int sz)])) (fun _ k => st1 _ k) ?_
  exact Goes.retI X1 hx hlk hret (hb hby d9_4) (by decide) (by decide) ⟨(rfl), N0, e1⟩
theorem pd_3 : parseMethodDescriptor "(I)V" = some ⟨[.int], none⟩ := by decide +kernel
theorem pd_4 : parseMethodDescriptor "(II)V" = some ⟨[.int, .int], none⟩ := by decide +kernel
theorem pd_5 : parseMethodDescriptor "()I" = some ⟨[], some .int⟩ := by decide +kernel
theorem pd_6 : parseMethodDescriptor "(I)I" = some ⟨[.int], some .int⟩ := by decide +kernel
theorem ef_6 (m : MethodId) (x0 : Int32) (x1 : Int32) (x2 : Int32) (x3 : Int32) (x4 : Int32) (x5 : Int32) : entryFrame m #[(.int x0), (.int x1), (.int x2), (.int x3), (.int x4), (.int x5)] maxLocals = mkF m 0 #[.val (.int x0), .val (.int x1), .val (.int x2), .val (.int x3), .val (.int x4), .val (.int x5), .unset, .unset, .unset, .unset, .unset] [] := by first | (simp [entryFrame, mkF, argsToLocals, Value.category, maxLocals]; done) | rfl
theorem pn_2 : plainName "com/example/arcbind/arcbind/IntBlocksSetPinLaw" = true := by first | (simp [plainName, overriddenIn]; done) | decide +kernel
set_option maxRecDepth 65536 in
set_option maxHeartbeats 40000000 in
theorem rm0 (l : Launch) (Z : State) (a0 : Array Value) (hw : ∀ d ∈ tables_1, d.before a0 Z = true) (x0 x1 x2 x3 x4 x5 : Int32) (h0 : Heap) (n0 : Nat) (Z0 : n0 ≤ h0.size) :
    Pays l Z x code maxLocals ret tables_1 room_1 #[(.int x0), (.int x1), (.int x2), (.int x3), (.int x4), (.int x5)] h0 (fun v h L => v = some (.int (1 : Int32)) ∧ Fr n0 L) := by
  refine Pays.walk (plainFor_of_name pn_2) (fun m => ef_6 m x0 x1 x2 x3 x4 x5 ) ?_
  intro p e s m below meth c T0 X0 hx hby hml hown hnm hZ e0 hret hlk
  have hown : s.vm.findClass "com/example/arcbind/arcbind/IntBlocksSetPinLaw" = some m.cls := hown
  have N0 := Fr.nil n0
  obtain ⟨T1, h1, X1, e1, E1, A1, D1, U1, st1⟩ := newO X0 hx hZ hown (own_w hw 0 rfl) (own_w hw 1 rfl) (own_w hw 2 rfl) e0 (g := (mkF m 0 #[.val (.int x0), .val (.int x1), .val (.int x2), .val (.int x3), .val (.int x4), .val (.int x5), .unset, .unset, .unset, .unset, .unset] [])) rfl (hb hby at_0) (by decide) (by decide)
  obtain ⟨a1, g1⟩ : ∃ z, z = h0.size := ⟨_, rfl⟩
  rw [← g1] at A1 D1 U1 st1
  have Z2 : n0 ≤ h1.size := Nat.le_trans Z0 E1.1
  have F3 : Fld Z h1 a1 "com/example/arcbind/arcbind/IntBlocks" "tail" "[I" .null := D1 (Or.inl (own_w hw 19 rfl)) (ty := (.array .int)) (by decide)
  have F4 : Fld Z h1 a1 "com/example/arcbind/arcbind/IntBlocks" "blocks" "[[I" .null := D1 (Or.inl (own_w hw 24 rfl)) (ty := (.array (.array .int))) (by decide)
  have F5 : Fld Z h1 a1 "com/example/arcbind/arcbind/IntBlocks" "tailSize" "I" (.int (0 : Int32)) := D1 (Or.inl (own_w hw 31 rfl)) (ty := .int) (by decide)
  have F6 : Fld Z h1 a1 "com/example/arcbind/arcbind/IntBlocks" "size" "I" (.int (0 : Int32)) := D1 (Or.inl (own_w hw 33 rfl)) (ty := .int) (by decide)
  have G1 : n0 ≤ a1 := Nat.le_trans Z0 (Nat.le_of_eq g1.symm)
  refine Goes.on (T' := T1) (g' := (mkF m 5 #[.val (.int x0), .val (.int x1), .val (.int x2), .val (.int x3), .val (.int x4), .val (.int x5), .unset, .unset, .unset, .unset, .unset] [(.int x0), (.ref a1), (.ref a1)])) (fun _ k => st1 _ (XS.dup X1.here hx rfl (hb hby at_3) rfl rfl (XS.iloadN X1.here hx rfl (hb hby at_4) rfl k))) ?_
  refine Goes.callC X1 hx hZ 1 rfl hown (own_w hw 3 rfl) (own_w hw 4 rfl) (own_w hw 2 rfl) (own_w hw 5 rfl) (by decide) e1 (rmC l Z a0 hw a1 x0 h1 n0 Z2 A1 G1 F3 F4 F5 F6) (by decide) (by decide) (by decide) (by decide) rfl (by rw [hml]; rfl) (a := a1) (argsL := [(.int x0)]) (rest := [(.ref a1)]) rfl (lenOf pd_3 rfl) rfl (by show 2 * 0 + _ ≤ _; exact Nat.le_of_eq rfl) (hb hby at_5) ?_
  intro v7 T7 L7 X7 hQ7
  obtain ⟨t, b, rfl, Mt7, Mb7, N7q, K7, A7, Ft7, Fb7, Fk7, Fs7, Er7, Eb7, BB7, BT7⟩ := hQ7
  have N7 := Fr.app N0 N7q
  show Goes p e below _ T7 (mkF m 8 #[.val (.int x0), .val (.int x1), .val (.int x2), .val (.int x3), .val (.int x4), .val (.int x5), .unset, .unset, .unset, .unset, .unset] [(.ref a1)])
  have gt : n0 ≤ t := Nat.le_trans Z2 Mt7
  have gb : n0 ≤ b := Nat.le_trans Z2 Mb7
  have Z9 : n0 ≤ T7.heap.size := Nat.le_trans Z2 K7.1
  have hcap := own_cap1 x0
  generalize (FMx (1 : Int32) (FMn x0 (32768 : Int32))).toNatClampNeg = n at BT7 hcap
  have nat_ : a1 ≠ t := ne_exa A7 Er7 (by decide)
  have nab_ : a1 ≠ b := ne_exa A7 Eb7 (by decide)
  have nbt_ : b ≠ t := ne_exa Eb7 Er7 (by decide)
  obtain rfl | rfl | hn3 : n = 1 ∨ n = 2 ∨ 3 ≤ n := by omega
  · refine Goes.on (T' := T7) (g' := (mkF m 13 #[.val (.int x0), .val (.int x1), .val (.int x2), .val (.int x3), .val (.int x4), .val (.int x5), .val (.ref a1), .unset, .unset, .unset, .unset] [(.int x1), (.ref a1)])) (fun _ k => XS.astore X7.here hx rfl (hb hby at_8) rfl rfl (l' := #[.val (.int x0), .val (.int x1), .val (.int x2), .val (.int x3), .val (.int x4), .val (.int x5), .val (.ref a1), .unset, .unset, .unset, .unset]) rfl (XS.aload X7.here hx rfl (hb hby at_10) rfl rfl (XS.iloadN X7.here hx rfl (hb hby at_12) rfl k))) ?_
    refine Goes.callV X7 hx hZ 0 hown (own_w hw 25 rfl) (own_w hw 26 rfl) (notFace_of_selects (args := #[]) (mvT hZ (own_w hw 28 rfl))) (own_w hw 28 rfl) (own_w hw 27 rfl) (own_w hw 2 rfl) (own_w hw 29 rfl) (by decide) rfl A7 (rmA l Z a0 hw a1 x1 t b (0 : Int32) (0 : Int32) 1 (fun _ => (0 : Int32)) T7.heap n0 Z9 A7 Ft7 Fb7 Fk7 Fs7 Er7 Eb7 BB7 G1 gt gb BT7 (by decide) (by decide)) (by decide) (by decide) (by decide) (by decide) rfl (by rw [hml]; rfl) (argsL := [(.int x1)]) (rest := []) rfl (lenOf pd_3 rfl) rfl (by show 2 * 0 + _ ≤ _; exact Nat.le_of_eq rfl) (hb hby at_13) ?_
    intro v10 T10 L10 X10 hQ10
    obtain ⟨rfl, N10q, K10, A10, Ft10, Fb10, Fk10, Fs10, Er10, Eb10, BB10, BT10⟩ := hQ10
    have N10 := Fr.app N7 N10q
    show Goes p e below _ T10 (mkF m 16 #[.val (.int x0), .val (.int x1), .val (.int x2), .val (.int x3), .val (.int x4), .val (.int x5), .val (.ref a1), .unset, .unset, .unset, .unset] [])
    have Z15 : n0 ≤ T10.heap.size := Nat.le_trans Z9 K10.1
    refine Goes.on (T' := T10) (g' := (mkF m 19 #[.val (.int x0), .val (.int x1), .val (.int x2), .val (.int x3), .val (.int x4), .val (.int x5), .val (.ref a1), .unset, .unset, .unset, .unset] [(.int x2), (.ref a1)])) (fun _ k => XS.aload X10.here hx rfl (hb hby at_16) rfl rfl (XS.iloadN X10.here hx rfl (hb hby at_18) rfl k)) ?_
    refine Goes.callV X10 hx hZ 0 hown (own_w hw 25 rfl) (own_w hw 26 rfl) (notFace_of_selects (args := #[]) (mvT hZ (own_w hw 28 rfl))) (own_w hw 28 rfl) (own_w hw 27 rfl) (own_w hw 2 rfl) (own_w hw 29 rfl) (by decide) rfl A10 (rmG1 l Z a0 hw a1 x2 t b (1 : Int32) (Upd (fun _ => (0 : Int32)) 0 x1) T10.heap n0 Z15 A10 Ft10 Fb10 Fk10 Fs10 Er10 Eb10 BB10 G1 gt gb BT10) (by decide) (by decide) (by decide) (by decide) rfl (by rw [hml]; rfl) (argsL := [(.int x2)]) (rest := []) rfl (lenOf pd_3 rfl) rfl (by show 2 * 0 + _ ≤ _; exact Nat.le_of_eq rfl) (hb hby at_19) ?_
    intro v16 T16 L16 X16 hQ16
    obtain ⟨r1, rfl, M16, N16q, K16, A16, Ft16, Fb16, Fk16, Fs16, Er16, Eb16, BB16, BT16⟩ := hQ16
    have N16 := Fr.app N10 N16q
    show Goes p e below _ T16 (mkF m 22 #[.val (.int x0), .val (.int x1), .val (.int x2), .val (.int x3), .val (.int x4), .val (.int x5), .val (.ref a1), .unset, .unset, .unset, .unset] [])
    have ngr1 : n0 ≤ r1 := Nat.le_trans Z15 M16
    have na1r1 : a1 ≠ r1 := Nat.ne_of_lt (Nat.lt_of_lt_of_le (A10).lt M16)
    have nbr1 : b ≠ r1 := Nat.ne_of_lt (Nat.lt_of_lt_of_le (Eb10).lt M16)
    have Z19 : n0 ≤ T16.heap.size := Nat.le_trans Z15 K16.1
    refine Goes.on (T' := T16) (g' := (mkF m 25 #[.val (.int x0), .val (.int x1), .val (.int x2), .val (.int x3), .val (.int x4), .val (.int x5), .val (.ref a1), .unset, .unset, .unset, .unset] [(.int x3), (.ref a1)])) (fun _ k => XS.aload X16.here hx rfl (hb hby at_22) rfl rfl (XS.iloadN X16.here hx rfl (hb hby at_24) rfl k)) ?_
    refine Goes.callV X16 hx hZ 0 hown (own_w hw 25 rfl) (own_w hw 26 rfl) (notFace_of_selects (args := #[]) (mvT hZ (own_w hw 28 rfl))) (own_w hw 28 rfl) (own_w hw 27 rfl) (own_w hw 2 rfl) (own_w hw 29 rfl) (by decide) rfl A16 (rmG2 l Z a0 hw a1 x3 r1 b (2 : Int32) (Upd (fun i => if i < 1 then (Upd (fun _ => (0 : Int32)) 0 x1) i else (fun _ => (0 : Int32)) i) 1 x2) T16.heap n0 Z19 A16 Ft16 Fb16 Fk16 Fs16 Er16 Eb16 BB16 G1 ngr1 gb BT16) (by decide) (by decide) (by decide) (by decide) rfl (by rw [hml]; rfl) (argsL := [(.int x3)]) (rest := []) rfl (lenOf pd_3 rfl) rfl (by show 2 * 0 + _ ≤ _; exact Nat.le_of_eq rfl) (hb hby at_25) ?_
    intro v20 T20 L20 X20 hQ20
    obtain ⟨r2, rfl, M20, N20q, K20, A20, Ft20, Fb20, Fk20, Fs20, Er20, Eb20, BB20, BT20⟩ := hQ20
    have N20 := Fr.app N16 N20q
    show Goes p e below _ T20 (mkF m 28 #[.val (.int x0), .val (.int x1), .val (.int x2), .val (.int x3), .val (.int x4), .val (.int x5), .val (.ref a1), .unset, .unset, .unset, .unset] [])
    have ngr2 : n0 ≤ r2 := Nat.le_trans Z19 M20
    have na1r2 : a1 ≠ r2 := Nat.ne_of_lt (Nat.lt_of_lt_of_le (A16).lt M20)
    have nbr2 : b ≠ r2 := Nat.ne_of_lt (Nat.lt_of_lt_of_le (Eb16).lt M20)
    have Z23 : n0 ≤ T20.heap.size := Nat.le_trans Z19 K20.1
    refine Goes.on (T' := T20) (g' := (mkF m 37 #[.val (.int x0), .val (.int x1), .val (.int x2), .val (.int x3), .val (.int x4), .val (.int x5), .val (.ref a1), .val (.int ((x4 &&& (2147483647 : Int32)) % (3 : Int32))), .unset, .unset, .unset] [])) (fun _ k => XS.iload X20.here hx rfl (hb hby at_28) rfl (X20.ldcInt hx hown (mvT hZ (own_w hw 47 rfl)) (g := (mkF m 30 #[.val (.int x0), .val (.int x1), .val (.int x2), .val (.int x3), .val (.int x4), .val (.int x5), .val (.ref a1), .unset, .unset, .unset, .unset] [(.int x4)])) rfl (hb hby at_30) _ (XS.iand X20.here hx rfl (hb hby at_32) rfl (XS.iconst X20.here hx rfl (hb hby at_33) (iremM X20 hx rfl (hb hby at_34) rfl (by decide) (XS.istore X20.here hx rfl (hb hby at_35) rfl (l' := #[.val (.int x0), .val (.int x1), .val (.int x2), .val (.int x3), .val (.int x4), .val (.int x5), .val (.ref a1), .val (.int ((x4 &&& (2147483647 : Int32)) % (3 : Int32))), .unset, .unset, .unset]) rfl k)))))) ?_
    have bI := own_i3 x4
    generalize ((x4 &&& (2147483647 : Int32)) % (3 : Int32)) = I at bI ⊢
    obtain rfl | rfl | rfl := bI
    · refine Goes.on (T' := T20) (g' := (mkF m 43 #[.val (.int x0), .val (.int x1), .val (.int x2), .val (.int x3), .val (.int x4), .val (.int x5), .val (.ref a1), .val (.int (0 : Int32)), .unset, .unset, .unset] [(.int x5), (.int (0 : Int32)), (.ref a1)])) (fun _ k => XS.aload X20.here hx rfl (hb hby at_37) rfl rfl (XS.iload X20.here hx rfl (hb hby at_39) rfl (XS.iload X20.here hx rfl (hb hby at_41) rfl k))) ?_
      refine Goes.callV X20 hx hZ 0 hown (own_w hw 48 rfl) (own_w hw 49 rfl) (notFace_of_selects (args := #[]) (mvT hZ (own_w hw 51 rfl))) (own_w hw 51 rfl) (own_w hw 50 rfl) (own_w hw 2 rfl) (own_w hw 52 rfl) (by decide) rfl A20 (rmS l Z a0 hw a1 (0 : Int32) x5 r2 b 4 (Upd (fun i => if i < 2 then (Upd (fun i => if i < 1 then (Upd (fun _ => (0 : Int32)) 0 x1) i else (fun _ => (0 : Int32)) i) 1 x2) i else (fun _ => (0 : Int32)) i) 2 x3) T20.heap n0 Z23 Fb20 BB20 BT20 (by decide) (by decide) ngr2 nbr2 na1r2) (by decide) (by decide) (by decide) (by decide) rfl (by rw [hml]; rfl) (argsL := [(.int (0 : Int32)), (.int x5)]) (rest := []) rfl (lenOf pd_4 rfl) rfl (by show 2 * 0 + _ ≤ _; exact Nat.le_of_eq rfl) (hb hby at_43) ?_
      intro v24 T24 L24 X24 hQ24
      obtain ⟨rfl, N24q, K24, B24⟩ := hQ24
      have N24 := Fr.app N20 N24q
      show Goes p e below _ T24 (mkF m 46 #[.val (.int x0), .val (.int x1), .val (.int x2), .val (.int x3), .val (.int x4), .val (.int x5), .val (.ref a1), .val (.int (0 : Int32)), .unset, .unset, .unset] [])
      have C25 := A20.keep K24
      have C29 := Fb20.keep K24 (ninS na1r2 nin0)
      have C31 := Fs20.keep K24 (ninS na1r2 nin0)
      have C32 := BB20.keep K24 (ninS nbr2 nin0)
      have Z33 : n0 ≤ T24.heap.size := Nat.le_trans Z23 K24.1
      refine Goes.on (T' := T24) (g' := (mkF m 76 #[.val (.int x0), .val (.int x1), .val (.int x2), .val (.int x3), .val (.int x4), .val (.int x5), .val (.ref a1), .val (.int (0 : Int32)), .val (.int x5), .val (.int x2), .unset] [(.int (2 : Int32)), (.int (0 : Int32))])) (fun _ k => XS.iload X24.here hx rfl (hb hby at_46) rfl (XS.ifNo X24.here hx rfl (hb hby at_48) rfl (XT.i0_ne_f (by decide)) (XS.iload X24.here hx rfl (hb hby at_51) rfl (XS.goto X24.here hx rfl (pc0 := 53) (pc' := 57) rfl (hb hby at_53) (by decide) (by decide) (XS.istore X24.here hx rfl (hb hby at_57) rfl (l' := #[.val (.int x0), .val (.int x1), .val (.int x2), .val (.int x3), .val (.int x4), .val (.int x5), .val (.ref a1), .val (.int (0 : Int32)), .val (.int x5), .unset, .unset]) rfl (XS.iload X24.here hx rfl (hb hby at_59) rfl (XS.iconst X24.here hx rfl (hb hby at_61) (XS.icmpYes X24.here hx rfl (pc0 := 62) (pc' := 70) rfl (hb hby at_62) rfl (XT.ii_ne_t (by decide)) (by decide) (by decide) (XS.iloadN X24.here hx rfl (hb hby at_70) rfl (XS.istore X24.here hx rfl (hb hby at_71) rfl (l' := #[.val (.int x0), .val (.int x1), .val (.int x2), .val (.int x3), .val (.int x4), .val (.int x5), .val (.ref a1), .val (.int (0 : Int32)), .val (.int x5), .val (.int x2), .unset]) rfl (XS.iload X24.here hx rfl (hb hby at_73) rfl (XS.iconst X24.here hx rfl (hb hby at_75) k)))))))))))) ?_
      refine Goes.on (T' := T24) (g' := (mkF m 89 #[.val (.int x0), .val (.int x1), .val (.int x2), .val (.int x3), .val (.int x4), .val (.int x5), .val (.ref a1), .val (.int (0 : Int32)), .val (.int x5), .val (.int x2), .val (.int x3)] [(.ref a1)])) (fun _ k => XS.icmpYes X24.here hx rfl (pc0 := 76) (pc' := 84) rfl (hb hby at_76) rfl (XT.ii_ne_t (by decide)) (by decide) (by decide) (XS.iloadN X24.here hx rfl (hb hby at_84) rfl (XS.istore X24.here hx rfl (hb hby at_85) rfl (l' := #[.val (.int x0), .val (.int x1), .val (.int x2), .val (.int x3), .val (.int x4), .val (.int x5), .val (.ref a1), .val (.int (0 : Int32)), .val (.int x5), .val (.int x2), .val (.int x3)]) rfl (XS.aload X24.here hx rfl (hb hby at_87) rfl rfl k)))) ?_
      refine Goes.callV X24 hx hZ 0 hown (own_w hw 53 rfl) (own_w hw 54 rfl) (notFace_of_selects (args := #[]) (mvT hZ (own_w hw 56 rfl))) (own_w hw 56 rfl) (own_w hw 55 rfl) (own_w hw 2 rfl) (own_w hw 57 rfl) (by decide) rfl C25 (rmZ l Z a0 hw a1 (3 : Int32) T24.heap n0 Z33 C31) (by decide) (by decide) (by decide) (by decide) rfl (by rw [hml]; rfl) (argsL := []) (rest := []) rfl (lenOf pd_5 rfl) rfl (by show 2 * 0 + _ ≤ _; exact Nat.le_of_eq rfl) (hb hby at_89) ?_
      intro v34 T34 L34 X34 hQ34
      obtain ⟨rfl, N34q, e34⟩ := hQ34
      have N34 := Fr.app N24 N34q
      show Goes p e below _ T34 (mkF m 92 #[.val (.int x0), .val (.int x1), .val (.int x2), .val (.int x3), .val (.int x4), .val (.int x5), .val (.ref a1), .val (.int (0 : Int32)), .val (.int x5), .val (.int x2), .val (.int x3)] [(.int (3 : Int32))])
      refine Goes.on (T' := T34) (g' := (mkF m 99 #[.val (.int x0), .val (.int x1), .val (.int x2), .val (.int x3), .val (.int x4), .val (.int x5), .val (.ref a1), .val (.int (0 : Int32)), .val (.int x5), .val (.int x2), .val (.int x3)] [(.int (0 : Int32)), (.ref a1)])) (fun _ k => XS.iconst X34.here hx rfl (hb hby at_92) (XS.icmpNo X34.here hx rfl (hb hby at_93) rfl (XT.ii_ne_f (by decide)) (XS.aload X34.here hx rfl (hb hby at_96) rfl rfl (XS.iconst X34.here hx rfl (hb hby at_98) k)))) ?_
      refine Goes.callV X34 hx hZ 0 hown (own_w hw 58 rfl) (own_w hw 59 rfl) (notFace_of_selects (args := #[]) (mvT hZ (own_w hw 61 rfl))) (own_w hw 61 rfl) (own_w hw 60 rfl) (own_w hw 2 rfl) (own_w hw 62 rfl) (by decide) e34 C25 (rmT l Z a0 hw a1 (0 : Int32) r2 b 4 (Upd (Upd (fun i => if i < 2 then (Upd (fun i => if i < 1 then (Upd (fun _ => (0 : Int32)) 0 x1) i else (fun _ => (0 : Int32)) i) 1 x2) i else (fun _ => (0 : Int32)) i) 2 x3) 0 x5) T24.heap n0 Z33 C29 C32 B24 (by decide) (by decide)) (by decide) (by decide) (by decide) (by decide) rfl (by rw [hml]; rfl) (argsL := [(.int (0 : Int32))]) (rest := []) rfl (lenOf pd_6 rfl) rfl (by show 2 * 0 + _ ≤ _; exact Nat.le_of_eq rfl) (hb hby at_99) ?_
      intro v35 T35 L35 X35 hQ35
      obtain ⟨rfl, N35q, e35⟩ := hQ35
      have N35 := Fr.app N34 N35q
      show Goes p e below _ T35 (mkF m 102 #[.val (.int x0), .val (.int x1), .val (.int x2), .val (.int x3), .val (.int x4), .val (.int x5), .val (.ref a1), .val (.int (0 : Int32)), .val (.int x5), .val (.int x2), .val (.int x3)] [(.int ((Upd (Upd (fun i => if i < 2 then (Upd (fun i => if i < 1 then (Upd (fun _ => (0 : Int32)) 0 x1) i else (fun _ => (0 : Int32)) i) 1 x2) i else (fun _ => (0 : Int32)) i) 2 x3) 0 x5) 0))])
      refine Goes.on (T' := T35) (g' := (mkF m 110 #[.val (.int x0), .val (.int x1), .val (.int x2), .val (.int x3), .val (.int x4), .val (.int x5), .val (.ref a1), .val (.int (0 : Int32)), .val (.int x5), .val (.int x2), .val (.int x3)] [(.int (1 : Int32)), (.ref a1)])) (fun _ k => XS.iload X35.here hx rfl (hb hby at_102) rfl (XS.icmpNo X35.here hx rfl (hb hby at_104) rfl (XT.ii_ne_f rfl) (XS.aload X35.here hx rfl (hb hby at_107) rfl rfl (XS.iconst X35.here hx rfl (hb hby at_109) k)))) ?_
      refine Goes.callV X35 hx hZ 0 hown (own_w hw 58 rfl) (own_w hw 59 rfl) (notFace_of_selects (args := #[]) (mvT hZ (own_w hw 61 rfl))) (own_w hw 61 rfl) (own_w hw 60 rfl) (own_w hw 2 rfl) (own_w hw 62 rfl) (by decide) e35 C25 (rmT l Z a0 hw a1 (1 : Int32) r2 b 4 (Upd (Upd (fun i => if i < 2 then (Upd (fun i => if i < 1 then (Upd (fun _ => (0 : Int32)) 0 x1) i else (fun _ => (0 : Int32)) i) 1 x2) i else (fun _ => (0 : Int32)) i) 2 x3) 0 x5) T24.heap n0 Z33 C29 C32 B24 (by decide) (by decide)) (by decide) (by decide) (by decide) (by decide) rfl (by rw [hml]; rfl) (argsL := [(.int (1 : Int32))]) (rest := []) rfl (lenOf pd_6 rfl) rfl (by show 2 * 0 + _ ≤ _; exact Nat.le_of_eq rfl) (hb hby at_110) ?_
      intro v36 T36 L36 X36 hQ36
      obtain ⟨rfl, N36q, e36⟩ := hQ36
      have N36 := Fr.app N35 N36q
      show Goes p e below _ T36 (mkF m 113 #[.val (.int x0), .val (.int x1), .val (.int x2), .val (.int x3), .val (.int x4), .val (.int x5), .val (.ref a1), .val (.int (0 : Int32)), .val (.int x5), .val (.int x2), .val (.int x3)] [(.int ((Upd (Upd (fun i => if i < 2 then (Upd (fun i => if i < 1 then (Upd (fun _ => (0 : Int32)) 0 x1) i else (fun _ => (0 : Int32)) i) 1 x2) i else (fun _ => (0 : Int32)) i) 2 x3) 0 x5) 1))])
      refine Goes.on (T' := T36) (g' := (mkF m 121 #[.val (.int x0), .val (.int x1), .val (.int x2), .val (.int x3), .val (.int x4), .val (.int x5), .val (.ref a1), .val (.int (0 : Int32)), .val (.int x5), .val (.int x2), .val (.int x3)] [(.int (2 : Int32)), (.ref a1)])) (fun _ k => XS.iload X36.here hx rfl (hb hby at_113) rfl (XS.icmpNo X36.here hx rfl (hb hby at_115) rfl (XT.ii_ne_f rfl) (XS.aload X36.here hx rfl (hb hby at_118) rfl rfl (XS.iconst X36.here hx rfl (hb hby at_120) k)))) ?_
      refine Goes.callV X36 hx hZ 0 hown (own_w hw 58 rfl) (own_w hw 59 rfl) (notFace_of_selects (args := #[]) (mvT hZ (own_w hw 61 rfl))) (own_w hw 61 rfl) (own_w hw 60 rfl) (own_w hw 2 rfl) (own_w hw 62 rfl) (by decide) e36 C25 (rmT l Z a0 hw a1 (2 : Int32) r2 b 4 (Upd (Upd (fun i => if i < 2 then (Upd (fun i => if i < 1 then (Upd (fun _ => (0 : Int32)) 0 x1) i else (fun _ => (0 : Int32)) i) 1 x2) i else (fun _ => (0 : Int32)) i) 2 x3) 0 x5) T24.heap n0 Z33 C29 C32 B24 (by decide) (by decide)) (by decide) (by decide) (by decide) (by decide) rfl (by rw [hml]; rfl) (argsL := [(.int (2 : Int32))]) (rest := []) rfl (lenOf pd_6 rfl) rfl (by show 2 * 0 + _ ≤ _; exact Nat.le_of_eq rfl) (hb hby at_121) ?_
      intro v37 T37 L37 X37 hQ37
      obtain ⟨rfl, N37q, e37⟩ := hQ37
      have N37 := Fr.app N36 N37q
      show Goes p e below _ T37 (mkF m 124 #[.val (.int x0), .val (.int x1), .val (.int x2), .val (.int x3), .val (.int x4), .val (.int x5), .val (.ref a1), .val (.int (0 : Int32)), .val (.int x5), .val (.int x2), .val (.int x3)] [(.int ((Upd (Upd (fun i => if i < 2 then (Upd (fun i => if i < 1 then (Upd (fun _ => (0 : Int32)) 0 x1) i else (fun _ => (0 : Int32)) i) 1 x2) i else (fun _ => (0 : Int32)) i) 2 x3) 0 x5) 2))])
      refine Goes.on (T' := T37) (g' := (mkF m 134 #[.val (.int x0), .val (.int x1), .val (.int x2), .val (.int x3), .val (.int x4), .val (.int x5), .val (.ref a1), .val (.int (0 : Int32)), .val (.int x5), .val (.int x2), .val (.int x3)] [(.int (1 : Int32))])) (fun _ k => XS.iload X37.here hx rfl (hb hby at_124) rfl (XS.icmpNo X37.here hx rfl (hb hby at_126) rfl (XT.ii_ne_f rfl) (XS.iconst X37.here hx rfl (hb hby at_129) (XS.goto X37.here hx rfl (pc0 := 130) (pc' := 134) rfl (hb hby at_130) (by decide) (by decide) k)))) ?_
      exact Goes.retB X37 hx hlk hret (Or.inr rfl) (hb hby at_134) (by decide) (by decide) ⟨rfl, N37⟩
    · refine Goes.on (T' := T20) (g' := (mkF m 43 #[.val (.int x0), .val (.int x1), .val (.int x2), .val (.int x3), .val (.int x4), .val (.int x5), .val (.ref a1), .val (.int (1 : Int32)), .unset, .unset, .unset] [(.int x5), (.int (1 : Int32)), (.ref a1)])) (fun _ k => XS.aload X20.here hx rfl (hb hby at_37) rfl rfl (XS.iload X20.here hx rfl (hb hby at_39) rfl (XS.iload X20.here hx rfl (hb hby at_41) rfl k))) ?_
      refine Goes.callV X20 hx hZ 0 hown (own_w hw 48 rfl) (own_w hw 49 rfl) (notFace_of_selects (args := #[]) (mvT hZ (own_w hw 51 rfl))) (own_w hw 51 rfl) (own_w hw 50 rfl) (own_w hw 2 rfl) (own_w hw 52 rfl) (by decide) rfl A20 (rmS l Z a0 hw a1 (1 : Int32) x5 r2 b 4 (Upd (fun i => if i < 2 then (Upd (fun i => if i < 1 then (Upd (fun _ => (0 : Int32)) 0 x1) i else (fun _ => (0 : Int32)) i) 1 x2) i else (fun _ => (0 : Int32)) i) 2 x3) T20.heap n0 Z23 Fb20 BB20 BT20 (by decide) (by decide) ngr2 nbr2 na1r2) (by decide) (by decide) (by decide) (by decide) rfl (by rw [hml]; rfl) (argsL := [(.int (1 : Int32)), (.int x5)]) (rest := []) rfl (lenOf pd_4 rfl) rfl (by show 2 * 0 + _ ≤ _; exact Nat.le_of_eq rfl) (hb hby at_43) ?_
      intro v38 T38 L38 X38 hQ38
      obtain ⟨rfl, N38q, K38, B38⟩ := hQ38
      have N38 := Fr.app N20 N38q
      show Goes p e below _ T38 (mkF m 46 #[.val (.int x0), .val (.int x1), .val (.int x2), .val (.int x3), .val (.int x4), .val (.int x5), .val (.ref a1), .val (.int (1 : Int32)), .unset, .unset, .unset] [])
      have C39 := A20.keep K38
      have C43 := Fb20.keep K38 (ninS na1r2 nin0)
      have C45 := Fs20.keep K38 (ninS na1r2 nin0)
      have C46 := BB20.keep K38 (ninS nbr2 nin0)
      have Z47 : n0 ≤ T38.heap.size := Nat.le_trans Z23 K38.1
      refine Goes.on (T' := T38) (g' := (mkF m 76 #[.val (.int x0), .val (.int x1), .val (.int x2), .val (.int x3), .val (.int x4), .val (.int x5), .val (.ref a1), .val (.int (1 : Int32)), .val (.int x1), .val (.int x5), .unset] [(.int (2 : Int32)), (.int (1 : Int32))])) (fun _ k => XS.iload X38.here hx rfl (hb hby at_46) rfl (XS.ifYes X38.here hx rfl (pc0 := 48) (pc' := 56) rfl (hb hby at_48) rfl (XT.i0_ne_t (by decide)) (by decide) (by decide) (XS.iloadN X38.here hx rfl (hb hby at_56) rfl (XS.istore X38.here hx rfl (hb hby at_57) rfl (l' := #[.val (.int x0), .val (.int x1), .val (.int x2), .val (.int x3), .val (.int x4), .val (.int x5), .val (.ref a1), .val (.int (1 : Int32)), .val (.int x1), .unset, .unset]) rfl (XS.iload X38.here hx rfl (hb hby at_59) rfl (XS.iconst X38.here hx rfl (hb hby at_61) (XS.icmpNo X38.here hx rfl (hb hby at_62) rfl (XT.ii_ne_f (by decide)) (XS.iload X38.here hx rfl (hb hby at_65) rfl (XS.goto X38.here hx rfl (pc0 := 67) (pc' := 71) rfl (hb hby at_67) (by decide) (by decide) (XS.istore X38.here hx rfl (hb hby at_71) rfl (l' := #[.val (.int x0), .val (.int x1), .val (.int x2), .val (.int x3), .val (.int x4), .val (.int x5), .val (.ref a1), .val (.int (1 : Int32)), .val (.int x1), .val (.int x5), .unset]) rfl (XS.iload X38.here hx rfl (hb hby at_73) rfl (XS.iconst X38.here hx rfl (hb hby at_75) k)))))))))))) ?_
      refine Goes.on (T' := T38) (g' := (mkF m 89 #[.val (.int x0), .val (.int x1), .val (.int x2), .val (.int x3), .val (.int x4), .val (.int x5), .val (.ref a1), .val (.int (1 : Int32)), .val (.int x1), .val (.int x5), .val (.int x3)] [(.ref a1)])) (fun _ k => XS.icmpYes X38.here hx rfl (pc0 := 76) (pc' := 84) rfl (hb hby at_76) rfl (XT.ii_ne_t (by decide)) (by decide) (by decide) (XS.iloadN X38.here hx rfl (hb hby at_84) rfl (XS.istore X38.here hx rfl (hb hby at_85) rfl (l' := #[.val (.int x0), .val (.int x1), .val (.int x2), .val (.int x3), .val (.int x4), .val (.int x5), .val (.ref a1), .val (.int (1 : Int32)), .val (.int x1), .val (.int x5), .val (.int x3)]) rfl (XS.aload X38.here hx rfl (hb hby at_87) rfl rfl k)))) ?_
      refine Goes.callV X38 hx hZ 0 hown (own_w hw 53 rfl) (own_w hw 54 rfl) (notFace_of_selects (args := #[]) (mvT hZ (own_w hw 56 rfl))) (own_w hw 56 rfl) (own_w hw 55 rfl) (own_w hw 2 rfl) (own_w hw 57 rfl) (by decide) rfl C39 (rmZ l Z a0 hw a1 (3 : Int32) T38.heap n0 Z47 C45) (by decide) (by decide) (by decide) (by decide) rfl (by rw [hml]; rfl) (argsL := []) (rest := []) rfl (lenOf pd_5 rfl) rfl (by show 2 * 0 + _ ≤ _; exact Nat.le_of_eq rfl) (hb hby at_89) ?_
      intro v48 T48 L48 X48 hQ48
      obtain ⟨rfl, N48q, e48⟩ := hQ48
      have N48 := Fr.app N38 N48q
      show Goes p e below _ T48 (mkF m 92 #[.val (.int x0), .val (.int x1), .val (.int x2), .val (.int x3), .val (.int x4), .val (.int x5), .val (.ref a1), .val (.int (1 : Int32)), .val (.int x1), .val (.int x5), .val (.int x3)] [(.int (3 : Int32))])
      refine Goes.on (T' := T48) (g' := (mkF m 99 #[.val (.int x0), .val (.int x1), .val (.int x2), .val (.int x3), .val (.int x4), .val (.int x5), .val (.ref a1), .val (.int (1 : Int32)), .val (.int x1), .val (.int x5), .val (.int x3)] [(.int (0 : Int32)), (.ref a1)])) (fun _ k => XS.iconst X48.here hx rfl (hb hby at_92) (XS.icmpNo X48.here hx rfl (hb hby at_93) rfl (XT.ii_ne_f (by decide)) (XS.aload X48.here hx rfl (hb hby at_96) rfl rfl (XS.iconst X48.here hx rfl (hb hby at_98) k)))) ?_
      refine Goes.callV X48 hx hZ 0 hown (own_w hw 58 rfl) (own_w hw 59 rfl) (notFace_of_selects (args := #[]) (mvT hZ (own_w hw 61 rfl))) (own_w hw 61 rfl) (own_w hw 60 rfl) (own_w hw 2 rfl) (own_w hw 62 rfl) (by decide) e48 C39 (rmT l Z a0 hw a1 (0 : Int32) r2 b 4 (Upd (Upd (fun i => if i < 2 then (Upd (fun i => if i < 1 then (Upd (fun _ => (0 : Int32)) 0 x1) i else (fun _ => (0 : Int32)) i) 1 x2) i else (fun _ => (0 : Int32)) i) 2 x3) 1 x5) T38.heap n0 Z47 C43 C46 B38 (by decide) (by decide)) (by decide) (by decide) (by decide) (by decide) rfl (by rw [hml]; rfl) (argsL := [(.int (0 : Int32))]) (rest := []) rfl (lenOf pd_6 rfl) rfl (by show 2 * 0 + _ ≤ _; exact Nat.le_of_eq rfl) (hb hby at_99) ?_
      intro v49 T49 L49 X49 hQ49
      obtain ⟨rfl, N49q, e49⟩ := hQ49
      have N49 := Fr.app N48 N49q
      show Goes p e below _ T49 (mkF m 102 #[.val (.int x0), .val (.int x1), .val (.int x2), .val (.int x3), .val (.int x4), .val (.int x5), .val (.ref a1), .val (.int (1 : Int32)), .val (.int x1), .val (.int x5), .val (.int x3)] [(.int ((Upd (Upd (fun i => if i < 2 then (Upd (fun i => if i < 1 then (Upd (fun _ => (0 : Int32)) 0 x1) i else (fun _ => (0 : Int32)) i) 1 x2) i else (fun _ => (0 : Int32)) i) 2 x3) 1 x5) 0))])
      refine Goes.on (T' := T49) (g' := (mkF m 110 #[.val (.int x0), .val (.int x1), .val (.int x2), .val (.int x3), .val (.int x4), .val (.int x5), .val (.ref a1), .val (.int (1 : Int32)), .val (.int x1), .val (.int x5), .val (.int x3)] [(.int (1 : Int32)), (.ref a1)])) (fun _ k => XS.iload X49.here hx rfl (hb hby at_102) rfl (XS.icmpNo X49.here hx rfl (hb hby at_104) rfl (XT.ii_ne_f rfl) (XS.aload X49.here hx rfl (hb hby at_107) rfl rfl (XS.iconst X49.here hx rfl (hb hby at_109) k)))) ?_
      refine Goes.callV X49 hx hZ 0 hown (own_w hw 58 rfl) (own_w hw 59 rfl) (notFace_of_selects (args := #[]) (mvT hZ (own_w hw 61 rfl))) (own_w hw 61 rfl) (own_w hw 60 rfl) (own_w hw 2 rfl) (own_w hw 62 rfl) (by decide) e49 C39 (rmT l Z a0 hw a1 (1 : Int32) r2 b 4 (Upd (Upd (fun i => if i < 2 then (Upd (fun i => if i < 1 then (Upd (fun _ => (0 : Int32)) 0 x1) i else (fun _ => (0 : Int32)) i) 1 x2) i else (fun _ => (0 : Int32)) i) 2 x3) 1 x5) T38.heap n0 Z47 C43 C46 B38 (by decide) (by decide)) (by decide) (by decide) (by decide) (by decide) rfl (by rw [hml]; rfl) (argsL := [(.int (1 : Int32))]) (rest := []) rfl (lenOf pd_6 rfl) rfl (by show 2 * 0 + _ ≤ _; exact Nat.le_of_eq rfl) (hb hby at_110) ?_
      intro v50 T50 L50 X50 hQ50
      obtain ⟨rfl, N50q, e50⟩ := hQ50
      have N50 := Fr.app N49 N50q
      show Goes p e below _ T50 (mkF m 113 #[.val (.int x0), .val (.int x1), .val (.int x2), .val (.int x3), .val (.int x4), .val (.int x5), .val (.ref a1), .val (.int (1 : Int32)), .val (.int x1), .val (.int x5), .val (.int x3)] [(.int ((Upd (Upd (fun i => if i < 2 then (Upd (fun i => if i < 1 then (Upd (fun _ => (0 : Int32)) 0 x1) i else (fun _ => (0 : Int32)) i) 1 x2) i else (fun _ => (0 : Int32)) i) 2 x3) 1 x5) 1))])
      refine Goes.on (T' := T50) (g' := (mkF m 121 #[.val (.int x0), .val (.int x1), .val (.int x2), .val (.int x3), .val (.int x4), .val (.int x5), .val (.ref a1), .val (.int (1 : Int32)), .val (.int x1), .val (.int x5), .val (.int x3)] [(.int (2 : Int32)), (.ref a1)])) (fun _ k => XS.iload X50.here hx rfl (hb hby at_113) rfl (XS.icmpNo X50.here hx rfl (hb hby at_115) rfl (XT.ii_ne_f rfl) (XS.aload X50.here hx rfl (hb hby at_118) rfl rfl (XS.iconst X50.here hx rfl (hb hby at_120) k)))) ?_
      refine Goes.callV X50 hx hZ 0 hown (own_w hw 58 rfl) (own_w hw 59 rfl) (notFace_of_selects (args := #[]) (mvT hZ (own_w hw 61 rfl))) (own_w hw 61 rfl) (own_w hw 60 rfl) (own_w hw 2 rfl) (own_w hw 62 rfl) (by decide) e50 C39 (rmT l Z a0 hw a1 (2 : Int32) r2 b 4 (Upd (Upd (fun i => if i < 2 then (Upd (fun i => if i < 1 then (Upd (fun _ => (0 : Int32)) 0 x1) i else (fun _ => (0 : Int32)) i) 1 x2) i else (fun _ => (0 : Int32)) i) 2 x3) 1 x5) T38.heap n0 Z47 C43 C46 B38 (by decide) (by decide)) (by decide) (by decide) (by decide) (by decide) rfl (by rw [hml]; rfl) (argsL := [(.int (2 : Int32))]) (rest := []) rfl (lenOf pd_6 rfl) rfl (by show 2 * 0 + _ ≤ _; exact Nat.le_of_eq rfl) (hb hby at_121) ?_
      intro v51 T51 L51 X51 hQ51
      obtain ⟨rfl, N51q, e51⟩ := hQ51
      have N51 := Fr.app N50 N51q
      show Goes p e below _ T51 (mkF m 124 #[.val (.int x0), .val (.int x1), .val (.int x2), .val (.int x3), .val (.int x4), .val (.int x5), .val (.ref a1), .val (.int (1 : Int32)), .val (.int x1), .val (.int x5), .val (.int x3)] [(.int ((Upd (Upd (fun i => if i < 2 then (Upd (fun i => if i < 1 then (Upd (fun _ => (0 : Int32)) 0 x1) i else (fun _ => (0 : Int32)) i) 1 x2) i else (fun _ => (0 : Int32)) i) 2 x3) 1 x5) 2))])
      refine Goes.on (T' := T51) (g' := (mkF m 134 #[.val (.int x0), .val (.int x1), .val (.int x2), .val (.int x3), .val (.int x4), .val (.int x5), .val (.ref a1), .val (.int (1 : Int32)), .val (.int x1), .val (.int x5), .val (.int x3)] [(.int (1 : Int32))])) (fun _ k => XS.iload X51.here hx rfl (hb hby at_124) rfl (XS.icmpNo X51.here hx rfl (hb hby at_126) rfl (XT.ii_ne_f rfl) (XS.iconst X51.here hx rfl (hb hby at_129) (XS.goto X51.here hx rfl (pc0 := 130) (pc' := 134) rfl (hb hby at_130) (by decide) (by decide) k)))) ?_
      exact Goes.retB X51 hx hlk hret (Or.inr rfl) (hb hby at_134) (by decide) (by decide) ⟨rfl, N51⟩
    · refine Goes.on (T' := T20) (g' := (mkF m 43 #[.val (.int x0), .val (.int x1), .val (.int x2), .val (.int x3), .val (.int x4), .val (.int x5), .val (.ref a1), .val (.int (2 : Int32)), .unset, .unset, .unset] [(.int x5), (.int (2 : Int32)), (.ref a1)])) (fun _ k => XS.aload X20.here hx rfl (hb hby at_37) rfl rfl (XS.iload X20.here hx rfl (hb hby at_39) rfl (XS.iload X20.here hx rfl (hb hby at_41) rfl k))) ?_
      refine Goes.callV X20 hx hZ 0 hown (own_w hw 48 rfl) (own_w hw 49 rfl) (notFace_of_selects (args := #[]) (mvT hZ (own_w hw 51 rfl))) (own_w hw 51 rfl) (own_w hw 50 rfl) (own_w hw 2 rfl) (own_w hw 52 rfl) (by decide) rfl A20 (rmS l Z a0 hw a1 (2 : Int32) x5 r2 b 4 (Upd (fun i => if i < 2 then (Upd (fun i => if i < 1 then (Upd (fun _ => (0 : Int32)) 0 x1) i else (fun _ => (0 : Int32)) i) 1 x2) i else (fun _ => (0 : Int32)) i) 2 x3) T20.heap n0 Z23 Fb20 BB20 BT20 (by decide) (by decide) ngr2 nbr2 na1r2) (by decide) (by decide) (by decide) (by decide) rfl (by rw [hml]; rfl) (argsL := [(.int (2 : Int32)), (.int x5)]) (rest := []) rfl (lenOf pd_4 rfl) rfl (by show 2 * 0 + _ ≤ _; exact Nat.le_of_eq rfl) (hb hby at_43) ?_
      intro v52 T52 L52 X52 hQ52
      obtain ⟨rfl, N52q, K52, B52⟩ := hQ52
      have N52 := Fr.app N20 N52q
      show Goes p e below _ T52 (mkF m 46 #[.val (.int x0), .val (.int x1), .val (.int x2), .val (.int x3), .val (.int x4), .val (.int x5), .val (.ref a1), .val (.int (2 : Int32)), .unset, .unset, .unset] [])
      have C53 := A20.keep K52
      have C57 := Fb20.keep K52 (ninS na1r2 nin0)
      have C59 := Fs20.keep K52 (ninS na1r2 nin0)
      have C60 := BB20.keep K52 (ninS nbr2 nin0)
      have Z61 : n0 ≤ T52.heap.size := Nat.le_trans Z23 K52.1
      refine Goes.on (T' := T52) (g' := (mkF m 79 #[.val (.int x0), .val (.int x1), .val (.int x2), .val (.int x3), .val (.int x4), .val (.int x5), .val (.ref a1), .val (.int (2 : Int32)), .val (.int x1), .val (.int x2), .unset] [])) (fun _ k => XS.iload X52.here hx rfl (hb hby at_46) rfl (XS.ifYes X52.here hx rfl (pc0 := 48) (pc' := 56) rfl (hb hby at_48) rfl (XT.i0_ne_t (by decide)) (by decide) (by decide) (XS.iloadN X52.here hx rfl (hb hby at_56) rfl (XS.istore X52.here hx rfl (hb hby at_57) rfl (l' := #[.val (.int x0), .val (.int x1), .val (.int x2), .val (.int x3), .val (.int x4), .val (.int x5), .val (.ref a1), .val (.int (2 : Int32)), .val (.int x1), .unset, .unset]) rfl (XS.iload X52.here hx rfl (hb hby at_59) rfl (XS.iconst X52.here hx rfl (hb hby at_61) (XS.icmpYes X52.here hx rfl (pc0 := 62) (pc' := 70) rfl (hb hby at_62) rfl (XT.ii_ne_t (by decide)) (by decide) (by decide) (XS.iloadN X52.here hx rfl (hb hby at_70) rfl (XS.istore X52.here hx rfl (hb hby at_71) rfl (l' := #[.val (.int x0), .val (.int x1), .val (.int x2), .val (.int x3), .val (.int x4), .val (.int x5), .val (.ref a1), .val (.int (2 : Int32)), .val (.int x1), .val (.int x2), .unset]) rfl (XS.iload X52.here hx rfl (hb hby at_73) rfl (XS.iconst X52.here hx rfl (hb hby at_75) (XS.icmpNo X52.here hx rfl (hb hby at_76) rfl (XT.ii_ne_f (by decide)) k)))))))))))) ?_
      refine Goes.on (T' := T52) (g' := (mkF m 89 #[.val (.int x0), .val (.int x1), .val (.int x2), .val (.int x3), .val (.int x4), .val (.int x5), .val (.ref a1), .val (.int (2 : Int32)), .val (.int x1), .val (.int x2), .val (.int x5)] [(.ref a1)])) (fun _ k => XS.iload X52.here hx rfl (hb hby at_79) rfl (XS.goto X52.here hx rfl (pc0 := 81) (pc' := 85) rfl (hb hby at_81) (by decide) (by decide) (XS.istore X52.here hx rfl (hb hby at_85) rfl (l' := #[.val (.int x0), .val (.int x1), .val (.int x2), .val (.int x3), .val (.int x4), .val (.int x5), .val (.ref a1), .val (.int (2 : Int32)), .val (.int x1), .val (.int x2), .val (.int x5)]) rfl (XS.aload X52.here hx rfl (hb hby at_87) rfl rfl k)))) ?_
      refine Goes.callV X52 hx hZ 0 hown (own_w hw 53 rfl) (own_w hw 54 rfl) (notFace_of_selects (args := #[]) (mvT hZ (own_w hw 56 rfl))) (own_w hw 56 rfl) (own_w hw 55 rfl) (own_w hw 2 rfl) (own_w hw 57 rfl) (by decide) rfl C53 (rmZ l Z a0 hw a1 (3 : Int32) T52.heap n0 Z61 C59) (by decide) (by decide) (by decide) (by decide) rfl (by rw [hml]; rfl) (argsL := []) (rest := []) rfl (lenOf pd_5 rfl) rfl (by show 2 * 0 + _ ≤ _; exact Nat.le_of_eq rfl) (hb hby at_89) ?_
      intro v62 T62 L62 X62 hQ62
      obtain ⟨rfl, N62q, e62⟩ := hQ62
      have N62 := Fr.app N52 N62q
      show Goes p e below _ T62 (mkF m 92 #[.val (.int x0), .val (.int x1), .val (.int x2), .val (.int x3), .val (.int x4), .val (.int x5), .val (.ref a1), .val (.int (2 : Int32)), .val (.int x1), .val (.int x2), .val (.int x5)] [(.int (3 : Int32))])
      refine Goes.on (T' := T62) (g' := (mkF m 99 #[.val (.int x0), .val (.int x1), .val (.int x2), .val (.int x3), .val (.int x4), .val (.int x5), .val (.ref a1), .val (.int (2 : Int32)), .val (.int x1), .val (.int x2), .val (.int x5)] [(.int (0 : Int32)), (.ref a1)])) (fun _ k => XS.iconst X62.here hx rfl (hb hby at_92) (XS.icmpNo X62.here hx rfl (hb hby at_93) rfl (XT.ii_ne_f (by decide)) (XS.aload X62.here hx rfl (hb hby at_96) rfl rfl (XS.iconst X62.here hx rfl (hb hby at_98) k)))) ?_
      refine Goes.callV X62 hx hZ 0 hown (own_w hw 58 rfl) (own_w hw 59 rfl) (notFace_of_selects (args := #[]) (mvT hZ (own_w hw 61 rfl))) (own_w hw 61 rfl) (own_w hw 60 rfl) (own_w hw 2 rfl) (own_w hw 62 rfl) (by decide) e62 C53 (rmT l Z a0 hw a1 (0 : Int32) r2 b 4 (Upd (Upd (fun i => if i < 2 then (Upd (fun i => if i < 1 then (Upd (fun _ => (0 : Int32)) 0 x1) i else (fun _ => (0 : Int32)) i) 1 x2) i else (fun _ => (0 : Int32)) i) 2 x3) 2 x5) T52.heap n0 Z61 C57 C60 B52 (by decide) (by decide)) (by decide) (by decide) (by decide) (by decide) rfl (by rw [hml]; rfl) (argsL := [(.int (0 : Int32))]) (rest := []) rfl (lenOf pd_6 rfl) rfl (by show 2 * 0 + _ ≤ _; exact Nat.le_of_eq rfl) (hb hby at_99) ?_
      intro v63 T63 L63 X63 hQ63
      obtain ⟨rfl, N63q, e63⟩ := hQ63
      have N63 := Fr.app N62 N63q
      show Goes p e below _ T63 (mkF m 102 #[.val (.int x0), .val (.int x1), .val (.int x2), .val (.int x3), .val (.int x4), .val (.int x5), .val (.ref a1), .val (.int (2 : Int32)), .val (.int x1), .val (.int x2), .val (.int x5)] [(.int ((Upd (Upd (fun i => if i < 2 then (Upd (fun i => if i < 1 then (Upd (fun _ => (0 : Int32)) 0 x1) i else (fun _ => (0 : Int32)) i) 1 x2) i else (fun _ => (0 : Int32)) i) 2 x3) 2 x5) 0))])
      refine Goes.on (T' := T63) (g' := (mkF m 110 #[.val (.int x0), .val (.int x1), .val (.int x2), .val (.int x3), .val (.int x4), .val (.int x5), .val (.ref a1), .val (.int (2 : Int32)), .val (.int x1), .val (.int x2), .val (.int x5)] [(.int (1 : Int32)), (.ref a1)])) (fun _ k => XS.iload X63.here hx rfl (hb hby at_102) rfl (XS.icmpNo X63.here hx rfl (hb hby at_104) rfl (XT.ii_ne_f rfl) (XS.aload X63.here hx rfl (hb hby at_107) rfl rfl (XS.iconst X63.here hx rfl (hb hby at_109) k)))) ?_
      refine Goes.callV X63 hx hZ 0 hown (own_w hw 58 rfl) (own_w hw 59 rfl) (notFace_of_selects (args := #[]) (mvT hZ (own_w hw 61 rfl))) (own_w hw 61 rfl) (own_w hw 60 rfl) (own_w hw 2 rfl) (own_w hw 62 rfl) (by decide) e63 C53 (rmT l Z a0 hw a1 (1 : Int32) r2 b 4 (Upd (Upd (fun i => if i < 2 then (Upd (fun i => if i < 1 then (Upd (fun _ => (0 : Int32)) 0 x1) i else (fun _ => (0 : Int32)) i) 1 x2) i else (fun _ => (0 : Int32)) i) 2 x3) 2 x5) T52.heap n0 Z61 C57 C60 B52 (by decide) (by decide)) (by decide) (by decide) (by decide) (by decide) rfl (by rw [hml]; rfl) (argsL := [(.int (1 : Int32))]) (rest := []) rfl (lenOf pd_6 rfl) rfl (by show 2 * 0 + _ ≤ _; exact Nat.le_of_eq rfl) (hb hby at_110) ?_
      intro v64 T64 L64 X64 hQ64
      obtain ⟨rfl, N64q, e64⟩ := hQ64
      have N64 := Fr.app N63 N64q
      show Goes p e below _ T64 (mkF m 113 #[.val (.int x0), .val (.int x1), .val (.int x2), .val (.int x3), .val (.int x4), .val (.int x5), .val (.ref a1), .val (.int (2 : Int32)), .val (.int x1), .val (.int x2), .val (.int x5)] [(.int ((Upd (Upd (fun i => if i < 2 then (Upd (fun i => if i < 1 then (Upd (fun _ => (0 : Int32)) 0 x1) i else (fun _ => (0 : Int32)) i) 1 x2) i else (fun _ => (0 : Int32)) i) 2 x3) 2 x5) 1))])
      refine Goes.on (T' := T64) (g' := (mkF m 121 #[.val (.int x0), .val (.int x1), .val (.int x2), .val (.int x3), .val (.int x4), .val (.int x5), .val (.ref a1), .val (.int (2 : Int32)), .val (.int x1), .val (.int x2), .val (.int x5)] [(.int (2 : Int32)), (.ref a1)])) (fun _ k => XS.iload X64.here hx rfl (hb hby at_113) rfl (XS.icmpNo X64.here hx rfl (hb hby at_115) rfl (XT.ii_ne_f rfl) (XS.aload X64.here hx rfl (hb hby at_118) rfl rfl (XS.iconst X64.here hx rfl (hb hby at_120) k)))) ?_
      refine Goes.callV X64 hx hZ 0 hown (own_w hw 58 rfl) (own_w hw 59 rfl) (notFace_of_selects (args := #[]) (mvT hZ (own_w hw 61 rfl))) (own_w hw 61 rfl) (own_w hw 60 rfl) (own_w hw 2 rfl) (own_w hw 62 rfl) (by decide) e64 C53 (rmT l Z a0 hw a1 (2 : Int32) r2 b 4 (Upd (Upd (fun i => if i < 2 then (Upd (fun i => if i < 1 then (Upd (fun _ => (0 : Int32)) 0 x1) i else (fun _ => (0 : Int32)) i) 1 x2) i else (fun _ => (0 : Int32)) i) 2 x3) 2 x5) T52.heap n0 Z61 C57 C60 B52 (by decide) (by decide)) (by decide) (by decide) (by decide) (by decide) rfl (by rw [hml]; rfl) (argsL := [(.int (2 : Int32))]) (rest := []) rfl (lenOf pd_6 rfl) rfl (by show 2 * 0 + _ ≤ _; exact Nat.le_of_eq rfl) (hb hby at_121) ?_
      intro v65 T65 L65 X65 hQ65
      obtain ⟨rfl, N65q, e65⟩ := hQ65
      have N65 := Fr.app N64 N65q
      show Goes p e below _ T65 (mkF m 124 #[.val (.int x0), .val (.int x1), .val (.int x2), .val (.int x3), .val (.int x4), .val (.int x5), .val (.ref a1), .val (.int (2 : Int32)), .val (.int x1), .val (.int x2), .val (.int x5)] [(.int ((Upd (Upd (fun i => if i < 2 then (Upd (fun i => if i < 1 then (Upd (fun _ => (0 : Int32)) 0 x1) i else (fun _ => (0 : Int32)) i) 1 x2) i else (fun _ => (0 : Int32)) i) 2 x3) 2 x5) 2))])
      refine Goes.on (T' := T65) (g' := (mkF m 134 #[.val (.int x0), .val (.int x1), .val (.int x2), .val (.int x3), .val (.int x4), .val (.int x5), .val (.ref a1), .val (.int (2 : Int32)), .val (.int x1), .val (.int x2), .val (.int x5)] [(.int (1 : Int32))])) (fun _ k => XS.iload X65.here hx rfl (hb hby at_124) rfl (XS.icmpNo X65.here hx rfl (hb hby at_126) rfl (XT.ii_ne_f rfl) (XS.iconst X65.here hx rfl (hb hby at_129) (XS.goto X65.here hx rfl (pc0 := 130) (pc' := 134) rfl (hb hby at_130) (by decide) (by decide) k)))) ?_
      exact Goes.retB X65 hx hlk hret (Or.inr rfl) (hb hby at_134) (by decide) (by decide) ⟨rfl, N65⟩
  · refine Goes.on (T' := T7) (g' := (mkF m 13 #[.val (.int x0), .val (.int x1), .val (.int x2), .val (.int x3), .val (.int x4), .val (.int x5), .val (.ref a1), .unset, .unset, .unset, .unset] [(.int x1), (.ref a1)])) (fun _ k => XS.astore X7.here hx rfl (hb hby at_8) rfl rfl (l' := #[.val (.int x0), .val (.int x1), .val (.int x2), .val (.int x3), .val (.int x4), .val (.int x5), .val (.ref a1), .unset, .unset, .unset, .unset]) rfl (XS.aload X7.here hx rfl (hb hby at_10) rfl rfl (XS.iloadN X7.here hx rfl (hb hby at_12) rfl k))) ?_
    refine Goes.callV X7 hx hZ 0 hown (own_w hw 25 rfl) (own_w hw 26 rfl) (notFace_of_selects (args := #[]) (mvT hZ (own_w hw 28 rfl))) (own_w hw 28 rfl) (own_w hw 27 rfl) (own_w hw 2 rfl) (own_w hw 29 rfl) (by decide) rfl A7 (rmA l Z a0 hw a1 x1 t b (0 : Int32) (0 : Int32) 2 (fun _ => (0 : Int32)) T7.heap n0 Z9 A7 Ft7 Fb7 Fk7 Fs7 Er7 Eb7 BB7 G1 gt gb BT7 (by decide) (by decide)) (by decide) (by decide) (by decide) (by decide) rfl (by rw [hml]; rfl) (argsL := [(.int x1)]) (rest := []) rfl (lenOf pd_3 rfl) rfl (by show 2 * 0 + _ ≤ _; exact Nat.le_of_eq rfl) (hb hby at_13) ?_
    intro v66 T66 L66 X66 hQ66
    obtain ⟨rfl, N66q, K66, A66, Ft66, Fb66, Fk66, Fs66, Er66, Eb66, BB66, BT66⟩ := hQ66
    have N66 := Fr.app N7 N66q
    show Goes p e below _ T66 (mkF m 16 #[.val (.int x0), .val (.int x1), .val (.int x2), .val (.int x3), .val (.int x4), .val (.int x5), .val (.ref a1), .unset, .unset, .unset, .unset] [])
    have Z71 : n0 ≤ T66.heap.size := Nat.le_trans Z9 K66.1
    refine Goes.on (T' := T66) (g' := (mkF m 19 #[.val (.int x0), .val (.int x1), .val (.int x2), .val (.int x3), .val (.int x4), .val (.int x5), .val (.ref a1), .unset, .unset, .unset, .unset] [(.int x2), (.ref a1)])) (fun _ k => XS.aload X66.here hx rfl (hb hby at_16) rfl rfl (XS.iloadN X66.here hx rfl (hb hby at_18) rfl k)) ?_
    refine Goes.callV X66 hx hZ 0 hown (own_w hw 25 rfl) (own_w hw 26 rfl) (notFace_of_selects (args := #[]) (mvT hZ (own_w hw 28 rfl))) (own_w hw 28 rfl) (own_w hw 27 rfl) (own_w hw 2 rfl) (own_w hw 29 rfl) (by decide) rfl A66 (rmA l Z a0 hw a1 x2 t b (1 : Int32) (1 : Int32) 2 (Upd (fun _ => (0 : Int32)) 0 x1) T66.heap n0 Z71 A66 Ft66 Fb66 Fk66 Fs66 Er66 Eb66 BB66 G1 gt gb BT66 (by decide) (by decide)) (by decide) (by decide) (by decide) (by decide) rfl (by rw [hml]; rfl) (argsL := [(.int x2)]) (rest := []) rfl (lenOf pd_3 rfl) rfl (by show 2 * 0 + _ ≤ _; exact Nat.le_of_eq rfl) (hb hby at_19) ?_
    intro v72 T72 L72 X72 hQ72
    obtain ⟨rfl, N72q, K72, A72, Ft72, Fb72, Fk72, Fs72, Er72, Eb72, BB72, BT72⟩ := hQ72
    have N72 := Fr.app N66 N72q
    show Goes p e below _ T72 (mkF m 22 #[.val (.int x0), .val (.int x1), .val (.int x2), .val (.int x3), .val (.int x4), .val (.int x5), .val (.ref a1), .unset, .unset, .unset, .unset] [])
    have Z77 : n0 ≤ T72.heap.size := Nat.le_trans Z71 K72.1
    refine Goes.on (T' := T72) (g' := (mkF m 25 #[.val (.int x0), .val (.int x1), .val (.int x2), .val (.int x3), .val (.int x4), .val (.int x5), .val (.ref a1), .unset, .unset, .unset, .unset] [(.int x3), (.ref a1)])) (fun _ k => XS.aload X72.here hx rfl (hb hby at_22) rfl rfl (XS.iloadN X72.here hx rfl (hb hby at_24) rfl k)) ?_
    refine Goes.callV X72 hx hZ 0 hown (own_w hw 25 rfl) (own_w hw 26 rfl) (notFace_of_selects (args := #[]) (mvT hZ (own_w hw 28 rfl))) (own_w hw 28 rfl) (own_w hw 27 rfl) (own_w hw 2 rfl) (own_w hw 29 rfl) (by decide) rfl A72 (rmG2 l Z a0 hw a1 x3 t b (2 : Int32) (Upd (Upd (fun _ => (0 : Int32)) 0 x1) 1 x2) T72.heap n0 Z77 A72 Ft72 Fb72 Fk72 Fs72 Er72 Eb72 BB72 G1 gt gb BT72) (by decide) (by decide) (by decide) (by decide) rfl (by rw [hml]; rfl) (argsL := [(.int x3)]) (rest := []) rfl (lenOf pd_3 rfl) rfl (by show 2 * 0 + _ ≤ _; exact Nat.le_of_eq rfl) (hb hby at_25) ?_
    intro v78 T78 L78 X78 hQ78
    obtain ⟨r3, rfl, M78, N78q, K78, A78, Ft78, Fb78, Fk78, Fs78, Er78, Eb78, BB78, BT78⟩ := hQ78
    have N78 := Fr.app N72 N78q
    show Goes p e below _ T78 (mkF m 28 #[.val (.int x0), .val (.int x1), .val (.int x2), .val (.int x3), .val (.int x4), .val (.int x5), .val (.ref a1), .unset, .unset, .unset, .unset] [])
    have ngr3 : n0 ≤ r3 := Nat.le_trans Z77 M78
    have na1r3 : a1 ≠ r3 := Nat.ne_of_lt (Nat.lt_of_lt_of_le (A72).lt M78)
    have nbr3 : b ≠ r3 := Nat.ne_of_lt (Nat.lt_of_lt_of_le (Eb72).lt M78)
    have Z81 : n0 ≤ T78.heap.size := Nat.le_trans Z77 K78.1
    refine Goes.on (T' := T78) (g' := (mkF m 37 #[.val (.int x0), .val (.int x1), .val (.int x2), .val (.int x3), .val (.int x4), .val (.int x5), .val (.ref a1), .val (.int ((x4 &&& (2147483647 : Int32)) % (3 : Int32))), .unset, .unset, .unset] [])) (fun _ k => XS.iload X78.here hx rfl (hb hby at_28) rfl (X78.ldcInt hx hown (mvT hZ (own_w hw 47 rfl)) (g := (mkF m 30 #[.val (.int x0), .val (.int x1), .val (.int x2), .val (.int x3), .val (.int x4), .val (.int x5), .val (.ref a1), .unset, .unset, .unset, .unset] [(.int x4)])) rfl (hb hby at_30) _ (XS.iand X78.here hx rfl (hb hby at_32) rfl (XS.iconst X78.here hx rfl (hb hby at_33) (iremM X78 hx rfl (hb hby at_34) rfl (by decide) (XS.istore X78.here hx rfl (hb hby at_35) rfl (l' := #[.val (.int x0), .val (.int x1), .val (.int x2), .val (.int x3), .val (.int x4), .val (.int x5), .val (.ref a1), .val (.int ((x4 &&& (2147483647 : Int32)) % (3 : Int32))), .unset, .unset, .unset]) rfl k)))))) ?_
    have bI := own_i3 x4
    generalize ((x4 &&& (2147483647 : Int32)) % (3 : Int32)) = I at bI ⊢
    obtain rfl | rfl | rfl := bI
    · refine Goes.on (T' := T78) (g' := (mkF m 43 #[.val (.int x0), .val (.int x1), .val (.int x2), .val (.int x3), .val (.int x4), .val (.int x5), .val (.ref a1), .val (.int (0 : Int32)), .unset, .unset, .unset] [(.int x5), (.int (0 : Int32)), (.ref a1)])) (fun _ k => XS.aload X78.here hx rfl (hb hby at_37) rfl rfl (XS.iload X78.here hx rfl (hb hby at_39) rfl (XS.iload X78.here hx rfl (hb hby at_41) rfl k))) ?_
      refine Goes.callV X78 hx hZ 0 hown (own_w hw 48 rfl) (own_w hw 49 rfl) (notFace_of_selects (args := #[]) (mvT hZ (own_w hw 51 rfl))) (own_w hw 51 rfl) (own_w hw 50 rfl) (own_w hw 2 rfl) (own_w hw 52 rfl) (by decide) rfl A78 (rmS l Z a0 hw a1 (0 : Int32) x5 r3 b 4 (Upd (fun i => if i < 2 then (Upd (Upd (fun _ => (0 : Int32)) 0 x1) 1 x2) i else (fun _ => (0 : Int32)) i) 2 x3) T78.heap n0 Z81 Fb78 BB78 BT78 (by decide) (by decide) ngr3 nbr3 na1r3) (by decide) (by decide) (by decide) (by decide) rfl (by rw [hml]; rfl) (argsL := [(.int (0 : Int32)), (.int x5)]) (rest := []) rfl (lenOf pd_4 rfl) rfl (by show 2 * 0 + _ ≤ _; exact Nat.le_of_eq rfl) (hb hby at_43) ?_
      intro v82 T82 L82 X82 hQ82
      obtain ⟨rfl, N82q, K82, B82⟩ := hQ82
      have N82 := Fr.app N78 N82q
      show Goes p e below _ T82 (mkF m 46 #[.val (.int x0), .val (.int x1), .val (.int x2), .val (.int x3), .val (.int x4), .val (.int x5), .val (.ref a1), .val (.int (0 : Int32)), .unset, .unset, .unset] [])
      have C83 := A78.keep K82
      have C87 := Fb78.keep K82 (ninS na1r3 nin0)
      have C89 := Fs78.keep K82 (ninS na1r3 nin0)
      have C90 := BB78.keep K82 (ninS nbr3 nin0)
      have Z91 : n0 ≤ T82.heap.size := Nat.le_trans Z81 K82.1
      refine Goes.on (T' := T82) (g' := (mkF m 76 #[.val (.int x0), .val (.int x1), .val (.int x2), .val (.int x3), .val (.int x4), .val (.int x5), .val (.ref a1), .val (.int (0 : Int32)), .val (.int x5), .val (.int x2), .unset] [(.int (2 : Int32)), (.int (0 : Int32))])) (fun _ k => XS.iload X82.here hx rfl (hb hby at_46) rfl (XS.ifNo X82.here hx rfl (hb hby at_48) rfl (XT.i0_ne_f (by decide)) (XS.iload X82.here hx rfl (hb hby at_51) rfl (XS.goto X82.here hx rfl (pc0 := 53) (pc' := 57) rfl (hb hby at_53) (by decide) (by decide) (XS.istore X82.here hx rfl (hb hby at_57) rfl (l' := #[.val (.int x0), .val (.int x1), .val (.int x2), .val (.int x3), .val (.int x4), .val (.int x5), .val (.ref a1), .val (.int (0 : Int32)), .val (.int x5), .unset, .unset]) rfl (XS.iload X82.here hx rfl (hb hby at_59) rfl (XS.iconst X82.here hx rfl (hb hby at_61) (XS.icmpYes X82.here hx rfl (pc0 := 62) (pc' := 70) rfl (hb hby at_62) rfl (XT.ii_ne_t (by decide)) (by decide) (by decide) (XS.iloadN X82.here hx rfl (hb hby at_70) rfl (XS.istore X82.here hx rfl (hb hby at_71) rfl (l' := #[.val (.int x0), .val (.int x1), .val (.int x2), .val (.int x3), .val (.int x4), .val (.int x5), .val (.ref a1), .val (.int (0 : Int32)), .val (.int x5), .val (.int x2), .unset]) rfl (XS.iload X82.here hx rfl (hb hby at_73) rfl (XS.iconst X82.here hx rfl (hb hby at_75) k)))))))))))) ?_
      refine Goes.on (T' := T82) (g' := (mkF m 89 #[.val (.int x0), .val (.int x1), .val (.int x2), .val (.int x3), .val (.int x4), .val (.int x5), .val (.ref a1), .val (.int (0 : Int32)), .val (.int x5), .val (.int x2), .val (.int x3)] [(.ref a1)])) (fun _ k => XS.icmpYes X82.here hx rfl (pc0 := 76) (pc' := 84) rfl (hb hby at_76) rfl (XT.ii_ne_t (by decide)) (by decide) (by decide) (XS.iloadN X82.here hx rfl (hb hby at_84) rfl (XS.istore X82.here hx rfl (hb hby at_85) rfl (l' := #[.val (.int x0), .val (.int x1), .val (.int x2), .val (.int x3), .val (.int x4), .val (.int x5), .val (.ref a1), .val (.int (0 : Int32)), .val (.int x5), .val (.int x2), .val (.int x3)]) rfl (XS.aload X82.here hx rfl (hb hby at_87) rfl rfl k)))) ?_
      refine Goes.callV X82 hx hZ 0 hown (own_w hw 53 rfl) (own_w hw 54 rfl) (notFace_of_selects (args := #[]) (mvT hZ (own_w hw 56 rfl))) (own_w hw 56 rfl) (own_w hw 55 rfl) (own_w hw 2 rfl) (own_w hw 57 rfl) (by decide) rfl C83 (rmZ l Z a0 hw a1 (3 : Int32) T82.heap n0 Z91 C89) (by decide) (by decide) (by decide) (by decide) rfl (by rw [hml]; rfl) (argsL := []) (rest := []) rfl (lenOf pd_5 rfl) rfl (by show 2 * 0 + _ ≤ _; exact Nat.le_of_eq rfl) (hb hby at_89) ?_
      intro v92 T92 L92 X92 hQ92
      obtain ⟨rfl, N92q, e92⟩ := hQ92
      have N92 := Fr.app N82 N92q
      show Goes p e below _ T92 (mkF m 92 #[.val (.int x0), .val (.int x1), .val (.int x2), .val (.int x3), .val (.int x4), .val (.int x5), .val (.ref a1), .val (.int (0 : Int32)), .val (.int x5), .val (.int x2), .val (.int x3)] [(.int (3 : Int32))])
      refine Goes.on (T' := T92) (g' := (mkF m 99 #[.val (.int x0), .val (.int x1), .val (.int x2), .val (.int x3), .val (.int x4), .val (.int x5), .val (.ref a1), .val (.int (0 : Int32)), .val (.int x5), .val (.int x2), .val (.int x3)] [(.int (0 : Int32)), (.ref a1)])) (fun _ k => XS.iconst X92.here hx rfl (hb hby at_92) (XS.icmpNo X92.here hx rfl (hb hby at_93) rfl (XT.ii_ne_f (by decide)) (XS.aload X92.here hx rfl (hb hby at_96) rfl rfl (XS.iconst X92.here hx rfl (hb hby at_98) k)))) ?_
      refine Goes.callV X92 hx hZ 0 hown (own_w hw 58 rfl) (own_w hw 59 rfl) (notFace_of_selects (args := #[]) (mvT hZ (own_w hw 61 rfl))) (own_w hw 61 rfl) (own_w hw 60 rfl) (own_w hw 2 rfl) (own_w hw 62 rfl) (by decide) e92 C83 (rmT l Z a0 hw a1 (0 : Int32) r3 b 4 (Upd (Upd (fun i => if i < 2 then (Upd (Upd (fun _ => (0 : Int32)) 0 x1) 1 x2) i else (fun _ => (0 : Int32)) i) 2 x3) 0 x5) T82.heap n0 Z91 C87 C90 B82 (by decide) (by decide)) (by decide) (by decide) (by decide) (by decide) rfl (by rw [hml]; rfl) (argsL := [(.int (0 : Int32))]) (rest := []) rfl (lenOf pd_6 rfl) rfl (by show 2 * 0 + _ ≤ _; exact Nat.le_of_eq rfl) (hb hby at_99) ?_
      intro v93 T93 L93 X93 hQ93
      obtain ⟨rfl, N93q, e93⟩ := hQ93
      have N93 := Fr.app N92 N93q
      show Goes p e below _ T93 (mkF m 102 #[.val (.int x0), .val (.int x1), .val (.int x2), .val (.int x3), .val (.int x4), .val (.int x5), .val (.ref a1), .val (.int (0 : Int32)), .val (.int x5), .val (.int x2), .val (.int x3)] [(.int ((Upd (Upd (fun i => if i < 2 then (Upd (Upd (fun _ => (0 : Int32)) 0 x1) 1 x2) i else (fun _ => (0 : Int32)) i) 2 x3) 0 x5) 0))])
      refine Goes.on (T' := T93) (g' := (mkF m 110 #[.val (.int x0), .val (.int x1), .val (.int x2), .val (.int x3), .val (.int x4), .val (.int x5), .val (.ref a1), .val (.int (0 : Int32)), .val (.int x5), .val (.int x2), .val (.int x3)] [(.int (1 : Int32)), (.ref a1)])) (fun _ k => XS.iload X93.here hx rfl (hb hby at_102) rfl (XS.icmpNo X93.here hx rfl (hb hby at_104) rfl (XT.ii_ne_f rfl) (XS.aload X93.here hx rfl (hb hby at_107) rfl rfl (XS.iconst X93.here hx rfl (hb hby at_109) k)))) ?_
      refine Goes.callV X93 hx hZ 0 hown (own_w hw 58 rfl) (own_w hw 59 rfl) (notFace_of_selects (args := #[]) (mvT hZ (own_w hw 61 rfl))) (own_w hw 61 rfl) (own_w hw 60 rfl) (own_w hw 2 rfl) (own_w hw 62 rfl) (by decide) e93 C83 (rmT l Z a0 hw a1 (1 : Int32) r3 b 4 (Upd (Upd (fun i => if i < 2 then (Upd (Upd (fun _ => (0 : Int32)) 0 x1) 1 x2) i else (fun _ => (0 : Int32)) i) 2 x3) 0 x5) T82.heap n0 Z91 C87 C90 B82 (by decide) (by decide)) (by decide) (by decide) (by decide) (by decide) rfl (by rw [hml]; rfl) (argsL := [(.int (1 : Int32))]) (rest := []) rfl (lenOf pd_6 rfl) rfl (by show 2 * 0 + _ ≤ _; exact Nat.le_of_eq rfl) (hb hby at_110) ?_
      intro v94 T94 L94 X94 hQ94
      obtain ⟨rfl, N94q, e94⟩ := hQ94
      have N94 := Fr.app N93 N94q
      show Goes p e below _ T94 (mkF m 113 #[.val (.int x0), .val (.int x1), .val (.int x2), .val (.int x3), .val (.int x4), .val (.int x5), .val (.ref a1), .val (.int (0 : Int32)), .val (.int x5), .val (.int x2), .val (.int x3)] [(.int ((Upd (Upd (fun i => if i < 2 then (Upd (Upd (fun _ => (0 : Int32)) 0 x1) 1 x2) i else (fun _ => (0 : Int32)) i) 2 x3) 0 x5) 1))])
      refine Goes.on (T' := T94) (g' := (mkF m 121 #[.val (.int x0), .val (.int x1), .val (.int x2), .val (.int x3), .val (.int x4), .val (.int x5), .val (.ref a1), .val (.int (0 : Int32)), .val (.int x5), .val (.int x2), .val (.int x3)] [(.int (2 : Int32)), (.ref a1)])) (fun _ k => XS.iload X94.here hx rfl (hb hby at_113) rfl (XS.icmpNo X94.here hx rfl (hb hby at_115) rfl (XT.ii_ne_f rfl) (XS.aload X94.here hx rfl (hb hby at_118) rfl rfl (XS.iconst X94.here hx rfl (hb hby at_120) k)))) ?_
      refine Goes.callV X94 hx hZ 0 hown (own_w hw 58 rfl) (own_w hw 59 rfl) (notFace_of_selects (args := #[]) (mvT hZ (own_w hw 61 rfl))) (own_w hw 61 rfl) (own_w hw 60 rfl) (own_w hw 2 rfl) (own_w hw 62 rfl) (by decide) e94 C83 (rmT l Z a0 hw a1 (2 : Int32) r3 b 4 (Upd (Upd (fun i => if i < 2 then (Upd (Upd (fun _ => (0 : Int32)) 0 x1) 1 x2) i else (fun _ => (0 : Int32)) i) 2 x3) 0 x5) T82.heap n0 Z91 C87 C90 B82 (by decide) (by decide)) (by decide) (by decide) (by decide) (by decide) rfl (by rw [hml]; rfl) (argsL := [(.int (2 : Int32))]) (rest := []) rfl (lenOf pd_6 rfl) rfl (by show 2 * 0 + _ ≤ _; exact Nat.le_of_eq rfl) (hb hby at_121) ?_
      intro v95 T95 L95 X95 hQ95
      obtain ⟨rfl, N95q, e95⟩ := hQ95
      have N95 := Fr.app N94 N95q
      show Goes p e below _ T95 (mkF m 124 #[.val (.int x0), .val (.int x1), .val (.int x2), .val (.int x3), .val (.int x4), .val (.int x5), .val (.ref a1), .val (.int (0 : Int32)), .val (.int x5), .val (.int x2), .val (.int x3)] [(.int ((Upd (Upd (fun i => if i < 2 then (Upd (Upd (fun _ => (0 : Int32)) 0 x1) 1 x2) i else (fun _ => (0 : Int32)) i) 2 x3) 0 x5) 2))])
      refine Goes.on (T' := T95) (g' := (mkF m 134 #[.val (.int x0), .val (.int x1), .val (.int x2), .val (.int x3), .val (.int x4), .val (.int x5), .val (.ref a1), .val (.int (0 : Int32)), .val (.int x5), .val (.int x2), .val (.int x3)] [(.int (1 : Int32))])) (fun _ k => XS.iload X95.here hx rfl (hb hby at_124) rfl (XS.icmpNo X95.here hx rfl (hb hby at_126) rfl (XT.ii_ne_f rfl) (XS.iconst X95.here hx rfl (hb hby at_129) (XS.goto X95.here hx rfl (pc0 := 130) (pc' := 134) rfl (hb hby at_130) (by decide) (by decide) k)))) ?_
      exact Goes.retB X95 hx hlk hret (Or.inr rfl) (hb hby at_134) (by decide) (by decide) ⟨rfl, N95⟩
    · refine Goes.on (T' := T78) (g' := (mkF m 43 #[.val (.int x0), .val (.int x1), .val (.int x2), .val (.int x3), .val (.int x4), .val (.int x5), .val (.ref a1), .val (.int (1 : Int32)), .unset, .unset, .unset] [(.int x5), (.int (1 : Int32)), (.ref a1)])) (fun _ k => XS.aload X78.here hx rfl (hb hby at_37) rfl rfl (XS.iload X78.here hx rfl (hb hby at_39) rfl (XS.iload X78.here hx rfl (hb hby at_41) rfl k))) ?_
      refine Goes.callV X78 hx hZ 0 hown (own_w hw 48 rfl) (own_w hw 49 rfl) (notFace_of_selects (args := #[]) (mvT hZ (own_w hw 51 rfl))) (own_w hw 51 rfl) (own_w hw 50 rfl) (own_w hw 2 rfl) (own_w hw 52 rfl) (by decide) rfl A78 (rmS l Z a0 hw a1 (1 : Int32) x5 r3 b 4 (Upd (fun i => if i < 2 then (Upd (Upd (fun _ => (0 : Int32)) 0 x1) 1 x2) i else (fun _ => (0 : Int32)) i) 2 x3) T78.heap n0 Z81 Fb78 BB78 BT78 (by decide) (by decide) ngr3 nbr3 na1r3) (by decide) (by decide) (by decide) (by decide) rfl (by rw [hml]; rfl) (argsL := [(.int (1 : Int32)), (.int x5)]) (rest := []) rfl (lenOf pd_4 rfl) rfl (by show 2 * 0 + _ ≤ _; exact Nat.le_of_eq rfl) (hb hby at_43) ?_
      intro v96 T96 L96 X96 hQ96
      obtain ⟨rfl, N96q, K96, B96⟩ := hQ96
      have N96 := Fr.app N78 N96q
      show Goes p e below _ T96 (mkF m 46 #[.val (.int x0), .val (.int x1), .val (.int x2), .val (.int x3), .val (.int x4), .val (.int x5), .val (.ref a1), .val (.int (1 : Int32)), .unset, .unset, .unset] [])
      have C97 := A78.keep K96
      have C101 := Fb78.keep K96 (ninS na1r3 nin0)
      have C103 := Fs78.keep K96 (ninS na1r3 nin0)
      have C104 := BB78.keep K96 (ninS nbr3 nin0)
      have Z105 : n0 ≤ T96.heap.size := Nat.le_trans Z81 K96.1
      refine Goes.on (T' := T96) (g' := (mkF m 76 #[.val (.int x0), .val (.int x1), .val (.int x2), .val (.int x3), .val (.int x4), .val (.int x5), .val (.ref a1), .val (.int (1 : Int32)), .val (.int x1), .val (.int x5), .unset] [(.int (2 : Int32)), (.int (1 : Int32))])) (fun _ k => XS.iload X96.here hx rfl (hb hby at_46) rfl (XS.ifYes X96.here hx rfl (pc0 := 48) (pc' := 56) rfl (hb hby at_48) rfl (XT.i0_ne_t (by decide)) (by decide) (by decide) (XS.iloadN X96.here hx rfl (hb hby at_56) rfl (XS.istore X96.here hx rfl (hb hby at_57) rfl (l' := #[.val (.int x0), .val (.int x1), .val (.int x2), .val (.int x3), .val (.int x4), .val (.int x5), .val (.ref a1), .val (.int (1 : Int32)), .val (.int x1), .unset, .unset]) rfl (XS.iload X96.here hx rfl (hb hby at_59) rfl (XS.iconst X96.here hx rfl (hb hby at_61) (XS.icmpNo X96.here hx rfl (hb hby at_62) rfl (XT.ii_ne_f (by decide)) (XS.iload X96.here hx rfl (hb hby at_65) rfl (XS.goto X96.here hx rfl (pc0 := 67) (pc' := 71) rfl (hb hby at_67) (by decide) (by decide) (XS.istore X96.here hx rfl (hb hby at_71) rfl (l' := #[.val (.int x0), .val (.int x1), .val (.int x2), .val (.int x3), .val (.int x4), .val (.int x5), .val (.ref a1), .val (.int (1 : Int32)), .val (.int x1), .val (.int x5), .unset]) rfl (XS.iload X96.here hx rfl (hb hby at_73) rfl (XS.iconst X96.here hx rfl (hb hby at_75) k)))))))))))) ?_
      refine Goes.on (T' := T96) (g' := (mkF m 89 #[.val (.int x0), .val (.int x1), .val (.int x2), .val (.int x3), .val (.int x4), .val (.int x5), .val (.ref a1), .val (.int (1 : Int32)), .val (.int x1), .val (.int x5), .val (.int x3)] [(.ref a1)])) (fun _ k => XS.icmpYes X96.here hx rfl (pc0 := 76) (pc' := 84) rfl (hb hby at_76) rfl (XT.ii_ne_t (by decide)) (by decide) (by decide) (XS.iloadN X96.here hx rfl (hb hby at_84) rfl (XS.istore X96.here hx rfl (hb hby at_85) rfl (l' := #[.val (.int x0), .val (.int x1), .val (.int x2), .val (.int x3), .val (.int x4), .val (.int x5), .val (.ref a1), .val (.int (1 : Int32)), .val (.int x1), .val (.int x5), .val (.int x3)]) rfl (XS.aload X96.here hx rfl (hb hby at_87) rfl rfl k)))) ?_
      refine Goes.callV X96 hx hZ 0 hown (own_w hw 53 rfl) (own_w hw 54 rfl) (notFace_of_selects (args := #[]) (mvT hZ (own_w hw 56 rfl))) (own_w hw 56 rfl) (own_w hw 55 rfl) (own_w hw 2 rfl) (own_w hw 57 rfl) (by decide) rfl C97 (rmZ l Z a0 hw a1 (3 : Int32) T96.heap n0 Z105 C103) (by decide) (by decide) (by decide) (by decide) rfl (by rw [hml]; rfl) (argsL := []) (rest := []) rfl (lenOf pd_5 rfl) rfl (by show 2 * 0 + _ ≤ _; exact Nat.le_of_eq rfl) (hb hby at_89) ?_
      intro v106 T106 L106 X106 hQ106
      obtain ⟨rfl, N106q, e106⟩ := hQ106
      have N106 := Fr.app N96 N106q
      show Goes p e below _ T106 (mkF m 92 #[.val (.int x0), .val (.int x1), .val (.int x2), .val (.int x3), .val (.int x4), .val (.int x5), .val (.ref a1), .val (.int (1 : Int32)), .val (.int x1), .val (.int x5), .val (.int x3)] [(.int (3 : Int32))])
      refine Goes.on (T' := T106) (g' := (mkF m 99 #[.val (.int x0), .val (.int x1), .val (.int x2), .val (.int x3), .val (.int x4), .val (.int x5), .val (.ref a1), .val (.int (1 : Int32)), .val (.int x1), .val (.int x5), .val (.int x3)] [(.int (0 : Int32)), (.ref a1)])) (fun _ k => XS.iconst X106.here hx rfl (hb hby at_92) (XS.icmpNo X106.here hx rfl (hb hby at_93) rfl (XT.ii_ne_f (by decide)) (XS.aload X106.here hx rfl (hb hby at_96) rfl rfl (XS.iconst X106.here hx rfl (hb hby at_98) k)))) ?_
      refine Goes.callV X106 hx hZ 0 hown (own_w hw 58 rfl) (own_w hw 59 rfl) (notFace_of_selects (args := #[]) (mvT hZ (own_w hw 61 rfl))) (own_w hw 61 rfl) (own_w hw 60 rfl) (own_w hw 2 rfl) (own_w hw 62 rfl) (by decide) e106 C97 (rmT l Z a0 hw a1 (0 : Int32) r3 b 4 (Upd (Upd (fun i => if i < 2 then (Upd (Upd (fun _ => (0 : Int32)) 0 x1) 1 x2) i else (fun _ => (0 : Int32)) i) 2 x3) 1 x5) T96.heap n0 Z105 C101 C104 B96 (by decide) (by decide)) (by decide) (by decide) (by decide) (by decide) rfl (by rw [hml]; rfl) (argsL := [(.int (0 : Int32))]) (rest := []) rfl (lenOf pd_6 rfl) rfl (by show 2 * 0 + _ ≤ _; exact Nat.le_of_eq rfl) (hb hby at_99) ?_
      intro v107 T107 L107 X107 hQ107
      obtain ⟨rfl, N107q, e107⟩ := hQ107
      have N107 := Fr.app N106 N107q
      show Goes p e below _ T107 (mkF m 102 #[.val (.int x0), .val (.int x1), .val (.int x2), .val (.int x3), .val (.int x4), .val (.int x5), .val (.ref a1), .val (.int (1 : Int32)), .val (.int x1), .val (.int x5), .val (.int x3)] [(.int ((Upd (Upd (fun i => if i < 2 then (Upd (Upd (fun _ => (0 : Int32)) 0 x1) 1 x2) i else (fun _ => (0 : Int32)) i) 2 x3) 1 x5) 0))])
      refine Goes.on (T' := T107) (g' := (mkF m 110 #[.val (.int x0), .val (.int x1), .val (.int x2), .val (.int x3), .val (.int x4), .val (.int x5), .val (.ref a1), .val (.int (1 : Int32)), .val (.int x1), .val (.int x5), .val (.int x3)] [(.int (1 : Int32)), (.ref a1)])) (fun _ k => XS.iload X107.here hx rfl (hb hby at_102) rfl (XS.icmpNo X107.here hx rfl (hb hby at_104) rfl (XT.ii_ne_f rfl) (XS.aload X107.here hx rfl (hb hby at_107) rfl rfl (XS.iconst X107.here hx rfl (hb hby at_109) k)))) ?_
      refine Goes.callV X107 hx hZ 0 hown (own_w hw 58 rfl) (own_w hw 59 rfl) (notFace_of_selects (args := #[]) (mvT hZ (own_w hw 61 rfl))) (own_w hw 61 rfl) (own_w hw 60 rfl) (own_w hw 2 rfl) (own_w hw 62 rfl) (by decide) e107 C97 (rmT l Z a0 hw a1 (1 : Int32) r3 b 4 (Upd (Upd (fun i => if i < 2 then (Upd (Upd (fun _ => (0 : Int32)) 0 x1) 1 x2) i else (fun _ => (0 : Int32)) i) 2 x3) 1 x5) T96.heap n0 Z105 C101 C104 B96 (by decide) (by decide)) (by decide) (by decide) (by decide) (by decide) rfl (by rw [hml]; rfl) (argsL := [(.int (1 : Int32))]) (rest := []) rfl (lenOf pd_6 rfl) rfl (by show 2 * 0 + _ ≤ _; exact Nat.le_of_eq rfl) (hb hby at_110) ?_
      intro v108 T108 L108 X108 hQ108
      obtain ⟨rfl, N108q, e108⟩ := hQ108
      have N108 := Fr.app N107 N108q
      show Goes p e below _ T108 (mkF m 113 #[.val (.int x0), .val (.int x1), .val (.int x2), .val (.int x3), .val (.int x4), .val (.int x5), .val (.ref a1), .val (.int (1 : Int32)), .val (.int x1), .val (.int x5), .val (.int x3)] [(.int ((Upd (Upd (fun i => if i < 2 then (Upd (Upd (fun _ => (0 : Int32)) 0 x1) 1 x2) i else (fun _ => (0 : Int32)) i) 2 x3) 1 x5) 1))])
      refine Goes.on (T' := T108) (g' := (mkF m 121 #[.val (.int x0), .val (.int x1), .val (.int x2), .val (.int x3), .val (.int x4), .val (.int x5), .val (.ref a1), .val (.int (1 : Int32)), .val (.int x1), .val (.int x5), .val (.int x3)] [(.int (2 : Int32)), (.ref a1)])) (fun _ k => XS.iload X108.here hx rfl (hb hby at_113) rfl (XS.icmpNo X108.here hx rfl (hb hby at_115) rfl (XT.ii_ne_f rfl) (XS.aload X108.here hx rfl (hb hby at_118) rfl rfl (XS.iconst X108.here hx rfl (hb hby at_120) k)))) ?_
      refine Goes.callV X108 hx hZ 0 hown (own_w hw 58 rfl) (own_w hw 59 rfl) (notFace_of_selects (args := #[]) (mvT hZ (own_w hw 61 rfl))) (own_w hw 61 rfl) (own_w hw 60 rfl) (own_w hw 2 rfl) (own_w hw 62 rfl) (by decide) e108 C97 (rmT l Z a0 hw a1 (2 : Int32) r3 b 4 (Upd (Upd (fun i => if i < 2 then (Upd (Upd (fun _ => (0 : Int32)) 0 x1) 1 x2) i else (fun _ => (0 : Int32)) i) 2 x3) 1 x5) T96.heap n0 Z105 C101 C104 B96 (by decide) (by decide)) (by decide) (by decide) (by decide) (by decide) rfl (by rw [hml]; rfl) (argsL := [(.int (2 : Int32))]) (rest := []) rfl (lenOf pd_6 rfl) rfl (by show 2 * 0 + _ ≤ _; exact Nat.le_of_eq rfl) (hb hby at_121) ?_
      intro v109 T109 L109 X109 hQ109
      obtain ⟨rfl, N109q, e109⟩ := hQ109
      have N109 := Fr.app N108 N109q
      show Goes p e below _ T109 (mkF m 124 #[.val (.int x0), .val (.int x1), .val (.int x2), .val (.int x3), .val (.int x4), .val (.int x5), .val (.ref a1), .val (.int (1 : Int32)), .val (.int x1), .val (.int x5), .val (.int x3)] [(.int ((Upd (Upd (fun i => if i < 2 then (Upd (Upd (fun _ => (0 : Int32)) 0 x1) 1 x2) i else (fun _ => (0 : Int32)) i) 2 x3) 1 x5) 2))])
      refine Goes.on (T' := T109) (g' := (mkF m 134 #[.val (.int x0), .val (.int x1), .val (.int x2), .val (.int x3), .val (.int x4), .val (.int x5), .val (.ref a1), .val (.int (1 : Int32)), .val (.int x1), .val (.int x5), .val (.int x3)] [(.int (1 : Int32))])) (fun _ k => XS.iload X109.here hx rfl (hb hby at_124) rfl (XS.icmpNo X109.here hx rfl (hb hby at_126) rfl (XT.ii_ne_f rfl) (XS.iconst X109.here hx rfl (hb hby at_129) (XS.goto X109.here hx rfl (pc0 := 130) (pc' := 134) rfl (hb hby at_130) (by decide) (by decide) k)))) ?_
      exact Goes.retB X109 hx hlk hret (Or.inr rfl) (hb hby at_134) (by decide) (by decide) ⟨rfl, N109⟩
    · refine Goes.on (T' := T78) (g' := (mkF m 43 #[.val (.int x0), .val (.int x1), .val (.int x2), .val (.int x3), .val (.int x4), .val (.int x5), .val (.ref a1), .val (.int (2 : Int32)), .unset, .unset, .unset] [(.int x5), (.int (2 : Int32)), (.ref a1)])) (fun _ k => XS.aload X78.here hx rfl (hb hby at_37) rfl rfl (XS.iload X78.here hx rfl (hb hby at_39) rfl (XS.iload X78.here hx rfl (hb hby at_41) rfl k))) ?_
      refine Goes.callV X78 hx hZ 0 hown (own_w hw 48 rfl) (own_w hw 49 rfl) (notFace_of_selects (args := #[]) (mvT hZ (own_w hw 51 rfl))) (own_w hw 51 rfl) (own_w hw 50 rfl) (own_w hw 2 rfl) (own_w hw 52 rfl) (by decide) rfl A78 (rmS l Z a0 hw a1 (2 : Int32) x5 r3 b 4 (Upd (fun i => if i < 2 then (Upd (Upd (fun _ => (0 : Int32)) 0 x1) 1 x2) i else (fun _ => (0 : Int32)) i) 2 x3) T78.heap n0 Z81 Fb78 BB78 BT78 (by decide) (by decide) ngr3 nbr3 na1r3) (by decide) (by decide) (by decide) (by decide) rfl (by rw [hml]; rfl) (argsL := [(.int (2 : Int32)), (.int x5)]) (rest := []) rfl (lenOf pd_4 rfl) rfl (by show 2 * 0 + _ ≤ _; exact Nat.le_of_eq rfl) (hb hby at_43) ?_
      intro v110 T110 L110 X110 hQ110
      obtain ⟨rfl, N110q, K110, B110⟩ := hQ110
      have N110 := Fr.app N78 N110q
      show Goes p e below _ T110 (mkF m 46 #[.val (.int x0), .val (.int x1), .val (.int x2), .val (.int x3), .val (.int x4), .val (.int x5), .val (.ref a1), .val (.int (2 : Int32)), .unset, .unset, .unset] [])
      have C111 := A78.keep K110
      have C115 := Fb78.keep K110 (ninS na1r3 nin0)
      have C117 := Fs78.keep K110 (ninS na1r3 nin0)
      have C118 := BB78.keep K110 (ninS nbr3 nin0)
      have Z119 : n0 ≤ T110.heap.size := Nat.le_trans Z81 K110.1
      refine Goes.on (T' := T110) (g' := (mkF m 79 #[.val (.int x0), .val (.int x1), .val (.int x2), .val (.int x3), .val (.int x4), .val (.int x5), .val (.ref a1), .val (.int (2 : Int32)), .val (.int x1), .val (.int x2), .unset] [])) (fun _ k => XS.iload X110.here hx rfl (hb hby at_46) rfl (XS.ifYes X110.here hx rfl (pc0 := 48) (pc' := 56) rfl (hb hby at_48) rfl (XT.i0_ne_t (by decide)) (by decide) (by decide) (XS.iloadN X110.here hx rfl (hb hby at_56) rfl (XS.istore X110.here hx rfl (hb hby at_57) rfl (l' := #[.val (.int x0), .val (.int x1), .val (.int x2), .val (.int x3), .val (.int x4), .val (.int x5), .val (.ref a1), .val (.int (2 : Int32)), .val (.int x1), .unset, .unset]) rfl (XS.iload X110.here hx rfl (hb hby at_59) rfl (XS.iconst X110.here hx rfl (hb hby at_61) (XS.icmpYes X110.here hx rfl (pc0 := 62) (pc' := 70) rfl (hb hby at_62) rfl (XT.ii_ne_t (by decide)) (by decide) (by decide) (XS.iloadN X110.here hx rfl (hb hby at_70) rfl (XS.istore X110.here hx rfl (hb hby at_71) rfl (l' := #[.val (.int x0), .val (.int x1), .val (.int x2), .val (.int x3), .val (.int x4), .val (.int x5), .val (.ref a1), .val (.int (2 : Int32)), .val (.int x1), .val (.int x2), .unset]) rfl (XS.iload X110.here hx rfl (hb hby at_73) rfl (XS.iconst X110.here hx rfl (hb hby at_75) (XS.icmpNo X110.here hx rfl (hb hby at_76) rfl (XT.ii_ne_f (by decide)) k)))))))))))) ?_
      refine Goes.on (T' := T110) (g' := (mkF m 89 #[.val (.int x0), .val (.int x1), .val (.int x2), .val (.int x3), .val (.int x4), .val (.int x5), .val (.ref a1), .val (.int (2 : Int32)), .val (.int x1), .val (.int x2), .val (.int x5)] [(.ref a1)])) (fun _ k => XS.iload X110.here hx rfl (hb hby at_79) rfl (XS.goto X110.here hx rfl (pc0 := 81) (pc' := 85) rfl (hb hby at_81) (by decide) (by decide) (XS.istore X110.here hx rfl (hb hby at_85) rfl (l' := #[.val (.int x0), .val (.int x1), .val (.int x2), .val (.int x3), .val (.int x4), .val (.int x5), .val (.ref a1), .val (.int (2 : Int32)), .val (.int x1), .val (.int x2), .val (.int x5)]) rfl (XS.aload X110.here hx rfl (hb hby at_87) rfl rfl k)))) ?_
      refine Goes.callV X110 hx hZ 0 hown (own_w hw 53 rfl) (own_w hw 54 rfl) (notFace_of_selects (args := #[]) (mvT hZ (own_w hw 56 rfl))) (own_w hw 56 rfl) (own_w hw 55 rfl) (own_w hw 2 rfl) (own_w hw 57 rfl) (by decide) rfl C111 (rmZ l Z a0 hw a1 (3 : Int32) T110.heap n0 Z119 C117) (by decide) (by decide) (by decide) (by decide) rfl (by rw [hml]; rfl) (argsL := []) (rest := []) rfl (lenOf pd_5 rfl) rfl (by show 2 * 0 + _ ≤ _; exact Nat.le_of_eq rfl) (hb hby at_89) ?_
      intro v120 T120 L120 X120 hQ120
      obtain ⟨rfl, N120q, e120⟩ := hQ120
      have N120 := Fr.app N110 N120q
      show Goes p e below _ T120 (mkF m 92 #[.val (.int x0), .val (.int x1), .val (.int x2), .val (.int x3), .val (.int x4), .val (.int x5), .val (.ref a1), .val (.int (2 : Int32)), .val (.int x1), .val (.int x2), .val (.int x5)] [(.int (3 : Int32))])
      refine Goes.on (T' := T120) (g' := (mkF m 99 #[.val (.int x0), .val (.int x1), .val (.int x2), .val (.int x3), .val (.int x4), .val (.int x5), .val (.ref a1), .val (.int (2 : Int32)), .val (.int x1), .val (.int x2), .val (.int x5)] [(.int (0 : Int32)), (.ref a1)])) (fun _ k => XS.iconst X120.here hx rfl (hb hby at_92) (XS.icmpNo X120.here hx rfl (hb hby at_93) rfl (XT.ii_ne_f (by decide)) (XS.aload X120.here hx rfl (hb hby at_96) rfl rfl (XS.iconst X120.here hx rfl (hb hby at_98) k)))) ?_
      refine Goes.callV X120 hx hZ 0 hown (own_w hw 58 rfl) (own_w hw 59 rfl) (notFace_of_selects (args := #[]) (mvT hZ (own_w hw 61 rfl))) (own_w hw 61 rfl) (own_w hw 60 rfl) (own_w hw 2 rfl) (own_w hw 62 rfl) (by decide) e120 C111 (rmT l Z a0 hw a1 (0 : Int32) r3 b 4 (Upd (Upd (fun i => if i < 2 then (Upd (Upd (fun _ => (0 : Int32)) 0 x1) 1 x2) i else (fun _ => (0 : Int32)) i) 2 x3) 2 x5) T110.heap n0 Z119 C115 C118 B110 (by decide) (by decide)) (by decide) (by decide) (by decide) (by decide) rfl (by rw [hml]; rfl) (argsL := [(.int (0 : Int32))]) (rest := []) rfl (lenOf pd_6 rfl) rfl (by show 2 * 0 + _ ≤ _; exact Nat.le_of_eq rfl) (hb hby at_99) ?_
      intro v121 T121 L121 X121 hQ121
      obtain ⟨rfl, N121q, e121⟩ := hQ121
      have N121 := Fr.app N120 N121q
      show Goes p e below _ T121 (mkF m 102 #[.val (.int x0), .val (.int x1), .val (.int x2), .val (.int x3), .val (.int x4), .val (.int x5), .val (.ref a1), .val (.int (2 : Int32)), .val (.int x1), .val (.int x2), .val (.int x5)] [(.int ((Upd (Upd (fun i => if i < 2 then (Upd (Upd (fun _ => (0 : Int32)) 0 x1) 1 x2) i else (fun _ => (0 : Int32)) i) 2 x3) 2 x5) 0))])
      refine Goes.on (T' := T121) (g' := (mkF m 110 #[.val (.int x0), .val (.int x1), .val (.int x2), .val (.int x3), .val (.int x4), .val (.int x5), .val (.ref a1), .val (.int (2 : Int32)), .val (.int x1), .val (.int x2), .val (.int x5)] [(.int (1 : Int32)), (.ref a1)])) (fun _ k => XS.iload X121.here hx rfl (hb hby at_102) rfl (XS.icmpNo X121.here hx rfl (hb hby at_104) rfl (XT.ii_ne_f rfl) (XS.aload X121.here hx rfl (hb hby at_107) rfl rfl (XS.iconst X121.here hx rfl (hb hby at_109) k)))) ?_
      refine Goes.callV X121 hx hZ 0 hown (own_w hw 58 rfl) (own_w hw 59 rfl) (notFace_of_selects (args := #[]) (mvT hZ (own_w hw 61 rfl))) (own_w hw 61 rfl) (own_w hw 60 rfl) (own_w hw 2 rfl) (own_w hw 62 rfl) (by decide) e121 C111 (rmT l Z a0 hw a1 (1 : Int32) r3 b 4 (Upd (Upd (fun i => if i < 2 then (Upd (Upd (fun _ => (0 : Int32)) 0 x1) 1 x2) i else (fun _ => (0 : Int32)) i) 2 x3) 2 x5) T110.heap n0 Z119 C115 C118 B110 (by decide) (by decide)) (by decide) (by decide) (by decide) (by decide) rfl (by rw [hml]; rfl) (argsL := [(.int (1 : Int32))]) (rest := []) rfl (lenOf pd_6 rfl) rfl (by show 2 * 0 + _ ≤ _; exact Nat.le_of_eq rfl) (hb hby at_110) ?_
      intro v122 T122 L122 X122 hQ122
      obtain ⟨rfl, N122q, e122⟩ := hQ122
      have N122 := Fr.app N121 N122q
      show Goes p e below _ T122 (mkF m 113 #[.val (.int x0), .val (.int x1), .val (.int x2), .val (.int x3), .val (.int x4), .val (.int x5), .val (.ref a1), .val (.int (2 : Int32)), .val (.int x1), .val (.int x2), .val (.int x5)] [(.int ((Upd (Upd (fun i => if i < 2 then (Upd (Upd (fun _ => (0 : Int32)) 0 x1) 1 x2) i else (fun _ => (0 : Int32)) i) 2 x3) 2 x5) 1))])
      refine Goes.on (T' := T122) (g' := (mkF m 121 #[.val (.int x0), .val (.int x1), .val (.int x2), .val (.int x3), .val (.int x4), .val (.int x5), .val (.ref a1), .val (.int (2 : Int32)), .val (.int x1), .val (.int x2), .val (.int x5)] [(.int (2 : Int32)), (.ref a1)])) (fun _ k => XS.iload X122.here hx rfl (hb hby at_113) rfl (XS.icmpNo X122.here hx rfl (hb hby at_115) rfl (XT.ii_ne_f rfl) (XS.aload X122.here hx rfl (hb hby at_118) rfl rfl (XS.iconst X122.here hx rfl (hb hby at_120) k)))) ?_
      refine Goes.callV X122 hx hZ 0 hown (own_w hw 58 rfl) (own_w hw 59 rfl) (notFace_of_selects (args := #[]) (mvT hZ (own_w hw 61 rfl))) (own_w hw 61 rfl) (own_w hw 60 rfl) (own_w hw 2 rfl) (own_w hw 62 rfl) (by decide) e122 C111 (rmT l Z a0 hw a1 (2 : Int32) r3 b 4 (Upd (Upd (fun i => if i < 2 then (Upd (Upd (fun _ => (0 : Int32)) 0 x1) 1 x2) i else (fun _ => (0 : Int32)) i) 2 x3) 2 x5) T110.heap n0 Z119 C115 C118 B110 (by decide) (by decide)) (by decide) (by decide) (by decide) (by decide) rfl (by rw [hml]; rfl) (argsL := [(.int (2 : Int32))]) (rest := []) rfl (lenOf pd_6 rfl) rfl (by show 2 * 0 + _ ≤ _; exact Nat.le_of_eq rfl) (hb hby at_121) ?_
      intro v123 T123 L123 X123 hQ123
      obtain ⟨rfl, N123q, e123⟩ := hQ123
      have N123 := Fr.app N122 N123q
      show Goes p e below _ T123 (mkF m 124 #[.val (.int x0), .val (.int x1), .val (.int x2), .val (.int x3), .val (.int x4), .val (.int x5), .val (.ref a1), .val (.int (2 : Int32)), .val (.int x1), .val (.int x2), .val (.int x5)] [(.int ((Upd (Upd (fun i => if i < 2 then (Upd (Upd (fun _ => (0 : Int32)) 0 x1) 1 x2) i else (fun _ => (0 : Int32)) i) 2 x3) 2 x5) 2))])
      refine Goes.on (T' := T123) (g' := (mkF m 134 #[.val (.int x0), .val (.int x1), .val (.int x2), .val (.int x3), .val (.int x4), .val (.int x5), .val (.ref a1), .val (.int (2 : Int32)), .val (.int x1), .val (.int x2), .val (.int x5)] [(.int (1 : Int32))])) (fun _ k => XS.iload X123.here hx rfl (hb hby at_124) rfl (XS.icmpNo X123.here hx rfl (hb hby at_126) rfl (XT.ii_ne_f rfl) (XS.iconst X123.here hx rfl (hb hby at_129) (XS.goto X123.here hx rfl (pc0 := 130) (pc' := 134) rfl (hb hby at_130) (by decide) (by decide) k)))) ?_
      exact Goes.retB X123 hx hlk hret (Or.inr rfl) (hb hby at_134) (by decide) (by decide) ⟨rfl, N123⟩
  · refine Goes.on (T' := T7) (g' := (mkF m 13 #[.val (.int x0), .val (.int x1), .val (.int x2), .val (.int x3), .val (.int x4), .val (.int x5), .val (.ref a1), .unset, .unset, .unset, .unset] [(.int x1), (.ref a1)])) (fun _ k => XS.astore X7.here hx rfl (hb hby at_8) rfl rfl (l' := #[.val (.int x0), .val (.int x1), .val (.int x2), .val (.int x3), .val (.int x4), .val (.int x5), .val (.ref a1), .unset, .unset, .unset, .unset]) rfl (XS.aload X7.here hx rfl (hb hby at_10) rfl rfl (XS.iloadN X7.here hx rfl (hb hby at_12) rfl k))) ?_
    refine Goes.callV X7 hx hZ 0 hown (own_w hw 25 rfl) (own_w hw 26 rfl) (notFace_of_selects (args := #[]) (mvT hZ (own_w hw 28 rfl))) (own_w hw 28 rfl) (own_w hw 27 rfl) (own_w hw 2 rfl) (own_w hw 29 rfl) (by decide) rfl A7 (rmA l Z a0 hw a1 x1 t b (0 : Int32) (0 : Int32) n (fun _ => (0 : Int32)) T7.heap n0 Z9 A7 Ft7 Fb7 Fk7 Fs7 Er7 Eb7 BB7 G1 gt gb BT7 ⟨by decide, (by show 0 < n; omega)⟩ (own_ne hcap.2 (by decide) (by show 0 < n; omega))) (by decide) (by decide) (by decide) (by decide) rfl (by rw [hml]; rfl) (argsL := [(.int x1)]) (rest := []) rfl (lenOf pd_3 rfl) rfl (by show 2 * 0 + _ ≤ _; exact Nat.le_of_eq rfl) (hb hby at_13) ?_
    intro v124 T124 L124 X124 hQ124
    obtain ⟨rfl, N124q, K124, A124, Ft124, Fb124, Fk124, Fs124, Er124, Eb124, BB124, BT124⟩ := hQ124
    have N124 := Fr.app N7 N124q
    show Goes p e below _ T124 (mkF m 16 #[.val (.int x0), .val (.int x1), .val (.int x2), .val (.int x3), .val (.int x4), .val (.int x5), .val (.ref a1), .unset, .unset, .unset, .unset] [])
    have Z129 : n0 ≤ T124.heap.size := Nat.le_trans Z9 K124.1
    refine Goes.on (T' := T124) (g' := (mkF m 19 #[.val (.int x0), .val (.int x1), .val (.int x2), .val (.int x3), .val (.int x4), .val (.int x5), .val (.ref a1), .unset, .unset, .unset, .unset] [(.int x2), (.ref a1)])) (fun _ k => XS.aload X124.here hx rfl (hb hby at_16) rfl rfl (XS.iloadN X124.here hx rfl (hb hby at_18) rfl k)) ?_
    refine Goes.callV X124 hx hZ 0 hown (own_w hw 25 rfl) (own_w hw 26 rfl) (notFace_of_selects (args := #[]) (mvT hZ (own_w hw 28 rfl))) (own_w hw 28 rfl) (own_w hw 27 rfl) (own_w hw 2 rfl) (own_w hw 29 rfl) (by decide) rfl A124 (rmA l Z a0 hw a1 x2 t b (1 : Int32) (1 : Int32) n (Upd (fun _ => (0 : Int32)) 0 x1) T124.heap n0 Z129 A124 Ft124 Fb124 Fk124 Fs124 Er124 Eb124 BB124 G1 gt gb BT124 ⟨by decide, (by show 1 < n; omega)⟩ (own_ne hcap.2 (by decide) (by show 1 < n; omega))) (by decide) (by decide) (by decide) (by decide) rfl (by rw [hml]; rfl) (argsL := [(.int x2)]) (rest := []) rfl (lenOf pd_3 rfl) rfl (by show 2 * 0 + _ ≤ _; exact Nat.le_of_eq rfl) (hb hby at_19) ?_
    intro v130 T130 L130 X130 hQ130
    obtain ⟨rfl, N130q, K130, A130, Ft130, Fb130, Fk130, Fs130, Er130, Eb130, BB130, BT130⟩ := hQ130
    have N130 := Fr.app N124 N130q
    show Goes p e below _ T130 (mkF m 22 #[.val (.int x0), .val (.int x1), .val (.int x2), .val (.int x3), .val (.int x4), .val (.int x5), .val (.ref a1), .unset, .unset, .unset, .unset] [])
    have Z135 : n0 ≤ T130.heap.size := Nat.le_trans Z129 K130.1
    refine Goes.on (T' := T130) (g' := (mkF m 25 #[.val (.int x0), .val (.int x1), .val (.int x2), .val (.int x3), .val (.int x4), .val (.int x5), .val (.ref a1), .unset, .unset, .unset, .unset] [(.int x3), (.ref a1)])) (fun _ k => XS.aload X130.here hx rfl (hb hby at_22) rfl rfl (XS.iloadN X130.here hx rfl (hb hby at_24) rfl k)) ?_
    refine Goes.callV X130 hx hZ 0 hown (own_w hw 25 rfl) (own_w hw 26 rfl) (notFace_of_selects (args := #[]) (mvT hZ (own_w hw 28 rfl))) (own_w hw 28 rfl) (own_w hw 27 rfl) (own_w hw 2 rfl) (own_w hw 29 rfl) (by decide) rfl A130 (rmA l Z a0 hw a1 x3 t b (2 : Int32) (2 : Int32) n (Upd (Upd (fun _ => (0 : Int32)) 0 x1) 1 x2) T130.heap n0 Z135 A130 Ft130 Fb130 Fk130 Fs130 Er130 Eb130 BB130 G1 gt gb BT130 ⟨by decide, (by show 2 < n; omega)⟩ (own_ne hcap.2 (by decide) (by show 2 < n; omega))) (by decide) (by decide) (by decide) (by decide) rfl (by rw [hml]; rfl) (argsL := [(.int x3)]) (rest := []) rfl (lenOf pd_3 rfl) rfl (by show 2 * 0 + _ ≤ _; exact Nat.le_of_eq rfl) (hb hby at_25) ?_
    intro v136 T136 L136 X136 hQ136
    obtain ⟨rfl, N136q, K136, A136, Ft136, Fb136, Fk136, Fs136, Er136, Eb136, BB136, BT136⟩ := hQ136
    have N136 := Fr.app N130 N136q
    show Goes p e below _ T136 (mkF m 28 #[.val (.int x0), .val (.int x1), .val (.int x2), .val (.int x3), .val (.int x4), .val (.int x5), .val (.ref a1), .unset, .unset, .unset, .unset] [])
    have Z141 : n0 ≤ T136.heap.size := Nat.le_trans Z135 K136.1
    refine Goes.on (T' := T136) (g' := (mkF m 37 #[.val (.int x0), .val (.int x1), .val (.int x2), .val (.int x3), .val (.int x4), .val (.int x5), .val (.ref a1), .val (.int ((x4 &&& (2147483647 : Int32)) % (3 : Int32))), .unset, .unset, .unset] [])) (fun _ k => XS.iload X136.here hx rfl (hb hby at_28) rfl (X136.ldcInt hx hown (mvT hZ (own_w hw 47 rfl)) (g := (mkF m 30 #[.val (.int x0), .val (.int x1), .val (.int x2), .val (.int x3), .val (.int x4), .val (.int x5), .val (.ref a1), .unset, .unset, .unset, .unset] [(.int x4)])) rfl (hb hby at_30) _ (XS.iand X136.here hx rfl (hb hby at_32) rfl (XS.iconst X136.here hx rfl (hb hby at_33) (iremM X136 hx rfl (hb hby at_34) rfl (by decide) (XS.istore X136.here hx rfl (hb hby at_35) rfl (l' := #[.val (.int x0), .val (.int x1), .val (.int x2), .val (.int x3), .val (.int x4), .val (.int x5), .val (.ref a1), .val (.int ((x4 &&& (2147483647 : Int32)) % (3 : Int32))), .unset, .unset, .unset]) rfl k)))))) ?_
    have bI := own_i3 x4
    generalize ((x4 &&& (2147483647 : Int32)) % (3 : Int32)) = I at bI ⊢
    obtain rfl | rfl | rfl := bI
    · refine Goes.on (T' := T136) (g' := (mkF m 43 #[.val (.int x0), .val (.int x1), .val (.int x2), .val (.int x3), .val (.int x4), .val (.int x5), .val (.ref a1), .val (.int (0 : Int32)), .unset, .unset, .unset] [(.int x5), (.int (0 : Int32)), (.ref a1)])) (fun _ k => XS.aload X136.here hx rfl (hb hby at_37) rfl rfl (XS.iload X136.here hx rfl (hb hby at_39) rfl (XS.iload X136.here hx rfl (hb hby at_41) rfl k))) ?_
      refine Goes.callV X136 hx hZ 0 hown (own_w hw 48 rfl) (own_w hw 49 rfl) (notFace_of_selects (args := #[]) (mvT hZ (own_w hw 51 rfl))) (own_w hw 51 rfl) (own_w hw 50 rfl) (own_w hw 2 rfl) (own_w hw 52 rfl) (by decide) rfl A136 (rmS l Z a0 hw a1 (0 : Int32) x5 t b n (Upd (Upd (Upd (fun _ => (0 : Int32)) 0 x1) 1 x2) 2 x3) T136.heap n0 Z141 Fb136 BB136 BT136 (by decide) ⟨by decide, (by show 0 < n; omega)⟩ gt nbt_ nat_) (by decide) (by decide) (by decide) (by decide) rfl (by rw [hml]; rfl) (argsL := [(.int (0 : Int32)), (.int x5)]) (rest := []) rfl (lenOf pd_4 rfl) rfl (by show 2 * 0 + _ ≤ _; exact Nat.le_of_eq rfl) (hb hby at_43) ?_
      intro v142 T142 L142 X142 hQ142
      obtain ⟨rfl, N142q, K142, B142⟩ := hQ142
      have N142 := Fr.app N136 N142q
      show Goes p e below _ T142 (mkF m 46 #[.val (.int x0), .val (.int x1), .val (.int x2), .val (.int x3), .val (.int x4), .val (.int x5), .val (.ref a1), .val (.int (0 : Int32)), .unset, .unset, .unset] [])
      have C143 := A136.keep K142
      have C146 := BB136.keep K142 (ninS nbt_ nin0)
      have C148 := Fb136.keep K142 (ninS nat_ nin0)
      have C150 := Fs136.keep K142 (ninS nat_ nin0)
      have Z151 : n0 ≤ T142.heap.size := Nat.le_trans Z141 K142.1
      refine Goes.on (T' := T142) (g' := (mkF m 76 #[.val (.int x0), .val (.int x1), .val (.int x2), .val (.int x3), .val (.int x4), .val (.int x5), .val (.ref a1), .val (.int (0 : Int32)), .val (.int x5), .val (.int x2), .unset] [(.int (2 : Int32)), (.int (0 : Int32))])) (fun _ k => XS.iload X142.here hx rfl (hb hby at_46) rfl (XS.ifNo X142.here hx rfl (hb hby at_48) rfl (XT.i0_ne_f (by decide)) (XS.iload X142.here hx rfl (hb hby at_51) rfl (XS.goto X142.here hx rfl (pc0 := 53) (pc' := 57) rfl (hb hby at_53) (by decide) (by decide) (XS.istore X142.here hx rfl (hb hby at_57) rfl (l' := #[.val (.int x0), .val (.int x1), .val (.int x2), .val (.int x3), .val (.int x4), .val (.int x5), .val (.ref a1), .val (.int (0 : Int32)), .val (.int x5), .unset, .unset]) rfl (XS.iload X142.here hx rfl (hb hby at_59) rfl (XS.iconst X142.here hx rfl (hb hby at_61) (XS.icmpYes X142.here hx rfl (pc0 := 62) (pc' := 70) rfl (hb hby at_62) rfl (XT.ii_ne_t (by decide)) (by decide) (by decide) (XS.iloadN X142.here hx rfl (hb hby at_70) rfl (XS.istore X142.here hx rfl (hb hby at_71) rfl (l' := #[.val (.int x0), .val (.int x1), .val (.int x2), .val (.int x3), .val (.int x4), .val (.int x5), .val (.ref a1), .val (.int (0 : Int32)), .val (.int x5), .val (.int x2), .unset]) rfl (XS.iload X142.here hx rfl (hb hby at_73) rfl (XS.iconst X142.here hx rfl (hb hby at_75) k)))))))))))) ?_
      refine Goes.on (T' := T142) (g' := (mkF m 89 #[.val (.int x0), .val (.int x1), .val (.int x2), .val (.int x3), .val (.int x4), .val (.int x5), .val (.ref a1), .val (.int (0 : Int32)), .val (.int x5), .val (.int x2), .val (.int x3)] [(.ref a1)])) (fun _ k => XS.icmpYes X142.here hx rfl (pc0 := 76) (pc' := 84) rfl (hb hby at_76) rfl (XT.ii_ne_t (by decide)) (by decide) (by decide) (XS.iloadN X142.here hx rfl (hb hby at_84) rfl (XS.istore X142.here hx rfl (hb hby at_85) rfl (l' := #[.val (.int x0), .val (.int x1), .val (.int x2), .val (.int x3), .val (.int x4), .val (.int x5), .val (.ref a1), .val (.int (0 : Int32)), .val (.int x5), .val (.int x2), .val (.int x3)]) rfl (XS.aload X142.here hx rfl (hb hby at_87) rfl rfl k)))) ?_
      refine Goes.callV X142 hx hZ 0 hown (own_w hw 53 rfl) (own_w hw 54 rfl) (notFace_of_selects (args := #[]) (mvT hZ (own_w hw 56 rfl))) (own_w hw 56 rfl) (own_w hw 55 rfl) (own_w hw 2 rfl) (own_w hw 57 rfl) (by decide) rfl C143 (rmZ l Z a0 hw a1 (3 : Int32) T142.heap n0 Z151 C150) (by decide) (by decide) (by decide) (by decide) rfl (by rw [hml]; rfl) (argsL := []) (rest := []) rfl (lenOf pd_5 rfl) rfl (by show 2 * 0 + _ ≤ _; exact Nat.le_of_eq rfl) (hb hby at_89) ?_
      intro v152 T152 L152 X152 hQ152
      obtain ⟨rfl, N152q, e152⟩ := hQ152
      have N152 := Fr.app N142 N152q
      show Goes p e below _ T152 (mkF m 92 #[.val (.int x0), .val (.int x1), .val (.int x2), .val (.int x3), .val (.int x4), .val (.int x5), .val (.ref a1), .val (.int (0 : Int32)), .val (.int x5), .val (.int x2), .val (.int x3)] [(.int (3 : Int32))])
      refine Goes.on (T' := T152) (g' := (mkF m 99 #[.val (.int x0), .val (.int x1), .val (.int x2), .val (.int x3), .val (.int x4), .val (.int x5), .val (.ref a1), .val (.int (0 : Int32)), .val (.int x5), .val (.int x2), .val (.int x3)] [(.int (0 : Int32)), (.ref a1)])) (fun _ k => XS.iconst X152.here hx rfl (hb hby at_92) (XS.icmpNo X152.here hx rfl (hb hby at_93) rfl (XT.ii_ne_f (by decide)) (XS.aload X152.here hx rfl (hb hby at_96) rfl rfl (XS.iconst X152.here hx rfl (hb hby at_98) k)))) ?_
      refine Goes.callV X152 hx hZ 0 hown (own_w hw 58 rfl) (own_w hw 59 rfl) (notFace_of_selects (args := #[]) (mvT hZ (own_w hw 61 rfl))) (own_w hw 61 rfl) (own_w hw 60 rfl) (own_w hw 2 rfl) (own_w hw 62 rfl) (by decide) e152 C143 (rmT l Z a0 hw a1 (0 : Int32) t b n (Upd (Upd (Upd (Upd (fun _ => (0 : Int32)) 0 x1) 1 x2) 2 x3) 0 x5) T142.heap n0 Z151 C148 C146 B142 (by decide) ⟨by decide, (by show 0 < n; omega)⟩) (by decide) (by decide) (by decide) (by decide) rfl (by rw [hml]; rfl) (argsL := [(.int (0 : Int32))]) (rest := []) rfl (lenOf pd_6 rfl) rfl (by show 2 * 0 + _ ≤ _; exact Nat.le_of_eq rfl) (hb hby at_99) ?_
      intro v153 T153 L153 X153 hQ153
      obtain ⟨rfl, N153q, e153⟩ := hQ153
      have N153 := Fr.app N152 N153q
      show Goes p e below _ T153 (mkF m 102 #[.val (.int x0), .val (.int x1), .val (.int x2), .val (.int x3), .val (.int x4), .val (.int x5), .val (.ref a1), .val (.int (0 : Int32)), .val (.int x5), .val (.int x2), .val (.int x3)] [(.int ((Upd (Upd (Upd (Upd (fun _ => (0 : Int32)) 0 x1) 1 x2) 2 x3) 0 x5) 0))])
      refine Goes.on (T' := T153) (g' := (mkF m 110 #[.val (.int x0), .val (.int x1), .val (.int x2), .val (.int x3), .val (.int x4), .val (.int x5), .val (.ref a1), .val (.int (0 : Int32)), .val (.int x5), .val (.int x2), .val (.int x3)] [(.int (1 : Int32)), (.ref a1)])) (fun _ k => XS.iload X153.here hx rfl (hb hby at_102) rfl (XS.icmpNo X153.here hx rfl (hb hby at_104) rfl (XT.ii_ne_f rfl) (XS.aload X153.here hx rfl (hb hby at_107) rfl rfl (XS.iconst X153.here hx rfl (hb hby at_109) k)))) ?_
      refine Goes.callV X153 hx hZ 0 hown (own_w hw 58 rfl) (own_w hw 59 rfl) (notFace_of_selects (args := #[]) (mvT hZ (own_w hw 61 rfl))) (own_w hw 61 rfl) (own_w hw 60 rfl) (own_w hw 2 rfl) (own_w hw 62 rfl) (by decide) e153 C143 (rmT l Z a0 hw a1 (1 : Int32) t b n (Upd (Upd (Upd (Upd (fun _ => (0 : Int32)) 0 x1) 1 x2) 2 x3) 0 x5) T142.heap n0 Z151 C148 C146 B142 (by decide) ⟨by decide, (by show 1 < n; omega)⟩) (by decide) (by decide) (by decide) (by decide) rfl (by rw [hml]; rfl) (argsL := [(.int (1 : Int32))]) (rest := []) rfl (lenOf pd_6 rfl) rfl (by show 2 * 0 + _ ≤ _; exact Nat.le_of_eq rfl) (hb hby at_110) ?_
      intro v154 T154 L154 X154 hQ154
      obtain ⟨rfl, N154q, e154⟩ := hQ154
      have N154 := Fr.app N153 N154q
      show Goes p e below _ T154 (mkF m 113 #[.val (.int x0), .val (.int x1), .val (.int x2), .val (.int x3), .val (.int x4), .val (.int x5), .val (.ref a1), .val (.int (0 : Int32)), .val (.int x5), .val (.int x2), .val (.int x3)] [(.int ((Upd (Upd (Upd (Upd (fun _ => (0 : Int32)) 0 x1) 1 x2) 2 x3) 0 x5) 1))])
      refine Goes.on (T' := T154) (g' := (mkF m 121 #[.val (.int x0), .val (.int x1), .val (.int x2), .val (.int x3), .val (.int x4), .val (.int x5), .val (.ref a1), .val (.int (0 : Int32)), .val (.int x5), .val (.int x2), .val (.int x3)] [(.int (2 : Int32)), (.ref a1)])) (fun _ k => XS.iload X154.here hx rfl (hb hby at_113) rfl (XS.icmpNo X154.here hx rfl (hb hby at_115) rfl (XT.ii_ne_f rfl) (XS.aload X154.here hx rfl (hb hby at_118) rfl rfl (XS.iconst X154.here hx rfl (hb hby at_120) k)))) ?_
      refine Goes.callV X154 hx hZ 0 hown (own_w hw 58 rfl) (own_w hw 59 rfl) (notFace_of_selects (args := #[]) (mvT hZ (own_w hw 61 rfl))) (own_w hw 61 rfl) (own_w hw 60 rfl) (own_w hw 2 rfl) (own_w hw 62 rfl) (by decide) e154 C143 (rmT l Z a0 hw a1 (2 : Int32) t b n (Upd (Upd (Upd (Upd (fun _ => (0 : Int32)) 0 x1) 1 x2) 2 x3) 0 x5) T142.heap n0 Z151 C148 C146 B142 (by decide) ⟨by decide, (by show 2 < n; omega)⟩) (by decide) (by decide) (by decide) (by decide) rfl (by rw [hml]; rfl) (argsL := [(.int (2 : Int32))]) (rest := []) rfl (lenOf pd_6 rfl) rfl (by show 2 * 0 + _ ≤ _; exact Nat.le_of_eq rfl) (hb hby at_121) ?_
      intro v155 T155 L155 X155 hQ155
      obtain ⟨rfl, N155q, e155⟩ := hQ155
      have N155 := Fr.app N154 N155q
      show Goes p e below _ T155 (mkF m 124 #[.val (.int x0), .val (.int x1), .val (.int x2), .val (.int x3), .val (.int x4), .val (.int x5), .val (.ref a1), .val (.int (0 : Int32)), .val (.int x5), .val (.int x2), .val (.int x3)] [(.int ((Upd (Upd (Upd (Upd (fun _ => (0 : Int32)) 0 x1) 1 x2) 2 x3) 0 x5) 2))])
      refine Goes.on (T' := T155) (g' := (mkF m 134 #[.val (.int x0), .val (.int x1), .val (.int x2), .val (.int x3), .val (.int x4), .val (.int x5), .val (.ref a1), .val (.int (0 : Int32)), .val (.int x5), .val (.int x2), .val (.int x3)] [(.int (1 : Int32))])) (fun _ k => XS.iload X155.here hx rfl (hb hby at_124) rfl (XS.icmpNo X155.here hx rfl (hb hby at_126) rfl (XT.ii_ne_f rfl) (XS.iconst X155.here hx rfl (hb hby at_129) (XS.goto X155.here hx rfl (pc0 := 130) (pc' := 134) rfl (hb hby at_130) (by decide) (by decide) k)))) ?_
      exact Goes.retB X155 hx hlk hret (Or.inr rfl) (hb hby at_134) (by decide) (by decide) ⟨rfl, N155⟩
    · refine Goes.on (T' := T136) (g' := (mkF m 43 #[.val (.int x0), .val (.int x1), .val (.int x2), .val (.int x3), .val (.int x4), .val (.int x5), .val (.ref a1), .val (.int (1 : Int32)), .unset, .unset, .unset] [(.int x5), (.int (1 : Int32)), (.ref a1)])) (fun _ k => XS.aload X136.here hx rfl (hb hby at_37) rfl rfl (XS.iload X136.here hx rfl (hb hby at_39) rfl (XS.iload X136.here hx rfl (hb hby at_41) rfl k))) ?_
      refine Goes.callV X136 hx hZ 0 hown (own_w hw 48 rfl) (own_w hw 49 rfl) (notFace_of_selects (args := #[]) (mvT hZ (own_w hw 51 rfl))) (own_w hw 51 rfl) (own_w hw 50 rfl) (own_w hw 2 rfl) (own_w hw 52 rfl) (by decide) rfl A136 (rmS l Z a0 hw a1 (1 : Int32) x5 t b n (Upd (Upd (Upd (fun _ => (0 : Int32)) 0 x1) 1 x2) 2 x3) T136.heap n0 Z141 Fb136 BB136 BT136 (by decide) ⟨by decide, (by show 1 < n; omega)⟩ gt nbt_ nat_) (by decide) (by decide) (by decide) (by decide) rfl (by rw [hml]; rfl) (argsL := [(.int (1 : Int32)), (.int x5)]) (rest := []) rfl (lenOf pd_4 rfl) rfl (by show 2 * 0 + _ ≤ _; exact Nat.le_of_eq rfl) (hb hby at_43) ?_
      intro v156 T156 L156 X156 hQ156
      obtain ⟨rfl, N156q, K156, B156⟩ := hQ156
      have N156 := Fr.app N136 N156q
      show Goes p e below _ T156 (mkF m 46 #[.val (.int x0), .val (.int x1), .val (.int x2), .val (.int x3), .val (.int x4), .val (.int x5), .val (.ref a1), .val (.int (1 : Int32)), .unset, .unset, .unset] [])
      have C157 := A136.keep K156
      have C160 := BB136.keep K156 (ninS nbt_ nin0)
      have C162 := Fb136.keep K156 (ninS nat_ nin0)
      have C164 := Fs136.keep K156 (ninS nat_ nin0)
      have Z165 : n0 ≤ T156.heap.size := Nat.le_trans Z141 K156.1
      refine Goes.on (T' := T156) (g' := (mkF m 76 #[.val (.int x0), .val (.int x1), .val (.int x2), .val (.int x3), .val (.int x4), .val (.int x5), .val (.ref a1), .val (.int (1 : Int32)), .val (.int x1), .val (.int x5), .unset] [(.int (2 : Int32)), (.int (1 : Int32))])) (fun _ k => XS.iload X156.here hx rfl (hb hby at_46) rfl (XS.ifYes X156.here hx rfl (pc0 := 48) (pc' := 56) rfl (hb hby at_48) rfl (XT.i0_ne_t (by decide)) (by decide) (by decide) (XS.iloadN X156.here hx rfl (hb hby at_56) rfl (XS.istore X156.here hx rfl (hb hby at_57) rfl (l' := #[.val (.int x0), .val (.int x1), .val (.int x2), .val (.int x3), .val (.int x4), .val (.int x5), .val (.ref a1), .val (.int (1 : Int32)), .val (.int x1), .unset, .unset]) rfl (XS.iload X156.here hx rfl (hb hby at_59) rfl (XS.iconst X156.here hx rfl (hb hby at_61) (XS.icmpNo X156.here hx rfl (hb hby at_62) rfl (XT.ii_ne_f (by decide)) (XS.iload X156.here hx rfl (hb hby at_65) rfl (XS.goto X156.here hx rfl (pc0 := 67) (pc' := 71) rfl (hb hby at_67) (by decide) (by decide) (XS.istore X156.here hx rfl (hb hby at_71) rfl (l' := #[.val (.int x0), .val (.int x1), .val (.int x2), .val (.int x3), .val (.int x4), .val (.int x5), .val (.ref a1), .val (.int (1 : Int32)), .val (.int x1), .val (.int x5), .unset]) rfl (XS.iload X156.here hx rfl (hb hby at_73) rfl (XS.iconst X156.here hx rfl (hb hby at_75) k)))))))))))) ?_
      refine Goes.on (T' := T156) (g' := (mkF m 89 #[.val (.int x0), .val (.int x1), .val (.int x2), .val (.int x3), .val (.int x4), .val (.int x5), .val (.ref a1), .val (.int (1 : Int32)), .val (.int x1), .val (.int x5), .val (.int x3)] [(.ref a1)])) (fun _ k => XS.icmpYes X156.here hx rfl (pc0 := 76) (pc' := 84) rfl (hb hby at_76) rfl (XT.ii_ne_t (by decide)) (by decide) (by decide) (XS.iloadN X156.here hx rfl (hb hby at_84) rfl (XS.istore X156.here hx rfl (hb hby at_85) rfl (l' := #[.val (.int x0), .val (.int x1), .val (.int x2), .val (.int x3), .val (.int x4), .val (.int x5), .val (.ref a1), .val (.int (1 : Int32)), .val (.int x1), .val (.int x5), .val (.int x3)]) rfl (XS.aload X156.here hx rfl (hb hby at_87) rfl rfl k)))) ?_
      refine Goes.callV X156 hx hZ 0 hown (own_w hw 53 rfl) (own_w hw 54 rfl) (notFace_of_selects (args := #[]) (mvT hZ (own_w hw 56 rfl))) (own_w hw 56 rfl) (own_w hw 55 rfl) (own_w hw 2 rfl) (own_w hw 57 rfl) (by decide) rfl C157 (rmZ l Z a0 hw a1 (3 : Int32) T156.heap n0 Z165 C164) (by decide) (by decide) (by decide) (by decide) rfl (by rw [hml]; rfl) (argsL := []) (rest := []) rfl (lenOf pd_5 rfl) rfl (by show 2 * 0 + _ ≤ _; exact Nat.le_of_eq rfl) (hb hby at_89) ?_
      intro v166 T166 L166 X166 hQ166
      obtain ⟨rfl, N166q, e166⟩ := hQ166
      have N166 := Fr.app N156 N166q
      show Goes p e below _ T166 (mkF m 92 #[.val (.int x0), .val (.int x1), .val (.int x2), .val (.int x3), .val (.int x4), .val (.int x5), .val (.ref a1), .val (.int (1 : Int32)), .val (.int x1), .val (.int x5), .val (.int x3)] [(.int (3 : Int32))])
      refine Goes.on (T' := T166) (g' := (mkF m 99 #[.val (.int x0), .val (.int x1), .val (.int x2), .val (.int x3), .val (.int x4), .val (.int x5), .val (.ref a1), .val (.int (1 : Int32)), .val (.int x1), .val (.int x5), .val (.int x3)] [(.int (0 : Int32)), (.ref a1)])) (fun _ k => XS.iconst X166.here hx rfl (hb hby at_92) (XS.icmpNo X166.here hx rfl (hb hby at_93) rfl (XT.ii_ne_f (by decide)) (XS.aload X166.here hx rfl (hb hby at_96) rfl rfl (XS.iconst X166.here hx rfl (hb hby at_98) k)))) ?_
      refine Goes.callV X166 hx hZ 0 hown (own_w hw 58 rfl) (own_w hw 59 rfl) (notFace_of_selects (args := #[]) (mvT hZ (own_w hw 61 rfl))) (own_w hw 61 rfl) (own_w hw 60 rfl) (own_w hw 2 rfl) (own_w hw 62 rfl) (by decide) e166 C157 (rmT l Z a0 hw a1 (0 : Int32) t b n (Upd (Upd (Upd (Upd (fun _ => (0 : Int32)) 0 x1) 1 x2) 2 x3) 1 x5) T156.heap n0 Z165 C162 C160 B156 (by decide) ⟨by decide, (by show 0 < n; omega)⟩) (by decide) (by decide) (by decide) (by decide) rfl (by rw [hml]; rfl) (argsL := [(.int (0 : Int32))]) (rest := []) rfl (lenOf pd_6 rfl) rfl (by show 2 * 0 + _ ≤ _; exact Nat.le_of_eq rfl) (hb hby at_99) ?_
      intro v167 T167 L167 X167 hQ167
      obtain ⟨rfl, N167q, e167⟩ := hQ167
      have N167 := Fr.app N166 N167q
      show Goes p e below _ T167 (mkF m 102 #[.val (.int x0), .val (.int x1), .val (.int x2), .val (.int x3), .val (.int x4), .val (.int x5), .val (.ref a1), .val (.int (1 : Int32)), .val (.int x1), .val (.int x5), .val (.int x3)] [(.int ((Upd (Upd (Upd (Upd (fun _ => (0 : Int32)) 0 x1) 1 x2) 2 x3) 1 x5) 0))])
      refine Goes.on (T' := T167) (g' := (mkF m 110 #[.val (.int x0), .val (.int x1), .val (.int x2), .val (.int x3), .val (.int x4), .val (.int x5), .val (.ref a1), .val (.int (1 : Int32)), .val (.int x1), .val (.int x5), .val (.int x3)] [(.int (1 : Int32)), (.ref a1)])) (fun _ k => XS.iload X167.here hx rfl (hb hby at_102) rfl (XS.icmpNo X167.here hx rfl (hb hby at_104) rfl (XT.ii_ne_f rfl) (XS.aload X167.here hx rfl (hb hby at_107) rfl rfl (XS.iconst X167.here hx rfl (hb hby at_109) k)))) ?_
      refine Goes.callV X167 hx hZ 0 hown (own_w hw 58 rfl) (own_w hw 59 rfl) (notFace_of_selects (args := #[]) (mvT hZ (own_w hw 61 rfl))) (own_w hw 61 rfl) (own_w hw 60 rfl) (own_w hw 2 rfl) (own_w hw 62 rfl) (by decide) e167 C157 (rmT l Z a0 hw a1 (1 : Int32) t b n (Upd (Upd (Upd (Upd (fun _ => (0 : Int32)) 0 x1) 1 x2) 2 x3) 1 x5) T156.heap n0 Z165 C162 C160 B156 (by decide) ⟨by decide, (by show 1 < n; omega)⟩) (by decide) (by decide) (by decide) (by decide) rfl (by rw [hml]; rfl) (argsL := [(.int (1 : Int32))]) (rest := []) rfl (lenOf pd_6 rfl) rfl (by show 2 * 0 + _ ≤ _; exact Nat.le_of_eq rfl) (hb hby at_110) ?_
      intro v168 T168 L168 X168 hQ168
      obtain ⟨rfl, N168q, e168⟩ := hQ168
      have N168 := Fr.app N167 N168q
      show Goes p e below _ T168 (mkF m 113 #[.val (.int x0), .val (.int x1), .val (.int x2), .val (.int x3), .val (.int x4), .val (.int x5), .val (.ref a1), .val (.int (1 : Int32)), .val (.int x1), .val (.int x5), .val (.int x3)] [(.int ((Upd (Upd (Upd (Upd (fun _ => (0 : Int32)) 0 x1) 1 x2) 2 x3) 1 x5) 1))])
      refine Goes.on (T' := T168) (g' := (mkF m 121 #[.val (.int x0), .val (.int x1), .val (.int x2), .val (.int x3), .val (.int x4), .val (.int x5), .val (.ref a1), .val (.int (1 : Int32)), .val (.int x1), .val (.int x5), .val (.int x3)] [(.int (2 : Int32)), (.ref a1)])) (fun _ k => XS.iload X168.here hx rfl (hb hby at_113) rfl (XS.icmpNo X168.here hx rfl (hb hby at_115) rfl (XT.ii_ne_f rfl) (XS.aload X168.here hx rfl (hb hby at_118) rfl rfl (XS.iconst X168.here hx rfl (hb hby at_120) k)))) ?_
      refine Goes.callV X168 hx hZ 0 hown (own_w hw 58 rfl) (own_w hw 59 rfl) (notFace_of_selects (args := #[]) (mvT hZ (own_w hw 61 rfl))) (own_w hw 61 rfl) (own_w hw 60 rfl) (own_w hw 2 rfl) (own_w hw 62 rfl) (by decide) e168 C157 (rmT l Z a0 hw a1 (2 : Int32) t b n (Upd (Upd (Upd (Upd (fun _ => (0 : Int32)) 0 x1) 1 x2) 2 x3) 1 x5) T156.heap n0 Z165 C162 C160 B156 (by decide) ⟨by decide, (by show 2 < n; omega)⟩) (by decide) (by decide) (by decide) (by decide) rfl (by rw [hml]; rfl) (argsL := [(.int (2 : Int32))]) (rest := []) rfl (lenOf pd_6 rfl) rfl (by show 2 * 0 + _ ≤ _; exact Nat.le_of_eq rfl) (hb hby at_121) ?_
      intro v169 T169 L169 X169 hQ169
      obtain ⟨rfl, N169q, e169⟩ := hQ169
      have N169 := Fr.app N168 N169q
      show Goes p e below _ T169 (mkF m 124 #[.val (.int x0), .val (.int x1), .val (.int x2), .val (.int x3), .val (.int x4), .val (.int x5), .val (.ref a1), .val (.int (1 : Int32)), .val (.int x1), .val (.int x5), .val (.int x3)] [(.int ((Upd (Upd (Upd (Upd (fun _ => (0 : Int32)) 0 x1) 1 x2) 2 x3) 1 x5) 2))])
      refine Goes.on (T' := T169) (g' := (mkF m 134 #[.val (.int x0), .val (.int x1), .val (.int x2), .val (.int x3), .val (.int x4), .val (.int x5), .val (.ref a1), .val (.int (1 : Int32)), .val (.int x1), .val (.int x5), .val (.int x3)] [(.int (1 : Int32))])) (fun _ k => XS.iload X169.here hx rfl (hb hby at_124) rfl (XS.icmpNo X169.here hx rfl (hb hby at_126) rfl (XT.ii_ne_f rfl) (XS.iconst X169.here hx rfl (hb hby at_129) (XS.goto X169.here hx rfl (pc0 := 130) (pc' := 134) rfl (hb hby at_130) (by decide) (by decide) k)))) ?_
      exact Goes.retB X169 hx hlk hret (Or.inr rfl) (hb hby at_134) (by decide) (by decide) ⟨rfl, N169⟩
    · refine Goes.on (T' := T136) (g' := (mkF m 43 #[.val (.int x0), .val (.int x1), .val (.int x2), .val (.int x3), .val (.int x4), .val (.int x5), .val (.ref a1), .val (.int (2 : Int32)), .unset, .unset, .unset] [(.int x5), (.int (2 : Int32)), (.ref a1)])) (fun _ k => XS.aload X136.here hx rfl (hb hby at_37) rfl rfl (XS.iload X136.here hx rfl (hb hby at_39) rfl (XS.iload X136.here hx rfl (hb hby at_41) rfl k))) ?_
      refine Goes.callV X136 hx hZ 0 hown (own_w hw 48 rfl) (own_w hw 49 rfl) (notFace_of_selects (args := #[]) (mvT hZ (own_w hw 51 rfl))) (own_w hw 51 rfl) (own_w hw 50 rfl) (own_w hw 2 rfl) (own_w hw 52 rfl) (by decide) rfl A136 (rmS l Z a0 hw a1 (2 : Int32) x5 t b n (Upd (Upd (Upd (fun _ => (0 : Int32)) 0 x1) 1 x2) 2 x3) T136.heap n0 Z141 Fb136 BB136 BT136 (by decide) ⟨by decide, (by show 2 < n; omega)⟩ gt nbt_ nat_) (by decide) (by decide) (by decide) (by decide) rfl (by rw [hml]; rfl) (argsL := [(.int (2 : Int32)), (.int x5)]) (rest := []) rfl (lenOf pd_4 rfl) rfl (by show 2 * 0 + _ ≤ _; exact Nat.le_of_eq rfl) (hb hby at_43) ?_
      intro v170 T170 L170 X170 hQ170
      obtain ⟨rfl, N170q, K170, B170⟩ := hQ170
      have N170 := Fr.app N136 N170q
      show Goes p e below _ T170 (mkF m 46 #[.val (.int x0), .val (.int x1), .val (.int x2), .val (.int x3), .val (.int x4), .val (.int x5), .val (.ref a1), .val (.int (2 : Int32)), .unset, .unset, .unset] [])
      have C171 := A136.keep K170
      have C174 := BB136.keep K170 (ninS nbt_ nin0)
      have C176 := Fb136.keep K170 (ninS nat_ nin0)
      have C178 := Fs136.keep K170 (ninS nat_ nin0)
      have Z179 : n0 ≤ T170.heap.size := Nat.le_trans Z141 K170.1
      refine Goes.on (T' := T170) (g' := (mkF m 79 #[.val (.int x0), .val (.int x1), .val (.int x2), .val (.int x3), .val (.int x4), .val (.int x5), .val (.ref a1), .val (.int (2 : Int32)), .val (.int x1), .val (.int x2), .unset] [])) (fun _ k => XS.iload X170.here hx rfl (hb hby at_46) rfl (XS.ifYes X170.here hx rfl (pc0 := 48) (pc' := 56) rfl (hb hby at_48) rfl (XT.i0_ne_t (by decide)) (by decide) (by decide) (XS.iloadN X170.here hx rfl (hb hby at_56) rfl (XS.istore X170.here hx rfl (hb hby at_57) rfl (l' := #[.val (.int x0), .val (.int x1), .val (.int x2), .val (.int x3), .val (.int x4), .val (.int x5), .val (.ref a1), .val (.int (2 : Int32)), .val (.int x1), .unset, .unset]) rfl (XS.iload X170.here hx rfl (hb hby at_59) rfl (XS.iconst X170.here hx rfl (hb hby at_61) (XS.icmpYes X170.here hx rfl (pc0 := 62) (pc' := 70) rfl (hb hby at_62) rfl (XT.ii_ne_t (by decide)) (by decide) (by decide) (XS.iloadN X170.here hx rfl (hb hby at_70) rfl (XS.istore X170.here hx rfl (hb hby at_71) rfl (l' := #[.val (.int x0), .val (.int x1), .val (.int x2), .val (.int x3), .val (.int x4), .val (.int x5), .val (.ref a1), .val (.int (2 : Int32)), .val (.int x1), .val (.int x2), .unset]) rfl (XS.iload X170.here hx rfl (hb hby at_73) rfl (XS.iconst X170.here hx rfl (hb hby at_75) (XS.icmpNo X170.here hx rfl (hb hby at_76) rfl (XT.ii_ne_f (by decide)) k)))))))))))) ?_
      refine Goes.on (T' := T170) (g' := (mkF m 89 #[.val (.int x0), .val (.int x1), .val (.int x2), .val (.int x3), .val (.int x4), .val (.int x5), .val (.ref a1), .val (.int (2 : Int32)), .val (.int x1), .val (.int x2), .val (.int x5)] [(.ref a1)])) (fun _ k => XS.iload X170.here hx rfl (hb hby at_79) rfl (XS.goto X170.here hx rfl (pc0 := 81) (pc' := 85) rfl (hb hby at_81) (by decide) (by decide) (XS.istore X170.here hx rfl (hb hby at_85) rfl (l' := #[.val (.int x0), .val (.int x1), .val (.int x2), .val (.int x3), .val (.int x4), .val (.int x5), .val (.ref a1), .val (.int (2 : Int32)), .val (.int x1), .val (.int x2), .val (.int x5)]) rfl (XS.aload X170.here hx rfl (hb hby at_87) rfl rfl k)))) ?_
      refine Goes.callV X170 hx hZ 0 hown (own_w hw 53 rfl) (own_w hw 54 rfl) (notFace_of_selects (args := #[]) (mvT hZ (own_w hw 56 rfl))) (own_w hw 56 rfl) (own_w hw 55 rfl) (own_w hw 2 rfl) (own_w hw 57 rfl) (by decide) rfl C171 (rmZ l Z a0 hw a1 (3 : Int32) T170.heap n0 Z179 C178) (by decide) (by decide) (by decide) (by decide) rfl (by rw [hml]; rfl) (argsL := []) (rest := []) rfl (lenOf pd_5 rfl) rfl (by show 2 * 0 + _ ≤ _; exact Nat.le_of_eq rfl) (hb hby at_89) ?_
      intro v180 T180 L180 X180 hQ180
      obtain ⟨rfl, N180q, e180⟩ := hQ180
      have N180 := Fr.app N170 N180q
      show Goes p e below _ T180 (mkF m 92 #[.val (.int x0), .val (.int x1), .val (.int x2), .val (.int x3), .val (.int x4), .val (.int x5), .val (.ref a1), .val (.int (2 : Int32)), .val (.int x1), .val (.int x2), .val (.int x5)] [(.int (3 : Int32))])
      refine Goes.on (T' := T180) (g' := (mkF m 99 #[.val (.int x0), .val (.int x1), .val (.int x2), .val (.int x3), .val (.int x4), .val (.int x5), .val (.ref a1), .val (.int (2 : Int32)), .val (.int x1), .val (.int x2), .val (.int x5)] [(.int (0 : Int32)), (.ref a1)])) (fun _ k => XS.iconst X180.here hx rfl (hb hby at_92) (XS.icmpNo X180.here hx rfl (hb hby at_93) rfl (XT.ii_ne_f (by decide)) (XS.aload X180.here hx rfl (hb hby at_96) rfl rfl (XS.iconst X180.here hx rfl (hb hby at_98) k)))) ?_
      refine Goes.callV X180 hx hZ 0 hown (own_w hw 58 rfl) (own_w hw 59 rfl) (notFace_of_selects (args := #[]) (mvT hZ (own_w hw 61 rfl))) (own_w hw 61 rfl) (own_w hw 60 rfl) (own_w hw 2 rfl) (own_w hw 62 rfl) (by decide) e180 C171 (rmT l Z a0 hw a1 (0 : Int32) t b n (Upd (Upd (Upd (Upd (fun _ => (0 : Int32)) 0 x1) 1 x2) 2 x3) 2 x5) T170.heap n0 Z179 C176 C174 B170 (by decide) ⟨by decide, (by show 0 < n; omega)⟩) (by decide) (by decide) (by decide) (by decide) rfl (by rw [hml]; rfl) (argsL := [(.int (0 : Int32))]) (rest := []) rfl (lenOf pd_6 rfl) rfl (by show 2 * 0 + _ ≤ _; exact Nat.le_of_eq rfl) (hb hby at_99) ?_
      intro v181 T181 L181 X181 hQ181
      obtain ⟨rfl, N181q, e181⟩ := hQ181
      have N181 := Fr.app N180 N181q
      show Goes p e below _ T181 (mkF m 102 #[.val (.int x0), .val (.int x1), .val (.int x2), .val (.int x3), .val (.int x4), .val (.int x5), .val (.ref a1), .val (.int (2 : Int32)), .val (.int x1), .val (.int x2), .val (.int x5)] [(.int ((Upd (Upd (Upd (Upd (fun _ => (0 : Int32)) 0 x1) 1 x2) 2 x3) 2 x5) 0))])
      refine Goes.on (T' := T181) (g' := (mkF m 110 #[.val (.int x0), .val (.int x1), .val (.int x2), .val (.int x3), .val (.int x4), .val (.int x5), .val (.ref a1), .val (.int (2 : Int32)), .val (.int x1), .val (.int x2), .val (.int x5)] [(.int (1 : Int32)), (.ref a1)])) (fun _ k => XS.iload X181.here hx rfl (hb hby at_102) rfl (XS.icmpNo X181.here hx rfl (hb hby at_104) rfl (XT.ii_ne_f rfl) (XS.aload X181.here hx rfl (hb hby at_107) rfl rfl (XS.iconst X181.here hx rfl (hb hby at_109) k)))) ?_
      refine Goes.callV X181 hx hZ 0 hown (own_w hw 58 rfl) (own_w hw 59 rfl) (notFace_of_selects (args := #[]) (mvT hZ (own_w hw 61 rfl))) (own_w hw 61 rfl) (own_w hw 60 rfl) (own_w hw 2 rfl) (own_w hw 62 rfl) (by decide) e181 C171 (rmT l Z a0 hw a1 (1 : Int32) t b n (Upd (Upd (Upd (Upd (fun _ => (0 : Int32)) 0 x1) 1 x2) 2 x3) 2 x5) T170.heap n0 Z179 C176 C174 B170 (by decide) ⟨by decide, (by show 1 < n; omega)⟩) (by decide) (by decide) (by decide) (by decide) rfl (by rw [hml]; rfl) (argsL := [(.int (1 : Int32))]) (rest := []) rfl (lenOf pd_6 rfl) rfl (by show 2 * 0 + _ ≤ _; exact Nat.le_of_eq rfl) (hb hby at_110) ?_
      intro v182 T182 L182 X182 hQ182
      obtain ⟨rfl, N182q, e182⟩ := hQ182
      have N182 := Fr.app N181 N182q
      show Goes p e below _ T182 (mkF m 113 #[.val (.int x0), .val (.int x1), .val (.int x2), .val (.int x3), .val (.int x4), .val (.int x5), .val (.ref a1), .val (.int (2 : Int32)), .val (.int x1), .val (.int x2), .val (.int x5)] [(.int ((Upd (Upd (Upd (Upd (fun _ => (0 : Int32)) 0 x1) 1 x2) 2 x3) 2 x5) 1))])
      refine Goes.on (T' := T182) (g' := (mkF m 121 #[.val (.int x0), .val (.int x1), .val (.int x2), .val (.int x3), .val (.int x4), .val (.int x5), .val (.ref a1), .val (.int (2 : Int32)), .val (.int x1), .val (.int x2), .val (.int x5)] [(.int (2 : Int32)), (.ref a1)])) (fun _ k => XS.iload X182.here hx rfl (hb hby at_113) rfl (XS.icmpNo X182.here hx rfl (hb hby at_115) rfl (XT.ii_ne_f rfl) (XS.aload X182.here hx rfl (hb hby at_118) rfl rfl (XS.iconst X182.here hx rfl (hb hby at_120) k)))) ?_
      refine Goes.callV X182 hx hZ 0 hown (own_w hw 58 rfl) (own_w hw 59 rfl) (notFace_of_selects (args := #[]) (mvT hZ (own_w hw 61 rfl))) (own_w hw 61 rfl) (own_w hw 60 rfl) (own_w hw 2 rfl) (own_w hw 62 rfl) (by decide) e182 C171 (rmT l Z a0 hw a1 (2 : Int32) t b n (Upd (Upd (Upd (Upd (fun _ => (0 : Int32)) 0 x1) 1 x2) 2 x3) 2 x5) T170.heap n0 Z179 C176 C174 B170 (by decide) ⟨by decide, (by show 2 < n; omega)⟩) (by decide) (by decide) (by decide) (by decide) rfl (by rw [hml]; rfl) (argsL := [(.int (2 : Int32))]) (rest := []) rfl (lenOf pd_6 rfl) rfl (by show 2 * 0 + _ ≤ _; exact Nat.le_of_eq rfl) (hb hby at_121) ?_
      intro v183 T183 L183 X183 hQ183
      obtain ⟨rfl, N183q, e183⟩ := hQ183
      have N183 := Fr.app N182 N183q
      show Goes p e below _ T183 (mkF m 124 #[.val (.int x0), .val (.int x1), .val (.int x2), .val (.int x3), .val (.int x4), .val (.int x5), .val (.ref a1), .val (.int (2 : Int32)), .val (.int x1), .val (.int x2), .val (.int x5)] [(.int ((Upd (Upd (Upd (Upd (fun _ => (0 : Int32)) 0 x1) 1 x2) 2 x3) 2 x5) 2))])
      refine Goes.on (T' := T183) (g' := (mkF m 134 #[.val (.int x0), .val (.int x1), .val (.int x2), .val (.int x3), .val (.int x4), .val (.int x5), .val (.ref a1), .val (.int (2 : Int32)), .val (.int x1), .val (.int x2), .val (.int x5)] [(.int (1 : Int32))])) (fun _ k => XS.iload X183.here hx rfl (hb hby at_124) rfl (XS.icmpNo X183.here hx rfl (hb hby at_126) rfl (XT.ii_ne_f rfl) (XS.iconst X183.here hx rfl (hb hby at_129) (XS.goto X183.here hx rfl (pc0 := 130) (pc' := 134) rfl (hb hby at_130) (by decide) (by decide) k)))) ?_
      exact Goes.retB X183 hx hlk hret (Or.inr rfl) (hb hby at_134) (by decide) (by decide) ⟨rfl, N183⟩
set_option maxRecDepth 65536 in
set_option maxHeartbeats 40000000 in
theorem comes_1 {Post : Tables → Env → Array Value → State → Outcome → State → Prop} (hpost : ∀ tb e args s v u, (limb_1_1.after args s (.returned v) u = true ∧ limb_1_2.after args s (.returned v) u = true ∧ True) → FrameEnd s (.returned v) u (Jvm.fieldLocs frame_1_writes args s ++ Jvm.arrayLocs frame_1_arrays args s ++ Jvm.staticLocs frame_1_statics s) 24 65664 → Post tb e args s (.returned v) u) :
    ArmFor flags0 classFile x code maxLocals ret World_1 tables_1 room_1 Calls_1 rest_1 Pre_1 Post := by
  intro l hfl _ _ p e ha hc hk s m args below hf hA hF happ hP
  obtain ⟨hcalls, hrest, hpre⟩ := hP
  obtain ⟨-, -, -, hnamed, -, -, -, hat⟩ := (Spec.applies_iff hf).mp happ
  obtain ⟨hg, hn⟩ := and_e (Cond.before_iff.mp (show (Jvm.Cond.and given_1 narrow_1).before args s = true from hpre))
  obtain ⟨g0, r0⟩ := and_e hg
  obtain ⟨g1, r1⟩ := and_e r0
  obtain ⟨g2, r2⟩ := and_e r1
  obtain ⟨g3, r3⟩ := and_e r2
  obtain ⟨g4, r4⟩ := and_e r3
  obtain ⟨g5, r5⟩ := and_e r4
  obtain ⟨w0, w1, w2, w3, w4, w5, rfl⟩ : ∃ w0 w1 w2 w3 w4 w5 : Value, args = #[w0, w1, w2, w3, w4, w5] := by
    have hs : args.size = 6 := by simpa [Cond.value, given_1] using g0
    obtain ⟨L⟩ := args
    match L, hs with
    | [w0, w1, w2, w3, w4, w5], _ => exact ⟨w0, w1, w2, w3, w4, w5, rfl⟩
  have hw := fun d (hd : d ∈ tables_1) => atoms_spec (ws := Jvm.Cond.code x code maxLocals ret :: tables_1) hat d (List.mem_cons_of_mem _ hd)
  have hfit : Fit s := fun {y c} hc i hi => by
    obtain ⟨ha, rfl⟩ := Array.getElem?_eq_some_iff.mp hc
    have q := List.all_eq_true.mp ((Array.all_eq_true_iff_forall_mem.mp hF) _ (Array.getElem_mem ha)) i (List.mem_range.mpr hi)
    simpa [Array.getElem?_eq_getElem hi] using q
  obtain ⟨i0, ei0⟩ := is_v g1
  obtain rfl : w0 = (.int i0) := Option.some.inj ei0
  obtain ⟨i1, ei1⟩ := is_v g2
  obtain rfl : w1 = (.int i1) := Option.some.inj ei1
  obtain ⟨i2, ei2⟩ := is_v g3
  obtain rfl : w2 = (.int i2) := Option.some.inj ei2
  obtain ⟨i3, ei3⟩ := is_v g4
  obtain rfl : w3 = (.int i3) := Option.some.inj ei3
  obtain ⟨i4, ei4⟩ := is_v g5
  obtain rfl : w4 = (.int i4) := Option.some.inj ei4
  obtain ⟨i5, ei5⟩ := is_v r5
  obtain rfl : w5 = (.int i5) := Option.some.inj ei5
  obtain ⟨n, o, h1, h2, h3, _, L, rfl, ⟨rfl, N⟩, hq⟩ := rm0 l s _ hw i0 i1 i2 i3 i4 i5 s.heap s.heap.size (Nat.le_refl _)  p e ha hc hk s m _ below hf ((Spec.applies_iff_loose hf).mp happ).1 ⟨rfl, State.Warmed39.refl s, rfl⟩ trivial
  refine ⟨n, _, h1, h2, h3, hpost _ _ _ _ _ _ ⟨Cond.after_iff.mpr rfl, Cond.after_iff.mpr (eq_i res_at (Term.int_eval (1)) rfl), trivial⟩ ⟨hq.1, hq.2.1, (hq.2.2.sift fun y hy => Or.inr (N y hy)).mono (by decide) (by decide)⟩⟩
theorem main_1_1 : Claimed_1_1 := comes_1 fun _ _ _ _ _ _ h hF => ⟨h.1, hF⟩
theorem main_1_2 : Claimed_1_2 := comes_1 fun _ _ _ _ _ _ h hF => ⟨h.2.1, hF⟩

end Jvm.Pilot.@@N@@
namespace Jvm.Pilot.@@N@@
open Jvm Jvm.ClassFile Sem Op Lib Jvm.Free Jvm.Stand Jvm.Pilot.@@N@@.Jvm.D
/-! MADE BY PROGRAM (witnessworld.py) out of the Statement's table words and the real class files: 12 classes; the members and pool entries that the words name. The judged class is class 1, her method 1. -/
namespace start1
open Jvm.ClassFile
def u (s : String) : CpInfo := .utf8 (stringToUtf16 s)
/-- a pool by its gaps: so many unusable entries, then the entry; so many at the end -/
def gap : Nat → List CpInfo → List CpInfo
  | 0, r => r
  | n + 1, r => .unusable :: gap n r
def poolList (es : List (Nat × CpInfo)) (last : Nat) : List CpInfo := es.foldr (fun e r => gap e.1 (e.2 :: r)) (gap last [])
def pool (es : List (Nat × CpInfo)) (last : Nat) : Array CpInfo := ⟨poolList es last⟩
def fileOf (pool : Array CpInfo) (this : Nat) (attrs : Array Attribute := #[]) (ms : Array MethodInfo := #[]) (fl : Nat := 33) (sup : Nat := 0) (ifs : Array Nat := #[]) (fds : Array FieldInfo := #[]) : ClassFile where
  minorVersion := 0
  majorVersion := 65
  constantPool := pool
  accessFlags := fl
  thisClass := this
  superClass := sup
  interfaces := ifs
  fields := fds
  methods := ms
  attributes := attrs
def plain (name : String) (sup : Option ClassId) : Class where
  name := name
  kind := .ordinary
  loader := none
  accessFlags := 33
  super := sup
  interfaces := #[]
  cf := none
  fields := #[]
  methods := #[]
  instanceTypes := #[]
  staticTypes := #[]
  resolved := #[]
  callSites := []
  init := .initialized
  statics := none
  mirror := none

def pool0 : Array CpInfo := pool [(5, u "<init>"), (0, u "()V"), (1, .class_ 10), (1, u "java/lang/Object")] 113

def k0c0 : Code := { maxStack := 0, maxLocals := 1, code := object_method_1_code, exceptionTable := #[], attributes := #[] }
def k0m0 : Method := { name := "<init>", desc := "()V", sig := { parameters := [], returnType := none }, accessFlags := 1, code := some k0c0 }
/-- java/lang/Object -/
def k0 : Class := { plain "java/lang/Object" none with
  accessFlags := 33
  interfaces := #[]
  cf := some (fileOf pool0 8 #[] #[{ accessFlags := 1, nameIndex := 5, descriptorIndex := 6, attributes := #[] }] 33 0 #[] #[])
  fields := #[]
  methods := #[k0m0]
  instanceTypes := #[]
  staticTypes := #[]
  resolved := Array.replicate 124 none
  statics := none }

def pool1 : Array CpInfo := pool [(2, .class_ 4), (1, u "java/lang/Object"), (0, u "<init>"), (0, u "()V"), (0, .class_ 8), (0, u "com/example/arcbind/arcbind/IntBlocks"), (0, .methodref 7 10), (0, .nameAndType 5 11), (0, u "(I)V"), (0, .methodref 7 13), (0, .nameAndType 14 11), (0, u "add"), (0, .integer 2147483647), (0, .methodref 7 17), (0, .nameAndType 18 19), (0, u "set"), (0, u "(II)V"), (0, .methodref 7 21), (0, .nameAndType 22 23), (0, u "size"), (0, u "()I"), (0, .methodref 7 25), (0, .nameAndType 26 27), (0, u "get"), (0, u "(I)I"), (0, .class_ 29), (0, u "com/example/arcbind/arcbind/IntBlocksSetPinLaw"), (2, u "law"), (0, u "(IIIIII)Z")] 3

def k1m0 : Method := { name := "<init>", desc := "()V", sig := { parameters := [], returnType := none }, accessFlags := 1, code := none }
def k1c1 : Code := { maxStack := 3, maxLocals := 11, code := code, exceptionTable := #[], attributes := #[] }
def k1m1 : Method := { name := "law", desc := "(IIIIII)Z", sig := { parameters := [.int, .int, .int, .int, .int, .int], returnType := some .boolean }, accessFlags := 9, code := some k1c1 }
/-- com/example/arcbind/arcbind/IntBlocksSetPinLaw -/
def k1 : Class := { plain "com/example/arcbind/arcbind/IntBlocksSetPinLaw" (some 0) with
  accessFlags := 49
  interfaces := #[]
  cf := some (fileOf pool1 28 #[] #[{ accessFlags := 1, nameIndex := 5, descriptorIndex := 6, attributes := #[] }, { accessFlags := 9, nameIndex := 32, descriptorIndex := 33, attributes := #[] }] 49 2 #[] #[])
  fields := #[]
  methods := #[k1m0, k1m1]
  instanceTypes := #[]
  staticTypes := #[]
  resolved := Array.replicate 37 none
  statics := none }

def pool2 : Array CpInfo := pool [(1, .class_ 2), (0, u "com/example/arcbind/arcbind/IntBlocks"), (2, u "<init>"), (0, u "(I)V"), (0, .methodref 8 9), (0, .class_ 10), (0, .nameAndType 5 11), (0, u "java/lang/Object"), (0, u "()V"), (0, .integer 32768), (0, .methodref 14 15), (0, .class_ 16), (0, .nameAndType 17 18), (0, u "java/lang/Math"), (0, u "min"), (0, u "(II)I"), (0, .methodref 14 20), (0, .nameAndType 21 18), (0, u "max"), (0, .fieldref 1 23), (0, .nameAndType 24 25), (0, u "tail"), (0, u "[I"), (0, .class_ 25), (0, .fieldref 1 28), (0, .nameAndType 29 30), (0, u "blocks"), (0, u "[[I"), (0, .fieldref 1 32), (0, .nameAndType 33 34), (0, u "tailSize"), (0, u "I"), (0, .methodref 1 36), (0, .nameAndType 37 11), (0, u "makeRoom"), (0, .fieldref 1 39), (0, .nameAndType 40 34), (0, u "size"), (0, .methodref 42 43), (0, .class_ 44), (0, .nameAndType 45 46), (0, u "java/util/Arrays"), (0, u "copyOf"), (0, u "([II)[I"), (6, u "get"), (0, u "(I)I"), (0, u "BLOCK_SHIFT"), (2, u "BLOCK_SIZE"), (0, u "BLOCK_MASK"), (1, u "INITIAL_ROOM"), (3, u "add"), (1, u "set"), (0, u "(II)V"), (2, u "()I")] 3

def k2m0 : Method := { name := "<init>", desc := "()V", sig := { parameters := [], returnType := none }, accessFlags := 0, code := none }
def k2c1 : Code := { maxStack := 5, maxLocals := 2, code := prog_14_method_2_code, exceptionTable := #[], attributes := #[] }
def k2m1 : Method := { name := "<init>", desc := "(I)V", sig := { parameters := [.int], returnType := none }, accessFlags := 0, code := some k2c1 }
def k2c2 : Code := { maxStack := 3, maxLocals := 2, code := prog_14_method_3_code, exceptionTable := #[], attributes := #[] }
def k2m2 : Method := { name := "add", desc := "(I)V", sig := { parameters := [.int], returnType := none }, accessFlags := 0, code := some k2c2 }
def k2c3 : Code := { maxStack := 4, maxLocals := 2, code := prog_14_method_4_code, exceptionTable := #[], attributes := #[] }
def k2m3 : Method := { name := "makeRoom", desc := "()V", sig := { parameters := [], returnType := none }, accessFlags := 2, code := some k2c3 }
def k2c4 : Code := { maxStack := 3, maxLocals := 2, code := prog_14_method_5_code, exceptionTable := #[], attributes := #[] }
def k2m4 : Method := { name := "get", desc := "(I)I", sig := { parameters := [.int], returnType := some .int }, accessFlags := 0, code := some k2c4 }
def k2c5 : Code := { maxStack := 3, maxLocals := 3, code := prog_14_method_6_code, exceptionTable := #[], attributes := #[] }
def k2m5 : Method := { name := "set", desc := "(II)V", sig := { parameters := [.int, .int], returnType := none }, accessFlags := 0, code := some k2c5 }
def k2c6 : Code := { maxStack := 1, maxLocals := 1, code := prog_14_method_9_code, exceptionTable := #[], attributes := #[] }
def k2m6 : Method := { name := "size", desc := "()I", sig := { parameters := [], returnType := some .int }, accessFlags := 0, code := some k2c6 }
/-- com/example/arcbind/arcbind/IntBlocks -/
def k2 : Class := { plain "com/example/arcbind/arcbind/IntBlocks" (some 0) with
  accessFlags := 48
  interfaces := #[]
  cf := some (fileOf pool2 1 #[] #[{ accessFlags := 0, nameIndex := 5, descriptorIndex := 11, attributes := #[] }, { accessFlags := 0, nameIndex := 5, descriptorIndex := 6, attributes := #[] }, { accessFlags := 0, nameIndex := 65, descriptorIndex := 6, attributes := #[] }, { accessFlags := 2, nameIndex := 37, descriptorIndex := 11, attributes := #[] }, { accessFlags := 0, nameIndex := 53, descriptorIndex := 54, attributes := #[] }, { accessFlags := 0, nameIndex := 67, descriptorIndex := 68, attributes := #[] }, { accessFlags := 0, nameIndex := 40, descriptorIndex := 71, attributes := #[] }] 48 8 #[] #[{ accessFlags := 26, nameIndex := 55, descriptorIndex := 34, attributes := #[] }, { accessFlags := 26, nameIndex := 58, descriptorIndex := 34, attributes := #[] }, { accessFlags := 26, nameIndex := 59, descriptorIndex := 34, attributes := #[] }, { accessFlags := 26, nameIndex := 61, descriptorIndex := 34, attributes := #[] }, { accessFlags := 2, nameIndex := 29, descriptorIndex := 30, attributes := #[] }, { accessFlags := 2, nameIndex := 40, descriptorIndex := 34, attributes := #[] }, { accessFlags := 2, nameIndex := 24, descriptorIndex := 25, attributes := #[] }, { accessFlags := 2, nameIndex := 33, descriptorIndex := 34, attributes := #[] }])
  fields := #[{ name := "BLOCK_SHIFT", type := .int, accessFlags := 26, slot := 0, constantValue := 0 }, { name := "BLOCK_SIZE", type := .int, accessFlags := 26, slot := 1, constantValue := 0 }, { name := "BLOCK_MASK", type := .int, accessFlags := 26, slot := 2, constantValue := 0 }, { name := "INITIAL_ROOM", type := .int, accessFlags := 26, slot := 3, constantValue := 0 }, { name := "blocks", type := (.array (.array .int)), accessFlags := 2, slot := 0, constantValue := 0 }, { name := "size", type := .int, accessFlags := 2, slot := 1, constantValue := 0 }, { name := "tail", type := (.array .int), accessFlags := 2, slot := 2, constantValue := 0 }, { name := "tailSize", type := .int, accessFlags := 2, slot := 3, constantValue := 0 }]
  methods := #[k2m0, k2m1, k2m2, k2m3, k2m4, k2m5, k2m6]
  instanceTypes := #[(.array (.array .int)), .int, (.array .int), .int]
  staticTypes := #[.int, .int, .int, .int]
  resolved := Array.replicate 75 none
  statics := none }

def pool3 : Array CpInfo := pool [(1, .class_ 2), (0, u "java/lang/Math"), (1, .class_ 6), (1, u "java/lang/Object"), (0, u "<init>"), (0, u "()V"), (89, .class_ 100), (1, u "java/lang/Math$RandomNumberGeneratorHolder"), (71, u "negativeZeroFloatBits"), (0, u "J"), (2, u "negativeZeroDoubleBits"), (21, u "max"), (2, u "min"), (43, u "$assertionsDisabled"), (0, u "Z"), (88, u "(II)I"), (2, u "twoToTheDoubleScaleDown"), (0, u "D"), (4, u "twoToTheDoubleScaleUp"), (9, u "E"), (3, u "PI"), (2, u "TAU"), (2, u "DEGREES_TO_RADIANS"), (0, u "RADIANS_TO_DEGREES")] 94

def k3m0 : Method := { name := "<init>", desc := "()V", sig := { parameters := [], returnType := none }, accessFlags := 2, code := none }
def k3c1 : Code := { maxStack := 2, maxLocals := 2, code := jdk_29_method_65_code, exceptionTable := #[], attributes := #[] }
def k3m1 : Method := { name := "max", desc := "(II)I", sig := { parameters := [.int, .int], returnType := some .int }, accessFlags := 9, code := some k3c1 }
def k3c2 : Code := { maxStack := 2, maxLocals := 2, code := jdk_29_method_69_code, exceptionTable := #[], attributes := #[] }
def k3m2 : Method := { name := "min", desc := "(II)I", sig := { parameters := [.int, .int], returnType := some .int }, accessFlags := 9, code := some k3c2 }
/-- java/lang/Math -/
def k3 : Class := { plain "java/lang/Math" (some 0) with
  accessFlags := 49
  interfaces := #[]
  cf := some (fileOf pool3 1 #[.nestMembers #[98]] #[{ accessFlags := 2, nameIndex := 7, descriptorIndex := 8, attributes := #[] }, { accessFlags := 9, nameIndex := 198, descriptorIndex := 335, attributes := #[] }, { accessFlags := 9, nameIndex := 201, descriptorIndex := 335, attributes := #[] }] 49 4 #[] #[{ accessFlags := 25, nameIndex := 354, descriptorIndex := 339, attributes := #[] }, { accessFlags := 25, nameIndex := 358, descriptorIndex := 339, attributes := #[] }, { accessFlags := 25, nameIndex := 361, descriptorIndex := 339, attributes := #[] }, { accessFlags := 26, nameIndex := 364, descriptorIndex := 339, attributes := #[] }, { accessFlags := 26, nameIndex := 365, descriptorIndex := 339, attributes := #[] }, { accessFlags := 26, nameIndex := 172, descriptorIndex := 173, attributes := #[] }, { accessFlags := 26, nameIndex := 176, descriptorIndex := 173, attributes := #[] }, { accessFlags := 8, nameIndex := 344, descriptorIndex := 339, attributes := #[] }, { accessFlags := 8, nameIndex := 338, descriptorIndex := 339, attributes := #[] }, { accessFlags := 4120, nameIndex := 245, descriptorIndex := 246, attributes := #[] }])
  fields := #[{ name := "E", type := .double, accessFlags := 25, slot := 0, constantValue := 0 }, { name := "PI", type := .double, accessFlags := 25, slot := 1, constantValue := 0 }, { name := "TAU", type := .double, accessFlags := 25, slot := 2, constantValue := 0 }, { name := "DEGREES_TO_RADIANS", type := .double, accessFlags := 26, slot := 3, constantValue := 0 }, { name := "RADIANS_TO_DEGREES", type := .double, accessFlags := 26, slot := 4, constantValue := 0 }, { name := "negativeZeroFloatBits", type := .long, accessFlags := 26, slot := 5, constantValue := 0 }, { name := "negativeZeroDoubleBits", type := .long, accessFlags := 26, slot := 6, constantValue := 0 }, { name := "twoToTheDoubleScaleUp", type := .double, accessFlags := 8, slot := 7, constantValue := 0 }, { name := "twoToTheDoubleScaleDown", type := .double, accessFlags := 8, slot := 8, constantValue := 0 }, { name := "$assertionsDisabled", type := .boolean, accessFlags := 4120, slot := 9, constantValue := 0 }]
  methods := #[k3m0, k3m1, k3m2]
  instanceTypes := #[]
  staticTypes := #[.double, .double, .double, .double, .double, .long, .long, .double, .double, .boolean]
  resolved := Array.replicate 460 none
  statics := none }

def pool4 : Array CpInfo := pool [(2, .class_ 4), (1, u "java/lang/Object"), (0, u "<init>"), (0, u "()V"), (7, .class_ 16), (1, u "java/util/Arrays"), (57, .class_ 76), (1, u "java/util/Arrays$NaturalOrder"), (36, .class_ 115), (1, u "java/util/Arrays$LegacyMergeSort"), (1, u "Z"), (32, .methodref 151 152), (0, .class_ 153), (0, .nameAndType 154 155), (0, u "java/lang/System"), (0, u "arraycopy"), (0, u "(Ljava/lang/Object;ILjava/lang/Object;II)V"), (146, u "copyOf"), (1, .methodref 305 306), (0, .class_ 307), (0, .nameAndType 308 309), (0, u "java/lang/Math"), (0, u "min"), (0, u "(II)I"), (65, .class_ 376), (0, u "java/util/Arrays$ArrayList"), (68, u "$assertionsDisabled"), (269, u "MIN_ARRAY_SORT_GRAN"), (0, u "I"), (2, u "INSERTIONSORT_THRESHOLD"), (151, u "([II)[I"), (103, .class_ 976), (0, u "java/util/Arrays$ArrayItr")] 52

def k4m0 : Method := { name := "<init>", desc := "()V", sig := { parameters := [], returnType := none }, accessFlags := 2, code := none }
def k4c1 : Code := { maxStack := 6, maxLocals := 3, code := jdk_65_method_123_code, exceptionTable := #[], attributes := #[] }
def k4m1 : Method := { name := "copyOf", desc := "([II)[I", sig := { parameters := [(.array .int), .int], returnType := some (.array .int) }, accessFlags := 9, code := some k4c1 }
/-- java/util/Arrays -/
def k4 : Class := { plain "java/util/Arrays" (some 0) with
  accessFlags := 49
  interfaces := #[]
  cf := some (fileOf pool4 14 #[.nestMembers #[975, 375, 113, 74]] #[{ accessFlags := 2, nameIndex := 5, descriptorIndex := 6, attributes := #[] }, { accessFlags := 9, nameIndex := 302, descriptorIndex := 871, attributes := #[] }] 49 2 #[] #[{ accessFlags := 26, nameIndex := 715, descriptorIndex := 716, attributes := #[] }, { accessFlags := 26, nameIndex := 719, descriptorIndex := 716, attributes := #[] }, { accessFlags := 4120, nameIndex := 445, descriptorIndex := 117, attributes := #[] }])
  fields := #[{ name := "MIN_ARRAY_SORT_GRAN", type := .int, accessFlags := 26, slot := 0, constantValue := 0 }, { name := "INSERTIONSORT_THRESHOLD", type := .int, accessFlags := 26, slot := 1, constantValue := 0 }, { name := "$assertionsDisabled", type := .boolean, accessFlags := 4120, slot := 2, constantValue := 0 }]
  methods := #[k4m0, k4m1]
  instanceTypes := #[]
  staticTypes := #[.int, .int, .boolean]
  resolved := Array.replicate 1029 none
  statics := none }

def pool5 : Array CpInfo := pool [(2, .class_ 4), (1, u "java/lang/Object"), (0, u "<init>"), (0, u "()V"), (1, .class_ 10), (1, u "java/lang/System"), (0, u "allowSecurityManager"), (0, u "I"), (16, u "cons"), (0, u "Ljava/io/Console;"), (77, .class_ 110), (1, u "java/lang/System$CallersHolder"), (43, u "initialErrStream"), (0, u "Ljava/io/PrintStream;"), (19, u "security"), (0, u "Ljava/lang/SecurityManager;"), (31, .class_ 209), (0, u "java/lang/System$1"), (7, u "props"), (0, u "Ljava/util/Properties;"), (2, u "lineSeparator"), (0, u "Ljava/lang/String;"), (96, .class_ 321), (1, u "java/lang/System$LoggerFinder"), (5, .class_ 328), (0, u "java/lang/System$Logger"), (67, u "err"), (2, u "out"), (91, u "notSupportedJnuEncoding"), (15, u "in"), (17, u "initialIn"), (0, u "Ljava/io/InputStream;"), (35, u "bootLayer"), (0, u "Ljava/lang/ModuleLayer;"), (99, .class_ 664), (0, u "java/lang/System$2"), (9, u "NEVER"), (2, u "MAYBE"), (49, u "arraycopy"), (0, u "(Ljava/lang/Object;ILjava/lang/Object;II)V"), (72, .class_ 802), (0, u "java/lang/System$Logger$Level")] 31

def k5m0 : Method := { name := "<init>", desc := "()V", sig := { parameters := [], returnType := none }, accessFlags := 2, code := none }
def k5m1 : Method := { name := "arraycopy", desc := "(Ljava/lang/Object;ILjava/lang/Object;II)V", sig := { parameters := [(.object "java/lang/Object"), .int, (.object "java/lang/Object"), .int, .int], returnType := none }, accessFlags := 265, code := none }
/-- java/lang/System -/
def k5 : Class := { plain "java/lang/System" (some 0) with
  accessFlags := 49
  interfaces := #[]
  cf := some (fileOf pool5 8 #[.nestMembers #[319, 327, 801, 108, 663, 208]] #[{ accessFlags := 2, nameIndex := 5, descriptorIndex := 6, attributes := #[] }, { accessFlags := 265, nameIndex := 727, descriptorIndex := 728, attributes := #[] }] 49 2 #[] #[{ accessFlags := 25, nameIndex := 507, descriptorIndex := 526, attributes := #[] }, { accessFlags := 25, nameIndex := 399, descriptorIndex := 155, attributes := #[] }, { accessFlags := 25, nameIndex := 396, descriptorIndex := 155, attributes := #[] }, { accessFlags := 10, nameIndex := 525, descriptorIndex := 526, attributes := #[] }, { accessFlags := 26, nameIndex := 674, descriptorIndex := 12, attributes := #[] }, { accessFlags := 26, nameIndex := 677, descriptorIndex := 12, attributes := #[] }, { accessFlags := 10, nameIndex := 11, descriptorIndex := 12, attributes := #[] }, { accessFlags := 74, nameIndex := 175, descriptorIndex := 176, attributes := #[] }, { accessFlags := 10, nameIndex := 491, descriptorIndex := 222, attributes := #[] }, { accessFlags := 74, nameIndex := 29, descriptorIndex := 30, attributes := #[] }, { accessFlags := 74, nameIndex := 154, descriptorIndex := 155, attributes := #[] }, { accessFlags := 10, nameIndex := 217, descriptorIndex := 218, attributes := #[] }, { accessFlags := 10, nameIndex := 221, descriptorIndex := 222, attributes := #[] }, { accessFlags := 8, nameIndex := 562, descriptorIndex := 563, attributes := #[] }])
  fields := #[{ name := "in", type := (.object "java/io/InputStream"), accessFlags := 25, slot := 0, constantValue := 0 }, { name := "out", type := (.object "java/io/PrintStream"), accessFlags := 25, slot := 1, constantValue := 0 }, { name := "err", type := (.object "java/io/PrintStream"), accessFlags := 25, slot := 2, constantValue := 0 }, { name := "initialIn", type := (.object "java/io/InputStream"), accessFlags := 10, slot := 3, constantValue := 0 }, { name := "NEVER", type := .int, accessFlags := 26, slot := 4, constantValue := 0 }, { name := "MAYBE", type := .int, accessFlags := 26, slot := 5, constantValue := 0 }, { name := "allowSecurityManager", type := .int, accessFlags := 10, slot := 6, constantValue := 0 }, { name := "security", type := (.object "java/lang/SecurityManager"), accessFlags := 74, slot := 7, constantValue := 0 }, { name := "notSupportedJnuEncoding", type := (.object "java/lang/String"), accessFlags := 10, slot := 8, constantValue := 0 }, { name := "cons", type := (.object "java/io/Console"), accessFlags := 74, slot := 9, constantValue := 0 }, { name := "initialErrStream", type := (.object "java/io/PrintStream"), accessFlags := 74, slot := 10, constantValue := 0 }, { name := "props", type := (.object "java/util/Properties"), accessFlags := 10, slot := 11, constantValue := 0 }, { name := "lineSeparator", type := (.object "java/lang/String"), accessFlags := 10, slot := 12, constantValue := 0 }, { name := "bootLayer", type := (.object "java/lang/ModuleLayer"), accessFlags := 8, slot := 13, constantValue := 0 }]
  methods := #[k5m0, k5m1]
  instanceTypes := #[]
  staticTypes := #[(.object "java/io/InputStream"), (.object "java/io/PrintStream"), (.object "java/io/PrintStream"), (.object "java/io/InputStream"), .int, .int, .int, (.object "java/lang/SecurityManager"), (.object "java/lang/String"), (.object "java/io/Console"), (.object "java/io/PrintStream"), (.object "java/util/Properties"), (.object "java/lang/String"), (.object "java/lang/ModuleLayer")]
  resolved := Array.replicate 834 none
  statics := none }

def pool6 : Array CpInfo := pool [(1, u "java/lang/Cloneable"), (0, .class_ 1), (0, u "java/lang/Object"), (0, .class_ 3)] 3

/-- java/lang/Cloneable -/
def k6 : Class := { plain "java/lang/Cloneable" (some 0) with
  accessFlags := 1537
  interfaces := #[]
  cf := some (fileOf pool6 2 #[] #[] 1537 4 #[] #[])
  fields := #[]
  methods := #[]
  instanceTypes := #[]
  staticTypes := #[]
  resolved := Array.replicate 8 none
  statics := none }

def pool7 : Array CpInfo := pool [(1, u "java/io/Serializable"), (0, .class_ 1), (0, u "java/lang/Object"), (0, .class_ 3)] 3

/-- java/io/Serializable -/
def k7 : Class := { plain "java/io/Serializable" (some 0) with
  accessFlags := 1537
  interfaces := #[]
  cf := some (fileOf pool7 2 #[] #[] 1537 4 #[] #[])
  fields := #[]
  methods := #[]
  instanceTypes := #[]
  staticTypes := #[]
  resolved := Array.replicate 8 none
  statics := none }

/-- the primitive byte -/
def k8 : Class := { plain "byte" none with kind := .primitive 'B', accessFlags := 0x411 }
/-- [B -/
def k9 : Class := { plain "[B" (some 0) with kind := .array 8 .byte, interfaces := #[6, 7], accessFlags := 1041 }

/-- the primitive int -/
def k10 : Class := { plain "int" none with kind := .primitive 'I', accessFlags := 0x411 }
/-- [I -/
def k11 : Class := { plain "[I" (some 0) with kind := .array 10 .int, interfaces := #[6, 7], accessFlags := 1041 }

def heap : Heap := #[]
/-- [[I -/
def k12 : Class := { plain "[[I" (some 0) with kind := .array 11 (.array .int), interfaces := #[6, 7], accessFlags := 1041 }
def classes : Array Class := #[k0, k1, k2, k3, k4, k5, k6, k7, k8, k9, k10, k11, k12]
def interned : List (Array UInt16 × Addr) := []
def slotsUsed : Nat := 0
def theMethod : MethodId := ⟨1, 1⟩
def args0 : Array Value := #[.int 1, .int 2, .int 3, .int 4, .int 5, .int 6]
def aboutOver (below : List Frame) : State where
  vm := { classes := classes, interned := interned.toArray }
  heap := heap
  slotsUsed := slotsUsed
  threads := #[{ frames := .invoking theMethod args0 :: below }]
def below0 : List Frame := [.native { method := ⟨0, 0⟩, args := #[] }]
def about1 : State := aboutOver below0
def p0 : Program := .bare "" "" ""
def e0 : Env := launch0.env 0 0 0
theorem w_frames : about1.frames = Frame.invoking theMethod args0 :: below0 := rfl
set_option maxRecDepth 65536 in
theorem w_args : argsFit about1.vm theMethod args0 = true := by decide +kernel
set_option maxRecDepth 65536 in
theorem w_heap : heapFits about1 = true := by decide +kernel
set_option maxRecDepth 65536 in
theorem w_runnable : about1.curStatus? = some .runnable := by decide +kernel
set_option maxRecDepth 65536 in
theorem w_alone : about1.alone = true := by decide +kernel
set_option maxRecDepth 65536 in
theorem w_named : about1.methodNamed? x = some theMethod := by decide +kernel
set_option maxRecDepth 65536 in
theorem w_hears : about1.hears theMethod below0 = true := by decide +kernel
set_option maxRecDepth 65536 in
theorem w_ripe : about1.ripe theMethod args0 below0 = true := by decide +kernel
theorem w_running : about1.status = .running := rfl
set_option maxRecDepth 65536 in
theorem w_room : about1.hasRoom e0.platform room_1 = true :=
  launch0.hasRoom_least _ room_1 (by decide +kernel) (by decide +kernel) (by decide +kernel) (by decide +kernel) (by decide +kernel) (by decide +kernel)
theorem allAtoms_all (ts : List Jvm.Cond) (a : Array Jvm.Value) (st : Jvm.State) : (allAtoms ts).before a st = ts.all (fun c => c.before a st) := by
  induction ts with
  | nil => rfl
  | cons c t ih =>
    show (Jvm.Cond.and c (allAtoms t)).before a st = _
    rw [Jvm.Cond.before_and, ih, List.all_cons]
def words1 : List Jvm.Cond := Jvm.Cond.code x code maxLocals ret :: tables_1
/-- a 'code' word, met by the world's own term for the bytes: nothing is compared byte by byte -/
theorem code_word {y : MethodName} {bytes : ByteArray} {mx : Nat} {rt : Option FieldType} {a : Array Value} {s : State} {m : MethodId} {meth : Method} {c : Code} (h1 : s.methodNamed? y = some m) (h2 : s.vm.method? m = some meth) (h3 : meth.code = some c) (h4 : c.code = bytes)
    (h5 : (c.maxLocals == mx && c.exceptionTable.isEmpty && decide (c.maxStack ≤ mostOperands) && decide (meth.sig.returnType = rt) && !meth.locks && decide (parseMethodDescriptor y.desc = some meth.sig)) = true) : (Jvm.Cond.code y bytes mx rt).before a s = true := by
  simp only [Bool.and_eq_true, beq_iff_eq, Bool.not_eq_true', decide_eq_true_eq] at h5
  obtain ⟨⟨⟨⟨⟨g1, g2⟩, g3⟩, g4⟩, g5⟩, g6⟩ := h5
  simp [Cond.before, Cond.holds, Cond.value, h1, h2, h3, h4, g1, g2, g3, g4, g5, g6]
def isCode : Jvm.Cond → Bool
  | .code _ _ _ _ => true
  | _ => false
theorem all_split {L : List Jvm.Cond} {P : Jvm.Cond → Bool} (h1 : L.all (fun c => isCode c || P c) = true) (h2 : ∀ c ∈ L.filter isCode, P c = true) : L.all P = true := by
  refine List.all_eq_true.mpr fun c hc => ?_
  have h := List.all_eq_true.mp h1 c hc
  rcases Bool.eq_false_or_eq_true (isCode c) with hi | hi
  · exact h2 c (List.mem_filter.mpr ⟨hc, hi⟩)
  · simpa [hi] using h
set_option maxRecDepth 65536 in
theorem w_c0 : (Jvm.Cond.code x code maxLocals ret).before args0 about1 = true := code_word (m := ⟨1, 1⟩) (meth := k1m1) (c := k1c1) (by decide +kernel) rfl rfl rfl (by decide +kernel)
set_option maxRecDepth 65536 in
theorem w_c1 : (Jvm.Cond.code ({ cls := "com/example/arcbind/arcbind/IntBlocks", name := "<init>", desc := "(I)V" } : Jvm.MethodName) prog_14_method_2_code (2 : Nat) (Option.none : Option Jvm.ClassFile.FieldType)).before args0 about1 = true := code_word (m := ⟨2, 1⟩) (meth := k2m1) (c := k2c1) (by decide +kernel) rfl rfl rfl (by decide +kernel)
set_option maxRecDepth 65536 in
theorem w_c2 : (Jvm.Cond.code ({ cls := "java/lang/Object", name := "<init>", desc := "()V" } : Jvm.MethodName) object_method_1_code (1 : Nat) (Option.none : Option Jvm.ClassFile.FieldType)).before args0 about1 = true := code_word (m := ⟨0, 0⟩) (meth := k0m0) (c := k0c0) (by decide +kernel) rfl rfl rfl (by decide +kernel)
set_option maxRecDepth 65536 in
theorem w_c3 : (Jvm.Cond.code ({ cls := "java/lang/Math", name := "min", desc := "(II)I" } : Jvm.MethodName) jdk_29_method_69_code (2 : Nat) (Option.some Jvm.ClassFile.FieldType.int)).before args0 about1 = true := code_word (m := ⟨3, 2⟩) (meth := k3m2) (c := k3c2) (by decide +kernel) rfl rfl rfl (by decide +kernel)
set_option maxRecDepth 65536 in
theorem w_c4 : (Jvm.Cond.code ({ cls := "java/lang/Math", name := "max", desc := "(II)I" } : Jvm.MethodName) jdk_29_method_65_code (2 : Nat) (Option.some Jvm.ClassFile.FieldType.int)).before args0 about1 = true := code_word (m := ⟨3, 1⟩) (meth := k3m1) (c := k3c1) (by decide +kernel) rfl rfl rfl (by decide +kernel)
set_option maxRecDepth 65536 in
theorem w_c5 : (Jvm.Cond.code ({ cls := "com/example/arcbind/arcbind/IntBlocks", name := "add", desc := "(I)V" } : Jvm.MethodName) prog_14_method_3_code (2 : Nat) (Option.none : Option Jvm.ClassFile.FieldType)).before args0 about1 = true := code_word (m := ⟨2, 2⟩) (meth := k2m2) (c := k2c2) (by decide +kernel) rfl rfl rfl (by decide +kernel)
set_option maxRecDepth 65536 in
theorem w_c6 : (Jvm.Cond.code ({ cls := "com/example/arcbind/arcbind/IntBlocks", name := "makeRoom", desc := "()V" } : Jvm.MethodName) prog_14_method_4_code (2 : Nat) (Option.none : Option Jvm.ClassFile.FieldType)).before args0 about1 = true := code_word (m := ⟨2, 3⟩) (meth := k2m3) (c := k2c3) (by decide +kernel) rfl rfl rfl (by decide +kernel)
set_option maxRecDepth 65536 in
theorem w_c7 : (Jvm.Cond.code ({ cls := "java/util/Arrays", name := "copyOf", desc := "([II)[I" } : Jvm.MethodName) jdk_65_method_123_code (3 : Nat) (Option.some (Jvm.ClassFile.FieldType.array Jvm.ClassFile.FieldType.int))).before args0 about1 = true := code_word (m := ⟨4, 1⟩) (meth := k4m1) (c := k4c1) (by decide +kernel) rfl rfl rfl (by decide +kernel)
set_option maxRecDepth 65536 in
theorem w_c8 : (Jvm.Cond.code ({ cls := "com/example/arcbind/arcbind/IntBlocks", name := "set", desc := "(II)V" } : Jvm.MethodName) prog_14_method_6_code (3 : Nat) (Option.none : Option Jvm.ClassFile.FieldType)).before args0 about1 = true := code_word (m := ⟨2, 5⟩) (meth := k2m5) (c := k2c5) (by decide +kernel) rfl rfl rfl (by decide +kernel)
set_option maxRecDepth 65536 in
theorem w_c9 : (Jvm.Cond.code ({ cls := "com/example/arcbind/arcbind/IntBlocks", name := "size", desc := "()I" } : Jvm.MethodName) prog_14_method_9_code (1 : Nat) (Option.some Jvm.ClassFile.FieldType.int)).before args0 about1 = true := code_word (m := ⟨2, 6⟩) (meth := k2m6) (c := k2c6) (by decide +kernel) rfl rfl rfl (by decide +kernel)
set_option maxRecDepth 65536 in
theorem w_c10 : (Jvm.Cond.code ({ cls := "com/example/arcbind/arcbind/IntBlocks", name := "get", desc := "(I)I" } : Jvm.MethodName) prog_14_method_5_code (2 : Nat) (Option.some Jvm.ClassFile.FieldType.int)).before args0 about1 = true := code_word (m := ⟨2, 4⟩) (meth := k2m4) (c := k2c4) (by decide +kernel) rfl rfl rfl (by decide +kernel)
def codes1 : List Jvm.Cond := [Jvm.Cond.code x code maxLocals ret, Jvm.Cond.code ({ cls := "com/example/arcbind/arcbind/IntBlocks", name := "<init>", desc := "(I)V" } : Jvm.MethodName) prog_14_method_2_code (2 : Nat) (Option.none : Option Jvm.ClassFile.FieldType), Jvm.Cond.code ({ cls := "java/lang/Object", name := "<init>", desc := "()V" } : Jvm.MethodName) object_method_1_code (1 : Nat) (Option.none : Option Jvm.ClassFile.FieldType), Jvm.Cond.code ({ cls := "java/lang/Math", name := "min", desc := "(II)I" } : Jvm.MethodName) jdk_29_method_69_code (2 : Nat) (Option.some Jvm.ClassFile.FieldType.int), Jvm.Cond.code ({ cls := "java/lang/Math", name := "max", desc := "(II)I" } : Jvm.MethodName) jdk_29_method_65_code (2 : Nat) (Option.some Jvm.ClassFile.FieldType.int), Jvm.Cond.code ({ cls := "com/example/arcbind/arcbind/IntBlocks", name := "add", desc := "(I)V" } : Jvm.MethodName) prog_14_method_3_code (2 : Nat) (Option.none : Option Jvm.ClassFile.FieldType), Jvm.Cond.code ({ cls := "com/example/arcbind/arcbind/IntBlocks", name := "makeRoom", desc := "()V" } : Jvm.MethodName) prog_14_method_4_code (2 : Nat) (Option.none : Option Jvm.ClassFile.FieldType), Jvm.Cond.code ({ cls := "java/util/Arrays", name := "copyOf", desc := "([II)[I" } : Jvm.MethodName) jdk_65_method_123_code (3 : Nat) (Option.some (Jvm.ClassFile.FieldType.array Jvm.ClassFile.FieldType.int)), Jvm.Cond.code ({ cls := "com/example/arcbind/arcbind/IntBlocks", name := "set", desc := "(II)V" } : Jvm.MethodName) prog_14_method_6_code (3 : Nat) (Option.none : Option Jvm.ClassFile.FieldType), Jvm.Cond.code ({ cls := "com/example/arcbind/arcbind/IntBlocks", name := "size", desc := "()I" } : Jvm.MethodName) prog_14_method_9_code (1 : Nat) (Option.some Jvm.ClassFile.FieldType.int), Jvm.Cond.code ({ cls := "com/example/arcbind/arcbind/IntBlocks", name := "get", desc := "(I)I" } : Jvm.MethodName) prog_14_method_5_code (2 : Nat) (Option.some Jvm.ClassFile.FieldType.int)]
set_option maxRecDepth 65536 in
theorem codes_eq : words1.filter isCode = codes1 := rfl
theorem w_codes : ∀ c ∈ words1.filter isCode, c.before args0 about1 = true := by
  rw [codes_eq]
  intro c hc
  simp only [codes1, List.mem_cons, List.not_mem_nil, or_false] at hc
  rcases hc with rfl | rfl | rfl | rfl | rfl | rfl | rfl | rfl | rfl | rfl | rfl
  · exact w_c0
  · exact w_c1
  · exact w_c2
  · exact w_c3
  · exact w_c4
  · exact w_c5
  · exact w_c6
  · exact w_c7
  · exact w_c8
  · exact w_c9
  · exact w_c10
set_option maxRecDepth 65536 in
theorem w_t1 : (words1.take 24).all (fun c => isCode c || c.before args0 about1) = true := by decide +kernel
set_option maxRecDepth 65536 in
theorem w_t2 : ((words1.drop 24).take 24).all (fun c => isCode c || c.before args0 about1) = true := by decide +kernel
set_option maxRecDepth 65536 in
theorem w_t3 : ((words1.drop 24).drop 24).all (fun c => isCode c || c.before args0 about1) = true := by decide +kernel
theorem w_tables : (allAtoms (Jvm.Cond.code x code maxLocals ret :: tables_1)).before args0 about1 = true := by
  rw [allAtoms_all]
  show words1.all (fun c => c.before args0 about1) = true
  refine all_split ?_ w_codes
  rw [← List.take_append_drop 24 words1, List.all_append, w_t1, ← List.take_append_drop 24 (words1.drop 24), List.all_append, w_t2, w_t3]
  rfl
set_option maxRecDepth 65536 in
theorem w_case : (Jvm.Cond.and given_1 narrow_1).before args0 about1 = true := by decide +kernel
theorem w_applies : (headSpec (Jvm.Cond.code x code maxLocals ret :: tables_1) room_1).applies x e0.platform about1 = true :=
  (Spec.applies_iff w_frames).mpr ⟨w_running, w_runnable, w_alone, w_named, w_hears, w_ripe, w_room, w_tables⟩
theorem atStart : AtStart classFile x code maxLocals ret World_1 tables_1 room_1 Calls_1 rest_1 Pre_1 launch0 p0 e0 about1 theMethod args0 below0 :=
  ⟨lists_1, trivial, launch0.admits_env _ _ _, launch0.least_env, fairChoices_fair.cas, fairChoices_fair.clock, w_frames, w_args, w_heap, w_applies, trivial, trivial, w_case⟩
end start1
theorem witness_1 : WitnessClaimed_1 := ⟨start1.p0, start1.e0, start1.about1, start1.theMethod, start1.args0, start1.below0, start1.atStart⟩
end Jvm.Pilot.@@N@@
