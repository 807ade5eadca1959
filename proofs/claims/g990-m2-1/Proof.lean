import JvmDerived
import JvmDerived.Pilot.@@N@@Statement
import JvmDerived.Pilot.@@N@@Code
set_option linter.unusedVariables false
set_option linter.unusedSimpArgs false
namespace Jvm.Own
open Sem ClassFile Op Lib Jvm.Stand Jvm.Free Jvm.LawKit Jvm.RoadKit
/-- from the frame g, standing in T, the run ends in what P says -/
def Goes (p : Program) (e : Env) (below : List Frame) (P : Outcome → State → Prop) (T : State) (g : JFrame) : Prop :=
  ∃ s₂ o, Steps p.tables e below (T.setTop g) s₂ ∧ s₂.status = .running ∧ Ended s₂ below o ∧ P o s₂
/-- what a body leaves -/
abbrev Leaves (s : State) (Q : Option Value → Heap → List Loc → Prop) (C N : Nat) (o : Outcome) (U : State) : Prop := ∃ v L, o = .returned v ∧ Q v U.heap L ∧ FrameEnd s o U L C N
/-- a body's contract, asked at the arguments 'as' and the heap h0 -/
abbrev Pays (l : Launch) (Z : State) (y : MethodName) (bytes : ByteArray) (maxL : Nat) (ret : Option FieldType) (ws : List Jvm.Cond) (rm : Room) (as : Array Value) (h0 : Heap) (Q : Option Value → Heap → List Loc → Prop) : Prop :=
  MetFree l y (head1 (Jvm.Cond.code y bytes maxL ret :: ws) rm) (fun a U => a = as ∧ Z.Warmed39 U.vm ∧ U.heap = h0) (fun _ _ _ _ _ => True) (fun _ U o U' => ∃ v L, o = .returned v ∧ Q v U'.heap L ∧ FrameEnd U o U' L rm.cells rm.slots)
section Steps
variable {p : Program} {l : Launch} {e : Env} {R : Room} {s : State} {m : MethodId} {args : Array Value} {below : List Frame} {meth : Method} {c : Code} {T T' : State} {locs : List Loc} {cells slots : Nat} {Z : State} {a0 : Array Value} {h : Heap} {P : Outcome → State → Prop} {g g' : JFrame}
theorem Goes.on (st : ∀ t, Steps p.tables e below (T'.setTop g') t → Steps p.tables e below (T.setTop g) t) (k : Goes p e below P T' g') : Goes p e below P T g := by
  obtain ⟨s₂, o, h1, h2⟩ := k
  exact ⟨s₂, o, st _ h1, h2⟩
theorem Goes.joinB {fr : Int32 → JFrame} (k : ∀ z, (z = 0 ∨ z = 1) → Goes p e below P T' (fr z)) (u : (∀ z, (z = 0 ∨ z = 1) → Goes p e below P T' (fr z)) → Goes p e below P T g) : Goes p e below P T g := u k
theorem Goes.joinI {fr : Int32 → JFrame} (k : ∀ z, Goes p e below P T' (fr z)) (u : (∀ z, Goes p e below P T' (fr z)) → Goes p e below P T g) : Goes p e below P T g := u k
theorem Goes.joinJ {fr : Int64 → JFrame} (k : ∀ z, Goes p e below P T' (fr z)) (u : (∀ z, Goes p e below P T' (fr z)) → Goes p e below P T g) : Goes p e below P T g := u k
theorem Goes.joinR {fr : Addr → JFrame} (k : ∀ z, Goes p e below P T' (fr z)) (u : (∀ z, Goes p e below P T' (fr z)) → Goes p e below P T g) : Goes p e below P T g := u k
theorem Goes.joinT (X : Stand p l e R s m args below meth c T locs cells slots) {fr : Addr → JFrame} (k : ∀ z T', Stand p l e R s m args below meth c T' locs cells slots → T'.heap = h → Goes p e below P T' (fr z)) (u : (∀ z T', Stand p l e R s m args below meth c T' locs cells slots → T'.heap = h → Goes p e below P T' (fr z)) → Goes p e below P T g) : Goes p e below P T g := u k
theorem Goes.out {Q : Option Value → Heap → List Loc → Prop} {C N : Nat} (X : Stand p l e R s m args below meth c T locs cells slots) {v : Option Value} (hv : meth.sig.returnType = none → v = none) (hlk : meth.locks = false) (hc : cells ≤ C) (hs : slots ≤ N) (hq : Q v T.heap locs)
    (st : ∀ fs, (∀ (f : JFrame) (acts : List Action), f.method = m → f.locked = none → f.entered = [] → (doReturn e (T.setTop f) acts v).1 = T.setFrames fs) → Steps p.tables e below (T.setTop g) (T.setFrames fs)) : Goes p e below (Leaves s Q C N) T g := by
  obtain ⟨fs, hr, hrun, hended, hW, hsame⟩ := X.leave (v := v) hv hlk
  exact ⟨_, _, st fs hr, hrun, hended, v, locs, rfl, hq, ⟨_, rfl⟩, hW, hsame.mono hc hs⟩
theorem Goes.retV {Q : Option Value → Heap → List Loc → Prop} {C N : Nat} (X : Stand p l e R s m args below meth c T locs cells slots) (hx : p.tables.exec = Jvm.exec) (hlk : meth.locks = false) (hret : meth.sig.returnType = none) {pc : Nat} {Ls : Array Slot} (hd : decode c.code pc = .ok (.return_, 1)) (hc : cells ≤ C) (hs : slots ≤ N) (hq : Q none T.heap locs) :
    Goes p e below (Leaves s Q C N) T (mkF m pc Ls []) :=
  Goes.out X (fun _ => rfl) hlk hc hs hq fun _ hr => X.returnOut hx hret hd hr
theorem Goes.retW {Q : Option Value → Heap → List Loc → Prop} {C N : Nat} (X : Stand p l e R s m args below meth c T locs cells slots) (hx : p.tables.exec = Jvm.exec) (hlk : meth.locks = false) {t : FieldType} {i : Instr} {w : Value} (hret : meth.sig.returnType = some t) {pc : Nat} {Ls : Array Slot} {rest : List Value} (hn : narrow t w = w)
    (hi : (i = .ireturn ∧ (t = .int ∨ t = .boolean ∨ t = .byte ∨ t = .char ∨ t = .short) ∧ ∃ z, w = .int z) ∨ (i = .lreturn ∧ t = .long ∧ ∃ z, w = .long z) ∨ (i = .dreturn ∧ t = .double ∧ ∃ z, w = .double z) ∨ (i = .freturn ∧ t = .float ∧ ∃ z, w = .float z) ∨ (i = .areturn ∧ t.isReference = true ∧ w.isRef = true))
    (hd : decode c.code pc = .ok (i, 1)) (hc : cells ≤ C) (hs : slots ≤ N) (hq : Q (some w) T.heap locs) : Goes p e below (Leaves s Q C N) T (mkF m pc Ls (w :: rest)) :=
  Goes.out X (fun h => by rw [hret] at h; cases h) hlk hc hs hq fun _ hr => retOut X hx hret hn hi hd hr
theorem Goes.retI {Q : Option Value → Heap → List Loc → Prop} {C N : Nat} (X : Stand p l e R s m args below meth c T locs cells slots) (hx : p.tables.exec = Jvm.exec) (hlk : meth.locks = false) {z : Int32} (hret : meth.sig.returnType = some .int) {pc : Nat} {Ls : Array Slot} {rest : List Value} (hd : decode c.code pc = .ok (.ireturn, 1)) (hc : cells ≤ C) (hs : slots ≤ N) (hq : Q (some (.int z)) T.heap locs) :
    Goes p e below (Leaves s Q C N) T (mkF m pc Ls (.int z :: rest)) := Goes.retW X hx hlk hret rfl (Or.inl ⟨rfl, Or.inl rfl, _, rfl⟩) hd hc hs hq
theorem Goes.retB {Q : Option Value → Heap → List Loc → Prop} {C N : Nat} (X : Stand p l e R s m args below meth c T locs cells slots) (hx : p.tables.exec = Jvm.exec) (hlk : meth.locks = false) {z : Int32} (hret : meth.sig.returnType = some .boolean) {pc : Nat} {Ls : Array Slot} {rest : List Value} (hz : z = 0 ∨ z = 1) (hd : decode c.code pc = .ok (.ireturn, 1)) (hc : cells ≤ C) (hs : slots ≤ N) (hq : Q (some (.int z)) T.heap locs) :
    Goes p e below (Leaves s Q C N) T (mkF m pc Ls (.int z :: rest)) := Goes.retW X hx hlk hret (by rcases hz with rfl | rfl <;> rfl) (Or.inl ⟨rfl, Or.inr (Or.inl rfl), _, rfl⟩) hd hc hs hq
theorem Goes.retC {Q : Option Value → Heap → List Loc → Prop} {C N : Nat} (X : Stand p l e R s m args below meth c T locs cells slots) (hx : p.tables.exec = Jvm.exec) (hlk : meth.locks = false) {z : Int32} (hret : meth.sig.returnType = some .char) {pc : Nat} {Ls : Array Slot} {rest : List Value} (hz : nar .char z = z) (hd : decode c.code pc = .ok (.ireturn, 1)) (hc : cells ≤ C) (hs : slots ≤ N) (hq : Q (some (.int z)) T.heap locs) :
    Goes p e below (Leaves s Q C N) T (mkF m pc Ls (.int z :: rest)) := Goes.retW X hx hlk hret (by show Value.int (nar .char z) = _; rw [hz]) (Or.inl ⟨rfl, Or.inr (Or.inr (Or.inr (Or.inl rfl))), _, rfl⟩) hd hc hs hq
theorem Goes.retY {Q : Option Value → Heap → List Loc → Prop} {C N : Nat} (X : Stand p l e R s m args below meth c T locs cells slots) (hx : p.tables.exec = Jvm.exec) (hlk : meth.locks = false) {z : Int32} (hret : meth.sig.returnType = some .byte) {pc : Nat} {Ls : Array Slot} {rest : List Value} (hz : nar .byte z = z) (hd : decode c.code pc = .ok (.ireturn, 1)) (hc : cells ≤ C) (hs : slots ≤ N) (hq : Q (some (.int z)) T.heap locs) :
    Goes p e below (Leaves s Q C N) T (mkF m pc Ls (.int z :: rest)) := Goes.retW X hx hlk hret (by show Value.int (nar .byte z) = _; rw [hz]) (Or.inl ⟨rfl, Or.inr (Or.inr (Or.inl rfl)), _, rfl⟩) hd hc hs hq
theorem Goes.retJ {Q : Option Value → Heap → List Loc → Prop} {C N : Nat} (X : Stand p l e R s m args below meth c T locs cells slots) (hx : p.tables.exec = Jvm.exec) (hlk : meth.locks = false) {z : Int64} (hret : meth.sig.returnType = some .long) {pc : Nat} {Ls : Array Slot} {rest : List Value} (hd : decode c.code pc = .ok (.lreturn, 1)) (hc : cells ≤ C) (hs : slots ≤ N) (hq : Q (some (.long z)) T.heap locs) :
    Goes p e below (Leaves s Q C N) T (mkF m pc Ls (.long z :: rest)) := Goes.retW X hx hlk hret rfl (Or.inr (Or.inl ⟨rfl, rfl, _, rfl⟩)) hd hc hs hq
theorem Goes.retD {Q : Option Value → Heap → List Loc → Prop} {C N : Nat} (X : Stand p l e R s m args below meth c T locs cells slots) (hx : p.tables.exec = Jvm.exec) (hlk : meth.locks = false) {z : UInt64} (hret : meth.sig.returnType = some .double) {pc : Nat} {Ls : Array Slot} {rest : List Value} (hd : decode c.code pc = .ok (.dreturn, 1)) (hc : cells ≤ C) (hs : slots ≤ N) (hq : Q (some (.double z)) T.heap locs) :
    Goes p e below (Leaves s Q C N) T (mkF m pc Ls (.double z :: rest)) := Goes.retW X hx hlk hret rfl (Or.inr (Or.inr (Or.inl ⟨rfl, rfl, _, rfl⟩))) hd hc hs hq
theorem Goes.retA {Q : Option Value → Heap → List Loc → Prop} {C N : Nat} (X : Stand p l e R s m args below meth c T locs cells slots) (hx : p.tables.exec = Jvm.exec) (hlk : meth.locks = false) {w : Value} {t : FieldType} (hret : meth.sig.returnType = some t) (ht : t.isReference = true) (hw : w.isRef = true) {pc : Nat} {Ls : Array Slot} {rest : List Value} (hd : decode c.code pc = .ok (.areturn, 1)) (hc : cells ≤ C) (hs : slots ≤ N) (hq : Q (some w) T.heap locs) :
    Goes p e below (Leaves s Q C N) T (mkF m pc Ls (w :: rest)) := Goes.retW X hx hlk hret (by cases t <;> first | rfl | cases ht) (Or.inr (Or.inr (Or.inr (Or.inr ⟨rfl, ht, hw⟩)))) hd hc hs hq
/-- a body's contract out of its walk -/
theorem Pays.walk {y : MethodName} {bytes : ByteArray} {maxL : Nat} {ret : Option FieldType} {ws : List Jvm.Cond} {rm : Room} {as : Array Value} {h0 : Heap} {Q : Option Value → Heap → List Loc → Prop} {Ls : Array Slot}
    (hn : plainFor y = true) (hef : ∀ m, entryFrame m as maxL = mkF m 0 Ls [])
    (body : ∀ (p : Program) (e : Env) (s : State) (m : MethodId) (below : List Frame) (meth : Method) (c : Code) (T : State), Stand p l e rm s m as below meth c T [] 0 0 → p.tables.exec = Jvm.exec → c.code = bytes → c.maxLocals = maxL → s.vm.findClass y.cls = some m.cls → meth.name = y.name → Z.Warmed39 s.vm → T.heap = h0 → meth.sig.returnType = ret → meth.locks = false →
      Goes p e below (Leaves s Q rm.cells rm.slots) T (mkF m 0 Ls [])) : Pays l Z y bytes maxL ret ws rm as h0 Q := by
  refine MetFree.of_bodySF hn hisR ?_
  intro p e s m args below meth c s₁ Bd hml0 hP hK
  obtain ⟨rfl, hZ, hh⟩ := hP
  have X0 : Stand p l e rm s m args below meth c s₁ [] 0 0 := Stand.of_body Bd
  obtain ⟨s₂, o, h1, h2⟩ := body p e s m below meth c s₁ X0 Bd.exec Bd.bytes hml0 (findClass_of_methodNamed Bd.named) (name_of_methodNamed Bd.named Bd.method).1 hZ (by rw [← hh, Bd.state]; rfl) Bd.returns Bd.notSynchronized
  exact ⟨s₂, o, castTop (hef m) h1, h2⟩
/-- a static call by its contract -/
theorem Goes.callS (X : Stand p l e R s m args below meth c T locs cells slots) (hx : p.tables.exec = Jvm.exec) (hZ : Z.Warmed39 s.vm) {own : String} {index : Nat} {y : MethodName} {bytes : ByteArray} {maxL : Nat} {ret : Option FieldType} {rm : Room} {as' : Array Value} {Q : Option Value → Heap → List Loc → Prop} (W : Nat)
    (hown : s.vm.findClass own = some m.cls) (w1 : (Jvm.Cond.methodLink own index y).before a0 Z = true) (w2 : (Jvm.Cond.static y).before a0 Z = true) (w3 : (Jvm.Cond.initialized y.cls).before a0 Z = true) (w4 : (Jvm.Cond.code y bytes maxL ret).before a0 Z = true) (hy : y.cls ≠ "java/lang/invoke/MethodHandle" ∧ y.cls ≠ "java/lang/invoke/VarHandle")
    (eT : T.heap = h) (hM : Pays l Z y bytes maxL ret [] rm as' h Q) (hf : rm.frames + 1 ≤ R.frames) (hl : W + (maxL + 11) + rm.locals ≤ R.locals) (hc : cells + rm.cells ≤ R.cells) (hs : slots + rm.slots ≤ R.slots)
    (hg : g.method = m) (hsize : g.locals.size = c.maxLocals) {argsL rest : List Value} (has : argsL.toArray = as') (hlen : ∀ sig, parseMethodDescriptor y.desc = some sig → argsL.length = sig.parameters.length) (hstack : g.stack = argsL.reverse ++ rest) (hW : 2 * g.monitorRoom + (rest.map fun v => v.category).sum ≤ W)
    (hd : decode c.code g.pc = .ok (.invokestatic index, 3))
    (k : ∀ v T' L, Stand p l e R s m args below meth c T' (locs ++ L) (cells + rm.cells) (slots + rm.slots) → Q v T'.heap L → Goes p e below P T' { g with pc := g.pc + 3, stack := v.toList ++ rest }) : Goes p e below P T g := by
  obtain ⟨v, _, ⟨T', L', k', n'⟩, -, X', ⟨Lc, hQ, l', y', z'⟩, st⟩ := Jvm.LawKit.callS X hx hown (mvT hZ w1) (mvT hZ w2) (mvT hZ w3) (mvT hZ w4) hy (backOf (W := W) hM hZ w4 w3 hf hl) hg hsize (argsL := argsL) (rest := rest) hlen hstack hW hd (fun _ _ => ⟨has, eT, hc, hs⟩)
  dsimp only [Pt.U, Pt.locs, Pt.cells, Pt.slots] at X' l' y' z' st hQ
  subst l' y' z'
  exact Goes.on st (k v T' Lc X' hQ)
/-- a constructor by its contract -/
theorem Goes.callC (X : Stand p l e R s m args below meth c T locs cells slots) (hx : p.tables.exec = Jvm.exec) (hZ : Z.Warmed39 s.vm) {own : String} {index : Nat} {y : MethodName} {bytes : ByteArray} {maxL : Nat} {rm : Room} {as' : Array Value} {Q : Option Value → Heap → List Loc → Prop} (W : Nat) (hy1 : y.name = "<init>")
    (hown : s.vm.findClass own = some m.cls) (w1 : (Jvm.Cond.methodLink own index y).before a0 Z = true) (w2 : (Jvm.Cond.instanceMethod y).before a0 Z = true) (w3 : (Jvm.Cond.initialized y.cls).before a0 Z = true) (w4 : (Jvm.Cond.code y bytes maxL none).before a0 Z = true) (hy : y.cls ≠ "java/lang/invoke/MethodHandle" ∧ y.cls ≠ "java/lang/invoke/VarHandle")
    (eT : T.heap = h) (hM : Pays l Z y bytes maxL none [] rm as' h Q) (hf : rm.frames + 1 ≤ R.frames) (hl : W + (maxL + 11) + rm.locals ≤ R.locals) (hc : cells + rm.cells ≤ R.cells) (hs : slots + rm.slots ≤ R.slots)
    (hg : g.method = m) (hsize : g.locals.size = c.maxLocals) {a : Addr} {argsL rest : List Value} (has : (Value.ref a :: argsL).toArray = as') (hlen : ∀ sig, parseMethodDescriptor y.desc = some sig → argsL.length = sig.parameters.length) (hstack : g.stack = argsL.reverse ++ .ref a :: rest) (hW : 2 * g.monitorRoom + (rest.map fun v => v.category).sum ≤ W)
    (hd : decode c.code g.pc = .ok (.invokespecial index, 3))
    (k : ∀ v T' L, Stand p l e R s m args below meth c T' (locs ++ L) (cells + rm.cells) (slots + rm.slots) → Q v T'.heap L → Goes p e below P T' { g with pc := g.pc + 3, stack := v.toList ++ rest }) : Goes p e below P T g := by
  obtain ⟨v, _, ⟨T', L', k', n'⟩, -, X', ⟨Lc, hQ, l', y', z'⟩, st⟩ := X.specialBack hx (y := y) hy1 hown (mvT hZ w1) (mvT hZ w2) (mvT hZ w4) hy (backOf (W := W) hM hZ w4 w3 hf hl) hg hsize (Steps.refl _) (a := a) (argsL := argsL) (rest := rest) hlen hstack hW hd (fun _ _ => ⟨has, eT, hc, hs⟩)
  dsimp only [Pt.U, Pt.locs, Pt.cells, Pt.slots] at X' l' y' z' st hQ
  subst l' y' z'
  exact Goes.on (fun _ q => st.trans q) (k v T' Lc X' hQ)
/-- an instance method by its contract, on an object of the class C -/
theorem Goes.callV (X : Stand p l e R s m args below meth c T locs cells slots) (hx : p.tables.exec = Jvm.exec) (hZ : Z.Warmed39 s.vm) {own C : String} {index : Nat} {y z : MethodName} {bytes : ByteArray} {maxL : Nat} {ret : Option FieldType} {rm : Room} {as' : Array Value} {Q : Option Value → Heap → List Loc → Prop} (W : Nat)
    (hown : s.vm.findClass own = some m.cls) (w1 : (Jvm.Cond.methodLink own index y).before a0 Z = true) (w2 : (Jvm.Cond.declares y).before a0 Z = true) (hnf : NotFace s y) (w5 : (Jvm.Cond.selects C y z).before a0 Z = true) (w6 : (Jvm.Cond.instanceMethod z).before a0 Z = true) (w3 : (Jvm.Cond.initialized z.cls).before a0 Z = true) (w4 : (Jvm.Cond.code z bytes maxL ret).before a0 Z = true) (hy : y.cls ≠ "java/lang/invoke/MethodHandle" ∧ y.cls ≠ "java/lang/invoke/VarHandle")
    (eT : T.heap = h) {a : Addr} (E : Exa Z h a C) (hM : Pays l Z z bytes maxL ret [] rm as' h Q) (hf : rm.frames + 1 ≤ R.frames) (hl : W + (maxL + 11) + rm.locals ≤ R.locals) (hc : cells + rm.cells ≤ R.cells) (hs : slots + rm.slots ≤ R.slots)
    (hg : g.method = m) (hsize : g.locals.size = c.maxLocals) {argsL rest : List Value} (has : (Value.ref a :: argsL).toArray = as') (hlen : ∀ sig, parseMethodDescriptor y.desc = some sig → argsL.length = sig.parameters.length) (hstack : g.stack = argsL.reverse ++ .ref a :: rest) (hW : 2 * g.monitorRoom + (rest.map fun v => v.category).sum ≤ W)
    (hd : decode c.code g.pc = .ok (.invokevirtual index, 3))
    (k : ∀ v T' L, Stand p l e R s m args below meth c T' (locs ++ L) (cells + rm.cells) (slots + rm.slots) → Q v T'.heap L → Goes p e below P T' { g with pc := g.pc + 3, stack := v.toList ++ rest }) : Goes p e below P T g := by
  obtain ⟨cq, kq, qa, qb, qc⟩ := isOf hZ eT E
  obtain ⟨v, _, ⟨T', L', k', n'⟩, -, X', ⟨Lc, hQ, l', y', z'⟩, st⟩ := X.virtualBack hx (y := y) (z := z) hown (mvT hZ w1) (mvT hZ w2) hnf (mvT hZ w5) (mvT hZ w6) hy (backOf (W := W) hM hZ w4 w3 hf hl) qa qc hg hsize (Steps.refl _) (argsL := argsL) (rest := rest) hlen hstack hW hd (fun _ _ => ⟨has, eT, hc, hs⟩)
  dsimp only [Pt.U, Pt.locs, Pt.cells, Pt.slots] at X' l' y' z' st hQ
  subst l' y' z'
  exact Goes.on (fun _ q => st.trans q) (k v T' Lc X' hQ)
/-- what a ready payer (Back) asks and gives -/
abbrev Payer (l : Launch) (R : Room) (p : Program) (e : Env) (below : List Frame) (s : State) (args : Array Value) (y : MethodName) (W : Nat) (as' : Array Value) (h : Heap) (C N : Nat) (Q : Option Value → Heap → List Loc → Prop) : Prop :=
  Back l R p e below s args y 3 W (fun A a => a = as' ∧ A.U.heap = h ∧ A.cells + C ≤ R.cells ∧ A.slots + N ≤ R.slots) (fun A _ v B => ∃ L, Q v B.U.heap L ∧ B.locs = A.locs ++ L ∧ B.cells = A.cells + C ∧ B.slots = A.slots + N)
theorem Goes.callVB (X : Stand p l e R s m args below meth c T locs cells slots) (hx : p.tables.exec = Jvm.exec) (hZ : Z.Warmed39 s.vm) {own C : String} {index : Nat} {y z : MethodName} {as' : Array Value} {Q : Option Value → Heap → List Loc → Prop} {W nc ns : Nat}
    (hown : s.vm.findClass own = some m.cls) (w1 : (Jvm.Cond.methodLink own index y).before a0 Z = true) (w2 : (Jvm.Cond.declares y).before a0 Z = true) (hnf : NotFace s y) (w5 : (Jvm.Cond.selects C y z).before a0 Z = true) (w6 : (Jvm.Cond.instanceMethod z).before a0 Z = true) (hy : y.cls ≠ "java/lang/invoke/MethodHandle" ∧ y.cls ≠ "java/lang/invoke/VarHandle")
    (eT : T.heap = h) {a : Addr} (E : Exa Z h a C) (hK : Payer l R p e below s args z W as' h nc ns Q) (hc : cells + nc ≤ R.cells) (hs : slots + ns ≤ R.slots)
    (hg : g.method = m) (hsize : g.locals.size = c.maxLocals) {argsL rest : List Value} (has : (Value.ref a :: argsL).toArray = as') (hlen : ∀ sig, parseMethodDescriptor y.desc = some sig → argsL.length = sig.parameters.length) (hstack : g.stack = argsL.reverse ++ .ref a :: rest) (hW : 2 * g.monitorRoom + (rest.map fun v => v.category).sum ≤ W)
    (hd : decode c.code g.pc = .ok (.invokevirtual index, 3))
    (k : ∀ v T' L, Stand p l e R s m args below meth c T' (locs ++ L) (cells + nc) (slots + ns) → Q v T'.heap L → Goes p e below P T' { g with pc := g.pc + 3, stack := v.toList ++ rest }) : Goes p e below P T g := by
  obtain ⟨cq, kq, qa, qb, qc⟩ := isOf hZ eT E
  obtain ⟨v, _, ⟨T', L', k', n'⟩, -, X', ⟨Lc, hQ, l', y', z'⟩, st⟩ := X.virtualBack hx (y := y) (z := z) hown (mvT hZ w1) (mvT hZ w2) hnf (mvT hZ w5) (mvT hZ w6) hy hK qa qc hg hsize (Steps.refl _) (argsL := argsL) (rest := rest) hlen hstack hW hd (fun _ _ => ⟨has, eT, hc, hs⟩)
  dsimp only [Pt.U, Pt.locs, Pt.cells, Pt.slots] at X' l' y' z' st hQ
  subst l' y' z'
  exact Goes.on (fun _ q => st.trans q) (k v T' Lc X' hQ)
theorem Goes.callCB (X : Stand p l e R s m args below meth c T locs cells slots) (hx : p.tables.exec = Jvm.exec) (hZ : Z.Warmed39 s.vm) {own : String} {index : Nat} {y : MethodName} {bytes : ByteArray} {maxL : Nat} {as' : Array Value} {Q : Option Value → Heap → List Loc → Prop} {W nc ns : Nat} (hy1 : y.name = "<init>")
    (hown : s.vm.findClass own = some m.cls) (w1 : (Jvm.Cond.methodLink own index y).before a0 Z = true) (w2 : (Jvm.Cond.instanceMethod y).before a0 Z = true) (w4 : (Jvm.Cond.code y bytes maxL none).before a0 Z = true) (hy : y.cls ≠ "java/lang/invoke/MethodHandle" ∧ y.cls ≠ "java/lang/invoke/VarHandle")
    (eT : T.heap = h) (hK : Payer l R p e below s args y W as' h nc ns Q) (hc : cells + nc ≤ R.cells) (hs : slots + ns ≤ R.slots)
    (hg : g.method = m) (hsize : g.locals.size = c.maxLocals) {a : Addr} {argsL rest : List Value} (has : (Value.ref a :: argsL).toArray = as') (hlen : ∀ sig, parseMethodDescriptor y.desc = some sig → argsL.length = sig.parameters.length) (hstack : g.stack = argsL.reverse ++ .ref a :: rest) (hW : 2 * g.monitorRoom + (rest.map fun v => v.category).sum ≤ W)
    (hd : decode c.code g.pc = .ok (.invokespecial index, 3))
    (k : ∀ v T' L, Stand p l e R s m args below meth c T' (locs ++ L) (cells + nc) (slots + ns) → Q v T'.heap L → Goes p e below P T' { g with pc := g.pc + 3, stack := v.toList ++ rest }) : Goes p e below P T g := by
  obtain ⟨v, _, ⟨T', L', k', n'⟩, -, X', ⟨Lc, hQ, l', y', z'⟩, st⟩ := X.specialBack hx (y := y) hy1 hown (mvT hZ w1) (mvT hZ w2) (mvT hZ w4) hy hK hg hsize (Steps.refl _) (a := a) (argsL := argsL) (rest := rest) hlen hstack hW hd (fun _ _ => ⟨has, eT, hc, hs⟩)
  dsimp only [Pt.U, Pt.locs, Pt.cells, Pt.slots] at X' l' y' z' st hQ
  subst l' y' z'
  exact Goes.on (fun _ q => st.trans q) (k v T' Lc X' hQ)
/-- a private instance method (invokevirtual) by its contract -/
theorem Goes.callP (X : Stand p l e R s m args below meth c T locs cells slots) (hx : p.tables.exec = Jvm.exec) (hZ : Z.Warmed39 s.vm) {own C : String} {index ni : Nat} {y : MethodName} {bytes : ByteArray} {maxL : Nat} {ret : Option FieldType} {rm : Room} {as' : Array Value} {Q : Option Value → Heap → List Loc → Prop} (W : Nat)
    (hown : s.vm.findClass own = some m.cls) (w1 : (Jvm.Cond.methodLink own index y).before a0 Z = true) (w6 : (Jvm.Cond.instanceMethod y).before a0 Z = true) (wp : (Jvm.Cond.privateMethod y).before a0 Z = true) (wi : (Jvm.Cond.instantiable y.cls ni).before a0 Z = true) (w3 : (Jvm.Cond.initialized y.cls).before a0 Z = true) (w4 : (Jvm.Cond.code y bytes maxL ret).before a0 Z = true) (hy : y.cls ≠ "java/lang/invoke/MethodHandle" ∧ y.cls ≠ "java/lang/invoke/VarHandle")
    (eT : T.heap = h) {a : Addr} (E : Exa Z h a C) (hM : Pays l Z y bytes maxL ret [] rm as' h Q) (hf : rm.frames + 1 ≤ R.frames) (hl : W + (maxL + 11) + rm.locals ≤ R.locals) (hc : cells + rm.cells ≤ R.cells) (hs : slots + rm.slots ≤ R.slots)
    (hg : g.method = m) (hsize : g.locals.size = c.maxLocals) {argsL rest : List Value} (has : (Value.ref a :: argsL).toArray = as') (hlen : ∀ sig, parseMethodDescriptor y.desc = some sig → argsL.length = sig.parameters.length) (hstack : g.stack = argsL.reverse ++ .ref a :: rest) (hW : 2 * g.monitorRoom + (rest.map fun v => v.category).sum ≤ W)
    (hd : decode c.code g.pc = .ok (.invokevirtual index, 3))
    (k : ∀ v T' L, Stand p l e R s m args below meth c T' (locs ++ L) (cells + rm.cells) (slots + rm.slots) → Q v T'.heap L → Goes p e below P T' { g with pc := g.pc + 3, stack := v.toList ++ rest }) : Goes p e below P T g := by
  obtain ⟨ce, hce, hst⟩ := E.cell
  have hp := Cond.privateMethod_at (args := args) (mvP hZ wp)
  obtain ⟨ci, ki, i1, i2, -, i4, -⟩ := Cond.instantiable_spec (mvT (args := args) hZ wi)
  have i5 : ki.isInterface = false := by cases hq : ki.isInterface <;> simp [hq] at i4 ⊢
  have hsel := selects_self_of_private (args := args) i1 i2 i5 hp (mvT hZ w6) hy
  obtain ⟨v, _, ⟨T', L', k', n'⟩, -, X', ⟨Lc, hQ, l', y', z'⟩, st⟩ := X.privateBack hx (y := y) hown (mvT hZ w1) (mvT hZ w6) hsel hp (mvT hZ w4) hy (backOf (W := W) hM hZ w4 w3 hf hl) hg hsize (Steps.refl _) (a := a) (cell := ce) (by rw [eT]; exact hce) hst (argsL := argsL) (rest := rest) hlen hstack hW hd (fun _ _ => ⟨has, eT, hc, hs⟩)
  dsimp only [Pt.U, Pt.locs, Pt.cells, Pt.slots] at X' l' y' z' st hQ
  subst l' y' z'
  exact Goes.on (fun _ q => st.trans q) (k v T' Lc X' hQ)
theorem eqInt {t : Jvm.Term} {i : Int32} (hq : (Jvm.Cond.eq t (.int i)).value args Z none Z [] = some true) : t.eval args Z none [] Z = some (.int i) := by
  obtain ⟨x, y, e1, e2, -, k⟩ := cmp_v (Or.inl hq)
  cases Option.some.inj ((Term.int_eval i).symm.trans e2)
  obtain ⟨z, rfl⟩ := k
  rw [e1]
  simpa [Jvm.Cond.value, e1, e2] using hq
theorem fldInt {t : Jvm.Term} {C n d : String} {i : Int32} {a : Addr} (ht : t.eval args Z none [] Z = some (.ref a)) (hq : (Jvm.Cond.eq (.field t C n d) (.int i)).value args Z none Z [] = some true) : Fld Z Z.heap a C n d (.int i) := by
  refine Fld.start ((fld_at (C := C) (n := n) (dd := d) ht).symm.trans ?_)
  obtain ⟨x, y, e1, e2, -, k⟩ := cmp_v (Or.inl hq)
  cases Option.some.inj ((Term.int_eval i).symm.trans e2)
  obtain ⟨z, rfl⟩ := k
  rw [e1]
  simpa [Jvm.Cond.value, e1, e2] using hq
theorem fldRef {t u : Jvm.Term} {C n d : String} {a b : Addr} (ht : t.eval args Z none [] Z = some (.ref a)) (hu : u.eval args Z none [] Z = some (.ref b)) (hq : (Jvm.Cond.eq (.field t C n d) u).value args Z none Z [] = some true) : Fld Z Z.heap a C n d (.ref b) := by
  refine Fld.start ((fld_at (C := C) (n := n) (dd := d) ht).symm.trans ?_)
  obtain ⟨x, y, e1, e2, k, k'⟩ := cmp_v (Or.inl hq)
  cases Option.some.inj (hu.symm.trans e2)
  have := gotT (eq_R e1 e2 k'.2 rfl) hq
  rw [e1, this]
theorem lremM {g : JFrame} {target : State} (X : Stand p l e R s m args below meth c T locs cells slots) (hx : p.tables.exec = Jvm.exec) (hg : g.method = m) {x y : Int64} {rest : List Value} (hd : decode c.code g.pc = .ok (.lrem, 1)) (hs : g.stack = .long y :: .long x :: rest) (hy : y ≠ 0)
    (hr : Steps p.tables e below (T.setTop { g with pc := g.pc + 1, stack := .long (x % y) :: rest }) target) : Steps p.tables e below (T.setTop g) target :=
  XS.lrem X.here hx hg hd hs hy (by rw [lrem_mod]; exact hr)
theorem nsRoot {O K : String} {n : Nat} (w : (Jvm.Cond.noSuperclass O).before a0 Z = true) (wk : (Jvm.Cond.instantiable K n).before a0 Z = true) (hn : O ≠ K) : NS Z O K := by
  obtain ⟨c, k, h1, h2, h3, -, -⟩ := Cond.noSuperclass_spec w
  obtain ⟨t, kt, g1, -⟩ := Cond.instantiable_spec wk
  have ne := ids_ne h1 g1 hn
  refine ⟨c, t, h1, g1, fun fuel => ?_⟩
  cases fuel with
  | zero => rfl
  | succ f => simp [Vm.isSubclassAux, ne, h2, h3]
theorem nsNo {C S K : String} {n : Nat} (w : (Jvm.Cond.superclass C S).before a0 Z = true) (wk : (Jvm.Cond.instantiable K n).before a0 Z = true) (q : NS Z C K) (hn : C ≠ K) : ∃ c t, Z.vm.findClass C = some c ∧ Z.vm.findClass K = some t ∧ Z.vm.assignable c t = false := by
  obtain ⟨c, t, h0, g0, n3⟩ := q
  obtain ⟨p, k, kp, h1, h2, h3, h4, h5, -, h7⟩ := Cond.superclass_spec h0 w
  obtain ⟨t', k', g1, g2, g5, g6, -⟩ := Cond.instantiable_spec wk
  cases g0.symm.trans g1
  have g7 : k'.isInterface = false := by cases hq : k'.isInterface <;> simp [hq] at g6 ⊢
  have ne := ids_ne h0 g0 hn
  refine ⟨c, t, h0, g0, ?_⟩
  show Z.vm.assignableAux (255 + 1) c t = false
  simp [Vm.assignableAux, ne, h2, g2, h5, g5, g7, Vm.isSubclass, n3]
theorem narB {z : Int32} (h : z = 0 ∨ z = 1) : narrow .boolean (.int z) = .int z := by rcases h with rfl | rfl <;> rfl
theorem narR {t : FieldType} {v : Value} (ht : t.isReference = true) (h : v.isRef = true) : narrow t v = v := by cases t <;> first | rfl | cases ht
theorem fitR {t : FieldType} {v : Value} (ht : t.isReference = true) (h : v.isRef = true) : fits t v = true := by
  rcases ref_cases h with rfl | ⟨a, rfl⟩ <;> cases t <;> first | rfl | cases ht
theorem fitB {z : Int32} (h : z = 0 ∨ z = 1) : fits .boolean (.int z) = true := by rcases h with rfl | rfl <;> rfl
end Steps
/-- an array by what its places hold -/
def Upd {α : Type} (f : Nat → α) (j : Nat) (x : α) : Nat → α := fun i => if i = j then x else f i
def Arf {α : Type} (Z : State) (h : Heap) (a : Addr) (ty : FieldType) (con : α → Value) (n : Nat) (f : Nat → α) : Prop := ∃ c : Cell, Arr Z h a c ty ∧ c.slots.size = n ∧ ∀ i, i < n → c.slots[i]? = some (con (f i))
theorem updS {α : Type} (f : Nat → α) (j : Nat) (x : α) : Upd f j x j = x := if_pos rfl
theorem updN {α : Type} (f : Nat → α) {i j : Nat} (x : α) (h : i ≠ j) : Upd f j x i = f i := if_neg h
section Arrays
variable {p : Program} {l : Launch} {e : Env} {R : Room} {s : State} {m : MethodId} {args : Array Value} {below : List Frame} {meth : Method} {c : Code} {T T' : State} {locs : List Loc} {cells slots : Nat} {Z : State} {a0 : Array Value} {h h' : Heap} {P : Outcome → State → Prop} {g g' : JFrame} {α : Type} {con : α → Value} {a b : Addr} {ty : FieldType} {n : Nat} {f : Nat → α} {j : Int32} {rest : List Value}
theorem Arf.lt (F : Arf Z h a ty con n f) : a < h.size := by obtain ⟨c, A, -⟩ := F; exact A.lt
theorem Arf.ext (F : Arf Z h a ty con n f) (E : Ext h h') : Arf Z h' a ty con n f := by obtain ⟨c, A, r⟩ := F; exact ⟨c, A.ext E, r⟩
theorem Arf.other {sl : Nat} {v : Value} (F : Arf Z h b ty con n f) (W : Wr h h' a sl v) (q : b ≠ a) : Arf Z h' b ty con n f := by obtain ⟨c, A, r⟩ := F; exact ⟨c, A.other W q, r⟩
theorem Arf.keep {ws : List Addr} (F : Arf Z h a ty con n f) (K : Keep h h' ws) (q : a ∉ ws) : Arf Z h' a ty con n f := by obtain ⟨c, A, r⟩ := F; exact ⟨c, ⟨K.2.1 a c A.1 q, A.2⟩, r⟩
theorem Arf.new {cA : ClassId} {z : Int32} {d : α} (A : Arr Z h a (newA cA ty z) ty) (hd : defaultValue ty = con d) : Arf Z h a ty con z.toNatClampNeg (fun _ => d) :=
  ⟨_, A, sz_new _ _ _, fun i hi => by simp [newA, hi, hd]⟩
theorem Arf.set (F : Arf Z h a ty con n f) {k : Nat} {v : Value} {x : α} (W : Wr h h' a k v) (hv : v = con x) : Arf Z h' a ty con n (Upd f k x) := by
  obtain ⟨c, A, S, H⟩ := F
  refine ⟨_, A.same W, (sz_set _ _ _).trans S, fun i hi => ?_⟩
  subst hv
  by_cases q : i = k
  · subst q; simp [Cell.setSlot, Upd, S, hi]
  · have : ((c.setSlot k (con x)).slots)[i]? = c.slots[i]? := Array.getElem?_setIfInBounds_ne (Ne.symm q)
    rw [this, H i hi]; simp [Upd, q]
theorem Arf.inb {c : Cell} (S : c.slots.size = n) (hj : ¬ j < 0 ∧ j.toNatClampNeg < n) : ¬ (j < 0 ∨ c.slots.size ≤ j.toNatClampNeg) := fun q => q.elim hj.1 fun r => by omega
theorem ldJ {f : Nat → Int64} (X : Stand p l e R s m args below meth c T locs cells slots) (hx : p.tables.exec = Jvm.exec) (hZ : Z.Warmed39 s.vm) (eT : T.heap = h) (F : Arf Z h a .long Value.long n f) (hj : ¬ j < 0 ∧ j.toNatClampNeg < n) (hg : g.method = m) (hs : g.stack = .int j :: .ref a :: rest) (hd : decode c.code g.pc = .ok (.laload, 1)) {t : State}
    (k : Steps p.tables e below (T.setTop { g with pc := g.pc + 1, stack := .long (f j.toNatClampNeg) :: rest }) t) : Steps p.tables e below (T.setTop g) t := by
  obtain ⟨cl, A, S, H⟩ := F
  exact X.laload hx (by rw [eT]; exact A.1) (State.isArrayOf_alike hZ.alike A.2.1) A.2.2 (Arf.inb S hj) (H _ hj.2) hg hs hd t k
theorem ldJm {f : Nat → Int64} (X : Stand p l e R s m args below meth c T locs cells slots) (hx : p.tables.exec = Jvm.exec) (hZ : Z.Warmed39 s.vm) (eT : T.heap = h) (F : Arf Z h a .long Value.long n f) (hj : ¬ j < 0 ∧ j.toNatClampNeg < n) {pc : Nat} {Ls : Array Slot} (hd : decode c.code pc = .ok (.laload, 1)) {t : State}
    (k : Steps p.tables e below (T.setTop (mkF m (pc + 1) Ls (.long (f j.toNatClampNeg) :: rest))) t) : Steps p.tables e below (T.setTop (mkF m pc Ls (.int j :: .ref a :: rest))) t :=
  ldJ (g := mkF m pc Ls (.int j :: .ref a :: rest)) X hx hZ eT F hj rfl rfl hd k
theorem ldI {f : Nat → Int32} (X : Stand p l e R s m args below meth c T locs cells slots) (hx : p.tables.exec = Jvm.exec) (hZ : Z.Warmed39 s.vm) (eT : T.heap = h) (F : Arf Z h a .int Value.int n f) (hj : ¬ j < 0 ∧ j.toNatClampNeg < n) (hg : g.method = m) (hs : g.stack = .int j :: .ref a :: rest) (hd : decode c.code g.pc = .ok (.iaload, 1)) {t : State}
    (k : Steps p.tables e below (T.setTop { g with pc := g.pc + 1, stack := .int (f j.toNatClampNeg) :: rest }) t) : Steps p.tables e below (T.setTop g) t := by
  obtain ⟨cl, A, S, H⟩ := F
  exact X.iaload hx (by rw [eT]; exact A.1) (State.isArrayOf_alike hZ.alike A.2.1) A.2.2 (Arf.inb S hj) (H _ hj.2) hg hs hd t k
theorem ldIm {f : Nat → Int32} (X : Stand p l e R s m args below meth c T locs cells slots) (hx : p.tables.exec = Jvm.exec) (hZ : Z.Warmed39 s.vm) (eT : T.heap = h) (F : Arf Z h a .int Value.int n f) (hj : ¬ j < 0 ∧ j.toNatClampNeg < n) {pc : Nat} {Ls : Array Slot} (hd : decode c.code pc = .ok (.iaload, 1)) {t : State}
    (k : Steps p.tables e below (T.setTop (mkF m (pc + 1) Ls (.int (f j.toNatClampNeg) :: rest))) t) : Steps p.tables e below (T.setTop (mkF m pc Ls (.int j :: .ref a :: rest))) t :=
  ldI (g := mkF m pc Ls (.int j :: .ref a :: rest)) X hx hZ eT F hj rfl rfl hd k
theorem ldZ {f : Nat → Int32} (X : Stand p l e R s m args below meth c T locs cells slots) (hx : p.tables.exec = Jvm.exec) (hZ : Z.Warmed39 s.vm) (eT : T.heap = h) (F : Arf Z h a .boolean Value.int n f) (hj : ¬ j < 0 ∧ j.toNatClampNeg < n) (hg : g.method = m) (hs : g.stack = .int j :: .ref a :: rest) (hd : decode c.code g.pc = .ok (.baload, 1)) {t : State}
    (k : Steps p.tables e below (T.setTop { g with pc := g.pc + 1, stack := .int (f j.toNatClampNeg) :: rest }) t) : Steps p.tables e below (T.setTop g) t := by
  obtain ⟨cl, A, S, H⟩ := F
  exact X.baloadBooleans hx (by rw [eT]; exact A.1) (State.isArrayOf_alike hZ.alike A.2.1) A.2.2 (Arf.inb S hj) (H _ hj.2) hg hs hd t k
theorem ldZm {f : Nat → Int32} (X : Stand p l e R s m args below meth c T locs cells slots) (hx : p.tables.exec = Jvm.exec) (hZ : Z.Warmed39 s.vm) (eT : T.heap = h) (F : Arf Z h a .boolean Value.int n f) (hj : ¬ j < 0 ∧ j.toNatClampNeg < n) {pc : Nat} {Ls : Array Slot} (hd : decode c.code pc = .ok (.baload, 1)) {t : State}
    (k : Steps p.tables e below (T.setTop (mkF m (pc + 1) Ls (.int (f j.toNatClampNeg) :: rest))) t) : Steps p.tables e below (T.setTop (mkF m pc Ls (.int j :: .ref a :: rest))) t :=
  ldZ (g := mkF m pc Ls (.int j :: .ref a :: rest)) X hx hZ eT F hj rfl rfl hd k
theorem ldY {f : Nat → Int32} (X : Stand p l e R s m args below meth c T locs cells slots) (hx : p.tables.exec = Jvm.exec) (hZ : Z.Warmed39 s.vm) (eT : T.heap = h) (F : Arf Z h a .byte Value.int n f) (hj : ¬ j < 0 ∧ j.toNatClampNeg < n) (hg : g.method = m) (hs : g.stack = .int j :: .ref a :: rest) (hd : decode c.code g.pc = .ok (.baload, 1)) {t : State}
    (k : Steps p.tables e below (T.setTop { g with pc := g.pc + 1, stack := .int (f j.toNatClampNeg) :: rest }) t) : Steps p.tables e below (T.setTop g) t := by
  obtain ⟨cl, A, S, H⟩ := F
  exact X.baloadBytes hx (by rw [eT]; exact A.1) (State.isArrayOf_alike hZ.alike A.2.1) A.2.2 (Arf.inb S hj) (H _ hj.2) hg hs hd t k
theorem ldYm {f : Nat → Int32} (X : Stand p l e R s m args below meth c T locs cells slots) (hx : p.tables.exec = Jvm.exec) (hZ : Z.Warmed39 s.vm) (eT : T.heap = h) (F : Arf Z h a .byte Value.int n f) (hj : ¬ j < 0 ∧ j.toNatClampNeg < n) {pc : Nat} {Ls : Array Slot} (hd : decode c.code pc = .ok (.baload, 1)) {t : State}
    (k : Steps p.tables e below (T.setTop (mkF m (pc + 1) Ls (.int (f j.toNatClampNeg) :: rest))) t) : Steps p.tables e below (T.setTop (mkF m pc Ls (.int j :: .ref a :: rest))) t :=
  ldY (g := mkF m pc Ls (.int j :: .ref a :: rest)) X hx hZ eT F hj rfl rfl hd k
theorem ldD {f : Nat → UInt64} (X : Stand p l e R s m args below meth c T locs cells slots) (hx : p.tables.exec = Jvm.exec) (hZ : Z.Warmed39 s.vm) (eT : T.heap = h) (F : Arf Z h a .double Value.double n f) (hj : ¬ j < 0 ∧ j.toNatClampNeg < n) (hg : g.method = m) (hs : g.stack = .int j :: .ref a :: rest) (hd : decode c.code g.pc = .ok (.daload, 1)) {t : State}
    (k : Steps p.tables e below (T.setTop { g with pc := g.pc + 1, stack := .double (f j.toNatClampNeg) :: rest }) t) : Steps p.tables e below (T.setTop g) t := by
  obtain ⟨cl, A, S, H⟩ := F
  exact X.daload hx (by rw [eT]; exact A.1) (State.isArrayOf_alike hZ.alike A.2.1) A.2.2 (Arf.inb S hj) (H _ hj.2) hg hs hd t k
theorem ldDm {f : Nat → UInt64} (X : Stand p l e R s m args below meth c T locs cells slots) (hx : p.tables.exec = Jvm.exec) (hZ : Z.Warmed39 s.vm) (eT : T.heap = h) (F : Arf Z h a .double Value.double n f) (hj : ¬ j < 0 ∧ j.toNatClampNeg < n) {pc : Nat} {Ls : Array Slot} (hd : decode c.code pc = .ok (.daload, 1)) {t : State}
    (k : Steps p.tables e below (T.setTop (mkF m (pc + 1) Ls (.double (f j.toNatClampNeg) :: rest))) t) : Steps p.tables e below (T.setTop (mkF m pc Ls (.int j :: .ref a :: rest))) t :=
  ldD (g := mkF m pc Ls (.int j :: .ref a :: rest)) X hx hZ eT F hj rfl rfl hd k
theorem aLen (X : Stand p l e R s m args below meth c T locs cells slots) (hx : p.tables.exec = Jvm.exec) (hZ : Z.Warmed39 s.vm) (eT : T.heap = h) (F : Arf Z h a ty con n f) (hg : g.method = m) (hs : g.stack = .ref a :: rest) (hd : decode c.code g.pc = .ok (.arraylength, 1)) {t : State}
    (k : Steps p.tables e below (T.setTop { g with pc := g.pc + 1, stack := .int n.toInt32 :: rest }) t) : Steps p.tables e below (T.setTop g) t := by
  obtain ⟨cl, A, S, H⟩ := F
  exact X.arraylength hx (by rw [eT]; exact A.1) (State.isArrayOf_alike hZ.alike A.2.1) hg hs hd t (by rw [S]; exact k)
theorem aLenm (X : Stand p l e R s m args below meth c T locs cells slots) (hx : p.tables.exec = Jvm.exec) (hZ : Z.Warmed39 s.vm) (eT : T.heap = h) (F : Arf Z h a ty con n f) {pc : Nat} {Ls : Array Slot} (hd : decode c.code pc = .ok (.arraylength, 1)) {t : State}
    (k : Steps p.tables e below (T.setTop (mkF m (pc + 1) Ls (.int n.toInt32 :: rest))) t) : Steps p.tables e below (T.setTop (mkF m pc Ls (.ref a :: rest))) t :=
  aLen (g := mkF m pc Ls (.ref a :: rest)) X hx hZ eT F rfl rfl hd k
theorem wrJ {f : Nat → Int64} {x : Int64} (X : Stand p l e R s m args below meth c T locs cells slots) (hx : p.tables.exec = Jvm.exec) (hZ : Z.Warmed39 s.vm) (eT : T.heap = h) (F : Arf Z h a .long Value.long n f) (hj : ¬ j < 0 ∧ j.toNatClampNeg < n) (hg : g.method = m) (hs : g.stack = .long x :: .int j :: .ref a :: rest) (hd : decode c.code g.pc = .ok (.lastore, 1)) :
    ∃ T' h', Stand p l e R s m args below meth c T' (locs ++ [⟨a, j.toNatClampNeg⟩]) cells slots ∧ T'.heap = h' ∧ Wr h h' a j.toNatClampNeg (.long x) ∧ Arf Z h' a .long Value.long n (Upd f j.toNatClampNeg x) ∧ ∀ target, Steps p.tables e below (T'.setTop { g with pc := g.pc + 1, stack := rest }) target → Steps p.tables e below (T.setTop g) target := by
  have F' := F
  obtain ⟨cl, A, S, H⟩ := F
  obtain ⟨T', h', X', e', W, st⟩ := stJ X hx hZ eT A (Arf.inb S hj) hg hs hd
  exact ⟨T', h', X', e', W, F'.set W rfl, st⟩
theorem wrI {f : Nat → Int32} {x : Int32} (X : Stand p l e R s m args below meth c T locs cells slots) (hx : p.tables.exec = Jvm.exec) (hZ : Z.Warmed39 s.vm) (eT : T.heap = h) (F : Arf Z h a .int Value.int n f) (hj : ¬ j < 0 ∧ j.toNatClampNeg < n) (hg : g.method = m) (hs : g.stack = .int x :: .int j :: .ref a :: rest) (hd : decode c.code g.pc = .ok (.iastore, 1)) :
    ∃ T' h', Stand p l e R s m args below meth c T' (locs ++ [⟨a, j.toNatClampNeg⟩]) cells slots ∧ T'.heap = h' ∧ Wr h h' a j.toNatClampNeg (.int x) ∧ Arf Z h' a .int Value.int n (Upd f j.toNatClampNeg x) ∧ ∀ target, Steps p.tables e below (T'.setTop { g with pc := g.pc + 1, stack := rest }) target → Steps p.tables e below (T.setTop g) target := by
  have F' := F
  obtain ⟨cl, A, S, H⟩ := F
  obtain ⟨T', h', X', e', W, st⟩ := stI X hx hZ eT A (Arf.inb S hj) hg hs hd
  exact ⟨T', h', X', e', W, F'.set W rfl, st⟩
theorem wrD {f : Nat → UInt64} {x : UInt64} (X : Stand p l e R s m args below meth c T locs cells slots) (hx : p.tables.exec = Jvm.exec) (hZ : Z.Warmed39 s.vm) (eT : T.heap = h) (F : Arf Z h a .double Value.double n f) (hj : ¬ j < 0 ∧ j.toNatClampNeg < n) (hg : g.method = m) (hs : g.stack = .double x :: .int j :: .ref a :: rest) (hd : decode c.code g.pc = .ok (.dastore, 1)) :
    ∃ T' h', Stand p l e R s m args below meth c T' (locs ++ [⟨a, j.toNatClampNeg⟩]) cells slots ∧ T'.heap = h' ∧ Wr h h' a j.toNatClampNeg (.double x) ∧ Arf Z h' a .double Value.double n (Upd f j.toNatClampNeg x) ∧ ∀ target, Steps p.tables e below (T'.setTop { g with pc := g.pc + 1, stack := rest }) target → Steps p.tables e below (T.setTop g) target := by
  have F' := F
  obtain ⟨cl, A, S, H⟩ := F
  obtain ⟨T', h', X', e', W, st⟩ := stD X hx hZ eT A (Arf.inb S hj) hg hs hd
  exact ⟨T', h', X', e', W, F'.set W rfl, st⟩
theorem wrZ {f : Nat → Int32} {x : Int32} (X : Stand p l e R s m args below meth c T locs cells slots) (hx : p.tables.exec = Jvm.exec) (hZ : Z.Warmed39 s.vm) (eT : T.heap = h) (F : Arf Z h a .boolean Value.int n f) (hj : ¬ j < 0 ∧ j.toNatClampNeg < n) (hb : x = 0 ∨ x = 1) (hg : g.method = m) (hs : g.stack = .int x :: .int j :: .ref a :: rest) (hd : decode c.code g.pc = .ok (.bastore, 1)) :
    ∃ T' h', Stand p l e R s m args below meth c T' (locs ++ [⟨a, j.toNatClampNeg⟩]) cells slots ∧ T'.heap = h' ∧ Wr h h' a j.toNatClampNeg (.int x) ∧ Arf Z h' a .boolean Value.int n (Upd f j.toNatClampNeg x) ∧ ∀ target, Steps p.tables e below (T'.setTop { g with pc := g.pc + 1, stack := rest }) target → Steps p.tables e below (T.setTop g) target := by
  have F' := F
  obtain ⟨cl, A, S, H⟩ := F
  obtain ⟨T', h', X', e', W, st⟩ := stZ X hx hZ eT A (Arf.inb S hj) hg hs hd
  have q : nar .boolean x = x := by rcases hb with rfl | rfl <;> rfl
  rw [q] at W
  exact ⟨T', h', X', e', W, F'.set W rfl, st⟩
theorem nat32 {n : Nat} (hn : n < 2 ^ 31) : n.toInt32.toNatClampNeg = n := by
  have q : n.toInt32.toInt = n := len_toInt hn
  simp only [Int32.toNatClampNeg, q]; omega
theorem pos32 {n : Nat} (hn : n < 2 ^ 31) : ¬ n.toInt32 < 0 := by
  have q : n.toInt32.toInt = n := len_toInt hn
  rw [Int32.lt_iff_toInt_lt, q]; have k : (0 : Int32).toInt = 0 := rfl
  omega
theorem Arf.arv (F : Arf Z h a ty con n f) (hn : n < 2 ^ 31) (hf : ∀ x, fits ty (con x) = true) (d : Value) : ∃ k, Arv Z h a k ty n.toInt32 ((List.range n).map fun i => con (f i)) d := by
  obtain ⟨cl, A, S, H⟩ := F
  refine ⟨cl.cls, cl, A, rfl, by rw [nat32 hn, S], pos32 hn, fun i hi => ?_, fun i hi => ?_⟩
  · rw [S] at hi; rw [H i hi]; simp [List.getD, hi]
  · rw [S] at hi; simp [List.getD, hi, hf]
theorem Arf.arv' (F : Arf Z h a ty con n f) (hn : n < 2 ^ 31) (hf : ∀ i, i < n → fits ty (con (f i)) = true) (d : Value) : ∃ k, Arv Z h a k ty n.toInt32 ((List.range n).map fun i => con (f i)) d := by
  obtain ⟨cl, A, S, H⟩ := F
  refine ⟨cl.cls, cl, A, rfl, by rw [nat32 hn, S], pos32 hn, fun i hi => ?_, fun i hi => ?_⟩
  · rw [S] at hi; rw [H i hi]; simp [List.getD, hi]
  · rw [S] at hi; simp [List.getD, hi, hf i hi]
theorem wrC {f : Nat → Int32} {x : Int32} (X : Stand p l e R s m args below meth c T locs cells slots) (hx : p.tables.exec = Jvm.exec) (hZ : Z.Warmed39 s.vm) (eT : T.heap = h) (F : Arf Z h a .char Value.int n f) (hj : ¬ j < 0 ∧ j.toNatClampNeg < n) (hb : nar .char x = x) (hg : g.method = m) (hs : g.stack = .int x :: .int j :: .ref a :: rest) (hd : decode c.code g.pc = .ok (.castore, 1)) :
    ∃ T' h', Stand p l e R s m args below meth c T' (locs ++ [⟨a, j.toNatClampNeg⟩]) cells slots ∧ T'.heap = h' ∧ Wr h h' a j.toNatClampNeg (.int x) ∧ Arf Z h' a .char Value.int n (Upd f j.toNatClampNeg x) ∧ ∀ target, Steps p.tables e below (T'.setTop { g with pc := g.pc + 1, stack := rest }) target → Steps p.tables e below (T.setTop g) target := by
  have F' := F
  obtain ⟨cl, A, S, H⟩ := F
  obtain ⟨T', h', X', e', W, st⟩ := stC X hx hZ eT A (Arf.inb S hj) hg hs hd
  rw [hb] at W
  exact ⟨T', h', X', e', W, F'.set W rfl, st⟩
theorem narC (y : Int32) : nar .char (y.toUInt32.toUInt16.toUInt32.toInt32) = y.toUInt32.toUInt16.toUInt32.toInt32 := by
  simp only [nar, UInt32.toUInt32_toInt32, UInt16.toUInt16_toUInt32]
theorem Arv.arf {k : ClassId} {z : Int32} {vs : List Value} {d : Value} (V : Arv Z h a k ty z vs d) (hz : z.toNatClampNeg = n) (hv : ∀ i, i < n → vs.getD i d = con (f i)) : Arf Z h a ty con n f := by
  obtain ⟨cl, A, -, S, -, H, -⟩ := V
  exact ⟨cl, A, S.trans hz, fun i hi => by rw [H i (by omega), hv i hi]⟩
/-- System.arraycopy(src, 0, dst, 0, len) -/
theorem acF (X : Stand p l e R s m args below meth c T locs cells slots) (hx : p.tables.exec = Jvm.exec) (hZ : Z.Warmed39 s.vm) {own : String} {index : Nat} (hown : s.vm.findClass own = some m.cls)
    (w1 : (Jvm.Cond.methodLink own index Jvm.Stand.acN).before a0 Z = true) (w2 : (Jvm.Cond.native Jvm.Stand.acN).before a0 Z = true) (w3 : (Jvm.Cond.static Jvm.Stand.acN).before a0 Z = true) (w4 : (Jvm.Cond.initialized "java/lang/System").before a0 Z = true) (eT : T.heap = h)
    {n' : Nat} {f' : Nat → α} {nn : Int32} {len : Nat} (A : Arf Z h a ty con n f) (B : Arf Z h b ty con n' f') (hty : refKind ty = false) (hf : ∀ x, fits ty (con x) = true) (hn : n < 2 ^ 31) (hn' : n' < 2 ^ 31) (h3 : ¬ nn < 0) (hl : nn.toNatClampNeg = len) (h4 : len ≤ n) (h5 : len ≤ n') {n0 : Nat} (N : Fr n0 locs) (ge : n0 ≤ b)
    (hg : g.method = m) (hsize : g.locals.size = c.maxLocals) (hs : g.stack = .int nn :: .int 0 :: .ref b :: .int 0 :: .ref a :: rest) (hd : decode c.code g.pc = .ok (.invokestatic index, 3))
    (hfr : 1 ≤ R.frames) {W : Nat} (hW : 2 * g.monitorRoom + (rest.map fun v => v.category).sum ≤ W) (hlo : W + (nativeFrameWords "java/lang/System" "arraycopy" 5 + 11) ≤ R.locals) :
    ∃ T' h' L, Stand p l e R s m args below meth c T' L cells slots ∧ T'.heap = h' ∧ Fr n0 L ∧ Keep h h' [b] ∧ Arf Z h' b ty con n' (fun i => if i < len then f i else f' i) ∧
      ∀ target, Steps p.tables e below (T'.setTop { g with pc := g.pc + 3, stack := rest }) target → Steps p.tables e below (T.setTop g) target := by
  obtain ⟨k, VA⟩ := A.arv hn hf .null
  obtain ⟨k', VB⟩ := B.arv hn' hf .null
  have z0 : (0 : Int32).toNatClampNeg = 0 := rfl
  obtain ⟨T', h', L, X', e', F', K', V', st⟩ := cpA X hx hZ hown w1 w2 w3 w4 eT VA VB (us := (List.range nn.toNatClampNeg).map fun i => ((List.range n).map fun i => con (f i)).getD ((0 : Int32).toNatClampNeg + i) .null) (Or.inl ⟨rfl, hty⟩) (sp := 0) (dp := 0) (nn := nn) (by decide) (by decide) h3 (by rw [z0, hl, nat32 hn]; omega) (by rw [z0, hl, nat32 hn']; omega) rfl (by rw [z0, hl]; simp; omega) N ge hg hsize hs hd hfr hW hlo
  refine ⟨T', h', L, X', e', F', K', Arv.arf V' (nat32 hn') fun i hi => ?_, st⟩
  rw [z0, hl]
  by_cases q : i < len
  · have q2 : i < n := by omega
    simp [List.getD, List.getElem?_append, q, q2]
  · have q3 : len + (i - len) = i := by omega
    have q4 : i < n' := hi
    simp [List.getD, List.getElem?_append, q, q3, q4]
/-- an array of arrays, with the class that it takes -/
def Blk (Z : State) (h : Heap) (b : Addr) (ty : FieldType) (C : String) (n : Nat) (f : Nat → Value) : Prop := ∃ c : Cell, Arr Z h b c (.array ty) ∧ OvrA Z c.cls ty C ∧ c.slots.size = n ∧ ∀ i, i < n → c.slots[i]? = some (f i)
section Blks
variable {C : String} {f : Nat → Value}
theorem Blk.lt (F : Blk Z h a ty C n f) : a < h.size := by obtain ⟨c, A, -⟩ := F; exact A.lt
theorem Blk.ext (F : Blk Z h a ty C n f) (E : Ext h h') : Blk Z h' a ty C n f := by obtain ⟨c, A, r⟩ := F; exact ⟨c, A.ext E, r⟩
theorem Blk.other {sl : Nat} {v : Value} (F : Blk Z h b ty C n f) (W : Wr h h' a sl v) (q : b ≠ a) : Blk Z h' b ty C n f := by obtain ⟨c, A, r⟩ := F; exact ⟨c, A.other W q, r⟩
theorem Blk.keep {ws : List Addr} (F : Blk Z h a ty C n f) (K : Keep h h' ws) (q : a ∉ ws) : Blk Z h' a ty C n f := by obtain ⟨c, A, r⟩ := F; exact ⟨c, ⟨K.2.1 a c A.1 q, A.2⟩, r⟩
theorem Blk.new {cA : ClassId} {z : Int32} (A : Arr Z h a (newA cA (.array ty) z) (.array ty)) (O : OvrA Z cA ty C) : Blk Z h a ty C z.toNatClampNeg (fun _ => .null) :=
  ⟨_, A, O, sz_new _ _ _, fun i hi => by simp [newA, hi, defaultValue]⟩
theorem ldB (X : Stand p l e R s m args below meth c T locs cells slots) (hx : p.tables.exec = Jvm.exec) (hZ : Z.Warmed39 s.vm) (eT : T.heap = h) (F : Blk Z h a ty C n f) (hj : ¬ j < 0 ∧ j.toNatClampNeg < n) (hg : g.method = m) (hs : g.stack = .int j :: .ref a :: rest) (hd : decode c.code g.pc = .ok (.aaload, 1)) {t : State}
    (k : Steps p.tables e below (T.setTop { g with pc := g.pc + 1, stack := f j.toNatClampNeg :: rest }) t) : Steps p.tables e below (T.setTop g) t := by
  obtain ⟨cl, A, O, S, H⟩ := F
  exact X.aaload hx (by rw [eT]; exact A.1) (State.isArrayOf_alike hZ.alike A.2.1) rfl A.2.2 (Arf.inb S hj) (H _ hj.2) hg hs hd t k
theorem ldBm (X : Stand p l e R s m args below meth c T locs cells slots) (hx : p.tables.exec = Jvm.exec) (hZ : Z.Warmed39 s.vm) (eT : T.heap = h) (F : Blk Z h a ty C n f) (hj : ¬ j < 0 ∧ j.toNatClampNeg < n) {pc : Nat} {Ls : Array Slot} (hd : decode c.code pc = .ok (.aaload, 1)) {t : State}
    (k : Steps p.tables e below (T.setTop (mkF m (pc + 1) Ls (f j.toNatClampNeg :: rest))) t) : Steps p.tables e below (T.setTop (mkF m pc Ls (.int j :: .ref a :: rest))) t :=
  ldB (g := mkF m pc Ls (.int j :: .ref a :: rest)) X hx hZ eT F hj rfl rfl hd k
theorem lenB (X : Stand p l e R s m args below meth c T locs cells slots) (hx : p.tables.exec = Jvm.exec) (hZ : Z.Warmed39 s.vm) (eT : T.heap = h) (F : Blk Z h a ty C n f) (hg : g.method = m) (hs : g.stack = .ref a :: rest) (hd : decode c.code g.pc = .ok (.arraylength, 1)) {t : State}
    (k : Steps p.tables e below (T.setTop { g with pc := g.pc + 1, stack := .int n.toInt32 :: rest }) t) : Steps p.tables e below (T.setTop g) t := by
  obtain ⟨cl, A, O, S, H⟩ := F
  exact X.arraylength hx (by rw [eT]; exact A.1) (State.isArrayOf_alike hZ.alike A.2.1) hg hs hd t (by rw [S]; exact k)
theorem lenBm (X : Stand p l e R s m args below meth c T locs cells slots) (hx : p.tables.exec = Jvm.exec) (hZ : Z.Warmed39 s.vm) (eT : T.heap = h) (F : Blk Z h a ty C n f) {pc : Nat} {Ls : Array Slot} (hd : decode c.code pc = .ok (.arraylength, 1)) {t : State}
    (k : Steps p.tables e below (T.setTop (mkF m (pc + 1) Ls (.int n.toInt32 :: rest))) t) : Steps p.tables e below (T.setTop (mkF m pc Ls (.ref a :: rest))) t :=
  lenB (g := mkF m pc Ls (.ref a :: rest)) X hx hZ eT F rfl rfl hd k
theorem wrB {y : Addr} (X : Stand p l e R s m args below meth c T locs cells slots) (hx : p.tables.exec = Jvm.exec) (hZ : Z.Warmed39 s.vm) (eT : T.heap = h) (F : Blk Z h a ty C n f) (I : Ins Z h y C true) (hj : ¬ j < 0 ∧ j.toNatClampNeg < n) (hg : g.method = m) (hs : g.stack = .ref y :: .int j :: .ref a :: rest) (hd : decode c.code g.pc = .ok (.aastore, 1)) :
    ∃ T' h', Stand p l e R s m args below meth c T' (locs ++ [⟨a, j.toNatClampNeg⟩]) cells slots ∧ T'.heap = h' ∧ Wr h h' a j.toNatClampNeg (.ref y) ∧ Blk Z h' a ty C n (Upd f j.toNatClampNeg (.ref y)) ∧ ∀ target, Steps p.tables e below (T'.setTop { g with pc := g.pc + 1, stack := rest }) target → Steps p.tables e below (T.setTop g) target := by
  obtain ⟨cl, A, O, S, H⟩ := F
  obtain ⟨T', h', X', e', W, st⟩ := stR X hx hZ eT A (Arf.inb S hj) rfl (Sto.ofVA A rfl O I) hg hs hd
  refine ⟨T', h', X', e', W, ⟨_, A.same W, O, (sz_set _ _ _).trans S, fun i hi => ?_⟩, st⟩
  by_cases q : i = j.toNatClampNeg
  · subst q; simp [Cell.setSlot, Upd, S, hi]
  · have : ((cl.setSlot j.toNatClampNeg (.ref y)).slots)[i]? = cl.slots[i]? := Array.getElem?_setIfInBounds_ne (Ne.symm q)
    rw [this, H i hi]; simp [Upd, q]
theorem Blk.one {v : Value} (F : Blk Z h b ty C 1 f) (hv : f 0 = v) : Blk Z h b ty C 1 (fun _ => v) := by
  obtain ⟨c, A, O, S, H⟩ := F
  refine ⟨c, A, O, S, fun i hi => ?_⟩
  obtain rfl : i = 0 := by omega
  rw [H 0 hi, hv]
end Blks
end Arrays
end Jvm.Own
namespace Jvm.Own
open Sem ClassFile Op Lib Jvm.Stand Jvm.Free Jvm.LawKit Jvm.RoadKit
/-- what a body leaves that may have loaded String constants -/
abbrev LeavesW (Z : State) (EL : List (String × Nat)) (h0 : Heap) (s : State) (Q : Option Value → Heap → List Loc → Prop) (C N : Nat) (o : Outcome) (U : State) : Prop := ∃ v L, o = .returned v ∧ Q v U.heap L ∧ CHr Z EL s.vm h0 U.vm U.heap ∧ ReturnedEndW s o U L C N
abbrev PaysW (l : Launch) (Z : State) (EL : List (String × Nat)) (y : MethodName) (bytes : ByteArray) (maxL : Nat) (ret : Option FieldType) (ws : List Jvm.Cond) (rm : Room) (as : Array Value) (h0 : Heap) (Q : Option Value → Heap → List Loc → Prop) : Prop :=
  MetFree l y (head1 (Jvm.Cond.code y bytes maxL ret :: ws) rm) (fun a U => a = as ∧ Z.Warmed39 U.vm ∧ U.heap = h0 ∧ CHv Z EL U.vm h0) (fun _ _ _ _ _ => True) (fun _ U o U' => ∃ v L, o = .returned v ∧ Q v U'.heap L ∧ CHr Z EL U.vm U.heap U'.vm U'.heap ∧ ReturnedEndW U o U' L rm.cells rm.slots)
/-- a String with these bytes -/
def Str (Z : State) (h : Heap) (r b : Addr) (k : ClassId) (N : Int32) (vs : List Value) : Prop := Exa Z h r "java/lang/String" ∧ Fld Z h r "java/lang/String" "coder" "B" (.int 0) ∧ Fld Z h r "java/lang/String" "value" "[B" (.ref b) ∧ Arv Z h b k .byte N vs (.int 0)
theorem Str.ext {Z : State} {h h' : Heap} {r b : Addr} {k : ClassId} {N : Int32} {vs : List Value} (F : Str Z h r b k N vs) (E : Ext h h') : Str Z h' r b k N vs := ⟨F.1.ext E, F.2.1.ext E, F.2.2.1.ext E, F.2.2.2.ext E⟩
theorem Str.keep {Z : State} {h h' : Heap} {r b : Addr} {k : ClassId} {N : Int32} {vs : List Value} {ws : List Addr} (F : Str Z h r b k N vs) (K : Keep h h' ws) (hr : r ∉ ws) (hb : b ∉ ws) : Str Z h' r b k N vs := ⟨F.1.keep K, F.2.1.keep K hr, F.2.2.1.keep K hr, F.2.2.2.keep K hb⟩
theorem Str.wr {Z : State} {h h' : Heap} {r b a : Addr} {k : ClassId} {N : Int32} {vs : List Value} {sl : Nat} {v : Value} (F : Str Z h r b k N vs) (W : Wr h h' a sl v) (hr : r ≠ a) (hb : b ≠ a) : Str Z h' r b k N vs := ⟨F.1.wr W, F.2.1.other W (Or.inl hr), F.2.2.1.other W (Or.inl hr), F.2.2.2.other W hb⟩
theorem Str.ne {Z : State} {h : Heap} {r b r' b' : Addr} {k k' : ClassId} {N N' : Int32} {vs vs' : List Value} (F : Str Z h r b k N vs) (G : Str Z h r' b' k' N' vs') (hN : 0 < N.toNatClampNeg) (hv : vs.getD 0 (.int 0) ≠ vs'.getD 0 (.int 0)) : r ≠ r' := by
  by_cases q : b = b'
  · subst q
    obtain ⟨c, A, -, S, -, H, -⟩ := F.2.2.2
    obtain ⟨c', A', -, S', -, H', -⟩ := G.2.2.2
    cases A.1.symm.trans A'.1
    exact absurd (Option.some.inj ((H 0 (by omega)).symm.trans (H' 0 (by omega)))) hv
  · exact Fld.ne F.2.2.1 G.2.2.1 (fun z => q (Value.ref.inj z))
section StepsW
variable {p : Program} {l : Launch} {e : Env} {R : Room} {s : State} {m : MethodId} {args : Array Value} {below : List Frame} {meth : Method} {c : Code} {T T' : State} {locs : List Loc} {cells slots : Nat} {Z : State} {a0 : Array Value} {h h0 : Heap} {P : Outcome → State → Prop} {g g' : JFrame} {EL : List (String × Nat)} {vm vm0 vm1 : Vm} {k0 : Nat}
theorem chNil : CHv Z [] vm h := fun p hp => by cases hp
theorem chrNil {h' : Heap} (q : h.size ≤ h'.size) : CHr Z [] vm h vm1 h' := ⟨chNil, q, fun y b => by obtain ⟨p, hp, -⟩ := b; cases hp⟩
theorem endMono {t : State} {o : Outcome} {L : List Loc} {k n k' n' : Nat} (q : ReturnedEndW s o t L k n) (hk : k ≤ k') (hn : n ≤ n') : ReturnedEndW s o t L k' n' := ⟨q.1, q.2.1, q.2.2.1, q.2.2.2.mono hk hn⟩
theorem Goes.outW {Q : Option Value → Heap → List Loc → Prop} {C N : Nat} (X : Stand p l e R (s.setVm vm0) m args below meth c T locs cells slots) (hS : s.Since vm0 k0) (hk : k0 ≤ T.heap.size) (hZ : Z.Warmed39 vm0) (hEL : EW Z a0 EL) (hr : CHr Z EL s.vm h0 vm0 T.heap) {v : Option Value} (hv : meth.sig.returnType = none → v = none) (hlk : meth.locks = false) (hc : cells ≤ C) (hs : slots ≤ N) (hq : Q v T.heap locs)
    (st : ∀ fs, (∀ (f : JFrame) (acts : List Action), f.method = m → f.locked = none → f.entered = [] → (doReturn e (T.setTop f) acts v).1 = T.setFrames fs) → Steps p.tables e below (T.setTop g) (T.setFrames fs)) : Goes p e below (LeavesW Z EL h0 s Q C N) T g := by
  obtain ⟨fs, hrr, hrun, hended, hE⟩ := X.leaveW hS hk (v := v) hv hlk
  have hC : CHr Z EL s.vm h0 T.vm T.heap := hr.trans (CHv.at X hZ hEL hr.1)
  exact ⟨_, _, st fs hrr, hrun, hended, v, locs, rfl, hq, hC, endMono hE hc hs⟩
theorem Goes.retVW {Q : Option Value → Heap → List Loc → Prop} {C N : Nat} (X : Stand p l e R (s.setVm vm0) m args below meth c T locs cells slots) (hS : s.Since vm0 k0) (hk : k0 ≤ T.heap.size) (hZ : Z.Warmed39 vm0) (hEL : EW Z a0 EL) (hr : CHr Z EL s.vm h0 vm0 T.heap) (hx : p.tables.exec = Jvm.exec) (hlk : meth.locks = false) (hret : meth.sig.returnType = none) {pc : Nat} {Ls : Array Slot} (hd : decode c.code pc = .ok (.return_, 1)) (hc : cells ≤ C) (hs : slots ≤ N) (hq : Q none T.heap locs) :
    Goes p e below (LeavesW Z EL h0 s Q C N) T (mkF m pc Ls []) :=
  Goes.outW X hS hk hZ hEL hr (fun _ => rfl) hlk hc hs hq fun _ q => X.returnOut hx hret hd q
theorem Goes.retWW {Q : Option Value → Heap → List Loc → Prop} {C N : Nat} (X : Stand p l e R (s.setVm vm0) m args below meth c T locs cells slots) (hS : s.Since vm0 k0) (hk : k0 ≤ T.heap.size) (hZ : Z.Warmed39 vm0) (hEL : EW Z a0 EL) (hr : CHr Z EL s.vm h0 vm0 T.heap) (hx : p.tables.exec = Jvm.exec) (hlk : meth.locks = false) {t : FieldType} {i : Instr} {w : Value} (hret : meth.sig.returnType = some t) {pc : Nat} {Ls : Array Slot} {rest : List Value} (hn : narrow t w = w)
    (hi : (i = .ireturn ∧ (t = .int ∨ t = .boolean ∨ t = .byte ∨ t = .char ∨ t = .short) ∧ ∃ z, w = .int z) ∨ (i = .lreturn ∧ t = .long ∧ ∃ z, w = .long z) ∨ (i = .dreturn ∧ t = .double ∧ ∃ z, w = .double z) ∨ (i = .freturn ∧ t = .float ∧ ∃ z, w = .float z) ∨ (i = .areturn ∧ t.isReference = true ∧ w.isRef = true))
    (hd : decode c.code pc = .ok (i, 1)) (hc : cells ≤ C) (hs : slots ≤ N) (hq : Q (some w) T.heap locs) : Goes p e below (LeavesW Z EL h0 s Q C N) T (mkF m pc Ls (w :: rest)) :=
  Goes.outW X hS hk hZ hEL hr (fun h => by rw [hret] at h; cases h) hlk hc hs hq fun _ q => retOut X hx hret hn hi hd q
theorem Goes.retBW {Q : Option Value → Heap → List Loc → Prop} {C N : Nat} (X : Stand p l e R (s.setVm vm0) m args below meth c T locs cells slots) (hS : s.Since vm0 k0) (hk : k0 ≤ T.heap.size) (hZ : Z.Warmed39 vm0) (hEL : EW Z a0 EL) (hr : CHr Z EL s.vm h0 vm0 T.heap) (hx : p.tables.exec = Jvm.exec) (hlk : meth.locks = false) {z : Int32} (hret : meth.sig.returnType = some .boolean) {pc : Nat} {Ls : Array Slot} {rest : List Value} (hz : z = 0 ∨ z = 1) (hd : decode c.code pc = .ok (.ireturn, 1)) (hc : cells ≤ C) (hs : slots ≤ N) (hq : Q (some (.int z)) T.heap locs) :
    Goes p e below (LeavesW Z EL h0 s Q C N) T (mkF m pc Ls (.int z :: rest)) := Goes.retWW X hS hk hZ hEL hr hx hlk hret (by rcases hz with rfl | rfl <;> rfl) (Or.inl ⟨rfl, Or.inr (Or.inl rfl), _, rfl⟩) hd hc hs hq
theorem Goes.retAW {Q : Option Value → Heap → List Loc → Prop} {C N : Nat} (X : Stand p l e R (s.setVm vm0) m args below meth c T locs cells slots) (hS : s.Since vm0 k0) (hk : k0 ≤ T.heap.size) (hZ : Z.Warmed39 vm0) (hEL : EW Z a0 EL) (hr : CHr Z EL s.vm h0 vm0 T.heap) (hx : p.tables.exec = Jvm.exec) (hlk : meth.locks = false) {w : Value} {t : FieldType} (hret : meth.sig.returnType = some t) (ht : t.isReference = true) (hw : w.isRef = true) {pc : Nat} {Ls : Array Slot} {rest : List Value} (hd : decode c.code pc = .ok (.areturn, 1)) (hc : cells ≤ C) (hs : slots ≤ N) (hq : Q (some w) T.heap locs) :
    Goes p e below (LeavesW Z EL h0 s Q C N) T (mkF m pc Ls (w :: rest)) := Goes.retWW X hS hk hZ hEL hr hx hlk hret (by cases t <;> first | rfl | cases ht) (Or.inr (Or.inr (Or.inr (Or.inr ⟨rfl, ht, hw⟩)))) hd hc hs hq
theorem PaysW.walk {y : MethodName} {bytes : ByteArray} {maxL : Nat} {ret : Option FieldType} {ws : List Jvm.Cond} {rm : Room} {as : Array Value} {Q : Option Value → Heap → List Loc → Prop} {Ls : Array Slot}
    (hn : plainFor y = true) (hef : ∀ m, entryFrame m as maxL = mkF m 0 Ls [])
    (body : ∀ (p : Program) (e : Env) (s : State) (m : MethodId) (below : List Frame) (meth : Method) (c : Code) (T : State), Stand p l e rm (s.setVm s.vm) m as below meth c T [] 0 0 → p.tables.exec = Jvm.exec → c.code = bytes → c.maxLocals = maxL → (s.setVm s.vm).vm.findClass y.cls = some m.cls → meth.name = y.name → Z.Warmed39 (s.setVm s.vm).vm → T.heap = h0 → meth.sig.returnType = ret → meth.locks = false → s.Since s.vm 0 → CHr Z EL s.vm h0 s.vm h0 →
      Goes p e below (LeavesW Z EL h0 s Q rm.cells rm.slots) T (mkF m 0 Ls [])) : PaysW l Z EL y bytes maxL ret ws rm as h0 Q := by
  refine MetFree.of_bodySF hn hisR ?_
  intro p e s m args below meth c s₁ Bd hml0 hP hK
  obtain ⟨rfl, hZ, rfl, hC⟩ := hP
  have X0 : Stand p l e rm s m args below meth c s₁ [] 0 0 := Stand.of_body Bd
  obtain ⟨s₂, o, h1, h2⟩ := body p e s m below meth c s₁ X0 Bd.exec Bd.bytes hml0 (findClass_of_methodNamed Bd.named) (name_of_methodNamed Bd.named Bd.method).1 hZ (by rw [Bd.state]; rfl) Bd.returns Bd.notSynchronized ((State.WarmedH.refl s).since 0) (CHr.refl hC)
  exact ⟨s₂, o, castTop (hef m) h1, h2⟩
/-- the continuation behind a callee that may have interned -/
abbrev AfterW (p : Program) (l : Launch) (e : Env) (R : Room) (s : State) (m : MethodId) (args : Array Value) (below : List Frame) (meth : Method) (c : Code) (Z : State) (EL : List (String × Nat)) (own : String) (vm0 : Vm) (h : Heap) (Q : Option Value → Heap → List Loc → Prop) (locs : List Loc) (cells slots : Nat) (P : Outcome → State → Prop) (fr : Option Value → JFrame) : Prop :=
  ∀ v T' L k', Stand p l e R (s.setVm T'.vm) m args below meth c T' (locs ++ L) cells slots → s.Since T'.vm k' → k' ≤ T'.heap.size → Z.Warmed39 (s.setVm T'.vm).vm → (s.setVm T'.vm).vm.findClass own = some m.cls → CHr Z EL vm0 h T'.vm T'.heap → Q v T'.heap L → Goes p e below P T' (fr v)
theorem Goes.callSW (X : Stand p l e R (s.setVm vm0) m args below meth c T locs cells slots) (hx : p.tables.exec = Jvm.exec) (hZ : Z.Warmed39 (s.setVm vm0).vm) (hS : s.Since vm0 k0) (hk : k0 ≤ h.size) (hEL : EW Z a0 EL) (H : CHv Z EL vm0 h) {own : String} {index : Nat} {y : MethodName} {bytes : ByteArray} {maxL : Nat} {ret : Option FieldType} {rm : Room} {as' : Array Value} {Q : Option Value → Heap → List Loc → Prop} (W : Nat)
    (hown : (s.setVm vm0).vm.findClass own = some m.cls) (w1 : (Jvm.Cond.methodLink own index y).before a0 Z = true) (w2 : (Jvm.Cond.static y).before a0 Z = true) (w3 : (Jvm.Cond.initialized y.cls).before a0 Z = true) (w4 : (Jvm.Cond.code y bytes maxL ret).before a0 Z = true) (hy : y.cls ≠ "java/lang/invoke/MethodHandle" ∧ y.cls ≠ "java/lang/invoke/VarHandle")
    (eT : T.heap = h) (hM : PaysW l Z EL y bytes maxL ret [] rm as' h Q) (hf : rm.frames + 1 ≤ R.frames) (hl : W + (maxL + 11) + rm.locals ≤ R.locals) (hc : cells + rm.cells ≤ R.cells) (hs : slots + rm.slots ≤ R.slots)
    (hg : g.method = m) (hsize : g.locals.size = c.maxLocals) {argsL rest : List Value} (has : argsL.toArray = as') (hlen : ∀ sig, parseMethodDescriptor y.desc = some sig → argsL.length = sig.parameters.length) (hstack : g.stack = argsL.reverse ++ rest) (hW : 2 * g.monitorRoom + (rest.map fun v => v.category).sum ≤ W)
    (hd : decode c.code g.pc = .ok (.invokestatic index, 3))
    (k : AfterW p l e R s m args below meth c Z EL own vm0 h Q locs (cells + rm.cells) (slots + rm.slots) P (fun v => { g with pc := g.pc + 3, stack := v.toList ++ rest })) : Goes p e below P T g := by
  obtain ⟨v, _, ⟨T', L', k', n'⟩, -, X', hS', hgr, ⟨Lc, hQ, l', y', z', hC⟩, st⟩ := callSS X hx hown (mvT hZ w1) (mvT hZ w2) (mvT hZ w3) (mvT hZ w4) hy (backOfSH (s := s) (W := W) hM hZ w4 w3 hf hl hEL H) hg hsize (argsL := argsL) (rest := rest) hlen hstack hW hd (fun _ _ => ⟨has, eT, hc, hs⟩)
  dsimp only [Pt.U, Pt.locs, Pt.cells, Pt.slots] at X' l' y' z' st hQ hS' hgr hC
  subst l' y' z'
  obtain ⟨X2, hS2, hZ2, ho2⟩ := rebS hS (n1 := h.size) hk X' hS' (by rw [← eT]; exact hgr) hZ hown
  exact Goes.on (fun _ q => st.trans q) (k v T' Lc _ X2 hS2 (Nat.le_refl _) hZ2 ho2 hC hQ)
theorem Goes.callCW (X : Stand p l e R (s.setVm vm0) m args below meth c T locs cells slots) (hx : p.tables.exec = Jvm.exec) (hZ : Z.Warmed39 (s.setVm vm0).vm) (hS : s.Since vm0 k0) (hk : k0 ≤ h.size) (hEL : EW Z a0 EL) (H : CHv Z EL vm0 h) {own : String} {index : Nat} {y : MethodName} {bytes : ByteArray} {maxL : Nat} {rm : Room} {as' : Array Value} {Q : Option Value → Heap → List Loc → Prop} (W : Nat) (hy1 : y.name = "<init>")
    (hown : (s.setVm vm0).vm.findClass own = some m.cls) (w1 : (Jvm.Cond.methodLink own index y).before a0 Z = true) (w2 : (Jvm.Cond.instanceMethod y).before a0 Z = true) (w3 : (Jvm.Cond.initialized y.cls).before a0 Z = true) (w4 : (Jvm.Cond.code y bytes maxL none).before a0 Z = true) (hy : y.cls ≠ "java/lang/invoke/MethodHandle" ∧ y.cls ≠ "java/lang/invoke/VarHandle")
    (eT : T.heap = h) (hM : PaysW l Z EL y bytes maxL none [] rm as' h Q) (hf : rm.frames + 1 ≤ R.frames) (hl : W + (maxL + 11) + rm.locals ≤ R.locals) (hc : cells + rm.cells ≤ R.cells) (hs : slots + rm.slots ≤ R.slots)
    (hg : g.method = m) (hsize : g.locals.size = c.maxLocals) {a : Addr} {argsL rest : List Value} (has : (Value.ref a :: argsL).toArray = as') (hlen : ∀ sig, parseMethodDescriptor y.desc = some sig → argsL.length = sig.parameters.length) (hstack : g.stack = argsL.reverse ++ .ref a :: rest) (hW : 2 * g.monitorRoom + (rest.map fun v => v.category).sum ≤ W)
    (hd : decode c.code g.pc = .ok (.invokespecial index, 3))
    (k : AfterW p l e R s m args below meth c Z EL own vm0 h Q locs (cells + rm.cells) (slots + rm.slots) P (fun v => { g with pc := g.pc + 3, stack := v.toList ++ rest })) : Goes p e below P T g := by
  obtain ⟨v, _, ⟨T', L', k', n'⟩, -, X', hS', hgr, ⟨Lc, hQ, l', y', z', hC⟩, st⟩ := X.specialBackS hx (y := y) hy1 hown (mvT hZ w1) (mvT hZ w2) (mvT hZ w4) hy (backOfSH (s := s) (W := W) hM hZ w4 w3 hf hl hEL H) hg hsize (Steps.refl _) (a := a) (argsL := argsL) (rest := rest) hlen hstack hW hd (fun _ _ => ⟨has, eT, hc, hs⟩)
  dsimp only [Pt.U, Pt.locs, Pt.cells, Pt.slots] at X' l' y' z' st hQ hS' hgr hC
  subst l' y' z'
  obtain ⟨X2, hS2, hZ2, ho2⟩ := rebS hS (n1 := h.size) hk X' hS' (by rw [← eT]; exact hgr) hZ hown
  exact Goes.on (fun _ q => st.trans q) (k v T' Lc _ X2 hS2 (Nat.le_refl _) hZ2 ho2 hC hQ)
theorem Goes.callVW (X : Stand p l e R (s.setVm vm0) m args below meth c T locs cells slots) (hx : p.tables.exec = Jvm.exec) (hZ : Z.Warmed39 (s.setVm vm0).vm) (hS : s.Since vm0 k0) (hk : k0 ≤ h.size) (hEL : EW Z a0 EL) (H : CHv Z EL vm0 h) {own C : String} {index : Nat} {y z : MethodName} {bytes : ByteArray} {maxL : Nat} {ret : Option FieldType} {rm : Room} {as' : Array Value} {Q : Option Value → Heap → List Loc → Prop} (W : Nat)
    (hown : (s.setVm vm0).vm.findClass own = some m.cls) (w1 : (Jvm.Cond.methodLink own index y).before a0 Z = true) (w2 : (Jvm.Cond.declares y).before a0 Z = true) (hnf : NotFace (s.setVm vm0) y) (w5 : (Jvm.Cond.selects C y z).before a0 Z = true) (w6 : (Jvm.Cond.instanceMethod z).before a0 Z = true) (w3 : (Jvm.Cond.initialized z.cls).before a0 Z = true) (w4 : (Jvm.Cond.code z bytes maxL ret).before a0 Z = true) (hy : y.cls ≠ "java/lang/invoke/MethodHandle" ∧ y.cls ≠ "java/lang/invoke/VarHandle")
    (eT : T.heap = h) {a : Addr} (E : Exa Z h a C) (hM : PaysW l Z EL z bytes maxL ret [] rm as' h Q) (hf : rm.frames + 1 ≤ R.frames) (hl : W + (maxL + 11) + rm.locals ≤ R.locals) (hc : cells + rm.cells ≤ R.cells) (hs : slots + rm.slots ≤ R.slots)
    (hg : g.method = m) (hsize : g.locals.size = c.maxLocals) {argsL rest : List Value} (has : (Value.ref a :: argsL).toArray = as') (hlen : ∀ sig, parseMethodDescriptor y.desc = some sig → argsL.length = sig.parameters.length) (hstack : g.stack = argsL.reverse ++ .ref a :: rest) (hW : 2 * g.monitorRoom + (rest.map fun v => v.category).sum ≤ W)
    (hd : decode c.code g.pc = .ok (.invokevirtual index, 3))
    (k : AfterW p l e R s m args below meth c Z EL own vm0 h Q locs (cells + rm.cells) (slots + rm.slots) P (fun v => { g with pc := g.pc + 3, stack := v.toList ++ rest })) : Goes p e below P T g := by
  obtain ⟨cq, kq, qa, qb, qc⟩ := isOf hZ eT E
  obtain ⟨v, _, ⟨T', L', k', n'⟩, -, X', hS', hgr, ⟨Lc, hQ, l', y', z', hC⟩, st⟩ := X.virtualBackS hx (y := y) (z := z) hown (mvT hZ w1) (mvT hZ w2) hnf (mvT hZ w5) (mvT hZ w6) hy (backOfSH (s := s) (W := W) hM hZ w4 w3 hf hl hEL H) qa qc hg hsize (Steps.refl _) (argsL := argsL) (rest := rest) hlen hstack hW hd (fun _ _ => ⟨has, eT, hc, hs⟩)
  dsimp only [Pt.U, Pt.locs, Pt.cells, Pt.slots] at X' l' y' z' st hQ hS' hgr hC
  subst l' y' z'
  obtain ⟨X2, hS2, hZ2, ho2⟩ := rebS hS (n1 := h.size) hk X' hS' (by rw [← eT]; exact hgr) hZ hown
  exact Goes.on (fun _ q => st.trans q) (k v T' Lc _ X2 hS2 (Nat.le_refl _) hZ2 ho2 hC hQ)
end StepsW
end Jvm.Own
namespace Jvm.Pilot.@@N@@
open Jvm Jvm.ClassFile Sem Op Lib Jvm.Free Jvm.Stand Jvm.LawKit Jvm.RoadKit Bundle Jvm.Own Jvm.Pilot.@@N@@.Jvm.D
theorem own_w {Z : State} {a0 : Array Value} (hw : ∀ d ∈ tables_1, d.before a0 Z = true) (i : Nat) {d : Jvm.Cond} (h : tables_1[i]? = some d) : d.before a0 Z = true := hw d (List.mem_of_getElem? h)
theorem own_wS {Z : State} {a0 : Array Value} (hw : ∀ d ∈ tables_1, d.before a0 Z = true) : ∀ d ∈ Bundle.stringAtoms, d.before a0 Z = true := by
  intro d hd
  simp only [Bundle.stringAtoms, List.mem_cons, List.not_mem_nil, or_false] at hd
  rcases hd with rfl | rfl | rfl | rfl | rfl | rfl | rfl
  · exact own_w hw 5 rfl
  · exact own_w hw 6 rfl
  · exact own_w hw 7 rfl
  · exact own_w hw 8 rfl
  · exact own_w hw 9 rfl
  · exact own_w hw 10 rfl
  · exact own_w hw 11 rfl
theorem own_EW {Z : State} {a0 : Array Value} (hw : ∀ d ∈ tables_1, d.before a0 Z = true) : EW Z a0 consts_1 := (EW.cons (own_w hw 4 rfl) (by decide) (EW.cons (own_w hw 23 rfl) (by decide) (EW.cons (own_w hw 34 rfl) (by decide) (EW.cons (own_w hw 35 rfl) (by decide) (EW.cons (own_w hw 16 rfl) (by decide) (EW.cons (own_w hw 24 rfl) (by decide) EW.nil))))))
theorem d4_0 : decode jdk_43_method_13_code 0 = .ok (.aload_n 0, 1) := by decide +kernel
theorem d4_1 : decode jdk_43_method_13_code 1 = .ok (.arraylength, 1) := by decide +kernel
theorem d4_2 : decode jdk_43_method_13_code 2 = .ok (.aload_n 1, 1) := by decide +kernel
theorem d4_3 : decode jdk_43_method_13_code 3 = .ok (.arraylength, 1) := by decide +kernel
theorem d4_4 : decode jdk_43_method_13_code 4 = .ok (.if_icmp .ne 30, 3) := by decide +kernel
theorem d4_7 : decode jdk_43_method_13_code 7 = .ok (.iconst 0, 1) := by decide +kernel
theorem d4_8 : decode jdk_43_method_13_code 8 = .ok (.istore_n 2, 1) := by decide +kernel
theorem d4_9 : decode jdk_43_method_13_code 9 = .ok (.iload_n 2, 1) := by decide +kernel
theorem d4_10 : decode jdk_43_method_13_code 10 = .ok (.aload_n 0, 1) := by decide +kernel
theorem d4_11 : decode jdk_43_method_13_code 11 = .ok (.arraylength, 1) := by decide +kernel
theorem d4_12 : decode jdk_43_method_13_code 12 = .ok (.if_icmp .ge 20, 3) := by decide +kernel
theorem d4_15 : decode jdk_43_method_13_code 15 = .ok (.aload_n 0, 1) := by decide +kernel
theorem d4_16 : decode jdk_43_method_13_code 16 = .ok (.iload_n 2, 1) := by decide +kernel
theorem d4_17 : decode jdk_43_method_13_code 17 = .ok (.baload, 1) := by decide +kernel
theorem d4_18 : decode jdk_43_method_13_code 18 = .ok (.aload_n 1, 1) := by decide +kernel
theorem d4_19 : decode jdk_43_method_13_code 19 = .ok (.iload_n 2, 1) := by decide +kernel
theorem d4_20 : decode jdk_43_method_13_code 20 = .ok (.baload, 1) := by decide +kernel
theorem d4_21 : decode jdk_43_method_13_code 21 = .ok (.if_icmp .eq 5, 3) := by decide +kernel
theorem d4_26 : decode jdk_43_method_13_code 26 = .ok (.iinc 2 1, 3) := by decide +kernel
theorem d4_29 : decode jdk_43_method_13_code 29 = .ok (.goto (-20), 3) := by decide +kernel
theorem d4_32 : decode jdk_43_method_13_code 32 = .ok (.iconst 1, 1) := by decide +kernel
theorem d4_33 : decode jdk_43_method_13_code 33 = .ok (.ireturn, 1) := by decide +kernel
theorem ef_0 (m : MethodId) (x0 : Addr) (x1 : Addr) : entryFrame m #[(.ref x0), (.ref x1)] 3 = mkF m 0 #[.val (.ref x0), .val (.ref x1), .unset] [] := by first | (simp [entryFrame, mkF, argsToLocals, Value.category]; done) | rfl
theorem pn_0 : plainName "java/lang/StringLatin1" = true := by first | (simp [plainName, overriddenIn]; done) | decide +kernel
set_option maxRecDepth 65536 in
set_option maxHeartbeats 40000000 in
theorem rmLe_none_none (l : Launch) (Z : State) (a0 : Array Value) (hw : ∀ d ∈ tables_1, d.before a0 Z = true) (a b : Addr) (h0 : Heap) (n0 : Nat) (Z0 : n0 ≤ h0.size) (B0 : Arf Z h0 a .byte Value.int 4 (fun i => ([110, 111, 110, 101] : List Int32).getD i 0)) (B1 : Arf Z h0 b .byte Value.int 4 (fun i => ([110, 111, 110, 101] : List Int32).getD i 0)) :
    Pays l Z (⟨"java/lang/StringLatin1", "equals", "([B[B)Z"⟩ : MethodName) jdk_43_method_13_code 3 (some .boolean) [] ({ frames := 0, cells := 0, slots := 0, locals := 0 } : Room) #[(.ref a), (.ref b)] h0 (fun v h L => v = some (.int (1 : Int32)) ∧ Fr n0 L ∧ h = h0) := by
  refine Pays.walk (plainFor_of_name pn_0) (fun m => ef_0 m a b ) ?_
  intro p e s m below meth c T0 X0 hx hby hml hown hnm hZ e0 hret hlk
  have N0 := Fr.nil n0
  refine Goes.on (T' := T0) (g' := (mkF m 16 #[.val (.ref a), .val (.ref b), .val (.int (0 : Int32))] [(.ref a)])) (fun _ k => XS.aloadN X0.here hx rfl (hb hby d4_0) rfl rfl (aLenm X0 hx hZ e0 B0 (hb hby d4_1) (XS.aloadN X0.here hx rfl (hb hby d4_2) rfl rfl (aLenm X0 hx hZ e0 B1 (hb hby d4_3) (XS.icmpNo X0.here hx rfl (hb hby d4_4) rfl (XT.ii_ne_f (by decide)) (XS.iconst X0.here hx rfl (hb hby d4_7) (XS.istoreN X0.here hx rfl (hb hby d4_8) rfl (l' := #[.val (.ref a), .val (.ref b), .val (.int (0 : Int32))]) rfl (XS.iloadN X0.here hx rfl (hb hby d4_9) rfl (XS.aloadN X0.here hx rfl (hb hby d4_10) rfl rfl (aLenm X0 hx hZ e0 B0 (hb hby d4_11) (XS.icmpNo X0.here hx rfl (hb hby d4_12) rfl (XT.ii_ge_f (by decide)) (XS.aloadN X0.here hx rfl (hb hby d4_15) rfl rfl k)))))))))))) ?_
  refine Goes.on (T' := T0) (g' := (mkF m 15 #[.val (.ref a), .val (.ref b), .val (.int (1 : Int32))] [])) (fun _ k => XS.iloadN X0.here hx rfl (hb hby d4_16) rfl (ldYm X0 hx hZ e0 B0 (by decide) (hb hby d4_17) (XS.aloadN X0.here hx rfl (hb hby d4_18) rfl rfl (XS.iloadN X0.here hx rfl (hb hby d4_19) rfl (ldYm X0 hx hZ e0 B1 (by decide) (hb hby d4_20) (XS.icmpYes X0.here hx rfl (pc0 := 21) (pc' := 26) rfl (hb hby d4_21) rfl (XT.ii_eq_t (by decide)) (by decide) (by decide) (XT.iincV X0.here hx rfl (1 : Int32) (hb hby d4_26) (by decide) rfl (l' := #[.val (.ref a), .val (.ref b), .val (.int (1 : Int32))]) rfl (XS.goto X0.here hx rfl (pc0 := 29) (pc' := 9) rfl (hb hby d4_29) (by decide) (by decide) (XS.iloadN X0.here hx rfl (hb hby d4_9) rfl (XS.aloadN X0.here hx rfl (hb hby d4_10) rfl rfl (aLenm X0 hx hZ e0 B0 (hb hby d4_11) (XS.icmpNo X0.here hx rfl (hb hby d4_12) rfl (XT.ii_ge_f (by decide)) k)))))))))))) ?_
  refine Goes.on (T' := T0) (g' := (mkF m 12 #[.val (.ref a), .val (.ref b), .val (.int (2 : Int32))] [(.int (4 : Int32)), (.int (2 : Int32))])) (fun _ k => XS.aloadN X0.here hx rfl (hb hby d4_15) rfl rfl (XS.iloadN X0.here hx rfl (hb hby d4_16) rfl (ldYm X0 hx hZ e0 B0 (by decide) (hb hby d4_17) (XS.aloadN X0.here hx rfl (hb hby d4_18) rfl rfl (XS.iloadN X0.here hx rfl (hb hby d4_19) rfl (ldYm X0 hx hZ e0 B1 (by decide) (hb hby d4_20) (XS.icmpYes X0.here hx rfl (pc0 := 21) (pc' := 26) rfl (hb hby d4_21) rfl (XT.ii_eq_t (by decide)) (by decide) (by decide) (XT.iincV X0.here hx rfl (1 : Int32) (hb hby d4_26) (by decide) rfl (l' := #[.val (.ref a), .val (.ref b), .val (.int (2 : Int32))]) rfl (XS.goto X0.here hx rfl (pc0 := 29) (pc' := 9) rfl (hb hby d4_29) (by decide) (by decide) (XS.iloadN X0.here hx rfl (hb hby d4_9) rfl (XS.aloadN X0.here hx rfl (hb hby d4_10) rfl rfl (aLenm X0 hx hZ e0 B0 (hb hby d4_11) k)))))))))))) ?_
  refine Goes.on (T' := T0) (g' := (mkF m 11 #[.val (.ref a), .val (.ref b), .val (.int (3 : Int32))] [(.ref a), (.int (3 : Int32))])) (fun _ k => XS.icmpNo X0.here hx rfl (hb hby d4_12) rfl (XT.ii_ge_f (by decide)) (XS.aloadN X0.here hx rfl (hb hby d4_15) rfl rfl (XS.iloadN X0.here hx rfl (hb hby d4_16) rfl (ldYm X0 hx hZ e0 B0 (by decide) (hb hby d4_17) (XS.aloadN X0.here hx rfl (hb hby d4_18) rfl rfl (XS.iloadN X0.here hx rfl (hb hby d4_19) rfl (ldYm X0 hx hZ e0 B1 (by decide) (hb hby d4_20) (XS.icmpYes X0.here hx rfl (pc0 := 21) (pc' := 26) rfl (hb hby d4_21) rfl (XT.ii_eq_t (by decide)) (by decide) (by decide) (XT.iincV X0.here hx rfl (1 : Int32) (hb hby d4_26) (by decide) rfl (l' := #[.val (.ref a), .val (.ref b), .val (.int (3 : Int32))]) rfl (XS.goto X0.here hx rfl (pc0 := 29) (pc' := 9) rfl (hb hby d4_29) (by decide) (by decide) (XS.iloadN X0.here hx rfl (hb hby d4_9) rfl (XS.aloadN X0.here hx rfl (hb hby d4_10) rfl rfl k)))))))))))) ?_
  refine Goes.on (T' := T0) (g' := (mkF m 10 #[.val (.ref a), .val (.ref b), .val (.int (4 : Int32))] [(.int (4 : Int32))])) (fun _ k => aLenm X0 hx hZ e0 B0 (hb hby d4_11) (XS.icmpNo X0.here hx rfl (hb hby d4_12) rfl (XT.ii_ge_f (by decide)) (XS.aloadN X0.here hx rfl (hb hby d4_15) rfl rfl (XS.iloadN X0.here hx rfl (hb hby d4_16) rfl (ldYm X0 hx hZ e0 B0 (by decide) (hb hby d4_17) (XS.aloadN X0.here hx rfl (hb hby d4_18) rfl rfl (XS.iloadN X0.here hx rfl (hb hby d4_19) rfl (ldYm X0 hx hZ e0 B1 (by decide) (hb hby d4_20) (XS.icmpYes X0.here hx rfl (pc0 := 21) (pc' := 26) rfl (hb hby d4_21) rfl (XT.ii_eq_t (by decide)) (by decide) (by decide) (XT.iincV X0.here hx rfl (1 : Int32) (hb hby d4_26) (by decide) rfl (l' := #[.val (.ref a), .val (.ref b), .val (.int (4 : Int32))]) rfl (XS.goto X0.here hx rfl (pc0 := 29) (pc' := 9) rfl (hb hby d4_29) (by decide) (by decide) (XS.iloadN X0.here hx rfl (hb hby d4_9) rfl k)))))))))))) ?_
  refine Goes.on (T' := T0) (g' := (mkF m 33 #[.val (.ref a), .val (.ref b), .val (.int (4 : Int32))] [(.int (1 : Int32))])) (fun _ k => XS.aloadN X0.here hx rfl (hb hby d4_10) rfl rfl (aLenm X0 hx hZ e0 B0 (hb hby d4_11) (XS.icmpYes X0.here hx rfl (pc0 := 12) (pc' := 32) rfl (hb hby d4_12) rfl (XT.ii_ge_t (by decide)) (by decide) (by decide) (XS.iconst X0.here hx rfl (hb hby d4_32) k)))) ?_
  exact Goes.retB X0 hx hlk hret (Or.inr rfl) (hb hby d4_33) (by decide) (by decide) ⟨rfl, N0, e0⟩
theorem d3_0 : decode jdk_42_method_66_code 0 = .ok (.aload_n 0, 1) := by decide +kernel
theorem d3_1 : decode jdk_42_method_66_code 1 = .ok (.aload_n 1, 1) := by decide +kernel
theorem d3_2 : decode jdk_42_method_66_code 2 = .ok (.if_acmp .ne 5, 3) := by decide +kernel
theorem d3_5 : decode jdk_42_method_66_code 5 = .ok (.iconst 1, 1) := by decide +kernel
theorem d3_6 : decode jdk_42_method_66_code 6 = .ok (.ireturn, 1) := by decide +kernel
theorem d3_7 : decode jdk_42_method_66_code 7 = .ok (.aload_n 1, 1) := by decide +kernel
theorem d3_8 : decode jdk_42_method_66_code 8 = .ok (.instanceof 10, 3) := by decide +kernel
theorem d3_11 : decode jdk_42_method_66_code 11 = .ok (.ifCond .eq 43, 3) := by decide +kernel
theorem d3_14 : decode jdk_42_method_66_code 14 = .ok (.aload_n 1, 1) := by decide +kernel
theorem d3_15 : decode jdk_42_method_66_code 15 = .ok (.checkcast 10, 3) := by decide +kernel
theorem d3_18 : decode jdk_42_method_66_code 18 = .ok (.astore_n 2, 1) := by decide +kernel
theorem d3_19 : decode jdk_42_method_66_code 19 = .ok (.getstatic 38, 3) := by decide +kernel
theorem d3_22 : decode jdk_42_method_66_code 22 = .ok (.ifCond .eq 14, 3) := by decide +kernel
theorem d3_25 : decode jdk_42_method_66_code 25 = .ok (.aload_n 0, 1) := by decide +kernel
theorem d3_26 : decode jdk_42_method_66_code 26 = .ok (.getfield 15, 3) := by decide +kernel
theorem d3_29 : decode jdk_42_method_66_code 29 = .ok (.aload_n 2, 1) := by decide +kernel
theorem d3_30 : decode jdk_42_method_66_code 30 = .ok (.getfield 15, 3) := by decide +kernel
theorem d3_33 : decode jdk_42_method_66_code 33 = .ok (.if_icmp .ne 21, 3) := by decide +kernel
theorem d3_36 : decode jdk_42_method_66_code 36 = .ok (.aload_n 0, 1) := by decide +kernel
theorem d3_37 : decode jdk_42_method_66_code 37 = .ok (.getfield 9, 3) := by decide +kernel
theorem d3_40 : decode jdk_42_method_66_code 40 = .ok (.aload_n 2, 1) := by decide +kernel
theorem d3_41 : decode jdk_42_method_66_code 41 = .ok (.getfield 9, 3) := by decide +kernel
theorem pd_0 : parseMethodDescriptor "([B[B)Z" = some ⟨[(.array .byte), (.array .byte)], some .boolean⟩ := by decide +kernel
theorem d3_44 : decode jdk_42_method_66_code 44 = .ok (.invokestatic 541, 3) := by decide +kernel
theorem d3_47 : decode jdk_42_method_66_code 47 = .ok (.ifCond .eq 7, 3) := by decide +kernel
theorem d3_50 : decode jdk_42_method_66_code 50 = .ok (.iconst 1, 1) := by decide +kernel
theorem d3_51 : decode jdk_42_method_66_code 51 = .ok (.goto 4, 3) := by decide +kernel
theorem d3_55 : decode jdk_42_method_66_code 55 = .ok (.ireturn, 1) := by decide +kernel
theorem pn_1 : plainName "java/lang/String" = true := by first | (simp [plainName, overriddenIn]; done) | decide +kernel
set_option maxRecDepth 65536 in
set_option maxHeartbeats 40000000 in
theorem rmEq_none_none (l : Launch) (Z : State) (a0 : Array Value) (hw : ∀ d ∈ tables_1, d.before a0 Z = true) (a b : Addr) (h0 : Heap) (n0 : Nat) (Z0 : n0 ≤ h0.size) (O0 : Old Z n0 h0) (cs : Int32) (SC : Sta Z Z.heap "java/lang/String" "COMPACT_STRINGS" "Z" (.int cs)) (hcs : ¬ cs = (0 : Int32)) (ya yb : Addr) (ka kb : ClassId) (PA : Str Z h0 a ya ka (Int32.ofNat 4) [Value.int 110, Value.int 111, Value.int 110, Value.int 101]) (PB : Str Z h0 b yb kb (Int32.ofNat 4) [Value.int 110, Value.int 111, Value.int 110, Value.int 101]) :
    Pays l Z (⟨"java/lang/String", "equals", "(Ljava/lang/Object;)Z"⟩ : MethodName) jdk_42_method_66_code 3 (some .boolean) [] ({ frames := 1, cells := 0, slots := 0, locals := 14 } : Room) #[(.ref a), (.ref b)] h0 (fun v h L => v = some (.int (1 : Int32)) ∧ Fr n0 L ∧ h = h0) := by
  refine Pays.walk (plainFor_of_name pn_1) (fun m => ef_0 m a b ) ?_
  intro p e s m below meth c T0 X0 hx hby hml hown hnm hZ e0 hret hlk
  have N0 := Fr.nil n0
  refine Goes.on (T' := T0) (g' := (mkF m 2 #[.val (.ref a), .val (.ref b), .unset] [(.ref b), (.ref a)])) (fun _ k => XS.aloadN X0.here hx rfl (hb hby d3_0) rfl rfl (XS.aloadN X0.here hx rfl (hb hby d3_1) rfl rfl k)) ?_
  by_cases hc1 : ((.ref a) : Value) = (.ref b)
  · refine Goes.on (T' := T0) (g' := (mkF m 6 #[.val (.ref a), .val (.ref b), .unset] [(.int (1 : Int32))])) (fun _ k => XT.acmpNo X0.here hx rfl (hb hby d3_2) rfl rfl rfl (XT.aa_ne_f hc1) (XS.iconst X0.here hx rfl (hb hby d3_5) k)) ?_
    exact Goes.retB X0 hx hlk hret (Or.inr rfl) (hb hby d3_6) (by decide) (by decide) ⟨rfl, N0, e0⟩
  · refine Goes.on (T' := T0) (g' := (mkF m 8 #[.val (.ref a), .val (.ref b), .unset] [(.ref b)])) (fun _ k => XT.acmpYes X0.here hx rfl (pc0 := 2) (pc' := 7) rfl (hb hby d3_2) rfl rfl rfl (XT.aa_ne_t hc1) (by decide) (by decide) (XS.aloadN X0.here hx rfl (hb hby d3_7) rfl rfl k)) ?_
    obtain ⟨T2, X2, e2, st2⟩ := instY X0 hx hZ hown (own_w hw 25 rfl) e0 (Ins.self PB.1) (g := (mkF m 8 #[.val (.ref a), .val (.ref b), .unset] [(.ref b)])) rfl rfl (hb hby d3_8)
    refine Goes.on (T' := T2) (g' := (mkF m 15 #[.val (.ref a), .val (.ref b), .unset] [(.ref b)])) (fun _ k => st2 _ (XS.ifNo X2.here hx rfl (hb hby d3_11) rfl (XT.i0_eq_f (by decide)) (XS.aloadN X2.here hx rfl (hb hby d3_14) rfl rfl k))) ?_
    obtain ⟨T3, X3, e3, st3⟩ := castY X2 hx hZ hown (own_w hw 25 rfl) e2 (Ins.self PB.1) (g := (mkF m 15 #[.val (.ref a), .val (.ref b), .unset] [(.ref b)])) rfl rfl (hb hby d3_15)
    refine Goes.on (T' := T3) (g' := (mkF m 19 #[.val (.ref a), .val (.ref b), .val (.ref b)] [])) (fun _ k => st3 _ (XS.astoreN X3.here hx rfl (hb hby d3_18) rfl rfl (l' := #[.val (.ref a), .val (.ref b), .val (.ref b)]) rfl k)) ?_
    obtain ⟨T4, X4, e4, st4⟩ := getS (host := "") X3 hx hZ hown (own_w hw 27 rfl) Via.refl e3 (Sta.ext O0.2 SC) (g := (mkF m 19 #[.val (.ref a), .val (.ref b), .val (.ref b)] [])) rfl (hb hby d3_19)
    refine Goes.on (T' := T4) (g' := (mkF m 26 #[.val (.ref a), .val (.ref b), .val (.ref b)] [(.ref a)])) (fun _ k => st4 _ (XS.ifNo X4.here hx rfl (hb hby d3_22) rfl (XT.i0_eq_f hcs) (XS.aloadN X4.here hx rfl (hb hby d3_25) rfl rfl k))) ?_
    obtain ⟨T5, X5, e5, st5⟩ := getF X4 hx hZ hown (host := "") (Or.inl (own_w hw 28 rfl)) Via.refl e4 PA.2.1 (g := (mkF m 26 #[.val (.ref a), .val (.ref b), .val (.ref b)] [(.ref a)])) rfl rfl (hb hby d3_26)
    refine Goes.on (T' := T5) (g' := (mkF m 30 #[.val (.ref a), .val (.ref b), .val (.ref b)] [(.ref b), (.int (0 : Int32))])) (fun _ k => st5 _ (XS.aloadN X5.here hx rfl (hb hby d3_29) rfl rfl k)) ?_
    obtain ⟨T6, X6, e6, st6⟩ := getF X5 hx hZ hown (host := "") (Or.inl (own_w hw 28 rfl)) Via.refl e5 PB.2.1 (g := (mkF m 30 #[.val (.ref a), .val (.ref b), .val (.ref b)] [(.ref b), (.int (0 : Int32))])) rfl rfl (hb hby d3_30)
    refine Goes.on (T' := T6) (g' := (mkF m 37 #[.val (.ref a), .val (.ref b), .val (.ref b)] [(.ref a)])) (fun _ k => st6 _ (XS.icmpNo X6.here hx rfl (hb hby d3_33) rfl (XT.ii_ne_f (by decide)) (XS.aloadN X6.here hx rfl (hb hby d3_36) rfl rfl k))) ?_
    obtain ⟨T7, X7, e7, st7⟩ := getF X6 hx hZ hown (host := "") (Or.inl (own_w hw 29 rfl)) Via.refl e6 PA.2.2.1 (g := (mkF m 37 #[.val (.ref a), .val (.ref b), .val (.ref b)] [(.ref a)])) rfl rfl (hb hby d3_37)
    refine Goes.on (T' := T7) (g' := (mkF m 41 #[.val (.ref a), .val (.ref b), .val (.ref b)] [(.ref b), (.ref ya)])) (fun _ k => st7 _ (XS.aloadN X7.here hx rfl (hb hby d3_40) rfl rfl k)) ?_
    obtain ⟨T8, X8, e8, st8⟩ := getF X7 hx hZ hown (host := "") (Or.inl (own_w hw 29 rfl)) Via.refl e7 PB.2.2.1 (g := (mkF m 41 #[.val (.ref a), .val (.ref b), .val (.ref b)] [(.ref b), (.ref ya)])) rfl rfl (hb hby d3_41)
    refine Goes.on (T' := T8) (g' := (mkF m 44 #[.val (.ref a), .val (.ref b), .val (.ref b)] [(.ref yb), (.ref ya)])) (fun _ k => st8 _ k) ?_
    refine Goes.callS X8 hx hZ 0 hown (own_w hw 30 rfl) (own_w hw 31 rfl) (own_w hw 32 rfl) (own_w hw 33 rfl) (by decide) e8 (rmLe_none_none l Z a0 hw ya yb h0 n0 Z0 (Arv.arf (f := (fun i => ([110, 111, 110, 101] : List Int32).getD i 0)) (con := Value.int) PA.2.2.2 (by decide) (by decide)) (Arv.arf (f := (fun i => ([110, 111, 110, 101] : List Int32).getD i 0)) (con := Value.int) PB.2.2.2 (by decide) (by decide))) (by decide) (by decide) (by decide) (by decide) rfl (by rw [hml]; rfl) (argsL := [(.ref ya), (.ref yb)]) (rest := []) rfl (lenOf pd_0 rfl) rfl (by show 2 * 0 + _ ≤ _; exact Nat.le_of_eq rfl) (hb hby d3_44) ?_
    intro v9 T9 L9 X9 hQ9
    obtain ⟨rfl, N9q, e9⟩ := hQ9
    have N9 := Fr.app N0 N9q
    show Goes p e below _ T9 (mkF m 47 #[.val (.ref a), .val (.ref b), .val (.ref b)] [(.int (1 : Int32))])
    refine Goes.on (T' := T9) (g' := (mkF m 55 #[.val (.ref a), .val (.ref b), .val (.ref b)] [(.int (1 : Int32))])) (fun _ k => XS.ifNo X9.here hx rfl (hb hby d3_47) rfl (XT.i0_eq_f (by decide)) (XS.iconst X9.here hx rfl (hb hby d3_50) (XS.goto X9.here hx rfl (pc0 := 51) (pc' := 55) rfl (hb hby d3_51) (by decide) (by decide) k))) ?_
    exact Goes.retB X9 hx hlk hret (Or.inr rfl) (hb hby d3_55) (by decide) (by decide) ⟨rfl, N9, e9⟩
set_option maxRecDepth 65536 in
set_option maxHeartbeats 40000000 in
theorem rmLe_bid_bid (l : Launch) (Z : State) (a0 : Array Value) (hw : ∀ d ∈ tables_1, d.before a0 Z = true) (a b : Addr) (h0 : Heap) (n0 : Nat) (Z0 : n0 ≤ h0.size) (B0 : Arf Z h0 a .byte Value.int 3 (fun i => ([98, 105, 100] : List Int32).getD i 0)) (B1 : Arf Z h0 b .byte Value.int 3 (fun i => ([98, 105, 100] : List Int32).getD i 0)) :
    Pays l Z (⟨"java/lang/StringLatin1", "equals", "([B[B)Z"⟩ : MethodName) jdk_43_method_13_code 3 (some .boolean) [] ({ frames := 0, cells := 0, slots := 0, locals := 0 } : Room) #[(.ref a), (.ref b)] h0 (fun v h L => v = some (.int (1 : Int32)) ∧ Fr n0 L ∧ h = h0) := by
  refine Pays.walk (plainFor_of_name pn_0) (fun m => ef_0 m a b ) ?_
  intro p e s m below meth c T0 X0 hx hby hml hown hnm hZ e0 hret hlk
  have N0 := Fr.nil n0
  refine Goes.on (T' := T0) (g' := (mkF m 16 #[.val (.ref a), .val (.ref b), .val (.int (0 : Int32))] [(.ref a)])) (fun _ k => XS.aloadN X0.here hx rfl (hb hby d4_0) rfl rfl (aLenm X0 hx hZ e0 B0 (hb hby d4_1) (XS.aloadN X0.here hx rfl (hb hby d4_2) rfl rfl (aLenm X0 hx hZ e0 B1 (hb hby d4_3) (XS.icmpNo X0.here hx rfl (hb hby d4_4) rfl (XT.ii_ne_f (by decide)) (XS.iconst X0.here hx rfl (hb hby d4_7) (XS.istoreN X0.here hx rfl (hb hby d4_8) rfl (l' := #[.val (.ref a), .val (.ref b), .val (.int (0 : Int32))]) rfl (XS.iloadN X0.here hx rfl (hb hby d4_9) rfl (XS.aloadN X0.here hx rfl (hb hby d4_10) rfl rfl (aLenm X0 hx hZ e0 B0 (hb hby d4_11) (XS.icmpNo X0.here hx rfl (hb hby d4_12) rfl (XT.ii_ge_f (by decide)) (XS.aloadN X0.here hx rfl (hb hby d4_15) rfl rfl k)))))))))))) ?_
  refine Goes.on (T' := T0) (g' := (mkF m 15 #[.val (.ref a), .val (.ref b), .val (.int (1 : Int32))] [])) (fun _ k => XS.iloadN X0.here hx rfl (hb hby d4_16) rfl (ldYm X0 hx hZ e0 B0 (by decide) (hb hby d4_17) (XS.aloadN X0.here hx rfl (hb hby d4_18) rfl rfl (XS.iloadN X0.here hx rfl (hb hby d4_19) rfl (ldYm X0 hx hZ e0 B1 (by decide) (hb hby d4_20) (XS.icmpYes X0.here hx rfl (pc0 := 21) (pc' := 26) rfl (hb hby d4_21) rfl (XT.ii_eq_t (by decide)) (by decide) (by decide) (XT.iincV X0.here hx rfl (1 : Int32) (hb hby d4_26) (by decide) rfl (l' := #[.val (.ref a), .val (.ref b), .val (.int (1 : Int32))]) rfl (XS.goto X0.here hx rfl (pc0 := 29) (pc' := 9) rfl (hb hby d4_29) (by decide) (by decide) (XS.iloadN X0.here hx rfl (hb hby d4_9) rfl (XS.aloadN X0.here hx rfl (hb hby d4_10) rfl rfl (aLenm X0 hx hZ e0 B0 (hb hby d4_11) (XS.icmpNo X0.here hx rfl (hb hby d4_12) rfl (XT.ii_ge_f (by decide)) k)))))))))))) ?_
  refine Goes.on (T' := T0) (g' := (mkF m 12 #[.val (.ref a), .val (.ref b), .val (.int (2 : Int32))] [(.int (3 : Int32)), (.int (2 : Int32))])) (fun _ k => XS.aloadN X0.here hx rfl (hb hby d4_15) rfl rfl (XS.iloadN X0.here hx rfl (hb hby d4_16) rfl (ldYm X0 hx hZ e0 B0 (by decide) (hb hby d4_17) (XS.aloadN X0.here hx rfl (hb hby d4_18) rfl rfl (XS.iloadN X0.here hx rfl (hb hby d4_19) rfl (ldYm X0 hx hZ e0 B1 (by decide) (hb hby d4_20) (XS.icmpYes X0.here hx rfl (pc0 := 21) (pc' := 26) rfl (hb hby d4_21) rfl (XT.ii_eq_t (by decide)) (by decide) (by decide) (XT.iincV X0.here hx rfl (1 : Int32) (hb hby d4_26) (by decide) rfl (l' := #[.val (.ref a), .val (.ref b), .val (.int (2 : Int32))]) rfl (XS.goto X0.here hx rfl (pc0 := 29) (pc' := 9) rfl (hb hby d4_29) (by decide) (by decide) (XS.iloadN X0.here hx rfl (hb hby d4_9) rfl (XS.aloadN X0.here hx rfl (hb hby d4_10) rfl rfl (aLenm X0 hx hZ e0 B0 (hb hby d4_11) k)))))))))))) ?_
  refine Goes.on (T' := T0) (g' := (mkF m 11 #[.val (.ref a), .val (.ref b), .val (.int (3 : Int32))] [(.ref a), (.int (3 : Int32))])) (fun _ k => XS.icmpNo X0.here hx rfl (hb hby d4_12) rfl (XT.ii_ge_f (by decide)) (XS.aloadN X0.here hx rfl (hb hby d4_15) rfl rfl (XS.iloadN X0.here hx rfl (hb hby d4_16) rfl (ldYm X0 hx hZ e0 B0 (by decide) (hb hby d4_17) (XS.aloadN X0.here hx rfl (hb hby d4_18) rfl rfl (XS.iloadN X0.here hx rfl (hb hby d4_19) rfl (ldYm X0 hx hZ e0 B1 (by decide) (hb hby d4_20) (XS.icmpYes X0.here hx rfl (pc0 := 21) (pc' := 26) rfl (hb hby d4_21) rfl (XT.ii_eq_t (by decide)) (by decide) (by decide) (XT.iincV X0.here hx rfl (1 : Int32) (hb hby d4_26) (by decide) rfl (l' := #[.val (.ref a), .val (.ref b), .val (.int (3 : Int32))]) rfl (XS.goto X0.here hx rfl (pc0 := 29) (pc' := 9) rfl (hb hby d4_29) (by decide) (by decide) (XS.iloadN X0.here hx rfl (hb hby d4_9) rfl (XS.aloadN X0.here hx rfl (hb hby d4_10) rfl rfl k)))))))))))) ?_
  refine Goes.on (T' := T0) (g' := (mkF m 33 #[.val (.ref a), .val (.ref b), .val (.int (3 : Int32))] [(.int (1 : Int32))])) (fun _ k => aLenm X0 hx hZ e0 B0 (hb hby d4_11) (XS.icmpYes X0.here hx rfl (pc0 := 12) (pc' := 32) rfl (hb hby d4_12) rfl (XT.ii_ge_t (by decide)) (by decide) (by decide) (XS.iconst X0.here hx rfl (hb hby d4_32) k))) ?_
  exact Goes.retB X0 hx hlk hret (Or.inr rfl) (hb hby d4_33) (by decide) (by decide) ⟨rfl, N0, e0⟩
set_option maxRecDepth 65536 in
set_option maxHeartbeats 40000000 in
theorem rmEq_bid_bid (l : Launch) (Z : State) (a0 : Array Value) (hw : ∀ d ∈ tables_1, d.before a0 Z = true) (a b : Addr) (h0 : Heap) (n0 : Nat) (Z0 : n0 ≤ h0.size) (O0 : Old Z n0 h0) (cs : Int32) (SC : Sta Z Z.heap "java/lang/String" "COMPACT_STRINGS" "Z" (.int cs)) (hcs : ¬ cs = (0 : Int32)) (ya yb : Addr) (ka kb : ClassId) (PA : Str Z h0 a ya ka (Int32.ofNat 3) [Value.int 98, Value.int 105, Value.int 100]) (PB : Str Z h0 b yb kb (Int32.ofNat 3) [Value.int 98, Value.int 105, Value.int 100]) :
    Pays l Z (⟨"java/lang/String", "equals", "(Ljava/lang/Object;)Z"⟩ : MethodName) jdk_42_method_66_code 3 (some .boolean) [] ({ frames := 1, cells := 0, slots := 0, locals := 14 } : Room) #[(.ref a), (.ref b)] h0 (fun v h L => v = some (.int (1 : Int32)) ∧ Fr n0 L ∧ h = h0) := by
  refine Pays.walk (plainFor_of_name pn_1) (fun m => ef_0 m a b ) ?_
  intro p e s m below meth c T0 X0 hx hby hml hown hnm hZ e0 hret hlk
  have N0 := Fr.nil n0
  refine Goes.on (T' := T0) (g' := (mkF m 2 #[.val (.ref a), .val (.ref b), .unset] [(.ref b), (.ref a)])) (fun _ k => XS.aloadN X0.here hx rfl (hb hby d3_0) rfl rfl (XS.aloadN X0.here hx rfl (hb hby d3_1) rfl rfl k)) ?_
  by_cases hc1 : ((.ref a) : Value) = (.ref b)
  · refine Goes.on (T' := T0) (g' := (mkF m 6 #[.val (.ref a), .val (.ref b), .unset] [(.int (1 : Int32))])) (fun _ k => XT.acmpNo X0.here hx rfl (hb hby d3_2) rfl rfl rfl (XT.aa_ne_f hc1) (XS.iconst X0.here hx rfl (hb hby d3_5) k)) ?_
    exact Goes.retB X0 hx hlk hret (Or.inr rfl) (hb hby d3_6) (by decide) (by decide) ⟨rfl, N0, e0⟩
  · refine Goes.on (T' := T0) (g' := (mkF m 8 #[.val (.ref a), .val (.ref b), .unset] [(.ref b)])) (fun _ k => XT.acmpYes X0.here hx rfl (pc0 := 2) (pc' := 7) rfl (hb hby d3_2) rfl rfl rfl (XT.aa_ne_t hc1) (by decide) (by decide) (XS.aloadN X0.here hx rfl (hb hby d3_7) rfl rfl k)) ?_
    obtain ⟨T2, X2, e2, st2⟩ := instY X0 hx hZ hown (own_w hw 25 rfl) e0 (Ins.self PB.1) (g := (mkF m 8 #[.val (.ref a), .val (.ref b), .unset] [(.ref b)])) rfl rfl (hb hby d3_8)
    refine Goes.on (T' := T2) (g' := (mkF m 15 #[.val (.ref a), .val (.ref b), .unset] [(.ref b)])) (fun _ k => st2 _ (XS.ifNo X2.here hx rfl (hb hby d3_11) rfl (XT.i0_eq_f (by decide)) (XS.aloadN X2.here hx rfl (hb hby d3_14) rfl rfl k))) ?_
    obtain ⟨T3, X3, e3, st3⟩ := castY X2 hx hZ hown (own_w hw 25 rfl) e2 (Ins.self PB.1) (g := (mkF m 15 #[.val (.ref a), .val (.ref b), .unset] [(.ref b)])) rfl rfl (hb hby d3_15)
    refine Goes.on (T' := T3) (g' := (mkF m 19 #[.val (.ref a), .val (.ref b), .val (.ref b)] [])) (fun _ k => st3 _ (XS.astoreN X3.here hx rfl (hb hby d3_18) rfl rfl (l' := #[.val (.ref a), .val (.ref b), .val (.ref b)]) rfl k)) ?_
    obtain ⟨T4, X4, e4, st4⟩ := getS (host := "") X3 hx hZ hown (own_w hw 27 rfl) Via.refl e3 (Sta.ext O0.2 SC) (g := (mkF m 19 #[.val (.ref a), .val (.ref b), .val (.ref b)] [])) rfl (hb hby d3_19)
    refine Goes.on (T' := T4) (g' := (mkF m 26 #[.val (.ref a), .val (.ref b), .val (.ref b)] [(.ref a)])) (fun _ k => st4 _ (XS.ifNo X4.here hx rfl (hb hby d3_22) rfl (XT.i0_eq_f hcs) (XS.aloadN X4.here hx rfl (hb hby d3_25) rfl rfl k))) ?_
    obtain ⟨T5, X5, e5, st5⟩ := getF X4 hx hZ hown (host := "") (Or.inl (own_w hw 28 rfl)) Via.refl e4 PA.2.1 (g := (mkF m 26 #[.val (.ref a), .val (.ref b), .val (.ref b)] [(.ref a)])) rfl rfl (hb hby d3_26)
    refine Goes.on (T' := T5) (g' := (mkF m 30 #[.val (.ref a), .val (.ref b), .val (.ref b)] [(.ref b), (.int (0 : Int32))])) (fun _ k => st5 _ (XS.aloadN X5.here hx rfl (hb hby d3_29) rfl rfl k)) ?_
    obtain ⟨T6, X6, e6, st6⟩ := getF X5 hx hZ hown (host := "") (Or.inl (own_w hw 28 rfl)) Via.refl e5 PB.2.1 (g := (mkF m 30 #[.val (.ref a), .val (.ref b), .val (.ref b)] [(.ref b), (.int (0 : Int32))])) rfl rfl (hb hby d3_30)
    refine Goes.on (T' := T6) (g' := (mkF m 37 #[.val (.ref a), .val (.ref b), .val (.ref b)] [(.ref a)])) (fun _ k => st6 _ (XS.icmpNo X6.here hx rfl (hb hby d3_33) rfl (XT.ii_ne_f (by decide)) (XS.aloadN X6.here hx rfl (hb hby d3_36) rfl rfl k))) ?_
    obtain ⟨T7, X7, e7, st7⟩ := getF X6 hx hZ hown (host := "") (Or.inl (own_w hw 29 rfl)) Via.refl e6 PA.2.2.1 (g := (mkF m 37 #[.val (.ref a), .val (.ref b), .val (.ref b)] [(.ref a)])) rfl rfl (hb hby d3_37)
    refine Goes.on (T' := T7) (g' := (mkF m 41 #[.val (.ref a), .val (.ref b), .val (.ref b)] [(.ref b), (.ref ya)])) (fun _ k => st7 _ (XS.aloadN X7.here hx rfl (hb hby d3_40) rfl rfl k)) ?_
    obtain ⟨T8, X8, e8, st8⟩ := getF X7 hx hZ hown (host := "") (Or.inl (own_w hw 29 rfl)) Via.refl e7 PB.2.2.1 (g := (mkF m 41 #[.val (.ref a), .val (.ref b), .val (.ref b)] [(.ref b), (.ref ya)])) rfl rfl (hb hby d3_41)
    refine Goes.on (T' := T8) (g' := (mkF m 44 #[.val (.ref a), .val (.ref b), .val (.ref b)] [(.ref yb), (.ref ya)])) (fun _ k => st8 _ k) ?_
    refine Goes.callS X8 hx hZ 0 hown (own_w hw 30 rfl) (own_w hw 31 rfl) (own_w hw 32 rfl) (own_w hw 33 rfl) (by decide) e8 (rmLe_bid_bid l Z a0 hw ya yb h0 n0 Z0 (Arv.arf (f := (fun i => ([98, 105, 100] : List Int32).getD i 0)) (con := Value.int) PA.2.2.2 (by decide) (by decide)) (Arv.arf (f := (fun i => ([98, 105, 100] : List Int32).getD i 0)) (con := Value.int) PB.2.2.2 (by decide) (by decide))) (by decide) (by decide) (by decide) (by decide) rfl (by rw [hml]; rfl) (argsL := [(.ref ya), (.ref yb)]) (rest := []) rfl (lenOf pd_0 rfl) rfl (by show 2 * 0 + _ ≤ _; exact Nat.le_of_eq rfl) (hb hby d3_44) ?_
    intro v9 T9 L9 X9 hQ9
    obtain ⟨rfl, N9q, e9⟩ := hQ9
    have N9 := Fr.app N0 N9q
    show Goes p e below _ T9 (mkF m 47 #[.val (.ref a), .val (.ref b), .val (.ref b)] [(.int (1 : Int32))])
    refine Goes.on (T' := T9) (g' := (mkF m 55 #[.val (.ref a), .val (.ref b), .val (.ref b)] [(.int (1 : Int32))])) (fun _ k => XS.ifNo X9.here hx rfl (hb hby d3_47) rfl (XT.i0_eq_f (by decide)) (XS.iconst X9.here hx rfl (hb hby d3_50) (XS.goto X9.here hx rfl (pc0 := 51) (pc' := 55) rfl (hb hby d3_51) (by decide) (by decide) k))) ?_
    exact Goes.retB X9 hx hlk hret (Or.inr rfl) (hb hby d3_55) (by decide) (by decide) ⟨rfl, N9, e9⟩
set_option maxRecDepth 65536 in
set_option maxHeartbeats 40000000 in
theorem rmLe_ask_ask (l : Launch) (Z : State) (a0 : Array Value) (hw : ∀ d ∈ tables_1, d.before a0 Z = true) (a b : Addr) (h0 : Heap) (n0 : Nat) (Z0 : n0 ≤ h0.size) (B0 : Arf Z h0 a .byte Value.int 3 (fun i => ([97, 115, 107] : List Int32).getD i 0)) (B1 : Arf Z h0 b .byte Value.int 3 (fun i => ([97, 115, 107] : List Int32).getD i 0)) :
    Pays l Z (⟨"java/lang/StringLatin1", "equals", "([B[B)Z"⟩ : MethodName) jdk_43_method_13_code 3 (some .boolean) [] ({ frames := 0, cells := 0, slots := 0, locals := 0 } : Room) #[(.ref a), (.ref b)] h0 (fun v h L => v = some (.int (1 : Int32)) ∧ Fr n0 L ∧ h = h0) := by
  refine Pays.walk (plainFor_of_name pn_0) (fun m => ef_0 m a b ) ?_
  intro p e s m below meth c T0 X0 hx hby hml hown hnm hZ e0 hret hlk
  have N0 := Fr.nil n0
  refine Goes.on (T' := T0) (g' := (mkF m 16 #[.val (.ref a), .val (.ref b), .val (.int (0 : Int32))] [(.ref a)])) (fun _ k => XS.aloadN X0.here hx rfl (hb hby d4_0) rfl rfl (aLenm X0 hx hZ e0 B0 (hb hby d4_1) (XS.aloadN X0.here hx rfl (hb hby d4_2) rfl rfl (aLenm X0 hx hZ e0 B1 (hb hby d4_3) (XS.icmpNo X0.here hx rfl (hb hby d4_4) rfl (XT.ii_ne_f (by decide)) (XS.iconst X0.here hx rfl (hb hby d4_7) (XS.istoreN X0.here hx rfl (hb hby d4_8) rfl (l' := #[.val (.ref a), .val (.ref b), .val (.int (0 : Int32))]) rfl (XS.iloadN X0.here hx rfl (hb hby d4_9) rfl (XS.aloadN X0.here hx rfl (hb hby d4_10) rfl rfl (aLenm X0 hx hZ e0 B0 (hb hby d4_11) (XS.icmpNo X0.here hx rfl (hb hby d4_12) rfl (XT.ii_ge_f (by decide)) (XS.aloadN X0.here hx rfl (hb hby d4_15) rfl rfl k)))))))))))) ?_
  refine Goes.on (T' := T0) (g' := (mkF m 15 #[.val (.ref a), .val (.ref b), .val (.int (1 : Int32))] [])) (fun _ k => XS.iloadN X0.here hx rfl (hb hby d4_16) rfl (ldYm X0 hx hZ e0 B0 (by decide) (hb hby d4_17) (XS.aloadN X0.here hx rfl (hb hby d4_18) rfl rfl (XS.iloadN X0.here hx rfl (hb hby d4_19) rfl (ldYm X0 hx hZ e0 B1 (by decide) (hb hby d4_20) (XS.icmpYes X0.here hx rfl (pc0 := 21) (pc' := 26) rfl (hb hby d4_21) rfl (XT.ii_eq_t (by decide)) (by decide) (by decide) (XT.iincV X0.here hx rfl (1 : Int32) (hb hby d4_26) (by decide) rfl (l' := #[.val (.ref a), .val (.ref b), .val (.int (1 : Int32))]) rfl (XS.goto X0.here hx rfl (pc0 := 29) (pc' := 9) rfl (hb hby d4_29) (by decide) (by decide) (XS.iloadN X0.here hx rfl (hb hby d4_9) rfl (XS.aloadN X0.here hx rfl (hb hby d4_10) rfl rfl (aLenm X0 hx hZ e0 B0 (hb hby d4_11) (XS.icmpNo X0.here hx rfl (hb hby d4_12) rfl (XT.ii_ge_f (by decide)) k)))))))))))) ?_
  refine Goes.on (T' := T0) (g' := (mkF m 12 #[.val (.ref a), .val (.ref b), .val (.int (2 : Int32))] [(.int (3 : Int32)), (.int (2 : Int32))])) (fun _ k => XS.aloadN X0.here hx rfl (hb hby d4_15) rfl rfl (XS.iloadN X0.here hx rfl (hb hby d4_16) rfl (ldYm X0 hx hZ e0 B0 (by decide) (hb hby d4_17) (XS.aloadN X0.here hx rfl (hb hby d4_18) rfl rfl (XS.iloadN X0.here hx rfl (hb hby d4_19) rfl (ldYm X0 hx hZ e0 B1 (by decide) (hb hby d4_20) (XS.icmpYes X0.here hx rfl (pc0 := 21) (pc' := 26) rfl (hb hby d4_21) rfl (XT.ii_eq_t (by decide)) (by decide) (by decide) (XT.iincV X0.here hx rfl (1 : Int32) (hb hby d4_26) (by decide) rfl (l' := #[.val (.ref a), .val (.ref b), .val (.int (2 : Int32))]) rfl (XS.goto X0.here hx rfl (pc0 := 29) (pc' := 9) rfl (hb hby d4_29) (by decide) (by decide) (XS.iloadN X0.here hx rfl (hb hby d4_9) rfl (XS.aloadN X0.here hx rfl (hb hby d4_10) rfl rfl (aLenm X0 hx hZ e0 B0 (hb hby d4_11) k)))))))))))) ?_
  refine Goes.on (T' := T0) (g' := (mkF m 11 #[.val (.ref a), .val (.ref b), .val (.int (3 : Int32))] [(.ref a), (.int (3 : Int32))])) (fun _ k => XS.icmpNo X0.here hx rfl (hb hby d4_12) rfl (XT.ii_ge_f (by decide)) (XS.aloadN X0.here hx rfl (hb hby d4_15) rfl rfl (XS.iloadN X0.here hx rfl (hb hby d4_16) rfl (ldYm X0 hx hZ e0 B0 (by decide) (hb hby d4_17) (XS.aloadN X0.here hx rfl (hb hby d4_18) rfl rfl (XS.iloadN X0.here hx rfl (hb hby d4_19) rfl (ldYm X0 hx hZ e0 B1 (by decide) (hb hby d4_20) (XS.icmpYes X0.here hx rfl (pc0 := 21) (pc' := 26) rfl (hb hby d4_21) rfl (XT.ii_eq_t (by decide)) (by decide) (by decide) (XT.iincV X0.here hx rfl (1 : Int32) (hb hby d4_26) (by decide) rfl (l' := #[.val (.ref a), .val (.ref b), .val (.int (3 : Int32))]) rfl (XS.goto X0.here hx rfl (pc0 := 29) (pc' := 9) rfl (hb hby d4_29) (by decide) (by decide) (XS.iloadN X0.here hx rfl (hb hby d4_9) rfl (XS.aloadN X0.here hx rfl (hb hby d4_10) rfl rfl k)))))))))))) ?_
  refine Goes.on (T' := T0) (g' := (mkF m 33 #[.val (.ref a), .val (.ref b), .val (.int (3 : Int32))] [(.int (1 : Int32))])) (fun _ k => aLenm X0 hx hZ e0 B0 (hb hby d4_11) (XS.icmpYes X0.here hx rfl (pc0 := 12) (pc' := 32) rfl (hb hby d4_12) rfl (XT.ii_ge_t (by decide)) (by decide) (by decide) (XS.iconst X0.here hx rfl (hb hby d4_32) k))) ?_
  exact Goes.retB X0 hx hlk hret (Or.inr rfl) (hb hby d4_33) (by decide) (by decide) ⟨rfl, N0, e0⟩
set_option maxRecDepth 65536 in
set_option maxHeartbeats 40000000 in
theorem rmEq_ask_ask (l : Launch) (Z : State) (a0 : Array Value) (hw : ∀ d ∈ tables_1, d.before a0 Z = true) (a b : Addr) (h0 : Heap) (n0 : Nat) (Z0 : n0 ≤ h0.size) (O0 : Old Z n0 h0) (cs : Int32) (SC : Sta Z Z.heap "java/lang/String" "COMPACT_STRINGS" "Z" (.int cs)) (hcs : ¬ cs = (0 : Int32)) (ya yb : Addr) (ka kb : ClassId) (PA : Str Z h0 a ya ka (Int32.ofNat 3) [Value.int 97, Value.int 115, Value.int 107]) (PB : Str Z h0 b yb kb (Int32.ofNat 3) [Value.int 97, Value.int 115, Value.int 107]) :
    Pays l Z (⟨"java/lang/String", "equals", "(Ljava/lang/Object;)Z"⟩ : MethodName) jdk_42_method_66_code 3 (some .boolean) [] ({ frames := 1, cells := 0, slots := 0, locals := 14 } : Room) #[(.ref a), (.ref b)] h0 (fun v h L => v = some (.int (1 : Int32)) ∧ Fr n0 L ∧ h = h0) := by
  refine Pays.walk (plainFor_of_name pn_1) (fun m => ef_0 m a b ) ?_
  intro p e s m below meth c T0 X0 hx hby hml hown hnm hZ e0 hret hlk
  have N0 := Fr.nil n0
  refine Goes.on (T' := T0) (g' := (mkF m 2 #[.val (.ref a), .val (.ref b), .unset] [(.ref b), (.ref a)])) (fun _ k => XS.aloadN X0.here hx rfl (hb hby d3_0) rfl rfl (XS.aloadN X0.here hx rfl (hb hby d3_1) rfl rfl k)) ?_
  by_cases hc1 : ((.ref a) : Value) = (.ref b)
  · refine Goes.on (T' := T0) (g' := (mkF m 6 #[.val (.ref a), .val (.ref b), .unset] [(.int (1 : Int32))])) (fun _ k => XT.acmpNo X0.here hx rfl (hb hby d3_2) rfl rfl rfl (XT.aa_ne_f hc1) (XS.iconst X0.here hx rfl (hb hby d3_5) k)) ?_
    exact Goes.retB X0 hx hlk hret (Or.inr rfl) (hb hby d3_6) (by decide) (by decide) ⟨rfl, N0, e0⟩
  · refine Goes.on (T' := T0) (g' := (mkF m 8 #[.val (.ref a), .val (.ref b), .unset] [(.ref b)])) (fun _ k => XT.acmpYes X0.here hx rfl (pc0 := 2) (pc' := 7) rfl (hb hby d3_2) rfl rfl rfl (XT.aa_ne_t hc1) (by decide) (by decide) (XS.aloadN X0.here hx rfl (hb hby d3_7) rfl rfl k)) ?_
    obtain ⟨T2, X2, e2, st2⟩ := instY X0 hx hZ hown (own_w hw 25 rfl) e0 (Ins.self PB.1) (g := (mkF m 8 #[.val (.ref a), .val (.ref b), .unset] [(.ref b)])) rfl rfl (hb hby d3_8)
    refine Goes.on (T' := T2) (g' := (mkF m 15 #[.val (.ref a), .val (.ref b), .unset] [(.ref b)])) (fun _ k => st2 _ (XS.ifNo X2.here hx rfl (hb hby d3_11) rfl (XT.i0_eq_f (by decide)) (XS.aloadN X2.here hx rfl (hb hby d3_14) rfl rfl k))) ?_
    obtain ⟨T3, X3, e3, st3⟩ := castY X2 hx hZ hown (own_w hw 25 rfl) e2 (Ins.self PB.1) (g := (mkF m 15 #[.val (.ref a), .val (.ref b), .unset] [(.ref b)])) rfl rfl (hb hby d3_15)
    refine Goes.on (T' := T3) (g' := (mkF m 19 #[.val (.ref a), .val (.ref b), .val (.ref b)] [])) (fun _ k => st3 _ (XS.astoreN X3.here hx rfl (hb hby d3_18) rfl rfl (l' := #[.val (.ref a), .val (.ref b), .val (.ref b)]) rfl k)) ?_
    obtain ⟨T4, X4, e4, st4⟩ := getS (host := "") X3 hx hZ hown (own_w hw 27 rfl) Via.refl e3 (Sta.ext O0.2 SC) (g := (mkF m 19 #[.val (.ref a), .val (.ref b), .val (.ref b)] [])) rfl (hb hby d3_19)
    refine Goes.on (T' := T4) (g' := (mkF m 26 #[.val (.ref a), .val (.ref b), .val (.ref b)] [(.ref a)])) (fun _ k => st4 _ (XS.ifNo X4.here hx rfl (hb hby d3_22) rfl (XT.i0_eq_f hcs) (XS.aloadN X4.here hx rfl (hb hby d3_25) rfl rfl k))) ?_
    obtain ⟨T5, X5, e5, st5⟩ := getF X4 hx hZ hown (host := "") (Or.inl (own_w hw 28 rfl)) Via.refl e4 PA.2.1 (g := (mkF m 26 #[.val (.ref a), .val (.ref b), .val (.ref b)] [(.ref a)])) rfl rfl (hb hby d3_26)
    refine Goes.on (T' := T5) (g' := (mkF m 30 #[.val (.ref a), .val (.ref b), .val (.ref b)] [(.ref b), (.int (0 : Int32))])) (fun _ k => st5 _ (XS.aloadN X5.here hx rfl (hb hby d3_29) rfl rfl k)) ?_
    obtain ⟨T6, X6, e6, st6⟩ := getF X5 hx hZ hown (host := "") (Or.inl (own_w hw 28 rfl)) Via.refl e5 PB.2.1 (g := (mkF m 30 #[.val (.ref a), .val (.ref b), .val (.ref b)] [(.ref b), (.int (0 : Int32))])) rfl rfl (hb hby d3_30)
    refine Goes.on (T' := T6) (g' := (mkF m 37 #[.val (.ref a), .val (.ref b), .val (.ref b)] [(.ref a)])) (fun _ k => st6 _ (XS.icmpNo X6.here hx rfl (hb hby d3_33) rfl (XT.ii_ne_f (by decide)) (XS.aloadN X6.here hx rfl (hb hby d3_36) rfl rfl k))) ?_
    obtain ⟨T7, X7, e7, st7⟩ := getF X6 hx hZ hown (host := "") (Or.inl (own_w hw 29 rfl)) Via.refl e6 PA.2.2.1 (g := (mkF m 37 #[.val (.ref a), .val (.ref b), .val (.ref b)] [(.ref a)])) rfl rfl (hb hby d3_37)
    refine Goes.on (T' := T7) (g' := (mkF m 41 #[.val (.ref a), .val (.ref b), .val (.ref b)] [(.ref b), (.ref ya)])) (fun _ k => st7 _ (XS.aloadN X7.here hx rfl (hb hby d3_40) rfl rfl k)) ?_
    obtain ⟨T8, X8, e8, st8⟩ := getF X7 hx hZ hown (host := "") (Or.inl (own_w hw 29 rfl)) Via.refl e7 PB.2.2.1 (g := (mkF m 41 #[.val (.ref a), .val (.ref b), .val (.ref b)] [(.ref b), (.ref ya)])) rfl rfl (hb hby d3_41)
    refine Goes.on (T' := T8) (g' := (mkF m 44 #[.val (.ref a), .val (.ref b), .val (.ref b)] [(.ref yb), (.ref ya)])) (fun _ k => st8 _ k) ?_
    refine Goes.callS X8 hx hZ 0 hown (own_w hw 30 rfl) (own_w hw 31 rfl) (own_w hw 32 rfl) (own_w hw 33 rfl) (by decide) e8 (rmLe_ask_ask l Z a0 hw ya yb h0 n0 Z0 (Arv.arf (f := (fun i => ([97, 115, 107] : List Int32).getD i 0)) (con := Value.int) PA.2.2.2 (by decide) (by decide)) (Arv.arf (f := (fun i => ([97, 115, 107] : List Int32).getD i 0)) (con := Value.int) PB.2.2.2 (by decide) (by decide))) (by decide) (by decide) (by decide) (by decide) rfl (by rw [hml]; rfl) (argsL := [(.ref ya), (.ref yb)]) (rest := []) rfl (lenOf pd_0 rfl) rfl (by show 2 * 0 + _ ≤ _; exact Nat.le_of_eq rfl) (hb hby d3_44) ?_
    intro v9 T9 L9 X9 hQ9
    obtain ⟨rfl, N9q, e9⟩ := hQ9
    have N9 := Fr.app N0 N9q
    show Goes p e below _ T9 (mkF m 47 #[.val (.ref a), .val (.ref b), .val (.ref b)] [(.int (1 : Int32))])
    refine Goes.on (T' := T9) (g' := (mkF m 55 #[.val (.ref a), .val (.ref b), .val (.ref b)] [(.int (1 : Int32))])) (fun _ k => XS.ifNo X9.here hx rfl (hb hby d3_47) rfl (XT.i0_eq_f (by decide)) (XS.iconst X9.here hx rfl (hb hby d3_50) (XS.goto X9.here hx rfl (pc0 := 51) (pc' := 55) rfl (hb hby d3_51) (by decide) (by decide) k))) ?_
    exact Goes.retB X9 hx hlk hret (Or.inr rfl) (hb hby d3_55) (by decide) (by decide) ⟨rfl, N9, e9⟩
theorem d4_24 : decode jdk_43_method_13_code 24 = .ok (.iconst 0, 1) := by decide +kernel
theorem d4_25 : decode jdk_43_method_13_code 25 = .ok (.ireturn, 1) := by decide +kernel
set_option maxRecDepth 65536 in
set_option maxHeartbeats 40000000 in
theorem rmLe_bid_ask (l : Launch) (Z : State) (a0 : Array Value) (hw : ∀ d ∈ tables_1, d.before a0 Z = true) (a b : Addr) (h0 : Heap) (n0 : Nat) (Z0 : n0 ≤ h0.size) (B0 : Arf Z h0 a .byte Value.int 3 (fun i => ([98, 105, 100] : List Int32).getD i 0)) (B1 : Arf Z h0 b .byte Value.int 3 (fun i => ([97, 115, 107] : List Int32).getD i 0)) :
    Pays l Z (⟨"java/lang/StringLatin1", "equals", "([B[B)Z"⟩ : MethodName) jdk_43_method_13_code 3 (some .boolean) [] ({ frames := 0, cells := 0, slots := 0, locals := 0 } : Room) #[(.ref a), (.ref b)] h0 (fun v h L => v = some (.int (0 : Int32)) ∧ Fr n0 L ∧ h = h0) := by
  refine Pays.walk (plainFor_of_name pn_0) (fun m => ef_0 m a b ) ?_
  intro p e s m below meth c T0 X0 hx hby hml hown hnm hZ e0 hret hlk
  have N0 := Fr.nil n0
  refine Goes.on (T' := T0) (g' := (mkF m 16 #[.val (.ref a), .val (.ref b), .val (.int (0 : Int32))] [(.ref a)])) (fun _ k => XS.aloadN X0.here hx rfl (hb hby d4_0) rfl rfl (aLenm X0 hx hZ e0 B0 (hb hby d4_1) (XS.aloadN X0.here hx rfl (hb hby d4_2) rfl rfl (aLenm X0 hx hZ e0 B1 (hb hby d4_3) (XS.icmpNo X0.here hx rfl (hb hby d4_4) rfl (XT.ii_ne_f (by decide)) (XS.iconst X0.here hx rfl (hb hby d4_7) (XS.istoreN X0.here hx rfl (hb hby d4_8) rfl (l' := #[.val (.ref a), .val (.ref b), .val (.int (0 : Int32))]) rfl (XS.iloadN X0.here hx rfl (hb hby d4_9) rfl (XS.aloadN X0.here hx rfl (hb hby d4_10) rfl rfl (aLenm X0 hx hZ e0 B0 (hb hby d4_11) (XS.icmpNo X0.here hx rfl (hb hby d4_12) rfl (XT.ii_ge_f (by decide)) (XS.aloadN X0.here hx rfl (hb hby d4_15) rfl rfl k)))))))))))) ?_
  refine Goes.on (T' := T0) (g' := (mkF m 25 #[.val (.ref a), .val (.ref b), .val (.int (0 : Int32))] [(.int (0 : Int32))])) (fun _ k => XS.iloadN X0.here hx rfl (hb hby d4_16) rfl (ldYm X0 hx hZ e0 B0 (by decide) (hb hby d4_17) (XS.aloadN X0.here hx rfl (hb hby d4_18) rfl rfl (XS.iloadN X0.here hx rfl (hb hby d4_19) rfl (ldYm X0 hx hZ e0 B1 (by decide) (hb hby d4_20) (XS.icmpNo X0.here hx rfl (hb hby d4_21) rfl (XT.ii_eq_f (by decide)) (XS.iconst X0.here hx rfl (hb hby d4_24) k))))))) ?_
  exact Goes.retB X0 hx hlk hret (Or.inl rfl) (hb hby d4_25) (by decide) (by decide) ⟨rfl, N0, e0⟩
theorem d3_54 : decode jdk_42_method_66_code 54 = .ok (.iconst 0, 1) := by decide +kernel
set_option maxRecDepth 65536 in
set_option maxHeartbeats 40000000 in
theorem rmEq_bid_ask (l : Launch) (Z : State) (a0 : Array Value) (hw : ∀ d ∈ tables_1, d.before a0 Z = true) (a b : Addr) (h0 : Heap) (n0 : Nat) (Z0 : n0 ≤ h0.size) (O0 : Old Z n0 h0) (cs : Int32) (SC : Sta Z Z.heap "java/lang/String" "COMPACT_STRINGS" "Z" (.int cs)) (hcs : ¬ cs = (0 : Int32)) (ya yb : Addr) (ka kb : ClassId) (PA : Str Z h0 a ya ka (Int32.ofNat 3) [Value.int 98, Value.int 105, Value.int 100]) (PB : Str Z h0 b yb kb (Int32.ofNat 3) [Value.int 97, Value.int 115, Value.int 107]) :
    Pays l Z (⟨"java/lang/String", "equals", "(Ljava/lang/Object;)Z"⟩ : MethodName) jdk_42_method_66_code 3 (some .boolean) [] ({ frames := 1, cells := 0, slots := 0, locals := 14 } : Room) #[(.ref a), (.ref b)] h0 (fun v h L => v = some (.int (0 : Int32)) ∧ Fr n0 L ∧ h = h0) := by
  refine Pays.walk (plainFor_of_name pn_1) (fun m => ef_0 m a b ) ?_
  intro p e s m below meth c T0 X0 hx hby hml hown hnm hZ e0 hret hlk
  have N0 := Fr.nil n0
  refine Goes.on (T' := T0) (g' := (mkF m 8 #[.val (.ref a), .val (.ref b), .unset] [(.ref b)])) (fun _ k => XS.aloadN X0.here hx rfl (hb hby d3_0) rfl rfl (XS.aloadN X0.here hx rfl (hb hby d3_1) rfl rfl (XT.acmpYes X0.here hx rfl (pc0 := 2) (pc' := 7) rfl (hb hby d3_2) rfl rfl rfl (XT.aa_ne_t (fun q => (Str.ne PA PB (by decide) (by decide)) (Value.ref.inj q))) (by decide) (by decide) (XS.aloadN X0.here hx rfl (hb hby d3_7) rfl rfl k)))) ?_
  obtain ⟨T1, X1, e1, st1⟩ := instY X0 hx hZ hown (own_w hw 25 rfl) e0 (Ins.self PB.1) (g := (mkF m 8 #[.val (.ref a), .val (.ref b), .unset] [(.ref b)])) rfl rfl (hb hby d3_8)
  refine Goes.on (T' := T1) (g' := (mkF m 15 #[.val (.ref a), .val (.ref b), .unset] [(.ref b)])) (fun _ k => st1 _ (XS.ifNo X1.here hx rfl (hb hby d3_11) rfl (XT.i0_eq_f (by decide)) (XS.aloadN X1.here hx rfl (hb hby d3_14) rfl rfl k))) ?_
  obtain ⟨T2, X2, e2, st2⟩ := castY X1 hx hZ hown (own_w hw 25 rfl) e1 (Ins.self PB.1) (g := (mkF m 15 #[.val (.ref a), .val (.ref b), .unset] [(.ref b)])) rfl rfl (hb hby d3_15)
  refine Goes.on (T' := T2) (g' := (mkF m 19 #[.val (.ref a), .val (.ref b), .val (.ref b)] [])) (fun _ k => st2 _ (XS.astoreN X2.here hx rfl (hb hby d3_18) rfl rfl (l' := #[.val (.ref a), .val (.ref b), .val (.ref b)]) rfl k)) ?_
  obtain ⟨T3, X3, e3, st3⟩ := getS (host := "") X2 hx hZ hown (own_w hw 27 rfl) Via.refl e2 (Sta.ext O0.2 SC) (g := (mkF m 19 #[.val (.ref a), .val (.ref b), .val (.ref b)] [])) rfl (hb hby d3_19)
  refine Goes.on (T' := T3) (g' := (mkF m 26 #[.val (.ref a), .val (.ref b), .val (.ref b)] [(.ref a)])) (fun _ k => st3 _ (XS.ifNo X3.here hx rfl (hb hby d3_22) rfl (XT.i0_eq_f hcs) (XS.aloadN X3.here hx rfl (hb hby d3_25) rfl rfl k))) ?_
  obtain ⟨T4, X4, e4, st4⟩ := getF X3 hx hZ hown (host := "") (Or.inl (own_w hw 28 rfl)) Via.refl e3 PA.2.1 (g := (mkF m 26 #[.val (.ref a), .val (.ref b), .val (.ref b)] [(.ref a)])) rfl rfl (hb hby d3_26)
  refine Goes.on (T' := T4) (g' := (mkF m 30 #[.val (.ref a), .val (.ref b), .val (.ref b)] [(.ref b), (.int (0 : Int32))])) (fun _ k => st4 _ (XS.aloadN X4.here hx rfl (hb hby d3_29) rfl rfl k)) ?_
  obtain ⟨T5, X5, e5, st5⟩ := getF X4 hx hZ hown (host := "") (Or.inl (own_w hw 28 rfl)) Via.refl e4 PB.2.1 (g := (mkF m 30 #[.val (.ref a), .val (.ref b), .val (.ref b)] [(.ref b), (.int (0 : Int32))])) rfl rfl (hb hby d3_30)
  refine Goes.on (T' := T5) (g' := (mkF m 37 #[.val (.ref a), .val (.ref b), .val (.ref b)] [(.ref a)])) (fun _ k => st5 _ (XS.icmpNo X5.here hx rfl (hb hby d3_33) rfl (XT.ii_ne_f (by decide)) (XS.aloadN X5.here hx rfl (hb hby d3_36) rfl rfl k))) ?_
  obtain ⟨T6, X6, e6, st6⟩ := getF X5 hx hZ hown (host := "") (Or.inl (own_w hw 29 rfl)) Via.refl e5 PA.2.2.1 (g := (mkF m 37 #[.val (.ref a), .val (.ref b), .val (.ref b)] [(.ref a)])) rfl rfl (hb hby d3_37)
  refine Goes.on (T' := T6) (g' := (mkF m 41 #[.val (.ref a), .val (.ref b), .val (.ref b)] [(.ref b), (.ref ya)])) (fun _ k => st6 _ (XS.aloadN X6.here hx rfl (hb hby d3_40) rfl rfl k)) ?_
  obtain ⟨T7, X7, e7, st7⟩ := getF X6 hx hZ hown (host := "") (Or.inl (own_w hw 29 rfl)) Via.refl e6 PB.2.2.1 (g := (mkF m 41 #[.val (.ref a), .val (.ref b), .val (.ref b)] [(.ref b), (.ref ya)])) rfl rfl (hb hby d3_41)
  refine Goes.on (T' := T7) (g' := (mkF m 44 #[.val (.ref a), .val (.ref b), .val (.ref b)] [(.ref yb), (.ref ya)])) (fun _ k => st7 _ k) ?_
  refine Goes.callS X7 hx hZ 0 hown (own_w hw 30 rfl) (own_w hw 31 rfl) (own_w hw 32 rfl) (own_w hw 33 rfl) (by decide) e7 (rmLe_bid_ask l Z a0 hw ya yb h0 n0 Z0 (Arv.arf (f := (fun i => ([98, 105, 100] : List Int32).getD i 0)) (con := Value.int) PA.2.2.2 (by decide) (by decide)) (Arv.arf (f := (fun i => ([97, 115, 107] : List Int32).getD i 0)) (con := Value.int) PB.2.2.2 (by decide) (by decide))) (by decide) (by decide) (by decide) (by decide) rfl (by rw [hml]; rfl) (argsL := [(.ref ya), (.ref yb)]) (rest := []) rfl (lenOf pd_0 rfl) rfl (by show 2 * 0 + _ ≤ _; exact Nat.le_of_eq rfl) (hb hby d3_44) ?_
  intro v8 T8 L8 X8 hQ8
  obtain ⟨rfl, N8q, e8⟩ := hQ8
  have N8 := Fr.app N0 N8q
  show Goes p e below _ T8 (mkF m 47 #[.val (.ref a), .val (.ref b), .val (.ref b)] [(.int (0 : Int32))])
  refine Goes.on (T' := T8) (g' := (mkF m 55 #[.val (.ref a), .val (.ref b), .val (.ref b)] [(.int (0 : Int32))])) (fun _ k => XS.ifYes X8.here hx rfl (pc0 := 47) (pc' := 54) rfl (hb hby d3_47) rfl (XT.i0_eq_t (by decide)) (by decide) (by decide) (XS.iconst X8.here hx rfl (hb hby d3_54) k)) ?_
  exact Goes.retB X8 hx hlk hret (Or.inl rfl) (hb hby d3_55) (by decide) (by decide) ⟨rfl, N8, e8⟩
set_option maxRecDepth 65536 in
set_option maxHeartbeats 40000000 in
theorem rmLe_ask_bid (l : Launch) (Z : State) (a0 : Array Value) (hw : ∀ d ∈ tables_1, d.before a0 Z = true) (a b : Addr) (h0 : Heap) (n0 : Nat) (Z0 : n0 ≤ h0.size) (B0 : Arf Z h0 a .byte Value.int 3 (fun i => ([97, 115, 107] : List Int32).getD i 0)) (B1 : Arf Z h0 b .byte Value.int 3 (fun i => ([98, 105, 100] : List Int32).getD i 0)) :
    Pays l Z (⟨"java/lang/StringLatin1", "equals", "([B[B)Z"⟩ : MethodName) jdk_43_method_13_code 3 (some .boolean) [] ({ frames := 0, cells := 0, slots := 0, locals := 0 } : Room) #[(.ref a), (.ref b)] h0 (fun v h L => v = some (.int (0 : Int32)) ∧ Fr n0 L ∧ h = h0) := by
  refine Pays.walk (plainFor_of_name pn_0) (fun m => ef_0 m a b ) ?_
  intro p e s m below meth c T0 X0 hx hby hml hown hnm hZ e0 hret hlk
  have N0 := Fr.nil n0
  refine Goes.on (T' := T0) (g' := (mkF m 16 #[.val (.ref a), .val (.ref b), .val (.int (0 : Int32))] [(.ref a)])) (fun _ k => XS.aloadN X0.here hx rfl (hb hby d4_0) rfl rfl (aLenm X0 hx hZ e0 B0 (hb hby d4_1) (XS.aloadN X0.here hx rfl (hb hby d4_2) rfl rfl (aLenm X0 hx hZ e0 B1 (hb hby d4_3) (XS.icmpNo X0.here hx rfl (hb hby d4_4) rfl (XT.ii_ne_f (by decide)) (XS.iconst X0.here hx rfl (hb hby d4_7) (XS.istoreN X0.here hx rfl (hb hby d4_8) rfl (l' := #[.val (.ref a), .val (.ref b), .val (.int (0 : Int32))]) rfl (XS.iloadN X0.here hx rfl (hb hby d4_9) rfl (XS.aloadN X0.here hx rfl (hb hby d4_10) rfl rfl (aLenm X0 hx hZ e0 B0 (hb hby d4_11) (XS.icmpNo X0.here hx rfl (hb hby d4_12) rfl (XT.ii_ge_f (by decide)) (XS.aloadN X0.here hx rfl (hb hby d4_15) rfl rfl k)))))))))))) ?_
  refine Goes.on (T' := T0) (g' := (mkF m 25 #[.val (.ref a), .val (.ref b), .val (.int (0 : Int32))] [(.int (0 : Int32))])) (fun _ k => XS.iloadN X0.here hx rfl (hb hby d4_16) rfl (ldYm X0 hx hZ e0 B0 (by decide) (hb hby d4_17) (XS.aloadN X0.here hx rfl (hb hby d4_18) rfl rfl (XS.iloadN X0.here hx rfl (hb hby d4_19) rfl (ldYm X0 hx hZ e0 B1 (by decide) (hb hby d4_20) (XS.icmpNo X0.here hx rfl (hb hby d4_21) rfl (XT.ii_eq_f (by decide)) (XS.iconst X0.here hx rfl (hb hby d4_24) k))))))) ?_
  exact Goes.retB X0 hx hlk hret (Or.inl rfl) (hb hby d4_25) (by decide) (by decide) ⟨rfl, N0, e0⟩
set_option maxRecDepth 65536 in
set_option maxHeartbeats 40000000 in
theorem rmEq_ask_bid (l : Launch) (Z : State) (a0 : Array Value) (hw : ∀ d ∈ tables_1, d.before a0 Z = true) (a b : Addr) (h0 : Heap) (n0 : Nat) (Z0 : n0 ≤ h0.size) (O0 : Old Z n0 h0) (cs : Int32) (SC : Sta Z Z.heap "java/lang/String" "COMPACT_STRINGS" "Z" (.int cs)) (hcs : ¬ cs = (0 : Int32)) (ya yb : Addr) (ka kb : ClassId) (PA : Str Z h0 a ya ka (Int32.ofNat 3) [Value.int 97, Value.int 115, Value.int 107]) (PB : Str Z h0 b yb kb (Int32.ofNat 3) [Value.int 98, Value.int 105, Value.int 100]) :
    Pays l Z (⟨"java/lang/String", "equals", "(Ljava/lang/Object;)Z"⟩ : MethodName) jdk_42_method_66_code 3 (some .boolean) [] ({ frames := 1, cells := 0, slots := 0, locals := 14 } : Room) #[(.ref a), (.ref b)] h0 (fun v h L => v = some (.int (0 : Int32)) ∧ Fr n0 L ∧ h = h0) := by
  refine Pays.walk (plainFor_of_name pn_1) (fun m => ef_0 m a b ) ?_
  intro p e s m below meth c T0 X0 hx hby hml hown hnm hZ e0 hret hlk
  have N0 := Fr.nil n0
  refine Goes.on (T' := T0) (g' := (mkF m 8 #[.val (.ref a), .val (.ref b), .unset] [(.ref b)])) (fun _ k => XS.aloadN X0.here hx rfl (hb hby d3_0) rfl rfl (XS.aloadN X0.here hx rfl (hb hby d3_1) rfl rfl (XT.acmpYes X0.here hx rfl (pc0 := 2) (pc' := 7) rfl (hb hby d3_2) rfl rfl rfl (XT.aa_ne_t (fun q => (Str.ne PA PB (by decide) (by decide)) (Value.ref.inj q))) (by decide) (by decide) (XS.aloadN X0.here hx rfl (hb hby d3_7) rfl rfl k)))) ?_
  obtain ⟨T1, X1, e1, st1⟩ := instY X0 hx hZ hown (own_w hw 25 rfl) e0 (Ins.self PB.1) (g := (mkF m 8 #[.val (.ref a), .val (.ref b), .unset] [(.ref b)])) rfl rfl (hb hby d3_8)
  refine Goes.on (T' := T1) (g' := (mkF m 15 #[.val (.ref a), .val (.ref b), .unset] [(.ref b)])) (fun _ k => st1 _ (XS.ifNo X1.here hx rfl (hb hby d3_11) rfl (XT.i0_eq_f (by decide)) (XS.aloadN X1.here hx rfl (hb hby d3_14) rfl rfl k))) ?_
  obtain ⟨T2, X2, e2, st2⟩ := castY X1 hx hZ hown (own_w hw 25 rfl) e1 (Ins.self PB.1) (g := (mkF m 15 #[.val (.ref a), .val (.ref b), .unset] [(.ref b)])) rfl rfl (hb hby d3_15)
  refine Goes.on (T' := T2) (g' := (mkF m 19 #[.val (.ref a), .val (.ref b), .val (.ref b)] [])) (fun _ k => st2 _ (XS.astoreN X2.here hx rfl (hb hby d3_18) rfl rfl (l' := #[.val (.ref a), .val (.ref b), .val (.ref b)]) rfl k)) ?_
  obtain ⟨T3, X3, e3, st3⟩ := getS (host := "") X2 hx hZ hown (own_w hw 27 rfl) Via.refl e2 (Sta.ext O0.2 SC) (g := (mkF m 19 #[.val (.ref a), .val (.ref b), .val (.ref b)] [])) rfl (hb hby d3_19)
  refine Goes.on (T' := T3) (g' := (mkF m 26 #[.val (.ref a), .val (.ref b), .val (.ref b)] [(.ref a)])) (fun _ k => st3 _ (XS.ifNo X3.here hx rfl (hb hby d3_22) rfl (XT.i0_eq_f hcs) (XS.aloadN X3.here hx rfl (hb hby d3_25) rfl rfl k))) ?_
  obtain ⟨T4, X4, e4, st4⟩ := getF X3 hx hZ hown (host := "") (Or.inl (own_w hw 28 rfl)) Via.refl e3 PA.2.1 (g := (mkF m 26 #[.val (.ref a), .val (.ref b), .val (.ref b)] [(.ref a)])) rfl rfl (hb hby d3_26)
  refine Goes.on (T' := T4) (g' := (mkF m 30 #[.val (.ref a), .val (.ref b), .val (.ref b)] [(.ref b), (.int (0 : Int32))])) (fun _ k => st4 _ (XS.aloadN X4.here hx rfl (hb hby d3_29) rfl rfl k)) ?_
  obtain ⟨T5, X5, e5, st5⟩ := getF X4 hx hZ hown (host := "") (Or.inl (own_w hw 28 rfl)) Via.refl e4 PB.2.1 (g := (mkF m 30 #[.val (.ref a), .val (.ref b), .val (.ref b)] [(.ref b), (.int (0 : Int32))])) rfl rfl (hb hby d3_30)
  refine Goes.on (T' := T5) (g' := (mkF m 37 #[.val (.ref a), .val (.ref b), .val (.ref b)] [(.ref a)])) (fun _ k => st5 _ (XS.icmpNo X5.here hx rfl (hb hby d3_33) rfl (XT.ii_ne_f (by decide)) (XS.aloadN X5.here hx rfl (hb hby d3_36) rfl rfl k))) ?_
  obtain ⟨T6, X6, e6, st6⟩ := getF X5 hx hZ hown (host := "") (Or.inl (own_w hw 29 rfl)) Via.refl e5 PA.2.2.1 (g := (mkF m 37 #[.val (.ref a), .val (.ref b), .val (.ref b)] [(.ref a)])) rfl rfl (hb hby d3_37)
  refine Goes.on (T' := T6) (g' := (mkF m 41 #[.val (.ref a), .val (.ref b), .val (.ref b)] [(.ref b), (.ref ya)])) (fun _ k => st6 _ (XS.aloadN X6.here hx rfl (hb hby d3_40) rfl rfl k)) ?_
  obtain ⟨T7, X7, e7, st7⟩ := getF X6 hx hZ hown (host := "") (Or.inl (own_w hw 29 rfl)) Via.refl e6 PB.2.2.1 (g := (mkF m 41 #[.val (.ref a), .val (.ref b), .val (.ref b)] [(.ref b), (.ref ya)])) rfl rfl (hb hby d3_41)
  refine Goes.on (T' := T7) (g' := (mkF m 44 #[.val (.ref a), .val (.ref b), .val (.ref b)] [(.ref yb), (.ref ya)])) (fun _ k => st7 _ k) ?_
  refine Goes.callS X7 hx hZ 0 hown (own_w hw 30 rfl) (own_w hw 31 rfl) (own_w hw 32 rfl) (own_w hw 33 rfl) (by decide) e7 (rmLe_ask_bid l Z a0 hw ya yb h0 n0 Z0 (Arv.arf (f := (fun i => ([97, 115, 107] : List Int32).getD i 0)) (con := Value.int) PA.2.2.2 (by decide) (by decide)) (Arv.arf (f := (fun i => ([98, 105, 100] : List Int32).getD i 0)) (con := Value.int) PB.2.2.2 (by decide) (by decide))) (by decide) (by decide) (by decide) (by decide) rfl (by rw [hml]; rfl) (argsL := [(.ref ya), (.ref yb)]) (rest := []) rfl (lenOf pd_0 rfl) rfl (by show 2 * 0 + _ ≤ _; exact Nat.le_of_eq rfl) (hb hby d3_44) ?_
  intro v8 T8 L8 X8 hQ8
  obtain ⟨rfl, N8q, e8⟩ := hQ8
  have N8 := Fr.app N0 N8q
  show Goes p e below _ T8 (mkF m 47 #[.val (.ref a), .val (.ref b), .val (.ref b)] [(.int (0 : Int32))])
  refine Goes.on (T' := T8) (g' := (mkF m 55 #[.val (.ref a), .val (.ref b), .val (.ref b)] [(.int (0 : Int32))])) (fun _ k => XS.ifYes X8.here hx rfl (pc0 := 47) (pc' := 54) rfl (hb hby d3_47) rfl (XT.i0_eq_t (by decide)) (by decide) (by decide) (XS.iconst X8.here hx rfl (hb hby d3_54) k)) ?_
  exact Goes.retB X8 hx hlk hret (Or.inl rfl) (hb hby d3_55) (by decide) (by decide) ⟨rfl, N8, e8⟩
theorem own_np {x : Int64} (h : (0 : Int64) < x) : ¬ x < (0 : Int64) ∧ ¬ x = (0 : Int64) := by
  simp only [Int64.lt_iff_toInt_lt, ← Int64.toInt_inj] at *
  omega
theorem own_nn {x : Int64} (h : x < (0 : Int64)) : ¬ (0 : Int64) < x ∧ ¬ x = (0 : Int64) := by
  simp only [Int64.lt_iff_toInt_lt, ← Int64.toInt_inj] at *
  omega
theorem own_nz {x : Int64} (h : x = (0 : Int64)) : ¬ (0 : Int64) < x ∧ ¬ x < (0 : Int64) := by subst h; decide
theorem own_tri {x : Int64} (h : ¬ x = (0 : Int64)) (h2 : ¬ (0 : Int64) < x) : x < (0 : Int64) := by
  simp only [Int64.lt_iff_toInt_lt, ← Int64.toInt_inj] at *
  omega
theorem own_negp {x : Int64} (h : (0 : Int64) < x) : (-x) < (0 : Int64) := by
  have a := c_lneg x
  have r := rng64 x
  have r' := rng64 (-x)
  have k : (0 : Int64).toInt = 0 := rfl
  simp only [Int64.lt_iff_toInt_lt, k] at *
  omega
theorem own_negn {x : Int64} (h : x < (0 : Int64)) (hm : ¬ x = (-9223372036854775808 : Int64)) : (0 : Int64) < (-x) := by
  have a := c_lneg x
  have r := rng64 x
  have r' := rng64 (-x)
  have k : (0 : Int64).toInt = 0 := rfl
  have k2 : (-9223372036854775808 : Int64).toInt = -9223372036854775808 := rfl
  simp only [Int64.lt_iff_toInt_lt, ← Int64.toInt_inj, k, k2] at *
  omega
theorem own_negz {x : Int64} (h : x = (0 : Int64)) : (-x) = (0 : Int64) := by subst h; decide
theorem d1_0 : decode prog_37_method_4_code 0 = .ok (.lload_n 0, 1) := by decide +kernel
theorem d1_1 : decode prog_37_method_4_code 1 = .ok (.lconst 0, 1) := by decide +kernel
theorem d1_2 : decode prog_37_method_4_code 2 = .ok (.lcmp, 1) := by decide +kernel
theorem d1_3 : decode prog_37_method_4_code 3 = .ok (.ifCond .le 8, 3) := by decide +kernel
theorem d1_11 : decode prog_37_method_4_code 11 = .ok (.lload_n 0, 1) := by decide +kernel
theorem d1_12 : decode prog_37_method_4_code 12 = .ok (.lconst 0, 1) := by decide +kernel
theorem d1_13 : decode prog_37_method_4_code 13 = .ok (.lcmp, 1) := by decide +kernel
theorem d1_14 : decode prog_37_method_4_code 14 = .ok (.ifCond .ge 8, 3) := by decide +kernel
theorem d1_22 : decode prog_37_method_4_code 22 = .ok (.ldc 60, 2) := by decide +kernel
theorem d1_24 : decode prog_37_method_4_code 24 = .ok (.areturn, 1) := by decide +kernel
theorem ef_1 (m : MethodId) (x0 : Int64) : entryFrame m #[(.long x0)] 2 = mkF m 0 #[.val (.long x0), .second] [] := by first | (simp [entryFrame, mkF, argsToLocals, Value.category]; done) | rfl
theorem pn_2 : plainName "com/example/uncross/uncross/io/AuctionSummary" = true := by first | (simp [plainName, overriddenIn]; done) | decide +kernel
set_option maxRecDepth 65536 in
set_option maxHeartbeats 40000000 in
theorem rmUz (l : Launch) (Z : State) (a0 : Array Value) (hw : ∀ d ∈ tables_1, d.before a0 Z = true) (x0 : Int64) (h0 : Heap) (n0 : Nat) (Z0 : n0 ≤ h0.size) (hEL : EW Z a0 consts_1) (hc : x0 = (0 : Int64)) :
    PaysW l Z consts_1 (⟨"com/example/uncross/uncross/io/AuctionSummary", "surplusSide", "(J)Ljava/lang/String;"⟩ : MethodName) prog_37_method_4_code 2 (some (.object "java/lang/String")) [] ({ frames := 0, cells := 2, slots := 20, locals := 0 } : Room) #[(.long x0)] h0 (fun v h L => ∃ r b k, v = some (.ref r) ∧ Fr n0 L ∧ Keep h0 h [] ∧ Str Z h r b k (Int32.ofNat 4) [Value.int 110, Value.int 111, Value.int 110, Value.int 101]) := by
  refine PaysW.walk (plainFor_of_name pn_2) (fun m => ef_1 m x0 ) ?_
  intro p e s m below meth c T0 X0 hx hby hml hown hnm hZ e0 hret hlk hS0 RR0
  have hk0 : 0 ≤ h0.size := Nat.zero_le _
  have S0 : h0.size ≤ h0.size := Nat.le_refl _
  have wS := own_wS hw
  have N0 := Fr.nil n0
  have K0 := Keep.refl h0 ([] : List Addr)
  refine Goes.on (T' := T0) (g' := (mkF m 22 #[.val (.long x0), .second] [])) (fun _ k => XS.lloadN X0.here hx rfl (hb hby d1_0) rfl (XS.lconst X0.here hx rfl (hb hby d1_1) (XT.lcmp X0.here hx rfl (hb hby d1_2) rfl (XS.ifYes X0.here hx rfl (pc0 := 3) (pc' := 11) rfl (hb hby d1_3) rfl (XT.ll_le_t (own_nz hc).1) (by decide) (by decide) (XS.lloadN X0.here hx rfl (hb hby d1_11) rfl (XS.lconst X0.here hx rfl (hb hby d1_12) (XT.lcmp X0.here hx rfl (hb hby d1_13) rfl (XS.ifYes X0.here hx rfl (pc0 := 14) (pc' := 22) rfl (hb hby d1_14) rfl (XT.ll_ge_t (own_nz hc).2) (by decide) (by decide) k)))))))) ?_
  obtain ⟨a1, T1, h1, k1, b1, kb1, X1, e1, E1, hS1, hk1, hZ1, hown1, A1, C1, V1, K1, lt1, lu1, R1, Lt1, sf1, st1⟩ := ldcCH X0 hx hZ hown (own_w hw 34 rfl) wS e0 hS0 hk0 hEL (List.mem_of_getElem? (i := 2) rfl) RR0.1 (vs := [Value.int 110, Value.int 111, Value.int 110, Value.int 101]) (z := Int32.ofNat 4) ⟨by decide, by decide⟩ (by decide) (by decide) (g := (mkF m 22 #[.val (.long x0), .second] [])) rfl (hb hby d1_22) (n := 16) (by decide) (by decide) (by decide) (by decide)
  have K5 := K0.ext E1
  have RR1 := RR0.trans R1
  have Q1 : Str Z h1 a1 b1 kb1 (Int32.ofNat 4) [Value.int 110, Value.int 111, Value.int 110, Value.int 101] := ⟨A1, C1, V1, K1⟩
  refine Goes.on (T' := T1) (g' := (mkF m 24 #[.val (.long x0), .second] [(.ref a1)])) (fun _ k => st1 _ k) ?_
  exact Goes.retAW X1 hS1 (by rw [e1]; exact hk1) hZ1 hEL (by rw [e1]; exact RR1) hx hlk hret rfl rfl (hb hby d1_24) (by decide) (by decide) (by rw [e1]; exact ⟨a1, b1, kb1, rfl, N0, K5, Q1⟩)
theorem d1_6 : decode prog_37_method_4_code 6 = .ok (.ldc 56, 2) := by decide +kernel
theorem d1_8 : decode prog_37_method_4_code 8 = .ok (.goto 16, 3) := by decide +kernel
set_option maxRecDepth 65536 in
set_option maxHeartbeats 40000000 in
theorem rmUp (l : Launch) (Z : State) (a0 : Array Value) (hw : ∀ d ∈ tables_1, d.before a0 Z = true) (x0 : Int64) (h0 : Heap) (n0 : Nat) (Z0 : n0 ≤ h0.size) (hEL : EW Z a0 consts_1) (hc : (0 : Int64) < x0) :
    PaysW l Z consts_1 (⟨"com/example/uncross/uncross/io/AuctionSummary", "surplusSide", "(J)Ljava/lang/String;"⟩ : MethodName) prog_37_method_4_code 2 (some (.object "java/lang/String")) [] ({ frames := 0, cells := 2, slots := 20, locals := 0 } : Room) #[(.long x0)] h0 (fun v h L => ∃ r b k, v = some (.ref r) ∧ Fr n0 L ∧ Keep h0 h [] ∧ Str Z h r b k (Int32.ofNat 3) [Value.int 98, Value.int 105, Value.int 100]) := by
  refine PaysW.walk (plainFor_of_name pn_2) (fun m => ef_1 m x0 ) ?_
  intro p e s m below meth c T0 X0 hx hby hml hown hnm hZ e0 hret hlk hS0 RR0
  have hk0 : 0 ≤ h0.size := Nat.zero_le _
  have S0 : h0.size ≤ h0.size := Nat.le_refl _
  have wS := own_wS hw
  have N0 := Fr.nil n0
  have K0 := Keep.refl h0 ([] : List Addr)
  refine Goes.on (T' := T0) (g' := (mkF m 6 #[.val (.long x0), .second] [])) (fun _ k => XS.lloadN X0.here hx rfl (hb hby d1_0) rfl (XS.lconst X0.here hx rfl (hb hby d1_1) (XT.lcmp X0.here hx rfl (hb hby d1_2) rfl (XS.ifNo X0.here hx rfl (hb hby d1_3) rfl (XT.ll_le_f hc) k)))) ?_
  obtain ⟨a1, T1, h1, k1, b1, kb1, X1, e1, E1, hS1, hk1, hZ1, hown1, A1, C1, V1, K1, lt1, lu1, R1, Lt1, sf1, st1⟩ := ldcCH X0 hx hZ hown (own_w hw 4 rfl) wS e0 hS0 hk0 hEL (List.mem_of_getElem? (i := 0) rfl) RR0.1 (vs := [Value.int 98, Value.int 105, Value.int 100]) (z := Int32.ofNat 3) ⟨by decide, by decide⟩ (by decide) (by decide) (g := (mkF m 6 #[.val (.long x0), .second] [])) rfl (hb hby d1_6) (n := 12) (by decide) (by decide) (by decide) (by decide)
  have K5 := K0.ext E1
  have RR1 := RR0.trans R1
  have Q1 : Str Z h1 a1 b1 kb1 (Int32.ofNat 3) [Value.int 98, Value.int 105, Value.int 100] := ⟨A1, C1, V1, K1⟩
  refine Goes.on (T' := T1) (g' := (mkF m 24 #[.val (.long x0), .second] [(.ref a1)])) (fun _ k => st1 _ (XS.goto X1.here hx rfl (pc0 := 8) (pc' := 24) rfl (hb hby d1_8) (by decide) (by decide) k)) ?_
  exact Goes.retAW X1 hS1 (by rw [e1]; exact hk1) hZ1 hEL (by rw [e1]; exact RR1) hx hlk hret rfl rfl (hb hby d1_24) (by decide) (by decide) (by rw [e1]; exact ⟨a1, b1, kb1, rfl, N0, K5, Q1⟩)
theorem d1_17 : decode prog_37_method_4_code 17 = .ok (.ldc 58, 2) := by decide +kernel
theorem d1_19 : decode prog_37_method_4_code 19 = .ok (.goto 5, 3) := by decide +kernel
set_option maxRecDepth 65536 in
set_option maxHeartbeats 40000000 in
theorem rmUn (l : Launch) (Z : State) (a0 : Array Value) (hw : ∀ d ∈ tables_1, d.before a0 Z = true) (x0 : Int64) (h0 : Heap) (n0 : Nat) (Z0 : n0 ≤ h0.size) (hEL : EW Z a0 consts_1) (hc : x0 < (0 : Int64)) :
    PaysW l Z consts_1 (⟨"com/example/uncross/uncross/io/AuctionSummary", "surplusSide", "(J)Ljava/lang/String;"⟩ : MethodName) prog_37_method_4_code 2 (some (.object "java/lang/String")) [] ({ frames := 0, cells := 2, slots := 20, locals := 0 } : Room) #[(.long x0)] h0 (fun v h L => ∃ r b k, v = some (.ref r) ∧ Fr n0 L ∧ Keep h0 h [] ∧ Str Z h r b k (Int32.ofNat 3) [Value.int 97, Value.int 115, Value.int 107]) := by
  refine PaysW.walk (plainFor_of_name pn_2) (fun m => ef_1 m x0 ) ?_
  intro p e s m below meth c T0 X0 hx hby hml hown hnm hZ e0 hret hlk hS0 RR0
  have hk0 : 0 ≤ h0.size := Nat.zero_le _
  have S0 : h0.size ≤ h0.size := Nat.le_refl _
  have wS := own_wS hw
  have N0 := Fr.nil n0
  have K0 := Keep.refl h0 ([] : List Addr)
  refine Goes.on (T' := T0) (g' := (mkF m 17 #[.val (.long x0), .second] [])) (fun _ k => XS.lloadN X0.here hx rfl (hb hby d1_0) rfl (XS.lconst X0.here hx rfl (hb hby d1_1) (XT.lcmp X0.here hx rfl (hb hby d1_2) rfl (XS.ifYes X0.here hx rfl (pc0 := 3) (pc' := 11) rfl (hb hby d1_3) rfl (XT.ll_le_t (own_nn hc).1) (by decide) (by decide) (XS.lloadN X0.here hx rfl (hb hby d1_11) rfl (XS.lconst X0.here hx rfl (hb hby d1_12) (XT.lcmp X0.here hx rfl (hb hby d1_13) rfl (XS.ifNo X0.here hx rfl (hb hby d1_14) rfl (XT.ll_ge_f hc) k)))))))) ?_
  obtain ⟨a1, T1, h1, k1, b1, kb1, X1, e1, E1, hS1, hk1, hZ1, hown1, A1, C1, V1, K1, lt1, lu1, R1, Lt1, sf1, st1⟩ := ldcCH X0 hx hZ hown (own_w hw 23 rfl) wS e0 hS0 hk0 hEL (List.mem_of_getElem? (i := 1) rfl) RR0.1 (vs := [Value.int 97, Value.int 115, Value.int 107]) (z := Int32.ofNat 3) ⟨by decide, by decide⟩ (by decide) (by decide) (g := (mkF m 17 #[.val (.long x0), .second] [])) rfl (hb hby d1_17) (n := 12) (by decide) (by decide) (by decide) (by decide)
  have K5 := K0.ext E1
  have RR1 := RR0.trans R1
  have Q1 : Str Z h1 a1 b1 kb1 (Int32.ofNat 3) [Value.int 97, Value.int 115, Value.int 107] := ⟨A1, C1, V1, K1⟩
  refine Goes.on (T' := T1) (g' := (mkF m 24 #[.val (.long x0), .second] [(.ref a1)])) (fun _ k => st1 _ (XS.goto X1.here hx rfl (pc0 := 19) (pc' := 24) rfl (hb hby d1_19) (by decide) (by decide) k)) ?_
  exact Goes.retAW X1 hS1 (by rw [e1]; exact hk1) hZ1 hEL (by rw [e1]; exact RR1) hx hlk hret rfl rfl (hb hby d1_24) (by decide) (by decide) (by rw [e1]; exact ⟨a1, b1, kb1, rfl, N0, K5, Q1⟩)
theorem d2_0 : decode method_2_code 0 = .ok (.lload_n 0, 1) := by decide +kernel
theorem d2_1 : decode method_2_code 1 = .ok (.lconst 0, 1) := by decide +kernel
theorem d2_2 : decode method_2_code 2 = .ok (.lcmp, 1) := by decide +kernel
theorem d2_3 : decode method_2_code 3 = .ok (.ifCond .ne 6, 3) := by decide +kernel
theorem d2_6 : decode method_2_code 6 = .ok (.ldc 7, 2) := by decide +kernel
theorem d2_8 : decode method_2_code 8 = .ok (.areturn, 1) := by decide +kernel
theorem pn_3 : plainName "com/example/uncross/uncross/io/AuctionSummarySurplusSidePinLaw" = true := by first | (simp [plainName, overriddenIn]; done) | decide +kernel
set_option maxRecDepth 65536 in
set_option maxHeartbeats 40000000 in
theorem rmXz (l : Launch) (Z : State) (a0 : Array Value) (hw : ∀ d ∈ tables_1, d.before a0 Z = true) (x0 : Int64) (h0 : Heap) (n0 : Nat) (Z0 : n0 ≤ h0.size) (hEL : EW Z a0 consts_1) (hc : x0 = (0 : Int64)) :
    PaysW l Z consts_1 (⟨"com/example/uncross/uncross/io/AuctionSummarySurplusSidePinLaw", "expected", "(J)Ljava/lang/String;"⟩ : MethodName) method_2_code 2 (some (.object "java/lang/String")) [] ({ frames := 0, cells := 2, slots := 20, locals := 0 } : Room) #[(.long x0)] h0 (fun v h L => ∃ r b k, v = some (.ref r) ∧ Fr n0 L ∧ Keep h0 h [] ∧ Str Z h r b k (Int32.ofNat 4) [Value.int 110, Value.int 111, Value.int 110, Value.int 101]) := by
  refine PaysW.walk (plainFor_of_name pn_3) (fun m => ef_1 m x0 ) ?_
  intro p e s m below meth c T0 X0 hx hby hml hown hnm hZ e0 hret hlk hS0 RR0
  have hk0 : 0 ≤ h0.size := Nat.zero_le _
  have S0 : h0.size ≤ h0.size := Nat.le_refl _
  have wS := own_wS hw
  have N0 := Fr.nil n0
  have K0 := Keep.refl h0 ([] : List Addr)
  refine Goes.on (T' := T0) (g' := (mkF m 6 #[.val (.long x0), .second] [])) (fun _ k => XS.lloadN X0.here hx rfl (hb hby d2_0) rfl (XS.lconst X0.here hx rfl (hb hby d2_1) (XT.lcmp X0.here hx rfl (hb hby d2_2) rfl (XS.ifNo X0.here hx rfl (hb hby d2_3) rfl (XT.ll_ne_f hc) k)))) ?_
  obtain ⟨a1, T1, h1, k1, b1, kb1, X1, e1, E1, hS1, hk1, hZ1, hown1, A1, C1, V1, K1, lt1, lu1, R1, Lt1, sf1, st1⟩ := ldcCH X0 hx hZ hown (own_w hw 35 rfl) wS e0 hS0 hk0 hEL (List.mem_of_getElem? (i := 3) rfl) RR0.1 (vs := [Value.int 110, Value.int 111, Value.int 110, Value.int 101]) (z := Int32.ofNat 4) ⟨by decide, by decide⟩ (by decide) (by decide) (g := (mkF m 6 #[.val (.long x0), .second] [])) rfl (hb hby d2_6) (n := 16) (by decide) (by decide) (by decide) (by decide)
  have K5 := K0.ext E1
  have RR1 := RR0.trans R1
  have Q1 : Str Z h1 a1 b1 kb1 (Int32.ofNat 4) [Value.int 110, Value.int 111, Value.int 110, Value.int 101] := ⟨A1, C1, V1, K1⟩
  refine Goes.on (T' := T1) (g' := (mkF m 8 #[.val (.long x0), .second] [(.ref a1)])) (fun _ k => st1 _ k) ?_
  exact Goes.retAW X1 hS1 (by rw [e1]; exact hk1) hZ1 hEL (by rw [e1]; exact RR1) hx hlk hret rfl rfl (hb hby d2_8) (by decide) (by decide) (by rw [e1]; exact ⟨a1, b1, kb1, rfl, N0, K5, Q1⟩)
theorem d2_9 : decode method_2_code 9 = .ok (.lload_n 0, 1) := by decide +kernel
theorem d2_10 : decode method_2_code 10 = .ok (.lconst 0, 1) := by decide +kernel
theorem d2_11 : decode method_2_code 11 = .ok (.lcmp, 1) := by decide +kernel
theorem d2_12 : decode method_2_code 12 = .ok (.ifCond .le 6, 3) := by decide +kernel
theorem d2_15 : decode method_2_code 15 = .ok (.ldc 9, 2) := by decide +kernel
theorem d2_17 : decode method_2_code 17 = .ok (.areturn, 1) := by decide +kernel
set_option maxRecDepth 65536 in
set_option maxHeartbeats 40000000 in
theorem rmXp (l : Launch) (Z : State) (a0 : Array Value) (hw : ∀ d ∈ tables_1, d.before a0 Z = true) (x0 : Int64) (h0 : Heap) (n0 : Nat) (Z0 : n0 ≤ h0.size) (hEL : EW Z a0 consts_1) (hc : (0 : Int64) < x0) :
    PaysW l Z consts_1 (⟨"com/example/uncross/uncross/io/AuctionSummarySurplusSidePinLaw", "expected", "(J)Ljava/lang/String;"⟩ : MethodName) method_2_code 2 (some (.object "java/lang/String")) [] ({ frames := 0, cells := 2, slots := 20, locals := 0 } : Room) #[(.long x0)] h0 (fun v h L => ∃ r b k, v = some (.ref r) ∧ Fr n0 L ∧ Keep h0 h [] ∧ Str Z h r b k (Int32.ofNat 3) [Value.int 98, Value.int 105, Value.int 100]) := by
  refine PaysW.walk (plainFor_of_name pn_3) (fun m => ef_1 m x0 ) ?_
  intro p e s m below meth c T0 X0 hx hby hml hown hnm hZ e0 hret hlk hS0 RR0
  have hk0 : 0 ≤ h0.size := Nat.zero_le _
  have S0 : h0.size ≤ h0.size := Nat.le_refl _
  have wS := own_wS hw
  have N0 := Fr.nil n0
  have K0 := Keep.refl h0 ([] : List Addr)
  refine Goes.on (T' := T0) (g' := (mkF m 15 #[.val (.long x0), .second] [])) (fun _ k => XS.lloadN X0.here hx rfl (hb hby d2_0) rfl (XS.lconst X0.here hx rfl (hb hby d2_1) (XT.lcmp X0.here hx rfl (hb hby d2_2) rfl (XS.ifYes X0.here hx rfl (pc0 := 3) (pc' := 9) rfl (hb hby d2_3) rfl (XT.ll_ne_t (own_np hc).2) (by decide) (by decide) (XS.lloadN X0.here hx rfl (hb hby d2_9) rfl (XS.lconst X0.here hx rfl (hb hby d2_10) (XT.lcmp X0.here hx rfl (hb hby d2_11) rfl (XS.ifNo X0.here hx rfl (hb hby d2_12) rfl (XT.ll_le_f hc) k)))))))) ?_
  obtain ⟨a1, T1, h1, k1, b1, kb1, X1, e1, E1, hS1, hk1, hZ1, hown1, A1, C1, V1, K1, lt1, lu1, R1, Lt1, sf1, st1⟩ := ldcCH X0 hx hZ hown (own_w hw 16 rfl) wS e0 hS0 hk0 hEL (List.mem_of_getElem? (i := 4) rfl) RR0.1 (vs := [Value.int 98, Value.int 105, Value.int 100]) (z := Int32.ofNat 3) ⟨by decide, by decide⟩ (by decide) (by decide) (g := (mkF m 15 #[.val (.long x0), .second] [])) rfl (hb hby d2_15) (n := 12) (by decide) (by decide) (by decide) (by decide)
  have K5 := K0.ext E1
  have RR1 := RR0.trans R1
  have Q1 : Str Z h1 a1 b1 kb1 (Int32.ofNat 3) [Value.int 98, Value.int 105, Value.int 100] := ⟨A1, C1, V1, K1⟩
  refine Goes.on (T' := T1) (g' := (mkF m 17 #[.val (.long x0), .second] [(.ref a1)])) (fun _ k => st1 _ k) ?_
  exact Goes.retAW X1 hS1 (by rw [e1]; exact hk1) hZ1 hEL (by rw [e1]; exact RR1) hx hlk hret rfl rfl (hb hby d2_17) (by decide) (by decide) (by rw [e1]; exact ⟨a1, b1, kb1, rfl, N0, K5, Q1⟩)
theorem d2_18 : decode method_2_code 18 = .ok (.ldc 11, 2) := by decide +kernel
theorem d2_20 : decode method_2_code 20 = .ok (.areturn, 1) := by decide +kernel
set_option maxRecDepth 65536 in
set_option maxHeartbeats 40000000 in
theorem rmXn (l : Launch) (Z : State) (a0 : Array Value) (hw : ∀ d ∈ tables_1, d.before a0 Z = true) (x0 : Int64) (h0 : Heap) (n0 : Nat) (Z0 : n0 ≤ h0.size) (hEL : EW Z a0 consts_1) (hc : x0 < (0 : Int64)) :
    PaysW l Z consts_1 (⟨"com/example/uncross/uncross/io/AuctionSummarySurplusSidePinLaw", "expected", "(J)Ljava/lang/String;"⟩ : MethodName) method_2_code 2 (some (.object "java/lang/String")) [] ({ frames := 0, cells := 2, slots := 20, locals := 0 } : Room) #[(.long x0)] h0 (fun v h L => ∃ r b k, v = some (.ref r) ∧ Fr n0 L ∧ Keep h0 h [] ∧ Str Z h r b k (Int32.ofNat 3) [Value.int 97, Value.int 115, Value.int 107]) := by
  refine PaysW.walk (plainFor_of_name pn_3) (fun m => ef_1 m x0 ) ?_
  intro p e s m below meth c T0 X0 hx hby hml hown hnm hZ e0 hret hlk hS0 RR0
  have hk0 : 0 ≤ h0.size := Nat.zero_le _
  have S0 : h0.size ≤ h0.size := Nat.le_refl _
  have wS := own_wS hw
  have N0 := Fr.nil n0
  have K0 := Keep.refl h0 ([] : List Addr)
  refine Goes.on (T' := T0) (g' := (mkF m 18 #[.val (.long x0), .second] [])) (fun _ k => XS.lloadN X0.here hx rfl (hb hby d2_0) rfl (XS.lconst X0.here hx rfl (hb hby d2_1) (XT.lcmp X0.here hx rfl (hb hby d2_2) rfl (XS.ifYes X0.here hx rfl (pc0 := 3) (pc' := 9) rfl (hb hby d2_3) rfl (XT.ll_ne_t (own_nn hc).2) (by decide) (by decide) (XS.lloadN X0.here hx rfl (hb hby d2_9) rfl (XS.lconst X0.here hx rfl (hb hby d2_10) (XT.lcmp X0.here hx rfl (hb hby d2_11) rfl (XS.ifYes X0.here hx rfl (pc0 := 12) (pc' := 18) rfl (hb hby d2_12) rfl (XT.ll_le_t (own_nn hc).1) (by decide) (by decide) k)))))))) ?_
  obtain ⟨a1, T1, h1, k1, b1, kb1, X1, e1, E1, hS1, hk1, hZ1, hown1, A1, C1, V1, K1, lt1, lu1, R1, Lt1, sf1, st1⟩ := ldcCH X0 hx hZ hown (own_w hw 24 rfl) wS e0 hS0 hk0 hEL (List.mem_of_getElem? (i := 5) rfl) RR0.1 (vs := [Value.int 97, Value.int 115, Value.int 107]) (z := Int32.ofNat 3) ⟨by decide, by decide⟩ (by decide) (by decide) (g := (mkF m 18 #[.val (.long x0), .second] [])) rfl (hb hby d2_18) (n := 12) (by decide) (by decide) (by decide) (by decide)
  have K5 := K0.ext E1
  have RR1 := RR0.trans R1
  have Q1 : Str Z h1 a1 b1 kb1 (Int32.ofNat 3) [Value.int 97, Value.int 115, Value.int 107] := ⟨A1, C1, V1, K1⟩
  refine Goes.on (T' := T1) (g' := (mkF m 20 #[.val (.long x0), .second] [(.ref a1)])) (fun _ k => st1 _ k) ?_
  exact Goes.retAW X1 hS1 (by rw [e1]; exact hk1) hZ1 hEL (by rw [e1]; exact RR1) hx hlk hret rfl rfl (hb hby d2_20) (by decide) (by decide) (by rw [e1]; exact ⟨a1, b1, kb1, rfl, N0, K5, Q1⟩)
theorem pd_1 : parseMethodDescriptor "(J)Ljava/lang/String;" = some ⟨[.long], some (.object "java/lang/String")⟩ := by decide +kernel
theorem pd_2 : parseMethodDescriptor "(Ljava/lang/Object;)Z" = some ⟨[(.object "java/lang/Object")], some .boolean⟩ := by decide +kernel
theorem ef_2 (m : MethodId) (x0 : Int64) : entryFrame m #[(.long x0)] maxLocals = mkF m 0 #[.val (.long x0), .second, .unset, .unset, .unset] [] := by first | (simp [entryFrame, mkF, argsToLocals, Value.category, maxLocals]; done) | rfl
set_option maxRecDepth 65536 in
set_option maxHeartbeats 40000000 in
theorem rm0 (l : Launch) (Z : State) (a0 : Array Value) (hw : ∀ d ∈ tables_1, d.before a0 Z = true) (x0 : Int64) (h0 : Heap) (n0 : Nat) (Z0 : n0 ≤ h0.size) (O0 : Old Z n0 h0) (hEL : EW Z a0 consts_1) (cs : Int32) (SC : Sta Z Z.heap "java/lang/String" "COMPACT_STRINGS" "Z" (.int cs)) (hcs : ¬ cs = (0 : Int32)) :
    PaysW l Z consts_1 x code maxLocals ret tables_1 room_1 #[(.long x0)] h0 (fun v h L => v = some (.int (1 : Int32)) ∧ Fr n0 L) := by
  refine PaysW.walk (plainFor_of_name pn_3) (fun m => ef_2 m x0 ) ?_
  intro p e s m below meth c T0 X0 hx hby hml hown hnm hZ e0 hret hlk hS0 RR0
  have hk0 : 0 ≤ h0.size := Nat.zero_le _
  have S0 : h0.size ≤ h0.size := Nat.le_refl _
  have wS := own_wS hw
  have hown : (s.setVm s.vm).vm.findClass "com/example/uncross/uncross/io/AuctionSummarySurplusSidePinLaw" = some m.cls := hown
  have N0 := Fr.nil n0
  by_cases hc1 : x0 = (0 : Int64)
  · refine Goes.on (T' := T0) (g' := (mkF m 1 #[.val (.long x0), .second, .unset, .unset, .unset] [(.long x0)])) (fun _ k => XS.lloadN X0.here hx rfl (hb hby at_0) rfl k) ?_
    refine Goes.callSW X0 hx hZ hS0 hk0 hEL RR0.1 0 hown (own_w hw 0 rfl) (own_w hw 1 rfl) (own_w hw 2 rfl) (own_w hw 3 rfl) (by decide) e0 (rmUz l Z a0 hw x0 h0 n0 Z0 hEL hc1) (by decide) (by decide) (by decide) (by decide) rfl (by rw [hml]; rfl) (argsL := [(.long x0)]) (rest := []) rfl (lenOf pd_1 rfl) rfl (by show 2 * 0 + _ ≤ _; exact Nat.le_of_eq rfl) (hb hby at_1) ?_
    intro v2 T2 L2 k2 X2 hS2 hk2 hZ2 hown2 R2 hQ2
    obtain ⟨r2, b2, kb2, rfl, N2q, K2, Q2⟩ := hQ2
    have N2 := Fr.app N0 N2q
    show Goes p e below _ T2 (mkF m 4 #[.val (.long x0), .second, .unset, .unset, .unset] [(.ref r2)])
    have RR2 := RR0.trans R2
    have C3 := O0.keep K2 all0
    have Z4 : n0 ≤ T2.heap.size := Nat.le_trans Z0 K2.1
    refine Goes.on (T' := T2) (g' := (mkF m 6 #[.val (.long x0), .second, .val (.ref r2), .unset, .unset] [(.long x0)])) (fun _ k => XS.astoreN X2.here hx rfl (hb hby at_4) rfl rfl (l' := #[.val (.long x0), .second, .val (.ref r2), .unset, .unset]) rfl (XS.lloadN X2.here hx rfl (hb hby at_5) rfl k)) ?_
    refine Goes.callSW X2 hx hZ2 hS2 hk2 hEL RR2.1 0 hown2 (own_w hw 12 rfl) (own_w hw 13 rfl) (own_w hw 14 rfl) (own_w hw 15 rfl) (by decide) rfl (rmXz l Z a0 hw x0 T2.heap n0 Z4 hEL hc1) (by decide) (by decide) (by decide) (by decide) rfl (by rw [hml]; rfl) (argsL := [(.long x0)]) (rest := []) rfl (lenOf pd_1 rfl) rfl (by show 2 * 0 + _ ≤ _; exact Nat.le_of_eq rfl) (hb hby at_6) ?_
    intro v7 T7 L7 k7 X7 hS7 hk7 hZ7 hown7 R7 hQ7
    obtain ⟨r7, b7, kb7, rfl, N7q, K7, Q7⟩ := hQ7
    have N7 := Fr.app N2 N7q
    show Goes p e below _ T7 (mkF m 9 #[.val (.long x0), .second, .val (.ref r2), .unset, .unset] [(.ref r7)])
    have RR7 := RR2.trans R7
    have C8 := C3.keep K7 all0
    have C9 := Q2.keep K7 nin0 nin0
    have Z10 : n0 ≤ T7.heap.size := Nat.le_trans Z4 K7.1
    refine Goes.on (T' := T7) (g' := (mkF m 10 #[.val (.long x0), .second, .val (.ref r2), .unset, .unset] [(.ref r2), (.ref r7)])) (fun _ k => XS.aloadN X7.here hx rfl (hb hby at_9) rfl rfl k) ?_
    refine Goes.callV X7 hx hZ7 0 hown7 (own_w hw 17 rfl) (own_w hw 18 rfl) (notFace_of_selects (args := #[]) (mvT hZ7 (own_w hw 20 rfl))) (own_w hw 20 rfl) (own_w hw 19 rfl) (own_w hw 5 rfl) (own_w hw 21 rfl) (by decide) rfl Q7.1 (rmEq_none_none l Z a0 hw r7 r2 T7.heap n0 Z10 C8 cs SC hcs b7 b2 kb7 kb2 Q7 C9) (by decide) (by decide) (by decide) (by decide) rfl (by rw [hml]; rfl) (argsL := [(.ref r2)]) (rest := []) rfl (lenOf pd_2 rfl) rfl (by show 2 * 0 + _ ≤ _; exact Nat.le_of_eq rfl) (hb hby at_10) ?_
    intro v13 T13 L13 X13 hQ13
    obtain ⟨rfl, N13q, e13⟩ := hQ13
    have N13 := Fr.app N7 N13q
    show Goes p e below _ T13 (mkF m 13 #[.val (.long x0), .second, .val (.ref r2), .unset, .unset] [(.int (1 : Int32))])
    refine Goes.on (T' := T13) (g' := (mkF m 19 #[.val (.long x0), .second, .val (.ref r2), .val (.int (1 : Int32)), .unset] [(.int (XT.cmpL x0 (-9223372036854775808 : Int64)))])) (fun _ k => XS.istoreN X13.here hx rfl (hb hby at_13) rfl (l' := #[.val (.long x0), .second, .val (.ref r2), .val (.int (1 : Int32)), .unset]) rfl (XS.lloadN X13.here hx rfl (hb hby at_14) rfl (X13.ldc2Long hx hown7 (mvT hZ7 (own_w hw 22 rfl)) (g := (mkF m 15 #[.val (.long x0), .second, .val (.ref r2), .val (.int (1 : Int32)), .unset] [(.long x0)])) rfl (hb hby at_15) _ (XT.lcmp X13.here hx rfl (hb hby at_18) rfl k)))) ?_
    by_cases hc14 : x0 = (-9223372036854775808 : Int64)
    · refine Goes.on (T' := T13) (g' := (mkF m 101 #[.val (.long x0), .second, .val (.ref r2), .val (.int (1 : Int32)), .unset] [(.int (1 : Int32))])) (fun _ k => XS.ifYes X13.here hx rfl (pc0 := 19) (pc' := 100) rfl (hb hby at_19) rfl (XT.ll_eq_t hc14) (by decide) (by decide) (XS.iloadN X13.here hx rfl (hb hby at_100) rfl k)) ?_
      exact Goes.retBW X13 hS7 (by rw [e13]; exact hk7) hZ7 hEL (by rw [e13]; exact RR7) hx hlk hret (Or.inr rfl) (hb hby at_101) (by decide) (by decide) ⟨rfl, N13⟩
    · refine Goes.on (T' := T13) (g' := (mkF m 24 #[.val (.long x0), .second, .val (.ref r2), .val (.int (1 : Int32)), .unset] [(.long (-x0))])) (fun _ k => XS.ifNo X13.here hx rfl (hb hby at_19) rfl (XT.ll_eq_f hc14) (XS.lloadN X13.here hx rfl (hb hby at_22) rfl (XT.lneg X13.here hx rfl (hb hby at_23) rfl k))) ?_
      refine Goes.callSW X13 hx hZ7 hS7 hk7 hEL RR7.1 0 hown7 (own_w hw 0 rfl) (own_w hw 1 rfl) (own_w hw 2 rfl) (own_w hw 3 rfl) (by decide) e13 (rmUz l Z a0 hw (-x0) T7.heap n0 Z10 hEL (own_negz hc1)) (by decide) (by decide) (by decide) (by decide) rfl (by rw [hml]; rfl) (argsL := [(.long (-x0))]) (rest := []) rfl (lenOf pd_1 rfl) rfl (by show 2 * 0 + _ ≤ _; exact Nat.le_of_eq rfl) (hb hby at_24) ?_
      intro v15 T15 L15 k15 X15 hS15 hk15 hZ15 hown15 R15 hQ15
      obtain ⟨r15, b15, kb15, rfl, N15q, K15, Q15⟩ := hQ15
      have N15 := Fr.app N13 N15q
      show Goes p e below _ T15 (mkF m 27 #[.val (.long x0), .second, .val (.ref r2), .val (.int (1 : Int32)), .unset] [(.ref r15)])
      have RR15 := RR7.trans R15
      have C16 := C8.keep K15 all0
      have Z19 : n0 ≤ T15.heap.size := Nat.le_trans Z10 K15.1
      refine Goes.on (T' := T15) (g' := (mkF m 39 #[.val (.long x0), .second, .val (.ref r2), .val (.int (1 : Int32)), .val (.ref r15)] [])) (fun _ k => XS.astore X15.here hx rfl (hb hby at_27) rfl rfl (l' := #[.val (.long x0), .second, .val (.ref r2), .val (.int (1 : Int32)), .val (.ref r15)]) rfl (XS.lloadN X15.here hx rfl (hb hby at_29) rfl (XS.lconst X15.here hx rfl (hb hby at_30) (XT.lcmp X15.here hx rfl (hb hby at_31) rfl (XS.ifNo X15.here hx rfl (hb hby at_32) rfl (XT.ll_ne_f hc1) (XS.iloadN X15.here hx rfl (hb hby at_35) rfl (XS.ifNo X15.here hx rfl (hb hby at_36) rfl (XT.i0_eq_f (by decide)) k))))))) ?_
      obtain ⟨a22, T22, h22, k22, b22, kb22, X22, e22, E22, hS22, hk22, hZ22, hown22, A22, C22, V22, K22, lt22, lu22, R22, Lt22, sf22, st22⟩ := ldcCH X15 hx hZ15 hown15 (own_w hw 35 rfl) wS rfl hS15 hk15 hEL (List.mem_of_getElem? (i := 3) rfl) RR15.1 (vs := [Value.int 110, Value.int 111, Value.int 110, Value.int 101]) (z := Int32.ofNat 4) ⟨by decide, by decide⟩ (by decide) (by decide) (g := (mkF m 39 #[.val (.long x0), .second, .val (.ref r2), .val (.int (1 : Int32)), .val (.ref r15)] [])) rfl (hb hby at_39) (n := 16) (by decide) (by decide) (by decide) (by decide)
      have C23 := C16.ext E22
      have C26 := Q15.ext E22
      have Z27 : n0 ≤ h22.size := Nat.le_trans Z19 E22.1
      have RR22 := RR15.trans R22
      have Q22 : Str Z h22 a22 b22 kb22 (Int32.ofNat 4) [Value.int 110, Value.int 111, Value.int 110, Value.int 101] := ⟨A22, C22, V22, K22⟩
      refine Goes.on (T' := T22) (g' := (mkF m 43 #[.val (.long x0), .second, .val (.ref r2), .val (.int (1 : Int32)), .val (.ref r15)] [(.ref r15), (.ref a22)])) (fun _ k => st22 _ (XS.aload X22.here hx rfl (hb hby at_41) rfl rfl k)) ?_
      refine Goes.callV X22 hx hZ22 0 hown22 (own_w hw 17 rfl) (own_w hw 18 rfl) (notFace_of_selects (args := #[]) (mvT hZ22 (own_w hw 20 rfl))) (own_w hw 20 rfl) (own_w hw 19 rfl) (own_w hw 5 rfl) (own_w hw 21 rfl) (by decide) e22 Q22.1 (rmEq_none_none l Z a0 hw a22 r15 h22 n0 Z27 C23 cs SC hcs b22 b15 kb22 kb15 Q22 C26) (by decide) (by decide) (by decide) (by decide) rfl (by rw [hml]; rfl) (argsL := [(.ref r15)]) (rest := []) rfl (lenOf pd_2 rfl) rfl (by show 2 * 0 + _ ≤ _; exact Nat.le_of_eq rfl) (hb hby at_43) ?_
      intro v30 T30 L30 X30 hQ30
      obtain ⟨rfl, N30q, e30⟩ := hQ30
      have N30 := Fr.app N15 N30q
      show Goes p e below _ T30 (mkF m 46 #[.val (.long x0), .second, .val (.ref r2), .val (.int (1 : Int32)), .val (.ref r15)] [(.int (1 : Int32))])
      refine Goes.on (T' := T30) (g' := (mkF m 101 #[.val (.long x0), .second, .val (.ref r2), .val (.int (1 : Int32)), .val (.ref r15)] [(.int (1 : Int32))])) (fun _ k => XS.ifNo X30.here hx rfl (hb hby at_46) rfl (XT.i0_eq_f (by decide)) (XS.iconst X30.here hx rfl (hb hby at_49) (XS.goto X30.here hx rfl (pc0 := 50) (pc' := 54) rfl (hb hby at_50) (by decide) (by decide) (XS.istoreN X30.here hx rfl (hb hby at_54) rfl (l' := #[.val (.long x0), .second, .val (.ref r2), .val (.int (1 : Int32)), .val (.ref r15)]) rfl (XS.goto X30.here hx rfl (pc0 := 55) (pc' := 100) rfl (hb hby at_55) (by decide) (by decide) (XS.iloadN X30.here hx rfl (hb hby at_100) rfl k)))))) ?_
      exact Goes.retBW X30 hS22 (by rw [e30]; exact hk22) hZ22 hEL (by rw [e30]; exact RR22) hx hlk hret (Or.inr rfl) (hb hby at_101) (by decide) (by decide) ⟨rfl, N30⟩
  · by_cases hc31 : (0 : Int64) < x0
    · refine Goes.on (T' := T0) (g' := (mkF m 1 #[.val (.long x0), .second, .unset, .unset, .unset] [(.long x0)])) (fun _ k => XS.lloadN X0.here hx rfl (hb hby at_0) rfl k) ?_
      refine Goes.callSW X0 hx hZ hS0 hk0 hEL RR0.1 0 hown (own_w hw 0 rfl) (own_w hw 1 rfl) (own_w hw 2 rfl) (own_w hw 3 rfl) (by decide) e0 (rmUp l Z a0 hw x0 h0 n0 Z0 hEL hc31) (by decide) (by decide) (by decide) (by decide) rfl (by rw [hml]; rfl) (argsL := [(.long x0)]) (rest := []) rfl (lenOf pd_1 rfl) rfl (by show 2 * 0 + _ ≤ _; exact Nat.le_of_eq rfl) (hb hby at_1) ?_
      intro v32 T32 L32 k32 X32 hS32 hk32 hZ32 hown32 R32 hQ32
      obtain ⟨r32, b32, kb32, rfl, N32q, K32, Q32⟩ := hQ32
      have N32 := Fr.app N0 N32q
      show Goes p e below _ T32 (mkF m 4 #[.val (.long x0), .second, .unset, .unset, .unset] [(.ref r32)])
      have RR32 := RR0.trans R32
      have C33 := O0.keep K32 all0
      have Z34 : n0 ≤ T32.heap.size := Nat.le_trans Z0 K32.1
      refine Goes.on (T' := T32) (g' := (mkF m 6 #[.val (.long x0), .second, .val (.ref r32), .unset, .unset] [(.long x0)])) (fun _ k => XS.astoreN X32.here hx rfl (hb hby at_4) rfl rfl (l' := #[.val (.long x0), .second, .val (.ref r32), .unset, .unset]) rfl (XS.lloadN X32.here hx rfl (hb hby at_5) rfl k)) ?_
      refine Goes.callSW X32 hx hZ32 hS32 hk32 hEL RR32.1 0 hown32 (own_w hw 12 rfl) (own_w hw 13 rfl) (own_w hw 14 rfl) (own_w hw 15 rfl) (by decide) rfl (rmXp l Z a0 hw x0 T32.heap n0 Z34 hEL hc31) (by decide) (by decide) (by decide) (by decide) rfl (by rw [hml]; rfl) (argsL := [(.long x0)]) (rest := []) rfl (lenOf pd_1 rfl) rfl (by show 2 * 0 + _ ≤ _; exact Nat.le_of_eq rfl) (hb hby at_6) ?_
      intro v37 T37 L37 k37 X37 hS37 hk37 hZ37 hown37 R37 hQ37
      obtain ⟨r37, b37, kb37, rfl, N37q, K37, Q37⟩ := hQ37
      have N37 := Fr.app N32 N37q
      show Goes p e below _ T37 (mkF m 9 #[.val (.long x0), .second, .val (.ref r32), .unset, .unset] [(.ref r37)])
      have RR37 := RR32.trans R37
      have C38 := C33.keep K37 all0
      have C39 := Q32.keep K37 nin0 nin0
      have Z40 : n0 ≤ T37.heap.size := Nat.le_trans Z34 K37.1
      refine Goes.on (T' := T37) (g' := (mkF m 10 #[.val (.long x0), .second, .val (.ref r32), .unset, .unset] [(.ref r32), (.ref r37)])) (fun _ k => XS.aloadN X37.here hx rfl (hb hby at_9) rfl rfl k) ?_
      refine Goes.callV X37 hx hZ37 0 hown37 (own_w hw 17 rfl) (own_w hw 18 rfl) (notFace_of_selects (args := #[]) (mvT hZ37 (own_w hw 20 rfl))) (own_w hw 20 rfl) (own_w hw 19 rfl) (own_w hw 5 rfl) (own_w hw 21 rfl) (by decide) rfl Q37.1 (rmEq_bid_bid l Z a0 hw r37 r32 T37.heap n0 Z40 C38 cs SC hcs b37 b32 kb37 kb32 Q37 C39) (by decide) (by decide) (by decide) (by decide) rfl (by rw [hml]; rfl) (argsL := [(.ref r32)]) (rest := []) rfl (lenOf pd_2 rfl) rfl (by show 2 * 0 + _ ≤ _; exact Nat.le_of_eq rfl) (hb hby at_10) ?_
      intro v43 T43 L43 X43 hQ43
      obtain ⟨rfl, N43q, e43⟩ := hQ43
      have N43 := Fr.app N37 N43q
      show Goes p e below _ T43 (mkF m 13 #[.val (.long x0), .second, .val (.ref r32), .unset, .unset] [(.int (1 : Int32))])
      refine Goes.on (T' := T43) (g' := (mkF m 19 #[.val (.long x0), .second, .val (.ref r32), .val (.int (1 : Int32)), .unset] [(.int (XT.cmpL x0 (-9223372036854775808 : Int64)))])) (fun _ k => XS.istoreN X43.here hx rfl (hb hby at_13) rfl (l' := #[.val (.long x0), .second, .val (.ref r32), .val (.int (1 : Int32)), .unset]) rfl (XS.lloadN X43.here hx rfl (hb hby at_14) rfl (X43.ldc2Long hx hown37 (mvT hZ37 (own_w hw 22 rfl)) (g := (mkF m 15 #[.val (.long x0), .second, .val (.ref r32), .val (.int (1 : Int32)), .unset] [(.long x0)])) rfl (hb hby at_15) _ (XT.lcmp X43.here hx rfl (hb hby at_18) rfl k)))) ?_
      by_cases hc44 : x0 = (-9223372036854775808 : Int64)
      · refine Goes.on (T' := T43) (g' := (mkF m 101 #[.val (.long x0), .second, .val (.ref r32), .val (.int (1 : Int32)), .unset] [(.int (1 : Int32))])) (fun _ k => XS.ifYes X43.here hx rfl (pc0 := 19) (pc' := 100) rfl (hb hby at_19) rfl (XT.ll_eq_t hc44) (by decide) (by decide) (XS.iloadN X43.here hx rfl (hb hby at_100) rfl k)) ?_
        exact Goes.retBW X43 hS37 (by rw [e43]; exact hk37) hZ37 hEL (by rw [e43]; exact RR37) hx hlk hret (Or.inr rfl) (hb hby at_101) (by decide) (by decide) ⟨rfl, N43⟩
      · refine Goes.on (T' := T43) (g' := (mkF m 24 #[.val (.long x0), .second, .val (.ref r32), .val (.int (1 : Int32)), .unset] [(.long (-x0))])) (fun _ k => XS.ifNo X43.here hx rfl (hb hby at_19) rfl (XT.ll_eq_f hc44) (XS.lloadN X43.here hx rfl (hb hby at_22) rfl (XT.lneg X43.here hx rfl (hb hby at_23) rfl k))) ?_
        refine Goes.callSW X43 hx hZ37 hS37 hk37 hEL RR37.1 0 hown37 (own_w hw 0 rfl) (own_w hw 1 rfl) (own_w hw 2 rfl) (own_w hw 3 rfl) (by decide) e43 (rmUn l Z a0 hw (-x0) T37.heap n0 Z40 hEL (own_negp hc31)) (by decide) (by decide) (by decide) (by decide) rfl (by rw [hml]; rfl) (argsL := [(.long (-x0))]) (rest := []) rfl (lenOf pd_1 rfl) rfl (by show 2 * 0 + _ ≤ _; exact Nat.le_of_eq rfl) (hb hby at_24) ?_
        intro v45 T45 L45 k45 X45 hS45 hk45 hZ45 hown45 R45 hQ45
        obtain ⟨r45, b45, kb45, rfl, N45q, K45, Q45⟩ := hQ45
        have N45 := Fr.app N43 N45q
        show Goes p e below _ T45 (mkF m 27 #[.val (.long x0), .second, .val (.ref r32), .val (.int (1 : Int32)), .unset] [(.ref r45)])
        have RR45 := RR37.trans R45
        have C46 := C38.keep K45 all0
        have C47 := C39.keep K45 nin0 nin0
        have Z49 : n0 ≤ T45.heap.size := Nat.le_trans Z40 K45.1
        refine Goes.on (T' := T45) (g' := (mkF m 62 #[.val (.long x0), .second, .val (.ref r32), .val (.int (1 : Int32)), .val (.ref r45)] [])) (fun _ k => XS.astore X45.here hx rfl (hb hby at_27) rfl rfl (l' := #[.val (.long x0), .second, .val (.ref r32), .val (.int (1 : Int32)), .val (.ref r45)]) rfl (XS.lloadN X45.here hx rfl (hb hby at_29) rfl (XS.lconst X45.here hx rfl (hb hby at_30) (XT.lcmp X45.here hx rfl (hb hby at_31) rfl (XS.ifYes X45.here hx rfl (pc0 := 32) (pc' := 58) rfl (hb hby at_32) rfl (XT.ll_ne_t (own_np hc31).2) (by decide) (by decide) (XS.iloadN X45.here hx rfl (hb hby at_58) rfl (XS.ifNo X45.here hx rfl (hb hby at_59) rfl (XT.i0_eq_f (by decide)) k))))))) ?_
        obtain ⟨a52, T52, h52, k52, b52, kb52, X52, e52, E52, hS52, hk52, hZ52, hown52, A52, C52, V52, K52, lt52, lu52, R52, Lt52, sf52, st52⟩ := ldcCH X45 hx hZ45 hown45 (own_w hw 16 rfl) wS rfl hS45 hk45 hEL (List.mem_of_getElem? (i := 4) rfl) RR45.1 (vs := [Value.int 98, Value.int 105, Value.int 100]) (z := Int32.ofNat 3) ⟨by decide, by decide⟩ (by decide) (by decide) (g := (mkF m 62 #[.val (.long x0), .second, .val (.ref r32), .val (.int (1 : Int32)), .val (.ref r45)] [])) rfl (hb hby at_62) (n := 12) (by decide) (by decide) (by decide) (by decide)
        have C53 := C46.ext E52
        have C54 := C47.ext E52
        have C56 := Q45.ext E52
        have Z57 : n0 ≤ h52.size := Nat.le_trans Z49 E52.1
        have RR52 := RR45.trans R52
        have Q52 : Str Z h52 a52 b52 kb52 (Int32.ofNat 3) [Value.int 98, Value.int 105, Value.int 100] := ⟨A52, C52, V52, K52⟩
        refine Goes.on (T' := T52) (g' := (mkF m 65 #[.val (.long x0), .second, .val (.ref r32), .val (.int (1 : Int32)), .val (.ref r45)] [(.ref r32), (.ref a52)])) (fun _ k => st52 _ (XS.aloadN X52.here hx rfl (hb hby at_64) rfl rfl k)) ?_
        refine Goes.callV X52 hx hZ52 0 hown52 (own_w hw 17 rfl) (own_w hw 18 rfl) (notFace_of_selects (args := #[]) (mvT hZ52 (own_w hw 20 rfl))) (own_w hw 20 rfl) (own_w hw 19 rfl) (own_w hw 5 rfl) (own_w hw 21 rfl) (by decide) e52 Q52.1 (rmEq_bid_bid l Z a0 hw a52 r32 h52 n0 Z57 C53 cs SC hcs b52 b32 kb52 kb32 Q52 C54) (by decide) (by decide) (by decide) (by decide) rfl (by rw [hml]; rfl) (argsL := [(.ref r32)]) (rest := []) rfl (lenOf pd_2 rfl) rfl (by show 2 * 0 + _ ≤ _; exact Nat.le_of_eq rfl) (hb hby at_65) ?_
        intro v60 T60 L60 X60 hQ60
        obtain ⟨rfl, N60q, e60⟩ := hQ60
        have N60 := Fr.app N45 N60q
        show Goes p e below _ T60 (mkF m 68 #[.val (.long x0), .second, .val (.ref r32), .val (.int (1 : Int32)), .val (.ref r45)] [(.int (1 : Int32))])
        obtain ⟨a61, T61, h61, k61, b61, kb61, X61, e61, E61, hS61, hk61, hZ61, hown61, A61, C61, V61, K61, lt61, lu61, R61, Lt61, sf61, st61⟩ := ldcCH X60 hx hZ52 hown52 (own_w hw 24 rfl) wS e60 hS52 hk52 hEL (List.mem_of_getElem? (i := 5) rfl) RR52.1 (vs := [Value.int 97, Value.int 115, Value.int 107]) (z := Int32.ofNat 3) ⟨by decide, by decide⟩ (by decide) (by decide) (g := (mkF m 68 #[.val (.long x0), .second, .val (.ref r32), .val (.int (1 : Int32)), .val (.ref r45)] [(.int (1 : Int32))])) rfl (hb hby at_68) (n := 12) (by decide) (by decide) (by decide) (by decide)
        have C62 := C53.ext E61
        have C63 := C54.ext E61
        have C65 := C56.ext E61
        have Z67 : n0 ≤ h61.size := Nat.le_trans Z57 E61.1
        have RR61 := RR52.trans R61
        have Q61 : Str Z h61 a61 b61 kb61 (Int32.ofNat 3) [Value.int 97, Value.int 115, Value.int 107] := ⟨A61, C61, V61, K61⟩
        refine Goes.on (T' := T61) (g' := (mkF m 72 #[.val (.long x0), .second, .val (.ref r32), .val (.int (1 : Int32)), .val (.ref r45)] [(.ref r45), (.ref a61), (.int (1 : Int32))])) (fun _ k => st61 _ (XS.aload X61.here hx rfl (hb hby at_70) rfl rfl k)) ?_
        refine Goes.callV X61 hx hZ61 1 hown61 (own_w hw 17 rfl) (own_w hw 18 rfl) (notFace_of_selects (args := #[]) (mvT hZ61 (own_w hw 20 rfl))) (own_w hw 20 rfl) (own_w hw 19 rfl) (own_w hw 5 rfl) (own_w hw 21 rfl) (by decide) e61 Q61.1 (rmEq_ask_ask l Z a0 hw a61 r45 h61 n0 Z67 C62 cs SC hcs b61 b45 kb61 kb45 Q61 C65) (by decide) (by decide) (by decide) (by decide) rfl (by rw [hml]; rfl) (argsL := [(.ref r45)]) (rest := [(.int (1 : Int32))]) rfl (lenOf pd_2 rfl) rfl (by show 2 * 0 + _ ≤ _; exact Nat.le_of_eq rfl) (hb hby at_72) ?_
        intro v70 T70 L70 X70 hQ70
        obtain ⟨rfl, N70q, e70⟩ := hQ70
        have N70 := Fr.app N60 N70q
        show Goes p e below _ T70 (mkF m 75 #[.val (.long x0), .second, .val (.ref r32), .val (.int (1 : Int32)), .val (.ref r45)] [(.int (1 : Int32)), (.int (1 : Int32))])
        refine Goes.on (T' := T70) (g' := (mkF m 78 #[.val (.long x0), .second, .val (.ref r32), .val (.int (1 : Int32)), .val (.ref r45)] [])) (fun _ k => XS.icmpNo X70.here hx rfl (hb hby at_75) rfl (XT.ii_ne_f (by decide)) k) ?_
        obtain ⟨a71, T71, h71, k71, b71, kb71, X71, e71, E71, hS71, hk71, hZ71, hown71, A71, C71, V71, K71, lt71, lu71, R71, Lt71, sf71, st71⟩ := ldcCH X70 hx hZ61 hown61 (own_w hw 24 rfl) wS e70 hS61 hk61 hEL (List.mem_of_getElem? (i := 5) rfl) RR61.1 (vs := [Value.int 97, Value.int 115, Value.int 107]) (z := Int32.ofNat 3) ⟨by decide, by decide⟩ (by decide) (by decide) (g := (mkF m 78 #[.val (.long x0), .second, .val (.ref r32), .val (.int (1 : Int32)), .val (.ref r45)] [])) rfl (hb hby at_78) (n := 12) (by decide) (by decide) (by decide) (by decide)
        have C72 := C62.ext E71
        have C73 := C63.ext E71
        have C75 := C65.ext E71
        have Z78 : n0 ≤ h71.size := Nat.le_trans Z67 E71.1
        have RR71 := RR61.trans R71
        have Q71 : Str Z h71 a71 b71 kb71 (Int32.ofNat 3) [Value.int 97, Value.int 115, Value.int 107] := ⟨A71, C71, V71, K71⟩
        refine Goes.on (T' := T71) (g' := (mkF m 81 #[.val (.long x0), .second, .val (.ref r32), .val (.int (1 : Int32)), .val (.ref r45)] [(.ref r32), (.ref a71)])) (fun _ k => st71 _ (XS.aloadN X71.here hx rfl (hb hby at_80) rfl rfl k)) ?_
        refine Goes.callV X71 hx hZ71 0 hown71 (own_w hw 17 rfl) (own_w hw 18 rfl) (notFace_of_selects (args := #[]) (mvT hZ71 (own_w hw 20 rfl))) (own_w hw 20 rfl) (own_w hw 19 rfl) (own_w hw 5 rfl) (own_w hw 21 rfl) (by decide) e71 Q71.1 (rmEq_ask_bid l Z a0 hw a71 r32 h71 n0 Z78 C72 cs SC hcs b71 b32 kb71 kb32 Q71 C73) (by decide) (by decide) (by decide) (by decide) rfl (by rw [hml]; rfl) (argsL := [(.ref r32)]) (rest := []) rfl (lenOf pd_2 rfl) rfl (by show 2 * 0 + _ ≤ _; exact Nat.le_of_eq rfl) (hb hby at_81) ?_
        intro v81 T81 L81 X81 hQ81
        obtain ⟨rfl, N81q, e81⟩ := hQ81
        have N81 := Fr.app N70 N81q
        show Goes p e below _ T81 (mkF m 84 #[.val (.long x0), .second, .val (.ref r32), .val (.int (1 : Int32)), .val (.ref r45)] [(.int (0 : Int32))])
        obtain ⟨a82, T82, h82, k82, b82, kb82, X82, e82, E82, hS82, hk82, hZ82, hown82, A82, C82, V82, K82, lt82, lu82, R82, Lt82, sf82, st82⟩ := ldcCH X81 hx hZ71 hown71 (own_w hw 16 rfl) wS e81 hS71 hk71 hEL (List.mem_of_getElem? (i := 4) rfl) RR71.1 (vs := [Value.int 98, Value.int 105, Value.int 100]) (z := Int32.ofNat 3) ⟨by decide, by decide⟩ (by decide) (by decide) (g := (mkF m 84 #[.val (.long x0), .second, .val (.ref r32), .val (.int (1 : Int32)), .val (.ref r45)] [(.int (0 : Int32))])) rfl (hb hby at_84) (n := 12) (by decide) (by decide) (by decide) (by decide)
        have C83 := C72.ext E82
        have C86 := C75.ext E82
        have Z90 : n0 ≤ h82.size := Nat.le_trans Z78 E82.1
        have RR82 := RR71.trans R82
        have Q82 : Str Z h82 a82 b82 kb82 (Int32.ofNat 3) [Value.int 98, Value.int 105, Value.int 100] := ⟨A82, C82, V82, K82⟩
        refine Goes.on (T' := T82) (g' := (mkF m 88 #[.val (.long x0), .second, .val (.ref r32), .val (.int (1 : Int32)), .val (.ref r45)] [(.ref r45), (.ref a82), (.int (0 : Int32))])) (fun _ k => st82 _ (XS.aload X82.here hx rfl (hb hby at_86) rfl rfl k)) ?_
        refine Goes.callV X82 hx hZ82 1 hown82 (own_w hw 17 rfl) (own_w hw 18 rfl) (notFace_of_selects (args := #[]) (mvT hZ82 (own_w hw 20 rfl))) (own_w hw 20 rfl) (own_w hw 19 rfl) (own_w hw 5 rfl) (own_w hw 21 rfl) (by decide) e82 Q82.1 (rmEq_bid_ask l Z a0 hw a82 r45 h82 n0 Z90 C83 cs SC hcs b82 b45 kb82 kb45 Q82 C86) (by decide) (by decide) (by decide) (by decide) rfl (by rw [hml]; rfl) (argsL := [(.ref r45)]) (rest := [(.int (0 : Int32))]) rfl (lenOf pd_2 rfl) rfl (by show 2 * 0 + _ ≤ _; exact Nat.le_of_eq rfl) (hb hby at_88) ?_
        intro v93 T93 L93 X93 hQ93
        obtain ⟨rfl, N93q, e93⟩ := hQ93
        have N93 := Fr.app N81 N93q
        show Goes p e below _ T93 (mkF m 91 #[.val (.long x0), .second, .val (.ref r32), .val (.int (1 : Int32)), .val (.ref r45)] [(.int (0 : Int32)), (.int (0 : Int32))])
        refine Goes.on (T' := T93) (g' := (mkF m 101 #[.val (.long x0), .second, .val (.ref r32), .val (.int (1 : Int32)), .val (.ref r45)] [(.int (1 : Int32))])) (fun _ k => XS.icmpNo X93.here hx rfl (hb hby at_91) rfl (XT.ii_ne_f (by decide)) (XS.iconst X93.here hx rfl (hb hby at_94) (XS.goto X93.here hx rfl (pc0 := 95) (pc' := 99) rfl (hb hby at_95) (by decide) (by decide) (XS.istoreN X93.here hx rfl (hb hby at_99) rfl (l' := #[.val (.long x0), .second, .val (.ref r32), .val (.int (1 : Int32)), .val (.ref r45)]) rfl (XS.iloadN X93.here hx rfl (hb hby at_100) rfl k))))) ?_
        exact Goes.retBW X93 hS82 (by rw [e93]; exact hk82) hZ82 hEL (by rw [e93]; exact RR82) hx hlk hret (Or.inr rfl) (hb hby at_101) (by decide) (by decide) ⟨rfl, N93⟩
    · have hneg := own_tri hc1 hc31
      refine Goes.on (T' := T0) (g' := (mkF m 1 #[.val (.long x0), .second, .unset, .unset, .unset] [(.long x0)])) (fun _ k => XS.lloadN X0.here hx rfl (hb hby at_0) rfl k) ?_
      refine Goes.callSW X0 hx hZ hS0 hk0 hEL RR0.1 0 hown (own_w hw 0 rfl) (own_w hw 1 rfl) (own_w hw 2 rfl) (own_w hw 3 rfl) (by decide) e0 (rmUn l Z a0 hw x0 h0 n0 Z0 hEL hneg) (by decide) (by decide) (by decide) (by decide) rfl (by rw [hml]; rfl) (argsL := [(.long x0)]) (rest := []) rfl (lenOf pd_1 rfl) rfl (by show 2 * 0 + _ ≤ _; exact Nat.le_of_eq rfl) (hb hby at_1) ?_
      intro v94 T94 L94 k94 X94 hS94 hk94 hZ94 hown94 R94 hQ94
      obtain ⟨r94, b94, kb94, rfl, N94q, K94, Q94⟩ := hQ94
      have N94 := Fr.app N0 N94q
      show Goes p e below _ T94 (mkF m 4 #[.val (.long x0), .second, .unset, .unset, .unset] [(.ref r94)])
      have RR94 := RR0.trans R94
      have C95 := O0.keep K94 all0
      have Z96 : n0 ≤ T94.heap.size := Nat.le_trans Z0 K94.1
      refine Goes.on (T' := T94) (g' := (mkF m 6 #[.val (.long x0), .second, .val (.ref r94), .unset, .unset] [(.long x0)])) (fun _ k => XS.astoreN X94.here hx rfl (hb hby at_4) rfl rfl (l' := #[.val (.long x0), .second, .val (.ref r94), .unset, .unset]) rfl (XS.lloadN X94.here hx rfl (hb hby at_5) rfl k)) ?_
      refine Goes.callSW X94 hx hZ94 hS94 hk94 hEL RR94.1 0 hown94 (own_w hw 12 rfl) (own_w hw 13 rfl) (own_w hw 14 rfl) (own_w hw 15 rfl) (by decide) rfl (rmXn l Z a0 hw x0 T94.heap n0 Z96 hEL hneg) (by decide) (by decide) (by decide) (by decide) rfl (by rw [hml]; rfl) (argsL := [(.long x0)]) (rest := []) rfl (lenOf pd_1 rfl) rfl (by show 2 * 0 + _ ≤ _; exact Nat.le_of_eq rfl) (hb hby at_6) ?_
      intro v99 T99 L99 k99 X99 hS99 hk99 hZ99 hown99 R99 hQ99
      obtain ⟨r99, b99, kb99, rfl, N99q, K99, Q99⟩ := hQ99
      have N99 := Fr.app N94 N99q
      show Goes p e below _ T99 (mkF m 9 #[.val (.long x0), .second, .val (.ref r94), .unset, .unset] [(.ref r99)])
      have RR99 := RR94.trans R99
      have C100 := C95.keep K99 all0
      have C101 := Q94.keep K99 nin0 nin0
      have Z102 : n0 ≤ T99.heap.size := Nat.le_trans Z96 K99.1
      refine Goes.on (T' := T99) (g' := (mkF m 10 #[.val (.long x0), .second, .val (.ref r94), .unset, .unset] [(.ref r94), (.ref r99)])) (fun _ k => XS.aloadN X99.here hx rfl (hb hby at_9) rfl rfl k) ?_
      refine Goes.callV X99 hx hZ99 0 hown99 (own_w hw 17 rfl) (own_w hw 18 rfl) (notFace_of_selects (args := #[]) (mvT hZ99 (own_w hw 20 rfl))) (own_w hw 20 rfl) (own_w hw 19 rfl) (own_w hw 5 rfl) (own_w hw 21 rfl) (by decide) rfl Q99.1 (rmEq_ask_ask l Z a0 hw r99 r94 T99.heap n0 Z102 C100 cs SC hcs b99 b94 kb99 kb94 Q99 C101) (by decide) (by decide) (by decide) (by decide) rfl (by rw [hml]; rfl) (argsL := [(.ref r94)]) (rest := []) rfl (lenOf pd_2 rfl) rfl (by show 2 * 0 + _ ≤ _; exact Nat.le_of_eq rfl) (hb hby at_10) ?_
      intro v105 T105 L105 X105 hQ105
      obtain ⟨rfl, N105q, e105⟩ := hQ105
      have N105 := Fr.app N99 N105q
      show Goes p e below _ T105 (mkF m 13 #[.val (.long x0), .second, .val (.ref r94), .unset, .unset] [(.int (1 : Int32))])
      refine Goes.on (T' := T105) (g' := (mkF m 19 #[.val (.long x0), .second, .val (.ref r94), .val (.int (1 : Int32)), .unset] [(.int (XT.cmpL x0 (-9223372036854775808 : Int64)))])) (fun _ k => XS.istoreN X105.here hx rfl (hb hby at_13) rfl (l' := #[.val (.long x0), .second, .val (.ref r94), .val (.int (1 : Int32)), .unset]) rfl (XS.lloadN X105.here hx rfl (hb hby at_14) rfl (X105.ldc2Long hx hown99 (mvT hZ99 (own_w hw 22 rfl)) (g := (mkF m 15 #[.val (.long x0), .second, .val (.ref r94), .val (.int (1 : Int32)), .unset] [(.long x0)])) rfl (hb hby at_15) _ (XT.lcmp X105.here hx rfl (hb hby at_18) rfl k)))) ?_
      by_cases hc106 : x0 = (-9223372036854775808 : Int64)
      · refine Goes.on (T' := T105) (g' := (mkF m 101 #[.val (.long x0), .second, .val (.ref r94), .val (.int (1 : Int32)), .unset] [(.int (1 : Int32))])) (fun _ k => XS.ifYes X105.here hx rfl (pc0 := 19) (pc' := 100) rfl (hb hby at_19) rfl (XT.ll_eq_t hc106) (by decide) (by decide) (XS.iloadN X105.here hx rfl (hb hby at_100) rfl k)) ?_
        exact Goes.retBW X105 hS99 (by rw [e105]; exact hk99) hZ99 hEL (by rw [e105]; exact RR99) hx hlk hret (Or.inr rfl) (hb hby at_101) (by decide) (by decide) ⟨rfl, N105⟩
      · refine Goes.on (T' := T105) (g' := (mkF m 24 #[.val (.long x0), .second, .val (.ref r94), .val (.int (1 : Int32)), .unset] [(.long (-x0))])) (fun _ k => XS.ifNo X105.here hx rfl (hb hby at_19) rfl (XT.ll_eq_f hc106) (XS.lloadN X105.here hx rfl (hb hby at_22) rfl (XT.lneg X105.here hx rfl (hb hby at_23) rfl k))) ?_
        refine Goes.callSW X105 hx hZ99 hS99 hk99 hEL RR99.1 0 hown99 (own_w hw 0 rfl) (own_w hw 1 rfl) (own_w hw 2 rfl) (own_w hw 3 rfl) (by decide) e105 (rmUp l Z a0 hw (-x0) T99.heap n0 Z102 hEL (own_negn hneg hc106)) (by decide) (by decide) (by decide) (by decide) rfl (by rw [hml]; rfl) (argsL := [(.long (-x0))]) (rest := []) rfl (lenOf pd_1 rfl) rfl (by show 2 * 0 + _ ≤ _; exact Nat.le_of_eq rfl) (hb hby at_24) ?_
        intro v107 T107 L107 k107 X107 hS107 hk107 hZ107 hown107 R107 hQ107
        obtain ⟨r107, b107, kb107, rfl, N107q, K107, Q107⟩ := hQ107
        have N107 := Fr.app N105 N107q
        show Goes p e below _ T107 (mkF m 27 #[.val (.long x0), .second, .val (.ref r94), .val (.int (1 : Int32)), .unset] [(.ref r107)])
        have RR107 := RR99.trans R107
        have C108 := C100.keep K107 all0
        have C109 := C101.keep K107 nin0 nin0
        have Z111 : n0 ≤ T107.heap.size := Nat.le_trans Z102 K107.1
        refine Goes.on (T' := T107) (g' := (mkF m 62 #[.val (.long x0), .second, .val (.ref r94), .val (.int (1 : Int32)), .val (.ref r107)] [])) (fun _ k => XS.astore X107.here hx rfl (hb hby at_27) rfl rfl (l' := #[.val (.long x0), .second, .val (.ref r94), .val (.int (1 : Int32)), .val (.ref r107)]) rfl (XS.lloadN X107.here hx rfl (hb hby at_29) rfl (XS.lconst X107.here hx rfl (hb hby at_30) (XT.lcmp X107.here hx rfl (hb hby at_31) rfl (XS.ifYes X107.here hx rfl (pc0 := 32) (pc' := 58) rfl (hb hby at_32) rfl (XT.ll_ne_t (own_nn hneg).2) (by decide) (by decide) (XS.iloadN X107.here hx rfl (hb hby at_58) rfl (XS.ifNo X107.here hx rfl (hb hby at_59) rfl (XT.i0_eq_f (by decide)) k))))))) ?_
        obtain ⟨a114, T114, h114, k114, b114, kb114, X114, e114, E114, hS114, hk114, hZ114, hown114, A114, C114, V114, K114, lt114, lu114, R114, Lt114, sf114, st114⟩ := ldcCH X107 hx hZ107 hown107 (own_w hw 16 rfl) wS rfl hS107 hk107 hEL (List.mem_of_getElem? (i := 4) rfl) RR107.1 (vs := [Value.int 98, Value.int 105, Value.int 100]) (z := Int32.ofNat 3) ⟨by decide, by decide⟩ (by decide) (by decide) (g := (mkF m 62 #[.val (.long x0), .second, .val (.ref r94), .val (.int (1 : Int32)), .val (.ref r107)] [])) rfl (hb hby at_62) (n := 12) (by decide) (by decide) (by decide) (by decide)
        have C115 := C108.ext E114
        have C116 := C109.ext E114
        have C118 := Q107.ext E114
        have Z119 : n0 ≤ h114.size := Nat.le_trans Z111 E114.1
        have RR114 := RR107.trans R114
        have Q114 : Str Z h114 a114 b114 kb114 (Int32.ofNat 3) [Value.int 98, Value.int 105, Value.int 100] := ⟨A114, C114, V114, K114⟩
        refine Goes.on (T' := T114) (g' := (mkF m 65 #[.val (.long x0), .second, .val (.ref r94), .val (.int (1 : Int32)), .val (.ref r107)] [(.ref r94), (.ref a114)])) (fun _ k => st114 _ (XS.aloadN X114.here hx rfl (hb hby at_64) rfl rfl k)) ?_
        refine Goes.callV X114 hx hZ114 0 hown114 (own_w hw 17 rfl) (own_w hw 18 rfl) (notFace_of_selects (args := #[]) (mvT hZ114 (own_w hw 20 rfl))) (own_w hw 20 rfl) (own_w hw 19 rfl) (own_w hw 5 rfl) (own_w hw 21 rfl) (by decide) e114 Q114.1 (rmEq_bid_ask l Z a0 hw a114 r94 h114 n0 Z119 C115 cs SC hcs b114 b94 kb114 kb94 Q114 C116) (by decide) (by decide) (by decide) (by decide) rfl (by rw [hml]; rfl) (argsL := [(.ref r94)]) (rest := []) rfl (lenOf pd_2 rfl) rfl (by show 2 * 0 + _ ≤ _; exact Nat.le_of_eq rfl) (hb hby at_65) ?_
        intro v122 T122 L122 X122 hQ122
        obtain ⟨rfl, N122q, e122⟩ := hQ122
        have N122 := Fr.app N107 N122q
        show Goes p e below _ T122 (mkF m 68 #[.val (.long x0), .second, .val (.ref r94), .val (.int (1 : Int32)), .val (.ref r107)] [(.int (0 : Int32))])
        obtain ⟨a123, T123, h123, k123, b123, kb123, X123, e123, E123, hS123, hk123, hZ123, hown123, A123, C123, V123, K123, lt123, lu123, R123, Lt123, sf123, st123⟩ := ldcCH X122 hx hZ114 hown114 (own_w hw 24 rfl) wS e122 hS114 hk114 hEL (List.mem_of_getElem? (i := 5) rfl) RR114.1 (vs := [Value.int 97, Value.int 115, Value.int 107]) (z := Int32.ofNat 3) ⟨by decide, by decide⟩ (by decide) (by decide) (g := (mkF m 68 #[.val (.long x0), .second, .val (.ref r94), .val (.int (1 : Int32)), .val (.ref r107)] [(.int (0 : Int32))])) rfl (hb hby at_68) (n := 12) (by decide) (by decide) (by decide) (by decide)
        have C124 := C115.ext E123
        have C125 := C116.ext E123
        have C127 := C118.ext E123
        have Z129 : n0 ≤ h123.size := Nat.le_trans Z119 E123.1
        have RR123 := RR114.trans R123
        have Q123 : Str Z h123 a123 b123 kb123 (Int32.ofNat 3) [Value.int 97, Value.int 115, Value.int 107] := ⟨A123, C123, V123, K123⟩
        refine Goes.on (T' := T123) (g' := (mkF m 72 #[.val (.long x0), .second, .val (.ref r94), .val (.int (1 : Int32)), .val (.ref r107)] [(.ref r107), (.ref a123), (.int (0 : Int32))])) (fun _ k => st123 _ (XS.aload X123.here hx rfl (hb hby at_70) rfl rfl k)) ?_
        refine Goes.callV X123 hx hZ123 1 hown123 (own_w hw 17 rfl) (own_w hw 18 rfl) (notFace_of_selects (args := #[]) (mvT hZ123 (own_w hw 20 rfl))) (own_w hw 20 rfl) (own_w hw 19 rfl) (own_w hw 5 rfl) (own_w hw 21 rfl) (by decide) e123 Q123.1 (rmEq_ask_bid l Z a0 hw a123 r107 h123 n0 Z129 C124 cs SC hcs b123 b107 kb123 kb107 Q123 C127) (by decide) (by decide) (by decide) (by decide) rfl (by rw [hml]; rfl) (argsL := [(.ref r107)]) (rest := [(.int (0 : Int32))]) rfl (lenOf pd_2 rfl) rfl (by show 2 * 0 + _ ≤ _; exact Nat.le_of_eq rfl) (hb hby at_72) ?_
        intro v132 T132 L132 X132 hQ132
        obtain ⟨rfl, N132q, e132⟩ := hQ132
        have N132 := Fr.app N122 N132q
        show Goes p e below _ T132 (mkF m 75 #[.val (.long x0), .second, .val (.ref r94), .val (.int (1 : Int32)), .val (.ref r107)] [(.int (0 : Int32)), (.int (0 : Int32))])
        refine Goes.on (T' := T132) (g' := (mkF m 78 #[.val (.long x0), .second, .val (.ref r94), .val (.int (1 : Int32)), .val (.ref r107)] [])) (fun _ k => XS.icmpNo X132.here hx rfl (hb hby at_75) rfl (XT.ii_ne_f (by decide)) k) ?_
        obtain ⟨a133, T133, h133, k133, b133, kb133, X133, e133, E133, hS133, hk133, hZ133, hown133, A133, C133, V133, K133, lt133, lu133, R133, Lt133, sf133, st133⟩ := ldcCH X132 hx hZ123 hown123 (own_w hw 24 rfl) wS e132 hS123 hk123 hEL (List.mem_of_getElem? (i := 5) rfl) RR123.1 (vs := [Value.int 97, Value.int 115, Value.int 107]) (z := Int32.ofNat 3) ⟨by decide, by decide⟩ (by decide) (by decide) (g := (mkF m 78 #[.val (.long x0), .second, .val (.ref r94), .val (.int (1 : Int32)), .val (.ref r107)] [])) rfl (hb hby at_78) (n := 12) (by decide) (by decide) (by decide) (by decide)
        have C134 := C124.ext E133
        have C135 := C125.ext E133
        have C137 := C127.ext E133
        have Z140 : n0 ≤ h133.size := Nat.le_trans Z129 E133.1
        have RR133 := RR123.trans R133
        have Q133 : Str Z h133 a133 b133 kb133 (Int32.ofNat 3) [Value.int 97, Value.int 115, Value.int 107] := ⟨A133, C133, V133, K133⟩
        refine Goes.on (T' := T133) (g' := (mkF m 81 #[.val (.long x0), .second, .val (.ref r94), .val (.int (1 : Int32)), .val (.ref r107)] [(.ref r94), (.ref a133)])) (fun _ k => st133 _ (XS.aloadN X133.here hx rfl (hb hby at_80) rfl rfl k)) ?_
        refine Goes.callV X133 hx hZ133 0 hown133 (own_w hw 17 rfl) (own_w hw 18 rfl) (notFace_of_selects (args := #[]) (mvT hZ133 (own_w hw 20 rfl))) (own_w hw 20 rfl) (own_w hw 19 rfl) (own_w hw 5 rfl) (own_w hw 21 rfl) (by decide) e133 Q133.1 (rmEq_ask_ask l Z a0 hw a133 r94 h133 n0 Z140 C134 cs SC hcs b133 b94 kb133 kb94 Q133 C135) (by decide) (by decide) (by decide) (by decide) rfl (by rw [hml]; rfl) (argsL := [(.ref r94)]) (rest := []) rfl (lenOf pd_2 rfl) rfl (by show 2 * 0 + _ ≤ _; exact Nat.le_of_eq rfl) (hb hby at_81) ?_
        intro v143 T143 L143 X143 hQ143
        obtain ⟨rfl, N143q, e143⟩ := hQ143
        have N143 := Fr.app N132 N143q
        show Goes p e below _ T143 (mkF m 84 #[.val (.long x0), .second, .val (.ref r94), .val (.int (1 : Int32)), .val (.ref r107)] [(.int (1 : Int32))])
        obtain ⟨a144, T144, h144, k144, b144, kb144, X144, e144, E144, hS144, hk144, hZ144, hown144, A144, C144, V144, K144, lt144, lu144, R144, Lt144, sf144, st144⟩ := ldcCH X143 hx hZ133 hown133 (own_w hw 16 rfl) wS e143 hS133 hk133 hEL (List.mem_of_getElem? (i := 4) rfl) RR133.1 (vs := [Value.int 98, Value.int 105, Value.int 100]) (z := Int32.ofNat 3) ⟨by decide, by decide⟩ (by decide) (by decide) (g := (mkF m 84 #[.val (.long x0), .second, .val (.ref r94), .val (.int (1 : Int32)), .val (.ref r107)] [(.int (1 : Int32))])) rfl (hb hby at_84) (n := 12) (by decide) (by decide) (by decide) (by decide)
        have C145 := C134.ext E144
        have C148 := C137.ext E144
        have Z152 : n0 ≤ h144.size := Nat.le_trans Z140 E144.1
        have RR144 := RR133.trans R144
        have Q144 : Str Z h144 a144 b144 kb144 (Int32.ofNat 3) [Value.int 98, Value.int 105, Value.int 100] := ⟨A144, C144, V144, K144⟩
        refine Goes.on (T' := T144) (g' := (mkF m 88 #[.val (.long x0), .second, .val (.ref r94), .val (.int (1 : Int32)), .val (.ref r107)] [(.ref r107), (.ref a144), (.int (1 : Int32))])) (fun _ k => st144 _ (XS.aload X144.here hx rfl (hb hby at_86) rfl rfl k)) ?_
        refine Goes.callV X144 hx hZ144 1 hown144 (own_w hw 17 rfl) (own_w hw 18 rfl) (notFace_of_selects (args := #[]) (mvT hZ144 (own_w hw 20 rfl))) (own_w hw 20 rfl) (own_w hw 19 rfl) (own_w hw 5 rfl) (own_w hw 21 rfl) (by decide) e144 Q144.1 (rmEq_bid_bid l Z a0 hw a144 r107 h144 n0 Z152 C145 cs SC hcs b144 b107 kb144 kb107 Q144 C148) (by decide) (by decide) (by decide) (by decide) rfl (by rw [hml]; rfl) (argsL := [(.ref r107)]) (rest := [(.int (1 : Int32))]) rfl (lenOf pd_2 rfl) rfl (by show 2 * 0 + _ ≤ _; exact Nat.le_of_eq rfl) (hb hby at_88) ?_
        intro v155 T155 L155 X155 hQ155
        obtain ⟨rfl, N155q, e155⟩ := hQ155
        have N155 := Fr.app N143 N155q
        show Goes p e below _ T155 (mkF m 91 #[.val (.long x0), .second, .val (.ref r94), .val (.int (1 : Int32)), .val (.ref r107)] [(.int (1 : Int32)), (.int (1 : Int32))])
        refine Goes.on (T' := T155) (g' := (mkF m 101 #[.val (.long x0), .second, .val (.ref r94), .val (.int (1 : Int32)), .val (.ref r107)] [(.int (1 : Int32))])) (fun _ k => XS.icmpNo X155.here hx rfl (hb hby at_91) rfl (XT.ii_ne_f (by decide)) (XS.iconst X155.here hx rfl (hb hby at_94) (XS.goto X155.here hx rfl (pc0 := 95) (pc' := 99) rfl (hb hby at_95) (by decide) (by decide) (XS.istoreN X155.here hx rfl (hb hby at_99) rfl (l' := #[.val (.long x0), .second, .val (.ref r94), .val (.int (1 : Int32)), .val (.ref r107)]) rfl (XS.iloadN X155.here hx rfl (hb hby at_100) rfl k))))) ?_
        exact Goes.retBW X155 hS144 (by rw [e155]; exact hk144) hZ144 hEL (by rw [e155]; exact RR144) hx hlk hret (Or.inr rfl) (hb hby at_101) (by decide) (by decide) ⟨rfl, N155⟩
set_option maxRecDepth 65536 in
set_option maxHeartbeats 40000000 in
theorem comes_1 {Post : Tables → Env → Array Value → State → Outcome → State → Prop} (hpost : ∀ tb e args s v u, (limb_1_1.after args s (.returned v) u = true ∧ limb_1_2.after args s (.returned v) u = true ∧ True) → ReturnedEndW s (.returned v) u (Jvm.fieldLocs frame_1_writes args s ++ Jvm.arrayLocs frame_1_arrays args s ++ Jvm.staticLocs frame_1_statics s) 16 6208 → Post tb e args s (.returned v) u) :
    ArmFor flags0 classFile x code maxLocals ret World_1 tables_1 room_1 Calls_1 rest_1 Pre_1 Post := by
  intro l hfl _ _ p e ha hc hk s m args below hf hA hF happ hP
  obtain ⟨hcalls, hrest, hpre⟩ := hP
  obtain ⟨-, -, -, hnamed, -, -, -, hat⟩ := (Spec.applies_iff hf).mp happ
  obtain ⟨hg, hn⟩ := and_e (Cond.before_iff.mp (show (Jvm.Cond.and given_1 narrow_1).before args s = true from hpre))
  obtain ⟨g0, r0⟩ := and_e hg
  obtain ⟨w0, rfl⟩ : ∃ w0 : Value, args = #[w0] := by
    have hs : args.size = 1 := by simpa [Cond.value, given_1] using g0
    obtain ⟨L⟩ := args
    match L, hs with
    | [w0], _ => exact ⟨w0, rfl⟩
  have hw := fun d (hd : d ∈ tables_1) => atoms_spec (ws := Jvm.Cond.code x code maxLocals ret :: tables_1) hat d (List.mem_cons_of_mem _ hd)
  have hfit : Fit s := fun {y c} hc i hi => by
    obtain ⟨ha, rfl⟩ := Array.getElem?_eq_some_iff.mp hc
    have q := List.all_eq_true.mp ((Array.all_eq_true_iff_forall_mem.mp hF) _ (Array.getElem_mem ha)) i (List.mem_range.mpr hi)
    simpa [Array.getElem?_eq_getElem hi] using q
  obtain ⟨i0, ei0⟩ := isL_v r0
  obtain rfl : w0 = (.long i0) := Option.some.inj ei0
  obtain ⟨hsets, hown0⟩ := atoms_of _ (rest_1_c_eq ▸ (show rest_1_c.before _ s = true from hrest))
  obtain ⟨cs, ecs⟩ := is_v (Cond.before_iff.mp (hsets _ (List.mem_of_getElem? (i := 1) rfl)))
  have SC := Sta.start ecs (Or.inl (hsets _ (List.mem_of_getElem? (i := 0) rfl)))
  have nz := not_v (Cond.before_iff.mp (hsets _ (List.mem_of_getElem? (i := 2) rfl)))
  have hcs : ¬ cs = (0 : Int32) := gotF (Cond.eq_ints ecs (Term.int_eval (0))) nz
  have hCH : CHv s consts_1 s.vm s.heap := CHv.start (own_EW hw) (fun p hp => hcalls.1 p hp) (hsets _ (List.mem_of_getElem? (i := 2) rfl)) (own_w hw 7 rfl) (own_w hw 6 rfl)
  obtain ⟨n, o, h1, h2, h3, _, L, rfl, ⟨rfl, N⟩, -, hq⟩ := rm0 l s _ hw i0 s.heap s.heap.size (Nat.le_refl _) (Old.start s) (own_EW hw) cs SC hcs p e ha hc hk s m _ below hf ((Spec.applies_iff_loose hf).mp happ).1 ⟨rfl, State.Warmed39.refl s, rfl, hCH⟩ trivial
  refine ⟨n, _, h1, h2, h3, hpost _ _ _ _ _ _ ⟨Cond.after_iff.mpr rfl, Cond.after_iff.mpr (eq_i res_at (Term.int_eval (1)) rfl), trivial⟩ ⟨hq.1, hq.2.1, hq.2.2.1, (hq.2.2.2.sift fun y hy => Or.inr (N y hy)).mono (by decide) (by decide)⟩⟩
theorem main_1_1 : Claimed_1_1 := comes_1 fun _ _ _ _ _ _ h hF => ⟨h.1, hF⟩
theorem main_1_2 : Claimed_1_2 := comes_1 fun _ _ _ _ _ _ h hF => ⟨h.2.1, hF⟩

end Jvm.Pilot.@@N@@
namespace Jvm.Pilot.@@N@@
open Jvm Jvm.ClassFile Sem Op Lib Jvm.Free Jvm.Stand Jvm.Pilot.@@N@@.Jvm.D
/-! MADE BY PROGRAM (witnessworld.py) out of the Statement's table words and the real class files: 17 classes; the members and pool entries that the words name. The judged class is class 1, her method 2. -/
namespace start1
open Jvm.ClassFile
def u (s : String) : CpInfo := .utf8 (stringToUtf16 s)
/-- a pool by its gaps: so many unusable entries, then the entry; so many at the end -/
def gap : Nat → List CpInfo → List CpInfo
  | 0, r => r
  | n + 1, r => .unusable :: gap n r
def poolList (es : List (Nat × CpInfo)) (last : Nat) : List CpInfo := es.foldr (fun e r => gap e.1 (e.2 :: r)) (gap last [])
def pool (es : List (Nat × CpInfo)) (last : Nat) : Array CpInfo := ⟨poolList es last⟩
def fileOf (pool : Array CpInfo) (this : Nat) (attrs : Array Attribute := #[]) (ms : Array MethodInfo := #[]) (fl : Nat := 33) (sup : Nat := 0) (ifs : Array Nat := #[]) (fds : Array FieldInfo := #[]) : ClassFile where
  minorVersion := 0
  majorVersion := 65
  constantPool := pool
  accessFlags := fl
  thisClass := this
  superClass := sup
  interfaces := ifs
  fields := fds
  methods := ms
  attributes := attrs
def plain (name : String) (sup : Option ClassId) : Class where
  name := name
  kind := .ordinary
  loader := none
  accessFlags := 33
  super := sup
  interfaces := #[]
  cf := none
  fields := #[]
  methods := #[]
  instanceTypes := #[]
  staticTypes := #[]
  resolved := #[]
  callSites := []
  init := .initialized
  statics := none
  mirror := none

def pool0 : Array CpInfo := pool [(5, u "<init>"), (0, u "()V"), (1, .class_ 10), (1, u "java/lang/Object")] 113

def k0m0 : Method := { name := "<init>", desc := "()V", sig := { parameters := [], returnType := none }, accessFlags := 1, code := none }
/-- java/lang/Object -/
def k0 : Class := { plain "java/lang/Object" none with
  accessFlags := 33
  interfaces := #[]
  cf := some (fileOf pool0 8 #[] #[{ accessFlags := 1, nameIndex := 5, descriptorIndex := 6, attributes := #[] }] 33 0 #[] #[])
  fields := #[]
  methods := #[k0m0]
  instanceTypes := #[]
  staticTypes := #[]
  resolved := Array.replicate 124 none
  statics := none }

def pool1 : Array CpInfo := pool [(2, .class_ 4), (1, u "java/lang/Object"), (0, u "<init>"), (0, u "()V"), (0, .string 8), (0, u "none"), (0, .string 10), (0, u "bid"), (0, .string 12), (0, u "ask"), (0, .methodref 14 15), (0, .class_ 16), (0, .nameAndType 17 18), (0, u "com/example/uncross/uncross/io/AuctionSummary"), (0, u "surplusSide"), (0, u "(J)Ljava/lang/String;"), (0, .methodref 20 21), (0, .class_ 22), (0, .nameAndType 23 18), (0, u "com/example/uncross/uncross/io/AuctionSummarySurplusSidePinLaw"), (0, u "expected"), (0, .methodref 25 26), (0, .class_ 27), (0, .nameAndType 28 29), (0, u "java/lang/String"), (0, u "equals"), (0, u "(Ljava/lang/Object;)Z"), (2, .long 9223372036854775808), (4, u "law"), (0, u "(J)Z")] 2

def k1m0 : Method := { name := "<init>", desc := "()V", sig := { parameters := [], returnType := none }, accessFlags := 2, code := none }
def k1c1 : Code := { maxStack := 4, maxLocals := 2, code := method_2_code, exceptionTable := #[], attributes := #[] }
def k1m1 : Method := { name := "expected", desc := "(J)Ljava/lang/String;", sig := { parameters := [.long], returnType := some (.object "java/lang/String") }, accessFlags := 10, code := some k1c1 }
def k1c2 : Code := { maxStack := 4, maxLocals := 5, code := code, exceptionTable := #[], attributes := #[] }
def k1m2 : Method := { name := "law", desc := "(J)Z", sig := { parameters := [.long], returnType := some .boolean }, accessFlags := 9, code := some k1c2 }
/-- com/example/uncross/uncross/io/AuctionSummarySurplusSidePinLaw -/
def k1 : Class := { plain "com/example/uncross/uncross/io/AuctionSummarySurplusSidePinLaw" (some 0) with
  accessFlags := 49
  interfaces := #[]
  cf := some (fileOf pool1 20 #[] #[{ accessFlags := 2, nameIndex := 5, descriptorIndex := 6, attributes := #[] }, { accessFlags := 10, nameIndex := 23, descriptorIndex := 18, attributes := #[] }, { accessFlags := 9, nameIndex := 37, descriptorIndex := 38, attributes := #[] }] 49 2 #[] #[])
  fields := #[]
  methods := #[k1m0, k1m1, k1m2]
  instanceTypes := #[]
  staticTypes := #[]
  resolved := Array.replicate 41 none
  statics := none }

def pool2 : Array CpInfo := pool [(2, .class_ 4), (1, u "java/lang/Object"), (0, u "<init>"), (0, u "()V"), (3, .class_ 12), (1, u "com/example/uncross/uncross/io/AuctionSummary"), (26, u "(J)Ljava/lang/String;"), (11, u "surplusSide"), (4, .string 57), (0, u "bid"), (0, .string 59), (0, u "ask"), (0, .string 61), (0, u "none"), (35, u "BID"), (0, u "Ljava/lang/String;"), (1, u "ASK"), (0, u "NONE")] 31

def k2m0 : Method := { name := "<init>", desc := "()V", sig := { parameters := [], returnType := none }, accessFlags := 2, code := none }
def k2c1 : Code := { maxStack := 4, maxLocals := 2, code := prog_37_method_4_code, exceptionTable := #[], attributes := #[] }
def k2m1 : Method := { name := "surplusSide", desc := "(J)Ljava/lang/String;", sig := { parameters := [.long], returnType := some (.object "java/lang/String") }, accessFlags := 8, code := some k2c1 }
/-- com/example/uncross/uncross/io/AuctionSummary -/
def k2 : Class := { plain "com/example/uncross/uncross/io/AuctionSummary" (some 0) with
  accessFlags := 49
  interfaces := #[]
  cf := some (fileOf pool2 10 #[] #[{ accessFlags := 2, nameIndex := 5, descriptorIndex := 6, attributes := #[] }, { accessFlags := 8, nameIndex := 51, descriptorIndex := 39, attributes := #[] }] 49 2 #[] #[{ accessFlags := 24, nameIndex := 97, descriptorIndex := 98, attributes := #[] }, { accessFlags := 24, nameIndex := 100, descriptorIndex := 98, attributes := #[] }, { accessFlags := 24, nameIndex := 101, descriptorIndex := 98, attributes := #[] }])
  fields := #[{ name := "BID", type := (.object "java/lang/String"), accessFlags := 24, slot := 0, constantValue := 0 }, { name := "ASK", type := (.object "java/lang/String"), accessFlags := 24, slot := 1, constantValue := 0 }, { name := "NONE", type := (.object "java/lang/String"), accessFlags := 24, slot := 2, constantValue := 0 }]
  methods := #[k2m0, k2m1]
  instanceTypes := #[]
  staticTypes := #[(.object "java/lang/String"), (.object "java/lang/String"), (.object "java/lang/String")]
  resolved := Array.replicate 133 none
  statics := none }

def pool3 : Array CpInfo := pool [(1, .class_ 2), (0, u "java/io/Serializable"), (0, .class_ 4), (0, u "java/lang/Object")] 2

/-- java/io/Serializable -/
def k3 : Class := { plain "java/io/Serializable" (some 0) with
  accessFlags := 1537
  interfaces := #[]
  cf := some (fileOf pool3 1 #[] #[] 1537 3 #[] #[])
  fields := #[]
  methods := #[]
  instanceTypes := #[]
  staticTypes := #[]
  resolved := Array.replicate 7 none
  statics := none }

def pool4 : Array CpInfo := pool [(1, .class_ 2), (0, u "java/lang/Comparable"), (0, .class_ 4), (0, u "java/lang/Object")] 7

/-- java/lang/Comparable -/
def k4 : Class := { plain "java/lang/Comparable" (some 0) with
  accessFlags := 1537
  interfaces := #[]
  cf := some (fileOf pool4 1 #[] #[] 1537 3 #[] #[])
  fields := #[]
  methods := #[]
  instanceTypes := #[]
  staticTypes := #[]
  resolved := Array.replicate 12 none
  statics := none }

def pool5 : Array CpInfo := pool [(2, .class_ 4), (1, u "java/lang/CharSequence"), (42, .class_ 48), (0, u "java/lang/CharSequence$1CodePointIterator"), (10, .class_ 60), (0, u "java/lang/CharSequence$1CharIterator"), (5, .class_ 67), (0, u "java/lang/Object")] 63

/-- java/lang/CharSequence -/
def k5 : Class := { plain "java/lang/CharSequence" (some 0) with
  accessFlags := 1537
  interfaces := #[]
  cf := some (fileOf pool5 2 #[.nestMembers #[47, 59]] #[] 1537 66 #[] #[])
  fields := #[]
  methods := #[]
  instanceTypes := #[]
  staticTypes := #[]
  resolved := Array.replicate 131 none
  statics := none }

def pool6 : Array CpInfo := pool [(1, .class_ 2), (0, u "java/lang/constant/Constable"), (0, .class_ 4), (0, u "java/lang/Object")] 6

/-- java/lang/constant/Constable -/
def k6 : Class := { plain "java/lang/constant/Constable" (some 0) with
  accessFlags := 1537
  interfaces := #[]
  cf := some (fileOf pool6 1 #[] #[] 1537 3 #[] #[])
  fields := #[]
  methods := #[]
  instanceTypes := #[]
  staticTypes := #[]
  resolved := Array.replicate 11 none
  statics := none }

def pool7 : Array CpInfo := pool [(1, .class_ 2), (0, u "java/lang/constant/ConstantDesc"), (0, .class_ 4), (0, u "java/lang/Object")] 32

/-- java/lang/constant/ConstantDesc -/
def k7 : Class := { plain "java/lang/constant/ConstantDesc" (some 0) with
  accessFlags := 1537
  interfaces := #[]
  cf := some (fileOf pool7 1 #[] #[] 1537 3 #[] #[])
  fields := #[]
  methods := #[]
  instanceTypes := #[]
  staticTypes := #[]
  resolved := Array.replicate 37 none
  statics := none }

def pool8 : Array CpInfo := pool [(2, .class_ 4), (1, u "java/lang/Object"), (0, u "<init>"), (0, u "()V"), (2, .fieldref 10 11), (0, .class_ 12), (0, .nameAndType 13 14), (0, u "java/lang/String"), (0, u "value"), (0, u "[B"), (0, .fieldref 10 16), (0, .nameAndType 17 18), (0, u "coder"), (0, u "B"), (2, u "hash"), (0, u "I"), (2, u "hashIsZero"), (0, u "Z"), (11, .fieldref 10 39), (0, .nameAndType 40 26), (0, u "COMPACT_STRINGS"), (66, .class_ 109), (1, u "java/lang/StringLatin1"), (431, .methodref 107 542), (0, .nameAndType 543 544), (0, u "equals"), (0, u "([B[B)Z"), (28, u "(Ljava/lang/Object;)Z"), (1, .class_ 576), (0, u "java/lang/CharSequence"), (22, u "CASE_INSENSITIVE_ORDER"), (0, u "Ljava/util/Comparator;"), (500, u "serialPersistentFields"), (0, u "[Ljava/io/ObjectStreamField;"), (0, .class_ 1104), (0, u "java/lang/String$CaseInsensitiveComparator"), (1, .class_ 1107), (0, u "java/io/Serializable"), (0, .class_ 1109), (0, u "java/lang/Comparable"), (0, .class_ 1111), (0, u "java/lang/constant/Constable"), (0, .class_ 1113), (0, u "java/lang/constant/ConstantDesc"), (2, u "serialVersionUID"), (0, u "J"), (3, u "REPL"), (0, u "C"), (2, u "LATIN1"), (1, u "UTF16")] 323

def k8m0 : Method := { name := "<init>", desc := "()V", sig := { parameters := [], returnType := none }, accessFlags := 1, code := none }
def k8c1 : Code := { maxStack := 2, maxLocals := 3, code := jdk_42_method_66_code, exceptionTable := #[], attributes := #[] }
def k8m1 : Method := { name := "equals", desc := "(Ljava/lang/Object;)Z", sig := { parameters := [(.object "java/lang/Object")], returnType := some .boolean }, accessFlags := 1, code := some k8c1 }
/-- java/lang/String -/
def k8 : Class := { plain "java/lang/String" (some 0) with
  accessFlags := 49
  interfaces := #[3, 4, 5, 6, 7]
  cf := some (fileOf pool8 10 #[.nestMembers #[1103]] #[{ accessFlags := 1, nameIndex := 5, descriptorIndex := 6, attributes := #[] }, { accessFlags := 1, nameIndex := 543, descriptorIndex := 573, attributes := #[] }] 49 2 #[1106, 1108, 575, 1110, 1112] #[{ accessFlags := 18, nameIndex := 13, descriptorIndex := 14, attributes := #[] }, { accessFlags := 18, nameIndex := 17, descriptorIndex := 18, attributes := #[] }, { accessFlags := 2, nameIndex := 21, descriptorIndex := 22, attributes := #[] }, { accessFlags := 2, nameIndex := 25, descriptorIndex := 26, attributes := #[] }, { accessFlags := 26, nameIndex := 1116, descriptorIndex := 1117, attributes := #[] }, { accessFlags := 24, nameIndex := 40, descriptorIndex := 26, attributes := #[] }, { accessFlags := 26, nameIndex := 1101, descriptorIndex := 1102, attributes := #[] }, { accessFlags := 26, nameIndex := 1121, descriptorIndex := 1122, attributes := #[] }, { accessFlags := 25, nameIndex := 599, descriptorIndex := 600, attributes := #[] }, { accessFlags := 24, nameIndex := 1125, descriptorIndex := 18, attributes := #[] }, { accessFlags := 24, nameIndex := 1127, descriptorIndex := 18, attributes := #[] }])
  fields := #[{ name := "value", type := (.array .byte), accessFlags := 18, slot := 0, constantValue := 0 }, { name := "coder", type := .byte, accessFlags := 18, slot := 1, constantValue := 0 }, { name := "hash", type := .int, accessFlags := 2, slot := 2, constantValue := 0 }, { name := "hashIsZero", type := .boolean, accessFlags := 2, slot := 3, constantValue := 0 }, { name := "serialVersionUID", type := .long, accessFlags := 26, slot := 0, constantValue := 0 }, { name := "COMPACT_STRINGS", type := .boolean, accessFlags := 24, slot := 1, constantValue := 0 }, { name := "serialPersistentFields", type := (.array (.object "java/io/ObjectStreamField")), accessFlags := 26, slot := 2, constantValue := 0 }, { name := "REPL", type := .char, accessFlags := 26, slot := 3, constantValue := 0 }, { name := "CASE_INSENSITIVE_ORDER", type := (.object "java/util/Comparator"), accessFlags := 25, slot := 4, constantValue := 0 }, { name := "LATIN1", type := .byte, accessFlags := 24, slot := 5, constantValue := 0 }, { name := "UTF16", type := .byte, accessFlags := 24, slot := 6, constantValue := 0 }]
  methods := #[k8m0, k8m1]
  instanceTypes := #[(.array .byte), .byte, .int, .boolean]
  staticTypes := #[.long, .boolean, (.array (.object "java/io/ObjectStreamField")), .char, (.object "java/util/Comparator"), .byte, .byte]
  resolved := Array.replicate 1451 none
  statics := some 0 }

def pool9 : Array CpInfo := pool [(4, .class_ 6), (1, u "java/lang/Object"), (0, u "<init>"), (0, u "()V"), (5, .class_ 16), (1, u "java/lang/StringLatin1"), (104, u "$assertionsDisabled"), (0, u "Z"), (98, .class_ 223), (1, u "java/lang/StringLatin1$LinesSpliterator"), (57, u "equals"), (0, u "([B[B)Z"), (107, .class_ 391), (0, u "java/lang/StringLatin1$CharsSpliterator")] 3

def k9m0 : Method := { name := "<init>", desc := "()V", sig := { parameters := [], returnType := none }, accessFlags := 0, code := none }
def k9c1 : Code := { maxStack := 3, maxLocals := 3, code := jdk_43_method_13_code, exceptionTable := #[], attributes := #[] }
def k9m1 : Method := { name := "equals", desc := "([B[B)Z", sig := { parameters := [(.array .byte), (.array .byte)], returnType := some .boolean }, accessFlags := 9, code := some k9c1 }
/-- java/lang/StringLatin1 -/
def k9 : Class := { plain "java/lang/StringLatin1" (some 0) with
  accessFlags := 48
  interfaces := #[]
  cf := some (fileOf pool9 14 #[.nestMembers #[390, 221]] #[{ accessFlags := 0, nameIndex := 7, descriptorIndex := 8, attributes := #[] }, { accessFlags := 9, nameIndex := 281, descriptorIndex := 282, attributes := #[] }] 48 4 #[] #[{ accessFlags := 4120, nameIndex := 121, descriptorIndex := 122, attributes := #[] }])
  fields := #[{ name := "$assertionsDisabled", type := .boolean, accessFlags := 4120, slot := 0, constantValue := 0 }]
  methods := #[k9m0, k9m1]
  instanceTypes := #[]
  staticTypes := #[.boolean]
  resolved := Array.replicate 395 none
  statics := none }

def pool10 : Array CpInfo := pool [(2, .class_ 4), (1, u "java/lang/Object"), (0, u "<init>"), (0, u "()V"), (17, .class_ 26), (1, u "jdk/internal/util/Preconditions"), (28, .class_ 56), (0, u "jdk/internal/util/Preconditions$4"), (57, .class_ 115), (0, u "jdk/internal/util/Preconditions$1"), (7, u "SIOOBE_FORMATTER"), (0, u "Ljava/util/function/BiFunction;"), (0, .class_ 126), (0, u "jdk/internal/util/Preconditions$2"), (3, u "AIOOBE_FORMATTER"), (0, .class_ 132), (0, u "jdk/internal/util/Preconditions$3"), (3, u "IOOBE_FORMATTER")] 57

def k10m0 : Method := { name := "<init>", desc := "()V", sig := { parameters := [], returnType := none }, accessFlags := 1, code := none }
/-- jdk/internal/util/Preconditions -/
def k10 : Class := { plain "jdk/internal/util/Preconditions" (some 0) with
  accessFlags := 33
  interfaces := #[]
  cf := some (fileOf pool10 24 #[.nestMembers #[55, 131, 125, 114]] #[{ accessFlags := 1, nameIndex := 5, descriptorIndex := 6, attributes := #[] }] 33 2 #[] #[{ accessFlags := 25, nameIndex := 123, descriptorIndex := 124, attributes := #[] }, { accessFlags := 25, nameIndex := 130, descriptorIndex := 124, attributes := #[] }, { accessFlags := 25, nameIndex := 136, descriptorIndex := 124, attributes := #[] }])
  fields := #[{ name := "SIOOBE_FORMATTER", type := (.object "java/util/function/BiFunction"), accessFlags := 25, slot := 0, constantValue := 0 }, { name := "AIOOBE_FORMATTER", type := (.object "java/util/function/BiFunction"), accessFlags := 25, slot := 1, constantValue := 0 }, { name := "IOOBE_FORMATTER", type := (.object "java/util/function/BiFunction"), accessFlags := 25, slot := 2, constantValue := 0 }]
  methods := #[k10m0]
  instanceTypes := #[]
  staticTypes := #[(.object "java/util/function/BiFunction"), (.object "java/util/function/BiFunction"), (.object "java/util/function/BiFunction")]
  resolved := Array.replicate 194 none
  statics := some 1 }

def pool11 : Array CpInfo := pool [(9, u "<init>"), (6, .class_ 18), (1, u "java/lang/Object"), (0, u "()V"), (1, .class_ 23), (1, u "jdk/internal/util/ArraysSupport"), (0, u "LOG2_ARRAY_LONG_INDEX_SCALE"), (0, u "I"), (2, u "U"), (0, u "Ljdk/internal/misc/Unsafe;"), (8, u "BIG_ENDIAN"), (0, u "Z"), (8, u "LOG2_BYTE_BIT_SIZE"), (4, u "LOG2_ARRAY_INT_INDEX_SCALE"), (54, u "JLA"), (0, u "Ljdk/internal/access/JavaLangAccess;"), (11, u "LOG2_ARRAY_BOOLEAN_INDEX_SCALE"), (9, u "LOG2_ARRAY_BYTE_INDEX_SCALE"), (5, u "LOG2_ARRAY_CHAR_INDEX_SCALE"), (5, u "LOG2_ARRAY_SHORT_INDEX_SCALE"), (18, u "LOG2_ARRAY_FLOAT_INDEX_SCALE"), (24, u "LOG2_ARRAY_DOUBLE_INDEX_SCALE"), (89, u "T_BOOLEAN"), (2, u "T_CHAR"), (1, u "T_FLOAT"), (1, u "T_DOUBLE"), (1, u "T_BYTE"), (1, u "T_SHORT"), (1, u "T_INT"), (1, u "T_LONG"), (1, u "SOFT_MAX_ARRAY_LENGTH")] 83

def k11m0 : Method := { name := "<init>", desc := "()V", sig := { parameters := [], returnType := none }, accessFlags := 2, code := none }
/-- jdk/internal/util/ArraysSupport -/
def k11 : Class := { plain "jdk/internal/util/ArraysSupport" (some 0) with
  accessFlags := 33
  interfaces := #[]
  cf := some (fileOf pool11 21 #[] #[{ accessFlags := 2, nameIndex := 9, descriptorIndex := 19, attributes := #[] }] 33 16 #[] #[{ accessFlags := 24, nameIndex := 28, descriptorIndex := 29, attributes := #[] }, { accessFlags := 26, nameIndex := 38, descriptorIndex := 39, attributes := #[] }, { accessFlags := 25, nameIndex := 121, descriptorIndex := 25, attributes := #[] }, { accessFlags := 25, nameIndex := 131, descriptorIndex := 25, attributes := #[] }, { accessFlags := 25, nameIndex := 137, descriptorIndex := 25, attributes := #[] }, { accessFlags := 25, nameIndex := 143, descriptorIndex := 25, attributes := #[] }, { accessFlags := 25, nameIndex := 53, descriptorIndex := 25, attributes := #[] }, { accessFlags := 25, nameIndex := 24, descriptorIndex := 25, attributes := #[] }, { accessFlags := 25, nameIndex := 162, descriptorIndex := 25, attributes := #[] }, { accessFlags := 25, nameIndex := 187, descriptorIndex := 25, attributes := #[] }, { accessFlags := 26, nameIndex := 48, descriptorIndex := 25, attributes := #[] }, { accessFlags := 25, nameIndex := 277, descriptorIndex := 25, attributes := #[] }, { accessFlags := 25, nameIndex := 280, descriptorIndex := 25, attributes := #[] }, { accessFlags := 25, nameIndex := 282, descriptorIndex := 25, attributes := #[] }, { accessFlags := 25, nameIndex := 284, descriptorIndex := 25, attributes := #[] }, { accessFlags := 25, nameIndex := 286, descriptorIndex := 25, attributes := #[] }, { accessFlags := 25, nameIndex := 288, descriptorIndex := 25, attributes := #[] }, { accessFlags := 25, nameIndex := 290, descriptorIndex := 25, attributes := #[] }, { accessFlags := 25, nameIndex := 292, descriptorIndex := 25, attributes := #[] }, { accessFlags := 26, nameIndex := 108, descriptorIndex := 109, attributes := #[] }, { accessFlags := 25, nameIndex := 294, descriptorIndex := 25, attributes := #[] }])
  fields := #[{ name := "U", type := (.object "jdk/internal/misc/Unsafe"), accessFlags := 24, slot := 0, constantValue := 0 }, { name := "BIG_ENDIAN", type := .boolean, accessFlags := 26, slot := 1, constantValue := 0 }, { name := "LOG2_ARRAY_BOOLEAN_INDEX_SCALE", type := .int, accessFlags := 25, slot := 2, constantValue := 0 }, { name := "LOG2_ARRAY_BYTE_INDEX_SCALE", type := .int, accessFlags := 25, slot := 3, constantValue := 0 }, { name := "LOG2_ARRAY_CHAR_INDEX_SCALE", type := .int, accessFlags := 25, slot := 4, constantValue := 0 }, { name := "LOG2_ARRAY_SHORT_INDEX_SCALE", type := .int, accessFlags := 25, slot := 5, constantValue := 0 }, { name := "LOG2_ARRAY_INT_INDEX_SCALE", type := .int, accessFlags := 25, slot := 6, constantValue := 0 }, { name := "LOG2_ARRAY_LONG_INDEX_SCALE", type := .int, accessFlags := 25, slot := 7, constantValue := 0 }, { name := "LOG2_ARRAY_FLOAT_INDEX_SCALE", type := .int, accessFlags := 25, slot := 8, constantValue := 0 }, { name := "LOG2_ARRAY_DOUBLE_INDEX_SCALE", type := .int, accessFlags := 25, slot := 9, constantValue := 0 }, { name := "LOG2_BYTE_BIT_SIZE", type := .int, accessFlags := 26, slot := 10, constantValue := 0 }, { name := "T_BOOLEAN", type := .int, accessFlags := 25, slot := 11, constantValue := 0 }, { name := "T_CHAR", type := .int, accessFlags := 25, slot := 12, constantValue := 0 }, { name := "T_FLOAT", type := .int, accessFlags := 25, slot := 13, constantValue := 0 }, { name := "T_DOUBLE", type := .int, accessFlags := 25, slot := 14, constantValue := 0 }, { name := "T_BYTE", type := .int, accessFlags := 25, slot := 15, constantValue := 0 }, { name := "T_SHORT", type := .int, accessFlags := 25, slot := 16, constantValue := 0 }, { name := "T_INT", type := .int, accessFlags := 25, slot := 17, constantValue := 0 }, { name := "T_LONG", type := .int, accessFlags := 25, slot := 18, constantValue := 0 }, { name := "JLA", type := (.object "jdk/internal/access/JavaLangAccess"), accessFlags := 26, slot := 19, constantValue := 0 }, { name := "SOFT_MAX_ARRAY_LENGTH", type := .int, accessFlags := 25, slot := 20, constantValue := 0 }]
  methods := #[k11m0]
  instanceTypes := #[]
  staticTypes := #[(.object "jdk/internal/misc/Unsafe"), .boolean, .int, .int, .int, .int, .int, .int, .int, .int, .int, .int, .int, .int, .int, .int, .int, .int, .int, (.object "jdk/internal/access/JavaLangAccess"), .int]
  resolved := Array.replicate 378 none
  statics := none }

def pool12 : Array CpInfo := pool [(1, u "java/lang/Cloneable"), (0, .class_ 1), (0, u "java/lang/Object"), (0, .class_ 3)] 3

/-- java/lang/Cloneable -/
def k12 : Class := { plain "java/lang/Cloneable" (some 0) with
  accessFlags := 1537
  interfaces := #[]
  cf := some (fileOf pool12 2 #[] #[] 1537 4 #[] #[])
  fields := #[]
  methods := #[]
  instanceTypes := #[]
  staticTypes := #[]
  resolved := Array.replicate 8 none
  statics := none }

/-- the primitive byte -/
def k13 : Class := { plain "byte" none with kind := .primitive 'B', accessFlags := 0x411 }
/-- [B -/
def k14 : Class := { plain "[B" (some 0) with kind := .array 13 .byte, interfaces := #[12, 3], accessFlags := 1041 }

/-- the primitive int -/
def k15 : Class := { plain "int" none with kind := .primitive 'I', accessFlags := 0x411 }
/-- [I -/
def k16 : Class := { plain "[I" (some 0) with kind := .array 15 .int, interfaces := #[12, 3], accessFlags := 1041 }

def heap : Heap := #[{ cls := 8, slots := #[.long 0, .int 1, .null, .int 0, .null, .int 0, .int 0], vm := .statics 8 },
  { cls := 10, slots := #[.null, .null, .null], vm := .statics 10 }]
def classes : Array Class := #[k0, k1, k2, k3, k4, k5, k6, k7, k8, k9, k10, k11, k12, k13, k14, k15, k16]
def interned : List (Array UInt16 × Addr) := []
def slotsUsed : Nat := 10
def theMethod : MethodId := ⟨1, 2⟩
def args0 : Array Value := #[.long 5]
def aboutOver (below : List Frame) : State where
  vm := { classes := classes, interned := interned.toArray }
  heap := heap
  slotsUsed := slotsUsed
  threads := #[{ frames := .invoking theMethod args0 :: below }]
def below0 : List Frame := [.native { method := ⟨0, 0⟩, args := #[] }]
def about1 : State := aboutOver below0
def p0 : Program := .bare "" "" ""
def e0 : Env := launch0.env 0 0 0
theorem w_frames : about1.frames = Frame.invoking theMethod args0 :: below0 := rfl
set_option maxRecDepth 65536 in
theorem w_args : argsFit about1.vm theMethod args0 = true := by decide +kernel
set_option maxRecDepth 65536 in
theorem w_heap : heapFits about1 = true := by decide +kernel
set_option maxRecDepth 65536 in
theorem w_runnable : about1.curStatus? = some .runnable := by decide +kernel
set_option maxRecDepth 65536 in
theorem w_alone : about1.alone = true := by decide +kernel
set_option maxRecDepth 65536 in
theorem w_named : about1.methodNamed? x = some theMethod := by decide +kernel
set_option maxRecDepth 65536 in
theorem w_hears : about1.hears theMethod below0 = true := by decide +kernel
set_option maxRecDepth 65536 in
theorem w_ripe : about1.ripe theMethod args0 below0 = true := by decide +kernel
theorem w_running : about1.status = .running := rfl
set_option maxRecDepth 65536 in
theorem w_room : about1.hasRoom e0.platform room_1 = true :=
  launch0.hasRoom_least _ room_1 (by decide +kernel) (by decide +kernel) (by decide +kernel) (by decide +kernel) (by decide +kernel) (by decide +kernel)
theorem allAtoms_all (ts : List Jvm.Cond) (a : Array Jvm.Value) (st : Jvm.State) : (allAtoms ts).before a st = ts.all (fun c => c.before a st) := by
  induction ts with
  | nil => rfl
  | cons c t ih =>
    show (Jvm.Cond.and c (allAtoms t)).before a st = _
    rw [Jvm.Cond.before_and, ih, List.all_cons]
def words1 : List Jvm.Cond := Jvm.Cond.code x code maxLocals ret :: tables_1
/-- a 'code' word, met by the world's own term for the bytes: nothing is compared byte by byte -/
theorem code_word {y : MethodName} {bytes : ByteArray} {mx : Nat} {rt : Option FieldType} {a : Array Value} {s : State} {m : MethodId} {meth : Method} {c : Code} (h1 : s.methodNamed? y = some m) (h2 : s.vm.method? m = some meth) (h3 : meth.code = some c) (h4 : c.code = bytes)
    (h5 : (c.maxLocals == mx && c.exceptionTable.isEmpty && decide (c.maxStack ≤ mostOperands) && decide (meth.sig.returnType = rt) && !meth.locks && decide (parseMethodDescriptor y.desc = some meth.sig)) = true) : (Jvm.Cond.code y bytes mx rt).before a s = true := by
  simp only [Bool.and_eq_true, beq_iff_eq, Bool.not_eq_true', decide_eq_true_eq] at h5
  obtain ⟨⟨⟨⟨⟨g1, g2⟩, g3⟩, g4⟩, g5⟩, g6⟩ := h5
  simp [Cond.before, Cond.holds, Cond.value, h1, h2, h3, h4, g1, g2, g3, g4, g5, g6]
def isCode : Jvm.Cond → Bool
  | .code _ _ _ _ => true
  | _ => false
theorem all_split {L : List Jvm.Cond} {P : Jvm.Cond → Bool} (h1 : L.all (fun c => isCode c || P c) = true) (h2 : ∀ c ∈ L.filter isCode, P c = true) : L.all P = true := by
  refine List.all_eq_true.mpr fun c hc => ?_
  have h := List.all_eq_true.mp h1 c hc
  rcases Bool.eq_false_or_eq_true (isCode c) with hi | hi
  · exact h2 c (List.mem_filter.mpr ⟨hc, hi⟩)
  · simpa [hi] using h
set_option maxRecDepth 65536 in
theorem w_c0 : (Jvm.Cond.code x code maxLocals ret).before args0 about1 = true := code_word (m := ⟨1, 2⟩) (meth := k1m2) (c := k1c2) (by decide +kernel) rfl rfl rfl (by decide +kernel)
set_option maxRecDepth 65536 in
theorem w_c1 : (Jvm.Cond.code ({ cls := "com/example/uncross/uncross/io/AuctionSummary", name := "surplusSide", desc := "(J)Ljava/lang/String;" } : Jvm.MethodName) prog_37_method_4_code (2 : Nat) (Option.some (Jvm.ClassFile.FieldType.object "java/lang/String"))).before args0 about1 = true := code_word (m := ⟨2, 1⟩) (meth := k2m1) (c := k2c1) (by decide +kernel) rfl rfl rfl (by decide +kernel)
set_option maxRecDepth 65536 in
theorem w_c2 : (Jvm.Cond.code ({ cls := "com/example/uncross/uncross/io/AuctionSummarySurplusSidePinLaw", name := "expected", desc := "(J)Ljava/lang/String;" } : Jvm.MethodName) method_2_code (2 : Nat) (Option.some (Jvm.ClassFile.FieldType.object "java/lang/String"))).before args0 about1 = true := code_word (m := ⟨1, 1⟩) (meth := k1m1) (c := k1c1) (by decide +kernel) rfl rfl rfl (by decide +kernel)
set_option maxRecDepth 65536 in
theorem w_c3 : (Jvm.Cond.code ({ cls := "java/lang/String", name := "equals", desc := "(Ljava/lang/Object;)Z" } : Jvm.MethodName) jdk_42_method_66_code (3 : Nat) (Option.some Jvm.ClassFile.FieldType.boolean)).before args0 about1 = true := code_word (m := ⟨8, 1⟩) (meth := k8m1) (c := k8c1) (by decide +kernel) rfl rfl rfl (by decide +kernel)
set_option maxRecDepth 65536 in
theorem w_c4 : (Jvm.Cond.code ({ cls := "java/lang/StringLatin1", name := "equals", desc := "([B[B)Z" } : Jvm.MethodName) jdk_43_method_13_code (3 : Nat) (Option.some Jvm.ClassFile.FieldType.boolean)).before args0 about1 = true := code_word (m := ⟨9, 1⟩) (meth := k9m1) (c := k9c1) (by decide +kernel) rfl rfl rfl (by decide +kernel)
def codes1 : List Jvm.Cond := [Jvm.Cond.code x code maxLocals ret, Jvm.Cond.code ({ cls := "com/example/uncross/uncross/io/AuctionSummary", name := "surplusSide", desc := "(J)Ljava/lang/String;" } : Jvm.MethodName) prog_37_method_4_code (2 : Nat) (Option.some (Jvm.ClassFile.FieldType.object "java/lang/String")), Jvm.Cond.code ({ cls := "com/example/uncross/uncross/io/AuctionSummarySurplusSidePinLaw", name := "expected", desc := "(J)Ljava/lang/String;" } : Jvm.MethodName) method_2_code (2 : Nat) (Option.some (Jvm.ClassFile.FieldType.object "java/lang/String")), Jvm.Cond.code ({ cls := "java/lang/String", name := "equals", desc := "(Ljava/lang/Object;)Z" } : Jvm.MethodName) jdk_42_method_66_code (3 : Nat) (Option.some Jvm.ClassFile.FieldType.boolean), Jvm.Cond.code ({ cls := "java/lang/StringLatin1", name := "equals", desc := "([B[B)Z" } : Jvm.MethodName) jdk_43_method_13_code (3 : Nat) (Option.some Jvm.ClassFile.FieldType.boolean)]
set_option maxRecDepth 65536 in
theorem codes_eq : words1.filter isCode = codes1 := rfl
theorem w_codes : ∀ c ∈ words1.filter isCode, c.before args0 about1 = true := by
  rw [codes_eq]
  intro c hc
  simp only [codes1, List.mem_cons, List.not_mem_nil, or_false] at hc
  rcases hc with rfl | rfl | rfl | rfl | rfl
  · exact w_c0
  · exact w_c1
  · exact w_c2
  · exact w_c3
  · exact w_c4
set_option maxRecDepth 65536 in
theorem w_t1 : (words1.take 24).all (fun c => isCode c || c.before args0 about1) = true := by decide +kernel
set_option maxRecDepth 65536 in
theorem w_t2 : (words1.drop 24).all (fun c => isCode c || c.before args0 about1) = true := by decide +kernel
theorem w_tables : (allAtoms (Jvm.Cond.code x code maxLocals ret :: tables_1)).before args0 about1 = true := by
  rw [allAtoms_all]
  show words1.all (fun c => c.before args0 about1) = true
  refine all_split ?_ w_codes
  rw [← List.take_append_drop 24 words1, List.all_append, w_t1, w_t2]
  rfl
set_option maxRecDepth 65536 in
theorem w_rest : rest_1_c.before args0 about1 = true := by decide +kernel
set_option maxRecDepth 65536 in
theorem w_case : (Jvm.Cond.and given_1 narrow_1).before args0 about1 = true := by decide +kernel
set_option maxRecDepth 65536 in
theorem w_consts : constsHeld consts_1 about1 := Jvm.Lit.constsHeldB_iff.mp (by decide +kernel)
theorem w_applies : (headSpec (Jvm.Cond.code x code maxLocals ret :: tables_1) room_1).applies x e0.platform about1 = true :=
  (Spec.applies_iff w_frames).mpr ⟨w_running, w_runnable, w_alone, w_named, w_hears, w_ripe, w_room, w_tables⟩
theorem atStart : AtStart classFile x code maxLocals ret World_1 tables_1 room_1 Calls_1 rest_1 Pre_1 launch0 p0 e0 about1 theMethod args0 below0 :=
  ⟨lists_1, trivial, launch0.admits_env _ _ _, launch0.least_env, fairChoices_fair.cas, fairChoices_fair.clock, w_frames, w_args, w_heap, w_applies, ⟨w_consts, trivial⟩, w_rest, w_case⟩
end start1
theorem witness_1 : WitnessClaimed_1 := ⟨start1.p0, start1.e0, start1.about1, start1.theMethod, start1.args0, start1.below0, start1.atStart⟩
end Jvm.Pilot.@@N@@
