import JvmDerived
import JvmDerived.Pilot.@@N@@Statement
import JvmDerived.Pilot.@@N@@Code
set_option linter.unusedVariables false
set_option linter.unusedSimpArgs false
namespace Jvm.Own
open Sem ClassFile Op Lib Jvm.Stand Jvm.Free Jvm.LawKit Jvm.RoadKit
/-- from the frame g, standing in T, the run ends in what P says -/
def Goes (p : Program) (e : Env) (below : List Frame) (P : Outcome → State → Prop) (T : State) (g : JFrame) : Prop :=
  ∃ s₂ o, Steps p.tables e below (T.setTop g) s₂ ∧ s₂.status = .running ∧ Ended s₂ below o ∧ P o s₂
/-- what a body leaves -/
abbrev Leaves (s : State) (Q : Option Value → Heap → List Loc → Prop) (C N : Nat) (o : Outcome) (U : State) : Prop := ∃ v L, o = .returned v ∧ Q v U.heap L ∧ FrameEnd s o U L C N
/-- a body's contract, asked at the arguments 'as' and the heap h0 -/
abbrev Pays (l : Launch) (Z : State) (y : MethodName) (bytes : ByteArray) (maxL : Nat) (ret : Option FieldType) (ws : List Jvm.Cond) (rm : Room) (as : Array Value) (h0 : Heap) (Q : Option Value → Heap → List Loc → Prop) : Prop :=
  MetFree l y (head1 (Jvm.Cond.code y bytes maxL ret :: ws) rm) (fun a U => a = as ∧ Z.Warmed39 U.vm ∧ U.heap = h0) (fun _ _ _ _ _ => True) (fun _ U o U' => ∃ v L, o = .returned v ∧ Q v U'.heap L ∧ FrameEnd U o U' L rm.cells rm.slots)
section Steps
variable {p : Program} {l : Launch} {e : Env} {R : Room} {s : State} {m : MethodId} {args : Array Value} {below : List Frame} {meth : Method} {c : Code} {T T' : State} {locs : List Loc} {cells slots : Nat} {Z : State} {a0 : Array Value} {h : Heap} {P : Outcome → State → Prop} {g g' : JFrame}
theorem Goes.on (st : ∀ t, Steps p.tables e below (T'.setTop g') t → Steps p.tables e below (T.setTop g) t) (k : Goes p e below P T' g') : Goes p e below P T g := by
  obtain ⟨s₂, o, h1, h2⟩ := k
  exact ⟨s₂, o, st _ h1, h2⟩
theorem Goes.joinT (X : Stand p l e R s m args below meth c T locs cells slots) {fr : Addr → JFrame} (k : ∀ z T', Stand p l e R s m args below meth c T' locs cells slots → T'.heap = h → Goes p e below P T' (fr z)) (u : (∀ z T', Stand p l e R s m args below meth c T' locs cells slots → T'.heap = h → Goes p e below P T' (fr z)) → Goes p e below P T g) : Goes p e below P T g := u k
theorem Goes.out {Q : Option Value → Heap → List Loc → Prop} {C N : Nat} (X : Stand p l e R s m args below meth c T locs cells slots) {v : Option Value} (hv : meth.sig.returnType = none → v = none) (hlk : meth.locks = false) (hc : cells ≤ C) (hs : slots ≤ N) (hq : Q v T.heap locs)
    (st : ∀ fs, (∀ (f : JFrame) (acts : List Action), f.method = m → f.locked = none → f.entered = [] → (doReturn e (T.setTop f) acts v).1 = T.setFrames fs) → Steps p.tables e below (T.setTop g) (T.setFrames fs)) : Goes p e below (Leaves s Q C N) T g := by
  obtain ⟨fs, hr, hrun, hended, hW, hsame⟩ := X.leave (v := v) hv hlk
  exact ⟨_, _, st fs hr, hrun, hended, v, locs, rfl, hq, ⟨_, rfl⟩, hW, hsame.mono hc hs⟩
theorem Goes.retV {Q : Option Value → Heap → List Loc → Prop} {C N : Nat} (X : Stand p l e R s m args below meth c T locs cells slots) (hx : p.tables.exec = Jvm.exec) (hlk : meth.locks = false) (hret : meth.sig.returnType = none) {pc : Nat} {Ls : Array Slot} (hd : decode c.code pc = .ok (.return_, 1)) (hc : cells ≤ C) (hs : slots ≤ N) (hq : Q none T.heap locs) :
    Goes p e below (Leaves s Q C N) T (mkF m pc Ls []) :=
  Goes.out X (fun _ => rfl) hlk hc hs hq fun _ hr => X.returnOut hx hret hd hr
theorem Goes.retW {Q : Option Value → Heap → List Loc → Prop} {C N : Nat} (X : Stand p l e R s m args below meth c T locs cells slots) (hx : p.tables.exec = Jvm.exec) (hlk : meth.locks = false) {t : FieldType} {i : Instr} {w : Value} (hret : meth.sig.returnType = some t) {pc : Nat} {Ls : Array Slot} {rest : List Value} (hn : narrow t w = w)
    (hi : (i = .ireturn ∧ (t = .int ∨ t = .boolean ∨ t = .byte ∨ t = .char ∨ t = .short) ∧ ∃ z, w = .int z) ∨ (i = .lreturn ∧ t = .long ∧ ∃ z, w = .long z) ∨ (i = .dreturn ∧ t = .double ∧ ∃ z, w = .double z) ∨ (i = .freturn ∧ t = .float ∧ ∃ z, w = .float z) ∨ (i = .areturn ∧ t.isReference = true ∧ w.isRef = true))
    (hd : decode c.code pc = .ok (i, 1)) (hc : cells ≤ C) (hs : slots ≤ N) (hq : Q (some w) T.heap locs) : Goes p e below (Leaves s Q C N) T (mkF m pc Ls (w :: rest)) :=
  Goes.out X (fun h => by rw [hret] at h; cases h) hlk hc hs hq fun _ hr => retOut X hx hret hn hi hd hr
theorem Goes.retI {Q : Option Value → Heap → List Loc → Prop} {C N : Nat} (X : Stand p l e R s m args below meth c T locs cells slots) (hx : p.tables.exec = Jvm.exec) (hlk : meth.locks = false) {z : Int32} (hret : meth.sig.returnType = some .int) {pc : Nat} {Ls : Array Slot} {rest : List Value} (hd : decode c.code pc = .ok (.ireturn, 1)) (hc : cells ≤ C) (hs : slots ≤ N) (hq : Q (some (.int z)) T.heap locs) :
    Goes p e below (Leaves s Q C N) T (mkF m pc Ls (.int z :: rest)) := Goes.retW X hx hlk hret rfl (Or.inl ⟨rfl, Or.inl rfl, _, rfl⟩) hd hc hs hq
theorem Goes.retB {Q : Option Value → Heap → List Loc → Prop} {C N : Nat} (X : Stand p l e R s m args below meth c T locs cells slots) (hx : p.tables.exec = Jvm.exec) (hlk : meth.locks = false) {z : Int32} (hret : meth.sig.returnType = some .boolean) {pc : Nat} {Ls : Array Slot} {rest : List Value} (hz : z = 0 ∨ z = 1) (hd : decode c.code pc = .ok (.ireturn, 1)) (hc : cells ≤ C) (hs : slots ≤ N) (hq : Q (some (.int z)) T.heap locs) :
    Goes p e below (Leaves s Q C N) T (mkF m pc Ls (.int z :: rest)) := Goes.retW X hx hlk hret (by rcases hz with rfl | rfl <;> rfl) (Or.inl ⟨rfl, Or.inr (Or.inl rfl), _, rfl⟩) hd hc hs hq
theorem Goes.retC {Q : Option Value → Heap → List Loc → Prop} {C N : Nat} (X : Stand p l e R s m args below meth c T locs cells slots) (hx : p.tables.exec = Jvm.exec) (hlk : meth.locks = false) {z : Int32} (hret : meth.sig.returnType = some .char) {pc : Nat} {Ls : Array Slot} {rest : List Value} (hz : nar .char z = z) (hd : decode c.code pc = .ok (.ireturn, 1)) (hc : cells ≤ C) (hs : slots ≤ N) (hq : Q (some (.int z)) T.heap locs) :
    Goes p e below (Leaves s Q C N) T (mkF m pc Ls (.int z :: rest)) := Goes.retW X hx hlk hret (by show Value.int (nar .char z) = _; rw [hz]) (Or.inl ⟨rfl, Or.inr (Or.inr (Or.inr (Or.inl rfl))), _, rfl⟩) hd hc hs hq
theorem Goes.retY {Q : Option Value → Heap → List Loc → Prop} {C N : Nat} (X : Stand p l e R s m args below meth c T locs cells slots) (hx : p.tables.exec = Jvm.exec) (hlk : meth.locks = false) {z : Int32} (hret : meth.sig.returnType = some .byte) {pc : Nat} {Ls : Array Slot} {rest : List Value} (hz : nar .byte z = z) (hd : decode c.code pc = .ok (.ireturn, 1)) (hc : cells ≤ C) (hs : slots ≤ N) (hq : Q (some (.int z)) T.heap locs) :
    Goes p e below (Leaves s Q C N) T (mkF m pc Ls (.int z :: rest)) := Goes.retW X hx hlk hret (by show Value.int (nar .byte z) = _; rw [hz]) (Or.inl ⟨rfl, Or.inr (Or.inr (Or.inl rfl)), _, rfl⟩) hd hc hs hq
theorem Goes.retJ {Q : Option Value → Heap → List Loc → Prop} {C N : Nat} (X : Stand p l e R s m args below meth c T locs cells slots) (hx : p.tables.exec = Jvm.exec) (hlk : meth.locks = false) {z : Int64} (hret : meth.sig.returnType = some .long) {pc : Nat} {Ls : Array Slot} {rest : List Value} (hd : decode c.code pc = .ok (.lreturn, 1)) (hc : cells ≤ C) (hs : slots ≤ N) (hq : Q (some (.long z)) T.heap locs) :
    Goes p e below (Leaves s Q C N) T (mkF m pc Ls (.long z :: rest)) := Goes.retW X hx hlk hret rfl (Or.inr (Or.inl ⟨rfl, rfl, _, rfl⟩)) hd hc hs hq
theorem Goes.retA {Q : Option Value → Heap → List Loc → Prop} {C N : Nat} (X : Stand p l e R s m args below meth c T locs cells slots) (hx : p.tables.exec = Jvm.exec) (hlk : meth.locks = false) {w : Value} {t : FieldType} (hret : meth.sig.returnType = some t) (ht : t.isReference = true) (hw : w.isRef = true) {pc : Nat} {Ls : Array Slot} {rest : List Value} (hd : decode c.code pc = .ok (.areturn, 1)) (hc : cells ≤ C) (hs : slots ≤ N) (hq : Q (some w) T.heap locs) :
    Goes p e below (Leaves s Q C N) T (mkF m pc Ls (w :: rest)) := Goes.retW X hx hlk hret (by cases t <;> first | rfl | cases ht) (Or.inr (Or.inr (Or.inr (Or.inr ⟨rfl, ht, hw⟩)))) hd hc hs hq
/-- a body's contract out of its walk -/
theorem Pays.walk {y : MethodName} {bytes : ByteArray} {maxL : Nat} {ret : Option FieldType} {ws : List Jvm.Cond} {rm : Room} {as : Array Value} {h0 : Heap} {Q : Option Value → Heap → List Loc → Prop} {Ls : Array Slot}
    (hn : plainFor y = true) (hef : ∀ m, entryFrame m as maxL = mkF m 0 Ls [])
    (body : ∀ (p : Program) (e : Env) (s : State) (m : MethodId) (below : List Frame) (meth : Method) (c : Code) (T : State), Stand p l e rm s m as below meth c T [] 0 0 → p.tables.exec = Jvm.exec → c.code = bytes → c.maxLocals = maxL → s.vm.findClass y.cls = some m.cls → meth.name = y.name → Z.Warmed39 s.vm → T.heap = h0 → meth.sig.returnType = ret → meth.locks = false →
      Goes p e below (Leaves s Q rm.cells rm.slots) T (mkF m 0 Ls [])) : Pays l Z y bytes maxL ret ws rm as h0 Q := by
  refine MetFree.of_bodySF hn hisR ?_
  intro p e s m args below meth c s₁ Bd hml0 hP hK
  obtain ⟨rfl, hZ, hh⟩ := hP
  have X0 : Stand p l e rm s m args below meth c s₁ [] 0 0 := Stand.of_body Bd
  obtain ⟨s₂, o, h1, h2⟩ := body p e s m below meth c s₁ X0 Bd.exec Bd.bytes hml0 (findClass_of_methodNamed Bd.named) (name_of_methodNamed Bd.named Bd.method).1 hZ (by rw [← hh, Bd.state]; rfl) Bd.returns Bd.notSynchronized
  exact ⟨s₂, o, castTop (hef m) h1, h2⟩
/-- a static call by its contract -/
theorem Goes.callS (X : Stand p l e R s m args below meth c T locs cells slots) (hx : p.tables.exec = Jvm.exec) (hZ : Z.Warmed39 s.vm) {own : String} {index : Nat} {y : MethodName} {bytes : ByteArray} {maxL : Nat} {ret : Option FieldType} {rm : Room} {as' : Array Value} {Q : Option Value → Heap → List Loc → Prop} (W : Nat)
    (hown : s.vm.findClass own = some m.cls) (w1 : (Jvm.Cond.methodLink own index y).before a0 Z = true) (w2 : (Jvm.Cond.static y).before a0 Z = true) (w3 : (Jvm.Cond.initialized y.cls).before a0 Z = true) (w4 : (Jvm.Cond.code y bytes maxL ret).before a0 Z = true) (hy : y.cls ≠ "java/lang/invoke/MethodHandle" ∧ y.cls ≠ "java/lang/invoke/VarHandle")
    (eT : T.heap = h) (hM : Pays l Z y bytes maxL ret [] rm as' h Q) (hf : rm.frames + 1 ≤ R.frames) (hl : W + (maxL + 11) + rm.locals ≤ R.locals) (hc : cells + rm.cells ≤ R.cells) (hs : slots + rm.slots ≤ R.slots)
    (hg : g.method = m) (hsize : g.locals.size = c.maxLocals) {argsL rest : List Value} (has : argsL.toArray = as') (hlen : ∀ sig, parseMethodDescriptor y.desc = some sig → argsL.length = sig.parameters.length) (hstack : g.stack = argsL.reverse ++ rest) (hW : 2 * g.monitorRoom + (rest.map fun v => v.category).sum ≤ W)
    (hd : decode c.code g.pc = .ok (.invokestatic index, 3))
    (k : ∀ v T' L, Stand p l e R s m args below meth c T' (locs ++ L) (cells + rm.cells) (slots + rm.slots) → Q v T'.heap L → Goes p e below P T' { g with pc := g.pc + 3, stack := v.toList ++ rest }) : Goes p e below P T g := by
  obtain ⟨v, _, ⟨T', L', k', n'⟩, -, X', ⟨Lc, hQ, l', y', z'⟩, st⟩ := Jvm.LawKit.callS X hx hown (mvT hZ w1) (mvT hZ w2) (mvT hZ w3) (mvT hZ w4) hy (backOf (W := W) hM hZ w4 w3 hf hl) hg hsize (argsL := argsL) (rest := rest) hlen hstack hW hd (fun _ _ => ⟨has, eT, hc, hs⟩)
  dsimp only [Pt.U, Pt.locs, Pt.cells, Pt.slots] at X' l' y' z' st hQ
  subst l' y' z'
  exact Goes.on st (k v T' Lc X' hQ)
/-- a constructor by its contract -/
theorem Goes.callC (X : Stand p l e R s m args below meth c T locs cells slots) (hx : p.tables.exec = Jvm.exec) (hZ : Z.Warmed39 s.vm) {own : String} {index : Nat} {y : MethodName} {bytes : ByteArray} {maxL : Nat} {rm : Room} {as' : Array Value} {Q : Option Value → Heap → List Loc → Prop} (W : Nat) (hy1 : y.name = "<init>")
    (hown : s.vm.findClass own = some m.cls) (w1 : (Jvm.Cond.methodLink own index y).before a0 Z = true) (w2 : (Jvm.Cond.instanceMethod y).before a0 Z = true) (w3 : (Jvm.Cond.initialized y.cls).before a0 Z = true) (w4 : (Jvm.Cond.code y bytes maxL none).before a0 Z = true) (hy : y.cls ≠ "java/lang/invoke/MethodHandle" ∧ y.cls ≠ "java/lang/invoke/VarHandle")
    (eT : T.heap = h) (hM : Pays l Z y bytes maxL none [] rm as' h Q) (hf : rm.frames + 1 ≤ R.frames) (hl : W + (maxL + 11) + rm.locals ≤ R.locals) (hc : cells + rm.cells ≤ R.cells) (hs : slots + rm.slots ≤ R.slots)
    (hg : g.method = m) (hsize : g.locals.size = c.maxLocals) {a : Addr} {argsL rest : List Value} (has : (Value.ref a :: argsL).toArray = as') (hlen : ∀ sig, parseMethodDescriptor y.desc = some sig → argsL.length = sig.parameters.length) (hstack : g.stack = argsL.reverse ++ .ref a :: rest) (hW : 2 * g.monitorRoom + (rest.map fun v => v.category).sum ≤ W)
    (hd : decode c.code g.pc = .ok (.invokespecial index, 3))
    (k : ∀ v T' L, Stand p l e R s m args below meth c T' (locs ++ L) (cells + rm.cells) (slots + rm.slots) → Q v T'.heap L → Goes p e below P T' { g with pc := g.pc + 3, stack := v.toList ++ rest }) : Goes p e below P T g := by
  obtain ⟨v, _, ⟨T', L', k', n'⟩, -, X', ⟨Lc, hQ, l', y', z'⟩, st⟩ := X.specialBack hx (y := y) hy1 hown (mvT hZ w1) (mvT hZ w2) (mvT hZ w4) hy (backOf (W := W) hM hZ w4 w3 hf hl) hg hsize (Steps.refl _) (a := a) (argsL := argsL) (rest := rest) hlen hstack hW hd (fun _ _ => ⟨has, eT, hc, hs⟩)
  dsimp only [Pt.U, Pt.locs, Pt.cells, Pt.slots] at X' l' y' z' st hQ
  subst l' y' z'
  exact Goes.on (fun _ q => st.trans q) (k v T' Lc X' hQ)
/-- an instance method by its contract, on an object of the class C -/
theorem Goes.callV (X : Stand p l e R s m args below meth c T locs cells slots) (hx : p.tables.exec = Jvm.exec) (hZ : Z.Warmed39 s.vm) {own C : String} {index : Nat} {y z : MethodName} {bytes : ByteArray} {maxL : Nat} {ret : Option FieldType} {rm : Room} {as' : Array Value} {Q : Option Value → Heap → List Loc → Prop} (W : Nat)
    (hown : s.vm.findClass own = some m.cls) (w1 : (Jvm.Cond.methodLink own index y).before a0 Z = true) (w2 : (Jvm.Cond.declares y).before a0 Z = true) (hnf : NotFace s y) (w5 : (Jvm.Cond.selects C y z).before a0 Z = true) (w6 : (Jvm.Cond.instanceMethod z).before a0 Z = true) (w3 : (Jvm.Cond.initialized z.cls).before a0 Z = true) (w4 : (Jvm.Cond.code z bytes maxL ret).before a0 Z = true) (hy : y.cls ≠ "java/lang/invoke/MethodHandle" ∧ y.cls ≠ "java/lang/invoke/VarHandle")
    (eT : T.heap = h) {a : Addr} (E : Exa Z h a C) (hM : Pays l Z z bytes maxL ret [] rm as' h Q) (hf : rm.frames + 1 ≤ R.frames) (hl : W + (maxL + 11) + rm.locals ≤ R.locals) (hc : cells + rm.cells ≤ R.cells) (hs : slots + rm.slots ≤ R.slots)
    (hg : g.method = m) (hsize : g.locals.size = c.maxLocals) {argsL rest : List Value} (has : (Value.ref a :: argsL).toArray = as') (hlen : ∀ sig, parseMethodDescriptor y.desc = some sig → argsL.length = sig.parameters.length) (hstack : g.stack = argsL.reverse ++ .ref a :: rest) (hW : 2 * g.monitorRoom + (rest.map fun v => v.category).sum ≤ W)
    (hd : decode c.code g.pc = .ok (.invokevirtual index, 3))
    (k : ∀ v T' L, Stand p l e R s m args below meth c T' (locs ++ L) (cells + rm.cells) (slots + rm.slots) → Q v T'.heap L → Goes p e below P T' { g with pc := g.pc + 3, stack := v.toList ++ rest }) : Goes p e below P T g := by
  obtain ⟨cq, kq, qa, qb, qc⟩ := isOf hZ eT E
  obtain ⟨v, _, ⟨T', L', k', n'⟩, -, X', ⟨Lc, hQ, l', y', z'⟩, st⟩ := X.virtualBack hx (y := y) (z := z) hown (mvT hZ w1) (mvT hZ w2) hnf (mvT hZ w5) (mvT hZ w6) hy (backOf (W := W) hM hZ w4 w3 hf hl) qa qc hg hsize (Steps.refl _) (argsL := argsL) (rest := rest) hlen hstack hW hd (fun _ _ => ⟨has, eT, hc, hs⟩)
  dsimp only [Pt.U, Pt.locs, Pt.cells, Pt.slots] at X' l' y' z' st hQ
  subst l' y' z'
  exact Goes.on (fun _ q => st.trans q) (k v T' Lc X' hQ)
/-- what a ready payer (Back) asks and gives -/
abbrev Payer (l : Launch) (R : Room) (p : Program) (e : Env) (below : List Frame) (s : State) (args : Array Value) (y : MethodName) (W : Nat) (as' : Array Value) (h : Heap) (C N : Nat) (Q : Option Value → Heap → List Loc → Prop) : Prop :=
  Back l R p e below s args y 3 W (fun A a => a = as' ∧ A.U.heap = h ∧ A.cells + C ≤ R.cells ∧ A.slots + N ≤ R.slots) (fun A _ v B => ∃ L, Q v B.U.heap L ∧ B.locs = A.locs ++ L ∧ B.cells = A.cells + C ∧ B.slots = A.slots + N)
/-- a private instance method (invokevirtual) by its contract -/
theorem Goes.callP (X : Stand p l e R s m args below meth c T locs cells slots) (hx : p.tables.exec = Jvm.exec) (hZ : Z.Warmed39 s.vm) {own C : String} {index ni : Nat} {y : MethodName} {bytes : ByteArray} {maxL : Nat} {ret : Option FieldType} {rm : Room} {as' : Array Value} {Q : Option Value → Heap → List Loc → Prop} (W : Nat)
    (hown : s.vm.findClass own = some m.cls) (w1 : (Jvm.Cond.methodLink own index y).before a0 Z = true) (w6 : (Jvm.Cond.instanceMethod y).before a0 Z = true) (wp : (Jvm.Cond.privateMethod y).before a0 Z = true) (wi : (Jvm.Cond.instantiable y.cls ni).before a0 Z = true) (w3 : (Jvm.Cond.initialized y.cls).before a0 Z = true) (w4 : (Jvm.Cond.code y bytes maxL ret).before a0 Z = true) (hy : y.cls ≠ "java/lang/invoke/MethodHandle" ∧ y.cls ≠ "java/lang/invoke/VarHandle")
    (eT : T.heap = h) {a : Addr} (E : Exa Z h a C) (hM : Pays l Z y bytes maxL ret [] rm as' h Q) (hf : rm.frames + 1 ≤ R.frames) (hl : W + (maxL + 11) + rm.locals ≤ R.locals) (hc : cells + rm.cells ≤ R.cells) (hs : slots + rm.slots ≤ R.slots)
    (hg : g.method = m) (hsize : g.locals.size = c.maxLocals) {argsL rest : List Value} (has : (Value.ref a :: argsL).toArray = as') (hlen : ∀ sig, parseMethodDescriptor y.desc = some sig → argsL.length = sig.parameters.length) (hstack : g.stack = argsL.reverse ++ .ref a :: rest) (hW : 2 * g.monitorRoom + (rest.map fun v => v.category).sum ≤ W)
    (hd : decode c.code g.pc = .ok (.invokevirtual index, 3))
    (k : ∀ v T' L, Stand p l e R s m args below meth c T' (locs ++ L) (cells + rm.cells) (slots + rm.slots) → Q v T'.heap L → Goes p e below P T' { g with pc := g.pc + 3, stack := v.toList ++ rest }) : Goes p e below P T g := by
  obtain ⟨ce, hce, hst⟩ := E.cell
  have hp := Cond.privateMethod_at (args := args) (mvP hZ wp)
  obtain ⟨ci, ki, i1, i2, -, i4, -⟩ := Cond.instantiable_spec (mvT (args := args) hZ wi)
  have i5 : ki.isInterface = false := by cases hq : ki.isInterface <;> simp [hq] at i4 ⊢
  have hsel := selects_self_of_private (args := args) i1 i2 i5 hp (mvT hZ w6) hy
  obtain ⟨v, _, ⟨T', L', k', n'⟩, -, X', ⟨Lc, hQ, l', y', z'⟩, st⟩ := X.privateBack hx (y := y) hown (mvT hZ w1) (mvT hZ w6) hsel hp (mvT hZ w4) hy (backOf (W := W) hM hZ w4 w3 hf hl) hg hsize (Steps.refl _) (a := a) (cell := ce) (by rw [eT]; exact hce) hst (argsL := argsL) (rest := rest) hlen hstack hW hd (fun _ _ => ⟨has, eT, hc, hs⟩)
  dsimp only [Pt.U, Pt.locs, Pt.cells, Pt.slots] at X' l' y' z' st hQ
  subst l' y' z'
  exact Goes.on (fun _ q => st.trans q) (k v T' Lc X' hQ)
theorem eqInt {t : Jvm.Term} {i : Int32} (hq : (Jvm.Cond.eq t (.int i)).value args Z none Z [] = some true) : t.eval args Z none [] Z = some (.int i) := by
  obtain ⟨x, y, e1, e2, -, k⟩ := cmp_v (Or.inl hq)
  cases Option.some.inj ((Term.int_eval i).symm.trans e2)
  obtain ⟨z, rfl⟩ := k
  rw [e1]
  simpa [Jvm.Cond.value, e1, e2] using hq
theorem fldInt {t : Jvm.Term} {C n d : String} {i : Int32} {a : Addr} (ht : t.eval args Z none [] Z = some (.ref a)) (hq : (Jvm.Cond.eq (.field t C n d) (.int i)).value args Z none Z [] = some true) : Fld Z Z.heap a C n d (.int i) := by
  refine Fld.start ((fld_at (C := C) (n := n) (dd := d) ht).symm.trans ?_)
  obtain ⟨x, y, e1, e2, -, k⟩ := cmp_v (Or.inl hq)
  cases Option.some.inj ((Term.int_eval i).symm.trans e2)
  obtain ⟨z, rfl⟩ := k
  rw [e1]
  simpa [Jvm.Cond.value, e1, e2] using hq
theorem lremM {g : JFrame} {target : State} (X : Stand p l e R s m args below meth c T locs cells slots) (hx : p.tables.exec = Jvm.exec) (hg : g.method = m) {x y : Int64} {rest : List Value} (hd : decode c.code g.pc = .ok (.lrem, 1)) (hs : g.stack = .long y :: .long x :: rest) (hy : y ≠ 0)
    (hr : Steps p.tables e below (T.setTop { g with pc := g.pc + 1, stack := .long (x % y) :: rest }) target) : Steps p.tables e below (T.setTop g) target :=
  XS.lrem X.here hx hg hd hs hy (by rw [lrem_mod]; exact hr)
theorem narB {z : Int32} (h : z = 0 ∨ z = 1) : narrow .boolean (.int z) = .int z := by rcases h with rfl | rfl <;> rfl
theorem fitR {t : FieldType} {v : Value} (ht : t.isReference = true) (h : v.isRef = true) : fits t v = true := by
  rcases ref_cases h with rfl | ⟨a, rfl⟩ <;> cases t <;> first | rfl | cases ht
theorem fitB {z : Int32} (h : z = 0 ∨ z = 1) : fits .boolean (.int z) = true := by rcases h with rfl | rfl <;> rfl
end Steps
/-- an array by what its places hold -/
def Upd {α : Type} (f : Nat → α) (j : Nat) (x : α) : Nat → α := fun i => if i = j then x else f i
def Arf {α : Type} (Z : State) (h : Heap) (a : Addr) (ty : FieldType) (con : α → Value) (n : Nat) (f : Nat → α) : Prop := ∃ c : Cell, Arr Z h a c ty ∧ c.slots.size = n ∧ ∀ i, i < n → c.slots[i]? = some (con (f i))
section Arrays
variable {p : Program} {l : Launch} {e : Env} {R : Room} {s : State} {m : MethodId} {args : Array Value} {below : List Frame} {meth : Method} {c : Code} {T T' : State} {locs : List Loc} {cells slots : Nat} {Z : State} {a0 : Array Value} {h h' : Heap} {P : Outcome → State → Prop} {g g' : JFrame} {α : Type} {con : α → Value} {a b : Addr} {ty : FieldType} {n : Nat} {f : Nat → α} {j : Int32} {rest : List Value}
theorem Arf.lt (F : Arf Z h a ty con n f) : a < h.size := by obtain ⟨c, A, -⟩ := F; exact A.lt
theorem Arf.ext (F : Arf Z h a ty con n f) (E : Ext h h') : Arf Z h' a ty con n f := by obtain ⟨c, A, r⟩ := F; exact ⟨c, A.ext E, r⟩
theorem Arf.other {sl : Nat} {v : Value} (F : Arf Z h b ty con n f) (W : Wr h h' a sl v) (q : b ≠ a) : Arf Z h' b ty con n f := by obtain ⟨c, A, r⟩ := F; exact ⟨c, A.other W q, r⟩
theorem Arf.keep {ws : List Addr} (F : Arf Z h a ty con n f) (K : Keep h h' ws) (q : a ∉ ws) : Arf Z h' a ty con n f := by obtain ⟨c, A, r⟩ := F; exact ⟨c, ⟨K.2.1 a c A.1 q, A.2⟩, r⟩
theorem Arf.new {cA : ClassId} {z : Int32} {d : α} (A : Arr Z h a (newA cA ty z) ty) (hd : defaultValue ty = con d) : Arf Z h a ty con z.toNatClampNeg (fun _ => d) :=
  ⟨_, A, sz_new _ _ _, fun i hi => by simp [newA, hi, hd]⟩
theorem Arf.set (F : Arf Z h a ty con n f) {k : Nat} {v : Value} {x : α} (W : Wr h h' a k v) (hv : v = con x) : Arf Z h' a ty con n (Upd f k x) := by
  obtain ⟨c, A, S, H⟩ := F
  refine ⟨_, A.same W, (sz_set _ _ _).trans S, fun i hi => ?_⟩
  subst hv
  by_cases q : i = k
  · subst q; simp [Cell.setSlot, Upd, S, hi]
  · have : ((c.setSlot k (con x)).slots)[i]? = c.slots[i]? := Array.getElem?_setIfInBounds_ne (Ne.symm q)
    rw [this, H i hi]; simp [Upd, q]
theorem Arf.inb {c : Cell} (S : c.slots.size = n) (hj : ¬ j < 0 ∧ j.toNatClampNeg < n) : ¬ (j < 0 ∨ c.slots.size ≤ j.toNatClampNeg) := fun q => q.elim hj.1 fun r => by omega
theorem ldJ {f : Nat → Int64} (X : Stand p l e R s m args below meth c T locs cells slots) (hx : p.tables.exec = Jvm.exec) (hZ : Z.Warmed39 s.vm) (eT : T.heap = h) (F : Arf Z h a .long Value.long n f) (hj : ¬ j < 0 ∧ j.toNatClampNeg < n) (hg : g.method = m) (hs : g.stack = .int j :: .ref a :: rest) (hd : decode c.code g.pc = .ok (.laload, 1)) {t : State}
    (k : Steps p.tables e below (T.setTop { g with pc := g.pc + 1, stack := .long (f j.toNatClampNeg) :: rest }) t) : Steps p.tables e below (T.setTop g) t := by
  obtain ⟨cl, A, S, H⟩ := F
  exact X.laload hx (by rw [eT]; exact A.1) (State.isArrayOf_alike hZ.alike A.2.1) A.2.2 (Arf.inb S hj) (H _ hj.2) hg hs hd t k
theorem ldJm {f : Nat → Int64} (X : Stand p l e R s m args below meth c T locs cells slots) (hx : p.tables.exec = Jvm.exec) (hZ : Z.Warmed39 s.vm) (eT : T.heap = h) (F : Arf Z h a .long Value.long n f) (hj : ¬ j < 0 ∧ j.toNatClampNeg < n) {pc : Nat} {Ls : Array Slot} (hd : decode c.code pc = .ok (.laload, 1)) {t : State}
    (k : Steps p.tables e below (T.setTop (mkF m (pc + 1) Ls (.long (f j.toNatClampNeg) :: rest))) t) : Steps p.tables e below (T.setTop (mkF m pc Ls (.int j :: .ref a :: rest))) t :=
  ldJ (g := mkF m pc Ls (.int j :: .ref a :: rest)) X hx hZ eT F hj rfl rfl hd k
theorem ldZ {f : Nat → Int32} (X : Stand p l e R s m args below meth c T locs cells slots) (hx : p.tables.exec = Jvm.exec) (hZ : Z.Warmed39 s.vm) (eT : T.heap = h) (F : Arf Z h a .boolean Value.int n f) (hj : ¬ j < 0 ∧ j.toNatClampNeg < n) (hg : g.method = m) (hs : g.stack = .int j :: .ref a :: rest) (hd : decode c.code g.pc = .ok (.baload, 1)) {t : State}
    (k : Steps p.tables e below (T.setTop { g with pc := g.pc + 1, stack := .int (f j.toNatClampNeg) :: rest }) t) : Steps p.tables e below (T.setTop g) t := by
  obtain ⟨cl, A, S, H⟩ := F
  exact X.baloadBooleans hx (by rw [eT]; exact A.1) (State.isArrayOf_alike hZ.alike A.2.1) A.2.2 (Arf.inb S hj) (H _ hj.2) hg hs hd t k
theorem ldZm {f : Nat → Int32} (X : Stand p l e R s m args below meth c T locs cells slots) (hx : p.tables.exec = Jvm.exec) (hZ : Z.Warmed39 s.vm) (eT : T.heap = h) (F : Arf Z h a .boolean Value.int n f) (hj : ¬ j < 0 ∧ j.toNatClampNeg < n) {pc : Nat} {Ls : Array Slot} (hd : decode c.code pc = .ok (.baload, 1)) {t : State}
    (k : Steps p.tables e below (T.setTop (mkF m (pc + 1) Ls (.int (f j.toNatClampNeg) :: rest))) t) : Steps p.tables e below (T.setTop (mkF m pc Ls (.int j :: .ref a :: rest))) t :=
  ldZ (g := mkF m pc Ls (.int j :: .ref a :: rest)) X hx hZ eT F hj rfl rfl hd k
theorem ldY {f : Nat → Int32} (X : Stand p l e R s m args below meth c T locs cells slots) (hx : p.tables.exec = Jvm.exec) (hZ : Z.Warmed39 s.vm) (eT : T.heap = h) (F : Arf Z h a .byte Value.int n f) (hj : ¬ j < 0 ∧ j.toNatClampNeg < n) (hg : g.method = m) (hs : g.stack = .int j :: .ref a :: rest) (hd : decode c.code g.pc = .ok (.baload, 1)) {t : State}
    (k : Steps p.tables e below (T.setTop { g with pc := g.pc + 1, stack := .int (f j.toNatClampNeg) :: rest }) t) : Steps p.tables e below (T.setTop g) t := by
  obtain ⟨cl, A, S, H⟩ := F
  exact X.baloadBytes hx (by rw [eT]; exact A.1) (State.isArrayOf_alike hZ.alike A.2.1) A.2.2 (Arf.inb S hj) (H _ hj.2) hg hs hd t k
theorem ldYm {f : Nat → Int32} (X : Stand p l e R s m args below meth c T locs cells slots) (hx : p.tables.exec = Jvm.exec) (hZ : Z.Warmed39 s.vm) (eT : T.heap = h) (F : Arf Z h a .byte Value.int n f) (hj : ¬ j < 0 ∧ j.toNatClampNeg < n) {pc : Nat} {Ls : Array Slot} (hd : decode c.code pc = .ok (.baload, 1)) {t : State}
    (k : Steps p.tables e below (T.setTop (mkF m (pc + 1) Ls (.int (f j.toNatClampNeg) :: rest))) t) : Steps p.tables e below (T.setTop (mkF m pc Ls (.int j :: .ref a :: rest))) t :=
  ldY (g := mkF m pc Ls (.int j :: .ref a :: rest)) X hx hZ eT F hj rfl rfl hd k
theorem aLen (X : Stand p l e R s m args below meth c T locs cells slots) (hx : p.tables.exec = Jvm.exec) (hZ : Z.Warmed39 s.vm) (eT : T.heap = h) (F : Arf Z h a ty con n f) (hg : g.method = m) (hs : g.stack = .ref a :: rest) (hd : decode c.code g.pc = .ok (.arraylength, 1)) {t : State}
    (k : Steps p.tables e below (T.setTop { g with pc := g.pc + 1, stack := .int n.toInt32 :: rest }) t) : Steps p.tables e below (T.setTop g) t := by
  obtain ⟨cl, A, S, H⟩ := F
  exact X.arraylength hx (by rw [eT]; exact A.1) (State.isArrayOf_alike hZ.alike A.2.1) hg hs hd t (by rw [S]; exact k)
theorem aLenm (X : Stand p l e R s m args below meth c T locs cells slots) (hx : p.tables.exec = Jvm.exec) (hZ : Z.Warmed39 s.vm) (eT : T.heap = h) (F : Arf Z h a ty con n f) {pc : Nat} {Ls : Array Slot} (hd : decode c.code pc = .ok (.arraylength, 1)) {t : State}
    (k : Steps p.tables e below (T.setTop (mkF m (pc + 1) Ls (.int n.toInt32 :: rest))) t) : Steps p.tables e below (T.setTop (mkF m pc Ls (.ref a :: rest))) t :=
  aLen (g := mkF m pc Ls (.ref a :: rest)) X hx hZ eT F rfl rfl hd k
theorem wrJ {f : Nat → Int64} {x : Int64} (X : Stand p l e R s m args below meth c T locs cells slots) (hx : p.tables.exec = Jvm.exec) (hZ : Z.Warmed39 s.vm) (eT : T.heap = h) (F : Arf Z h a .long Value.long n f) (hj : ¬ j < 0 ∧ j.toNatClampNeg < n) (hg : g.method = m) (hs : g.stack = .long x :: .int j :: .ref a :: rest) (hd : decode c.code g.pc = .ok (.lastore, 1)) :
    ∃ T' h', Stand p l e R s m args below meth c T' (locs ++ [⟨a, j.toNatClampNeg⟩]) cells slots ∧ T'.heap = h' ∧ Wr h h' a j.toNatClampNeg (.long x) ∧ Arf Z h' a .long Value.long n (Upd f j.toNatClampNeg x) ∧ ∀ target, Steps p.tables e below (T'.setTop { g with pc := g.pc + 1, stack := rest }) target → Steps p.tables e below (T.setTop g) target := by
  have F' := F
  obtain ⟨cl, A, S, H⟩ := F
  obtain ⟨T', h', X', e', W, st⟩ := stJ X hx hZ eT A (Arf.inb S hj) hg hs hd
  exact ⟨T', h', X', e', W, F'.set W rfl, st⟩
theorem nat32 {n : Nat} (hn : n < 2 ^ 31) : n.toInt32.toNatClampNeg = n := by
  have q : n.toInt32.toInt = n := len_toInt hn
  simp only [Int32.toNatClampNeg, q]; omega
theorem pos32 {n : Nat} (hn : n < 2 ^ 31) : ¬ n.toInt32 < 0 := by
  have q : n.toInt32.toInt = n := len_toInt hn
  rw [Int32.lt_iff_toInt_lt, q]; have k : (0 : Int32).toInt = 0 := rfl
  omega
theorem Arf.arv (F : Arf Z h a ty con n f) (hn : n < 2 ^ 31) (hf : ∀ x, fits ty (con x) = true) (d : Value) : ∃ k, Arv Z h a k ty n.toInt32 ((List.range n).map fun i => con (f i)) d := by
  obtain ⟨cl, A, S, H⟩ := F
  refine ⟨cl.cls, cl, A, rfl, by rw [nat32 hn, S], pos32 hn, fun i hi => ?_, fun i hi => ?_⟩
  · rw [S] at hi; rw [H i hi]; simp [List.getD, hi]
  · rw [S] at hi; simp [List.getD, hi, hf]
theorem Arv.arf {k : ClassId} {z : Int32} {vs : List Value} {d : Value} (V : Arv Z h a k ty z vs d) (hz : z.toNatClampNeg = n) (hv : ∀ i, i < n → vs.getD i d = con (f i)) : Arf Z h a ty con n f := by
  obtain ⟨cl, A, -, S, -, H, -⟩ := V
  exact ⟨cl, A, S.trans hz, fun i hi => by rw [H i (by omega), hv i hi]⟩
/-- an array of arrays, with the class that it takes -/
def Blk (Z : State) (h : Heap) (b : Addr) (ty : FieldType) (C : String) (n : Nat) (f : Nat → Value) : Prop := ∃ c : Cell, Arr Z h b c (.array ty) ∧ OvrA Z c.cls ty C ∧ c.slots.size = n ∧ ∀ i, i < n → c.slots[i]? = some (f i)
section Blks
variable {C : String} {f : Nat → Value}
theorem Blk.lt (F : Blk Z h a ty C n f) : a < h.size := by obtain ⟨c, A, -⟩ := F; exact A.lt
theorem Blk.ext (F : Blk Z h a ty C n f) (E : Ext h h') : Blk Z h' a ty C n f := by obtain ⟨c, A, r⟩ := F; exact ⟨c, A.ext E, r⟩
theorem Blk.other {sl : Nat} {v : Value} (F : Blk Z h b ty C n f) (W : Wr h h' a sl v) (q : b ≠ a) : Blk Z h' b ty C n f := by obtain ⟨c, A, r⟩ := F; exact ⟨c, A.other W q, r⟩
theorem Blk.keep {ws : List Addr} (F : Blk Z h a ty C n f) (K : Keep h h' ws) (q : a ∉ ws) : Blk Z h' a ty C n f := by obtain ⟨c, A, r⟩ := F; exact ⟨c, ⟨K.2.1 a c A.1 q, A.2⟩, r⟩
theorem Blk.new {cA : ClassId} {z : Int32} (A : Arr Z h a (newA cA (.array ty) z) (.array ty)) (O : OvrA Z cA ty C) : Blk Z h a ty C z.toNatClampNeg (fun _ => .null) :=
  ⟨_, A, O, sz_new _ _ _, fun i hi => by simp [newA, hi, defaultValue]⟩
end Blks
end Arrays
end Jvm.Own
namespace Jvm.Own
open Sem ClassFile Op Lib Jvm.Stand Jvm.Free Jvm.LawKit Jvm.RoadKit
/-- what a body leaves that may have loaded String constants -/
abbrev LeavesW (Z : State) (EL : List (String × Nat)) (h0 : Heap) (s : State) (Q : Option Value → Heap → List Loc → Prop) (C N : Nat) (o : Outcome) (U : State) : Prop := ∃ v L, o = .returned v ∧ Q v U.heap L ∧ CHr Z EL s.vm h0 U.vm U.heap ∧ ReturnedEndW s o U L C N
abbrev PaysW (l : Launch) (Z : State) (EL : List (String × Nat)) (y : MethodName) (bytes : ByteArray) (maxL : Nat) (ret : Option FieldType) (ws : List Jvm.Cond) (rm : Room) (as : Array Value) (h0 : Heap) (Q : Option Value → Heap → List Loc → Prop) : Prop :=
  MetFree l y (head1 (Jvm.Cond.code y bytes maxL ret :: ws) rm) (fun a U => a = as ∧ Z.Warmed39 U.vm ∧ U.heap = h0 ∧ CHv Z EL U.vm h0) (fun _ _ _ _ _ => True) (fun _ U o U' => ∃ v L, o = .returned v ∧ Q v U'.heap L ∧ CHr Z EL U.vm U.heap U'.vm U'.heap ∧ ReturnedEndW U o U' L rm.cells rm.slots)
/-- a String with these bytes -/
def Str (Z : State) (h : Heap) (r b : Addr) (k : ClassId) (N : Int32) (vs : List Value) : Prop := Exa Z h r "java/lang/String" ∧ Fld Z h r "java/lang/String" "coder" "B" (.int 0) ∧ Fld Z h r "java/lang/String" "value" "[B" (.ref b) ∧ Arv Z h b k .byte N vs (.int 0)
theorem Str.ext {Z : State} {h h' : Heap} {r b : Addr} {k : ClassId} {N : Int32} {vs : List Value} (F : Str Z h r b k N vs) (E : Ext h h') : Str Z h' r b k N vs := ⟨F.1.ext E, F.2.1.ext E, F.2.2.1.ext E, F.2.2.2.ext E⟩
theorem Str.keep {Z : State} {h h' : Heap} {r b : Addr} {k : ClassId} {N : Int32} {vs : List Value} {ws : List Addr} (F : Str Z h r b k N vs) (K : Keep h h' ws) (hr : r ∉ ws) (hb : b ∉ ws) : Str Z h' r b k N vs := ⟨F.1.keep K, F.2.1.keep K hr, F.2.2.1.keep K hr, F.2.2.2.keep K hb⟩
theorem Str.wr {Z : State} {h h' : Heap} {r b a : Addr} {k : ClassId} {N : Int32} {vs : List Value} {sl : Nat} {v : Value} (F : Str Z h r b k N vs) (W : Wr h h' a sl v) (hr : r ≠ a) (hb : b ≠ a) : Str Z h' r b k N vs := ⟨F.1.wr W, F.2.1.other W (Or.inl hr), F.2.2.1.other W (Or.inl hr), F.2.2.2.other W hb⟩
theorem Str.ne {Z : State} {h : Heap} {r b r' b' : Addr} {k k' : ClassId} {N N' : Int32} {vs vs' : List Value} (F : Str Z h r b k N vs) (G : Str Z h r' b' k' N' vs') (hN : 0 < N.toNatClampNeg) (hv : vs.getD 0 (.int 0) ≠ vs'.getD 0 (.int 0)) : r ≠ r' := by
  by_cases q : b = b'
  · subst q
    obtain ⟨c, A, -, S, -, H, -⟩ := F.2.2.2
    obtain ⟨c', A', -, S', -, H', -⟩ := G.2.2.2
    cases A.1.symm.trans A'.1
    exact absurd (Option.some.inj ((H 0 (by omega)).symm.trans (H' 0 (by omega)))) hv
  · exact Fld.ne F.2.2.1 G.2.2.1 (fun z => q (Value.ref.inj z))
section StepsW
variable {p : Program} {l : Launch} {e : Env} {R : Room} {s : State} {m : MethodId} {args : Array Value} {below : List Frame} {meth : Method} {c : Code} {T T' : State} {locs : List Loc} {cells slots : Nat} {Z : State} {a0 : Array Value} {h h0 : Heap} {P : Outcome → State → Prop} {g g' : JFrame} {EL : List (String × Nat)} {vm vm0 vm1 : Vm} {k0 : Nat}
theorem endMono {t : State} {o : Outcome} {L : List Loc} {k n k' n' : Nat} (q : ReturnedEndW s o t L k n) (hk : k ≤ k') (hn : n ≤ n') : ReturnedEndW s o t L k' n' := ⟨q.1, q.2.1, q.2.2.1, q.2.2.2.mono hk hn⟩
theorem Goes.outW {Q : Option Value → Heap → List Loc → Prop} {C N : Nat} (X : Stand p l e R (s.setVm vm0) m args below meth c T locs cells slots) (hS : s.Since vm0 k0) (hk : k0 ≤ T.heap.size) (hZ : Z.Warmed39 vm0) (hEL : EW Z a0 EL) (hr : CHr Z EL s.vm h0 vm0 T.heap) {v : Option Value} (hv : meth.sig.returnType = none → v = none) (hlk : meth.locks = false) (hc : cells ≤ C) (hs : slots ≤ N) (hq : Q v T.heap locs)
    (st : ∀ fs, (∀ (f : JFrame) (acts : List Action), f.method = m → f.locked = none → f.entered = [] → (doReturn e (T.setTop f) acts v).1 = T.setFrames fs) → Steps p.tables e below (T.setTop g) (T.setFrames fs)) : Goes p e below (LeavesW Z EL h0 s Q C N) T g := by
  obtain ⟨fs, hrr, hrun, hended, hE⟩ := X.leaveW hS hk (v := v) hv hlk
  have hC : CHr Z EL s.vm h0 T.vm T.heap := hr.trans (CHv.at X hZ hEL hr.1)
  exact ⟨_, _, st fs hrr, hrun, hended, v, locs, rfl, hq, hC, endMono hE hc hs⟩
theorem Goes.retVW {Q : Option Value → Heap → List Loc → Prop} {C N : Nat} (X : Stand p l e R (s.setVm vm0) m args below meth c T locs cells slots) (hS : s.Since vm0 k0) (hk : k0 ≤ T.heap.size) (hZ : Z.Warmed39 vm0) (hEL : EW Z a0 EL) (hr : CHr Z EL s.vm h0 vm0 T.heap) (hx : p.tables.exec = Jvm.exec) (hlk : meth.locks = false) (hret : meth.sig.returnType = none) {pc : Nat} {Ls : Array Slot} (hd : decode c.code pc = .ok (.return_, 1)) (hc : cells ≤ C) (hs : slots ≤ N) (hq : Q none T.heap locs) :
    Goes p e below (LeavesW Z EL h0 s Q C N) T (mkF m pc Ls []) :=
  Goes.outW X hS hk hZ hEL hr (fun _ => rfl) hlk hc hs hq fun _ q => X.returnOut hx hret hd q
theorem Goes.retWW {Q : Option Value → Heap → List Loc → Prop} {C N : Nat} (X : Stand p l e R (s.setVm vm0) m args below meth c T locs cells slots) (hS : s.Since vm0 k0) (hk : k0 ≤ T.heap.size) (hZ : Z.Warmed39 vm0) (hEL : EW Z a0 EL) (hr : CHr Z EL s.vm h0 vm0 T.heap) (hx : p.tables.exec = Jvm.exec) (hlk : meth.locks = false) {t : FieldType} {i : Instr} {w : Value} (hret : meth.sig.returnType = some t) {pc : Nat} {Ls : Array Slot} {rest : List Value} (hn : narrow t w = w)
    (hi : (i = .ireturn ∧ (t = .int ∨ t = .boolean ∨ t = .byte ∨ t = .char ∨ t = .short) ∧ ∃ z, w = .int z) ∨ (i = .lreturn ∧ t = .long ∧ ∃ z, w = .long z) ∨ (i = .dreturn ∧ t = .double ∧ ∃ z, w = .double z) ∨ (i = .freturn ∧ t = .float ∧ ∃ z, w = .float z) ∨ (i = .areturn ∧ t.isReference = true ∧ w.isRef = true))
    (hd : decode c.code pc = .ok (i, 1)) (hc : cells ≤ C) (hs : slots ≤ N) (hq : Q (some w) T.heap locs) : Goes p e below (LeavesW Z EL h0 s Q C N) T (mkF m pc Ls (w :: rest)) :=
  Goes.outW X hS hk hZ hEL hr (fun h => by rw [hret] at h; cases h) hlk hc hs hq fun _ q => retOut X hx hret hn hi hd q
theorem Goes.retBW {Q : Option Value → Heap → List Loc → Prop} {C N : Nat} (X : Stand p l e R (s.setVm vm0) m args below meth c T locs cells slots) (hS : s.Since vm0 k0) (hk : k0 ≤ T.heap.size) (hZ : Z.Warmed39 vm0) (hEL : EW Z a0 EL) (hr : CHr Z EL s.vm h0 vm0 T.heap) (hx : p.tables.exec = Jvm.exec) (hlk : meth.locks = false) {z : Int32} (hret : meth.sig.returnType = some .boolean) {pc : Nat} {Ls : Array Slot} {rest : List Value} (hz : z = 0 ∨ z = 1) (hd : decode c.code pc = .ok (.ireturn, 1)) (hc : cells ≤ C) (hs : slots ≤ N) (hq : Q (some (.int z)) T.heap locs) :
    Goes p e below (LeavesW Z EL h0 s Q C N) T (mkF m pc Ls (.int z :: rest)) := Goes.retWW X hS hk hZ hEL hr hx hlk hret (by rcases hz with rfl | rfl <;> rfl) (Or.inl ⟨rfl, Or.inr (Or.inl rfl), _, rfl⟩) hd hc hs hq
theorem Goes.retAW {Q : Option Value → Heap → List Loc → Prop} {C N : Nat} (X : Stand p l e R (s.setVm vm0) m args below meth c T locs cells slots) (hS : s.Since vm0 k0) (hk : k0 ≤ T.heap.size) (hZ : Z.Warmed39 vm0) (hEL : EW Z a0 EL) (hr : CHr Z EL s.vm h0 vm0 T.heap) (hx : p.tables.exec = Jvm.exec) (hlk : meth.locks = false) {w : Value} {t : FieldType} (hret : meth.sig.returnType = some t) (ht : t.isReference = true) (hw : w.isRef = true) {pc : Nat} {Ls : Array Slot} {rest : List Value} (hd : decode c.code pc = .ok (.areturn, 1)) (hc : cells ≤ C) (hs : slots ≤ N) (hq : Q (some w) T.heap locs) :
    Goes p e below (LeavesW Z EL h0 s Q C N) T (mkF m pc Ls (w :: rest)) := Goes.retWW X hS hk hZ hEL hr hx hlk hret (by cases t <;> first | rfl | cases ht) (Or.inr (Or.inr (Or.inr (Or.inr ⟨rfl, ht, hw⟩)))) hd hc hs hq
theorem PaysW.walk {y : MethodName} {bytes : ByteArray} {maxL : Nat} {ret : Option FieldType} {ws : List Jvm.Cond} {rm : Room} {as : Array Value} {Q : Option Value → Heap → List Loc → Prop} {Ls : Array Slot}
    (hn : plainFor y = true) (hef : ∀ m, entryFrame m as maxL = mkF m 0 Ls [])
    (body : ∀ (p : Program) (e : Env) (s : State) (m : MethodId) (below : List Frame) (meth : Method) (c : Code) (T : State), Stand p l e rm (s.setVm s.vm) m as below meth c T [] 0 0 → p.tables.exec = Jvm.exec → c.code = bytes → c.maxLocals = maxL → (s.setVm s.vm).vm.findClass y.cls = some m.cls → meth.name = y.name → Z.Warmed39 (s.setVm s.vm).vm → T.heap = h0 → meth.sig.returnType = ret → meth.locks = false → s.Since s.vm 0 → CHr Z EL s.vm h0 s.vm h0 →
      Goes p e below (LeavesW Z EL h0 s Q rm.cells rm.slots) T (mkF m 0 Ls [])) : PaysW l Z EL y bytes maxL ret ws rm as h0 Q := by
  refine MetFree.of_bodySF hn hisR ?_
  intro p e s m args below meth c s₁ Bd hml0 hP hK
  obtain ⟨rfl, hZ, rfl, hC⟩ := hP
  have X0 : Stand p l e rm s m args below meth c s₁ [] 0 0 := Stand.of_body Bd
  obtain ⟨s₂, o, h1, h2⟩ := body p e s m below meth c s₁ X0 Bd.exec Bd.bytes hml0 (findClass_of_methodNamed Bd.named) (name_of_methodNamed Bd.named Bd.method).1 hZ (by rw [Bd.state]; rfl) Bd.returns Bd.notSynchronized ((State.WarmedH.refl s).since 0) (CHr.refl hC)
  exact ⟨s₂, o, castTop (hef m) h1, h2⟩
/-- the continuation behind a callee that may have interned -/
abbrev AfterW (p : Program) (l : Launch) (e : Env) (R : Room) (s : State) (m : MethodId) (args : Array Value) (below : List Frame) (meth : Method) (c : Code) (Z : State) (EL : List (String × Nat)) (own : String) (vm0 : Vm) (h : Heap) (Q : Option Value → Heap → List Loc → Prop) (locs : List Loc) (cells slots : Nat) (P : Outcome → State → Prop) (fr : Option Value → JFrame) : Prop :=
  ∀ v T' L k', Stand p l e R (s.setVm T'.vm) m args below meth c T' (locs ++ L) cells slots → s.Since T'.vm k' → k' ≤ T'.heap.size → Z.Warmed39 (s.setVm T'.vm).vm → (s.setVm T'.vm).vm.findClass own = some m.cls → CHr Z EL vm0 h T'.vm T'.heap → Q v T'.heap L → Goes p e below P T' (fr v)
theorem Goes.callSW (X : Stand p l e R (s.setVm vm0) m args below meth c T locs cells slots) (hx : p.tables.exec = Jvm.exec) (hZ : Z.Warmed39 (s.setVm vm0).vm) (hS : s.Since vm0 k0) (hk : k0 ≤ h.size) (hEL : EW Z a0 EL) (H : CHv Z EL vm0 h) {own : String} {index : Nat} {y : MethodName} {bytes : ByteArray} {maxL : Nat} {ret : Option FieldType} {rm : Room} {as' : Array Value} {Q : Option Value → Heap → List Loc → Prop} (W : Nat)
    (hown : (s.setVm vm0).vm.findClass own = some m.cls) (w1 : (Jvm.Cond.methodLink own index y).before a0 Z = true) (w2 : (Jvm.Cond.static y).before a0 Z = true) (w3 : (Jvm.Cond.initialized y.cls).before a0 Z = true) (w4 : (Jvm.Cond.code y bytes maxL ret).before a0 Z = true) (hy : y.cls ≠ "java/lang/invoke/MethodHandle" ∧ y.cls ≠ "java/lang/invoke/VarHandle")
    (eT : T.heap = h) (hM : PaysW l Z EL y bytes maxL ret [] rm as' h Q) (hf : rm.frames + 1 ≤ R.frames) (hl : W + (maxL + 11) + rm.locals ≤ R.locals) (hc : cells + rm.cells ≤ R.cells) (hs : slots + rm.slots ≤ R.slots)
    (hg : g.method = m) (hsize : g.locals.size = c.maxLocals) {argsL rest : List Value} (has : argsL.toArray = as') (hlen : ∀ sig, parseMethodDescriptor y.desc = some sig → argsL.length = sig.parameters.length) (hstack : g.stack = argsL.reverse ++ rest) (hW : 2 * g.monitorRoom + (rest.map fun v => v.category).sum ≤ W)
    (hd : decode c.code g.pc = .ok (.invokestatic index, 3))
    (k : AfterW p l e R s m args below meth c Z EL own vm0 h Q locs (cells + rm.cells) (slots + rm.slots) P (fun v => { g with pc := g.pc + 3, stack := v.toList ++ rest })) : Goes p e below P T g := by
  obtain ⟨v, _, ⟨T', L', k', n'⟩, -, X', hS', hgr, ⟨Lc, hQ, l', y', z', hC⟩, st⟩ := callSS X hx hown (mvT hZ w1) (mvT hZ w2) (mvT hZ w3) (mvT hZ w4) hy (backOfSH (s := s) (W := W) hM hZ w4 w3 hf hl hEL H) hg hsize (argsL := argsL) (rest := rest) hlen hstack hW hd (fun _ _ => ⟨has, eT, hc, hs⟩)
  dsimp only [Pt.U, Pt.locs, Pt.cells, Pt.slots] at X' l' y' z' st hQ hS' hgr hC
  subst l' y' z'
  obtain ⟨X2, hS2, hZ2, ho2⟩ := rebS hS (n1 := h.size) hk X' hS' (by rw [← eT]; exact hgr) hZ hown
  exact Goes.on (fun _ q => st.trans q) (k v T' Lc _ X2 hS2 (Nat.le_refl _) hZ2 ho2 hC hQ)
theorem Goes.callCW (X : Stand p l e R (s.setVm vm0) m args below meth c T locs cells slots) (hx : p.tables.exec = Jvm.exec) (hZ : Z.Warmed39 (s.setVm vm0).vm) (hS : s.Since vm0 k0) (hk : k0 ≤ h.size) (hEL : EW Z a0 EL) (H : CHv Z EL vm0 h) {own : String} {index : Nat} {y : MethodName} {bytes : ByteArray} {maxL : Nat} {rm : Room} {as' : Array Value} {Q : Option Value → Heap → List Loc → Prop} (W : Nat) (hy1 : y.name = "<init>")
    (hown : (s.setVm vm0).vm.findClass own = some m.cls) (w1 : (Jvm.Cond.methodLink own index y).before a0 Z = true) (w2 : (Jvm.Cond.instanceMethod y).before a0 Z = true) (w3 : (Jvm.Cond.initialized y.cls).before a0 Z = true) (w4 : (Jvm.Cond.code y bytes maxL none).before a0 Z = true) (hy : y.cls ≠ "java/lang/invoke/MethodHandle" ∧ y.cls ≠ "java/lang/invoke/VarHandle")
    (eT : T.heap = h) (hM : PaysW l Z EL y bytes maxL none [] rm as' h Q) (hf : rm.frames + 1 ≤ R.frames) (hl : W + (maxL + 11) + rm.locals ≤ R.locals) (hc : cells + rm.cells ≤ R.cells) (hs : slots + rm.slots ≤ R.slots)
    (hg : g.method = m) (hsize : g.locals.size = c.maxLocals) {a : Addr} {argsL rest : List Value} (has : (Value.ref a :: argsL).toArray = as') (hlen : ∀ sig, parseMethodDescriptor y.desc = some sig → argsL.length = sig.parameters.length) (hstack : g.stack = argsL.reverse ++ .ref a :: rest) (hW : 2 * g.monitorRoom + (rest.map fun v => v.category).sum ≤ W)
    (hd : decode c.code g.pc = .ok (.invokespecial index, 3))
    (k : AfterW p l e R s m args below meth c Z EL own vm0 h Q locs (cells + rm.cells) (slots + rm.slots) P (fun v => { g with pc := g.pc + 3, stack := v.toList ++ rest })) : Goes p e below P T g := by
  obtain ⟨v, _, ⟨T', L', k', n'⟩, -, X', hS', hgr, ⟨Lc, hQ, l', y', z', hC⟩, st⟩ := X.specialBackS hx (y := y) hy1 hown (mvT hZ w1) (mvT hZ w2) (mvT hZ w4) hy (backOfSH (s := s) (W := W) hM hZ w4 w3 hf hl hEL H) hg hsize (Steps.refl _) (a := a) (argsL := argsL) (rest := rest) hlen hstack hW hd (fun _ _ => ⟨has, eT, hc, hs⟩)
  dsimp only [Pt.U, Pt.locs, Pt.cells, Pt.slots] at X' l' y' z' st hQ hS' hgr hC
  subst l' y' z'
  obtain ⟨X2, hS2, hZ2, ho2⟩ := rebS hS (n1 := h.size) hk X' hS' (by rw [← eT]; exact hgr) hZ hown
  exact Goes.on (fun _ q => st.trans q) (k v T' Lc _ X2 hS2 (Nat.le_refl _) hZ2 ho2 hC hQ)
end StepsW
end Jvm.Own
namespace Jvm.Own
open Sem ClassFile Op Lib Jvm.Stand Jvm.Free Jvm.LawKit Jvm.RoadKit
abbrev sI (x : Int32) : Slot := .val (.int x)
abbrev sJ (x : Int64) : Slot := .val (.long x)
abbrev sR (x : Addr) : Slot := .val (.ref x)
abbrev sD (x : UInt64) : Slot := .val (.double x)
abbrev sN : Slot := .val .null
abbrev s2 : Slot := .second
abbrev su : Slot := .unset
section Refs
variable {p : Program} {l : Launch} {e : Env} {R : Room} {s : State} {m : MethodId} {args : Array Value} {below : List Frame} {meth : Method} {c : Code} {T T' : State} {locs : List Loc} {cells slots : Nat} {Z : State} {a0 : Array Value} {h h' : Heap} {g g' : JFrame} {a b : Addr} {j : Int32} {rest : List Value}
/-- getfield at an entry that is resolved already (fieldRef) -/
theorem getFR (X : Stand p l e R s m args below meth c T locs cells slots) (hx : p.tables.exec = Jvm.exec) (hZ : Z.Warmed39 s.vm) {own O n d : String} {index : Nat} (hown : s.vm.findClass own = some m.cls) (w : (Jvm.Cond.fieldRef own index O n d).before a0 Z = true)
    (eT : T.heap = h) {v : Value} (F : Fld Z h a O n d v) (hg : g.method = m) (hs : g.stack = .ref a :: rest) (hd : decode c.code g.pc = .ok (.getfield index, 3)) {t : State}
    (k : Steps p.tables e below (T.setTop { g with pc := g.pc + 3, stack := v :: rest }) t) : Steps p.tables e below (T.setTop g) t := by
  have hT : Z.Warmed39 T.vm := wtrans hZ X.warmed
  obtain ⟨cf', k', i', f', hi', hready⟩ := Cond.fieldRef_spec (s := Z.setVm T.vm) (cur := m.cls) (by show T.vm.findClass own = _; rw [X.warmed.alike.findClass]; exact hown) (Cond.fieldRef_warmed39 hT w)
  obtain ⟨cell, cf, kk, i, f, h1, h2, h3, h4, -, -, h7⟩ := F
  obtain ⟨k2, hi, -⟩ := State.fieldFound?_setVm (s := Z) hT.alike h2
  cases hi.symm.trans hi'
  exact (X.getfieldR hx hg hready h3 hs (by rw [eT]; exact h1) h4 h7 hd (Steps.refl _)).trans k
theorem getFRm (X : Stand p l e R s m args below meth c T locs cells slots) (hx : p.tables.exec = Jvm.exec) (hZ : Z.Warmed39 s.vm) {own O n d : String} {index : Nat} (hown : s.vm.findClass own = some m.cls) (w : (Jvm.Cond.fieldRef own index O n d).before a0 Z = true)
    (eT : T.heap = h) {v : Value} (F : Fld Z h a O n d v) {pc : Nat} {Ls : Array Slot} (hd : decode c.code pc = .ok (.getfield index, 3)) {t : State}
    (k : Steps p.tables e below (T.setTop (mkF m (pc + 3) Ls (v :: rest))) t) : Steps p.tables e below (T.setTop (mkF m pc Ls (.ref a :: rest))) t :=
  getFR (g := mkF m pc Ls (.ref a :: rest)) X hx hZ hown w eT F rfl rfl hd k
/-- putfield at an entry that is resolved already (fieldRef) -/
theorem putFR (X : Stand p l e R s m args below meth c T locs cells slots) (hx : p.tables.exec = Jvm.exec) (hZ : Z.Warmed39 s.vm) {own O n d C : String} {index kk : Nat} {ty : FieldType} (hown : s.vm.findClass own = some m.cls) (w : (Jvm.Cond.fieldRef own index O n d).before a0 Z = true)
    (eT : T.heap = h) {v old : Value} (F : Fld Z h a O n d old) (E : Exa Z h a C) (L : (Jvm.Cond.lays C O n d).before a0 Z = true) (wi : (Jvm.Cond.instantiable C kk).before a0 Z = true)
    (hty : parseFieldDescriptor d = some ty) (hn : narrow ty v = v) (hf : fits ty v = true) (hg : g.method = m) (hs : g.stack = v :: .ref a :: rest) (hd : decode c.code g.pc = .ok (.putfield index, 3)) :
    ∃ T' h', Stand p l e R s m args below meth c T' (locs ++ [⟨a, RoadKit.slotOf Z O n d⟩]) cells slots ∧ T'.heap = h' ∧ Wr h h' a (RoadKit.slotOf Z O n d) v ∧ ∀ target, Steps p.tables e below (T'.setTop { g with pc := g.pc + 3, stack := rest }) target → Steps p.tables e below (T.setTop g) target := by
  have hT : Z.Warmed39 T.vm := wtrans hZ X.warmed
  obtain ⟨cf', k', i', f', hi', hready⟩ := Cond.fieldRef_spec (s := Z.setVm T.vm) (cur := m.cls) (by show T.vm.findClass own = _; rw [X.warmed.alike.findClass]; exact hown) (Cond.fieldRef_warmed39 hT w)
  obtain ⟨cell, cf, kf, i, f, h1, h2, h3, h4, h5, -, h7⟩ := F
  obtain ⟨k2, hi, -⟩ := State.fieldFound?_setVm (s := Z) hT.alike h2
  cases hi.symm.trans hi'
  obtain ⟨cell', kc, e1, e2, e3, -⟩ := E
  cases h1.symm.trans e1
  obtain ⟨c1, k1, c2, k3, j1, f1, b1, b2, b3, -, b5, -, b7, -⟩ := Cond.lays_spec L
  cases h2.symm.trans b3
  cases e2.symm.trans b1
  cases e3.symm.trans b2
  obtain ⟨c3, k4, d1, d2, d3, -⟩ := Cond.instantiable_spec wi
  cases e2.symm.trans d1
  cases e3.symm.trans d2
  have ht := (State.fieldFound?_type h2 hty).2
  have hlt := (Array.getElem?_eq_some_iff.mp h7).1
  have hfit : T.fitsSlot cell.cls cell.vm f'.slot v = true := by
    rw [Joins.fitsSlot_plain h5]
    exact fresh_fits hT.alike e3 d3 b7 (by rw [ht]; exact hf)
  obtain ⟨X', st⟩ := X.putfieldReady hx hready h3 (Or.inl b5) (by rw [eT]; exact h1) h4 hlt (by rw [ht]; exact hn) hfit hg hs hd
  have es : RoadKit.slotOf Z O n d = f'.slot := by simp [RoadKit.slotOf, h2]
  rw [es]
  exact ⟨_, _, X', rfl, ⟨cell, h1, h5, hlt, by rw [← eT]; rfl⟩, st⟩
/-- an array of objects of the class C -/
def Rbk (Z : State) (h : Heap) (b : Addr) (C : String) (n : Nat) (f : Nat → Value) : Prop := ∃ c : Cell, Arr Z h b c (.object C) ∧ Ovr Z c.cls C ∧ c.slots.size = n ∧ (∀ i, i < n → c.slots[i]? = some (f i)) ∧ ∀ i, (f i).isRef = true
variable {C : String} {n : Nat} {f : Nat → Value}
theorem Rbk.lt (F : Rbk Z h a C n f) : a < h.size := by obtain ⟨c, A, -⟩ := F; exact A.lt
theorem Rbk.ext (F : Rbk Z h a C n f) (E : Ext h h') : Rbk Z h' a C n f := by obtain ⟨c, A, r⟩ := F; exact ⟨c, A.ext E, r⟩
theorem Rbk.other {sl : Nat} {v : Value} (F : Rbk Z h b C n f) (W : Wr h h' a sl v) (q : b ≠ a) : Rbk Z h' b C n f := by obtain ⟨c, A, r⟩ := F; exact ⟨c, A.other W q, r⟩
theorem Rbk.keep {ws : List Addr} (F : Rbk Z h a C n f) (K : Keep h h' ws) (q : a ∉ ws) : Rbk Z h' a C n f := by obtain ⟨c, A, r⟩ := F; exact ⟨c, ⟨K.2.1 a c A.1 q, A.2⟩, r⟩
theorem Rbk.new {cA : ClassId} {z : Int32} (A : Arr Z h a (newA cA (.object C) z) (.object C)) (O : Ovr Z cA C) : Rbk Z h a C z.toNatClampNeg (fun _ => .null) :=
  ⟨_, A, O, sz_new _ _ _, fun i hi => by simp [newA, hi, defaultValue], fun _ => rfl⟩
theorem Rbk.congr {f' : Nat → Value} (F : Rbk Z h b C n f) (q : ∀ i, f' i = f i) : Rbk Z h b C n f' := by
  obtain rfl : f' = f := funext q
  exact F
theorem ldR (X : Stand p l e R s m args below meth c T locs cells slots) (hx : p.tables.exec = Jvm.exec) (hZ : Z.Warmed39 s.vm) (eT : T.heap = h) (F : Rbk Z h a C n f) (hj : ¬ j < 0 ∧ j.toNatClampNeg < n) (hg : g.method = m) (hs : g.stack = .int j :: .ref a :: rest) (hd : decode c.code g.pc = .ok (.aaload, 1)) {t : State}
    (k : Steps p.tables e below (T.setTop { g with pc := g.pc + 1, stack := f j.toNatClampNeg :: rest }) t) : Steps p.tables e below (T.setTop g) t := by
  obtain ⟨cl, A, O, S, H, -⟩ := F
  exact X.aaload hx (by rw [eT]; exact A.1) (State.isArrayOf_alike hZ.alike A.2.1) rfl A.2.2 (Arf.inb S hj) (H _ hj.2) hg hs hd t k
theorem ldRm (X : Stand p l e R s m args below meth c T locs cells slots) (hx : p.tables.exec = Jvm.exec) (hZ : Z.Warmed39 s.vm) (eT : T.heap = h) (F : Rbk Z h a C n f) (hj : ¬ j < 0 ∧ j.toNatClampNeg < n) {pc : Nat} {Ls : Array Slot} (hd : decode c.code pc = .ok (.aaload, 1)) {t : State}
    (k : Steps p.tables e below (T.setTop (mkF m (pc + 1) Ls (f j.toNatClampNeg :: rest))) t) : Steps p.tables e below (T.setTop (mkF m pc Ls (.int j :: .ref a :: rest))) t :=
  ldR (g := mkF m pc Ls (.int j :: .ref a :: rest)) X hx hZ eT F hj rfl rfl hd k
theorem lenR (X : Stand p l e R s m args below meth c T locs cells slots) (hx : p.tables.exec = Jvm.exec) (hZ : Z.Warmed39 s.vm) (eT : T.heap = h) (F : Rbk Z h a C n f) (hg : g.method = m) (hs : g.stack = .ref a :: rest) (hd : decode c.code g.pc = .ok (.arraylength, 1)) {t : State}
    (k : Steps p.tables e below (T.setTop { g with pc := g.pc + 1, stack := .int n.toInt32 :: rest }) t) : Steps p.tables e below (T.setTop g) t := by
  obtain ⟨cl, A, O, S, H, -⟩ := F
  exact X.arraylength hx (by rw [eT]; exact A.1) (State.isArrayOf_alike hZ.alike A.2.1) hg hs hd t (by rw [S]; exact k)
theorem lenRm (X : Stand p l e R s m args below meth c T locs cells slots) (hx : p.tables.exec = Jvm.exec) (hZ : Z.Warmed39 s.vm) (eT : T.heap = h) (F : Rbk Z h a C n f) {pc : Nat} {Ls : Array Slot} (hd : decode c.code pc = .ok (.arraylength, 1)) {t : State}
    (k : Steps p.tables e below (T.setTop (mkF m (pc + 1) Ls (.int n.toInt32 :: rest))) t) : Steps p.tables e below (T.setTop (mkF m pc Ls (.ref a :: rest))) t :=
  lenR (g := mkF m pc Ls (.ref a :: rest)) X hx hZ eT F rfl rfl hd k
theorem wrR {v : Value} (X : Stand p l e R s m args below meth c T locs cells slots) (hx : p.tables.exec = Jvm.exec) (hZ : Z.Warmed39 s.vm) (eT : T.heap = h) (F : Rbk Z h a C n f) (I : v = .null ∨ ∃ y, v = .ref y ∧ Ins Z h y C true) (hj : ¬ j < 0 ∧ j.toNatClampNeg < n) (hg : g.method = m) (hs : g.stack = v :: .int j :: .ref a :: rest) (hd : decode c.code g.pc = .ok (.aastore, 1)) :
    ∃ T' h', Stand p l e R s m args below meth c T' (locs ++ [⟨a, j.toNatClampNeg⟩]) cells slots ∧ T'.heap = h' ∧ Wr h h' a j.toNatClampNeg v ∧ Rbk Z h' a C n (Upd f j.toNatClampNeg v) ∧ ∀ target, Steps p.tables e below (T'.setTop { g with pc := g.pc + 1, stack := rest }) target → Steps p.tables e below (T.setTop g) target := by
  obtain ⟨cl, A, O, S, H, r⟩ := F
  have hsto : Sto Z h a v := by
    rcases I with q | ⟨y, q, I⟩
    · exact Or.inl q
    · rw [q]; exact Sto.of A O I
  have hv : v.isRef = true := by
    rcases I with q | ⟨y, q, -⟩ <;> rw [q] <;> rfl
  obtain ⟨T', h', X', e', W, st⟩ := stR X hx hZ eT A (Arf.inb S hj) rfl hsto hg hs hd
  refine ⟨T', h', X', e', W, ⟨_, A.same W, O, (sz_set _ _ _).trans S, fun i hi => ?_, fun i => ?_⟩, st⟩
  · by_cases q : i = j.toNatClampNeg
    · subst q; simp [Cell.setSlot, Upd, S, hi]
    · have : ((cl.setSlot j.toNatClampNeg v).slots)[i]? = cl.slots[i]? := Array.getElem?_setIfInBounds_ne (Ne.symm q)
      rw [this, H i hi]; simp [Upd, q]
  · unfold Upd; split
    · exact hv
    · exact r i
theorem Arf.same {α : Type} {con : α → Value} {ty : FieldType} {f f' : Nat → α} (F : Arf Z h b ty con n f) (q : ∀ i, f' i = f i) : Arf Z h b ty con n f' := by
  obtain rfl : f' = f := funext q
  exact F
theorem Rbk.safe {EL : List (String × Nat)} {vm : Vm} (hal : Z.vm.Alike vm) (F : Rbk Z h a C n f) : Safe Z EL vm h a := by
  obtain ⟨c, A, -⟩ := F
  exact Safe.arr hal A (fun q => by cases q)
theorem Rbk.sto {y : Addr} (F : Rbk Z h a C n f) (I : Ins Z h y C true) : Sto Z h a (.ref y) := by
  obtain ⟨c, A, O, -⟩ := F
  exact Sto.of A O I
theorem acZero {α : Type} {f : Nat → α} {sp dp : Nat} : ∀ i, f i = if dp ≤ i ∧ i < dp + 0 then f (sp + (i - dp)) else f i := fun i => (if_neg (by omega)).symm
theorem acOne {α : Type} {f : Nat → α} {sp dp : Nat} {v : α} (hv : f sp = v) : ∀ i, Upd f dp v i = if dp ≤ i ∧ i < dp + 1 then f (sp + (i - dp)) else f i := by
  intro i
  unfold Upd
  by_cases q : i = dp
  · subst q
    rw [if_pos rfl, if_pos ⟨Nat.le_refl _, Nat.lt_succ_self _⟩, Nat.sub_self, Nat.add_zero, hv]
  · rw [if_neg q, if_neg (by omega)]
theorem cpL {f : Nat → Value} {sp dp len i : Nat} (h5 : dp + len ≤ n) (hi : i < n) (d : Value) :
    (((List.range n).map f).take dp ++ ((List.range len).map fun i => f (sp + i)) ++ ((List.range n).map f).drop (dp + len)).getD i d = if dp ≤ i ∧ i < dp + len then f (sp + (i - dp)) else f i := by
  by_cases q : i < dp
  · rw [if_neg (by omega)]
    have q4 : min dp n = dp := by omega
    simp [List.getD, List.getElem?_append, q, hi, q4]
    done
  · by_cases q2 : i < dp + len
    · rw [if_pos ⟨by omega, q2⟩]
      have q3 : i - dp < len := by omega
      have q4 : min dp n = dp := by omega
      simp [List.getD, List.getElem?_append, q, q2, q3, q4]
    · rw [if_neg (by omega)]
      have q3 : ¬ i - dp < len := by omega
      have q4 : min dp n = dp := by omega
      have q5 : dp + len + (i - (dp + len)) = i := by omega
      have q6 : i - dp - len = i - (dp + len) := by omega
      simp [List.getD, List.getElem?_append, q, q2, q3, q4, q5, q6, hi]
/-- System.arraycopy(b, sp, b, dp, len) in an array of objects -/
theorem acR (X : Stand p l e R s m args below meth c T locs cells slots) (hx : p.tables.exec = Jvm.exec) (hZ : Z.Warmed39 s.vm) {own : String} {index : Nat} (hown : s.vm.findClass own = some m.cls)
    (w1 : (Jvm.Cond.methodLink own index Jvm.Stand.acN).before a0 Z = true) (w2 : (Jvm.Cond.native Jvm.Stand.acN).before a0 Z = true) (w3 : (Jvm.Cond.static Jvm.Stand.acN).before a0 Z = true) (w4 : (Jvm.Cond.initialized "java/lang/System").before a0 Z = true) (eT : T.heap = h)
    (F : Rbk Z h b C n f) {sp dp nn : Int32} {sp' dp' len : Nat} (q1 : ¬ sp < 0 ∧ sp.toNatClampNeg = sp') (q2 : ¬ dp < 0 ∧ dp.toNatClampNeg = dp') (q3 : ¬ nn < 0 ∧ nn.toNatClampNeg = len) (h4 : sp' + len ≤ n) (h5 : dp' + len ≤ n) (hn : n < 2 ^ 31) (hst : StoL Z h b ((List.range len).map fun i => f (sp' + i))) {n0 : Nat} (N : Fr n0 locs) (ge : n0 ≤ b)
    (hg : g.method = m) (hsize : g.locals.size = c.maxLocals) (hs : g.stack = .int nn :: .int dp :: .ref b :: .int sp :: .ref b :: rest) (hd : decode c.code g.pc = .ok (.invokestatic index, 3))
    (hfr : 1 ≤ R.frames) {W : Nat} (hW : 2 * g.monitorRoom + (rest.map fun v => v.category).sum ≤ W) (hlo : W + (nativeFrameWords "java/lang/System" "arraycopy" 5 + 11) ≤ R.locals) :
    ∃ T' h' L, Stand p l e R s m args below meth c T' L cells slots ∧ T'.heap = h' ∧ Fr n0 L ∧ Keep h h' [b] ∧ Rbk Z h' b C n (fun i => if dp' ≤ i ∧ i < dp' + len then f (sp' + (i - dp')) else f i) ∧
      ∀ target, Steps p.tables e below (T'.setTop { g with pc := g.pc + 3, stack := rest }) target → Steps p.tables e below (T.setTop g) target := by
  obtain ⟨cl, A, O, S, H, r⟩ := F
  have V : Arv Z h b cl.cls (.object C) n.toInt32 ((List.range n).map f) .null := by
    refine ⟨cl, A, rfl, by rw [nat32 hn, S], pos32 hn, fun i hi => ?_, fun i hi => ?_⟩
    · rw [S] at hi; rw [H i hi]; simp [List.getD, hi]
    · rw [S] at hi; simp [List.getD, hi]; exact fitR rfl (r i)
  obtain ⟨T', h', L, X', e', F', K', V', st⟩ := cpA X hx hZ hown w1 w2 w3 w4 eT V V (us := (List.range len).map fun i => f (sp' + i)) (Or.inr ⟨rfl, rfl, hst⟩) (sp := sp) (dp := dp) (nn := nn) q1.1 q2.1 q3.1 (by rw [q1.2, q3.2, nat32 hn]; exact h4) (by rw [q2.2, q3.2, nat32 hn]; exact h5)
    (by rw [q1.2, q3.2]; refine List.map_congr_left fun i hi => ?_
        have hi2 := List.mem_range.mp hi
        have q : sp' + i < n := by omega
        simp [List.getD, q]) (by rw [q2.2, q3.2]; simp; exact h5) N ge hg hsize hs hd hfr hW hlo
  obtain ⟨c', A', q', S', -, H', -⟩ := V'
  rw [nat32 hn] at S'
  refine ⟨T', h', L, X', e', F', K', ⟨c', A', by rw [q']; exact O, S', fun i hi => ?_, fun i => ?_⟩, st⟩
  · rw [H' i (by rw [S']; exact hi), q2.2, q3.2, cpL h5 hi]
  · show (if _ then _ else _ : Value).isRef = true
    split
    · exact r _
    · exact r _
/-- the same in an array of numbers -/
theorem acA {α : Type} {con : α → Value} {ty : FieldType} {f : Nat → α} (X : Stand p l e R s m args below meth c T locs cells slots) (hx : p.tables.exec = Jvm.exec) (hZ : Z.Warmed39 s.vm) {own : String} {index : Nat} (hown : s.vm.findClass own = some m.cls)
    (w1 : (Jvm.Cond.methodLink own index Jvm.Stand.acN).before a0 Z = true) (w2 : (Jvm.Cond.native Jvm.Stand.acN).before a0 Z = true) (w3 : (Jvm.Cond.static Jvm.Stand.acN).before a0 Z = true) (w4 : (Jvm.Cond.initialized "java/lang/System").before a0 Z = true) (eT : T.heap = h)
    (F : Arf Z h b ty con n f) (hty : refKind ty = false) (hf : ∀ x, fits ty (con x) = true) {sp dp nn : Int32} {sp' dp' len : Nat} (q1 : ¬ sp < 0 ∧ sp.toNatClampNeg = sp') (q2 : ¬ dp < 0 ∧ dp.toNatClampNeg = dp') (q3 : ¬ nn < 0 ∧ nn.toNatClampNeg = len) (h4 : sp' + len ≤ n) (h5 : dp' + len ≤ n) (hn : n < 2 ^ 31) {n0 : Nat} (N : Fr n0 locs) (ge : n0 ≤ b)
    (hg : g.method = m) (hsize : g.locals.size = c.maxLocals) (hs : g.stack = .int nn :: .int dp :: .ref b :: .int sp :: .ref b :: rest) (hd : decode c.code g.pc = .ok (.invokestatic index, 3))
    (hfr : 1 ≤ R.frames) {W : Nat} (hW : 2 * g.monitorRoom + (rest.map fun v => v.category).sum ≤ W) (hlo : W + (nativeFrameWords "java/lang/System" "arraycopy" 5 + 11) ≤ R.locals) :
    ∃ T' h' L, Stand p l e R s m args below meth c T' L cells slots ∧ T'.heap = h' ∧ Fr n0 L ∧ Keep h h' [b] ∧ Arf Z h' b ty con n (fun i => if dp' ≤ i ∧ i < dp' + len then f (sp' + (i - dp')) else f i) ∧
      ∀ target, Steps p.tables e below (T'.setTop { g with pc := g.pc + 3, stack := rest }) target → Steps p.tables e below (T.setTop g) target := by
  obtain ⟨k, V⟩ := F.arv hn hf .null
  obtain ⟨T', h', L, X', e', F', K', V', st⟩ := cpA X hx hZ hown w1 w2 w3 w4 eT V V (us := (List.range len).map fun i => con (f (sp' + i))) (Or.inl ⟨rfl, hty⟩) (sp := sp) (dp := dp) (nn := nn) q1.1 q2.1 q3.1 (by rw [q1.2, q3.2, nat32 hn]; exact h4) (by rw [q2.2, q3.2, nat32 hn]; exact h5)
    (by rw [q1.2, q3.2]; refine List.map_congr_left fun i hi => ?_
        have hi2 := List.mem_range.mp hi
        have q : sp' + i < n := by omega
        simp [List.getD, q]) (by rw [q2.2, q3.2]; simp; exact h5) N ge hg hsize hs hd hfr hW hlo
  refine ⟨T', h', L, X', e', F', K', Arv.arf V' (nat32 hn) fun i hi => ?_, st⟩
  rw [q2.2, q3.2, cpL (f := fun i => con (f i)) h5 hi]
  split
  · rfl
  · rfl
/-- an instance method that the entry names through a subclass (sameMethod) -/
theorem Goes.callU {P : Outcome → State → Prop} (X : Stand p l e R s m args below meth c T locs cells slots) (hx : p.tables.exec = Jvm.exec) (hZ : Z.Warmed39 s.vm) {own C owner : String} {index : Nat} {y z : MethodName} {bytes : ByteArray} {maxL : Nat} {ret : Option FieldType} {rm : Room} {as' : Array Value} {Q : Option Value → Heap → List Loc → Prop} (W : Nat)
    (hown : s.vm.findClass own = some m.cls) (w1 : (Jvm.Cond.methodLink own index y).before a0 Z = true) (w7 : (Jvm.Cond.sameMethod y.cls owner y.name y.desc).before a0 Z = true) (w2 : (Jvm.Cond.declares ⟨owner, y.name, y.desc⟩).before a0 Z = true) (hy : owner ≠ "java/lang/invoke/MethodHandle" ∧ owner ≠ "java/lang/invoke/VarHandle") (w5 : (Jvm.Cond.selects C y z).before a0 Z = true) (w6 : (Jvm.Cond.instanceMethod z).before a0 Z = true) (w3 : (Jvm.Cond.initialized z.cls).before a0 Z = true) (w4 : (Jvm.Cond.code z bytes maxL ret).before a0 Z = true)
    (eT : T.heap = h) {a : Addr} (E : Exa Z h a C) (hM : Pays l Z z bytes maxL ret [] rm as' h Q) (hf : rm.frames + 1 ≤ R.frames) (hl : W + (maxL + 11) + rm.locals ≤ R.locals) (hc : cells + rm.cells ≤ R.cells) (hs : slots + rm.slots ≤ R.slots)
    (hg : g.method = m) (hsize : g.locals.size = c.maxLocals) {argsL rest : List Value} (has : (Value.ref a :: argsL).toArray = as') (hlen : ∀ sig, parseMethodDescriptor y.desc = some sig → argsL.length = sig.parameters.length) (hstack : g.stack = argsL.reverse ++ .ref a :: rest) (hW : 2 * g.monitorRoom + (rest.map fun v => v.category).sum ≤ W)
    (hd : decode c.code g.pc = .ok (.invokevirtual index, 3))
    (k : ∀ v T' L, Stand p l e R s m args below meth c T' (locs ++ L) (cells + rm.cells) (slots + rm.slots) → Q v T'.heap L → Goes p e below P T' { g with pc := g.pc + 3, stack := v.toList ++ rest }) : Goes p e below P T g := by
  obtain ⟨cq, kq, qa, qb, qc⟩ := isOf hZ eT E
  obtain ⟨v, _, ⟨T', L', k', n'⟩, -, X', ⟨Lc, hQ, l', y', z'⟩, st⟩ := X.virtualBackUp hx (x := y) (y := z) hown (mvT hZ w1) (mvT hZ w7) (mvT hZ w2) hy (mvT hZ w5) (mvT hZ w6) (backOf (W := W) hM hZ w4 w3 hf hl) qa qc hg hsize (Steps.refl _) (argsL := argsL) (rest := rest) hlen hstack hW hd (fun _ _ => ⟨has, eT, hc, hs⟩)
  dsimp only [Pt.U, Pt.locs, Pt.cells, Pt.slots] at X' l' y' z' st hQ
  subst l' y' z'
  exact Goes.on (fun _ q => st.trans q) (k v T' Lc X' hQ)
/-- a class in which some method is selected is no interface -/
theorem own_nf {s : State} {C : String} {x y z : MethodName} (hsel : (Jvm.Cond.selects C x z).before #[] s = true) (hc : y.cls = z.cls) : NotFace s y := fun r0 h0 => by
  obtain ⟨c2, r2, m2, q1, q2, q3, q4, kP, hkP, hkPi⟩ := Cond.selects_spec hsel
  unfold State.methodNamed? at h0 q3
  simp only [Option.bind_eq_bind, Option.bind_eq_some_iff, Option.pure_def, Option.some.injEq] at h0 q3
  obtain ⟨c, hc1, k, hk, i, hi, rfl⟩ := h0
  obtain ⟨c', hc1', k', hk', i', hi', rfl⟩ := q3
  rw [hc] at hc1
  cases hc1.symm.trans hc1'
  exact ⟨kP, hkP, hkPi⟩
end Refs
end Jvm.Own
namespace Jvm.Pilot.@@N@@
open Jvm Jvm.ClassFile Sem Op Lib Jvm.Free Jvm.Stand Jvm.LawKit Jvm.RoadKit Bundle Jvm.Own Jvm.Pilot.@@N@@.Jvm.D
set_option maxRecDepth 65536
set_option maxHeartbeats 40000000
abbrev TW (Z : State) (a0 : Array Value) : Prop := ∀ d ∈ tables_1, d.before a0 Z = true
theorem own_le20 {W n : Nat} (h : n = W) : 2 * 0 + n ≤ W := by omega
theorem own_neG {b a n : Addr} (x : b < n) (g : a = n) : b ≠ a := Nat.ne_of_lt (Nat.lt_of_lt_of_le x (Nat.le_of_eq g.symm))
theorem own_neL {b a n : Addr} (x : b < n) (g : n ≤ a) : b ≠ a := Nat.ne_of_lt (Nat.lt_of_lt_of_le x g)
theorem own_leW {h h' : Heap} {a : Addr} {sl n : Nat} {v : Value} (W : Wr h h' a sl v) (z : n ≤ h.size) : n ≤ h'.size := by rw [W.size]; exact z
theorem own_w {Z : State} {a0 : Array Value} (hw : TW Z a0) (i : Nat) {d : Jvm.Cond} (h : tables_1[i]? = some d) : d.before a0 Z = true := hw d (List.mem_of_getElem? h)
abbrev k0C : String := "com/example/uncross/uncross/engine/BookSide"
abbrev k1C : String := "com/example/uncross/uncross/engine/BookSide$Resting"
abbrev k2C : String := "com/example/uncross/uncross/engine/BookSide$Level"
abbrev k3C : String := "com/example/uncross/uncross/model/Order"
abbrev k4C : String := "Lcom/example/uncross/uncross/engine/BookSide$Resting;"
abbrev k5C : String := "Lcom/example/uncross/uncross/engine/BookSide$Level;"
abbrev k6C : String := "[Lcom/example/uncross/uncross/engine/BookSide$Level;"
abbrev k7C : String := "Lcom/example/uncross/uncross/model/Order;"
abbrev k8C : String := "Ljava/util/OptionalLong;"
abbrev k9C : String := "Ljava/util/TreeMap;"
abbrev k10C : String := "Lcom/example/uncross/uncross/model/Side;"
abbrev k11C : String := "java/util/OptionalLong"
abbrev k12C : String := "java/util/TreeMap"
theorem own_wS {Z : State} {a0 : Array Value} (hw : TW Z a0) : ∀ d ∈ Bundle.stringAtoms, d.before a0 Z = true := by
  intro d hd
  simp only [Bundle.stringAtoms, List.mem_cons, List.not_mem_nil, or_false] at hd
  rcases hd with rfl | rfl | rfl | rfl | rfl | rfl | rfl
  · exact own_w hw 4 rfl
  · exact own_w hw 5 rfl
  · exact own_w hw 6 rfl
  · exact own_w hw 7 rfl
  · exact own_w hw 8 rfl
  · exact own_w hw 9 rfl
  · exact own_w hw 10 rfl
theorem own_EW {Z : State} {a0 : Array Value} (hw : TW Z a0) : EW Z a0 consts_1 := (EW.cons (own_w hw 3 rfl) (by decide) (EW.cons (own_w hw 135 rfl) (by decide) (EW.cons (own_w hw 37 rfl) (by decide) (EW.cons (own_w hw 45 rfl) (by decide) (EW.cons (own_w hw 96 rfl) (by decide) (EW.cons (own_w hw 162 rfl) (by decide) EW.nil))))))
theorem own_lt1 {P : Nat → Prop} (h0 : P 0) : ∀ i, i < 1 → P i := by
  intro i hi
  obtain rfl : i = 0 := by omega
  exact h0
theorem own_lt2 {P : Nat → Prop} (h0 : P 0) (h1 : P 1) : ∀ i, i < 2 → P i := by
  intro i hi
  by_cases q : i = 0
  · subst q; exact h0
  · obtain rfl : i = 1 := by omega
    exact h1
theorem own_is1 {z : Int32} {p : Prop} (hP : z = 1 ↔ p) (h : p) : some (Value.int 1) = some (Value.int z) := by rw [hP.mpr h]
theorem own_is0 {z : Int32} {p : Prop} (hz : z = 0 ∨ z = 1) (hP : z = 1 ↔ p) (h : ¬ p) : some (Value.int 0) = some (Value.int z) := by
  rcases hz with q | q
  · rw [q]
  · exact absurd (hP.mp q) h
theorem own_nz {z : Int32} (hz : z = 0 ∨ z = 1) (h : ¬ z = 0) : some (Value.int 1) = some (Value.int z) := by
  rcases hz with q | q
  · exact absurd q h
  · rw [q]
theorem own_z {z : Int32} (h : z = 0) : some (Value.int 0) = some (Value.int z) := by rw [h]
theorem own_T {p : Prop} (h : p) : (1 : Int32) = 1 ↔ p := ⟨fun _ => h, fun _ => rfl⟩
theorem own_F {p : Prop} (h : ¬ p) : (0 : Int32) = 1 ↔ p := ⟨fun q => absurd q (by decide), fun q => absurd q h⟩
theorem own_s1 {u v : Int32} (h : ∀ i, i < 1 → [Value.int u].getD i (.int 0) = [Value.int v].getD i (.int 0)) : u = v := Value.int.inj (h 0 (by decide))
theorem own_s2 {u0 u1 v0 v1 : Int32} (h : ∀ i, i < 2 → [Value.int u0, Value.int u1].getD i (.int 0) = [Value.int v0, Value.int v1].getD i (.int 0)) : u0 = v0 ∧ u1 = v1 := ⟨Value.int.inj (h 0 (by decide)), Value.int.inj (h 1 (by decide))⟩
theorem own_inj {c d : Int32} (hc : ¬ c < 0 ∧ ¬ (255 : Int32) < c) (hd : ¬ d < 0 ∧ ¬ (255 : Int32) < d) (h : c.toInt8.toInt32 = d.toInt8.toInt32) : c = d := by
  have h' := congrArg Int32.toInt h
  rw [Int8.toInt_toInt32, Int8.toInt_toInt32, Int32.toInt_toInt8, Int32.toInt_toInt8, Int.bmod_def, Int.bmod_def] at h'
  have k : (255 : Int32).toInt = 255 := rfl
  have k0 : (0 : Int32).toInt = 0 := rfl
  simp only [Int32.lt_iff_toInt_lt, k, k0] at hc hd
  apply Int32.toInt_inj.mp
  split at h' <;> split at h' <;> omega
theorem own_fitN {c : Int32} (h : nar .char c = c) : fits .char (.int c) = true := by
  have := fits_nar_char c
  rwa [h] at this
theorem own_same {Z : State} {h : Heap} {r b r' b' : Addr} {k k' : ClassId} {N N' : Int32} {vs vs' : List Value} (F : Str Z h r b k N vs) (G : Str Z h r' b' k' N' vs') (e : r = r') {n : Nat} (hn : N.toNatClampNeg = n) : N'.toNatClampNeg = n ∧ ∀ i, i < n → vs.getD i (.int 0) = vs'.getD i (.int 0) := by
  subst e
  by_cases q : b = b'
  · subst q
    obtain ⟨c, A, -, S, -, H, -⟩ := F.2.2.2
    obtain ⟨c', A', -, S', -, H', -⟩ := G.2.2.2
    cases A.1.symm.trans A'.1
    exact ⟨by omega, fun i hi => Option.some.inj ((H i (by omega)).symm.trans (H' i (by omega)))⟩
  · exact absurd rfl (Fld.ne F.2.2.1 G.2.2.1 (fun z => q (Value.ref.inj z)))
theorem own_le {x y : Int64} (h : x = y) : ¬ y < x := by
  subst h
  rw [Int64.lt_iff_toInt_lt]
  omega
theorem own_swap {l0 y l1 : Addr} : ∀ i, Upd (Upd (Upd (fun _ => Value.null) 0 (.ref l0)) 1 (.ref y)) 2 (.ref l1) i = Upd (Upd (Upd (Upd (fun _ => Value.null) 0 (.ref l0)) 1 (.ref l1)) 2 (.ref l1)) 1 (.ref y) i := by
  intro i
  unfold Upd
  by_cases q1 : i = 1
  · subst q1; rfl
  · by_cases q2 : i = 2
    · subst q2; rfl
    · simp [q1, q2]
theorem own_cut2 {l0 l1 l2 : Addr} : ∀ i, Upd (Upd (fun _ => Value.null) 0 (.ref l0)) 1 (.ref l1) i = Upd (Upd (Upd (Upd (fun _ => Value.null) 0 (.ref l0)) 1 (.ref l1)) 2 (.ref l2)) 2 .null i := by
  intro i
  unfold Upd
  by_cases q2 : i = 2
  · subst q2; rfl
  · simp [q2]
theorem own_cut21 {l0 l1 l2 : Addr} : ∀ i, Upd (fun _ => Value.null) 0 (.ref l0) i = Upd (Upd (Upd (Upd (Upd (fun _ => Value.null) 0 (.ref l0)) 1 (.ref l1)) 2 (.ref l2)) 2 .null) 1 .null i := by
  intro i
  unfold Upd
  by_cases q1 : i = 1
  · subst q1; rfl
  · by_cases q2 : i = 2
    · subst q2; rfl
    · simp [q1, q2]
theorem own_cut1 {l0 l1 : Addr} : ∀ i, Upd (fun _ => Value.null) 0 (.ref l0) i = Upd (Upd (Upd (fun _ => Value.null) 0 (.ref l0)) 1 (.ref l1)) 1 .null i := by
  intro i
  unfold Upd
  by_cases q1 : i = 1
  · subst q1; rfl
  · simp [q1]

abbrev c4C := jdk_30_method_1_code
theorem d4_0 : decode c4C 0 = .ok (.aload_n 0, 1) := by decide +kernel
theorem d4_1 : decode c4C 1 = .ok (.invokespecial 1, 3) := by decide +kernel
theorem d4_4 : decode c4C 4 = .ok (.return_, 1) := by decide +kernel
theorem ef_0 (m : MethodId) (x0 : Addr) : entryFrame m #[(.ref x0)] 1 = mkF m 0 #[.val (.ref x0)] [] := by first | (simp [entryFrame, mkF, argsToLocals, Value.category]; done) | rfl
theorem pn_0 : plainName "java/lang/Record" = true := by first | (simp [plainName, overriddenIn]; done) | decide +kernel
theorem rmRec (l : Launch) (Z : State) (a0 : Array Value) (hw : TW Z a0) (a : Addr) (h0 : Heap) (n0 : Nat) (Z0 : n0 ≤ h0.size) :
    Pays l Z (⟨"java/lang/Record", "<init>", "()V"⟩ : MethodName) jdk_30_method_1_code 1 none [] ({ frames := 1, cells := 0, slots := 0, locals := 12 } : Room) #[(.ref a)] h0 (fun v h L => v = none ∧ Fr n0 L ∧ h = h0) := by
  refine Pays.walk (plainFor_of_name pn_0) (fun m => ef_0 m a ) ?_
  intro p e s m below meth c T0 X0 hx hby hml hown hnm hZ e0 hret hlk
  have N0 := Fr.nil n0
  obtain ⟨T1, X1, e1, st1⟩ := initO X0 hx hZ hown (own_w hw 34 rfl) (own_w hw 35 rfl) (own_w hw 36 rfl) e0 (g := (mkF m 1 #[sR a] [(.ref a)])) rfl (by rw [hml]; rfl) rfl (hb hby d4_1) (by decide) (W := 0) (own_le20 rfl) (by decide)
  refine Goes.on (T' := T1) (g' := (mkF m 4 #[sR a] [])) (fun _ k => XS.aloadN X0.here hx rfl (hb hby d4_0) rfl rfl (st1 _ k)) ?_
  exact Goes.retV X1 hx hlk hret (hb hby d4_4) (by decide) (by decide) ⟨rfl, N0, e1⟩
abbrev c33C := jdk_71_method_1_code
theorem d33_0 : decode c33C 0 = .ok (.aload_n 0, 1) := by decide +kernel
theorem d33_1 : decode c33C 1 = .ok (.invokespecial 1, 3) := by decide +kernel
theorem d33_4 : decode c33C 4 = .ok (.return_, 1) := by decide +kernel
theorem pn_1 : plainName "java/util/AbstractMap" = true := by first | (simp [plainName, overriddenIn]; done) | decide +kernel
theorem rmAbm (l : Launch) (Z : State) (a0 : Array Value) (hw : TW Z a0) (a : Addr) (h0 : Heap) (n0 : Nat) (Z0 : n0 ≤ h0.size) :
    Pays l Z (⟨"java/util/AbstractMap", "<init>", "()V"⟩ : MethodName) jdk_71_method_1_code 1 none [] ({ frames := 1, cells := 0, slots := 0, locals := 12 } : Room) #[(.ref a)] h0 (fun v h L => v = none ∧ Fr n0 L ∧ h = h0) := by
  refine Pays.walk (plainFor_of_name pn_1) (fun m => ef_0 m a ) ?_
  intro p e s m below meth c T0 X0 hx hby hml hown hnm hZ e0 hret hlk
  have N0 := Fr.nil n0
  obtain ⟨T1, X1, e1, st1⟩ := initO X0 hx hZ hown (own_w hw 208 rfl) (own_w hw 35 rfl) (own_w hw 36 rfl) e0 (g := (mkF m 1 #[sR a] [(.ref a)])) rfl (by rw [hml]; rfl) rfl (hb hby d33_1) (by decide) (W := 0) (own_le20 rfl) (by decide)
  refine Goes.on (T' := T1) (g' := (mkF m 4 #[sR a] [])) (fun _ k => XS.aloadN X0.here hx rfl (hb hby d33_0) rfl rfl (st1 _ k)) ?_
  exact Goes.retV X1 hx hlk hret (hb hby d33_4) (by decide) (by decide) ⟨rfl, N0, e1⟩
abbrev c9C := jdk_42_method_55_code
theorem d9_0 : decode c9C 0 = .ok (.aload_n 0, 1) := by decide +kernel
theorem d9_1 : decode c9C 1 = .ok (.getfield 9, 3) := by decide +kernel
theorem d9_4 : decode c9C 4 = .ok (.arraylength, 1) := by decide +kernel
theorem d9_5 : decode c9C 5 = .ok (.ifCond .ne 7, 3) := by decide +kernel
theorem d9_12 : decode c9C 12 = .ok (.iconst 0, 1) := by decide +kernel
theorem d9_13 : decode c9C 13 = .ok (.ireturn, 1) := by decide +kernel
theorem pn_2 : plainName "java/lang/String" = true := by first | (simp [plainName, overriddenIn]; done) | decide +kernel
theorem rmEm97 (l : Launch) (Z : State) (a0 : Array Value) (hw : TW Z a0) (a : Addr)  (h0 : Heap) (n0 : Nat) (Z0 : n0 ≤ h0.size) (O0 : Old Z n0 h0) (cs : Int32) (SC : Sta Z Z.heap "java/lang/String" "COMPACT_STRINGS" "Z" (.int cs)) (hcs : ¬ cs = (0 : Int32)) (ya : Addr) (ka : ClassId) (PA : Str Z h0 a ya ka (Int32.ofNat 1) [Value.int (97 : Int32)]) :
    Pays l Z (⟨"java/lang/String", "isEmpty", "()Z"⟩ : MethodName) jdk_42_method_55_code 1 (some .boolean) [] ({ frames := 0, cells := 0, slots := 0, locals := 0 } : Room) #[(.ref a)] h0 (fun v h L => v = some (.int (0 : Int32)) ∧ Fr n0 L ∧ h = h0) := by
  refine Pays.walk (plainFor_of_name pn_2) (fun m => ef_0 m a ) ?_
  intro p e s m below meth c T0 X0 hx hby hml hown hnm hZ e0 hret hlk
  have N0 := Fr.nil n0
  have BA : Arf Z h0 ya .byte Value.int 1 (fun i => ([(97 : Int32)] : List Int32).getD i 0) := Arv.arf PA.2.2.2 (by decide) (own_lt1 rfl)
  obtain ⟨T1, X1, e1, st1⟩ := getF X0 hx hZ hown (host := "") (Or.inl (own_w hw 56 rfl)) Via.refl e0 PA.2.2.1 (g := (mkF m 1 #[sR a] [(.ref a)])) rfl rfl (hb hby d9_1)
  refine Goes.on (T' := T1) (g' := (mkF m 13 #[sR a] [(.int 0)])) (fun _ k => XS.aloadN X0.here hx rfl (hb hby d9_0) rfl rfl (st1 _ (aLenm X1 hx hZ e1 BA (hb hby d9_4) (XS.ifYes X1.here hx rfl (pc0 := 5) (pc' := 12) rfl (hb hby d9_5) rfl (XT.i0_ne_t (by decide)) (by decide) (by decide) (XS.iconst X1.here hx rfl (hb hby d9_12) k))))) ?_
  exact Goes.retB X1 hx hlk hret (Or.inl rfl) (hb hby d9_13) (by decide) (by decide) ⟨rfl, N0, e1⟩
abbrev c11C := jdk_42_method_152_code
theorem d11_0 : decode c11C 0 = .ok (.getstatic 38, 3) := by decide +kernel
theorem d11_3 : decode c11C 3 = .ok (.ifCond .eq 10, 3) := by decide +kernel
theorem d11_6 : decode c11C 6 = .ok (.aload_n 0, 1) := by decide +kernel
theorem d11_7 : decode c11C 7 = .ok (.getfield 15, 3) := by decide +kernel
theorem d11_10 : decode c11C 10 = .ok (.goto 4, 3) := by decide +kernel
theorem d11_14 : decode c11C 14 = .ok (.ireturn, 1) := by decide +kernel
theorem rmCo97 (l : Launch) (Z : State) (a0 : Array Value) (hw : TW Z a0) (a : Addr)  (h0 : Heap) (n0 : Nat) (Z0 : n0 ≤ h0.size) (O0 : Old Z n0 h0) (cs : Int32) (SC : Sta Z Z.heap "java/lang/String" "COMPACT_STRINGS" "Z" (.int cs)) (hcs : ¬ cs = (0 : Int32)) (ya : Addr) (ka : ClassId) (PA : Str Z h0 a ya ka (Int32.ofNat 1) [Value.int (97 : Int32)]) :
    Pays l Z (⟨"java/lang/String", "coder", "()B"⟩ : MethodName) jdk_42_method_152_code 1 (some .byte) [] ({ frames := 0, cells := 0, slots := 0, locals := 0 } : Room) #[(.ref a)] h0 (fun v h L => v = some (.int (0 : Int32)) ∧ Fr n0 L ∧ h = h0) := by
  refine Pays.walk (plainFor_of_name pn_2) (fun m => ef_0 m a ) ?_
  intro p e s m below meth c T0 X0 hx hby hml hown hnm hZ e0 hret hlk
  have N0 := Fr.nil n0
  have BA : Arf Z h0 ya .byte Value.int 1 (fun i => ([(97 : Int32)] : List Int32).getD i 0) := Arv.arf PA.2.2.2 (by decide) (own_lt1 rfl)
  obtain ⟨T1, X1, e1, st1⟩ := getS (host := "") X0 hx hZ hown (own_w hw 67 rfl) Via.refl e0 (Sta.ext O0.2 SC) (g := (mkF m 0 #[sR a] [])) rfl (hb hby d11_0)
  obtain ⟨T2, X2, e2, st2⟩ := getF X1 hx hZ hown (host := "") (Or.inl (own_w hw 68 rfl)) Via.refl e1 PA.2.1 (g := (mkF m 7 #[sR a] [(.ref a)])) rfl rfl (hb hby d11_7)
  refine Goes.on (T' := T2) (g' := (mkF m 14 #[sR a] [(.int 0)])) (fun _ k => st1 _ (XS.ifNo X1.here hx rfl (hb hby d11_3) rfl (XT.i0_eq_f hcs) (XS.aloadN X1.here hx rfl (hb hby d11_6) rfl rfl (st2 _ (XS.goto X2.here hx rfl (pc0 := 10) (pc' := 14) rfl (hb hby d11_10) (by decide) (by decide) k))))) ?_
  exact Goes.retY X2 hx hlk hret rfl (hb hby d11_14) (by decide) (by decide) ⟨rfl, N0, e2⟩
abbrev c13C := jdk_42_method_154_code
theorem d13_0 : decode c13C 0 = .ok (.getstatic 38, 3) := by decide +kernel
theorem d13_3 : decode c13C 3 = .ok (.ifCond .eq 14, 3) := by decide +kernel
theorem d13_6 : decode c13C 6 = .ok (.aload_n 0, 1) := by decide +kernel
theorem d13_7 : decode c13C 7 = .ok (.getfield 15, 3) := by decide +kernel
theorem d13_10 : decode c13C 10 = .ok (.ifCond .ne 7, 3) := by decide +kernel
theorem d13_13 : decode c13C 13 = .ok (.iconst 1, 1) := by decide +kernel
theorem d13_14 : decode c13C 14 = .ok (.goto 4, 3) := by decide +kernel
theorem d13_18 : decode c13C 18 = .ok (.ireturn, 1) := by decide +kernel
theorem rmIl97 (l : Launch) (Z : State) (a0 : Array Value) (hw : TW Z a0) (a : Addr)  (h0 : Heap) (n0 : Nat) (Z0 : n0 ≤ h0.size) (O0 : Old Z n0 h0) (cs : Int32) (SC : Sta Z Z.heap "java/lang/String" "COMPACT_STRINGS" "Z" (.int cs)) (hcs : ¬ cs = (0 : Int32)) (ya : Addr) (ka : ClassId) (PA : Str Z h0 a ya ka (Int32.ofNat 1) [Value.int (97 : Int32)]) :
    Pays l Z (⟨"java/lang/String", "isLatin1", "()Z"⟩ : MethodName) jdk_42_method_154_code 1 (some .boolean) [] ({ frames := 0, cells := 0, slots := 0, locals := 0 } : Room) #[(.ref a)] h0 (fun v h L => v = some (.int (1 : Int32)) ∧ Fr n0 L ∧ h = h0) := by
  refine Pays.walk (plainFor_of_name pn_2) (fun m => ef_0 m a ) ?_
  intro p e s m below meth c T0 X0 hx hby hml hown hnm hZ e0 hret hlk
  have N0 := Fr.nil n0
  have BA : Arf Z h0 ya .byte Value.int 1 (fun i => ([(97 : Int32)] : List Int32).getD i 0) := Arv.arf PA.2.2.2 (by decide) (own_lt1 rfl)
  obtain ⟨T1, X1, e1, st1⟩ := getS (host := "") X0 hx hZ hown (own_w hw 67 rfl) Via.refl e0 (Sta.ext O0.2 SC) (g := (mkF m 0 #[sR a] [])) rfl (hb hby d13_0)
  obtain ⟨T2, X2, e2, st2⟩ := getF X1 hx hZ hown (host := "") (Or.inl (own_w hw 68 rfl)) Via.refl e1 PA.2.1 (g := (mkF m 7 #[sR a] [(.ref a)])) rfl rfl (hb hby d13_7)
  refine Goes.on (T' := T2) (g' := (mkF m 18 #[sR a] [(.int 1)])) (fun _ k => st1 _ (XS.ifNo X1.here hx rfl (hb hby d13_3) rfl (XT.i0_eq_f hcs) (XS.aloadN X1.here hx rfl (hb hby d13_6) rfl rfl (st2 _ (XS.ifNo X2.here hx rfl (hb hby d13_10) rfl (XT.i0_ne_f (by decide)) (XS.iconst X2.here hx rfl (hb hby d13_13) (XS.goto X2.here hx rfl (pc0 := 14) (pc' := 18) rfl (hb hby d13_14) (by decide) (by decide) k))))))) ?_
  exact Goes.retB X2 hx hlk hret (Or.inr rfl) (hb hby d13_18) (by decide) (by decide) ⟨rfl, N0, e2⟩
abbrev c10C := jdk_42_method_54_code
theorem d10_0 : decode c10C 0 = .ok (.aload_n 0, 1) := by decide +kernel
theorem d10_1 : decode c10C 1 = .ok (.getfield 9, 3) := by decide +kernel
theorem d10_4 : decode c10C 4 = .ok (.arraylength, 1) := by decide +kernel
theorem d10_5 : decode c10C 5 = .ok (.aload_n 0, 1) := by decide +kernel
theorem pd_0 : parseMethodDescriptor "()B" = some ⟨[], some .byte⟩ := by decide +kernel
theorem d10_6 : decode c10C 6 = .ok (.invokevirtual 335, 3) := by decide +kernel
theorem d10_9 : decode c10C 9 = .ok (.ishr, 1) := by decide +kernel
theorem d10_10 : decode c10C 10 = .ok (.ireturn, 1) := by decide +kernel
theorem rmLn97 (l : Launch) (Z : State) (a0 : Array Value) (hw : TW Z a0) (a : Addr)  (h0 : Heap) (n0 : Nat) (Z0 : n0 ≤ h0.size) (O0 : Old Z n0 h0) (cs : Int32) (SC : Sta Z Z.heap "java/lang/String" "COMPACT_STRINGS" "Z" (.int cs)) (hcs : ¬ cs = (0 : Int32)) (ya : Addr) (ka : ClassId) (PA : Str Z h0 a ya ka (Int32.ofNat 1) [Value.int (97 : Int32)]) :
    Pays l Z (⟨"java/lang/String", "length", "()I"⟩ : MethodName) jdk_42_method_54_code 1 (some .int) [] ({ frames := 1, cells := 0, slots := 0, locals := 13 } : Room) #[(.ref a)] h0 (fun v h L => v = some (.int (1 : Int32)) ∧ Fr n0 L ∧ h = h0) := by
  refine Pays.walk (plainFor_of_name pn_2) (fun m => ef_0 m a ) ?_
  intro p e s m below meth c T0 X0 hx hby hml hown hnm hZ e0 hret hlk
  have BA : Arf Z h0 ya .byte Value.int 1 (fun i => ([(97 : Int32)] : List Int32).getD i 0) := Arv.arf PA.2.2.2 (by decide) (own_lt1 rfl)
  obtain ⟨T1, X1, e1, st1⟩ := getF X0 hx hZ hown (host := "") (Or.inl (own_w hw 56 rfl)) Via.refl e0 PA.2.2.1 (g := (mkF m 1 #[sR a] [(.ref a)])) rfl rfl (hb hby d10_1)
  refine Goes.on (T' := T1) (g' := (mkF m 6 #[sR a] [(.ref a), (.int 1)])) (fun _ k => XS.aloadN X0.here hx rfl (hb hby d10_0) rfl rfl (st1 _ (aLenm X1 hx hZ e1 BA (hb hby d10_4) (XS.aloadN X1.here hx rfl (hb hby d10_5) rfl rfl k)))) ?_
  refine Goes.callV X1 hx hZ 1 hown (own_w hw 62 rfl) (own_w hw 63 rfl) (notFace_of_selects (args := #[]) (mvT hZ (own_w hw 65 rfl))) (own_w hw 65 rfl) (own_w hw 64 rfl) (own_w hw 4 rfl) (own_w hw 66 rfl) (by decide) e1 PA.1 (rmCo97 l Z a0 hw a  h0 n0 Z0 O0 cs SC hcs ya ka PA) (by decide) (by decide) (by decide) (by decide) rfl (by rw [hml]; rfl) (argsL := []) (rest := [(.int 1)]) rfl (lenOf pd_0 rfl) rfl (own_le20 rfl) (hb hby d10_6) ?_
  rintro v3 T3 L3 X3 ⟨rfl, N3q, e3⟩
  have N3 := Fr.app (Fr.nil n0) N3q
  show Goes p e below _ T3 (mkF m 9 #[sR a] [(.int 0), (.int 1)])
  refine Goes.on (T' := T3) (g' := (mkF m 10 #[sR a] [(.int 1)])) (fun _ k => XS.ishr X3.here hx rfl (hb hby d10_9) rfl k) ?_
  exact Goes.retI X3 hx hlk hret (hb hby d10_10) (by decide) (by decide) ⟨rfl, N3, e3⟩
abbrev c16C := jdk_41_method_11_code
theorem d16_0 : decode c16C 0 = .ok (.iload_n 0, 1) := by decide +kernel
theorem d16_1 : decode c16C 1 = .ok (.ifCond .lt 8, 3) := by decide +kernel
theorem d16_4 : decode c16C 4 = .ok (.iload_n 0, 1) := by decide +kernel
theorem d16_5 : decode c16C 5 = .ok (.iload_n 1, 1) := by decide +kernel
theorem d16_6 : decode c16C 6 = .ok (.if_icmp .lt 10, 3) := by decide +kernel
theorem d16_16 : decode c16C 16 = .ok (.iload_n 0, 1) := by decide +kernel
theorem d16_17 : decode c16C 17 = .ok (.ireturn, 1) := by decide +kernel
theorem ef_1 (m : MethodId) (x0 : Int32) (x1 : Int32) (x2 : Value) (c2 : x2.category = 1) : entryFrame m #[(.int x0), (.int x1), x2] 3 = mkF m 0 #[.val (.int x0), .val (.int x1), .val x2] [] := by have q0 : ((.int x0) : Value).category = 1 := rfl; have q1 : ((.int x1) : Value).category = 1 := rfl; simp [entryFrame, mkF, argsToLocals, c2, q0, q1]
theorem pn_3 : plainName "jdk/internal/util/Preconditions" = true := by first | (simp [plainName, overriddenIn]; done) | decide +kernel
theorem rmPc (l : Launch) (Z : State) (a0 : Array Value) (hw : TW Z a0) (sf : Value) (h0 : Heap) (n0 : Nat) (Z0 : n0 ≤ h0.size) (hsf : sf.isRef = true) :
    Pays l Z (⟨"jdk/internal/util/Preconditions", "checkIndex", "(IILjava/util/function/BiFunction;)I"⟩ : MethodName) jdk_41_method_11_code 3 (some .int) [] ({ frames := 0, cells := 0, slots := 0, locals := 0 } : Room) #[(.int (0 : Int32)), (.int (1 : Int32)), sf] h0 (fun v h L => v = some (.int (0 : Int32)) ∧ Fr n0 L ∧ h = h0) := by
  refine Pays.walk (plainFor_of_name pn_3) (fun m => ef_1 m (0 : Int32) (1 : Int32) sf (XT.cat1 hsf)) ?_
  intro p e s m below meth c T0 X0 hx hby hml hown hnm hZ e0 hret hlk
  have N0 := Fr.nil n0
  refine Goes.on (T' := T0) (g' := (mkF m 17 #[sI 0, sI 1, .val sf] [(.int 0)])) (fun _ k => XS.iloadN X0.here hx rfl (hb hby d16_0) rfl (XS.ifNo X0.here hx rfl (hb hby d16_1) rfl (XT.i0_lt_f (by decide)) (XS.iloadN X0.here hx rfl (hb hby d16_4) rfl (XS.iloadN X0.here hx rfl (hb hby d16_5) rfl (XS.icmpYes X0.here hx rfl (pc0 := 6) (pc' := 16) rfl (hb hby d16_6) rfl (XT.ii_lt_t (by decide)) (by decide) (by decide) (XS.iloadN X0.here hx rfl (hb hby d16_16) rfl k)))))) ?_
  exact Goes.retI X0 hx hlk hret (hb hby d16_17) (by decide) (by decide) ⟨rfl, N0, e0⟩
abbrev c15C := jdk_42_method_155_code
theorem d15_0 : decode c15C 0 = .ok (.iload_n 0, 1) := by decide +kernel
theorem d15_1 : decode c15C 1 = .ok (.iload_n 1, 1) := by decide +kernel
theorem d15_2 : decode c15C 2 = .ok (.getstatic 1053, 3) := by decide +kernel
theorem pd_1 : parseMethodDescriptor "(IILjava/util/function/BiFunction;)I" = some ⟨[.int, .int, (.object "java/util/function/BiFunction")], some .int⟩ := by decide +kernel
theorem d15_5 : decode c15C 5 = .ok (.invokestatic 1059, 3) := by decide +kernel
theorem d15_8 : decode c15C 8 = .ok (.pop, 1) := by decide +kernel
theorem d15_9 : decode c15C 9 = .ok (.return_, 1) := by decide +kernel
theorem ef_2 (m : MethodId) (x0 : Int32) (x1 : Int32) : entryFrame m #[(.int x0), (.int x1)] 2 = mkF m 0 #[.val (.int x0), .val (.int x1)] [] := by first | (simp [entryFrame, mkF, argsToLocals, Value.category]; done) | rfl
theorem rmSc (l : Launch) (Z : State) (a0 : Array Value) (hw : TW Z a0)  (h0 : Heap) (n0 : Nat) (Z0 : n0 ≤ h0.size) (O0 : Old Z n0 h0) (sf : Value) (SF : Sta Z Z.heap "jdk/internal/util/Preconditions" "SIOOBE_FORMATTER" "Ljava/util/function/BiFunction;" sf) (hsf : sf.isRef = true) :
    Pays l Z (⟨"java/lang/String", "checkIndex", "(II)V"⟩ : MethodName) jdk_42_method_155_code 2 none [] ({ frames := 1, cells := 0, slots := 0, locals := 14 } : Room) #[(.int (0 : Int32)), (.int (1 : Int32))] h0 (fun v h L => v = none ∧ Fr n0 L ∧ h = h0) := by
  refine Pays.walk (plainFor_of_name pn_2) (fun m => ef_2 m (0 : Int32) (1 : Int32) ) ?_
  intro p e s m below meth c T0 X0 hx hby hml hown hnm hZ e0 hret hlk
  obtain ⟨T1, X1, e1, st1⟩ := getS (host := "") X0 hx hZ hown (own_w hw 86 rfl) Via.refl e0 (Sta.ext O0.2 SF) (g := (mkF m 2 #[sI 0, sI 1] [(.int 1), (.int 0)])) rfl (hb hby d15_2)
  refine Goes.on (T' := T1) (g' := (mkF m 5 #[sI 0, sI 1] [sf, (.int 1), (.int 0)])) (fun _ k => XS.iloadN X0.here hx rfl (hb hby d15_0) rfl (XS.iloadN X0.here hx rfl (hb hby d15_1) rfl (st1 _ k))) ?_
  refine Goes.callS X1 hx hZ 0 hown (own_w hw 88 rfl) (own_w hw 89 rfl) (own_w hw 87 rfl) (own_w hw 90 rfl) (by decide) e1 (rmPc l Z a0 hw sf h0 n0 Z0 hsf) (by decide) (by decide) (by decide) (by decide) rfl (by rw [hml]; rfl) (argsL := [(.int 0), (.int 1), sf]) (rest := []) rfl (lenOf pd_1 rfl) rfl (own_le20 rfl) (hb hby d15_5) ?_
  rintro v2 T2 L2 X2 ⟨rfl, N2q, e2⟩
  have N2 := Fr.app (Fr.nil n0) N2q
  show Goes p e below _ T2 (mkF m 8 #[sI 0, sI 1] [(.int 0)])
  refine Goes.on (T' := T2) (g' := (mkF m 9 #[sI 0, sI 1] [])) (fun _ k => XS.pop X2.here hx rfl (hb hby d15_8) rfl rfl k) ?_
  exact Goes.retV X2 hx hlk hret (hb hby d15_9) (by decide) (by decide) ⟨rfl, N2, e2⟩
abbrev c14C := jdk_43_method_2_code
theorem d14_0 : decode c14C 0 = .ok (.iload_n 1, 1) := by decide +kernel
theorem d14_1 : decode c14C 1 = .ok (.aload_n 0, 1) := by decide +kernel
theorem d14_2 : decode c14C 2 = .ok (.arraylength, 1) := by decide +kernel
theorem pd_2 : parseMethodDescriptor "(II)V" = some ⟨[.int, .int], none⟩ := by decide +kernel
theorem d14_3 : decode c14C 3 = .ok (.invokestatic 9, 3) := by decide +kernel
theorem d14_6 : decode c14C 6 = .ok (.aload_n 0, 1) := by decide +kernel
theorem d14_7 : decode c14C 7 = .ok (.iload_n 1, 1) := by decide +kernel
theorem d14_8 : decode c14C 8 = .ok (.baload, 1) := by decide +kernel
theorem d14_9 : decode c14C 9 = .ok (.sipush 255, 3) := by decide +kernel
theorem d14_12 : decode c14C 12 = .ok (.iand, 1) := by decide +kernel
theorem d14_13 : decode c14C 13 = .ok (.i2c, 1) := by decide +kernel
theorem d14_14 : decode c14C 14 = .ok (.ireturn, 1) := by decide +kernel
theorem ef_3 (m : MethodId) (x0 : Addr) (x1 : Int32) : entryFrame m #[(.ref x0), (.int x1)] 2 = mkF m 0 #[.val (.ref x0), .val (.int x1)] [] := by first | (simp [entryFrame, mkF, argsToLocals, Value.category]; done) | rfl
theorem pn_4 : plainName "java/lang/StringLatin1" = true := by first | (simp [plainName, overriddenIn]; done) | decide +kernel
theorem rmLc97 (l : Launch) (Z : State) (a0 : Array Value) (hw : TW Z a0) (ya : Addr) (h0 : Heap) (n0 : Nat) (Z0 : n0 ≤ h0.size) (O0 : Old Z n0 h0) (BA : Arf Z h0 ya .byte Value.int 1 (fun i => ([(97 : Int32)] : List Int32).getD i 0)) (sf : Value) (SF : Sta Z Z.heap "jdk/internal/util/Preconditions" "SIOOBE_FORMATTER" "Ljava/util/function/BiFunction;" sf) (hsf : sf.isRef = true) :
    Pays l Z (⟨"java/lang/StringLatin1", "charAt", "([BI)C"⟩ : MethodName) jdk_43_method_2_code 2 (some .char) [] ({ frames := 2, cells := 0, slots := 0, locals := 27 } : Room) #[(.ref ya), (.int (0 : Int32))] h0 (fun v h L => v = some (.int (97 : Int32)) ∧ Fr n0 L ∧ h = h0) := by
  refine Pays.walk (plainFor_of_name pn_4) (fun m => ef_3 m ya (0 : Int32) ) ?_
  intro p e s m below meth c T0 X0 hx hby hml hown hnm hZ e0 hret hlk
  have dc := @Jvm.hb _ _ hby
  refine Goes.on (T' := T0) (g' := (mkF m 3 #[sR ya, sI 0] [(.int 1), (.int 0)])) (fun _ k => XS.iloadN X0.here hx rfl (dc d14_0) rfl (XS.aloadN X0.here hx rfl (dc d14_1) rfl rfl (aLenm X0 hx hZ e0 BA (dc d14_2) k))) ?_
  refine Goes.callS X0 hx hZ 0 hown (own_w hw 83 rfl) (own_w hw 84 rfl) (own_w hw 4 rfl) (own_w hw 85 rfl) (by decide) e0 (rmSc l Z a0 hw h0 n0 Z0 O0 sf SF hsf) (by decide) (by decide) (by decide) (by decide) rfl (by rw [hml]; rfl) (argsL := [(.int 0), (.int 1)]) (rest := []) rfl (lenOf pd_2 rfl) rfl (own_le20 rfl) (dc d14_3) ?_
  rintro v2 T2 L2 X2 ⟨rfl, N2q, e2⟩
  have N2 := Fr.app (Fr.nil n0) N2q
  show Goes p e below _ T2 (mkF m 6 #[sR ya, sI 0] [])
  refine Goes.on (T' := T2) (g' := (mkF m 14 #[sR ya, sI 0] [(.int 97)])) (fun _ k => XS.aloadN X2.here hx rfl (dc d14_6) rfl rfl (XS.iloadN X2.here hx rfl (dc d14_7) rfl (ldYm X2 hx hZ e2 BA (by decide) (dc d14_8) (XS.sipush X2.here hx rfl (dc d14_9) (XS.iand X2.here hx rfl (dc d14_12) rfl (XS.i2c X2.here hx rfl (dc d14_13) rfl k)))))) ?_
  exact Goes.retC X2 hx hlk hret rfl (dc d14_14) (by decide) (by decide) ⟨rfl, N2, e2⟩
abbrev c12C := jdk_42_method_56_code
theorem d12_0 : decode c12C 0 = .ok (.aload_n 0, 1) := by decide +kernel
theorem pd_3 : parseMethodDescriptor "()Z" = some ⟨[], some .boolean⟩ := by decide +kernel
theorem d12_1 : decode c12C 1 = .ok (.invokevirtual 492, 3) := by decide +kernel
theorem d12_4 : decode c12C 4 = .ok (.ifCond .eq 12, 3) := by decide +kernel
theorem d12_7 : decode c12C 7 = .ok (.aload_n 0, 1) := by decide +kernel
theorem d12_8 : decode c12C 8 = .ok (.getfield 9, 3) := by decide +kernel
theorem d12_11 : decode c12C 11 = .ok (.iload_n 1, 1) := by decide +kernel
theorem pd_4 : parseMethodDescriptor "([BI)C" = some ⟨[(.array .byte), .int], some .char⟩ := by decide +kernel
theorem d12_12 : decode c12C 12 = .ok (.invokestatic 495, 3) := by decide +kernel
theorem d12_15 : decode c12C 15 = .ok (.ireturn, 1) := by decide +kernel
theorem rmCh97 (l : Launch) (Z : State) (a0 : Array Value) (hw : TW Z a0) (a : Addr) (h0 : Heap) (n0 : Nat) (Z0 : n0 ≤ h0.size) (O0 : Old Z n0 h0) (cs : Int32) (SC : Sta Z Z.heap "java/lang/String" "COMPACT_STRINGS" "Z" (.int cs)) (hcs : ¬ cs = (0 : Int32)) (ya : Addr) (ka : ClassId) (PA : Str Z h0 a ya ka (Int32.ofNat 1) [Value.int (97 : Int32)]) (sf : Value) (SF : Sta Z Z.heap "jdk/internal/util/Preconditions" "SIOOBE_FORMATTER" "Ljava/util/function/BiFunction;" sf) (hsf : sf.isRef = true) :
    Pays l Z (⟨"java/lang/String", "charAt", "(I)C"⟩ : MethodName) jdk_42_method_56_code 2 (some .char) [] ({ frames := 3, cells := 0, slots := 0, locals := 40 } : Room) #[(.ref a), (.int (0 : Int32))] h0 (fun v h L => v = some (.int (97 : Int32)) ∧ Fr n0 L ∧ h = h0) := by
  refine Pays.walk (plainFor_of_name pn_2) (fun m => ef_3 m a (0 : Int32) ) ?_
  intro p e s m below meth c T0 X0 hx hby hml hown hnm hZ e0 hret hlk
  have ow := @own_w Z a0 hw
  have BA : Arf Z h0 ya .byte Value.int 1 (fun i => ([(97 : Int32)] : List Int32).getD i 0) := Arv.arf PA.2.2.2 (by decide) (own_lt1 rfl)
  refine Goes.on (T' := T0) (g' := (mkF m 1 #[sR a, sI 0] [(.ref a)])) (fun _ k => XS.aloadN X0.here hx rfl (hb hby d12_0) rfl rfl k) ?_
  refine Goes.callV X0 hx hZ 0 hown (ow 74 rfl) (ow 75 rfl) (notFace_of_selects (args := #[]) (mvT hZ (ow 77 rfl))) (ow 77 rfl) (ow 76 rfl) (ow 4 rfl) (ow 78 rfl) (by decide) e0 PA.1 (rmIl97 l Z a0 hw a h0 n0 Z0 O0 cs SC hcs ya ka PA) (by decide) (by decide) (by decide) (by decide) rfl (by rw [hml]; rfl) (argsL := []) (rest := []) rfl (lenOf pd_3 rfl) rfl (own_le20 rfl) (hb hby d12_1) ?_
  rintro v1 T1 L1 X1 ⟨rfl, N1q, e1⟩
  show Goes p e below _ T1 (mkF m 4 #[sR a, sI 0] [(.int 1)])
  obtain ⟨T2, X2, e2, st2⟩ := getF X1 hx hZ hown (host := "") (Or.inl (ow 56 rfl)) Via.refl e1 PA.2.2.1 (g := (mkF m 8 #[sR a, sI 0] [(.ref a)])) rfl rfl (hb hby d12_8)
  refine Goes.on (T' := T2) (g' := (mkF m 12 #[sR a, sI 0] [(.int 0), (.ref ya)])) (fun _ k => XS.ifNo X1.here hx rfl (hb hby d12_4) rfl (XT.i0_eq_f (by decide)) (XS.aloadN X1.here hx rfl (hb hby d12_7) rfl rfl (st2 _ (XS.iloadN X2.here hx rfl (hb hby d12_11) rfl k)))) ?_
  refine Goes.callS X2 hx hZ 0 hown (ow 79 rfl) (ow 80 rfl) (ow 81 rfl) (ow 82 rfl) (by decide) e2 (rmLc97 l Z a0 hw ya h0 n0 Z0 O0 BA sf SF hsf) (by decide) (by decide) (by decide) (by decide) rfl (by rw [hml]; rfl) (argsL := [(.ref ya), (.int 0)]) (rest := []) rfl (lenOf pd_4 rfl) rfl (own_le20 rfl) (hb hby d12_12) ?_
  rintro v3 T3 L3 X3 ⟨rfl, N3q, e3⟩
  have N3 := Fr.app (Fr.app (Fr.nil n0) N1q) N3q
  show Goes p e below _ T3 (mkF m 15 #[sR a, sI 0] [(.int 97)])
  exact Goes.retC X3 hx hlk hret rfl (hb hby d12_15) (by decide) (by decide) ⟨rfl, N3, e3⟩
theorem rmEm98 (l : Launch) (Z : State) (a0 : Array Value) (hw : TW Z a0) (a : Addr)  (h0 : Heap) (n0 : Nat) (Z0 : n0 ≤ h0.size) (O0 : Old Z n0 h0) (cs : Int32) (SC : Sta Z Z.heap "java/lang/String" "COMPACT_STRINGS" "Z" (.int cs)) (hcs : ¬ cs = (0 : Int32)) (ya : Addr) (ka : ClassId) (PA : Str Z h0 a ya ka (Int32.ofNat 1) [Value.int (98 : Int32)]) :
    Pays l Z (⟨"java/lang/String", "isEmpty", "()Z"⟩ : MethodName) jdk_42_method_55_code 1 (some .boolean) [] ({ frames := 0, cells := 0, slots := 0, locals := 0 } : Room) #[(.ref a)] h0 (fun v h L => v = some (.int (0 : Int32)) ∧ Fr n0 L ∧ h = h0) := by
  refine Pays.walk (plainFor_of_name pn_2) (fun m => ef_0 m a ) ?_
  intro p e s m below meth c T0 X0 hx hby hml hown hnm hZ e0 hret hlk
  have N0 := Fr.nil n0
  have BA : Arf Z h0 ya .byte Value.int 1 (fun i => ([(98 : Int32)] : List Int32).getD i 0) := Arv.arf PA.2.2.2 (by decide) (own_lt1 rfl)
  obtain ⟨T1, X1, e1, st1⟩ := getF X0 hx hZ hown (host := "") (Or.inl (own_w hw 56 rfl)) Via.refl e0 PA.2.2.1 (g := (mkF m 1 #[sR a] [(.ref a)])) rfl rfl (hb hby d9_1)
  refine Goes.on (T' := T1) (g' := (mkF m 13 #[sR a] [(.int 0)])) (fun _ k => XS.aloadN X0.here hx rfl (hb hby d9_0) rfl rfl (st1 _ (aLenm X1 hx hZ e1 BA (hb hby d9_4) (XS.ifYes X1.here hx rfl (pc0 := 5) (pc' := 12) rfl (hb hby d9_5) rfl (XT.i0_ne_t (by decide)) (by decide) (by decide) (XS.iconst X1.here hx rfl (hb hby d9_12) k))))) ?_
  exact Goes.retB X1 hx hlk hret (Or.inl rfl) (hb hby d9_13) (by decide) (by decide) ⟨rfl, N0, e1⟩
theorem rmCo98 (l : Launch) (Z : State) (a0 : Array Value) (hw : TW Z a0) (a : Addr)  (h0 : Heap) (n0 : Nat) (Z0 : n0 ≤ h0.size) (O0 : Old Z n0 h0) (cs : Int32) (SC : Sta Z Z.heap "java/lang/String" "COMPACT_STRINGS" "Z" (.int cs)) (hcs : ¬ cs = (0 : Int32)) (ya : Addr) (ka : ClassId) (PA : Str Z h0 a ya ka (Int32.ofNat 1) [Value.int (98 : Int32)]) :
    Pays l Z (⟨"java/lang/String", "coder", "()B"⟩ : MethodName) jdk_42_method_152_code 1 (some .byte) [] ({ frames := 0, cells := 0, slots := 0, locals := 0 } : Room) #[(.ref a)] h0 (fun v h L => v = some (.int (0 : Int32)) ∧ Fr n0 L ∧ h = h0) := by
  refine Pays.walk (plainFor_of_name pn_2) (fun m => ef_0 m a ) ?_
  intro p e s m below meth c T0 X0 hx hby hml hown hnm hZ e0 hret hlk
  have N0 := Fr.nil n0
  have BA : Arf Z h0 ya .byte Value.int 1 (fun i => ([(98 : Int32)] : List Int32).getD i 0) := Arv.arf PA.2.2.2 (by decide) (own_lt1 rfl)
  obtain ⟨T1, X1, e1, st1⟩ := getS (host := "") X0 hx hZ hown (own_w hw 67 rfl) Via.refl e0 (Sta.ext O0.2 SC) (g := (mkF m 0 #[sR a] [])) rfl (hb hby d11_0)
  obtain ⟨T2, X2, e2, st2⟩ := getF X1 hx hZ hown (host := "") (Or.inl (own_w hw 68 rfl)) Via.refl e1 PA.2.1 (g := (mkF m 7 #[sR a] [(.ref a)])) rfl rfl (hb hby d11_7)
  refine Goes.on (T' := T2) (g' := (mkF m 14 #[sR a] [(.int 0)])) (fun _ k => st1 _ (XS.ifNo X1.here hx rfl (hb hby d11_3) rfl (XT.i0_eq_f hcs) (XS.aloadN X1.here hx rfl (hb hby d11_6) rfl rfl (st2 _ (XS.goto X2.here hx rfl (pc0 := 10) (pc' := 14) rfl (hb hby d11_10) (by decide) (by decide) k))))) ?_
  exact Goes.retY X2 hx hlk hret rfl (hb hby d11_14) (by decide) (by decide) ⟨rfl, N0, e2⟩
theorem rmIl98 (l : Launch) (Z : State) (a0 : Array Value) (hw : TW Z a0) (a : Addr)  (h0 : Heap) (n0 : Nat) (Z0 : n0 ≤ h0.size) (O0 : Old Z n0 h0) (cs : Int32) (SC : Sta Z Z.heap "java/lang/String" "COMPACT_STRINGS" "Z" (.int cs)) (hcs : ¬ cs = (0 : Int32)) (ya : Addr) (ka : ClassId) (PA : Str Z h0 a ya ka (Int32.ofNat 1) [Value.int (98 : Int32)]) :
    Pays l Z (⟨"java/lang/String", "isLatin1", "()Z"⟩ : MethodName) jdk_42_method_154_code 1 (some .boolean) [] ({ frames := 0, cells := 0, slots := 0, locals := 0 } : Room) #[(.ref a)] h0 (fun v h L => v = some (.int (1 : Int32)) ∧ Fr n0 L ∧ h = h0) := by
  refine Pays.walk (plainFor_of_name pn_2) (fun m => ef_0 m a ) ?_
  intro p e s m below meth c T0 X0 hx hby hml hown hnm hZ e0 hret hlk
  have N0 := Fr.nil n0
  have BA : Arf Z h0 ya .byte Value.int 1 (fun i => ([(98 : Int32)] : List Int32).getD i 0) := Arv.arf PA.2.2.2 (by decide) (own_lt1 rfl)
  obtain ⟨T1, X1, e1, st1⟩ := getS (host := "") X0 hx hZ hown (own_w hw 67 rfl) Via.refl e0 (Sta.ext O0.2 SC) (g := (mkF m 0 #[sR a] [])) rfl (hb hby d13_0)
  obtain ⟨T2, X2, e2, st2⟩ := getF X1 hx hZ hown (host := "") (Or.inl (own_w hw 68 rfl)) Via.refl e1 PA.2.1 (g := (mkF m 7 #[sR a] [(.ref a)])) rfl rfl (hb hby d13_7)
  refine Goes.on (T' := T2) (g' := (mkF m 18 #[sR a] [(.int 1)])) (fun _ k => st1 _ (XS.ifNo X1.here hx rfl (hb hby d13_3) rfl (XT.i0_eq_f hcs) (XS.aloadN X1.here hx rfl (hb hby d13_6) rfl rfl (st2 _ (XS.ifNo X2.here hx rfl (hb hby d13_10) rfl (XT.i0_ne_f (by decide)) (XS.iconst X2.here hx rfl (hb hby d13_13) (XS.goto X2.here hx rfl (pc0 := 14) (pc' := 18) rfl (hb hby d13_14) (by decide) (by decide) k))))))) ?_
  exact Goes.retB X2 hx hlk hret (Or.inr rfl) (hb hby d13_18) (by decide) (by decide) ⟨rfl, N0, e2⟩
theorem rmLn98 (l : Launch) (Z : State) (a0 : Array Value) (hw : TW Z a0) (a : Addr)  (h0 : Heap) (n0 : Nat) (Z0 : n0 ≤ h0.size) (O0 : Old Z n0 h0) (cs : Int32) (SC : Sta Z Z.heap "java/lang/String" "COMPACT_STRINGS" "Z" (.int cs)) (hcs : ¬ cs = (0 : Int32)) (ya : Addr) (ka : ClassId) (PA : Str Z h0 a ya ka (Int32.ofNat 1) [Value.int (98 : Int32)]) :
    Pays l Z (⟨"java/lang/String", "length", "()I"⟩ : MethodName) jdk_42_method_54_code 1 (some .int) [] ({ frames := 1, cells := 0, slots := 0, locals := 13 } : Room) #[(.ref a)] h0 (fun v h L => v = some (.int (1 : Int32)) ∧ Fr n0 L ∧ h = h0) := by
  refine Pays.walk (plainFor_of_name pn_2) (fun m => ef_0 m a ) ?_
  intro p e s m below meth c T0 X0 hx hby hml hown hnm hZ e0 hret hlk
  have BA : Arf Z h0 ya .byte Value.int 1 (fun i => ([(98 : Int32)] : List Int32).getD i 0) := Arv.arf PA.2.2.2 (by decide) (own_lt1 rfl)
  obtain ⟨T1, X1, e1, st1⟩ := getF X0 hx hZ hown (host := "") (Or.inl (own_w hw 56 rfl)) Via.refl e0 PA.2.2.1 (g := (mkF m 1 #[sR a] [(.ref a)])) rfl rfl (hb hby d10_1)
  refine Goes.on (T' := T1) (g' := (mkF m 6 #[sR a] [(.ref a), (.int 1)])) (fun _ k => XS.aloadN X0.here hx rfl (hb hby d10_0) rfl rfl (st1 _ (aLenm X1 hx hZ e1 BA (hb hby d10_4) (XS.aloadN X1.here hx rfl (hb hby d10_5) rfl rfl k)))) ?_
  refine Goes.callV X1 hx hZ 1 hown (own_w hw 62 rfl) (own_w hw 63 rfl) (notFace_of_selects (args := #[]) (mvT hZ (own_w hw 65 rfl))) (own_w hw 65 rfl) (own_w hw 64 rfl) (own_w hw 4 rfl) (own_w hw 66 rfl) (by decide) e1 PA.1 (rmCo98 l Z a0 hw a  h0 n0 Z0 O0 cs SC hcs ya ka PA) (by decide) (by decide) (by decide) (by decide) rfl (by rw [hml]; rfl) (argsL := []) (rest := [(.int 1)]) rfl (lenOf pd_0 rfl) rfl (own_le20 rfl) (hb hby d10_6) ?_
  rintro v3 T3 L3 X3 ⟨rfl, N3q, e3⟩
  have N3 := Fr.app (Fr.nil n0) N3q
  show Goes p e below _ T3 (mkF m 9 #[sR a] [(.int 0), (.int 1)])
  refine Goes.on (T' := T3) (g' := (mkF m 10 #[sR a] [(.int 1)])) (fun _ k => XS.ishr X3.here hx rfl (hb hby d10_9) rfl k) ?_
  exact Goes.retI X3 hx hlk hret (hb hby d10_10) (by decide) (by decide) ⟨rfl, N3, e3⟩
theorem rmLc98 (l : Launch) (Z : State) (a0 : Array Value) (hw : TW Z a0) (ya : Addr) (h0 : Heap) (n0 : Nat) (Z0 : n0 ≤ h0.size) (O0 : Old Z n0 h0) (BA : Arf Z h0 ya .byte Value.int 1 (fun i => ([(98 : Int32)] : List Int32).getD i 0)) (sf : Value) (SF : Sta Z Z.heap "jdk/internal/util/Preconditions" "SIOOBE_FORMATTER" "Ljava/util/function/BiFunction;" sf) (hsf : sf.isRef = true) :
    Pays l Z (⟨"java/lang/StringLatin1", "charAt", "([BI)C"⟩ : MethodName) jdk_43_method_2_code 2 (some .char) [] ({ frames := 2, cells := 0, slots := 0, locals := 27 } : Room) #[(.ref ya), (.int (0 : Int32))] h0 (fun v h L => v = some (.int (98 : Int32)) ∧ Fr n0 L ∧ h = h0) := by
  refine Pays.walk (plainFor_of_name pn_4) (fun m => ef_3 m ya (0 : Int32) ) ?_
  intro p e s m below meth c T0 X0 hx hby hml hown hnm hZ e0 hret hlk
  have dc := @Jvm.hb _ _ hby
  refine Goes.on (T' := T0) (g' := (mkF m 3 #[sR ya, sI 0] [(.int 1), (.int 0)])) (fun _ k => XS.iloadN X0.here hx rfl (dc d14_0) rfl (XS.aloadN X0.here hx rfl (dc d14_1) rfl rfl (aLenm X0 hx hZ e0 BA (dc d14_2) k))) ?_
  refine Goes.callS X0 hx hZ 0 hown (own_w hw 83 rfl) (own_w hw 84 rfl) (own_w hw 4 rfl) (own_w hw 85 rfl) (by decide) e0 (rmSc l Z a0 hw h0 n0 Z0 O0 sf SF hsf) (by decide) (by decide) (by decide) (by decide) rfl (by rw [hml]; rfl) (argsL := [(.int 0), (.int 1)]) (rest := []) rfl (lenOf pd_2 rfl) rfl (own_le20 rfl) (dc d14_3) ?_
  rintro v2 T2 L2 X2 ⟨rfl, N2q, e2⟩
  have N2 := Fr.app (Fr.nil n0) N2q
  show Goes p e below _ T2 (mkF m 6 #[sR ya, sI 0] [])
  refine Goes.on (T' := T2) (g' := (mkF m 14 #[sR ya, sI 0] [(.int 98)])) (fun _ k => XS.aloadN X2.here hx rfl (dc d14_6) rfl rfl (XS.iloadN X2.here hx rfl (dc d14_7) rfl (ldYm X2 hx hZ e2 BA (by decide) (dc d14_8) (XS.sipush X2.here hx rfl (dc d14_9) (XS.iand X2.here hx rfl (dc d14_12) rfl (XS.i2c X2.here hx rfl (dc d14_13) rfl k)))))) ?_
  exact Goes.retC X2 hx hlk hret rfl (dc d14_14) (by decide) (by decide) ⟨rfl, N2, e2⟩
theorem rmCh98 (l : Launch) (Z : State) (a0 : Array Value) (hw : TW Z a0) (a : Addr) (h0 : Heap) (n0 : Nat) (Z0 : n0 ≤ h0.size) (O0 : Old Z n0 h0) (cs : Int32) (SC : Sta Z Z.heap "java/lang/String" "COMPACT_STRINGS" "Z" (.int cs)) (hcs : ¬ cs = (0 : Int32)) (ya : Addr) (ka : ClassId) (PA : Str Z h0 a ya ka (Int32.ofNat 1) [Value.int (98 : Int32)]) (sf : Value) (SF : Sta Z Z.heap "jdk/internal/util/Preconditions" "SIOOBE_FORMATTER" "Ljava/util/function/BiFunction;" sf) (hsf : sf.isRef = true) :
    Pays l Z (⟨"java/lang/String", "charAt", "(I)C"⟩ : MethodName) jdk_42_method_56_code 2 (some .char) [] ({ frames := 3, cells := 0, slots := 0, locals := 40 } : Room) #[(.ref a), (.int (0 : Int32))] h0 (fun v h L => v = some (.int (98 : Int32)) ∧ Fr n0 L ∧ h = h0) := by
  refine Pays.walk (plainFor_of_name pn_2) (fun m => ef_3 m a (0 : Int32) ) ?_
  intro p e s m below meth c T0 X0 hx hby hml hown hnm hZ e0 hret hlk
  have ow := @own_w Z a0 hw
  have BA : Arf Z h0 ya .byte Value.int 1 (fun i => ([(98 : Int32)] : List Int32).getD i 0) := Arv.arf PA.2.2.2 (by decide) (own_lt1 rfl)
  refine Goes.on (T' := T0) (g' := (mkF m 1 #[sR a, sI 0] [(.ref a)])) (fun _ k => XS.aloadN X0.here hx rfl (hb hby d12_0) rfl rfl k) ?_
  refine Goes.callV X0 hx hZ 0 hown (ow 74 rfl) (ow 75 rfl) (notFace_of_selects (args := #[]) (mvT hZ (ow 77 rfl))) (ow 77 rfl) (ow 76 rfl) (ow 4 rfl) (ow 78 rfl) (by decide) e0 PA.1 (rmIl98 l Z a0 hw a h0 n0 Z0 O0 cs SC hcs ya ka PA) (by decide) (by decide) (by decide) (by decide) rfl (by rw [hml]; rfl) (argsL := []) (rest := []) rfl (lenOf pd_3 rfl) rfl (own_le20 rfl) (hb hby d12_1) ?_
  rintro v1 T1 L1 X1 ⟨rfl, N1q, e1⟩
  show Goes p e below _ T1 (mkF m 4 #[sR a, sI 0] [(.int 1)])
  obtain ⟨T2, X2, e2, st2⟩ := getF X1 hx hZ hown (host := "") (Or.inl (ow 56 rfl)) Via.refl e1 PA.2.2.1 (g := (mkF m 8 #[sR a, sI 0] [(.ref a)])) rfl rfl (hb hby d12_8)
  refine Goes.on (T' := T2) (g' := (mkF m 12 #[sR a, sI 0] [(.int 0), (.ref ya)])) (fun _ k => XS.ifNo X1.here hx rfl (hb hby d12_4) rfl (XT.i0_eq_f (by decide)) (XS.aloadN X1.here hx rfl (hb hby d12_7) rfl rfl (st2 _ (XS.iloadN X2.here hx rfl (hb hby d12_11) rfl k)))) ?_
  refine Goes.callS X2 hx hZ 0 hown (ow 79 rfl) (ow 80 rfl) (ow 81 rfl) (ow 82 rfl) (by decide) e2 (rmLc98 l Z a0 hw ya h0 n0 Z0 O0 BA sf SF hsf) (by decide) (by decide) (by decide) (by decide) rfl (by rw [hml]; rfl) (argsL := [(.ref ya), (.int 0)]) (rest := []) rfl (lenOf pd_4 rfl) rfl (own_le20 rfl) (hb hby d12_12) ?_
  rintro v3 T3 L3 X3 ⟨rfl, N3q, e3⟩
  have N3 := Fr.app (Fr.app (Fr.nil n0) N1q) N3q
  show Goes p e below _ T3 (mkF m 15 #[sR a, sI 0] [(.int 98)])
  exact Goes.retC X3 hx hlk hret rfl (hb hby d12_15) (by decide) (by decide) ⟨rfl, N3, e3⟩
abbrev c6C := jdk_31_method_11_code
theorem d6_0 : decode c6C 0 = .ok (.aload_n 0, 1) := by decide +kernel
theorem d6_1 : decode c6C 1 = .ok (.ifnonnull 12, 3) := by decide +kernel
theorem d6_13 : decode c6C 13 = .ok (.aload_n 0, 1) := by decide +kernel
theorem d6_14 : decode c6C 14 = .ok (.areturn, 1) := by decide +kernel
theorem ef_4 (m : MethodId) (x0 : Addr) (x1 : Addr) : entryFrame m #[(.ref x0), (.ref x1)] 2 = mkF m 0 #[.val (.ref x0), .val (.ref x1)] [] := by first | (simp [entryFrame, mkF, argsToLocals, Value.category]; done) | rfl
theorem pn_5 : plainName "java/util/Objects" = true := by first | (simp [plainName, overriddenIn]; done) | decide +kernel
def FQ (x0 : Addr) (x1 : Addr) : Value := (.ref x0)
theorem rmQ (l : Launch) (Z : State) (a0 : Array Value) (hw : TW Z a0) (x0 : Addr) (x1 : Addr) (h0 : Heap) (n0 : Nat) (Z0 : n0 ≤ h0.size) :
    Pays l Z (⟨"java/util/Objects", "requireNonNull", "(Ljava/lang/Object;Ljava/lang/String;)Ljava/lang/Object;"⟩ : MethodName) jdk_31_method_11_code 2 (some (.object "java/lang/Object")) [] ({ frames := 0, cells := 0, slots := 0, locals := 0 } : Room) #[(.ref x0), (.ref x1)] h0 (fun v h L => v = some (FQ x0 x1) ∧ Fr n0 L ∧ h = h0) := by
  refine Pays.walk (plainFor_of_name pn_5) (fun m => ef_4 m x0 x1 ) ?_
  intro p e s m below meth c T0 X0 hx hby hml hown hnm hZ e0 hret hlk
  have N0 := Fr.nil n0
  refine Goes.on (T' := T0) (g' := (mkF m 14 #[sR x0, sR x1] [(.ref x0)])) (fun _ k => XS.aloadN X0.here hx rfl (hb hby d6_0) rfl rfl (XT.ifnonnullYes X0.here hx rfl (pc0 := 1) (pc' := 13) rfl (hb hby d6_1) rfl (by decide) (by decide) (XS.aloadN X0.here hx rfl (hb hby d6_13) rfl rfl k))) ?_
  exact Goes.retA X0 hx hlk hret rfl rfl (hb hby d6_14) (by decide) (by decide) ⟨(rfl), N0, e0⟩
abbrev c8C := prog_70_method_6_code
theorem d8_0 : decode c8C 0 = .ok (.aload_n 0, 1) := by decide +kernel
theorem d8_1 : decode c8C 1 = .ok (.invokevirtual 86, 3) := by decide +kernel
theorem d8_4 : decode c8C 4 = .ok (.ifCond .ne 12, 3) := by decide +kernel
theorem d8_7 : decode c8C 7 = .ok (.aload_n 0, 1) := by decide +kernel
theorem pd_5 : parseMethodDescriptor "()I" = some ⟨[], some .int⟩ := by decide +kernel
theorem d8_8 : decode c8C 8 = .ok (.invokevirtual 87, 3) := by decide +kernel
theorem d8_11 : decode c8C 11 = .ok (.bipush 32, 2) := by decide +kernel
theorem d8_13 : decode c8C 13 = .ok (.if_icmp .le 5, 3) := by decide +kernel
theorem d8_18 : decode c8C 18 = .ok (.iconst 0, 1) := by decide +kernel
theorem d8_19 : decode c8C 19 = .ok (.istore_n 1, 1) := by decide +kernel
theorem d8_20 : decode c8C 20 = .ok (.iload_n 1, 1) := by decide +kernel
theorem d8_21 : decode c8C 21 = .ok (.aload_n 0, 1) := by decide +kernel
theorem d8_22 : decode c8C 22 = .ok (.invokevirtual 87, 3) := by decide +kernel
theorem d8_25 : decode c8C 25 = .ok (.if_icmp .ge 33, 3) := by decide +kernel
theorem d8_28 : decode c8C 28 = .ok (.aload_n 0, 1) := by decide +kernel
theorem d8_29 : decode c8C 29 = .ok (.iload_n 1, 1) := by decide +kernel
theorem pd_6 : parseMethodDescriptor "(I)C" = some ⟨[.int], some .char⟩ := by decide +kernel
theorem d8_30 : decode c8C 30 = .ok (.invokevirtual 91, 3) := by decide +kernel
theorem d8_33 : decode c8C 33 = .ok (.istore_n 2, 1) := by decide +kernel
theorem d8_34 : decode c8C 34 = .ok (.iload_n 2, 1) := by decide +kernel
theorem d8_35 : decode c8C 35 = .ok (.getstatic 95, 3) := by decide +kernel
theorem d8_38 : decode c8C 38 = .ok (.arraylength, 1) := by decide +kernel
theorem d8_39 : decode c8C 39 = .ok (.if_icmp .ge 11, 3) := by decide +kernel
theorem d8_42 : decode c8C 42 = .ok (.getstatic 95, 3) := by decide +kernel
theorem d8_45 : decode c8C 45 = .ok (.iload_n 2, 1) := by decide +kernel
theorem d8_46 : decode c8C 46 = .ok (.baload, 1) := by decide +kernel
theorem d8_47 : decode c8C 47 = .ok (.ifCond .ne 5, 3) := by decide +kernel
theorem d8_52 : decode c8C 52 = .ok (.iinc 1 1, 3) := by decide +kernel
theorem d8_55 : decode c8C 55 = .ok (.goto (-35), 3) := by decide +kernel
theorem d8_58 : decode c8C 58 = .ok (.iconst 1, 1) := by decide +kernel
theorem d8_59 : decode c8C 59 = .ok (.ireturn, 1) := by decide +kernel
theorem ef_5 (m : MethodId) (x0 : Addr) : entryFrame m #[(.ref x0)] 3 = mkF m 0 #[.val (.ref x0), .unset, .unset] [] := by first | (simp [entryFrame, mkF, argsToLocals, Value.category]; done) | rfl
theorem pn_6 : plainName "com/example/uncross/uncross/model/Order" = true := by first | (simp [plainName, overriddenIn]; done) | decide +kernel
theorem rmVa97 (l : Launch) (Z : State) (a0 : Array Value) (hw : TW Z a0) (a : Addr) (h0 : Heap) (n0 : Nat) (Z0 : n0 ≤ h0.size) (O0 : Old Z n0 h0) (cs : Int32) (SC : Sta Z Z.heap "java/lang/String" "COMPACT_STRINGS" "Z" (.int cs)) (hcs : ¬ cs = (0 : Int32)) (ya : Addr) (ka : ClassId) (PA : Str Z h0 a ya ka (Int32.ofNat 1) [Value.int (97 : Int32)]) (sf : Value) (SF : Sta Z Z.heap "jdk/internal/util/Preconditions" "SIOOBE_FORMATTER" "Ljava/util/function/BiFunction;" sf) (hsf : sf.isRef = true) (ic : Addr) (SI : Sta Z Z.heap "com/example/uncross/uncross/model/Order" "ID_CHARACTERS" "[Z" (.ref ic)) (icf : Nat → Int32) (IC : Arf Z Z.heap ic .boolean Value.int 128 icf) (hic : ¬ icf 97 = (0 : Int32)) :
    Pays l Z (⟨"com/example/uncross/uncross/model/Order", "isValidId", "(Ljava/lang/String;)Z"⟩ : MethodName) prog_70_method_6_code 3 (some .boolean) [] ({ frames := 4, cells := 0, slots := 0, locals := 54 } : Room) #[(.ref a)] h0 (fun v h L => v = some (.int (1 : Int32)) ∧ Fr n0 L ∧ h = h0) := by
  refine Pays.walk (plainFor_of_name pn_6) (fun m => ef_5 m a ) ?_
  intro p e s m below meth c T0 X0 hx hby hml hown hnm hZ e0 hret hlk
  have dc := @Jvm.hb _ _ hby
  have ow := @own_w Z a0 hw
  have BA : Arf Z h0 ya .byte Value.int 1 (fun i => ([(97 : Int32)] : List Int32).getD i 0) := Arv.arf PA.2.2.2 (by decide) (own_lt1 rfl)
  have IC0 : Arf Z h0 ic .boolean Value.int 128 icf := Arf.ext IC O0.2
  refine Goes.on (T' := T0) (g' := (mkF m 1 #[sR a, su, su] [(.ref a)])) (fun _ k => XS.aloadN X0.here hx rfl (dc d8_0) rfl rfl k) ?_
  refine Goes.callV X0 hx hZ 0 hown (ow 51 rfl) (ow 52 rfl) (notFace_of_selects (args := #[]) (mvT hZ (ow 54 rfl))) (ow 54 rfl) (ow 53 rfl) (ow 4 rfl) (ow 55 rfl) (by decide) e0 PA.1 (rmEm97 l Z a0 hw a h0 n0 Z0 O0 cs SC hcs ya ka PA) (by decide) (by decide) (by decide) (by decide) rfl (by rw [hml]; rfl) (argsL := []) (rest := []) rfl (lenOf pd_3 rfl) rfl (own_le20 rfl) (dc d8_1) ?_
  rintro v1 T1 L1 X1 ⟨rfl, N1q, e1⟩
  show Goes p e below _ T1 (mkF m 4 #[sR a, su, su] [(.int 0)])
  refine Goes.on (T' := T1) (g' := (mkF m 8 #[sR a, su, su] [(.ref a)])) (fun _ k => XS.ifNo X1.here hx rfl (dc d8_4) rfl (XT.i0_ne_f (by decide)) (XS.aloadN X1.here hx rfl (dc d8_7) rfl rfl k)) ?_
  refine Goes.callV X1 hx hZ 0 hown (ow 57 rfl) (ow 58 rfl) (notFace_of_selects (args := #[]) (mvT hZ (ow 60 rfl))) (ow 60 rfl) (ow 59 rfl) (ow 4 rfl) (ow 61 rfl) (by decide) e1 PA.1 (rmLn97 l Z a0 hw a h0 n0 Z0 O0 cs SC hcs ya ka PA) (by decide) (by decide) (by decide) (by decide) rfl (by rw [hml]; rfl) (argsL := []) (rest := []) rfl (lenOf pd_5 rfl) rfl (own_le20 rfl) (dc d8_8) ?_
  rintro v2 T2 L2 X2 ⟨rfl, N2q, e2⟩
  show Goes p e below _ T2 (mkF m 11 #[sR a, su, su] [(.int 1)])
  refine Goes.on (T' := T2) (g' := (mkF m 22 #[sR a, sI 0, su] [(.ref a), (.int 0)])) (fun _ k => XS.bipush X2.here hx rfl (dc d8_11) (XS.icmpYes X2.here hx rfl (pc0 := 13) (pc' := 18) rfl (dc d8_13) rfl (XT.ii_le_t (by decide)) (by decide) (by decide) (XS.iconst X2.here hx rfl (dc d8_18) (XS.istoreN X2.here hx rfl (dc d8_19) rfl (l' := #[sR a, sI 0, su]) rfl (XS.iloadN X2.here hx rfl (dc d8_20) rfl (XS.aloadN X2.here hx rfl (dc d8_21) rfl rfl k)))))) ?_
  refine Goes.callV X2 hx hZ 1 hown (ow 57 rfl) (ow 58 rfl) (notFace_of_selects (args := #[]) (mvT hZ (ow 60 rfl))) (ow 60 rfl) (ow 59 rfl) (ow 4 rfl) (ow 61 rfl) (by decide) e2 PA.1 (rmLn97 l Z a0 hw a h0 n0 Z0 O0 cs SC hcs ya ka PA) (by decide) (by decide) (by decide) (by decide) rfl (by rw [hml]; rfl) (argsL := []) (rest := [(.int 0)]) rfl (lenOf pd_5 rfl) rfl (own_le20 rfl) (dc d8_22) ?_
  rintro v3 T3 L3 X3 ⟨rfl, N3q, e3⟩
  show Goes p e below _ T3 (mkF m 25 #[sR a, sI 0, su] [(.int 1), (.int 0)])
  refine Goes.on (T' := T3) (g' := (mkF m 30 #[sR a, sI 0, su] [(.int 0), (.ref a)])) (fun _ k => XS.icmpNo X3.here hx rfl (dc d8_25) rfl (XT.ii_ge_f (by decide)) (XS.aloadN X3.here hx rfl (dc d8_28) rfl rfl (XS.iloadN X3.here hx rfl (dc d8_29) rfl k))) ?_
  refine Goes.callV X3 hx hZ 0 hown (ow 69 rfl) (ow 70 rfl) (notFace_of_selects (args := #[]) (mvT hZ (ow 72 rfl))) (ow 72 rfl) (ow 71 rfl) (ow 4 rfl) (ow 73 rfl) (by decide) e3 PA.1 (rmCh97 l Z a0 hw a h0 n0 Z0 O0 cs SC hcs ya ka PA sf SF hsf) (by decide) (by decide) (by decide) (by decide) rfl (by rw [hml]; rfl) (argsL := [(.int 0)]) (rest := []) rfl (lenOf pd_6 rfl) rfl (own_le20 rfl) (dc d8_30) ?_
  rintro v4 T4 L4 X4 ⟨rfl, N4q, e4⟩
  show Goes p e below _ T4 (mkF m 33 #[sR a, sI 0, su] [(.int 97)])
  obtain ⟨T5, X5, e5, st5⟩ := getS (host := "") X4 hx hZ hown (ow 91 rfl) Via.refl e4 (Sta.ext O0.2 SI) (g := (mkF m 35 #[sR a, sI 0, sI 97] [(.int 97)])) rfl (dc d8_35)
  obtain ⟨T7, X7, e7, st7⟩ := getS (host := "") X5 hx hZ hown (ow 91 rfl) Via.refl e5 (Sta.ext O0.2 SI) (g := (mkF m 42 #[sR a, sI 0, sI 97] [])) rfl (dc d8_42)
  refine Goes.on (T' := T7) (g' := (mkF m 22 #[sR a, sI 1, sI 97] [(.ref a), (.int 1)])) (fun _ k => XS.istoreN X4.here hx rfl (dc d8_33) rfl (l' := #[sR a, sI 0, sI 97]) rfl (XS.iloadN X4.here hx rfl (dc d8_34) rfl (st5 _ (aLenm X5 hx hZ e5 IC0 (dc d8_38) (XS.icmpNo X5.here hx rfl (dc d8_39) rfl (XT.ii_ge_f (by decide)) (st7 _ (XS.iloadN X7.here hx rfl (dc d8_45) rfl (ldZm X7 hx hZ e7 IC0 (by decide) (dc d8_46) (XS.ifYes X7.here hx rfl (pc0 := 47) (pc' := 52) rfl (dc d8_47) rfl (XT.i0_ne_t hic) (by decide) (by decide) (XT.iincV X7.here hx rfl (1 : Int32) (dc d8_52) (by decide) rfl (l' := #[sR a, sI 1, sI 97]) rfl (XS.goto X7.here hx rfl (pc0 := 55) (pc' := 20) rfl (dc d8_55) (by decide) (by decide) (XS.iloadN X7.here hx rfl (dc d8_20) rfl (XS.aloadN X7.here hx rfl (dc d8_21) rfl rfl k))))))))))))) ?_
  refine Goes.callV X7 hx hZ 1 hown (ow 57 rfl) (ow 58 rfl) (notFace_of_selects (args := #[]) (mvT hZ (ow 60 rfl))) (ow 60 rfl) (ow 59 rfl) (ow 4 rfl) (ow 61 rfl) (by decide) e7 PA.1 (rmLn97 l Z a0 hw a h0 n0 Z0 O0 cs SC hcs ya ka PA) (by decide) (by decide) (by decide) (by decide) rfl (by rw [hml]; rfl) (argsL := []) (rest := [(.int 1)]) rfl (lenOf pd_5 rfl) rfl (own_le20 rfl) (dc d8_22) ?_
  rintro v9 T9 L9 X9 ⟨rfl, N9q, e9⟩
  have N9 := Fr.app (Fr.app (Fr.app (Fr.app (Fr.app (Fr.nil n0) N1q) N2q) N3q) N4q) N9q
  show Goes p e below _ T9 (mkF m 25 #[sR a, sI 1, sI 97] [(.int 1), (.int 1)])
  refine Goes.on (T' := T9) (g' := (mkF m 59 #[sR a, sI 1, sI 97] [(.int 1)])) (fun _ k => XS.icmpYes X9.here hx rfl (pc0 := 25) (pc' := 58) rfl (dc d8_25) rfl (XT.ii_ge_t (by decide)) (by decide) (by decide) (XS.iconst X9.here hx rfl (dc d8_58) k)) ?_
  exact Goes.retB X9 hx hlk hret (Or.inr rfl) (dc d8_59) (by decide) (by decide) ⟨rfl, N9, e9⟩
theorem rmVa98 (l : Launch) (Z : State) (a0 : Array Value) (hw : TW Z a0) (a : Addr) (h0 : Heap) (n0 : Nat) (Z0 : n0 ≤ h0.size) (O0 : Old Z n0 h0) (cs : Int32) (SC : Sta Z Z.heap "java/lang/String" "COMPACT_STRINGS" "Z" (.int cs)) (hcs : ¬ cs = (0 : Int32)) (ya : Addr) (ka : ClassId) (PA : Str Z h0 a ya ka (Int32.ofNat 1) [Value.int (98 : Int32)]) (sf : Value) (SF : Sta Z Z.heap "jdk/internal/util/Preconditions" "SIOOBE_FORMATTER" "Ljava/util/function/BiFunction;" sf) (hsf : sf.isRef = true) (ic : Addr) (SI : Sta Z Z.heap "com/example/uncross/uncross/model/Order" "ID_CHARACTERS" "[Z" (.ref ic)) (icf : Nat → Int32) (IC : Arf Z Z.heap ic .boolean Value.int 128 icf) (hic : ¬ icf 98 = (0 : Int32)) :
    Pays l Z (⟨"com/example/uncross/uncross/model/Order", "isValidId", "(Ljava/lang/String;)Z"⟩ : MethodName) prog_70_method_6_code 3 (some .boolean) [] ({ frames := 4, cells := 0, slots := 0, locals := 54 } : Room) #[(.ref a)] h0 (fun v h L => v = some (.int (1 : Int32)) ∧ Fr n0 L ∧ h = h0) := by
  refine Pays.walk (plainFor_of_name pn_6) (fun m => ef_5 m a ) ?_
  intro p e s m below meth c T0 X0 hx hby hml hown hnm hZ e0 hret hlk
  have dc := @Jvm.hb _ _ hby
  have ow := @own_w Z a0 hw
  have BA : Arf Z h0 ya .byte Value.int 1 (fun i => ([(98 : Int32)] : List Int32).getD i 0) := Arv.arf PA.2.2.2 (by decide) (own_lt1 rfl)
  have IC0 : Arf Z h0 ic .boolean Value.int 128 icf := Arf.ext IC O0.2
  refine Goes.on (T' := T0) (g' := (mkF m 1 #[sR a, su, su] [(.ref a)])) (fun _ k => XS.aloadN X0.here hx rfl (dc d8_0) rfl rfl k) ?_
  refine Goes.callV X0 hx hZ 0 hown (ow 51 rfl) (ow 52 rfl) (notFace_of_selects (args := #[]) (mvT hZ (ow 54 rfl))) (ow 54 rfl) (ow 53 rfl) (ow 4 rfl) (ow 55 rfl) (by decide) e0 PA.1 (rmEm98 l Z a0 hw a h0 n0 Z0 O0 cs SC hcs ya ka PA) (by decide) (by decide) (by decide) (by decide) rfl (by rw [hml]; rfl) (argsL := []) (rest := []) rfl (lenOf pd_3 rfl) rfl (own_le20 rfl) (dc d8_1) ?_
  rintro v1 T1 L1 X1 ⟨rfl, N1q, e1⟩
  show Goes p e below _ T1 (mkF m 4 #[sR a, su, su] [(.int 0)])
  refine Goes.on (T' := T1) (g' := (mkF m 8 #[sR a, su, su] [(.ref a)])) (fun _ k => XS.ifNo X1.here hx rfl (dc d8_4) rfl (XT.i0_ne_f (by decide)) (XS.aloadN X1.here hx rfl (dc d8_7) rfl rfl k)) ?_
  refine Goes.callV X1 hx hZ 0 hown (ow 57 rfl) (ow 58 rfl) (notFace_of_selects (args := #[]) (mvT hZ (ow 60 rfl))) (ow 60 rfl) (ow 59 rfl) (ow 4 rfl) (ow 61 rfl) (by decide) e1 PA.1 (rmLn98 l Z a0 hw a h0 n0 Z0 O0 cs SC hcs ya ka PA) (by decide) (by decide) (by decide) (by decide) rfl (by rw [hml]; rfl) (argsL := []) (rest := []) rfl (lenOf pd_5 rfl) rfl (own_le20 rfl) (dc d8_8) ?_
  rintro v2 T2 L2 X2 ⟨rfl, N2q, e2⟩
  show Goes p e below _ T2 (mkF m 11 #[sR a, su, su] [(.int 1)])
  refine Goes.on (T' := T2) (g' := (mkF m 22 #[sR a, sI 0, su] [(.ref a), (.int 0)])) (fun _ k => XS.bipush X2.here hx rfl (dc d8_11) (XS.icmpYes X2.here hx rfl (pc0 := 13) (pc' := 18) rfl (dc d8_13) rfl (XT.ii_le_t (by decide)) (by decide) (by decide) (XS.iconst X2.here hx rfl (dc d8_18) (XS.istoreN X2.here hx rfl (dc d8_19) rfl (l' := #[sR a, sI 0, su]) rfl (XS.iloadN X2.here hx rfl (dc d8_20) rfl (XS.aloadN X2.here hx rfl (dc d8_21) rfl rfl k)))))) ?_
  refine Goes.callV X2 hx hZ 1 hown (ow 57 rfl) (ow 58 rfl) (notFace_of_selects (args := #[]) (mvT hZ (ow 60 rfl))) (ow 60 rfl) (ow 59 rfl) (ow 4 rfl) (ow 61 rfl) (by decide) e2 PA.1 (rmLn98 l Z a0 hw a h0 n0 Z0 O0 cs SC hcs ya ka PA) (by decide) (by decide) (by decide) (by decide) rfl (by rw [hml]; rfl) (argsL := []) (rest := [(.int 0)]) rfl (lenOf pd_5 rfl) rfl (own_le20 rfl) (dc d8_22) ?_
  rintro v3 T3 L3 X3 ⟨rfl, N3q, e3⟩
  show Goes p e below _ T3 (mkF m 25 #[sR a, sI 0, su] [(.int 1), (.int 0)])
  refine Goes.on (T' := T3) (g' := (mkF m 30 #[sR a, sI 0, su] [(.int 0), (.ref a)])) (fun _ k => XS.icmpNo X3.here hx rfl (dc d8_25) rfl (XT.ii_ge_f (by decide)) (XS.aloadN X3.here hx rfl (dc d8_28) rfl rfl (XS.iloadN X3.here hx rfl (dc d8_29) rfl k))) ?_
  refine Goes.callV X3 hx hZ 0 hown (ow 69 rfl) (ow 70 rfl) (notFace_of_selects (args := #[]) (mvT hZ (ow 72 rfl))) (ow 72 rfl) (ow 71 rfl) (ow 4 rfl) (ow 73 rfl) (by decide) e3 PA.1 (rmCh98 l Z a0 hw a h0 n0 Z0 O0 cs SC hcs ya ka PA sf SF hsf) (by decide) (by decide) (by decide) (by decide) rfl (by rw [hml]; rfl) (argsL := [(.int 0)]) (rest := []) rfl (lenOf pd_6 rfl) rfl (own_le20 rfl) (dc d8_30) ?_
  rintro v4 T4 L4 X4 ⟨rfl, N4q, e4⟩
  show Goes p e below _ T4 (mkF m 33 #[sR a, sI 0, su] [(.int 98)])
  obtain ⟨T5, X5, e5, st5⟩ := getS (host := "") X4 hx hZ hown (ow 91 rfl) Via.refl e4 (Sta.ext O0.2 SI) (g := (mkF m 35 #[sR a, sI 0, sI 98] [(.int 98)])) rfl (dc d8_35)
  obtain ⟨T7, X7, e7, st7⟩ := getS (host := "") X5 hx hZ hown (ow 91 rfl) Via.refl e5 (Sta.ext O0.2 SI) (g := (mkF m 42 #[sR a, sI 0, sI 98] [])) rfl (dc d8_42)
  refine Goes.on (T' := T7) (g' := (mkF m 22 #[sR a, sI 1, sI 98] [(.ref a), (.int 1)])) (fun _ k => XS.istoreN X4.here hx rfl (dc d8_33) rfl (l' := #[sR a, sI 0, sI 98]) rfl (XS.iloadN X4.here hx rfl (dc d8_34) rfl (st5 _ (aLenm X5 hx hZ e5 IC0 (dc d8_38) (XS.icmpNo X5.here hx rfl (dc d8_39) rfl (XT.ii_ge_f (by decide)) (st7 _ (XS.iloadN X7.here hx rfl (dc d8_45) rfl (ldZm X7 hx hZ e7 IC0 (by decide) (dc d8_46) (XS.ifYes X7.here hx rfl (pc0 := 47) (pc' := 52) rfl (dc d8_47) rfl (XT.i0_ne_t hic) (by decide) (by decide) (XT.iincV X7.here hx rfl (1 : Int32) (dc d8_52) (by decide) rfl (l' := #[sR a, sI 1, sI 98]) rfl (XS.goto X7.here hx rfl (pc0 := 55) (pc' := 20) rfl (dc d8_55) (by decide) (by decide) (XS.iloadN X7.here hx rfl (dc d8_20) rfl (XS.aloadN X7.here hx rfl (dc d8_21) rfl rfl k))))))))))))) ?_
  refine Goes.callV X7 hx hZ 1 hown (ow 57 rfl) (ow 58 rfl) (notFace_of_selects (args := #[]) (mvT hZ (ow 60 rfl))) (ow 60 rfl) (ow 59 rfl) (ow 4 rfl) (ow 61 rfl) (by decide) e7 PA.1 (rmLn98 l Z a0 hw a h0 n0 Z0 O0 cs SC hcs ya ka PA) (by decide) (by decide) (by decide) (by decide) rfl (by rw [hml]; rfl) (argsL := []) (rest := [(.int 1)]) rfl (lenOf pd_5 rfl) rfl (own_le20 rfl) (dc d8_22) ?_
  rintro v9 T9 L9 X9 ⟨rfl, N9q, e9⟩
  have N9 := Fr.app (Fr.app (Fr.app (Fr.app (Fr.app (Fr.nil n0) N1q) N2q) N3q) N4q) N9q
  show Goes p e below _ T9 (mkF m 25 #[sR a, sI 1, sI 98] [(.int 1), (.int 1)])
  refine Goes.on (T' := T9) (g' := (mkF m 59 #[sR a, sI 1, sI 98] [(.int 1)])) (fun _ k => XS.icmpYes X9.here hx rfl (pc0 := 25) (pc' := 58) rfl (dc d8_25) rfl (XT.ii_ge_t (by decide)) (by decide) (by decide) (XS.iconst X9.here hx rfl (dc d8_58) k)) ?_
  exact Goes.retB X9 hx hlk hret (Or.inr rfl) (dc d8_59) (by decide) (by decide) ⟨rfl, N9, e9⟩
theorem rmVa (l : Launch) (Z : State) (a0 : Array Value) (hw : TW Z a0) (a : Addr) (u_ : Int32) (hu : u_ = (97 : Int32) ∨ u_ = (98 : Int32)) (h0 : Heap) (n0 : Nat) (Z0 : n0 ≤ h0.size) (O0 : Old Z n0 h0) (cs : Int32) (SC : Sta Z Z.heap "java/lang/String" "COMPACT_STRINGS" "Z" (.int cs)) (hcs : ¬ cs = (0 : Int32)) (ya : Addr) (ka : ClassId) (PA : Str Z h0 a ya ka (Int32.ofNat 1) [Value.int u_]) (sf : Value) (SF : Sta Z Z.heap "jdk/internal/util/Preconditions" "SIOOBE_FORMATTER" "Ljava/util/function/BiFunction;" sf) (hsf : sf.isRef = true) (ic : Addr) (SI : Sta Z Z.heap "com/example/uncross/uncross/model/Order" "ID_CHARACTERS" "[Z" (.ref ic)) (icf : Nat → Int32) (IC : Arf Z Z.heap ic .boolean Value.int 128 icf) (hic97 : ¬ icf 97 = (0 : Int32)) (hic98 : ¬ icf 98 = (0 : Int32)) :
    Pays l Z (⟨"com/example/uncross/uncross/model/Order", "isValidId", "(Ljava/lang/String;)Z"⟩ : MethodName) prog_70_method_6_code 3 (some .boolean) [] ({ frames := 4, cells := 0, slots := 0, locals := 54 } : Room) #[(.ref a)] h0 (fun v h L => v = some (.int (1 : Int32)) ∧ Fr n0 L ∧ h = h0) := by
  rcases hu with rfl | rfl
  · exact rmVa97 l Z a0 hw a h0 n0 Z0 O0 cs SC hcs ya ka PA sf SF hsf ic SI icf IC hic97
  · exact rmVa98 l Z a0 hw a h0 n0 Z0 O0 cs SC hcs ya ka PA sf SF hsf ic SI icf IC hic98
abbrev c7C := prog_70_method_4_code
theorem d7_0 : decode c7C 0 = .ok (.aload_n 0, 1) := by decide +kernel
theorem d7_1 : decode c7C 1 = .ok (.ldc 58, 2) := by decide +kernel
theorem pd_7 : parseMethodDescriptor "(Ljava/lang/Object;Ljava/lang/String;)Ljava/lang/Object;" = some ⟨[(.object "java/lang/Object"), (.object "java/lang/String")], some (.object "java/lang/Object")⟩ := by decide +kernel
theorem d7_3 : decode c7C 3 = .ok (.invokestatic 9, 3) := by decide +kernel
theorem d7_6 : decode c7C 6 = .ok (.checkcast 59, 3) := by decide +kernel
theorem pd_8 : parseMethodDescriptor "(Ljava/lang/String;)Z" = some ⟨[(.object "java/lang/String")], some .boolean⟩ := by decide +kernel
theorem d7_9 : decode c7C 9 = .ok (.invokestatic 61, 3) := by decide +kernel
theorem d7_12 : decode c7C 12 = .ok (.ifCond .ne 17, 3) := by decide +kernel
theorem d7_29 : decode c7C 29 = .ok (.return_, 1) := by decide +kernel
theorem rmCi (l : Launch) (Z : State) (a0 : Array Value) (hw : TW Z a0) (id_ y_ : Addr) (k_ : ClassId) (u_ : Int32) (h0 : Heap) (n0 : Nat) (Z0 : n0 ≤ h0.size) (O0 : Old Z n0 h0) (cs : Int32) (SC : Sta Z Z.heap "java/lang/String" "COMPACT_STRINGS" "Z" (.int cs)) (hcs : ¬ cs = (0 : Int32)) (sf : Value) (SF : Sta Z Z.heap "jdk/internal/util/Preconditions" "SIOOBE_FORMATTER" "Ljava/util/function/BiFunction;" sf) (hsf : sf.isRef = true) (ic : Addr) (SI : Sta Z Z.heap "com/example/uncross/uncross/model/Order" "ID_CHARACTERS" "[Z" (.ref ic)) (icf : Nat → Int32) (IC : Arf Z Z.heap ic .boolean Value.int 128 icf) (hic97 : ¬ icf 97 = (0 : Int32)) (hic98 : ¬ icf 98 = (0 : Int32)) (hEL : EW Z a0 consts_1) (p0 : Str Z h0 id_ y_ k_ (Int32.ofNat 1) [Value.int u_]) (hu : u_ = (97 : Int32) ∨ u_ = (98 : Int32)) :
    PaysW l Z consts_1 (⟨"com/example/uncross/uncross/model/Order", "checkId", "(Ljava/lang/String;)V"⟩ : MethodName) prog_70_method_4_code 1 none [] ({ frames := 5, cells := 2, slots := 20, locals := 68 } : Room) #[(.ref id_)] h0 (fun v h L => v = none ∧ Fr n0 L ∧ Keep h0 h []) := by
  refine PaysW.walk (plainFor_of_name pn_6) (fun m => ef_0 m id_ ) ?_
  intro p e s m below meth c T0 X0 hx hby hml hown hnm hZ e0 hret hlk hS0 RR0
  have ow := @own_w Z a0 hw
  have hk0 : 0 ≤ h0.size := Nat.zero_le _
  have S0 : h0.size ≤ h0.size := Nat.le_refl _
  have wS := own_wS hw
  have K0 := Keep.refl h0 ([] : List Addr)
  obtain ⟨a1, T1, h1, k1, b1, kb1, X1, e1, E1, hS1, hk1, hZ1, hown1, A1, C1, V1, K1, lt1, lu1, R1, Lt1, sf1, st1⟩ := ldcCH X0 hx hZ hown (ow 45 rfl) wS e0 hS0 hk0 hEL (List.mem_of_getElem? (i := 3) rfl) RR0.1 (vs := [Value.int 105, Value.int 100]) (z := Int32.ofNat 2) ⟨by decide, by decide⟩ (by decide) (by decide) (g := (mkF m 1 #[sR id_] [(.ref id_)])) rfl (hb hby d7_1) (n := 8) (by decide) (by decide) (by decide) (by decide)
  have C2 := p0.ext E1
  have C3 := O0.ext E1
  have Z4 := Nat.le_trans Z0 E1.1
  have K7 := K0.ext E1
  have RR1 := RR0.trans R1
  have Q1 : Str Z h1 a1 b1 kb1 (Int32.ofNat 2) [Value.int 105, Value.int 100] := ⟨A1, C1, V1, K1⟩
  refine Goes.on (T' := T1) (g' := (mkF m 3 #[sR id_] [(.ref a1), (.ref id_)])) (fun _ k => XS.aloadN X0.here hx rfl (hb hby d7_0) rfl rfl (st1 _ k)) ?_
  refine Goes.callS X1 hx hZ1 0 hown1 (ow 38 rfl) (ow 39 rfl) (ow 40 rfl) (ow 41 rfl) (by decide) e1 (rmQ l Z a0 hw id_ a1 h1 n0 Z4) (by decide) (by decide) (by decide) (by decide) rfl (by rw [hml]; rfl) (argsL := [(.ref id_), (.ref a1)]) (rest := []) rfl (lenOf pd_7 rfl) rfl (own_le20 rfl) (hb hby d7_3) ?_
  rintro v8 T8 L8 X8 ⟨rfl, N8q, e8⟩
  show Goes p e below _ T8 (mkF m 6 #[sR id_] [(.ref id_)])
  obtain ⟨T9, X9, e9, st9⟩ := castY X8 hx hZ1 hown1 (ow 46 rfl) e8 (Ins.self (C2).1) (g := (mkF m 6 #[sR id_] [(.ref id_)])) rfl rfl (hb hby d7_6)
  refine Goes.on (T' := T9) (g' := (mkF m 9 #[sR id_] [(.ref id_)])) (fun _ k => st9 _ k) ?_
  refine Goes.callS X9 hx hZ1 0 hown1 (ow 48 rfl) (ow 49 rfl) (ow 25 rfl) (ow 50 rfl) (by decide) e9 (rmVa l Z a0 hw id_ u_ hu h1 n0 Z4 C3 cs SC hcs y_ k_ C2 sf SF hsf ic SI icf IC hic97 hic98) (by decide) (by decide) (by decide) (by decide) rfl (by rw [hml]; rfl) (argsL := [(.ref id_)]) (rest := []) rfl (lenOf pd_8 rfl) rfl (own_le20 rfl) (hb hby d7_9) ?_
  rintro v10 T10 L10 X10 ⟨rfl, N10q, e10⟩
  have N10 := Fr.app (Fr.app (Fr.nil n0) N8q) N10q
  show Goes p e below _ T10 (mkF m 12 #[sR id_] [(.int 1)])
  refine Goes.on (T' := T10) (g' := (mkF m 29 #[sR id_] [])) (fun _ k => XS.ifYes X10.here hx rfl (pc0 := 12) (pc' := 29) rfl (hb hby d7_12) rfl (XT.i0_ne_t (by decide)) (by decide) (by decide) k) ?_
  exact Goes.retVW X10 hS1 (by rw [e10]; exact hk1) hZ1 hEL (by rw [e10]; exact RR1) hx hlk hret (hb hby d7_29) (by decide) (by decide) (by rw [e10]; exact ⟨rfl, N10, K7⟩)
abbrev c20C := prog_82_method_8_code
theorem d20_0 : decode c20C 0 = .ok (.lload_n 0, 1) := by decide +kernel
theorem d20_1 : decode c20C 1 = .ok (.lload_n 2, 1) := by decide +kernel
theorem d20_2 : decode c20C 2 = .ok (.lcmp, 1) := by decide +kernel
theorem d20_3 : decode c20C 3 = .ok (.ifCond .lt 15, 3) := by decide +kernel
theorem d20_6 : decode c20C 6 = .ok (.lload_n 0, 1) := by decide +kernel
theorem d20_7 : decode c20C 7 = .ok (.ldc2_w 17, 3) := by decide +kernel
theorem d20_10 : decode c20C 10 = .ok (.lcmp, 1) := by decide +kernel
theorem d20_11 : decode c20C 11 = .ok (.ifCond .gt 7, 3) := by decide +kernel
theorem d20_14 : decode c20C 14 = .ok (.iconst 1, 1) := by decide +kernel
theorem d20_15 : decode c20C 15 = .ok (.goto 4, 3) := by decide +kernel
theorem d20_19 : decode c20C 19 = .ok (.ireturn, 1) := by decide +kernel
theorem ef_6 (m : MethodId) (x0 : Int64) (x1 : Int64) : entryFrame m #[(.long x0), (.long x1)] 4 = mkF m 0 #[.val (.long x0), .second, .val (.long x1), .second] [] := by first | (simp [entryFrame, mkF, argsToLocals, Value.category]; done) | rfl
theorem pn_7 : plainName "com/example/uncross/uncross/model/Quantities" = true := by first | (simp [plainName, overriddenIn]; done) | decide +kernel
theorem rmQr (l : Launch) (Z : State) (a0 : Array Value) (hw : TW Z a0)  (h0 : Heap) (n0 : Nat) (Z0 : n0 ≤ h0.size) :
    Pays l Z (⟨"com/example/uncross/uncross/model/Quantities", "inRange", "(JJ)Z"⟩ : MethodName) prog_82_method_8_code 4 (some .boolean) [] ({ frames := 0, cells := 0, slots := 0, locals := 0 } : Room) #[(.long (1 : Int64)), (.long (1 : Int64))] h0 (fun v h L => v = some (.int (1 : Int32)) ∧ Fr n0 L ∧ h = h0) := by
  refine Pays.walk (plainFor_of_name pn_7) (fun m => ef_6 m (1 : Int64) (1 : Int64) ) ?_
  intro p e s m below meth c T0 X0 hx hby hml hown hnm hZ e0 hret hlk
  have dc := @Jvm.hb _ _ hby
  have N0 := Fr.nil n0
  refine Goes.on (T' := T0) (g' := (mkF m 19 #[sJ 1, s2, sJ 1, s2] [(.int 1)])) (fun _ k => XS.lloadN X0.here hx rfl (dc d20_0) rfl (XS.lloadN X0.here hx rfl (dc d20_1) rfl (XT.lcmp X0.here hx rfl (dc d20_2) rfl (XS.ifNo X0.here hx rfl (dc d20_3) rfl (XT.ll_lt_f (by decide)) (XS.lloadN X0.here hx rfl (dc d20_6) rfl (X0.ldc2Long hx hown (mvT hZ (own_w hw 107 rfl)) (g := (mkF m 7 #[sJ 1, s2, sJ 1, s2] [(.long 1)])) rfl (dc d20_7) _ (XT.lcmp X0.here hx rfl (dc d20_10) rfl (XS.ifNo X0.here hx rfl (dc d20_11) rfl (XT.ll_gt_f (by decide)) (XS.iconst X0.here hx rfl (dc d20_14) (XS.goto X0.here hx rfl (pc0 := 15) (pc' := 19) rfl (dc d20_15) (by decide) (by decide) k)))))))))) ?_
  exact Goes.retB X0 hx hlk hret (Or.inr rfl) (dc d20_19) (by decide) (by decide) ⟨rfl, N0, e0⟩
abbrev c19C := prog_82_method_7_code
theorem d19_0 : decode c19C 0 = .ok (.lload_n 0, 1) := by decide +kernel
theorem d19_1 : decode c19C 1 = .ok (.lload_n 2, 1) := by decide +kernel
theorem pd_9 : parseMethodDescriptor "(JJ)Z" = some ⟨[.long, .long], some .boolean⟩ := by decide +kernel
theorem d19_2 : decode c19C 2 = .ok (.invokestatic 24, 3) := by decide +kernel
theorem d19_5 : decode c19C 5 = .ok (.ifCond .ne 18, 3) := by decide +kernel
theorem d19_23 : decode c19C 23 = .ok (.return_, 1) := by decide +kernel
theorem rmQc (l : Launch) (Z : State) (a0 : Array Value) (hw : TW Z a0)  (h0 : Heap) (n0 : Nat) (Z0 : n0 ≤ h0.size) :
    Pays l Z (⟨"com/example/uncross/uncross/model/Quantities", "check", "(JJ)V"⟩ : MethodName) prog_82_method_7_code 4 none [] ({ frames := 1, cells := 0, slots := 0, locals := 15 } : Room) #[(.long (1 : Int64)), (.long (1 : Int64))] h0 (fun v h L => v = none ∧ Fr n0 L ∧ h = h0) := by
  refine Pays.walk (plainFor_of_name pn_7) (fun m => ef_6 m (1 : Int64) (1 : Int64) ) ?_
  intro p e s m below meth c T0 X0 hx hby hml hown hnm hZ e0 hret hlk
  refine Goes.on (T' := T0) (g' := (mkF m 2 #[sJ 1, s2, sJ 1, s2] [(.long 1), (.long 1)])) (fun _ k => XS.lloadN X0.here hx rfl (hb hby d19_0) rfl (XS.lloadN X0.here hx rfl (hb hby d19_1) rfl k)) ?_
  refine Goes.callS X0 hx hZ 0 hown (own_w hw 104 rfl) (own_w hw 105 rfl) (own_w hw 99 rfl) (own_w hw 106 rfl) (by decide) e0 (rmQr l Z a0 hw h0 n0 Z0) (by decide) (by decide) (by decide) (by decide) rfl (by rw [hml]; rfl) (argsL := [(.long 1), (.long 1)]) (rest := []) rfl (lenOf pd_9 rfl) rfl (own_le20 rfl) (hb hby d19_2) ?_
  rintro v1 T1 L1 X1 ⟨rfl, N1q, e1⟩
  have N1 := Fr.app (Fr.nil n0) N1q
  show Goes p e below _ T1 (mkF m 5 #[sJ 1, s2, sJ 1, s2] [(.int 1)])
  refine Goes.on (T' := T1) (g' := (mkF m 23 #[sJ 1, s2, sJ 1, s2] [])) (fun _ k => XS.ifYes X1.here hx rfl (pc0 := 5) (pc' := 23) rfl (hb hby d19_5) rfl (XT.i0_ne_t (by decide)) (by decide) (by decide) k) ?_
  exact Goes.retV X1 hx hlk hret (hb hby d19_23) (by decide) (by decide) ⟨rfl, N1, e1⟩
abbrev c18C := prog_82_method_4_code
theorem d18_0 : decode c18C 0 = .ok (.lload_n 0, 1) := by decide +kernel
theorem d18_1 : decode c18C 1 = .ok (.lconst 1, 1) := by decide +kernel
theorem pd_10 : parseMethodDescriptor "(JJ)V" = some ⟨[.long, .long], none⟩ := by decide +kernel
theorem d18_2 : decode c18C 2 = .ok (.invokestatic 13, 3) := by decide +kernel
theorem d18_5 : decode c18C 5 = .ok (.return_, 1) := by decide +kernel
theorem ef_7 (m : MethodId) (x0 : Int64) : entryFrame m #[(.long x0)] 2 = mkF m 0 #[.val (.long x0), .second] [] := by first | (simp [entryFrame, mkF, argsToLocals, Value.category]; done) | rfl
theorem rmQk (l : Launch) (Z : State) (a0 : Array Value) (hw : TW Z a0)  (h0 : Heap) (n0 : Nat) (Z0 : n0 ≤ h0.size) :
    Pays l Z (⟨"com/example/uncross/uncross/model/Quantities", "check", "(J)V"⟩ : MethodName) prog_82_method_4_code 2 none [] ({ frames := 2, cells := 0, slots := 0, locals := 30 } : Room) #[(.long (1 : Int64))] h0 (fun v h L => v = none ∧ Fr n0 L ∧ h = h0) := by
  refine Pays.walk (plainFor_of_name pn_7) (fun m => ef_7 m (1 : Int64) ) ?_
  intro p e s m below meth c T0 X0 hx hby hml hown hnm hZ e0 hret hlk
  refine Goes.on (T' := T0) (g' := (mkF m 2 #[sJ 1, s2] [(.long 1), (.long 1)])) (fun _ k => XS.lloadN X0.here hx rfl (hb hby d18_0) rfl (XS.lconst X0.here hx rfl (hb hby d18_1) k)) ?_
  refine Goes.callS X0 hx hZ 0 hown (own_w hw 101 rfl) (own_w hw 102 rfl) (own_w hw 99 rfl) (own_w hw 103 rfl) (by decide) e0 (rmQc l Z a0 hw h0 n0 Z0) (by decide) (by decide) (by decide) (by decide) rfl (by rw [hml]; rfl) (argsL := [(.long 1), (.long 1)]) (rest := []) rfl (lenOf pd_10 rfl) rfl (own_le20 rfl) (hb hby d18_2) ?_
  rintro v1 T1 L1 X1 ⟨rfl, N1q, e1⟩
  have N1 := Fr.app (Fr.nil n0) N1q
  show Goes p e below _ T1 (mkF m 5 #[sJ 1, s2] [])
  exact Goes.retV X1 hx hlk hret (hb hby d18_5) (by decide) (by decide) ⟨rfl, N1, e1⟩
abbrev c29C := prog_81_method_9_code
theorem d29_0 : decode c29C 0 = .ok (.lload_n 0, 1) := by decide +kernel
theorem d29_1 : decode c29C 1 = .ok (.lconst 1, 1) := by decide +kernel
theorem d29_2 : decode c29C 2 = .ok (.lcmp, 1) := by decide +kernel
theorem d29_3 : decode c29C 3 = .ok (.ifCond .lt 15, 3) := by decide +kernel
theorem d29_6 : decode c29C 6 = .ok (.lload_n 0, 1) := by decide +kernel
theorem d29_7 : decode c29C 7 = .ok (.ldc2_w 87, 3) := by decide +kernel
theorem d29_10 : decode c29C 10 = .ok (.lcmp, 1) := by decide +kernel
theorem d29_11 : decode c29C 11 = .ok (.ifCond .gt 7, 3) := by decide +kernel
theorem d29_14 : decode c29C 14 = .ok (.iconst 1, 1) := by decide +kernel
theorem d29_15 : decode c29C 15 = .ok (.goto 4, 3) := by decide +kernel
theorem d29_19 : decode c29C 19 = .ok (.ireturn, 1) := by decide +kernel
theorem pn_8 : plainName "com/example/uncross/uncross/model/Prices" = true := by first | (simp [plainName, overriddenIn]; done) | decide +kernel
theorem rmPr (l : Launch) (Z : State) (a0 : Array Value) (hw : TW Z a0) (x_ : Int64) (h0 : Heap) (n0 : Nat) (Z0 : n0 ≤ h0.size) (hp1 : ¬ x_ < (1 : Int64)) (hp2 : ¬ (1000000000000 : Int64) < x_) :
    Pays l Z (⟨"com/example/uncross/uncross/model/Prices", "inRange", "(J)Z"⟩ : MethodName) prog_81_method_9_code 2 (some .boolean) [] ({ frames := 0, cells := 0, slots := 0, locals := 0 } : Room) #[(.long x_)] h0 (fun v h L => v = some (.int (1 : Int32)) ∧ Fr n0 L ∧ h = h0) := by
  refine Pays.walk (plainFor_of_name pn_8) (fun m => ef_7 m x_ ) ?_
  intro p e s m below meth c T0 X0 hx hby hml hown hnm hZ e0 hret hlk
  have dc := @Jvm.hb _ _ hby
  have N0 := Fr.nil n0
  refine Goes.on (T' := T0) (g' := (mkF m 19 #[sJ x_, s2] [(.int 1)])) (fun _ k => XS.lloadN X0.here hx rfl (dc d29_0) rfl (XS.lconst X0.here hx rfl (dc d29_1) (XT.lcmp X0.here hx rfl (dc d29_2) rfl (XS.ifNo X0.here hx rfl (dc d29_3) rfl (XT.ll_lt_f hp1) (XS.lloadN X0.here hx rfl (dc d29_6) rfl (X0.ldc2Long hx hown (mvT hZ (own_w hw 169 rfl)) (g := (mkF m 7 #[sJ x_, s2] [(.long x_)])) rfl (dc d29_7) _ (XT.lcmp X0.here hx rfl (dc d29_10) rfl (XS.ifNo X0.here hx rfl (dc d29_11) rfl (XT.ll_gt_f hp2) (XS.iconst X0.here hx rfl (dc d29_14) (XS.goto X0.here hx rfl (pc0 := 15) (pc' := 19) rfl (dc d29_15) (by decide) (by decide) k)))))))))) ?_
  exact Goes.retB X0 hx hlk hret (Or.inr rfl) (dc d29_19) (by decide) (by decide) ⟨rfl, N0, e0⟩
abbrev c28C := prog_81_method_5_code
theorem d28_0 : decode c28C 0 = .ok (.lload_n 1, 1) := by decide +kernel
theorem pd_11 : parseMethodDescriptor "(J)Z" = some ⟨[.long], some .boolean⟩ := by decide +kernel
theorem d28_1 : decode c28C 1 = .ok (.invokestatic 56, 3) := by decide +kernel
theorem d28_4 : decode c28C 4 = .ok (.ifCond .ne 21, 3) := by decide +kernel
theorem d28_25 : decode c28C 25 = .ok (.return_, 1) := by decide +kernel
theorem ef_8 (m : MethodId) (x0 : Addr) (x1 : Int64) : entryFrame m #[(.ref x0), (.long x1)] 3 = mkF m 0 #[.val (.ref x0), .val (.long x1), .second] [] := by first | (simp [entryFrame, mkF, argsToLocals, Value.category]; done) | rfl
theorem rmPk (l : Launch) (Z : State) (a0 : Array Value) (hw : TW Z a0) (s_ : Addr) (x_ : Int64) (h0 : Heap) (n0 : Nat) (Z0 : n0 ≤ h0.size) (hp1 : ¬ x_ < (1 : Int64)) (hp2 : ¬ (1000000000000 : Int64) < x_) :
    Pays l Z (⟨"com/example/uncross/uncross/model/Prices", "check", "(Ljava/lang/String;J)V"⟩ : MethodName) prog_81_method_5_code 3 none [] ({ frames := 1, cells := 0, slots := 0, locals := 13 } : Room) #[(.ref s_), (.long x_)] h0 (fun v h L => v = none ∧ Fr n0 L ∧ h = h0) := by
  refine Pays.walk (plainFor_of_name pn_8) (fun m => ef_8 m s_ x_ ) ?_
  intro p e s m below meth c T0 X0 hx hby hml hown hnm hZ e0 hret hlk
  refine Goes.on (T' := T0) (g' := (mkF m 1 #[sR s_, sJ x_, s2] [(.long x_)])) (fun _ k => XS.lloadN X0.here hx rfl (hb hby d28_0) rfl k) ?_
  refine Goes.callS X0 hx hZ 0 hown (own_w hw 166 rfl) (own_w hw 167 rfl) (own_w hw 160 rfl) (own_w hw 168 rfl) (by decide) e0 (rmPr l Z a0 hw x_ h0 n0 Z0 hp1 hp2) (by decide) (by decide) (by decide) (by decide) rfl (by rw [hml]; rfl) (argsL := [(.long x_)]) (rest := []) rfl (lenOf pd_11 rfl) rfl (own_le20 rfl) (hb hby d28_1) ?_
  rintro v1 T1 L1 X1 ⟨rfl, N1q, e1⟩
  have N1 := Fr.app (Fr.nil n0) N1q
  show Goes p e below _ T1 (mkF m 4 #[sR s_, sJ x_, s2] [(.int 1)])
  refine Goes.on (T' := T1) (g' := (mkF m 25 #[sR s_, sJ x_, s2] [])) (fun _ k => XS.ifYes X1.here hx rfl (pc0 := 4) (pc' := 25) rfl (hb hby d28_4) rfl (XT.i0_ne_t (by decide)) (by decide) (by decide) k) ?_
  exact Goes.retV X1 hx hlk hret (hb hby d28_25) (by decide) (by decide) ⟨rfl, N1, e1⟩
abbrev c27C := prog_81_method_4_code
theorem d27_0 : decode c27C 0 = .ok (.ldc 9, 2) := by decide +kernel
theorem d27_2 : decode c27C 2 = .ok (.lload_n 0, 1) := by decide +kernel
theorem pd_12 : parseMethodDescriptor "(Ljava/lang/String;J)V" = some ⟨[(.object "java/lang/String"), .long], none⟩ := by decide +kernel
theorem d27_3 : decode c27C 3 = .ok (.invokestatic 67, 3) := by decide +kernel
theorem d27_6 : decode c27C 6 = .ok (.return_, 1) := by decide +kernel
theorem rmPj (l : Launch) (Z : State) (a0 : Array Value) (hw : TW Z a0) (x_ : Int64) (h0 : Heap) (n0 : Nat) (Z0 : n0 ≤ h0.size) (O0 : Old Z n0 h0) (cs : Int32) (SC : Sta Z Z.heap "java/lang/String" "COMPACT_STRINGS" "Z" (.int cs)) (hcs : ¬ cs = (0 : Int32)) (sf : Value) (SF : Sta Z Z.heap "jdk/internal/util/Preconditions" "SIOOBE_FORMATTER" "Ljava/util/function/BiFunction;" sf) (hsf : sf.isRef = true) (ic : Addr) (SI : Sta Z Z.heap "com/example/uncross/uncross/model/Order" "ID_CHARACTERS" "[Z" (.ref ic)) (icf : Nat → Int32) (IC : Arf Z Z.heap ic .boolean Value.int 128 icf) (hic97 : ¬ icf 97 = (0 : Int32)) (hic98 : ¬ icf 98 = (0 : Int32)) (hEL : EW Z a0 consts_1) (hp1 : ¬ x_ < (1 : Int64)) (hp2 : ¬ (1000000000000 : Int64) < x_) :
    PaysW l Z consts_1 (⟨"com/example/uncross/uncross/model/Prices", "check", "(J)V"⟩ : MethodName) prog_81_method_4_code 2 none [] ({ frames := 2, cells := 2, slots := 24, locals := 27 } : Room) #[(.long x_)] h0 (fun v h L => v = none ∧ Fr n0 L ∧ Keep h0 h []) := by
  refine PaysW.walk (plainFor_of_name pn_8) (fun m => ef_7 m x_ ) ?_
  intro p e s m below meth c T0 X0 hx hby hml hown hnm hZ e0 hret hlk hS0 RR0
  have hk0 : 0 ≤ h0.size := Nat.zero_le _
  have S0 : h0.size ≤ h0.size := Nat.le_refl _
  have wS := own_wS hw
  have K0 := Keep.refl h0 ([] : List Addr)
  obtain ⟨a1, T1, h1, k1, b1, kb1, X1, e1, E1, hS1, hk1, hZ1, hown1, A1, C1, V1, K1, lt1, lu1, R1, Lt1, sf1, st1⟩ := ldcCH X0 hx hZ hown (own_w hw 162 rfl) wS e0 hS0 hk0 hEL (List.mem_of_getElem? (i := 5) rfl) RR0.1 (vs := [Value.int 112, Value.int 114, Value.int 105, Value.int 99, Value.int 101]) (z := Int32.ofNat 5) ⟨by decide, by decide⟩ (by decide) (by decide) (g := (mkF m 0 #[sJ x_, s2] [])) rfl (hb hby d27_0) (n := 20) (by decide) (by decide) (by decide) (by decide)
  have Z3 := Nat.le_trans Z0 E1.1
  have K6 := K0.ext E1
  have RR1 := RR0.trans R1
  have Q1 : Str Z h1 a1 b1 kb1 (Int32.ofNat 5) [Value.int 112, Value.int 114, Value.int 105, Value.int 99, Value.int 101] := ⟨A1, C1, V1, K1⟩
  refine Goes.on (T' := T1) (g' := (mkF m 3 #[sJ x_, s2] [(.long x_), (.ref a1)])) (fun _ k => st1 _ (XS.lloadN X1.here hx rfl (hb hby d27_2) rfl k)) ?_
  refine Goes.callS X1 hx hZ1 0 hown1 (own_w hw 163 rfl) (own_w hw 164 rfl) (own_w hw 160 rfl) (own_w hw 165 rfl) (by decide) e1 (rmPk l Z a0 hw a1 x_ h1 n0 Z3 hp1 hp2) (by decide) (by decide) (by decide) (by decide) rfl (by rw [hml]; rfl) (argsL := [(.ref a1), (.long x_)]) (rest := []) rfl (lenOf pd_12 rfl) rfl (own_le20 rfl) (hb hby d27_3) ?_
  rintro v7 T7 L7 X7 ⟨rfl, N7q, e7⟩
  have N7 := Fr.app (Fr.nil n0) N7q
  show Goes p e below _ T7 (mkF m 6 #[sJ x_, s2] [])
  exact Goes.retVW X7 hS1 (by rw [e7]; exact hk1) hZ1 hEL (by rw [e7]; exact RR1) hx hlk hret (hb hby d27_6) (by decide) (by decide) (by rw [e7]; exact ⟨rfl, N7, K6⟩)
abbrev c21C := jdk_2650_method_6_code
theorem d21_0 : decode c21C 0 = .ok (.aload_n 0, 1) := by decide +kernel
theorem d21_1 : decode c21C 1 = .ok (.getfield 7, 3) := by decide +kernel
theorem d21_4 : decode c21C 4 = .ok (.ireturn, 1) := by decide +kernel
theorem pn_9 : plainName "java/util/OptionalLong" = true := by first | (simp [plainName, overriddenIn]; done) | decide +kernel
theorem rmIp0 (l : Launch) (Z : State) (a0 : Array Value) (hw : TW Z a0) (a_ : Addr) (h0 : Heap) (n0 : Nat) (Z0 : n0 ≤ h0.size) (p0 : Exa Z h0 a_ k11C) (p1 : Fld Z h0 a_ k11C "isPresent" "Z" (.int (0 : Int32))) :
    Pays l Z (⟨"java/util/OptionalLong", "isPresent", "()Z"⟩ : MethodName) jdk_2650_method_6_code 1 (some .boolean) [] ({ frames := 0, cells := 0, slots := 0, locals := 0 } : Room) #[(.ref a_)] h0 (fun v h L => v = some (.int (0 : Int32)) ∧ Fr n0 L ∧ h = h0) := by
  refine Pays.walk (plainFor_of_name pn_9) (fun m => ef_0 m a_ ) ?_
  intro p e s m below meth c T0 X0 hx hby hml hown hnm hZ e0 hret hlk
  have N0 := Fr.nil n0
  obtain ⟨T1, X1, e1, st1⟩ := getF X0 hx hZ hown (host := "") (Or.inl (own_w hw 113 rfl)) Via.refl e0 p1 (g := (mkF m 1 #[sR a_] [(.ref a_)])) rfl rfl (hb hby d21_1)
  refine Goes.on (T' := T1) (g' := (mkF m 4 #[sR a_] [(.int 0)])) (fun _ k => XS.aloadN X0.here hx rfl (hb hby d21_0) rfl rfl (st1 _ k)) ?_
  exact Goes.retB X1 hx hlk hret (Or.inl rfl) (hb hby d21_4) (by decide) (by decide) ⟨rfl, N0, e1⟩
abbrev c37C := jdk_2650_method_7_code
theorem d37_0 : decode c37C 0 = .ok (.aload_n 0, 1) := by decide +kernel
theorem d37_1 : decode c37C 1 = .ok (.getfield 7, 3) := by decide +kernel
theorem d37_4 : decode c37C 4 = .ok (.ifCond .ne 7, 3) := by decide +kernel
theorem d37_7 : decode c37C 7 = .ok (.iconst 1, 1) := by decide +kernel
theorem d37_8 : decode c37C 8 = .ok (.goto 4, 3) := by decide +kernel
theorem d37_12 : decode c37C 12 = .ok (.ireturn, 1) := by decide +kernel
theorem rmIe0 (l : Launch) (Z : State) (a0 : Array Value) (hw : TW Z a0) (a_ : Addr) (h0 : Heap) (n0 : Nat) (Z0 : n0 ≤ h0.size) (p0 : Exa Z h0 a_ k11C) (p1 : Fld Z h0 a_ k11C "isPresent" "Z" (.int (0 : Int32))) :
    Pays l Z (⟨"java/util/OptionalLong", "isEmpty", "()Z"⟩ : MethodName) jdk_2650_method_7_code 1 (some .boolean) [] ({ frames := 0, cells := 0, slots := 0, locals := 0 } : Room) #[(.ref a_)] h0 (fun v h L => v = some (.int (1 : Int32)) ∧ Fr n0 L ∧ h = h0) := by
  refine Pays.walk (plainFor_of_name pn_9) (fun m => ef_0 m a_ ) ?_
  intro p e s m below meth c T0 X0 hx hby hml hown hnm hZ e0 hret hlk
  have N0 := Fr.nil n0
  obtain ⟨T1, X1, e1, st1⟩ := getF X0 hx hZ hown (host := "") (Or.inl (own_w hw 113 rfl)) Via.refl e0 p1 (g := (mkF m 1 #[sR a_] [(.ref a_)])) rfl rfl (hb hby d37_1)
  refine Goes.on (T' := T1) (g' := (mkF m 12 #[sR a_] [(.int 1)])) (fun _ k => XS.aloadN X0.here hx rfl (hb hby d37_0) rfl rfl (st1 _ (XS.ifNo X1.here hx rfl (hb hby d37_4) rfl (XT.i0_ne_f (by decide)) (XS.iconst X1.here hx rfl (hb hby d37_7) (XS.goto X1.here hx rfl (pc0 := 8) (pc' := 12) rfl (hb hby d37_8) (by decide) (by decide) k))))) ?_
  exact Goes.retB X1 hx hlk hret (Or.inr rfl) (hb hby d37_12) (by decide) (by decide) ⟨rfl, N0, e1⟩
theorem rmIp1 (l : Launch) (Z : State) (a0 : Array Value) (hw : TW Z a0) (a_ : Addr) (h0 : Heap) (n0 : Nat) (Z0 : n0 ≤ h0.size) (p0 : Exa Z h0 a_ k11C) (p1 : Fld Z h0 a_ k11C "isPresent" "Z" (.int (1 : Int32))) :
    Pays l Z (⟨"java/util/OptionalLong", "isPresent", "()Z"⟩ : MethodName) jdk_2650_method_6_code 1 (some .boolean) [] ({ frames := 0, cells := 0, slots := 0, locals := 0 } : Room) #[(.ref a_)] h0 (fun v h L => v = some (.int (1 : Int32)) ∧ Fr n0 L ∧ h = h0) := by
  refine Pays.walk (plainFor_of_name pn_9) (fun m => ef_0 m a_ ) ?_
  intro p e s m below meth c T0 X0 hx hby hml hown hnm hZ e0 hret hlk
  have N0 := Fr.nil n0
  obtain ⟨T1, X1, e1, st1⟩ := getF X0 hx hZ hown (host := "") (Or.inl (own_w hw 113 rfl)) Via.refl e0 p1 (g := (mkF m 1 #[sR a_] [(.ref a_)])) rfl rfl (hb hby d21_1)
  refine Goes.on (T' := T1) (g' := (mkF m 4 #[sR a_] [(.int 1)])) (fun _ k => XS.aloadN X0.here hx rfl (hb hby d21_0) rfl rfl (st1 _ k)) ?_
  exact Goes.retB X1 hx hlk hret (Or.inr rfl) (hb hby d21_4) (by decide) (by decide) ⟨rfl, N0, e1⟩
theorem d37_11 : decode c37C 11 = .ok (.iconst 0, 1) := by decide +kernel
theorem rmIe1 (l : Launch) (Z : State) (a0 : Array Value) (hw : TW Z a0) (a_ : Addr) (h0 : Heap) (n0 : Nat) (Z0 : n0 ≤ h0.size) (p0 : Exa Z h0 a_ k11C) (p1 : Fld Z h0 a_ k11C "isPresent" "Z" (.int (1 : Int32))) :
    Pays l Z (⟨"java/util/OptionalLong", "isEmpty", "()Z"⟩ : MethodName) jdk_2650_method_7_code 1 (some .boolean) [] ({ frames := 0, cells := 0, slots := 0, locals := 0 } : Room) #[(.ref a_)] h0 (fun v h L => v = some (.int (0 : Int32)) ∧ Fr n0 L ∧ h = h0) := by
  refine Pays.walk (plainFor_of_name pn_9) (fun m => ef_0 m a_ ) ?_
  intro p e s m below meth c T0 X0 hx hby hml hown hnm hZ e0 hret hlk
  have N0 := Fr.nil n0
  obtain ⟨T1, X1, e1, st1⟩ := getF X0 hx hZ hown (host := "") (Or.inl (own_w hw 113 rfl)) Via.refl e0 p1 (g := (mkF m 1 #[sR a_] [(.ref a_)])) rfl rfl (hb hby d37_1)
  refine Goes.on (T' := T1) (g' := (mkF m 12 #[sR a_] [(.int 0)])) (fun _ k => XS.aloadN X0.here hx rfl (hb hby d37_0) rfl rfl (st1 _ (XS.ifYes X1.here hx rfl (pc0 := 4) (pc' := 11) rfl (hb hby d37_4) rfl (XT.i0_ne_t (by decide)) (by decide) (by decide) (XS.iconst X1.here hx rfl (hb hby d37_11) k)))) ?_
  exact Goes.retB X1 hx hlk hret (Or.inl rfl) (hb hby d37_12) (by decide) (by decide) ⟨rfl, N0, e1⟩
abbrev c26C := jdk_2650_method_5_code
theorem d26_0 : decode c26C 0 = .ok (.aload_n 0, 1) := by decide +kernel
theorem d26_1 : decode c26C 1 = .ok (.getfield 7, 3) := by decide +kernel
theorem d26_4 : decode c26C 4 = .ok (.ifCond .ne 13, 3) := by decide +kernel
theorem d26_17 : decode c26C 17 = .ok (.aload_n 0, 1) := by decide +kernel
theorem d26_18 : decode c26C 18 = .ok (.getfield 13, 3) := by decide +kernel
theorem d26_21 : decode c26C 21 = .ok (.lreturn, 1) := by decide +kernel
theorem rmGa (l : Launch) (Z : State) (a0 : Array Value) (hw : TW Z a0) (a_ : Addr) (x_ : Int64) (h0 : Heap) (n0 : Nat) (Z0 : n0 ≤ h0.size) (p0 : Exa Z h0 a_ k11C) (p1 : Fld Z h0 a_ k11C "isPresent" "Z" (.int (1 : Int32))) (p2 : Fld Z h0 a_ k11C "value" "J" (.long x_)) :
    Pays l Z (⟨"java/util/OptionalLong", "getAsLong", "()J"⟩ : MethodName) jdk_2650_method_5_code 1 (some .long) [] ({ frames := 0, cells := 0, slots := 0, locals := 0 } : Room) #[(.ref a_)] h0 (fun v h L => v = some (.long x_) ∧ Fr n0 L ∧ h = h0) := by
  refine Pays.walk (plainFor_of_name pn_9) (fun m => ef_0 m a_ ) ?_
  intro p e s m below meth c T0 X0 hx hby hml hown hnm hZ e0 hret hlk
  have N0 := Fr.nil n0
  obtain ⟨T1, X1, e1, st1⟩ := getF X0 hx hZ hown (host := "") (Or.inl (own_w hw 113 rfl)) Via.refl e0 p1 (g := (mkF m 1 #[sR a_] [(.ref a_)])) rfl rfl (hb hby d26_1)
  obtain ⟨T2, X2, e2, st2⟩ := getF X1 hx hZ hown (host := "") (Or.inl (own_w hw 151 rfl)) Via.refl e1 p2 (g := (mkF m 18 #[sR a_] [(.ref a_)])) rfl rfl (hb hby d26_18)
  refine Goes.on (T' := T2) (g' := (mkF m 21 #[sR a_] [(.long x_)])) (fun _ k => XS.aloadN X0.here hx rfl (hb hby d26_0) rfl rfl (st1 _ (XS.ifYes X1.here hx rfl (pc0 := 4) (pc' := 17) rfl (hb hby d26_4) rfl (XT.i0_ne_t (by decide)) (by decide) (by decide) (XS.aloadN X1.here hx rfl (hb hby d26_17) rfl rfl (st2 _ k))))) ?_
  exact Goes.retJ X2 hx hlk hret (hb hby d26_21) (by decide) (by decide) ⟨rfl, N0, e2⟩
abbrev c2C := jdk_2650_method_2_code
theorem d2_0 : decode c2C 0 = .ok (.getstatic 17, 3) := by decide +kernel
theorem d2_3 : decode c2C 3 = .ok (.areturn, 1) := by decide +kernel
theorem ef_9 (m : MethodId)  : entryFrame m #[] 0 = mkF m 0 #[] [] := by first | (simp [entryFrame, mkF, argsToLocals, Value.category]; done) | rfl
theorem rmOe (l : Launch) (Z : State) (a0 : Array Value) (hw : TW Z a0)  (h0 : Heap) (n0 : Nat) (Z0 : n0 ≤ h0.size) (O0 : Old Z n0 h0) (em : Addr) (SE : Sta Z Z.heap "java/util/OptionalLong" "EMPTY" "Ljava/util/OptionalLong;" (.ref em)) :
    Pays l Z (⟨"java/util/OptionalLong", "empty", "()Ljava/util/OptionalLong;"⟩ : MethodName) jdk_2650_method_2_code 0 (some (.object "java/util/OptionalLong")) [] ({ frames := 0, cells := 0, slots := 0, locals := 0 } : Room) #[] h0 (fun v h L => v = some (.ref em) ∧ Fr n0 L ∧ h = h0) := by
  refine Pays.walk (plainFor_of_name pn_9) (fun m => ef_9 m  ) ?_
  intro p e s m below meth c T0 X0 hx hby hml hown hnm hZ e0 hret hlk
  have N0 := Fr.nil n0
  obtain ⟨T1, X1, e1, st1⟩ := getS (host := "") X0 hx hZ hown (own_w hw 19 rfl) Via.refl e0 (Sta.ext O0.2 SE) (g := (mkF m 0 #[] [])) rfl (hb hby d2_0)
  refine Goes.on (T' := T1) (g' := (mkF m 3 #[] [(.ref em)])) (fun _ k => st1 _ k) ?_
  exact Goes.retA X1 hx hlk hret rfl rfl (hb hby d2_3) (by decide) (by decide) ⟨rfl, N0, e1⟩
abbrev c25C := jdk_2650_method_3_code
theorem d25_0 : decode c25C 0 = .ok (.aload_n 0, 1) := by decide +kernel
theorem d25_1 : decode c25C 1 = .ok (.invokespecial 1, 3) := by decide +kernel
theorem d25_4 : decode c25C 4 = .ok (.aload_n 0, 1) := by decide +kernel
theorem d25_5 : decode c25C 5 = .ok (.iconst 1, 1) := by decide +kernel
theorem d25_6 : decode c25C 6 = .ok (.putfield 7, 3) := by decide +kernel
theorem d25_9 : decode c25C 9 = .ok (.aload_n 0, 1) := by decide +kernel
theorem d25_10 : decode c25C 10 = .ok (.lload_n 1, 1) := by decide +kernel
theorem d25_11 : decode c25C 11 = .ok (.putfield 13, 3) := by decide +kernel
theorem d25_14 : decode c25C 14 = .ok (.return_, 1) := by decide +kernel
def sn0 {Z : State} {a0 : Array Value} (hw : TW Z a0) := slot_ne (Or.inr (own_w hw 152 rfl)) (Or.inr (own_w hw 114 rfl)) (by decide) (t := .long) (by decide) (t' := .boolean) (by decide)
def sn1 {Z : State} {a0 : Array Value} (hw : TW Z a0) := slot_ne (Or.inr (own_w hw 114 rfl)) (Or.inr (own_w hw 152 rfl)) (by decide) (t := .boolean) (by decide) (t' := .long) (by decide)
theorem rmOi (l : Launch) (Z : State) (a0 : Array Value) (hw : TW Z a0) (a : Addr) (x1 : Int64) (h0 : Heap) (n0 : Nat) (Z0 : n0 ≤ h0.size) (E0 : Exa Z h0 a "java/util/OptionalLong") (ga : n0 ≤ a) (F_isPresent : Fld Z h0 a "java/util/OptionalLong" "isPresent" "Z" (.int (0 : Int32))) (F_value : Fld Z h0 a "java/util/OptionalLong" "value" "J" (.long (0 : Int64))) :
    Pays l Z (⟨"java/util/OptionalLong", "<init>", "(J)V"⟩ : MethodName) jdk_2650_method_3_code 3 none [] ({ frames := 1, cells := 0, slots := 0, locals := 12 } : Room) #[(.ref a), (.long x1)] h0 (fun v h L => v = none ∧ Fr n0 L ∧ Keep h0 h [a] ∧ Exa Z h a "java/util/OptionalLong" ∧ Fld Z h a "java/util/OptionalLong" "isPresent" "Z" (.int (1 : Int32)) ∧ Fld Z h a "java/util/OptionalLong" "value" "J" (.long x1)) := by
  refine Pays.walk (plainFor_of_name pn_9) (fun m => ef_8 m a x1 ) ?_
  intro p e s m below meth c T0 X0 hx hby hml hown hnm hZ e0 hret hlk
  have dc := @Jvm.hb _ _ hby
  have ow := @own_w Z a0 hw
  have K0 := Keep.refl h0 [a]
  obtain ⟨T1, X1, e1, st1⟩ := initO X0 hx hZ hown (ow 150 rfl) (ow 35 rfl) (ow 36 rfl) e0 (g := (mkF m 1 #[sR a, sJ x1, s2] [(.ref a)])) rfl (by rw [hml]; rfl) rfl (dc d25_1) (by decide) (W := 0) (own_le20 rfl) (by decide)
  obtain ⟨T2, h2, X2, e2, W2, st2⟩ := putF X1 hx hZ hown (host := "") (Or.inl (ow 113 rfl)) Via.refl e1 F_isPresent E0 (Or.inr ⟨(ow 114 rfl), rfl, hnm⟩) (ow 145 rfl) (ty := .boolean) (by decide) rfl rfl (g := (mkF m 6 #[sR a, sJ x1, s2] [(.int 1), (.ref a)])) rfl rfl (dc d25_6)
  have C3 := E0.wr W2
  have C5 := F_value.other W2 (Or.inr (sn0 hw))
  have K7 := K0.wr W2 (Or.inl (List.mem_of_getElem? (i := 0) rfl))
  obtain ⟨T8, h8, X8, e8, W8, st8⟩ := putF X2 hx hZ hown (host := "") (Or.inl (ow 151 rfl)) Via.refl e2 C5 C3 (Or.inr ⟨(ow 152 rfl), rfl, hnm⟩) (ow 145 rfl) (ty := .long) (by decide) rfl rfl (g := (mkF m 11 #[sR a, sJ x1, s2] [(.long x1), (.ref a)])) rfl rfl (dc d25_11)
  have N8 := Fr.snoc X8 (Fr.snoc X2 (Fr.nil n0) ga) ga
  have C9 := C3.wr W8
  have C10 := (F_isPresent.same W2).other W8 (Or.inr (sn1 hw))
  have C11 := C5.same W8
  have K13 := K7.wr W8 (Or.inl (List.mem_of_getElem? (i := 0) rfl))
  refine Goes.on (T' := T8) (g' := (mkF m 14 #[sR a, sJ x1, s2] [])) (fun _ k => XS.aloadN X0.here hx rfl (dc d25_0) rfl rfl (st1 _ (XS.aloadN X1.here hx rfl (dc d25_4) rfl rfl (XS.iconst X1.here hx rfl (dc d25_5) (st2 _ (XS.aloadN X2.here hx rfl (dc d25_9) rfl rfl (XS.lloadN X2.here hx rfl (dc d25_10) rfl (st8 _ k)))))))) ?_
  exact Goes.retV X8 hx hlk hret (dc d25_14) (by decide) (by decide) (by rw [e8]; exact ⟨rfl, N8, K13, C9, C10, C11⟩)
abbrev c24C := jdk_2650_method_4_code
theorem d24_0 : decode c24C 0 = .ok (.new 8, 3) := by decide +kernel
theorem d24_3 : decode c24C 3 = .ok (.dup, 1) := by decide +kernel
theorem d24_4 : decode c24C 4 = .ok (.lload_n 0, 1) := by decide +kernel
theorem pd_13 : parseMethodDescriptor "(J)V" = some ⟨[.long], none⟩ := by decide +kernel
theorem d24_5 : decode c24C 5 = .ok (.invokespecial 21, 3) := by decide +kernel
theorem d24_8 : decode c24C 8 = .ok (.areturn, 1) := by decide +kernel
theorem rmOf (l : Launch) (Z : State) (a0 : Array Value) (hw : TW Z a0) (x_ : Int64) (h0 : Heap) (n0 : Nat) (Z0 : n0 ≤ h0.size) :
    Pays l Z (⟨"java/util/OptionalLong", "of", "(J)Ljava/util/OptionalLong;"⟩ : MethodName) jdk_2650_method_4_code 2 (some (.object "java/util/OptionalLong")) [] ({ frames := 2, cells := 1, slots := 2, locals := 27 } : Room) #[(.long x_)] h0 (fun v h L => ∃ (n0_ : Addr), v = some (.ref n0_) ∧ Fr n0 L ∧ Keep h0 h [] ∧ Exa Z h n0_ k11C ∧ Fld Z h n0_ k11C "isPresent" "Z" (.int (1 : Int32)) ∧ Fld Z h n0_ k11C "value" "J" (.long x_) ∧ h0.size ≤ n0_) := by
  refine Pays.walk (plainFor_of_name pn_9) (fun m => ef_7 m x_ ) ?_
  intro p e s m below meth c T0 X0 hx hby hml hown hnm hZ e0 hret hlk
  have ow := @own_w Z a0 hw
  have K0 := Keep.refl h0 ([] : List Addr)
  obtain ⟨T1, h1, X1, e1, E1, A1, D1, U1, st1⟩ := newO X0 hx hZ hown (ow 144 rfl) (ow 145 rfl) (ow 17 rfl) e0 (g := (mkF m 0 #[sJ x_, s2] [])) rfl (hb hby d24_0) (by decide) (by decide)
  obtain ⟨a1, g1⟩ : ∃ z, z = h0.size := ⟨_, rfl⟩
  rw [← g1] at A1 D1 U1 st1
  have M1 : h0.size ≤ a1 := Nat.le_trans K0.1 (Nat.le_of_eq g1.symm)
  have Z2 := Nat.le_trans Z0 E1.1
  have K3 := K0.ext E1
  have F4 : Fld Z h1 a1 "java/util/OptionalLong" "isPresent" "Z" (.int 0) := D1 (Or.inr (ow 114 rfl)) (ty := .boolean) (by decide)
  have F5 : Fld Z h1 a1 "java/util/OptionalLong" "value" "J" (.long 0) := D1 (Or.inr (ow 152 rfl)) (ty := .long) (by decide)
  have G1 : n0 ≤ a1 := Nat.le_trans Z0 (Nat.le_of_eq g1.symm)
  refine Goes.on (T' := T1) (g' := (mkF m 5 #[sJ x_, s2] [(.long x_), (.ref a1), (.ref a1)])) (fun _ k => st1 _ (XS.dup X1.here hx rfl (hb hby d24_3) rfl rfl (XS.lloadN X1.here hx rfl (hb hby d24_4) rfl k))) ?_
  refine Goes.callC X1 hx hZ 1 rfl hown (ow 146 rfl) (ow 147 rfl) (ow 17 rfl) (ow 149 rfl) (by decide) e1 (rmOi l Z a0 hw a1 x_ h1 n0 Z2 A1 G1 F4 F5) (by decide) (by decide) (by decide) (by decide) rfl (by rw [hml]; rfl) (a := a1) (argsL := [(.long x_)]) (rest := [(.ref a1)]) rfl (lenOf pd_13 rfl) rfl (own_le20 rfl) (hb hby d24_5) ?_
  rintro v6 T6 L6 X6 ⟨rfl, N6q, K6, A6, B6_isPresent, B6_value⟩
  have N6 := Fr.app (Fr.nil n0) N6q
  show Goes p e below _ T6 (mkF m 8 #[sJ x_, s2] [(.ref a1)])
  have K9 := K3.trans K6 (allS (Or.inr M1) all0)
  exact Goes.retA X6 hx hlk hret rfl rfl (hb hby d24_8) (by decide) (by decide) (by exact ⟨a1, rfl, N6, K9, A6, B6_isPresent, B6_value, M1⟩)
abbrev c17C := prog_70_method_5_code
theorem d17_0 : decode c17C 0 = .ok (.aload_n 2, 1) := by decide +kernel
theorem d17_1 : decode c17C 1 = .ok (.ldc 73, 2) := by decide +kernel
theorem d17_3 : decode c17C 3 = .ok (.invokestatic 9, 3) := by decide +kernel
theorem d17_6 : decode c17C 6 = .ok (.pop, 1) := by decide +kernel
theorem d17_7 : decode c17C 7 = .ok (.lload_n 0, 1) := by decide +kernel
theorem d17_8 : decode c17C 8 = .ok (.invokestatic 74, 3) := by decide +kernel
theorem d17_11 : decode c17C 11 = .ok (.aload_n 2, 1) := by decide +kernel
theorem d17_12 : decode c17C 12 = .ok (.invokevirtual 80, 3) := by decide +kernel
theorem d17_15 : decode c17C 15 = .ok (.ifCond .eq 10, 3) := by decide +kernel
theorem d17_25 : decode c17C 25 = .ok (.return_, 1) := by decide +kernel
theorem ef_10 (m : MethodId) (x0 : Int64) (x1 : Addr) : entryFrame m #[(.long x0), (.ref x1)] 3 = mkF m 0 #[.val (.long x0), .second, .val (.ref x1)] [] := by first | (simp [entryFrame, mkF, argsToLocals, Value.category]; done) | rfl
theorem rmTeM (l : Launch) (Z : State) (a0 : Array Value) (hw : TW Z a0) (a_ : Addr) (h0 : Heap) (n0 : Nat) (Z0 : n0 ≤ h0.size) (O0 : Old Z n0 h0) (cs : Int32) (SC : Sta Z Z.heap "java/lang/String" "COMPACT_STRINGS" "Z" (.int cs)) (hcs : ¬ cs = (0 : Int32)) (sf : Value) (SF : Sta Z Z.heap "jdk/internal/util/Preconditions" "SIOOBE_FORMATTER" "Ljava/util/function/BiFunction;" sf) (hsf : sf.isRef = true) (ic : Addr) (SI : Sta Z Z.heap "com/example/uncross/uncross/model/Order" "ID_CHARACTERS" "[Z" (.ref ic)) (icf : Nat → Int32) (IC : Arf Z Z.heap ic .boolean Value.int 128 icf) (hic97 : ¬ icf 97 = (0 : Int32)) (hic98 : ¬ icf 98 = (0 : Int32)) (hEL : EW Z a0 consts_1) (p0 : Exa Z h0 a_ k11C) (p1 : Fld Z h0 a_ k11C "isPresent" "Z" (.int (0 : Int32))) :
    PaysW l Z consts_1 (⟨"com/example/uncross/uncross/model/Order", "checkTerms", "(JLjava/util/OptionalLong;)V"⟩ : MethodName) prog_70_method_5_code 3 none [] ({ frames := 3, cells := 4, slots := 48, locals := 43 } : Room) #[(.long (1 : Int64)), (.ref a_)] h0 (fun v h L => v = none ∧ Fr n0 L ∧ Keep h0 h []) := by
  refine PaysW.walk (plainFor_of_name pn_6) (fun m => ef_10 m (1 : Int64) a_ ) ?_
  intro p e s m below meth c T0 X0 hx hby hml hown hnm hZ e0 hret hlk hS0 RR0
  have dc := @Jvm.hb _ _ hby
  have ow := @own_w Z a0 hw
  have hk0 : 0 ≤ h0.size := Nat.zero_le _
  have S0 : h0.size ≤ h0.size := Nat.le_refl _
  have wS := own_wS hw
  have K0 := Keep.refl h0 ([] : List Addr)
  obtain ⟨a1, T1, h1, k1, b1, kb1, X1, e1, E1, hS1, hk1, hZ1, hown1, A1, C1, V1, K1, lt1, lu1, R1, Lt1, sf1, st1⟩ := ldcCH X0 hx hZ hown (ow 96 rfl) wS e0 hS0 hk0 hEL (List.mem_of_getElem? (i := 4) rfl) RR0.1 (vs := [Value.int 108, Value.int 105, Value.int 109, Value.int 105, Value.int 116]) (z := Int32.ofNat 5) ⟨by decide, by decide⟩ (by decide) (by decide) (g := (mkF m 1 #[sJ 1, s2, sR a_] [(.ref a_)])) rfl (dc d17_1) (n := 20) (by decide) (by decide) (by decide) (by decide)
  have C2 := p0.ext E1
  have C3 := p1.ext E1
  have Z5 := Nat.le_trans Z0 E1.1
  have K8 := K0.ext E1
  have RR1 := RR0.trans R1
  have Q1 : Str Z h1 a1 b1 kb1 (Int32.ofNat 5) [Value.int 108, Value.int 105, Value.int 109, Value.int 105, Value.int 116] := ⟨A1, C1, V1, K1⟩
  refine Goes.on (T' := T1) (g' := (mkF m 3 #[sJ 1, s2, sR a_] [(.ref a1), (.ref a_)])) (fun _ k => XS.aloadN X0.here hx rfl (dc d17_0) rfl rfl (st1 _ k)) ?_
  refine Goes.callS X1 hx hZ1 0 hown1 (ow 38 rfl) (ow 39 rfl) (ow 40 rfl) (ow 41 rfl) (by decide) e1 (rmQ l Z a0 hw a_ a1 h1 n0 Z5) (by decide) (by decide) (by decide) (by decide) rfl (by rw [hml]; rfl) (argsL := [(.ref a_), (.ref a1)]) (rest := []) rfl (lenOf pd_7 rfl) rfl (own_le20 rfl) (dc d17_3) ?_
  rintro v9 T9 L9 X9 ⟨rfl, N9q, e9⟩
  show Goes p e below _ T9 (mkF m 6 #[sJ 1, s2, sR a_] [(.ref a_)])
  refine Goes.on (T' := T9) (g' := (mkF m 8 #[sJ 1, s2, sR a_] [(.long 1)])) (fun _ k => XS.pop X9.here hx rfl (dc d17_6) rfl rfl (XS.lloadN X9.here hx rfl (dc d17_7) rfl k)) ?_
  refine Goes.callS X9 hx hZ1 0 hown1 (ow 97 rfl) (ow 98 rfl) (ow 99 rfl) (ow 100 rfl) (by decide) e9 (rmQk l Z a0 hw h1 n0 Z5) (by decide) (by decide) (by decide) (by decide) rfl (by rw [hml]; rfl) (argsL := [(.long 1)]) (rest := []) rfl (lenOf pd_13 rfl) rfl (own_le20 rfl) (dc d17_8) ?_
  rintro v10 T10 L10 X10 ⟨rfl, N10q, e10⟩
  show Goes p e below _ T10 (mkF m 11 #[sJ 1, s2, sR a_] [])
  refine Goes.on (T' := T10) (g' := (mkF m 12 #[sJ 1, s2, sR a_] [(.ref a_)])) (fun _ k => XS.aloadN X10.here hx rfl (dc d17_11) rfl rfl k) ?_
  refine Goes.callV X10 hx hZ1 0 hown1 (ow 108 rfl) (ow 109 rfl) (notFace_of_selects (args := #[]) (mvT hZ1 (ow 111 rfl))) (ow 111 rfl) (ow 110 rfl) (ow 17 rfl) (ow 112 rfl) (by decide) e10 C2 (rmIp0 l Z a0 hw a_ h1 n0 Z5  C2 C3 ) (by decide) (by decide) (by decide) (by decide) rfl (by rw [hml]; rfl) (argsL := []) (rest := []) rfl (lenOf pd_3 rfl) rfl (own_le20 rfl) (dc d17_12) ?_
  rintro v11 T11 L11 X11 ⟨rfl, N11q, e11⟩
  have N11 := Fr.app (Fr.app (Fr.app (Fr.nil n0) N9q) N10q) N11q
  show Goes p e below _ T11 (mkF m 15 #[sJ 1, s2, sR a_] [(.int 0)])
  refine Goes.on (T' := T11) (g' := (mkF m 25 #[sJ 1, s2, sR a_] [])) (fun _ k => XS.ifYes X11.here hx rfl (pc0 := 15) (pc' := 25) rfl (dc d17_15) rfl (XT.i0_eq_t (by decide)) (by decide) (by decide) k) ?_
  exact Goes.retVW X11 hS1 (by rw [e11]; exact hk1) hZ1 hEL (by rw [e11]; exact RR1) hx hlk hret (dc d17_25) (by decide) (by decide) (by rw [e11]; exact ⟨rfl, N11, K8⟩)
theorem d17_18 : decode c17C 18 = .ok (.aload_n 2, 1) := by decide +kernel
theorem pd_14 : parseMethodDescriptor "()J" = some ⟨[], some .long⟩ := by decide +kernel
theorem d17_19 : decode c17C 19 = .ok (.invokevirtual 49, 3) := by decide +kernel
theorem d17_22 : decode c17C 22 = .ok (.invokestatic 83, 3) := by decide +kernel
theorem rmTeL (l : Launch) (Z : State) (a0 : Array Value) (hw : TW Z a0) (a_ : Addr) (x_ : Int64) (h0 : Heap) (n0 : Nat) (Z0 : n0 ≤ h0.size) (O0 : Old Z n0 h0) (cs : Int32) (SC : Sta Z Z.heap "java/lang/String" "COMPACT_STRINGS" "Z" (.int cs)) (hcs : ¬ cs = (0 : Int32)) (sf : Value) (SF : Sta Z Z.heap "jdk/internal/util/Preconditions" "SIOOBE_FORMATTER" "Ljava/util/function/BiFunction;" sf) (hsf : sf.isRef = true) (ic : Addr) (SI : Sta Z Z.heap "com/example/uncross/uncross/model/Order" "ID_CHARACTERS" "[Z" (.ref ic)) (icf : Nat → Int32) (IC : Arf Z Z.heap ic .boolean Value.int 128 icf) (hic97 : ¬ icf 97 = (0 : Int32)) (hic98 : ¬ icf 98 = (0 : Int32)) (hEL : EW Z a0 consts_1) (p0 : Exa Z h0 a_ k11C) (p1 : Fld Z h0 a_ k11C "isPresent" "Z" (.int (1 : Int32))) (p2 : Fld Z h0 a_ k11C "value" "J" (.long x_)) (hp1 : ¬ x_ < (1 : Int64)) (hp2 : ¬ (1000000000000 : Int64) < x_) :
    PaysW l Z consts_1 (⟨"com/example/uncross/uncross/model/Order", "checkTerms", "(JLjava/util/OptionalLong;)V"⟩ : MethodName) prog_70_method_5_code 3 none [] ({ frames := 3, cells := 4, slots := 48, locals := 43 } : Room) #[(.long (1 : Int64)), (.ref a_)] h0 (fun v h L => v = none ∧ Fr n0 L ∧ Keep h0 h []) := by
  refine PaysW.walk (plainFor_of_name pn_6) (fun m => ef_10 m (1 : Int64) a_ ) ?_
  intro p e s m below meth c T0 X0 hx hby hml hown hnm hZ e0 hret hlk hS0 RR0
  have dc := @Jvm.hb _ _ hby
  have ow := @own_w Z a0 hw
  have hk0 : 0 ≤ h0.size := Nat.zero_le _
  have S0 : h0.size ≤ h0.size := Nat.le_refl _
  have wS := own_wS hw
  have K0 := Keep.refl h0 ([] : List Addr)
  obtain ⟨a1, T1, h1, k1, b1, kb1, X1, e1, E1, hS1, hk1, hZ1, hown1, A1, C1, V1, K1, lt1, lu1, R1, Lt1, sf1, st1⟩ := ldcCH X0 hx hZ hown (ow 96 rfl) wS e0 hS0 hk0 hEL (List.mem_of_getElem? (i := 4) rfl) RR0.1 (vs := [Value.int 108, Value.int 105, Value.int 109, Value.int 105, Value.int 116]) (z := Int32.ofNat 5) ⟨by decide, by decide⟩ (by decide) (by decide) (g := (mkF m 1 #[sJ 1, s2, sR a_] [(.ref a_)])) rfl (dc d17_1) (n := 20) (by decide) (by decide) (by decide) (by decide)
  have C2 := p0.ext E1
  have C3 := p1.ext E1
  have C4 := p2.ext E1
  have C5 := O0.ext E1
  have Z6 := Nat.le_trans Z0 E1.1
  have K9 := K0.ext E1
  have RR1 := RR0.trans R1
  have Q1 : Str Z h1 a1 b1 kb1 (Int32.ofNat 5) [Value.int 108, Value.int 105, Value.int 109, Value.int 105, Value.int 116] := ⟨A1, C1, V1, K1⟩
  refine Goes.on (T' := T1) (g' := (mkF m 3 #[sJ 1, s2, sR a_] [(.ref a1), (.ref a_)])) (fun _ k => XS.aloadN X0.here hx rfl (dc d17_0) rfl rfl (st1 _ k)) ?_
  refine Goes.callS X1 hx hZ1 0 hown1 (ow 38 rfl) (ow 39 rfl) (ow 40 rfl) (ow 41 rfl) (by decide) e1 (rmQ l Z a0 hw a_ a1 h1 n0 Z6) (by decide) (by decide) (by decide) (by decide) rfl (by rw [hml]; rfl) (argsL := [(.ref a_), (.ref a1)]) (rest := []) rfl (lenOf pd_7 rfl) rfl (own_le20 rfl) (dc d17_3) ?_
  rintro v10 T10 L10 X10 ⟨rfl, N10q, e10⟩
  show Goes p e below _ T10 (mkF m 6 #[sJ 1, s2, sR a_] [(.ref a_)])
  refine Goes.on (T' := T10) (g' := (mkF m 8 #[sJ 1, s2, sR a_] [(.long 1)])) (fun _ k => XS.pop X10.here hx rfl (dc d17_6) rfl rfl (XS.lloadN X10.here hx rfl (dc d17_7) rfl k)) ?_
  refine Goes.callS X10 hx hZ1 0 hown1 (ow 97 rfl) (ow 98 rfl) (ow 99 rfl) (ow 100 rfl) (by decide) e10 (rmQk l Z a0 hw h1 n0 Z6) (by decide) (by decide) (by decide) (by decide) rfl (by rw [hml]; rfl) (argsL := [(.long 1)]) (rest := []) rfl (lenOf pd_13 rfl) rfl (own_le20 rfl) (dc d17_8) ?_
  rintro v11 T11 L11 X11 ⟨rfl, N11q, e11⟩
  show Goes p e below _ T11 (mkF m 11 #[sJ 1, s2, sR a_] [])
  refine Goes.on (T' := T11) (g' := (mkF m 12 #[sJ 1, s2, sR a_] [(.ref a_)])) (fun _ k => XS.aloadN X11.here hx rfl (dc d17_11) rfl rfl k) ?_
  refine Goes.callV X11 hx hZ1 0 hown1 (ow 108 rfl) (ow 109 rfl) (notFace_of_selects (args := #[]) (mvT hZ1 (ow 111 rfl))) (ow 111 rfl) (ow 110 rfl) (ow 17 rfl) (ow 112 rfl) (by decide) e11 C2 (rmIp1 l Z a0 hw a_ h1 n0 Z6  C2 C3 ) (by decide) (by decide) (by decide) (by decide) rfl (by rw [hml]; rfl) (argsL := []) (rest := []) rfl (lenOf pd_3 rfl) rfl (own_le20 rfl) (dc d17_12) ?_
  rintro v12 T12 L12 X12 ⟨rfl, N12q, e12⟩
  show Goes p e below _ T12 (mkF m 15 #[sJ 1, s2, sR a_] [(.int 1)])
  refine Goes.on (T' := T12) (g' := (mkF m 19 #[sJ 1, s2, sR a_] [(.ref a_)])) (fun _ k => XS.ifNo X12.here hx rfl (dc d17_15) rfl (XT.i0_eq_f (by decide)) (XS.aloadN X12.here hx rfl (dc d17_18) rfl rfl k)) ?_
  refine Goes.callV X12 hx hZ1 0 hown1 (ow 153 rfl) (ow 154 rfl) (notFace_of_selects (args := #[]) (mvT hZ1 (ow 156 rfl))) (ow 156 rfl) (ow 155 rfl) (ow 17 rfl) (ow 157 rfl) (by decide) e12 C2 (rmGa l Z a0 hw a_ x_ h1 n0 Z6  C2 C3 C4 ) (by decide) (by decide) (by decide) (by decide) rfl (by rw [hml]; rfl) (argsL := []) (rest := []) rfl (lenOf pd_14 rfl) rfl (own_le20 rfl) (dc d17_19) ?_
  rintro v13 T13 L13 X13 ⟨rfl, N13q, e13⟩
  show Goes p e below _ T13 (mkF m 22 #[sJ 1, s2, sR a_] [(.long x_)])
  refine Goes.callSW X13 hx hZ1 hS1 hk1 hEL RR1.1 0 hown1 (ow 158 rfl) (ow 159 rfl) (ow 160 rfl) (ow 161 rfl) (by decide) e13 (rmPj l Z a0 hw x_ h1 n0 Z6 C5 cs SC hcs sf SF hsf ic SI icf IC hic97 hic98 hEL  hp1 hp2) (by decide) (by decide) (by decide) (by decide) rfl (by rw [hml]; rfl) (argsL := [(.long x_)]) (rest := []) rfl (lenOf pd_13 rfl) rfl (own_le20 rfl) (dc d17_22) ?_
  intro v14 T14 L14 k14 X14 hS14 hk14 hZ14 hown14 R14 hQ14
  obtain ⟨rfl, N14q, K14⟩ := hQ14
  have N14 := Fr.app (Fr.app (Fr.app (Fr.app (Fr.app (Fr.nil n0) N10q) N11q) N12q) N13q) N14q
  show Goes p e below _ T14 (mkF m 25 #[sJ 1, s2, sR a_] [])
  have RR14 := RR1.trans R14
  have K23 := K9.trans K14 all0
  exact Goes.retVW X14 hS14 (by exact hk14) hZ14 hEL (by exact RR14) hx hlk hret (dc d17_25) (by decide) (by decide) (by exact ⟨rfl, N14, K23⟩)
abbrev c3C := prog_70_method_1_code
theorem d3_0 : decode c3C 0 = .ok (.aload_n 0, 1) := by decide +kernel
theorem pd_15 : parseMethodDescriptor "()V" = some ⟨[], none⟩ := by decide +kernel
theorem d3_1 : decode c3C 1 = .ok (.invokespecial 1, 3) := by decide +kernel
theorem d3_4 : decode c3C 4 = .ok (.aload_n 2, 1) := by decide +kernel
theorem d3_5 : decode c3C 5 = .ok (.ldc 7, 2) := by decide +kernel
theorem d3_7 : decode c3C 7 = .ok (.invokestatic 9, 3) := by decide +kernel
theorem d3_10 : decode c3C 10 = .ok (.pop, 1) := by decide +kernel
theorem d3_11 : decode c3C 11 = .ok (.aload_n 1, 1) := by decide +kernel
theorem pd_16 : parseMethodDescriptor "(Ljava/lang/String;)V" = some ⟨[(.object "java/lang/String")], none⟩ := by decide +kernel
theorem d3_12 : decode c3C 12 = .ok (.invokestatic 15, 3) := by decide +kernel
theorem d3_15 : decode c3C 15 = .ok (.lload_n 3, 1) := by decide +kernel
theorem d3_16 : decode c3C 16 = .ok (.aload 5, 2) := by decide +kernel
theorem pd_17 : parseMethodDescriptor "(JLjava/util/OptionalLong;)V" = some ⟨[.long, (.object "java/util/OptionalLong")], none⟩ := by decide +kernel
theorem d3_18 : decode c3C 18 = .ok (.invokestatic 21, 3) := by decide +kernel
theorem d3_21 : decode c3C 21 = .ok (.aload_n 0, 1) := by decide +kernel
theorem d3_22 : decode c3C 22 = .ok (.aload_n 1, 1) := by decide +kernel
theorem d3_23 : decode c3C 23 = .ok (.putfield 25, 3) := by decide +kernel
theorem d3_26 : decode c3C 26 = .ok (.aload_n 0, 1) := by decide +kernel
theorem d3_27 : decode c3C 27 = .ok (.aload_n 2, 1) := by decide +kernel
theorem d3_28 : decode c3C 28 = .ok (.putfield 29, 3) := by decide +kernel
theorem d3_31 : decode c3C 31 = .ok (.aload_n 0, 1) := by decide +kernel
theorem d3_32 : decode c3C 32 = .ok (.lload_n 3, 1) := by decide +kernel
theorem d3_33 : decode c3C 33 = .ok (.putfield 32, 3) := by decide +kernel
theorem d3_36 : decode c3C 36 = .ok (.aload_n 0, 1) := by decide +kernel
theorem d3_37 : decode c3C 37 = .ok (.aload 5, 2) := by decide +kernel
theorem d3_39 : decode c3C 39 = .ok (.putfield 36, 3) := by decide +kernel
theorem d3_42 : decode c3C 42 = .ok (.return_, 1) := by decide +kernel
theorem ef_11 (m : MethodId) (x0 : Addr) (x1 : Addr) (x2 : Addr) (x3 : Int64) (x4 : Addr) : entryFrame m #[(.ref x0), (.ref x1), (.ref x2), (.long x3), (.ref x4)] 6 = mkF m 0 #[.val (.ref x0), .val (.ref x1), .val (.ref x2), .val (.long x3), .second, .val (.ref x4)] [] := by first | (simp [entryFrame, mkF, argsToLocals, Value.category]; done) | rfl
def sn2 {Z : State} {a0 : Array Value} (hw : TW Z a0) := slot_ne (Or.inr (own_w hw 118 rfl)) (Or.inr (own_w hw 116 rfl)) (by decide) (t := (.object "com/example/uncross/uncross/model/Side")) (by decide) (t' := (.object "java/lang/String")) (by decide)
def sn3 {Z : State} {a0 : Array Value} (hw : TW Z a0) := slot_ne (Or.inr (own_w hw 120 rfl)) (Or.inr (own_w hw 116 rfl)) (by decide) (t := .long) (by decide) (t' := (.object "java/lang/String")) (by decide)
def sn4 {Z : State} {a0 : Array Value} (hw : TW Z a0) := slot_ne (Or.inr (own_w hw 122 rfl)) (Or.inr (own_w hw 116 rfl)) (by decide) (t := (.object "java/util/OptionalLong")) (by decide) (t' := (.object "java/lang/String")) (by decide)
def sn5 {Z : State} {a0 : Array Value} (hw : TW Z a0) := slot_ne (Or.inr (own_w hw 116 rfl)) (Or.inr (own_w hw 118 rfl)) (by decide) (t := (.object "java/lang/String")) (by decide) (t' := (.object "com/example/uncross/uncross/model/Side")) (by decide)
def sn6 {Z : State} {a0 : Array Value} (hw : TW Z a0) := slot_ne (Or.inr (own_w hw 120 rfl)) (Or.inr (own_w hw 118 rfl)) (by decide) (t := .long) (by decide) (t' := (.object "com/example/uncross/uncross/model/Side")) (by decide)
def sn7 {Z : State} {a0 : Array Value} (hw : TW Z a0) := slot_ne (Or.inr (own_w hw 122 rfl)) (Or.inr (own_w hw 118 rfl)) (by decide) (t := (.object "java/util/OptionalLong")) (by decide) (t' := (.object "com/example/uncross/uncross/model/Side")) (by decide)
def sn8 {Z : State} {a0 : Array Value} (hw : TW Z a0) := slot_ne (Or.inr (own_w hw 116 rfl)) (Or.inr (own_w hw 120 rfl)) (by decide) (t := (.object "java/lang/String")) (by decide) (t' := .long) (by decide)
def sn9 {Z : State} {a0 : Array Value} (hw : TW Z a0) := slot_ne (Or.inr (own_w hw 118 rfl)) (Or.inr (own_w hw 120 rfl)) (by decide) (t := (.object "com/example/uncross/uncross/model/Side")) (by decide) (t' := .long) (by decide)
def sn10 {Z : State} {a0 : Array Value} (hw : TW Z a0) := slot_ne (Or.inr (own_w hw 122 rfl)) (Or.inr (own_w hw 120 rfl)) (by decide) (t := (.object "java/util/OptionalLong")) (by decide) (t' := .long) (by decide)
def sn11 {Z : State} {a0 : Array Value} (hw : TW Z a0) := slot_ne (Or.inr (own_w hw 116 rfl)) (Or.inr (own_w hw 122 rfl)) (by decide) (t := (.object "java/lang/String")) (by decide) (t' := (.object "java/util/OptionalLong")) (by decide)
def sn12 {Z : State} {a0 : Array Value} (hw : TW Z a0) := slot_ne (Or.inr (own_w hw 118 rfl)) (Or.inr (own_w hw 122 rfl)) (by decide) (t := (.object "com/example/uncross/uncross/model/Side")) (by decide) (t' := (.object "java/util/OptionalLong")) (by decide)
def sn13 {Z : State} {a0 : Array Value} (hw : TW Z a0) := slot_ne (Or.inr (own_w hw 120 rfl)) (Or.inr (own_w hw 122 rfl)) (by decide) (t := .long) (by decide) (t' := (.object "java/util/OptionalLong")) (by decide)
theorem rmOrM (l : Launch) (Z : State) (a0 : Array Value) (hw : TW Z a0) (o_ id_ sd_ a_ y_ : Addr) (k_ : ClassId) (u_ : Int32) (h0 : Heap) (n0 : Nat) (Z0 : n0 ≤ h0.size) (O0 : Old Z n0 h0) (cs : Int32) (SC : Sta Z Z.heap "java/lang/String" "COMPACT_STRINGS" "Z" (.int cs)) (hcs : ¬ cs = (0 : Int32)) (sf : Value) (SF : Sta Z Z.heap "jdk/internal/util/Preconditions" "SIOOBE_FORMATTER" "Ljava/util/function/BiFunction;" sf) (hsf : sf.isRef = true) (ic : Addr) (SI : Sta Z Z.heap "com/example/uncross/uncross/model/Order" "ID_CHARACTERS" "[Z" (.ref ic)) (icf : Nat → Int32) (IC : Arf Z Z.heap ic .boolean Value.int 128 icf) (hic97 : ¬ icf 97 = (0 : Int32)) (hic98 : ¬ icf 98 = (0 : Int32)) (hEL : EW Z a0 consts_1) (p0 : Exa Z h0 o_ k3C) (p1 : Fld Z h0 o_ k3C "id" "Ljava/lang/String;" .null) (p2 : Fld Z h0 o_ k3C "side" k10C .null) (p3 : Fld Z h0 o_ k3C "quantity" "J" (.long (0 : Int64))) (p4 : Fld Z h0 o_ k3C "limit" k8C .null) (p5 : Str Z h0 id_ y_ k_ (Int32.ofNat 1) [Value.int u_]) (p6 : Exa Z h0 a_ k11C) (p7 : Fld Z h0 a_ k11C "isPresent" "Z" (.int (0 : Int32))) (q0 : a_ ≠ o_) (g0 : n0 ≤ o_) (hu : u_ = (97 : Int32) ∨ u_ = (98 : Int32)) :
    PaysW l Z consts_1 (⟨"com/example/uncross/uncross/model/Order", "<init>", "(Ljava/lang/String;Lcom/example/uncross/uncross/model/Side;JLjava/util/OptionalLong;)V"⟩ : MethodName) prog_70_method_1_code 6 none [] ({ frames := 6, cells := 8, slots := 100, locals := 80 } : Room) #[(.ref o_), (.ref id_), (.ref sd_), (.long (1 : Int64)), (.ref a_)] h0 (fun v h L => v = none ∧ Fr n0 L ∧ Keep h0 h [o_] ∧ Exa Z h o_ k3C ∧ Fld Z h o_ k3C "id" "Ljava/lang/String;" (.ref id_) ∧ Fld Z h o_ k3C "side" k10C (.ref sd_) ∧ Fld Z h o_ k3C "quantity" "J" (.long (1 : Int64)) ∧ Fld Z h o_ k3C "limit" k8C (.ref a_)) := by
  refine PaysW.walk (plainFor_of_name pn_6) (fun m => ef_11 m o_ id_ sd_ (1 : Int64) a_ ) ?_
  intro p e s m below meth c T0 X0 hx hby hml hown hnm hZ e0 hret hlk hS0 RR0
  have dc := @Jvm.hb _ _ hby
  have ow := @own_w Z a0 hw
  have hk0 : 0 ≤ h0.size := Nat.zero_le _
  have S0 : h0.size ≤ h0.size := Nat.le_refl _
  have wS := own_wS hw
  have K0 := Keep.refl h0 ([o_] : List Addr)
  refine Goes.on (T' := T0) (g' := (mkF m 1 #[sR o_, sR id_, sR sd_, sJ 1, s2, sR a_] [(.ref o_)])) (fun _ k => XS.aloadN X0.here hx rfl (dc d3_0) rfl rfl k) ?_
  refine Goes.callC X0 hx hZ 0 rfl hown (ow 29 rfl) (ow 30 rfl) (ow 32 rfl) (ow 33 rfl) (by decide) e0 (rmRec l Z a0 hw o_ h0 n0 Z0) (by decide) (by decide) (by decide) (by decide) rfl (by rw [hml]; rfl) (a := o_) (argsL := []) (rest := []) rfl (lenOf pd_15 rfl) rfl (own_le20 rfl) (dc d3_1) ?_
  rintro v1 T1 L1 X1 ⟨rfl, N1q, e1⟩
  show Goes p e below _ T1 (mkF m 4 #[sR o_, sR id_, sR sd_, sJ 1, s2, sR a_] [])
  obtain ⟨a2, T2, h2, k2, b2, kb2, X2, e2, E2, hS2, hk2, hZ2, hown2, A2, C2, V2, K2, lt2, lu2, R2, Lt2, sf2, st2⟩ := ldcCH X1 hx hZ hown (ow 37 rfl) wS e1 hS0 hk0 hEL (List.mem_of_getElem? (i := 2) rfl) RR0.1 (vs := [Value.int 115, Value.int 105, Value.int 100, Value.int 101]) (z := Int32.ofNat 4) ⟨by decide, by decide⟩ (by decide) (by decide) (g := (mkF m 5 #[sR o_, sR id_, sR sd_, sJ 1, s2, sR a_] [(.ref sd_)])) rfl (dc d3_5) (n := 16) (by decide) (by decide) (by decide) (by decide)
  have C8 := p5.ext E2
  have C11 := O0.ext E2
  have Z12 := Nat.le_trans Z0 E2.1
  have K15 := K0.ext E2
  have RR2 := RR0.trans R2
  have Q2 : Str Z h2 a2 b2 kb2 (Int32.ofNat 4) [Value.int 115, Value.int 105, Value.int 100, Value.int 101] := ⟨A2, C2, V2, K2⟩
  refine Goes.on (T' := T2) (g' := (mkF m 7 #[sR o_, sR id_, sR sd_, sJ 1, s2, sR a_] [(.ref a2), (.ref sd_)])) (fun _ k => XS.aloadN X1.here hx rfl (dc d3_4) rfl rfl (st2 _ k)) ?_
  refine Goes.callS X2 hx hZ2 0 hown2 (ow 38 rfl) (ow 39 rfl) (ow 40 rfl) (ow 41 rfl) (by decide) e2 (rmQ l Z a0 hw sd_ a2 h2 n0 Z12) (by decide) (by decide) (by decide) (by decide) rfl (by rw [hml]; rfl) (argsL := [(.ref sd_), (.ref a2)]) (rest := []) rfl (lenOf pd_7 rfl) rfl (own_le20 rfl) (dc d3_7) ?_
  rintro v16 T16 L16 X16 ⟨rfl, N16q, e16⟩
  show Goes p e below _ T16 (mkF m 10 #[sR o_, sR id_, sR sd_, sJ 1, s2, sR a_] [(.ref sd_)])
  refine Goes.on (T' := T16) (g' := (mkF m 12 #[sR o_, sR id_, sR sd_, sJ 1, s2, sR a_] [(.ref id_)])) (fun _ k => XS.pop X16.here hx rfl (dc d3_10) rfl rfl (XS.aloadN X16.here hx rfl (dc d3_11) rfl rfl k)) ?_
  refine Goes.callSW X16 hx hZ2 hS2 hk2 hEL RR2.1 0 hown2 (ow 42 rfl) (ow 43 rfl) (ow 25 rfl) (ow 44 rfl) (by decide) e16 (rmCi l Z a0 hw id_ y_ k_ u_ h2 n0 Z12 C11 cs SC hcs sf SF hsf ic SI icf IC hic97 hic98 hEL C8 hu) (by decide) (by decide) (by decide) (by decide) rfl (by rw [hml]; rfl) (argsL := [(.ref id_)]) (rest := []) rfl (lenOf pd_16 rfl) rfl (own_le20 rfl) (dc d3_12) ?_
  intro v17 T17 L17 k17 X17 hS17 hk17 hZ17 hown17 R17 hQ17
  obtain ⟨rfl, N17q, K17⟩ := hQ17
  show Goes p e below _ T17 (mkF m 15 #[sR o_, sR id_, sR sd_, sJ 1, s2, sR a_] [])
  have RR17 := RR2.trans R17
  have C24 := (p6.ext E2).keep K17
  have C25 := (p7.ext E2).keep K17 nin0
  have C26 := C11.keep K17 all0
  have Z28 := Nat.le_trans Z12 K17.1
  have K31 := K15.trans K17 all0
  refine Goes.on (T' := T17) (g' := (mkF m 18 #[sR o_, sR id_, sR sd_, sJ 1, s2, sR a_] [(.ref a_), (.long 1)])) (fun _ k => XS.lloadN X17.here hx rfl (dc d3_15) rfl (XS.aload X17.here hx rfl (dc d3_16) rfl rfl k)) ?_
  refine Goes.callSW X17 hx hZ17 hS17 hk17 hEL RR17.1 0 hown17 (ow 93 rfl) (ow 94 rfl) (ow 25 rfl) (ow 95 rfl) (by decide) rfl (rmTeM l Z a0 hw a_ T17.heap n0 Z28 C26 cs SC hcs sf SF hsf ic SI icf IC hic97 hic98 hEL C24 C25 ) (by decide) (by decide) (by decide) (by decide) rfl (by rw [hml]; rfl) (argsL := [(.long 1), (.ref a_)]) (rest := []) rfl (lenOf pd_17 rfl) rfl (own_le20 rfl) (dc d3_18) ?_
  intro v32 T32 L32 k32 X32 hS32 hk32 hZ32 hown32 R32 hQ32
  obtain ⟨rfl, N32q, K32⟩ := hQ32
  show Goes p e below _ T32 (mkF m 21 #[sR o_, sR id_, sR sd_, sJ 1, s2, sR a_] [])
  have RR32 := RR17.trans R32
  have C33 := ((p0.ext E2).keep K17).keep K32
  have C34 := ((p1.ext E2).keep K17 nin0).keep K32 nin0
  have K46 := K31.trans K32 all0
  obtain ⟨T47, h47, X47, e47, W47, st47⟩ := putF X32 hx hZ32 hown32 (host := "") (Or.inl (ow 115 rfl)) Via.refl rfl C34 C33 (Or.inr ⟨(ow 116 rfl), rfl, hnm⟩) (ow 24 rfl) (ty := (.object "java/lang/String")) (by decide) rfl rfl (g := (mkF m 23 #[sR o_, sR id_, sR sd_, sJ 1, s2, sR a_] [(.ref id_), (.ref o_)])) rfl rfl (dc d3_23)
  have C48 := C33.wr W47
  have C50 := (((p2.ext E2).keep K17 nin0).keep K32 nin0).other W47 (Or.inr (sn2 hw))
  have Z57 := own_leW W47 hk32
  have RR59 := RR32.trans (CHr.wr W47 (Safe.exa hZ32.alike C33 (by decide) (by decide)) RR32.1)
  have K60 := K46.wr W47 (Or.inl (List.mem_of_getElem? (i := 0) rfl))
  obtain ⟨T61, h61, X61, e61, W61, st61⟩ := putF X47 hx hZ32 hown32 (host := "") (Or.inl (ow 117 rfl)) Via.refl e47 C50 C48 (Or.inr ⟨(ow 118 rfl), rfl, hnm⟩) (ow 24 rfl) (ty := (.object "com/example/uncross/uncross/model/Side")) (by decide) rfl rfl (g := (mkF m 28 #[sR o_, sR id_, sR sd_, sJ 1, s2, sR a_] [(.ref sd_), (.ref o_)])) rfl rfl (dc d3_28)
  have C62 := C48.wr W61
  have C65 := ((((p3.ext E2).keep K17 nin0).keep K32 nin0).other W47 (Or.inr (sn3 hw))).other W61 (Or.inr (sn6 hw))
  have Z71 := own_leW W61 Z57
  have RR73 := RR59.trans (CHr.wr W61 (Safe.exa hZ32.alike C48 (by decide) (by decide)) RR59.1)
  have K74 := K60.wr W61 (Or.inl (List.mem_of_getElem? (i := 0) rfl))
  obtain ⟨T75, h75, X75, e75, W75, st75⟩ := putF X61 hx hZ32 hown32 (host := "") (Or.inl (ow 119 rfl)) Via.refl e61 C65 C62 (Or.inr ⟨(ow 120 rfl), rfl, hnm⟩) (ow 24 rfl) (ty := .long) (by decide) rfl rfl (g := (mkF m 33 #[sR o_, sR id_, sR sd_, sJ 1, s2, sR a_] [(.long 1), (.ref o_)])) rfl rfl (dc d3_33)
  have C76 := C62.wr W75
  have C80 := (((((p4.ext E2).keep K17 nin0).keep K32 nin0).other W47 (Or.inr (sn4 hw))).other W61 (Or.inr (sn7 hw))).other W75 (Or.inr (sn10 hw))
  have Z85 := own_leW W75 Z71
  have RR87 := RR73.trans (CHr.wr W75 (Safe.exa hZ32.alike C62 (by decide) (by decide)) RR73.1)
  have K88 := K74.wr W75 (Or.inl (List.mem_of_getElem? (i := 0) rfl))
  obtain ⟨T89, h89, X89, e89, W89, st89⟩ := putF X75 hx hZ32 hown32 (host := "") (Or.inl (ow 121 rfl)) Via.refl e75 C80 C76 (Or.inr ⟨(ow 122 rfl), rfl, hnm⟩) (ow 24 rfl) (ty := (.object "java/util/OptionalLong")) (by decide) rfl rfl (g := (mkF m 39 #[sR o_, sR id_, sR sd_, sJ 1, s2, sR a_] [(.ref a_), (.ref o_)])) rfl rfl (dc d3_39)
  have N89 := Fr.snoc X89 (Fr.snoc X75 (Fr.snoc X61 (Fr.snoc X47 (Fr.app (Fr.app (Fr.app (Fr.app (Fr.nil n0) N1q) N16q) N17q) N32q) g0) g0) g0) g0
  have C90 := C76.wr W89
  have C91 := (((C34.same W47).other W61 (Or.inr (sn5 hw))).other W75 (Or.inr (sn8 hw))).other W89 (Or.inr (sn11 hw))
  have C92 := ((C50.same W61).other W75 (Or.inr (sn9 hw))).other W89 (Or.inr (sn12 hw))
  have C93 := (C65.same W75).other W89 (Or.inr (sn13 hw))
  have C94 := C80.same W89
  have Z99 := own_leW W89 Z85
  have RR101 := RR87.trans (CHr.wr W89 (Safe.exa hZ32.alike C76 (by decide) (by decide)) RR87.1)
  have K102 := K88.wr W89 (Or.inl (List.mem_of_getElem? (i := 0) rfl))
  refine Goes.on (T' := T89) (g' := (mkF m 42 #[sR o_, sR id_, sR sd_, sJ 1, s2, sR a_] [])) (fun _ k => XS.aloadN X32.here hx rfl (dc d3_21) rfl rfl (XS.aloadN X32.here hx rfl (dc d3_22) rfl rfl (st47 _ (XS.aloadN X47.here hx rfl (dc d3_26) rfl rfl (XS.aloadN X47.here hx rfl (dc d3_27) rfl rfl (st61 _ (XS.aloadN X61.here hx rfl (dc d3_31) rfl rfl (XS.lloadN X61.here hx rfl (dc d3_32) rfl (st75 _ (XS.aloadN X75.here hx rfl (dc d3_36) rfl rfl (XS.aload X75.here hx rfl (dc d3_37) rfl rfl (st89 _ k)))))))))))) ?_
  exact Goes.retVW X89 hS32 (by rw [e89]; exact Z99) hZ32 hEL (by rw [e89]; exact RR101) hx hlk hret (dc d3_42) (by decide) (by decide) (by rw [e89]; exact ⟨rfl, N89, K102, C90, C91, C92, C93, C94⟩)
theorem rmOrL (l : Launch) (Z : State) (a0 : Array Value) (hw : TW Z a0) (o_ id_ sd_ a_ y_ : Addr) (k_ : ClassId) (u_ : Int32) (x_ : Int64) (h0 : Heap) (n0 : Nat) (Z0 : n0 ≤ h0.size) (O0 : Old Z n0 h0) (cs : Int32) (SC : Sta Z Z.heap "java/lang/String" "COMPACT_STRINGS" "Z" (.int cs)) (hcs : ¬ cs = (0 : Int32)) (sf : Value) (SF : Sta Z Z.heap "jdk/internal/util/Preconditions" "SIOOBE_FORMATTER" "Ljava/util/function/BiFunction;" sf) (hsf : sf.isRef = true) (ic : Addr) (SI : Sta Z Z.heap "com/example/uncross/uncross/model/Order" "ID_CHARACTERS" "[Z" (.ref ic)) (icf : Nat → Int32) (IC : Arf Z Z.heap ic .boolean Value.int 128 icf) (hic97 : ¬ icf 97 = (0 : Int32)) (hic98 : ¬ icf 98 = (0 : Int32)) (hEL : EW Z a0 consts_1) (p0 : Exa Z h0 o_ k3C) (p1 : Fld Z h0 o_ k3C "id" "Ljava/lang/String;" .null) (p2 : Fld Z h0 o_ k3C "side" k10C .null) (p3 : Fld Z h0 o_ k3C "quantity" "J" (.long (0 : Int64))) (p4 : Fld Z h0 o_ k3C "limit" k8C .null) (p5 : Str Z h0 id_ y_ k_ (Int32.ofNat 1) [Value.int u_]) (p6 : Exa Z h0 a_ k11C) (p7 : Fld Z h0 a_ k11C "isPresent" "Z" (.int (1 : Int32))) (p8 : Fld Z h0 a_ k11C "value" "J" (.long x_)) (q0 : a_ ≠ o_) (g0 : n0 ≤ o_) (hu : u_ = (97 : Int32) ∨ u_ = (98 : Int32)) (hp1 : ¬ x_ < (1 : Int64)) (hp2 : ¬ (1000000000000 : Int64) < x_) :
    PaysW l Z consts_1 (⟨"com/example/uncross/uncross/model/Order", "<init>", "(Ljava/lang/String;Lcom/example/uncross/uncross/model/Side;JLjava/util/OptionalLong;)V"⟩ : MethodName) prog_70_method_1_code 6 none [] ({ frames := 6, cells := 8, slots := 100, locals := 80 } : Room) #[(.ref o_), (.ref id_), (.ref sd_), (.long (1 : Int64)), (.ref a_)] h0 (fun v h L => v = none ∧ Fr n0 L ∧ Keep h0 h [o_] ∧ Exa Z h o_ k3C ∧ Fld Z h o_ k3C "id" "Ljava/lang/String;" (.ref id_) ∧ Fld Z h o_ k3C "side" k10C (.ref sd_) ∧ Fld Z h o_ k3C "quantity" "J" (.long (1 : Int64)) ∧ Fld Z h o_ k3C "limit" k8C (.ref a_)) := by
  refine PaysW.walk (plainFor_of_name pn_6) (fun m => ef_11 m o_ id_ sd_ (1 : Int64) a_ ) ?_
  intro p e s m below meth c T0 X0 hx hby hml hown hnm hZ e0 hret hlk hS0 RR0
  have dc := @Jvm.hb _ _ hby
  have ow := @own_w Z a0 hw
  have hk0 : 0 ≤ h0.size := Nat.zero_le _
  have S0 : h0.size ≤ h0.size := Nat.le_refl _
  have wS := own_wS hw
  have K0 := Keep.refl h0 ([o_] : List Addr)
  refine Goes.on (T' := T0) (g' := (mkF m 1 #[sR o_, sR id_, sR sd_, sJ 1, s2, sR a_] [(.ref o_)])) (fun _ k => XS.aloadN X0.here hx rfl (dc d3_0) rfl rfl k) ?_
  refine Goes.callC X0 hx hZ 0 rfl hown (ow 29 rfl) (ow 30 rfl) (ow 32 rfl) (ow 33 rfl) (by decide) e0 (rmRec l Z a0 hw o_ h0 n0 Z0) (by decide) (by decide) (by decide) (by decide) rfl (by rw [hml]; rfl) (a := o_) (argsL := []) (rest := []) rfl (lenOf pd_15 rfl) rfl (own_le20 rfl) (dc d3_1) ?_
  rintro v1 T1 L1 X1 ⟨rfl, N1q, e1⟩
  show Goes p e below _ T1 (mkF m 4 #[sR o_, sR id_, sR sd_, sJ 1, s2, sR a_] [])
  obtain ⟨a2, T2, h2, k2, b2, kb2, X2, e2, E2, hS2, hk2, hZ2, hown2, A2, C2, V2, K2, lt2, lu2, R2, Lt2, sf2, st2⟩ := ldcCH X1 hx hZ hown (ow 37 rfl) wS e1 hS0 hk0 hEL (List.mem_of_getElem? (i := 2) rfl) RR0.1 (vs := [Value.int 115, Value.int 105, Value.int 100, Value.int 101]) (z := Int32.ofNat 4) ⟨by decide, by decide⟩ (by decide) (by decide) (g := (mkF m 5 #[sR o_, sR id_, sR sd_, sJ 1, s2, sR a_] [(.ref sd_)])) rfl (dc d3_5) (n := 16) (by decide) (by decide) (by decide) (by decide)
  have C8 := p5.ext E2
  have C12 := O0.ext E2
  have Z13 := Nat.le_trans Z0 E2.1
  have K16 := K0.ext E2
  have RR2 := RR0.trans R2
  have Q2 : Str Z h2 a2 b2 kb2 (Int32.ofNat 4) [Value.int 115, Value.int 105, Value.int 100, Value.int 101] := ⟨A2, C2, V2, K2⟩
  refine Goes.on (T' := T2) (g' := (mkF m 7 #[sR o_, sR id_, sR sd_, sJ 1, s2, sR a_] [(.ref a2), (.ref sd_)])) (fun _ k => XS.aloadN X1.here hx rfl (dc d3_4) rfl rfl (st2 _ k)) ?_
  refine Goes.callS X2 hx hZ2 0 hown2 (ow 38 rfl) (ow 39 rfl) (ow 40 rfl) (ow 41 rfl) (by decide) e2 (rmQ l Z a0 hw sd_ a2 h2 n0 Z13) (by decide) (by decide) (by decide) (by decide) rfl (by rw [hml]; rfl) (argsL := [(.ref sd_), (.ref a2)]) (rest := []) rfl (lenOf pd_7 rfl) rfl (own_le20 rfl) (dc d3_7) ?_
  rintro v17 T17 L17 X17 ⟨rfl, N17q, e17⟩
  show Goes p e below _ T17 (mkF m 10 #[sR o_, sR id_, sR sd_, sJ 1, s2, sR a_] [(.ref sd_)])
  refine Goes.on (T' := T17) (g' := (mkF m 12 #[sR o_, sR id_, sR sd_, sJ 1, s2, sR a_] [(.ref id_)])) (fun _ k => XS.pop X17.here hx rfl (dc d3_10) rfl rfl (XS.aloadN X17.here hx rfl (dc d3_11) rfl rfl k)) ?_
  refine Goes.callSW X17 hx hZ2 hS2 hk2 hEL RR2.1 0 hown2 (ow 42 rfl) (ow 43 rfl) (ow 25 rfl) (ow 44 rfl) (by decide) e17 (rmCi l Z a0 hw id_ y_ k_ u_ h2 n0 Z13 C12 cs SC hcs sf SF hsf ic SI icf IC hic97 hic98 hEL C8 hu) (by decide) (by decide) (by decide) (by decide) rfl (by rw [hml]; rfl) (argsL := [(.ref id_)]) (rest := []) rfl (lenOf pd_16 rfl) rfl (own_le20 rfl) (dc d3_12) ?_
  intro v18 T18 L18 k18 X18 hS18 hk18 hZ18 hown18 R18 hQ18
  obtain ⟨rfl, N18q, K18⟩ := hQ18
  show Goes p e below _ T18 (mkF m 15 #[sR o_, sR id_, sR sd_, sJ 1, s2, sR a_] [])
  have RR18 := RR2.trans R18
  have C25 := (p6.ext E2).keep K18
  have C26 := (p7.ext E2).keep K18 nin0
  have C27 := (p8.ext E2).keep K18 nin0
  have C28 := C12.keep K18 all0
  have Z30 := Nat.le_trans Z13 K18.1
  have K33 := K16.trans K18 all0
  refine Goes.on (T' := T18) (g' := (mkF m 18 #[sR o_, sR id_, sR sd_, sJ 1, s2, sR a_] [(.ref a_), (.long 1)])) (fun _ k => XS.lloadN X18.here hx rfl (dc d3_15) rfl (XS.aload X18.here hx rfl (dc d3_16) rfl rfl k)) ?_
  refine Goes.callSW X18 hx hZ18 hS18 hk18 hEL RR18.1 0 hown18 (ow 93 rfl) (ow 94 rfl) (ow 25 rfl) (ow 95 rfl) (by decide) rfl (rmTeL l Z a0 hw a_ x_ T18.heap n0 Z30 C28 cs SC hcs sf SF hsf ic SI icf IC hic97 hic98 hEL C25 C26 C27 hp1 hp2) (by decide) (by decide) (by decide) (by decide) rfl (by rw [hml]; rfl) (argsL := [(.long 1), (.ref a_)]) (rest := []) rfl (lenOf pd_17 rfl) rfl (own_le20 rfl) (dc d3_18) ?_
  intro v34 T34 L34 k34 X34 hS34 hk34 hZ34 hown34 R34 hQ34
  obtain ⟨rfl, N34q, K34⟩ := hQ34
  show Goes p e below _ T34 (mkF m 21 #[sR o_, sR id_, sR sd_, sJ 1, s2, sR a_] [])
  have RR34 := RR18.trans R34
  have C35 := ((p0.ext E2).keep K18).keep K34
  have C36 := ((p1.ext E2).keep K18 nin0).keep K34 nin0
  have K49 := K33.trans K34 all0
  obtain ⟨T50, h50, X50, e50, W50, st50⟩ := putF X34 hx hZ34 hown34 (host := "") (Or.inl (ow 115 rfl)) Via.refl rfl C36 C35 (Or.inr ⟨(ow 116 rfl), rfl, hnm⟩) (ow 24 rfl) (ty := (.object "java/lang/String")) (by decide) rfl rfl (g := (mkF m 23 #[sR o_, sR id_, sR sd_, sJ 1, s2, sR a_] [(.ref id_), (.ref o_)])) rfl rfl (dc d3_23)
  have C51 := C35.wr W50
  have C53 := (((p2.ext E2).keep K18 nin0).keep K34 nin0).other W50 (Or.inr (sn2 hw))
  have Z61 := own_leW W50 hk34
  have RR63 := RR34.trans (CHr.wr W50 (Safe.exa hZ34.alike C35 (by decide) (by decide)) RR34.1)
  have K64 := K49.wr W50 (Or.inl (List.mem_of_getElem? (i := 0) rfl))
  obtain ⟨T65, h65, X65, e65, W65, st65⟩ := putF X50 hx hZ34 hown34 (host := "") (Or.inl (ow 117 rfl)) Via.refl e50 C53 C51 (Or.inr ⟨(ow 118 rfl), rfl, hnm⟩) (ow 24 rfl) (ty := (.object "com/example/uncross/uncross/model/Side")) (by decide) rfl rfl (g := (mkF m 28 #[sR o_, sR id_, sR sd_, sJ 1, s2, sR a_] [(.ref sd_), (.ref o_)])) rfl rfl (dc d3_28)
  have C66 := C51.wr W65
  have C69 := ((((p3.ext E2).keep K18 nin0).keep K34 nin0).other W50 (Or.inr (sn3 hw))).other W65 (Or.inr (sn6 hw))
  have Z76 := own_leW W65 Z61
  have RR78 := RR63.trans (CHr.wr W65 (Safe.exa hZ34.alike C51 (by decide) (by decide)) RR63.1)
  have K79 := K64.wr W65 (Or.inl (List.mem_of_getElem? (i := 0) rfl))
  obtain ⟨T80, h80, X80, e80, W80, st80⟩ := putF X65 hx hZ34 hown34 (host := "") (Or.inl (ow 119 rfl)) Via.refl e65 C69 C66 (Or.inr ⟨(ow 120 rfl), rfl, hnm⟩) (ow 24 rfl) (ty := .long) (by decide) rfl rfl (g := (mkF m 33 #[sR o_, sR id_, sR sd_, sJ 1, s2, sR a_] [(.long 1), (.ref o_)])) rfl rfl (dc d3_33)
  have C81 := C66.wr W80
  have C85 := (((((p4.ext E2).keep K18 nin0).keep K34 nin0).other W50 (Or.inr (sn4 hw))).other W65 (Or.inr (sn7 hw))).other W80 (Or.inr (sn10 hw))
  have Z91 := own_leW W80 Z76
  have RR93 := RR78.trans (CHr.wr W80 (Safe.exa hZ34.alike C66 (by decide) (by decide)) RR78.1)
  have K94 := K79.wr W80 (Or.inl (List.mem_of_getElem? (i := 0) rfl))
  obtain ⟨T95, h95, X95, e95, W95, st95⟩ := putF X80 hx hZ34 hown34 (host := "") (Or.inl (ow 121 rfl)) Via.refl e80 C85 C81 (Or.inr ⟨(ow 122 rfl), rfl, hnm⟩) (ow 24 rfl) (ty := (.object "java/util/OptionalLong")) (by decide) rfl rfl (g := (mkF m 39 #[sR o_, sR id_, sR sd_, sJ 1, s2, sR a_] [(.ref a_), (.ref o_)])) rfl rfl (dc d3_39)
  have N95 := Fr.snoc X95 (Fr.snoc X80 (Fr.snoc X65 (Fr.snoc X50 (Fr.app (Fr.app (Fr.app (Fr.app (Fr.nil n0) N1q) N17q) N18q) N34q) g0) g0) g0) g0
  have C96 := C81.wr W95
  have C97 := (((C36.same W50).other W65 (Or.inr (sn5 hw))).other W80 (Or.inr (sn8 hw))).other W95 (Or.inr (sn11 hw))
  have C98 := ((C53.same W65).other W80 (Or.inr (sn9 hw))).other W95 (Or.inr (sn12 hw))
  have C99 := (C69.same W80).other W95 (Or.inr (sn13 hw))
  have C100 := C85.same W95
  have Z106 := own_leW W95 Z91
  have RR108 := RR93.trans (CHr.wr W95 (Safe.exa hZ34.alike C81 (by decide) (by decide)) RR93.1)
  have K109 := K94.wr W95 (Or.inl (List.mem_of_getElem? (i := 0) rfl))
  refine Goes.on (T' := T95) (g' := (mkF m 42 #[sR o_, sR id_, sR sd_, sJ 1, s2, sR a_] [])) (fun _ k => XS.aloadN X34.here hx rfl (dc d3_21) rfl rfl (XS.aloadN X34.here hx rfl (dc d3_22) rfl rfl (st50 _ (XS.aloadN X50.here hx rfl (dc d3_26) rfl rfl (XS.aloadN X50.here hx rfl (dc d3_27) rfl rfl (st65 _ (XS.aloadN X65.here hx rfl (dc d3_31) rfl rfl (XS.lloadN X65.here hx rfl (dc d3_32) rfl (st80 _ (XS.aloadN X80.here hx rfl (dc d3_36) rfl rfl (XS.aload X80.here hx rfl (dc d3_37) rfl rfl (st95 _ k)))))))))))) ?_
  exact Goes.retVW X95 hS34 (by rw [e95]; exact Z106) hZ34 hEL (by rw [e95]; exact RR108) hx hlk hret (dc d3_42) (by decide) (by decide) (by rw [e95]; exact ⟨rfl, N95, K109, C96, C97, C98, C99, C100⟩)
abbrev c22C := prog_17_method_1_code
theorem d22_0 : decode c22C 0 = .ok (.aload_n 0, 1) := by decide +kernel
theorem d22_1 : decode c22C 1 = .ok (.invokespecial 1, 3) := by decide +kernel
theorem d22_4 : decode c22C 4 = .ok (.aload_n 0, 1) := by decide +kernel
theorem d22_5 : decode c22C 5 = .ok (.aload_n 1, 1) := by decide +kernel
theorem d22_6 : decode c22C 6 = .ok (.putfield 7, 3) := by decide +kernel
theorem d22_9 : decode c22C 9 = .ok (.aload_n 0, 1) := by decide +kernel
theorem d22_10 : decode c22C 10 = .ok (.lload_n 2, 1) := by decide +kernel
theorem d22_11 : decode c22C 11 = .ok (.putfield 13, 3) := by decide +kernel
theorem d22_14 : decode c22C 14 = .ok (.aload_n 0, 1) := by decide +kernel
theorem d22_15 : decode c22C 15 = .ok (.lload 4, 2) := by decide +kernel
theorem d22_17 : decode c22C 17 = .ok (.putfield 17, 3) := by decide +kernel
theorem d22_20 : decode c22C 20 = .ok (.aload_n 0, 1) := by decide +kernel
theorem d22_21 : decode c22C 21 = .ok (.iload 6, 2) := by decide +kernel
theorem d22_23 : decode c22C 23 = .ok (.putfield 20, 3) := by decide +kernel
theorem d22_26 : decode c22C 26 = .ok (.return_, 1) := by decide +kernel
theorem ef_12 (m : MethodId) (x0 : Addr) (x1 : Addr) (x2 : Int64) (x3 : Int64) (x4 : Int32) : entryFrame m #[(.ref x0), (.ref x1), (.long x2), (.long x3), (.int x4)] 7 = mkF m 0 #[.val (.ref x0), .val (.ref x1), .val (.long x2), .second, .val (.long x3), .second, .val (.int x4)] [] := by first | (simp [entryFrame, mkF, argsToLocals, Value.category]; done) | rfl
theorem pn_10 : plainName "com/example/uncross/uncross/engine/BookSide$Resting" = true := by first | (simp [plainName, overriddenIn]; done) | decide +kernel
def sn14 {Z : State} {a0 : Array Value} (hw : TW Z a0) := slot_ne (Or.inl (own_w hw 130 rfl)) (Or.inr (own_w hw 128 rfl)) (by decide) (t := .long) (by decide) (t' := (.object "com/example/uncross/uncross/model/Order")) (by decide)
def sn15 {Z : State} {a0 : Array Value} (hw : TW Z a0) := slot_ne (Or.inl (own_w hw 247 rfl)) (Or.inr (own_w hw 128 rfl)) (by decide) (t := (.object "com/example/uncross/uncross/engine/BookSide$Level")) (by decide) (t' := (.object "com/example/uncross/uncross/model/Order")) (by decide)
def sn16 {Z : State} {a0 : Array Value} (hw : TW Z a0) := slot_ne (Or.inl (own_w hw 251 rfl)) (Or.inr (own_w hw 128 rfl)) (by decide) (t := (.object "com/example/uncross/uncross/engine/BookSide$Resting")) (by decide) (t' := (.object "com/example/uncross/uncross/model/Order")) (by decide)
def sn17 {Z : State} {a0 : Array Value} (hw : TW Z a0) := slot_ne (Or.inl (own_w hw 293 rfl)) (Or.inr (own_w hw 128 rfl)) (by decide) (t := (.object "com/example/uncross/uncross/engine/BookSide$Resting")) (by decide) (t' := (.object "com/example/uncross/uncross/model/Order")) (by decide)
def sn18 {Z : State} {a0 : Array Value} (hw : TW Z a0) := slot_ne (Or.inr (own_w hw 132 rfl)) (Or.inr (own_w hw 128 rfl)) (by decide) (t := .long) (by decide) (t' := (.object "com/example/uncross/uncross/model/Order")) (by decide)
def sn19 {Z : State} {a0 : Array Value} (hw : TW Z a0) := slot_ne (Or.inr (own_w hw 134 rfl)) (Or.inr (own_w hw 128 rfl)) (by decide) (t := .boolean) (by decide) (t' := (.object "com/example/uncross/uncross/model/Order")) (by decide)
def sn20 {Z : State} {a0 : Array Value} (hw : TW Z a0) := slot_ne (Or.inl (own_w hw 247 rfl)) (Or.inl (own_w hw 130 rfl)) (by decide) (t := (.object "com/example/uncross/uncross/engine/BookSide$Level")) (by decide) (t' := .long) (by decide)
def sn21 {Z : State} {a0 : Array Value} (hw : TW Z a0) := slot_ne (Or.inl (own_w hw 251 rfl)) (Or.inl (own_w hw 130 rfl)) (by decide) (t := (.object "com/example/uncross/uncross/engine/BookSide$Resting")) (by decide) (t' := .long) (by decide)
def sn22 {Z : State} {a0 : Array Value} (hw : TW Z a0) := slot_ne (Or.inl (own_w hw 293 rfl)) (Or.inl (own_w hw 130 rfl)) (by decide) (t := (.object "com/example/uncross/uncross/engine/BookSide$Resting")) (by decide) (t' := .long) (by decide)
def sn23 {Z : State} {a0 : Array Value} (hw : TW Z a0) := slot_ne (Or.inr (own_w hw 128 rfl)) (Or.inl (own_w hw 130 rfl)) (by decide) (t := (.object "com/example/uncross/uncross/model/Order")) (by decide) (t' := .long) (by decide)
def sn24 {Z : State} {a0 : Array Value} (hw : TW Z a0) := slot_ne (Or.inr (own_w hw 132 rfl)) (Or.inl (own_w hw 130 rfl)) (by decide) (t := .long) (by decide) (t' := .long) (by decide)
def sn25 {Z : State} {a0 : Array Value} (hw : TW Z a0) := slot_ne (Or.inr (own_w hw 134 rfl)) (Or.inl (own_w hw 130 rfl)) (by decide) (t := .boolean) (by decide) (t' := .long) (by decide)
def sn26 {Z : State} {a0 : Array Value} (hw : TW Z a0) := slot_ne (Or.inl (own_w hw 130 rfl)) (Or.inr (own_w hw 132 rfl)) (by decide) (t := .long) (by decide) (t' := .long) (by decide)
def sn27 {Z : State} {a0 : Array Value} (hw : TW Z a0) := slot_ne (Or.inl (own_w hw 247 rfl)) (Or.inr (own_w hw 132 rfl)) (by decide) (t := (.object "com/example/uncross/uncross/engine/BookSide$Level")) (by decide) (t' := .long) (by decide)
def sn28 {Z : State} {a0 : Array Value} (hw : TW Z a0) := slot_ne (Or.inl (own_w hw 251 rfl)) (Or.inr (own_w hw 132 rfl)) (by decide) (t := (.object "com/example/uncross/uncross/engine/BookSide$Resting")) (by decide) (t' := .long) (by decide)
def sn29 {Z : State} {a0 : Array Value} (hw : TW Z a0) := slot_ne (Or.inl (own_w hw 293 rfl)) (Or.inr (own_w hw 132 rfl)) (by decide) (t := (.object "com/example/uncross/uncross/engine/BookSide$Resting")) (by decide) (t' := .long) (by decide)
def sn30 {Z : State} {a0 : Array Value} (hw : TW Z a0) := slot_ne (Or.inr (own_w hw 128 rfl)) (Or.inr (own_w hw 132 rfl)) (by decide) (t := (.object "com/example/uncross/uncross/model/Order")) (by decide) (t' := .long) (by decide)
def sn31 {Z : State} {a0 : Array Value} (hw : TW Z a0) := slot_ne (Or.inr (own_w hw 134 rfl)) (Or.inr (own_w hw 132 rfl)) (by decide) (t := .boolean) (by decide) (t' := .long) (by decide)
def sn32 {Z : State} {a0 : Array Value} (hw : TW Z a0) := slot_ne (Or.inl (own_w hw 130 rfl)) (Or.inr (own_w hw 134 rfl)) (by decide) (t := .long) (by decide) (t' := .boolean) (by decide)
def sn33 {Z : State} {a0 : Array Value} (hw : TW Z a0) := slot_ne (Or.inl (own_w hw 247 rfl)) (Or.inr (own_w hw 134 rfl)) (by decide) (t := (.object "com/example/uncross/uncross/engine/BookSide$Level")) (by decide) (t' := .boolean) (by decide)
def sn34 {Z : State} {a0 : Array Value} (hw : TW Z a0) := slot_ne (Or.inl (own_w hw 251 rfl)) (Or.inr (own_w hw 134 rfl)) (by decide) (t := (.object "com/example/uncross/uncross/engine/BookSide$Resting")) (by decide) (t' := .boolean) (by decide)
def sn35 {Z : State} {a0 : Array Value} (hw : TW Z a0) := slot_ne (Or.inl (own_w hw 293 rfl)) (Or.inr (own_w hw 134 rfl)) (by decide) (t := (.object "com/example/uncross/uncross/engine/BookSide$Resting")) (by decide) (t' := .boolean) (by decide)
def sn36 {Z : State} {a0 : Array Value} (hw : TW Z a0) := slot_ne (Or.inr (own_w hw 128 rfl)) (Or.inr (own_w hw 134 rfl)) (by decide) (t := (.object "com/example/uncross/uncross/model/Order")) (by decide) (t' := .boolean) (by decide)
def sn37 {Z : State} {a0 : Array Value} (hw : TW Z a0) := slot_ne (Or.inr (own_w hw 132 rfl)) (Or.inr (own_w hw 134 rfl)) (by decide) (t := .long) (by decide) (t' := .boolean) (by decide)
theorem rmRe (l : Launch) (Z : State) (a0 : Array Value) (hw : TW Z a0) (a : Addr) (x1 : Addr) (x2 : Int64) (x3 : Int64) (x4 : Int32) (h0 : Heap) (n0 : Nat) (Z0 : n0 ≤ h0.size) (E0 : Exa Z h0 a "com/example/uncross/uncross/engine/BookSide$Resting") (ga : n0 ≤ a) (F_quantity : Fld Z h0 a "com/example/uncross/uncross/engine/BookSide$Resting" "quantity" "J" (.long (0 : Int64))) (F_level : Fld Z h0 a "com/example/uncross/uncross/engine/BookSide$Resting" "level" "Lcom/example/uncross/uncross/engine/BookSide$Level;" .null) (F_ahead : Fld Z h0 a "com/example/uncross/uncross/engine/BookSide$Resting" "ahead" "Lcom/example/uncross/uncross/engine/BookSide$Resting;" .null) (F_behind : Fld Z h0 a "com/example/uncross/uncross/engine/BookSide$Resting" "behind" "Lcom/example/uncross/uncross/engine/BookSide$Resting;" .null) (F_order : Fld Z h0 a "com/example/uncross/uncross/engine/BookSide$Resting" "order" "Lcom/example/uncross/uncross/model/Order;" .null) (F_time : Fld Z h0 a "com/example/uncross/uncross/engine/BookSide$Resting" "time" "J" (.long (0 : Int64))) (F_filed : Fld Z h0 a "com/example/uncross/uncross/engine/BookSide$Resting" "filed" "Z" (.int (0 : Int32))) (hb4 : x4 = 0 ∨ x4 = 1) :
    Pays l Z (⟨"com/example/uncross/uncross/engine/BookSide$Resting", "<init>", "(Lcom/example/uncross/uncross/model/Order;JJZ)V"⟩ : MethodName) prog_17_method_1_code 7 none [] ({ frames := 1, cells := 0, slots := 0, locals := 12 } : Room) #[(.ref a), (.ref x1), (.long x2), (.long x3), (.int x4)] h0 (fun v h L => v = none ∧ Fr n0 L ∧ Keep h0 h [a] ∧ Exa Z h a "com/example/uncross/uncross/engine/BookSide$Resting" ∧ Fld Z h a "com/example/uncross/uncross/engine/BookSide$Resting" "quantity" "J" (.long x2) ∧ Fld Z h a "com/example/uncross/uncross/engine/BookSide$Resting" "level" "Lcom/example/uncross/uncross/engine/BookSide$Level;" .null ∧ Fld Z h a "com/example/uncross/uncross/engine/BookSide$Resting" "ahead" "Lcom/example/uncross/uncross/engine/BookSide$Resting;" .null ∧ Fld Z h a "com/example/uncross/uncross/engine/BookSide$Resting" "behind" "Lcom/example/uncross/uncross/engine/BookSide$Resting;" .null ∧ Fld Z h a "com/example/uncross/uncross/engine/BookSide$Resting" "order" "Lcom/example/uncross/uncross/model/Order;" (.ref x1) ∧ Fld Z h a "com/example/uncross/uncross/engine/BookSide$Resting" "time" "J" (.long x3) ∧ Fld Z h a "com/example/uncross/uncross/engine/BookSide$Resting" "filed" "Z" (.int x4)) := by
  refine Pays.walk (plainFor_of_name pn_10) (fun m => ef_12 m a x1 x2 x3 x4 ) ?_
  intro p e s m below meth c T0 X0 hx hby hml hown hnm hZ e0 hret hlk
  have dc := @Jvm.hb _ _ hby
  have ow := @own_w Z a0 hw
  have K0 := Keep.refl h0 [a]
  obtain ⟨T1, X1, e1, st1⟩ := initO X0 hx hZ hown (ow 126 rfl) (ow 35 rfl) (ow 36 rfl) e0 (g := (mkF m 1 #[sR a, sR x1, sJ x2, s2, sJ x3, s2, sI x4] [(.ref a)])) rfl (by rw [hml]; rfl) rfl (dc d22_1) (by decide) (W := 0) (own_le20 rfl) (by decide)
  obtain ⟨T2, h2, X2, e2, W2, st2⟩ := putF X1 hx hZ hown (host := "") (Or.inl (ow 127 rfl)) Via.refl e1 F_order E0 (Or.inr ⟨(ow 128 rfl), rfl, hnm⟩) (ow 21 rfl) (ty := (.object "com/example/uncross/uncross/model/Order")) (by decide) rfl rfl (g := (mkF m 6 #[sR a, sR x1, sJ x2, s2, sJ x3, s2, sI x4] [(.ref x1), (.ref a)])) rfl rfl (dc d22_6)
  have C3 := E0.wr W2
  have C4 := F_quantity.other W2 (Or.inr (sn14 hw))
  have K12 := K0.wr W2 (Or.inl (List.mem_of_getElem? (i := 0) rfl))
  obtain ⟨T13, h13, X13, e13, W13, st13⟩ := putF X2 hx hZ hown (host := "") (Or.inl (ow 129 rfl)) Via.refl e2 C4 C3 (Or.inl (ow 130 rfl)) (ow 21 rfl) (ty := .long) (by decide) rfl rfl (g := (mkF m 11 #[sR a, sR x1, sJ x2, s2, sJ x3, s2, sI x4] [(.long x2), (.ref a)])) rfl rfl (dc d22_11)
  have C14 := C3.wr W13
  have C20 := (F_time.other W2 (Or.inr (sn18 hw))).other W13 (Or.inr (sn24 hw))
  have K23 := K12.wr W13 (Or.inl (List.mem_of_getElem? (i := 0) rfl))
  obtain ⟨T24, h24, X24, e24, W24, st24⟩ := putF X13 hx hZ hown (host := "") (Or.inl (ow 131 rfl)) Via.refl e13 C20 C14 (Or.inr ⟨(ow 132 rfl), rfl, hnm⟩) (ow 21 rfl) (ty := .long) (by decide) rfl rfl (g := (mkF m 17 #[sR a, sR x1, sJ x2, s2, sJ x3, s2, sI x4] [(.long x3), (.ref a)])) rfl rfl (dc d22_17)
  have C25 := C14.wr W24
  have C32 := ((F_filed.other W2 (Or.inr (sn19 hw))).other W13 (Or.inr (sn25 hw))).other W24 (Or.inr (sn31 hw))
  have K34 := K23.wr W24 (Or.inl (List.mem_of_getElem? (i := 0) rfl))
  obtain ⟨T35, h35, X35, e35, W35, st35⟩ := putF X24 hx hZ hown (host := "") (Or.inl (ow 133 rfl)) Via.refl e24 C32 C25 (Or.inr ⟨(ow 134 rfl), rfl, hnm⟩) (ow 21 rfl) (ty := .boolean) (by decide) (narB hb4) (fitB hb4) (g := (mkF m 23 #[sR a, sR x1, sJ x2, s2, sJ x3, s2, sI x4] [(.int x4), (.ref a)])) rfl rfl (dc d22_23)
  have N35 := Fr.snoc X35 (Fr.snoc X24 (Fr.snoc X13 (Fr.snoc X2 (Fr.nil n0) ga) ga) ga) ga
  have C36 := C25.wr W35
  have C37 := ((C4.same W13).other W24 (Or.inr (sn26 hw))).other W35 (Or.inr (sn32 hw))
  have C38 := (((F_level.other W2 (Or.inr (sn15 hw))).other W13 (Or.inr (sn20 hw))).other W24 (Or.inr (sn27 hw))).other W35 (Or.inr (sn33 hw))
  have C39 := (((F_ahead.other W2 (Or.inr (sn16 hw))).other W13 (Or.inr (sn21 hw))).other W24 (Or.inr (sn28 hw))).other W35 (Or.inr (sn34 hw))
  have C40 := (((F_behind.other W2 (Or.inr (sn17 hw))).other W13 (Or.inr (sn22 hw))).other W24 (Or.inr (sn29 hw))).other W35 (Or.inr (sn35 hw))
  have C41 := (((F_order.same W2).other W13 (Or.inr (sn23 hw))).other W24 (Or.inr (sn30 hw))).other W35 (Or.inr (sn36 hw))
  have C42 := (C20.same W24).other W35 (Or.inr (sn37 hw))
  have C43 := C32.same W35
  have K45 := K34.wr W35 (Or.inl (List.mem_of_getElem? (i := 0) rfl))
  refine Goes.on (T' := T35) (g' := (mkF m 26 #[sR a, sR x1, sJ x2, s2, sJ x3, s2, sI x4] [])) (fun _ k => XS.aloadN X0.here hx rfl (dc d22_0) rfl rfl (st1 _ (XS.aloadN X1.here hx rfl (dc d22_4) rfl rfl (XS.aloadN X1.here hx rfl (dc d22_5) rfl rfl (st2 _ (XS.aloadN X2.here hx rfl (dc d22_9) rfl rfl (XS.lloadN X2.here hx rfl (dc d22_10) rfl (st13 _ (XS.aloadN X13.here hx rfl (dc d22_14) rfl rfl (XS.lload X13.here hx rfl (dc d22_15) rfl (st24 _ (XS.aloadN X24.here hx rfl (dc d22_20) rfl rfl (XS.iload X24.here hx rfl (dc d22_21) rfl (st35 _ k)))))))))))))) ?_
  exact Goes.retV X35 hx hlk hret (dc d22_26) (by decide) (by decide) (by rw [e35]; exact ⟨rfl, N35, K45, C36, C37, C38, C39, C40, C41, C42, C43⟩)
abbrev c31C := prog_16_method_1_code
theorem d31_0 : decode c31C 0 = .ok (.aload_n 0, 1) := by decide +kernel
theorem d31_1 : decode c31C 1 = .ok (.invokespecial 1, 3) := by decide +kernel
theorem d31_4 : decode c31C 4 = .ok (.aload_n 0, 1) := by decide +kernel
theorem d31_5 : decode c31C 5 = .ok (.lload_n 1, 1) := by decide +kernel
theorem d31_6 : decode c31C 6 = .ok (.putfield 7, 3) := by decide +kernel
theorem d31_9 : decode c31C 9 = .ok (.return_, 1) := by decide +kernel
theorem pn_11 : plainName "com/example/uncross/uncross/engine/BookSide$Level" = true := by first | (simp [plainName, overriddenIn]; done) | decide +kernel
def sn38 {Z : State} {a0 : Array Value} (hw : TW Z a0) := slot_ne (Or.inl (own_w hw 229 rfl)) (Or.inr (own_w hw 185 rfl)) (by decide) (t := (.object "com/example/uncross/uncross/engine/BookSide$Resting")) (by decide) (t' := .long) (by decide)
def sn39 {Z : State} {a0 : Array Value} (hw : TW Z a0) := slot_ne (Or.inl (own_w hw 249 rfl)) (Or.inr (own_w hw 185 rfl)) (by decide) (t := (.object "com/example/uncross/uncross/engine/BookSide$Resting")) (by decide) (t' := .long) (by decide)
def sn40 {Z : State} {a0 : Array Value} (hw : TW Z a0) := slot_ne (Or.inl (own_w hw 295 rfl)) (Or.inr (own_w hw 185 rfl)) (by decide) (t := .boolean) (by decide) (t' := .long) (by decide)
theorem rmLv (l : Launch) (Z : State) (a0 : Array Value) (hw : TW Z a0) (a : Addr) (x1 : Int64) (h0 : Heap) (n0 : Nat) (Z0 : n0 ≤ h0.size) (E0 : Exa Z h0 a "com/example/uncross/uncross/engine/BookSide$Level") (ga : n0 ≤ a) (F_first : Fld Z h0 a "com/example/uncross/uncross/engine/BookSide$Level" "first" "Lcom/example/uncross/uncross/engine/BookSide$Resting;" .null) (F_last : Fld Z h0 a "com/example/uncross/uncross/engine/BookSide$Level" "last" "Lcom/example/uncross/uncross/engine/BookSide$Resting;" .null) (F_deep : Fld Z h0 a "com/example/uncross/uncross/engine/BookSide$Level" "deep" "Z" (.int (0 : Int32))) (F_key : Fld Z h0 a "com/example/uncross/uncross/engine/BookSide$Level" "key" "J" (.long (0 : Int64))) :
    Pays l Z (⟨"com/example/uncross/uncross/engine/BookSide$Level", "<init>", "(J)V"⟩ : MethodName) prog_16_method_1_code 3 none [] ({ frames := 1, cells := 0, slots := 0, locals := 12 } : Room) #[(.ref a), (.long x1)] h0 (fun v h L => v = none ∧ Fr n0 L ∧ Keep h0 h [a] ∧ Exa Z h a "com/example/uncross/uncross/engine/BookSide$Level" ∧ Fld Z h a "com/example/uncross/uncross/engine/BookSide$Level" "first" "Lcom/example/uncross/uncross/engine/BookSide$Resting;" .null ∧ Fld Z h a "com/example/uncross/uncross/engine/BookSide$Level" "last" "Lcom/example/uncross/uncross/engine/BookSide$Resting;" .null ∧ Fld Z h a "com/example/uncross/uncross/engine/BookSide$Level" "deep" "Z" (.int (0 : Int32)) ∧ Fld Z h a "com/example/uncross/uncross/engine/BookSide$Level" "key" "J" (.long x1)) := by
  refine Pays.walk (plainFor_of_name pn_11) (fun m => ef_8 m a x1 ) ?_
  intro p e s m below meth c T0 X0 hx hby hml hown hnm hZ e0 hret hlk
  have K0 := Keep.refl h0 [a]
  obtain ⟨T1, X1, e1, st1⟩ := initO X0 hx hZ hown (own_w hw 183 rfl) (own_w hw 35 rfl) (own_w hw 36 rfl) e0 (g := (mkF m 1 #[sR a, sJ x1, s2] [(.ref a)])) rfl (by rw [hml]; rfl) rfl (hb hby d31_1) (by decide) (W := 0) (own_le20 rfl) (by decide)
  obtain ⟨T2, h2, X2, e2, W2, st2⟩ := putF X1 hx hZ hown (host := "") (Or.inl (own_w hw 184 rfl)) Via.refl e1 F_key E0 (Or.inr ⟨(own_w hw 185 rfl), rfl, hnm⟩) (own_w hw 178 rfl) (ty := .long) (by decide) rfl rfl (g := (mkF m 6 #[sR a, sJ x1, s2] [(.long x1), (.ref a)])) rfl rfl (hb hby d31_6)
  have N2 := Fr.snoc X2 (Fr.nil n0) ga
  have C3 := E0.wr W2
  have C4 := F_first.other W2 (Or.inr (sn38 hw))
  have C5 := F_last.other W2 (Or.inr (sn39 hw))
  have C6 := F_deep.other W2 (Or.inr (sn40 hw))
  have C7 := F_key.same W2
  have K9 := K0.wr W2 (Or.inl (List.mem_of_getElem? (i := 0) rfl))
  refine Goes.on (T' := T2) (g' := (mkF m 9 #[sR a, sJ x1, s2] [])) (fun _ k => XS.aloadN X0.here hx rfl (hb hby d31_0) rfl rfl (st1 _ (XS.aloadN X1.here hx rfl (hb hby d31_4) rfl rfl (XS.lloadN X1.here hx rfl (hb hby d31_5) rfl (st2 _ k))))) ?_
  exact Goes.retV X2 hx hlk hret (hb hby d31_9) (by decide) (by decide) (by rw [e2]; exact ⟨rfl, N2, K9, C3, C4, C5, C6, C7⟩)
abbrev c32C := jdk_2729_method_1_code
theorem d32_0 : decode c32C 0 = .ok (.aload_n 0, 1) := by decide +kernel
theorem d32_1 : decode c32C 1 = .ok (.invokespecial 1, 3) := by decide +kernel
theorem d32_4 : decode c32C 4 = .ok (.aload_n 0, 1) := by decide +kernel
theorem d32_5 : decode c32C 5 = .ok (.iconst 0, 1) := by decide +kernel
theorem d32_6 : decode c32C 6 = .ok (.putfield 7, 3) := by decide +kernel
theorem d32_9 : decode c32C 9 = .ok (.aload_n 0, 1) := by decide +kernel
theorem d32_10 : decode c32C 10 = .ok (.iconst 0, 1) := by decide +kernel
theorem d32_11 : decode c32C 11 = .ok (.putfield 13, 3) := by decide +kernel
theorem d32_14 : decode c32C 14 = .ok (.aload_n 0, 1) := by decide +kernel
theorem d32_15 : decode c32C 15 = .ok (.aconst_null, 1) := by decide +kernel
theorem d32_16 : decode c32C 16 = .ok (.putfield 16, 3) := by decide +kernel
theorem d32_19 : decode c32C 19 = .ok (.return_, 1) := by decide +kernel
theorem pn_12 : plainName "java/util/TreeMap" = true := by first | (simp [plainName, overriddenIn]; done) | decide +kernel
def sn41 {Z : State} {a0 : Array Value} (hw : TW Z a0) := slot_ne (Or.inl (own_w hw 212 rfl)) (Or.inl (own_w hw 210 rfl)) (by decide) (t := .int) (by decide) (t' := .int) (by decide)
def sn42 {Z : State} {a0 : Array Value} (hw : TW Z a0) := slot_ne (Or.inr (own_w hw 214 rfl)) (Or.inl (own_w hw 210 rfl)) (by decide) (t := (.object "java/util/Comparator")) (by decide) (t' := .int) (by decide)
def sn43 {Z : State} {a0 : Array Value} (hw : TW Z a0) := slot_ne (Or.inl (own_w hw 210 rfl)) (Or.inl (own_w hw 212 rfl)) (by decide) (t := .int) (by decide) (t' := .int) (by decide)
def sn44 {Z : State} {a0 : Array Value} (hw : TW Z a0) := slot_ne (Or.inr (own_w hw 214 rfl)) (Or.inl (own_w hw 212 rfl)) (by decide) (t := (.object "java/util/Comparator")) (by decide) (t' := .int) (by decide)
def sn45 {Z : State} {a0 : Array Value} (hw : TW Z a0) := slot_ne (Or.inl (own_w hw 210 rfl)) (Or.inr (own_w hw 214 rfl)) (by decide) (t := .int) (by decide) (t' := (.object "java/util/Comparator")) (by decide)
def sn46 {Z : State} {a0 : Array Value} (hw : TW Z a0) := slot_ne (Or.inl (own_w hw 212 rfl)) (Or.inr (own_w hw 214 rfl)) (by decide) (t := .int) (by decide) (t' := (.object "java/util/Comparator")) (by decide)
theorem rmTm (l : Launch) (Z : State) (a0 : Array Value) (hw : TW Z a0) (a : Addr) (h0 : Heap) (n0 : Nat) (Z0 : n0 ≤ h0.size) (E0 : Exa Z h0 a "java/util/TreeMap") (ga : n0 ≤ a) (F_size : Fld Z h0 a "java/util/TreeMap" "size" "I" (.int (0 : Int32))) (F_modCount : Fld Z h0 a "java/util/TreeMap" "modCount" "I" (.int (0 : Int32))) (F_comparator : Fld Z h0 a "java/util/TreeMap" "comparator" "Ljava/util/Comparator;" .null) :
    Pays l Z (⟨"java/util/TreeMap", "<init>", "()V"⟩ : MethodName) jdk_2729_method_1_code 1 none [] ({ frames := 2, cells := 0, slots := 0, locals := 24 } : Room) #[(.ref a)] h0 (fun v h L => v = none ∧ Fr n0 L ∧ Keep h0 h [a] ∧ Exa Z h a "java/util/TreeMap" ∧ Fld Z h a "java/util/TreeMap" "size" "I" (.int (0 : Int32)) ∧ Fld Z h a "java/util/TreeMap" "modCount" "I" (.int (0 : Int32)) ∧ Fld Z h a "java/util/TreeMap" "comparator" "Ljava/util/Comparator;" .null) := by
  refine Pays.walk (plainFor_of_name pn_12) (fun m => ef_0 m a ) ?_
  intro p e s m below meth c T0 X0 hx hby hml hown hnm hZ e0 hret hlk
  have dc := @Jvm.hb _ _ hby
  have ow := @own_w Z a0 hw
  have K0 := Keep.refl h0 [a]
  refine Goes.on (T' := T0) (g' := (mkF m 1 #[sR a] [(.ref a)])) (fun _ k => XS.aloadN X0.here hx rfl (dc d32_0) rfl rfl k) ?_
  refine Goes.callC X0 hx hZ 0 rfl hown (ow 202 rfl) (ow 203 rfl) (ow 206 rfl) (ow 207 rfl) (by decide) e0 (rmAbm l Z a0 hw a h0 n0 Z0) (by decide) (by decide) (by decide) (by decide) rfl (by rw [hml]; rfl) (a := a) (argsL := []) (rest := []) rfl (lenOf pd_15 rfl) rfl (own_le20 rfl) (dc d32_1) ?_
  rintro v1 T1 L1 X1 ⟨rfl, N1q, e1⟩
  show Goes p e below _ T1 (mkF m 4 #[sR a] [])
  obtain ⟨T2, h2, X2, e2, W2, st2⟩ := putF X1 hx hZ hown (host := "") (Or.inl (ow 209 rfl)) Via.refl e1 F_size E0 (Or.inl (ow 210 rfl)) (ow 197 rfl) (ty := .int) (by decide) rfl rfl (g := (mkF m 6 #[sR a] [(.int 0), (.ref a)])) rfl rfl (dc d32_6)
  have C3 := E0.wr W2
  have C5 := F_modCount.other W2 (Or.inr (sn41 hw))
  have K8 := K0.wr W2 (Or.inl (List.mem_of_getElem? (i := 0) rfl))
  obtain ⟨T9, h9, X9, e9, W9, st9⟩ := putF X2 hx hZ hown (host := "") (Or.inl (ow 211 rfl)) Via.refl e2 C5 C3 (Or.inl (ow 212 rfl)) (ow 197 rfl) (ty := .int) (by decide) rfl rfl (g := (mkF m 11 #[sR a] [(.int 0), (.ref a)])) rfl rfl (dc d32_11)
  have C10 := C3.wr W9
  have C13 := (F_comparator.other W2 (Or.inr (sn42 hw))).other W9 (Or.inr (sn44 hw))
  have K15 := K8.wr W9 (Or.inl (List.mem_of_getElem? (i := 0) rfl))
  obtain ⟨T16, h16, X16, e16, W16, st16⟩ := putF X9 hx hZ hown (host := "") (Or.inl (ow 213 rfl)) Via.refl e9 C13 C10 (Or.inr ⟨(ow 214 rfl), rfl, hnm⟩) (ow 197 rfl) (ty := (.object "java/util/Comparator")) (by decide) rfl rfl (g := (mkF m 16 #[sR a] [.null, (.ref a)])) rfl rfl (dc d32_16)
  have N16 := Fr.snoc X16 (Fr.snoc X9 (Fr.snoc X2 (Fr.app (Fr.nil n0) N1q) ga) ga) ga
  have C17 := C10.wr W16
  have C18 := ((F_size.same W2).other W9 (Or.inr (sn43 hw))).other W16 (Or.inr (sn45 hw))
  have C19 := (C5.same W9).other W16 (Or.inr (sn46 hw))
  have C20 := C13.same W16
  have K22 := K15.wr W16 (Or.inl (List.mem_of_getElem? (i := 0) rfl))
  refine Goes.on (T' := T16) (g' := (mkF m 19 #[sR a] [])) (fun _ k => XS.aloadN X1.here hx rfl (dc d32_4) rfl rfl (XS.iconst X1.here hx rfl (dc d32_5) (st2 _ (XS.aloadN X2.here hx rfl (dc d32_9) rfl rfl (XS.iconst X2.here hx rfl (dc d32_10) (st9 _ (XS.aloadN X9.here hx rfl (dc d32_14) rfl rfl (XS.aconstNull X9.here hx rfl (dc d32_15) (st16 _ k))))))))) ?_
  exact Goes.retV X16 hx hlk hret (dc d32_19) (by decide) (by decide) (by rw [e16]; exact ⟨rfl, N16, K22, C17, C18, C19, C20⟩)
theorem own_min (x : Int64) : ¬ x < (-9223372036854775808 : Int64) := by
  have r := rng64 x
  have k : ((-9223372036854775808 : Int64)).toInt = -9223372036854775808 := rfl
  rw [Int64.lt_iff_toInt_lt, k]
  omega
def own_key (z : Int32) (x : Int64) : Int64 := if z = (0 : Int32) then (-x) else x
abbrev c30C := prog_15_method_1_code
theorem d30_0 : decode c30C 0 = .ok (.aload_n 0, 1) := by decide +kernel
theorem d30_1 : decode c30C 1 = .ok (.invokespecial 3, 3) := by decide +kernel
theorem d30_4 : decode c30C 4 = .ok (.aload_n 0, 1) := by decide +kernel
theorem d30_5 : decode c30C 5 = .ok (.new 9, 3) := by decide +kernel
theorem d30_8 : decode c30C 8 = .ok (.dup, 1) := by decide +kernel
theorem d30_9 : decode c30C 9 = .ok (.lconst 0, 1) := by decide +kernel
theorem d30_10 : decode c30C 10 = .ok (.invokespecial 11, 3) := by decide +kernel
theorem d30_13 : decode c30C 13 = .ok (.putfield 14, 3) := by decide +kernel
theorem d30_16 : decode c30C 16 = .ok (.aload_n 0, 1) := by decide +kernel
theorem d30_17 : decode c30C 17 = .ok (.bipush 64, 2) := by decide +kernel
theorem d30_19 : decode c30C 19 = .ok (.anewarray 9, 3) := by decide +kernel
theorem d30_22 : decode c30C 22 = .ok (.putfield 18, 3) := by decide +kernel
theorem d30_25 : decode c30C 25 = .ok (.aload_n 0, 1) := by decide +kernel
theorem d30_26 : decode c30C 26 = .ok (.bipush 64, 2) := by decide +kernel
theorem d30_28 : decode c30C 28 = .ok (.newarray .long, 2) := by decide +kernel
theorem d30_30 : decode c30C 30 = .ok (.putfield 22, 3) := by decide +kernel
theorem d30_33 : decode c30C 33 = .ok (.aload_n 0, 1) := by decide +kernel
theorem d30_34 : decode c30C 34 = .ok (.iconst 1, 1) := by decide +kernel
theorem d30_35 : decode c30C 35 = .ok (.putfield 26, 3) := by decide +kernel
theorem d30_38 : decode c30C 38 = .ok (.aload_n 0, 1) := by decide +kernel
theorem d30_39 : decode c30C 39 = .ok (.new 30, 3) := by decide +kernel
theorem d30_42 : decode c30C 42 = .ok (.dup, 1) := by decide +kernel
theorem d30_43 : decode c30C 43 = .ok (.invokespecial 32, 3) := by decide +kernel
theorem d30_46 : decode c30C 46 = .ok (.putfield 33, 3) := by decide +kernel
theorem d30_49 : decode c30C 49 = .ok (.aload_n 0, 1) := by decide +kernel
theorem d30_50 : decode c30C 50 = .ok (.aload_n 1, 1) := by decide +kernel
theorem d30_51 : decode c30C 51 = .ok (.getstatic 37, 3) := by decide +kernel
theorem d30_54 : decode c30C 54 = .ok (.if_acmp .ne 7, 3) := by decide +kernel
theorem d30_57 : decode c30C 57 = .ok (.iconst 1, 1) := by decide +kernel
theorem d30_58 : decode c30C 58 = .ok (.goto 4, 3) := by decide +kernel
theorem d30_62 : decode c30C 62 = .ok (.putfield 43, 3) := by decide +kernel
theorem d30_65 : decode c30C 65 = .ok (.aload_n 0, 1) := by decide +kernel
theorem d30_66 : decode c30C 66 = .ok (.getfield 22, 3) := by decide +kernel
theorem d30_69 : decode c30C 69 = .ok (.iconst 0, 1) := by decide +kernel
theorem d30_70 : decode c30C 70 = .ok (.ldc2_w 49, 3) := by decide +kernel
theorem d30_73 : decode c30C 73 = .ok (.lastore, 1) := by decide +kernel
theorem d30_74 : decode c30C 74 = .ok (.aload_n 0, 1) := by decide +kernel
theorem d30_75 : decode c30C 75 = .ok (.getfield 18, 3) := by decide +kernel
theorem d30_78 : decode c30C 78 = .ok (.iconst 0, 1) := by decide +kernel
theorem d30_79 : decode c30C 79 = .ok (.new 9, 3) := by decide +kernel
theorem d30_82 : decode c30C 82 = .ok (.dup, 1) := by decide +kernel
theorem d30_83 : decode c30C 83 = .ok (.ldc2_w 49, 3) := by decide +kernel
theorem d30_86 : decode c30C 86 = .ok (.invokespecial 11, 3) := by decide +kernel
theorem d30_89 : decode c30C 89 = .ok (.aastore, 1) := by decide +kernel
theorem d30_90 : decode c30C 90 = .ok (.return_, 1) := by decide +kernel
theorem d30_61 : decode c30C 61 = .ok (.iconst 0, 1) := by decide +kernel
theorem pn_13 : plainName "com/example/uncross/uncross/engine/BookSide" = true := by first | (simp [plainName, overriddenIn]; done) | decide +kernel
def sn47 {Z : State} {a0 : Array Value} (hw : TW Z a0) := slot_ne (Or.inl (own_w hw 190 rfl)) (Or.inr (own_w hw 187 rfl)) (by decide) (t := (.array (.object "com/example/uncross/uncross/engine/BookSide$Level"))) (by decide) (t' := (.object "com/example/uncross/uncross/engine/BookSide$Level")) (by decide)
def sn48 {Z : State} {a0 : Array Value} (hw : TW Z a0) := slot_ne (Or.inl (own_w hw 193 rfl)) (Or.inr (own_w hw 187 rfl)) (by decide) (t := (.array .long)) (by decide) (t' := (.object "com/example/uncross/uncross/engine/BookSide$Level")) (by decide)
def sn49 {Z : State} {a0 : Array Value} (hw : TW Z a0) := slot_ne (Or.inl (own_w hw 195 rfl)) (Or.inr (own_w hw 187 rfl)) (by decide) (t := .int) (by decide) (t' := (.object "com/example/uncross/uncross/engine/BookSide$Level")) (by decide)
def sn50 {Z : State} {a0 : Array Value} (hw : TW Z a0) := slot_ne (Or.inl (own_w hw 303 rfl)) (Or.inr (own_w hw 187 rfl)) (by decide) (t := .int) (by decide) (t' := (.object "com/example/uncross/uncross/engine/BookSide$Level")) (by decide)
def sn51 {Z : State} {a0 : Array Value} (hw : TW Z a0) := slot_ne (Or.inr (own_w hw 216 rfl)) (Or.inr (own_w hw 187 rfl)) (by decide) (t := (.object "java/util/TreeMap")) (by decide) (t' := (.object "com/example/uncross/uncross/engine/BookSide$Level")) (by decide)
def sn52 {Z : State} {a0 : Array Value} (hw : TW Z a0) := slot_ne (Or.inr (own_w hw 220 rfl)) (Or.inr (own_w hw 187 rfl)) (by decide) (t := .boolean) (by decide) (t' := (.object "com/example/uncross/uncross/engine/BookSide$Level")) (by decide)
def sn53 {Z : State} {a0 : Array Value} (hw : TW Z a0) := slot_ne (Or.inl (own_w hw 193 rfl)) (Or.inl (own_w hw 190 rfl)) (by decide) (t := (.array .long)) (by decide) (t' := (.array (.object "com/example/uncross/uncross/engine/BookSide$Level"))) (by decide)
def sn54 {Z : State} {a0 : Array Value} (hw : TW Z a0) := slot_ne (Or.inl (own_w hw 195 rfl)) (Or.inl (own_w hw 190 rfl)) (by decide) (t := .int) (by decide) (t' := (.array (.object "com/example/uncross/uncross/engine/BookSide$Level"))) (by decide)
def sn55 {Z : State} {a0 : Array Value} (hw : TW Z a0) := slot_ne (Or.inl (own_w hw 303 rfl)) (Or.inl (own_w hw 190 rfl)) (by decide) (t := .int) (by decide) (t' := (.array (.object "com/example/uncross/uncross/engine/BookSide$Level"))) (by decide)
def sn56 {Z : State} {a0 : Array Value} (hw : TW Z a0) := slot_ne (Or.inr (own_w hw 187 rfl)) (Or.inl (own_w hw 190 rfl)) (by decide) (t := (.object "com/example/uncross/uncross/engine/BookSide$Level")) (by decide) (t' := (.array (.object "com/example/uncross/uncross/engine/BookSide$Level"))) (by decide)
def sn57 {Z : State} {a0 : Array Value} (hw : TW Z a0) := slot_ne (Or.inr (own_w hw 216 rfl)) (Or.inl (own_w hw 190 rfl)) (by decide) (t := (.object "java/util/TreeMap")) (by decide) (t' := (.array (.object "com/example/uncross/uncross/engine/BookSide$Level"))) (by decide)
def sn58 {Z : State} {a0 : Array Value} (hw : TW Z a0) := slot_ne (Or.inr (own_w hw 220 rfl)) (Or.inl (own_w hw 190 rfl)) (by decide) (t := .boolean) (by decide) (t' := (.array (.object "com/example/uncross/uncross/engine/BookSide$Level"))) (by decide)
def sn59 {Z : State} {a0 : Array Value} (hw : TW Z a0) := slot_ne (Or.inl (own_w hw 190 rfl)) (Or.inl (own_w hw 193 rfl)) (by decide) (t := (.array (.object "com/example/uncross/uncross/engine/BookSide$Level"))) (by decide) (t' := (.array .long)) (by decide)
def sn60 {Z : State} {a0 : Array Value} (hw : TW Z a0) := slot_ne (Or.inl (own_w hw 195 rfl)) (Or.inl (own_w hw 193 rfl)) (by decide) (t := .int) (by decide) (t' := (.array .long)) (by decide)
def sn61 {Z : State} {a0 : Array Value} (hw : TW Z a0) := slot_ne (Or.inl (own_w hw 303 rfl)) (Or.inl (own_w hw 193 rfl)) (by decide) (t := .int) (by decide) (t' := (.array .long)) (by decide)
def sn62 {Z : State} {a0 : Array Value} (hw : TW Z a0) := slot_ne (Or.inr (own_w hw 187 rfl)) (Or.inl (own_w hw 193 rfl)) (by decide) (t := (.object "com/example/uncross/uncross/engine/BookSide$Level")) (by decide) (t' := (.array .long)) (by decide)
def sn63 {Z : State} {a0 : Array Value} (hw : TW Z a0) := slot_ne (Or.inr (own_w hw 216 rfl)) (Or.inl (own_w hw 193 rfl)) (by decide) (t := (.object "java/util/TreeMap")) (by decide) (t' := (.array .long)) (by decide)
def sn64 {Z : State} {a0 : Array Value} (hw : TW Z a0) := slot_ne (Or.inr (own_w hw 220 rfl)) (Or.inl (own_w hw 193 rfl)) (by decide) (t := .boolean) (by decide) (t' := (.array .long)) (by decide)
def sn65 {Z : State} {a0 : Array Value} (hw : TW Z a0) := slot_ne (Or.inl (own_w hw 190 rfl)) (Or.inl (own_w hw 195 rfl)) (by decide) (t := (.array (.object "com/example/uncross/uncross/engine/BookSide$Level"))) (by decide) (t' := .int) (by decide)
def sn66 {Z : State} {a0 : Array Value} (hw : TW Z a0) := slot_ne (Or.inl (own_w hw 193 rfl)) (Or.inl (own_w hw 195 rfl)) (by decide) (t := (.array .long)) (by decide) (t' := .int) (by decide)
def sn67 {Z : State} {a0 : Array Value} (hw : TW Z a0) := slot_ne (Or.inl (own_w hw 303 rfl)) (Or.inl (own_w hw 195 rfl)) (by decide) (t := .int) (by decide) (t' := .int) (by decide)
def sn68 {Z : State} {a0 : Array Value} (hw : TW Z a0) := slot_ne (Or.inr (own_w hw 187 rfl)) (Or.inl (own_w hw 195 rfl)) (by decide) (t := (.object "com/example/uncross/uncross/engine/BookSide$Level")) (by decide) (t' := .int) (by decide)
def sn69 {Z : State} {a0 : Array Value} (hw : TW Z a0) := slot_ne (Or.inr (own_w hw 216 rfl)) (Or.inl (own_w hw 195 rfl)) (by decide) (t := (.object "java/util/TreeMap")) (by decide) (t' := .int) (by decide)
def sn70 {Z : State} {a0 : Array Value} (hw : TW Z a0) := slot_ne (Or.inr (own_w hw 220 rfl)) (Or.inl (own_w hw 195 rfl)) (by decide) (t := .boolean) (by decide) (t' := .int) (by decide)
def sn71 {Z : State} {a0 : Array Value} (hw : TW Z a0) := slot_ne (Or.inl (own_w hw 190 rfl)) (Or.inr (own_w hw 216 rfl)) (by decide) (t := (.array (.object "com/example/uncross/uncross/engine/BookSide$Level"))) (by decide) (t' := (.object "java/util/TreeMap")) (by decide)
def sn72 {Z : State} {a0 : Array Value} (hw : TW Z a0) := slot_ne (Or.inl (own_w hw 193 rfl)) (Or.inr (own_w hw 216 rfl)) (by decide) (t := (.array .long)) (by decide) (t' := (.object "java/util/TreeMap")) (by decide)
def sn73 {Z : State} {a0 : Array Value} (hw : TW Z a0) := slot_ne (Or.inl (own_w hw 195 rfl)) (Or.inr (own_w hw 216 rfl)) (by decide) (t := .int) (by decide) (t' := (.object "java/util/TreeMap")) (by decide)
def sn74 {Z : State} {a0 : Array Value} (hw : TW Z a0) := slot_ne (Or.inl (own_w hw 303 rfl)) (Or.inr (own_w hw 216 rfl)) (by decide) (t := .int) (by decide) (t' := (.object "java/util/TreeMap")) (by decide)
def sn75 {Z : State} {a0 : Array Value} (hw : TW Z a0) := slot_ne (Or.inr (own_w hw 187 rfl)) (Or.inr (own_w hw 216 rfl)) (by decide) (t := (.object "com/example/uncross/uncross/engine/BookSide$Level")) (by decide) (t' := (.object "java/util/TreeMap")) (by decide)
def sn76 {Z : State} {a0 : Array Value} (hw : TW Z a0) := slot_ne (Or.inr (own_w hw 220 rfl)) (Or.inr (own_w hw 216 rfl)) (by decide) (t := .boolean) (by decide) (t' := (.object "java/util/TreeMap")) (by decide)
def sn77 {Z : State} {a0 : Array Value} (hw : TW Z a0) := slot_ne (Or.inl (own_w hw 190 rfl)) (Or.inr (own_w hw 220 rfl)) (by decide) (t := (.array (.object "com/example/uncross/uncross/engine/BookSide$Level"))) (by decide) (t' := .boolean) (by decide)
def sn78 {Z : State} {a0 : Array Value} (hw : TW Z a0) := slot_ne (Or.inl (own_w hw 193 rfl)) (Or.inr (own_w hw 220 rfl)) (by decide) (t := (.array .long)) (by decide) (t' := .boolean) (by decide)
def sn79 {Z : State} {a0 : Array Value} (hw : TW Z a0) := slot_ne (Or.inl (own_w hw 195 rfl)) (Or.inr (own_w hw 220 rfl)) (by decide) (t := .int) (by decide) (t' := .boolean) (by decide)
def sn80 {Z : State} {a0 : Array Value} (hw : TW Z a0) := slot_ne (Or.inl (own_w hw 303 rfl)) (Or.inr (own_w hw 220 rfl)) (by decide) (t := .int) (by decide) (t' := .boolean) (by decide)
def sn81 {Z : State} {a0 : Array Value} (hw : TW Z a0) := slot_ne (Or.inr (own_w hw 187 rfl)) (Or.inr (own_w hw 220 rfl)) (by decide) (t := (.object "com/example/uncross/uncross/engine/BookSide$Level")) (by decide) (t' := .boolean) (by decide)
def sn82 {Z : State} {a0 : Array Value} (hw : TW Z a0) := slot_ne (Or.inr (own_w hw 216 rfl)) (Or.inr (own_w hw 220 rfl)) (by decide) (t := (.object "java/util/TreeMap")) (by decide) (t' := .boolean) (by decide)
theorem rmBi (l : Launch) (Z : State) (a0 : Array Value) (hw : TW Z a0) (b_ sd_ kb_ : Addr) (z_ : Int32) (h0 : Heap) (n0 : Nat) (Z0 : n0 ≤ h0.size) (O0 : Old Z n0 h0) (SB : Sta Z Z.heap "com/example/uncross/uncross/model/Side" "BUY" "Lcom/example/uncross/uncross/model/Side;" (.ref kb_)) (p0 : Exa Z h0 b_ k0C) (p1 : Fld Z h0 b_ k0C "levels" k6C .null) (p2 : Fld Z h0 b_ k0C "keys" "[J" .null) (p3 : Fld Z h0 b_ k0C "levelCount" "I" (.int (0 : Int32))) (p4 : Fld Z h0 b_ k0C "emptyLevels" "I" (.int (0 : Int32))) (p5 : Fld Z h0 b_ k0C "markets" k5C .null) (p6 : Fld Z h0 b_ k0C "deep" k9C .null) (p7 : Fld Z h0 b_ k0C "buying" "Z" (.int (0 : Int32))) (g0 : n0 ≤ b_) (hb : (z_ = 1 ∧ sd_ = kb_) ∨ (z_ = 0 ∧ sd_ ≠ kb_)) :
    Pays l Z (⟨"com/example/uncross/uncross/engine/BookSide", "<init>", "(Lcom/example/uncross/uncross/model/Side;)V"⟩ : MethodName) prog_15_method_1_code 2 none [] ({ frames := 3, cells := 6, slots := 160, locals := 40 } : Room) #[(.ref b_), (.ref sd_)] h0 (fun v h L => ∃ (n0_ : Addr) (n1_ : Addr) (n2_ : Addr) (n3_ : Addr) (n4_ : Addr), v = none ∧ Fr n0 L ∧ Keep h0 h [b_] ∧ Exa Z h b_ k0C ∧ Fld Z h b_ k0C "levels" k6C (.ref n1_) ∧ Fld Z h b_ k0C "keys" "[J" (.ref n2_) ∧ Fld Z h b_ k0C "levelCount" "I" (.int (1 : Int32)) ∧ Fld Z h b_ k0C "emptyLevels" "I" (.int (0 : Int32)) ∧ Fld Z h b_ k0C "markets" k5C (.ref n0_) ∧ Fld Z h b_ k0C "deep" k9C (.ref n3_) ∧ Fld Z h b_ k0C "buying" "Z" (.int z_) ∧ Exa Z h n0_ k2C ∧ Fld Z h n0_ k2C "first" k4C .null ∧ Fld Z h n0_ k2C "last" k4C .null ∧ Fld Z h n0_ k2C "deep" "Z" (.int (0 : Int32)) ∧ Rbk Z h n1_ k2C 64 (Upd (fun _ => Value.null) 0 (.ref n4_)) ∧ Exa Z h n2_ "[J" ∧ Arf Z h n2_ .long Value.long 64 (Upd (fun _ => (0 : Int64)) 0 (-9223372036854775808 : Int64)) ∧ Exa Z h n3_ k12C ∧ Fld Z h n3_ k12C "size" "I" (.int (0 : Int32)) ∧ Exa Z h n4_ k2C ∧ Fld Z h n4_ k2C "first" k4C .null ∧ Fld Z h n4_ k2C "last" k4C .null ∧ Fld Z h n4_ k2C "deep" "Z" (.int (0 : Int32)) ∧ h0.size ≤ n0_ ∧ h0.size ≤ n1_ ∧ h0.size ≤ n2_ ∧ h0.size ≤ n3_ ∧ h0.size ≤ n4_ ∧ n0_ ≠ n1_ ∧ n0_ ≠ n2_ ∧ n0_ ≠ n3_ ∧ n0_ ≠ n4_ ∧ n1_ ≠ n2_ ∧ n1_ ≠ n3_ ∧ n1_ ≠ n4_ ∧ n2_ ≠ n3_ ∧ n2_ ≠ n4_ ∧ n3_ ≠ n4_) := by
  refine Pays.walk (plainFor_of_name pn_13) (fun m => ef_4 m b_ sd_ ) ?_
  intro p e s m below meth c T0 X0 hx hby hml hown hnm hZ e0 hret hlk
  have dc := @Jvm.hb _ _ hby
  have ow := @own_w Z a0 hw
  have K0 := Keep.refl h0 ([b_] : List Addr)
  obtain ⟨T1, X1, e1, st1⟩ := initO X0 hx hZ hown (ow 176 rfl) (ow 35 rfl) (ow 36 rfl) e0 (g := (mkF m 1 #[sR b_, sR sd_] [(.ref b_)])) rfl (by rw [hml]; rfl) rfl (dc d30_1) (by decide) (W := 0) (own_le20 rfl) (by decide)
  obtain ⟨T2, h2, X2, e2, E2, A2, D2, U2, st2⟩ := newO X1 hx hZ hown (ow 177 rfl) (ow 178 rfl) (ow 179 rfl) e1 (g := (mkF m 5 #[sR b_, sR sd_] [(.ref b_)])) rfl (dc d30_5) (by decide) (by decide)
  obtain ⟨a2, g2⟩ : ∃ z, z = h0.size := ⟨_, rfl⟩
  rw [← g2] at A2 D2 U2 st2
  have M2 : h0.size ≤ a2 := Nat.le_trans K0.1 (Nat.le_of_eq g2.symm)
  have ne12 := own_neG p0.lt g2
  have Z13 := Nat.le_trans Z0 E2.1
  have K14 := K0.ext E2
  have F15 : Fld Z h2 a2 "com/example/uncross/uncross/engine/BookSide$Level" "first" "Lcom/example/uncross/uncross/engine/BookSide$Resting;" .null := D2 (Or.inl (ow 229 rfl)) (ty := (.object "com/example/uncross/uncross/engine/BookSide$Resting")) (by decide)
  have F16 : Fld Z h2 a2 "com/example/uncross/uncross/engine/BookSide$Level" "last" "Lcom/example/uncross/uncross/engine/BookSide$Resting;" .null := D2 (Or.inl (ow 249 rfl)) (ty := (.object "com/example/uncross/uncross/engine/BookSide$Resting")) (by decide)
  have F17 : Fld Z h2 a2 "com/example/uncross/uncross/engine/BookSide$Level" "deep" "Z" (.int 0) := D2 (Or.inl (ow 295 rfl)) (ty := .boolean) (by decide)
  have F18 : Fld Z h2 a2 "com/example/uncross/uncross/engine/BookSide$Level" "key" "J" (.long 0) := D2 (Or.inr (ow 185 rfl)) (ty := .long) (by decide)
  have G2 : n0 ≤ a2 := Nat.le_trans Z0 (Nat.le_of_eq g2.symm)
  refine Goes.on (T' := T2) (g' := (mkF m 10 #[sR b_, sR sd_] [(.long 0), (.ref a2), (.ref a2), (.ref b_)])) (fun _ k => XS.aloadN X0.here hx rfl (dc d30_0) rfl rfl (st1 _ (XS.aloadN X1.here hx rfl (dc d30_4) rfl rfl (st2 _ (XS.dup X2.here hx rfl (dc d30_8) rfl rfl (XS.lconst X2.here hx rfl (dc d30_9) k)))))) ?_
  refine Goes.callC X2 hx hZ 2 rfl hown (ow 180 rfl) (ow 181 rfl) (ow 179 rfl) (ow 182 rfl) (by decide) e2 (rmLv l Z a0 hw a2 (0 : Int64) h2 n0 Z13 A2 G2 F15 F16 F17 F18) (by decide) (by decide) (by decide) (by decide) rfl (by rw [hml]; rfl) (a := a2) (argsL := [(.long 0)]) (rest := [(.ref a2), (.ref b_)]) rfl (lenOf pd_13 rfl) rfl (own_le20 rfl) (dc d30_10) ?_
  rintro v19 T19 L19 X19 ⟨rfl, N19q, K19, A19, B19_first, B19_last, B19_deep, B19_key⟩
  show Goes p e below _ T19 (mkF m 13 #[sR b_, sR sd_] [(.ref a2), (.ref b_)])
  have C20 := (p0.ext E2).keep K19
  have C25 := (p5.ext E2).keep K19 (ninS ne12 nin0)
  have Z30 := Nat.le_trans Z13 K19.1
  have K31 := K14.trans K19 (allS (Or.inr M2) all0)
  obtain ⟨T32, h32, X32, e32, W32, st32⟩ := putF X19 hx hZ hown (host := "") (Or.inl (ow 186 rfl)) Via.refl rfl C25 C20 (Or.inr ⟨(ow 187 rfl), rfl, hnm⟩) (ow 171 rfl) (ty := (.object "com/example/uncross/uncross/engine/BookSide$Level")) (by decide) rfl rfl (g := (mkF m 13 #[sR b_, sR sd_] [(.ref a2), (.ref b_)])) rfl rfl (dc d30_13)
  have C33 := C20.wr W32
  have C42 := A19.wr W32
  have Z47 := own_leW W32 Z30
  have K48 := K31.wr W32 (Or.inl (List.mem_of_getElem? (i := 0) rfl))
  obtain ⟨T49, h49, cA49, X49, e49, E49, A49, O49, st49⟩ := newR X32 hx hZ hown (C := "com/example/uncross/uncross/engine/BookSide$Level") (ow 177 rfl) (ow 188 rfl) e32 (g := (mkF m 19 #[sR b_, sR sd_] [(.int 64), (.ref b_)])) rfl (dc d30_19) rfl (by decide) (cap := 64) (by decide) (by decide) (by decide) (by decide)
  obtain ⟨a49, g49⟩ : ∃ z, z = h32.size := ⟨_, rfl⟩
  rw [← g49] at A49 st49
  have M49 : h0.size ≤ a49 := Nat.le_trans K48.1 (Nat.le_of_eq g49.symm)
  have C50 := C33.ext E49
  have C51 := (((p1.ext E2).keep K19 (ninS ne12 nin0)).other W32 (Or.inr (sn47 hw))).ext E49
  have ne64 := own_neG C33.lt g49
  have ne65 := own_neG C42.lt g49
  have Z66 := Nat.le_trans Z47 E49.1
  have K67 := K48.ext E49
  have B49 : Rbk Z h49 a49 "com/example/uncross/uncross/engine/BookSide$Level" 64 (fun _ => Value.null) := Rbk.new A49 O49
  have G49 : n0 ≤ a49 := Nat.le_trans Z47 (Nat.le_of_eq g49.symm)
  obtain ⟨T68, h68, X68, e68, W68, st68⟩ := putF X49 hx hZ hown (host := "") (Or.inl (ow 189 rfl)) Via.refl e49 C51 C50 (Or.inl (ow 190 rfl)) (ow 171 rfl) (ty := (.array (.object "com/example/uncross/uncross/engine/BookSide$Level"))) (by decide) rfl rfl (g := (mkF m 22 #[sR b_, sR sd_] [(.ref a49), (.ref b_)])) rfl rfl (dc d30_22)
  have C69 := C50.wr W68
  have C78 := (C42.ext E49).wr W68
  have C83 := B49.other W68 ne64.symm
  have Z84 := own_leW W68 Z66
  have K85 := K67.wr W68 (Or.inl (List.mem_of_getElem? (i := 0) rfl))
  obtain ⟨T86, h86, cA86, X86, e86, E86, A86, J86, st86⟩ := newPE X68 hx hZ (ow 191 rfl) e68 (g := (mkF m 28 #[sR b_, sR sd_] [(.int 64), (.ref b_)])) rfl (dc d30_28) rfl (by decide) (cap := 64) (by decide) (by decide) (by decide) (by decide) (ad := "[J") (by decide)
  obtain ⟨a86, g86⟩ : ∃ z, z = h68.size := ⟨_, rfl⟩
  rw [← g86] at A86 J86 st86
  have M86 : h0.size ≤ a86 := Nat.le_trans K85.1 (Nat.le_of_eq g86.symm)
  have C87 := C69.ext E86
  have C89 := (((((p2.ext E2).keep K19 (ninS ne12 nin0)).other W32 (Or.inr (sn48 hw))).ext E49).other W68 (Or.inr (sn53 hw))).ext E86
  have ne102 := own_neG C69.lt g86
  have ne103 := own_neG C78.lt g86
  have ne104 := own_neG C83.lt g86
  have Z105 := Nat.le_trans Z84 E86.1
  have K106 := K85.ext E86
  have B86 : Arf Z h86 a86 .long Value.long 64 (fun _ => (0 : Int64)) := Arf.new A86 rfl
  have G86 : n0 ≤ a86 := Nat.le_trans Z84 (Nat.le_of_eq g86.symm)
  obtain ⟨T107, h107, X107, e107, W107, st107⟩ := putF X86 hx hZ hown (host := "") (Or.inl (ow 192 rfl)) Via.refl e86 C89 C87 (Or.inl (ow 193 rfl)) (ow 171 rfl) (ty := (.array .long)) (by decide) rfl rfl (g := (mkF m 30 #[sR b_, sR sd_] [(.ref a86), (.ref b_)])) rfl rfl (dc d30_30)
  have C108 := C87.wr W107
  have C111 := ((((((p3.ext E2).keep K19 (ninS ne12 nin0)).other W32 (Or.inr (sn49 hw))).ext E49).other W68 (Or.inr (sn54 hw))).ext E86).other W107 (Or.inr (sn60 hw))
  have Z125 := own_leW W107 Z105
  have K126 := K106.wr W107 (Or.inl (List.mem_of_getElem? (i := 0) rfl))
  obtain ⟨T127, h127, X127, e127, W127, st127⟩ := putF X107 hx hZ hown (host := "") (Or.inl (ow 194 rfl)) Via.refl e107 C111 C108 (Or.inl (ow 195 rfl)) (ow 171 rfl) (ty := .int) (by decide) rfl rfl (g := (mkF m 35 #[sR b_, sR sd_] [(.int 1), (.ref b_)])) rfl rfl (dc d30_35)
  have C128 := C108.wr W127
  have C137 := ((C78.ext E86).wr W107).wr W127
  have C142 := ((C83.ext E86).other W107 ne64.symm).other W127 ne64.symm
  have C143 := (J86.wr W107).wr W127
  have Z145 := own_leW W127 Z125
  have K146 := K126.wr W127 (Or.inl (List.mem_of_getElem? (i := 0) rfl))
  obtain ⟨T147, h147, X147, e147, E147, A147, D147, U147, st147⟩ := newO X127 hx hZ hown (ow 196 rfl) (ow 197 rfl) (ow 198 rfl) e127 (g := (mkF m 39 #[sR b_, sR sd_] [(.ref b_)])) rfl (dc d30_39) (by decide) (by decide)
  obtain ⟨a147, g147⟩ : ∃ z, z = h127.size := ⟨_, rfl⟩
  rw [← g147] at A147 D147 U147 st147
  have M147 : h0.size ≤ a147 := Nat.le_trans K146.1 (Nat.le_of_eq g147.symm)
  have ne165 := own_neG C128.lt g147
  have ne166 := own_neG C137.lt g147
  have ne167 := own_neG C142.lt g147
  have ne168 := own_neG C143.lt g147
  have Z169 := Nat.le_trans Z145 E147.1
  have K170 := K146.ext E147
  have F171 : Fld Z h147 a147 "java/util/TreeMap" "size" "I" (.int 0) := D147 (Or.inl (ow 210 rfl)) (ty := .int) (by decide)
  have F172 : Fld Z h147 a147 "java/util/TreeMap" "modCount" "I" (.int 0) := D147 (Or.inl (ow 212 rfl)) (ty := .int) (by decide)
  have F173 : Fld Z h147 a147 "java/util/TreeMap" "comparator" "Ljava/util/Comparator;" .null := D147 (Or.inr (ow 214 rfl)) (ty := (.object "java/util/Comparator")) (by decide)
  have G147 : n0 ≤ a147 := Nat.le_trans Z145 (Nat.le_of_eq g147.symm)
  refine Goes.on (T' := T147) (g' := (mkF m 43 #[sR b_, sR sd_] [(.ref a147), (.ref a147), (.ref b_)])) (fun _ k => st32 _ (XS.aloadN X32.here hx rfl (dc d30_16) rfl rfl (XS.bipush X32.here hx rfl (dc d30_17) (st49 _ (st68 _ (XS.aloadN X68.here hx rfl (dc d30_25) rfl rfl (XS.bipush X68.here hx rfl (dc d30_26) (st86 _ (st107 _ (XS.aloadN X107.here hx rfl (dc d30_33) rfl rfl (XS.iconst X107.here hx rfl (dc d30_34) (st127 _ (XS.aloadN X127.here hx rfl (dc d30_38) rfl rfl (st147 _ (XS.dup X147.here hx rfl (dc d30_42) rfl rfl k))))))))))))))) ?_
  refine Goes.callC X147 hx hZ 2 rfl hown (ow 199 rfl) (ow 200 rfl) (ow 198 rfl) (ow 201 rfl) (by decide) e147 (rmTm l Z a0 hw a147 h147 n0 Z169 A147 G147 F171 F172 F173) (by decide) (by decide) (by decide) (by decide) rfl (by rw [hml]; rfl) (a := a147) (argsL := []) (rest := [(.ref a147), (.ref b_)]) rfl (lenOf pd_15 rfl) rfl (own_le20 rfl) (dc d30_43) ?_
  rintro v174 T174 L174 X174 ⟨rfl, N174q, K174, A174, B174_size, B174_modCount, B174_comparator⟩
  show Goes p e below _ T174 (mkF m 46 #[sR b_, sR sd_] [(.ref a147), (.ref b_)])
  have C175 := (C128.ext E147).keep K174
  have C181 := (((((((((p6.ext E2).keep K19 (ninS ne12 nin0)).other W32 (Or.inr (sn51 hw))).ext E49).other W68 (Or.inr (sn57 hw))).ext E86).other W107 (Or.inr (sn63 hw))).other W127 (Or.inr (sn69 hw))).ext E147).keep K174 (ninS ne165 nin0)
  have Z193 := Nat.le_trans Z169 K174.1
  have K194 := K170.trans K174 (allS (Or.inr M147) all0)
  obtain ⟨T195, h195, X195, e195, W195, st195⟩ := putF X174 hx hZ hown (host := "") (Or.inl (ow 215 rfl)) Via.refl rfl C181 C175 (Or.inr ⟨(ow 216 rfl), rfl, hnm⟩) (ow 171 rfl) (ty := (.object "java/util/TreeMap")) (by decide) rfl rfl (g := (mkF m 46 #[sR b_, sR sd_] [(.ref a147), (.ref b_)])) rfl rfl (dc d30_46)
  have N195 := Fr.snoc X195 (Fr.app (Fr.snoc X127 (Fr.snoc X107 (Fr.snoc X68 (Fr.snoc X32 (Fr.app (Fr.nil n0) N19q) g0) g0) g0) g0) N174q) g0
  have C196 := C175.wr W195
  have C197 := ((((((C51.same W68).ext E86).other W107 (Or.inr (sn59 hw))).other W127 (Or.inr (sn65 hw))).ext E147).keep K174 (ninS ne165 nin0)).other W195 (Or.inr (sn71 hw))
  have C198 := ((((C89.same W107).other W127 (Or.inr (sn66 hw))).ext E147).keep K174 (ninS ne165 nin0)).other W195 (Or.inr (sn72 hw))
  have C199 := (((C111.same W127).ext E147).keep K174 (ninS ne165 nin0)).other W195 (Or.inr (sn73 hw))
  have C200 := ((((((((((p4.ext E2).keep K19 (ninS ne12 nin0)).other W32 (Or.inr (sn50 hw))).ext E49).other W68 (Or.inr (sn55 hw))).ext E86).other W107 (Or.inr (sn61 hw))).other W127 (Or.inr (sn67 hw))).ext E147).keep K174 (ninS ne165 nin0)).other W195 (Or.inr (sn74 hw))
  have C201 := ((((((((C25.same W32).ext E49).other W68 (Or.inr (sn56 hw))).ext E86).other W107 (Or.inr (sn62 hw))).other W127 (Or.inr (sn68 hw))).ext E147).keep K174 (ninS ne165 nin0)).other W195 (Or.inr (sn75 hw))
  have C202 := C181.same W195
  have C203 := ((((((((((p7.ext E2).keep K19 (ninS ne12 nin0)).other W32 (Or.inr (sn52 hw))).ext E49).other W68 (Or.inr (sn58 hw))).ext E86).other W107 (Or.inr (sn64 hw))).other W127 (Or.inr (sn70 hw))).ext E147).keep K174 (ninS ne165 nin0)).other W195 (Or.inr (sn76 hw))
  have C204 := ((((((((((O0.ext E2).keep K19 (allS G2 all0)).wr W32 g0).ext E49).wr W68 g0).ext E86).wr W107 g0).wr W127 g0).ext E147).keep K174 (allS G147 all0)).wr W195 g0
  have C205 := ((C137.ext E147).keep K174).wr W195
  have C206 := ((((((((B19_first.other W32 (Or.inl ne12.symm)).ext E49).other W68 (Or.inl ne12.symm)).ext E86).other W107 (Or.inl ne12.symm)).other W127 (Or.inl ne12.symm)).ext E147).keep K174 (ninS ne166 nin0)).other W195 (Or.inl ne12.symm)
  have C207 := ((((((((B19_last.other W32 (Or.inl ne12.symm)).ext E49).other W68 (Or.inl ne12.symm)).ext E86).other W107 (Or.inl ne12.symm)).other W127 (Or.inl ne12.symm)).ext E147).keep K174 (ninS ne166 nin0)).other W195 (Or.inl ne12.symm)
  have C208 := ((((((((B19_deep.other W32 (Or.inl ne12.symm)).ext E49).other W68 (Or.inl ne12.symm)).ext E86).other W107 (Or.inl ne12.symm)).other W127 (Or.inl ne12.symm)).ext E147).keep K174 (ninS ne166 nin0)).other W195 (Or.inl ne12.symm)
  have C210 := ((C142.ext E147).keep K174 (ninS ne167 nin0)).other W195 ne64.symm
  have C211 := ((C143.ext E147).keep K174).wr W195
  have C212 := ((((B86.other W107 ne102.symm).other W127 ne102.symm).ext E147).keep K174 (ninS ne168 nin0)).other W195 ne102.symm
  have C213 := A174.wr W195
  have C214 := B174_size.other W195 (Or.inl ne165.symm)
  have Z217 := own_leW W195 Z193
  have K218 := K194.wr W195 (Or.inl (List.mem_of_getElem? (i := 0) rfl))
  refine Goes.on (T' := T195) (g' := (mkF m 49 #[sR b_, sR sd_] [])) (fun _ k => st195 _ k) ?_
  rcases hb with ⟨rfl, hs1⟩ | ⟨rfl, hs1⟩
  · obtain ⟨T219, X219, e219, st219⟩ := getS (host := "") X195 hx hZ hown (ow 217 rfl) Via.refl e195 (Sta.ext C204.2 SB) (g := (mkF m 51 #[sR b_, sR sd_] [(.ref sd_), (.ref b_)])) rfl (dc d30_51)
    obtain ⟨T220, h220, X220, e220, W220, st220⟩ := putF X219 hx hZ hown (host := "") (Or.inl (ow 219 rfl)) Via.refl e219 C203 C196 (Or.inr ⟨(ow 220 rfl), rfl, hnm⟩) (ow 171 rfl) (ty := .boolean) (by decide) rfl rfl (g := (mkF m 62 #[sR b_, sR sd_] [(.int 1), (.ref b_)])) rfl rfl (dc d30_62)
    have C223 := C198.other W220 (Or.inr (sn78 hw))
    have C237 := C212.other W220 ne102.symm
    have Z242 := own_leW W220 Z217
    have K243 := K218.wr W220 (Or.inl (List.mem_of_getElem? (i := 0) rfl))
    obtain ⟨T244, X244, e244, st244⟩ := getF X220 hx hZ hown (host := "") (Or.inl (ow 192 rfl)) Via.refl e220 C223 (g := (mkF m 66 #[sR b_, sR sd_] [(.ref b_)])) rfl rfl (dc d30_66)
    obtain ⟨T245, h245, X245, e245, W245, B245, st245⟩ := wrJ X244 hx hZ e244 C237 (by decide)  (g := (mkF m 73 #[sR b_, sR sd_] [(.long (-9223372036854775808 : Int64)), (.int 0), (.ref a86)])) rfl rfl (dc d30_73)
    have C246 := (C196.wr W220).wr W245
    have C247 := (C197.other W220 (Or.inr (sn77 hw))).other W245 (Or.inl ne102)
    have C255 := (C205.wr W220).wr W245
    have C260 := (C210.other W220 ne64.symm).other W245 ne104
    have C261 := (C211.wr W220).wr W245
    have C262 := (C213.wr W220).wr W245
    have Z266 := own_leW W245 Z242
    have K267 := K243.wr W245 (Or.inr M86)
    have B245 : Arf Z h245 a86 .long Value.long 64 (Upd (fun _ => (0 : Int64)) 0 (-9223372036854775808 : Int64)) := B245
    obtain ⟨T268, X268, e268, st268⟩ := getF X245 hx hZ hown (host := "") (Or.inl (ow 189 rfl)) Via.refl e245 C247 (g := (mkF m 75 #[sR b_, sR sd_] [(.ref b_)])) rfl rfl (dc d30_75)
    obtain ⟨T269, h269, X269, e269, E269, A269, D269, U269, st269⟩ := newO X268 hx hZ hown (ow 177 rfl) (ow 178 rfl) (ow 179 rfl) e268 (g := (mkF m 79 #[sR b_, sR sd_] [(.int 0), (.ref a49)])) rfl (dc d30_79) (by decide) (by decide)
    obtain ⟨a269, g269⟩ : ∃ z, z = h245.size := ⟨_, rfl⟩
    rw [← g269] at A269 D269 U269 st269
    have M269 : h0.size ≤ a269 := Nat.le_trans K267.1 (Nat.le_of_eq g269.symm)
    have ne291 := own_neG C246.lt g269
    have ne292 := own_neG C255.lt g269
    have ne293 := own_neG C260.lt g269
    have ne294 := own_neG C261.lt g269
    have ne295 := own_neG C262.lt g269
    have Z296 := Nat.le_trans Z266 E269.1
    have K297 := K267.ext E269
    have F298 : Fld Z h269 a269 "com/example/uncross/uncross/engine/BookSide$Level" "first" "Lcom/example/uncross/uncross/engine/BookSide$Resting;" .null := D269 (Or.inl (ow 229 rfl)) (ty := (.object "com/example/uncross/uncross/engine/BookSide$Resting")) (by decide)
    have F299 : Fld Z h269 a269 "com/example/uncross/uncross/engine/BookSide$Level" "last" "Lcom/example/uncross/uncross/engine/BookSide$Resting;" .null := D269 (Or.inl (ow 249 rfl)) (ty := (.object "com/example/uncross/uncross/engine/BookSide$Resting")) (by decide)
    have F300 : Fld Z h269 a269 "com/example/uncross/uncross/engine/BookSide$Level" "deep" "Z" (.int 0) := D269 (Or.inl (ow 295 rfl)) (ty := .boolean) (by decide)
    have F301 : Fld Z h269 a269 "com/example/uncross/uncross/engine/BookSide$Level" "key" "J" (.long 0) := D269 (Or.inr (ow 185 rfl)) (ty := .long) (by decide)
    have G269 : n0 ≤ a269 := Nat.le_trans Z266 (Nat.le_of_eq g269.symm)
    refine Goes.on (T' := T269) (g' := (mkF m 86 #[sR b_, sR sd_] [(.long (-9223372036854775808 : Int64)), (.ref a269), (.ref a269), (.int 0), (.ref a49)])) (fun _ k => XS.aloadN X195.here hx rfl (dc d30_49) rfl rfl (XS.aloadN X195.here hx rfl (dc d30_50) rfl rfl (st219 _ (XT.acmpNo X219.here hx rfl (dc d30_54) rfl rfl rfl (XT.aa_ne_f (congrArg Value.ref hs1)) (XS.iconst X219.here hx rfl (dc d30_57) (XS.goto X219.here hx rfl (pc0 := 58) (pc' := 62) rfl (dc d30_58) (by decide) (by decide) (st220 _ (XS.aloadN X220.here hx rfl (dc d30_65) rfl rfl (st244 _ (XS.iconst X244.here hx rfl (dc d30_69) (X244.ldc2Long hx hown (mvT hZ (ow 221 rfl)) (g := (mkF m 70 #[sR b_, sR sd_] [(.int 0), (.ref a86)])) rfl (dc d30_70) _ (st245 _ (XS.aloadN X245.here hx rfl (dc d30_74) rfl rfl (st268 _ (XS.iconst X268.here hx rfl (dc d30_78) (st269 _ (XS.dup X269.here hx rfl (dc d30_82) rfl rfl (X269.ldc2Long hx hown (mvT hZ (ow 221 rfl)) (g := (mkF m 83 #[sR b_, sR sd_] [(.ref a269), (.ref a269), (.int 0), (.ref a49)])) rfl (dc d30_83) _ k)))))))))))))))))) ?_
    refine Goes.callC X269 hx hZ 3 rfl hown (ow 180 rfl) (ow 181 rfl) (ow 179 rfl) (ow 182 rfl) (by decide) e269 (rmLv l Z a0 hw a269 (-9223372036854775808 : Int64) h269 n0 Z296 A269 G269 F298 F299 F300 F301) (by decide) (by decide) (by decide) (by decide) rfl (by rw [hml]; rfl) (a := a269) (argsL := [(.long (-9223372036854775808 : Int64))]) (rest := [(.ref a269), (.int 0), (.ref a49)]) rfl (lenOf pd_13 rfl) rfl (own_le20 rfl) (dc d30_86) ?_
    rintro v302 T302 L302 X302 ⟨rfl, N302q, K302, A302, B302_first, B302_last, B302_deep, B302_key⟩
    show Goes p e below _ T302 (mkF m 89 #[sR b_, sR sd_] [(.ref a269), (.int 0), (.ref a49)])
    have C317 := (C260.ext E269).keep K302 (ninS ne293 nin0)
    have K326 := K297.trans K302 (allS (Or.inr M269) all0)
    obtain ⟨T327, h327, X327, e327, W327, B327, st327⟩ := wrR X302 hx hZ rfl C317 (Or.inr ⟨_, rfl, Ins.self A302⟩) (by decide) (g := (mkF m 89 #[sR b_, sR sd_] [(.ref a269), (.int 0), (.ref a49)])) rfl rfl (dc d30_89)
    have N327 := Fr.snoc X327 (Fr.app (Fr.snoc X245 (Fr.snoc X220 N195 g0) G86) N302q) G49
    have C328 := ((C246.ext E269).keep K302).wr W327
    have C329 := ((C247.ext E269).keep K302 (ninS ne291 nin0)).other W327 (Or.inl ne64)
    have C330 := (((C223.other W245 (Or.inl ne102)).ext E269).keep K302 (ninS ne291 nin0)).other W327 (Or.inl ne64)
    have C331 := ((((C199.other W220 (Or.inr (sn79 hw))).other W245 (Or.inl ne102)).ext E269).keep K302 (ninS ne291 nin0)).other W327 (Or.inl ne64)
    have C332 := ((((C200.other W220 (Or.inr (sn80 hw))).other W245 (Or.inl ne102)).ext E269).keep K302 (ninS ne291 nin0)).other W327 (Or.inl ne64)
    have C333 := ((((C201.other W220 (Or.inr (sn81 hw))).other W245 (Or.inl ne102)).ext E269).keep K302 (ninS ne291 nin0)).other W327 (Or.inl ne64)
    have C334 := ((((C202.other W220 (Or.inr (sn82 hw))).other W245 (Or.inl ne102)).ext E269).keep K302 (ninS ne291 nin0)).other W327 (Or.inl ne64)
    have C335 := ((((C203.same W220).other W245 (Or.inl ne102)).ext E269).keep K302 (ninS ne291 nin0)).other W327 (Or.inl ne64)
    have C337 := ((C255.ext E269).keep K302).wr W327
    have C338 := ((((C206.other W220 (Or.inl ne12.symm)).other W245 (Or.inl ne103)).ext E269).keep K302 (ninS ne292 nin0)).other W327 (Or.inl ne65)
    have C339 := ((((C207.other W220 (Or.inl ne12.symm)).other W245 (Or.inl ne103)).ext E269).keep K302 (ninS ne292 nin0)).other W327 (Or.inl ne65)
    have C340 := ((((C208.other W220 (Or.inl ne12.symm)).other W245 (Or.inl ne103)).ext E269).keep K302 (ninS ne292 nin0)).other W327 (Or.inl ne65)
    have C342 := ((C261.ext E269).keep K302).wr W327
    have C343 := ((B245.ext E269).keep K302 (ninS ne294 nin0)).other W327 ne104.symm
    have C344 := ((C262.ext E269).keep K302).wr W327
    have C345 := ((((C214.other W220 (Or.inl ne165.symm)).other W245 (Or.inl ne168.symm)).ext E269).keep K302 (ninS ne295 nin0)).other W327 (Or.inl ne167.symm)
    have C348 := A302.wr W327
    have C349 := B302_first.other W327 (Or.inl ne293.symm)
    have C350 := B302_last.other W327 (Or.inl ne293.symm)
    have C351 := B302_deep.other W327 (Or.inl ne293.symm)
    have K354 := K326.wr W327 (Or.inr M49)
    have B327 : Rbk Z h327 a49 "com/example/uncross/uncross/engine/BookSide$Level" 64 (Upd (fun _ => Value.null) 0 (.ref a269)) := B327
    refine Goes.on (T' := T327) (g' := (mkF m 90 #[sR b_, sR sd_] [])) (fun _ k => st327 _ k) ?_
    exact Goes.retV X327 hx hlk hret (dc d30_90) (by decide) (by decide) (by rw [e327]; exact ⟨a2, a49, a86, a147, a269, rfl, N327, K354, C328, C329, C330, C331, C332, C333, C334, C335, C337, C338, C339, C340, B327, C342, C343, C344, C345, C348, C349, C350, C351, M2, M49, M86, M147, M269, ne65, ne103, ne166, ne292, ne104, ne167, ne293, ne168, ne294, ne295⟩)
  · obtain ⟨T355, X355, e355, st355⟩ := getS (host := "") X195 hx hZ hown (ow 217 rfl) Via.refl e195 (Sta.ext C204.2 SB) (g := (mkF m 51 #[sR b_, sR sd_] [(.ref sd_), (.ref b_)])) rfl (dc d30_51)
    obtain ⟨T356, h356, X356, e356, W356, st356⟩ := putF X355 hx hZ hown (host := "") (Or.inl (ow 219 rfl)) Via.refl e355 C203 C196 (Or.inr ⟨(ow 220 rfl), rfl, hnm⟩) (ow 171 rfl) (ty := .boolean) (by decide) rfl rfl (g := (mkF m 62 #[sR b_, sR sd_] [(.int 0), (.ref b_)])) rfl rfl (dc d30_62)
    have C359 := C198.other W356 (Or.inr (sn78 hw))
    have C373 := C212.other W356 ne102.symm
    have Z378 := own_leW W356 Z217
    have K379 := K218.wr W356 (Or.inl (List.mem_of_getElem? (i := 0) rfl))
    obtain ⟨T380, X380, e380, st380⟩ := getF X356 hx hZ hown (host := "") (Or.inl (ow 192 rfl)) Via.refl e356 C359 (g := (mkF m 66 #[sR b_, sR sd_] [(.ref b_)])) rfl rfl (dc d30_66)
    obtain ⟨T381, h381, X381, e381, W381, B381, st381⟩ := wrJ X380 hx hZ e380 C373 (by decide)  (g := (mkF m 73 #[sR b_, sR sd_] [(.long (-9223372036854775808 : Int64)), (.int 0), (.ref a86)])) rfl rfl (dc d30_73)
    have C382 := (C196.wr W356).wr W381
    have C383 := (C197.other W356 (Or.inr (sn77 hw))).other W381 (Or.inl ne102)
    have C391 := (C205.wr W356).wr W381
    have C396 := (C210.other W356 ne64.symm).other W381 ne104
    have C397 := (C211.wr W356).wr W381
    have C398 := (C213.wr W356).wr W381
    have Z402 := own_leW W381 Z378
    have K403 := K379.wr W381 (Or.inr M86)
    have B381 : Arf Z h381 a86 .long Value.long 64 (Upd (fun _ => (0 : Int64)) 0 (-9223372036854775808 : Int64)) := B381
    obtain ⟨T404, X404, e404, st404⟩ := getF X381 hx hZ hown (host := "") (Or.inl (ow 189 rfl)) Via.refl e381 C383 (g := (mkF m 75 #[sR b_, sR sd_] [(.ref b_)])) rfl rfl (dc d30_75)
    obtain ⟨T405, h405, X405, e405, E405, A405, D405, U405, st405⟩ := newO X404 hx hZ hown (ow 177 rfl) (ow 178 rfl) (ow 179 rfl) e404 (g := (mkF m 79 #[sR b_, sR sd_] [(.int 0), (.ref a49)])) rfl (dc d30_79) (by decide) (by decide)
    obtain ⟨a405, g405⟩ : ∃ z, z = h381.size := ⟨_, rfl⟩
    rw [← g405] at A405 D405 U405 st405
    have M405 : h0.size ≤ a405 := Nat.le_trans K403.1 (Nat.le_of_eq g405.symm)
    have ne427 := own_neG C382.lt g405
    have ne428 := own_neG C391.lt g405
    have ne429 := own_neG C396.lt g405
    have ne430 := own_neG C397.lt g405
    have ne431 := own_neG C398.lt g405
    have Z432 := Nat.le_trans Z402 E405.1
    have K433 := K403.ext E405
    have F434 : Fld Z h405 a405 "com/example/uncross/uncross/engine/BookSide$Level" "first" "Lcom/example/uncross/uncross/engine/BookSide$Resting;" .null := D405 (Or.inl (ow 229 rfl)) (ty := (.object "com/example/uncross/uncross/engine/BookSide$Resting")) (by decide)
    have F435 : Fld Z h405 a405 "com/example/uncross/uncross/engine/BookSide$Level" "last" "Lcom/example/uncross/uncross/engine/BookSide$Resting;" .null := D405 (Or.inl (ow 249 rfl)) (ty := (.object "com/example/uncross/uncross/engine/BookSide$Resting")) (by decide)
    have F436 : Fld Z h405 a405 "com/example/uncross/uncross/engine/BookSide$Level" "deep" "Z" (.int 0) := D405 (Or.inl (ow 295 rfl)) (ty := .boolean) (by decide)
    have F437 : Fld Z h405 a405 "com/example/uncross/uncross/engine/BookSide$Level" "key" "J" (.long 0) := D405 (Or.inr (ow 185 rfl)) (ty := .long) (by decide)
    have G405 : n0 ≤ a405 := Nat.le_trans Z402 (Nat.le_of_eq g405.symm)
    refine Goes.on (T' := T405) (g' := (mkF m 86 #[sR b_, sR sd_] [(.long (-9223372036854775808 : Int64)), (.ref a405), (.ref a405), (.int 0), (.ref a49)])) (fun _ k => XS.aloadN X195.here hx rfl (dc d30_49) rfl rfl (XS.aloadN X195.here hx rfl (dc d30_50) rfl rfl (st355 _ (XT.acmpYes X355.here hx rfl (pc0 := 54) (pc' := 61) rfl (dc d30_54) rfl rfl rfl (XT.aa_ne_t (fun q => hs1 (Value.ref.inj q))) (by decide) (by decide) (XS.iconst X355.here hx rfl (dc d30_61) (st356 _ (XS.aloadN X356.here hx rfl (dc d30_65) rfl rfl (st380 _ (XS.iconst X380.here hx rfl (dc d30_69) (X380.ldc2Long hx hown (mvT hZ (ow 221 rfl)) (g := (mkF m 70 #[sR b_, sR sd_] [(.int 0), (.ref a86)])) rfl (dc d30_70) _ (st381 _ (XS.aloadN X381.here hx rfl (dc d30_74) rfl rfl (st404 _ (XS.iconst X404.here hx rfl (dc d30_78) (st405 _ (XS.dup X405.here hx rfl (dc d30_82) rfl rfl (X405.ldc2Long hx hown (mvT hZ (ow 221 rfl)) (g := (mkF m 83 #[sR b_, sR sd_] [(.ref a405), (.ref a405), (.int 0), (.ref a49)])) rfl (dc d30_83) _ k))))))))))))))))) ?_
    refine Goes.callC X405 hx hZ 3 rfl hown (ow 180 rfl) (ow 181 rfl) (ow 179 rfl) (ow 182 rfl) (by decide) e405 (rmLv l Z a0 hw a405 (-9223372036854775808 : Int64) h405 n0 Z432 A405 G405 F434 F435 F436 F437) (by decide) (by decide) (by decide) (by decide) rfl (by rw [hml]; rfl) (a := a405) (argsL := [(.long (-9223372036854775808 : Int64))]) (rest := [(.ref a405), (.int 0), (.ref a49)]) rfl (lenOf pd_13 rfl) rfl (own_le20 rfl) (dc d30_86) ?_
    rintro v438 T438 L438 X438 ⟨rfl, N438q, K438, A438, B438_first, B438_last, B438_deep, B438_key⟩
    show Goes p e below _ T438 (mkF m 89 #[sR b_, sR sd_] [(.ref a405), (.int 0), (.ref a49)])
    have C453 := (C396.ext E405).keep K438 (ninS ne429 nin0)
    have K462 := K433.trans K438 (allS (Or.inr M405) all0)
    obtain ⟨T463, h463, X463, e463, W463, B463, st463⟩ := wrR X438 hx hZ rfl C453 (Or.inr ⟨_, rfl, Ins.self A438⟩) (by decide) (g := (mkF m 89 #[sR b_, sR sd_] [(.ref a405), (.int 0), (.ref a49)])) rfl rfl (dc d30_89)
    have N463 := Fr.snoc X463 (Fr.app (Fr.snoc X381 (Fr.snoc X356 N195 g0) G86) N438q) G49
    have C464 := ((C382.ext E405).keep K438).wr W463
    have C465 := ((C383.ext E405).keep K438 (ninS ne427 nin0)).other W463 (Or.inl ne64)
    have C466 := (((C359.other W381 (Or.inl ne102)).ext E405).keep K438 (ninS ne427 nin0)).other W463 (Or.inl ne64)
    have C467 := ((((C199.other W356 (Or.inr (sn79 hw))).other W381 (Or.inl ne102)).ext E405).keep K438 (ninS ne427 nin0)).other W463 (Or.inl ne64)
    have C468 := ((((C200.other W356 (Or.inr (sn80 hw))).other W381 (Or.inl ne102)).ext E405).keep K438 (ninS ne427 nin0)).other W463 (Or.inl ne64)
    have C469 := ((((C201.other W356 (Or.inr (sn81 hw))).other W381 (Or.inl ne102)).ext E405).keep K438 (ninS ne427 nin0)).other W463 (Or.inl ne64)
    have C470 := ((((C202.other W356 (Or.inr (sn82 hw))).other W381 (Or.inl ne102)).ext E405).keep K438 (ninS ne427 nin0)).other W463 (Or.inl ne64)
    have C471 := ((((C203.same W356).other W381 (Or.inl ne102)).ext E405).keep K438 (ninS ne427 nin0)).other W463 (Or.inl ne64)
    have C473 := ((C391.ext E405).keep K438).wr W463
    have C474 := ((((C206.other W356 (Or.inl ne12.symm)).other W381 (Or.inl ne103)).ext E405).keep K438 (ninS ne428 nin0)).other W463 (Or.inl ne65)
    have C475 := ((((C207.other W356 (Or.inl ne12.symm)).other W381 (Or.inl ne103)).ext E405).keep K438 (ninS ne428 nin0)).other W463 (Or.inl ne65)
    have C476 := ((((C208.other W356 (Or.inl ne12.symm)).other W381 (Or.inl ne103)).ext E405).keep K438 (ninS ne428 nin0)).other W463 (Or.inl ne65)
    have C478 := ((C397.ext E405).keep K438).wr W463
    have C479 := ((B381.ext E405).keep K438 (ninS ne430 nin0)).other W463 ne104.symm
    have C480 := ((C398.ext E405).keep K438).wr W463
    have C481 := ((((C214.other W356 (Or.inl ne165.symm)).other W381 (Or.inl ne168.symm)).ext E405).keep K438 (ninS ne431 nin0)).other W463 (Or.inl ne167.symm)
    have C484 := A438.wr W463
    have C485 := B438_first.other W463 (Or.inl ne429.symm)
    have C486 := B438_last.other W463 (Or.inl ne429.symm)
    have C487 := B438_deep.other W463 (Or.inl ne429.symm)
    have K490 := K462.wr W463 (Or.inr M49)
    have B463 : Rbk Z h463 a49 "com/example/uncross/uncross/engine/BookSide$Level" 64 (Upd (fun _ => Value.null) 0 (.ref a405)) := B463
    refine Goes.on (T' := T463) (g' := (mkF m 90 #[sR b_, sR sd_] [])) (fun _ k => st463 _ k) ?_
    exact Goes.retV X463 hx hlk hret (dc d30_90) (by decide) (by decide) (by rw [e463]; exact ⟨a2, a49, a86, a147, a405, rfl, N463, K490, C464, C465, C466, C467, C468, C469, C470, C471, C473, C474, C475, C476, B463, C478, C479, C480, C481, C484, C485, C486, C487, M2, M49, M86, M147, M405, ne65, ne103, ne166, ne428, ne104, ne167, ne429, ne168, ne430, ne431⟩)
abbrev c40C := prog_15_method_16_code
theorem d40_0 : decode c40C 0 = .ok (.aload_n 0, 1) := by decide +kernel
theorem d40_1 : decode c40C 1 = .ok (.getfield 43, 3) := by decide +kernel
theorem d40_4 : decode c40C 4 = .ok (.ifCond .eq 7, 3) := by decide +kernel
theorem d40_11 : decode c40C 11 = .ok (.lload_n 1, 1) := by decide +kernel
theorem d40_12 : decode c40C 12 = .ok (.lneg, 1) := by decide +kernel
theorem d40_13 : decode c40C 13 = .ok (.lreturn, 1) := by decide +kernel
theorem d40_7 : decode c40C 7 = .ok (.lload_n 1, 1) := by decide +kernel
theorem d40_8 : decode c40C 8 = .ok (.goto 5, 3) := by decide +kernel
theorem rmKy (l : Launch) (Z : State) (a0 : Array Value) (hw : TW Z a0) (b_ : Addr) (z_ : Int32) (x_ : Int64) (h0 : Heap) (n0 : Nat) (Z0 : n0 ≤ h0.size) (B0 : Fld Z h0 b_ "com/example/uncross/uncross/engine/BookSide" "buying" "Z" (.int z_)) :
    Pays l Z (⟨"com/example/uncross/uncross/engine/BookSide", "keyOf", "(J)J"⟩ : MethodName) prog_15_method_16_code 3 (some .long) [] ({ frames := 0, cells := 0, slots := 0, locals := 0 } : Room) #[(.ref b_), (.long x_)] h0 (fun v h L => v = some (.long (own_key z_ x_)) ∧ Fr n0 L ∧ h = h0) := by
  refine Pays.walk (plainFor_of_name pn_13) (fun m => ef_8 m b_ x_ ) ?_
  intro p e s m below meth c T0 X0 hx hby hml hown hnm hZ e0 hret hlk
  have dc := @Jvm.hb _ _ hby
  have N0 := Fr.nil n0
  obtain ⟨T1, X1, e1, st1⟩ := getF X0 hx hZ hown (host := "") (Or.inl (own_w hw 219 rfl)) Via.refl e0 B0 (g := (mkF m 1 #[sR b_, sJ x_, s2] [(.ref b_)])) rfl rfl (dc d40_1)
  refine Goes.on (T' := T1) (g' := (mkF m 4 #[sR b_, sJ x_, s2] [(.int z_)])) (fun _ k => XS.aloadN X0.here hx rfl (dc d40_0) rfl rfl (st1 _ k)) ?_
  by_cases hc2 : z_ = (0 : Int32)
  · refine Goes.on (T' := T1) (g' := (mkF m 13 #[sR b_, sJ x_, s2] [(.long (-x_))])) (fun _ k => XS.ifYes X1.here hx rfl (pc0 := 4) (pc' := 11) rfl (dc d40_4) rfl (XT.i0_eq_t hc2) (by decide) (by decide) (XS.lloadN X1.here hx rfl (dc d40_11) rfl (XT.lneg X1.here hx rfl (dc d40_12) rfl k))) ?_
    exact Goes.retJ X1 hx hlk hret (dc d40_13) (by decide) (by decide) ⟨(by unfold own_key; rw [if_pos hc2]), N0, e1⟩
  · refine Goes.on (T' := T1) (g' := (mkF m 13 #[sR b_, sJ x_, s2] [(.long x_)])) (fun _ k => XS.ifNo X1.here hx rfl (dc d40_4) rfl (XT.i0_eq_f hc2) (XS.lloadN X1.here hx rfl (dc d40_7) rfl (XS.goto X1.here hx rfl (pc0 := 8) (pc' := 13) rfl (dc d40_8) (by decide) (by decide) k))) ?_
    exact Goes.retJ X1 hx hlk hret (dc d40_13) (by decide) (by decide) ⟨(by unfold own_key; rw [if_neg hc2]), N0, e1⟩
abbrev c42C := jdk_2729_method_5_code
theorem d42_0 : decode c42C 0 = .ok (.aload_n 0, 1) := by decide +kernel
theorem d42_1 : decode c42C 1 = .ok (.getfield 7, 3) := by decide +kernel
theorem d42_4 : decode c42C 4 = .ok (.ireturn, 1) := by decide +kernel
theorem rmTs (l : Launch) (Z : State) (a0 : Array Value) (hw : TW Z a0) (t_ : Addr) (h0 : Heap) (n0 : Nat) (Z0 : n0 ≤ h0.size) (p0 : Exa Z h0 t_ k12C) (p1 : Fld Z h0 t_ k12C "size" "I" (.int (0 : Int32))) :
    Pays l Z (⟨"java/util/TreeMap", "size", "()I"⟩ : MethodName) jdk_2729_method_5_code 1 (some .int) [] ({ frames := 0, cells := 0, slots := 0, locals := 0 } : Room) #[(.ref t_)] h0 (fun v h L => v = some (.int (0 : Int32)) ∧ Fr n0 L ∧ h = h0) := by
  refine Pays.walk (plainFor_of_name pn_12) (fun m => ef_0 m t_ ) ?_
  intro p e s m below meth c T0 X0 hx hby hml hown hnm hZ e0 hret hlk
  have N0 := Fr.nil n0
  obtain ⟨T1, X1, e1, st1⟩ := getF X0 hx hZ hown (host := "") (Or.inl (own_w hw 209 rfl)) Via.refl e0 p1 (g := (mkF m 1 #[sR t_] [(.ref t_)])) rfl rfl (hb hby d42_1)
  refine Goes.on (T' := T1) (g' := (mkF m 4 #[sR t_] [(.int 0)])) (fun _ k => XS.aloadN X0.here hx rfl (hb hby d42_0) rfl rfl (st1 _ k)) ?_
  exact Goes.retI X1 hx hlk hret (hb hby d42_4) (by decide) (by decide) ⟨rfl, N0, e1⟩
abbrev c41C := jdk_71_method_3_code
theorem d41_0 : decode c41C 0 = .ok (.aload_n 0, 1) := by decide +kernel
theorem d41_1 : decode c41C 1 = .ok (.invokevirtual 19, 3) := by decide +kernel
theorem d41_4 : decode c41C 4 = .ok (.ifCond .ne 7, 3) := by decide +kernel
theorem d41_7 : decode c41C 7 = .ok (.iconst 1, 1) := by decide +kernel
theorem d41_8 : decode c41C 8 = .ok (.goto 4, 3) := by decide +kernel
theorem d41_12 : decode c41C 12 = .ok (.ireturn, 1) := by decide +kernel
theorem rmTq (l : Launch) (Z : State) (a0 : Array Value) (hw : TW Z a0) (t_ : Addr) (h0 : Heap) (n0 : Nat) (Z0 : n0 ≤ h0.size) (p0 : Exa Z h0 t_ k12C) (p1 : Fld Z h0 t_ k12C "size" "I" (.int (0 : Int32))) :
    Pays l Z (⟨"java/util/AbstractMap", "isEmpty", "()Z"⟩ : MethodName) jdk_71_method_3_code 1 (some .boolean) [] ({ frames := 1, cells := 0, slots := 0, locals := 12 } : Room) #[(.ref t_)] h0 (fun v h L => v = some (.int (1 : Int32)) ∧ Fr n0 L ∧ h = h0) := by
  refine Pays.walk (plainFor_of_name pn_1) (fun m => ef_0 m t_ ) ?_
  intro p e s m below meth c T0 X0 hx hby hml hown hnm hZ e0 hret hlk
  refine Goes.on (T' := T0) (g' := (mkF m 1 #[sR t_] [(.ref t_)])) (fun _ k => XS.aloadN X0.here hx rfl (hb hby d41_0) rfl rfl k) ?_
  refine Goes.callV X0 hx hZ 0 hown (own_w hw 272 rfl) (own_w hw 273 rfl) (own_nf (mvT hZ (own_w hw 270 rfl)) rfl) (own_w hw 275 rfl) (own_w hw 276 rfl) (own_w hw 198 rfl) (own_w hw 277 rfl) (by decide) e0 p0 (rmTs l Z a0 hw t_ h0 n0 Z0  p0 p1 ) (by decide) (by decide) (by decide) (by decide) rfl (by rw [hml]; rfl) (argsL := []) (rest := []) rfl (lenOf pd_5 rfl) rfl (own_le20 rfl) (hb hby d41_1) ?_
  rintro v1 T1 L1 X1 ⟨rfl, N1q, e1⟩
  have N1 := Fr.app (Fr.nil n0) N1q
  show Goes p e below _ T1 (mkF m 4 #[sR t_] [(.int 0)])
  refine Goes.on (T' := T1) (g' := (mkF m 12 #[sR t_] [(.int 1)])) (fun _ k => XS.ifNo X1.here hx rfl (hb hby d41_4) rfl (XT.i0_ne_f (by decide)) (XS.iconst X1.here hx rfl (hb hby d41_7) (XS.goto X1.here hx rfl (pc0 := 8) (pc' := 12) rfl (hb hby d41_8) (by decide) (by decide) k))) ?_
  exact Goes.retB X1 hx hlk hret (Or.inr rfl) (hb hby d41_12) (by decide) (by decide) ⟨rfl, N1, e1⟩
abbrev c45C := jdk_29_method_65_code
theorem d45_0 : decode c45C 0 = .ok (.iload_n 0, 1) := by decide +kernel
theorem d45_1 : decode c45C 1 = .ok (.iload_n 1, 1) := by decide +kernel
theorem d45_2 : decode c45C 2 = .ok (.if_icmp .lt 7, 3) := by decide +kernel
theorem d45_5 : decode c45C 5 = .ok (.iload_n 0, 1) := by decide +kernel
theorem d45_6 : decode c45C 6 = .ok (.goto 4, 3) := by decide +kernel
theorem d45_10 : decode c45C 10 = .ok (.ireturn, 1) := by decide +kernel
theorem rmMx (l : Launch) (Z : State) (a0 : Array Value) (hw : TW Z a0)  (h0 : Heap) (n0 : Nat) (Z0 : n0 ≤ h0.size) :
    Pays l Z (⟨"java/lang/Math", "max", "(II)I"⟩ : MethodName) jdk_29_method_65_code 2 (some .int) [] ({ frames := 0, cells := 0, slots := 0, locals := 0 } : Room) #[(.int (0 : Int32)), (.int (0 : Int32))] h0 (fun v h L => v = some (.int (0 : Int32)) ∧ Fr n0 L ∧ h = h0) := by
  refine Pays.walk (by decide +kernel) (fun m => ef_2 m (0 : Int32) (0 : Int32) ) ?_
  intro p e s m below meth c T0 X0 hx hby hml hown hnm hZ e0 hret hlk
  have N0 := Fr.nil n0
  refine Goes.on (T' := T0) (g' := (mkF m 10 #[sI 0, sI 0] [(.int 0)])) (fun _ k => XS.iloadN X0.here hx rfl (hb hby d45_0) rfl (XS.iloadN X0.here hx rfl (hb hby d45_1) rfl (XS.icmpNo X0.here hx rfl (hb hby d45_2) rfl (XT.ii_lt_f (by decide)) (XS.iloadN X0.here hx rfl (hb hby d45_5) rfl (XS.goto X0.here hx rfl (pc0 := 6) (pc' := 10) rfl (hb hby d45_6) (by decide) (by decide) k))))) ?_
  exact Goes.retI X0 hx hlk hret (hb hby d45_10) (by decide) (by decide) ⟨rfl, N0, e0⟩
abbrev c43C := prog_15_method_15_code
theorem d43_0 : decode c43C 0 = .ok (.aload_n 0, 1) := by decide +kernel
theorem d43_1 : decode c43C 1 = .ok (.getfield 26, 3) := by decide +kernel
theorem d43_4 : decode c43C 4 = .ok (.istore_n 3, 1) := by decide +kernel
theorem d43_5 : decode c43C 5 = .ok (.aload_n 0, 1) := by decide +kernel
theorem d43_6 : decode c43C 6 = .ok (.getfield 26, 3) := by decide +kernel
theorem d43_9 : decode c43C 9 = .ok (.iconst 1, 1) := by decide +kernel
theorem d43_10 : decode c43C 10 = .ok (.isub, 1) := by decide +kernel
theorem d43_11 : decode c43C 11 = .ok (.istore 4, 2) := by decide +kernel
theorem d43_13 : decode c43C 13 = .ok (.iconst 1, 1) := by decide +kernel
theorem d43_14 : decode c43C 14 = .ok (.istore 5, 2) := by decide +kernel
theorem d43_16 : decode c43C 16 = .ok (.aload_n 0, 1) := by decide +kernel
theorem d43_17 : decode c43C 17 = .ok (.getfield 22, 3) := by decide +kernel
theorem d43_20 : decode c43C 20 = .ok (.iload 4, 2) := by decide +kernel
theorem d43_22 : decode c43C 22 = .ok (.laload, 1) := by decide +kernel
theorem d43_23 : decode c43C 23 = .ok (.lload_n 1, 1) := by decide +kernel
theorem d43_24 : decode c43C 24 = .ok (.lcmp, 1) := by decide +kernel
theorem d43_25 : decode c43C 25 = .ok (.ifCond .le 26, 3) := by decide +kernel
theorem d43_51 : decode c43C 51 = .ok (.iload_n 3, 1) := by decide +kernel
theorem d43_52 : decode c43C 52 = .ok (.iload 4, 2) := by decide +kernel
theorem d43_54 : decode c43C 54 = .ok (.isub, 1) := by decide +kernel
theorem d43_55 : decode c43C 55 = .ok (.iconst 1, 1) := by decide +kernel
theorem d43_56 : decode c43C 56 = .ok (.if_icmp .le 36, 3) := by decide +kernel
theorem d43_92 : decode c43C 92 = .ok (.iload 4, 2) := by decide +kernel
theorem d43_94 : decode c43C 94 = .ok (.ireturn, 1) := by decide +kernel
theorem ef_13 (m : MethodId) (x0 : Addr) (x1 : Int64) : entryFrame m #[(.ref x0), (.long x1)] 7 = mkF m 0 #[.val (.ref x0), .val (.long x1), .second, .unset, .unset, .unset, .unset] [] := by first | (simp [entryFrame, mkF, argsToLocals, Value.category]; done) | rfl
theorem rmAb1 (l : Launch) (Z : State) (a0 : Array Value) (hw : TW Z a0) (b_ K_ : Addr) (y_ : Int64) (h0 : Heap) (n0 : Nat) (Z0 : n0 ≤ h0.size) (p0 : Exa Z h0 b_ k0C) (p1 : Fld Z h0 b_ k0C "levelCount" "I" (.int (1 : Int32))) (p2 : Fld Z h0 b_ k0C "keys" "[J" (.ref K_)) (p3 : Arf Z h0 K_ .long Value.long 64 (Upd (fun _ => (0 : Int64)) 0 (-9223372036854775808 : Int64))) :
    Pays l Z (⟨"com/example/uncross/uncross/engine/BookSide", "atOrBelow", "(J)I"⟩ : MethodName) prog_15_method_15_code 7 (some .int) [] ({ frames := 1, cells := 0, slots := 0, locals := 16 } : Room) #[(.ref b_), (.long y_)] h0 (fun v h L => v = some (.int (0 : Int32)) ∧ Fr n0 L ∧ h = h0) := by
  refine Pays.walk (plainFor_of_name pn_13) (fun m => ef_13 m b_ y_ ) ?_
  intro p e s m below meth c T0 X0 hx hby hml hown hnm hZ e0 hret hlk
  have dc := @Jvm.hb _ _ hby
  have N0 := Fr.nil n0
  obtain ⟨T1, X1, e1, st1⟩ := getF X0 hx hZ hown (host := "") (Or.inl (own_w hw 194 rfl)) Via.refl e0 p1 (g := (mkF m 1 #[sR b_, sJ y_, s2, su, su, su, su] [(.ref b_)])) rfl rfl (dc d43_1)
  obtain ⟨T2, X2, e2, st2⟩ := getF X1 hx hZ hown (host := "") (Or.inl (own_w hw 194 rfl)) Via.refl e1 p1 (g := (mkF m 6 #[sR b_, sJ y_, s2, sI 1, su, su, su] [(.ref b_)])) rfl rfl (dc d43_6)
  obtain ⟨T3, X3, e3, st3⟩ := getF X2 hx hZ hown (host := "") (Or.inl (own_w hw 192 rfl)) Via.refl e2 p2 (g := (mkF m 17 #[sR b_, sJ y_, s2, sI 1, sI 0, sI 1, su] [(.ref b_)])) rfl rfl (dc d43_17)
  refine Goes.on (T' := T3) (g' := (mkF m 94 #[sR b_, sJ y_, s2, sI 1, sI 0, sI 1, su] [(.int 0)])) (fun _ k => XS.aloadN X0.here hx rfl (dc d43_0) rfl rfl (st1 _ (XS.istoreN X1.here hx rfl (dc d43_4) rfl (l' := #[sR b_, sJ y_, s2, sI 1, su, su, su]) rfl (XS.aloadN X1.here hx rfl (dc d43_5) rfl rfl (st2 _ (XS.iconst X2.here hx rfl (dc d43_9) (XS.isub X2.here hx rfl (dc d43_10) rfl (XS.istore X2.here hx rfl (dc d43_11) rfl (l' := #[sR b_, sJ y_, s2, sI 1, sI 0, su, su]) rfl (XS.iconst X2.here hx rfl (dc d43_13) (XS.istore X2.here hx rfl (dc d43_14) rfl (l' := #[sR b_, sJ y_, s2, sI 1, sI 0, sI 1, su]) rfl (XS.aloadN X2.here hx rfl (dc d43_16) rfl rfl (st3 _ (XS.iload X3.here hx rfl (dc d43_20) rfl (ldJm X3 hx hZ e3 p3 (by decide) (dc d43_22) (XS.lloadN X3.here hx rfl (dc d43_23) rfl (XT.lcmp X3.here hx rfl (dc d43_24) rfl (XS.ifYes X3.here hx rfl (pc0 := 25) (pc' := 51) rfl (dc d43_25) rfl (XT.ll_le_t (own_min y_)) (by decide) (by decide) (XS.iloadN X3.here hx rfl (dc d43_51) rfl (XS.iload X3.here hx rfl (dc d43_52) rfl (XS.isub X3.here hx rfl (dc d43_54) rfl (XS.iconst X3.here hx rfl (dc d43_55) (XS.icmpYes X3.here hx rfl (pc0 := 56) (pc' := 92) rfl (dc d43_56) rfl (XT.ii_le_t (by decide)) (by decide) (by decide) (XS.iload X3.here hx rfl (dc d43_92) rfl k))))))))))))))))))))))) ?_
  exact Goes.retI X3 hx hlk hret (dc d43_94) (by decide) (by decide) ⟨rfl, N0, e3⟩
theorem rmAb2n (l : Launch) (Z : State) (a0 : Array Value) (hw : TW Z a0) (b_ K_ : Addr) (y_ k1_ : Int64) (h0 : Heap) (n0 : Nat) (Z0 : n0 ≤ h0.size) (p0 : Exa Z h0 b_ k0C) (p1 : Fld Z h0 b_ k0C "levelCount" "I" (.int (2 : Int32))) (p2 : Fld Z h0 b_ k0C "keys" "[J" (.ref K_)) (p3 : Arf Z h0 K_ .long Value.long 64 (Upd (Upd (fun _ => (0 : Int64)) 0 (-9223372036854775808 : Int64)) 1 k1_)) (h1 : ¬ y_ < k1_) :
    Pays l Z (⟨"com/example/uncross/uncross/engine/BookSide", "atOrBelow", "(J)I"⟩ : MethodName) prog_15_method_15_code 7 (some .int) [] ({ frames := 1, cells := 0, slots := 0, locals := 16 } : Room) #[(.ref b_), (.long y_)] h0 (fun v h L => v = some (.int (1 : Int32)) ∧ Fr n0 L ∧ h = h0) := by
  refine Pays.walk (plainFor_of_name pn_13) (fun m => ef_13 m b_ y_ ) ?_
  intro p e s m below meth c T0 X0 hx hby hml hown hnm hZ e0 hret hlk
  have dc := @Jvm.hb _ _ hby
  have N0 := Fr.nil n0
  obtain ⟨T1, X1, e1, st1⟩ := getF X0 hx hZ hown (host := "") (Or.inl (own_w hw 194 rfl)) Via.refl e0 p1 (g := (mkF m 1 #[sR b_, sJ y_, s2, su, su, su, su] [(.ref b_)])) rfl rfl (dc d43_1)
  obtain ⟨T2, X2, e2, st2⟩ := getF X1 hx hZ hown (host := "") (Or.inl (own_w hw 194 rfl)) Via.refl e1 p1 (g := (mkF m 6 #[sR b_, sJ y_, s2, sI 2, su, su, su] [(.ref b_)])) rfl rfl (dc d43_6)
  obtain ⟨T3, X3, e3, st3⟩ := getF X2 hx hZ hown (host := "") (Or.inl (own_w hw 192 rfl)) Via.refl e2 p2 (g := (mkF m 17 #[sR b_, sJ y_, s2, sI 2, sI 1, sI 1, su] [(.ref b_)])) rfl rfl (dc d43_17)
  refine Goes.on (T' := T3) (g' := (mkF m 94 #[sR b_, sJ y_, s2, sI 2, sI 1, sI 1, su] [(.int 1)])) (fun _ k => XS.aloadN X0.here hx rfl (dc d43_0) rfl rfl (st1 _ (XS.istoreN X1.here hx rfl (dc d43_4) rfl (l' := #[sR b_, sJ y_, s2, sI 2, su, su, su]) rfl (XS.aloadN X1.here hx rfl (dc d43_5) rfl rfl (st2 _ (XS.iconst X2.here hx rfl (dc d43_9) (XS.isub X2.here hx rfl (dc d43_10) rfl (XS.istore X2.here hx rfl (dc d43_11) rfl (l' := #[sR b_, sJ y_, s2, sI 2, sI 1, su, su]) rfl (XS.iconst X2.here hx rfl (dc d43_13) (XS.istore X2.here hx rfl (dc d43_14) rfl (l' := #[sR b_, sJ y_, s2, sI 2, sI 1, sI 1, su]) rfl (XS.aloadN X2.here hx rfl (dc d43_16) rfl rfl (st3 _ (XS.iload X3.here hx rfl (dc d43_20) rfl (ldJm X3 hx hZ e3 p3 (by decide) (dc d43_22) (XS.lloadN X3.here hx rfl (dc d43_23) rfl (XT.lcmp X3.here hx rfl (dc d43_24) rfl (XS.ifYes X3.here hx rfl (pc0 := 25) (pc' := 51) rfl (dc d43_25) rfl (XT.ll_le_t h1) (by decide) (by decide) (XS.iloadN X3.here hx rfl (dc d43_51) rfl (XS.iload X3.here hx rfl (dc d43_52) rfl (XS.isub X3.here hx rfl (dc d43_54) rfl (XS.iconst X3.here hx rfl (dc d43_55) (XS.icmpYes X3.here hx rfl (pc0 := 56) (pc' := 92) rfl (dc d43_56) rfl (XT.ii_le_t (by decide)) (by decide) (by decide) (XS.iload X3.here hx rfl (dc d43_92) rfl k))))))))))))))))))))))) ?_
  exact Goes.retI X3 hx hlk hret (dc d43_94) (by decide) (by decide) ⟨rfl, N0, e3⟩
theorem d43_28 : decode c43C 28 = .ok (.iload 4, 2) := by decide +kernel
theorem d43_30 : decode c43C 30 = .ok (.istore_n 3, 1) := by decide +kernel
theorem d43_31 : decode c43C 31 = .ok (.iconst 0, 1) := by decide +kernel
theorem d43_32 : decode c43C 32 = .ok (.iload 4, 2) := by decide +kernel
theorem d43_34 : decode c43C 34 = .ok (.iload 5, 2) := by decide +kernel
theorem d43_36 : decode c43C 36 = .ok (.isub, 1) := by decide +kernel
theorem pd_18 : parseMethodDescriptor "(II)I" = some ⟨[.int, .int], some .int⟩ := by decide +kernel
theorem d43_37 : decode c43C 37 = .ok (.invokestatic 201, 3) := by decide +kernel
theorem d43_40 : decode c43C 40 = .ok (.istore 4, 2) := by decide +kernel
theorem d43_42 : decode c43C 42 = .ok (.iload 5, 2) := by decide +kernel
theorem d43_44 : decode c43C 44 = .ok (.iconst 2, 1) := by decide +kernel
theorem d43_45 : decode c43C 45 = .ok (.imul, 1) := by decide +kernel
theorem d43_46 : decode c43C 46 = .ok (.istore 5, 2) := by decide +kernel
theorem d43_48 : decode c43C 48 = .ok (.goto (-32), 3) := by decide +kernel
theorem rmAb2y (l : Launch) (Z : State) (a0 : Array Value) (hw : TW Z a0) (b_ K_ : Addr) (y_ k1_ : Int64) (h0 : Heap) (n0 : Nat) (Z0 : n0 ≤ h0.size) (p0 : Exa Z h0 b_ k0C) (p1 : Fld Z h0 b_ k0C "levelCount" "I" (.int (2 : Int32))) (p2 : Fld Z h0 b_ k0C "keys" "[J" (.ref K_)) (p3 : Arf Z h0 K_ .long Value.long 64 (Upd (Upd (fun _ => (0 : Int64)) 0 (-9223372036854775808 : Int64)) 1 k1_)) (h1 : y_ < k1_) :
    Pays l Z (⟨"com/example/uncross/uncross/engine/BookSide", "atOrBelow", "(J)I"⟩ : MethodName) prog_15_method_15_code 7 (some .int) [] ({ frames := 1, cells := 0, slots := 0, locals := 16 } : Room) #[(.ref b_), (.long y_)] h0 (fun v h L => v = some (.int (0 : Int32)) ∧ Fr n0 L ∧ h = h0) := by
  refine Pays.walk (plainFor_of_name pn_13) (fun m => ef_13 m b_ y_ ) ?_
  intro p e s m below meth c T0 X0 hx hby hml hown hnm hZ e0 hret hlk
  have dc := @Jvm.hb _ _ hby
  obtain ⟨T1, X1, e1, st1⟩ := getF X0 hx hZ hown (host := "") (Or.inl (own_w hw 194 rfl)) Via.refl e0 p1 (g := (mkF m 1 #[sR b_, sJ y_, s2, su, su, su, su] [(.ref b_)])) rfl rfl (dc d43_1)
  obtain ⟨T2, X2, e2, st2⟩ := getF X1 hx hZ hown (host := "") (Or.inl (own_w hw 194 rfl)) Via.refl e1 p1 (g := (mkF m 6 #[sR b_, sJ y_, s2, sI 2, su, su, su] [(.ref b_)])) rfl rfl (dc d43_6)
  obtain ⟨T3, X3, e3, st3⟩ := getF X2 hx hZ hown (host := "") (Or.inl (own_w hw 192 rfl)) Via.refl e2 p2 (g := (mkF m 17 #[sR b_, sJ y_, s2, sI 2, sI 1, sI 1, su] [(.ref b_)])) rfl rfl (dc d43_17)
  refine Goes.on (T' := T3) (g' := (mkF m 37 #[sR b_, sJ y_, s2, sI 1, sI 1, sI 1, su] [(.int 0), (.int 0)])) (fun _ k => XS.aloadN X0.here hx rfl (dc d43_0) rfl rfl (st1 _ (XS.istoreN X1.here hx rfl (dc d43_4) rfl (l' := #[sR b_, sJ y_, s2, sI 2, su, su, su]) rfl (XS.aloadN X1.here hx rfl (dc d43_5) rfl rfl (st2 _ (XS.iconst X2.here hx rfl (dc d43_9) (XS.isub X2.here hx rfl (dc d43_10) rfl (XS.istore X2.here hx rfl (dc d43_11) rfl (l' := #[sR b_, sJ y_, s2, sI 2, sI 1, su, su]) rfl (XS.iconst X2.here hx rfl (dc d43_13) (XS.istore X2.here hx rfl (dc d43_14) rfl (l' := #[sR b_, sJ y_, s2, sI 2, sI 1, sI 1, su]) rfl (XS.aloadN X2.here hx rfl (dc d43_16) rfl rfl (st3 _ (XS.iload X3.here hx rfl (dc d43_20) rfl (ldJm X3 hx hZ e3 p3 (by decide) (dc d43_22) (XS.lloadN X3.here hx rfl (dc d43_23) rfl (XT.lcmp X3.here hx rfl (dc d43_24) rfl (XS.ifNo X3.here hx rfl (dc d43_25) rfl (XT.ll_le_f h1) (XS.iload X3.here hx rfl (dc d43_28) rfl (XS.istoreN X3.here hx rfl (dc d43_30) rfl (l' := #[sR b_, sJ y_, s2, sI 1, sI 1, sI 1, su]) rfl (XS.iconst X3.here hx rfl (dc d43_31) (XS.iload X3.here hx rfl (dc d43_32) rfl (XS.iload X3.here hx rfl (dc d43_34) rfl (XS.isub X3.here hx rfl (dc d43_36) rfl k))))))))))))))))))))))) ?_
  refine Goes.callS X3 hx hZ 0 hown (own_w hw 298 rfl) (own_w hw 299 rfl) (own_w hw 300 rfl) (own_w hw 301 rfl) (by decide) e3 (rmMx l Z a0 hw h0 n0 Z0) (by decide) (by decide) (by decide) (by decide) rfl (by rw [hml]; rfl) (argsL := [(.int 0), (.int 0)]) (rest := []) rfl (lenOf pd_18 rfl) rfl (own_le20 rfl) (dc d43_37) ?_
  rintro v5 T5 L5 X5 ⟨rfl, N5q, e5⟩
  have N5 := Fr.app (Fr.nil n0) N5q
  show Goes p e below _ T5 (mkF m 40 #[sR b_, sJ y_, s2, sI 1, sI 1, sI 1, su] [(.int 0)])
  obtain ⟨T6, X6, e6, st6⟩ := getF X5 hx hZ hown (host := "") (Or.inl (own_w hw 192 rfl)) Via.refl e5 p2 (g := (mkF m 17 #[sR b_, sJ y_, s2, sI 1, sI 0, sI 2, su] [(.ref b_)])) rfl rfl (dc d43_17)
  refine Goes.on (T' := T6) (g' := (mkF m 94 #[sR b_, sJ y_, s2, sI 1, sI 0, sI 2, su] [(.int 0)])) (fun _ k => XS.istore X5.here hx rfl (dc d43_40) rfl (l' := #[sR b_, sJ y_, s2, sI 1, sI 0, sI 1, su]) rfl (XS.iload X5.here hx rfl (dc d43_42) rfl (XS.iconst X5.here hx rfl (dc d43_44) (XS.imul X5.here hx rfl (dc d43_45) rfl (XS.istore X5.here hx rfl (dc d43_46) rfl (l' := #[sR b_, sJ y_, s2, sI 1, sI 0, sI 2, su]) rfl (XS.goto X5.here hx rfl (pc0 := 48) (pc' := 16) rfl (dc d43_48) (by decide) (by decide) (XS.aloadN X5.here hx rfl (dc d43_16) rfl rfl (st6 _ (XS.iload X6.here hx rfl (dc d43_20) rfl (ldJm X6 hx hZ e6 p3 (by decide) (dc d43_22) (XS.lloadN X6.here hx rfl (dc d43_23) rfl (XT.lcmp X6.here hx rfl (dc d43_24) rfl (XS.ifYes X6.here hx rfl (pc0 := 25) (pc' := 51) rfl (dc d43_25) rfl (XT.ll_le_t (own_min y_)) (by decide) (by decide) (XS.iloadN X6.here hx rfl (dc d43_51) rfl (XS.iload X6.here hx rfl (dc d43_52) rfl (XS.isub X6.here hx rfl (dc d43_54) rfl (XS.iconst X6.here hx rfl (dc d43_55) (XS.icmpYes X6.here hx rfl (pc0 := 56) (pc' := 92) rfl (dc d43_56) rfl (XT.ii_le_t (by decide)) (by decide) (by decide) (XS.iload X6.here hx rfl (dc d43_92) rfl k))))))))))))))))))) ?_
  exact Goes.retI X6 hx hlk hret (dc d43_94) (by decide) (by decide) ⟨rfl, N5, e6⟩
abbrev c39C := prog_15_method_9_code
theorem d39_0 : decode c39C 0 = .ok (.aload_n 0, 1) := by decide +kernel
theorem d39_1 : decode c39C 1 = .ok (.lload_n 1, 1) := by decide +kernel
theorem pd_19 : parseMethodDescriptor "(J)J" = some ⟨[.long], some .long⟩ := by decide +kernel
theorem d39_2 : decode c39C 2 = .ok (.invokevirtual 105, 3) := by decide +kernel
theorem d39_5 : decode c39C 5 = .ok (.lstore_n 3, 1) := by decide +kernel
theorem d39_6 : decode c39C 6 = .ok (.aload_n 0, 1) := by decide +kernel
theorem d39_7 : decode c39C 7 = .ok (.getfield 26, 3) := by decide +kernel
theorem d39_10 : decode c39C 10 = .ok (.sipush 512, 3) := by decide +kernel
theorem d39_13 : decode c39C 13 = .ok (.if_icmp .eq 13, 3) := by decide +kernel
theorem d39_16 : decode c39C 16 = .ok (.aload_n 0, 1) := by decide +kernel
theorem d39_17 : decode c39C 17 = .ok (.getfield 33, 3) := by decide +kernel
theorem d39_20 : decode c39C 20 = .ok (.invokevirtual 143, 3) := by decide +kernel
theorem d39_23 : decode c39C 23 = .ok (.ifCond .ne 20, 3) := by decide +kernel
theorem d39_43 : decode c39C 43 = .ok (.aload_n 0, 1) := by decide +kernel
theorem d39_44 : decode c39C 44 = .ok (.lload_n 3, 1) := by decide +kernel
theorem pd_20 : parseMethodDescriptor "(J)I" = some ⟨[.long], some .int⟩ := by decide +kernel
theorem d39_45 : decode c39C 45 = .ok (.invokevirtual 81, 3) := by decide +kernel
theorem d39_48 : decode c39C 48 = .ok (.istore 5, 2) := by decide +kernel
theorem d39_50 : decode c39C 50 = .ok (.aload_n 0, 1) := by decide +kernel
theorem d39_51 : decode c39C 51 = .ok (.getfield 22, 3) := by decide +kernel
theorem d39_54 : decode c39C 54 = .ok (.iload 5, 2) := by decide +kernel
theorem d39_56 : decode c39C 56 = .ok (.laload, 1) := by decide +kernel
theorem d39_57 : decode c39C 57 = .ok (.lload_n 3, 1) := by decide +kernel
theorem d39_58 : decode c39C 58 = .ok (.lcmp, 1) := by decide +kernel
theorem d39_59 : decode c39C 59 = .ok (.ifCond .ne 33, 3) := by decide +kernel
theorem d39_92 : decode c39C 92 = .ok (.iload 5, 2) := by decide +kernel
theorem d39_94 : decode c39C 94 = .ok (.iconst 1, 1) := by decide +kernel
theorem d39_95 : decode c39C 95 = .ok (.iadd, 1) := by decide +kernel
theorem d39_96 : decode c39C 96 = .ok (.istore 6, 2) := by decide +kernel
theorem d39_98 : decode c39C 98 = .ok (.aload_n 0, 1) := by decide +kernel
theorem d39_99 : decode c39C 99 = .ok (.getfield 26, 3) := by decide +kernel
theorem d39_102 : decode c39C 102 = .ok (.sipush 512, 3) := by decide +kernel
theorem d39_105 : decode c39C 105 = .ok (.if_icmp .ne 10, 3) := by decide +kernel
theorem d39_115 : decode c39C 115 = .ok (.aload_n 0, 1) := by decide +kernel
theorem d39_116 : decode c39C 116 = .ok (.getfield 26, 3) := by decide +kernel
theorem d39_119 : decode c39C 119 = .ok (.aload_n 0, 1) := by decide +kernel
theorem d39_120 : decode c39C 120 = .ok (.getfield 18, 3) := by decide +kernel
theorem d39_123 : decode c39C 123 = .ok (.arraylength, 1) := by decide +kernel
theorem d39_124 : decode c39C 124 = .ok (.if_icmp .ne 45, 3) := by decide +kernel
theorem d39_169 : decode c39C 169 = .ok (.aload_n 0, 1) := by decide +kernel
theorem d39_170 : decode c39C 170 = .ok (.getfield 18, 3) := by decide +kernel
theorem d39_173 : decode c39C 173 = .ok (.iload 6, 2) := by decide +kernel
theorem d39_175 : decode c39C 175 = .ok (.aload_n 0, 1) := by decide +kernel
theorem d39_176 : decode c39C 176 = .ok (.getfield 18, 3) := by decide +kernel
theorem d39_179 : decode c39C 179 = .ok (.iload 6, 2) := by decide +kernel
theorem d39_181 : decode c39C 181 = .ok (.iconst 1, 1) := by decide +kernel
theorem d39_182 : decode c39C 182 = .ok (.iadd, 1) := by decide +kernel
theorem d39_183 : decode c39C 183 = .ok (.aload_n 0, 1) := by decide +kernel
theorem d39_184 : decode c39C 184 = .ok (.getfield 26, 3) := by decide +kernel
theorem d39_187 : decode c39C 187 = .ok (.iload 6, 2) := by decide +kernel
theorem d39_189 : decode c39C 189 = .ok (.isub, 1) := by decide +kernel
theorem d39_190 : decode c39C 190 = .ok (.invokestatic 171, 3) := by decide +kernel
theorem d39_193 : decode c39C 193 = .ok (.aload_n 0, 1) := by decide +kernel
theorem d39_194 : decode c39C 194 = .ok (.getfield 22, 3) := by decide +kernel
theorem d39_197 : decode c39C 197 = .ok (.iload 6, 2) := by decide +kernel
theorem d39_199 : decode c39C 199 = .ok (.aload_n 0, 1) := by decide +kernel
theorem d39_200 : decode c39C 200 = .ok (.getfield 22, 3) := by decide +kernel
theorem d39_203 : decode c39C 203 = .ok (.iload 6, 2) := by decide +kernel
theorem d39_205 : decode c39C 205 = .ok (.iconst 1, 1) := by decide +kernel
theorem d39_206 : decode c39C 206 = .ok (.iadd, 1) := by decide +kernel
theorem d39_207 : decode c39C 207 = .ok (.aload_n 0, 1) := by decide +kernel
theorem d39_208 : decode c39C 208 = .ok (.getfield 26, 3) := by decide +kernel
theorem d39_211 : decode c39C 211 = .ok (.iload 6, 2) := by decide +kernel
theorem d39_213 : decode c39C 213 = .ok (.isub, 1) := by decide +kernel
theorem d39_214 : decode c39C 214 = .ok (.invokestatic 171, 3) := by decide +kernel
theorem d39_217 : decode c39C 217 = .ok (.new 9, 3) := by decide +kernel
theorem d39_220 : decode c39C 220 = .ok (.dup, 1) := by decide +kernel
theorem d39_221 : decode c39C 221 = .ok (.lload_n 3, 1) := by decide +kernel
theorem d39_222 : decode c39C 222 = .ok (.invokespecial 11, 3) := by decide +kernel
theorem d39_225 : decode c39C 225 = .ok (.astore 7, 2) := by decide +kernel
theorem d39_227 : decode c39C 227 = .ok (.aload_n 0, 1) := by decide +kernel
theorem d39_228 : decode c39C 228 = .ok (.getfield 18, 3) := by decide +kernel
theorem d39_231 : decode c39C 231 = .ok (.iload 6, 2) := by decide +kernel
theorem d39_233 : decode c39C 233 = .ok (.aload 7, 2) := by decide +kernel
theorem d39_235 : decode c39C 235 = .ok (.aastore, 1) := by decide +kernel
theorem d39_236 : decode c39C 236 = .ok (.aload_n 0, 1) := by decide +kernel
theorem d39_237 : decode c39C 237 = .ok (.getfield 22, 3) := by decide +kernel
theorem d39_240 : decode c39C 240 = .ok (.iload 6, 2) := by decide +kernel
theorem d39_242 : decode c39C 242 = .ok (.lload_n 3, 1) := by decide +kernel
theorem d39_243 : decode c39C 243 = .ok (.lastore, 1) := by decide +kernel
theorem d39_244 : decode c39C 244 = .ok (.aload_n 0, 1) := by decide +kernel
theorem d39_245 : decode c39C 245 = .ok (.dup, 1) := by decide +kernel
theorem d39_246 : decode c39C 246 = .ok (.getfield 26, 3) := by decide +kernel
theorem d39_249 : decode c39C 249 = .ok (.iconst 1, 1) := by decide +kernel
theorem d39_250 : decode c39C 250 = .ok (.iadd, 1) := by decide +kernel
theorem d39_251 : decode c39C 251 = .ok (.putfield 26, 3) := by decide +kernel
theorem d39_254 : decode c39C 254 = .ok (.aload 7, 2) := by decide +kernel
theorem d39_256 : decode c39C 256 = .ok (.areturn, 1) := by decide +kernel
theorem ef_14 (m : MethodId) (x0 : Addr) (x1 : Int64) : entryFrame m #[(.ref x0), (.long x1)] 8 = mkF m 0 #[.val (.ref x0), .val (.long x1), .second, .unset, .unset, .unset, .unset, .unset] [] := by first | (simp [entryFrame, mkF, argsToLocals, Value.category]; done) | rfl
theorem rmLf0 (l : Launch) (Z : State) (a0 : Array Value) (hw : TW Z a0) (b_ t_ A_ K_ m_ l0_ : Addr) (z_ : Int32) (x_ : Int64) (h0 : Heap) (n0 : Nat) (Z0 : n0 ≤ h0.size) (p0 : Exa Z h0 b_ k0C) (p1 : Fld Z h0 b_ k0C "buying" "Z" (.int z_)) (p2 : Fld Z h0 b_ k0C "levelCount" "I" (.int (1 : Int32))) (p3 : Fld Z h0 b_ k0C "deep" k9C (.ref t_)) (p4 : Fld Z h0 b_ k0C "levels" k6C (.ref A_)) (p5 : Fld Z h0 b_ k0C "keys" "[J" (.ref K_)) (p6 : Fld Z h0 b_ k0C "markets" k5C (.ref m_)) (p7 : Fld Z h0 b_ k0C "emptyLevels" "I" (.int (0 : Int32))) (p8 : Exa Z h0 t_ k12C) (p9 : Fld Z h0 t_ k12C "size" "I" (.int (0 : Int32))) (p10 : Rbk Z h0 A_ k2C 64 (Upd (fun _ => Value.null) 0 (.ref l0_))) (p11 : Arf Z h0 K_ .long Value.long 64 (Upd (fun _ => (0 : Int64)) 0 (-9223372036854775808 : Int64))) (q0 : b_ ≠ A_) (q1 : b_ ≠ K_) (q2 : A_ ≠ K_) (q3 : t_ ≠ b_) (q4 : t_ ≠ A_) (q5 : t_ ≠ K_) (g0 : n0 ≤ b_) (g1 : n0 ≤ A_) (g2 : n0 ≤ K_) (hm : ¬ (-9223372036854775808 : Int64) = (own_key z_ x_)) :
    Pays l Z (⟨"com/example/uncross/uncross/engine/BookSide", "levelFor", "(J)Lcom/example/uncross/uncross/engine/BookSide$Level;"⟩ : MethodName) prog_15_method_9_code 8 (some (.object "com/example/uncross/uncross/engine/BookSide$Level")) [] ({ frames := 2, cells := 1, slots := 4, locals := 40 } : Room) #[(.ref b_), (.long x_)] h0 (fun v h L => ∃ (n0_ : Addr), v = some (.ref n0_) ∧ Fr n0 L ∧ Keep h0 h [b_, A_, K_] ∧ Exa Z h b_ k0C ∧ Fld Z h b_ k0C "buying" "Z" (.int z_) ∧ Fld Z h b_ k0C "levelCount" "I" (.int (2 : Int32)) ∧ Fld Z h b_ k0C "deep" k9C (.ref t_) ∧ Fld Z h b_ k0C "levels" k6C (.ref A_) ∧ Fld Z h b_ k0C "keys" "[J" (.ref K_) ∧ Fld Z h b_ k0C "markets" k5C (.ref m_) ∧ Fld Z h b_ k0C "emptyLevels" "I" (.int (0 : Int32)) ∧ Rbk Z h A_ k2C 64 (Upd (Upd (fun _ => Value.null) 0 (.ref l0_)) 1 (.ref n0_)) ∧ Arf Z h K_ .long Value.long 64 (Upd (Upd (fun _ => (0 : Int64)) 0 (-9223372036854775808 : Int64)) 1 (own_key z_ x_)) ∧ Exa Z h n0_ k2C ∧ Fld Z h n0_ k2C "first" k4C .null ∧ Fld Z h n0_ k2C "last" k4C .null ∧ Fld Z h n0_ k2C "deep" "Z" (.int (0 : Int32)) ∧ Fld Z h n0_ k2C "key" "J" (.long (own_key z_ x_)) ∧ h0.size ≤ n0_) := by
  refine Pays.walk (plainFor_of_name pn_13) (fun m => ef_14 m b_ x_ ) ?_
  intro p e s m below meth c T0 X0 hx hby hml hown hnm hZ e0 hret hlk
  have dc := @Jvm.hb _ _ hby
  have ow := @own_w Z a0 hw
  have K0 := Keep.refl h0 ([b_, A_, K_] : List Addr)
  refine Goes.on (T' := T0) (g' := (mkF m 2 #[sR b_, sJ x_, s2, su, su, su, su, su] [(.long x_), (.ref b_)])) (fun _ k => XS.aloadN X0.here hx rfl (dc d39_0) rfl rfl (XS.lloadN X0.here hx rfl (dc d39_1) rfl k)) ?_
  refine Goes.callP X0 hx hZ 0 hown (ow 262 rfl) (ow 263 rfl) (ow 264 rfl) (ow 171 rfl) (ow 172 rfl) (ow 265 rfl) (by decide) e0 p0 (rmKy l Z a0 hw b_ z_ x_ h0 n0 Z0 p1) (by decide) (by decide) (by decide) (by decide) rfl (by rw [hml]; rfl) (argsL := [(.long x_)]) (rest := []) rfl (lenOf pd_19 rfl) rfl (own_le20 rfl) (dc d39_2) ?_
  rintro v1 T1 L1 X1 ⟨rfl, N1q, e1⟩
  show Goes p e below _ T1 (mkF m 5 #[sR b_, sJ x_, s2, su, su, su, su, su] [(.long (own_key z_ x_))])
  obtain ⟨T2, X2, e2, st2⟩ := getF X1 hx hZ hown (host := "") (Or.inl (ow 194 rfl)) Via.refl e1 p2 (g := (mkF m 7 #[sR b_, sJ x_, s2, sJ (own_key z_ x_), s2, su, su, su] [(.ref b_)])) rfl rfl (dc d39_7)
  obtain ⟨T3, X3, e3, st3⟩ := getF X2 hx hZ hown (host := "") (Or.inl (ow 215 rfl)) Via.refl e2 p3 (g := (mkF m 17 #[sR b_, sJ x_, s2, sJ (own_key z_ x_), s2, su, su, su] [(.ref b_)])) rfl rfl (dc d39_17)
  refine Goes.on (T' := T3) (g' := (mkF m 20 #[sR b_, sJ x_, s2, sJ (own_key z_ x_), s2, su, su, su] [(.ref t_)])) (fun _ k => XS.lstoreN X1.here hx rfl (dc d39_5) rfl (l' := #[sR b_, sJ x_, s2, sJ (own_key z_ x_), s2, su, su, su]) rfl (XS.aloadN X1.here hx rfl (dc d39_6) rfl rfl (st2 _ (XS.sipush X2.here hx rfl (dc d39_10) (XS.icmpNo X2.here hx rfl (dc d39_13) rfl (XT.ii_eq_f (by decide)) (XS.aloadN X2.here hx rfl (dc d39_16) rfl rfl (st3 _ k))))))) ?_
  refine Goes.callU X3 hx hZ 0 hown (ow 266 rfl) (ow 267 rfl) (ow 268 rfl) (by decide) (ow 270 rfl) (ow 269 rfl) (ow 206 rfl) (ow 271 rfl) e3 p8 (rmTq l Z a0 hw t_ h0 n0 Z0  p8 p9 ) (by decide) (by decide) (by decide) (by decide) rfl (by rw [hml]; rfl) (argsL := []) (rest := []) rfl (lenOf pd_3 rfl) rfl (own_le20 rfl) (dc d39_20) ?_
  rintro v4 T4 L4 X4 ⟨rfl, N4q, e4⟩
  show Goes p e below _ T4 (mkF m 23 #[sR b_, sJ x_, s2, sJ (own_key z_ x_), s2, su, su, su] [(.int 1)])
  refine Goes.on (T' := T4) (g' := (mkF m 45 #[sR b_, sJ x_, s2, sJ (own_key z_ x_), s2, su, su, su] [(.long (own_key z_ x_)), (.ref b_)])) (fun _ k => XS.ifYes X4.here hx rfl (pc0 := 23) (pc' := 43) rfl (dc d39_23) rfl (XT.i0_ne_t (by decide)) (by decide) (by decide) (XS.aloadN X4.here hx rfl (dc d39_43) rfl rfl (XS.lloadN X4.here hx rfl (dc d39_44) rfl k))) ?_
  refine Goes.callP X4 hx hZ 0 hown (ow 278 rfl) (ow 279 rfl) (ow 280 rfl) (ow 171 rfl) (ow 172 rfl) (ow 281 rfl) (by decide) e4 p0 (rmAb1 l Z a0 hw b_ K_ (own_key z_ x_) h0 n0 Z0  p0 p2 p5 p11 ) (by decide) (by decide) (by decide) (by decide) rfl (by rw [hml]; rfl) (argsL := [(.long (own_key z_ x_))]) (rest := []) rfl (lenOf pd_20 rfl) rfl (own_le20 rfl) (dc d39_45) ?_
  rintro v5 T5 L5 X5 ⟨rfl, N5q, e5⟩
  have N5 := Fr.app (Fr.app (Fr.app (Fr.nil n0) N1q) N4q) N5q
  show Goes p e below _ T5 (mkF m 48 #[sR b_, sJ x_, s2, sJ (own_key z_ x_), s2, su, su, su] [(.int 0)])
  obtain ⟨T6, X6, e6, st6⟩ := getF X5 hx hZ hown (host := "") (Or.inl (ow 192 rfl)) Via.refl e5 p5 (g := (mkF m 51 #[sR b_, sJ x_, s2, sJ (own_key z_ x_), s2, sI 0, su, su] [(.ref b_)])) rfl rfl (dc d39_51)
  obtain ⟨T8, X8, e8, st8⟩ := getF X6 hx hZ hown (host := "") (Or.inl (ow 194 rfl)) Via.refl e6 p2 (g := (mkF m 99 #[sR b_, sJ x_, s2, sJ (own_key z_ x_), s2, sI 0, sI 1, su] [(.ref b_)])) rfl rfl (dc d39_99)
  obtain ⟨T9, X9, e9, st9⟩ := getF X8 hx hZ hown (host := "") (Or.inl (ow 194 rfl)) Via.refl e8 p2 (g := (mkF m 116 #[sR b_, sJ x_, s2, sJ (own_key z_ x_), s2, sI 0, sI 1, su] [(.ref b_)])) rfl rfl (dc d39_116)
  obtain ⟨T10, X10, e10, st10⟩ := getF X9 hx hZ hown (host := "") (Or.inl (ow 189 rfl)) Via.refl e9 p4 (g := (mkF m 120 #[sR b_, sJ x_, s2, sJ (own_key z_ x_), s2, sI 0, sI 1, su] [(.ref b_), (.int 1)])) rfl rfl (dc d39_120)
  obtain ⟨T12, X12, e12, st12⟩ := getF X10 hx hZ hown (host := "") (Or.inl (ow 189 rfl)) Via.refl e10 p4 (g := (mkF m 170 #[sR b_, sJ x_, s2, sJ (own_key z_ x_), s2, sI 0, sI 1, su] [(.ref b_)])) rfl rfl (dc d39_170)
  refine Goes.on (T' := T12) (g' := (mkF m 173 #[sR b_, sJ x_, s2, sJ (own_key z_ x_), s2, sI 0, sI 1, su] [(.ref A_)])) (fun _ k => XS.istore X5.here hx rfl (dc d39_48) rfl (l' := #[sR b_, sJ x_, s2, sJ (own_key z_ x_), s2, sI 0, su, su]) rfl (XS.aloadN X5.here hx rfl (dc d39_50) rfl rfl (st6 _ (XS.iload X6.here hx rfl (dc d39_54) rfl (ldJm X6 hx hZ e6 p11 (by decide) (dc d39_56) (XS.lloadN X6.here hx rfl (dc d39_57) rfl (XT.lcmp X6.here hx rfl (dc d39_58) rfl (XS.ifYes X6.here hx rfl (pc0 := 59) (pc' := 92) rfl (dc d39_59) rfl (XT.ll_ne_t hm) (by decide) (by decide) (XS.iload X6.here hx rfl (dc d39_92) rfl (XS.iconst X6.here hx rfl (dc d39_94) (XS.iadd X6.here hx rfl (dc d39_95) rfl (XS.istore X6.here hx rfl (dc d39_96) rfl (l' := #[sR b_, sJ x_, s2, sJ (own_key z_ x_), s2, sI 0, sI 1, su]) rfl (XS.aloadN X6.here hx rfl (dc d39_98) rfl rfl (st8 _ (XS.sipush X8.here hx rfl (dc d39_102) (XS.icmpYes X8.here hx rfl (pc0 := 105) (pc' := 115) rfl (dc d39_105) rfl (XT.ii_ne_t (by decide)) (by decide) (by decide) (XS.aloadN X8.here hx rfl (dc d39_115) rfl rfl (st9 _ (XS.aloadN X9.here hx rfl (dc d39_119) rfl rfl (st10 _ (lenRm X10 hx hZ e10 p10 (dc d39_123) (XS.icmpYes X10.here hx rfl (pc0 := 124) (pc' := 169) rfl (dc d39_124) rfl (XT.ii_ne_t (by decide)) (by decide) (by decide) (XS.aloadN X10.here hx rfl (dc d39_169) rfl rfl (st12 _ k)))))))))))))))))))))))) ?_
  obtain ⟨T13, X13, e13, st13⟩ := getF X12 hx hZ hown (host := "") (Or.inl (ow 189 rfl)) Via.refl e12 p4 (g := (mkF m 176 #[sR b_, sJ x_, s2, sJ (own_key z_ x_), s2, sI 0, sI 1, su] [(.ref b_), (.int 1), (.ref A_)])) rfl rfl (dc d39_176)
  obtain ⟨T14, X14, e14, st14⟩ := getF X13 hx hZ hown (host := "") (Or.inl (ow 194 rfl)) Via.refl e13 p2 (g := (mkF m 184 #[sR b_, sJ x_, s2, sJ (own_key z_ x_), s2, sI 0, sI 1, su] [(.ref b_), (.int 2), (.ref A_), (.int 1), (.ref A_)])) rfl rfl (dc d39_184)
  obtain ⟨T15, h15, L15, X15, e15, N15, K15, B15, st15⟩ := acR X14 hx hZ hown (ow 282 rfl) (ow 285 rfl) (ow 283 rfl) (ow 284 rfl) e14 p10 (sp' := 1) (dp' := 2) (len := 0) ⟨by decide, by decide⟩ ⟨by decide, by decide⟩ ⟨by decide, by decide⟩ (by decide) (by decide) (by decide) (show StoL Z _ _ [] from trivial) N5 g1 (g := (mkF m 190 #[sR b_, sJ x_, s2, sJ (own_key z_ x_), s2, sI 0, sI 1, su] [(.int 0), (.int 2), (.ref A_), (.int 1), (.ref A_)])) rfl (by rw [hml]; rfl) rfl (dc d39_190) (by decide) (W := 0) (own_le20 rfl) (by decide)
  have C18 := p2.keep K15 (ninS q0 nin0)
  have C21 := p5.keep K15 (ninS q0 nin0)
  have C26 := p11.keep K15 (ninS q2.symm nin0)
  have Z27 := Nat.le_trans Z0 K15.1
  have K28 := K0.trans K15 (allS (Or.inl (List.mem_of_getElem? (i := 1) rfl)) all0)
  have B15 : Rbk Z h15 A_ "com/example/uncross/uncross/engine/BookSide$Level" 64 (Upd (fun _ => Value.null) 0 (.ref l0_)) := Rbk.congr B15 acZero
  obtain ⟨T29, X29, e29, st29⟩ := getF X15 hx hZ hown (host := "") (Or.inl (ow 192 rfl)) Via.refl e15 C21 (g := (mkF m 194 #[sR b_, sJ x_, s2, sJ (own_key z_ x_), s2, sI 0, sI 1, su] [(.ref b_)])) rfl rfl (dc d39_194)
  obtain ⟨T30, X30, e30, st30⟩ := getF X29 hx hZ hown (host := "") (Or.inl (ow 192 rfl)) Via.refl e29 C21 (g := (mkF m 200 #[sR b_, sJ x_, s2, sJ (own_key z_ x_), s2, sI 0, sI 1, su] [(.ref b_), (.int 1), (.ref K_)])) rfl rfl (dc d39_200)
  obtain ⟨T31, X31, e31, st31⟩ := getF X30 hx hZ hown (host := "") (Or.inl (ow 194 rfl)) Via.refl e30 C18 (g := (mkF m 208 #[sR b_, sJ x_, s2, sJ (own_key z_ x_), s2, sI 0, sI 1, su] [(.ref b_), (.int 2), (.ref K_), (.int 1), (.ref K_)])) rfl rfl (dc d39_208)
  obtain ⟨T32, h32, L32, X32, e32, N32, K32, B32, st32⟩ := acA X31 hx hZ hown (ow 282 rfl) (ow 285 rfl) (ow 283 rfl) (ow 284 rfl) e31 C26 rfl (fun _ => rfl) (sp' := 1) (dp' := 2) (len := 0) ⟨by decide, by decide⟩ ⟨by decide, by decide⟩ ⟨by decide, by decide⟩ (by decide) (by decide) (by decide)  N15 g2 (g := (mkF m 214 #[sR b_, sJ x_, s2, sJ (own_key z_ x_), s2, sI 0, sI 1, su] [(.int 0), (.int 2), (.ref K_), (.int 1), (.ref K_)])) rfl (by rw [hml]; rfl) rfl (dc d39_214) (by decide) (W := 0) (own_le20 rfl) (by decide)
  have C33 := (p0.keep K15).keep K32
  have C43 := B15.keep K32 (ninS q2 nin0)
  have Z44 := Nat.le_trans Z27 K32.1
  have K45 := K28.trans K32 (allS (Or.inl (List.mem_of_getElem? (i := 2) rfl)) all0)
  have B32 : Arf Z h32 K_ .long Value.long 64 (Upd (fun _ => (0 : Int64)) 0 (-9223372036854775808 : Int64)) := Arf.same B32 acZero
  refine Goes.on (T' := T32) (g' := (mkF m 217 #[sR b_, sJ x_, s2, sJ (own_key z_ x_), s2, sI 0, sI 1, su] [])) (fun _ k => XS.iload X12.here hx rfl (dc d39_173) rfl (XS.aloadN X12.here hx rfl (dc d39_175) rfl rfl (st13 _ (XS.iload X13.here hx rfl (dc d39_179) rfl (XS.iconst X13.here hx rfl (dc d39_181) (XS.iadd X13.here hx rfl (dc d39_182) rfl (XS.aloadN X13.here hx rfl (dc d39_183) rfl rfl (st14 _ (XS.iload X14.here hx rfl (dc d39_187) rfl (XS.isub X14.here hx rfl (dc d39_189) rfl (st15 _ (XS.aloadN X15.here hx rfl (dc d39_193) rfl rfl (st29 _ (XS.iload X29.here hx rfl (dc d39_197) rfl (XS.aloadN X29.here hx rfl (dc d39_199) rfl rfl (st30 _ (XS.iload X30.here hx rfl (dc d39_203) rfl (XS.iconst X30.here hx rfl (dc d39_205) (XS.iadd X30.here hx rfl (dc d39_206) rfl (XS.aloadN X30.here hx rfl (dc d39_207) rfl rfl (st31 _ (XS.iload X31.here hx rfl (dc d39_211) rfl (XS.isub X31.here hx rfl (dc d39_213) rfl (st32 _ k)))))))))))))))))))))))) ?_
  obtain ⟨T46, h46, X46, e46, E46, A46, D46, U46, st46⟩ := newO X32 hx hZ hown (ow 177 rfl) (ow 178 rfl) (ow 179 rfl) e32 (g := (mkF m 217 #[sR b_, sJ x_, s2, sJ (own_key z_ x_), s2, sI 0, sI 1, su] [])) rfl (dc d39_217) (by decide) (by decide)
  obtain ⟨a46, g46⟩ : ∃ z, z = h32.size := ⟨_, rfl⟩
  rw [← g46] at A46 D46 U46 st46
  have M46 : h0.size ≤ a46 := Nat.le_trans K45.1 (Nat.le_of_eq g46.symm)
  have ne59 := own_neG C33.lt g46
  have ne61 := own_neG C43.lt g46
  have ne62 := own_neG B32.lt g46
  have Z63 := Nat.le_trans Z44 E46.1
  have K64 := K45.ext E46
  have F65 : Fld Z h46 a46 "com/example/uncross/uncross/engine/BookSide$Level" "first" "Lcom/example/uncross/uncross/engine/BookSide$Resting;" .null := D46 (Or.inl (ow 229 rfl)) (ty := (.object "com/example/uncross/uncross/engine/BookSide$Resting")) (by decide)
  have F66 : Fld Z h46 a46 "com/example/uncross/uncross/engine/BookSide$Level" "last" "Lcom/example/uncross/uncross/engine/BookSide$Resting;" .null := D46 (Or.inl (ow 249 rfl)) (ty := (.object "com/example/uncross/uncross/engine/BookSide$Resting")) (by decide)
  have F67 : Fld Z h46 a46 "com/example/uncross/uncross/engine/BookSide$Level" "deep" "Z" (.int 0) := D46 (Or.inl (ow 295 rfl)) (ty := .boolean) (by decide)
  have F68 : Fld Z h46 a46 "com/example/uncross/uncross/engine/BookSide$Level" "key" "J" (.long 0) := D46 (Or.inr (ow 185 rfl)) (ty := .long) (by decide)
  have G46 : n0 ≤ a46 := Nat.le_trans Z44 (Nat.le_of_eq g46.symm)
  refine Goes.on (T' := T46) (g' := (mkF m 222 #[sR b_, sJ x_, s2, sJ (own_key z_ x_), s2, sI 0, sI 1, su] [(.long (own_key z_ x_)), (.ref a46), (.ref a46)])) (fun _ k => st46 _ (XS.dup X46.here hx rfl (dc d39_220) rfl rfl (XS.lloadN X46.here hx rfl (dc d39_221) rfl k))) ?_
  refine Goes.callC X46 hx hZ 1 rfl hown (ow 180 rfl) (ow 181 rfl) (ow 179 rfl) (ow 182 rfl) (by decide) e46 (rmLv l Z a0 hw a46 (own_key z_ x_) h46 n0 Z63 A46 G46 F65 F66 F67 F68) (by decide) (by decide) (by decide) (by decide) rfl (by rw [hml]; rfl) (a := a46) (argsL := [(.long (own_key z_ x_))]) (rest := [(.ref a46)]) rfl (lenOf pd_13 rfl) rfl (own_le20 rfl) (dc d39_222) ?_
  rintro v69 T69 L69 X69 ⟨rfl, N69q, K69, A69, B69_first, B69_last, B69_deep, B69_key⟩
  show Goes p e below _ T69 (mkF m 225 #[sR b_, sJ x_, s2, sJ (own_key z_ x_), s2, sI 0, sI 1, su] [(.ref a46)])
  have C74 := (((p4.keep K15 (ninS q0 nin0)).keep K32 (ninS q1 nin0)).ext E46).keep K69 (ninS ne59 nin0)
  have C80 := (C43.ext E46).keep K69 (ninS ne61 nin0)
  have K84 := K64.trans K69 (allS (Or.inr M46) all0)
  obtain ⟨T85, X85, e85, st85⟩ := getF X69 hx hZ hown (host := "") (Or.inl (ow 189 rfl)) Via.refl rfl C74 (g := (mkF m 228 #[sR b_, sJ x_, s2, sJ (own_key z_ x_), s2, sI 0, sI 1, sR a46] [(.ref b_)])) rfl rfl (dc d39_228)
  obtain ⟨T86, h86, X86, e86, W86, B86, st86⟩ := wrR X85 hx hZ e85 C80 (Or.inr ⟨_, rfl, Ins.self A69⟩) (by decide) (g := (mkF m 235 #[sR b_, sJ x_, s2, sJ (own_key z_ x_), s2, sI 0, sI 1, sR a46] [(.ref a46), (.int 1), (.ref A_)])) rfl rfl (dc d39_235)
  have C92 := (((C21.keep K32 (ninS q1 nin0)).ext E46).keep K69 (ninS ne59 nin0)).other W86 (Or.inl q0)
  have C97 := ((B32.ext E46).keep K69 (ninS ne62 nin0)).other W86 q2.symm
  have K104 := K84.wr W86 (Or.inl (List.mem_of_getElem? (i := 1) rfl))
  have B86 : Rbk Z h86 A_ "com/example/uncross/uncross/engine/BookSide$Level" 64 (Upd (Upd (fun _ => Value.null) 0 (.ref l0_)) 1 (.ref a46)) := B86
  obtain ⟨T105, X105, e105, st105⟩ := getF X86 hx hZ hown (host := "") (Or.inl (ow 192 rfl)) Via.refl e86 C92 (g := (mkF m 237 #[sR b_, sJ x_, s2, sJ (own_key z_ x_), s2, sI 0, sI 1, sR a46] [(.ref b_)])) rfl rfl (dc d39_237)
  obtain ⟨T106, h106, X106, e106, W106, B106, st106⟩ := wrJ X105 hx hZ e105 C97 (by decide)  (g := (mkF m 243 #[sR b_, sJ x_, s2, sJ (own_key z_ x_), s2, sI 0, sI 1, sR a46] [(.long (own_key z_ x_)), (.int 1), (.ref K_)])) rfl rfl (dc d39_243)
  have C107 := (((C33.ext E46).keep K69).wr W86).wr W106
  have C109 := ((((C18.keep K32 (ninS q1 nin0)).ext E46).keep K69 (ninS ne59 nin0)).other W86 (Or.inl q0)).other W106 (Or.inl q1)
  have K124 := K104.wr W106 (Or.inl (List.mem_of_getElem? (i := 2) rfl))
  have B106 : Arf Z h106 K_ .long Value.long 64 (Upd (Upd (fun _ => (0 : Int64)) 0 (-9223372036854775808 : Int64)) 1 (own_key z_ x_)) := B106
  obtain ⟨T125, X125, e125, st125⟩ := getF X106 hx hZ hown (host := "") (Or.inl (ow 194 rfl)) Via.refl e106 C109 (g := (mkF m 246 #[sR b_, sJ x_, s2, sJ (own_key z_ x_), s2, sI 0, sI 1, sR a46] [(.ref b_), (.ref b_)])) rfl rfl (dc d39_246)
  obtain ⟨T126, h126, X126, e126, W126, st126⟩ := putF X125 hx hZ hown (host := "") (Or.inl (ow 194 rfl)) Via.refl e125 C109 C107 (Or.inl (ow 195 rfl)) (ow 171 rfl) (ty := .int) (by decide) rfl rfl (g := (mkF m 251 #[sR b_, sJ x_, s2, sJ (own_key z_ x_), s2, sI 0, sI 1, sR a46] [(.int 2), (.ref b_)])) rfl rfl (dc d39_251)
  have N126 := Fr.snoc X126 (Fr.snoc X106 (Fr.snoc X86 (Fr.app N32 N69q) g1) g2) g0
  have C127 := C107.wr W126
  have C128 := ((((((p1.keep K15 (ninS q0 nin0)).keep K32 (ninS q1 nin0)).ext E46).keep K69 (ninS ne59 nin0)).other W86 (Or.inl q0)).other W106 (Or.inl q1)).other W126 (Or.inr (sn70 hw))
  have C129 := C109.same W126
  have C130 := ((((((p3.keep K15 (ninS q0 nin0)).keep K32 (ninS q1 nin0)).ext E46).keep K69 (ninS ne59 nin0)).other W86 (Or.inl q0)).other W106 (Or.inl q1)).other W126 (Or.inr (sn69 hw))
  have C131 := ((C74.other W86 (Or.inl q0)).other W106 (Or.inl q1)).other W126 (Or.inr (sn65 hw))
  have C132 := (C92.other W106 (Or.inl q1)).other W126 (Or.inr (sn66 hw))
  have C133 := ((((((p6.keep K15 (ninS q0 nin0)).keep K32 (ninS q1 nin0)).ext E46).keep K69 (ninS ne59 nin0)).other W86 (Or.inl q0)).other W106 (Or.inl q1)).other W126 (Or.inr (sn68 hw))
  have C134 := ((((((p7.keep K15 (ninS q0 nin0)).keep K32 (ninS q1 nin0)).ext E46).keep K69 (ninS ne59 nin0)).other W86 (Or.inl q0)).other W106 (Or.inl q1)).other W126 (Or.inr (sn67 hw))
  have C137 := (B86.other W106 q2).other W126 q0.symm
  have C138 := B106.other W126 q1.symm
  have C139 := ((A69.wr W86).wr W106).wr W126
  have C140 := ((B69_first.other W86 (Or.inl ne61.symm)).other W106 (Or.inl ne62.symm)).other W126 (Or.inl ne59.symm)
  have C141 := ((B69_last.other W86 (Or.inl ne61.symm)).other W106 (Or.inl ne62.symm)).other W126 (Or.inl ne59.symm)
  have C142 := ((B69_deep.other W86 (Or.inl ne61.symm)).other W106 (Or.inl ne62.symm)).other W126 (Or.inl ne59.symm)
  have C143 := ((B69_key.other W86 (Or.inl ne61.symm)).other W106 (Or.inl ne62.symm)).other W126 (Or.inl ne59.symm)
  have K145 := K124.wr W126 (Or.inl (List.mem_of_getElem? (i := 0) rfl))
  refine Goes.on (T' := T126) (g' := (mkF m 256 #[sR b_, sJ x_, s2, sJ (own_key z_ x_), s2, sI 0, sI 1, sR a46] [(.ref a46)])) (fun _ k => XS.astore X69.here hx rfl (dc d39_225) rfl rfl (l' := #[sR b_, sJ x_, s2, sJ (own_key z_ x_), s2, sI 0, sI 1, sR a46]) rfl (XS.aloadN X69.here hx rfl (dc d39_227) rfl rfl (st85 _ (XS.iload X85.here hx rfl (dc d39_231) rfl (XS.aload X85.here hx rfl (dc d39_233) rfl rfl (st86 _ (XS.aloadN X86.here hx rfl (dc d39_236) rfl rfl (st105 _ (XS.iload X105.here hx rfl (dc d39_240) rfl (XS.lloadN X105.here hx rfl (dc d39_242) rfl (st106 _ (XS.aloadN X106.here hx rfl (dc d39_244) rfl rfl (XS.dup X106.here hx rfl (dc d39_245) rfl rfl (st125 _ (XS.iconst X125.here hx rfl (dc d39_249) (XS.iadd X125.here hx rfl (dc d39_250) rfl (st126 _ (XS.aload X126.here hx rfl (dc d39_254) rfl rfl k)))))))))))))))))) ?_
  exact Goes.retA X126 hx hlk hret rfl rfl (dc d39_256) (by decide) (by decide) (by rw [e126]; exact ⟨a46, rfl, N126, K145, C127, C128, C129, C130, C131, C132, C133, C134, C137, C138, C139, C140, C141, C142, C143, M46⟩)
theorem d39_62 : decode c39C 62 = .ok (.aload_n 0, 1) := by decide +kernel
theorem d39_63 : decode c39C 63 = .ok (.getfield 18, 3) := by decide +kernel
theorem d39_66 : decode c39C 66 = .ok (.iload 5, 2) := by decide +kernel
theorem d39_68 : decode c39C 68 = .ok (.aaload, 1) := by decide +kernel
theorem d39_69 : decode c39C 69 = .ok (.astore 6, 2) := by decide +kernel
theorem d39_71 : decode c39C 71 = .ok (.aload 6, 2) := by decide +kernel
theorem d39_73 : decode c39C 73 = .ok (.getfield 51, 3) := by decide +kernel
theorem d39_76 : decode c39C 76 = .ok (.ifnonnull 13, 3) := by decide +kernel
theorem d39_89 : decode c39C 89 = .ok (.aload 6, 2) := by decide +kernel
theorem d39_91 : decode c39C 91 = .ok (.areturn, 1) := by decide +kernel
theorem rmLfE (l : Launch) (Z : State) (a0 : Array Value) (hw : TW Z a0) (b_ t_ A_ K_ m_ l0_ l1_ : Addr) (r0_ : Addr) (z_ : Int32) (x_ k1_ : Int64) (h0 : Heap) (n0 : Nat) (Z0 : n0 ≤ h0.size) (p0 : Exa Z h0 b_ k0C) (p1 : Fld Z h0 b_ k0C "buying" "Z" (.int z_)) (p2 : Fld Z h0 b_ k0C "levelCount" "I" (.int (2 : Int32))) (p3 : Fld Z h0 b_ k0C "deep" k9C (.ref t_)) (p4 : Fld Z h0 b_ k0C "levels" k6C (.ref A_)) (p5 : Fld Z h0 b_ k0C "keys" "[J" (.ref K_)) (p6 : Fld Z h0 b_ k0C "markets" k5C (.ref m_)) (p7 : Fld Z h0 b_ k0C "emptyLevels" "I" (.int (0 : Int32))) (p8 : Exa Z h0 t_ k12C) (p9 : Fld Z h0 t_ k12C "size" "I" (.int (0 : Int32))) (p10 : Rbk Z h0 A_ k2C 64 (Upd (Upd (fun _ => Value.null) 0 (.ref l0_)) 1 (.ref l1_))) (p11 : Arf Z h0 K_ .long Value.long 64 (Upd (Upd (fun _ => (0 : Int64)) 0 (-9223372036854775808 : Int64)) 1 k1_)) (p12 : Exa Z h0 l1_ k2C) (p13 : Fld Z h0 l1_ k2C "first" k4C (.ref r0_)) (q0 : b_ ≠ A_) (q1 : b_ ≠ K_) (q2 : A_ ≠ K_) (q3 : t_ ≠ b_) (q4 : t_ ≠ A_) (q5 : t_ ≠ K_) (hq : k1_ = (own_key z_ x_)) :
    Pays l Z (⟨"com/example/uncross/uncross/engine/BookSide", "levelFor", "(J)Lcom/example/uncross/uncross/engine/BookSide$Level;"⟩ : MethodName) prog_15_method_9_code 8 (some (.object "com/example/uncross/uncross/engine/BookSide$Level")) [] ({ frames := 2, cells := 1, slots := 4, locals := 40 } : Room) #[(.ref b_), (.long x_)] h0 (fun v h L => v = some (.ref l1_) ∧ Fr n0 L ∧ h = h0) := by
  refine Pays.walk (plainFor_of_name pn_13) (fun m => ef_14 m b_ x_ ) ?_
  intro p e s m below meth c T0 X0 hx hby hml hown hnm hZ e0 hret hlk
  have dc := @Jvm.hb _ _ hby
  have ow := @own_w Z a0 hw
  refine Goes.on (T' := T0) (g' := (mkF m 2 #[sR b_, sJ x_, s2, su, su, su, su, su] [(.long x_), (.ref b_)])) (fun _ k => XS.aloadN X0.here hx rfl (dc d39_0) rfl rfl (XS.lloadN X0.here hx rfl (dc d39_1) rfl k)) ?_
  refine Goes.callP X0 hx hZ 0 hown (ow 262 rfl) (ow 263 rfl) (ow 264 rfl) (ow 171 rfl) (ow 172 rfl) (ow 265 rfl) (by decide) e0 p0 (rmKy l Z a0 hw b_ z_ x_ h0 n0 Z0 p1) (by decide) (by decide) (by decide) (by decide) rfl (by rw [hml]; rfl) (argsL := [(.long x_)]) (rest := []) rfl (lenOf pd_19 rfl) rfl (own_le20 rfl) (dc d39_2) ?_
  rintro v1 T1 L1 X1 ⟨rfl, N1q, e1⟩
  show Goes p e below _ T1 (mkF m 5 #[sR b_, sJ x_, s2, su, su, su, su, su] [(.long (own_key z_ x_))])
  obtain ⟨T2, X2, e2, st2⟩ := getF X1 hx hZ hown (host := "") (Or.inl (ow 194 rfl)) Via.refl e1 p2 (g := (mkF m 7 #[sR b_, sJ x_, s2, sJ (own_key z_ x_), s2, su, su, su] [(.ref b_)])) rfl rfl (dc d39_7)
  obtain ⟨T3, X3, e3, st3⟩ := getF X2 hx hZ hown (host := "") (Or.inl (ow 215 rfl)) Via.refl e2 p3 (g := (mkF m 17 #[sR b_, sJ x_, s2, sJ (own_key z_ x_), s2, su, su, su] [(.ref b_)])) rfl rfl (dc d39_17)
  refine Goes.on (T' := T3) (g' := (mkF m 20 #[sR b_, sJ x_, s2, sJ (own_key z_ x_), s2, su, su, su] [(.ref t_)])) (fun _ k => XS.lstoreN X1.here hx rfl (dc d39_5) rfl (l' := #[sR b_, sJ x_, s2, sJ (own_key z_ x_), s2, su, su, su]) rfl (XS.aloadN X1.here hx rfl (dc d39_6) rfl rfl (st2 _ (XS.sipush X2.here hx rfl (dc d39_10) (XS.icmpNo X2.here hx rfl (dc d39_13) rfl (XT.ii_eq_f (by decide)) (XS.aloadN X2.here hx rfl (dc d39_16) rfl rfl (st3 _ k))))))) ?_
  refine Goes.callU X3 hx hZ 0 hown (ow 266 rfl) (ow 267 rfl) (ow 268 rfl) (by decide) (ow 270 rfl) (ow 269 rfl) (ow 206 rfl) (ow 271 rfl) e3 p8 (rmTq l Z a0 hw t_ h0 n0 Z0  p8 p9 ) (by decide) (by decide) (by decide) (by decide) rfl (by rw [hml]; rfl) (argsL := []) (rest := []) rfl (lenOf pd_3 rfl) rfl (own_le20 rfl) (dc d39_20) ?_
  rintro v4 T4 L4 X4 ⟨rfl, N4q, e4⟩
  show Goes p e below _ T4 (mkF m 23 #[sR b_, sJ x_, s2, sJ (own_key z_ x_), s2, su, su, su] [(.int 1)])
  refine Goes.on (T' := T4) (g' := (mkF m 45 #[sR b_, sJ x_, s2, sJ (own_key z_ x_), s2, su, su, su] [(.long (own_key z_ x_)), (.ref b_)])) (fun _ k => XS.ifYes X4.here hx rfl (pc0 := 23) (pc' := 43) rfl (dc d39_23) rfl (XT.i0_ne_t (by decide)) (by decide) (by decide) (XS.aloadN X4.here hx rfl (dc d39_43) rfl rfl (XS.lloadN X4.here hx rfl (dc d39_44) rfl k))) ?_
  refine Goes.callP X4 hx hZ 0 hown (ow 278 rfl) (ow 279 rfl) (ow 280 rfl) (ow 171 rfl) (ow 172 rfl) (ow 281 rfl) (by decide) e4 p0 (rmAb2n l Z a0 hw b_ K_ (own_key z_ x_) k1_ h0 n0 Z0  p0 p2 p5 p11 (own_le hq)) (by decide) (by decide) (by decide) (by decide) rfl (by rw [hml]; rfl) (argsL := [(.long (own_key z_ x_))]) (rest := []) rfl (lenOf pd_20 rfl) rfl (own_le20 rfl) (dc d39_45) ?_
  rintro v5 T5 L5 X5 ⟨rfl, N5q, e5⟩
  have N5 := Fr.app (Fr.app (Fr.app (Fr.nil n0) N1q) N4q) N5q
  show Goes p e below _ T5 (mkF m 48 #[sR b_, sJ x_, s2, sJ (own_key z_ x_), s2, su, su, su] [(.int 1)])
  obtain ⟨T6, X6, e6, st6⟩ := getF X5 hx hZ hown (host := "") (Or.inl (ow 192 rfl)) Via.refl e5 p5 (g := (mkF m 51 #[sR b_, sJ x_, s2, sJ (own_key z_ x_), s2, sI 1, su, su] [(.ref b_)])) rfl rfl (dc d39_51)
  obtain ⟨T8, X8, e8, st8⟩ := getF X6 hx hZ hown (host := "") (Or.inl (ow 189 rfl)) Via.refl e6 p4 (g := (mkF m 63 #[sR b_, sJ x_, s2, sJ (own_key z_ x_), s2, sI 1, su, su] [(.ref b_)])) rfl rfl (dc d39_63)
  obtain ⟨T10, X10, e10, st10⟩ := getF X8 hx hZ hown (host := "") (Or.inl (ow 228 rfl)) Via.refl e8 p13 (g := (mkF m 73 #[sR b_, sJ x_, s2, sJ (own_key z_ x_), s2, sI 1, sR l1_, su] [(.ref l1_)])) rfl rfl (dc d39_73)
  refine Goes.on (T' := T10) (g' := (mkF m 91 #[sR b_, sJ x_, s2, sJ (own_key z_ x_), s2, sI 1, sR l1_, su] [(.ref l1_)])) (fun _ k => XS.istore X5.here hx rfl (dc d39_48) rfl (l' := #[sR b_, sJ x_, s2, sJ (own_key z_ x_), s2, sI 1, su, su]) rfl (XS.aloadN X5.here hx rfl (dc d39_50) rfl rfl (st6 _ (XS.iload X6.here hx rfl (dc d39_54) rfl (ldJm X6 hx hZ e6 p11 (by decide) (dc d39_56) (XS.lloadN X6.here hx rfl (dc d39_57) rfl (XT.lcmp X6.here hx rfl (dc d39_58) rfl (XS.ifNo X6.here hx rfl (dc d39_59) rfl (XT.ll_ne_f hq) (XS.aloadN X6.here hx rfl (dc d39_62) rfl rfl (st8 _ (XS.iload X8.here hx rfl (dc d39_66) rfl (ldRm X8 hx hZ e8 p10 (by decide) (dc d39_68) (XS.astore X8.here hx rfl (dc d39_69) rfl rfl (l' := #[sR b_, sJ x_, s2, sJ (own_key z_ x_), s2, sI 1, sR l1_, su]) rfl (XS.aload X8.here hx rfl (dc d39_71) rfl rfl (st10 _ (XT.ifnonnullYes X10.here hx rfl (pc0 := 76) (pc' := 89) rfl (dc d39_76) rfl (by decide) (by decide) (XS.aload X10.here hx rfl (dc d39_89) rfl rfl k))))))))))))))))) ?_
  exact Goes.retA X10 hx hlk hret rfl rfl (dc d39_91) (by decide) (by decide) ⟨rfl, N5, e10⟩
theorem rmLfG (l : Launch) (Z : State) (a0 : Array Value) (hw : TW Z a0) (b_ t_ A_ K_ m_ l0_ l1_ : Addr) (z_ : Int32) (x_ k1_ : Int64) (h0 : Heap) (n0 : Nat) (Z0 : n0 ≤ h0.size) (p0 : Exa Z h0 b_ k0C) (p1 : Fld Z h0 b_ k0C "buying" "Z" (.int z_)) (p2 : Fld Z h0 b_ k0C "levelCount" "I" (.int (2 : Int32))) (p3 : Fld Z h0 b_ k0C "deep" k9C (.ref t_)) (p4 : Fld Z h0 b_ k0C "levels" k6C (.ref A_)) (p5 : Fld Z h0 b_ k0C "keys" "[J" (.ref K_)) (p6 : Fld Z h0 b_ k0C "markets" k5C (.ref m_)) (p7 : Fld Z h0 b_ k0C "emptyLevels" "I" (.int (0 : Int32))) (p8 : Exa Z h0 t_ k12C) (p9 : Fld Z h0 t_ k12C "size" "I" (.int (0 : Int32))) (p10 : Rbk Z h0 A_ k2C 64 (Upd (Upd (fun _ => Value.null) 0 (.ref l0_)) 1 (.ref l1_))) (p11 : Arf Z h0 K_ .long Value.long 64 (Upd (Upd (fun _ => (0 : Int64)) 0 (-9223372036854775808 : Int64)) 1 k1_)) (p12 : Exa Z h0 l1_ k2C) (q0 : b_ ≠ A_) (q1 : b_ ≠ K_) (q2 : A_ ≠ K_) (q3 : t_ ≠ b_) (q4 : t_ ≠ A_) (q5 : t_ ≠ K_) (g0 : n0 ≤ b_) (g1 : n0 ≤ A_) (g2 : n0 ≤ K_) (h1 : ¬ (own_key z_ x_) < k1_) (hq : ¬ k1_ = (own_key z_ x_)) :
    Pays l Z (⟨"com/example/uncross/uncross/engine/BookSide", "levelFor", "(J)Lcom/example/uncross/uncross/engine/BookSide$Level;"⟩ : MethodName) prog_15_method_9_code 8 (some (.object "com/example/uncross/uncross/engine/BookSide$Level")) [] ({ frames := 2, cells := 1, slots := 4, locals := 40 } : Room) #[(.ref b_), (.long x_)] h0 (fun v h L => ∃ (n0_ : Addr), v = some (.ref n0_) ∧ Fr n0 L ∧ Keep h0 h [b_, A_, K_] ∧ Exa Z h b_ k0C ∧ Fld Z h b_ k0C "buying" "Z" (.int z_) ∧ Fld Z h b_ k0C "levelCount" "I" (.int (3 : Int32)) ∧ Fld Z h b_ k0C "deep" k9C (.ref t_) ∧ Fld Z h b_ k0C "levels" k6C (.ref A_) ∧ Fld Z h b_ k0C "keys" "[J" (.ref K_) ∧ Fld Z h b_ k0C "markets" k5C (.ref m_) ∧ Fld Z h b_ k0C "emptyLevels" "I" (.int (0 : Int32)) ∧ Rbk Z h A_ k2C 64 (Upd (Upd (Upd (fun _ => Value.null) 0 (.ref l0_)) 1 (.ref l1_)) 2 (.ref n0_)) ∧ Exa Z h n0_ k2C ∧ Fld Z h n0_ k2C "first" k4C .null ∧ Fld Z h n0_ k2C "last" k4C .null ∧ Fld Z h n0_ k2C "deep" "Z" (.int (0 : Int32)) ∧ Fld Z h n0_ k2C "key" "J" (.long (own_key z_ x_)) ∧ h0.size ≤ n0_) := by
  refine Pays.walk (plainFor_of_name pn_13) (fun m => ef_14 m b_ x_ ) ?_
  intro p e s m below meth c T0 X0 hx hby hml hown hnm hZ e0 hret hlk
  have dc := @Jvm.hb _ _ hby
  have ow := @own_w Z a0 hw
  have K0 := Keep.refl h0 ([b_, A_, K_] : List Addr)
  refine Goes.on (T' := T0) (g' := (mkF m 2 #[sR b_, sJ x_, s2, su, su, su, su, su] [(.long x_), (.ref b_)])) (fun _ k => XS.aloadN X0.here hx rfl (dc d39_0) rfl rfl (XS.lloadN X0.here hx rfl (dc d39_1) rfl k)) ?_
  refine Goes.callP X0 hx hZ 0 hown (ow 262 rfl) (ow 263 rfl) (ow 264 rfl) (ow 171 rfl) (ow 172 rfl) (ow 265 rfl) (by decide) e0 p0 (rmKy l Z a0 hw b_ z_ x_ h0 n0 Z0 p1) (by decide) (by decide) (by decide) (by decide) rfl (by rw [hml]; rfl) (argsL := [(.long x_)]) (rest := []) rfl (lenOf pd_19 rfl) rfl (own_le20 rfl) (dc d39_2) ?_
  rintro v1 T1 L1 X1 ⟨rfl, N1q, e1⟩
  show Goes p e below _ T1 (mkF m 5 #[sR b_, sJ x_, s2, su, su, su, su, su] [(.long (own_key z_ x_))])
  obtain ⟨T2, X2, e2, st2⟩ := getF X1 hx hZ hown (host := "") (Or.inl (ow 194 rfl)) Via.refl e1 p2 (g := (mkF m 7 #[sR b_, sJ x_, s2, sJ (own_key z_ x_), s2, su, su, su] [(.ref b_)])) rfl rfl (dc d39_7)
  obtain ⟨T3, X3, e3, st3⟩ := getF X2 hx hZ hown (host := "") (Or.inl (ow 215 rfl)) Via.refl e2 p3 (g := (mkF m 17 #[sR b_, sJ x_, s2, sJ (own_key z_ x_), s2, su, su, su] [(.ref b_)])) rfl rfl (dc d39_17)
  refine Goes.on (T' := T3) (g' := (mkF m 20 #[sR b_, sJ x_, s2, sJ (own_key z_ x_), s2, su, su, su] [(.ref t_)])) (fun _ k => XS.lstoreN X1.here hx rfl (dc d39_5) rfl (l' := #[sR b_, sJ x_, s2, sJ (own_key z_ x_), s2, su, su, su]) rfl (XS.aloadN X1.here hx rfl (dc d39_6) rfl rfl (st2 _ (XS.sipush X2.here hx rfl (dc d39_10) (XS.icmpNo X2.here hx rfl (dc d39_13) rfl (XT.ii_eq_f (by decide)) (XS.aloadN X2.here hx rfl (dc d39_16) rfl rfl (st3 _ k))))))) ?_
  refine Goes.callU X3 hx hZ 0 hown (ow 266 rfl) (ow 267 rfl) (ow 268 rfl) (by decide) (ow 270 rfl) (ow 269 rfl) (ow 206 rfl) (ow 271 rfl) e3 p8 (rmTq l Z a0 hw t_ h0 n0 Z0  p8 p9 ) (by decide) (by decide) (by decide) (by decide) rfl (by rw [hml]; rfl) (argsL := []) (rest := []) rfl (lenOf pd_3 rfl) rfl (own_le20 rfl) (dc d39_20) ?_
  rintro v4 T4 L4 X4 ⟨rfl, N4q, e4⟩
  show Goes p e below _ T4 (mkF m 23 #[sR b_, sJ x_, s2, sJ (own_key z_ x_), s2, su, su, su] [(.int 1)])
  refine Goes.on (T' := T4) (g' := (mkF m 45 #[sR b_, sJ x_, s2, sJ (own_key z_ x_), s2, su, su, su] [(.long (own_key z_ x_)), (.ref b_)])) (fun _ k => XS.ifYes X4.here hx rfl (pc0 := 23) (pc' := 43) rfl (dc d39_23) rfl (XT.i0_ne_t (by decide)) (by decide) (by decide) (XS.aloadN X4.here hx rfl (dc d39_43) rfl rfl (XS.lloadN X4.here hx rfl (dc d39_44) rfl k))) ?_
  refine Goes.callP X4 hx hZ 0 hown (ow 278 rfl) (ow 279 rfl) (ow 280 rfl) (ow 171 rfl) (ow 172 rfl) (ow 281 rfl) (by decide) e4 p0 (rmAb2n l Z a0 hw b_ K_ (own_key z_ x_) k1_ h0 n0 Z0  p0 p2 p5 p11 h1) (by decide) (by decide) (by decide) (by decide) rfl (by rw [hml]; rfl) (argsL := [(.long (own_key z_ x_))]) (rest := []) rfl (lenOf pd_20 rfl) rfl (own_le20 rfl) (dc d39_45) ?_
  rintro v5 T5 L5 X5 ⟨rfl, N5q, e5⟩
  have N5 := Fr.app (Fr.app (Fr.app (Fr.nil n0) N1q) N4q) N5q
  show Goes p e below _ T5 (mkF m 48 #[sR b_, sJ x_, s2, sJ (own_key z_ x_), s2, su, su, su] [(.int 1)])
  obtain ⟨T6, X6, e6, st6⟩ := getF X5 hx hZ hown (host := "") (Or.inl (ow 192 rfl)) Via.refl e5 p5 (g := (mkF m 51 #[sR b_, sJ x_, s2, sJ (own_key z_ x_), s2, sI 1, su, su] [(.ref b_)])) rfl rfl (dc d39_51)
  obtain ⟨T8, X8, e8, st8⟩ := getF X6 hx hZ hown (host := "") (Or.inl (ow 194 rfl)) Via.refl e6 p2 (g := (mkF m 99 #[sR b_, sJ x_, s2, sJ (own_key z_ x_), s2, sI 1, sI 2, su] [(.ref b_)])) rfl rfl (dc d39_99)
  obtain ⟨T9, X9, e9, st9⟩ := getF X8 hx hZ hown (host := "") (Or.inl (ow 194 rfl)) Via.refl e8 p2 (g := (mkF m 116 #[sR b_, sJ x_, s2, sJ (own_key z_ x_), s2, sI 1, sI 2, su] [(.ref b_)])) rfl rfl (dc d39_116)
  obtain ⟨T10, X10, e10, st10⟩ := getF X9 hx hZ hown (host := "") (Or.inl (ow 189 rfl)) Via.refl e9 p4 (g := (mkF m 120 #[sR b_, sJ x_, s2, sJ (own_key z_ x_), s2, sI 1, sI 2, su] [(.ref b_), (.int 2)])) rfl rfl (dc d39_120)
  obtain ⟨T12, X12, e12, st12⟩ := getF X10 hx hZ hown (host := "") (Or.inl (ow 189 rfl)) Via.refl e10 p4 (g := (mkF m 170 #[sR b_, sJ x_, s2, sJ (own_key z_ x_), s2, sI 1, sI 2, su] [(.ref b_)])) rfl rfl (dc d39_170)
  refine Goes.on (T' := T12) (g' := (mkF m 173 #[sR b_, sJ x_, s2, sJ (own_key z_ x_), s2, sI 1, sI 2, su] [(.ref A_)])) (fun _ k => XS.istore X5.here hx rfl (dc d39_48) rfl (l' := #[sR b_, sJ x_, s2, sJ (own_key z_ x_), s2, sI 1, su, su]) rfl (XS.aloadN X5.here hx rfl (dc d39_50) rfl rfl (st6 _ (XS.iload X6.here hx rfl (dc d39_54) rfl (ldJm X6 hx hZ e6 p11 (by decide) (dc d39_56) (XS.lloadN X6.here hx rfl (dc d39_57) rfl (XT.lcmp X6.here hx rfl (dc d39_58) rfl (XS.ifYes X6.here hx rfl (pc0 := 59) (pc' := 92) rfl (dc d39_59) rfl (XT.ll_ne_t hq) (by decide) (by decide) (XS.iload X6.here hx rfl (dc d39_92) rfl (XS.iconst X6.here hx rfl (dc d39_94) (XS.iadd X6.here hx rfl (dc d39_95) rfl (XS.istore X6.here hx rfl (dc d39_96) rfl (l' := #[sR b_, sJ x_, s2, sJ (own_key z_ x_), s2, sI 1, sI 2, su]) rfl (XS.aloadN X6.here hx rfl (dc d39_98) rfl rfl (st8 _ (XS.sipush X8.here hx rfl (dc d39_102) (XS.icmpYes X8.here hx rfl (pc0 := 105) (pc' := 115) rfl (dc d39_105) rfl (XT.ii_ne_t (by decide)) (by decide) (by decide) (XS.aloadN X8.here hx rfl (dc d39_115) rfl rfl (st9 _ (XS.aloadN X9.here hx rfl (dc d39_119) rfl rfl (st10 _ (lenRm X10 hx hZ e10 p10 (dc d39_123) (XS.icmpYes X10.here hx rfl (pc0 := 124) (pc' := 169) rfl (dc d39_124) rfl (XT.ii_ne_t (by decide)) (by decide) (by decide) (XS.aloadN X10.here hx rfl (dc d39_169) rfl rfl (st12 _ k)))))))))))))))))))))))) ?_
  obtain ⟨T13, X13, e13, st13⟩ := getF X12 hx hZ hown (host := "") (Or.inl (ow 189 rfl)) Via.refl e12 p4 (g := (mkF m 176 #[sR b_, sJ x_, s2, sJ (own_key z_ x_), s2, sI 1, sI 2, su] [(.ref b_), (.int 2), (.ref A_)])) rfl rfl (dc d39_176)
  obtain ⟨T14, X14, e14, st14⟩ := getF X13 hx hZ hown (host := "") (Or.inl (ow 194 rfl)) Via.refl e13 p2 (g := (mkF m 184 #[sR b_, sJ x_, s2, sJ (own_key z_ x_), s2, sI 1, sI 2, su] [(.ref b_), (.int 3), (.ref A_), (.int 2), (.ref A_)])) rfl rfl (dc d39_184)
  obtain ⟨T15, h15, L15, X15, e15, N15, K15, B15, st15⟩ := acR X14 hx hZ hown (ow 282 rfl) (ow 285 rfl) (ow 283 rfl) (ow 284 rfl) e14 p10 (sp' := 2) (dp' := 3) (len := 0) ⟨by decide, by decide⟩ ⟨by decide, by decide⟩ ⟨by decide, by decide⟩ (by decide) (by decide) (by decide) (show StoL Z _ _ [] from trivial) N5 g1 (g := (mkF m 190 #[sR b_, sJ x_, s2, sJ (own_key z_ x_), s2, sI 1, sI 2, su] [(.int 0), (.int 3), (.ref A_), (.int 2), (.ref A_)])) rfl (by rw [hml]; rfl) rfl (dc d39_190) (by decide) (W := 0) (own_le20 rfl) (by decide)
  have C18 := p2.keep K15 (ninS q0 nin0)
  have C21 := p5.keep K15 (ninS q0 nin0)
  have C26 := p11.keep K15 (ninS q2.symm nin0)
  have Z28 := Nat.le_trans Z0 K15.1
  have K29 := K0.trans K15 (allS (Or.inl (List.mem_of_getElem? (i := 1) rfl)) all0)
  have B15 : Rbk Z h15 A_ "com/example/uncross/uncross/engine/BookSide$Level" 64 (Upd (Upd (fun _ => Value.null) 0 (.ref l0_)) 1 (.ref l1_)) := Rbk.congr B15 acZero
  obtain ⟨T30, X30, e30, st30⟩ := getF X15 hx hZ hown (host := "") (Or.inl (ow 192 rfl)) Via.refl e15 C21 (g := (mkF m 194 #[sR b_, sJ x_, s2, sJ (own_key z_ x_), s2, sI 1, sI 2, su] [(.ref b_)])) rfl rfl (dc d39_194)
  obtain ⟨T31, X31, e31, st31⟩ := getF X30 hx hZ hown (host := "") (Or.inl (ow 192 rfl)) Via.refl e30 C21 (g := (mkF m 200 #[sR b_, sJ x_, s2, sJ (own_key z_ x_), s2, sI 1, sI 2, su] [(.ref b_), (.int 2), (.ref K_)])) rfl rfl (dc d39_200)
  obtain ⟨T32, X32, e32, st32⟩ := getF X31 hx hZ hown (host := "") (Or.inl (ow 194 rfl)) Via.refl e31 C18 (g := (mkF m 208 #[sR b_, sJ x_, s2, sJ (own_key z_ x_), s2, sI 1, sI 2, su] [(.ref b_), (.int 3), (.ref K_), (.int 2), (.ref K_)])) rfl rfl (dc d39_208)
  obtain ⟨T33, h33, L33, X33, e33, N33, K33, B33, st33⟩ := acA X32 hx hZ hown (ow 282 rfl) (ow 285 rfl) (ow 283 rfl) (ow 284 rfl) e32 C26 rfl (fun _ => rfl) (sp' := 2) (dp' := 3) (len := 0) ⟨by decide, by decide⟩ ⟨by decide, by decide⟩ ⟨by decide, by decide⟩ (by decide) (by decide) (by decide)  N15 g2 (g := (mkF m 214 #[sR b_, sJ x_, s2, sJ (own_key z_ x_), s2, sI 1, sI 2, su] [(.int 0), (.int 3), (.ref K_), (.int 2), (.ref K_)])) rfl (by rw [hml]; rfl) rfl (dc d39_214) (by decide) (W := 0) (own_le20 rfl) (by decide)
  have C34 := (p0.keep K15).keep K33
  have C45 := B15.keep K33 (ninS q2 nin0)
  have Z46 := Nat.le_trans Z28 K33.1
  have K47 := K29.trans K33 (allS (Or.inl (List.mem_of_getElem? (i := 2) rfl)) all0)
  have B33 : Arf Z h33 K_ .long Value.long 64 (Upd (Upd (fun _ => (0 : Int64)) 0 (-9223372036854775808 : Int64)) 1 k1_) := Arf.same B33 acZero
  refine Goes.on (T' := T33) (g' := (mkF m 217 #[sR b_, sJ x_, s2, sJ (own_key z_ x_), s2, sI 1, sI 2, su] [])) (fun _ k => XS.iload X12.here hx rfl (dc d39_173) rfl (XS.aloadN X12.here hx rfl (dc d39_175) rfl rfl (st13 _ (XS.iload X13.here hx rfl (dc d39_179) rfl (XS.iconst X13.here hx rfl (dc d39_181) (XS.iadd X13.here hx rfl (dc d39_182) rfl (XS.aloadN X13.here hx rfl (dc d39_183) rfl rfl (st14 _ (XS.iload X14.here hx rfl (dc d39_187) rfl (XS.isub X14.here hx rfl (dc d39_189) rfl (st15 _ (XS.aloadN X15.here hx rfl (dc d39_193) rfl rfl (st30 _ (XS.iload X30.here hx rfl (dc d39_197) rfl (XS.aloadN X30.here hx rfl (dc d39_199) rfl rfl (st31 _ (XS.iload X31.here hx rfl (dc d39_203) rfl (XS.iconst X31.here hx rfl (dc d39_205) (XS.iadd X31.here hx rfl (dc d39_206) rfl (XS.aloadN X31.here hx rfl (dc d39_207) rfl rfl (st32 _ (XS.iload X32.here hx rfl (dc d39_211) rfl (XS.isub X32.here hx rfl (dc d39_213) rfl (st33 _ k)))))))))))))))))))))))) ?_
  obtain ⟨T48, h48, X48, e48, E48, A48, D48, U48, st48⟩ := newO X33 hx hZ hown (ow 177 rfl) (ow 178 rfl) (ow 179 rfl) e33 (g := (mkF m 217 #[sR b_, sJ x_, s2, sJ (own_key z_ x_), s2, sI 1, sI 2, su] [])) rfl (dc d39_217) (by decide) (by decide)
  obtain ⟨a48, g48⟩ : ∃ z, z = h33.size := ⟨_, rfl⟩
  rw [← g48] at A48 D48 U48 st48
  have M48 : h0.size ≤ a48 := Nat.le_trans K47.1 (Nat.le_of_eq g48.symm)
  have ne62 := own_neG C34.lt g48
  have ne65 := own_neG C45.lt g48
  have ne66 := own_neG B33.lt g48
  have Z67 := Nat.le_trans Z46 E48.1
  have K68 := K47.ext E48
  have F69 : Fld Z h48 a48 "com/example/uncross/uncross/engine/BookSide$Level" "first" "Lcom/example/uncross/uncross/engine/BookSide$Resting;" .null := D48 (Or.inl (ow 229 rfl)) (ty := (.object "com/example/uncross/uncross/engine/BookSide$Resting")) (by decide)
  have F70 : Fld Z h48 a48 "com/example/uncross/uncross/engine/BookSide$Level" "last" "Lcom/example/uncross/uncross/engine/BookSide$Resting;" .null := D48 (Or.inl (ow 249 rfl)) (ty := (.object "com/example/uncross/uncross/engine/BookSide$Resting")) (by decide)
  have F71 : Fld Z h48 a48 "com/example/uncross/uncross/engine/BookSide$Level" "deep" "Z" (.int 0) := D48 (Or.inl (ow 295 rfl)) (ty := .boolean) (by decide)
  have F72 : Fld Z h48 a48 "com/example/uncross/uncross/engine/BookSide$Level" "key" "J" (.long 0) := D48 (Or.inr (ow 185 rfl)) (ty := .long) (by decide)
  have G48 : n0 ≤ a48 := Nat.le_trans Z46 (Nat.le_of_eq g48.symm)
  refine Goes.on (T' := T48) (g' := (mkF m 222 #[sR b_, sJ x_, s2, sJ (own_key z_ x_), s2, sI 1, sI 2, su] [(.long (own_key z_ x_)), (.ref a48), (.ref a48)])) (fun _ k => st48 _ (XS.dup X48.here hx rfl (dc d39_220) rfl rfl (XS.lloadN X48.here hx rfl (dc d39_221) rfl k))) ?_
  refine Goes.callC X48 hx hZ 1 rfl hown (ow 180 rfl) (ow 181 rfl) (ow 179 rfl) (ow 182 rfl) (by decide) e48 (rmLv l Z a0 hw a48 (own_key z_ x_) h48 n0 Z67 A48 G48 F69 F70 F71 F72) (by decide) (by decide) (by decide) (by decide) rfl (by rw [hml]; rfl) (a := a48) (argsL := [(.long (own_key z_ x_))]) (rest := [(.ref a48)]) rfl (lenOf pd_13 rfl) rfl (own_le20 rfl) (dc d39_222) ?_
  rintro v73 T73 L73 X73 ⟨rfl, N73q, K73, A73, B73_first, B73_last, B73_deep, B73_key⟩
  show Goes p e below _ T73 (mkF m 225 #[sR b_, sJ x_, s2, sJ (own_key z_ x_), s2, sI 1, sI 2, su] [(.ref a48)])
  have C78 := (((p4.keep K15 (ninS q0 nin0)).keep K33 (ninS q1 nin0)).ext E48).keep K73 (ninS ne62 nin0)
  have C85 := (C45.ext E48).keep K73 (ninS ne65 nin0)
  have K89 := K68.trans K73 (allS (Or.inr M48) all0)
  obtain ⟨T90, X90, e90, st90⟩ := getF X73 hx hZ hown (host := "") (Or.inl (ow 189 rfl)) Via.refl rfl C78 (g := (mkF m 228 #[sR b_, sJ x_, s2, sJ (own_key z_ x_), s2, sI 1, sI 2, sR a48] [(.ref b_)])) rfl rfl (dc d39_228)
  obtain ⟨T91, h91, X91, e91, W91, B91, st91⟩ := wrR X90 hx hZ e90 C85 (Or.inr ⟨_, rfl, Ins.self A73⟩) (by decide) (g := (mkF m 235 #[sR b_, sJ x_, s2, sJ (own_key z_ x_), s2, sI 1, sI 2, sR a48] [(.ref a48), (.int 2), (.ref A_)])) rfl rfl (dc d39_235)
  have C97 := (((C21.keep K33 (ninS q1 nin0)).ext E48).keep K73 (ninS ne62 nin0)).other W91 (Or.inl q0)
  have C103 := ((B33.ext E48).keep K73 (ninS ne66 nin0)).other W91 q2.symm
  have K110 := K89.wr W91 (Or.inl (List.mem_of_getElem? (i := 1) rfl))
  have B91 : Rbk Z h91 A_ "com/example/uncross/uncross/engine/BookSide$Level" 64 (Upd (Upd (Upd (fun _ => Value.null) 0 (.ref l0_)) 1 (.ref l1_)) 2 (.ref a48)) := B91
  obtain ⟨T111, X111, e111, st111⟩ := getF X91 hx hZ hown (host := "") (Or.inl (ow 192 rfl)) Via.refl e91 C97 (g := (mkF m 237 #[sR b_, sJ x_, s2, sJ (own_key z_ x_), s2, sI 1, sI 2, sR a48] [(.ref b_)])) rfl rfl (dc d39_237)
  obtain ⟨T112, h112, X112, e112, W112, B112, st112⟩ := wrJ X111 hx hZ e111 C103 (by decide)  (g := (mkF m 243 #[sR b_, sJ x_, s2, sJ (own_key z_ x_), s2, sI 1, sI 2, sR a48] [(.long (own_key z_ x_)), (.int 2), (.ref K_)])) rfl rfl (dc d39_243)
  have C113 := (((C34.ext E48).keep K73).wr W91).wr W112
  have C115 := ((((C18.keep K33 (ninS q1 nin0)).ext E48).keep K73 (ninS ne62 nin0)).other W91 (Or.inl q0)).other W112 (Or.inl q1)
  have K131 := K110.wr W112 (Or.inl (List.mem_of_getElem? (i := 2) rfl))
  have B112 : Arf Z h112 K_ .long Value.long 64 (Upd (Upd (Upd (fun _ => (0 : Int64)) 0 (-9223372036854775808 : Int64)) 1 k1_) 2 (own_key z_ x_)) := B112
  obtain ⟨T132, X132, e132, st132⟩ := getF X112 hx hZ hown (host := "") (Or.inl (ow 194 rfl)) Via.refl e112 C115 (g := (mkF m 246 #[sR b_, sJ x_, s2, sJ (own_key z_ x_), s2, sI 1, sI 2, sR a48] [(.ref b_), (.ref b_)])) rfl rfl (dc d39_246)
  obtain ⟨T133, h133, X133, e133, W133, st133⟩ := putF X132 hx hZ hown (host := "") (Or.inl (ow 194 rfl)) Via.refl e132 C115 C113 (Or.inl (ow 195 rfl)) (ow 171 rfl) (ty := .int) (by decide) rfl rfl (g := (mkF m 251 #[sR b_, sJ x_, s2, sJ (own_key z_ x_), s2, sI 1, sI 2, sR a48] [(.int 3), (.ref b_)])) rfl rfl (dc d39_251)
  have N133 := Fr.snoc X133 (Fr.snoc X112 (Fr.snoc X91 (Fr.app N33 N73q) g1) g2) g0
  have C134 := C113.wr W133
  have C135 := ((((((p1.keep K15 (ninS q0 nin0)).keep K33 (ninS q1 nin0)).ext E48).keep K73 (ninS ne62 nin0)).other W91 (Or.inl q0)).other W112 (Or.inl q1)).other W133 (Or.inr (sn70 hw))
  have C136 := C115.same W133
  have C137 := ((((((p3.keep K15 (ninS q0 nin0)).keep K33 (ninS q1 nin0)).ext E48).keep K73 (ninS ne62 nin0)).other W91 (Or.inl q0)).other W112 (Or.inl q1)).other W133 (Or.inr (sn69 hw))
  have C138 := ((C78.other W91 (Or.inl q0)).other W112 (Or.inl q1)).other W133 (Or.inr (sn65 hw))
  have C139 := (C97.other W112 (Or.inl q1)).other W133 (Or.inr (sn66 hw))
  have C140 := ((((((p6.keep K15 (ninS q0 nin0)).keep K33 (ninS q1 nin0)).ext E48).keep K73 (ninS ne62 nin0)).other W91 (Or.inl q0)).other W112 (Or.inl q1)).other W133 (Or.inr (sn68 hw))
  have C141 := ((((((p7.keep K15 (ninS q0 nin0)).keep K33 (ninS q1 nin0)).ext E48).keep K73 (ninS ne62 nin0)).other W91 (Or.inl q0)).other W112 (Or.inl q1)).other W133 (Or.inr (sn67 hw))
  have C145 := (B91.other W112 q2).other W133 q0.symm
  have C147 := ((A73.wr W91).wr W112).wr W133
  have C148 := ((B73_first.other W91 (Or.inl ne65.symm)).other W112 (Or.inl ne66.symm)).other W133 (Or.inl ne62.symm)
  have C149 := ((B73_last.other W91 (Or.inl ne65.symm)).other W112 (Or.inl ne66.symm)).other W133 (Or.inl ne62.symm)
  have C150 := ((B73_deep.other W91 (Or.inl ne65.symm)).other W112 (Or.inl ne66.symm)).other W133 (Or.inl ne62.symm)
  have C151 := ((B73_key.other W91 (Or.inl ne65.symm)).other W112 (Or.inl ne66.symm)).other W133 (Or.inl ne62.symm)
  have K153 := K131.wr W133 (Or.inl (List.mem_of_getElem? (i := 0) rfl))
  refine Goes.on (T' := T133) (g' := (mkF m 256 #[sR b_, sJ x_, s2, sJ (own_key z_ x_), s2, sI 1, sI 2, sR a48] [(.ref a48)])) (fun _ k => XS.astore X73.here hx rfl (dc d39_225) rfl rfl (l' := #[sR b_, sJ x_, s2, sJ (own_key z_ x_), s2, sI 1, sI 2, sR a48]) rfl (XS.aloadN X73.here hx rfl (dc d39_227) rfl rfl (st90 _ (XS.iload X90.here hx rfl (dc d39_231) rfl (XS.aload X90.here hx rfl (dc d39_233) rfl rfl (st91 _ (XS.aloadN X91.here hx rfl (dc d39_236) rfl rfl (st111 _ (XS.iload X111.here hx rfl (dc d39_240) rfl (XS.lloadN X111.here hx rfl (dc d39_242) rfl (st112 _ (XS.aloadN X112.here hx rfl (dc d39_244) rfl rfl (XS.dup X112.here hx rfl (dc d39_245) rfl rfl (st132 _ (XS.iconst X132.here hx rfl (dc d39_249) (XS.iadd X132.here hx rfl (dc d39_250) rfl (st133 _ (XS.aload X133.here hx rfl (dc d39_254) rfl rfl k)))))))))))))))))) ?_
  exact Goes.retA X133 hx hlk hret rfl rfl (dc d39_256) (by decide) (by decide) (by rw [e133]; exact ⟨a48, rfl, N133, K153, C134, C135, C136, C137, C138, C139, C140, C141, C145, C147, C148, C149, C150, C151, M48⟩)
theorem rmLfL (l : Launch) (Z : State) (a0 : Array Value) (hw : TW Z a0) (b_ t_ A_ K_ m_ l0_ l1_ : Addr) (z_ : Int32) (x_ k1_ : Int64) (h0 : Heap) (n0 : Nat) (Z0 : n0 ≤ h0.size) (p0 : Exa Z h0 b_ k0C) (p1 : Fld Z h0 b_ k0C "buying" "Z" (.int z_)) (p2 : Fld Z h0 b_ k0C "levelCount" "I" (.int (2 : Int32))) (p3 : Fld Z h0 b_ k0C "deep" k9C (.ref t_)) (p4 : Fld Z h0 b_ k0C "levels" k6C (.ref A_)) (p5 : Fld Z h0 b_ k0C "keys" "[J" (.ref K_)) (p6 : Fld Z h0 b_ k0C "markets" k5C (.ref m_)) (p7 : Fld Z h0 b_ k0C "emptyLevels" "I" (.int (0 : Int32))) (p8 : Exa Z h0 t_ k12C) (p9 : Fld Z h0 t_ k12C "size" "I" (.int (0 : Int32))) (p10 : Rbk Z h0 A_ k2C 64 (Upd (Upd (fun _ => Value.null) 0 (.ref l0_)) 1 (.ref l1_))) (p11 : Arf Z h0 K_ .long Value.long 64 (Upd (Upd (fun _ => (0 : Int64)) 0 (-9223372036854775808 : Int64)) 1 k1_)) (p12 : Exa Z h0 l1_ k2C) (q0 : b_ ≠ A_) (q1 : b_ ≠ K_) (q2 : A_ ≠ K_) (q3 : t_ ≠ b_) (q4 : t_ ≠ A_) (q5 : t_ ≠ K_) (g0 : n0 ≤ b_) (g1 : n0 ≤ A_) (g2 : n0 ≤ K_) (h1 : (own_key z_ x_) < k1_) (hm : ¬ (-9223372036854775808 : Int64) = (own_key z_ x_)) :
    Pays l Z (⟨"com/example/uncross/uncross/engine/BookSide", "levelFor", "(J)Lcom/example/uncross/uncross/engine/BookSide$Level;"⟩ : MethodName) prog_15_method_9_code 8 (some (.object "com/example/uncross/uncross/engine/BookSide$Level")) [] ({ frames := 2, cells := 1, slots := 4, locals := 40 } : Room) #[(.ref b_), (.long x_)] h0 (fun v h L => ∃ (n0_ : Addr), v = some (.ref n0_) ∧ Fr n0 L ∧ Keep h0 h [b_, A_, K_] ∧ Exa Z h b_ k0C ∧ Fld Z h b_ k0C "buying" "Z" (.int z_) ∧ Fld Z h b_ k0C "levelCount" "I" (.int (3 : Int32)) ∧ Fld Z h b_ k0C "deep" k9C (.ref t_) ∧ Fld Z h b_ k0C "levels" k6C (.ref A_) ∧ Fld Z h b_ k0C "keys" "[J" (.ref K_) ∧ Fld Z h b_ k0C "markets" k5C (.ref m_) ∧ Fld Z h b_ k0C "emptyLevels" "I" (.int (0 : Int32)) ∧ Rbk Z h A_ k2C 64 (Upd (Upd (Upd (fun _ => Value.null) 0 (.ref l0_)) 1 (.ref n0_)) 2 (.ref l1_)) ∧ Exa Z h n0_ k2C ∧ Fld Z h n0_ k2C "first" k4C .null ∧ Fld Z h n0_ k2C "last" k4C .null ∧ Fld Z h n0_ k2C "deep" "Z" (.int (0 : Int32)) ∧ Fld Z h n0_ k2C "key" "J" (.long (own_key z_ x_)) ∧ h0.size ≤ n0_) := by
  refine Pays.walk (plainFor_of_name pn_13) (fun m => ef_14 m b_ x_ ) ?_
  intro p e s m below meth c T0 X0 hx hby hml hown hnm hZ e0 hret hlk
  have dc := @Jvm.hb _ _ hby
  have ow := @own_w Z a0 hw
  have K0 := Keep.refl h0 ([b_, A_, K_] : List Addr)
  refine Goes.on (T' := T0) (g' := (mkF m 2 #[sR b_, sJ x_, s2, su, su, su, su, su] [(.long x_), (.ref b_)])) (fun _ k => XS.aloadN X0.here hx rfl (dc d39_0) rfl rfl (XS.lloadN X0.here hx rfl (dc d39_1) rfl k)) ?_
  refine Goes.callP X0 hx hZ 0 hown (ow 262 rfl) (ow 263 rfl) (ow 264 rfl) (ow 171 rfl) (ow 172 rfl) (ow 265 rfl) (by decide) e0 p0 (rmKy l Z a0 hw b_ z_ x_ h0 n0 Z0 p1) (by decide) (by decide) (by decide) (by decide) rfl (by rw [hml]; rfl) (argsL := [(.long x_)]) (rest := []) rfl (lenOf pd_19 rfl) rfl (own_le20 rfl) (dc d39_2) ?_
  rintro v1 T1 L1 X1 ⟨rfl, N1q, e1⟩
  show Goes p e below _ T1 (mkF m 5 #[sR b_, sJ x_, s2, su, su, su, su, su] [(.long (own_key z_ x_))])
  obtain ⟨T2, X2, e2, st2⟩ := getF X1 hx hZ hown (host := "") (Or.inl (ow 194 rfl)) Via.refl e1 p2 (g := (mkF m 7 #[sR b_, sJ x_, s2, sJ (own_key z_ x_), s2, su, su, su] [(.ref b_)])) rfl rfl (dc d39_7)
  obtain ⟨T3, X3, e3, st3⟩ := getF X2 hx hZ hown (host := "") (Or.inl (ow 215 rfl)) Via.refl e2 p3 (g := (mkF m 17 #[sR b_, sJ x_, s2, sJ (own_key z_ x_), s2, su, su, su] [(.ref b_)])) rfl rfl (dc d39_17)
  refine Goes.on (T' := T3) (g' := (mkF m 20 #[sR b_, sJ x_, s2, sJ (own_key z_ x_), s2, su, su, su] [(.ref t_)])) (fun _ k => XS.lstoreN X1.here hx rfl (dc d39_5) rfl (l' := #[sR b_, sJ x_, s2, sJ (own_key z_ x_), s2, su, su, su]) rfl (XS.aloadN X1.here hx rfl (dc d39_6) rfl rfl (st2 _ (XS.sipush X2.here hx rfl (dc d39_10) (XS.icmpNo X2.here hx rfl (dc d39_13) rfl (XT.ii_eq_f (by decide)) (XS.aloadN X2.here hx rfl (dc d39_16) rfl rfl (st3 _ k))))))) ?_
  refine Goes.callU X3 hx hZ 0 hown (ow 266 rfl) (ow 267 rfl) (ow 268 rfl) (by decide) (ow 270 rfl) (ow 269 rfl) (ow 206 rfl) (ow 271 rfl) e3 p8 (rmTq l Z a0 hw t_ h0 n0 Z0  p8 p9 ) (by decide) (by decide) (by decide) (by decide) rfl (by rw [hml]; rfl) (argsL := []) (rest := []) rfl (lenOf pd_3 rfl) rfl (own_le20 rfl) (dc d39_20) ?_
  rintro v4 T4 L4 X4 ⟨rfl, N4q, e4⟩
  show Goes p e below _ T4 (mkF m 23 #[sR b_, sJ x_, s2, sJ (own_key z_ x_), s2, su, su, su] [(.int 1)])
  refine Goes.on (T' := T4) (g' := (mkF m 45 #[sR b_, sJ x_, s2, sJ (own_key z_ x_), s2, su, su, su] [(.long (own_key z_ x_)), (.ref b_)])) (fun _ k => XS.ifYes X4.here hx rfl (pc0 := 23) (pc' := 43) rfl (dc d39_23) rfl (XT.i0_ne_t (by decide)) (by decide) (by decide) (XS.aloadN X4.here hx rfl (dc d39_43) rfl rfl (XS.lloadN X4.here hx rfl (dc d39_44) rfl k))) ?_
  refine Goes.callP X4 hx hZ 0 hown (ow 278 rfl) (ow 279 rfl) (ow 280 rfl) (ow 171 rfl) (ow 172 rfl) (ow 281 rfl) (by decide) e4 p0 (rmAb2y l Z a0 hw b_ K_ (own_key z_ x_) k1_ h0 n0 Z0  p0 p2 p5 p11 h1) (by decide) (by decide) (by decide) (by decide) rfl (by rw [hml]; rfl) (argsL := [(.long (own_key z_ x_))]) (rest := []) rfl (lenOf pd_20 rfl) rfl (own_le20 rfl) (dc d39_45) ?_
  rintro v5 T5 L5 X5 ⟨rfl, N5q, e5⟩
  have N5 := Fr.app (Fr.app (Fr.app (Fr.nil n0) N1q) N4q) N5q
  show Goes p e below _ T5 (mkF m 48 #[sR b_, sJ x_, s2, sJ (own_key z_ x_), s2, su, su, su] [(.int 0)])
  obtain ⟨T6, X6, e6, st6⟩ := getF X5 hx hZ hown (host := "") (Or.inl (ow 192 rfl)) Via.refl e5 p5 (g := (mkF m 51 #[sR b_, sJ x_, s2, sJ (own_key z_ x_), s2, sI 0, su, su] [(.ref b_)])) rfl rfl (dc d39_51)
  obtain ⟨T8, X8, e8, st8⟩ := getF X6 hx hZ hown (host := "") (Or.inl (ow 194 rfl)) Via.refl e6 p2 (g := (mkF m 99 #[sR b_, sJ x_, s2, sJ (own_key z_ x_), s2, sI 0, sI 1, su] [(.ref b_)])) rfl rfl (dc d39_99)
  obtain ⟨T9, X9, e9, st9⟩ := getF X8 hx hZ hown (host := "") (Or.inl (ow 194 rfl)) Via.refl e8 p2 (g := (mkF m 116 #[sR b_, sJ x_, s2, sJ (own_key z_ x_), s2, sI 0, sI 1, su] [(.ref b_)])) rfl rfl (dc d39_116)
  obtain ⟨T10, X10, e10, st10⟩ := getF X9 hx hZ hown (host := "") (Or.inl (ow 189 rfl)) Via.refl e9 p4 (g := (mkF m 120 #[sR b_, sJ x_, s2, sJ (own_key z_ x_), s2, sI 0, sI 1, su] [(.ref b_), (.int 2)])) rfl rfl (dc d39_120)
  obtain ⟨T12, X12, e12, st12⟩ := getF X10 hx hZ hown (host := "") (Or.inl (ow 189 rfl)) Via.refl e10 p4 (g := (mkF m 170 #[sR b_, sJ x_, s2, sJ (own_key z_ x_), s2, sI 0, sI 1, su] [(.ref b_)])) rfl rfl (dc d39_170)
  refine Goes.on (T' := T12) (g' := (mkF m 173 #[sR b_, sJ x_, s2, sJ (own_key z_ x_), s2, sI 0, sI 1, su] [(.ref A_)])) (fun _ k => XS.istore X5.here hx rfl (dc d39_48) rfl (l' := #[sR b_, sJ x_, s2, sJ (own_key z_ x_), s2, sI 0, su, su]) rfl (XS.aloadN X5.here hx rfl (dc d39_50) rfl rfl (st6 _ (XS.iload X6.here hx rfl (dc d39_54) rfl (ldJm X6 hx hZ e6 p11 (by decide) (dc d39_56) (XS.lloadN X6.here hx rfl (dc d39_57) rfl (XT.lcmp X6.here hx rfl (dc d39_58) rfl (XS.ifYes X6.here hx rfl (pc0 := 59) (pc' := 92) rfl (dc d39_59) rfl (XT.ll_ne_t hm) (by decide) (by decide) (XS.iload X6.here hx rfl (dc d39_92) rfl (XS.iconst X6.here hx rfl (dc d39_94) (XS.iadd X6.here hx rfl (dc d39_95) rfl (XS.istore X6.here hx rfl (dc d39_96) rfl (l' := #[sR b_, sJ x_, s2, sJ (own_key z_ x_), s2, sI 0, sI 1, su]) rfl (XS.aloadN X6.here hx rfl (dc d39_98) rfl rfl (st8 _ (XS.sipush X8.here hx rfl (dc d39_102) (XS.icmpYes X8.here hx rfl (pc0 := 105) (pc' := 115) rfl (dc d39_105) rfl (XT.ii_ne_t (by decide)) (by decide) (by decide) (XS.aloadN X8.here hx rfl (dc d39_115) rfl rfl (st9 _ (XS.aloadN X9.here hx rfl (dc d39_119) rfl rfl (st10 _ (lenRm X10 hx hZ e10 p10 (dc d39_123) (XS.icmpYes X10.here hx rfl (pc0 := 124) (pc' := 169) rfl (dc d39_124) rfl (XT.ii_ne_t (by decide)) (by decide) (by decide) (XS.aloadN X10.here hx rfl (dc d39_169) rfl rfl (st12 _ k)))))))))))))))))))))))) ?_
  obtain ⟨T13, X13, e13, st13⟩ := getF X12 hx hZ hown (host := "") (Or.inl (ow 189 rfl)) Via.refl e12 p4 (g := (mkF m 176 #[sR b_, sJ x_, s2, sJ (own_key z_ x_), s2, sI 0, sI 1, su] [(.ref b_), (.int 1), (.ref A_)])) rfl rfl (dc d39_176)
  obtain ⟨T14, X14, e14, st14⟩ := getF X13 hx hZ hown (host := "") (Or.inl (ow 194 rfl)) Via.refl e13 p2 (g := (mkF m 184 #[sR b_, sJ x_, s2, sJ (own_key z_ x_), s2, sI 0, sI 1, su] [(.ref b_), (.int 2), (.ref A_), (.int 1), (.ref A_)])) rfl rfl (dc d39_184)
  obtain ⟨T15, h15, L15, X15, e15, N15, K15, B15, st15⟩ := acR X14 hx hZ hown (ow 282 rfl) (ow 285 rfl) (ow 283 rfl) (ow 284 rfl) e14 p10 (sp' := 1) (dp' := 2) (len := 1) ⟨by decide, by decide⟩ ⟨by decide, by decide⟩ ⟨by decide, by decide⟩ (by decide) (by decide) (by decide) ⟨Rbk.sto p10 (Ins.self p12), trivial⟩ N5 g1 (g := (mkF m 190 #[sR b_, sJ x_, s2, sJ (own_key z_ x_), s2, sI 0, sI 1, su] [(.int 1), (.int 2), (.ref A_), (.int 1), (.ref A_)])) rfl (by rw [hml]; rfl) rfl (dc d39_190) (by decide) (W := 0) (own_le20 rfl) (by decide)
  have C18 := p2.keep K15 (ninS q0 nin0)
  have C21 := p5.keep K15 (ninS q0 nin0)
  have C26 := p11.keep K15 (ninS q2.symm nin0)
  have Z28 := Nat.le_trans Z0 K15.1
  have K29 := K0.trans K15 (allS (Or.inl (List.mem_of_getElem? (i := 1) rfl)) all0)
  have B15 : Rbk Z h15 A_ "com/example/uncross/uncross/engine/BookSide$Level" 64 (Upd (Upd (Upd (fun _ => Value.null) 0 (.ref l0_)) 1 (.ref l1_)) 2 (.ref l1_)) := Rbk.congr B15 (acOne rfl)
  obtain ⟨T30, X30, e30, st30⟩ := getF X15 hx hZ hown (host := "") (Or.inl (ow 192 rfl)) Via.refl e15 C21 (g := (mkF m 194 #[sR b_, sJ x_, s2, sJ (own_key z_ x_), s2, sI 0, sI 1, su] [(.ref b_)])) rfl rfl (dc d39_194)
  obtain ⟨T31, X31, e31, st31⟩ := getF X30 hx hZ hown (host := "") (Or.inl (ow 192 rfl)) Via.refl e30 C21 (g := (mkF m 200 #[sR b_, sJ x_, s2, sJ (own_key z_ x_), s2, sI 0, sI 1, su] [(.ref b_), (.int 1), (.ref K_)])) rfl rfl (dc d39_200)
  obtain ⟨T32, X32, e32, st32⟩ := getF X31 hx hZ hown (host := "") (Or.inl (ow 194 rfl)) Via.refl e31 C18 (g := (mkF m 208 #[sR b_, sJ x_, s2, sJ (own_key z_ x_), s2, sI 0, sI 1, su] [(.ref b_), (.int 2), (.ref K_), (.int 1), (.ref K_)])) rfl rfl (dc d39_208)
  obtain ⟨T33, h33, L33, X33, e33, N33, K33, B33, st33⟩ := acA X32 hx hZ hown (ow 282 rfl) (ow 285 rfl) (ow 283 rfl) (ow 284 rfl) e32 C26 rfl (fun _ => rfl) (sp' := 1) (dp' := 2) (len := 1) ⟨by decide, by decide⟩ ⟨by decide, by decide⟩ ⟨by decide, by decide⟩ (by decide) (by decide) (by decide)  N15 g2 (g := (mkF m 214 #[sR b_, sJ x_, s2, sJ (own_key z_ x_), s2, sI 0, sI 1, su] [(.int 1), (.int 2), (.ref K_), (.int 1), (.ref K_)])) rfl (by rw [hml]; rfl) rfl (dc d39_214) (by decide) (W := 0) (own_le20 rfl) (by decide)
  have C34 := (p0.keep K15).keep K33
  have C45 := B15.keep K33 (ninS q2 nin0)
  have Z46 := Nat.le_trans Z28 K33.1
  have K47 := K29.trans K33 (allS (Or.inl (List.mem_of_getElem? (i := 2) rfl)) all0)
  have B33 : Arf Z h33 K_ .long Value.long 64 (Upd (Upd (Upd (fun _ => (0 : Int64)) 0 (-9223372036854775808 : Int64)) 1 k1_) 2 k1_) := Arf.same B33 (acOne rfl)
  refine Goes.on (T' := T33) (g' := (mkF m 217 #[sR b_, sJ x_, s2, sJ (own_key z_ x_), s2, sI 0, sI 1, su] [])) (fun _ k => XS.iload X12.here hx rfl (dc d39_173) rfl (XS.aloadN X12.here hx rfl (dc d39_175) rfl rfl (st13 _ (XS.iload X13.here hx rfl (dc d39_179) rfl (XS.iconst X13.here hx rfl (dc d39_181) (XS.iadd X13.here hx rfl (dc d39_182) rfl (XS.aloadN X13.here hx rfl (dc d39_183) rfl rfl (st14 _ (XS.iload X14.here hx rfl (dc d39_187) rfl (XS.isub X14.here hx rfl (dc d39_189) rfl (st15 _ (XS.aloadN X15.here hx rfl (dc d39_193) rfl rfl (st30 _ (XS.iload X30.here hx rfl (dc d39_197) rfl (XS.aloadN X30.here hx rfl (dc d39_199) rfl rfl (st31 _ (XS.iload X31.here hx rfl (dc d39_203) rfl (XS.iconst X31.here hx rfl (dc d39_205) (XS.iadd X31.here hx rfl (dc d39_206) rfl (XS.aloadN X31.here hx rfl (dc d39_207) rfl rfl (st32 _ (XS.iload X32.here hx rfl (dc d39_211) rfl (XS.isub X32.here hx rfl (dc d39_213) rfl (st33 _ k)))))))))))))))))))))))) ?_
  obtain ⟨T48, h48, X48, e48, E48, A48, D48, U48, st48⟩ := newO X33 hx hZ hown (ow 177 rfl) (ow 178 rfl) (ow 179 rfl) e33 (g := (mkF m 217 #[sR b_, sJ x_, s2, sJ (own_key z_ x_), s2, sI 0, sI 1, su] [])) rfl (dc d39_217) (by decide) (by decide)
  obtain ⟨a48, g48⟩ : ∃ z, z = h33.size := ⟨_, rfl⟩
  rw [← g48] at A48 D48 U48 st48
  have M48 : h0.size ≤ a48 := Nat.le_trans K47.1 (Nat.le_of_eq g48.symm)
  have ne62 := own_neG C34.lt g48
  have ne65 := own_neG C45.lt g48
  have ne66 := own_neG B33.lt g48
  have Z67 := Nat.le_trans Z46 E48.1
  have K68 := K47.ext E48
  have F69 : Fld Z h48 a48 "com/example/uncross/uncross/engine/BookSide$Level" "first" "Lcom/example/uncross/uncross/engine/BookSide$Resting;" .null := D48 (Or.inl (ow 229 rfl)) (ty := (.object "com/example/uncross/uncross/engine/BookSide$Resting")) (by decide)
  have F70 : Fld Z h48 a48 "com/example/uncross/uncross/engine/BookSide$Level" "last" "Lcom/example/uncross/uncross/engine/BookSide$Resting;" .null := D48 (Or.inl (ow 249 rfl)) (ty := (.object "com/example/uncross/uncross/engine/BookSide$Resting")) (by decide)
  have F71 : Fld Z h48 a48 "com/example/uncross/uncross/engine/BookSide$Level" "deep" "Z" (.int 0) := D48 (Or.inl (ow 295 rfl)) (ty := .boolean) (by decide)
  have F72 : Fld Z h48 a48 "com/example/uncross/uncross/engine/BookSide$Level" "key" "J" (.long 0) := D48 (Or.inr (ow 185 rfl)) (ty := .long) (by decide)
  have G48 : n0 ≤ a48 := Nat.le_trans Z46 (Nat.le_of_eq g48.symm)
  refine Goes.on (T' := T48) (g' := (mkF m 222 #[sR b_, sJ x_, s2, sJ (own_key z_ x_), s2, sI 0, sI 1, su] [(.long (own_key z_ x_)), (.ref a48), (.ref a48)])) (fun _ k => st48 _ (XS.dup X48.here hx rfl (dc d39_220) rfl rfl (XS.lloadN X48.here hx rfl (dc d39_221) rfl k))) ?_
  refine Goes.callC X48 hx hZ 1 rfl hown (ow 180 rfl) (ow 181 rfl) (ow 179 rfl) (ow 182 rfl) (by decide) e48 (rmLv l Z a0 hw a48 (own_key z_ x_) h48 n0 Z67 A48 G48 F69 F70 F71 F72) (by decide) (by decide) (by decide) (by decide) rfl (by rw [hml]; rfl) (a := a48) (argsL := [(.long (own_key z_ x_))]) (rest := [(.ref a48)]) rfl (lenOf pd_13 rfl) rfl (own_le20 rfl) (dc d39_222) ?_
  rintro v73 T73 L73 X73 ⟨rfl, N73q, K73, A73, B73_first, B73_last, B73_deep, B73_key⟩
  show Goes p e below _ T73 (mkF m 225 #[sR b_, sJ x_, s2, sJ (own_key z_ x_), s2, sI 0, sI 1, su] [(.ref a48)])
  have C78 := (((p4.keep K15 (ninS q0 nin0)).keep K33 (ninS q1 nin0)).ext E48).keep K73 (ninS ne62 nin0)
  have C85 := (C45.ext E48).keep K73 (ninS ne65 nin0)
  have K89 := K68.trans K73 (allS (Or.inr M48) all0)
  obtain ⟨T90, X90, e90, st90⟩ := getF X73 hx hZ hown (host := "") (Or.inl (ow 189 rfl)) Via.refl rfl C78 (g := (mkF m 228 #[sR b_, sJ x_, s2, sJ (own_key z_ x_), s2, sI 0, sI 1, sR a48] [(.ref b_)])) rfl rfl (dc d39_228)
  obtain ⟨T91, h91, X91, e91, W91, B91, st91⟩ := wrR X90 hx hZ e90 C85 (Or.inr ⟨_, rfl, Ins.self A73⟩) (by decide) (g := (mkF m 235 #[sR b_, sJ x_, s2, sJ (own_key z_ x_), s2, sI 0, sI 1, sR a48] [(.ref a48), (.int 1), (.ref A_)])) rfl rfl (dc d39_235)
  have C97 := (((C21.keep K33 (ninS q1 nin0)).ext E48).keep K73 (ninS ne62 nin0)).other W91 (Or.inl q0)
  have C103 := ((B33.ext E48).keep K73 (ninS ne66 nin0)).other W91 q2.symm
  have K110 := K89.wr W91 (Or.inl (List.mem_of_getElem? (i := 1) rfl))
  have B91 : Rbk Z h91 A_ "com/example/uncross/uncross/engine/BookSide$Level" 64 (Upd (Upd (Upd (Upd (fun _ => Value.null) 0 (.ref l0_)) 1 (.ref l1_)) 2 (.ref l1_)) 1 (.ref a48)) := B91
  obtain ⟨T111, X111, e111, st111⟩ := getF X91 hx hZ hown (host := "") (Or.inl (ow 192 rfl)) Via.refl e91 C97 (g := (mkF m 237 #[sR b_, sJ x_, s2, sJ (own_key z_ x_), s2, sI 0, sI 1, sR a48] [(.ref b_)])) rfl rfl (dc d39_237)
  obtain ⟨T112, h112, X112, e112, W112, B112, st112⟩ := wrJ X111 hx hZ e111 C103 (by decide)  (g := (mkF m 243 #[sR b_, sJ x_, s2, sJ (own_key z_ x_), s2, sI 0, sI 1, sR a48] [(.long (own_key z_ x_)), (.int 1), (.ref K_)])) rfl rfl (dc d39_243)
  have C113 := (((C34.ext E48).keep K73).wr W91).wr W112
  have C115 := ((((C18.keep K33 (ninS q1 nin0)).ext E48).keep K73 (ninS ne62 nin0)).other W91 (Or.inl q0)).other W112 (Or.inl q1)
  have K131 := K110.wr W112 (Or.inl (List.mem_of_getElem? (i := 2) rfl))
  have B112 : Arf Z h112 K_ .long Value.long 64 (Upd (Upd (Upd (Upd (fun _ => (0 : Int64)) 0 (-9223372036854775808 : Int64)) 1 k1_) 2 k1_) 1 (own_key z_ x_)) := B112
  obtain ⟨T132, X132, e132, st132⟩ := getF X112 hx hZ hown (host := "") (Or.inl (ow 194 rfl)) Via.refl e112 C115 (g := (mkF m 246 #[sR b_, sJ x_, s2, sJ (own_key z_ x_), s2, sI 0, sI 1, sR a48] [(.ref b_), (.ref b_)])) rfl rfl (dc d39_246)
  obtain ⟨T133, h133, X133, e133, W133, st133⟩ := putF X132 hx hZ hown (host := "") (Or.inl (ow 194 rfl)) Via.refl e132 C115 C113 (Or.inl (ow 195 rfl)) (ow 171 rfl) (ty := .int) (by decide) rfl rfl (g := (mkF m 251 #[sR b_, sJ x_, s2, sJ (own_key z_ x_), s2, sI 0, sI 1, sR a48] [(.int 3), (.ref b_)])) rfl rfl (dc d39_251)
  have N133 := Fr.snoc X133 (Fr.snoc X112 (Fr.snoc X91 (Fr.app N33 N73q) g1) g2) g0
  have C134 := C113.wr W133
  have C135 := ((((((p1.keep K15 (ninS q0 nin0)).keep K33 (ninS q1 nin0)).ext E48).keep K73 (ninS ne62 nin0)).other W91 (Or.inl q0)).other W112 (Or.inl q1)).other W133 (Or.inr (sn70 hw))
  have C136 := C115.same W133
  have C137 := ((((((p3.keep K15 (ninS q0 nin0)).keep K33 (ninS q1 nin0)).ext E48).keep K73 (ninS ne62 nin0)).other W91 (Or.inl q0)).other W112 (Or.inl q1)).other W133 (Or.inr (sn69 hw))
  have C138 := ((C78.other W91 (Or.inl q0)).other W112 (Or.inl q1)).other W133 (Or.inr (sn65 hw))
  have C139 := (C97.other W112 (Or.inl q1)).other W133 (Or.inr (sn66 hw))
  have C140 := ((((((p6.keep K15 (ninS q0 nin0)).keep K33 (ninS q1 nin0)).ext E48).keep K73 (ninS ne62 nin0)).other W91 (Or.inl q0)).other W112 (Or.inl q1)).other W133 (Or.inr (sn68 hw))
  have C141 := ((((((p7.keep K15 (ninS q0 nin0)).keep K33 (ninS q1 nin0)).ext E48).keep K73 (ninS ne62 nin0)).other W91 (Or.inl q0)).other W112 (Or.inl q1)).other W133 (Or.inr (sn67 hw))
  have C145 := (B91.other W112 q2).other W133 q0.symm
  have C147 := ((A73.wr W91).wr W112).wr W133
  have C148 := ((B73_first.other W91 (Or.inl ne65.symm)).other W112 (Or.inl ne66.symm)).other W133 (Or.inl ne62.symm)
  have C149 := ((B73_last.other W91 (Or.inl ne65.symm)).other W112 (Or.inl ne66.symm)).other W133 (Or.inl ne62.symm)
  have C150 := ((B73_deep.other W91 (Or.inl ne65.symm)).other W112 (Or.inl ne66.symm)).other W133 (Or.inl ne62.symm)
  have C151 := ((B73_key.other W91 (Or.inl ne65.symm)).other W112 (Or.inl ne66.symm)).other W133 (Or.inl ne62.symm)
  have K153 := K131.wr W133 (Or.inl (List.mem_of_getElem? (i := 0) rfl))
  have R154 : Rbk Z h133 A_ "com/example/uncross/uncross/engine/BookSide$Level" 64 (Upd (Upd (Upd (fun _ => Value.null) 0 (.ref l0_)) 1 (.ref a48)) 2 (.ref l1_)) := Rbk.congr C145 own_swap
  refine Goes.on (T' := T133) (g' := (mkF m 256 #[sR b_, sJ x_, s2, sJ (own_key z_ x_), s2, sI 0, sI 1, sR a48] [(.ref a48)])) (fun _ k => XS.astore X73.here hx rfl (dc d39_225) rfl rfl (l' := #[sR b_, sJ x_, s2, sJ (own_key z_ x_), s2, sI 0, sI 1, sR a48]) rfl (XS.aloadN X73.here hx rfl (dc d39_227) rfl rfl (st90 _ (XS.iload X90.here hx rfl (dc d39_231) rfl (XS.aload X90.here hx rfl (dc d39_233) rfl rfl (st91 _ (XS.aloadN X91.here hx rfl (dc d39_236) rfl rfl (st111 _ (XS.iload X111.here hx rfl (dc d39_240) rfl (XS.lloadN X111.here hx rfl (dc d39_242) rfl (st112 _ (XS.aloadN X112.here hx rfl (dc d39_244) rfl rfl (XS.dup X112.here hx rfl (dc d39_245) rfl rfl (st132 _ (XS.iconst X132.here hx rfl (dc d39_249) (XS.iadd X132.here hx rfl (dc d39_250) rfl (st133 _ (XS.aload X133.here hx rfl (dc d39_254) rfl rfl k)))))))))))))))))) ?_
  exact Goes.retA X133 hx hlk hret rfl rfl (dc d39_256) (by decide) (by decide) (by rw [e133]; exact ⟨a48, rfl, N133, K153, C134, C135, C136, C137, C138, C139, C140, C141, R154, C147, C148, C149, C150, C151, M48⟩)
abbrev c36C := prog_70_method_2_code
theorem d36_0 : decode c36C 0 = .ok (.aload_n 0, 1) := by decide +kernel
theorem d36_1 : decode c36C 1 = .ok (.getfield 36, 3) := by decide +kernel
theorem d36_4 : decode c36C 4 = .ok (.invokevirtual 40, 3) := by decide +kernel
theorem d36_7 : decode c36C 7 = .ok (.ireturn, 1) := by decide +kernel
theorem rmMk0 (l : Launch) (Z : State) (a0 : Array Value) (hw : TW Z a0) (o_ a_ : Addr) (h0 : Heap) (n0 : Nat) (Z0 : n0 ≤ h0.size) (p0 : Exa Z h0 o_ k3C) (p1 : Fld Z h0 o_ k3C "limit" k8C (.ref a_)) (p2 : Exa Z h0 a_ k11C) (p3 : Fld Z h0 a_ k11C "isPresent" "Z" (.int (0 : Int32))) :
    Pays l Z (⟨"com/example/uncross/uncross/model/Order", "isMarket", "()Z"⟩ : MethodName) prog_70_method_2_code 1 (some .boolean) [] ({ frames := 1, cells := 0, slots := 0, locals := 12 } : Room) #[(.ref o_)] h0 (fun v h L => v = some (.int (1 : Int32)) ∧ Fr n0 L ∧ h = h0) := by
  refine Pays.walk (plainFor_of_name pn_6) (fun m => ef_0 m o_ ) ?_
  intro p e s m below meth c T0 X0 hx hby hml hown hnm hZ e0 hret hlk
  obtain ⟨T1, X1, e1, st1⟩ := getF X0 hx hZ hown (host := "") (Or.inl (own_w hw 121 rfl)) Via.refl e0 p1 (g := (mkF m 1 #[sR o_] [(.ref o_)])) rfl rfl (hb hby d36_1)
  refine Goes.on (T' := T1) (g' := (mkF m 4 #[sR o_] [(.ref a_)])) (fun _ k => XS.aloadN X0.here hx rfl (hb hby d36_0) rfl rfl (st1 _ k)) ?_
  refine Goes.callV X1 hx hZ 0 hown (own_w hw 241 rfl) (own_w hw 242 rfl) (notFace_of_selects (args := #[]) (mvT hZ (own_w hw 244 rfl))) (own_w hw 244 rfl) (own_w hw 243 rfl) (own_w hw 17 rfl) (own_w hw 245 rfl) (by decide) e1 p2 (rmIe0 l Z a0 hw a_ h0 n0 Z0  p2 p3 ) (by decide) (by decide) (by decide) (by decide) rfl (by rw [hml]; rfl) (argsL := []) (rest := []) rfl (lenOf pd_3 rfl) rfl (own_le20 rfl) (hb hby d36_4) ?_
  rintro v2 T2 L2 X2 ⟨rfl, N2q, e2⟩
  have N2 := Fr.app (Fr.nil n0) N2q
  show Goes p e below _ T2 (mkF m 7 #[sR o_] [(.int 1)])
  exact Goes.retB X2 hx hlk hret (Or.inr rfl) (hb hby d36_7) (by decide) (by decide) ⟨rfl, N2, e2⟩
theorem rmMk1 (l : Launch) (Z : State) (a0 : Array Value) (hw : TW Z a0) (o_ a_ : Addr) (h0 : Heap) (n0 : Nat) (Z0 : n0 ≤ h0.size) (p0 : Exa Z h0 o_ k3C) (p1 : Fld Z h0 o_ k3C "limit" k8C (.ref a_)) (p2 : Exa Z h0 a_ k11C) (p3 : Fld Z h0 a_ k11C "isPresent" "Z" (.int (1 : Int32))) :
    Pays l Z (⟨"com/example/uncross/uncross/model/Order", "isMarket", "()Z"⟩ : MethodName) prog_70_method_2_code 1 (some .boolean) [] ({ frames := 1, cells := 0, slots := 0, locals := 12 } : Room) #[(.ref o_)] h0 (fun v h L => v = some (.int (0 : Int32)) ∧ Fr n0 L ∧ h = h0) := by
  refine Pays.walk (plainFor_of_name pn_6) (fun m => ef_0 m o_ ) ?_
  intro p e s m below meth c T0 X0 hx hby hml hown hnm hZ e0 hret hlk
  obtain ⟨T1, X1, e1, st1⟩ := getF X0 hx hZ hown (host := "") (Or.inl (own_w hw 121 rfl)) Via.refl e0 p1 (g := (mkF m 1 #[sR o_] [(.ref o_)])) rfl rfl (hb hby d36_1)
  refine Goes.on (T' := T1) (g' := (mkF m 4 #[sR o_] [(.ref a_)])) (fun _ k => XS.aloadN X0.here hx rfl (hb hby d36_0) rfl rfl (st1 _ k)) ?_
  refine Goes.callV X1 hx hZ 0 hown (own_w hw 241 rfl) (own_w hw 242 rfl) (notFace_of_selects (args := #[]) (mvT hZ (own_w hw 244 rfl))) (own_w hw 244 rfl) (own_w hw 243 rfl) (own_w hw 17 rfl) (own_w hw 245 rfl) (by decide) e1 p2 (rmIe1 l Z a0 hw a_ h0 n0 Z0  p2 p3 ) (by decide) (by decide) (by decide) (by decide) rfl (by rw [hml]; rfl) (argsL := []) (rest := []) rfl (lenOf pd_3 rfl) rfl (own_le20 rfl) (hb hby d36_4) ?_
  rintro v2 T2 L2 X2 ⟨rfl, N2q, e2⟩
  have N2 := Fr.app (Fr.nil n0) N2q
  show Goes p e below _ T2 (mkF m 7 #[sR o_] [(.int 0)])
  exact Goes.retB X2 hx hlk hret (Or.inl rfl) (hb hby d36_7) (by decide) (by decide) ⟨rfl, N2, e2⟩
abbrev c38C := prog_70_method_14_code
theorem d38_0 : decode c38C 0 = .ok (.aload_n 0, 1) := by decide +kernel
theorem d38_1 : decode c38C 1 = .ok (.getfield 36, 3) := by decide +kernel
theorem d38_4 : decode c38C 4 = .ok (.areturn, 1) := by decide +kernel
theorem rmLi (l : Launch) (Z : State) (a0 : Array Value) (hw : TW Z a0) (o_ a_ : Addr) (h0 : Heap) (n0 : Nat) (Z0 : n0 ≤ h0.size) (p0 : Exa Z h0 o_ k3C) (p1 : Fld Z h0 o_ k3C "limit" k8C (.ref a_)) :
    Pays l Z (⟨"com/example/uncross/uncross/model/Order", "limit", "()Ljava/util/OptionalLong;"⟩ : MethodName) prog_70_method_14_code 1 (some (.object "java/util/OptionalLong")) [] ({ frames := 0, cells := 0, slots := 0, locals := 0 } : Room) #[(.ref o_)] h0 (fun v h L => v = some (.ref a_) ∧ Fr n0 L ∧ h = h0) := by
  refine Pays.walk (plainFor_of_name pn_6) (fun m => ef_0 m o_ ) ?_
  intro p e s m below meth c T0 X0 hx hby hml hown hnm hZ e0 hret hlk
  have N0 := Fr.nil n0
  obtain ⟨T1, X1, e1, st1⟩ := getF X0 hx hZ hown (host := "") (Or.inl (own_w hw 121 rfl)) Via.refl e0 p1 (g := (mkF m 1 #[sR o_] [(.ref o_)])) rfl rfl (hb hby d38_1)
  refine Goes.on (T' := T1) (g' := (mkF m 4 #[sR o_] [(.ref a_)])) (fun _ k => XS.aloadN X0.here hx rfl (hb hby d38_0) rfl rfl (st1 _ k)) ?_
  exact Goes.retA X1 hx hlk hret rfl rfl (hb hby d38_4) (by decide) (by decide) ⟨rfl, N0, e1⟩
abbrev c35C := prog_15_method_7_code
theorem d35_0 : decode c35C 0 = .ok (.aload_n 1, 1) := by decide +kernel
theorem d35_1 : decode c35C 1 = .ok (.getfield 119, 3) := by decide +kernel
theorem d35_4 : decode c35C 4 = .ok (.invokevirtual 89, 3) := by decide +kernel
theorem d35_7 : decode c35C 7 = .ok (.ifCond .eq 10, 3) := by decide +kernel
theorem d35_10 : decode c35C 10 = .ok (.aload_n 0, 1) := by decide +kernel
theorem d35_11 : decode c35C 11 = .ok (.getfield 14, 3) := by decide +kernel
theorem d35_14 : decode c35C 14 = .ok (.goto 17, 3) := by decide +kernel
theorem d35_31 : decode c35C 31 = .ok (.astore_n 2, 1) := by decide +kernel
theorem d35_32 : decode c35C 32 = .ok (.aload_n 1, 1) := by decide +kernel
theorem d35_33 : decode c35C 33 = .ok (.aload_n 2, 1) := by decide +kernel
theorem d35_34 : decode c35C 34 = .ok (.putfield 60, 3) := by decide +kernel
theorem d35_37 : decode c35C 37 = .ok (.aload_n 1, 1) := by decide +kernel
theorem d35_38 : decode c35C 38 = .ok (.aload_n 2, 1) := by decide +kernel
theorem d35_39 : decode c35C 39 = .ok (.getfield 127, 3) := by decide +kernel
theorem d35_42 : decode c35C 42 = .ok (.putfield 130, 3) := by decide +kernel
theorem d35_45 : decode c35C 45 = .ok (.aload_n 2, 1) := by decide +kernel
theorem d35_46 : decode c35C 46 = .ok (.getfield 127, 3) := by decide +kernel
theorem d35_49 : decode c35C 49 = .ok (.ifnonnull 11, 3) := by decide +kernel
theorem d35_52 : decode c35C 52 = .ok (.aload_n 2, 1) := by decide +kernel
theorem d35_53 : decode c35C 53 = .ok (.aload_n 1, 1) := by decide +kernel
theorem d35_54 : decode c35C 54 = .ok (.putfield 51, 3) := by decide +kernel
theorem d35_57 : decode c35C 57 = .ok (.goto 11, 3) := by decide +kernel
theorem d35_68 : decode c35C 68 = .ok (.aload_n 2, 1) := by decide +kernel
theorem d35_69 : decode c35C 69 = .ok (.aload_n 1, 1) := by decide +kernel
theorem d35_70 : decode c35C 70 = .ok (.putfield 127, 3) := by decide +kernel
theorem d35_73 : decode c35C 73 = .ok (.return_, 1) := by decide +kernel
theorem ef_15 (m : MethodId) (x0 : Addr) (x1 : Addr) : entryFrame m #[(.ref x0), (.ref x1)] 3 = mkF m 0 #[.val (.ref x0), .val (.ref x1), .unset] [] := by first | (simp [entryFrame, mkF, argsToLocals, Value.category]; done) | rfl
def sn83 {Z : State} {a0 : Array Value} (hw : TW Z a0) := slot_ne (Or.inl (own_w hw 251 rfl)) (Or.inl (own_w hw 247 rfl)) (by decide) (t := (.object "com/example/uncross/uncross/engine/BookSide$Resting")) (by decide) (t' := (.object "com/example/uncross/uncross/engine/BookSide$Level")) (by decide)
def sn84 {Z : State} {a0 : Array Value} (hw : TW Z a0) := slot_ne (Or.inl (own_w hw 293 rfl)) (Or.inl (own_w hw 247 rfl)) (by decide) (t := (.object "com/example/uncross/uncross/engine/BookSide$Resting")) (by decide) (t' := (.object "com/example/uncross/uncross/engine/BookSide$Level")) (by decide)
def sn85 {Z : State} {a0 : Array Value} (hw : TW Z a0) := slot_ne (Or.inr (own_w hw 128 rfl)) (Or.inl (own_w hw 247 rfl)) (by decide) (t := (.object "com/example/uncross/uncross/model/Order")) (by decide) (t' := (.object "com/example/uncross/uncross/engine/BookSide$Level")) (by decide)
def sn86 {Z : State} {a0 : Array Value} (hw : TW Z a0) := slot_ne (Or.inl (own_w hw 247 rfl)) (Or.inl (own_w hw 251 rfl)) (by decide) (t := (.object "com/example/uncross/uncross/engine/BookSide$Level")) (by decide) (t' := (.object "com/example/uncross/uncross/engine/BookSide$Resting")) (by decide)
def sn87 {Z : State} {a0 : Array Value} (hw : TW Z a0) := slot_ne (Or.inl (own_w hw 293 rfl)) (Or.inl (own_w hw 251 rfl)) (by decide) (t := (.object "com/example/uncross/uncross/engine/BookSide$Resting")) (by decide) (t' := (.object "com/example/uncross/uncross/engine/BookSide$Resting")) (by decide)
def sn88 {Z : State} {a0 : Array Value} (hw : TW Z a0) := slot_ne (Or.inr (own_w hw 128 rfl)) (Or.inl (own_w hw 251 rfl)) (by decide) (t := (.object "com/example/uncross/uncross/model/Order")) (by decide) (t' := (.object "com/example/uncross/uncross/engine/BookSide$Resting")) (by decide)
def sn89 {Z : State} {a0 : Array Value} (hw : TW Z a0) := slot_ne (Or.inl (own_w hw 249 rfl)) (Or.inl (own_w hw 229 rfl)) (by decide) (t := (.object "com/example/uncross/uncross/engine/BookSide$Resting")) (by decide) (t' := (.object "com/example/uncross/uncross/engine/BookSide$Resting")) (by decide)
def sn90 {Z : State} {a0 : Array Value} (hw : TW Z a0) := slot_ne (Or.inl (own_w hw 295 rfl)) (Or.inl (own_w hw 229 rfl)) (by decide) (t := .boolean) (by decide) (t' := (.object "com/example/uncross/uncross/engine/BookSide$Resting")) (by decide)
def sn91 {Z : State} {a0 : Array Value} (hw : TW Z a0) := slot_ne (Or.inl (own_w hw 229 rfl)) (Or.inl (own_w hw 249 rfl)) (by decide) (t := (.object "com/example/uncross/uncross/engine/BookSide$Resting")) (by decide) (t' := (.object "com/example/uncross/uncross/engine/BookSide$Resting")) (by decide)
def sn92 {Z : State} {a0 : Array Value} (hw : TW Z a0) := slot_ne (Or.inl (own_w hw 295 rfl)) (Or.inl (own_w hw 249 rfl)) (by decide) (t := .boolean) (by decide) (t' := (.object "com/example/uncross/uncross/engine/BookSide$Resting")) (by decide)
theorem rmAm0 (l : Launch) (Z : State) (a0 : Array Value) (hw : TW Z a0) (b_ r_ m_ o_ a_ : Addr) (h0 : Heap) (n0 : Nat) (Z0 : n0 ≤ h0.size) (p0 : Exa Z h0 r_ k1C) (p1 : Fld Z h0 r_ k1C "level" k5C .null) (p2 : Fld Z h0 r_ k1C "ahead" k4C .null) (p3 : Fld Z h0 r_ k1C "behind" k4C .null) (p4 : Fld Z h0 r_ k1C "order" k7C (.ref o_)) (p5 : Exa Z h0 o_ k3C) (p6 : Fld Z h0 o_ k3C "limit" k8C (.ref a_)) (p7 : Exa Z h0 a_ k11C) (p8 : Fld Z h0 a_ k11C "isPresent" "Z" (.int (0 : Int32))) (p9 : Exa Z h0 b_ k0C) (p10 : Fld Z h0 b_ k0C "markets" k5C (.ref m_)) (p11 : Exa Z h0 m_ k2C) (p12 : Fld Z h0 m_ k2C "first" k4C .null) (p13 : Fld Z h0 m_ k2C "last" k4C .null) (p14 : Fld Z h0 m_ k2C "deep" "Z" (.int (0 : Int32))) (q0 : r_ ≠ m_) (q1 : b_ ≠ r_) (q2 : b_ ≠ m_) (q3 : o_ ≠ r_) (q4 : o_ ≠ m_) (q5 : a_ ≠ r_) (q6 : a_ ≠ m_) (g0 : n0 ≤ r_) (g1 : n0 ≤ m_) :
    Pays l Z (⟨"com/example/uncross/uncross/engine/BookSide", "add", "(Lcom/example/uncross/uncross/engine/BookSide$Resting;)V"⟩ : MethodName) prog_15_method_7_code 3 none [] ({ frames := 3, cells := 1, slots := 4, locals := 60 } : Room) #[(.ref b_), (.ref r_)] h0 (fun v h L => v = none ∧ Fr n0 L ∧ Keep h0 h [r_, m_] ∧ Exa Z h r_ k1C ∧ Fld Z h r_ k1C "level" k5C (.ref m_) ∧ Fld Z h r_ k1C "ahead" k4C .null ∧ Fld Z h r_ k1C "behind" k4C .null ∧ Fld Z h r_ k1C "order" k7C (.ref o_) ∧ Exa Z h m_ k2C ∧ Fld Z h m_ k2C "first" k4C (.ref r_) ∧ Fld Z h m_ k2C "last" k4C (.ref r_) ∧ Fld Z h m_ k2C "deep" "Z" (.int (0 : Int32))) := by
  refine Pays.walk (plainFor_of_name pn_13) (fun m => ef_15 m b_ r_ ) ?_
  intro p e s m below meth c T0 X0 hx hby hml hown hnm hZ e0 hret hlk
  have dc := @Jvm.hb _ _ hby
  have ow := @own_w Z a0 hw
  have K0 := Keep.refl h0 ([r_, m_] : List Addr)
  obtain ⟨T1, X1, e1, st1⟩ := getF X0 hx hZ hown (host := "") (Or.inl (ow 235 rfl)) Via.refl e0 p4 (g := (mkF m 1 #[sR b_, sR r_, su] [(.ref r_)])) rfl rfl (dc d35_1)
  refine Goes.on (T' := T1) (g' := (mkF m 4 #[sR b_, sR r_, su] [(.ref o_)])) (fun _ k => XS.aloadN X0.here hx rfl (dc d35_0) rfl rfl (st1 _ k)) ?_
  refine Goes.callV X1 hx hZ 0 hown (ow 236 rfl) (ow 237 rfl) (notFace_of_selects (args := #[]) (mvT hZ (ow 239 rfl))) (ow 239 rfl) (ow 238 rfl) (ow 25 rfl) (ow 240 rfl) (by decide) e1 p5 (rmMk0 l Z a0 hw o_ a_ h0 n0 Z0  p5 p6 p7 p8 ) (by decide) (by decide) (by decide) (by decide) rfl (by rw [hml]; rfl) (argsL := []) (rest := []) rfl (lenOf pd_3 rfl) rfl (own_le20 rfl) (dc d35_4) ?_
  rintro v2 T2 L2 X2 ⟨rfl, N2q, e2⟩
  show Goes p e below _ T2 (mkF m 7 #[sR b_, sR r_, su] [(.int 1)])
  obtain ⟨T3, X3, e3, st3⟩ := getF X2 hx hZ hown (host := "") (Or.inl (ow 186 rfl)) Via.refl e2 p10 (g := (mkF m 11 #[sR b_, sR r_, su] [(.ref b_)])) rfl rfl (dc d35_11)
  obtain ⟨T4, h4, X4, e4, W4, st4⟩ := putFR X3 hx hZ hown (ow 246 rfl) e3 p1 p0 (ow 247 rfl) (ow 21 rfl) (ty := (.object "com/example/uncross/uncross/engine/BookSide$Level")) (by decide) rfl rfl (g := (mkF m 34 #[sR b_, sR r_, sR m_] [(.ref m_), (.ref r_)])) rfl rfl (dc d35_34)
  have C5 := p0.wr W4
  have C7 := p2.other W4 (Or.inr (sn83 hw))
  have C18 := p13.other W4 (Or.inl q0.symm)
  have K21 := K0.wr W4 (Or.inl (List.mem_of_getElem? (i := 0) rfl))
  obtain ⟨T22, X22, e22, st22⟩ := getF X4 hx hZ hown (host := "") (Or.inl (ow 248 rfl)) Via.refl e4 C18 (g := (mkF m 39 #[sR b_, sR r_, sR m_] [(.ref m_), (.ref r_)])) rfl rfl (dc d35_39)
  obtain ⟨T23, h23, X23, e23, W23, st23⟩ := putFR X22 hx hZ hown (ow 250 rfl) e22 C7 C5 (ow 251 rfl) (ow 21 rfl) (ty := (.object "com/example/uncross/uncross/engine/BookSide$Resting")) (by decide) rfl rfl (g := (mkF m 42 #[sR b_, sR r_, sR m_] [.null, (.ref r_)])) rfl rfl (dc d35_42)
  have C35 := (p11.wr W4).wr W23
  have C36 := (p12.other W4 (Or.inl q0.symm)).other W23 (Or.inl q0.symm)
  have C37 := C18.other W23 (Or.inl q0.symm)
  have K40 := K21.wr W23 (Or.inl (List.mem_of_getElem? (i := 0) rfl))
  obtain ⟨T41, X41, e41, st41⟩ := getF X23 hx hZ hown (host := "") (Or.inl (ow 248 rfl)) Via.refl e23 C37 (g := (mkF m 46 #[sR b_, sR r_, sR m_] [(.ref m_)])) rfl rfl (dc d35_46)
  obtain ⟨T42, h42, X42, e42, W42, st42⟩ := putF X41 hx hZ hown (host := "") (Or.inl (ow 228 rfl)) Via.refl e41 C36 C35 (Or.inl (ow 229 rfl)) (ow 178 rfl) (ty := (.object "com/example/uncross/uncross/engine/BookSide$Resting")) (by decide) rfl rfl (g := (mkF m 54 #[sR b_, sR r_, sR m_] [(.ref r_), (.ref m_)])) rfl rfl (dc d35_54)
  have C54 := C35.wr W42
  have C56 := C37.other W42 (Or.inr (sn89 hw))
  have K59 := K40.wr W42 (Or.inl (List.mem_of_getElem? (i := 1) rfl))
  obtain ⟨T60, h60, X60, e60, W60, st60⟩ := putF X42 hx hZ hown (host := "") (Or.inl (ow 248 rfl)) Via.refl e42 C56 C54 (Or.inl (ow 249 rfl)) (ow 178 rfl) (ty := (.object "com/example/uncross/uncross/engine/BookSide$Resting")) (by decide) rfl rfl (g := (mkF m 70 #[sR b_, sR r_, sR m_] [(.ref r_), (.ref m_)])) rfl rfl (dc d35_70)
  have N60 := Fr.snoc X60 (Fr.snoc X42 (Fr.snoc X23 (Fr.snoc X4 (Fr.app (Fr.nil n0) N2q) g0) g0) g1) g1
  have C61 := ((C5.wr W23).wr W42).wr W60
  have C62 := (((p1.same W4).other W23 (Or.inr (sn86 hw))).other W42 (Or.inl q0)).other W60 (Or.inl q0)
  have C63 := ((C7.same W23).other W42 (Or.inl q0)).other W60 (Or.inl q0)
  have C64 := (((p3.other W4 (Or.inr (sn84 hw))).other W23 (Or.inr (sn87 hw))).other W42 (Or.inl q0)).other W60 (Or.inl q0)
  have C65 := (((p4.other W4 (Or.inr (sn85 hw))).other W23 (Or.inr (sn88 hw))).other W42 (Or.inl q0)).other W60 (Or.inl q0)
  have C72 := C54.wr W60
  have C73 := (C36.same W42).other W60 (Or.inr (sn91 hw))
  have C74 := C56.same W60
  have C75 := (((p14.other W4 (Or.inl q0.symm)).other W23 (Or.inl q0.symm)).other W42 (Or.inr (sn90 hw))).other W60 (Or.inr (sn92 hw))
  have K77 := K59.wr W60 (Or.inl (List.mem_of_getElem? (i := 1) rfl))
  refine Goes.on (T' := T60) (g' := (mkF m 73 #[sR b_, sR r_, sR m_] [])) (fun _ k => XS.ifNo X2.here hx rfl (dc d35_7) rfl (XT.i0_eq_f (by decide)) (XS.aloadN X2.here hx rfl (dc d35_10) rfl rfl (st3 _ (XS.goto X3.here hx rfl (pc0 := 14) (pc' := 31) rfl (dc d35_14) (by decide) (by decide) (XS.astoreN X3.here hx rfl (dc d35_31) rfl rfl (l' := #[sR b_, sR r_, sR m_]) rfl (XS.aloadN X3.here hx rfl (dc d35_32) rfl rfl (XS.aloadN X3.here hx rfl (dc d35_33) rfl rfl (st4 _ (XS.aloadN X4.here hx rfl (dc d35_37) rfl rfl (XS.aloadN X4.here hx rfl (dc d35_38) rfl rfl (st22 _ (st23 _ (XS.aloadN X23.here hx rfl (dc d35_45) rfl rfl (st41 _ (XT.ifnonnullNo X41.here hx rfl (dc d35_49) rfl (XS.aloadN X41.here hx rfl (dc d35_52) rfl rfl (XS.aloadN X41.here hx rfl (dc d35_53) rfl rfl (st42 _ (XS.goto X42.here hx rfl (pc0 := 57) (pc' := 68) rfl (dc d35_57) (by decide) (by decide) (XS.aloadN X42.here hx rfl (dc d35_68) rfl rfl (XS.aloadN X42.here hx rfl (dc d35_69) rfl rfl (st60 _ k)))))))))))))))))))))) ?_
  exact Goes.retV X60 hx hlk hret (dc d35_73) (by decide) (by decide) (by rw [e60]; exact ⟨rfl, N60, K77, C61, C62, C63, C64, C65, C72, C73, C74, C75⟩)
theorem d35_60 : decode c35C 60 = .ok (.aload_n 2, 1) := by decide +kernel
theorem d35_61 : decode c35C 61 = .ok (.getfield 127, 3) := by decide +kernel
theorem d35_64 : decode c35C 64 = .ok (.aload_n 1, 1) := by decide +kernel
theorem d35_65 : decode c35C 65 = .ok (.putfield 55, 3) := by decide +kernel
def sn93 {Z : State} {a0 : Array Value} (hw : TW Z a0) := slot_ne (Or.inl (own_w hw 251 rfl)) (Or.inl (own_w hw 293 rfl)) (by decide) (t := (.object "com/example/uncross/uncross/engine/BookSide$Resting")) (by decide) (t' := (.object "com/example/uncross/uncross/engine/BookSide$Resting")) (by decide)
def sn94 {Z : State} {a0 : Array Value} (hw : TW Z a0) := slot_ne (Or.inl (own_w hw 247 rfl)) (Or.inl (own_w hw 293 rfl)) (by decide) (t := (.object "com/example/uncross/uncross/engine/BookSide$Level")) (by decide) (t' := (.object "com/example/uncross/uncross/engine/BookSide$Resting")) (by decide)
theorem rmAm1 (l : Launch) (Z : State) (a0 : Array Value) (hw : TW Z a0) (b_ r_ m_ o_ a_ r0_ : Addr) (h0 : Heap) (n0 : Nat) (Z0 : n0 ≤ h0.size) (p0 : Exa Z h0 r_ k1C) (p1 : Fld Z h0 r_ k1C "level" k5C .null) (p2 : Fld Z h0 r_ k1C "ahead" k4C .null) (p3 : Fld Z h0 r_ k1C "behind" k4C .null) (p4 : Fld Z h0 r_ k1C "order" k7C (.ref o_)) (p5 : Exa Z h0 o_ k3C) (p6 : Fld Z h0 o_ k3C "limit" k8C (.ref a_)) (p7 : Exa Z h0 a_ k11C) (p8 : Fld Z h0 a_ k11C "isPresent" "Z" (.int (0 : Int32))) (p9 : Exa Z h0 b_ k0C) (p10 : Fld Z h0 b_ k0C "markets" k5C (.ref m_)) (p11 : Exa Z h0 m_ k2C) (p12 : Fld Z h0 m_ k2C "first" k4C (.ref r0_)) (p13 : Fld Z h0 m_ k2C "last" k4C (.ref r0_)) (p14 : Fld Z h0 m_ k2C "deep" "Z" (.int (0 : Int32))) (p15 : Exa Z h0 r0_ k1C) (p16 : Fld Z h0 r0_ k1C "behind" k4C .null) (p17 : Fld Z h0 r0_ k1C "ahead" k4C .null) (p18 : Fld Z h0 r0_ k1C "level" k5C (.ref m_)) (q0 : r_ ≠ m_) (q1 : r_ ≠ r0_) (q2 : m_ ≠ r0_) (q3 : b_ ≠ r_) (q4 : b_ ≠ m_) (q5 : b_ ≠ r0_) (q6 : o_ ≠ r_) (q7 : o_ ≠ m_) (q8 : o_ ≠ r0_) (q9 : a_ ≠ r_) (q10 : a_ ≠ m_) (q11 : a_ ≠ r0_) (g0 : n0 ≤ r_) (g1 : n0 ≤ m_) (g2 : n0 ≤ r0_) :
    Pays l Z (⟨"com/example/uncross/uncross/engine/BookSide", "add", "(Lcom/example/uncross/uncross/engine/BookSide$Resting;)V"⟩ : MethodName) prog_15_method_7_code 3 none [] ({ frames := 3, cells := 1, slots := 4, locals := 60 } : Room) #[(.ref b_), (.ref r_)] h0 (fun v h L => v = none ∧ Fr n0 L ∧ Keep h0 h [r_, m_, r0_] ∧ Exa Z h r_ k1C ∧ Fld Z h r_ k1C "level" k5C (.ref m_) ∧ Fld Z h r_ k1C "ahead" k4C (.ref r0_) ∧ Fld Z h r_ k1C "behind" k4C .null ∧ Fld Z h r_ k1C "order" k7C (.ref o_) ∧ Exa Z h m_ k2C ∧ Fld Z h m_ k2C "first" k4C (.ref r0_) ∧ Fld Z h m_ k2C "last" k4C (.ref r_) ∧ Fld Z h m_ k2C "deep" "Z" (.int (0 : Int32)) ∧ Exa Z h r0_ k1C ∧ Fld Z h r0_ k1C "behind" k4C (.ref r_) ∧ Fld Z h r0_ k1C "ahead" k4C .null ∧ Fld Z h r0_ k1C "level" k5C (.ref m_)) := by
  refine Pays.walk (plainFor_of_name pn_13) (fun m => ef_15 m b_ r_ ) ?_
  intro p e s m below meth c T0 X0 hx hby hml hown hnm hZ e0 hret hlk
  have dc := @Jvm.hb _ _ hby
  have ow := @own_w Z a0 hw
  have K0 := Keep.refl h0 ([r_, m_, r0_] : List Addr)
  obtain ⟨T1, X1, e1, st1⟩ := getF X0 hx hZ hown (host := "") (Or.inl (ow 235 rfl)) Via.refl e0 p4 (g := (mkF m 1 #[sR b_, sR r_, su] [(.ref r_)])) rfl rfl (dc d35_1)
  refine Goes.on (T' := T1) (g' := (mkF m 4 #[sR b_, sR r_, su] [(.ref o_)])) (fun _ k => XS.aloadN X0.here hx rfl (dc d35_0) rfl rfl (st1 _ k)) ?_
  refine Goes.callV X1 hx hZ 0 hown (ow 236 rfl) (ow 237 rfl) (notFace_of_selects (args := #[]) (mvT hZ (ow 239 rfl))) (ow 239 rfl) (ow 238 rfl) (ow 25 rfl) (ow 240 rfl) (by decide) e1 p5 (rmMk0 l Z a0 hw o_ a_ h0 n0 Z0  p5 p6 p7 p8 ) (by decide) (by decide) (by decide) (by decide) rfl (by rw [hml]; rfl) (argsL := []) (rest := []) rfl (lenOf pd_3 rfl) rfl (own_le20 rfl) (dc d35_4) ?_
  rintro v2 T2 L2 X2 ⟨rfl, N2q, e2⟩
  show Goes p e below _ T2 (mkF m 7 #[sR b_, sR r_, su] [(.int 1)])
  obtain ⟨T3, X3, e3, st3⟩ := getF X2 hx hZ hown (host := "") (Or.inl (ow 186 rfl)) Via.refl e2 p10 (g := (mkF m 11 #[sR b_, sR r_, su] [(.ref b_)])) rfl rfl (dc d35_11)
  obtain ⟨T4, h4, X4, e4, W4, st4⟩ := putFR X3 hx hZ hown (ow 246 rfl) e3 p1 p0 (ow 247 rfl) (ow 21 rfl) (ty := (.object "com/example/uncross/uncross/engine/BookSide$Level")) (by decide) rfl rfl (g := (mkF m 34 #[sR b_, sR r_, sR m_] [(.ref m_), (.ref r_)])) rfl rfl (dc d35_34)
  have C5 := p0.wr W4
  have C7 := p2.other W4 (Or.inr (sn83 hw))
  have C18 := p13.other W4 (Or.inl q0.symm)
  have K25 := K0.wr W4 (Or.inl (List.mem_of_getElem? (i := 0) rfl))
  obtain ⟨T26, X26, e26, st26⟩ := getF X4 hx hZ hown (host := "") (Or.inl (ow 248 rfl)) Via.refl e4 C18 (g := (mkF m 39 #[sR b_, sR r_, sR m_] [(.ref m_), (.ref r_)])) rfl rfl (dc d35_39)
  obtain ⟨T27, h27, X27, e27, W27, st27⟩ := putFR X26 hx hZ hown (ow 250 rfl) e26 C7 C5 (ow 251 rfl) (ow 21 rfl) (ty := (.object "com/example/uncross/uncross/engine/BookSide$Resting")) (by decide) rfl rfl (g := (mkF m 42 #[sR b_, sR r_, sR m_] [(.ref r0_), (.ref r_)])) rfl rfl (dc d35_42)
  have C41 := C18.other W27 (Or.inl q0.symm)
  have C43 := (p15.wr W4).wr W27
  have C44 := (p16.other W4 (Or.inl q1.symm)).other W27 (Or.inl q1.symm)
  have K48 := K25.wr W27 (Or.inl (List.mem_of_getElem? (i := 0) rfl))
  obtain ⟨T49, X49, e49, st49⟩ := getF X27 hx hZ hown (host := "") (Or.inl (ow 248 rfl)) Via.refl e27 C41 (g := (mkF m 46 #[sR b_, sR r_, sR m_] [(.ref m_)])) rfl rfl (dc d35_46)
  obtain ⟨T50, X50, e50, st50⟩ := getF X49 hx hZ hown (host := "") (Or.inl (ow 248 rfl)) Via.refl e49 C41 (g := (mkF m 61 #[sR b_, sR r_, sR m_] [(.ref m_)])) rfl rfl (dc d35_61)
  obtain ⟨T51, h51, X51, e51, W51, st51⟩ := putFR X50 hx hZ hown (ow 292 rfl) e50 C44 C43 (ow 293 rfl) (ow 21 rfl) (ty := (.object "com/example/uncross/uncross/engine/BookSide$Resting")) (by decide) rfl rfl (g := (mkF m 65 #[sR b_, sR r_, sR m_] [(.ref r_), (.ref r0_)])) rfl rfl (dc d35_65)
  have C63 := ((p11.wr W4).wr W27).wr W51
  have C65 := C41.other W51 (Or.inl q2)
  have K72 := K48.wr W51 (Or.inl (List.mem_of_getElem? (i := 2) rfl))
  obtain ⟨T73, h73, X73, e73, W73, st73⟩ := putF X51 hx hZ hown (host := "") (Or.inl (ow 248 rfl)) Via.refl e51 C65 C63 (Or.inl (ow 249 rfl)) (ow 178 rfl) (ty := (.object "com/example/uncross/uncross/engine/BookSide$Resting")) (by decide) rfl rfl (g := (mkF m 70 #[sR b_, sR r_, sR m_] [(.ref r_), (.ref m_)])) rfl rfl (dc d35_70)
  have N73 := Fr.snoc X73 (Fr.snoc X51 (Fr.snoc X27 (Fr.snoc X4 (Fr.app (Fr.nil n0) N2q) g0) g0) g2) g1
  have C74 := ((C5.wr W27).wr W51).wr W73
  have C75 := (((p1.same W4).other W27 (Or.inr (sn86 hw))).other W51 (Or.inl q1)).other W73 (Or.inl q0)
  have C76 := ((C7.same W27).other W51 (Or.inl q1)).other W73 (Or.inl q0)
  have C77 := (((p3.other W4 (Or.inr (sn84 hw))).other W27 (Or.inr (sn87 hw))).other W51 (Or.inl q1)).other W73 (Or.inl q0)
  have C78 := (((p4.other W4 (Or.inr (sn85 hw))).other W27 (Or.inr (sn88 hw))).other W51 (Or.inl q1)).other W73 (Or.inl q0)
  have C85 := C63.wr W73
  have C86 := (((p12.other W4 (Or.inl q0.symm)).other W27 (Or.inl q0.symm)).other W51 (Or.inl q2)).other W73 (Or.inr (sn91 hw))
  have C87 := C65.same W73
  have C88 := (((p14.other W4 (Or.inl q0.symm)).other W27 (Or.inl q0.symm)).other W51 (Or.inl q2)).other W73 (Or.inr (sn92 hw))
  have C89 := (C43.wr W51).wr W73
  have C90 := (C44.same W51).other W73 (Or.inl q2.symm)
  have C91 := (((p17.other W4 (Or.inl q1.symm)).other W27 (Or.inl q1.symm)).other W51 (Or.inr (sn93 hw))).other W73 (Or.inl q2.symm)
  have C92 := (((p18.other W4 (Or.inl q1.symm)).other W27 (Or.inl q1.symm)).other W51 (Or.inr (sn94 hw))).other W73 (Or.inl q2.symm)
  have K94 := K72.wr W73 (Or.inl (List.mem_of_getElem? (i := 1) rfl))
  refine Goes.on (T' := T73) (g' := (mkF m 73 #[sR b_, sR r_, sR m_] [])) (fun _ k => XS.ifNo X2.here hx rfl (dc d35_7) rfl (XT.i0_eq_f (by decide)) (XS.aloadN X2.here hx rfl (dc d35_10) rfl rfl (st3 _ (XS.goto X3.here hx rfl (pc0 := 14) (pc' := 31) rfl (dc d35_14) (by decide) (by decide) (XS.astoreN X3.here hx rfl (dc d35_31) rfl rfl (l' := #[sR b_, sR r_, sR m_]) rfl (XS.aloadN X3.here hx rfl (dc d35_32) rfl rfl (XS.aloadN X3.here hx rfl (dc d35_33) rfl rfl (st4 _ (XS.aloadN X4.here hx rfl (dc d35_37) rfl rfl (XS.aloadN X4.here hx rfl (dc d35_38) rfl rfl (st26 _ (st27 _ (XS.aloadN X27.here hx rfl (dc d35_45) rfl rfl (st49 _ (XT.ifnonnullYes X49.here hx rfl (pc0 := 49) (pc' := 60) rfl (dc d35_49) rfl (by decide) (by decide) (XS.aloadN X49.here hx rfl (dc d35_60) rfl rfl (st50 _ (XS.aloadN X50.here hx rfl (dc d35_64) rfl rfl (st51 _ (XS.aloadN X51.here hx rfl (dc d35_68) rfl rfl (XS.aloadN X51.here hx rfl (dc d35_69) rfl rfl (st73 _ k)))))))))))))))))))))) ?_
  exact Goes.retV X73 hx hlk hret (dc d35_73) (by decide) (by decide) (by rw [e73]; exact ⟨rfl, N73, K94, C74, C75, C76, C77, C78, C85, C86, C87, C88, C89, C90, C91, C92⟩)
theorem d35_17 : decode c35C 17 = .ok (.aload_n 0, 1) := by decide +kernel
theorem d35_18 : decode c35C 18 = .ok (.aload_n 1, 1) := by decide +kernel
theorem d35_19 : decode c35C 19 = .ok (.getfield 119, 3) := by decide +kernel
theorem pd_21 : parseMethodDescriptor "()Ljava/util/OptionalLong;" = some ⟨[], some (.object "java/util/OptionalLong")⟩ := by decide +kernel
theorem d35_22 : decode c35C 22 = .ok (.invokevirtual 95, 3) := by decide +kernel
theorem d35_25 : decode c35C 25 = .ok (.invokevirtual 99, 3) := by decide +kernel
theorem pd_22 : parseMethodDescriptor "(J)Lcom/example/uncross/uncross/engine/BookSide$Level;" = some ⟨[.long], some (.object "com/example/uncross/uncross/engine/BookSide$Level")⟩ := by decide +kernel
theorem d35_28 : decode c35C 28 = .ok (.invokevirtual 123, 3) := by decide +kernel
def sn95 {Z : State} {a0 : Array Value} (hw : TW Z a0) := slot_ne (Or.inr (own_w hw 185 rfl)) (Or.inl (own_w hw 229 rfl)) (by decide) (t := .long) (by decide) (t' := (.object "com/example/uncross/uncross/engine/BookSide$Resting")) (by decide)
def sn96 {Z : State} {a0 : Array Value} (hw : TW Z a0) := slot_ne (Or.inr (own_w hw 185 rfl)) (Or.inl (own_w hw 249 rfl)) (by decide) (t := .long) (by decide) (t' := (.object "com/example/uncross/uncross/engine/BookSide$Resting")) (by decide)
theorem rmAdL0 (l : Launch) (Z : State) (a0 : Array Value) (hw : TW Z a0) (b_ t_ A_ K_ m_ l0_ r_ o_ a_ : Addr) (z_ : Int32) (x_ : Int64) (h0 : Heap) (n0 : Nat) (Z0 : n0 ≤ h0.size) (p0 : Exa Z h0 b_ k0C) (p1 : Fld Z h0 b_ k0C "buying" "Z" (.int z_)) (p2 : Fld Z h0 b_ k0C "levelCount" "I" (.int (1 : Int32))) (p3 : Fld Z h0 b_ k0C "deep" k9C (.ref t_)) (p4 : Fld Z h0 b_ k0C "levels" k6C (.ref A_)) (p5 : Fld Z h0 b_ k0C "keys" "[J" (.ref K_)) (p6 : Fld Z h0 b_ k0C "markets" k5C (.ref m_)) (p7 : Fld Z h0 b_ k0C "emptyLevels" "I" (.int (0 : Int32))) (p8 : Exa Z h0 t_ k12C) (p9 : Fld Z h0 t_ k12C "size" "I" (.int (0 : Int32))) (p10 : Rbk Z h0 A_ k2C 64 (Upd (fun _ => Value.null) 0 (.ref l0_))) (p11 : Arf Z h0 K_ .long Value.long 64 (Upd (fun _ => (0 : Int64)) 0 (-9223372036854775808 : Int64))) (p12 : Exa Z h0 r_ k1C) (p13 : Fld Z h0 r_ k1C "level" k5C .null) (p14 : Fld Z h0 r_ k1C "ahead" k4C .null) (p15 : Fld Z h0 r_ k1C "behind" k4C .null) (p16 : Fld Z h0 r_ k1C "order" k7C (.ref o_)) (p17 : Exa Z h0 o_ k3C) (p18 : Fld Z h0 o_ k3C "limit" k8C (.ref a_)) (p19 : Exa Z h0 a_ k11C) (p20 : Fld Z h0 a_ k11C "isPresent" "Z" (.int (1 : Int32))) (p21 : Fld Z h0 a_ k11C "value" "J" (.long x_)) (q0 : b_ ≠ r_) (q1 : b_ ≠ A_) (q2 : b_ ≠ K_) (q3 : t_ ≠ r_) (q4 : t_ ≠ b_) (q5 : t_ ≠ A_) (q6 : t_ ≠ K_) (q7 : A_ ≠ r_) (q8 : A_ ≠ K_) (q9 : K_ ≠ r_) (q10 : o_ ≠ r_) (q11 : o_ ≠ b_) (q12 : o_ ≠ A_) (q13 : o_ ≠ K_) (q14 : a_ ≠ r_) (q15 : a_ ≠ b_) (q16 : a_ ≠ A_) (q17 : a_ ≠ K_) (g0 : n0 ≤ r_) (g1 : n0 ≤ b_) (g2 : n0 ≤ A_) (g3 : n0 ≤ K_) (hm : ¬ (-9223372036854775808 : Int64) = (own_key z_ x_)) :
    Pays l Z (⟨"com/example/uncross/uncross/engine/BookSide", "add", "(Lcom/example/uncross/uncross/engine/BookSide$Resting;)V"⟩ : MethodName) prog_15_method_7_code 3 none [] ({ frames := 3, cells := 1, slots := 4, locals := 60 } : Room) #[(.ref b_), (.ref r_)] h0 (fun v h L => ∃ (n0_ : Addr), v = none ∧ Fr n0 L ∧ Keep h0 h [r_, b_, A_, K_] ∧ Exa Z h b_ k0C ∧ Exa Z h r_ k1C ∧ Fld Z h r_ k1C "level" k5C (.ref n0_) ∧ Fld Z h r_ k1C "ahead" k4C .null ∧ Fld Z h r_ k1C "behind" k4C .null ∧ Fld Z h r_ k1C "order" k7C (.ref o_) ∧ Fld Z h b_ k0C "buying" "Z" (.int z_) ∧ Fld Z h b_ k0C "levelCount" "I" (.int (2 : Int32)) ∧ Fld Z h b_ k0C "deep" k9C (.ref t_) ∧ Fld Z h b_ k0C "levels" k6C (.ref A_) ∧ Fld Z h b_ k0C "keys" "[J" (.ref K_) ∧ Fld Z h b_ k0C "markets" k5C (.ref m_) ∧ Fld Z h b_ k0C "emptyLevels" "I" (.int (0 : Int32)) ∧ Rbk Z h A_ k2C 64 (Upd (Upd (fun _ => Value.null) 0 (.ref l0_)) 1 (.ref n0_)) ∧ Arf Z h K_ .long Value.long 64 (Upd (Upd (fun _ => (0 : Int64)) 0 (-9223372036854775808 : Int64)) 1 (own_key z_ x_)) ∧ Exa Z h n0_ k2C ∧ Fld Z h n0_ k2C "first" k4C (.ref r_) ∧ Fld Z h n0_ k2C "last" k4C (.ref r_) ∧ Fld Z h n0_ k2C "deep" "Z" (.int (0 : Int32)) ∧ Fld Z h n0_ k2C "key" "J" (.long (own_key z_ x_)) ∧ h0.size ≤ n0_) := by
  refine Pays.walk (plainFor_of_name pn_13) (fun m => ef_15 m b_ r_ ) ?_
  intro p e s m below meth c T0 X0 hx hby hml hown hnm hZ e0 hret hlk
  have dc := @Jvm.hb _ _ hby
  have ow := @own_w Z a0 hw
  have K0 := Keep.refl h0 ([r_, b_, A_, K_] : List Addr)
  obtain ⟨T1, X1, e1, st1⟩ := getF X0 hx hZ hown (host := "") (Or.inl (ow 235 rfl)) Via.refl e0 p16 (g := (mkF m 1 #[sR b_, sR r_, su] [(.ref r_)])) rfl rfl (dc d35_1)
  refine Goes.on (T' := T1) (g' := (mkF m 4 #[sR b_, sR r_, su] [(.ref o_)])) (fun _ k => XS.aloadN X0.here hx rfl (dc d35_0) rfl rfl (st1 _ k)) ?_
  refine Goes.callV X1 hx hZ 0 hown (ow 236 rfl) (ow 237 rfl) (notFace_of_selects (args := #[]) (mvT hZ (ow 239 rfl))) (ow 239 rfl) (ow 238 rfl) (ow 25 rfl) (ow 240 rfl) (by decide) e1 p17 (rmMk1 l Z a0 hw o_ a_ h0 n0 Z0  p17 p18 p19 p20 ) (by decide) (by decide) (by decide) (by decide) rfl (by rw [hml]; rfl) (argsL := []) (rest := []) rfl (lenOf pd_3 rfl) rfl (own_le20 rfl) (dc d35_4) ?_
  rintro v2 T2 L2 X2 ⟨rfl, N2q, e2⟩
  show Goes p e below _ T2 (mkF m 7 #[sR b_, sR r_, su] [(.int 0)])
  obtain ⟨T3, X3, e3, st3⟩ := getF X2 hx hZ hown (host := "") (Or.inl (ow 235 rfl)) Via.refl e2 p16 (g := (mkF m 19 #[sR b_, sR r_, su] [(.ref r_), (.ref b_)])) rfl rfl (dc d35_19)
  refine Goes.on (T' := T3) (g' := (mkF m 22 #[sR b_, sR r_, su] [(.ref o_), (.ref b_)])) (fun _ k => XS.ifYes X2.here hx rfl (pc0 := 7) (pc' := 17) rfl (dc d35_7) rfl (XT.i0_eq_t (by decide)) (by decide) (by decide) (XS.aloadN X2.here hx rfl (dc d35_17) rfl rfl (XS.aloadN X2.here hx rfl (dc d35_18) rfl rfl (st3 _ k)))) ?_
  refine Goes.callV X3 hx hZ 1 hown (ow 252 rfl) (ow 253 rfl) (notFace_of_selects (args := #[]) (mvT hZ (ow 255 rfl))) (ow 255 rfl) (ow 254 rfl) (ow 25 rfl) (ow 256 rfl) (by decide) e3 p17 (rmLi l Z a0 hw o_ a_ h0 n0 Z0  p17 p18 ) (by decide) (by decide) (by decide) (by decide) rfl (by rw [hml]; rfl) (argsL := []) (rest := [(.ref b_)]) rfl (lenOf pd_21 rfl) rfl (own_le20 rfl) (dc d35_22) ?_
  rintro v4 T4 L4 X4 ⟨rfl, N4q, e4⟩
  show Goes p e below _ T4 (mkF m 25 #[sR b_, sR r_, su] [(.ref a_), (.ref b_)])
  refine Goes.callV X4 hx hZ 1 hown (ow 257 rfl) (ow 154 rfl) (notFace_of_selects (args := #[]) (mvT hZ (ow 156 rfl))) (ow 156 rfl) (ow 155 rfl) (ow 17 rfl) (ow 157 rfl) (by decide) e4 p19 (rmGa l Z a0 hw a_ x_ h0 n0 Z0  p19 p20 p21 ) (by decide) (by decide) (by decide) (by decide) rfl (by rw [hml]; rfl) (argsL := []) (rest := [(.ref b_)]) rfl (lenOf pd_14 rfl) rfl (own_le20 rfl) (dc d35_25) ?_
  rintro v5 T5 L5 X5 ⟨rfl, N5q, e5⟩
  show Goes p e below _ T5 (mkF m 28 #[sR b_, sR r_, su] [(.long x_), (.ref b_)])
  refine Goes.callP X5 hx hZ 0 hown (ow 258 rfl) (ow 259 rfl) (ow 260 rfl) (ow 171 rfl) (ow 172 rfl) (ow 261 rfl) (by decide) e5 p0 (rmLf0 l Z a0 hw b_ t_ A_ K_ m_ l0_ z_ x_ h0 n0 Z0  p0 p1 p2 p3 p4 p5 p6 p7 p8 p9 p10 p11 q1 q2 q8 q4 q5 q6 g1 g2 g3 hm) (by decide) (by decide) (by decide) (by decide) rfl (by rw [hml]; rfl) (argsL := [(.long x_)]) (rest := []) rfl (lenOf pd_22 rfl) rfl (own_le20 rfl) (dc d35_28) ?_
  rintro v6 T6 L6 X6 ⟨ya6, rfl, N6q, K6, P6_0, P6_1, P6_2, P6_3, P6_4, P6_5, P6_6, P6_7, P6_8, P6_9, P6_10, P6_11, P6_12, P6_13, P6_14, M6_0⟩
  show Goes p e below _ T6 (mkF m 31 #[sR b_, sR r_, su] [(.ref ya6)])
  have ne7 := own_neL p0.lt M6_0
  have ne9 := own_neL p10.lt M6_0
  have ne10 := own_neL p11.lt M6_0
  have ne11 := own_neL p12.lt M6_0
  have G14 : n0 ≤ ya6 := Nat.le_trans Z0 M6_0
  have M15 : h0.size ≤ ya6 := Nat.le_trans K0.1 M6_0
  have C20 := p12.keep K6
  have ni22 := (ninS q0.symm (ninS q7.symm (ninS q9.symm nin0)))
  have C21 := p13.keep K6 ni22
  have K34 := K0.trans K6 (allS (Or.inl (List.mem_of_getElem? (i := 1) rfl)) (allS (Or.inl (List.mem_of_getElem? (i := 2) rfl)) (allS (Or.inl (List.mem_of_getElem? (i := 3) rfl)) all0)))
  obtain ⟨T35, h35, X35, e35, W35, st35⟩ := putFR X6 hx hZ hown (ow 246 rfl) rfl C21 C20 (ow 247 rfl) (ow 21 rfl) (ty := (.object "com/example/uncross/uncross/engine/BookSide$Level")) (by decide) rfl rfl (g := (mkF m 34 #[sR b_, sR r_, sR ya6] [(.ref ya6), (.ref r_)])) rfl rfl (dc d35_34)
  have C39 := C20.wr W35
  have C41 := (p14.keep K6 ni22).other W35 (Or.inr (sn83 hw))
  have C60 := P6_12.other W35 (Or.inl ne11.symm)
  have K64 := K34.wr W35 (Or.inl (List.mem_of_getElem? (i := 0) rfl))
  obtain ⟨T65, X65, e65, st65⟩ := getF X35 hx hZ hown (host := "") (Or.inl (ow 248 rfl)) Via.refl e35 C60 (g := (mkF m 39 #[sR b_, sR r_, sR ya6] [(.ref ya6), (.ref r_)])) rfl rfl (dc d35_39)
  obtain ⟨T66, h66, X66, e66, W66, st66⟩ := putFR X65 hx hZ hown (ow 250 rfl) e65 C41 C39 (ow 251 rfl) (ow 21 rfl) (ty := (.object "com/example/uncross/uncross/engine/BookSide$Resting")) (by decide) rfl rfl (g := (mkF m 42 #[sR b_, sR r_, sR ya6] [.null, (.ref r_)])) rfl rfl (dc d35_42)
  have C89 := (P6_10.wr W35).wr W66
  have C90 := (P6_11.other W35 (Or.inl ne11.symm)).other W66 (Or.inl ne11.symm)
  have C91 := C60.other W66 (Or.inl ne11.symm)
  have K95 := K64.wr W66 (Or.inl (List.mem_of_getElem? (i := 0) rfl))
  obtain ⟨T96, X96, e96, st96⟩ := getF X66 hx hZ hown (host := "") (Or.inl (ow 248 rfl)) Via.refl e66 C91 (g := (mkF m 46 #[sR b_, sR r_, sR ya6] [(.ref ya6)])) rfl rfl (dc d35_46)
  obtain ⟨T97, h97, X97, e97, W97, st97⟩ := putF X96 hx hZ hown (host := "") (Or.inl (ow 228 rfl)) Via.refl e96 C90 C89 (Or.inl (ow 229 rfl)) (ow 178 rfl) (ty := (.object "com/example/uncross/uncross/engine/BookSide$Resting")) (by decide) rfl rfl (g := (mkF m 54 #[sR b_, sR r_, sR ya6] [(.ref r_), (.ref ya6)])) rfl rfl (dc d35_54)
  have C120 := C89.wr W97
  have C122 := C91.other W97 (Or.inr (sn89 hw))
  have K126 := K95.wr W97 (Or.inr M15)
  obtain ⟨T127, h127, X127, e127, W127, st127⟩ := putF X97 hx hZ hown (host := "") (Or.inl (ow 248 rfl)) Via.refl e97 C122 C120 (Or.inl (ow 249 rfl)) (ow 178 rfl) (ty := (.object "com/example/uncross/uncross/engine/BookSide$Resting")) (by decide) rfl rfl (g := (mkF m 70 #[sR b_, sR r_, sR ya6] [(.ref r_), (.ref ya6)])) rfl rfl (dc d35_70)
  have N127 := Fr.snoc X127 (Fr.snoc X97 (Fr.snoc X66 (Fr.snoc X35 (Fr.app (Fr.app (Fr.app (Fr.app (Fr.nil n0) N2q) N4q) N5q) N6q) g0) g0) G14) G14
  have C128 := (((P6_0.wr W35).wr W66).wr W97).wr W127
  have C131 := ((C39.wr W66).wr W97).wr W127
  have C132 := (((C21.same W35).other W66 (Or.inr (sn86 hw))).other W97 (Or.inl ne11)).other W127 (Or.inl ne11)
  have C133 := ((C41.same W66).other W97 (Or.inl ne11)).other W127 (Or.inl ne11)
  have C134 := ((((p15.keep K6 ni22).other W35 (Or.inr (sn84 hw))).other W66 (Or.inr (sn87 hw))).other W97 (Or.inl ne11)).other W127 (Or.inl ne11)
  have C135 := ((((p16.keep K6 ni22).other W35 (Or.inr (sn85 hw))).other W66 (Or.inr (sn88 hw))).other W97 (Or.inl ne11)).other W127 (Or.inl ne11)
  have C141 := (((P6_1.other W35 (Or.inl q0)).other W66 (Or.inl q0)).other W97 (Or.inl ne7)).other W127 (Or.inl ne7)
  have C142 := (((P6_2.other W35 (Or.inl q0)).other W66 (Or.inl q0)).other W97 (Or.inl ne7)).other W127 (Or.inl ne7)
  have C143 := (((P6_3.other W35 (Or.inl q0)).other W66 (Or.inl q0)).other W97 (Or.inl ne7)).other W127 (Or.inl ne7)
  have C144 := (((P6_4.other W35 (Or.inl q0)).other W66 (Or.inl q0)).other W97 (Or.inl ne7)).other W127 (Or.inl ne7)
  have C145 := (((P6_5.other W35 (Or.inl q0)).other W66 (Or.inl q0)).other W97 (Or.inl ne7)).other W127 (Or.inl ne7)
  have C146 := (((P6_6.other W35 (Or.inl q0)).other W66 (Or.inl q0)).other W97 (Or.inl ne7)).other W127 (Or.inl ne7)
  have C147 := (((P6_7.other W35 (Or.inl q0)).other W66 (Or.inl q0)).other W97 (Or.inl ne7)).other W127 (Or.inl ne7)
  have C148 := (((P6_8.other W35 q7).other W66 q7).other W97 ne9).other W127 ne9
  have C149 := (((P6_9.other W35 q9).other W66 q9).other W97 ne10).other W127 ne10
  have C150 := C120.wr W127
  have C151 := (C90.same W97).other W127 (Or.inr (sn91 hw))
  have C152 := C122.same W127
  have C153 := (((P6_13.other W35 (Or.inl ne11.symm)).other W66 (Or.inl ne11.symm)).other W97 (Or.inr (sn90 hw))).other W127 (Or.inr (sn92 hw))
  have C154 := (((P6_14.other W35 (Or.inl ne11.symm)).other W66 (Or.inl ne11.symm)).other W97 (Or.inr (sn95 hw))).other W127 (Or.inr (sn96 hw))
  have K156 := K126.wr W127 (Or.inr M15)
  refine Goes.on (T' := T127) (g' := (mkF m 73 #[sR b_, sR r_, sR ya6] [])) (fun _ k => XS.astoreN X6.here hx rfl (dc d35_31) rfl rfl (l' := #[sR b_, sR r_, sR ya6]) rfl (XS.aloadN X6.here hx rfl (dc d35_32) rfl rfl (XS.aloadN X6.here hx rfl (dc d35_33) rfl rfl (st35 _ (XS.aloadN X35.here hx rfl (dc d35_37) rfl rfl (XS.aloadN X35.here hx rfl (dc d35_38) rfl rfl (st65 _ (st66 _ (XS.aloadN X66.here hx rfl (dc d35_45) rfl rfl (st96 _ (XT.ifnonnullNo X96.here hx rfl (dc d35_49) rfl (XS.aloadN X96.here hx rfl (dc d35_52) rfl rfl (XS.aloadN X96.here hx rfl (dc d35_53) rfl rfl (st97 _ (XS.goto X97.here hx rfl (pc0 := 57) (pc' := 68) rfl (dc d35_57) (by decide) (by decide) (XS.aloadN X97.here hx rfl (dc d35_68) rfl rfl (XS.aloadN X97.here hx rfl (dc d35_69) rfl rfl (st127 _ k)))))))))))))))))) ?_
  exact Goes.retV X127 hx hlk hret (dc d35_73) (by decide) (by decide) (by rw [e127]; exact ⟨ya6, rfl, N127, K156, C128, C131, C132, C133, C134, C135, C141, C142, C143, C144, C145, C146, C147, C148, C149, C150, C151, C152, C153, C154, M15⟩)
theorem rmAdLE (l : Launch) (Z : State) (a0 : Array Value) (hw : TW Z a0) (b_ t_ A_ K_ m_ l0_ l1_ r_ o_ a_ r0_ : Addr) (z_ : Int32) (x_ k1_ : Int64) (h0 : Heap) (n0 : Nat) (Z0 : n0 ≤ h0.size) (p0 : Exa Z h0 b_ k0C) (p1 : Fld Z h0 b_ k0C "buying" "Z" (.int z_)) (p2 : Fld Z h0 b_ k0C "levelCount" "I" (.int (2 : Int32))) (p3 : Fld Z h0 b_ k0C "deep" k9C (.ref t_)) (p4 : Fld Z h0 b_ k0C "levels" k6C (.ref A_)) (p5 : Fld Z h0 b_ k0C "keys" "[J" (.ref K_)) (p6 : Fld Z h0 b_ k0C "markets" k5C (.ref m_)) (p7 : Fld Z h0 b_ k0C "emptyLevels" "I" (.int (0 : Int32))) (p8 : Exa Z h0 t_ k12C) (p9 : Fld Z h0 t_ k12C "size" "I" (.int (0 : Int32))) (p10 : Rbk Z h0 A_ k2C 64 (Upd (Upd (fun _ => Value.null) 0 (.ref l0_)) 1 (.ref l1_))) (p11 : Arf Z h0 K_ .long Value.long 64 (Upd (Upd (fun _ => (0 : Int64)) 0 (-9223372036854775808 : Int64)) 1 k1_)) (p12 : Exa Z h0 r_ k1C) (p13 : Fld Z h0 r_ k1C "level" k5C .null) (p14 : Fld Z h0 r_ k1C "ahead" k4C .null) (p15 : Fld Z h0 r_ k1C "behind" k4C .null) (p16 : Fld Z h0 r_ k1C "order" k7C (.ref o_)) (p17 : Exa Z h0 o_ k3C) (p18 : Fld Z h0 o_ k3C "limit" k8C (.ref a_)) (p19 : Exa Z h0 a_ k11C) (p20 : Fld Z h0 a_ k11C "isPresent" "Z" (.int (1 : Int32))) (p21 : Fld Z h0 a_ k11C "value" "J" (.long x_)) (p22 : Exa Z h0 l1_ k2C) (p23 : Fld Z h0 l1_ k2C "first" k4C (.ref r0_)) (p24 : Fld Z h0 l1_ k2C "last" k4C (.ref r0_)) (p25 : Fld Z h0 l1_ k2C "deep" "Z" (.int (0 : Int32))) (p26 : Exa Z h0 r0_ k1C) (p27 : Fld Z h0 r0_ k1C "behind" k4C .null) (p28 : Fld Z h0 r0_ k1C "ahead" k4C .null) (p29 : Fld Z h0 r0_ k1C "level" k5C (.ref l1_)) (q0 : b_ ≠ r_) (q1 : b_ ≠ l1_) (q2 : b_ ≠ r0_) (q3 : t_ ≠ r_) (q4 : t_ ≠ l1_) (q5 : t_ ≠ r0_) (q6 : A_ ≠ r_) (q7 : A_ ≠ l1_) (q8 : A_ ≠ r0_) (q9 : K_ ≠ r_) (q10 : K_ ≠ l1_) (q11 : K_ ≠ r0_) (q12 : r_ ≠ l1_) (q13 : r_ ≠ r0_) (q14 : o_ ≠ r_) (q15 : o_ ≠ l1_) (q16 : o_ ≠ r0_) (q17 : a_ ≠ r_) (q18 : a_ ≠ l1_) (q19 : a_ ≠ r0_) (q20 : l1_ ≠ r0_) (q21 : b_ ≠ A_) (q22 : b_ ≠ K_) (q23 : A_ ≠ K_) (q24 : t_ ≠ b_) (q25 : t_ ≠ A_) (q26 : t_ ≠ K_) (g0 : n0 ≤ r_) (g1 : n0 ≤ l1_) (g2 : n0 ≤ r0_) (hq : k1_ = (own_key z_ x_)) :
    Pays l Z (⟨"com/example/uncross/uncross/engine/BookSide", "add", "(Lcom/example/uncross/uncross/engine/BookSide$Resting;)V"⟩ : MethodName) prog_15_method_7_code 3 none [] ({ frames := 3, cells := 1, slots := 4, locals := 60 } : Room) #[(.ref b_), (.ref r_)] h0 (fun v h L => v = none ∧ Fr n0 L ∧ Keep h0 h [r_, l1_, r0_] ∧ Exa Z h r_ k1C ∧ Fld Z h r_ k1C "level" k5C (.ref l1_) ∧ Fld Z h r_ k1C "ahead" k4C (.ref r0_) ∧ Fld Z h r_ k1C "behind" k4C .null ∧ Fld Z h r_ k1C "order" k7C (.ref o_) ∧ Exa Z h l1_ k2C ∧ Fld Z h l1_ k2C "first" k4C (.ref r0_) ∧ Fld Z h l1_ k2C "last" k4C (.ref r_) ∧ Fld Z h l1_ k2C "deep" "Z" (.int (0 : Int32)) ∧ Exa Z h r0_ k1C ∧ Fld Z h r0_ k1C "behind" k4C (.ref r_) ∧ Fld Z h r0_ k1C "ahead" k4C .null ∧ Fld Z h r0_ k1C "level" k5C (.ref l1_)) := by
  refine Pays.walk (plainFor_of_name pn_13) (fun m => ef_15 m b_ r_ ) ?_
  intro p e s m below meth c T0 X0 hx hby hml hown hnm hZ e0 hret hlk
  have dc := @Jvm.hb _ _ hby
  have ow := @own_w Z a0 hw
  have K0 := Keep.refl h0 ([r_, l1_, r0_] : List Addr)
  obtain ⟨T1, X1, e1, st1⟩ := getF X0 hx hZ hown (host := "") (Or.inl (ow 235 rfl)) Via.refl e0 p16 (g := (mkF m 1 #[sR b_, sR r_, su] [(.ref r_)])) rfl rfl (dc d35_1)
  refine Goes.on (T' := T1) (g' := (mkF m 4 #[sR b_, sR r_, su] [(.ref o_)])) (fun _ k => XS.aloadN X0.here hx rfl (dc d35_0) rfl rfl (st1 _ k)) ?_
  refine Goes.callV X1 hx hZ 0 hown (ow 236 rfl) (ow 237 rfl) (notFace_of_selects (args := #[]) (mvT hZ (ow 239 rfl))) (ow 239 rfl) (ow 238 rfl) (ow 25 rfl) (ow 240 rfl) (by decide) e1 p17 (rmMk1 l Z a0 hw o_ a_ h0 n0 Z0  p17 p18 p19 p20 ) (by decide) (by decide) (by decide) (by decide) rfl (by rw [hml]; rfl) (argsL := []) (rest := []) rfl (lenOf pd_3 rfl) rfl (own_le20 rfl) (dc d35_4) ?_
  rintro v2 T2 L2 X2 ⟨rfl, N2q, e2⟩
  show Goes p e below _ T2 (mkF m 7 #[sR b_, sR r_, su] [(.int 0)])
  obtain ⟨T3, X3, e3, st3⟩ := getF X2 hx hZ hown (host := "") (Or.inl (ow 235 rfl)) Via.refl e2 p16 (g := (mkF m 19 #[sR b_, sR r_, su] [(.ref r_), (.ref b_)])) rfl rfl (dc d35_19)
  refine Goes.on (T' := T3) (g' := (mkF m 22 #[sR b_, sR r_, su] [(.ref o_), (.ref b_)])) (fun _ k => XS.ifYes X2.here hx rfl (pc0 := 7) (pc' := 17) rfl (dc d35_7) rfl (XT.i0_eq_t (by decide)) (by decide) (by decide) (XS.aloadN X2.here hx rfl (dc d35_17) rfl rfl (XS.aloadN X2.here hx rfl (dc d35_18) rfl rfl (st3 _ k)))) ?_
  refine Goes.callV X3 hx hZ 1 hown (ow 252 rfl) (ow 253 rfl) (notFace_of_selects (args := #[]) (mvT hZ (ow 255 rfl))) (ow 255 rfl) (ow 254 rfl) (ow 25 rfl) (ow 256 rfl) (by decide) e3 p17 (rmLi l Z a0 hw o_ a_ h0 n0 Z0  p17 p18 ) (by decide) (by decide) (by decide) (by decide) rfl (by rw [hml]; rfl) (argsL := []) (rest := [(.ref b_)]) rfl (lenOf pd_21 rfl) rfl (own_le20 rfl) (dc d35_22) ?_
  rintro v4 T4 L4 X4 ⟨rfl, N4q, e4⟩
  show Goes p e below _ T4 (mkF m 25 #[sR b_, sR r_, su] [(.ref a_), (.ref b_)])
  refine Goes.callV X4 hx hZ 1 hown (ow 257 rfl) (ow 154 rfl) (notFace_of_selects (args := #[]) (mvT hZ (ow 156 rfl))) (ow 156 rfl) (ow 155 rfl) (ow 17 rfl) (ow 157 rfl) (by decide) e4 p19 (rmGa l Z a0 hw a_ x_ h0 n0 Z0  p19 p20 p21 ) (by decide) (by decide) (by decide) (by decide) rfl (by rw [hml]; rfl) (argsL := []) (rest := [(.ref b_)]) rfl (lenOf pd_14 rfl) rfl (own_le20 rfl) (dc d35_25) ?_
  rintro v5 T5 L5 X5 ⟨rfl, N5q, e5⟩
  show Goes p e below _ T5 (mkF m 28 #[sR b_, sR r_, su] [(.long x_), (.ref b_)])
  refine Goes.callP X5 hx hZ 0 hown (ow 258 rfl) (ow 259 rfl) (ow 260 rfl) (ow 171 rfl) (ow 172 rfl) (ow 261 rfl) (by decide) e5 p0 (rmLfE l Z a0 hw b_ t_ A_ K_ m_ l0_ l1_ r0_ z_ x_ k1_ h0 n0 Z0  p0 p1 p2 p3 p4 p5 p6 p7 p8 p9 p10 p11 p22 p23 q21 q22 q23 q24 q25 q26 hq) (by decide) (by decide) (by decide) (by decide) rfl (by rw [hml]; rfl) (argsL := [(.long x_)]) (rest := []) rfl (lenOf pd_22 rfl) rfl (own_le20 rfl) (dc d35_28) ?_
  rintro v6 T6 L6 X6 ⟨rfl, N6q, e6⟩
  show Goes p e below _ T6 (mkF m 31 #[sR b_, sR r_, su] [(.ref l1_)])
  obtain ⟨T7, h7, X7, e7, W7, st7⟩ := putFR X6 hx hZ hown (ow 246 rfl) e6 p13 p12 (ow 247 rfl) (ow 21 rfl) (ty := (.object "com/example/uncross/uncross/engine/BookSide$Level")) (by decide) rfl rfl (g := (mkF m 34 #[sR b_, sR r_, sR l1_] [(.ref l1_), (.ref r_)])) rfl rfl (dc d35_34)
  have C20 := p12.wr W7
  have C22 := p14.other W7 (Or.inr (sn83 hw))
  have C32 := p24.other W7 (Or.inl q12.symm)
  have K39 := K0.wr W7 (Or.inl (List.mem_of_getElem? (i := 0) rfl))
  obtain ⟨T40, X40, e40, st40⟩ := getF X7 hx hZ hown (host := "") (Or.inl (ow 248 rfl)) Via.refl e7 C32 (g := (mkF m 39 #[sR b_, sR r_, sR l1_] [(.ref l1_), (.ref r_)])) rfl rfl (dc d35_39)
  obtain ⟨T41, h41, X41, e41, W41, st41⟩ := putFR X40 hx hZ hown (ow 250 rfl) e40 C22 C20 (ow 251 rfl) (ow 21 rfl) (ty := (.object "com/example/uncross/uncross/engine/BookSide$Resting")) (by decide) rfl rfl (g := (mkF m 42 #[sR b_, sR r_, sR l1_] [(.ref r0_), (.ref r_)])) rfl rfl (dc d35_42)
  have C66 := C32.other W41 (Or.inl q12.symm)
  have C68 := (p26.wr W7).wr W41
  have C69 := (p27.other W7 (Or.inl q13.symm)).other W41 (Or.inl q13.symm)
  have K73 := K39.wr W41 (Or.inl (List.mem_of_getElem? (i := 0) rfl))
  obtain ⟨T74, X74, e74, st74⟩ := getF X41 hx hZ hown (host := "") (Or.inl (ow 248 rfl)) Via.refl e41 C66 (g := (mkF m 46 #[sR b_, sR r_, sR l1_] [(.ref l1_)])) rfl rfl (dc d35_46)
  obtain ⟨T75, X75, e75, st75⟩ := getF X74 hx hZ hown (host := "") (Or.inl (ow 248 rfl)) Via.refl e74 C66 (g := (mkF m 61 #[sR b_, sR r_, sR l1_] [(.ref l1_)])) rfl rfl (dc d35_61)
  obtain ⟨T76, h76, X76, e76, W76, st76⟩ := putFR X75 hx hZ hown (ow 292 rfl) e75 C69 C68 (ow 293 rfl) (ow 21 rfl) (ty := (.object "com/example/uncross/uncross/engine/BookSide$Resting")) (by decide) rfl rfl (g := (mkF m 65 #[sR b_, sR r_, sR l1_] [(.ref r_), (.ref r0_)])) rfl rfl (dc d35_65)
  have C99 := ((p22.wr W7).wr W41).wr W76
  have C101 := C66.other W76 (Or.inl q20)
  have K108 := K73.wr W76 (Or.inl (List.mem_of_getElem? (i := 2) rfl))
  obtain ⟨T109, h109, X109, e109, W109, st109⟩ := putF X76 hx hZ hown (host := "") (Or.inl (ow 248 rfl)) Via.refl e76 C101 C99 (Or.inl (ow 249 rfl)) (ow 178 rfl) (ty := (.object "com/example/uncross/uncross/engine/BookSide$Resting")) (by decide) rfl rfl (g := (mkF m 70 #[sR b_, sR r_, sR l1_] [(.ref r_), (.ref l1_)])) rfl rfl (dc d35_70)
  have N109 := Fr.snoc X109 (Fr.snoc X76 (Fr.snoc X41 (Fr.snoc X7 (Fr.app (Fr.app (Fr.app (Fr.app (Fr.nil n0) N2q) N4q) N5q) N6q) g0) g0) g2) g1
  have C122 := ((C20.wr W41).wr W76).wr W109
  have C123 := (((p13.same W7).other W41 (Or.inr (sn86 hw))).other W76 (Or.inl q13)).other W109 (Or.inl q12)
  have C124 := ((C22.same W41).other W76 (Or.inl q13)).other W109 (Or.inl q12)
  have C125 := (((p15.other W7 (Or.inr (sn84 hw))).other W41 (Or.inr (sn87 hw))).other W76 (Or.inl q13)).other W109 (Or.inl q12)
  have C126 := (((p16.other W7 (Or.inr (sn85 hw))).other W41 (Or.inr (sn88 hw))).other W76 (Or.inl q13)).other W109 (Or.inl q12)
  have C132 := C99.wr W109
  have C133 := (((p23.other W7 (Or.inl q12.symm)).other W41 (Or.inl q12.symm)).other W76 (Or.inl q20)).other W109 (Or.inr (sn91 hw))
  have C134 := C101.same W109
  have C135 := (((p25.other W7 (Or.inl q12.symm)).other W41 (Or.inl q12.symm)).other W76 (Or.inl q20)).other W109 (Or.inr (sn92 hw))
  have C136 := (C68.wr W76).wr W109
  have C137 := (C69.same W76).other W109 (Or.inl q20.symm)
  have C138 := (((p28.other W7 (Or.inl q13.symm)).other W41 (Or.inl q13.symm)).other W76 (Or.inr (sn93 hw))).other W109 (Or.inl q20.symm)
  have C139 := (((p29.other W7 (Or.inl q13.symm)).other W41 (Or.inl q13.symm)).other W76 (Or.inr (sn94 hw))).other W109 (Or.inl q20.symm)
  have K141 := K108.wr W109 (Or.inl (List.mem_of_getElem? (i := 1) rfl))
  refine Goes.on (T' := T109) (g' := (mkF m 73 #[sR b_, sR r_, sR l1_] [])) (fun _ k => XS.astoreN X6.here hx rfl (dc d35_31) rfl rfl (l' := #[sR b_, sR r_, sR l1_]) rfl (XS.aloadN X6.here hx rfl (dc d35_32) rfl rfl (XS.aloadN X6.here hx rfl (dc d35_33) rfl rfl (st7 _ (XS.aloadN X7.here hx rfl (dc d35_37) rfl rfl (XS.aloadN X7.here hx rfl (dc d35_38) rfl rfl (st40 _ (st41 _ (XS.aloadN X41.here hx rfl (dc d35_45) rfl rfl (st74 _ (XT.ifnonnullYes X74.here hx rfl (pc0 := 49) (pc' := 60) rfl (dc d35_49) rfl (by decide) (by decide) (XS.aloadN X74.here hx rfl (dc d35_60) rfl rfl (st75 _ (XS.aloadN X75.here hx rfl (dc d35_64) rfl rfl (st76 _ (XS.aloadN X76.here hx rfl (dc d35_68) rfl rfl (XS.aloadN X76.here hx rfl (dc d35_69) rfl rfl (st109 _ k)))))))))))))))))) ?_
  exact Goes.retV X109 hx hlk hret (dc d35_73) (by decide) (by decide) (by rw [e109]; exact ⟨rfl, N109, K141, C122, C123, C124, C125, C126, C132, C133, C134, C135, C136, C137, C138, C139⟩)
theorem rmAdLG (l : Launch) (Z : State) (a0 : Array Value) (hw : TW Z a0) (b_ t_ A_ K_ m_ l0_ l1_ r_ o_ a_ : Addr) (z_ : Int32) (x_ k1_ : Int64) (h0 : Heap) (n0 : Nat) (Z0 : n0 ≤ h0.size) (p0 : Exa Z h0 b_ k0C) (p1 : Fld Z h0 b_ k0C "buying" "Z" (.int z_)) (p2 : Fld Z h0 b_ k0C "levelCount" "I" (.int (2 : Int32))) (p3 : Fld Z h0 b_ k0C "deep" k9C (.ref t_)) (p4 : Fld Z h0 b_ k0C "levels" k6C (.ref A_)) (p5 : Fld Z h0 b_ k0C "keys" "[J" (.ref K_)) (p6 : Fld Z h0 b_ k0C "markets" k5C (.ref m_)) (p7 : Fld Z h0 b_ k0C "emptyLevels" "I" (.int (0 : Int32))) (p8 : Exa Z h0 t_ k12C) (p9 : Fld Z h0 t_ k12C "size" "I" (.int (0 : Int32))) (p10 : Rbk Z h0 A_ k2C 64 (Upd (Upd (fun _ => Value.null) 0 (.ref l0_)) 1 (.ref l1_))) (p11 : Arf Z h0 K_ .long Value.long 64 (Upd (Upd (fun _ => (0 : Int64)) 0 (-9223372036854775808 : Int64)) 1 k1_)) (p12 : Exa Z h0 r_ k1C) (p13 : Fld Z h0 r_ k1C "level" k5C .null) (p14 : Fld Z h0 r_ k1C "ahead" k4C .null) (p15 : Fld Z h0 r_ k1C "behind" k4C .null) (p16 : Fld Z h0 r_ k1C "order" k7C (.ref o_)) (p17 : Exa Z h0 o_ k3C) (p18 : Fld Z h0 o_ k3C "limit" k8C (.ref a_)) (p19 : Exa Z h0 a_ k11C) (p20 : Fld Z h0 a_ k11C "isPresent" "Z" (.int (1 : Int32))) (p21 : Fld Z h0 a_ k11C "value" "J" (.long x_)) (p22 : Exa Z h0 l1_ k2C) (q0 : b_ ≠ r_) (q1 : b_ ≠ A_) (q2 : b_ ≠ K_) (q3 : t_ ≠ r_) (q4 : t_ ≠ b_) (q5 : t_ ≠ A_) (q6 : t_ ≠ K_) (q7 : A_ ≠ r_) (q8 : A_ ≠ K_) (q9 : K_ ≠ r_) (q10 : o_ ≠ r_) (q11 : o_ ≠ b_) (q12 : o_ ≠ A_) (q13 : o_ ≠ K_) (q14 : a_ ≠ r_) (q15 : a_ ≠ b_) (q16 : a_ ≠ A_) (q17 : a_ ≠ K_) (q18 : l1_ ≠ r_) (q19 : l1_ ≠ b_) (q20 : l1_ ≠ A_) (q21 : l1_ ≠ K_) (g0 : n0 ≤ r_) (g1 : n0 ≤ b_) (g2 : n0 ≤ A_) (g3 : n0 ≤ K_) (h1 : ¬ (own_key z_ x_) < k1_) (hq : ¬ k1_ = (own_key z_ x_)) :
    Pays l Z (⟨"com/example/uncross/uncross/engine/BookSide", "add", "(Lcom/example/uncross/uncross/engine/BookSide$Resting;)V"⟩ : MethodName) prog_15_method_7_code 3 none [] ({ frames := 3, cells := 1, slots := 4, locals := 60 } : Room) #[(.ref b_), (.ref r_)] h0 (fun v h L => ∃ (n0_ : Addr), v = none ∧ Fr n0 L ∧ Keep h0 h [r_, b_, A_, K_] ∧ Exa Z h b_ k0C ∧ Exa Z h r_ k1C ∧ Fld Z h r_ k1C "level" k5C (.ref n0_) ∧ Fld Z h r_ k1C "ahead" k4C .null ∧ Fld Z h r_ k1C "behind" k4C .null ∧ Fld Z h r_ k1C "order" k7C (.ref o_) ∧ Fld Z h b_ k0C "buying" "Z" (.int z_) ∧ Fld Z h b_ k0C "levelCount" "I" (.int (3 : Int32)) ∧ Fld Z h b_ k0C "deep" k9C (.ref t_) ∧ Fld Z h b_ k0C "levels" k6C (.ref A_) ∧ Fld Z h b_ k0C "keys" "[J" (.ref K_) ∧ Fld Z h b_ k0C "markets" k5C (.ref m_) ∧ Fld Z h b_ k0C "emptyLevels" "I" (.int (0 : Int32)) ∧ Rbk Z h A_ k2C 64 (Upd (Upd (Upd (fun _ => Value.null) 0 (.ref l0_)) 1 (.ref l1_)) 2 (.ref n0_)) ∧ Exa Z h n0_ k2C ∧ Fld Z h n0_ k2C "first" k4C (.ref r_) ∧ Fld Z h n0_ k2C "last" k4C (.ref r_) ∧ Fld Z h n0_ k2C "deep" "Z" (.int (0 : Int32)) ∧ Fld Z h n0_ k2C "key" "J" (.long (own_key z_ x_)) ∧ h0.size ≤ n0_) := by
  refine Pays.walk (plainFor_of_name pn_13) (fun m => ef_15 m b_ r_ ) ?_
  intro p e s m below meth c T0 X0 hx hby hml hown hnm hZ e0 hret hlk
  have dc := @Jvm.hb _ _ hby
  have ow := @own_w Z a0 hw
  have K0 := Keep.refl h0 ([r_, b_, A_, K_] : List Addr)
  obtain ⟨T1, X1, e1, st1⟩ := getF X0 hx hZ hown (host := "") (Or.inl (ow 235 rfl)) Via.refl e0 p16 (g := (mkF m 1 #[sR b_, sR r_, su] [(.ref r_)])) rfl rfl (dc d35_1)
  refine Goes.on (T' := T1) (g' := (mkF m 4 #[sR b_, sR r_, su] [(.ref o_)])) (fun _ k => XS.aloadN X0.here hx rfl (dc d35_0) rfl rfl (st1 _ k)) ?_
  refine Goes.callV X1 hx hZ 0 hown (ow 236 rfl) (ow 237 rfl) (notFace_of_selects (args := #[]) (mvT hZ (ow 239 rfl))) (ow 239 rfl) (ow 238 rfl) (ow 25 rfl) (ow 240 rfl) (by decide) e1 p17 (rmMk1 l Z a0 hw o_ a_ h0 n0 Z0  p17 p18 p19 p20 ) (by decide) (by decide) (by decide) (by decide) rfl (by rw [hml]; rfl) (argsL := []) (rest := []) rfl (lenOf pd_3 rfl) rfl (own_le20 rfl) (dc d35_4) ?_
  rintro v2 T2 L2 X2 ⟨rfl, N2q, e2⟩
  show Goes p e below _ T2 (mkF m 7 #[sR b_, sR r_, su] [(.int 0)])
  obtain ⟨T3, X3, e3, st3⟩ := getF X2 hx hZ hown (host := "") (Or.inl (ow 235 rfl)) Via.refl e2 p16 (g := (mkF m 19 #[sR b_, sR r_, su] [(.ref r_), (.ref b_)])) rfl rfl (dc d35_19)
  refine Goes.on (T' := T3) (g' := (mkF m 22 #[sR b_, sR r_, su] [(.ref o_), (.ref b_)])) (fun _ k => XS.ifYes X2.here hx rfl (pc0 := 7) (pc' := 17) rfl (dc d35_7) rfl (XT.i0_eq_t (by decide)) (by decide) (by decide) (XS.aloadN X2.here hx rfl (dc d35_17) rfl rfl (XS.aloadN X2.here hx rfl (dc d35_18) rfl rfl (st3 _ k)))) ?_
  refine Goes.callV X3 hx hZ 1 hown (ow 252 rfl) (ow 253 rfl) (notFace_of_selects (args := #[]) (mvT hZ (ow 255 rfl))) (ow 255 rfl) (ow 254 rfl) (ow 25 rfl) (ow 256 rfl) (by decide) e3 p17 (rmLi l Z a0 hw o_ a_ h0 n0 Z0  p17 p18 ) (by decide) (by decide) (by decide) (by decide) rfl (by rw [hml]; rfl) (argsL := []) (rest := [(.ref b_)]) rfl (lenOf pd_21 rfl) rfl (own_le20 rfl) (dc d35_22) ?_
  rintro v4 T4 L4 X4 ⟨rfl, N4q, e4⟩
  show Goes p e below _ T4 (mkF m 25 #[sR b_, sR r_, su] [(.ref a_), (.ref b_)])
  refine Goes.callV X4 hx hZ 1 hown (ow 257 rfl) (ow 154 rfl) (notFace_of_selects (args := #[]) (mvT hZ (ow 156 rfl))) (ow 156 rfl) (ow 155 rfl) (ow 17 rfl) (ow 157 rfl) (by decide) e4 p19 (rmGa l Z a0 hw a_ x_ h0 n0 Z0  p19 p20 p21 ) (by decide) (by decide) (by decide) (by decide) rfl (by rw [hml]; rfl) (argsL := []) (rest := [(.ref b_)]) rfl (lenOf pd_14 rfl) rfl (own_le20 rfl) (dc d35_25) ?_
  rintro v5 T5 L5 X5 ⟨rfl, N5q, e5⟩
  show Goes p e below _ T5 (mkF m 28 #[sR b_, sR r_, su] [(.long x_), (.ref b_)])
  refine Goes.callP X5 hx hZ 0 hown (ow 258 rfl) (ow 259 rfl) (ow 260 rfl) (ow 171 rfl) (ow 172 rfl) (ow 261 rfl) (by decide) e5 p0 (rmLfG l Z a0 hw b_ t_ A_ K_ m_ l0_ l1_ z_ x_ k1_ h0 n0 Z0  p0 p1 p2 p3 p4 p5 p6 p7 p8 p9 p10 p11 p22 q1 q2 q8 q4 q5 q6 g1 g2 g3 h1 hq) (by decide) (by decide) (by decide) (by decide) rfl (by rw [hml]; rfl) (argsL := [(.long x_)]) (rest := []) rfl (lenOf pd_22 rfl) rfl (own_le20 rfl) (dc d35_28) ?_
  rintro v6 T6 L6 X6 ⟨ya6, rfl, N6q, K6, P6_0, P6_1, P6_2, P6_3, P6_4, P6_5, P6_6, P6_7, P6_8, P6_9, P6_10, P6_11, P6_12, P6_13, M6_0⟩
  show Goes p e below _ T6 (mkF m 31 #[sR b_, sR r_, su] [(.ref ya6)])
  have ne7 := own_neL p0.lt M6_0
  have ne9 := own_neL p10.lt M6_0
  have ne11 := own_neL p12.lt M6_0
  have G15 : n0 ≤ ya6 := Nat.le_trans Z0 M6_0
  have M16 : h0.size ≤ ya6 := Nat.le_trans K0.1 M6_0
  have C21 := p12.keep K6
  have ni23 := (ninS q0.symm (ninS q7.symm (ninS q9.symm nin0)))
  have C22 := p13.keep K6 ni23
  have K36 := K0.trans K6 (allS (Or.inl (List.mem_of_getElem? (i := 1) rfl)) (allS (Or.inl (List.mem_of_getElem? (i := 2) rfl)) (allS (Or.inl (List.mem_of_getElem? (i := 3) rfl)) all0)))
  obtain ⟨T37, h37, X37, e37, W37, st37⟩ := putFR X6 hx hZ hown (ow 246 rfl) rfl C22 C21 (ow 247 rfl) (ow 21 rfl) (ty := (.object "com/example/uncross/uncross/engine/BookSide$Level")) (by decide) rfl rfl (g := (mkF m 34 #[sR b_, sR r_, sR ya6] [(.ref ya6), (.ref r_)])) rfl rfl (dc d35_34)
  have C41 := C21.wr W37
  have C43 := (p14.keep K6 ni23).other W37 (Or.inr (sn83 hw))
  have C62 := P6_11.other W37 (Or.inl ne11.symm)
  have K66 := K36.wr W37 (Or.inl (List.mem_of_getElem? (i := 0) rfl))
  obtain ⟨T67, X67, e67, st67⟩ := getF X37 hx hZ hown (host := "") (Or.inl (ow 248 rfl)) Via.refl e37 C62 (g := (mkF m 39 #[sR b_, sR r_, sR ya6] [(.ref ya6), (.ref r_)])) rfl rfl (dc d35_39)
  obtain ⟨T68, h68, X68, e68, W68, st68⟩ := putFR X67 hx hZ hown (ow 250 rfl) e67 C43 C41 (ow 251 rfl) (ow 21 rfl) (ty := (.object "com/example/uncross/uncross/engine/BookSide$Resting")) (by decide) rfl rfl (g := (mkF m 42 #[sR b_, sR r_, sR ya6] [.null, (.ref r_)])) rfl rfl (dc d35_42)
  have C91 := (P6_9.wr W37).wr W68
  have C92 := (P6_10.other W37 (Or.inl ne11.symm)).other W68 (Or.inl ne11.symm)
  have C93 := C62.other W68 (Or.inl ne11.symm)
  have K97 := K66.wr W68 (Or.inl (List.mem_of_getElem? (i := 0) rfl))
  obtain ⟨T98, X98, e98, st98⟩ := getF X68 hx hZ hown (host := "") (Or.inl (ow 248 rfl)) Via.refl e68 C93 (g := (mkF m 46 #[sR b_, sR r_, sR ya6] [(.ref ya6)])) rfl rfl (dc d35_46)
  obtain ⟨T99, h99, X99, e99, W99, st99⟩ := putF X98 hx hZ hown (host := "") (Or.inl (ow 228 rfl)) Via.refl e98 C92 C91 (Or.inl (ow 229 rfl)) (ow 178 rfl) (ty := (.object "com/example/uncross/uncross/engine/BookSide$Resting")) (by decide) rfl rfl (g := (mkF m 54 #[sR b_, sR r_, sR ya6] [(.ref r_), (.ref ya6)])) rfl rfl (dc d35_54)
  have C122 := C91.wr W99
  have C124 := C93.other W99 (Or.inr (sn89 hw))
  have K128 := K97.wr W99 (Or.inr M16)
  obtain ⟨T129, h129, X129, e129, W129, st129⟩ := putF X99 hx hZ hown (host := "") (Or.inl (ow 248 rfl)) Via.refl e99 C124 C122 (Or.inl (ow 249 rfl)) (ow 178 rfl) (ty := (.object "com/example/uncross/uncross/engine/BookSide$Resting")) (by decide) rfl rfl (g := (mkF m 70 #[sR b_, sR r_, sR ya6] [(.ref r_), (.ref ya6)])) rfl rfl (dc d35_70)
  have N129 := Fr.snoc X129 (Fr.snoc X99 (Fr.snoc X68 (Fr.snoc X37 (Fr.app (Fr.app (Fr.app (Fr.app (Fr.nil n0) N2q) N4q) N5q) N6q) g0) g0) G15) G15
  have C130 := (((P6_0.wr W37).wr W68).wr W99).wr W129
  have C133 := ((C41.wr W68).wr W99).wr W129
  have C134 := (((C22.same W37).other W68 (Or.inr (sn86 hw))).other W99 (Or.inl ne11)).other W129 (Or.inl ne11)
  have C135 := ((C43.same W68).other W99 (Or.inl ne11)).other W129 (Or.inl ne11)
  have C136 := ((((p15.keep K6 ni23).other W37 (Or.inr (sn84 hw))).other W68 (Or.inr (sn87 hw))).other W99 (Or.inl ne11)).other W129 (Or.inl ne11)
  have C137 := ((((p16.keep K6 ni23).other W37 (Or.inr (sn85 hw))).other W68 (Or.inr (sn88 hw))).other W99 (Or.inl ne11)).other W129 (Or.inl ne11)
  have C144 := (((P6_1.other W37 (Or.inl q0)).other W68 (Or.inl q0)).other W99 (Or.inl ne7)).other W129 (Or.inl ne7)
  have C145 := (((P6_2.other W37 (Or.inl q0)).other W68 (Or.inl q0)).other W99 (Or.inl ne7)).other W129 (Or.inl ne7)
  have C146 := (((P6_3.other W37 (Or.inl q0)).other W68 (Or.inl q0)).other W99 (Or.inl ne7)).other W129 (Or.inl ne7)
  have C147 := (((P6_4.other W37 (Or.inl q0)).other W68 (Or.inl q0)).other W99 (Or.inl ne7)).other W129 (Or.inl ne7)
  have C148 := (((P6_5.other W37 (Or.inl q0)).other W68 (Or.inl q0)).other W99 (Or.inl ne7)).other W129 (Or.inl ne7)
  have C149 := (((P6_6.other W37 (Or.inl q0)).other W68 (Or.inl q0)).other W99 (Or.inl ne7)).other W129 (Or.inl ne7)
  have C150 := (((P6_7.other W37 (Or.inl q0)).other W68 (Or.inl q0)).other W99 (Or.inl ne7)).other W129 (Or.inl ne7)
  have C151 := (((P6_8.other W37 q7).other W68 q7).other W99 ne9).other W129 ne9
  have C152 := C122.wr W129
  have C153 := (C92.same W99).other W129 (Or.inr (sn91 hw))
  have C154 := C124.same W129
  have C155 := (((P6_12.other W37 (Or.inl ne11.symm)).other W68 (Or.inl ne11.symm)).other W99 (Or.inr (sn90 hw))).other W129 (Or.inr (sn92 hw))
  have C156 := (((P6_13.other W37 (Or.inl ne11.symm)).other W68 (Or.inl ne11.symm)).other W99 (Or.inr (sn95 hw))).other W129 (Or.inr (sn96 hw))
  have K158 := K128.wr W129 (Or.inr M16)
  refine Goes.on (T' := T129) (g' := (mkF m 73 #[sR b_, sR r_, sR ya6] [])) (fun _ k => XS.astoreN X6.here hx rfl (dc d35_31) rfl rfl (l' := #[sR b_, sR r_, sR ya6]) rfl (XS.aloadN X6.here hx rfl (dc d35_32) rfl rfl (XS.aloadN X6.here hx rfl (dc d35_33) rfl rfl (st37 _ (XS.aloadN X37.here hx rfl (dc d35_37) rfl rfl (XS.aloadN X37.here hx rfl (dc d35_38) rfl rfl (st67 _ (st68 _ (XS.aloadN X68.here hx rfl (dc d35_45) rfl rfl (st98 _ (XT.ifnonnullNo X98.here hx rfl (dc d35_49) rfl (XS.aloadN X98.here hx rfl (dc d35_52) rfl rfl (XS.aloadN X98.here hx rfl (dc d35_53) rfl rfl (st99 _ (XS.goto X99.here hx rfl (pc0 := 57) (pc' := 68) rfl (dc d35_57) (by decide) (by decide) (XS.aloadN X99.here hx rfl (dc d35_68) rfl rfl (XS.aloadN X99.here hx rfl (dc d35_69) rfl rfl (st129 _ k)))))))))))))))))) ?_
  exact Goes.retV X129 hx hlk hret (dc d35_73) (by decide) (by decide) (by rw [e129]; exact ⟨ya6, rfl, N129, K158, C130, C133, C134, C135, C136, C137, C144, C145, C146, C147, C148, C149, C150, C151, C152, C153, C154, C155, C156, M16⟩)
theorem rmAdLL (l : Launch) (Z : State) (a0 : Array Value) (hw : TW Z a0) (b_ t_ A_ K_ m_ l0_ l1_ r_ o_ a_ : Addr) (z_ : Int32) (x_ k1_ : Int64) (h0 : Heap) (n0 : Nat) (Z0 : n0 ≤ h0.size) (p0 : Exa Z h0 b_ k0C) (p1 : Fld Z h0 b_ k0C "buying" "Z" (.int z_)) (p2 : Fld Z h0 b_ k0C "levelCount" "I" (.int (2 : Int32))) (p3 : Fld Z h0 b_ k0C "deep" k9C (.ref t_)) (p4 : Fld Z h0 b_ k0C "levels" k6C (.ref A_)) (p5 : Fld Z h0 b_ k0C "keys" "[J" (.ref K_)) (p6 : Fld Z h0 b_ k0C "markets" k5C (.ref m_)) (p7 : Fld Z h0 b_ k0C "emptyLevels" "I" (.int (0 : Int32))) (p8 : Exa Z h0 t_ k12C) (p9 : Fld Z h0 t_ k12C "size" "I" (.int (0 : Int32))) (p10 : Rbk Z h0 A_ k2C 64 (Upd (Upd (fun _ => Value.null) 0 (.ref l0_)) 1 (.ref l1_))) (p11 : Arf Z h0 K_ .long Value.long 64 (Upd (Upd (fun _ => (0 : Int64)) 0 (-9223372036854775808 : Int64)) 1 k1_)) (p12 : Exa Z h0 r_ k1C) (p13 : Fld Z h0 r_ k1C "level" k5C .null) (p14 : Fld Z h0 r_ k1C "ahead" k4C .null) (p15 : Fld Z h0 r_ k1C "behind" k4C .null) (p16 : Fld Z h0 r_ k1C "order" k7C (.ref o_)) (p17 : Exa Z h0 o_ k3C) (p18 : Fld Z h0 o_ k3C "limit" k8C (.ref a_)) (p19 : Exa Z h0 a_ k11C) (p20 : Fld Z h0 a_ k11C "isPresent" "Z" (.int (1 : Int32))) (p21 : Fld Z h0 a_ k11C "value" "J" (.long x_)) (p22 : Exa Z h0 l1_ k2C) (q0 : b_ ≠ r_) (q1 : b_ ≠ A_) (q2 : b_ ≠ K_) (q3 : t_ ≠ r_) (q4 : t_ ≠ b_) (q5 : t_ ≠ A_) (q6 : t_ ≠ K_) (q7 : A_ ≠ r_) (q8 : A_ ≠ K_) (q9 : K_ ≠ r_) (q10 : o_ ≠ r_) (q11 : o_ ≠ b_) (q12 : o_ ≠ A_) (q13 : o_ ≠ K_) (q14 : a_ ≠ r_) (q15 : a_ ≠ b_) (q16 : a_ ≠ A_) (q17 : a_ ≠ K_) (q18 : l1_ ≠ r_) (q19 : l1_ ≠ b_) (q20 : l1_ ≠ A_) (q21 : l1_ ≠ K_) (g0 : n0 ≤ r_) (g1 : n0 ≤ b_) (g2 : n0 ≤ A_) (g3 : n0 ≤ K_) (h1 : (own_key z_ x_) < k1_) (hm : ¬ (-9223372036854775808 : Int64) = (own_key z_ x_)) :
    Pays l Z (⟨"com/example/uncross/uncross/engine/BookSide", "add", "(Lcom/example/uncross/uncross/engine/BookSide$Resting;)V"⟩ : MethodName) prog_15_method_7_code 3 none [] ({ frames := 3, cells := 1, slots := 4, locals := 60 } : Room) #[(.ref b_), (.ref r_)] h0 (fun v h L => ∃ (n0_ : Addr), v = none ∧ Fr n0 L ∧ Keep h0 h [r_, b_, A_, K_] ∧ Exa Z h b_ k0C ∧ Exa Z h r_ k1C ∧ Fld Z h r_ k1C "level" k5C (.ref n0_) ∧ Fld Z h r_ k1C "ahead" k4C .null ∧ Fld Z h r_ k1C "behind" k4C .null ∧ Fld Z h r_ k1C "order" k7C (.ref o_) ∧ Fld Z h b_ k0C "buying" "Z" (.int z_) ∧ Fld Z h b_ k0C "levelCount" "I" (.int (3 : Int32)) ∧ Fld Z h b_ k0C "deep" k9C (.ref t_) ∧ Fld Z h b_ k0C "levels" k6C (.ref A_) ∧ Fld Z h b_ k0C "keys" "[J" (.ref K_) ∧ Fld Z h b_ k0C "markets" k5C (.ref m_) ∧ Fld Z h b_ k0C "emptyLevels" "I" (.int (0 : Int32)) ∧ Rbk Z h A_ k2C 64 (Upd (Upd (Upd (fun _ => Value.null) 0 (.ref l0_)) 1 (.ref n0_)) 2 (.ref l1_)) ∧ Exa Z h n0_ k2C ∧ Fld Z h n0_ k2C "first" k4C (.ref r_) ∧ Fld Z h n0_ k2C "last" k4C (.ref r_) ∧ Fld Z h n0_ k2C "deep" "Z" (.int (0 : Int32)) ∧ Fld Z h n0_ k2C "key" "J" (.long (own_key z_ x_)) ∧ h0.size ≤ n0_) := by
  refine Pays.walk (plainFor_of_name pn_13) (fun m => ef_15 m b_ r_ ) ?_
  intro p e s m below meth c T0 X0 hx hby hml hown hnm hZ e0 hret hlk
  have dc := @Jvm.hb _ _ hby
  have ow := @own_w Z a0 hw
  have K0 := Keep.refl h0 ([r_, b_, A_, K_] : List Addr)
  obtain ⟨T1, X1, e1, st1⟩ := getF X0 hx hZ hown (host := "") (Or.inl (ow 235 rfl)) Via.refl e0 p16 (g := (mkF m 1 #[sR b_, sR r_, su] [(.ref r_)])) rfl rfl (dc d35_1)
  refine Goes.on (T' := T1) (g' := (mkF m 4 #[sR b_, sR r_, su] [(.ref o_)])) (fun _ k => XS.aloadN X0.here hx rfl (dc d35_0) rfl rfl (st1 _ k)) ?_
  refine Goes.callV X1 hx hZ 0 hown (ow 236 rfl) (ow 237 rfl) (notFace_of_selects (args := #[]) (mvT hZ (ow 239 rfl))) (ow 239 rfl) (ow 238 rfl) (ow 25 rfl) (ow 240 rfl) (by decide) e1 p17 (rmMk1 l Z a0 hw o_ a_ h0 n0 Z0  p17 p18 p19 p20 ) (by decide) (by decide) (by decide) (by decide) rfl (by rw [hml]; rfl) (argsL := []) (rest := []) rfl (lenOf pd_3 rfl) rfl (own_le20 rfl) (dc d35_4) ?_
  rintro v2 T2 L2 X2 ⟨rfl, N2q, e2⟩
  show Goes p e below _ T2 (mkF m 7 #[sR b_, sR r_, su] [(.int 0)])
  obtain ⟨T3, X3, e3, st3⟩ := getF X2 hx hZ hown (host := "") (Or.inl (ow 235 rfl)) Via.refl e2 p16 (g := (mkF m 19 #[sR b_, sR r_, su] [(.ref r_), (.ref b_)])) rfl rfl (dc d35_19)
  refine Goes.on (T' := T3) (g' := (mkF m 22 #[sR b_, sR r_, su] [(.ref o_), (.ref b_)])) (fun _ k => XS.ifYes X2.here hx rfl (pc0 := 7) (pc' := 17) rfl (dc d35_7) rfl (XT.i0_eq_t (by decide)) (by decide) (by decide) (XS.aloadN X2.here hx rfl (dc d35_17) rfl rfl (XS.aloadN X2.here hx rfl (dc d35_18) rfl rfl (st3 _ k)))) ?_
  refine Goes.callV X3 hx hZ 1 hown (ow 252 rfl) (ow 253 rfl) (notFace_of_selects (args := #[]) (mvT hZ (ow 255 rfl))) (ow 255 rfl) (ow 254 rfl) (ow 25 rfl) (ow 256 rfl) (by decide) e3 p17 (rmLi l Z a0 hw o_ a_ h0 n0 Z0  p17 p18 ) (by decide) (by decide) (by decide) (by decide) rfl (by rw [hml]; rfl) (argsL := []) (rest := [(.ref b_)]) rfl (lenOf pd_21 rfl) rfl (own_le20 rfl) (dc d35_22) ?_
  rintro v4 T4 L4 X4 ⟨rfl, N4q, e4⟩
  show Goes p e below _ T4 (mkF m 25 #[sR b_, sR r_, su] [(.ref a_), (.ref b_)])
  refine Goes.callV X4 hx hZ 1 hown (ow 257 rfl) (ow 154 rfl) (notFace_of_selects (args := #[]) (mvT hZ (ow 156 rfl))) (ow 156 rfl) (ow 155 rfl) (ow 17 rfl) (ow 157 rfl) (by decide) e4 p19 (rmGa l Z a0 hw a_ x_ h0 n0 Z0  p19 p20 p21 ) (by decide) (by decide) (by decide) (by decide) rfl (by rw [hml]; rfl) (argsL := []) (rest := [(.ref b_)]) rfl (lenOf pd_14 rfl) rfl (own_le20 rfl) (dc d35_25) ?_
  rintro v5 T5 L5 X5 ⟨rfl, N5q, e5⟩
  show Goes p e below _ T5 (mkF m 28 #[sR b_, sR r_, su] [(.long x_), (.ref b_)])
  refine Goes.callP X5 hx hZ 0 hown (ow 258 rfl) (ow 259 rfl) (ow 260 rfl) (ow 171 rfl) (ow 172 rfl) (ow 261 rfl) (by decide) e5 p0 (rmLfL l Z a0 hw b_ t_ A_ K_ m_ l0_ l1_ z_ x_ k1_ h0 n0 Z0  p0 p1 p2 p3 p4 p5 p6 p7 p8 p9 p10 p11 p22 q1 q2 q8 q4 q5 q6 g1 g2 g3 h1 hm) (by decide) (by decide) (by decide) (by decide) rfl (by rw [hml]; rfl) (argsL := [(.long x_)]) (rest := []) rfl (lenOf pd_22 rfl) rfl (own_le20 rfl) (dc d35_28) ?_
  rintro v6 T6 L6 X6 ⟨ya6, rfl, N6q, K6, P6_0, P6_1, P6_2, P6_3, P6_4, P6_5, P6_6, P6_7, P6_8, P6_9, P6_10, P6_11, P6_12, P6_13, M6_0⟩
  show Goes p e below _ T6 (mkF m 31 #[sR b_, sR r_, su] [(.ref ya6)])
  have ne7 := own_neL p0.lt M6_0
  have ne9 := own_neL p10.lt M6_0
  have ne11 := own_neL p12.lt M6_0
  have G15 : n0 ≤ ya6 := Nat.le_trans Z0 M6_0
  have M16 : h0.size ≤ ya6 := Nat.le_trans K0.1 M6_0
  have C21 := p12.keep K6
  have ni23 := (ninS q0.symm (ninS q7.symm (ninS q9.symm nin0)))
  have C22 := p13.keep K6 ni23
  have K36 := K0.trans K6 (allS (Or.inl (List.mem_of_getElem? (i := 1) rfl)) (allS (Or.inl (List.mem_of_getElem? (i := 2) rfl)) (allS (Or.inl (List.mem_of_getElem? (i := 3) rfl)) all0)))
  obtain ⟨T37, h37, X37, e37, W37, st37⟩ := putFR X6 hx hZ hown (ow 246 rfl) rfl C22 C21 (ow 247 rfl) (ow 21 rfl) (ty := (.object "com/example/uncross/uncross/engine/BookSide$Level")) (by decide) rfl rfl (g := (mkF m 34 #[sR b_, sR r_, sR ya6] [(.ref ya6), (.ref r_)])) rfl rfl (dc d35_34)
  have C41 := C21.wr W37
  have C43 := (p14.keep K6 ni23).other W37 (Or.inr (sn83 hw))
  have C62 := P6_11.other W37 (Or.inl ne11.symm)
  have K66 := K36.wr W37 (Or.inl (List.mem_of_getElem? (i := 0) rfl))
  obtain ⟨T67, X67, e67, st67⟩ := getF X37 hx hZ hown (host := "") (Or.inl (ow 248 rfl)) Via.refl e37 C62 (g := (mkF m 39 #[sR b_, sR r_, sR ya6] [(.ref ya6), (.ref r_)])) rfl rfl (dc d35_39)
  obtain ⟨T68, h68, X68, e68, W68, st68⟩ := putFR X67 hx hZ hown (ow 250 rfl) e67 C43 C41 (ow 251 rfl) (ow 21 rfl) (ty := (.object "com/example/uncross/uncross/engine/BookSide$Resting")) (by decide) rfl rfl (g := (mkF m 42 #[sR b_, sR r_, sR ya6] [.null, (.ref r_)])) rfl rfl (dc d35_42)
  have C91 := (P6_9.wr W37).wr W68
  have C92 := (P6_10.other W37 (Or.inl ne11.symm)).other W68 (Or.inl ne11.symm)
  have C93 := C62.other W68 (Or.inl ne11.symm)
  have K97 := K66.wr W68 (Or.inl (List.mem_of_getElem? (i := 0) rfl))
  obtain ⟨T98, X98, e98, st98⟩ := getF X68 hx hZ hown (host := "") (Or.inl (ow 248 rfl)) Via.refl e68 C93 (g := (mkF m 46 #[sR b_, sR r_, sR ya6] [(.ref ya6)])) rfl rfl (dc d35_46)
  obtain ⟨T99, h99, X99, e99, W99, st99⟩ := putF X98 hx hZ hown (host := "") (Or.inl (ow 228 rfl)) Via.refl e98 C92 C91 (Or.inl (ow 229 rfl)) (ow 178 rfl) (ty := (.object "com/example/uncross/uncross/engine/BookSide$Resting")) (by decide) rfl rfl (g := (mkF m 54 #[sR b_, sR r_, sR ya6] [(.ref r_), (.ref ya6)])) rfl rfl (dc d35_54)
  have C122 := C91.wr W99
  have C124 := C93.other W99 (Or.inr (sn89 hw))
  have K128 := K97.wr W99 (Or.inr M16)
  obtain ⟨T129, h129, X129, e129, W129, st129⟩ := putF X99 hx hZ hown (host := "") (Or.inl (ow 248 rfl)) Via.refl e99 C124 C122 (Or.inl (ow 249 rfl)) (ow 178 rfl) (ty := (.object "com/example/uncross/uncross/engine/BookSide$Resting")) (by decide) rfl rfl (g := (mkF m 70 #[sR b_, sR r_, sR ya6] [(.ref r_), (.ref ya6)])) rfl rfl (dc d35_70)
  have N129 := Fr.snoc X129 (Fr.snoc X99 (Fr.snoc X68 (Fr.snoc X37 (Fr.app (Fr.app (Fr.app (Fr.app (Fr.nil n0) N2q) N4q) N5q) N6q) g0) g0) G15) G15
  have C130 := (((P6_0.wr W37).wr W68).wr W99).wr W129
  have C133 := ((C41.wr W68).wr W99).wr W129
  have C134 := (((C22.same W37).other W68 (Or.inr (sn86 hw))).other W99 (Or.inl ne11)).other W129 (Or.inl ne11)
  have C135 := ((C43.same W68).other W99 (Or.inl ne11)).other W129 (Or.inl ne11)
  have C136 := ((((p15.keep K6 ni23).other W37 (Or.inr (sn84 hw))).other W68 (Or.inr (sn87 hw))).other W99 (Or.inl ne11)).other W129 (Or.inl ne11)
  have C137 := ((((p16.keep K6 ni23).other W37 (Or.inr (sn85 hw))).other W68 (Or.inr (sn88 hw))).other W99 (Or.inl ne11)).other W129 (Or.inl ne11)
  have C144 := (((P6_1.other W37 (Or.inl q0)).other W68 (Or.inl q0)).other W99 (Or.inl ne7)).other W129 (Or.inl ne7)
  have C145 := (((P6_2.other W37 (Or.inl q0)).other W68 (Or.inl q0)).other W99 (Or.inl ne7)).other W129 (Or.inl ne7)
  have C146 := (((P6_3.other W37 (Or.inl q0)).other W68 (Or.inl q0)).other W99 (Or.inl ne7)).other W129 (Or.inl ne7)
  have C147 := (((P6_4.other W37 (Or.inl q0)).other W68 (Or.inl q0)).other W99 (Or.inl ne7)).other W129 (Or.inl ne7)
  have C148 := (((P6_5.other W37 (Or.inl q0)).other W68 (Or.inl q0)).other W99 (Or.inl ne7)).other W129 (Or.inl ne7)
  have C149 := (((P6_6.other W37 (Or.inl q0)).other W68 (Or.inl q0)).other W99 (Or.inl ne7)).other W129 (Or.inl ne7)
  have C150 := (((P6_7.other W37 (Or.inl q0)).other W68 (Or.inl q0)).other W99 (Or.inl ne7)).other W129 (Or.inl ne7)
  have C151 := (((P6_8.other W37 q7).other W68 q7).other W99 ne9).other W129 ne9
  have C152 := C122.wr W129
  have C153 := (C92.same W99).other W129 (Or.inr (sn91 hw))
  have C154 := C124.same W129
  have C155 := (((P6_12.other W37 (Or.inl ne11.symm)).other W68 (Or.inl ne11.symm)).other W99 (Or.inr (sn90 hw))).other W129 (Or.inr (sn92 hw))
  have C156 := (((P6_13.other W37 (Or.inl ne11.symm)).other W68 (Or.inl ne11.symm)).other W99 (Or.inr (sn95 hw))).other W129 (Or.inr (sn96 hw))
  have K158 := K128.wr W129 (Or.inr M16)
  refine Goes.on (T' := T129) (g' := (mkF m 73 #[sR b_, sR r_, sR ya6] [])) (fun _ k => XS.astoreN X6.here hx rfl (dc d35_31) rfl rfl (l' := #[sR b_, sR r_, sR ya6]) rfl (XS.aloadN X6.here hx rfl (dc d35_32) rfl rfl (XS.aloadN X6.here hx rfl (dc d35_33) rfl rfl (st37 _ (XS.aloadN X37.here hx rfl (dc d35_37) rfl rfl (XS.aloadN X37.here hx rfl (dc d35_38) rfl rfl (st67 _ (st68 _ (XS.aloadN X68.here hx rfl (dc d35_45) rfl rfl (st98 _ (XT.ifnonnullNo X98.here hx rfl (dc d35_49) rfl (XS.aloadN X98.here hx rfl (dc d35_52) rfl rfl (XS.aloadN X98.here hx rfl (dc d35_53) rfl rfl (st99 _ (XS.goto X99.here hx rfl (pc0 := 57) (pc' := 68) rfl (dc d35_57) (by decide) (by decide) (XS.aloadN X99.here hx rfl (dc d35_68) rfl rfl (XS.aloadN X99.here hx rfl (dc d35_69) rfl rfl (st129 _ k)))))))))))))))))) ?_
  exact Goes.retV X129 hx hlk hret (dc d35_73) (by decide) (by decide) (by rw [e129]; exact ⟨ya6, rfl, N129, K158, C130, C133, C134, C135, C136, C137, C144, C145, C146, C147, C148, C149, C150, C151, C152, C153, C154, C155, C156, M16⟩)
abbrev c44C := prog_15_method_8_code
theorem d44_0 : decode c44C 0 = .ok (.aload_n 1, 1) := by decide +kernel
theorem d44_1 : decode c44C 1 = .ok (.getfield 60, 3) := by decide +kernel
theorem d44_4 : decode c44C 4 = .ok (.astore_n 2, 1) := by decide +kernel
theorem d44_5 : decode c44C 5 = .ok (.aload_n 1, 1) := by decide +kernel
theorem d44_6 : decode c44C 6 = .ok (.getfield 130, 3) := by decide +kernel
theorem d44_9 : decode c44C 9 = .ok (.ifnonnull 14, 3) := by decide +kernel
theorem d44_12 : decode c44C 12 = .ok (.aload_n 2, 1) := by decide +kernel
theorem d44_13 : decode c44C 13 = .ok (.aload_n 1, 1) := by decide +kernel
theorem d44_14 : decode c44C 14 = .ok (.getfield 55, 3) := by decide +kernel
theorem d44_17 : decode c44C 17 = .ok (.putfield 51, 3) := by decide +kernel
theorem d44_20 : decode c44C 20 = .ok (.goto 14, 3) := by decide +kernel
theorem d44_34 : decode c44C 34 = .ok (.aload_n 1, 1) := by decide +kernel
theorem d44_35 : decode c44C 35 = .ok (.getfield 55, 3) := by decide +kernel
theorem d44_38 : decode c44C 38 = .ok (.ifnonnull 14, 3) := by decide +kernel
theorem d44_52 : decode c44C 52 = .ok (.aload_n 1, 1) := by decide +kernel
theorem d44_53 : decode c44C 53 = .ok (.getfield 55, 3) := by decide +kernel
theorem d44_56 : decode c44C 56 = .ok (.aload_n 1, 1) := by decide +kernel
theorem d44_57 : decode c44C 57 = .ok (.getfield 130, 3) := by decide +kernel
theorem d44_60 : decode c44C 60 = .ok (.putfield 130, 3) := by decide +kernel
theorem d44_63 : decode c44C 63 = .ok (.aload_n 1, 1) := by decide +kernel
theorem d44_64 : decode c44C 64 = .ok (.aconst_null, 1) := by decide +kernel
theorem d44_65 : decode c44C 65 = .ok (.putfield 60, 3) := by decide +kernel
theorem d44_68 : decode c44C 68 = .ok (.aload_n 1, 1) := by decide +kernel
theorem d44_69 : decode c44C 69 = .ok (.aconst_null, 1) := by decide +kernel
theorem d44_70 : decode c44C 70 = .ok (.putfield 130, 3) := by decide +kernel
theorem d44_73 : decode c44C 73 = .ok (.aload_n 1, 1) := by decide +kernel
theorem d44_74 : decode c44C 74 = .ok (.aconst_null, 1) := by decide +kernel
theorem d44_75 : decode c44C 75 = .ok (.putfield 55, 3) := by decide +kernel
theorem d44_78 : decode c44C 78 = .ok (.aload_n 2, 1) := by decide +kernel
theorem d44_79 : decode c44C 79 = .ok (.getfield 51, 3) := by decide +kernel
theorem d44_82 : decode c44C 82 = .ok (.ifnonnull 11, 3) := by decide +kernel
theorem d44_93 : decode c44C 93 = .ok (.return_, 1) := by decide +kernel
theorem rmR2a (l : Launch) (Z : State) (a0 : Array Value) (hw : TW Z a0) (b_ r_ q_ l_ : Addr) (h0 : Heap) (n0 : Nat) (Z0 : n0 ≤ h0.size) (p0 : Exa Z h0 r_ k1C) (p1 : Fld Z h0 r_ k1C "level" k5C (.ref l_)) (p2 : Fld Z h0 r_ k1C "ahead" k4C .null) (p3 : Fld Z h0 r_ k1C "behind" k4C (.ref q_)) (p4 : Exa Z h0 q_ k1C) (p5 : Fld Z h0 q_ k1C "ahead" k4C (.ref r_)) (p6 : Fld Z h0 q_ k1C "behind" k4C .null) (p7 : Fld Z h0 q_ k1C "level" k5C (.ref l_)) (p8 : Exa Z h0 l_ k2C) (p9 : Fld Z h0 l_ k2C "first" k4C (.ref r_)) (p10 : Fld Z h0 l_ k2C "last" k4C (.ref q_)) (p11 : Fld Z h0 l_ k2C "deep" "Z" (.int (0 : Int32))) (q0 : b_ ≠ r_) (q1 : b_ ≠ q_) (q2 : b_ ≠ l_) (q3 : r_ ≠ q_) (q4 : r_ ≠ l_) (q5 : q_ ≠ l_) (g0 : n0 ≤ r_) (g1 : n0 ≤ q_) (g2 : n0 ≤ l_) :
    Pays l Z (⟨"com/example/uncross/uncross/engine/BookSide", "remove", "(Lcom/example/uncross/uncross/engine/BookSide$Resting;)V"⟩ : MethodName) prog_15_method_8_code 3 none [] ({ frames := 2, cells := 0, slots := 0, locals := 26 } : Room) #[(.ref b_), (.ref r_)] h0 (fun v h L => v = none ∧ Fr n0 L ∧ Keep h0 h [r_, q_, l_] ∧ Exa Z h r_ k1C ∧ Fld Z h r_ k1C "level" k5C .null ∧ Fld Z h r_ k1C "ahead" k4C .null ∧ Fld Z h r_ k1C "behind" k4C .null ∧ Exa Z h q_ k1C ∧ Fld Z h q_ k1C "ahead" k4C .null ∧ Fld Z h q_ k1C "behind" k4C .null ∧ Fld Z h q_ k1C "level" k5C (.ref l_) ∧ Exa Z h l_ k2C ∧ Fld Z h l_ k2C "first" k4C (.ref q_) ∧ Fld Z h l_ k2C "last" k4C (.ref q_) ∧ Fld Z h l_ k2C "deep" "Z" (.int (0 : Int32))) := by
  refine Pays.walk (plainFor_of_name pn_13) (fun m => ef_15 m b_ r_ ) ?_
  intro p e s m below meth c T0 X0 hx hby hml hown hnm hZ e0 hret hlk
  have dc := @Jvm.hb _ _ hby
  have ow := @own_w Z a0 hw
  have K0 := Keep.refl h0 ([r_, q_, l_] : List Addr)
  obtain ⟨T4, h4, X4, e4, W4, st4⟩ := putF X0 hx hZ hown (host := "") (Or.inl (ow 228 rfl)) Via.refl e0 p9 p8 (Or.inl (ow 229 rfl)) (ow 178 rfl) (ty := (.object "com/example/uncross/uncross/engine/BookSide$Resting")) (by decide) rfl rfl (g := (mkF m 17 #[sR b_, sR r_, sR l_] [(.ref q_), (.ref l_)])) rfl rfl (dc d44_17)
  have C7 := p2.other W4 (Or.inl q4)
  have C8 := p3.other W4 (Or.inl q4)
  have C9 := p4.wr W4
  have C10 := p5.other W4 (Or.inl q5)
  have K18 := K0.wr W4 (Or.inl (List.mem_of_getElem? (i := 2) rfl))
  obtain ⟨T22, h22, X22, e22, W22, st22⟩ := putFR X4 hx hZ hown (ow 250 rfl) e4 C10 C9 (ow 251 rfl) (ow 21 rfl) (ty := (.object "com/example/uncross/uncross/engine/BookSide$Resting")) (by decide) rfl rfl (g := (mkF m 60 #[sR b_, sR r_, sR l_] [.null, (.ref q_)])) rfl rfl (dc d44_60)
  have C23 := (p0.wr W4).wr W22
  have C24 := (p1.other W4 (Or.inl q4)).other W22 (Or.inl q3)
  have K36 := K18.wr W22 (Or.inl (List.mem_of_getElem? (i := 1) rfl))
  obtain ⟨T37, h37, X37, e37, W37, st37⟩ := putFR X22 hx hZ hown (ow 246 rfl) e22 C24 C23 (ow 247 rfl) (ow 21 rfl) (ty := (.object "com/example/uncross/uncross/engine/BookSide$Level")) (by decide) rfl rfl (g := (mkF m 65 #[sR b_, sR r_, sR l_] [.null, (.ref r_)])) rfl rfl (dc d44_65)
  have C38 := C23.wr W37
  have C40 := (C7.other W22 (Or.inl q3)).other W37 (Or.inr (sn83 hw))
  have K51 := K36.wr W37 (Or.inl (List.mem_of_getElem? (i := 0) rfl))
  refine Goes.on (T' := T37) (g' := (mkF m 70 #[sR b_, sR r_, sR l_] [.null, (.ref r_)])) (fun _ k => XS.aloadN X0.here hx rfl (dc d44_0) rfl rfl (getFRm X0 hx hZ hown (ow 246 rfl) e0 p1 (dc d44_1) (XS.astoreN X0.here hx rfl (dc d44_4) rfl rfl (l' := #[sR b_, sR r_, sR l_]) rfl (XS.aloadN X0.here hx rfl (dc d44_5) rfl rfl (getFRm X0 hx hZ hown (ow 250 rfl) e0 p2 (dc d44_6) (XT.ifnonnullNo X0.here hx rfl (dc d44_9) rfl (XS.aloadN X0.here hx rfl (dc d44_12) rfl rfl (XS.aloadN X0.here hx rfl (dc d44_13) rfl rfl (getFRm X0 hx hZ hown (ow 292 rfl) e0 p3 (dc d44_14) (st4 _ (XS.goto X4.here hx rfl (pc0 := 20) (pc' := 34) rfl (dc d44_20) (by decide) (by decide) (XS.aloadN X4.here hx rfl (dc d44_34) rfl rfl (getFRm X4 hx hZ hown (ow 292 rfl) e4 C8 (dc d44_35) (XT.ifnonnullYes X4.here hx rfl (pc0 := 38) (pc' := 52) rfl (dc d44_38) rfl (by decide) (by decide) (XS.aloadN X4.here hx rfl (dc d44_52) rfl rfl (getFRm X4 hx hZ hown (ow 292 rfl) e4 C8 (dc d44_53) (XS.aloadN X4.here hx rfl (dc d44_56) rfl rfl (getFRm X4 hx hZ hown (ow 250 rfl) e4 C7 (dc d44_57) (st22 _ (XS.aloadN X22.here hx rfl (dc d44_63) rfl rfl (XS.aconstNull X22.here hx rfl (dc d44_64) (st37 _ (XS.aloadN X37.here hx rfl (dc d44_68) rfl rfl (XS.aconstNull X37.here hx rfl (dc d44_69) k)))))))))))))))))))))))) ?_
  obtain ⟨T52, h52, X52, e52, W52, st52⟩ := putFR X37 hx hZ hown (ow 250 rfl) e37 C40 C38 (ow 251 rfl) (ow 21 rfl) (ty := (.object "com/example/uncross/uncross/engine/BookSide$Resting")) (by decide) rfl rfl (g := (mkF m 70 #[sR b_, sR r_, sR l_] [.null, (.ref r_)])) rfl rfl (dc d44_70)
  have C53 := C38.wr W52
  have C56 := ((C8.other W22 (Or.inl q3)).other W37 (Or.inr (sn84 hw))).other W52 (Or.inr (sn87 hw))
  have K66 := K51.wr W52 (Or.inl (List.mem_of_getElem? (i := 0) rfl))
  obtain ⟨T67, h67, X67, e67, W67, st67⟩ := putFR X52 hx hZ hown (ow 292 rfl) e52 C56 C53 (ow 293 rfl) (ow 21 rfl) (ty := (.object "com/example/uncross/uncross/engine/BookSide$Resting")) (by decide) rfl rfl (g := (mkF m 75 #[sR b_, sR r_, sR l_] [.null, (.ref r_)])) rfl rfl (dc d44_75)
  have N67 := Fr.snoc X67 (Fr.snoc X52 (Fr.snoc X37 (Fr.snoc X22 (Fr.snoc X4 (Fr.nil n0) g2) g1) g0) g0) g0
  have C68 := C53.wr W67
  have C69 := ((C24.same W37).other W52 (Or.inr (sn86 hw))).other W67 (Or.inr (sn94 hw))
  have C70 := (C40.same W52).other W67 (Or.inr (sn93 hw))
  have C71 := C56.same W67
  have C72 := (((C9.wr W22).wr W37).wr W52).wr W67
  have C73 := (((C10.same W22).other W37 (Or.inl q3.symm)).other W52 (Or.inl q3.symm)).other W67 (Or.inl q3.symm)
  have C74 := ((((p6.other W4 (Or.inl q5)).other W22 (Or.inr (sn87 hw))).other W37 (Or.inl q3.symm)).other W52 (Or.inl q3.symm)).other W67 (Or.inl q3.symm)
  have C75 := ((((p7.other W4 (Or.inl q5)).other W22 (Or.inr (sn86 hw))).other W37 (Or.inl q3.symm)).other W52 (Or.inl q3.symm)).other W67 (Or.inl q3.symm)
  have C76 := ((((p8.wr W4).wr W22).wr W37).wr W52).wr W67
  have C77 := ((((p9.same W4).other W22 (Or.inl q5.symm)).other W37 (Or.inl q4.symm)).other W52 (Or.inl q4.symm)).other W67 (Or.inl q4.symm)
  have C78 := ((((p10.other W4 (Or.inr (sn89 hw))).other W22 (Or.inl q5.symm)).other W37 (Or.inl q4.symm)).other W52 (Or.inl q4.symm)).other W67 (Or.inl q4.symm)
  have C79 := ((((p11.other W4 (Or.inr (sn90 hw))).other W22 (Or.inl q5.symm)).other W37 (Or.inl q4.symm)).other W52 (Or.inl q4.symm)).other W67 (Or.inl q4.symm)
  have K81 := K66.wr W67 (Or.inl (List.mem_of_getElem? (i := 0) rfl))
  obtain ⟨T82, X82, e82, st82⟩ := getF X67 hx hZ hown (host := "") (Or.inl (ow 228 rfl)) Via.refl e67 C77 (g := (mkF m 79 #[sR b_, sR r_, sR l_] [(.ref l_)])) rfl rfl (dc d44_79)
  refine Goes.on (T' := T82) (g' := (mkF m 93 #[sR b_, sR r_, sR l_] [])) (fun _ k => st52 _ (XS.aloadN X52.here hx rfl (dc d44_73) rfl rfl (XS.aconstNull X52.here hx rfl (dc d44_74) (st67 _ (XS.aloadN X67.here hx rfl (dc d44_78) rfl rfl (st82 _ (XT.ifnonnullYes X82.here hx rfl (pc0 := 82) (pc' := 93) rfl (dc d44_82) rfl (by decide) (by decide) k))))))) ?_
  exact Goes.retV X82 hx hlk hret (dc d44_93) (by decide) (by decide) (by rw [e82]; exact ⟨rfl, N67, K81, C68, C69, C70, C71, C72, C73, C74, C75, C76, C77, C78, C79⟩)
theorem d44_23 : decode c44C 23 = .ok (.aload_n 1, 1) := by decide +kernel
theorem d44_24 : decode c44C 24 = .ok (.getfield 130, 3) := by decide +kernel
theorem d44_27 : decode c44C 27 = .ok (.aload_n 1, 1) := by decide +kernel
theorem d44_28 : decode c44C 28 = .ok (.getfield 55, 3) := by decide +kernel
theorem d44_31 : decode c44C 31 = .ok (.putfield 55, 3) := by decide +kernel
theorem d44_41 : decode c44C 41 = .ok (.aload_n 2, 1) := by decide +kernel
theorem d44_42 : decode c44C 42 = .ok (.aload_n 1, 1) := by decide +kernel
theorem d44_43 : decode c44C 43 = .ok (.getfield 130, 3) := by decide +kernel
theorem d44_46 : decode c44C 46 = .ok (.putfield 127, 3) := by decide +kernel
theorem d44_49 : decode c44C 49 = .ok (.goto 14, 3) := by decide +kernel
theorem rmR2b (l : Launch) (Z : State) (a0 : Array Value) (hw : TW Z a0) (b_ r_ q_ l_ : Addr) (h0 : Heap) (n0 : Nat) (Z0 : n0 ≤ h0.size) (p0 : Exa Z h0 r_ k1C) (p1 : Fld Z h0 r_ k1C "level" k5C (.ref l_)) (p2 : Fld Z h0 r_ k1C "ahead" k4C (.ref q_)) (p3 : Fld Z h0 r_ k1C "behind" k4C .null) (p4 : Exa Z h0 q_ k1C) (p5 : Fld Z h0 q_ k1C "behind" k4C (.ref r_)) (p6 : Fld Z h0 q_ k1C "ahead" k4C .null) (p7 : Fld Z h0 q_ k1C "level" k5C (.ref l_)) (p8 : Exa Z h0 l_ k2C) (p9 : Fld Z h0 l_ k2C "first" k4C (.ref q_)) (p10 : Fld Z h0 l_ k2C "last" k4C (.ref r_)) (p11 : Fld Z h0 l_ k2C "deep" "Z" (.int (0 : Int32))) (q0 : b_ ≠ r_) (q1 : b_ ≠ q_) (q2 : b_ ≠ l_) (q3 : r_ ≠ q_) (q4 : r_ ≠ l_) (q5 : q_ ≠ l_) (g0 : n0 ≤ r_) (g1 : n0 ≤ q_) (g2 : n0 ≤ l_) :
    Pays l Z (⟨"com/example/uncross/uncross/engine/BookSide", "remove", "(Lcom/example/uncross/uncross/engine/BookSide$Resting;)V"⟩ : MethodName) prog_15_method_8_code 3 none [] ({ frames := 2, cells := 0, slots := 0, locals := 26 } : Room) #[(.ref b_), (.ref r_)] h0 (fun v h L => v = none ∧ Fr n0 L ∧ Keep h0 h [r_, q_, l_] ∧ Exa Z h r_ k1C ∧ Fld Z h r_ k1C "level" k5C .null ∧ Fld Z h r_ k1C "ahead" k4C .null ∧ Fld Z h r_ k1C "behind" k4C .null ∧ Exa Z h q_ k1C ∧ Fld Z h q_ k1C "behind" k4C .null ∧ Fld Z h q_ k1C "ahead" k4C .null ∧ Fld Z h q_ k1C "level" k5C (.ref l_) ∧ Exa Z h l_ k2C ∧ Fld Z h l_ k2C "first" k4C (.ref q_) ∧ Fld Z h l_ k2C "last" k4C (.ref q_) ∧ Fld Z h l_ k2C "deep" "Z" (.int (0 : Int32))) := by
  refine Pays.walk (plainFor_of_name pn_13) (fun m => ef_15 m b_ r_ ) ?_
  intro p e s m below meth c T0 X0 hx hby hml hown hnm hZ e0 hret hlk
  have dc := @Jvm.hb _ _ hby
  have ow := @own_w Z a0 hw
  have K0 := Keep.refl h0 ([r_, q_, l_] : List Addr)
  obtain ⟨T5, h5, X5, e5, W5, st5⟩ := putFR X0 hx hZ hown (ow 292 rfl) e0 p5 p4 (ow 293 rfl) (ow 21 rfl) (ty := (.object "com/example/uncross/uncross/engine/BookSide$Resting")) (by decide) rfl rfl (g := (mkF m 31 #[sR b_, sR r_, sR l_] [.null, (.ref q_)])) rfl rfl (dc d44_31)
  have C8 := p2.other W5 (Or.inl q3)
  have C9 := p3.other W5 (Or.inl q3)
  have C14 := p8.wr W5
  have C16 := p10.other W5 (Or.inl q5.symm)
  have K19 := K0.wr W5 (Or.inl (List.mem_of_getElem? (i := 1) rfl))
  obtain ⟨T22, h22, X22, e22, W22, st22⟩ := putF X5 hx hZ hown (host := "") (Or.inl (ow 248 rfl)) Via.refl e5 C16 C14 (Or.inl (ow 249 rfl)) (ow 178 rfl) (ty := (.object "com/example/uncross/uncross/engine/BookSide$Resting")) (by decide) rfl rfl (g := (mkF m 46 #[sR b_, sR r_, sR l_] [(.ref q_), (.ref l_)])) rfl rfl (dc d44_46)
  have C23 := (p0.wr W5).wr W22
  have C24 := (p1.other W5 (Or.inl q3)).other W22 (Or.inl q4)
  have K36 := K19.wr W22 (Or.inl (List.mem_of_getElem? (i := 2) rfl))
  obtain ⟨T37, h37, X37, e37, W37, st37⟩ := putFR X22 hx hZ hown (ow 246 rfl) e22 C24 C23 (ow 247 rfl) (ow 21 rfl) (ty := (.object "com/example/uncross/uncross/engine/BookSide$Level")) (by decide) rfl rfl (g := (mkF m 65 #[sR b_, sR r_, sR l_] [.null, (.ref r_)])) rfl rfl (dc d44_65)
  have C38 := C23.wr W37
  have C40 := (C8.other W22 (Or.inl q4)).other W37 (Or.inr (sn83 hw))
  have K51 := K36.wr W37 (Or.inl (List.mem_of_getElem? (i := 0) rfl))
  refine Goes.on (T' := T37) (g' := (mkF m 70 #[sR b_, sR r_, sR l_] [.null, (.ref r_)])) (fun _ k => XS.aloadN X0.here hx rfl (dc d44_0) rfl rfl (getFRm X0 hx hZ hown (ow 246 rfl) e0 p1 (dc d44_1) (XS.astoreN X0.here hx rfl (dc d44_4) rfl rfl (l' := #[sR b_, sR r_, sR l_]) rfl (XS.aloadN X0.here hx rfl (dc d44_5) rfl rfl (getFRm X0 hx hZ hown (ow 250 rfl) e0 p2 (dc d44_6) (XT.ifnonnullYes X0.here hx rfl (pc0 := 9) (pc' := 23) rfl (dc d44_9) rfl (by decide) (by decide) (XS.aloadN X0.here hx rfl (dc d44_23) rfl rfl (getFRm X0 hx hZ hown (ow 250 rfl) e0 p2 (dc d44_24) (XS.aloadN X0.here hx rfl (dc d44_27) rfl rfl (getFRm X0 hx hZ hown (ow 292 rfl) e0 p3 (dc d44_28) (st5 _ (XS.aloadN X5.here hx rfl (dc d44_34) rfl rfl (getFRm X5 hx hZ hown (ow 292 rfl) e5 C9 (dc d44_35) (XT.ifnonnullNo X5.here hx rfl (dc d44_38) rfl (XS.aloadN X5.here hx rfl (dc d44_41) rfl rfl (XS.aloadN X5.here hx rfl (dc d44_42) rfl rfl (getFRm X5 hx hZ hown (ow 250 rfl) e5 C8 (dc d44_43) (st22 _ (XS.goto X22.here hx rfl (pc0 := 49) (pc' := 63) rfl (dc d44_49) (by decide) (by decide) (XS.aloadN X22.here hx rfl (dc d44_63) rfl rfl (XS.aconstNull X22.here hx rfl (dc d44_64) (st37 _ (XS.aloadN X37.here hx rfl (dc d44_68) rfl rfl (XS.aconstNull X37.here hx rfl (dc d44_69) k)))))))))))))))))))))))) ?_
  obtain ⟨T52, h52, X52, e52, W52, st52⟩ := putFR X37 hx hZ hown (ow 250 rfl) e37 C40 C38 (ow 251 rfl) (ow 21 rfl) (ty := (.object "com/example/uncross/uncross/engine/BookSide$Resting")) (by decide) rfl rfl (g := (mkF m 70 #[sR b_, sR r_, sR l_] [.null, (.ref r_)])) rfl rfl (dc d44_70)
  have C53 := C38.wr W52
  have C56 := ((C9.other W22 (Or.inl q4)).other W37 (Or.inr (sn84 hw))).other W52 (Or.inr (sn87 hw))
  have K66 := K51.wr W52 (Or.inl (List.mem_of_getElem? (i := 0) rfl))
  obtain ⟨T67, h67, X67, e67, W67, st67⟩ := putFR X52 hx hZ hown (ow 292 rfl) e52 C56 C53 (ow 293 rfl) (ow 21 rfl) (ty := (.object "com/example/uncross/uncross/engine/BookSide$Resting")) (by decide) rfl rfl (g := (mkF m 75 #[sR b_, sR r_, sR l_] [.null, (.ref r_)])) rfl rfl (dc d44_75)
  have N67 := Fr.snoc X67 (Fr.snoc X52 (Fr.snoc X37 (Fr.snoc X22 (Fr.snoc X5 (Fr.nil n0) g1) g2) g0) g0) g0
  have C68 := C53.wr W67
  have C69 := ((C24.same W37).other W52 (Or.inr (sn86 hw))).other W67 (Or.inr (sn94 hw))
  have C70 := (C40.same W52).other W67 (Or.inr (sn93 hw))
  have C71 := C56.same W67
  have C72 := ((((p4.wr W5).wr W22).wr W37).wr W52).wr W67
  have C73 := ((((p5.same W5).other W22 (Or.inl q5)).other W37 (Or.inl q3.symm)).other W52 (Or.inl q3.symm)).other W67 (Or.inl q3.symm)
  have C74 := ((((p6.other W5 (Or.inr (sn93 hw))).other W22 (Or.inl q5)).other W37 (Or.inl q3.symm)).other W52 (Or.inl q3.symm)).other W67 (Or.inl q3.symm)
  have C75 := ((((p7.other W5 (Or.inr (sn94 hw))).other W22 (Or.inl q5)).other W37 (Or.inl q3.symm)).other W52 (Or.inl q3.symm)).other W67 (Or.inl q3.symm)
  have C76 := (((C14.wr W22).wr W37).wr W52).wr W67
  have C77 := ((((p9.other W5 (Or.inl q5.symm)).other W22 (Or.inr (sn91 hw))).other W37 (Or.inl q4.symm)).other W52 (Or.inl q4.symm)).other W67 (Or.inl q4.symm)
  have C78 := (((C16.same W22).other W37 (Or.inl q4.symm)).other W52 (Or.inl q4.symm)).other W67 (Or.inl q4.symm)
  have C79 := ((((p11.other W5 (Or.inl q5.symm)).other W22 (Or.inr (sn92 hw))).other W37 (Or.inl q4.symm)).other W52 (Or.inl q4.symm)).other W67 (Or.inl q4.symm)
  have K81 := K66.wr W67 (Or.inl (List.mem_of_getElem? (i := 0) rfl))
  obtain ⟨T82, X82, e82, st82⟩ := getF X67 hx hZ hown (host := "") (Or.inl (ow 228 rfl)) Via.refl e67 C77 (g := (mkF m 79 #[sR b_, sR r_, sR l_] [(.ref l_)])) rfl rfl (dc d44_79)
  refine Goes.on (T' := T82) (g' := (mkF m 93 #[sR b_, sR r_, sR l_] [])) (fun _ k => st52 _ (XS.aloadN X52.here hx rfl (dc d44_73) rfl rfl (XS.aconstNull X52.here hx rfl (dc d44_74) (st67 _ (XS.aloadN X67.here hx rfl (dc d44_78) rfl rfl (st82 _ (XT.ifnonnullYes X82.here hx rfl (pc0 := 82) (pc' := 93) rfl (dc d44_82) rfl (by decide) (by decide) k))))))) ?_
  exact Goes.retV X82 hx hlk hret (dc d44_93) (by decide) (by decide) (by rw [e82]; exact ⟨rfl, N67, K81, C68, C69, C70, C71, C72, C73, C74, C75, C76, C77, C78, C79⟩)
theorem d44_85 : decode c44C 85 = .ok (.aload_n 2, 1) := by decide +kernel
theorem d44_86 : decode c44C 86 = .ok (.aload_n 0, 1) := by decide +kernel
theorem d44_87 : decode c44C 87 = .ok (.getfield 14, 3) := by decide +kernel
theorem d44_90 : decode c44C 90 = .ok (.if_acmp .ne 4, 3) := by decide +kernel
theorem rmRM1 (l : Launch) (Z : State) (a0 : Array Value) (hw : TW Z a0) (b_ r_ m_ : Addr) (h0 : Heap) (n0 : Nat) (Z0 : n0 ≤ h0.size) (p0 : Exa Z h0 r_ k1C) (p1 : Fld Z h0 r_ k1C "level" k5C (.ref m_)) (p2 : Fld Z h0 r_ k1C "ahead" k4C .null) (p3 : Fld Z h0 r_ k1C "behind" k4C .null) (p4 : Exa Z h0 m_ k2C) (p5 : Fld Z h0 m_ k2C "first" k4C (.ref r_)) (p6 : Fld Z h0 m_ k2C "last" k4C (.ref r_)) (p7 : Fld Z h0 m_ k2C "deep" "Z" (.int (0 : Int32))) (p8 : Exa Z h0 b_ k0C) (p9 : Fld Z h0 b_ k0C "markets" k5C (.ref m_)) (q0 : b_ ≠ r_) (q1 : b_ ≠ m_) (q2 : r_ ≠ m_) (g0 : n0 ≤ r_) (g1 : n0 ≤ m_) :
    Pays l Z (⟨"com/example/uncross/uncross/engine/BookSide", "remove", "(Lcom/example/uncross/uncross/engine/BookSide$Resting;)V"⟩ : MethodName) prog_15_method_8_code 3 none [] ({ frames := 2, cells := 0, slots := 0, locals := 26 } : Room) #[(.ref b_), (.ref r_)] h0 (fun v h L => v = none ∧ Fr n0 L ∧ Keep h0 h [r_, m_] ∧ Exa Z h r_ k1C ∧ Fld Z h r_ k1C "level" k5C .null ∧ Fld Z h r_ k1C "ahead" k4C .null ∧ Fld Z h r_ k1C "behind" k4C .null ∧ Exa Z h m_ k2C ∧ Fld Z h m_ k2C "first" k4C .null ∧ Fld Z h m_ k2C "last" k4C .null ∧ Fld Z h m_ k2C "deep" "Z" (.int (0 : Int32))) := by
  refine Pays.walk (plainFor_of_name pn_13) (fun m => ef_15 m b_ r_ ) ?_
  intro p e s m below meth c T0 X0 hx hby hml hown hnm hZ e0 hret hlk
  have dc := @Jvm.hb _ _ hby
  have ow := @own_w Z a0 hw
  have K0 := Keep.refl h0 ([r_, m_] : List Addr)
  obtain ⟨T4, h4, X4, e4, W4, st4⟩ := putF X0 hx hZ hown (host := "") (Or.inl (ow 228 rfl)) Via.refl e0 p5 p4 (Or.inl (ow 229 rfl)) (ow 178 rfl) (ty := (.object "com/example/uncross/uncross/engine/BookSide$Resting")) (by decide) rfl rfl (g := (mkF m 17 #[sR b_, sR r_, sR m_] [.null, (.ref m_)])) rfl rfl (dc d44_17)
  have C7 := p2.other W4 (Or.inl q2)
  have C8 := p3.other W4 (Or.inl q2)
  have C9 := p4.wr W4
  have C11 := p6.other W4 (Or.inr (sn89 hw))
  have K16 := K0.wr W4 (Or.inl (List.mem_of_getElem? (i := 1) rfl))
  obtain ⟨T19, h19, X19, e19, W19, st19⟩ := putF X4 hx hZ hown (host := "") (Or.inl (ow 248 rfl)) Via.refl e4 C11 C9 (Or.inl (ow 249 rfl)) (ow 178 rfl) (ty := (.object "com/example/uncross/uncross/engine/BookSide$Resting")) (by decide) rfl rfl (g := (mkF m 46 #[sR b_, sR r_, sR m_] [.null, (.ref m_)])) rfl rfl (dc d44_46)
  have C20 := (p0.wr W4).wr W19
  have C21 := (p1.other W4 (Or.inl q2)).other W19 (Or.inl q2)
  have K31 := K16.wr W19 (Or.inl (List.mem_of_getElem? (i := 1) rfl))
  obtain ⟨T32, h32, X32, e32, W32, st32⟩ := putFR X19 hx hZ hown (ow 246 rfl) e19 C21 C20 (ow 247 rfl) (ow 21 rfl) (ty := (.object "com/example/uncross/uncross/engine/BookSide$Level")) (by decide) rfl rfl (g := (mkF m 65 #[sR b_, sR r_, sR m_] [.null, (.ref r_)])) rfl rfl (dc d44_65)
  have C33 := C20.wr W32
  have C35 := (C7.other W19 (Or.inl q2)).other W32 (Or.inr (sn83 hw))
  have K44 := K31.wr W32 (Or.inl (List.mem_of_getElem? (i := 0) rfl))
  refine Goes.on (T' := T32) (g' := (mkF m 70 #[sR b_, sR r_, sR m_] [.null, (.ref r_)])) (fun _ k => XS.aloadN X0.here hx rfl (dc d44_0) rfl rfl (getFRm X0 hx hZ hown (ow 246 rfl) e0 p1 (dc d44_1) (XS.astoreN X0.here hx rfl (dc d44_4) rfl rfl (l' := #[sR b_, sR r_, sR m_]) rfl (XS.aloadN X0.here hx rfl (dc d44_5) rfl rfl (getFRm X0 hx hZ hown (ow 250 rfl) e0 p2 (dc d44_6) (XT.ifnonnullNo X0.here hx rfl (dc d44_9) rfl (XS.aloadN X0.here hx rfl (dc d44_12) rfl rfl (XS.aloadN X0.here hx rfl (dc d44_13) rfl rfl (getFRm X0 hx hZ hown (ow 292 rfl) e0 p3 (dc d44_14) (st4 _ (XS.goto X4.here hx rfl (pc0 := 20) (pc' := 34) rfl (dc d44_20) (by decide) (by decide) (XS.aloadN X4.here hx rfl (dc d44_34) rfl rfl (getFRm X4 hx hZ hown (ow 292 rfl) e4 C8 (dc d44_35) (XT.ifnonnullNo X4.here hx rfl (dc d44_38) rfl (XS.aloadN X4.here hx rfl (dc d44_41) rfl rfl (XS.aloadN X4.here hx rfl (dc d44_42) rfl rfl (getFRm X4 hx hZ hown (ow 250 rfl) e4 C7 (dc d44_43) (st19 _ (XS.goto X19.here hx rfl (pc0 := 49) (pc' := 63) rfl (dc d44_49) (by decide) (by decide) (XS.aloadN X19.here hx rfl (dc d44_63) rfl rfl (XS.aconstNull X19.here hx rfl (dc d44_64) (st32 _ (XS.aloadN X32.here hx rfl (dc d44_68) rfl rfl (XS.aconstNull X32.here hx rfl (dc d44_69) k)))))))))))))))))))))))) ?_
  obtain ⟨T45, h45, X45, e45, W45, st45⟩ := putFR X32 hx hZ hown (ow 250 rfl) e32 C35 C33 (ow 251 rfl) (ow 21 rfl) (ty := (.object "com/example/uncross/uncross/engine/BookSide$Resting")) (by decide) rfl rfl (g := (mkF m 70 #[sR b_, sR r_, sR m_] [.null, (.ref r_)])) rfl rfl (dc d44_70)
  have C46 := C33.wr W45
  have C49 := ((C8.other W19 (Or.inl q2)).other W32 (Or.inr (sn84 hw))).other W45 (Or.inr (sn87 hw))
  have K57 := K44.wr W45 (Or.inl (List.mem_of_getElem? (i := 0) rfl))
  obtain ⟨T58, h58, X58, e58, W58, st58⟩ := putFR X45 hx hZ hown (ow 292 rfl) e45 C49 C46 (ow 293 rfl) (ow 21 rfl) (ty := (.object "com/example/uncross/uncross/engine/BookSide$Resting")) (by decide) rfl rfl (g := (mkF m 75 #[sR b_, sR r_, sR m_] [.null, (.ref r_)])) rfl rfl (dc d44_75)
  have N58 := Fr.snoc X58 (Fr.snoc X45 (Fr.snoc X32 (Fr.snoc X19 (Fr.snoc X4 (Fr.nil n0) g1) g1) g0) g0) g0
  have C59 := C46.wr W58
  have C60 := ((C21.same W32).other W45 (Or.inr (sn86 hw))).other W58 (Or.inr (sn94 hw))
  have C61 := (C35.same W45).other W58 (Or.inr (sn93 hw))
  have C62 := C49.same W58
  have C63 := (((C9.wr W19).wr W32).wr W45).wr W58
  have C64 := ((((p5.same W4).other W19 (Or.inr (sn91 hw))).other W32 (Or.inl q2.symm)).other W45 (Or.inl q2.symm)).other W58 (Or.inl q2.symm)
  have C65 := (((C11.same W19).other W32 (Or.inl q2.symm)).other W45 (Or.inl q2.symm)).other W58 (Or.inl q2.symm)
  have C66 := ((((p7.other W4 (Or.inr (sn90 hw))).other W19 (Or.inr (sn92 hw))).other W32 (Or.inl q2.symm)).other W45 (Or.inl q2.symm)).other W58 (Or.inl q2.symm)
  have C68 := ((((p9.other W4 (Or.inl q1)).other W19 (Or.inl q1)).other W32 (Or.inl q0)).other W45 (Or.inl q0)).other W58 (Or.inl q0)
  have K70 := K57.wr W58 (Or.inl (List.mem_of_getElem? (i := 0) rfl))
  obtain ⟨T71, X71, e71, st71⟩ := getF X58 hx hZ hown (host := "") (Or.inl (ow 228 rfl)) Via.refl e58 C64 (g := (mkF m 79 #[sR b_, sR r_, sR m_] [(.ref m_)])) rfl rfl (dc d44_79)
  obtain ⟨T72, X72, e72, st72⟩ := getF X71 hx hZ hown (host := "") (Or.inl (ow 186 rfl)) Via.refl e71 C68 (g := (mkF m 87 #[sR b_, sR r_, sR m_] [(.ref b_), (.ref m_)])) rfl rfl (dc d44_87)
  refine Goes.on (T' := T72) (g' := (mkF m 93 #[sR b_, sR r_, sR m_] [])) (fun _ k => st45 _ (XS.aloadN X45.here hx rfl (dc d44_73) rfl rfl (XS.aconstNull X45.here hx rfl (dc d44_74) (st58 _ (XS.aloadN X58.here hx rfl (dc d44_78) rfl rfl (st71 _ (XT.ifnonnullNo X71.here hx rfl (dc d44_82) rfl (XS.aloadN X71.here hx rfl (dc d44_85) rfl rfl (XS.aloadN X71.here hx rfl (dc d44_86) rfl rfl (st72 _ (XT.acmpNo X72.here hx rfl (dc d44_90) rfl rfl rfl (XT.aa_ne_f rfl) k))))))))))) ?_
  exact Goes.retV X72 hx hlk hret (dc d44_93) (by decide) (by decide) (by rw [e72]; exact ⟨rfl, N58, K70, C59, C60, C61, C62, C63, C64, C65, C66⟩)
theorem d44_94 : decode c44C 94 = .ok (.aload_n 2, 1) := by decide +kernel
theorem d44_95 : decode c44C 95 = .ok (.getfield 63, 3) := by decide +kernel
theorem d44_98 : decode c44C 98 = .ok (.ifCond .eq 19, 3) := by decide +kernel
theorem d44_117 : decode c44C 117 = .ok (.aload_n 2, 1) := by decide +kernel
theorem d44_118 : decode c44C 118 = .ok (.aload_n 0, 1) := by decide +kernel
theorem d44_119 : decode c44C 119 = .ok (.getfield 18, 3) := by decide +kernel
theorem d44_122 : decode c44C 122 = .ok (.aload_n 0, 1) := by decide +kernel
theorem d44_123 : decode c44C 123 = .ok (.getfield 26, 3) := by decide +kernel
theorem d44_126 : decode c44C 126 = .ok (.iconst 1, 1) := by decide +kernel
theorem d44_127 : decode c44C 127 = .ok (.isub, 1) := by decide +kernel
theorem d44_128 : decode c44C 128 = .ok (.aaload, 1) := by decide +kernel
theorem d44_129 : decode c44C 129 = .ok (.if_acmp .eq 40, 3) := by decide +kernel
theorem d44_169 : decode c44C 169 = .ok (.aload_n 0, 1) := by decide +kernel
theorem d44_170 : decode c44C 170 = .ok (.getfield 18, 3) := by decide +kernel
theorem d44_173 : decode c44C 173 = .ok (.aload_n 0, 1) := by decide +kernel
theorem d44_174 : decode c44C 174 = .ok (.dup, 1) := by decide +kernel
theorem d44_175 : decode c44C 175 = .ok (.getfield 26, 3) := by decide +kernel
theorem d44_178 : decode c44C 178 = .ok (.iconst 1, 1) := by decide +kernel
theorem d44_179 : decode c44C 179 = .ok (.isub, 1) := by decide +kernel
theorem d44_180 : decode c44C 180 = .ok (.dup_x1, 1) := by decide +kernel
theorem d44_181 : decode c44C 181 = .ok (.putfield 26, 3) := by decide +kernel
theorem d44_184 : decode c44C 184 = .ok (.aconst_null, 1) := by decide +kernel
theorem d44_185 : decode c44C 185 = .ok (.aastore, 1) := by decide +kernel
theorem d44_186 : decode c44C 186 = .ok (.aload_n 0, 1) := by decide +kernel
theorem d44_187 : decode c44C 187 = .ok (.getfield 26, 3) := by decide +kernel
theorem d44_190 : decode c44C 190 = .ok (.iconst 1, 1) := by decide +kernel
theorem d44_191 : decode c44C 191 = .ok (.if_icmp .le 50, 3) := by decide +kernel
theorem d44_241 : decode c44C 241 = .ok (.aload_n 0, 1) := by decide +kernel
theorem d44_242 : decode c44C 242 = .ok (.getfield 33, 3) := by decide +kernel
theorem d44_245 : decode c44C 245 = .ok (.invokevirtual 143, 3) := by decide +kernel
theorem d44_248 : decode c44C 248 = .ok (.ifCond .ne 15, 3) := by decide +kernel
theorem d44_263 : decode c44C 263 = .ok (.return_, 1) := by decide +kernel
theorem rmRL1 (l : Launch) (Z : State) (a0 : Array Value) (hw : TW Z a0) (b_ r_ m_ t_ A_ l0_ l1_ : Addr) (h0 : Heap) (n0 : Nat) (Z0 : n0 ≤ h0.size) (p0 : Exa Z h0 r_ k1C) (p1 : Fld Z h0 r_ k1C "level" k5C (.ref l1_)) (p2 : Fld Z h0 r_ k1C "ahead" k4C .null) (p3 : Fld Z h0 r_ k1C "behind" k4C .null) (p4 : Exa Z h0 l1_ k2C) (p5 : Fld Z h0 l1_ k2C "first" k4C (.ref r_)) (p6 : Fld Z h0 l1_ k2C "last" k4C (.ref r_)) (p7 : Fld Z h0 l1_ k2C "deep" "Z" (.int (0 : Int32))) (p8 : Exa Z h0 b_ k0C) (p9 : Fld Z h0 b_ k0C "markets" k5C (.ref m_)) (p10 : Fld Z h0 b_ k0C "levelCount" "I" (.int (2 : Int32))) (p11 : Fld Z h0 b_ k0C "emptyLevels" "I" (.int (0 : Int32))) (p12 : Fld Z h0 b_ k0C "deep" k9C (.ref t_)) (p13 : Fld Z h0 b_ k0C "levels" k6C (.ref A_)) (p14 : Exa Z h0 t_ k12C) (p15 : Fld Z h0 t_ k12C "size" "I" (.int (0 : Int32))) (p16 : Rbk Z h0 A_ k2C 64 (Upd (Upd (fun _ => Value.null) 0 (.ref l0_)) 1 (.ref l1_))) (q0 : b_ ≠ r_) (q1 : b_ ≠ l1_) (q2 : b_ ≠ A_) (q3 : r_ ≠ l1_) (q4 : r_ ≠ A_) (q5 : m_ ≠ r_) (q6 : m_ ≠ l1_) (q7 : m_ ≠ b_) (q8 : m_ ≠ A_) (q9 : t_ ≠ r_) (q10 : t_ ≠ l1_) (q11 : t_ ≠ b_) (q12 : t_ ≠ A_) (q13 : A_ ≠ l1_) (q14 : l0_ ≠ r_) (q15 : l0_ ≠ l1_) (q16 : l0_ ≠ b_) (q17 : l0_ ≠ A_) (g0 : n0 ≤ r_) (g1 : n0 ≤ l1_) (g2 : n0 ≤ b_) (g3 : n0 ≤ A_) :
    Pays l Z (⟨"com/example/uncross/uncross/engine/BookSide", "remove", "(Lcom/example/uncross/uncross/engine/BookSide$Resting;)V"⟩ : MethodName) prog_15_method_8_code 3 none [] ({ frames := 2, cells := 0, slots := 0, locals := 26 } : Room) #[(.ref b_), (.ref r_)] h0 (fun v h L => v = none ∧ Fr n0 L ∧ Keep h0 h [r_, l1_, b_, A_] ∧ Exa Z h r_ k1C ∧ Fld Z h r_ k1C "level" k5C .null ∧ Fld Z h r_ k1C "ahead" k4C .null ∧ Fld Z h r_ k1C "behind" k4C .null ∧ Exa Z h l1_ k2C ∧ Fld Z h l1_ k2C "first" k4C .null ∧ Fld Z h l1_ k2C "last" k4C .null ∧ Fld Z h l1_ k2C "deep" "Z" (.int (0 : Int32)) ∧ Exa Z h b_ k0C ∧ Fld Z h b_ k0C "markets" k5C (.ref m_) ∧ Fld Z h b_ k0C "levelCount" "I" (.int (1 : Int32)) ∧ Fld Z h b_ k0C "emptyLevels" "I" (.int (0 : Int32)) ∧ Fld Z h b_ k0C "deep" k9C (.ref t_) ∧ Fld Z h b_ k0C "levels" k6C (.ref A_) ∧ Rbk Z h A_ k2C 64 (Upd (fun _ => Value.null) 0 (.ref l0_))) := by
  refine Pays.walk (plainFor_of_name pn_13) (fun m => ef_15 m b_ r_ ) ?_
  intro p e s m below meth c T0 X0 hx hby hml hown hnm hZ e0 hret hlk
  have dc := @Jvm.hb _ _ hby
  have ow := @own_w Z a0 hw
  have K0 := Keep.refl h0 ([r_, l1_, b_, A_] : List Addr)
  obtain ⟨T4, h4, X4, e4, W4, st4⟩ := putF X0 hx hZ hown (host := "") (Or.inl (ow 228 rfl)) Via.refl e0 p5 p4 (Or.inl (ow 229 rfl)) (ow 178 rfl) (ty := (.object "com/example/uncross/uncross/engine/BookSide$Resting")) (by decide) rfl rfl (g := (mkF m 17 #[sR b_, sR r_, sR l1_] [.null, (.ref l1_)])) rfl rfl (dc d44_17)
  have C7 := p2.other W4 (Or.inl q3)
  have C8 := p3.other W4 (Or.inl q3)
  have C9 := p4.wr W4
  have C11 := p6.other W4 (Or.inr (sn89 hw))
  have Z22 := own_leW W4 Z0
  have K23 := K0.wr W4 (Or.inl (List.mem_of_getElem? (i := 1) rfl))
  obtain ⟨T26, h26, X26, e26, W26, st26⟩ := putF X4 hx hZ hown (host := "") (Or.inl (ow 248 rfl)) Via.refl e4 C11 C9 (Or.inl (ow 249 rfl)) (ow 178 rfl) (ty := (.object "com/example/uncross/uncross/engine/BookSide$Resting")) (by decide) rfl rfl (g := (mkF m 46 #[sR b_, sR r_, sR l1_] [.null, (.ref l1_)])) rfl rfl (dc d44_46)
  have C27 := (p0.wr W4).wr W26
  have C28 := (p1.other W4 (Or.inl q3)).other W26 (Or.inl q3)
  have Z44 := own_leW W26 Z22
  have K45 := K23.wr W26 (Or.inl (List.mem_of_getElem? (i := 1) rfl))
  obtain ⟨T46, h46, X46, e46, W46, st46⟩ := putFR X26 hx hZ hown (ow 246 rfl) e26 C28 C27 (ow 247 rfl) (ow 21 rfl) (ty := (.object "com/example/uncross/uncross/engine/BookSide$Level")) (by decide) rfl rfl (g := (mkF m 65 #[sR b_, sR r_, sR l1_] [.null, (.ref r_)])) rfl rfl (dc d44_65)
  have C47 := C27.wr W46
  have C49 := (C7.other W26 (Or.inl q3)).other W46 (Or.inr (sn83 hw))
  have Z64 := own_leW W46 Z44
  have K65 := K45.wr W46 (Or.inl (List.mem_of_getElem? (i := 0) rfl))
  refine Goes.on (T' := T46) (g' := (mkF m 70 #[sR b_, sR r_, sR l1_] [.null, (.ref r_)])) (fun _ k => XS.aloadN X0.here hx rfl (dc d44_0) rfl rfl (getFRm X0 hx hZ hown (ow 246 rfl) e0 p1 (dc d44_1) (XS.astoreN X0.here hx rfl (dc d44_4) rfl rfl (l' := #[sR b_, sR r_, sR l1_]) rfl (XS.aloadN X0.here hx rfl (dc d44_5) rfl rfl (getFRm X0 hx hZ hown (ow 250 rfl) e0 p2 (dc d44_6) (XT.ifnonnullNo X0.here hx rfl (dc d44_9) rfl (XS.aloadN X0.here hx rfl (dc d44_12) rfl rfl (XS.aloadN X0.here hx rfl (dc d44_13) rfl rfl (getFRm X0 hx hZ hown (ow 292 rfl) e0 p3 (dc d44_14) (st4 _ (XS.goto X4.here hx rfl (pc0 := 20) (pc' := 34) rfl (dc d44_20) (by decide) (by decide) (XS.aloadN X4.here hx rfl (dc d44_34) rfl rfl (getFRm X4 hx hZ hown (ow 292 rfl) e4 C8 (dc d44_35) (XT.ifnonnullNo X4.here hx rfl (dc d44_38) rfl (XS.aloadN X4.here hx rfl (dc d44_41) rfl rfl (XS.aloadN X4.here hx rfl (dc d44_42) rfl rfl (getFRm X4 hx hZ hown (ow 250 rfl) e4 C7 (dc d44_43) (st26 _ (XS.goto X26.here hx rfl (pc0 := 49) (pc' := 63) rfl (dc d44_49) (by decide) (by decide) (XS.aloadN X26.here hx rfl (dc d44_63) rfl rfl (XS.aconstNull X26.here hx rfl (dc d44_64) (st46 _ (XS.aloadN X46.here hx rfl (dc d44_68) rfl rfl (XS.aconstNull X46.here hx rfl (dc d44_69) k)))))))))))))))))))))))) ?_
  obtain ⟨T66, h66, X66, e66, W66, st66⟩ := putFR X46 hx hZ hown (ow 250 rfl) e46 C49 C47 (ow 251 rfl) (ow 21 rfl) (ty := (.object "com/example/uncross/uncross/engine/BookSide$Resting")) (by decide) rfl rfl (g := (mkF m 70 #[sR b_, sR r_, sR l1_] [.null, (.ref r_)])) rfl rfl (dc d44_70)
  have C67 := C47.wr W66
  have C70 := ((C8.other W26 (Or.inl q3)).other W46 (Or.inr (sn84 hw))).other W66 (Or.inr (sn87 hw))
  have Z84 := own_leW W66 Z64
  have K85 := K65.wr W66 (Or.inl (List.mem_of_getElem? (i := 0) rfl))
  obtain ⟨T86, h86, X86, e86, W86, st86⟩ := putFR X66 hx hZ hown (ow 292 rfl) e66 C70 C67 (ow 293 rfl) (ow 21 rfl) (ty := (.object "com/example/uncross/uncross/engine/BookSide$Resting")) (by decide) rfl rfl (g := (mkF m 75 #[sR b_, sR r_, sR l1_] [.null, (.ref r_)])) rfl rfl (dc d44_75)
  have C92 := ((((p5.same W4).other W26 (Or.inr (sn91 hw))).other W46 (Or.inl q3.symm)).other W66 (Or.inl q3.symm)).other W86 (Or.inl q3.symm)
  have C94 := ((((p7.other W4 (Or.inr (sn90 hw))).other W26 (Or.inr (sn92 hw))).other W46 (Or.inl q3.symm)).other W66 (Or.inl q3.symm)).other W86 (Or.inl q3.symm)
  have C95 := ((((p8.wr W4).wr W26).wr W46).wr W66).wr W86
  have C96 := ((((p9.other W4 (Or.inl q1)).other W26 (Or.inl q1)).other W46 (Or.inl q0)).other W66 (Or.inl q0)).other W86 (Or.inl q0)
  have C97 := ((((p10.other W4 (Or.inl q1)).other W26 (Or.inl q1)).other W46 (Or.inl q0)).other W66 (Or.inl q0)).other W86 (Or.inl q0)
  have C100 := ((((p13.other W4 (Or.inl q1)).other W26 (Or.inl q1)).other W46 (Or.inl q0)).other W66 (Or.inl q0)).other W86 (Or.inl q0)
  have C103 := ((((p16.other W4 q13).other W26 q13).other W46 q4.symm).other W66 q4.symm).other W86 q4.symm
  have Z104 := own_leW W86 Z84
  have K105 := K85.wr W86 (Or.inl (List.mem_of_getElem? (i := 0) rfl))
  obtain ⟨T106, X106, e106, st106⟩ := getF X86 hx hZ hown (host := "") (Or.inl (ow 228 rfl)) Via.refl e86 C92 (g := (mkF m 79 #[sR b_, sR r_, sR l1_] [(.ref l1_)])) rfl rfl (dc d44_79)
  obtain ⟨T107, X107, e107, st107⟩ := getF X106 hx hZ hown (host := "") (Or.inl (ow 186 rfl)) Via.refl e106 C96 (g := (mkF m 87 #[sR b_, sR r_, sR l1_] [(.ref b_), (.ref l1_)])) rfl rfl (dc d44_87)
  obtain ⟨T108, X108, e108, st108⟩ := getF X107 hx hZ hown (host := "") (Or.inl (ow 294 rfl)) Via.refl e107 C94 (g := (mkF m 95 #[sR b_, sR r_, sR l1_] [(.ref l1_)])) rfl rfl (dc d44_95)
  obtain ⟨T109, X109, e109, st109⟩ := getF X108 hx hZ hown (host := "") (Or.inl (ow 189 rfl)) Via.refl e108 C100 (g := (mkF m 119 #[sR b_, sR r_, sR l1_] [(.ref b_), (.ref l1_)])) rfl rfl (dc d44_119)
  obtain ⟨T110, X110, e110, st110⟩ := getF X109 hx hZ hown (host := "") (Or.inl (ow 194 rfl)) Via.refl e109 C97 (g := (mkF m 123 #[sR b_, sR r_, sR l1_] [(.ref b_), (.ref A_), (.ref l1_)])) rfl rfl (dc d44_123)
  refine Goes.on (T' := T110) (g' := (mkF m 170 #[sR b_, sR r_, sR l1_] [(.ref b_)])) (fun _ k => st66 _ (XS.aloadN X66.here hx rfl (dc d44_73) rfl rfl (XS.aconstNull X66.here hx rfl (dc d44_74) (st86 _ (XS.aloadN X86.here hx rfl (dc d44_78) rfl rfl (st106 _ (XT.ifnonnullNo X106.here hx rfl (dc d44_82) rfl (XS.aloadN X106.here hx rfl (dc d44_85) rfl rfl (XS.aloadN X106.here hx rfl (dc d44_86) rfl rfl (st107 _ (XT.acmpYes X107.here hx rfl (pc0 := 90) (pc' := 94) rfl (dc d44_90) rfl rfl rfl (XT.aa_ne_t (fun q => q6 (Value.ref.inj q).symm)) (by decide) (by decide) (XS.aloadN X107.here hx rfl (dc d44_94) rfl rfl (st108 _ (XS.ifYes X108.here hx rfl (pc0 := 98) (pc' := 117) rfl (dc d44_98) rfl (XT.i0_eq_t (by decide)) (by decide) (by decide) (XS.aloadN X108.here hx rfl (dc d44_117) rfl rfl (XS.aloadN X108.here hx rfl (dc d44_118) rfl rfl (st109 _ (XS.aloadN X109.here hx rfl (dc d44_122) rfl rfl (st110 _ (XS.iconst X110.here hx rfl (dc d44_126) (XS.isub X110.here hx rfl (dc d44_127) rfl (ldRm X110 hx hZ e110 C103 (by decide) (dc d44_128) (XT.acmpYes X110.here hx rfl (pc0 := 129) (pc' := 169) rfl (dc d44_129) rfl rfl rfl (XT.aa_eq_t rfl) (by decide) (by decide) (XS.aloadN X110.here hx rfl (dc d44_169) rfl rfl k)))))))))))))))))))))))) ?_
  obtain ⟨T112, X112, e112, st112⟩ := getF X110 hx hZ hown (host := "") (Or.inl (ow 189 rfl)) Via.refl e110 C100 (g := (mkF m 170 #[sR b_, sR r_, sR l1_] [(.ref b_)])) rfl rfl (dc d44_170)
  obtain ⟨T113, X113, e113, st113⟩ := getF X112 hx hZ hown (host := "") (Or.inl (ow 194 rfl)) Via.refl e112 C97 (g := (mkF m 175 #[sR b_, sR r_, sR l1_] [(.ref b_), (.ref b_), (.ref A_)])) rfl rfl (dc d44_175)
  obtain ⟨T114, h114, X114, e114, W114, st114⟩ := putF X113 hx hZ hown (host := "") (Or.inl (ow 194 rfl)) Via.refl e113 C97 C95 (Or.inl (ow 195 rfl)) (ow 171 rfl) (ty := .int) (by decide) rfl rfl (g := (mkF m 181 #[sR b_, sR r_, sR l1_] [(.int 1), (.ref b_), (.int 1), (.ref A_)])) rfl rfl (dc d44_181)
  have C131 := C103.other W114 q2.symm
  have Z132 := own_leW W114 Z104
  have K133 := K105.wr W114 (Or.inl (List.mem_of_getElem? (i := 2) rfl))
  obtain ⟨T134, h134, X134, e134, W134, B134, st134⟩ := wrR X114 hx hZ e114 C131 (Or.inl rfl) (by decide) (g := (mkF m 185 #[sR b_, sR r_, sR l1_] [.null, (.int 1), (.ref A_)])) rfl rfl (dc d44_185)
  have C135 := ((C67.wr W86).wr W114).wr W134
  have C136 := ((((C28.same W46).other W66 (Or.inr (sn86 hw))).other W86 (Or.inr (sn94 hw))).other W114 (Or.inl q0.symm)).other W134 (Or.inl q4)
  have C137 := (((C49.same W66).other W86 (Or.inr (sn93 hw))).other W114 (Or.inl q0.symm)).other W134 (Or.inl q4)
  have C138 := ((C70.same W86).other W114 (Or.inl q0.symm)).other W134 (Or.inl q4)
  have C139 := (((((C9.wr W26).wr W46).wr W66).wr W86).wr W114).wr W134
  have C140 := (C92.other W114 (Or.inl q1.symm)).other W134 (Or.inl q13.symm)
  have C141 := (((((C11.same W26).other W46 (Or.inl q3.symm)).other W66 (Or.inl q3.symm)).other W86 (Or.inl q3.symm)).other W114 (Or.inl q1.symm)).other W134 (Or.inl q13.symm)
  have C142 := (C94.other W114 (Or.inl q1.symm)).other W134 (Or.inl q13.symm)
  have C143 := (C95.wr W114).wr W134
  have C144 := (C96.other W114 (Or.inr (sn68 hw))).other W134 (Or.inl q2)
  have C145 := (C97.same W114).other W134 (Or.inl q2)
  have C146 := ((((((p11.other W4 (Or.inl q1)).other W26 (Or.inl q1)).other W46 (Or.inl q0)).other W66 (Or.inl q0)).other W86 (Or.inl q0)).other W114 (Or.inr (sn67 hw))).other W134 (Or.inl q2)
  have C147 := ((((((p12.other W4 (Or.inl q1)).other W26 (Or.inl q1)).other W46 (Or.inl q0)).other W66 (Or.inl q0)).other W86 (Or.inl q0)).other W114 (Or.inr (sn69 hw))).other W134 (Or.inl q2)
  have C148 := (C100.other W114 (Or.inr (sn65 hw))).other W134 (Or.inl q2)
  have C149 := ((((((p14.wr W4).wr W26).wr W46).wr W66).wr W86).wr W114).wr W134
  have C150 := ((((((p15.other W4 (Or.inl q10)).other W26 (Or.inl q10)).other W46 (Or.inl q9)).other W66 (Or.inl q9)).other W86 (Or.inl q9)).other W114 (Or.inl q11)).other W134 (Or.inl q12)
  have Z151 := own_leW W134 Z132
  have K152 := K133.wr W134 (Or.inl (List.mem_of_getElem? (i := 3) rfl))
  have B134 : Rbk Z h134 A_ "com/example/uncross/uncross/engine/BookSide$Level" 64 (Upd (Upd (Upd (fun _ => Value.null) 0 (.ref l0_)) 1 (.ref l1_)) 1 .null) := B134
  obtain ⟨T153, X153, e153, st153⟩ := getF X134 hx hZ hown (host := "") (Or.inl (ow 194 rfl)) Via.refl e134 C145 (g := (mkF m 187 #[sR b_, sR r_, sR l1_] [(.ref b_)])) rfl rfl (dc d44_187)
  obtain ⟨T154, X154, e154, st154⟩ := getF X153 hx hZ hown (host := "") (Or.inl (ow 215 rfl)) Via.refl e153 C147 (g := (mkF m 242 #[sR b_, sR r_, sR l1_] [(.ref b_)])) rfl rfl (dc d44_242)
  refine Goes.on (T' := T154) (g' := (mkF m 245 #[sR b_, sR r_, sR l1_] [(.ref t_)])) (fun _ k => st112 _ (XS.aloadN X112.here hx rfl (dc d44_173) rfl rfl (XS.dup X112.here hx rfl (dc d44_174) rfl rfl (st113 _ (XS.iconst X113.here hx rfl (dc d44_178) (XS.isub X113.here hx rfl (dc d44_179) rfl (XT.dupX1 X113.here hx rfl (dc d44_180) rfl rfl rfl (st114 _ (XS.aconstNull X114.here hx rfl (dc d44_184) (st134 _ (XS.aloadN X134.here hx rfl (dc d44_186) rfl rfl (st153 _ (XS.iconst X153.here hx rfl (dc d44_190) (XS.icmpYes X153.here hx rfl (pc0 := 191) (pc' := 241) rfl (dc d44_191) rfl (XT.ii_le_t (by decide)) (by decide) (by decide) (XS.aloadN X153.here hx rfl (dc d44_241) rfl rfl (st154 _ k)))))))))))))))) ?_
  refine Goes.callU X154 hx hZ 0 hown (ow 266 rfl) (ow 267 rfl) (ow 268 rfl) (by decide) (ow 270 rfl) (ow 269 rfl) (ow 206 rfl) (ow 271 rfl) e154 C149 (rmTq l Z a0 hw t_ h134 n0 Z151  C149 C150 ) (by decide) (by decide) (by decide) (by decide) rfl (by rw [hml]; rfl) (argsL := []) (rest := []) rfl (lenOf pd_3 rfl) rfl (own_le20 rfl) (dc d44_245) ?_
  rintro v155 T155 L155 X155 ⟨rfl, N155q, e155⟩
  have N155 := Fr.app (Fr.snoc X134 (Fr.snoc X114 (Fr.snoc X86 (Fr.snoc X66 (Fr.snoc X46 (Fr.snoc X26 (Fr.snoc X4 (Fr.nil n0) g1) g1) g0) g0) g0) g2) g3) N155q
  show Goes p e below _ T155 (mkF m 248 #[sR b_, sR r_, sR l1_] [(.int 1)])
  have R156 : Rbk Z h134 A_ "com/example/uncross/uncross/engine/BookSide$Level" 64 (Upd (fun _ => Value.null) 0 (.ref l0_)) := Rbk.congr B134 own_cut1
  refine Goes.on (T' := T155) (g' := (mkF m 263 #[sR b_, sR r_, sR l1_] [])) (fun _ k => XS.ifYes X155.here hx rfl (pc0 := 248) (pc' := 263) rfl (dc d44_248) rfl (XT.i0_ne_t (by decide)) (by decide) (by decide) k) ?_
  exact Goes.retV X155 hx hlk hret (dc d44_263) (by decide) (by decide) (by rw [e155]; exact ⟨rfl, N155, K152, C135, C136, C137, C138, C139, C140, C141, C142, C143, C144, C145, C146, C147, C148, R156⟩)
theorem d44_194 : decode c44C 194 = .ok (.aload_n 0, 1) := by decide +kernel
theorem d44_195 : decode c44C 195 = .ok (.getfield 18, 3) := by decide +kernel
theorem d44_198 : decode c44C 198 = .ok (.aload_n 0, 1) := by decide +kernel
theorem d44_199 : decode c44C 199 = .ok (.getfield 26, 3) := by decide +kernel
theorem d44_202 : decode c44C 202 = .ok (.iconst 1, 1) := by decide +kernel
theorem d44_203 : decode c44C 203 = .ok (.isub, 1) := by decide +kernel
theorem d44_204 : decode c44C 204 = .ok (.aaload, 1) := by decide +kernel
theorem d44_205 : decode c44C 205 = .ok (.getfield 51, 3) := by decide +kernel
theorem d44_208 : decode c44C 208 = .ok (.ifnonnull 33, 3) := by decide +kernel
theorem rmRTop (l : Launch) (Z : State) (a0 : Array Value) (hw : TW Z a0) (b_ r_ m_ t_ A_ l0_ l1_ l2_ q_ : Addr) (h0 : Heap) (n0 : Nat) (Z0 : n0 ≤ h0.size) (p0 : Exa Z h0 r_ k1C) (p1 : Fld Z h0 r_ k1C "level" k5C (.ref l2_)) (p2 : Fld Z h0 r_ k1C "ahead" k4C .null) (p3 : Fld Z h0 r_ k1C "behind" k4C .null) (p4 : Exa Z h0 l2_ k2C) (p5 : Fld Z h0 l2_ k2C "first" k4C (.ref r_)) (p6 : Fld Z h0 l2_ k2C "last" k4C (.ref r_)) (p7 : Fld Z h0 l2_ k2C "deep" "Z" (.int (0 : Int32))) (p8 : Exa Z h0 b_ k0C) (p9 : Fld Z h0 b_ k0C "markets" k5C (.ref m_)) (p10 : Fld Z h0 b_ k0C "levelCount" "I" (.int (3 : Int32))) (p11 : Fld Z h0 b_ k0C "emptyLevels" "I" (.int (0 : Int32))) (p12 : Fld Z h0 b_ k0C "deep" k9C (.ref t_)) (p13 : Fld Z h0 b_ k0C "levels" k6C (.ref A_)) (p14 : Exa Z h0 t_ k12C) (p15 : Fld Z h0 t_ k12C "size" "I" (.int (0 : Int32))) (p16 : Rbk Z h0 A_ k2C 64 (Upd (Upd (Upd (fun _ => Value.null) 0 (.ref l0_)) 1 (.ref l1_)) 2 (.ref l2_))) (p17 : Exa Z h0 l1_ k2C) (p18 : Fld Z h0 l1_ k2C "first" k4C (.ref q_)) (q0 : b_ ≠ r_) (q1 : b_ ≠ l2_) (q2 : b_ ≠ A_) (q3 : r_ ≠ l2_) (q4 : r_ ≠ A_) (q5 : m_ ≠ r_) (q6 : m_ ≠ l2_) (q7 : m_ ≠ b_) (q8 : m_ ≠ A_) (q9 : t_ ≠ r_) (q10 : t_ ≠ l2_) (q11 : t_ ≠ b_) (q12 : t_ ≠ A_) (q13 : A_ ≠ l2_) (q14 : l0_ ≠ r_) (q15 : l0_ ≠ l2_) (q16 : l0_ ≠ b_) (q17 : l0_ ≠ A_) (q18 : l1_ ≠ r_) (q19 : l1_ ≠ l2_) (q20 : l1_ ≠ b_) (q21 : l1_ ≠ A_) (q22 : q_ ≠ r_) (q23 : q_ ≠ l2_) (q24 : q_ ≠ b_) (q25 : q_ ≠ A_) (g0 : n0 ≤ r_) (g1 : n0 ≤ l2_) (g2 : n0 ≤ b_) (g3 : n0 ≤ A_) :
    Pays l Z (⟨"com/example/uncross/uncross/engine/BookSide", "remove", "(Lcom/example/uncross/uncross/engine/BookSide$Resting;)V"⟩ : MethodName) prog_15_method_8_code 3 none [] ({ frames := 2, cells := 0, slots := 0, locals := 26 } : Room) #[(.ref b_), (.ref r_)] h0 (fun v h L => v = none ∧ Fr n0 L ∧ Keep h0 h [r_, l2_, b_, A_] ∧ Exa Z h r_ k1C ∧ Fld Z h r_ k1C "level" k5C .null ∧ Fld Z h r_ k1C "ahead" k4C .null ∧ Fld Z h r_ k1C "behind" k4C .null ∧ Exa Z h l2_ k2C ∧ Fld Z h l2_ k2C "first" k4C .null ∧ Fld Z h l2_ k2C "last" k4C .null ∧ Fld Z h l2_ k2C "deep" "Z" (.int (0 : Int32)) ∧ Exa Z h b_ k0C ∧ Fld Z h b_ k0C "markets" k5C (.ref m_) ∧ Fld Z h b_ k0C "levelCount" "I" (.int (2 : Int32)) ∧ Fld Z h b_ k0C "emptyLevels" "I" (.int (0 : Int32)) ∧ Fld Z h b_ k0C "deep" k9C (.ref t_) ∧ Fld Z h b_ k0C "levels" k6C (.ref A_) ∧ Rbk Z h A_ k2C 64 (Upd (Upd (fun _ => Value.null) 0 (.ref l0_)) 1 (.ref l1_))) := by
  refine Pays.walk (plainFor_of_name pn_13) (fun m => ef_15 m b_ r_ ) ?_
  intro p e s m below meth c T0 X0 hx hby hml hown hnm hZ e0 hret hlk
  have dc := @Jvm.hb _ _ hby
  have ow := @own_w Z a0 hw
  have K0 := Keep.refl h0 ([r_, l2_, b_, A_] : List Addr)
  obtain ⟨T4, h4, X4, e4, W4, st4⟩ := putF X0 hx hZ hown (host := "") (Or.inl (ow 228 rfl)) Via.refl e0 p5 p4 (Or.inl (ow 229 rfl)) (ow 178 rfl) (ty := (.object "com/example/uncross/uncross/engine/BookSide$Resting")) (by decide) rfl rfl (g := (mkF m 17 #[sR b_, sR r_, sR l2_] [.null, (.ref l2_)])) rfl rfl (dc d44_17)
  have C7 := p2.other W4 (Or.inl q3)
  have C8 := p3.other W4 (Or.inl q3)
  have C9 := p4.wr W4
  have C11 := p6.other W4 (Or.inr (sn89 hw))
  have Z24 := own_leW W4 Z0
  have K25 := K0.wr W4 (Or.inl (List.mem_of_getElem? (i := 1) rfl))
  obtain ⟨T28, h28, X28, e28, W28, st28⟩ := putF X4 hx hZ hown (host := "") (Or.inl (ow 248 rfl)) Via.refl e4 C11 C9 (Or.inl (ow 249 rfl)) (ow 178 rfl) (ty := (.object "com/example/uncross/uncross/engine/BookSide$Resting")) (by decide) rfl rfl (g := (mkF m 46 #[sR b_, sR r_, sR l2_] [.null, (.ref l2_)])) rfl rfl (dc d44_46)
  have C29 := (p0.wr W4).wr W28
  have C30 := (p1.other W4 (Or.inl q3)).other W28 (Or.inl q3)
  have Z48 := own_leW W28 Z24
  have K49 := K25.wr W28 (Or.inl (List.mem_of_getElem? (i := 1) rfl))
  obtain ⟨T50, h50, X50, e50, W50, st50⟩ := putFR X28 hx hZ hown (ow 246 rfl) e28 C30 C29 (ow 247 rfl) (ow 21 rfl) (ty := (.object "com/example/uncross/uncross/engine/BookSide$Level")) (by decide) rfl rfl (g := (mkF m 65 #[sR b_, sR r_, sR l2_] [.null, (.ref r_)])) rfl rfl (dc d44_65)
  have C51 := C29.wr W50
  have C53 := (C7.other W28 (Or.inl q3)).other W50 (Or.inr (sn83 hw))
  have Z70 := own_leW W50 Z48
  have K71 := K49.wr W50 (Or.inl (List.mem_of_getElem? (i := 0) rfl))
  refine Goes.on (T' := T50) (g' := (mkF m 70 #[sR b_, sR r_, sR l2_] [.null, (.ref r_)])) (fun _ k => XS.aloadN X0.here hx rfl (dc d44_0) rfl rfl (getFRm X0 hx hZ hown (ow 246 rfl) e0 p1 (dc d44_1) (XS.astoreN X0.here hx rfl (dc d44_4) rfl rfl (l' := #[sR b_, sR r_, sR l2_]) rfl (XS.aloadN X0.here hx rfl (dc d44_5) rfl rfl (getFRm X0 hx hZ hown (ow 250 rfl) e0 p2 (dc d44_6) (XT.ifnonnullNo X0.here hx rfl (dc d44_9) rfl (XS.aloadN X0.here hx rfl (dc d44_12) rfl rfl (XS.aloadN X0.here hx rfl (dc d44_13) rfl rfl (getFRm X0 hx hZ hown (ow 292 rfl) e0 p3 (dc d44_14) (st4 _ (XS.goto X4.here hx rfl (pc0 := 20) (pc' := 34) rfl (dc d44_20) (by decide) (by decide) (XS.aloadN X4.here hx rfl (dc d44_34) rfl rfl (getFRm X4 hx hZ hown (ow 292 rfl) e4 C8 (dc d44_35) (XT.ifnonnullNo X4.here hx rfl (dc d44_38) rfl (XS.aloadN X4.here hx rfl (dc d44_41) rfl rfl (XS.aloadN X4.here hx rfl (dc d44_42) rfl rfl (getFRm X4 hx hZ hown (ow 250 rfl) e4 C7 (dc d44_43) (st28 _ (XS.goto X28.here hx rfl (pc0 := 49) (pc' := 63) rfl (dc d44_49) (by decide) (by decide) (XS.aloadN X28.here hx rfl (dc d44_63) rfl rfl (XS.aconstNull X28.here hx rfl (dc d44_64) (st50 _ (XS.aloadN X50.here hx rfl (dc d44_68) rfl rfl (XS.aconstNull X50.here hx rfl (dc d44_69) k)))))))))))))))))))))))) ?_
  obtain ⟨T72, h72, X72, e72, W72, st72⟩ := putFR X50 hx hZ hown (ow 250 rfl) e50 C53 C51 (ow 251 rfl) (ow 21 rfl) (ty := (.object "com/example/uncross/uncross/engine/BookSide$Resting")) (by decide) rfl rfl (g := (mkF m 70 #[sR b_, sR r_, sR l2_] [.null, (.ref r_)])) rfl rfl (dc d44_70)
  have C73 := C51.wr W72
  have C76 := ((C8.other W28 (Or.inl q3)).other W50 (Or.inr (sn84 hw))).other W72 (Or.inr (sn87 hw))
  have Z92 := own_leW W72 Z70
  have K93 := K71.wr W72 (Or.inl (List.mem_of_getElem? (i := 0) rfl))
  obtain ⟨T94, h94, X94, e94, W94, st94⟩ := putFR X72 hx hZ hown (ow 292 rfl) e72 C76 C73 (ow 293 rfl) (ow 21 rfl) (ty := (.object "com/example/uncross/uncross/engine/BookSide$Resting")) (by decide) rfl rfl (g := (mkF m 75 #[sR b_, sR r_, sR l2_] [.null, (.ref r_)])) rfl rfl (dc d44_75)
  have C100 := ((((p5.same W4).other W28 (Or.inr (sn91 hw))).other W50 (Or.inl q3.symm)).other W72 (Or.inl q3.symm)).other W94 (Or.inl q3.symm)
  have C102 := ((((p7.other W4 (Or.inr (sn90 hw))).other W28 (Or.inr (sn92 hw))).other W50 (Or.inl q3.symm)).other W72 (Or.inl q3.symm)).other W94 (Or.inl q3.symm)
  have C103 := ((((p8.wr W4).wr W28).wr W50).wr W72).wr W94
  have C104 := ((((p9.other W4 (Or.inl q1)).other W28 (Or.inl q1)).other W50 (Or.inl q0)).other W72 (Or.inl q0)).other W94 (Or.inl q0)
  have C105 := ((((p10.other W4 (Or.inl q1)).other W28 (Or.inl q1)).other W50 (Or.inl q0)).other W72 (Or.inl q0)).other W94 (Or.inl q0)
  have C108 := ((((p13.other W4 (Or.inl q1)).other W28 (Or.inl q1)).other W50 (Or.inl q0)).other W72 (Or.inl q0)).other W94 (Or.inl q0)
  have C111 := ((((p16.other W4 q13).other W28 q13).other W50 q4.symm).other W72 q4.symm).other W94 q4.symm
  have Z114 := own_leW W94 Z92
  have K115 := K93.wr W94 (Or.inl (List.mem_of_getElem? (i := 0) rfl))
  obtain ⟨T116, X116, e116, st116⟩ := getF X94 hx hZ hown (host := "") (Or.inl (ow 228 rfl)) Via.refl e94 C100 (g := (mkF m 79 #[sR b_, sR r_, sR l2_] [(.ref l2_)])) rfl rfl (dc d44_79)
  obtain ⟨T117, X117, e117, st117⟩ := getF X116 hx hZ hown (host := "") (Or.inl (ow 186 rfl)) Via.refl e116 C104 (g := (mkF m 87 #[sR b_, sR r_, sR l2_] [(.ref b_), (.ref l2_)])) rfl rfl (dc d44_87)
  obtain ⟨T118, X118, e118, st118⟩ := getF X117 hx hZ hown (host := "") (Or.inl (ow 294 rfl)) Via.refl e117 C102 (g := (mkF m 95 #[sR b_, sR r_, sR l2_] [(.ref l2_)])) rfl rfl (dc d44_95)
  obtain ⟨T119, X119, e119, st119⟩ := getF X118 hx hZ hown (host := "") (Or.inl (ow 189 rfl)) Via.refl e118 C108 (g := (mkF m 119 #[sR b_, sR r_, sR l2_] [(.ref b_), (.ref l2_)])) rfl rfl (dc d44_119)
  obtain ⟨T120, X120, e120, st120⟩ := getF X119 hx hZ hown (host := "") (Or.inl (ow 194 rfl)) Via.refl e119 C105 (g := (mkF m 123 #[sR b_, sR r_, sR l2_] [(.ref b_), (.ref A_), (.ref l2_)])) rfl rfl (dc d44_123)
  refine Goes.on (T' := T120) (g' := (mkF m 170 #[sR b_, sR r_, sR l2_] [(.ref b_)])) (fun _ k => st72 _ (XS.aloadN X72.here hx rfl (dc d44_73) rfl rfl (XS.aconstNull X72.here hx rfl (dc d44_74) (st94 _ (XS.aloadN X94.here hx rfl (dc d44_78) rfl rfl (st116 _ (XT.ifnonnullNo X116.here hx rfl (dc d44_82) rfl (XS.aloadN X116.here hx rfl (dc d44_85) rfl rfl (XS.aloadN X116.here hx rfl (dc d44_86) rfl rfl (st117 _ (XT.acmpYes X117.here hx rfl (pc0 := 90) (pc' := 94) rfl (dc d44_90) rfl rfl rfl (XT.aa_ne_t (fun q => q6 (Value.ref.inj q).symm)) (by decide) (by decide) (XS.aloadN X117.here hx rfl (dc d44_94) rfl rfl (st118 _ (XS.ifYes X118.here hx rfl (pc0 := 98) (pc' := 117) rfl (dc d44_98) rfl (XT.i0_eq_t (by decide)) (by decide) (by decide) (XS.aloadN X118.here hx rfl (dc d44_117) rfl rfl (XS.aloadN X118.here hx rfl (dc d44_118) rfl rfl (st119 _ (XS.aloadN X119.here hx rfl (dc d44_122) rfl rfl (st120 _ (XS.iconst X120.here hx rfl (dc d44_126) (XS.isub X120.here hx rfl (dc d44_127) rfl (ldRm X120 hx hZ e120 C111 (by decide) (dc d44_128) (XT.acmpYes X120.here hx rfl (pc0 := 129) (pc' := 169) rfl (dc d44_129) rfl rfl rfl (XT.aa_eq_t rfl) (by decide) (by decide) (XS.aloadN X120.here hx rfl (dc d44_169) rfl rfl k)))))))))))))))))))))))) ?_
  obtain ⟨T122, X122, e122, st122⟩ := getF X120 hx hZ hown (host := "") (Or.inl (ow 189 rfl)) Via.refl e120 C108 (g := (mkF m 170 #[sR b_, sR r_, sR l2_] [(.ref b_)])) rfl rfl (dc d44_170)
  obtain ⟨T123, X123, e123, st123⟩ := getF X122 hx hZ hown (host := "") (Or.inl (ow 194 rfl)) Via.refl e122 C105 (g := (mkF m 175 #[sR b_, sR r_, sR l2_] [(.ref b_), (.ref b_), (.ref A_)])) rfl rfl (dc d44_175)
  obtain ⟨T124, h124, X124, e124, W124, st124⟩ := putF X123 hx hZ hown (host := "") (Or.inl (ow 194 rfl)) Via.refl e123 C105 C103 (Or.inl (ow 195 rfl)) (ow 171 rfl) (ty := .int) (by decide) rfl rfl (g := (mkF m 181 #[sR b_, sR r_, sR l2_] [(.int 2), (.ref b_), (.int 2), (.ref A_)])) rfl rfl (dc d44_181)
  have C141 := C111.other W124 q2.symm
  have Z144 := own_leW W124 Z114
  have K145 := K115.wr W124 (Or.inl (List.mem_of_getElem? (i := 2) rfl))
  obtain ⟨T146, h146, X146, e146, W146, B146, st146⟩ := wrR X124 hx hZ e124 C141 (Or.inl rfl) (by decide) (g := (mkF m 185 #[sR b_, sR r_, sR l2_] [.null, (.int 2), (.ref A_)])) rfl rfl (dc d44_185)
  have C147 := ((C73.wr W94).wr W124).wr W146
  have C148 := ((((C30.same W50).other W72 (Or.inr (sn86 hw))).other W94 (Or.inr (sn94 hw))).other W124 (Or.inl q0.symm)).other W146 (Or.inl q4)
  have C149 := (((C53.same W72).other W94 (Or.inr (sn93 hw))).other W124 (Or.inl q0.symm)).other W146 (Or.inl q4)
  have C150 := ((C76.same W94).other W124 (Or.inl q0.symm)).other W146 (Or.inl q4)
  have C151 := (((((C9.wr W28).wr W50).wr W72).wr W94).wr W124).wr W146
  have C152 := (C100.other W124 (Or.inl q1.symm)).other W146 (Or.inl q13.symm)
  have C153 := (((((C11.same W28).other W50 (Or.inl q3.symm)).other W72 (Or.inl q3.symm)).other W94 (Or.inl q3.symm)).other W124 (Or.inl q1.symm)).other W146 (Or.inl q13.symm)
  have C154 := (C102.other W124 (Or.inl q1.symm)).other W146 (Or.inl q13.symm)
  have C155 := (C103.wr W124).wr W146
  have C156 := (C104.other W124 (Or.inr (sn68 hw))).other W146 (Or.inl q2)
  have C157 := (C105.same W124).other W146 (Or.inl q2)
  have C158 := ((((((p11.other W4 (Or.inl q1)).other W28 (Or.inl q1)).other W50 (Or.inl q0)).other W72 (Or.inl q0)).other W94 (Or.inl q0)).other W124 (Or.inr (sn67 hw))).other W146 (Or.inl q2)
  have C159 := ((((((p12.other W4 (Or.inl q1)).other W28 (Or.inl q1)).other W50 (Or.inl q0)).other W72 (Or.inl q0)).other W94 (Or.inl q0)).other W124 (Or.inr (sn69 hw))).other W146 (Or.inl q2)
  have C160 := (C108.other W124 (Or.inr (sn65 hw))).other W146 (Or.inl q2)
  have C161 := ((((((p14.wr W4).wr W28).wr W50).wr W72).wr W94).wr W124).wr W146
  have C162 := ((((((p15.other W4 (Or.inl q10)).other W28 (Or.inl q10)).other W50 (Or.inl q9)).other W72 (Or.inl q9)).other W94 (Or.inl q9)).other W124 (Or.inl q11)).other W146 (Or.inl q12)
  have C164 := ((((((p18.other W4 (Or.inl q19)).other W28 (Or.inl q19)).other W50 (Or.inl q18)).other W72 (Or.inl q18)).other W94 (Or.inl q18)).other W124 (Or.inl q20)).other W146 (Or.inl q21)
  have Z165 := own_leW W146 Z144
  have K166 := K145.wr W146 (Or.inl (List.mem_of_getElem? (i := 3) rfl))
  have B146 : Rbk Z h146 A_ "com/example/uncross/uncross/engine/BookSide$Level" 64 (Upd (Upd (Upd (Upd (fun _ => Value.null) 0 (.ref l0_)) 1 (.ref l1_)) 2 (.ref l2_)) 2 .null) := B146
  obtain ⟨T167, X167, e167, st167⟩ := getF X146 hx hZ hown (host := "") (Or.inl (ow 194 rfl)) Via.refl e146 C157 (g := (mkF m 187 #[sR b_, sR r_, sR l2_] [(.ref b_)])) rfl rfl (dc d44_187)
  obtain ⟨T168, X168, e168, st168⟩ := getF X167 hx hZ hown (host := "") (Or.inl (ow 189 rfl)) Via.refl e167 C160 (g := (mkF m 195 #[sR b_, sR r_, sR l2_] [(.ref b_)])) rfl rfl (dc d44_195)
  obtain ⟨T169, X169, e169, st169⟩ := getF X168 hx hZ hown (host := "") (Or.inl (ow 194 rfl)) Via.refl e168 C157 (g := (mkF m 199 #[sR b_, sR r_, sR l2_] [(.ref b_), (.ref A_)])) rfl rfl (dc d44_199)
  obtain ⟨T171, X171, e171, st171⟩ := getF X169 hx hZ hown (host := "") (Or.inl (ow 228 rfl)) Via.refl e169 C164 (g := (mkF m 205 #[sR b_, sR r_, sR l2_] [(.ref l1_)])) rfl rfl (dc d44_205)
  refine Goes.on (T' := T171) (g' := (mkF m 242 #[sR b_, sR r_, sR l2_] [(.ref b_)])) (fun _ k => st122 _ (XS.aloadN X122.here hx rfl (dc d44_173) rfl rfl (XS.dup X122.here hx rfl (dc d44_174) rfl rfl (st123 _ (XS.iconst X123.here hx rfl (dc d44_178) (XS.isub X123.here hx rfl (dc d44_179) rfl (XT.dupX1 X123.here hx rfl (dc d44_180) rfl rfl rfl (st124 _ (XS.aconstNull X124.here hx rfl (dc d44_184) (st146 _ (XS.aloadN X146.here hx rfl (dc d44_186) rfl rfl (st167 _ (XS.iconst X167.here hx rfl (dc d44_190) (XS.icmpNo X167.here hx rfl (dc d44_191) rfl (XT.ii_le_f (by decide)) (XS.aloadN X167.here hx rfl (dc d44_194) rfl rfl (st168 _ (XS.aloadN X168.here hx rfl (dc d44_198) rfl rfl (st169 _ (XS.iconst X169.here hx rfl (dc d44_202) (XS.isub X169.here hx rfl (dc d44_203) rfl (ldRm X169 hx hZ e169 B146 (by decide) (dc d44_204) (st171 _ (XT.ifnonnullYes X171.here hx rfl (pc0 := 208) (pc' := 241) rfl (dc d44_208) rfl (by decide) (by decide) (XS.aloadN X171.here hx rfl (dc d44_241) rfl rfl k)))))))))))))))))))))))) ?_
  obtain ⟨T172, X172, e172, st172⟩ := getF X171 hx hZ hown (host := "") (Or.inl (ow 215 rfl)) Via.refl e171 C159 (g := (mkF m 242 #[sR b_, sR r_, sR l2_] [(.ref b_)])) rfl rfl (dc d44_242)
  refine Goes.on (T' := T172) (g' := (mkF m 245 #[sR b_, sR r_, sR l2_] [(.ref t_)])) (fun _ k => st172 _ k) ?_
  refine Goes.callU X172 hx hZ 0 hown (ow 266 rfl) (ow 267 rfl) (ow 268 rfl) (by decide) (ow 270 rfl) (ow 269 rfl) (ow 206 rfl) (ow 271 rfl) e172 C161 (rmTq l Z a0 hw t_ h146 n0 Z165  C161 C162 ) (by decide) (by decide) (by decide) (by decide) rfl (by rw [hml]; rfl) (argsL := []) (rest := []) rfl (lenOf pd_3 rfl) rfl (own_le20 rfl) (dc d44_245) ?_
  rintro v173 T173 L173 X173 ⟨rfl, N173q, e173⟩
  have N173 := Fr.app (Fr.snoc X146 (Fr.snoc X124 (Fr.snoc X94 (Fr.snoc X72 (Fr.snoc X50 (Fr.snoc X28 (Fr.snoc X4 (Fr.nil n0) g1) g1) g0) g0) g0) g2) g3) N173q
  show Goes p e below _ T173 (mkF m 248 #[sR b_, sR r_, sR l2_] [(.int 1)])
  have R174 : Rbk Z h146 A_ "com/example/uncross/uncross/engine/BookSide$Level" 64 (Upd (Upd (fun _ => Value.null) 0 (.ref l0_)) 1 (.ref l1_)) := Rbk.congr B146 own_cut2
  refine Goes.on (T' := T173) (g' := (mkF m 263 #[sR b_, sR r_, sR l2_] [])) (fun _ k => XS.ifYes X173.here hx rfl (pc0 := 248) (pc' := 263) rfl (dc d44_248) rfl (XT.i0_ne_t (by decide)) (by decide) (by decide) k) ?_
  exact Goes.retV X173 hx hlk hret (dc d44_263) (by decide) (by decide) (by rw [e173]; exact ⟨rfl, N173, K166, C147, C148, C149, C150, C151, C152, C153, C154, C155, C156, C157, C158, C159, C160, R174⟩)
theorem d44_211 : decode c44C 211 = .ok (.aload_n 0, 1) := by decide +kernel
theorem d44_212 : decode c44C 212 = .ok (.getfield 18, 3) := by decide +kernel
theorem d44_215 : decode c44C 215 = .ok (.aload_n 0, 1) := by decide +kernel
theorem d44_216 : decode c44C 216 = .ok (.dup, 1) := by decide +kernel
theorem d44_217 : decode c44C 217 = .ok (.getfield 26, 3) := by decide +kernel
theorem d44_220 : decode c44C 220 = .ok (.iconst 1, 1) := by decide +kernel
theorem d44_221 : decode c44C 221 = .ok (.isub, 1) := by decide +kernel
theorem d44_222 : decode c44C 222 = .ok (.dup_x1, 1) := by decide +kernel
theorem d44_223 : decode c44C 223 = .ok (.putfield 26, 3) := by decide +kernel
theorem d44_226 : decode c44C 226 = .ok (.aconst_null, 1) := by decide +kernel
theorem d44_227 : decode c44C 227 = .ok (.aastore, 1) := by decide +kernel
theorem d44_228 : decode c44C 228 = .ok (.aload_n 0, 1) := by decide +kernel
theorem d44_229 : decode c44C 229 = .ok (.dup, 1) := by decide +kernel
theorem d44_230 : decode c44C 230 = .ok (.getfield 137, 3) := by decide +kernel
theorem d44_233 : decode c44C 233 = .ok (.iconst 1, 1) := by decide +kernel
theorem d44_234 : decode c44C 234 = .ok (.isub, 1) := by decide +kernel
theorem d44_235 : decode c44C 235 = .ok (.putfield 137, 3) := by decide +kernel
theorem d44_238 : decode c44C 238 = .ok (.goto (-52), 3) := by decide +kernel
def sn97 {Z : State} {a0 : Array Value} (hw : TW Z a0) := slot_ne (Or.inr (own_w hw 187 rfl)) (Or.inl (own_w hw 303 rfl)) (by decide) (t := (.object "com/example/uncross/uncross/engine/BookSide$Level")) (by decide) (t' := .int) (by decide)
def sn98 {Z : State} {a0 : Array Value} (hw : TW Z a0) := slot_ne (Or.inl (own_w hw 195 rfl)) (Or.inl (own_w hw 303 rfl)) (by decide) (t := .int) (by decide) (t' := .int) (by decide)
def sn99 {Z : State} {a0 : Array Value} (hw : TW Z a0) := slot_ne (Or.inr (own_w hw 216 rfl)) (Or.inl (own_w hw 303 rfl)) (by decide) (t := (.object "java/util/TreeMap")) (by decide) (t' := .int) (by decide)
def sn100 {Z : State} {a0 : Array Value} (hw : TW Z a0) := slot_ne (Or.inl (own_w hw 190 rfl)) (Or.inl (own_w hw 303 rfl)) (by decide) (t := (.array (.object "com/example/uncross/uncross/engine/BookSide$Level"))) (by decide) (t' := .int) (by decide)
theorem rmRTopE (l : Launch) (Z : State) (a0 : Array Value) (hw : TW Z a0) (b_ r_ m_ t_ A_ l0_ l1_ l2_ : Addr) (h0 : Heap) (n0 : Nat) (Z0 : n0 ≤ h0.size) (p0 : Exa Z h0 r_ k1C) (p1 : Fld Z h0 r_ k1C "level" k5C (.ref l2_)) (p2 : Fld Z h0 r_ k1C "ahead" k4C .null) (p3 : Fld Z h0 r_ k1C "behind" k4C .null) (p4 : Exa Z h0 l2_ k2C) (p5 : Fld Z h0 l2_ k2C "first" k4C (.ref r_)) (p6 : Fld Z h0 l2_ k2C "last" k4C (.ref r_)) (p7 : Fld Z h0 l2_ k2C "deep" "Z" (.int (0 : Int32))) (p8 : Exa Z h0 b_ k0C) (p9 : Fld Z h0 b_ k0C "markets" k5C (.ref m_)) (p10 : Fld Z h0 b_ k0C "levelCount" "I" (.int (3 : Int32))) (p11 : Fld Z h0 b_ k0C "emptyLevels" "I" (.int (1 : Int32))) (p12 : Fld Z h0 b_ k0C "deep" k9C (.ref t_)) (p13 : Fld Z h0 b_ k0C "levels" k6C (.ref A_)) (p14 : Exa Z h0 t_ k12C) (p15 : Fld Z h0 t_ k12C "size" "I" (.int (0 : Int32))) (p16 : Rbk Z h0 A_ k2C 64 (Upd (Upd (Upd (fun _ => Value.null) 0 (.ref l0_)) 1 (.ref l1_)) 2 (.ref l2_))) (p17 : Exa Z h0 l1_ k2C) (p18 : Fld Z h0 l1_ k2C "first" k4C .null) (q0 : b_ ≠ r_) (q1 : b_ ≠ l2_) (q2 : b_ ≠ A_) (q3 : r_ ≠ l2_) (q4 : r_ ≠ A_) (q5 : m_ ≠ r_) (q6 : m_ ≠ l2_) (q7 : m_ ≠ b_) (q8 : m_ ≠ A_) (q9 : t_ ≠ r_) (q10 : t_ ≠ l2_) (q11 : t_ ≠ b_) (q12 : t_ ≠ A_) (q13 : A_ ≠ l2_) (q14 : l0_ ≠ r_) (q15 : l0_ ≠ l2_) (q16 : l0_ ≠ b_) (q17 : l0_ ≠ A_) (q18 : l1_ ≠ r_) (q19 : l1_ ≠ l2_) (q20 : l1_ ≠ b_) (q21 : l1_ ≠ A_) (g0 : n0 ≤ r_) (g1 : n0 ≤ l2_) (g2 : n0 ≤ b_) (g3 : n0 ≤ A_) :
    Pays l Z (⟨"com/example/uncross/uncross/engine/BookSide", "remove", "(Lcom/example/uncross/uncross/engine/BookSide$Resting;)V"⟩ : MethodName) prog_15_method_8_code 3 none [] ({ frames := 2, cells := 0, slots := 0, locals := 26 } : Room) #[(.ref b_), (.ref r_)] h0 (fun v h L => v = none ∧ Fr n0 L ∧ Keep h0 h [r_, l2_, b_, A_] ∧ Exa Z h r_ k1C ∧ Fld Z h r_ k1C "level" k5C .null ∧ Fld Z h r_ k1C "ahead" k4C .null ∧ Fld Z h r_ k1C "behind" k4C .null ∧ Exa Z h l2_ k2C ∧ Fld Z h l2_ k2C "first" k4C .null ∧ Fld Z h l2_ k2C "last" k4C .null ∧ Fld Z h l2_ k2C "deep" "Z" (.int (0 : Int32)) ∧ Exa Z h b_ k0C ∧ Fld Z h b_ k0C "markets" k5C (.ref m_) ∧ Fld Z h b_ k0C "levelCount" "I" (.int (1 : Int32)) ∧ Fld Z h b_ k0C "emptyLevels" "I" (.int (0 : Int32)) ∧ Fld Z h b_ k0C "deep" k9C (.ref t_) ∧ Fld Z h b_ k0C "levels" k6C (.ref A_) ∧ Rbk Z h A_ k2C 64 (Upd (fun _ => Value.null) 0 (.ref l0_))) := by
  refine Pays.walk (plainFor_of_name pn_13) (fun m => ef_15 m b_ r_ ) ?_
  intro p e s m below meth c T0 X0 hx hby hml hown hnm hZ e0 hret hlk
  have dc := @Jvm.hb _ _ hby
  have ow := @own_w Z a0 hw
  have K0 := Keep.refl h0 ([r_, l2_, b_, A_] : List Addr)
  obtain ⟨T4, h4, X4, e4, W4, st4⟩ := putF X0 hx hZ hown (host := "") (Or.inl (ow 228 rfl)) Via.refl e0 p5 p4 (Or.inl (ow 229 rfl)) (ow 178 rfl) (ty := (.object "com/example/uncross/uncross/engine/BookSide$Resting")) (by decide) rfl rfl (g := (mkF m 17 #[sR b_, sR r_, sR l2_] [.null, (.ref l2_)])) rfl rfl (dc d44_17)
  have C7 := p2.other W4 (Or.inl q3)
  have C8 := p3.other W4 (Or.inl q3)
  have C9 := p4.wr W4
  have C11 := p6.other W4 (Or.inr (sn89 hw))
  have Z24 := own_leW W4 Z0
  have K25 := K0.wr W4 (Or.inl (List.mem_of_getElem? (i := 1) rfl))
  obtain ⟨T28, h28, X28, e28, W28, st28⟩ := putF X4 hx hZ hown (host := "") (Or.inl (ow 248 rfl)) Via.refl e4 C11 C9 (Or.inl (ow 249 rfl)) (ow 178 rfl) (ty := (.object "com/example/uncross/uncross/engine/BookSide$Resting")) (by decide) rfl rfl (g := (mkF m 46 #[sR b_, sR r_, sR l2_] [.null, (.ref l2_)])) rfl rfl (dc d44_46)
  have C29 := (p0.wr W4).wr W28
  have C30 := (p1.other W4 (Or.inl q3)).other W28 (Or.inl q3)
  have Z48 := own_leW W28 Z24
  have K49 := K25.wr W28 (Or.inl (List.mem_of_getElem? (i := 1) rfl))
  obtain ⟨T50, h50, X50, e50, W50, st50⟩ := putFR X28 hx hZ hown (ow 246 rfl) e28 C30 C29 (ow 247 rfl) (ow 21 rfl) (ty := (.object "com/example/uncross/uncross/engine/BookSide$Level")) (by decide) rfl rfl (g := (mkF m 65 #[sR b_, sR r_, sR l2_] [.null, (.ref r_)])) rfl rfl (dc d44_65)
  have C51 := C29.wr W50
  have C53 := (C7.other W28 (Or.inl q3)).other W50 (Or.inr (sn83 hw))
  have Z70 := own_leW W50 Z48
  have K71 := K49.wr W50 (Or.inl (List.mem_of_getElem? (i := 0) rfl))
  refine Goes.on (T' := T50) (g' := (mkF m 70 #[sR b_, sR r_, sR l2_] [.null, (.ref r_)])) (fun _ k => XS.aloadN X0.here hx rfl (dc d44_0) rfl rfl (getFRm X0 hx hZ hown (ow 246 rfl) e0 p1 (dc d44_1) (XS.astoreN X0.here hx rfl (dc d44_4) rfl rfl (l' := #[sR b_, sR r_, sR l2_]) rfl (XS.aloadN X0.here hx rfl (dc d44_5) rfl rfl (getFRm X0 hx hZ hown (ow 250 rfl) e0 p2 (dc d44_6) (XT.ifnonnullNo X0.here hx rfl (dc d44_9) rfl (XS.aloadN X0.here hx rfl (dc d44_12) rfl rfl (XS.aloadN X0.here hx rfl (dc d44_13) rfl rfl (getFRm X0 hx hZ hown (ow 292 rfl) e0 p3 (dc d44_14) (st4 _ (XS.goto X4.here hx rfl (pc0 := 20) (pc' := 34) rfl (dc d44_20) (by decide) (by decide) (XS.aloadN X4.here hx rfl (dc d44_34) rfl rfl (getFRm X4 hx hZ hown (ow 292 rfl) e4 C8 (dc d44_35) (XT.ifnonnullNo X4.here hx rfl (dc d44_38) rfl (XS.aloadN X4.here hx rfl (dc d44_41) rfl rfl (XS.aloadN X4.here hx rfl (dc d44_42) rfl rfl (getFRm X4 hx hZ hown (ow 250 rfl) e4 C7 (dc d44_43) (st28 _ (XS.goto X28.here hx rfl (pc0 := 49) (pc' := 63) rfl (dc d44_49) (by decide) (by decide) (XS.aloadN X28.here hx rfl (dc d44_63) rfl rfl (XS.aconstNull X28.here hx rfl (dc d44_64) (st50 _ (XS.aloadN X50.here hx rfl (dc d44_68) rfl rfl (XS.aconstNull X50.here hx rfl (dc d44_69) k)))))))))))))))))))))))) ?_
  obtain ⟨T72, h72, X72, e72, W72, st72⟩ := putFR X50 hx hZ hown (ow 250 rfl) e50 C53 C51 (ow 251 rfl) (ow 21 rfl) (ty := (.object "com/example/uncross/uncross/engine/BookSide$Resting")) (by decide) rfl rfl (g := (mkF m 70 #[sR b_, sR r_, sR l2_] [.null, (.ref r_)])) rfl rfl (dc d44_70)
  have C73 := C51.wr W72
  have C76 := ((C8.other W28 (Or.inl q3)).other W50 (Or.inr (sn84 hw))).other W72 (Or.inr (sn87 hw))
  have Z92 := own_leW W72 Z70
  have K93 := K71.wr W72 (Or.inl (List.mem_of_getElem? (i := 0) rfl))
  obtain ⟨T94, h94, X94, e94, W94, st94⟩ := putFR X72 hx hZ hown (ow 292 rfl) e72 C76 C73 (ow 293 rfl) (ow 21 rfl) (ty := (.object "com/example/uncross/uncross/engine/BookSide$Resting")) (by decide) rfl rfl (g := (mkF m 75 #[sR b_, sR r_, sR l2_] [.null, (.ref r_)])) rfl rfl (dc d44_75)
  have C100 := ((((p5.same W4).other W28 (Or.inr (sn91 hw))).other W50 (Or.inl q3.symm)).other W72 (Or.inl q3.symm)).other W94 (Or.inl q3.symm)
  have C102 := ((((p7.other W4 (Or.inr (sn90 hw))).other W28 (Or.inr (sn92 hw))).other W50 (Or.inl q3.symm)).other W72 (Or.inl q3.symm)).other W94 (Or.inl q3.symm)
  have C103 := ((((p8.wr W4).wr W28).wr W50).wr W72).wr W94
  have C104 := ((((p9.other W4 (Or.inl q1)).other W28 (Or.inl q1)).other W50 (Or.inl q0)).other W72 (Or.inl q0)).other W94 (Or.inl q0)
  have C105 := ((((p10.other W4 (Or.inl q1)).other W28 (Or.inl q1)).other W50 (Or.inl q0)).other W72 (Or.inl q0)).other W94 (Or.inl q0)
  have C108 := ((((p13.other W4 (Or.inl q1)).other W28 (Or.inl q1)).other W50 (Or.inl q0)).other W72 (Or.inl q0)).other W94 (Or.inl q0)
  have C111 := ((((p16.other W4 q13).other W28 q13).other W50 q4.symm).other W72 q4.symm).other W94 q4.symm
  have Z114 := own_leW W94 Z92
  have K115 := K93.wr W94 (Or.inl (List.mem_of_getElem? (i := 0) rfl))
  obtain ⟨T116, X116, e116, st116⟩ := getF X94 hx hZ hown (host := "") (Or.inl (ow 228 rfl)) Via.refl e94 C100 (g := (mkF m 79 #[sR b_, sR r_, sR l2_] [(.ref l2_)])) rfl rfl (dc d44_79)
  obtain ⟨T117, X117, e117, st117⟩ := getF X116 hx hZ hown (host := "") (Or.inl (ow 186 rfl)) Via.refl e116 C104 (g := (mkF m 87 #[sR b_, sR r_, sR l2_] [(.ref b_), (.ref l2_)])) rfl rfl (dc d44_87)
  obtain ⟨T118, X118, e118, st118⟩ := getF X117 hx hZ hown (host := "") (Or.inl (ow 294 rfl)) Via.refl e117 C102 (g := (mkF m 95 #[sR b_, sR r_, sR l2_] [(.ref l2_)])) rfl rfl (dc d44_95)
  obtain ⟨T119, X119, e119, st119⟩ := getF X118 hx hZ hown (host := "") (Or.inl (ow 189 rfl)) Via.refl e118 C108 (g := (mkF m 119 #[sR b_, sR r_, sR l2_] [(.ref b_), (.ref l2_)])) rfl rfl (dc d44_119)
  obtain ⟨T120, X120, e120, st120⟩ := getF X119 hx hZ hown (host := "") (Or.inl (ow 194 rfl)) Via.refl e119 C105 (g := (mkF m 123 #[sR b_, sR r_, sR l2_] [(.ref b_), (.ref A_), (.ref l2_)])) rfl rfl (dc d44_123)
  refine Goes.on (T' := T120) (g' := (mkF m 170 #[sR b_, sR r_, sR l2_] [(.ref b_)])) (fun _ k => st72 _ (XS.aloadN X72.here hx rfl (dc d44_73) rfl rfl (XS.aconstNull X72.here hx rfl (dc d44_74) (st94 _ (XS.aloadN X94.here hx rfl (dc d44_78) rfl rfl (st116 _ (XT.ifnonnullNo X116.here hx rfl (dc d44_82) rfl (XS.aloadN X116.here hx rfl (dc d44_85) rfl rfl (XS.aloadN X116.here hx rfl (dc d44_86) rfl rfl (st117 _ (XT.acmpYes X117.here hx rfl (pc0 := 90) (pc' := 94) rfl (dc d44_90) rfl rfl rfl (XT.aa_ne_t (fun q => q6 (Value.ref.inj q).symm)) (by decide) (by decide) (XS.aloadN X117.here hx rfl (dc d44_94) rfl rfl (st118 _ (XS.ifYes X118.here hx rfl (pc0 := 98) (pc' := 117) rfl (dc d44_98) rfl (XT.i0_eq_t (by decide)) (by decide) (by decide) (XS.aloadN X118.here hx rfl (dc d44_117) rfl rfl (XS.aloadN X118.here hx rfl (dc d44_118) rfl rfl (st119 _ (XS.aloadN X119.here hx rfl (dc d44_122) rfl rfl (st120 _ (XS.iconst X120.here hx rfl (dc d44_126) (XS.isub X120.here hx rfl (dc d44_127) rfl (ldRm X120 hx hZ e120 C111 (by decide) (dc d44_128) (XT.acmpYes X120.here hx rfl (pc0 := 129) (pc' := 169) rfl (dc d44_129) rfl rfl rfl (XT.aa_eq_t rfl) (by decide) (by decide) (XS.aloadN X120.here hx rfl (dc d44_169) rfl rfl k)))))))))))))))))))))))) ?_
  obtain ⟨T122, X122, e122, st122⟩ := getF X120 hx hZ hown (host := "") (Or.inl (ow 189 rfl)) Via.refl e120 C108 (g := (mkF m 170 #[sR b_, sR r_, sR l2_] [(.ref b_)])) rfl rfl (dc d44_170)
  obtain ⟨T123, X123, e123, st123⟩ := getF X122 hx hZ hown (host := "") (Or.inl (ow 194 rfl)) Via.refl e122 C105 (g := (mkF m 175 #[sR b_, sR r_, sR l2_] [(.ref b_), (.ref b_), (.ref A_)])) rfl rfl (dc d44_175)
  obtain ⟨T124, h124, X124, e124, W124, st124⟩ := putF X123 hx hZ hown (host := "") (Or.inl (ow 194 rfl)) Via.refl e123 C105 C103 (Or.inl (ow 195 rfl)) (ow 171 rfl) (ty := .int) (by decide) rfl rfl (g := (mkF m 181 #[sR b_, sR r_, sR l2_] [(.int 2), (.ref b_), (.int 2), (.ref A_)])) rfl rfl (dc d44_181)
  have C141 := C111.other W124 q2.symm
  have Z144 := own_leW W124 Z114
  have K145 := K115.wr W124 (Or.inl (List.mem_of_getElem? (i := 2) rfl))
  obtain ⟨T146, h146, X146, e146, W146, B146, st146⟩ := wrR X124 hx hZ e124 C141 (Or.inl rfl) (by decide) (g := (mkF m 185 #[sR b_, sR r_, sR l2_] [.null, (.int 2), (.ref A_)])) rfl rfl (dc d44_185)
  have C155 := (C103.wr W124).wr W146
  have C157 := (C105.same W124).other W146 (Or.inl q2)
  have C160 := (C108.other W124 (Or.inr (sn65 hw))).other W146 (Or.inl q2)
  have C164 := ((((((p18.other W4 (Or.inl q19)).other W28 (Or.inl q19)).other W50 (Or.inl q18)).other W72 (Or.inl q18)).other W94 (Or.inl q18)).other W124 (Or.inl q20)).other W146 (Or.inl q21)
  have Z165 := own_leW W146 Z144
  have K166 := K145.wr W146 (Or.inl (List.mem_of_getElem? (i := 3) rfl))
  have B146 : Rbk Z h146 A_ "com/example/uncross/uncross/engine/BookSide$Level" 64 (Upd (Upd (Upd (Upd (fun _ => Value.null) 0 (.ref l0_)) 1 (.ref l1_)) 2 (.ref l2_)) 2 .null) := B146
  obtain ⟨T167, X167, e167, st167⟩ := getF X146 hx hZ hown (host := "") (Or.inl (ow 194 rfl)) Via.refl e146 C157 (g := (mkF m 187 #[sR b_, sR r_, sR l2_] [(.ref b_)])) rfl rfl (dc d44_187)
  obtain ⟨T168, X168, e168, st168⟩ := getF X167 hx hZ hown (host := "") (Or.inl (ow 189 rfl)) Via.refl e167 C160 (g := (mkF m 195 #[sR b_, sR r_, sR l2_] [(.ref b_)])) rfl rfl (dc d44_195)
  obtain ⟨T169, X169, e169, st169⟩ := getF X168 hx hZ hown (host := "") (Or.inl (ow 194 rfl)) Via.refl e168 C157 (g := (mkF m 199 #[sR b_, sR r_, sR l2_] [(.ref b_), (.ref A_)])) rfl rfl (dc d44_199)
  obtain ⟨T171, X171, e171, st171⟩ := getF X169 hx hZ hown (host := "") (Or.inl (ow 228 rfl)) Via.refl e169 C164 (g := (mkF m 205 #[sR b_, sR r_, sR l2_] [(.ref l1_)])) rfl rfl (dc d44_205)
  refine Goes.on (T' := T171) (g' := (mkF m 212 #[sR b_, sR r_, sR l2_] [(.ref b_)])) (fun _ k => st122 _ (XS.aloadN X122.here hx rfl (dc d44_173) rfl rfl (XS.dup X122.here hx rfl (dc d44_174) rfl rfl (st123 _ (XS.iconst X123.here hx rfl (dc d44_178) (XS.isub X123.here hx rfl (dc d44_179) rfl (XT.dupX1 X123.here hx rfl (dc d44_180) rfl rfl rfl (st124 _ (XS.aconstNull X124.here hx rfl (dc d44_184) (st146 _ (XS.aloadN X146.here hx rfl (dc d44_186) rfl rfl (st167 _ (XS.iconst X167.here hx rfl (dc d44_190) (XS.icmpNo X167.here hx rfl (dc d44_191) rfl (XT.ii_le_f (by decide)) (XS.aloadN X167.here hx rfl (dc d44_194) rfl rfl (st168 _ (XS.aloadN X168.here hx rfl (dc d44_198) rfl rfl (st169 _ (XS.iconst X169.here hx rfl (dc d44_202) (XS.isub X169.here hx rfl (dc d44_203) rfl (ldRm X169 hx hZ e169 B146 (by decide) (dc d44_204) (st171 _ (XT.ifnonnullNo X171.here hx rfl (dc d44_208) rfl (XS.aloadN X171.here hx rfl (dc d44_211) rfl rfl k)))))))))))))))))))))))) ?_
  obtain ⟨T172, X172, e172, st172⟩ := getF X171 hx hZ hown (host := "") (Or.inl (ow 189 rfl)) Via.refl e171 C160 (g := (mkF m 212 #[sR b_, sR r_, sR l2_] [(.ref b_)])) rfl rfl (dc d44_212)
  obtain ⟨T173, X173, e173, st173⟩ := getF X172 hx hZ hown (host := "") (Or.inl (ow 194 rfl)) Via.refl e172 C157 (g := (mkF m 217 #[sR b_, sR r_, sR l2_] [(.ref b_), (.ref b_), (.ref A_)])) rfl rfl (dc d44_217)
  obtain ⟨T174, h174, X174, e174, W174, st174⟩ := putF X173 hx hZ hown (host := "") (Or.inl (ow 194 rfl)) Via.refl e173 C157 C155 (Or.inl (ow 195 rfl)) (ow 171 rfl) (ty := .int) (by decide) rfl rfl (g := (mkF m 223 #[sR b_, sR r_, sR l2_] [(.int 1), (.ref b_), (.int 1), (.ref A_)])) rfl rfl (dc d44_223)
  have C191 := B146.other W174 q2.symm
  have Z194 := own_leW W174 Z165
  have K195 := K166.wr W174 (Or.inl (List.mem_of_getElem? (i := 2) rfl))
  obtain ⟨T196, h196, X196, e196, W196, B196, st196⟩ := wrR X174 hx hZ e174 C191 (Or.inl rfl) (by decide) (g := (mkF m 227 #[sR b_, sR r_, sR l2_] [.null, (.int 1), (.ref A_)])) rfl rfl (dc d44_227)
  have C205 := (C155.wr W174).wr W196
  have C208 := ((((((((p11.other W4 (Or.inl q1)).other W28 (Or.inl q1)).other W50 (Or.inl q0)).other W72 (Or.inl q0)).other W94 (Or.inl q0)).other W124 (Or.inr (sn67 hw))).other W146 (Or.inl q2)).other W174 (Or.inr (sn67 hw))).other W196 (Or.inl q2)
  have Z215 := own_leW W196 Z194
  have K216 := K195.wr W196 (Or.inl (List.mem_of_getElem? (i := 3) rfl))
  have B196 : Rbk Z h196 A_ "com/example/uncross/uncross/engine/BookSide$Level" 64 (Upd (Upd (Upd (Upd (Upd (fun _ => Value.null) 0 (.ref l0_)) 1 (.ref l1_)) 2 (.ref l2_)) 2 .null) 1 .null) := B196
  obtain ⟨T217, X217, e217, st217⟩ := getF X196 hx hZ hown (host := "") (Or.inl (ow 302 rfl)) Via.refl e196 C208 (g := (mkF m 230 #[sR b_, sR r_, sR l2_] [(.ref b_), (.ref b_)])) rfl rfl (dc d44_230)
  obtain ⟨T218, h218, X218, e218, W218, st218⟩ := putF X217 hx hZ hown (host := "") (Or.inl (ow 302 rfl)) Via.refl e217 C208 C205 (Or.inl (ow 303 rfl)) (ow 171 rfl) (ty := .int) (by decide) rfl rfl (g := (mkF m 235 #[sR b_, sR r_, sR l2_] [(.int 0), (.ref b_)])) rfl rfl (dc d44_235)
  have C219 := (((((C73.wr W94).wr W124).wr W146).wr W174).wr W196).wr W218
  have C220 := (((((((C30.same W50).other W72 (Or.inr (sn86 hw))).other W94 (Or.inr (sn94 hw))).other W124 (Or.inl q0.symm)).other W146 (Or.inl q4)).other W174 (Or.inl q0.symm)).other W196 (Or.inl q4)).other W218 (Or.inl q0.symm)
  have C221 := ((((((C53.same W72).other W94 (Or.inr (sn93 hw))).other W124 (Or.inl q0.symm)).other W146 (Or.inl q4)).other W174 (Or.inl q0.symm)).other W196 (Or.inl q4)).other W218 (Or.inl q0.symm)
  have C222 := (((((C76.same W94).other W124 (Or.inl q0.symm)).other W146 (Or.inl q4)).other W174 (Or.inl q0.symm)).other W196 (Or.inl q4)).other W218 (Or.inl q0.symm)
  have C223 := ((((((((C9.wr W28).wr W50).wr W72).wr W94).wr W124).wr W146).wr W174).wr W196).wr W218
  have C224 := ((((C100.other W124 (Or.inl q1.symm)).other W146 (Or.inl q13.symm)).other W174 (Or.inl q1.symm)).other W196 (Or.inl q13.symm)).other W218 (Or.inl q1.symm)
  have C225 := ((((((((C11.same W28).other W50 (Or.inl q3.symm)).other W72 (Or.inl q3.symm)).other W94 (Or.inl q3.symm)).other W124 (Or.inl q1.symm)).other W146 (Or.inl q13.symm)).other W174 (Or.inl q1.symm)).other W196 (Or.inl q13.symm)).other W218 (Or.inl q1.symm)
  have C226 := ((((C102.other W124 (Or.inl q1.symm)).other W146 (Or.inl q13.symm)).other W174 (Or.inl q1.symm)).other W196 (Or.inl q13.symm)).other W218 (Or.inl q1.symm)
  have C227 := C205.wr W218
  have C228 := ((((C104.other W124 (Or.inr (sn68 hw))).other W146 (Or.inl q2)).other W174 (Or.inr (sn68 hw))).other W196 (Or.inl q2)).other W218 (Or.inr (sn97 hw))
  have C229 := ((C157.same W174).other W196 (Or.inl q2)).other W218 (Or.inr (sn98 hw))
  have C230 := C208.same W218
  have C231 := (((((((((p12.other W4 (Or.inl q1)).other W28 (Or.inl q1)).other W50 (Or.inl q0)).other W72 (Or.inl q0)).other W94 (Or.inl q0)).other W124 (Or.inr (sn69 hw))).other W146 (Or.inl q2)).other W174 (Or.inr (sn69 hw))).other W196 (Or.inl q2)).other W218 (Or.inr (sn99 hw))
  have C232 := ((C160.other W174 (Or.inr (sn65 hw))).other W196 (Or.inl q2)).other W218 (Or.inr (sn100 hw))
  have C233 := (((((((((p14.wr W4).wr W28).wr W50).wr W72).wr W94).wr W124).wr W146).wr W174).wr W196).wr W218
  have C234 := (((((((((p15.other W4 (Or.inl q10)).other W28 (Or.inl q10)).other W50 (Or.inl q9)).other W72 (Or.inl q9)).other W94 (Or.inl q9)).other W124 (Or.inl q11)).other W146 (Or.inl q12)).other W174 (Or.inl q11)).other W196 (Or.inl q12)).other W218 (Or.inl q11)
  have C235 := B196.other W218 q2.symm
  have Z238 := own_leW W218 Z215
  have K239 := K216.wr W218 (Or.inl (List.mem_of_getElem? (i := 2) rfl))
  obtain ⟨T240, X240, e240, st240⟩ := getF X218 hx hZ hown (host := "") (Or.inl (ow 194 rfl)) Via.refl e218 C229 (g := (mkF m 187 #[sR b_, sR r_, sR l2_] [(.ref b_)])) rfl rfl (dc d44_187)
  obtain ⟨T241, X241, e241, st241⟩ := getF X240 hx hZ hown (host := "") (Or.inl (ow 215 rfl)) Via.refl e240 C231 (g := (mkF m 242 #[sR b_, sR r_, sR l2_] [(.ref b_)])) rfl rfl (dc d44_242)
  refine Goes.on (T' := T241) (g' := (mkF m 245 #[sR b_, sR r_, sR l2_] [(.ref t_)])) (fun _ k => st172 _ (XS.aloadN X172.here hx rfl (dc d44_215) rfl rfl (XS.dup X172.here hx rfl (dc d44_216) rfl rfl (st173 _ (XS.iconst X173.here hx rfl (dc d44_220) (XS.isub X173.here hx rfl (dc d44_221) rfl (XT.dupX1 X173.here hx rfl (dc d44_222) rfl rfl rfl (st174 _ (XS.aconstNull X174.here hx rfl (dc d44_226) (st196 _ (XS.aloadN X196.here hx rfl (dc d44_228) rfl rfl (XS.dup X196.here hx rfl (dc d44_229) rfl rfl (st217 _ (XS.iconst X217.here hx rfl (dc d44_233) (XS.isub X217.here hx rfl (dc d44_234) rfl (st218 _ (XS.goto X218.here hx rfl (pc0 := 238) (pc' := 186) rfl (dc d44_238) (by decide) (by decide) (XS.aloadN X218.here hx rfl (dc d44_186) rfl rfl (st240 _ (XS.iconst X240.here hx rfl (dc d44_190) (XS.icmpYes X240.here hx rfl (pc0 := 191) (pc' := 241) rfl (dc d44_191) rfl (XT.ii_le_t (by decide)) (by decide) (by decide) (XS.aloadN X240.here hx rfl (dc d44_241) rfl rfl (st241 _ k))))))))))))))))))))))) ?_
  refine Goes.callU X241 hx hZ 0 hown (ow 266 rfl) (ow 267 rfl) (ow 268 rfl) (by decide) (ow 270 rfl) (ow 269 rfl) (ow 206 rfl) (ow 271 rfl) e241 C233 (rmTq l Z a0 hw t_ h218 n0 Z238  C233 C234 ) (by decide) (by decide) (by decide) (by decide) rfl (by rw [hml]; rfl) (argsL := []) (rest := []) rfl (lenOf pd_3 rfl) rfl (own_le20 rfl) (dc d44_245) ?_
  rintro v242 T242 L242 X242 ⟨rfl, N242q, e242⟩
  have N242 := Fr.app (Fr.snoc X218 (Fr.snoc X196 (Fr.snoc X174 (Fr.snoc X146 (Fr.snoc X124 (Fr.snoc X94 (Fr.snoc X72 (Fr.snoc X50 (Fr.snoc X28 (Fr.snoc X4 (Fr.nil n0) g1) g1) g0) g0) g0) g2) g3) g2) g3) g2) N242q
  show Goes p e below _ T242 (mkF m 248 #[sR b_, sR r_, sR l2_] [(.int 1)])
  have R243 : Rbk Z h218 A_ "com/example/uncross/uncross/engine/BookSide$Level" 64 (Upd (fun _ => Value.null) 0 (.ref l0_)) := Rbk.congr C235 own_cut21
  refine Goes.on (T' := T242) (g' := (mkF m 263 #[sR b_, sR r_, sR l2_] [])) (fun _ k => XS.ifYes X242.here hx rfl (pc0 := 248) (pc' := 263) rfl (dc d44_248) rfl (XT.i0_ne_t (by decide)) (by decide) (by decide) k) ?_
  exact Goes.retV X242 hx hlk hret (dc d44_263) (by decide) (by decide) (by rw [e242]; exact ⟨rfl, N242, K239, C219, C220, C221, C222, C223, C224, C225, C226, C227, C228, C229, C230, C231, C232, R243⟩)
theorem d44_132 : decode c44C 132 = .ok (.aload_n 0, 1) := by decide +kernel
theorem d44_133 : decode c44C 133 = .ok (.dup, 1) := by decide +kernel
theorem d44_134 : decode c44C 134 = .ok (.getfield 137, 3) := by decide +kernel
theorem d44_137 : decode c44C 137 = .ok (.iconst 1, 1) := by decide +kernel
theorem d44_138 : decode c44C 138 = .ok (.iadd, 1) := by decide +kernel
theorem d44_139 : decode c44C 139 = .ok (.putfield 137, 3) := by decide +kernel
theorem d44_142 : decode c44C 142 = .ok (.aload_n 0, 1) := by decide +kernel
theorem d44_143 : decode c44C 143 = .ok (.getfield 137, 3) := by decide +kernel
theorem d44_146 : decode c44C 146 = .ok (.bipush 16, 2) := by decide +kernel
theorem d44_148 : decode c44C 148 = .ok (.if_icmp .lt 20, 3) := by decide +kernel
theorem d44_168 : decode c44C 168 = .ok (.return_, 1) := by decide +kernel
theorem rmRLow (l : Launch) (Z : State) (a0 : Array Value) (hw : TW Z a0) (b_ r_ m_ t_ A_ l0_ l1_ l2_ : Addr) (h0 : Heap) (n0 : Nat) (Z0 : n0 ≤ h0.size) (p0 : Exa Z h0 r_ k1C) (p1 : Fld Z h0 r_ k1C "level" k5C (.ref l1_)) (p2 : Fld Z h0 r_ k1C "ahead" k4C .null) (p3 : Fld Z h0 r_ k1C "behind" k4C .null) (p4 : Exa Z h0 l1_ k2C) (p5 : Fld Z h0 l1_ k2C "first" k4C (.ref r_)) (p6 : Fld Z h0 l1_ k2C "last" k4C (.ref r_)) (p7 : Fld Z h0 l1_ k2C "deep" "Z" (.int (0 : Int32))) (p8 : Exa Z h0 b_ k0C) (p9 : Fld Z h0 b_ k0C "markets" k5C (.ref m_)) (p10 : Fld Z h0 b_ k0C "levelCount" "I" (.int (3 : Int32))) (p11 : Fld Z h0 b_ k0C "emptyLevels" "I" (.int (0 : Int32))) (p12 : Fld Z h0 b_ k0C "deep" k9C (.ref t_)) (p13 : Fld Z h0 b_ k0C "levels" k6C (.ref A_)) (p14 : Exa Z h0 t_ k12C) (p15 : Fld Z h0 t_ k12C "size" "I" (.int (0 : Int32))) (p16 : Rbk Z h0 A_ k2C 64 (Upd (Upd (Upd (fun _ => Value.null) 0 (.ref l0_)) 1 (.ref l1_)) 2 (.ref l2_))) (p17 : Exa Z h0 l2_ k2C) (q0 : b_ ≠ r_) (q1 : b_ ≠ l1_) (q2 : r_ ≠ l1_) (q3 : m_ ≠ r_) (q4 : m_ ≠ l1_) (q5 : m_ ≠ b_) (q6 : t_ ≠ r_) (q7 : t_ ≠ l1_) (q8 : t_ ≠ b_) (q9 : A_ ≠ r_) (q10 : A_ ≠ l1_) (q11 : A_ ≠ b_) (q12 : l0_ ≠ r_) (q13 : l0_ ≠ l1_) (q14 : l0_ ≠ b_) (q15 : l2_ ≠ r_) (q16 : l2_ ≠ l1_) (q17 : l2_ ≠ b_) (g0 : n0 ≤ r_) (g1 : n0 ≤ l1_) (g2 : n0 ≤ b_) :
    Pays l Z (⟨"com/example/uncross/uncross/engine/BookSide", "remove", "(Lcom/example/uncross/uncross/engine/BookSide$Resting;)V"⟩ : MethodName) prog_15_method_8_code 3 none [] ({ frames := 2, cells := 0, slots := 0, locals := 26 } : Room) #[(.ref b_), (.ref r_)] h0 (fun v h L => v = none ∧ Fr n0 L ∧ Keep h0 h [r_, l1_, b_] ∧ Exa Z h r_ k1C ∧ Fld Z h r_ k1C "level" k5C .null ∧ Fld Z h r_ k1C "ahead" k4C .null ∧ Fld Z h r_ k1C "behind" k4C .null ∧ Exa Z h l1_ k2C ∧ Fld Z h l1_ k2C "first" k4C .null ∧ Fld Z h l1_ k2C "last" k4C .null ∧ Fld Z h l1_ k2C "deep" "Z" (.int (0 : Int32)) ∧ Exa Z h b_ k0C ∧ Fld Z h b_ k0C "markets" k5C (.ref m_) ∧ Fld Z h b_ k0C "levelCount" "I" (.int (3 : Int32)) ∧ Fld Z h b_ k0C "emptyLevels" "I" (.int (1 : Int32)) ∧ Fld Z h b_ k0C "deep" k9C (.ref t_) ∧ Fld Z h b_ k0C "levels" k6C (.ref A_)) := by
  refine Pays.walk (plainFor_of_name pn_13) (fun m => ef_15 m b_ r_ ) ?_
  intro p e s m below meth c T0 X0 hx hby hml hown hnm hZ e0 hret hlk
  have dc := @Jvm.hb _ _ hby
  have ow := @own_w Z a0 hw
  have K0 := Keep.refl h0 ([r_, l1_, b_] : List Addr)
  obtain ⟨T4, h4, X4, e4, W4, st4⟩ := putF X0 hx hZ hown (host := "") (Or.inl (ow 228 rfl)) Via.refl e0 p5 p4 (Or.inl (ow 229 rfl)) (ow 178 rfl) (ty := (.object "com/example/uncross/uncross/engine/BookSide$Resting")) (by decide) rfl rfl (g := (mkF m 17 #[sR b_, sR r_, sR l1_] [.null, (.ref l1_)])) rfl rfl (dc d44_17)
  have C7 := p2.other W4 (Or.inl q2)
  have C8 := p3.other W4 (Or.inl q2)
  have C9 := p4.wr W4
  have C11 := p6.other W4 (Or.inr (sn89 hw))
  have K24 := K0.wr W4 (Or.inl (List.mem_of_getElem? (i := 1) rfl))
  obtain ⟨T27, h27, X27, e27, W27, st27⟩ := putF X4 hx hZ hown (host := "") (Or.inl (ow 248 rfl)) Via.refl e4 C11 C9 (Or.inl (ow 249 rfl)) (ow 178 rfl) (ty := (.object "com/example/uncross/uncross/engine/BookSide$Resting")) (by decide) rfl rfl (g := (mkF m 46 #[sR b_, sR r_, sR l1_] [.null, (.ref l1_)])) rfl rfl (dc d44_46)
  have C28 := (p0.wr W4).wr W27
  have C29 := (p1.other W4 (Or.inl q2)).other W27 (Or.inl q2)
  have K47 := K24.wr W27 (Or.inl (List.mem_of_getElem? (i := 1) rfl))
  obtain ⟨T48, h48, X48, e48, W48, st48⟩ := putFR X27 hx hZ hown (ow 246 rfl) e27 C29 C28 (ow 247 rfl) (ow 21 rfl) (ty := (.object "com/example/uncross/uncross/engine/BookSide$Level")) (by decide) rfl rfl (g := (mkF m 65 #[sR b_, sR r_, sR l1_] [.null, (.ref r_)])) rfl rfl (dc d44_65)
  have C49 := C28.wr W48
  have C51 := (C7.other W27 (Or.inl q2)).other W48 (Or.inr (sn83 hw))
  have K68 := K47.wr W48 (Or.inl (List.mem_of_getElem? (i := 0) rfl))
  refine Goes.on (T' := T48) (g' := (mkF m 70 #[sR b_, sR r_, sR l1_] [.null, (.ref r_)])) (fun _ k => XS.aloadN X0.here hx rfl (dc d44_0) rfl rfl (getFRm X0 hx hZ hown (ow 246 rfl) e0 p1 (dc d44_1) (XS.astoreN X0.here hx rfl (dc d44_4) rfl rfl (l' := #[sR b_, sR r_, sR l1_]) rfl (XS.aloadN X0.here hx rfl (dc d44_5) rfl rfl (getFRm X0 hx hZ hown (ow 250 rfl) e0 p2 (dc d44_6) (XT.ifnonnullNo X0.here hx rfl (dc d44_9) rfl (XS.aloadN X0.here hx rfl (dc d44_12) rfl rfl (XS.aloadN X0.here hx rfl (dc d44_13) rfl rfl (getFRm X0 hx hZ hown (ow 292 rfl) e0 p3 (dc d44_14) (st4 _ (XS.goto X4.here hx rfl (pc0 := 20) (pc' := 34) rfl (dc d44_20) (by decide) (by decide) (XS.aloadN X4.here hx rfl (dc d44_34) rfl rfl (getFRm X4 hx hZ hown (ow 292 rfl) e4 C8 (dc d44_35) (XT.ifnonnullNo X4.here hx rfl (dc d44_38) rfl (XS.aloadN X4.here hx rfl (dc d44_41) rfl rfl (XS.aloadN X4.here hx rfl (dc d44_42) rfl rfl (getFRm X4 hx hZ hown (ow 250 rfl) e4 C7 (dc d44_43) (st27 _ (XS.goto X27.here hx rfl (pc0 := 49) (pc' := 63) rfl (dc d44_49) (by decide) (by decide) (XS.aloadN X27.here hx rfl (dc d44_63) rfl rfl (XS.aconstNull X27.here hx rfl (dc d44_64) (st48 _ (XS.aloadN X48.here hx rfl (dc d44_68) rfl rfl (XS.aconstNull X48.here hx rfl (dc d44_69) k)))))))))))))))))))))))) ?_
  obtain ⟨T69, h69, X69, e69, W69, st69⟩ := putFR X48 hx hZ hown (ow 250 rfl) e48 C51 C49 (ow 251 rfl) (ow 21 rfl) (ty := (.object "com/example/uncross/uncross/engine/BookSide$Resting")) (by decide) rfl rfl (g := (mkF m 70 #[sR b_, sR r_, sR l1_] [.null, (.ref r_)])) rfl rfl (dc d44_70)
  have C70 := C49.wr W69
  have C73 := ((C8.other W27 (Or.inl q2)).other W48 (Or.inr (sn84 hw))).other W69 (Or.inr (sn87 hw))
  have K89 := K68.wr W69 (Or.inl (List.mem_of_getElem? (i := 0) rfl))
  obtain ⟨T90, h90, X90, e90, W90, st90⟩ := putFR X69 hx hZ hown (ow 292 rfl) e69 C73 C70 (ow 293 rfl) (ow 21 rfl) (ty := (.object "com/example/uncross/uncross/engine/BookSide$Resting")) (by decide) rfl rfl (g := (mkF m 75 #[sR b_, sR r_, sR l1_] [.null, (.ref r_)])) rfl rfl (dc d44_75)
  have C96 := ((((p5.same W4).other W27 (Or.inr (sn91 hw))).other W48 (Or.inl q2.symm)).other W69 (Or.inl q2.symm)).other W90 (Or.inl q2.symm)
  have C98 := ((((p7.other W4 (Or.inr (sn90 hw))).other W27 (Or.inr (sn92 hw))).other W48 (Or.inl q2.symm)).other W69 (Or.inl q2.symm)).other W90 (Or.inl q2.symm)
  have C99 := ((((p8.wr W4).wr W27).wr W48).wr W69).wr W90
  have C100 := ((((p9.other W4 (Or.inl q1)).other W27 (Or.inl q1)).other W48 (Or.inl q0)).other W69 (Or.inl q0)).other W90 (Or.inl q0)
  have C101 := ((((p10.other W4 (Or.inl q1)).other W27 (Or.inl q1)).other W48 (Or.inl q0)).other W69 (Or.inl q0)).other W90 (Or.inl q0)
  have C102 := ((((p11.other W4 (Or.inl q1)).other W27 (Or.inl q1)).other W48 (Or.inl q0)).other W69 (Or.inl q0)).other W90 (Or.inl q0)
  have C104 := ((((p13.other W4 (Or.inl q1)).other W27 (Or.inl q1)).other W48 (Or.inl q0)).other W69 (Or.inl q0)).other W90 (Or.inl q0)
  have C107 := ((((p16.other W4 q10).other W27 q10).other W48 q9).other W69 q9).other W90 q9
  have K110 := K89.wr W90 (Or.inl (List.mem_of_getElem? (i := 0) rfl))
  obtain ⟨T111, X111, e111, st111⟩ := getF X90 hx hZ hown (host := "") (Or.inl (ow 228 rfl)) Via.refl e90 C96 (g := (mkF m 79 #[sR b_, sR r_, sR l1_] [(.ref l1_)])) rfl rfl (dc d44_79)
  obtain ⟨T112, X112, e112, st112⟩ := getF X111 hx hZ hown (host := "") (Or.inl (ow 186 rfl)) Via.refl e111 C100 (g := (mkF m 87 #[sR b_, sR r_, sR l1_] [(.ref b_), (.ref l1_)])) rfl rfl (dc d44_87)
  obtain ⟨T113, X113, e113, st113⟩ := getF X112 hx hZ hown (host := "") (Or.inl (ow 294 rfl)) Via.refl e112 C98 (g := (mkF m 95 #[sR b_, sR r_, sR l1_] [(.ref l1_)])) rfl rfl (dc d44_95)
  obtain ⟨T114, X114, e114, st114⟩ := getF X113 hx hZ hown (host := "") (Or.inl (ow 189 rfl)) Via.refl e113 C104 (g := (mkF m 119 #[sR b_, sR r_, sR l1_] [(.ref b_), (.ref l1_)])) rfl rfl (dc d44_119)
  obtain ⟨T115, X115, e115, st115⟩ := getF X114 hx hZ hown (host := "") (Or.inl (ow 194 rfl)) Via.refl e114 C101 (g := (mkF m 123 #[sR b_, sR r_, sR l1_] [(.ref b_), (.ref A_), (.ref l1_)])) rfl rfl (dc d44_123)
  refine Goes.on (T' := T115) (g' := (mkF m 133 #[sR b_, sR r_, sR l1_] [(.ref b_)])) (fun _ k => st69 _ (XS.aloadN X69.here hx rfl (dc d44_73) rfl rfl (XS.aconstNull X69.here hx rfl (dc d44_74) (st90 _ (XS.aloadN X90.here hx rfl (dc d44_78) rfl rfl (st111 _ (XT.ifnonnullNo X111.here hx rfl (dc d44_82) rfl (XS.aloadN X111.here hx rfl (dc d44_85) rfl rfl (XS.aloadN X111.here hx rfl (dc d44_86) rfl rfl (st112 _ (XT.acmpYes X112.here hx rfl (pc0 := 90) (pc' := 94) rfl (dc d44_90) rfl rfl rfl (XT.aa_ne_t (fun q => q4 (Value.ref.inj q).symm)) (by decide) (by decide) (XS.aloadN X112.here hx rfl (dc d44_94) rfl rfl (st113 _ (XS.ifYes X113.here hx rfl (pc0 := 98) (pc' := 117) rfl (dc d44_98) rfl (XT.i0_eq_t (by decide)) (by decide) (by decide) (XS.aloadN X113.here hx rfl (dc d44_117) rfl rfl (XS.aloadN X113.here hx rfl (dc d44_118) rfl rfl (st114 _ (XS.aloadN X114.here hx rfl (dc d44_122) rfl rfl (st115 _ (XS.iconst X115.here hx rfl (dc d44_126) (XS.isub X115.here hx rfl (dc d44_127) rfl (ldRm X115 hx hZ e115 C107 (by decide) (dc d44_128) (XT.acmpNo X115.here hx rfl (dc d44_129) rfl rfl rfl (XT.aa_eq_f (fun q => q16 (Value.ref.inj q).symm)) (XS.aloadN X115.here hx rfl (dc d44_132) rfl rfl k)))))))))))))))))))))))) ?_
  obtain ⟨T117, X117, e117, st117⟩ := getF X115 hx hZ hown (host := "") (Or.inl (ow 302 rfl)) Via.refl e115 C102 (g := (mkF m 134 #[sR b_, sR r_, sR l1_] [(.ref b_), (.ref b_)])) rfl rfl (dc d44_134)
  obtain ⟨T118, h118, X118, e118, W118, st118⟩ := putF X117 hx hZ hown (host := "") (Or.inl (ow 302 rfl)) Via.refl e117 C102 C99 (Or.inl (ow 303 rfl)) (ow 171 rfl) (ty := .int) (by decide) rfl rfl (g := (mkF m 139 #[sR b_, sR r_, sR l1_] [(.int 1), (.ref b_)])) rfl rfl (dc d44_139)
  have N118 := Fr.snoc X118 (Fr.snoc X90 (Fr.snoc X69 (Fr.snoc X48 (Fr.snoc X27 (Fr.snoc X4 (Fr.nil n0) g1) g1) g0) g0) g0) g2
  have C119 := (C70.wr W90).wr W118
  have C120 := (((C29.same W48).other W69 (Or.inr (sn86 hw))).other W90 (Or.inr (sn94 hw))).other W118 (Or.inl q0.symm)
  have C121 := ((C51.same W69).other W90 (Or.inr (sn93 hw))).other W118 (Or.inl q0.symm)
  have C122 := (C73.same W90).other W118 (Or.inl q0.symm)
  have C123 := ((((C9.wr W27).wr W48).wr W69).wr W90).wr W118
  have C124 := C96.other W118 (Or.inl q1.symm)
  have C125 := ((((C11.same W27).other W48 (Or.inl q2.symm)).other W69 (Or.inl q2.symm)).other W90 (Or.inl q2.symm)).other W118 (Or.inl q1.symm)
  have C126 := C98.other W118 (Or.inl q1.symm)
  have C127 := C99.wr W118
  have C128 := C100.other W118 (Or.inr (sn97 hw))
  have C129 := C101.other W118 (Or.inr (sn98 hw))
  have C130 := C102.same W118
  have C131 := (((((p12.other W4 (Or.inl q1)).other W27 (Or.inl q1)).other W48 (Or.inl q0)).other W69 (Or.inl q0)).other W90 (Or.inl q0)).other W118 (Or.inr (sn99 hw))
  have C132 := C104.other W118 (Or.inr (sn100 hw))
  have K138 := K110.wr W118 (Or.inl (List.mem_of_getElem? (i := 2) rfl))
  obtain ⟨T139, X139, e139, st139⟩ := getF X118 hx hZ hown (host := "") (Or.inl (ow 302 rfl)) Via.refl e118 C130 (g := (mkF m 143 #[sR b_, sR r_, sR l1_] [(.ref b_)])) rfl rfl (dc d44_143)
  refine Goes.on (T' := T139) (g' := (mkF m 168 #[sR b_, sR r_, sR l1_] [])) (fun _ k => XS.dup X115.here hx rfl (dc d44_133) rfl rfl (st117 _ (XS.iconst X117.here hx rfl (dc d44_137) (XS.iadd X117.here hx rfl (dc d44_138) rfl (st118 _ (XS.aloadN X118.here hx rfl (dc d44_142) rfl rfl (st139 _ (XS.bipush X139.here hx rfl (dc d44_146) (XS.icmpYes X139.here hx rfl (pc0 := 148) (pc' := 168) rfl (dc d44_148) rfl (XT.ii_lt_t (by decide)) (by decide) (by decide) k))))))))) ?_
  exact Goes.retV X139 hx hlk hret (dc d44_168) (by decide) (by decide) (by rw [e139]; exact ⟨rfl, N118, K138, C119, C120, C121, C122, C123, C124, C125, C126, C127, C128, C129, C130, C131, C132⟩)
abbrev c34C := prog_15_method_2_code
theorem d34_0 : decode c34C 0 = .ok (.aload_n 0, 1) := by decide +kernel
theorem d34_1 : decode c34C 1 = .ok (.getfield 14, 3) := by decide +kernel
theorem d34_4 : decode c34C 4 = .ok (.getfield 51, 3) := by decide +kernel
theorem d34_7 : decode c34C 7 = .ok (.ifnonnull 15, 3) := by decide +kernel
theorem d34_22 : decode c34C 22 = .ok (.iconst 0, 1) := by decide +kernel
theorem d34_23 : decode c34C 23 = .ok (.ireturn, 1) := by decide +kernel
theorem rmEiR (l : Launch) (Z : State) (a0 : Array Value) (hw : TW Z a0) (b_ m_ q_ : Addr) (h0 : Heap) (n0 : Nat) (Z0 : n0 ≤ h0.size) (p0 : Exa Z h0 b_ k0C) (p1 : Fld Z h0 b_ k0C "markets" k5C (.ref m_)) (p2 : Exa Z h0 m_ k2C) (p3 : Fld Z h0 m_ k2C "first" k4C (.ref q_)) :
    Pays l Z (⟨"com/example/uncross/uncross/engine/BookSide", "isEmpty", "()Z"⟩ : MethodName) prog_15_method_2_code 1 (some .boolean) [] ({ frames := 0, cells := 0, slots := 0, locals := 0 } : Room) #[(.ref b_)] h0 (fun v h L => v = some (.int (0 : Int32)) ∧ Fr n0 L ∧ h = h0) := by
  refine Pays.walk (plainFor_of_name pn_13) (fun m => ef_0 m b_ ) ?_
  intro p e s m below meth c T0 X0 hx hby hml hown hnm hZ e0 hret hlk
  have N0 := Fr.nil n0
  obtain ⟨T1, X1, e1, st1⟩ := getF X0 hx hZ hown (host := "") (Or.inl (own_w hw 186 rfl)) Via.refl e0 p1 (g := (mkF m 1 #[sR b_] [(.ref b_)])) rfl rfl (hb hby d34_1)
  obtain ⟨T2, X2, e2, st2⟩ := getF X1 hx hZ hown (host := "") (Or.inl (own_w hw 228 rfl)) Via.refl e1 p3 (g := (mkF m 4 #[sR b_] [(.ref m_)])) rfl rfl (hb hby d34_4)
  refine Goes.on (T' := T2) (g' := (mkF m 23 #[sR b_] [(.int 0)])) (fun _ k => XS.aloadN X0.here hx rfl (hb hby d34_0) rfl rfl (st1 _ (st2 _ (XT.ifnonnullYes X2.here hx rfl (pc0 := 7) (pc' := 22) rfl (hb hby d34_7) rfl (by decide) (by decide) (XS.iconst X2.here hx rfl (hb hby d34_22) k))))) ?_
  exact Goes.retB X2 hx hlk hret (Or.inl rfl) (hb hby d34_23) (by decide) (by decide) ⟨rfl, N0, e2⟩
theorem d34_10 : decode c34C 10 = .ok (.aload_n 0, 1) := by decide +kernel
theorem d34_11 : decode c34C 11 = .ok (.getfield 26, 3) := by decide +kernel
theorem d34_14 : decode c34C 14 = .ok (.iconst 1, 1) := by decide +kernel
theorem d34_15 : decode c34C 15 = .ok (.if_icmp .ne 7, 3) := by decide +kernel
theorem d34_18 : decode c34C 18 = .ok (.iconst 1, 1) := by decide +kernel
theorem d34_19 : decode c34C 19 = .ok (.goto 4, 3) := by decide +kernel
theorem rmEi1 (l : Launch) (Z : State) (a0 : Array Value) (hw : TW Z a0) (b_ m_ : Addr) (h0 : Heap) (n0 : Nat) (Z0 : n0 ≤ h0.size) (p0 : Exa Z h0 b_ k0C) (p1 : Fld Z h0 b_ k0C "markets" k5C (.ref m_)) (p2 : Exa Z h0 m_ k2C) (p3 : Fld Z h0 m_ k2C "first" k4C .null) (p4 : Fld Z h0 b_ k0C "levelCount" "I" (.int (1 : Int32))) :
    Pays l Z (⟨"com/example/uncross/uncross/engine/BookSide", "isEmpty", "()Z"⟩ : MethodName) prog_15_method_2_code 1 (some .boolean) [] ({ frames := 0, cells := 0, slots := 0, locals := 0 } : Room) #[(.ref b_)] h0 (fun v h L => v = some (.int (1 : Int32)) ∧ Fr n0 L ∧ h = h0) := by
  refine Pays.walk (plainFor_of_name pn_13) (fun m => ef_0 m b_ ) ?_
  intro p e s m below meth c T0 X0 hx hby hml hown hnm hZ e0 hret hlk
  have dc := @Jvm.hb _ _ hby
  have N0 := Fr.nil n0
  obtain ⟨T1, X1, e1, st1⟩ := getF X0 hx hZ hown (host := "") (Or.inl (own_w hw 186 rfl)) Via.refl e0 p1 (g := (mkF m 1 #[sR b_] [(.ref b_)])) rfl rfl (dc d34_1)
  obtain ⟨T2, X2, e2, st2⟩ := getF X1 hx hZ hown (host := "") (Or.inl (own_w hw 228 rfl)) Via.refl e1 p3 (g := (mkF m 4 #[sR b_] [(.ref m_)])) rfl rfl (dc d34_4)
  obtain ⟨T3, X3, e3, st3⟩ := getF X2 hx hZ hown (host := "") (Or.inl (own_w hw 194 rfl)) Via.refl e2 p4 (g := (mkF m 11 #[sR b_] [(.ref b_)])) rfl rfl (dc d34_11)
  refine Goes.on (T' := T3) (g' := (mkF m 23 #[sR b_] [(.int 1)])) (fun _ k => XS.aloadN X0.here hx rfl (dc d34_0) rfl rfl (st1 _ (st2 _ (XT.ifnonnullNo X2.here hx rfl (dc d34_7) rfl (XS.aloadN X2.here hx rfl (dc d34_10) rfl rfl (st3 _ (XS.iconst X3.here hx rfl (dc d34_14) (XS.icmpNo X3.here hx rfl (dc d34_15) rfl (XT.ii_ne_f (by decide)) (XS.iconst X3.here hx rfl (dc d34_18) (XS.goto X3.here hx rfl (pc0 := 19) (pc' := 23) rfl (dc d34_19) (by decide) (by decide) k)))))))))) ?_
  exact Goes.retB X3 hx hlk hret (Or.inr rfl) (dc d34_23) (by decide) (by decide) ⟨rfl, N0, e3⟩
theorem rmEi2 (l : Launch) (Z : State) (a0 : Array Value) (hw : TW Z a0) (b_ m_ : Addr) (h0 : Heap) (n0 : Nat) (Z0 : n0 ≤ h0.size) (p0 : Exa Z h0 b_ k0C) (p1 : Fld Z h0 b_ k0C "markets" k5C (.ref m_)) (p2 : Exa Z h0 m_ k2C) (p3 : Fld Z h0 m_ k2C "first" k4C .null) (p4 : Fld Z h0 b_ k0C "levelCount" "I" (.int (2 : Int32))) :
    Pays l Z (⟨"com/example/uncross/uncross/engine/BookSide", "isEmpty", "()Z"⟩ : MethodName) prog_15_method_2_code 1 (some .boolean) [] ({ frames := 0, cells := 0, slots := 0, locals := 0 } : Room) #[(.ref b_)] h0 (fun v h L => v = some (.int (0 : Int32)) ∧ Fr n0 L ∧ h = h0) := by
  refine Pays.walk (plainFor_of_name pn_13) (fun m => ef_0 m b_ ) ?_
  intro p e s m below meth c T0 X0 hx hby hml hown hnm hZ e0 hret hlk
  have dc := @Jvm.hb _ _ hby
  have N0 := Fr.nil n0
  obtain ⟨T1, X1, e1, st1⟩ := getF X0 hx hZ hown (host := "") (Or.inl (own_w hw 186 rfl)) Via.refl e0 p1 (g := (mkF m 1 #[sR b_] [(.ref b_)])) rfl rfl (dc d34_1)
  obtain ⟨T2, X2, e2, st2⟩ := getF X1 hx hZ hown (host := "") (Or.inl (own_w hw 228 rfl)) Via.refl e1 p3 (g := (mkF m 4 #[sR b_] [(.ref m_)])) rfl rfl (dc d34_4)
  obtain ⟨T3, X3, e3, st3⟩ := getF X2 hx hZ hown (host := "") (Or.inl (own_w hw 194 rfl)) Via.refl e2 p4 (g := (mkF m 11 #[sR b_] [(.ref b_)])) rfl rfl (dc d34_11)
  refine Goes.on (T' := T3) (g' := (mkF m 23 #[sR b_] [(.int 0)])) (fun _ k => XS.aloadN X0.here hx rfl (dc d34_0) rfl rfl (st1 _ (st2 _ (XT.ifnonnullNo X2.here hx rfl (dc d34_7) rfl (XS.aloadN X2.here hx rfl (dc d34_10) rfl rfl (st3 _ (XS.iconst X3.here hx rfl (dc d34_14) (XS.icmpYes X3.here hx rfl (pc0 := 15) (pc' := 22) rfl (dc d34_15) rfl (XT.ii_ne_t (by decide)) (by decide) (by decide) (XS.iconst X3.here hx rfl (dc d34_22) k))))))))) ?_
  exact Goes.retB X3 hx hlk hret (Or.inl rfl) (dc d34_23) (by decide) (by decide) ⟨rfl, N0, e3⟩
theorem rmEi3 (l : Launch) (Z : State) (a0 : Array Value) (hw : TW Z a0) (b_ m_ : Addr) (h0 : Heap) (n0 : Nat) (Z0 : n0 ≤ h0.size) (p0 : Exa Z h0 b_ k0C) (p1 : Fld Z h0 b_ k0C "markets" k5C (.ref m_)) (p2 : Exa Z h0 m_ k2C) (p3 : Fld Z h0 m_ k2C "first" k4C .null) (p4 : Fld Z h0 b_ k0C "levelCount" "I" (.int (3 : Int32))) :
    Pays l Z (⟨"com/example/uncross/uncross/engine/BookSide", "isEmpty", "()Z"⟩ : MethodName) prog_15_method_2_code 1 (some .boolean) [] ({ frames := 0, cells := 0, slots := 0, locals := 0 } : Room) #[(.ref b_)] h0 (fun v h L => v = some (.int (0 : Int32)) ∧ Fr n0 L ∧ h = h0) := by
  refine Pays.walk (plainFor_of_name pn_13) (fun m => ef_0 m b_ ) ?_
  intro p e s m below meth c T0 X0 hx hby hml hown hnm hZ e0 hret hlk
  have dc := @Jvm.hb _ _ hby
  have N0 := Fr.nil n0
  obtain ⟨T1, X1, e1, st1⟩ := getF X0 hx hZ hown (host := "") (Or.inl (own_w hw 186 rfl)) Via.refl e0 p1 (g := (mkF m 1 #[sR b_] [(.ref b_)])) rfl rfl (dc d34_1)
  obtain ⟨T2, X2, e2, st2⟩ := getF X1 hx hZ hown (host := "") (Or.inl (own_w hw 228 rfl)) Via.refl e1 p3 (g := (mkF m 4 #[sR b_] [(.ref m_)])) rfl rfl (dc d34_4)
  obtain ⟨T3, X3, e3, st3⟩ := getF X2 hx hZ hown (host := "") (Or.inl (own_w hw 194 rfl)) Via.refl e2 p4 (g := (mkF m 11 #[sR b_] [(.ref b_)])) rfl rfl (dc d34_11)
  refine Goes.on (T' := T3) (g' := (mkF m 23 #[sR b_] [(.int 0)])) (fun _ k => XS.aloadN X0.here hx rfl (dc d34_0) rfl rfl (st1 _ (st2 _ (XT.ifnonnullNo X2.here hx rfl (dc d34_7) rfl (XS.aloadN X2.here hx rfl (dc d34_10) rfl rfl (st3 _ (XS.iconst X3.here hx rfl (dc d34_14) (XS.icmpYes X3.here hx rfl (pc0 := 15) (pc' := 22) rfl (dc d34_15) rfl (XT.ii_ne_t (by decide)) (by decide) (by decide) (XS.iconst X3.here hx rfl (dc d34_22) k))))))))) ?_
  exact Goes.retB X3 hx hlk hret (Or.inl rfl) (dc d34_23) (by decide) (by decide) ⟨rfl, N0, e3⟩
abbrev c23C := method_2_code
theorem d23_0 : decode c23C 0 = .ok (.iload_n 0, 1) := by decide +kernel
theorem d23_1 : decode c23C 1 = .ok (.iconst 2, 1) := by decide +kernel
theorem d23_2 : decode c23C 2 = .ok (.iand, 1) := by decide +kernel
theorem d23_3 : decode c23C 3 = .ok (.ifCond .eq 11, 3) := by decide +kernel
theorem d23_14 : decode c23C 14 = .ok (.lconst 1, 1) := by decide +kernel
theorem d23_15 : decode c23C 15 = .ok (.lload_n 1, 1) := by decide +kernel
theorem d23_16 : decode c23C 16 = .ok (.ldc2_w 9, 3) := by decide +kernel
theorem d23_19 : decode c23C 19 = .ok (.land, 1) := by decide +kernel
theorem d23_20 : decode c23C 20 = .ok (.ldc2_w 11, 3) := by decide +kernel
theorem d23_23 : decode c23C 23 = .ok (.lrem, 1) := by decide +kernel
theorem d23_24 : decode c23C 24 = .ok (.ladd, 1) := by decide +kernel
theorem d23_25 : decode c23C 25 = .ok (.lreturn, 1) := by decide +kernel
theorem d23_6 : decode c23C 6 = .ok (.lconst 1, 1) := by decide +kernel
theorem d23_7 : decode c23C 7 = .ok (.lload_n 1, 1) := by decide +kernel
theorem d23_8 : decode c23C 8 = .ok (.ldc2_w 7, 3) := by decide +kernel
theorem d23_11 : decode c23C 11 = .ok (.land, 1) := by decide +kernel
theorem d23_12 : decode c23C 12 = .ok (.ladd, 1) := by decide +kernel
theorem d23_13 : decode c23C 13 = .ok (.lreturn, 1) := by decide +kernel
theorem ef_16 (m : MethodId) (x0 : Int32) (x1 : Int64) : entryFrame m #[(.int x0), (.long x1)] 3 = mkF m 0 #[.val (.int x0), .val (.long x1), .second] [] := by first | (simp [entryFrame, mkF, argsToLocals, Value.category]; done) | rfl
theorem pn_14 : plainName "com/example/uncross/uncross/engine/BookSideIsEmptyPinLaw" = true := by first | (simp [plainName, overriddenIn]; done) | decide +kernel
def Fprice (x0 : Int32) (x1 : Int64) : Int64 := (if (x0 &&& (2 : Int32)) = (0 : Int32) then ((1 : Int64) + ((x1 &&& (9223372036854775807 : Int64)) % (1000000000000 : Int64))) else ((1 : Int64) + (x1 &&& (3 : Int64))))
theorem rmprice (l : Launch) (Z : State) (a0 : Array Value) (hw : TW Z a0) (x0 : Int32) (x1 : Int64) (h0 : Heap) (n0 : Nat) (Z0 : n0 ≤ h0.size) :
    Pays l Z (⟨"com/example/uncross/uncross/engine/BookSideIsEmptyPinLaw", "price", "(IJ)J"⟩ : MethodName) method_2_code 3 (some .long) [] ({ frames := 0, cells := 0, slots := 0, locals := 0 } : Room) #[(.int x0), (.long x1)] h0 (fun v h L => v = some (.long (Fprice x0 x1)) ∧ Fr n0 L ∧ h = h0) := by
  refine Pays.walk (plainFor_of_name pn_14) (fun m => ef_16 m x0 x1 ) ?_
  intro p e s m below meth c T0 X0 hx hby hml hown hnm hZ e0 hret hlk
  have dc := @Jvm.hb _ _ hby
  have N0 := Fr.nil n0
  refine Goes.on (T' := T0) (g' := (mkF m 3 #[sI x0, sJ x1, s2] [(.int (x0 &&& (2 : Int32)))])) (fun _ k => XS.iloadN X0.here hx rfl (dc d23_0) rfl (XS.iconst X0.here hx rfl (dc d23_1) (XS.iand X0.here hx rfl (dc d23_2) rfl k))) ?_
  by_cases hc1 : (x0 &&& (2 : Int32)) = (0 : Int32)
  · refine Goes.on (T' := T0) (g' := (mkF m 25 #[sI x0, sJ x1, s2] [(.long ((1 : Int64) + ((x1 &&& (9223372036854775807 : Int64)) % (1000000000000 : Int64))))])) (fun _ k => XS.ifYes X0.here hx rfl (pc0 := 3) (pc' := 14) rfl (dc d23_3) rfl (XT.i0_eq_t hc1) (by decide) (by decide) (XS.lconst X0.here hx rfl (dc d23_14) (XS.lloadN X0.here hx rfl (dc d23_15) rfl (X0.ldc2Long hx hown (mvT hZ (own_w hw 139 rfl)) (g := (mkF m 16 #[sI x0, sJ x1, s2] [(.long x1), (.long 1)])) rfl (dc d23_16) _ (XS.land X0.here hx rfl (dc d23_19) rfl (X0.ldc2Long hx hown (mvT hZ (own_w hw 140 rfl)) (g := (mkF m 20 #[sI x0, sJ x1, s2] [(.long (x1 &&& (9223372036854775807 : Int64))), (.long 1)])) rfl (dc d23_20) _ (lremM X0 hx rfl (dc d23_23) rfl (by decide) (XS.ladd X0.here hx rfl (dc d23_24) rfl k)))))))) ?_
    exact Goes.retJ X0 hx hlk hret (dc d23_25) (by decide) (by decide) ⟨(by unfold Fprice; rw [if_pos hc1]), N0, e0⟩
  · refine Goes.on (T' := T0) (g' := (mkF m 13 #[sI x0, sJ x1, s2] [(.long ((1 : Int64) + (x1 &&& (3 : Int64))))])) (fun _ k => XS.ifNo X0.here hx rfl (dc d23_3) rfl (XT.i0_eq_f hc1) (XS.lconst X0.here hx rfl (dc d23_6) (XS.lloadN X0.here hx rfl (dc d23_7) rfl (X0.ldc2Long hx hown (mvT hZ (own_w hw 297 rfl)) (g := (mkF m 8 #[sI x0, sJ x1, s2] [(.long x1), (.long 1)])) rfl (dc d23_8) _ (XS.land X0.here hx rfl (dc d23_11) rfl (XS.ladd X0.here hx rfl (dc d23_12) rfl k)))))) ?_
    exact Goes.retJ X0 hx hlk hret (dc d23_13) (by decide) (by decide) ⟨(by unfold Fprice; rw [if_neg hc1]), N0, e0⟩
theorem own_price (k : Int32) (p : Int64) : ¬ Fprice k p < (1 : Int64) ∧ ¬ (1000000000000 : Int64) < Fprice k p := by
  have e1 : (1 : Int64).toInt = 1 := rfl
  have e2 : (1000000000000 : Int64).toInt = 1000000000000 := rfl
  simp only [Int64.lt_iff_toInt_lt, e1, e2]
  unfold Fprice
  split
  · have h := c_maskL p (9223372036854775807 : Int64) 63 (by decide) (by decide)
    have h1 : 0 ≤ (p &&& (9223372036854775807 : Int64)).toInt := by omega
    have h2 : ((p &&& (9223372036854775807 : Int64)) % (1000000000000 : Int64)).toInt = (p &&& (9223372036854775807 : Int64)).toInt % 1000000000000 := by rw [Int64.toInt_mod, e2]; exact Int.tmod_eq_emod_of_nonneg h1
    have h3 := c_ladd (1 : Int64) ((p &&& (9223372036854775807 : Int64)) % (1000000000000 : Int64))
    have r := rng64 ((1 : Int64) + ((p &&& (9223372036854775807 : Int64)) % (1000000000000 : Int64)))
    omega
  · have h := c_maskL p (3 : Int64) 2 (by decide) (by decide)
    have h3 := c_ladd (1 : Int64) (p &&& (3 : Int64))
    have r := rng64 ((1 : Int64) + (p &&& (3 : Int64)))
    omega
theorem own_knm {z : Int32} {x : Int64} (h : ¬ x < (1 : Int64) ∧ ¬ (1000000000000 : Int64) < x) : ¬ (-9223372036854775808 : Int64) = own_key z x := by
  have e1 : (1 : Int64).toInt = 1 := rfl
  have e2 : (1000000000000 : Int64).toInt = 1000000000000 := rfl
  have e3 : (-9223372036854775808 : Int64).toInt = -9223372036854775808 := rfl
  simp only [Int64.lt_iff_toInt_lt, e1, e2] at h
  rw [← Int64.toInt_inj, e3]
  unfold own_key
  split
  · have h3 := c_lneg x
    have r := rng64 (-x)
    omega
  · omega
abbrev c1C := method_3_code
theorem d1_0 : decode c1C 0 = .ok (.iload_n 2, 1) := by decide +kernel
theorem d1_1 : decode c1C 1 = .ok (.iconst 1, 1) := by decide +kernel
theorem d1_2 : decode c1C 2 = .ok (.iand, 1) := by decide +kernel
theorem d1_3 : decode c1C 3 = .ok (.ifCond .eq 9, 3) := by decide +kernel
theorem d1_6 : decode c1C 6 = .ok (.invokestatic 13, 3) := by decide +kernel
theorem d1_9 : decode c1C 9 = .ok (.goto 11, 3) := by decide +kernel
theorem d1_20 : decode c1C 20 = .ok (.astore 5, 2) := by decide +kernel
theorem d1_22 : decode c1C 22 = .ok (.new 29, 3) := by decide +kernel
theorem d1_25 : decode c1C 25 = .ok (.dup, 1) := by decide +kernel
theorem d1_26 : decode c1C 26 = .ok (.new 31, 3) := by decide +kernel
theorem d1_29 : decode c1C 29 = .ok (.dup, 1) := by decide +kernel
theorem d1_30 : decode c1C 30 = .ok (.aload_n 0, 1) := by decide +kernel
theorem d1_31 : decode c1C 31 = .ok (.aload_n 1, 1) := by decide +kernel
theorem d1_32 : decode c1C 32 = .ok (.lconst 1, 1) := by decide +kernel
theorem d1_33 : decode c1C 33 = .ok (.aload 5, 2) := by decide +kernel
theorem pd_23 : parseMethodDescriptor "(Ljava/lang/String;Lcom/example/uncross/uncross/model/Side;JLjava/util/OptionalLong;)V" = some ⟨[(.object "java/lang/String"), (.object "com/example/uncross/uncross/model/Side"), .long, (.object "java/util/OptionalLong")], none⟩ := by decide +kernel
theorem d1_35 : decode c1C 35 = .ok (.invokespecial 33, 3) := by decide +kernel
theorem d1_38 : decode c1C 38 = .ok (.lconst 1, 1) := by decide +kernel
theorem d1_39 : decode c1C 39 = .ok (.lconst 0, 1) := by decide +kernel
theorem d1_40 : decode c1C 40 = .ok (.iconst 0, 1) := by decide +kernel
theorem pd_24 : parseMethodDescriptor "(Lcom/example/uncross/uncross/model/Order;JJZ)V" = some ⟨[(.object "com/example/uncross/uncross/model/Order"), .long, .long, .boolean], none⟩ := by decide +kernel
theorem d1_41 : decode c1C 41 = .ok (.invokespecial 36, 3) := by decide +kernel
theorem d1_44 : decode c1C 44 = .ok (.areturn, 1) := by decide +kernel
theorem ef_17 (m : MethodId) (x0 : Addr) (x1 : Addr) (x2 : Int32) (x3 : Int64) : entryFrame m #[(.ref x0), (.ref x1), (.int x2), (.long x3)] 6 = mkF m 0 #[.val (.ref x0), .val (.ref x1), .val (.int x2), .val (.long x3), .second, .unset] [] := by first | (simp [entryFrame, mkF, argsToLocals, Value.category]; done) | rfl
theorem rmRsM (l : Launch) (Z : State) (a0 : Array Value) (hw : TW Z a0) (id_ sd_ y_ : Addr) (k_ : ClassId) (u_ kd_ : Int32) (p_ : Int64) (h0 : Heap) (n0 : Nat) (Z0 : n0 ≤ h0.size) (O0 : Old Z n0 h0) (cs : Int32) (SC : Sta Z Z.heap "java/lang/String" "COMPACT_STRINGS" "Z" (.int cs)) (hcs : ¬ cs = (0 : Int32)) (sf : Value) (SF : Sta Z Z.heap "jdk/internal/util/Preconditions" "SIOOBE_FORMATTER" "Ljava/util/function/BiFunction;" sf) (hsf : sf.isRef = true) (ic : Addr) (SI : Sta Z Z.heap "com/example/uncross/uncross/model/Order" "ID_CHARACTERS" "[Z" (.ref ic)) (icf : Nat → Int32) (IC : Arf Z Z.heap ic .boolean Value.int 128 icf) (hic97 : ¬ icf 97 = (0 : Int32)) (hic98 : ¬ icf 98 = (0 : Int32)) (hEL : EW Z a0 consts_1) (em : Addr) (SE : Sta Z Z.heap "java/util/OptionalLong" "EMPTY" "Ljava/util/OptionalLong;" (.ref em)) (EXE : Exa Z Z.heap em "java/util/OptionalLong") (FE : Fld Z Z.heap em "java/util/OptionalLong" "isPresent" "Z" (.int (0 : Int32))) (p0 : Str Z h0 id_ y_ k_ (Int32.ofNat 1) [Value.int u_]) (hu : u_ = (97 : Int32) ∨ u_ = (98 : Int32)) (hk : ¬ (kd_ &&& (1 : Int32)) = (0 : Int32)) :
    PaysW l Z consts_1 (⟨"com/example/uncross/uncross/engine/BookSideIsEmptyPinLaw", "resting", "(Ljava/lang/String;Lcom/example/uncross/uncross/model/Side;IJ)Lcom/example/uncross/uncross/engine/BookSide$Resting;"⟩ : MethodName) method_3_code 6 (some (.object "com/example/uncross/uncross/engine/BookSide$Resting")) [] ({ frames := 7, cells := 11, slots := 120, locals := 104 } : Room) #[(.ref id_), (.ref sd_), (.int kd_), (.long p_)] h0 (fun v h L => ∃ (n0_ : Addr) (n1_ : Addr), v = some (.ref n0_) ∧ Fr n0 L ∧ Keep h0 h [] ∧ Exa Z h n0_ k1C ∧ Exa Z h n1_ k3C ∧ Fld Z h n1_ k3C "limit" k8C (.ref em) ∧ Fld Z h n0_ k1C "level" k5C .null ∧ Fld Z h n0_ k1C "ahead" k4C .null ∧ Fld Z h n0_ k1C "behind" k4C .null ∧ Fld Z h n0_ k1C "order" k7C (.ref n1_) ∧ h0.size ≤ n0_ ∧ h0.size ≤ n1_ ∧ n0_ ≠ n1_) := by
  refine PaysW.walk (plainFor_of_name pn_14) (fun m => ef_17 m id_ sd_ kd_ p_ ) ?_
  intro p e s m below meth c T0 X0 hx hby hml hown hnm hZ e0 hret hlk hS0 RR0
  have dc := @Jvm.hb _ _ hby
  have ow := @own_w Z a0 hw
  have hk0 : 0 ≤ h0.size := Nat.zero_le _
  have S0 : h0.size ≤ h0.size := Nat.le_refl _
  have wS := own_wS hw
  have K0 := Keep.refl h0 ([] : List Addr)
  refine Goes.on (T' := T0) (g' := (mkF m 6 #[sR id_, sR sd_, sI kd_, sJ p_, s2, su] [])) (fun _ k => XS.iloadN X0.here hx rfl (dc d1_0) rfl (XS.iconst X0.here hx rfl (dc d1_1) (XS.iand X0.here hx rfl (dc d1_2) rfl (XS.ifNo X0.here hx rfl (dc d1_3) rfl (XT.i0_eq_f hk) k)))) ?_
  refine Goes.callS X0 hx hZ 0 hown (ow 15 rfl) (ow 16 rfl) (ow 17 rfl) (ow 18 rfl) (by decide) e0 (rmOe l Z a0 hw h0 n0 Z0 O0 em SE) (by decide) (by decide) (by decide) (by decide) rfl (by rw [hml]; rfl) (argsL := []) (rest := []) rfl (lenOf pd_21 rfl) rfl (own_le20 rfl) (dc d1_6) ?_
  rintro v1 T1 L1 X1 ⟨rfl, N1q, e1⟩
  show Goes p e below _ T1 (mkF m 9 #[sR id_, sR sd_, sI kd_, sJ p_, s2, su] [(.ref em)])
  obtain ⟨T2, h2, X2, e2, E2, A2, D2, U2, st2⟩ := newO X1 hx hZ hown (ow 20 rfl) (ow 21 rfl) (ow 22 rfl) e1 (g := (mkF m 22 #[sR id_, sR sd_, sI kd_, sJ p_, s2, sR em] [])) rfl (dc d1_22) (by decide) (by decide)
  obtain ⟨a2, g2⟩ : ∃ z, z = h0.size := ⟨_, rfl⟩
  rw [← g2] at A2 D2 U2 st2
  have M2 : h0.size ≤ a2 := Nat.le_trans K0.1 (Nat.le_of_eq g2.symm)
  have C4 := O0.ext E2
  have Z8 := Nat.le_trans Z0 E2.1
  have Z9 := Nat.le_trans hk0 E2.1
  have RR11 := RR0.trans (CHr.ext E2 RR0.1)
  have K12 := K0.ext E2
  have F13 : Fld Z h2 a2 "com/example/uncross/uncross/engine/BookSide$Resting" "quantity" "J" (.long 0) := D2 (Or.inl (ow 130 rfl)) (ty := .long) (by decide)
  have F14 : Fld Z h2 a2 "com/example/uncross/uncross/engine/BookSide$Resting" "level" "Lcom/example/uncross/uncross/engine/BookSide$Level;" .null := D2 (Or.inl (ow 247 rfl)) (ty := (.object "com/example/uncross/uncross/engine/BookSide$Level")) (by decide)
  have F15 : Fld Z h2 a2 "com/example/uncross/uncross/engine/BookSide$Resting" "ahead" "Lcom/example/uncross/uncross/engine/BookSide$Resting;" .null := D2 (Or.inl (ow 251 rfl)) (ty := (.object "com/example/uncross/uncross/engine/BookSide$Resting")) (by decide)
  have F16 : Fld Z h2 a2 "com/example/uncross/uncross/engine/BookSide$Resting" "behind" "Lcom/example/uncross/uncross/engine/BookSide$Resting;" .null := D2 (Or.inl (ow 293 rfl)) (ty := (.object "com/example/uncross/uncross/engine/BookSide$Resting")) (by decide)
  have F17 : Fld Z h2 a2 "com/example/uncross/uncross/engine/BookSide$Resting" "order" "Lcom/example/uncross/uncross/model/Order;" .null := D2 (Or.inr (ow 128 rfl)) (ty := (.object "com/example/uncross/uncross/model/Order")) (by decide)
  have F18 : Fld Z h2 a2 "com/example/uncross/uncross/engine/BookSide$Resting" "time" "J" (.long 0) := D2 (Or.inr (ow 132 rfl)) (ty := .long) (by decide)
  have F19 : Fld Z h2 a2 "com/example/uncross/uncross/engine/BookSide$Resting" "filed" "Z" (.int 0) := D2 (Or.inr (ow 134 rfl)) (ty := .boolean) (by decide)
  have G2 : n0 ≤ a2 := Nat.le_trans Z0 (Nat.le_of_eq g2.symm)
  obtain ⟨T20, h20, X20, e20, E20, A20, D20, U20, st20⟩ := newO X2 hx hZ hown (ow 23 rfl) (ow 24 rfl) (ow 25 rfl) e2 (g := (mkF m 26 #[sR id_, sR sd_, sI kd_, sJ p_, s2, sR em] [(.ref a2), (.ref a2)])) rfl (dc d1_26) (by decide) (by decide)
  obtain ⟨a20, g20⟩ : ∃ z, z = h2.size := ⟨_, rfl⟩
  rw [← g20] at A20 D20 U20 st20
  have M20 : h0.size ≤ a20 := Nat.le_trans K12.1 (Nat.le_of_eq g20.symm)
  have C21 := (p0.ext E2).ext E20
  have C22 := C4.ext E20
  have ne32 := own_neG (Exa.lt (Exa.ext C4.2 EXE)) g20
  have ne35 := own_neG A2.lt g20
  have Z36 := Nat.le_trans Z8 E20.1
  have Z37 := Nat.le_trans Z9 E20.1
  have RR39 := RR11.trans (CHr.ext E20 RR11.1)
  have K40 := K12.ext E20
  have F41 : Fld Z h20 a20 "com/example/uncross/uncross/model/Order" "id" "Ljava/lang/String;" .null := D20 (Or.inr (ow 116 rfl)) (ty := (.object "java/lang/String")) (by decide)
  have F42 : Fld Z h20 a20 "com/example/uncross/uncross/model/Order" "side" "Lcom/example/uncross/uncross/model/Side;" .null := D20 (Or.inr (ow 118 rfl)) (ty := (.object "com/example/uncross/uncross/model/Side")) (by decide)
  have F43 : Fld Z h20 a20 "com/example/uncross/uncross/model/Order" "quantity" "J" (.long 0) := D20 (Or.inr (ow 120 rfl)) (ty := .long) (by decide)
  have F44 : Fld Z h20 a20 "com/example/uncross/uncross/model/Order" "limit" "Ljava/util/OptionalLong;" .null := D20 (Or.inr (ow 122 rfl)) (ty := (.object "java/util/OptionalLong")) (by decide)
  have G20 : n0 ≤ a20 := Nat.le_trans Z8 (Nat.le_of_eq g20.symm)
  refine Goes.on (T' := T20) (g' := (mkF m 35 #[sR id_, sR sd_, sI kd_, sJ p_, s2, sR em] [(.ref em), (.long 1), (.ref sd_), (.ref id_), (.ref a20), (.ref a20), (.ref a2), (.ref a2)])) (fun _ k => XS.goto X1.here hx rfl (pc0 := 9) (pc' := 20) rfl (dc d1_9) (by decide) (by decide) (XS.astore X1.here hx rfl (dc d1_20) rfl rfl (l' := #[sR id_, sR sd_, sI kd_, sJ p_, s2, sR em]) rfl (st2 _ (XS.dup X2.here hx rfl (dc d1_25) rfl rfl (st20 _ (XS.dup X20.here hx rfl (dc d1_29) rfl rfl (XS.aloadN X20.here hx rfl (dc d1_30) rfl rfl (XS.aloadN X20.here hx rfl (dc d1_31) rfl rfl (XS.lconst X20.here hx rfl (dc d1_32) (XS.aload X20.here hx rfl (dc d1_33) rfl rfl k)))))))))) ?_
  refine Goes.callCW X20 hx hZ hS0 Z37 hEL RR39.1 3 rfl hown (ow 26 rfl) (ow 27 rfl) (ow 25 rfl) (ow 28 rfl) (by decide) e20 (rmOrM l Z a0 hw a20 id_ sd_ em y_ k_ u_ h20 n0 Z36 C22 cs SC hcs sf SF hsf ic SI icf IC hic97 hic98 hEL A20 F41 F42 F43 F44 C21 (Exa.ext C22.2 EXE) (Fld.ext C22.2 FE) ne32 G20 hu) (by decide) (by decide) (by decide) (by decide) rfl (by rw [hml]; rfl) (a := a20) (argsL := [(.ref id_), (.ref sd_), (.long 1), (.ref em)]) (rest := [(.ref a20), (.ref a2), (.ref a2)]) rfl (lenOf pd_23 rfl) rfl (own_le20 rfl) (dc d1_35) ?_
  intro v45 T45 L45 k45 X45 hS45 hk45 hZ45 hown45 R45 hQ45
  obtain ⟨rfl, N45q, K45, P45_0, P45_1, P45_2, P45_3, P45_4⟩ := hQ45
  show Goes p e below _ T45 (mkF m 38 #[sR id_, sR sd_, sI kd_, sJ p_, s2, sR em] [(.ref a20), (.ref a2), (.ref a2)])
  have RR45 := RR39.trans R45
  have C48 := (A2.ext E20).keep K45
  have C49 := (F13.ext E20).keep K45 (ninS ne35 nin0)
  have C50 := (F14.ext E20).keep K45 (ninS ne35 nin0)
  have C51 := (F15.ext E20).keep K45 (ninS ne35 nin0)
  have C52 := (F16.ext E20).keep K45 (ninS ne35 nin0)
  have C53 := (F17.ext E20).keep K45 (ninS ne35 nin0)
  have C54 := (F18.ext E20).keep K45 (ninS ne35 nin0)
  have C55 := (F19.ext E20).keep K45 (ninS ne35 nin0)
  have Z57 := Nat.le_trans Z36 K45.1
  have K60 := K40.trans K45 (allS (Or.inr M20) all0)
  refine Goes.on (T' := T45) (g' := (mkF m 41 #[sR id_, sR sd_, sI kd_, sJ p_, s2, sR em] [(.int 0), (.long 0), (.long 1), (.ref a20), (.ref a2), (.ref a2)])) (fun _ k => XS.lconst X45.here hx rfl (dc d1_38) (XS.lconst X45.here hx rfl (dc d1_39) (XS.iconst X45.here hx rfl (dc d1_40) k))) ?_
  refine Goes.callC X45 hx hZ45 1 rfl hown45 (ow 123 rfl) (ow 124 rfl) (ow 22 rfl) (ow 125 rfl) (by decide) rfl (rmRe l Z a0 hw a2 a20 (1 : Int64) (0 : Int64) (0 : Int32) T45.heap n0 Z57 C48 G2 C49 C50 C51 C52 C53 C54 C55 (Or.inl rfl)) (by decide) (by decide) (by decide) (by decide) rfl (by rw [hml]; rfl) (a := a2) (argsL := [(.ref a20), (.long 1), (.long 0), (.int 0)]) (rest := [(.ref a2)]) rfl (lenOf pd_24 rfl) rfl (own_le20 rfl) (dc d1_41) ?_
  rintro v61 T61 L61 X61 ⟨rfl, N61q, K61, A61, B61_quantity, B61_level, B61_ahead, B61_behind, B61_order, B61_time, B61_filed⟩
  have N61 := Fr.app (Fr.app (Fr.app (Fr.nil n0) N1q) N45q) N61q
  show Goes p e below _ T61 (mkF m 44 #[sR id_, sR sd_, sI kd_, sJ p_, s2, sR em] [(.ref a2)])
  have C65 := P45_0.keep K61
  have C69 := P45_4.keep K61 (ninS ne35.symm nin0)
  have Z71 := Nat.le_trans hk45 K61.1
  have RR73 := RR45.trans (CHr.keep K61 (allS (Safe.exa hZ45.alike C48 (by decide) (by decide)) all0) RR45.1)
  have K74 := K60.trans K61 (allS (Or.inr M2) all0)
  exact Goes.retAW X61 hS45 (by exact Z71) hZ45 hEL (by exact RR73) hx hlk hret rfl rfl (dc d1_44) (by decide) (by decide) (by exact ⟨a2, a20, rfl, N61, K74, A61, C65, C69, B61_level, B61_ahead, B61_behind, B61_order, M2, M20, ne35⟩)
theorem d1_12 : decode c1C 12 = .ok (.iload_n 2, 1) := by decide +kernel
theorem d1_13 : decode c1C 13 = .ok (.lload_n 3, 1) := by decide +kernel
theorem pd_25 : parseMethodDescriptor "(IJ)J" = some ⟨[.int, .long], some .long⟩ := by decide +kernel
theorem d1_14 : decode c1C 14 = .ok (.invokestatic 19, 3) := by decide +kernel
theorem pd_26 : parseMethodDescriptor "(J)Ljava/util/OptionalLong;" = some ⟨[.long], some (.object "java/util/OptionalLong")⟩ := by decide +kernel
theorem d1_17 : decode c1C 17 = .ok (.invokestatic 25, 3) := by decide +kernel
theorem rmRsL (l : Launch) (Z : State) (a0 : Array Value) (hw : TW Z a0) (id_ sd_ y_ : Addr) (k_ : ClassId) (u_ kd_ : Int32) (p_ : Int64) (h0 : Heap) (n0 : Nat) (Z0 : n0 ≤ h0.size) (O0 : Old Z n0 h0) (cs : Int32) (SC : Sta Z Z.heap "java/lang/String" "COMPACT_STRINGS" "Z" (.int cs)) (hcs : ¬ cs = (0 : Int32)) (sf : Value) (SF : Sta Z Z.heap "jdk/internal/util/Preconditions" "SIOOBE_FORMATTER" "Ljava/util/function/BiFunction;" sf) (hsf : sf.isRef = true) (ic : Addr) (SI : Sta Z Z.heap "com/example/uncross/uncross/model/Order" "ID_CHARACTERS" "[Z" (.ref ic)) (icf : Nat → Int32) (IC : Arf Z Z.heap ic .boolean Value.int 128 icf) (hic97 : ¬ icf 97 = (0 : Int32)) (hic98 : ¬ icf 98 = (0 : Int32)) (hEL : EW Z a0 consts_1) (em : Addr) (SE : Sta Z Z.heap "java/util/OptionalLong" "EMPTY" "Ljava/util/OptionalLong;" (.ref em)) (EXE : Exa Z Z.heap em "java/util/OptionalLong") (FE : Fld Z Z.heap em "java/util/OptionalLong" "isPresent" "Z" (.int (0 : Int32))) (p0 : Str Z h0 id_ y_ k_ (Int32.ofNat 1) [Value.int u_]) (hu : u_ = (97 : Int32) ∨ u_ = (98 : Int32)) (hk : (kd_ &&& (1 : Int32)) = (0 : Int32)) :
    PaysW l Z consts_1 (⟨"com/example/uncross/uncross/engine/BookSideIsEmptyPinLaw", "resting", "(Ljava/lang/String;Lcom/example/uncross/uncross/model/Side;IJ)Lcom/example/uncross/uncross/engine/BookSide$Resting;"⟩ : MethodName) method_3_code 6 (some (.object "com/example/uncross/uncross/engine/BookSide$Resting")) [] ({ frames := 7, cells := 11, slots := 120, locals := 104 } : Room) #[(.ref id_), (.ref sd_), (.int kd_), (.long p_)] h0 (fun v h L => ∃ (n0_ : Addr) (n1_ : Addr) (n2_ : Addr), v = some (.ref n1_) ∧ Fr n0 L ∧ Keep h0 h [] ∧ Exa Z h n0_ k11C ∧ Fld Z h n0_ k11C "isPresent" "Z" (.int (1 : Int32)) ∧ Fld Z h n0_ k11C "value" "J" (.long (Fprice kd_ p_)) ∧ Exa Z h n1_ k1C ∧ Exa Z h n2_ k3C ∧ Fld Z h n2_ k3C "limit" k8C (.ref n0_) ∧ Fld Z h n1_ k1C "level" k5C .null ∧ Fld Z h n1_ k1C "ahead" k4C .null ∧ Fld Z h n1_ k1C "behind" k4C .null ∧ Fld Z h n1_ k1C "order" k7C (.ref n2_) ∧ h0.size ≤ n0_ ∧ h0.size ≤ n1_ ∧ h0.size ≤ n2_ ∧ n0_ ≠ n1_ ∧ n0_ ≠ n2_ ∧ n1_ ≠ n2_) := by
  refine PaysW.walk (plainFor_of_name pn_14) (fun m => ef_17 m id_ sd_ kd_ p_ ) ?_
  intro p e s m below meth c T0 X0 hx hby hml hown hnm hZ e0 hret hlk hS0 RR0
  have dc := @Jvm.hb _ _ hby
  have ow := @own_w Z a0 hw
  have hk0 : 0 ≤ h0.size := Nat.zero_le _
  have S0 : h0.size ≤ h0.size := Nat.le_refl _
  have wS := own_wS hw
  have K0 := Keep.refl h0 ([] : List Addr)
  refine Goes.on (T' := T0) (g' := (mkF m 14 #[sR id_, sR sd_, sI kd_, sJ p_, s2, su] [(.long p_), (.int kd_)])) (fun _ k => XS.iloadN X0.here hx rfl (dc d1_0) rfl (XS.iconst X0.here hx rfl (dc d1_1) (XS.iand X0.here hx rfl (dc d1_2) rfl (XS.ifYes X0.here hx rfl (pc0 := 3) (pc' := 12) rfl (dc d1_3) rfl (XT.i0_eq_t hk) (by decide) (by decide) (XS.iloadN X0.here hx rfl (dc d1_12) rfl (XS.lloadN X0.here hx rfl (dc d1_13) rfl k)))))) ?_
  refine Goes.callS X0 hx hZ 0 hown (ow 136 rfl) (ow 137 rfl) (ow 13 rfl) (ow 138 rfl) (by decide) e0 (rmprice l Z a0 hw kd_ p_ h0 n0 Z0) (by decide) (by decide) (by decide) (by decide) rfl (by rw [hml]; rfl) (argsL := [(.int kd_), (.long p_)]) (rest := []) rfl (lenOf pd_25 rfl) rfl (own_le20 rfl) (dc d1_14) ?_
  rintro v1 T1 L1 X1 ⟨rfl, N1q, e1⟩
  show Goes p e below _ T1 (mkF m 17 #[sR id_, sR sd_, sI kd_, sJ p_, s2, su] [(.long (Fprice kd_ p_))])
  refine Goes.callS X1 hx hZ 0 hown (ow 141 rfl) (ow 142 rfl) (ow 17 rfl) (ow 143 rfl) (by decide) e1 (rmOf l Z a0 hw (Fprice kd_ p_) h0 n0 Z0   ) (by decide) (by decide) (by decide) (by decide) rfl (by rw [hml]; rfl) (argsL := [(.long (Fprice kd_ p_))]) (rest := []) rfl (lenOf pd_26 rfl) rfl (own_le20 rfl) (dc d1_17) ?_
  rintro v2 T2 L2 X2 ⟨ya2, rfl, N2q, K2, P2_0, P2_1, P2_2, M2_0⟩
  show Goes p e below _ T2 (mkF m 20 #[sR id_, sR sd_, sI kd_, sJ p_, s2, su] [(.ref ya2)])
  have M7 : h0.size ≤ ya2 := Nat.le_trans K0.1 M2_0
  have Z10 := Nat.le_trans Z0 K2.1
  have Z11 := Nat.le_trans hk0 K2.1
  have RR13 := RR0.trans (CHr.keep K2 all0 RR0.1)
  have K14 := K0.trans K2 all0
  obtain ⟨T15, h15, X15, e15, E15, A15, D15, U15, st15⟩ := newO X2 hx hZ hown (ow 20 rfl) (ow 21 rfl) (ow 22 rfl) rfl (g := (mkF m 22 #[sR id_, sR sd_, sI kd_, sJ p_, s2, sR ya2] [])) rfl (dc d1_22) (by decide) (by decide)
  obtain ⟨a15, g15⟩ : ∃ z, z = T2.heap.size := ⟨_, rfl⟩
  rw [← g15] at A15 D15 U15 st15
  have M15 : h0.size ≤ a15 := Nat.le_trans K14.1 (Nat.le_of_eq g15.symm)
  have C18 := P2_0.ext E15
  have ne24 := own_neG P2_0.lt g15
  have Z25 := Nat.le_trans Z10 E15.1
  have Z26 := Nat.le_trans Z11 E15.1
  have RR28 := RR13.trans (CHr.ext E15 RR13.1)
  have K29 := K14.ext E15
  have F30 : Fld Z h15 a15 "com/example/uncross/uncross/engine/BookSide$Resting" "quantity" "J" (.long 0) := D15 (Or.inl (ow 130 rfl)) (ty := .long) (by decide)
  have F31 : Fld Z h15 a15 "com/example/uncross/uncross/engine/BookSide$Resting" "level" "Lcom/example/uncross/uncross/engine/BookSide$Level;" .null := D15 (Or.inl (ow 247 rfl)) (ty := (.object "com/example/uncross/uncross/engine/BookSide$Level")) (by decide)
  have F32 : Fld Z h15 a15 "com/example/uncross/uncross/engine/BookSide$Resting" "ahead" "Lcom/example/uncross/uncross/engine/BookSide$Resting;" .null := D15 (Or.inl (ow 251 rfl)) (ty := (.object "com/example/uncross/uncross/engine/BookSide$Resting")) (by decide)
  have F33 : Fld Z h15 a15 "com/example/uncross/uncross/engine/BookSide$Resting" "behind" "Lcom/example/uncross/uncross/engine/BookSide$Resting;" .null := D15 (Or.inl (ow 293 rfl)) (ty := (.object "com/example/uncross/uncross/engine/BookSide$Resting")) (by decide)
  have F34 : Fld Z h15 a15 "com/example/uncross/uncross/engine/BookSide$Resting" "order" "Lcom/example/uncross/uncross/model/Order;" .null := D15 (Or.inr (ow 128 rfl)) (ty := (.object "com/example/uncross/uncross/model/Order")) (by decide)
  have F35 : Fld Z h15 a15 "com/example/uncross/uncross/engine/BookSide$Resting" "time" "J" (.long 0) := D15 (Or.inr (ow 132 rfl)) (ty := .long) (by decide)
  have F36 : Fld Z h15 a15 "com/example/uncross/uncross/engine/BookSide$Resting" "filed" "Z" (.int 0) := D15 (Or.inr (ow 134 rfl)) (ty := .boolean) (by decide)
  have G15 : n0 ≤ a15 := Nat.le_trans Z10 (Nat.le_of_eq g15.symm)
  obtain ⟨T37, h37, X37, e37, E37, A37, D37, U37, st37⟩ := newO X15 hx hZ hown (ow 23 rfl) (ow 24 rfl) (ow 25 rfl) e15 (g := (mkF m 26 #[sR id_, sR sd_, sI kd_, sJ p_, s2, sR ya2] [(.ref a15), (.ref a15)])) rfl (dc d1_26) (by decide) (by decide)
  obtain ⟨a37, g37⟩ : ∃ z, z = h15.size := ⟨_, rfl⟩
  rw [← g37] at A37 D37 U37 st37
  have M37 : h0.size ≤ a37 := Nat.le_trans K29.1 (Nat.le_of_eq g37.symm)
  have C38 := ((p0.keep K2 nin0 nin0).ext E15).ext E37
  have C39 := ((O0.keep K2 all0).ext E15).ext E37
  have C40 := C18.ext E37
  have C41 := (P2_1.ext E15).ext E37
  have C42 := (P2_2.ext E15).ext E37
  have ne55 := own_neG C18.lt g37
  have ne56 := own_neG A15.lt g37
  have Z57 := Nat.le_trans Z25 E37.1
  have Z58 := Nat.le_trans Z26 E37.1
  have RR60 := RR28.trans (CHr.ext E37 RR28.1)
  have K61 := K29.ext E37
  have F62 : Fld Z h37 a37 "com/example/uncross/uncross/model/Order" "id" "Ljava/lang/String;" .null := D37 (Or.inr (ow 116 rfl)) (ty := (.object "java/lang/String")) (by decide)
  have F63 : Fld Z h37 a37 "com/example/uncross/uncross/model/Order" "side" "Lcom/example/uncross/uncross/model/Side;" .null := D37 (Or.inr (ow 118 rfl)) (ty := (.object "com/example/uncross/uncross/model/Side")) (by decide)
  have F64 : Fld Z h37 a37 "com/example/uncross/uncross/model/Order" "quantity" "J" (.long 0) := D37 (Or.inr (ow 120 rfl)) (ty := .long) (by decide)
  have F65 : Fld Z h37 a37 "com/example/uncross/uncross/model/Order" "limit" "Ljava/util/OptionalLong;" .null := D37 (Or.inr (ow 122 rfl)) (ty := (.object "java/util/OptionalLong")) (by decide)
  have G37 : n0 ≤ a37 := Nat.le_trans Z25 (Nat.le_of_eq g37.symm)
  refine Goes.on (T' := T37) (g' := (mkF m 35 #[sR id_, sR sd_, sI kd_, sJ p_, s2, sR ya2] [(.ref ya2), (.long 1), (.ref sd_), (.ref id_), (.ref a37), (.ref a37), (.ref a15), (.ref a15)])) (fun _ k => XS.astore X2.here hx rfl (dc d1_20) rfl rfl (l' := #[sR id_, sR sd_, sI kd_, sJ p_, s2, sR ya2]) rfl (st15 _ (XS.dup X15.here hx rfl (dc d1_25) rfl rfl (st37 _ (XS.dup X37.here hx rfl (dc d1_29) rfl rfl (XS.aloadN X37.here hx rfl (dc d1_30) rfl rfl (XS.aloadN X37.here hx rfl (dc d1_31) rfl rfl (XS.lconst X37.here hx rfl (dc d1_32) (XS.aload X37.here hx rfl (dc d1_33) rfl rfl k))))))))) ?_
  refine Goes.callCW X37 hx hZ hS0 Z58 hEL RR60.1 3 rfl hown (ow 26 rfl) (ow 27 rfl) (ow 25 rfl) (ow 28 rfl) (by decide) e37 (rmOrL l Z a0 hw a37 id_ sd_ ya2 y_ k_ u_ (Fprice kd_ p_) h37 n0 Z57 C39 cs SC hcs sf SF hsf ic SI icf IC hic97 hic98 hEL A37 F62 F63 F64 F65 C38 C40 C41 C42 ne55 G37 hu (own_price kd_ p_).1 (own_price kd_ p_).2) (by decide) (by decide) (by decide) (by decide) rfl (by rw [hml]; rfl) (a := a37) (argsL := [(.ref id_), (.ref sd_), (.long 1), (.ref ya2)]) (rest := [(.ref a37), (.ref a15), (.ref a15)]) rfl (lenOf pd_23 rfl) rfl (own_le20 rfl) (dc d1_35) ?_
  intro v66 T66 L66 k66 X66 hS66 hk66 hZ66 hown66 R66 hQ66
  obtain ⟨rfl, N66q, K66, P66_0, P66_1, P66_2, P66_3, P66_4⟩ := hQ66
  show Goes p e below _ T66 (mkF m 38 #[sR id_, sR sd_, sI kd_, sJ p_, s2, sR ya2] [(.ref a37), (.ref a15), (.ref a15)])
  have RR66 := RR60.trans R66
  have C72 := (A15.ext E37).keep K66
  have C73 := (F30.ext E37).keep K66 (ninS ne56 nin0)
  have C74 := (F31.ext E37).keep K66 (ninS ne56 nin0)
  have C75 := (F32.ext E37).keep K66 (ninS ne56 nin0)
  have C76 := (F33.ext E37).keep K66 (ninS ne56 nin0)
  have C77 := (F34.ext E37).keep K66 (ninS ne56 nin0)
  have C78 := (F35.ext E37).keep K66 (ninS ne56 nin0)
  have C79 := (F36.ext E37).keep K66 (ninS ne56 nin0)
  have Z81 := Nat.le_trans Z57 K66.1
  have K84 := K61.trans K66 (allS (Or.inr M37) all0)
  refine Goes.on (T' := T66) (g' := (mkF m 41 #[sR id_, sR sd_, sI kd_, sJ p_, s2, sR ya2] [(.int 0), (.long 0), (.long 1), (.ref a37), (.ref a15), (.ref a15)])) (fun _ k => XS.lconst X66.here hx rfl (dc d1_38) (XS.lconst X66.here hx rfl (dc d1_39) (XS.iconst X66.here hx rfl (dc d1_40) k))) ?_
  refine Goes.callC X66 hx hZ66 1 rfl hown66 (ow 123 rfl) (ow 124 rfl) (ow 22 rfl) (ow 125 rfl) (by decide) rfl (rmRe l Z a0 hw a15 a37 (1 : Int64) (0 : Int64) (0 : Int32) T66.heap n0 Z81 C72 G15 C73 C74 C75 C76 C77 C78 C79 (Or.inl rfl)) (by decide) (by decide) (by decide) (by decide) rfl (by rw [hml]; rfl) (a := a15) (argsL := [(.ref a37), (.long 1), (.long 0), (.int 0)]) (rest := [(.ref a15)]) rfl (lenOf pd_24 rfl) rfl (own_le20 rfl) (dc d1_41) ?_
  rintro v85 T85 L85 X85 ⟨rfl, N85q, K85, A85, B85_quantity, B85_level, B85_ahead, B85_behind, B85_order, B85_time, B85_filed⟩
  have N85 := Fr.app (Fr.app (Fr.app (Fr.app (Fr.nil n0) N1q) N2q) N66q) N85q
  show Goes p e below _ T85 (mkF m 44 #[sR id_, sR sd_, sI kd_, sJ p_, s2, sR ya2] [(.ref a15)])
  have C88 := (C40.keep K66).keep K85
  have C89 := (C41.keep K66 (ninS ne55 nin0)).keep K85 (ninS ne24 nin0)
  have C90 := (C42.keep K66 (ninS ne55 nin0)).keep K85 (ninS ne24 nin0)
  have C92 := P66_0.keep K85
  have C96 := P66_4.keep K85 (ninS ne56.symm nin0)
  have Z98 := Nat.le_trans hk66 K85.1
  have RR100 := RR66.trans (CHr.keep K85 (allS (Safe.exa hZ66.alike C72 (by decide) (by decide)) all0) RR66.1)
  have K101 := K84.trans K85 (allS (Or.inr M15) all0)
  exact Goes.retAW X85 hS66 (by exact Z98) hZ66 hEL (by exact RR100) hx hlk hret rfl rfl (dc d1_44) (by decide) (by decide) (by exact ⟨ya2, a15, a37, rfl, N85, K101, C88, C89, C90, A85, C92, C96, B85_level, B85_ahead, B85_behind, B85_order, M7, M15, M37, ne24, ne55, ne56⟩)
theorem pd_27 : parseMethodDescriptor "(Ljava/lang/String;Lcom/example/uncross/uncross/model/Side;IJ)Lcom/example/uncross/uncross/engine/BookSide$Resting;" = some ⟨[(.object "java/lang/String"), (.object "com/example/uncross/uncross/model/Side"), .int, .long], some (.object "com/example/uncross/uncross/engine/BookSide$Resting")⟩ := by decide +kernel
theorem pd_28 : parseMethodDescriptor "(Lcom/example/uncross/uncross/model/Side;)V" = some ⟨[(.object "com/example/uncross/uncross/model/Side")], none⟩ := by decide +kernel
theorem pd_29 : parseMethodDescriptor "(Lcom/example/uncross/uncross/engine/BookSide$Resting;)V" = some ⟨[(.object "com/example/uncross/uncross/engine/BookSide$Resting")], none⟩ := by decide +kernel
theorem ef_18 (m : MethodId) (x0 : Int32) (x1 : Int32) (x2 : Int64) (x3 : Int32) (x4 : Int64) (x5 : Int32) : entryFrame m #[(.int x0), (.int x1), (.long x2), (.int x3), (.long x4), (.int x5)] maxLocals = mkF m 0 #[.val (.int x0), .val (.int x1), .val (.long x2), .second, .val (.int x3), .val (.long x4), .second, .val (.int x5), .unset, .unset, .unset, .unset, .unset, .unset] [] := by first | (simp [entryFrame, mkF, argsToLocals, Value.category, maxLocals]; done) | rfl
theorem rm0 (l : Launch) (Z : State) (a0 : Array Value) (hw : TW Z a0) (x0 x1 : Int32) (x2 : Int64) (x3 : Int32) (x4 : Int64) (x5 : Int32) (h0 : Heap) (n0 : Nat) (Z0 : n0 ≤ h0.size) (O0 : Old Z n0 h0) (cs : Int32) (SC : Sta Z Z.heap "java/lang/String" "COMPACT_STRINGS" "Z" (.int cs)) (hcs : ¬ cs = (0 : Int32)) (sf : Value) (SF : Sta Z Z.heap "jdk/internal/util/Preconditions" "SIOOBE_FORMATTER" "Ljava/util/function/BiFunction;" sf) (hsf : sf.isRef = true) (ic : Addr) (SI : Sta Z Z.heap "com/example/uncross/uncross/model/Order" "ID_CHARACTERS" "[Z" (.ref ic)) (icf : Nat → Int32) (IC : Arf Z Z.heap ic .boolean Value.int 128 icf) (hic97 : ¬ icf 97 = (0 : Int32)) (hic98 : ¬ icf 98 = (0 : Int32)) (hEL : EW Z a0 consts_1) (em : Addr) (SE : Sta Z Z.heap "java/util/OptionalLong" "EMPTY" "Ljava/util/OptionalLong;" (.ref em)) (EXE : Exa Z Z.heap em "java/util/OptionalLong") (FE : Fld Z Z.heap em "java/util/OptionalLong" "isPresent" "Z" (.int (0 : Int32))) (k0 : Addr) (k1 : Addr) (ST_k0 : Sta Z Z.heap "com/example/uncross/uncross/model/Side" "SELL" "Lcom/example/uncross/uncross/model/Side;" (.ref k0)) (EX_k0 : Exa Z Z.heap k0 "com/example/uncross/uncross/model/Side") (ST_k1 : Sta Z Z.heap "com/example/uncross/uncross/model/Side" "BUY" "Lcom/example/uncross/uncross/model/Side;" (.ref k1)) (EX_k1 : Exa Z Z.heap k1 "com/example/uncross/uncross/model/Side") (FZ4 : Fld Z Z.heap k0 "java/lang/Enum" "ordinal" "I" (.int (1 : Int32))) (FZ5 : Fld Z Z.heap k1 "java/lang/Enum" "ordinal" "I" (.int (0 : Int32))) :
    PaysW l Z consts_1 x code maxLocals ret tables_1 room_1 #[(.int x0), (.int x1), (.long x2), (.int x3), (.long x4), (.int x5)] h0 (fun v h L => v = some (.int (1 : Int32)) ∧ Fr n0 L) := by
  refine PaysW.walk (plainFor_of_name pn_14) (fun m => ef_18 m x0 x1 x2 x3 x4 x5 ) ?_
  intro p e s m below meth c T0 X0 hx hby hml hown hnm hZ e0 hret hlk hS0 RR0
  have dc := @Jvm.hb _ _ hby
  have ow := @own_w Z a0 hw
  have hk0 : 0 ≤ h0.size := Nat.zero_le _
  have S0 : h0.size ≤ h0.size := Nat.le_refl _
  have wS := own_wS hw
  have hown : (s.setVm s.vm).vm.findClass "com/example/uncross/uncross/engine/BookSideIsEmptyPinLaw" = some m.cls := hown
  have N0 := Fr.nil n0
  refine Goes.joinT X0 (h := h0) (fr := fun z1 => (mkF m 15 #[sI x0, sI x1, sJ x2, s2, sI x3, sJ x4, s2, sI x5, su, su, su, su, su, su] [(.ref z1)])) ?_ ?_
  · intro z1 T1 X1 e1
    obtain ⟨a2, T2, h2, k2, b2, kb2, X2, e2, E2, hS2, hk2, hZ2, hown2, A2, C2, V2, K2, lt2, lu2, R2, Lt2, sf2, st2⟩ := ldcCH X1 hx hZ hown (ow 3 rfl) wS e1 hS0 hk0 hEL (List.mem_of_getElem? (i := 0) rfl) RR0.1 (vs := [Value.int 97]) (z := Int32.ofNat 1) ⟨by decide, by decide⟩ (by decide) (by decide) (g := (mkF m 17 #[sI x0, sI x1, sJ x2, s2, sI x3, sJ x4, s2, sI x5, sR z1, su, su, su, su, su] [])) rfl (dc at_17) (n := 4) (by decide) (by decide) (by decide) (by decide)
    have C3 := O0.ext E2
    have Z4 := Nat.le_trans Z0 E2.1
    have RR2 := RR0.trans R2
    have Q2 : Str Z h2 a2 b2 kb2 (Int32.ofNat 1) [Value.int 97] := ⟨A2, C2, V2, K2⟩
    refine Goes.on (T' := T2) (g' := (mkF m 23 #[sI x0, sI x1, sJ x2, s2, sI x3, sJ x4, s2, sI x5, sR z1, su, su, su, su, su] [(.long x2), (.int x1), (.ref z1), (.ref a2)])) (fun _ k => XS.astore X1.here hx rfl (dc at_15) rfl rfl (l' := #[sI x0, sI x1, sJ x2, s2, sI x3, sJ x4, s2, sI x5, sR z1, su, su, su, su, su]) rfl (st2 _ (XS.aload X2.here hx rfl (dc at_19) rfl rfl (XS.iloadN X2.here hx rfl (dc at_21) rfl (XS.lloadN X2.here hx rfl (dc at_22) rfl k))))) ?_
    by_cases hc7 : (x1 &&& (1 : Int32)) = (0 : Int32)
    · refine Goes.callSW X2 hx hZ2 hS2 hk2 hEL RR2.1 0 hown2 (ow 11 rfl) (ow 12 rfl) (ow 13 rfl) (ow 14 rfl) (by decide) e2 (rmRsL l Z a0 hw a2 z1 b2 kb2 (97 : Int32) x1 x2 h2 n0 Z4 C3 cs SC hcs sf SF hsf ic SI icf IC hic97 hic98 hEL em SE EXE FE Q2 (Or.inl rfl) hc7) (by decide) (by decide) (by decide) (by decide) rfl (by rw [hml]; rfl) (argsL := [(.ref a2), (.ref z1), (.int x1), (.long x2)]) (rest := []) rfl (lenOf pd_27 rfl) rfl (own_le20 rfl) (dc at_23) ?_
      intro v8 T8 L8 k8 X8 hS8 hk8 hZ8 hown8 R8 hQ8
      obtain ⟨ya8, yb8, yc8, rfl, N8q, K8, P8_0, P8_1, P8_2, P8_3, P8_4, P8_5, P8_6, P8_7, P8_8, P8_9, M8_0, M8_1, M8_2, D8_0, D8_1, D8_2⟩ := hQ8
      have N8 := Fr.app N0 N8q
      show Goes p e below _ T8 (mkF m 26 #[sI x0, sI x1, sJ x2, s2, sI x3, sJ x4, s2, sI x5, sR z1, su, su, su, su, su] [(.ref yb8)])
      have RR8 := RR2.trans R8
      have G20 : n0 ≤ yb8 := Nat.le_trans Z4 M8_1
      have Z29 := Nat.le_trans Z4 K8.1
      obtain ⟨a32, T32, h32, k32, b32, kb32, X32, e32, E32, hS32, hk32, hZ32, hown32, A32, C32, V32, K32, lt32, lu32, R32, Lt32, sf32, st32⟩ := ldcCH X8 hx hZ8 hown8 (ow 135 rfl) wS rfl hS8 hk8 hEL (List.mem_of_getElem? (i := 1) rfl) RR8.1 (vs := [Value.int 98]) (z := Int32.ofNat 1) ⟨by decide, by decide⟩ (by decide) (by decide) (g := (mkF m 28 #[sI x0, sI x1, sJ x2, s2, sI x3, sJ x4, s2, sI x5, sR z1, sR yb8, su, su, su, su] [])) rfl (dc at_28) (n := 4) (by decide) (by decide) (by decide) (by decide)
      have C33 := (C3.keep K8 all0).ext E32
      have C34 := P8_0.ext E32
      have C35 := P8_1.ext E32
      have C36 := P8_2.ext E32
      have C37 := P8_3.ext E32
      have C38 := P8_4.ext E32
      have C39 := P8_5.ext E32
      have C40 := P8_6.ext E32
      have C41 := P8_7.ext E32
      have C42 := P8_8.ext E32
      have C43 := P8_9.ext E32
      have Z44 := Nat.le_trans Z29 E32.1
      have RR32 := RR8.trans R32
      have Q32 : Str Z h32 a32 b32 kb32 (Int32.ofNat 1) [Value.int 98] := ⟨A32, C32, V32, K32⟩
      refine Goes.on (T' := T32) (g' := (mkF m 36 #[sI x0, sI x1, sJ x2, s2, sI x3, sJ x4, s2, sI x5, sR z1, sR yb8, su, su, su, su] [(.long x4), (.int x3), (.ref z1), (.ref a32)])) (fun _ k => XS.astore X8.here hx rfl (dc at_26) rfl rfl (l' := #[sI x0, sI x1, sJ x2, s2, sI x3, sJ x4, s2, sI x5, sR z1, sR yb8, su, su, su, su]) rfl (st32 _ (XS.aload X32.here hx rfl (dc at_30) rfl rfl (XS.iload X32.here hx rfl (dc at_32) rfl (XS.lload X32.here hx rfl (dc at_34) rfl k))))) ?_
      by_cases hc47 : (x3 &&& (1 : Int32)) = (0 : Int32)
      · refine Goes.callSW X32 hx hZ32 hS32 hk32 hEL RR32.1 0 hown32 (ow 11 rfl) (ow 12 rfl) (ow 13 rfl) (ow 14 rfl) (by decide) e32 (rmRsL l Z a0 hw a32 z1 b32 kb32 (98 : Int32) x3 x4 h32 n0 Z44 C33 cs SC hcs sf SF hsf ic SI icf IC hic97 hic98 hEL em SE EXE FE Q32 (Or.inr rfl) hc47) (by decide) (by decide) (by decide) (by decide) rfl (by rw [hml]; rfl) (argsL := [(.ref a32), (.ref z1), (.int x3), (.long x4)]) (rest := []) rfl (lenOf pd_27 rfl) rfl (own_le20 rfl) (dc at_36) ?_
        intro v48 T48 L48 k48 X48 hS48 hk48 hZ48 hown48 R48 hQ48
        obtain ⟨ya48, yb48, yc48, rfl, N48q, K48, P48_0, P48_1, P48_2, P48_3, P48_4, P48_5, P48_6, P48_7, P48_8, P48_9, M48_0, M48_1, M48_2, D48_0, D48_1, D48_2⟩ := hQ48
        show Goes p e below _ T48 (mkF m 39 #[sI x0, sI x1, sJ x2, s2, sI x3, sJ x4, s2, sI x5, sR z1, sR yb8, su, su, su, su] [(.ref yb48)])
        have RR48 := RR32.trans R48
        have ne50 := own_neL C37.lt M48_0
        have ne59 := own_neL C37.lt M48_1
        have G66 : n0 ≤ yb48 := Nat.le_trans Z44 M48_1
        have ne68 := own_neL C37.lt M48_2
        have C77 := C34.keep K48
        have C80 := C37.keep K48
        have C81 := C38.keep K48
        have Z88 := Nat.le_trans Z44 K48.1
        obtain ⟨T91, h91, X91, e91, E91, A91, D91, U91, st91⟩ := newO X48 hx hZ48 hown48 (ow 170 rfl) (ow 171 rfl) (ow 172 rfl) rfl (g := (mkF m 41 #[sI x0, sI x1, sJ x2, s2, sI x3, sJ x4, s2, sI x5, sR z1, sR yb8, sR yb48, su, su, su] [])) rfl (dc at_41) (by decide) (by decide)
        obtain ⟨a91, g91⟩ : ∃ z, z = T48.heap.size := ⟨_, rfl⟩
        rw [← g91] at A91 D91 U91 st91
        have C92 := (C33.keep K48 all0).ext E91
        have C93 := C77.ext E91
        have C96 := C80.ext E91
        have C97 := C81.ext E91
        have C103 := P48_0.ext E91
        have C106 := P48_3.ext E91
        have C107 := P48_4.ext E91
        have ne116 := own_neG C77.lt g91
        have ne117 := own_neG C80.lt g91
        have ne118 := own_neG C81.lt g91
        have ne119 := own_neG P48_0.lt g91
        have ne120 := own_neG P48_3.lt g91
        have ne121 := own_neG P48_4.lt g91
        have Z122 := Nat.le_trans Z88 E91.1
        have Z123 := Nat.le_trans hk48 E91.1
        have RR125 := RR48.trans (CHr.ext E91 RR48.1)
        have F126 : Fld Z h91 a91 "com/example/uncross/uncross/engine/BookSide" "levels" "[Lcom/example/uncross/uncross/engine/BookSide$Level;" .null := D91 (Or.inl (ow 190 rfl)) (ty := (.array (.object "com/example/uncross/uncross/engine/BookSide$Level"))) (by decide)
        have F127 : Fld Z h91 a91 "com/example/uncross/uncross/engine/BookSide" "keys" "[J" .null := D91 (Or.inl (ow 193 rfl)) (ty := (.array .long)) (by decide)
        have F128 : Fld Z h91 a91 "com/example/uncross/uncross/engine/BookSide" "levelCount" "I" (.int 0) := D91 (Or.inl (ow 195 rfl)) (ty := .int) (by decide)
        have F129 : Fld Z h91 a91 "com/example/uncross/uncross/engine/BookSide" "emptyLevels" "I" (.int 0) := D91 (Or.inl (ow 303 rfl)) (ty := .int) (by decide)
        have F130 : Fld Z h91 a91 "com/example/uncross/uncross/engine/BookSide" "markets" "Lcom/example/uncross/uncross/engine/BookSide$Level;" .null := D91 (Or.inr (ow 187 rfl)) (ty := (.object "com/example/uncross/uncross/engine/BookSide$Level")) (by decide)
        have F131 : Fld Z h91 a91 "com/example/uncross/uncross/engine/BookSide" "deep" "Ljava/util/TreeMap;" .null := D91 (Or.inr (ow 216 rfl)) (ty := (.object "java/util/TreeMap")) (by decide)
        have F132 : Fld Z h91 a91 "com/example/uncross/uncross/engine/BookSide" "buying" "Z" (.int 0) := D91 (Or.inr (ow 220 rfl)) (ty := .boolean) (by decide)
        have G91 : n0 ≤ a91 := Nat.le_trans Z88 (Nat.le_of_eq g91.symm)
        obtain ⟨zb, hzb⟩ : ∃ z : Int32, (z = 1 ∧ z1 = k1) ∨ (z = 0 ∧ z1 ≠ k1) := by
          by_cases q : z1 = k1
          · exact ⟨1, Or.inl ⟨rfl, q⟩⟩
          · exact ⟨0, Or.inr ⟨rfl, q⟩⟩
        refine Goes.on (T' := T91) (g' := (mkF m 47 #[sI x0, sI x1, sJ x2, s2, sI x3, sJ x4, s2, sI x5, sR z1, sR yb8, sR yb48, su, su, su] [(.ref z1), (.ref a91), (.ref a91)])) (fun _ k => XS.astore X48.here hx rfl (dc at_39) rfl rfl (l' := #[sI x0, sI x1, sJ x2, s2, sI x3, sJ x4, s2, sI x5, sR z1, sR yb8, sR yb48, su, su, su]) rfl (st91 _ (XS.dup X91.here hx rfl (dc at_44) rfl rfl (XS.aload X91.here hx rfl (dc at_45) rfl rfl k)))) ?_
        refine Goes.callC X91 hx hZ48 1 rfl hown48 (ow 173 rfl) (ow 174 rfl) (ow 172 rfl) (ow 175 rfl) (by decide) e91 (rmBi l Z a0 hw a91 z1 k1 zb h91 n0 Z122 C92 ST_k1 A91 F126 F127 F128 F129 F130 F131 F132 G91 hzb) (by decide) (by decide) (by decide) (by decide) rfl (by rw [hml]; rfl) (a := a91) (argsL := [(.ref z1)]) (rest := [(.ref a91)]) rfl (lenOf pd_28 rfl) rfl (own_le20 rfl) (dc at_47) ?_
        rintro v134 T134 L134 X134 ⟨ya134, yb134, yc134, yd134, ye134, rfl, N134q, K134, P134_0, P134_1, P134_2, P134_3, P134_4, P134_5, P134_6, P134_7, P134_8, P134_9, P134_10, P134_11, P134_12, P134_13, P134_14, P134_15, P134_16, P134_17, P134_18, P134_19, P134_20, M134_0, M134_1, M134_2, M134_3, M134_4, D134_0, D134_1, D134_2, D134_3, D134_4, D134_5, D134_6, D134_7, D134_8, D134_9⟩
        show Goes p e below _ T134 (mkF m 50 #[sI x0, sI x1, sJ x2, s2, sI x3, sJ x4, s2, sI x5, sR z1, sR yb8, sR yb48, su, su, su] [(.ref a91)])
        have ne136 := own_neL C96.lt M134_0
        have ne139 := own_neL C106.lt M134_0
        have ne141 := own_neL A91.lt M134_0
        have ne146 := own_neL C93.lt M134_1
        have ne147 := own_neL C96.lt M134_1
        have ne148 := own_neL C97.lt M134_1
        have ne149 := own_neL C103.lt M134_1
        have ne150 := own_neL C106.lt M134_1
        have ne151 := own_neL C107.lt M134_1
        have ne152 := own_neL A91.lt M134_1
        have G156 : n0 ≤ yb134 := Nat.le_trans Z122 M134_1
        have ne157 := own_neL C93.lt M134_2
        have ne158 := own_neL C96.lt M134_2
        have ne159 := own_neL C97.lt M134_2
        have ne160 := own_neL C103.lt M134_2
        have ne161 := own_neL C106.lt M134_2
        have ne162 := own_neL C107.lt M134_2
        have ne163 := own_neL A91.lt M134_2
        have G167 : n0 ≤ yc134 := Nat.le_trans Z122 M134_2
        have ne169 := own_neL C96.lt M134_3
        have ne172 := own_neL C106.lt M134_3
        have ne174 := own_neL A91.lt M134_3
        have ne180 := own_neL C96.lt M134_4
        have ne183 := own_neL C106.lt M134_4
        have ne185 := own_neL A91.lt M134_4
        have C191 := C93.keep K134
        have C192 := ((C35.keep K48 nin0).ext E91).keep K134 (ninS ne116 nin0)
        have C193 := ((C36.keep K48 nin0).ext E91).keep K134 (ninS ne116 nin0)
        have C194 := C96.keep K134
        have C195 := C97.keep K134
        have C196 := ((C39.keep K48 nin0).ext E91).keep K134 (ninS ne118 nin0)
        have C197 := ((C40.keep K48 nin0).ext E91).keep K134 (ninS ne117 nin0)
        have C198 := ((C41.keep K48 nin0).ext E91).keep K134 (ninS ne117 nin0)
        have C199 := ((C42.keep K48 nin0).ext E91).keep K134 (ninS ne117 nin0)
        have C200 := ((C43.keep K48 nin0).ext E91).keep K134 (ninS ne117 nin0)
        have C201 := C103.keep K134
        have C204 := C106.keep K134
        have C205 := C107.keep K134
        have Z212 := Nat.le_trans Z122 K134.1
        have Z213 := Nat.le_trans Z123 K134.1
        have RR215 := RR125.trans (CHr.keep K134 (allS (Safe.exa hZ48.alike A91 (by decide) (by decide)) all0) RR125.1)
        refine Goes.on (T' := T134) (g' := (mkF m 54 #[sI x0, sI x1, sJ x2, s2, sI x3, sJ x4, s2, sI x5, sR z1, sR yb8, sR yb48, sR a91, su, su] [(.ref a91)])) (fun _ k => XS.astore X134.here hx rfl (dc at_50) rfl rfl (l' := #[sI x0, sI x1, sJ x2, s2, sI x3, sJ x4, s2, sI x5, sR z1, sR yb8, sR yb48, sR a91, su, su]) rfl (XS.aload X134.here hx rfl (dc at_52) rfl rfl k)) ?_
        refine Goes.callV X134 hx hZ48 0 hown48 (ow 223 rfl) (ow 224 rfl) (notFace_of_selects (args := #[]) (mvT hZ48 (ow 226 rfl))) (ow 226 rfl) (ow 225 rfl) (ow 172 rfl) (ow 227 rfl) (by decide) rfl P134_0 (rmEi1 l Z a0 hw a91 ya134 T134.heap n0 Z212  P134_0 P134_5 P134_8 P134_9 P134_3 ) (by decide) (by decide) (by decide) (by decide) rfl (by rw [hml]; rfl) (argsL := []) (rest := []) rfl (lenOf pd_3 rfl) rfl (own_le20 rfl) (dc at_54) ?_
        rintro v216 T216 L216 X216 ⟨rfl, N216q, e216⟩
        show Goes p e below _ T216 (mkF m 57 #[sI x0, sI x1, sJ x2, s2, sI x3, sJ x4, s2, sI x5, sR z1, sR yb8, sR yb48, sR a91, su, su] [(.int 1)])
        refine Goes.on (T' := T216) (g' := (mkF m 63 #[sI x0, sI x1, sJ x2, s2, sI x3, sJ x4, s2, sI x5, sR z1, sR yb8, sR yb48, sR a91, sI 1, su] [(.ref yb8), (.ref a91)])) (fun _ k => XS.istore X216.here hx rfl (dc at_57) rfl (l' := #[sI x0, sI x1, sJ x2, s2, sI x3, sJ x4, s2, sI x5, sR z1, sR yb8, sR yb48, sR a91, sI 1, su]) rfl (XS.aload X216.here hx rfl (dc at_59) rfl rfl (XS.aload X216.here hx rfl (dc at_61) rfl rfl k))) ?_
        refine Goes.callV X216 hx hZ48 0 hown48 (ow 230 rfl) (ow 231 rfl) (notFace_of_selects (args := #[]) (mvT hZ48 (ow 233 rfl))) (ow 233 rfl) (ow 232 rfl) (ow 172 rfl) (ow 234 rfl) (by decide) e216 P134_0 (rmAdL0 l Z a0 hw a91 yd134 yb134 yc134 ya134 ye134 yb8 yc8 ya8 zb (Fprice x1 x2) T134.heap n0 Z212  P134_0 P134_7 P134_3 P134_6 P134_1 P134_2 P134_5 P134_4 P134_15 P134_16 P134_12 P134_14 C194 C197 C198 C199 C200 C195 C196 C191 C192 C193 ne117.symm ne152 ne163 ne169.symm ne174.symm D134_5.symm D134_7.symm ne147.symm D134_4 ne158.symm D8_2.symm ne118 ne148 ne159 D8_0 ne116 ne146 ne157 G20 G91 G156 G167 (own_knm (own_price x1 x2))) (by decide) (by decide) (by decide) (by decide) rfl (by rw [hml]; rfl) (argsL := [(.ref yb8)]) (rest := []) rfl (lenOf pd_29 rfl) rfl (own_le20 rfl) (dc at_63) ?_
        rintro v217 T217 L217 X217 ⟨ya217, rfl, N217q, K217, P217_0, P217_1, P217_2, P217_3, P217_4, P217_5, P217_6, P217_7, P217_8, P217_9, P217_10, P217_11, P217_12, P217_13, P217_14, P217_15, P217_16, P217_17, P217_18, P217_19, M217_0⟩
        show Goes p e below _ T217 (mkF m 66 #[sI x0, sI x1, sJ x2, s2, sI x3, sJ x4, s2, sI x5, sR z1, sR yb8, sR yb48, sR a91, sI 1, su] [])
        have ne219 := own_neL C194.lt M217_0
        have ne221 := own_neL C201.lt M217_0
        have ne222 := own_neL C204.lt M217_0
        have ne223 := own_neL C205.lt M217_0
        have ne224 := own_neL P134_0.lt M217_0
        have ne225 := own_neL P134_8.lt M217_0
        have ne226 := own_neL P134_12.lt M217_0
        have ne227 := own_neL P134_13.lt M217_0
        have ne228 := own_neL P134_15.lt M217_0
        have ne229 := own_neL P134_17.lt M217_0
        have G233 : n0 ≤ ya217 := Nat.le_trans Z212 M217_0
        have C243 := C201.keep K217
        have ni245 := (ninS ne50.symm (ninS ne119 (ninS ne149 (ninS ne160 nin0))))
        have C244 := ((P48_1.ext E91).keep K134 (ninS ne119 nin0)).keep K217 ni245
        have C246 := ((P48_2.ext E91).keep K134 (ninS ne119 nin0)).keep K217 ni245
        have C247 := C204.keep K217
        have C248 := C205.keep K217
        have ni250 := (ninS ne68.symm (ninS ne121 (ninS ne151 (ninS ne162 nin0))))
        have C249 := ((P48_5.ext E91).keep K134 (ninS ne121 nin0)).keep K217 ni250
        have ni252 := (ninS ne59.symm (ninS ne120 (ninS ne150 (ninS ne161 nin0))))
        have C251 := ((P48_6.ext E91).keep K134 (ninS ne120 nin0)).keep K217 ni252
        have C253 := ((P48_7.ext E91).keep K134 (ninS ne120 nin0)).keep K217 ni252
        have C254 := ((P48_8.ext E91).keep K134 (ninS ne120 nin0)).keep K217 ni252
        have C255 := ((P48_9.ext E91).keep K134 (ninS ne120 nin0)).keep K217 ni252
        have C257 := P134_8.keep K217
        have ni259 := (ninS ne136.symm (ninS ne141.symm (ninS D134_0 (ninS D134_1 nin0))))
        have C258 := P134_9.keep K217 ni259
        have C262 := P134_13.keep K217
        have C263 := P134_15.keep K217
        have ni265 := (ninS ne169.symm (ninS ne174.symm (ninS D134_5.symm (ninS D134_7.symm nin0))))
        have C264 := P134_16.keep K217 ni265
        have C266 := P134_17.keep K217
        have Z271 := Nat.le_trans Z212 K217.1
        have Z272 := Nat.le_trans Z213 K217.1
        have RR274 := RR215.trans (CHr.keep K217 (allS (Safe.exa hZ48.alike C194 (by decide) (by decide)) (allS (Safe.exa hZ48.alike P134_0 (by decide) (by decide)) (allS (Rbk.safe hZ48.alike P134_12) (allS (Safe.exa hZ48.alike P134_13 (by decide) (by decide)) all0)))) RR215.1)
        refine Goes.on (T' := T217) (g' := (mkF m 73 #[sI x0, sI x1, sJ x2, s2, sI x3, sJ x4, s2, sI x5, sR z1, sR yb8, sR yb48, sR a91, sI 1, su] [(.ref a91)])) (fun _ k => XS.iload X217.here hx rfl (dc at_66) rfl (XS.ifNo X217.here hx rfl (dc at_68) rfl (XT.i0_eq_f (by decide)) (XS.aload X217.here hx rfl (dc at_71) rfl rfl k))) ?_
        refine Goes.callV X217 hx hZ48 0 hown48 (ow 223 rfl) (ow 224 rfl) (notFace_of_selects (args := #[]) (mvT hZ48 (ow 226 rfl))) (ow 226 rfl) (ow 225 rfl) (ow 172 rfl) (ow 227 rfl) (by decide) rfl P217_0 (rmEi2 l Z a0 hw a91 ya134 T217.heap n0 Z271  P217_0 P217_11 C257 C258 P217_7 ) (by decide) (by decide) (by decide) (by decide) rfl (by rw [hml]; rfl) (argsL := []) (rest := []) rfl (lenOf pd_3 rfl) rfl (own_le20 rfl) (dc at_73) ?_
        rintro v275 T275 L275 X275 ⟨rfl, N275q, e275⟩
        have N275 := Fr.app (Fr.app (Fr.app (Fr.app (Fr.app N8 N48q) N134q) N216q) N217q) N275q
        show Goes p e below _ T275 (mkF m 76 #[sI x0, sI x1, sJ x2, s2, sI x3, sJ x4, s2, sI x5, sR z1, sR yb8, sR yb48, sR a91, sI 1, su] [(.int 0)])
        refine Goes.on (T' := T275) (g' := (mkF m 90 #[sI x0, sI x1, sJ x2, s2, sI x3, sJ x4, s2, sI x5, sR z1, sR yb8, sR yb48, sR a91, sI 1, su] [(.ref yb48), (.ref a91)])) (fun _ k => XS.ifNo X275.here hx rfl (dc at_76) rfl (XT.i0_ne_f (by decide)) (XS.iconst X275.here hx rfl (dc at_79) (XS.goto X275.here hx rfl (pc0 := 80) (pc' := 84) rfl (dc at_80) (by decide) (by decide) (XS.istore X275.here hx rfl (dc at_84) rfl (l' := #[sI x0, sI x1, sJ x2, s2, sI x3, sJ x4, s2, sI x5, sR z1, sR yb8, sR yb48, sR a91, sI 1, su]) rfl (XS.aload X275.here hx rfl (dc at_86) rfl rfl (XS.aload X275.here hx rfl (dc at_88) rfl rfl k)))))) ?_
        by_cases hc276 : (own_key zb (Fprice x1 x2)) = (own_key zb (Fprice x3 x4))
        · refine Goes.callV X275 hx hZ48 0 hown48 (ow 230 rfl) (ow 231 rfl) (notFace_of_selects (args := #[]) (mvT hZ48 (ow 233 rfl))) (ow 233 rfl) (ow 232 rfl) (ow 172 rfl) (ow 234 rfl) (by decide) e275 P217_0 (rmAdLE l Z a0 hw a91 yd134 yb134 yc134 ya134 ye134 ya217 yb48 yc48 ya48 yb8 zb (Fprice x3 x4) (own_key zb (Fprice x1 x2)) T217.heap n0 Z271  P217_0 P217_6 P217_7 P217_8 P217_9 P217_10 P217_11 P217_12 C263 C264 P217_13 P217_14 C247 C251 C253 C254 C255 C248 C249 C243 C244 C246 P217_15 P217_16 P217_17 P217_18 P217_1 P217_4 P217_3 P217_2 ne120.symm ne224 ne117.symm ne172.symm ne228 ne169.symm ne150.symm ne226 ne147.symm ne161.symm ne227 ne158.symm ne222 ne59.symm D48_2.symm ne223 ne68.symm D48_0 ne221 ne50.symm ne219.symm ne152 ne163 D134_4 ne174.symm D134_5.symm D134_7.symm G66 G233 G20 hc276) (by decide) (by decide) (by decide) (by decide) rfl (by rw [hml]; rfl) (argsL := [(.ref yb48)]) (rest := []) rfl (lenOf pd_29 rfl) rfl (own_le20 rfl) (dc at_90) ?_
          rintro v277 T277 L277 X277 ⟨rfl, N277q, K277, P277_0, P277_1, P277_2, P277_3, P277_4, P277_5, P277_6, P277_7, P277_8, P277_9, P277_10, P277_11, P277_12⟩
          show Goes p e below _ T277 (mkF m 93 #[sI x0, sI x1, sJ x2, s2, sI x3, sJ x4, s2, sI x5, sR z1, sR yb8, sR yb48, sR a91, sI 1, su] [])
          have C288 := P217_0.keep K277
          have C289 := C257.keep K277
          have ni291 := (ninS ne139.symm (ninS ne225 (ninS ne136.symm nin0)))
          have C290 := C258.keep K277 ni291
          have C295 := C263.keep K277
          have ni297 := (ninS ne172.symm (ninS ne228 (ninS ne169.symm nin0)))
          have C296 := C264.keep K277 ni297
          have ni304 := (ninS ne120.symm (ninS ne224 (ninS ne117.symm nin0)))
          have C305 := P217_7.keep K277 ni304
          have C306 := P217_8.keep K277 ni304
          have C307 := P217_9.keep K277 ni304
          have C309 := P217_11.keep K277 ni304
          have C310 := P217_12.keep K277 ni304
          have ni312 := (ninS ne150.symm (ninS ne226 (ninS ne147.symm nin0)))
          have C311 := P217_13.keep K277 ni312
          have Z316 := Nat.le_trans Z271 K277.1
          have Z317 := Nat.le_trans Z272 K277.1
          have RR319 := RR274.trans (CHr.keep K277 (allS (Safe.exa hZ48.alike C247 (by decide) (by decide)) (allS (Safe.exa hZ48.alike P217_15 (by decide) (by decide)) (allS (Safe.exa hZ48.alike P217_1 (by decide) (by decide)) all0))) RR274.1)
          refine Goes.on (T' := T277) (g' := (mkF m 100 #[sI x0, sI x1, sJ x2, s2, sI x3, sJ x4, s2, sI x5, sR z1, sR yb8, sR yb48, sR a91, sI 1, su] [(.ref a91)])) (fun _ k => XS.iload X277.here hx rfl (dc at_93) rfl (XS.ifNo X277.here hx rfl (dc at_95) rfl (XT.i0_eq_f (by decide)) (XS.aload X277.here hx rfl (dc at_98) rfl rfl k))) ?_
          refine Goes.callV X277 hx hZ48 0 hown48 (ow 223 rfl) (ow 224 rfl) (notFace_of_selects (args := #[]) (mvT hZ48 (ow 226 rfl))) (ow 226 rfl) (ow 225 rfl) (ow 172 rfl) (ow 227 rfl) (by decide) rfl C288 (rmEi2 l Z a0 hw a91 ya134 T277.heap n0 Z316  C288 C309 C289 C290 C305 ) (by decide) (by decide) (by decide) (by decide) rfl (by rw [hml]; rfl) (argsL := []) (rest := []) rfl (lenOf pd_3 rfl) rfl (own_le20 rfl) (dc at_100) ?_
          rintro v320 T320 L320 X320 ⟨rfl, N320q, e320⟩
          have N320 := Fr.app (Fr.app N275 N277q) N320q
          show Goes p e below _ T320 (mkF m 103 #[sI x0, sI x1, sJ x2, s2, sI x3, sJ x4, s2, sI x5, sR z1, sR yb8, sR yb48, sR a91, sI 1, su] [(.int 0)])
          refine Goes.on (T' := T320) (g' := (mkF m 120 #[sI x0, sI x1, sJ x2, s2, sI x3, sJ x4, s2, sI x5, sR z1, sR yb8, sR yb48, sR a91, sI 1, su] [(.int ((x5 &&& (2147483647 : Int32)) % (5 : Int32)))])) (fun _ k => XS.ifNo X320.here hx rfl (dc at_103) rfl (XT.i0_ne_f (by decide)) (XS.iconst X320.here hx rfl (dc at_106) (XS.goto X320.here hx rfl (pc0 := 107) (pc' := 111) rfl (dc at_107) (by decide) (by decide) (XS.istore X320.here hx rfl (dc at_111) rfl (l' := #[sI x0, sI x1, sJ x2, s2, sI x3, sJ x4, s2, sI x5, sR z1, sR yb8, sR yb48, sR a91, sI 1, su]) rfl (XS.iload X320.here hx rfl (dc at_113) rfl (X320.ldcInt hx hown48 (mvT hZ48 (ow 286 rfl)) (g := (mkF m 115 #[sI x0, sI x1, sJ x2, s2, sI x3, sJ x4, s2, sI x5, sR z1, sR yb8, sR yb48, sR a91, sI 1, su] [(.int x5)])) rfl (dc at_115) _ (XS.iand X320.here hx rfl (dc at_117) rfl (XS.iconst X320.here hx rfl (dc at_118) (iremM X320 hx rfl (dc at_119) rfl (by decide) k))))))))) ?_
          generalize ((x5 &&& (2147483647 : Int32)) % (5 : Int32)) = md
          refine Goes.on (T' := T320) (g' := (mkF m 125 #[sI x0, sI x1, sJ x2, s2, sI x3, sJ x4, s2, sI x5, sR z1, sR yb8, sR yb48, sR a91, sI 1, sI md] [(.int 1), (.int md)])) (fun _ k => XS.istore X320.here hx rfl (dc at_120) rfl (l' := #[sI x0, sI x1, sJ x2, s2, sI x3, sJ x4, s2, sI x5, sR z1, sR yb8, sR yb48, sR a91, sI 1, sI md]) rfl (XS.iload X320.here hx rfl (dc at_122) rfl (XS.iconst X320.here hx rfl (dc at_124) k))) ?_
          by_cases hc321 : md = (1 : Int32)
          · refine Goes.on (T' := T320) (g' := (mkF m 132 #[sI x0, sI x1, sJ x2, s2, sI x3, sJ x4, s2, sI x5, sR z1, sR yb8, sR yb48, sR a91, sI 1, sI md] [(.ref yb8), (.ref a91)])) (fun _ k => XS.icmpNo X320.here hx rfl (dc at_125) rfl (XT.ii_ne_f hc321) (XS.aload X320.here hx rfl (dc at_128) rfl rfl (XS.aload X320.here hx rfl (dc at_130) rfl rfl k))) ?_
            refine Goes.callV X320 hx hZ48 0 hown48 (ow 287 rfl) (ow 288 rfl) (notFace_of_selects (args := #[]) (mvT hZ48 (ow 290 rfl))) (ow 290 rfl) (ow 289 rfl) (ow 172 rfl) (ow 291 rfl) (by decide) e320 C288 (rmR2a l Z a0 hw a91 yb8 yb48 ya217 T277.heap n0 Z316  P277_9 P277_12 P277_11 P277_10 P277_0 P277_2 P277_3 P277_1 P277_5 P277_6 P277_7 P277_8 ne117.symm ne120.symm ne224 ne59 ne219 ne222 G20 G66 G233 ) (by decide) (by decide) (by decide) (by decide) rfl (by rw [hml]; rfl) (argsL := [(.ref yb8)]) (rest := []) rfl (lenOf pd_29 rfl) rfl (own_le20 rfl) (dc at_132) ?_
            rintro v322 T322 L322 X322 ⟨rfl, N322q, K322, P322_0, P322_1, P322_2, P322_3, P322_4, P322_5, P322_6, P322_7, P322_8, P322_9, P322_10, P322_11⟩
            show Goes p e below _ T322 (mkF m 135 #[sI x0, sI x1, sJ x2, s2, sI x3, sJ x4, s2, sI x5, sR z1, sR yb8, sR yb48, sR a91, sI 1, sI md] [])
            have C326 := C288.keep K322
            have C327 := C289.keep K322
            have ni329 := (ninS ne136.symm (ninS ne139.symm (ninS ne225 nin0)))
            have C328 := C290.keep K322 ni329
            have ni342 := (ninS ne117.symm (ninS ne120.symm (ninS ne224 nin0)))
            have C341 := C305.keep K322 ni342
            have C345 := C309.keep K322 ni342
            have Z350 := Nat.le_trans Z316 K322.1
            have Z351 := Nat.le_trans Z317 K322.1
            have RR353 := RR319.trans (CHr.keep K322 (allS (Safe.exa hZ48.alike P277_9 (by decide) (by decide)) (allS (Safe.exa hZ48.alike P277_0 (by decide) (by decide)) (allS (Safe.exa hZ48.alike P277_5 (by decide) (by decide)) all0))) RR319.1)
            refine Goes.on (T' := T322) (g' := (mkF m 142 #[sI x0, sI x1, sJ x2, s2, sI x3, sJ x4, s2, sI x5, sR z1, sR yb8, sR yb48, sR a91, sI 1, sI md] [(.ref a91)])) (fun _ k => XS.iload X322.here hx rfl (dc at_135) rfl (XS.ifNo X322.here hx rfl (dc at_137) rfl (XT.i0_eq_f (by decide)) (XS.aload X322.here hx rfl (dc at_140) rfl rfl k))) ?_
            refine Goes.callV X322 hx hZ48 0 hown48 (ow 223 rfl) (ow 224 rfl) (notFace_of_selects (args := #[]) (mvT hZ48 (ow 226 rfl))) (ow 226 rfl) (ow 225 rfl) (ow 172 rfl) (ow 227 rfl) (by decide) rfl C326 (rmEi2 l Z a0 hw a91 ya134 T322.heap n0 Z350  C326 C345 C327 C328 C341 ) (by decide) (by decide) (by decide) (by decide) rfl (by rw [hml]; rfl) (argsL := []) (rest := []) rfl (lenOf pd_3 rfl) rfl (own_le20 rfl) (dc at_142) ?_
            rintro v354 T354 L354 X354 ⟨rfl, N354q, e354⟩
            have N354 := Fr.app (Fr.app N320 N322q) N354q
            show Goes p e below _ T354 (mkF m 145 #[sI x0, sI x1, sJ x2, s2, sI x3, sJ x4, s2, sI x5, sR z1, sR yb8, sR yb48, sR a91, sI 1, sI md] [(.int 0)])
            refine Goes.on (T' := T354) (g' := (mkF m 319 #[sI x0, sI x1, sJ x2, s2, sI x3, sJ x4, s2, sI x5, sR z1, sR yb8, sR yb48, sR a91, sI 1, sI md] [(.int 1)])) (fun _ k => XS.ifNo X354.here hx rfl (dc at_145) rfl (XT.i0_ne_f (by decide)) (XS.iconst X354.here hx rfl (dc at_148) (XS.goto X354.here hx rfl (pc0 := 149) (pc' := 153) rfl (dc at_149) (by decide) (by decide) (XS.istore X354.here hx rfl (dc at_153) rfl (l' := #[sI x0, sI x1, sJ x2, s2, sI x3, sJ x4, s2, sI x5, sR z1, sR yb8, sR yb48, sR a91, sI 1, sI md]) rfl (XS.goto X354.here hx rfl (pc0 := 155) (pc' := 317) rfl (dc at_155) (by decide) (by decide) (XS.iload X354.here hx rfl (dc at_317) rfl k)))))) ?_
            exact Goes.retBW X354 hS48 (by rw [e354]; exact Z351) hZ48 hEL (by rw [e354]; exact RR353) hx hlk hret (Or.inr rfl) (dc at_319) (by decide) (by decide) ⟨rfl, N354⟩
          · refine Goes.on (T' := T320) (g' := (mkF m 161 #[sI x0, sI x1, sJ x2, s2, sI x3, sJ x4, s2, sI x5, sR z1, sR yb8, sR yb48, sR a91, sI 1, sI md] [(.int 2), (.int md)])) (fun _ k => XS.icmpYes X320.here hx rfl (pc0 := 125) (pc' := 158) rfl (dc at_125) rfl (XT.ii_ne_t hc321) (by decide) (by decide) (XS.iload X320.here hx rfl (dc at_158) rfl (XS.iconst X320.here hx rfl (dc at_160) k))) ?_
            by_cases hc355 : md = (2 : Int32)
            · refine Goes.on (T' := T320) (g' := (mkF m 168 #[sI x0, sI x1, sJ x2, s2, sI x3, sJ x4, s2, sI x5, sR z1, sR yb8, sR yb48, sR a91, sI 1, sI md] [(.ref yb48), (.ref a91)])) (fun _ k => XS.icmpNo X320.here hx rfl (dc at_161) rfl (XT.ii_ne_f hc355) (XS.aload X320.here hx rfl (dc at_164) rfl rfl (XS.aload X320.here hx rfl (dc at_166) rfl rfl k))) ?_
              refine Goes.callV X320 hx hZ48 0 hown48 (ow 287 rfl) (ow 288 rfl) (notFace_of_selects (args := #[]) (mvT hZ48 (ow 290 rfl))) (ow 290 rfl) (ow 289 rfl) (ow 172 rfl) (ow 291 rfl) (by decide) e320 C288 (rmR2b l Z a0 hw a91 yb48 yb8 ya217 T277.heap n0 Z316  P277_0 P277_1 P277_2 P277_3 P277_9 P277_10 P277_11 P277_12 P277_5 P277_6 P277_7 P277_8 ne120.symm ne117.symm ne224 ne59.symm ne222 ne219 G66 G20 G233 ) (by decide) (by decide) (by decide) (by decide) rfl (by rw [hml]; rfl) (argsL := [(.ref yb48)]) (rest := []) rfl (lenOf pd_29 rfl) rfl (own_le20 rfl) (dc at_168) ?_
              rintro v356 T356 L356 X356 ⟨rfl, N356q, K356, P356_0, P356_1, P356_2, P356_3, P356_4, P356_5, P356_6, P356_7, P356_8, P356_9, P356_10, P356_11⟩
              show Goes p e below _ T356 (mkF m 171 #[sI x0, sI x1, sJ x2, s2, sI x3, sJ x4, s2, sI x5, sR z1, sR yb8, sR yb48, sR a91, sI 1, sI md] [])
              have C360 := C288.keep K356
              have C361 := C289.keep K356
              have ni363 := (ninS ne139.symm (ninS ne136.symm (ninS ne225 nin0)))
              have C362 := C290.keep K356 ni363
              have ni376 := (ninS ne120.symm (ninS ne117.symm (ninS ne224 nin0)))
              have C375 := C305.keep K356 ni376
              have C379 := C309.keep K356 ni376
              have Z384 := Nat.le_trans Z316 K356.1
              have Z385 := Nat.le_trans Z317 K356.1
              have RR387 := RR319.trans (CHr.keep K356 (allS (Safe.exa hZ48.alike P277_0 (by decide) (by decide)) (allS (Safe.exa hZ48.alike P277_9 (by decide) (by decide)) (allS (Safe.exa hZ48.alike P277_5 (by decide) (by decide)) all0))) RR319.1)
              refine Goes.on (T' := T356) (g' := (mkF m 178 #[sI x0, sI x1, sJ x2, s2, sI x3, sJ x4, s2, sI x5, sR z1, sR yb8, sR yb48, sR a91, sI 1, sI md] [(.ref a91)])) (fun _ k => XS.iload X356.here hx rfl (dc at_171) rfl (XS.ifNo X356.here hx rfl (dc at_173) rfl (XT.i0_eq_f (by decide)) (XS.aload X356.here hx rfl (dc at_176) rfl rfl k))) ?_
              refine Goes.callV X356 hx hZ48 0 hown48 (ow 223 rfl) (ow 224 rfl) (notFace_of_selects (args := #[]) (mvT hZ48 (ow 226 rfl))) (ow 226 rfl) (ow 225 rfl) (ow 172 rfl) (ow 227 rfl) (by decide) rfl C360 (rmEi2 l Z a0 hw a91 ya134 T356.heap n0 Z384  C360 C379 C361 C362 C375 ) (by decide) (by decide) (by decide) (by decide) rfl (by rw [hml]; rfl) (argsL := []) (rest := []) rfl (lenOf pd_3 rfl) rfl (own_le20 rfl) (dc at_178) ?_
              rintro v388 T388 L388 X388 ⟨rfl, N388q, e388⟩
              have N388 := Fr.app (Fr.app N320 N356q) N388q
              show Goes p e below _ T388 (mkF m 181 #[sI x0, sI x1, sJ x2, s2, sI x3, sJ x4, s2, sI x5, sR z1, sR yb8, sR yb48, sR a91, sI 1, sI md] [(.int 0)])
              refine Goes.on (T' := T388) (g' := (mkF m 319 #[sI x0, sI x1, sJ x2, s2, sI x3, sJ x4, s2, sI x5, sR z1, sR yb8, sR yb48, sR a91, sI 1, sI md] [(.int 1)])) (fun _ k => XS.ifNo X388.here hx rfl (dc at_181) rfl (XT.i0_ne_f (by decide)) (XS.iconst X388.here hx rfl (dc at_184) (XS.goto X388.here hx rfl (pc0 := 185) (pc' := 189) rfl (dc at_185) (by decide) (by decide) (XS.istore X388.here hx rfl (dc at_189) rfl (l' := #[sI x0, sI x1, sJ x2, s2, sI x3, sJ x4, s2, sI x5, sR z1, sR yb8, sR yb48, sR a91, sI 1, sI md]) rfl (XS.goto X388.here hx rfl (pc0 := 191) (pc' := 317) rfl (dc at_191) (by decide) (by decide) (XS.iload X388.here hx rfl (dc at_317) rfl k)))))) ?_
              exact Goes.retBW X388 hS48 (by rw [e388]; exact Z385) hZ48 hEL (by rw [e388]; exact RR387) hx hlk hret (Or.inr rfl) (dc at_319) (by decide) (by decide) ⟨rfl, N388⟩
            · refine Goes.on (T' := T320) (g' := (mkF m 197 #[sI x0, sI x1, sJ x2, s2, sI x3, sJ x4, s2, sI x5, sR z1, sR yb8, sR yb48, sR a91, sI 1, sI md] [(.int 3), (.int md)])) (fun _ k => XS.icmpYes X320.here hx rfl (pc0 := 161) (pc' := 194) rfl (dc at_161) rfl (XT.ii_ne_t hc355) (by decide) (by decide) (XS.iload X320.here hx rfl (dc at_194) rfl (XS.iconst X320.here hx rfl (dc at_196) k))) ?_
              by_cases hc389 : md = (3 : Int32)
              · refine Goes.on (T' := T320) (g' := (mkF m 204 #[sI x0, sI x1, sJ x2, s2, sI x3, sJ x4, s2, sI x5, sR z1, sR yb8, sR yb48, sR a91, sI 1, sI md] [(.ref yb8), (.ref a91)])) (fun _ k => XS.icmpNo X320.here hx rfl (dc at_197) rfl (XT.ii_ne_f hc389) (XS.aload X320.here hx rfl (dc at_200) rfl rfl (XS.aload X320.here hx rfl (dc at_202) rfl rfl k))) ?_
                refine Goes.callV X320 hx hZ48 0 hown48 (ow 287 rfl) (ow 288 rfl) (notFace_of_selects (args := #[]) (mvT hZ48 (ow 290 rfl))) (ow 290 rfl) (ow 289 rfl) (ow 172 rfl) (ow 291 rfl) (by decide) e320 C288 (rmR2a l Z a0 hw a91 yb8 yb48 ya217 T277.heap n0 Z316  P277_9 P277_12 P277_11 P277_10 P277_0 P277_2 P277_3 P277_1 P277_5 P277_6 P277_7 P277_8 ne117.symm ne120.symm ne224 ne59 ne219 ne222 G20 G66 G233 ) (by decide) (by decide) (by decide) (by decide) rfl (by rw [hml]; rfl) (argsL := [(.ref yb8)]) (rest := []) rfl (lenOf pd_29 rfl) rfl (own_le20 rfl) (dc at_204) ?_
                rintro v390 T390 L390 X390 ⟨rfl, N390q, K390, P390_0, P390_1, P390_2, P390_3, P390_4, P390_5, P390_6, P390_7, P390_8, P390_9, P390_10, P390_11⟩
                show Goes p e below _ T390 (mkF m 207 #[sI x0, sI x1, sJ x2, s2, sI x3, sJ x4, s2, sI x5, sR z1, sR yb8, sR yb48, sR a91, sI 1, sI md] [])
                have C394 := C288.keep K390
                have C395 := C289.keep K390
                have ni397 := (ninS ne136.symm (ninS ne139.symm (ninS ne225 nin0)))
                have C396 := C290.keep K390 ni397
                have C401 := C295.keep K390
                have ni403 := (ninS ne169.symm (ninS ne172.symm (ninS ne228 nin0)))
                have C402 := C296.keep K390 ni403
                have ni410 := (ninS ne117.symm (ninS ne120.symm (ninS ne224 nin0)))
                have C409 := C305.keep K390 ni410
                have C411 := C306.keep K390 ni410
                have C412 := C307.keep K390 ni410
                have C413 := C309.keep K390 ni410
                have C414 := C310.keep K390 ni410
                have ni416 := (ninS ne147.symm (ninS ne150.symm (ninS ne226 nin0)))
                have C415 := C311.keep K390 ni416
                have Z418 := Nat.le_trans Z316 K390.1
                have Z419 := Nat.le_trans Z317 K390.1
                have RR421 := RR319.trans (CHr.keep K390 (allS (Safe.exa hZ48.alike P277_9 (by decide) (by decide)) (allS (Safe.exa hZ48.alike P277_0 (by decide) (by decide)) (allS (Safe.exa hZ48.alike P277_5 (by decide) (by decide)) all0))) RR319.1)
                refine Goes.on (T' := T390) (g' := (mkF m 214 #[sI x0, sI x1, sJ x2, s2, sI x3, sJ x4, s2, sI x5, sR z1, sR yb8, sR yb48, sR a91, sI 1, sI md] [(.ref a91)])) (fun _ k => XS.iload X390.here hx rfl (dc at_207) rfl (XS.ifNo X390.here hx rfl (dc at_209) rfl (XT.i0_eq_f (by decide)) (XS.aload X390.here hx rfl (dc at_212) rfl rfl k))) ?_
                refine Goes.callV X390 hx hZ48 0 hown48 (ow 223 rfl) (ow 224 rfl) (notFace_of_selects (args := #[]) (mvT hZ48 (ow 226 rfl))) (ow 226 rfl) (ow 225 rfl) (ow 172 rfl) (ow 227 rfl) (by decide) rfl C394 (rmEi2 l Z a0 hw a91 ya134 T390.heap n0 Z418  C394 C413 C395 C396 C409 ) (by decide) (by decide) (by decide) (by decide) rfl (by rw [hml]; rfl) (argsL := []) (rest := []) rfl (lenOf pd_3 rfl) rfl (own_le20 rfl) (dc at_214) ?_
                rintro v422 T422 L422 X422 ⟨rfl, N422q, e422⟩
                show Goes p e below _ T422 (mkF m 217 #[sI x0, sI x1, sJ x2, s2, sI x3, sJ x4, s2, sI x5, sR z1, sR yb8, sR yb48, sR a91, sI 1, sI md] [(.int 0)])
                refine Goes.on (T' := T422) (g' := (mkF m 231 #[sI x0, sI x1, sJ x2, s2, sI x3, sJ x4, s2, sI x5, sR z1, sR yb8, sR yb48, sR a91, sI 1, sI md] [(.ref yb48), (.ref a91)])) (fun _ k => XS.ifNo X422.here hx rfl (dc at_217) rfl (XT.i0_ne_f (by decide)) (XS.iconst X422.here hx rfl (dc at_220) (XS.goto X422.here hx rfl (pc0 := 221) (pc' := 225) rfl (dc at_221) (by decide) (by decide) (XS.istore X422.here hx rfl (dc at_225) rfl (l' := #[sI x0, sI x1, sJ x2, s2, sI x3, sJ x4, s2, sI x5, sR z1, sR yb8, sR yb48, sR a91, sI 1, sI md]) rfl (XS.aload X422.here hx rfl (dc at_227) rfl rfl (XS.aload X422.here hx rfl (dc at_229) rfl rfl k)))))) ?_
                refine Goes.callV X422 hx hZ48 0 hown48 (ow 287 rfl) (ow 288 rfl) (notFace_of_selects (args := #[]) (mvT hZ48 (ow 290 rfl))) (ow 290 rfl) (ow 289 rfl) (ow 172 rfl) (ow 291 rfl) (by decide) e422 C394 (rmRL1 l Z a0 hw a91 yb48 ya134 yd134 yb134 ye134 ya217 T390.heap n0 Z418  P390_4 P390_7 P390_5 P390_6 P390_8 P390_9 P390_10 P390_11 C394 C413 C409 C414 C411 C412 C401 C402 C415 ne120.symm ne224 ne152 ne222 ne150 ne139.symm ne225 ne141.symm D134_0 ne172.symm ne228 ne174.symm D134_5.symm ne226 ne183.symm ne229 ne185.symm D134_6.symm G66 G233 G91 G156 ) (by decide) (by decide) (by decide) (by decide) rfl (by rw [hml]; rfl) (argsL := [(.ref yb48)]) (rest := []) rfl (lenOf pd_29 rfl) rfl (own_le20 rfl) (dc at_231) ?_
                rintro v423 T423 L423 X423 ⟨rfl, N423q, K423, P423_0, P423_1, P423_2, P423_3, P423_4, P423_5, P423_6, P423_7, P423_8, P423_9, P423_10, P423_11, P423_12, P423_13, P423_14⟩
                show Goes p e below _ T423 (mkF m 234 #[sI x0, sI x1, sJ x2, s2, sI x3, sJ x4, s2, sI x5, sR z1, sR yb8, sR yb48, sR a91, sI 1, sI md] [])
                have C428 := C395.keep K423
                have ni430 := (ninS ne139.symm (ninS ne225 (ninS ne141.symm (ninS D134_0 nin0))))
                have C429 := C396.keep K423 ni430
                have Z447 := Nat.le_trans Z418 K423.1
                have Z448 := Nat.le_trans Z419 K423.1
                have RR450 := RR421.trans (CHr.keep K423 (allS (Safe.exa hZ48.alike P390_4 (by decide) (by decide)) (allS (Safe.exa hZ48.alike P390_8 (by decide) (by decide)) (allS (Safe.exa hZ48.alike C394 (by decide) (by decide)) (allS (Rbk.safe hZ48.alike C415) all0)))) RR421.1)
                refine Goes.on (T' := T423) (g' := (mkF m 241 #[sI x0, sI x1, sJ x2, s2, sI x3, sJ x4, s2, sI x5, sR z1, sR yb8, sR yb48, sR a91, sI 1, sI md] [(.ref a91)])) (fun _ k => XS.iload X423.here hx rfl (dc at_234) rfl (XS.ifNo X423.here hx rfl (dc at_236) rfl (XT.i0_eq_f (by decide)) (XS.aload X423.here hx rfl (dc at_239) rfl rfl k))) ?_
                refine Goes.callV X423 hx hZ48 0 hown48 (ow 223 rfl) (ow 224 rfl) (notFace_of_selects (args := #[]) (mvT hZ48 (ow 226 rfl))) (ow 226 rfl) (ow 225 rfl) (ow 172 rfl) (ow 227 rfl) (by decide) rfl P423_8 (rmEi1 l Z a0 hw a91 ya134 T423.heap n0 Z447  P423_8 P423_9 C428 C429 P423_10 ) (by decide) (by decide) (by decide) (by decide) rfl (by rw [hml]; rfl) (argsL := []) (rest := []) rfl (lenOf pd_3 rfl) rfl (own_le20 rfl) (dc at_241) ?_
                rintro v451 T451 L451 X451 ⟨rfl, N451q, e451⟩
                have N451 := Fr.app (Fr.app (Fr.app (Fr.app N320 N390q) N422q) N423q) N451q
                show Goes p e below _ T451 (mkF m 244 #[sI x0, sI x1, sJ x2, s2, sI x3, sJ x4, s2, sI x5, sR z1, sR yb8, sR yb48, sR a91, sI 1, sI md] [(.int 1)])
                refine Goes.on (T' := T451) (g' := (mkF m 319 #[sI x0, sI x1, sJ x2, s2, sI x3, sJ x4, s2, sI x5, sR z1, sR yb8, sR yb48, sR a91, sI 1, sI md] [(.int 1)])) (fun _ k => XS.ifNo X451.here hx rfl (dc at_244) rfl (XT.i0_eq_f (by decide)) (XS.iconst X451.here hx rfl (dc at_247) (XS.goto X451.here hx rfl (pc0 := 248) (pc' := 252) rfl (dc at_248) (by decide) (by decide) (XS.istore X451.here hx rfl (dc at_252) rfl (l' := #[sI x0, sI x1, sJ x2, s2, sI x3, sJ x4, s2, sI x5, sR z1, sR yb8, sR yb48, sR a91, sI 1, sI md]) rfl (XS.goto X451.here hx rfl (pc0 := 254) (pc' := 317) rfl (dc at_254) (by decide) (by decide) (XS.iload X451.here hx rfl (dc at_317) rfl k)))))) ?_
                exact Goes.retBW X451 hS48 (by rw [e451]; exact Z448) hZ48 hEL (by rw [e451]; exact RR450) hx hlk hret (Or.inr rfl) (dc at_319) (by decide) (by decide) ⟨rfl, N451⟩
              · refine Goes.on (T' := T320) (g' := (mkF m 260 #[sI x0, sI x1, sJ x2, s2, sI x3, sJ x4, s2, sI x5, sR z1, sR yb8, sR yb48, sR a91, sI 1, sI md] [(.int 4), (.int md)])) (fun _ k => XS.icmpYes X320.here hx rfl (pc0 := 197) (pc' := 257) rfl (dc at_197) rfl (XT.ii_ne_t hc389) (by decide) (by decide) (XS.iload X320.here hx rfl (dc at_257) rfl (XS.iconst X320.here hx rfl (dc at_259) k))) ?_
                by_cases hc452 : md = (4 : Int32)
                · refine Goes.on (T' := T320) (g' := (mkF m 267 #[sI x0, sI x1, sJ x2, s2, sI x3, sJ x4, s2, sI x5, sR z1, sR yb8, sR yb48, sR a91, sI 1, sI md] [(.ref yb48), (.ref a91)])) (fun _ k => XS.icmpNo X320.here hx rfl (dc at_260) rfl (XT.ii_ne_f hc452) (XS.aload X320.here hx rfl (dc at_263) rfl rfl (XS.aload X320.here hx rfl (dc at_265) rfl rfl k))) ?_
                  refine Goes.callV X320 hx hZ48 0 hown48 (ow 287 rfl) (ow 288 rfl) (notFace_of_selects (args := #[]) (mvT hZ48 (ow 290 rfl))) (ow 290 rfl) (ow 289 rfl) (ow 172 rfl) (ow 291 rfl) (by decide) e320 C288 (rmR2b l Z a0 hw a91 yb48 yb8 ya217 T277.heap n0 Z316  P277_0 P277_1 P277_2 P277_3 P277_9 P277_10 P277_11 P277_12 P277_5 P277_6 P277_7 P277_8 ne120.symm ne117.symm ne224 ne59.symm ne222 ne219 G66 G20 G233 ) (by decide) (by decide) (by decide) (by decide) rfl (by rw [hml]; rfl) (argsL := [(.ref yb48)]) (rest := []) rfl (lenOf pd_29 rfl) rfl (own_le20 rfl) (dc at_267) ?_
                  rintro v453 T453 L453 X453 ⟨rfl, N453q, K453, P453_0, P453_1, P453_2, P453_3, P453_4, P453_5, P453_6, P453_7, P453_8, P453_9, P453_10, P453_11⟩
                  show Goes p e below _ T453 (mkF m 270 #[sI x0, sI x1, sJ x2, s2, sI x3, sJ x4, s2, sI x5, sR z1, sR yb8, sR yb48, sR a91, sI 1, sI md] [])
                  have C457 := C288.keep K453
                  have C458 := C289.keep K453
                  have ni460 := (ninS ne139.symm (ninS ne136.symm (ninS ne225 nin0)))
                  have C459 := C290.keep K453 ni460
                  have C464 := C295.keep K453
                  have ni466 := (ninS ne172.symm (ninS ne169.symm (ninS ne228 nin0)))
                  have C465 := C296.keep K453 ni466
                  have ni473 := (ninS ne120.symm (ninS ne117.symm (ninS ne224 nin0)))
                  have C472 := C305.keep K453 ni473
                  have C474 := C306.keep K453 ni473
                  have C475 := C307.keep K453 ni473
                  have C476 := C309.keep K453 ni473
                  have C477 := C310.keep K453 ni473
                  have ni479 := (ninS ne150.symm (ninS ne147.symm (ninS ne226 nin0)))
                  have C478 := C311.keep K453 ni479
                  have Z481 := Nat.le_trans Z316 K453.1
                  have Z482 := Nat.le_trans Z317 K453.1
                  have RR484 := RR319.trans (CHr.keep K453 (allS (Safe.exa hZ48.alike P277_0 (by decide) (by decide)) (allS (Safe.exa hZ48.alike P277_9 (by decide) (by decide)) (allS (Safe.exa hZ48.alike P277_5 (by decide) (by decide)) all0))) RR319.1)
                  refine Goes.on (T' := T453) (g' := (mkF m 277 #[sI x0, sI x1, sJ x2, s2, sI x3, sJ x4, s2, sI x5, sR z1, sR yb8, sR yb48, sR a91, sI 1, sI md] [(.ref a91)])) (fun _ k => XS.iload X453.here hx rfl (dc at_270) rfl (XS.ifNo X453.here hx rfl (dc at_272) rfl (XT.i0_eq_f (by decide)) (XS.aload X453.here hx rfl (dc at_275) rfl rfl k))) ?_
                  refine Goes.callV X453 hx hZ48 0 hown48 (ow 223 rfl) (ow 224 rfl) (notFace_of_selects (args := #[]) (mvT hZ48 (ow 226 rfl))) (ow 226 rfl) (ow 225 rfl) (ow 172 rfl) (ow 227 rfl) (by decide) rfl C457 (rmEi2 l Z a0 hw a91 ya134 T453.heap n0 Z481  C457 C476 C458 C459 C472 ) (by decide) (by decide) (by decide) (by decide) rfl (by rw [hml]; rfl) (argsL := []) (rest := []) rfl (lenOf pd_3 rfl) rfl (own_le20 rfl) (dc at_277) ?_
                  rintro v485 T485 L485 X485 ⟨rfl, N485q, e485⟩
                  show Goes p e below _ T485 (mkF m 280 #[sI x0, sI x1, sJ x2, s2, sI x3, sJ x4, s2, sI x5, sR z1, sR yb8, sR yb48, sR a91, sI 1, sI md] [(.int 0)])
                  refine Goes.on (T' := T485) (g' := (mkF m 294 #[sI x0, sI x1, sJ x2, s2, sI x3, sJ x4, s2, sI x5, sR z1, sR yb8, sR yb48, sR a91, sI 1, sI md] [(.ref yb8), (.ref a91)])) (fun _ k => XS.ifNo X485.here hx rfl (dc at_280) rfl (XT.i0_ne_f (by decide)) (XS.iconst X485.here hx rfl (dc at_283) (XS.goto X485.here hx rfl (pc0 := 284) (pc' := 288) rfl (dc at_284) (by decide) (by decide) (XS.istore X485.here hx rfl (dc at_288) rfl (l' := #[sI x0, sI x1, sJ x2, s2, sI x3, sJ x4, s2, sI x5, sR z1, sR yb8, sR yb48, sR a91, sI 1, sI md]) rfl (XS.aload X485.here hx rfl (dc at_290) rfl rfl (XS.aload X485.here hx rfl (dc at_292) rfl rfl k)))))) ?_
                  refine Goes.callV X485 hx hZ48 0 hown48 (ow 287 rfl) (ow 288 rfl) (notFace_of_selects (args := #[]) (mvT hZ48 (ow 290 rfl))) (ow 290 rfl) (ow 289 rfl) (ow 172 rfl) (ow 291 rfl) (by decide) e485 C457 (rmRL1 l Z a0 hw a91 yb8 ya134 yd134 yb134 ye134 ya217 T453.heap n0 Z481  P453_4 P453_7 P453_6 P453_5 P453_8 P453_9 P453_10 P453_11 C457 C476 C472 C477 C474 C475 C464 C465 C478 ne117.symm ne224 ne152 ne219 ne147 ne136.symm ne225 ne141.symm D134_0 ne169.symm ne228 ne174.symm D134_5.symm ne226 ne180.symm ne229 ne185.symm D134_6.symm G20 G233 G91 G156 ) (by decide) (by decide) (by decide) (by decide) rfl (by rw [hml]; rfl) (argsL := [(.ref yb8)]) (rest := []) rfl (lenOf pd_29 rfl) rfl (own_le20 rfl) (dc at_294) ?_
                  rintro v486 T486 L486 X486 ⟨rfl, N486q, K486, P486_0, P486_1, P486_2, P486_3, P486_4, P486_5, P486_6, P486_7, P486_8, P486_9, P486_10, P486_11, P486_12, P486_13, P486_14⟩
                  show Goes p e below _ T486 (mkF m 297 #[sI x0, sI x1, sJ x2, s2, sI x3, sJ x4, s2, sI x5, sR z1, sR yb8, sR yb48, sR a91, sI 1, sI md] [])
                  have C491 := C458.keep K486
                  have ni493 := (ninS ne136.symm (ninS ne225 (ninS ne141.symm (ninS D134_0 nin0))))
                  have C492 := C459.keep K486 ni493
                  have Z510 := Nat.le_trans Z481 K486.1
                  have Z511 := Nat.le_trans Z482 K486.1
                  have RR513 := RR484.trans (CHr.keep K486 (allS (Safe.exa hZ48.alike P453_4 (by decide) (by decide)) (allS (Safe.exa hZ48.alike P453_8 (by decide) (by decide)) (allS (Safe.exa hZ48.alike C457 (by decide) (by decide)) (allS (Rbk.safe hZ48.alike C478) all0)))) RR484.1)
                  refine Goes.on (T' := T486) (g' := (mkF m 304 #[sI x0, sI x1, sJ x2, s2, sI x3, sJ x4, s2, sI x5, sR z1, sR yb8, sR yb48, sR a91, sI 1, sI md] [(.ref a91)])) (fun _ k => XS.iload X486.here hx rfl (dc at_297) rfl (XS.ifNo X486.here hx rfl (dc at_299) rfl (XT.i0_eq_f (by decide)) (XS.aload X486.here hx rfl (dc at_302) rfl rfl k))) ?_
                  refine Goes.callV X486 hx hZ48 0 hown48 (ow 223 rfl) (ow 224 rfl) (notFace_of_selects (args := #[]) (mvT hZ48 (ow 226 rfl))) (ow 226 rfl) (ow 225 rfl) (ow 172 rfl) (ow 227 rfl) (by decide) rfl P486_8 (rmEi1 l Z a0 hw a91 ya134 T486.heap n0 Z510  P486_8 P486_9 C491 C492 P486_10 ) (by decide) (by decide) (by decide) (by decide) rfl (by rw [hml]; rfl) (argsL := []) (rest := []) rfl (lenOf pd_3 rfl) rfl (own_le20 rfl) (dc at_304) ?_
                  rintro v514 T514 L514 X514 ⟨rfl, N514q, e514⟩
                  have N514 := Fr.app (Fr.app (Fr.app (Fr.app N320 N453q) N485q) N486q) N514q
                  show Goes p e below _ T514 (mkF m 307 #[sI x0, sI x1, sJ x2, s2, sI x3, sJ x4, s2, sI x5, sR z1, sR yb8, sR yb48, sR a91, sI 1, sI md] [(.int 1)])
                  refine Goes.on (T' := T514) (g' := (mkF m 319 #[sI x0, sI x1, sJ x2, s2, sI x3, sJ x4, s2, sI x5, sR z1, sR yb8, sR yb48, sR a91, sI 1, sI md] [(.int 1)])) (fun _ k => XS.ifNo X514.here hx rfl (dc at_307) rfl (XT.i0_eq_f (by decide)) (XS.iconst X514.here hx rfl (dc at_310) (XS.goto X514.here hx rfl (pc0 := 311) (pc' := 315) rfl (dc at_311) (by decide) (by decide) (XS.istore X514.here hx rfl (dc at_315) rfl (l' := #[sI x0, sI x1, sJ x2, s2, sI x3, sJ x4, s2, sI x5, sR z1, sR yb8, sR yb48, sR a91, sI 1, sI md]) rfl (XS.iload X514.here hx rfl (dc at_317) rfl k))))) ?_
                  exact Goes.retBW X514 hS48 (by rw [e514]; exact Z511) hZ48 hEL (by rw [e514]; exact RR513) hx hlk hret (Or.inr rfl) (dc at_319) (by decide) (by decide) ⟨rfl, N514⟩
                · refine Goes.on (T' := T320) (g' := (mkF m 319 #[sI x0, sI x1, sJ x2, s2, sI x3, sJ x4, s2, sI x5, sR z1, sR yb8, sR yb48, sR a91, sI 1, sI md] [(.int 1)])) (fun _ k => XS.icmpYes X320.here hx rfl (pc0 := 260) (pc' := 317) rfl (dc at_260) rfl (XT.ii_ne_t hc452) (by decide) (by decide) (XS.iload X320.here hx rfl (dc at_317) rfl k)) ?_
                  exact Goes.retBW X320 hS48 (by rw [e320]; exact Z317) hZ48 hEL (by rw [e320]; exact RR319) hx hlk hret (Or.inr rfl) (dc at_319) (by decide) (by decide) ⟨rfl, N320⟩
        · by_cases hc515 : (own_key zb (Fprice x3 x4)) < (own_key zb (Fprice x1 x2))
          · refine Goes.callV X275 hx hZ48 0 hown48 (ow 230 rfl) (ow 231 rfl) (notFace_of_selects (args := #[]) (mvT hZ48 (ow 233 rfl))) (ow 233 rfl) (ow 232 rfl) (ow 172 rfl) (ow 234 rfl) (by decide) e275 P217_0 (rmAdLL l Z a0 hw a91 yd134 yb134 yc134 ya134 ye134 ya217 yb48 yc48 ya48 zb (Fprice x3 x4) (own_key zb (Fprice x1 x2)) T217.heap n0 Z271  P217_0 P217_6 P217_7 P217_8 P217_9 P217_10 P217_11 P217_12 C263 C264 P217_13 P217_14 C247 C251 C253 C254 C255 C248 C249 C243 C244 C246 P217_15 ne120.symm ne152 ne163 ne172.symm ne174.symm D134_5.symm D134_7.symm ne150.symm D134_4 ne161.symm D48_2.symm ne121 ne151 ne162 D48_0 ne119 ne149 ne160 ne222.symm ne224.symm ne226.symm ne227.symm G66 G91 G156 G167 hc515 (own_knm (own_price x3 x4))) (by decide) (by decide) (by decide) (by decide) rfl (by rw [hml]; rfl) (argsL := [(.ref yb48)]) (rest := []) rfl (lenOf pd_29 rfl) rfl (own_le20 rfl) (dc at_90) ?_
            rintro v516 T516 L516 X516 ⟨ya516, rfl, N516q, K516, P516_0, P516_1, P516_2, P516_3, P516_4, P516_5, P516_6, P516_7, P516_8, P516_9, P516_10, P516_11, P516_12, P516_13, P516_14, P516_15, P516_16, P516_17, P516_18, M516_0⟩
            show Goes p e below _ T516 (mkF m 93 #[sI x0, sI x1, sJ x2, s2, sI x3, sJ x4, s2, sI x5, sR z1, sR yb8, sR yb48, sR a91, sI 1, su] [])
            have ne517 := own_neL P217_1.lt M516_0
            have ne519 := own_neL C247.lt M516_0
            have ne521 := own_neL P217_0.lt M516_0
            have ne522 := own_neL C257.lt M516_0
            have ne524 := own_neL C263.lt M516_0
            have ne525 := own_neL C266.lt M516_0
            have ne526 := own_neL P217_13.lt M516_0
            have ne527 := own_neL P217_15.lt M516_0
            have G531 : n0 ≤ ya516 := Nat.le_trans Z271 M516_0
            have C533 := P217_1.keep K516
            have C543 := C257.keep K516
            have ni545 := (ninS ne139.symm (ninS ne141.symm (ninS D134_0 (ninS D134_1 nin0))))
            have C544 := C258.keep K516 ni545
            have C549 := C263.keep K516
            have ni551 := (ninS ne172.symm (ninS ne174.symm (ninS D134_5.symm (ninS D134_7.symm nin0))))
            have C550 := C264.keep K516 ni551
            have ni558 := (ninS ne59 (ninS ne117 (ninS ne147 (ninS ne158 nin0))))
            have C557 := P217_2.keep K516 ni558
            have C559 := P217_3.keep K516 ni558
            have C560 := P217_4.keep K516 ni558
            have C561 := P217_15.keep K516
            have ni563 := (ninS ne222.symm (ninS ne224.symm (ninS ne226.symm (ninS ne227.symm nin0))))
            have C562 := P217_16.keep K516 ni563
            have C564 := P217_17.keep K516 ni563
            have C565 := P217_18.keep K516 ni563
            have Z567 := Nat.le_trans Z271 K516.1
            have Z568 := Nat.le_trans Z272 K516.1
            have RR570 := RR274.trans (CHr.keep K516 (allS (Safe.exa hZ48.alike C247 (by decide) (by decide)) (allS (Safe.exa hZ48.alike P217_0 (by decide) (by decide)) (allS (Rbk.safe hZ48.alike P217_13) (allS (Safe.exa hZ48.alike C262 (by decide) (by decide)) all0)))) RR274.1)
            refine Goes.on (T' := T516) (g' := (mkF m 100 #[sI x0, sI x1, sJ x2, s2, sI x3, sJ x4, s2, sI x5, sR z1, sR yb8, sR yb48, sR a91, sI 1, su] [(.ref a91)])) (fun _ k => XS.iload X516.here hx rfl (dc at_93) rfl (XS.ifNo X516.here hx rfl (dc at_95) rfl (XT.i0_eq_f (by decide)) (XS.aload X516.here hx rfl (dc at_98) rfl rfl k))) ?_
            refine Goes.callV X516 hx hZ48 0 hown48 (ow 223 rfl) (ow 224 rfl) (notFace_of_selects (args := #[]) (mvT hZ48 (ow 226 rfl))) (ow 226 rfl) (ow 225 rfl) (ow 172 rfl) (ow 227 rfl) (by decide) rfl P516_0 (rmEi3 l Z a0 hw a91 ya134 T516.heap n0 Z567  P516_0 P516_11 C543 C544 P516_7 ) (by decide) (by decide) (by decide) (by decide) rfl (by rw [hml]; rfl) (argsL := []) (rest := []) rfl (lenOf pd_3 rfl) rfl (own_le20 rfl) (dc at_100) ?_
            rintro v571 T571 L571 X571 ⟨rfl, N571q, e571⟩
            have N571 := Fr.app (Fr.app N275 N516q) N571q
            show Goes p e below _ T571 (mkF m 103 #[sI x0, sI x1, sJ x2, s2, sI x3, sJ x4, s2, sI x5, sR z1, sR yb8, sR yb48, sR a91, sI 1, su] [(.int 0)])
            refine Goes.on (T' := T571) (g' := (mkF m 120 #[sI x0, sI x1, sJ x2, s2, sI x3, sJ x4, s2, sI x5, sR z1, sR yb8, sR yb48, sR a91, sI 1, su] [(.int ((x5 &&& (2147483647 : Int32)) % (5 : Int32)))])) (fun _ k => XS.ifNo X571.here hx rfl (dc at_103) rfl (XT.i0_ne_f (by decide)) (XS.iconst X571.here hx rfl (dc at_106) (XS.goto X571.here hx rfl (pc0 := 107) (pc' := 111) rfl (dc at_107) (by decide) (by decide) (XS.istore X571.here hx rfl (dc at_111) rfl (l' := #[sI x0, sI x1, sJ x2, s2, sI x3, sJ x4, s2, sI x5, sR z1, sR yb8, sR yb48, sR a91, sI 1, su]) rfl (XS.iload X571.here hx rfl (dc at_113) rfl (X571.ldcInt hx hown48 (mvT hZ48 (ow 286 rfl)) (g := (mkF m 115 #[sI x0, sI x1, sJ x2, s2, sI x3, sJ x4, s2, sI x5, sR z1, sR yb8, sR yb48, sR a91, sI 1, su] [(.int x5)])) rfl (dc at_115) _ (XS.iand X571.here hx rfl (dc at_117) rfl (XS.iconst X571.here hx rfl (dc at_118) (iremM X571 hx rfl (dc at_119) rfl (by decide) k))))))))) ?_
            generalize ((x5 &&& (2147483647 : Int32)) % (5 : Int32)) = md
            refine Goes.on (T' := T571) (g' := (mkF m 125 #[sI x0, sI x1, sJ x2, s2, sI x3, sJ x4, s2, sI x5, sR z1, sR yb8, sR yb48, sR a91, sI 1, sI md] [(.int 1), (.int md)])) (fun _ k => XS.istore X571.here hx rfl (dc at_120) rfl (l' := #[sI x0, sI x1, sJ x2, s2, sI x3, sJ x4, s2, sI x5, sR z1, sR yb8, sR yb48, sR a91, sI 1, sI md]) rfl (XS.iload X571.here hx rfl (dc at_122) rfl (XS.iconst X571.here hx rfl (dc at_124) k))) ?_
            by_cases hc572 : md = (1 : Int32)
            · refine Goes.on (T' := T571) (g' := (mkF m 132 #[sI x0, sI x1, sJ x2, s2, sI x3, sJ x4, s2, sI x5, sR z1, sR yb8, sR yb48, sR a91, sI 1, sI md] [(.ref yb8), (.ref a91)])) (fun _ k => XS.icmpNo X571.here hx rfl (dc at_125) rfl (XT.ii_ne_f hc572) (XS.aload X571.here hx rfl (dc at_128) rfl rfl (XS.aload X571.here hx rfl (dc at_130) rfl rfl k))) ?_
              refine Goes.callV X571 hx hZ48 0 hown48 (ow 287 rfl) (ow 288 rfl) (notFace_of_selects (args := #[]) (mvT hZ48 (ow 290 rfl))) (ow 290 rfl) (ow 289 rfl) (ow 172 rfl) (ow 291 rfl) (by decide) e571 P516_0 (rmRTop l Z a0 hw a91 yb8 ya134 yd134 yb134 ye134 ya516 ya217 yb48 T516.heap n0 Z567  C533 C557 C559 C560 C561 C562 C564 C565 P516_0 P516_11 P516_7 P516_12 P516_8 P516_9 C549 C550 P516_13 P516_14 P516_15 ne117.symm ne224 ne152 ne219 ne147 ne136.symm ne225 ne141.symm D134_0 ne169.symm ne228 ne174.symm D134_5.symm ne226 ne180.symm ne229 ne185.symm D134_6.symm ne517.symm ne527.symm ne521.symm ne526.symm ne59.symm ne222 ne120 ne150 G20 G233 G91 G156 ) (by decide) (by decide) (by decide) (by decide) rfl (by rw [hml]; rfl) (argsL := [(.ref yb8)]) (rest := []) rfl (lenOf pd_29 rfl) rfl (own_le20 rfl) (dc at_132) ?_
              rintro v573 T573 L573 X573 ⟨rfl, N573q, K573, P573_0, P573_1, P573_2, P573_3, P573_4, P573_5, P573_6, P573_7, P573_8, P573_9, P573_10, P573_11, P573_12, P573_13, P573_14⟩
              show Goes p e below _ T573 (mkF m 135 #[sI x0, sI x1, sJ x2, s2, sI x3, sJ x4, s2, sI x5, sR z1, sR yb8, sR yb48, sR a91, sI 1, sI md] [])
              have C578 := C543.keep K573
              have ni580 := (ninS ne136.symm (ninS ne225 (ninS ne141.symm (ninS D134_0 nin0))))
              have C579 := C544.keep K573 ni580
              have Z603 := Nat.le_trans Z567 K573.1
              have Z604 := Nat.le_trans Z568 K573.1
              have RR606 := RR570.trans (CHr.keep K573 (allS (Safe.exa hZ48.alike C533 (by decide) (by decide)) (allS (Safe.exa hZ48.alike C561 (by decide) (by decide)) (allS (Safe.exa hZ48.alike P516_0 (by decide) (by decide)) (allS (Rbk.safe hZ48.alike P516_13) all0)))) RR570.1)
              refine Goes.on (T' := T573) (g' := (mkF m 142 #[sI x0, sI x1, sJ x2, s2, sI x3, sJ x4, s2, sI x5, sR z1, sR yb8, sR yb48, sR a91, sI 1, sI md] [(.ref a91)])) (fun _ k => XS.iload X573.here hx rfl (dc at_135) rfl (XS.ifNo X573.here hx rfl (dc at_137) rfl (XT.i0_eq_f (by decide)) (XS.aload X573.here hx rfl (dc at_140) rfl rfl k))) ?_
              refine Goes.callV X573 hx hZ48 0 hown48 (ow 223 rfl) (ow 224 rfl) (notFace_of_selects (args := #[]) (mvT hZ48 (ow 226 rfl))) (ow 226 rfl) (ow 225 rfl) (ow 172 rfl) (ow 227 rfl) (by decide) rfl P573_8 (rmEi2 l Z a0 hw a91 ya134 T573.heap n0 Z603  P573_8 P573_9 C578 C579 P573_10 ) (by decide) (by decide) (by decide) (by decide) rfl (by rw [hml]; rfl) (argsL := []) (rest := []) rfl (lenOf pd_3 rfl) rfl (own_le20 rfl) (dc at_142) ?_
              rintro v607 T607 L607 X607 ⟨rfl, N607q, e607⟩
              have N607 := Fr.app (Fr.app N571 N573q) N607q
              show Goes p e below _ T607 (mkF m 145 #[sI x0, sI x1, sJ x2, s2, sI x3, sJ x4, s2, sI x5, sR z1, sR yb8, sR yb48, sR a91, sI 1, sI md] [(.int 0)])
              refine Goes.on (T' := T607) (g' := (mkF m 319 #[sI x0, sI x1, sJ x2, s2, sI x3, sJ x4, s2, sI x5, sR z1, sR yb8, sR yb48, sR a91, sI 1, sI md] [(.int 1)])) (fun _ k => XS.ifNo X607.here hx rfl (dc at_145) rfl (XT.i0_ne_f (by decide)) (XS.iconst X607.here hx rfl (dc at_148) (XS.goto X607.here hx rfl (pc0 := 149) (pc' := 153) rfl (dc at_149) (by decide) (by decide) (XS.istore X607.here hx rfl (dc at_153) rfl (l' := #[sI x0, sI x1, sJ x2, s2, sI x3, sJ x4, s2, sI x5, sR z1, sR yb8, sR yb48, sR a91, sI 1, sI md]) rfl (XS.goto X607.here hx rfl (pc0 := 155) (pc' := 317) rfl (dc at_155) (by decide) (by decide) (XS.iload X607.here hx rfl (dc at_317) rfl k)))))) ?_
              exact Goes.retBW X607 hS48 (by rw [e607]; exact Z604) hZ48 hEL (by rw [e607]; exact RR606) hx hlk hret (Or.inr rfl) (dc at_319) (by decide) (by decide) ⟨rfl, N607⟩
            · refine Goes.on (T' := T571) (g' := (mkF m 161 #[sI x0, sI x1, sJ x2, s2, sI x3, sJ x4, s2, sI x5, sR z1, sR yb8, sR yb48, sR a91, sI 1, sI md] [(.int 2), (.int md)])) (fun _ k => XS.icmpYes X571.here hx rfl (pc0 := 125) (pc' := 158) rfl (dc at_125) rfl (XT.ii_ne_t hc572) (by decide) (by decide) (XS.iload X571.here hx rfl (dc at_158) rfl (XS.iconst X571.here hx rfl (dc at_160) k))) ?_
              by_cases hc608 : md = (2 : Int32)
              · refine Goes.on (T' := T571) (g' := (mkF m 168 #[sI x0, sI x1, sJ x2, s2, sI x3, sJ x4, s2, sI x5, sR z1, sR yb8, sR yb48, sR a91, sI 1, sI md] [(.ref yb48), (.ref a91)])) (fun _ k => XS.icmpNo X571.here hx rfl (dc at_161) rfl (XT.ii_ne_f hc608) (XS.aload X571.here hx rfl (dc at_164) rfl rfl (XS.aload X571.here hx rfl (dc at_166) rfl rfl k))) ?_
                refine Goes.callV X571 hx hZ48 0 hown48 (ow 287 rfl) (ow 288 rfl) (notFace_of_selects (args := #[]) (mvT hZ48 (ow 290 rfl))) (ow 290 rfl) (ow 289 rfl) (ow 172 rfl) (ow 291 rfl) (by decide) e571 P516_0 (rmRLow l Z a0 hw a91 yb48 ya134 yd134 yb134 ye134 ya516 ya217 T516.heap n0 Z567  P516_1 P516_2 P516_3 P516_4 P516_14 P516_15 P516_16 P516_17 P516_0 P516_11 P516_7 P516_12 P516_8 P516_9 C549 C550 P516_13 C561 ne120.symm ne521 ne519 ne139.symm ne522 ne141.symm ne172.symm ne524 ne174.symm ne150.symm ne526 ne152.symm ne183.symm ne525 ne185.symm ne222.symm ne527 ne224.symm G66 G531 G91 ) (by decide) (by decide) (by decide) (by decide) rfl (by rw [hml]; rfl) (argsL := [(.ref yb48)]) (rest := []) rfl (lenOf pd_29 rfl) rfl (own_le20 rfl) (dc at_168) ?_
                rintro v609 T609 L609 X609 ⟨rfl, N609q, K609, P609_0, P609_1, P609_2, P609_3, P609_4, P609_5, P609_6, P609_7, P609_8, P609_9, P609_10, P609_11, P609_12, P609_13⟩
                show Goes p e below _ T609 (mkF m 171 #[sI x0, sI x1, sJ x2, s2, sI x3, sJ x4, s2, sI x5, sR z1, sR yb8, sR yb48, sR a91, sI 1, sI md] [])
                have C614 := C543.keep K609
                have ni616 := (ninS ne139.symm (ninS ne522 (ninS ne141.symm nin0)))
                have C615 := C544.keep K609 ni616
                have Z641 := Nat.le_trans Z567 K609.1
                have Z642 := Nat.le_trans Z568 K609.1
                have RR644 := RR570.trans (CHr.keep K609 (allS (Safe.exa hZ48.alike P516_1 (by decide) (by decide)) (allS (Safe.exa hZ48.alike P516_14 (by decide) (by decide)) (allS (Safe.exa hZ48.alike P516_0 (by decide) (by decide)) all0))) RR570.1)
                refine Goes.on (T' := T609) (g' := (mkF m 178 #[sI x0, sI x1, sJ x2, s2, sI x3, sJ x4, s2, sI x5, sR z1, sR yb8, sR yb48, sR a91, sI 1, sI md] [(.ref a91)])) (fun _ k => XS.iload X609.here hx rfl (dc at_171) rfl (XS.ifNo X609.here hx rfl (dc at_173) rfl (XT.i0_eq_f (by decide)) (XS.aload X609.here hx rfl (dc at_176) rfl rfl k))) ?_
                refine Goes.callV X609 hx hZ48 0 hown48 (ow 223 rfl) (ow 224 rfl) (notFace_of_selects (args := #[]) (mvT hZ48 (ow 226 rfl))) (ow 226 rfl) (ow 225 rfl) (ow 172 rfl) (ow 227 rfl) (by decide) rfl P609_8 (rmEi3 l Z a0 hw a91 ya134 T609.heap n0 Z641  P609_8 P609_9 C614 C615 P609_10 ) (by decide) (by decide) (by decide) (by decide) rfl (by rw [hml]; rfl) (argsL := []) (rest := []) rfl (lenOf pd_3 rfl) rfl (own_le20 rfl) (dc at_178) ?_
                rintro v645 T645 L645 X645 ⟨rfl, N645q, e645⟩
                have N645 := Fr.app (Fr.app N571 N609q) N645q
                show Goes p e below _ T645 (mkF m 181 #[sI x0, sI x1, sJ x2, s2, sI x3, sJ x4, s2, sI x5, sR z1, sR yb8, sR yb48, sR a91, sI 1, sI md] [(.int 0)])
                refine Goes.on (T' := T645) (g' := (mkF m 319 #[sI x0, sI x1, sJ x2, s2, sI x3, sJ x4, s2, sI x5, sR z1, sR yb8, sR yb48, sR a91, sI 1, sI md] [(.int 1)])) (fun _ k => XS.ifNo X645.here hx rfl (dc at_181) rfl (XT.i0_ne_f (by decide)) (XS.iconst X645.here hx rfl (dc at_184) (XS.goto X645.here hx rfl (pc0 := 185) (pc' := 189) rfl (dc at_185) (by decide) (by decide) (XS.istore X645.here hx rfl (dc at_189) rfl (l' := #[sI x0, sI x1, sJ x2, s2, sI x3, sJ x4, s2, sI x5, sR z1, sR yb8, sR yb48, sR a91, sI 1, sI md]) rfl (XS.goto X645.here hx rfl (pc0 := 191) (pc' := 317) rfl (dc at_191) (by decide) (by decide) (XS.iload X645.here hx rfl (dc at_317) rfl k)))))) ?_
                exact Goes.retBW X645 hS48 (by rw [e645]; exact Z642) hZ48 hEL (by rw [e645]; exact RR644) hx hlk hret (Or.inr rfl) (dc at_319) (by decide) (by decide) ⟨rfl, N645⟩
              · refine Goes.on (T' := T571) (g' := (mkF m 197 #[sI x0, sI x1, sJ x2, s2, sI x3, sJ x4, s2, sI x5, sR z1, sR yb8, sR yb48, sR a91, sI 1, sI md] [(.int 3), (.int md)])) (fun _ k => XS.icmpYes X571.here hx rfl (pc0 := 161) (pc' := 194) rfl (dc at_161) rfl (XT.ii_ne_t hc608) (by decide) (by decide) (XS.iload X571.here hx rfl (dc at_194) rfl (XS.iconst X571.here hx rfl (dc at_196) k))) ?_
                by_cases hc646 : md = (3 : Int32)
                · refine Goes.on (T' := T571) (g' := (mkF m 204 #[sI x0, sI x1, sJ x2, s2, sI x3, sJ x4, s2, sI x5, sR z1, sR yb8, sR yb48, sR a91, sI 1, sI md] [(.ref yb8), (.ref a91)])) (fun _ k => XS.icmpNo X571.here hx rfl (dc at_197) rfl (XT.ii_ne_f hc646) (XS.aload X571.here hx rfl (dc at_200) rfl rfl (XS.aload X571.here hx rfl (dc at_202) rfl rfl k))) ?_
                  refine Goes.callV X571 hx hZ48 0 hown48 (ow 287 rfl) (ow 288 rfl) (notFace_of_selects (args := #[]) (mvT hZ48 (ow 290 rfl))) (ow 290 rfl) (ow 289 rfl) (ow 172 rfl) (ow 291 rfl) (by decide) e571 P516_0 (rmRTop l Z a0 hw a91 yb8 ya134 yd134 yb134 ye134 ya516 ya217 yb48 T516.heap n0 Z567  C533 C557 C559 C560 C561 C562 C564 C565 P516_0 P516_11 P516_7 P516_12 P516_8 P516_9 C549 C550 P516_13 P516_14 P516_15 ne117.symm ne224 ne152 ne219 ne147 ne136.symm ne225 ne141.symm D134_0 ne169.symm ne228 ne174.symm D134_5.symm ne226 ne180.symm ne229 ne185.symm D134_6.symm ne517.symm ne527.symm ne521.symm ne526.symm ne59.symm ne222 ne120 ne150 G20 G233 G91 G156 ) (by decide) (by decide) (by decide) (by decide) rfl (by rw [hml]; rfl) (argsL := [(.ref yb8)]) (rest := []) rfl (lenOf pd_29 rfl) rfl (own_le20 rfl) (dc at_204) ?_
                  rintro v647 T647 L647 X647 ⟨rfl, N647q, K647, P647_0, P647_1, P647_2, P647_3, P647_4, P647_5, P647_6, P647_7, P647_8, P647_9, P647_10, P647_11, P647_12, P647_13, P647_14⟩
                  show Goes p e below _ T647 (mkF m 207 #[sI x0, sI x1, sJ x2, s2, sI x3, sJ x4, s2, sI x5, sR z1, sR yb8, sR yb48, sR a91, sI 1, sI md] [])
                  have C650 := P516_1.keep K647
                  have C652 := C543.keep K647
                  have ni654 := (ninS ne136.symm (ninS ne225 (ninS ne141.symm (ninS D134_0 nin0))))
                  have C653 := C544.keep K647 ni654
                  have C658 := C549.keep K647
                  have ni660 := (ninS ne169.symm (ninS ne228 (ninS ne174.symm (ninS D134_5.symm nin0))))
                  have C659 := C550.keep K647 ni660
                  have ni668 := (ninS ne59.symm (ninS ne222 (ninS ne120 (ninS ne150 nin0))))
                  have C667 := P516_2.keep K647 ni668
                  have C669 := P516_3.keep K647 ni668
                  have C670 := P516_4.keep K647 ni668
                  have C671 := P516_14.keep K647
                  have ni673 := (ninS ne517.symm (ninS ne527.symm (ninS ne521.symm (ninS ne526.symm nin0))))
                  have C672 := P516_15.keep K647 ni673
                  have C674 := P516_16.keep K647 ni673
                  have C675 := P516_17.keep K647 ni673
                  have Z677 := Nat.le_trans Z567 K647.1
                  have Z678 := Nat.le_trans Z568 K647.1
                  have RR680 := RR570.trans (CHr.keep K647 (allS (Safe.exa hZ48.alike C533 (by decide) (by decide)) (allS (Safe.exa hZ48.alike C561 (by decide) (by decide)) (allS (Safe.exa hZ48.alike P516_0 (by decide) (by decide)) (allS (Rbk.safe hZ48.alike P516_13) all0)))) RR570.1)
                  refine Goes.on (T' := T647) (g' := (mkF m 214 #[sI x0, sI x1, sJ x2, s2, sI x3, sJ x4, s2, sI x5, sR z1, sR yb8, sR yb48, sR a91, sI 1, sI md] [(.ref a91)])) (fun _ k => XS.iload X647.here hx rfl (dc at_207) rfl (XS.ifNo X647.here hx rfl (dc at_209) rfl (XT.i0_eq_f (by decide)) (XS.aload X647.here hx rfl (dc at_212) rfl rfl k))) ?_
                  refine Goes.callV X647 hx hZ48 0 hown48 (ow 223 rfl) (ow 224 rfl) (notFace_of_selects (args := #[]) (mvT hZ48 (ow 226 rfl))) (ow 226 rfl) (ow 225 rfl) (ow 172 rfl) (ow 227 rfl) (by decide) rfl P647_8 (rmEi2 l Z a0 hw a91 ya134 T647.heap n0 Z677  P647_8 P647_9 C652 C653 P647_10 ) (by decide) (by decide) (by decide) (by decide) rfl (by rw [hml]; rfl) (argsL := []) (rest := []) rfl (lenOf pd_3 rfl) rfl (own_le20 rfl) (dc at_214) ?_
                  rintro v681 T681 L681 X681 ⟨rfl, N681q, e681⟩
                  show Goes p e below _ T681 (mkF m 217 #[sI x0, sI x1, sJ x2, s2, sI x3, sJ x4, s2, sI x5, sR z1, sR yb8, sR yb48, sR a91, sI 1, sI md] [(.int 0)])
                  refine Goes.on (T' := T681) (g' := (mkF m 231 #[sI x0, sI x1, sJ x2, s2, sI x3, sJ x4, s2, sI x5, sR z1, sR yb8, sR yb48, sR a91, sI 1, sI md] [(.ref yb48), (.ref a91)])) (fun _ k => XS.ifNo X681.here hx rfl (dc at_217) rfl (XT.i0_ne_f (by decide)) (XS.iconst X681.here hx rfl (dc at_220) (XS.goto X681.here hx rfl (pc0 := 221) (pc' := 225) rfl (dc at_221) (by decide) (by decide) (XS.istore X681.here hx rfl (dc at_225) rfl (l' := #[sI x0, sI x1, sJ x2, s2, sI x3, sJ x4, s2, sI x5, sR z1, sR yb8, sR yb48, sR a91, sI 1, sI md]) rfl (XS.aload X681.here hx rfl (dc at_227) rfl rfl (XS.aload X681.here hx rfl (dc at_229) rfl rfl k)))))) ?_
                  refine Goes.callV X681 hx hZ48 0 hown48 (ow 287 rfl) (ow 288 rfl) (notFace_of_selects (args := #[]) (mvT hZ48 (ow 290 rfl))) (ow 290 rfl) (ow 289 rfl) (ow 172 rfl) (ow 291 rfl) (by decide) e681 P647_8 (rmRL1 l Z a0 hw a91 yb48 ya134 yd134 yb134 ye134 ya516 T647.heap n0 Z677  C650 C667 C669 C670 C671 C672 C674 C675 P647_8 P647_9 P647_10 P647_11 P647_12 P647_13 C658 C659 P647_14 ne120.symm ne521 ne152 ne519 ne150 ne139.symm ne522 ne141.symm D134_0 ne172.symm ne524 ne174.symm D134_5.symm ne526 ne183.symm ne525 ne185.symm D134_6.symm G66 G531 G91 G156 ) (by decide) (by decide) (by decide) (by decide) rfl (by rw [hml]; rfl) (argsL := [(.ref yb48)]) (rest := []) rfl (lenOf pd_29 rfl) rfl (own_le20 rfl) (dc at_231) ?_
                  rintro v682 T682 L682 X682 ⟨rfl, N682q, K682, P682_0, P682_1, P682_2, P682_3, P682_4, P682_5, P682_6, P682_7, P682_8, P682_9, P682_10, P682_11, P682_12, P682_13, P682_14⟩
                  show Goes p e below _ T682 (mkF m 234 #[sI x0, sI x1, sJ x2, s2, sI x3, sJ x4, s2, sI x5, sR z1, sR yb8, sR yb48, sR a91, sI 1, sI md] [])
                  have C687 := C652.keep K682
                  have ni689 := (ninS ne139.symm (ninS ne522 (ninS ne141.symm (ninS D134_0 nin0))))
                  have C688 := C653.keep K682 ni689
                  have Z711 := Nat.le_trans Z677 K682.1
                  have Z712 := Nat.le_trans Z678 K682.1
                  have RR714 := RR680.trans (CHr.keep K682 (allS (Safe.exa hZ48.alike C650 (by decide) (by decide)) (allS (Safe.exa hZ48.alike C671 (by decide) (by decide)) (allS (Safe.exa hZ48.alike P647_8 (by decide) (by decide)) (allS (Rbk.safe hZ48.alike P647_14) all0)))) RR680.1)
                  refine Goes.on (T' := T682) (g' := (mkF m 241 #[sI x0, sI x1, sJ x2, s2, sI x3, sJ x4, s2, sI x5, sR z1, sR yb8, sR yb48, sR a91, sI 1, sI md] [(.ref a91)])) (fun _ k => XS.iload X682.here hx rfl (dc at_234) rfl (XS.ifNo X682.here hx rfl (dc at_236) rfl (XT.i0_eq_f (by decide)) (XS.aload X682.here hx rfl (dc at_239) rfl rfl k))) ?_
                  refine Goes.callV X682 hx hZ48 0 hown48 (ow 223 rfl) (ow 224 rfl) (notFace_of_selects (args := #[]) (mvT hZ48 (ow 226 rfl))) (ow 226 rfl) (ow 225 rfl) (ow 172 rfl) (ow 227 rfl) (by decide) rfl P682_8 (rmEi1 l Z a0 hw a91 ya134 T682.heap n0 Z711  P682_8 P682_9 C687 C688 P682_10 ) (by decide) (by decide) (by decide) (by decide) rfl (by rw [hml]; rfl) (argsL := []) (rest := []) rfl (lenOf pd_3 rfl) rfl (own_le20 rfl) (dc at_241) ?_
                  rintro v715 T715 L715 X715 ⟨rfl, N715q, e715⟩
                  have N715 := Fr.app (Fr.app (Fr.app (Fr.app N571 N647q) N681q) N682q) N715q
                  show Goes p e below _ T715 (mkF m 244 #[sI x0, sI x1, sJ x2, s2, sI x3, sJ x4, s2, sI x5, sR z1, sR yb8, sR yb48, sR a91, sI 1, sI md] [(.int 1)])
                  refine Goes.on (T' := T715) (g' := (mkF m 319 #[sI x0, sI x1, sJ x2, s2, sI x3, sJ x4, s2, sI x5, sR z1, sR yb8, sR yb48, sR a91, sI 1, sI md] [(.int 1)])) (fun _ k => XS.ifNo X715.here hx rfl (dc at_244) rfl (XT.i0_eq_f (by decide)) (XS.iconst X715.here hx rfl (dc at_247) (XS.goto X715.here hx rfl (pc0 := 248) (pc' := 252) rfl (dc at_248) (by decide) (by decide) (XS.istore X715.here hx rfl (dc at_252) rfl (l' := #[sI x0, sI x1, sJ x2, s2, sI x3, sJ x4, s2, sI x5, sR z1, sR yb8, sR yb48, sR a91, sI 1, sI md]) rfl (XS.goto X715.here hx rfl (pc0 := 254) (pc' := 317) rfl (dc at_254) (by decide) (by decide) (XS.iload X715.here hx rfl (dc at_317) rfl k)))))) ?_
                  exact Goes.retBW X715 hS48 (by rw [e715]; exact Z712) hZ48 hEL (by rw [e715]; exact RR714) hx hlk hret (Or.inr rfl) (dc at_319) (by decide) (by decide) ⟨rfl, N715⟩
                · refine Goes.on (T' := T571) (g' := (mkF m 260 #[sI x0, sI x1, sJ x2, s2, sI x3, sJ x4, s2, sI x5, sR z1, sR yb8, sR yb48, sR a91, sI 1, sI md] [(.int 4), (.int md)])) (fun _ k => XS.icmpYes X571.here hx rfl (pc0 := 197) (pc' := 257) rfl (dc at_197) rfl (XT.ii_ne_t hc646) (by decide) (by decide) (XS.iload X571.here hx rfl (dc at_257) rfl (XS.iconst X571.here hx rfl (dc at_259) k))) ?_
                  by_cases hc716 : md = (4 : Int32)
                  · refine Goes.on (T' := T571) (g' := (mkF m 267 #[sI x0, sI x1, sJ x2, s2, sI x3, sJ x4, s2, sI x5, sR z1, sR yb8, sR yb48, sR a91, sI 1, sI md] [(.ref yb48), (.ref a91)])) (fun _ k => XS.icmpNo X571.here hx rfl (dc at_260) rfl (XT.ii_ne_f hc716) (XS.aload X571.here hx rfl (dc at_263) rfl rfl (XS.aload X571.here hx rfl (dc at_265) rfl rfl k))) ?_
                    refine Goes.callV X571 hx hZ48 0 hown48 (ow 287 rfl) (ow 288 rfl) (notFace_of_selects (args := #[]) (mvT hZ48 (ow 290 rfl))) (ow 290 rfl) (ow 289 rfl) (ow 172 rfl) (ow 291 rfl) (by decide) e571 P516_0 (rmRLow l Z a0 hw a91 yb48 ya134 yd134 yb134 ye134 ya516 ya217 T516.heap n0 Z567  P516_1 P516_2 P516_3 P516_4 P516_14 P516_15 P516_16 P516_17 P516_0 P516_11 P516_7 P516_12 P516_8 P516_9 C549 C550 P516_13 C561 ne120.symm ne521 ne519 ne139.symm ne522 ne141.symm ne172.symm ne524 ne174.symm ne150.symm ne526 ne152.symm ne183.symm ne525 ne185.symm ne222.symm ne527 ne224.symm G66 G531 G91 ) (by decide) (by decide) (by decide) (by decide) rfl (by rw [hml]; rfl) (argsL := [(.ref yb48)]) (rest := []) rfl (lenOf pd_29 rfl) rfl (own_le20 rfl) (dc at_267) ?_
                    rintro v717 T717 L717 X717 ⟨rfl, N717q, K717, P717_0, P717_1, P717_2, P717_3, P717_4, P717_5, P717_6, P717_7, P717_8, P717_9, P717_10, P717_11, P717_12, P717_13⟩
                    show Goes p e below _ T717 (mkF m 270 #[sI x0, sI x1, sJ x2, s2, sI x3, sJ x4, s2, sI x5, sR z1, sR yb8, sR yb48, sR a91, sI 1, sI md] [])
                    have C719 := C533.keep K717
                    have C722 := C543.keep K717
                    have ni724 := (ninS ne139.symm (ninS ne522 (ninS ne141.symm nin0)))
                    have C723 := C544.keep K717 ni724
                    have C728 := C549.keep K717
                    have ni730 := (ninS ne172.symm (ninS ne524 (ninS ne174.symm nin0)))
                    have C729 := C550.keep K717 ni730
                    have ni737 := (ninS ne59 (ninS ne517 (ninS ne117 nin0)))
                    have C736 := C557.keep K717 ni737
                    have C738 := C559.keep K717 ni737
                    have C739 := C560.keep K717 ni737
                    have C740 := C561.keep K717
                    have ni742 := (ninS ne222.symm (ninS ne527 (ninS ne224.symm nin0)))
                    have C741 := C562.keep K717 ni742
                    have C743 := C564.keep K717 ni742
                    have C744 := C565.keep K717 ni742
                    have ni747 := (ninS ne150.symm (ninS ne526 (ninS ne152.symm nin0)))
                    have C746 := P516_13.keep K717 ni747
                    have Z749 := Nat.le_trans Z567 K717.1
                    have Z750 := Nat.le_trans Z568 K717.1
                    have RR752 := RR570.trans (CHr.keep K717 (allS (Safe.exa hZ48.alike P516_1 (by decide) (by decide)) (allS (Safe.exa hZ48.alike P516_14 (by decide) (by decide)) (allS (Safe.exa hZ48.alike P516_0 (by decide) (by decide)) all0))) RR570.1)
                    refine Goes.on (T' := T717) (g' := (mkF m 277 #[sI x0, sI x1, sJ x2, s2, sI x3, sJ x4, s2, sI x5, sR z1, sR yb8, sR yb48, sR a91, sI 1, sI md] [(.ref a91)])) (fun _ k => XS.iload X717.here hx rfl (dc at_270) rfl (XS.ifNo X717.here hx rfl (dc at_272) rfl (XT.i0_eq_f (by decide)) (XS.aload X717.here hx rfl (dc at_275) rfl rfl k))) ?_
                    refine Goes.callV X717 hx hZ48 0 hown48 (ow 223 rfl) (ow 224 rfl) (notFace_of_selects (args := #[]) (mvT hZ48 (ow 226 rfl))) (ow 226 rfl) (ow 225 rfl) (ow 172 rfl) (ow 227 rfl) (by decide) rfl P717_8 (rmEi3 l Z a0 hw a91 ya134 T717.heap n0 Z749  P717_8 P717_9 C722 C723 P717_10 ) (by decide) (by decide) (by decide) (by decide) rfl (by rw [hml]; rfl) (argsL := []) (rest := []) rfl (lenOf pd_3 rfl) rfl (own_le20 rfl) (dc at_277) ?_
                    rintro v753 T753 L753 X753 ⟨rfl, N753q, e753⟩
                    show Goes p e below _ T753 (mkF m 280 #[sI x0, sI x1, sJ x2, s2, sI x3, sJ x4, s2, sI x5, sR z1, sR yb8, sR yb48, sR a91, sI 1, sI md] [(.int 0)])
                    refine Goes.on (T' := T753) (g' := (mkF m 294 #[sI x0, sI x1, sJ x2, s2, sI x3, sJ x4, s2, sI x5, sR z1, sR yb8, sR yb48, sR a91, sI 1, sI md] [(.ref yb8), (.ref a91)])) (fun _ k => XS.ifNo X753.here hx rfl (dc at_280) rfl (XT.i0_ne_f (by decide)) (XS.iconst X753.here hx rfl (dc at_283) (XS.goto X753.here hx rfl (pc0 := 284) (pc' := 288) rfl (dc at_284) (by decide) (by decide) (XS.istore X753.here hx rfl (dc at_288) rfl (l' := #[sI x0, sI x1, sJ x2, s2, sI x3, sJ x4, s2, sI x5, sR z1, sR yb8, sR yb48, sR a91, sI 1, sI md]) rfl (XS.aload X753.here hx rfl (dc at_290) rfl rfl (XS.aload X753.here hx rfl (dc at_292) rfl rfl k)))))) ?_
                    refine Goes.callV X753 hx hZ48 0 hown48 (ow 287 rfl) (ow 288 rfl) (notFace_of_selects (args := #[]) (mvT hZ48 (ow 290 rfl))) (ow 290 rfl) (ow 289 rfl) (ow 172 rfl) (ow 291 rfl) (by decide) e753 P717_8 (rmRTopE l Z a0 hw a91 yb8 ya134 yd134 yb134 ye134 ya516 ya217 T717.heap n0 Z749  C719 C736 C738 C739 C740 C741 C743 C744 P717_8 P717_9 P717_10 P717_11 P717_12 P717_13 C728 C729 C746 P717_4 P717_5 ne117.symm ne224 ne152 ne219 ne147 ne136.symm ne225 ne141.symm D134_0 ne169.symm ne228 ne174.symm D134_5.symm ne226 ne180.symm ne229 ne185.symm D134_6.symm ne517.symm ne527.symm ne521.symm ne526.symm G20 G233 G91 G156 ) (by decide) (by decide) (by decide) (by decide) rfl (by rw [hml]; rfl) (argsL := [(.ref yb8)]) (rest := []) rfl (lenOf pd_29 rfl) rfl (own_le20 rfl) (dc at_294) ?_
                    rintro v754 T754 L754 X754 ⟨rfl, N754q, K754, P754_0, P754_1, P754_2, P754_3, P754_4, P754_5, P754_6, P754_7, P754_8, P754_9, P754_10, P754_11, P754_12, P754_13, P754_14⟩
                    show Goes p e below _ T754 (mkF m 297 #[sI x0, sI x1, sJ x2, s2, sI x3, sJ x4, s2, sI x5, sR z1, sR yb8, sR yb48, sR a91, sI 1, sI md] [])
                    have C759 := C722.keep K754
                    have ni761 := (ninS ne136.symm (ninS ne225 (ninS ne141.symm (ninS D134_0 nin0))))
                    have C760 := C723.keep K754 ni761
                    have Z783 := Nat.le_trans Z749 K754.1
                    have Z784 := Nat.le_trans Z750 K754.1
                    have RR786 := RR752.trans (CHr.keep K754 (allS (Safe.exa hZ48.alike C719 (by decide) (by decide)) (allS (Safe.exa hZ48.alike C740 (by decide) (by decide)) (allS (Safe.exa hZ48.alike P717_8 (by decide) (by decide)) (allS (Rbk.safe hZ48.alike C746) all0)))) RR752.1)
                    refine Goes.on (T' := T754) (g' := (mkF m 304 #[sI x0, sI x1, sJ x2, s2, sI x3, sJ x4, s2, sI x5, sR z1, sR yb8, sR yb48, sR a91, sI 1, sI md] [(.ref a91)])) (fun _ k => XS.iload X754.here hx rfl (dc at_297) rfl (XS.ifNo X754.here hx rfl (dc at_299) rfl (XT.i0_eq_f (by decide)) (XS.aload X754.here hx rfl (dc at_302) rfl rfl k))) ?_
                    refine Goes.callV X754 hx hZ48 0 hown48 (ow 223 rfl) (ow 224 rfl) (notFace_of_selects (args := #[]) (mvT hZ48 (ow 226 rfl))) (ow 226 rfl) (ow 225 rfl) (ow 172 rfl) (ow 227 rfl) (by decide) rfl P754_8 (rmEi1 l Z a0 hw a91 ya134 T754.heap n0 Z783  P754_8 P754_9 C759 C760 P754_10 ) (by decide) (by decide) (by decide) (by decide) rfl (by rw [hml]; rfl) (argsL := []) (rest := []) rfl (lenOf pd_3 rfl) rfl (own_le20 rfl) (dc at_304) ?_
                    rintro v787 T787 L787 X787 ⟨rfl, N787q, e787⟩
                    have N787 := Fr.app (Fr.app (Fr.app (Fr.app N571 N717q) N753q) N754q) N787q
                    show Goes p e below _ T787 (mkF m 307 #[sI x0, sI x1, sJ x2, s2, sI x3, sJ x4, s2, sI x5, sR z1, sR yb8, sR yb48, sR a91, sI 1, sI md] [(.int 1)])
                    refine Goes.on (T' := T787) (g' := (mkF m 319 #[sI x0, sI x1, sJ x2, s2, sI x3, sJ x4, s2, sI x5, sR z1, sR yb8, sR yb48, sR a91, sI 1, sI md] [(.int 1)])) (fun _ k => XS.ifNo X787.here hx rfl (dc at_307) rfl (XT.i0_eq_f (by decide)) (XS.iconst X787.here hx rfl (dc at_310) (XS.goto X787.here hx rfl (pc0 := 311) (pc' := 315) rfl (dc at_311) (by decide) (by decide) (XS.istore X787.here hx rfl (dc at_315) rfl (l' := #[sI x0, sI x1, sJ x2, s2, sI x3, sJ x4, s2, sI x5, sR z1, sR yb8, sR yb48, sR a91, sI 1, sI md]) rfl (XS.iload X787.here hx rfl (dc at_317) rfl k))))) ?_
                    exact Goes.retBW X787 hS48 (by rw [e787]; exact Z784) hZ48 hEL (by rw [e787]; exact RR786) hx hlk hret (Or.inr rfl) (dc at_319) (by decide) (by decide) ⟨rfl, N787⟩
                  · refine Goes.on (T' := T571) (g' := (mkF m 319 #[sI x0, sI x1, sJ x2, s2, sI x3, sJ x4, s2, sI x5, sR z1, sR yb8, sR yb48, sR a91, sI 1, sI md] [(.int 1)])) (fun _ k => XS.icmpYes X571.here hx rfl (pc0 := 260) (pc' := 317) rfl (dc at_260) rfl (XT.ii_ne_t hc716) (by decide) (by decide) (XS.iload X571.here hx rfl (dc at_317) rfl k)) ?_
                    exact Goes.retBW X571 hS48 (by rw [e571]; exact Z568) hZ48 hEL (by rw [e571]; exact RR570) hx hlk hret (Or.inr rfl) (dc at_319) (by decide) (by decide) ⟨rfl, N571⟩
          · refine Goes.callV X275 hx hZ48 0 hown48 (ow 230 rfl) (ow 231 rfl) (notFace_of_selects (args := #[]) (mvT hZ48 (ow 233 rfl))) (ow 233 rfl) (ow 232 rfl) (ow 172 rfl) (ow 234 rfl) (by decide) e275 P217_0 (rmAdLG l Z a0 hw a91 yd134 yb134 yc134 ya134 ye134 ya217 yb48 yc48 ya48 zb (Fprice x3 x4) (own_key zb (Fprice x1 x2)) T217.heap n0 Z271  P217_0 P217_6 P217_7 P217_8 P217_9 P217_10 P217_11 P217_12 C263 C264 P217_13 P217_14 C247 C251 C253 C254 C255 C248 C249 C243 C244 C246 P217_15 ne120.symm ne152 ne163 ne172.symm ne174.symm D134_5.symm D134_7.symm ne150.symm D134_4 ne161.symm D48_2.symm ne121 ne151 ne162 D48_0 ne119 ne149 ne160 ne222.symm ne224.symm ne226.symm ne227.symm G66 G91 G156 G167 hc515 hc276) (by decide) (by decide) (by decide) (by decide) rfl (by rw [hml]; rfl) (argsL := [(.ref yb48)]) (rest := []) rfl (lenOf pd_29 rfl) rfl (own_le20 rfl) (dc at_90) ?_
            rintro v788 T788 L788 X788 ⟨ya788, rfl, N788q, K788, P788_0, P788_1, P788_2, P788_3, P788_4, P788_5, P788_6, P788_7, P788_8, P788_9, P788_10, P788_11, P788_12, P788_13, P788_14, P788_15, P788_16, P788_17, P788_18, M788_0⟩
            show Goes p e below _ T788 (mkF m 93 #[sI x0, sI x1, sJ x2, s2, sI x3, sJ x4, s2, sI x5, sR z1, sR yb8, sR yb48, sR a91, sI 1, su] [])
            have ne789 := own_neL P217_1.lt M788_0
            have ne791 := own_neL C247.lt M788_0
            have ne793 := own_neL P217_0.lt M788_0
            have ne794 := own_neL C257.lt M788_0
            have ne796 := own_neL C263.lt M788_0
            have ne797 := own_neL C266.lt M788_0
            have ne798 := own_neL P217_13.lt M788_0
            have ne799 := own_neL P217_15.lt M788_0
            have G803 : n0 ≤ ya788 := Nat.le_trans Z271 M788_0
            have C805 := P217_1.keep K788
            have C815 := C257.keep K788
            have ni817 := (ninS ne139.symm (ninS ne141.symm (ninS D134_0 (ninS D134_1 nin0))))
            have C816 := C258.keep K788 ni817
            have C821 := C263.keep K788
            have ni823 := (ninS ne172.symm (ninS ne174.symm (ninS D134_5.symm (ninS D134_7.symm nin0))))
            have C822 := C264.keep K788 ni823
            have ni830 := (ninS ne59 (ninS ne117 (ninS ne147 (ninS ne158 nin0))))
            have C829 := P217_2.keep K788 ni830
            have C831 := P217_3.keep K788 ni830
            have C832 := P217_4.keep K788 ni830
            have C833 := P217_15.keep K788
            have ni835 := (ninS ne222.symm (ninS ne224.symm (ninS ne226.symm (ninS ne227.symm nin0))))
            have C834 := P217_16.keep K788 ni835
            have C836 := P217_17.keep K788 ni835
            have C837 := P217_18.keep K788 ni835
            have Z839 := Nat.le_trans Z271 K788.1
            have Z840 := Nat.le_trans Z272 K788.1
            have RR842 := RR274.trans (CHr.keep K788 (allS (Safe.exa hZ48.alike C247 (by decide) (by decide)) (allS (Safe.exa hZ48.alike P217_0 (by decide) (by decide)) (allS (Rbk.safe hZ48.alike P217_13) (allS (Safe.exa hZ48.alike C262 (by decide) (by decide)) all0)))) RR274.1)
            refine Goes.on (T' := T788) (g' := (mkF m 100 #[sI x0, sI x1, sJ x2, s2, sI x3, sJ x4, s2, sI x5, sR z1, sR yb8, sR yb48, sR a91, sI 1, su] [(.ref a91)])) (fun _ k => XS.iload X788.here hx rfl (dc at_93) rfl (XS.ifNo X788.here hx rfl (dc at_95) rfl (XT.i0_eq_f (by decide)) (XS.aload X788.here hx rfl (dc at_98) rfl rfl k))) ?_
            refine Goes.callV X788 hx hZ48 0 hown48 (ow 223 rfl) (ow 224 rfl) (notFace_of_selects (args := #[]) (mvT hZ48 (ow 226 rfl))) (ow 226 rfl) (ow 225 rfl) (ow 172 rfl) (ow 227 rfl) (by decide) rfl P788_0 (rmEi3 l Z a0 hw a91 ya134 T788.heap n0 Z839  P788_0 P788_11 C815 C816 P788_7 ) (by decide) (by decide) (by decide) (by decide) rfl (by rw [hml]; rfl) (argsL := []) (rest := []) rfl (lenOf pd_3 rfl) rfl (own_le20 rfl) (dc at_100) ?_
            rintro v843 T843 L843 X843 ⟨rfl, N843q, e843⟩
            have N843 := Fr.app (Fr.app N275 N788q) N843q
            show Goes p e below _ T843 (mkF m 103 #[sI x0, sI x1, sJ x2, s2, sI x3, sJ x4, s2, sI x5, sR z1, sR yb8, sR yb48, sR a91, sI 1, su] [(.int 0)])
            refine Goes.on (T' := T843) (g' := (mkF m 120 #[sI x0, sI x1, sJ x2, s2, sI x3, sJ x4, s2, sI x5, sR z1, sR yb8, sR yb48, sR a91, sI 1, su] [(.int ((x5 &&& (2147483647 : Int32)) % (5 : Int32)))])) (fun _ k => XS.ifNo X843.here hx rfl (dc at_103) rfl (XT.i0_ne_f (by decide)) (XS.iconst X843.here hx rfl (dc at_106) (XS.goto X843.here hx rfl (pc0 := 107) (pc' := 111) rfl (dc at_107) (by decide) (by decide) (XS.istore X843.here hx rfl (dc at_111) rfl (l' := #[sI x0, sI x1, sJ x2, s2, sI x3, sJ x4, s2, sI x5, sR z1, sR yb8, sR yb48, sR a91, sI 1, su]) rfl (XS.iload X843.here hx rfl (dc at_113) rfl (X843.ldcInt hx hown48 (mvT hZ48 (ow 286 rfl)) (g := (mkF m 115 #[sI x0, sI x1, sJ x2, s2, sI x3, sJ x4, s2, sI x5, sR z1, sR yb8, sR yb48, sR a91, sI 1, su] [(.int x5)])) rfl (dc at_115) _ (XS.iand X843.here hx rfl (dc at_117) rfl (XS.iconst X843.here hx rfl (dc at_118) (iremM X843 hx rfl (dc at_119) rfl (by decide) k))))))))) ?_
            generalize ((x5 &&& (2147483647 : Int32)) % (5 : Int32)) = md
            refine Goes.on (T' := T843) (g' := (mkF m 125 #[sI x0, sI x1, sJ x2, s2, sI x3, sJ x4, s2, sI x5, sR z1, sR yb8, sR yb48, sR a91, sI 1, sI md] [(.int 1), (.int md)])) (fun _ k => XS.istore X843.here hx rfl (dc at_120) rfl (l' := #[sI x0, sI x1, sJ x2, s2, sI x3, sJ x4, s2, sI x5, sR z1, sR yb8, sR yb48, sR a91, sI 1, sI md]) rfl (XS.iload X843.here hx rfl (dc at_122) rfl (XS.iconst X843.here hx rfl (dc at_124) k))) ?_
            by_cases hc844 : md = (1 : Int32)
            · refine Goes.on (T' := T843) (g' := (mkF m 132 #[sI x0, sI x1, sJ x2, s2, sI x3, sJ x4, s2, sI x5, sR z1, sR yb8, sR yb48, sR a91, sI 1, sI md] [(.ref yb8), (.ref a91)])) (fun _ k => XS.icmpNo X843.here hx rfl (dc at_125) rfl (XT.ii_ne_f hc844) (XS.aload X843.here hx rfl (dc at_128) rfl rfl (XS.aload X843.here hx rfl (dc at_130) rfl rfl k))) ?_
              refine Goes.callV X843 hx hZ48 0 hown48 (ow 287 rfl) (ow 288 rfl) (notFace_of_selects (args := #[]) (mvT hZ48 (ow 290 rfl))) (ow 290 rfl) (ow 289 rfl) (ow 172 rfl) (ow 291 rfl) (by decide) e843 P788_0 (rmRLow l Z a0 hw a91 yb8 ya134 yd134 yb134 ye134 ya217 ya788 T788.heap n0 Z839  C805 C829 C831 C832 C833 C834 C836 C837 P788_0 P788_11 P788_7 P788_12 P788_8 P788_9 C821 C822 P788_13 P788_14 ne117.symm ne224 ne219 ne136.symm ne225 ne141.symm ne169.symm ne228 ne174.symm ne147.symm ne226 ne152.symm ne180.symm ne229 ne185.symm ne789.symm ne799.symm ne793.symm G20 G233 G91 ) (by decide) (by decide) (by decide) (by decide) rfl (by rw [hml]; rfl) (argsL := [(.ref yb8)]) (rest := []) rfl (lenOf pd_29 rfl) rfl (own_le20 rfl) (dc at_132) ?_
              rintro v845 T845 L845 X845 ⟨rfl, N845q, K845, P845_0, P845_1, P845_2, P845_3, P845_4, P845_5, P845_6, P845_7, P845_8, P845_9, P845_10, P845_11, P845_12, P845_13⟩
              show Goes p e below _ T845 (mkF m 135 #[sI x0, sI x1, sJ x2, s2, sI x3, sJ x4, s2, sI x5, sR z1, sR yb8, sR yb48, sR a91, sI 1, sI md] [])
              have C850 := C815.keep K845
              have ni852 := (ninS ne136.symm (ninS ne225 (ninS ne141.symm nin0)))
              have C851 := C816.keep K845 ni852
              have Z877 := Nat.le_trans Z839 K845.1
              have Z878 := Nat.le_trans Z840 K845.1
              have RR880 := RR842.trans (CHr.keep K845 (allS (Safe.exa hZ48.alike C805 (by decide) (by decide)) (allS (Safe.exa hZ48.alike C833 (by decide) (by decide)) (allS (Safe.exa hZ48.alike P788_0 (by decide) (by decide)) all0))) RR842.1)
              refine Goes.on (T' := T845) (g' := (mkF m 142 #[sI x0, sI x1, sJ x2, s2, sI x3, sJ x4, s2, sI x5, sR z1, sR yb8, sR yb48, sR a91, sI 1, sI md] [(.ref a91)])) (fun _ k => XS.iload X845.here hx rfl (dc at_135) rfl (XS.ifNo X845.here hx rfl (dc at_137) rfl (XT.i0_eq_f (by decide)) (XS.aload X845.here hx rfl (dc at_140) rfl rfl k))) ?_
              refine Goes.callV X845 hx hZ48 0 hown48 (ow 223 rfl) (ow 224 rfl) (notFace_of_selects (args := #[]) (mvT hZ48 (ow 226 rfl))) (ow 226 rfl) (ow 225 rfl) (ow 172 rfl) (ow 227 rfl) (by decide) rfl P845_8 (rmEi3 l Z a0 hw a91 ya134 T845.heap n0 Z877  P845_8 P845_9 C850 C851 P845_10 ) (by decide) (by decide) (by decide) (by decide) rfl (by rw [hml]; rfl) (argsL := []) (rest := []) rfl (lenOf pd_3 rfl) rfl (own_le20 rfl) (dc at_142) ?_
              rintro v881 T881 L881 X881 ⟨rfl, N881q, e881⟩
              have N881 := Fr.app (Fr.app N843 N845q) N881q
              show Goes p e below _ T881 (mkF m 145 #[sI x0, sI x1, sJ x2, s2, sI x3, sJ x4, s2, sI x5, sR z1, sR yb8, sR yb48, sR a91, sI 1, sI md] [(.int 0)])
              refine Goes.on (T' := T881) (g' := (mkF m 319 #[sI x0, sI x1, sJ x2, s2, sI x3, sJ x4, s2, sI x5, sR z1, sR yb8, sR yb48, sR a91, sI 1, sI md] [(.int 1)])) (fun _ k => XS.ifNo X881.here hx rfl (dc at_145) rfl (XT.i0_ne_f (by decide)) (XS.iconst X881.here hx rfl (dc at_148) (XS.goto X881.here hx rfl (pc0 := 149) (pc' := 153) rfl (dc at_149) (by decide) (by decide) (XS.istore X881.here hx rfl (dc at_153) rfl (l' := #[sI x0, sI x1, sJ x2, s2, sI x3, sJ x4, s2, sI x5, sR z1, sR yb8, sR yb48, sR a91, sI 1, sI md]) rfl (XS.goto X881.here hx rfl (pc0 := 155) (pc' := 317) rfl (dc at_155) (by decide) (by decide) (XS.iload X881.here hx rfl (dc at_317) rfl k)))))) ?_
              exact Goes.retBW X881 hS48 (by rw [e881]; exact Z878) hZ48 hEL (by rw [e881]; exact RR880) hx hlk hret (Or.inr rfl) (dc at_319) (by decide) (by decide) ⟨rfl, N881⟩
            · refine Goes.on (T' := T843) (g' := (mkF m 161 #[sI x0, sI x1, sJ x2, s2, sI x3, sJ x4, s2, sI x5, sR z1, sR yb8, sR yb48, sR a91, sI 1, sI md] [(.int 2), (.int md)])) (fun _ k => XS.icmpYes X843.here hx rfl (pc0 := 125) (pc' := 158) rfl (dc at_125) rfl (XT.ii_ne_t hc844) (by decide) (by decide) (XS.iload X843.here hx rfl (dc at_158) rfl (XS.iconst X843.here hx rfl (dc at_160) k))) ?_
              by_cases hc882 : md = (2 : Int32)
              · refine Goes.on (T' := T843) (g' := (mkF m 168 #[sI x0, sI x1, sJ x2, s2, sI x3, sJ x4, s2, sI x5, sR z1, sR yb8, sR yb48, sR a91, sI 1, sI md] [(.ref yb48), (.ref a91)])) (fun _ k => XS.icmpNo X843.here hx rfl (dc at_161) rfl (XT.ii_ne_f hc882) (XS.aload X843.here hx rfl (dc at_164) rfl rfl (XS.aload X843.here hx rfl (dc at_166) rfl rfl k))) ?_
                refine Goes.callV X843 hx hZ48 0 hown48 (ow 287 rfl) (ow 288 rfl) (notFace_of_selects (args := #[]) (mvT hZ48 (ow 290 rfl))) (ow 290 rfl) (ow 289 rfl) (ow 172 rfl) (ow 291 rfl) (by decide) e843 P788_0 (rmRTop l Z a0 hw a91 yb48 ya134 yd134 yb134 ye134 ya217 ya788 yb8 T788.heap n0 Z839  P788_1 P788_2 P788_3 P788_4 P788_14 P788_15 P788_16 P788_17 P788_0 P788_11 P788_7 P788_12 P788_8 P788_9 C821 C822 P788_13 C833 C834 ne120.symm ne793 ne152 ne791 ne150 ne139.symm ne794 ne141.symm D134_0 ne172.symm ne796 ne174.symm D134_5.symm ne798 ne183.symm ne797 ne185.symm D134_6.symm ne222.symm ne799 ne224.symm ne226.symm ne59 ne789 ne117 ne147 G66 G803 G91 G156 ) (by decide) (by decide) (by decide) (by decide) rfl (by rw [hml]; rfl) (argsL := [(.ref yb48)]) (rest := []) rfl (lenOf pd_29 rfl) rfl (own_le20 rfl) (dc at_168) ?_
                rintro v883 T883 L883 X883 ⟨rfl, N883q, K883, P883_0, P883_1, P883_2, P883_3, P883_4, P883_5, P883_6, P883_7, P883_8, P883_9, P883_10, P883_11, P883_12, P883_13, P883_14⟩
                show Goes p e below _ T883 (mkF m 171 #[sI x0, sI x1, sJ x2, s2, sI x3, sJ x4, s2, sI x5, sR z1, sR yb8, sR yb48, sR a91, sI 1, sI md] [])
                have C888 := C815.keep K883
                have ni890 := (ninS ne139.symm (ninS ne794 (ninS ne141.symm (ninS D134_0 nin0))))
                have C889 := C816.keep K883 ni890
                have Z913 := Nat.le_trans Z839 K883.1
                have Z914 := Nat.le_trans Z840 K883.1
                have RR916 := RR842.trans (CHr.keep K883 (allS (Safe.exa hZ48.alike P788_1 (by decide) (by decide)) (allS (Safe.exa hZ48.alike P788_14 (by decide) (by decide)) (allS (Safe.exa hZ48.alike P788_0 (by decide) (by decide)) (allS (Rbk.safe hZ48.alike P788_13) all0)))) RR842.1)
                refine Goes.on (T' := T883) (g' := (mkF m 178 #[sI x0, sI x1, sJ x2, s2, sI x3, sJ x4, s2, sI x5, sR z1, sR yb8, sR yb48, sR a91, sI 1, sI md] [(.ref a91)])) (fun _ k => XS.iload X883.here hx rfl (dc at_171) rfl (XS.ifNo X883.here hx rfl (dc at_173) rfl (XT.i0_eq_f (by decide)) (XS.aload X883.here hx rfl (dc at_176) rfl rfl k))) ?_
                refine Goes.callV X883 hx hZ48 0 hown48 (ow 223 rfl) (ow 224 rfl) (notFace_of_selects (args := #[]) (mvT hZ48 (ow 226 rfl))) (ow 226 rfl) (ow 225 rfl) (ow 172 rfl) (ow 227 rfl) (by decide) rfl P883_8 (rmEi2 l Z a0 hw a91 ya134 T883.heap n0 Z913  P883_8 P883_9 C888 C889 P883_10 ) (by decide) (by decide) (by decide) (by decide) rfl (by rw [hml]; rfl) (argsL := []) (rest := []) rfl (lenOf pd_3 rfl) rfl (own_le20 rfl) (dc at_178) ?_
                rintro v917 T917 L917 X917 ⟨rfl, N917q, e917⟩
                have N917 := Fr.app (Fr.app N843 N883q) N917q
                show Goes p e below _ T917 (mkF m 181 #[sI x0, sI x1, sJ x2, s2, sI x3, sJ x4, s2, sI x5, sR z1, sR yb8, sR yb48, sR a91, sI 1, sI md] [(.int 0)])
                refine Goes.on (T' := T917) (g' := (mkF m 319 #[sI x0, sI x1, sJ x2, s2, sI x3, sJ x4, s2, sI x5, sR z1, sR yb8, sR yb48, sR a91, sI 1, sI md] [(.int 1)])) (fun _ k => XS.ifNo X917.here hx rfl (dc at_181) rfl (XT.i0_ne_f (by decide)) (XS.iconst X917.here hx rfl (dc at_184) (XS.goto X917.here hx rfl (pc0 := 185) (pc' := 189) rfl (dc at_185) (by decide) (by decide) (XS.istore X917.here hx rfl (dc at_189) rfl (l' := #[sI x0, sI x1, sJ x2, s2, sI x3, sJ x4, s2, sI x5, sR z1, sR yb8, sR yb48, sR a91, sI 1, sI md]) rfl (XS.goto X917.here hx rfl (pc0 := 191) (pc' := 317) rfl (dc at_191) (by decide) (by decide) (XS.iload X917.here hx rfl (dc at_317) rfl k)))))) ?_
                exact Goes.retBW X917 hS48 (by rw [e917]; exact Z914) hZ48 hEL (by rw [e917]; exact RR916) hx hlk hret (Or.inr rfl) (dc at_319) (by decide) (by decide) ⟨rfl, N917⟩
              · refine Goes.on (T' := T843) (g' := (mkF m 197 #[sI x0, sI x1, sJ x2, s2, sI x3, sJ x4, s2, sI x5, sR z1, sR yb8, sR yb48, sR a91, sI 1, sI md] [(.int 3), (.int md)])) (fun _ k => XS.icmpYes X843.here hx rfl (pc0 := 161) (pc' := 194) rfl (dc at_161) rfl (XT.ii_ne_t hc882) (by decide) (by decide) (XS.iload X843.here hx rfl (dc at_194) rfl (XS.iconst X843.here hx rfl (dc at_196) k))) ?_
                by_cases hc918 : md = (3 : Int32)
                · refine Goes.on (T' := T843) (g' := (mkF m 204 #[sI x0, sI x1, sJ x2, s2, sI x3, sJ x4, s2, sI x5, sR z1, sR yb8, sR yb48, sR a91, sI 1, sI md] [(.ref yb8), (.ref a91)])) (fun _ k => XS.icmpNo X843.here hx rfl (dc at_197) rfl (XT.ii_ne_f hc918) (XS.aload X843.here hx rfl (dc at_200) rfl rfl (XS.aload X843.here hx rfl (dc at_202) rfl rfl k))) ?_
                  refine Goes.callV X843 hx hZ48 0 hown48 (ow 287 rfl) (ow 288 rfl) (notFace_of_selects (args := #[]) (mvT hZ48 (ow 290 rfl))) (ow 290 rfl) (ow 289 rfl) (ow 172 rfl) (ow 291 rfl) (by decide) e843 P788_0 (rmRLow l Z a0 hw a91 yb8 ya134 yd134 yb134 ye134 ya217 ya788 T788.heap n0 Z839  C805 C829 C831 C832 C833 C834 C836 C837 P788_0 P788_11 P788_7 P788_12 P788_8 P788_9 C821 C822 P788_13 P788_14 ne117.symm ne224 ne219 ne136.symm ne225 ne141.symm ne169.symm ne228 ne174.symm ne147.symm ne226 ne152.symm ne180.symm ne229 ne185.symm ne789.symm ne799.symm ne793.symm G20 G233 G91 ) (by decide) (by decide) (by decide) (by decide) rfl (by rw [hml]; rfl) (argsL := [(.ref yb8)]) (rest := []) rfl (lenOf pd_29 rfl) rfl (own_le20 rfl) (dc at_204) ?_
                  rintro v919 T919 L919 X919 ⟨rfl, N919q, K919, P919_0, P919_1, P919_2, P919_3, P919_4, P919_5, P919_6, P919_7, P919_8, P919_9, P919_10, P919_11, P919_12, P919_13⟩
                  show Goes p e below _ T919 (mkF m 207 #[sI x0, sI x1, sJ x2, s2, sI x3, sJ x4, s2, sI x5, sR z1, sR yb8, sR yb48, sR a91, sI 1, sI md] [])
                  have C922 := P788_1.keep K919
                  have C924 := C815.keep K919
                  have ni926 := (ninS ne136.symm (ninS ne225 (ninS ne141.symm nin0)))
                  have C925 := C816.keep K919 ni926
                  have C930 := C821.keep K919
                  have ni932 := (ninS ne169.symm (ninS ne228 (ninS ne174.symm nin0)))
                  have C931 := C822.keep K919 ni932
                  have ni940 := (ninS ne59.symm (ninS ne222 (ninS ne120 nin0)))
                  have C939 := P788_2.keep K919 ni940
                  have C941 := P788_3.keep K919 ni940
                  have C942 := P788_4.keep K919 ni940
                  have ni944 := (ninS ne147.symm (ninS ne226 (ninS ne152.symm nin0)))
                  have C943 := P788_13.keep K919 ni944
                  have C945 := P788_14.keep K919
                  have ni947 := (ninS ne789.symm (ninS ne799.symm (ninS ne793.symm nin0)))
                  have C946 := P788_15.keep K919 ni947
                  have C948 := P788_16.keep K919 ni947
                  have C949 := P788_17.keep K919 ni947
                  have Z951 := Nat.le_trans Z839 K919.1
                  have Z952 := Nat.le_trans Z840 K919.1
                  have RR954 := RR842.trans (CHr.keep K919 (allS (Safe.exa hZ48.alike C805 (by decide) (by decide)) (allS (Safe.exa hZ48.alike C833 (by decide) (by decide)) (allS (Safe.exa hZ48.alike P788_0 (by decide) (by decide)) all0))) RR842.1)
                  refine Goes.on (T' := T919) (g' := (mkF m 214 #[sI x0, sI x1, sJ x2, s2, sI x3, sJ x4, s2, sI x5, sR z1, sR yb8, sR yb48, sR a91, sI 1, sI md] [(.ref a91)])) (fun _ k => XS.iload X919.here hx rfl (dc at_207) rfl (XS.ifNo X919.here hx rfl (dc at_209) rfl (XT.i0_eq_f (by decide)) (XS.aload X919.here hx rfl (dc at_212) rfl rfl k))) ?_
                  refine Goes.callV X919 hx hZ48 0 hown48 (ow 223 rfl) (ow 224 rfl) (notFace_of_selects (args := #[]) (mvT hZ48 (ow 226 rfl))) (ow 226 rfl) (ow 225 rfl) (ow 172 rfl) (ow 227 rfl) (by decide) rfl P919_8 (rmEi3 l Z a0 hw a91 ya134 T919.heap n0 Z951  P919_8 P919_9 C924 C925 P919_10 ) (by decide) (by decide) (by decide) (by decide) rfl (by rw [hml]; rfl) (argsL := []) (rest := []) rfl (lenOf pd_3 rfl) rfl (own_le20 rfl) (dc at_214) ?_
                  rintro v955 T955 L955 X955 ⟨rfl, N955q, e955⟩
                  show Goes p e below _ T955 (mkF m 217 #[sI x0, sI x1, sJ x2, s2, sI x3, sJ x4, s2, sI x5, sR z1, sR yb8, sR yb48, sR a91, sI 1, sI md] [(.int 0)])
                  refine Goes.on (T' := T955) (g' := (mkF m 231 #[sI x0, sI x1, sJ x2, s2, sI x3, sJ x4, s2, sI x5, sR z1, sR yb8, sR yb48, sR a91, sI 1, sI md] [(.ref yb48), (.ref a91)])) (fun _ k => XS.ifNo X955.here hx rfl (dc at_217) rfl (XT.i0_ne_f (by decide)) (XS.iconst X955.here hx rfl (dc at_220) (XS.goto X955.here hx rfl (pc0 := 221) (pc' := 225) rfl (dc at_221) (by decide) (by decide) (XS.istore X955.here hx rfl (dc at_225) rfl (l' := #[sI x0, sI x1, sJ x2, s2, sI x3, sJ x4, s2, sI x5, sR z1, sR yb8, sR yb48, sR a91, sI 1, sI md]) rfl (XS.aload X955.here hx rfl (dc at_227) rfl rfl (XS.aload X955.here hx rfl (dc at_229) rfl rfl k)))))) ?_
                  refine Goes.callV X955 hx hZ48 0 hown48 (ow 287 rfl) (ow 288 rfl) (notFace_of_selects (args := #[]) (mvT hZ48 (ow 290 rfl))) (ow 290 rfl) (ow 289 rfl) (ow 172 rfl) (ow 291 rfl) (by decide) e955 P919_8 (rmRTopE l Z a0 hw a91 yb48 ya134 yd134 yb134 ye134 ya217 ya788 T919.heap n0 Z951  C922 C939 C941 C942 C945 C946 C948 C949 P919_8 P919_9 P919_10 P919_11 P919_12 P919_13 C930 C931 C943 P919_4 P919_5 ne120.symm ne793 ne152 ne791 ne150 ne139.symm ne794 ne141.symm D134_0 ne172.symm ne796 ne174.symm D134_5.symm ne798 ne183.symm ne797 ne185.symm D134_6.symm ne222.symm ne799 ne224.symm ne226.symm G66 G803 G91 G156 ) (by decide) (by decide) (by decide) (by decide) rfl (by rw [hml]; rfl) (argsL := [(.ref yb48)]) (rest := []) rfl (lenOf pd_29 rfl) rfl (own_le20 rfl) (dc at_231) ?_
                  rintro v956 T956 L956 X956 ⟨rfl, N956q, K956, P956_0, P956_1, P956_2, P956_3, P956_4, P956_5, P956_6, P956_7, P956_8, P956_9, P956_10, P956_11, P956_12, P956_13, P956_14⟩
                  show Goes p e below _ T956 (mkF m 234 #[sI x0, sI x1, sJ x2, s2, sI x3, sJ x4, s2, sI x5, sR z1, sR yb8, sR yb48, sR a91, sI 1, sI md] [])
                  have C961 := C924.keep K956
                  have ni963 := (ninS ne139.symm (ninS ne794 (ninS ne141.symm (ninS D134_0 nin0))))
                  have C962 := C925.keep K956 ni963
                  have Z985 := Nat.le_trans Z951 K956.1
                  have Z986 := Nat.le_trans Z952 K956.1
                  have RR988 := RR954.trans (CHr.keep K956 (allS (Safe.exa hZ48.alike C922 (by decide) (by decide)) (allS (Safe.exa hZ48.alike C945 (by decide) (by decide)) (allS (Safe.exa hZ48.alike P919_8 (by decide) (by decide)) (allS (Rbk.safe hZ48.alike C943) all0)))) RR954.1)
                  refine Goes.on (T' := T956) (g' := (mkF m 241 #[sI x0, sI x1, sJ x2, s2, sI x3, sJ x4, s2, sI x5, sR z1, sR yb8, sR yb48, sR a91, sI 1, sI md] [(.ref a91)])) (fun _ k => XS.iload X956.here hx rfl (dc at_234) rfl (XS.ifNo X956.here hx rfl (dc at_236) rfl (XT.i0_eq_f (by decide)) (XS.aload X956.here hx rfl (dc at_239) rfl rfl k))) ?_
                  refine Goes.callV X956 hx hZ48 0 hown48 (ow 223 rfl) (ow 224 rfl) (notFace_of_selects (args := #[]) (mvT hZ48 (ow 226 rfl))) (ow 226 rfl) (ow 225 rfl) (ow 172 rfl) (ow 227 rfl) (by decide) rfl P956_8 (rmEi1 l Z a0 hw a91 ya134 T956.heap n0 Z985  P956_8 P956_9 C961 C962 P956_10 ) (by decide) (by decide) (by decide) (by decide) rfl (by rw [hml]; rfl) (argsL := []) (rest := []) rfl (lenOf pd_3 rfl) rfl (own_le20 rfl) (dc at_241) ?_
                  rintro v989 T989 L989 X989 ⟨rfl, N989q, e989⟩
                  have N989 := Fr.app (Fr.app (Fr.app (Fr.app N843 N919q) N955q) N956q) N989q
                  show Goes p e below _ T989 (mkF m 244 #[sI x0, sI x1, sJ x2, s2, sI x3, sJ x4, s2, sI x5, sR z1, sR yb8, sR yb48, sR a91, sI 1, sI md] [(.int 1)])
                  refine Goes.on (T' := T989) (g' := (mkF m 319 #[sI x0, sI x1, sJ x2, s2, sI x3, sJ x4, s2, sI x5, sR z1, sR yb8, sR yb48, sR a91, sI 1, sI md] [(.int 1)])) (fun _ k => XS.ifNo X989.here hx rfl (dc at_244) rfl (XT.i0_eq_f (by decide)) (XS.iconst X989.here hx rfl (dc at_247) (XS.goto X989.here hx rfl (pc0 := 248) (pc' := 252) rfl (dc at_248) (by decide) (by decide) (XS.istore X989.here hx rfl (dc at_252) rfl (l' := #[sI x0, sI x1, sJ x2, s2, sI x3, sJ x4, s2, sI x5, sR z1, sR yb8, sR yb48, sR a91, sI 1, sI md]) rfl (XS.goto X989.here hx rfl (pc0 := 254) (pc' := 317) rfl (dc at_254) (by decide) (by decide) (XS.iload X989.here hx rfl (dc at_317) rfl k)))))) ?_
                  exact Goes.retBW X989 hS48 (by rw [e989]; exact Z986) hZ48 hEL (by rw [e989]; exact RR988) hx hlk hret (Or.inr rfl) (dc at_319) (by decide) (by decide) ⟨rfl, N989⟩
                · refine Goes.on (T' := T843) (g' := (mkF m 260 #[sI x0, sI x1, sJ x2, s2, sI x3, sJ x4, s2, sI x5, sR z1, sR yb8, sR yb48, sR a91, sI 1, sI md] [(.int 4), (.int md)])) (fun _ k => XS.icmpYes X843.here hx rfl (pc0 := 197) (pc' := 257) rfl (dc at_197) rfl (XT.ii_ne_t hc918) (by decide) (by decide) (XS.iload X843.here hx rfl (dc at_257) rfl (XS.iconst X843.here hx rfl (dc at_259) k))) ?_
                  by_cases hc990 : md = (4 : Int32)
                  · refine Goes.on (T' := T843) (g' := (mkF m 267 #[sI x0, sI x1, sJ x2, s2, sI x3, sJ x4, s2, sI x5, sR z1, sR yb8, sR yb48, sR a91, sI 1, sI md] [(.ref yb48), (.ref a91)])) (fun _ k => XS.icmpNo X843.here hx rfl (dc at_260) rfl (XT.ii_ne_f hc990) (XS.aload X843.here hx rfl (dc at_263) rfl rfl (XS.aload X843.here hx rfl (dc at_265) rfl rfl k))) ?_
                    refine Goes.callV X843 hx hZ48 0 hown48 (ow 287 rfl) (ow 288 rfl) (notFace_of_selects (args := #[]) (mvT hZ48 (ow 290 rfl))) (ow 290 rfl) (ow 289 rfl) (ow 172 rfl) (ow 291 rfl) (by decide) e843 P788_0 (rmRTop l Z a0 hw a91 yb48 ya134 yd134 yb134 ye134 ya217 ya788 yb8 T788.heap n0 Z839  P788_1 P788_2 P788_3 P788_4 P788_14 P788_15 P788_16 P788_17 P788_0 P788_11 P788_7 P788_12 P788_8 P788_9 C821 C822 P788_13 C833 C834 ne120.symm ne793 ne152 ne791 ne150 ne139.symm ne794 ne141.symm D134_0 ne172.symm ne796 ne174.symm D134_5.symm ne798 ne183.symm ne797 ne185.symm D134_6.symm ne222.symm ne799 ne224.symm ne226.symm ne59 ne789 ne117 ne147 G66 G803 G91 G156 ) (by decide) (by decide) (by decide) (by decide) rfl (by rw [hml]; rfl) (argsL := [(.ref yb48)]) (rest := []) rfl (lenOf pd_29 rfl) rfl (own_le20 rfl) (dc at_267) ?_
                    rintro v991 T991 L991 X991 ⟨rfl, N991q, K991, P991_0, P991_1, P991_2, P991_3, P991_4, P991_5, P991_6, P991_7, P991_8, P991_9, P991_10, P991_11, P991_12, P991_13, P991_14⟩
                    show Goes p e below _ T991 (mkF m 270 #[sI x0, sI x1, sJ x2, s2, sI x3, sJ x4, s2, sI x5, sR z1, sR yb8, sR yb48, sR a91, sI 1, sI md] [])
                    have C993 := C805.keep K991
                    have C996 := C815.keep K991
                    have ni998 := (ninS ne139.symm (ninS ne794 (ninS ne141.symm (ninS D134_0 nin0))))
                    have C997 := C816.keep K991 ni998
                    have C1002 := C821.keep K991
                    have ni1004 := (ninS ne172.symm (ninS ne796 (ninS ne174.symm (ninS D134_5.symm nin0))))
                    have C1003 := C822.keep K991 ni1004
                    have ni1011 := (ninS ne59 (ninS ne789 (ninS ne117 (ninS ne147 nin0))))
                    have C1010 := C829.keep K991 ni1011
                    have C1012 := C831.keep K991 ni1011
                    have C1013 := C832.keep K991 ni1011
                    have C1014 := C833.keep K991
                    have ni1016 := (ninS ne222.symm (ninS ne799 (ninS ne224.symm (ninS ne226.symm nin0))))
                    have C1015 := C834.keep K991 ni1016
                    have C1017 := C836.keep K991 ni1016
                    have C1018 := C837.keep K991 ni1016
                    have Z1021 := Nat.le_trans Z839 K991.1
                    have Z1022 := Nat.le_trans Z840 K991.1
                    have RR1024 := RR842.trans (CHr.keep K991 (allS (Safe.exa hZ48.alike P788_1 (by decide) (by decide)) (allS (Safe.exa hZ48.alike P788_14 (by decide) (by decide)) (allS (Safe.exa hZ48.alike P788_0 (by decide) (by decide)) (allS (Rbk.safe hZ48.alike P788_13) all0)))) RR842.1)
                    refine Goes.on (T' := T991) (g' := (mkF m 277 #[sI x0, sI x1, sJ x2, s2, sI x3, sJ x4, s2, sI x5, sR z1, sR yb8, sR yb48, sR a91, sI 1, sI md] [(.ref a91)])) (fun _ k => XS.iload X991.here hx rfl (dc at_270) rfl (XS.ifNo X991.here hx rfl (dc at_272) rfl (XT.i0_eq_f (by decide)) (XS.aload X991.here hx rfl (dc at_275) rfl rfl k))) ?_
                    refine Goes.callV X991 hx hZ48 0 hown48 (ow 223 rfl) (ow 224 rfl) (notFace_of_selects (args := #[]) (mvT hZ48 (ow 226 rfl))) (ow 226 rfl) (ow 225 rfl) (ow 172 rfl) (ow 227 rfl) (by decide) rfl P991_8 (rmEi2 l Z a0 hw a91 ya134 T991.heap n0 Z1021  P991_8 P991_9 C996 C997 P991_10 ) (by decide) (by decide) (by decide) (by decide) rfl (by rw [hml]; rfl) (argsL := []) (rest := []) rfl (lenOf pd_3 rfl) rfl (own_le20 rfl) (dc at_277) ?_
                    rintro v1025 T1025 L1025 X1025 ⟨rfl, N1025q, e1025⟩
                    show Goes p e below _ T1025 (mkF m 280 #[sI x0, sI x1, sJ x2, s2, sI x3, sJ x4, s2, sI x5, sR z1, sR yb8, sR yb48, sR a91, sI 1, sI md] [(.int 0)])
                    refine Goes.on (T' := T1025) (g' := (mkF m 294 #[sI x0, sI x1, sJ x2, s2, sI x3, sJ x4, s2, sI x5, sR z1, sR yb8, sR yb48, sR a91, sI 1, sI md] [(.ref yb8), (.ref a91)])) (fun _ k => XS.ifNo X1025.here hx rfl (dc at_280) rfl (XT.i0_ne_f (by decide)) (XS.iconst X1025.here hx rfl (dc at_283) (XS.goto X1025.here hx rfl (pc0 := 284) (pc' := 288) rfl (dc at_284) (by decide) (by decide) (XS.istore X1025.here hx rfl (dc at_288) rfl (l' := #[sI x0, sI x1, sJ x2, s2, sI x3, sJ x4, s2, sI x5, sR z1, sR yb8, sR yb48, sR a91, sI 1, sI md]) rfl (XS.aload X1025.here hx rfl (dc at_290) rfl rfl (XS.aload X1025.here hx rfl (dc at_292) rfl rfl k)))))) ?_
                    refine Goes.callV X1025 hx hZ48 0 hown48 (ow 287 rfl) (ow 288 rfl) (notFace_of_selects (args := #[]) (mvT hZ48 (ow 290 rfl))) (ow 290 rfl) (ow 289 rfl) (ow 172 rfl) (ow 291 rfl) (by decide) e1025 P991_8 (rmRL1 l Z a0 hw a91 yb8 ya134 yd134 yb134 ye134 ya217 T991.heap n0 Z1021  C993 C1010 C1012 C1013 C1014 C1015 C1017 C1018 P991_8 P991_9 P991_10 P991_11 P991_12 P991_13 C1002 C1003 P991_14 ne117.symm ne224 ne152 ne219 ne147 ne136.symm ne225 ne141.symm D134_0 ne169.symm ne228 ne174.symm D134_5.symm ne226 ne180.symm ne229 ne185.symm D134_6.symm G20 G233 G91 G156 ) (by decide) (by decide) (by decide) (by decide) rfl (by rw [hml]; rfl) (argsL := [(.ref yb8)]) (rest := []) rfl (lenOf pd_29 rfl) rfl (own_le20 rfl) (dc at_294) ?_
                    rintro v1026 T1026 L1026 X1026 ⟨rfl, N1026q, K1026, P1026_0, P1026_1, P1026_2, P1026_3, P1026_4, P1026_5, P1026_6, P1026_7, P1026_8, P1026_9, P1026_10, P1026_11, P1026_12, P1026_13, P1026_14⟩
                    show Goes p e below _ T1026 (mkF m 297 #[sI x0, sI x1, sJ x2, s2, sI x3, sJ x4, s2, sI x5, sR z1, sR yb8, sR yb48, sR a91, sI 1, sI md] [])
                    have C1031 := C996.keep K1026
                    have ni1033 := (ninS ne136.symm (ninS ne225 (ninS ne141.symm (ninS D134_0 nin0))))
                    have C1032 := C997.keep K1026 ni1033
                    have Z1055 := Nat.le_trans Z1021 K1026.1
                    have Z1056 := Nat.le_trans Z1022 K1026.1
                    have RR1058 := RR1024.trans (CHr.keep K1026 (allS (Safe.exa hZ48.alike C993 (by decide) (by decide)) (allS (Safe.exa hZ48.alike C1014 (by decide) (by decide)) (allS (Safe.exa hZ48.alike P991_8 (by decide) (by decide)) (allS (Rbk.safe hZ48.alike P991_14) all0)))) RR1024.1)
                    refine Goes.on (T' := T1026) (g' := (mkF m 304 #[sI x0, sI x1, sJ x2, s2, sI x3, sJ x4, s2, sI x5, sR z1, sR yb8, sR yb48, sR a91, sI 1, sI md] [(.ref a91)])) (fun _ k => XS.iload X1026.here hx rfl (dc at_297) rfl (XS.ifNo X1026.here hx rfl (dc at_299) rfl (XT.i0_eq_f (by decide)) (XS.aload X1026.here hx rfl (dc at_302) rfl rfl k))) ?_
                    refine Goes.callV X1026 hx hZ48 0 hown48 (ow 223 rfl) (ow 224 rfl) (notFace_of_selects (args := #[]) (mvT hZ48 (ow 226 rfl))) (ow 226 rfl) (ow 225 rfl) (ow 172 rfl) (ow 227 rfl) (by decide) rfl P1026_8 (rmEi1 l Z a0 hw a91 ya134 T1026.heap n0 Z1055  P1026_8 P1026_9 C1031 C1032 P1026_10 ) (by decide) (by decide) (by decide) (by decide) rfl (by rw [hml]; rfl) (argsL := []) (rest := []) rfl (lenOf pd_3 rfl) rfl (own_le20 rfl) (dc at_304) ?_
                    rintro v1059 T1059 L1059 X1059 ⟨rfl, N1059q, e1059⟩
                    have N1059 := Fr.app (Fr.app (Fr.app (Fr.app N843 N991q) N1025q) N1026q) N1059q
                    show Goes p e below _ T1059 (mkF m 307 #[sI x0, sI x1, sJ x2, s2, sI x3, sJ x4, s2, sI x5, sR z1, sR yb8, sR yb48, sR a91, sI 1, sI md] [(.int 1)])
                    refine Goes.on (T' := T1059) (g' := (mkF m 319 #[sI x0, sI x1, sJ x2, s2, sI x3, sJ x4, s2, sI x5, sR z1, sR yb8, sR yb48, sR a91, sI 1, sI md] [(.int 1)])) (fun _ k => XS.ifNo X1059.here hx rfl (dc at_307) rfl (XT.i0_eq_f (by decide)) (XS.iconst X1059.here hx rfl (dc at_310) (XS.goto X1059.here hx rfl (pc0 := 311) (pc' := 315) rfl (dc at_311) (by decide) (by decide) (XS.istore X1059.here hx rfl (dc at_315) rfl (l' := #[sI x0, sI x1, sJ x2, s2, sI x3, sJ x4, s2, sI x5, sR z1, sR yb8, sR yb48, sR a91, sI 1, sI md]) rfl (XS.iload X1059.here hx rfl (dc at_317) rfl k))))) ?_
                    exact Goes.retBW X1059 hS48 (by rw [e1059]; exact Z1056) hZ48 hEL (by rw [e1059]; exact RR1058) hx hlk hret (Or.inr rfl) (dc at_319) (by decide) (by decide) ⟨rfl, N1059⟩
                  · refine Goes.on (T' := T843) (g' := (mkF m 319 #[sI x0, sI x1, sJ x2, s2, sI x3, sJ x4, s2, sI x5, sR z1, sR yb8, sR yb48, sR a91, sI 1, sI md] [(.int 1)])) (fun _ k => XS.icmpYes X843.here hx rfl (pc0 := 260) (pc' := 317) rfl (dc at_260) rfl (XT.ii_ne_t hc990) (by decide) (by decide) (XS.iload X843.here hx rfl (dc at_317) rfl k)) ?_
                    exact Goes.retBW X843 hS48 (by rw [e843]; exact Z840) hZ48 hEL (by rw [e843]; exact RR842) hx hlk hret (Or.inr rfl) (dc at_319) (by decide) (by decide) ⟨rfl, N843⟩
      · refine Goes.callSW X32 hx hZ32 hS32 hk32 hEL RR32.1 0 hown32 (ow 11 rfl) (ow 12 rfl) (ow 13 rfl) (ow 14 rfl) (by decide) e32 (rmRsM l Z a0 hw a32 z1 b32 kb32 (98 : Int32) x3 x4 h32 n0 Z44 C33 cs SC hcs sf SF hsf ic SI icf IC hic97 hic98 hEL em SE EXE FE Q32 (Or.inr rfl) hc47) (by decide) (by decide) (by decide) (by decide) rfl (by rw [hml]; rfl) (argsL := [(.ref a32), (.ref z1), (.int x3), (.long x4)]) (rest := []) rfl (lenOf pd_27 rfl) rfl (own_le20 rfl) (dc at_36) ?_
        intro v1060 T1060 L1060 k1060 X1060 hS1060 hk1060 hZ1060 hown1060 R1060 hQ1060
        obtain ⟨ya1060, yb1060, rfl, N1060q, K1060, P1060_0, P1060_1, P1060_2, P1060_3, P1060_4, P1060_5, P1060_6, M1060_0, M1060_1, D1060_0⟩ := hQ1060
        show Goes p e below _ T1060 (mkF m 39 #[sI x0, sI x1, sJ x2, s2, sI x3, sJ x4, s2, sI x5, sR z1, sR yb8, su, su, su, su] [(.ref ya1060)])
        have RR1060 := RR32.trans R1060
        have ne1062 := own_neL C37.lt M1060_0
        have ne1068 := own_neL (Exa.lt (Exa.ext C33.2 EXE)) M1060_0
        have G1069 : n0 ≤ ya1060 := Nat.le_trans Z44 M1060_0
        have ne1071 := own_neL C37.lt M1060_1
        have C1080 := C34.keep K1060
        have C1083 := C37.keep K1060
        have C1084 := C38.keep K1060
        have Z1091 := Nat.le_trans Z44 K1060.1
        obtain ⟨T1094, h1094, X1094, e1094, E1094, A1094, D1094, U1094, st1094⟩ := newO X1060 hx hZ1060 hown1060 (ow 170 rfl) (ow 171 rfl) (ow 172 rfl) rfl (g := (mkF m 41 #[sI x0, sI x1, sJ x2, s2, sI x3, sJ x4, s2, sI x5, sR z1, sR yb8, sR ya1060, su, su, su] [])) rfl (dc at_41) (by decide) (by decide)
        obtain ⟨a1094, g1094⟩ : ∃ z, z = T1060.heap.size := ⟨_, rfl⟩
        rw [← g1094] at A1094 D1094 U1094 st1094
        have C1095 := (C33.keep K1060 all0).ext E1094
        have C1096 := C1080.ext E1094
        have C1099 := C1083.ext E1094
        have C1100 := C1084.ext E1094
        have C1106 := P1060_0.ext E1094
        have C1107 := P1060_1.ext E1094
        have ne1116 := own_neG C1080.lt g1094
        have ne1117 := own_neG C1083.lt g1094
        have ne1118 := own_neG C1084.lt g1094
        have ne1119 := own_neG P1060_0.lt g1094
        have ne1120 := own_neG P1060_1.lt g1094
        have Z1121 := Nat.le_trans Z1091 E1094.1
        have Z1122 := Nat.le_trans hk1060 E1094.1
        have RR1124 := RR1060.trans (CHr.ext E1094 RR1060.1)
        have F1125 : Fld Z h1094 a1094 "com/example/uncross/uncross/engine/BookSide" "levels" "[Lcom/example/uncross/uncross/engine/BookSide$Level;" .null := D1094 (Or.inl (ow 190 rfl)) (ty := (.array (.object "com/example/uncross/uncross/engine/BookSide$Level"))) (by decide)
        have F1126 : Fld Z h1094 a1094 "com/example/uncross/uncross/engine/BookSide" "keys" "[J" .null := D1094 (Or.inl (ow 193 rfl)) (ty := (.array .long)) (by decide)
        have F1127 : Fld Z h1094 a1094 "com/example/uncross/uncross/engine/BookSide" "levelCount" "I" (.int 0) := D1094 (Or.inl (ow 195 rfl)) (ty := .int) (by decide)
        have F1128 : Fld Z h1094 a1094 "com/example/uncross/uncross/engine/BookSide" "emptyLevels" "I" (.int 0) := D1094 (Or.inl (ow 303 rfl)) (ty := .int) (by decide)
        have F1129 : Fld Z h1094 a1094 "com/example/uncross/uncross/engine/BookSide" "markets" "Lcom/example/uncross/uncross/engine/BookSide$Level;" .null := D1094 (Or.inr (ow 187 rfl)) (ty := (.object "com/example/uncross/uncross/engine/BookSide$Level")) (by decide)
        have F1130 : Fld Z h1094 a1094 "com/example/uncross/uncross/engine/BookSide" "deep" "Ljava/util/TreeMap;" .null := D1094 (Or.inr (ow 216 rfl)) (ty := (.object "java/util/TreeMap")) (by decide)
        have F1131 : Fld Z h1094 a1094 "com/example/uncross/uncross/engine/BookSide" "buying" "Z" (.int 0) := D1094 (Or.inr (ow 220 rfl)) (ty := .boolean) (by decide)
        have G1094 : n0 ≤ a1094 := Nat.le_trans Z1091 (Nat.le_of_eq g1094.symm)
        obtain ⟨zb, hzb⟩ : ∃ z : Int32, (z = 1 ∧ z1 = k1) ∨ (z = 0 ∧ z1 ≠ k1) := by
          by_cases q : z1 = k1
          · exact ⟨1, Or.inl ⟨rfl, q⟩⟩
          · exact ⟨0, Or.inr ⟨rfl, q⟩⟩
        refine Goes.on (T' := T1094) (g' := (mkF m 47 #[sI x0, sI x1, sJ x2, s2, sI x3, sJ x4, s2, sI x5, sR z1, sR yb8, sR ya1060, su, su, su] [(.ref z1), (.ref a1094), (.ref a1094)])) (fun _ k => XS.astore X1060.here hx rfl (dc at_39) rfl rfl (l' := #[sI x0, sI x1, sJ x2, s2, sI x3, sJ x4, s2, sI x5, sR z1, sR yb8, sR ya1060, su, su, su]) rfl (st1094 _ (XS.dup X1094.here hx rfl (dc at_44) rfl rfl (XS.aload X1094.here hx rfl (dc at_45) rfl rfl k)))) ?_
        refine Goes.callC X1094 hx hZ1060 1 rfl hown1060 (ow 173 rfl) (ow 174 rfl) (ow 172 rfl) (ow 175 rfl) (by decide) e1094 (rmBi l Z a0 hw a1094 z1 k1 zb h1094 n0 Z1121 C1095 ST_k1 A1094 F1125 F1126 F1127 F1128 F1129 F1130 F1131 G1094 hzb) (by decide) (by decide) (by decide) (by decide) rfl (by rw [hml]; rfl) (a := a1094) (argsL := [(.ref z1)]) (rest := [(.ref a1094)]) rfl (lenOf pd_28 rfl) rfl (own_le20 rfl) (dc at_47) ?_
        rintro v1133 T1133 L1133 X1133 ⟨ya1133, yb1133, yc1133, yd1133, ye1133, rfl, N1133q, K1133, P1133_0, P1133_1, P1133_2, P1133_3, P1133_4, P1133_5, P1133_6, P1133_7, P1133_8, P1133_9, P1133_10, P1133_11, P1133_12, P1133_13, P1133_14, P1133_15, P1133_16, P1133_17, P1133_18, P1133_19, P1133_20, M1133_0, M1133_1, M1133_2, M1133_3, M1133_4, D1133_0, D1133_1, D1133_2, D1133_3, D1133_4, D1133_5, D1133_6, D1133_7, D1133_8, D1133_9⟩
        show Goes p e below _ T1133 (mkF m 50 #[sI x0, sI x1, sJ x2, s2, sI x3, sJ x4, s2, sI x5, sR z1, sR yb8, sR ya1060, su, su, su] [(.ref a1094)])
        have ne1135 := own_neL C1099.lt M1133_0
        have ne1137 := own_neL C1106.lt M1133_0
        have ne1138 := own_neL C1107.lt M1133_0
        have ne1139 := own_neL A1094.lt M1133_0
        have ne1142 := own_neL (Exa.lt (Exa.ext C1095.2 EXE)) M1133_0
        have G1143 : n0 ≤ ya1133 := Nat.le_trans Z1121 M1133_0
        have ne1144 := own_neL C1096.lt M1133_1
        have ne1145 := own_neL C1099.lt M1133_1
        have ne1146 := own_neL C1100.lt M1133_1
        have ne1147 := own_neL C1106.lt M1133_1
        have ne1148 := own_neL C1107.lt M1133_1
        have ne1149 := own_neL A1094.lt M1133_1
        have G1153 : n0 ≤ yb1133 := Nat.le_trans Z1121 M1133_1
        have ne1154 := own_neL C1096.lt M1133_2
        have ne1155 := own_neL C1099.lt M1133_2
        have ne1156 := own_neL C1100.lt M1133_2
        have ne1157 := own_neL C1106.lt M1133_2
        have ne1158 := own_neL C1107.lt M1133_2
        have ne1159 := own_neL A1094.lt M1133_2
        have G1163 : n0 ≤ yc1133 := Nat.le_trans Z1121 M1133_2
        have ne1165 := own_neL C1099.lt M1133_3
        have ne1167 := own_neL C1106.lt M1133_3
        have ne1169 := own_neL A1094.lt M1133_3
        have ne1175 := own_neL C1099.lt M1133_4
        have ne1179 := own_neL A1094.lt M1133_4
        have C1185 := C1096.keep K1133
        have C1186 := ((C35.keep K1060 nin0).ext E1094).keep K1133 (ninS ne1116 nin0)
        have C1187 := ((C36.keep K1060 nin0).ext E1094).keep K1133 (ninS ne1116 nin0)
        have C1188 := C1099.keep K1133
        have C1189 := C1100.keep K1133
        have C1190 := ((C39.keep K1060 nin0).ext E1094).keep K1133 (ninS ne1118 nin0)
        have C1191 := ((C40.keep K1060 nin0).ext E1094).keep K1133 (ninS ne1117 nin0)
        have C1192 := ((C41.keep K1060 nin0).ext E1094).keep K1133 (ninS ne1117 nin0)
        have C1193 := ((C42.keep K1060 nin0).ext E1094).keep K1133 (ninS ne1117 nin0)
        have C1194 := ((C43.keep K1060 nin0).ext E1094).keep K1133 (ninS ne1117 nin0)
        have C1195 := C1106.keep K1133
        have Z1203 := Nat.le_trans Z1121 K1133.1
        have Z1204 := Nat.le_trans Z1122 K1133.1
        have RR1206 := RR1124.trans (CHr.keep K1133 (allS (Safe.exa hZ1060.alike A1094 (by decide) (by decide)) all0) RR1124.1)
        refine Goes.on (T' := T1133) (g' := (mkF m 54 #[sI x0, sI x1, sJ x2, s2, sI x3, sJ x4, s2, sI x5, sR z1, sR yb8, sR ya1060, sR a1094, su, su] [(.ref a1094)])) (fun _ k => XS.astore X1133.here hx rfl (dc at_50) rfl rfl (l' := #[sI x0, sI x1, sJ x2, s2, sI x3, sJ x4, s2, sI x5, sR z1, sR yb8, sR ya1060, sR a1094, su, su]) rfl (XS.aload X1133.here hx rfl (dc at_52) rfl rfl k)) ?_
        refine Goes.callV X1133 hx hZ1060 0 hown1060 (ow 223 rfl) (ow 224 rfl) (notFace_of_selects (args := #[]) (mvT hZ1060 (ow 226 rfl))) (ow 226 rfl) (ow 225 rfl) (ow 172 rfl) (ow 227 rfl) (by decide) rfl P1133_0 (rmEi1 l Z a0 hw a1094 ya1133 T1133.heap n0 Z1203  P1133_0 P1133_5 P1133_8 P1133_9 P1133_3 ) (by decide) (by decide) (by decide) (by decide) rfl (by rw [hml]; rfl) (argsL := []) (rest := []) rfl (lenOf pd_3 rfl) rfl (own_le20 rfl) (dc at_54) ?_
        rintro v1207 T1207 L1207 X1207 ⟨rfl, N1207q, e1207⟩
        show Goes p e below _ T1207 (mkF m 57 #[sI x0, sI x1, sJ x2, s2, sI x3, sJ x4, s2, sI x5, sR z1, sR yb8, sR ya1060, sR a1094, su, su] [(.int 1)])
        refine Goes.on (T' := T1207) (g' := (mkF m 63 #[sI x0, sI x1, sJ x2, s2, sI x3, sJ x4, s2, sI x5, sR z1, sR yb8, sR ya1060, sR a1094, sI 1, su] [(.ref yb8), (.ref a1094)])) (fun _ k => XS.istore X1207.here hx rfl (dc at_57) rfl (l' := #[sI x0, sI x1, sJ x2, s2, sI x3, sJ x4, s2, sI x5, sR z1, sR yb8, sR ya1060, sR a1094, sI 1, su]) rfl (XS.aload X1207.here hx rfl (dc at_59) rfl rfl (XS.aload X1207.here hx rfl (dc at_61) rfl rfl k))) ?_
        refine Goes.callV X1207 hx hZ1060 0 hown1060 (ow 230 rfl) (ow 231 rfl) (notFace_of_selects (args := #[]) (mvT hZ1060 (ow 233 rfl))) (ow 233 rfl) (ow 232 rfl) (ow 172 rfl) (ow 234 rfl) (by decide) e1207 P1133_0 (rmAdL0 l Z a0 hw a1094 yd1133 yb1133 yc1133 ya1133 ye1133 yb8 yc8 ya8 zb (Fprice x1 x2) T1133.heap n0 Z1203  P1133_0 P1133_7 P1133_3 P1133_6 P1133_1 P1133_2 P1133_5 P1133_4 P1133_15 P1133_16 P1133_12 P1133_14 C1188 C1191 C1192 C1193 C1194 C1189 C1190 C1185 C1186 C1187 ne1117.symm ne1149 ne1159 ne1165.symm ne1169.symm D1133_5.symm D1133_7.symm ne1145.symm D1133_4 ne1155.symm D8_2.symm ne1118 ne1146 ne1156 D8_0 ne1116 ne1144 ne1154 G20 G1094 G1153 G1163 (own_knm (own_price x1 x2))) (by decide) (by decide) (by decide) (by decide) rfl (by rw [hml]; rfl) (argsL := [(.ref yb8)]) (rest := []) rfl (lenOf pd_29 rfl) rfl (own_le20 rfl) (dc at_63) ?_
        rintro v1208 T1208 L1208 X1208 ⟨ya1208, rfl, N1208q, K1208, P1208_0, P1208_1, P1208_2, P1208_3, P1208_4, P1208_5, P1208_6, P1208_7, P1208_8, P1208_9, P1208_10, P1208_11, P1208_12, P1208_13, P1208_14, P1208_15, P1208_16, P1208_17, P1208_18, P1208_19, M1208_0⟩
        show Goes p e below _ T1208 (mkF m 66 #[sI x0, sI x1, sJ x2, s2, sI x3, sJ x4, s2, sI x5, sR z1, sR yb8, sR ya1060, sR a1094, sI 1, su] [])
        have ne1210 := own_neL C1188.lt M1208_0
        have ne1212 := own_neL C1195.lt M1208_0
        have ne1214 := own_neL P1133_0.lt M1208_0
        have ne1215 := own_neL P1133_8.lt M1208_0
        have ne1216 := own_neL P1133_12.lt M1208_0
        have ne1218 := own_neL P1133_15.lt M1208_0
        have ne1219 := own_neL P1133_17.lt M1208_0
        have G1223 : n0 ≤ ya1208 := Nat.le_trans Z1203 M1208_0
        have C1224 := (C1095.keep K1133 (allS G1094 all0)).keep K1208 (allS G20 (allS G1094 (allS G1153 (allS G1163 all0))))
        have C1233 := C1195.keep K1208
        have C1234 := (C1107.keep K1133).keep K1208
        have ni1236 := (ninS ne1071.symm (ninS ne1120 (ninS ne1148 (ninS ne1158 nin0))))
        have C1235 := ((P1060_2.ext E1094).keep K1133 (ninS ne1120 nin0)).keep K1208 ni1236
        have ni1238 := (ninS ne1062.symm (ninS ne1119 (ninS ne1147 (ninS ne1157 nin0))))
        have C1237 := ((P1060_3.ext E1094).keep K1133 (ninS ne1119 nin0)).keep K1208 ni1238
        have C1239 := ((P1060_4.ext E1094).keep K1133 (ninS ne1119 nin0)).keep K1208 ni1238
        have C1240 := ((P1060_5.ext E1094).keep K1133 (ninS ne1119 nin0)).keep K1208 ni1238
        have C1241 := ((P1060_6.ext E1094).keep K1133 (ninS ne1119 nin0)).keep K1208 ni1238
        have C1243 := P1133_8.keep K1208
        have ni1245 := (ninS ne1135.symm (ninS ne1139.symm (ninS D1133_0 (ninS D1133_1 nin0))))
        have C1244 := P1133_9.keep K1208 ni1245
        have C1246 := P1133_10.keep K1208 ni1245
        have C1247 := P1133_11.keep K1208 ni1245
        have ni1251 := (ninS ne1165.symm (ninS ne1169.symm (ninS D1133_5.symm (ninS D1133_7.symm nin0))))
        have Z1257 := Nat.le_trans Z1203 K1208.1
        have Z1258 := Nat.le_trans Z1204 K1208.1
        have RR1260 := RR1206.trans (CHr.keep K1208 (allS (Safe.exa hZ1060.alike C1188 (by decide) (by decide)) (allS (Safe.exa hZ1060.alike P1133_0 (by decide) (by decide)) (allS (Rbk.safe hZ1060.alike P1133_12) (allS (Safe.exa hZ1060.alike P1133_13 (by decide) (by decide)) all0)))) RR1206.1)
        refine Goes.on (T' := T1208) (g' := (mkF m 73 #[sI x0, sI x1, sJ x2, s2, sI x3, sJ x4, s2, sI x5, sR z1, sR yb8, sR ya1060, sR a1094, sI 1, su] [(.ref a1094)])) (fun _ k => XS.iload X1208.here hx rfl (dc at_66) rfl (XS.ifNo X1208.here hx rfl (dc at_68) rfl (XT.i0_eq_f (by decide)) (XS.aload X1208.here hx rfl (dc at_71) rfl rfl k))) ?_
        refine Goes.callV X1208 hx hZ1060 0 hown1060 (ow 223 rfl) (ow 224 rfl) (notFace_of_selects (args := #[]) (mvT hZ1060 (ow 226 rfl))) (ow 226 rfl) (ow 225 rfl) (ow 172 rfl) (ow 227 rfl) (by decide) rfl P1208_0 (rmEi2 l Z a0 hw a1094 ya1133 T1208.heap n0 Z1257  P1208_0 P1208_11 C1243 C1244 P1208_7 ) (by decide) (by decide) (by decide) (by decide) rfl (by rw [hml]; rfl) (argsL := []) (rest := []) rfl (lenOf pd_3 rfl) rfl (own_le20 rfl) (dc at_73) ?_
        rintro v1261 T1261 L1261 X1261 ⟨rfl, N1261q, e1261⟩
        show Goes p e below _ T1261 (mkF m 76 #[sI x0, sI x1, sJ x2, s2, sI x3, sJ x4, s2, sI x5, sR z1, sR yb8, sR ya1060, sR a1094, sI 1, su] [(.int 0)])
        refine Goes.on (T' := T1261) (g' := (mkF m 90 #[sI x0, sI x1, sJ x2, s2, sI x3, sJ x4, s2, sI x5, sR z1, sR yb8, sR ya1060, sR a1094, sI 1, su] [(.ref ya1060), (.ref a1094)])) (fun _ k => XS.ifNo X1261.here hx rfl (dc at_76) rfl (XT.i0_ne_f (by decide)) (XS.iconst X1261.here hx rfl (dc at_79) (XS.goto X1261.here hx rfl (pc0 := 80) (pc' := 84) rfl (dc at_80) (by decide) (by decide) (XS.istore X1261.here hx rfl (dc at_84) rfl (l' := #[sI x0, sI x1, sJ x2, s2, sI x3, sJ x4, s2, sI x5, sR z1, sR yb8, sR ya1060, sR a1094, sI 1, su]) rfl (XS.aload X1261.here hx rfl (dc at_86) rfl rfl (XS.aload X1261.here hx rfl (dc at_88) rfl rfl k)))))) ?_
        refine Goes.callV X1261 hx hZ1060 0 hown1060 (ow 230 rfl) (ow 231 rfl) (notFace_of_selects (args := #[]) (mvT hZ1060 (ow 233 rfl))) (ow 233 rfl) (ow 232 rfl) (ow 172 rfl) (ow 234 rfl) (by decide) e1261 P1208_0 (rmAm0 l Z a0 hw a1094 ya1060 ya1133 yb1060 em T1208.heap n0 Z1257  C1233 C1237 C1239 C1240 C1241 C1234 C1235 (Exa.ext C1224.2 EXE) (Fld.ext C1224.2 FE) P1208_0 P1208_11 C1243 C1244 C1246 C1247 ne1137 ne1119.symm ne1139 D1060_0.symm ne1138 ne1068 ne1142 G1069 G1143 ) (by decide) (by decide) (by decide) (by decide) rfl (by rw [hml]; rfl) (argsL := [(.ref ya1060)]) (rest := []) rfl (lenOf pd_29 rfl) rfl (own_le20 rfl) (dc at_90) ?_
        rintro v1262 T1262 L1262 X1262 ⟨rfl, N1262q, K1262, P1262_0, P1262_1, P1262_2, P1262_3, P1262_4, P1262_5, P1262_6, P1262_7, P1262_8⟩
        show Goes p e below _ T1262 (mkF m 93 #[sI x0, sI x1, sJ x2, s2, sI x3, sJ x4, s2, sI x5, sR z1, sR yb8, sR ya1060, sR a1094, sI 1, su] [])
        have C1264 := P1208_1.keep K1262
        have C1269 := P1208_0.keep K1262
        have C1272 := (P1133_15.keep K1208).keep K1262
        have ni1274 := (ninS ne1167.symm (ninS D1133_2.symm nin0))
        have C1273 := (P1133_16.keep K1208 ni1251).keep K1262 ni1274
        have ni1281 := (ninS ne1062 (ninS ne1135 nin0))
        have C1280 := P1208_2.keep K1262 ni1281
        have C1282 := P1208_3.keep K1262 ni1281
        have C1283 := P1208_4.keep K1262 ni1281
        have ni1285 := (ninS ne1119.symm (ninS ne1139 nin0))
        have C1286 := P1208_7.keep K1262 ni1285
        have C1287 := P1208_8.keep K1262 ni1285
        have C1288 := P1208_9.keep K1262 ni1285
        have C1290 := P1208_11.keep K1262 ni1285
        have C1291 := P1208_12.keep K1262 ni1285
        have ni1293 := (ninS ne1147.symm (ninS D1133_0.symm nin0))
        have C1292 := P1208_13.keep K1262 ni1293
        have C1296 := P1208_15.keep K1262
        have ni1298 := (ninS ne1212.symm (ninS ne1215.symm nin0))
        have C1297 := P1208_16.keep K1262 ni1298
        have C1299 := P1208_17.keep K1262 ni1298
        have C1300 := P1208_18.keep K1262 ni1298
        have Z1302 := Nat.le_trans Z1257 K1262.1
        have Z1303 := Nat.le_trans Z1258 K1262.1
        have RR1305 := RR1260.trans (CHr.keep K1262 (allS (Safe.exa hZ1060.alike C1233 (by decide) (by decide)) (allS (Safe.exa hZ1060.alike C1243 (by decide) (by decide)) all0)) RR1260.1)
        refine Goes.on (T' := T1262) (g' := (mkF m 100 #[sI x0, sI x1, sJ x2, s2, sI x3, sJ x4, s2, sI x5, sR z1, sR yb8, sR ya1060, sR a1094, sI 1, su] [(.ref a1094)])) (fun _ k => XS.iload X1262.here hx rfl (dc at_93) rfl (XS.ifNo X1262.here hx rfl (dc at_95) rfl (XT.i0_eq_f (by decide)) (XS.aload X1262.here hx rfl (dc at_98) rfl rfl k))) ?_
        refine Goes.callV X1262 hx hZ1060 0 hown1060 (ow 223 rfl) (ow 224 rfl) (notFace_of_selects (args := #[]) (mvT hZ1060 (ow 226 rfl))) (ow 226 rfl) (ow 225 rfl) (ow 172 rfl) (ow 227 rfl) (by decide) rfl C1269 (rmEiR l Z a0 hw a1094 ya1133 ya1060 T1262.heap n0 Z1302  C1269 C1290 P1262_5 P1262_6 ) (by decide) (by decide) (by decide) (by decide) rfl (by rw [hml]; rfl) (argsL := []) (rest := []) rfl (lenOf pd_3 rfl) rfl (own_le20 rfl) (dc at_100) ?_
        rintro v1306 T1306 L1306 X1306 ⟨rfl, N1306q, e1306⟩
        have N1306 := Fr.app (Fr.app (Fr.app (Fr.app (Fr.app (Fr.app (Fr.app N8 N1060q) N1133q) N1207q) N1208q) N1261q) N1262q) N1306q
        show Goes p e below _ T1306 (mkF m 103 #[sI x0, sI x1, sJ x2, s2, sI x3, sJ x4, s2, sI x5, sR z1, sR yb8, sR ya1060, sR a1094, sI 1, su] [(.int 0)])
        refine Goes.on (T' := T1306) (g' := (mkF m 120 #[sI x0, sI x1, sJ x2, s2, sI x3, sJ x4, s2, sI x5, sR z1, sR yb8, sR ya1060, sR a1094, sI 1, su] [(.int ((x5 &&& (2147483647 : Int32)) % (5 : Int32)))])) (fun _ k => XS.ifNo X1306.here hx rfl (dc at_103) rfl (XT.i0_ne_f (by decide)) (XS.iconst X1306.here hx rfl (dc at_106) (XS.goto X1306.here hx rfl (pc0 := 107) (pc' := 111) rfl (dc at_107) (by decide) (by decide) (XS.istore X1306.here hx rfl (dc at_111) rfl (l' := #[sI x0, sI x1, sJ x2, s2, sI x3, sJ x4, s2, sI x5, sR z1, sR yb8, sR ya1060, sR a1094, sI 1, su]) rfl (XS.iload X1306.here hx rfl (dc at_113) rfl (X1306.ldcInt hx hown1060 (mvT hZ1060 (ow 286 rfl)) (g := (mkF m 115 #[sI x0, sI x1, sJ x2, s2, sI x3, sJ x4, s2, sI x5, sR z1, sR yb8, sR ya1060, sR a1094, sI 1, su] [(.int x5)])) rfl (dc at_115) _ (XS.iand X1306.here hx rfl (dc at_117) rfl (XS.iconst X1306.here hx rfl (dc at_118) (iremM X1306 hx rfl (dc at_119) rfl (by decide) k))))))))) ?_
        generalize ((x5 &&& (2147483647 : Int32)) % (5 : Int32)) = md
        refine Goes.on (T' := T1306) (g' := (mkF m 125 #[sI x0, sI x1, sJ x2, s2, sI x3, sJ x4, s2, sI x5, sR z1, sR yb8, sR ya1060, sR a1094, sI 1, sI md] [(.int 1), (.int md)])) (fun _ k => XS.istore X1306.here hx rfl (dc at_120) rfl (l' := #[sI x0, sI x1, sJ x2, s2, sI x3, sJ x4, s2, sI x5, sR z1, sR yb8, sR ya1060, sR a1094, sI 1, sI md]) rfl (XS.iload X1306.here hx rfl (dc at_122) rfl (XS.iconst X1306.here hx rfl (dc at_124) k))) ?_
        by_cases hc1307 : md = (1 : Int32)
        · refine Goes.on (T' := T1306) (g' := (mkF m 132 #[sI x0, sI x1, sJ x2, s2, sI x3, sJ x4, s2, sI x5, sR z1, sR yb8, sR ya1060, sR a1094, sI 1, sI md] [(.ref yb8), (.ref a1094)])) (fun _ k => XS.icmpNo X1306.here hx rfl (dc at_125) rfl (XT.ii_ne_f hc1307) (XS.aload X1306.here hx rfl (dc at_128) rfl rfl (XS.aload X1306.here hx rfl (dc at_130) rfl rfl k))) ?_
          refine Goes.callV X1306 hx hZ1060 0 hown1060 (ow 287 rfl) (ow 288 rfl) (notFace_of_selects (args := #[]) (mvT hZ1060 (ow 290 rfl))) (ow 290 rfl) (ow 289 rfl) (ow 172 rfl) (ow 291 rfl) (by decide) e1306 C1269 (rmRL1 l Z a0 hw a1094 yb8 ya1133 yd1133 yb1133 ye1133 ya1208 T1262.heap n0 Z1302  C1264 C1280 C1282 C1283 C1296 C1297 C1299 C1300 C1269 C1290 C1286 C1291 C1287 C1288 C1272 C1273 C1292 ne1117.symm ne1214 ne1149 ne1210 ne1145 ne1135.symm ne1215 ne1139.symm D1133_0 ne1165.symm ne1218 ne1169.symm D1133_5.symm ne1216 ne1175.symm ne1219 ne1179.symm D1133_6.symm G20 G1223 G1094 G1153 ) (by decide) (by decide) (by decide) (by decide) rfl (by rw [hml]; rfl) (argsL := [(.ref yb8)]) (rest := []) rfl (lenOf pd_29 rfl) rfl (own_le20 rfl) (dc at_132) ?_
          rintro v1308 T1308 L1308 X1308 ⟨rfl, N1308q, K1308, P1308_0, P1308_1, P1308_2, P1308_3, P1308_4, P1308_5, P1308_6, P1308_7, P1308_8, P1308_9, P1308_10, P1308_11, P1308_12, P1308_13, P1308_14⟩
          show Goes p e below _ T1308 (mkF m 135 #[sI x0, sI x1, sJ x2, s2, sI x3, sJ x4, s2, sI x5, sR z1, sR yb8, sR ya1060, sR a1094, sI 1, sI md] [])
          have C1313 := P1262_5.keep K1308
          have ni1329 := (ninS ne1135.symm (ninS ne1215 (ninS ne1139.symm (ninS D1133_0 nin0))))
          have C1328 := P1262_6.keep K1308 ni1329
          have Z1332 := Nat.le_trans Z1302 K1308.1
          have Z1333 := Nat.le_trans Z1303 K1308.1
          have RR1335 := RR1305.trans (CHr.keep K1308 (allS (Safe.exa hZ1060.alike C1264 (by decide) (by decide)) (allS (Safe.exa hZ1060.alike C1296 (by decide) (by decide)) (allS (Safe.exa hZ1060.alike C1269 (by decide) (by decide)) (allS (Rbk.safe hZ1060.alike C1292) all0)))) RR1305.1)
          refine Goes.on (T' := T1308) (g' := (mkF m 142 #[sI x0, sI x1, sJ x2, s2, sI x3, sJ x4, s2, sI x5, sR z1, sR yb8, sR ya1060, sR a1094, sI 1, sI md] [(.ref a1094)])) (fun _ k => XS.iload X1308.here hx rfl (dc at_135) rfl (XS.ifNo X1308.here hx rfl (dc at_137) rfl (XT.i0_eq_f (by decide)) (XS.aload X1308.here hx rfl (dc at_140) rfl rfl k))) ?_
          refine Goes.callV X1308 hx hZ1060 0 hown1060 (ow 223 rfl) (ow 224 rfl) (notFace_of_selects (args := #[]) (mvT hZ1060 (ow 226 rfl))) (ow 226 rfl) (ow 225 rfl) (ow 172 rfl) (ow 227 rfl) (by decide) rfl P1308_8 (rmEiR l Z a0 hw a1094 ya1133 ya1060 T1308.heap n0 Z1332  P1308_8 P1308_9 C1313 C1328 ) (by decide) (by decide) (by decide) (by decide) rfl (by rw [hml]; rfl) (argsL := []) (rest := []) rfl (lenOf pd_3 rfl) rfl (own_le20 rfl) (dc at_142) ?_
          rintro v1336 T1336 L1336 X1336 ⟨rfl, N1336q, e1336⟩
          have N1336 := Fr.app (Fr.app N1306 N1308q) N1336q
          show Goes p e below _ T1336 (mkF m 145 #[sI x0, sI x1, sJ x2, s2, sI x3, sJ x4, s2, sI x5, sR z1, sR yb8, sR ya1060, sR a1094, sI 1, sI md] [(.int 0)])
          refine Goes.on (T' := T1336) (g' := (mkF m 319 #[sI x0, sI x1, sJ x2, s2, sI x3, sJ x4, s2, sI x5, sR z1, sR yb8, sR ya1060, sR a1094, sI 1, sI md] [(.int 1)])) (fun _ k => XS.ifNo X1336.here hx rfl (dc at_145) rfl (XT.i0_ne_f (by decide)) (XS.iconst X1336.here hx rfl (dc at_148) (XS.goto X1336.here hx rfl (pc0 := 149) (pc' := 153) rfl (dc at_149) (by decide) (by decide) (XS.istore X1336.here hx rfl (dc at_153) rfl (l' := #[sI x0, sI x1, sJ x2, s2, sI x3, sJ x4, s2, sI x5, sR z1, sR yb8, sR ya1060, sR a1094, sI 1, sI md]) rfl (XS.goto X1336.here hx rfl (pc0 := 155) (pc' := 317) rfl (dc at_155) (by decide) (by decide) (XS.iload X1336.here hx rfl (dc at_317) rfl k)))))) ?_
          exact Goes.retBW X1336 hS1060 (by rw [e1336]; exact Z1333) hZ1060 hEL (by rw [e1336]; exact RR1335) hx hlk hret (Or.inr rfl) (dc at_319) (by decide) (by decide) ⟨rfl, N1336⟩
        · refine Goes.on (T' := T1306) (g' := (mkF m 161 #[sI x0, sI x1, sJ x2, s2, sI x3, sJ x4, s2, sI x5, sR z1, sR yb8, sR ya1060, sR a1094, sI 1, sI md] [(.int 2), (.int md)])) (fun _ k => XS.icmpYes X1306.here hx rfl (pc0 := 125) (pc' := 158) rfl (dc at_125) rfl (XT.ii_ne_t hc1307) (by decide) (by decide) (XS.iload X1306.here hx rfl (dc at_158) rfl (XS.iconst X1306.here hx rfl (dc at_160) k))) ?_
          by_cases hc1337 : md = (2 : Int32)
          · refine Goes.on (T' := T1306) (g' := (mkF m 168 #[sI x0, sI x1, sJ x2, s2, sI x3, sJ x4, s2, sI x5, sR z1, sR yb8, sR ya1060, sR a1094, sI 1, sI md] [(.ref ya1060), (.ref a1094)])) (fun _ k => XS.icmpNo X1306.here hx rfl (dc at_161) rfl (XT.ii_ne_f hc1337) (XS.aload X1306.here hx rfl (dc at_164) rfl rfl (XS.aload X1306.here hx rfl (dc at_166) rfl rfl k))) ?_
            refine Goes.callV X1306 hx hZ1060 0 hown1060 (ow 287 rfl) (ow 288 rfl) (notFace_of_selects (args := #[]) (mvT hZ1060 (ow 290 rfl))) (ow 290 rfl) (ow 289 rfl) (ow 172 rfl) (ow 291 rfl) (by decide) e1306 C1269 (rmRM1 l Z a0 hw a1094 ya1060 ya1133 T1262.heap n0 Z1302  P1262_0 P1262_1 P1262_2 P1262_3 P1262_5 P1262_6 P1262_7 P1262_8 C1269 C1290 ne1119.symm ne1139 ne1137 G1069 G1143 ) (by decide) (by decide) (by decide) (by decide) rfl (by rw [hml]; rfl) (argsL := [(.ref ya1060)]) (rest := []) rfl (lenOf pd_29 rfl) rfl (own_le20 rfl) (dc at_168) ?_
            rintro v1338 T1338 L1338 X1338 ⟨rfl, N1338q, K1338, P1338_0, P1338_1, P1338_2, P1338_3, P1338_4, P1338_5, P1338_6, P1338_7⟩
            show Goes p e below _ T1338 (mkF m 171 #[sI x0, sI x1, sJ x2, s2, sI x3, sJ x4, s2, sI x5, sR z1, sR yb8, sR ya1060, sR a1094, sI 1, sI md] [])
            have C1342 := C1269.keep K1338
            have ni1358 := (ninS ne1119.symm (ninS ne1139 nin0))
            have C1357 := C1286.keep K1338 ni1358
            have C1361 := C1290.keep K1338 ni1358
            have Z1371 := Nat.le_trans Z1302 K1338.1
            have Z1372 := Nat.le_trans Z1303 K1338.1
            have RR1374 := RR1305.trans (CHr.keep K1338 (allS (Safe.exa hZ1060.alike P1262_0 (by decide) (by decide)) (allS (Safe.exa hZ1060.alike P1262_5 (by decide) (by decide)) all0)) RR1305.1)
            refine Goes.on (T' := T1338) (g' := (mkF m 178 #[sI x0, sI x1, sJ x2, s2, sI x3, sJ x4, s2, sI x5, sR z1, sR yb8, sR ya1060, sR a1094, sI 1, sI md] [(.ref a1094)])) (fun _ k => XS.iload X1338.here hx rfl (dc at_171) rfl (XS.ifNo X1338.here hx rfl (dc at_173) rfl (XT.i0_eq_f (by decide)) (XS.aload X1338.here hx rfl (dc at_176) rfl rfl k))) ?_
            refine Goes.callV X1338 hx hZ1060 0 hown1060 (ow 223 rfl) (ow 224 rfl) (notFace_of_selects (args := #[]) (mvT hZ1060 (ow 226 rfl))) (ow 226 rfl) (ow 225 rfl) (ow 172 rfl) (ow 227 rfl) (by decide) rfl C1342 (rmEi2 l Z a0 hw a1094 ya1133 T1338.heap n0 Z1371  C1342 C1361 P1338_4 P1338_5 C1357 ) (by decide) (by decide) (by decide) (by decide) rfl (by rw [hml]; rfl) (argsL := []) (rest := []) rfl (lenOf pd_3 rfl) rfl (own_le20 rfl) (dc at_178) ?_
            rintro v1375 T1375 L1375 X1375 ⟨rfl, N1375q, e1375⟩
            have N1375 := Fr.app (Fr.app N1306 N1338q) N1375q
            show Goes p e below _ T1375 (mkF m 181 #[sI x0, sI x1, sJ x2, s2, sI x3, sJ x4, s2, sI x5, sR z1, sR yb8, sR ya1060, sR a1094, sI 1, sI md] [(.int 0)])
            refine Goes.on (T' := T1375) (g' := (mkF m 319 #[sI x0, sI x1, sJ x2, s2, sI x3, sJ x4, s2, sI x5, sR z1, sR yb8, sR ya1060, sR a1094, sI 1, sI md] [(.int 1)])) (fun _ k => XS.ifNo X1375.here hx rfl (dc at_181) rfl (XT.i0_ne_f (by decide)) (XS.iconst X1375.here hx rfl (dc at_184) (XS.goto X1375.here hx rfl (pc0 := 185) (pc' := 189) rfl (dc at_185) (by decide) (by decide) (XS.istore X1375.here hx rfl (dc at_189) rfl (l' := #[sI x0, sI x1, sJ x2, s2, sI x3, sJ x4, s2, sI x5, sR z1, sR yb8, sR ya1060, sR a1094, sI 1, sI md]) rfl (XS.goto X1375.here hx rfl (pc0 := 191) (pc' := 317) rfl (dc at_191) (by decide) (by decide) (XS.iload X1375.here hx rfl (dc at_317) rfl k)))))) ?_
            exact Goes.retBW X1375 hS1060 (by rw [e1375]; exact Z1372) hZ1060 hEL (by rw [e1375]; exact RR1374) hx hlk hret (Or.inr rfl) (dc at_319) (by decide) (by decide) ⟨rfl, N1375⟩
          · refine Goes.on (T' := T1306) (g' := (mkF m 197 #[sI x0, sI x1, sJ x2, s2, sI x3, sJ x4, s2, sI x5, sR z1, sR yb8, sR ya1060, sR a1094, sI 1, sI md] [(.int 3), (.int md)])) (fun _ k => XS.icmpYes X1306.here hx rfl (pc0 := 161) (pc' := 194) rfl (dc at_161) rfl (XT.ii_ne_t hc1337) (by decide) (by decide) (XS.iload X1306.here hx rfl (dc at_194) rfl (XS.iconst X1306.here hx rfl (dc at_196) k))) ?_
            by_cases hc1376 : md = (3 : Int32)
            · refine Goes.on (T' := T1306) (g' := (mkF m 204 #[sI x0, sI x1, sJ x2, s2, sI x3, sJ x4, s2, sI x5, sR z1, sR yb8, sR ya1060, sR a1094, sI 1, sI md] [(.ref yb8), (.ref a1094)])) (fun _ k => XS.icmpNo X1306.here hx rfl (dc at_197) rfl (XT.ii_ne_f hc1376) (XS.aload X1306.here hx rfl (dc at_200) rfl rfl (XS.aload X1306.here hx rfl (dc at_202) rfl rfl k))) ?_
              refine Goes.callV X1306 hx hZ1060 0 hown1060 (ow 287 rfl) (ow 288 rfl) (notFace_of_selects (args := #[]) (mvT hZ1060 (ow 290 rfl))) (ow 290 rfl) (ow 289 rfl) (ow 172 rfl) (ow 291 rfl) (by decide) e1306 C1269 (rmRL1 l Z a0 hw a1094 yb8 ya1133 yd1133 yb1133 ye1133 ya1208 T1262.heap n0 Z1302  C1264 C1280 C1282 C1283 C1296 C1297 C1299 C1300 C1269 C1290 C1286 C1291 C1287 C1288 C1272 C1273 C1292 ne1117.symm ne1214 ne1149 ne1210 ne1145 ne1135.symm ne1215 ne1139.symm D1133_0 ne1165.symm ne1218 ne1169.symm D1133_5.symm ne1216 ne1175.symm ne1219 ne1179.symm D1133_6.symm G20 G1223 G1094 G1153 ) (by decide) (by decide) (by decide) (by decide) rfl (by rw [hml]; rfl) (argsL := [(.ref yb8)]) (rest := []) rfl (lenOf pd_29 rfl) rfl (own_le20 rfl) (dc at_204) ?_
              rintro v1377 T1377 L1377 X1377 ⟨rfl, N1377q, K1377, P1377_0, P1377_1, P1377_2, P1377_3, P1377_4, P1377_5, P1377_6, P1377_7, P1377_8, P1377_9, P1377_10, P1377_11, P1377_12, P1377_13, P1377_14⟩
              show Goes p e below _ T1377 (mkF m 207 #[sI x0, sI x1, sJ x2, s2, sI x3, sJ x4, s2, sI x5, sR z1, sR yb8, sR ya1060, sR a1094, sI 1, sI md] [])
              have C1380 := P1262_0.keep K1377
              have C1382 := P1262_5.keep K1377
              have ni1394 := (ninS ne1062.symm (ninS ne1212 (ninS ne1119 (ninS ne1147 nin0))))
              have C1393 := P1262_1.keep K1377 ni1394
              have C1395 := P1262_2.keep K1377 ni1394
              have C1396 := P1262_3.keep K1377 ni1394
              have ni1398 := (ninS ne1135.symm (ninS ne1215 (ninS ne1139.symm (ninS D1133_0 nin0))))
              have C1397 := P1262_6.keep K1377 ni1398
              have C1399 := P1262_7.keep K1377 ni1398
              have C1400 := P1262_8.keep K1377 ni1398
              have Z1401 := Nat.le_trans Z1302 K1377.1
              have Z1402 := Nat.le_trans Z1303 K1377.1
              have RR1404 := RR1305.trans (CHr.keep K1377 (allS (Safe.exa hZ1060.alike C1264 (by decide) (by decide)) (allS (Safe.exa hZ1060.alike C1296 (by decide) (by decide)) (allS (Safe.exa hZ1060.alike C1269 (by decide) (by decide)) (allS (Rbk.safe hZ1060.alike C1292) all0)))) RR1305.1)
              refine Goes.on (T' := T1377) (g' := (mkF m 214 #[sI x0, sI x1, sJ x2, s2, sI x3, sJ x4, s2, sI x5, sR z1, sR yb8, sR ya1060, sR a1094, sI 1, sI md] [(.ref a1094)])) (fun _ k => XS.iload X1377.here hx rfl (dc at_207) rfl (XS.ifNo X1377.here hx rfl (dc at_209) rfl (XT.i0_eq_f (by decide)) (XS.aload X1377.here hx rfl (dc at_212) rfl rfl k))) ?_
              refine Goes.callV X1377 hx hZ1060 0 hown1060 (ow 223 rfl) (ow 224 rfl) (notFace_of_selects (args := #[]) (mvT hZ1060 (ow 226 rfl))) (ow 226 rfl) (ow 225 rfl) (ow 172 rfl) (ow 227 rfl) (by decide) rfl P1377_8 (rmEiR l Z a0 hw a1094 ya1133 ya1060 T1377.heap n0 Z1401  P1377_8 P1377_9 C1382 C1397 ) (by decide) (by decide) (by decide) (by decide) rfl (by rw [hml]; rfl) (argsL := []) (rest := []) rfl (lenOf pd_3 rfl) rfl (own_le20 rfl) (dc at_214) ?_
              rintro v1405 T1405 L1405 X1405 ⟨rfl, N1405q, e1405⟩
              show Goes p e below _ T1405 (mkF m 217 #[sI x0, sI x1, sJ x2, s2, sI x3, sJ x4, s2, sI x5, sR z1, sR yb8, sR ya1060, sR a1094, sI 1, sI md] [(.int 0)])
              refine Goes.on (T' := T1405) (g' := (mkF m 231 #[sI x0, sI x1, sJ x2, s2, sI x3, sJ x4, s2, sI x5, sR z1, sR yb8, sR ya1060, sR a1094, sI 1, sI md] [(.ref ya1060), (.ref a1094)])) (fun _ k => XS.ifNo X1405.here hx rfl (dc at_217) rfl (XT.i0_ne_f (by decide)) (XS.iconst X1405.here hx rfl (dc at_220) (XS.goto X1405.here hx rfl (pc0 := 221) (pc' := 225) rfl (dc at_221) (by decide) (by decide) (XS.istore X1405.here hx rfl (dc at_225) rfl (l' := #[sI x0, sI x1, sJ x2, s2, sI x3, sJ x4, s2, sI x5, sR z1, sR yb8, sR ya1060, sR a1094, sI 1, sI md]) rfl (XS.aload X1405.here hx rfl (dc at_227) rfl rfl (XS.aload X1405.here hx rfl (dc at_229) rfl rfl k)))))) ?_
              refine Goes.callV X1405 hx hZ1060 0 hown1060 (ow 287 rfl) (ow 288 rfl) (notFace_of_selects (args := #[]) (mvT hZ1060 (ow 290 rfl))) (ow 290 rfl) (ow 289 rfl) (ow 172 rfl) (ow 291 rfl) (by decide) e1405 P1377_8 (rmRM1 l Z a0 hw a1094 ya1060 ya1133 T1377.heap n0 Z1401  C1380 C1393 C1395 C1396 C1382 C1397 C1399 C1400 P1377_8 P1377_9 ne1119.symm ne1139 ne1137 G1069 G1143 ) (by decide) (by decide) (by decide) (by decide) rfl (by rw [hml]; rfl) (argsL := [(.ref ya1060)]) (rest := []) rfl (lenOf pd_29 rfl) rfl (own_le20 rfl) (dc at_231) ?_
              rintro v1406 T1406 L1406 X1406 ⟨rfl, N1406q, K1406, P1406_0, P1406_1, P1406_2, P1406_3, P1406_4, P1406_5, P1406_6, P1406_7⟩
              show Goes p e below _ T1406 (mkF m 234 #[sI x0, sI x1, sJ x2, s2, sI x3, sJ x4, s2, sI x5, sR z1, sR yb8, sR ya1060, sR a1094, sI 1, sI md] [])
              have C1410 := P1377_8.keep K1406
              have ni1431 := (ninS ne1119.symm (ninS ne1139 nin0))
              have C1430 := P1377_9.keep K1406 ni1431
              have C1432 := P1377_10.keep K1406 ni1431
              have Z1438 := Nat.le_trans Z1401 K1406.1
              have Z1439 := Nat.le_trans Z1402 K1406.1
              have RR1441 := RR1404.trans (CHr.keep K1406 (allS (Safe.exa hZ1060.alike C1380 (by decide) (by decide)) (allS (Safe.exa hZ1060.alike C1382 (by decide) (by decide)) all0)) RR1404.1)
              refine Goes.on (T' := T1406) (g' := (mkF m 241 #[sI x0, sI x1, sJ x2, s2, sI x3, sJ x4, s2, sI x5, sR z1, sR yb8, sR ya1060, sR a1094, sI 1, sI md] [(.ref a1094)])) (fun _ k => XS.iload X1406.here hx rfl (dc at_234) rfl (XS.ifNo X1406.here hx rfl (dc at_236) rfl (XT.i0_eq_f (by decide)) (XS.aload X1406.here hx rfl (dc at_239) rfl rfl k))) ?_
              refine Goes.callV X1406 hx hZ1060 0 hown1060 (ow 223 rfl) (ow 224 rfl) (notFace_of_selects (args := #[]) (mvT hZ1060 (ow 226 rfl))) (ow 226 rfl) (ow 225 rfl) (ow 172 rfl) (ow 227 rfl) (by decide) rfl C1410 (rmEi1 l Z a0 hw a1094 ya1133 T1406.heap n0 Z1438  C1410 C1430 P1406_4 P1406_5 C1432 ) (by decide) (by decide) (by decide) (by decide) rfl (by rw [hml]; rfl) (argsL := []) (rest := []) rfl (lenOf pd_3 rfl) rfl (own_le20 rfl) (dc at_241) ?_
              rintro v1442 T1442 L1442 X1442 ⟨rfl, N1442q, e1442⟩
              have N1442 := Fr.app (Fr.app (Fr.app (Fr.app N1306 N1377q) N1405q) N1406q) N1442q
              show Goes p e below _ T1442 (mkF m 244 #[sI x0, sI x1, sJ x2, s2, sI x3, sJ x4, s2, sI x5, sR z1, sR yb8, sR ya1060, sR a1094, sI 1, sI md] [(.int 1)])
              refine Goes.on (T' := T1442) (g' := (mkF m 319 #[sI x0, sI x1, sJ x2, s2, sI x3, sJ x4, s2, sI x5, sR z1, sR yb8, sR ya1060, sR a1094, sI 1, sI md] [(.int 1)])) (fun _ k => XS.ifNo X1442.here hx rfl (dc at_244) rfl (XT.i0_eq_f (by decide)) (XS.iconst X1442.here hx rfl (dc at_247) (XS.goto X1442.here hx rfl (pc0 := 248) (pc' := 252) rfl (dc at_248) (by decide) (by decide) (XS.istore X1442.here hx rfl (dc at_252) rfl (l' := #[sI x0, sI x1, sJ x2, s2, sI x3, sJ x4, s2, sI x5, sR z1, sR yb8, sR ya1060, sR a1094, sI 1, sI md]) rfl (XS.goto X1442.here hx rfl (pc0 := 254) (pc' := 317) rfl (dc at_254) (by decide) (by decide) (XS.iload X1442.here hx rfl (dc at_317) rfl k)))))) ?_
              exact Goes.retBW X1442 hS1060 (by rw [e1442]; exact Z1439) hZ1060 hEL (by rw [e1442]; exact RR1441) hx hlk hret (Or.inr rfl) (dc at_319) (by decide) (by decide) ⟨rfl, N1442⟩
            · refine Goes.on (T' := T1306) (g' := (mkF m 260 #[sI x0, sI x1, sJ x2, s2, sI x3, sJ x4, s2, sI x5, sR z1, sR yb8, sR ya1060, sR a1094, sI 1, sI md] [(.int 4), (.int md)])) (fun _ k => XS.icmpYes X1306.here hx rfl (pc0 := 197) (pc' := 257) rfl (dc at_197) rfl (XT.ii_ne_t hc1376) (by decide) (by decide) (XS.iload X1306.here hx rfl (dc at_257) rfl (XS.iconst X1306.here hx rfl (dc at_259) k))) ?_
              by_cases hc1443 : md = (4 : Int32)
              · refine Goes.on (T' := T1306) (g' := (mkF m 267 #[sI x0, sI x1, sJ x2, s2, sI x3, sJ x4, s2, sI x5, sR z1, sR yb8, sR ya1060, sR a1094, sI 1, sI md] [(.ref ya1060), (.ref a1094)])) (fun _ k => XS.icmpNo X1306.here hx rfl (dc at_260) rfl (XT.ii_ne_f hc1443) (XS.aload X1306.here hx rfl (dc at_263) rfl rfl (XS.aload X1306.here hx rfl (dc at_265) rfl rfl k))) ?_
                refine Goes.callV X1306 hx hZ1060 0 hown1060 (ow 287 rfl) (ow 288 rfl) (notFace_of_selects (args := #[]) (mvT hZ1060 (ow 290 rfl))) (ow 290 rfl) (ow 289 rfl) (ow 172 rfl) (ow 291 rfl) (by decide) e1306 C1269 (rmRM1 l Z a0 hw a1094 ya1060 ya1133 T1262.heap n0 Z1302  P1262_0 P1262_1 P1262_2 P1262_3 P1262_5 P1262_6 P1262_7 P1262_8 C1269 C1290 ne1119.symm ne1139 ne1137 G1069 G1143 ) (by decide) (by decide) (by decide) (by decide) rfl (by rw [hml]; rfl) (argsL := [(.ref ya1060)]) (rest := []) rfl (lenOf pd_29 rfl) rfl (own_le20 rfl) (dc at_267) ?_
                rintro v1444 T1444 L1444 X1444 ⟨rfl, N1444q, K1444, P1444_0, P1444_1, P1444_2, P1444_3, P1444_4, P1444_5, P1444_6, P1444_7⟩
                show Goes p e below _ T1444 (mkF m 270 #[sI x0, sI x1, sJ x2, s2, sI x3, sJ x4, s2, sI x5, sR z1, sR yb8, sR ya1060, sR a1094, sI 1, sI md] [])
                have C1446 := C1264.keep K1444
                have C1448 := C1269.keep K1444
                have C1451 := C1272.keep K1444
                have ni1453 := (ninS ne1167.symm (ninS D1133_2.symm nin0))
                have C1452 := C1273.keep K1444 ni1453
                have ni1460 := (ninS ne1062 (ninS ne1135 nin0))
                have C1459 := C1280.keep K1444 ni1460
                have C1461 := C1282.keep K1444 ni1460
                have C1462 := C1283.keep K1444 ni1460
                have ni1464 := (ninS ne1119.symm (ninS ne1139 nin0))
                have C1463 := C1286.keep K1444 ni1464
                have C1465 := C1287.keep K1444 ni1464
                have C1466 := C1288.keep K1444 ni1464
                have C1467 := C1290.keep K1444 ni1464
                have C1468 := C1291.keep K1444 ni1464
                have ni1470 := (ninS ne1147.symm (ninS D1133_0.symm nin0))
                have C1469 := C1292.keep K1444 ni1470
                have C1471 := C1296.keep K1444
                have ni1473 := (ninS ne1212.symm (ninS ne1215.symm nin0))
                have C1472 := C1297.keep K1444 ni1473
                have C1474 := C1299.keep K1444 ni1473
                have C1475 := C1300.keep K1444 ni1473
                have Z1477 := Nat.le_trans Z1302 K1444.1
                have Z1478 := Nat.le_trans Z1303 K1444.1
                have RR1480 := RR1305.trans (CHr.keep K1444 (allS (Safe.exa hZ1060.alike P1262_0 (by decide) (by decide)) (allS (Safe.exa hZ1060.alike P1262_5 (by decide) (by decide)) all0)) RR1305.1)
                refine Goes.on (T' := T1444) (g' := (mkF m 277 #[sI x0, sI x1, sJ x2, s2, sI x3, sJ x4, s2, sI x5, sR z1, sR yb8, sR ya1060, sR a1094, sI 1, sI md] [(.ref a1094)])) (fun _ k => XS.iload X1444.here hx rfl (dc at_270) rfl (XS.ifNo X1444.here hx rfl (dc at_272) rfl (XT.i0_eq_f (by decide)) (XS.aload X1444.here hx rfl (dc at_275) rfl rfl k))) ?_
                refine Goes.callV X1444 hx hZ1060 0 hown1060 (ow 223 rfl) (ow 224 rfl) (notFace_of_selects (args := #[]) (mvT hZ1060 (ow 226 rfl))) (ow 226 rfl) (ow 225 rfl) (ow 172 rfl) (ow 227 rfl) (by decide) rfl C1448 (rmEi2 l Z a0 hw a1094 ya1133 T1444.heap n0 Z1477  C1448 C1467 P1444_4 P1444_5 C1463 ) (by decide) (by decide) (by decide) (by decide) rfl (by rw [hml]; rfl) (argsL := []) (rest := []) rfl (lenOf pd_3 rfl) rfl (own_le20 rfl) (dc at_277) ?_
                rintro v1481 T1481 L1481 X1481 ⟨rfl, N1481q, e1481⟩
                show Goes p e below _ T1481 (mkF m 280 #[sI x0, sI x1, sJ x2, s2, sI x3, sJ x4, s2, sI x5, sR z1, sR yb8, sR ya1060, sR a1094, sI 1, sI md] [(.int 0)])
                refine Goes.on (T' := T1481) (g' := (mkF m 294 #[sI x0, sI x1, sJ x2, s2, sI x3, sJ x4, s2, sI x5, sR z1, sR yb8, sR ya1060, sR a1094, sI 1, sI md] [(.ref yb8), (.ref a1094)])) (fun _ k => XS.ifNo X1481.here hx rfl (dc at_280) rfl (XT.i0_ne_f (by decide)) (XS.iconst X1481.here hx rfl (dc at_283) (XS.goto X1481.here hx rfl (pc0 := 284) (pc' := 288) rfl (dc at_284) (by decide) (by decide) (XS.istore X1481.here hx rfl (dc at_288) rfl (l' := #[sI x0, sI x1, sJ x2, s2, sI x3, sJ x4, s2, sI x5, sR z1, sR yb8, sR ya1060, sR a1094, sI 1, sI md]) rfl (XS.aload X1481.here hx rfl (dc at_290) rfl rfl (XS.aload X1481.here hx rfl (dc at_292) rfl rfl k)))))) ?_
                refine Goes.callV X1481 hx hZ1060 0 hown1060 (ow 287 rfl) (ow 288 rfl) (notFace_of_selects (args := #[]) (mvT hZ1060 (ow 290 rfl))) (ow 290 rfl) (ow 289 rfl) (ow 172 rfl) (ow 291 rfl) (by decide) e1481 C1448 (rmRL1 l Z a0 hw a1094 yb8 ya1133 yd1133 yb1133 ye1133 ya1208 T1444.heap n0 Z1477  C1446 C1459 C1461 C1462 C1471 C1472 C1474 C1475 C1448 C1467 C1463 C1468 C1465 C1466 C1451 C1452 C1469 ne1117.symm ne1214 ne1149 ne1210 ne1145 ne1135.symm ne1215 ne1139.symm D1133_0 ne1165.symm ne1218 ne1169.symm D1133_5.symm ne1216 ne1175.symm ne1219 ne1179.symm D1133_6.symm G20 G1223 G1094 G1153 ) (by decide) (by decide) (by decide) (by decide) rfl (by rw [hml]; rfl) (argsL := [(.ref yb8)]) (rest := []) rfl (lenOf pd_29 rfl) rfl (own_le20 rfl) (dc at_294) ?_
                rintro v1482 T1482 L1482 X1482 ⟨rfl, N1482q, K1482, P1482_0, P1482_1, P1482_2, P1482_3, P1482_4, P1482_5, P1482_6, P1482_7, P1482_8, P1482_9, P1482_10, P1482_11, P1482_12, P1482_13, P1482_14⟩
                show Goes p e below _ T1482 (mkF m 297 #[sI x0, sI x1, sJ x2, s2, sI x3, sJ x4, s2, sI x5, sR z1, sR yb8, sR ya1060, sR a1094, sI 1, sI md] [])
                have C1487 := P1444_4.keep K1482
                have ni1503 := (ninS ne1135.symm (ninS ne1215 (ninS ne1139.symm (ninS D1133_0 nin0))))
                have C1502 := P1444_5.keep K1482 ni1503
                have Z1506 := Nat.le_trans Z1477 K1482.1
                have Z1507 := Nat.le_trans Z1478 K1482.1
                have RR1509 := RR1480.trans (CHr.keep K1482 (allS (Safe.exa hZ1060.alike C1446 (by decide) (by decide)) (allS (Safe.exa hZ1060.alike C1471 (by decide) (by decide)) (allS (Safe.exa hZ1060.alike C1448 (by decide) (by decide)) (allS (Rbk.safe hZ1060.alike C1469) all0)))) RR1480.1)
                refine Goes.on (T' := T1482) (g' := (mkF m 304 #[sI x0, sI x1, sJ x2, s2, sI x3, sJ x4, s2, sI x5, sR z1, sR yb8, sR ya1060, sR a1094, sI 1, sI md] [(.ref a1094)])) (fun _ k => XS.iload X1482.here hx rfl (dc at_297) rfl (XS.ifNo X1482.here hx rfl (dc at_299) rfl (XT.i0_eq_f (by decide)) (XS.aload X1482.here hx rfl (dc at_302) rfl rfl k))) ?_
                refine Goes.callV X1482 hx hZ1060 0 hown1060 (ow 223 rfl) (ow 224 rfl) (notFace_of_selects (args := #[]) (mvT hZ1060 (ow 226 rfl))) (ow 226 rfl) (ow 225 rfl) (ow 172 rfl) (ow 227 rfl) (by decide) rfl P1482_8 (rmEi1 l Z a0 hw a1094 ya1133 T1482.heap n0 Z1506  P1482_8 P1482_9 C1487 C1502 P1482_10 ) (by decide) (by decide) (by decide) (by decide) rfl (by rw [hml]; rfl) (argsL := []) (rest := []) rfl (lenOf pd_3 rfl) rfl (own_le20 rfl) (dc at_304) ?_
                rintro v1510 T1510 L1510 X1510 ⟨rfl, N1510q, e1510⟩
                have N1510 := Fr.app (Fr.app (Fr.app (Fr.app N1306 N1444q) N1481q) N1482q) N1510q
                show Goes p e below _ T1510 (mkF m 307 #[sI x0, sI x1, sJ x2, s2, sI x3, sJ x4, s2, sI x5, sR z1, sR yb8, sR ya1060, sR a1094, sI 1, sI md] [(.int 1)])
                refine Goes.on (T' := T1510) (g' := (mkF m 319 #[sI x0, sI x1, sJ x2, s2, sI x3, sJ x4, s2, sI x5, sR z1, sR yb8, sR ya1060, sR a1094, sI 1, sI md] [(.int 1)])) (fun _ k => XS.ifNo X1510.here hx rfl (dc at_307) rfl (XT.i0_eq_f (by decide)) (XS.iconst X1510.here hx rfl (dc at_310) (XS.goto X1510.here hx rfl (pc0 := 311) (pc' := 315) rfl (dc at_311) (by decide) (by decide) (XS.istore X1510.here hx rfl (dc at_315) rfl (l' := #[sI x0, sI x1, sJ x2, s2, sI x3, sJ x4, s2, sI x5, sR z1, sR yb8, sR ya1060, sR a1094, sI 1, sI md]) rfl (XS.iload X1510.here hx rfl (dc at_317) rfl k))))) ?_
                exact Goes.retBW X1510 hS1060 (by rw [e1510]; exact Z1507) hZ1060 hEL (by rw [e1510]; exact RR1509) hx hlk hret (Or.inr rfl) (dc at_319) (by decide) (by decide) ⟨rfl, N1510⟩
              · refine Goes.on (T' := T1306) (g' := (mkF m 319 #[sI x0, sI x1, sJ x2, s2, sI x3, sJ x4, s2, sI x5, sR z1, sR yb8, sR ya1060, sR a1094, sI 1, sI md] [(.int 1)])) (fun _ k => XS.icmpYes X1306.here hx rfl (pc0 := 260) (pc' := 317) rfl (dc at_260) rfl (XT.ii_ne_t hc1443) (by decide) (by decide) (XS.iload X1306.here hx rfl (dc at_317) rfl k)) ?_
                exact Goes.retBW X1306 hS1060 (by rw [e1306]; exact Z1303) hZ1060 hEL (by rw [e1306]; exact RR1305) hx hlk hret (Or.inr rfl) (dc at_319) (by decide) (by decide) ⟨rfl, N1306⟩
    · refine Goes.callSW X2 hx hZ2 hS2 hk2 hEL RR2.1 0 hown2 (ow 11 rfl) (ow 12 rfl) (ow 13 rfl) (ow 14 rfl) (by decide) e2 (rmRsM l Z a0 hw a2 z1 b2 kb2 (97 : Int32) x1 x2 h2 n0 Z4 C3 cs SC hcs sf SF hsf ic SI icf IC hic97 hic98 hEL em SE EXE FE Q2 (Or.inl rfl) hc7) (by decide) (by decide) (by decide) (by decide) rfl (by rw [hml]; rfl) (argsL := [(.ref a2), (.ref z1), (.int x1), (.long x2)]) (rest := []) rfl (lenOf pd_27 rfl) rfl (own_le20 rfl) (dc at_23) ?_
      intro v1511 T1511 L1511 k1511 X1511 hS1511 hk1511 hZ1511 hown1511 R1511 hQ1511
      obtain ⟨ya1511, yb1511, rfl, N1511q, K1511, P1511_0, P1511_1, P1511_2, P1511_3, P1511_4, P1511_5, P1511_6, M1511_0, M1511_1, D1511_0⟩ := hQ1511
      have N1511 := Fr.app N0 N1511q
      show Goes p e below _ T1511 (mkF m 26 #[sI x0, sI x1, sJ x2, s2, sI x3, sJ x4, s2, sI x5, sR z1, su, su, su, su, su] [(.ref ya1511)])
      have RR1511 := RR2.trans R1511
      have ne1516 := own_neL (Exa.lt (Exa.ext C3.2 EXE)) M1511_0
      have G1517 : n0 ≤ ya1511 := Nat.le_trans Z4 M1511_0
      have Z1526 := Nat.le_trans Z4 K1511.1
      obtain ⟨a1529, T1529, h1529, k1529, b1529, kb1529, X1529, e1529, E1529, hS1529, hk1529, hZ1529, hown1529, A1529, C1529, V1529, K1529, lt1529, lu1529, R1529, Lt1529, sf1529, st1529⟩ := ldcCH X1511 hx hZ1511 hown1511 (ow 135 rfl) wS rfl hS1511 hk1511 hEL (List.mem_of_getElem? (i := 1) rfl) RR1511.1 (vs := [Value.int 98]) (z := Int32.ofNat 1) ⟨by decide, by decide⟩ (by decide) (by decide) (g := (mkF m 28 #[sI x0, sI x1, sJ x2, s2, sI x3, sJ x4, s2, sI x5, sR z1, sR ya1511, su, su, su, su] [])) rfl (dc at_28) (n := 4) (by decide) (by decide) (by decide) (by decide)
      have C1530 := (C3.keep K1511 all0).ext E1529
      have C1531 := P1511_0.ext E1529
      have C1532 := P1511_1.ext E1529
      have C1533 := P1511_2.ext E1529
      have C1534 := P1511_3.ext E1529
      have C1535 := P1511_4.ext E1529
      have C1536 := P1511_5.ext E1529
      have C1537 := P1511_6.ext E1529
      have Z1538 := Nat.le_trans Z1526 E1529.1
      have RR1529 := RR1511.trans R1529
      have Q1529 : Str Z h1529 a1529 b1529 kb1529 (Int32.ofNat 1) [Value.int 98] := ⟨A1529, C1529, V1529, K1529⟩
      refine Goes.on (T' := T1529) (g' := (mkF m 36 #[sI x0, sI x1, sJ x2, s2, sI x3, sJ x4, s2, sI x5, sR z1, sR ya1511, su, su, su, su] [(.long x4), (.int x3), (.ref z1), (.ref a1529)])) (fun _ k => XS.astore X1511.here hx rfl (dc at_26) rfl rfl (l' := #[sI x0, sI x1, sJ x2, s2, sI x3, sJ x4, s2, sI x5, sR z1, sR ya1511, su, su, su, su]) rfl (st1529 _ (XS.aload X1529.here hx rfl (dc at_30) rfl rfl (XS.iload X1529.here hx rfl (dc at_32) rfl (XS.lload X1529.here hx rfl (dc at_34) rfl k))))) ?_
      by_cases hc1541 : (x3 &&& (1 : Int32)) = (0 : Int32)
      · refine Goes.callSW X1529 hx hZ1529 hS1529 hk1529 hEL RR1529.1 0 hown1529 (ow 11 rfl) (ow 12 rfl) (ow 13 rfl) (ow 14 rfl) (by decide) e1529 (rmRsL l Z a0 hw a1529 z1 b1529 kb1529 (98 : Int32) x3 x4 h1529 n0 Z1538 C1530 cs SC hcs sf SF hsf ic SI icf IC hic97 hic98 hEL em SE EXE FE Q1529 (Or.inr rfl) hc1541) (by decide) (by decide) (by decide) (by decide) rfl (by rw [hml]; rfl) (argsL := [(.ref a1529), (.ref z1), (.int x3), (.long x4)]) (rest := []) rfl (lenOf pd_27 rfl) rfl (own_le20 rfl) (dc at_36) ?_
        intro v1542 T1542 L1542 k1542 X1542 hS1542 hk1542 hZ1542 hown1542 R1542 hQ1542
        obtain ⟨ya1542, yb1542, yc1542, rfl, N1542q, K1542, P1542_0, P1542_1, P1542_2, P1542_3, P1542_4, P1542_5, P1542_6, P1542_7, P1542_8, P1542_9, M1542_0, M1542_1, M1542_2, D1542_0, D1542_1, D1542_2⟩ := hQ1542
        show Goes p e below _ T1542 (mkF m 39 #[sI x0, sI x1, sJ x2, s2, sI x3, sJ x4, s2, sI x5, sR z1, sR ya1511, su, su, su, su] [(.ref yb1542)])
        have RR1542 := RR1529.trans R1542
        have ne1543 := own_neL C1531.lt M1542_0
        have ne1551 := own_neL C1531.lt M1542_1
        have G1558 : n0 ≤ yb1542 := Nat.le_trans Z1538 M1542_1
        have ne1559 := own_neL C1531.lt M1542_2
        have C1568 := C1531.keep K1542
        have C1569 := C1532.keep K1542
        have Z1576 := Nat.le_trans Z1538 K1542.1
        obtain ⟨T1579, h1579, X1579, e1579, E1579, A1579, D1579, U1579, st1579⟩ := newO X1542 hx hZ1542 hown1542 (ow 170 rfl) (ow 171 rfl) (ow 172 rfl) rfl (g := (mkF m 41 #[sI x0, sI x1, sJ x2, s2, sI x3, sJ x4, s2, sI x5, sR z1, sR ya1511, sR yb1542, su, su, su] [])) rfl (dc at_41) (by decide) (by decide)
        obtain ⟨a1579, g1579⟩ : ∃ z, z = T1542.heap.size := ⟨_, rfl⟩
        rw [← g1579] at A1579 D1579 U1579 st1579
        have C1580 := (C1530.keep K1542 all0).ext E1579
        have C1581 := C1568.ext E1579
        have C1582 := C1569.ext E1579
        have C1588 := P1542_0.ext E1579
        have C1591 := P1542_3.ext E1579
        have C1592 := P1542_4.ext E1579
        have ne1601 := own_neG C1568.lt g1579
        have ne1602 := own_neG C1569.lt g1579
        have ne1603 := own_neG P1542_0.lt g1579
        have ne1604 := own_neG P1542_3.lt g1579
        have ne1605 := own_neG P1542_4.lt g1579
        have Z1606 := Nat.le_trans Z1576 E1579.1
        have Z1607 := Nat.le_trans hk1542 E1579.1
        have RR1609 := RR1542.trans (CHr.ext E1579 RR1542.1)
        have F1610 : Fld Z h1579 a1579 "com/example/uncross/uncross/engine/BookSide" "levels" "[Lcom/example/uncross/uncross/engine/BookSide$Level;" .null := D1579 (Or.inl (ow 190 rfl)) (ty := (.array (.object "com/example/uncross/uncross/engine/BookSide$Level"))) (by decide)
        have F1611 : Fld Z h1579 a1579 "com/example/uncross/uncross/engine/BookSide" "keys" "[J" .null := D1579 (Or.inl (ow 193 rfl)) (ty := (.array .long)) (by decide)
        have F1612 : Fld Z h1579 a1579 "com/example/uncross/uncross/engine/BookSide" "levelCount" "I" (.int 0) := D1579 (Or.inl (ow 195 rfl)) (ty := .int) (by decide)
        have F1613 : Fld Z h1579 a1579 "com/example/uncross/uncross/engine/BookSide" "emptyLevels" "I" (.int 0) := D1579 (Or.inl (ow 303 rfl)) (ty := .int) (by decide)
        have F1614 : Fld Z h1579 a1579 "com/example/uncross/uncross/engine/BookSide" "markets" "Lcom/example/uncross/uncross/engine/BookSide$Level;" .null := D1579 (Or.inr (ow 187 rfl)) (ty := (.object "com/example/uncross/uncross/engine/BookSide$Level")) (by decide)
        have F1615 : Fld Z h1579 a1579 "com/example/uncross/uncross/engine/BookSide" "deep" "Ljava/util/TreeMap;" .null := D1579 (Or.inr (ow 216 rfl)) (ty := (.object "java/util/TreeMap")) (by decide)
        have F1616 : Fld Z h1579 a1579 "com/example/uncross/uncross/engine/BookSide" "buying" "Z" (.int 0) := D1579 (Or.inr (ow 220 rfl)) (ty := .boolean) (by decide)
        have G1579 : n0 ≤ a1579 := Nat.le_trans Z1576 (Nat.le_of_eq g1579.symm)
        obtain ⟨zb, hzb⟩ : ∃ z : Int32, (z = 1 ∧ z1 = k1) ∨ (z = 0 ∧ z1 ≠ k1) := by
          by_cases q : z1 = k1
          · exact ⟨1, Or.inl ⟨rfl, q⟩⟩
          · exact ⟨0, Or.inr ⟨rfl, q⟩⟩
        refine Goes.on (T' := T1579) (g' := (mkF m 47 #[sI x0, sI x1, sJ x2, s2, sI x3, sJ x4, s2, sI x5, sR z1, sR ya1511, sR yb1542, su, su, su] [(.ref z1), (.ref a1579), (.ref a1579)])) (fun _ k => XS.astore X1542.here hx rfl (dc at_39) rfl rfl (l' := #[sI x0, sI x1, sJ x2, s2, sI x3, sJ x4, s2, sI x5, sR z1, sR ya1511, sR yb1542, su, su, su]) rfl (st1579 _ (XS.dup X1579.here hx rfl (dc at_44) rfl rfl (XS.aload X1579.here hx rfl (dc at_45) rfl rfl k)))) ?_
        refine Goes.callC X1579 hx hZ1542 1 rfl hown1542 (ow 173 rfl) (ow 174 rfl) (ow 172 rfl) (ow 175 rfl) (by decide) e1579 (rmBi l Z a0 hw a1579 z1 k1 zb h1579 n0 Z1606 C1580 ST_k1 A1579 F1610 F1611 F1612 F1613 F1614 F1615 F1616 G1579 hzb) (by decide) (by decide) (by decide) (by decide) rfl (by rw [hml]; rfl) (a := a1579) (argsL := [(.ref z1)]) (rest := [(.ref a1579)]) rfl (lenOf pd_28 rfl) rfl (own_le20 rfl) (dc at_47) ?_
        rintro v1618 T1618 L1618 X1618 ⟨ya1618, yb1618, yc1618, yd1618, ye1618, rfl, N1618q, K1618, P1618_0, P1618_1, P1618_2, P1618_3, P1618_4, P1618_5, P1618_6, P1618_7, P1618_8, P1618_9, P1618_10, P1618_11, P1618_12, P1618_13, P1618_14, P1618_15, P1618_16, P1618_17, P1618_18, P1618_19, P1618_20, M1618_0, M1618_1, M1618_2, M1618_3, M1618_4, D1618_0, D1618_1, D1618_2, D1618_3, D1618_4, D1618_5, D1618_6, D1618_7, D1618_8, D1618_9⟩
        show Goes p e below _ T1618 (mkF m 50 #[sI x0, sI x1, sJ x2, s2, sI x3, sJ x4, s2, sI x5, sR z1, sR ya1511, sR yb1542, su, su, su] [(.ref a1579)])
        have ne1619 := own_neL C1581.lt M1618_0
        have ne1620 := own_neL C1582.lt M1618_0
        have ne1621 := own_neL C1588.lt M1618_0
        have ne1622 := own_neL C1591.lt M1618_0
        have ne1623 := own_neL C1592.lt M1618_0
        have ne1624 := own_neL A1579.lt M1618_0
        have ne1627 := own_neL (Exa.lt (Exa.ext C1580.2 EXE)) M1618_0
        have G1628 : n0 ≤ ya1618 := Nat.le_trans Z1606 M1618_0
        have ne1629 := own_neL C1581.lt M1618_1
        have ne1631 := own_neL C1588.lt M1618_1
        have ne1632 := own_neL C1591.lt M1618_1
        have ne1633 := own_neL C1592.lt M1618_1
        have ne1634 := own_neL A1579.lt M1618_1
        have G1638 : n0 ≤ yb1618 := Nat.le_trans Z1606 M1618_1
        have ne1639 := own_neL C1581.lt M1618_2
        have ne1641 := own_neL C1588.lt M1618_2
        have ne1642 := own_neL C1591.lt M1618_2
        have ne1643 := own_neL C1592.lt M1618_2
        have ne1644 := own_neL A1579.lt M1618_2
        have G1648 : n0 ≤ yc1618 := Nat.le_trans Z1606 M1618_2
        have ne1649 := own_neL C1581.lt M1618_3
        have ne1652 := own_neL C1591.lt M1618_3
        have ne1654 := own_neL A1579.lt M1618_3
        have ne1662 := own_neL C1591.lt M1618_4
        have ne1664 := own_neL A1579.lt M1618_4
        have C1669 := C1580.keep K1618 (allS G1579 all0)
        have C1670 := C1581.keep K1618
        have C1671 := C1582.keep K1618
        have C1672 := ((C1533.keep K1542 nin0).ext E1579).keep K1618 (ninS ne1602 nin0)
        have C1673 := ((C1534.keep K1542 nin0).ext E1579).keep K1618 (ninS ne1601 nin0)
        have C1674 := ((C1535.keep K1542 nin0).ext E1579).keep K1618 (ninS ne1601 nin0)
        have C1675 := ((C1536.keep K1542 nin0).ext E1579).keep K1618 (ninS ne1601 nin0)
        have C1676 := ((C1537.keep K1542 nin0).ext E1579).keep K1618 (ninS ne1601 nin0)
        have Z1688 := Nat.le_trans Z1606 K1618.1
        have Z1689 := Nat.le_trans Z1607 K1618.1
        have RR1691 := RR1609.trans (CHr.keep K1618 (allS (Safe.exa hZ1542.alike A1579 (by decide) (by decide)) all0) RR1609.1)
        refine Goes.on (T' := T1618) (g' := (mkF m 54 #[sI x0, sI x1, sJ x2, s2, sI x3, sJ x4, s2, sI x5, sR z1, sR ya1511, sR yb1542, sR a1579, su, su] [(.ref a1579)])) (fun _ k => XS.astore X1618.here hx rfl (dc at_50) rfl rfl (l' := #[sI x0, sI x1, sJ x2, s2, sI x3, sJ x4, s2, sI x5, sR z1, sR ya1511, sR yb1542, sR a1579, su, su]) rfl (XS.aload X1618.here hx rfl (dc at_52) rfl rfl k)) ?_
        refine Goes.callV X1618 hx hZ1542 0 hown1542 (ow 223 rfl) (ow 224 rfl) (notFace_of_selects (args := #[]) (mvT hZ1542 (ow 226 rfl))) (ow 226 rfl) (ow 225 rfl) (ow 172 rfl) (ow 227 rfl) (by decide) rfl P1618_0 (rmEi1 l Z a0 hw a1579 ya1618 T1618.heap n0 Z1688  P1618_0 P1618_5 P1618_8 P1618_9 P1618_3 ) (by decide) (by decide) (by decide) (by decide) rfl (by rw [hml]; rfl) (argsL := []) (rest := []) rfl (lenOf pd_3 rfl) rfl (own_le20 rfl) (dc at_54) ?_
        rintro v1692 T1692 L1692 X1692 ⟨rfl, N1692q, e1692⟩
        show Goes p e below _ T1692 (mkF m 57 #[sI x0, sI x1, sJ x2, s2, sI x3, sJ x4, s2, sI x5, sR z1, sR ya1511, sR yb1542, sR a1579, su, su] [(.int 1)])
        refine Goes.on (T' := T1692) (g' := (mkF m 63 #[sI x0, sI x1, sJ x2, s2, sI x3, sJ x4, s2, sI x5, sR z1, sR ya1511, sR yb1542, sR a1579, sI 1, su] [(.ref ya1511), (.ref a1579)])) (fun _ k => XS.istore X1692.here hx rfl (dc at_57) rfl (l' := #[sI x0, sI x1, sJ x2, s2, sI x3, sJ x4, s2, sI x5, sR z1, sR ya1511, sR yb1542, sR a1579, sI 1, su]) rfl (XS.aload X1692.here hx rfl (dc at_59) rfl rfl (XS.aload X1692.here hx rfl (dc at_61) rfl rfl k))) ?_
        refine Goes.callV X1692 hx hZ1542 0 hown1542 (ow 230 rfl) (ow 231 rfl) (notFace_of_selects (args := #[]) (mvT hZ1542 (ow 233 rfl))) (ow 233 rfl) (ow 232 rfl) (ow 172 rfl) (ow 234 rfl) (by decide) e1692 P1618_0 (rmAm0 l Z a0 hw a1579 ya1511 ya1618 yb1511 em T1618.heap n0 Z1688  C1670 C1673 C1674 C1675 C1676 C1671 C1672 (Exa.ext C1669.2 EXE) (Fld.ext C1669.2 FE) P1618_0 P1618_5 P1618_8 P1618_9 P1618_10 P1618_11 ne1619 ne1601.symm ne1624 D1511_0.symm ne1620 ne1516 ne1627 G1517 G1628 ) (by decide) (by decide) (by decide) (by decide) rfl (by rw [hml]; rfl) (argsL := [(.ref ya1511)]) (rest := []) rfl (lenOf pd_29 rfl) rfl (own_le20 rfl) (dc at_63) ?_
        rintro v1693 T1693 L1693 X1693 ⟨rfl, N1693q, K1693, P1693_0, P1693_1, P1693_2, P1693_3, P1693_4, P1693_5, P1693_6, P1693_7, P1693_8⟩
        show Goes p e below _ T1693 (mkF m 66 #[sI x0, sI x1, sJ x2, s2, sI x3, sJ x4, s2, sI x5, sR z1, sR ya1511, sR yb1542, sR a1579, sI 1, su] [])
        have C1699 := (C1588.keep K1618).keep K1693
        have ni1701 := (ninS ne1543.symm (ninS ne1621 nin0))
        have C1700 := ((P1542_1.ext E1579).keep K1618 (ninS ne1603 nin0)).keep K1693 ni1701
        have C1702 := ((P1542_2.ext E1579).keep K1618 (ninS ne1603 nin0)).keep K1693 ni1701
        have C1703 := (C1591.keep K1618).keep K1693
        have C1704 := (C1592.keep K1618).keep K1693
        have ni1706 := (ninS ne1559.symm (ninS ne1623 nin0))
        have C1705 := ((P1542_5.ext E1579).keep K1618 (ninS ne1605 nin0)).keep K1693 ni1706
        have ni1708 := (ninS ne1551.symm (ninS ne1622 nin0))
        have C1707 := ((P1542_6.ext E1579).keep K1618 (ninS ne1604 nin0)).keep K1693 ni1708
        have C1709 := ((P1542_7.ext E1579).keep K1618 (ninS ne1604 nin0)).keep K1693 ni1708
        have C1710 := ((P1542_8.ext E1579).keep K1618 (ninS ne1604 nin0)).keep K1693 ni1708
        have C1711 := ((P1542_9.ext E1579).keep K1618 (ninS ne1604 nin0)).keep K1693 ni1708
        have C1712 := P1618_0.keep K1693
        have ni1714 := (ninS ne1601.symm (ninS ne1624 nin0))
        have C1713 := P1618_1.keep K1693 ni1714
        have C1715 := P1618_2.keep K1693 ni1714
        have C1716 := P1618_3.keep K1693 ni1714
        have C1717 := P1618_4.keep K1693 ni1714
        have C1718 := P1618_5.keep K1693 ni1714
        have C1719 := P1618_6.keep K1693 ni1714
        have C1720 := P1618_7.keep K1693 ni1714
        have ni1723 := (ninS ne1629.symm (ninS D1618_0.symm nin0))
        have C1722 := P1618_12.keep K1693 ni1723
        have C1724 := P1618_13.keep K1693
        have ni1726 := (ninS ne1639.symm (ninS D1618_1.symm nin0))
        have C1725 := P1618_14.keep K1693 ni1726
        have C1727 := P1618_15.keep K1693
        have ni1729 := (ninS ne1649.symm (ninS D1618_2.symm nin0))
        have C1728 := P1618_16.keep K1693 ni1729
        have C1730 := P1618_17.keep K1693
        have Z1735 := Nat.le_trans Z1688 K1693.1
        have Z1736 := Nat.le_trans Z1689 K1693.1
        have RR1738 := RR1691.trans (CHr.keep K1693 (allS (Safe.exa hZ1542.alike C1670 (by decide) (by decide)) (allS (Safe.exa hZ1542.alike P1618_8 (by decide) (by decide)) all0)) RR1691.1)
        refine Goes.on (T' := T1693) (g' := (mkF m 73 #[sI x0, sI x1, sJ x2, s2, sI x3, sJ x4, s2, sI x5, sR z1, sR ya1511, sR yb1542, sR a1579, sI 1, su] [(.ref a1579)])) (fun _ k => XS.iload X1693.here hx rfl (dc at_66) rfl (XS.ifNo X1693.here hx rfl (dc at_68) rfl (XT.i0_eq_f (by decide)) (XS.aload X1693.here hx rfl (dc at_71) rfl rfl k))) ?_
        refine Goes.callV X1693 hx hZ1542 0 hown1542 (ow 223 rfl) (ow 224 rfl) (notFace_of_selects (args := #[]) (mvT hZ1542 (ow 226 rfl))) (ow 226 rfl) (ow 225 rfl) (ow 172 rfl) (ow 227 rfl) (by decide) rfl C1712 (rmEiR l Z a0 hw a1579 ya1618 ya1511 T1693.heap n0 Z1735  C1712 C1718 P1693_5 P1693_6 ) (by decide) (by decide) (by decide) (by decide) rfl (by rw [hml]; rfl) (argsL := []) (rest := []) rfl (lenOf pd_3 rfl) rfl (own_le20 rfl) (dc at_73) ?_
        rintro v1739 T1739 L1739 X1739 ⟨rfl, N1739q, e1739⟩
        show Goes p e below _ T1739 (mkF m 76 #[sI x0, sI x1, sJ x2, s2, sI x3, sJ x4, s2, sI x5, sR z1, sR ya1511, sR yb1542, sR a1579, sI 1, su] [(.int 0)])
        refine Goes.on (T' := T1739) (g' := (mkF m 90 #[sI x0, sI x1, sJ x2, s2, sI x3, sJ x4, s2, sI x5, sR z1, sR ya1511, sR yb1542, sR a1579, sI 1, su] [(.ref yb1542), (.ref a1579)])) (fun _ k => XS.ifNo X1739.here hx rfl (dc at_76) rfl (XT.i0_ne_f (by decide)) (XS.iconst X1739.here hx rfl (dc at_79) (XS.goto X1739.here hx rfl (pc0 := 80) (pc' := 84) rfl (dc at_80) (by decide) (by decide) (XS.istore X1739.here hx rfl (dc at_84) rfl (l' := #[sI x0, sI x1, sJ x2, s2, sI x3, sJ x4, s2, sI x5, sR z1, sR ya1511, sR yb1542, sR a1579, sI 1, su]) rfl (XS.aload X1739.here hx rfl (dc at_86) rfl rfl (XS.aload X1739.here hx rfl (dc at_88) rfl rfl k)))))) ?_
        refine Goes.callV X1739 hx hZ1542 0 hown1542 (ow 230 rfl) (ow 231 rfl) (notFace_of_selects (args := #[]) (mvT hZ1542 (ow 233 rfl))) (ow 233 rfl) (ow 232 rfl) (ow 172 rfl) (ow 234 rfl) (by decide) e1739 C1712 (rmAdL0 l Z a0 hw a1579 yd1618 yb1618 yc1618 ya1618 ye1618 yb1542 yc1542 ya1542 zb (Fprice x3 x4) T1693.heap n0 Z1735  C1712 C1720 C1716 C1719 C1713 C1715 C1718 C1717 C1727 C1728 C1722 C1725 C1703 C1707 C1709 C1710 C1711 C1704 C1705 C1699 C1700 C1702 ne1604.symm ne1634 ne1644 ne1652.symm ne1654.symm D1618_5.symm D1618_7.symm ne1632.symm D1618_4 ne1642.symm D1542_2.symm ne1605 ne1633 ne1643 D1542_0 ne1603 ne1631 ne1641 G1558 G1579 G1638 G1648 (own_knm (own_price x3 x4))) (by decide) (by decide) (by decide) (by decide) rfl (by rw [hml]; rfl) (argsL := [(.ref yb1542)]) (rest := []) rfl (lenOf pd_29 rfl) rfl (own_le20 rfl) (dc at_90) ?_
        rintro v1740 T1740 L1740 X1740 ⟨ya1740, rfl, N1740q, K1740, P1740_0, P1740_1, P1740_2, P1740_3, P1740_4, P1740_5, P1740_6, P1740_7, P1740_8, P1740_9, P1740_10, P1740_11, P1740_12, P1740_13, P1740_14, P1740_15, P1740_16, P1740_17, P1740_18, P1740_19, M1740_0⟩
        show Goes p e below _ T1740 (mkF m 93 #[sI x0, sI x1, sJ x2, s2, sI x3, sJ x4, s2, sI x5, sR z1, sR ya1511, sR yb1542, sR a1579, sI 1, su] [])
        have ne1741 := own_neL P1693_0.lt M1740_0
        have ne1743 := own_neL C1703.lt M1740_0
        have ne1745 := own_neL C1712.lt M1740_0
        have ne1746 := own_neL P1693_5.lt M1740_0
        have ne1747 := own_neL C1722.lt M1740_0
        have ne1749 := own_neL C1727.lt M1740_0
        have ne1750 := own_neL C1730.lt M1740_0
        have G1754 : n0 ≤ ya1740 := Nat.le_trans Z1735 M1740_0
        have C1756 := P1693_0.keep K1740
        have C1766 := P1693_5.keep K1740
        have C1768 := C1727.keep K1740
        have ni1770 := (ninS ne1652.symm (ninS ne1654.symm (ninS D1618_5.symm (ninS D1618_7.symm nin0))))
        have C1769 := C1728.keep K1740 ni1770
        have ni1777 := (ninS ne1551 (ninS ne1601 (ninS ne1629 (ninS ne1639 nin0))))
        have C1776 := P1693_1.keep K1740 ni1777
        have C1778 := P1693_2.keep K1740 ni1777
        have C1779 := P1693_3.keep K1740 ni1777
        have ni1781 := (ninS ne1622.symm (ninS ne1624.symm (ninS D1618_0 (ninS D1618_1 nin0))))
        have C1780 := P1693_6.keep K1740 ni1781
        have C1782 := P1693_7.keep K1740 ni1781
        have C1783 := P1693_8.keep K1740 ni1781
        have Z1784 := Nat.le_trans Z1735 K1740.1
        have Z1785 := Nat.le_trans Z1736 K1740.1
        have RR1787 := RR1738.trans (CHr.keep K1740 (allS (Safe.exa hZ1542.alike C1703 (by decide) (by decide)) (allS (Safe.exa hZ1542.alike C1712 (by decide) (by decide)) (allS (Rbk.safe hZ1542.alike C1722) (allS (Safe.exa hZ1542.alike C1724 (by decide) (by decide)) all0)))) RR1738.1)
        refine Goes.on (T' := T1740) (g' := (mkF m 100 #[sI x0, sI x1, sJ x2, s2, sI x3, sJ x4, s2, sI x5, sR z1, sR ya1511, sR yb1542, sR a1579, sI 1, su] [(.ref a1579)])) (fun _ k => XS.iload X1740.here hx rfl (dc at_93) rfl (XS.ifNo X1740.here hx rfl (dc at_95) rfl (XT.i0_eq_f (by decide)) (XS.aload X1740.here hx rfl (dc at_98) rfl rfl k))) ?_
        refine Goes.callV X1740 hx hZ1542 0 hown1542 (ow 223 rfl) (ow 224 rfl) (notFace_of_selects (args := #[]) (mvT hZ1542 (ow 226 rfl))) (ow 226 rfl) (ow 225 rfl) (ow 172 rfl) (ow 227 rfl) (by decide) rfl P1740_0 (rmEiR l Z a0 hw a1579 ya1618 ya1511 T1740.heap n0 Z1784  P1740_0 P1740_11 C1766 C1780 ) (by decide) (by decide) (by decide) (by decide) rfl (by rw [hml]; rfl) (argsL := []) (rest := []) rfl (lenOf pd_3 rfl) rfl (own_le20 rfl) (dc at_100) ?_
        rintro v1788 T1788 L1788 X1788 ⟨rfl, N1788q, e1788⟩
        have N1788 := Fr.app (Fr.app (Fr.app (Fr.app (Fr.app (Fr.app (Fr.app N1511 N1542q) N1618q) N1692q) N1693q) N1739q) N1740q) N1788q
        show Goes p e below _ T1788 (mkF m 103 #[sI x0, sI x1, sJ x2, s2, sI x3, sJ x4, s2, sI x5, sR z1, sR ya1511, sR yb1542, sR a1579, sI 1, su] [(.int 0)])
        refine Goes.on (T' := T1788) (g' := (mkF m 120 #[sI x0, sI x1, sJ x2, s2, sI x3, sJ x4, s2, sI x5, sR z1, sR ya1511, sR yb1542, sR a1579, sI 1, su] [(.int ((x5 &&& (2147483647 : Int32)) % (5 : Int32)))])) (fun _ k => XS.ifNo X1788.here hx rfl (dc at_103) rfl (XT.i0_ne_f (by decide)) (XS.iconst X1788.here hx rfl (dc at_106) (XS.goto X1788.here hx rfl (pc0 := 107) (pc' := 111) rfl (dc at_107) (by decide) (by decide) (XS.istore X1788.here hx rfl (dc at_111) rfl (l' := #[sI x0, sI x1, sJ x2, s2, sI x3, sJ x4, s2, sI x5, sR z1, sR ya1511, sR yb1542, sR a1579, sI 1, su]) rfl (XS.iload X1788.here hx rfl (dc at_113) rfl (X1788.ldcInt hx hown1542 (mvT hZ1542 (ow 286 rfl)) (g := (mkF m 115 #[sI x0, sI x1, sJ x2, s2, sI x3, sJ x4, s2, sI x5, sR z1, sR ya1511, sR yb1542, sR a1579, sI 1, su] [(.int x5)])) rfl (dc at_115) _ (XS.iand X1788.here hx rfl (dc at_117) rfl (XS.iconst X1788.here hx rfl (dc at_118) (iremM X1788 hx rfl (dc at_119) rfl (by decide) k))))))))) ?_
        generalize ((x5 &&& (2147483647 : Int32)) % (5 : Int32)) = md
        refine Goes.on (T' := T1788) (g' := (mkF m 125 #[sI x0, sI x1, sJ x2, s2, sI x3, sJ x4, s2, sI x5, sR z1, sR ya1511, sR yb1542, sR a1579, sI 1, sI md] [(.int 1), (.int md)])) (fun _ k => XS.istore X1788.here hx rfl (dc at_120) rfl (l' := #[sI x0, sI x1, sJ x2, s2, sI x3, sJ x4, s2, sI x5, sR z1, sR ya1511, sR yb1542, sR a1579, sI 1, sI md]) rfl (XS.iload X1788.here hx rfl (dc at_122) rfl (XS.iconst X1788.here hx rfl (dc at_124) k))) ?_
        by_cases hc1789 : md = (1 : Int32)
        · refine Goes.on (T' := T1788) (g' := (mkF m 132 #[sI x0, sI x1, sJ x2, s2, sI x3, sJ x4, s2, sI x5, sR z1, sR ya1511, sR yb1542, sR a1579, sI 1, sI md] [(.ref ya1511), (.ref a1579)])) (fun _ k => XS.icmpNo X1788.here hx rfl (dc at_125) rfl (XT.ii_ne_f hc1789) (XS.aload X1788.here hx rfl (dc at_128) rfl rfl (XS.aload X1788.here hx rfl (dc at_130) rfl rfl k))) ?_
          refine Goes.callV X1788 hx hZ1542 0 hown1542 (ow 287 rfl) (ow 288 rfl) (notFace_of_selects (args := #[]) (mvT hZ1542 (ow 290 rfl))) (ow 290 rfl) (ow 289 rfl) (ow 172 rfl) (ow 291 rfl) (by decide) e1788 P1740_0 (rmRM1 l Z a0 hw a1579 ya1511 ya1618 T1740.heap n0 Z1784  C1756 C1776 C1778 C1779 C1766 C1780 C1782 C1783 P1740_0 P1740_11 ne1601.symm ne1624 ne1619 G1517 G1628 ) (by decide) (by decide) (by decide) (by decide) rfl (by rw [hml]; rfl) (argsL := [(.ref ya1511)]) (rest := []) rfl (lenOf pd_29 rfl) rfl (own_le20 rfl) (dc at_132) ?_
          rintro v1790 T1790 L1790 X1790 ⟨rfl, N1790q, K1790, P1790_0, P1790_1, P1790_2, P1790_3, P1790_4, P1790_5, P1790_6, P1790_7⟩
          show Goes p e below _ T1790 (mkF m 135 #[sI x0, sI x1, sJ x2, s2, sI x3, sJ x4, s2, sI x5, sR z1, sR ya1511, sR yb1542, sR a1579, sI 1, sI md] [])
          have C1794 := P1740_0.keep K1790
          have ni1810 := (ninS ne1601.symm (ninS ne1624 nin0))
          have C1809 := P1740_7.keep K1790 ni1810
          have C1813 := P1740_11.keep K1790 ni1810
          have Z1823 := Nat.le_trans Z1784 K1790.1
          have Z1824 := Nat.le_trans Z1785 K1790.1
          have RR1826 := RR1787.trans (CHr.keep K1790 (allS (Safe.exa hZ1542.alike C1756 (by decide) (by decide)) (allS (Safe.exa hZ1542.alike C1766 (by decide) (by decide)) all0)) RR1787.1)
          refine Goes.on (T' := T1790) (g' := (mkF m 142 #[sI x0, sI x1, sJ x2, s2, sI x3, sJ x4, s2, sI x5, sR z1, sR ya1511, sR yb1542, sR a1579, sI 1, sI md] [(.ref a1579)])) (fun _ k => XS.iload X1790.here hx rfl (dc at_135) rfl (XS.ifNo X1790.here hx rfl (dc at_137) rfl (XT.i0_eq_f (by decide)) (XS.aload X1790.here hx rfl (dc at_140) rfl rfl k))) ?_
          refine Goes.callV X1790 hx hZ1542 0 hown1542 (ow 223 rfl) (ow 224 rfl) (notFace_of_selects (args := #[]) (mvT hZ1542 (ow 226 rfl))) (ow 226 rfl) (ow 225 rfl) (ow 172 rfl) (ow 227 rfl) (by decide) rfl C1794 (rmEi2 l Z a0 hw a1579 ya1618 T1790.heap n0 Z1823  C1794 C1813 P1790_4 P1790_5 C1809 ) (by decide) (by decide) (by decide) (by decide) rfl (by rw [hml]; rfl) (argsL := []) (rest := []) rfl (lenOf pd_3 rfl) rfl (own_le20 rfl) (dc at_142) ?_
          rintro v1827 T1827 L1827 X1827 ⟨rfl, N1827q, e1827⟩
          have N1827 := Fr.app (Fr.app N1788 N1790q) N1827q
          show Goes p e below _ T1827 (mkF m 145 #[sI x0, sI x1, sJ x2, s2, sI x3, sJ x4, s2, sI x5, sR z1, sR ya1511, sR yb1542, sR a1579, sI 1, sI md] [(.int 0)])
          refine Goes.on (T' := T1827) (g' := (mkF m 319 #[sI x0, sI x1, sJ x2, s2, sI x3, sJ x4, s2, sI x5, sR z1, sR ya1511, sR yb1542, sR a1579, sI 1, sI md] [(.int 1)])) (fun _ k => XS.ifNo X1827.here hx rfl (dc at_145) rfl (XT.i0_ne_f (by decide)) (XS.iconst X1827.here hx rfl (dc at_148) (XS.goto X1827.here hx rfl (pc0 := 149) (pc' := 153) rfl (dc at_149) (by decide) (by decide) (XS.istore X1827.here hx rfl (dc at_153) rfl (l' := #[sI x0, sI x1, sJ x2, s2, sI x3, sJ x4, s2, sI x5, sR z1, sR ya1511, sR yb1542, sR a1579, sI 1, sI md]) rfl (XS.goto X1827.here hx rfl (pc0 := 155) (pc' := 317) rfl (dc at_155) (by decide) (by decide) (XS.iload X1827.here hx rfl (dc at_317) rfl k)))))) ?_
          exact Goes.retBW X1827 hS1542 (by rw [e1827]; exact Z1824) hZ1542 hEL (by rw [e1827]; exact RR1826) hx hlk hret (Or.inr rfl) (dc at_319) (by decide) (by decide) ⟨rfl, N1827⟩
        · refine Goes.on (T' := T1788) (g' := (mkF m 161 #[sI x0, sI x1, sJ x2, s2, sI x3, sJ x4, s2, sI x5, sR z1, sR ya1511, sR yb1542, sR a1579, sI 1, sI md] [(.int 2), (.int md)])) (fun _ k => XS.icmpYes X1788.here hx rfl (pc0 := 125) (pc' := 158) rfl (dc at_125) rfl (XT.ii_ne_t hc1789) (by decide) (by decide) (XS.iload X1788.here hx rfl (dc at_158) rfl (XS.iconst X1788.here hx rfl (dc at_160) k))) ?_
          by_cases hc1828 : md = (2 : Int32)
          · refine Goes.on (T' := T1788) (g' := (mkF m 168 #[sI x0, sI x1, sJ x2, s2, sI x3, sJ x4, s2, sI x5, sR z1, sR ya1511, sR yb1542, sR a1579, sI 1, sI md] [(.ref yb1542), (.ref a1579)])) (fun _ k => XS.icmpNo X1788.here hx rfl (dc at_161) rfl (XT.ii_ne_f hc1828) (XS.aload X1788.here hx rfl (dc at_164) rfl rfl (XS.aload X1788.here hx rfl (dc at_166) rfl rfl k))) ?_
            refine Goes.callV X1788 hx hZ1542 0 hown1542 (ow 287 rfl) (ow 288 rfl) (notFace_of_selects (args := #[]) (mvT hZ1542 (ow 290 rfl))) (ow 290 rfl) (ow 289 rfl) (ow 172 rfl) (ow 291 rfl) (by decide) e1788 P1740_0 (rmRL1 l Z a0 hw a1579 yb1542 ya1618 yd1618 yb1618 ye1618 ya1740 T1740.heap n0 Z1784  P1740_1 P1740_2 P1740_3 P1740_4 P1740_15 P1740_16 P1740_17 P1740_18 P1740_0 P1740_11 P1740_7 P1740_12 P1740_8 P1740_9 C1768 C1769 P1740_13 ne1604.symm ne1745 ne1634 ne1743 ne1632 ne1622.symm ne1746 ne1624.symm D1618_0 ne1652.symm ne1749 ne1654.symm D1618_5.symm ne1747 ne1662.symm ne1750 ne1664.symm D1618_6.symm G1558 G1754 G1579 G1638 ) (by decide) (by decide) (by decide) (by decide) rfl (by rw [hml]; rfl) (argsL := [(.ref yb1542)]) (rest := []) rfl (lenOf pd_29 rfl) rfl (own_le20 rfl) (dc at_168) ?_
            rintro v1829 T1829 L1829 X1829 ⟨rfl, N1829q, K1829, P1829_0, P1829_1, P1829_2, P1829_3, P1829_4, P1829_5, P1829_6, P1829_7, P1829_8, P1829_9, P1829_10, P1829_11, P1829_12, P1829_13, P1829_14⟩
            show Goes p e below _ T1829 (mkF m 171 #[sI x0, sI x1, sJ x2, s2, sI x3, sJ x4, s2, sI x5, sR z1, sR ya1511, sR yb1542, sR a1579, sI 1, sI md] [])
            have C1834 := C1766.keep K1829
            have ni1849 := (ninS ne1622.symm (ninS ne1746 (ninS ne1624.symm (ninS D1618_0 nin0))))
            have C1848 := C1780.keep K1829 ni1849
            have Z1853 := Nat.le_trans Z1784 K1829.1
            have Z1854 := Nat.le_trans Z1785 K1829.1
            have RR1856 := RR1787.trans (CHr.keep K1829 (allS (Safe.exa hZ1542.alike P1740_1 (by decide) (by decide)) (allS (Safe.exa hZ1542.alike P1740_15 (by decide) (by decide)) (allS (Safe.exa hZ1542.alike P1740_0 (by decide) (by decide)) (allS (Rbk.safe hZ1542.alike P1740_13) all0)))) RR1787.1)
            refine Goes.on (T' := T1829) (g' := (mkF m 178 #[sI x0, sI x1, sJ x2, s2, sI x3, sJ x4, s2, sI x5, sR z1, sR ya1511, sR yb1542, sR a1579, sI 1, sI md] [(.ref a1579)])) (fun _ k => XS.iload X1829.here hx rfl (dc at_171) rfl (XS.ifNo X1829.here hx rfl (dc at_173) rfl (XT.i0_eq_f (by decide)) (XS.aload X1829.here hx rfl (dc at_176) rfl rfl k))) ?_
            refine Goes.callV X1829 hx hZ1542 0 hown1542 (ow 223 rfl) (ow 224 rfl) (notFace_of_selects (args := #[]) (mvT hZ1542 (ow 226 rfl))) (ow 226 rfl) (ow 225 rfl) (ow 172 rfl) (ow 227 rfl) (by decide) rfl P1829_8 (rmEiR l Z a0 hw a1579 ya1618 ya1511 T1829.heap n0 Z1853  P1829_8 P1829_9 C1834 C1848 ) (by decide) (by decide) (by decide) (by decide) rfl (by rw [hml]; rfl) (argsL := []) (rest := []) rfl (lenOf pd_3 rfl) rfl (own_le20 rfl) (dc at_178) ?_
            rintro v1857 T1857 L1857 X1857 ⟨rfl, N1857q, e1857⟩
            have N1857 := Fr.app (Fr.app N1788 N1829q) N1857q
            show Goes p e below _ T1857 (mkF m 181 #[sI x0, sI x1, sJ x2, s2, sI x3, sJ x4, s2, sI x5, sR z1, sR ya1511, sR yb1542, sR a1579, sI 1, sI md] [(.int 0)])
            refine Goes.on (T' := T1857) (g' := (mkF m 319 #[sI x0, sI x1, sJ x2, s2, sI x3, sJ x4, s2, sI x5, sR z1, sR ya1511, sR yb1542, sR a1579, sI 1, sI md] [(.int 1)])) (fun _ k => XS.ifNo X1857.here hx rfl (dc at_181) rfl (XT.i0_ne_f (by decide)) (XS.iconst X1857.here hx rfl (dc at_184) (XS.goto X1857.here hx rfl (pc0 := 185) (pc' := 189) rfl (dc at_185) (by decide) (by decide) (XS.istore X1857.here hx rfl (dc at_189) rfl (l' := #[sI x0, sI x1, sJ x2, s2, sI x3, sJ x4, s2, sI x5, sR z1, sR ya1511, sR yb1542, sR a1579, sI 1, sI md]) rfl (XS.goto X1857.here hx rfl (pc0 := 191) (pc' := 317) rfl (dc at_191) (by decide) (by decide) (XS.iload X1857.here hx rfl (dc at_317) rfl k)))))) ?_
            exact Goes.retBW X1857 hS1542 (by rw [e1857]; exact Z1854) hZ1542 hEL (by rw [e1857]; exact RR1856) hx hlk hret (Or.inr rfl) (dc at_319) (by decide) (by decide) ⟨rfl, N1857⟩
          · refine Goes.on (T' := T1788) (g' := (mkF m 197 #[sI x0, sI x1, sJ x2, s2, sI x3, sJ x4, s2, sI x5, sR z1, sR ya1511, sR yb1542, sR a1579, sI 1, sI md] [(.int 3), (.int md)])) (fun _ k => XS.icmpYes X1788.here hx rfl (pc0 := 161) (pc' := 194) rfl (dc at_161) rfl (XT.ii_ne_t hc1828) (by decide) (by decide) (XS.iload X1788.here hx rfl (dc at_194) rfl (XS.iconst X1788.here hx rfl (dc at_196) k))) ?_
            by_cases hc1858 : md = (3 : Int32)
            · refine Goes.on (T' := T1788) (g' := (mkF m 204 #[sI x0, sI x1, sJ x2, s2, sI x3, sJ x4, s2, sI x5, sR z1, sR ya1511, sR yb1542, sR a1579, sI 1, sI md] [(.ref ya1511), (.ref a1579)])) (fun _ k => XS.icmpNo X1788.here hx rfl (dc at_197) rfl (XT.ii_ne_f hc1858) (XS.aload X1788.here hx rfl (dc at_200) rfl rfl (XS.aload X1788.here hx rfl (dc at_202) rfl rfl k))) ?_
              refine Goes.callV X1788 hx hZ1542 0 hown1542 (ow 287 rfl) (ow 288 rfl) (notFace_of_selects (args := #[]) (mvT hZ1542 (ow 290 rfl))) (ow 290 rfl) (ow 289 rfl) (ow 172 rfl) (ow 291 rfl) (by decide) e1788 P1740_0 (rmRM1 l Z a0 hw a1579 ya1511 ya1618 T1740.heap n0 Z1784  C1756 C1776 C1778 C1779 C1766 C1780 C1782 C1783 P1740_0 P1740_11 ne1601.symm ne1624 ne1619 G1517 G1628 ) (by decide) (by decide) (by decide) (by decide) rfl (by rw [hml]; rfl) (argsL := [(.ref ya1511)]) (rest := []) rfl (lenOf pd_29 rfl) rfl (own_le20 rfl) (dc at_204) ?_
              rintro v1859 T1859 L1859 X1859 ⟨rfl, N1859q, K1859, P1859_0, P1859_1, P1859_2, P1859_3, P1859_4, P1859_5, P1859_6, P1859_7⟩
              show Goes p e below _ T1859 (mkF m 207 #[sI x0, sI x1, sJ x2, s2, sI x3, sJ x4, s2, sI x5, sR z1, sR ya1511, sR yb1542, sR a1579, sI 1, sI md] [])
              have C1862 := P1740_1.keep K1859
              have C1863 := P1740_0.keep K1859
              have C1866 := C1768.keep K1859
              have ni1868 := (ninS ne1649.symm (ninS D1618_2.symm nin0))
              have C1867 := C1769.keep K1859 ni1868
              have ni1875 := (ninS ne1551.symm (ninS ne1622 nin0))
              have C1874 := P1740_2.keep K1859 ni1875
              have C1876 := P1740_3.keep K1859 ni1875
              have C1877 := P1740_4.keep K1859 ni1875
              have ni1879 := (ninS ne1601.symm (ninS ne1624 nin0))
              have C1878 := P1740_7.keep K1859 ni1879
              have C1880 := P1740_8.keep K1859 ni1879
              have C1881 := P1740_9.keep K1859 ni1879
              have C1882 := P1740_11.keep K1859 ni1879
              have C1883 := P1740_12.keep K1859 ni1879
              have ni1885 := (ninS ne1629.symm (ninS D1618_0.symm nin0))
              have C1884 := P1740_13.keep K1859 ni1885
              have C1886 := P1740_15.keep K1859
              have ni1888 := (ninS ne1741.symm (ninS ne1746.symm nin0))
              have C1887 := P1740_16.keep K1859 ni1888
              have C1889 := P1740_17.keep K1859 ni1888
              have C1890 := P1740_18.keep K1859 ni1888
              have Z1892 := Nat.le_trans Z1784 K1859.1
              have Z1893 := Nat.le_trans Z1785 K1859.1
              have RR1895 := RR1787.trans (CHr.keep K1859 (allS (Safe.exa hZ1542.alike C1756 (by decide) (by decide)) (allS (Safe.exa hZ1542.alike C1766 (by decide) (by decide)) all0)) RR1787.1)
              refine Goes.on (T' := T1859) (g' := (mkF m 214 #[sI x0, sI x1, sJ x2, s2, sI x3, sJ x4, s2, sI x5, sR z1, sR ya1511, sR yb1542, sR a1579, sI 1, sI md] [(.ref a1579)])) (fun _ k => XS.iload X1859.here hx rfl (dc at_207) rfl (XS.ifNo X1859.here hx rfl (dc at_209) rfl (XT.i0_eq_f (by decide)) (XS.aload X1859.here hx rfl (dc at_212) rfl rfl k))) ?_
              refine Goes.callV X1859 hx hZ1542 0 hown1542 (ow 223 rfl) (ow 224 rfl) (notFace_of_selects (args := #[]) (mvT hZ1542 (ow 226 rfl))) (ow 226 rfl) (ow 225 rfl) (ow 172 rfl) (ow 227 rfl) (by decide) rfl C1863 (rmEi2 l Z a0 hw a1579 ya1618 T1859.heap n0 Z1892  C1863 C1882 P1859_4 P1859_5 C1878 ) (by decide) (by decide) (by decide) (by decide) rfl (by rw [hml]; rfl) (argsL := []) (rest := []) rfl (lenOf pd_3 rfl) rfl (own_le20 rfl) (dc at_214) ?_
              rintro v1896 T1896 L1896 X1896 ⟨rfl, N1896q, e1896⟩
              show Goes p e below _ T1896 (mkF m 217 #[sI x0, sI x1, sJ x2, s2, sI x3, sJ x4, s2, sI x5, sR z1, sR ya1511, sR yb1542, sR a1579, sI 1, sI md] [(.int 0)])
              refine Goes.on (T' := T1896) (g' := (mkF m 231 #[sI x0, sI x1, sJ x2, s2, sI x3, sJ x4, s2, sI x5, sR z1, sR ya1511, sR yb1542, sR a1579, sI 1, sI md] [(.ref yb1542), (.ref a1579)])) (fun _ k => XS.ifNo X1896.here hx rfl (dc at_217) rfl (XT.i0_ne_f (by decide)) (XS.iconst X1896.here hx rfl (dc at_220) (XS.goto X1896.here hx rfl (pc0 := 221) (pc' := 225) rfl (dc at_221) (by decide) (by decide) (XS.istore X1896.here hx rfl (dc at_225) rfl (l' := #[sI x0, sI x1, sJ x2, s2, sI x3, sJ x4, s2, sI x5, sR z1, sR ya1511, sR yb1542, sR a1579, sI 1, sI md]) rfl (XS.aload X1896.here hx rfl (dc at_227) rfl rfl (XS.aload X1896.here hx rfl (dc at_229) rfl rfl k)))))) ?_
              refine Goes.callV X1896 hx hZ1542 0 hown1542 (ow 287 rfl) (ow 288 rfl) (notFace_of_selects (args := #[]) (mvT hZ1542 (ow 290 rfl))) (ow 290 rfl) (ow 289 rfl) (ow 172 rfl) (ow 291 rfl) (by decide) e1896 C1863 (rmRL1 l Z a0 hw a1579 yb1542 ya1618 yd1618 yb1618 ye1618 ya1740 T1859.heap n0 Z1892  C1862 C1874 C1876 C1877 C1886 C1887 C1889 C1890 C1863 C1882 C1878 C1883 C1880 C1881 C1866 C1867 C1884 ne1604.symm ne1745 ne1634 ne1743 ne1632 ne1622.symm ne1746 ne1624.symm D1618_0 ne1652.symm ne1749 ne1654.symm D1618_5.symm ne1747 ne1662.symm ne1750 ne1664.symm D1618_6.symm G1558 G1754 G1579 G1638 ) (by decide) (by decide) (by decide) (by decide) rfl (by rw [hml]; rfl) (argsL := [(.ref yb1542)]) (rest := []) rfl (lenOf pd_29 rfl) rfl (own_le20 rfl) (dc at_231) ?_
              rintro v1897 T1897 L1897 X1897 ⟨rfl, N1897q, K1897, P1897_0, P1897_1, P1897_2, P1897_3, P1897_4, P1897_5, P1897_6, P1897_7, P1897_8, P1897_9, P1897_10, P1897_11, P1897_12, P1897_13, P1897_14⟩
              show Goes p e below _ T1897 (mkF m 234 #[sI x0, sI x1, sJ x2, s2, sI x3, sJ x4, s2, sI x5, sR z1, sR ya1511, sR yb1542, sR a1579, sI 1, sI md] [])
              have C1902 := P1859_4.keep K1897
              have ni1918 := (ninS ne1622.symm (ninS ne1746 (ninS ne1624.symm (ninS D1618_0 nin0))))
              have C1917 := P1859_5.keep K1897 ni1918
              have Z1921 := Nat.le_trans Z1892 K1897.1
              have Z1922 := Nat.le_trans Z1893 K1897.1
              have RR1924 := RR1895.trans (CHr.keep K1897 (allS (Safe.exa hZ1542.alike C1862 (by decide) (by decide)) (allS (Safe.exa hZ1542.alike C1886 (by decide) (by decide)) (allS (Safe.exa hZ1542.alike C1863 (by decide) (by decide)) (allS (Rbk.safe hZ1542.alike C1884) all0)))) RR1895.1)
              refine Goes.on (T' := T1897) (g' := (mkF m 241 #[sI x0, sI x1, sJ x2, s2, sI x3, sJ x4, s2, sI x5, sR z1, sR ya1511, sR yb1542, sR a1579, sI 1, sI md] [(.ref a1579)])) (fun _ k => XS.iload X1897.here hx rfl (dc at_234) rfl (XS.ifNo X1897.here hx rfl (dc at_236) rfl (XT.i0_eq_f (by decide)) (XS.aload X1897.here hx rfl (dc at_239) rfl rfl k))) ?_
              refine Goes.callV X1897 hx hZ1542 0 hown1542 (ow 223 rfl) (ow 224 rfl) (notFace_of_selects (args := #[]) (mvT hZ1542 (ow 226 rfl))) (ow 226 rfl) (ow 225 rfl) (ow 172 rfl) (ow 227 rfl) (by decide) rfl P1897_8 (rmEi1 l Z a0 hw a1579 ya1618 T1897.heap n0 Z1921  P1897_8 P1897_9 C1902 C1917 P1897_10 ) (by decide) (by decide) (by decide) (by decide) rfl (by rw [hml]; rfl) (argsL := []) (rest := []) rfl (lenOf pd_3 rfl) rfl (own_le20 rfl) (dc at_241) ?_
              rintro v1925 T1925 L1925 X1925 ⟨rfl, N1925q, e1925⟩
              have N1925 := Fr.app (Fr.app (Fr.app (Fr.app N1788 N1859q) N1896q) N1897q) N1925q
              show Goes p e below _ T1925 (mkF m 244 #[sI x0, sI x1, sJ x2, s2, sI x3, sJ x4, s2, sI x5, sR z1, sR ya1511, sR yb1542, sR a1579, sI 1, sI md] [(.int 1)])
              refine Goes.on (T' := T1925) (g' := (mkF m 319 #[sI x0, sI x1, sJ x2, s2, sI x3, sJ x4, s2, sI x5, sR z1, sR ya1511, sR yb1542, sR a1579, sI 1, sI md] [(.int 1)])) (fun _ k => XS.ifNo X1925.here hx rfl (dc at_244) rfl (XT.i0_eq_f (by decide)) (XS.iconst X1925.here hx rfl (dc at_247) (XS.goto X1925.here hx rfl (pc0 := 248) (pc' := 252) rfl (dc at_248) (by decide) (by decide) (XS.istore X1925.here hx rfl (dc at_252) rfl (l' := #[sI x0, sI x1, sJ x2, s2, sI x3, sJ x4, s2, sI x5, sR z1, sR ya1511, sR yb1542, sR a1579, sI 1, sI md]) rfl (XS.goto X1925.here hx rfl (pc0 := 254) (pc' := 317) rfl (dc at_254) (by decide) (by decide) (XS.iload X1925.here hx rfl (dc at_317) rfl k)))))) ?_
              exact Goes.retBW X1925 hS1542 (by rw [e1925]; exact Z1922) hZ1542 hEL (by rw [e1925]; exact RR1924) hx hlk hret (Or.inr rfl) (dc at_319) (by decide) (by decide) ⟨rfl, N1925⟩
            · refine Goes.on (T' := T1788) (g' := (mkF m 260 #[sI x0, sI x1, sJ x2, s2, sI x3, sJ x4, s2, sI x5, sR z1, sR ya1511, sR yb1542, sR a1579, sI 1, sI md] [(.int 4), (.int md)])) (fun _ k => XS.icmpYes X1788.here hx rfl (pc0 := 197) (pc' := 257) rfl (dc at_197) rfl (XT.ii_ne_t hc1858) (by decide) (by decide) (XS.iload X1788.here hx rfl (dc at_257) rfl (XS.iconst X1788.here hx rfl (dc at_259) k))) ?_
              by_cases hc1926 : md = (4 : Int32)
              · refine Goes.on (T' := T1788) (g' := (mkF m 267 #[sI x0, sI x1, sJ x2, s2, sI x3, sJ x4, s2, sI x5, sR z1, sR ya1511, sR yb1542, sR a1579, sI 1, sI md] [(.ref yb1542), (.ref a1579)])) (fun _ k => XS.icmpNo X1788.here hx rfl (dc at_260) rfl (XT.ii_ne_f hc1926) (XS.aload X1788.here hx rfl (dc at_263) rfl rfl (XS.aload X1788.here hx rfl (dc at_265) rfl rfl k))) ?_
                refine Goes.callV X1788 hx hZ1542 0 hown1542 (ow 287 rfl) (ow 288 rfl) (notFace_of_selects (args := #[]) (mvT hZ1542 (ow 290 rfl))) (ow 290 rfl) (ow 289 rfl) (ow 172 rfl) (ow 291 rfl) (by decide) e1788 P1740_0 (rmRL1 l Z a0 hw a1579 yb1542 ya1618 yd1618 yb1618 ye1618 ya1740 T1740.heap n0 Z1784  P1740_1 P1740_2 P1740_3 P1740_4 P1740_15 P1740_16 P1740_17 P1740_18 P1740_0 P1740_11 P1740_7 P1740_12 P1740_8 P1740_9 C1768 C1769 P1740_13 ne1604.symm ne1745 ne1634 ne1743 ne1632 ne1622.symm ne1746 ne1624.symm D1618_0 ne1652.symm ne1749 ne1654.symm D1618_5.symm ne1747 ne1662.symm ne1750 ne1664.symm D1618_6.symm G1558 G1754 G1579 G1638 ) (by decide) (by decide) (by decide) (by decide) rfl (by rw [hml]; rfl) (argsL := [(.ref yb1542)]) (rest := []) rfl (lenOf pd_29 rfl) rfl (own_le20 rfl) (dc at_267) ?_
                rintro v1927 T1927 L1927 X1927 ⟨rfl, N1927q, K1927, P1927_0, P1927_1, P1927_2, P1927_3, P1927_4, P1927_5, P1927_6, P1927_7, P1927_8, P1927_9, P1927_10, P1927_11, P1927_12, P1927_13, P1927_14⟩
                show Goes p e below _ T1927 (mkF m 270 #[sI x0, sI x1, sJ x2, s2, sI x3, sJ x4, s2, sI x5, sR z1, sR ya1511, sR yb1542, sR a1579, sI 1, sI md] [])
                have C1929 := C1756.keep K1927
                have C1932 := C1766.keep K1927
                have ni1943 := (ninS ne1551 (ninS ne1741 (ninS ne1601 (ninS ne1629 nin0))))
                have C1942 := C1776.keep K1927 ni1943
                have C1944 := C1778.keep K1927 ni1943
                have C1945 := C1779.keep K1927 ni1943
                have ni1947 := (ninS ne1622.symm (ninS ne1746 (ninS ne1624.symm (ninS D1618_0 nin0))))
                have C1946 := C1780.keep K1927 ni1947
                have C1948 := C1782.keep K1927 ni1947
                have C1949 := C1783.keep K1927 ni1947
                have Z1951 := Nat.le_trans Z1784 K1927.1
                have Z1952 := Nat.le_trans Z1785 K1927.1
                have RR1954 := RR1787.trans (CHr.keep K1927 (allS (Safe.exa hZ1542.alike P1740_1 (by decide) (by decide)) (allS (Safe.exa hZ1542.alike P1740_15 (by decide) (by decide)) (allS (Safe.exa hZ1542.alike P1740_0 (by decide) (by decide)) (allS (Rbk.safe hZ1542.alike P1740_13) all0)))) RR1787.1)
                refine Goes.on (T' := T1927) (g' := (mkF m 277 #[sI x0, sI x1, sJ x2, s2, sI x3, sJ x4, s2, sI x5, sR z1, sR ya1511, sR yb1542, sR a1579, sI 1, sI md] [(.ref a1579)])) (fun _ k => XS.iload X1927.here hx rfl (dc at_270) rfl (XS.ifNo X1927.here hx rfl (dc at_272) rfl (XT.i0_eq_f (by decide)) (XS.aload X1927.here hx rfl (dc at_275) rfl rfl k))) ?_
                refine Goes.callV X1927 hx hZ1542 0 hown1542 (ow 223 rfl) (ow 224 rfl) (notFace_of_selects (args := #[]) (mvT hZ1542 (ow 226 rfl))) (ow 226 rfl) (ow 225 rfl) (ow 172 rfl) (ow 227 rfl) (by decide) rfl P1927_8 (rmEiR l Z a0 hw a1579 ya1618 ya1511 T1927.heap n0 Z1951  P1927_8 P1927_9 C1932 C1946 ) (by decide) (by decide) (by decide) (by decide) rfl (by rw [hml]; rfl) (argsL := []) (rest := []) rfl (lenOf pd_3 rfl) rfl (own_le20 rfl) (dc at_277) ?_
                rintro v1955 T1955 L1955 X1955 ⟨rfl, N1955q, e1955⟩
                show Goes p e below _ T1955 (mkF m 280 #[sI x0, sI x1, sJ x2, s2, sI x3, sJ x4, s2, sI x5, sR z1, sR ya1511, sR yb1542, sR a1579, sI 1, sI md] [(.int 0)])
                refine Goes.on (T' := T1955) (g' := (mkF m 294 #[sI x0, sI x1, sJ x2, s2, sI x3, sJ x4, s2, sI x5, sR z1, sR ya1511, sR yb1542, sR a1579, sI 1, sI md] [(.ref ya1511), (.ref a1579)])) (fun _ k => XS.ifNo X1955.here hx rfl (dc at_280) rfl (XT.i0_ne_f (by decide)) (XS.iconst X1955.here hx rfl (dc at_283) (XS.goto X1955.here hx rfl (pc0 := 284) (pc' := 288) rfl (dc at_284) (by decide) (by decide) (XS.istore X1955.here hx rfl (dc at_288) rfl (l' := #[sI x0, sI x1, sJ x2, s2, sI x3, sJ x4, s2, sI x5, sR z1, sR ya1511, sR yb1542, sR a1579, sI 1, sI md]) rfl (XS.aload X1955.here hx rfl (dc at_290) rfl rfl (XS.aload X1955.here hx rfl (dc at_292) rfl rfl k)))))) ?_
                refine Goes.callV X1955 hx hZ1542 0 hown1542 (ow 287 rfl) (ow 288 rfl) (notFace_of_selects (args := #[]) (mvT hZ1542 (ow 290 rfl))) (ow 290 rfl) (ow 289 rfl) (ow 172 rfl) (ow 291 rfl) (by decide) e1955 P1927_8 (rmRM1 l Z a0 hw a1579 ya1511 ya1618 T1927.heap n0 Z1951  C1929 C1942 C1944 C1945 C1932 C1946 C1948 C1949 P1927_8 P1927_9 ne1601.symm ne1624 ne1619 G1517 G1628 ) (by decide) (by decide) (by decide) (by decide) rfl (by rw [hml]; rfl) (argsL := [(.ref ya1511)]) (rest := []) rfl (lenOf pd_29 rfl) rfl (own_le20 rfl) (dc at_294) ?_
                rintro v1956 T1956 L1956 X1956 ⟨rfl, N1956q, K1956, P1956_0, P1956_1, P1956_2, P1956_3, P1956_4, P1956_5, P1956_6, P1956_7⟩
                show Goes p e below _ T1956 (mkF m 297 #[sI x0, sI x1, sJ x2, s2, sI x3, sJ x4, s2, sI x5, sR z1, sR ya1511, sR yb1542, sR a1579, sI 1, sI md] [])
                have C1960 := P1927_8.keep K1956
                have ni1981 := (ninS ne1601.symm (ninS ne1624 nin0))
                have C1980 := P1927_9.keep K1956 ni1981
                have C1982 := P1927_10.keep K1956 ni1981
                have Z1988 := Nat.le_trans Z1951 K1956.1
                have Z1989 := Nat.le_trans Z1952 K1956.1
                have RR1991 := RR1954.trans (CHr.keep K1956 (allS (Safe.exa hZ1542.alike C1929 (by decide) (by decide)) (allS (Safe.exa hZ1542.alike C1932 (by decide) (by decide)) all0)) RR1954.1)
                refine Goes.on (T' := T1956) (g' := (mkF m 304 #[sI x0, sI x1, sJ x2, s2, sI x3, sJ x4, s2, sI x5, sR z1, sR ya1511, sR yb1542, sR a1579, sI 1, sI md] [(.ref a1579)])) (fun _ k => XS.iload X1956.here hx rfl (dc at_297) rfl (XS.ifNo X1956.here hx rfl (dc at_299) rfl (XT.i0_eq_f (by decide)) (XS.aload X1956.here hx rfl (dc at_302) rfl rfl k))) ?_
                refine Goes.callV X1956 hx hZ1542 0 hown1542 (ow 223 rfl) (ow 224 rfl) (notFace_of_selects (args := #[]) (mvT hZ1542 (ow 226 rfl))) (ow 226 rfl) (ow 225 rfl) (ow 172 rfl) (ow 227 rfl) (by decide) rfl C1960 (rmEi1 l Z a0 hw a1579 ya1618 T1956.heap n0 Z1988  C1960 C1980 P1956_4 P1956_5 C1982 ) (by decide) (by decide) (by decide) (by decide) rfl (by rw [hml]; rfl) (argsL := []) (rest := []) rfl (lenOf pd_3 rfl) rfl (own_le20 rfl) (dc at_304) ?_
                rintro v1992 T1992 L1992 X1992 ⟨rfl, N1992q, e1992⟩
                have N1992 := Fr.app (Fr.app (Fr.app (Fr.app N1788 N1927q) N1955q) N1956q) N1992q
                show Goes p e below _ T1992 (mkF m 307 #[sI x0, sI x1, sJ x2, s2, sI x3, sJ x4, s2, sI x5, sR z1, sR ya1511, sR yb1542, sR a1579, sI 1, sI md] [(.int 1)])
                refine Goes.on (T' := T1992) (g' := (mkF m 319 #[sI x0, sI x1, sJ x2, s2, sI x3, sJ x4, s2, sI x5, sR z1, sR ya1511, sR yb1542, sR a1579, sI 1, sI md] [(.int 1)])) (fun _ k => XS.ifNo X1992.here hx rfl (dc at_307) rfl (XT.i0_eq_f (by decide)) (XS.iconst X1992.here hx rfl (dc at_310) (XS.goto X1992.here hx rfl (pc0 := 311) (pc' := 315) rfl (dc at_311) (by decide) (by decide) (XS.istore X1992.here hx rfl (dc at_315) rfl (l' := #[sI x0, sI x1, sJ x2, s2, sI x3, sJ x4, s2, sI x5, sR z1, sR ya1511, sR yb1542, sR a1579, sI 1, sI md]) rfl (XS.iload X1992.here hx rfl (dc at_317) rfl k))))) ?_
                exact Goes.retBW X1992 hS1542 (by rw [e1992]; exact Z1989) hZ1542 hEL (by rw [e1992]; exact RR1991) hx hlk hret (Or.inr rfl) (dc at_319) (by decide) (by decide) ⟨rfl, N1992⟩
              · refine Goes.on (T' := T1788) (g' := (mkF m 319 #[sI x0, sI x1, sJ x2, s2, sI x3, sJ x4, s2, sI x5, sR z1, sR ya1511, sR yb1542, sR a1579, sI 1, sI md] [(.int 1)])) (fun _ k => XS.icmpYes X1788.here hx rfl (pc0 := 260) (pc' := 317) rfl (dc at_260) rfl (XT.ii_ne_t hc1926) (by decide) (by decide) (XS.iload X1788.here hx rfl (dc at_317) rfl k)) ?_
                exact Goes.retBW X1788 hS1542 (by rw [e1788]; exact Z1785) hZ1542 hEL (by rw [e1788]; exact RR1787) hx hlk hret (Or.inr rfl) (dc at_319) (by decide) (by decide) ⟨rfl, N1788⟩
      · refine Goes.callSW X1529 hx hZ1529 hS1529 hk1529 hEL RR1529.1 0 hown1529 (ow 11 rfl) (ow 12 rfl) (ow 13 rfl) (ow 14 rfl) (by decide) e1529 (rmRsM l Z a0 hw a1529 z1 b1529 kb1529 (98 : Int32) x3 x4 h1529 n0 Z1538 C1530 cs SC hcs sf SF hsf ic SI icf IC hic97 hic98 hEL em SE EXE FE Q1529 (Or.inr rfl) hc1541) (by decide) (by decide) (by decide) (by decide) rfl (by rw [hml]; rfl) (argsL := [(.ref a1529), (.ref z1), (.int x3), (.long x4)]) (rest := []) rfl (lenOf pd_27 rfl) rfl (own_le20 rfl) (dc at_36) ?_
        intro v1993 T1993 L1993 k1993 X1993 hS1993 hk1993 hZ1993 hown1993 R1993 hQ1993
        obtain ⟨ya1993, yb1993, rfl, N1993q, K1993, P1993_0, P1993_1, P1993_2, P1993_3, P1993_4, P1993_5, P1993_6, M1993_0, M1993_1, D1993_0⟩ := hQ1993
        show Goes p e below _ T1993 (mkF m 39 #[sI x0, sI x1, sJ x2, s2, sI x3, sJ x4, s2, sI x5, sR z1, sR ya1511, su, su, su, su] [(.ref ya1993)])
        have RR1993 := RR1529.trans R1993
        have ne1994 := own_neL C1531.lt M1993_0
        have ne2000 := own_neL (Exa.lt (Exa.ext C1530.2 EXE)) M1993_0
        have G2001 : n0 ≤ ya1993 := Nat.le_trans Z1538 M1993_0
        have ne2002 := own_neL C1531.lt M1993_1
        have C2011 := C1531.keep K1993
        have C2012 := C1532.keep K1993
        have Z2019 := Nat.le_trans Z1538 K1993.1
        obtain ⟨T2022, h2022, X2022, e2022, E2022, A2022, D2022, U2022, st2022⟩ := newO X1993 hx hZ1993 hown1993 (ow 170 rfl) (ow 171 rfl) (ow 172 rfl) rfl (g := (mkF m 41 #[sI x0, sI x1, sJ x2, s2, sI x3, sJ x4, s2, sI x5, sR z1, sR ya1511, sR ya1993, su, su, su] [])) rfl (dc at_41) (by decide) (by decide)
        obtain ⟨a2022, g2022⟩ : ∃ z, z = T1993.heap.size := ⟨_, rfl⟩
        rw [← g2022] at A2022 D2022 U2022 st2022
        have C2023 := (C1530.keep K1993 all0).ext E2022
        have C2024 := C2011.ext E2022
        have C2025 := C2012.ext E2022
        have C2031 := P1993_0.ext E2022
        have C2032 := P1993_1.ext E2022
        have ne2041 := own_neG C2011.lt g2022
        have ne2042 := own_neG C2012.lt g2022
        have ne2043 := own_neG P1993_0.lt g2022
        have ne2044 := own_neG P1993_1.lt g2022
        have Z2045 := Nat.le_trans Z2019 E2022.1
        have Z2046 := Nat.le_trans hk1993 E2022.1
        have RR2048 := RR1993.trans (CHr.ext E2022 RR1993.1)
        have F2049 : Fld Z h2022 a2022 "com/example/uncross/uncross/engine/BookSide" "levels" "[Lcom/example/uncross/uncross/engine/BookSide$Level;" .null := D2022 (Or.inl (ow 190 rfl)) (ty := (.array (.object "com/example/uncross/uncross/engine/BookSide$Level"))) (by decide)
        have F2050 : Fld Z h2022 a2022 "com/example/uncross/uncross/engine/BookSide" "keys" "[J" .null := D2022 (Or.inl (ow 193 rfl)) (ty := (.array .long)) (by decide)
        have F2051 : Fld Z h2022 a2022 "com/example/uncross/uncross/engine/BookSide" "levelCount" "I" (.int 0) := D2022 (Or.inl (ow 195 rfl)) (ty := .int) (by decide)
        have F2052 : Fld Z h2022 a2022 "com/example/uncross/uncross/engine/BookSide" "emptyLevels" "I" (.int 0) := D2022 (Or.inl (ow 303 rfl)) (ty := .int) (by decide)
        have F2053 : Fld Z h2022 a2022 "com/example/uncross/uncross/engine/BookSide" "markets" "Lcom/example/uncross/uncross/engine/BookSide$Level;" .null := D2022 (Or.inr (ow 187 rfl)) (ty := (.object "com/example/uncross/uncross/engine/BookSide$Level")) (by decide)
        have F2054 : Fld Z h2022 a2022 "com/example/uncross/uncross/engine/BookSide" "deep" "Ljava/util/TreeMap;" .null := D2022 (Or.inr (ow 216 rfl)) (ty := (.object "java/util/TreeMap")) (by decide)
        have F2055 : Fld Z h2022 a2022 "com/example/uncross/uncross/engine/BookSide" "buying" "Z" (.int 0) := D2022 (Or.inr (ow 220 rfl)) (ty := .boolean) (by decide)
        have G2022 : n0 ≤ a2022 := Nat.le_trans Z2019 (Nat.le_of_eq g2022.symm)
        obtain ⟨zb, hzb⟩ : ∃ z : Int32, (z = 1 ∧ z1 = k1) ∨ (z = 0 ∧ z1 ≠ k1) := by
          by_cases q : z1 = k1
          · exact ⟨1, Or.inl ⟨rfl, q⟩⟩
          · exact ⟨0, Or.inr ⟨rfl, q⟩⟩
        refine Goes.on (T' := T2022) (g' := (mkF m 47 #[sI x0, sI x1, sJ x2, s2, sI x3, sJ x4, s2, sI x5, sR z1, sR ya1511, sR ya1993, su, su, su] [(.ref z1), (.ref a2022), (.ref a2022)])) (fun _ k => XS.astore X1993.here hx rfl (dc at_39) rfl rfl (l' := #[sI x0, sI x1, sJ x2, s2, sI x3, sJ x4, s2, sI x5, sR z1, sR ya1511, sR ya1993, su, su, su]) rfl (st2022 _ (XS.dup X2022.here hx rfl (dc at_44) rfl rfl (XS.aload X2022.here hx rfl (dc at_45) rfl rfl k)))) ?_
        refine Goes.callC X2022 hx hZ1993 1 rfl hown1993 (ow 173 rfl) (ow 174 rfl) (ow 172 rfl) (ow 175 rfl) (by decide) e2022 (rmBi l Z a0 hw a2022 z1 k1 zb h2022 n0 Z2045 C2023 ST_k1 A2022 F2049 F2050 F2051 F2052 F2053 F2054 F2055 G2022 hzb) (by decide) (by decide) (by decide) (by decide) rfl (by rw [hml]; rfl) (a := a2022) (argsL := [(.ref z1)]) (rest := [(.ref a2022)]) rfl (lenOf pd_28 rfl) rfl (own_le20 rfl) (dc at_47) ?_
        rintro v2057 T2057 L2057 X2057 ⟨ya2057, yb2057, yc2057, yd2057, ye2057, rfl, N2057q, K2057, P2057_0, P2057_1, P2057_2, P2057_3, P2057_4, P2057_5, P2057_6, P2057_7, P2057_8, P2057_9, P2057_10, P2057_11, P2057_12, P2057_13, P2057_14, P2057_15, P2057_16, P2057_17, P2057_18, P2057_19, P2057_20, M2057_0, M2057_1, M2057_2, M2057_3, M2057_4, D2057_0, D2057_1, D2057_2, D2057_3, D2057_4, D2057_5, D2057_6, D2057_7, D2057_8, D2057_9⟩
        show Goes p e below _ T2057 (mkF m 50 #[sI x0, sI x1, sJ x2, s2, sI x3, sJ x4, s2, sI x5, sR z1, sR ya1511, sR ya1993, su, su, su] [(.ref a2022)])
        have ne2058 := own_neL C2024.lt M2057_0
        have ne2059 := own_neL C2025.lt M2057_0
        have ne2060 := own_neL C2031.lt M2057_0
        have ne2061 := own_neL C2032.lt M2057_0
        have ne2062 := own_neL A2022.lt M2057_0
        have ne2065 := own_neL (Exa.lt (Exa.ext C2023.2 EXE)) M2057_0
        have G2066 : n0 ≤ ya2057 := Nat.le_trans Z2045 M2057_0
        have C2103 := C2023.keep K2057 (allS G2022 all0)
        have C2104 := C2024.keep K2057
        have C2105 := C2025.keep K2057
        have C2106 := ((C1533.keep K1993 nin0).ext E2022).keep K2057 (ninS ne2042 nin0)
        have C2107 := ((C1534.keep K1993 nin0).ext E2022).keep K2057 (ninS ne2041 nin0)
        have C2108 := ((C1535.keep K1993 nin0).ext E2022).keep K2057 (ninS ne2041 nin0)
        have C2109 := ((C1536.keep K1993 nin0).ext E2022).keep K2057 (ninS ne2041 nin0)
        have C2110 := ((C1537.keep K1993 nin0).ext E2022).keep K2057 (ninS ne2041 nin0)
        have Z2119 := Nat.le_trans Z2045 K2057.1
        have Z2120 := Nat.le_trans Z2046 K2057.1
        have RR2122 := RR2048.trans (CHr.keep K2057 (allS (Safe.exa hZ1993.alike A2022 (by decide) (by decide)) all0) RR2048.1)
        refine Goes.on (T' := T2057) (g' := (mkF m 54 #[sI x0, sI x1, sJ x2, s2, sI x3, sJ x4, s2, sI x5, sR z1, sR ya1511, sR ya1993, sR a2022, su, su] [(.ref a2022)])) (fun _ k => XS.astore X2057.here hx rfl (dc at_50) rfl rfl (l' := #[sI x0, sI x1, sJ x2, s2, sI x3, sJ x4, s2, sI x5, sR z1, sR ya1511, sR ya1993, sR a2022, su, su]) rfl (XS.aload X2057.here hx rfl (dc at_52) rfl rfl k)) ?_
        refine Goes.callV X2057 hx hZ1993 0 hown1993 (ow 223 rfl) (ow 224 rfl) (notFace_of_selects (args := #[]) (mvT hZ1993 (ow 226 rfl))) (ow 226 rfl) (ow 225 rfl) (ow 172 rfl) (ow 227 rfl) (by decide) rfl P2057_0 (rmEi1 l Z a0 hw a2022 ya2057 T2057.heap n0 Z2119  P2057_0 P2057_5 P2057_8 P2057_9 P2057_3 ) (by decide) (by decide) (by decide) (by decide) rfl (by rw [hml]; rfl) (argsL := []) (rest := []) rfl (lenOf pd_3 rfl) rfl (own_le20 rfl) (dc at_54) ?_
        rintro v2123 T2123 L2123 X2123 ⟨rfl, N2123q, e2123⟩
        show Goes p e below _ T2123 (mkF m 57 #[sI x0, sI x1, sJ x2, s2, sI x3, sJ x4, s2, sI x5, sR z1, sR ya1511, sR ya1993, sR a2022, su, su] [(.int 1)])
        refine Goes.on (T' := T2123) (g' := (mkF m 63 #[sI x0, sI x1, sJ x2, s2, sI x3, sJ x4, s2, sI x5, sR z1, sR ya1511, sR ya1993, sR a2022, sI 1, su] [(.ref ya1511), (.ref a2022)])) (fun _ k => XS.istore X2123.here hx rfl (dc at_57) rfl (l' := #[sI x0, sI x1, sJ x2, s2, sI x3, sJ x4, s2, sI x5, sR z1, sR ya1511, sR ya1993, sR a2022, sI 1, su]) rfl (XS.aload X2123.here hx rfl (dc at_59) rfl rfl (XS.aload X2123.here hx rfl (dc at_61) rfl rfl k))) ?_
        refine Goes.callV X2123 hx hZ1993 0 hown1993 (ow 230 rfl) (ow 231 rfl) (notFace_of_selects (args := #[]) (mvT hZ1993 (ow 233 rfl))) (ow 233 rfl) (ow 232 rfl) (ow 172 rfl) (ow 234 rfl) (by decide) e2123 P2057_0 (rmAm0 l Z a0 hw a2022 ya1511 ya2057 yb1511 em T2057.heap n0 Z2119  C2104 C2107 C2108 C2109 C2110 C2105 C2106 (Exa.ext C2103.2 EXE) (Fld.ext C2103.2 FE) P2057_0 P2057_5 P2057_8 P2057_9 P2057_10 P2057_11 ne2058 ne2041.symm ne2062 D1511_0.symm ne2059 ne1516 ne2065 G1517 G2066 ) (by decide) (by decide) (by decide) (by decide) rfl (by rw [hml]; rfl) (argsL := [(.ref ya1511)]) (rest := []) rfl (lenOf pd_29 rfl) rfl (own_le20 rfl) (dc at_63) ?_
        rintro v2124 T2124 L2124 X2124 ⟨rfl, N2124q, K2124, P2124_0, P2124_1, P2124_2, P2124_3, P2124_4, P2124_5, P2124_6, P2124_7, P2124_8⟩
        show Goes p e below _ T2124 (mkF m 66 #[sI x0, sI x1, sJ x2, s2, sI x3, sJ x4, s2, sI x5, sR z1, sR ya1511, sR ya1993, sR a2022, sI 1, su] [])
        have C2125 := C2103.keep K2124 (allS G1517 (allS G2066 all0))
        have C2130 := (C2031.keep K2057).keep K2124
        have C2131 := (C2032.keep K2057).keep K2124
        have ni2133 := (ninS ne2002.symm (ninS ne2061 nin0))
        have C2132 := ((P1993_2.ext E2022).keep K2057 (ninS ne2044 nin0)).keep K2124 ni2133
        have ni2135 := (ninS ne1994.symm (ninS ne2060 nin0))
        have C2134 := ((P1993_3.ext E2022).keep K2057 (ninS ne2043 nin0)).keep K2124 ni2135
        have C2136 := ((P1993_4.ext E2022).keep K2057 (ninS ne2043 nin0)).keep K2124 ni2135
        have C2137 := ((P1993_5.ext E2022).keep K2057 (ninS ne2043 nin0)).keep K2124 ni2135
        have C2138 := ((P1993_6.ext E2022).keep K2057 (ninS ne2043 nin0)).keep K2124 ni2135
        have C2139 := P2057_0.keep K2124
        have ni2141 := (ninS ne2041.symm (ninS ne2062 nin0))
        have C2145 := P2057_5.keep K2124 ni2141
        have Z2162 := Nat.le_trans Z2119 K2124.1
        have Z2163 := Nat.le_trans Z2120 K2124.1
        have RR2165 := RR2122.trans (CHr.keep K2124 (allS (Safe.exa hZ1993.alike C2104 (by decide) (by decide)) (allS (Safe.exa hZ1993.alike P2057_8 (by decide) (by decide)) all0)) RR2122.1)
        refine Goes.on (T' := T2124) (g' := (mkF m 73 #[sI x0, sI x1, sJ x2, s2, sI x3, sJ x4, s2, sI x5, sR z1, sR ya1511, sR ya1993, sR a2022, sI 1, su] [(.ref a2022)])) (fun _ k => XS.iload X2124.here hx rfl (dc at_66) rfl (XS.ifNo X2124.here hx rfl (dc at_68) rfl (XT.i0_eq_f (by decide)) (XS.aload X2124.here hx rfl (dc at_71) rfl rfl k))) ?_
        refine Goes.callV X2124 hx hZ1993 0 hown1993 (ow 223 rfl) (ow 224 rfl) (notFace_of_selects (args := #[]) (mvT hZ1993 (ow 226 rfl))) (ow 226 rfl) (ow 225 rfl) (ow 172 rfl) (ow 227 rfl) (by decide) rfl C2139 (rmEiR l Z a0 hw a2022 ya2057 ya1511 T2124.heap n0 Z2162  C2139 C2145 P2124_5 P2124_6 ) (by decide) (by decide) (by decide) (by decide) rfl (by rw [hml]; rfl) (argsL := []) (rest := []) rfl (lenOf pd_3 rfl) rfl (own_le20 rfl) (dc at_73) ?_
        rintro v2166 T2166 L2166 X2166 ⟨rfl, N2166q, e2166⟩
        show Goes p e below _ T2166 (mkF m 76 #[sI x0, sI x1, sJ x2, s2, sI x3, sJ x4, s2, sI x5, sR z1, sR ya1511, sR ya1993, sR a2022, sI 1, su] [(.int 0)])
        refine Goes.on (T' := T2166) (g' := (mkF m 90 #[sI x0, sI x1, sJ x2, s2, sI x3, sJ x4, s2, sI x5, sR z1, sR ya1511, sR ya1993, sR a2022, sI 1, su] [(.ref ya1993), (.ref a2022)])) (fun _ k => XS.ifNo X2166.here hx rfl (dc at_76) rfl (XT.i0_ne_f (by decide)) (XS.iconst X2166.here hx rfl (dc at_79) (XS.goto X2166.here hx rfl (pc0 := 80) (pc' := 84) rfl (dc at_80) (by decide) (by decide) (XS.istore X2166.here hx rfl (dc at_84) rfl (l' := #[sI x0, sI x1, sJ x2, s2, sI x3, sJ x4, s2, sI x5, sR z1, sR ya1511, sR ya1993, sR a2022, sI 1, su]) rfl (XS.aload X2166.here hx rfl (dc at_86) rfl rfl (XS.aload X2166.here hx rfl (dc at_88) rfl rfl k)))))) ?_
        refine Goes.callV X2166 hx hZ1993 0 hown1993 (ow 230 rfl) (ow 231 rfl) (notFace_of_selects (args := #[]) (mvT hZ1993 (ow 233 rfl))) (ow 233 rfl) (ow 232 rfl) (ow 172 rfl) (ow 234 rfl) (by decide) e2166 C2139 (rmAm1 l Z a0 hw a2022 ya1993 ya2057 yb1993 em ya1511 T2124.heap n0 Z2162  C2130 C2134 C2136 C2137 C2138 C2131 C2132 (Exa.ext C2125.2 EXE) (Fld.ext C2125.2 FE) C2139 C2145 P2124_5 P2124_6 P2124_7 P2124_8 P2124_0 P2124_3 P2124_2 P2124_1 ne2060 ne1994.symm ne2058.symm ne2043.symm ne2062 ne2041.symm D1993_0.symm ne2061 ne2002.symm ne2000 ne2065 ne1516 G2001 G2066 G1517 ) (by decide) (by decide) (by decide) (by decide) rfl (by rw [hml]; rfl) (argsL := [(.ref ya1993)]) (rest := []) rfl (lenOf pd_29 rfl) rfl (own_le20 rfl) (dc at_90) ?_
        rintro v2167 T2167 L2167 X2167 ⟨rfl, N2167q, K2167, P2167_0, P2167_1, P2167_2, P2167_3, P2167_4, P2167_5, P2167_6, P2167_7, P2167_8, P2167_9, P2167_10, P2167_11, P2167_12⟩
        show Goes p e below _ T2167 (mkF m 93 #[sI x0, sI x1, sJ x2, s2, sI x3, sJ x4, s2, sI x5, sR z1, sR ya1511, sR ya1993, sR a2022, sI 1, su] [])
        have C2174 := C2139.keep K2167
        have ni2176 := (ninS ne2043.symm (ninS ne2062 (ninS ne2041.symm nin0)))
        have C2178 := (P2057_3.keep K2124 ni2141).keep K2167 ni2176
        have C2180 := C2145.keep K2167 ni2176
        have Z2197 := Nat.le_trans Z2162 K2167.1
        have Z2198 := Nat.le_trans Z2163 K2167.1
        have RR2200 := RR2165.trans (CHr.keep K2167 (allS (Safe.exa hZ1993.alike C2130 (by decide) (by decide)) (allS (Safe.exa hZ1993.alike P2124_5 (by decide) (by decide)) (allS (Safe.exa hZ1993.alike P2124_0 (by decide) (by decide)) all0))) RR2165.1)
        refine Goes.on (T' := T2167) (g' := (mkF m 100 #[sI x0, sI x1, sJ x2, s2, sI x3, sJ x4, s2, sI x5, sR z1, sR ya1511, sR ya1993, sR a2022, sI 1, su] [(.ref a2022)])) (fun _ k => XS.iload X2167.here hx rfl (dc at_93) rfl (XS.ifNo X2167.here hx rfl (dc at_95) rfl (XT.i0_eq_f (by decide)) (XS.aload X2167.here hx rfl (dc at_98) rfl rfl k))) ?_
        refine Goes.callV X2167 hx hZ1993 0 hown1993 (ow 223 rfl) (ow 224 rfl) (notFace_of_selects (args := #[]) (mvT hZ1993 (ow 226 rfl))) (ow 226 rfl) (ow 225 rfl) (ow 172 rfl) (ow 227 rfl) (by decide) rfl C2174 (rmEiR l Z a0 hw a2022 ya2057 ya1511 T2167.heap n0 Z2197  C2174 C2180 P2167_5 P2167_6 ) (by decide) (by decide) (by decide) (by decide) rfl (by rw [hml]; rfl) (argsL := []) (rest := []) rfl (lenOf pd_3 rfl) rfl (own_le20 rfl) (dc at_100) ?_
        rintro v2201 T2201 L2201 X2201 ⟨rfl, N2201q, e2201⟩
        have N2201 := Fr.app (Fr.app (Fr.app (Fr.app (Fr.app (Fr.app (Fr.app N1511 N1993q) N2057q) N2123q) N2124q) N2166q) N2167q) N2201q
        show Goes p e below _ T2201 (mkF m 103 #[sI x0, sI x1, sJ x2, s2, sI x3, sJ x4, s2, sI x5, sR z1, sR ya1511, sR ya1993, sR a2022, sI 1, su] [(.int 0)])
        refine Goes.on (T' := T2201) (g' := (mkF m 120 #[sI x0, sI x1, sJ x2, s2, sI x3, sJ x4, s2, sI x5, sR z1, sR ya1511, sR ya1993, sR a2022, sI 1, su] [(.int ((x5 &&& (2147483647 : Int32)) % (5 : Int32)))])) (fun _ k => XS.ifNo X2201.here hx rfl (dc at_103) rfl (XT.i0_ne_f (by decide)) (XS.iconst X2201.here hx rfl (dc at_106) (XS.goto X2201.here hx rfl (pc0 := 107) (pc' := 111) rfl (dc at_107) (by decide) (by decide) (XS.istore X2201.here hx rfl (dc at_111) rfl (l' := #[sI x0, sI x1, sJ x2, s2, sI x3, sJ x4, s2, sI x5, sR z1, sR ya1511, sR ya1993, sR a2022, sI 1, su]) rfl (XS.iload X2201.here hx rfl (dc at_113) rfl (X2201.ldcInt hx hown1993 (mvT hZ1993 (ow 286 rfl)) (g := (mkF m 115 #[sI x0, sI x1, sJ x2, s2, sI x3, sJ x4, s2, sI x5, sR z1, sR ya1511, sR ya1993, sR a2022, sI 1, su] [(.int x5)])) rfl (dc at_115) _ (XS.iand X2201.here hx rfl (dc at_117) rfl (XS.iconst X2201.here hx rfl (dc at_118) (iremM X2201 hx rfl (dc at_119) rfl (by decide) k))))))))) ?_
        generalize ((x5 &&& (2147483647 : Int32)) % (5 : Int32)) = md
        refine Goes.on (T' := T2201) (g' := (mkF m 125 #[sI x0, sI x1, sJ x2, s2, sI x3, sJ x4, s2, sI x5, sR z1, sR ya1511, sR ya1993, sR a2022, sI 1, sI md] [(.int 1), (.int md)])) (fun _ k => XS.istore X2201.here hx rfl (dc at_120) rfl (l' := #[sI x0, sI x1, sJ x2, s2, sI x3, sJ x4, s2, sI x5, sR z1, sR ya1511, sR ya1993, sR a2022, sI 1, sI md]) rfl (XS.iload X2201.here hx rfl (dc at_122) rfl (XS.iconst X2201.here hx rfl (dc at_124) k))) ?_
        by_cases hc2202 : md = (1 : Int32)
        · refine Goes.on (T' := T2201) (g' := (mkF m 132 #[sI x0, sI x1, sJ x2, s2, sI x3, sJ x4, s2, sI x5, sR z1, sR ya1511, sR ya1993, sR a2022, sI 1, sI md] [(.ref ya1511), (.ref a2022)])) (fun _ k => XS.icmpNo X2201.here hx rfl (dc at_125) rfl (XT.ii_ne_f hc2202) (XS.aload X2201.here hx rfl (dc at_128) rfl rfl (XS.aload X2201.here hx rfl (dc at_130) rfl rfl k))) ?_
          refine Goes.callV X2201 hx hZ1993 0 hown1993 (ow 287 rfl) (ow 288 rfl) (notFace_of_selects (args := #[]) (mvT hZ1993 (ow 290 rfl))) (ow 290 rfl) (ow 289 rfl) (ow 172 rfl) (ow 291 rfl) (by decide) e2201 C2174 (rmR2a l Z a0 hw a2022 ya1511 ya1993 ya2057 T2167.heap n0 Z2197  P2167_9 P2167_12 P2167_11 P2167_10 P2167_0 P2167_2 P2167_3 P2167_1 P2167_5 P2167_6 P2167_7 P2167_8 ne2041.symm ne2043.symm ne2062 ne1994 ne2058 ne2060 G1517 G2001 G2066 ) (by decide) (by decide) (by decide) (by decide) rfl (by rw [hml]; rfl) (argsL := [(.ref ya1511)]) (rest := []) rfl (lenOf pd_29 rfl) rfl (own_le20 rfl) (dc at_132) ?_
          rintro v2203 T2203 L2203 X2203 ⟨rfl, N2203q, K2203, P2203_0, P2203_1, P2203_2, P2203_3, P2203_4, P2203_5, P2203_6, P2203_7, P2203_8, P2203_9, P2203_10, P2203_11⟩
          show Goes p e below _ T2203 (mkF m 135 #[sI x0, sI x1, sJ x2, s2, sI x3, sJ x4, s2, sI x5, sR z1, sR ya1511, sR ya1993, sR a2022, sI 1, sI md] [])
          have C2207 := C2174.keep K2203
          have ni2209 := (ninS ne2041.symm (ninS ne2043.symm (ninS ne2062 nin0)))
          have C2212 := C2180.keep K2203 ni2209
          have Z2226 := Nat.le_trans Z2197 K2203.1
          have Z2227 := Nat.le_trans Z2198 K2203.1
          have RR2229 := RR2200.trans (CHr.keep K2203 (allS (Safe.exa hZ1993.alike P2167_9 (by decide) (by decide)) (allS (Safe.exa hZ1993.alike P2167_0 (by decide) (by decide)) (allS (Safe.exa hZ1993.alike P2167_5 (by decide) (by decide)) all0))) RR2200.1)
          refine Goes.on (T' := T2203) (g' := (mkF m 142 #[sI x0, sI x1, sJ x2, s2, sI x3, sJ x4, s2, sI x5, sR z1, sR ya1511, sR ya1993, sR a2022, sI 1, sI md] [(.ref a2022)])) (fun _ k => XS.iload X2203.here hx rfl (dc at_135) rfl (XS.ifNo X2203.here hx rfl (dc at_137) rfl (XT.i0_eq_f (by decide)) (XS.aload X2203.here hx rfl (dc at_140) rfl rfl k))) ?_
          refine Goes.callV X2203 hx hZ1993 0 hown1993 (ow 223 rfl) (ow 224 rfl) (notFace_of_selects (args := #[]) (mvT hZ1993 (ow 226 rfl))) (ow 226 rfl) (ow 225 rfl) (ow 172 rfl) (ow 227 rfl) (by decide) rfl C2207 (rmEiR l Z a0 hw a2022 ya2057 ya1993 T2203.heap n0 Z2226  C2207 C2212 P2203_8 P2203_9 ) (by decide) (by decide) (by decide) (by decide) rfl (by rw [hml]; rfl) (argsL := []) (rest := []) rfl (lenOf pd_3 rfl) rfl (own_le20 rfl) (dc at_142) ?_
          rintro v2230 T2230 L2230 X2230 ⟨rfl, N2230q, e2230⟩
          have N2230 := Fr.app (Fr.app N2201 N2203q) N2230q
          show Goes p e below _ T2230 (mkF m 145 #[sI x0, sI x1, sJ x2, s2, sI x3, sJ x4, s2, sI x5, sR z1, sR ya1511, sR ya1993, sR a2022, sI 1, sI md] [(.int 0)])
          refine Goes.on (T' := T2230) (g' := (mkF m 319 #[sI x0, sI x1, sJ x2, s2, sI x3, sJ x4, s2, sI x5, sR z1, sR ya1511, sR ya1993, sR a2022, sI 1, sI md] [(.int 1)])) (fun _ k => XS.ifNo X2230.here hx rfl (dc at_145) rfl (XT.i0_ne_f (by decide)) (XS.iconst X2230.here hx rfl (dc at_148) (XS.goto X2230.here hx rfl (pc0 := 149) (pc' := 153) rfl (dc at_149) (by decide) (by decide) (XS.istore X2230.here hx rfl (dc at_153) rfl (l' := #[sI x0, sI x1, sJ x2, s2, sI x3, sJ x4, s2, sI x5, sR z1, sR ya1511, sR ya1993, sR a2022, sI 1, sI md]) rfl (XS.goto X2230.here hx rfl (pc0 := 155) (pc' := 317) rfl (dc at_155) (by decide) (by decide) (XS.iload X2230.here hx rfl (dc at_317) rfl k)))))) ?_
          exact Goes.retBW X2230 hS1993 (by rw [e2230]; exact Z2227) hZ1993 hEL (by rw [e2230]; exact RR2229) hx hlk hret (Or.inr rfl) (dc at_319) (by decide) (by decide) ⟨rfl, N2230⟩
        · refine Goes.on (T' := T2201) (g' := (mkF m 161 #[sI x0, sI x1, sJ x2, s2, sI x3, sJ x4, s2, sI x5, sR z1, sR ya1511, sR ya1993, sR a2022, sI 1, sI md] [(.int 2), (.int md)])) (fun _ k => XS.icmpYes X2201.here hx rfl (pc0 := 125) (pc' := 158) rfl (dc at_125) rfl (XT.ii_ne_t hc2202) (by decide) (by decide) (XS.iload X2201.here hx rfl (dc at_158) rfl (XS.iconst X2201.here hx rfl (dc at_160) k))) ?_
          by_cases hc2231 : md = (2 : Int32)
          · refine Goes.on (T' := T2201) (g' := (mkF m 168 #[sI x0, sI x1, sJ x2, s2, sI x3, sJ x4, s2, sI x5, sR z1, sR ya1511, sR ya1993, sR a2022, sI 1, sI md] [(.ref ya1993), (.ref a2022)])) (fun _ k => XS.icmpNo X2201.here hx rfl (dc at_161) rfl (XT.ii_ne_f hc2231) (XS.aload X2201.here hx rfl (dc at_164) rfl rfl (XS.aload X2201.here hx rfl (dc at_166) rfl rfl k))) ?_
            refine Goes.callV X2201 hx hZ1993 0 hown1993 (ow 287 rfl) (ow 288 rfl) (notFace_of_selects (args := #[]) (mvT hZ1993 (ow 290 rfl))) (ow 290 rfl) (ow 289 rfl) (ow 172 rfl) (ow 291 rfl) (by decide) e2201 C2174 (rmR2b l Z a0 hw a2022 ya1993 ya1511 ya2057 T2167.heap n0 Z2197  P2167_0 P2167_1 P2167_2 P2167_3 P2167_9 P2167_10 P2167_11 P2167_12 P2167_5 P2167_6 P2167_7 P2167_8 ne2043.symm ne2041.symm ne2062 ne1994.symm ne2060 ne2058 G2001 G1517 G2066 ) (by decide) (by decide) (by decide) (by decide) rfl (by rw [hml]; rfl) (argsL := [(.ref ya1993)]) (rest := []) rfl (lenOf pd_29 rfl) rfl (own_le20 rfl) (dc at_168) ?_
            rintro v2232 T2232 L2232 X2232 ⟨rfl, N2232q, K2232, P2232_0, P2232_1, P2232_2, P2232_3, P2232_4, P2232_5, P2232_6, P2232_7, P2232_8, P2232_9, P2232_10, P2232_11⟩
            show Goes p e below _ T2232 (mkF m 171 #[sI x0, sI x1, sJ x2, s2, sI x3, sJ x4, s2, sI x5, sR z1, sR ya1511, sR ya1993, sR a2022, sI 1, sI md] [])
            have C2236 := C2174.keep K2232
            have ni2238 := (ninS ne2043.symm (ninS ne2041.symm (ninS ne2062 nin0)))
            have C2241 := C2180.keep K2232 ni2238
            have Z2255 := Nat.le_trans Z2197 K2232.1
            have Z2256 := Nat.le_trans Z2198 K2232.1
            have RR2258 := RR2200.trans (CHr.keep K2232 (allS (Safe.exa hZ1993.alike P2167_0 (by decide) (by decide)) (allS (Safe.exa hZ1993.alike P2167_9 (by decide) (by decide)) (allS (Safe.exa hZ1993.alike P2167_5 (by decide) (by decide)) all0))) RR2200.1)
            refine Goes.on (T' := T2232) (g' := (mkF m 178 #[sI x0, sI x1, sJ x2, s2, sI x3, sJ x4, s2, sI x5, sR z1, sR ya1511, sR ya1993, sR a2022, sI 1, sI md] [(.ref a2022)])) (fun _ k => XS.iload X2232.here hx rfl (dc at_171) rfl (XS.ifNo X2232.here hx rfl (dc at_173) rfl (XT.i0_eq_f (by decide)) (XS.aload X2232.here hx rfl (dc at_176) rfl rfl k))) ?_
            refine Goes.callV X2232 hx hZ1993 0 hown1993 (ow 223 rfl) (ow 224 rfl) (notFace_of_selects (args := #[]) (mvT hZ1993 (ow 226 rfl))) (ow 226 rfl) (ow 225 rfl) (ow 172 rfl) (ow 227 rfl) (by decide) rfl C2236 (rmEiR l Z a0 hw a2022 ya2057 ya1511 T2232.heap n0 Z2255  C2236 C2241 P2232_8 P2232_9 ) (by decide) (by decide) (by decide) (by decide) rfl (by rw [hml]; rfl) (argsL := []) (rest := []) rfl (lenOf pd_3 rfl) rfl (own_le20 rfl) (dc at_178) ?_
            rintro v2259 T2259 L2259 X2259 ⟨rfl, N2259q, e2259⟩
            have N2259 := Fr.app (Fr.app N2201 N2232q) N2259q
            show Goes p e below _ T2259 (mkF m 181 #[sI x0, sI x1, sJ x2, s2, sI x3, sJ x4, s2, sI x5, sR z1, sR ya1511, sR ya1993, sR a2022, sI 1, sI md] [(.int 0)])
            refine Goes.on (T' := T2259) (g' := (mkF m 319 #[sI x0, sI x1, sJ x2, s2, sI x3, sJ x4, s2, sI x5, sR z1, sR ya1511, sR ya1993, sR a2022, sI 1, sI md] [(.int 1)])) (fun _ k => XS.ifNo X2259.here hx rfl (dc at_181) rfl (XT.i0_ne_f (by decide)) (XS.iconst X2259.here hx rfl (dc at_184) (XS.goto X2259.here hx rfl (pc0 := 185) (pc' := 189) rfl (dc at_185) (by decide) (by decide) (XS.istore X2259.here hx rfl (dc at_189) rfl (l' := #[sI x0, sI x1, sJ x2, s2, sI x3, sJ x4, s2, sI x5, sR z1, sR ya1511, sR ya1993, sR a2022, sI 1, sI md]) rfl (XS.goto X2259.here hx rfl (pc0 := 191) (pc' := 317) rfl (dc at_191) (by decide) (by decide) (XS.iload X2259.here hx rfl (dc at_317) rfl k)))))) ?_
            exact Goes.retBW X2259 hS1993 (by rw [e2259]; exact Z2256) hZ1993 hEL (by rw [e2259]; exact RR2258) hx hlk hret (Or.inr rfl) (dc at_319) (by decide) (by decide) ⟨rfl, N2259⟩
          · refine Goes.on (T' := T2201) (g' := (mkF m 197 #[sI x0, sI x1, sJ x2, s2, sI x3, sJ x4, s2, sI x5, sR z1, sR ya1511, sR ya1993, sR a2022, sI 1, sI md] [(.int 3), (.int md)])) (fun _ k => XS.icmpYes X2201.here hx rfl (pc0 := 161) (pc' := 194) rfl (dc at_161) rfl (XT.ii_ne_t hc2231) (by decide) (by decide) (XS.iload X2201.here hx rfl (dc at_194) rfl (XS.iconst X2201.here hx rfl (dc at_196) k))) ?_
            by_cases hc2260 : md = (3 : Int32)
            · refine Goes.on (T' := T2201) (g' := (mkF m 204 #[sI x0, sI x1, sJ x2, s2, sI x3, sJ x4, s2, sI x5, sR z1, sR ya1511, sR ya1993, sR a2022, sI 1, sI md] [(.ref ya1511), (.ref a2022)])) (fun _ k => XS.icmpNo X2201.here hx rfl (dc at_197) rfl (XT.ii_ne_f hc2260) (XS.aload X2201.here hx rfl (dc at_200) rfl rfl (XS.aload X2201.here hx rfl (dc at_202) rfl rfl k))) ?_
              refine Goes.callV X2201 hx hZ1993 0 hown1993 (ow 287 rfl) (ow 288 rfl) (notFace_of_selects (args := #[]) (mvT hZ1993 (ow 290 rfl))) (ow 290 rfl) (ow 289 rfl) (ow 172 rfl) (ow 291 rfl) (by decide) e2201 C2174 (rmR2a l Z a0 hw a2022 ya1511 ya1993 ya2057 T2167.heap n0 Z2197  P2167_9 P2167_12 P2167_11 P2167_10 P2167_0 P2167_2 P2167_3 P2167_1 P2167_5 P2167_6 P2167_7 P2167_8 ne2041.symm ne2043.symm ne2062 ne1994 ne2058 ne2060 G1517 G2001 G2066 ) (by decide) (by decide) (by decide) (by decide) rfl (by rw [hml]; rfl) (argsL := [(.ref ya1511)]) (rest := []) rfl (lenOf pd_29 rfl) rfl (own_le20 rfl) (dc at_204) ?_
              rintro v2261 T2261 L2261 X2261 ⟨rfl, N2261q, K2261, P2261_0, P2261_1, P2261_2, P2261_3, P2261_4, P2261_5, P2261_6, P2261_7, P2261_8, P2261_9, P2261_10, P2261_11⟩
              show Goes p e below _ T2261 (mkF m 207 #[sI x0, sI x1, sJ x2, s2, sI x3, sJ x4, s2, sI x5, sR z1, sR ya1511, sR ya1993, sR a2022, sI 1, sI md] [])
              have C2265 := C2174.keep K2261
              have ni2267 := (ninS ne2041.symm (ninS ne2043.symm (ninS ne2062 nin0)))
              have C2270 := C2180.keep K2261 ni2267
              have Z2284 := Nat.le_trans Z2197 K2261.1
              have Z2285 := Nat.le_trans Z2198 K2261.1
              have RR2287 := RR2200.trans (CHr.keep K2261 (allS (Safe.exa hZ1993.alike P2167_9 (by decide) (by decide)) (allS (Safe.exa hZ1993.alike P2167_0 (by decide) (by decide)) (allS (Safe.exa hZ1993.alike P2167_5 (by decide) (by decide)) all0))) RR2200.1)
              refine Goes.on (T' := T2261) (g' := (mkF m 214 #[sI x0, sI x1, sJ x2, s2, sI x3, sJ x4, s2, sI x5, sR z1, sR ya1511, sR ya1993, sR a2022, sI 1, sI md] [(.ref a2022)])) (fun _ k => XS.iload X2261.here hx rfl (dc at_207) rfl (XS.ifNo X2261.here hx rfl (dc at_209) rfl (XT.i0_eq_f (by decide)) (XS.aload X2261.here hx rfl (dc at_212) rfl rfl k))) ?_
              refine Goes.callV X2261 hx hZ1993 0 hown1993 (ow 223 rfl) (ow 224 rfl) (notFace_of_selects (args := #[]) (mvT hZ1993 (ow 226 rfl))) (ow 226 rfl) (ow 225 rfl) (ow 172 rfl) (ow 227 rfl) (by decide) rfl C2265 (rmEiR l Z a0 hw a2022 ya2057 ya1993 T2261.heap n0 Z2284  C2265 C2270 P2261_8 P2261_9 ) (by decide) (by decide) (by decide) (by decide) rfl (by rw [hml]; rfl) (argsL := []) (rest := []) rfl (lenOf pd_3 rfl) rfl (own_le20 rfl) (dc at_214) ?_
              rintro v2288 T2288 L2288 X2288 ⟨rfl, N2288q, e2288⟩
              show Goes p e below _ T2288 (mkF m 217 #[sI x0, sI x1, sJ x2, s2, sI x3, sJ x4, s2, sI x5, sR z1, sR ya1511, sR ya1993, sR a2022, sI 1, sI md] [(.int 0)])
              refine Goes.on (T' := T2288) (g' := (mkF m 231 #[sI x0, sI x1, sJ x2, s2, sI x3, sJ x4, s2, sI x5, sR z1, sR ya1511, sR ya1993, sR a2022, sI 1, sI md] [(.ref ya1993), (.ref a2022)])) (fun _ k => XS.ifNo X2288.here hx rfl (dc at_217) rfl (XT.i0_ne_f (by decide)) (XS.iconst X2288.here hx rfl (dc at_220) (XS.goto X2288.here hx rfl (pc0 := 221) (pc' := 225) rfl (dc at_221) (by decide) (by decide) (XS.istore X2288.here hx rfl (dc at_225) rfl (l' := #[sI x0, sI x1, sJ x2, s2, sI x3, sJ x4, s2, sI x5, sR z1, sR ya1511, sR ya1993, sR a2022, sI 1, sI md]) rfl (XS.aload X2288.here hx rfl (dc at_227) rfl rfl (XS.aload X2288.here hx rfl (dc at_229) rfl rfl k)))))) ?_
              refine Goes.callV X2288 hx hZ1993 0 hown1993 (ow 287 rfl) (ow 288 rfl) (notFace_of_selects (args := #[]) (mvT hZ1993 (ow 290 rfl))) (ow 290 rfl) (ow 289 rfl) (ow 172 rfl) (ow 291 rfl) (by decide) e2288 C2265 (rmRM1 l Z a0 hw a2022 ya1993 ya2057 T2261.heap n0 Z2284  P2261_4 P2261_7 P2261_5 P2261_6 P2261_8 P2261_9 P2261_10 P2261_11 C2265 C2270 ne2043.symm ne2062 ne2060 G2001 G2066 ) (by decide) (by decide) (by decide) (by decide) rfl (by rw [hml]; rfl) (argsL := [(.ref ya1993)]) (rest := []) rfl (lenOf pd_29 rfl) rfl (own_le20 rfl) (dc at_231) ?_
              rintro v2289 T2289 L2289 X2289 ⟨rfl, N2289q, K2289, P2289_0, P2289_1, P2289_2, P2289_3, P2289_4, P2289_5, P2289_6, P2289_7⟩
              show Goes p e below _ T2289 (mkF m 234 #[sI x0, sI x1, sJ x2, s2, sI x3, sJ x4, s2, sI x5, sR z1, sR ya1511, sR ya1993, sR a2022, sI 1, sI md] [])
              have C2293 := C2265.keep K2289
              have ni2295 := (ninS ne2043.symm (ninS ne2062 nin0))
              have C2296 := (C2178.keep K2261 ni2267).keep K2289 ni2295
              have C2298 := C2270.keep K2289 ni2295
              have Z2316 := Nat.le_trans Z2284 K2289.1
              have Z2317 := Nat.le_trans Z2285 K2289.1
              have RR2319 := RR2287.trans (CHr.keep K2289 (allS (Safe.exa hZ1993.alike P2261_4 (by decide) (by decide)) (allS (Safe.exa hZ1993.alike P2261_8 (by decide) (by decide)) all0)) RR2287.1)
              refine Goes.on (T' := T2289) (g' := (mkF m 241 #[sI x0, sI x1, sJ x2, s2, sI x3, sJ x4, s2, sI x5, sR z1, sR ya1511, sR ya1993, sR a2022, sI 1, sI md] [(.ref a2022)])) (fun _ k => XS.iload X2289.here hx rfl (dc at_234) rfl (XS.ifNo X2289.here hx rfl (dc at_236) rfl (XT.i0_eq_f (by decide)) (XS.aload X2289.here hx rfl (dc at_239) rfl rfl k))) ?_
              refine Goes.callV X2289 hx hZ1993 0 hown1993 (ow 223 rfl) (ow 224 rfl) (notFace_of_selects (args := #[]) (mvT hZ1993 (ow 226 rfl))) (ow 226 rfl) (ow 225 rfl) (ow 172 rfl) (ow 227 rfl) (by decide) rfl C2293 (rmEi1 l Z a0 hw a2022 ya2057 T2289.heap n0 Z2316  C2293 C2298 P2289_4 P2289_5 C2296 ) (by decide) (by decide) (by decide) (by decide) rfl (by rw [hml]; rfl) (argsL := []) (rest := []) rfl (lenOf pd_3 rfl) rfl (own_le20 rfl) (dc at_241) ?_
              rintro v2320 T2320 L2320 X2320 ⟨rfl, N2320q, e2320⟩
              have N2320 := Fr.app (Fr.app (Fr.app (Fr.app N2201 N2261q) N2288q) N2289q) N2320q
              show Goes p e below _ T2320 (mkF m 244 #[sI x0, sI x1, sJ x2, s2, sI x3, sJ x4, s2, sI x5, sR z1, sR ya1511, sR ya1993, sR a2022, sI 1, sI md] [(.int 1)])
              refine Goes.on (T' := T2320) (g' := (mkF m 319 #[sI x0, sI x1, sJ x2, s2, sI x3, sJ x4, s2, sI x5, sR z1, sR ya1511, sR ya1993, sR a2022, sI 1, sI md] [(.int 1)])) (fun _ k => XS.ifNo X2320.here hx rfl (dc at_244) rfl (XT.i0_eq_f (by decide)) (XS.iconst X2320.here hx rfl (dc at_247) (XS.goto X2320.here hx rfl (pc0 := 248) (pc' := 252) rfl (dc at_248) (by decide) (by decide) (XS.istore X2320.here hx rfl (dc at_252) rfl (l' := #[sI x0, sI x1, sJ x2, s2, sI x3, sJ x4, s2, sI x5, sR z1, sR ya1511, sR ya1993, sR a2022, sI 1, sI md]) rfl (XS.goto X2320.here hx rfl (pc0 := 254) (pc' := 317) rfl (dc at_254) (by decide) (by decide) (XS.iload X2320.here hx rfl (dc at_317) rfl k)))))) ?_
              exact Goes.retBW X2320 hS1993 (by rw [e2320]; exact Z2317) hZ1993 hEL (by rw [e2320]; exact RR2319) hx hlk hret (Or.inr rfl) (dc at_319) (by decide) (by decide) ⟨rfl, N2320⟩
            · refine Goes.on (T' := T2201) (g' := (mkF m 260 #[sI x0, sI x1, sJ x2, s2, sI x3, sJ x4, s2, sI x5, sR z1, sR ya1511, sR ya1993, sR a2022, sI 1, sI md] [(.int 4), (.int md)])) (fun _ k => XS.icmpYes X2201.here hx rfl (pc0 := 197) (pc' := 257) rfl (dc at_197) rfl (XT.ii_ne_t hc2260) (by decide) (by decide) (XS.iload X2201.here hx rfl (dc at_257) rfl (XS.iconst X2201.here hx rfl (dc at_259) k))) ?_
              by_cases hc2321 : md = (4 : Int32)
              · refine Goes.on (T' := T2201) (g' := (mkF m 267 #[sI x0, sI x1, sJ x2, s2, sI x3, sJ x4, s2, sI x5, sR z1, sR ya1511, sR ya1993, sR a2022, sI 1, sI md] [(.ref ya1993), (.ref a2022)])) (fun _ k => XS.icmpNo X2201.here hx rfl (dc at_260) rfl (XT.ii_ne_f hc2321) (XS.aload X2201.here hx rfl (dc at_263) rfl rfl (XS.aload X2201.here hx rfl (dc at_265) rfl rfl k))) ?_
                refine Goes.callV X2201 hx hZ1993 0 hown1993 (ow 287 rfl) (ow 288 rfl) (notFace_of_selects (args := #[]) (mvT hZ1993 (ow 290 rfl))) (ow 290 rfl) (ow 289 rfl) (ow 172 rfl) (ow 291 rfl) (by decide) e2201 C2174 (rmR2b l Z a0 hw a2022 ya1993 ya1511 ya2057 T2167.heap n0 Z2197  P2167_0 P2167_1 P2167_2 P2167_3 P2167_9 P2167_10 P2167_11 P2167_12 P2167_5 P2167_6 P2167_7 P2167_8 ne2043.symm ne2041.symm ne2062 ne1994.symm ne2060 ne2058 G2001 G1517 G2066 ) (by decide) (by decide) (by decide) (by decide) rfl (by rw [hml]; rfl) (argsL := [(.ref ya1993)]) (rest := []) rfl (lenOf pd_29 rfl) rfl (own_le20 rfl) (dc at_267) ?_
                rintro v2322 T2322 L2322 X2322 ⟨rfl, N2322q, K2322, P2322_0, P2322_1, P2322_2, P2322_3, P2322_4, P2322_5, P2322_6, P2322_7, P2322_8, P2322_9, P2322_10, P2322_11⟩
                show Goes p e below _ T2322 (mkF m 270 #[sI x0, sI x1, sJ x2, s2, sI x3, sJ x4, s2, sI x5, sR z1, sR ya1511, sR ya1993, sR a2022, sI 1, sI md] [])
                have C2326 := C2174.keep K2322
                have ni2328 := (ninS ne2043.symm (ninS ne2041.symm (ninS ne2062 nin0)))
                have C2331 := C2180.keep K2322 ni2328
                have Z2345 := Nat.le_trans Z2197 K2322.1
                have Z2346 := Nat.le_trans Z2198 K2322.1
                have RR2348 := RR2200.trans (CHr.keep K2322 (allS (Safe.exa hZ1993.alike P2167_0 (by decide) (by decide)) (allS (Safe.exa hZ1993.alike P2167_9 (by decide) (by decide)) (allS (Safe.exa hZ1993.alike P2167_5 (by decide) (by decide)) all0))) RR2200.1)
                refine Goes.on (T' := T2322) (g' := (mkF m 277 #[sI x0, sI x1, sJ x2, s2, sI x3, sJ x4, s2, sI x5, sR z1, sR ya1511, sR ya1993, sR a2022, sI 1, sI md] [(.ref a2022)])) (fun _ k => XS.iload X2322.here hx rfl (dc at_270) rfl (XS.ifNo X2322.here hx rfl (dc at_272) rfl (XT.i0_eq_f (by decide)) (XS.aload X2322.here hx rfl (dc at_275) rfl rfl k))) ?_
                refine Goes.callV X2322 hx hZ1993 0 hown1993 (ow 223 rfl) (ow 224 rfl) (notFace_of_selects (args := #[]) (mvT hZ1993 (ow 226 rfl))) (ow 226 rfl) (ow 225 rfl) (ow 172 rfl) (ow 227 rfl) (by decide) rfl C2326 (rmEiR l Z a0 hw a2022 ya2057 ya1511 T2322.heap n0 Z2345  C2326 C2331 P2322_8 P2322_9 ) (by decide) (by decide) (by decide) (by decide) rfl (by rw [hml]; rfl) (argsL := []) (rest := []) rfl (lenOf pd_3 rfl) rfl (own_le20 rfl) (dc at_277) ?_
                rintro v2349 T2349 L2349 X2349 ⟨rfl, N2349q, e2349⟩
                show Goes p e below _ T2349 (mkF m 280 #[sI x0, sI x1, sJ x2, s2, sI x3, sJ x4, s2, sI x5, sR z1, sR ya1511, sR ya1993, sR a2022, sI 1, sI md] [(.int 0)])
                refine Goes.on (T' := T2349) (g' := (mkF m 294 #[sI x0, sI x1, sJ x2, s2, sI x3, sJ x4, s2, sI x5, sR z1, sR ya1511, sR ya1993, sR a2022, sI 1, sI md] [(.ref ya1511), (.ref a2022)])) (fun _ k => XS.ifNo X2349.here hx rfl (dc at_280) rfl (XT.i0_ne_f (by decide)) (XS.iconst X2349.here hx rfl (dc at_283) (XS.goto X2349.here hx rfl (pc0 := 284) (pc' := 288) rfl (dc at_284) (by decide) (by decide) (XS.istore X2349.here hx rfl (dc at_288) rfl (l' := #[sI x0, sI x1, sJ x2, s2, sI x3, sJ x4, s2, sI x5, sR z1, sR ya1511, sR ya1993, sR a2022, sI 1, sI md]) rfl (XS.aload X2349.here hx rfl (dc at_290) rfl rfl (XS.aload X2349.here hx rfl (dc at_292) rfl rfl k)))))) ?_
                refine Goes.callV X2349 hx hZ1993 0 hown1993 (ow 287 rfl) (ow 288 rfl) (notFace_of_selects (args := #[]) (mvT hZ1993 (ow 290 rfl))) (ow 290 rfl) (ow 289 rfl) (ow 172 rfl) (ow 291 rfl) (by decide) e2349 C2326 (rmRM1 l Z a0 hw a2022 ya1511 ya2057 T2322.heap n0 Z2345  P2322_4 P2322_7 P2322_6 P2322_5 P2322_8 P2322_9 P2322_10 P2322_11 C2326 C2331 ne2041.symm ne2062 ne2058 G1517 G2066 ) (by decide) (by decide) (by decide) (by decide) rfl (by rw [hml]; rfl) (argsL := [(.ref ya1511)]) (rest := []) rfl (lenOf pd_29 rfl) rfl (own_le20 rfl) (dc at_294) ?_
                rintro v2350 T2350 L2350 X2350 ⟨rfl, N2350q, K2350, P2350_0, P2350_1, P2350_2, P2350_3, P2350_4, P2350_5, P2350_6, P2350_7⟩
                show Goes p e below _ T2350 (mkF m 297 #[sI x0, sI x1, sJ x2, s2, sI x3, sJ x4, s2, sI x5, sR z1, sR ya1511, sR ya1993, sR a2022, sI 1, sI md] [])
                have C2354 := C2326.keep K2350
                have ni2356 := (ninS ne2041.symm (ninS ne2062 nin0))
                have C2357 := (C2178.keep K2322 ni2328).keep K2350 ni2356
                have C2359 := C2331.keep K2350 ni2356
                have Z2377 := Nat.le_trans Z2345 K2350.1
                have Z2378 := Nat.le_trans Z2346 K2350.1
                have RR2380 := RR2348.trans (CHr.keep K2350 (allS (Safe.exa hZ1993.alike P2322_4 (by decide) (by decide)) (allS (Safe.exa hZ1993.alike P2322_8 (by decide) (by decide)) all0)) RR2348.1)
                refine Goes.on (T' := T2350) (g' := (mkF m 304 #[sI x0, sI x1, sJ x2, s2, sI x3, sJ x4, s2, sI x5, sR z1, sR ya1511, sR ya1993, sR a2022, sI 1, sI md] [(.ref a2022)])) (fun _ k => XS.iload X2350.here hx rfl (dc at_297) rfl (XS.ifNo X2350.here hx rfl (dc at_299) rfl (XT.i0_eq_f (by decide)) (XS.aload X2350.here hx rfl (dc at_302) rfl rfl k))) ?_
                refine Goes.callV X2350 hx hZ1993 0 hown1993 (ow 223 rfl) (ow 224 rfl) (notFace_of_selects (args := #[]) (mvT hZ1993 (ow 226 rfl))) (ow 226 rfl) (ow 225 rfl) (ow 172 rfl) (ow 227 rfl) (by decide) rfl C2354 (rmEi1 l Z a0 hw a2022 ya2057 T2350.heap n0 Z2377  C2354 C2359 P2350_4 P2350_5 C2357 ) (by decide) (by decide) (by decide) (by decide) rfl (by rw [hml]; rfl) (argsL := []) (rest := []) rfl (lenOf pd_3 rfl) rfl (own_le20 rfl) (dc at_304) ?_
                rintro v2381 T2381 L2381 X2381 ⟨rfl, N2381q, e2381⟩
                have N2381 := Fr.app (Fr.app (Fr.app (Fr.app N2201 N2322q) N2349q) N2350q) N2381q
                show Goes p e below _ T2381 (mkF m 307 #[sI x0, sI x1, sJ x2, s2, sI x3, sJ x4, s2, sI x5, sR z1, sR ya1511, sR ya1993, sR a2022, sI 1, sI md] [(.int 1)])
                refine Goes.on (T' := T2381) (g' := (mkF m 319 #[sI x0, sI x1, sJ x2, s2, sI x3, sJ x4, s2, sI x5, sR z1, sR ya1511, sR ya1993, sR a2022, sI 1, sI md] [(.int 1)])) (fun _ k => XS.ifNo X2381.here hx rfl (dc at_307) rfl (XT.i0_eq_f (by decide)) (XS.iconst X2381.here hx rfl (dc at_310) (XS.goto X2381.here hx rfl (pc0 := 311) (pc' := 315) rfl (dc at_311) (by decide) (by decide) (XS.istore X2381.here hx rfl (dc at_315) rfl (l' := #[sI x0, sI x1, sJ x2, s2, sI x3, sJ x4, s2, sI x5, sR z1, sR ya1511, sR ya1993, sR a2022, sI 1, sI md]) rfl (XS.iload X2381.here hx rfl (dc at_317) rfl k))))) ?_
                exact Goes.retBW X2381 hS1993 (by rw [e2381]; exact Z2378) hZ1993 hEL (by rw [e2381]; exact RR2380) hx hlk hret (Or.inr rfl) (dc at_319) (by decide) (by decide) ⟨rfl, N2381⟩
              · refine Goes.on (T' := T2201) (g' := (mkF m 319 #[sI x0, sI x1, sJ x2, s2, sI x3, sJ x4, s2, sI x5, sR z1, sR ya1511, sR ya1993, sR a2022, sI 1, sI md] [(.int 1)])) (fun _ k => XS.icmpYes X2201.here hx rfl (pc0 := 260) (pc' := 317) rfl (dc at_260) rfl (XT.ii_ne_t hc2321) (by decide) (by decide) (XS.iload X2201.here hx rfl (dc at_317) rfl k)) ?_
                exact Goes.retBW X2201 hS1993 (by rw [e2201]; exact Z2198) hZ1993 hEL (by rw [e2201]; exact RR2200) hx hlk hret (Or.inr rfl) (dc at_319) (by decide) (by decide) ⟨rfl, N2201⟩
  · intro J1
    refine Goes.on (T' := T0) (g' := (mkF m 3 #[sI x0, sI x1, sJ x2, s2, sI x3, sJ x4, s2, sI x5, su, su, su, su, su, su] [(.int (x0 &&& (1 : Int32)))])) (fun _ k => XS.iloadN X0.here hx rfl (dc at_0) rfl (XS.iconst X0.here hx rfl (dc at_1) (XS.iand X0.here hx rfl (dc at_2) rfl k))) ?_
    by_cases hc2382 : (x0 &&& (1 : Int32)) = (0 : Int32)
    · obtain ⟨T2383, X2383, e2383, st2383⟩ := getS (host := "") X0 hx hZ hown (ow 0 rfl) Via.refl e0 (Sta.ext O0.2 ST_k0) (g := (mkF m 12 #[sI x0, sI x1, sJ x2, s2, sI x3, sJ x4, s2, sI x5, su, su, su, su, su, su] [])) rfl (dc at_12)
      refine Goes.on (T' := T2383) (g' := (mkF m 15 #[sI x0, sI x1, sJ x2, s2, sI x3, sJ x4, s2, sI x5, su, su, su, su, su, su] [(.ref k0)])) (fun _ k => XS.ifYes X0.here hx rfl (pc0 := 3) (pc' := 12) rfl (dc at_3) rfl (XT.i0_eq_t hc2382) (by decide) (by decide) (st2383 _ k)) ?_
      exact J1 k0 T2383 X2383 e2383
    · obtain ⟨T2384, X2384, e2384, st2384⟩ := getS (host := "") X0 hx hZ hown (ow 296 rfl) Via.refl e0 (Sta.ext O0.2 ST_k1) (g := (mkF m 6 #[sI x0, sI x1, sJ x2, s2, sI x3, sJ x4, s2, sI x5, su, su, su, su, su, su] [])) rfl (dc at_6)
      refine Goes.on (T' := T2384) (g' := (mkF m 15 #[sI x0, sI x1, sJ x2, s2, sI x3, sJ x4, s2, sI x5, su, su, su, su, su, su] [(.ref k1)])) (fun _ k => XS.ifNo X0.here hx rfl (dc at_3) rfl (XT.i0_eq_f hc2382) (st2384 _ (XS.goto X2384.here hx rfl (pc0 := 9) (pc' := 15) rfl (dc at_9) (by decide) (by decide) k))) ?_
      exact J1 k1 T2384 X2384 e2384
theorem own_small {t : Jvm.Term} {args : Array Value} {first s : State} {o : Option Outcome} {idx : List Nat} {v : Value} {a : Addr} {cell : Cell} (h : (Jvm.Term.length t).eval args first o idx s = some v) (ht : t.eval args first o idx s = some (.ref a)) (hc : s.arrayAt? a = some cell) : cell.slots.size < 2 ^ 31 := by
  by_cases p : cell.slots.size < 2 ^ 31
  · exact p
  · simp [Term.eval, ht, hc, p] at h
theorem own_eqI {t : Jvm.Term} {i : Int32} {args : Array Value} {Z : State} {idx : List Nat} (hq : (Jvm.Cond.eq t (.int i)).value args Z none Z idx = some true) : t.eval args Z none idx Z = some (.int i) := by
  obtain ⟨x, y, e1, e2, -, k⟩ := cmp_v (Or.inl hq)
  cases Option.some.inj ((Term.int_eval i).symm.trans e2)
  obtain ⟨z, rfl⟩ := k
  rw [e1]
  simpa [Jvm.Cond.value, e1, e2] using hq
theorem own_ids {s : State} {args : Array Value} (hfit : Fit s)
    (h1 : (Jvm.Cond.arrayOf (Jvm.Term.static "com/example/uncross/uncross/model/Order" "ID_CHARACTERS" "[Z") .boolean).value args s none s [] = some true) (h2 : (Jvm.Cond.eq (.length (Jvm.Term.static "com/example/uncross/uncross/model/Order" "ID_CHARACTERS" "[Z")) (.int (128 : Int32))).value args s none s [] = some true)
    (h3 : (Jvm.Cond.all (Jvm.Term.static "com/example/uncross/uncross/model/Order" "ID_CHARACTERS" "[Z") (.or (.lt (.index 0) (.int (97 : Int32))) (.or (.le (.int (123 : Int32)) (.index 0)) (.eq (.elem (Jvm.Term.static "com/example/uncross/uncross/model/Order" "ID_CHARACTERS" "[Z") (.index 0)) (.int (1 : Int32)))))).value args s none s [] = some true) :
    ∃ ic, ((Jvm.Term.static "com/example/uncross/uncross/model/Order" "ID_CHARACTERS" "[Z")).eval args s none [] s = some (.ref ic) ∧ ∃ icf, Arf s s.heap ic .boolean Value.int 128 icf ∧ ∀ i, 97 ≤ i → i < 123 → icf i = (1 : Int32) := by
  obtain ⟨ic, eic⟩ := arr_v h1
  obtain ⟨cl, A⟩ := Arr.start eic h1
  have hA := A.fin (Vm.Alike.refl _)
  have h2' := eqInt h2
  obtain ⟨x', cl', e1, e2, e3⟩ := Term.length_spec h2'
  cases eic.symm.trans e1
  cases hA.symm.trans e2
  have hs0 := own_small h2' eic hA
  have hs : cl.slots.size = 128 := by
    have q := congrArg Int32.toInt (Value.int.inj e3)
    have k128 : (128 : Int32).toInt = 128 := rfl
    rw [len_toInt hs0, k128] at q
    omega
  have key : ∀ i, i < 128 → ∃ z, cl.slots[i]? = some (Value.int z) ∧ (97 ≤ i → i < 123 → z = (1 : Int32)) := by
    intro i hi
    have hi31 : i < 2 ^ 31 := by omega
    have hn : i.toInt32.toNatClampNeg = i := nat32 hi31
    have hp : ¬ i.toInt32 < 0 := pos32 hi31
    have hj : ¬ (i.toInt32 < 0 ∨ cl.slots.size ≤ i.toInt32.toNatClampNeg) := by
      rw [hn]
      intro q
      rcases q with q | q
      · exact hp q
      · omega
    obtain ⟨v, ev, fv⟩ := elem_fit hfit A hj
    rw [hn] at ev
    obtain ⟨z, rfl⟩ := fit_I fv (Or.inr (Or.inl rfl))
    refine ⟨z, ev, fun q1 q2 => ?_⟩
    have q := Cond.all_elim eic hA h3 i (by omega)
    have hx : (Jvm.Term.index 0).eval args s none [i] s = some (.int i.toInt32) := Term.index_eval i
    have ti : i.toInt32.toInt = i := len_toInt hi31
    have k97 : (97 : Int32).toInt = 97 := rfl
    have k123 : (123 : Int32).toInt = 123 := rfl
    have n1 : ¬ i.toInt32 < (97 : Int32) := by rw [Int32.lt_iff_toInt_lt, ti, k97]; omega
    have n2 : ¬ (123 : Int32) ≤ i.toInt32 := by rw [Int32.le_iff_toInt_le, ti, k123]; omega
    rw [Cond.or_of_right (nay (Cond.lt_ints hx (Term.int_eval 97)) n1), Cond.or_of_right (nay (Cond.le_ints (Term.int_eval 123) hx) n2)] at q
    have el := elem_in (own_eqI q) (show ((Jvm.Term.static "com/example/uncross/uncross/model/Order" "ID_CHARACTERS" "[Z")).eval args s none [i] s = some (.ref ic) from eic) hx A.1
    have el2 := el.2
    rw [hn, ev] at el2
    exact Value.int.inj (Option.some.inj el2)
  refine ⟨ic, eic, fun i => (match cl.slots[i]? with | some (.int z) => z | _ => 0), ⟨cl, A, hs, fun i hi => ?_⟩, fun i q1 q2 => ?_⟩
  · obtain ⟨z, e, -⟩ := key i hi
    simp only [e]
  · obtain ⟨z, e, k⟩ := key i (by omega)
    simp only [e]
    exact k q1 q2
theorem comes_1 {Post : Tables → Env → Array Value → State → Outcome → State → Prop} (hpost : ∀ tb e args s v u, (limb_1_1.after args s (.returned v) u = true ∧ limb_1_2.after args s (.returned v) u = true ∧ True) → ReturnedEndW s (.returned v) u (Jvm.fieldLocs frame_1_writes args s ++ Jvm.arrayLocs frame_1_arrays args s ++ Jvm.staticLocs frame_1_statics s) 48 6656 → Post tb e args s (.returned v) u) :
    ArmFor flags0 classFile x code maxLocals ret World_1 tables_1 room_1 Calls_1 rest_1 Pre_1 Post := by
  intro l hfl _ _ p e ha hc hk s m args below hf hA hF happ hP
  obtain ⟨hcalls, hrest, hpre⟩ := hP
  obtain ⟨-, -, -, hnamed, -, -, -, hat⟩ := (Spec.applies_iff hf).mp happ
  obtain ⟨hg, hn⟩ := and_e (Cond.before_iff.mp (show (Jvm.Cond.and given_1 narrow_1).before args s = true from hpre))
  obtain ⟨g0, r0⟩ := and_e hg
  obtain ⟨g1, r1⟩ := and_e r0
  obtain ⟨g2, r2⟩ := and_e r1
  obtain ⟨g3, r3⟩ := and_e r2
  obtain ⟨g4, r4⟩ := and_e r3
  obtain ⟨g5, r5⟩ := and_e r4
  obtain ⟨w0, w1, w2, w3, w4, w5, rfl⟩ : ∃ w0 w1 w2 w3 w4 w5 : Value, args = #[w0, w1, w2, w3, w4, w5] := by
    have hs : args.size = 6 := by simpa [Cond.value, given_1] using g0
    obtain ⟨L⟩ := args
    match L, hs with
    | [w0, w1, w2, w3, w4, w5], _ => exact ⟨w0, w1, w2, w3, w4, w5, rfl⟩
  have hw := fun d (hd : d ∈ tables_1) => atoms_spec (ws := Jvm.Cond.code x code maxLocals ret :: tables_1) hat d (List.mem_cons_of_mem _ hd)
  have hfit : Fit s := fun {y c} hc i hi => by
    obtain ⟨ha, rfl⟩ := Array.getElem?_eq_some_iff.mp hc
    have q := List.all_eq_true.mp ((Array.all_eq_true_iff_forall_mem.mp hF) _ (Array.getElem_mem ha)) i (List.mem_range.mpr hi)
    simpa [Array.getElem?_eq_getElem hi] using q
  obtain ⟨i0, ei0⟩ := is_v g1
  obtain rfl : w0 = (.int i0) := Option.some.inj ei0
  obtain ⟨i1, ei1⟩ := is_v g2
  obtain rfl : w1 = (.int i1) := Option.some.inj ei1
  obtain ⟨i2, ei2⟩ := isL_v g3
  obtain rfl : w2 = (.long i2) := Option.some.inj ei2
  obtain ⟨i3, ei3⟩ := is_v g4
  obtain rfl : w3 = (.int i3) := Option.some.inj ei3
  obtain ⟨i4, ei4⟩ := isL_v g5
  obtain rfl : w4 = (.long i4) := Option.some.inj ei4
  obtain ⟨i5, ei5⟩ := is_v r5
  obtain rfl : w5 = (.int i5) := Option.some.inj ei5
  obtain ⟨nw0, nr0⟩ := and_e hn
  obtain ⟨nw1, nr1⟩ := and_e nr0
  obtain ⟨nw2, nr2⟩ := and_e nr1
  obtain ⟨nw3, nr3⟩ := and_e nr2
  obtain ⟨nw4, nr4⟩ := and_e nr3
  obtain ⟨nw5, nr5⟩ := and_e nr4
  obtain ⟨nw6, nr6⟩ := and_e nr5
  obtain ⟨nw7, nr7⟩ := and_e nr6
  obtain ⟨nw8, nr8⟩ := and_e nr7
  obtain ⟨nw9, nr9⟩ := and_e nr8
  obtain ⟨nw10, nr10⟩ := and_e nr9
  obtain ⟨nw11, nr11⟩ := and_e nr10
  obtain ⟨nw12, nr12⟩ := and_e nr11
  obtain ⟨nw13, nr13⟩ := and_e nr12
  obtain ⟨nw14, nr14⟩ := and_e nr13
  obtain ⟨nw15, nr15⟩ := and_e nr14
  obtain ⟨nw16, nr16⟩ := and_e nr15
  have nw17 := nr16
  obtain ⟨k0, ev_k0⟩ := exa_v nw0
  have EX_k0 := Exa.start ev_k0 nw0
  have ST_k0 := Sta.start ev_k0 (Or.inr ⟨(own_w hw 1 rfl), (own_w hw 2 rfl)⟩)
  obtain ⟨k1, ev_k1⟩ := exa_v nw3
  have EX_k1 := Exa.start ev_k1 nw3
  have ST_k1 := Sta.start ev_k1 (Or.inr ⟨(own_w hw 1 rfl), (own_w hw 218 rfl)⟩)
  have FZ4 := fldInt ev_k0 nw4
  have FZ5 := fldInt ev_k1 nw5
  obtain ⟨hsets, hown0⟩ := atoms_of _ (rest_1_c_eq ▸ (show rest_1_c.before _ s = true from hrest))
  obtain ⟨em, ev_em⟩ := exa_v (Cond.before_iff.mp (hsets _ (List.mem_of_getElem? (i := 2) rfl)))
  have EXE := Exa.start ev_em (Cond.before_iff.mp (hsets _ (List.mem_of_getElem? (i := 2) rfl)))
  have SE := Sta.start ev_em (Or.inl (hsets _ (List.mem_of_getElem? (i := 1) rfl)))
  have FE := fldInt ev_em (Cond.before_iff.mp (hsets _ (List.mem_of_getElem? (i := 3) rfl)))
  obtain ⟨cs, ecs⟩ := is_v (Cond.before_iff.mp (hsets _ (List.mem_of_getElem? (i := 6) rfl)))
  have SC := Sta.start ecs (Or.inl (hsets _ (List.mem_of_getElem? (i := 5) rfl)))
  have hcs : ¬ cs = (0 : Int32) := gotF (Cond.eq_ints ecs (Term.int_eval (0))) (not_v (Cond.before_iff.mp (hsets _ (List.mem_of_getElem? (i := 7) rfl))))
  obtain ⟨sf, esf, hsf⟩ := isR_v (Cond.before_iff.mp (hsets _ (List.mem_of_getElem? (i := 13) rfl)))
  have SF := Sta.start esf (Or.inl (hsets _ (List.mem_of_getElem? (i := 12) rfl)))
  obtain ⟨ic, eic, icf, IC, hic⟩ := own_ids hfit nw1 nw2 nw16
  have SI := Sta.start eic (Or.inr ⟨(own_w hw 25 rfl), (own_w hw 92 rfl)⟩)
  have hic97 : ¬ icf 97 = (0 : Int32) := by rw [hic 97 (by decide) (by decide)]; decide
  have hic98 : ¬ icf 98 = (0 : Int32) := by rw [hic 98 (by decide) (by decide)]; decide
  have hCH : CHv s consts_1 s.vm s.heap := CHv.start (own_EW hw) (fun p hp => hcalls.1 p hp) (hsets _ (List.mem_of_getElem? (i := 7) rfl)) (own_w hw 6 rfl) (own_w hw 5 rfl)
  obtain ⟨n, o, h1, h2, h3, _, L, rfl, ⟨rfl, N⟩, -, hq⟩ := rm0 l s _ hw i0 i1 i2 i3 i4 i5 s.heap s.heap.size (Nat.le_refl _) (Old.start s) cs SC hcs sf SF hsf ic SI icf IC hic97 hic98 (own_EW hw) em SE EXE FE k0 k1 ST_k0 EX_k0 ST_k1 EX_k1 FZ4 FZ5 p e ha hc hk s m _ below hf ((Spec.applies_iff_loose hf).mp happ).1 ⟨rfl, State.Warmed39.refl s, rfl, hCH⟩ trivial
  refine ⟨n, _, h1, h2, h3, hpost _ _ _ _ _ _ ⟨Cond.after_iff.mpr rfl, Cond.after_iff.mpr (eq_i res_at (Term.int_eval (1)) rfl), trivial⟩ ⟨hq.1, hq.2.1, hq.2.2.1, (hq.2.2.2.sift fun y hy => Or.inr (N y hy)).mono (by decide) (by decide)⟩⟩
theorem main_1_1 : Claimed_1_1 := comes_1 fun _ _ _ _ _ _ h hF => ⟨h.1, hF⟩
theorem main_1_2 : Claimed_1_2 := comes_1 fun _ _ _ _ _ _ h hF => ⟨h.2.1, hF⟩

end Jvm.Pilot.@@N@@
namespace Jvm.Pilot.@@N@@
open Jvm Jvm.ClassFile Sem Op Lib Jvm.Free Jvm.Stand Jvm.Pilot.@@N@@.Jvm.D
/-! MADE BY PROGRAM (witnessworld.py) out of the Statement's table words and the real class files: 40 classes; the members and pool entries that the words name. The judged class is class 1, her method 3. -/
namespace start1
open Jvm.ClassFile
def u (s : String) : CpInfo := .utf8 (stringToUtf16 s)
/-- a pool by its gaps: so many unusable entries, then the entry; so many at the end -/
def gap : Nat → List CpInfo → List CpInfo
  | 0, r => r
  | n + 1, r => .unusable :: gap n r
def poolList (es : List (Nat × CpInfo)) (last : Nat) : List CpInfo := es.foldr (fun e r => gap e.1 (e.2 :: r)) (gap last [])
def pool (es : List (Nat × CpInfo)) (last : Nat) : Array CpInfo := ⟨poolList es last⟩
def fileOf (pool : Array CpInfo) (this : Nat) (attrs : Array Attribute := #[]) (ms : Array MethodInfo := #[]) (fl : Nat := 33) (sup : Nat := 0) (ifs : Array Nat := #[]) (fds : Array FieldInfo := #[]) : ClassFile where
  minorVersion := 0
  majorVersion := 65
  constantPool := pool
  accessFlags := fl
  thisClass := this
  superClass := sup
  interfaces := ifs
  fields := fds
  methods := ms
  attributes := attrs
def plain (name : String) (sup : Option ClassId) : Class where
  name := name
  kind := .ordinary
  loader := none
  accessFlags := 33
  super := sup
  interfaces := #[]
  cf := none
  fields := #[]
  methods := #[]
  instanceTypes := #[]
  staticTypes := #[]
  resolved := #[]
  callSites := []
  init := .initialized
  statics := none
  mirror := none

def pool0 : Array CpInfo := pool [(5, u "<init>"), (0, u "()V"), (1, .class_ 10), (1, u "java/lang/Object")] 113

def k0c0 : Code := { maxStack := 0, maxLocals := 1, code := object_method_1_code, exceptionTable := #[], attributes := #[] }
def k0m0 : Method := { name := "<init>", desc := "()V", sig := { parameters := [], returnType := none }, accessFlags := 1, code := some k0c0 }
/-- java/lang/Object -/
def k0 : Class := { plain "java/lang/Object" none with
  accessFlags := 33
  interfaces := #[]
  cf := some (fileOf pool0 8 #[] #[{ accessFlags := 1, nameIndex := 5, descriptorIndex := 6, attributes := #[] }] 33 0 #[] #[])
  fields := #[]
  methods := #[k0m0]
  instanceTypes := #[]
  staticTypes := #[]
  resolved := Array.replicate 124 none
  statics := none }

def pool1 : Array CpInfo := pool [(2, .class_ 4), (1, u "java/lang/Object"), (0, u "<init>"), (0, u "()V"), (0, .long 3), (1, .long 9223372036854775807), (1, .long 1000000000000), (1, .methodref 14 15), (0, .class_ 16), (0, .nameAndType 17 18), (0, u "java/util/OptionalLong"), (0, u "empty"), (0, u "()Ljava/util/OptionalLong;"), (0, .methodref 20 21), (0, .class_ 22), (0, .nameAndType 23 24), (0, u "com/example/uncross/uncross/engine/BookSideIsEmptyPinLaw"), (0, u "price"), (0, u "(IJ)J"), (0, .methodref 14 26), (0, .nameAndType 27 28), (0, u "of"), (0, u "(J)Ljava/util/OptionalLong;"), (0, .class_ 30), (0, u "com/example/uncross/uncross/engine/BookSide$Resting"), (0, .class_ 32), (0, u "com/example/uncross/uncross/model/Order"), (0, .methodref 31 34), (0, .nameAndType 5 35), (0, u "(Ljava/lang/String;Lcom/example/uncross/uncross/model/Side;JLjava/util/OptionalLong;)V"), (0, .methodref 29 37), (0, .nameAndType 5 38), (0, u "(Lcom/example/uncross/uncross/model/Order;JJZ)V"), (0, .fieldref 40 41), (0, .class_ 42), (0, .nameAndType 43 44), (0, u "com/example/uncross/uncross/model/Side"), (0, u "BUY"), (0, u "Lcom/example/uncross/uncross/model/Side;"), (0, .fieldref 40 46), (0, .nameAndType 47 44), (0, u "SELL"), (0, .string 49), (0, u "a"), (0, .methodref 20 51), (0, .nameAndType 52 53), (0, u "resting"), (0, u "(Ljava/lang/String;Lcom/example/uncross/uncross/model/Side;IJ)Lcom/example/uncross/uncross/engine/BookSide$Resting;"), (0, .string 55), (0, u "b"), (0, .class_ 57), (0, u "com/example/uncross/uncross/engine/BookSide"), (0, .methodref 56 59), (0, .nameAndType 5 60), (0, u "(Lcom/example/uncross/uncross/model/Side;)V"), (0, .methodref 56 62), (0, .nameAndType 63 64), (0, u "isEmpty"), (0, u "()Z"), (0, .methodref 56 66), (0, .nameAndType 67 68), (0, u "add"), (0, u "(Lcom/example/uncross/uncross/engine/BookSide$Resting;)V"), (0, .integer 2147483647), (0, .methodref 56 71), (0, .nameAndType 72 68), (0, u "remove"), (3, u "law"), (0, u "(IIJIJI)Z")] 4

def k1m0 : Method := { name := "<init>", desc := "()V", sig := { parameters := [], returnType := none }, accessFlags := 1, code := none }
def k1c1 : Code := { maxStack := 6, maxLocals := 3, code := method_2_code, exceptionTable := #[], attributes := #[] }
def k1m1 : Method := { name := "price", desc := "(IJ)J", sig := { parameters := [.int, .long], returnType := some .long }, accessFlags := 10, code := some k1c1 }
def k1c2 : Code := { maxStack := 9, maxLocals := 6, code := method_3_code, exceptionTable := #[], attributes := #[] }
def k1m2 : Method := { name := "resting", desc := "(Ljava/lang/String;Lcom/example/uncross/uncross/model/Side;IJ)Lcom/example/uncross/uncross/engine/BookSide$Resting;", sig := { parameters := [(.object "java/lang/String"), (.object "com/example/uncross/uncross/model/Side"), .int, .long], returnType := some (.object "com/example/uncross/uncross/engine/BookSide$Resting") }, accessFlags := 10, code := some k1c2 }
def k1c3 : Code := { maxStack := 5, maxLocals := 14, code := code, exceptionTable := #[], attributes := #[] }
def k1m3 : Method := { name := "law", desc := "(IIJIJI)Z", sig := { parameters := [.int, .int, .long, .int, .long, .int], returnType := some .boolean }, accessFlags := 9, code := some k1c3 }
/-- com/example/uncross/uncross/engine/BookSideIsEmptyPinLaw -/
def k1 : Class := { plain "com/example/uncross/uncross/engine/BookSideIsEmptyPinLaw" (some 0) with
  accessFlags := 49
  interfaces := #[]
  cf := some (fileOf pool1 20 #[] #[{ accessFlags := 1, nameIndex := 5, descriptorIndex := 6, attributes := #[] }, { accessFlags := 10, nameIndex := 23, descriptorIndex := 24, attributes := #[] }, { accessFlags := 10, nameIndex := 52, descriptorIndex := 53, attributes := #[] }, { accessFlags := 9, nameIndex := 76, descriptorIndex := 77, attributes := #[] }] 49 2 #[] #[])
  fields := #[]
  methods := #[k1m0, k1m1, k1m2, k1m3]
  instanceTypes := #[]
  staticTypes := #[]
  resolved := Array.replicate 82 none
  statics := none }

def pool2 : Array CpInfo := pool [(1, .class_ 2), (0, u "java/lang/constant/Constable"), (0, .class_ 4), (0, u "java/lang/Object")] 6

/-- java/lang/constant/Constable -/
def k2 : Class := { plain "java/lang/constant/Constable" (some 0) with
  accessFlags := 1537
  interfaces := #[]
  cf := some (fileOf pool2 1 #[] #[] 1537 3 #[] #[])
  fields := #[]
  methods := #[]
  instanceTypes := #[]
  staticTypes := #[]
  resolved := Array.replicate 11 none
  statics := none }

def pool3 : Array CpInfo := pool [(1, .class_ 2), (0, u "java/lang/Comparable"), (0, .class_ 4), (0, u "java/lang/Object")] 7

/-- java/lang/Comparable -/
def k3 : Class := { plain "java/lang/Comparable" (some 0) with
  accessFlags := 1537
  interfaces := #[]
  cf := some (fileOf pool3 1 #[] #[] 1537 3 #[] #[])
  fields := #[]
  methods := #[]
  instanceTypes := #[]
  staticTypes := #[]
  resolved := Array.replicate 12 none
  statics := none }

def pool4 : Array CpInfo := pool [(1, .class_ 2), (0, u "java/io/Serializable"), (0, .class_ 4), (0, u "java/lang/Object")] 2

/-- java/io/Serializable -/
def k4 : Class := { plain "java/io/Serializable" (some 0) with
  accessFlags := 1537
  interfaces := #[]
  cf := some (fileOf pool4 1 #[] #[] 1537 3 #[] #[])
  fields := #[]
  methods := #[]
  instanceTypes := #[]
  staticTypes := #[]
  resolved := Array.replicate 7 none
  statics := none }

def pool5 : Array CpInfo := pool [(2, .class_ 4), (1, u "java/lang/Enum"), (0, u "name"), (0, u "Ljava/lang/String;"), (2, u "ordinal"), (0, u "I"), (1, .class_ 14), (1, u "java/lang/Object"), (4, u "hash"), (86, .class_ 108), (1, u "java/lang/Enum$EnumDesc"), (2, .class_ 112), (0, u "java/lang/constant/Constable"), (0, .class_ 114), (0, u "java/lang/Comparable"), (0, .class_ 116), (0, u "java/io/Serializable")] 87

/-- java/lang/Enum -/
def k5 : Class := { plain "java/lang/Enum" (some 0) with
  accessFlags := 1057
  interfaces := #[2, 3, 4]
  cf := some (fileOf pool5 2 #[.nestMembers #[106]] #[] 1057 12 #[111, 113, 115] #[{ accessFlags := 18, nameIndex := 5, descriptorIndex := 6, attributes := #[] }, { accessFlags := 18, nameIndex := 9, descriptorIndex := 10, attributes := #[] }, { accessFlags := 2, nameIndex := 19, descriptorIndex := 10, attributes := #[] }])
  fields := #[{ name := "name", type := (.object "java/lang/String"), accessFlags := 18, slot := 0, constantValue := 0 }, { name := "ordinal", type := .int, accessFlags := 18, slot := 1, constantValue := 0 }, { name := "hash", type := .int, accessFlags := 2, slot := 2, constantValue := 0 }]
  methods := #[]
  instanceTypes := #[(.object "java/lang/String"), .int, .int]
  staticTypes := #[]
  resolved := Array.replicate 204 none
  statics := none }

def pool6 : Array CpInfo := pool [(1, .class_ 2), (0, u "com/example/uncross/uncross/model/Side"), (2, u "BUY"), (0, u "Lcom/example/uncross/uncross/model/Side;"), (2, u "SELL"), (2, u "$VALUES"), (0, u "[Lcom/example/uncross/uncross/model/Side;"), (6, .class_ 22), (1, u "java/lang/Enum")] 24

/-- com/example/uncross/uncross/model/Side -/
def k6 : Class := { plain "com/example/uncross/uncross/model/Side" (some 5) with
  accessFlags := 16433
  interfaces := #[]
  cf := some (fileOf pool6 1 #[] #[] 16433 20 #[] #[{ accessFlags := 16409, nameIndex := 5, descriptorIndex := 6, attributes := #[] }, { accessFlags := 16409, nameIndex := 9, descriptorIndex := 6, attributes := #[] }, { accessFlags := 4122, nameIndex := 12, descriptorIndex := 13, attributes := #[] }])
  fields := #[{ name := "BUY", type := (.object "com/example/uncross/uncross/model/Side"), accessFlags := 16409, slot := 0, constantValue := 0 }, { name := "SELL", type := (.object "com/example/uncross/uncross/model/Side"), accessFlags := 16409, slot := 1, constantValue := 0 }, { name := "$VALUES", type := (.array (.object "com/example/uncross/uncross/model/Side")), accessFlags := 4122, slot := 2, constantValue := 0 }]
  methods := #[]
  instanceTypes := #[(.object "java/lang/String"), .int, .int]
  staticTypes := #[(.object "com/example/uncross/uncross/model/Side"), (.object "com/example/uncross/uncross/model/Side"), (.array (.object "com/example/uncross/uncross/model/Side"))]
  resolved := Array.replicate 47 none
  statics := some 0 }

def pool7 : Array CpInfo := pool [(2, .class_ 4), (1, u "java/lang/CharSequence"), (42, .class_ 48), (0, u "java/lang/CharSequence$1CodePointIterator"), (10, .class_ 60), (0, u "java/lang/CharSequence$1CharIterator"), (5, .class_ 67), (0, u "java/lang/Object")] 63

/-- java/lang/CharSequence -/
def k7 : Class := { plain "java/lang/CharSequence" (some 0) with
  accessFlags := 1537
  interfaces := #[]
  cf := some (fileOf pool7 2 #[.nestMembers #[47, 59]] #[] 1537 66 #[] #[])
  fields := #[]
  methods := #[]
  instanceTypes := #[]
  staticTypes := #[]
  resolved := Array.replicate 131 none
  statics := none }

def pool8 : Array CpInfo := pool [(1, .class_ 2), (0, u "java/lang/constant/ConstantDesc"), (0, .class_ 4), (0, u "java/lang/Object")] 32

/-- java/lang/constant/ConstantDesc -/
def k8 : Class := { plain "java/lang/constant/ConstantDesc" (some 0) with
  accessFlags := 1537
  interfaces := #[]
  cf := some (fileOf pool8 1 #[] #[] 1537 3 #[] #[])
  fields := #[]
  methods := #[]
  instanceTypes := #[]
  staticTypes := #[]
  resolved := Array.replicate 37 none
  statics := none }

def pool9 : Array CpInfo := pool [(2, .class_ 4), (1, u "java/lang/Object"), (0, u "<init>"), (0, u "()V"), (2, .fieldref 10 11), (0, .class_ 12), (0, .nameAndType 13 14), (0, u "java/lang/String"), (0, u "value"), (0, u "[B"), (0, .fieldref 10 16), (0, .nameAndType 17 18), (0, u "coder"), (0, u "B"), (2, u "hash"), (0, u "I"), (2, u "hashIsZero"), (0, u "Z"), (11, .fieldref 10 39), (0, .nameAndType 40 26), (0, u "COMPACT_STRINGS"), (66, .class_ 109), (1, u "java/lang/StringLatin1"), (32, u "()Z"), (191, u "()I"), (0, .methodref 10 336), (0, .nameAndType 17 337), (0, u "()B"), (25, u "([BI)C"), (27, u "(II)V"), (35, u "(I)C"), (64, .methodref 10 493), (0, .nameAndType 494 142), (0, u "isLatin1"), (0, .methodref 107 496), (0, .nameAndType 497 363), (0, u "charAt"), (3, u "checkIndex"), (5, u "length"), (67, .class_ 576), (0, u "java/lang/CharSequence"), (22, u "CASE_INSENSITIVE_ORDER"), (0, u "Ljava/util/Comparator;"), (91, u "isEmpty"), (360, .fieldref 1054 1055), (0, .class_ 1056), (0, .nameAndType 1057 1058), (0, u "jdk/internal/util/Preconditions"), (0, u "SIOOBE_FORMATTER"), (0, u "Ljava/util/function/BiFunction;"), (0, .methodref 1054 1060), (0, .nameAndType 501 1061), (0, u "(IILjava/util/function/BiFunction;)I"), (39, u "serialPersistentFields"), (0, u "[Ljava/io/ObjectStreamField;"), (0, .class_ 1104), (0, u "java/lang/String$CaseInsensitiveComparator"), (1, .class_ 1107), (0, u "java/io/Serializable"), (0, .class_ 1109), (0, u "java/lang/Comparable"), (0, .class_ 1111), (0, u "java/lang/constant/Constable"), (0, .class_ 1113), (0, u "java/lang/constant/ConstantDesc"), (2, u "serialVersionUID"), (0, u "J"), (3, u "REPL"), (0, u "C"), (2, u "LATIN1"), (1, u "UTF16")] 323

def k9m0 : Method := { name := "<init>", desc := "()V", sig := { parameters := [], returnType := none }, accessFlags := 1, code := none }
def k9c1 : Code := { maxStack := 2, maxLocals := 1, code := jdk_42_method_54_code, exceptionTable := #[], attributes := #[] }
def k9m1 : Method := { name := "length", desc := "()I", sig := { parameters := [], returnType := some .int }, accessFlags := 1, code := some k9c1 }
def k9c2 : Code := { maxStack := 1, maxLocals := 1, code := jdk_42_method_55_code, exceptionTable := #[], attributes := #[] }
def k9m2 : Method := { name := "isEmpty", desc := "()Z", sig := { parameters := [], returnType := some .boolean }, accessFlags := 1, code := some k9c2 }
def k9c3 : Code := { maxStack := 2, maxLocals := 2, code := jdk_42_method_56_code, exceptionTable := #[], attributes := #[] }
def k9m3 : Method := { name := "charAt", desc := "(I)C", sig := { parameters := [.int], returnType := some .char }, accessFlags := 1, code := some k9c3 }
def k9c4 : Code := { maxStack := 1, maxLocals := 1, code := jdk_42_method_152_code, exceptionTable := #[], attributes := #[] }
def k9m4 : Method := { name := "coder", desc := "()B", sig := { parameters := [], returnType := some .byte }, accessFlags := 0, code := some k9c4 }
def k9c5 : Code := { maxStack := 1, maxLocals := 1, code := jdk_42_method_154_code, exceptionTable := #[], attributes := #[] }
def k9m5 : Method := { name := "isLatin1", desc := "()Z", sig := { parameters := [], returnType := some .boolean }, accessFlags := 0, code := some k9c5 }
def k9c6 : Code := { maxStack := 3, maxLocals := 2, code := jdk_42_method_155_code, exceptionTable := #[], attributes := #[] }
def k9m6 : Method := { name := "checkIndex", desc := "(II)V", sig := { parameters := [.int, .int], returnType := none }, accessFlags := 8, code := some k9c6 }
/-- java/lang/String -/
def k9 : Class := { plain "java/lang/String" (some 0) with
  accessFlags := 49
  interfaces := #[4, 3, 7, 2, 8]
  cf := some (fileOf pool9 10 #[.nestMembers #[1103]] #[{ accessFlags := 1, nameIndex := 5, descriptorIndex := 6, attributes := #[] }, { accessFlags := 1, nameIndex := 507, descriptorIndex := 334, attributes := #[] }, { accessFlags := 1, nameIndex := 692, descriptorIndex := 142, attributes := #[] }, { accessFlags := 1, nameIndex := 497, descriptorIndex := 427, attributes := #[] }, { accessFlags := 0, nameIndex := 17, descriptorIndex := 337, attributes := #[] }, { accessFlags := 0, nameIndex := 494, descriptorIndex := 142, attributes := #[] }, { accessFlags := 8, nameIndex := 501, descriptorIndex := 391, attributes := #[] }] 49 2 #[1106, 1108, 575, 1110, 1112] #[{ accessFlags := 18, nameIndex := 13, descriptorIndex := 14, attributes := #[] }, { accessFlags := 18, nameIndex := 17, descriptorIndex := 18, attributes := #[] }, { accessFlags := 2, nameIndex := 21, descriptorIndex := 22, attributes := #[] }, { accessFlags := 2, nameIndex := 25, descriptorIndex := 26, attributes := #[] }, { accessFlags := 26, nameIndex := 1116, descriptorIndex := 1117, attributes := #[] }, { accessFlags := 24, nameIndex := 40, descriptorIndex := 26, attributes := #[] }, { accessFlags := 26, nameIndex := 1101, descriptorIndex := 1102, attributes := #[] }, { accessFlags := 26, nameIndex := 1121, descriptorIndex := 1122, attributes := #[] }, { accessFlags := 25, nameIndex := 599, descriptorIndex := 600, attributes := #[] }, { accessFlags := 24, nameIndex := 1125, descriptorIndex := 18, attributes := #[] }, { accessFlags := 24, nameIndex := 1127, descriptorIndex := 18, attributes := #[] }])
  fields := #[{ name := "value", type := (.array .byte), accessFlags := 18, slot := 0, constantValue := 0 }, { name := "coder", type := .byte, accessFlags := 18, slot := 1, constantValue := 0 }, { name := "hash", type := .int, accessFlags := 2, slot := 2, constantValue := 0 }, { name := "hashIsZero", type := .boolean, accessFlags := 2, slot := 3, constantValue := 0 }, { name := "serialVersionUID", type := .long, accessFlags := 26, slot := 0, constantValue := 0 }, { name := "COMPACT_STRINGS", type := .boolean, accessFlags := 24, slot := 1, constantValue := 0 }, { name := "serialPersistentFields", type := (.array (.object "java/io/ObjectStreamField")), accessFlags := 26, slot := 2, constantValue := 0 }, { name := "REPL", type := .char, accessFlags := 26, slot := 3, constantValue := 0 }, { name := "CASE_INSENSITIVE_ORDER", type := (.object "java/util/Comparator"), accessFlags := 25, slot := 4, constantValue := 0 }, { name := "LATIN1", type := .byte, accessFlags := 24, slot := 5, constantValue := 0 }, { name := "UTF16", type := .byte, accessFlags := 24, slot := 6, constantValue := 0 }]
  methods := #[k9m0, k9m1, k9m2, k9m3, k9m4, k9m5, k9m6]
  instanceTypes := #[(.array .byte), .byte, .int, .boolean]
  staticTypes := #[.long, .boolean, (.array (.object "java/io/ObjectStreamField")), .char, (.object "java/util/Comparator"), .byte, .byte]
  resolved := Array.replicate 1451 none
  statics := some 1 }

def pool10 : Array CpInfo := pool [(1, .methodref 2 3), (0, .class_ 4), (0, .nameAndType 5 6), (0, u "java/lang/Object"), (0, u "<init>"), (0, u "()V"), (0, .fieldref 8 9), (0, .class_ 10), (0, .nameAndType 11 12), (0, u "java/util/OptionalLong"), (0, u "isPresent"), (0, u "Z"), (0, .fieldref 8 14), (0, .nameAndType 15 16), (0, u "value"), (0, u "J"), (0, .fieldref 8 18), (0, .nameAndType 19 20), (0, u "EMPTY"), (0, u "Ljava/util/OptionalLong;"), (0, .methodref 8 22), (0, .nameAndType 5 23), (0, u "(J)V"), (21, u "of"), (3, u "empty"), (5, u "getAsLong"), (0, u "()J"), (39, u "()Ljava/util/OptionalLong;"), (0, u "(J)Ljava/util/OptionalLong;"), (1, u "()Z"), (0, u "isEmpty")] 37

def k10m0 : Method := { name := "<init>", desc := "()V", sig := { parameters := [], returnType := none }, accessFlags := 2, code := none }
def k10c1 : Code := { maxStack := 1, maxLocals := 0, code := jdk_2650_method_2_code, exceptionTable := #[], attributes := #[] }
def k10m1 : Method := { name := "empty", desc := "()Ljava/util/OptionalLong;", sig := { parameters := [], returnType := some (.object "java/util/OptionalLong") }, accessFlags := 9, code := some k10c1 }
def k10c2 : Code := { maxStack := 3, maxLocals := 3, code := jdk_2650_method_3_code, exceptionTable := #[], attributes := #[] }
def k10m2 : Method := { name := "<init>", desc := "(J)V", sig := { parameters := [.long], returnType := none }, accessFlags := 2, code := some k10c2 }
def k10c3 : Code := { maxStack := 4, maxLocals := 2, code := jdk_2650_method_4_code, exceptionTable := #[], attributes := #[] }
def k10m3 : Method := { name := "of", desc := "(J)Ljava/util/OptionalLong;", sig := { parameters := [.long], returnType := some (.object "java/util/OptionalLong") }, accessFlags := 9, code := some k10c3 }
def k10c4 : Code := { maxStack := 3, maxLocals := 1, code := jdk_2650_method_5_code, exceptionTable := #[], attributes := #[] }
def k10m4 : Method := { name := "getAsLong", desc := "()J", sig := { parameters := [], returnType := some .long }, accessFlags := 1, code := some k10c4 }
def k10c5 : Code := { maxStack := 1, maxLocals := 1, code := jdk_2650_method_6_code, exceptionTable := #[], attributes := #[] }
def k10m5 : Method := { name := "isPresent", desc := "()Z", sig := { parameters := [], returnType := some .boolean }, accessFlags := 1, code := some k10c5 }
def k10c6 : Code := { maxStack := 1, maxLocals := 1, code := jdk_2650_method_7_code, exceptionTable := #[], attributes := #[] }
def k10m6 : Method := { name := "isEmpty", desc := "()Z", sig := { parameters := [], returnType := some .boolean }, accessFlags := 1, code := some k10c6 }
/-- java/util/OptionalLong -/
def k10 : Class := { plain "java/util/OptionalLong" (some 0) with
  accessFlags := 49
  interfaces := #[]
  cf := some (fileOf pool10 8 #[] #[{ accessFlags := 2, nameIndex := 5, descriptorIndex := 6, attributes := #[] }, { accessFlags := 9, nameIndex := 49, descriptorIndex := 96, attributes := #[] }, { accessFlags := 2, nameIndex := 5, descriptorIndex := 23, attributes := #[] }, { accessFlags := 9, nameIndex := 45, descriptorIndex := 97, attributes := #[] }, { accessFlags := 1, nameIndex := 55, descriptorIndex := 56, attributes := #[] }, { accessFlags := 1, nameIndex := 11, descriptorIndex := 99, attributes := #[] }, { accessFlags := 1, nameIndex := 100, descriptorIndex := 99, attributes := #[] }] 49 2 #[] #[{ accessFlags := 26, nameIndex := 19, descriptorIndex := 20, attributes := #[] }, { accessFlags := 18, nameIndex := 11, descriptorIndex := 12, attributes := #[] }, { accessFlags := 18, nameIndex := 15, descriptorIndex := 16, attributes := #[] }])
  fields := #[{ name := "EMPTY", type := (.object "java/util/OptionalLong"), accessFlags := 26, slot := 0, constantValue := 0 }, { name := "isPresent", type := .boolean, accessFlags := 18, slot := 0, constantValue := 0 }, { name := "value", type := .long, accessFlags := 18, slot := 1, constantValue := 0 }]
  methods := #[k10m0, k10m1, k10m2, k10m3, k10m4, k10m5, k10m6]
  instanceTypes := #[.boolean, .long]
  staticTypes := #[(.object "java/util/OptionalLong")]
  resolved := Array.replicate 138 none
  statics := some 2 }

def pool11 : Array CpInfo := pool [(1, .methodref 2 3), (0, .class_ 4), (0, .nameAndType 5 6), (0, u "java/lang/Object"), (0, u "<init>"), (0, u "()V"), (0, .fieldref 8 9), (0, .class_ 10), (0, .nameAndType 11 12), (0, u "com/example/uncross/uncross/engine/BookSide$Resting"), (0, u "order"), (0, u "Lcom/example/uncross/uncross/model/Order;"), (0, .fieldref 8 14), (0, .nameAndType 15 16), (0, u "quantity"), (0, u "J"), (0, .fieldref 8 18), (0, .nameAndType 19 16), (0, u "time"), (0, .fieldref 8 21), (0, .nameAndType 22 23), (0, u "filed"), (0, u "Z"), (2, u "level"), (0, u "Lcom/example/uncross/uncross/engine/BookSide$Level;"), (20, u "ahead"), (0, u "Lcom/example/uncross/uncross/engine/BookSide$Resting;"), (0, u "behind"), (0, u "(Lcom/example/uncross/uncross/model/Order;JJZ)V"), (10, .class_ 63), (0, u "com/example/uncross/uncross/engine/BookSide")] 5

def k11c0 : Code := { maxStack := 3, maxLocals := 7, code := prog_17_method_1_code, exceptionTable := #[], attributes := #[] }
def k11m0 : Method := { name := "<init>", desc := "(Lcom/example/uncross/uncross/model/Order;JJZ)V", sig := { parameters := [(.object "com/example/uncross/uncross/model/Order"), .long, .long, .boolean], returnType := none }, accessFlags := 0, code := some k11c0 }
/-- com/example/uncross/uncross/engine/BookSide$Resting -/
def k11 : Class := { plain "com/example/uncross/uncross/engine/BookSide$Resting" (some 0) with
  accessFlags := 48
  interfaces := #[]
  cf := some (fileOf pool11 8 #[.nestHost 62] #[{ accessFlags := 0, nameIndex := 5, descriptorIndex := 51, attributes := #[] }] 48 2 #[] #[{ accessFlags := 16, nameIndex := 11, descriptorIndex := 12, attributes := #[] }, { accessFlags := 0, nameIndex := 15, descriptorIndex := 16, attributes := #[] }, { accessFlags := 16, nameIndex := 19, descriptorIndex := 16, attributes := #[] }, { accessFlags := 16, nameIndex := 22, descriptorIndex := 23, attributes := #[] }, { accessFlags := 2, nameIndex := 26, descriptorIndex := 27, attributes := #[] }, { accessFlags := 2, nameIndex := 48, descriptorIndex := 49, attributes := #[] }, { accessFlags := 2, nameIndex := 50, descriptorIndex := 49, attributes := #[] }])
  fields := #[{ name := "order", type := (.object "com/example/uncross/uncross/model/Order"), accessFlags := 16, slot := 0, constantValue := 0 }, { name := "quantity", type := .long, accessFlags := 0, slot := 1, constantValue := 0 }, { name := "time", type := .long, accessFlags := 16, slot := 2, constantValue := 0 }, { name := "filed", type := .boolean, accessFlags := 16, slot := 3, constantValue := 0 }, { name := "level", type := (.object "com/example/uncross/uncross/engine/BookSide$Level"), accessFlags := 2, slot := 4, constantValue := 0 }, { name := "ahead", type := (.object "com/example/uncross/uncross/engine/BookSide$Resting"), accessFlags := 2, slot := 5, constantValue := 0 }, { name := "behind", type := (.object "com/example/uncross/uncross/engine/BookSide$Resting"), accessFlags := 2, slot := 6, constantValue := 0 }]
  methods := #[k11m0]
  instanceTypes := #[(.object "com/example/uncross/uncross/model/Order"), .long, .long, .boolean, (.object "com/example/uncross/uncross/engine/BookSide$Level"), (.object "com/example/uncross/uncross/engine/BookSide$Resting"), (.object "com/example/uncross/uncross/engine/BookSide$Resting")]
  staticTypes := #[]
  resolved := Array.replicate 69 none
  statics := none }

def pool12 : Array CpInfo := pool [(1, .methodref 2 3), (0, .class_ 4), (0, .nameAndType 5 6), (0, u "java/lang/Object"), (0, u "<init>"), (0, u "()V"), (0, .class_ 8), (0, u "java/lang/Record")] 13

def k12c0 : Code := { maxStack := 1, maxLocals := 1, code := jdk_30_method_1_code, exceptionTable := #[], attributes := #[] }
def k12m0 : Method := { name := "<init>", desc := "()V", sig := { parameters := [], returnType := none }, accessFlags := 4, code := some k12c0 }
/-- java/lang/Record -/
def k12 : Class := { plain "java/lang/Record" (some 0) with
  accessFlags := 1057
  interfaces := #[]
  cf := some (fileOf pool12 7 #[] #[{ accessFlags := 4, nameIndex := 5, descriptorIndex := 6, attributes := #[] }] 1057 2 #[] #[])
  fields := #[]
  methods := #[k12m0]
  instanceTypes := #[]
  staticTypes := #[]
  resolved := Array.replicate 22 none
  statics := none }

def pool13 : Array CpInfo := pool [(1, .methodref 2 3), (0, .class_ 4), (0, .nameAndType 5 6), (0, u "java/lang/Record"), (0, u "<init>"), (0, u "()V"), (0, .string 8), (0, u "side"), (0, .methodref 10 11), (0, .class_ 12), (0, .nameAndType 13 14), (0, u "java/util/Objects"), (0, u "requireNonNull"), (0, u "(Ljava/lang/Object;Ljava/lang/String;)Ljava/lang/Object;"), (0, .methodref 16 17), (0, .class_ 18), (0, .nameAndType 19 20), (0, u "com/example/uncross/uncross/model/Order"), (0, u "checkId"), (0, u "(Ljava/lang/String;)V"), (0, .methodref 16 22), (0, .nameAndType 23 24), (0, u "checkTerms"), (0, u "(JLjava/util/OptionalLong;)V"), (0, .fieldref 16 26), (0, .nameAndType 27 28), (0, u "id"), (0, u "Ljava/lang/String;"), (0, .fieldref 16 30), (0, .nameAndType 8 31), (0, u "Lcom/example/uncross/uncross/model/Side;"), (0, .fieldref 16 33), (0, .nameAndType 34 35), (0, u "quantity"), (0, u "J"), (0, .fieldref 16 37), (0, .nameAndType 38 39), (0, u "limit"), (0, u "Ljava/util/OptionalLong;"), (0, .methodref 41 42), (0, .class_ 43), (0, .nameAndType 44 45), (0, u "java/util/OptionalLong"), (0, u "isEmpty"), (0, u "()Z"), (2, u "isMarket"), (0, .methodref 41 50), (0, .nameAndType 51 52), (0, u "getAsLong"), (0, u "()J"), (5, .string 27), (0, .class_ 60), (0, u "java/lang/String"), (0, .methodref 16 62), (0, .nameAndType 63 64), (0, u "isValidId"), (0, u "(Ljava/lang/String;)Z"), (8, .string 38), (0, .methodref 75 76), (0, .class_ 77), (0, .nameAndType 78 79), (0, u "com/example/uncross/uncross/model/Quantities"), (0, u "check"), (0, u "(J)V"), (0, .methodref 41 81), (0, .nameAndType 82 45), (0, u "isPresent"), (0, .methodref 84 76), (0, .class_ 85), (0, u "com/example/uncross/uncross/model/Prices"), (0, .methodref 59 42), (0, .methodref 59 88), (0, .nameAndType 89 90), (0, u "length"), (0, u "()I"), (0, .methodref 59 92), (0, .nameAndType 93 94), (0, u "charAt"), (0, u "(I)C"), (0, .fieldref 16 96), (0, .nameAndType 97 98), (0, u "ID_CHARACTERS"), (0, u "[Z"), (22, u "MAX_ID_LENGTH"), (0, u "I"), (2, u "(Ljava/lang/String;Lcom/example/uncross/uncross/model/Side;JLjava/util/OptionalLong;)V"), (10, u "()Ljava/util/OptionalLong;")] 32

def k13c0 : Code := { maxStack := 3, maxLocals := 6, code := prog_70_method_1_code, exceptionTable := #[], attributes := #[] }
def k13m0 : Method := { name := "<init>", desc := "(Ljava/lang/String;Lcom/example/uncross/uncross/model/Side;JLjava/util/OptionalLong;)V", sig := { parameters := [(.object "java/lang/String"), (.object "com/example/uncross/uncross/model/Side"), .long, (.object "java/util/OptionalLong")], returnType := none }, accessFlags := 1, code := some k13c0 }
def k13c1 : Code := { maxStack := 1, maxLocals := 1, code := prog_70_method_2_code, exceptionTable := #[], attributes := #[] }
def k13m1 : Method := { name := "isMarket", desc := "()Z", sig := { parameters := [], returnType := some .boolean }, accessFlags := 1, code := some k13c1 }
def k13c2 : Code := { maxStack := 3, maxLocals := 1, code := prog_70_method_4_code, exceptionTable := #[], attributes := #[] }
def k13m2 : Method := { name := "checkId", desc := "(Ljava/lang/String;)V", sig := { parameters := [(.object "java/lang/String")], returnType := none }, accessFlags := 8, code := some k13c2 }
def k13c3 : Code := { maxStack := 2, maxLocals := 3, code := prog_70_method_5_code, exceptionTable := #[], attributes := #[] }
def k13m3 : Method := { name := "checkTerms", desc := "(JLjava/util/OptionalLong;)V", sig := { parameters := [.long, (.object "java/util/OptionalLong")], returnType := none }, accessFlags := 9, code := some k13c3 }
def k13c4 : Code := { maxStack := 2, maxLocals := 3, code := prog_70_method_6_code, exceptionTable := #[], attributes := #[] }
def k13m4 : Method := { name := "isValidId", desc := "(Ljava/lang/String;)Z", sig := { parameters := [(.object "java/lang/String")], returnType := some .boolean }, accessFlags := 10, code := some k13c4 }
def k13c5 : Code := { maxStack := 1, maxLocals := 1, code := prog_70_method_14_code, exceptionTable := #[], attributes := #[] }
def k13m5 : Method := { name := "limit", desc := "()Ljava/util/OptionalLong;", sig := { parameters := [], returnType := some (.object "java/util/OptionalLong") }, accessFlags := 1, code := some k13c5 }
/-- com/example/uncross/uncross/model/Order -/
def k13 : Class := { plain "com/example/uncross/uncross/model/Order" (some 12) with
  accessFlags := 49
  interfaces := #[]
  cf := some (fileOf pool13 16 #[] #[{ accessFlags := 1, nameIndex := 5, descriptorIndex := 125, attributes := #[] }, { accessFlags := 1, nameIndex := 48, descriptorIndex := 45, attributes := #[] }, { accessFlags := 8, nameIndex := 19, descriptorIndex := 20, attributes := #[] }, { accessFlags := 9, nameIndex := 23, descriptorIndex := 24, attributes := #[] }, { accessFlags := 10, nameIndex := 63, descriptorIndex := 64, attributes := #[] }, { accessFlags := 1, nameIndex := 38, descriptorIndex := 136, attributes := #[] }] 49 2 #[] #[{ accessFlags := 18, nameIndex := 27, descriptorIndex := 28, attributes := #[] }, { accessFlags := 18, nameIndex := 8, descriptorIndex := 31, attributes := #[] }, { accessFlags := 18, nameIndex := 34, descriptorIndex := 35, attributes := #[] }, { accessFlags := 18, nameIndex := 38, descriptorIndex := 39, attributes := #[] }, { accessFlags := 25, nameIndex := 121, descriptorIndex := 122, attributes := #[] }, { accessFlags := 26, nameIndex := 97, descriptorIndex := 98, attributes := #[] }])
  fields := #[{ name := "id", type := (.object "java/lang/String"), accessFlags := 18, slot := 0, constantValue := 0 }, { name := "side", type := (.object "com/example/uncross/uncross/model/Side"), accessFlags := 18, slot := 1, constantValue := 0 }, { name := "quantity", type := .long, accessFlags := 18, slot := 2, constantValue := 0 }, { name := "limit", type := (.object "java/util/OptionalLong"), accessFlags := 18, slot := 3, constantValue := 0 }, { name := "MAX_ID_LENGTH", type := .int, accessFlags := 25, slot := 0, constantValue := 0 }, { name := "ID_CHARACTERS", type := (.array .boolean), accessFlags := 26, slot := 1, constantValue := 0 }]
  methods := #[k13m0, k13m1, k13m2, k13m3, k13m4, k13m5]
  instanceTypes := #[(.object "java/lang/String"), (.object "com/example/uncross/uncross/model/Side"), .long, (.object "java/util/OptionalLong")]
  staticTypes := #[.int, (.array .boolean)]
  resolved := Array.replicate 169 none
  statics := some 3 }

def pool14 : Array CpInfo := pool [(2, .class_ 4), (1, u "java/lang/Object"), (0, u "<init>"), (0, u "()V"), (35, .class_ 44), (1, u "java/util/Objects"), (0, u "requireNonNull"), (48, u "(Ljava/lang/Object;Ljava/lang/String;)Ljava/lang/Object;")] 89

def k14m0 : Method := { name := "<init>", desc := "()V", sig := { parameters := [], returnType := none }, accessFlags := 2, code := none }
def k14c1 : Code := { maxStack := 3, maxLocals := 2, code := jdk_31_method_11_code, exceptionTable := #[], attributes := #[] }
def k14m1 : Method := { name := "requireNonNull", desc := "(Ljava/lang/Object;Ljava/lang/String;)Ljava/lang/Object;", sig := { parameters := [(.object "java/lang/Object"), (.object "java/lang/String")], returnType := some (.object "java/lang/Object") }, accessFlags := 9, code := some k14c1 }
/-- java/util/Objects -/
def k14 : Class := { plain "java/util/Objects" (some 0) with
  accessFlags := 49
  interfaces := #[]
  cf := some (fileOf pool14 42 #[] #[{ accessFlags := 2, nameIndex := 5, descriptorIndex := 6, attributes := #[] }, { accessFlags := 9, nameIndex := 45, descriptorIndex := 94, attributes := #[] }] 49 2 #[] #[])
  fields := #[]
  methods := #[k14m0, k14m1]
  instanceTypes := #[]
  staticTypes := #[]
  resolved := Array.replicate 184 none
  statics := none }

def pool15 : Array CpInfo := pool [(1, .class_ 2), (0, u "java/lang/String"), (1, .class_ 6), (1, u "java/lang/Object"), (0, u "<init>"), (0, u "()V"), (0, .methodref 1 10), (0, .nameAndType 11 12), (0, u "checkIndex"), (0, u "(II)V"), (1, .class_ 16), (1, u "java/lang/StringLatin1"), (36, u "([BI)C"), (67, u "$assertionsDisabled"), (0, u "Z"), (98, .class_ 223), (1, u "java/lang/StringLatin1$LinesSpliterator"), (28, u "charAt"), (137, .class_ 391), (0, u "java/lang/StringLatin1$CharsSpliterator")] 3

def k15m0 : Method := { name := "<init>", desc := "()V", sig := { parameters := [], returnType := none }, accessFlags := 0, code := none }
def k15c1 : Code := { maxStack := 2, maxLocals := 2, code := jdk_43_method_2_code, exceptionTable := #[], attributes := #[] }
def k15m1 : Method := { name := "charAt", desc := "([BI)C", sig := { parameters := [(.array .byte), .int], returnType := some .char }, accessFlags := 9, code := some k15c1 }
/-- java/lang/StringLatin1 -/
def k15 : Class := { plain "java/lang/StringLatin1" (some 0) with
  accessFlags := 48
  interfaces := #[]
  cf := some (fileOf pool15 14 #[.nestMembers #[390, 221]] #[{ accessFlags := 0, nameIndex := 7, descriptorIndex := 8, attributes := #[] }, { accessFlags := 9, nameIndex := 252, descriptorIndex := 53, attributes := #[] }] 48 4 #[] #[{ accessFlags := 4120, nameIndex := 121, descriptorIndex := 122, attributes := #[] }])
  fields := #[{ name := "$assertionsDisabled", type := .boolean, accessFlags := 4120, slot := 0, constantValue := 0 }]
  methods := #[k15m0, k15m1]
  instanceTypes := #[]
  staticTypes := #[.boolean]
  resolved := Array.replicate 395 none
  statics := none }

def pool16 : Array CpInfo := pool [(2, .class_ 4), (1, u "java/lang/Object"), (0, u "<init>"), (0, u "()V"), (17, .class_ 26), (1, u "jdk/internal/util/Preconditions"), (6, u "checkIndex"), (21, .class_ 56), (0, u "jdk/internal/util/Preconditions$4"), (57, .class_ 115), (0, u "jdk/internal/util/Preconditions$1"), (7, u "SIOOBE_FORMATTER"), (0, u "Ljava/util/function/BiFunction;"), (0, .class_ 126), (0, u "jdk/internal/util/Preconditions$2"), (3, u "AIOOBE_FORMATTER"), (0, .class_ 132), (0, u "jdk/internal/util/Preconditions$3"), (3, u "IOOBE_FORMATTER"), (41, u "(IILjava/util/function/BiFunction;)I")] 15

def k16m0 : Method := { name := "<init>", desc := "()V", sig := { parameters := [], returnType := none }, accessFlags := 1, code := none }
def k16c1 : Code := { maxStack := 3, maxLocals := 3, code := jdk_41_method_11_code, exceptionTable := #[], attributes := #[] }
def k16m1 : Method := { name := "checkIndex", desc := "(IILjava/util/function/BiFunction;)I", sig := { parameters := [.int, .int, (.object "java/util/function/BiFunction")], returnType := some .int }, accessFlags := 9, code := some k16c1 }
/-- jdk/internal/util/Preconditions -/
def k16 : Class := { plain "jdk/internal/util/Preconditions" (some 0) with
  accessFlags := 33
  interfaces := #[]
  cf := some (fileOf pool16 24 #[.nestMembers #[55, 131, 125, 114]] #[{ accessFlags := 1, nameIndex := 5, descriptorIndex := 6, attributes := #[] }, { accessFlags := 9, nameIndex := 33, descriptorIndex := 178, attributes := #[] }] 33 2 #[] #[{ accessFlags := 25, nameIndex := 123, descriptorIndex := 124, attributes := #[] }, { accessFlags := 25, nameIndex := 130, descriptorIndex := 124, attributes := #[] }, { accessFlags := 25, nameIndex := 136, descriptorIndex := 124, attributes := #[] }])
  fields := #[{ name := "SIOOBE_FORMATTER", type := (.object "java/util/function/BiFunction"), accessFlags := 25, slot := 0, constantValue := 0 }, { name := "AIOOBE_FORMATTER", type := (.object "java/util/function/BiFunction"), accessFlags := 25, slot := 1, constantValue := 0 }, { name := "IOOBE_FORMATTER", type := (.object "java/util/function/BiFunction"), accessFlags := 25, slot := 2, constantValue := 0 }]
  methods := #[k16m0, k16m1]
  instanceTypes := #[]
  staticTypes := #[(.object "java/util/function/BiFunction"), (.object "java/util/function/BiFunction"), (.object "java/util/function/BiFunction")]
  resolved := Array.replicate 194 none
  statics := some 4 }

def pool17 : Array CpInfo := pool [(2, .class_ 4), (1, u "java/lang/Object"), (0, u "<init>"), (0, u "()V"), (1, .class_ 10), (1, u "com/example/uncross/uncross/model/Quantities"), (2, .methodref 8 14), (0, .nameAndType 15 16), (0, u "check"), (0, u "(JJ)V"), (0, .long 1000000000), (6, .methodref 8 25), (0, .nameAndType 26 27), (0, u "inRange"), (0, u "(JJ)Z"), (12, u "MAX"), (0, u "J"), (5, u "(J)V")] 21

def k17m0 : Method := { name := "<init>", desc := "()V", sig := { parameters := [], returnType := none }, accessFlags := 2, code := none }
def k17c1 : Code := { maxStack := 4, maxLocals := 2, code := prog_82_method_4_code, exceptionTable := #[], attributes := #[] }
def k17m1 : Method := { name := "check", desc := "(J)V", sig := { parameters := [.long], returnType := none }, accessFlags := 9, code := some k17c1 }
def k17c2 : Code := { maxStack := 6, maxLocals := 4, code := prog_82_method_7_code, exceptionTable := #[], attributes := #[] }
def k17m2 : Method := { name := "check", desc := "(JJ)V", sig := { parameters := [.long, .long], returnType := none }, accessFlags := 10, code := some k17c2 }
def k17c3 : Code := { maxStack := 4, maxLocals := 4, code := prog_82_method_8_code, exceptionTable := #[], attributes := #[] }
def k17m3 : Method := { name := "inRange", desc := "(JJ)Z", sig := { parameters := [.long, .long], returnType := some .boolean }, accessFlags := 10, code := some k17c3 }
/-- com/example/uncross/uncross/model/Quantities -/
def k17 : Class := { plain "com/example/uncross/uncross/model/Quantities" (some 0) with
  accessFlags := 49
  interfaces := #[]
  cf := some (fileOf pool17 8 #[] #[{ accessFlags := 2, nameIndex := 5, descriptorIndex := 6, attributes := #[] }, { accessFlags := 9, nameIndex := 15, descriptorIndex := 47, attributes := #[] }, { accessFlags := 10, nameIndex := 15, descriptorIndex := 16, attributes := #[] }, { accessFlags := 10, nameIndex := 26, descriptorIndex := 27, attributes := #[] }] 49 2 #[] #[{ accessFlags := 25, nameIndex := 40, descriptorIndex := 41, attributes := #[] }])
  fields := #[{ name := "MAX", type := .long, accessFlags := 25, slot := 0, constantValue := 0 }]
  methods := #[k17m0, k17m1, k17m2, k17m3]
  instanceTypes := #[]
  staticTypes := #[.long]
  resolved := Array.replicate 69 none
  statics := none }

def pool18 : Array CpInfo := pool [(1, .class_ 2), (0, u "com/example/uncross/uncross/model/Prices"), (1, .class_ 6), (1, u "java/lang/Object"), (0, u "<init>"), (0, u "()V"), (0, .string 10), (0, u "price"), (45, .methodref 1 57), (0, .nameAndType 58 59), (0, u "inRange"), (0, u "(J)Z"), (2, u "RANGE"), (0, u "Ljava/lang/String;"), (3, .methodref 1 68), (0, .nameAndType 69 70), (0, u "check"), (0, u "(Ljava/lang/String;J)V"), (16, .long 1000000000000), (14, u "DECIMALS"), (0, u "I"), (2, u "SCALE"), (0, u "J"), (0, u "MAX"), (4, u "(J)V")] 34

def k18m0 : Method := { name := "<init>", desc := "()V", sig := { parameters := [], returnType := none }, accessFlags := 2, code := none }
def k18c1 : Code := { maxStack := 3, maxLocals := 2, code := prog_81_method_4_code, exceptionTable := #[], attributes := #[] }
def k18m1 : Method := { name := "check", desc := "(J)V", sig := { parameters := [.long], returnType := none }, accessFlags := 9, code := some k18c1 }
def k18c2 : Code := { maxStack := 6, maxLocals := 3, code := prog_81_method_5_code, exceptionTable := #[], attributes := #[] }
def k18m2 : Method := { name := "check", desc := "(Ljava/lang/String;J)V", sig := { parameters := [(.object "java/lang/String"), .long], returnType := none }, accessFlags := 8, code := some k18c2 }
def k18c3 : Code := { maxStack := 4, maxLocals := 2, code := prog_81_method_9_code, exceptionTable := #[], attributes := #[] }
def k18m3 : Method := { name := "inRange", desc := "(J)Z", sig := { parameters := [.long], returnType := some .boolean }, accessFlags := 10, code := some k18c3 }
/-- com/example/uncross/uncross/model/Prices -/
def k18 : Class := { plain "com/example/uncross/uncross/model/Prices" (some 0) with
  accessFlags := 49
  interfaces := #[]
  cf := some (fileOf pool18 1 #[] #[{ accessFlags := 2, nameIndex := 7, descriptorIndex := 8, attributes := #[] }, { accessFlags := 9, nameIndex := 69, descriptorIndex := 113, attributes := #[] }, { accessFlags := 8, nameIndex := 69, descriptorIndex := 70, attributes := #[] }, { accessFlags := 10, nameIndex := 58, descriptorIndex := 59, attributes := #[] }] 49 4 #[] #[{ accessFlags := 25, nameIndex := 102, descriptorIndex := 103, attributes := #[] }, { accessFlags := 25, nameIndex := 106, descriptorIndex := 107, attributes := #[] }, { accessFlags := 25, nameIndex := 108, descriptorIndex := 107, attributes := #[] }, { accessFlags := 26, nameIndex := 62, descriptorIndex := 63, attributes := #[] }])
  fields := #[{ name := "DECIMALS", type := .int, accessFlags := 25, slot := 0, constantValue := 0 }, { name := "SCALE", type := .long, accessFlags := 25, slot := 1, constantValue := 0 }, { name := "MAX", type := .long, accessFlags := 25, slot := 2, constantValue := 0 }, { name := "RANGE", type := (.object "java/lang/String"), accessFlags := 26, slot := 3, constantValue := 0 }]
  methods := #[k18m0, k18m1, k18m2, k18m3]
  instanceTypes := #[]
  staticTypes := #[.int, .long, .long, (.object "java/lang/String")]
  resolved := Array.replicate 148 none
  statics := none }

def pool19 : Array CpInfo := pool [(1, .class_ 2), (0, u "com/example/uncross/uncross/engine/BookSide"), (0, .methodref 4 5), (0, .class_ 6), (0, .nameAndType 7 8), (0, u "java/lang/Object"), (0, u "<init>"), (0, u "()V"), (0, .class_ 10), (0, u "com/example/uncross/uncross/engine/BookSide$Level"), (0, .methodref 9 12), (0, .nameAndType 7 13), (0, u "(J)V"), (0, .fieldref 1 15), (0, .nameAndType 16 17), (0, u "markets"), (0, u "Lcom/example/uncross/uncross/engine/BookSide$Level;"), (0, .fieldref 1 19), (0, .nameAndType 20 21), (0, u "levels"), (0, u "[Lcom/example/uncross/uncross/engine/BookSide$Level;"), (0, .fieldref 1 23), (0, .nameAndType 24 25), (0, u "keys"), (0, u "[J"), (0, .fieldref 1 27), (0, .nameAndType 28 29), (0, u "levelCount"), (0, u "I"), (0, .class_ 31), (0, u "java/util/TreeMap"), (0, .methodref 30 5), (0, .fieldref 1 34), (0, .nameAndType 35 36), (0, u "deep"), (0, u "Ljava/util/TreeMap;"), (0, .fieldref 38 39), (0, .class_ 40), (0, .nameAndType 41 42), (0, u "com/example/uncross/uncross/model/Side"), (0, u "BUY"), (0, u "Lcom/example/uncross/uncross/model/Side;"), (0, .fieldref 1 44), (0, .nameAndType 45 46), (0, u "buying"), (0, u "Z"), (2, .long 9223372036854775808), (1, .fieldref 9 52), (0, .nameAndType 53 54), (0, u "first"), (0, u "Lcom/example/uncross/uncross/engine/BookSide$Resting;"), (0, .fieldref 56 57), (0, .class_ 58), (0, .nameAndType 59 54), (0, u "com/example/uncross/uncross/engine/BookSide$Resting"), (0, u "behind"), (0, .fieldref 56 61), (0, .nameAndType 62 17), (0, u "level"), (0, .fieldref 9 64), (0, .nameAndType 35 46), (0, .fieldref 9 66), (0, .nameAndType 67 68), (0, u "key"), (0, u "J"), (12, .methodref 1 82), (0, .nameAndType 83 84), (0, u "atOrBelow"), (0, u "(J)I"), (4, .methodref 90 91), (0, .class_ 92), (0, .nameAndType 93 94), (0, u "com/example/uncross/uncross/model/Order"), (0, u "isMarket"), (0, u "()Z"), (0, .methodref 90 96), (0, .nameAndType 97 98), (0, u "limit"), (0, u "()Ljava/util/OptionalLong;"), (0, .methodref 100 101), (0, .class_ 102), (0, .nameAndType 103 104), (0, u "java/util/OptionalLong"), (0, u "getAsLong"), (0, u "()J"), (0, .methodref 1 106), (0, .nameAndType 107 108), (0, u "keyOf"), (0, u "(J)J"), (10, .fieldref 56 120), (0, .nameAndType 121 122), (0, u "order"), (0, u "Lcom/example/uncross/uncross/model/Order;"), (0, .methodref 1 124), (0, .nameAndType 125 126), (0, u "levelFor"), (0, u "(J)Lcom/example/uncross/uncross/engine/BookSide$Level;"), (0, .fieldref 9 128), (0, .nameAndType 129 54), (0, u "last"), (0, .fieldref 56 131), (0, .nameAndType 132 54), (0, u "ahead"), (2, u "remove"), (1, .fieldref 1 138), (0, .nameAndType 139 29), (0, u "emptyLevels"), (3, .methodref 30 144), (0, .nameAndType 145 94), (0, u "isEmpty"), (10, .class_ 158), (1, u "java/lang/Math"), (1, u "(II)I"), (10, .methodref 172 173), (0, .class_ 174), (0, .nameAndType 175 176), (0, u "java/lang/System"), (0, u "arraycopy"), (0, u "(Ljava/lang/Object;ILjava/lang/Object;II)V"), (24, .methodref 156 202), (0, .nameAndType 203 160), (0, u "max"), (0, u "INITIAL_LEVELS"), (2, u "MIN_EMPTY_TO_COMPACT"), (1, u "MAX_LEVELS"), (1, u "LEVELS_RAISED"), (3, u "(Lcom/example/uncross/uncross/model/Side;)V"), (9, u "add"), (0, u "(Lcom/example/uncross/uncross/engine/BookSide$Resting;)V")] 10

def k19c0 : Code := { maxStack := 6, maxLocals := 2, code := prog_15_method_1_code, exceptionTable := #[], attributes := #[] }
def k19m0 : Method := { name := "<init>", desc := "(Lcom/example/uncross/uncross/model/Side;)V", sig := { parameters := [(.object "com/example/uncross/uncross/model/Side")], returnType := none }, accessFlags := 0, code := some k19c0 }
def k19c1 : Code := { maxStack := 2, maxLocals := 1, code := prog_15_method_2_code, exceptionTable := #[], attributes := #[] }
def k19m1 : Method := { name := "isEmpty", desc := "()Z", sig := { parameters := [], returnType := some .boolean }, accessFlags := 0, code := some k19c1 }
def k19c2 : Code := { maxStack := 3, maxLocals := 3, code := prog_15_method_7_code, exceptionTable := #[], attributes := #[] }
def k19m2 : Method := { name := "add", desc := "(Lcom/example/uncross/uncross/engine/BookSide$Resting;)V", sig := { parameters := [(.object "com/example/uncross/uncross/engine/BookSide$Resting")], returnType := none }, accessFlags := 0, code := some k19c2 }
def k19c3 : Code := { maxStack := 4, maxLocals := 3, code := prog_15_method_8_code, exceptionTable := #[], attributes := #[] }
def k19m3 : Method := { name := "remove", desc := "(Lcom/example/uncross/uncross/engine/BookSide$Resting;)V", sig := { parameters := [(.object "com/example/uncross/uncross/engine/BookSide$Resting")], returnType := none }, accessFlags := 0, code := some k19c3 }
def k19c4 : Code := { maxStack := 6, maxLocals := 8, code := prog_15_method_9_code, exceptionTable := #[], attributes := #[] }
def k19m4 : Method := { name := "levelFor", desc := "(J)Lcom/example/uncross/uncross/engine/BookSide$Level;", sig := { parameters := [.long], returnType := some (.object "com/example/uncross/uncross/engine/BookSide$Level") }, accessFlags := 2, code := some k19c4 }
def k19c5 : Code := { maxStack := 4, maxLocals := 7, code := prog_15_method_15_code, exceptionTable := #[], attributes := #[] }
def k19m5 : Method := { name := "atOrBelow", desc := "(J)I", sig := { parameters := [.long], returnType := some .int }, accessFlags := 2, code := some k19c5 }
def k19c6 : Code := { maxStack := 2, maxLocals := 3, code := prog_15_method_16_code, exceptionTable := #[], attributes := #[] }
def k19m6 : Method := { name := "keyOf", desc := "(J)J", sig := { parameters := [.long], returnType := some .long }, accessFlags := 2, code := some k19c6 }
/-- com/example/uncross/uncross/engine/BookSide -/
def k19 : Class := { plain "com/example/uncross/uncross/engine/BookSide" (some 0) with
  accessFlags := 48
  interfaces := #[]
  cf := some (fileOf pool19 1 #[.nestMembers #[9, 56]] #[{ accessFlags := 0, nameIndex := 7, descriptorIndex := 215, attributes := #[] }, { accessFlags := 0, nameIndex := 145, descriptorIndex := 94, attributes := #[] }, { accessFlags := 0, nameIndex := 225, descriptorIndex := 226, attributes := #[] }, { accessFlags := 0, nameIndex := 135, descriptorIndex := 226, attributes := #[] }, { accessFlags := 2, nameIndex := 125, descriptorIndex := 126, attributes := #[] }, { accessFlags := 2, nameIndex := 83, descriptorIndex := 84, attributes := #[] }, { accessFlags := 2, nameIndex := 107, descriptorIndex := 108, attributes := #[] }] 48 4 #[] #[{ accessFlags := 26, nameIndex := 204, descriptorIndex := 29, attributes := #[] }, { accessFlags := 26, nameIndex := 207, descriptorIndex := 29, attributes := #[] }, { accessFlags := 26, nameIndex := 209, descriptorIndex := 29, attributes := #[] }, { accessFlags := 26, nameIndex := 211, descriptorIndex := 29, attributes := #[] }, { accessFlags := 18, nameIndex := 45, descriptorIndex := 46, attributes := #[] }, { accessFlags := 18, nameIndex := 16, descriptorIndex := 17, attributes := #[] }, { accessFlags := 2, nameIndex := 20, descriptorIndex := 21, attributes := #[] }, { accessFlags := 2, nameIndex := 24, descriptorIndex := 25, attributes := #[] }, { accessFlags := 2, nameIndex := 28, descriptorIndex := 29, attributes := #[] }, { accessFlags := 2, nameIndex := 139, descriptorIndex := 29, attributes := #[] }, { accessFlags := 18, nameIndex := 35, descriptorIndex := 36, attributes := #[] }])
  fields := #[{ name := "INITIAL_LEVELS", type := .int, accessFlags := 26, slot := 0, constantValue := 0 }, { name := "MIN_EMPTY_TO_COMPACT", type := .int, accessFlags := 26, slot := 1, constantValue := 0 }, { name := "MAX_LEVELS", type := .int, accessFlags := 26, slot := 2, constantValue := 0 }, { name := "LEVELS_RAISED", type := .int, accessFlags := 26, slot := 3, constantValue := 0 }, { name := "buying", type := .boolean, accessFlags := 18, slot := 0, constantValue := 0 }, { name := "markets", type := (.object "com/example/uncross/uncross/engine/BookSide$Level"), accessFlags := 18, slot := 1, constantValue := 0 }, { name := "levels", type := (.array (.object "com/example/uncross/uncross/engine/BookSide$Level")), accessFlags := 2, slot := 2, constantValue := 0 }, { name := "keys", type := (.array .long), accessFlags := 2, slot := 3, constantValue := 0 }, { name := "levelCount", type := .int, accessFlags := 2, slot := 4, constantValue := 0 }, { name := "emptyLevels", type := .int, accessFlags := 2, slot := 5, constantValue := 0 }, { name := "deep", type := (.object "java/util/TreeMap"), accessFlags := 18, slot := 6, constantValue := 0 }]
  methods := #[k19m0, k19m1, k19m2, k19m3, k19m4, k19m5, k19m6]
  instanceTypes := #[.boolean, (.object "com/example/uncross/uncross/engine/BookSide$Level"), (.array (.object "com/example/uncross/uncross/engine/BookSide$Level")), (.array .long), .int, .int, (.object "java/util/TreeMap")]
  staticTypes := #[.int, .int, .int, .int]
  resolved := ⟨List.replicate 55 none ++ some (.field 11 6) :: (List.replicate 4 none ++ some (.field 11 4) :: (List.replicate 69 none ++ some (.field 11 5) :: (List.replicate 106 none)))⟩
  statics := none }

def pool20 : Array CpInfo := pool [(1, .methodref 2 3), (0, .class_ 4), (0, .nameAndType 5 6), (0, u "java/lang/Object"), (0, u "<init>"), (0, u "()V"), (0, .fieldref 8 9), (0, .class_ 10), (0, .nameAndType 11 12), (0, u "com/example/uncross/uncross/engine/BookSide$Level"), (0, u "key"), (0, u "J"), (0, u "deep"), (0, u "Z"), (0, u "first"), (0, u "Lcom/example/uncross/uncross/engine/BookSide$Resting;"), (0, u "last"), (0, u "(J)V"), (5, .class_ 25), (0, u "com/example/uncross/uncross/engine/BookSide")] 5

def k20c0 : Code := { maxStack := 3, maxLocals := 3, code := prog_16_method_1_code, exceptionTable := #[], attributes := #[] }
def k20m0 : Method := { name := "<init>", desc := "(J)V", sig := { parameters := [.long], returnType := none }, accessFlags := 0, code := some k20c0 }
/-- com/example/uncross/uncross/engine/BookSide$Level -/
def k20 : Class := { plain "com/example/uncross/uncross/engine/BookSide$Level" (some 0) with
  accessFlags := 48
  interfaces := #[]
  cf := some (fileOf pool20 8 #[.nestHost 24] #[{ accessFlags := 0, nameIndex := 5, descriptorIndex := 18, attributes := #[] }] 48 2 #[] #[{ accessFlags := 16, nameIndex := 11, descriptorIndex := 12, attributes := #[] }, { accessFlags := 0, nameIndex := 13, descriptorIndex := 14, attributes := #[] }, { accessFlags := 0, nameIndex := 15, descriptorIndex := 16, attributes := #[] }, { accessFlags := 0, nameIndex := 17, descriptorIndex := 16, attributes := #[] }])
  fields := #[{ name := "key", type := .long, accessFlags := 16, slot := 0, constantValue := 0 }, { name := "deep", type := .boolean, accessFlags := 0, slot := 1, constantValue := 0 }, { name := "first", type := (.object "com/example/uncross/uncross/engine/BookSide$Resting"), accessFlags := 0, slot := 2, constantValue := 0 }, { name := "last", type := (.object "com/example/uncross/uncross/engine/BookSide$Resting"), accessFlags := 0, slot := 3, constantValue := 0 }]
  methods := #[k20m0]
  instanceTypes := #[.long, .boolean, (.object "com/example/uncross/uncross/engine/BookSide$Resting"), (.object "com/example/uncross/uncross/engine/BookSide$Resting")]
  staticTypes := #[]
  resolved := Array.replicate 31 none
  statics := none }

def pool21 : Array CpInfo := pool [(2, .class_ 4), (1, u "java/util/Map"), (31, .class_ 37), (0, u "java/util/Map$Entry"), (55, .class_ 94), (0, u "java/lang/Object")] 168

/-- java/util/Map -/
def k21 : Class := { plain "java/util/Map" (some 0) with
  accessFlags := 1537
  interfaces := #[]
  cf := some (fileOf pool21 2 #[.nestMembers #[36]] #[] 1537 93 #[] #[])
  fields := #[]
  methods := #[]
  instanceTypes := #[]
  staticTypes := #[]
  resolved := Array.replicate 263 none
  statics := none }

def pool22 : Array CpInfo := pool [(1, .methodref 2 3), (0, .class_ 4), (0, .nameAndType 5 6), (0, u "java/lang/Object"), (0, u "<init>"), (0, u "()V"), (1, .class_ 10), (1, u "java/util/AbstractMap"), (4, .nameAndType 17 18), (1, u "size"), (0, u "()I"), (0, .methodref 8 15), (9, u "()Z"), (23, .class_ 54), (0, u "java/util/Map"), (9, u "keySet"), (0, u "Ljava/util/Set;"), (0, .class_ 67), (0, u "java/util/AbstractMap$1"), (5, u "values"), (0, u "Ljava/util/Collection;"), (0, .class_ 76), (0, u "java/util/AbstractMap$2"), (47, u "isEmpty"), (56, .class_ 182), (0, u "java/util/AbstractMap$ViewCollection"), (0, .class_ 184), (0, u "java/util/AbstractMap$SimpleImmutableEntry"), (0, .class_ 186), (0, u "java/util/AbstractMap$SimpleEntry"), (0, .class_ 188), (0, u "java/util/AbstractMap$2$1"), (0, .class_ 190), (0, u "java/util/AbstractMap$1$1")] 5

def k22c0 : Code := { maxStack := 1, maxLocals := 1, code := jdk_71_method_1_code, exceptionTable := #[], attributes := #[] }
def k22m0 : Method := { name := "<init>", desc := "()V", sig := { parameters := [], returnType := none }, accessFlags := 4, code := some k22c0 }
def k22c1 : Code := { maxStack := 1, maxLocals := 1, code := ⟨#[0x2a, 0xb6, 0x00, 0x07, 0xb9, 0x00, 0x0d, 0x01, 0x00, 0xac]⟩, exceptionTable := #[], attributes := #[] }
def k22m1 : Method := { name := "size", desc := "()I", sig := { parameters := [], returnType := some .int }, accessFlags := 1, code := some k22c1 }
def k22c2 : Code := { maxStack := 1, maxLocals := 1, code := jdk_71_method_3_code, exceptionTable := #[], attributes := #[] }
def k22m2 : Method := { name := "isEmpty", desc := "()Z", sig := { parameters := [], returnType := some .boolean }, accessFlags := 1, code := some k22c2 }
/-- java/util/AbstractMap -/
def k22 : Class := { plain "java/util/AbstractMap" (some 0) with
  accessFlags := 1057
  interfaces := #[21]
  cf := some (fileOf pool22 8 #[.nestMembers #[181, 183, 185, 75, 187, 66, 189]] #[{ accessFlags := 4, nameIndex := 5, descriptorIndex := 6, attributes := #[] }, { accessFlags := 1, nameIndex := 17, descriptorIndex := 18, attributes := #[] }, { accessFlags := 1, nameIndex := 124, descriptorIndex := 29, attributes := #[] }] 1057 2 #[53] #[{ accessFlags := 128, nameIndex := 64, descriptorIndex := 65, attributes := #[] }, { accessFlags := 128, nameIndex := 73, descriptorIndex := 74, attributes := #[] }])
  fields := #[{ name := "keySet", type := (.object "java/util/Set"), accessFlags := 128, slot := 0, constantValue := 0 }, { name := "values", type := (.object "java/util/Collection"), accessFlags := 128, slot := 1, constantValue := 0 }]
  methods := #[k22m0, k22m1, k22m2]
  instanceTypes := #[(.object "java/util/Set"), (.object "java/util/Collection")]
  staticTypes := #[]
  resolved := Array.replicate 196 none
  statics := none }

def pool23 : Array CpInfo := pool [(2, .class_ 4), (1, u "java/util/SequencedMap"), (38, .class_ 44), (0, u "java/util/SequencedMap$1SeqKeySet"), (3, .class_ 49), (0, u "java/util/SequencedMap$1SeqValues"), (1, .class_ 52), (0, u "java/util/SequencedMap$1SeqEntrySet"), (1, .class_ 55), (0, u "java/lang/Object"), (0, .class_ 57), (0, u "java/util/Map")] 48

/-- java/util/SequencedMap -/
def k23 : Class := { plain "java/util/SequencedMap" (some 0) with
  accessFlags := 1537
  interfaces := #[21]
  cf := some (fileOf pool23 2 #[.nestMembers #[51, 48, 43]] #[] 1537 54 #[56] #[])
  fields := #[]
  methods := #[]
  instanceTypes := #[]
  staticTypes := #[]
  resolved := Array.replicate 106 none
  statics := none }

def pool24 : Array CpInfo := pool [(14, .class_ 16), (1, u "java/util/SortedMap"), (2, .class_ 20), (0, u "java/lang/Object"), (0, .class_ 22), (0, u "java/util/SequencedMap")] 50

/-- java/util/SortedMap -/
def k24 : Class := { plain "java/util/SortedMap" (some 0) with
  accessFlags := 1537
  interfaces := #[23]
  cf := some (fileOf pool24 14 #[] #[] 1537 19 #[21] #[])
  fields := #[]
  methods := #[]
  instanceTypes := #[]
  staticTypes := #[]
  resolved := Array.replicate 73 none
  statics := none }

def pool25 : Array CpInfo := pool [(2, .class_ 4), (1, u "java/util/NavigableMap"), (5, .class_ 11), (0, u "java/lang/Object"), (0, .class_ 13), (0, u "java/util/SortedMap")] 53

/-- java/util/NavigableMap -/
def k25 : Class := { plain "java/util/NavigableMap" (some 0) with
  accessFlags := 1537
  interfaces := #[24]
  cf := some (fileOf pool25 2 #[] #[] 1537 10 #[12] #[])
  fields := #[]
  methods := #[]
  instanceTypes := #[]
  staticTypes := #[]
  resolved := Array.replicate 67 none
  statics := none }

def pool26 : Array CpInfo := pool [(1, .class_ 2), (0, u "java/lang/Cloneable"), (0, .class_ 4), (0, u "java/lang/Object")] 2

/-- java/lang/Cloneable -/
def k26 : Class := { plain "java/lang/Cloneable" (some 0) with
  accessFlags := 1537
  interfaces := #[]
  cf := some (fileOf pool26 1 #[] #[] 1537 3 #[] #[])
  fields := #[]
  methods := #[]
  instanceTypes := #[]
  staticTypes := #[]
  resolved := Array.replicate 7 none
  statics := none }

def pool27 : Array CpInfo := pool [(1, .methodref 2 3), (0, .class_ 4), (0, .nameAndType 5 6), (0, u "java/util/AbstractMap"), (0, u "<init>"), (0, u "()V"), (0, .fieldref 8 9), (0, .class_ 10), (0, .nameAndType 11 12), (0, u "java/util/TreeMap"), (0, u "size"), (0, u "I"), (0, .fieldref 8 14), (0, .nameAndType 15 12), (0, u "modCount"), (0, .fieldref 8 17), (0, .nameAndType 18 19), (0, u "comparator"), (0, u "Ljava/util/Comparator;"), (11, u "()I"), (2, u "entrySet"), (24, .class_ 61), (1, u "java/util/TreeMap$Entry"), (1, u "Ljava/lang/Object;"), (39, u "root"), (0, u "Ljava/util/TreeMap$Entry;"), (85, u "Ljava/util/TreeMap$EntrySet;"), (2, u "navigableKeySet"), (0, u "Ljava/util/TreeMap$KeySet;"), (2, u "descendingMap"), (0, u "Ljava/util/NavigableMap;"), (23, .class_ 223), (0, u "java/util/TreeMap$KeySet"), (7, .class_ 232), (0, u "java/util/NavigableMap"), (4, .class_ 238), (0, u "java/util/TreeMap$Values"), (3, .class_ 243), (0, u "java/util/TreeMap$EntrySet"), (1, .class_ 246), (0, u "java/util/TreeMap$DescendingSubMap"), (3, .class_ 251), (0, u "java/util/TreeMap$AscendingSubMap"), (17, .class_ 270), (0, u "java/util/TreeMap$KeyIterator"), (3, .class_ 275), (0, u "java/util/TreeMap$DescendingKeyIterator"), (17, u "Z"), (94, .class_ 389), (0, u "java/util/TreeMap$NavigableSubMap"), (1, .class_ 392), (0, u "java/util/TreeMap$KeySpliterator"), (3, .class_ 397), (0, u "java/util/TreeMap$DescendingKeySpliterator"), (4, u "UNBOUNDED"), (0, .class_ 404), (0, u "java/lang/Cloneable"), (0, .class_ 406), (0, u "java/io/Serializable"), (6, u "RED"), (2, u "BLACK"), (1, u "serialVersionUID"), (0, u "J"), (214, .class_ 635), (0, u "java/util/TreeMap$EntrySpliterator"), (0, .class_ 637), (0, u "java/util/TreeMap$ValueSpliterator"), (0, .class_ 639), (0, u "java/util/TreeMap$TreeMapSpliterator"), (0, .class_ 641), (0, u "java/util/TreeMap$SubMap"), (0, .class_ 643), (0, u "java/util/TreeMap$DescendingSubMap$DescendingEntrySetView"), (0, .class_ 645), (0, u "java/util/TreeMap$AscendingSubMap$AscendingEntrySetView"), (0, .class_ 647), (0, u "java/util/TreeMap$NavigableSubMap$DescendingSubMapKeyIterator"), (0, .class_ 649), (0, u "java/util/TreeMap$NavigableSubMap$SubMapKeyIterator"), (0, .class_ 651), (0, u "java/util/TreeMap$NavigableSubMap$DescendingSubMapEntryIterator"), (0, .class_ 653), (0, u "java/util/TreeMap$NavigableSubMap$SubMapEntryIterator"), (0, .class_ 655), (0, u "java/util/TreeMap$NavigableSubMap$SubMapIterator"), (0, .class_ 657), (0, u "java/util/TreeMap$NavigableSubMap$EntrySetView"), (0, .class_ 659), (0, u "java/util/TreeMap$ValueIterator"), (0, .class_ 661), (0, u "java/util/TreeMap$EntryIterator"), (0, .class_ 663), (0, u "java/util/TreeMap$PrivateEntryIterator")] 28

def k27c0 : Code := { maxStack := 2, maxLocals := 1, code := jdk_2729_method_1_code, exceptionTable := #[], attributes := #[] }
def k27m0 : Method := { name := "<init>", desc := "()V", sig := { parameters := [], returnType := none }, accessFlags := 1, code := some k27c0 }
def k27c1 : Code := { maxStack := 1, maxLocals := 1, code := jdk_2729_method_5_code, exceptionTable := #[], attributes := #[] }
def k27m1 : Method := { name := "size", desc := "()I", sig := { parameters := [], returnType := some .int }, accessFlags := 1, code := some k27c1 }
/-- java/util/TreeMap -/
def k27 : Class := { plain "java/util/TreeMap" (some 22) with
  accessFlags := 33
  interfaces := #[25, 26, 4]
  cf := some (fileOf pool27 8 #[.nestMembers #[634, 636, 396, 391, 638, 59, 640, 245, 642, 250, 644, 388, 646, 648, 650, 652, 654, 656, 274, 269, 658, 660, 662, 222, 242, 237]] #[{ accessFlags := 1, nameIndex := 5, descriptorIndex := 6, attributes := #[] }, { accessFlags := 1, nameIndex := 11, descriptorIndex := 31, attributes := #[] }] 33 2 #[231, 403, 405] #[{ accessFlags := 18, nameIndex := 18, descriptorIndex := 19, attributes := #[] }, { accessFlags := 130, nameIndex := 103, descriptorIndex := 104, attributes := #[] }, { accessFlags := 130, nameIndex := 11, descriptorIndex := 12, attributes := #[] }, { accessFlags := 130, nameIndex := 15, descriptorIndex := 12, attributes := #[] }, { accessFlags := 130, nameIndex := 34, descriptorIndex := 190, attributes := #[] }, { accessFlags := 130, nameIndex := 193, descriptorIndex := 194, attributes := #[] }, { accessFlags := 130, nameIndex := 197, descriptorIndex := 198, attributes := #[] }, { accessFlags := 26, nameIndex := 402, descriptorIndex := 63, attributes := #[] }, { accessFlags := 26, nameIndex := 413, descriptorIndex := 293, attributes := #[] }, { accessFlags := 26, nameIndex := 416, descriptorIndex := 293, attributes := #[] }, { accessFlags := 26, nameIndex := 418, descriptorIndex := 419, attributes := #[] }])
  fields := #[{ name := "comparator", type := (.object "java/util/Comparator"), accessFlags := 18, slot := 2, constantValue := 0 }, { name := "root", type := (.object "java/util/TreeMap$Entry"), accessFlags := 130, slot := 3, constantValue := 0 }, { name := "size", type := .int, accessFlags := 130, slot := 4, constantValue := 0 }, { name := "modCount", type := .int, accessFlags := 130, slot := 5, constantValue := 0 }, { name := "entrySet", type := (.object "java/util/TreeMap$EntrySet"), accessFlags := 130, slot := 6, constantValue := 0 }, { name := "navigableKeySet", type := (.object "java/util/TreeMap$KeySet"), accessFlags := 130, slot := 7, constantValue := 0 }, { name := "descendingMap", type := (.object "java/util/NavigableMap"), accessFlags := 130, slot := 8, constantValue := 0 }, { name := "UNBOUNDED", type := (.object "java/lang/Object"), accessFlags := 26, slot := 0, constantValue := 0 }, { name := "RED", type := .boolean, accessFlags := 26, slot := 1, constantValue := 0 }, { name := "BLACK", type := .boolean, accessFlags := 26, slot := 2, constantValue := 0 }, { name := "serialVersionUID", type := .long, accessFlags := 26, slot := 3, constantValue := 0 }]
  methods := #[k27m0, k27m1]
  instanceTypes := #[(.object "java/util/Set"), (.object "java/util/Collection"), (.object "java/util/Comparator"), (.object "java/util/TreeMap$Entry"), .int, .int, (.object "java/util/TreeMap$EntrySet"), (.object "java/util/TreeMap$KeySet"), (.object "java/util/NavigableMap")]
  staticTypes := #[(.object "java/lang/Object"), .boolean, .boolean, .long]
  resolved := Array.replicate 692 none
  statics := none }

def pool28 : Array CpInfo := pool [(2, .class_ 4), (1, u "java/lang/Object"), (0, u "<init>"), (0, u "()V"), (1, .class_ 10), (1, u "java/lang/System"), (0, u "allowSecurityManager"), (0, u "I"), (16, u "cons"), (0, u "Ljava/io/Console;"), (77, .class_ 110), (1, u "java/lang/System$CallersHolder"), (43, u "initialErrStream"), (0, u "Ljava/io/PrintStream;"), (19, u "security"), (0, u "Ljava/lang/SecurityManager;"), (31, .class_ 209), (0, u "java/lang/System$1"), (7, u "props"), (0, u "Ljava/util/Properties;"), (2, u "lineSeparator"), (0, u "Ljava/lang/String;"), (96, .class_ 321), (1, u "java/lang/System$LoggerFinder"), (5, .class_ 328), (0, u "java/lang/System$Logger"), (67, u "err"), (2, u "out"), (91, u "notSupportedJnuEncoding"), (15, u "in"), (17, u "initialIn"), (0, u "Ljava/io/InputStream;"), (35, u "bootLayer"), (0, u "Ljava/lang/ModuleLayer;"), (99, .class_ 664), (0, u "java/lang/System$2"), (9, u "NEVER"), (2, u "MAYBE"), (49, u "arraycopy"), (0, u "(Ljava/lang/Object;ILjava/lang/Object;II)V"), (72, .class_ 802), (0, u "java/lang/System$Logger$Level")] 31

def k28m0 : Method := { name := "<init>", desc := "()V", sig := { parameters := [], returnType := none }, accessFlags := 2, code := none }
def k28m1 : Method := { name := "arraycopy", desc := "(Ljava/lang/Object;ILjava/lang/Object;II)V", sig := { parameters := [(.object "java/lang/Object"), .int, (.object "java/lang/Object"), .int, .int], returnType := none }, accessFlags := 265, code := none }
/-- java/lang/System -/
def k28 : Class := { plain "java/lang/System" (some 0) with
  accessFlags := 49
  interfaces := #[]
  cf := some (fileOf pool28 8 #[.nestMembers #[319, 327, 801, 108, 663, 208]] #[{ accessFlags := 2, nameIndex := 5, descriptorIndex := 6, attributes := #[] }, { accessFlags := 265, nameIndex := 727, descriptorIndex := 728, attributes := #[] }] 49 2 #[] #[{ accessFlags := 25, nameIndex := 507, descriptorIndex := 526, attributes := #[] }, { accessFlags := 25, nameIndex := 399, descriptorIndex := 155, attributes := #[] }, { accessFlags := 25, nameIndex := 396, descriptorIndex := 155, attributes := #[] }, { accessFlags := 10, nameIndex := 525, descriptorIndex := 526, attributes := #[] }, { accessFlags := 26, nameIndex := 674, descriptorIndex := 12, attributes := #[] }, { accessFlags := 26, nameIndex := 677, descriptorIndex := 12, attributes := #[] }, { accessFlags := 10, nameIndex := 11, descriptorIndex := 12, attributes := #[] }, { accessFlags := 74, nameIndex := 175, descriptorIndex := 176, attributes := #[] }, { accessFlags := 10, nameIndex := 491, descriptorIndex := 222, attributes := #[] }, { accessFlags := 74, nameIndex := 29, descriptorIndex := 30, attributes := #[] }, { accessFlags := 74, nameIndex := 154, descriptorIndex := 155, attributes := #[] }, { accessFlags := 10, nameIndex := 217, descriptorIndex := 218, attributes := #[] }, { accessFlags := 10, nameIndex := 221, descriptorIndex := 222, attributes := #[] }, { accessFlags := 8, nameIndex := 562, descriptorIndex := 563, attributes := #[] }])
  fields := #[{ name := "in", type := (.object "java/io/InputStream"), accessFlags := 25, slot := 0, constantValue := 0 }, { name := "out", type := (.object "java/io/PrintStream"), accessFlags := 25, slot := 1, constantValue := 0 }, { name := "err", type := (.object "java/io/PrintStream"), accessFlags := 25, slot := 2, constantValue := 0 }, { name := "initialIn", type := (.object "java/io/InputStream"), accessFlags := 10, slot := 3, constantValue := 0 }, { name := "NEVER", type := .int, accessFlags := 26, slot := 4, constantValue := 0 }, { name := "MAYBE", type := .int, accessFlags := 26, slot := 5, constantValue := 0 }, { name := "allowSecurityManager", type := .int, accessFlags := 10, slot := 6, constantValue := 0 }, { name := "security", type := (.object "java/lang/SecurityManager"), accessFlags := 74, slot := 7, constantValue := 0 }, { name := "notSupportedJnuEncoding", type := (.object "java/lang/String"), accessFlags := 10, slot := 8, constantValue := 0 }, { name := "cons", type := (.object "java/io/Console"), accessFlags := 74, slot := 9, constantValue := 0 }, { name := "initialErrStream", type := (.object "java/io/PrintStream"), accessFlags := 74, slot := 10, constantValue := 0 }, { name := "props", type := (.object "java/util/Properties"), accessFlags := 10, slot := 11, constantValue := 0 }, { name := "lineSeparator", type := (.object "java/lang/String"), accessFlags := 10, slot := 12, constantValue := 0 }, { name := "bootLayer", type := (.object "java/lang/ModuleLayer"), accessFlags := 8, slot := 13, constantValue := 0 }]
  methods := #[k28m0, k28m1]
  instanceTypes := #[]
  staticTypes := #[(.object "java/io/InputStream"), (.object "java/io/PrintStream"), (.object "java/io/PrintStream"), (.object "java/io/InputStream"), .int, .int, .int, (.object "java/lang/SecurityManager"), (.object "java/lang/String"), (.object "java/io/Console"), (.object "java/io/PrintStream"), (.object "java/util/Properties"), (.object "java/lang/String"), (.object "java/lang/ModuleLayer")]
  resolved := Array.replicate 834 none
  statics := none }

def pool29 : Array CpInfo := pool [(1, .class_ 2), (0, u "java/lang/Math"), (1, .class_ 6), (1, u "java/lang/Object"), (0, u "<init>"), (0, u "()V"), (89, .class_ 100), (1, u "java/lang/Math$RandomNumberGeneratorHolder"), (71, u "negativeZeroFloatBits"), (0, u "J"), (2, u "negativeZeroDoubleBits"), (21, u "max"), (46, u "$assertionsDisabled"), (0, u "Z"), (88, u "(II)I"), (2, u "twoToTheDoubleScaleDown"), (0, u "D"), (4, u "twoToTheDoubleScaleUp"), (9, u "E"), (3, u "PI"), (2, u "TAU"), (2, u "DEGREES_TO_RADIANS"), (0, u "RADIANS_TO_DEGREES")] 94

def k29m0 : Method := { name := "<init>", desc := "()V", sig := { parameters := [], returnType := none }, accessFlags := 2, code := none }
def k29c1 : Code := { maxStack := 2, maxLocals := 2, code := jdk_29_method_65_code, exceptionTable := #[], attributes := #[] }
def k29m1 : Method := { name := "max", desc := "(II)I", sig := { parameters := [.int, .int], returnType := some .int }, accessFlags := 9, code := some k29c1 }
/-- java/lang/Math -/
def k29 : Class := { plain "java/lang/Math" (some 0) with
  accessFlags := 49
  interfaces := #[]
  cf := some (fileOf pool29 1 #[.nestMembers #[98]] #[{ accessFlags := 2, nameIndex := 7, descriptorIndex := 8, attributes := #[] }, { accessFlags := 9, nameIndex := 198, descriptorIndex := 335, attributes := #[] }] 49 4 #[] #[{ accessFlags := 25, nameIndex := 354, descriptorIndex := 339, attributes := #[] }, { accessFlags := 25, nameIndex := 358, descriptorIndex := 339, attributes := #[] }, { accessFlags := 25, nameIndex := 361, descriptorIndex := 339, attributes := #[] }, { accessFlags := 26, nameIndex := 364, descriptorIndex := 339, attributes := #[] }, { accessFlags := 26, nameIndex := 365, descriptorIndex := 339, attributes := #[] }, { accessFlags := 26, nameIndex := 172, descriptorIndex := 173, attributes := #[] }, { accessFlags := 26, nameIndex := 176, descriptorIndex := 173, attributes := #[] }, { accessFlags := 8, nameIndex := 344, descriptorIndex := 339, attributes := #[] }, { accessFlags := 8, nameIndex := 338, descriptorIndex := 339, attributes := #[] }, { accessFlags := 4120, nameIndex := 245, descriptorIndex := 246, attributes := #[] }])
  fields := #[{ name := "E", type := .double, accessFlags := 25, slot := 0, constantValue := 0 }, { name := "PI", type := .double, accessFlags := 25, slot := 1, constantValue := 0 }, { name := "TAU", type := .double, accessFlags := 25, slot := 2, constantValue := 0 }, { name := "DEGREES_TO_RADIANS", type := .double, accessFlags := 26, slot := 3, constantValue := 0 }, { name := "RADIANS_TO_DEGREES", type := .double, accessFlags := 26, slot := 4, constantValue := 0 }, { name := "negativeZeroFloatBits", type := .long, accessFlags := 26, slot := 5, constantValue := 0 }, { name := "negativeZeroDoubleBits", type := .long, accessFlags := 26, slot := 6, constantValue := 0 }, { name := "twoToTheDoubleScaleUp", type := .double, accessFlags := 8, slot := 7, constantValue := 0 }, { name := "twoToTheDoubleScaleDown", type := .double, accessFlags := 8, slot := 8, constantValue := 0 }, { name := "$assertionsDisabled", type := .boolean, accessFlags := 4120, slot := 9, constantValue := 0 }]
  methods := #[k29m0, k29m1]
  instanceTypes := #[]
  staticTypes := #[.double, .double, .double, .double, .double, .long, .long, .double, .double, .boolean]
  resolved := Array.replicate 460 none
  statics := none }

def pool30 : Array CpInfo := pool [(9, u "<init>"), (6, .class_ 18), (1, u "java/lang/Object"), (0, u "()V"), (1, .class_ 23), (1, u "jdk/internal/util/ArraysSupport"), (0, u "LOG2_ARRAY_LONG_INDEX_SCALE"), (0, u "I"), (2, u "U"), (0, u "Ljdk/internal/misc/Unsafe;"), (8, u "BIG_ENDIAN"), (0, u "Z"), (8, u "LOG2_BYTE_BIT_SIZE"), (4, u "LOG2_ARRAY_INT_INDEX_SCALE"), (54, u "JLA"), (0, u "Ljdk/internal/access/JavaLangAccess;"), (11, u "LOG2_ARRAY_BOOLEAN_INDEX_SCALE"), (9, u "LOG2_ARRAY_BYTE_INDEX_SCALE"), (5, u "LOG2_ARRAY_CHAR_INDEX_SCALE"), (5, u "LOG2_ARRAY_SHORT_INDEX_SCALE"), (18, u "LOG2_ARRAY_FLOAT_INDEX_SCALE"), (24, u "LOG2_ARRAY_DOUBLE_INDEX_SCALE"), (89, u "T_BOOLEAN"), (2, u "T_CHAR"), (1, u "T_FLOAT"), (1, u "T_DOUBLE"), (1, u "T_BYTE"), (1, u "T_SHORT"), (1, u "T_INT"), (1, u "T_LONG"), (1, u "SOFT_MAX_ARRAY_LENGTH")] 83

def k30m0 : Method := { name := "<init>", desc := "()V", sig := { parameters := [], returnType := none }, accessFlags := 2, code := none }
/-- jdk/internal/util/ArraysSupport -/
def k30 : Class := { plain "jdk/internal/util/ArraysSupport" (some 0) with
  accessFlags := 33
  interfaces := #[]
  cf := some (fileOf pool30 21 #[] #[{ accessFlags := 2, nameIndex := 9, descriptorIndex := 19, attributes := #[] }] 33 16 #[] #[{ accessFlags := 24, nameIndex := 28, descriptorIndex := 29, attributes := #[] }, { accessFlags := 26, nameIndex := 38, descriptorIndex := 39, attributes := #[] }, { accessFlags := 25, nameIndex := 121, descriptorIndex := 25, attributes := #[] }, { accessFlags := 25, nameIndex := 131, descriptorIndex := 25, attributes := #[] }, { accessFlags := 25, nameIndex := 137, descriptorIndex := 25, attributes := #[] }, { accessFlags := 25, nameIndex := 143, descriptorIndex := 25, attributes := #[] }, { accessFlags := 25, nameIndex := 53, descriptorIndex := 25, attributes := #[] }, { accessFlags := 25, nameIndex := 24, descriptorIndex := 25, attributes := #[] }, { accessFlags := 25, nameIndex := 162, descriptorIndex := 25, attributes := #[] }, { accessFlags := 25, nameIndex := 187, descriptorIndex := 25, attributes := #[] }, { accessFlags := 26, nameIndex := 48, descriptorIndex := 25, attributes := #[] }, { accessFlags := 25, nameIndex := 277, descriptorIndex := 25, attributes := #[] }, { accessFlags := 25, nameIndex := 280, descriptorIndex := 25, attributes := #[] }, { accessFlags := 25, nameIndex := 282, descriptorIndex := 25, attributes := #[] }, { accessFlags := 25, nameIndex := 284, descriptorIndex := 25, attributes := #[] }, { accessFlags := 25, nameIndex := 286, descriptorIndex := 25, attributes := #[] }, { accessFlags := 25, nameIndex := 288, descriptorIndex := 25, attributes := #[] }, { accessFlags := 25, nameIndex := 290, descriptorIndex := 25, attributes := #[] }, { accessFlags := 25, nameIndex := 292, descriptorIndex := 25, attributes := #[] }, { accessFlags := 26, nameIndex := 108, descriptorIndex := 109, attributes := #[] }, { accessFlags := 25, nameIndex := 294, descriptorIndex := 25, attributes := #[] }])
  fields := #[{ name := "U", type := (.object "jdk/internal/misc/Unsafe"), accessFlags := 24, slot := 0, constantValue := 0 }, { name := "BIG_ENDIAN", type := .boolean, accessFlags := 26, slot := 1, constantValue := 0 }, { name := "LOG2_ARRAY_BOOLEAN_INDEX_SCALE", type := .int, accessFlags := 25, slot := 2, constantValue := 0 }, { name := "LOG2_ARRAY_BYTE_INDEX_SCALE", type := .int, accessFlags := 25, slot := 3, constantValue := 0 }, { name := "LOG2_ARRAY_CHAR_INDEX_SCALE", type := .int, accessFlags := 25, slot := 4, constantValue := 0 }, { name := "LOG2_ARRAY_SHORT_INDEX_SCALE", type := .int, accessFlags := 25, slot := 5, constantValue := 0 }, { name := "LOG2_ARRAY_INT_INDEX_SCALE", type := .int, accessFlags := 25, slot := 6, constantValue := 0 }, { name := "LOG2_ARRAY_LONG_INDEX_SCALE", type := .int, accessFlags := 25, slot := 7, constantValue := 0 }, { name := "LOG2_ARRAY_FLOAT_INDEX_SCALE", type := .int, accessFlags := 25, slot := 8, constantValue := 0 }, { name := "LOG2_ARRAY_DOUBLE_INDEX_SCALE", type := .int, accessFlags := 25, slot := 9, constantValue := 0 }, { name := "LOG2_BYTE_BIT_SIZE", type := .int, accessFlags := 26, slot := 10, constantValue := 0 }, { name := "T_BOOLEAN", type := .int, accessFlags := 25, slot := 11, constantValue := 0 }, { name := "T_CHAR", type := .int, accessFlags := 25, slot := 12, constantValue := 0 }, { name := "T_FLOAT", type := .int, accessFlags := 25, slot := 13, constantValue := 0 }, { name := "T_DOUBLE", type := .int, accessFlags := 25, slot := 14, constantValue := 0 }, { name := "T_BYTE", type := .int, accessFlags := 25, slot := 15, constantValue := 0 }, { name := "T_SHORT", type := .int, accessFlags := 25, slot := 16, constantValue := 0 }, { name := "T_INT", type := .int, accessFlags := 25, slot := 17, constantValue := 0 }, { name := "T_LONG", type := .int, accessFlags := 25, slot := 18, constantValue := 0 }, { name := "JLA", type := (.object "jdk/internal/access/JavaLangAccess"), accessFlags := 26, slot := 19, constantValue := 0 }, { name := "SOFT_MAX_ARRAY_LENGTH", type := .int, accessFlags := 25, slot := 20, constantValue := 0 }]
  methods := #[k30m0]
  instanceTypes := #[]
  staticTypes := #[(.object "jdk/internal/misc/Unsafe"), .boolean, .int, .int, .int, .int, .int, .int, .int, .int, .int, .int, .int, .int, .int, .int, .int, .int, .int, (.object "jdk/internal/access/JavaLangAccess"), .int]
  resolved := Array.replicate 378 none
  statics := none }

/-- the primitive boolean -/
def k31 : Class := { plain "boolean" none with kind := .primitive 'Z', accessFlags := 0x411 }
/-- [Z -/
def k32 : Class := { plain "[Z" (some 0) with kind := .array 31 .boolean, interfaces := #[26, 4], accessFlags := 1041 }

/-- the primitive byte -/
def k33 : Class := { plain "byte" none with kind := .primitive 'B', accessFlags := 0x411 }
/-- [B -/
def k34 : Class := { plain "[B" (some 0) with kind := .array 33 .byte, interfaces := #[26, 4], accessFlags := 1041 }

/-- the primitive int -/
def k35 : Class := { plain "int" none with kind := .primitive 'I', accessFlags := 0x411 }
/-- [I -/
def k36 : Class := { plain "[I" (some 0) with kind := .array 35 .int, interfaces := #[26, 4], accessFlags := 1041 }

/-- the primitive long -/
def k37 : Class := { plain "long" none with kind := .primitive 'J', accessFlags := 0x411 }
/-- [J -/
def k38 : Class := { plain "[J" (some 0) with kind := .array 37 .long, interfaces := #[26, 4], accessFlags := 1041 }

/-- [Lcom/example/uncross/uncross/engine/BookSide$Level; -/
def k39 : Class := { plain "[Lcom/example/uncross/uncross/engine/BookSide$Level;" (some 0) with kind := .array 20 (.object "com/example/uncross/uncross/engine/BookSide$Level"), interfaces := #[26, 4], accessFlags := 1041 }

def heap : Heap := #[{ cls := 6, slots := #[.ref 6, .ref 5, .null], vm := .statics 6 },
  { cls := 9, slots := #[.long 0, .int 1, .null, .int 0, .null, .int 0, .int 0], vm := .statics 9 },
  { cls := 10, slots := #[.ref 8], vm := .statics 10 },
  { cls := 13, slots := #[.int 0, .ref 7], vm := .statics 13 },
  { cls := 16, slots := #[.null, .null, .null], vm := .statics 16 },
  { cls := 6, slots := #[.null, .int 1, .int 0], vm := .none },
  { cls := 6, slots := #[.null, .int 0, .int 0], vm := .none },
  { cls := 32, slots := #[.int 0, .int 0, .int 0, .int 0, .int 0, .int 0, .int 0, .int 0, .int 0, .int 0, .int 0, .int 0, .int 0, .int 0, .int 0, .int 0, .int 0, .int 0, .int 0, .int 0, .int 0, .int 0, .int 0, .int 0, .int 0, .int 0, .int 0, .int 0, .int 0, .int 0, .int 0, .int 0, .int 0, .int 0, .int 0, .int 0, .int 0, .int 0, .int 0, .int 0, .int 0, .int 0, .int 0, .int 0, .int 0, .int 1, .int 0, .int 0, .int 1, .int 1, .int 1, .int 1, .int 1, .int 1, .int 1, .int 1, .int 1, .int 1, .int 0, .int 0, .int 0, .int 0, .int 0, .int 0, .int 0, .int 1, .int 1, .int 1, .int 1, .int 1, .int 1, .int 1, .int 1, .int 1, .int 1, .int 1, .int 1, .int 1, .int 1, .int 1, .int 1, .int 1, .int 1, .int 1, .int 1, .int 1, .int 1, .int 1, .int 1, .int 1, .int 1, .int 0, .int 0, .int 0, .int 0, .int 1, .int 0, .int 1, .int 1, .int 1, .int 1, .int 1, .int 1, .int 1, .int 1, .int 1, .int 1, .int 1, .int 1, .int 1, .int 1, .int 1, .int 1, .int 1, .int 1, .int 1, .int 1, .int 1, .int 1, .int 1, .int 1, .int 1, .int 1, .int 0, .int 0, .int 0, .int 0, .int 0], vm := .none },
  { cls := 10, slots := #[.int 0, .long 0], vm := .none }]
def classes : Array Class := #[k0, k1, k2, k3, k4, k5, k6, k7, k8, k9, k10, k11, k12, k13, k14, k15, k16, k17, k18, k19, k20, k21, k22, k23, k24, k25, k26, k27, k28, k29, k30, k31, k32, k33, k34, k35, k36, k37, k38, k39]
def interned : List (Array UInt16 × Addr) := []
def slotsUsed : Nat := 152
def theMethod : MethodId := ⟨1, 3⟩
def args0 : Array Value := #[.int 1, .int 2, .long 3, .int 4, .long 5, .int 6]
def aboutOver (below : List Frame) : State where
  vm := { classes := classes, interned := interned.toArray }
  heap := heap
  slotsUsed := slotsUsed
  threads := #[{ frames := .invoking theMethod args0 :: below }]
def below0 : List Frame := [.native { method := ⟨0, 0⟩, args := #[] }]
def about1 : State := aboutOver below0
def p0 : Program := .bare "" "" ""
def e0 : Env := launch0.env 0 0 0
theorem w_frames : about1.frames = Frame.invoking theMethod args0 :: below0 := rfl
set_option maxRecDepth 65536 in
theorem w_args : argsFit about1.vm theMethod args0 = true := by decide +kernel
set_option maxRecDepth 65536 in
theorem w_heap : heapFits about1 = true := by decide +kernel
set_option maxRecDepth 65536 in
theorem w_runnable : about1.curStatus? = some .runnable := by decide +kernel
set_option maxRecDepth 65536 in
theorem w_alone : about1.alone = true := by decide +kernel
set_option maxRecDepth 65536 in
theorem w_named : about1.methodNamed? x = some theMethod := by decide +kernel
set_option maxRecDepth 65536 in
theorem w_hears : about1.hears theMethod below0 = true := by decide +kernel
set_option maxRecDepth 65536 in
theorem w_ripe : about1.ripe theMethod args0 below0 = true := by decide +kernel
theorem w_running : about1.status = .running := rfl
set_option maxRecDepth 65536 in
theorem w_room : about1.hasRoom e0.platform room_1 = true :=
  launch0.hasRoom_least _ room_1 (by decide +kernel) (by decide +kernel) (by decide +kernel) (by decide +kernel) (by decide +kernel) (by decide +kernel)
theorem allAtoms_all (ts : List Jvm.Cond) (a : Array Jvm.Value) (st : Jvm.State) : (allAtoms ts).before a st = ts.all (fun c => c.before a st) := by
  induction ts with
  | nil => rfl
  | cons c t ih =>
    show (Jvm.Cond.and c (allAtoms t)).before a st = _
    rw [Jvm.Cond.before_and, ih, List.all_cons]
def words1 : List Jvm.Cond := Jvm.Cond.code x code maxLocals ret :: tables_1
/-- a 'code' word, met by the world's own term for the bytes: nothing is compared byte by byte -/
theorem code_word {y : MethodName} {bytes : ByteArray} {mx : Nat} {rt : Option FieldType} {a : Array Value} {s : State} {m : MethodId} {meth : Method} {c : Code} (h1 : s.methodNamed? y = some m) (h2 : s.vm.method? m = some meth) (h3 : meth.code = some c) (h4 : c.code = bytes)
    (h5 : (c.maxLocals == mx && c.exceptionTable.isEmpty && decide (c.maxStack ≤ mostOperands) && decide (meth.sig.returnType = rt) && !meth.locks && decide (parseMethodDescriptor y.desc = some meth.sig)) = true) : (Jvm.Cond.code y bytes mx rt).before a s = true := by
  simp only [Bool.and_eq_true, beq_iff_eq, Bool.not_eq_true', decide_eq_true_eq] at h5
  obtain ⟨⟨⟨⟨⟨g1, g2⟩, g3⟩, g4⟩, g5⟩, g6⟩ := h5
  simp [Cond.before, Cond.holds, Cond.value, h1, h2, h3, h4, g1, g2, g3, g4, g5, g6]
def isCode : Jvm.Cond → Bool
  | .code _ _ _ _ => true
  | _ => false
theorem all_split {L : List Jvm.Cond} {P : Jvm.Cond → Bool} (h1 : L.all (fun c => isCode c || P c) = true) (h2 : ∀ c ∈ L.filter isCode, P c = true) : L.all P = true := by
  refine List.all_eq_true.mpr fun c hc => ?_
  have h := List.all_eq_true.mp h1 c hc
  rcases Bool.eq_false_or_eq_true (isCode c) with hi | hi
  · exact h2 c (List.mem_filter.mpr ⟨hc, hi⟩)
  · simpa [hi] using h
set_option maxRecDepth 65536 in
theorem w_c0 : (Jvm.Cond.code x code maxLocals ret).before args0 about1 = true := code_word (m := ⟨1, 3⟩) (meth := k1m3) (c := k1c3) (by decide +kernel) rfl rfl rfl (by decide +kernel)
set_option maxRecDepth 65536 in
theorem w_c1 : (Jvm.Cond.code ({ cls := "com/example/uncross/uncross/engine/BookSideIsEmptyPinLaw", name := "resting", desc := "(Ljava/lang/String;Lcom/example/uncross/uncross/model/Side;IJ)Lcom/example/uncross/uncross/engine/BookSide$Resting;" } : Jvm.MethodName) method_3_code (6 : Nat) (Option.some (Jvm.ClassFile.FieldType.object "com/example/uncross/uncross/engine/BookSide$Resting"))).before args0 about1 = true := code_word (m := ⟨1, 2⟩) (meth := k1m2) (c := k1c2) (by decide +kernel) rfl rfl rfl (by decide +kernel)
set_option maxRecDepth 65536 in
theorem w_c2 : (Jvm.Cond.code ({ cls := "java/util/OptionalLong", name := "empty", desc := "()Ljava/util/OptionalLong;" } : Jvm.MethodName) jdk_2650_method_2_code (0 : Nat) (Option.some (Jvm.ClassFile.FieldType.object "java/util/OptionalLong"))).before args0 about1 = true := code_word (m := ⟨10, 1⟩) (meth := k10m1) (c := k10c1) (by decide +kernel) rfl rfl rfl (by decide +kernel)
set_option maxRecDepth 65536 in
theorem w_c3 : (Jvm.Cond.code ({ cls := "com/example/uncross/uncross/model/Order", name := "<init>", desc := "(Ljava/lang/String;Lcom/example/uncross/uncross/model/Side;JLjava/util/OptionalLong;)V" } : Jvm.MethodName) prog_70_method_1_code (6 : Nat) (Option.none : Option Jvm.ClassFile.FieldType)).before args0 about1 = true := code_word (m := ⟨13, 0⟩) (meth := k13m0) (c := k13c0) (by decide +kernel) rfl rfl rfl (by decide +kernel)
set_option maxRecDepth 65536 in
theorem w_c4 : (Jvm.Cond.code ({ cls := "java/lang/Record", name := "<init>", desc := "()V" } : Jvm.MethodName) jdk_30_method_1_code (1 : Nat) (Option.none : Option Jvm.ClassFile.FieldType)).before args0 about1 = true := code_word (m := ⟨12, 0⟩) (meth := k12m0) (c := k12c0) (by decide +kernel) rfl rfl rfl (by decide +kernel)
set_option maxRecDepth 65536 in
theorem w_c5 : (Jvm.Cond.code ({ cls := "java/lang/Object", name := "<init>", desc := "()V" } : Jvm.MethodName) object_method_1_code (1 : Nat) (Option.none : Option Jvm.ClassFile.FieldType)).before args0 about1 = true := code_word (m := ⟨0, 0⟩) (meth := k0m0) (c := k0c0) (by decide +kernel) rfl rfl rfl (by decide +kernel)
set_option maxRecDepth 65536 in
theorem w_c6 : (Jvm.Cond.code ({ cls := "java/util/Objects", name := "requireNonNull", desc := "(Ljava/lang/Object;Ljava/lang/String;)Ljava/lang/Object;" } : Jvm.MethodName) jdk_31_method_11_code (2 : Nat) (Option.some (Jvm.ClassFile.FieldType.object "java/lang/Object"))).before args0 about1 = true := code_word (m := ⟨14, 1⟩) (meth := k14m1) (c := k14c1) (by decide +kernel) rfl rfl rfl (by decide +kernel)
set_option maxRecDepth 65536 in
theorem w_c7 : (Jvm.Cond.code ({ cls := "com/example/uncross/uncross/model/Order", name := "checkId", desc := "(Ljava/lang/String;)V" } : Jvm.MethodName) prog_70_method_4_code (1 : Nat) (Option.none : Option Jvm.ClassFile.FieldType)).before args0 about1 = true := code_word (m := ⟨13, 2⟩) (meth := k13m2) (c := k13c2) (by decide +kernel) rfl rfl rfl (by decide +kernel)
set_option maxRecDepth 65536 in
theorem w_c8 : (Jvm.Cond.code ({ cls := "com/example/uncross/uncross/model/Order", name := "isValidId", desc := "(Ljava/lang/String;)Z" } : Jvm.MethodName) prog_70_method_6_code (3 : Nat) (Option.some Jvm.ClassFile.FieldType.boolean)).before args0 about1 = true := code_word (m := ⟨13, 4⟩) (meth := k13m4) (c := k13c4) (by decide +kernel) rfl rfl rfl (by decide +kernel)
set_option maxRecDepth 65536 in
theorem w_c9 : (Jvm.Cond.code ({ cls := "java/lang/String", name := "isEmpty", desc := "()Z" } : Jvm.MethodName) jdk_42_method_55_code (1 : Nat) (Option.some Jvm.ClassFile.FieldType.boolean)).before args0 about1 = true := code_word (m := ⟨9, 2⟩) (meth := k9m2) (c := k9c2) (by decide +kernel) rfl rfl rfl (by decide +kernel)
set_option maxRecDepth 65536 in
theorem w_c10 : (Jvm.Cond.code ({ cls := "java/lang/String", name := "length", desc := "()I" } : Jvm.MethodName) jdk_42_method_54_code (1 : Nat) (Option.some Jvm.ClassFile.FieldType.int)).before args0 about1 = true := code_word (m := ⟨9, 1⟩) (meth := k9m1) (c := k9c1) (by decide +kernel) rfl rfl rfl (by decide +kernel)
set_option maxRecDepth 65536 in
theorem w_c11 : (Jvm.Cond.code ({ cls := "java/lang/String", name := "coder", desc := "()B" } : Jvm.MethodName) jdk_42_method_152_code (1 : Nat) (Option.some Jvm.ClassFile.FieldType.byte)).before args0 about1 = true := code_word (m := ⟨9, 4⟩) (meth := k9m4) (c := k9c4) (by decide +kernel) rfl rfl rfl (by decide +kernel)
set_option maxRecDepth 65536 in
theorem w_c12 : (Jvm.Cond.code ({ cls := "java/lang/String", name := "charAt", desc := "(I)C" } : Jvm.MethodName) jdk_42_method_56_code (2 : Nat) (Option.some Jvm.ClassFile.FieldType.char)).before args0 about1 = true := code_word (m := ⟨9, 3⟩) (meth := k9m3) (c := k9c3) (by decide +kernel) rfl rfl rfl (by decide +kernel)
set_option maxRecDepth 65536 in
theorem w_c13 : (Jvm.Cond.code ({ cls := "java/lang/String", name := "isLatin1", desc := "()Z" } : Jvm.MethodName) jdk_42_method_154_code (1 : Nat) (Option.some Jvm.ClassFile.FieldType.boolean)).before args0 about1 = true := code_word (m := ⟨9, 5⟩) (meth := k9m5) (c := k9c5) (by decide +kernel) rfl rfl rfl (by decide +kernel)
set_option maxRecDepth 65536 in
theorem w_c14 : (Jvm.Cond.code ({ cls := "java/lang/StringLatin1", name := "charAt", desc := "([BI)C" } : Jvm.MethodName) jdk_43_method_2_code (2 : Nat) (Option.some Jvm.ClassFile.FieldType.char)).before args0 about1 = true := code_word (m := ⟨15, 1⟩) (meth := k15m1) (c := k15c1) (by decide +kernel) rfl rfl rfl (by decide +kernel)
set_option maxRecDepth 65536 in
theorem w_c15 : (Jvm.Cond.code ({ cls := "java/lang/String", name := "checkIndex", desc := "(II)V" } : Jvm.MethodName) jdk_42_method_155_code (2 : Nat) (Option.none : Option Jvm.ClassFile.FieldType)).before args0 about1 = true := code_word (m := ⟨9, 6⟩) (meth := k9m6) (c := k9c6) (by decide +kernel) rfl rfl rfl (by decide +kernel)
set_option maxRecDepth 65536 in
theorem w_c16 : (Jvm.Cond.code ({ cls := "jdk/internal/util/Preconditions", name := "checkIndex", desc := "(IILjava/util/function/BiFunction;)I" } : Jvm.MethodName) jdk_41_method_11_code (3 : Nat) (Option.some Jvm.ClassFile.FieldType.int)).before args0 about1 = true := code_word (m := ⟨16, 1⟩) (meth := k16m1) (c := k16c1) (by decide +kernel) rfl rfl rfl (by decide +kernel)
set_option maxRecDepth 65536 in
theorem w_c17 : (Jvm.Cond.code ({ cls := "com/example/uncross/uncross/model/Order", name := "checkTerms", desc := "(JLjava/util/OptionalLong;)V" } : Jvm.MethodName) prog_70_method_5_code (3 : Nat) (Option.none : Option Jvm.ClassFile.FieldType)).before args0 about1 = true := code_word (m := ⟨13, 3⟩) (meth := k13m3) (c := k13c3) (by decide +kernel) rfl rfl rfl (by decide +kernel)
set_option maxRecDepth 65536 in
theorem w_c18 : (Jvm.Cond.code ({ cls := "com/example/uncross/uncross/model/Quantities", name := "check", desc := "(J)V" } : Jvm.MethodName) prog_82_method_4_code (2 : Nat) (Option.none : Option Jvm.ClassFile.FieldType)).before args0 about1 = true := code_word (m := ⟨17, 1⟩) (meth := k17m1) (c := k17c1) (by decide +kernel) rfl rfl rfl (by decide +kernel)
set_option maxRecDepth 65536 in
theorem w_c19 : (Jvm.Cond.code ({ cls := "com/example/uncross/uncross/model/Quantities", name := "check", desc := "(JJ)V" } : Jvm.MethodName) prog_82_method_7_code (4 : Nat) (Option.none : Option Jvm.ClassFile.FieldType)).before args0 about1 = true := code_word (m := ⟨17, 2⟩) (meth := k17m2) (c := k17c2) (by decide +kernel) rfl rfl rfl (by decide +kernel)
set_option maxRecDepth 65536 in
theorem w_c20 : (Jvm.Cond.code ({ cls := "com/example/uncross/uncross/model/Quantities", name := "inRange", desc := "(JJ)Z" } : Jvm.MethodName) prog_82_method_8_code (4 : Nat) (Option.some Jvm.ClassFile.FieldType.boolean)).before args0 about1 = true := code_word (m := ⟨17, 3⟩) (meth := k17m3) (c := k17c3) (by decide +kernel) rfl rfl rfl (by decide +kernel)
set_option maxRecDepth 65536 in
theorem w_c21 : (Jvm.Cond.code ({ cls := "java/util/OptionalLong", name := "isPresent", desc := "()Z" } : Jvm.MethodName) jdk_2650_method_6_code (1 : Nat) (Option.some Jvm.ClassFile.FieldType.boolean)).before args0 about1 = true := code_word (m := ⟨10, 5⟩) (meth := k10m5) (c := k10c5) (by decide +kernel) rfl rfl rfl (by decide +kernel)
set_option maxRecDepth 65536 in
theorem w_c22 : (Jvm.Cond.code ({ cls := "com/example/uncross/uncross/engine/BookSide$Resting", name := "<init>", desc := "(Lcom/example/uncross/uncross/model/Order;JJZ)V" } : Jvm.MethodName) prog_17_method_1_code (7 : Nat) (Option.none : Option Jvm.ClassFile.FieldType)).before args0 about1 = true := code_word (m := ⟨11, 0⟩) (meth := k11m0) (c := k11c0) (by decide +kernel) rfl rfl rfl (by decide +kernel)
set_option maxRecDepth 65536 in
theorem w_c23 : (Jvm.Cond.code ({ cls := "com/example/uncross/uncross/engine/BookSideIsEmptyPinLaw", name := "price", desc := "(IJ)J" } : Jvm.MethodName) method_2_code (3 : Nat) (Option.some Jvm.ClassFile.FieldType.long)).before args0 about1 = true := code_word (m := ⟨1, 1⟩) (meth := k1m1) (c := k1c1) (by decide +kernel) rfl rfl rfl (by decide +kernel)
set_option maxRecDepth 65536 in
theorem w_c24 : (Jvm.Cond.code ({ cls := "java/util/OptionalLong", name := "of", desc := "(J)Ljava/util/OptionalLong;" } : Jvm.MethodName) jdk_2650_method_4_code (2 : Nat) (Option.some (Jvm.ClassFile.FieldType.object "java/util/OptionalLong"))).before args0 about1 = true := code_word (m := ⟨10, 3⟩) (meth := k10m3) (c := k10c3) (by decide +kernel) rfl rfl rfl (by decide +kernel)
set_option maxRecDepth 65536 in
theorem w_c25 : (Jvm.Cond.code ({ cls := "java/util/OptionalLong", name := "<init>", desc := "(J)V" } : Jvm.MethodName) jdk_2650_method_3_code (3 : Nat) (Option.none : Option Jvm.ClassFile.FieldType)).before args0 about1 = true := code_word (m := ⟨10, 2⟩) (meth := k10m2) (c := k10c2) (by decide +kernel) rfl rfl rfl (by decide +kernel)
set_option maxRecDepth 65536 in
theorem w_c26 : (Jvm.Cond.code ({ cls := "java/util/OptionalLong", name := "getAsLong", desc := "()J" } : Jvm.MethodName) jdk_2650_method_5_code (1 : Nat) (Option.some Jvm.ClassFile.FieldType.long)).before args0 about1 = true := code_word (m := ⟨10, 4⟩) (meth := k10m4) (c := k10c4) (by decide +kernel) rfl rfl rfl (by decide +kernel)
set_option maxRecDepth 65536 in
theorem w_c27 : (Jvm.Cond.code ({ cls := "com/example/uncross/uncross/model/Prices", name := "check", desc := "(J)V" } : Jvm.MethodName) prog_81_method_4_code (2 : Nat) (Option.none : Option Jvm.ClassFile.FieldType)).before args0 about1 = true := code_word (m := ⟨18, 1⟩) (meth := k18m1) (c := k18c1) (by decide +kernel) rfl rfl rfl (by decide +kernel)
set_option maxRecDepth 65536 in
theorem w_c28 : (Jvm.Cond.code ({ cls := "com/example/uncross/uncross/model/Prices", name := "check", desc := "(Ljava/lang/String;J)V" } : Jvm.MethodName) prog_81_method_5_code (3 : Nat) (Option.none : Option Jvm.ClassFile.FieldType)).before args0 about1 = true := code_word (m := ⟨18, 2⟩) (meth := k18m2) (c := k18c2) (by decide +kernel) rfl rfl rfl (by decide +kernel)
set_option maxRecDepth 65536 in
theorem w_c29 : (Jvm.Cond.code ({ cls := "com/example/uncross/uncross/model/Prices", name := "inRange", desc := "(J)Z" } : Jvm.MethodName) prog_81_method_9_code (2 : Nat) (Option.some Jvm.ClassFile.FieldType.boolean)).before args0 about1 = true := code_word (m := ⟨18, 3⟩) (meth := k18m3) (c := k18c3) (by decide +kernel) rfl rfl rfl (by decide +kernel)
set_option maxRecDepth 65536 in
theorem w_c30 : (Jvm.Cond.code ({ cls := "com/example/uncross/uncross/engine/BookSide", name := "<init>", desc := "(Lcom/example/uncross/uncross/model/Side;)V" } : Jvm.MethodName) prog_15_method_1_code (2 : Nat) (Option.none : Option Jvm.ClassFile.FieldType)).before args0 about1 = true := code_word (m := ⟨19, 0⟩) (meth := k19m0) (c := k19c0) (by decide +kernel) rfl rfl rfl (by decide +kernel)
set_option maxRecDepth 65536 in
theorem w_c31 : (Jvm.Cond.code ({ cls := "com/example/uncross/uncross/engine/BookSide$Level", name := "<init>", desc := "(J)V" } : Jvm.MethodName) prog_16_method_1_code (3 : Nat) (Option.none : Option Jvm.ClassFile.FieldType)).before args0 about1 = true := code_word (m := ⟨20, 0⟩) (meth := k20m0) (c := k20c0) (by decide +kernel) rfl rfl rfl (by decide +kernel)
set_option maxRecDepth 65536 in
theorem w_c32 : (Jvm.Cond.code ({ cls := "java/util/TreeMap", name := "<init>", desc := "()V" } : Jvm.MethodName) jdk_2729_method_1_code (1 : Nat) (Option.none : Option Jvm.ClassFile.FieldType)).before args0 about1 = true := code_word (m := ⟨27, 0⟩) (meth := k27m0) (c := k27c0) (by decide +kernel) rfl rfl rfl (by decide +kernel)
set_option maxRecDepth 65536 in
theorem w_c33 : (Jvm.Cond.code ({ cls := "java/util/AbstractMap", name := "<init>", desc := "()V" } : Jvm.MethodName) jdk_71_method_1_code (1 : Nat) (Option.none : Option Jvm.ClassFile.FieldType)).before args0 about1 = true := code_word (m := ⟨22, 0⟩) (meth := k22m0) (c := k22c0) (by decide +kernel) rfl rfl rfl (by decide +kernel)
set_option maxRecDepth 65536 in
theorem w_c34 : (Jvm.Cond.code ({ cls := "com/example/uncross/uncross/engine/BookSide", name := "isEmpty", desc := "()Z" } : Jvm.MethodName) prog_15_method_2_code (1 : Nat) (Option.some Jvm.ClassFile.FieldType.boolean)).before args0 about1 = true := code_word (m := ⟨19, 1⟩) (meth := k19m1) (c := k19c1) (by decide +kernel) rfl rfl rfl (by decide +kernel)
set_option maxRecDepth 65536 in
theorem w_c35 : (Jvm.Cond.code ({ cls := "com/example/uncross/uncross/engine/BookSide", name := "add", desc := "(Lcom/example/uncross/uncross/engine/BookSide$Resting;)V" } : Jvm.MethodName) prog_15_method_7_code (3 : Nat) (Option.none : Option Jvm.ClassFile.FieldType)).before args0 about1 = true := code_word (m := ⟨19, 2⟩) (meth := k19m2) (c := k19c2) (by decide +kernel) rfl rfl rfl (by decide +kernel)
set_option maxRecDepth 65536 in
theorem w_c36 : (Jvm.Cond.code ({ cls := "com/example/uncross/uncross/model/Order", name := "isMarket", desc := "()Z" } : Jvm.MethodName) prog_70_method_2_code (1 : Nat) (Option.some Jvm.ClassFile.FieldType.boolean)).before args0 about1 = true := code_word (m := ⟨13, 1⟩) (meth := k13m1) (c := k13c1) (by decide +kernel) rfl rfl rfl (by decide +kernel)
set_option maxRecDepth 65536 in
theorem w_c37 : (Jvm.Cond.code ({ cls := "java/util/OptionalLong", name := "isEmpty", desc := "()Z" } : Jvm.MethodName) jdk_2650_method_7_code (1 : Nat) (Option.some Jvm.ClassFile.FieldType.boolean)).before args0 about1 = true := code_word (m := ⟨10, 6⟩) (meth := k10m6) (c := k10c6) (by decide +kernel) rfl rfl rfl (by decide +kernel)
set_option maxRecDepth 65536 in
theorem w_c38 : (Jvm.Cond.code ({ cls := "com/example/uncross/uncross/model/Order", name := "limit", desc := "()Ljava/util/OptionalLong;" } : Jvm.MethodName) prog_70_method_14_code (1 : Nat) (Option.some (Jvm.ClassFile.FieldType.object "java/util/OptionalLong"))).before args0 about1 = true := code_word (m := ⟨13, 5⟩) (meth := k13m5) (c := k13c5) (by decide +kernel) rfl rfl rfl (by decide +kernel)
set_option maxRecDepth 65536 in
theorem w_c39 : (Jvm.Cond.code ({ cls := "com/example/uncross/uncross/engine/BookSide", name := "levelFor", desc := "(J)Lcom/example/uncross/uncross/engine/BookSide$Level;" } : Jvm.MethodName) prog_15_method_9_code (8 : Nat) (Option.some (Jvm.ClassFile.FieldType.object "com/example/uncross/uncross/engine/BookSide$Level"))).before args0 about1 = true := code_word (m := ⟨19, 4⟩) (meth := k19m4) (c := k19c4) (by decide +kernel) rfl rfl rfl (by decide +kernel)
set_option maxRecDepth 65536 in
theorem w_c40 : (Jvm.Cond.code ({ cls := "com/example/uncross/uncross/engine/BookSide", name := "keyOf", desc := "(J)J" } : Jvm.MethodName) prog_15_method_16_code (3 : Nat) (Option.some Jvm.ClassFile.FieldType.long)).before args0 about1 = true := code_word (m := ⟨19, 6⟩) (meth := k19m6) (c := k19c6) (by decide +kernel) rfl rfl rfl (by decide +kernel)
set_option maxRecDepth 65536 in
theorem w_c41 : (Jvm.Cond.code ({ cls := "java/util/AbstractMap", name := "isEmpty", desc := "()Z" } : Jvm.MethodName) jdk_71_method_3_code (1 : Nat) (Option.some Jvm.ClassFile.FieldType.boolean)).before args0 about1 = true := code_word (m := ⟨22, 2⟩) (meth := k22m2) (c := k22c2) (by decide +kernel) rfl rfl rfl (by decide +kernel)
set_option maxRecDepth 65536 in
theorem w_c42 : (Jvm.Cond.code ({ cls := "java/util/TreeMap", name := "size", desc := "()I" } : Jvm.MethodName) jdk_2729_method_5_code (1 : Nat) (Option.some Jvm.ClassFile.FieldType.int)).before args0 about1 = true := code_word (m := ⟨27, 1⟩) (meth := k27m1) (c := k27c1) (by decide +kernel) rfl rfl rfl (by decide +kernel)
set_option maxRecDepth 65536 in
theorem w_c43 : (Jvm.Cond.code ({ cls := "com/example/uncross/uncross/engine/BookSide", name := "atOrBelow", desc := "(J)I" } : Jvm.MethodName) prog_15_method_15_code (7 : Nat) (Option.some Jvm.ClassFile.FieldType.int)).before args0 about1 = true := code_word (m := ⟨19, 5⟩) (meth := k19m5) (c := k19c5) (by decide +kernel) rfl rfl rfl (by decide +kernel)
set_option maxRecDepth 65536 in
theorem w_c44 : (Jvm.Cond.code ({ cls := "com/example/uncross/uncross/engine/BookSide", name := "remove", desc := "(Lcom/example/uncross/uncross/engine/BookSide$Resting;)V" } : Jvm.MethodName) prog_15_method_8_code (3 : Nat) (Option.none : Option Jvm.ClassFile.FieldType)).before args0 about1 = true := code_word (m := ⟨19, 3⟩) (meth := k19m3) (c := k19c3) (by decide +kernel) rfl rfl rfl (by decide +kernel)
set_option maxRecDepth 65536 in
theorem w_c45 : (Jvm.Cond.code ({ cls := "java/lang/Math", name := "max", desc := "(II)I" } : Jvm.MethodName) jdk_29_method_65_code (2 : Nat) (Option.some Jvm.ClassFile.FieldType.int)).before args0 about1 = true := code_word (m := ⟨29, 1⟩) (meth := k29m1) (c := k29c1) (by decide +kernel) rfl rfl rfl (by decide +kernel)
def codes1 : List Jvm.Cond := [Jvm.Cond.code x code maxLocals ret, Jvm.Cond.code ({ cls := "com/example/uncross/uncross/engine/BookSideIsEmptyPinLaw", name := "resting", desc := "(Ljava/lang/String;Lcom/example/uncross/uncross/model/Side;IJ)Lcom/example/uncross/uncross/engine/BookSide$Resting;" } : Jvm.MethodName) method_3_code (6 : Nat) (Option.some (Jvm.ClassFile.FieldType.object "com/example/uncross/uncross/engine/BookSide$Resting")), Jvm.Cond.code ({ cls := "java/util/OptionalLong", name := "empty", desc := "()Ljava/util/OptionalLong;" } : Jvm.MethodName) jdk_2650_method_2_code (0 : Nat) (Option.some (Jvm.ClassFile.FieldType.object "java/util/OptionalLong")), Jvm.Cond.code ({ cls := "com/example/uncross/uncross/model/Order", name := "<init>", desc := "(Ljava/lang/String;Lcom/example/uncross/uncross/model/Side;JLjava/util/OptionalLong;)V" } : Jvm.MethodName) prog_70_method_1_code (6 : Nat) (Option.none : Option Jvm.ClassFile.FieldType), Jvm.Cond.code ({ cls := "java/lang/Record", name := "<init>", desc := "()V" } : Jvm.MethodName) jdk_30_method_1_code (1 : Nat) (Option.none : Option Jvm.ClassFile.FieldType), Jvm.Cond.code ({ cls := "java/lang/Object", name := "<init>", desc := "()V" } : Jvm.MethodName) object_method_1_code (1 : Nat) (Option.none : Option Jvm.ClassFile.FieldType), Jvm.Cond.code ({ cls := "java/util/Objects", name := "requireNonNull", desc := "(Ljava/lang/Object;Ljava/lang/String;)Ljava/lang/Object;" } : Jvm.MethodName) jdk_31_method_11_code (2 : Nat) (Option.some (Jvm.ClassFile.FieldType.object "java/lang/Object")), Jvm.Cond.code ({ cls := "com/example/uncross/uncross/model/Order", name := "checkId", desc := "(Ljava/lang/String;)V" } : Jvm.MethodName) prog_70_method_4_code (1 : Nat) (Option.none : Option Jvm.ClassFile.FieldType), Jvm.Cond.code ({ cls := "com/example/uncross/uncross/model/Order", name := "isValidId", desc := "(Ljava/lang/String;)Z" } : Jvm.MethodName) prog_70_method_6_code (3 : Nat) (Option.some Jvm.ClassFile.FieldType.boolean), Jvm.Cond.code ({ cls := "java/lang/String", name := "isEmpty", desc := "()Z" } : Jvm.MethodName) jdk_42_method_55_code (1 : Nat) (Option.some Jvm.ClassFile.FieldType.boolean), Jvm.Cond.code ({ cls := "java/lang/String", name := "length", desc := "()I" } : Jvm.MethodName) jdk_42_method_54_code (1 : Nat) (Option.some Jvm.ClassFile.FieldType.int), Jvm.Cond.code ({ cls := "java/lang/String", name := "coder", desc := "()B" } : Jvm.MethodName) jdk_42_method_152_code (1 : Nat) (Option.some Jvm.ClassFile.FieldType.byte), Jvm.Cond.code ({ cls := "java/lang/String", name := "charAt", desc := "(I)C" } : Jvm.MethodName) jdk_42_method_56_code (2 : Nat) (Option.some Jvm.ClassFile.FieldType.char), Jvm.Cond.code ({ cls := "java/lang/String", name := "isLatin1", desc := "()Z" } : Jvm.MethodName) jdk_42_method_154_code (1 : Nat) (Option.some Jvm.ClassFile.FieldType.boolean), Jvm.Cond.code ({ cls := "java/lang/StringLatin1", name := "charAt", desc := "([BI)C" } : Jvm.MethodName) jdk_43_method_2_code (2 : Nat) (Option.some Jvm.ClassFile.FieldType.char), Jvm.Cond.code ({ cls := "java/lang/String", name := "checkIndex", desc := "(II)V" } : Jvm.MethodName) jdk_42_method_155_code (2 : Nat) (Option.none : Option Jvm.ClassFile.FieldType), Jvm.Cond.code ({ cls := "jdk/internal/util/Preconditions", name := "checkIndex", desc := "(IILjava/util/function/BiFunction;)I" } : Jvm.MethodName) jdk_41_method_11_code (3 : Nat) (Option.some Jvm.ClassFile.FieldType.int), Jvm.Cond.code ({ cls := "com/example/uncross/uncross/model/Order", name := "checkTerms", desc := "(JLjava/util/OptionalLong;)V" } : Jvm.MethodName) prog_70_method_5_code (3 : Nat) (Option.none : Option Jvm.ClassFile.FieldType), Jvm.Cond.code ({ cls := "com/example/uncross/uncross/model/Quantities", name := "check", desc := "(J)V" } : Jvm.MethodName) prog_82_method_4_code (2 : Nat) (Option.none : Option Jvm.ClassFile.FieldType), Jvm.Cond.code ({ cls := "com/example/uncross/uncross/model/Quantities", name := "check", desc := "(JJ)V" } : Jvm.MethodName) prog_82_method_7_code (4 : Nat) (Option.none : Option Jvm.ClassFile.FieldType), Jvm.Cond.code ({ cls := "com/example/uncross/uncross/model/Quantities", name := "inRange", desc := "(JJ)Z" } : Jvm.MethodName) prog_82_method_8_code (4 : Nat) (Option.some Jvm.ClassFile.FieldType.boolean), Jvm.Cond.code ({ cls := "java/util/OptionalLong", name := "isPresent", desc := "()Z" } : Jvm.MethodName) jdk_2650_method_6_code (1 : Nat) (Option.some Jvm.ClassFile.FieldType.boolean), Jvm.Cond.code ({ cls := "com/example/uncross/uncross/engine/BookSide$Resting", name := "<init>", desc := "(Lcom/example/uncross/uncross/model/Order;JJZ)V" } : Jvm.MethodName) prog_17_method_1_code (7 : Nat) (Option.none : Option Jvm.ClassFile.FieldType), Jvm.Cond.code ({ cls := "com/example/uncross/uncross/engine/BookSideIsEmptyPinLaw", name := "price", desc := "(IJ)J" } : Jvm.MethodName) method_2_code (3 : Nat) (Option.some Jvm.ClassFile.FieldType.long), Jvm.Cond.code ({ cls := "java/util/OptionalLong", name := "of", desc := "(J)Ljava/util/OptionalLong;" } : Jvm.MethodName) jdk_2650_method_4_code (2 : Nat) (Option.some (Jvm.ClassFile.FieldType.object "java/util/OptionalLong")), Jvm.Cond.code ({ cls := "java/util/OptionalLong", name := "<init>", desc := "(J)V" } : Jvm.MethodName) jdk_2650_method_3_code (3 : Nat) (Option.none : Option Jvm.ClassFile.FieldType), Jvm.Cond.code ({ cls := "java/util/OptionalLong", name := "getAsLong", desc := "()J" } : Jvm.MethodName) jdk_2650_method_5_code (1 : Nat) (Option.some Jvm.ClassFile.FieldType.long), Jvm.Cond.code ({ cls := "com/example/uncross/uncross/model/Prices", name := "check", desc := "(J)V" } : Jvm.MethodName) prog_81_method_4_code (2 : Nat) (Option.none : Option Jvm.ClassFile.FieldType), Jvm.Cond.code ({ cls := "com/example/uncross/uncross/model/Prices", name := "check", desc := "(Ljava/lang/String;J)V" } : Jvm.MethodName) prog_81_method_5_code (3 : Nat) (Option.none : Option Jvm.ClassFile.FieldType), Jvm.Cond.code ({ cls := "com/example/uncross/uncross/model/Prices", name := "inRange", desc := "(J)Z" } : Jvm.MethodName) prog_81_method_9_code (2 : Nat) (Option.some Jvm.ClassFile.FieldType.boolean), Jvm.Cond.code ({ cls := "com/example/uncross/uncross/engine/BookSide", name := "<init>", desc := "(Lcom/example/uncross/uncross/model/Side;)V" } : Jvm.MethodName) prog_15_method_1_code (2 : Nat) (Option.none : Option Jvm.ClassFile.FieldType), Jvm.Cond.code ({ cls := "com/example/uncross/uncross/engine/BookSide$Level", name := "<init>", desc := "(J)V" } : Jvm.MethodName) prog_16_method_1_code (3 : Nat) (Option.none : Option Jvm.ClassFile.FieldType), Jvm.Cond.code ({ cls := "java/util/TreeMap", name := "<init>", desc := "()V" } : Jvm.MethodName) jdk_2729_method_1_code (1 : Nat) (Option.none : Option Jvm.ClassFile.FieldType), Jvm.Cond.code ({ cls := "java/util/AbstractMap", name := "<init>", desc := "()V" } : Jvm.MethodName) jdk_71_method_1_code (1 : Nat) (Option.none : Option Jvm.ClassFile.FieldType), Jvm.Cond.code ({ cls := "com/example/uncross/uncross/engine/BookSide", name := "isEmpty", desc := "()Z" } : Jvm.MethodName) prog_15_method_2_code (1 : Nat) (Option.some Jvm.ClassFile.FieldType.boolean), Jvm.Cond.code ({ cls := "com/example/uncross/uncross/engine/BookSide", name := "add", desc := "(Lcom/example/uncross/uncross/engine/BookSide$Resting;)V" } : Jvm.MethodName) prog_15_method_7_code (3 : Nat) (Option.none : Option Jvm.ClassFile.FieldType), Jvm.Cond.code ({ cls := "com/example/uncross/uncross/model/Order", name := "isMarket", desc := "()Z" } : Jvm.MethodName) prog_70_method_2_code (1 : Nat) (Option.some Jvm.ClassFile.FieldType.boolean), Jvm.Cond.code ({ cls := "java/util/OptionalLong", name := "isEmpty", desc := "()Z" } : Jvm.MethodName) jdk_2650_method_7_code (1 : Nat) (Option.some Jvm.ClassFile.FieldType.boolean), Jvm.Cond.code ({ cls := "com/example/uncross/uncross/model/Order", name := "limit", desc := "()Ljava/util/OptionalLong;" } : Jvm.MethodName) prog_70_method_14_code (1 : Nat) (Option.some (Jvm.ClassFile.FieldType.object "java/util/OptionalLong")), Jvm.Cond.code ({ cls := "com/example/uncross/uncross/engine/BookSide", name := "levelFor", desc := "(J)Lcom/example/uncross/uncross/engine/BookSide$Level;" } : Jvm.MethodName) prog_15_method_9_code (8 : Nat) (Option.some (Jvm.ClassFile.FieldType.object "com/example/uncross/uncross/engine/BookSide$Level")), Jvm.Cond.code ({ cls := "com/example/uncross/uncross/engine/BookSide", name := "keyOf", desc := "(J)J" } : Jvm.MethodName) prog_15_method_16_code (3 : Nat) (Option.some Jvm.ClassFile.FieldType.long), Jvm.Cond.code ({ cls := "java/util/AbstractMap", name := "isEmpty", desc := "()Z" } : Jvm.MethodName) jdk_71_method_3_code (1 : Nat) (Option.some Jvm.ClassFile.FieldType.boolean), Jvm.Cond.code ({ cls := "java/util/TreeMap", name := "size", desc := "()I" } : Jvm.MethodName) jdk_2729_method_5_code (1 : Nat) (Option.some Jvm.ClassFile.FieldType.int), Jvm.Cond.code ({ cls := "com/example/uncross/uncross/engine/BookSide", name := "atOrBelow", desc := "(J)I" } : Jvm.MethodName) prog_15_method_15_code (7 : Nat) (Option.some Jvm.ClassFile.FieldType.int), Jvm.Cond.code ({ cls := "com/example/uncross/uncross/engine/BookSide", name := "remove", desc := "(Lcom/example/uncross/uncross/engine/BookSide$Resting;)V" } : Jvm.MethodName) prog_15_method_8_code (3 : Nat) (Option.none : Option Jvm.ClassFile.FieldType), Jvm.Cond.code ({ cls := "java/lang/Math", name := "max", desc := "(II)I" } : Jvm.MethodName) jdk_29_method_65_code (2 : Nat) (Option.some Jvm.ClassFile.FieldType.int)]
set_option maxRecDepth 65536 in
theorem codes_eq : words1.filter isCode = codes1 := rfl
theorem w_codes : ∀ c ∈ words1.filter isCode, c.before args0 about1 = true := by
  rw [codes_eq]
  intro c hc
  simp only [codes1, List.mem_cons, List.not_mem_nil, or_false] at hc
  rcases hc with rfl | rfl | rfl | rfl | rfl | rfl | rfl | rfl | rfl | rfl | rfl | rfl | rfl | rfl | rfl | rfl | rfl | rfl | rfl | rfl | rfl | rfl | rfl | rfl | rfl | rfl | rfl | rfl | rfl | rfl | rfl | rfl | rfl | rfl | rfl | rfl | rfl | rfl | rfl | rfl | rfl | rfl | rfl | rfl | rfl | rfl
  · exact w_c0
  · exact w_c1
  · exact w_c2
  · exact w_c3
  · exact w_c4
  · exact w_c5
  · exact w_c6
  · exact w_c7
  · exact w_c8
  · exact w_c9
  · exact w_c10
  · exact w_c11
  · exact w_c12
  · exact w_c13
  · exact w_c14
  · exact w_c15
  · exact w_c16
  · exact w_c17
  · exact w_c18
  · exact w_c19
  · exact w_c20
  · exact w_c21
  · exact w_c22
  · exact w_c23
  · exact w_c24
  · exact w_c25
  · exact w_c26
  · exact w_c27
  · exact w_c28
  · exact w_c29
  · exact w_c30
  · exact w_c31
  · exact w_c32
  · exact w_c33
  · exact w_c34
  · exact w_c35
  · exact w_c36
  · exact w_c37
  · exact w_c38
  · exact w_c39
  · exact w_c40
  · exact w_c41
  · exact w_c42
  · exact w_c43
  · exact w_c44
  · exact w_c45
set_option maxRecDepth 65536 in
theorem w_t1 : (words1.take 24).all (fun c => isCode c || c.before args0 about1) = true := by decide +kernel
set_option maxRecDepth 65536 in
theorem w_t2 : ((words1.drop 24).take 24).all (fun c => isCode c || c.before args0 about1) = true := by decide +kernel
set_option maxRecDepth 65536 in
theorem w_t3 : (((words1.drop 24).drop 24).take 24).all (fun c => isCode c || c.before args0 about1) = true := by decide +kernel
set_option maxRecDepth 65536 in
theorem w_t4 : ((((words1.drop 24).drop 24).drop 24).take 24).all (fun c => isCode c || c.before args0 about1) = true := by decide +kernel
set_option maxRecDepth 65536 in
theorem w_t5 : (((((words1.drop 24).drop 24).drop 24).drop 24).take 24).all (fun c => isCode c || c.before args0 about1) = true := by decide +kernel
set_option maxRecDepth 65536 in
theorem w_t6 : ((((((words1.drop 24).drop 24).drop 24).drop 24).drop 24).take 24).all (fun c => isCode c || c.before args0 about1) = true := by decide +kernel
set_option maxRecDepth 65536 in
theorem w_t7 : (((((((words1.drop 24).drop 24).drop 24).drop 24).drop 24).drop 24).take 24).all (fun c => isCode c || c.before args0 about1) = true := by decide +kernel
set_option maxRecDepth 65536 in
theorem w_t8 : ((((((((words1.drop 24).drop 24).drop 24).drop 24).drop 24).drop 24).drop 24).take 24).all (fun c => isCode c || c.before args0 about1) = true := by decide +kernel
set_option maxRecDepth 65536 in
theorem w_t9 : (((((((((words1.drop 24).drop 24).drop 24).drop 24).drop 24).drop 24).drop 24).drop 24).take 24).all (fun c => isCode c || c.before args0 about1) = true := by decide +kernel
set_option maxRecDepth 65536 in
theorem w_t10 : ((((((((((words1.drop 24).drop 24).drop 24).drop 24).drop 24).drop 24).drop 24).drop 24).drop 24).take 24).all (fun c => isCode c || c.before args0 about1) = true := by decide +kernel
set_option maxRecDepth 65536 in
theorem w_t11 : (((((((((((words1.drop 24).drop 24).drop 24).drop 24).drop 24).drop 24).drop 24).drop 24).drop 24).drop 24).take 24).all (fun c => isCode c || c.before args0 about1) = true := by decide +kernel
set_option maxRecDepth 65536 in
theorem w_t12 : ((((((((((((words1.drop 24).drop 24).drop 24).drop 24).drop 24).drop 24).drop 24).drop 24).drop 24).drop 24).drop 24).take 24).all (fun c => isCode c || c.before args0 about1) = true := by decide +kernel
set_option maxRecDepth 65536 in
theorem w_t13 : ((((((((((((words1.drop 24).drop 24).drop 24).drop 24).drop 24).drop 24).drop 24).drop 24).drop 24).drop 24).drop 24).drop 24).all (fun c => isCode c || c.before args0 about1) = true := by decide +kernel
theorem w_tables : (allAtoms (Jvm.Cond.code x code maxLocals ret :: tables_1)).before args0 about1 = true := by
  rw [allAtoms_all]
  show words1.all (fun c => c.before args0 about1) = true
  refine all_split ?_ w_codes
  rw [← List.take_append_drop 24 words1, List.all_append, w_t1, ← List.take_append_drop 24 (words1.drop 24), List.all_append, w_t2, ← List.take_append_drop 24 ((words1.drop 24).drop 24), List.all_append, w_t3, ← List.take_append_drop 24 (((words1.drop 24).drop 24).drop 24), List.all_append, w_t4, ← List.take_append_drop 24 ((((words1.drop 24).drop 24).drop 24).drop 24), List.all_append, w_t5, ← List.take_append_drop 24 (((((words1.drop 24).drop 24).drop 24).drop 24).drop 24), List.all_append, w_t6, ← List.take_append_drop 24 ((((((words1.drop 24).drop 24).drop 24).drop 24).drop 24).drop 24), List.all_append, w_t7, ← List.take_append_drop 24 (((((((words1.drop 24).drop 24).drop 24).drop 24).drop 24).drop 24).drop 24), List.all_append, w_t8, ← List.take_append_drop 24 ((((((((words1.drop 24).drop 24).drop 24).drop 24).drop 24).drop 24).drop 24).drop 24), List.all_append, w_t9, ← List.take_append_drop 24 (((((((((words1.drop 24).drop 24).drop 24).drop 24).drop 24).drop 24).drop 24).drop 24).drop 24), List.all_append, w_t10, ← List.take_append_drop 24 ((((((((((words1.drop 24).drop 24).drop 24).drop 24).drop 24).drop 24).drop 24).drop 24).drop 24).drop 24), List.all_append, w_t11, ← List.take_append_drop 24 (((((((((((words1.drop 24).drop 24).drop 24).drop 24).drop 24).drop 24).drop 24).drop 24).drop 24).drop 24).drop 24), List.all_append, w_t12, w_t13]
  rfl
set_option maxRecDepth 65536 in
theorem w_rest : rest_1_c.before args0 about1 = true := by decide +kernel
set_option maxRecDepth 65536 in
theorem w_case : (Jvm.Cond.and given_1 narrow_1).before args0 about1 = true := by decide +kernel
set_option maxRecDepth 65536 in
theorem w_consts : constsHeld consts_1 about1 := Jvm.Lit.constsHeldB_iff.mp (by decide +kernel)
theorem w_applies : (headSpec (Jvm.Cond.code x code maxLocals ret :: tables_1) room_1).applies x e0.platform about1 = true :=
  (Spec.applies_iff w_frames).mpr ⟨w_running, w_runnable, w_alone, w_named, w_hears, w_ripe, w_room, w_tables⟩
theorem atStart : AtStart classFile x code maxLocals ret World_1 tables_1 room_1 Calls_1 rest_1 Pre_1 launch0 p0 e0 about1 theMethod args0 below0 :=
  ⟨lists_1, trivial, launch0.admits_env _ _ _, launch0.least_env, fairChoices_fair.cas, fairChoices_fair.clock, w_frames, w_args, w_heap, w_applies, ⟨w_consts, trivial⟩, w_rest, w_case⟩
end start1
theorem witness_1 : WitnessClaimed_1 := ⟨start1.p0, start1.e0, start1.about1, start1.theMethod, start1.args0, start1.below0, start1.atStart⟩
end Jvm.Pilot.@@N@@
