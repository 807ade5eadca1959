import JvmDerived
import JvmDerived.Pilot.@@N@@Statement
import JvmDerived.Pilot.@@N@@Code
set_option linter.unusedVariables false
set_option linter.unusedSimpArgs false
namespace Jvm.Own
open Sem ClassFile Op Lib Jvm.Stand Jvm.Free Jvm.LawKit Jvm.RoadKit
/-- from the frame g, standing in T, the run ends in what P says -/
def Goes (p : Program) (e : Env) (below : List Frame) (P : Outcome → State → Prop) (T : State) (g : JFrame) : Prop :=
  ∃ s₂ o, Steps p.tables e below (T.setTop g) s₂ ∧ s₂.status = .running ∧ Ended s₂ below o ∧ P o s₂
/-- what a body leaves -/
abbrev Leaves (s : State) (Q : Option Value → Heap → List Loc → Prop) (C N : Nat) (o : Outcome) (U : State) : Prop := ∃ v L, o = .returned v ∧ Q v U.heap L ∧ FrameEnd s o U L C N
/-- a body's contract, asked at the arguments 'as' and the heap h0 -/
abbrev Pays (l : Launch) (Z : State) (y : MethodName) (bytes : ByteArray) (maxL : Nat) (ret : Option FieldType) (ws : List Jvm.Cond) (rm : Room) (as : Array Value) (h0 : Heap) (Q : Option Value → Heap → List Loc → Prop) : Prop :=
  MetFree l y (head1 (Jvm.Cond.code y bytes maxL ret :: ws) rm) (fun a U => a = as ∧ Z.Warmed39 U.vm ∧ U.heap = h0) (fun _ _ _ _ _ => True) (fun _ U o U' => ∃ v L, o = .returned v ∧ Q v U'.heap L ∧ FrameEnd U o U' L rm.cells rm.slots)
section Steps
variable {p : Program} {l : Launch} {e : Env} {R : Room} {s : State} {m : MethodId} {args : Array Value} {below : List Frame} {meth : Method} {c : Code} {T T' : State} {locs : List Loc} {cells slots : Nat} {Z : State} {a0 : Array Value} {h : Heap} {P : Outcome → State → Prop} {g g' : JFrame}
theorem Goes.on (st : ∀ t, Steps p.tables e below (T'.setTop g') t → Steps p.tables e below (T.setTop g) t) (k : Goes p e below P T' g') : Goes p e below P T g := by
  obtain ⟨s₂, o, h1, h2⟩ := k
  exact ⟨s₂, o, st _ h1, h2⟩
theorem Goes.joinB {fr : Int32 → JFrame} (k : ∀ z, (z = 0 ∨ z = 1) → Goes p e below P T' (fr z)) (u : (∀ z, (z = 0 ∨ z = 1) → Goes p e below P T' (fr z)) → Goes p e below P T g) : Goes p e below P T g := u k
theorem Goes.out {Q : Option Value → Heap → List Loc → Prop} {C N : Nat} (X : Stand p l e R s m args below meth c T locs cells slots) {v : Option Value} (hv : meth.sig.returnType = none → v = none) (hlk : meth.locks = false) (hc : cells ≤ C) (hs : slots ≤ N) (hq : Q v T.heap locs)
    (st : ∀ fs, (∀ (f : JFrame) (acts : List Action), f.method = m → f.locked = none → f.entered = [] → (doReturn e (T.setTop f) acts v).1 = T.setFrames fs) → Steps p.tables e below (T.setTop g) (T.setFrames fs)) : Goes p e below (Leaves s Q C N) T g := by
  obtain ⟨fs, hr, hrun, hended, hW, hsame⟩ := X.leave (v := v) hv hlk
  exact ⟨_, _, st fs hr, hrun, hended, v, locs, rfl, hq, ⟨_, rfl⟩, hW, hsame.mono hc hs⟩
theorem Goes.retV {Q : Option Value → Heap → List Loc → Prop} {C N : Nat} (X : Stand p l e R s m args below meth c T locs cells slots) (hx : p.tables.exec = Jvm.exec) (hlk : meth.locks = false) (hret : meth.sig.returnType = none) {pc : Nat} {Ls : Array Slot} (hd : decode c.code pc = .ok (.return_, 1)) (hc : cells ≤ C) (hs : slots ≤ N) (hq : Q none T.heap locs) :
    Goes p e below (Leaves s Q C N) T (mkF m pc Ls []) :=
  Goes.out X (fun _ => rfl) hlk hc hs hq fun _ hr => X.returnOut hx hret hd hr
theorem Goes.retW {Q : Option Value → Heap → List Loc → Prop} {C N : Nat} (X : Stand p l e R s m args below meth c T locs cells slots) (hx : p.tables.exec = Jvm.exec) (hlk : meth.locks = false) {t : FieldType} {i : Instr} {w : Value} (hret : meth.sig.returnType = some t) {pc : Nat} {Ls : Array Slot} {rest : List Value} (hn : narrow t w = w)
    (hi : (i = .ireturn ∧ (t = .int ∨ t = .boolean ∨ t = .byte ∨ t = .char ∨ t = .short) ∧ ∃ z, w = .int z) ∨ (i = .lreturn ∧ t = .long ∧ ∃ z, w = .long z) ∨ (i = .dreturn ∧ t = .double ∧ ∃ z, w = .double z) ∨ (i = .freturn ∧ t = .float ∧ ∃ z, w = .float z) ∨ (i = .areturn ∧ t.isReference = true ∧ w.isRef = true))
    (hd : decode c.code pc = .ok (i, 1)) (hc : cells ≤ C) (hs : slots ≤ N) (hq : Q (some w) T.heap locs) : Goes p e below (Leaves s Q C N) T (mkF m pc Ls (w :: rest)) :=
  Goes.out X (fun h => by rw [hret] at h; cases h) hlk hc hs hq fun _ hr => retOut X hx hret hn hi hd hr
theorem Goes.retI {Q : Option Value → Heap → List Loc → Prop} {C N : Nat} (X : Stand p l e R s m args below meth c T locs cells slots) (hx : p.tables.exec = Jvm.exec) (hlk : meth.locks = false) {z : Int32} (hret : meth.sig.returnType = some .int) {pc : Nat} {Ls : Array Slot} {rest : List Value} (hd : decode c.code pc = .ok (.ireturn, 1)) (hc : cells ≤ C) (hs : slots ≤ N) (hq : Q (some (.int z)) T.heap locs) :
    Goes p e below (Leaves s Q C N) T (mkF m pc Ls (.int z :: rest)) := Goes.retW X hx hlk hret rfl (Or.inl ⟨rfl, Or.inl rfl, _, rfl⟩) hd hc hs hq
theorem Goes.retB {Q : Option Value → Heap → List Loc → Prop} {C N : Nat} (X : Stand p l e R s m args below meth c T locs cells slots) (hx : p.tables.exec = Jvm.exec) (hlk : meth.locks = false) {z : Int32} (hret : meth.sig.returnType = some .boolean) {pc : Nat} {Ls : Array Slot} {rest : List Value} (hz : z = 0 ∨ z = 1) (hd : decode c.code pc = .ok (.ireturn, 1)) (hc : cells ≤ C) (hs : slots ≤ N) (hq : Q (some (.int z)) T.heap locs) :
    Goes p e below (Leaves s Q C N) T (mkF m pc Ls (.int z :: rest)) := Goes.retW X hx hlk hret (by rcases hz with rfl | rfl <;> rfl) (Or.inl ⟨rfl, Or.inr (Or.inl rfl), _, rfl⟩) hd hc hs hq
theorem Goes.retC {Q : Option Value → Heap → List Loc → Prop} {C N : Nat} (X : Stand p l e R s m args below meth c T locs cells slots) (hx : p.tables.exec = Jvm.exec) (hlk : meth.locks = false) {z : Int32} (hret : meth.sig.returnType = some .char) {pc : Nat} {Ls : Array Slot} {rest : List Value} (hz : nar .char z = z) (hd : decode c.code pc = .ok (.ireturn, 1)) (hc : cells ≤ C) (hs : slots ≤ N) (hq : Q (some (.int z)) T.heap locs) :
    Goes p e below (Leaves s Q C N) T (mkF m pc Ls (.int z :: rest)) := Goes.retW X hx hlk hret (by show Value.int (nar .char z) = _; rw [hz]) (Or.inl ⟨rfl, Or.inr (Or.inr (Or.inr (Or.inl rfl))), _, rfl⟩) hd hc hs hq
theorem Goes.retY {Q : Option Value → Heap → List Loc → Prop} {C N : Nat} (X : Stand p l e R s m args below meth c T locs cells slots) (hx : p.tables.exec = Jvm.exec) (hlk : meth.locks = false) {z : Int32} (hret : meth.sig.returnType = some .byte) {pc : Nat} {Ls : Array Slot} {rest : List Value} (hz : nar .byte z = z) (hd : decode c.code pc = .ok (.ireturn, 1)) (hc : cells ≤ C) (hs : slots ≤ N) (hq : Q (some (.int z)) T.heap locs) :
    Goes p e below (Leaves s Q C N) T (mkF m pc Ls (.int z :: rest)) := Goes.retW X hx hlk hret (by show Value.int (nar .byte z) = _; rw [hz]) (Or.inl ⟨rfl, Or.inr (Or.inr (Or.inl rfl)), _, rfl⟩) hd hc hs hq
theorem Goes.retJ {Q : Option Value → Heap → List Loc → Prop} {C N : Nat} (X : Stand p l e R s m args below meth c T locs cells slots) (hx : p.tables.exec = Jvm.exec) (hlk : meth.locks = false) {z : Int64} (hret : meth.sig.returnType = some .long) {pc : Nat} {Ls : Array Slot} {rest : List Value} (hd : decode c.code pc = .ok (.lreturn, 1)) (hc : cells ≤ C) (hs : slots ≤ N) (hq : Q (some (.long z)) T.heap locs) :
    Goes p e below (Leaves s Q C N) T (mkF m pc Ls (.long z :: rest)) := Goes.retW X hx hlk hret rfl (Or.inr (Or.inl ⟨rfl, rfl, _, rfl⟩)) hd hc hs hq
theorem Goes.retA {Q : Option Value → Heap → List Loc → Prop} {C N : Nat} (X : Stand p l e R s m args below meth c T locs cells slots) (hx : p.tables.exec = Jvm.exec) (hlk : meth.locks = false) {w : Value} {t : FieldType} (hret : meth.sig.returnType = some t) (ht : t.isReference = true) (hw : w.isRef = true) {pc : Nat} {Ls : Array Slot} {rest : List Value} (hd : decode c.code pc = .ok (.areturn, 1)) (hc : cells ≤ C) (hs : slots ≤ N) (hq : Q (some w) T.heap locs) :
    Goes p e below (Leaves s Q C N) T (mkF m pc Ls (w :: rest)) := Goes.retW X hx hlk hret (by cases t <;> first | rfl | cases ht) (Or.inr (Or.inr (Or.inr (Or.inr ⟨rfl, ht, hw⟩)))) hd hc hs hq
/-- a body's contract out of its walk -/
theorem Pays.walk {y : MethodName} {bytes : ByteArray} {maxL : Nat} {ret : Option FieldType} {ws : List Jvm.Cond} {rm : Room} {as : Array Value} {h0 : Heap} {Q : Option Value → Heap → List Loc → Prop} {Ls : Array Slot}
    (hn : plainFor y = true) (hef : ∀ m, entryFrame m as maxL = mkF m 0 Ls [])
    (body : ∀ (p : Program) (e : Env) (s : State) (m : MethodId) (below : List Frame) (meth : Method) (c : Code) (T : State), Stand p l e rm s m as below meth c T [] 0 0 → p.tables.exec = Jvm.exec → c.code = bytes → c.maxLocals = maxL → s.vm.findClass y.cls = some m.cls → meth.name = y.name → Z.Warmed39 s.vm → T.heap = h0 → meth.sig.returnType = ret → meth.locks = false →
      Goes p e below (Leaves s Q rm.cells rm.slots) T (mkF m 0 Ls [])) : Pays l Z y bytes maxL ret ws rm as h0 Q := by
  refine MetFree.of_bodySF hn hisR ?_
  intro p e s m args below meth c s₁ Bd hml0 hP hK
  obtain ⟨rfl, hZ, hh⟩ := hP
  have X0 : Stand p l e rm s m args below meth c s₁ [] 0 0 := Stand.of_body Bd
  obtain ⟨s₂, o, h1, h2⟩ := body p e s m below meth c s₁ X0 Bd.exec Bd.bytes hml0 (findClass_of_methodNamed Bd.named) (name_of_methodNamed Bd.named Bd.method).1 hZ (by rw [← hh, Bd.state]; rfl) Bd.returns Bd.notSynchronized
  exact ⟨s₂, o, castTop (hef m) h1, h2⟩
/-- a static call by its contract -/
theorem Goes.callS (X : Stand p l e R s m args below meth c T locs cells slots) (hx : p.tables.exec = Jvm.exec) (hZ : Z.Warmed39 s.vm) {own : String} {index : Nat} {y : MethodName} {bytes : ByteArray} {maxL : Nat} {ret : Option FieldType} {rm : Room} {as' : Array Value} {Q : Option Value → Heap → List Loc → Prop} (W : Nat)
    (hown : s.vm.findClass own = some m.cls) (w1 : (Jvm.Cond.methodLink own index y).before a0 Z = true) (w2 : (Jvm.Cond.static y).before a0 Z = true) (w3 : (Jvm.Cond.initialized y.cls).before a0 Z = true) (w4 : (Jvm.Cond.code y bytes maxL ret).before a0 Z = true) (hy : y.cls ≠ "java/lang/invoke/MethodHandle" ∧ y.cls ≠ "java/lang/invoke/VarHandle")
    (eT : T.heap = h) (hM : Pays l Z y bytes maxL ret [] rm as' h Q) (hf : rm.frames + 1 ≤ R.frames) (hl : W + (maxL + 11) + rm.locals ≤ R.locals) (hc : cells + rm.cells ≤ R.cells) (hs : slots + rm.slots ≤ R.slots)
    (hg : g.method = m) (hsize : g.locals.size = c.maxLocals) {argsL rest : List Value} (has : argsL.toArray = as') (hlen : ∀ sig, parseMethodDescriptor y.desc = some sig → argsL.length = sig.parameters.length) (hstack : g.stack = argsL.reverse ++ rest) (hW : 2 * g.monitorRoom + (rest.map fun v => v.category).sum ≤ W)
    (hd : decode c.code g.pc = .ok (.invokestatic index, 3))
    (k : ∀ v T' L, Stand p l e R s m args below meth c T' (locs ++ L) (cells + rm.cells) (slots + rm.slots) → Q v T'.heap L → Goes p e below P T' { g with pc := g.pc + 3, stack := v.toList ++ rest }) : Goes p e below P T g := by
  obtain ⟨v, _, ⟨T', L', k', n'⟩, -, X', ⟨Lc, hQ, l', y', z'⟩, st⟩ := Jvm.LawKit.callS X hx hown (mvT hZ w1) (mvT hZ w2) (mvT hZ w3) (mvT hZ w4) hy (backOf (W := W) hM hZ w4 w3 hf hl) hg hsize (argsL := argsL) (rest := rest) hlen hstack hW hd (fun _ _ => ⟨has, eT, hc, hs⟩)
  dsimp only [Pt.U, Pt.locs, Pt.cells, Pt.slots] at X' l' y' z' st hQ
  subst l' y' z'
  exact Goes.on st (k v T' Lc X' hQ)
/-- a constructor by its contract -/
theorem Goes.callC (X : Stand p l e R s m args below meth c T locs cells slots) (hx : p.tables.exec = Jvm.exec) (hZ : Z.Warmed39 s.vm) {own : String} {index : Nat} {y : MethodName} {bytes : ByteArray} {maxL : Nat} {rm : Room} {as' : Array Value} {Q : Option Value → Heap → List Loc → Prop} (W : Nat) (hy1 : y.name = "<init>")
    (hown : s.vm.findClass own = some m.cls) (w1 : (Jvm.Cond.methodLink own index y).before a0 Z = true) (w2 : (Jvm.Cond.instanceMethod y).before a0 Z = true) (w3 : (Jvm.Cond.initialized y.cls).before a0 Z = true) (w4 : (Jvm.Cond.code y bytes maxL none).before a0 Z = true) (hy : y.cls ≠ "java/lang/invoke/MethodHandle" ∧ y.cls ≠ "java/lang/invoke/VarHandle")
    (eT : T.heap = h) (hM : Pays l Z y bytes maxL none [] rm as' h Q) (hf : rm.frames + 1 ≤ R.frames) (hl : W + (maxL + 11) + rm.locals ≤ R.locals) (hc : cells + rm.cells ≤ R.cells) (hs : slots + rm.slots ≤ R.slots)
    (hg : g.method = m) (hsize : g.locals.size = c.maxLocals) {a : Addr} {argsL rest : List Value} (has : (Value.ref a :: argsL).toArray = as') (hlen : ∀ sig, parseMethodDescriptor y.desc = some sig → argsL.length = sig.parameters.length) (hstack : g.stack = argsL.reverse ++ .ref a :: rest) (hW : 2 * g.monitorRoom + (rest.map fun v => v.category).sum ≤ W)
    (hd : decode c.code g.pc = .ok (.invokespecial index, 3))
    (k : ∀ v T' L, Stand p l e R s m args below meth c T' (locs ++ L) (cells + rm.cells) (slots + rm.slots) → Q v T'.heap L → Goes p e below P T' { g with pc := g.pc + 3, stack := v.toList ++ rest }) : Goes p e below P T g := by
  obtain ⟨v, _, ⟨T', L', k', n'⟩, -, X', ⟨Lc, hQ, l', y', z'⟩, st⟩ := X.specialBack hx (y := y) hy1 hown (mvT hZ w1) (mvT hZ w2) (mvT hZ w4) hy (backOf (W := W) hM hZ w4 w3 hf hl) hg hsize (Steps.refl _) (a := a) (argsL := argsL) (rest := rest) hlen hstack hW hd (fun _ _ => ⟨has, eT, hc, hs⟩)
  dsimp only [Pt.U, Pt.locs, Pt.cells, Pt.slots] at X' l' y' z' st hQ
  subst l' y' z'
  exact Goes.on (fun _ q => st.trans q) (k v T' Lc X' hQ)
/-- an instance method by its contract, on an object of the class C -/
theorem Goes.callV (X : Stand p l e R s m args below meth c T locs cells slots) (hx : p.tables.exec = Jvm.exec) (hZ : Z.Warmed39 s.vm) {own C : String} {index : Nat} {y z : MethodName} {bytes : ByteArray} {maxL : Nat} {ret : Option FieldType} {rm : Room} {as' : Array Value} {Q : Option Value → Heap → List Loc → Prop} (W : Nat)
    (hown : s.vm.findClass own = some m.cls) (w1 : (Jvm.Cond.methodLink own index y).before a0 Z = true) (w2 : (Jvm.Cond.declares y).before a0 Z = true) (hnf : NotFace s y) (w5 : (Jvm.Cond.selects C y z).before a0 Z = true) (w6 : (Jvm.Cond.instanceMethod z).before a0 Z = true) (w3 : (Jvm.Cond.initialized z.cls).before a0 Z = true) (w4 : (Jvm.Cond.code z bytes maxL ret).before a0 Z = true) (hy : y.cls ≠ "java/lang/invoke/MethodHandle" ∧ y.cls ≠ "java/lang/invoke/VarHandle")
    (eT : T.heap = h) {a : Addr} (E : Exa Z h a C) (hM : Pays l Z z bytes maxL ret [] rm as' h Q) (hf : rm.frames + 1 ≤ R.frames) (hl : W + (maxL + 11) + rm.locals ≤ R.locals) (hc : cells + rm.cells ≤ R.cells) (hs : slots + rm.slots ≤ R.slots)
    (hg : g.method = m) (hsize : g.locals.size = c.maxLocals) {argsL rest : List Value} (has : (Value.ref a :: argsL).toArray = as') (hlen : ∀ sig, parseMethodDescriptor y.desc = some sig → argsL.length = sig.parameters.length) (hstack : g.stack = argsL.reverse ++ .ref a :: rest) (hW : 2 * g.monitorRoom + (rest.map fun v => v.category).sum ≤ W)
    (hd : decode c.code g.pc = .ok (.invokevirtual index, 3))
    (k : ∀ v T' L, Stand p l e R s m args below meth c T' (locs ++ L) (cells + rm.cells) (slots + rm.slots) → Q v T'.heap L → Goes p e below P T' { g with pc := g.pc + 3, stack := v.toList ++ rest }) : Goes p e below P T g := by
  obtain ⟨cq, kq, qa, qb, qc⟩ := isOf hZ eT E
  obtain ⟨v, _, ⟨T', L', k', n'⟩, -, X', ⟨Lc, hQ, l', y', z'⟩, st⟩ := X.virtualBack hx (y := y) (z := z) hown (mvT hZ w1) (mvT hZ w2) hnf (mvT hZ w5) (mvT hZ w6) hy (backOf (W := W) hM hZ w4 w3 hf hl) qa qc hg hsize (Steps.refl _) (argsL := argsL) (rest := rest) hlen hstack hW hd (fun _ _ => ⟨has, eT, hc, hs⟩)
  dsimp only [Pt.U, Pt.locs, Pt.cells, Pt.slots] at X' l' y' z' st hQ
  subst l' y' z'
  exact Goes.on (fun _ q => st.trans q) (k v T' Lc X' hQ)
/-- what a ready payer (Back) asks and gives -/
abbrev Payer (l : Launch) (R : Room) (p : Program) (e : Env) (below : List Frame) (s : State) (args : Array Value) (y : MethodName) (W : Nat) (as' : Array Value) (h : Heap) (C N : Nat) (Q : Option Value → Heap → List Loc → Prop) : Prop :=
  Back l R p e below s args y 3 W (fun A a => a = as' ∧ A.U.heap = h ∧ A.cells + C ≤ R.cells ∧ A.slots + N ≤ R.slots) (fun A _ v B => ∃ L, Q v B.U.heap L ∧ B.locs = A.locs ++ L ∧ B.cells = A.cells + C ∧ B.slots = A.slots + N)
/-- a private instance method (invokevirtual) by its contract -/
theorem Goes.callP (X : Stand p l e R s m args below meth c T locs cells slots) (hx : p.tables.exec = Jvm.exec) (hZ : Z.Warmed39 s.vm) {own C : String} {index ni : Nat} {y : MethodName} {bytes : ByteArray} {maxL : Nat} {ret : Option FieldType} {rm : Room} {as' : Array Value} {Q : Option Value → Heap → List Loc → Prop} (W : Nat)
    (hown : s.vm.findClass own = some m.cls) (w1 : (Jvm.Cond.methodLink own index y).before a0 Z = true) (w6 : (Jvm.Cond.instanceMethod y).before a0 Z = true) (wp : (Jvm.Cond.privateMethod y).before a0 Z = true) (wi : (Jvm.Cond.instantiable y.cls ni).before a0 Z = true) (w3 : (Jvm.Cond.initialized y.cls).before a0 Z = true) (w4 : (Jvm.Cond.code y bytes maxL ret).before a0 Z = true) (hy : y.cls ≠ "java/lang/invoke/MethodHandle" ∧ y.cls ≠ "java/lang/invoke/VarHandle")
    (eT : T.heap = h) {a : Addr} (E : Exa Z h a C) (hM : Pays l Z y bytes maxL ret [] rm as' h Q) (hf : rm.frames + 1 ≤ R.frames) (hl : W + (maxL + 11) + rm.locals ≤ R.locals) (hc : cells + rm.cells ≤ R.cells) (hs : slots + rm.slots ≤ R.slots)
    (hg : g.method = m) (hsize : g.locals.size = c.maxLocals) {argsL rest : List Value} (has : (Value.ref a :: argsL).toArray = as') (hlen : ∀ sig, parseMethodDescriptor y.desc = some sig → argsL.length = sig.parameters.length) (hstack : g.stack = argsL.reverse ++ .ref a :: rest) (hW : 2 * g.monitorRoom + (rest.map fun v => v.category).sum ≤ W)
    (hd : decode c.code g.pc = .ok (.invokevirtual index, 3))
    (k : ∀ v T' L, Stand p l e R s m args below meth c T' (locs ++ L) (cells + rm.cells) (slots + rm.slots) → Q v T'.heap L → Goes p e below P T' { g with pc := g.pc + 3, stack := v.toList ++ rest }) : Goes p e below P T g := by
  obtain ⟨ce, hce, hst⟩ := E.cell
  have hp := Cond.privateMethod_at (args := args) (mvP hZ wp)
  obtain ⟨ci, ki, i1, i2, -, i4, -⟩ := Cond.instantiable_spec (mvT (args := args) hZ wi)
  have i5 : ki.isInterface = false := by cases hq : ki.isInterface <;> simp [hq] at i4 ⊢
  have hsel := selects_self_of_private (args := args) i1 i2 i5 hp (mvT hZ w6) hy
  obtain ⟨v, _, ⟨T', L', k', n'⟩, -, X', ⟨Lc, hQ, l', y', z'⟩, st⟩ := X.privateBack hx (y := y) hown (mvT hZ w1) (mvT hZ w6) hsel hp (mvT hZ w4) hy (backOf (W := W) hM hZ w4 w3 hf hl) hg hsize (Steps.refl _) (a := a) (cell := ce) (by rw [eT]; exact hce) hst (argsL := argsL) (rest := rest) hlen hstack hW hd (fun _ _ => ⟨has, eT, hc, hs⟩)
  dsimp only [Pt.U, Pt.locs, Pt.cells, Pt.slots] at X' l' y' z' st hQ
  subst l' y' z'
  exact Goes.on (fun _ q => st.trans q) (k v T' Lc X' hQ)
theorem eqInt {t : Jvm.Term} {i : Int32} (hq : (Jvm.Cond.eq t (.int i)).value args Z none Z [] = some true) : t.eval args Z none [] Z = some (.int i) := by
  obtain ⟨x, y, e1, e2, -, k⟩ := cmp_v (Or.inl hq)
  cases Option.some.inj ((Term.int_eval i).symm.trans e2)
  obtain ⟨z, rfl⟩ := k
  rw [e1]
  simpa [Jvm.Cond.value, e1, e2] using hq
theorem fldInt {t : Jvm.Term} {C n d : String} {i : Int32} {a : Addr} (ht : t.eval args Z none [] Z = some (.ref a)) (hq : (Jvm.Cond.eq (.field t C n d) (.int i)).value args Z none Z [] = some true) : Fld Z Z.heap a C n d (.int i) := by
  refine Fld.start ((fld_at (C := C) (n := n) (dd := d) ht).symm.trans ?_)
  obtain ⟨x, y, e1, e2, -, k⟩ := cmp_v (Or.inl hq)
  cases Option.some.inj ((Term.int_eval i).symm.trans e2)
  obtain ⟨z, rfl⟩ := k
  rw [e1]
  simpa [Jvm.Cond.value, e1, e2] using hq
theorem lremM {g : JFrame} {target : State} (X : Stand p l e R s m args below meth c T locs cells slots) (hx : p.tables.exec = Jvm.exec) (hg : g.method = m) {x y : Int64} {rest : List Value} (hd : decode c.code g.pc = .ok (.lrem, 1)) (hs : g.stack = .long y :: .long x :: rest) (hy : y ≠ 0)
    (hr : Steps p.tables e below (T.setTop { g with pc := g.pc + 1, stack := .long (x % y) :: rest }) target) : Steps p.tables e below (T.setTop g) target :=
  XS.lrem X.here hx hg hd hs hy (by rw [lrem_mod]; exact hr)
theorem narB {z : Int32} (h : z = 0 ∨ z = 1) : narrow .boolean (.int z) = .int z := by rcases h with rfl | rfl <;> rfl
theorem fitR {t : FieldType} {v : Value} (ht : t.isReference = true) (h : v.isRef = true) : fits t v = true := by
  rcases ref_cases h with rfl | ⟨a, rfl⟩ <;> cases t <;> first | rfl | cases ht
theorem fitB {z : Int32} (h : z = 0 ∨ z = 1) : fits .boolean (.int z) = true := by rcases h with rfl | rfl <;> rfl
end Steps
/-- an array by what its places hold -/
def Upd {α : Type} (f : Nat → α) (j : Nat) (x : α) : Nat → α := fun i => if i = j then x else f i
def Arf {α : Type} (Z : State) (h : Heap) (a : Addr) (ty : FieldType) (con : α → Value) (n : Nat) (f : Nat → α) : Prop := ∃ c : Cell, Arr Z h a c ty ∧ c.slots.size = n ∧ ∀ i, i < n → c.slots[i]? = some (con (f i))
theorem updN {α : Type} (f : Nat → α) {i j : Nat} (x : α) (h : i ≠ j) : Upd f j x i = f i := if_neg h
section Arrays
variable {p : Program} {l : Launch} {e : Env} {R : Room} {s : State} {m : MethodId} {args : Array Value} {below : List Frame} {meth : Method} {c : Code} {T T' : State} {locs : List Loc} {cells slots : Nat} {Z : State} {a0 : Array Value} {h h' : Heap} {P : Outcome → State → Prop} {g g' : JFrame} {α : Type} {con : α → Value} {a b : Addr} {ty : FieldType} {n : Nat} {f : Nat → α} {j : Int32} {rest : List Value}
theorem Arf.lt (F : Arf Z h a ty con n f) : a < h.size := by obtain ⟨c, A, -⟩ := F; exact A.lt
theorem Arf.ext (F : Arf Z h a ty con n f) (E : Ext h h') : Arf Z h' a ty con n f := by obtain ⟨c, A, r⟩ := F; exact ⟨c, A.ext E, r⟩
theorem Arf.other {sl : Nat} {v : Value} (F : Arf Z h b ty con n f) (W : Wr h h' a sl v) (q : b ≠ a) : Arf Z h' b ty con n f := by obtain ⟨c, A, r⟩ := F; exact ⟨c, A.other W q, r⟩
theorem Arf.keep {ws : List Addr} (F : Arf Z h a ty con n f) (K : Keep h h' ws) (q : a ∉ ws) : Arf Z h' a ty con n f := by obtain ⟨c, A, r⟩ := F; exact ⟨c, ⟨K.2.1 a c A.1 q, A.2⟩, r⟩
theorem Arf.new {cA : ClassId} {z : Int32} {d : α} (A : Arr Z h a (newA cA ty z) ty) (hd : defaultValue ty = con d) : Arf Z h a ty con z.toNatClampNeg (fun _ => d) :=
  ⟨_, A, sz_new _ _ _, fun i hi => by simp [newA, hi, hd]⟩
theorem Arf.set (F : Arf Z h a ty con n f) {k : Nat} {v : Value} {x : α} (W : Wr h h' a k v) (hv : v = con x) : Arf Z h' a ty con n (Upd f k x) := by
  obtain ⟨c, A, S, H⟩ := F
  refine ⟨_, A.same W, (sz_set _ _ _).trans S, fun i hi => ?_⟩
  subst hv
  by_cases q : i = k
  · subst q; simp [Cell.setSlot, Upd, S, hi]
  · have : ((c.setSlot k (con x)).slots)[i]? = c.slots[i]? := Array.getElem?_setIfInBounds_ne (Ne.symm q)
    rw [this, H i hi]; simp [Upd, q]
theorem Arf.inb {c : Cell} (S : c.slots.size = n) (hj : ¬ j < 0 ∧ j.toNatClampNeg < n) : ¬ (j < 0 ∨ c.slots.size ≤ j.toNatClampNeg) := fun q => q.elim hj.1 fun r => by omega
theorem ldJ {f : Nat → Int64} (X : Stand p l e R s m args below meth c T locs cells slots) (hx : p.tables.exec = Jvm.exec) (hZ : Z.Warmed39 s.vm) (eT : T.heap = h) (F : Arf Z h a .long Value.long n f) (hj : ¬ j < 0 ∧ j.toNatClampNeg < n) (hg : g.method = m) (hs : g.stack = .int j :: .ref a :: rest) (hd : decode c.code g.pc = .ok (.laload, 1)) {t : State}
    (k : Steps p.tables e below (T.setTop { g with pc := g.pc + 1, stack := .long (f j.toNatClampNeg) :: rest }) t) : Steps p.tables e below (T.setTop g) t := by
  obtain ⟨cl, A, S, H⟩ := F
  exact X.laload hx (by rw [eT]; exact A.1) (State.isArrayOf_alike hZ.alike A.2.1) A.2.2 (Arf.inb S hj) (H _ hj.2) hg hs hd t k
theorem ldJm {f : Nat → Int64} (X : Stand p l e R s m args below meth c T locs cells slots) (hx : p.tables.exec = Jvm.exec) (hZ : Z.Warmed39 s.vm) (eT : T.heap = h) (F : Arf Z h a .long Value.long n f) (hj : ¬ j < 0 ∧ j.toNatClampNeg < n) {pc : Nat} {Ls : Array Slot} (hd : decode c.code pc = .ok (.laload, 1)) {t : State}
    (k : Steps p.tables e below (T.setTop (mkF m (pc + 1) Ls (.long (f j.toNatClampNeg) :: rest))) t) : Steps p.tables e below (T.setTop (mkF m pc Ls (.int j :: .ref a :: rest))) t :=
  ldJ (g := mkF m pc Ls (.int j :: .ref a :: rest)) X hx hZ eT F hj rfl rfl hd k
theorem ldZ {f : Nat → Int32} (X : Stand p l e R s m args below meth c T locs cells slots) (hx : p.tables.exec = Jvm.exec) (hZ : Z.Warmed39 s.vm) (eT : T.heap = h) (F : Arf Z h a .boolean Value.int n f) (hj : ¬ j < 0 ∧ j.toNatClampNeg < n) (hg : g.method = m) (hs : g.stack = .int j :: .ref a :: rest) (hd : decode c.code g.pc = .ok (.baload, 1)) {t : State}
    (k : Steps p.tables e below (T.setTop { g with pc := g.pc + 1, stack := .int (f j.toNatClampNeg) :: rest }) t) : Steps p.tables e below (T.setTop g) t := by
  obtain ⟨cl, A, S, H⟩ := F
  exact X.baloadBooleans hx (by rw [eT]; exact A.1) (State.isArrayOf_alike hZ.alike A.2.1) A.2.2 (Arf.inb S hj) (H _ hj.2) hg hs hd t k
theorem ldZm {f : Nat → Int32} (X : Stand p l e R s m args below meth c T locs cells slots) (hx : p.tables.exec = Jvm.exec) (hZ : Z.Warmed39 s.vm) (eT : T.heap = h) (F : Arf Z h a .boolean Value.int n f) (hj : ¬ j < 0 ∧ j.toNatClampNeg < n) {pc : Nat} {Ls : Array Slot} (hd : decode c.code pc = .ok (.baload, 1)) {t : State}
    (k : Steps p.tables e below (T.setTop (mkF m (pc + 1) Ls (.int (f j.toNatClampNeg) :: rest))) t) : Steps p.tables e below (T.setTop (mkF m pc Ls (.int j :: .ref a :: rest))) t :=
  ldZ (g := mkF m pc Ls (.int j :: .ref a :: rest)) X hx hZ eT F hj rfl rfl hd k
theorem ldY {f : Nat → Int32} (X : Stand p l e R s m args below meth c T locs cells slots) (hx : p.tables.exec = Jvm.exec) (hZ : Z.Warmed39 s.vm) (eT : T.heap = h) (F : Arf Z h a .byte Value.int n f) (hj : ¬ j < 0 ∧ j.toNatClampNeg < n) (hg : g.method = m) (hs : g.stack = .int j :: .ref a :: rest) (hd : decode c.code g.pc = .ok (.baload, 1)) {t : State}
    (k : Steps p.tables e below (T.setTop { g with pc := g.pc + 1, stack := .int (f j.toNatClampNeg) :: rest }) t) : Steps p.tables e below (T.setTop g) t := by
  obtain ⟨cl, A, S, H⟩ := F
  exact X.baloadBytes hx (by rw [eT]; exact A.1) (State.isArrayOf_alike hZ.alike A.2.1) A.2.2 (Arf.inb S hj) (H _ hj.2) hg hs hd t k
theorem ldYm {f : Nat → Int32} (X : Stand p l e R s m args below meth c T locs cells slots) (hx : p.tables.exec = Jvm.exec) (hZ : Z.Warmed39 s.vm) (eT : T.heap = h) (F : Arf Z h a .byte Value.int n f) (hj : ¬ j < 0 ∧ j.toNatClampNeg < n) {pc : Nat} {Ls : Array Slot} (hd : decode c.code pc = .ok (.baload, 1)) {t : State}
    (k : Steps p.tables e below (T.setTop (mkF m (pc + 1) Ls (.int (f j.toNatClampNeg) :: rest))) t) : Steps p.tables e below (T.setTop (mkF m pc Ls (.int j :: .ref a :: rest))) t :=
  ldY (g := mkF m pc Ls (.int j :: .ref a :: rest)) X hx hZ eT F hj rfl rfl hd k
theorem aLen (X : Stand p l e R s m args below meth c T locs cells slots) (hx : p.tables.exec = Jvm.exec) (hZ : Z.Warmed39 s.vm) (eT : T.heap = h) (F : Arf Z h a ty con n f) (hg : g.method = m) (hs : g.stack = .ref a :: rest) (hd : decode c.code g.pc = .ok (.arraylength, 1)) {t : State}
    (k : Steps p.tables e below (T.setTop { g with pc := g.pc + 1, stack := .int n.toInt32 :: rest }) t) : Steps p.tables e below (T.setTop g) t := by
  obtain ⟨cl, A, S, H⟩ := F
  exact X.arraylength hx (by rw [eT]; exact A.1) (State.isArrayOf_alike hZ.alike A.2.1) hg hs hd t (by rw [S]; exact k)
theorem aLenm (X : Stand p l e R s m args below meth c T locs cells slots) (hx : p.tables.exec = Jvm.exec) (hZ : Z.Warmed39 s.vm) (eT : T.heap = h) (F : Arf Z h a ty con n f) {pc : Nat} {Ls : Array Slot} (hd : decode c.code pc = .ok (.arraylength, 1)) {t : State}
    (k : Steps p.tables e below (T.setTop (mkF m (pc + 1) Ls (.int n.toInt32 :: rest))) t) : Steps p.tables e below (T.setTop (mkF m pc Ls (.ref a :: rest))) t :=
  aLen (g := mkF m pc Ls (.ref a :: rest)) X hx hZ eT F rfl rfl hd k
theorem wrJ {f : Nat → Int64} {x : Int64} (X : Stand p l e R s m args below meth c T locs cells slots) (hx : p.tables.exec = Jvm.exec) (hZ : Z.Warmed39 s.vm) (eT : T.heap = h) (F : Arf Z h a .long Value.long n f) (hj : ¬ j < 0 ∧ j.toNatClampNeg < n) (hg : g.method = m) (hs : g.stack = .long x :: .int j :: .ref a :: rest) (hd : decode c.code g.pc = .ok (.lastore, 1)) :
    ∃ T' h', Stand p l e R s m args below meth c T' (locs ++ [⟨a, j.toNatClampNeg⟩]) cells slots ∧ T'.heap = h' ∧ Wr h h' a j.toNatClampNeg (.long x) ∧ Arf Z h' a .long Value.long n (Upd f j.toNatClampNeg x) ∧ ∀ target, Steps p.tables e below (T'.setTop { g with pc := g.pc + 1, stack := rest }) target → Steps p.tables e below (T.setTop g) target := by
  have F' := F
  obtain ⟨cl, A, S, H⟩ := F
  obtain ⟨T', h', X', e', W, st⟩ := stJ X hx hZ eT A (Arf.inb S hj) hg hs hd
  exact ⟨T', h', X', e', W, F'.set W rfl, st⟩
theorem nat32 {n : Nat} (hn : n < 2 ^ 31) : n.toInt32.toNatClampNeg = n := by
  have q : n.toInt32.toInt = n := len_toInt hn
  simp only [Int32.toNatClampNeg, q]; omega
theorem pos32 {n : Nat} (hn : n < 2 ^ 31) : ¬ n.toInt32 < 0 := by
  have q : n.toInt32.toInt = n := len_toInt hn
  rw [Int32.lt_iff_toInt_lt, q]; have k : (0 : Int32).toInt = 0 := rfl
  omega
theorem Arf.arv (F : Arf Z h a ty con n f) (hn : n < 2 ^ 31) (hf : ∀ x, fits ty (con x) = true) (d : Value) : ∃ k, Arv Z h a k ty n.toInt32 ((List.range n).map fun i => con (f i)) d := by
  obtain ⟨cl, A, S, H⟩ := F
  refine ⟨cl.cls, cl, A, rfl, by rw [nat32 hn, S], pos32 hn, fun i hi => ?_, fun i hi => ?_⟩
  · rw [S] at hi; rw [H i hi]; simp [List.getD, hi]
  · rw [S] at hi; simp [List.getD, hi, hf]
theorem Arv.arf {k : ClassId} {z : Int32} {vs : List Value} {d : Value} (V : Arv Z h a k ty z vs d) (hz : z.toNatClampNeg = n) (hv : ∀ i, i < n → vs.getD i d = con (f i)) : Arf Z h a ty con n f := by
  obtain ⟨cl, A, -, S, -, H, -⟩ := V
  exact ⟨cl, A, S.trans hz, fun i hi => by rw [H i (by omega), hv i hi]⟩
/-- an array of arrays, with the class that it takes -/
def Blk (Z : State) (h : Heap) (b : Addr) (ty : FieldType) (C : String) (n : Nat) (f : Nat → Value) : Prop := ∃ c : Cell, Arr Z h b c (.array ty) ∧ OvrA Z c.cls ty C ∧ c.slots.size = n ∧ ∀ i, i < n → c.slots[i]? = some (f i)
section Blks
variable {C : String} {f : Nat → Value}
theorem Blk.lt (F : Blk Z h a ty C n f) : a < h.size := by obtain ⟨c, A, -⟩ := F; exact A.lt
theorem Blk.ext (F : Blk Z h a ty C n f) (E : Ext h h') : Blk Z h' a ty C n f := by obtain ⟨c, A, r⟩ := F; exact ⟨c, A.ext E, r⟩
theorem Blk.other {sl : Nat} {v : Value} (F : Blk Z h b ty C n f) (W : Wr h h' a sl v) (q : b ≠ a) : Blk Z h' b ty C n f := by obtain ⟨c, A, r⟩ := F; exact ⟨c, A.other W q, r⟩
theorem Blk.keep {ws : List Addr} (F : Blk Z h a ty C n f) (K : Keep h h' ws) (q : a ∉ ws) : Blk Z h' a ty C n f := by obtain ⟨c, A, r⟩ := F; exact ⟨c, ⟨K.2.1 a c A.1 q, A.2⟩, r⟩
theorem Blk.new {cA : ClassId} {z : Int32} (A : Arr Z h a (newA cA (.array ty) z) (.array ty)) (O : OvrA Z cA ty C) : Blk Z h a ty C z.toNatClampNeg (fun _ => .null) :=
  ⟨_, A, O, sz_new _ _ _, fun i hi => by simp [newA, hi, defaultValue]⟩
end Blks
end Arrays
end Jvm.Own
namespace Jvm.Own
open Sem ClassFile Op Lib Jvm.Stand Jvm.Free Jvm.LawKit Jvm.RoadKit
/-- what a body leaves that may have loaded String constants -/
abbrev LeavesW (Z : State) (EL : List (String × Nat)) (h0 : Heap) (s : State) (Q : Option Value → Heap → List Loc → Prop) (C N : Nat) (o : Outcome) (U : State) : Prop := ∃ v L, o = .returned v ∧ Q v U.heap L ∧ CHr Z EL s.vm h0 U.vm U.heap ∧ ReturnedEndW s o U L C N
abbrev PaysW (l : Launch) (Z : State) (EL : List (String × Nat)) (y : MethodName) (bytes : ByteArray) (maxL : Nat) (ret : Option FieldType) (ws : List Jvm.Cond) (rm : Room) (as : Array Value) (h0 : Heap) (Q : Option Value → Heap → List Loc → Prop) : Prop :=
  MetFree l y (head1 (Jvm.Cond.code y bytes maxL ret :: ws) rm) (fun a U => a = as ∧ Z.Warmed39 U.vm ∧ U.heap = h0 ∧ CHv Z EL U.vm h0) (fun _ _ _ _ _ => True) (fun _ U o U' => ∃ v L, o = .returned v ∧ Q v U'.heap L ∧ CHr Z EL U.vm U.heap U'.vm U'.heap ∧ ReturnedEndW U o U' L rm.cells rm.slots)
/-- a String with these bytes -/
def Str (Z : State) (h : Heap) (r b : Addr) (k : ClassId) (N : Int32) (vs : List Value) : Prop := Exa Z h r "java/lang/String" ∧ Fld Z h r "java/lang/String" "coder" "B" (.int 0) ∧ Fld Z h r "java/lang/String" "value" "[B" (.ref b) ∧ Arv Z h b k .byte N vs (.int 0)
theorem Str.ext {Z : State} {h h' : Heap} {r b : Addr} {k : ClassId} {N : Int32} {vs : List Value} (F : Str Z h r b k N vs) (E : Ext h h') : Str Z h' r b k N vs := ⟨F.1.ext E, F.2.1.ext E, F.2.2.1.ext E, F.2.2.2.ext E⟩
theorem Str.keep {Z : State} {h h' : Heap} {r b : Addr} {k : ClassId} {N : Int32} {vs : List Value} {ws : List Addr} (F : Str Z h r b k N vs) (K : Keep h h' ws) (hr : r ∉ ws) (hb : b ∉ ws) : Str Z h' r b k N vs := ⟨F.1.keep K, F.2.1.keep K hr, F.2.2.1.keep K hr, F.2.2.2.keep K hb⟩
theorem Str.wr {Z : State} {h h' : Heap} {r b a : Addr} {k : ClassId} {N : Int32} {vs : List Value} {sl : Nat} {v : Value} (F : Str Z h r b k N vs) (W : Wr h h' a sl v) (hr : r ≠ a) (hb : b ≠ a) : Str Z h' r b k N vs := ⟨F.1.wr W, F.2.1.other W (Or.inl hr), F.2.2.1.other W (Or.inl hr), F.2.2.2.other W hb⟩
theorem Str.ne {Z : State} {h : Heap} {r b r' b' : Addr} {k k' : ClassId} {N N' : Int32} {vs vs' : List Value} (F : Str Z h r b k N vs) (G : Str Z h r' b' k' N' vs') (hN : 0 < N.toNatClampNeg) (hv : vs.getD 0 (.int 0) ≠ vs'.getD 0 (.int 0)) : r ≠ r' := by
  by_cases q : b = b'
  · subst q
    obtain ⟨c, A, -, S, -, H, -⟩ := F.2.2.2
    obtain ⟨c', A', -, S', -, H', -⟩ := G.2.2.2
    cases A.1.symm.trans A'.1
    exact absurd (Option.some.inj ((H 0 (by omega)).symm.trans (H' 0 (by omega)))) hv
  · exact Fld.ne F.2.2.1 G.2.2.1 (fun z => q (Value.ref.inj z))
section StepsW
variable {p : Program} {l : Launch} {e : Env} {R : Room} {s : State} {m : MethodId} {args : Array Value} {below : List Frame} {meth : Method} {c : Code} {T T' : State} {locs : List Loc} {cells slots : Nat} {Z : State} {a0 : Array Value} {h h0 : Heap} {P : Outcome → State → Prop} {g g' : JFrame} {EL : List (String × Nat)} {vm vm0 vm1 : Vm} {k0 : Nat}
theorem endMono {t : State} {o : Outcome} {L : List Loc} {k n k' n' : Nat} (q : ReturnedEndW s o t L k n) (hk : k ≤ k') (hn : n ≤ n') : ReturnedEndW s o t L k' n' := ⟨q.1, q.2.1, q.2.2.1, q.2.2.2.mono hk hn⟩
theorem Goes.outW {Q : Option Value → Heap → List Loc → Prop} {C N : Nat} (X : Stand p l e R (s.setVm vm0) m args below meth c T locs cells slots) (hS : s.Since vm0 k0) (hk : k0 ≤ T.heap.size) (hZ : Z.Warmed39 vm0) (hEL : EW Z a0 EL) (hr : CHr Z EL s.vm h0 vm0 T.heap) {v : Option Value} (hv : meth.sig.returnType = none → v = none) (hlk : meth.locks = false) (hc : cells ≤ C) (hs : slots ≤ N) (hq : Q v T.heap locs)
    (st : ∀ fs, (∀ (f : JFrame) (acts : List Action), f.method = m → f.locked = none → f.entered = [] → (doReturn e (T.setTop f) acts v).1 = T.setFrames fs) → Steps p.tables e below (T.setTop g) (T.setFrames fs)) : Goes p e below (LeavesW Z EL h0 s Q C N) T g := by
  obtain ⟨fs, hrr, hrun, hended, hE⟩ := X.leaveW hS hk (v := v) hv hlk
  have hC : CHr Z EL s.vm h0 T.vm T.heap := hr.trans (CHv.at X hZ hEL hr.1)
  exact ⟨_, _, st fs hrr, hrun, hended, v, locs, rfl, hq, hC, endMono hE hc hs⟩
theorem Goes.retVW {Q : Option Value → Heap → List Loc → Prop} {C N : Nat} (X : Stand p l e R (s.setVm vm0) m args below meth c T locs cells slots) (hS : s.Since vm0 k0) (hk : k0 ≤ T.heap.size) (hZ : Z.Warmed39 vm0) (hEL : EW Z a0 EL) (hr : CHr Z EL s.vm h0 vm0 T.heap) (hx : p.tables.exec = Jvm.exec) (hlk : meth.locks = false) (hret : meth.sig.returnType = none) {pc : Nat} {Ls : Array Slot} (hd : decode c.code pc = .ok (.return_, 1)) (hc : cells ≤ C) (hs : slots ≤ N) (hq : Q none T.heap locs) :
    Goes p e below (LeavesW Z EL h0 s Q C N) T (mkF m pc Ls []) :=
  Goes.outW X hS hk hZ hEL hr (fun _ => rfl) hlk hc hs hq fun _ q => X.returnOut hx hret hd q
theorem Goes.retWW {Q : Option Value → Heap → List Loc → Prop} {C N : Nat} (X : Stand p l e R (s.setVm vm0) m args below meth c T locs cells slots) (hS : s.Since vm0 k0) (hk : k0 ≤ T.heap.size) (hZ : Z.Warmed39 vm0) (hEL : EW Z a0 EL) (hr : CHr Z EL s.vm h0 vm0 T.heap) (hx : p.tables.exec = Jvm.exec) (hlk : meth.locks = false) {t : FieldType} {i : Instr} {w : Value} (hret : meth.sig.returnType = some t) {pc : Nat} {Ls : Array Slot} {rest : List Value} (hn : narrow t w = w)
    (hi : (i = .ireturn ∧ (t = .int ∨ t = .boolean ∨ t = .byte ∨ t = .char ∨ t = .short) ∧ ∃ z, w = .int z) ∨ (i = .lreturn ∧ t = .long ∧ ∃ z, w = .long z) ∨ (i = .dreturn ∧ t = .double ∧ ∃ z, w = .double z) ∨ (i = .freturn ∧ t = .float ∧ ∃ z, w = .float z) ∨ (i = .areturn ∧ t.isReference = true ∧ w.isRef = true))
    (hd : decode c.code pc = .ok (i, 1)) (hc : cells ≤ C) (hs : slots ≤ N) (hq : Q (some w) T.heap locs) : Goes p e below (LeavesW Z EL h0 s Q C N) T (mkF m pc Ls (w :: rest)) :=
  Goes.outW X hS hk hZ hEL hr (fun h => by rw [hret] at h; cases h) hlk hc hs hq fun _ q => retOut X hx hret hn hi hd q
theorem Goes.retBW {Q : Option Value → Heap → List Loc → Prop} {C N : Nat} (X : Stand p l e R (s.setVm vm0) m args below meth c T locs cells slots) (hS : s.Since vm0 k0) (hk : k0 ≤ T.heap.size) (hZ : Z.Warmed39 vm0) (hEL : EW Z a0 EL) (hr : CHr Z EL s.vm h0 vm0 T.heap) (hx : p.tables.exec = Jvm.exec) (hlk : meth.locks = false) {z : Int32} (hret : meth.sig.returnType = some .boolean) {pc : Nat} {Ls : Array Slot} {rest : List Value} (hz : z = 0 ∨ z = 1) (hd : decode c.code pc = .ok (.ireturn, 1)) (hc : cells ≤ C) (hs : slots ≤ N) (hq : Q (some (.int z)) T.heap locs) :
    Goes p e below (LeavesW Z EL h0 s Q C N) T (mkF m pc Ls (.int z :: rest)) := Goes.retWW X hS hk hZ hEL hr hx hlk hret (by rcases hz with rfl | rfl <;> rfl) (Or.inl ⟨rfl, Or.inr (Or.inl rfl), _, rfl⟩) hd hc hs hq
theorem PaysW.walk {y : MethodName} {bytes : ByteArray} {maxL : Nat} {ret : Option FieldType} {ws : List Jvm.Cond} {rm : Room} {as : Array Value} {Q : Option Value → Heap → List Loc → Prop} {Ls : Array Slot}
    (hn : plainFor y = true) (hef : ∀ m, entryFrame m as maxL = mkF m 0 Ls [])
    (body : ∀ (p : Program) (e : Env) (s : State) (m : MethodId) (below : List Frame) (meth : Method) (c : Code) (T : State), Stand p l e rm (s.setVm s.vm) m as below meth c T [] 0 0 → p.tables.exec = Jvm.exec → c.code = bytes → c.maxLocals = maxL → (s.setVm s.vm).vm.findClass y.cls = some m.cls → meth.name = y.name → Z.Warmed39 (s.setVm s.vm).vm → T.heap = h0 → meth.sig.returnType = ret → meth.locks = false → s.Since s.vm 0 → CHr Z EL s.vm h0 s.vm h0 →
      Goes p e below (LeavesW Z EL h0 s Q rm.cells rm.slots) T (mkF m 0 Ls [])) : PaysW l Z EL y bytes maxL ret ws rm as h0 Q := by
  refine MetFree.of_bodySF hn hisR ?_
  intro p e s m args below meth c s₁ Bd hml0 hP hK
  obtain ⟨rfl, hZ, rfl, hC⟩ := hP
  have X0 : Stand p l e rm s m args below meth c s₁ [] 0 0 := Stand.of_body Bd
  obtain ⟨s₂, o, h1, h2⟩ := body p e s m below meth c s₁ X0 Bd.exec Bd.bytes hml0 (findClass_of_methodNamed Bd.named) (name_of_methodNamed Bd.named Bd.method).1 hZ (by rw [Bd.state]; rfl) Bd.returns Bd.notSynchronized ((State.WarmedH.refl s).since 0) (CHr.refl hC)
  exact ⟨s₂, o, castTop (hef m) h1, h2⟩
/-- the continuation behind a callee that may have interned -/
abbrev AfterW (p : Program) (l : Launch) (e : Env) (R : Room) (s : State) (m : MethodId) (args : Array Value) (below : List Frame) (meth : Method) (c : Code) (Z : State) (EL : List (String × Nat)) (own : String) (vm0 : Vm) (h : Heap) (Q : Option Value → Heap → List Loc → Prop) (locs : List Loc) (cells slots : Nat) (P : Outcome → State → Prop) (fr : Option Value → JFrame) : Prop :=
  ∀ v T' L k', Stand p l e R (s.setVm T'.vm) m args below meth c T' (locs ++ L) cells slots → s.Since T'.vm k' → k' ≤ T'.heap.size → Z.Warmed39 (s.setVm T'.vm).vm → (s.setVm T'.vm).vm.findClass own = some m.cls → CHr Z EL vm0 h T'.vm T'.heap → Q v T'.heap L → Goes p e below P T' (fr v)
theorem Goes.callSW (X : Stand p l e R (s.setVm vm0) m args below meth c T locs cells slots) (hx : p.tables.exec = Jvm.exec) (hZ : Z.Warmed39 (s.setVm vm0).vm) (hS : s.Since vm0 k0) (hk : k0 ≤ h.size) (hEL : EW Z a0 EL) (H : CHv Z EL vm0 h) {own : String} {index : Nat} {y : MethodName} {bytes : ByteArray} {maxL : Nat} {ret : Option FieldType} {rm : Room} {as' : Array Value} {Q : Option Value → Heap → List Loc → Prop} (W : Nat)
    (hown : (s.setVm vm0).vm.findClass own = some m.cls) (w1 : (Jvm.Cond.methodLink own index y).before a0 Z = true) (w2 : (Jvm.Cond.static y).before a0 Z = true) (w3 : (Jvm.Cond.initialized y.cls).before a0 Z = true) (w4 : (Jvm.Cond.code y bytes maxL ret).before a0 Z = true) (hy : y.cls ≠ "java/lang/invoke/MethodHandle" ∧ y.cls ≠ "java/lang/invoke/VarHandle")
    (eT : T.heap = h) (hM : PaysW l Z EL y bytes maxL ret [] rm as' h Q) (hf : rm.frames + 1 ≤ R.frames) (hl : W + (maxL + 11) + rm.locals ≤ R.locals) (hc : cells + rm.cells ≤ R.cells) (hs : slots + rm.slots ≤ R.slots)
    (hg : g.method = m) (hsize : g.locals.size = c.maxLocals) {argsL rest : List Value} (has : argsL.toArray = as') (hlen : ∀ sig, parseMethodDescriptor y.desc = some sig → argsL.length = sig.parameters.length) (hstack : g.stack = argsL.reverse ++ rest) (hW : 2 * g.monitorRoom + (rest.map fun v => v.category).sum ≤ W)
    (hd : decode c.code g.pc = .ok (.invokestatic index, 3))
    (k : AfterW p l e R s m args below meth c Z EL own vm0 h Q locs (cells + rm.cells) (slots + rm.slots) P (fun v => { g with pc := g.pc + 3, stack := v.toList ++ rest })) : Goes p e below P T g := by
  obtain ⟨v, _, ⟨T', L', k', n'⟩, -, X', hS', hgr, ⟨Lc, hQ, l', y', z', hC⟩, st⟩ := callSS X hx hown (mvT hZ w1) (mvT hZ w2) (mvT hZ w3) (mvT hZ w4) hy (backOfSH (s := s) (W := W) hM hZ w4 w3 hf hl hEL H) hg hsize (argsL := argsL) (rest := rest) hlen hstack hW hd (fun _ _ => ⟨has, eT, hc, hs⟩)
  dsimp only [Pt.U, Pt.locs, Pt.cells, Pt.slots] at X' l' y' z' st hQ hS' hgr hC
  subst l' y' z'
  obtain ⟨X2, hS2, hZ2, ho2⟩ := rebS hS (n1 := h.size) hk X' hS' (by rw [← eT]; exact hgr) hZ hown
  exact Goes.on (fun _ q => st.trans q) (k v T' Lc _ X2 hS2 (Nat.le_refl _) hZ2 ho2 hC hQ)
theorem Goes.callCW (X : Stand p l e R (s.setVm vm0) m args below meth c T locs cells slots) (hx : p.tables.exec = Jvm.exec) (hZ : Z.Warmed39 (s.setVm vm0).vm) (hS : s.Since vm0 k0) (hk : k0 ≤ h.size) (hEL : EW Z a0 EL) (H : CHv Z EL vm0 h) {own : String} {index : Nat} {y : MethodName} {bytes : ByteArray} {maxL : Nat} {rm : Room} {as' : Array Value} {Q : Option Value → Heap → List Loc → Prop} (W : Nat) (hy1 : y.name = "<init>")
    (hown : (s.setVm vm0).vm.findClass own = some m.cls) (w1 : (Jvm.Cond.methodLink own index y).before a0 Z = true) (w2 : (Jvm.Cond.instanceMethod y).before a0 Z = true) (w3 : (Jvm.Cond.initialized y.cls).before a0 Z = true) (w4 : (Jvm.Cond.code y bytes maxL none).before a0 Z = true) (hy : y.cls ≠ "java/lang/invoke/MethodHandle" ∧ y.cls ≠ "java/lang/invoke/VarHandle")
    (eT : T.heap = h) (hM : PaysW l Z EL y bytes maxL none [] rm as' h Q) (hf : rm.frames + 1 ≤ R.frames) (hl : W + (maxL + 11) + rm.locals ≤ R.locals) (hc : cells + rm.cells ≤ R.cells) (hs : slots + rm.slots ≤ R.slots)
    (hg : g.method = m) (hsize : g.locals.size = c.maxLocals) {a : Addr} {argsL rest : List Value} (has : (Value.ref a :: argsL).toArray = as') (hlen : ∀ sig, parseMethodDescriptor y.desc = some sig → argsL.length = sig.parameters.length) (hstack : g.stack = argsL.reverse ++ .ref a :: rest) (hW : 2 * g.monitorRoom + (rest.map fun v => v.category).sum ≤ W)
    (hd : decode c.code g.pc = .ok (.invokespecial index, 3))
    (k : AfterW p l e R s m args below meth c Z EL own vm0 h Q locs (cells + rm.cells) (slots + rm.slots) P (fun v => { g with pc := g.pc + 3, stack := v.toList ++ rest })) : Goes p e below P T g := by
  obtain ⟨v, _, ⟨T', L', k', n'⟩, -, X', hS', hgr, ⟨Lc, hQ, l', y', z', hC⟩, st⟩ := X.specialBackS hx (y := y) hy1 hown (mvT hZ w1) (mvT hZ w2) (mvT hZ w4) hy (backOfSH (s := s) (W := W) hM hZ w4 w3 hf hl hEL H) hg hsize (Steps.refl _) (a := a) (argsL := argsL) (rest := rest) hlen hstack hW hd (fun _ _ => ⟨has, eT, hc, hs⟩)
  dsimp only [Pt.U, Pt.locs, Pt.cells, Pt.slots] at X' l' y' z' st hQ hS' hgr hC
  subst l' y' z'
  obtain ⟨X2, hS2, hZ2, ho2⟩ := rebS hS (n1 := h.size) hk X' hS' (by rw [← eT]; exact hgr) hZ hown
  exact Goes.on (fun _ q => st.trans q) (k v T' Lc _ X2 hS2 (Nat.le_refl _) hZ2 ho2 hC hQ)
end StepsW
end Jvm.Own
namespace Jvm.Own
open Sem ClassFile Op Lib Jvm.Stand Jvm.Free Jvm.LawKit Jvm.RoadKit
abbrev sI (x : Int32) : Slot := .val (.int x)
abbrev sJ (x : Int64) : Slot := .val (.long x)
abbrev sR (x : Addr) : Slot := .val (.ref x)
abbrev sD (x : UInt64) : Slot := .val (.double x)
abbrev sN : Slot := .val .null
abbrev s2 : Slot := .second
abbrev su : Slot := .unset
section Refs
variable {p : Program} {l : Launch} {e : Env} {R : Room} {s : State} {m : MethodId} {args : Array Value} {below : List Frame} {meth : Method} {c : Code} {T T' : State} {locs : List Loc} {cells slots : Nat} {Z : State} {a0 : Array Value} {h h' : Heap} {g g' : JFrame} {a b : Addr} {j : Int32} {rest : List Value}
/-- getfield at an entry that is resolved already (fieldRef) -/
theorem getFR (X : Stand p l e R s m args below meth c T locs cells slots) (hx : p.tables.exec = Jvm.exec) (hZ : Z.Warmed39 s.vm) {own O n d : String} {index : Nat} (hown : s.vm.findClass own = some m.cls) (w : (Jvm.Cond.fieldRef own index O n d).before a0 Z = true)
    (eT : T.heap = h) {v : Value} (F : Fld Z h a O n d v) (hg : g.method = m) (hs : g.stack = .ref a :: rest) (hd : decode c.code g.pc = .ok (.getfield index, 3)) {t : State}
    (k : Steps p.tables e below (T.setTop { g with pc := g.pc + 3, stack := v :: rest }) t) : Steps p.tables e below (T.setTop g) t := by
  have hT : Z.Warmed39 T.vm := wtrans hZ X.warmed
  obtain ⟨cf', k', i', f', hi', hready⟩ := Cond.fieldRef_spec (s := Z.setVm T.vm) (cur := m.cls) (by show T.vm.findClass own = _; rw [X.warmed.alike.findClass]; exact hown) (Cond.fieldRef_warmed39 hT w)
  obtain ⟨cell, cf, kk, i, f, h1, h2, h3, h4, -, -, h7⟩ := F
  obtain ⟨k2, hi, -⟩ := State.fieldFound?_setVm (s := Z) hT.alike h2
  cases hi.symm.trans hi'
  exact (X.getfieldR hx hg hready h3 hs (by rw [eT]; exact h1) h4 h7 hd (Steps.refl _)).trans k
theorem getFRm (X : Stand p l e R s m args below meth c T locs cells slots) (hx : p.tables.exec = Jvm.exec) (hZ : Z.Warmed39 s.vm) {own O n d : String} {index : Nat} (hown : s.vm.findClass own = some m.cls) (w : (Jvm.Cond.fieldRef own index O n d).before a0 Z = true)
    (eT : T.heap = h) {v : Value} (F : Fld Z h a O n d v) {pc : Nat} {Ls : Array Slot} (hd : decode c.code pc = .ok (.getfield index, 3)) {t : State}
    (k : Steps p.tables e below (T.setTop (mkF m (pc + 3) Ls (v :: rest))) t) : Steps p.tables e below (T.setTop (mkF m pc Ls (.ref a :: rest))) t :=
  getFR (g := mkF m pc Ls (.ref a :: rest)) X hx hZ hown w eT F rfl rfl hd k
/-- putfield at an entry that is resolved already (fieldRef) -/
theorem putFR (X : Stand p l e R s m args below meth c T locs cells slots) (hx : p.tables.exec = Jvm.exec) (hZ : Z.Warmed39 s.vm) {own O n d C : String} {index kk : Nat} {ty : FieldType} (hown : s.vm.findClass own = some m.cls) (w : (Jvm.Cond.fieldRef own index O n d).before a0 Z = true)
    (eT : T.heap = h) {v old : Value} (F : Fld Z h a O n d old) (E : Exa Z h a C) (L : (Jvm.Cond.lays C O n d).before a0 Z = true) (wi : (Jvm.Cond.instantiable C kk).before a0 Z = true)
    (hty : parseFieldDescriptor d = some ty) (hn : narrow ty v = v) (hf : fits ty v = true) (hg : g.method = m) (hs : g.stack = v :: .ref a :: rest) (hd : decode c.code g.pc = .ok (.putfield index, 3)) :
    ∃ T' h', Stand p l e R s m args below meth c T' (locs ++ [⟨a, RoadKit.slotOf Z O n d⟩]) cells slots ∧ T'.heap = h' ∧ Wr h h' a (RoadKit.slotOf Z O n d) v ∧ ∀ target, Steps p.tables e below (T'.setTop { g with pc := g.pc + 3, stack := rest }) target → Steps p.tables e below (T.setTop g) target := by
  have hT : Z.Warmed39 T.vm := wtrans hZ X.warmed
  obtain ⟨cf', k', i', f', hi', hready⟩ := Cond.fieldRef_spec (s := Z.setVm T.vm) (cur := m.cls) (by show T.vm.findClass own = _; rw [X.warmed.alike.findClass]; exact hown) (Cond.fieldRef_warmed39 hT w)
  obtain ⟨cell, cf, kf, i, f, h1, h2, h3, h4, h5, -, h7⟩ := F
  obtain ⟨k2, hi, -⟩ := State.fieldFound?_setVm (s := Z) hT.alike h2
  cases hi.symm.trans hi'
  obtain ⟨cell', kc, e1, e2, e3, -⟩ := E
  cases h1.symm.trans e1
  obtain ⟨c1, k1, c2, k3, j1, f1, b1, b2, b3, -, b5, -, b7, -⟩ := Cond.lays_spec L
  cases h2.symm.trans b3
  cases e2.symm.trans b1
  cases e3.symm.trans b2
  obtain ⟨c3, k4, d1, d2, d3, -⟩ := Cond.instantiable_spec wi
  cases e2.symm.trans d1
  cases e3.symm.trans d2
  have ht := (State.fieldFound?_type h2 hty).2
  have hlt := (Array.getElem?_eq_some_iff.mp h7).1
  have hfit : T.fitsSlot cell.cls cell.vm f'.slot v = true := by
    rw [Joins.fitsSlot_plain h5]
    exact fresh_fits hT.alike e3 d3 b7 (by rw [ht]; exact hf)
  obtain ⟨X', st⟩ := X.putfieldReady hx hready h3 (Or.inl b5) (by rw [eT]; exact h1) h4 hlt (by rw [ht]; exact hn) hfit hg hs hd
  have es : RoadKit.slotOf Z O n d = f'.slot := by simp [RoadKit.slotOf, h2]
  rw [es]
  exact ⟨_, _, X', rfl, ⟨cell, h1, h5, hlt, by rw [← eT]; rfl⟩, st⟩
/-- an array of objects of the class C -/
def Rbk (Z : State) (h : Heap) (b : Addr) (C : String) (n : Nat) (f : Nat → Value) : Prop := ∃ c : Cell, Arr Z h b c (.object C) ∧ Ovr Z c.cls C ∧ c.slots.size = n ∧ (∀ i, i < n → c.slots[i]? = some (f i)) ∧ ∀ i, (f i).isRef = true
variable {C : String} {n : Nat} {f : Nat → Value}
theorem Rbk.lt (F : Rbk Z h a C n f) : a < h.size := by obtain ⟨c, A, -⟩ := F; exact A.lt
theorem Rbk.ext (F : Rbk Z h a C n f) (E : Ext h h') : Rbk Z h' a C n f := by obtain ⟨c, A, r⟩ := F; exact ⟨c, A.ext E, r⟩
theorem Rbk.other {sl : Nat} {v : Value} (F : Rbk Z h b C n f) (W : Wr h h' a sl v) (q : b ≠ a) : Rbk Z h' b C n f := by obtain ⟨c, A, r⟩ := F; exact ⟨c, A.other W q, r⟩
theorem Rbk.keep {ws : List Addr} (F : Rbk Z h a C n f) (K : Keep h h' ws) (q : a ∉ ws) : Rbk Z h' a C n f := by obtain ⟨c, A, r⟩ := F; exact ⟨c, ⟨K.2.1 a c A.1 q, A.2⟩, r⟩
theorem Rbk.new {cA : ClassId} {z : Int32} (A : Arr Z h a (newA cA (.object C) z) (.object C)) (O : Ovr Z cA C) : Rbk Z h a C z.toNatClampNeg (fun _ => .null) :=
  ⟨_, A, O, sz_new _ _ _, fun i hi => by simp [newA, hi, defaultValue], fun _ => rfl⟩
theorem ldR (X : Stand p l e R s m args below meth c T locs cells slots) (hx : p.tables.exec = Jvm.exec) (hZ : Z.Warmed39 s.vm) (eT : T.heap = h) (F : Rbk Z h a C n f) (hj : ¬ j < 0 ∧ j.toNatClampNeg < n) (hg : g.method = m) (hs : g.stack = .int j :: .ref a :: rest) (hd : decode c.code g.pc = .ok (.aaload, 1)) {t : State}
    (k : Steps p.tables e below (T.setTop { g with pc := g.pc + 1, stack := f j.toNatClampNeg :: rest }) t) : Steps p.tables e below (T.setTop g) t := by
  obtain ⟨cl, A, O, S, H, -⟩ := F
  exact X.aaload hx (by rw [eT]; exact A.1) (State.isArrayOf_alike hZ.alike A.2.1) rfl A.2.2 (Arf.inb S hj) (H _ hj.2) hg hs hd t k
theorem ldRm (X : Stand p l e R s m args below meth c T locs cells slots) (hx : p.tables.exec = Jvm.exec) (hZ : Z.Warmed39 s.vm) (eT : T.heap = h) (F : Rbk Z h a C n f) (hj : ¬ j < 0 ∧ j.toNatClampNeg < n) {pc : Nat} {Ls : Array Slot} (hd : decode c.code pc = .ok (.aaload, 1)) {t : State}
    (k : Steps p.tables e below (T.setTop (mkF m (pc + 1) Ls (f j.toNatClampNeg :: rest))) t) : Steps p.tables e below (T.setTop (mkF m pc Ls (.int j :: .ref a :: rest))) t :=
  ldR (g := mkF m pc Ls (.int j :: .ref a :: rest)) X hx hZ eT F hj rfl rfl hd k
theorem lenR (X : Stand p l e R s m args below meth c T locs cells slots) (hx : p.tables.exec = Jvm.exec) (hZ : Z.Warmed39 s.vm) (eT : T.heap = h) (F : Rbk Z h a C n f) (hg : g.method = m) (hs : g.stack = .ref a :: rest) (hd : decode c.code g.pc = .ok (.arraylength, 1)) {t : State}
    (k : Steps p.tables e below (T.setTop { g with pc := g.pc + 1, stack := .int n.toInt32 :: rest }) t) : Steps p.tables e below (T.setTop g) t := by
  obtain ⟨cl, A, O, S, H, -⟩ := F
  exact X.arraylength hx (by rw [eT]; exact A.1) (State.isArrayOf_alike hZ.alike A.2.1) hg hs hd t (by rw [S]; exact k)
theorem lenRm (X : Stand p l e R s m args below meth c T locs cells slots) (hx : p.tables.exec = Jvm.exec) (hZ : Z.Warmed39 s.vm) (eT : T.heap = h) (F : Rbk Z h a C n f) {pc : Nat} {Ls : Array Slot} (hd : decode c.code pc = .ok (.arraylength, 1)) {t : State}
    (k : Steps p.tables e below (T.setTop (mkF m (pc + 1) Ls (.int n.toInt32 :: rest))) t) : Steps p.tables e below (T.setTop (mkF m pc Ls (.ref a :: rest))) t :=
  lenR (g := mkF m pc Ls (.ref a :: rest)) X hx hZ eT F rfl rfl hd k
theorem wrR {v : Value} (X : Stand p l e R s m args below meth c T locs cells slots) (hx : p.tables.exec = Jvm.exec) (hZ : Z.Warmed39 s.vm) (eT : T.heap = h) (F : Rbk Z h a C n f) (I : v = .null ∨ ∃ y, v = .ref y ∧ Ins Z h y C true) (hj : ¬ j < 0 ∧ j.toNatClampNeg < n) (hg : g.method = m) (hs : g.stack = v :: .int j :: .ref a :: rest) (hd : decode c.code g.pc = .ok (.aastore, 1)) :
    ∃ T' h', Stand p l e R s m args below meth c T' (locs ++ [⟨a, j.toNatClampNeg⟩]) cells slots ∧ T'.heap = h' ∧ Wr h h' a j.toNatClampNeg v ∧ Rbk Z h' a C n (Upd f j.toNatClampNeg v) ∧ ∀ target, Steps p.tables e below (T'.setTop { g with pc := g.pc + 1, stack := rest }) target → Steps p.tables e below (T.setTop g) target := by
  obtain ⟨cl, A, O, S, H, r⟩ := F
  have hsto : Sto Z h a v := by
    rcases I with q | ⟨y, q, I⟩
    · exact Or.inl q
    · rw [q]; exact Sto.of A O I
  have hv : v.isRef = true := by
    rcases I with q | ⟨y, q, -⟩ <;> rw [q] <;> rfl
  obtain ⟨T', h', X', e', W, st⟩ := stR X hx hZ eT A (Arf.inb S hj) rfl hsto hg hs hd
  refine ⟨T', h', X', e', W, ⟨_, A.same W, O, (sz_set _ _ _).trans S, fun i hi => ?_, fun i => ?_⟩, st⟩
  · by_cases q : i = j.toNatClampNeg
    · subst q; simp [Cell.setSlot, Upd, S, hi]
    · have : ((cl.setSlot j.toNatClampNeg v).slots)[i]? = cl.slots[i]? := Array.getElem?_setIfInBounds_ne (Ne.symm q)
      rw [this, H i hi]; simp [Upd, q]
  · unfold Upd; split
    · exact hv
    · exact r i
theorem Arf.same {α : Type} {con : α → Value} {ty : FieldType} {f f' : Nat → α} (F : Arf Z h b ty con n f) (q : ∀ i, f' i = f i) : Arf Z h b ty con n f' := by
  obtain rfl : f' = f := funext q
  exact F
theorem Rbk.safe {EL : List (String × Nat)} {vm : Vm} (hal : Z.vm.Alike vm) (F : Rbk Z h a C n f) : Safe Z EL vm h a := by
  obtain ⟨c, A, -⟩ := F
  exact Safe.arr hal A (fun q => by cases q)
theorem Rbk.sto {y : Addr} (F : Rbk Z h a C n f) (I : Ins Z h y C true) : Sto Z h a (.ref y) := by
  obtain ⟨c, A, O, -⟩ := F
  exact Sto.of A O I
theorem cpL {f : Nat → Value} {sp dp len i : Nat} (h5 : dp + len ≤ n) (hi : i < n) (d : Value) :
    (((List.range n).map f).take dp ++ ((List.range len).map fun i => f (sp + i)) ++ ((List.range n).map f).drop (dp + len)).getD i d = if dp ≤ i ∧ i < dp + len then f (sp + (i - dp)) else f i := by
  by_cases q : i < dp
  · rw [if_neg (by omega)]
    have q4 : min dp n = dp := by omega
    simp [List.getD, List.getElem?_append, q, hi, q4]
    done
  · by_cases q2 : i < dp + len
    · rw [if_pos ⟨by omega, q2⟩]
      have q3 : i - dp < len := by omega
      have q4 : min dp n = dp := by omega
      simp [List.getD, List.getElem?_append, q, q2, q3, q4]
    · rw [if_neg (by omega)]
      have q3 : ¬ i - dp < len := by omega
      have q4 : min dp n = dp := by omega
      have q5 : dp + len + (i - (dp + len)) = i := by omega
      have q6 : i - dp - len = i - (dp + len) := by omega
      simp [List.getD, List.getElem?_append, q, q2, q3, q4, q5, q6, hi]
/-- System.arraycopy(b, sp, b, dp, len) in an array of objects -/
theorem acR (X : Stand p l e R s m args below meth c T locs cells slots) (hx : p.tables.exec = Jvm.exec) (hZ : Z.Warmed39 s.vm) {own : String} {index : Nat} (hown : s.vm.findClass own = some m.cls)
    (w1 : (Jvm.Cond.methodLink own index Jvm.Stand.acN).before a0 Z = true) (w2 : (Jvm.Cond.native Jvm.Stand.acN).before a0 Z = true) (w3 : (Jvm.Cond.static Jvm.Stand.acN).before a0 Z = true) (w4 : (Jvm.Cond.initialized "java/lang/System").before a0 Z = true) (eT : T.heap = h)
    (F : Rbk Z h b C n f) {sp dp nn : Int32} {sp' dp' len : Nat} (q1 : ¬ sp < 0 ∧ sp.toNatClampNeg = sp') (q2 : ¬ dp < 0 ∧ dp.toNatClampNeg = dp') (q3 : ¬ nn < 0 ∧ nn.toNatClampNeg = len) (h4 : sp' + len ≤ n) (h5 : dp' + len ≤ n) (hn : n < 2 ^ 31) (hst : StoL Z h b ((List.range len).map fun i => f (sp' + i))) {n0 : Nat} (N : Fr n0 locs) (ge : n0 ≤ b)
    (hg : g.method = m) (hsize : g.locals.size = c.maxLocals) (hs : g.stack = .int nn :: .int dp :: .ref b :: .int sp :: .ref b :: rest) (hd : decode c.code g.pc = .ok (.invokestatic index, 3))
    (hfr : 1 ≤ R.frames) {W : Nat} (hW : 2 * g.monitorRoom + (rest.map fun v => v.category).sum ≤ W) (hlo : W + (nativeFrameWords "java/lang/System" "arraycopy" 5 + 11) ≤ R.locals) :
    ∃ T' h' L, Stand p l e R s m args below meth c T' L cells slots ∧ T'.heap = h' ∧ Fr n0 L ∧ Keep h h' [b] ∧ Rbk Z h' b C n (fun i => if dp' ≤ i ∧ i < dp' + len then f (sp' + (i - dp')) else f i) ∧
      ∀ target, Steps p.tables e below (T'.setTop { g with pc := g.pc + 3, stack := rest }) target → Steps p.tables e below (T.setTop g) target := by
  obtain ⟨cl, A, O, S, H, r⟩ := F
  have V : Arv Z h b cl.cls (.object C) n.toInt32 ((List.range n).map f) .null := by
    refine ⟨cl, A, rfl, by rw [nat32 hn, S], pos32 hn, fun i hi => ?_, fun i hi => ?_⟩
    · rw [S] at hi; rw [H i hi]; simp [List.getD, hi]
    · rw [S] at hi; simp [List.getD, hi]; exact fitR rfl (r i)
  obtain ⟨T', h', L, X', e', F', K', V', st⟩ := cpA X hx hZ hown w1 w2 w3 w4 eT V V (us := (List.range len).map fun i => f (sp' + i)) (Or.inr ⟨rfl, rfl, hst⟩) (sp := sp) (dp := dp) (nn := nn) q1.1 q2.1 q3.1 (by rw [q1.2, q3.2, nat32 hn]; exact h4) (by rw [q2.2, q3.2, nat32 hn]; exact h5)
    (by rw [q1.2, q3.2]; refine List.map_congr_left fun i hi => ?_
        have hi2 := List.mem_range.mp hi
        have q : sp' + i < n := by omega
        simp [List.getD, q]) (by rw [q2.2, q3.2]; simp; exact h5) N ge hg hsize hs hd hfr hW hlo
  obtain ⟨c', A', q', S', -, H', -⟩ := V'
  rw [nat32 hn] at S'
  refine ⟨T', h', L, X', e', F', K', ⟨c', A', by rw [q']; exact O, S', fun i hi => ?_, fun i => ?_⟩, st⟩
  · rw [H' i (by rw [S']; exact hi), q2.2, q3.2, cpL h5 hi]
  · show (if _ then _ else _ : Value).isRef = true
    split
    · exact r _
    · exact r _
/-- the same in an array of numbers -/
theorem acA {α : Type} {con : α → Value} {ty : FieldType} {f : Nat → α} (X : Stand p l e R s m args below meth c T locs cells slots) (hx : p.tables.exec = Jvm.exec) (hZ : Z.Warmed39 s.vm) {own : String} {index : Nat} (hown : s.vm.findClass own = some m.cls)
    (w1 : (Jvm.Cond.methodLink own index Jvm.Stand.acN).before a0 Z = true) (w2 : (Jvm.Cond.native Jvm.Stand.acN).before a0 Z = true) (w3 : (Jvm.Cond.static Jvm.Stand.acN).before a0 Z = true) (w4 : (Jvm.Cond.initialized "java/lang/System").before a0 Z = true) (eT : T.heap = h)
    (F : Arf Z h b ty con n f) (hty : refKind ty = false) (hf : ∀ x, fits ty (con x) = true) {sp dp nn : Int32} {sp' dp' len : Nat} (q1 : ¬ sp < 0 ∧ sp.toNatClampNeg = sp') (q2 : ¬ dp < 0 ∧ dp.toNatClampNeg = dp') (q3 : ¬ nn < 0 ∧ nn.toNatClampNeg = len) (h4 : sp' + len ≤ n) (h5 : dp' + len ≤ n) (hn : n < 2 ^ 31) {n0 : Nat} (N : Fr n0 locs) (ge : n0 ≤ b)
    (hg : g.method = m) (hsize : g.locals.size = c.maxLocals) (hs : g.stack = .int nn :: .int dp :: .ref b :: .int sp :: .ref b :: rest) (hd : decode c.code g.pc = .ok (.invokestatic index, 3))
    (hfr : 1 ≤ R.frames) {W : Nat} (hW : 2 * g.monitorRoom + (rest.map fun v => v.category).sum ≤ W) (hlo : W + (nativeFrameWords "java/lang/System" "arraycopy" 5 + 11) ≤ R.locals) :
    ∃ T' h' L, Stand p l e R s m args below meth c T' L cells slots ∧ T'.heap = h' ∧ Fr n0 L ∧ Keep h h' [b] ∧ Arf Z h' b ty con n (fun i => if dp' ≤ i ∧ i < dp' + len then f (sp' + (i - dp')) else f i) ∧
      ∀ target, Steps p.tables e below (T'.setTop { g with pc := g.pc + 3, stack := rest }) target → Steps p.tables e below (T.setTop g) target := by
  obtain ⟨k, V⟩ := F.arv hn hf .null
  obtain ⟨T', h', L, X', e', F', K', V', st⟩ := cpA X hx hZ hown w1 w2 w3 w4 eT V V (us := (List.range len).map fun i => con (f (sp' + i))) (Or.inl ⟨rfl, hty⟩) (sp := sp) (dp := dp) (nn := nn) q1.1 q2.1 q3.1 (by rw [q1.2, q3.2, nat32 hn]; exact h4) (by rw [q2.2, q3.2, nat32 hn]; exact h5)
    (by rw [q1.2, q3.2]; refine List.map_congr_left fun i hi => ?_
        have hi2 := List.mem_range.mp hi
        have q : sp' + i < n := by omega
        simp [List.getD, q]) (by rw [q2.2, q3.2]; simp; exact h5) N ge hg hsize hs hd hfr hW hlo
  refine ⟨T', h', L, X', e', F', K', Arv.arf V' (nat32 hn) fun i hi => ?_, st⟩
  rw [q2.2, q3.2, cpL (f := fun i => con (f i)) h5 hi]
  split
  · rfl
  · rfl
/-- an instance method that the entry names through a subclass (sameMethod) -/
theorem Goes.callU {P : Outcome → State → Prop} (X : Stand p l e R s m args below meth c T locs cells slots) (hx : p.tables.exec = Jvm.exec) (hZ : Z.Warmed39 s.vm) {own C owner : String} {index : Nat} {y z : MethodName} {bytes : ByteArray} {maxL : Nat} {ret : Option FieldType} {rm : Room} {as' : Array Value} {Q : Option Value → Heap → List Loc → Prop} (W : Nat)
    (hown : s.vm.findClass own = some m.cls) (w1 : (Jvm.Cond.methodLink own index y).before a0 Z = true) (w7 : (Jvm.Cond.sameMethod y.cls owner y.name y.desc).before a0 Z = true) (w2 : (Jvm.Cond.declares ⟨owner, y.name, y.desc⟩).before a0 Z = true) (hy : owner ≠ "java/lang/invoke/MethodHandle" ∧ owner ≠ "java/lang/invoke/VarHandle") (w5 : (Jvm.Cond.selects C y z).before a0 Z = true) (w6 : (Jvm.Cond.instanceMethod z).before a0 Z = true) (w3 : (Jvm.Cond.initialized z.cls).before a0 Z = true) (w4 : (Jvm.Cond.code z bytes maxL ret).before a0 Z = true)
    (eT : T.heap = h) {a : Addr} (E : Exa Z h a C) (hM : Pays l Z z bytes maxL ret [] rm as' h Q) (hf : rm.frames + 1 ≤ R.frames) (hl : W + (maxL + 11) + rm.locals ≤ R.locals) (hc : cells + rm.cells ≤ R.cells) (hs : slots + rm.slots ≤ R.slots)
    (hg : g.method = m) (hsize : g.locals.size = c.maxLocals) {argsL rest : List Value} (has : (Value.ref a :: argsL).toArray = as') (hlen : ∀ sig, parseMethodDescriptor y.desc = some sig → argsL.length = sig.parameters.length) (hstack : g.stack = argsL.reverse ++ .ref a :: rest) (hW : 2 * g.monitorRoom + (rest.map fun v => v.category).sum ≤ W)
    (hd : decode c.code g.pc = .ok (.invokevirtual index, 3))
    (k : ∀ v T' L, Stand p l e R s m args below meth c T' (locs ++ L) (cells + rm.cells) (slots + rm.slots) → Q v T'.heap L → Goes p e below P T' { g with pc := g.pc + 3, stack := v.toList ++ rest }) : Goes p e below P T g := by
  obtain ⟨cq, kq, qa, qb, qc⟩ := isOf hZ eT E
  obtain ⟨v, _, ⟨T', L', k', n'⟩, -, X', ⟨Lc, hQ, l', y', z'⟩, st⟩ := X.virtualBackUp hx (x := y) (y := z) hown (mvT hZ w1) (mvT hZ w7) (mvT hZ w2) hy (mvT hZ w5) (mvT hZ w6) (backOf (W := W) hM hZ w4 w3 hf hl) qa qc hg hsize (Steps.refl _) (argsL := argsL) (rest := rest) hlen hstack hW hd (fun _ _ => ⟨has, eT, hc, hs⟩)
  dsimp only [Pt.U, Pt.locs, Pt.cells, Pt.slots] at X' l' y' z' st hQ
  subst l' y' z'
  exact Goes.on (fun _ q => st.trans q) (k v T' Lc X' hQ)
/-- a class in which some method is selected is no interface -/
theorem own_nf {s : State} {C : String} {x y z : MethodName} (hsel : (Jvm.Cond.selects C x z).before #[] s = true) (hc : y.cls = z.cls) : NotFace s y := fun r0 h0 => by
  obtain ⟨c2, r2, m2, q1, q2, q3, q4, kP, hkP, hkPi⟩ := Cond.selects_spec hsel
  unfold State.methodNamed? at h0 q3
  simp only [Option.bind_eq_bind, Option.bind_eq_some_iff, Option.pure_def, Option.some.injEq] at h0 q3
  obtain ⟨c, hc1, k, hk, i, hi, rfl⟩ := h0
  obtain ⟨c', hc1', k', hk', i', hi', rfl⟩ := q3
  rw [hc] at hc1
  cases hc1.symm.trans hc1'
  exact ⟨kP, hkP, hkPi⟩
end Refs
end Jvm.Own
namespace Jvm.Own
open Sem ClassFile Op Lib Jvm.Stand Jvm.Free Jvm.LawKit Jvm.RoadKit
section Grow
variable {p : Program} {l : Launch} {e : Env} {R : Room} {s : State} {m : MethodId} {args : Array Value} {below : List Frame} {meth : Method} {c : Code} {T T' : State} {locs : List Loc} {cells slots : Nat} {Z : State} {a0 : Array Value} {h h' : Heap} {g g' : JFrame} {a b : Addr} {n n' : Nat} {rest : List Value}
def Cp {α : Type} (f' f : Nat → α) (sp dp len : Nat) : Nat → α := fun i => if dp ≤ i ∧ i < dp + len then f (sp + (i - dp)) else f' i
def Shf {α : Type} (f : Nat → α) (k n : Nat) : Nat → α := fun i => if k + 1 ≤ i ∧ i < k + 1 + n then f (k + (i - (k + 1))) else f i
theorem Rbk.neE {C D : String} {f : Nat → Value} {k : Nat} (F : Rbk Z h b C n f) (E : Exa Z h a D) (wi : (Jvm.Cond.instantiable D k).before a0 Z = true) : a ≠ b := by
  obtain ⟨c, A, -⟩ := F
  exact ne_arr E wi A
theorem Arf.neE {α : Type} {con : α → Value} {ty : FieldType} {D : String} {f : Nat → α} {k : Nat} (F : Arf Z h b ty con n f) (E : Exa Z h a D) (wi : (Jvm.Cond.instantiable D k).before a0 Z = true) : a ≠ b := by
  obtain ⟨c, A, -⟩ := F
  exact ne_arr E wi A
theorem rk_ne {C : String} {f : Nat → Value} {α : Type} {con : α → Value} {f' : Nat → α} (F : Rbk Z h a C n f) (G : Arf Z h b .long con n' f') : a ≠ b := by
  rintro rfl
  obtain ⟨c, A, -⟩ := F
  obtain ⟨c', A', -⟩ := G
  cases A.1.symm.trans A'.1
  obtain ⟨-, k, hk, comp, hkind⟩ := A.2.1
  obtain ⟨-, k', hk', comp', hkind'⟩ := A'.2.1
  cases hk.symm.trans hk'
  rw [hkind] at hkind'
  cases hkind'
theorem Pays.imp {y : MethodName} {bytes : ByteArray} {maxL : Nat} {ret : Option FieldType} {ws : List Jvm.Cond} {rm : Room} {as : Array Value} {h0 : Heap} {Q Q' : Option Value → Heap → List Loc → Prop} (F : Pays l Z y bytes maxL ret ws rm as h0 Q) (hq : ∀ v h L, Q v h L → Q' v h L) : Pays l Z y bytes maxL ret ws rm as h0 Q' :=
  MetFree.imp F fun _ _ _ _ ⟨v, L, e, q, r⟩ => ⟨v, L, e, hq _ _ _ q, r⟩
theorem Goes.joinTP {P : Outcome → State → Prop} {C : Addr → Prop} (X : Stand p l e R s m args below meth c T locs cells slots) {fr : Addr → JFrame} (k : ∀ z T', Stand p l e R s m args below meth c T' locs cells slots → T'.heap = h → C z → Goes p e below P T' (fr z)) (u : (∀ z T', Stand p l e R s m args below meth c T' locs cells slots → T'.heap = h → C z → Goes p e below P T' (fr z)) → Goes p e below P T g) : Goes p e below P T g := u k
theorem Goes.joinW {P : Outcome → State → Prop} {EL : List (String × Nat)} {vm0 : Vm} {n0 C N : Nat} {h1 : Heap} {QJ : Addr → Heap → Prop} {own : String} (X : Stand p l e R (s.setVm vm0) m args below meth c T locs cells slots) {fr : Addr → JFrame}
    (k : ∀ (r : Addr) (vm' : Vm) (T' : State) (locs' : List Loc) (k' : Nat), Stand p l e R (s.setVm vm') m args below meth c T' locs' C N → s.Since vm' k' → k' ≤ T'.heap.size → Z.Warmed39 (s.setVm vm').vm → (s.setVm vm').vm.findClass own = some m.cls → CHr Z EL s.vm h1 vm' T'.heap → Fr n0 locs' → QJ r T'.heap → Goes p e below P T' (fr r))
    (u : (∀ (r : Addr) (vm' : Vm) (T' : State) (locs' : List Loc) (k' : Nat), Stand p l e R (s.setVm vm') m args below meth c T' locs' C N → s.Since vm' k' → k' ≤ T'.heap.size → Z.Warmed39 (s.setVm vm').vm → (s.setVm vm').vm.findClass own = some m.cls → CHr Z EL s.vm h1 vm' T'.heap → Fr n0 locs' → QJ r T'.heap → Goes p e below P T' (fr r)) → Goes p e below P T g) : Goes p e below P T g := u k
end Grow
end Jvm.Own
namespace Jvm.Pilot.@@N@@
open Jvm Jvm.ClassFile Sem Op Lib Jvm.Free Jvm.Stand Jvm.LawKit Jvm.RoadKit Bundle Jvm.Own Jvm.Pilot.@@N@@.Jvm.D
set_option maxRecDepth 65536
set_option maxHeartbeats 40000000
abbrev TW (Z : State) (a0 : Array Value) : Prop := ∀ d ∈ tables_1, d.before a0 Z = true
theorem own_le20 {W n : Nat} (h : n = W) : 2 * 0 + n ≤ W := by omega
theorem own_neG {b a n : Addr} (x : b < n) (g : a = n) : b ≠ a := Nat.ne_of_lt (Nat.lt_of_lt_of_le x (Nat.le_of_eq g.symm))
theorem own_neL {b a n : Addr} (x : b < n) (g : n ≤ a) : b ≠ a := Nat.ne_of_lt (Nat.lt_of_lt_of_le x g)
theorem own_leW {h h' : Heap} {a : Addr} {sl n : Nat} {v : Value} (W : Wr h h' a sl v) (z : n ≤ h.size) : n ≤ h'.size := by rw [W.size]; exact z
theorem own_w {Z : State} {a0 : Array Value} (hw : TW Z a0) (i : Nat) {d : Jvm.Cond} (h : tables_1[i]? = some d) : d.before a0 Z = true := hw d (List.mem_of_getElem? h)
abbrev k0C : String := "com/example/uncross/uncross/engine/BookSide"
abbrev k1C : String := "com/example/uncross/uncross/engine/BookSide$Resting"
abbrev k2C : String := "com/example/uncross/uncross/engine/BookSide$Level"
abbrev k3C : String := "com/example/uncross/uncross/model/Order"
abbrev k4C : String := "Lcom/example/uncross/uncross/engine/BookSide$Resting;"
abbrev k5C : String := "Lcom/example/uncross/uncross/engine/BookSide$Level;"
abbrev k6C : String := "[Lcom/example/uncross/uncross/engine/BookSide$Level;"
abbrev k7C : String := "Lcom/example/uncross/uncross/model/Order;"
abbrev k8C : String := "Ljava/util/OptionalLong;"
abbrev k9C : String := "Ljava/util/TreeMap;"
abbrev k10C : String := "Lcom/example/uncross/uncross/model/Side;"
abbrev k11C : String := "java/util/OptionalLong"
abbrev k12C : String := "java/util/TreeMap"
theorem own_wS {Z : State} {a0 : Array Value} (hw : TW Z a0) : ∀ d ∈ Bundle.stringAtoms, d.before a0 Z = true := by
  intro d hd
  simp only [Bundle.stringAtoms, List.mem_cons, List.not_mem_nil, or_false] at hd
  rcases hd with rfl | rfl | rfl | rfl | rfl | rfl | rfl
  · exact own_w hw 16 rfl
  · exact own_w hw 17 rfl
  · exact own_w hw 18 rfl
  · exact own_w hw 19 rfl
  · exact own_w hw 20 rfl
  · exact own_w hw 21 rfl
  · exact own_w hw 22 rfl
theorem own_EW {Z : State} {a0 : Array Value} (hw : TW Z a0) : EW Z a0 consts_1 := (EW.cons (own_w hw 15 rfl) (by decide) (EW.cons (own_w hw 162 rfl) (by decide) (EW.cons (own_w hw 163 rfl) (by decide) (EW.cons (own_w hw 49 rfl) (by decide) (EW.cons (own_w hw 57 rfl) (by decide) (EW.cons (own_w hw 108 rfl) (by decide) (EW.cons (own_w hw 134 rfl) (by decide) EW.nil)))))))
theorem own_lt1 {P : Nat → Prop} (h0 : P 0) : ∀ i, i < 1 → P i := by
  intro i hi
  obtain rfl : i = 0 := by omega
  exact h0
theorem own_lt2 {P : Nat → Prop} (h0 : P 0) (h1 : P 1) : ∀ i, i < 2 → P i := by
  intro i hi
  by_cases q : i = 0
  · subst q; exact h0
  · obtain rfl : i = 1 := by omega
    exact h1
theorem own_is1 {z : Int32} {p : Prop} (hP : z = 1 ↔ p) (h : p) : some (Value.int 1) = some (Value.int z) := by rw [hP.mpr h]
theorem own_is0 {z : Int32} {p : Prop} (hz : z = 0 ∨ z = 1) (hP : z = 1 ↔ p) (h : ¬ p) : some (Value.int 0) = some (Value.int z) := by
  rcases hz with q | q
  · rw [q]
  · exact absurd (hP.mp q) h
theorem own_nz {z : Int32} (hz : z = 0 ∨ z = 1) (h : ¬ z = 0) : some (Value.int 1) = some (Value.int z) := by
  rcases hz with q | q
  · exact absurd q h
  · rw [q]
theorem own_z {z : Int32} (h : z = 0) : some (Value.int 0) = some (Value.int z) := by rw [h]
theorem own_T {p : Prop} (h : p) : (1 : Int32) = 1 ↔ p := ⟨fun _ => h, fun _ => rfl⟩
theorem own_F {p : Prop} (h : ¬ p) : (0 : Int32) = 1 ↔ p := ⟨fun q => absurd q (by decide), fun q => absurd q h⟩
theorem own_s1 {u v : Int32} (h : ∀ i, i < 1 → [Value.int u].getD i (.int 0) = [Value.int v].getD i (.int 0)) : u = v := Value.int.inj (h 0 (by decide))
theorem own_s2 {u0 u1 v0 v1 : Int32} (h : ∀ i, i < 2 → [Value.int u0, Value.int u1].getD i (.int 0) = [Value.int v0, Value.int v1].getD i (.int 0)) : u0 = v0 ∧ u1 = v1 := ⟨Value.int.inj (h 0 (by decide)), Value.int.inj (h 1 (by decide))⟩
theorem own_inj {c d : Int32} (hc : ¬ c < 0 ∧ ¬ (255 : Int32) < c) (hd : ¬ d < 0 ∧ ¬ (255 : Int32) < d) (h : c.toInt8.toInt32 = d.toInt8.toInt32) : c = d := by
  have h' := congrArg Int32.toInt h
  rw [Int8.toInt_toInt32, Int8.toInt_toInt32, Int32.toInt_toInt8, Int32.toInt_toInt8, Int.bmod_def, Int.bmod_def] at h'
  have k : (255 : Int32).toInt = 255 := rfl
  have k0 : (0 : Int32).toInt = 0 := rfl
  simp only [Int32.lt_iff_toInt_lt, k, k0] at hc hd
  apply Int32.toInt_inj.mp
  split at h' <;> split at h' <;> omega
theorem own_fitN {c : Int32} (h : nar .char c = c) : fits .char (.int c) = true := by
  have := fits_nar_char c
  rwa [h] at this
theorem own_same {Z : State} {h : Heap} {r b r' b' : Addr} {k k' : ClassId} {N N' : Int32} {vs vs' : List Value} (F : Str Z h r b k N vs) (G : Str Z h r' b' k' N' vs') (e : r = r') {n : Nat} (hn : N.toNatClampNeg = n) : N'.toNatClampNeg = n ∧ ∀ i, i < n → vs.getD i (.int 0) = vs'.getD i (.int 0) := by
  subst e
  by_cases q : b = b'
  · subst q
    obtain ⟨c, A, -, S, -, H, -⟩ := F.2.2.2
    obtain ⟨c', A', -, S', -, H', -⟩ := G.2.2.2
    cases A.1.symm.trans A'.1
    exact ⟨by omega, fun i hi => Option.some.inj ((H i (by omega)).symm.trans (H' i (by omega)))⟩
  · exact absurd rfl (Fld.ne F.2.2.1 G.2.2.1 (fun z => q (Value.ref.inj z)))
abbrev c6C := jdk_30_method_1_code
theorem d6_0 : decode c6C 0 = .ok (.aload_n 0, 1) := by decide +kernel
theorem d6_1 : decode c6C 1 = .ok (.invokespecial 1, 3) := by decide +kernel
theorem d6_4 : decode c6C 4 = .ok (.return_, 1) := by decide +kernel
theorem ef_0 (m : MethodId) (x0 : Addr) : entryFrame m #[(.ref x0)] 1 = mkF m 0 #[.val (.ref x0)] [] := by first | (simp [entryFrame, mkF, argsToLocals, Value.category]; done) | rfl
theorem pn_0 : plainName "java/lang/Record" = true := by first | (simp [plainName, overriddenIn]; done) | decide +kernel
theorem rmRec (l : Launch) (Z : State) (a0 : Array Value) (hw : TW Z a0) (a : Addr) (h0 : Heap) (n0 : Nat) (Z0 : n0 ≤ h0.size) :
    Pays l Z (⟨"java/lang/Record", "<init>", "()V"⟩ : MethodName) jdk_30_method_1_code 1 none [] ({ frames := 1, cells := 0, slots := 0, locals := 12 } : Room) #[(.ref a)] h0 (fun v h L => v = none ∧ Fr n0 L ∧ h = h0) := by
  refine Pays.walk (plainFor_of_name pn_0) (fun m => ef_0 m a ) ?_
  intro p e s m below meth c T0 X0 hx hby hml hown hnm hZ e0 hret hlk
  have N0 := Fr.nil n0
  obtain ⟨T1, X1, e1, st1⟩ := initO X0 hx hZ hown (own_w hw 48 rfl) (own_w hw 34 rfl) (own_w hw 35 rfl) e0 (g := (mkF m 1 #[sR a] [(.ref a)])) rfl (by rw [hml]; rfl) rfl (hb hby d6_1) (by decide) (W := 0) (own_le20 rfl) (by decide)
  refine Goes.on (T' := T1) (g' := (mkF m 4 #[sR a] [])) (fun _ k => XS.aloadN X0.here hx rfl (hb hby d6_0) rfl rfl (st1 _ k)) ?_
  exact Goes.retV X1 hx hlk hret (hb hby d6_4) (by decide) (by decide) ⟨rfl, N0, e1⟩
abbrev c31C := jdk_71_method_1_code
theorem d31_0 : decode c31C 0 = .ok (.aload_n 0, 1) := by decide +kernel
theorem d31_1 : decode c31C 1 = .ok (.invokespecial 1, 3) := by decide +kernel
theorem d31_4 : decode c31C 4 = .ok (.return_, 1) := by decide +kernel
theorem pn_1 : plainName "java/util/AbstractMap" = true := by first | (simp [plainName, overriddenIn]; done) | decide +kernel
theorem rmAbm (l : Launch) (Z : State) (a0 : Array Value) (hw : TW Z a0) (a : Addr) (h0 : Heap) (n0 : Nat) (Z0 : n0 ≤ h0.size) :
    Pays l Z (⟨"java/util/AbstractMap", "<init>", "()V"⟩ : MethodName) jdk_71_method_1_code 1 none [] ({ frames := 1, cells := 0, slots := 0, locals := 12 } : Room) #[(.ref a)] h0 (fun v h L => v = none ∧ Fr n0 L ∧ h = h0) := by
  refine Pays.walk (plainFor_of_name pn_1) (fun m => ef_0 m a ) ?_
  intro p e s m below meth c T0 X0 hx hby hml hown hnm hZ e0 hret hlk
  have N0 := Fr.nil n0
  obtain ⟨T1, X1, e1, st1⟩ := initO X0 hx hZ hown (own_w hw 203 rfl) (own_w hw 34 rfl) (own_w hw 35 rfl) e0 (g := (mkF m 1 #[sR a] [(.ref a)])) rfl (by rw [hml]; rfl) rfl (hb hby d31_1) (by decide) (W := 0) (own_le20 rfl) (by decide)
  refine Goes.on (T' := T1) (g' := (mkF m 4 #[sR a] [])) (fun _ k => XS.aloadN X0.here hx rfl (hb hby d31_0) rfl rfl (st1 _ k)) ?_
  exact Goes.retV X1 hx hlk hret (hb hby d31_4) (by decide) (by decide) ⟨rfl, N0, e1⟩
abbrev c10C := jdk_42_method_55_code
theorem d10_0 : decode c10C 0 = .ok (.aload_n 0, 1) := by decide +kernel
theorem d10_1 : decode c10C 1 = .ok (.getfield 9, 3) := by decide +kernel
theorem d10_4 : decode c10C 4 = .ok (.arraylength, 1) := by decide +kernel
theorem d10_5 : decode c10C 5 = .ok (.ifCond .ne 7, 3) := by decide +kernel
theorem d10_12 : decode c10C 12 = .ok (.iconst 0, 1) := by decide +kernel
theorem d10_13 : decode c10C 13 = .ok (.ireturn, 1) := by decide +kernel
theorem pn_2 : plainName "java/lang/String" = true := by first | (simp [plainName, overriddenIn]; done) | decide +kernel
theorem rmEm97 (l : Launch) (Z : State) (a0 : Array Value) (hw : TW Z a0) (a : Addr)  (h0 : Heap) (n0 : Nat) (Z0 : n0 ≤ h0.size) (O0 : Old Z n0 h0) (cs : Int32) (SC : Sta Z Z.heap "java/lang/String" "COMPACT_STRINGS" "Z" (.int cs)) (hcs : ¬ cs = (0 : Int32)) (ya : Addr) (ka : ClassId) (PA : Str Z h0 a ya ka (Int32.ofNat 1) [Value.int (97 : Int32)]) :
    Pays l Z (⟨"java/lang/String", "isEmpty", "()Z"⟩ : MethodName) jdk_42_method_55_code 1 (some .boolean) [] ({ frames := 0, cells := 0, slots := 0, locals := 0 } : Room) #[(.ref a)] h0 (fun v h L => v = some (.int (0 : Int32)) ∧ Fr n0 L ∧ h = h0) := by
  refine Pays.walk (plainFor_of_name pn_2) (fun m => ef_0 m a ) ?_
  intro p e s m below meth c T0 X0 hx hby hml hown hnm hZ e0 hret hlk
  have N0 := Fr.nil n0
  have BA : Arf Z h0 ya .byte Value.int 1 (fun i => ([(97 : Int32)] : List Int32).getD i 0) := Arv.arf PA.2.2.2 (by decide) (own_lt1 rfl)
  obtain ⟨T1, X1, e1, st1⟩ := getF X0 hx hZ hown (host := "") (Or.inl (own_w hw 68 rfl)) Via.refl e0 PA.2.2.1 (g := (mkF m 1 #[sR a] [(.ref a)])) rfl rfl (hb hby d10_1)
  refine Goes.on (T' := T1) (g' := (mkF m 13 #[sR a] [(.int 0)])) (fun _ k => XS.aloadN X0.here hx rfl (hb hby d10_0) rfl rfl (st1 _ (aLenm X1 hx hZ e1 BA (hb hby d10_4) (XS.ifYes X1.here hx rfl (pc0 := 5) (pc' := 12) rfl (hb hby d10_5) rfl (XT.i0_ne_t (by decide)) (by decide) (by decide) (XS.iconst X1.here hx rfl (hb hby d10_12) k))))) ?_
  exact Goes.retB X1 hx hlk hret (Or.inl rfl) (hb hby d10_13) (by decide) (by decide) ⟨rfl, N0, e1⟩
abbrev c12C := jdk_42_method_152_code
theorem d12_0 : decode c12C 0 = .ok (.getstatic 38, 3) := by decide +kernel
theorem d12_3 : decode c12C 3 = .ok (.ifCond .eq 10, 3) := by decide +kernel
theorem d12_6 : decode c12C 6 = .ok (.aload_n 0, 1) := by decide +kernel
theorem d12_7 : decode c12C 7 = .ok (.getfield 15, 3) := by decide +kernel
theorem d12_10 : decode c12C 10 = .ok (.goto 4, 3) := by decide +kernel
theorem d12_14 : decode c12C 14 = .ok (.ireturn, 1) := by decide +kernel
theorem rmCo97 (l : Launch) (Z : State) (a0 : Array Value) (hw : TW Z a0) (a : Addr)  (h0 : Heap) (n0 : Nat) (Z0 : n0 ≤ h0.size) (O0 : Old Z n0 h0) (cs : Int32) (SC : Sta Z Z.heap "java/lang/String" "COMPACT_STRINGS" "Z" (.int cs)) (hcs : ¬ cs = (0 : Int32)) (ya : Addr) (ka : ClassId) (PA : Str Z h0 a ya ka (Int32.ofNat 1) [Value.int (97 : Int32)]) :
    Pays l Z (⟨"java/lang/String", "coder", "()B"⟩ : MethodName) jdk_42_method_152_code 1 (some .byte) [] ({ frames := 0, cells := 0, slots := 0, locals := 0 } : Room) #[(.ref a)] h0 (fun v h L => v = some (.int (0 : Int32)) ∧ Fr n0 L ∧ h = h0) := by
  refine Pays.walk (plainFor_of_name pn_2) (fun m => ef_0 m a ) ?_
  intro p e s m below meth c T0 X0 hx hby hml hown hnm hZ e0 hret hlk
  have N0 := Fr.nil n0
  have BA : Arf Z h0 ya .byte Value.int 1 (fun i => ([(97 : Int32)] : List Int32).getD i 0) := Arv.arf PA.2.2.2 (by decide) (own_lt1 rfl)
  obtain ⟨T1, X1, e1, st1⟩ := getS (host := "") X0 hx hZ hown (own_w hw 79 rfl) Via.refl e0 (Sta.ext O0.2 SC) (g := (mkF m 0 #[sR a] [])) rfl (hb hby d12_0)
  obtain ⟨T2, X2, e2, st2⟩ := getF X1 hx hZ hown (host := "") (Or.inl (own_w hw 80 rfl)) Via.refl e1 PA.2.1 (g := (mkF m 7 #[sR a] [(.ref a)])) rfl rfl (hb hby d12_7)
  refine Goes.on (T' := T2) (g' := (mkF m 14 #[sR a] [(.int 0)])) (fun _ k => st1 _ (XS.ifNo X1.here hx rfl (hb hby d12_3) rfl (XT.i0_eq_f hcs) (XS.aloadN X1.here hx rfl (hb hby d12_6) rfl rfl (st2 _ (XS.goto X2.here hx rfl (pc0 := 10) (pc' := 14) rfl (hb hby d12_10) (by decide) (by decide) k))))) ?_
  exact Goes.retY X2 hx hlk hret rfl (hb hby d12_14) (by decide) (by decide) ⟨rfl, N0, e2⟩
abbrev c14C := jdk_42_method_154_code
theorem d14_0 : decode c14C 0 = .ok (.getstatic 38, 3) := by decide +kernel
theorem d14_3 : decode c14C 3 = .ok (.ifCond .eq 14, 3) := by decide +kernel
theorem d14_6 : decode c14C 6 = .ok (.aload_n 0, 1) := by decide +kernel
theorem d14_7 : decode c14C 7 = .ok (.getfield 15, 3) := by decide +kernel
theorem d14_10 : decode c14C 10 = .ok (.ifCond .ne 7, 3) := by decide +kernel
theorem d14_13 : decode c14C 13 = .ok (.iconst 1, 1) := by decide +kernel
theorem d14_14 : decode c14C 14 = .ok (.goto 4, 3) := by decide +kernel
theorem d14_18 : decode c14C 18 = .ok (.ireturn, 1) := by decide +kernel
theorem rmIl97 (l : Launch) (Z : State) (a0 : Array Value) (hw : TW Z a0) (a : Addr)  (h0 : Heap) (n0 : Nat) (Z0 : n0 ≤ h0.size) (O0 : Old Z n0 h0) (cs : Int32) (SC : Sta Z Z.heap "java/lang/String" "COMPACT_STRINGS" "Z" (.int cs)) (hcs : ¬ cs = (0 : Int32)) (ya : Addr) (ka : ClassId) (PA : Str Z h0 a ya ka (Int32.ofNat 1) [Value.int (97 : Int32)]) :
    Pays l Z (⟨"java/lang/String", "isLatin1", "()Z"⟩ : MethodName) jdk_42_method_154_code 1 (some .boolean) [] ({ frames := 0, cells := 0, slots := 0, locals := 0 } : Room) #[(.ref a)] h0 (fun v h L => v = some (.int (1 : Int32)) ∧ Fr n0 L ∧ h = h0) := by
  refine Pays.walk (plainFor_of_name pn_2) (fun m => ef_0 m a ) ?_
  intro p e s m below meth c T0 X0 hx hby hml hown hnm hZ e0 hret hlk
  have N0 := Fr.nil n0
  have BA : Arf Z h0 ya .byte Value.int 1 (fun i => ([(97 : Int32)] : List Int32).getD i 0) := Arv.arf PA.2.2.2 (by decide) (own_lt1 rfl)
  obtain ⟨T1, X1, e1, st1⟩ := getS (host := "") X0 hx hZ hown (own_w hw 79 rfl) Via.refl e0 (Sta.ext O0.2 SC) (g := (mkF m 0 #[sR a] [])) rfl (hb hby d14_0)
  obtain ⟨T2, X2, e2, st2⟩ := getF X1 hx hZ hown (host := "") (Or.inl (own_w hw 80 rfl)) Via.refl e1 PA.2.1 (g := (mkF m 7 #[sR a] [(.ref a)])) rfl rfl (hb hby d14_7)
  refine Goes.on (T' := T2) (g' := (mkF m 18 #[sR a] [(.int 1)])) (fun _ k => st1 _ (XS.ifNo X1.here hx rfl (hb hby d14_3) rfl (XT.i0_eq_f hcs) (XS.aloadN X1.here hx rfl (hb hby d14_6) rfl rfl (st2 _ (XS.ifNo X2.here hx rfl (hb hby d14_10) rfl (XT.i0_ne_f (by decide)) (XS.iconst X2.here hx rfl (hb hby d14_13) (XS.goto X2.here hx rfl (pc0 := 14) (pc' := 18) rfl (hb hby d14_14) (by decide) (by decide) k))))))) ?_
  exact Goes.retB X2 hx hlk hret (Or.inr rfl) (hb hby d14_18) (by decide) (by decide) ⟨rfl, N0, e2⟩
abbrev c11C := jdk_42_method_54_code
theorem d11_0 : decode c11C 0 = .ok (.aload_n 0, 1) := by decide +kernel
theorem d11_1 : decode c11C 1 = .ok (.getfield 9, 3) := by decide +kernel
theorem d11_4 : decode c11C 4 = .ok (.arraylength, 1) := by decide +kernel
theorem d11_5 : decode c11C 5 = .ok (.aload_n 0, 1) := by decide +kernel
theorem pd_0 : parseMethodDescriptor "()B" = some ⟨[], some .byte⟩ := by decide +kernel
theorem d11_6 : decode c11C 6 = .ok (.invokevirtual 335, 3) := by decide +kernel
theorem d11_9 : decode c11C 9 = .ok (.ishr, 1) := by decide +kernel
theorem d11_10 : decode c11C 10 = .ok (.ireturn, 1) := by decide +kernel
theorem rmLn97 (l : Launch) (Z : State) (a0 : Array Value) (hw : TW Z a0) (a : Addr)  (h0 : Heap) (n0 : Nat) (Z0 : n0 ≤ h0.size) (O0 : Old Z n0 h0) (cs : Int32) (SC : Sta Z Z.heap "java/lang/String" "COMPACT_STRINGS" "Z" (.int cs)) (hcs : ¬ cs = (0 : Int32)) (ya : Addr) (ka : ClassId) (PA : Str Z h0 a ya ka (Int32.ofNat 1) [Value.int (97 : Int32)]) :
    Pays l Z (⟨"java/lang/String", "length", "()I"⟩ : MethodName) jdk_42_method_54_code 1 (some .int) [] ({ frames := 1, cells := 0, slots := 0, locals := 13 } : Room) #[(.ref a)] h0 (fun v h L => v = some (.int (1 : Int32)) ∧ Fr n0 L ∧ h = h0) := by
  refine Pays.walk (plainFor_of_name pn_2) (fun m => ef_0 m a ) ?_
  intro p e s m below meth c T0 X0 hx hby hml hown hnm hZ e0 hret hlk
  have BA : Arf Z h0 ya .byte Value.int 1 (fun i => ([(97 : Int32)] : List Int32).getD i 0) := Arv.arf PA.2.2.2 (by decide) (own_lt1 rfl)
  obtain ⟨T1, X1, e1, st1⟩ := getF X0 hx hZ hown (host := "") (Or.inl (own_w hw 68 rfl)) Via.refl e0 PA.2.2.1 (g := (mkF m 1 #[sR a] [(.ref a)])) rfl rfl (hb hby d11_1)
  refine Goes.on (T' := T1) (g' := (mkF m 6 #[sR a] [(.ref a), (.int 1)])) (fun _ k => XS.aloadN X0.here hx rfl (hb hby d11_0) rfl rfl (st1 _ (aLenm X1 hx hZ e1 BA (hb hby d11_4) (XS.aloadN X1.here hx rfl (hb hby d11_5) rfl rfl k)))) ?_
  refine Goes.callV X1 hx hZ 1 hown (own_w hw 74 rfl) (own_w hw 75 rfl) (notFace_of_selects (args := #[]) (mvT hZ (own_w hw 77 rfl))) (own_w hw 77 rfl) (own_w hw 76 rfl) (own_w hw 16 rfl) (own_w hw 78 rfl) (by decide) e1 PA.1 (rmCo97 l Z a0 hw a  h0 n0 Z0 O0 cs SC hcs ya ka PA) (by decide) (by decide) (by decide) (by decide) rfl (by rw [hml]; rfl) (argsL := []) (rest := [(.int 1)]) rfl (lenOf pd_0 rfl) rfl (own_le20 rfl) (hb hby d11_6) ?_
  rintro v3 T3 L3 X3 ⟨rfl, N3q, e3⟩
  have N3 := Fr.app (Fr.nil n0) N3q
  show Goes p e below _ T3 (mkF m 9 #[sR a] [(.int 0), (.int 1)])
  refine Goes.on (T' := T3) (g' := (mkF m 10 #[sR a] [(.int 1)])) (fun _ k => XS.ishr X3.here hx rfl (hb hby d11_9) rfl k) ?_
  exact Goes.retI X3 hx hlk hret (hb hby d11_10) (by decide) (by decide) ⟨rfl, N3, e3⟩
abbrev c17C := jdk_41_method_11_code
theorem d17_0 : decode c17C 0 = .ok (.iload_n 0, 1) := by decide +kernel
theorem d17_1 : decode c17C 1 = .ok (.ifCond .lt 8, 3) := by decide +kernel
theorem d17_4 : decode c17C 4 = .ok (.iload_n 0, 1) := by decide +kernel
theorem d17_5 : decode c17C 5 = .ok (.iload_n 1, 1) := by decide +kernel
theorem d17_6 : decode c17C 6 = .ok (.if_icmp .lt 10, 3) := by decide +kernel
theorem d17_16 : decode c17C 16 = .ok (.iload_n 0, 1) := by decide +kernel
theorem d17_17 : decode c17C 17 = .ok (.ireturn, 1) := by decide +kernel
theorem ef_1 (m : MethodId) (x0 : Int32) (x1 : Int32) (x2 : Value) (c2 : x2.category = 1) : entryFrame m #[(.int x0), (.int x1), x2] 3 = mkF m 0 #[.val (.int x0), .val (.int x1), .val x2] [] := by have q0 : ((.int x0) : Value).category = 1 := rfl; have q1 : ((.int x1) : Value).category = 1 := rfl; simp [entryFrame, mkF, argsToLocals, c2, q0, q1]
theorem pn_3 : plainName "jdk/internal/util/Preconditions" = true := by first | (simp [plainName, overriddenIn]; done) | decide +kernel
theorem rmPc (l : Launch) (Z : State) (a0 : Array Value) (hw : TW Z a0) (sf : Value) (h0 : Heap) (n0 : Nat) (Z0 : n0 ≤ h0.size) (hsf : sf.isRef = true) :
    Pays l Z (⟨"jdk/internal/util/Preconditions", "checkIndex", "(IILjava/util/function/BiFunction;)I"⟩ : MethodName) jdk_41_method_11_code 3 (some .int) [] ({ frames := 0, cells := 0, slots := 0, locals := 0 } : Room) #[(.int (0 : Int32)), (.int (1 : Int32)), sf] h0 (fun v h L => v = some (.int (0 : Int32)) ∧ Fr n0 L ∧ h = h0) := by
  refine Pays.walk (plainFor_of_name pn_3) (fun m => ef_1 m (0 : Int32) (1 : Int32) sf (XT.cat1 hsf)) ?_
  intro p e s m below meth c T0 X0 hx hby hml hown hnm hZ e0 hret hlk
  have N0 := Fr.nil n0
  refine Goes.on (T' := T0) (g' := (mkF m 17 #[sI 0, sI 1, .val sf] [(.int 0)])) (fun _ k => XS.iloadN X0.here hx rfl (hb hby d17_0) rfl (XS.ifNo X0.here hx rfl (hb hby d17_1) rfl (XT.i0_lt_f (by decide)) (XS.iloadN X0.here hx rfl (hb hby d17_4) rfl (XS.iloadN X0.here hx rfl (hb hby d17_5) rfl (XS.icmpYes X0.here hx rfl (pc0 := 6) (pc' := 16) rfl (hb hby d17_6) rfl (XT.ii_lt_t (by decide)) (by decide) (by decide) (XS.iloadN X0.here hx rfl (hb hby d17_16) rfl k)))))) ?_
  exact Goes.retI X0 hx hlk hret (hb hby d17_17) (by decide) (by decide) ⟨rfl, N0, e0⟩
abbrev c16C := jdk_42_method_155_code
theorem d16_0 : decode c16C 0 = .ok (.iload_n 0, 1) := by decide +kernel
theorem d16_1 : decode c16C 1 = .ok (.iload_n 1, 1) := by decide +kernel
theorem d16_2 : decode c16C 2 = .ok (.getstatic 1053, 3) := by decide +kernel
theorem pd_1 : parseMethodDescriptor "(IILjava/util/function/BiFunction;)I" = some ⟨[.int, .int, (.object "java/util/function/BiFunction")], some .int⟩ := by decide +kernel
theorem d16_5 : decode c16C 5 = .ok (.invokestatic 1059, 3) := by decide +kernel
theorem d16_8 : decode c16C 8 = .ok (.pop, 1) := by decide +kernel
theorem d16_9 : decode c16C 9 = .ok (.return_, 1) := by decide +kernel
theorem ef_2 (m : MethodId) (x0 : Int32) (x1 : Int32) : entryFrame m #[(.int x0), (.int x1)] 2 = mkF m 0 #[.val (.int x0), .val (.int x1)] [] := by first | (simp [entryFrame, mkF, argsToLocals, Value.category]; done) | rfl
theorem rmSc (l : Launch) (Z : State) (a0 : Array Value) (hw : TW Z a0)  (h0 : Heap) (n0 : Nat) (Z0 : n0 ≤ h0.size) (O0 : Old Z n0 h0) (sf : Value) (SF : Sta Z Z.heap "jdk/internal/util/Preconditions" "SIOOBE_FORMATTER" "Ljava/util/function/BiFunction;" sf) (hsf : sf.isRef = true) :
    Pays l Z (⟨"java/lang/String", "checkIndex", "(II)V"⟩ : MethodName) jdk_42_method_155_code 2 none [] ({ frames := 1, cells := 0, slots := 0, locals := 14 } : Room) #[(.int (0 : Int32)), (.int (1 : Int32))] h0 (fun v h L => v = none ∧ Fr n0 L ∧ h = h0) := by
  refine Pays.walk (plainFor_of_name pn_2) (fun m => ef_2 m (0 : Int32) (1 : Int32) ) ?_
  intro p e s m below meth c T0 X0 hx hby hml hown hnm hZ e0 hret hlk
  obtain ⟨T1, X1, e1, st1⟩ := getS (host := "") X0 hx hZ hown (own_w hw 98 rfl) Via.refl e0 (Sta.ext O0.2 SF) (g := (mkF m 2 #[sI 0, sI 1] [(.int 1), (.int 0)])) rfl (hb hby d16_2)
  refine Goes.on (T' := T1) (g' := (mkF m 5 #[sI 0, sI 1] [sf, (.int 1), (.int 0)])) (fun _ k => XS.iloadN X0.here hx rfl (hb hby d16_0) rfl (XS.iloadN X0.here hx rfl (hb hby d16_1) rfl (st1 _ k))) ?_
  refine Goes.callS X1 hx hZ 0 hown (own_w hw 100 rfl) (own_w hw 101 rfl) (own_w hw 99 rfl) (own_w hw 102 rfl) (by decide) e1 (rmPc l Z a0 hw sf h0 n0 Z0 hsf) (by decide) (by decide) (by decide) (by decide) rfl (by rw [hml]; rfl) (argsL := [(.int 0), (.int 1), sf]) (rest := []) rfl (lenOf pd_1 rfl) rfl (own_le20 rfl) (hb hby d16_5) ?_
  rintro v2 T2 L2 X2 ⟨rfl, N2q, e2⟩
  have N2 := Fr.app (Fr.nil n0) N2q
  show Goes p e below _ T2 (mkF m 8 #[sI 0, sI 1] [(.int 0)])
  refine Goes.on (T' := T2) (g' := (mkF m 9 #[sI 0, sI 1] [])) (fun _ k => XS.pop X2.here hx rfl (hb hby d16_8) rfl rfl k) ?_
  exact Goes.retV X2 hx hlk hret (hb hby d16_9) (by decide) (by decide) ⟨rfl, N2, e2⟩
abbrev c15C := jdk_43_method_2_code
theorem d15_0 : decode c15C 0 = .ok (.iload_n 1, 1) := by decide +kernel
theorem d15_1 : decode c15C 1 = .ok (.aload_n 0, 1) := by decide +kernel
theorem d15_2 : decode c15C 2 = .ok (.arraylength, 1) := by decide +kernel
theorem pd_2 : parseMethodDescriptor "(II)V" = some ⟨[.int, .int], none⟩ := by decide +kernel
theorem d15_3 : decode c15C 3 = .ok (.invokestatic 9, 3) := by decide +kernel
theorem d15_6 : decode c15C 6 = .ok (.aload_n 0, 1) := by decide +kernel
theorem d15_7 : decode c15C 7 = .ok (.iload_n 1, 1) := by decide +kernel
theorem d15_8 : decode c15C 8 = .ok (.baload, 1) := by decide +kernel
theorem d15_9 : decode c15C 9 = .ok (.sipush 255, 3) := by decide +kernel
theorem d15_12 : decode c15C 12 = .ok (.iand, 1) := by decide +kernel
theorem d15_13 : decode c15C 13 = .ok (.i2c, 1) := by decide +kernel
theorem d15_14 : decode c15C 14 = .ok (.ireturn, 1) := by decide +kernel
theorem ef_3 (m : MethodId) (x0 : Addr) (x1 : Int32) : entryFrame m #[(.ref x0), (.int x1)] 2 = mkF m 0 #[.val (.ref x0), .val (.int x1)] [] := by first | (simp [entryFrame, mkF, argsToLocals, Value.category]; done) | rfl
theorem pn_4 : plainName "java/lang/StringLatin1" = true := by first | (simp [plainName, overriddenIn]; done) | decide +kernel
theorem rmLc97 (l : Launch) (Z : State) (a0 : Array Value) (hw : TW Z a0) (ya : Addr) (h0 : Heap) (n0 : Nat) (Z0 : n0 ≤ h0.size) (O0 : Old Z n0 h0) (BA : Arf Z h0 ya .byte Value.int 1 (fun i => ([(97 : Int32)] : List Int32).getD i 0)) (sf : Value) (SF : Sta Z Z.heap "jdk/internal/util/Preconditions" "SIOOBE_FORMATTER" "Ljava/util/function/BiFunction;" sf) (hsf : sf.isRef = true) :
    Pays l Z (⟨"java/lang/StringLatin1", "charAt", "([BI)C"⟩ : MethodName) jdk_43_method_2_code 2 (some .char) [] ({ frames := 2, cells := 0, slots := 0, locals := 27 } : Room) #[(.ref ya), (.int (0 : Int32))] h0 (fun v h L => v = some (.int (97 : Int32)) ∧ Fr n0 L ∧ h = h0) := by
  refine Pays.walk (plainFor_of_name pn_4) (fun m => ef_3 m ya (0 : Int32) ) ?_
  intro p e s m below meth c T0 X0 hx hby hml hown hnm hZ e0 hret hlk
  have dc := @Jvm.hb _ _ hby
  refine Goes.on (T' := T0) (g' := (mkF m 3 #[sR ya, sI 0] [(.int 1), (.int 0)])) (fun _ k => XS.iloadN X0.here hx rfl (dc d15_0) rfl (XS.aloadN X0.here hx rfl (dc d15_1) rfl rfl (aLenm X0 hx hZ e0 BA (dc d15_2) k))) ?_
  refine Goes.callS X0 hx hZ 0 hown (own_w hw 95 rfl) (own_w hw 96 rfl) (own_w hw 16 rfl) (own_w hw 97 rfl) (by decide) e0 (rmSc l Z a0 hw h0 n0 Z0 O0 sf SF hsf) (by decide) (by decide) (by decide) (by decide) rfl (by rw [hml]; rfl) (argsL := [(.int 0), (.int 1)]) (rest := []) rfl (lenOf pd_2 rfl) rfl (own_le20 rfl) (dc d15_3) ?_
  rintro v2 T2 L2 X2 ⟨rfl, N2q, e2⟩
  have N2 := Fr.app (Fr.nil n0) N2q
  show Goes p e below _ T2 (mkF m 6 #[sR ya, sI 0] [])
  refine Goes.on (T' := T2) (g' := (mkF m 14 #[sR ya, sI 0] [(.int 97)])) (fun _ k => XS.aloadN X2.here hx rfl (dc d15_6) rfl rfl (XS.iloadN X2.here hx rfl (dc d15_7) rfl (ldYm X2 hx hZ e2 BA (by decide) (dc d15_8) (XS.sipush X2.here hx rfl (dc d15_9) (XS.iand X2.here hx rfl (dc d15_12) rfl (XS.i2c X2.here hx rfl (dc d15_13) rfl k)))))) ?_
  exact Goes.retC X2 hx hlk hret rfl (dc d15_14) (by decide) (by decide) ⟨rfl, N2, e2⟩
abbrev c13C := jdk_42_method_56_code
theorem d13_0 : decode c13C 0 = .ok (.aload_n 0, 1) := by decide +kernel
theorem pd_3 : parseMethodDescriptor "()Z" = some ⟨[], some .boolean⟩ := by decide +kernel
theorem d13_1 : decode c13C 1 = .ok (.invokevirtual 492, 3) := by decide +kernel
theorem d13_4 : decode c13C 4 = .ok (.ifCond .eq 12, 3) := by decide +kernel
theorem d13_7 : decode c13C 7 = .ok (.aload_n 0, 1) := by decide +kernel
theorem d13_8 : decode c13C 8 = .ok (.getfield 9, 3) := by decide +kernel
theorem d13_11 : decode c13C 11 = .ok (.iload_n 1, 1) := by decide +kernel
theorem pd_4 : parseMethodDescriptor "([BI)C" = some ⟨[(.array .byte), .int], some .char⟩ := by decide +kernel
theorem d13_12 : decode c13C 12 = .ok (.invokestatic 495, 3) := by decide +kernel
theorem d13_15 : decode c13C 15 = .ok (.ireturn, 1) := by decide +kernel
theorem rmCh97 (l : Launch) (Z : State) (a0 : Array Value) (hw : TW Z a0) (a : Addr) (h0 : Heap) (n0 : Nat) (Z0 : n0 ≤ h0.size) (O0 : Old Z n0 h0) (cs : Int32) (SC : Sta Z Z.heap "java/lang/String" "COMPACT_STRINGS" "Z" (.int cs)) (hcs : ¬ cs = (0 : Int32)) (ya : Addr) (ka : ClassId) (PA : Str Z h0 a ya ka (Int32.ofNat 1) [Value.int (97 : Int32)]) (sf : Value) (SF : Sta Z Z.heap "jdk/internal/util/Preconditions" "SIOOBE_FORMATTER" "Ljava/util/function/BiFunction;" sf) (hsf : sf.isRef = true) :
    Pays l Z (⟨"java/lang/String", "charAt", "(I)C"⟩ : MethodName) jdk_42_method_56_code 2 (some .char) [] ({ frames := 3, cells := 0, slots := 0, locals := 40 } : Room) #[(.ref a), (.int (0 : Int32))] h0 (fun v h L => v = some (.int (97 : Int32)) ∧ Fr n0 L ∧ h = h0) := by
  refine Pays.walk (plainFor_of_name pn_2) (fun m => ef_3 m a (0 : Int32) ) ?_
  intro p e s m below meth c T0 X0 hx hby hml hown hnm hZ e0 hret hlk
  have ow := @own_w Z a0 hw
  have BA : Arf Z h0 ya .byte Value.int 1 (fun i => ([(97 : Int32)] : List Int32).getD i 0) := Arv.arf PA.2.2.2 (by decide) (own_lt1 rfl)
  refine Goes.on (T' := T0) (g' := (mkF m 1 #[sR a, sI 0] [(.ref a)])) (fun _ k => XS.aloadN X0.here hx rfl (hb hby d13_0) rfl rfl k) ?_
  refine Goes.callV X0 hx hZ 0 hown (ow 86 rfl) (ow 87 rfl) (notFace_of_selects (args := #[]) (mvT hZ (ow 89 rfl))) (ow 89 rfl) (ow 88 rfl) (ow 16 rfl) (ow 90 rfl) (by decide) e0 PA.1 (rmIl97 l Z a0 hw a h0 n0 Z0 O0 cs SC hcs ya ka PA) (by decide) (by decide) (by decide) (by decide) rfl (by rw [hml]; rfl) (argsL := []) (rest := []) rfl (lenOf pd_3 rfl) rfl (own_le20 rfl) (hb hby d13_1) ?_
  rintro v1 T1 L1 X1 ⟨rfl, N1q, e1⟩
  show Goes p e below _ T1 (mkF m 4 #[sR a, sI 0] [(.int 1)])
  obtain ⟨T2, X2, e2, st2⟩ := getF X1 hx hZ hown (host := "") (Or.inl (ow 68 rfl)) Via.refl e1 PA.2.2.1 (g := (mkF m 8 #[sR a, sI 0] [(.ref a)])) rfl rfl (hb hby d13_8)
  refine Goes.on (T' := T2) (g' := (mkF m 12 #[sR a, sI 0] [(.int 0), (.ref ya)])) (fun _ k => XS.ifNo X1.here hx rfl (hb hby d13_4) rfl (XT.i0_eq_f (by decide)) (XS.aloadN X1.here hx rfl (hb hby d13_7) rfl rfl (st2 _ (XS.iloadN X2.here hx rfl (hb hby d13_11) rfl k)))) ?_
  refine Goes.callS X2 hx hZ 0 hown (ow 91 rfl) (ow 92 rfl) (ow 93 rfl) (ow 94 rfl) (by decide) e2 (rmLc97 l Z a0 hw ya h0 n0 Z0 O0 BA sf SF hsf) (by decide) (by decide) (by decide) (by decide) rfl (by rw [hml]; rfl) (argsL := [(.ref ya), (.int 0)]) (rest := []) rfl (lenOf pd_4 rfl) rfl (own_le20 rfl) (hb hby d13_12) ?_
  rintro v3 T3 L3 X3 ⟨rfl, N3q, e3⟩
  have N3 := Fr.app (Fr.app (Fr.nil n0) N1q) N3q
  show Goes p e below _ T3 (mkF m 15 #[sR a, sI 0] [(.int 97)])
  exact Goes.retC X3 hx hlk hret rfl (hb hby d13_15) (by decide) (by decide) ⟨rfl, N3, e3⟩
theorem rmEm98 (l : Launch) (Z : State) (a0 : Array Value) (hw : TW Z a0) (a : Addr)  (h0 : Heap) (n0 : Nat) (Z0 : n0 ≤ h0.size) (O0 : Old Z n0 h0) (cs : Int32) (SC : Sta Z Z.heap "java/lang/String" "COMPACT_STRINGS" "Z" (.int cs)) (hcs : ¬ cs = (0 : Int32)) (ya : Addr) (ka : ClassId) (PA : Str Z h0 a ya ka (Int32.ofNat 1) [Value.int (98 : Int32)]) :
    Pays l Z (⟨"java/lang/String", "isEmpty", "()Z"⟩ : MethodName) jdk_42_method_55_code 1 (some .boolean) [] ({ frames := 0, cells := 0, slots := 0, locals := 0 } : Room) #[(.ref a)] h0 (fun v h L => v = some (.int (0 : Int32)) ∧ Fr n0 L ∧ h = h0) := by
  refine Pays.walk (plainFor_of_name pn_2) (fun m => ef_0 m a ) ?_
  intro p e s m below meth c T0 X0 hx hby hml hown hnm hZ e0 hret hlk
  have N0 := Fr.nil n0
  have BA : Arf Z h0 ya .byte Value.int 1 (fun i => ([(98 : Int32)] : List Int32).getD i 0) := Arv.arf PA.2.2.2 (by decide) (own_lt1 rfl)
  obtain ⟨T1, X1, e1, st1⟩ := getF X0 hx hZ hown (host := "") (Or.inl (own_w hw 68 rfl)) Via.refl e0 PA.2.2.1 (g := (mkF m 1 #[sR a] [(.ref a)])) rfl rfl (hb hby d10_1)
  refine Goes.on (T' := T1) (g' := (mkF m 13 #[sR a] [(.int 0)])) (fun _ k => XS.aloadN X0.here hx rfl (hb hby d10_0) rfl rfl (st1 _ (aLenm X1 hx hZ e1 BA (hb hby d10_4) (XS.ifYes X1.here hx rfl (pc0 := 5) (pc' := 12) rfl (hb hby d10_5) rfl (XT.i0_ne_t (by decide)) (by decide) (by decide) (XS.iconst X1.here hx rfl (hb hby d10_12) k))))) ?_
  exact Goes.retB X1 hx hlk hret (Or.inl rfl) (hb hby d10_13) (by decide) (by decide) ⟨rfl, N0, e1⟩
theorem rmCo98 (l : Launch) (Z : State) (a0 : Array Value) (hw : TW Z a0) (a : Addr)  (h0 : Heap) (n0 : Nat) (Z0 : n0 ≤ h0.size) (O0 : Old Z n0 h0) (cs : Int32) (SC : Sta Z Z.heap "java/lang/String" "COMPACT_STRINGS" "Z" (.int cs)) (hcs : ¬ cs = (0 : Int32)) (ya : Addr) (ka : ClassId) (PA : Str Z h0 a ya ka (Int32.ofNat 1) [Value.int (98 : Int32)]) :
    Pays l Z (⟨"java/lang/String", "coder", "()B"⟩ : MethodName) jdk_42_method_152_code 1 (some .byte) [] ({ frames := 0, cells := 0, slots := 0, locals := 0 } : Room) #[(.ref a)] h0 (fun v h L => v = some (.int (0 : Int32)) ∧ Fr n0 L ∧ h = h0) := by
  refine Pays.walk (plainFor_of_name pn_2) (fun m => ef_0 m a ) ?_
  intro p e s m below meth c T0 X0 hx hby hml hown hnm hZ e0 hret hlk
  have N0 := Fr.nil n0
  have BA : Arf Z h0 ya .byte Value.int 1 (fun i => ([(98 : Int32)] : List Int32).getD i 0) := Arv.arf PA.2.2.2 (by decide) (own_lt1 rfl)
  obtain ⟨T1, X1, e1, st1⟩ := getS (host := "") X0 hx hZ hown (own_w hw 79 rfl) Via.refl e0 (Sta.ext O0.2 SC) (g := (mkF m 0 #[sR a] [])) rfl (hb hby d12_0)
  obtain ⟨T2, X2, e2, st2⟩ := getF X1 hx hZ hown (host := "") (Or.inl (own_w hw 80 rfl)) Via.refl e1 PA.2.1 (g := (mkF m 7 #[sR a] [(.ref a)])) rfl rfl (hb hby d12_7)
  refine Goes.on (T' := T2) (g' := (mkF m 14 #[sR a] [(.int 0)])) (fun _ k => st1 _ (XS.ifNo X1.here hx rfl (hb hby d12_3) rfl (XT.i0_eq_f hcs) (XS.aloadN X1.here hx rfl (hb hby d12_6) rfl rfl (st2 _ (XS.goto X2.here hx rfl (pc0 := 10) (pc' := 14) rfl (hb hby d12_10) (by decide) (by decide) k))))) ?_
  exact Goes.retY X2 hx hlk hret rfl (hb hby d12_14) (by decide) (by decide) ⟨rfl, N0, e2⟩
theorem rmIl98 (l : Launch) (Z : State) (a0 : Array Value) (hw : TW Z a0) (a : Addr)  (h0 : Heap) (n0 : Nat) (Z0 : n0 ≤ h0.size) (O0 : Old Z n0 h0) (cs : Int32) (SC : Sta Z Z.heap "java/lang/String" "COMPACT_STRINGS" "Z" (.int cs)) (hcs : ¬ cs = (0 : Int32)) (ya : Addr) (ka : ClassId) (PA : Str Z h0 a ya ka (Int32.ofNat 1) [Value.int (98 : Int32)]) :
    Pays l Z (⟨"java/lang/String", "isLatin1", "()Z"⟩ : MethodName) jdk_42_method_154_code 1 (some .boolean) [] ({ frames := 0, cells := 0, slots := 0, locals := 0 } : Room) #[(.ref a)] h0 (fun v h L => v = some (.int (1 : Int32)) ∧ Fr n0 L ∧ h = h0) := by
  refine Pays.walk (plainFor_of_name pn_2) (fun m => ef_0 m a ) ?_
  intro p e s m below meth c T0 X0 hx hby hml hown hnm hZ e0 hret hlk
  have N0 := Fr.nil n0
  have BA : Arf Z h0 ya .byte Value.int 1 (fun i => ([(98 : Int32)] : List Int32).getD i 0) := Arv.arf PA.2.2.2 (by decide) (own_lt1 rfl)
  obtain ⟨T1, X1, e1, st1⟩ := getS (host := "") X0 hx hZ hown (own_w hw 79 rfl) Via.refl e0 (Sta.ext O0.2 SC) (g := (mkF m 0 #[sR a] [])) rfl (hb hby d14_0)
  obtain ⟨T2, X2, e2, st2⟩ := getF X1 hx hZ hown (host := "") (Or.inl (own_w hw 80 rfl)) Via.refl e1 PA.2.1 (g := (mkF m 7 #[sR a] [(.ref a)])) rfl rfl (hb hby d14_7)
  refine Goes.on (T' := T2) (g' := (mkF m 18 #[sR a] [(.int 1)])) (fun _ k => st1 _ (XS.ifNo X1.here hx rfl (hb hby d14_3) rfl (XT.i0_eq_f hcs) (XS.aloadN X1.here hx rfl (hb hby d14_6) rfl rfl (st2 _ (XS.ifNo X2.here hx rfl (hb hby d14_10) rfl (XT.i0_ne_f (by decide)) (XS.iconst X2.here hx rfl (hb hby d14_13) (XS.goto X2.here hx rfl (pc0 := 14) (pc' := 18) rfl (hb hby d14_14) (by decide) (by decide) k))))))) ?_
  exact Goes.retB X2 hx hlk hret (Or.inr rfl) (hb hby d14_18) (by decide) (by decide) ⟨rfl, N0, e2⟩
theorem rmLn98 (l : Launch) (Z : State) (a0 : Array Value) (hw : TW Z a0) (a : Addr)  (h0 : Heap) (n0 : Nat) (Z0 : n0 ≤ h0.size) (O0 : Old Z n0 h0) (cs : Int32) (SC : Sta Z Z.heap "java/lang/String" "COMPACT_STRINGS" "Z" (.int cs)) (hcs : ¬ cs = (0 : Int32)) (ya : Addr) (ka : ClassId) (PA : Str Z h0 a ya ka (Int32.ofNat 1) [Value.int (98 : Int32)]) :
    Pays l Z (⟨"java/lang/String", "length", "()I"⟩ : MethodName) jdk_42_method_54_code 1 (some .int) [] ({ frames := 1, cells := 0, slots := 0, locals := 13 } : Room) #[(.ref a)] h0 (fun v h L => v = some (.int (1 : Int32)) ∧ Fr n0 L ∧ h = h0) := by
  refine Pays.walk (plainFor_of_name pn_2) (fun m => ef_0 m a ) ?_
  intro p e s m below meth c T0 X0 hx hby hml hown hnm hZ e0 hret hlk
  have BA : Arf Z h0 ya .byte Value.int 1 (fun i => ([(98 : Int32)] : List Int32).getD i 0) := Arv.arf PA.2.2.2 (by decide) (own_lt1 rfl)
  obtain ⟨T1, X1, e1, st1⟩ := getF X0 hx hZ hown (host := "") (Or.inl (own_w hw 68 rfl)) Via.refl e0 PA.2.2.1 (g := (mkF m 1 #[sR a] [(.ref a)])) rfl rfl (hb hby d11_1)
  refine Goes.on (T' := T1) (g' := (mkF m 6 #[sR a] [(.ref a), (.int 1)])) (fun _ k => XS.aloadN X0.here hx rfl (hb hby d11_0) rfl rfl (st1 _ (aLenm X1 hx hZ e1 BA (hb hby d11_4) (XS.aloadN X1.here hx rfl (hb hby d11_5) rfl rfl k)))) ?_
  refine Goes.callV X1 hx hZ 1 hown (own_w hw 74 rfl) (own_w hw 75 rfl) (notFace_of_selects (args := #[]) (mvT hZ (own_w hw 77 rfl))) (own_w hw 77 rfl) (own_w hw 76 rfl) (own_w hw 16 rfl) (own_w hw 78 rfl) (by decide) e1 PA.1 (rmCo98 l Z a0 hw a  h0 n0 Z0 O0 cs SC hcs ya ka PA) (by decide) (by decide) (by decide) (by decide) rfl (by rw [hml]; rfl) (argsL := []) (rest := [(.int 1)]) rfl (lenOf pd_0 rfl) rfl (own_le20 rfl) (hb hby d11_6) ?_
  rintro v3 T3 L3 X3 ⟨rfl, N3q, e3⟩
  have N3 := Fr.app (Fr.nil n0) N3q
  show Goes p e below _ T3 (mkF m 9 #[sR a] [(.int 0), (.int 1)])
  refine Goes.on (T' := T3) (g' := (mkF m 10 #[sR a] [(.int 1)])) (fun _ k => XS.ishr X3.here hx rfl (hb hby d11_9) rfl k) ?_
  exact Goes.retI X3 hx hlk hret (hb hby d11_10) (by decide) (by decide) ⟨rfl, N3, e3⟩
theorem rmLc98 (l : Launch) (Z : State) (a0 : Array Value) (hw : TW Z a0) (ya : Addr) (h0 : Heap) (n0 : Nat) (Z0 : n0 ≤ h0.size) (O0 : Old Z n0 h0) (BA : Arf Z h0 ya .byte Value.int 1 (fun i => ([(98 : Int32)] : List Int32).getD i 0)) (sf : Value) (SF : Sta Z Z.heap "jdk/internal/util/Preconditions" "SIOOBE_FORMATTER" "Ljava/util/function/BiFunction;" sf) (hsf : sf.isRef = true) :
    Pays l Z (⟨"java/lang/StringLatin1", "charAt", "([BI)C"⟩ : MethodName) jdk_43_method_2_code 2 (some .char) [] ({ frames := 2, cells := 0, slots := 0, locals := 27 } : Room) #[(.ref ya), (.int (0 : Int32))] h0 (fun v h L => v = some (.int (98 : Int32)) ∧ Fr n0 L ∧ h = h0) := by
  refine Pays.walk (plainFor_of_name pn_4) (fun m => ef_3 m ya (0 : Int32) ) ?_
  intro p e s m below meth c T0 X0 hx hby hml hown hnm hZ e0 hret hlk
  have dc := @Jvm.hb _ _ hby
  refine Goes.on (T' := T0) (g' := (mkF m 3 #[sR ya, sI 0] [(.int 1), (.int 0)])) (fun _ k => XS.iloadN X0.here hx rfl (dc d15_0) rfl (XS.aloadN X0.here hx rfl (dc d15_1) rfl rfl (aLenm X0 hx hZ e0 BA (dc d15_2) k))) ?_
  refine Goes.callS X0 hx hZ 0 hown (own_w hw 95 rfl) (own_w hw 96 rfl) (own_w hw 16 rfl) (own_w hw 97 rfl) (by decide) e0 (rmSc l Z a0 hw h0 n0 Z0 O0 sf SF hsf) (by decide) (by decide) (by decide) (by decide) rfl (by rw [hml]; rfl) (argsL := [(.int 0), (.int 1)]) (rest := []) rfl (lenOf pd_2 rfl) rfl (own_le20 rfl) (dc d15_3) ?_
  rintro v2 T2 L2 X2 ⟨rfl, N2q, e2⟩
  have N2 := Fr.app (Fr.nil n0) N2q
  show Goes p e below _ T2 (mkF m 6 #[sR ya, sI 0] [])
  refine Goes.on (T' := T2) (g' := (mkF m 14 #[sR ya, sI 0] [(.int 98)])) (fun _ k => XS.aloadN X2.here hx rfl (dc d15_6) rfl rfl (XS.iloadN X2.here hx rfl (dc d15_7) rfl (ldYm X2 hx hZ e2 BA (by decide) (dc d15_8) (XS.sipush X2.here hx rfl (dc d15_9) (XS.iand X2.here hx rfl (dc d15_12) rfl (XS.i2c X2.here hx rfl (dc d15_13) rfl k)))))) ?_
  exact Goes.retC X2 hx hlk hret rfl (dc d15_14) (by decide) (by decide) ⟨rfl, N2, e2⟩
theorem rmCh98 (l : Launch) (Z : State) (a0 : Array Value) (hw : TW Z a0) (a : Addr) (h0 : Heap) (n0 : Nat) (Z0 : n0 ≤ h0.size) (O0 : Old Z n0 h0) (cs : Int32) (SC : Sta Z Z.heap "java/lang/String" "COMPACT_STRINGS" "Z" (.int cs)) (hcs : ¬ cs = (0 : Int32)) (ya : Addr) (ka : ClassId) (PA : Str Z h0 a ya ka (Int32.ofNat 1) [Value.int (98 : Int32)]) (sf : Value) (SF : Sta Z Z.heap "jdk/internal/util/Preconditions" "SIOOBE_FORMATTER" "Ljava/util/function/BiFunction;" sf) (hsf : sf.isRef = true) :
    Pays l Z (⟨"java/lang/String", "charAt", "(I)C"⟩ : MethodName) jdk_42_method_56_code 2 (some .char) [] ({ frames := 3, cells := 0, slots := 0, locals := 40 } : Room) #[(.ref a), (.int (0 : Int32))] h0 (fun v h L => v = some (.int (98 : Int32)) ∧ Fr n0 L ∧ h = h0) := by
  refine Pays.walk (plainFor_of_name pn_2) (fun m => ef_3 m a (0 : Int32) ) ?_
  intro p e s m below meth c T0 X0 hx hby hml hown hnm hZ e0 hret hlk
  have ow := @own_w Z a0 hw
  have BA : Arf Z h0 ya .byte Value.int 1 (fun i => ([(98 : Int32)] : List Int32).getD i 0) := Arv.arf PA.2.2.2 (by decide) (own_lt1 rfl)
  refine Goes.on (T' := T0) (g' := (mkF m 1 #[sR a, sI 0] [(.ref a)])) (fun _ k => XS.aloadN X0.here hx rfl (hb hby d13_0) rfl rfl k) ?_
  refine Goes.callV X0 hx hZ 0 hown (ow 86 rfl) (ow 87 rfl) (notFace_of_selects (args := #[]) (mvT hZ (ow 89 rfl))) (ow 89 rfl) (ow 88 rfl) (ow 16 rfl) (ow 90 rfl) (by decide) e0 PA.1 (rmIl98 l Z a0 hw a h0 n0 Z0 O0 cs SC hcs ya ka PA) (by decide) (by decide) (by decide) (by decide) rfl (by rw [hml]; rfl) (argsL := []) (rest := []) rfl (lenOf pd_3 rfl) rfl (own_le20 rfl) (hb hby d13_1) ?_
  rintro v1 T1 L1 X1 ⟨rfl, N1q, e1⟩
  show Goes p e below _ T1 (mkF m 4 #[sR a, sI 0] [(.int 1)])
  obtain ⟨T2, X2, e2, st2⟩ := getF X1 hx hZ hown (host := "") (Or.inl (ow 68 rfl)) Via.refl e1 PA.2.2.1 (g := (mkF m 8 #[sR a, sI 0] [(.ref a)])) rfl rfl (hb hby d13_8)
  refine Goes.on (T' := T2) (g' := (mkF m 12 #[sR a, sI 0] [(.int 0), (.ref ya)])) (fun _ k => XS.ifNo X1.here hx rfl (hb hby d13_4) rfl (XT.i0_eq_f (by decide)) (XS.aloadN X1.here hx rfl (hb hby d13_7) rfl rfl (st2 _ (XS.iloadN X2.here hx rfl (hb hby d13_11) rfl k)))) ?_
  refine Goes.callS X2 hx hZ 0 hown (ow 91 rfl) (ow 92 rfl) (ow 93 rfl) (ow 94 rfl) (by decide) e2 (rmLc98 l Z a0 hw ya h0 n0 Z0 O0 BA sf SF hsf) (by decide) (by decide) (by decide) (by decide) rfl (by rw [hml]; rfl) (argsL := [(.ref ya), (.int 0)]) (rest := []) rfl (lenOf pd_4 rfl) rfl (own_le20 rfl) (hb hby d13_12) ?_
  rintro v3 T3 L3 X3 ⟨rfl, N3q, e3⟩
  have N3 := Fr.app (Fr.app (Fr.nil n0) N1q) N3q
  show Goes p e below _ T3 (mkF m 15 #[sR a, sI 0] [(.int 98)])
  exact Goes.retC X3 hx hlk hret rfl (hb hby d13_15) (by decide) (by decide) ⟨rfl, N3, e3⟩
theorem rmEm99 (l : Launch) (Z : State) (a0 : Array Value) (hw : TW Z a0) (a : Addr)  (h0 : Heap) (n0 : Nat) (Z0 : n0 ≤ h0.size) (O0 : Old Z n0 h0) (cs : Int32) (SC : Sta Z Z.heap "java/lang/String" "COMPACT_STRINGS" "Z" (.int cs)) (hcs : ¬ cs = (0 : Int32)) (ya : Addr) (ka : ClassId) (PA : Str Z h0 a ya ka (Int32.ofNat 1) [Value.int (99 : Int32)]) :
    Pays l Z (⟨"java/lang/String", "isEmpty", "()Z"⟩ : MethodName) jdk_42_method_55_code 1 (some .boolean) [] ({ frames := 0, cells := 0, slots := 0, locals := 0 } : Room) #[(.ref a)] h0 (fun v h L => v = some (.int (0 : Int32)) ∧ Fr n0 L ∧ h = h0) := by
  refine Pays.walk (plainFor_of_name pn_2) (fun m => ef_0 m a ) ?_
  intro p e s m below meth c T0 X0 hx hby hml hown hnm hZ e0 hret hlk
  have N0 := Fr.nil n0
  have BA : Arf Z h0 ya .byte Value.int 1 (fun i => ([(99 : Int32)] : List Int32).getD i 0) := Arv.arf PA.2.2.2 (by decide) (own_lt1 rfl)
  obtain ⟨T1, X1, e1, st1⟩ := getF X0 hx hZ hown (host := "") (Or.inl (own_w hw 68 rfl)) Via.refl e0 PA.2.2.1 (g := (mkF m 1 #[sR a] [(.ref a)])) rfl rfl (hb hby d10_1)
  refine Goes.on (T' := T1) (g' := (mkF m 13 #[sR a] [(.int 0)])) (fun _ k => XS.aloadN X0.here hx rfl (hb hby d10_0) rfl rfl (st1 _ (aLenm X1 hx hZ e1 BA (hb hby d10_4) (XS.ifYes X1.here hx rfl (pc0 := 5) (pc' := 12) rfl (hb hby d10_5) rfl (XT.i0_ne_t (by decide)) (by decide) (by decide) (XS.iconst X1.here hx rfl (hb hby d10_12) k))))) ?_
  exact Goes.retB X1 hx hlk hret (Or.inl rfl) (hb hby d10_13) (by decide) (by decide) ⟨rfl, N0, e1⟩
theorem rmCo99 (l : Launch) (Z : State) (a0 : Array Value) (hw : TW Z a0) (a : Addr)  (h0 : Heap) (n0 : Nat) (Z0 : n0 ≤ h0.size) (O0 : Old Z n0 h0) (cs : Int32) (SC : Sta Z Z.heap "java/lang/String" "COMPACT_STRINGS" "Z" (.int cs)) (hcs : ¬ cs = (0 : Int32)) (ya : Addr) (ka : ClassId) (PA : Str Z h0 a ya ka (Int32.ofNat 1) [Value.int (99 : Int32)]) :
    Pays l Z (⟨"java/lang/String", "coder", "()B"⟩ : MethodName) jdk_42_method_152_code 1 (some .byte) [] ({ frames := 0, cells := 0, slots := 0, locals := 0 } : Room) #[(.ref a)] h0 (fun v h L => v = some (.int (0 : Int32)) ∧ Fr n0 L ∧ h = h0) := by
  refine Pays.walk (plainFor_of_name pn_2) (fun m => ef_0 m a ) ?_
  intro p e s m below meth c T0 X0 hx hby hml hown hnm hZ e0 hret hlk
  have N0 := Fr.nil n0
  have BA : Arf Z h0 ya .byte Value.int 1 (fun i => ([(99 : Int32)] : List Int32).getD i 0) := Arv.arf PA.2.2.2 (by decide) (own_lt1 rfl)
  obtain ⟨T1, X1, e1, st1⟩ := getS (host := "") X0 hx hZ hown (own_w hw 79 rfl) Via.refl e0 (Sta.ext O0.2 SC) (g := (mkF m 0 #[sR a] [])) rfl (hb hby d12_0)
  obtain ⟨T2, X2, e2, st2⟩ := getF X1 hx hZ hown (host := "") (Or.inl (own_w hw 80 rfl)) Via.refl e1 PA.2.1 (g := (mkF m 7 #[sR a] [(.ref a)])) rfl rfl (hb hby d12_7)
  refine Goes.on (T' := T2) (g' := (mkF m 14 #[sR a] [(.int 0)])) (fun _ k => st1 _ (XS.ifNo X1.here hx rfl (hb hby d12_3) rfl (XT.i0_eq_f hcs) (XS.aloadN X1.here hx rfl (hb hby d12_6) rfl rfl (st2 _ (XS.goto X2.here hx rfl (pc0 := 10) (pc' := 14) rfl (hb hby d12_10) (by decide) (by decide) k))))) ?_
  exact Goes.retY X2 hx hlk hret rfl (hb hby d12_14) (by decide) (by decide) ⟨rfl, N0, e2⟩
theorem rmIl99 (l : Launch) (Z : State) (a0 : Array Value) (hw : TW Z a0) (a : Addr)  (h0 : Heap) (n0 : Nat) (Z0 : n0 ≤ h0.size) (O0 : Old Z n0 h0) (cs : Int32) (SC : Sta Z Z.heap "java/lang/String" "COMPACT_STRINGS" "Z" (.int cs)) (hcs : ¬ cs = (0 : Int32)) (ya : Addr) (ka : ClassId) (PA : Str Z h0 a ya ka (Int32.ofNat 1) [Value.int (99 : Int32)]) :
    Pays l Z (⟨"java/lang/String", "isLatin1", "()Z"⟩ : MethodName) jdk_42_method_154_code 1 (some .boolean) [] ({ frames := 0, cells := 0, slots := 0, locals := 0 } : Room) #[(.ref a)] h0 (fun v h L => v = some (.int (1 : Int32)) ∧ Fr n0 L ∧ h = h0) := by
  refine Pays.walk (plainFor_of_name pn_2) (fun m => ef_0 m a ) ?_
  intro p e s m below meth c T0 X0 hx hby hml hown hnm hZ e0 hret hlk
  have N0 := Fr.nil n0
  have BA : Arf Z h0 ya .byte Value.int 1 (fun i => ([(99 : Int32)] : List Int32).getD i 0) := Arv.arf PA.2.2.2 (by decide) (own_lt1 rfl)
  obtain ⟨T1, X1, e1, st1⟩ := getS (host := "") X0 hx hZ hown (own_w hw 79 rfl) Via.refl e0 (Sta.ext O0.2 SC) (g := (mkF m 0 #[sR a] [])) rfl (hb hby d14_0)
  obtain ⟨T2, X2, e2, st2⟩ := getF X1 hx hZ hown (host := "") (Or.inl (own_w hw 80 rfl)) Via.refl e1 PA.2.1 (g := (mkF m 7 #[sR a] [(.ref a)])) rfl rfl (hb hby d14_7)
  refine Goes.on (T' := T2) (g' := (mkF m 18 #[sR a] [(.int 1)])) (fun _ k => st1 _ (XS.ifNo X1.here hx rfl (hb hby d14_3) rfl (XT.i0_eq_f hcs) (XS.aloadN X1.here hx rfl (hb hby d14_6) rfl rfl (st2 _ (XS.ifNo X2.here hx rfl (hb hby d14_10) rfl (XT.i0_ne_f (by decide)) (XS.iconst X2.here hx rfl (hb hby d14_13) (XS.goto X2.here hx rfl (pc0 := 14) (pc' := 18) rfl (hb hby d14_14) (by decide) (by decide) k))))))) ?_
  exact Goes.retB X2 hx hlk hret (Or.inr rfl) (hb hby d14_18) (by decide) (by decide) ⟨rfl, N0, e2⟩
theorem rmLn99 (l : Launch) (Z : State) (a0 : Array Value) (hw : TW Z a0) (a : Addr)  (h0 : Heap) (n0 : Nat) (Z0 : n0 ≤ h0.size) (O0 : Old Z n0 h0) (cs : Int32) (SC : Sta Z Z.heap "java/lang/String" "COMPACT_STRINGS" "Z" (.int cs)) (hcs : ¬ cs = (0 : Int32)) (ya : Addr) (ka : ClassId) (PA : Str Z h0 a ya ka (Int32.ofNat 1) [Value.int (99 : Int32)]) :
    Pays l Z (⟨"java/lang/String", "length", "()I"⟩ : MethodName) jdk_42_method_54_code 1 (some .int) [] ({ frames := 1, cells := 0, slots := 0, locals := 13 } : Room) #[(.ref a)] h0 (fun v h L => v = some (.int (1 : Int32)) ∧ Fr n0 L ∧ h = h0) := by
  refine Pays.walk (plainFor_of_name pn_2) (fun m => ef_0 m a ) ?_
  intro p e s m below meth c T0 X0 hx hby hml hown hnm hZ e0 hret hlk
  have BA : Arf Z h0 ya .byte Value.int 1 (fun i => ([(99 : Int32)] : List Int32).getD i 0) := Arv.arf PA.2.2.2 (by decide) (own_lt1 rfl)
  obtain ⟨T1, X1, e1, st1⟩ := getF X0 hx hZ hown (host := "") (Or.inl (own_w hw 68 rfl)) Via.refl e0 PA.2.2.1 (g := (mkF m 1 #[sR a] [(.ref a)])) rfl rfl (hb hby d11_1)
  refine Goes.on (T' := T1) (g' := (mkF m 6 #[sR a] [(.ref a), (.int 1)])) (fun _ k => XS.aloadN X0.here hx rfl (hb hby d11_0) rfl rfl (st1 _ (aLenm X1 hx hZ e1 BA (hb hby d11_4) (XS.aloadN X1.here hx rfl (hb hby d11_5) rfl rfl k)))) ?_
  refine Goes.callV X1 hx hZ 1 hown (own_w hw 74 rfl) (own_w hw 75 rfl) (notFace_of_selects (args := #[]) (mvT hZ (own_w hw 77 rfl))) (own_w hw 77 rfl) (own_w hw 76 rfl) (own_w hw 16 rfl) (own_w hw 78 rfl) (by decide) e1 PA.1 (rmCo99 l Z a0 hw a  h0 n0 Z0 O0 cs SC hcs ya ka PA) (by decide) (by decide) (by decide) (by decide) rfl (by rw [hml]; rfl) (argsL := []) (rest := [(.int 1)]) rfl (lenOf pd_0 rfl) rfl (own_le20 rfl) (hb hby d11_6) ?_
  rintro v3 T3 L3 X3 ⟨rfl, N3q, e3⟩
  have N3 := Fr.app (Fr.nil n0) N3q
  show Goes p e below _ T3 (mkF m 9 #[sR a] [(.int 0), (.int 1)])
  refine Goes.on (T' := T3) (g' := (mkF m 10 #[sR a] [(.int 1)])) (fun _ k => XS.ishr X3.here hx rfl (hb hby d11_9) rfl k) ?_
  exact Goes.retI X3 hx hlk hret (hb hby d11_10) (by decide) (by decide) ⟨rfl, N3, e3⟩
theorem rmLc99 (l : Launch) (Z : State) (a0 : Array Value) (hw : TW Z a0) (ya : Addr) (h0 : Heap) (n0 : Nat) (Z0 : n0 ≤ h0.size) (O0 : Old Z n0 h0) (BA : Arf Z h0 ya .byte Value.int 1 (fun i => ([(99 : Int32)] : List Int32).getD i 0)) (sf : Value) (SF : Sta Z Z.heap "jdk/internal/util/Preconditions" "SIOOBE_FORMATTER" "Ljava/util/function/BiFunction;" sf) (hsf : sf.isRef = true) :
    Pays l Z (⟨"java/lang/StringLatin1", "charAt", "([BI)C"⟩ : MethodName) jdk_43_method_2_code 2 (some .char) [] ({ frames := 2, cells := 0, slots := 0, locals := 27 } : Room) #[(.ref ya), (.int (0 : Int32))] h0 (fun v h L => v = some (.int (99 : Int32)) ∧ Fr n0 L ∧ h = h0) := by
  refine Pays.walk (plainFor_of_name pn_4) (fun m => ef_3 m ya (0 : Int32) ) ?_
  intro p e s m below meth c T0 X0 hx hby hml hown hnm hZ e0 hret hlk
  have dc := @Jvm.hb _ _ hby
  refine Goes.on (T' := T0) (g' := (mkF m 3 #[sR ya, sI 0] [(.int 1), (.int 0)])) (fun _ k => XS.iloadN X0.here hx rfl (dc d15_0) rfl (XS.aloadN X0.here hx rfl (dc d15_1) rfl rfl (aLenm X0 hx hZ e0 BA (dc d15_2) k))) ?_
  refine Goes.callS X0 hx hZ 0 hown (own_w hw 95 rfl) (own_w hw 96 rfl) (own_w hw 16 rfl) (own_w hw 97 rfl) (by decide) e0 (rmSc l Z a0 hw h0 n0 Z0 O0 sf SF hsf) (by decide) (by decide) (by decide) (by decide) rfl (by rw [hml]; rfl) (argsL := [(.int 0), (.int 1)]) (rest := []) rfl (lenOf pd_2 rfl) rfl (own_le20 rfl) (dc d15_3) ?_
  rintro v2 T2 L2 X2 ⟨rfl, N2q, e2⟩
  have N2 := Fr.app (Fr.nil n0) N2q
  show Goes p e below _ T2 (mkF m 6 #[sR ya, sI 0] [])
  refine Goes.on (T' := T2) (g' := (mkF m 14 #[sR ya, sI 0] [(.int 99)])) (fun _ k => XS.aloadN X2.here hx rfl (dc d15_6) rfl rfl (XS.iloadN X2.here hx rfl (dc d15_7) rfl (ldYm X2 hx hZ e2 BA (by decide) (dc d15_8) (XS.sipush X2.here hx rfl (dc d15_9) (XS.iand X2.here hx rfl (dc d15_12) rfl (XS.i2c X2.here hx rfl (dc d15_13) rfl k)))))) ?_
  exact Goes.retC X2 hx hlk hret rfl (dc d15_14) (by decide) (by decide) ⟨rfl, N2, e2⟩
theorem rmCh99 (l : Launch) (Z : State) (a0 : Array Value) (hw : TW Z a0) (a : Addr) (h0 : Heap) (n0 : Nat) (Z0 : n0 ≤ h0.size) (O0 : Old Z n0 h0) (cs : Int32) (SC : Sta Z Z.heap "java/lang/String" "COMPACT_STRINGS" "Z" (.int cs)) (hcs : ¬ cs = (0 : Int32)) (ya : Addr) (ka : ClassId) (PA : Str Z h0 a ya ka (Int32.ofNat 1) [Value.int (99 : Int32)]) (sf : Value) (SF : Sta Z Z.heap "jdk/internal/util/Preconditions" "SIOOBE_FORMATTER" "Ljava/util/function/BiFunction;" sf) (hsf : sf.isRef = true) :
    Pays l Z (⟨"java/lang/String", "charAt", "(I)C"⟩ : MethodName) jdk_42_method_56_code 2 (some .char) [] ({ frames := 3, cells := 0, slots := 0, locals := 40 } : Room) #[(.ref a), (.int (0 : Int32))] h0 (fun v h L => v = some (.int (99 : Int32)) ∧ Fr n0 L ∧ h = h0) := by
  refine Pays.walk (plainFor_of_name pn_2) (fun m => ef_3 m a (0 : Int32) ) ?_
  intro p e s m below meth c T0 X0 hx hby hml hown hnm hZ e0 hret hlk
  have ow := @own_w Z a0 hw
  have BA : Arf Z h0 ya .byte Value.int 1 (fun i => ([(99 : Int32)] : List Int32).getD i 0) := Arv.arf PA.2.2.2 (by decide) (own_lt1 rfl)
  refine Goes.on (T' := T0) (g' := (mkF m 1 #[sR a, sI 0] [(.ref a)])) (fun _ k => XS.aloadN X0.here hx rfl (hb hby d13_0) rfl rfl k) ?_
  refine Goes.callV X0 hx hZ 0 hown (ow 86 rfl) (ow 87 rfl) (notFace_of_selects (args := #[]) (mvT hZ (ow 89 rfl))) (ow 89 rfl) (ow 88 rfl) (ow 16 rfl) (ow 90 rfl) (by decide) e0 PA.1 (rmIl99 l Z a0 hw a h0 n0 Z0 O0 cs SC hcs ya ka PA) (by decide) (by decide) (by decide) (by decide) rfl (by rw [hml]; rfl) (argsL := []) (rest := []) rfl (lenOf pd_3 rfl) rfl (own_le20 rfl) (hb hby d13_1) ?_
  rintro v1 T1 L1 X1 ⟨rfl, N1q, e1⟩
  show Goes p e below _ T1 (mkF m 4 #[sR a, sI 0] [(.int 1)])
  obtain ⟨T2, X2, e2, st2⟩ := getF X1 hx hZ hown (host := "") (Or.inl (ow 68 rfl)) Via.refl e1 PA.2.2.1 (g := (mkF m 8 #[sR a, sI 0] [(.ref a)])) rfl rfl (hb hby d13_8)
  refine Goes.on (T' := T2) (g' := (mkF m 12 #[sR a, sI 0] [(.int 0), (.ref ya)])) (fun _ k => XS.ifNo X1.here hx rfl (hb hby d13_4) rfl (XT.i0_eq_f (by decide)) (XS.aloadN X1.here hx rfl (hb hby d13_7) rfl rfl (st2 _ (XS.iloadN X2.here hx rfl (hb hby d13_11) rfl k)))) ?_
  refine Goes.callS X2 hx hZ 0 hown (ow 91 rfl) (ow 92 rfl) (ow 93 rfl) (ow 94 rfl) (by decide) e2 (rmLc99 l Z a0 hw ya h0 n0 Z0 O0 BA sf SF hsf) (by decide) (by decide) (by decide) (by decide) rfl (by rw [hml]; rfl) (argsL := [(.ref ya), (.int 0)]) (rest := []) rfl (lenOf pd_4 rfl) rfl (own_le20 rfl) (hb hby d13_12) ?_
  rintro v3 T3 L3 X3 ⟨rfl, N3q, e3⟩
  have N3 := Fr.app (Fr.app (Fr.nil n0) N1q) N3q
  show Goes p e below _ T3 (mkF m 15 #[sR a, sI 0] [(.int 99)])
  exact Goes.retC X3 hx hlk hret rfl (hb hby d13_15) (by decide) (by decide) ⟨rfl, N3, e3⟩
abbrev c7C := jdk_31_method_11_code
theorem d7_0 : decode c7C 0 = .ok (.aload_n 0, 1) := by decide +kernel
theorem d7_1 : decode c7C 1 = .ok (.ifnonnull 12, 3) := by decide +kernel
theorem d7_13 : decode c7C 13 = .ok (.aload_n 0, 1) := by decide +kernel
theorem d7_14 : decode c7C 14 = .ok (.areturn, 1) := by decide +kernel
theorem ef_4 (m : MethodId) (x0 : Addr) (x1 : Addr) : entryFrame m #[(.ref x0), (.ref x1)] 2 = mkF m 0 #[.val (.ref x0), .val (.ref x1)] [] := by first | (simp [entryFrame, mkF, argsToLocals, Value.category]; done) | rfl
theorem pn_5 : plainName "java/util/Objects" = true := by first | (simp [plainName, overriddenIn]; done) | decide +kernel
def FQ (x0 : Addr) (x1 : Addr) : Value := (.ref x0)
theorem rmQ (l : Launch) (Z : State) (a0 : Array Value) (hw : TW Z a0) (x0 : Addr) (x1 : Addr) (h0 : Heap) (n0 : Nat) (Z0 : n0 ≤ h0.size) :
    Pays l Z (⟨"java/util/Objects", "requireNonNull", "(Ljava/lang/Object;Ljava/lang/String;)Ljava/lang/Object;"⟩ : MethodName) jdk_31_method_11_code 2 (some (.object "java/lang/Object")) [] ({ frames := 0, cells := 0, slots := 0, locals := 0 } : Room) #[(.ref x0), (.ref x1)] h0 (fun v h L => v = some (FQ x0 x1) ∧ Fr n0 L ∧ h = h0) := by
  refine Pays.walk (plainFor_of_name pn_5) (fun m => ef_4 m x0 x1 ) ?_
  intro p e s m below meth c T0 X0 hx hby hml hown hnm hZ e0 hret hlk
  have N0 := Fr.nil n0
  refine Goes.on (T' := T0) (g' := (mkF m 14 #[sR x0, sR x1] [(.ref x0)])) (fun _ k => XS.aloadN X0.here hx rfl (hb hby d7_0) rfl rfl (XT.ifnonnullYes X0.here hx rfl (pc0 := 1) (pc' := 13) rfl (hb hby d7_1) rfl (by decide) (by decide) (XS.aloadN X0.here hx rfl (hb hby d7_13) rfl rfl k))) ?_
  exact Goes.retA X0 hx hlk hret rfl rfl (hb hby d7_14) (by decide) (by decide) ⟨(rfl), N0, e0⟩
abbrev c9C := prog_70_method_6_code
theorem d9_0 : decode c9C 0 = .ok (.aload_n 0, 1) := by decide +kernel
theorem d9_1 : decode c9C 1 = .ok (.invokevirtual 86, 3) := by decide +kernel
theorem d9_4 : decode c9C 4 = .ok (.ifCond .ne 12, 3) := by decide +kernel
theorem d9_7 : decode c9C 7 = .ok (.aload_n 0, 1) := by decide +kernel
theorem pd_5 : parseMethodDescriptor "()I" = some ⟨[], some .int⟩ := by decide +kernel
theorem d9_8 : decode c9C 8 = .ok (.invokevirtual 87, 3) := by decide +kernel
theorem d9_11 : decode c9C 11 = .ok (.bipush 32, 2) := by decide +kernel
theorem d9_13 : decode c9C 13 = .ok (.if_icmp .le 5, 3) := by decide +kernel
theorem d9_18 : decode c9C 18 = .ok (.iconst 0, 1) := by decide +kernel
theorem d9_19 : decode c9C 19 = .ok (.istore_n 1, 1) := by decide +kernel
theorem d9_20 : decode c9C 20 = .ok (.iload_n 1, 1) := by decide +kernel
theorem d9_21 : decode c9C 21 = .ok (.aload_n 0, 1) := by decide +kernel
theorem d9_22 : decode c9C 22 = .ok (.invokevirtual 87, 3) := by decide +kernel
theorem d9_25 : decode c9C 25 = .ok (.if_icmp .ge 33, 3) := by decide +kernel
theorem d9_28 : decode c9C 28 = .ok (.aload_n 0, 1) := by decide +kernel
theorem d9_29 : decode c9C 29 = .ok (.iload_n 1, 1) := by decide +kernel
theorem pd_6 : parseMethodDescriptor "(I)C" = some ⟨[.int], some .char⟩ := by decide +kernel
theorem d9_30 : decode c9C 30 = .ok (.invokevirtual 91, 3) := by decide +kernel
theorem d9_33 : decode c9C 33 = .ok (.istore_n 2, 1) := by decide +kernel
theorem d9_34 : decode c9C 34 = .ok (.iload_n 2, 1) := by decide +kernel
theorem d9_35 : decode c9C 35 = .ok (.getstatic 95, 3) := by decide +kernel
theorem d9_38 : decode c9C 38 = .ok (.arraylength, 1) := by decide +kernel
theorem d9_39 : decode c9C 39 = .ok (.if_icmp .ge 11, 3) := by decide +kernel
theorem d9_42 : decode c9C 42 = .ok (.getstatic 95, 3) := by decide +kernel
theorem d9_45 : decode c9C 45 = .ok (.iload_n 2, 1) := by decide +kernel
theorem d9_46 : decode c9C 46 = .ok (.baload, 1) := by decide +kernel
theorem d9_47 : decode c9C 47 = .ok (.ifCond .ne 5, 3) := by decide +kernel
theorem d9_52 : decode c9C 52 = .ok (.iinc 1 1, 3) := by decide +kernel
theorem d9_55 : decode c9C 55 = .ok (.goto (-35), 3) := by decide +kernel
theorem d9_58 : decode c9C 58 = .ok (.iconst 1, 1) := by decide +kernel
theorem d9_59 : decode c9C 59 = .ok (.ireturn, 1) := by decide +kernel
theorem ef_5 (m : MethodId) (x0 : Addr) : entryFrame m #[(.ref x0)] 3 = mkF m 0 #[.val (.ref x0), .unset, .unset] [] := by first | (simp [entryFrame, mkF, argsToLocals, Value.category]; done) | rfl
theorem pn_6 : plainName "com/example/uncross/uncross/model/Order" = true := by first | (simp [plainName, overriddenIn]; done) | decide +kernel
theorem rmVa97 (l : Launch) (Z : State) (a0 : Array Value) (hw : TW Z a0) (a : Addr) (h0 : Heap) (n0 : Nat) (Z0 : n0 ≤ h0.size) (O0 : Old Z n0 h0) (cs : Int32) (SC : Sta Z Z.heap "java/lang/String" "COMPACT_STRINGS" "Z" (.int cs)) (hcs : ¬ cs = (0 : Int32)) (ya : Addr) (ka : ClassId) (PA : Str Z h0 a ya ka (Int32.ofNat 1) [Value.int (97 : Int32)]) (sf : Value) (SF : Sta Z Z.heap "jdk/internal/util/Preconditions" "SIOOBE_FORMATTER" "Ljava/util/function/BiFunction;" sf) (hsf : sf.isRef = true) (ic : Addr) (SI : Sta Z Z.heap "com/example/uncross/uncross/model/Order" "ID_CHARACTERS" "[Z" (.ref ic)) (icf : Nat → Int32) (IC : Arf Z Z.heap ic .boolean Value.int 128 icf) (hic : ¬ icf 97 = (0 : Int32)) :
    Pays l Z (⟨"com/example/uncross/uncross/model/Order", "isValidId", "(Ljava/lang/String;)Z"⟩ : MethodName) prog_70_method_6_code 3 (some .boolean) [] ({ frames := 4, cells := 0, slots := 0, locals := 54 } : Room) #[(.ref a)] h0 (fun v h L => v = some (.int (1 : Int32)) ∧ Fr n0 L ∧ h = h0) := by
  refine Pays.walk (plainFor_of_name pn_6) (fun m => ef_5 m a ) ?_
  intro p e s m below meth c T0 X0 hx hby hml hown hnm hZ e0 hret hlk
  have dc := @Jvm.hb _ _ hby
  have ow := @own_w Z a0 hw
  have BA : Arf Z h0 ya .byte Value.int 1 (fun i => ([(97 : Int32)] : List Int32).getD i 0) := Arv.arf PA.2.2.2 (by decide) (own_lt1 rfl)
  have IC0 : Arf Z h0 ic .boolean Value.int 128 icf := Arf.ext IC O0.2
  refine Goes.on (T' := T0) (g' := (mkF m 1 #[sR a, su, su] [(.ref a)])) (fun _ k => XS.aloadN X0.here hx rfl (dc d9_0) rfl rfl k) ?_
  refine Goes.callV X0 hx hZ 0 hown (ow 63 rfl) (ow 64 rfl) (notFace_of_selects (args := #[]) (mvT hZ (ow 66 rfl))) (ow 66 rfl) (ow 65 rfl) (ow 16 rfl) (ow 67 rfl) (by decide) e0 PA.1 (rmEm97 l Z a0 hw a h0 n0 Z0 O0 cs SC hcs ya ka PA) (by decide) (by decide) (by decide) (by decide) rfl (by rw [hml]; rfl) (argsL := []) (rest := []) rfl (lenOf pd_3 rfl) rfl (own_le20 rfl) (dc d9_1) ?_
  rintro v1 T1 L1 X1 ⟨rfl, N1q, e1⟩
  show Goes p e below _ T1 (mkF m 4 #[sR a, su, su] [(.int 0)])
  refine Goes.on (T' := T1) (g' := (mkF m 8 #[sR a, su, su] [(.ref a)])) (fun _ k => XS.ifNo X1.here hx rfl (dc d9_4) rfl (XT.i0_ne_f (by decide)) (XS.aloadN X1.here hx rfl (dc d9_7) rfl rfl k)) ?_
  refine Goes.callV X1 hx hZ 0 hown (ow 69 rfl) (ow 70 rfl) (notFace_of_selects (args := #[]) (mvT hZ (ow 72 rfl))) (ow 72 rfl) (ow 71 rfl) (ow 16 rfl) (ow 73 rfl) (by decide) e1 PA.1 (rmLn97 l Z a0 hw a h0 n0 Z0 O0 cs SC hcs ya ka PA) (by decide) (by decide) (by decide) (by decide) rfl (by rw [hml]; rfl) (argsL := []) (rest := []) rfl (lenOf pd_5 rfl) rfl (own_le20 rfl) (dc d9_8) ?_
  rintro v2 T2 L2 X2 ⟨rfl, N2q, e2⟩
  show Goes p e below _ T2 (mkF m 11 #[sR a, su, su] [(.int 1)])
  refine Goes.on (T' := T2) (g' := (mkF m 22 #[sR a, sI 0, su] [(.ref a), (.int 0)])) (fun _ k => XS.bipush X2.here hx rfl (dc d9_11) (XS.icmpYes X2.here hx rfl (pc0 := 13) (pc' := 18) rfl (dc d9_13) rfl (XT.ii_le_t (by decide)) (by decide) (by decide) (XS.iconst X2.here hx rfl (dc d9_18) (XS.istoreN X2.here hx rfl (dc d9_19) rfl (l' := #[sR a, sI 0, su]) rfl (XS.iloadN X2.here hx rfl (dc d9_20) rfl (XS.aloadN X2.here hx rfl (dc d9_21) rfl rfl k)))))) ?_
  refine Goes.callV X2 hx hZ 1 hown (ow 69 rfl) (ow 70 rfl) (notFace_of_selects (args := #[]) (mvT hZ (ow 72 rfl))) (ow 72 rfl) (ow 71 rfl) (ow 16 rfl) (ow 73 rfl) (by decide) e2 PA.1 (rmLn97 l Z a0 hw a h0 n0 Z0 O0 cs SC hcs ya ka PA) (by decide) (by decide) (by decide) (by decide) rfl (by rw [hml]; rfl) (argsL := []) (rest := [(.int 0)]) rfl (lenOf pd_5 rfl) rfl (own_le20 rfl) (dc d9_22) ?_
  rintro v3 T3 L3 X3 ⟨rfl, N3q, e3⟩
  show Goes p e below _ T3 (mkF m 25 #[sR a, sI 0, su] [(.int 1), (.int 0)])
  refine Goes.on (T' := T3) (g' := (mkF m 30 #[sR a, sI 0, su] [(.int 0), (.ref a)])) (fun _ k => XS.icmpNo X3.here hx rfl (dc d9_25) rfl (XT.ii_ge_f (by decide)) (XS.aloadN X3.here hx rfl (dc d9_28) rfl rfl (XS.iloadN X3.here hx rfl (dc d9_29) rfl k))) ?_
  refine Goes.callV X3 hx hZ 0 hown (ow 81 rfl) (ow 82 rfl) (notFace_of_selects (args := #[]) (mvT hZ (ow 84 rfl))) (ow 84 rfl) (ow 83 rfl) (ow 16 rfl) (ow 85 rfl) (by decide) e3 PA.1 (rmCh97 l Z a0 hw a h0 n0 Z0 O0 cs SC hcs ya ka PA sf SF hsf) (by decide) (by decide) (by decide) (by decide) rfl (by rw [hml]; rfl) (argsL := [(.int 0)]) (rest := []) rfl (lenOf pd_6 rfl) rfl (own_le20 rfl) (dc d9_30) ?_
  rintro v4 T4 L4 X4 ⟨rfl, N4q, e4⟩
  show Goes p e below _ T4 (mkF m 33 #[sR a, sI 0, su] [(.int 97)])
  obtain ⟨T5, X5, e5, st5⟩ := getS (host := "") X4 hx hZ hown (ow 103 rfl) Via.refl e4 (Sta.ext O0.2 SI) (g := (mkF m 35 #[sR a, sI 0, sI 97] [(.int 97)])) rfl (dc d9_35)
  obtain ⟨T7, X7, e7, st7⟩ := getS (host := "") X5 hx hZ hown (ow 103 rfl) Via.refl e5 (Sta.ext O0.2 SI) (g := (mkF m 42 #[sR a, sI 0, sI 97] [])) rfl (dc d9_42)
  refine Goes.on (T' := T7) (g' := (mkF m 22 #[sR a, sI 1, sI 97] [(.ref a), (.int 1)])) (fun _ k => XS.istoreN X4.here hx rfl (dc d9_33) rfl (l' := #[sR a, sI 0, sI 97]) rfl (XS.iloadN X4.here hx rfl (dc d9_34) rfl (st5 _ (aLenm X5 hx hZ e5 IC0 (dc d9_38) (XS.icmpNo X5.here hx rfl (dc d9_39) rfl (XT.ii_ge_f (by decide)) (st7 _ (XS.iloadN X7.here hx rfl (dc d9_45) rfl (ldZm X7 hx hZ e7 IC0 (by decide) (dc d9_46) (XS.ifYes X7.here hx rfl (pc0 := 47) (pc' := 52) rfl (dc d9_47) rfl (XT.i0_ne_t hic) (by decide) (by decide) (XT.iincV X7.here hx rfl (1 : Int32) (dc d9_52) (by decide) rfl (l' := #[sR a, sI 1, sI 97]) rfl (XS.goto X7.here hx rfl (pc0 := 55) (pc' := 20) rfl (dc d9_55) (by decide) (by decide) (XS.iloadN X7.here hx rfl (dc d9_20) rfl (XS.aloadN X7.here hx rfl (dc d9_21) rfl rfl k))))))))))))) ?_
  refine Goes.callV X7 hx hZ 1 hown (ow 69 rfl) (ow 70 rfl) (notFace_of_selects (args := #[]) (mvT hZ (ow 72 rfl))) (ow 72 rfl) (ow 71 rfl) (ow 16 rfl) (ow 73 rfl) (by decide) e7 PA.1 (rmLn97 l Z a0 hw a h0 n0 Z0 O0 cs SC hcs ya ka PA) (by decide) (by decide) (by decide) (by decide) rfl (by rw [hml]; rfl) (argsL := []) (rest := [(.int 1)]) rfl (lenOf pd_5 rfl) rfl (own_le20 rfl) (dc d9_22) ?_
  rintro v9 T9 L9 X9 ⟨rfl, N9q, e9⟩
  have N9 := Fr.app (Fr.app (Fr.app (Fr.app (Fr.app (Fr.nil n0) N1q) N2q) N3q) N4q) N9q
  show Goes p e below _ T9 (mkF m 25 #[sR a, sI 1, sI 97] [(.int 1), (.int 1)])
  refine Goes.on (T' := T9) (g' := (mkF m 59 #[sR a, sI 1, sI 97] [(.int 1)])) (fun _ k => XS.icmpYes X9.here hx rfl (pc0 := 25) (pc' := 58) rfl (dc d9_25) rfl (XT.ii_ge_t (by decide)) (by decide) (by decide) (XS.iconst X9.here hx rfl (dc d9_58) k)) ?_
  exact Goes.retB X9 hx hlk hret (Or.inr rfl) (dc d9_59) (by decide) (by decide) ⟨rfl, N9, e9⟩
theorem rmVa98 (l : Launch) (Z : State) (a0 : Array Value) (hw : TW Z a0) (a : Addr) (h0 : Heap) (n0 : Nat) (Z0 : n0 ≤ h0.size) (O0 : Old Z n0 h0) (cs : Int32) (SC : Sta Z Z.heap "java/lang/String" "COMPACT_STRINGS" "Z" (.int cs)) (hcs : ¬ cs = (0 : Int32)) (ya : Addr) (ka : ClassId) (PA : Str Z h0 a ya ka (Int32.ofNat 1) [Value.int (98 : Int32)]) (sf : Value) (SF : Sta Z Z.heap "jdk/internal/util/Preconditions" "SIOOBE_FORMATTER" "Ljava/util/function/BiFunction;" sf) (hsf : sf.isRef = true) (ic : Addr) (SI : Sta Z Z.heap "com/example/uncross/uncross/model/Order" "ID_CHARACTERS" "[Z" (.ref ic)) (icf : Nat → Int32) (IC : Arf Z Z.heap ic .boolean Value.int 128 icf) (hic : ¬ icf 98 = (0 : Int32)) :
    Pays l Z (⟨"com/example/uncross/uncross/model/Order", "isValidId", "(Ljava/lang/String;)Z"⟩ : MethodName) prog_70_method_6_code 3 (some .boolean) [] ({ frames := 4, cells := 0, slots := 0, locals := 54 } : Room) #[(.ref a)] h0 (fun v h L => v = some (.int (1 : Int32)) ∧ Fr n0 L ∧ h = h0) := by
  refine Pays.walk (plainFor_of_name pn_6) (fun m => ef_5 m a ) ?_
  intro p e s m below meth c T0 X0 hx hby hml hown hnm hZ e0 hret hlk
  have dc := @Jvm.hb _ _ hby
  have ow := @own_w Z a0 hw
  have BA : Arf Z h0 ya .byte Value.int 1 (fun i => ([(98 : Int32)] : List Int32).getD i 0) := Arv.arf PA.2.2.2 (by decide) (own_lt1 rfl)
  have IC0 : Arf Z h0 ic .boolean Value.int 128 icf := Arf.ext IC O0.2
  refine Goes.on (T' := T0) (g' := (mkF m 1 #[sR a, su, su] [(.ref a)])) (fun _ k => XS.aloadN X0.here hx rfl (dc d9_0) rfl rfl k) ?_
  refine Goes.callV X0 hx hZ 0 hown (ow 63 rfl) (ow 64 rfl) (notFace_of_selects (args := #[]) (mvT hZ (ow 66 rfl))) (ow 66 rfl) (ow 65 rfl) (ow 16 rfl) (ow 67 rfl) (by decide) e0 PA.1 (rmEm98 l Z a0 hw a h0 n0 Z0 O0 cs SC hcs ya ka PA) (by decide) (by decide) (by decide) (by decide) rfl (by rw [hml]; rfl) (argsL := []) (rest := []) rfl (lenOf pd_3 rfl) rfl (own_le20 rfl) (dc d9_1) ?_
  rintro v1 T1 L1 X1 ⟨rfl, N1q, e1⟩
  show Goes p e below _ T1 (mkF m 4 #[sR a, su, su] [(.int 0)])
  refine Goes.on (T' := T1) (g' := (mkF m 8 #[sR a, su, su] [(.ref a)])) (fun _ k => XS.ifNo X1.here hx rfl (dc d9_4) rfl (XT.i0_ne_f (by decide)) (XS.aloadN X1.here hx rfl (dc d9_7) rfl rfl k)) ?_
  refine Goes.callV X1 hx hZ 0 hown (ow 69 rfl) (ow 70 rfl) (notFace_of_selects (args := #[]) (mvT hZ (ow 72 rfl))) (ow 72 rfl) (ow 71 rfl) (ow 16 rfl) (ow 73 rfl) (by decide) e1 PA.1 (rmLn98 l Z a0 hw a h0 n0 Z0 O0 cs SC hcs ya ka PA) (by decide) (by decide) (by decide) (by decide) rfl (by rw [hml]; rfl) (argsL := []) (rest := []) rfl (lenOf pd_5 rfl) rfl (own_le20 rfl) (dc d9_8) ?_
  rintro v2 T2 L2 X2 ⟨rfl, N2q, e2⟩
  show Goes p e below _ T2 (mkF m 11 #[sR a, su, su] [(.int 1)])
  refine Goes.on (T' := T2) (g' := (mkF m 22 #[sR a, sI 0, su] [(.ref a), (.int 0)])) (fun _ k => XS.bipush X2.here hx rfl (dc d9_11) (XS.icmpYes X2.here hx rfl (pc0 := 13) (pc' := 18) rfl (dc d9_13) rfl (XT.ii_le_t (by decide)) (by decide) (by decide) (XS.iconst X2.here hx rfl (dc d9_18) (XS.istoreN X2.here hx rfl (dc d9_19) rfl (l' := #[sR a, sI 0, su]) rfl (XS.iloadN X2.here hx rfl (dc d9_20) rfl (XS.aloadN X2.here hx rfl (dc d9_21) rfl rfl k)))))) ?_
  refine Goes.callV X2 hx hZ 1 hown (ow 69 rfl) (ow 70 rfl) (notFace_of_selects (args := #[]) (mvT hZ (ow 72 rfl))) (ow 72 rfl) (ow 71 rfl) (ow 16 rfl) (ow 73 rfl) (by decide) e2 PA.1 (rmLn98 l Z a0 hw a h0 n0 Z0 O0 cs SC hcs ya ka PA) (by decide) (by decide) (by decide) (by decide) rfl (by rw [hml]; rfl) (argsL := []) (rest := [(.int 0)]) rfl (lenOf pd_5 rfl) rfl (own_le20 rfl) (dc d9_22) ?_
  rintro v3 T3 L3 X3 ⟨rfl, N3q, e3⟩
  show Goes p e below _ T3 (mkF m 25 #[sR a, sI 0, su] [(.int 1), (.int 0)])
  refine Goes.on (T' := T3) (g' := (mkF m 30 #[sR a, sI 0, su] [(.int 0), (.ref a)])) (fun _ k => XS.icmpNo X3.here hx rfl (dc d9_25) rfl (XT.ii_ge_f (by decide)) (XS.aloadN X3.here hx rfl (dc d9_28) rfl rfl (XS.iloadN X3.here hx rfl (dc d9_29) rfl k))) ?_
  refine Goes.callV X3 hx hZ 0 hown (ow 81 rfl) (ow 82 rfl) (notFace_of_selects (args := #[]) (mvT hZ (ow 84 rfl))) (ow 84 rfl) (ow 83 rfl) (ow 16 rfl) (ow 85 rfl) (by decide) e3 PA.1 (rmCh98 l Z a0 hw a h0 n0 Z0 O0 cs SC hcs ya ka PA sf SF hsf) (by decide) (by decide) (by decide) (by decide) rfl (by rw [hml]; rfl) (argsL := [(.int 0)]) (rest := []) rfl (lenOf pd_6 rfl) rfl (own_le20 rfl) (dc d9_30) ?_
  rintro v4 T4 L4 X4 ⟨rfl, N4q, e4⟩
  show Goes p e below _ T4 (mkF m 33 #[sR a, sI 0, su] [(.int 98)])
  obtain ⟨T5, X5, e5, st5⟩ := getS (host := "") X4 hx hZ hown (ow 103 rfl) Via.refl e4 (Sta.ext O0.2 SI) (g := (mkF m 35 #[sR a, sI 0, sI 98] [(.int 98)])) rfl (dc d9_35)
  obtain ⟨T7, X7, e7, st7⟩ := getS (host := "") X5 hx hZ hown (ow 103 rfl) Via.refl e5 (Sta.ext O0.2 SI) (g := (mkF m 42 #[sR a, sI 0, sI 98] [])) rfl (dc d9_42)
  refine Goes.on (T' := T7) (g' := (mkF m 22 #[sR a, sI 1, sI 98] [(.ref a), (.int 1)])) (fun _ k => XS.istoreN X4.here hx rfl (dc d9_33) rfl (l' := #[sR a, sI 0, sI 98]) rfl (XS.iloadN X4.here hx rfl (dc d9_34) rfl (st5 _ (aLenm X5 hx hZ e5 IC0 (dc d9_38) (XS.icmpNo X5.here hx rfl (dc d9_39) rfl (XT.ii_ge_f (by decide)) (st7 _ (XS.iloadN X7.here hx rfl (dc d9_45) rfl (ldZm X7 hx hZ e7 IC0 (by decide) (dc d9_46) (XS.ifYes X7.here hx rfl (pc0 := 47) (pc' := 52) rfl (dc d9_47) rfl (XT.i0_ne_t hic) (by decide) (by decide) (XT.iincV X7.here hx rfl (1 : Int32) (dc d9_52) (by decide) rfl (l' := #[sR a, sI 1, sI 98]) rfl (XS.goto X7.here hx rfl (pc0 := 55) (pc' := 20) rfl (dc d9_55) (by decide) (by decide) (XS.iloadN X7.here hx rfl (dc d9_20) rfl (XS.aloadN X7.here hx rfl (dc d9_21) rfl rfl k))))))))))))) ?_
  refine Goes.callV X7 hx hZ 1 hown (ow 69 rfl) (ow 70 rfl) (notFace_of_selects (args := #[]) (mvT hZ (ow 72 rfl))) (ow 72 rfl) (ow 71 rfl) (ow 16 rfl) (ow 73 rfl) (by decide) e7 PA.1 (rmLn98 l Z a0 hw a h0 n0 Z0 O0 cs SC hcs ya ka PA) (by decide) (by decide) (by decide) (by decide) rfl (by rw [hml]; rfl) (argsL := []) (rest := [(.int 1)]) rfl (lenOf pd_5 rfl) rfl (own_le20 rfl) (dc d9_22) ?_
  rintro v9 T9 L9 X9 ⟨rfl, N9q, e9⟩
  have N9 := Fr.app (Fr.app (Fr.app (Fr.app (Fr.app (Fr.nil n0) N1q) N2q) N3q) N4q) N9q
  show Goes p e below _ T9 (mkF m 25 #[sR a, sI 1, sI 98] [(.int 1), (.int 1)])
  refine Goes.on (T' := T9) (g' := (mkF m 59 #[sR a, sI 1, sI 98] [(.int 1)])) (fun _ k => XS.icmpYes X9.here hx rfl (pc0 := 25) (pc' := 58) rfl (dc d9_25) rfl (XT.ii_ge_t (by decide)) (by decide) (by decide) (XS.iconst X9.here hx rfl (dc d9_58) k)) ?_
  exact Goes.retB X9 hx hlk hret (Or.inr rfl) (dc d9_59) (by decide) (by decide) ⟨rfl, N9, e9⟩
theorem rmVa99 (l : Launch) (Z : State) (a0 : Array Value) (hw : TW Z a0) (a : Addr) (h0 : Heap) (n0 : Nat) (Z0 : n0 ≤ h0.size) (O0 : Old Z n0 h0) (cs : Int32) (SC : Sta Z Z.heap "java/lang/String" "COMPACT_STRINGS" "Z" (.int cs)) (hcs : ¬ cs = (0 : Int32)) (ya : Addr) (ka : ClassId) (PA : Str Z h0 a ya ka (Int32.ofNat 1) [Value.int (99 : Int32)]) (sf : Value) (SF : Sta Z Z.heap "jdk/internal/util/Preconditions" "SIOOBE_FORMATTER" "Ljava/util/function/BiFunction;" sf) (hsf : sf.isRef = true) (ic : Addr) (SI : Sta Z Z.heap "com/example/uncross/uncross/model/Order" "ID_CHARACTERS" "[Z" (.ref ic)) (icf : Nat → Int32) (IC : Arf Z Z.heap ic .boolean Value.int 128 icf) (hic : ¬ icf 99 = (0 : Int32)) :
    Pays l Z (⟨"com/example/uncross/uncross/model/Order", "isValidId", "(Ljava/lang/String;)Z"⟩ : MethodName) prog_70_method_6_code 3 (some .boolean) [] ({ frames := 4, cells := 0, slots := 0, locals := 54 } : Room) #[(.ref a)] h0 (fun v h L => v = some (.int (1 : Int32)) ∧ Fr n0 L ∧ h = h0) := by
  refine Pays.walk (plainFor_of_name pn_6) (fun m => ef_5 m a ) ?_
  intro p e s m below meth c T0 X0 hx hby hml hown hnm hZ e0 hret hlk
  have dc := @Jvm.hb _ _ hby
  have ow := @own_w Z a0 hw
  have BA : Arf Z h0 ya .byte Value.int 1 (fun i => ([(99 : Int32)] : List Int32).getD i 0) := Arv.arf PA.2.2.2 (by decide) (own_lt1 rfl)
  have IC0 : Arf Z h0 ic .boolean Value.int 128 icf := Arf.ext IC O0.2
  refine Goes.on (T' := T0) (g' := (mkF m 1 #[sR a, su, su] [(.ref a)])) (fun _ k => XS.aloadN X0.here hx rfl (dc d9_0) rfl rfl k) ?_
  refine Goes.callV X0 hx hZ 0 hown (ow 63 rfl) (ow 64 rfl) (notFace_of_selects (args := #[]) (mvT hZ (ow 66 rfl))) (ow 66 rfl) (ow 65 rfl) (ow 16 rfl) (ow 67 rfl) (by decide) e0 PA.1 (rmEm99 l Z a0 hw a h0 n0 Z0 O0 cs SC hcs ya ka PA) (by decide) (by decide) (by decide) (by decide) rfl (by rw [hml]; rfl) (argsL := []) (rest := []) rfl (lenOf pd_3 rfl) rfl (own_le20 rfl) (dc d9_1) ?_
  rintro v1 T1 L1 X1 ⟨rfl, N1q, e1⟩
  show Goes p e below _ T1 (mkF m 4 #[sR a, su, su] [(.int 0)])
  refine Goes.on (T' := T1) (g' := (mkF m 8 #[sR a, su, su] [(.ref a)])) (fun _ k => XS.ifNo X1.here hx rfl (dc d9_4) rfl (XT.i0_ne_f (by decide)) (XS.aloadN X1.here hx rfl (dc d9_7) rfl rfl k)) ?_
  refine Goes.callV X1 hx hZ 0 hown (ow 69 rfl) (ow 70 rfl) (notFace_of_selects (args := #[]) (mvT hZ (ow 72 rfl))) (ow 72 rfl) (ow 71 rfl) (ow 16 rfl) (ow 73 rfl) (by decide) e1 PA.1 (rmLn99 l Z a0 hw a h0 n0 Z0 O0 cs SC hcs ya ka PA) (by decide) (by decide) (by decide) (by decide) rfl (by rw [hml]; rfl) (argsL := []) (rest := []) rfl (lenOf pd_5 rfl) rfl (own_le20 rfl) (dc d9_8) ?_
  rintro v2 T2 L2 X2 ⟨rfl, N2q, e2⟩
  show Goes p e below _ T2 (mkF m 11 #[sR a, su, su] [(.int 1)])
  refine Goes.on (T' := T2) (g' := (mkF m 22 #[sR a, sI 0, su] [(.ref a), (.int 0)])) (fun _ k => XS.bipush X2.here hx rfl (dc d9_11) (XS.icmpYes X2.here hx rfl (pc0 := 13) (pc' := 18) rfl (dc d9_13) rfl (XT.ii_le_t (by decide)) (by decide) (by decide) (XS.iconst X2.here hx rfl (dc d9_18) (XS.istoreN X2.here hx rfl (dc d9_19) rfl (l' := #[sR a, sI 0, su]) rfl (XS.iloadN X2.here hx rfl (dc d9_20) rfl (XS.aloadN X2.here hx rfl (dc d9_21) rfl rfl k)))))) ?_
  refine Goes.callV X2 hx hZ 1 hown (ow 69 rfl) (ow 70 rfl) (notFace_of_selects (args := #[]) (mvT hZ (ow 72 rfl))) (ow 72 rfl) (ow 71 rfl) (ow 16 rfl) (ow 73 rfl) (by decide) e2 PA.1 (rmLn99 l Z a0 hw a h0 n0 Z0 O0 cs SC hcs ya ka PA) (by decide) (by decide) (by decide) (by decide) rfl (by rw [hml]; rfl) (argsL := []) (rest := [(.int 0)]) rfl (lenOf pd_5 rfl) rfl (own_le20 rfl) (dc d9_22) ?_
  rintro v3 T3 L3 X3 ⟨rfl, N3q, e3⟩
  show Goes p e below _ T3 (mkF m 25 #[sR a, sI 0, su] [(.int 1), (.int 0)])
  refine Goes.on (T' := T3) (g' := (mkF m 30 #[sR a, sI 0, su] [(.int 0), (.ref a)])) (fun _ k => XS.icmpNo X3.here hx rfl (dc d9_25) rfl (XT.ii_ge_f (by decide)) (XS.aloadN X3.here hx rfl (dc d9_28) rfl rfl (XS.iloadN X3.here hx rfl (dc d9_29) rfl k))) ?_
  refine Goes.callV X3 hx hZ 0 hown (ow 81 rfl) (ow 82 rfl) (notFace_of_selects (args := #[]) (mvT hZ (ow 84 rfl))) (ow 84 rfl) (ow 83 rfl) (ow 16 rfl) (ow 85 rfl) (by decide) e3 PA.1 (rmCh99 l Z a0 hw a h0 n0 Z0 O0 cs SC hcs ya ka PA sf SF hsf) (by decide) (by decide) (by decide) (by decide) rfl (by rw [hml]; rfl) (argsL := [(.int 0)]) (rest := []) rfl (lenOf pd_6 rfl) rfl (own_le20 rfl) (dc d9_30) ?_
  rintro v4 T4 L4 X4 ⟨rfl, N4q, e4⟩
  show Goes p e below _ T4 (mkF m 33 #[sR a, sI 0, su] [(.int 99)])
  obtain ⟨T5, X5, e5, st5⟩ := getS (host := "") X4 hx hZ hown (ow 103 rfl) Via.refl e4 (Sta.ext O0.2 SI) (g := (mkF m 35 #[sR a, sI 0, sI 99] [(.int 99)])) rfl (dc d9_35)
  obtain ⟨T7, X7, e7, st7⟩ := getS (host := "") X5 hx hZ hown (ow 103 rfl) Via.refl e5 (Sta.ext O0.2 SI) (g := (mkF m 42 #[sR a, sI 0, sI 99] [])) rfl (dc d9_42)
  refine Goes.on (T' := T7) (g' := (mkF m 22 #[sR a, sI 1, sI 99] [(.ref a), (.int 1)])) (fun _ k => XS.istoreN X4.here hx rfl (dc d9_33) rfl (l' := #[sR a, sI 0, sI 99]) rfl (XS.iloadN X4.here hx rfl (dc d9_34) rfl (st5 _ (aLenm X5 hx hZ e5 IC0 (dc d9_38) (XS.icmpNo X5.here hx rfl (dc d9_39) rfl (XT.ii_ge_f (by decide)) (st7 _ (XS.iloadN X7.here hx rfl (dc d9_45) rfl (ldZm X7 hx hZ e7 IC0 (by decide) (dc d9_46) (XS.ifYes X7.here hx rfl (pc0 := 47) (pc' := 52) rfl (dc d9_47) rfl (XT.i0_ne_t hic) (by decide) (by decide) (XT.iincV X7.here hx rfl (1 : Int32) (dc d9_52) (by decide) rfl (l' := #[sR a, sI 1, sI 99]) rfl (XS.goto X7.here hx rfl (pc0 := 55) (pc' := 20) rfl (dc d9_55) (by decide) (by decide) (XS.iloadN X7.here hx rfl (dc d9_20) rfl (XS.aloadN X7.here hx rfl (dc d9_21) rfl rfl k))))))))))))) ?_
  refine Goes.callV X7 hx hZ 1 hown (ow 69 rfl) (ow 70 rfl) (notFace_of_selects (args := #[]) (mvT hZ (ow 72 rfl))) (ow 72 rfl) (ow 71 rfl) (ow 16 rfl) (ow 73 rfl) (by decide) e7 PA.1 (rmLn99 l Z a0 hw a h0 n0 Z0 O0 cs SC hcs ya ka PA) (by decide) (by decide) (by decide) (by decide) rfl (by rw [hml]; rfl) (argsL := []) (rest := [(.int 1)]) rfl (lenOf pd_5 rfl) rfl (own_le20 rfl) (dc d9_22) ?_
  rintro v9 T9 L9 X9 ⟨rfl, N9q, e9⟩
  have N9 := Fr.app (Fr.app (Fr.app (Fr.app (Fr.app (Fr.nil n0) N1q) N2q) N3q) N4q) N9q
  show Goes p e below _ T9 (mkF m 25 #[sR a, sI 1, sI 99] [(.int 1), (.int 1)])
  refine Goes.on (T' := T9) (g' := (mkF m 59 #[sR a, sI 1, sI 99] [(.int 1)])) (fun _ k => XS.icmpYes X9.here hx rfl (pc0 := 25) (pc' := 58) rfl (dc d9_25) rfl (XT.ii_ge_t (by decide)) (by decide) (by decide) (XS.iconst X9.here hx rfl (dc d9_58) k)) ?_
  exact Goes.retB X9 hx hlk hret (Or.inr rfl) (dc d9_59) (by decide) (by decide) ⟨rfl, N9, e9⟩
theorem rmVa (l : Launch) (Z : State) (a0 : Array Value) (hw : TW Z a0) (a : Addr) (u_ : Int32) (hu : u_ = (97 : Int32) ∨ u_ = (98 : Int32) ∨ u_ = (99 : Int32)) (h0 : Heap) (n0 : Nat) (Z0 : n0 ≤ h0.size) (O0 : Old Z n0 h0) (cs : Int32) (SC : Sta Z Z.heap "java/lang/String" "COMPACT_STRINGS" "Z" (.int cs)) (hcs : ¬ cs = (0 : Int32)) (ya : Addr) (ka : ClassId) (PA : Str Z h0 a ya ka (Int32.ofNat 1) [Value.int u_]) (sf : Value) (SF : Sta Z Z.heap "jdk/internal/util/Preconditions" "SIOOBE_FORMATTER" "Ljava/util/function/BiFunction;" sf) (hsf : sf.isRef = true) (ic : Addr) (SI : Sta Z Z.heap "com/example/uncross/uncross/model/Order" "ID_CHARACTERS" "[Z" (.ref ic)) (icf : Nat → Int32) (IC : Arf Z Z.heap ic .boolean Value.int 128 icf) (hic97 : ¬ icf 97 = (0 : Int32)) (hic98 : ¬ icf 98 = (0 : Int32)) (hic99 : ¬ icf 99 = (0 : Int32)) :
    Pays l Z (⟨"com/example/uncross/uncross/model/Order", "isValidId", "(Ljava/lang/String;)Z"⟩ : MethodName) prog_70_method_6_code 3 (some .boolean) [] ({ frames := 4, cells := 0, slots := 0, locals := 54 } : Room) #[(.ref a)] h0 (fun v h L => v = some (.int (1 : Int32)) ∧ Fr n0 L ∧ h = h0) := by
  rcases hu with rfl | rfl | rfl
  · exact rmVa97 l Z a0 hw a h0 n0 Z0 O0 cs SC hcs ya ka PA sf SF hsf ic SI icf IC hic97
  · exact rmVa98 l Z a0 hw a h0 n0 Z0 O0 cs SC hcs ya ka PA sf SF hsf ic SI icf IC hic98
  · exact rmVa99 l Z a0 hw a h0 n0 Z0 O0 cs SC hcs ya ka PA sf SF hsf ic SI icf IC hic99
abbrev c8C := prog_70_method_4_code
theorem d8_0 : decode c8C 0 = .ok (.aload_n 0, 1) := by decide +kernel
theorem d8_1 : decode c8C 1 = .ok (.ldc 58, 2) := by decide +kernel
theorem pd_7 : parseMethodDescriptor "(Ljava/lang/Object;Ljava/lang/String;)Ljava/lang/Object;" = some ⟨[(.object "java/lang/Object"), (.object "java/lang/String")], some (.object "java/lang/Object")⟩ := by decide +kernel
theorem d8_3 : decode c8C 3 = .ok (.invokestatic 9, 3) := by decide +kernel
theorem d8_6 : decode c8C 6 = .ok (.checkcast 59, 3) := by decide +kernel
theorem pd_8 : parseMethodDescriptor "(Ljava/lang/String;)Z" = some ⟨[(.object "java/lang/String")], some .boolean⟩ := by decide +kernel
theorem d8_9 : decode c8C 9 = .ok (.invokestatic 61, 3) := by decide +kernel
theorem d8_12 : decode c8C 12 = .ok (.ifCond .ne 17, 3) := by decide +kernel
theorem d8_29 : decode c8C 29 = .ok (.return_, 1) := by decide +kernel
theorem rmCi (l : Launch) (Z : State) (a0 : Array Value) (hw : TW Z a0) (id_ y_ : Addr) (k_ : ClassId) (u_ : Int32) (h0 : Heap) (n0 : Nat) (Z0 : n0 ≤ h0.size) (O0 : Old Z n0 h0) (cs : Int32) (SC : Sta Z Z.heap "java/lang/String" "COMPACT_STRINGS" "Z" (.int cs)) (hcs : ¬ cs = (0 : Int32)) (sf : Value) (SF : Sta Z Z.heap "jdk/internal/util/Preconditions" "SIOOBE_FORMATTER" "Ljava/util/function/BiFunction;" sf) (hsf : sf.isRef = true) (ic : Addr) (SI : Sta Z Z.heap "com/example/uncross/uncross/model/Order" "ID_CHARACTERS" "[Z" (.ref ic)) (icf : Nat → Int32) (IC : Arf Z Z.heap ic .boolean Value.int 128 icf) (hic97 : ¬ icf 97 = (0 : Int32)) (hic98 : ¬ icf 98 = (0 : Int32)) (hic99 : ¬ icf 99 = (0 : Int32)) (hEL : EW Z a0 consts_1) (p0 : Str Z h0 id_ y_ k_ (Int32.ofNat 1) [Value.int u_]) (hu : u_ = (97 : Int32) ∨ u_ = (98 : Int32) ∨ u_ = (99 : Int32)) :
    PaysW l Z consts_1 (⟨"com/example/uncross/uncross/model/Order", "checkId", "(Ljava/lang/String;)V"⟩ : MethodName) prog_70_method_4_code 1 none [] ({ frames := 5, cells := 2, slots := 20, locals := 68 } : Room) #[(.ref id_)] h0 (fun v h L => v = none ∧ Fr n0 L ∧ Keep h0 h []) := by
  refine PaysW.walk (plainFor_of_name pn_6) (fun m => ef_0 m id_ ) ?_
  intro p e s m below meth c T0 X0 hx hby hml hown hnm hZ e0 hret hlk hS0 RR0
  have ow := @own_w Z a0 hw
  have hk0 : 0 ≤ h0.size := Nat.zero_le _
  have S0 : h0.size ≤ h0.size := Nat.le_refl _
  have wS := own_wS hw
  have K0 := Keep.refl h0 ([] : List Addr)
  obtain ⟨a1, T1, h1, k1, b1, kb1, X1, e1, E1, hS1, hk1, hZ1, hown1, A1, C1, V1, K1, lt1, lu1, R1, Lt1, sf1, st1⟩ := ldcCH X0 hx hZ hown (ow 57 rfl) wS e0 hS0 hk0 hEL (List.mem_of_getElem? (i := 4) rfl) RR0.1 (vs := [Value.int 105, Value.int 100]) (z := Int32.ofNat 2) ⟨by decide, by decide⟩ (by decide) (by decide) (g := (mkF m 1 #[sR id_] [(.ref id_)])) rfl (hb hby d8_1) (n := 8) (by decide) (by decide) (by decide) (by decide)
  have C2 := p0.ext E1
  have C3 := O0.ext E1
  have Z4 := Nat.le_trans Z0 E1.1
  have K7 := K0.ext E1
  have RR1 := RR0.trans R1
  have Q1 : Str Z h1 a1 b1 kb1 (Int32.ofNat 2) [Value.int 105, Value.int 100] := ⟨A1, C1, V1, K1⟩
  refine Goes.on (T' := T1) (g' := (mkF m 3 #[sR id_] [(.ref a1), (.ref id_)])) (fun _ k => XS.aloadN X0.here hx rfl (hb hby d8_0) rfl rfl (st1 _ k)) ?_
  refine Goes.callS X1 hx hZ1 0 hown1 (ow 50 rfl) (ow 51 rfl) (ow 52 rfl) (ow 53 rfl) (by decide) e1 (rmQ l Z a0 hw id_ a1 h1 n0 Z4) (by decide) (by decide) (by decide) (by decide) rfl (by rw [hml]; rfl) (argsL := [(.ref id_), (.ref a1)]) (rest := []) rfl (lenOf pd_7 rfl) rfl (own_le20 rfl) (hb hby d8_3) ?_
  rintro v8 T8 L8 X8 ⟨rfl, N8q, e8⟩
  show Goes p e below _ T8 (mkF m 6 #[sR id_] [(.ref id_)])
  obtain ⟨T9, X9, e9, st9⟩ := castY X8 hx hZ1 hown1 (ow 58 rfl) e8 (Ins.self (C2).1) (g := (mkF m 6 #[sR id_] [(.ref id_)])) rfl rfl (hb hby d8_6)
  refine Goes.on (T' := T9) (g' := (mkF m 9 #[sR id_] [(.ref id_)])) (fun _ k => st9 _ k) ?_
  refine Goes.callS X9 hx hZ1 0 hown1 (ow 60 rfl) (ow 61 rfl) (ow 14 rfl) (ow 62 rfl) (by decide) e9 (rmVa l Z a0 hw id_ u_ hu h1 n0 Z4 C3 cs SC hcs y_ k_ C2 sf SF hsf ic SI icf IC hic97 hic98 hic99) (by decide) (by decide) (by decide) (by decide) rfl (by rw [hml]; rfl) (argsL := [(.ref id_)]) (rest := []) rfl (lenOf pd_8 rfl) rfl (own_le20 rfl) (hb hby d8_9) ?_
  rintro v10 T10 L10 X10 ⟨rfl, N10q, e10⟩
  have N10 := Fr.app (Fr.app (Fr.nil n0) N8q) N10q
  show Goes p e below _ T10 (mkF m 12 #[sR id_] [(.int 1)])
  refine Goes.on (T' := T10) (g' := (mkF m 29 #[sR id_] [])) (fun _ k => XS.ifYes X10.here hx rfl (pc0 := 12) (pc' := 29) rfl (hb hby d8_12) rfl (XT.i0_ne_t (by decide)) (by decide) (by decide) k) ?_
  exact Goes.retVW X10 hS1 (by rw [e10]; exact hk1) hZ1 hEL (by rw [e10]; exact RR1) hx hlk hret (hb hby d8_29) (by decide) (by decide) (by rw [e10]; exact ⟨rfl, N10, K7⟩)
abbrev c21C := prog_82_method_8_code
theorem d21_0 : decode c21C 0 = .ok (.lload_n 0, 1) := by decide +kernel
theorem d21_1 : decode c21C 1 = .ok (.lload_n 2, 1) := by decide +kernel
theorem d21_2 : decode c21C 2 = .ok (.lcmp, 1) := by decide +kernel
theorem d21_3 : decode c21C 3 = .ok (.ifCond .lt 15, 3) := by decide +kernel
theorem d21_6 : decode c21C 6 = .ok (.lload_n 0, 1) := by decide +kernel
theorem d21_7 : decode c21C 7 = .ok (.ldc2_w 17, 3) := by decide +kernel
theorem d21_10 : decode c21C 10 = .ok (.lcmp, 1) := by decide +kernel
theorem d21_11 : decode c21C 11 = .ok (.ifCond .gt 7, 3) := by decide +kernel
theorem d21_14 : decode c21C 14 = .ok (.iconst 1, 1) := by decide +kernel
theorem d21_15 : decode c21C 15 = .ok (.goto 4, 3) := by decide +kernel
theorem d21_19 : decode c21C 19 = .ok (.ireturn, 1) := by decide +kernel
theorem ef_6 (m : MethodId) (x0 : Int64) (x1 : Int64) : entryFrame m #[(.long x0), (.long x1)] 4 = mkF m 0 #[.val (.long x0), .second, .val (.long x1), .second] [] := by first | (simp [entryFrame, mkF, argsToLocals, Value.category]; done) | rfl
theorem pn_7 : plainName "com/example/uncross/uncross/model/Quantities" = true := by first | (simp [plainName, overriddenIn]; done) | decide +kernel
theorem rmQr (l : Launch) (Z : State) (a0 : Array Value) (hw : TW Z a0)  (h0 : Heap) (n0 : Nat) (Z0 : n0 ≤ h0.size) :
    Pays l Z (⟨"com/example/uncross/uncross/model/Quantities", "inRange", "(JJ)Z"⟩ : MethodName) prog_82_method_8_code 4 (some .boolean) [] ({ frames := 0, cells := 0, slots := 0, locals := 0 } : Room) #[(.long (1 : Int64)), (.long (1 : Int64))] h0 (fun v h L => v = some (.int (1 : Int32)) ∧ Fr n0 L ∧ h = h0) := by
  refine Pays.walk (plainFor_of_name pn_7) (fun m => ef_6 m (1 : Int64) (1 : Int64) ) ?_
  intro p e s m below meth c T0 X0 hx hby hml hown hnm hZ e0 hret hlk
  have dc := @Jvm.hb _ _ hby
  have N0 := Fr.nil n0
  refine Goes.on (T' := T0) (g' := (mkF m 19 #[sJ 1, s2, sJ 1, s2] [(.int 1)])) (fun _ k => XS.lloadN X0.here hx rfl (dc d21_0) rfl (XS.lloadN X0.here hx rfl (dc d21_1) rfl (XT.lcmp X0.here hx rfl (dc d21_2) rfl (XS.ifNo X0.here hx rfl (dc d21_3) rfl (XT.ll_lt_f (by decide)) (XS.lloadN X0.here hx rfl (dc d21_6) rfl (X0.ldc2Long hx hown (mvT hZ (own_w hw 119 rfl)) (g := (mkF m 7 #[sJ 1, s2, sJ 1, s2] [(.long 1)])) rfl (dc d21_7) _ (XT.lcmp X0.here hx rfl (dc d21_10) rfl (XS.ifNo X0.here hx rfl (dc d21_11) rfl (XT.ll_gt_f (by decide)) (XS.iconst X0.here hx rfl (dc d21_14) (XS.goto X0.here hx rfl (pc0 := 15) (pc' := 19) rfl (dc d21_15) (by decide) (by decide) k)))))))))) ?_
  exact Goes.retB X0 hx hlk hret (Or.inr rfl) (dc d21_19) (by decide) (by decide) ⟨rfl, N0, e0⟩
abbrev c20C := prog_82_method_7_code
theorem d20_0 : decode c20C 0 = .ok (.lload_n 0, 1) := by decide +kernel
theorem d20_1 : decode c20C 1 = .ok (.lload_n 2, 1) := by decide +kernel
theorem pd_9 : parseMethodDescriptor "(JJ)Z" = some ⟨[.long, .long], some .boolean⟩ := by decide +kernel
theorem d20_2 : decode c20C 2 = .ok (.invokestatic 24, 3) := by decide +kernel
theorem d20_5 : decode c20C 5 = .ok (.ifCond .ne 18, 3) := by decide +kernel
theorem d20_23 : decode c20C 23 = .ok (.return_, 1) := by decide +kernel
theorem rmQc (l : Launch) (Z : State) (a0 : Array Value) (hw : TW Z a0)  (h0 : Heap) (n0 : Nat) (Z0 : n0 ≤ h0.size) :
    Pays l Z (⟨"com/example/uncross/uncross/model/Quantities", "check", "(JJ)V"⟩ : MethodName) prog_82_method_7_code 4 none [] ({ frames := 1, cells := 0, slots := 0, locals := 15 } : Room) #[(.long (1 : Int64)), (.long (1 : Int64))] h0 (fun v h L => v = none ∧ Fr n0 L ∧ h = h0) := by
  refine Pays.walk (plainFor_of_name pn_7) (fun m => ef_6 m (1 : Int64) (1 : Int64) ) ?_
  intro p e s m below meth c T0 X0 hx hby hml hown hnm hZ e0 hret hlk
  refine Goes.on (T' := T0) (g' := (mkF m 2 #[sJ 1, s2, sJ 1, s2] [(.long 1), (.long 1)])) (fun _ k => XS.lloadN X0.here hx rfl (hb hby d20_0) rfl (XS.lloadN X0.here hx rfl (hb hby d20_1) rfl k)) ?_
  refine Goes.callS X0 hx hZ 0 hown (own_w hw 116 rfl) (own_w hw 117 rfl) (own_w hw 111 rfl) (own_w hw 118 rfl) (by decide) e0 (rmQr l Z a0 hw h0 n0 Z0) (by decide) (by decide) (by decide) (by decide) rfl (by rw [hml]; rfl) (argsL := [(.long 1), (.long 1)]) (rest := []) rfl (lenOf pd_9 rfl) rfl (own_le20 rfl) (hb hby d20_2) ?_
  rintro v1 T1 L1 X1 ⟨rfl, N1q, e1⟩
  have N1 := Fr.app (Fr.nil n0) N1q
  show Goes p e below _ T1 (mkF m 5 #[sJ 1, s2, sJ 1, s2] [(.int 1)])
  refine Goes.on (T' := T1) (g' := (mkF m 23 #[sJ 1, s2, sJ 1, s2] [])) (fun _ k => XS.ifYes X1.here hx rfl (pc0 := 5) (pc' := 23) rfl (hb hby d20_5) rfl (XT.i0_ne_t (by decide)) (by decide) (by decide) k) ?_
  exact Goes.retV X1 hx hlk hret (hb hby d20_23) (by decide) (by decide) ⟨rfl, N1, e1⟩
abbrev c19C := prog_82_method_4_code
theorem d19_0 : decode c19C 0 = .ok (.lload_n 0, 1) := by decide +kernel
theorem d19_1 : decode c19C 1 = .ok (.lconst 1, 1) := by decide +kernel
theorem pd_10 : parseMethodDescriptor "(JJ)V" = some ⟨[.long, .long], none⟩ := by decide +kernel
theorem d19_2 : decode c19C 2 = .ok (.invokestatic 13, 3) := by decide +kernel
theorem d19_5 : decode c19C 5 = .ok (.return_, 1) := by decide +kernel
theorem ef_7 (m : MethodId) (x0 : Int64) : entryFrame m #[(.long x0)] 2 = mkF m 0 #[.val (.long x0), .second] [] := by first | (simp [entryFrame, mkF, argsToLocals, Value.category]; done) | rfl
theorem rmQk (l : Launch) (Z : State) (a0 : Array Value) (hw : TW Z a0)  (h0 : Heap) (n0 : Nat) (Z0 : n0 ≤ h0.size) :
    Pays l Z (⟨"com/example/uncross/uncross/model/Quantities", "check", "(J)V"⟩ : MethodName) prog_82_method_4_code 2 none [] ({ frames := 2, cells := 0, slots := 0, locals := 30 } : Room) #[(.long (1 : Int64))] h0 (fun v h L => v = none ∧ Fr n0 L ∧ h = h0) := by
  refine Pays.walk (plainFor_of_name pn_7) (fun m => ef_7 m (1 : Int64) ) ?_
  intro p e s m below meth c T0 X0 hx hby hml hown hnm hZ e0 hret hlk
  refine Goes.on (T' := T0) (g' := (mkF m 2 #[sJ 1, s2] [(.long 1), (.long 1)])) (fun _ k => XS.lloadN X0.here hx rfl (hb hby d19_0) rfl (XS.lconst X0.here hx rfl (hb hby d19_1) k)) ?_
  refine Goes.callS X0 hx hZ 0 hown (own_w hw 113 rfl) (own_w hw 114 rfl) (own_w hw 111 rfl) (own_w hw 115 rfl) (by decide) e0 (rmQc l Z a0 hw h0 n0 Z0) (by decide) (by decide) (by decide) (by decide) rfl (by rw [hml]; rfl) (argsL := [(.long 1), (.long 1)]) (rest := []) rfl (lenOf pd_10 rfl) rfl (own_le20 rfl) (hb hby d19_2) ?_
  rintro v1 T1 L1 X1 ⟨rfl, N1q, e1⟩
  have N1 := Fr.app (Fr.nil n0) N1q
  show Goes p e below _ T1 (mkF m 5 #[sJ 1, s2] [])
  exact Goes.retV X1 hx hlk hret (hb hby d19_5) (by decide) (by decide) ⟨rfl, N1, e1⟩
abbrev c26C := prog_81_method_9_code
theorem d26_0 : decode c26C 0 = .ok (.lload_n 0, 1) := by decide +kernel
theorem d26_1 : decode c26C 1 = .ok (.lconst 1, 1) := by decide +kernel
theorem d26_2 : decode c26C 2 = .ok (.lcmp, 1) := by decide +kernel
theorem d26_3 : decode c26C 3 = .ok (.ifCond .lt 15, 3) := by decide +kernel
theorem d26_6 : decode c26C 6 = .ok (.lload_n 0, 1) := by decide +kernel
theorem d26_7 : decode c26C 7 = .ok (.ldc2_w 87, 3) := by decide +kernel
theorem d26_10 : decode c26C 10 = .ok (.lcmp, 1) := by decide +kernel
theorem d26_11 : decode c26C 11 = .ok (.ifCond .gt 7, 3) := by decide +kernel
theorem d26_14 : decode c26C 14 = .ok (.iconst 1, 1) := by decide +kernel
theorem d26_15 : decode c26C 15 = .ok (.goto 4, 3) := by decide +kernel
theorem d26_19 : decode c26C 19 = .ok (.ireturn, 1) := by decide +kernel
theorem pn_8 : plainName "com/example/uncross/uncross/model/Prices" = true := by first | (simp [plainName, overriddenIn]; done) | decide +kernel
theorem rmPr (l : Launch) (Z : State) (a0 : Array Value) (hw : TW Z a0) (x_ : Int64) (h0 : Heap) (n0 : Nat) (Z0 : n0 ≤ h0.size) (hp1 : ¬ x_ < (1 : Int64)) (hp2 : ¬ (1000000000000 : Int64) < x_) :
    Pays l Z (⟨"com/example/uncross/uncross/model/Prices", "inRange", "(J)Z"⟩ : MethodName) prog_81_method_9_code 2 (some .boolean) [] ({ frames := 0, cells := 0, slots := 0, locals := 0 } : Room) #[(.long x_)] h0 (fun v h L => v = some (.int (1 : Int32)) ∧ Fr n0 L ∧ h = h0) := by
  refine Pays.walk (plainFor_of_name pn_8) (fun m => ef_7 m x_ ) ?_
  intro p e s m below meth c T0 X0 hx hby hml hown hnm hZ e0 hret hlk
  have dc := @Jvm.hb _ _ hby
  have N0 := Fr.nil n0
  refine Goes.on (T' := T0) (g' := (mkF m 19 #[sJ x_, s2] [(.int 1)])) (fun _ k => XS.lloadN X0.here hx rfl (dc d26_0) rfl (XS.lconst X0.here hx rfl (dc d26_1) (XT.lcmp X0.here hx rfl (dc d26_2) rfl (XS.ifNo X0.here hx rfl (dc d26_3) rfl (XT.ll_lt_f hp1) (XS.lloadN X0.here hx rfl (dc d26_6) rfl (X0.ldc2Long hx hown (mvT hZ (own_w hw 141 rfl)) (g := (mkF m 7 #[sJ x_, s2] [(.long x_)])) rfl (dc d26_7) _ (XT.lcmp X0.here hx rfl (dc d26_10) rfl (XS.ifNo X0.here hx rfl (dc d26_11) rfl (XT.ll_gt_f hp2) (XS.iconst X0.here hx rfl (dc d26_14) (XS.goto X0.here hx rfl (pc0 := 15) (pc' := 19) rfl (dc d26_15) (by decide) (by decide) k)))))))))) ?_
  exact Goes.retB X0 hx hlk hret (Or.inr rfl) (dc d26_19) (by decide) (by decide) ⟨rfl, N0, e0⟩
abbrev c25C := prog_81_method_5_code
theorem d25_0 : decode c25C 0 = .ok (.lload_n 1, 1) := by decide +kernel
theorem pd_11 : parseMethodDescriptor "(J)Z" = some ⟨[.long], some .boolean⟩ := by decide +kernel
theorem d25_1 : decode c25C 1 = .ok (.invokestatic 56, 3) := by decide +kernel
theorem d25_4 : decode c25C 4 = .ok (.ifCond .ne 21, 3) := by decide +kernel
theorem d25_25 : decode c25C 25 = .ok (.return_, 1) := by decide +kernel
theorem ef_8 (m : MethodId) (x0 : Addr) (x1 : Int64) : entryFrame m #[(.ref x0), (.long x1)] 3 = mkF m 0 #[.val (.ref x0), .val (.long x1), .second] [] := by first | (simp [entryFrame, mkF, argsToLocals, Value.category]; done) | rfl
theorem rmPk (l : Launch) (Z : State) (a0 : Array Value) (hw : TW Z a0) (s_ : Addr) (x_ : Int64) (h0 : Heap) (n0 : Nat) (Z0 : n0 ≤ h0.size) (hp1 : ¬ x_ < (1 : Int64)) (hp2 : ¬ (1000000000000 : Int64) < x_) :
    Pays l Z (⟨"com/example/uncross/uncross/model/Prices", "check", "(Ljava/lang/String;J)V"⟩ : MethodName) prog_81_method_5_code 3 none [] ({ frames := 1, cells := 0, slots := 0, locals := 13 } : Room) #[(.ref s_), (.long x_)] h0 (fun v h L => v = none ∧ Fr n0 L ∧ h = h0) := by
  refine Pays.walk (plainFor_of_name pn_8) (fun m => ef_8 m s_ x_ ) ?_
  intro p e s m below meth c T0 X0 hx hby hml hown hnm hZ e0 hret hlk
  refine Goes.on (T' := T0) (g' := (mkF m 1 #[sR s_, sJ x_, s2] [(.long x_)])) (fun _ k => XS.lloadN X0.here hx rfl (hb hby d25_0) rfl k) ?_
  refine Goes.callS X0 hx hZ 0 hown (own_w hw 138 rfl) (own_w hw 139 rfl) (own_w hw 132 rfl) (own_w hw 140 rfl) (by decide) e0 (rmPr l Z a0 hw x_ h0 n0 Z0 hp1 hp2) (by decide) (by decide) (by decide) (by decide) rfl (by rw [hml]; rfl) (argsL := [(.long x_)]) (rest := []) rfl (lenOf pd_11 rfl) rfl (own_le20 rfl) (hb hby d25_1) ?_
  rintro v1 T1 L1 X1 ⟨rfl, N1q, e1⟩
  have N1 := Fr.app (Fr.nil n0) N1q
  show Goes p e below _ T1 (mkF m 4 #[sR s_, sJ x_, s2] [(.int 1)])
  refine Goes.on (T' := T1) (g' := (mkF m 25 #[sR s_, sJ x_, s2] [])) (fun _ k => XS.ifYes X1.here hx rfl (pc0 := 4) (pc' := 25) rfl (hb hby d25_4) rfl (XT.i0_ne_t (by decide)) (by decide) (by decide) k) ?_
  exact Goes.retV X1 hx hlk hret (hb hby d25_25) (by decide) (by decide) ⟨rfl, N1, e1⟩
abbrev c24C := prog_81_method_4_code
theorem d24_0 : decode c24C 0 = .ok (.ldc 9, 2) := by decide +kernel
theorem d24_2 : decode c24C 2 = .ok (.lload_n 0, 1) := by decide +kernel
theorem pd_12 : parseMethodDescriptor "(Ljava/lang/String;J)V" = some ⟨[(.object "java/lang/String"), .long], none⟩ := by decide +kernel
theorem d24_3 : decode c24C 3 = .ok (.invokestatic 67, 3) := by decide +kernel
theorem d24_6 : decode c24C 6 = .ok (.return_, 1) := by decide +kernel
theorem rmPj (l : Launch) (Z : State) (a0 : Array Value) (hw : TW Z a0) (x_ : Int64) (h0 : Heap) (n0 : Nat) (Z0 : n0 ≤ h0.size) (O0 : Old Z n0 h0) (cs : Int32) (SC : Sta Z Z.heap "java/lang/String" "COMPACT_STRINGS" "Z" (.int cs)) (hcs : ¬ cs = (0 : Int32)) (sf : Value) (SF : Sta Z Z.heap "jdk/internal/util/Preconditions" "SIOOBE_FORMATTER" "Ljava/util/function/BiFunction;" sf) (hsf : sf.isRef = true) (ic : Addr) (SI : Sta Z Z.heap "com/example/uncross/uncross/model/Order" "ID_CHARACTERS" "[Z" (.ref ic)) (icf : Nat → Int32) (IC : Arf Z Z.heap ic .boolean Value.int 128 icf) (hic97 : ¬ icf 97 = (0 : Int32)) (hic98 : ¬ icf 98 = (0 : Int32)) (hic99 : ¬ icf 99 = (0 : Int32)) (hEL : EW Z a0 consts_1) (hp1 : ¬ x_ < (1 : Int64)) (hp2 : ¬ (1000000000000 : Int64) < x_) :
    PaysW l Z consts_1 (⟨"com/example/uncross/uncross/model/Prices", "check", "(J)V"⟩ : MethodName) prog_81_method_4_code 2 none [] ({ frames := 2, cells := 2, slots := 24, locals := 27 } : Room) #[(.long x_)] h0 (fun v h L => v = none ∧ Fr n0 L ∧ Keep h0 h []) := by
  refine PaysW.walk (plainFor_of_name pn_8) (fun m => ef_7 m x_ ) ?_
  intro p e s m below meth c T0 X0 hx hby hml hown hnm hZ e0 hret hlk hS0 RR0
  have hk0 : 0 ≤ h0.size := Nat.zero_le _
  have S0 : h0.size ≤ h0.size := Nat.le_refl _
  have wS := own_wS hw
  have K0 := Keep.refl h0 ([] : List Addr)
  obtain ⟨a1, T1, h1, k1, b1, kb1, X1, e1, E1, hS1, hk1, hZ1, hown1, A1, C1, V1, K1, lt1, lu1, R1, Lt1, sf1, st1⟩ := ldcCH X0 hx hZ hown (own_w hw 134 rfl) wS e0 hS0 hk0 hEL (List.mem_of_getElem? (i := 6) rfl) RR0.1 (vs := [Value.int 112, Value.int 114, Value.int 105, Value.int 99, Value.int 101]) (z := Int32.ofNat 5) ⟨by decide, by decide⟩ (by decide) (by decide) (g := (mkF m 0 #[sJ x_, s2] [])) rfl (hb hby d24_0) (n := 20) (by decide) (by decide) (by decide) (by decide)
  have Z3 := Nat.le_trans Z0 E1.1
  have K6 := K0.ext E1
  have RR1 := RR0.trans R1
  have Q1 : Str Z h1 a1 b1 kb1 (Int32.ofNat 5) [Value.int 112, Value.int 114, Value.int 105, Value.int 99, Value.int 101] := ⟨A1, C1, V1, K1⟩
  refine Goes.on (T' := T1) (g' := (mkF m 3 #[sJ x_, s2] [(.long x_), (.ref a1)])) (fun _ k => st1 _ (XS.lloadN X1.here hx rfl (hb hby d24_2) rfl k)) ?_
  refine Goes.callS X1 hx hZ1 0 hown1 (own_w hw 135 rfl) (own_w hw 136 rfl) (own_w hw 132 rfl) (own_w hw 137 rfl) (by decide) e1 (rmPk l Z a0 hw a1 x_ h1 n0 Z3 hp1 hp2) (by decide) (by decide) (by decide) (by decide) rfl (by rw [hml]; rfl) (argsL := [(.ref a1), (.long x_)]) (rest := []) rfl (lenOf pd_12 rfl) rfl (own_le20 rfl) (hb hby d24_3) ?_
  rintro v7 T7 L7 X7 ⟨rfl, N7q, e7⟩
  have N7 := Fr.app (Fr.nil n0) N7q
  show Goes p e below _ T7 (mkF m 6 #[sJ x_, s2] [])
  exact Goes.retVW X7 hS1 (by rw [e7]; exact hk1) hZ1 hEL (by rw [e7]; exact RR1) hx hlk hret (hb hby d24_6) (by decide) (by decide) (by rw [e7]; exact ⟨rfl, N7, K6⟩)
abbrev c22C := jdk_2650_method_6_code
theorem d22_0 : decode c22C 0 = .ok (.aload_n 0, 1) := by decide +kernel
theorem d22_1 : decode c22C 1 = .ok (.getfield 7, 3) := by decide +kernel
theorem d22_4 : decode c22C 4 = .ok (.ireturn, 1) := by decide +kernel
theorem pn_9 : plainName "java/util/OptionalLong" = true := by first | (simp [plainName, overriddenIn]; done) | decide +kernel
theorem rmIp0 (l : Launch) (Z : State) (a0 : Array Value) (hw : TW Z a0) (a_ : Addr) (h0 : Heap) (n0 : Nat) (Z0 : n0 ≤ h0.size) (p0 : Exa Z h0 a_ k11C) (p1 : Fld Z h0 a_ k11C "isPresent" "Z" (.int (0 : Int32))) :
    Pays l Z (⟨"java/util/OptionalLong", "isPresent", "()Z"⟩ : MethodName) jdk_2650_method_6_code 1 (some .boolean) [] ({ frames := 0, cells := 0, slots := 0, locals := 0 } : Room) #[(.ref a_)] h0 (fun v h L => v = some (.int (0 : Int32)) ∧ Fr n0 L ∧ h = h0) := by
  refine Pays.walk (plainFor_of_name pn_9) (fun m => ef_0 m a_ ) ?_
  intro p e s m below meth c T0 X0 hx hby hml hown hnm hZ e0 hret hlk
  have N0 := Fr.nil n0
  obtain ⟨T1, X1, e1, st1⟩ := getF X0 hx hZ hown (host := "") (Or.inl (own_w hw 36 rfl)) Via.refl e0 p1 (g := (mkF m 1 #[sR a_] [(.ref a_)])) rfl rfl (hb hby d22_1)
  refine Goes.on (T' := T1) (g' := (mkF m 4 #[sR a_] [(.int 0)])) (fun _ k => XS.aloadN X0.here hx rfl (hb hby d22_0) rfl rfl (st1 _ k)) ?_
  exact Goes.retB X1 hx hlk hret (Or.inl rfl) (hb hby d22_4) (by decide) (by decide) ⟨rfl, N0, e1⟩
abbrev c36C := jdk_2650_method_7_code
theorem d36_0 : decode c36C 0 = .ok (.aload_n 0, 1) := by decide +kernel
theorem d36_1 : decode c36C 1 = .ok (.getfield 7, 3) := by decide +kernel
theorem d36_4 : decode c36C 4 = .ok (.ifCond .ne 7, 3) := by decide +kernel
theorem d36_7 : decode c36C 7 = .ok (.iconst 1, 1) := by decide +kernel
theorem d36_8 : decode c36C 8 = .ok (.goto 4, 3) := by decide +kernel
theorem d36_12 : decode c36C 12 = .ok (.ireturn, 1) := by decide +kernel
theorem rmIe0 (l : Launch) (Z : State) (a0 : Array Value) (hw : TW Z a0) (a_ : Addr) (h0 : Heap) (n0 : Nat) (Z0 : n0 ≤ h0.size) (p0 : Exa Z h0 a_ k11C) (p1 : Fld Z h0 a_ k11C "isPresent" "Z" (.int (0 : Int32))) :
    Pays l Z (⟨"java/util/OptionalLong", "isEmpty", "()Z"⟩ : MethodName) jdk_2650_method_7_code 1 (some .boolean) [] ({ frames := 0, cells := 0, slots := 0, locals := 0 } : Room) #[(.ref a_)] h0 (fun v h L => v = some (.int (1 : Int32)) ∧ Fr n0 L ∧ h = h0) := by
  refine Pays.walk (plainFor_of_name pn_9) (fun m => ef_0 m a_ ) ?_
  intro p e s m below meth c T0 X0 hx hby hml hown hnm hZ e0 hret hlk
  have N0 := Fr.nil n0
  obtain ⟨T1, X1, e1, st1⟩ := getF X0 hx hZ hown (host := "") (Or.inl (own_w hw 36 rfl)) Via.refl e0 p1 (g := (mkF m 1 #[sR a_] [(.ref a_)])) rfl rfl (hb hby d36_1)
  refine Goes.on (T' := T1) (g' := (mkF m 12 #[sR a_] [(.int 1)])) (fun _ k => XS.aloadN X0.here hx rfl (hb hby d36_0) rfl rfl (st1 _ (XS.ifNo X1.here hx rfl (hb hby d36_4) rfl (XT.i0_ne_f (by decide)) (XS.iconst X1.here hx rfl (hb hby d36_7) (XS.goto X1.here hx rfl (pc0 := 8) (pc' := 12) rfl (hb hby d36_8) (by decide) (by decide) k))))) ?_
  exact Goes.retB X1 hx hlk hret (Or.inr rfl) (hb hby d36_12) (by decide) (by decide) ⟨rfl, N0, e1⟩
theorem rmIp1 (l : Launch) (Z : State) (a0 : Array Value) (hw : TW Z a0) (a_ : Addr) (h0 : Heap) (n0 : Nat) (Z0 : n0 ≤ h0.size) (p0 : Exa Z h0 a_ k11C) (p1 : Fld Z h0 a_ k11C "isPresent" "Z" (.int (1 : Int32))) :
    Pays l Z (⟨"java/util/OptionalLong", "isPresent", "()Z"⟩ : MethodName) jdk_2650_method_6_code 1 (some .boolean) [] ({ frames := 0, cells := 0, slots := 0, locals := 0 } : Room) #[(.ref a_)] h0 (fun v h L => v = some (.int (1 : Int32)) ∧ Fr n0 L ∧ h = h0) := by
  refine Pays.walk (plainFor_of_name pn_9) (fun m => ef_0 m a_ ) ?_
  intro p e s m below meth c T0 X0 hx hby hml hown hnm hZ e0 hret hlk
  have N0 := Fr.nil n0
  obtain ⟨T1, X1, e1, st1⟩ := getF X0 hx hZ hown (host := "") (Or.inl (own_w hw 36 rfl)) Via.refl e0 p1 (g := (mkF m 1 #[sR a_] [(.ref a_)])) rfl rfl (hb hby d22_1)
  refine Goes.on (T' := T1) (g' := (mkF m 4 #[sR a_] [(.int 1)])) (fun _ k => XS.aloadN X0.here hx rfl (hb hby d22_0) rfl rfl (st1 _ k)) ?_
  exact Goes.retB X1 hx hlk hret (Or.inr rfl) (hb hby d22_4) (by decide) (by decide) ⟨rfl, N0, e1⟩
theorem d36_11 : decode c36C 11 = .ok (.iconst 0, 1) := by decide +kernel
theorem rmIe1 (l : Launch) (Z : State) (a0 : Array Value) (hw : TW Z a0) (a_ : Addr) (h0 : Heap) (n0 : Nat) (Z0 : n0 ≤ h0.size) (p0 : Exa Z h0 a_ k11C) (p1 : Fld Z h0 a_ k11C "isPresent" "Z" (.int (1 : Int32))) :
    Pays l Z (⟨"java/util/OptionalLong", "isEmpty", "()Z"⟩ : MethodName) jdk_2650_method_7_code 1 (some .boolean) [] ({ frames := 0, cells := 0, slots := 0, locals := 0 } : Room) #[(.ref a_)] h0 (fun v h L => v = some (.int (0 : Int32)) ∧ Fr n0 L ∧ h = h0) := by
  refine Pays.walk (plainFor_of_name pn_9) (fun m => ef_0 m a_ ) ?_
  intro p e s m below meth c T0 X0 hx hby hml hown hnm hZ e0 hret hlk
  have N0 := Fr.nil n0
  obtain ⟨T1, X1, e1, st1⟩ := getF X0 hx hZ hown (host := "") (Or.inl (own_w hw 36 rfl)) Via.refl e0 p1 (g := (mkF m 1 #[sR a_] [(.ref a_)])) rfl rfl (hb hby d36_1)
  refine Goes.on (T' := T1) (g' := (mkF m 12 #[sR a_] [(.int 0)])) (fun _ k => XS.aloadN X0.here hx rfl (hb hby d36_0) rfl rfl (st1 _ (XS.ifYes X1.here hx rfl (pc0 := 4) (pc' := 11) rfl (hb hby d36_4) rfl (XT.i0_ne_t (by decide)) (by decide) (by decide) (XS.iconst X1.here hx rfl (hb hby d36_11) k)))) ?_
  exact Goes.retB X1 hx hlk hret (Or.inl rfl) (hb hby d36_12) (by decide) (by decide) ⟨rfl, N0, e1⟩
abbrev c23C := jdk_2650_method_5_code
theorem d23_0 : decode c23C 0 = .ok (.aload_n 0, 1) := by decide +kernel
theorem d23_1 : decode c23C 1 = .ok (.getfield 7, 3) := by decide +kernel
theorem d23_4 : decode c23C 4 = .ok (.ifCond .ne 13, 3) := by decide +kernel
theorem d23_17 : decode c23C 17 = .ok (.aload_n 0, 1) := by decide +kernel
theorem d23_18 : decode c23C 18 = .ok (.getfield 13, 3) := by decide +kernel
theorem d23_21 : decode c23C 21 = .ok (.lreturn, 1) := by decide +kernel
theorem rmGa (l : Launch) (Z : State) (a0 : Array Value) (hw : TW Z a0) (a_ : Addr) (x_ : Int64) (h0 : Heap) (n0 : Nat) (Z0 : n0 ≤ h0.size) (p0 : Exa Z h0 a_ k11C) (p1 : Fld Z h0 a_ k11C "isPresent" "Z" (.int (1 : Int32))) (p2 : Fld Z h0 a_ k11C "value" "J" (.long x_)) :
    Pays l Z (⟨"java/util/OptionalLong", "getAsLong", "()J"⟩ : MethodName) jdk_2650_method_5_code 1 (some .long) [] ({ frames := 0, cells := 0, slots := 0, locals := 0 } : Room) #[(.ref a_)] h0 (fun v h L => v = some (.long x_) ∧ Fr n0 L ∧ h = h0) := by
  refine Pays.walk (plainFor_of_name pn_9) (fun m => ef_0 m a_ ) ?_
  intro p e s m below meth c T0 X0 hx hby hml hown hnm hZ e0 hret hlk
  have N0 := Fr.nil n0
  obtain ⟨T1, X1, e1, st1⟩ := getF X0 hx hZ hown (host := "") (Or.inl (own_w hw 36 rfl)) Via.refl e0 p1 (g := (mkF m 1 #[sR a_] [(.ref a_)])) rfl rfl (hb hby d23_1)
  obtain ⟨T2, X2, e2, st2⟩ := getF X1 hx hZ hown (host := "") (Or.inl (own_w hw 38 rfl)) Via.refl e1 p2 (g := (mkF m 18 #[sR a_] [(.ref a_)])) rfl rfl (hb hby d23_18)
  refine Goes.on (T' := T2) (g' := (mkF m 21 #[sR a_] [(.long x_)])) (fun _ k => XS.aloadN X0.here hx rfl (hb hby d23_0) rfl rfl (st1 _ (XS.ifYes X1.here hx rfl (pc0 := 4) (pc' := 17) rfl (hb hby d23_4) rfl (XT.i0_ne_t (by decide)) (by decide) (by decide) (XS.aloadN X1.here hx rfl (hb hby d23_17) rfl rfl (st2 _ k))))) ?_
  exact Goes.retJ X2 hx hlk hret (hb hby d23_21) (by decide) (by decide) ⟨rfl, N0, e2⟩
abbrev c33C := jdk_2650_method_2_code
theorem d33_0 : decode c33C 0 = .ok (.getstatic 17, 3) := by decide +kernel
theorem d33_3 : decode c33C 3 = .ok (.areturn, 1) := by decide +kernel
theorem ef_9 (m : MethodId)  : entryFrame m #[] 0 = mkF m 0 #[] [] := by first | (simp [entryFrame, mkF, argsToLocals, Value.category]; done) | rfl
theorem rmOe (l : Launch) (Z : State) (a0 : Array Value) (hw : TW Z a0)  (h0 : Heap) (n0 : Nat) (Z0 : n0 ≤ h0.size) (O0 : Old Z n0 h0) (em : Addr) (SE : Sta Z Z.heap "java/util/OptionalLong" "EMPTY" "Ljava/util/OptionalLong;" (.ref em)) :
    Pays l Z (⟨"java/util/OptionalLong", "empty", "()Ljava/util/OptionalLong;"⟩ : MethodName) jdk_2650_method_2_code 0 (some (.object "java/util/OptionalLong")) [] ({ frames := 0, cells := 0, slots := 0, locals := 0 } : Room) #[] h0 (fun v h L => v = some (.ref em) ∧ Fr n0 L ∧ h = h0) := by
  refine Pays.walk (plainFor_of_name pn_9) (fun m => ef_9 m  ) ?_
  intro p e s m below meth c T0 X0 hx hby hml hown hnm hZ e0 hret hlk
  have N0 := Fr.nil n0
  obtain ⟨T1, X1, e1, st1⟩ := getS (host := "") X0 hx hZ hown (own_w hw 229 rfl) Via.refl e0 (Sta.ext O0.2 SE) (g := (mkF m 0 #[] [])) rfl (hb hby d33_0)
  refine Goes.on (T' := T1) (g' := (mkF m 3 #[] [(.ref em)])) (fun _ k => st1 _ k) ?_
  exact Goes.retA X1 hx hlk hret rfl rfl (hb hby d33_3) (by decide) (by decide) ⟨rfl, N0, e1⟩
abbrev c3C := jdk_2650_method_3_code
theorem d3_0 : decode c3C 0 = .ok (.aload_n 0, 1) := by decide +kernel
theorem d3_1 : decode c3C 1 = .ok (.invokespecial 1, 3) := by decide +kernel
theorem d3_4 : decode c3C 4 = .ok (.aload_n 0, 1) := by decide +kernel
theorem d3_5 : decode c3C 5 = .ok (.iconst 1, 1) := by decide +kernel
theorem d3_6 : decode c3C 6 = .ok (.putfield 7, 3) := by decide +kernel
theorem d3_9 : decode c3C 9 = .ok (.aload_n 0, 1) := by decide +kernel
theorem d3_10 : decode c3C 10 = .ok (.lload_n 1, 1) := by decide +kernel
theorem d3_11 : decode c3C 11 = .ok (.putfield 13, 3) := by decide +kernel
theorem d3_14 : decode c3C 14 = .ok (.return_, 1) := by decide +kernel
def sn0 {Z : State} {a0 : Array Value} (hw : TW Z a0) := slot_ne (Or.inr (own_w hw 39 rfl)) (Or.inr (own_w hw 37 rfl)) (by decide) (t := .long) (by decide) (t' := .boolean) (by decide)
def sn1 {Z : State} {a0 : Array Value} (hw : TW Z a0) := slot_ne (Or.inr (own_w hw 37 rfl)) (Or.inr (own_w hw 39 rfl)) (by decide) (t := .boolean) (by decide) (t' := .long) (by decide)
theorem rmOi (l : Launch) (Z : State) (a0 : Array Value) (hw : TW Z a0) (a : Addr) (x1 : Int64) (h0 : Heap) (n0 : Nat) (Z0 : n0 ≤ h0.size) (E0 : Exa Z h0 a "java/util/OptionalLong") (ga : n0 ≤ a) (F_isPresent : Fld Z h0 a "java/util/OptionalLong" "isPresent" "Z" (.int (0 : Int32))) (F_value : Fld Z h0 a "java/util/OptionalLong" "value" "J" (.long (0 : Int64))) :
    Pays l Z (⟨"java/util/OptionalLong", "<init>", "(J)V"⟩ : MethodName) jdk_2650_method_3_code 3 none [] ({ frames := 1, cells := 0, slots := 0, locals := 12 } : Room) #[(.ref a), (.long x1)] h0 (fun v h L => v = none ∧ Fr n0 L ∧ Keep h0 h [a] ∧ Exa Z h a "java/util/OptionalLong" ∧ Fld Z h a "java/util/OptionalLong" "isPresent" "Z" (.int (1 : Int32)) ∧ Fld Z h a "java/util/OptionalLong" "value" "J" (.long x1)) := by
  refine Pays.walk (plainFor_of_name pn_9) (fun m => ef_8 m a x1 ) ?_
  intro p e s m below meth c T0 X0 hx hby hml hown hnm hZ e0 hret hlk
  have dc := @Jvm.hb _ _ hby
  have ow := @own_w Z a0 hw
  have K0 := Keep.refl h0 [a]
  obtain ⟨T1, X1, e1, st1⟩ := initO X0 hx hZ hown (ow 33 rfl) (ow 34 rfl) (ow 35 rfl) e0 (g := (mkF m 1 #[sR a, sJ x1, s2] [(.ref a)])) rfl (by rw [hml]; rfl) rfl (dc d3_1) (by decide) (W := 0) (own_le20 rfl) (by decide)
  obtain ⟨T2, h2, X2, e2, W2, st2⟩ := putF X1 hx hZ hown (host := "") (Or.inl (ow 36 rfl)) Via.refl e1 F_isPresent E0 (Or.inr ⟨(ow 37 rfl), rfl, hnm⟩) (ow 28 rfl) (ty := .boolean) (by decide) rfl rfl (g := (mkF m 6 #[sR a, sJ x1, s2] [(.int 1), (.ref a)])) rfl rfl (dc d3_6)
  have C3 := E0.wr W2
  have C5 := F_value.other W2 (Or.inr (sn0 hw))
  have K7 := K0.wr W2 (Or.inl (List.mem_of_getElem? (i := 0) rfl))
  obtain ⟨T8, h8, X8, e8, W8, st8⟩ := putF X2 hx hZ hown (host := "") (Or.inl (ow 38 rfl)) Via.refl e2 C5 C3 (Or.inr ⟨(ow 39 rfl), rfl, hnm⟩) (ow 28 rfl) (ty := .long) (by decide) rfl rfl (g := (mkF m 11 #[sR a, sJ x1, s2] [(.long x1), (.ref a)])) rfl rfl (dc d3_11)
  have N8 := Fr.snoc X8 (Fr.snoc X2 (Fr.nil n0) ga) ga
  have C9 := C3.wr W8
  have C10 := (F_isPresent.same W2).other W8 (Or.inr (sn1 hw))
  have C11 := C5.same W8
  have K13 := K7.wr W8 (Or.inl (List.mem_of_getElem? (i := 0) rfl))
  refine Goes.on (T' := T8) (g' := (mkF m 14 #[sR a, sJ x1, s2] [])) (fun _ k => XS.aloadN X0.here hx rfl (dc d3_0) rfl rfl (st1 _ (XS.aloadN X1.here hx rfl (dc d3_4) rfl rfl (XS.iconst X1.here hx rfl (dc d3_5) (st2 _ (XS.aloadN X2.here hx rfl (dc d3_9) rfl rfl (XS.lloadN X2.here hx rfl (dc d3_10) rfl (st8 _ k)))))))) ?_
  exact Goes.retV X8 hx hlk hret (dc d3_14) (by decide) (by decide) (by rw [e8]; exact ⟨rfl, N8, K13, C9, C10, C11⟩)
abbrev c2C := jdk_2650_method_4_code
theorem d2_0 : decode c2C 0 = .ok (.new 8, 3) := by decide +kernel
theorem d2_3 : decode c2C 3 = .ok (.dup, 1) := by decide +kernel
theorem d2_4 : decode c2C 4 = .ok (.lload_n 0, 1) := by decide +kernel
theorem pd_13 : parseMethodDescriptor "(J)V" = some ⟨[.long], none⟩ := by decide +kernel
theorem d2_5 : decode c2C 5 = .ok (.invokespecial 21, 3) := by decide +kernel
theorem d2_8 : decode c2C 8 = .ok (.areturn, 1) := by decide +kernel
theorem rmOf (l : Launch) (Z : State) (a0 : Array Value) (hw : TW Z a0) (x_ : Int64) (h0 : Heap) (n0 : Nat) (Z0 : n0 ≤ h0.size) :
    Pays l Z (⟨"java/util/OptionalLong", "of", "(J)Ljava/util/OptionalLong;"⟩ : MethodName) jdk_2650_method_4_code 2 (some (.object "java/util/OptionalLong")) [] ({ frames := 2, cells := 1, slots := 2, locals := 27 } : Room) #[(.long x_)] h0 (fun v h L => ∃ (n0_ : Addr), v = some (.ref n0_) ∧ Fr n0 L ∧ Keep h0 h [] ∧ Exa Z h n0_ k11C ∧ Fld Z h n0_ k11C "isPresent" "Z" (.int (1 : Int32)) ∧ Fld Z h n0_ k11C "value" "J" (.long x_) ∧ h0.size ≤ n0_) := by
  refine Pays.walk (plainFor_of_name pn_9) (fun m => ef_7 m x_ ) ?_
  intro p e s m below meth c T0 X0 hx hby hml hown hnm hZ e0 hret hlk
  have ow := @own_w Z a0 hw
  have K0 := Keep.refl h0 ([] : List Addr)
  obtain ⟨T1, h1, X1, e1, E1, A1, D1, U1, st1⟩ := newO X0 hx hZ hown (ow 27 rfl) (ow 28 rfl) (ow 25 rfl) e0 (g := (mkF m 0 #[sJ x_, s2] [])) rfl (hb hby d2_0) (by decide) (by decide)
  obtain ⟨a1, g1⟩ : ∃ z, z = h0.size := ⟨_, rfl⟩
  rw [← g1] at A1 D1 U1 st1
  have M1 : h0.size ≤ a1 := Nat.le_trans K0.1 (Nat.le_of_eq g1.symm)
  have Z2 := Nat.le_trans Z0 E1.1
  have K3 := K0.ext E1
  have F4 : Fld Z h1 a1 "java/util/OptionalLong" "isPresent" "Z" (.int 0) := D1 (Or.inr (ow 37 rfl)) (ty := .boolean) (by decide)
  have F5 : Fld Z h1 a1 "java/util/OptionalLong" "value" "J" (.long 0) := D1 (Or.inr (ow 39 rfl)) (ty := .long) (by decide)
  have G1 : n0 ≤ a1 := Nat.le_trans Z0 (Nat.le_of_eq g1.symm)
  refine Goes.on (T' := T1) (g' := (mkF m 5 #[sJ x_, s2] [(.long x_), (.ref a1), (.ref a1)])) (fun _ k => st1 _ (XS.dup X1.here hx rfl (hb hby d2_3) rfl rfl (XS.lloadN X1.here hx rfl (hb hby d2_4) rfl k))) ?_
  refine Goes.callC X1 hx hZ 1 rfl hown (ow 29 rfl) (ow 30 rfl) (ow 25 rfl) (ow 32 rfl) (by decide) e1 (rmOi l Z a0 hw a1 x_ h1 n0 Z2 A1 G1 F4 F5) (by decide) (by decide) (by decide) (by decide) rfl (by rw [hml]; rfl) (a := a1) (argsL := [(.long x_)]) (rest := [(.ref a1)]) rfl (lenOf pd_13 rfl) rfl (own_le20 rfl) (hb hby d2_5) ?_
  rintro v6 T6 L6 X6 ⟨rfl, N6q, K6, A6, B6_isPresent, B6_value⟩
  have N6 := Fr.app (Fr.nil n0) N6q
  show Goes p e below _ T6 (mkF m 8 #[sJ x_, s2] [(.ref a1)])
  have K9 := K3.trans K6 (allS (Or.inr M1) all0)
  exact Goes.retA X6 hx hlk hret rfl rfl (hb hby d2_8) (by decide) (by decide) (by exact ⟨a1, rfl, N6, K9, A6, B6_isPresent, B6_value, M1⟩)
abbrev c18C := prog_70_method_5_code
theorem d18_0 : decode c18C 0 = .ok (.aload_n 2, 1) := by decide +kernel
theorem d18_1 : decode c18C 1 = .ok (.ldc 73, 2) := by decide +kernel
theorem d18_3 : decode c18C 3 = .ok (.invokestatic 9, 3) := by decide +kernel
theorem d18_6 : decode c18C 6 = .ok (.pop, 1) := by decide +kernel
theorem d18_7 : decode c18C 7 = .ok (.lload_n 0, 1) := by decide +kernel
theorem d18_8 : decode c18C 8 = .ok (.invokestatic 74, 3) := by decide +kernel
theorem d18_11 : decode c18C 11 = .ok (.aload_n 2, 1) := by decide +kernel
theorem d18_12 : decode c18C 12 = .ok (.invokevirtual 80, 3) := by decide +kernel
theorem d18_15 : decode c18C 15 = .ok (.ifCond .eq 10, 3) := by decide +kernel
theorem d18_25 : decode c18C 25 = .ok (.return_, 1) := by decide +kernel
theorem ef_10 (m : MethodId) (x0 : Int64) (x1 : Addr) : entryFrame m #[(.long x0), (.ref x1)] 3 = mkF m 0 #[.val (.long x0), .second, .val (.ref x1)] [] := by first | (simp [entryFrame, mkF, argsToLocals, Value.category]; done) | rfl
theorem rmTeM (l : Launch) (Z : State) (a0 : Array Value) (hw : TW Z a0) (a_ : Addr) (h0 : Heap) (n0 : Nat) (Z0 : n0 ≤ h0.size) (O0 : Old Z n0 h0) (cs : Int32) (SC : Sta Z Z.heap "java/lang/String" "COMPACT_STRINGS" "Z" (.int cs)) (hcs : ¬ cs = (0 : Int32)) (sf : Value) (SF : Sta Z Z.heap "jdk/internal/util/Preconditions" "SIOOBE_FORMATTER" "Ljava/util/function/BiFunction;" sf) (hsf : sf.isRef = true) (ic : Addr) (SI : Sta Z Z.heap "com/example/uncross/uncross/model/Order" "ID_CHARACTERS" "[Z" (.ref ic)) (icf : Nat → Int32) (IC : Arf Z Z.heap ic .boolean Value.int 128 icf) (hic97 : ¬ icf 97 = (0 : Int32)) (hic98 : ¬ icf 98 = (0 : Int32)) (hic99 : ¬ icf 99 = (0 : Int32)) (hEL : EW Z a0 consts_1) (p0 : Exa Z h0 a_ k11C) (p1 : Fld Z h0 a_ k11C "isPresent" "Z" (.int (0 : Int32))) :
    PaysW l Z consts_1 (⟨"com/example/uncross/uncross/model/Order", "checkTerms", "(JLjava/util/OptionalLong;)V"⟩ : MethodName) prog_70_method_5_code 3 none [] ({ frames := 3, cells := 4, slots := 48, locals := 43 } : Room) #[(.long (1 : Int64)), (.ref a_)] h0 (fun v h L => v = none ∧ Fr n0 L ∧ Keep h0 h []) := by
  refine PaysW.walk (plainFor_of_name pn_6) (fun m => ef_10 m (1 : Int64) a_ ) ?_
  intro p e s m below meth c T0 X0 hx hby hml hown hnm hZ e0 hret hlk hS0 RR0
  have dc := @Jvm.hb _ _ hby
  have ow := @own_w Z a0 hw
  have hk0 : 0 ≤ h0.size := Nat.zero_le _
  have S0 : h0.size ≤ h0.size := Nat.le_refl _
  have wS := own_wS hw
  have K0 := Keep.refl h0 ([] : List Addr)
  obtain ⟨a1, T1, h1, k1, b1, kb1, X1, e1, E1, hS1, hk1, hZ1, hown1, A1, C1, V1, K1, lt1, lu1, R1, Lt1, sf1, st1⟩ := ldcCH X0 hx hZ hown (ow 108 rfl) wS e0 hS0 hk0 hEL (List.mem_of_getElem? (i := 5) rfl) RR0.1 (vs := [Value.int 108, Value.int 105, Value.int 109, Value.int 105, Value.int 116]) (z := Int32.ofNat 5) ⟨by decide, by decide⟩ (by decide) (by decide) (g := (mkF m 1 #[sJ 1, s2, sR a_] [(.ref a_)])) rfl (dc d18_1) (n := 20) (by decide) (by decide) (by decide) (by decide)
  have C2 := p0.ext E1
  have C3 := p1.ext E1
  have Z5 := Nat.le_trans Z0 E1.1
  have K8 := K0.ext E1
  have RR1 := RR0.trans R1
  have Q1 : Str Z h1 a1 b1 kb1 (Int32.ofNat 5) [Value.int 108, Value.int 105, Value.int 109, Value.int 105, Value.int 116] := ⟨A1, C1, V1, K1⟩
  refine Goes.on (T' := T1) (g' := (mkF m 3 #[sJ 1, s2, sR a_] [(.ref a1), (.ref a_)])) (fun _ k => XS.aloadN X0.here hx rfl (dc d18_0) rfl rfl (st1 _ k)) ?_
  refine Goes.callS X1 hx hZ1 0 hown1 (ow 50 rfl) (ow 51 rfl) (ow 52 rfl) (ow 53 rfl) (by decide) e1 (rmQ l Z a0 hw a_ a1 h1 n0 Z5) (by decide) (by decide) (by decide) (by decide) rfl (by rw [hml]; rfl) (argsL := [(.ref a_), (.ref a1)]) (rest := []) rfl (lenOf pd_7 rfl) rfl (own_le20 rfl) (dc d18_3) ?_
  rintro v9 T9 L9 X9 ⟨rfl, N9q, e9⟩
  show Goes p e below _ T9 (mkF m 6 #[sJ 1, s2, sR a_] [(.ref a_)])
  refine Goes.on (T' := T9) (g' := (mkF m 8 #[sJ 1, s2, sR a_] [(.long 1)])) (fun _ k => XS.pop X9.here hx rfl (dc d18_6) rfl rfl (XS.lloadN X9.here hx rfl (dc d18_7) rfl k)) ?_
  refine Goes.callS X9 hx hZ1 0 hown1 (ow 109 rfl) (ow 110 rfl) (ow 111 rfl) (ow 112 rfl) (by decide) e9 (rmQk l Z a0 hw h1 n0 Z5) (by decide) (by decide) (by decide) (by decide) rfl (by rw [hml]; rfl) (argsL := [(.long 1)]) (rest := []) rfl (lenOf pd_13 rfl) rfl (own_le20 rfl) (dc d18_8) ?_
  rintro v10 T10 L10 X10 ⟨rfl, N10q, e10⟩
  show Goes p e below _ T10 (mkF m 11 #[sJ 1, s2, sR a_] [])
  refine Goes.on (T' := T10) (g' := (mkF m 12 #[sJ 1, s2, sR a_] [(.ref a_)])) (fun _ k => XS.aloadN X10.here hx rfl (dc d18_11) rfl rfl k) ?_
  refine Goes.callV X10 hx hZ1 0 hown1 (ow 120 rfl) (ow 121 rfl) (notFace_of_selects (args := #[]) (mvT hZ1 (ow 123 rfl))) (ow 123 rfl) (ow 122 rfl) (ow 25 rfl) (ow 124 rfl) (by decide) e10 C2 (rmIp0 l Z a0 hw a_ h1 n0 Z5  C2 C3 ) (by decide) (by decide) (by decide) (by decide) rfl (by rw [hml]; rfl) (argsL := []) (rest := []) rfl (lenOf pd_3 rfl) rfl (own_le20 rfl) (dc d18_12) ?_
  rintro v11 T11 L11 X11 ⟨rfl, N11q, e11⟩
  have N11 := Fr.app (Fr.app (Fr.app (Fr.nil n0) N9q) N10q) N11q
  show Goes p e below _ T11 (mkF m 15 #[sJ 1, s2, sR a_] [(.int 0)])
  refine Goes.on (T' := T11) (g' := (mkF m 25 #[sJ 1, s2, sR a_] [])) (fun _ k => XS.ifYes X11.here hx rfl (pc0 := 15) (pc' := 25) rfl (dc d18_15) rfl (XT.i0_eq_t (by decide)) (by decide) (by decide) k) ?_
  exact Goes.retVW X11 hS1 (by rw [e11]; exact hk1) hZ1 hEL (by rw [e11]; exact RR1) hx hlk hret (dc d18_25) (by decide) (by decide) (by rw [e11]; exact ⟨rfl, N11, K8⟩)
theorem d18_18 : decode c18C 18 = .ok (.aload_n 2, 1) := by decide +kernel
theorem pd_14 : parseMethodDescriptor "()J" = some ⟨[], some .long⟩ := by decide +kernel
theorem d18_19 : decode c18C 19 = .ok (.invokevirtual 49, 3) := by decide +kernel
theorem d18_22 : decode c18C 22 = .ok (.invokestatic 83, 3) := by decide +kernel
theorem rmTeL (l : Launch) (Z : State) (a0 : Array Value) (hw : TW Z a0) (a_ : Addr) (x_ : Int64) (h0 : Heap) (n0 : Nat) (Z0 : n0 ≤ h0.size) (O0 : Old Z n0 h0) (cs : Int32) (SC : Sta Z Z.heap "java/lang/String" "COMPACT_STRINGS" "Z" (.int cs)) (hcs : ¬ cs = (0 : Int32)) (sf : Value) (SF : Sta Z Z.heap "jdk/internal/util/Preconditions" "SIOOBE_FORMATTER" "Ljava/util/function/BiFunction;" sf) (hsf : sf.isRef = true) (ic : Addr) (SI : Sta Z Z.heap "com/example/uncross/uncross/model/Order" "ID_CHARACTERS" "[Z" (.ref ic)) (icf : Nat → Int32) (IC : Arf Z Z.heap ic .boolean Value.int 128 icf) (hic97 : ¬ icf 97 = (0 : Int32)) (hic98 : ¬ icf 98 = (0 : Int32)) (hic99 : ¬ icf 99 = (0 : Int32)) (hEL : EW Z a0 consts_1) (p0 : Exa Z h0 a_ k11C) (p1 : Fld Z h0 a_ k11C "isPresent" "Z" (.int (1 : Int32))) (p2 : Fld Z h0 a_ k11C "value" "J" (.long x_)) (hp1 : ¬ x_ < (1 : Int64)) (hp2 : ¬ (1000000000000 : Int64) < x_) :
    PaysW l Z consts_1 (⟨"com/example/uncross/uncross/model/Order", "checkTerms", "(JLjava/util/OptionalLong;)V"⟩ : MethodName) prog_70_method_5_code 3 none [] ({ frames := 3, cells := 4, slots := 48, locals := 43 } : Room) #[(.long (1 : Int64)), (.ref a_)] h0 (fun v h L => v = none ∧ Fr n0 L ∧ Keep h0 h []) := by
  refine PaysW.walk (plainFor_of_name pn_6) (fun m => ef_10 m (1 : Int64) a_ ) ?_
  intro p e s m below meth c T0 X0 hx hby hml hown hnm hZ e0 hret hlk hS0 RR0
  have dc := @Jvm.hb _ _ hby
  have ow := @own_w Z a0 hw
  have hk0 : 0 ≤ h0.size := Nat.zero_le _
  have S0 : h0.size ≤ h0.size := Nat.le_refl _
  have wS := own_wS hw
  have K0 := Keep.refl h0 ([] : List Addr)
  obtain ⟨a1, T1, h1, k1, b1, kb1, X1, e1, E1, hS1, hk1, hZ1, hown1, A1, C1, V1, K1, lt1, lu1, R1, Lt1, sf1, st1⟩ := ldcCH X0 hx hZ hown (ow 108 rfl) wS e0 hS0 hk0 hEL (List.mem_of_getElem? (i := 5) rfl) RR0.1 (vs := [Value.int 108, Value.int 105, Value.int 109, Value.int 105, Value.int 116]) (z := Int32.ofNat 5) ⟨by decide, by decide⟩ (by decide) (by decide) (g := (mkF m 1 #[sJ 1, s2, sR a_] [(.ref a_)])) rfl (dc d18_1) (n := 20) (by decide) (by decide) (by decide) (by decide)
  have C2 := p0.ext E1
  have C3 := p1.ext E1
  have C4 := p2.ext E1
  have C5 := O0.ext E1
  have Z6 := Nat.le_trans Z0 E1.1
  have K9 := K0.ext E1
  have RR1 := RR0.trans R1
  have Q1 : Str Z h1 a1 b1 kb1 (Int32.ofNat 5) [Value.int 108, Value.int 105, Value.int 109, Value.int 105, Value.int 116] := ⟨A1, C1, V1, K1⟩
  refine Goes.on (T' := T1) (g' := (mkF m 3 #[sJ 1, s2, sR a_] [(.ref a1), (.ref a_)])) (fun _ k => XS.aloadN X0.here hx rfl (dc d18_0) rfl rfl (st1 _ k)) ?_
  refine Goes.callS X1 hx hZ1 0 hown1 (ow 50 rfl) (ow 51 rfl) (ow 52 rfl) (ow 53 rfl) (by decide) e1 (rmQ l Z a0 hw a_ a1 h1 n0 Z6) (by decide) (by decide) (by decide) (by decide) rfl (by rw [hml]; rfl) (argsL := [(.ref a_), (.ref a1)]) (rest := []) rfl (lenOf pd_7 rfl) rfl (own_le20 rfl) (dc d18_3) ?_
  rintro v10 T10 L10 X10 ⟨rfl, N10q, e10⟩
  show Goes p e below _ T10 (mkF m 6 #[sJ 1, s2, sR a_] [(.ref a_)])
  refine Goes.on (T' := T10) (g' := (mkF m 8 #[sJ 1, s2, sR a_] [(.long 1)])) (fun _ k => XS.pop X10.here hx rfl (dc d18_6) rfl rfl (XS.lloadN X10.here hx rfl (dc d18_7) rfl k)) ?_
  refine Goes.callS X10 hx hZ1 0 hown1 (ow 109 rfl) (ow 110 rfl) (ow 111 rfl) (ow 112 rfl) (by decide) e10 (rmQk l Z a0 hw h1 n0 Z6) (by decide) (by decide) (by decide) (by decide) rfl (by rw [hml]; rfl) (argsL := [(.long 1)]) (rest := []) rfl (lenOf pd_13 rfl) rfl (own_le20 rfl) (dc d18_8) ?_
  rintro v11 T11 L11 X11 ⟨rfl, N11q, e11⟩
  show Goes p e below _ T11 (mkF m 11 #[sJ 1, s2, sR a_] [])
  refine Goes.on (T' := T11) (g' := (mkF m 12 #[sJ 1, s2, sR a_] [(.ref a_)])) (fun _ k => XS.aloadN X11.here hx rfl (dc d18_11) rfl rfl k) ?_
  refine Goes.callV X11 hx hZ1 0 hown1 (ow 120 rfl) (ow 121 rfl) (notFace_of_selects (args := #[]) (mvT hZ1 (ow 123 rfl))) (ow 123 rfl) (ow 122 rfl) (ow 25 rfl) (ow 124 rfl) (by decide) e11 C2 (rmIp1 l Z a0 hw a_ h1 n0 Z6  C2 C3 ) (by decide) (by decide) (by decide) (by decide) rfl (by rw [hml]; rfl) (argsL := []) (rest := []) rfl (lenOf pd_3 rfl) rfl (own_le20 rfl) (dc d18_12) ?_
  rintro v12 T12 L12 X12 ⟨rfl, N12q, e12⟩
  show Goes p e below _ T12 (mkF m 15 #[sJ 1, s2, sR a_] [(.int 1)])
  refine Goes.on (T' := T12) (g' := (mkF m 19 #[sJ 1, s2, sR a_] [(.ref a_)])) (fun _ k => XS.ifNo X12.here hx rfl (dc d18_15) rfl (XT.i0_eq_f (by decide)) (XS.aloadN X12.here hx rfl (dc d18_18) rfl rfl k)) ?_
  refine Goes.callV X12 hx hZ1 0 hown1 (ow 125 rfl) (ow 126 rfl) (notFace_of_selects (args := #[]) (mvT hZ1 (ow 128 rfl))) (ow 128 rfl) (ow 127 rfl) (ow 25 rfl) (ow 129 rfl) (by decide) e12 C2 (rmGa l Z a0 hw a_ x_ h1 n0 Z6  C2 C3 C4 ) (by decide) (by decide) (by decide) (by decide) rfl (by rw [hml]; rfl) (argsL := []) (rest := []) rfl (lenOf pd_14 rfl) rfl (own_le20 rfl) (dc d18_19) ?_
  rintro v13 T13 L13 X13 ⟨rfl, N13q, e13⟩
  show Goes p e below _ T13 (mkF m 22 #[sJ 1, s2, sR a_] [(.long x_)])
  refine Goes.callSW X13 hx hZ1 hS1 hk1 hEL RR1.1 0 hown1 (ow 130 rfl) (ow 131 rfl) (ow 132 rfl) (ow 133 rfl) (by decide) e13 (rmPj l Z a0 hw x_ h1 n0 Z6 C5 cs SC hcs sf SF hsf ic SI icf IC hic97 hic98 hic99 hEL  hp1 hp2) (by decide) (by decide) (by decide) (by decide) rfl (by rw [hml]; rfl) (argsL := [(.long x_)]) (rest := []) rfl (lenOf pd_13 rfl) rfl (own_le20 rfl) (dc d18_22) ?_
  intro v14 T14 L14 k14 X14 hS14 hk14 hZ14 hown14 R14 hQ14
  obtain ⟨rfl, N14q, K14⟩ := hQ14
  have N14 := Fr.app (Fr.app (Fr.app (Fr.app (Fr.app (Fr.nil n0) N10q) N11q) N12q) N13q) N14q
  show Goes p e below _ T14 (mkF m 25 #[sJ 1, s2, sR a_] [])
  have RR14 := RR1.trans R14
  have K23 := K9.trans K14 all0
  exact Goes.retVW X14 hS14 (by exact hk14) hZ14 hEL (by exact RR14) hx hlk hret (dc d18_25) (by decide) (by decide) (by exact ⟨rfl, N14, K23⟩)
abbrev c5C := prog_70_method_1_code
theorem d5_0 : decode c5C 0 = .ok (.aload_n 0, 1) := by decide +kernel
theorem pd_15 : parseMethodDescriptor "()V" = some ⟨[], none⟩ := by decide +kernel
theorem d5_1 : decode c5C 1 = .ok (.invokespecial 1, 3) := by decide +kernel
theorem d5_4 : decode c5C 4 = .ok (.aload_n 2, 1) := by decide +kernel
theorem d5_5 : decode c5C 5 = .ok (.ldc 7, 2) := by decide +kernel
theorem d5_7 : decode c5C 7 = .ok (.invokestatic 9, 3) := by decide +kernel
theorem d5_10 : decode c5C 10 = .ok (.pop, 1) := by decide +kernel
theorem d5_11 : decode c5C 11 = .ok (.aload_n 1, 1) := by decide +kernel
theorem pd_16 : parseMethodDescriptor "(Ljava/lang/String;)V" = some ⟨[(.object "java/lang/String")], none⟩ := by decide +kernel
theorem d5_12 : decode c5C 12 = .ok (.invokestatic 15, 3) := by decide +kernel
theorem d5_15 : decode c5C 15 = .ok (.lload_n 3, 1) := by decide +kernel
theorem d5_16 : decode c5C 16 = .ok (.aload 5, 2) := by decide +kernel
theorem pd_17 : parseMethodDescriptor "(JLjava/util/OptionalLong;)V" = some ⟨[.long, (.object "java/util/OptionalLong")], none⟩ := by decide +kernel
theorem d5_18 : decode c5C 18 = .ok (.invokestatic 21, 3) := by decide +kernel
theorem d5_21 : decode c5C 21 = .ok (.aload_n 0, 1) := by decide +kernel
theorem d5_22 : decode c5C 22 = .ok (.aload_n 1, 1) := by decide +kernel
theorem d5_23 : decode c5C 23 = .ok (.putfield 25, 3) := by decide +kernel
theorem d5_26 : decode c5C 26 = .ok (.aload_n 0, 1) := by decide +kernel
theorem d5_27 : decode c5C 27 = .ok (.aload_n 2, 1) := by decide +kernel
theorem d5_28 : decode c5C 28 = .ok (.putfield 29, 3) := by decide +kernel
theorem d5_31 : decode c5C 31 = .ok (.aload_n 0, 1) := by decide +kernel
theorem d5_32 : decode c5C 32 = .ok (.lload_n 3, 1) := by decide +kernel
theorem d5_33 : decode c5C 33 = .ok (.putfield 32, 3) := by decide +kernel
theorem d5_36 : decode c5C 36 = .ok (.aload_n 0, 1) := by decide +kernel
theorem d5_37 : decode c5C 37 = .ok (.aload 5, 2) := by decide +kernel
theorem d5_39 : decode c5C 39 = .ok (.putfield 36, 3) := by decide +kernel
theorem d5_42 : decode c5C 42 = .ok (.return_, 1) := by decide +kernel
theorem ef_11 (m : MethodId) (x0 : Addr) (x1 : Addr) (x2 : Addr) (x3 : Int64) (x4 : Addr) : entryFrame m #[(.ref x0), (.ref x1), (.ref x2), (.long x3), (.ref x4)] 6 = mkF m 0 #[.val (.ref x0), .val (.ref x1), .val (.ref x2), .val (.long x3), .second, .val (.ref x4)] [] := by first | (simp [entryFrame, mkF, argsToLocals, Value.category]; done) | rfl
def sn2 {Z : State} {a0 : Array Value} (hw : TW Z a0) := slot_ne (Or.inr (own_w hw 145 rfl)) (Or.inr (own_w hw 143 rfl)) (by decide) (t := (.object "com/example/uncross/uncross/model/Side")) (by decide) (t' := (.object "java/lang/String")) (by decide)
def sn3 {Z : State} {a0 : Array Value} (hw : TW Z a0) := slot_ne (Or.inr (own_w hw 147 rfl)) (Or.inr (own_w hw 143 rfl)) (by decide) (t := .long) (by decide) (t' := (.object "java/lang/String")) (by decide)
def sn4 {Z : State} {a0 : Array Value} (hw : TW Z a0) := slot_ne (Or.inr (own_w hw 149 rfl)) (Or.inr (own_w hw 143 rfl)) (by decide) (t := (.object "java/util/OptionalLong")) (by decide) (t' := (.object "java/lang/String")) (by decide)
def sn5 {Z : State} {a0 : Array Value} (hw : TW Z a0) := slot_ne (Or.inr (own_w hw 143 rfl)) (Or.inr (own_w hw 145 rfl)) (by decide) (t := (.object "java/lang/String")) (by decide) (t' := (.object "com/example/uncross/uncross/model/Side")) (by decide)
def sn6 {Z : State} {a0 : Array Value} (hw : TW Z a0) := slot_ne (Or.inr (own_w hw 147 rfl)) (Or.inr (own_w hw 145 rfl)) (by decide) (t := .long) (by decide) (t' := (.object "com/example/uncross/uncross/model/Side")) (by decide)
def sn7 {Z : State} {a0 : Array Value} (hw : TW Z a0) := slot_ne (Or.inr (own_w hw 149 rfl)) (Or.inr (own_w hw 145 rfl)) (by decide) (t := (.object "java/util/OptionalLong")) (by decide) (t' := (.object "com/example/uncross/uncross/model/Side")) (by decide)
def sn8 {Z : State} {a0 : Array Value} (hw : TW Z a0) := slot_ne (Or.inr (own_w hw 143 rfl)) (Or.inr (own_w hw 147 rfl)) (by decide) (t := (.object "java/lang/String")) (by decide) (t' := .long) (by decide)
def sn9 {Z : State} {a0 : Array Value} (hw : TW Z a0) := slot_ne (Or.inr (own_w hw 145 rfl)) (Or.inr (own_w hw 147 rfl)) (by decide) (t := (.object "com/example/uncross/uncross/model/Side")) (by decide) (t' := .long) (by decide)
def sn10 {Z : State} {a0 : Array Value} (hw : TW Z a0) := slot_ne (Or.inr (own_w hw 149 rfl)) (Or.inr (own_w hw 147 rfl)) (by decide) (t := (.object "java/util/OptionalLong")) (by decide) (t' := .long) (by decide)
def sn11 {Z : State} {a0 : Array Value} (hw : TW Z a0) := slot_ne (Or.inr (own_w hw 143 rfl)) (Or.inr (own_w hw 149 rfl)) (by decide) (t := (.object "java/lang/String")) (by decide) (t' := (.object "java/util/OptionalLong")) (by decide)
def sn12 {Z : State} {a0 : Array Value} (hw : TW Z a0) := slot_ne (Or.inr (own_w hw 145 rfl)) (Or.inr (own_w hw 149 rfl)) (by decide) (t := (.object "com/example/uncross/uncross/model/Side")) (by decide) (t' := (.object "java/util/OptionalLong")) (by decide)
def sn13 {Z : State} {a0 : Array Value} (hw : TW Z a0) := slot_ne (Or.inr (own_w hw 147 rfl)) (Or.inr (own_w hw 149 rfl)) (by decide) (t := .long) (by decide) (t' := (.object "java/util/OptionalLong")) (by decide)
theorem rmOrM (l : Launch) (Z : State) (a0 : Array Value) (hw : TW Z a0) (o_ id_ sd_ a_ y_ : Addr) (k_ : ClassId) (u_ : Int32) (h0 : Heap) (n0 : Nat) (Z0 : n0 ≤ h0.size) (O0 : Old Z n0 h0) (cs : Int32) (SC : Sta Z Z.heap "java/lang/String" "COMPACT_STRINGS" "Z" (.int cs)) (hcs : ¬ cs = (0 : Int32)) (sf : Value) (SF : Sta Z Z.heap "jdk/internal/util/Preconditions" "SIOOBE_FORMATTER" "Ljava/util/function/BiFunction;" sf) (hsf : sf.isRef = true) (ic : Addr) (SI : Sta Z Z.heap "com/example/uncross/uncross/model/Order" "ID_CHARACTERS" "[Z" (.ref ic)) (icf : Nat → Int32) (IC : Arf Z Z.heap ic .boolean Value.int 128 icf) (hic97 : ¬ icf 97 = (0 : Int32)) (hic98 : ¬ icf 98 = (0 : Int32)) (hic99 : ¬ icf 99 = (0 : Int32)) (hEL : EW Z a0 consts_1) (p0 : Exa Z h0 o_ k3C) (p1 : Fld Z h0 o_ k3C "id" "Ljava/lang/String;" .null) (p2 : Fld Z h0 o_ k3C "side" k10C .null) (p3 : Fld Z h0 o_ k3C "quantity" "J" (.long (0 : Int64))) (p4 : Fld Z h0 o_ k3C "limit" k8C .null) (p5 : Str Z h0 id_ y_ k_ (Int32.ofNat 1) [Value.int u_]) (p6 : Exa Z h0 a_ k11C) (p7 : Fld Z h0 a_ k11C "isPresent" "Z" (.int (0 : Int32))) (q0 : a_ ≠ o_) (g0 : n0 ≤ o_) (hu : u_ = (97 : Int32) ∨ u_ = (98 : Int32) ∨ u_ = (99 : Int32)) :
    PaysW l Z consts_1 (⟨"com/example/uncross/uncross/model/Order", "<init>", "(Ljava/lang/String;Lcom/example/uncross/uncross/model/Side;JLjava/util/OptionalLong;)V"⟩ : MethodName) prog_70_method_1_code 6 none [] ({ frames := 6, cells := 8, slots := 100, locals := 80 } : Room) #[(.ref o_), (.ref id_), (.ref sd_), (.long (1 : Int64)), (.ref a_)] h0 (fun v h L => v = none ∧ Fr n0 L ∧ Keep h0 h [o_] ∧ Exa Z h o_ k3C ∧ Fld Z h o_ k3C "id" "Ljava/lang/String;" (.ref id_) ∧ Fld Z h o_ k3C "side" k10C (.ref sd_) ∧ Fld Z h o_ k3C "quantity" "J" (.long (1 : Int64)) ∧ Fld Z h o_ k3C "limit" k8C (.ref a_)) := by
  refine PaysW.walk (plainFor_of_name pn_6) (fun m => ef_11 m o_ id_ sd_ (1 : Int64) a_ ) ?_
  intro p e s m below meth c T0 X0 hx hby hml hown hnm hZ e0 hret hlk hS0 RR0
  have dc := @Jvm.hb _ _ hby
  have ow := @own_w Z a0 hw
  have hk0 : 0 ≤ h0.size := Nat.zero_le _
  have S0 : h0.size ≤ h0.size := Nat.le_refl _
  have wS := own_wS hw
  have K0 := Keep.refl h0 ([o_] : List Addr)
  refine Goes.on (T' := T0) (g' := (mkF m 1 #[sR o_, sR id_, sR sd_, sJ 1, s2, sR a_] [(.ref o_)])) (fun _ k => XS.aloadN X0.here hx rfl (dc d5_0) rfl rfl k) ?_
  refine Goes.callC X0 hx hZ 0 rfl hown (ow 43 rfl) (ow 44 rfl) (ow 46 rfl) (ow 47 rfl) (by decide) e0 (rmRec l Z a0 hw o_ h0 n0 Z0) (by decide) (by decide) (by decide) (by decide) rfl (by rw [hml]; rfl) (a := o_) (argsL := []) (rest := []) rfl (lenOf pd_15 rfl) rfl (own_le20 rfl) (dc d5_1) ?_
  rintro v1 T1 L1 X1 ⟨rfl, N1q, e1⟩
  show Goes p e below _ T1 (mkF m 4 #[sR o_, sR id_, sR sd_, sJ 1, s2, sR a_] [])
  obtain ⟨a2, T2, h2, k2, b2, kb2, X2, e2, E2, hS2, hk2, hZ2, hown2, A2, C2, V2, K2, lt2, lu2, R2, Lt2, sf2, st2⟩ := ldcCH X1 hx hZ hown (ow 49 rfl) wS e1 hS0 hk0 hEL (List.mem_of_getElem? (i := 3) rfl) RR0.1 (vs := [Value.int 115, Value.int 105, Value.int 100, Value.int 101]) (z := Int32.ofNat 4) ⟨by decide, by decide⟩ (by decide) (by decide) (g := (mkF m 5 #[sR o_, sR id_, sR sd_, sJ 1, s2, sR a_] [(.ref sd_)])) rfl (dc d5_5) (n := 16) (by decide) (by decide) (by decide) (by decide)
  have C8 := p5.ext E2
  have C11 := O0.ext E2
  have Z12 := Nat.le_trans Z0 E2.1
  have K15 := K0.ext E2
  have RR2 := RR0.trans R2
  have Q2 : Str Z h2 a2 b2 kb2 (Int32.ofNat 4) [Value.int 115, Value.int 105, Value.int 100, Value.int 101] := ⟨A2, C2, V2, K2⟩
  refine Goes.on (T' := T2) (g' := (mkF m 7 #[sR o_, sR id_, sR sd_, sJ 1, s2, sR a_] [(.ref a2), (.ref sd_)])) (fun _ k => XS.aloadN X1.here hx rfl (dc d5_4) rfl rfl (st2 _ k)) ?_
  refine Goes.callS X2 hx hZ2 0 hown2 (ow 50 rfl) (ow 51 rfl) (ow 52 rfl) (ow 53 rfl) (by decide) e2 (rmQ l Z a0 hw sd_ a2 h2 n0 Z12) (by decide) (by decide) (by decide) (by decide) rfl (by rw [hml]; rfl) (argsL := [(.ref sd_), (.ref a2)]) (rest := []) rfl (lenOf pd_7 rfl) rfl (own_le20 rfl) (dc d5_7) ?_
  rintro v16 T16 L16 X16 ⟨rfl, N16q, e16⟩
  show Goes p e below _ T16 (mkF m 10 #[sR o_, sR id_, sR sd_, sJ 1, s2, sR a_] [(.ref sd_)])
  refine Goes.on (T' := T16) (g' := (mkF m 12 #[sR o_, sR id_, sR sd_, sJ 1, s2, sR a_] [(.ref id_)])) (fun _ k => XS.pop X16.here hx rfl (dc d5_10) rfl rfl (XS.aloadN X16.here hx rfl (dc d5_11) rfl rfl k)) ?_
  refine Goes.callSW X16 hx hZ2 hS2 hk2 hEL RR2.1 0 hown2 (ow 54 rfl) (ow 55 rfl) (ow 14 rfl) (ow 56 rfl) (by decide) e16 (rmCi l Z a0 hw id_ y_ k_ u_ h2 n0 Z12 C11 cs SC hcs sf SF hsf ic SI icf IC hic97 hic98 hic99 hEL C8 hu) (by decide) (by decide) (by decide) (by decide) rfl (by rw [hml]; rfl) (argsL := [(.ref id_)]) (rest := []) rfl (lenOf pd_16 rfl) rfl (own_le20 rfl) (dc d5_12) ?_
  intro v17 T17 L17 k17 X17 hS17 hk17 hZ17 hown17 R17 hQ17
  obtain ⟨rfl, N17q, K17⟩ := hQ17
  show Goes p e below _ T17 (mkF m 15 #[sR o_, sR id_, sR sd_, sJ 1, s2, sR a_] [])
  have RR17 := RR2.trans R17
  have C24 := (p6.ext E2).keep K17
  have C25 := (p7.ext E2).keep K17 nin0
  have C26 := C11.keep K17 all0
  have Z28 := Nat.le_trans Z12 K17.1
  have K31 := K15.trans K17 all0
  refine Goes.on (T' := T17) (g' := (mkF m 18 #[sR o_, sR id_, sR sd_, sJ 1, s2, sR a_] [(.ref a_), (.long 1)])) (fun _ k => XS.lloadN X17.here hx rfl (dc d5_15) rfl (XS.aload X17.here hx rfl (dc d5_16) rfl rfl k)) ?_
  refine Goes.callSW X17 hx hZ17 hS17 hk17 hEL RR17.1 0 hown17 (ow 105 rfl) (ow 106 rfl) (ow 14 rfl) (ow 107 rfl) (by decide) rfl (rmTeM l Z a0 hw a_ T17.heap n0 Z28 C26 cs SC hcs sf SF hsf ic SI icf IC hic97 hic98 hic99 hEL C24 C25 ) (by decide) (by decide) (by decide) (by decide) rfl (by rw [hml]; rfl) (argsL := [(.long 1), (.ref a_)]) (rest := []) rfl (lenOf pd_17 rfl) rfl (own_le20 rfl) (dc d5_18) ?_
  intro v32 T32 L32 k32 X32 hS32 hk32 hZ32 hown32 R32 hQ32
  obtain ⟨rfl, N32q, K32⟩ := hQ32
  show Goes p e below _ T32 (mkF m 21 #[sR o_, sR id_, sR sd_, sJ 1, s2, sR a_] [])
  have RR32 := RR17.trans R32
  have C33 := ((p0.ext E2).keep K17).keep K32
  have C34 := ((p1.ext E2).keep K17 nin0).keep K32 nin0
  have K46 := K31.trans K32 all0
  obtain ⟨T47, h47, X47, e47, W47, st47⟩ := putF X32 hx hZ32 hown32 (host := "") (Or.inl (ow 142 rfl)) Via.refl rfl C34 C33 (Or.inr ⟨(ow 143 rfl), rfl, hnm⟩) (ow 13 rfl) (ty := (.object "java/lang/String")) (by decide) rfl rfl (g := (mkF m 23 #[sR o_, sR id_, sR sd_, sJ 1, s2, sR a_] [(.ref id_), (.ref o_)])) rfl rfl (dc d5_23)
  have C48 := C33.wr W47
  have C50 := (((p2.ext E2).keep K17 nin0).keep K32 nin0).other W47 (Or.inr (sn2 hw))
  have Z57 := own_leW W47 hk32
  have RR59 := RR32.trans (CHr.wr W47 (Safe.exa hZ32.alike C33 (by decide) (by decide)) RR32.1)
  have K60 := K46.wr W47 (Or.inl (List.mem_of_getElem? (i := 0) rfl))
  obtain ⟨T61, h61, X61, e61, W61, st61⟩ := putF X47 hx hZ32 hown32 (host := "") (Or.inl (ow 144 rfl)) Via.refl e47 C50 C48 (Or.inr ⟨(ow 145 rfl), rfl, hnm⟩) (ow 13 rfl) (ty := (.object "com/example/uncross/uncross/model/Side")) (by decide) rfl rfl (g := (mkF m 28 #[sR o_, sR id_, sR sd_, sJ 1, s2, sR a_] [(.ref sd_), (.ref o_)])) rfl rfl (dc d5_28)
  have C62 := C48.wr W61
  have C65 := ((((p3.ext E2).keep K17 nin0).keep K32 nin0).other W47 (Or.inr (sn3 hw))).other W61 (Or.inr (sn6 hw))
  have Z71 := own_leW W61 Z57
  have RR73 := RR59.trans (CHr.wr W61 (Safe.exa hZ32.alike C48 (by decide) (by decide)) RR59.1)
  have K74 := K60.wr W61 (Or.inl (List.mem_of_getElem? (i := 0) rfl))
  obtain ⟨T75, h75, X75, e75, W75, st75⟩ := putF X61 hx hZ32 hown32 (host := "") (Or.inl (ow 146 rfl)) Via.refl e61 C65 C62 (Or.inr ⟨(ow 147 rfl), rfl, hnm⟩) (ow 13 rfl) (ty := .long) (by decide) rfl rfl (g := (mkF m 33 #[sR o_, sR id_, sR sd_, sJ 1, s2, sR a_] [(.long 1), (.ref o_)])) rfl rfl (dc d5_33)
  have C76 := C62.wr W75
  have C80 := (((((p4.ext E2).keep K17 nin0).keep K32 nin0).other W47 (Or.inr (sn4 hw))).other W61 (Or.inr (sn7 hw))).other W75 (Or.inr (sn10 hw))
  have Z85 := own_leW W75 Z71
  have RR87 := RR73.trans (CHr.wr W75 (Safe.exa hZ32.alike C62 (by decide) (by decide)) RR73.1)
  have K88 := K74.wr W75 (Or.inl (List.mem_of_getElem? (i := 0) rfl))
  obtain ⟨T89, h89, X89, e89, W89, st89⟩ := putF X75 hx hZ32 hown32 (host := "") (Or.inl (ow 148 rfl)) Via.refl e75 C80 C76 (Or.inr ⟨(ow 149 rfl), rfl, hnm⟩) (ow 13 rfl) (ty := (.object "java/util/OptionalLong")) (by decide) rfl rfl (g := (mkF m 39 #[sR o_, sR id_, sR sd_, sJ 1, s2, sR a_] [(.ref a_), (.ref o_)])) rfl rfl (dc d5_39)
  have N89 := Fr.snoc X89 (Fr.snoc X75 (Fr.snoc X61 (Fr.snoc X47 (Fr.app (Fr.app (Fr.app (Fr.app (Fr.nil n0) N1q) N16q) N17q) N32q) g0) g0) g0) g0
  have C90 := C76.wr W89
  have C91 := (((C34.same W47).other W61 (Or.inr (sn5 hw))).other W75 (Or.inr (sn8 hw))).other W89 (Or.inr (sn11 hw))
  have C92 := ((C50.same W61).other W75 (Or.inr (sn9 hw))).other W89 (Or.inr (sn12 hw))
  have C93 := (C65.same W75).other W89 (Or.inr (sn13 hw))
  have C94 := C80.same W89
  have Z99 := own_leW W89 Z85
  have RR101 := RR87.trans (CHr.wr W89 (Safe.exa hZ32.alike C76 (by decide) (by decide)) RR87.1)
  have K102 := K88.wr W89 (Or.inl (List.mem_of_getElem? (i := 0) rfl))
  refine Goes.on (T' := T89) (g' := (mkF m 42 #[sR o_, sR id_, sR sd_, sJ 1, s2, sR a_] [])) (fun _ k => XS.aloadN X32.here hx rfl (dc d5_21) rfl rfl (XS.aloadN X32.here hx rfl (dc d5_22) rfl rfl (st47 _ (XS.aloadN X47.here hx rfl (dc d5_26) rfl rfl (XS.aloadN X47.here hx rfl (dc d5_27) rfl rfl (st61 _ (XS.aloadN X61.here hx rfl (dc d5_31) rfl rfl (XS.lloadN X61.here hx rfl (dc d5_32) rfl (st75 _ (XS.aloadN X75.here hx rfl (dc d5_36) rfl rfl (XS.aload X75.here hx rfl (dc d5_37) rfl rfl (st89 _ k)))))))))))) ?_
  exact Goes.retVW X89 hS32 (by rw [e89]; exact Z99) hZ32 hEL (by rw [e89]; exact RR101) hx hlk hret (dc d5_42) (by decide) (by decide) (by rw [e89]; exact ⟨rfl, N89, K102, C90, C91, C92, C93, C94⟩)
theorem rmOrL (l : Launch) (Z : State) (a0 : Array Value) (hw : TW Z a0) (o_ id_ sd_ a_ y_ : Addr) (k_ : ClassId) (u_ : Int32) (x_ : Int64) (h0 : Heap) (n0 : Nat) (Z0 : n0 ≤ h0.size) (O0 : Old Z n0 h0) (cs : Int32) (SC : Sta Z Z.heap "java/lang/String" "COMPACT_STRINGS" "Z" (.int cs)) (hcs : ¬ cs = (0 : Int32)) (sf : Value) (SF : Sta Z Z.heap "jdk/internal/util/Preconditions" "SIOOBE_FORMATTER" "Ljava/util/function/BiFunction;" sf) (hsf : sf.isRef = true) (ic : Addr) (SI : Sta Z Z.heap "com/example/uncross/uncross/model/Order" "ID_CHARACTERS" "[Z" (.ref ic)) (icf : Nat → Int32) (IC : Arf Z Z.heap ic .boolean Value.int 128 icf) (hic97 : ¬ icf 97 = (0 : Int32)) (hic98 : ¬ icf 98 = (0 : Int32)) (hic99 : ¬ icf 99 = (0 : Int32)) (hEL : EW Z a0 consts_1) (p0 : Exa Z h0 o_ k3C) (p1 : Fld Z h0 o_ k3C "id" "Ljava/lang/String;" .null) (p2 : Fld Z h0 o_ k3C "side" k10C .null) (p3 : Fld Z h0 o_ k3C "quantity" "J" (.long (0 : Int64))) (p4 : Fld Z h0 o_ k3C "limit" k8C .null) (p5 : Str Z h0 id_ y_ k_ (Int32.ofNat 1) [Value.int u_]) (p6 : Exa Z h0 a_ k11C) (p7 : Fld Z h0 a_ k11C "isPresent" "Z" (.int (1 : Int32))) (p8 : Fld Z h0 a_ k11C "value" "J" (.long x_)) (q0 : a_ ≠ o_) (g0 : n0 ≤ o_) (hu : u_ = (97 : Int32) ∨ u_ = (98 : Int32) ∨ u_ = (99 : Int32)) (hp1 : ¬ x_ < (1 : Int64)) (hp2 : ¬ (1000000000000 : Int64) < x_) :
    PaysW l Z consts_1 (⟨"com/example/uncross/uncross/model/Order", "<init>", "(Ljava/lang/String;Lcom/example/uncross/uncross/model/Side;JLjava/util/OptionalLong;)V"⟩ : MethodName) prog_70_method_1_code 6 none [] ({ frames := 6, cells := 8, slots := 100, locals := 80 } : Room) #[(.ref o_), (.ref id_), (.ref sd_), (.long (1 : Int64)), (.ref a_)] h0 (fun v h L => v = none ∧ Fr n0 L ∧ Keep h0 h [o_] ∧ Exa Z h o_ k3C ∧ Fld Z h o_ k3C "id" "Ljava/lang/String;" (.ref id_) ∧ Fld Z h o_ k3C "side" k10C (.ref sd_) ∧ Fld Z h o_ k3C "quantity" "J" (.long (1 : Int64)) ∧ Fld Z h o_ k3C "limit" k8C (.ref a_)) := by
  refine PaysW.walk (plainFor_of_name pn_6) (fun m => ef_11 m o_ id_ sd_ (1 : Int64) a_ ) ?_
  intro p e s m below meth c T0 X0 hx hby hml hown hnm hZ e0 hret hlk hS0 RR0
  have dc := @Jvm.hb _ _ hby
  have ow := @own_w Z a0 hw
  have hk0 : 0 ≤ h0.size := Nat.zero_le _
  have S0 : h0.size ≤ h0.size := Nat.le_refl _
  have wS := own_wS hw
  have K0 := Keep.refl h0 ([o_] : List Addr)
  refine Goes.on (T' := T0) (g' := (mkF m 1 #[sR o_, sR id_, sR sd_, sJ 1, s2, sR a_] [(.ref o_)])) (fun _ k => XS.aloadN X0.here hx rfl (dc d5_0) rfl rfl k) ?_
  refine Goes.callC X0 hx hZ 0 rfl hown (ow 43 rfl) (ow 44 rfl) (ow 46 rfl) (ow 47 rfl) (by decide) e0 (rmRec l Z a0 hw o_ h0 n0 Z0) (by decide) (by decide) (by decide) (by decide) rfl (by rw [hml]; rfl) (a := o_) (argsL := []) (rest := []) rfl (lenOf pd_15 rfl) rfl (own_le20 rfl) (dc d5_1) ?_
  rintro v1 T1 L1 X1 ⟨rfl, N1q, e1⟩
  show Goes p e below _ T1 (mkF m 4 #[sR o_, sR id_, sR sd_, sJ 1, s2, sR a_] [])
  obtain ⟨a2, T2, h2, k2, b2, kb2, X2, e2, E2, hS2, hk2, hZ2, hown2, A2, C2, V2, K2, lt2, lu2, R2, Lt2, sf2, st2⟩ := ldcCH X1 hx hZ hown (ow 49 rfl) wS e1 hS0 hk0 hEL (List.mem_of_getElem? (i := 3) rfl) RR0.1 (vs := [Value.int 115, Value.int 105, Value.int 100, Value.int 101]) (z := Int32.ofNat 4) ⟨by decide, by decide⟩ (by decide) (by decide) (g := (mkF m 5 #[sR o_, sR id_, sR sd_, sJ 1, s2, sR a_] [(.ref sd_)])) rfl (dc d5_5) (n := 16) (by decide) (by decide) (by decide) (by decide)
  have C8 := p5.ext E2
  have C12 := O0.ext E2
  have Z13 := Nat.le_trans Z0 E2.1
  have K16 := K0.ext E2
  have RR2 := RR0.trans R2
  have Q2 : Str Z h2 a2 b2 kb2 (Int32.ofNat 4) [Value.int 115, Value.int 105, Value.int 100, Value.int 101] := ⟨A2, C2, V2, K2⟩
  refine Goes.on (T' := T2) (g' := (mkF m 7 #[sR o_, sR id_, sR sd_, sJ 1, s2, sR a_] [(.ref a2), (.ref sd_)])) (fun _ k => XS.aloadN X1.here hx rfl (dc d5_4) rfl rfl (st2 _ k)) ?_
  refine Goes.callS X2 hx hZ2 0 hown2 (ow 50 rfl) (ow 51 rfl) (ow 52 rfl) (ow 53 rfl) (by decide) e2 (rmQ l Z a0 hw sd_ a2 h2 n0 Z13) (by decide) (by decide) (by decide) (by decide) rfl (by rw [hml]; rfl) (argsL := [(.ref sd_), (.ref a2)]) (rest := []) rfl (lenOf pd_7 rfl) rfl (own_le20 rfl) (dc d5_7) ?_
  rintro v17 T17 L17 X17 ⟨rfl, N17q, e17⟩
  show Goes p e below _ T17 (mkF m 10 #[sR o_, sR id_, sR sd_, sJ 1, s2, sR a_] [(.ref sd_)])
  refine Goes.on (T' := T17) (g' := (mkF m 12 #[sR o_, sR id_, sR sd_, sJ 1, s2, sR a_] [(.ref id_)])) (fun _ k => XS.pop X17.here hx rfl (dc d5_10) rfl rfl (XS.aloadN X17.here hx rfl (dc d5_11) rfl rfl k)) ?_
  refine Goes.callSW X17 hx hZ2 hS2 hk2 hEL RR2.1 0 hown2 (ow 54 rfl) (ow 55 rfl) (ow 14 rfl) (ow 56 rfl) (by decide) e17 (rmCi l Z a0 hw id_ y_ k_ u_ h2 n0 Z13 C12 cs SC hcs sf SF hsf ic SI icf IC hic97 hic98 hic99 hEL C8 hu) (by decide) (by decide) (by decide) (by decide) rfl (by rw [hml]; rfl) (argsL := [(.ref id_)]) (rest := []) rfl (lenOf pd_16 rfl) rfl (own_le20 rfl) (dc d5_12) ?_
  intro v18 T18 L18 k18 X18 hS18 hk18 hZ18 hown18 R18 hQ18
  obtain ⟨rfl, N18q, K18⟩ := hQ18
  show Goes p e below _ T18 (mkF m 15 #[sR o_, sR id_, sR sd_, sJ 1, s2, sR a_] [])
  have RR18 := RR2.trans R18
  have C25 := (p6.ext E2).keep K18
  have C26 := (p7.ext E2).keep K18 nin0
  have C27 := (p8.ext E2).keep K18 nin0
  have C28 := C12.keep K18 all0
  have Z30 := Nat.le_trans Z13 K18.1
  have K33 := K16.trans K18 all0
  refine Goes.on (T' := T18) (g' := (mkF m 18 #[sR o_, sR id_, sR sd_, sJ 1, s2, sR a_] [(.ref a_), (.long 1)])) (fun _ k => XS.lloadN X18.here hx rfl (dc d5_15) rfl (XS.aload X18.here hx rfl (dc d5_16) rfl rfl k)) ?_
  refine Goes.callSW X18 hx hZ18 hS18 hk18 hEL RR18.1 0 hown18 (ow 105 rfl) (ow 106 rfl) (ow 14 rfl) (ow 107 rfl) (by decide) rfl (rmTeL l Z a0 hw a_ x_ T18.heap n0 Z30 C28 cs SC hcs sf SF hsf ic SI icf IC hic97 hic98 hic99 hEL C25 C26 C27 hp1 hp2) (by decide) (by decide) (by decide) (by decide) rfl (by rw [hml]; rfl) (argsL := [(.long 1), (.ref a_)]) (rest := []) rfl (lenOf pd_17 rfl) rfl (own_le20 rfl) (dc d5_18) ?_
  intro v34 T34 L34 k34 X34 hS34 hk34 hZ34 hown34 R34 hQ34
  obtain ⟨rfl, N34q, K34⟩ := hQ34
  show Goes p e below _ T34 (mkF m 21 #[sR o_, sR id_, sR sd_, sJ 1, s2, sR a_] [])
  have RR34 := RR18.trans R34
  have C35 := ((p0.ext E2).keep K18).keep K34
  have C36 := ((p1.ext E2).keep K18 nin0).keep K34 nin0
  have K49 := K33.trans K34 all0
  obtain ⟨T50, h50, X50, e50, W50, st50⟩ := putF X34 hx hZ34 hown34 (host := "") (Or.inl (ow 142 rfl)) Via.refl rfl C36 C35 (Or.inr ⟨(ow 143 rfl), rfl, hnm⟩) (ow 13 rfl) (ty := (.object "java/lang/String")) (by decide) rfl rfl (g := (mkF m 23 #[sR o_, sR id_, sR sd_, sJ 1, s2, sR a_] [(.ref id_), (.ref o_)])) rfl rfl (dc d5_23)
  have C51 := C35.wr W50
  have C53 := (((p2.ext E2).keep K18 nin0).keep K34 nin0).other W50 (Or.inr (sn2 hw))
  have Z61 := own_leW W50 hk34
  have RR63 := RR34.trans (CHr.wr W50 (Safe.exa hZ34.alike C35 (by decide) (by decide)) RR34.1)
  have K64 := K49.wr W50 (Or.inl (List.mem_of_getElem? (i := 0) rfl))
  obtain ⟨T65, h65, X65, e65, W65, st65⟩ := putF X50 hx hZ34 hown34 (host := "") (Or.inl (ow 144 rfl)) Via.refl e50 C53 C51 (Or.inr ⟨(ow 145 rfl), rfl, hnm⟩) (ow 13 rfl) (ty := (.object "com/example/uncross/uncross/model/Side")) (by decide) rfl rfl (g := (mkF m 28 #[sR o_, sR id_, sR sd_, sJ 1, s2, sR a_] [(.ref sd_), (.ref o_)])) rfl rfl (dc d5_28)
  have C66 := C51.wr W65
  have C69 := ((((p3.ext E2).keep K18 nin0).keep K34 nin0).other W50 (Or.inr (sn3 hw))).other W65 (Or.inr (sn6 hw))
  have Z76 := own_leW W65 Z61
  have RR78 := RR63.trans (CHr.wr W65 (Safe.exa hZ34.alike C51 (by decide) (by decide)) RR63.1)
  have K79 := K64.wr W65 (Or.inl (List.mem_of_getElem? (i := 0) rfl))
  obtain ⟨T80, h80, X80, e80, W80, st80⟩ := putF X65 hx hZ34 hown34 (host := "") (Or.inl (ow 146 rfl)) Via.refl e65 C69 C66 (Or.inr ⟨(ow 147 rfl), rfl, hnm⟩) (ow 13 rfl) (ty := .long) (by decide) rfl rfl (g := (mkF m 33 #[sR o_, sR id_, sR sd_, sJ 1, s2, sR a_] [(.long 1), (.ref o_)])) rfl rfl (dc d5_33)
  have C81 := C66.wr W80
  have C85 := (((((p4.ext E2).keep K18 nin0).keep K34 nin0).other W50 (Or.inr (sn4 hw))).other W65 (Or.inr (sn7 hw))).other W80 (Or.inr (sn10 hw))
  have Z91 := own_leW W80 Z76
  have RR93 := RR78.trans (CHr.wr W80 (Safe.exa hZ34.alike C66 (by decide) (by decide)) RR78.1)
  have K94 := K79.wr W80 (Or.inl (List.mem_of_getElem? (i := 0) rfl))
  obtain ⟨T95, h95, X95, e95, W95, st95⟩ := putF X80 hx hZ34 hown34 (host := "") (Or.inl (ow 148 rfl)) Via.refl e80 C85 C81 (Or.inr ⟨(ow 149 rfl), rfl, hnm⟩) (ow 13 rfl) (ty := (.object "java/util/OptionalLong")) (by decide) rfl rfl (g := (mkF m 39 #[sR o_, sR id_, sR sd_, sJ 1, s2, sR a_] [(.ref a_), (.ref o_)])) rfl rfl (dc d5_39)
  have N95 := Fr.snoc X95 (Fr.snoc X80 (Fr.snoc X65 (Fr.snoc X50 (Fr.app (Fr.app (Fr.app (Fr.app (Fr.nil n0) N1q) N17q) N18q) N34q) g0) g0) g0) g0
  have C96 := C81.wr W95
  have C97 := (((C36.same W50).other W65 (Or.inr (sn5 hw))).other W80 (Or.inr (sn8 hw))).other W95 (Or.inr (sn11 hw))
  have C98 := ((C53.same W65).other W80 (Or.inr (sn9 hw))).other W95 (Or.inr (sn12 hw))
  have C99 := (C69.same W80).other W95 (Or.inr (sn13 hw))
  have C100 := C85.same W95
  have Z106 := own_leW W95 Z91
  have RR108 := RR93.trans (CHr.wr W95 (Safe.exa hZ34.alike C81 (by decide) (by decide)) RR93.1)
  have K109 := K94.wr W95 (Or.inl (List.mem_of_getElem? (i := 0) rfl))
  refine Goes.on (T' := T95) (g' := (mkF m 42 #[sR o_, sR id_, sR sd_, sJ 1, s2, sR a_] [])) (fun _ k => XS.aloadN X34.here hx rfl (dc d5_21) rfl rfl (XS.aloadN X34.here hx rfl (dc d5_22) rfl rfl (st50 _ (XS.aloadN X50.here hx rfl (dc d5_26) rfl rfl (XS.aloadN X50.here hx rfl (dc d5_27) rfl rfl (st65 _ (XS.aloadN X65.here hx rfl (dc d5_31) rfl rfl (XS.lloadN X65.here hx rfl (dc d5_32) rfl (st80 _ (XS.aloadN X80.here hx rfl (dc d5_36) rfl rfl (XS.aload X80.here hx rfl (dc d5_37) rfl rfl (st95 _ k)))))))))))) ?_
  exact Goes.retVW X95 hS34 (by rw [e95]; exact Z106) hZ34 hEL (by rw [e95]; exact RR108) hx hlk hret (dc d5_42) (by decide) (by decide) (by rw [e95]; exact ⟨rfl, N95, K109, C96, C97, C98, C99, C100⟩)
abbrev c27C := prog_17_method_1_code
theorem d27_0 : decode c27C 0 = .ok (.aload_n 0, 1) := by decide +kernel
theorem d27_1 : decode c27C 1 = .ok (.invokespecial 1, 3) := by decide +kernel
theorem d27_4 : decode c27C 4 = .ok (.aload_n 0, 1) := by decide +kernel
theorem d27_5 : decode c27C 5 = .ok (.aload_n 1, 1) := by decide +kernel
theorem d27_6 : decode c27C 6 = .ok (.putfield 7, 3) := by decide +kernel
theorem d27_9 : decode c27C 9 = .ok (.aload_n 0, 1) := by decide +kernel
theorem d27_10 : decode c27C 10 = .ok (.lload_n 2, 1) := by decide +kernel
theorem d27_11 : decode c27C 11 = .ok (.putfield 13, 3) := by decide +kernel
theorem d27_14 : decode c27C 14 = .ok (.aload_n 0, 1) := by decide +kernel
theorem d27_15 : decode c27C 15 = .ok (.lload 4, 2) := by decide +kernel
theorem d27_17 : decode c27C 17 = .ok (.putfield 17, 3) := by decide +kernel
theorem d27_20 : decode c27C 20 = .ok (.aload_n 0, 1) := by decide +kernel
theorem d27_21 : decode c27C 21 = .ok (.iload 6, 2) := by decide +kernel
theorem d27_23 : decode c27C 23 = .ok (.putfield 20, 3) := by decide +kernel
theorem d27_26 : decode c27C 26 = .ok (.return_, 1) := by decide +kernel
theorem ef_12 (m : MethodId) (x0 : Addr) (x1 : Addr) (x2 : Int64) (x3 : Int64) (x4 : Int32) : entryFrame m #[(.ref x0), (.ref x1), (.long x2), (.long x3), (.int x4)] 7 = mkF m 0 #[.val (.ref x0), .val (.ref x1), .val (.long x2), .second, .val (.long x3), .second, .val (.int x4)] [] := by first | (simp [entryFrame, mkF, argsToLocals, Value.category]; done) | rfl
theorem pn_10 : plainName "com/example/uncross/uncross/engine/BookSide$Resting" = true := by first | (simp [plainName, overriddenIn]; done) | decide +kernel
def sn14 {Z : State} {a0 : Array Value} (hw : TW Z a0) := slot_ne (Or.inl (own_w hw 157 rfl)) (Or.inr (own_w hw 155 rfl)) (by decide) (t := .long) (by decide) (t' := (.object "com/example/uncross/uncross/model/Order")) (by decide)
def sn15 {Z : State} {a0 : Array Value} (hw : TW Z a0) := slot_ne (Or.inl (own_w hw 247 rfl)) (Or.inr (own_w hw 155 rfl)) (by decide) (t := (.object "com/example/uncross/uncross/engine/BookSide$Level")) (by decide) (t' := (.object "com/example/uncross/uncross/model/Order")) (by decide)
def sn16 {Z : State} {a0 : Array Value} (hw : TW Z a0) := slot_ne (Or.inl (own_w hw 251 rfl)) (Or.inr (own_w hw 155 rfl)) (by decide) (t := (.object "com/example/uncross/uncross/engine/BookSide$Resting")) (by decide) (t' := (.object "com/example/uncross/uncross/model/Order")) (by decide)
def sn17 {Z : State} {a0 : Array Value} (hw : TW Z a0) := slot_ne (Or.inl (own_w hw 292 rfl)) (Or.inr (own_w hw 155 rfl)) (by decide) (t := (.object "com/example/uncross/uncross/engine/BookSide$Resting")) (by decide) (t' := (.object "com/example/uncross/uncross/model/Order")) (by decide)
def sn18 {Z : State} {a0 : Array Value} (hw : TW Z a0) := slot_ne (Or.inr (own_w hw 159 rfl)) (Or.inr (own_w hw 155 rfl)) (by decide) (t := .long) (by decide) (t' := (.object "com/example/uncross/uncross/model/Order")) (by decide)
def sn19 {Z : State} {a0 : Array Value} (hw : TW Z a0) := slot_ne (Or.inr (own_w hw 161 rfl)) (Or.inr (own_w hw 155 rfl)) (by decide) (t := .boolean) (by decide) (t' := (.object "com/example/uncross/uncross/model/Order")) (by decide)
def sn20 {Z : State} {a0 : Array Value} (hw : TW Z a0) := slot_ne (Or.inl (own_w hw 247 rfl)) (Or.inl (own_w hw 157 rfl)) (by decide) (t := (.object "com/example/uncross/uncross/engine/BookSide$Level")) (by decide) (t' := .long) (by decide)
def sn21 {Z : State} {a0 : Array Value} (hw : TW Z a0) := slot_ne (Or.inl (own_w hw 251 rfl)) (Or.inl (own_w hw 157 rfl)) (by decide) (t := (.object "com/example/uncross/uncross/engine/BookSide$Resting")) (by decide) (t' := .long) (by decide)
def sn22 {Z : State} {a0 : Array Value} (hw : TW Z a0) := slot_ne (Or.inl (own_w hw 292 rfl)) (Or.inl (own_w hw 157 rfl)) (by decide) (t := (.object "com/example/uncross/uncross/engine/BookSide$Resting")) (by decide) (t' := .long) (by decide)
def sn23 {Z : State} {a0 : Array Value} (hw : TW Z a0) := slot_ne (Or.inr (own_w hw 155 rfl)) (Or.inl (own_w hw 157 rfl)) (by decide) (t := (.object "com/example/uncross/uncross/model/Order")) (by decide) (t' := .long) (by decide)
def sn24 {Z : State} {a0 : Array Value} (hw : TW Z a0) := slot_ne (Or.inr (own_w hw 159 rfl)) (Or.inl (own_w hw 157 rfl)) (by decide) (t := .long) (by decide) (t' := .long) (by decide)
def sn25 {Z : State} {a0 : Array Value} (hw : TW Z a0) := slot_ne (Or.inr (own_w hw 161 rfl)) (Or.inl (own_w hw 157 rfl)) (by decide) (t := .boolean) (by decide) (t' := .long) (by decide)
def sn26 {Z : State} {a0 : Array Value} (hw : TW Z a0) := slot_ne (Or.inl (own_w hw 157 rfl)) (Or.inr (own_w hw 159 rfl)) (by decide) (t := .long) (by decide) (t' := .long) (by decide)
def sn27 {Z : State} {a0 : Array Value} (hw : TW Z a0) := slot_ne (Or.inl (own_w hw 247 rfl)) (Or.inr (own_w hw 159 rfl)) (by decide) (t := (.object "com/example/uncross/uncross/engine/BookSide$Level")) (by decide) (t' := .long) (by decide)
def sn28 {Z : State} {a0 : Array Value} (hw : TW Z a0) := slot_ne (Or.inl (own_w hw 251 rfl)) (Or.inr (own_w hw 159 rfl)) (by decide) (t := (.object "com/example/uncross/uncross/engine/BookSide$Resting")) (by decide) (t' := .long) (by decide)
def sn29 {Z : State} {a0 : Array Value} (hw : TW Z a0) := slot_ne (Or.inl (own_w hw 292 rfl)) (Or.inr (own_w hw 159 rfl)) (by decide) (t := (.object "com/example/uncross/uncross/engine/BookSide$Resting")) (by decide) (t' := .long) (by decide)
def sn30 {Z : State} {a0 : Array Value} (hw : TW Z a0) := slot_ne (Or.inr (own_w hw 155 rfl)) (Or.inr (own_w hw 159 rfl)) (by decide) (t := (.object "com/example/uncross/uncross/model/Order")) (by decide) (t' := .long) (by decide)
def sn31 {Z : State} {a0 : Array Value} (hw : TW Z a0) := slot_ne (Or.inr (own_w hw 161 rfl)) (Or.inr (own_w hw 159 rfl)) (by decide) (t := .boolean) (by decide) (t' := .long) (by decide)
def sn32 {Z : State} {a0 : Array Value} (hw : TW Z a0) := slot_ne (Or.inl (own_w hw 157 rfl)) (Or.inr (own_w hw 161 rfl)) (by decide) (t := .long) (by decide) (t' := .boolean) (by decide)
def sn33 {Z : State} {a0 : Array Value} (hw : TW Z a0) := slot_ne (Or.inl (own_w hw 247 rfl)) (Or.inr (own_w hw 161 rfl)) (by decide) (t := (.object "com/example/uncross/uncross/engine/BookSide$Level")) (by decide) (t' := .boolean) (by decide)
def sn34 {Z : State} {a0 : Array Value} (hw : TW Z a0) := slot_ne (Or.inl (own_w hw 251 rfl)) (Or.inr (own_w hw 161 rfl)) (by decide) (t := (.object "com/example/uncross/uncross/engine/BookSide$Resting")) (by decide) (t' := .boolean) (by decide)
def sn35 {Z : State} {a0 : Array Value} (hw : TW Z a0) := slot_ne (Or.inl (own_w hw 292 rfl)) (Or.inr (own_w hw 161 rfl)) (by decide) (t := (.object "com/example/uncross/uncross/engine/BookSide$Resting")) (by decide) (t' := .boolean) (by decide)
def sn36 {Z : State} {a0 : Array Value} (hw : TW Z a0) := slot_ne (Or.inr (own_w hw 155 rfl)) (Or.inr (own_w hw 161 rfl)) (by decide) (t := (.object "com/example/uncross/uncross/model/Order")) (by decide) (t' := .boolean) (by decide)
def sn37 {Z : State} {a0 : Array Value} (hw : TW Z a0) := slot_ne (Or.inr (own_w hw 159 rfl)) (Or.inr (own_w hw 161 rfl)) (by decide) (t := .long) (by decide) (t' := .boolean) (by decide)
theorem rmRe (l : Launch) (Z : State) (a0 : Array Value) (hw : TW Z a0) (a : Addr) (x1 : Addr) (x2 : Int64) (x3 : Int64) (x4 : Int32) (h0 : Heap) (n0 : Nat) (Z0 : n0 ≤ h0.size) (E0 : Exa Z h0 a "com/example/uncross/uncross/engine/BookSide$Resting") (ga : n0 ≤ a) (F_quantity : Fld Z h0 a "com/example/uncross/uncross/engine/BookSide$Resting" "quantity" "J" (.long (0 : Int64))) (F_level : Fld Z h0 a "com/example/uncross/uncross/engine/BookSide$Resting" "level" "Lcom/example/uncross/uncross/engine/BookSide$Level;" .null) (F_ahead : Fld Z h0 a "com/example/uncross/uncross/engine/BookSide$Resting" "ahead" "Lcom/example/uncross/uncross/engine/BookSide$Resting;" .null) (F_behind : Fld Z h0 a "com/example/uncross/uncross/engine/BookSide$Resting" "behind" "Lcom/example/uncross/uncross/engine/BookSide$Resting;" .null) (F_order : Fld Z h0 a "com/example/uncross/uncross/engine/BookSide$Resting" "order" "Lcom/example/uncross/uncross/model/Order;" .null) (F_time : Fld Z h0 a "com/example/uncross/uncross/engine/BookSide$Resting" "time" "J" (.long (0 : Int64))) (F_filed : Fld Z h0 a "com/example/uncross/uncross/engine/BookSide$Resting" "filed" "Z" (.int (0 : Int32))) (hb4 : x4 = 0 ∨ x4 = 1) :
    Pays l Z (⟨"com/example/uncross/uncross/engine/BookSide$Resting", "<init>", "(Lcom/example/uncross/uncross/model/Order;JJZ)V"⟩ : MethodName) prog_17_method_1_code 7 none [] ({ frames := 1, cells := 0, slots := 0, locals := 12 } : Room) #[(.ref a), (.ref x1), (.long x2), (.long x3), (.int x4)] h0 (fun v h L => v = none ∧ Fr n0 L ∧ Keep h0 h [a] ∧ Exa Z h a "com/example/uncross/uncross/engine/BookSide$Resting" ∧ Fld Z h a "com/example/uncross/uncross/engine/BookSide$Resting" "quantity" "J" (.long x2) ∧ Fld Z h a "com/example/uncross/uncross/engine/BookSide$Resting" "level" "Lcom/example/uncross/uncross/engine/BookSide$Level;" .null ∧ Fld Z h a "com/example/uncross/uncross/engine/BookSide$Resting" "ahead" "Lcom/example/uncross/uncross/engine/BookSide$Resting;" .null ∧ Fld Z h a "com/example/uncross/uncross/engine/BookSide$Resting" "behind" "Lcom/example/uncross/uncross/engine/BookSide$Resting;" .null ∧ Fld Z h a "com/example/uncross/uncross/engine/BookSide$Resting" "order" "Lcom/example/uncross/uncross/model/Order;" (.ref x1) ∧ Fld Z h a "com/example/uncross/uncross/engine/BookSide$Resting" "time" "J" (.long x3) ∧ Fld Z h a "com/example/uncross/uncross/engine/BookSide$Resting" "filed" "Z" (.int x4)) := by
  refine Pays.walk (plainFor_of_name pn_10) (fun m => ef_12 m a x1 x2 x3 x4 ) ?_
  intro p e s m below meth c T0 X0 hx hby hml hown hnm hZ e0 hret hlk
  have dc := @Jvm.hb _ _ hby
  have ow := @own_w Z a0 hw
  have K0 := Keep.refl h0 [a]
  obtain ⟨T1, X1, e1, st1⟩ := initO X0 hx hZ hown (ow 153 rfl) (ow 34 rfl) (ow 35 rfl) e0 (g := (mkF m 1 #[sR a, sR x1, sJ x2, s2, sJ x3, s2, sI x4] [(.ref a)])) rfl (by rw [hml]; rfl) rfl (dc d27_1) (by decide) (W := 0) (own_le20 rfl) (by decide)
  obtain ⟨T2, h2, X2, e2, W2, st2⟩ := putF X1 hx hZ hown (host := "") (Or.inl (ow 154 rfl)) Via.refl e1 F_order E0 (Or.inr ⟨(ow 155 rfl), rfl, hnm⟩) (ow 10 rfl) (ty := (.object "com/example/uncross/uncross/model/Order")) (by decide) rfl rfl (g := (mkF m 6 #[sR a, sR x1, sJ x2, s2, sJ x3, s2, sI x4] [(.ref x1), (.ref a)])) rfl rfl (dc d27_6)
  have C3 := E0.wr W2
  have C4 := F_quantity.other W2 (Or.inr (sn14 hw))
  have K12 := K0.wr W2 (Or.inl (List.mem_of_getElem? (i := 0) rfl))
  obtain ⟨T13, h13, X13, e13, W13, st13⟩ := putF X2 hx hZ hown (host := "") (Or.inl (ow 156 rfl)) Via.refl e2 C4 C3 (Or.inl (ow 157 rfl)) (ow 10 rfl) (ty := .long) (by decide) rfl rfl (g := (mkF m 11 #[sR a, sR x1, sJ x2, s2, sJ x3, s2, sI x4] [(.long x2), (.ref a)])) rfl rfl (dc d27_11)
  have C14 := C3.wr W13
  have C20 := (F_time.other W2 (Or.inr (sn18 hw))).other W13 (Or.inr (sn24 hw))
  have K23 := K12.wr W13 (Or.inl (List.mem_of_getElem? (i := 0) rfl))
  obtain ⟨T24, h24, X24, e24, W24, st24⟩ := putF X13 hx hZ hown (host := "") (Or.inl (ow 158 rfl)) Via.refl e13 C20 C14 (Or.inr ⟨(ow 159 rfl), rfl, hnm⟩) (ow 10 rfl) (ty := .long) (by decide) rfl rfl (g := (mkF m 17 #[sR a, sR x1, sJ x2, s2, sJ x3, s2, sI x4] [(.long x3), (.ref a)])) rfl rfl (dc d27_17)
  have C25 := C14.wr W24
  have C32 := ((F_filed.other W2 (Or.inr (sn19 hw))).other W13 (Or.inr (sn25 hw))).other W24 (Or.inr (sn31 hw))
  have K34 := K23.wr W24 (Or.inl (List.mem_of_getElem? (i := 0) rfl))
  obtain ⟨T35, h35, X35, e35, W35, st35⟩ := putF X24 hx hZ hown (host := "") (Or.inl (ow 160 rfl)) Via.refl e24 C32 C25 (Or.inr ⟨(ow 161 rfl), rfl, hnm⟩) (ow 10 rfl) (ty := .boolean) (by decide) (narB hb4) (fitB hb4) (g := (mkF m 23 #[sR a, sR x1, sJ x2, s2, sJ x3, s2, sI x4] [(.int x4), (.ref a)])) rfl rfl (dc d27_23)
  have N35 := Fr.snoc X35 (Fr.snoc X24 (Fr.snoc X13 (Fr.snoc X2 (Fr.nil n0) ga) ga) ga) ga
  have C36 := C25.wr W35
  have C37 := ((C4.same W13).other W24 (Or.inr (sn26 hw))).other W35 (Or.inr (sn32 hw))
  have C38 := (((F_level.other W2 (Or.inr (sn15 hw))).other W13 (Or.inr (sn20 hw))).other W24 (Or.inr (sn27 hw))).other W35 (Or.inr (sn33 hw))
  have C39 := (((F_ahead.other W2 (Or.inr (sn16 hw))).other W13 (Or.inr (sn21 hw))).other W24 (Or.inr (sn28 hw))).other W35 (Or.inr (sn34 hw))
  have C40 := (((F_behind.other W2 (Or.inr (sn17 hw))).other W13 (Or.inr (sn22 hw))).other W24 (Or.inr (sn29 hw))).other W35 (Or.inr (sn35 hw))
  have C41 := (((F_order.same W2).other W13 (Or.inr (sn23 hw))).other W24 (Or.inr (sn30 hw))).other W35 (Or.inr (sn36 hw))
  have C42 := (C20.same W24).other W35 (Or.inr (sn37 hw))
  have C43 := C32.same W35
  have K45 := K34.wr W35 (Or.inl (List.mem_of_getElem? (i := 0) rfl))
  refine Goes.on (T' := T35) (g' := (mkF m 26 #[sR a, sR x1, sJ x2, s2, sJ x3, s2, sI x4] [])) (fun _ k => XS.aloadN X0.here hx rfl (dc d27_0) rfl rfl (st1 _ (XS.aloadN X1.here hx rfl (dc d27_4) rfl rfl (XS.aloadN X1.here hx rfl (dc d27_5) rfl rfl (st2 _ (XS.aloadN X2.here hx rfl (dc d27_9) rfl rfl (XS.lloadN X2.here hx rfl (dc d27_10) rfl (st13 _ (XS.aloadN X13.here hx rfl (dc d27_14) rfl rfl (XS.lload X13.here hx rfl (dc d27_15) rfl (st24 _ (XS.aloadN X24.here hx rfl (dc d27_20) rfl rfl (XS.iload X24.here hx rfl (dc d27_21) rfl (st35 _ k)))))))))))))) ?_
  exact Goes.retV X35 hx hlk hret (dc d27_26) (by decide) (by decide) (by rw [e35]; exact ⟨rfl, N35, K45, C36, C37, C38, C39, C40, C41, C42, C43⟩)
abbrev c29C := prog_16_method_1_code
theorem d29_0 : decode c29C 0 = .ok (.aload_n 0, 1) := by decide +kernel
theorem d29_1 : decode c29C 1 = .ok (.invokespecial 1, 3) := by decide +kernel
theorem d29_4 : decode c29C 4 = .ok (.aload_n 0, 1) := by decide +kernel
theorem d29_5 : decode c29C 5 = .ok (.lload_n 1, 1) := by decide +kernel
theorem d29_6 : decode c29C 6 = .ok (.putfield 7, 3) := by decide +kernel
theorem d29_9 : decode c29C 9 = .ok (.return_, 1) := by decide +kernel
theorem pn_11 : plainName "com/example/uncross/uncross/engine/BookSide$Level" = true := by first | (simp [plainName, overriddenIn]; done) | decide +kernel
def sn38 {Z : State} {a0 : Array Value} (hw : TW Z a0) := slot_ne (Or.inl (own_w hw 224 rfl)) (Or.inr (own_w hw 180 rfl)) (by decide) (t := (.object "com/example/uncross/uncross/engine/BookSide$Resting")) (by decide) (t' := .long) (by decide)
def sn39 {Z : State} {a0 : Array Value} (hw : TW Z a0) := slot_ne (Or.inl (own_w hw 249 rfl)) (Or.inr (own_w hw 180 rfl)) (by decide) (t := (.object "com/example/uncross/uncross/engine/BookSide$Resting")) (by decide) (t' := .long) (by decide)
def sn40 {Z : State} {a0 : Array Value} (hw : TW Z a0) := slot_ne (Or.inl (own_w hw 301 rfl)) (Or.inr (own_w hw 180 rfl)) (by decide) (t := .boolean) (by decide) (t' := .long) (by decide)
theorem rmLv (l : Launch) (Z : State) (a0 : Array Value) (hw : TW Z a0) (a : Addr) (x1 : Int64) (h0 : Heap) (n0 : Nat) (Z0 : n0 ≤ h0.size) (E0 : Exa Z h0 a "com/example/uncross/uncross/engine/BookSide$Level") (ga : n0 ≤ a) (F_first : Fld Z h0 a "com/example/uncross/uncross/engine/BookSide$Level" "first" "Lcom/example/uncross/uncross/engine/BookSide$Resting;" .null) (F_last : Fld Z h0 a "com/example/uncross/uncross/engine/BookSide$Level" "last" "Lcom/example/uncross/uncross/engine/BookSide$Resting;" .null) (F_deep : Fld Z h0 a "com/example/uncross/uncross/engine/BookSide$Level" "deep" "Z" (.int (0 : Int32))) (F_key : Fld Z h0 a "com/example/uncross/uncross/engine/BookSide$Level" "key" "J" (.long (0 : Int64))) :
    Pays l Z (⟨"com/example/uncross/uncross/engine/BookSide$Level", "<init>", "(J)V"⟩ : MethodName) prog_16_method_1_code 3 none [] ({ frames := 1, cells := 0, slots := 0, locals := 12 } : Room) #[(.ref a), (.long x1)] h0 (fun v h L => v = none ∧ Fr n0 L ∧ Keep h0 h [a] ∧ Exa Z h a "com/example/uncross/uncross/engine/BookSide$Level" ∧ Fld Z h a "com/example/uncross/uncross/engine/BookSide$Level" "first" "Lcom/example/uncross/uncross/engine/BookSide$Resting;" .null ∧ Fld Z h a "com/example/uncross/uncross/engine/BookSide$Level" "last" "Lcom/example/uncross/uncross/engine/BookSide$Resting;" .null ∧ Fld Z h a "com/example/uncross/uncross/engine/BookSide$Level" "deep" "Z" (.int (0 : Int32)) ∧ Fld Z h a "com/example/uncross/uncross/engine/BookSide$Level" "key" "J" (.long x1)) := by
  refine Pays.walk (plainFor_of_name pn_11) (fun m => ef_8 m a x1 ) ?_
  intro p e s m below meth c T0 X0 hx hby hml hown hnm hZ e0 hret hlk
  have K0 := Keep.refl h0 [a]
  obtain ⟨T1, X1, e1, st1⟩ := initO X0 hx hZ hown (own_w hw 178 rfl) (own_w hw 34 rfl) (own_w hw 35 rfl) e0 (g := (mkF m 1 #[sR a, sJ x1, s2] [(.ref a)])) rfl (by rw [hml]; rfl) rfl (hb hby d29_1) (by decide) (W := 0) (own_le20 rfl) (by decide)
  obtain ⟨T2, h2, X2, e2, W2, st2⟩ := putF X1 hx hZ hown (host := "") (Or.inl (own_w hw 179 rfl)) Via.refl e1 F_key E0 (Or.inr ⟨(own_w hw 180 rfl), rfl, hnm⟩) (own_w hw 173 rfl) (ty := .long) (by decide) rfl rfl (g := (mkF m 6 #[sR a, sJ x1, s2] [(.long x1), (.ref a)])) rfl rfl (hb hby d29_6)
  have N2 := Fr.snoc X2 (Fr.nil n0) ga
  have C3 := E0.wr W2
  have C4 := F_first.other W2 (Or.inr (sn38 hw))
  have C5 := F_last.other W2 (Or.inr (sn39 hw))
  have C6 := F_deep.other W2 (Or.inr (sn40 hw))
  have C7 := F_key.same W2
  have K9 := K0.wr W2 (Or.inl (List.mem_of_getElem? (i := 0) rfl))
  refine Goes.on (T' := T2) (g' := (mkF m 9 #[sR a, sJ x1, s2] [])) (fun _ k => XS.aloadN X0.here hx rfl (hb hby d29_0) rfl rfl (st1 _ (XS.aloadN X1.here hx rfl (hb hby d29_4) rfl rfl (XS.lloadN X1.here hx rfl (hb hby d29_5) rfl (st2 _ k))))) ?_
  exact Goes.retV X2 hx hlk hret (hb hby d29_9) (by decide) (by decide) (by rw [e2]; exact ⟨rfl, N2, K9, C3, C4, C5, C6, C7⟩)
abbrev c30C := jdk_2729_method_1_code
theorem d30_0 : decode c30C 0 = .ok (.aload_n 0, 1) := by decide +kernel
theorem d30_1 : decode c30C 1 = .ok (.invokespecial 1, 3) := by decide +kernel
theorem d30_4 : decode c30C 4 = .ok (.aload_n 0, 1) := by decide +kernel
theorem d30_5 : decode c30C 5 = .ok (.iconst 0, 1) := by decide +kernel
theorem d30_6 : decode c30C 6 = .ok (.putfield 7, 3) := by decide +kernel
theorem d30_9 : decode c30C 9 = .ok (.aload_n 0, 1) := by decide +kernel
theorem d30_10 : decode c30C 10 = .ok (.iconst 0, 1) := by decide +kernel
theorem d30_11 : decode c30C 11 = .ok (.putfield 13, 3) := by decide +kernel
theorem d30_14 : decode c30C 14 = .ok (.aload_n 0, 1) := by decide +kernel
theorem d30_15 : decode c30C 15 = .ok (.aconst_null, 1) := by decide +kernel
theorem d30_16 : decode c30C 16 = .ok (.putfield 16, 3) := by decide +kernel
theorem d30_19 : decode c30C 19 = .ok (.return_, 1) := by decide +kernel
theorem pn_12 : plainName "java/util/TreeMap" = true := by first | (simp [plainName, overriddenIn]; done) | decide +kernel
def sn41 {Z : State} {a0 : Array Value} (hw : TW Z a0) := slot_ne (Or.inl (own_w hw 207 rfl)) (Or.inl (own_w hw 205 rfl)) (by decide) (t := .int) (by decide) (t' := .int) (by decide)
def sn42 {Z : State} {a0 : Array Value} (hw : TW Z a0) := slot_ne (Or.inr (own_w hw 209 rfl)) (Or.inl (own_w hw 205 rfl)) (by decide) (t := (.object "java/util/Comparator")) (by decide) (t' := .int) (by decide)
def sn43 {Z : State} {a0 : Array Value} (hw : TW Z a0) := slot_ne (Or.inl (own_w hw 205 rfl)) (Or.inl (own_w hw 207 rfl)) (by decide) (t := .int) (by decide) (t' := .int) (by decide)
def sn44 {Z : State} {a0 : Array Value} (hw : TW Z a0) := slot_ne (Or.inr (own_w hw 209 rfl)) (Or.inl (own_w hw 207 rfl)) (by decide) (t := (.object "java/util/Comparator")) (by decide) (t' := .int) (by decide)
def sn45 {Z : State} {a0 : Array Value} (hw : TW Z a0) := slot_ne (Or.inl (own_w hw 205 rfl)) (Or.inr (own_w hw 209 rfl)) (by decide) (t := .int) (by decide) (t' := (.object "java/util/Comparator")) (by decide)
def sn46 {Z : State} {a0 : Array Value} (hw : TW Z a0) := slot_ne (Or.inl (own_w hw 207 rfl)) (Or.inr (own_w hw 209 rfl)) (by decide) (t := .int) (by decide) (t' := (.object "java/util/Comparator")) (by decide)
theorem rmTm (l : Launch) (Z : State) (a0 : Array Value) (hw : TW Z a0) (a : Addr) (h0 : Heap) (n0 : Nat) (Z0 : n0 ≤ h0.size) (E0 : Exa Z h0 a "java/util/TreeMap") (ga : n0 ≤ a) (F_size : Fld Z h0 a "java/util/TreeMap" "size" "I" (.int (0 : Int32))) (F_modCount : Fld Z h0 a "java/util/TreeMap" "modCount" "I" (.int (0 : Int32))) (F_comparator : Fld Z h0 a "java/util/TreeMap" "comparator" "Ljava/util/Comparator;" .null) :
    Pays l Z (⟨"java/util/TreeMap", "<init>", "()V"⟩ : MethodName) jdk_2729_method_1_code 1 none [] ({ frames := 2, cells := 0, slots := 0, locals := 24 } : Room) #[(.ref a)] h0 (fun v h L => v = none ∧ Fr n0 L ∧ Keep h0 h [a] ∧ Exa Z h a "java/util/TreeMap" ∧ Fld Z h a "java/util/TreeMap" "size" "I" (.int (0 : Int32)) ∧ Fld Z h a "java/util/TreeMap" "modCount" "I" (.int (0 : Int32)) ∧ Fld Z h a "java/util/TreeMap" "comparator" "Ljava/util/Comparator;" .null) := by
  refine Pays.walk (plainFor_of_name pn_12) (fun m => ef_0 m a ) ?_
  intro p e s m below meth c T0 X0 hx hby hml hown hnm hZ e0 hret hlk
  have dc := @Jvm.hb _ _ hby
  have ow := @own_w Z a0 hw
  have K0 := Keep.refl h0 [a]
  refine Goes.on (T' := T0) (g' := (mkF m 1 #[sR a] [(.ref a)])) (fun _ k => XS.aloadN X0.here hx rfl (dc d30_0) rfl rfl k) ?_
  refine Goes.callC X0 hx hZ 0 rfl hown (ow 197 rfl) (ow 198 rfl) (ow 201 rfl) (ow 202 rfl) (by decide) e0 (rmAbm l Z a0 hw a h0 n0 Z0) (by decide) (by decide) (by decide) (by decide) rfl (by rw [hml]; rfl) (a := a) (argsL := []) (rest := []) rfl (lenOf pd_15 rfl) rfl (own_le20 rfl) (dc d30_1) ?_
  rintro v1 T1 L1 X1 ⟨rfl, N1q, e1⟩
  show Goes p e below _ T1 (mkF m 4 #[sR a] [])
  obtain ⟨T2, h2, X2, e2, W2, st2⟩ := putF X1 hx hZ hown (host := "") (Or.inl (ow 204 rfl)) Via.refl e1 F_size E0 (Or.inl (ow 205 rfl)) (ow 192 rfl) (ty := .int) (by decide) rfl rfl (g := (mkF m 6 #[sR a] [(.int 0), (.ref a)])) rfl rfl (dc d30_6)
  have C3 := E0.wr W2
  have C5 := F_modCount.other W2 (Or.inr (sn41 hw))
  have K8 := K0.wr W2 (Or.inl (List.mem_of_getElem? (i := 0) rfl))
  obtain ⟨T9, h9, X9, e9, W9, st9⟩ := putF X2 hx hZ hown (host := "") (Or.inl (ow 206 rfl)) Via.refl e2 C5 C3 (Or.inl (ow 207 rfl)) (ow 192 rfl) (ty := .int) (by decide) rfl rfl (g := (mkF m 11 #[sR a] [(.int 0), (.ref a)])) rfl rfl (dc d30_11)
  have C10 := C3.wr W9
  have C13 := (F_comparator.other W2 (Or.inr (sn42 hw))).other W9 (Or.inr (sn44 hw))
  have K15 := K8.wr W9 (Or.inl (List.mem_of_getElem? (i := 0) rfl))
  obtain ⟨T16, h16, X16, e16, W16, st16⟩ := putF X9 hx hZ hown (host := "") (Or.inl (ow 208 rfl)) Via.refl e9 C13 C10 (Or.inr ⟨(ow 209 rfl), rfl, hnm⟩) (ow 192 rfl) (ty := (.object "java/util/Comparator")) (by decide) rfl rfl (g := (mkF m 16 #[sR a] [.null, (.ref a)])) rfl rfl (dc d30_16)
  have N16 := Fr.snoc X16 (Fr.snoc X9 (Fr.snoc X2 (Fr.app (Fr.nil n0) N1q) ga) ga) ga
  have C17 := C10.wr W16
  have C18 := ((F_size.same W2).other W9 (Or.inr (sn43 hw))).other W16 (Or.inr (sn45 hw))
  have C19 := (C5.same W9).other W16 (Or.inr (sn46 hw))
  have C20 := C13.same W16
  have K22 := K15.wr W16 (Or.inl (List.mem_of_getElem? (i := 0) rfl))
  refine Goes.on (T' := T16) (g' := (mkF m 19 #[sR a] [])) (fun _ k => XS.aloadN X1.here hx rfl (dc d30_4) rfl rfl (XS.iconst X1.here hx rfl (dc d30_5) (st2 _ (XS.aloadN X2.here hx rfl (dc d30_9) rfl rfl (XS.iconst X2.here hx rfl (dc d30_10) (st9 _ (XS.aloadN X9.here hx rfl (dc d30_14) rfl rfl (XS.aconstNull X9.here hx rfl (dc d30_15) (st16 _ k))))))))) ?_
  exact Goes.retV X16 hx hlk hret (dc d30_19) (by decide) (by decide) (by rw [e16]; exact ⟨rfl, N16, K22, C17, C18, C19, C20⟩)
theorem own_min (x : Int64) : ¬ x < (-9223372036854775808 : Int64) := by
  have r := rng64 x
  have k : ((-9223372036854775808 : Int64)).toInt = -9223372036854775808 := rfl
  rw [Int64.lt_iff_toInt_lt, k]
  omega
def own_key (z : Int32) (x : Int64) : Int64 := if z = (0 : Int32) then (-x) else x
abbrev c28C := prog_15_method_1_code
theorem d28_0 : decode c28C 0 = .ok (.aload_n 0, 1) := by decide +kernel
theorem d28_1 : decode c28C 1 = .ok (.invokespecial 3, 3) := by decide +kernel
theorem d28_4 : decode c28C 4 = .ok (.aload_n 0, 1) := by decide +kernel
theorem d28_5 : decode c28C 5 = .ok (.new 9, 3) := by decide +kernel
theorem d28_8 : decode c28C 8 = .ok (.dup, 1) := by decide +kernel
theorem d28_9 : decode c28C 9 = .ok (.lconst 0, 1) := by decide +kernel
theorem d28_10 : decode c28C 10 = .ok (.invokespecial 11, 3) := by decide +kernel
theorem d28_13 : decode c28C 13 = .ok (.putfield 14, 3) := by decide +kernel
theorem d28_16 : decode c28C 16 = .ok (.aload_n 0, 1) := by decide +kernel
theorem d28_17 : decode c28C 17 = .ok (.bipush 64, 2) := by decide +kernel
theorem d28_19 : decode c28C 19 = .ok (.anewarray 9, 3) := by decide +kernel
theorem d28_22 : decode c28C 22 = .ok (.putfield 18, 3) := by decide +kernel
theorem d28_25 : decode c28C 25 = .ok (.aload_n 0, 1) := by decide +kernel
theorem d28_26 : decode c28C 26 = .ok (.bipush 64, 2) := by decide +kernel
theorem d28_28 : decode c28C 28 = .ok (.newarray .long, 2) := by decide +kernel
theorem d28_30 : decode c28C 30 = .ok (.putfield 22, 3) := by decide +kernel
theorem d28_33 : decode c28C 33 = .ok (.aload_n 0, 1) := by decide +kernel
theorem d28_34 : decode c28C 34 = .ok (.iconst 1, 1) := by decide +kernel
theorem d28_35 : decode c28C 35 = .ok (.putfield 26, 3) := by decide +kernel
theorem d28_38 : decode c28C 38 = .ok (.aload_n 0, 1) := by decide +kernel
theorem d28_39 : decode c28C 39 = .ok (.new 30, 3) := by decide +kernel
theorem d28_42 : decode c28C 42 = .ok (.dup, 1) := by decide +kernel
theorem d28_43 : decode c28C 43 = .ok (.invokespecial 32, 3) := by decide +kernel
theorem d28_46 : decode c28C 46 = .ok (.putfield 33, 3) := by decide +kernel
theorem d28_49 : decode c28C 49 = .ok (.aload_n 0, 1) := by decide +kernel
theorem d28_50 : decode c28C 50 = .ok (.aload_n 1, 1) := by decide +kernel
theorem d28_51 : decode c28C 51 = .ok (.getstatic 37, 3) := by decide +kernel
theorem d28_54 : decode c28C 54 = .ok (.if_acmp .ne 7, 3) := by decide +kernel
theorem d28_57 : decode c28C 57 = .ok (.iconst 1, 1) := by decide +kernel
theorem d28_58 : decode c28C 58 = .ok (.goto 4, 3) := by decide +kernel
theorem d28_62 : decode c28C 62 = .ok (.putfield 43, 3) := by decide +kernel
theorem d28_65 : decode c28C 65 = .ok (.aload_n 0, 1) := by decide +kernel
theorem d28_66 : decode c28C 66 = .ok (.getfield 22, 3) := by decide +kernel
theorem d28_69 : decode c28C 69 = .ok (.iconst 0, 1) := by decide +kernel
theorem d28_70 : decode c28C 70 = .ok (.ldc2_w 49, 3) := by decide +kernel
theorem d28_73 : decode c28C 73 = .ok (.lastore, 1) := by decide +kernel
theorem d28_74 : decode c28C 74 = .ok (.aload_n 0, 1) := by decide +kernel
theorem d28_75 : decode c28C 75 = .ok (.getfield 18, 3) := by decide +kernel
theorem d28_78 : decode c28C 78 = .ok (.iconst 0, 1) := by decide +kernel
theorem d28_79 : decode c28C 79 = .ok (.new 9, 3) := by decide +kernel
theorem d28_82 : decode c28C 82 = .ok (.dup, 1) := by decide +kernel
theorem d28_83 : decode c28C 83 = .ok (.ldc2_w 49, 3) := by decide +kernel
theorem d28_86 : decode c28C 86 = .ok (.invokespecial 11, 3) := by decide +kernel
theorem d28_89 : decode c28C 89 = .ok (.aastore, 1) := by decide +kernel
theorem d28_90 : decode c28C 90 = .ok (.return_, 1) := by decide +kernel
theorem d28_61 : decode c28C 61 = .ok (.iconst 0, 1) := by decide +kernel
theorem pn_13 : plainName "com/example/uncross/uncross/engine/BookSide" = true := by first | (simp [plainName, overriddenIn]; done) | decide +kernel
def sn47 {Z : State} {a0 : Array Value} (hw : TW Z a0) := slot_ne (Or.inl (own_w hw 185 rfl)) (Or.inr (own_w hw 182 rfl)) (by decide) (t := (.array (.object "com/example/uncross/uncross/engine/BookSide$Level"))) (by decide) (t' := (.object "com/example/uncross/uncross/engine/BookSide$Level")) (by decide)
def sn48 {Z : State} {a0 : Array Value} (hw : TW Z a0) := slot_ne (Or.inl (own_w hw 188 rfl)) (Or.inr (own_w hw 182 rfl)) (by decide) (t := (.array .long)) (by decide) (t' := (.object "com/example/uncross/uncross/engine/BookSide$Level")) (by decide)
def sn49 {Z : State} {a0 : Array Value} (hw : TW Z a0) := slot_ne (Or.inl (own_w hw 190 rfl)) (Or.inr (own_w hw 182 rfl)) (by decide) (t := .int) (by decide) (t' := (.object "com/example/uncross/uncross/engine/BookSide$Level")) (by decide)
def sn50 {Z : State} {a0 : Array Value} (hw : TW Z a0) := slot_ne (Or.inl (own_w hw 303 rfl)) (Or.inr (own_w hw 182 rfl)) (by decide) (t := .int) (by decide) (t' := (.object "com/example/uncross/uncross/engine/BookSide$Level")) (by decide)
def sn51 {Z : State} {a0 : Array Value} (hw : TW Z a0) := slot_ne (Or.inr (own_w hw 211 rfl)) (Or.inr (own_w hw 182 rfl)) (by decide) (t := (.object "java/util/TreeMap")) (by decide) (t' := (.object "com/example/uncross/uncross/engine/BookSide$Level")) (by decide)
def sn52 {Z : State} {a0 : Array Value} (hw : TW Z a0) := slot_ne (Or.inr (own_w hw 215 rfl)) (Or.inr (own_w hw 182 rfl)) (by decide) (t := .boolean) (by decide) (t' := (.object "com/example/uncross/uncross/engine/BookSide$Level")) (by decide)
def sn53 {Z : State} {a0 : Array Value} (hw : TW Z a0) := slot_ne (Or.inl (own_w hw 188 rfl)) (Or.inl (own_w hw 185 rfl)) (by decide) (t := (.array .long)) (by decide) (t' := (.array (.object "com/example/uncross/uncross/engine/BookSide$Level"))) (by decide)
def sn54 {Z : State} {a0 : Array Value} (hw : TW Z a0) := slot_ne (Or.inl (own_w hw 190 rfl)) (Or.inl (own_w hw 185 rfl)) (by decide) (t := .int) (by decide) (t' := (.array (.object "com/example/uncross/uncross/engine/BookSide$Level"))) (by decide)
def sn55 {Z : State} {a0 : Array Value} (hw : TW Z a0) := slot_ne (Or.inl (own_w hw 303 rfl)) (Or.inl (own_w hw 185 rfl)) (by decide) (t := .int) (by decide) (t' := (.array (.object "com/example/uncross/uncross/engine/BookSide$Level"))) (by decide)
def sn56 {Z : State} {a0 : Array Value} (hw : TW Z a0) := slot_ne (Or.inr (own_w hw 182 rfl)) (Or.inl (own_w hw 185 rfl)) (by decide) (t := (.object "com/example/uncross/uncross/engine/BookSide$Level")) (by decide) (t' := (.array (.object "com/example/uncross/uncross/engine/BookSide$Level"))) (by decide)
def sn57 {Z : State} {a0 : Array Value} (hw : TW Z a0) := slot_ne (Or.inr (own_w hw 211 rfl)) (Or.inl (own_w hw 185 rfl)) (by decide) (t := (.object "java/util/TreeMap")) (by decide) (t' := (.array (.object "com/example/uncross/uncross/engine/BookSide$Level"))) (by decide)
def sn58 {Z : State} {a0 : Array Value} (hw : TW Z a0) := slot_ne (Or.inr (own_w hw 215 rfl)) (Or.inl (own_w hw 185 rfl)) (by decide) (t := .boolean) (by decide) (t' := (.array (.object "com/example/uncross/uncross/engine/BookSide$Level"))) (by decide)
def sn59 {Z : State} {a0 : Array Value} (hw : TW Z a0) := slot_ne (Or.inl (own_w hw 185 rfl)) (Or.inl (own_w hw 188 rfl)) (by decide) (t := (.array (.object "com/example/uncross/uncross/engine/BookSide$Level"))) (by decide) (t' := (.array .long)) (by decide)
def sn60 {Z : State} {a0 : Array Value} (hw : TW Z a0) := slot_ne (Or.inl (own_w hw 190 rfl)) (Or.inl (own_w hw 188 rfl)) (by decide) (t := .int) (by decide) (t' := (.array .long)) (by decide)
def sn61 {Z : State} {a0 : Array Value} (hw : TW Z a0) := slot_ne (Or.inl (own_w hw 303 rfl)) (Or.inl (own_w hw 188 rfl)) (by decide) (t := .int) (by decide) (t' := (.array .long)) (by decide)
def sn62 {Z : State} {a0 : Array Value} (hw : TW Z a0) := slot_ne (Or.inr (own_w hw 182 rfl)) (Or.inl (own_w hw 188 rfl)) (by decide) (t := (.object "com/example/uncross/uncross/engine/BookSide$Level")) (by decide) (t' := (.array .long)) (by decide)
def sn63 {Z : State} {a0 : Array Value} (hw : TW Z a0) := slot_ne (Or.inr (own_w hw 211 rfl)) (Or.inl (own_w hw 188 rfl)) (by decide) (t := (.object "java/util/TreeMap")) (by decide) (t' := (.array .long)) (by decide)
def sn64 {Z : State} {a0 : Array Value} (hw : TW Z a0) := slot_ne (Or.inr (own_w hw 215 rfl)) (Or.inl (own_w hw 188 rfl)) (by decide) (t := .boolean) (by decide) (t' := (.array .long)) (by decide)
def sn65 {Z : State} {a0 : Array Value} (hw : TW Z a0) := slot_ne (Or.inl (own_w hw 185 rfl)) (Or.inl (own_w hw 190 rfl)) (by decide) (t := (.array (.object "com/example/uncross/uncross/engine/BookSide$Level"))) (by decide) (t' := .int) (by decide)
def sn66 {Z : State} {a0 : Array Value} (hw : TW Z a0) := slot_ne (Or.inl (own_w hw 188 rfl)) (Or.inl (own_w hw 190 rfl)) (by decide) (t := (.array .long)) (by decide) (t' := .int) (by decide)
def sn67 {Z : State} {a0 : Array Value} (hw : TW Z a0) := slot_ne (Or.inl (own_w hw 303 rfl)) (Or.inl (own_w hw 190 rfl)) (by decide) (t := .int) (by decide) (t' := .int) (by decide)
def sn68 {Z : State} {a0 : Array Value} (hw : TW Z a0) := slot_ne (Or.inr (own_w hw 182 rfl)) (Or.inl (own_w hw 190 rfl)) (by decide) (t := (.object "com/example/uncross/uncross/engine/BookSide$Level")) (by decide) (t' := .int) (by decide)
def sn69 {Z : State} {a0 : Array Value} (hw : TW Z a0) := slot_ne (Or.inr (own_w hw 211 rfl)) (Or.inl (own_w hw 190 rfl)) (by decide) (t := (.object "java/util/TreeMap")) (by decide) (t' := .int) (by decide)
def sn70 {Z : State} {a0 : Array Value} (hw : TW Z a0) := slot_ne (Or.inr (own_w hw 215 rfl)) (Or.inl (own_w hw 190 rfl)) (by decide) (t := .boolean) (by decide) (t' := .int) (by decide)
def sn71 {Z : State} {a0 : Array Value} (hw : TW Z a0) := slot_ne (Or.inl (own_w hw 185 rfl)) (Or.inr (own_w hw 211 rfl)) (by decide) (t := (.array (.object "com/example/uncross/uncross/engine/BookSide$Level"))) (by decide) (t' := (.object "java/util/TreeMap")) (by decide)
def sn72 {Z : State} {a0 : Array Value} (hw : TW Z a0) := slot_ne (Or.inl (own_w hw 188 rfl)) (Or.inr (own_w hw 211 rfl)) (by decide) (t := (.array .long)) (by decide) (t' := (.object "java/util/TreeMap")) (by decide)
def sn73 {Z : State} {a0 : Array Value} (hw : TW Z a0) := slot_ne (Or.inl (own_w hw 190 rfl)) (Or.inr (own_w hw 211 rfl)) (by decide) (t := .int) (by decide) (t' := (.object "java/util/TreeMap")) (by decide)
def sn74 {Z : State} {a0 : Array Value} (hw : TW Z a0) := slot_ne (Or.inl (own_w hw 303 rfl)) (Or.inr (own_w hw 211 rfl)) (by decide) (t := .int) (by decide) (t' := (.object "java/util/TreeMap")) (by decide)
def sn75 {Z : State} {a0 : Array Value} (hw : TW Z a0) := slot_ne (Or.inr (own_w hw 182 rfl)) (Or.inr (own_w hw 211 rfl)) (by decide) (t := (.object "com/example/uncross/uncross/engine/BookSide$Level")) (by decide) (t' := (.object "java/util/TreeMap")) (by decide)
def sn76 {Z : State} {a0 : Array Value} (hw : TW Z a0) := slot_ne (Or.inr (own_w hw 215 rfl)) (Or.inr (own_w hw 211 rfl)) (by decide) (t := .boolean) (by decide) (t' := (.object "java/util/TreeMap")) (by decide)
def sn77 {Z : State} {a0 : Array Value} (hw : TW Z a0) := slot_ne (Or.inl (own_w hw 185 rfl)) (Or.inr (own_w hw 215 rfl)) (by decide) (t := (.array (.object "com/example/uncross/uncross/engine/BookSide$Level"))) (by decide) (t' := .boolean) (by decide)
def sn78 {Z : State} {a0 : Array Value} (hw : TW Z a0) := slot_ne (Or.inl (own_w hw 188 rfl)) (Or.inr (own_w hw 215 rfl)) (by decide) (t := (.array .long)) (by decide) (t' := .boolean) (by decide)
def sn79 {Z : State} {a0 : Array Value} (hw : TW Z a0) := slot_ne (Or.inl (own_w hw 190 rfl)) (Or.inr (own_w hw 215 rfl)) (by decide) (t := .int) (by decide) (t' := .boolean) (by decide)
def sn80 {Z : State} {a0 : Array Value} (hw : TW Z a0) := slot_ne (Or.inl (own_w hw 303 rfl)) (Or.inr (own_w hw 215 rfl)) (by decide) (t := .int) (by decide) (t' := .boolean) (by decide)
def sn81 {Z : State} {a0 : Array Value} (hw : TW Z a0) := slot_ne (Or.inr (own_w hw 182 rfl)) (Or.inr (own_w hw 215 rfl)) (by decide) (t := (.object "com/example/uncross/uncross/engine/BookSide$Level")) (by decide) (t' := .boolean) (by decide)
def sn82 {Z : State} {a0 : Array Value} (hw : TW Z a0) := slot_ne (Or.inr (own_w hw 211 rfl)) (Or.inr (own_w hw 215 rfl)) (by decide) (t := (.object "java/util/TreeMap")) (by decide) (t' := .boolean) (by decide)
theorem rmBi (l : Launch) (Z : State) (a0 : Array Value) (hw : TW Z a0) (b_ sd_ kb_ : Addr) (z_ : Int32) (h0 : Heap) (n0 : Nat) (Z0 : n0 ≤ h0.size) (O0 : Old Z n0 h0) (SB : Sta Z Z.heap "com/example/uncross/uncross/model/Side" "BUY" "Lcom/example/uncross/uncross/model/Side;" (.ref kb_)) (p0 : Exa Z h0 b_ k0C) (p1 : Fld Z h0 b_ k0C "levels" k6C .null) (p2 : Fld Z h0 b_ k0C "keys" "[J" .null) (p3 : Fld Z h0 b_ k0C "levelCount" "I" (.int (0 : Int32))) (p4 : Fld Z h0 b_ k0C "emptyLevels" "I" (.int (0 : Int32))) (p5 : Fld Z h0 b_ k0C "markets" k5C .null) (p6 : Fld Z h0 b_ k0C "deep" k9C .null) (p7 : Fld Z h0 b_ k0C "buying" "Z" (.int (0 : Int32))) (g0 : n0 ≤ b_) (hb : (z_ = 1 ∧ sd_ = kb_) ∨ (z_ = 0 ∧ sd_ ≠ kb_)) :
    Pays l Z (⟨"com/example/uncross/uncross/engine/BookSide", "<init>", "(Lcom/example/uncross/uncross/model/Side;)V"⟩ : MethodName) prog_15_method_1_code 2 none [] ({ frames := 3, cells := 6, slots := 160, locals := 40 } : Room) #[(.ref b_), (.ref sd_)] h0 (fun v h L => ∃ (n0_ : Addr) (n1_ : Addr) (n2_ : Addr) (n3_ : Addr) (n4_ : Addr), v = none ∧ Fr n0 L ∧ Keep h0 h [b_] ∧ Exa Z h b_ k0C ∧ Fld Z h b_ k0C "levels" k6C (.ref n1_) ∧ Fld Z h b_ k0C "keys" "[J" (.ref n2_) ∧ Fld Z h b_ k0C "levelCount" "I" (.int (1 : Int32)) ∧ Fld Z h b_ k0C "emptyLevels" "I" (.int (0 : Int32)) ∧ Fld Z h b_ k0C "markets" k5C (.ref n0_) ∧ Fld Z h b_ k0C "deep" k9C (.ref n3_) ∧ Fld Z h b_ k0C "buying" "Z" (.int z_) ∧ Exa Z h n0_ k2C ∧ Fld Z h n0_ k2C "first" k4C .null ∧ Fld Z h n0_ k2C "last" k4C .null ∧ Fld Z h n0_ k2C "deep" "Z" (.int (0 : Int32)) ∧ Rbk Z h n1_ k2C 64 (Upd (fun _ => Value.null) 0 (.ref n4_)) ∧ Exa Z h n2_ "[J" ∧ Arf Z h n2_ .long Value.long 64 (Upd (fun _ => (0 : Int64)) 0 (-9223372036854775808 : Int64)) ∧ Exa Z h n3_ k12C ∧ Fld Z h n3_ k12C "size" "I" (.int (0 : Int32)) ∧ Exa Z h n4_ k2C ∧ Fld Z h n4_ k2C "first" k4C .null ∧ Fld Z h n4_ k2C "last" k4C .null ∧ Fld Z h n4_ k2C "deep" "Z" (.int (0 : Int32)) ∧ h0.size ≤ n0_ ∧ h0.size ≤ n1_ ∧ h0.size ≤ n2_ ∧ h0.size ≤ n3_ ∧ h0.size ≤ n4_ ∧ n0_ ≠ n1_ ∧ n0_ ≠ n2_ ∧ n0_ ≠ n3_ ∧ n0_ ≠ n4_ ∧ n1_ ≠ n2_ ∧ n1_ ≠ n3_ ∧ n1_ ≠ n4_ ∧ n2_ ≠ n3_ ∧ n2_ ≠ n4_ ∧ n3_ ≠ n4_) := by
  refine Pays.walk (plainFor_of_name pn_13) (fun m => ef_4 m b_ sd_ ) ?_
  intro p e s m below meth c T0 X0 hx hby hml hown hnm hZ e0 hret hlk
  have dc := @Jvm.hb _ _ hby
  have ow := @own_w Z a0 hw
  have K0 := Keep.refl h0 ([b_] : List Addr)
  obtain ⟨T1, X1, e1, st1⟩ := initO X0 hx hZ hown (ow 171 rfl) (ow 34 rfl) (ow 35 rfl) e0 (g := (mkF m 1 #[sR b_, sR sd_] [(.ref b_)])) rfl (by rw [hml]; rfl) rfl (dc d28_1) (by decide) (W := 0) (own_le20 rfl) (by decide)
  obtain ⟨T2, h2, X2, e2, E2, A2, D2, U2, st2⟩ := newO X1 hx hZ hown (ow 172 rfl) (ow 173 rfl) (ow 174 rfl) e1 (g := (mkF m 5 #[sR b_, sR sd_] [(.ref b_)])) rfl (dc d28_5) (by decide) (by decide)
  obtain ⟨a2, g2⟩ : ∃ z, z = h0.size := ⟨_, rfl⟩
  rw [← g2] at A2 D2 U2 st2
  have M2 : h0.size ≤ a2 := Nat.le_trans K0.1 (Nat.le_of_eq g2.symm)
  have ne12 := own_neG p0.lt g2
  have Z13 := Nat.le_trans Z0 E2.1
  have K14 := K0.ext E2
  have F15 : Fld Z h2 a2 "com/example/uncross/uncross/engine/BookSide$Level" "first" "Lcom/example/uncross/uncross/engine/BookSide$Resting;" .null := D2 (Or.inl (ow 224 rfl)) (ty := (.object "com/example/uncross/uncross/engine/BookSide$Resting")) (by decide)
  have F16 : Fld Z h2 a2 "com/example/uncross/uncross/engine/BookSide$Level" "last" "Lcom/example/uncross/uncross/engine/BookSide$Resting;" .null := D2 (Or.inl (ow 249 rfl)) (ty := (.object "com/example/uncross/uncross/engine/BookSide$Resting")) (by decide)
  have F17 : Fld Z h2 a2 "com/example/uncross/uncross/engine/BookSide$Level" "deep" "Z" (.int 0) := D2 (Or.inl (ow 301 rfl)) (ty := .boolean) (by decide)
  have F18 : Fld Z h2 a2 "com/example/uncross/uncross/engine/BookSide$Level" "key" "J" (.long 0) := D2 (Or.inr (ow 180 rfl)) (ty := .long) (by decide)
  have G2 : n0 ≤ a2 := Nat.le_trans Z0 (Nat.le_of_eq g2.symm)
  refine Goes.on (T' := T2) (g' := (mkF m 10 #[sR b_, sR sd_] [(.long 0), (.ref a2), (.ref a2), (.ref b_)])) (fun _ k => XS.aloadN X0.here hx rfl (dc d28_0) rfl rfl (st1 _ (XS.aloadN X1.here hx rfl (dc d28_4) rfl rfl (st2 _ (XS.dup X2.here hx rfl (dc d28_8) rfl rfl (XS.lconst X2.here hx rfl (dc d28_9) k)))))) ?_
  refine Goes.callC X2 hx hZ 2 rfl hown (ow 175 rfl) (ow 176 rfl) (ow 174 rfl) (ow 177 rfl) (by decide) e2 (rmLv l Z a0 hw a2 (0 : Int64) h2 n0 Z13 A2 G2 F15 F16 F17 F18) (by decide) (by decide) (by decide) (by decide) rfl (by rw [hml]; rfl) (a := a2) (argsL := [(.long 0)]) (rest := [(.ref a2), (.ref b_)]) rfl (lenOf pd_13 rfl) rfl (own_le20 rfl) (dc d28_10) ?_
  rintro v19 T19 L19 X19 ⟨rfl, N19q, K19, A19, B19_first, B19_last, B19_deep, B19_key⟩
  show Goes p e below _ T19 (mkF m 13 #[sR b_, sR sd_] [(.ref a2), (.ref b_)])
  have C20 := (p0.ext E2).keep K19
  have C25 := (p5.ext E2).keep K19 (ninS ne12 nin0)
  have Z30 := Nat.le_trans Z13 K19.1
  have K31 := K14.trans K19 (allS (Or.inr M2) all0)
  obtain ⟨T32, h32, X32, e32, W32, st32⟩ := putF X19 hx hZ hown (host := "") (Or.inl (ow 181 rfl)) Via.refl rfl C25 C20 (Or.inr ⟨(ow 182 rfl), rfl, hnm⟩) (ow 166 rfl) (ty := (.object "com/example/uncross/uncross/engine/BookSide$Level")) (by decide) rfl rfl (g := (mkF m 13 #[sR b_, sR sd_] [(.ref a2), (.ref b_)])) rfl rfl (dc d28_13)
  have C33 := C20.wr W32
  have C42 := A19.wr W32
  have Z47 := own_leW W32 Z30
  have K48 := K31.wr W32 (Or.inl (List.mem_of_getElem? (i := 0) rfl))
  obtain ⟨T49, h49, cA49, X49, e49, E49, A49, O49, st49⟩ := newR X32 hx hZ hown (C := "com/example/uncross/uncross/engine/BookSide$Level") (ow 172 rfl) (ow 183 rfl) e32 (g := (mkF m 19 #[sR b_, sR sd_] [(.int 64), (.ref b_)])) rfl (dc d28_19) rfl (by decide) (cap := 64) (by decide) (by decide) (by decide) (by decide)
  obtain ⟨a49, g49⟩ : ∃ z, z = h32.size := ⟨_, rfl⟩
  rw [← g49] at A49 st49
  have M49 : h0.size ≤ a49 := Nat.le_trans K48.1 (Nat.le_of_eq g49.symm)
  have C50 := C33.ext E49
  have C51 := (((p1.ext E2).keep K19 (ninS ne12 nin0)).other W32 (Or.inr (sn47 hw))).ext E49
  have ne64 := own_neG C33.lt g49
  have ne65 := own_neG C42.lt g49
  have Z66 := Nat.le_trans Z47 E49.1
  have K67 := K48.ext E49
  have B49 : Rbk Z h49 a49 "com/example/uncross/uncross/engine/BookSide$Level" 64 (fun _ => Value.null) := Rbk.new A49 O49
  have G49 : n0 ≤ a49 := Nat.le_trans Z47 (Nat.le_of_eq g49.symm)
  obtain ⟨T68, h68, X68, e68, W68, st68⟩ := putF X49 hx hZ hown (host := "") (Or.inl (ow 184 rfl)) Via.refl e49 C51 C50 (Or.inl (ow 185 rfl)) (ow 166 rfl) (ty := (.array (.object "com/example/uncross/uncross/engine/BookSide$Level"))) (by decide) rfl rfl (g := (mkF m 22 #[sR b_, sR sd_] [(.ref a49), (.ref b_)])) rfl rfl (dc d28_22)
  have C69 := C50.wr W68
  have C78 := (C42.ext E49).wr W68
  have C83 := B49.other W68 ne64.symm
  have Z84 := own_leW W68 Z66
  have K85 := K67.wr W68 (Or.inl (List.mem_of_getElem? (i := 0) rfl))
  obtain ⟨T86, h86, cA86, X86, e86, E86, A86, J86, st86⟩ := newPE X68 hx hZ (ow 186 rfl) e68 (g := (mkF m 28 #[sR b_, sR sd_] [(.int 64), (.ref b_)])) rfl (dc d28_28) rfl (by decide) (cap := 64) (by decide) (by decide) (by decide) (by decide) (ad := "[J") (by decide)
  obtain ⟨a86, g86⟩ : ∃ z, z = h68.size := ⟨_, rfl⟩
  rw [← g86] at A86 J86 st86
  have M86 : h0.size ≤ a86 := Nat.le_trans K85.1 (Nat.le_of_eq g86.symm)
  have C87 := C69.ext E86
  have C89 := (((((p2.ext E2).keep K19 (ninS ne12 nin0)).other W32 (Or.inr (sn48 hw))).ext E49).other W68 (Or.inr (sn53 hw))).ext E86
  have ne102 := own_neG C69.lt g86
  have ne103 := own_neG C78.lt g86
  have ne104 := own_neG C83.lt g86
  have Z105 := Nat.le_trans Z84 E86.1
  have K106 := K85.ext E86
  have B86 : Arf Z h86 a86 .long Value.long 64 (fun _ => (0 : Int64)) := Arf.new A86 rfl
  have G86 : n0 ≤ a86 := Nat.le_trans Z84 (Nat.le_of_eq g86.symm)
  obtain ⟨T107, h107, X107, e107, W107, st107⟩ := putF X86 hx hZ hown (host := "") (Or.inl (ow 187 rfl)) Via.refl e86 C89 C87 (Or.inl (ow 188 rfl)) (ow 166 rfl) (ty := (.array .long)) (by decide) rfl rfl (g := (mkF m 30 #[sR b_, sR sd_] [(.ref a86), (.ref b_)])) rfl rfl (dc d28_30)
  have C108 := C87.wr W107
  have C111 := ((((((p3.ext E2).keep K19 (ninS ne12 nin0)).other W32 (Or.inr (sn49 hw))).ext E49).other W68 (Or.inr (sn54 hw))).ext E86).other W107 (Or.inr (sn60 hw))
  have Z125 := own_leW W107 Z105
  have K126 := K106.wr W107 (Or.inl (List.mem_of_getElem? (i := 0) rfl))
  obtain ⟨T127, h127, X127, e127, W127, st127⟩ := putF X107 hx hZ hown (host := "") (Or.inl (ow 189 rfl)) Via.refl e107 C111 C108 (Or.inl (ow 190 rfl)) (ow 166 rfl) (ty := .int) (by decide) rfl rfl (g := (mkF m 35 #[sR b_, sR sd_] [(.int 1), (.ref b_)])) rfl rfl (dc d28_35)
  have C128 := C108.wr W127
  have C137 := ((C78.ext E86).wr W107).wr W127
  have C142 := ((C83.ext E86).other W107 ne64.symm).other W127 ne64.symm
  have C143 := (J86.wr W107).wr W127
  have Z145 := own_leW W127 Z125
  have K146 := K126.wr W127 (Or.inl (List.mem_of_getElem? (i := 0) rfl))
  obtain ⟨T147, h147, X147, e147, E147, A147, D147, U147, st147⟩ := newO X127 hx hZ hown (ow 191 rfl) (ow 192 rfl) (ow 193 rfl) e127 (g := (mkF m 39 #[sR b_, sR sd_] [(.ref b_)])) rfl (dc d28_39) (by decide) (by decide)
  obtain ⟨a147, g147⟩ : ∃ z, z = h127.size := ⟨_, rfl⟩
  rw [← g147] at A147 D147 U147 st147
  have M147 : h0.size ≤ a147 := Nat.le_trans K146.1 (Nat.le_of_eq g147.symm)
  have ne165 := own_neG C128.lt g147
  have ne166 := own_neG C137.lt g147
  have ne167 := own_neG C142.lt g147
  have ne168 := own_neG C143.lt g147
  have Z169 := Nat.le_trans Z145 E147.1
  have K170 := K146.ext E147
  have F171 : Fld Z h147 a147 "java/util/TreeMap" "size" "I" (.int 0) := D147 (Or.inl (ow 205 rfl)) (ty := .int) (by decide)
  have F172 : Fld Z h147 a147 "java/util/TreeMap" "modCount" "I" (.int 0) := D147 (Or.inl (ow 207 rfl)) (ty := .int) (by decide)
  have F173 : Fld Z h147 a147 "java/util/TreeMap" "comparator" "Ljava/util/Comparator;" .null := D147 (Or.inr (ow 209 rfl)) (ty := (.object "java/util/Comparator")) (by decide)
  have G147 : n0 ≤ a147 := Nat.le_trans Z145 (Nat.le_of_eq g147.symm)
  refine Goes.on (T' := T147) (g' := (mkF m 43 #[sR b_, sR sd_] [(.ref a147), (.ref a147), (.ref b_)])) (fun _ k => st32 _ (XS.aloadN X32.here hx rfl (dc d28_16) rfl rfl (XS.bipush X32.here hx rfl (dc d28_17) (st49 _ (st68 _ (XS.aloadN X68.here hx rfl (dc d28_25) rfl rfl (XS.bipush X68.here hx rfl (dc d28_26) (st86 _ (st107 _ (XS.aloadN X107.here hx rfl (dc d28_33) rfl rfl (XS.iconst X107.here hx rfl (dc d28_34) (st127 _ (XS.aloadN X127.here hx rfl (dc d28_38) rfl rfl (st147 _ (XS.dup X147.here hx rfl (dc d28_42) rfl rfl k))))))))))))))) ?_
  refine Goes.callC X147 hx hZ 2 rfl hown (ow 194 rfl) (ow 195 rfl) (ow 193 rfl) (ow 196 rfl) (by decide) e147 (rmTm l Z a0 hw a147 h147 n0 Z169 A147 G147 F171 F172 F173) (by decide) (by decide) (by decide) (by decide) rfl (by rw [hml]; rfl) (a := a147) (argsL := []) (rest := [(.ref a147), (.ref b_)]) rfl (lenOf pd_15 rfl) rfl (own_le20 rfl) (dc d28_43) ?_
  rintro v174 T174 L174 X174 ⟨rfl, N174q, K174, A174, B174_size, B174_modCount, B174_comparator⟩
  show Goes p e below _ T174 (mkF m 46 #[sR b_, sR sd_] [(.ref a147), (.ref b_)])
  have C175 := (C128.ext E147).keep K174
  have C181 := (((((((((p6.ext E2).keep K19 (ninS ne12 nin0)).other W32 (Or.inr (sn51 hw))).ext E49).other W68 (Or.inr (sn57 hw))).ext E86).other W107 (Or.inr (sn63 hw))).other W127 (Or.inr (sn69 hw))).ext E147).keep K174 (ninS ne165 nin0)
  have Z193 := Nat.le_trans Z169 K174.1
  have K194 := K170.trans K174 (allS (Or.inr M147) all0)
  obtain ⟨T195, h195, X195, e195, W195, st195⟩ := putF X174 hx hZ hown (host := "") (Or.inl (ow 210 rfl)) Via.refl rfl C181 C175 (Or.inr ⟨(ow 211 rfl), rfl, hnm⟩) (ow 166 rfl) (ty := (.object "java/util/TreeMap")) (by decide) rfl rfl (g := (mkF m 46 #[sR b_, sR sd_] [(.ref a147), (.ref b_)])) rfl rfl (dc d28_46)
  have N195 := Fr.snoc X195 (Fr.app (Fr.snoc X127 (Fr.snoc X107 (Fr.snoc X68 (Fr.snoc X32 (Fr.app (Fr.nil n0) N19q) g0) g0) g0) g0) N174q) g0
  have C196 := C175.wr W195
  have C197 := ((((((C51.same W68).ext E86).other W107 (Or.inr (sn59 hw))).other W127 (Or.inr (sn65 hw))).ext E147).keep K174 (ninS ne165 nin0)).other W195 (Or.inr (sn71 hw))
  have C198 := ((((C89.same W107).other W127 (Or.inr (sn66 hw))).ext E147).keep K174 (ninS ne165 nin0)).other W195 (Or.inr (sn72 hw))
  have C199 := (((C111.same W127).ext E147).keep K174 (ninS ne165 nin0)).other W195 (Or.inr (sn73 hw))
  have C200 := ((((((((((p4.ext E2).keep K19 (ninS ne12 nin0)).other W32 (Or.inr (sn50 hw))).ext E49).other W68 (Or.inr (sn55 hw))).ext E86).other W107 (Or.inr (sn61 hw))).other W127 (Or.inr (sn67 hw))).ext E147).keep K174 (ninS ne165 nin0)).other W195 (Or.inr (sn74 hw))
  have C201 := ((((((((C25.same W32).ext E49).other W68 (Or.inr (sn56 hw))).ext E86).other W107 (Or.inr (sn62 hw))).other W127 (Or.inr (sn68 hw))).ext E147).keep K174 (ninS ne165 nin0)).other W195 (Or.inr (sn75 hw))
  have C202 := C181.same W195
  have C203 := ((((((((((p7.ext E2).keep K19 (ninS ne12 nin0)).other W32 (Or.inr (sn52 hw))).ext E49).other W68 (Or.inr (sn58 hw))).ext E86).other W107 (Or.inr (sn64 hw))).other W127 (Or.inr (sn70 hw))).ext E147).keep K174 (ninS ne165 nin0)).other W195 (Or.inr (sn76 hw))
  have C204 := ((((((((((O0.ext E2).keep K19 (allS G2 all0)).wr W32 g0).ext E49).wr W68 g0).ext E86).wr W107 g0).wr W127 g0).ext E147).keep K174 (allS G147 all0)).wr W195 g0
  have C205 := ((C137.ext E147).keep K174).wr W195
  have C206 := ((((((((B19_first.other W32 (Or.inl ne12.symm)).ext E49).other W68 (Or.inl ne12.symm)).ext E86).other W107 (Or.inl ne12.symm)).other W127 (Or.inl ne12.symm)).ext E147).keep K174 (ninS ne166 nin0)).other W195 (Or.inl ne12.symm)
  have C207 := ((((((((B19_last.other W32 (Or.inl ne12.symm)).ext E49).other W68 (Or.inl ne12.symm)).ext E86).other W107 (Or.inl ne12.symm)).other W127 (Or.inl ne12.symm)).ext E147).keep K174 (ninS ne166 nin0)).other W195 (Or.inl ne12.symm)
  have C208 := ((((((((B19_deep.other W32 (Or.inl ne12.symm)).ext E49).other W68 (Or.inl ne12.symm)).ext E86).other W107 (Or.inl ne12.symm)).other W127 (Or.inl ne12.symm)).ext E147).keep K174 (ninS ne166 nin0)).other W195 (Or.inl ne12.symm)
  have C210 := ((C142.ext E147).keep K174 (ninS ne167 nin0)).other W195 ne64.symm
  have C211 := ((C143.ext E147).keep K174).wr W195
  have C212 := ((((B86.other W107 ne102.symm).other W127 ne102.symm).ext E147).keep K174 (ninS ne168 nin0)).other W195 ne102.symm
  have C213 := A174.wr W195
  have C214 := B174_size.other W195 (Or.inl ne165.symm)
  have Z217 := own_leW W195 Z193
  have K218 := K194.wr W195 (Or.inl (List.mem_of_getElem? (i := 0) rfl))
  refine Goes.on (T' := T195) (g' := (mkF m 49 #[sR b_, sR sd_] [])) (fun _ k => st195 _ k) ?_
  rcases hb with ⟨rfl, hs1⟩ | ⟨rfl, hs1⟩
  · obtain ⟨T219, X219, e219, st219⟩ := getS (host := "") X195 hx hZ hown (ow 212 rfl) Via.refl e195 (Sta.ext C204.2 SB) (g := (mkF m 51 #[sR b_, sR sd_] [(.ref sd_), (.ref b_)])) rfl (dc d28_51)
    obtain ⟨T220, h220, X220, e220, W220, st220⟩ := putF X219 hx hZ hown (host := "") (Or.inl (ow 214 rfl)) Via.refl e219 C203 C196 (Or.inr ⟨(ow 215 rfl), rfl, hnm⟩) (ow 166 rfl) (ty := .boolean) (by decide) rfl rfl (g := (mkF m 62 #[sR b_, sR sd_] [(.int 1), (.ref b_)])) rfl rfl (dc d28_62)
    have C223 := C198.other W220 (Or.inr (sn78 hw))
    have C237 := C212.other W220 ne102.symm
    have Z242 := own_leW W220 Z217
    have K243 := K218.wr W220 (Or.inl (List.mem_of_getElem? (i := 0) rfl))
    obtain ⟨T244, X244, e244, st244⟩ := getF X220 hx hZ hown (host := "") (Or.inl (ow 187 rfl)) Via.refl e220 C223 (g := (mkF m 66 #[sR b_, sR sd_] [(.ref b_)])) rfl rfl (dc d28_66)
    obtain ⟨T245, h245, X245, e245, W245, B245, st245⟩ := wrJ X244 hx hZ e244 C237 (by decide)  (g := (mkF m 73 #[sR b_, sR sd_] [(.long (-9223372036854775808 : Int64)), (.int 0), (.ref a86)])) rfl rfl (dc d28_73)
    have C246 := (C196.wr W220).wr W245
    have C247 := (C197.other W220 (Or.inr (sn77 hw))).other W245 (Or.inl ne102)
    have C255 := (C205.wr W220).wr W245
    have C260 := (C210.other W220 ne64.symm).other W245 ne104
    have C261 := (C211.wr W220).wr W245
    have C262 := (C213.wr W220).wr W245
    have Z266 := own_leW W245 Z242
    have K267 := K243.wr W245 (Or.inr M86)
    have B245 : Arf Z h245 a86 .long Value.long 64 (Upd (fun _ => (0 : Int64)) 0 (-9223372036854775808 : Int64)) := B245
    obtain ⟨T268, X268, e268, st268⟩ := getF X245 hx hZ hown (host := "") (Or.inl (ow 184 rfl)) Via.refl e245 C247 (g := (mkF m 75 #[sR b_, sR sd_] [(.ref b_)])) rfl rfl (dc d28_75)
    obtain ⟨T269, h269, X269, e269, E269, A269, D269, U269, st269⟩ := newO X268 hx hZ hown (ow 172 rfl) (ow 173 rfl) (ow 174 rfl) e268 (g := (mkF m 79 #[sR b_, sR sd_] [(.int 0), (.ref a49)])) rfl (dc d28_79) (by decide) (by decide)
    obtain ⟨a269, g269⟩ : ∃ z, z = h245.size := ⟨_, rfl⟩
    rw [← g269] at A269 D269 U269 st269
    have M269 : h0.size ≤ a269 := Nat.le_trans K267.1 (Nat.le_of_eq g269.symm)
    have ne291 := own_neG C246.lt g269
    have ne292 := own_neG C255.lt g269
    have ne293 := own_neG C260.lt g269
    have ne294 := own_neG C261.lt g269
    have ne295 := own_neG C262.lt g269
    have Z296 := Nat.le_trans Z266 E269.1
    have K297 := K267.ext E269
    have F298 : Fld Z h269 a269 "com/example/uncross/uncross/engine/BookSide$Level" "first" "Lcom/example/uncross/uncross/engine/BookSide$Resting;" .null := D269 (Or.inl (ow 224 rfl)) (ty := (.object "com/example/uncross/uncross/engine/BookSide$Resting")) (by decide)
    have F299 : Fld Z h269 a269 "com/example/uncross/uncross/engine/BookSide$Level" "last" "Lcom/example/uncross/uncross/engine/BookSide$Resting;" .null := D269 (Or.inl (ow 249 rfl)) (ty := (.object "com/example/uncross/uncross/engine/BookSide$Resting")) (by decide)
    have F300 : Fld Z h269 a269 "com/example/uncross/uncross/engine/BookSide$Level" "deep" "Z" (.int 0) := D269 (Or.inl (ow 301 rfl)) (ty := .boolean) (by decide)
    have F301 : Fld Z h269 a269 "com/example/uncross/uncross/engine/BookSide$Level" "key" "J" (.long 0) := D269 (Or.inr (ow 180 rfl)) (ty := .long) (by decide)
    have G269 : n0 ≤ a269 := Nat.le_trans Z266 (Nat.le_of_eq g269.symm)
    refine Goes.on (T' := T269) (g' := (mkF m 86 #[sR b_, sR sd_] [(.long (-9223372036854775808 : Int64)), (.ref a269), (.ref a269), (.int 0), (.ref a49)])) (fun _ k => XS.aloadN X195.here hx rfl (dc d28_49) rfl rfl (XS.aloadN X195.here hx rfl (dc d28_50) rfl rfl (st219 _ (XT.acmpNo X219.here hx rfl (dc d28_54) rfl rfl rfl (XT.aa_ne_f (congrArg Value.ref hs1)) (XS.iconst X219.here hx rfl (dc d28_57) (XS.goto X219.here hx rfl (pc0 := 58) (pc' := 62) rfl (dc d28_58) (by decide) (by decide) (st220 _ (XS.aloadN X220.here hx rfl (dc d28_65) rfl rfl (st244 _ (XS.iconst X244.here hx rfl (dc d28_69) (X244.ldc2Long hx hown (mvT hZ (ow 216 rfl)) (g := (mkF m 70 #[sR b_, sR sd_] [(.int 0), (.ref a86)])) rfl (dc d28_70) _ (st245 _ (XS.aloadN X245.here hx rfl (dc d28_74) rfl rfl (st268 _ (XS.iconst X268.here hx rfl (dc d28_78) (st269 _ (XS.dup X269.here hx rfl (dc d28_82) rfl rfl (X269.ldc2Long hx hown (mvT hZ (ow 216 rfl)) (g := (mkF m 83 #[sR b_, sR sd_] [(.ref a269), (.ref a269), (.int 0), (.ref a49)])) rfl (dc d28_83) _ k)))))))))))))))))) ?_
    refine Goes.callC X269 hx hZ 3 rfl hown (ow 175 rfl) (ow 176 rfl) (ow 174 rfl) (ow 177 rfl) (by decide) e269 (rmLv l Z a0 hw a269 (-9223372036854775808 : Int64) h269 n0 Z296 A269 G269 F298 F299 F300 F301) (by decide) (by decide) (by decide) (by decide) rfl (by rw [hml]; rfl) (a := a269) (argsL := [(.long (-9223372036854775808 : Int64))]) (rest := [(.ref a269), (.int 0), (.ref a49)]) rfl (lenOf pd_13 rfl) rfl (own_le20 rfl) (dc d28_86) ?_
    rintro v302 T302 L302 X302 ⟨rfl, N302q, K302, A302, B302_first, B302_last, B302_deep, B302_key⟩
    show Goes p e below _ T302 (mkF m 89 #[sR b_, sR sd_] [(.ref a269), (.int 0), (.ref a49)])
    have C317 := (C260.ext E269).keep K302 (ninS ne293 nin0)
    have K326 := K297.trans K302 (allS (Or.inr M269) all0)
    obtain ⟨T327, h327, X327, e327, W327, B327, st327⟩ := wrR X302 hx hZ rfl C317 (Or.inr ⟨_, rfl, Ins.self A302⟩) (by decide) (g := (mkF m 89 #[sR b_, sR sd_] [(.ref a269), (.int 0), (.ref a49)])) rfl rfl (dc d28_89)
    have N327 := Fr.snoc X327 (Fr.app (Fr.snoc X245 (Fr.snoc X220 N195 g0) G86) N302q) G49
    have C328 := ((C246.ext E269).keep K302).wr W327
    have C329 := ((C247.ext E269).keep K302 (ninS ne291 nin0)).other W327 (Or.inl ne64)
    have C330 := (((C223.other W245 (Or.inl ne102)).ext E269).keep K302 (ninS ne291 nin0)).other W327 (Or.inl ne64)
    have C331 := ((((C199.other W220 (Or.inr (sn79 hw))).other W245 (Or.inl ne102)).ext E269).keep K302 (ninS ne291 nin0)).other W327 (Or.inl ne64)
    have C332 := ((((C200.other W220 (Or.inr (sn80 hw))).other W245 (Or.inl ne102)).ext E269).keep K302 (ninS ne291 nin0)).other W327 (Or.inl ne64)
    have C333 := ((((C201.other W220 (Or.inr (sn81 hw))).other W245 (Or.inl ne102)).ext E269).keep K302 (ninS ne291 nin0)).other W327 (Or.inl ne64)
    have C334 := ((((C202.other W220 (Or.inr (sn82 hw))).other W245 (Or.inl ne102)).ext E269).keep K302 (ninS ne291 nin0)).other W327 (Or.inl ne64)
    have C335 := ((((C203.same W220).other W245 (Or.inl ne102)).ext E269).keep K302 (ninS ne291 nin0)).other W327 (Or.inl ne64)
    have C337 := ((C255.ext E269).keep K302).wr W327
    have C338 := ((((C206.other W220 (Or.inl ne12.symm)).other W245 (Or.inl ne103)).ext E269).keep K302 (ninS ne292 nin0)).other W327 (Or.inl ne65)
    have C339 := ((((C207.other W220 (Or.inl ne12.symm)).other W245 (Or.inl ne103)).ext E269).keep K302 (ninS ne292 nin0)).other W327 (Or.inl ne65)
    have C340 := ((((C208.other W220 (Or.inl ne12.symm)).other W245 (Or.inl ne103)).ext E269).keep K302 (ninS ne292 nin0)).other W327 (Or.inl ne65)
    have C342 := ((C261.ext E269).keep K302).wr W327
    have C343 := ((B245.ext E269).keep K302 (ninS ne294 nin0)).other W327 ne104.symm
    have C344 := ((C262.ext E269).keep K302).wr W327
    have C345 := ((((C214.other W220 (Or.inl ne165.symm)).other W245 (Or.inl ne168.symm)).ext E269).keep K302 (ninS ne295 nin0)).other W327 (Or.inl ne167.symm)
    have C348 := A302.wr W327
    have C349 := B302_first.other W327 (Or.inl ne293.symm)
    have C350 := B302_last.other W327 (Or.inl ne293.symm)
    have C351 := B302_deep.other W327 (Or.inl ne293.symm)
    have K354 := K326.wr W327 (Or.inr M49)
    have B327 : Rbk Z h327 a49 "com/example/uncross/uncross/engine/BookSide$Level" 64 (Upd (fun _ => Value.null) 0 (.ref a269)) := B327
    refine Goes.on (T' := T327) (g' := (mkF m 90 #[sR b_, sR sd_] [])) (fun _ k => st327 _ k) ?_
    exact Goes.retV X327 hx hlk hret (dc d28_90) (by decide) (by decide) (by rw [e327]; exact ⟨a2, a49, a86, a147, a269, rfl, N327, K354, C328, C329, C330, C331, C332, C333, C334, C335, C337, C338, C339, C340, B327, C342, C343, C344, C345, C348, C349, C350, C351, M2, M49, M86, M147, M269, ne65, ne103, ne166, ne292, ne104, ne167, ne293, ne168, ne294, ne295⟩)
  · obtain ⟨T355, X355, e355, st355⟩ := getS (host := "") X195 hx hZ hown (ow 212 rfl) Via.refl e195 (Sta.ext C204.2 SB) (g := (mkF m 51 #[sR b_, sR sd_] [(.ref sd_), (.ref b_)])) rfl (dc d28_51)
    obtain ⟨T356, h356, X356, e356, W356, st356⟩ := putF X355 hx hZ hown (host := "") (Or.inl (ow 214 rfl)) Via.refl e355 C203 C196 (Or.inr ⟨(ow 215 rfl), rfl, hnm⟩) (ow 166 rfl) (ty := .boolean) (by decide) rfl rfl (g := (mkF m 62 #[sR b_, sR sd_] [(.int 0), (.ref b_)])) rfl rfl (dc d28_62)
    have C359 := C198.other W356 (Or.inr (sn78 hw))
    have C373 := C212.other W356 ne102.symm
    have Z378 := own_leW W356 Z217
    have K379 := K218.wr W356 (Or.inl (List.mem_of_getElem? (i := 0) rfl))
    obtain ⟨T380, X380, e380, st380⟩ := getF X356 hx hZ hown (host := "") (Or.inl (ow 187 rfl)) Via.refl e356 C359 (g := (mkF m 66 #[sR b_, sR sd_] [(.ref b_)])) rfl rfl (dc d28_66)
    obtain ⟨T381, h381, X381, e381, W381, B381, st381⟩ := wrJ X380 hx hZ e380 C373 (by decide)  (g := (mkF m 73 #[sR b_, sR sd_] [(.long (-9223372036854775808 : Int64)), (.int 0), (.ref a86)])) rfl rfl (dc d28_73)
    have C382 := (C196.wr W356).wr W381
    have C383 := (C197.other W356 (Or.inr (sn77 hw))).other W381 (Or.inl ne102)
    have C391 := (C205.wr W356).wr W381
    have C396 := (C210.other W356 ne64.symm).other W381 ne104
    have C397 := (C211.wr W356).wr W381
    have C398 := (C213.wr W356).wr W381
    have Z402 := own_leW W381 Z378
    have K403 := K379.wr W381 (Or.inr M86)
    have B381 : Arf Z h381 a86 .long Value.long 64 (Upd (fun _ => (0 : Int64)) 0 (-9223372036854775808 : Int64)) := B381
    obtain ⟨T404, X404, e404, st404⟩ := getF X381 hx hZ hown (host := "") (Or.inl (ow 184 rfl)) Via.refl e381 C383 (g := (mkF m 75 #[sR b_, sR sd_] [(.ref b_)])) rfl rfl (dc d28_75)
    obtain ⟨T405, h405, X405, e405, E405, A405, D405, U405, st405⟩ := newO X404 hx hZ hown (ow 172 rfl) (ow 173 rfl) (ow 174 rfl) e404 (g := (mkF m 79 #[sR b_, sR sd_] [(.int 0), (.ref a49)])) rfl (dc d28_79) (by decide) (by decide)
    obtain ⟨a405, g405⟩ : ∃ z, z = h381.size := ⟨_, rfl⟩
    rw [← g405] at A405 D405 U405 st405
    have M405 : h0.size ≤ a405 := Nat.le_trans K403.1 (Nat.le_of_eq g405.symm)
    have ne427 := own_neG C382.lt g405
    have ne428 := own_neG C391.lt g405
    have ne429 := own_neG C396.lt g405
    have ne430 := own_neG C397.lt g405
    have ne431 := own_neG C398.lt g405
    have Z432 := Nat.le_trans Z402 E405.1
    have K433 := K403.ext E405
    have F434 : Fld Z h405 a405 "com/example/uncross/uncross/engine/BookSide$Level" "first" "Lcom/example/uncross/uncross/engine/BookSide$Resting;" .null := D405 (Or.inl (ow 224 rfl)) (ty := (.object "com/example/uncross/uncross/engine/BookSide$Resting")) (by decide)
    have F435 : Fld Z h405 a405 "com/example/uncross/uncross/engine/BookSide$Level" "last" "Lcom/example/uncross/uncross/engine/BookSide$Resting;" .null := D405 (Or.inl (ow 249 rfl)) (ty := (.object "com/example/uncross/uncross/engine/BookSide$Resting")) (by decide)
    have F436 : Fld Z h405 a405 "com/example/uncross/uncross/engine/BookSide$Level" "deep" "Z" (.int 0) := D405 (Or.inl (ow 301 rfl)) (ty := .boolean) (by decide)
    have F437 : Fld Z h405 a405 "com/example/uncross/uncross/engine/BookSide$Level" "key" "J" (.long 0) := D405 (Or.inr (ow 180 rfl)) (ty := .long) (by decide)
    have G405 : n0 ≤ a405 := Nat.le_trans Z402 (Nat.le_of_eq g405.symm)
    refine Goes.on (T' := T405) (g' := (mkF m 86 #[sR b_, sR sd_] [(.long (-9223372036854775808 : Int64)), (.ref a405), (.ref a405), (.int 0), (.ref a49)])) (fun _ k => XS.aloadN X195.here hx rfl (dc d28_49) rfl rfl (XS.aloadN X195.here hx rfl (dc d28_50) rfl rfl (st355 _ (XT.acmpYes X355.here hx rfl (pc0 := 54) (pc' := 61) rfl (dc d28_54) rfl rfl rfl (XT.aa_ne_t (fun q => hs1 (Value.ref.inj q))) (by decide) (by decide) (XS.iconst X355.here hx rfl (dc d28_61) (st356 _ (XS.aloadN X356.here hx rfl (dc d28_65) rfl rfl (st380 _ (XS.iconst X380.here hx rfl (dc d28_69) (X380.ldc2Long hx hown (mvT hZ (ow 216 rfl)) (g := (mkF m 70 #[sR b_, sR sd_] [(.int 0), (.ref a86)])) rfl (dc d28_70) _ (st381 _ (XS.aloadN X381.here hx rfl (dc d28_74) rfl rfl (st404 _ (XS.iconst X404.here hx rfl (dc d28_78) (st405 _ (XS.dup X405.here hx rfl (dc d28_82) rfl rfl (X405.ldc2Long hx hown (mvT hZ (ow 216 rfl)) (g := (mkF m 83 #[sR b_, sR sd_] [(.ref a405), (.ref a405), (.int 0), (.ref a49)])) rfl (dc d28_83) _ k))))))))))))))))) ?_
    refine Goes.callC X405 hx hZ 3 rfl hown (ow 175 rfl) (ow 176 rfl) (ow 174 rfl) (ow 177 rfl) (by decide) e405 (rmLv l Z a0 hw a405 (-9223372036854775808 : Int64) h405 n0 Z432 A405 G405 F434 F435 F436 F437) (by decide) (by decide) (by decide) (by decide) rfl (by rw [hml]; rfl) (a := a405) (argsL := [(.long (-9223372036854775808 : Int64))]) (rest := [(.ref a405), (.int 0), (.ref a49)]) rfl (lenOf pd_13 rfl) rfl (own_le20 rfl) (dc d28_86) ?_
    rintro v438 T438 L438 X438 ⟨rfl, N438q, K438, A438, B438_first, B438_last, B438_deep, B438_key⟩
    show Goes p e below _ T438 (mkF m 89 #[sR b_, sR sd_] [(.ref a405), (.int 0), (.ref a49)])
    have C453 := (C396.ext E405).keep K438 (ninS ne429 nin0)
    have K462 := K433.trans K438 (allS (Or.inr M405) all0)
    obtain ⟨T463, h463, X463, e463, W463, B463, st463⟩ := wrR X438 hx hZ rfl C453 (Or.inr ⟨_, rfl, Ins.self A438⟩) (by decide) (g := (mkF m 89 #[sR b_, sR sd_] [(.ref a405), (.int 0), (.ref a49)])) rfl rfl (dc d28_89)
    have N463 := Fr.snoc X463 (Fr.app (Fr.snoc X381 (Fr.snoc X356 N195 g0) G86) N438q) G49
    have C464 := ((C382.ext E405).keep K438).wr W463
    have C465 := ((C383.ext E405).keep K438 (ninS ne427 nin0)).other W463 (Or.inl ne64)
    have C466 := (((C359.other W381 (Or.inl ne102)).ext E405).keep K438 (ninS ne427 nin0)).other W463 (Or.inl ne64)
    have C467 := ((((C199.other W356 (Or.inr (sn79 hw))).other W381 (Or.inl ne102)).ext E405).keep K438 (ninS ne427 nin0)).other W463 (Or.inl ne64)
    have C468 := ((((C200.other W356 (Or.inr (sn80 hw))).other W381 (Or.inl ne102)).ext E405).keep K438 (ninS ne427 nin0)).other W463 (Or.inl ne64)
    have C469 := ((((C201.other W356 (Or.inr (sn81 hw))).other W381 (Or.inl ne102)).ext E405).keep K438 (ninS ne427 nin0)).other W463 (Or.inl ne64)
    have C470 := ((((C202.other W356 (Or.inr (sn82 hw))).other W381 (Or.inl ne102)).ext E405).keep K438 (ninS ne427 nin0)).other W463 (Or.inl ne64)
    have C471 := ((((C203.same W356).other W381 (Or.inl ne102)).ext E405).keep K438 (ninS ne427 nin0)).other W463 (Or.inl ne64)
    have C473 := ((C391.ext E405).keep K438).wr W463
    have C474 := ((((C206.other W356 (Or.inl ne12.symm)).other W381 (Or.inl ne103)).ext E405).keep K438 (ninS ne428 nin0)).other W463 (Or.inl ne65)
    have C475 := ((((C207.other W356 (Or.inl ne12.symm)).other W381 (Or.inl ne103)).ext E405).keep K438 (ninS ne428 nin0)).other W463 (Or.inl ne65)
    have C476 := ((((C208.other W356 (Or.inl ne12.symm)).other W381 (Or.inl ne103)).ext E405).keep K438 (ninS ne428 nin0)).other W463 (Or.inl ne65)
    have C478 := ((C397.ext E405).keep K438).wr W463
    have C479 := ((B381.ext E405).keep K438 (ninS ne430 nin0)).other W463 ne104.symm
    have C480 := ((C398.ext E405).keep K438).wr W463
    have C481 := ((((C214.other W356 (Or.inl ne165.symm)).other W381 (Or.inl ne168.symm)).ext E405).keep K438 (ninS ne431 nin0)).other W463 (Or.inl ne167.symm)
    have C484 := A438.wr W463
    have C485 := B438_first.other W463 (Or.inl ne429.symm)
    have C486 := B438_last.other W463 (Or.inl ne429.symm)
    have C487 := B438_deep.other W463 (Or.inl ne429.symm)
    have K490 := K462.wr W463 (Or.inr M49)
    have B463 : Rbk Z h463 a49 "com/example/uncross/uncross/engine/BookSide$Level" 64 (Upd (fun _ => Value.null) 0 (.ref a405)) := B463
    refine Goes.on (T' := T463) (g' := (mkF m 90 #[sR b_, sR sd_] [])) (fun _ k => st463 _ k) ?_
    exact Goes.retV X463 hx hlk hret (dc d28_90) (by decide) (by decide) (by rw [e463]; exact ⟨a2, a49, a86, a147, a405, rfl, N463, K490, C464, C465, C466, C467, C468, C469, C470, C471, C473, C474, C475, C476, B463, C478, C479, C480, C481, C484, C485, C486, C487, M2, M49, M86, M147, M405, ne65, ne103, ne166, ne428, ne104, ne167, ne429, ne168, ne430, ne431⟩)
abbrev c39C := prog_15_method_16_code
theorem d39_0 : decode c39C 0 = .ok (.aload_n 0, 1) := by decide +kernel
theorem d39_1 : decode c39C 1 = .ok (.getfield 43, 3) := by decide +kernel
theorem d39_4 : decode c39C 4 = .ok (.ifCond .eq 7, 3) := by decide +kernel
theorem d39_11 : decode c39C 11 = .ok (.lload_n 1, 1) := by decide +kernel
theorem d39_12 : decode c39C 12 = .ok (.lneg, 1) := by decide +kernel
theorem d39_13 : decode c39C 13 = .ok (.lreturn, 1) := by decide +kernel
theorem d39_7 : decode c39C 7 = .ok (.lload_n 1, 1) := by decide +kernel
theorem d39_8 : decode c39C 8 = .ok (.goto 5, 3) := by decide +kernel
theorem rmKy (l : Launch) (Z : State) (a0 : Array Value) (hw : TW Z a0) (b_ : Addr) (z_ : Int32) (x_ : Int64) (h0 : Heap) (n0 : Nat) (Z0 : n0 ≤ h0.size) (B0 : Fld Z h0 b_ "com/example/uncross/uncross/engine/BookSide" "buying" "Z" (.int z_)) :
    Pays l Z (⟨"com/example/uncross/uncross/engine/BookSide", "keyOf", "(J)J"⟩ : MethodName) prog_15_method_16_code 3 (some .long) [] ({ frames := 0, cells := 0, slots := 0, locals := 0 } : Room) #[(.ref b_), (.long x_)] h0 (fun v h L => v = some (.long (own_key z_ x_)) ∧ Fr n0 L ∧ h = h0) := by
  refine Pays.walk (plainFor_of_name pn_13) (fun m => ef_8 m b_ x_ ) ?_
  intro p e s m below meth c T0 X0 hx hby hml hown hnm hZ e0 hret hlk
  have dc := @Jvm.hb _ _ hby
  have N0 := Fr.nil n0
  obtain ⟨T1, X1, e1, st1⟩ := getF X0 hx hZ hown (host := "") (Or.inl (own_w hw 214 rfl)) Via.refl e0 B0 (g := (mkF m 1 #[sR b_, sJ x_, s2] [(.ref b_)])) rfl rfl (dc d39_1)
  refine Goes.on (T' := T1) (g' := (mkF m 4 #[sR b_, sJ x_, s2] [(.int z_)])) (fun _ k => XS.aloadN X0.here hx rfl (dc d39_0) rfl rfl (st1 _ k)) ?_
  by_cases hc2 : z_ = (0 : Int32)
  · refine Goes.on (T' := T1) (g' := (mkF m 13 #[sR b_, sJ x_, s2] [(.long (-x_))])) (fun _ k => XS.ifYes X1.here hx rfl (pc0 := 4) (pc' := 11) rfl (dc d39_4) rfl (XT.i0_eq_t hc2) (by decide) (by decide) (XS.lloadN X1.here hx rfl (dc d39_11) rfl (XT.lneg X1.here hx rfl (dc d39_12) rfl k))) ?_
    exact Goes.retJ X1 hx hlk hret (dc d39_13) (by decide) (by decide) ⟨(by unfold own_key; rw [if_pos hc2]), N0, e1⟩
  · refine Goes.on (T' := T1) (g' := (mkF m 13 #[sR b_, sJ x_, s2] [(.long x_)])) (fun _ k => XS.ifNo X1.here hx rfl (dc d39_4) rfl (XT.i0_eq_f hc2) (XS.lloadN X1.here hx rfl (dc d39_7) rfl (XS.goto X1.here hx rfl (pc0 := 8) (pc' := 13) rfl (dc d39_8) (by decide) (by decide) k))) ?_
    exact Goes.retJ X1 hx hlk hret (dc d39_13) (by decide) (by decide) ⟨(by unfold own_key; rw [if_neg hc2]), N0, e1⟩
abbrev c41C := jdk_2729_method_5_code
theorem d41_0 : decode c41C 0 = .ok (.aload_n 0, 1) := by decide +kernel
theorem d41_1 : decode c41C 1 = .ok (.getfield 7, 3) := by decide +kernel
theorem d41_4 : decode c41C 4 = .ok (.ireturn, 1) := by decide +kernel
theorem rmTs (l : Launch) (Z : State) (a0 : Array Value) (hw : TW Z a0) (t_ : Addr) (h0 : Heap) (n0 : Nat) (Z0 : n0 ≤ h0.size) (p0 : Exa Z h0 t_ k12C) (p1 : Fld Z h0 t_ k12C "size" "I" (.int (0 : Int32))) :
    Pays l Z (⟨"java/util/TreeMap", "size", "()I"⟩ : MethodName) jdk_2729_method_5_code 1 (some .int) [] ({ frames := 0, cells := 0, slots := 0, locals := 0 } : Room) #[(.ref t_)] h0 (fun v h L => v = some (.int (0 : Int32)) ∧ Fr n0 L ∧ h = h0) := by
  refine Pays.walk (plainFor_of_name pn_12) (fun m => ef_0 m t_ ) ?_
  intro p e s m below meth c T0 X0 hx hby hml hown hnm hZ e0 hret hlk
  have N0 := Fr.nil n0
  obtain ⟨T1, X1, e1, st1⟩ := getF X0 hx hZ hown (host := "") (Or.inl (own_w hw 204 rfl)) Via.refl e0 p1 (g := (mkF m 1 #[sR t_] [(.ref t_)])) rfl rfl (hb hby d41_1)
  refine Goes.on (T' := T1) (g' := (mkF m 4 #[sR t_] [(.int 0)])) (fun _ k => XS.aloadN X0.here hx rfl (hb hby d41_0) rfl rfl (st1 _ k)) ?_
  exact Goes.retI X1 hx hlk hret (hb hby d41_4) (by decide) (by decide) ⟨rfl, N0, e1⟩
abbrev c40C := jdk_71_method_3_code
theorem d40_0 : decode c40C 0 = .ok (.aload_n 0, 1) := by decide +kernel
theorem d40_1 : decode c40C 1 = .ok (.invokevirtual 19, 3) := by decide +kernel
theorem d40_4 : decode c40C 4 = .ok (.ifCond .ne 7, 3) := by decide +kernel
theorem d40_7 : decode c40C 7 = .ok (.iconst 1, 1) := by decide +kernel
theorem d40_8 : decode c40C 8 = .ok (.goto 4, 3) := by decide +kernel
theorem d40_12 : decode c40C 12 = .ok (.ireturn, 1) := by decide +kernel
theorem rmTq (l : Launch) (Z : State) (a0 : Array Value) (hw : TW Z a0) (t_ : Addr) (h0 : Heap) (n0 : Nat) (Z0 : n0 ≤ h0.size) (p0 : Exa Z h0 t_ k12C) (p1 : Fld Z h0 t_ k12C "size" "I" (.int (0 : Int32))) :
    Pays l Z (⟨"java/util/AbstractMap", "isEmpty", "()Z"⟩ : MethodName) jdk_71_method_3_code 1 (some .boolean) [] ({ frames := 1, cells := 0, slots := 0, locals := 12 } : Room) #[(.ref t_)] h0 (fun v h L => v = some (.int (1 : Int32)) ∧ Fr n0 L ∧ h = h0) := by
  refine Pays.walk (plainFor_of_name pn_1) (fun m => ef_0 m t_ ) ?_
  intro p e s m below meth c T0 X0 hx hby hml hown hnm hZ e0 hret hlk
  refine Goes.on (T' := T0) (g' := (mkF m 1 #[sR t_] [(.ref t_)])) (fun _ k => XS.aloadN X0.here hx rfl (hb hby d40_0) rfl rfl k) ?_
  refine Goes.callV X0 hx hZ 0 hown (own_w hw 272 rfl) (own_w hw 273 rfl) (own_nf (mvT hZ (own_w hw 270 rfl)) rfl) (own_w hw 275 rfl) (own_w hw 276 rfl) (own_w hw 193 rfl) (own_w hw 277 rfl) (by decide) e0 p0 (rmTs l Z a0 hw t_ h0 n0 Z0  p0 p1 ) (by decide) (by decide) (by decide) (by decide) rfl (by rw [hml]; rfl) (argsL := []) (rest := []) rfl (lenOf pd_5 rfl) rfl (own_le20 rfl) (hb hby d40_1) ?_
  rintro v1 T1 L1 X1 ⟨rfl, N1q, e1⟩
  have N1 := Fr.app (Fr.nil n0) N1q
  show Goes p e below _ T1 (mkF m 4 #[sR t_] [(.int 0)])
  refine Goes.on (T' := T1) (g' := (mkF m 12 #[sR t_] [(.int 1)])) (fun _ k => XS.ifNo X1.here hx rfl (hb hby d40_4) rfl (XT.i0_ne_f (by decide)) (XS.iconst X1.here hx rfl (hb hby d40_7) (XS.goto X1.here hx rfl (pc0 := 8) (pc' := 12) rfl (hb hby d40_8) (by decide) (by decide) k))) ?_
  exact Goes.retB X1 hx hlk hret (Or.inr rfl) (hb hby d40_12) (by decide) (by decide) ⟨rfl, N1, e1⟩
abbrev c45C := jdk_29_method_65_code
theorem d45_0 : decode c45C 0 = .ok (.iload_n 0, 1) := by decide +kernel
theorem d45_1 : decode c45C 1 = .ok (.iload_n 1, 1) := by decide +kernel
theorem d45_2 : decode c45C 2 = .ok (.if_icmp .lt 7, 3) := by decide +kernel
theorem d45_5 : decode c45C 5 = .ok (.iload_n 0, 1) := by decide +kernel
theorem d45_6 : decode c45C 6 = .ok (.goto 4, 3) := by decide +kernel
theorem d45_10 : decode c45C 10 = .ok (.ireturn, 1) := by decide +kernel
theorem rmMx (l : Launch) (Z : State) (a0 : Array Value) (hw : TW Z a0)  (h0 : Heap) (n0 : Nat) (Z0 : n0 ≤ h0.size) :
    Pays l Z (⟨"java/lang/Math", "max", "(II)I"⟩ : MethodName) jdk_29_method_65_code 2 (some .int) [] ({ frames := 0, cells := 0, slots := 0, locals := 0 } : Room) #[(.int (0 : Int32)), (.int (0 : Int32))] h0 (fun v h L => v = some (.int (0 : Int32)) ∧ Fr n0 L ∧ h = h0) := by
  refine Pays.walk (by decide +kernel) (fun m => ef_2 m (0 : Int32) (0 : Int32) ) ?_
  intro p e s m below meth c T0 X0 hx hby hml hown hnm hZ e0 hret hlk
  have N0 := Fr.nil n0
  refine Goes.on (T' := T0) (g' := (mkF m 10 #[sI 0, sI 0] [(.int 0)])) (fun _ k => XS.iloadN X0.here hx rfl (hb hby d45_0) rfl (XS.iloadN X0.here hx rfl (hb hby d45_1) rfl (XS.icmpNo X0.here hx rfl (hb hby d45_2) rfl (XT.ii_lt_f (by decide)) (XS.iloadN X0.here hx rfl (hb hby d45_5) rfl (XS.goto X0.here hx rfl (pc0 := 6) (pc' := 10) rfl (hb hby d45_6) (by decide) (by decide) k))))) ?_
  exact Goes.retI X0 hx hlk hret (hb hby d45_10) (by decide) (by decide) ⟨rfl, N0, e0⟩
theorem d45_9 : decode c45C 9 = .ok (.iload_n 1, 1) := by decide +kernel
theorem rmMx1 (l : Launch) (Z : State) (a0 : Array Value) (hw : TW Z a0)  (h0 : Heap) (n0 : Nat) (Z0 : n0 ≤ h0.size) :
    Pays l Z (⟨"java/lang/Math", "max", "(II)I"⟩ : MethodName) jdk_29_method_65_code 2 (some .int) [] ({ frames := 0, cells := 0, slots := 0, locals := 0 } : Room) #[(.int (0 : Int32)), (.int (1 : Int32))] h0 (fun v h L => v = some (.int (1 : Int32)) ∧ Fr n0 L ∧ h = h0) := by
  refine Pays.walk (by decide +kernel) (fun m => ef_2 m (0 : Int32) (1 : Int32) ) ?_
  intro p e s m below meth c T0 X0 hx hby hml hown hnm hZ e0 hret hlk
  have N0 := Fr.nil n0
  refine Goes.on (T' := T0) (g' := (mkF m 10 #[sI 0, sI 1] [(.int 1)])) (fun _ k => XS.iloadN X0.here hx rfl (hb hby d45_0) rfl (XS.iloadN X0.here hx rfl (hb hby d45_1) rfl (XS.icmpYes X0.here hx rfl (pc0 := 2) (pc' := 9) rfl (hb hby d45_2) rfl (XT.ii_lt_t (by decide)) (by decide) (by decide) (XS.iloadN X0.here hx rfl (hb hby d45_9) rfl k)))) ?_
  exact Goes.retI X0 hx hlk hret (hb hby d45_10) (by decide) (by decide) ⟨rfl, N0, e0⟩
theorem rmMxm (l : Launch) (Z : State) (a0 : Array Value) (hw : TW Z a0)  (h0 : Heap) (n0 : Nat) (Z0 : n0 ≤ h0.size) :
    Pays l Z (⟨"java/lang/Math", "max", "(II)I"⟩ : MethodName) jdk_29_method_65_code 2 (some .int) [] ({ frames := 0, cells := 0, slots := 0, locals := 0 } : Room) #[(.int (0 : Int32)), (.int (-1 : Int32))] h0 (fun v h L => v = some (.int (0 : Int32)) ∧ Fr n0 L ∧ h = h0) := by
  refine Pays.walk (by decide +kernel) (fun m => ef_2 m (0 : Int32) (-1 : Int32) ) ?_
  intro p e s m below meth c T0 X0 hx hby hml hown hnm hZ e0 hret hlk
  have N0 := Fr.nil n0
  refine Goes.on (T' := T0) (g' := (mkF m 10 #[sI 0, sI (-1 : Int32)] [(.int 0)])) (fun _ k => XS.iloadN X0.here hx rfl (hb hby d45_0) rfl (XS.iloadN X0.here hx rfl (hb hby d45_1) rfl (XS.icmpNo X0.here hx rfl (hb hby d45_2) rfl (XT.ii_lt_f (by decide)) (XS.iloadN X0.here hx rfl (hb hby d45_5) rfl (XS.goto X0.here hx rfl (pc0 := 6) (pc' := 10) rfl (hb hby d45_6) (by decide) (by decide) k))))) ?_
  exact Goes.retI X0 hx hlk hret (hb hby d45_10) (by decide) (by decide) ⟨rfl, N0, e0⟩
abbrev c42C := prog_15_method_15_code
theorem d42_0 : decode c42C 0 = .ok (.aload_n 0, 1) := by decide +kernel
theorem d42_1 : decode c42C 1 = .ok (.getfield 26, 3) := by decide +kernel
theorem d42_4 : decode c42C 4 = .ok (.istore_n 3, 1) := by decide +kernel
theorem d42_5 : decode c42C 5 = .ok (.aload_n 0, 1) := by decide +kernel
theorem d42_6 : decode c42C 6 = .ok (.getfield 26, 3) := by decide +kernel
theorem d42_9 : decode c42C 9 = .ok (.iconst 1, 1) := by decide +kernel
theorem d42_10 : decode c42C 10 = .ok (.isub, 1) := by decide +kernel
theorem d42_11 : decode c42C 11 = .ok (.istore 4, 2) := by decide +kernel
theorem d42_13 : decode c42C 13 = .ok (.iconst 1, 1) := by decide +kernel
theorem d42_14 : decode c42C 14 = .ok (.istore 5, 2) := by decide +kernel
theorem d42_16 : decode c42C 16 = .ok (.aload_n 0, 1) := by decide +kernel
theorem d42_17 : decode c42C 17 = .ok (.getfield 22, 3) := by decide +kernel
theorem d42_20 : decode c42C 20 = .ok (.iload 4, 2) := by decide +kernel
theorem d42_22 : decode c42C 22 = .ok (.laload, 1) := by decide +kernel
theorem d42_23 : decode c42C 23 = .ok (.lload_n 1, 1) := by decide +kernel
theorem d42_24 : decode c42C 24 = .ok (.lcmp, 1) := by decide +kernel
theorem d42_25 : decode c42C 25 = .ok (.ifCond .le 26, 3) := by decide +kernel
theorem d42_51 : decode c42C 51 = .ok (.iload_n 3, 1) := by decide +kernel
theorem d42_52 : decode c42C 52 = .ok (.iload 4, 2) := by decide +kernel
theorem d42_54 : decode c42C 54 = .ok (.isub, 1) := by decide +kernel
theorem d42_55 : decode c42C 55 = .ok (.iconst 1, 1) := by decide +kernel
theorem d42_56 : decode c42C 56 = .ok (.if_icmp .le 36, 3) := by decide +kernel
theorem d42_92 : decode c42C 92 = .ok (.iload 4, 2) := by decide +kernel
theorem d42_94 : decode c42C 94 = .ok (.ireturn, 1) := by decide +kernel
theorem ef_13 (m : MethodId) (x0 : Addr) (x1 : Int64) : entryFrame m #[(.ref x0), (.long x1)] 7 = mkF m 0 #[.val (.ref x0), .val (.long x1), .second, .unset, .unset, .unset, .unset] [] := by first | (simp [entryFrame, mkF, argsToLocals, Value.category]; done) | rfl
theorem rmAa1 (l : Launch) (Z : State) (a0 : Array Value) (hw : TW Z a0) (b_ K_ : Addr) (y_ : Int64) (ks_ : Nat → Int64) (h0 : Heap) (n0 : Nat) (Z0 : n0 ≤ h0.size) (p0 : Exa Z h0 b_ k0C) (p1 : Fld Z h0 b_ k0C "levelCount" "I" (.int (1 : Int32))) (p2 : Fld Z h0 b_ k0C "keys" "[J" (.ref K_)) (p3 : Arf Z h0 K_ .long Value.long 64 ks_) (hy0 : ¬ y_ < (ks_ 0)) :
    Pays l Z (⟨"com/example/uncross/uncross/engine/BookSide", "atOrBelow", "(J)I"⟩ : MethodName) prog_15_method_15_code 7 (some .int) [] ({ frames := 1, cells := 0, slots := 0, locals := 16 } : Room) #[(.ref b_), (.long y_)] h0 (fun v h L => v = some (.int (0 : Int32)) ∧ Fr n0 L ∧ h = h0) := by
  refine Pays.walk (plainFor_of_name pn_13) (fun m => ef_13 m b_ y_ ) ?_
  intro p e s m below meth c T0 X0 hx hby hml hown hnm hZ e0 hret hlk
  have dc := @Jvm.hb _ _ hby
  have N0 := Fr.nil n0
  obtain ⟨T2, X2, e2, st2⟩ := getF X0 hx hZ hown (host := "") (Or.inl (own_w hw 189 rfl)) Via.refl e0 p1 (g := (mkF m 1 #[sR b_, sJ y_, s2, su, su, su, su] [(.ref b_)])) rfl rfl (dc d42_1)
  obtain ⟨T3, X3, e3, st3⟩ := getF X2 hx hZ hown (host := "") (Or.inl (own_w hw 189 rfl)) Via.refl e2 p1 (g := (mkF m 6 #[sR b_, sJ y_, s2, sI 1, su, su, su] [(.ref b_)])) rfl rfl (dc d42_6)
  obtain ⟨T4, X4, e4, st4⟩ := getF X3 hx hZ hown (host := "") (Or.inl (own_w hw 187 rfl)) Via.refl e3 p2 (g := (mkF m 17 #[sR b_, sJ y_, s2, sI 1, sI 0, sI 1, su] [(.ref b_)])) rfl rfl (dc d42_17)
  refine Goes.on (T' := T4) (g' := (mkF m 94 #[sR b_, sJ y_, s2, sI 1, sI 0, sI 1, su] [(.int 0)])) (fun _ k => XS.aloadN X0.here hx rfl (dc d42_0) rfl rfl (st2 _ (XS.istoreN X2.here hx rfl (dc d42_4) rfl (l' := #[sR b_, sJ y_, s2, sI 1, su, su, su]) rfl (XS.aloadN X2.here hx rfl (dc d42_5) rfl rfl (st3 _ (XS.iconst X3.here hx rfl (dc d42_9) (XS.isub X3.here hx rfl (dc d42_10) rfl (XS.istore X3.here hx rfl (dc d42_11) rfl (l' := #[sR b_, sJ y_, s2, sI 1, sI 0, su, su]) rfl (XS.iconst X3.here hx rfl (dc d42_13) (XS.istore X3.here hx rfl (dc d42_14) rfl (l' := #[sR b_, sJ y_, s2, sI 1, sI 0, sI 1, su]) rfl (XS.aloadN X3.here hx rfl (dc d42_16) rfl rfl (st4 _ (XS.iload X4.here hx rfl (dc d42_20) rfl (ldJm X4 hx hZ e4 p3 (by decide) (dc d42_22) (XS.lloadN X4.here hx rfl (dc d42_23) rfl (XT.lcmp X4.here hx rfl (dc d42_24) rfl (XS.ifYes X4.here hx rfl (pc0 := 25) (pc' := 51) rfl (dc d42_25) rfl (XT.ll_le_t hy0) (by decide) (by decide) (XS.iloadN X4.here hx rfl (dc d42_51) rfl (XS.iload X4.here hx rfl (dc d42_52) rfl (XS.isub X4.here hx rfl (dc d42_54) rfl (XS.iconst X4.here hx rfl (dc d42_55) (XS.icmpYes X4.here hx rfl (pc0 := 56) (pc' := 92) rfl (dc d42_56) rfl (XT.ii_le_t (by decide)) (by decide) (by decide) (XS.iload X4.here hx rfl (dc d42_92) rfl k))))))))))))))))))))))) ?_
  exact Goes.retI X4 hx hlk hret (dc d42_94) (by decide) (by decide) ⟨rfl, N0, e4⟩
theorem rmAa2n (l : Launch) (Z : State) (a0 : Array Value) (hw : TW Z a0) (b_ K_ : Addr) (y_ : Int64) (ks_ : Nat → Int64) (h0 : Heap) (n0 : Nat) (Z0 : n0 ≤ h0.size) (p0 : Exa Z h0 b_ k0C) (p1 : Fld Z h0 b_ k0C "levelCount" "I" (.int (2 : Int32))) (p2 : Fld Z h0 b_ k0C "keys" "[J" (.ref K_)) (p3 : Arf Z h0 K_ .long Value.long 64 ks_) (hy1 : ¬ y_ < (ks_ 1)) :
    Pays l Z (⟨"com/example/uncross/uncross/engine/BookSide", "atOrBelow", "(J)I"⟩ : MethodName) prog_15_method_15_code 7 (some .int) [] ({ frames := 1, cells := 0, slots := 0, locals := 16 } : Room) #[(.ref b_), (.long y_)] h0 (fun v h L => v = some (.int (1 : Int32)) ∧ Fr n0 L ∧ h = h0) := by
  refine Pays.walk (plainFor_of_name pn_13) (fun m => ef_13 m b_ y_ ) ?_
  intro p e s m below meth c T0 X0 hx hby hml hown hnm hZ e0 hret hlk
  have dc := @Jvm.hb _ _ hby
  have N0 := Fr.nil n0
  obtain ⟨T2, X2, e2, st2⟩ := getF X0 hx hZ hown (host := "") (Or.inl (own_w hw 189 rfl)) Via.refl e0 p1 (g := (mkF m 1 #[sR b_, sJ y_, s2, su, su, su, su] [(.ref b_)])) rfl rfl (dc d42_1)
  obtain ⟨T3, X3, e3, st3⟩ := getF X2 hx hZ hown (host := "") (Or.inl (own_w hw 189 rfl)) Via.refl e2 p1 (g := (mkF m 6 #[sR b_, sJ y_, s2, sI 2, su, su, su] [(.ref b_)])) rfl rfl (dc d42_6)
  obtain ⟨T4, X4, e4, st4⟩ := getF X3 hx hZ hown (host := "") (Or.inl (own_w hw 187 rfl)) Via.refl e3 p2 (g := (mkF m 17 #[sR b_, sJ y_, s2, sI 2, sI 1, sI 1, su] [(.ref b_)])) rfl rfl (dc d42_17)
  refine Goes.on (T' := T4) (g' := (mkF m 94 #[sR b_, sJ y_, s2, sI 2, sI 1, sI 1, su] [(.int 1)])) (fun _ k => XS.aloadN X0.here hx rfl (dc d42_0) rfl rfl (st2 _ (XS.istoreN X2.here hx rfl (dc d42_4) rfl (l' := #[sR b_, sJ y_, s2, sI 2, su, su, su]) rfl (XS.aloadN X2.here hx rfl (dc d42_5) rfl rfl (st3 _ (XS.iconst X3.here hx rfl (dc d42_9) (XS.isub X3.here hx rfl (dc d42_10) rfl (XS.istore X3.here hx rfl (dc d42_11) rfl (l' := #[sR b_, sJ y_, s2, sI 2, sI 1, su, su]) rfl (XS.iconst X3.here hx rfl (dc d42_13) (XS.istore X3.here hx rfl (dc d42_14) rfl (l' := #[sR b_, sJ y_, s2, sI 2, sI 1, sI 1, su]) rfl (XS.aloadN X3.here hx rfl (dc d42_16) rfl rfl (st4 _ (XS.iload X4.here hx rfl (dc d42_20) rfl (ldJm X4 hx hZ e4 p3 (by decide) (dc d42_22) (XS.lloadN X4.here hx rfl (dc d42_23) rfl (XT.lcmp X4.here hx rfl (dc d42_24) rfl (XS.ifYes X4.here hx rfl (pc0 := 25) (pc' := 51) rfl (dc d42_25) rfl (XT.ll_le_t hy1) (by decide) (by decide) (XS.iloadN X4.here hx rfl (dc d42_51) rfl (XS.iload X4.here hx rfl (dc d42_52) rfl (XS.isub X4.here hx rfl (dc d42_54) rfl (XS.iconst X4.here hx rfl (dc d42_55) (XS.icmpYes X4.here hx rfl (pc0 := 56) (pc' := 92) rfl (dc d42_56) rfl (XT.ii_le_t (by decide)) (by decide) (by decide) (XS.iload X4.here hx rfl (dc d42_92) rfl k))))))))))))))))))))))) ?_
  exact Goes.retI X4 hx hlk hret (dc d42_94) (by decide) (by decide) ⟨rfl, N0, e4⟩
theorem d42_28 : decode c42C 28 = .ok (.iload 4, 2) := by decide +kernel
theorem d42_30 : decode c42C 30 = .ok (.istore_n 3, 1) := by decide +kernel
theorem d42_31 : decode c42C 31 = .ok (.iconst 0, 1) := by decide +kernel
theorem d42_32 : decode c42C 32 = .ok (.iload 4, 2) := by decide +kernel
theorem d42_34 : decode c42C 34 = .ok (.iload 5, 2) := by decide +kernel
theorem d42_36 : decode c42C 36 = .ok (.isub, 1) := by decide +kernel
theorem pd_18 : parseMethodDescriptor "(II)I" = some ⟨[.int, .int], some .int⟩ := by decide +kernel
theorem d42_37 : decode c42C 37 = .ok (.invokestatic 201, 3) := by decide +kernel
theorem d42_40 : decode c42C 40 = .ok (.istore 4, 2) := by decide +kernel
theorem d42_42 : decode c42C 42 = .ok (.iload 5, 2) := by decide +kernel
theorem d42_44 : decode c42C 44 = .ok (.iconst 2, 1) := by decide +kernel
theorem d42_45 : decode c42C 45 = .ok (.imul, 1) := by decide +kernel
theorem d42_46 : decode c42C 46 = .ok (.istore 5, 2) := by decide +kernel
theorem d42_48 : decode c42C 48 = .ok (.goto (-32), 3) := by decide +kernel
theorem rmAa2y (l : Launch) (Z : State) (a0 : Array Value) (hw : TW Z a0) (b_ K_ : Addr) (y_ : Int64) (ks_ : Nat → Int64) (h0 : Heap) (n0 : Nat) (Z0 : n0 ≤ h0.size) (p0 : Exa Z h0 b_ k0C) (p1 : Fld Z h0 b_ k0C "levelCount" "I" (.int (2 : Int32))) (p2 : Fld Z h0 b_ k0C "keys" "[J" (.ref K_)) (p3 : Arf Z h0 K_ .long Value.long 64 ks_) (hy1 : y_ < (ks_ 1)) (hy0 : ¬ y_ < (ks_ 0)) :
    Pays l Z (⟨"com/example/uncross/uncross/engine/BookSide", "atOrBelow", "(J)I"⟩ : MethodName) prog_15_method_15_code 7 (some .int) [] ({ frames := 1, cells := 0, slots := 0, locals := 16 } : Room) #[(.ref b_), (.long y_)] h0 (fun v h L => v = some (.int (0 : Int32)) ∧ Fr n0 L ∧ h = h0) := by
  refine Pays.walk (plainFor_of_name pn_13) (fun m => ef_13 m b_ y_ ) ?_
  intro p e s m below meth c T0 X0 hx hby hml hown hnm hZ e0 hret hlk
  have dc := @Jvm.hb _ _ hby
  obtain ⟨T2, X2, e2, st2⟩ := getF X0 hx hZ hown (host := "") (Or.inl (own_w hw 189 rfl)) Via.refl e0 p1 (g := (mkF m 1 #[sR b_, sJ y_, s2, su, su, su, su] [(.ref b_)])) rfl rfl (dc d42_1)
  obtain ⟨T3, X3, e3, st3⟩ := getF X2 hx hZ hown (host := "") (Or.inl (own_w hw 189 rfl)) Via.refl e2 p1 (g := (mkF m 6 #[sR b_, sJ y_, s2, sI 2, su, su, su] [(.ref b_)])) rfl rfl (dc d42_6)
  obtain ⟨T4, X4, e4, st4⟩ := getF X3 hx hZ hown (host := "") (Or.inl (own_w hw 187 rfl)) Via.refl e3 p2 (g := (mkF m 17 #[sR b_, sJ y_, s2, sI 2, sI 1, sI 1, su] [(.ref b_)])) rfl rfl (dc d42_17)
  refine Goes.on (T' := T4) (g' := (mkF m 37 #[sR b_, sJ y_, s2, sI 1, sI 1, sI 1, su] [(.int 0), (.int 0)])) (fun _ k => XS.aloadN X0.here hx rfl (dc d42_0) rfl rfl (st2 _ (XS.istoreN X2.here hx rfl (dc d42_4) rfl (l' := #[sR b_, sJ y_, s2, sI 2, su, su, su]) rfl (XS.aloadN X2.here hx rfl (dc d42_5) rfl rfl (st3 _ (XS.iconst X3.here hx rfl (dc d42_9) (XS.isub X3.here hx rfl (dc d42_10) rfl (XS.istore X3.here hx rfl (dc d42_11) rfl (l' := #[sR b_, sJ y_, s2, sI 2, sI 1, su, su]) rfl (XS.iconst X3.here hx rfl (dc d42_13) (XS.istore X3.here hx rfl (dc d42_14) rfl (l' := #[sR b_, sJ y_, s2, sI 2, sI 1, sI 1, su]) rfl (XS.aloadN X3.here hx rfl (dc d42_16) rfl rfl (st4 _ (XS.iload X4.here hx rfl (dc d42_20) rfl (ldJm X4 hx hZ e4 p3 (by decide) (dc d42_22) (XS.lloadN X4.here hx rfl (dc d42_23) rfl (XT.lcmp X4.here hx rfl (dc d42_24) rfl (XS.ifNo X4.here hx rfl (dc d42_25) rfl (XT.ll_le_f hy1) (XS.iload X4.here hx rfl (dc d42_28) rfl (XS.istoreN X4.here hx rfl (dc d42_30) rfl (l' := #[sR b_, sJ y_, s2, sI 1, sI 1, sI 1, su]) rfl (XS.iconst X4.here hx rfl (dc d42_31) (XS.iload X4.here hx rfl (dc d42_32) rfl (XS.iload X4.here hx rfl (dc d42_34) rfl (XS.isub X4.here hx rfl (dc d42_36) rfl k))))))))))))))))))))))) ?_
  refine Goes.callS X4 hx hZ 0 hown (own_w hw 296 rfl) (own_w hw 297 rfl) (own_w hw 298 rfl) (own_w hw 299 rfl) (by decide) e4 (rmMx l Z a0 hw h0 n0 Z0) (by decide) (by decide) (by decide) (by decide) rfl (by rw [hml]; rfl) (argsL := [(.int 0), (.int 0)]) (rest := []) rfl (lenOf pd_18 rfl) rfl (own_le20 rfl) (dc d42_37) ?_
  rintro v6 T6 L6 X6 ⟨rfl, N6q, e6⟩
  have N6 := Fr.app (Fr.nil n0) N6q
  show Goes p e below _ T6 (mkF m 40 #[sR b_, sJ y_, s2, sI 1, sI 1, sI 1, su] [(.int 0)])
  obtain ⟨T7, X7, e7, st7⟩ := getF X6 hx hZ hown (host := "") (Or.inl (own_w hw 187 rfl)) Via.refl e6 p2 (g := (mkF m 17 #[sR b_, sJ y_, s2, sI 1, sI 0, sI 2, su] [(.ref b_)])) rfl rfl (dc d42_17)
  refine Goes.on (T' := T7) (g' := (mkF m 94 #[sR b_, sJ y_, s2, sI 1, sI 0, sI 2, su] [(.int 0)])) (fun _ k => XS.istore X6.here hx rfl (dc d42_40) rfl (l' := #[sR b_, sJ y_, s2, sI 1, sI 0, sI 1, su]) rfl (XS.iload X6.here hx rfl (dc d42_42) rfl (XS.iconst X6.here hx rfl (dc d42_44) (XS.imul X6.here hx rfl (dc d42_45) rfl (XS.istore X6.here hx rfl (dc d42_46) rfl (l' := #[sR b_, sJ y_, s2, sI 1, sI 0, sI 2, su]) rfl (XS.goto X6.here hx rfl (pc0 := 48) (pc' := 16) rfl (dc d42_48) (by decide) (by decide) (XS.aloadN X6.here hx rfl (dc d42_16) rfl rfl (st7 _ (XS.iload X7.here hx rfl (dc d42_20) rfl (ldJm X7 hx hZ e7 p3 (by decide) (dc d42_22) (XS.lloadN X7.here hx rfl (dc d42_23) rfl (XT.lcmp X7.here hx rfl (dc d42_24) rfl (XS.ifYes X7.here hx rfl (pc0 := 25) (pc' := 51) rfl (dc d42_25) rfl (XT.ll_le_t hy0) (by decide) (by decide) (XS.iloadN X7.here hx rfl (dc d42_51) rfl (XS.iload X7.here hx rfl (dc d42_52) rfl (XS.isub X7.here hx rfl (dc d42_54) rfl (XS.iconst X7.here hx rfl (dc d42_55) (XS.icmpYes X7.here hx rfl (pc0 := 56) (pc' := 92) rfl (dc d42_56) rfl (XT.ii_le_t (by decide)) (by decide) (by decide) (XS.iload X7.here hx rfl (dc d42_92) rfl k))))))))))))))))))) ?_
  exact Goes.retI X7 hx hlk hret (dc d42_94) (by decide) (by decide) ⟨rfl, N6, e7⟩
theorem rmAa3n (l : Launch) (Z : State) (a0 : Array Value) (hw : TW Z a0) (b_ K_ : Addr) (y_ : Int64) (ks_ : Nat → Int64) (h0 : Heap) (n0 : Nat) (Z0 : n0 ≤ h0.size) (p0 : Exa Z h0 b_ k0C) (p1 : Fld Z h0 b_ k0C "levelCount" "I" (.int (3 : Int32))) (p2 : Fld Z h0 b_ k0C "keys" "[J" (.ref K_)) (p3 : Arf Z h0 K_ .long Value.long 64 ks_) (hy2 : ¬ y_ < (ks_ 2)) :
    Pays l Z (⟨"com/example/uncross/uncross/engine/BookSide", "atOrBelow", "(J)I"⟩ : MethodName) prog_15_method_15_code 7 (some .int) [] ({ frames := 1, cells := 0, slots := 0, locals := 16 } : Room) #[(.ref b_), (.long y_)] h0 (fun v h L => v = some (.int (2 : Int32)) ∧ Fr n0 L ∧ h = h0) := by
  refine Pays.walk (plainFor_of_name pn_13) (fun m => ef_13 m b_ y_ ) ?_
  intro p e s m below meth c T0 X0 hx hby hml hown hnm hZ e0 hret hlk
  have dc := @Jvm.hb _ _ hby
  have N0 := Fr.nil n0
  obtain ⟨T2, X2, e2, st2⟩ := getF X0 hx hZ hown (host := "") (Or.inl (own_w hw 189 rfl)) Via.refl e0 p1 (g := (mkF m 1 #[sR b_, sJ y_, s2, su, su, su, su] [(.ref b_)])) rfl rfl (dc d42_1)
  obtain ⟨T3, X3, e3, st3⟩ := getF X2 hx hZ hown (host := "") (Or.inl (own_w hw 189 rfl)) Via.refl e2 p1 (g := (mkF m 6 #[sR b_, sJ y_, s2, sI 3, su, su, su] [(.ref b_)])) rfl rfl (dc d42_6)
  obtain ⟨T4, X4, e4, st4⟩ := getF X3 hx hZ hown (host := "") (Or.inl (own_w hw 187 rfl)) Via.refl e3 p2 (g := (mkF m 17 #[sR b_, sJ y_, s2, sI 3, sI 2, sI 1, su] [(.ref b_)])) rfl rfl (dc d42_17)
  refine Goes.on (T' := T4) (g' := (mkF m 94 #[sR b_, sJ y_, s2, sI 3, sI 2, sI 1, su] [(.int 2)])) (fun _ k => XS.aloadN X0.here hx rfl (dc d42_0) rfl rfl (st2 _ (XS.istoreN X2.here hx rfl (dc d42_4) rfl (l' := #[sR b_, sJ y_, s2, sI 3, su, su, su]) rfl (XS.aloadN X2.here hx rfl (dc d42_5) rfl rfl (st3 _ (XS.iconst X3.here hx rfl (dc d42_9) (XS.isub X3.here hx rfl (dc d42_10) rfl (XS.istore X3.here hx rfl (dc d42_11) rfl (l' := #[sR b_, sJ y_, s2, sI 3, sI 2, su, su]) rfl (XS.iconst X3.here hx rfl (dc d42_13) (XS.istore X3.here hx rfl (dc d42_14) rfl (l' := #[sR b_, sJ y_, s2, sI 3, sI 2, sI 1, su]) rfl (XS.aloadN X3.here hx rfl (dc d42_16) rfl rfl (st4 _ (XS.iload X4.here hx rfl (dc d42_20) rfl (ldJm X4 hx hZ e4 p3 (by decide) (dc d42_22) (XS.lloadN X4.here hx rfl (dc d42_23) rfl (XT.lcmp X4.here hx rfl (dc d42_24) rfl (XS.ifYes X4.here hx rfl (pc0 := 25) (pc' := 51) rfl (dc d42_25) rfl (XT.ll_le_t hy2) (by decide) (by decide) (XS.iloadN X4.here hx rfl (dc d42_51) rfl (XS.iload X4.here hx rfl (dc d42_52) rfl (XS.isub X4.here hx rfl (dc d42_54) rfl (XS.iconst X4.here hx rfl (dc d42_55) (XS.icmpYes X4.here hx rfl (pc0 := 56) (pc' := 92) rfl (dc d42_56) rfl (XT.ii_le_t (by decide)) (by decide) (by decide) (XS.iload X4.here hx rfl (dc d42_92) rfl k))))))))))))))))))))))) ?_
  exact Goes.retI X4 hx hlk hret (dc d42_94) (by decide) (by decide) ⟨rfl, N0, e4⟩
theorem rmAa3yn (l : Launch) (Z : State) (a0 : Array Value) (hw : TW Z a0) (b_ K_ : Addr) (y_ : Int64) (ks_ : Nat → Int64) (h0 : Heap) (n0 : Nat) (Z0 : n0 ≤ h0.size) (p0 : Exa Z h0 b_ k0C) (p1 : Fld Z h0 b_ k0C "levelCount" "I" (.int (3 : Int32))) (p2 : Fld Z h0 b_ k0C "keys" "[J" (.ref K_)) (p3 : Arf Z h0 K_ .long Value.long 64 ks_) (hy2 : y_ < (ks_ 2)) (hy1 : ¬ y_ < (ks_ 1)) :
    Pays l Z (⟨"com/example/uncross/uncross/engine/BookSide", "atOrBelow", "(J)I"⟩ : MethodName) prog_15_method_15_code 7 (some .int) [] ({ frames := 1, cells := 0, slots := 0, locals := 16 } : Room) #[(.ref b_), (.long y_)] h0 (fun v h L => v = some (.int (1 : Int32)) ∧ Fr n0 L ∧ h = h0) := by
  refine Pays.walk (plainFor_of_name pn_13) (fun m => ef_13 m b_ y_ ) ?_
  intro p e s m below meth c T0 X0 hx hby hml hown hnm hZ e0 hret hlk
  have dc := @Jvm.hb _ _ hby
  obtain ⟨T2, X2, e2, st2⟩ := getF X0 hx hZ hown (host := "") (Or.inl (own_w hw 189 rfl)) Via.refl e0 p1 (g := (mkF m 1 #[sR b_, sJ y_, s2, su, su, su, su] [(.ref b_)])) rfl rfl (dc d42_1)
  obtain ⟨T3, X3, e3, st3⟩ := getF X2 hx hZ hown (host := "") (Or.inl (own_w hw 189 rfl)) Via.refl e2 p1 (g := (mkF m 6 #[sR b_, sJ y_, s2, sI 3, su, su, su] [(.ref b_)])) rfl rfl (dc d42_6)
  obtain ⟨T4, X4, e4, st4⟩ := getF X3 hx hZ hown (host := "") (Or.inl (own_w hw 187 rfl)) Via.refl e3 p2 (g := (mkF m 17 #[sR b_, sJ y_, s2, sI 3, sI 2, sI 1, su] [(.ref b_)])) rfl rfl (dc d42_17)
  refine Goes.on (T' := T4) (g' := (mkF m 37 #[sR b_, sJ y_, s2, sI 2, sI 2, sI 1, su] [(.int 1), (.int 0)])) (fun _ k => XS.aloadN X0.here hx rfl (dc d42_0) rfl rfl (st2 _ (XS.istoreN X2.here hx rfl (dc d42_4) rfl (l' := #[sR b_, sJ y_, s2, sI 3, su, su, su]) rfl (XS.aloadN X2.here hx rfl (dc d42_5) rfl rfl (st3 _ (XS.iconst X3.here hx rfl (dc d42_9) (XS.isub X3.here hx rfl (dc d42_10) rfl (XS.istore X3.here hx rfl (dc d42_11) rfl (l' := #[sR b_, sJ y_, s2, sI 3, sI 2, su, su]) rfl (XS.iconst X3.here hx rfl (dc d42_13) (XS.istore X3.here hx rfl (dc d42_14) rfl (l' := #[sR b_, sJ y_, s2, sI 3, sI 2, sI 1, su]) rfl (XS.aloadN X3.here hx rfl (dc d42_16) rfl rfl (st4 _ (XS.iload X4.here hx rfl (dc d42_20) rfl (ldJm X4 hx hZ e4 p3 (by decide) (dc d42_22) (XS.lloadN X4.here hx rfl (dc d42_23) rfl (XT.lcmp X4.here hx rfl (dc d42_24) rfl (XS.ifNo X4.here hx rfl (dc d42_25) rfl (XT.ll_le_f hy2) (XS.iload X4.here hx rfl (dc d42_28) rfl (XS.istoreN X4.here hx rfl (dc d42_30) rfl (l' := #[sR b_, sJ y_, s2, sI 2, sI 2, sI 1, su]) rfl (XS.iconst X4.here hx rfl (dc d42_31) (XS.iload X4.here hx rfl (dc d42_32) rfl (XS.iload X4.here hx rfl (dc d42_34) rfl (XS.isub X4.here hx rfl (dc d42_36) rfl k))))))))))))))))))))))) ?_
  refine Goes.callS X4 hx hZ 0 hown (own_w hw 296 rfl) (own_w hw 297 rfl) (own_w hw 298 rfl) (own_w hw 299 rfl) (by decide) e4 (rmMx1 l Z a0 hw h0 n0 Z0) (by decide) (by decide) (by decide) (by decide) rfl (by rw [hml]; rfl) (argsL := [(.int 0), (.int 1)]) (rest := []) rfl (lenOf pd_18 rfl) rfl (own_le20 rfl) (dc d42_37) ?_
  rintro v6 T6 L6 X6 ⟨rfl, N6q, e6⟩
  have N6 := Fr.app (Fr.nil n0) N6q
  show Goes p e below _ T6 (mkF m 40 #[sR b_, sJ y_, s2, sI 2, sI 2, sI 1, su] [(.int 1)])
  obtain ⟨T7, X7, e7, st7⟩ := getF X6 hx hZ hown (host := "") (Or.inl (own_w hw 187 rfl)) Via.refl e6 p2 (g := (mkF m 17 #[sR b_, sJ y_, s2, sI 2, sI 1, sI 2, su] [(.ref b_)])) rfl rfl (dc d42_17)
  refine Goes.on (T' := T7) (g' := (mkF m 94 #[sR b_, sJ y_, s2, sI 2, sI 1, sI 2, su] [(.int 1)])) (fun _ k => XS.istore X6.here hx rfl (dc d42_40) rfl (l' := #[sR b_, sJ y_, s2, sI 2, sI 1, sI 1, su]) rfl (XS.iload X6.here hx rfl (dc d42_42) rfl (XS.iconst X6.here hx rfl (dc d42_44) (XS.imul X6.here hx rfl (dc d42_45) rfl (XS.istore X6.here hx rfl (dc d42_46) rfl (l' := #[sR b_, sJ y_, s2, sI 2, sI 1, sI 2, su]) rfl (XS.goto X6.here hx rfl (pc0 := 48) (pc' := 16) rfl (dc d42_48) (by decide) (by decide) (XS.aloadN X6.here hx rfl (dc d42_16) rfl rfl (st7 _ (XS.iload X7.here hx rfl (dc d42_20) rfl (ldJm X7 hx hZ e7 p3 (by decide) (dc d42_22) (XS.lloadN X7.here hx rfl (dc d42_23) rfl (XT.lcmp X7.here hx rfl (dc d42_24) rfl (XS.ifYes X7.here hx rfl (pc0 := 25) (pc' := 51) rfl (dc d42_25) rfl (XT.ll_le_t hy1) (by decide) (by decide) (XS.iloadN X7.here hx rfl (dc d42_51) rfl (XS.iload X7.here hx rfl (dc d42_52) rfl (XS.isub X7.here hx rfl (dc d42_54) rfl (XS.iconst X7.here hx rfl (dc d42_55) (XS.icmpYes X7.here hx rfl (pc0 := 56) (pc' := 92) rfl (dc d42_56) rfl (XT.ii_le_t (by decide)) (by decide) (by decide) (XS.iload X7.here hx rfl (dc d42_92) rfl k))))))))))))))))))) ?_
  exact Goes.retI X7 hx hlk hret (dc d42_94) (by decide) (by decide) ⟨rfl, N6, e7⟩
theorem rmAa3yy (l : Launch) (Z : State) (a0 : Array Value) (hw : TW Z a0) (b_ K_ : Addr) (y_ : Int64) (ks_ : Nat → Int64) (h0 : Heap) (n0 : Nat) (Z0 : n0 ≤ h0.size) (p0 : Exa Z h0 b_ k0C) (p1 : Fld Z h0 b_ k0C "levelCount" "I" (.int (3 : Int32))) (p2 : Fld Z h0 b_ k0C "keys" "[J" (.ref K_)) (p3 : Arf Z h0 K_ .long Value.long 64 ks_) (hy2 : y_ < (ks_ 2)) (hy1 : y_ < (ks_ 1)) (hy0 : ¬ y_ < (ks_ 0)) :
    Pays l Z (⟨"com/example/uncross/uncross/engine/BookSide", "atOrBelow", "(J)I"⟩ : MethodName) prog_15_method_15_code 7 (some .int) [] ({ frames := 1, cells := 0, slots := 0, locals := 16 } : Room) #[(.ref b_), (.long y_)] h0 (fun v h L => v = some (.int (0 : Int32)) ∧ Fr n0 L ∧ h = h0) := by
  refine Pays.walk (plainFor_of_name pn_13) (fun m => ef_13 m b_ y_ ) ?_
  intro p e s m below meth c T0 X0 hx hby hml hown hnm hZ e0 hret hlk
  have dc := @Jvm.hb _ _ hby
  have ow := @own_w Z a0 hw
  obtain ⟨T2, X2, e2, st2⟩ := getF X0 hx hZ hown (host := "") (Or.inl (ow 189 rfl)) Via.refl e0 p1 (g := (mkF m 1 #[sR b_, sJ y_, s2, su, su, su, su] [(.ref b_)])) rfl rfl (dc d42_1)
  obtain ⟨T3, X3, e3, st3⟩ := getF X2 hx hZ hown (host := "") (Or.inl (ow 189 rfl)) Via.refl e2 p1 (g := (mkF m 6 #[sR b_, sJ y_, s2, sI 3, su, su, su] [(.ref b_)])) rfl rfl (dc d42_6)
  obtain ⟨T4, X4, e4, st4⟩ := getF X3 hx hZ hown (host := "") (Or.inl (ow 187 rfl)) Via.refl e3 p2 (g := (mkF m 17 #[sR b_, sJ y_, s2, sI 3, sI 2, sI 1, su] [(.ref b_)])) rfl rfl (dc d42_17)
  refine Goes.on (T' := T4) (g' := (mkF m 37 #[sR b_, sJ y_, s2, sI 2, sI 2, sI 1, su] [(.int 1), (.int 0)])) (fun _ k => XS.aloadN X0.here hx rfl (dc d42_0) rfl rfl (st2 _ (XS.istoreN X2.here hx rfl (dc d42_4) rfl (l' := #[sR b_, sJ y_, s2, sI 3, su, su, su]) rfl (XS.aloadN X2.here hx rfl (dc d42_5) rfl rfl (st3 _ (XS.iconst X3.here hx rfl (dc d42_9) (XS.isub X3.here hx rfl (dc d42_10) rfl (XS.istore X3.here hx rfl (dc d42_11) rfl (l' := #[sR b_, sJ y_, s2, sI 3, sI 2, su, su]) rfl (XS.iconst X3.here hx rfl (dc d42_13) (XS.istore X3.here hx rfl (dc d42_14) rfl (l' := #[sR b_, sJ y_, s2, sI 3, sI 2, sI 1, su]) rfl (XS.aloadN X3.here hx rfl (dc d42_16) rfl rfl (st4 _ (XS.iload X4.here hx rfl (dc d42_20) rfl (ldJm X4 hx hZ e4 p3 (by decide) (dc d42_22) (XS.lloadN X4.here hx rfl (dc d42_23) rfl (XT.lcmp X4.here hx rfl (dc d42_24) rfl (XS.ifNo X4.here hx rfl (dc d42_25) rfl (XT.ll_le_f hy2) (XS.iload X4.here hx rfl (dc d42_28) rfl (XS.istoreN X4.here hx rfl (dc d42_30) rfl (l' := #[sR b_, sJ y_, s2, sI 2, sI 2, sI 1, su]) rfl (XS.iconst X4.here hx rfl (dc d42_31) (XS.iload X4.here hx rfl (dc d42_32) rfl (XS.iload X4.here hx rfl (dc d42_34) rfl (XS.isub X4.here hx rfl (dc d42_36) rfl k))))))))))))))))))))))) ?_
  refine Goes.callS X4 hx hZ 0 hown (ow 296 rfl) (ow 297 rfl) (ow 298 rfl) (ow 299 rfl) (by decide) e4 (rmMx1 l Z a0 hw h0 n0 Z0) (by decide) (by decide) (by decide) (by decide) rfl (by rw [hml]; rfl) (argsL := [(.int 0), (.int 1)]) (rest := []) rfl (lenOf pd_18 rfl) rfl (own_le20 rfl) (dc d42_37) ?_
  rintro v6 T6 L6 X6 ⟨rfl, N6q, e6⟩
  show Goes p e below _ T6 (mkF m 40 #[sR b_, sJ y_, s2, sI 2, sI 2, sI 1, su] [(.int 1)])
  obtain ⟨T7, X7, e7, st7⟩ := getF X6 hx hZ hown (host := "") (Or.inl (ow 187 rfl)) Via.refl e6 p2 (g := (mkF m 17 #[sR b_, sJ y_, s2, sI 2, sI 1, sI 2, su] [(.ref b_)])) rfl rfl (dc d42_17)
  refine Goes.on (T' := T7) (g' := (mkF m 37 #[sR b_, sJ y_, s2, sI 1, sI 1, sI 2, su] [(.int (-1 : Int32)), (.int 0)])) (fun _ k => XS.istore X6.here hx rfl (dc d42_40) rfl (l' := #[sR b_, sJ y_, s2, sI 2, sI 1, sI 1, su]) rfl (XS.iload X6.here hx rfl (dc d42_42) rfl (XS.iconst X6.here hx rfl (dc d42_44) (XS.imul X6.here hx rfl (dc d42_45) rfl (XS.istore X6.here hx rfl (dc d42_46) rfl (l' := #[sR b_, sJ y_, s2, sI 2, sI 1, sI 2, su]) rfl (XS.goto X6.here hx rfl (pc0 := 48) (pc' := 16) rfl (dc d42_48) (by decide) (by decide) (XS.aloadN X6.here hx rfl (dc d42_16) rfl rfl (st7 _ (XS.iload X7.here hx rfl (dc d42_20) rfl (ldJm X7 hx hZ e7 p3 (by decide) (dc d42_22) (XS.lloadN X7.here hx rfl (dc d42_23) rfl (XT.lcmp X7.here hx rfl (dc d42_24) rfl (XS.ifNo X7.here hx rfl (dc d42_25) rfl (XT.ll_le_f hy1) (XS.iload X7.here hx rfl (dc d42_28) rfl (XS.istoreN X7.here hx rfl (dc d42_30) rfl (l' := #[sR b_, sJ y_, s2, sI 1, sI 1, sI 2, su]) rfl (XS.iconst X7.here hx rfl (dc d42_31) (XS.iload X7.here hx rfl (dc d42_32) rfl (XS.iload X7.here hx rfl (dc d42_34) rfl (XS.isub X7.here hx rfl (dc d42_36) rfl k))))))))))))))))))) ?_
  refine Goes.callS X7 hx hZ 0 hown (ow 296 rfl) (ow 297 rfl) (ow 298 rfl) (ow 299 rfl) (by decide) e7 (rmMxm l Z a0 hw h0 n0 Z0) (by decide) (by decide) (by decide) (by decide) rfl (by rw [hml]; rfl) (argsL := [(.int 0), (.int (-1 : Int32))]) (rest := []) rfl (lenOf pd_18 rfl) rfl (own_le20 rfl) (dc d42_37) ?_
  rintro v9 T9 L9 X9 ⟨rfl, N9q, e9⟩
  have N9 := Fr.app (Fr.app (Fr.nil n0) N6q) N9q
  show Goes p e below _ T9 (mkF m 40 #[sR b_, sJ y_, s2, sI 1, sI 1, sI 2, su] [(.int 0)])
  obtain ⟨T10, X10, e10, st10⟩ := getF X9 hx hZ hown (host := "") (Or.inl (ow 187 rfl)) Via.refl e9 p2 (g := (mkF m 17 #[sR b_, sJ y_, s2, sI 1, sI 0, sI 4, su] [(.ref b_)])) rfl rfl (dc d42_17)
  refine Goes.on (T' := T10) (g' := (mkF m 94 #[sR b_, sJ y_, s2, sI 1, sI 0, sI 4, su] [(.int 0)])) (fun _ k => XS.istore X9.here hx rfl (dc d42_40) rfl (l' := #[sR b_, sJ y_, s2, sI 1, sI 0, sI 2, su]) rfl (XS.iload X9.here hx rfl (dc d42_42) rfl (XS.iconst X9.here hx rfl (dc d42_44) (XS.imul X9.here hx rfl (dc d42_45) rfl (XS.istore X9.here hx rfl (dc d42_46) rfl (l' := #[sR b_, sJ y_, s2, sI 1, sI 0, sI 4, su]) rfl (XS.goto X9.here hx rfl (pc0 := 48) (pc' := 16) rfl (dc d42_48) (by decide) (by decide) (XS.aloadN X9.here hx rfl (dc d42_16) rfl rfl (st10 _ (XS.iload X10.here hx rfl (dc d42_20) rfl (ldJm X10 hx hZ e10 p3 (by decide) (dc d42_22) (XS.lloadN X10.here hx rfl (dc d42_23) rfl (XT.lcmp X10.here hx rfl (dc d42_24) rfl (XS.ifYes X10.here hx rfl (pc0 := 25) (pc' := 51) rfl (dc d42_25) rfl (XT.ll_le_t hy0) (by decide) (by decide) (XS.iloadN X10.here hx rfl (dc d42_51) rfl (XS.iload X10.here hx rfl (dc d42_52) rfl (XS.isub X10.here hx rfl (dc d42_54) rfl (XS.iconst X10.here hx rfl (dc d42_55) (XS.icmpYes X10.here hx rfl (pc0 := 56) (pc' := 92) rfl (dc d42_56) rfl (XT.ii_le_t (by decide)) (by decide) (by decide) (XS.iload X10.here hx rfl (dc d42_92) rfl k))))))))))))))))))) ?_
  exact Goes.retI X10 hx hlk hret (dc d42_94) (by decide) (by decide) ⟨rfl, N9, e10⟩
abbrev c38C := prog_15_method_9_code
theorem d38_0 : decode c38C 0 = .ok (.aload_n 0, 1) := by decide +kernel
theorem d38_1 : decode c38C 1 = .ok (.lload_n 1, 1) := by decide +kernel
theorem pd_19 : parseMethodDescriptor "(J)J" = some ⟨[.long], some .long⟩ := by decide +kernel
theorem d38_2 : decode c38C 2 = .ok (.invokevirtual 105, 3) := by decide +kernel
theorem d38_5 : decode c38C 5 = .ok (.lstore_n 3, 1) := by decide +kernel
theorem d38_6 : decode c38C 6 = .ok (.aload_n 0, 1) := by decide +kernel
theorem d38_7 : decode c38C 7 = .ok (.getfield 26, 3) := by decide +kernel
theorem d38_10 : decode c38C 10 = .ok (.sipush 512, 3) := by decide +kernel
theorem d38_13 : decode c38C 13 = .ok (.if_icmp .eq 13, 3) := by decide +kernel
theorem d38_16 : decode c38C 16 = .ok (.aload_n 0, 1) := by decide +kernel
theorem d38_17 : decode c38C 17 = .ok (.getfield 33, 3) := by decide +kernel
theorem d38_20 : decode c38C 20 = .ok (.invokevirtual 143, 3) := by decide +kernel
theorem d38_23 : decode c38C 23 = .ok (.ifCond .ne 20, 3) := by decide +kernel
theorem d38_43 : decode c38C 43 = .ok (.aload_n 0, 1) := by decide +kernel
theorem d38_44 : decode c38C 44 = .ok (.lload_n 3, 1) := by decide +kernel
theorem pd_20 : parseMethodDescriptor "(J)I" = some ⟨[.long], some .int⟩ := by decide +kernel
theorem d38_45 : decode c38C 45 = .ok (.invokevirtual 81, 3) := by decide +kernel
theorem d38_48 : decode c38C 48 = .ok (.istore 5, 2) := by decide +kernel
theorem d38_50 : decode c38C 50 = .ok (.aload_n 0, 1) := by decide +kernel
theorem d38_51 : decode c38C 51 = .ok (.getfield 22, 3) := by decide +kernel
theorem d38_54 : decode c38C 54 = .ok (.iload 5, 2) := by decide +kernel
theorem d38_56 : decode c38C 56 = .ok (.laload, 1) := by decide +kernel
theorem d38_57 : decode c38C 57 = .ok (.lload_n 3, 1) := by decide +kernel
theorem d38_58 : decode c38C 58 = .ok (.lcmp, 1) := by decide +kernel
theorem d38_59 : decode c38C 59 = .ok (.ifCond .ne 33, 3) := by decide +kernel
theorem d38_92 : decode c38C 92 = .ok (.iload 5, 2) := by decide +kernel
theorem d38_94 : decode c38C 94 = .ok (.iconst 1, 1) := by decide +kernel
theorem d38_95 : decode c38C 95 = .ok (.iadd, 1) := by decide +kernel
theorem d38_96 : decode c38C 96 = .ok (.istore 6, 2) := by decide +kernel
theorem d38_98 : decode c38C 98 = .ok (.aload_n 0, 1) := by decide +kernel
theorem d38_99 : decode c38C 99 = .ok (.getfield 26, 3) := by decide +kernel
theorem d38_102 : decode c38C 102 = .ok (.sipush 512, 3) := by decide +kernel
theorem d38_105 : decode c38C 105 = .ok (.if_icmp .ne 10, 3) := by decide +kernel
theorem d38_115 : decode c38C 115 = .ok (.aload_n 0, 1) := by decide +kernel
theorem d38_116 : decode c38C 116 = .ok (.getfield 26, 3) := by decide +kernel
theorem d38_119 : decode c38C 119 = .ok (.aload_n 0, 1) := by decide +kernel
theorem d38_120 : decode c38C 120 = .ok (.getfield 18, 3) := by decide +kernel
theorem d38_123 : decode c38C 123 = .ok (.arraylength, 1) := by decide +kernel
theorem d38_124 : decode c38C 124 = .ok (.if_icmp .ne 45, 3) := by decide +kernel
theorem d38_169 : decode c38C 169 = .ok (.aload_n 0, 1) := by decide +kernel
theorem d38_170 : decode c38C 170 = .ok (.getfield 18, 3) := by decide +kernel
theorem d38_173 : decode c38C 173 = .ok (.iload 6, 2) := by decide +kernel
theorem d38_175 : decode c38C 175 = .ok (.aload_n 0, 1) := by decide +kernel
theorem d38_176 : decode c38C 176 = .ok (.getfield 18, 3) := by decide +kernel
theorem d38_179 : decode c38C 179 = .ok (.iload 6, 2) := by decide +kernel
theorem d38_181 : decode c38C 181 = .ok (.iconst 1, 1) := by decide +kernel
theorem d38_182 : decode c38C 182 = .ok (.iadd, 1) := by decide +kernel
theorem d38_183 : decode c38C 183 = .ok (.aload_n 0, 1) := by decide +kernel
theorem d38_184 : decode c38C 184 = .ok (.getfield 26, 3) := by decide +kernel
theorem d38_187 : decode c38C 187 = .ok (.iload 6, 2) := by decide +kernel
theorem d38_189 : decode c38C 189 = .ok (.isub, 1) := by decide +kernel
theorem d38_190 : decode c38C 190 = .ok (.invokestatic 171, 3) := by decide +kernel
theorem d38_193 : decode c38C 193 = .ok (.aload_n 0, 1) := by decide +kernel
theorem d38_194 : decode c38C 194 = .ok (.getfield 22, 3) := by decide +kernel
theorem d38_197 : decode c38C 197 = .ok (.iload 6, 2) := by decide +kernel
theorem d38_199 : decode c38C 199 = .ok (.aload_n 0, 1) := by decide +kernel
theorem d38_200 : decode c38C 200 = .ok (.getfield 22, 3) := by decide +kernel
theorem d38_203 : decode c38C 203 = .ok (.iload 6, 2) := by decide +kernel
theorem d38_205 : decode c38C 205 = .ok (.iconst 1, 1) := by decide +kernel
theorem d38_206 : decode c38C 206 = .ok (.iadd, 1) := by decide +kernel
theorem d38_207 : decode c38C 207 = .ok (.aload_n 0, 1) := by decide +kernel
theorem d38_208 : decode c38C 208 = .ok (.getfield 26, 3) := by decide +kernel
theorem d38_211 : decode c38C 211 = .ok (.iload 6, 2) := by decide +kernel
theorem d38_213 : decode c38C 213 = .ok (.isub, 1) := by decide +kernel
theorem d38_214 : decode c38C 214 = .ok (.invokestatic 171, 3) := by decide +kernel
theorem d38_217 : decode c38C 217 = .ok (.new 9, 3) := by decide +kernel
theorem d38_220 : decode c38C 220 = .ok (.dup, 1) := by decide +kernel
theorem d38_221 : decode c38C 221 = .ok (.lload_n 3, 1) := by decide +kernel
theorem d38_222 : decode c38C 222 = .ok (.invokespecial 11, 3) := by decide +kernel
theorem d38_225 : decode c38C 225 = .ok (.astore 7, 2) := by decide +kernel
theorem d38_227 : decode c38C 227 = .ok (.aload_n 0, 1) := by decide +kernel
theorem d38_228 : decode c38C 228 = .ok (.getfield 18, 3) := by decide +kernel
theorem d38_231 : decode c38C 231 = .ok (.iload 6, 2) := by decide +kernel
theorem d38_233 : decode c38C 233 = .ok (.aload 7, 2) := by decide +kernel
theorem d38_235 : decode c38C 235 = .ok (.aastore, 1) := by decide +kernel
theorem d38_236 : decode c38C 236 = .ok (.aload_n 0, 1) := by decide +kernel
theorem d38_237 : decode c38C 237 = .ok (.getfield 22, 3) := by decide +kernel
theorem d38_240 : decode c38C 240 = .ok (.iload 6, 2) := by decide +kernel
theorem d38_242 : decode c38C 242 = .ok (.lload_n 3, 1) := by decide +kernel
theorem d38_243 : decode c38C 243 = .ok (.lastore, 1) := by decide +kernel
theorem d38_244 : decode c38C 244 = .ok (.aload_n 0, 1) := by decide +kernel
theorem d38_245 : decode c38C 245 = .ok (.dup, 1) := by decide +kernel
theorem d38_246 : decode c38C 246 = .ok (.getfield 26, 3) := by decide +kernel
theorem d38_249 : decode c38C 249 = .ok (.iconst 1, 1) := by decide +kernel
theorem d38_250 : decode c38C 250 = .ok (.iadd, 1) := by decide +kernel
theorem d38_251 : decode c38C 251 = .ok (.putfield 26, 3) := by decide +kernel
theorem d38_254 : decode c38C 254 = .ok (.aload 7, 2) := by decide +kernel
theorem d38_256 : decode c38C 256 = .ok (.areturn, 1) := by decide +kernel
theorem ef_14 (m : MethodId) (x0 : Addr) (x1 : Int64) : entryFrame m #[(.ref x0), (.long x1)] 8 = mkF m 0 #[.val (.ref x0), .val (.long x1), .second, .unset, .unset, .unset, .unset, .unset] [] := by first | (simp [entryFrame, mkF, argsToLocals, Value.category]; done) | rfl
theorem rmLfN (l : Launch) (Z : State) (a0 : Array Value) (hw : TW Z a0) (b_ t_ A_ K_ m_ : Addr) (z_ cnt_ i_ at_ nn_ : Int32) (x_ : Int64) (ln_ : Nat) (af_ : Nat → Value) (ks_ : Nat → Int64) (h0 : Heap) (n0 : Nat) (Z0 : n0 ≤ h0.size) (hAB : Pays l Z (⟨"com/example/uncross/uncross/engine/BookSide", "atOrBelow", "(J)I"⟩ : MethodName) prog_15_method_15_code 7 (some .int) [] ({ frames := 1, cells := 0, slots := 0, locals := 16 } : Room) #[(.ref b_), (.long (own_key z_ x_))] h0 (fun v h L => v = some (.int i_) ∧ Fr n0 L ∧ h = h0)) (p0 : Exa Z h0 b_ k0C) (p1 : Fld Z h0 b_ k0C "buying" "Z" (.int z_)) (p2 : Fld Z h0 b_ k0C "levelCount" "I" (.int cnt_)) (p3 : Fld Z h0 b_ k0C "deep" k9C (.ref t_)) (p4 : Fld Z h0 b_ k0C "levels" k6C (.ref A_)) (p5 : Fld Z h0 b_ k0C "keys" "[J" (.ref K_)) (p6 : Fld Z h0 b_ k0C "markets" k5C (.ref m_)) (p7 : Fld Z h0 b_ k0C "emptyLevels" "I" (.int (0 : Int32))) (p8 : Exa Z h0 t_ k12C) (p9 : Fld Z h0 t_ k12C "size" "I" (.int (0 : Int32))) (p10 : Rbk Z h0 A_ k2C 64 af_) (p11 : Arf Z h0 K_ .long Value.long 64 ks_) (g0 : n0 ≤ b_) (g1 : n0 ≤ A_) (g2 : n0 ≤ K_) (hi : ¬ i_ < 0 ∧ i_.toNatClampNeg < 64) (hc5 : ¬ cnt_ = (512 : Int32)) (hc6 : ¬ cnt_ = (64 : Int32)) (hq : ¬ (ks_ i_.toNatClampNeg) = (own_key z_ x_)) (hat : i_ + (1 : Int32) = at_) (ha : ¬ at_ < 0 ∧ at_.toNatClampNeg + 1 + ln_ ≤ 64) (ha2 : ¬ (at_ + (1 : Int32)) < 0 ∧ (at_ + (1 : Int32)).toNatClampNeg = at_.toNatClampNeg + 1) (hnn : cnt_ - at_ = nn_) (hn3 : ¬ nn_ < 0 ∧ nn_.toNatClampNeg = ln_) (hsto : StoL Z h0 A_ ((List.range ln_).map fun i => af_ (at_.toNatClampNeg + i))) :
    Pays l Z (⟨"com/example/uncross/uncross/engine/BookSide", "levelFor", "(J)Lcom/example/uncross/uncross/engine/BookSide$Level;"⟩ : MethodName) prog_15_method_9_code 8 (some (.object "com/example/uncross/uncross/engine/BookSide$Level")) [] ({ frames := 2, cells := 1, slots := 4, locals := 40 } : Room) #[(.ref b_), (.long x_)] h0 (fun v h L => ∃ (n0_ : Addr), v = some (.ref n0_) ∧ Fr n0 L ∧ Keep h0 h [b_, A_, K_] ∧ Exa Z h b_ k0C ∧ Fld Z h b_ k0C "buying" "Z" (.int z_) ∧ Fld Z h b_ k0C "levelCount" "I" (.int (cnt_ + (1 : Int32))) ∧ Fld Z h b_ k0C "deep" k9C (.ref t_) ∧ Fld Z h b_ k0C "levels" k6C (.ref A_) ∧ Fld Z h b_ k0C "keys" "[J" (.ref K_) ∧ Fld Z h b_ k0C "markets" k5C (.ref m_) ∧ Fld Z h b_ k0C "emptyLevels" "I" (.int (0 : Int32)) ∧ Rbk Z h A_ k2C 64 (Upd (Shf af_ at_.toNatClampNeg ln_) at_.toNatClampNeg (.ref n0_)) ∧ Arf Z h K_ .long Value.long 64 (Upd (Shf ks_ at_.toNatClampNeg ln_) at_.toNatClampNeg (own_key z_ x_)) ∧ Exa Z h n0_ k2C ∧ Fld Z h n0_ k2C "first" k4C .null ∧ Fld Z h n0_ k2C "last" k4C .null ∧ Fld Z h n0_ k2C "deep" "Z" (.int (0 : Int32)) ∧ h0.size ≤ n0_) := by
  refine Pays.walk (plainFor_of_name pn_13) (fun m => ef_14 m b_ x_ ) ?_
  intro p e s m below meth c T0 X0 hx hby hml hown hnm hZ e0 hret hlk
  have dc := @Jvm.hb _ _ hby
  have ow := @own_w Z a0 hw
  have K0 := Keep.refl h0 ([b_, A_, K_] : List Addr)
  have ne2 : b_ ≠ A_ := Rbk.neE p10 p0 (ow 166 rfl)
  have ne3 : b_ ≠ K_ := Arf.neE p11 p0 (ow 166 rfl)
  have ne6 : A_ ≠ K_ := rk_ne p10 p11
  refine Goes.on (T' := T0) (g' := (mkF m 2 #[sR b_, sJ x_, s2, su, su, su, su, su] [(.long x_), (.ref b_)])) (fun _ k => XS.aloadN X0.here hx rfl (dc d38_0) rfl rfl (XS.lloadN X0.here hx rfl (dc d38_1) rfl k)) ?_
  refine Goes.callP X0 hx hZ 0 hown (ow 262 rfl) (ow 263 rfl) (ow 264 rfl) (ow 166 rfl) (ow 167 rfl) (ow 265 rfl) (by decide) e0 p0 (rmKy l Z a0 hw b_ z_ x_ h0 n0 Z0 p1) (by decide) (by decide) (by decide) (by decide) rfl (by rw [hml]; rfl) (argsL := [(.long x_)]) (rest := []) rfl (lenOf pd_19 rfl) rfl (own_le20 rfl) (dc d38_2) ?_
  rintro v7 T7 L7 X7 ⟨rfl, N7q, e7⟩
  show Goes p e below _ T7 (mkF m 5 #[sR b_, sJ x_, s2, su, su, su, su, su] [(.long (own_key z_ x_))])
  obtain ⟨T8, X8, e8, st8⟩ := getF X7 hx hZ hown (host := "") (Or.inl (ow 189 rfl)) Via.refl e7 p2 (g := (mkF m 7 #[sR b_, sJ x_, s2, sJ (own_key z_ x_), s2, su, su, su] [(.ref b_)])) rfl rfl (dc d38_7)
  obtain ⟨T9, X9, e9, st9⟩ := getF X8 hx hZ hown (host := "") (Or.inl (ow 210 rfl)) Via.refl e8 p3 (g := (mkF m 17 #[sR b_, sJ x_, s2, sJ (own_key z_ x_), s2, su, su, su] [(.ref b_)])) rfl rfl (dc d38_17)
  refine Goes.on (T' := T9) (g' := (mkF m 20 #[sR b_, sJ x_, s2, sJ (own_key z_ x_), s2, su, su, su] [(.ref t_)])) (fun _ k => XS.lstoreN X7.here hx rfl (dc d38_5) rfl (l' := #[sR b_, sJ x_, s2, sJ (own_key z_ x_), s2, su, su, su]) rfl (XS.aloadN X7.here hx rfl (dc d38_6) rfl rfl (st8 _ (XS.sipush X8.here hx rfl (dc d38_10) (XS.icmpNo X8.here hx rfl (dc d38_13) rfl (XT.ii_eq_f hc5) (XS.aloadN X8.here hx rfl (dc d38_16) rfl rfl (st9 _ k))))))) ?_
  refine Goes.callU X9 hx hZ 0 hown (ow 266 rfl) (ow 267 rfl) (ow 268 rfl) (by decide) (ow 270 rfl) (ow 269 rfl) (ow 201 rfl) (ow 271 rfl) e9 p8 (rmTq l Z a0 hw t_ h0 n0 Z0  p8 p9 ) (by decide) (by decide) (by decide) (by decide) rfl (by rw [hml]; rfl) (argsL := []) (rest := []) rfl (lenOf pd_3 rfl) rfl (own_le20 rfl) (dc d38_20) ?_
  rintro v10 T10 L10 X10 ⟨rfl, N10q, e10⟩
  show Goes p e below _ T10 (mkF m 23 #[sR b_, sJ x_, s2, sJ (own_key z_ x_), s2, su, su, su] [(.int 1)])
  refine Goes.on (T' := T10) (g' := (mkF m 45 #[sR b_, sJ x_, s2, sJ (own_key z_ x_), s2, su, su, su] [(.long (own_key z_ x_)), (.ref b_)])) (fun _ k => XS.ifYes X10.here hx rfl (pc0 := 23) (pc' := 43) rfl (dc d38_23) rfl (XT.i0_ne_t (by decide)) (by decide) (by decide) (XS.aloadN X10.here hx rfl (dc d38_43) rfl rfl (XS.lloadN X10.here hx rfl (dc d38_44) rfl k))) ?_
  refine Goes.callP X10 hx hZ 0 hown (ow 278 rfl) (ow 279 rfl) (ow 280 rfl) (ow 166 rfl) (ow 167 rfl) (ow 281 rfl) (by decide) e10 p0 (hAB) (by decide) (by decide) (by decide) (by decide) rfl (by rw [hml]; rfl) (argsL := [(.long (own_key z_ x_))]) (rest := []) rfl (lenOf pd_20 rfl) rfl (own_le20 rfl) (dc d38_45) ?_
  rintro v11 T11 L11 X11 ⟨rfl, N11q, e11⟩
  have N11 := Fr.app (Fr.app (Fr.app (Fr.nil n0) N7q) N10q) N11q
  show Goes p e below _ T11 (mkF m 48 #[sR b_, sJ x_, s2, sJ (own_key z_ x_), s2, su, su, su] [(.int i_)])
  obtain ⟨T12, X12, e12, st12⟩ := getF X11 hx hZ hown (host := "") (Or.inl (ow 187 rfl)) Via.refl e11 p5 (g := (mkF m 51 #[sR b_, sJ x_, s2, sJ (own_key z_ x_), s2, sI i_, su, su] [(.ref b_)])) rfl rfl (dc d38_51)
  refine Goes.on (T' := T12) (g' := (mkF m 96 #[sR b_, sJ x_, s2, sJ (own_key z_ x_), s2, sI i_, su, su] [(.int (i_ + (1 : Int32)))])) (fun _ k => XS.istore X11.here hx rfl (dc d38_48) rfl (l' := #[sR b_, sJ x_, s2, sJ (own_key z_ x_), s2, sI i_, su, su]) rfl (XS.aloadN X11.here hx rfl (dc d38_50) rfl rfl (st12 _ (XS.iload X12.here hx rfl (dc d38_54) rfl (ldJm X12 hx hZ e12 p11 hi (dc d38_56) (XS.lloadN X12.here hx rfl (dc d38_57) rfl (XT.lcmp X12.here hx rfl (dc d38_58) rfl (XS.ifYes X12.here hx rfl (pc0 := 59) (pc' := 92) rfl (dc d38_59) rfl (XT.ll_ne_t hq) (by decide) (by decide) (XS.iload X12.here hx rfl (dc d38_92) rfl (XS.iconst X12.here hx rfl (dc d38_94) (XS.iadd X12.here hx rfl (dc d38_95) rfl k))))))))))) ?_
  rw [hat]
  obtain ⟨T14, X14, e14, st14⟩ := getF X12 hx hZ hown (host := "") (Or.inl (ow 189 rfl)) Via.refl e12 p2 (g := (mkF m 99 #[sR b_, sJ x_, s2, sJ (own_key z_ x_), s2, sI i_, sI at_, su] [(.ref b_)])) rfl rfl (dc d38_99)
  obtain ⟨T15, X15, e15, st15⟩ := getF X14 hx hZ hown (host := "") (Or.inl (ow 189 rfl)) Via.refl e14 p2 (g := (mkF m 116 #[sR b_, sJ x_, s2, sJ (own_key z_ x_), s2, sI i_, sI at_, su] [(.ref b_)])) rfl rfl (dc d38_116)
  obtain ⟨T16, X16, e16, st16⟩ := getF X15 hx hZ hown (host := "") (Or.inl (ow 184 rfl)) Via.refl e15 p4 (g := (mkF m 120 #[sR b_, sJ x_, s2, sJ (own_key z_ x_), s2, sI i_, sI at_, su] [(.ref b_), (.int cnt_)])) rfl rfl (dc d38_120)
  obtain ⟨T18, X18, e18, st18⟩ := getF X16 hx hZ hown (host := "") (Or.inl (ow 184 rfl)) Via.refl e16 p4 (g := (mkF m 170 #[sR b_, sJ x_, s2, sJ (own_key z_ x_), s2, sI i_, sI at_, su] [(.ref b_)])) rfl rfl (dc d38_170)
  obtain ⟨T19, X19, e19, st19⟩ := getF X18 hx hZ hown (host := "") (Or.inl (ow 184 rfl)) Via.refl e18 p4 (g := (mkF m 176 #[sR b_, sJ x_, s2, sJ (own_key z_ x_), s2, sI i_, sI at_, su] [(.ref b_), (.int at_), (.ref A_)])) rfl rfl (dc d38_176)
  obtain ⟨T20, X20, e20, st20⟩ := getF X19 hx hZ hown (host := "") (Or.inl (ow 189 rfl)) Via.refl e19 p2 (g := (mkF m 184 #[sR b_, sJ x_, s2, sJ (own_key z_ x_), s2, sI i_, sI at_, su] [(.ref b_), (.int (at_ + (1 : Int32))), (.ref A_), (.int at_), (.ref A_)])) rfl rfl (dc d38_184)
  refine Goes.on (T' := T20) (g' := (mkF m 190 #[sR b_, sJ x_, s2, sJ (own_key z_ x_), s2, sI i_, sI at_, su] [(.int (cnt_ - at_)), (.int (at_ + (1 : Int32))), (.ref A_), (.int at_), (.ref A_)])) (fun _ k => XS.istore X12.here hx rfl (dc d38_96) rfl (l' := #[sR b_, sJ x_, s2, sJ (own_key z_ x_), s2, sI i_, sI at_, su]) rfl (XS.aloadN X12.here hx rfl (dc d38_98) rfl rfl (st14 _ (XS.sipush X14.here hx rfl (dc d38_102) (XS.icmpYes X14.here hx rfl (pc0 := 105) (pc' := 115) rfl (dc d38_105) rfl (XT.ii_ne_t hc5) (by decide) (by decide) (XS.aloadN X14.here hx rfl (dc d38_115) rfl rfl (st15 _ (XS.aloadN X15.here hx rfl (dc d38_119) rfl rfl (st16 _ (lenRm X16 hx hZ e16 p10 (dc d38_123) (XS.icmpYes X16.here hx rfl (pc0 := 124) (pc' := 169) rfl (dc d38_124) rfl (XT.ii_ne_t hc6) (by decide) (by decide) (XS.aloadN X16.here hx rfl (dc d38_169) rfl rfl (st18 _ (XS.iload X18.here hx rfl (dc d38_173) rfl (XS.aloadN X18.here hx rfl (dc d38_175) rfl rfl (st19 _ (XS.iload X19.here hx rfl (dc d38_179) rfl (XS.iconst X19.here hx rfl (dc d38_181) (XS.iadd X19.here hx rfl (dc d38_182) rfl (XS.aloadN X19.here hx rfl (dc d38_183) rfl rfl (st20 _ (XS.iload X20.here hx rfl (dc d38_187) rfl (XS.isub X20.here hx rfl (dc d38_189) rfl k))))))))))))))))))))))) ?_
  rw [hnn]
  obtain ⟨T21, h21, L21, X21, e21, N21, K21, B21, st21⟩ := acR X20 hx hZ hown (ow 282 rfl) (ow 285 rfl) (ow 283 rfl) (ow 284 rfl) e20 p10 (sp' := at_.toNatClampNeg) (dp' := at_.toNatClampNeg + 1) (len := ln_) ⟨ha.1, rfl⟩ ha2 hn3 (by omega) (by omega) (by decide) hsto N11 g1 (g := (mkF m 190 #[sR b_, sJ x_, s2, sJ (own_key z_ x_), s2, sI i_, sI at_, su] [(.int nn_), (.int (at_ + (1 : Int32))), (.ref A_), (.int at_), (.ref A_)])) rfl (by rw [hml]; rfl) rfl (dc d38_190) (by decide) (W := 0) (own_le20 rfl) (by decide)
  have C24 := p2.keep K21 (ninS ne2 nin0)
  have C27 := p5.keep K21 (ninS ne2 nin0)
  have C32 := p11.keep K21 (ninS ne6.symm nin0)
  have Z33 := Nat.le_trans Z0 K21.1
  have K34 := K0.trans K21 (allS (Or.inl (List.mem_of_getElem? (i := 1) rfl)) all0)
  have B21 : Rbk Z h21 A_ "com/example/uncross/uncross/engine/BookSide$Level" 64 (Shf af_ at_.toNatClampNeg ln_) := B21
  obtain ⟨T35, X35, e35, st35⟩ := getF X21 hx hZ hown (host := "") (Or.inl (ow 187 rfl)) Via.refl e21 C27 (g := (mkF m 194 #[sR b_, sJ x_, s2, sJ (own_key z_ x_), s2, sI i_, sI at_, su] [(.ref b_)])) rfl rfl (dc d38_194)
  obtain ⟨T36, X36, e36, st36⟩ := getF X35 hx hZ hown (host := "") (Or.inl (ow 187 rfl)) Via.refl e35 C27 (g := (mkF m 200 #[sR b_, sJ x_, s2, sJ (own_key z_ x_), s2, sI i_, sI at_, su] [(.ref b_), (.int at_), (.ref K_)])) rfl rfl (dc d38_200)
  obtain ⟨T37, X37, e37, st37⟩ := getF X36 hx hZ hown (host := "") (Or.inl (ow 189 rfl)) Via.refl e36 C24 (g := (mkF m 208 #[sR b_, sJ x_, s2, sJ (own_key z_ x_), s2, sI i_, sI at_, su] [(.ref b_), (.int (at_ + (1 : Int32))), (.ref K_), (.int at_), (.ref K_)])) rfl rfl (dc d38_208)
  refine Goes.on (T' := T37) (g' := (mkF m 214 #[sR b_, sJ x_, s2, sJ (own_key z_ x_), s2, sI i_, sI at_, su] [(.int (cnt_ - at_)), (.int (at_ + (1 : Int32))), (.ref K_), (.int at_), (.ref K_)])) (fun _ k => st21 _ (XS.aloadN X21.here hx rfl (dc d38_193) rfl rfl (st35 _ (XS.iload X35.here hx rfl (dc d38_197) rfl (XS.aloadN X35.here hx rfl (dc d38_199) rfl rfl (st36 _ (XS.iload X36.here hx rfl (dc d38_203) rfl (XS.iconst X36.here hx rfl (dc d38_205) (XS.iadd X36.here hx rfl (dc d38_206) rfl (XS.aloadN X36.here hx rfl (dc d38_207) rfl rfl (st37 _ (XS.iload X37.here hx rfl (dc d38_211) rfl (XS.isub X37.here hx rfl (dc d38_213) rfl k))))))))))))) ?_
  rw [hnn]
  obtain ⟨T38, h38, L38, X38, e38, N38, K38, B38, st38⟩ := acA X37 hx hZ hown (ow 282 rfl) (ow 285 rfl) (ow 283 rfl) (ow 284 rfl) e37 C32 rfl (fun _ => rfl) (sp' := at_.toNatClampNeg) (dp' := at_.toNatClampNeg + 1) (len := ln_) ⟨ha.1, rfl⟩ ha2 hn3 (by omega) (by omega) (by decide) N21 g2 (g := (mkF m 214 #[sR b_, sJ x_, s2, sJ (own_key z_ x_), s2, sI i_, sI at_, su] [(.int nn_), (.int (at_ + (1 : Int32))), (.ref K_), (.int at_), (.ref K_)])) rfl (by rw [hml]; rfl) rfl (dc d38_214) (by decide) (W := 0) (own_le20 rfl) (by decide)
  have C39 := (p0.keep K21).keep K38
  have C49 := B21.keep K38 (ninS ne6 nin0)
  have Z50 := Nat.le_trans Z33 K38.1
  have K51 := K34.trans K38 (allS (Or.inl (List.mem_of_getElem? (i := 2) rfl)) all0)
  have B38 : Arf Z h38 K_ .long Value.long 64 (Shf ks_ at_.toNatClampNeg ln_) := B38
  obtain ⟨T52, h52, X52, e52, E52, A52, D52, U52, st52⟩ := newO X38 hx hZ hown (ow 172 rfl) (ow 173 rfl) (ow 174 rfl) e38 (g := (mkF m 217 #[sR b_, sJ x_, s2, sJ (own_key z_ x_), s2, sI i_, sI at_, su] [])) rfl (dc d38_217) (by decide) (by decide)
  obtain ⟨a52, g52⟩ : ∃ z, z = h38.size := ⟨_, rfl⟩
  rw [← g52] at A52 D52 U52 st52
  have M52 : h0.size ≤ a52 := Nat.le_trans K51.1 (Nat.le_of_eq g52.symm)
  have ne65 := own_neG C39.lt g52
  have ne67 := own_neG C49.lt g52
  have ne68 := own_neG B38.lt g52
  have Z69 := Nat.le_trans Z50 E52.1
  have K70 := K51.ext E52
  have F71 : Fld Z h52 a52 "com/example/uncross/uncross/engine/BookSide$Level" "first" "Lcom/example/uncross/uncross/engine/BookSide$Resting;" .null := D52 (Or.inl (ow 224 rfl)) (ty := (.object "com/example/uncross/uncross/engine/BookSide$Resting")) (by decide)
  have F72 : Fld Z h52 a52 "com/example/uncross/uncross/engine/BookSide$Level" "last" "Lcom/example/uncross/uncross/engine/BookSide$Resting;" .null := D52 (Or.inl (ow 249 rfl)) (ty := (.object "com/example/uncross/uncross/engine/BookSide$Resting")) (by decide)
  have F73 : Fld Z h52 a52 "com/example/uncross/uncross/engine/BookSide$Level" "deep" "Z" (.int 0) := D52 (Or.inl (ow 301 rfl)) (ty := .boolean) (by decide)
  have F74 : Fld Z h52 a52 "com/example/uncross/uncross/engine/BookSide$Level" "key" "J" (.long 0) := D52 (Or.inr (ow 180 rfl)) (ty := .long) (by decide)
  have G52 : n0 ≤ a52 := Nat.le_trans Z50 (Nat.le_of_eq g52.symm)
  refine Goes.on (T' := T52) (g' := (mkF m 222 #[sR b_, sJ x_, s2, sJ (own_key z_ x_), s2, sI i_, sI at_, su] [(.long (own_key z_ x_)), (.ref a52), (.ref a52)])) (fun _ k => st38 _ (st52 _ (XS.dup X52.here hx rfl (dc d38_220) rfl rfl (XS.lloadN X52.here hx rfl (dc d38_221) rfl k)))) ?_
  refine Goes.callC X52 hx hZ 1 rfl hown (ow 175 rfl) (ow 176 rfl) (ow 174 rfl) (ow 177 rfl) (by decide) e52 (rmLv l Z a0 hw a52 (own_key z_ x_) h52 n0 Z69 A52 G52 F71 F72 F73 F74) (by decide) (by decide) (by decide) (by decide) rfl (by rw [hml]; rfl) (a := a52) (argsL := [(.long (own_key z_ x_))]) (rest := [(.ref a52)]) rfl (lenOf pd_13 rfl) rfl (own_le20 rfl) (dc d38_222) ?_
  rintro v75 T75 L75 X75 ⟨rfl, N75q, K75, A75, B75_first, B75_last, B75_deep, B75_key⟩
  show Goes p e below _ T75 (mkF m 225 #[sR b_, sJ x_, s2, sJ (own_key z_ x_), s2, sI i_, sI at_, su] [(.ref a52)])
  have C80 := (((p4.keep K21 (ninS ne2 nin0)).keep K38 (ninS ne3 nin0)).ext E52).keep K75 (ninS ne65 nin0)
  have C86 := (C49.ext E52).keep K75 (ninS ne67 nin0)
  have K90 := K70.trans K75 (allS (Or.inr M52) all0)
  obtain ⟨T91, X91, e91, st91⟩ := getF X75 hx hZ hown (host := "") (Or.inl (ow 184 rfl)) Via.refl rfl C80 (g := (mkF m 228 #[sR b_, sJ x_, s2, sJ (own_key z_ x_), s2, sI i_, sI at_, sR a52] [(.ref b_)])) rfl rfl (dc d38_228)
  obtain ⟨T92, h92, X92, e92, W92, B92, st92⟩ := wrR X91 hx hZ e91 C86 (Or.inr ⟨_, rfl, Ins.self A75⟩) ⟨ha.1, by omega⟩ (g := (mkF m 235 #[sR b_, sJ x_, s2, sJ (own_key z_ x_), s2, sI i_, sI at_, sR a52] [(.ref a52), (.int at_), (.ref A_)])) rfl rfl (dc d38_235)
  have C98 := (((C27.keep K38 (ninS ne3 nin0)).ext E52).keep K75 (ninS ne65 nin0)).other W92 (Or.inl ne2)
  have C103 := ((B38.ext E52).keep K75 (ninS ne68 nin0)).other W92 ne6.symm
  have K110 := K90.wr W92 (Or.inl (List.mem_of_getElem? (i := 1) rfl))
  have B92 : Rbk Z h92 A_ "com/example/uncross/uncross/engine/BookSide$Level" 64 (Upd (Shf af_ at_.toNatClampNeg ln_) at_.toNatClampNeg (.ref a52)) := B92
  obtain ⟨T111, X111, e111, st111⟩ := getF X92 hx hZ hown (host := "") (Or.inl (ow 187 rfl)) Via.refl e92 C98 (g := (mkF m 237 #[sR b_, sJ x_, s2, sJ (own_key z_ x_), s2, sI i_, sI at_, sR a52] [(.ref b_)])) rfl rfl (dc d38_237)
  obtain ⟨T112, h112, X112, e112, W112, B112, st112⟩ := wrJ X111 hx hZ e111 C103 ⟨ha.1, by omega⟩  (g := (mkF m 243 #[sR b_, sJ x_, s2, sJ (own_key z_ x_), s2, sI i_, sI at_, sR a52] [(.long (own_key z_ x_)), (.int at_), (.ref K_)])) rfl rfl (dc d38_243)
  have C113 := (((C39.ext E52).keep K75).wr W92).wr W112
  have C115 := ((((C24.keep K38 (ninS ne3 nin0)).ext E52).keep K75 (ninS ne65 nin0)).other W92 (Or.inl ne2)).other W112 (Or.inl ne3)
  have K130 := K110.wr W112 (Or.inl (List.mem_of_getElem? (i := 2) rfl))
  have B112 : Arf Z h112 K_ .long Value.long 64 (Upd (Shf ks_ at_.toNatClampNeg ln_) at_.toNatClampNeg (own_key z_ x_)) := B112
  obtain ⟨T131, X131, e131, st131⟩ := getF X112 hx hZ hown (host := "") (Or.inl (ow 189 rfl)) Via.refl e112 C115 (g := (mkF m 246 #[sR b_, sJ x_, s2, sJ (own_key z_ x_), s2, sI i_, sI at_, sR a52] [(.ref b_), (.ref b_)])) rfl rfl (dc d38_246)
  obtain ⟨T132, h132, X132, e132, W132, st132⟩ := putF X131 hx hZ hown (host := "") (Or.inl (ow 189 rfl)) Via.refl e131 C115 C113 (Or.inl (ow 190 rfl)) (ow 166 rfl) (ty := .int) (by decide) rfl rfl (g := (mkF m 251 #[sR b_, sJ x_, s2, sJ (own_key z_ x_), s2, sI i_, sI at_, sR a52] [(.int (cnt_ + (1 : Int32))), (.ref b_)])) rfl rfl (dc d38_251)
  have N132 := Fr.snoc X132 (Fr.snoc X112 (Fr.snoc X92 (Fr.app N38 N75q) g1) g2) g0
  have C133 := C113.wr W132
  have C134 := ((((((p1.keep K21 (ninS ne2 nin0)).keep K38 (ninS ne3 nin0)).ext E52).keep K75 (ninS ne65 nin0)).other W92 (Or.inl ne2)).other W112 (Or.inl ne3)).other W132 (Or.inr (sn70 hw))
  have C135 := C115.same W132
  have C136 := ((((((p3.keep K21 (ninS ne2 nin0)).keep K38 (ninS ne3 nin0)).ext E52).keep K75 (ninS ne65 nin0)).other W92 (Or.inl ne2)).other W112 (Or.inl ne3)).other W132 (Or.inr (sn69 hw))
  have C137 := ((C80.other W92 (Or.inl ne2)).other W112 (Or.inl ne3)).other W132 (Or.inr (sn65 hw))
  have C138 := (C98.other W112 (Or.inl ne3)).other W132 (Or.inr (sn66 hw))
  have C139 := ((((((p6.keep K21 (ninS ne2 nin0)).keep K38 (ninS ne3 nin0)).ext E52).keep K75 (ninS ne65 nin0)).other W92 (Or.inl ne2)).other W112 (Or.inl ne3)).other W132 (Or.inr (sn68 hw))
  have C140 := ((((((p7.keep K21 (ninS ne2 nin0)).keep K38 (ninS ne3 nin0)).ext E52).keep K75 (ninS ne65 nin0)).other W92 (Or.inl ne2)).other W112 (Or.inl ne3)).other W132 (Or.inr (sn67 hw))
  have C143 := (B92.other W112 ne6).other W132 ne2.symm
  have C144 := B112.other W132 ne3.symm
  have C145 := ((A75.wr W92).wr W112).wr W132
  have C146 := ((B75_first.other W92 (Or.inl ne67.symm)).other W112 (Or.inl ne68.symm)).other W132 (Or.inl ne65.symm)
  have C147 := ((B75_last.other W92 (Or.inl ne67.symm)).other W112 (Or.inl ne68.symm)).other W132 (Or.inl ne65.symm)
  have C148 := ((B75_deep.other W92 (Or.inl ne67.symm)).other W112 (Or.inl ne68.symm)).other W132 (Or.inl ne65.symm)
  have K151 := K130.wr W132 (Or.inl (List.mem_of_getElem? (i := 0) rfl))
  refine Goes.on (T' := T132) (g' := (mkF m 256 #[sR b_, sJ x_, s2, sJ (own_key z_ x_), s2, sI i_, sI at_, sR a52] [(.ref a52)])) (fun _ k => XS.astore X75.here hx rfl (dc d38_225) rfl rfl (l' := #[sR b_, sJ x_, s2, sJ (own_key z_ x_), s2, sI i_, sI at_, sR a52]) rfl (XS.aloadN X75.here hx rfl (dc d38_227) rfl rfl (st91 _ (XS.iload X91.here hx rfl (dc d38_231) rfl (XS.aload X91.here hx rfl (dc d38_233) rfl rfl (st92 _ (XS.aloadN X92.here hx rfl (dc d38_236) rfl rfl (st111 _ (XS.iload X111.here hx rfl (dc d38_240) rfl (XS.lloadN X111.here hx rfl (dc d38_242) rfl (st112 _ (XS.aloadN X112.here hx rfl (dc d38_244) rfl rfl (XS.dup X112.here hx rfl (dc d38_245) rfl rfl (st131 _ (XS.iconst X131.here hx rfl (dc d38_249) (XS.iadd X131.here hx rfl (dc d38_250) rfl (st132 _ (XS.aload X132.here hx rfl (dc d38_254) rfl rfl k)))))))))))))))))) ?_
  exact Goes.retA X132 hx hlk hret rfl rfl (dc d38_256) (by decide) (by decide) (by rw [e132]; exact ⟨a52, rfl, N132, K151, C133, C134, C135, C136, C137, C138, C139, C140, C143, C144, C145, C146, C147, C148, M52⟩)
theorem d38_62 : decode c38C 62 = .ok (.aload_n 0, 1) := by decide +kernel
theorem d38_63 : decode c38C 63 = .ok (.getfield 18, 3) := by decide +kernel
theorem d38_66 : decode c38C 66 = .ok (.iload 5, 2) := by decide +kernel
theorem d38_68 : decode c38C 68 = .ok (.aaload, 1) := by decide +kernel
theorem d38_69 : decode c38C 69 = .ok (.astore 6, 2) := by decide +kernel
theorem d38_71 : decode c38C 71 = .ok (.aload 6, 2) := by decide +kernel
theorem d38_73 : decode c38C 73 = .ok (.getfield 51, 3) := by decide +kernel
theorem d38_76 : decode c38C 76 = .ok (.ifnonnull 13, 3) := by decide +kernel
theorem d38_89 : decode c38C 89 = .ok (.aload 6, 2) := by decide +kernel
theorem d38_91 : decode c38C 91 = .ok (.areturn, 1) := by decide +kernel
theorem rmLfX (l : Launch) (Z : State) (a0 : Array Value) (hw : TW Z a0) (b_ t_ A_ K_ m_ l_ f_ : Addr) (z_ cnt_ i_ : Int32) (x_ : Int64) (af_ : Nat → Value) (ks_ : Nat → Int64) (h0 : Heap) (n0 : Nat) (Z0 : n0 ≤ h0.size) (hAB : Pays l Z (⟨"com/example/uncross/uncross/engine/BookSide", "atOrBelow", "(J)I"⟩ : MethodName) prog_15_method_15_code 7 (some .int) [] ({ frames := 1, cells := 0, slots := 0, locals := 16 } : Room) #[(.ref b_), (.long (own_key z_ x_))] h0 (fun v h L => v = some (.int i_) ∧ Fr n0 L ∧ h = h0)) (p0 : Exa Z h0 b_ k0C) (p1 : Fld Z h0 b_ k0C "buying" "Z" (.int z_)) (p2 : Fld Z h0 b_ k0C "levelCount" "I" (.int cnt_)) (p3 : Fld Z h0 b_ k0C "deep" k9C (.ref t_)) (p4 : Fld Z h0 b_ k0C "levels" k6C (.ref A_)) (p5 : Fld Z h0 b_ k0C "keys" "[J" (.ref K_)) (p6 : Fld Z h0 b_ k0C "markets" k5C (.ref m_)) (p7 : Fld Z h0 b_ k0C "emptyLevels" "I" (.int (0 : Int32))) (p8 : Exa Z h0 t_ k12C) (p9 : Fld Z h0 t_ k12C "size" "I" (.int (0 : Int32))) (p10 : Rbk Z h0 A_ k2C 64 af_) (p11 : Arf Z h0 K_ .long Value.long 64 ks_) (p12 : Exa Z h0 l_ k2C) (p13 : Fld Z h0 l_ k2C "first" k4C (.ref f_)) (hi : ¬ i_ < 0 ∧ i_.toNatClampNeg < 64) (hc5 : ¬ cnt_ = (512 : Int32)) (hq : (ks_ i_.toNatClampNeg) = (own_key z_ x_)) (hL : af_ i_.toNatClampNeg = .ref l_) :
    Pays l Z (⟨"com/example/uncross/uncross/engine/BookSide", "levelFor", "(J)Lcom/example/uncross/uncross/engine/BookSide$Level;"⟩ : MethodName) prog_15_method_9_code 8 (some (.object "com/example/uncross/uncross/engine/BookSide$Level")) [] ({ frames := 2, cells := 1, slots := 4, locals := 40 } : Room) #[(.ref b_), (.long x_)] h0 (fun v h L => v = some (.ref l_) ∧ Fr n0 L ∧ h = h0) := by
  refine Pays.walk (plainFor_of_name pn_13) (fun m => ef_14 m b_ x_ ) ?_
  intro p e s m below meth c T0 X0 hx hby hml hown hnm hZ e0 hret hlk
  have dc := @Jvm.hb _ _ hby
  have ow := @own_w Z a0 hw
  refine Goes.on (T' := T0) (g' := (mkF m 2 #[sR b_, sJ x_, s2, su, su, su, su, su] [(.long x_), (.ref b_)])) (fun _ k => XS.aloadN X0.here hx rfl (dc d38_0) rfl rfl (XS.lloadN X0.here hx rfl (dc d38_1) rfl k)) ?_
  refine Goes.callP X0 hx hZ 0 hown (ow 262 rfl) (ow 263 rfl) (ow 264 rfl) (ow 166 rfl) (ow 167 rfl) (ow 265 rfl) (by decide) e0 p0 (rmKy l Z a0 hw b_ z_ x_ h0 n0 Z0 p1) (by decide) (by decide) (by decide) (by decide) rfl (by rw [hml]; rfl) (argsL := [(.long x_)]) (rest := []) rfl (lenOf pd_19 rfl) rfl (own_le20 rfl) (dc d38_2) ?_
  rintro v11 T11 L11 X11 ⟨rfl, N11q, e11⟩
  show Goes p e below _ T11 (mkF m 5 #[sR b_, sJ x_, s2, su, su, su, su, su] [(.long (own_key z_ x_))])
  obtain ⟨T12, X12, e12, st12⟩ := getF X11 hx hZ hown (host := "") (Or.inl (ow 189 rfl)) Via.refl e11 p2 (g := (mkF m 7 #[sR b_, sJ x_, s2, sJ (own_key z_ x_), s2, su, su, su] [(.ref b_)])) rfl rfl (dc d38_7)
  obtain ⟨T13, X13, e13, st13⟩ := getF X12 hx hZ hown (host := "") (Or.inl (ow 210 rfl)) Via.refl e12 p3 (g := (mkF m 17 #[sR b_, sJ x_, s2, sJ (own_key z_ x_), s2, su, su, su] [(.ref b_)])) rfl rfl (dc d38_17)
  refine Goes.on (T' := T13) (g' := (mkF m 20 #[sR b_, sJ x_, s2, sJ (own_key z_ x_), s2, su, su, su] [(.ref t_)])) (fun _ k => XS.lstoreN X11.here hx rfl (dc d38_5) rfl (l' := #[sR b_, sJ x_, s2, sJ (own_key z_ x_), s2, su, su, su]) rfl (XS.aloadN X11.here hx rfl (dc d38_6) rfl rfl (st12 _ (XS.sipush X12.here hx rfl (dc d38_10) (XS.icmpNo X12.here hx rfl (dc d38_13) rfl (XT.ii_eq_f hc5) (XS.aloadN X12.here hx rfl (dc d38_16) rfl rfl (st13 _ k))))))) ?_
  refine Goes.callU X13 hx hZ 0 hown (ow 266 rfl) (ow 267 rfl) (ow 268 rfl) (by decide) (ow 270 rfl) (ow 269 rfl) (ow 201 rfl) (ow 271 rfl) e13 p8 (rmTq l Z a0 hw t_ h0 n0 Z0  p8 p9 ) (by decide) (by decide) (by decide) (by decide) rfl (by rw [hml]; rfl) (argsL := []) (rest := []) rfl (lenOf pd_3 rfl) rfl (own_le20 rfl) (dc d38_20) ?_
  rintro v14 T14 L14 X14 ⟨rfl, N14q, e14⟩
  show Goes p e below _ T14 (mkF m 23 #[sR b_, sJ x_, s2, sJ (own_key z_ x_), s2, su, su, su] [(.int 1)])
  refine Goes.on (T' := T14) (g' := (mkF m 45 #[sR b_, sJ x_, s2, sJ (own_key z_ x_), s2, su, su, su] [(.long (own_key z_ x_)), (.ref b_)])) (fun _ k => XS.ifYes X14.here hx rfl (pc0 := 23) (pc' := 43) rfl (dc d38_23) rfl (XT.i0_ne_t (by decide)) (by decide) (by decide) (XS.aloadN X14.here hx rfl (dc d38_43) rfl rfl (XS.lloadN X14.here hx rfl (dc d38_44) rfl k))) ?_
  refine Goes.callP X14 hx hZ 0 hown (ow 278 rfl) (ow 279 rfl) (ow 280 rfl) (ow 166 rfl) (ow 167 rfl) (ow 281 rfl) (by decide) e14 p0 (hAB) (by decide) (by decide) (by decide) (by decide) rfl (by rw [hml]; rfl) (argsL := [(.long (own_key z_ x_))]) (rest := []) rfl (lenOf pd_20 rfl) rfl (own_le20 rfl) (dc d38_45) ?_
  rintro v15 T15 L15 X15 ⟨rfl, N15q, e15⟩
  have N15 := Fr.app (Fr.app (Fr.app (Fr.nil n0) N11q) N14q) N15q
  show Goes p e below _ T15 (mkF m 48 #[sR b_, sJ x_, s2, sJ (own_key z_ x_), s2, su, su, su] [(.int i_)])
  obtain ⟨T16, X16, e16, st16⟩ := getF X15 hx hZ hown (host := "") (Or.inl (ow 187 rfl)) Via.refl e15 p5 (g := (mkF m 51 #[sR b_, sJ x_, s2, sJ (own_key z_ x_), s2, sI i_, su, su] [(.ref b_)])) rfl rfl (dc d38_51)
  obtain ⟨T18, X18, e18, st18⟩ := getF X16 hx hZ hown (host := "") (Or.inl (ow 184 rfl)) Via.refl e16 p4 (g := (mkF m 63 #[sR b_, sJ x_, s2, sJ (own_key z_ x_), s2, sI i_, su, su] [(.ref b_)])) rfl rfl (dc d38_63)
  refine Goes.on (T' := T18) (g' := (mkF m 69 #[sR b_, sJ x_, s2, sJ (own_key z_ x_), s2, sI i_, su, su] [(af_ i_.toNatClampNeg)])) (fun _ k => XS.istore X15.here hx rfl (dc d38_48) rfl (l' := #[sR b_, sJ x_, s2, sJ (own_key z_ x_), s2, sI i_, su, su]) rfl (XS.aloadN X15.here hx rfl (dc d38_50) rfl rfl (st16 _ (XS.iload X16.here hx rfl (dc d38_54) rfl (ldJm X16 hx hZ e16 p11 hi (dc d38_56) (XS.lloadN X16.here hx rfl (dc d38_57) rfl (XT.lcmp X16.here hx rfl (dc d38_58) rfl (XS.ifNo X16.here hx rfl (dc d38_59) rfl (XT.ll_ne_f hq) (XS.aloadN X16.here hx rfl (dc d38_62) rfl rfl (st18 _ (XS.iload X18.here hx rfl (dc d38_66) rfl (ldRm X18 hx hZ e18 p10 hi (dc d38_68) k)))))))))))) ?_
  rw [hL]
  obtain ⟨T19, X19, e19, st19⟩ := getF X18 hx hZ hown (host := "") (Or.inl (ow 223 rfl)) Via.refl e18 p13 (g := (mkF m 73 #[sR b_, sJ x_, s2, sJ (own_key z_ x_), s2, sI i_, sR l_, su] [(.ref l_)])) rfl rfl (dc d38_73)
  refine Goes.on (T' := T19) (g' := (mkF m 91 #[sR b_, sJ x_, s2, sJ (own_key z_ x_), s2, sI i_, sR l_, su] [(.ref l_)])) (fun _ k => XS.astore X18.here hx rfl (dc d38_69) rfl rfl (l' := #[sR b_, sJ x_, s2, sJ (own_key z_ x_), s2, sI i_, sR l_, su]) rfl (XS.aload X18.here hx rfl (dc d38_71) rfl rfl (st19 _ (XT.ifnonnullYes X19.here hx rfl (pc0 := 76) (pc' := 89) rfl (dc d38_76) rfl (by decide) (by decide) (XS.aload X19.here hx rfl (dc d38_89) rfl rfl k))))) ?_
  exact Goes.retA X19 hx hlk hret rfl rfl (dc d38_91) (by decide) (by decide) ⟨rfl, N15, e19⟩
abbrev c35C := prog_70_method_2_code
theorem d35_0 : decode c35C 0 = .ok (.aload_n 0, 1) := by decide +kernel
theorem d35_1 : decode c35C 1 = .ok (.getfield 36, 3) := by decide +kernel
theorem d35_4 : decode c35C 4 = .ok (.invokevirtual 40, 3) := by decide +kernel
theorem d35_7 : decode c35C 7 = .ok (.ireturn, 1) := by decide +kernel
theorem rmMk0 (l : Launch) (Z : State) (a0 : Array Value) (hw : TW Z a0) (o_ a_ : Addr) (h0 : Heap) (n0 : Nat) (Z0 : n0 ≤ h0.size) (p0 : Exa Z h0 o_ k3C) (p1 : Fld Z h0 o_ k3C "limit" k8C (.ref a_)) (p2 : Exa Z h0 a_ k11C) (p3 : Fld Z h0 a_ k11C "isPresent" "Z" (.int (0 : Int32))) :
    Pays l Z (⟨"com/example/uncross/uncross/model/Order", "isMarket", "()Z"⟩ : MethodName) prog_70_method_2_code 1 (some .boolean) [] ({ frames := 1, cells := 0, slots := 0, locals := 12 } : Room) #[(.ref o_)] h0 (fun v h L => v = some (.int (1 : Int32)) ∧ Fr n0 L ∧ h = h0) := by
  refine Pays.walk (plainFor_of_name pn_6) (fun m => ef_0 m o_ ) ?_
  intro p e s m below meth c T0 X0 hx hby hml hown hnm hZ e0 hret hlk
  obtain ⟨T2, X2, e2, st2⟩ := getF X0 hx hZ hown (host := "") (Or.inl (own_w hw 148 rfl)) Via.refl e0 p1 (g := (mkF m 1 #[sR o_] [(.ref o_)])) rfl rfl (hb hby d35_1)
  refine Goes.on (T' := T2) (g' := (mkF m 4 #[sR o_] [(.ref a_)])) (fun _ k => XS.aloadN X0.here hx rfl (hb hby d35_0) rfl rfl (st2 _ k)) ?_
  refine Goes.callV X2 hx hZ 0 hown (own_w hw 241 rfl) (own_w hw 242 rfl) (notFace_of_selects (args := #[]) (mvT hZ (own_w hw 244 rfl))) (own_w hw 244 rfl) (own_w hw 243 rfl) (own_w hw 25 rfl) (own_w hw 245 rfl) (by decide) e2 p2 (rmIe0 l Z a0 hw a_ h0 n0 Z0  p2 p3 ) (by decide) (by decide) (by decide) (by decide) rfl (by rw [hml]; rfl) (argsL := []) (rest := []) rfl (lenOf pd_3 rfl) rfl (own_le20 rfl) (hb hby d35_4) ?_
  rintro v3 T3 L3 X3 ⟨rfl, N3q, e3⟩
  have N3 := Fr.app (Fr.nil n0) N3q
  show Goes p e below _ T3 (mkF m 7 #[sR o_] [(.int 1)])
  exact Goes.retB X3 hx hlk hret (Or.inr rfl) (hb hby d35_7) (by decide) (by decide) ⟨rfl, N3, e3⟩
theorem rmMk1 (l : Launch) (Z : State) (a0 : Array Value) (hw : TW Z a0) (o_ a_ : Addr) (h0 : Heap) (n0 : Nat) (Z0 : n0 ≤ h0.size) (p0 : Exa Z h0 o_ k3C) (p1 : Fld Z h0 o_ k3C "limit" k8C (.ref a_)) (p2 : Exa Z h0 a_ k11C) (p3 : Fld Z h0 a_ k11C "isPresent" "Z" (.int (1 : Int32))) :
    Pays l Z (⟨"com/example/uncross/uncross/model/Order", "isMarket", "()Z"⟩ : MethodName) prog_70_method_2_code 1 (some .boolean) [] ({ frames := 1, cells := 0, slots := 0, locals := 12 } : Room) #[(.ref o_)] h0 (fun v h L => v = some (.int (0 : Int32)) ∧ Fr n0 L ∧ h = h0) := by
  refine Pays.walk (plainFor_of_name pn_6) (fun m => ef_0 m o_ ) ?_
  intro p e s m below meth c T0 X0 hx hby hml hown hnm hZ e0 hret hlk
  obtain ⟨T2, X2, e2, st2⟩ := getF X0 hx hZ hown (host := "") (Or.inl (own_w hw 148 rfl)) Via.refl e0 p1 (g := (mkF m 1 #[sR o_] [(.ref o_)])) rfl rfl (hb hby d35_1)
  refine Goes.on (T' := T2) (g' := (mkF m 4 #[sR o_] [(.ref a_)])) (fun _ k => XS.aloadN X0.here hx rfl (hb hby d35_0) rfl rfl (st2 _ k)) ?_
  refine Goes.callV X2 hx hZ 0 hown (own_w hw 241 rfl) (own_w hw 242 rfl) (notFace_of_selects (args := #[]) (mvT hZ (own_w hw 244 rfl))) (own_w hw 244 rfl) (own_w hw 243 rfl) (own_w hw 25 rfl) (own_w hw 245 rfl) (by decide) e2 p2 (rmIe1 l Z a0 hw a_ h0 n0 Z0  p2 p3 ) (by decide) (by decide) (by decide) (by decide) rfl (by rw [hml]; rfl) (argsL := []) (rest := []) rfl (lenOf pd_3 rfl) rfl (own_le20 rfl) (hb hby d35_4) ?_
  rintro v3 T3 L3 X3 ⟨rfl, N3q, e3⟩
  have N3 := Fr.app (Fr.nil n0) N3q
  show Goes p e below _ T3 (mkF m 7 #[sR o_] [(.int 0)])
  exact Goes.retB X3 hx hlk hret (Or.inl rfl) (hb hby d35_7) (by decide) (by decide) ⟨rfl, N3, e3⟩
abbrev c37C := prog_70_method_14_code
theorem d37_0 : decode c37C 0 = .ok (.aload_n 0, 1) := by decide +kernel
theorem d37_1 : decode c37C 1 = .ok (.getfield 36, 3) := by decide +kernel
theorem d37_4 : decode c37C 4 = .ok (.areturn, 1) := by decide +kernel
theorem rmLi (l : Launch) (Z : State) (a0 : Array Value) (hw : TW Z a0) (o_ a_ : Addr) (h0 : Heap) (n0 : Nat) (Z0 : n0 ≤ h0.size) (p0 : Exa Z h0 o_ k3C) (p1 : Fld Z h0 o_ k3C "limit" k8C (.ref a_)) :
    Pays l Z (⟨"com/example/uncross/uncross/model/Order", "limit", "()Ljava/util/OptionalLong;"⟩ : MethodName) prog_70_method_14_code 1 (some (.object "java/util/OptionalLong")) [] ({ frames := 0, cells := 0, slots := 0, locals := 0 } : Room) #[(.ref o_)] h0 (fun v h L => v = some (.ref a_) ∧ Fr n0 L ∧ h = h0) := by
  refine Pays.walk (plainFor_of_name pn_6) (fun m => ef_0 m o_ ) ?_
  intro p e s m below meth c T0 X0 hx hby hml hown hnm hZ e0 hret hlk
  have N0 := Fr.nil n0
  obtain ⟨T1, X1, e1, st1⟩ := getF X0 hx hZ hown (host := "") (Or.inl (own_w hw 148 rfl)) Via.refl e0 p1 (g := (mkF m 1 #[sR o_] [(.ref o_)])) rfl rfl (hb hby d37_1)
  refine Goes.on (T' := T1) (g' := (mkF m 4 #[sR o_] [(.ref a_)])) (fun _ k => XS.aloadN X0.here hx rfl (hb hby d37_0) rfl rfl (st1 _ k)) ?_
  exact Goes.retA X1 hx hlk hret rfl rfl (hb hby d37_4) (by decide) (by decide) ⟨rfl, N0, e1⟩
abbrev c34C := prog_15_method_7_code
theorem d34_0 : decode c34C 0 = .ok (.aload_n 1, 1) := by decide +kernel
theorem d34_1 : decode c34C 1 = .ok (.getfield 119, 3) := by decide +kernel
theorem d34_4 : decode c34C 4 = .ok (.invokevirtual 89, 3) := by decide +kernel
theorem d34_7 : decode c34C 7 = .ok (.ifCond .eq 10, 3) := by decide +kernel
theorem d34_10 : decode c34C 10 = .ok (.aload_n 0, 1) := by decide +kernel
theorem d34_11 : decode c34C 11 = .ok (.getfield 14, 3) := by decide +kernel
theorem d34_14 : decode c34C 14 = .ok (.goto 17, 3) := by decide +kernel
theorem d34_31 : decode c34C 31 = .ok (.astore_n 2, 1) := by decide +kernel
theorem d34_32 : decode c34C 32 = .ok (.aload_n 1, 1) := by decide +kernel
theorem d34_33 : decode c34C 33 = .ok (.aload_n 2, 1) := by decide +kernel
theorem d34_34 : decode c34C 34 = .ok (.putfield 60, 3) := by decide +kernel
theorem d34_37 : decode c34C 37 = .ok (.aload_n 1, 1) := by decide +kernel
theorem d34_38 : decode c34C 38 = .ok (.aload_n 2, 1) := by decide +kernel
theorem d34_39 : decode c34C 39 = .ok (.getfield 127, 3) := by decide +kernel
theorem d34_42 : decode c34C 42 = .ok (.putfield 130, 3) := by decide +kernel
theorem d34_45 : decode c34C 45 = .ok (.aload_n 2, 1) := by decide +kernel
theorem d34_46 : decode c34C 46 = .ok (.getfield 127, 3) := by decide +kernel
theorem d34_49 : decode c34C 49 = .ok (.ifnonnull 11, 3) := by decide +kernel
theorem d34_52 : decode c34C 52 = .ok (.aload_n 2, 1) := by decide +kernel
theorem d34_53 : decode c34C 53 = .ok (.aload_n 1, 1) := by decide +kernel
theorem d34_54 : decode c34C 54 = .ok (.putfield 51, 3) := by decide +kernel
theorem d34_57 : decode c34C 57 = .ok (.goto 11, 3) := by decide +kernel
theorem d34_68 : decode c34C 68 = .ok (.aload_n 2, 1) := by decide +kernel
theorem d34_69 : decode c34C 69 = .ok (.aload_n 1, 1) := by decide +kernel
theorem d34_70 : decode c34C 70 = .ok (.putfield 127, 3) := by decide +kernel
theorem d34_73 : decode c34C 73 = .ok (.return_, 1) := by decide +kernel
theorem ef_15 (m : MethodId) (x0 : Addr) (x1 : Addr) : entryFrame m #[(.ref x0), (.ref x1)] 3 = mkF m 0 #[.val (.ref x0), .val (.ref x1), .unset] [] := by first | (simp [entryFrame, mkF, argsToLocals, Value.category]; done) | rfl
def sn83 {Z : State} {a0 : Array Value} (hw : TW Z a0) := slot_ne (Or.inl (own_w hw 251 rfl)) (Or.inl (own_w hw 247 rfl)) (by decide) (t := (.object "com/example/uncross/uncross/engine/BookSide$Resting")) (by decide) (t' := (.object "com/example/uncross/uncross/engine/BookSide$Level")) (by decide)
def sn84 {Z : State} {a0 : Array Value} (hw : TW Z a0) := slot_ne (Or.inl (own_w hw 292 rfl)) (Or.inl (own_w hw 247 rfl)) (by decide) (t := (.object "com/example/uncross/uncross/engine/BookSide$Resting")) (by decide) (t' := (.object "com/example/uncross/uncross/engine/BookSide$Level")) (by decide)
def sn85 {Z : State} {a0 : Array Value} (hw : TW Z a0) := slot_ne (Or.inl (own_w hw 247 rfl)) (Or.inl (own_w hw 251 rfl)) (by decide) (t := (.object "com/example/uncross/uncross/engine/BookSide$Level")) (by decide) (t' := (.object "com/example/uncross/uncross/engine/BookSide$Resting")) (by decide)
def sn86 {Z : State} {a0 : Array Value} (hw : TW Z a0) := slot_ne (Or.inl (own_w hw 292 rfl)) (Or.inl (own_w hw 251 rfl)) (by decide) (t := (.object "com/example/uncross/uncross/engine/BookSide$Resting")) (by decide) (t' := (.object "com/example/uncross/uncross/engine/BookSide$Resting")) (by decide)
def sn87 {Z : State} {a0 : Array Value} (hw : TW Z a0) := slot_ne (Or.inl (own_w hw 301 rfl)) (Or.inl (own_w hw 224 rfl)) (by decide) (t := .boolean) (by decide) (t' := (.object "com/example/uncross/uncross/engine/BookSide$Resting")) (by decide)
def sn88 {Z : State} {a0 : Array Value} (hw : TW Z a0) := slot_ne (Or.inl (own_w hw 249 rfl)) (Or.inl (own_w hw 224 rfl)) (by decide) (t := (.object "com/example/uncross/uncross/engine/BookSide$Resting")) (by decide) (t' := (.object "com/example/uncross/uncross/engine/BookSide$Resting")) (by decide)
def sn89 {Z : State} {a0 : Array Value} (hw : TW Z a0) := slot_ne (Or.inl (own_w hw 301 rfl)) (Or.inl (own_w hw 249 rfl)) (by decide) (t := .boolean) (by decide) (t' := (.object "com/example/uncross/uncross/engine/BookSide$Resting")) (by decide)
def sn90 {Z : State} {a0 : Array Value} (hw : TW Z a0) := slot_ne (Or.inl (own_w hw 224 rfl)) (Or.inl (own_w hw 249 rfl)) (by decide) (t := (.object "com/example/uncross/uncross/engine/BookSide$Resting")) (by decide) (t' := (.object "com/example/uncross/uncross/engine/BookSide$Resting")) (by decide)
theorem rmAmE (l : Launch) (Z : State) (a0 : Array Value) (hw : TW Z a0) (b_ r_ m_ o_ a_ : Addr) (h0 : Heap) (n0 : Nat) (Z0 : n0 ≤ h0.size) (p0 : Exa Z h0 b_ k0C) (p1 : Fld Z h0 b_ k0C "markets" k5C (.ref m_)) (p2 : Exa Z h0 r_ k1C) (p3 : Fld Z h0 r_ k1C "level" k5C .null) (p4 : Fld Z h0 r_ k1C "ahead" k4C .null) (p5 : Fld Z h0 r_ k1C "behind" k4C .null) (p6 : Fld Z h0 r_ k1C "order" k7C (.ref o_)) (p7 : Exa Z h0 o_ k3C) (p8 : Fld Z h0 o_ k3C "limit" k8C (.ref a_)) (p9 : Exa Z h0 a_ k11C) (p10 : Fld Z h0 a_ k11C "isPresent" "Z" (.int (0 : Int32))) (p11 : Exa Z h0 m_ k2C) (p12 : Fld Z h0 m_ k2C "deep" "Z" (.int (0 : Int32))) (p13 : Fld Z h0 m_ k2C "first" k4C .null) (p14 : Fld Z h0 m_ k2C "last" k4C .null) (g0 : n0 ≤ r_) (g1 : n0 ≤ m_) :
    Pays l Z (⟨"com/example/uncross/uncross/engine/BookSide", "add", "(Lcom/example/uncross/uncross/engine/BookSide$Resting;)V"⟩ : MethodName) prog_15_method_7_code 3 none [] ({ frames := 3, cells := 1, slots := 4, locals := 60 } : Room) #[(.ref b_), (.ref r_)] h0 (fun v h L => v = none ∧ Fr n0 L ∧ Keep h0 h [r_, m_] ∧ Exa Z h r_ k1C ∧ Fld Z h r_ k1C "level" k5C (.ref m_) ∧ Fld Z h r_ k1C "ahead" k4C .null ∧ Fld Z h r_ k1C "behind" k4C .null ∧ Exa Z h m_ k2C ∧ Fld Z h m_ k2C "deep" "Z" (.int (0 : Int32)) ∧ Fld Z h m_ k2C "first" k4C (.ref r_) ∧ Fld Z h m_ k2C "last" k4C (.ref r_)) := by
  refine Pays.walk (plainFor_of_name pn_13) (fun m => ef_15 m b_ r_ ) ?_
  intro p e s m below meth c T0 X0 hx hby hml hown hnm hZ e0 hret hlk
  have dc := @Jvm.hb _ _ hby
  have ow := @own_w Z a0 hw
  have K0 := Keep.refl h0 ([r_, m_] : List Addr)
  have ne7 : r_ ≠ m_ := ne_exa p2 p11 (by decide)
  obtain ⟨T11, X11, e11, st11⟩ := getF X0 hx hZ hown (host := "") (Or.inl (ow 235 rfl)) Via.refl e0 p6 (g := (mkF m 1 #[sR b_, sR r_, su] [(.ref r_)])) rfl rfl (dc d34_1)
  refine Goes.on (T' := T11) (g' := (mkF m 4 #[sR b_, sR r_, su] [(.ref o_)])) (fun _ k => XS.aloadN X0.here hx rfl (dc d34_0) rfl rfl (st11 _ k)) ?_
  refine Goes.callV X11 hx hZ 0 hown (ow 236 rfl) (ow 237 rfl) (notFace_of_selects (args := #[]) (mvT hZ (ow 239 rfl))) (ow 239 rfl) (ow 238 rfl) (ow 14 rfl) (ow 240 rfl) (by decide) e11 p7 (rmMk0 l Z a0 hw o_ a_ h0 n0 Z0  p7 p8 p9 p10 ) (by decide) (by decide) (by decide) (by decide) rfl (by rw [hml]; rfl) (argsL := []) (rest := []) rfl (lenOf pd_3 rfl) rfl (own_le20 rfl) (dc d34_4) ?_
  rintro v12 T12 L12 X12 ⟨rfl, N12q, e12⟩
  show Goes p e below _ T12 (mkF m 7 #[sR b_, sR r_, su] [(.int 1)])
  obtain ⟨T13, X13, e13, st13⟩ := getF X12 hx hZ hown (host := "") (Or.inl (ow 181 rfl)) Via.refl e12 p1 (g := (mkF m 11 #[sR b_, sR r_, su] [(.ref b_)])) rfl rfl (dc d34_11)
  obtain ⟨T14, h14, X14, e14, W14, st14⟩ := putFR X13 hx hZ hown (ow 246 rfl) e13 p3 p2 (ow 247 rfl) (ow 10 rfl) (ty := (.object "com/example/uncross/uncross/engine/BookSide$Level")) (by decide) rfl rfl (g := (mkF m 34 #[sR b_, sR r_, sR m_] [(.ref m_), (.ref r_)])) rfl rfl (dc d34_34)
  have C17 := p2.wr W14
  have C19 := p4.other W14 (Or.inr (sn83 hw))
  have C29 := p14.other W14 (Or.inl ne7.symm)
  have K31 := K0.wr W14 (Or.inl (List.mem_of_getElem? (i := 0) rfl))
  obtain ⟨T32, X32, e32, st32⟩ := getF X14 hx hZ hown (host := "") (Or.inl (ow 248 rfl)) Via.refl e14 C29 (g := (mkF m 39 #[sR b_, sR r_, sR m_] [(.ref m_), (.ref r_)])) rfl rfl (dc d34_39)
  obtain ⟨T33, h33, X33, e33, W33, st33⟩ := putFR X32 hx hZ hown (ow 250 rfl) e32 C19 C17 (ow 251 rfl) (ow 10 rfl) (ty := (.object "com/example/uncross/uncross/engine/BookSide$Resting")) (by decide) rfl rfl (g := (mkF m 42 #[sR b_, sR r_, sR m_] [.null, (.ref r_)])) rfl rfl (dc d34_42)
  have C45 := (p11.wr W14).wr W33
  have C47 := (p13.other W14 (Or.inl ne7.symm)).other W33 (Or.inl ne7.symm)
  have C48 := C29.other W33 (Or.inl ne7.symm)
  have K50 := K31.wr W33 (Or.inl (List.mem_of_getElem? (i := 0) rfl))
  obtain ⟨T51, X51, e51, st51⟩ := getF X33 hx hZ hown (host := "") (Or.inl (ow 248 rfl)) Via.refl e33 C48 (g := (mkF m 46 #[sR b_, sR r_, sR m_] [(.ref m_)])) rfl rfl (dc d34_46)
  obtain ⟨T52, h52, X52, e52, W52, st52⟩ := putF X51 hx hZ hown (host := "") (Or.inl (ow 223 rfl)) Via.refl e51 C47 C45 (Or.inl (ow 224 rfl)) (ow 173 rfl) (ty := (.object "com/example/uncross/uncross/engine/BookSide$Resting")) (by decide) rfl rfl (g := (mkF m 54 #[sR b_, sR r_, sR m_] [(.ref r_), (.ref m_)])) rfl rfl (dc d34_54)
  have C64 := C45.wr W52
  have C67 := C48.other W52 (Or.inr (sn88 hw))
  have K69 := K50.wr W52 (Or.inl (List.mem_of_getElem? (i := 1) rfl))
  obtain ⟨T70, h70, X70, e70, W70, st70⟩ := putF X52 hx hZ hown (host := "") (Or.inl (ow 248 rfl)) Via.refl e52 C67 C64 (Or.inl (ow 249 rfl)) (ow 173 rfl) (ty := (.object "com/example/uncross/uncross/engine/BookSide$Resting")) (by decide) rfl rfl (g := (mkF m 70 #[sR b_, sR r_, sR m_] [(.ref r_), (.ref m_)])) rfl rfl (dc d34_70)
  have N70 := Fr.snoc X70 (Fr.snoc X52 (Fr.snoc X33 (Fr.snoc X14 (Fr.app (Fr.nil n0) N12q) g0) g0) g1) g1
  have C73 := ((C17.wr W33).wr W52).wr W70
  have C74 := (((p3.same W14).other W33 (Or.inr (sn85 hw))).other W52 (Or.inl ne7)).other W70 (Or.inl ne7)
  have C75 := ((C19.same W33).other W52 (Or.inl ne7)).other W70 (Or.inl ne7)
  have C76 := (((p5.other W14 (Or.inr (sn84 hw))).other W33 (Or.inr (sn86 hw))).other W52 (Or.inl ne7)).other W70 (Or.inl ne7)
  have C82 := C64.wr W70
  have C83 := (((p12.other W14 (Or.inl ne7.symm)).other W33 (Or.inl ne7.symm)).other W52 (Or.inr (sn87 hw))).other W70 (Or.inr (sn89 hw))
  have C84 := (C47.same W52).other W70 (Or.inr (sn90 hw))
  have C85 := C67.same W70
  have K87 := K69.wr W70 (Or.inl (List.mem_of_getElem? (i := 1) rfl))
  refine Goes.on (T' := T70) (g' := (mkF m 73 #[sR b_, sR r_, sR m_] [])) (fun _ k => XS.ifNo X12.here hx rfl (dc d34_7) rfl (XT.i0_eq_f (by decide)) (XS.aloadN X12.here hx rfl (dc d34_10) rfl rfl (st13 _ (XS.goto X13.here hx rfl (pc0 := 14) (pc' := 31) rfl (dc d34_14) (by decide) (by decide) (XS.astoreN X13.here hx rfl (dc d34_31) rfl rfl (l' := #[sR b_, sR r_, sR m_]) rfl (XS.aloadN X13.here hx rfl (dc d34_32) rfl rfl (XS.aloadN X13.here hx rfl (dc d34_33) rfl rfl (st14 _ (XS.aloadN X14.here hx rfl (dc d34_37) rfl rfl (XS.aloadN X14.here hx rfl (dc d34_38) rfl rfl (st32 _ (st33 _ (XS.aloadN X33.here hx rfl (dc d34_45) rfl rfl (st51 _ (XT.ifnonnullNo X51.here hx rfl (dc d34_49) rfl (XS.aloadN X51.here hx rfl (dc d34_52) rfl rfl (XS.aloadN X51.here hx rfl (dc d34_53) rfl rfl (st52 _ (XS.goto X52.here hx rfl (pc0 := 57) (pc' := 68) rfl (dc d34_57) (by decide) (by decide) (XS.aloadN X52.here hx rfl (dc d34_68) rfl rfl (XS.aloadN X52.here hx rfl (dc d34_69) rfl rfl (st70 _ k)))))))))))))))))))))) ?_
  exact Goes.retV X70 hx hlk hret (dc d34_73) (by decide) (by decide) (by rw [e70]; exact ⟨rfl, N70, K87, C73, C74, C75, C76, C82, C83, C84, C85⟩)
theorem d34_60 : decode c34C 60 = .ok (.aload_n 2, 1) := by decide +kernel
theorem d34_61 : decode c34C 61 = .ok (.getfield 127, 3) := by decide +kernel
theorem d34_64 : decode c34C 64 = .ok (.aload_n 1, 1) := by decide +kernel
theorem d34_65 : decode c34C 65 = .ok (.putfield 55, 3) := by decide +kernel
def sn91 {Z : State} {a0 : Array Value} (hw : TW Z a0) := slot_ne (Or.inl (own_w hw 247 rfl)) (Or.inl (own_w hw 292 rfl)) (by decide) (t := (.object "com/example/uncross/uncross/engine/BookSide$Level")) (by decide) (t' := (.object "com/example/uncross/uncross/engine/BookSide$Resting")) (by decide)
def sn92 {Z : State} {a0 : Array Value} (hw : TW Z a0) := slot_ne (Or.inl (own_w hw 251 rfl)) (Or.inl (own_w hw 292 rfl)) (by decide) (t := (.object "com/example/uncross/uncross/engine/BookSide$Resting")) (by decide) (t' := (.object "com/example/uncross/uncross/engine/BookSide$Resting")) (by decide)
theorem rmAmN (l : Launch) (Z : State) (a0 : Array Value) (hw : TW Z a0) (b_ r_ m_ o_ a_ q_ : Addr) (fv_ lq_ aq_ : Value) (h0 : Heap) (n0 : Nat) (Z0 : n0 ≤ h0.size) (p0 : Exa Z h0 b_ k0C) (p1 : Fld Z h0 b_ k0C "markets" k5C (.ref m_)) (p2 : Exa Z h0 r_ k1C) (p3 : Fld Z h0 r_ k1C "level" k5C .null) (p4 : Fld Z h0 r_ k1C "ahead" k4C .null) (p5 : Fld Z h0 r_ k1C "behind" k4C .null) (p6 : Fld Z h0 r_ k1C "order" k7C (.ref o_)) (p7 : Exa Z h0 o_ k3C) (p8 : Fld Z h0 o_ k3C "limit" k8C (.ref a_)) (p9 : Exa Z h0 a_ k11C) (p10 : Fld Z h0 a_ k11C "isPresent" "Z" (.int (0 : Int32))) (p11 : Exa Z h0 m_ k2C) (p12 : Fld Z h0 m_ k2C "deep" "Z" (.int (0 : Int32))) (p13 : Fld Z h0 m_ k2C "first" k4C fv_) (p14 : Fld Z h0 m_ k2C "last" k4C (.ref q_)) (p15 : Exa Z h0 q_ k1C) (p16 : Fld Z h0 q_ k1C "level" k5C lq_) (p17 : Fld Z h0 q_ k1C "ahead" k4C aq_) (p18 : Fld Z h0 q_ k1C "behind" k4C .null) (q0 : r_ ≠ q_) (g0 : n0 ≤ r_) (g1 : n0 ≤ m_) (g2 : n0 ≤ q_) :
    Pays l Z (⟨"com/example/uncross/uncross/engine/BookSide", "add", "(Lcom/example/uncross/uncross/engine/BookSide$Resting;)V"⟩ : MethodName) prog_15_method_7_code 3 none [] ({ frames := 3, cells := 1, slots := 4, locals := 60 } : Room) #[(.ref b_), (.ref r_)] h0 (fun v h L => v = none ∧ Fr n0 L ∧ Keep h0 h [r_, m_, q_] ∧ Exa Z h r_ k1C ∧ Fld Z h r_ k1C "level" k5C (.ref m_) ∧ Fld Z h r_ k1C "ahead" k4C (.ref q_) ∧ Fld Z h r_ k1C "behind" k4C .null ∧ Exa Z h m_ k2C ∧ Fld Z h m_ k2C "deep" "Z" (.int (0 : Int32)) ∧ Fld Z h m_ k2C "first" k4C fv_ ∧ Fld Z h m_ k2C "last" k4C (.ref r_) ∧ Exa Z h q_ k1C ∧ Fld Z h q_ k1C "level" k5C lq_ ∧ Fld Z h q_ k1C "ahead" k4C aq_ ∧ Fld Z h q_ k1C "behind" k4C (.ref r_)) := by
  refine Pays.walk (plainFor_of_name pn_13) (fun m => ef_15 m b_ r_ ) ?_
  intro p e s m below meth c T0 X0 hx hby hml hown hnm hZ e0 hret hlk
  have dc := @Jvm.hb _ _ hby
  have ow := @own_w Z a0 hw
  have K0 := Keep.refl h0 ([r_, m_, q_] : List Addr)
  have ne8 : r_ ≠ m_ := ne_exa p2 p11 (by decide)
  have ne14 : m_ ≠ q_ := ne_exa p11 p15 (by decide)
  obtain ⟨T15, X15, e15, st15⟩ := getF X0 hx hZ hown (host := "") (Or.inl (ow 235 rfl)) Via.refl e0 p6 (g := (mkF m 1 #[sR b_, sR r_, su] [(.ref r_)])) rfl rfl (dc d34_1)
  refine Goes.on (T' := T15) (g' := (mkF m 4 #[sR b_, sR r_, su] [(.ref o_)])) (fun _ k => XS.aloadN X0.here hx rfl (dc d34_0) rfl rfl (st15 _ k)) ?_
  refine Goes.callV X15 hx hZ 0 hown (ow 236 rfl) (ow 237 rfl) (notFace_of_selects (args := #[]) (mvT hZ (ow 239 rfl))) (ow 239 rfl) (ow 238 rfl) (ow 14 rfl) (ow 240 rfl) (by decide) e15 p7 (rmMk0 l Z a0 hw o_ a_ h0 n0 Z0  p7 p8 p9 p10 ) (by decide) (by decide) (by decide) (by decide) rfl (by rw [hml]; rfl) (argsL := []) (rest := []) rfl (lenOf pd_3 rfl) rfl (own_le20 rfl) (dc d34_4) ?_
  rintro v16 T16 L16 X16 ⟨rfl, N16q, e16⟩
  show Goes p e below _ T16 (mkF m 7 #[sR b_, sR r_, su] [(.int 1)])
  obtain ⟨T17, X17, e17, st17⟩ := getF X16 hx hZ hown (host := "") (Or.inl (ow 181 rfl)) Via.refl e16 p1 (g := (mkF m 11 #[sR b_, sR r_, su] [(.ref b_)])) rfl rfl (dc d34_11)
  obtain ⟨T18, h18, X18, e18, W18, st18⟩ := putFR X17 hx hZ hown (ow 246 rfl) e17 p3 p2 (ow 247 rfl) (ow 10 rfl) (ty := (.object "com/example/uncross/uncross/engine/BookSide$Level")) (by decide) rfl rfl (g := (mkF m 34 #[sR b_, sR r_, sR m_] [(.ref m_), (.ref r_)])) rfl rfl (dc d34_34)
  have C21 := p2.wr W18
  have C23 := p4.other W18 (Or.inr (sn83 hw))
  have C33 := p14.other W18 (Or.inl ne8.symm)
  have K39 := K0.wr W18 (Or.inl (List.mem_of_getElem? (i := 0) rfl))
  obtain ⟨T40, X40, e40, st40⟩ := getF X18 hx hZ hown (host := "") (Or.inl (ow 248 rfl)) Via.refl e18 C33 (g := (mkF m 39 #[sR b_, sR r_, sR m_] [(.ref m_), (.ref r_)])) rfl rfl (dc d34_39)
  obtain ⟨T41, h41, X41, e41, W41, st41⟩ := putFR X40 hx hZ hown (ow 250 rfl) e40 C23 C21 (ow 251 rfl) (ow 10 rfl) (ty := (.object "com/example/uncross/uncross/engine/BookSide$Resting")) (by decide) rfl rfl (g := (mkF m 42 #[sR b_, sR r_, sR m_] [(.ref q_), (.ref r_)])) rfl rfl (dc d34_42)
  have C56 := C33.other W41 (Or.inl ne8.symm)
  have C57 := (p15.wr W18).wr W41
  have C60 := (p18.other W18 (Or.inl q0.symm)).other W41 (Or.inl q0.symm)
  have K62 := K39.wr W41 (Or.inl (List.mem_of_getElem? (i := 0) rfl))
  obtain ⟨T63, X63, e63, st63⟩ := getF X41 hx hZ hown (host := "") (Or.inl (ow 248 rfl)) Via.refl e41 C56 (g := (mkF m 46 #[sR b_, sR r_, sR m_] [(.ref m_)])) rfl rfl (dc d34_46)
  obtain ⟨T64, X64, e64, st64⟩ := getF X63 hx hZ hown (host := "") (Or.inl (ow 248 rfl)) Via.refl e63 C56 (g := (mkF m 61 #[sR b_, sR r_, sR m_] [(.ref m_)])) rfl rfl (dc d34_61)
  obtain ⟨T65, h65, X65, e65, W65, st65⟩ := putFR X64 hx hZ hown (ow 291 rfl) e64 C60 C57 (ow 292 rfl) (ow 10 rfl) (ty := (.object "com/example/uncross/uncross/engine/BookSide$Resting")) (by decide) rfl rfl (g := (mkF m 65 #[sR b_, sR r_, sR m_] [(.ref r_), (.ref q_)])) rfl rfl (dc d34_65)
  have C77 := ((p11.wr W18).wr W41).wr W65
  have C80 := C56.other W65 (Or.inl ne14)
  have K86 := K62.wr W65 (Or.inl (List.mem_of_getElem? (i := 2) rfl))
  obtain ⟨T87, h87, X87, e87, W87, st87⟩ := putF X65 hx hZ hown (host := "") (Or.inl (ow 248 rfl)) Via.refl e65 C80 C77 (Or.inl (ow 249 rfl)) (ow 173 rfl) (ty := (.object "com/example/uncross/uncross/engine/BookSide$Resting")) (by decide) rfl rfl (g := (mkF m 70 #[sR b_, sR r_, sR m_] [(.ref r_), (.ref m_)])) rfl rfl (dc d34_70)
  have N87 := Fr.snoc X87 (Fr.snoc X65 (Fr.snoc X41 (Fr.snoc X18 (Fr.app (Fr.nil n0) N16q) g0) g0) g2) g1
  have C90 := ((C21.wr W41).wr W65).wr W87
  have C91 := (((p3.same W18).other W41 (Or.inr (sn85 hw))).other W65 (Or.inl q0)).other W87 (Or.inl ne8)
  have C92 := ((C23.same W41).other W65 (Or.inl q0)).other W87 (Or.inl ne8)
  have C93 := (((p5.other W18 (Or.inr (sn84 hw))).other W41 (Or.inr (sn86 hw))).other W65 (Or.inl q0)).other W87 (Or.inl ne8)
  have C99 := C77.wr W87
  have C100 := (((p12.other W18 (Or.inl ne8.symm)).other W41 (Or.inl ne8.symm)).other W65 (Or.inl ne14)).other W87 (Or.inr (sn89 hw))
  have C101 := (((p13.other W18 (Or.inl ne8.symm)).other W41 (Or.inl ne8.symm)).other W65 (Or.inl ne14)).other W87 (Or.inr (sn90 hw))
  have C102 := C80.same W87
  have C103 := (C57.wr W65).wr W87
  have C104 := (((p16.other W18 (Or.inl q0.symm)).other W41 (Or.inl q0.symm)).other W65 (Or.inr (sn91 hw))).other W87 (Or.inl ne14.symm)
  have C105 := (((p17.other W18 (Or.inl q0.symm)).other W41 (Or.inl q0.symm)).other W65 (Or.inr (sn92 hw))).other W87 (Or.inl ne14.symm)
  have C106 := (C60.same W65).other W87 (Or.inl ne14.symm)
  have K108 := K86.wr W87 (Or.inl (List.mem_of_getElem? (i := 1) rfl))
  refine Goes.on (T' := T87) (g' := (mkF m 73 #[sR b_, sR r_, sR m_] [])) (fun _ k => XS.ifNo X16.here hx rfl (dc d34_7) rfl (XT.i0_eq_f (by decide)) (XS.aloadN X16.here hx rfl (dc d34_10) rfl rfl (st17 _ (XS.goto X17.here hx rfl (pc0 := 14) (pc' := 31) rfl (dc d34_14) (by decide) (by decide) (XS.astoreN X17.here hx rfl (dc d34_31) rfl rfl (l' := #[sR b_, sR r_, sR m_]) rfl (XS.aloadN X17.here hx rfl (dc d34_32) rfl rfl (XS.aloadN X17.here hx rfl (dc d34_33) rfl rfl (st18 _ (XS.aloadN X18.here hx rfl (dc d34_37) rfl rfl (XS.aloadN X18.here hx rfl (dc d34_38) rfl rfl (st40 _ (st41 _ (XS.aloadN X41.here hx rfl (dc d34_45) rfl rfl (st63 _ (XT.ifnonnullYes X63.here hx rfl (pc0 := 49) (pc' := 60) rfl (dc d34_49) rfl (by decide) (by decide) (XS.aloadN X63.here hx rfl (dc d34_60) rfl rfl (st64 _ (XS.aloadN X64.here hx rfl (dc d34_64) rfl rfl (st65 _ (XS.aloadN X65.here hx rfl (dc d34_68) rfl rfl (XS.aloadN X65.here hx rfl (dc d34_69) rfl rfl (st87 _ k)))))))))))))))))))))) ?_
  exact Goes.retV X87 hx hlk hret (dc d34_73) (by decide) (by decide) (by rw [e87]; exact ⟨rfl, N87, K108, C90, C91, C92, C93, C99, C100, C101, C102, C103, C104, C105, C106⟩)
theorem d34_17 : decode c34C 17 = .ok (.aload_n 0, 1) := by decide +kernel
theorem d34_18 : decode c34C 18 = .ok (.aload_n 1, 1) := by decide +kernel
theorem d34_19 : decode c34C 19 = .ok (.getfield 119, 3) := by decide +kernel
theorem pd_21 : parseMethodDescriptor "()Ljava/util/OptionalLong;" = some ⟨[], some (.object "java/util/OptionalLong")⟩ := by decide +kernel
theorem d34_22 : decode c34C 22 = .ok (.invokevirtual 95, 3) := by decide +kernel
theorem d34_25 : decode c34C 25 = .ok (.invokevirtual 99, 3) := by decide +kernel
theorem pd_22 : parseMethodDescriptor "(J)Lcom/example/uncross/uncross/engine/BookSide$Level;" = some ⟨[.long], some (.object "com/example/uncross/uncross/engine/BookSide$Level")⟩ := by decide +kernel
theorem d34_28 : decode c34C 28 = .ok (.invokevirtual 123, 3) := by decide +kernel
theorem rmAlN (l : Launch) (Z : State) (a0 : Array Value) (hw : TW Z a0) (b_ t_ A_ K_ m_ r_ o_ a_ : Addr) (z_ cnt_ i_ at_ nn_ : Int32) (x_ : Int64) (ln_ : Nat) (af_ : Nat → Value) (ks_ : Nat → Int64) (h0 : Heap) (n0 : Nat) (Z0 : n0 ≤ h0.size) (hAB : Pays l Z (⟨"com/example/uncross/uncross/engine/BookSide", "atOrBelow", "(J)I"⟩ : MethodName) prog_15_method_15_code 7 (some .int) [] ({ frames := 1, cells := 0, slots := 0, locals := 16 } : Room) #[(.ref b_), (.long (own_key z_ x_))] h0 (fun v h L => v = some (.int i_) ∧ Fr n0 L ∧ h = h0)) (p0 : Exa Z h0 b_ k0C) (p1 : Fld Z h0 b_ k0C "buying" "Z" (.int z_)) (p2 : Fld Z h0 b_ k0C "levelCount" "I" (.int cnt_)) (p3 : Fld Z h0 b_ k0C "deep" k9C (.ref t_)) (p4 : Fld Z h0 b_ k0C "levels" k6C (.ref A_)) (p5 : Fld Z h0 b_ k0C "keys" "[J" (.ref K_)) (p6 : Fld Z h0 b_ k0C "markets" k5C (.ref m_)) (p7 : Fld Z h0 b_ k0C "emptyLevels" "I" (.int (0 : Int32))) (p8 : Exa Z h0 t_ k12C) (p9 : Fld Z h0 t_ k12C "size" "I" (.int (0 : Int32))) (p10 : Rbk Z h0 A_ k2C 64 af_) (p11 : Arf Z h0 K_ .long Value.long 64 ks_) (p12 : Exa Z h0 r_ k1C) (p13 : Fld Z h0 r_ k1C "level" k5C .null) (p14 : Fld Z h0 r_ k1C "ahead" k4C .null) (p15 : Fld Z h0 r_ k1C "behind" k4C .null) (p16 : Fld Z h0 r_ k1C "order" k7C (.ref o_)) (p17 : Exa Z h0 o_ k3C) (p18 : Fld Z h0 o_ k3C "limit" k8C (.ref a_)) (p19 : Exa Z h0 a_ k11C) (p20 : Fld Z h0 a_ k11C "isPresent" "Z" (.int (1 : Int32))) (p21 : Fld Z h0 a_ k11C "value" "J" (.long x_)) (g0 : n0 ≤ r_) (g1 : n0 ≤ b_) (g2 : n0 ≤ A_) (g3 : n0 ≤ K_) (hi : ¬ i_ < 0 ∧ i_.toNatClampNeg < 64) (hc5 : ¬ cnt_ = (512 : Int32)) (hc6 : ¬ cnt_ = (64 : Int32)) (hq : ¬ (ks_ i_.toNatClampNeg) = (own_key z_ x_)) (hat : i_ + (1 : Int32) = at_) (ha : ¬ at_ < 0 ∧ at_.toNatClampNeg + 1 + ln_ ≤ 64) (ha2 : ¬ (at_ + (1 : Int32)) < 0 ∧ (at_ + (1 : Int32)).toNatClampNeg = at_.toNatClampNeg + 1) (hnn : cnt_ - at_ = nn_) (hn3 : ¬ nn_ < 0 ∧ nn_.toNatClampNeg = ln_) (hsto : StoL Z h0 A_ ((List.range ln_).map fun i => af_ (at_.toNatClampNeg + i))) :
    Pays l Z (⟨"com/example/uncross/uncross/engine/BookSide", "add", "(Lcom/example/uncross/uncross/engine/BookSide$Resting;)V"⟩ : MethodName) prog_15_method_7_code 3 none [] ({ frames := 3, cells := 1, slots := 4, locals := 60 } : Room) #[(.ref b_), (.ref r_)] h0 (fun v h L => ∃ (n0_ : Addr), v = none ∧ Fr n0 L ∧ Keep h0 h [r_, b_, A_, K_] ∧ Exa Z h b_ k0C ∧ Exa Z h r_ k1C ∧ Fld Z h r_ k1C "level" k5C (.ref n0_) ∧ Fld Z h r_ k1C "ahead" k4C .null ∧ Fld Z h r_ k1C "behind" k4C .null ∧ Fld Z h b_ k0C "buying" "Z" (.int z_) ∧ Fld Z h b_ k0C "levelCount" "I" (.int (cnt_ + (1 : Int32))) ∧ Fld Z h b_ k0C "deep" k9C (.ref t_) ∧ Fld Z h b_ k0C "levels" k6C (.ref A_) ∧ Fld Z h b_ k0C "keys" "[J" (.ref K_) ∧ Fld Z h b_ k0C "markets" k5C (.ref m_) ∧ Fld Z h b_ k0C "emptyLevels" "I" (.int (0 : Int32)) ∧ Rbk Z h A_ k2C 64 (Upd (Shf af_ at_.toNatClampNeg ln_) at_.toNatClampNeg (.ref n0_)) ∧ Arf Z h K_ .long Value.long 64 (Upd (Shf ks_ at_.toNatClampNeg ln_) at_.toNatClampNeg (own_key z_ x_)) ∧ Exa Z h n0_ k2C ∧ Fld Z h n0_ k2C "first" k4C (.ref r_) ∧ Fld Z h n0_ k2C "last" k4C (.ref r_) ∧ Fld Z h n0_ k2C "deep" "Z" (.int (0 : Int32)) ∧ h0.size ≤ n0_) := by
  refine Pays.walk (plainFor_of_name pn_13) (fun m => ef_15 m b_ r_ ) ?_
  intro p e s m below meth c T0 X0 hx hby hml hown hnm hZ e0 hret hlk
  have dc := @Jvm.hb _ _ hby
  have ow := @own_w Z a0 hw
  have K0 := Keep.refl h0 ([r_, b_, A_, K_] : List Addr)
  have ne4 : b_ ≠ r_ := ne_exa p0 p12 (by decide)
  have ne13 : A_ ≠ r_ := (Rbk.neE p10 p12 (ow 10 rfl)).symm
  have ne16 : K_ ≠ r_ := (Arf.neE p11 p12 (ow 10 rfl)).symm
  obtain ⟨T22, X22, e22, st22⟩ := getF X0 hx hZ hown (host := "") (Or.inl (ow 235 rfl)) Via.refl e0 p16 (g := (mkF m 1 #[sR b_, sR r_, su] [(.ref r_)])) rfl rfl (dc d34_1)
  refine Goes.on (T' := T22) (g' := (mkF m 4 #[sR b_, sR r_, su] [(.ref o_)])) (fun _ k => XS.aloadN X0.here hx rfl (dc d34_0) rfl rfl (st22 _ k)) ?_
  refine Goes.callV X22 hx hZ 0 hown (ow 236 rfl) (ow 237 rfl) (notFace_of_selects (args := #[]) (mvT hZ (ow 239 rfl))) (ow 239 rfl) (ow 238 rfl) (ow 14 rfl) (ow 240 rfl) (by decide) e22 p17 (rmMk1 l Z a0 hw o_ a_ h0 n0 Z0  p17 p18 p19 p20 ) (by decide) (by decide) (by decide) (by decide) rfl (by rw [hml]; rfl) (argsL := []) (rest := []) rfl (lenOf pd_3 rfl) rfl (own_le20 rfl) (dc d34_4) ?_
  rintro v23 T23 L23 X23 ⟨rfl, N23q, e23⟩
  show Goes p e below _ T23 (mkF m 7 #[sR b_, sR r_, su] [(.int 0)])
  obtain ⟨T24, X24, e24, st24⟩ := getF X23 hx hZ hown (host := "") (Or.inl (ow 235 rfl)) Via.refl e23 p16 (g := (mkF m 19 #[sR b_, sR r_, su] [(.ref r_), (.ref b_)])) rfl rfl (dc d34_19)
  refine Goes.on (T' := T24) (g' := (mkF m 22 #[sR b_, sR r_, su] [(.ref o_), (.ref b_)])) (fun _ k => XS.ifYes X23.here hx rfl (pc0 := 7) (pc' := 17) rfl (dc d34_7) rfl (XT.i0_eq_t (by decide)) (by decide) (by decide) (XS.aloadN X23.here hx rfl (dc d34_17) rfl rfl (XS.aloadN X23.here hx rfl (dc d34_18) rfl rfl (st24 _ k)))) ?_
  refine Goes.callV X24 hx hZ 1 hown (ow 252 rfl) (ow 253 rfl) (notFace_of_selects (args := #[]) (mvT hZ (ow 255 rfl))) (ow 255 rfl) (ow 254 rfl) (ow 14 rfl) (ow 256 rfl) (by decide) e24 p17 (rmLi l Z a0 hw o_ a_ h0 n0 Z0  p17 p18 ) (by decide) (by decide) (by decide) (by decide) rfl (by rw [hml]; rfl) (argsL := []) (rest := [(.ref b_)]) rfl (lenOf pd_21 rfl) rfl (own_le20 rfl) (dc d34_22) ?_
  rintro v25 T25 L25 X25 ⟨rfl, N25q, e25⟩
  show Goes p e below _ T25 (mkF m 25 #[sR b_, sR r_, su] [(.ref a_), (.ref b_)])
  refine Goes.callV X25 hx hZ 1 hown (ow 257 rfl) (ow 126 rfl) (notFace_of_selects (args := #[]) (mvT hZ (ow 128 rfl))) (ow 128 rfl) (ow 127 rfl) (ow 25 rfl) (ow 129 rfl) (by decide) e25 p19 (rmGa l Z a0 hw a_ x_ h0 n0 Z0  p19 p20 p21 ) (by decide) (by decide) (by decide) (by decide) rfl (by rw [hml]; rfl) (argsL := []) (rest := [(.ref b_)]) rfl (lenOf pd_14 rfl) rfl (own_le20 rfl) (dc d34_25) ?_
  rintro v26 T26 L26 X26 ⟨rfl, N26q, e26⟩
  show Goes p e below _ T26 (mkF m 28 #[sR b_, sR r_, su] [(.long x_), (.ref b_)])
  refine Goes.callP X26 hx hZ 0 hown (ow 258 rfl) (ow 259 rfl) (ow 260 rfl) (ow 166 rfl) (ow 167 rfl) (ow 261 rfl) (by decide) e26 p0 (rmLfN l Z a0 hw b_ t_ A_ K_ m_ z_ cnt_ i_ at_ nn_ x_ ln_ af_ ks_ h0 n0 Z0 hAB p0 p1 p2 p3 p4 p5 p6 p7 p8 p9 p10 p11 g1 g2 g3 hi hc5 hc6 hq hat ha ha2 hnn hn3 hsto) (by decide) (by decide) (by decide) (by decide) rfl (by rw [hml]; rfl) (argsL := [(.long x_)]) (rest := []) rfl (lenOf pd_22 rfl) rfl (own_le20 rfl) (dc d34_28) ?_
  rintro v27 T27 L27 X27 ⟨ya27, rfl, N27q, K27, P27_0, P27_1, P27_2, P27_3, P27_4, P27_5, P27_6, P27_7, P27_8, P27_9, P27_10, P27_11, P27_12, P27_13, M27_0⟩
  show Goes p e below _ T27 (mkF m 31 #[sR b_, sR r_, su] [(.ref ya27)])
  have ne28 := own_neL p0.lt M27_0
  have ne30 := own_neL p10.lt M27_0
  have ne31 := own_neL p11.lt M27_0
  have ne32 := own_neL p12.lt M27_0
  have G35 : n0 ≤ ya27 := Nat.le_trans Z0 M27_0
  have M36 : h0.size ≤ ya27 := Nat.le_trans K0.1 M27_0
  have C41 := p12.keep K27
  have ni43 := (ninS ne4.symm (ninS ne13.symm (ninS ne16.symm nin0)))
  have C42 := p13.keep K27 ni43
  have K55 := K0.trans K27 (allS (Or.inl (List.mem_of_getElem? (i := 1) rfl)) (allS (Or.inl (List.mem_of_getElem? (i := 2) rfl)) (allS (Or.inl (List.mem_of_getElem? (i := 3) rfl)) all0)))
  obtain ⟨T56, h56, X56, e56, W56, st56⟩ := putFR X27 hx hZ hown (ow 246 rfl) rfl C42 C41 (ow 247 rfl) (ow 10 rfl) (ty := (.object "com/example/uncross/uncross/engine/BookSide$Level")) (by decide) rfl rfl (g := (mkF m 34 #[sR b_, sR r_, sR ya27] [(.ref ya27), (.ref r_)])) rfl rfl (dc d34_34)
  have C60 := C41.wr W56
  have C62 := (p14.keep K27 ni43).other W56 (Or.inr (sn83 hw))
  have C81 := P27_12.other W56 (Or.inl ne32.symm)
  have K84 := K55.wr W56 (Or.inl (List.mem_of_getElem? (i := 0) rfl))
  obtain ⟨T85, X85, e85, st85⟩ := getF X56 hx hZ hown (host := "") (Or.inl (ow 248 rfl)) Via.refl e56 C81 (g := (mkF m 39 #[sR b_, sR r_, sR ya27] [(.ref ya27), (.ref r_)])) rfl rfl (dc d34_39)
  obtain ⟨T86, h86, X86, e86, W86, st86⟩ := putFR X85 hx hZ hown (ow 250 rfl) e85 C62 C60 (ow 251 rfl) (ow 10 rfl) (ty := (.object "com/example/uncross/uncross/engine/BookSide$Resting")) (by decide) rfl rfl (g := (mkF m 42 #[sR b_, sR r_, sR ya27] [.null, (.ref r_)])) rfl rfl (dc d34_42)
  have C109 := (P27_10.wr W56).wr W86
  have C110 := (P27_11.other W56 (Or.inl ne32.symm)).other W86 (Or.inl ne32.symm)
  have C111 := C81.other W86 (Or.inl ne32.symm)
  have K114 := K84.wr W86 (Or.inl (List.mem_of_getElem? (i := 0) rfl))
  obtain ⟨T115, X115, e115, st115⟩ := getF X86 hx hZ hown (host := "") (Or.inl (ow 248 rfl)) Via.refl e86 C111 (g := (mkF m 46 #[sR b_, sR r_, sR ya27] [(.ref ya27)])) rfl rfl (dc d34_46)
  obtain ⟨T116, h116, X116, e116, W116, st116⟩ := putF X115 hx hZ hown (host := "") (Or.inl (ow 223 rfl)) Via.refl e115 C110 C109 (Or.inl (ow 224 rfl)) (ow 173 rfl) (ty := (.object "com/example/uncross/uncross/engine/BookSide$Resting")) (by decide) rfl rfl (g := (mkF m 54 #[sR b_, sR r_, sR ya27] [(.ref r_), (.ref ya27)])) rfl rfl (dc d34_54)
  have C139 := C109.wr W116
  have C141 := C111.other W116 (Or.inr (sn88 hw))
  have K144 := K114.wr W116 (Or.inr M36)
  obtain ⟨T145, h145, X145, e145, W145, st145⟩ := putF X116 hx hZ hown (host := "") (Or.inl (ow 248 rfl)) Via.refl e116 C141 C139 (Or.inl (ow 249 rfl)) (ow 173 rfl) (ty := (.object "com/example/uncross/uncross/engine/BookSide$Resting")) (by decide) rfl rfl (g := (mkF m 70 #[sR b_, sR r_, sR ya27] [(.ref r_), (.ref ya27)])) rfl rfl (dc d34_70)
  have N145 := Fr.snoc X145 (Fr.snoc X116 (Fr.snoc X86 (Fr.snoc X56 (Fr.app (Fr.app (Fr.app (Fr.app (Fr.nil n0) N23q) N25q) N26q) N27q) g0) g0) G35) G35
  have C146 := (((P27_0.wr W56).wr W86).wr W116).wr W145
  have C149 := ((C60.wr W86).wr W116).wr W145
  have C150 := (((C42.same W56).other W86 (Or.inr (sn85 hw))).other W116 (Or.inl ne32)).other W145 (Or.inl ne32)
  have C151 := ((C62.same W86).other W116 (Or.inl ne32)).other W145 (Or.inl ne32)
  have C152 := ((((p15.keep K27 ni43).other W56 (Or.inr (sn84 hw))).other W86 (Or.inr (sn86 hw))).other W116 (Or.inl ne32)).other W145 (Or.inl ne32)
  have C159 := (((P27_1.other W56 (Or.inl ne4)).other W86 (Or.inl ne4)).other W116 (Or.inl ne28)).other W145 (Or.inl ne28)
  have C160 := (((P27_2.other W56 (Or.inl ne4)).other W86 (Or.inl ne4)).other W116 (Or.inl ne28)).other W145 (Or.inl ne28)
  have C161 := (((P27_3.other W56 (Or.inl ne4)).other W86 (Or.inl ne4)).other W116 (Or.inl ne28)).other W145 (Or.inl ne28)
  have C162 := (((P27_4.other W56 (Or.inl ne4)).other W86 (Or.inl ne4)).other W116 (Or.inl ne28)).other W145 (Or.inl ne28)
  have C163 := (((P27_5.other W56 (Or.inl ne4)).other W86 (Or.inl ne4)).other W116 (Or.inl ne28)).other W145 (Or.inl ne28)
  have C164 := (((P27_6.other W56 (Or.inl ne4)).other W86 (Or.inl ne4)).other W116 (Or.inl ne28)).other W145 (Or.inl ne28)
  have C165 := (((P27_7.other W56 (Or.inl ne4)).other W86 (Or.inl ne4)).other W116 (Or.inl ne28)).other W145 (Or.inl ne28)
  have C166 := (((P27_8.other W56 ne13).other W86 ne13).other W116 ne30).other W145 ne30
  have C167 := (((P27_9.other W56 ne16).other W86 ne16).other W116 ne31).other W145 ne31
  have C168 := C139.wr W145
  have C169 := (C110.same W116).other W145 (Or.inr (sn90 hw))
  have C170 := C141.same W145
  have C171 := (((P27_13.other W56 (Or.inl ne32.symm)).other W86 (Or.inl ne32.symm)).other W116 (Or.inr (sn87 hw))).other W145 (Or.inr (sn89 hw))
  have K173 := K144.wr W145 (Or.inr M36)
  refine Goes.on (T' := T145) (g' := (mkF m 73 #[sR b_, sR r_, sR ya27] [])) (fun _ k => XS.astoreN X27.here hx rfl (dc d34_31) rfl rfl (l' := #[sR b_, sR r_, sR ya27]) rfl (XS.aloadN X27.here hx rfl (dc d34_32) rfl rfl (XS.aloadN X27.here hx rfl (dc d34_33) rfl rfl (st56 _ (XS.aloadN X56.here hx rfl (dc d34_37) rfl rfl (XS.aloadN X56.here hx rfl (dc d34_38) rfl rfl (st85 _ (st86 _ (XS.aloadN X86.here hx rfl (dc d34_45) rfl rfl (st115 _ (XT.ifnonnullNo X115.here hx rfl (dc d34_49) rfl (XS.aloadN X115.here hx rfl (dc d34_52) rfl rfl (XS.aloadN X115.here hx rfl (dc d34_53) rfl rfl (st116 _ (XS.goto X116.here hx rfl (pc0 := 57) (pc' := 68) rfl (dc d34_57) (by decide) (by decide) (XS.aloadN X116.here hx rfl (dc d34_68) rfl rfl (XS.aloadN X116.here hx rfl (dc d34_69) rfl rfl (st145 _ k)))))))))))))))))) ?_
  exact Goes.retV X145 hx hlk hret (dc d34_73) (by decide) (by decide) (by rw [e145]; exact ⟨ya27, rfl, N145, K173, C146, C149, C150, C151, C152, C159, C160, C161, C162, C163, C164, C165, C166, C167, C168, C169, C170, C171, M36⟩)
theorem rmAlX (l : Launch) (Z : State) (a0 : Array Value) (hw : TW Z a0) (b_ t_ A_ K_ m_ l_ f_ r_ o_ a_ q_ : Addr) (z_ cnt_ i_ : Int32) (x_ : Int64) (af_ : Nat → Value) (ks_ : Nat → Int64) (lq_ aq_ : Value) (h0 : Heap) (n0 : Nat) (Z0 : n0 ≤ h0.size) (hAB : Pays l Z (⟨"com/example/uncross/uncross/engine/BookSide", "atOrBelow", "(J)I"⟩ : MethodName) prog_15_method_15_code 7 (some .int) [] ({ frames := 1, cells := 0, slots := 0, locals := 16 } : Room) #[(.ref b_), (.long (own_key z_ x_))] h0 (fun v h L => v = some (.int i_) ∧ Fr n0 L ∧ h = h0)) (p0 : Exa Z h0 b_ k0C) (p1 : Fld Z h0 b_ k0C "buying" "Z" (.int z_)) (p2 : Fld Z h0 b_ k0C "levelCount" "I" (.int cnt_)) (p3 : Fld Z h0 b_ k0C "deep" k9C (.ref t_)) (p4 : Fld Z h0 b_ k0C "levels" k6C (.ref A_)) (p5 : Fld Z h0 b_ k0C "keys" "[J" (.ref K_)) (p6 : Fld Z h0 b_ k0C "markets" k5C (.ref m_)) (p7 : Fld Z h0 b_ k0C "emptyLevels" "I" (.int (0 : Int32))) (p8 : Exa Z h0 t_ k12C) (p9 : Fld Z h0 t_ k12C "size" "I" (.int (0 : Int32))) (p10 : Rbk Z h0 A_ k2C 64 af_) (p11 : Arf Z h0 K_ .long Value.long 64 ks_) (p12 : Exa Z h0 l_ k2C) (p13 : Fld Z h0 l_ k2C "deep" "Z" (.int (0 : Int32))) (p14 : Fld Z h0 l_ k2C "first" k4C (.ref f_)) (p15 : Fld Z h0 l_ k2C "last" k4C (.ref q_)) (p16 : Exa Z h0 r_ k1C) (p17 : Fld Z h0 r_ k1C "level" k5C .null) (p18 : Fld Z h0 r_ k1C "ahead" k4C .null) (p19 : Fld Z h0 r_ k1C "behind" k4C .null) (p20 : Fld Z h0 r_ k1C "order" k7C (.ref o_)) (p21 : Exa Z h0 o_ k3C) (p22 : Fld Z h0 o_ k3C "limit" k8C (.ref a_)) (p23 : Exa Z h0 a_ k11C) (p24 : Fld Z h0 a_ k11C "isPresent" "Z" (.int (1 : Int32))) (p25 : Fld Z h0 a_ k11C "value" "J" (.long x_)) (p26 : Exa Z h0 q_ k1C) (p27 : Fld Z h0 q_ k1C "level" k5C lq_) (p28 : Fld Z h0 q_ k1C "ahead" k4C aq_) (p29 : Fld Z h0 q_ k1C "behind" k4C .null) (q0 : r_ ≠ q_) (g0 : n0 ≤ r_) (g1 : n0 ≤ l_) (g2 : n0 ≤ q_) (hi : ¬ i_ < 0 ∧ i_.toNatClampNeg < 64) (hc5 : ¬ cnt_ = (512 : Int32)) (hq : (ks_ i_.toNatClampNeg) = (own_key z_ x_)) (hL : af_ i_.toNatClampNeg = .ref l_) :
    Pays l Z (⟨"com/example/uncross/uncross/engine/BookSide", "add", "(Lcom/example/uncross/uncross/engine/BookSide$Resting;)V"⟩ : MethodName) prog_15_method_7_code 3 none [] ({ frames := 3, cells := 1, slots := 4, locals := 60 } : Room) #[(.ref b_), (.ref r_)] h0 (fun v h L => v = none ∧ Fr n0 L ∧ Keep h0 h [r_, l_, q_] ∧ Exa Z h l_ k2C ∧ Fld Z h l_ k2C "deep" "Z" (.int (0 : Int32)) ∧ Fld Z h l_ k2C "first" k4C (.ref f_) ∧ Fld Z h l_ k2C "last" k4C (.ref r_) ∧ Exa Z h r_ k1C ∧ Fld Z h r_ k1C "level" k5C (.ref l_) ∧ Fld Z h r_ k1C "ahead" k4C (.ref q_) ∧ Fld Z h r_ k1C "behind" k4C .null ∧ Exa Z h q_ k1C ∧ Fld Z h q_ k1C "level" k5C lq_ ∧ Fld Z h q_ k1C "ahead" k4C aq_ ∧ Fld Z h q_ k1C "behind" k4C (.ref r_)) := by
  refine Pays.walk (plainFor_of_name pn_13) (fun m => ef_15 m b_ r_ ) ?_
  intro p e s m below meth c T0 X0 hx hby hml hown hnm hZ e0 hret hlk
  have dc := @Jvm.hb _ _ hby
  have ow := @own_w Z a0 hw
  have K0 := Keep.refl h0 ([r_, l_, q_] : List Addr)
  have ne27 : l_ ≠ r_ := ne_exa p12 p16 (by decide)
  have ne30 : l_ ≠ q_ := ne_exa p12 p26 (by decide)
  obtain ⟨T36, X36, e36, st36⟩ := getF X0 hx hZ hown (host := "") (Or.inl (ow 235 rfl)) Via.refl e0 p20 (g := (mkF m 1 #[sR b_, sR r_, su] [(.ref r_)])) rfl rfl (dc d34_1)
  refine Goes.on (T' := T36) (g' := (mkF m 4 #[sR b_, sR r_, su] [(.ref o_)])) (fun _ k => XS.aloadN X0.here hx rfl (dc d34_0) rfl rfl (st36 _ k)) ?_
  refine Goes.callV X36 hx hZ 0 hown (ow 236 rfl) (ow 237 rfl) (notFace_of_selects (args := #[]) (mvT hZ (ow 239 rfl))) (ow 239 rfl) (ow 238 rfl) (ow 14 rfl) (ow 240 rfl) (by decide) e36 p21 (rmMk1 l Z a0 hw o_ a_ h0 n0 Z0  p21 p22 p23 p24 ) (by decide) (by decide) (by decide) (by decide) rfl (by rw [hml]; rfl) (argsL := []) (rest := []) rfl (lenOf pd_3 rfl) rfl (own_le20 rfl) (dc d34_4) ?_
  rintro v37 T37 L37 X37 ⟨rfl, N37q, e37⟩
  show Goes p e below _ T37 (mkF m 7 #[sR b_, sR r_, su] [(.int 0)])
  obtain ⟨T38, X38, e38, st38⟩ := getF X37 hx hZ hown (host := "") (Or.inl (ow 235 rfl)) Via.refl e37 p20 (g := (mkF m 19 #[sR b_, sR r_, su] [(.ref r_), (.ref b_)])) rfl rfl (dc d34_19)
  refine Goes.on (T' := T38) (g' := (mkF m 22 #[sR b_, sR r_, su] [(.ref o_), (.ref b_)])) (fun _ k => XS.ifYes X37.here hx rfl (pc0 := 7) (pc' := 17) rfl (dc d34_7) rfl (XT.i0_eq_t (by decide)) (by decide) (by decide) (XS.aloadN X37.here hx rfl (dc d34_17) rfl rfl (XS.aloadN X37.here hx rfl (dc d34_18) rfl rfl (st38 _ k)))) ?_
  refine Goes.callV X38 hx hZ 1 hown (ow 252 rfl) (ow 253 rfl) (notFace_of_selects (args := #[]) (mvT hZ (ow 255 rfl))) (ow 255 rfl) (ow 254 rfl) (ow 14 rfl) (ow 256 rfl) (by decide) e38 p21 (rmLi l Z a0 hw o_ a_ h0 n0 Z0  p21 p22 ) (by decide) (by decide) (by decide) (by decide) rfl (by rw [hml]; rfl) (argsL := []) (rest := [(.ref b_)]) rfl (lenOf pd_21 rfl) rfl (own_le20 rfl) (dc d34_22) ?_
  rintro v39 T39 L39 X39 ⟨rfl, N39q, e39⟩
  show Goes p e below _ T39 (mkF m 25 #[sR b_, sR r_, su] [(.ref a_), (.ref b_)])
  refine Goes.callV X39 hx hZ 1 hown (ow 257 rfl) (ow 126 rfl) (notFace_of_selects (args := #[]) (mvT hZ (ow 128 rfl))) (ow 128 rfl) (ow 127 rfl) (ow 25 rfl) (ow 129 rfl) (by decide) e39 p23 (rmGa l Z a0 hw a_ x_ h0 n0 Z0  p23 p24 p25 ) (by decide) (by decide) (by decide) (by decide) rfl (by rw [hml]; rfl) (argsL := []) (rest := [(.ref b_)]) rfl (lenOf pd_14 rfl) rfl (own_le20 rfl) (dc d34_25) ?_
  rintro v40 T40 L40 X40 ⟨rfl, N40q, e40⟩
  show Goes p e below _ T40 (mkF m 28 #[sR b_, sR r_, su] [(.long x_), (.ref b_)])
  refine Goes.callP X40 hx hZ 0 hown (ow 258 rfl) (ow 259 rfl) (ow 260 rfl) (ow 166 rfl) (ow 167 rfl) (ow 261 rfl) (by decide) e40 p0 (rmLfX l Z a0 hw b_ t_ A_ K_ m_ l_ f_ z_ cnt_ i_ x_ af_ ks_ h0 n0 Z0 hAB p0 p1 p2 p3 p4 p5 p6 p7 p8 p9 p10 p11 p12 p14 hi hc5 hq hL) (by decide) (by decide) (by decide) (by decide) rfl (by rw [hml]; rfl) (argsL := [(.long x_)]) (rest := []) rfl (lenOf pd_22 rfl) rfl (own_le20 rfl) (dc d34_28) ?_
  rintro v41 T41 L41 X41 ⟨rfl, N41q, e41⟩
  show Goes p e below _ T41 (mkF m 31 #[sR b_, sR r_, su] [(.ref l_)])
  obtain ⟨T42, h42, X42, e42, W42, st42⟩ := putFR X41 hx hZ hown (ow 246 rfl) e41 p17 p16 (ow 247 rfl) (ow 10 rfl) (ty := (.object "com/example/uncross/uncross/engine/BookSide$Level")) (by decide) rfl rfl (g := (mkF m 34 #[sR b_, sR r_, sR l_] [(.ref l_), (.ref r_)])) rfl rfl (dc d34_34)
  have C58 := p15.other W42 (Or.inl ne27)
  have C59 := p16.wr W42
  have C61 := p18.other W42 (Or.inr (sn83 hw))
  have K74 := K0.wr W42 (Or.inl (List.mem_of_getElem? (i := 0) rfl))
  obtain ⟨T75, X75, e75, st75⟩ := getF X42 hx hZ hown (host := "") (Or.inl (ow 248 rfl)) Via.refl e42 C58 (g := (mkF m 39 #[sR b_, sR r_, sR l_] [(.ref l_), (.ref r_)])) rfl rfl (dc d34_39)
  obtain ⟨T76, h76, X76, e76, W76, st76⟩ := putFR X75 hx hZ hown (ow 250 rfl) e75 C61 C59 (ow 251 rfl) (ow 10 rfl) (ty := (.object "com/example/uncross/uncross/engine/BookSide$Resting")) (by decide) rfl rfl (g := (mkF m 42 #[sR b_, sR r_, sR l_] [(.ref q_), (.ref r_)])) rfl rfl (dc d34_42)
  have C92 := C58.other W76 (Or.inl ne27)
  have C103 := (p26.wr W42).wr W76
  have C106 := (p29.other W42 (Or.inl q0.symm)).other W76 (Or.inl q0.symm)
  have K108 := K74.wr W76 (Or.inl (List.mem_of_getElem? (i := 0) rfl))
  obtain ⟨T109, X109, e109, st109⟩ := getF X76 hx hZ hown (host := "") (Or.inl (ow 248 rfl)) Via.refl e76 C92 (g := (mkF m 46 #[sR b_, sR r_, sR l_] [(.ref l_)])) rfl rfl (dc d34_46)
  obtain ⟨T110, X110, e110, st110⟩ := getF X109 hx hZ hown (host := "") (Or.inl (ow 248 rfl)) Via.refl e109 C92 (g := (mkF m 61 #[sR b_, sR r_, sR l_] [(.ref l_)])) rfl rfl (dc d34_61)
  obtain ⟨T111, h111, X111, e111, W111, st111⟩ := putFR X110 hx hZ hown (ow 291 rfl) e110 C106 C103 (ow 292 rfl) (ow 10 rfl) (ty := (.object "com/example/uncross/uncross/engine/BookSide$Resting")) (by decide) rfl rfl (g := (mkF m 65 #[sR b_, sR r_, sR l_] [(.ref r_), (.ref q_)])) rfl rfl (dc d34_65)
  have C124 := ((p12.wr W42).wr W76).wr W111
  have C127 := C92.other W111 (Or.inl ne30)
  have K143 := K108.wr W111 (Or.inl (List.mem_of_getElem? (i := 2) rfl))
  obtain ⟨T144, h144, X144, e144, W144, st144⟩ := putF X111 hx hZ hown (host := "") (Or.inl (ow 248 rfl)) Via.refl e111 C127 C124 (Or.inl (ow 249 rfl)) (ow 173 rfl) (ty := (.object "com/example/uncross/uncross/engine/BookSide$Resting")) (by decide) rfl rfl (g := (mkF m 70 #[sR b_, sR r_, sR l_] [(.ref r_), (.ref l_)])) rfl rfl (dc d34_70)
  have N144 := Fr.snoc X144 (Fr.snoc X111 (Fr.snoc X76 (Fr.snoc X42 (Fr.app (Fr.app (Fr.app (Fr.app (Fr.nil n0) N37q) N39q) N40q) N41q) g0) g0) g2) g1
  have C157 := C124.wr W144
  have C158 := (((p13.other W42 (Or.inl ne27)).other W76 (Or.inl ne27)).other W111 (Or.inl ne30)).other W144 (Or.inr (sn89 hw))
  have C159 := (((p14.other W42 (Or.inl ne27)).other W76 (Or.inl ne27)).other W111 (Or.inl ne30)).other W144 (Or.inr (sn90 hw))
  have C160 := C127.same W144
  have C161 := ((C59.wr W76).wr W111).wr W144
  have C162 := (((p17.same W42).other W76 (Or.inr (sn85 hw))).other W111 (Or.inl q0)).other W144 (Or.inl ne27.symm)
  have C163 := ((C61.same W76).other W111 (Or.inl q0)).other W144 (Or.inl ne27.symm)
  have C164 := (((p19.other W42 (Or.inr (sn84 hw))).other W76 (Or.inr (sn86 hw))).other W111 (Or.inl q0)).other W144 (Or.inl ne27.symm)
  have C171 := (C103.wr W111).wr W144
  have C172 := (((p27.other W42 (Or.inl q0.symm)).other W76 (Or.inl q0.symm)).other W111 (Or.inr (sn91 hw))).other W144 (Or.inl ne30.symm)
  have C173 := (((p28.other W42 (Or.inl q0.symm)).other W76 (Or.inl q0.symm)).other W111 (Or.inr (sn92 hw))).other W144 (Or.inl ne30.symm)
  have C174 := (C106.same W111).other W144 (Or.inl ne30.symm)
  have K176 := K143.wr W144 (Or.inl (List.mem_of_getElem? (i := 1) rfl))
  refine Goes.on (T' := T144) (g' := (mkF m 73 #[sR b_, sR r_, sR l_] [])) (fun _ k => XS.astoreN X41.here hx rfl (dc d34_31) rfl rfl (l' := #[sR b_, sR r_, sR l_]) rfl (XS.aloadN X41.here hx rfl (dc d34_32) rfl rfl (XS.aloadN X41.here hx rfl (dc d34_33) rfl rfl (st42 _ (XS.aloadN X42.here hx rfl (dc d34_37) rfl rfl (XS.aloadN X42.here hx rfl (dc d34_38) rfl rfl (st75 _ (st76 _ (XS.aloadN X76.here hx rfl (dc d34_45) rfl rfl (st109 _ (XT.ifnonnullYes X109.here hx rfl (pc0 := 49) (pc' := 60) rfl (dc d34_49) rfl (by decide) (by decide) (XS.aloadN X109.here hx rfl (dc d34_60) rfl rfl (st110 _ (XS.aloadN X110.here hx rfl (dc d34_64) rfl rfl (st111 _ (XS.aloadN X111.here hx rfl (dc d34_68) rfl rfl (XS.aloadN X111.here hx rfl (dc d34_69) rfl rfl (st144 _ k)))))))))))))))))) ?_
  exact Goes.retV X144 hx hlk hret (dc d34_73) (by decide) (by decide) (by rw [e144]; exact ⟨rfl, N144, K176, C157, C158, C159, C160, C161, C162, C163, C164, C171, C172, C173, C174⟩)
abbrev c43C := prog_15_method_8_code
theorem d43_0 : decode c43C 0 = .ok (.aload_n 1, 1) := by decide +kernel
theorem d43_1 : decode c43C 1 = .ok (.getfield 60, 3) := by decide +kernel
theorem d43_4 : decode c43C 4 = .ok (.astore_n 2, 1) := by decide +kernel
theorem d43_5 : decode c43C 5 = .ok (.aload_n 1, 1) := by decide +kernel
theorem d43_6 : decode c43C 6 = .ok (.getfield 130, 3) := by decide +kernel
theorem d43_9 : decode c43C 9 = .ok (.ifnonnull 14, 3) := by decide +kernel
theorem d43_12 : decode c43C 12 = .ok (.aload_n 2, 1) := by decide +kernel
theorem d43_13 : decode c43C 13 = .ok (.aload_n 1, 1) := by decide +kernel
theorem d43_14 : decode c43C 14 = .ok (.getfield 55, 3) := by decide +kernel
theorem d43_17 : decode c43C 17 = .ok (.putfield 51, 3) := by decide +kernel
theorem d43_20 : decode c43C 20 = .ok (.goto 14, 3) := by decide +kernel
theorem d43_34 : decode c43C 34 = .ok (.aload_n 1, 1) := by decide +kernel
theorem d43_35 : decode c43C 35 = .ok (.getfield 55, 3) := by decide +kernel
theorem d43_38 : decode c43C 38 = .ok (.ifnonnull 14, 3) := by decide +kernel
theorem d43_52 : decode c43C 52 = .ok (.aload_n 1, 1) := by decide +kernel
theorem d43_53 : decode c43C 53 = .ok (.getfield 55, 3) := by decide +kernel
theorem d43_56 : decode c43C 56 = .ok (.aload_n 1, 1) := by decide +kernel
theorem d43_57 : decode c43C 57 = .ok (.getfield 130, 3) := by decide +kernel
theorem d43_60 : decode c43C 60 = .ok (.putfield 130, 3) := by decide +kernel
theorem d43_63 : decode c43C 63 = .ok (.aload_n 1, 1) := by decide +kernel
theorem d43_64 : decode c43C 64 = .ok (.aconst_null, 1) := by decide +kernel
theorem d43_65 : decode c43C 65 = .ok (.putfield 60, 3) := by decide +kernel
theorem d43_68 : decode c43C 68 = .ok (.aload_n 1, 1) := by decide +kernel
theorem d43_69 : decode c43C 69 = .ok (.aconst_null, 1) := by decide +kernel
theorem d43_70 : decode c43C 70 = .ok (.putfield 130, 3) := by decide +kernel
theorem d43_73 : decode c43C 73 = .ok (.aload_n 1, 1) := by decide +kernel
theorem d43_74 : decode c43C 74 = .ok (.aconst_null, 1) := by decide +kernel
theorem d43_75 : decode c43C 75 = .ok (.putfield 55, 3) := by decide +kernel
theorem d43_78 : decode c43C 78 = .ok (.aload_n 2, 1) := by decide +kernel
theorem d43_79 : decode c43C 79 = .ok (.getfield 51, 3) := by decide +kernel
theorem d43_82 : decode c43C 82 = .ok (.ifnonnull 11, 3) := by decide +kernel
theorem d43_93 : decode c43C 93 = .ok (.return_, 1) := by decide +kernel
theorem rmRB (l : Launch) (Z : State) (a0 : Array Value) (hw : TW Z a0) (b_ r_ l_ y_ : Addr) (ev_ ly_ by_ : Value) (h0 : Heap) (n0 : Nat) (Z0 : n0 ≤ h0.size) (p0 : Exa Z h0 r_ k1C) (p1 : Fld Z h0 r_ k1C "level" k5C (.ref l_)) (p2 : Fld Z h0 r_ k1C "ahead" k4C .null) (p3 : Fld Z h0 r_ k1C "behind" k4C (.ref y_)) (p4 : Exa Z h0 l_ k2C) (p5 : Fld Z h0 l_ k2C "deep" "Z" (.int (0 : Int32))) (p6 : Fld Z h0 l_ k2C "first" k4C (.ref r_)) (p7 : Fld Z h0 l_ k2C "last" k4C ev_) (p8 : Exa Z h0 y_ k1C) (p9 : Fld Z h0 y_ k1C "level" k5C ly_) (p10 : Fld Z h0 y_ k1C "ahead" k4C (.ref r_)) (p11 : Fld Z h0 y_ k1C "behind" k4C by_) (q0 : r_ ≠ y_) (g0 : n0 ≤ r_) (g1 : n0 ≤ l_) (g2 : n0 ≤ y_) :
    Pays l Z (⟨"com/example/uncross/uncross/engine/BookSide", "remove", "(Lcom/example/uncross/uncross/engine/BookSide$Resting;)V"⟩ : MethodName) prog_15_method_8_code 3 none [] ({ frames := 2, cells := 0, slots := 0, locals := 26 } : Room) #[(.ref b_), (.ref r_)] h0 (fun v h L => v = none ∧ Fr n0 L ∧ Keep h0 h [r_, l_, y_] ∧ Fld Z h l_ k2C "first" k4C (.ref y_)) := by
  refine Pays.walk (plainFor_of_name pn_13) (fun m => ef_15 m b_ r_ ) ?_
  intro p e s m below meth c T0 X0 hx hby hml hown hnm hZ e0 hret hlk
  have dc := @Jvm.hb _ _ hby
  have ow := @own_w Z a0 hw
  have K0 := Keep.refl h0 ([r_, l_, y_] : List Addr)
  have ne1 : r_ ≠ l_ := ne_exa p0 p4 (by decide)
  have ne2 : l_ ≠ y_ := ne_exa p4 p8 (by decide)
  obtain ⟨T6, h6, X6, e6, W6, st6⟩ := putF X0 hx hZ hown (host := "") (Or.inl (ow 223 rfl)) Via.refl e0 p6 p4 (Or.inl (ow 224 rfl)) (ow 173 rfl) (ty := (.object "com/example/uncross/uncross/engine/BookSide$Resting")) (by decide) rfl rfl (g := (mkF m 17 #[sR b_, sR r_, sR l_] [(.ref y_), (.ref l_)])) rfl rfl (dc d43_17)
  have C9 := p2.other W6 (Or.inl ne1)
  have C10 := p3.other W6 (Or.inl ne1)
  have C15 := p8.wr W6
  have C17 := p10.other W6 (Or.inl ne2.symm)
  have K20 := K0.wr W6 (Or.inl (List.mem_of_getElem? (i := 1) rfl))
  obtain ⟨T24, h24, X24, e24, W24, st24⟩ := putFR X6 hx hZ hown (ow 250 rfl) e6 C17 C15 (ow 251 rfl) (ow 10 rfl) (ty := (.object "com/example/uncross/uncross/engine/BookSide$Resting")) (by decide) rfl rfl (g := (mkF m 60 #[sR b_, sR r_, sR l_] [.null, (.ref y_)])) rfl rfl (dc d43_60)
  have C25 := (p0.wr W6).wr W24
  have C26 := (p1.other W6 (Or.inl ne1)).other W24 (Or.inl q0)
  have K38 := K20.wr W24 (Or.inl (List.mem_of_getElem? (i := 2) rfl))
  obtain ⟨T39, h39, X39, e39, W39, st39⟩ := putFR X24 hx hZ hown (ow 246 rfl) e24 C26 C25 (ow 247 rfl) (ow 10 rfl) (ty := (.object "com/example/uncross/uncross/engine/BookSide$Level")) (by decide) rfl rfl (g := (mkF m 65 #[sR b_, sR r_, sR l_] [.null, (.ref r_)])) rfl rfl (dc d43_65)
  have C40 := C25.wr W39
  have C42 := (C9.other W24 (Or.inl q0)).other W39 (Or.inr (sn83 hw))
  have K53 := K38.wr W39 (Or.inl (List.mem_of_getElem? (i := 0) rfl))
  refine Goes.on (T' := T39) (g' := (mkF m 70 #[sR b_, sR r_, sR l_] [.null, (.ref r_)])) (fun _ k => XS.aloadN X0.here hx rfl (dc d43_0) rfl rfl (getFRm X0 hx hZ hown (ow 246 rfl) e0 p1 (dc d43_1) (XS.astoreN X0.here hx rfl (dc d43_4) rfl rfl (l' := #[sR b_, sR r_, sR l_]) rfl (XS.aloadN X0.here hx rfl (dc d43_5) rfl rfl (getFRm X0 hx hZ hown (ow 250 rfl) e0 p2 (dc d43_6) (XT.ifnonnullNo X0.here hx rfl (dc d43_9) rfl (XS.aloadN X0.here hx rfl (dc d43_12) rfl rfl (XS.aloadN X0.here hx rfl (dc d43_13) rfl rfl (getFRm X0 hx hZ hown (ow 291 rfl) e0 p3 (dc d43_14) (st6 _ (XS.goto X6.here hx rfl (pc0 := 20) (pc' := 34) rfl (dc d43_20) (by decide) (by decide) (XS.aloadN X6.here hx rfl (dc d43_34) rfl rfl (getFRm X6 hx hZ hown (ow 291 rfl) e6 C10 (dc d43_35) (XT.ifnonnullYes X6.here hx rfl (pc0 := 38) (pc' := 52) rfl (dc d43_38) rfl (by decide) (by decide) (XS.aloadN X6.here hx rfl (dc d43_52) rfl rfl (getFRm X6 hx hZ hown (ow 291 rfl) e6 C10 (dc d43_53) (XS.aloadN X6.here hx rfl (dc d43_56) rfl rfl (getFRm X6 hx hZ hown (ow 250 rfl) e6 C9 (dc d43_57) (st24 _ (XS.aloadN X24.here hx rfl (dc d43_63) rfl rfl (XS.aconstNull X24.here hx rfl (dc d43_64) (st39 _ (XS.aloadN X39.here hx rfl (dc d43_68) rfl rfl (XS.aconstNull X39.here hx rfl (dc d43_69) k)))))))))))))))))))))))) ?_
  obtain ⟨T54, h54, X54, e54, W54, st54⟩ := putFR X39 hx hZ hown (ow 250 rfl) e39 C42 C40 (ow 251 rfl) (ow 10 rfl) (ty := (.object "com/example/uncross/uncross/engine/BookSide$Resting")) (by decide) rfl rfl (g := (mkF m 70 #[sR b_, sR r_, sR l_] [.null, (.ref r_)])) rfl rfl (dc d43_70)
  have C55 := C40.wr W54
  have C58 := ((C10.other W24 (Or.inl q0)).other W39 (Or.inr (sn84 hw))).other W54 (Or.inr (sn86 hw))
  have K68 := K53.wr W54 (Or.inl (List.mem_of_getElem? (i := 0) rfl))
  obtain ⟨T69, h69, X69, e69, W69, st69⟩ := putFR X54 hx hZ hown (ow 291 rfl) e54 C58 C55 (ow 292 rfl) (ow 10 rfl) (ty := (.object "com/example/uncross/uncross/engine/BookSide$Resting")) (by decide) rfl rfl (g := (mkF m 75 #[sR b_, sR r_, sR l_] [.null, (.ref r_)])) rfl rfl (dc d43_75)
  have N69 := Fr.snoc X69 (Fr.snoc X54 (Fr.snoc X39 (Fr.snoc X24 (Fr.snoc X6 (Fr.nil n0) g1) g2) g0) g0) g0
  have C76 := ((((p6.same W6).other W24 (Or.inl ne2)).other W39 (Or.inl ne1.symm)).other W54 (Or.inl ne1.symm)).other W69 (Or.inl ne1.symm)
  have K83 := K68.wr W69 (Or.inl (List.mem_of_getElem? (i := 0) rfl))
  obtain ⟨T84, X84, e84, st84⟩ := getF X69 hx hZ hown (host := "") (Or.inl (ow 223 rfl)) Via.refl e69 C76 (g := (mkF m 79 #[sR b_, sR r_, sR l_] [(.ref l_)])) rfl rfl (dc d43_79)
  refine Goes.on (T' := T84) (g' := (mkF m 93 #[sR b_, sR r_, sR l_] [])) (fun _ k => st54 _ (XS.aloadN X54.here hx rfl (dc d43_73) rfl rfl (XS.aconstNull X54.here hx rfl (dc d43_74) (st69 _ (XS.aloadN X69.here hx rfl (dc d43_78) rfl rfl (st84 _ (XT.ifnonnullYes X84.here hx rfl (pc0 := 82) (pc' := 93) rfl (dc d43_82) rfl (by decide) (by decide) k))))))) ?_
  exact Goes.retV X84 hx hlk hret (dc d43_93) (by decide) (by decide) (by rw [e84]; exact ⟨rfl, N69, K83, C76⟩)
theorem d43_23 : decode c43C 23 = .ok (.aload_n 1, 1) := by decide +kernel
theorem d43_24 : decode c43C 24 = .ok (.getfield 130, 3) := by decide +kernel
theorem d43_27 : decode c43C 27 = .ok (.aload_n 1, 1) := by decide +kernel
theorem d43_28 : decode c43C 28 = .ok (.getfield 55, 3) := by decide +kernel
theorem d43_31 : decode c43C 31 = .ok (.putfield 55, 3) := by decide +kernel
theorem d43_41 : decode c43C 41 = .ok (.aload_n 2, 1) := by decide +kernel
theorem d43_42 : decode c43C 42 = .ok (.aload_n 1, 1) := by decide +kernel
theorem d43_43 : decode c43C 43 = .ok (.getfield 130, 3) := by decide +kernel
theorem d43_46 : decode c43C 46 = .ok (.putfield 127, 3) := by decide +kernel
theorem d43_49 : decode c43C 49 = .ok (.goto 14, 3) := by decide +kernel
theorem rmRA (l : Launch) (Z : State) (a0 : Array Value) (hw : TW Z a0) (b_ r_ l_ x_ f_ : Addr) (ev_ lx_ ax_ : Value) (h0 : Heap) (n0 : Nat) (Z0 : n0 ≤ h0.size) (p0 : Exa Z h0 r_ k1C) (p1 : Fld Z h0 r_ k1C "level" k5C (.ref l_)) (p2 : Fld Z h0 r_ k1C "ahead" k4C (.ref x_)) (p3 : Fld Z h0 r_ k1C "behind" k4C .null) (p4 : Exa Z h0 l_ k2C) (p5 : Fld Z h0 l_ k2C "deep" "Z" (.int (0 : Int32))) (p6 : Fld Z h0 l_ k2C "first" k4C (.ref f_)) (p7 : Fld Z h0 l_ k2C "last" k4C ev_) (p8 : Exa Z h0 x_ k1C) (p9 : Fld Z h0 x_ k1C "level" k5C lx_) (p10 : Fld Z h0 x_ k1C "ahead" k4C ax_) (p11 : Fld Z h0 x_ k1C "behind" k4C (.ref r_)) (q0 : r_ ≠ x_) (g0 : n0 ≤ r_) (g1 : n0 ≤ l_) (g2 : n0 ≤ x_) :
    Pays l Z (⟨"com/example/uncross/uncross/engine/BookSide", "remove", "(Lcom/example/uncross/uncross/engine/BookSide$Resting;)V"⟩ : MethodName) prog_15_method_8_code 3 none [] ({ frames := 2, cells := 0, slots := 0, locals := 26 } : Room) #[(.ref b_), (.ref r_)] h0 (fun v h L => v = none ∧ Fr n0 L ∧ Keep h0 h [r_, l_, x_] ∧ Fld Z h l_ k2C "first" k4C (.ref f_)) := by
  refine Pays.walk (plainFor_of_name pn_13) (fun m => ef_15 m b_ r_ ) ?_
  intro p e s m below meth c T0 X0 hx hby hml hown hnm hZ e0 hret hlk
  have dc := @Jvm.hb _ _ hby
  have ow := @own_w Z a0 hw
  have K0 := Keep.refl h0 ([r_, l_, x_] : List Addr)
  have ne1 : r_ ≠ l_ := ne_exa p0 p4 (by decide)
  have ne2 : l_ ≠ x_ := ne_exa p4 p8 (by decide)
  obtain ⟨T7, h7, X7, e7, W7, st7⟩ := putFR X0 hx hZ hown (ow 291 rfl) e0 p11 p8 (ow 292 rfl) (ow 10 rfl) (ty := (.object "com/example/uncross/uncross/engine/BookSide$Resting")) (by decide) rfl rfl (g := (mkF m 31 #[sR b_, sR r_, sR l_] [.null, (.ref x_)])) rfl rfl (dc d43_31)
  have C10 := p2.other W7 (Or.inl q0)
  have C11 := p3.other W7 (Or.inl q0)
  have C12 := p4.wr W7
  have C15 := p7.other W7 (Or.inl ne2)
  have K21 := K0.wr W7 (Or.inl (List.mem_of_getElem? (i := 2) rfl))
  obtain ⟨T24, h24, X24, e24, W24, st24⟩ := putF X7 hx hZ hown (host := "") (Or.inl (ow 248 rfl)) Via.refl e7 C15 C12 (Or.inl (ow 249 rfl)) (ow 173 rfl) (ty := (.object "com/example/uncross/uncross/engine/BookSide$Resting")) (by decide) rfl rfl (g := (mkF m 46 #[sR b_, sR r_, sR l_] [(.ref x_), (.ref l_)])) rfl rfl (dc d43_46)
  have C25 := (p0.wr W7).wr W24
  have C26 := (p1.other W7 (Or.inl q0)).other W24 (Or.inl ne1)
  have K38 := K21.wr W24 (Or.inl (List.mem_of_getElem? (i := 1) rfl))
  obtain ⟨T39, h39, X39, e39, W39, st39⟩ := putFR X24 hx hZ hown (ow 246 rfl) e24 C26 C25 (ow 247 rfl) (ow 10 rfl) (ty := (.object "com/example/uncross/uncross/engine/BookSide$Level")) (by decide) rfl rfl (g := (mkF m 65 #[sR b_, sR r_, sR l_] [.null, (.ref r_)])) rfl rfl (dc d43_65)
  have C40 := C25.wr W39
  have C42 := (C10.other W24 (Or.inl ne1)).other W39 (Or.inr (sn83 hw))
  have K53 := K38.wr W39 (Or.inl (List.mem_of_getElem? (i := 0) rfl))
  refine Goes.on (T' := T39) (g' := (mkF m 70 #[sR b_, sR r_, sR l_] [.null, (.ref r_)])) (fun _ k => XS.aloadN X0.here hx rfl (dc d43_0) rfl rfl (getFRm X0 hx hZ hown (ow 246 rfl) e0 p1 (dc d43_1) (XS.astoreN X0.here hx rfl (dc d43_4) rfl rfl (l' := #[sR b_, sR r_, sR l_]) rfl (XS.aloadN X0.here hx rfl (dc d43_5) rfl rfl (getFRm X0 hx hZ hown (ow 250 rfl) e0 p2 (dc d43_6) (XT.ifnonnullYes X0.here hx rfl (pc0 := 9) (pc' := 23) rfl (dc d43_9) rfl (by decide) (by decide) (XS.aloadN X0.here hx rfl (dc d43_23) rfl rfl (getFRm X0 hx hZ hown (ow 250 rfl) e0 p2 (dc d43_24) (XS.aloadN X0.here hx rfl (dc d43_27) rfl rfl (getFRm X0 hx hZ hown (ow 291 rfl) e0 p3 (dc d43_28) (st7 _ (XS.aloadN X7.here hx rfl (dc d43_34) rfl rfl (getFRm X7 hx hZ hown (ow 291 rfl) e7 C11 (dc d43_35) (XT.ifnonnullNo X7.here hx rfl (dc d43_38) rfl (XS.aloadN X7.here hx rfl (dc d43_41) rfl rfl (XS.aloadN X7.here hx rfl (dc d43_42) rfl rfl (getFRm X7 hx hZ hown (ow 250 rfl) e7 C10 (dc d43_43) (st24 _ (XS.goto X24.here hx rfl (pc0 := 49) (pc' := 63) rfl (dc d43_49) (by decide) (by decide) (XS.aloadN X24.here hx rfl (dc d43_63) rfl rfl (XS.aconstNull X24.here hx rfl (dc d43_64) (st39 _ (XS.aloadN X39.here hx rfl (dc d43_68) rfl rfl (XS.aconstNull X39.here hx rfl (dc d43_69) k)))))))))))))))))))))))) ?_
  obtain ⟨T54, h54, X54, e54, W54, st54⟩ := putFR X39 hx hZ hown (ow 250 rfl) e39 C42 C40 (ow 251 rfl) (ow 10 rfl) (ty := (.object "com/example/uncross/uncross/engine/BookSide$Resting")) (by decide) rfl rfl (g := (mkF m 70 #[sR b_, sR r_, sR l_] [.null, (.ref r_)])) rfl rfl (dc d43_70)
  have C55 := C40.wr W54
  have C58 := ((C11.other W24 (Or.inl ne1)).other W39 (Or.inr (sn84 hw))).other W54 (Or.inr (sn86 hw))
  have K68 := K53.wr W54 (Or.inl (List.mem_of_getElem? (i := 0) rfl))
  obtain ⟨T69, h69, X69, e69, W69, st69⟩ := putFR X54 hx hZ hown (ow 291 rfl) e54 C58 C55 (ow 292 rfl) (ow 10 rfl) (ty := (.object "com/example/uncross/uncross/engine/BookSide$Resting")) (by decide) rfl rfl (g := (mkF m 75 #[sR b_, sR r_, sR l_] [.null, (.ref r_)])) rfl rfl (dc d43_75)
  have N69 := Fr.snoc X69 (Fr.snoc X54 (Fr.snoc X39 (Fr.snoc X24 (Fr.snoc X7 (Fr.nil n0) g2) g1) g0) g0) g0
  have C76 := ((((p6.other W7 (Or.inl ne2)).other W24 (Or.inr (sn90 hw))).other W39 (Or.inl ne1.symm)).other W54 (Or.inl ne1.symm)).other W69 (Or.inl ne1.symm)
  have K83 := K68.wr W69 (Or.inl (List.mem_of_getElem? (i := 0) rfl))
  obtain ⟨T84, X84, e84, st84⟩ := getF X69 hx hZ hown (host := "") (Or.inl (ow 223 rfl)) Via.refl e69 C76 (g := (mkF m 79 #[sR b_, sR r_, sR l_] [(.ref l_)])) rfl rfl (dc d43_79)
  refine Goes.on (T' := T84) (g' := (mkF m 93 #[sR b_, sR r_, sR l_] [])) (fun _ k => st54 _ (XS.aloadN X54.here hx rfl (dc d43_73) rfl rfl (XS.aconstNull X54.here hx rfl (dc d43_74) (st69 _ (XS.aloadN X69.here hx rfl (dc d43_78) rfl rfl (st84 _ (XT.ifnonnullYes X84.here hx rfl (pc0 := 82) (pc' := 93) rfl (dc d43_82) rfl (by decide) (by decide) k))))))) ?_
  exact Goes.retV X84 hx hlk hret (dc d43_93) (by decide) (by decide) (by rw [e84]; exact ⟨rfl, N69, K83, C76⟩)
theorem rmRD (l : Launch) (Z : State) (a0 : Array Value) (hw : TW Z a0) (b_ r_ l_ x_ y_ f_ : Addr) (ev_ lx_ ax_ ly_ by_ : Value) (h0 : Heap) (n0 : Nat) (Z0 : n0 ≤ h0.size) (p0 : Exa Z h0 r_ k1C) (p1 : Fld Z h0 r_ k1C "level" k5C (.ref l_)) (p2 : Fld Z h0 r_ k1C "ahead" k4C (.ref x_)) (p3 : Fld Z h0 r_ k1C "behind" k4C (.ref y_)) (p4 : Exa Z h0 l_ k2C) (p5 : Fld Z h0 l_ k2C "deep" "Z" (.int (0 : Int32))) (p6 : Fld Z h0 l_ k2C "first" k4C (.ref f_)) (p7 : Fld Z h0 l_ k2C "last" k4C ev_) (p8 : Exa Z h0 x_ k1C) (p9 : Fld Z h0 x_ k1C "level" k5C lx_) (p10 : Fld Z h0 x_ k1C "ahead" k4C ax_) (p11 : Fld Z h0 x_ k1C "behind" k4C (.ref r_)) (p12 : Exa Z h0 y_ k1C) (p13 : Fld Z h0 y_ k1C "level" k5C ly_) (p14 : Fld Z h0 y_ k1C "ahead" k4C (.ref r_)) (p15 : Fld Z h0 y_ k1C "behind" k4C by_) (q0 : r_ ≠ x_) (q1 : r_ ≠ y_) (q2 : x_ ≠ y_) (g0 : n0 ≤ r_) (g1 : n0 ≤ x_) (g2 : n0 ≤ y_) :
    Pays l Z (⟨"com/example/uncross/uncross/engine/BookSide", "remove", "(Lcom/example/uncross/uncross/engine/BookSide$Resting;)V"⟩ : MethodName) prog_15_method_8_code 3 none [] ({ frames := 2, cells := 0, slots := 0, locals := 26 } : Room) #[(.ref b_), (.ref r_)] h0 (fun v h L => v = none ∧ Fr n0 L ∧ Keep h0 h [r_, x_, y_]) := by
  refine Pays.walk (plainFor_of_name pn_13) (fun m => ef_15 m b_ r_ ) ?_
  intro p e s m below meth c T0 X0 hx hby hml hown hnm hZ e0 hret hlk
  have dc := @Jvm.hb _ _ hby
  have ow := @own_w Z a0 hw
  have K0 := Keep.refl h0 ([r_, x_, y_] : List Addr)
  have ne1 : r_ ≠ l_ := ne_exa p0 p4 (by decide)
  have ne2 : l_ ≠ x_ := ne_exa p4 p8 (by decide)
  have ne3 : l_ ≠ y_ := ne_exa p4 p12 (by decide)
  obtain ⟨T8, h8, X8, e8, W8, st8⟩ := putFR X0 hx hZ hown (ow 291 rfl) e0 p11 p8 (ow 292 rfl) (ow 10 rfl) (ty := (.object "com/example/uncross/uncross/engine/BookSide$Resting")) (by decide) rfl rfl (g := (mkF m 31 #[sR b_, sR r_, sR l_] [(.ref y_), (.ref x_)])) rfl rfl (dc d43_31)
  have C11 := p2.other W8 (Or.inl q0)
  have C12 := p3.other W8 (Or.inl q0)
  have C21 := p12.wr W8
  have C23 := p14.other W8 (Or.inl q2.symm)
  have K26 := K0.wr W8 (Or.inl (List.mem_of_getElem? (i := 1) rfl))
  obtain ⟨T30, h30, X30, e30, W30, st30⟩ := putFR X8 hx hZ hown (ow 250 rfl) e8 C23 C21 (ow 251 rfl) (ow 10 rfl) (ty := (.object "com/example/uncross/uncross/engine/BookSide$Resting")) (by decide) rfl rfl (g := (mkF m 60 #[sR b_, sR r_, sR l_] [(.ref x_), (.ref y_)])) rfl rfl (dc d43_60)
  have C31 := (p0.wr W8).wr W30
  have C32 := (p1.other W8 (Or.inl q0)).other W30 (Or.inl q1)
  have K48 := K26.wr W30 (Or.inl (List.mem_of_getElem? (i := 2) rfl))
  obtain ⟨T49, h49, X49, e49, W49, st49⟩ := putFR X30 hx hZ hown (ow 246 rfl) e30 C32 C31 (ow 247 rfl) (ow 10 rfl) (ty := (.object "com/example/uncross/uncross/engine/BookSide$Level")) (by decide) rfl rfl (g := (mkF m 65 #[sR b_, sR r_, sR l_] [.null, (.ref r_)])) rfl rfl (dc d43_65)
  have C50 := C31.wr W49
  have C52 := (C11.other W30 (Or.inl q1)).other W49 (Or.inr (sn83 hw))
  have K67 := K48.wr W49 (Or.inl (List.mem_of_getElem? (i := 0) rfl))
  refine Goes.on (T' := T49) (g' := (mkF m 70 #[sR b_, sR r_, sR l_] [.null, (.ref r_)])) (fun _ k => XS.aloadN X0.here hx rfl (dc d43_0) rfl rfl (getFRm X0 hx hZ hown (ow 246 rfl) e0 p1 (dc d43_1) (XS.astoreN X0.here hx rfl (dc d43_4) rfl rfl (l' := #[sR b_, sR r_, sR l_]) rfl (XS.aloadN X0.here hx rfl (dc d43_5) rfl rfl (getFRm X0 hx hZ hown (ow 250 rfl) e0 p2 (dc d43_6) (XT.ifnonnullYes X0.here hx rfl (pc0 := 9) (pc' := 23) rfl (dc d43_9) rfl (by decide) (by decide) (XS.aloadN X0.here hx rfl (dc d43_23) rfl rfl (getFRm X0 hx hZ hown (ow 250 rfl) e0 p2 (dc d43_24) (XS.aloadN X0.here hx rfl (dc d43_27) rfl rfl (getFRm X0 hx hZ hown (ow 291 rfl) e0 p3 (dc d43_28) (st8 _ (XS.aloadN X8.here hx rfl (dc d43_34) rfl rfl (getFRm X8 hx hZ hown (ow 291 rfl) e8 C12 (dc d43_35) (XT.ifnonnullYes X8.here hx rfl (pc0 := 38) (pc' := 52) rfl (dc d43_38) rfl (by decide) (by decide) (XS.aloadN X8.here hx rfl (dc d43_52) rfl rfl (getFRm X8 hx hZ hown (ow 291 rfl) e8 C12 (dc d43_53) (XS.aloadN X8.here hx rfl (dc d43_56) rfl rfl (getFRm X8 hx hZ hown (ow 250 rfl) e8 C11 (dc d43_57) (st30 _ (XS.aloadN X30.here hx rfl (dc d43_63) rfl rfl (XS.aconstNull X30.here hx rfl (dc d43_64) (st49 _ (XS.aloadN X49.here hx rfl (dc d43_68) rfl rfl (XS.aconstNull X49.here hx rfl (dc d43_69) k)))))))))))))))))))))))) ?_
  obtain ⟨T68, h68, X68, e68, W68, st68⟩ := putFR X49 hx hZ hown (ow 250 rfl) e49 C52 C50 (ow 251 rfl) (ow 10 rfl) (ty := (.object "com/example/uncross/uncross/engine/BookSide$Resting")) (by decide) rfl rfl (g := (mkF m 70 #[sR b_, sR r_, sR l_] [.null, (.ref r_)])) rfl rfl (dc d43_70)
  have C69 := C50.wr W68
  have C72 := ((C12.other W30 (Or.inl q1)).other W49 (Or.inr (sn84 hw))).other W68 (Or.inr (sn86 hw))
  have K86 := K67.wr W68 (Or.inl (List.mem_of_getElem? (i := 0) rfl))
  obtain ⟨T87, h87, X87, e87, W87, st87⟩ := putFR X68 hx hZ hown (ow 291 rfl) e68 C72 C69 (ow 292 rfl) (ow 10 rfl) (ty := (.object "com/example/uncross/uncross/engine/BookSide$Resting")) (by decide) rfl rfl (g := (mkF m 75 #[sR b_, sR r_, sR l_] [.null, (.ref r_)])) rfl rfl (dc d43_75)
  have N87 := Fr.snoc X87 (Fr.snoc X68 (Fr.snoc X49 (Fr.snoc X30 (Fr.snoc X8 (Fr.nil n0) g1) g2) g0) g0) g0
  have C94 := ((((p6.other W8 (Or.inl ne2)).other W30 (Or.inl ne3)).other W49 (Or.inl ne1.symm)).other W68 (Or.inl ne1.symm)).other W87 (Or.inl ne1.symm)
  have K105 := K86.wr W87 (Or.inl (List.mem_of_getElem? (i := 0) rfl))
  obtain ⟨T106, X106, e106, st106⟩ := getF X87 hx hZ hown (host := "") (Or.inl (ow 223 rfl)) Via.refl e87 C94 (g := (mkF m 79 #[sR b_, sR r_, sR l_] [(.ref l_)])) rfl rfl (dc d43_79)
  refine Goes.on (T' := T106) (g' := (mkF m 93 #[sR b_, sR r_, sR l_] [])) (fun _ k => st68 _ (XS.aloadN X68.here hx rfl (dc d43_73) rfl rfl (XS.aconstNull X68.here hx rfl (dc d43_74) (st87 _ (XS.aloadN X87.here hx rfl (dc d43_78) rfl rfl (st106 _ (XT.ifnonnullYes X106.here hx rfl (pc0 := 82) (pc' := 93) rfl (dc d43_82) rfl (by decide) (by decide) k))))))) ?_
  exact Goes.retV X106 hx hlk hret (dc d43_93) (by decide) (by decide) (by rw [e106]; exact ⟨rfl, N87, K105⟩)
theorem d43_85 : decode c43C 85 = .ok (.aload_n 2, 1) := by decide +kernel
theorem d43_86 : decode c43C 86 = .ok (.aload_n 0, 1) := by decide +kernel
theorem d43_87 : decode c43C 87 = .ok (.getfield 14, 3) := by decide +kernel
theorem d43_90 : decode c43C 90 = .ok (.if_acmp .ne 4, 3) := by decide +kernel
theorem rmRM (l : Launch) (Z : State) (a0 : Array Value) (hw : TW Z a0) (b_ r_ l_ : Addr) (h0 : Heap) (n0 : Nat) (Z0 : n0 ≤ h0.size) (p0 : Exa Z h0 b_ k0C) (p1 : Fld Z h0 b_ k0C "markets" k5C (.ref l_)) (p2 : Exa Z h0 r_ k1C) (p3 : Fld Z h0 r_ k1C "level" k5C (.ref l_)) (p4 : Fld Z h0 r_ k1C "ahead" k4C .null) (p5 : Fld Z h0 r_ k1C "behind" k4C .null) (p6 : Exa Z h0 l_ k2C) (p7 : Fld Z h0 l_ k2C "deep" "Z" (.int (0 : Int32))) (p8 : Fld Z h0 l_ k2C "first" k4C (.ref r_)) (p9 : Fld Z h0 l_ k2C "last" k4C (.ref r_)) (g0 : n0 ≤ r_) (g1 : n0 ≤ l_) :
    Pays l Z (⟨"com/example/uncross/uncross/engine/BookSide", "remove", "(Lcom/example/uncross/uncross/engine/BookSide$Resting;)V"⟩ : MethodName) prog_15_method_8_code 3 none [] ({ frames := 2, cells := 0, slots := 0, locals := 26 } : Room) #[(.ref b_), (.ref r_)] h0 (fun v h L => v = none ∧ Fr n0 L ∧ Keep h0 h [r_, l_] ∧ Fld Z h l_ k2C "first" k4C .null) := by
  refine Pays.walk (plainFor_of_name pn_13) (fun m => ef_15 m b_ r_ ) ?_
  intro p e s m below meth c T0 X0 hx hby hml hown hnm hZ e0 hret hlk
  have dc := @Jvm.hb _ _ hby
  have ow := @own_w Z a0 hw
  have K0 := Keep.refl h0 ([r_, l_] : List Addr)
  have ne1 : b_ ≠ r_ := ne_exa p0 p2 (by decide)
  have ne2 : b_ ≠ l_ := ne_exa p0 p6 (by decide)
  have ne3 : r_ ≠ l_ := ne_exa p2 p6 (by decide)
  obtain ⟨T7, h7, X7, e7, W7, st7⟩ := putF X0 hx hZ hown (host := "") (Or.inl (ow 223 rfl)) Via.refl e0 p8 p6 (Or.inl (ow 224 rfl)) (ow 173 rfl) (ty := (.object "com/example/uncross/uncross/engine/BookSide$Resting")) (by decide) rfl rfl (g := (mkF m 17 #[sR b_, sR r_, sR l_] [.null, (.ref l_)])) rfl rfl (dc d43_17)
  have C12 := p4.other W7 (Or.inl ne3)
  have C13 := p5.other W7 (Or.inl ne3)
  have C14 := p6.wr W7
  have C17 := p9.other W7 (Or.inr (sn88 hw))
  have K19 := K0.wr W7 (Or.inl (List.mem_of_getElem? (i := 1) rfl))
  obtain ⟨T22, h22, X22, e22, W22, st22⟩ := putF X7 hx hZ hown (host := "") (Or.inl (ow 248 rfl)) Via.refl e7 C17 C14 (Or.inl (ow 249 rfl)) (ow 173 rfl) (ty := (.object "com/example/uncross/uncross/engine/BookSide$Resting")) (by decide) rfl rfl (g := (mkF m 46 #[sR b_, sR r_, sR l_] [.null, (.ref l_)])) rfl rfl (dc d43_46)
  have C25 := (p2.wr W7).wr W22
  have C26 := (p3.other W7 (Or.inl ne3)).other W22 (Or.inl ne3)
  have K34 := K19.wr W22 (Or.inl (List.mem_of_getElem? (i := 1) rfl))
  obtain ⟨T35, h35, X35, e35, W35, st35⟩ := putFR X22 hx hZ hown (ow 246 rfl) e22 C26 C25 (ow 247 rfl) (ow 10 rfl) (ty := (.object "com/example/uncross/uncross/engine/BookSide$Level")) (by decide) rfl rfl (g := (mkF m 65 #[sR b_, sR r_, sR l_] [.null, (.ref r_)])) rfl rfl (dc d43_65)
  have C38 := C25.wr W35
  have C40 := (C12.other W22 (Or.inl ne3)).other W35 (Or.inr (sn83 hw))
  have K47 := K34.wr W35 (Or.inl (List.mem_of_getElem? (i := 0) rfl))
  refine Goes.on (T' := T35) (g' := (mkF m 70 #[sR b_, sR r_, sR l_] [.null, (.ref r_)])) (fun _ k => XS.aloadN X0.here hx rfl (dc d43_0) rfl rfl (getFRm X0 hx hZ hown (ow 246 rfl) e0 p3 (dc d43_1) (XS.astoreN X0.here hx rfl (dc d43_4) rfl rfl (l' := #[sR b_, sR r_, sR l_]) rfl (XS.aloadN X0.here hx rfl (dc d43_5) rfl rfl (getFRm X0 hx hZ hown (ow 250 rfl) e0 p4 (dc d43_6) (XT.ifnonnullNo X0.here hx rfl (dc d43_9) rfl (XS.aloadN X0.here hx rfl (dc d43_12) rfl rfl (XS.aloadN X0.here hx rfl (dc d43_13) rfl rfl (getFRm X0 hx hZ hown (ow 291 rfl) e0 p5 (dc d43_14) (st7 _ (XS.goto X7.here hx rfl (pc0 := 20) (pc' := 34) rfl (dc d43_20) (by decide) (by decide) (XS.aloadN X7.here hx rfl (dc d43_34) rfl rfl (getFRm X7 hx hZ hown (ow 291 rfl) e7 C13 (dc d43_35) (XT.ifnonnullNo X7.here hx rfl (dc d43_38) rfl (XS.aloadN X7.here hx rfl (dc d43_41) rfl rfl (XS.aloadN X7.here hx rfl (dc d43_42) rfl rfl (getFRm X7 hx hZ hown (ow 250 rfl) e7 C12 (dc d43_43) (st22 _ (XS.goto X22.here hx rfl (pc0 := 49) (pc' := 63) rfl (dc d43_49) (by decide) (by decide) (XS.aloadN X22.here hx rfl (dc d43_63) rfl rfl (XS.aconstNull X22.here hx rfl (dc d43_64) (st35 _ (XS.aloadN X35.here hx rfl (dc d43_68) rfl rfl (XS.aconstNull X35.here hx rfl (dc d43_69) k)))))))))))))))))))))))) ?_
  obtain ⟨T48, h48, X48, e48, W48, st48⟩ := putFR X35 hx hZ hown (ow 250 rfl) e35 C40 C38 (ow 251 rfl) (ow 10 rfl) (ty := (.object "com/example/uncross/uncross/engine/BookSide$Resting")) (by decide) rfl rfl (g := (mkF m 70 #[sR b_, sR r_, sR l_] [.null, (.ref r_)])) rfl rfl (dc d43_70)
  have C51 := C38.wr W48
  have C54 := ((C13.other W22 (Or.inl ne3)).other W35 (Or.inr (sn84 hw))).other W48 (Or.inr (sn86 hw))
  have K60 := K47.wr W48 (Or.inl (List.mem_of_getElem? (i := 0) rfl))
  obtain ⟨T61, h61, X61, e61, W61, st61⟩ := putFR X48 hx hZ hown (ow 291 rfl) e48 C54 C51 (ow 292 rfl) (ow 10 rfl) (ty := (.object "com/example/uncross/uncross/engine/BookSide$Resting")) (by decide) rfl rfl (g := (mkF m 75 #[sR b_, sR r_, sR l_] [.null, (.ref r_)])) rfl rfl (dc d43_75)
  have N61 := Fr.snoc X61 (Fr.snoc X48 (Fr.snoc X35 (Fr.snoc X22 (Fr.snoc X7 (Fr.nil n0) g1) g1) g0) g0) g0
  have C63 := ((((p1.other W7 (Or.inl ne2)).other W22 (Or.inl ne2)).other W35 (Or.inl ne1)).other W48 (Or.inl ne1)).other W61 (Or.inl ne1)
  have C70 := ((((p8.same W7).other W22 (Or.inr (sn90 hw))).other W35 (Or.inl ne3.symm)).other W48 (Or.inl ne3.symm)).other W61 (Or.inl ne3.symm)
  have K73 := K60.wr W61 (Or.inl (List.mem_of_getElem? (i := 0) rfl))
  obtain ⟨T74, X74, e74, st74⟩ := getF X61 hx hZ hown (host := "") (Or.inl (ow 223 rfl)) Via.refl e61 C70 (g := (mkF m 79 #[sR b_, sR r_, sR l_] [(.ref l_)])) rfl rfl (dc d43_79)
  obtain ⟨T75, X75, e75, st75⟩ := getF X74 hx hZ hown (host := "") (Or.inl (ow 181 rfl)) Via.refl e74 C63 (g := (mkF m 87 #[sR b_, sR r_, sR l_] [(.ref b_), (.ref l_)])) rfl rfl (dc d43_87)
  refine Goes.on (T' := T75) (g' := (mkF m 93 #[sR b_, sR r_, sR l_] [])) (fun _ k => st48 _ (XS.aloadN X48.here hx rfl (dc d43_73) rfl rfl (XS.aconstNull X48.here hx rfl (dc d43_74) (st61 _ (XS.aloadN X61.here hx rfl (dc d43_78) rfl rfl (st74 _ (XT.ifnonnullNo X74.here hx rfl (dc d43_82) rfl (XS.aloadN X74.here hx rfl (dc d43_85) rfl rfl (XS.aloadN X74.here hx rfl (dc d43_86) rfl rfl (st75 _ (XT.acmpNo X75.here hx rfl (dc d43_90) rfl rfl rfl (XT.aa_ne_f rfl) k))))))))))) ?_
  exact Goes.retV X75 hx hlk hret (dc d43_93) (by decide) (by decide) (by rw [e75]; exact ⟨rfl, N61, K73, C70⟩)
theorem d43_94 : decode c43C 94 = .ok (.aload_n 2, 1) := by decide +kernel
theorem d43_95 : decode c43C 95 = .ok (.getfield 63, 3) := by decide +kernel
theorem d43_98 : decode c43C 98 = .ok (.ifCond .eq 19, 3) := by decide +kernel
theorem d43_117 : decode c43C 117 = .ok (.aload_n 2, 1) := by decide +kernel
theorem d43_118 : decode c43C 118 = .ok (.aload_n 0, 1) := by decide +kernel
theorem d43_119 : decode c43C 119 = .ok (.getfield 18, 3) := by decide +kernel
theorem d43_122 : decode c43C 122 = .ok (.aload_n 0, 1) := by decide +kernel
theorem d43_123 : decode c43C 123 = .ok (.getfield 26, 3) := by decide +kernel
theorem d43_126 : decode c43C 126 = .ok (.iconst 1, 1) := by decide +kernel
theorem d43_127 : decode c43C 127 = .ok (.isub, 1) := by decide +kernel
theorem d43_128 : decode c43C 128 = .ok (.aaload, 1) := by decide +kernel
theorem d43_129 : decode c43C 129 = .ok (.if_acmp .eq 40, 3) := by decide +kernel
theorem d43_132 : decode c43C 132 = .ok (.aload_n 0, 1) := by decide +kernel
theorem d43_133 : decode c43C 133 = .ok (.dup, 1) := by decide +kernel
theorem d43_134 : decode c43C 134 = .ok (.getfield 137, 3) := by decide +kernel
theorem d43_137 : decode c43C 137 = .ok (.iconst 1, 1) := by decide +kernel
theorem d43_138 : decode c43C 138 = .ok (.iadd, 1) := by decide +kernel
theorem d43_139 : decode c43C 139 = .ok (.putfield 137, 3) := by decide +kernel
theorem d43_142 : decode c43C 142 = .ok (.aload_n 0, 1) := by decide +kernel
theorem d43_143 : decode c43C 143 = .ok (.getfield 137, 3) := by decide +kernel
theorem d43_146 : decode c43C 146 = .ok (.bipush 16, 2) := by decide +kernel
theorem d43_148 : decode c43C 148 = .ok (.if_icmp .lt 20, 3) := by decide +kernel
theorem d43_168 : decode c43C 168 = .ok (.return_, 1) := by decide +kernel
def sn93 {Z : State} {a0 : Array Value} (hw : TW Z a0) := slot_ne (Or.inl (own_w hw 190 rfl)) (Or.inl (own_w hw 303 rfl)) (by decide) (t := .int) (by decide) (t' := .int) (by decide)
def sn94 {Z : State} {a0 : Array Value} (hw : TW Z a0) := slot_ne (Or.inl (own_w hw 185 rfl)) (Or.inl (own_w hw 303 rfl)) (by decide) (t := (.array (.object "com/example/uncross/uncross/engine/BookSide$Level"))) (by decide) (t' := .int) (by decide)
def sn95 {Z : State} {a0 : Array Value} (hw : TW Z a0) := slot_ne (Or.inr (own_w hw 182 rfl)) (Or.inl (own_w hw 303 rfl)) (by decide) (t := (.object "com/example/uncross/uncross/engine/BookSide$Level")) (by decide) (t' := .int) (by decide)
theorem rmRL (l : Launch) (Z : State) (a0 : Array Value) (hw : TW Z a0) (b_ r_ l_ m_ t_ A_ p_ : Addr) (cnt_ tp_ : Int32) (af_ : Nat → Value) (h0 : Heap) (n0 : Nat) (Z0 : n0 ≤ h0.size) (p0 : Exa Z h0 b_ k0C) (p1 : Fld Z h0 b_ k0C "levelCount" "I" (.int cnt_)) (p2 : Fld Z h0 b_ k0C "deep" k9C (.ref t_)) (p3 : Fld Z h0 b_ k0C "levels" k6C (.ref A_)) (p4 : Fld Z h0 b_ k0C "markets" k5C (.ref m_)) (p5 : Fld Z h0 b_ k0C "emptyLevels" "I" (.int (0 : Int32))) (p6 : Exa Z h0 m_ k2C) (p7 : Rbk Z h0 A_ k2C 64 af_) (p8 : Exa Z h0 r_ k1C) (p9 : Fld Z h0 r_ k1C "level" k5C (.ref l_)) (p10 : Fld Z h0 r_ k1C "ahead" k4C .null) (p11 : Fld Z h0 r_ k1C "behind" k4C .null) (p12 : Exa Z h0 l_ k2C) (p13 : Fld Z h0 l_ k2C "deep" "Z" (.int (0 : Int32))) (p14 : Fld Z h0 l_ k2C "first" k4C (.ref r_)) (p15 : Fld Z h0 l_ k2C "last" k4C (.ref r_)) (p16 : Exa Z h0 p_ k2C) (q0 : l_ ≠ m_) (q1 : l_ ≠ p_) (g0 : n0 ≤ r_) (g1 : n0 ≤ l_) (g2 : n0 ≤ b_) (htp : cnt_ - (1 : Int32) = tp_) (hin : ¬ tp_ < 0 ∧ tp_.toNatClampNeg < 64) (hL : af_ tp_.toNatClampNeg = .ref p_) :
    Pays l Z (⟨"com/example/uncross/uncross/engine/BookSide", "remove", "(Lcom/example/uncross/uncross/engine/BookSide$Resting;)V"⟩ : MethodName) prog_15_method_8_code 3 none [] ({ frames := 2, cells := 0, slots := 0, locals := 26 } : Room) #[(.ref b_), (.ref r_)] h0 (fun v h L => v = none ∧ Fr n0 L ∧ Keep h0 h [r_, l_, b_] ∧ Fld Z h b_ k0C "levelCount" "I" (.int cnt_) ∧ Fld Z h b_ k0C "levels" k6C (.ref A_) ∧ Fld Z h b_ k0C "markets" k5C (.ref m_)) := by
  refine Pays.walk (plainFor_of_name pn_13) (fun m => ef_15 m b_ r_ ) ?_
  intro p e s m below meth c T0 X0 hx hby hml hown hnm hZ e0 hret hlk
  have dc := @Jvm.hb _ _ hby
  have ow := @own_w Z a0 hw
  have K0 := Keep.refl h0 ([r_, l_, b_] : List Addr)
  have ne3 : b_ ≠ r_ := ne_exa p0 p8 (by decide)
  have ne4 : b_ ≠ l_ := ne_exa p0 p12 (by decide)
  have ne9 : A_ ≠ r_ := (Rbk.neE p7 p8 (ow 10 rfl)).symm
  have ne10 : A_ ≠ l_ := (Rbk.neE p7 p12 (ow 173 rfl)).symm
  have ne12 : r_ ≠ l_ := ne_exa p8 p12 (by decide)
  obtain ⟨T17, h17, X17, e17, W17, st17⟩ := putF X0 hx hZ hown (host := "") (Or.inl (ow 223 rfl)) Via.refl e0 p14 p12 (Or.inl (ow 224 rfl)) (ow 173 rfl) (ty := (.object "com/example/uncross/uncross/engine/BookSide$Resting")) (by decide) rfl rfl (g := (mkF m 17 #[sR b_, sR r_, sR l_] [.null, (.ref l_)])) rfl rfl (dc d43_17)
  have C28 := p10.other W17 (Or.inl ne12)
  have C29 := p11.other W17 (Or.inl ne12)
  have C30 := p12.wr W17
  have C33 := p15.other W17 (Or.inr (sn88 hw))
  have K36 := K0.wr W17 (Or.inl (List.mem_of_getElem? (i := 1) rfl))
  obtain ⟨T39, h39, X39, e39, W39, st39⟩ := putF X17 hx hZ hown (host := "") (Or.inl (ow 248 rfl)) Via.refl e17 C33 C30 (Or.inl (ow 249 rfl)) (ow 173 rfl) (ty := (.object "com/example/uncross/uncross/engine/BookSide$Resting")) (by decide) rfl rfl (g := (mkF m 46 #[sR b_, sR r_, sR l_] [.null, (.ref l_)])) rfl rfl (dc d43_46)
  have C48 := (p8.wr W17).wr W39
  have C49 := (p9.other W17 (Or.inl ne12)).other W39 (Or.inl ne12)
  have K58 := K36.wr W39 (Or.inl (List.mem_of_getElem? (i := 1) rfl))
  obtain ⟨T59, h59, X59, e59, W59, st59⟩ := putFR X39 hx hZ hown (ow 246 rfl) e39 C49 C48 (ow 247 rfl) (ow 10 rfl) (ty := (.object "com/example/uncross/uncross/engine/BookSide$Level")) (by decide) rfl rfl (g := (mkF m 65 #[sR b_, sR r_, sR l_] [.null, (.ref r_)])) rfl rfl (dc d43_65)
  have C68 := C48.wr W59
  have C70 := (C28.other W39 (Or.inl ne12)).other W59 (Or.inr (sn83 hw))
  have K78 := K58.wr W59 (Or.inl (List.mem_of_getElem? (i := 0) rfl))
  refine Goes.on (T' := T59) (g' := (mkF m 70 #[sR b_, sR r_, sR l_] [.null, (.ref r_)])) (fun _ k => XS.aloadN X0.here hx rfl (dc d43_0) rfl rfl (getFRm X0 hx hZ hown (ow 246 rfl) e0 p9 (dc d43_1) (XS.astoreN X0.here hx rfl (dc d43_4) rfl rfl (l' := #[sR b_, sR r_, sR l_]) rfl (XS.aloadN X0.here hx rfl (dc d43_5) rfl rfl (getFRm X0 hx hZ hown (ow 250 rfl) e0 p10 (dc d43_6) (XT.ifnonnullNo X0.here hx rfl (dc d43_9) rfl (XS.aloadN X0.here hx rfl (dc d43_12) rfl rfl (XS.aloadN X0.here hx rfl (dc d43_13) rfl rfl (getFRm X0 hx hZ hown (ow 291 rfl) e0 p11 (dc d43_14) (st17 _ (XS.goto X17.here hx rfl (pc0 := 20) (pc' := 34) rfl (dc d43_20) (by decide) (by decide) (XS.aloadN X17.here hx rfl (dc d43_34) rfl rfl (getFRm X17 hx hZ hown (ow 291 rfl) e17 C29 (dc d43_35) (XT.ifnonnullNo X17.here hx rfl (dc d43_38) rfl (XS.aloadN X17.here hx rfl (dc d43_41) rfl rfl (XS.aloadN X17.here hx rfl (dc d43_42) rfl rfl (getFRm X17 hx hZ hown (ow 250 rfl) e17 C28 (dc d43_43) (st39 _ (XS.goto X39.here hx rfl (pc0 := 49) (pc' := 63) rfl (dc d43_49) (by decide) (by decide) (XS.aloadN X39.here hx rfl (dc d43_63) rfl rfl (XS.aconstNull X39.here hx rfl (dc d43_64) (st59 _ (XS.aloadN X59.here hx rfl (dc d43_68) rfl rfl (XS.aconstNull X59.here hx rfl (dc d43_69) k)))))))))))))))))))))))) ?_
  obtain ⟨T79, h79, X79, e79, W79, st79⟩ := putFR X59 hx hZ hown (ow 250 rfl) e59 C70 C68 (ow 251 rfl) (ow 10 rfl) (ty := (.object "com/example/uncross/uncross/engine/BookSide$Resting")) (by decide) rfl rfl (g := (mkF m 70 #[sR b_, sR r_, sR l_] [.null, (.ref r_)])) rfl rfl (dc d43_70)
  have C88 := C68.wr W79
  have C91 := ((C29.other W39 (Or.inl ne12)).other W59 (Or.inr (sn84 hw))).other W79 (Or.inr (sn86 hw))
  have K98 := K78.wr W79 (Or.inl (List.mem_of_getElem? (i := 0) rfl))
  obtain ⟨T99, h99, X99, e99, W99, st99⟩ := putFR X79 hx hZ hown (ow 291 rfl) e79 C91 C88 (ow 292 rfl) (ow 10 rfl) (ty := (.object "com/example/uncross/uncross/engine/BookSide$Resting")) (by decide) rfl rfl (g := (mkF m 75 #[sR b_, sR r_, sR l_] [.null, (.ref r_)])) rfl rfl (dc d43_75)
  have C100 := ((((p0.wr W17).wr W39).wr W59).wr W79).wr W99
  have C101 := ((((p1.other W17 (Or.inl ne4)).other W39 (Or.inl ne4)).other W59 (Or.inl ne3)).other W79 (Or.inl ne3)).other W99 (Or.inl ne3)
  have C103 := ((((p3.other W17 (Or.inl ne4)).other W39 (Or.inl ne4)).other W59 (Or.inl ne3)).other W79 (Or.inl ne3)).other W99 (Or.inl ne3)
  have C104 := ((((p4.other W17 (Or.inl ne4)).other W39 (Or.inl ne4)).other W59 (Or.inl ne3)).other W79 (Or.inl ne3)).other W99 (Or.inl ne3)
  have C105 := ((((p5.other W17 (Or.inl ne4)).other W39 (Or.inl ne4)).other W59 (Or.inl ne3)).other W79 (Or.inl ne3)).other W99 (Or.inl ne3)
  have C107 := ((((p7.other W17 ne10).other W39 ne10).other W59 ne9).other W79 ne9).other W99 ne9
  have C113 := ((((p13.other W17 (Or.inr (sn87 hw))).other W39 (Or.inr (sn89 hw))).other W59 (Or.inl ne12.symm)).other W79 (Or.inl ne12.symm)).other W99 (Or.inl ne12.symm)
  have C114 := ((((p14.same W17).other W39 (Or.inr (sn90 hw))).other W59 (Or.inl ne12.symm)).other W79 (Or.inl ne12.symm)).other W99 (Or.inl ne12.symm)
  have K118 := K98.wr W99 (Or.inl (List.mem_of_getElem? (i := 0) rfl))
  obtain ⟨T119, X119, e119, st119⟩ := getF X99 hx hZ hown (host := "") (Or.inl (ow 223 rfl)) Via.refl e99 C114 (g := (mkF m 79 #[sR b_, sR r_, sR l_] [(.ref l_)])) rfl rfl (dc d43_79)
  obtain ⟨T120, X120, e120, st120⟩ := getF X119 hx hZ hown (host := "") (Or.inl (ow 181 rfl)) Via.refl e119 C104 (g := (mkF m 87 #[sR b_, sR r_, sR l_] [(.ref b_), (.ref l_)])) rfl rfl (dc d43_87)
  obtain ⟨T121, X121, e121, st121⟩ := getF X120 hx hZ hown (host := "") (Or.inl (ow 300 rfl)) Via.refl e120 C113 (g := (mkF m 95 #[sR b_, sR r_, sR l_] [(.ref l_)])) rfl rfl (dc d43_95)
  obtain ⟨T122, X122, e122, st122⟩ := getF X121 hx hZ hown (host := "") (Or.inl (ow 184 rfl)) Via.refl e121 C103 (g := (mkF m 119 #[sR b_, sR r_, sR l_] [(.ref b_), (.ref l_)])) rfl rfl (dc d43_119)
  obtain ⟨T123, X123, e123, st123⟩ := getF X122 hx hZ hown (host := "") (Or.inl (ow 189 rfl)) Via.refl e122 C101 (g := (mkF m 123 #[sR b_, sR r_, sR l_] [(.ref b_), (.ref A_), (.ref l_)])) rfl rfl (dc d43_123)
  refine Goes.on (T' := T123) (g' := (mkF m 128 #[sR b_, sR r_, sR l_] [(.int (cnt_ - (1 : Int32))), (.ref A_), (.ref l_)])) (fun _ k => st79 _ (XS.aloadN X79.here hx rfl (dc d43_73) rfl rfl (XS.aconstNull X79.here hx rfl (dc d43_74) (st99 _ (XS.aloadN X99.here hx rfl (dc d43_78) rfl rfl (st119 _ (XT.ifnonnullNo X119.here hx rfl (dc d43_82) rfl (XS.aloadN X119.here hx rfl (dc d43_85) rfl rfl (XS.aloadN X119.here hx rfl (dc d43_86) rfl rfl (st120 _ (XT.acmpYes X120.here hx rfl (pc0 := 90) (pc' := 94) rfl (dc d43_90) rfl rfl rfl (XT.aa_ne_t (fun q => q0 (Value.ref.inj q))) (by decide) (by decide) (XS.aloadN X120.here hx rfl (dc d43_94) rfl rfl (st121 _ (XS.ifYes X121.here hx rfl (pc0 := 98) (pc' := 117) rfl (dc d43_98) rfl (XT.i0_eq_t (by decide)) (by decide) (by decide) (XS.aloadN X121.here hx rfl (dc d43_117) rfl rfl (XS.aloadN X121.here hx rfl (dc d43_118) rfl rfl (st122 _ (XS.aloadN X122.here hx rfl (dc d43_122) rfl rfl (st123 _ (XS.iconst X123.here hx rfl (dc d43_126) (XS.isub X123.here hx rfl (dc d43_127) rfl k))))))))))))))))))))) ?_
  rw [htp]
  refine Goes.on (T' := T123) (g' := (mkF m 129 #[sR b_, sR r_, sR l_] [(af_ tp_.toNatClampNeg), (.ref l_)])) (fun _ k => ldRm X123 hx hZ e123 C107 hin (dc d43_128) k) ?_
  rw [hL]
  obtain ⟨T124, X124, e124, st124⟩ := getF X123 hx hZ hown (host := "") (Or.inl (ow 302 rfl)) Via.refl e123 C105 (g := (mkF m 134 #[sR b_, sR r_, sR l_] [(.ref b_), (.ref b_)])) rfl rfl (dc d43_134)
  obtain ⟨T125, h125, X125, e125, W125, st125⟩ := putF X124 hx hZ hown (host := "") (Or.inl (ow 302 rfl)) Via.refl e124 C105 C100 (Or.inl (ow 303 rfl)) (ow 166 rfl) (ty := .int) (by decide) rfl rfl (g := (mkF m 139 #[sR b_, sR r_, sR l_] [(.int 1), (.ref b_)])) rfl rfl (dc d43_139)
  have N125 := Fr.snoc X125 (Fr.snoc X99 (Fr.snoc X79 (Fr.snoc X59 (Fr.snoc X39 (Fr.snoc X17 (Fr.nil n0) g1) g1) g0) g0) g0) g2
  have C127 := C101.other W125 (Or.inr (sn93 hw))
  have C129 := C103.other W125 (Or.inr (sn94 hw))
  have C130 := C104.other W125 (Or.inr (sn95 hw))
  have C131 := C105.same W125
  have K144 := K118.wr W125 (Or.inl (List.mem_of_getElem? (i := 2) rfl))
  obtain ⟨T145, X145, e145, st145⟩ := getF X125 hx hZ hown (host := "") (Or.inl (ow 302 rfl)) Via.refl e125 C131 (g := (mkF m 143 #[sR b_, sR r_, sR l_] [(.ref b_)])) rfl rfl (dc d43_143)
  refine Goes.on (T' := T145) (g' := (mkF m 168 #[sR b_, sR r_, sR l_] [])) (fun _ k => XT.acmpNo X123.here hx rfl (dc d43_129) rfl rfl rfl (XT.aa_eq_f (fun q => q1 (Value.ref.inj q))) (XS.aloadN X123.here hx rfl (dc d43_132) rfl rfl (XS.dup X123.here hx rfl (dc d43_133) rfl rfl (st124 _ (XS.iconst X124.here hx rfl (dc d43_137) (XS.iadd X124.here hx rfl (dc d43_138) rfl (st125 _ (XS.aloadN X125.here hx rfl (dc d43_142) rfl rfl (st145 _ (XS.bipush X145.here hx rfl (dc d43_146) (XS.icmpYes X145.here hx rfl (pc0 := 148) (pc' := 168) rfl (dc d43_148) rfl (XT.ii_lt_t (by decide)) (by decide) (by decide) k))))))))))) ?_
  exact Goes.retV X145 hx hlk hret (dc d43_168) (by decide) (by decide) (by rw [e145]; exact ⟨rfl, N125, K144, C127, C129, C130⟩)
theorem d43_169 : decode c43C 169 = .ok (.aload_n 0, 1) := by decide +kernel
theorem d43_170 : decode c43C 170 = .ok (.getfield 18, 3) := by decide +kernel
theorem d43_173 : decode c43C 173 = .ok (.aload_n 0, 1) := by decide +kernel
theorem d43_174 : decode c43C 174 = .ok (.dup, 1) := by decide +kernel
theorem d43_175 : decode c43C 175 = .ok (.getfield 26, 3) := by decide +kernel
theorem d43_178 : decode c43C 178 = .ok (.iconst 1, 1) := by decide +kernel
theorem d43_179 : decode c43C 179 = .ok (.isub, 1) := by decide +kernel
theorem d43_180 : decode c43C 180 = .ok (.dup_x1, 1) := by decide +kernel
theorem d43_181 : decode c43C 181 = .ok (.putfield 26, 3) := by decide +kernel
theorem d43_184 : decode c43C 184 = .ok (.aconst_null, 1) := by decide +kernel
theorem d43_185 : decode c43C 185 = .ok (.aastore, 1) := by decide +kernel
theorem d43_186 : decode c43C 186 = .ok (.aload_n 0, 1) := by decide +kernel
theorem d43_187 : decode c43C 187 = .ok (.getfield 26, 3) := by decide +kernel
theorem d43_190 : decode c43C 190 = .ok (.iconst 1, 1) := by decide +kernel
theorem d43_191 : decode c43C 191 = .ok (.if_icmp .le 50, 3) := by decide +kernel
theorem d43_194 : decode c43C 194 = .ok (.aload_n 0, 1) := by decide +kernel
theorem d43_195 : decode c43C 195 = .ok (.getfield 18, 3) := by decide +kernel
theorem d43_198 : decode c43C 198 = .ok (.aload_n 0, 1) := by decide +kernel
theorem d43_199 : decode c43C 199 = .ok (.getfield 26, 3) := by decide +kernel
theorem d43_202 : decode c43C 202 = .ok (.iconst 1, 1) := by decide +kernel
theorem d43_203 : decode c43C 203 = .ok (.isub, 1) := by decide +kernel
theorem d43_204 : decode c43C 204 = .ok (.aaload, 1) := by decide +kernel
theorem d43_205 : decode c43C 205 = .ok (.getfield 51, 3) := by decide +kernel
theorem d43_208 : decode c43C 208 = .ok (.ifnonnull 33, 3) := by decide +kernel
theorem d43_241 : decode c43C 241 = .ok (.aload_n 0, 1) := by decide +kernel
theorem d43_242 : decode c43C 242 = .ok (.getfield 33, 3) := by decide +kernel
theorem d43_245 : decode c43C 245 = .ok (.invokevirtual 143, 3) := by decide +kernel
theorem d43_248 : decode c43C 248 = .ok (.ifCond .ne 15, 3) := by decide +kernel
theorem d43_263 : decode c43C 263 = .ok (.return_, 1) := by decide +kernel
theorem rmRT (l : Launch) (Z : State) (a0 : Array Value) (hw : TW Z a0) (b_ r_ l_ m_ t_ A_ p_ f_ : Addr) (cnt_ tp_ tq_ : Int32) (af_ : Nat → Value) (h0 : Heap) (n0 : Nat) (Z0 : n0 ≤ h0.size) (p0 : Exa Z h0 b_ k0C) (p1 : Fld Z h0 b_ k0C "levelCount" "I" (.int cnt_)) (p2 : Fld Z h0 b_ k0C "deep" k9C (.ref t_)) (p3 : Fld Z h0 b_ k0C "levels" k6C (.ref A_)) (p4 : Fld Z h0 b_ k0C "markets" k5C (.ref m_)) (p5 : Fld Z h0 b_ k0C "emptyLevels" "I" (.int (0 : Int32))) (p6 : Exa Z h0 m_ k2C) (p7 : Rbk Z h0 A_ k2C 64 af_) (p8 : Exa Z h0 r_ k1C) (p9 : Fld Z h0 r_ k1C "level" k5C (.ref l_)) (p10 : Fld Z h0 r_ k1C "ahead" k4C .null) (p11 : Fld Z h0 r_ k1C "behind" k4C .null) (p12 : Exa Z h0 l_ k2C) (p13 : Fld Z h0 l_ k2C "deep" "Z" (.int (0 : Int32))) (p14 : Fld Z h0 l_ k2C "first" k4C (.ref r_)) (p15 : Fld Z h0 l_ k2C "last" k4C (.ref r_)) (p16 : Exa Z h0 t_ k12C) (p17 : Fld Z h0 t_ k12C "size" "I" (.int (0 : Int32))) (p18 : Exa Z h0 p_ k2C) (p19 : Fld Z h0 p_ k2C "first" k4C (.ref f_)) (q0 : l_ ≠ m_) (q1 : l_ ≠ p_) (g0 : n0 ≤ r_) (g1 : n0 ≤ l_) (g2 : n0 ≤ b_) (g3 : n0 ≤ A_) (htp : cnt_ - (1 : Int32) = tp_) (hin : ¬ tp_ < 0 ∧ tp_.toNatClampNeg < 64) (h1 : (1 : Int32) < tp_) (htq : tp_ - (1 : Int32) = tq_) (hin2 : ¬ tq_ < 0 ∧ tq_.toNatClampNeg < 64) (hne : tq_.toNatClampNeg ≠ tp_.toNatClampNeg) (hL : af_ tp_.toNatClampNeg = .ref l_) (hL2 : af_ tq_.toNatClampNeg = .ref p_) :
    Pays l Z (⟨"com/example/uncross/uncross/engine/BookSide", "remove", "(Lcom/example/uncross/uncross/engine/BookSide$Resting;)V"⟩ : MethodName) prog_15_method_8_code 3 none [] ({ frames := 2, cells := 0, slots := 0, locals := 26 } : Room) #[(.ref b_), (.ref r_)] h0 (fun v h L => v = none ∧ Fr n0 L ∧ Keep h0 h [r_, l_, b_, A_] ∧ Fld Z h b_ k0C "levelCount" "I" (.int tp_) ∧ Fld Z h b_ k0C "levels" k6C (.ref A_) ∧ Fld Z h b_ k0C "markets" k5C (.ref m_) ∧ Rbk Z h A_ k2C 64 (Upd af_ tp_.toNatClampNeg .null)) := by
  refine Pays.walk (plainFor_of_name pn_13) (fun m => ef_15 m b_ r_ ) ?_
  intro p e s m below meth c T0 X0 hx hby hml hown hnm hZ e0 hret hlk
  have dc := @Jvm.hb _ _ hby
  have ow := @own_w Z a0 hw
  have K0 := Keep.refl h0 ([r_, l_, b_, A_] : List Addr)
  have ne2 : b_ ≠ A_ := Rbk.neE p7 p0 (ow 166 rfl)
  have ne3 : b_ ≠ r_ := ne_exa p0 p8 (by decide)
  have ne4 : b_ ≠ l_ := ne_exa p0 p12 (by decide)
  have ne5 : b_ ≠ t_ := ne_exa p0 p16 (by decide)
  have ne6 : b_ ≠ p_ := ne_exa p0 p18 (by decide)
  have ne11 : A_ ≠ r_ := (Rbk.neE p7 p8 (ow 10 rfl)).symm
  have ne12 : A_ ≠ l_ := (Rbk.neE p7 p12 (ow 173 rfl)).symm
  have ne13 : A_ ≠ t_ := (Rbk.neE p7 p16 (ow 192 rfl)).symm
  have ne14 : A_ ≠ p_ := (Rbk.neE p7 p18 (ow 173 rfl)).symm
  have ne15 : r_ ≠ l_ := ne_exa p8 p12 (by decide)
  have ne16 : r_ ≠ t_ := ne_exa p8 p16 (by decide)
  have ne17 : r_ ≠ p_ := ne_exa p8 p18 (by decide)
  have ne18 : l_ ≠ t_ := ne_exa p12 p16 (by decide)
  obtain ⟨T23, h23, X23, e23, W23, st23⟩ := putF X0 hx hZ hown (host := "") (Or.inl (ow 223 rfl)) Via.refl e0 p14 p12 (Or.inl (ow 224 rfl)) (ow 173 rfl) (ty := (.object "com/example/uncross/uncross/engine/BookSide$Resting")) (by decide) rfl rfl (g := (mkF m 17 #[sR b_, sR r_, sR l_] [.null, (.ref l_)])) rfl rfl (dc d43_17)
  have C34 := p10.other W23 (Or.inl ne15)
  have C35 := p11.other W23 (Or.inl ne15)
  have C36 := p12.wr W23
  have C39 := p15.other W23 (Or.inr (sn88 hw))
  have Z44 := own_leW W23 Z0
  have K45 := K0.wr W23 (Or.inl (List.mem_of_getElem? (i := 1) rfl))
  obtain ⟨T48, h48, X48, e48, W48, st48⟩ := putF X23 hx hZ hown (host := "") (Or.inl (ow 248 rfl)) Via.refl e23 C39 C36 (Or.inl (ow 249 rfl)) (ow 173 rfl) (ty := (.object "com/example/uncross/uncross/engine/BookSide$Resting")) (by decide) rfl rfl (g := (mkF m 46 #[sR b_, sR r_, sR l_] [.null, (.ref l_)])) rfl rfl (dc d43_46)
  have C57 := (p8.wr W23).wr W48
  have C58 := (p9.other W23 (Or.inl ne15)).other W48 (Or.inl ne15)
  have Z69 := own_leW W48 Z44
  have K70 := K45.wr W48 (Or.inl (List.mem_of_getElem? (i := 1) rfl))
  obtain ⟨T71, h71, X71, e71, W71, st71⟩ := putFR X48 hx hZ hown (ow 246 rfl) e48 C58 C57 (ow 247 rfl) (ow 10 rfl) (ty := (.object "com/example/uncross/uncross/engine/BookSide$Level")) (by decide) rfl rfl (g := (mkF m 65 #[sR b_, sR r_, sR l_] [.null, (.ref r_)])) rfl rfl (dc d43_65)
  have C80 := C57.wr W71
  have C82 := (C34.other W48 (Or.inl ne15)).other W71 (Or.inr (sn83 hw))
  have Z92 := own_leW W71 Z69
  have K93 := K70.wr W71 (Or.inl (List.mem_of_getElem? (i := 0) rfl))
  refine Goes.on (T' := T71) (g' := (mkF m 70 #[sR b_, sR r_, sR l_] [.null, (.ref r_)])) (fun _ k => XS.aloadN X0.here hx rfl (dc d43_0) rfl rfl (getFRm X0 hx hZ hown (ow 246 rfl) e0 p9 (dc d43_1) (XS.astoreN X0.here hx rfl (dc d43_4) rfl rfl (l' := #[sR b_, sR r_, sR l_]) rfl (XS.aloadN X0.here hx rfl (dc d43_5) rfl rfl (getFRm X0 hx hZ hown (ow 250 rfl) e0 p10 (dc d43_6) (XT.ifnonnullNo X0.here hx rfl (dc d43_9) rfl (XS.aloadN X0.here hx rfl (dc d43_12) rfl rfl (XS.aloadN X0.here hx rfl (dc d43_13) rfl rfl (getFRm X0 hx hZ hown (ow 291 rfl) e0 p11 (dc d43_14) (st23 _ (XS.goto X23.here hx rfl (pc0 := 20) (pc' := 34) rfl (dc d43_20) (by decide) (by decide) (XS.aloadN X23.here hx rfl (dc d43_34) rfl rfl (getFRm X23 hx hZ hown (ow 291 rfl) e23 C35 (dc d43_35) (XT.ifnonnullNo X23.here hx rfl (dc d43_38) rfl (XS.aloadN X23.here hx rfl (dc d43_41) rfl rfl (XS.aloadN X23.here hx rfl (dc d43_42) rfl rfl (getFRm X23 hx hZ hown (ow 250 rfl) e23 C34 (dc d43_43) (st48 _ (XS.goto X48.here hx rfl (pc0 := 49) (pc' := 63) rfl (dc d43_49) (by decide) (by decide) (XS.aloadN X48.here hx rfl (dc d43_63) rfl rfl (XS.aconstNull X48.here hx rfl (dc d43_64) (st71 _ (XS.aloadN X71.here hx rfl (dc d43_68) rfl rfl (XS.aconstNull X71.here hx rfl (dc d43_69) k)))))))))))))))))))))))) ?_
  obtain ⟨T94, h94, X94, e94, W94, st94⟩ := putFR X71 hx hZ hown (ow 250 rfl) e71 C82 C80 (ow 251 rfl) (ow 10 rfl) (ty := (.object "com/example/uncross/uncross/engine/BookSide$Resting")) (by decide) rfl rfl (g := (mkF m 70 #[sR b_, sR r_, sR l_] [.null, (.ref r_)])) rfl rfl (dc d43_70)
  have C103 := C80.wr W94
  have C106 := ((C35.other W48 (Or.inl ne15)).other W71 (Or.inr (sn84 hw))).other W94 (Or.inr (sn86 hw))
  have Z115 := own_leW W94 Z92
  have K116 := K93.wr W94 (Or.inl (List.mem_of_getElem? (i := 0) rfl))
  obtain ⟨T117, h117, X117, e117, W117, st117⟩ := putFR X94 hx hZ hown (ow 291 rfl) e94 C106 C103 (ow 292 rfl) (ow 10 rfl) (ty := (.object "com/example/uncross/uncross/engine/BookSide$Resting")) (by decide) rfl rfl (g := (mkF m 75 #[sR b_, sR r_, sR l_] [.null, (.ref r_)])) rfl rfl (dc d43_75)
  have C118 := ((((p0.wr W23).wr W48).wr W71).wr W94).wr W117
  have C119 := ((((p1.other W23 (Or.inl ne4)).other W48 (Or.inl ne4)).other W71 (Or.inl ne3)).other W94 (Or.inl ne3)).other W117 (Or.inl ne3)
  have C121 := ((((p3.other W23 (Or.inl ne4)).other W48 (Or.inl ne4)).other W71 (Or.inl ne3)).other W94 (Or.inl ne3)).other W117 (Or.inl ne3)
  have C122 := ((((p4.other W23 (Or.inl ne4)).other W48 (Or.inl ne4)).other W71 (Or.inl ne3)).other W94 (Or.inl ne3)).other W117 (Or.inl ne3)
  have C125 := ((((p7.other W23 ne12).other W48 ne12).other W71 ne11).other W94 ne11).other W117 ne11
  have C131 := ((((p13.other W23 (Or.inr (sn87 hw))).other W48 (Or.inr (sn89 hw))).other W71 (Or.inl ne15.symm)).other W94 (Or.inl ne15.symm)).other W117 (Or.inl ne15.symm)
  have C132 := ((((p14.same W23).other W48 (Or.inr (sn90 hw))).other W71 (Or.inl ne15.symm)).other W94 (Or.inl ne15.symm)).other W117 (Or.inl ne15.symm)
  have Z138 := own_leW W117 Z115
  have K139 := K116.wr W117 (Or.inl (List.mem_of_getElem? (i := 0) rfl))
  obtain ⟨T140, X140, e140, st140⟩ := getF X117 hx hZ hown (host := "") (Or.inl (ow 223 rfl)) Via.refl e117 C132 (g := (mkF m 79 #[sR b_, sR r_, sR l_] [(.ref l_)])) rfl rfl (dc d43_79)
  obtain ⟨T141, X141, e141, st141⟩ := getF X140 hx hZ hown (host := "") (Or.inl (ow 181 rfl)) Via.refl e140 C122 (g := (mkF m 87 #[sR b_, sR r_, sR l_] [(.ref b_), (.ref l_)])) rfl rfl (dc d43_87)
  obtain ⟨T142, X142, e142, st142⟩ := getF X141 hx hZ hown (host := "") (Or.inl (ow 300 rfl)) Via.refl e141 C131 (g := (mkF m 95 #[sR b_, sR r_, sR l_] [(.ref l_)])) rfl rfl (dc d43_95)
  obtain ⟨T143, X143, e143, st143⟩ := getF X142 hx hZ hown (host := "") (Or.inl (ow 184 rfl)) Via.refl e142 C121 (g := (mkF m 119 #[sR b_, sR r_, sR l_] [(.ref b_), (.ref l_)])) rfl rfl (dc d43_119)
  obtain ⟨T144, X144, e144, st144⟩ := getF X143 hx hZ hown (host := "") (Or.inl (ow 189 rfl)) Via.refl e143 C119 (g := (mkF m 123 #[sR b_, sR r_, sR l_] [(.ref b_), (.ref A_), (.ref l_)])) rfl rfl (dc d43_123)
  refine Goes.on (T' := T144) (g' := (mkF m 128 #[sR b_, sR r_, sR l_] [(.int (cnt_ - (1 : Int32))), (.ref A_), (.ref l_)])) (fun _ k => st94 _ (XS.aloadN X94.here hx rfl (dc d43_73) rfl rfl (XS.aconstNull X94.here hx rfl (dc d43_74) (st117 _ (XS.aloadN X117.here hx rfl (dc d43_78) rfl rfl (st140 _ (XT.ifnonnullNo X140.here hx rfl (dc d43_82) rfl (XS.aloadN X140.here hx rfl (dc d43_85) rfl rfl (XS.aloadN X140.here hx rfl (dc d43_86) rfl rfl (st141 _ (XT.acmpYes X141.here hx rfl (pc0 := 90) (pc' := 94) rfl (dc d43_90) rfl rfl rfl (XT.aa_ne_t (fun q => q0 (Value.ref.inj q))) (by decide) (by decide) (XS.aloadN X141.here hx rfl (dc d43_94) rfl rfl (st142 _ (XS.ifYes X142.here hx rfl (pc0 := 98) (pc' := 117) rfl (dc d43_98) rfl (XT.i0_eq_t (by decide)) (by decide) (by decide) (XS.aloadN X142.here hx rfl (dc d43_117) rfl rfl (XS.aloadN X142.here hx rfl (dc d43_118) rfl rfl (st143 _ (XS.aloadN X143.here hx rfl (dc d43_122) rfl rfl (st144 _ (XS.iconst X144.here hx rfl (dc d43_126) (XS.isub X144.here hx rfl (dc d43_127) rfl k))))))))))))))))))))) ?_
  rw [htp]
  refine Goes.on (T' := T144) (g' := (mkF m 129 #[sR b_, sR r_, sR l_] [(af_ tp_.toNatClampNeg), (.ref l_)])) (fun _ k => ldRm X144 hx hZ e144 C125 hin (dc d43_128) k) ?_
  rw [hL]
  obtain ⟨T145, X145, e145, st145⟩ := getF X144 hx hZ hown (host := "") (Or.inl (ow 184 rfl)) Via.refl e144 C121 (g := (mkF m 170 #[sR b_, sR r_, sR l_] [(.ref b_)])) rfl rfl (dc d43_170)
  obtain ⟨T146, X146, e146, st146⟩ := getF X145 hx hZ hown (host := "") (Or.inl (ow 189 rfl)) Via.refl e145 C119 (g := (mkF m 175 #[sR b_, sR r_, sR l_] [(.ref b_), (.ref b_), (.ref A_)])) rfl rfl (dc d43_175)
  refine Goes.on (T' := T146) (g' := (mkF m 180 #[sR b_, sR r_, sR l_] [(.int (cnt_ - (1 : Int32))), (.ref b_), (.ref A_)])) (fun _ k => XT.acmpYes X144.here hx rfl (pc0 := 129) (pc' := 169) rfl (dc d43_129) rfl rfl rfl (XT.aa_eq_t rfl) (by decide) (by decide) (XS.aloadN X144.here hx rfl (dc d43_169) rfl rfl (st145 _ (XS.aloadN X145.here hx rfl (dc d43_173) rfl rfl (XS.dup X145.here hx rfl (dc d43_174) rfl rfl (st146 _ (XS.iconst X146.here hx rfl (dc d43_178) (XS.isub X146.here hx rfl (dc d43_179) rfl k)))))))) ?_
  rw [htp]
  obtain ⟨T147, h147, X147, e147, W147, st147⟩ := putF X146 hx hZ hown (host := "") (Or.inl (ow 189 rfl)) Via.refl e146 C119 C118 (Or.inl (ow 190 rfl)) (ow 166 rfl) (ty := .int) (by decide) rfl rfl (g := (mkF m 181 #[sR b_, sR r_, sR l_] [(.int tp_), (.ref b_), (.int tp_), (.ref A_)])) rfl rfl (dc d43_181)
  have C155 := C125.other W147 ne2.symm
  have Z168 := own_leW W147 Z138
  have K169 := K139.wr W147 (Or.inl (List.mem_of_getElem? (i := 2) rfl))
  obtain ⟨T170, h170, X170, e170, W170, B170, st170⟩ := wrR X147 hx hZ e147 C155 (Or.inl rfl) hin (g := (mkF m 185 #[sR b_, sR r_, sR l_] [.null, (.int tp_), (.ref A_)])) rfl rfl (dc d43_185)
  have C172 := (C119.same W147).other W170 (Or.inl ne2)
  have C173 := ((((((p2.other W23 (Or.inl ne4)).other W48 (Or.inl ne4)).other W71 (Or.inl ne3)).other W94 (Or.inl ne3)).other W117 (Or.inl ne3)).other W147 (Or.inr (sn69 hw))).other W170 (Or.inl ne2)
  have C174 := (C121.other W147 (Or.inr (sn65 hw))).other W170 (Or.inl ne2)
  have C175 := (C122.other W147 (Or.inr (sn68 hw))).other W170 (Or.inl ne2)
  have C186 := ((((((p16.wr W23).wr W48).wr W71).wr W94).wr W117).wr W147).wr W170
  have C187 := ((((((p17.other W23 (Or.inl ne18.symm)).other W48 (Or.inl ne18.symm)).other W71 (Or.inl ne16.symm)).other W94 (Or.inl ne16.symm)).other W117 (Or.inl ne16.symm)).other W147 (Or.inl ne5.symm)).other W170 (Or.inl ne13.symm)
  have C189 := ((((((p19.other W23 (Or.inl q1.symm)).other W48 (Or.inl q1.symm)).other W71 (Or.inl ne17.symm)).other W94 (Or.inl ne17.symm)).other W117 (Or.inl ne17.symm)).other W147 (Or.inl ne6.symm)).other W170 (Or.inl ne14.symm)
  have Z190 := own_leW W170 Z168
  have K191 := K169.wr W170 (Or.inl (List.mem_of_getElem? (i := 3) rfl))
  have B170 : Rbk Z h170 A_ "com/example/uncross/uncross/engine/BookSide$Level" 64 (Upd af_ tp_.toNatClampNeg .null) := B170
  obtain ⟨T192, X192, e192, st192⟩ := getF X170 hx hZ hown (host := "") (Or.inl (ow 189 rfl)) Via.refl e170 C172 (g := (mkF m 187 #[sR b_, sR r_, sR l_] [(.ref b_)])) rfl rfl (dc d43_187)
  obtain ⟨T193, X193, e193, st193⟩ := getF X192 hx hZ hown (host := "") (Or.inl (ow 184 rfl)) Via.refl e192 C174 (g := (mkF m 195 #[sR b_, sR r_, sR l_] [(.ref b_)])) rfl rfl (dc d43_195)
  obtain ⟨T194, X194, e194, st194⟩ := getF X193 hx hZ hown (host := "") (Or.inl (ow 189 rfl)) Via.refl e193 C172 (g := (mkF m 199 #[sR b_, sR r_, sR l_] [(.ref b_), (.ref A_)])) rfl rfl (dc d43_199)
  refine Goes.on (T' := T194) (g' := (mkF m 204 #[sR b_, sR r_, sR l_] [(.int (tp_ - (1 : Int32))), (.ref A_)])) (fun _ k => XT.dupX1 X146.here hx rfl (dc d43_180) rfl rfl rfl (st147 _ (XS.aconstNull X147.here hx rfl (dc d43_184) (st170 _ (XS.aloadN X170.here hx rfl (dc d43_186) rfl rfl (st192 _ (XS.iconst X192.here hx rfl (dc d43_190) (XS.icmpNo X192.here hx rfl (dc d43_191) rfl (XT.ii_le_f h1) (XS.aloadN X192.here hx rfl (dc d43_194) rfl rfl (st193 _ (XS.aloadN X193.here hx rfl (dc d43_198) rfl rfl (st194 _ (XS.iconst X194.here hx rfl (dc d43_202) (XS.isub X194.here hx rfl (dc d43_203) rfl k)))))))))))))) ?_
  rw [htq]
  refine Goes.on (T' := T194) (g' := (mkF m 205 #[sR b_, sR r_, sR l_] [((Upd af_ tp_.toNatClampNeg .null) tq_.toNatClampNeg)])) (fun _ k => ldRm X194 hx hZ e194 B170 hin2 (dc d43_204) k) ?_
  rw [(updN af_ .null hne).trans hL2]
  obtain ⟨T195, X195, e195, st195⟩ := getF X194 hx hZ hown (host := "") (Or.inl (ow 223 rfl)) Via.refl e194 C189 (g := (mkF m 205 #[sR b_, sR r_, sR l_] [(.ref p_)])) rfl rfl (dc d43_205)
  obtain ⟨T196, X196, e196, st196⟩ := getF X195 hx hZ hown (host := "") (Or.inl (ow 210 rfl)) Via.refl e195 C173 (g := (mkF m 242 #[sR b_, sR r_, sR l_] [(.ref b_)])) rfl rfl (dc d43_242)
  refine Goes.on (T' := T196) (g' := (mkF m 245 #[sR b_, sR r_, sR l_] [(.ref t_)])) (fun _ k => st195 _ (XT.ifnonnullYes X195.here hx rfl (pc0 := 208) (pc' := 241) rfl (dc d43_208) rfl (by decide) (by decide) (XS.aloadN X195.here hx rfl (dc d43_241) rfl rfl (st196 _ k)))) ?_
  refine Goes.callU X196 hx hZ 0 hown (ow 266 rfl) (ow 267 rfl) (ow 268 rfl) (by decide) (ow 270 rfl) (ow 269 rfl) (ow 201 rfl) (ow 271 rfl) e196 C186 (rmTq l Z a0 hw t_ h170 n0 Z190  C186 C187 ) (by decide) (by decide) (by decide) (by decide) rfl (by rw [hml]; rfl) (argsL := []) (rest := []) rfl (lenOf pd_3 rfl) rfl (own_le20 rfl) (dc d43_245) ?_
  rintro v197 T197 L197 X197 ⟨rfl, N197q, e197⟩
  have N197 := Fr.app (Fr.snoc X170 (Fr.snoc X147 (Fr.snoc X117 (Fr.snoc X94 (Fr.snoc X71 (Fr.snoc X48 (Fr.snoc X23 (Fr.nil n0) g1) g1) g0) g0) g0) g2) g3) N197q
  show Goes p e below _ T197 (mkF m 248 #[sR b_, sR r_, sR l_] [(.int 1)])
  refine Goes.on (T' := T197) (g' := (mkF m 263 #[sR b_, sR r_, sR l_] [])) (fun _ k => XS.ifYes X197.here hx rfl (pc0 := 248) (pc' := 263) rfl (dc d43_248) rfl (XT.i0_ne_t (by decide)) (by decide) (by decide) k) ?_
  exact Goes.retV X197 hx hlk hret (dc d43_263) (by decide) (by decide) (by rw [e197]; exact ⟨rfl, N197, K191, C172, C174, C175, B170⟩)
theorem rmR2 (l : Launch) (Z : State) (a0 : Array Value) (hw : TW Z a0) (b_ r_ l_ m_ t_ A_ : Addr) (af_ : Nat → Value) (h0 : Heap) (n0 : Nat) (Z0 : n0 ≤ h0.size) (p0 : Exa Z h0 b_ k0C) (p1 : Fld Z h0 b_ k0C "levelCount" "I" (.int (2 : Int32))) (p2 : Fld Z h0 b_ k0C "deep" k9C (.ref t_)) (p3 : Fld Z h0 b_ k0C "levels" k6C (.ref A_)) (p4 : Fld Z h0 b_ k0C "markets" k5C (.ref m_)) (p5 : Fld Z h0 b_ k0C "emptyLevels" "I" (.int (0 : Int32))) (p6 : Exa Z h0 m_ k2C) (p7 : Rbk Z h0 A_ k2C 64 af_) (p8 : Exa Z h0 r_ k1C) (p9 : Fld Z h0 r_ k1C "level" k5C (.ref l_)) (p10 : Fld Z h0 r_ k1C "ahead" k4C .null) (p11 : Fld Z h0 r_ k1C "behind" k4C .null) (p12 : Exa Z h0 l_ k2C) (p13 : Fld Z h0 l_ k2C "deep" "Z" (.int (0 : Int32))) (p14 : Fld Z h0 l_ k2C "first" k4C (.ref r_)) (p15 : Fld Z h0 l_ k2C "last" k4C (.ref r_)) (p16 : Exa Z h0 t_ k12C) (p17 : Fld Z h0 t_ k12C "size" "I" (.int (0 : Int32))) (q0 : l_ ≠ m_) (g0 : n0 ≤ r_) (g1 : n0 ≤ l_) (g2 : n0 ≤ b_) (g3 : n0 ≤ A_) (hL : af_ 1 = .ref l_) :
    Pays l Z (⟨"com/example/uncross/uncross/engine/BookSide", "remove", "(Lcom/example/uncross/uncross/engine/BookSide$Resting;)V"⟩ : MethodName) prog_15_method_8_code 3 none [] ({ frames := 2, cells := 0, slots := 0, locals := 26 } : Room) #[(.ref b_), (.ref r_)] h0 (fun v h L => v = none ∧ Fr n0 L ∧ Keep h0 h [r_, l_, b_, A_] ∧ Fld Z h b_ k0C "levelCount" "I" (.int (1 : Int32)) ∧ Fld Z h b_ k0C "levels" k6C (.ref A_) ∧ Fld Z h b_ k0C "markets" k5C (.ref m_) ∧ Rbk Z h A_ k2C 64 (Upd af_ 1 .null)) := by
  refine Pays.walk (plainFor_of_name pn_13) (fun m => ef_15 m b_ r_ ) ?_
  intro p e s m below meth c T0 X0 hx hby hml hown hnm hZ e0 hret hlk
  have dc := @Jvm.hb _ _ hby
  have ow := @own_w Z a0 hw
  have K0 := Keep.refl h0 ([r_, l_, b_, A_] : List Addr)
  have ne2 : b_ ≠ A_ := Rbk.neE p7 p0 (ow 166 rfl)
  have ne3 : b_ ≠ r_ := ne_exa p0 p8 (by decide)
  have ne4 : b_ ≠ l_ := ne_exa p0 p12 (by decide)
  have ne5 : b_ ≠ t_ := ne_exa p0 p16 (by decide)
  have ne9 : A_ ≠ r_ := (Rbk.neE p7 p8 (ow 10 rfl)).symm
  have ne10 : A_ ≠ l_ := (Rbk.neE p7 p12 (ow 173 rfl)).symm
  have ne11 : A_ ≠ t_ := (Rbk.neE p7 p16 (ow 192 rfl)).symm
  have ne12 : r_ ≠ l_ := ne_exa p8 p12 (by decide)
  have ne13 : r_ ≠ t_ := ne_exa p8 p16 (by decide)
  have ne14 : l_ ≠ t_ := ne_exa p12 p16 (by decide)
  obtain ⟨T18, h18, X18, e18, W18, st18⟩ := putF X0 hx hZ hown (host := "") (Or.inl (ow 223 rfl)) Via.refl e0 p14 p12 (Or.inl (ow 224 rfl)) (ow 173 rfl) (ty := (.object "com/example/uncross/uncross/engine/BookSide$Resting")) (by decide) rfl rfl (g := (mkF m 17 #[sR b_, sR r_, sR l_] [.null, (.ref l_)])) rfl rfl (dc d43_17)
  have C29 := p10.other W18 (Or.inl ne12)
  have C30 := p11.other W18 (Or.inl ne12)
  have C31 := p12.wr W18
  have C34 := p15.other W18 (Or.inr (sn88 hw))
  have Z37 := own_leW W18 Z0
  have K38 := K0.wr W18 (Or.inl (List.mem_of_getElem? (i := 1) rfl))
  obtain ⟨T41, h41, X41, e41, W41, st41⟩ := putF X18 hx hZ hown (host := "") (Or.inl (ow 248 rfl)) Via.refl e18 C34 C31 (Or.inl (ow 249 rfl)) (ow 173 rfl) (ty := (.object "com/example/uncross/uncross/engine/BookSide$Resting")) (by decide) rfl rfl (g := (mkF m 46 #[sR b_, sR r_, sR l_] [.null, (.ref l_)])) rfl rfl (dc d43_46)
  have C50 := (p8.wr W18).wr W41
  have C51 := (p9.other W18 (Or.inl ne12)).other W41 (Or.inl ne12)
  have Z60 := own_leW W41 Z37
  have K61 := K38.wr W41 (Or.inl (List.mem_of_getElem? (i := 1) rfl))
  obtain ⟨T62, h62, X62, e62, W62, st62⟩ := putFR X41 hx hZ hown (ow 246 rfl) e41 C51 C50 (ow 247 rfl) (ow 10 rfl) (ty := (.object "com/example/uncross/uncross/engine/BookSide$Level")) (by decide) rfl rfl (g := (mkF m 65 #[sR b_, sR r_, sR l_] [.null, (.ref r_)])) rfl rfl (dc d43_65)
  have C71 := C50.wr W62
  have C73 := (C29.other W41 (Or.inl ne12)).other W62 (Or.inr (sn83 hw))
  have Z81 := own_leW W62 Z60
  have K82 := K61.wr W62 (Or.inl (List.mem_of_getElem? (i := 0) rfl))
  refine Goes.on (T' := T62) (g' := (mkF m 70 #[sR b_, sR r_, sR l_] [.null, (.ref r_)])) (fun _ k => XS.aloadN X0.here hx rfl (dc d43_0) rfl rfl (getFRm X0 hx hZ hown (ow 246 rfl) e0 p9 (dc d43_1) (XS.astoreN X0.here hx rfl (dc d43_4) rfl rfl (l' := #[sR b_, sR r_, sR l_]) rfl (XS.aloadN X0.here hx rfl (dc d43_5) rfl rfl (getFRm X0 hx hZ hown (ow 250 rfl) e0 p10 (dc d43_6) (XT.ifnonnullNo X0.here hx rfl (dc d43_9) rfl (XS.aloadN X0.here hx rfl (dc d43_12) rfl rfl (XS.aloadN X0.here hx rfl (dc d43_13) rfl rfl (getFRm X0 hx hZ hown (ow 291 rfl) e0 p11 (dc d43_14) (st18 _ (XS.goto X18.here hx rfl (pc0 := 20) (pc' := 34) rfl (dc d43_20) (by decide) (by decide) (XS.aloadN X18.here hx rfl (dc d43_34) rfl rfl (getFRm X18 hx hZ hown (ow 291 rfl) e18 C30 (dc d43_35) (XT.ifnonnullNo X18.here hx rfl (dc d43_38) rfl (XS.aloadN X18.here hx rfl (dc d43_41) rfl rfl (XS.aloadN X18.here hx rfl (dc d43_42) rfl rfl (getFRm X18 hx hZ hown (ow 250 rfl) e18 C29 (dc d43_43) (st41 _ (XS.goto X41.here hx rfl (pc0 := 49) (pc' := 63) rfl (dc d43_49) (by decide) (by decide) (XS.aloadN X41.here hx rfl (dc d43_63) rfl rfl (XS.aconstNull X41.here hx rfl (dc d43_64) (st62 _ (XS.aloadN X62.here hx rfl (dc d43_68) rfl rfl (XS.aconstNull X62.here hx rfl (dc d43_69) k)))))))))))))))))))))))) ?_
  obtain ⟨T83, h83, X83, e83, W83, st83⟩ := putFR X62 hx hZ hown (ow 250 rfl) e62 C73 C71 (ow 251 rfl) (ow 10 rfl) (ty := (.object "com/example/uncross/uncross/engine/BookSide$Resting")) (by decide) rfl rfl (g := (mkF m 70 #[sR b_, sR r_, sR l_] [.null, (.ref r_)])) rfl rfl (dc d43_70)
  have C92 := C71.wr W83
  have C95 := ((C30.other W41 (Or.inl ne12)).other W62 (Or.inr (sn84 hw))).other W83 (Or.inr (sn86 hw))
  have Z102 := own_leW W83 Z81
  have K103 := K82.wr W83 (Or.inl (List.mem_of_getElem? (i := 0) rfl))
  obtain ⟨T104, h104, X104, e104, W104, st104⟩ := putFR X83 hx hZ hown (ow 291 rfl) e83 C95 C92 (ow 292 rfl) (ow 10 rfl) (ty := (.object "com/example/uncross/uncross/engine/BookSide$Resting")) (by decide) rfl rfl (g := (mkF m 75 #[sR b_, sR r_, sR l_] [.null, (.ref r_)])) rfl rfl (dc d43_75)
  have C105 := ((((p0.wr W18).wr W41).wr W62).wr W83).wr W104
  have C106 := ((((p1.other W18 (Or.inl ne4)).other W41 (Or.inl ne4)).other W62 (Or.inl ne3)).other W83 (Or.inl ne3)).other W104 (Or.inl ne3)
  have C108 := ((((p3.other W18 (Or.inl ne4)).other W41 (Or.inl ne4)).other W62 (Or.inl ne3)).other W83 (Or.inl ne3)).other W104 (Or.inl ne3)
  have C109 := ((((p4.other W18 (Or.inl ne4)).other W41 (Or.inl ne4)).other W62 (Or.inl ne3)).other W83 (Or.inl ne3)).other W104 (Or.inl ne3)
  have C112 := ((((p7.other W18 ne10).other W41 ne10).other W62 ne9).other W83 ne9).other W104 ne9
  have C118 := ((((p13.other W18 (Or.inr (sn87 hw))).other W41 (Or.inr (sn89 hw))).other W62 (Or.inl ne12.symm)).other W83 (Or.inl ne12.symm)).other W104 (Or.inl ne12.symm)
  have C119 := ((((p14.same W18).other W41 (Or.inr (sn90 hw))).other W62 (Or.inl ne12.symm)).other W83 (Or.inl ne12.symm)).other W104 (Or.inl ne12.symm)
  have Z123 := own_leW W104 Z102
  have K124 := K103.wr W104 (Or.inl (List.mem_of_getElem? (i := 0) rfl))
  obtain ⟨T125, X125, e125, st125⟩ := getF X104 hx hZ hown (host := "") (Or.inl (ow 223 rfl)) Via.refl e104 C119 (g := (mkF m 79 #[sR b_, sR r_, sR l_] [(.ref l_)])) rfl rfl (dc d43_79)
  obtain ⟨T126, X126, e126, st126⟩ := getF X125 hx hZ hown (host := "") (Or.inl (ow 181 rfl)) Via.refl e125 C109 (g := (mkF m 87 #[sR b_, sR r_, sR l_] [(.ref b_), (.ref l_)])) rfl rfl (dc d43_87)
  obtain ⟨T127, X127, e127, st127⟩ := getF X126 hx hZ hown (host := "") (Or.inl (ow 300 rfl)) Via.refl e126 C118 (g := (mkF m 95 #[sR b_, sR r_, sR l_] [(.ref l_)])) rfl rfl (dc d43_95)
  obtain ⟨T128, X128, e128, st128⟩ := getF X127 hx hZ hown (host := "") (Or.inl (ow 184 rfl)) Via.refl e127 C108 (g := (mkF m 119 #[sR b_, sR r_, sR l_] [(.ref b_), (.ref l_)])) rfl rfl (dc d43_119)
  obtain ⟨T129, X129, e129, st129⟩ := getF X128 hx hZ hown (host := "") (Or.inl (ow 189 rfl)) Via.refl e128 C106 (g := (mkF m 123 #[sR b_, sR r_, sR l_] [(.ref b_), (.ref A_), (.ref l_)])) rfl rfl (dc d43_123)
  refine Goes.on (T' := T129) (g' := (mkF m 129 #[sR b_, sR r_, sR l_] [(af_ 1), (.ref l_)])) (fun _ k => st83 _ (XS.aloadN X83.here hx rfl (dc d43_73) rfl rfl (XS.aconstNull X83.here hx rfl (dc d43_74) (st104 _ (XS.aloadN X104.here hx rfl (dc d43_78) rfl rfl (st125 _ (XT.ifnonnullNo X125.here hx rfl (dc d43_82) rfl (XS.aloadN X125.here hx rfl (dc d43_85) rfl rfl (XS.aloadN X125.here hx rfl (dc d43_86) rfl rfl (st126 _ (XT.acmpYes X126.here hx rfl (pc0 := 90) (pc' := 94) rfl (dc d43_90) rfl rfl rfl (XT.aa_ne_t (fun q => q0 (Value.ref.inj q))) (by decide) (by decide) (XS.aloadN X126.here hx rfl (dc d43_94) rfl rfl (st127 _ (XS.ifYes X127.here hx rfl (pc0 := 98) (pc' := 117) rfl (dc d43_98) rfl (XT.i0_eq_t (by decide)) (by decide) (by decide) (XS.aloadN X127.here hx rfl (dc d43_117) rfl rfl (XS.aloadN X127.here hx rfl (dc d43_118) rfl rfl (st128 _ (XS.aloadN X128.here hx rfl (dc d43_122) rfl rfl (st129 _ (XS.iconst X129.here hx rfl (dc d43_126) (XS.isub X129.here hx rfl (dc d43_127) rfl (ldRm X129 hx hZ e129 C112 (by decide) (dc d43_128) k)))))))))))))))))))))) ?_
  rw [hL]
  obtain ⟨T130, X130, e130, st130⟩ := getF X129 hx hZ hown (host := "") (Or.inl (ow 184 rfl)) Via.refl e129 C108 (g := (mkF m 170 #[sR b_, sR r_, sR l_] [(.ref b_)])) rfl rfl (dc d43_170)
  obtain ⟨T131, X131, e131, st131⟩ := getF X130 hx hZ hown (host := "") (Or.inl (ow 189 rfl)) Via.refl e130 C106 (g := (mkF m 175 #[sR b_, sR r_, sR l_] [(.ref b_), (.ref b_), (.ref A_)])) rfl rfl (dc d43_175)
  obtain ⟨T132, h132, X132, e132, W132, st132⟩ := putF X131 hx hZ hown (host := "") (Or.inl (ow 189 rfl)) Via.refl e131 C106 C105 (Or.inl (ow 190 rfl)) (ow 166 rfl) (ty := .int) (by decide) rfl rfl (g := (mkF m 181 #[sR b_, sR r_, sR l_] [(.int 1), (.ref b_), (.int 1), (.ref A_)])) rfl rfl (dc d43_181)
  have C140 := C112.other W132 ne2.symm
  have Z151 := own_leW W132 Z123
  have K152 := K124.wr W132 (Or.inl (List.mem_of_getElem? (i := 2) rfl))
  obtain ⟨T153, h153, X153, e153, W153, B153, st153⟩ := wrR X132 hx hZ e132 C140 (Or.inl rfl) (by decide) (g := (mkF m 185 #[sR b_, sR r_, sR l_] [.null, (.int 1), (.ref A_)])) rfl rfl (dc d43_185)
  have C155 := (C106.same W132).other W153 (Or.inl ne2)
  have C156 := ((((((p2.other W18 (Or.inl ne4)).other W41 (Or.inl ne4)).other W62 (Or.inl ne3)).other W83 (Or.inl ne3)).other W104 (Or.inl ne3)).other W132 (Or.inr (sn69 hw))).other W153 (Or.inl ne2)
  have C157 := (C108.other W132 (Or.inr (sn65 hw))).other W153 (Or.inl ne2)
  have C158 := (C109.other W132 (Or.inr (sn68 hw))).other W153 (Or.inl ne2)
  have C169 := ((((((p16.wr W18).wr W41).wr W62).wr W83).wr W104).wr W132).wr W153
  have C170 := ((((((p17.other W18 (Or.inl ne14.symm)).other W41 (Or.inl ne14.symm)).other W62 (Or.inl ne13.symm)).other W83 (Or.inl ne13.symm)).other W104 (Or.inl ne13.symm)).other W132 (Or.inl ne5.symm)).other W153 (Or.inl ne11.symm)
  have Z171 := own_leW W153 Z151
  have K172 := K152.wr W153 (Or.inl (List.mem_of_getElem? (i := 3) rfl))
  have B153 : Rbk Z h153 A_ "com/example/uncross/uncross/engine/BookSide$Level" 64 (Upd af_ 1 .null) := B153
  obtain ⟨T173, X173, e173, st173⟩ := getF X153 hx hZ hown (host := "") (Or.inl (ow 189 rfl)) Via.refl e153 C155 (g := (mkF m 187 #[sR b_, sR r_, sR l_] [(.ref b_)])) rfl rfl (dc d43_187)
  obtain ⟨T174, X174, e174, st174⟩ := getF X173 hx hZ hown (host := "") (Or.inl (ow 210 rfl)) Via.refl e173 C156 (g := (mkF m 242 #[sR b_, sR r_, sR l_] [(.ref b_)])) rfl rfl (dc d43_242)
  refine Goes.on (T' := T174) (g' := (mkF m 245 #[sR b_, sR r_, sR l_] [(.ref t_)])) (fun _ k => XT.acmpYes X129.here hx rfl (pc0 := 129) (pc' := 169) rfl (dc d43_129) rfl rfl rfl (XT.aa_eq_t rfl) (by decide) (by decide) (XS.aloadN X129.here hx rfl (dc d43_169) rfl rfl (st130 _ (XS.aloadN X130.here hx rfl (dc d43_173) rfl rfl (XS.dup X130.here hx rfl (dc d43_174) rfl rfl (st131 _ (XS.iconst X131.here hx rfl (dc d43_178) (XS.isub X131.here hx rfl (dc d43_179) rfl (XT.dupX1 X131.here hx rfl (dc d43_180) rfl rfl rfl (st132 _ (XS.aconstNull X132.here hx rfl (dc d43_184) (st153 _ (XS.aloadN X153.here hx rfl (dc d43_186) rfl rfl (st173 _ (XS.iconst X173.here hx rfl (dc d43_190) (XS.icmpYes X173.here hx rfl (pc0 := 191) (pc' := 241) rfl (dc d43_191) rfl (XT.ii_le_t (by decide)) (by decide) (by decide) (XS.aloadN X173.here hx rfl (dc d43_241) rfl rfl (st174 _ k)))))))))))))))))) ?_
  refine Goes.callU X174 hx hZ 0 hown (ow 266 rfl) (ow 267 rfl) (ow 268 rfl) (by decide) (ow 270 rfl) (ow 269 rfl) (ow 201 rfl) (ow 271 rfl) e174 C169 (rmTq l Z a0 hw t_ h153 n0 Z171  C169 C170 ) (by decide) (by decide) (by decide) (by decide) rfl (by rw [hml]; rfl) (argsL := []) (rest := []) rfl (lenOf pd_3 rfl) rfl (own_le20 rfl) (dc d43_245) ?_
  rintro v175 T175 L175 X175 ⟨rfl, N175q, e175⟩
  have N175 := Fr.app (Fr.snoc X153 (Fr.snoc X132 (Fr.snoc X104 (Fr.snoc X83 (Fr.snoc X62 (Fr.snoc X41 (Fr.snoc X18 (Fr.nil n0) g1) g1) g0) g0) g0) g2) g3) N175q
  show Goes p e below _ T175 (mkF m 248 #[sR b_, sR r_, sR l_] [(.int 1)])
  refine Goes.on (T' := T175) (g' := (mkF m 263 #[sR b_, sR r_, sR l_] [])) (fun _ k => XS.ifYes X175.here hx rfl (pc0 := 248) (pc' := 263) rfl (dc d43_248) rfl (XT.i0_ne_t (by decide)) (by decide) (by decide) k) ?_
  exact Goes.retV X175 hx hlk hret (dc d43_263) (by decide) (by decide) (by rw [e175]; exact ⟨rfl, N175, K172, C155, C157, C158, B153⟩)
abbrev c32C := prog_15_method_3_code
theorem d32_0 : decode c32C 0 = .ok (.aload_n 0, 1) := by decide +kernel
theorem d32_1 : decode c32C 1 = .ok (.getfield 14, 3) := by decide +kernel
theorem d32_4 : decode c32C 4 = .ok (.getfield 51, 3) := by decide +kernel
theorem d32_7 : decode c32C 7 = .ok (.ifnull 11, 3) := by decide +kernel
theorem d32_10 : decode c32C 10 = .ok (.aload_n 0, 1) := by decide +kernel
theorem d32_11 : decode c32C 11 = .ok (.getfield 14, 3) := by decide +kernel
theorem d32_14 : decode c32C 14 = .ok (.getfield 51, 3) := by decide +kernel
theorem d32_17 : decode c32C 17 = .ok (.areturn, 1) := by decide +kernel
theorem rmFiM (l : Launch) (Z : State) (a0 : Array Value) (hw : TW Z a0) (b_ m_ f_ : Addr) (h0 : Heap) (n0 : Nat) (Z0 : n0 ≤ h0.size) (p0 : Exa Z h0 b_ k0C) (p1 : Fld Z h0 b_ k0C "markets" k5C (.ref m_)) (p2 : Exa Z h0 m_ k2C) (p3 : Fld Z h0 m_ k2C "first" k4C (.ref f_)) :
    Pays l Z (⟨"com/example/uncross/uncross/engine/BookSide", "first", "()Lcom/example/uncross/uncross/engine/BookSide$Resting;"⟩ : MethodName) prog_15_method_3_code 1 (some (.object "com/example/uncross/uncross/engine/BookSide$Resting")) [] ({ frames := 0, cells := 0, slots := 0, locals := 0 } : Room) #[(.ref b_)] h0 (fun v h L => v = some (.ref f_) ∧ Fr n0 L ∧ h = h0) := by
  refine Pays.walk (plainFor_of_name pn_13) (fun m => ef_0 m b_ ) ?_
  intro p e s m below meth c T0 X0 hx hby hml hown hnm hZ e0 hret hlk
  have N0 := Fr.nil n0
  obtain ⟨T2, X2, e2, st2⟩ := getF X0 hx hZ hown (host := "") (Or.inl (own_w hw 181 rfl)) Via.refl e0 p1 (g := (mkF m 1 #[sR b_] [(.ref b_)])) rfl rfl (hb hby d32_1)
  obtain ⟨T3, X3, e3, st3⟩ := getF X2 hx hZ hown (host := "") (Or.inl (own_w hw 223 rfl)) Via.refl e2 p3 (g := (mkF m 4 #[sR b_] [(.ref m_)])) rfl rfl (hb hby d32_4)
  obtain ⟨T4, X4, e4, st4⟩ := getF X3 hx hZ hown (host := "") (Or.inl (own_w hw 181 rfl)) Via.refl e3 p1 (g := (mkF m 11 #[sR b_] [(.ref b_)])) rfl rfl (hb hby d32_11)
  obtain ⟨T5, X5, e5, st5⟩ := getF X4 hx hZ hown (host := "") (Or.inl (own_w hw 223 rfl)) Via.refl e4 p3 (g := (mkF m 14 #[sR b_] [(.ref m_)])) rfl rfl (hb hby d32_14)
  refine Goes.on (T' := T5) (g' := (mkF m 17 #[sR b_] [(.ref f_)])) (fun _ k => XS.aloadN X0.here hx rfl (hb hby d32_0) rfl rfl (st2 _ (st3 _ (XS.ifnullNo X3.here hx rfl (hb hby d32_7) rfl (XS.aloadN X3.here hx rfl (hb hby d32_10) rfl rfl (st4 _ (st5 _ k))))))) ?_
  exact Goes.retA X5 hx hlk hret rfl rfl (hb hby d32_17) (by decide) (by decide) ⟨rfl, N0, e5⟩
theorem d32_18 : decode c32C 18 = .ok (.aload_n 0, 1) := by decide +kernel
theorem d32_19 : decode c32C 19 = .ok (.getfield 18, 3) := by decide +kernel
theorem d32_22 : decode c32C 22 = .ok (.aload_n 0, 1) := by decide +kernel
theorem d32_23 : decode c32C 23 = .ok (.getfield 26, 3) := by decide +kernel
theorem d32_26 : decode c32C 26 = .ok (.iconst 1, 1) := by decide +kernel
theorem d32_27 : decode c32C 27 = .ok (.isub, 1) := by decide +kernel
theorem d32_28 : decode c32C 28 = .ok (.aaload, 1) := by decide +kernel
theorem d32_29 : decode c32C 29 = .ok (.getfield 51, 3) := by decide +kernel
theorem d32_32 : decode c32C 32 = .ok (.areturn, 1) := by decide +kernel
theorem rmFiA (l : Launch) (Z : State) (a0 : Array Value) (hw : TW Z a0) (b_ m_ A_ p_ : Addr) (cnt_ tp_ : Int32) (af_ : Nat → Value) (v_ : Value) (h0 : Heap) (n0 : Nat) (Z0 : n0 ≤ h0.size) (p0 : Exa Z h0 b_ k0C) (p1 : Fld Z h0 b_ k0C "markets" k5C (.ref m_)) (p2 : Exa Z h0 m_ k2C) (p3 : Fld Z h0 m_ k2C "first" k4C .null) (p4 : Fld Z h0 b_ k0C "levels" k6C (.ref A_)) (p5 : Fld Z h0 b_ k0C "levelCount" "I" (.int cnt_)) (p6 : Rbk Z h0 A_ k2C 64 af_) (p7 : Exa Z h0 p_ k2C) (p8 : Fld Z h0 p_ k2C "first" k4C v_) (htp : cnt_ - (1 : Int32) = tp_) (hin : ¬ tp_ < 0 ∧ tp_.toNatClampNeg < 64) (hL : af_ tp_.toNatClampNeg = .ref p_) (hv : v_.isRef = true) :
    Pays l Z (⟨"com/example/uncross/uncross/engine/BookSide", "first", "()Lcom/example/uncross/uncross/engine/BookSide$Resting;"⟩ : MethodName) prog_15_method_3_code 1 (some (.object "com/example/uncross/uncross/engine/BookSide$Resting")) [] ({ frames := 0, cells := 0, slots := 0, locals := 0 } : Room) #[(.ref b_)] h0 (fun v h L => v = some v_ ∧ Fr n0 L ∧ h = h0) := by
  refine Pays.walk (plainFor_of_name pn_13) (fun m => ef_0 m b_ ) ?_
  intro p e s m below meth c T0 X0 hx hby hml hown hnm hZ e0 hret hlk
  have dc := @Jvm.hb _ _ hby
  have N0 := Fr.nil n0
  obtain ⟨T7, X7, e7, st7⟩ := getF X0 hx hZ hown (host := "") (Or.inl (own_w hw 181 rfl)) Via.refl e0 p1 (g := (mkF m 1 #[sR b_] [(.ref b_)])) rfl rfl (dc d32_1)
  obtain ⟨T8, X8, e8, st8⟩ := getF X7 hx hZ hown (host := "") (Or.inl (own_w hw 223 rfl)) Via.refl e7 p3 (g := (mkF m 4 #[sR b_] [(.ref m_)])) rfl rfl (dc d32_4)
  obtain ⟨T9, X9, e9, st9⟩ := getF X8 hx hZ hown (host := "") (Or.inl (own_w hw 184 rfl)) Via.refl e8 p4 (g := (mkF m 19 #[sR b_] [(.ref b_)])) rfl rfl (dc d32_19)
  obtain ⟨T10, X10, e10, st10⟩ := getF X9 hx hZ hown (host := "") (Or.inl (own_w hw 189 rfl)) Via.refl e9 p5 (g := (mkF m 23 #[sR b_] [(.ref b_), (.ref A_)])) rfl rfl (dc d32_23)
  refine Goes.on (T' := T10) (g' := (mkF m 28 #[sR b_] [(.int (cnt_ - (1 : Int32))), (.ref A_)])) (fun _ k => XS.aloadN X0.here hx rfl (dc d32_0) rfl rfl (st7 _ (st8 _ (XS.ifnullYes X8.here hx rfl (pc0 := 7) (pc' := 18) rfl (dc d32_7) rfl (by decide) (by decide) (XS.aloadN X8.here hx rfl (dc d32_18) rfl rfl (st9 _ (XS.aloadN X9.here hx rfl (dc d32_22) rfl rfl (st10 _ (XS.iconst X10.here hx rfl (dc d32_26) (XS.isub X10.here hx rfl (dc d32_27) rfl k)))))))))) ?_
  rw [htp]
  refine Goes.on (T' := T10) (g' := (mkF m 29 #[sR b_] [(af_ tp_.toNatClampNeg)])) (fun _ k => ldRm X10 hx hZ e10 p6 hin (dc d32_28) k) ?_
  rw [hL]
  obtain ⟨T11, X11, e11, st11⟩ := getF X10 hx hZ hown (host := "") (Or.inl (own_w hw 223 rfl)) Via.refl e10 p8 (g := (mkF m 29 #[sR b_] [(.ref p_)])) rfl rfl (dc d32_29)
  refine Goes.on (T' := T11) (g' := (mkF m 32 #[sR b_] [v_])) (fun _ k => st11 _ k) ?_
  exact Goes.retA X11 hx hlk hret rfl hv (dc d32_32) (by decide) (by decide) ⟨rfl, N0, e11⟩
def ownHd : List Addr → Value
  | [] => .null
  | a :: _ => .ref a
def ownLs : List Addr → Value
  | [] => .null
  | [a] => .ref a
  | _ :: b :: t => ownLs (b :: t)
theorem own_ls : ∀ (c : List Addr) (Q : Addr), ownLs (c ++ [Q]) = .ref Q
  | [], _ => rfl
  | [_], _ => rfl
  | _ :: b :: t, Q => by
    show ownLs ((b :: t) ++ [Q]) = .ref Q
    exact own_ls (b :: t) Q
theorem own_hd {c : List Addr} (h : c ≠ []) (d : List Addr) : ownHd (c ++ d) = ownHd c := by
  cases c with
  | nil => exact absurd rfl h
  | cons a t => rfl
theorem own_snoc : ∀ {c : List Addr}, c ≠ [] → ∃ c' Q, c = c' ++ [Q]
  | [], h => absurd rfl h
  | [a], _ => ⟨[], a, rfl⟩
  | a :: b :: t, _ => by
    obtain ⟨c', Q, e⟩ := own_snoc (c := b :: t) (by simp)
    exact ⟨a :: c', Q, by rw [e]; rfl⟩
theorem own_hdR {c : List Addr} (h : c ≠ []) : ∃ f, ownHd c = .ref f ∧ f ∈ c := by
  cases c with
  | nil => exact absurd rfl h
  | cons a t => exact ⟨a, rfl, by simp⟩
theorem own_hdref (c : List Addr) : (ownHd c).isRef = true := by cases c <;> rfl
def Rst (Z : State) (h : Heap) (R : Addr) (lv ah be : Value) : Prop := Exa Z h R k1C ∧ Fld Z h R k1C "level" k5C lv ∧ Fld Z h R k1C "ahead" k4C ah ∧ Fld Z h R k1C "behind" k4C be
def Lvl (Z : State) (h : Heap) (L : Addr) (f e : Value) : Prop := Exa Z h L k2C ∧ Fld Z h L k2C "deep" "Z" (.int (0 : Int32)) ∧ Fld Z h L k2C "first" k4C f ∧ Fld Z h L k2C "last" k4C e
def Ord (Z : State) (h : Heap) (R : Addr) (kd : Int32) (x : Int64) : Prop := ∃ o a, Fld Z h R k1C "order" k7C (.ref o) ∧ Exa Z h o k3C ∧ Fld Z h o k3C "limit" k8C (.ref a) ∧ Exa Z h a k11C ∧ ((¬ kd = (0 : Int32) ∧ Fld Z h a k11C "isPresent" "Z" (.int (0 : Int32))) ∨ (kd = (0 : Int32) ∧ Fld Z h a k11C "isPresent" "Z" (.int (1 : Int32)) ∧ Fld Z h a k11C "value" "J" (.long x)))
def Lnk (Z : State) (h : Heap) (L : Addr) : Value → List Addr → Prop
  | _, [] => True
  | p, R :: t => Rst Z h R (.ref L) p (ownHd t) ∧ Lnk Z h L (.ref R) t
def Chn (Z : State) (h : Heap) (L : Addr) (c : List Addr) : Prop := Lvl Z h L (ownHd c) (ownLs c) ∧ Lnk Z h L .null c
section Chains
variable {Z : State} {h h' : Heap} {ws : List Addr} {R L Q : Addr} {lv ah be f e : Value} {kd : Int32} {x : Int64}
theorem Rst.keep (F : Rst Z h R lv ah be) (K : Keep h h' ws) (q : R ∉ ws) : Rst Z h' R lv ah be := ⟨F.1.keep K, F.2.1.keep K q, F.2.2.1.keep K q, F.2.2.2.keep K q⟩
theorem Rst.ext (F : Rst Z h R lv ah be) (E : Ext h h') : Rst Z h' R lv ah be := ⟨F.1.ext E, F.2.1.ext E, F.2.2.1.ext E, F.2.2.2.ext E⟩
theorem Lvl.keep (F : Lvl Z h L f e) (K : Keep h h' ws) (q : L ∉ ws) : Lvl Z h' L f e := ⟨F.1.keep K, F.2.1.keep K q, F.2.2.1.keep K q, F.2.2.2.keep K q⟩
theorem Ord.keep (F : Ord Z h R kd x) (K : Keep h h' ws) (q : R ∉ ws) (h3 : ∀ o, Exa Z h o k3C → o ∉ ws) (h11 : ∀ a, Exa Z h a k11C → a ∉ ws) : Ord Z h' R kd x := by
  obtain ⟨o, a, f1, f2, f3, f4, f5⟩ := F
  refine ⟨o, a, f1.keep K q, f2.keep K, f3.keep K (h3 o f2), f4.keep K, ?_⟩
  rcases f5 with ⟨u, v⟩ | ⟨u, v, w⟩
  · exact Or.inl ⟨u, v.keep K (h11 a f4)⟩
  · exact Or.inr ⟨u, v.keep K (h11 a f4), w.keep K (h11 a f4)⟩
theorem Ord.ext (F : Ord Z h R kd x) (E : Ext h h') : Ord Z h' R kd x := by
  obtain ⟨o, a, f1, f2, f3, f4, f5⟩ := F
  refine ⟨o, a, f1.ext E, f2.ext E, f3.ext E, f4.ext E, ?_⟩
  rcases f5 with ⟨u, v⟩ | ⟨u, v, w⟩
  · exact Or.inl ⟨u, v.ext E⟩
  · exact Or.inr ⟨u, v.ext E, w.ext E⟩
theorem Lnk.keep (K : Keep h h' ws) : ∀ {c : List Addr} {p : Value}, Lnk Z h L p c → (∀ y ∈ c, y ∉ ws) → Lnk Z h' L p c
  | [], _, _, _ => trivial
  | a :: t, p, F, q => by
    have F' : Rst Z h a (.ref L) p (ownHd t) ∧ Lnk Z h L (.ref a) t := F
    exact ⟨F'.1.keep K (q a (by simp)), Lnk.keep K F'.2 fun y hy => q y (by simp [hy])⟩
theorem Chn.keep {c : List Addr} (F : Chn Z h L c) (K : Keep h h' ws) (hL : L ∉ ws) (q : ∀ y ∈ c, y ∉ ws) : Chn Z h' L c := ⟨F.1.keep K hL, Lnk.keep K F.2 q⟩
theorem lnk_snoc : ∀ (c : List Addr) (p : Value), Lnk Z h L p (c ++ [Q]) → ∃ ah, Rst Z h Q (.ref L) ah .null ∧ ∀ (h' : Heap) (ws : List Addr) (R : Addr), Keep h h' ws → (∀ y ∈ c, y ∉ ws) → Rst Z h' Q (.ref L) ah (.ref R) → Rst Z h' R (.ref L) (.ref Q) .null → Lnk Z h' L p (c ++ [Q] ++ [R])
  | [], p, F => by
    have F' : Rst Z h Q (.ref L) p .null ∧ True := F
    exact ⟨p, F'.1, fun h' ws R _ _ A B => ⟨A, B, trivial⟩⟩
  | a :: t, p, F => by
    have F' : Rst Z h a (.ref L) p (ownHd (t ++ [Q])) ∧ Lnk Z h L (.ref a) (t ++ [Q]) := F
    obtain ⟨ah, h1, h2⟩ := lnk_snoc t (.ref a) F'.2
    refine ⟨ah, h1, fun h' ws R K q A B => ?_⟩
    have r := h2 h' ws R K (fun y hy => q y (by simp [hy])) A B
    have e : ownHd (t ++ [Q] ++ [R]) = ownHd (t ++ [Q]) := own_hd (by simp) _
    show Rst Z h' a (.ref L) p (ownHd (t ++ [Q] ++ [R])) ∧ Lnk Z h' L (.ref a) (t ++ [Q] ++ [R])
    rw [e]
    exact ⟨F'.1.keep K (q a (by simp)), r⟩
theorem own_kmono {ws' : List Addr} (K : Keep h h' ws) (q : ∀ y ∈ ws, y ∈ ws') : Keep h h' ws' := ⟨K.1, fun y c hy hn => K.2.1 y c hy fun hm => hn (q y hm), K.2.2⟩
end Chains
/-- the book's own parts -/
def Bst (Z : State) (h : Heap) (b mk A K t : Addr) (z cnt : Int32) (af : Nat → Value) (ks : Nat → Int64) : Prop :=
  Exa Z h b k0C ∧ Fld Z h b k0C "buying" "Z" (.int z) ∧ Fld Z h b k0C "levelCount" "I" (.int cnt) ∧ Fld Z h b k0C "deep" k9C (.ref t) ∧ Fld Z h b k0C "levels" k6C (.ref A) ∧ Fld Z h b k0C "keys" "[J" (.ref K) ∧ Fld Z h b k0C "markets" k5C (.ref mk) ∧ Fld Z h b k0C "emptyLevels" "I" (.int (0 : Int32)) ∧ Exa Z h t k12C ∧ Fld Z h t k12C "size" "I" (.int (0 : Int32)) ∧ Rbk Z h A k2C 64 af ∧ Arf Z h K .long Value.long 64 ks ∧ Exa Z h K "[J"
theorem Bst.keep {Z : State} {h h' : Heap} {b mk A K t : Addr} {z cnt : Int32} {af : Nat → Value} {ks : Nat → Int64} {ws : List Addr} (F : Bst Z h b mk A K t z cnt af ks) (k : Keep h h' ws) (qb : b ∉ ws) (qt : t ∉ ws) (qA : A ∉ ws) (qK : K ∉ ws) : Bst Z h' b mk A K t z cnt af ks := by
  obtain ⟨f1, f2, f3, f4, f5, f6, f7, f8, f9, f10, f11, f12, f13⟩ := F
  exact ⟨f1.keep k, f2.keep k qb, f3.keep k qb, f4.keep k qb, f5.keep k qb, f6.keep k qb, f7.keep k qb, f8.keep k qb, f9.keep k, f10.keep k qt, f11.keep k qA, f12.keep k qK, f13.keep k⟩
abbrev OwnQ : Type := Int64 × Addr × List Addr
def OwnPos (af : Nat → Value) (ks : Nat → Int64) : Nat → List OwnQ → Prop
  | _, [] => True
  | i, q :: t => af i = .ref q.2.1 ∧ ks i = q.1 ∧ OwnPos af ks (i + 1) t
def Lvs (Z : State) (h : Heap) : List OwnQ → Prop
  | [] => True
  | q :: t => Chn Z h q.2.1 q.2.2 ∧ q.2.2 ≠ [] ∧ Lvs Z h t
def OwnSk : List Int64 → Prop
  | [] => True
  | [_] => True
  | q :: r :: t => q < r ∧ OwnSk (r :: t)
def OwnSrt (qs : List OwnQ) : Prop := OwnSk (qs.map (fun q => q.1))
def Pend (Z : State) (h : Heap) : List (Addr × Int32 × Int64) → Prop
  | [] => True
  | q :: t => Rst Z h q.1 .null .null .null ∧ Ord Z h q.1 q.2.1 q.2.2 ∧ Pend Z h t
theorem Pend.keep {Z : State} {h h' : Heap} {ws : List Addr} (K : Keep h h' ws) (h3 : ∀ o, Exa Z h o k3C → o ∉ ws) (h11 : ∀ a, Exa Z h a k11C → a ∉ ws) : ∀ {pd : List (Addr × Int32 × Int64)}, Pend Z h pd → (∀ q ∈ pd, q.1 ∉ ws) → Pend Z h' pd
  | [], _, _ => trivial
  | a :: t, F, q => by
    have F' : Rst Z h a.1 .null .null .null ∧ Ord Z h a.1 a.2.1 a.2.2 ∧ Pend Z h t := F
    exact ⟨F'.1.keep K (q a (by simp)), F'.2.1.keep K (q a (by simp)) h3 h11, Pend.keep K h3 h11 F'.2.2 fun y hy => q y (by simp [hy])⟩
theorem Pend.ext {Z : State} {h h' : Heap} (E : Ext h h') : ∀ {pd : List (Addr × Int32 × Int64)}, Pend Z h pd → Pend Z h' pd
  | [], _ => trivial
  | a :: t, F => by
    have F' : Rst Z h a.1 .null .null .null ∧ Ord Z h a.1 a.2.1 a.2.2 ∧ Pend Z h t := F
    exact ⟨F'.1.ext E, F'.2.1.ext E, Pend.ext E F'.2.2⟩
theorem Lvs.keep {Z : State} {h h' : Heap} {ws : List Addr} (K : Keep h h' ws) : ∀ {qs : List OwnQ}, Lvs Z h qs → (∀ q ∈ qs, q.2.1 ∉ ws ∧ ∀ y ∈ q.2.2, y ∉ ws) → Lvs Z h' qs
  | [], _, _ => trivial
  | a :: t, F, q => by
    have F' : Chn Z h a.2.1 a.2.2 ∧ a.2.2 ≠ [] ∧ Lvs Z h t := F
    exact ⟨F'.1.keep K (q a (by simp)).1 (q a (by simp)).2, F'.2.1, Lvs.keep K F'.2.2 fun y hy => q y (by simp [hy])⟩
/-- all restings that are in the book -/
def ownAll (mc : List Addr) (qs : List OwnQ) : List Addr := mc ++ qs.flatMap (fun q => q.2.2)
def BK (Z : State) (h : Heap) (n0 : Nat) (b mk A K t l0 : Addr) (z : Int32) (pd : List (Addr × Int32 × Int64)) (mc : List Addr) (qs : List OwnQ) : Prop :=
  ∃ (cnt : Int32) (af : Nat → Value) (ks : Nat → Int64), Bst Z h b mk A K t z cnt af ks ∧ cnt.toInt = qs.length + 1 ∧ af 0 = .ref l0 ∧ ks 0 = (-9223372036854775808 : Int64) ∧ OwnPos af ks 1 qs ∧ OwnSrt qs ∧ Lvl Z h l0 .null .null ∧ Chn Z h mk mc ∧ Lvs Z h qs ∧ Pend Z h pd ∧
    (mk :: l0 :: qs.map (fun q => q.2.1)).Nodup ∧ (pd.map (fun q => q.1) ++ ownAll mc qs).Nodup ∧ (pd.map (fun q => q.1) ++ ownAll mc qs).length = 3 ∧
    n0 ≤ b ∧ n0 ≤ A ∧ n0 ≤ K ∧ n0 ≤ mk ∧ (∀ q ∈ qs, n0 ≤ q.2.1) ∧ (∀ y ∈ pd.map (fun q => q.1) ++ ownAll mc qs, n0 ≤ y)
theorem own_prm {l1 l2 : List Addr} (h : ∀ a, l1.count a = l2.count a) : l1.Perm l2 := List.perm_iff_count.mpr h
theorem own_rest {all rest : List Addr} {Q : Addr} (nd : all.Nodup) (P : all.Perm (Q :: rest)) : Q ∉ rest := (List.nodup_cons.mp (P.nodup_iff.mp nd)).1
theorem own_neQ {rest : List Addr} {Q y : Addr} (h : Q ∉ rest) (hy : y ∈ rest) : y ≠ Q := fun e => h (e ▸ hy)
section Exas
variable {Z : State} {h : Heap} {L : Addr}
theorem lnk_exa : ∀ {c : List Addr} {p : Value}, Lnk Z h L p c → ∀ y ∈ c, Exa Z h y k1C
  | [], _, _, y, hy => by cases hy
  | a :: t, p, F, y, hy => by
    have F' : Rst Z h a (.ref L) p (ownHd t) ∧ Lnk Z h L (.ref a) t := F
    rcases List.mem_cons.mp hy with rfl | hy
    · exact F'.1.1
    · exact lnk_exa F'.2 y hy
theorem lvs_exa : ∀ {qs : List OwnQ}, Lvs Z h qs → ∀ q ∈ qs, Exa Z h q.2.1 k2C ∧ ∀ y ∈ q.2.2, Exa Z h y k1C
  | [], _, q, hq => by cases hq
  | a :: t, F, q, hq => by
    have F' : Chn Z h a.2.1 a.2.2 ∧ a.2.2 ≠ [] ∧ Lvs Z h t := F
    rcases List.mem_cons.mp hq with rfl | hq
    · exact ⟨F'.1.1.1, lnk_exa F'.1.2⟩
    · exact lvs_exa F'.2.2 q hq
theorem pend_exa : ∀ {pd : List (Addr × Int32 × Int64)}, Pend Z h pd → ∀ q ∈ pd, Exa Z h q.1 k1C
  | [], _, q, hq => by cases hq
  | a :: t, F, q, hq => by
    have F' : Rst Z h a.1 .null .null .null ∧ Ord Z h a.1 a.2.1 a.2.2 ∧ Pend Z h t := F
    rcases List.mem_cons.mp hq with rfl | hq
    · exact F'.1.1
    · exact pend_exa F'.2.2 q hq
end Exas
/-- what may be written besides Strings -/
def OwnSafe (Z : State) (h h' : Heap) : Prop := ∃ ws, Keep h h' ws ∧ ∀ y ∈ ws, (∃ C, Exa Z h y C ∧ C ≠ "java/lang/String" ∧ C ≠ "[B") ∨ (∃ f, Rbk Z h y k2C 64 f)
theorem own_len : ∀ {qs : List OwnQ} {Z : State} {h : Heap}, Lvs Z h qs → qs.length ≤ (qs.flatMap (fun q => q.2.2)).length
  | [], _, _, _ => Nat.le_refl _
  | a :: t, Z, h, F => by
    have F' : Chn Z h a.2.1 a.2.2 ∧ a.2.2 ≠ [] ∧ Lvs Z h t := F
    have r := own_len F'.2.2
    have q : 1 ≤ a.2.2.length := by
      cases e : a.2.2 with
      | nil => exact absurd e F'.2.1
      | cons b c => simp
    simp only [List.flatMap_cons, List.length_append, List.length_cons]
    omega
section Places
variable {af af' : Nat → Value} {ks ks' : Nat → Int64}
theorem pos_congr : ∀ (ys : List OwnQ) (i i' : Nat), (∀ j, j < ys.length → af' (i' + j) = af (i + j) ∧ ks' (i' + j) = ks (i + j)) → OwnPos af ks i ys → OwnPos af' ks' i' ys
  | [], _, _, _, _ => trivial
  | q :: t, i, i', H, F => by
    have F' : af i = .ref q.2.1 ∧ ks i = q.1 ∧ OwnPos af ks (i + 1) t := F
    have q0 := H 0 (by simp)
    rw [Nat.add_zero, Nat.add_zero] at q0
    refine ⟨q0.1.trans F'.1, q0.2.trans F'.2.1, pos_congr t (i + 1) (i' + 1) (fun j hj => ?_) F'.2.2⟩
    have r := H (j + 1) (by simp; omega)
    rw [show i' + 1 + j = i' + (j + 1) by omega, show i + 1 + j = i + (j + 1) by omega]
    exact r
theorem pos_app : ∀ (xs ys : List OwnQ) (i : Nat), OwnPos af ks i (xs ++ ys) ↔ OwnPos af ks i xs ∧ OwnPos af ks (i + xs.length) ys
  | [], ys, i => ⟨fun F => ⟨trivial, F⟩, fun F => F.2⟩
  | q :: t, ys, i => by
    have r := pos_app t ys (i + 1)
    have e : i + 1 + t.length = i + (q :: t).length := by simp; omega
    rw [e] at r
    exact ⟨fun F => ⟨⟨F.1, F.2.1, (r.mp F.2.2).1⟩, (r.mp F.2.2).2⟩, fun F => ⟨F.1.1, F.1.2.1, r.mpr ⟨F.1.2.2, F.2⟩⟩⟩
theorem pos_get : ∀ (ys : List OwnQ) (i : Nat), OwnPos af ks i ys → ∀ j, j < ys.length → ∃ q ∈ ys, af (i + j) = .ref q.2.1
  | [], _, _, j, hj => by simp at hj
  | q :: t, i, F, 0, _ => ⟨q, by simp, F.1⟩
  | q :: t, i, F, j + 1, hj => by
    obtain ⟨r, hr, e⟩ := pos_get t (i + 1) F.2.2 j (by simp at hj; omega)
    exact ⟨r, by simp [hr], by rw [show i + (j + 1) = i + 1 + j by omega]; exact e⟩
theorem pos_ins {xs ys : List OwnQ} {k : Int64} {y : Addr} {c : List Addr} {p : Nat} (F : OwnPos af ks 1 (xs ++ ys)) (hp : p = 1 + xs.length) : OwnPos (Upd (Shf af p ys.length) p (.ref y)) (Upd (Shf ks p ys.length) p k) 1 (xs ++ (k, y, c) :: ys) := by
  obtain ⟨f1, f2⟩ := (pos_app xs ys 1).mp F
  rw [← hp] at f2
  refine (pos_app xs _ 1).mpr ⟨pos_congr xs 1 1 (fun j hj => ?_) f1, ?_⟩
  · have q1 : ¬ 1 + j = p := by omega
    have q2 : ¬ (p + 1 ≤ 1 + j ∧ 1 + j < p + 1 + ys.length) := by omega
    simp only [Upd, Shf, if_neg q1, if_neg q2, and_self]
  · rw [← hp]
    refine ⟨by simp [Upd], by simp [Upd], pos_congr ys p (p + 1) (fun j hj => ?_) f2⟩
    have q1 : ¬ p + 1 + j = p := by omega
    have q2 : p + 1 ≤ p + 1 + j ∧ p + 1 + j < p + 1 + ys.length := by omega
    have q3 : p + (p + 1 + j - (p + 1)) = p + j := by omega
    simp only [Upd, Shf, if_neg q1, if_pos q2, q3, and_self]
end Places
theorem own_stoL {Z : State} {h : Heap} {A : Addr} : ∀ (l : List Value), (∀ v ∈ l, Sto Z h A v) → StoL Z h A l
  | [], _ => trivial
  | v :: t, q => ⟨q v (by simp), own_stoL t fun w hw => q w (by simp [hw])⟩
theorem lvs_app {Z : State} {h : Heap} : ∀ (xs ys : List OwnQ), Lvs Z h (xs ++ ys) ↔ Lvs Z h xs ∧ Lvs Z h ys
  | [], ys => ⟨fun F => ⟨trivial, F⟩, fun F => F.2⟩
  | q :: t, ys => by
    have r := lvs_app (Z := Z) (h := h) t ys
    exact ⟨fun F => ⟨⟨F.1, F.2.1, (r.mp F.2.2).1⟩, (r.mp F.2.2).2⟩, fun F => ⟨F.1.1, F.1.2.1, r.mpr ⟨F.1.2.2, F.2⟩⟩⟩
def ownIns (k : Int) (R : Addr) : List (Int × List Addr) → List (Int × List Addr)
  | [] => [(k, [R])]
  | q :: t => if k = q.1 then (q.1, q.2 ++ [R]) :: t else if k < q.1 then (k, [R]) :: q :: t else q :: ownIns k R t
def ownPr (qs : List OwnQ) : List (Int × List Addr) := qs.map (fun q => (q.1.toInt, q.2.2))
theorem own_le {x y : Int64} (h : x = y) : ¬ y < x := by
  subst h
  rw [Int64.lt_iff_toInt_lt]
  omega
theorem own_knm {z : Int32} {x : Int64} (h : ¬ x < (1 : Int64) ∧ ¬ (1000000000000 : Int64) < x) : ¬ (-9223372036854775808 : Int64) = own_key z x := by
  have e1 : (1 : Int64).toInt = 1 := rfl
  have e2 : (1000000000000 : Int64).toInt = 1000000000000 := rfl
  have e3 : (-9223372036854775808 : Int64).toInt = -9223372036854775808 := rfl
  simp only [Int64.lt_iff_toInt_lt, e1, e2] at h
  rw [← Int64.toInt_inj, e3]
  unfold own_key
  split
  · have h3 := c_lneg x
    have r := rng64 (-x)
    omega
  · omega
theorem rmAddM (l : Launch) (Z : State) (a0 : Array Value) (hw : TW Z a0) {n0 : Nat} {b mk A K t l0 : Addr} {z : Int32} {pd : List (Addr × Int32 × Int64)} {mc : List Addr} {qs : List OwnQ} (R : Addr) (kd : Int32) (x : Int64) (h0 : Heap) (Z0 : n0 ≤ h0.size) (F : BK Z h0 n0 b mk A K t l0 z ((R, kd, x) :: pd) mc qs) (hk : ¬ kd = (0 : Int32)) :
    Pays l Z (⟨"com/example/uncross/uncross/engine/BookSide", "add", "(Lcom/example/uncross/uncross/engine/BookSide$Resting;)V"⟩ : MethodName) prog_15_method_7_code 3 none [] ({ frames := 3, cells := 1, slots := 4, locals := 60 } : Room) #[(.ref b), (.ref R)] h0 (fun v h L => v = none ∧ Fr n0 L ∧ OwnSafe Z h0 h ∧ BK Z h n0 b mk A K t l0 z pd (mc ++ [R]) qs) := by
  obtain ⟨cnt, af, ks, B, hcnt, hA0, hK0, hP, hSrt, hl0, hM, hV, hPd, nd1, nd2, hlen, gb, gA, gK, gm, gq, gr⟩ := F
  obtain ⟨hR, ⟨o, a, fo, eo, fl, ea, fk⟩, hPd'⟩ : Rst Z h0 R .null .null .null ∧ Ord Z h0 R kd x ∧ Pend Z h0 pd := hPd
  have nd3 : (R :: (pd.map (fun q => q.1) ++ ownAll mc qs)).Nodup := nd2
  have hRa : R ∉ pd.map (fun q => q.1) ++ ownAll mc qs := (List.nodup_cons.mp nd3).1
  have nda := (List.nodup_cons.mp nd3).2
  have gR : n0 ≤ R := gr R (by simp)
  have nRm : R ≠ mk := ne_exa hR.1 hM.1.1 (by decide)
  have xM : ∀ y ∈ mc, Exa Z h0 y k1C := lnk_exa hM.2
  have xV := lvs_exa hV
  have xP := pend_exa hPd'
  have fk1 : Fld Z h0 a k11C "isPresent" "Z" (.int (0 : Int32)) := by
    rcases fk with ⟨-, v⟩ | ⟨u, -⟩
    · exact v
    · exact absurd u hk
  have PR : (pd.map (fun q => q.1) ++ ownAll (mc ++ [R]) qs).Perm (R :: (pd.map (fun q => q.1) ++ ownAll mc qs)) := own_prm fun y => by
    simp [ownAll, List.count_append, List.count_cons] <;> omega
  have hnew : ∀ (h : Heap) (ws : List Addr), Keep h0 h ws → (∀ y ∈ ws, y = R ∨ y = mk ∨ (y ∈ mc)) → Chn Z h mk (mc ++ [R]) → BK Z h n0 b mk A K t l0 z pd (mc ++ [R]) qs := by
    intro h ws k hws hC
    have nc : ∀ {C : String} (y : Addr), Exa Z h0 y C → C ≠ k1C → C ≠ k2C → y ∉ ws := fun y ey q1 q2 hy => by
      rcases hws y hy with e | e | e
      · exact ne_exa ey hR.1 q1 e
      · exact ne_exa ey hM.1.1 q2 e
      · exact ne_exa ey (xM y e) q1 rfl
    have na : ∀ y c ty, Arr Z h0 y c ty → y ∉ ws := fun y c ty ay hy => by
      rcases hws y hy with e | e | e
      · exact ne_arr hR.1 (own_w hw 10 rfl) ay e.symm
      · exact ne_arr hM.1.1 (own_w hw 173 rfl) ay e.symm
      · exact ne_arr (xM y e) (own_w hw 10 rfl) ay rfl
    have nl : ∀ y, Exa Z h0 y k2C → y ≠ mk → y ∉ ws := fun y ey q hy => by
      rcases hws y hy with e | e | e
      · exact ne_exa ey hR.1 (by decide) e
      · exact q e
      · exact ne_exa ey (xM y e) (by decide) rfl
    have nr : ∀ y, Exa Z h0 y k1C → y ≠ R → y ∉ mc → y ∉ ws := fun y ey q q2 hy => by
      rcases hws y hy with e | e | e
      · exact q e
      · exact ne_exa ey hM.1.1 (by decide) e
      · exact q2 e
    obtain ⟨cA, aA, -⟩ := B.2.2.2.2.2.2.2.2.2.2.1
    obtain ⟨cK, aK, -⟩ := B.2.2.2.2.2.2.2.2.2.2.2.1
    have nd4 := (List.nodup_cons.mp nd1)
    have dis : ∀ y ∈ mc, ∀ q ∈ qs, ∀ w ∈ q.2.2, w ≠ y := fun y hy q hq w hw e => by
      have r := (List.pairwise_append.mp ((List.pairwise_append.mp nda).2.1)).2.2 y hy w (List.mem_flatMap.mpr ⟨q, hq, hw⟩)
      exact r e.symm
    have disP : ∀ q ∈ pd, ∀ y ∈ mc, q.1 ≠ y := fun q hq y hy => (List.pairwise_append.mp nda).2.2 q.1 (List.mem_map.mpr ⟨q, hq, rfl⟩) y (List.mem_append_left _ hy)
    refine ⟨cnt, af, ks, B.keep k (nc b B.1 (by decide) (by decide)) (nc t B.2.2.2.2.2.2.2.2.1 (by decide) (by decide)) (na A cA _ aA) (na K cK _ aK), hcnt, hA0, hK0, hP, hSrt, hl0.keep k (nl l0 hl0.1 fun e => nd4.1 (by simp [e])), hC, Lvs.keep k hV fun q hq => ⟨nl _ (xV q hq).1 fun e => nd4.1 (by rw [← e]; exact List.mem_cons_of_mem _ (List.mem_map.mpr ⟨q, hq, rfl⟩)), fun y hy => nr y ((xV q hq).2 y hy) (fun e => hRa (by rw [← e]; exact List.mem_append_right _ (List.mem_append_right _ (List.mem_flatMap.mpr ⟨q, hq, hy⟩)))) fun hm => dis y hm q hq y hy rfl⟩, Pend.keep k (fun o' eo' => nc o' eo' (by decide) (by decide)) (fun a' ea' => nc a' ea' (by decide) (by decide)) hPd' (fun q hq => nr q.1 (xP q hq) (fun e => hRa (by rw [← e]; exact List.mem_append_left _ (List.mem_map.mpr ⟨q, hq, rfl⟩))) fun hm => disP q hq q.1 hm rfl), nd1, PR.nodup_iff.mpr nd3, by rw [PR.length_eq]; exact hlen, gb, gA, gK, gm, gq, fun y hy => gr y (PR.mem_iff.mp hy)⟩
  by_cases hmc : mc = []
  · subst hmc
    refine Pays.imp (rmAmE l Z a0 hw b R mk o a h0 n0 Z0  B.1 B.2.2.2.2.2.2.1 hR.1 hR.2.1 hR.2.2.1 hR.2.2.2 fo eo fl ea fk1 hM.1.1 hM.1.2.1 hM.1.2.2.1 hM.1.2.2.2  gR gm ) ?_
    rintro v h L ⟨rfl, Nf, Kp, o_rx, o_r_level, o_r_ahead, o_r_behind, o_mx, o_m_deep, o_m_first, o_m_last⟩
    exact ⟨rfl, Nf, ⟨_, Kp, fun y hy => by
      rcases List.mem_cons.mp hy with rfl | hy
      · exact Or.inl ⟨_, hR.1, by decide, by decide⟩
      · cases List.mem_singleton.mp hy
        exact Or.inl ⟨_, hM.1.1, by decide, by decide⟩⟩, hnew h _ Kp (fun y hy => by
      rcases List.mem_cons.mp hy with rfl | hy
      · exact Or.inl rfl
      · cases List.mem_singleton.mp hy
        exact Or.inr (Or.inl rfl)) ⟨⟨o_mx, o_m_deep, o_m_first, o_m_last⟩, ⟨o_rx, o_r_level, o_r_ahead, o_r_behind⟩, trivial⟩⟩
  · obtain ⟨c', Q, rfl⟩ := own_snoc hmc
    obtain ⟨hL, hN⟩ := hM
    have hL' : Lvl Z h0 mk (ownHd (c' ++ [Q])) (.ref Q) := own_ls c' Q ▸ hL
    obtain ⟨ah, hQ, hApp⟩ := lnk_snoc c' .null hN
    have hQm : Q ∈ c' ++ [Q] := by simp
    have nRQ : R ≠ Q := fun e => hRa (by rw [e]; exact List.mem_append_right _ (List.mem_append_left _ hQm))
    have gQ : n0 ≤ Q := gr Q (by simp [ownAll])
    have ncQ : ∀ y ∈ c', y ≠ Q := fun y hy => (List.pairwise_append.mp (List.pairwise_append.mp (List.pairwise_append.mp nda).2.1).1).2.2 y hy Q (by simp)
    refine Pays.imp (rmAmN l Z a0 hw b R mk o a Q (ownHd (c' ++ [Q])) (.ref mk) ah h0 n0 Z0  B.1 B.2.2.2.2.2.2.1 hR.1 hR.2.1 hR.2.2.1 hR.2.2.2 fo eo fl ea fk1 hL'.1 hL'.2.1 hL'.2.2.1 hL'.2.2.2 hQ.1 hQ.2.1 hQ.2.2.1 hQ.2.2.2 nRQ gR gm gQ ) ?_
    rintro v h L ⟨rfl, Nf, Kp, o_rx, o_r_level, o_r_ahead, o_r_behind, o_mx, o_m_deep, o_m_first, o_m_last, o_qx, o_q_level, o_q_ahead, o_q_behind⟩
    have hcN : ∀ y ∈ c', y ∉ [R, mk, Q] := fun y hy => ninS (fun e => hRa (by rw [← e]; simp [ownAll, hy])) (ninS (ne_exa (xM y (by simp [hy])) hL.1 (by decide)) (ninS (ncQ y hy) nin0))
    refine ⟨rfl, Nf, ⟨_, Kp, fun y hy => ?_⟩, hnew h _ Kp (fun y hy => ?_) ⟨?_, hApp h _ R Kp hcN ⟨o_qx, o_q_level, o_q_ahead, o_q_behind⟩ ⟨o_rx, o_r_level, o_r_ahead, o_r_behind⟩⟩⟩
    · rcases List.mem_cons.mp hy with rfl | hy
      · exact Or.inl ⟨_, hR.1, by decide, by decide⟩
      · rcases List.mem_cons.mp hy with rfl | hy
        · exact Or.inl ⟨_, hL.1, by decide, by decide⟩
        · cases List.mem_singleton.mp hy
          exact Or.inl ⟨_, hQ.1, by decide, by decide⟩
    · rcases List.mem_cons.mp hy with rfl | hy
      · exact Or.inl rfl
      · rcases List.mem_cons.mp hy with rfl | hy
        · exact Or.inr (Or.inl rfl)
        · cases List.mem_singleton.mp hy
          exact Or.inr (Or.inr hQm)
    · rw [own_hd (by simp), own_ls]
      exact ⟨o_mx, o_m_deep, o_m_first, o_m_last⟩
theorem rmAddN (l : Launch) (Z : State) (a0 : Array Value) (hw : TW Z a0) {n0 : Nat} {b mk A K t l0 : Addr} {z : Int32} {pd : List (Addr × Int32 × Int64)} {mc : List Addr} {xs ys : List OwnQ} (R : Addr) (kd : Int32) (x : Int64) (h0 : Heap) (Z0 : n0 ≤ h0.size) (F : BK Z h0 n0 b mk A K t l0 z ((R, kd, x) :: pd) mc (xs ++ ys)) (hk : kd = (0 : Int32)) (cnt : Int32) (i_ at_ nn_ : Int32) (hcn : ∀ cnt' : Int32, cnt'.toInt = (xs ++ ys).length + 1 → cnt' = cnt)
    (hAB : ∀ (cnt' : Int32) (af : Nat → Value) (ks : Nat → Int64), Bst Z h0 b mk A K t z cnt' af ks → cnt' = cnt → ks 0 = (-9223372036854775808 : Int64) → OwnPos af ks 1 (xs ++ ys) → (Pays l Z (⟨"com/example/uncross/uncross/engine/BookSide", "atOrBelow", "(J)I"⟩ : MethodName) prog_15_method_15_code 7 (some .int) [] ({ frames := 1, cells := 0, slots := 0, locals := 16 } : Room) #[(.ref b), (.long (own_key z x))] h0 (fun v h L => v = some (.int i_) ∧ Fr n0 L ∧ h = h0)) ∧ ¬ ks i_.toNatClampNeg = own_key z x)
    (hi : ¬ i_ < 0 ∧ i_.toNatClampNeg < 64) (hc5 : ¬ cnt = (512 : Int32)) (hc6 : ¬ cnt = (64 : Int32)) (hat : i_ + (1 : Int32) = at_) (ha0 : ¬ at_ < 0 ∧ at_.toNatClampNeg = 1 + xs.length) (ha : 1 + xs.length + 1 + ys.length ≤ 64) (ha2 : ¬ (at_ + (1 : Int32)) < 0 ∧ (at_ + (1 : Int32)).toNatClampNeg = at_.toNatClampNeg + 1) (hnn : cnt - at_ = nn_) (hn3 : ¬ nn_ < 0 ∧ nn_.toNatClampNeg = ys.length) (hc1 : (cnt + (1 : Int32)).toInt = cnt.toInt + 1) (hs : ∀ (y : Addr), OwnSrt (xs ++ (own_key z x, y, [R]) :: ys)) :
    Pays l Z (⟨"com/example/uncross/uncross/engine/BookSide", "add", "(Lcom/example/uncross/uncross/engine/BookSide$Resting;)V"⟩ : MethodName) prog_15_method_7_code 3 none [] ({ frames := 3, cells := 1, slots := 4, locals := 60 } : Room) #[(.ref b), (.ref R)] h0 (fun v h L => v = none ∧ Fr n0 L ∧ OwnSafe Z h0 h ∧ ∃ (y : Addr), BK Z h n0 b mk A K t l0 z pd mc (xs ++ (own_key z x, y, [R]) :: ys)) := by
  obtain ⟨cnt_, af, ks, B, hcnt, hA0, hK0, hP, hSrt, hl0, hM, hV, hPd, nd1, nd2, hlen, gb, gA, gK, gm, gq, gr⟩ := F
  obtain ⟨hR, ⟨o, a, fo, eo, fl, ea, fk⟩, hPd'⟩ : Rst Z h0 R .null .null .null ∧ Ord Z h0 R kd x ∧ Pend Z h0 pd := hPd
  have nd3 : (R :: (pd.map (fun q => q.1) ++ ownAll mc (xs ++ ys))).Nodup := nd2
  have hRa : R ∉ pd.map (fun q => q.1) ++ ownAll mc (xs ++ ys) := (List.nodup_cons.mp nd3).1
  have nda := (List.nodup_cons.mp nd3).2
  have gR : n0 ≤ R := gr R (by simp)
  have nRm : R ≠ mk := ne_exa hR.1 hM.1.1 (by decide)
  have xM : ∀ y ∈ mc, Exa Z h0 y k1C := lnk_exa hM.2
  have xV := lvs_exa hV
  have xP := pend_exa hPd'
  have fk1 : Fld Z h0 a k11C "isPresent" "Z" (.int (1 : Int32)) ∧ Fld Z h0 a k11C "value" "J" (.long x) := by
    rcases fk with ⟨u, -⟩ | ⟨-, v⟩
    · exact absurd hk u
    · exact v
  have ec := hcn cnt_ hcnt
  rw [ec] at B hcnt
  obtain ⟨hAB', hq⟩ := hAB cnt af ks B rfl hK0 hP
  have hsto : StoL Z h0 A ((List.range ys.length).map fun i => af (at_.toNatClampNeg + i)) := own_stoL _ fun v hv => by
    obtain ⟨i, hi', rfl⟩ := List.mem_map.mp hv
    obtain ⟨q, hq', e⟩ := pos_get ys _ ((pos_app xs ys 1).mp hP).2 i (List.mem_range.mp hi')
    rw [ha0.2, e]
    exact Rbk.sto B.2.2.2.2.2.2.2.2.2.2.1 (Ins.self (xV q (List.mem_append_right _ hq')).1)
  refine Pays.imp (rmAlN l Z a0 hw b t A K mk R o a z cnt i_ at_ nn_ x (ys.length) af ks h0 n0 Z0 hAB' B.1 B.2.1 B.2.2.1 B.2.2.2.1 B.2.2.2.2.1 B.2.2.2.2.2.1 B.2.2.2.2.2.2.1 B.2.2.2.2.2.2.2.1 B.2.2.2.2.2.2.2.2.1 B.2.2.2.2.2.2.2.2.2.1 B.2.2.2.2.2.2.2.2.2.2.1 B.2.2.2.2.2.2.2.2.2.2.2.1 hR.1 hR.2.1 hR.2.2.1 hR.2.2.2 fo eo fl ea fk1.1 fk1.2  gR gb gA gK hi hc5 hc6 hq hat ⟨ha0.1, by rw [ha0.2]; exact ha⟩ ha2 hnn hn3 hsto) ?_
  rintro v h L ⟨n0_, rfl, Nf, Kp, o_bx, o_rx, o_r_level, o_r_ahead, o_r_behind, o_b_buying, o_b_levelCount, o_b_deep, o_b_levels, o_b_keys, o_b_markets, o_b_emptyLevels, o_A, o_K, o_n0x, o_n0_first, o_n0_last, o_n0_deep, M0⟩
  have nc : ∀ {C : String} (y : Addr), Exa Z h0 y C → C ≠ k0C → C ≠ k1C → y ≠ A → y ≠ K → y ∉ [R, b, A, K] := fun y ey q1 q2 q3 q4 => ninS (ne_exa ey hR.1 q2) (ninS (ne_exa ey B.1 q1) (ninS q3 (ninS q4 nin0)))
  obtain ⟨cA, aA, -⟩ := B.2.2.2.2.2.2.2.2.2.2.1
  obtain ⟨cK, aK, -⟩ := B.2.2.2.2.2.2.2.2.2.2.2.1
  have nl : ∀ y, Exa Z h0 y k2C → y ∉ [R, b, A, K] := fun y ey => nc y ey (by decide) (by decide) (ne_arr ey (own_w hw 173 rfl) aA) (ne_arr ey (own_w hw 173 rfl) aK)
  have nr : ∀ y, Exa Z h0 y k1C → y ≠ R → y ∉ [R, b, A, K] := fun y ey q => ninS q (ninS (ne_exa ey B.1 (by decide)) (ninS (ne_arr ey (own_w hw 10 rfl) aA) (ninS (ne_arr ey (own_w hw 10 rfl) aK) nin0)))
  have nt : t ∉ [R, b, A, K] := nc t B.2.2.2.2.2.2.2.2.1 (by decide) (by decide) (ne_arr B.2.2.2.2.2.2.2.2.1 (own_w hw 192 rfl) aA) (ne_arr B.2.2.2.2.2.2.2.2.1 (own_w hw 192 rfl) aK)
  have ltn : ∀ {C : String} (y : Addr), Exa Z h0 y C → y ≠ n0_ := fun y ey => Nat.ne_of_lt (Nat.lt_of_lt_of_le ey.lt M0)
  have PR : (pd.map (fun q => q.1) ++ ownAll mc (xs ++ (own_key z x, n0_, [R]) :: ys)).Perm (R :: (pd.map (fun q => q.1) ++ ownAll mc (xs ++ ys))) := own_prm fun y => by
    simp [ownAll, List.count_append, List.count_cons] <;> omega
  have hV2 : ∀ q ∈ xs ++ ys, q.2.1 ∉ [R, b, A, K] ∧ ∀ y ∈ q.2.2, y ∉ [R, b, A, K] := fun q hq => ⟨nl _ (xV q hq).1, fun y hy => nr y ((xV q hq).2 y hy) fun e => hRa (by rw [← e]; exact List.mem_append_right _ (List.mem_append_right _ (List.mem_flatMap.mpr ⟨q, hq, hy⟩)))⟩
  have hV3 := (lvs_app xs ys).mp (Lvs.keep Kp hV hV2)
  refine ⟨rfl, Nf, ⟨_, Kp, fun y hy => ?_⟩, n0_, cnt + (1 : Int32), _, _, ⟨o_bx, o_b_buying, o_b_levelCount, o_b_deep, o_b_levels, o_b_keys, o_b_markets, o_b_emptyLevels, B.2.2.2.2.2.2.2.2.1.keep Kp, B.2.2.2.2.2.2.2.2.2.1.keep Kp nt, o_A, o_K, B.2.2.2.2.2.2.2.2.2.2.2.2.keep Kp⟩, ?_, ?_, ?_, ?_, hs n0_, hl0.keep Kp (nl l0 hl0.1), hM.keep Kp (nl mk hM.1.1) (fun y hy => nr y (xM y hy) fun e => hRa (by rw [← e]; exact List.mem_append_right _ (List.mem_append_left _ hy))), (lvs_app xs _).mpr ⟨hV3.1, ⟨⟨o_n0x, o_n0_deep, o_n0_first, o_n0_last⟩, ⟨o_rx, o_r_level, o_r_ahead, o_r_behind⟩, trivial⟩, by simp, hV3.2⟩, Pend.keep Kp (fun o' eo' => nc o' eo' (by decide) (by decide) (ne_arr eo' (own_w hw 13 rfl) aA) (ne_arr eo' (own_w hw 13 rfl) aK)) (fun a' ea' => nc a' ea' (by decide) (by decide) (ne_arr ea' (own_w hw 28 rfl) aA) (ne_arr ea' (own_w hw 28 rfl) aK)) hPd' (fun q hq => nr q.1 (xP q hq) fun e => hRa (by rw [← e]; exact List.mem_append_left _ (List.mem_map.mpr ⟨q, hq, rfl⟩))), ?_, PR.nodup_iff.mpr nd3, by rw [PR.length_eq]; exact hlen, gb, gA, gK, gm, ?_, fun y hy => gr y (PR.mem_iff.mp hy)⟩
  · rcases List.mem_cons.mp hy with rfl | hy
    · exact Or.inl ⟨_, hR.1, by decide, by decide⟩
    · rcases List.mem_cons.mp hy with rfl | hy
      · exact Or.inl ⟨_, B.1, by decide, by decide⟩
      · rcases List.mem_cons.mp hy with rfl | hy
        · exact Or.inr ⟨_, B.2.2.2.2.2.2.2.2.2.2.1⟩
        · cases List.mem_singleton.mp hy
          exact Or.inl ⟨_, B.2.2.2.2.2.2.2.2.2.2.2.2, by decide, by decide⟩
  · rw [hc1, hcnt]
    simp
    omega
  · have q1 : ¬ 0 = at_.toNatClampNeg := by omega
    have q2 : ¬ (at_.toNatClampNeg + 1 ≤ 0 ∧ 0 < at_.toNatClampNeg + 1 + ys.length) := by omega
    simp only [Upd, Shf, if_neg q1, if_neg q2]
    exact hA0
  · have q1 : ¬ 0 = at_.toNatClampNeg := by omega
    have q2 : ¬ (at_.toNatClampNeg + 1 ≤ 0 ∧ 0 < at_.toNatClampNeg + 1 + ys.length) := by omega
    simp only [Upd, Shf, if_neg q1, if_neg q2]
    exact hK0
  · exact pos_ins hP ha0.2
  · have e : (mk :: l0 :: (xs ++ (own_key z x, n0_, [R]) :: ys).map (fun q => q.2.1)).Perm (n0_ :: (mk :: l0 :: (xs ++ ys).map (fun q => q.2.1))) := own_prm fun y => by
      simp [List.count_append, List.count_cons] <;> omega
    refine e.nodup_iff.mpr (List.nodup_cons.mpr ⟨fun hm => ?_, nd1⟩)
    rcases List.mem_cons.mp hm with e | hm
    · exact ltn mk hM.1.1 e.symm
    · rcases List.mem_cons.mp hm with e | hm
      · exact ltn l0 hl0.1 e.symm
      · obtain ⟨q, hq, e⟩ := List.mem_map.mp hm
        exact ltn q.2.1 (xV q hq).1 e
  · intro q hq
    rcases List.mem_append.mp hq with hq | hq
    · exact gq q (List.mem_append_left _ hq)
    · rcases List.mem_cons.mp hq with rfl | hq
      · exact Nat.le_trans Z0 M0
      · exact gq q (List.mem_append_right _ hq)
theorem rmAddX (l : Launch) (Z : State) (a0 : Array Value) (hw : TW Z a0) {n0 : Nat} {b mk A K t l0 : Addr} {z : Int32} {pd : List (Addr × Int32 × Int64)} {mc : List Addr} {xs ys : List OwnQ} {k1 : Int64} {Lv : Addr} {c : List Addr} (R : Addr) (kd : Int32) (x : Int64) (h0 : Heap) (Z0 : n0 ≤ h0.size) (F : BK Z h0 n0 b mk A K t l0 z ((R, kd, x) :: pd) mc (xs ++ (k1, Lv, c) :: ys)) (hk : kd = (0 : Int32)) (cnt i_ : Int32) (hcn : ∀ cnt' : Int32, cnt'.toInt = (xs ++ (k1, Lv, c) :: ys).length + 1 → cnt' = cnt)
    (hAB : ∀ (cnt' : Int32) (af : Nat → Value) (ks : Nat → Int64), Bst Z h0 b mk A K t z cnt' af ks → cnt' = cnt → ks 0 = (-9223372036854775808 : Int64) → OwnPos af ks 1 (xs ++ (k1, Lv, c) :: ys) → Pays l Z (⟨"com/example/uncross/uncross/engine/BookSide", "atOrBelow", "(J)I"⟩ : MethodName) prog_15_method_15_code 7 (some .int) [] ({ frames := 1, cells := 0, slots := 0, locals := 16 } : Room) #[(.ref b), (.long (own_key z x))] h0 (fun v h L => v = some (.int i_) ∧ Fr n0 L ∧ h = h0))
    (hkey : k1 = own_key z x) (hi : ¬ i_ < 0 ∧ i_.toNatClampNeg < 64) (hi2 : i_.toNatClampNeg = 1 + xs.length) (hc5 : ¬ cnt = (512 : Int32)) :
    Pays l Z (⟨"com/example/uncross/uncross/engine/BookSide", "add", "(Lcom/example/uncross/uncross/engine/BookSide$Resting;)V"⟩ : MethodName) prog_15_method_7_code 3 none [] ({ frames := 3, cells := 1, slots := 4, locals := 60 } : Room) #[(.ref b), (.ref R)] h0 (fun v h L => v = none ∧ Fr n0 L ∧ OwnSafe Z h0 h ∧ BK Z h n0 b mk A K t l0 z pd mc (xs ++ (k1, Lv, c ++ [R]) :: ys)) := by
  obtain ⟨cnt_, af, ks, B, hcnt, hA0, hK0, hP, hSrt, hl0, hM, hV, hPd, nd1, nd2, hlen, gb, gA, gK, gm, gq, gr⟩ := F
  obtain ⟨hR, ⟨o, a, fo, eo, fl, ea, fk⟩, hPd'⟩ : Rst Z h0 R .null .null .null ∧ Ord Z h0 R kd x ∧ Pend Z h0 pd := hPd
  have nd3 : (R :: (pd.map (fun q => q.1) ++ ownAll mc (xs ++ (k1, Lv, c) :: ys))).Nodup := nd2
  have hRa : R ∉ pd.map (fun q => q.1) ++ ownAll mc (xs ++ (k1, Lv, c) :: ys) := (List.nodup_cons.mp nd3).1
  have nda := (List.nodup_cons.mp nd3).2
  have gR : n0 ≤ R := gr R (by simp)
  have nRm : R ≠ mk := ne_exa hR.1 hM.1.1 (by decide)
  have xM : ∀ y ∈ mc, Exa Z h0 y k1C := lnk_exa hM.2
  have xV := lvs_exa hV
  have xP := pend_exa hPd'
  have fk1 : Fld Z h0 a k11C "isPresent" "Z" (.int (1 : Int32)) ∧ Fld Z h0 a k11C "value" "J" (.long x) := by
    rcases fk with ⟨u, -⟩ | ⟨-, v⟩
    · exact absurd hk u
    · exact v
  have ec := hcn cnt_ hcnt
  rw [ec] at B hcnt
  have hAB' := hAB cnt af ks B rfl hK0 hP
  have hPx := ((pos_app xs _ 1).mp hP)
  have hP1 : af (1 + xs.length) = .ref Lv ∧ ks (1 + xs.length) = k1 ∧ OwnPos af ks (1 + xs.length + 1) ys := hPx.2
  have hVx := (lvs_app xs _).mp hV
  obtain ⟨hC, hc0, hVy⟩ : Chn Z h0 Lv c ∧ c ≠ [] ∧ Lvs Z h0 ys := hVx.2
  obtain ⟨f0, ef, -⟩ := own_hdR hc0
  obtain ⟨c', Q, rfl⟩ := own_snoc hc0
  obtain ⟨hL, hN⟩ := hC
  have hL' : Lvl Z h0 Lv (.ref f0) (.ref Q) := ef ▸ own_ls c' Q ▸ hL
  obtain ⟨ah, hQ, hApp⟩ := lnk_snoc c' .null hN
  have PQ : (pd.map (fun q => q.1) ++ ownAll mc (xs ++ (k1, Lv, c' ++ [Q]) :: ys)).Perm (Q :: (pd.map (fun q => q.1) ++ (mc ++ (xs.flatMap (fun q => q.2.2) ++ (c' ++ ys.flatMap (fun q => q.2.2)))))) := own_prm fun y => by
    simp [ownAll, List.count_append, List.count_cons] <;> omega
  have hQr := own_rest nda PQ
  have PL : (mk :: l0 :: (xs ++ (k1, Lv, c' ++ [Q]) :: ys).map (fun q => q.2.1)).Perm (Lv :: (mk :: l0 :: (xs.map (fun q => q.2.1) ++ ys.map (fun q => q.2.1)))) := own_prm fun y => by
    simp [List.count_append, List.count_cons] <;> omega
  have hLr := own_rest nd1 PL
  have PR : (pd.map (fun q => q.1) ++ ownAll mc (xs ++ (k1, Lv, c' ++ [Q] ++ [R]) :: ys)).Perm (R :: (pd.map (fun q => q.1) ++ ownAll mc (xs ++ (k1, Lv, c' ++ [Q]) :: ys))) := own_prm fun y => by
    simp [ownAll, List.count_append, List.count_cons] <;> omega
  have mQ : Q ∈ pd.map (fun q => q.1) ++ ownAll mc (xs ++ (k1, Lv, c' ++ [Q]) :: ys) := PQ.mem_iff.mpr (by simp)
  have nRQ : R ≠ Q := fun e => hRa (by rw [e]; exact mQ)
  have gQ : n0 ≤ Q := gr Q (List.mem_cons_of_mem _ mQ)
  have gL : n0 ≤ Lv := gq (k1, Lv, c' ++ [Q]) (by simp)
  refine Pays.imp (rmAlX l Z a0 hw b t A K mk Lv f0 R o a Q z cnt i_ x af ks (.ref Lv) ah h0 n0 Z0 hAB' B.1 B.2.1 B.2.2.1 B.2.2.2.1 B.2.2.2.2.1 B.2.2.2.2.2.1 B.2.2.2.2.2.2.1 B.2.2.2.2.2.2.2.1 B.2.2.2.2.2.2.2.2.1 B.2.2.2.2.2.2.2.2.2.1 B.2.2.2.2.2.2.2.2.2.2.1 B.2.2.2.2.2.2.2.2.2.2.2.1 hL'.1 hL'.2.1 hL'.2.2.1 hL'.2.2.2 hR.1 hR.2.1 hR.2.2.1 hR.2.2.2 fo eo fl ea fk1.1 fk1.2 hQ.1 hQ.2.1 hQ.2.2.1 hQ.2.2.2 nRQ gR gL gQ hi hc5 (by rw [hi2]; exact hP1.2.1.trans hkey) (by rw [hi2]; exact hP1.1)) ?_
  rintro v h L ⟨rfl, Nf, Kp, o_lx, o_l_deep, o_l_first, o_l_last, o_rx, o_r_level, o_r_ahead, o_r_behind, o_qx, o_q_level, o_q_ahead, o_q_behind⟩
  have inx : ∀ y, y ∈ pd.map (fun q => q.1) ++ (mc ++ (xs.flatMap (fun q => q.2.2) ++ (c' ++ ys.flatMap (fun q => q.2.2)))) → Exa Z h0 y k1C → y ∉ [R, Lv, Q] := fun y hy ey =>
    ninS (fun e => hRa (by rw [← e]; exact PQ.mem_iff.mpr (List.mem_cons_of_mem _ hy))) (ninS (ne_exa ey hL.1 (by decide)) (ninS (own_neQ hQr hy) nin0))
  have nc : ∀ {C : String} (y : Addr), Exa Z h0 y C → C ≠ k1C → C ≠ k2C → y ∉ [R, Lv, Q] := fun y ey q1 q2 => ninS (ne_exa ey hR.1 q1) (ninS (ne_exa ey hL.1 q2) (ninS (ne_exa ey hQ.1 q1) nin0))
  have na : ∀ y c ty, Arr Z h0 y c ty → y ∉ [R, Lv, Q] := fun y c ty ay => ninS (ne_arr hR.1 (own_w hw 10 rfl) ay).symm (ninS (ne_arr hL.1 (own_w hw 173 rfl) ay).symm (ninS (ne_arr hQ.1 (own_w hw 10 rfl) ay).symm nin0))
  have nl : ∀ y, Exa Z h0 y k2C → y ≠ Lv → y ∉ [R, Lv, Q] := fun y ey q => ninS (ne_exa ey hR.1 (by decide)) (ninS q (ninS (ne_exa ey hQ.1 (by decide)) nin0))
  obtain ⟨cA, aA, -⟩ := B.2.2.2.2.2.2.2.2.2.2.1
  obtain ⟨cK, aK, -⟩ := B.2.2.2.2.2.2.2.2.2.2.2.1
  have lvx : ∀ q ∈ xs, q.2.1 ∉ [R, Lv, Q] ∧ ∀ y ∈ q.2.2, y ∉ [R, Lv, Q] := fun q hq => ⟨nl _ (xV q (by simp [hq])).1 fun e => hLr (by rw [← e]; exact .tail _ (.tail _ (List.mem_append_left _ (List.mem_map.mpr ⟨q, hq, rfl⟩)))), fun y hy => inx y (List.mem_append_right _ (List.mem_append_right _ (List.mem_append_left _ (List.mem_flatMap.mpr ⟨q, hq, hy⟩)))) ((xV q (by simp [hq])).2 y hy)⟩
  have lvy : ∀ q ∈ ys, q.2.1 ∉ [R, Lv, Q] ∧ ∀ y ∈ q.2.2, y ∉ [R, Lv, Q] := fun q hq => ⟨nl _ (xV q (by simp [hq])).1 fun e => hLr (by rw [← e]; exact .tail _ (.tail _ (List.mem_append_right _ (List.mem_map.mpr ⟨q, hq, rfl⟩)))), fun y hy => inx y (List.mem_append_right _ (List.mem_append_right _ (List.mem_append_right _ (List.mem_append_right _ (List.mem_flatMap.mpr ⟨q, hq, hy⟩))))) ((xV q (by simp [hq])).2 y hy)⟩
  refine ⟨rfl, Nf, ⟨_, Kp, fun y hy => ?_⟩, cnt, af, ks, B.keep Kp (nc b B.1 (by decide) (by decide)) (nc t B.2.2.2.2.2.2.2.2.1 (by decide) (by decide)) (na A cA _ aA) (na K cK _ aK), ?_, hA0, hK0, (pos_app xs _ 1).mpr ⟨hPx.1, hPx.2⟩, ?_, hl0.keep Kp (nl l0 hl0.1 fun e => hLr (by simp [e])), hM.keep Kp (nl mk hM.1.1 fun e => hLr (by simp [e])) (fun y hy => inx y (by simp [hy]) (xM y hy)), (lvs_app xs _).mpr ⟨Lvs.keep Kp hVx.1 lvx, ⟨?_, hApp h _ R Kp (fun y hy => inx y (by simp [hy]) (lnk_exa hN y (by simp [hy]))) ⟨o_qx, o_q_level, o_q_ahead, o_q_behind⟩ ⟨o_rx, o_r_level, o_r_ahead, o_r_behind⟩⟩, by simp, Lvs.keep Kp hVy lvy⟩, Pend.keep Kp (fun o' eo' => nc o' eo' (by decide) (by decide)) (fun a' ea' => nc a' ea' (by decide) (by decide)) hPd' (fun q hq => inx q.1 (List.mem_append_left _ (List.mem_map.mpr ⟨q, hq, rfl⟩)) (xP q hq)), ?_, PR.nodup_iff.mpr nd3, by rw [PR.length_eq]; exact hlen, gb, gA, gK, gm, ?_, fun y hy => gr y (PR.mem_iff.mp hy)⟩
  · rcases List.mem_cons.mp hy with rfl | hy
    · exact Or.inl ⟨_, hR.1, by decide, by decide⟩
    · rcases List.mem_cons.mp hy with rfl | hy
      · exact Or.inl ⟨_, hL.1, by decide, by decide⟩
      · cases List.mem_singleton.mp hy
        exact Or.inl ⟨_, hQ.1, by decide, by decide⟩
  · rw [hcnt]
    simp
  · simpa [OwnSrt] using hSrt
  · rw [own_hd (by simp), own_ls, ef]
    exact ⟨o_lx, o_l_deep, o_l_first, o_l_last⟩
  · simpa using nd1
  · intro q hq
    rcases List.mem_append.mp hq with hq | hq
    · exact gq q (List.mem_append_left _ hq)
    · rcases List.mem_cons.mp hq with rfl | hq
      · exact gL
      · exact gq q (List.mem_append_right _ (List.mem_cons_of_mem _ hq))
theorem own_gt64 {a b : Int64} (h1 : ¬ a = b) (h2 : ¬ a < b) : b < a := by
  rw [Int64.lt_iff_toInt_lt] at *
  rw [← Int64.toInt_inj] at h1
  omega
theorem own_tr64 {a b c : Int64} (h1 : a < b) (h2 : b < c) : a < c := by
  rw [Int64.lt_iff_toInt_lt] at *
  omega
theorem rmAddL (l : Launch) (Z : State) (a0 : Array Value) (hw : TW Z a0) {n0 : Nat} {b mk A K t l0 : Addr} {z : Int32} {pd : List (Addr × Int32 × Int64)} {mc : List Addr} {qs : List OwnQ} (R : Addr) (kd : Int32) (x : Int64) (h0 : Heap) (Z0 : n0 ≤ h0.size) (F : BK Z h0 n0 b mk A K t l0 z ((R, kd, x) :: pd) mc qs) (hk : kd = (0 : Int32)) (hb : ¬ x < (1 : Int64) ∧ ¬ (1000000000000 : Int64) < x) :
    Pays l Z (⟨"com/example/uncross/uncross/engine/BookSide", "add", "(Lcom/example/uncross/uncross/engine/BookSide$Resting;)V"⟩ : MethodName) prog_15_method_7_code 3 none [] ({ frames := 3, cells := 1, slots := 4, locals := 60 } : Room) #[(.ref b), (.ref R)] h0 (fun v h L => v = none ∧ Fr n0 L ∧ OwnSafe Z h0 h ∧ ∃ qs' : List OwnQ, ownPr qs' = ownIns (own_key z x).toInt R (ownPr qs) ∧ BK Z h n0 b mk A K t l0 z pd mc qs') := by
  have hle : qs.length ≤ 2 := by
    obtain ⟨_, _, _, _, _, _, _, _, _, _, _, hV, _, _, _, hlen, _⟩ := id F
    have q := own_len hV
    simp [ownAll] at hlen q
    omega
  obtain ⟨_, _, _, _, _, _, _, _, hSrt, _⟩ := id F
  match qs, hle, F, hSrt with
  | [], _, F, _ => exact Pays.imp (rmAddN l Z a0 hw (xs := []) (ys := []) R kd x h0 Z0 F hk (1 : Int32) (0 : Int32) (1 : Int32) (0 : Int32) (fun c hc => Int32.toInt_inj.mp (hc.trans rfl)) (fun cnt' af ks Bt ec hk0 hp => by
      subst ec
      exact ⟨rmAa1 l Z a0 hw b K (own_key z x) ks h0 n0 Z0  Bt.1 Bt.2.2.1 Bt.2.2.2.2.2.1 Bt.2.2.2.2.2.2.2.2.2.2.2.1  (by rw [hk0]; exact own_min _), (by show ¬ ks 0 = _; rw [hk0]; exact own_knm hb)⟩) (by decide) (by decide) (by decide) (by decide) ⟨by decide, rfl⟩ (by simp) (by decide) (by decide) ⟨by decide, rfl⟩ (by decide) (fun y => trivial)) fun v h L ⟨e, N, S, y, q⟩ => ⟨e, N, S, _, by simp [ownPr, ownIns, Int64.toInt_inj, ← Int64.lt_iff_toInt_lt], q⟩
  | [(k1, L1, c1)], _, F, _ =>
    by_cases e1 : own_key z x = k1
    · exact Pays.imp (rmAddX l Z a0 hw (xs := []) (ys := []) (k1 := k1) (Lv := L1) (c := c1) R kd x h0 Z0 F hk (2 : Int32) (1 : Int32) (fun c hc => Int32.toInt_inj.mp (hc.trans rfl)) (fun cnt' af ks Bt ec hk0 hp => by
      subst ec
      exact rmAa2n l Z a0 hw b K (own_key z x) ks h0 n0 Z0  Bt.1 Bt.2.2.1 Bt.2.2.2.2.2.1 Bt.2.2.2.2.2.2.2.2.2.2.2.1  (by rw [hp.2.1]; exact own_le e1.symm)) e1.symm (by decide) rfl (by decide)) fun v h L ⟨e, N, S, q⟩ => ⟨e, N, S, _, by simp [ownPr, ownIns, Int64.toInt_inj, ← Int64.lt_iff_toInt_lt, e1], q⟩
    by_cases e2 : own_key z x < k1
    · exact Pays.imp (rmAddN l Z a0 hw (xs := []) (ys := [(k1, L1, c1)]) R kd x h0 Z0 F hk (2 : Int32) (0 : Int32) (1 : Int32) (1 : Int32) (fun c hc => Int32.toInt_inj.mp (hc.trans rfl)) (fun cnt' af ks Bt ec hk0 hp => by
      subst ec
      exact ⟨rmAa2y l Z a0 hw b K (own_key z x) ks h0 n0 Z0  Bt.1 Bt.2.2.1 Bt.2.2.2.2.2.1 Bt.2.2.2.2.2.2.2.2.2.2.2.1  (by rw [hp.2.1]; exact e2) (by rw [hk0]; exact own_min _), (by show ¬ ks 0 = _; rw [hk0]; exact own_knm hb)⟩) (by decide) (by decide) (by decide) (by decide) ⟨by decide, rfl⟩ (by simp) (by decide) (by decide) ⟨by decide, rfl⟩ (by decide) (fun y => ⟨e2, trivial⟩)) fun v h L ⟨e, N, S, y, q⟩ => ⟨e, N, S, _, by simp [ownPr, ownIns, Int64.toInt_inj, ← Int64.lt_iff_toInt_lt, e1, e2], q⟩
    · exact Pays.imp (rmAddN l Z a0 hw (xs := [(k1, L1, c1)]) (ys := []) R kd x h0 Z0 F hk (2 : Int32) (1 : Int32) (2 : Int32) (0 : Int32) (fun c hc => Int32.toInt_inj.mp (hc.trans rfl)) (fun cnt' af ks Bt ec hk0 hp => by
      subst ec
      exact ⟨rmAa2n l Z a0 hw b K (own_key z x) ks h0 n0 Z0  Bt.1 Bt.2.2.1 Bt.2.2.2.2.2.1 Bt.2.2.2.2.2.2.2.2.2.2.2.1  (by rw [hp.2.1]; exact e2), (by show ¬ ks 1 = _; rw [hp.2.1]; exact fun q => e1 q.symm)⟩) (by decide) (by decide) (by decide) (by decide) ⟨by decide, rfl⟩ (by simp) (by decide) (by decide) ⟨by decide, rfl⟩ (by decide) (fun y => ⟨own_gt64 e1 e2, trivial⟩)) fun v h L ⟨e, N, S, y, q⟩ => ⟨e, N, S, _, by simp [ownPr, ownIns, Int64.toInt_inj, ← Int64.lt_iff_toInt_lt, e1, e2], q⟩
  | [(k1, L1, c1), (k2, L2, c2)], _, F, hSrt =>
    have h12 : k1 < k2 := hSrt.1
    by_cases e1 : own_key z x = k1
    · have e0 : own_key z x < k2 := by rw [e1]; exact h12
      exact Pays.imp (rmAddX l Z a0 hw (xs := []) (ys := [(k2, L2, c2)]) (k1 := k1) (Lv := L1) (c := c1) R kd x h0 Z0 F hk (3 : Int32) (1 : Int32) (fun c hc => Int32.toInt_inj.mp (hc.trans rfl)) (fun cnt' af ks Bt ec hk0 hp => by
      subst ec
      exact rmAa3yn l Z a0 hw b K (own_key z x) ks h0 n0 Z0  Bt.1 Bt.2.2.1 Bt.2.2.2.2.2.1 Bt.2.2.2.2.2.2.2.2.2.2.2.1  (by rw [hp.2.2.2.1]; exact e0) (by rw [hp.2.1]; exact own_le e1.symm)) e1.symm (by decide) rfl (by decide)) fun v h L ⟨e, N, S, q⟩ => ⟨e, N, S, _, by simp [ownPr, ownIns, Int64.toInt_inj, ← Int64.lt_iff_toInt_lt, e1], q⟩
    by_cases e2 : own_key z x < k1
    · exact Pays.imp (rmAddN l Z a0 hw (xs := []) (ys := [(k1, L1, c1), (k2, L2, c2)]) R kd x h0 Z0 F hk (3 : Int32) (0 : Int32) (1 : Int32) (2 : Int32) (fun c hc => Int32.toInt_inj.mp (hc.trans rfl)) (fun cnt' af ks Bt ec hk0 hp => by
      subst ec
      exact ⟨rmAa3yy l Z a0 hw b K (own_key z x) ks h0 n0 Z0  Bt.1 Bt.2.2.1 Bt.2.2.2.2.2.1 Bt.2.2.2.2.2.2.2.2.2.2.2.1  (by rw [hp.2.2.2.1]; exact own_tr64 e2 h12) (by rw [hp.2.1]; exact e2) (by rw [hk0]; exact own_min _), (by show ¬ ks 0 = _; rw [hk0]; exact own_knm hb)⟩) (by decide) (by decide) (by decide) (by decide) ⟨by decide, rfl⟩ (by simp) (by decide) (by decide) ⟨by decide, rfl⟩ (by decide) (fun y => ⟨e2, h12, trivial⟩)) fun v h L ⟨e, N, S, y, q⟩ => ⟨e, N, S, _, by simp [ownPr, ownIns, Int64.toInt_inj, ← Int64.lt_iff_toInt_lt, e1, e2], q⟩
    by_cases e3 : own_key z x = k2
    · exact Pays.imp (rmAddX l Z a0 hw (xs := [(k1, L1, c1)]) (ys := []) (k1 := k2) (Lv := L2) (c := c2) R kd x h0 Z0 F hk (3 : Int32) (2 : Int32) (fun c hc => Int32.toInt_inj.mp (hc.trans rfl)) (fun cnt' af ks Bt ec hk0 hp => by
      subst ec
      exact rmAa3n l Z a0 hw b K (own_key z x) ks h0 n0 Z0  Bt.1 Bt.2.2.1 Bt.2.2.2.2.2.1 Bt.2.2.2.2.2.2.2.2.2.2.2.1  (by rw [hp.2.2.2.1]; exact own_le e3.symm)) e3.symm (by decide) rfl (by decide)) fun v h L ⟨e, N, S, q⟩ => ⟨e, N, S, _, by simp [ownPr, ownIns, Int64.toInt_inj, ← Int64.lt_iff_toInt_lt, e3, (e3 ▸ e1 : ¬ k2 = k1), (e3 ▸ e2 : ¬ k2 < k1)], q⟩
    by_cases e4 : own_key z x < k2
    · exact Pays.imp (rmAddN l Z a0 hw (xs := [(k1, L1, c1)]) (ys := [(k2, L2, c2)]) R kd x h0 Z0 F hk (3 : Int32) (1 : Int32) (2 : Int32) (1 : Int32) (fun c hc => Int32.toInt_inj.mp (hc.trans rfl)) (fun cnt' af ks Bt ec hk0 hp => by
      subst ec
      exact ⟨rmAa3yn l Z a0 hw b K (own_key z x) ks h0 n0 Z0  Bt.1 Bt.2.2.1 Bt.2.2.2.2.2.1 Bt.2.2.2.2.2.2.2.2.2.2.2.1  (by rw [hp.2.2.2.1]; exact e4) (by rw [hp.2.1]; exact e2), (by show ¬ ks 1 = _; rw [hp.2.1]; exact fun q => e1 q.symm)⟩) (by decide) (by decide) (by decide) (by decide) ⟨by decide, rfl⟩ (by simp) (by decide) (by decide) ⟨by decide, rfl⟩ (by decide) (fun y => ⟨own_gt64 e1 e2, e4, trivial⟩)) fun v h L ⟨e, N, S, y, q⟩ => ⟨e, N, S, _, by simp [ownPr, ownIns, Int64.toInt_inj, ← Int64.lt_iff_toInt_lt, e1, e2, e3, e4], q⟩
    · exact Pays.imp (rmAddN l Z a0 hw (xs := [(k1, L1, c1), (k2, L2, c2)]) (ys := []) R kd x h0 Z0 F hk (3 : Int32) (2 : Int32) (3 : Int32) (0 : Int32) (fun c hc => Int32.toInt_inj.mp (hc.trans rfl)) (fun cnt' af ks Bt ec hk0 hp => by
      subst ec
      exact ⟨rmAa3n l Z a0 hw b K (own_key z x) ks h0 n0 Z0  Bt.1 Bt.2.2.1 Bt.2.2.2.2.2.1 Bt.2.2.2.2.2.2.2.2.2.2.2.1  (by rw [hp.2.2.2.1]; exact e4), (by show ¬ ks 2 = _; rw [hp.2.2.2.1]; exact fun q => e3 q.symm)⟩) (by decide) (by decide) (by decide) (by decide) ⟨by decide, rfl⟩ (by simp) (by decide) (by decide) ⟨by decide, rfl⟩ (by decide) (fun y => ⟨h12, own_gt64 e3 e4, trivial⟩)) fun v h L ⟨e, N, S, y, q⟩ => ⟨e, N, S, _, by simp [ownPr, ownIns, Int64.toInt_inj, ← Int64.lt_iff_toInt_lt, e1, e2, e3, e4], q⟩
  | _ :: _ :: _ :: _, hle, _, _ => simp at hle
def ownTop : List (Int × List Addr) → Value
  | [] => .null
  | [q] => ownHd q.2
  | _ :: q :: t => ownTop (q :: t)
def ownFst (mc : List Addr) (w : Value) : Value := match mc with
  | a :: _ => .ref a
  | [] => w
def ownAdd (kd : Int32) (k : Int) (R : Addr) (s : List Addr × List (Int × List Addr)) : List Addr × List (Int × List Addr) := if kd = (0 : Int32) then (s.1, ownIns k R s.2) else (s.1 ++ [R], s.2)
def ownRT (R : Addr) : List (Int × List Addr) → Value
  | [] => .null
  | [q] => ownHd (q.2.erase R)
  | [p, q] => ownFst (q.2.erase R) (ownHd p.2)
  | _ :: q :: r :: t => ownRT R (q :: r :: t)
/-- what first() reads of the array -/
def ArrF (Z : State) (h : Heap) (b : Addr) (w : Value) : Prop := ∃ (A p : Addr) (cnt tp : Int32) (af : Nat → Value), Fld Z h b k0C "levels" k6C (.ref A) ∧ Fld Z h b k0C "levelCount" "I" (.int cnt) ∧ Rbk Z h A k2C 64 af ∧ Exa Z h p k2C ∧ Fld Z h p k2C "first" k4C w ∧ cnt - (1 : Int32) = tp ∧ (¬ tp < 0 ∧ tp.toNatClampNeg < 64) ∧ af tp.toNatClampNeg = .ref p ∧ w.isRef = true
def FB (Z : State) (h : Heap) (b : Addr) (w : Value) : Prop := ∃ mk, Exa Z h b k0C ∧ Fld Z h b k0C "markets" k5C (.ref mk) ∧ Exa Z h mk k2C ∧ ((∃ f, w = .ref f ∧ Fld Z h mk k2C "first" k4C (.ref f)) ∨ (Fld Z h mk k2C "first" k4C .null ∧ ArrF Z h b w))
theorem fb_of {Z : State} {h : Heap} {b mk : Addr} {c : List Addr} {w : Value} (e : Exa Z h b k0C) (m : Fld Z h b k0C "markets" k5C (.ref mk)) (x : Exa Z h mk k2C) (f : Fld Z h mk k2C "first" k4C (ownHd c)) (a : ArrF Z h b w) : FB Z h b (ownFst c w) := by
  cases c with
  | nil => exact ⟨mk, e, m, x, Or.inr ⟨f, a⟩⟩
  | cons y t => exact ⟨mk, e, m, x, Or.inl ⟨y, rfl, f⟩⟩
theorem arr_mk {Z : State} {h : Heap} {b mk A K t : Addr} {z cnt tp : Int32} {af : Nat → Value} {ks : Nat → Int64} {p : Addr} {c : List Addr} (B : Bst Z h b mk A K t z cnt af ks) (ep : Exa Z h p k2C) (fp : Fld Z h p k2C "first" k4C (ownHd c)) (e : cnt - (1 : Int32) = tp) (i : ¬ tp < 0 ∧ tp.toNatClampNeg < 64) (q : af tp.toNatClampNeg = .ref p) : ArrF Z h b (ownHd c) :=
  ⟨A, p, cnt, tp, af, B.2.2.2.2.1, B.2.2.1, B.2.2.2.2.2.2.2.2.2.2.1, ep, fp, e, i, q, own_hdref c⟩
theorem rmFst (l : Launch) (Z : State) (a0 : Array Value) (hw : TW Z a0) {n0 : Nat} {b : Addr} {w : Value} (h0 : Heap) (Z0 : n0 ≤ h0.size) (F : FB Z h0 b w) :
    Pays l Z (⟨"com/example/uncross/uncross/engine/BookSide", "first", "()Lcom/example/uncross/uncross/engine/BookSide$Resting;"⟩ : MethodName) prog_15_method_3_code 1 (some (.object "com/example/uncross/uncross/engine/BookSide$Resting")) [] ({ frames := 0, cells := 0, slots := 0, locals := 0 } : Room) #[(.ref b)] h0 (fun v h L => v = some w ∧ Fr n0 L ∧ h = h0) := by
  obtain ⟨mk, e, m, x, ⟨f, rfl, g⟩ | ⟨g, A, p, cnt, tp, af, f1, f2, f3, f4, f5, f6, f7, f8, f9⟩⟩ := F
  · exact rmFiM l Z a0 hw b mk f h0 n0 Z0  e m x g
  · exact rmFiA l Z a0 hw b mk A p cnt tp af w h0 n0 Z0  e m x g f1 f2 f3 f4 f5  f6 f7 f8 f9
theorem bk_fb {Z : State} {h : Heap} {n0 : Nat} {b mk A K t l0 : Addr} {z : Int32} {pd : List (Addr × Int32 × Int64)} {mc : List Addr} {qs : List OwnQ} (hle : qs.length ≤ 3) (F : BK Z h n0 b mk A K t l0 z pd mc qs) : FB Z h b (ownFst mc (ownTop (ownPr qs))) := by
  match qs, hle, F with
  | [], _, F =>
    obtain ⟨cnt, af, ks, B, hcnt, hA0, hK0, hP, hSrt, hl0, hM, hV, hPd, nd1, nd2, hlen, gb, gA, gK, gm, gq, gr⟩ := F
    have ec : cnt = (1 : Int32) := Int32.toInt_inj.mp (hcnt.trans rfl)
    rw [ec] at B
    exact fb_of B.1 B.2.2.2.2.2.2.1 hM.1.1 hM.1.2.2.1 (arr_mk (c := []) (tp := (0 : Int32)) B hl0.1 hl0.2.2.1 (by decide) (by decide) (by exact hA0))
  | [(k1, L1, c1)], _, F =>
    obtain ⟨cnt, af, ks, B, hcnt, hA0, hK0, hP, hSrt, hl0, hM, hV, hPd, nd1, nd2, hlen, gb, gA, gK, gm, gq, gr⟩ := F
    have ec : cnt = (2 : Int32) := Int32.toInt_inj.mp (hcnt.trans rfl)
    rw [ec] at B
    exact fb_of B.1 B.2.2.2.2.2.2.1 hM.1.1 hM.1.2.2.1 (arr_mk (c := c1) (tp := (1 : Int32)) B hV.1.1.1 hV.1.1.2.2.1 (by decide) (by decide) (by exact hP.1))
  | [(k1, L1, c1), (k2, L2, c2)], _, F =>
    obtain ⟨cnt, af, ks, B, hcnt, hA0, hK0, hP, hSrt, hl0, hM, hV, hPd, nd1, nd2, hlen, gb, gA, gK, gm, gq, gr⟩ := F
    have ec : cnt = (3 : Int32) := Int32.toInt_inj.mp (hcnt.trans rfl)
    rw [ec] at B
    exact fb_of B.1 B.2.2.2.2.2.2.1 hM.1.1 hM.1.2.2.1 (arr_mk (c := c2) (tp := (2 : Int32)) B hV.2.2.1.1.1 hV.2.2.1.1.2.2.1 (by decide) (by decide) (by exact hP.2.2.1))
  | [(k1, L1, c1), (k2, L2, c2), (k3, L3, c3)], _, F =>
    obtain ⟨cnt, af, ks, B, hcnt, hA0, hK0, hP, hSrt, hl0, hM, hV, hPd, nd1, nd2, hlen, gb, gA, gK, gm, gq, gr⟩ := F
    have ec : cnt = (4 : Int32) := Int32.toInt_inj.mp (hcnt.trans rfl)
    rw [ec] at B
    exact fb_of B.1 B.2.2.2.2.2.2.1 hM.1.1 hM.1.2.2.1 (arr_mk (c := c3) (tp := (3 : Int32)) B hV.2.2.2.2.1.1.1 hV.2.2.2.2.1.1.2.2.1 (by decide) (by decide) (by exact hP.2.2.2.2.1))
  | _ :: _ :: _ :: _ :: _, hle, _ => simp at hle
theorem rmRemC (l : Launch) (Z : State) (a0 : Array Value) (hw : TW Z a0) {n0 : Nat} {b Lv R : Addr} {c : List Addr} (h0 : Heap) (Z0 : n0 ≤ h0.size) (C : Chn Z h0 Lv c) (nd : c.Nodup) (h2 : 2 ≤ c.length) (h3 : c.length ≤ 3) (hR : R ∈ c) (gL : n0 ≤ Lv) (gc : ∀ y ∈ c, n0 ≤ y) :
    Pays l Z (⟨"com/example/uncross/uncross/engine/BookSide", "remove", "(Lcom/example/uncross/uncross/engine/BookSide$Resting;)V"⟩ : MethodName) prog_15_method_8_code 3 none [] ({ frames := 2, cells := 0, slots := 0, locals := 26 } : Room) #[(.ref b), (.ref R)] h0 (fun v h L => v = none ∧ Fr n0 L ∧ Keep h0 h (Lv :: c) ∧ Fld Z h Lv k2C "first" k4C (ownHd (c.erase R)) ∧ c.erase R ≠ []) := by
  match c, C, nd, h2, h3, hR, gc with
  | [a, d], C, nd, _, _, hR, gc =>
    simp at nd
    have n12 : a ≠ d := nd
    rcases (show R = a ∨ R = d by simpa using hR).imp Eq.symm Eq.symm with rfl | rfl
    · have gR : n0 ≤ a := gc _ (by simp)
      have gy : n0 ≤ d := gc _ (by simp)
      have er : [a, d].erase a = [d] := by simp [n12, n12.symm]
      refine Pays.imp (rmRB l Z a0 hw b a Lv d (.ref d) (.ref Lv) (.null) h0 n0 Z0  C.2.1.1 C.2.1.2.1 C.2.1.2.2.1 C.2.1.2.2.2 C.1.1 C.1.2.1 C.1.2.2.1 C.1.2.2.2 C.2.2.1.1 C.2.2.1.2.1 C.2.2.1.2.2.1 C.2.2.1.2.2.2 n12 gR gL gy ) ?_
      rintro v h L ⟨rfl, Nf, Kp, o_l_first⟩
      rw [er]
      exact ⟨rfl, Nf, own_kmono Kp (fun y hy => by simp at hy ⊢; rcases hy with rfl | rfl | rfl <;> simp), o_l_first, by simp⟩
    · have gR : n0 ≤ d := gc _ (by simp)
      have gx : n0 ≤ a := gc _ (by simp)
      have er : [a, d].erase d = [a] := by simp [n12, n12.symm]
      refine Pays.imp (rmRA l Z a0 hw b d Lv a a (.ref d) (.ref Lv) (.null) h0 n0 Z0  C.2.2.1.1 C.2.2.1.2.1 C.2.2.1.2.2.1 C.2.2.1.2.2.2 C.1.1 C.1.2.1 C.1.2.2.1 C.1.2.2.2 C.2.1.1 C.2.1.2.1 C.2.1.2.2.1 C.2.1.2.2.2 n12.symm gR gL gx ) ?_
      rintro v h L ⟨rfl, Nf, Kp, o_l_first⟩
      rw [er]
      exact ⟨rfl, Nf, own_kmono Kp (fun y hy => by simp at hy ⊢; rcases hy with rfl | rfl | rfl <;> simp), o_l_first, by simp⟩
  | [a, d, f], C, nd, _, _, hR, gc =>
    simp at nd
    have n12 : a ≠ d := nd.1.1
    have n13 : a ≠ f := nd.1.2
    have n23 : d ≠ f := nd.2
    rcases (show R = a ∨ R = d ∨ R = f by simpa using hR).imp Eq.symm (Or.imp Eq.symm Eq.symm) with rfl | rfl | rfl
    · have gR : n0 ≤ a := gc _ (by simp)
      have gy : n0 ≤ d := gc _ (by simp)
      have er : [a, d, f].erase a = [d, f] := by simp [n12, n12.symm, n13, n13.symm, n23, n23.symm]
      refine Pays.imp (rmRB l Z a0 hw b a Lv d (.ref f) (.ref Lv) (.ref f) h0 n0 Z0  C.2.1.1 C.2.1.2.1 C.2.1.2.2.1 C.2.1.2.2.2 C.1.1 C.1.2.1 C.1.2.2.1 C.1.2.2.2 C.2.2.1.1 C.2.2.1.2.1 C.2.2.1.2.2.1 C.2.2.1.2.2.2 n12 gR gL gy ) ?_
      rintro v h L ⟨rfl, Nf, Kp, o_l_first⟩
      rw [er]
      exact ⟨rfl, Nf, own_kmono Kp (fun y hy => by simp at hy ⊢; rcases hy with rfl | rfl | rfl <;> simp), o_l_first, by simp⟩
    · have gR : n0 ≤ d := gc _ (by simp)
      have gx : n0 ≤ a := gc _ (by simp)
      have gy : n0 ≤ f := gc _ (by simp)
      have er : [a, d, f].erase d = [a, f] := by simp [n12, n12.symm, n13, n13.symm, n23, n23.symm]
      refine Pays.imp (rmRD l Z a0 hw b d Lv a f a (.ref f) (.ref Lv) (.null) (.ref Lv) (.null) h0 n0 Z0  C.2.2.1.1 C.2.2.1.2.1 C.2.2.1.2.2.1 C.2.2.1.2.2.2 C.1.1 C.1.2.1 C.1.2.2.1 C.1.2.2.2 C.2.1.1 C.2.1.2.1 C.2.1.2.2.1 C.2.1.2.2.2 C.2.2.2.1.1 C.2.2.2.1.2.1 C.2.2.2.1.2.2.1 C.2.2.2.1.2.2.2 n12.symm n23 n13 gR gx gy ) ?_
      rintro v h L ⟨rfl, Nf, Kp⟩
      rw [er]
      exact ⟨rfl, Nf, own_kmono Kp (fun y hy => by simp at hy ⊢; rcases hy with rfl | rfl | rfl <;> simp), C.1.2.2.1.keep Kp (ninS (ne_exa C.1.1 C.2.2.1.1 (by decide)) (ninS (ne_exa C.1.1 C.2.1.1 (by decide)) (ninS (ne_exa C.1.1 C.2.2.2.1.1 (by decide)) nin0))), by simp⟩
    · have gR : n0 ≤ f := gc _ (by simp)
      have gx : n0 ≤ d := gc _ (by simp)
      have er : [a, d, f].erase f = [a, d] := by simp [n12, n12.symm, n13, n13.symm, n23, n23.symm]
      refine Pays.imp (rmRA l Z a0 hw b f Lv d a (.ref f) (.ref Lv) (.ref a) h0 n0 Z0  C.2.2.2.1.1 C.2.2.2.1.2.1 C.2.2.2.1.2.2.1 C.2.2.2.1.2.2.2 C.1.1 C.1.2.1 C.1.2.2.1 C.1.2.2.2 C.2.2.1.1 C.2.2.1.2.1 C.2.2.1.2.2.1 C.2.2.1.2.2.2 n23.symm gR gL gx ) ?_
      rintro v h L ⟨rfl, Nf, Kp, o_l_first⟩
      rw [er]
      exact ⟨rfl, Nf, own_kmono Kp (fun y hy => by simp at hy ⊢; rcases hy with rfl | rfl | rfl <;> simp), o_l_first, by simp⟩
  | [], _, _, h2, _, _, _ => simp at h2
  | [_], _, _, h2, _, _, _ => simp at h2
  | _ :: _ :: _ :: _ :: _, _, _, _, h3, _, _ => simp at h3
theorem own_fst_ne {c : List Addr} {w : Value} (h : c ≠ []) : ownFst c w = ownHd c := by
  cases c with
  | nil => exact absurd rfl h
  | cons a t => rfl
theorem own_frm {Z : State} {h : Heap} {a0 : Array Value} (hw : TW Z a0) {Lv b A : Addr} {c : List Addr} {af : Nat → Value} (eL : Exa Z h Lv k2C) (ec : ∀ y ∈ c, Exa Z h y k1C) (eb : Exa Z h b k0C) (RA : Rbk Z h A k2C 64 af) : b ∉ Lv :: c ∧ A ∉ Lv :: c ∧ ∀ L', Exa Z h L' k2C → L' ≠ Lv → L' ∉ Lv :: c := by
  refine ⟨fun hm => ?_, fun hm => ?_, fun L' e q hm => ?_⟩
  · rcases List.mem_cons.mp hm with e | hm
    · exact ne_exa eb eL (by decide) e
    · exact ne_exa eb (ec b hm) (by decide) rfl
  · rcases List.mem_cons.mp hm with e | hm
    · exact Rbk.neE RA eL (own_w hw 173 rfl) e.symm
    · exact Rbk.neE RA (ec A hm) (own_w hw 10 rfl) rfl
  · rcases List.mem_cons.mp hm with e' | hm
    · exact q e'
    · exact ne_exa e (ec L' hm) (by decide) rfl
theorem rmRemB (l : Launch) (Z : State) (a0 : Array Value) (hw : TW Z a0) {n0 : Nat} {b mk A K t l0 : Addr} {z : Int32} {pd : List (Addr × Int32 × Int64)} {mc : List Addr} {qs : List OwnQ} (R : Addr) (h0 : Heap) (Z0 : n0 ≤ h0.size) (F : BK Z h0 n0 b mk A K t l0 z pd mc qs) (hR : R ∈ ownAll mc qs) (hle : qs.length ≤ 3) :
    Pays l Z (⟨"com/example/uncross/uncross/engine/BookSide", "remove", "(Lcom/example/uncross/uncross/engine/BookSide$Resting;)V"⟩ : MethodName) prog_15_method_8_code 3 none [] ({ frames := 2, cells := 0, slots := 0, locals := 26 } : Room) #[(.ref b), (.ref R)] h0 (fun v h L => v = none ∧ Fr n0 L ∧ OwnSafe Z h0 h ∧ FB Z h b (ownFst (mc.erase R) (ownRT R (ownPr qs)))) := by
  match qs, hle, F, hR with
  | [], _, F, hR =>
    obtain ⟨cnt, af, ks, B, hcnt, hA0, hK0, hP, hSrt, hl0, hM, hV, hPd, nd1, nd2, hlen, gb, gA, gK, gm, gq, gr⟩ := F
    have ec : cnt = (1 : Int32) := Int32.toInt_inj.mp (hcnt.trans rfl)
    rw [ec] at B
    have nda := (List.pairwise_append.mp nd2).2.1
    have hall : (mc).Nodup := by
      have e : ownAll mc ([] : List OwnQ) = mc := by simp [ownAll]
      rw [← e]; exact nda
    have gall : ∀ y ∈ mc, n0 ≤ y := fun y hy => gr y (List.mem_append_right _ (by simpa [ownAll] using hy))
    have llen : (mc).length ≤ 3 := by
      simp [ownAll] at hlen ⊢
      omega
    have xM : ∀ y ∈ mc, Exa Z h0 y k1C := lnk_exa hM.2
    simp at nd1
    by_cases hRm : R ∈ mc
    · have hRi := hRm
      have w2 : ownRT R (ownPr ([] : List OwnQ)) = ownHd ([] : List Addr) := rfl
      rw [w2]
      have fr := own_frm hw hM.1.1 xM B.1 B.2.2.2.2.2.2.2.2.2.2.1
      by_cases hz : 2 ≤ mc.length
      · refine Pays.imp (rmRemC l Z a0 hw h0 Z0 hM (hall) hz (by first | omega | (simp at llen; omega)) hRm gm (fun y hy => gall y (by simp [hy]))) ?_
        rintro v h L ⟨rfl, Nf, Kp, f1, ne⟩
        exact ⟨rfl, Nf, ⟨_, Kp, fun y hy => by
          rcases List.mem_cons.mp hy with rfl | hy
          · exact Or.inl ⟨_, hM.1.1, by decide, by decide⟩
          · exact Or.inl ⟨_, xM y hy, by decide, by decide⟩⟩, fb_of (B.1.keep Kp) (B.2.2.2.2.2.2.1.keep Kp fr.1) (hM.1.1.keep Kp) f1 ⟨A, l0, (1 : Int32), (0 : Int32), af, (B.2.2.2.2.1.keep Kp fr.1), (B.2.2.1.keep Kp fr.1), (B.2.2.2.2.2.2.2.2.2.2.1.keep Kp fr.2.1), (hl0.1.keep Kp), (hl0.2.2.1.keep Kp (fr.2.2 l0 hl0.1 (fun e => by simp [e] at nd1))), by decide, by decide, hA0, own_hdref _⟩⟩
      · obtain ⟨y, rfl⟩ : ∃ y, mc = [y] := by
          cases mc with
          | nil => cases hRm
          | cons a t =>
            cases t with
            | nil => exact ⟨a, rfl⟩
            | cons d s => simp at hz
        obtain rfl : y = R := (List.mem_singleton.mp hRm).symm
        refine Pays.imp (rmRM l Z a0 hw b y mk h0 n0 Z0  B.1 B.2.2.2.2.2.2.1 hM.2.1.1 hM.2.1.2.1 hM.2.1.2.2.1 hM.2.1.2.2.2 hM.1.1 hM.1.2.1 hM.1.2.2.1 hM.1.2.2.2  (gall y (by simp)) gm ) ?_
        rintro v h L ⟨rfl, Nf, Kp, o_l_first⟩
        have Kp := own_kmono (ws' := [mk, y]) Kp (fun w hw => by simp at hw ⊢; rcases hw with rfl | rfl <;> simp)
        have er : [y].erase y = [] := by simp
        rw [er]
        exact ⟨rfl, Nf, ⟨_, Kp, fun w hy => by
          rcases List.mem_cons.mp hy with rfl | hy
          · exact Or.inl ⟨_, hM.1.1, by decide, by decide⟩
          · exact Or.inl ⟨_, xM w hy, by decide, by decide⟩⟩, fb_of (c := []) (B.1.keep Kp) (B.2.2.2.2.2.2.1.keep Kp fr.1) (hM.1.1.keep Kp) o_l_first ⟨A, l0, (1 : Int32), (0 : Int32), af, (B.2.2.2.2.1.keep Kp fr.1), (B.2.2.1.keep Kp fr.1), (B.2.2.2.2.2.2.2.2.2.2.1.keep Kp fr.2.1), (hl0.1.keep Kp), (hl0.2.2.1.keep Kp (fr.2.2 l0 hl0.1 (fun e => by simp [e] at nd1))), by decide, by decide, hA0, own_hdref _⟩⟩
    have em : mc.erase R = mc := List.erase_of_not_mem hRm
    rw [em]
    exact absurd (by simpa [ownAll] using hR) hRm
  | [(k1, L1, c1)], _, F, hR =>
    obtain ⟨cnt, af, ks, B, hcnt, hA0, hK0, hP, hSrt, hl0, hM, hV, hPd, nd1, nd2, hlen, gb, gA, gK, gm, gq, gr⟩ := F
    have ec : cnt = (2 : Int32) := Int32.toInt_inj.mp (hcnt.trans rfl)
    rw [ec] at B
    have nda := (List.pairwise_append.mp nd2).2.1
    have hall : (mc ++ c1).Nodup := by
      have e : ownAll mc ([(k1, L1, c1)] : List OwnQ) = mc ++ c1 := by simp [ownAll]
      rw [← e]; exact nda
    have gall : ∀ y ∈ mc ++ c1, n0 ≤ y := fun y hy => gr y (List.mem_append_right _ (by simpa [ownAll] using hy))
    have llen : (mc ++ c1).length ≤ 3 := by
      simp [ownAll] at hlen ⊢
      omega
    have xM : ∀ y ∈ mc, Exa Z h0 y k1C := lnk_exa hM.2
    have x1 : ∀ y ∈ c1, Exa Z h0 y k1C := lnk_exa hV.1.2
    have e1 := hV.2.1
    have g1 : n0 ≤ L1 := gq (k1, L1, c1) (by simp)
    have q1 := hV.1.1
    simp at nd1
    by_cases hRm : R ∈ mc
    · have hRi := hRm
      have h1 : R ∉ c1 := fun hm => (List.pairwise_append.mp hall).2.2 R hRi R hm rfl
      have w2 : ownRT R (ownPr ([(k1, L1, c1)] : List OwnQ)) = ownHd c1 := by simp [ownPr, ownRT, List.erase_of_not_mem h1]
      rw [w2]
      have fr := own_frm hw hM.1.1 xM B.1 B.2.2.2.2.2.2.2.2.2.2.1
      by_cases hz : 2 ≤ mc.length
      · refine Pays.imp (rmRemC l Z a0 hw h0 Z0 hM ((List.pairwise_append.mp hall).1) hz (by first | omega | (simp at llen; omega)) hRm gm (fun y hy => gall y (by simp [hy]))) ?_
        rintro v h L ⟨rfl, Nf, Kp, f1, ne⟩
        exact ⟨rfl, Nf, ⟨_, Kp, fun y hy => by
          rcases List.mem_cons.mp hy with rfl | hy
          · exact Or.inl ⟨_, hM.1.1, by decide, by decide⟩
          · exact Or.inl ⟨_, xM y hy, by decide, by decide⟩⟩, fb_of (B.1.keep Kp) (B.2.2.2.2.2.2.1.keep Kp fr.1) (hM.1.1.keep Kp) f1 ⟨A, L1, (2 : Int32), (1 : Int32), af, (B.2.2.2.2.1.keep Kp fr.1), (B.2.2.1.keep Kp fr.1), (B.2.2.2.2.2.2.2.2.2.2.1.keep Kp fr.2.1), (q1.1.keep Kp), (q1.2.2.1.keep Kp (fr.2.2 L1 q1.1 (fun e => by simp [e] at nd1))), by decide, by decide, hP.1, own_hdref _⟩⟩
      · obtain ⟨y, rfl⟩ : ∃ y, mc = [y] := by
          cases mc with
          | nil => cases hRm
          | cons a t =>
            cases t with
            | nil => exact ⟨a, rfl⟩
            | cons d s => simp at hz
        obtain rfl : y = R := (List.mem_singleton.mp hRm).symm
        refine Pays.imp (rmRM l Z a0 hw b y mk h0 n0 Z0  B.1 B.2.2.2.2.2.2.1 hM.2.1.1 hM.2.1.2.1 hM.2.1.2.2.1 hM.2.1.2.2.2 hM.1.1 hM.1.2.1 hM.1.2.2.1 hM.1.2.2.2  (gall y (by simp)) gm ) ?_
        rintro v h L ⟨rfl, Nf, Kp, o_l_first⟩
        have Kp := own_kmono (ws' := [mk, y]) Kp (fun w hw => by simp at hw ⊢; rcases hw with rfl | rfl <;> simp)
        have er : [y].erase y = [] := by simp
        rw [er]
        exact ⟨rfl, Nf, ⟨_, Kp, fun w hy => by
          rcases List.mem_cons.mp hy with rfl | hy
          · exact Or.inl ⟨_, hM.1.1, by decide, by decide⟩
          · exact Or.inl ⟨_, xM w hy, by decide, by decide⟩⟩, fb_of (c := []) (B.1.keep Kp) (B.2.2.2.2.2.2.1.keep Kp fr.1) (hM.1.1.keep Kp) o_l_first ⟨A, L1, (2 : Int32), (1 : Int32), af, (B.2.2.2.2.1.keep Kp fr.1), (B.2.2.1.keep Kp fr.1), (B.2.2.2.2.2.2.2.2.2.2.1.keep Kp fr.2.1), (q1.1.keep Kp), (q1.2.2.1.keep Kp (fr.2.2 L1 q1.1 (fun e => by simp [e] at nd1))), by decide, by decide, hP.1, own_hdref _⟩⟩
    have em : mc.erase R = mc := List.erase_of_not_mem hRm
    rw [em]
    have hRq : R ∈ c1 := by simpa [ownAll, hRm] using hR
    have hRi := hRq
    have fr := own_frm hw q1.1 x1 B.1 B.2.2.2.2.2.2.2.2.2.2.1
    have nm1 : mk ≠ L1 := fun e => by simp [e] at nd1
    by_cases hz : 2 ≤ c1.length
    · refine Pays.imp (rmRemC l Z a0 hw h0 Z0 hV.1 ((List.pairwise_append.mp hall).2.1) hz (by simp at llen; show c1.length ≤ 3; omega) hRi g1 (fun y hy => gall y (by simp [show y ∈ c1 from hy]))) ?_
      rintro v h L ⟨rfl, Nf, Kp, f1, ne⟩
      have w2 : ownRT R (ownPr ([(k1, L1, c1)] : List OwnQ)) = ownHd (c1.erase R) := rfl
      rw [w2]
      exact ⟨rfl, Nf, ⟨_, Kp, fun y hy => by
        rcases List.mem_cons.mp hy with rfl | hy
        · exact Or.inl ⟨_, q1.1, by decide, by decide⟩
        · exact Or.inl ⟨_, x1 y hy, by decide, by decide⟩⟩, fb_of (B.1.keep Kp) (B.2.2.2.2.2.2.1.keep Kp fr.1) (hM.1.1.keep Kp) (hM.1.2.2.1.keep Kp (fr.2.2 mk hM.1.1 nm1)) ⟨A, L1, (2 : Int32), (1 : Int32), af, (B.2.2.2.2.1.keep Kp fr.1), (B.2.2.1.keep Kp fr.1), (B.2.2.2.2.2.2.2.2.2.2.1.keep Kp fr.2.1), (q1.1.keep Kp), f1, by decide, by decide, hP.1, own_hdref _⟩⟩
    · obtain ⟨y, hy1⟩ : ∃ y, c1 = [y] := by
        cases hcj : c1 with
        | nil => exact absurd hcj e1
        | cons a t =>
          cases t with
          | nil => exact ⟨a, rfl⟩
          | cons d s => rw [hcj] at hz; simp at hz
      subst hy1
      obtain rfl : y = R := (List.mem_singleton.mp hRi).symm
      refine Pays.imp (rmR2 l Z a0 hw b y L1 mk t A af h0 n0 Z0  B.1 B.2.2.1 B.2.2.2.1 B.2.2.2.2.1 B.2.2.2.2.2.2.1 B.2.2.2.2.2.2.2.1 hM.1.1 B.2.2.2.2.2.2.2.2.2.2.1 hV.1.2.1.1 hV.1.2.1.2.1 hV.1.2.1.2.2.1 hV.1.2.1.2.2.2 hV.1.1.1 hV.1.1.2.1 hV.1.1.2.2.1 hV.1.1.2.2.2 B.2.2.2.2.2.2.2.2.1 B.2.2.2.2.2.2.2.2.2.1 nm1.symm (gall y (by simp)) g1 gb gA hP.1) ?_
      rintro v h L ⟨rfl, Nf, Kp, o_b_levelCount, o_b_levels, o_b_markets, o_A⟩
      have w2 : ownRT y (ownPr ([(k1, L1, [y])] : List OwnQ)) = ownHd ([] : List Addr) := by simp [ownPr, ownRT]
      rw [w2]
      exact ⟨rfl, Nf, ⟨_, Kp, fun w hy => by
        rcases List.mem_cons.mp hy with rfl | hy
        · exact Or.inl ⟨_, hV.1.2.1.1, by decide, by decide⟩
        rcases List.mem_cons.mp hy with rfl | hy
        · exact Or.inl ⟨_, q1.1, by decide, by decide⟩
        rcases List.mem_cons.mp hy with rfl | hy
        · exact Or.inl ⟨_, B.1, by decide, by decide⟩
        cases List.mem_singleton.mp hy
        exact Or.inr ⟨_, B.2.2.2.2.2.2.2.2.2.2.1⟩⟩, fb_of (B.1.keep Kp) o_b_markets (hM.1.1.keep Kp) (hM.1.2.2.1.keep Kp (ninS (ne_exa hM.1.1 hV.1.2.1.1 (by decide)) (ninS nm1 (ninS (ne_exa hM.1.1 B.1 (by decide)) (ninS (Rbk.neE B.2.2.2.2.2.2.2.2.2.2.1 hM.1.1 (own_w hw 173 rfl)) nin0))))) ⟨A, l0, (1 : Int32), (0 : Int32), _, o_b_levels, o_b_levelCount, o_A, (hl0.1.keep Kp), (hl0.2.2.1.keep Kp (ninS (ne_exa hl0.1 hV.1.2.1.1 (by decide)) (ninS (fun e => by simp [e] at nd1) (ninS (ne_exa hl0.1 B.1 (by decide)) (ninS (Rbk.neE B.2.2.2.2.2.2.2.2.2.2.1 hl0.1 (own_w hw 173 rfl)) nin0))))), by decide, by decide, hA0, own_hdref _⟩⟩
  | [(k1, L1, c1), (k2, L2, c2)], _, F, hR =>
    obtain ⟨cnt, af, ks, B, hcnt, hA0, hK0, hP, hSrt, hl0, hM, hV, hPd, nd1, nd2, hlen, gb, gA, gK, gm, gq, gr⟩ := F
    have ec : cnt = (3 : Int32) := Int32.toInt_inj.mp (hcnt.trans rfl)
    rw [ec] at B
    have nda := (List.pairwise_append.mp nd2).2.1
    have hall : (mc ++ c1 ++ c2).Nodup := by
      have e : ownAll mc ([(k1, L1, c1), (k2, L2, c2)] : List OwnQ) = mc ++ c1 ++ c2 := by simp [ownAll]
      rw [← e]; exact nda
    have gall : ∀ y ∈ mc ++ c1 ++ c2, n0 ≤ y := fun y hy => gr y (List.mem_append_right _ (by simpa [ownAll] using hy))
    have llen : (mc ++ c1 ++ c2).length ≤ 3 := by
      simp [ownAll] at hlen ⊢
      omega
    have xM : ∀ y ∈ mc, Exa Z h0 y k1C := lnk_exa hM.2
    have x1 : ∀ y ∈ c1, Exa Z h0 y k1C := lnk_exa hV.1.2
    have e1 := hV.2.1
    have g1 : n0 ≤ L1 := gq (k1, L1, c1) (by simp)
    have q1 := hV.1.1
    have x2 : ∀ y ∈ c2, Exa Z h0 y k1C := lnk_exa hV.2.2.1.2
    have e2 := hV.2.2.2.1
    have g2 : n0 ≤ L2 := gq (k2, L2, c2) (by simp)
    have q2 := hV.2.2.1.1
    simp at nd1
    by_cases hRm : R ∈ mc
    · have hRi := hRm
      have h1 : R ∉ c1 := fun hm => (List.pairwise_append.mp (List.pairwise_append.mp hall).1).2.2 R hRi R hm rfl
      have h2 : R ∉ c2 := fun hm => (List.pairwise_append.mp hall).2.2 R (List.mem_append_left _ hRi) R hm rfl
      have w2 : ownRT R (ownPr ([(k1, L1, c1), (k2, L2, c2)] : List OwnQ)) = ownHd c2 := by simp [ownPr, ownRT, List.erase_of_not_mem h2, own_fst_ne e2]
      rw [w2]
      have fr := own_frm hw hM.1.1 xM B.1 B.2.2.2.2.2.2.2.2.2.2.1
      by_cases hz : 2 ≤ mc.length
      · refine Pays.imp (rmRemC l Z a0 hw h0 Z0 hM ((List.pairwise_append.mp (List.pairwise_append.mp hall).1).1) hz (by first | omega | (simp at llen; omega)) hRm gm (fun y hy => gall y (by simp [hy]))) ?_
        rintro v h L ⟨rfl, Nf, Kp, f1, ne⟩
        exact ⟨rfl, Nf, ⟨_, Kp, fun y hy => by
          rcases List.mem_cons.mp hy with rfl | hy
          · exact Or.inl ⟨_, hM.1.1, by decide, by decide⟩
          · exact Or.inl ⟨_, xM y hy, by decide, by decide⟩⟩, fb_of (B.1.keep Kp) (B.2.2.2.2.2.2.1.keep Kp fr.1) (hM.1.1.keep Kp) f1 ⟨A, L2, (3 : Int32), (2 : Int32), af, (B.2.2.2.2.1.keep Kp fr.1), (B.2.2.1.keep Kp fr.1), (B.2.2.2.2.2.2.2.2.2.2.1.keep Kp fr.2.1), (q2.1.keep Kp), (q2.2.2.1.keep Kp (fr.2.2 L2 q2.1 (fun e => by simp [e] at nd1))), by decide, by decide, hP.2.2.1, own_hdref _⟩⟩
      · obtain ⟨y, rfl⟩ : ∃ y, mc = [y] := by
          cases mc with
          | nil => cases hRm
          | cons a t =>
            cases t with
            | nil => exact ⟨a, rfl⟩
            | cons d s => simp at hz
        obtain rfl : y = R := (List.mem_singleton.mp hRm).symm
        refine Pays.imp (rmRM l Z a0 hw b y mk h0 n0 Z0  B.1 B.2.2.2.2.2.2.1 hM.2.1.1 hM.2.1.2.1 hM.2.1.2.2.1 hM.2.1.2.2.2 hM.1.1 hM.1.2.1 hM.1.2.2.1 hM.1.2.2.2  (gall y (by simp)) gm ) ?_
        rintro v h L ⟨rfl, Nf, Kp, o_l_first⟩
        have Kp := own_kmono (ws' := [mk, y]) Kp (fun w hw => by simp at hw ⊢; rcases hw with rfl | rfl <;> simp)
        have er : [y].erase y = [] := by simp
        rw [er]
        exact ⟨rfl, Nf, ⟨_, Kp, fun w hy => by
          rcases List.mem_cons.mp hy with rfl | hy
          · exact Or.inl ⟨_, hM.1.1, by decide, by decide⟩
          · exact Or.inl ⟨_, xM w hy, by decide, by decide⟩⟩, fb_of (c := []) (B.1.keep Kp) (B.2.2.2.2.2.2.1.keep Kp fr.1) (hM.1.1.keep Kp) o_l_first ⟨A, L2, (3 : Int32), (2 : Int32), af, (B.2.2.2.2.1.keep Kp fr.1), (B.2.2.1.keep Kp fr.1), (B.2.2.2.2.2.2.2.2.2.2.1.keep Kp fr.2.1), (q2.1.keep Kp), (q2.2.2.1.keep Kp (fr.2.2 L2 q2.1 (fun e => by simp [e] at nd1))), by decide, by decide, hP.2.2.1, own_hdref _⟩⟩
    have em : mc.erase R = mc := List.erase_of_not_mem hRm
    rw [em]
    have hRq : R ∈ c1 ∨ R ∈ c2 := by simpa [ownAll, hRm] using hR
    rcases hRq with hRi | hRi
    · have fr := own_frm hw q1.1 x1 B.1 B.2.2.2.2.2.2.2.2.2.2.1
      have h2 : R ∉ c2 := fun hm => (List.pairwise_append.mp hall).2.2 R (List.mem_append_right _ hRi) R hm rfl
      have nm1 : mk ≠ L1 := fun e => by simp [e] at nd1
      have np : L2 ≠ L1 := fun e => by simp [e] at nd1
      by_cases hz : 2 ≤ c1.length
      · refine Pays.imp (rmRemC l Z a0 hw h0 Z0 hV.1 ((List.pairwise_append.mp (List.pairwise_append.mp hall).1).2.1) hz (by simp at llen; show c1.length ≤ 3; omega) hRi g1 (fun y hy => gall y (by simp [show y ∈ c1 from hy]))) ?_
        rintro v h L ⟨rfl, Nf, Kp, f1, ne⟩
        have w2 : ownRT R (ownPr ([(k1, L1, c1), (k2, L2, c2)] : List OwnQ)) = ownHd c2 := by simp [ownPr, ownRT, List.erase_of_not_mem h2, own_fst_ne e2]
        rw [w2]
        exact ⟨rfl, Nf, ⟨_, Kp, fun y hy => by
          rcases List.mem_cons.mp hy with rfl | hy
          · exact Or.inl ⟨_, q1.1, by decide, by decide⟩
          · exact Or.inl ⟨_, x1 y hy, by decide, by decide⟩⟩, fb_of (B.1.keep Kp) (B.2.2.2.2.2.2.1.keep Kp fr.1) (hM.1.1.keep Kp) (hM.1.2.2.1.keep Kp (fr.2.2 mk hM.1.1 nm1)) ⟨A, L2, (3 : Int32), (2 : Int32), af, (B.2.2.2.2.1.keep Kp fr.1), (B.2.2.1.keep Kp fr.1), (B.2.2.2.2.2.2.2.2.2.2.1.keep Kp fr.2.1), (q2.1.keep Kp), (q2.2.2.1.keep Kp (fr.2.2 L2 q2.1 np)), by decide, by decide, hP.2.2.1, own_hdref _⟩⟩
      · obtain ⟨y, hy1⟩ : ∃ y, c1 = [y] := by
          cases hcj : c1 with
          | nil => exact absurd hcj e1
          | cons a t =>
            cases t with
            | nil => exact ⟨a, rfl⟩
            | cons d s => rw [hcj] at hz; simp at hz
        subst hy1
        obtain rfl : y = R := (List.mem_singleton.mp hRi).symm
        refine Pays.imp (rmRL l Z a0 hw b y L1 mk t A L2 (3 : Int32) (2 : Int32) af h0 n0 Z0  B.1 B.2.2.1 B.2.2.2.1 B.2.2.2.2.1 B.2.2.2.2.2.2.1 B.2.2.2.2.2.2.2.1 hM.1.1 B.2.2.2.2.2.2.2.2.2.2.1 hV.1.2.1.1 hV.1.2.1.2.1 hV.1.2.1.2.2.1 hV.1.2.1.2.2.2 hV.1.1.1 hV.1.1.2.1 hV.1.1.2.2.1 hV.1.1.2.2.2 q2.1 nm1.symm np.symm (gall y (by simp)) g1 gb (by decide) (by decide) hP.2.2.1) ?_
        rintro v h L ⟨rfl, Nf, Kp, o_b_levelCount, o_b_levels, o_b_markets⟩
        have w2 : ownRT y (ownPr ([(k1, L1, [y]), (k2, L2, c2)] : List OwnQ)) = ownHd c2 := by simp [ownPr, ownRT, List.erase_of_not_mem h2, own_fst_ne e2]
        rw [w2]
        exact ⟨rfl, Nf, ⟨_, Kp, fun w hy => by
          rcases List.mem_cons.mp hy with rfl | hy
          · exact Or.inl ⟨_, hV.1.2.1.1, by decide, by decide⟩
          rcases List.mem_cons.mp hy with rfl | hy
          · exact Or.inl ⟨_, q1.1, by decide, by decide⟩
          cases List.mem_singleton.mp hy
          exact Or.inl ⟨_, B.1, by decide, by decide⟩⟩, fb_of (B.1.keep Kp) o_b_markets (hM.1.1.keep Kp) (hM.1.2.2.1.keep Kp (ninS (ne_exa hM.1.1 hV.1.2.1.1 (by decide)) (ninS nm1 (ninS (ne_exa hM.1.1 B.1 (by decide)) nin0)))) ⟨A, L2, (3 : Int32), (2 : Int32), af, o_b_levels, o_b_levelCount, (B.2.2.2.2.2.2.2.2.2.2.1.keep Kp (ninS (Rbk.neE B.2.2.2.2.2.2.2.2.2.2.1 hV.1.2.1.1 (own_w hw 10 rfl)).symm (ninS (Rbk.neE B.2.2.2.2.2.2.2.2.2.2.1 q1.1 (own_w hw 173 rfl)).symm (ninS (Rbk.neE B.2.2.2.2.2.2.2.2.2.2.1 B.1 (own_w hw 166 rfl)).symm nin0)))), (q2.1.keep Kp), (q2.2.2.1.keep Kp (ninS (ne_exa q2.1 hV.1.2.1.1 (by decide)) (ninS np (ninS (ne_exa q2.1 B.1 (by decide)) nin0)))), by decide, by decide, hP.2.2.1, own_hdref _⟩⟩
    · have fr := own_frm hw q2.1 x2 B.1 B.2.2.2.2.2.2.2.2.2.2.1
      have h1 : R ∉ c1 := fun hm => (List.pairwise_append.mp hall).2.2 R (List.mem_append_right _ hm) R hRi rfl
      have nm2 : mk ≠ L2 := fun e => by simp [e] at nd1
      by_cases hz : 2 ≤ c2.length
      · refine Pays.imp (rmRemC l Z a0 hw h0 Z0 hV.2.2.1 ((List.pairwise_append.mp hall).2.1) hz (by simp at llen; show c2.length ≤ 3; omega) hRi g2 (fun y hy => gall y (by simp [show y ∈ c2 from hy]))) ?_
        rintro v h L ⟨rfl, Nf, Kp, f1, ne⟩
        have w2 : ownRT R (ownPr ([(k1, L1, c1), (k2, L2, c2)] : List OwnQ)) = ownHd (c2.erase R) := own_fst_ne ne
        rw [w2]
        exact ⟨rfl, Nf, ⟨_, Kp, fun y hy => by
          rcases List.mem_cons.mp hy with rfl | hy
          · exact Or.inl ⟨_, q2.1, by decide, by decide⟩
          · exact Or.inl ⟨_, x2 y hy, by decide, by decide⟩⟩, fb_of (B.1.keep Kp) (B.2.2.2.2.2.2.1.keep Kp fr.1) (hM.1.1.keep Kp) (hM.1.2.2.1.keep Kp (fr.2.2 mk hM.1.1 nm2)) ⟨A, L2, (3 : Int32), (2 : Int32), af, (B.2.2.2.2.1.keep Kp fr.1), (B.2.2.1.keep Kp fr.1), (B.2.2.2.2.2.2.2.2.2.2.1.keep Kp fr.2.1), (q2.1.keep Kp), f1, by decide, by decide, hP.2.2.1, own_hdref _⟩⟩
      · obtain ⟨y, hy1⟩ : ∃ y, c2 = [y] := by
          cases hcj : c2 with
          | nil => exact absurd hcj e2
          | cons a t =>
            cases t with
            | nil => exact ⟨a, rfl⟩
            | cons d s => rw [hcj] at hz; simp at hz
        subst hy1
        obtain rfl : y = R := (List.mem_singleton.mp hRi).symm
        have np : L2 ≠ L1 := fun e => by simp [e] at nd1
        obtain ⟨f0, ef, -⟩ := own_hdR e1
        refine Pays.imp (rmRT l Z a0 hw b y L2 mk t A L1 f0 (3 : Int32) (2 : Int32) (1 : Int32) af h0 n0 Z0  B.1 B.2.2.1 B.2.2.2.1 B.2.2.2.2.1 B.2.2.2.2.2.2.1 B.2.2.2.2.2.2.2.1 hM.1.1 B.2.2.2.2.2.2.2.2.2.2.1 hV.2.2.1.2.1.1 hV.2.2.1.2.1.2.1 hV.2.2.1.2.1.2.2.1 hV.2.2.1.2.1.2.2.2 hV.2.2.1.1.1 hV.2.2.1.1.2.1 hV.2.2.1.1.2.2.1 hV.2.2.1.1.2.2.2 B.2.2.2.2.2.2.2.2.1 B.2.2.2.2.2.2.2.2.2.1 q1.1 (ef ▸ q1.2.2.1) nm2.symm np (gall y (by simp)) g2 gb gA (by decide) (by decide) (by decide) (by decide) (by decide) (by decide) hP.2.2.1 hP.1) ?_
        rintro v h L ⟨rfl, Nf, Kp, o_b_levelCount, o_b_levels, o_b_markets, o_A⟩
        have w2 : ownRT y (ownPr ([(k1, L1, c1), (k2, L2, [y])] : List OwnQ)) = ownHd c1 := by simp [ownPr, ownRT, ownFst]
        rw [w2]
        exact ⟨rfl, Nf, ⟨_, Kp, fun w hy => by
          rcases List.mem_cons.mp hy with rfl | hy
          · exact Or.inl ⟨_, hV.2.2.1.2.1.1, by decide, by decide⟩
          rcases List.mem_cons.mp hy with rfl | hy
          · exact Or.inl ⟨_, q2.1, by decide, by decide⟩
          rcases List.mem_cons.mp hy with rfl | hy
          · exact Or.inl ⟨_, B.1, by decide, by decide⟩
          cases List.mem_singleton.mp hy
          exact Or.inr ⟨_, B.2.2.2.2.2.2.2.2.2.2.1⟩⟩, fb_of (B.1.keep Kp) o_b_markets (hM.1.1.keep Kp) (hM.1.2.2.1.keep Kp (ninS (ne_exa hM.1.1 hV.2.2.1.2.1.1 (by decide)) (ninS nm2 (ninS (ne_exa hM.1.1 B.1 (by decide)) (ninS (Rbk.neE B.2.2.2.2.2.2.2.2.2.2.1 hM.1.1 (own_w hw 173 rfl)) nin0))))) ⟨A, L1, (2 : Int32), (1 : Int32), _, o_b_levels, o_b_levelCount, o_A, (q1.1.keep Kp), (q1.2.2.1.keep Kp (ninS (ne_exa q1.1 hV.2.2.1.2.1.1 (by decide)) (ninS np.symm (ninS (ne_exa q1.1 B.1 (by decide)) (ninS (Rbk.neE B.2.2.2.2.2.2.2.2.2.2.1 q1.1 (own_w hw 173 rfl)) nin0))))), by decide, by decide, ((updN af .null (by decide)).trans hP.1), own_hdref _⟩⟩
  | [(k1, L1, c1), (k2, L2, c2), (k3, L3, c3)], _, F, hR =>
    obtain ⟨cnt, af, ks, B, hcnt, hA0, hK0, hP, hSrt, hl0, hM, hV, hPd, nd1, nd2, hlen, gb, gA, gK, gm, gq, gr⟩ := F
    have ec : cnt = (4 : Int32) := Int32.toInt_inj.mp (hcnt.trans rfl)
    rw [ec] at B
    have nda := (List.pairwise_append.mp nd2).2.1
    have hall : (mc ++ c1 ++ c2 ++ c3).Nodup := by
      have e : ownAll mc ([(k1, L1, c1), (k2, L2, c2), (k3, L3, c3)] : List OwnQ) = mc ++ c1 ++ c2 ++ c3 := by simp [ownAll]
      rw [← e]; exact nda
    have gall : ∀ y ∈ mc ++ c1 ++ c2 ++ c3, n0 ≤ y := fun y hy => gr y (List.mem_append_right _ (by simpa [ownAll] using hy))
    have llen : (mc ++ c1 ++ c2 ++ c3).length ≤ 3 := by
      simp [ownAll] at hlen ⊢
      omega
    have xM : ∀ y ∈ mc, Exa Z h0 y k1C := lnk_exa hM.2
    have x1 : ∀ y ∈ c1, Exa Z h0 y k1C := lnk_exa hV.1.2
    have e1 := hV.2.1
    have g1 : n0 ≤ L1 := gq (k1, L1, c1) (by simp)
    have q1 := hV.1.1
    have x2 : ∀ y ∈ c2, Exa Z h0 y k1C := lnk_exa hV.2.2.1.2
    have e2 := hV.2.2.2.1
    have g2 : n0 ≤ L2 := gq (k2, L2, c2) (by simp)
    have q2 := hV.2.2.1.1
    have x3 : ∀ y ∈ c3, Exa Z h0 y k1C := lnk_exa hV.2.2.2.2.1.2
    have e3 := hV.2.2.2.2.2.1
    have g3 : n0 ≤ L3 := gq (k3, L3, c3) (by simp)
    have q3 := hV.2.2.2.2.1.1
    simp at nd1
    by_cases hRm : R ∈ mc
    · have hRi := hRm
      have h1 : R ∉ c1 := fun hm => (List.pairwise_append.mp (List.pairwise_append.mp (List.pairwise_append.mp hall).1).1).2.2 R hRi R hm rfl
      have h2 : R ∉ c2 := fun hm => (List.pairwise_append.mp (List.pairwise_append.mp hall).1).2.2 R (List.mem_append_left _ hRi) R hm rfl
      have h3 : R ∉ c3 := fun hm => (List.pairwise_append.mp hall).2.2 R (List.mem_append_left _ (List.mem_append_left _ hRi)) R hm rfl
      have w2 : ownRT R (ownPr ([(k1, L1, c1), (k2, L2, c2), (k3, L3, c3)] : List OwnQ)) = ownHd c3 := by simp [ownPr, ownRT, List.erase_of_not_mem h3, own_fst_ne e3]
      rw [w2]
      have fr := own_frm hw hM.1.1 xM B.1 B.2.2.2.2.2.2.2.2.2.2.1
      by_cases hz : 2 ≤ mc.length
      · refine Pays.imp (rmRemC l Z a0 hw h0 Z0 hM ((List.pairwise_append.mp (List.pairwise_append.mp (List.pairwise_append.mp hall).1).1).1) hz (by first | omega | (simp at llen; omega)) hRm gm (fun y hy => gall y (by simp [hy]))) ?_
        rintro v h L ⟨rfl, Nf, Kp, f1, ne⟩
        exact ⟨rfl, Nf, ⟨_, Kp, fun y hy => by
          rcases List.mem_cons.mp hy with rfl | hy
          · exact Or.inl ⟨_, hM.1.1, by decide, by decide⟩
          · exact Or.inl ⟨_, xM y hy, by decide, by decide⟩⟩, fb_of (B.1.keep Kp) (B.2.2.2.2.2.2.1.keep Kp fr.1) (hM.1.1.keep Kp) f1 ⟨A, L3, (4 : Int32), (3 : Int32), af, (B.2.2.2.2.1.keep Kp fr.1), (B.2.2.1.keep Kp fr.1), (B.2.2.2.2.2.2.2.2.2.2.1.keep Kp fr.2.1), (q3.1.keep Kp), (q3.2.2.1.keep Kp (fr.2.2 L3 q3.1 (fun e => by simp [e] at nd1))), by decide, by decide, hP.2.2.2.2.1, own_hdref _⟩⟩
      · obtain ⟨y, rfl⟩ : ∃ y, mc = [y] := by
          cases mc with
          | nil => cases hRm
          | cons a t =>
            cases t with
            | nil => exact ⟨a, rfl⟩
            | cons d s => simp at hz
        obtain rfl : y = R := (List.mem_singleton.mp hRm).symm
        refine Pays.imp (rmRM l Z a0 hw b y mk h0 n0 Z0  B.1 B.2.2.2.2.2.2.1 hM.2.1.1 hM.2.1.2.1 hM.2.1.2.2.1 hM.2.1.2.2.2 hM.1.1 hM.1.2.1 hM.1.2.2.1 hM.1.2.2.2  (gall y (by simp)) gm ) ?_
        rintro v h L ⟨rfl, Nf, Kp, o_l_first⟩
        have Kp := own_kmono (ws' := [mk, y]) Kp (fun w hw => by simp at hw ⊢; rcases hw with rfl | rfl <;> simp)
        have er : [y].erase y = [] := by simp
        rw [er]
        exact ⟨rfl, Nf, ⟨_, Kp, fun w hy => by
          rcases List.mem_cons.mp hy with rfl | hy
          · exact Or.inl ⟨_, hM.1.1, by decide, by decide⟩
          · exact Or.inl ⟨_, xM w hy, by decide, by decide⟩⟩, fb_of (c := []) (B.1.keep Kp) (B.2.2.2.2.2.2.1.keep Kp fr.1) (hM.1.1.keep Kp) o_l_first ⟨A, L3, (4 : Int32), (3 : Int32), af, (B.2.2.2.2.1.keep Kp fr.1), (B.2.2.1.keep Kp fr.1), (B.2.2.2.2.2.2.2.2.2.2.1.keep Kp fr.2.1), (q3.1.keep Kp), (q3.2.2.1.keep Kp (fr.2.2 L3 q3.1 (fun e => by simp [e] at nd1))), by decide, by decide, hP.2.2.2.2.1, own_hdref _⟩⟩
    have em : mc.erase R = mc := List.erase_of_not_mem hRm
    rw [em]
    have hRq : R ∈ c1 ∨ R ∈ c2 ∨ R ∈ c3 := by simpa [ownAll, hRm] using hR
    rcases hRq with hRi | hRi | hRi
    · have fr := own_frm hw q1.1 x1 B.1 B.2.2.2.2.2.2.2.2.2.2.1
      have h2 : R ∉ c2 := fun hm => (List.pairwise_append.mp (List.pairwise_append.mp hall).1).2.2 R (List.mem_append_right _ hRi) R hm rfl
      have h3 : R ∉ c3 := fun hm => (List.pairwise_append.mp hall).2.2 R (List.mem_append_left _ (List.mem_append_right _ hRi)) R hm rfl
      have nm1 : mk ≠ L1 := fun e => by simp [e] at nd1
      have np : L3 ≠ L1 := fun e => by simp [e] at nd1
      by_cases hz : 2 ≤ c1.length
      · refine Pays.imp (rmRemC l Z a0 hw h0 Z0 hV.1 ((List.pairwise_append.mp (List.pairwise_append.mp (List.pairwise_append.mp hall).1).1).2.1) hz (by simp at llen; show c1.length ≤ 3; omega) hRi g1 (fun y hy => gall y (by simp [show y ∈ c1 from hy]))) ?_
        rintro v h L ⟨rfl, Nf, Kp, f1, ne⟩
        have w2 : ownRT R (ownPr ([(k1, L1, c1), (k2, L2, c2), (k3, L3, c3)] : List OwnQ)) = ownHd c3 := by simp [ownPr, ownRT, List.erase_of_not_mem h3, own_fst_ne e3]
        rw [w2]
        exact ⟨rfl, Nf, ⟨_, Kp, fun y hy => by
          rcases List.mem_cons.mp hy with rfl | hy
          · exact Or.inl ⟨_, q1.1, by decide, by decide⟩
          · exact Or.inl ⟨_, x1 y hy, by decide, by decide⟩⟩, fb_of (B.1.keep Kp) (B.2.2.2.2.2.2.1.keep Kp fr.1) (hM.1.1.keep Kp) (hM.1.2.2.1.keep Kp (fr.2.2 mk hM.1.1 nm1)) ⟨A, L3, (4 : Int32), (3 : Int32), af, (B.2.2.2.2.1.keep Kp fr.1), (B.2.2.1.keep Kp fr.1), (B.2.2.2.2.2.2.2.2.2.2.1.keep Kp fr.2.1), (q3.1.keep Kp), (q3.2.2.1.keep Kp (fr.2.2 L3 q3.1 np)), by decide, by decide, hP.2.2.2.2.1, own_hdref _⟩⟩
      · obtain ⟨y, hy1⟩ : ∃ y, c1 = [y] := by
          cases hcj : c1 with
          | nil => exact absurd hcj e1
          | cons a t =>
            cases t with
            | nil => exact ⟨a, rfl⟩
            | cons d s => rw [hcj] at hz; simp at hz
        subst hy1
        obtain rfl : y = R := (List.mem_singleton.mp hRi).symm
        refine Pays.imp (rmRL l Z a0 hw b y L1 mk t A L3 (4 : Int32) (3 : Int32) af h0 n0 Z0  B.1 B.2.2.1 B.2.2.2.1 B.2.2.2.2.1 B.2.2.2.2.2.2.1 B.2.2.2.2.2.2.2.1 hM.1.1 B.2.2.2.2.2.2.2.2.2.2.1 hV.1.2.1.1 hV.1.2.1.2.1 hV.1.2.1.2.2.1 hV.1.2.1.2.2.2 hV.1.1.1 hV.1.1.2.1 hV.1.1.2.2.1 hV.1.1.2.2.2 q3.1 nm1.symm np.symm (gall y (by simp)) g1 gb (by decide) (by decide) hP.2.2.2.2.1) ?_
        rintro v h L ⟨rfl, Nf, Kp, o_b_levelCount, o_b_levels, o_b_markets⟩
        have w2 : ownRT y (ownPr ([(k1, L1, [y]), (k2, L2, c2), (k3, L3, c3)] : List OwnQ)) = ownHd c3 := by simp [ownPr, ownRT, List.erase_of_not_mem h3, own_fst_ne e3]
        rw [w2]
        exact ⟨rfl, Nf, ⟨_, Kp, fun w hy => by
          rcases List.mem_cons.mp hy with rfl | hy
          · exact Or.inl ⟨_, hV.1.2.1.1, by decide, by decide⟩
          rcases List.mem_cons.mp hy with rfl | hy
          · exact Or.inl ⟨_, q1.1, by decide, by decide⟩
          cases List.mem_singleton.mp hy
          exact Or.inl ⟨_, B.1, by decide, by decide⟩⟩, fb_of (B.1.keep Kp) o_b_markets (hM.1.1.keep Kp) (hM.1.2.2.1.keep Kp (ninS (ne_exa hM.1.1 hV.1.2.1.1 (by decide)) (ninS nm1 (ninS (ne_exa hM.1.1 B.1 (by decide)) nin0)))) ⟨A, L3, (4 : Int32), (3 : Int32), af, o_b_levels, o_b_levelCount, (B.2.2.2.2.2.2.2.2.2.2.1.keep Kp (ninS (Rbk.neE B.2.2.2.2.2.2.2.2.2.2.1 hV.1.2.1.1 (own_w hw 10 rfl)).symm (ninS (Rbk.neE B.2.2.2.2.2.2.2.2.2.2.1 q1.1 (own_w hw 173 rfl)).symm (ninS (Rbk.neE B.2.2.2.2.2.2.2.2.2.2.1 B.1 (own_w hw 166 rfl)).symm nin0)))), (q3.1.keep Kp), (q3.2.2.1.keep Kp (ninS (ne_exa q3.1 hV.1.2.1.1 (by decide)) (ninS np (ninS (ne_exa q3.1 B.1 (by decide)) nin0)))), by decide, by decide, hP.2.2.2.2.1, own_hdref _⟩⟩
    · have fr := own_frm hw q2.1 x2 B.1 B.2.2.2.2.2.2.2.2.2.2.1
      have h1 : R ∉ c1 := fun hm => (List.pairwise_append.mp (List.pairwise_append.mp hall).1).2.2 R (List.mem_append_right _ hm) R hRi rfl
      have h3 : R ∉ c3 := fun hm => (List.pairwise_append.mp hall).2.2 R (List.mem_append_right _ hRi) R hm rfl
      have nm2 : mk ≠ L2 := fun e => by simp [e] at nd1
      have np : L3 ≠ L2 := fun e => by simp [e] at nd1
      by_cases hz : 2 ≤ c2.length
      · refine Pays.imp (rmRemC l Z a0 hw h0 Z0 hV.2.2.1 ((List.pairwise_append.mp (List.pairwise_append.mp hall).1).2.1) hz (by simp at llen; show c2.length ≤ 3; omega) hRi g2 (fun y hy => gall y (by simp [show y ∈ c2 from hy]))) ?_
        rintro v h L ⟨rfl, Nf, Kp, f1, ne⟩
        have w2 : ownRT R (ownPr ([(k1, L1, c1), (k2, L2, c2), (k3, L3, c3)] : List OwnQ)) = ownHd c3 := by simp [ownPr, ownRT, List.erase_of_not_mem h3, own_fst_ne e3]
        rw [w2]
        exact ⟨rfl, Nf, ⟨_, Kp, fun y hy => by
          rcases List.mem_cons.mp hy with rfl | hy
          · exact Or.inl ⟨_, q2.1, by decide, by decide⟩
          · exact Or.inl ⟨_, x2 y hy, by decide, by decide⟩⟩, fb_of (B.1.keep Kp) (B.2.2.2.2.2.2.1.keep Kp fr.1) (hM.1.1.keep Kp) (hM.1.2.2.1.keep Kp (fr.2.2 mk hM.1.1 nm2)) ⟨A, L3, (4 : Int32), (3 : Int32), af, (B.2.2.2.2.1.keep Kp fr.1), (B.2.2.1.keep Kp fr.1), (B.2.2.2.2.2.2.2.2.2.2.1.keep Kp fr.2.1), (q3.1.keep Kp), (q3.2.2.1.keep Kp (fr.2.2 L3 q3.1 np)), by decide, by decide, hP.2.2.2.2.1, own_hdref _⟩⟩
      · obtain ⟨y, hy1⟩ : ∃ y, c2 = [y] := by
          cases hcj : c2 with
          | nil => exact absurd hcj e2
          | cons a t =>
            cases t with
            | nil => exact ⟨a, rfl⟩
            | cons d s => rw [hcj] at hz; simp at hz
        subst hy1
        obtain rfl : y = R := (List.mem_singleton.mp hRi).symm
        refine Pays.imp (rmRL l Z a0 hw b y L2 mk t A L3 (4 : Int32) (3 : Int32) af h0 n0 Z0  B.1 B.2.2.1 B.2.2.2.1 B.2.2.2.2.1 B.2.2.2.2.2.2.1 B.2.2.2.2.2.2.2.1 hM.1.1 B.2.2.2.2.2.2.2.2.2.2.1 hV.2.2.1.2.1.1 hV.2.2.1.2.1.2.1 hV.2.2.1.2.1.2.2.1 hV.2.2.1.2.1.2.2.2 hV.2.2.1.1.1 hV.2.2.1.1.2.1 hV.2.2.1.1.2.2.1 hV.2.2.1.1.2.2.2 q3.1 nm2.symm np.symm (gall y (by simp)) g2 gb (by decide) (by decide) hP.2.2.2.2.1) ?_
        rintro v h L ⟨rfl, Nf, Kp, o_b_levelCount, o_b_levels, o_b_markets⟩
        have w2 : ownRT y (ownPr ([(k1, L1, c1), (k2, L2, [y]), (k3, L3, c3)] : List OwnQ)) = ownHd c3 := by simp [ownPr, ownRT, List.erase_of_not_mem h3, own_fst_ne e3]
        rw [w2]
        exact ⟨rfl, Nf, ⟨_, Kp, fun w hy => by
          rcases List.mem_cons.mp hy with rfl | hy
          · exact Or.inl ⟨_, hV.2.2.1.2.1.1, by decide, by decide⟩
          rcases List.mem_cons.mp hy with rfl | hy
          · exact Or.inl ⟨_, q2.1, by decide, by decide⟩
          cases List.mem_singleton.mp hy
          exact Or.inl ⟨_, B.1, by decide, by decide⟩⟩, fb_of (B.1.keep Kp) o_b_markets (hM.1.1.keep Kp) (hM.1.2.2.1.keep Kp (ninS (ne_exa hM.1.1 hV.2.2.1.2.1.1 (by decide)) (ninS nm2 (ninS (ne_exa hM.1.1 B.1 (by decide)) nin0)))) ⟨A, L3, (4 : Int32), (3 : Int32), af, o_b_levels, o_b_levelCount, (B.2.2.2.2.2.2.2.2.2.2.1.keep Kp (ninS (Rbk.neE B.2.2.2.2.2.2.2.2.2.2.1 hV.2.2.1.2.1.1 (own_w hw 10 rfl)).symm (ninS (Rbk.neE B.2.2.2.2.2.2.2.2.2.2.1 q2.1 (own_w hw 173 rfl)).symm (ninS (Rbk.neE B.2.2.2.2.2.2.2.2.2.2.1 B.1 (own_w hw 166 rfl)).symm nin0)))), (q3.1.keep Kp), (q3.2.2.1.keep Kp (ninS (ne_exa q3.1 hV.2.2.1.2.1.1 (by decide)) (ninS np (ninS (ne_exa q3.1 B.1 (by decide)) nin0)))), by decide, by decide, hP.2.2.2.2.1, own_hdref _⟩⟩
    · have fr := own_frm hw q3.1 x3 B.1 B.2.2.2.2.2.2.2.2.2.2.1
      have h1 : R ∉ c1 := fun hm => (List.pairwise_append.mp hall).2.2 R (List.mem_append_left _ (List.mem_append_right _ hm)) R hRi rfl
      have h2 : R ∉ c2 := fun hm => (List.pairwise_append.mp hall).2.2 R (List.mem_append_right _ hm) R hRi rfl
      have nm3 : mk ≠ L3 := fun e => by simp [e] at nd1
      by_cases hz : 2 ≤ c3.length
      · refine Pays.imp (rmRemC l Z a0 hw h0 Z0 hV.2.2.2.2.1 ((List.pairwise_append.mp hall).2.1) hz (by simp at llen; show c3.length ≤ 3; omega) hRi g3 (fun y hy => gall y (by simp [show y ∈ c3 from hy]))) ?_
        rintro v h L ⟨rfl, Nf, Kp, f1, ne⟩
        have w2 : ownRT R (ownPr ([(k1, L1, c1), (k2, L2, c2), (k3, L3, c3)] : List OwnQ)) = ownHd (c3.erase R) := own_fst_ne ne
        rw [w2]
        exact ⟨rfl, Nf, ⟨_, Kp, fun y hy => by
          rcases List.mem_cons.mp hy with rfl | hy
          · exact Or.inl ⟨_, q3.1, by decide, by decide⟩
          · exact Or.inl ⟨_, x3 y hy, by decide, by decide⟩⟩, fb_of (B.1.keep Kp) (B.2.2.2.2.2.2.1.keep Kp fr.1) (hM.1.1.keep Kp) (hM.1.2.2.1.keep Kp (fr.2.2 mk hM.1.1 nm3)) ⟨A, L3, (4 : Int32), (3 : Int32), af, (B.2.2.2.2.1.keep Kp fr.1), (B.2.2.1.keep Kp fr.1), (B.2.2.2.2.2.2.2.2.2.2.1.keep Kp fr.2.1), (q3.1.keep Kp), f1, by decide, by decide, hP.2.2.2.2.1, own_hdref _⟩⟩
      · obtain ⟨y, hy1⟩ : ∃ y, c3 = [y] := by
          cases hcj : c3 with
          | nil => exact absurd hcj e3
          | cons a t =>
            cases t with
            | nil => exact ⟨a, rfl⟩
            | cons d s => rw [hcj] at hz; simp at hz
        subst hy1
        obtain rfl : y = R := (List.mem_singleton.mp hRi).symm
        have np : L3 ≠ L2 := fun e => by simp [e] at nd1
        obtain ⟨f0, ef, -⟩ := own_hdR e2
        refine Pays.imp (rmRT l Z a0 hw b y L3 mk t A L2 f0 (4 : Int32) (3 : Int32) (2 : Int32) af h0 n0 Z0  B.1 B.2.2.1 B.2.2.2.1 B.2.2.2.2.1 B.2.2.2.2.2.2.1 B.2.2.2.2.2.2.2.1 hM.1.1 B.2.2.2.2.2.2.2.2.2.2.1 hV.2.2.2.2.1.2.1.1 hV.2.2.2.2.1.2.1.2.1 hV.2.2.2.2.1.2.1.2.2.1 hV.2.2.2.2.1.2.1.2.2.2 hV.2.2.2.2.1.1.1 hV.2.2.2.2.1.1.2.1 hV.2.2.2.2.1.1.2.2.1 hV.2.2.2.2.1.1.2.2.2 B.2.2.2.2.2.2.2.2.1 B.2.2.2.2.2.2.2.2.2.1 q2.1 (ef ▸ q2.2.2.1) nm3.symm np (gall y (by simp)) g3 gb gA (by decide) (by decide) (by decide) (by decide) (by decide) (by decide) hP.2.2.2.2.1 hP.2.2.1) ?_
        rintro v h L ⟨rfl, Nf, Kp, o_b_levelCount, o_b_levels, o_b_markets, o_A⟩
        have w2 : ownRT y (ownPr ([(k1, L1, c1), (k2, L2, c2), (k3, L3, [y])] : List OwnQ)) = ownHd c2 := by simp [ownPr, ownRT, ownFst]
        rw [w2]
        exact ⟨rfl, Nf, ⟨_, Kp, fun w hy => by
          rcases List.mem_cons.mp hy with rfl | hy
          · exact Or.inl ⟨_, hV.2.2.2.2.1.2.1.1, by decide, by decide⟩
          rcases List.mem_cons.mp hy with rfl | hy
          · exact Or.inl ⟨_, q3.1, by decide, by decide⟩
          rcases List.mem_cons.mp hy with rfl | hy
          · exact Or.inl ⟨_, B.1, by decide, by decide⟩
          cases List.mem_singleton.mp hy
          exact Or.inr ⟨_, B.2.2.2.2.2.2.2.2.2.2.1⟩⟩, fb_of (B.1.keep Kp) o_b_markets (hM.1.1.keep Kp) (hM.1.2.2.1.keep Kp (ninS (ne_exa hM.1.1 hV.2.2.2.2.1.2.1.1 (by decide)) (ninS nm3 (ninS (ne_exa hM.1.1 B.1 (by decide)) (ninS (Rbk.neE B.2.2.2.2.2.2.2.2.2.2.1 hM.1.1 (own_w hw 173 rfl)) nin0))))) ⟨A, L2, (3 : Int32), (2 : Int32), _, o_b_levels, o_b_levelCount, o_A, (q2.1.keep Kp), (q2.2.2.1.keep Kp (ninS (ne_exa q2.1 hV.2.2.2.2.1.2.1.1 (by decide)) (ninS np.symm (ninS (ne_exa q2.1 B.1 (by decide)) (ninS (Rbk.neE B.2.2.2.2.2.2.2.2.2.2.1 q2.1 (own_w hw 173 rfl)) nin0))))), by decide, by decide, ((updN af .null (by decide)).trans hP.2.2.1), own_hdref _⟩⟩
  | _ :: _ :: _ :: _ :: _, hle, _, _ => simp at hle
def ownV (s : List Addr × List (Int × List Addr)) : Value := ownFst s.1 (ownTop s.2)
def ownVR (R : Addr) (s : List Addr × List (Int × List Addr)) : Value := ownFst (s.1.erase R) (ownRT R s.2)
def ownBf (dL : Int32) (kL : Int) (dE : Int32) (kE : Int) : Prop := dE = (0 : Int32) ∧ (¬ dL = (0 : Int32) ∨ kE < kL)
theorem own_tri (a b : Int) : (a = b ∧ ¬ a < b ∧ ¬ b < a) ∨ (a < b ∧ ¬ a = b ∧ ¬ b = a ∧ ¬ b < a) ∨ (b < a ∧ ¬ a = b ∧ ¬ b = a ∧ ¬ a < b) := by omega
theorem own_p1 (r0 : Addr) (d0 : Int32) (k0 : Int) : ownV (ownAdd d0 k0 r0 ([], [])) = .ref r0 ∧ ownVR r0 (ownAdd d0 k0 r0 ([], [])) = .null := by
  by_cases e0 : d0 = (0 : Int32) <;> simp [ownV, ownVR, ownAdd, ownIns, ownTop, ownRT, ownFst, ownHd, e0]
theorem own_p2 {r0 r1 : Addr} (n01 : r0 ≠ r1) (d0 d1 : Int32) (k0 k1 : Int) : (¬ ownBf d1 k1 d0 k0 → ownV (ownAdd d1 k1 r1 (ownAdd d0 k0 r0 ([], []))) = .ref r0) ∧ (ownBf d1 k1 d0 k0 → ownV (ownAdd d1 k1 r1 (ownAdd d0 k0 r0 ([], []))) = .ref r1) ∧ ownVR r0 (ownAdd d1 k1 r1 (ownAdd d0 k0 r0 ([], []))) = .ref r1 ∧ ownVR r1 (ownAdd d1 k1 r1 (ownAdd d0 k0 r0 ([], []))) = .ref r0 := by
  have n10 := n01.symm
  by_cases e0 : d0 = (0 : Int32) <;> by_cases e1 : d1 = (0 : Int32) <;> rcases own_tri k1 k0 with ⟨t1, t2, t3⟩ | ⟨t1, t2, t3, t4⟩ | ⟨t1, t2, t3, t4⟩ <;> simp [ownV, ownVR, ownAdd, ownIns, ownTop, ownRT, ownFst, ownHd, ownBf, *]
theorem own_p3 {r0 r1 r2 : Addr} (n01 : r0 ≠ r1) (n02 : r0 ≠ r2) (n12 : r1 ≠ r2) (d0 d1 d2 : Int32) (k0 k1 k2 : Int) :
    (¬ ownBf d1 k1 d0 k0 → ¬ ownBf d2 k2 d0 k0 → ownV (ownAdd d2 k2 r2 (ownAdd d1 k1 r1 (ownAdd d0 k0 r0 ([], [])))) = .ref r0) ∧ (¬ ownBf d1 k1 d0 k0 → ownBf d2 k2 d0 k0 → ownV (ownAdd d2 k2 r2 (ownAdd d1 k1 r1 (ownAdd d0 k0 r0 ([], [])))) = .ref r2) ∧ (ownBf d1 k1 d0 k0 → ¬ ownBf d2 k2 d1 k1 → ownV (ownAdd d2 k2 r2 (ownAdd d1 k1 r1 (ownAdd d0 k0 r0 ([], [])))) = .ref r1) ∧ (ownBf d1 k1 d0 k0 → ownBf d2 k2 d1 k1 → ownV (ownAdd d2 k2 r2 (ownAdd d1 k1 r1 (ownAdd d0 k0 r0 ([], [])))) = .ref r2) ∧
    (¬ ownBf d2 k2 d1 k1 → ownVR r0 (ownAdd d2 k2 r2 (ownAdd d1 k1 r1 (ownAdd d0 k0 r0 ([], [])))) = .ref r1) ∧ (ownBf d2 k2 d1 k1 → ownVR r0 (ownAdd d2 k2 r2 (ownAdd d1 k1 r1 (ownAdd d0 k0 r0 ([], [])))) = .ref r2) ∧ (¬ ownBf d2 k2 d0 k0 → ownVR r1 (ownAdd d2 k2 r2 (ownAdd d1 k1 r1 (ownAdd d0 k0 r0 ([], [])))) = .ref r0) ∧ (ownBf d2 k2 d0 k0 → ownVR r1 (ownAdd d2 k2 r2 (ownAdd d1 k1 r1 (ownAdd d0 k0 r0 ([], [])))) = .ref r2) ∧ (¬ ownBf d1 k1 d0 k0 → ownVR r2 (ownAdd d2 k2 r2 (ownAdd d1 k1 r1 (ownAdd d0 k0 r0 ([], [])))) = .ref r0) ∧ (ownBf d1 k1 d0 k0 → ownVR r2 (ownAdd d2 k2 r2 (ownAdd d1 k1 r1 (ownAdd d0 k0 r0 ([], [])))) = .ref r1) := by
  have n10 := n01.symm
  have n20 := n02.symm
  have n21 := n12.symm
  rcases own_tri k1 k0 with ⟨t1, t2, t3⟩ | ⟨t1, t2, t3, t4⟩ | ⟨t1, t2, t3, t4⟩ <;> rcases own_tri k2 k0 with ⟨u1, u2, u3⟩ | ⟨u1, u2, u3, u4⟩ | ⟨u1, u2, u3, u4⟩ <;> rcases own_tri k2 k1 with ⟨w1, w2, w3⟩ | ⟨w1, w2, w3, w4⟩ | ⟨w1, w2, w3, w4⟩ <;> first
    | (exfalso; omega)
    | (by_cases e0 : d0 = (0 : Int32) <;> by_cases e1 : d1 = (0 : Int32) <;> by_cases e2 : d2 = (0 : Int32) <;> simp [ownV, ownVR, ownAdd, ownIns, ownTop, ownRT, ownFst, ownHd, ownBf, *])
theorem rmAddB (l : Launch) (Z : State) (a0 : Array Value) (hw : TW Z a0) {n0 : Nat} {b mk A K t l0 : Addr} {z : Int32} {pd : List (Addr × Int32 × Int64)} {mc : List Addr} {qs : List OwnQ} (R : Addr) (kd : Int32) (x : Int64) (h0 : Heap) (Z0 : n0 ≤ h0.size) (F : BK Z h0 n0 b mk A K t l0 z ((R, kd, x) :: pd) mc qs) (hb : ¬ x < (1 : Int64) ∧ ¬ (1000000000000 : Int64) < x) :
    Pays l Z (⟨"com/example/uncross/uncross/engine/BookSide", "add", "(Lcom/example/uncross/uncross/engine/BookSide$Resting;)V"⟩ : MethodName) prog_15_method_7_code 3 none [] ({ frames := 3, cells := 1, slots := 4, locals := 60 } : Room) #[(.ref b), (.ref R)] h0 (fun v h L => v = none ∧ Fr n0 L ∧ OwnSafe Z h0 h ∧ ∃ (mc' : List Addr) (qs' : List OwnQ), (mc', ownPr qs') = ownAdd kd (own_key z x).toInt R (mc, ownPr qs) ∧ BK Z h n0 b mk A K t l0 z pd mc' qs') := by
  by_cases hk : kd = (0 : Int32)
  · exact Pays.imp (rmAddL l Z a0 hw R kd x h0 Z0 F hk hb) fun v h L ⟨e, N, S, qs', q, f⟩ => ⟨e, N, S, mc, qs', by simp [ownAdd, hk, q], f⟩
  · exact Pays.imp (rmAddM l Z a0 hw R kd x h0 Z0 F hk) fun v h L ⟨e, N, S, f⟩ => ⟨e, N, S, _, qs, by simp [ownAdd, hk], f⟩
abbrev c1C := method_3_code
theorem d1_0 : decode c1C 0 = .ok (.lload_n 0, 1) := by decide +kernel
theorem d1_1 : decode c1C 1 = .ok (.ldc2_w 72, 3) := by decide +kernel
theorem d1_4 : decode c1C 4 = .ok (.land, 1) := by decide +kernel
theorem d1_5 : decode c1C 5 = .ok (.ldc2_w 74, 3) := by decide +kernel
theorem d1_8 : decode c1C 8 = .ok (.lrem, 1) := by decide +kernel
theorem d1_9 : decode c1C 9 = .ok (.lconst 1, 1) := by decide +kernel
theorem d1_10 : decode c1C 10 = .ok (.ladd, 1) := by decide +kernel
theorem d1_11 : decode c1C 11 = .ok (.lreturn, 1) := by decide +kernel
theorem pn_14 : plainName "com/example/uncross/uncross/engine/BookSideFirstPinLaw" = true := by first | (simp [plainName, overriddenIn]; done) | decide +kernel
def Fprice (x0 : Int64) : Int64 := (((x0 &&& (9223372036854775807 : Int64)) % (1000000000000 : Int64)) + (1 : Int64))
theorem rmprice (l : Launch) (Z : State) (a0 : Array Value) (hw : TW Z a0) (x0 : Int64) (h0 : Heap) (n0 : Nat) (Z0 : n0 ≤ h0.size) :
    Pays l Z (⟨"com/example/uncross/uncross/engine/BookSideFirstPinLaw", "price", "(J)J"⟩ : MethodName) method_3_code 2 (some .long) [] ({ frames := 0, cells := 0, slots := 0, locals := 0 } : Room) #[(.long x0)] h0 (fun v h L => v = some (.long (Fprice x0)) ∧ Fr n0 L ∧ h = h0) := by
  refine Pays.walk (plainFor_of_name pn_14) (fun m => ef_7 m x0 ) ?_
  intro p e s m below meth c T0 X0 hx hby hml hown hnm hZ e0 hret hlk
  have N0 := Fr.nil n0
  refine Goes.on (T' := T0) (g' := (mkF m 11 #[sJ x0, s2] [(.long (((x0 &&& (9223372036854775807 : Int64)) % (1000000000000 : Int64)) + (1 : Int64)))])) (fun _ k => XS.lloadN X0.here hx rfl (hb hby d1_0) rfl (X0.ldc2Long hx hown (mvT hZ (own_w hw 7 rfl)) (g := (mkF m 1 #[sJ x0, s2] [(.long x0)])) rfl (hb hby d1_1) _ (XS.land X0.here hx rfl (hb hby d1_4) rfl (X0.ldc2Long hx hown (mvT hZ (own_w hw 8 rfl)) (g := (mkF m 5 #[sJ x0, s2] [(.long (x0 &&& (9223372036854775807 : Int64)))])) rfl (hb hby d1_5) _ (lremM X0 hx rfl (hb hby d1_8) rfl (by decide) (XS.lconst X0.here hx rfl (hb hby d1_9) (XS.ladd X0.here hx rfl (hb hby d1_10) rfl k))))))) ?_
  exact Goes.retJ X0 hx hlk hret (hb hby d1_11) (by decide) (by decide) ⟨(rfl), N0, e0⟩
abbrev c44C := method_4_code
theorem d44_0 : decode c44C 0 = .ok (.iload 4, 2) := by decide +kernel
theorem d44_2 : decode c44C 2 = .ok (.ifCond .eq 5, 3) := by decide +kernel
theorem d44_7 : decode c44C 7 = .ok (.iload_n 1, 1) := by decide +kernel
theorem d44_8 : decode c44C 8 = .ok (.ifCond .eq 5, 3) := by decide +kernel
theorem d44_13 : decode c44C 13 = .ok (.iload_n 0, 1) := by decide +kernel
theorem d44_14 : decode c44C 14 = .ok (.ifCond .eq 18, 3) := by decide +kernel
theorem d44_32 : decode c44C 32 = .ok (.lload_n 2, 1) := by decide +kernel
theorem d44_33 : decode c44C 33 = .ok (.lload 5, 2) := by decide +kernel
theorem d44_35 : decode c44C 35 = .ok (.lcmp, 1) := by decide +kernel
theorem d44_36 : decode c44C 36 = .ok (.ifCond .ge 7, 3) := by decide +kernel
theorem d44_39 : decode c44C 39 = .ok (.iconst 1, 1) := by decide +kernel
theorem d44_40 : decode c44C 40 = .ok (.goto 4, 3) := by decide +kernel
theorem d44_44 : decode c44C 44 = .ok (.ireturn, 1) := by decide +kernel
theorem d44_43 : decode c44C 43 = .ok (.iconst 0, 1) := by decide +kernel
theorem d44_17 : decode c44C 17 = .ok (.lload_n 2, 1) := by decide +kernel
theorem d44_18 : decode c44C 18 = .ok (.lload 5, 2) := by decide +kernel
theorem d44_20 : decode c44C 20 = .ok (.lcmp, 1) := by decide +kernel
theorem d44_21 : decode c44C 21 = .ok (.ifCond .le 7, 3) := by decide +kernel
theorem d44_24 : decode c44C 24 = .ok (.iconst 1, 1) := by decide +kernel
theorem d44_25 : decode c44C 25 = .ok (.goto 19, 3) := by decide +kernel
theorem d44_28 : decode c44C 28 = .ok (.iconst 0, 1) := by decide +kernel
theorem d44_29 : decode c44C 29 = .ok (.goto 15, 3) := by decide +kernel
theorem d44_11 : decode c44C 11 = .ok (.iconst 1, 1) := by decide +kernel
theorem d44_12 : decode c44C 12 = .ok (.ireturn, 1) := by decide +kernel
theorem d44_5 : decode c44C 5 = .ok (.iconst 0, 1) := by decide +kernel
theorem d44_6 : decode c44C 6 = .ok (.ireturn, 1) := by decide +kernel
theorem ef_16 (m : MethodId) (x0 : Int32) (x1 : Int32) (x2 : Int64) (x3 : Int32) (x4 : Int64) : entryFrame m #[(.int x0), (.int x1), (.long x2), (.int x3), (.long x4)] 7 = mkF m 0 #[.val (.int x0), .val (.int x1), .val (.long x2), .second, .val (.int x3), .val (.long x4), .second] [] := by first | (simp [entryFrame, mkF, argsToLocals, Value.category]; done) | rfl
def Fbefore (x0 : Int32) (x1 : Int32) (x2 : Int64) (x3 : Int32) (x4 : Int64) : Int32 := (if x3 = (0 : Int32) then (if x1 = (0 : Int32) then (if x0 = (0 : Int32) then (if x2 < x4 then (1 : Int32) else (0 : Int32)) else (if x4 < x2 then (1 : Int32) else (0 : Int32))) else (1 : Int32)) else (0 : Int32))
theorem rmbefore (l : Launch) (Z : State) (a0 : Array Value) (hw : TW Z a0) (x0 : Int32) (x1 : Int32) (x2 : Int64) (x3 : Int32) (x4 : Int64) (h0 : Heap) (n0 : Nat) (Z0 : n0 ≤ h0.size) :
    Pays l Z (⟨"com/example/uncross/uncross/engine/BookSideFirstPinLaw", "before", "(ZZJZJ)Z"⟩ : MethodName) method_4_code 7 (some .boolean) [] ({ frames := 0, cells := 0, slots := 0, locals := 0 } : Room) #[(.int x0), (.int x1), (.long x2), (.int x3), (.long x4)] h0 (fun v h L => v = some (.int (Fbefore x0 x1 x2 x3 x4)) ∧ Fr n0 L ∧ h = h0) := by
  refine Pays.walk (plainFor_of_name pn_14) (fun m => ef_16 m x0 x1 x2 x3 x4 ) ?_
  intro p e s m below meth c T0 X0 hx hby hml hown hnm hZ e0 hret hlk
  have dc := @Jvm.hb _ _ hby
  have N0 := Fr.nil n0
  refine Goes.on (T' := T0) (g' := (mkF m 2 #[sI x0, sI x1, sJ x2, s2, sI x3, sJ x4, s2] [(.int x3)])) (fun _ k => XS.iload X0.here hx rfl (dc d44_0) rfl k) ?_
  by_cases hc1 : x3 = (0 : Int32)
  · refine Goes.on (T' := T0) (g' := (mkF m 8 #[sI x0, sI x1, sJ x2, s2, sI x3, sJ x4, s2] [(.int x1)])) (fun _ k => XS.ifYes X0.here hx rfl (pc0 := 2) (pc' := 7) rfl (dc d44_2) rfl (XT.i0_eq_t hc1) (by decide) (by decide) (XS.iloadN X0.here hx rfl (dc d44_7) rfl k)) ?_
    by_cases hc2 : x1 = (0 : Int32)
    · refine Goes.on (T' := T0) (g' := (mkF m 14 #[sI x0, sI x1, sJ x2, s2, sI x3, sJ x4, s2] [(.int x0)])) (fun _ k => XS.ifYes X0.here hx rfl (pc0 := 8) (pc' := 13) rfl (dc d44_8) rfl (XT.i0_eq_t hc2) (by decide) (by decide) (XS.iloadN X0.here hx rfl (dc d44_13) rfl k)) ?_
      by_cases hc3 : x0 = (0 : Int32)
      · refine Goes.on (T' := T0) (g' := (mkF m 36 #[sI x0, sI x1, sJ x2, s2, sI x3, sJ x4, s2] [(.int (XT.cmpL x2 x4))])) (fun _ k => XS.ifYes X0.here hx rfl (pc0 := 14) (pc' := 32) rfl (dc d44_14) rfl (XT.i0_eq_t hc3) (by decide) (by decide) (XS.lloadN X0.here hx rfl (dc d44_32) rfl (XS.lload X0.here hx rfl (dc d44_33) rfl (XT.lcmp X0.here hx rfl (dc d44_35) rfl k)))) ?_
        by_cases hc4 : x2 < x4
        · refine Goes.on (T' := T0) (g' := (mkF m 44 #[sI x0, sI x1, sJ x2, s2, sI x3, sJ x4, s2] [(.int 1)])) (fun _ k => XS.ifNo X0.here hx rfl (dc d44_36) rfl (XT.ll_ge_f hc4) (XS.iconst X0.here hx rfl (dc d44_39) (XS.goto X0.here hx rfl (pc0 := 40) (pc' := 44) rfl (dc d44_40) (by decide) (by decide) k))) ?_
          exact Goes.retB X0 hx hlk hret (Or.inr rfl) (dc d44_44) (by decide) (by decide) ⟨(by unfold Fbefore; rw [if_pos hc1, if_pos hc2, if_pos hc3, if_pos hc4]), N0, e0⟩
        · refine Goes.on (T' := T0) (g' := (mkF m 44 #[sI x0, sI x1, sJ x2, s2, sI x3, sJ x4, s2] [(.int 0)])) (fun _ k => XS.ifYes X0.here hx rfl (pc0 := 36) (pc' := 43) rfl (dc d44_36) rfl (XT.ll_ge_t hc4) (by decide) (by decide) (XS.iconst X0.here hx rfl (dc d44_43) k)) ?_
          exact Goes.retB X0 hx hlk hret (Or.inl rfl) (dc d44_44) (by decide) (by decide) ⟨(by unfold Fbefore; rw [if_pos hc1, if_pos hc2, if_pos hc3, if_neg hc4]), N0, e0⟩
      · refine Goes.on (T' := T0) (g' := (mkF m 21 #[sI x0, sI x1, sJ x2, s2, sI x3, sJ x4, s2] [(.int (XT.cmpL x2 x4))])) (fun _ k => XS.ifNo X0.here hx rfl (dc d44_14) rfl (XT.i0_eq_f hc3) (XS.lloadN X0.here hx rfl (dc d44_17) rfl (XS.lload X0.here hx rfl (dc d44_18) rfl (XT.lcmp X0.here hx rfl (dc d44_20) rfl k)))) ?_
        by_cases hc5 : x4 < x2
        · refine Goes.on (T' := T0) (g' := (mkF m 44 #[sI x0, sI x1, sJ x2, s2, sI x3, sJ x4, s2] [(.int 1)])) (fun _ k => XS.ifNo X0.here hx rfl (dc d44_21) rfl (XT.ll_le_f hc5) (XS.iconst X0.here hx rfl (dc d44_24) (XS.goto X0.here hx rfl (pc0 := 25) (pc' := 44) rfl (dc d44_25) (by decide) (by decide) k))) ?_
          exact Goes.retB X0 hx hlk hret (Or.inr rfl) (dc d44_44) (by decide) (by decide) ⟨(by unfold Fbefore; rw [if_pos hc1, if_pos hc2, if_neg hc3, if_pos hc5]), N0, e0⟩
        · refine Goes.on (T' := T0) (g' := (mkF m 44 #[sI x0, sI x1, sJ x2, s2, sI x3, sJ x4, s2] [(.int 0)])) (fun _ k => XS.ifYes X0.here hx rfl (pc0 := 21) (pc' := 28) rfl (dc d44_21) rfl (XT.ll_le_t hc5) (by decide) (by decide) (XS.iconst X0.here hx rfl (dc d44_28) (XS.goto X0.here hx rfl (pc0 := 29) (pc' := 44) rfl (dc d44_29) (by decide) (by decide) k))) ?_
          exact Goes.retB X0 hx hlk hret (Or.inl rfl) (dc d44_44) (by decide) (by decide) ⟨(by unfold Fbefore; rw [if_pos hc1, if_pos hc2, if_neg hc3, if_neg hc5]), N0, e0⟩
    · refine Goes.on (T' := T0) (g' := (mkF m 12 #[sI x0, sI x1, sJ x2, s2, sI x3, sJ x4, s2] [(.int 1)])) (fun _ k => XS.ifNo X0.here hx rfl (dc d44_8) rfl (XT.i0_eq_f hc2) (XS.iconst X0.here hx rfl (dc d44_11) k)) ?_
      exact Goes.retB X0 hx hlk hret (Or.inr rfl) (dc d44_12) (by decide) (by decide) ⟨(by unfold Fbefore; rw [if_pos hc1, if_neg hc2]), N0, e0⟩
  · refine Goes.on (T' := T0) (g' := (mkF m 6 #[sI x0, sI x1, sJ x2, s2, sI x3, sJ x4, s2] [(.int 0)])) (fun _ k => XS.ifNo X0.here hx rfl (dc d44_2) rfl (XT.i0_eq_f hc1) (XS.iconst X0.here hx rfl (dc d44_5) k)) ?_
    exact Goes.retB X0 hx hlk hret (Or.inl rfl) (dc d44_6) (by decide) (by decide) ⟨(by unfold Fbefore; rw [if_neg hc1]), N0, e0⟩
theorem own_price (p : Int64) : ¬ Fprice p < (1 : Int64) ∧ ¬ (1000000000000 : Int64) < Fprice p := by
  have e1 : (1 : Int64).toInt = 1 := rfl
  have e2 : (1000000000000 : Int64).toInt = 1000000000000 := rfl
  simp only [Int64.lt_iff_toInt_lt, e1, e2]
  unfold Fprice
  have h := c_maskL p (9223372036854775807 : Int64) 63 (by decide) (by decide)
  have h1 : 0 ≤ (p &&& (9223372036854775807 : Int64)).toInt := by omega
  have h2 : ((p &&& (9223372036854775807 : Int64)) % (1000000000000 : Int64)).toInt = (p &&& (9223372036854775807 : Int64)).toInt % 1000000000000 := by rw [Int64.toInt_mod, e2]; exact Int.tmod_eq_emod_of_nonneg h1
  have h3 := c_ladd ((p &&& (9223372036854775807 : Int64)) % (1000000000000 : Int64)) (1 : Int64)
  have r := rng64 (((p &&& (9223372036854775807 : Int64)) % (1000000000000 : Int64)) + (1 : Int64))
  omega
theorem own_keyI {z : Int32} {x : Int64} (h : ¬ x < (1 : Int64) ∧ ¬ (1000000000000 : Int64) < x) : (own_key z x).toInt = if z = (0 : Int32) then -x.toInt else x.toInt := by
  have e1 : (1 : Int64).toInt = 1 := rfl
  have e2 : (1000000000000 : Int64).toInt = 1000000000000 := rfl
  simp only [Int64.lt_iff_toInt_lt, e1, e2] at h
  unfold own_key
  split
  · have h3 := c_lneg x
    have r := rng64 (-x)
    omega
  · rfl
theorem own_bf {z dL dE : Int32} {xL xE : Int64} (hL : ¬ xL < (1 : Int64) ∧ ¬ (1000000000000 : Int64) < xL) (hE : ¬ xE < (1 : Int64) ∧ ¬ (1000000000000 : Int64) < xE) : (Fbefore z dL xL dE xE = (0 : Int32) → ¬ ownBf dL (own_key z xL).toInt dE (own_key z xE).toInt) ∧ (¬ Fbefore z dL xL dE xE = (0 : Int32) → ownBf dL (own_key z xL).toInt dE (own_key z xE).toInt) := by
  rw [own_keyI hL, own_keyI hE]
  unfold Fbefore ownBf
  by_cases e1 : dE = (0 : Int32) <;> by_cases e2 : dL = (0 : Int32) <;> by_cases e3 : z = (0 : Int32) <;> by_cases e4 : xL < xE <;> by_cases e5 : xE < xL <;> simp [e1, e2, e3, e4, e5] <;> simp only [Int64.lt_iff_toInt_lt] at e4 e5 <;> omega
def ownMem (s : List Addr × List (Int × List Addr)) : List Addr := s.1 ++ s.2.flatMap (fun q => q.2)
theorem own_ins_mem (k : Int) (R : Addr) : ∀ (s : List (Int × List Addr)), R ∈ (ownIns k R s).flatMap (fun q => q.2) ∧ ∀ y ∈ s.flatMap (fun q => q.2), y ∈ (ownIns k R s).flatMap (fun q => q.2)
  | [] => by simp [ownIns]
  | q :: t => by
    have r := own_ins_mem k R t
    unfold ownIns
    split
    · refine ⟨by simp, fun y hy => ?_⟩
      simp only [List.flatMap_cons, List.mem_append] at hy ⊢
      rcases hy with hy | hy
      · exact Or.inl (by simp [hy])
      · exact Or.inr hy
    · split
      · refine ⟨by simp, fun y hy => ?_⟩
        simp only [List.flatMap_cons, List.mem_append] at hy ⊢
        exact Or.inr hy
      · refine ⟨?_, fun y hy => ?_⟩
        · simp only [List.flatMap_cons, List.mem_append]
          exact Or.inr r.1
        · simp only [List.flatMap_cons, List.mem_append] at hy ⊢
          rcases hy with hy | hy
          · exact Or.inl hy
          · exact Or.inr (r.2 y hy)
theorem own_mem_add (kd : Int32) (k : Int) (R : Addr) (s : List Addr × List (Int × List Addr)) : R ∈ ownMem (ownAdd kd k R s) ∧ ∀ y ∈ ownMem s, y ∈ ownMem (ownAdd kd k R s) := by
  have r := own_ins_mem k R s.2
  unfold ownAdd ownMem
  split
  · refine ⟨List.mem_append_right _ r.1, fun y hy => ?_⟩
    rcases List.mem_append.mp hy with hy | hy
    · exact List.mem_append_left _ hy
    · exact List.mem_append_right _ (r.2 y hy)
  · refine ⟨by simp, fun y hy => ?_⟩
    rcases List.mem_append.mp hy with hy | hy
    · simp [hy]
    · exact List.mem_append_right _ hy
theorem own_all {mc : List Addr} {qs : List OwnQ} {s : List Addr × List (Int × List Addr)} (e : (mc, ownPr qs) = s) {y : Addr} (hy : y ∈ ownMem s) : y ∈ ownAll mc qs := by
  subst e
  simpa [ownMem, ownAll, ownPr, List.flatMap_map] using hy
theorem bk_len {Z : State} {h : Heap} {n0 : Nat} {b mk A K t l0 : Addr} {z : Int32} {pd : List (Addr × Int32 × Int64)} {mc : List Addr} {qs : List OwnQ} (F : BK Z h n0 b mk A K t l0 z pd mc qs) : qs.length ≤ 3 := by
  obtain ⟨_, _, _, _, _, _, _, _, _, _, _, hV, _, _, _, hlen, _⟩ := F
  have q := own_len hV
  simp [ownAll] at hlen q
  omega
theorem bk_exa {Z : State} {h : Heap} {n0 : Nat} {b mk A K t l0 : Addr} {z : Int32} {pd : List (Addr × Int32 × Int64)} {mc : List Addr} {qs : List OwnQ} (F : BK Z h n0 b mk A K t l0 z pd mc qs) : Exa Z h b k0C := by
  obtain ⟨_, _, _, B, _⟩ := F
  exact B.1
theorem fb_exa {Z : State} {h : Heap} {b : Addr} {w : Value} (F : FB Z h b w) : Exa Z h b k0C := by
  obtain ⟨_, e, _⟩ := F
  exact e
theorem own_safeS {Z : State} {EL : List (String × Nat)} {vm : Vm} {h : Heap} {ws : List Addr} (hal : Z.vm.Alike vm) (sw : ∀ y ∈ ws, (∃ C, Exa Z h y C ∧ C ≠ "java/lang/String" ∧ C ≠ "[B") ∨ (∃ f, Rbk Z h y k2C 64 f)) : ∀ y ∈ ws, Safe Z EL vm h y := fun y hy => by
  rcases sw y hy with ⟨C, e, q1, q2⟩ | ⟨f, r⟩
  · exact Safe.exa hal e q1 q2
  · exact Rbk.safe hal r
theorem own_3 (y : Int32) : (y &&& (3 : Int32)) = (0 : Int32) ∨ (y &&& (3 : Int32)) = (1 : Int32) ∨ (y &&& (3 : Int32)) = (2 : Int32) ∨ (y &&& (3 : Int32)) = (3 : Int32) := by
  have h := c_mask y (3 : Int32) 2 (by decide) (by decide)
  have k0 : (0 : Int32).toInt = 0 := rfl
  have k1 : (1 : Int32).toInt = 1 := rfl
  have k2 : (2 : Int32).toInt = 2 := rfl
  have k3 : (3 : Int32).toInt = 3 := rfl
  simp only [← Int32.toInt_inj, k0, k1, k2, k3]
  omega
theorem pd_23 : parseMethodDescriptor "(Lcom/example/uncross/uncross/model/Side;)V" = some ⟨[(.object "com/example/uncross/uncross/model/Side")], none⟩ := by decide +kernel
theorem pd_24 : parseMethodDescriptor "()Lcom/example/uncross/uncross/engine/BookSide$Resting;" = some ⟨[], some (.object "com/example/uncross/uncross/engine/BookSide$Resting")⟩ := by decide +kernel
theorem pd_25 : parseMethodDescriptor "(Lcom/example/uncross/uncross/engine/BookSide$Resting;)V" = some ⟨[(.object "com/example/uncross/uncross/engine/BookSide$Resting")], none⟩ := by decide +kernel
theorem pd_26 : parseMethodDescriptor "(ZZJZJ)Z" = some ⟨[.boolean, .boolean, .long, .boolean, .long], some .boolean⟩ := by decide +kernel
theorem pd_27 : parseMethodDescriptor "(J)Ljava/util/OptionalLong;" = some ⟨[.long], some (.object "java/util/OptionalLong")⟩ := by decide +kernel
theorem pd_28 : parseMethodDescriptor "(Ljava/lang/String;Lcom/example/uncross/uncross/model/Side;JLjava/util/OptionalLong;)V" = some ⟨[(.object "java/lang/String"), (.object "com/example/uncross/uncross/model/Side"), .long, (.object "java/util/OptionalLong")], none⟩ := by decide +kernel
theorem pd_29 : parseMethodDescriptor "(Lcom/example/uncross/uncross/model/Order;JJZ)V" = some ⟨[(.object "com/example/uncross/uncross/model/Order"), .long, .long, .boolean], none⟩ := by decide +kernel
theorem ef_17 (m : MethodId) (x0 : Int32) (x1 : Int64) (x2 : Int64) (x3 : Int64) : entryFrame m #[(.int x0), (.long x1), (.long x2), (.long x3)] maxLocals = mkF m 0 #[.val (.int x0), .val (.long x1), .second, .val (.long x2), .second, .val (.long x3), .second, .unset, .unset, .unset, .unset, .unset, .unset, .unset, .unset, .unset, .unset, .unset, .unset, .unset, .unset, .unset, .unset, .unset, .unset, .unset, .unset, .unset, .unset] [] := by first | (simp [entryFrame, mkF, argsToLocals, Value.category, maxLocals]; done) | rfl
abbrev lA (x0 : Int32) (x1 x2 x3 : Int64) (z1 : Int32) (sd : Addr) (n z3 z4 z5 v : Int32) (u1 u2 u3 u4 u5 u6 u7 u8 u9 : Slot) : Array Slot := #[sI x0, sJ x1, s2, sJ x2, s2, sJ x3, s2, sI z1, sR sd, sI n, sI z3, sI z4, sI z5, sI v, sJ (Fprice x1), s2, sJ (Fprice x2), s2, sJ (Fprice x3), s2, u1, u2, u3, u4, u5, u6, u7, u8, u9]
theorem rm0 (l : Launch) (Z : State) (a0 : Array Value) (hw : TW Z a0) (x0 : Int32) (x1 x2 x3 : Int64) (h0 : Heap) (n0 : Nat) (Z0 : n0 ≤ h0.size) (O0 : Old Z n0 h0) (cs : Int32) (SC : Sta Z Z.heap "java/lang/String" "COMPACT_STRINGS" "Z" (.int cs)) (hcs : ¬ cs = (0 : Int32)) (sf : Value) (SF : Sta Z Z.heap "jdk/internal/util/Preconditions" "SIOOBE_FORMATTER" "Ljava/util/function/BiFunction;" sf) (hsf : sf.isRef = true) (ic : Addr) (SI : Sta Z Z.heap "com/example/uncross/uncross/model/Order" "ID_CHARACTERS" "[Z" (.ref ic)) (icf : Nat → Int32) (IC : Arf Z Z.heap ic .boolean Value.int 128 icf) (hic97 : ¬ icf 97 = (0 : Int32)) (hic98 : ¬ icf 98 = (0 : Int32)) (hic99 : ¬ icf 99 = (0 : Int32)) (hEL : EW Z a0 consts_1) (em : Addr) (SE : Sta Z Z.heap "java/util/OptionalLong" "EMPTY" "Ljava/util/OptionalLong;" (.ref em)) (EXE : Exa Z Z.heap em "java/util/OptionalLong") (FE : Fld Z Z.heap em "java/util/OptionalLong" "isPresent" "Z" (.int (0 : Int32))) (k0 : Addr) (k1 : Addr) (ST_k0 : Sta Z Z.heap "com/example/uncross/uncross/model/Side" "SELL" "Lcom/example/uncross/uncross/model/Side;" (.ref k0)) (EX_k0 : Exa Z Z.heap k0 "com/example/uncross/uncross/model/Side") (ST_k1 : Sta Z Z.heap "com/example/uncross/uncross/model/Side" "BUY" "Lcom/example/uncross/uncross/model/Side;" (.ref k1)) (EX_k1 : Exa Z Z.heap k1 "com/example/uncross/uncross/model/Side") (FZ4 : Fld Z Z.heap k0 "java/lang/Enum" "ordinal" "I" (.int (1 : Int32))) (FZ5 : Fld Z Z.heap k1 "java/lang/Enum" "ordinal" "I" (.int (0 : Int32))) :
    PaysW l Z consts_1 x code maxLocals ret tables_1 room_1 #[(.int x0), (.long x1), (.long x2), (.long x3)] h0 (fun v h L => v = some (.int (1 : Int32)) ∧ Fr n0 L) := by
  refine PaysW.walk (plainFor_of_name pn_14) (fun m => ef_17 m x0 x1 x2 x3 ) ?_
  intro p e s m below meth c T0 X0 hx hby hml hown hnm hZ e0 hret hlk hS0 RR0
  have dc := @Jvm.hb _ _ hby
  have ow := @own_w Z a0 hw
  have hk0 : 0 ≤ h0.size := Nat.zero_le _
  have S0 : h0.size ≤ h0.size := Nat.le_refl _
  have wS := own_wS hw
  have hown : (s.setVm s.vm).vm.findClass "com/example/uncross/uncross/engine/BookSideFirstPinLaw" = some m.cls := hown
  refine Goes.joinB (T' := T0) (fr := fun z1 => (mkF m 11 #[sI x0, sJ x1, s2, sJ x2, s2, sJ x3, s2, su, su, su, su, su, su, su, su, su, su, su, su, su, su, su, su, su, su, su, su, su, su] [(.int z1)])) ?_ ?_
  · intro z1 hz1
    refine Goes.on (T' := T0) (g' := (mkF m 13 #[sI x0, sJ x1, s2, sJ x2, s2, sJ x3, s2, sI z1, su, su, su, su, su, su, su, su, su, su, su, su, su, su, su, su, su, su, su, su, su] [])) (fun _ k => XS.istore X0.here hx rfl (dc at_11) rfl (l' := #[sI x0, sJ x1, s2, sJ x2, s2, sJ x3, s2, sI z1, su, su, su, su, su, su, su, su, su, su, su, su, su, su, su, su, su, su, su, su, su]) rfl k) ?_
    refine Goes.joinTP X0 (h := h0) (C := fun sd => (z1 = 1 ∧ sd = k1) ∨ (z1 = 0 ∧ sd = k0)) (fr := fun sd => (mkF m 27 #[sI x0, sJ x1, s2, sJ x2, s2, sJ x3, s2, sI z1, su, su, su, su, su, su, su, su, su, su, su, su, su, su, su, su, su, su, su, su, su] [(.ref sd)])) ?_ ?_
    · intro sd T2 X2 e2 hsd
      refine Goes.on (T' := T2) (g' := (mkF m 36 #[sI x0, sJ x1, s2, sJ x2, s2, sJ x3, s2, sI z1, sR sd, sI ((x0.toUInt32 >>> ((1 : Int32) &&& 31).toUInt32).toInt32 &&& (3 : Int32)), su, su, su, su, su, su, su, su, su, su, su, su, su, su, su, su, su, su, su] [])) (fun _ k => XS.astore X2.here hx rfl (dc at_27) rfl rfl (l' := #[sI x0, sJ x1, s2, sJ x2, s2, sJ x3, s2, sI z1, sR sd, su, su, su, su, su, su, su, su, su, su, su, su, su, su, su, su, su, su, su, su]) rfl (XS.iloadN X2.here hx rfl (dc at_29) rfl (XS.iconst X2.here hx rfl (dc at_30) (XS.iushr X2.here hx rfl (dc at_31) rfl (XS.iconst X2.here hx rfl (dc at_32) (XS.iand X2.here hx rfl (dc at_33) rfl (XS.istore X2.here hx rfl (dc at_34) rfl (l' := #[sI x0, sJ x1, s2, sJ x2, s2, sJ x3, s2, sI z1, sR sd, sI ((x0.toUInt32 >>> ((1 : Int32) &&& 31).toUInt32).toInt32 &&& (3 : Int32)), su, su, su, su, su, su, su, su, su, su, su, su, su, su, su, su, su, su, su]) rfl k))))))) ?_
      refine Goes.joinB (T' := T2) (fr := fun z3 => (mkF m 49 #[sI x0, sJ x1, s2, sJ x2, s2, sJ x3, s2, sI z1, sR sd, sI ((x0.toUInt32 >>> ((1 : Int32) &&& 31).toUInt32).toInt32 &&& (3 : Int32)), su, su, su, su, su, su, su, su, su, su, su, su, su, su, su, su, su, su, su] [(.int z3)])) ?_ ?_
      · intro z3 hz3
        refine Goes.on (T' := T2) (g' := (mkF m 51 #[sI x0, sJ x1, s2, sJ x2, s2, sJ x3, s2, sI z1, sR sd, sI ((x0.toUInt32 >>> ((1 : Int32) &&& 31).toUInt32).toInt32 &&& (3 : Int32)), sI z3, su, su, su, su, su, su, su, su, su, su, su, su, su, su, su, su, su, su] [])) (fun _ k => XS.istore X2.here hx rfl (dc at_49) rfl (l' := #[sI x0, sJ x1, s2, sJ x2, s2, sJ x3, s2, sI z1, sR sd, sI ((x0.toUInt32 >>> ((1 : Int32) &&& 31).toUInt32).toInt32 &&& (3 : Int32)), sI z3, su, su, su, su, su, su, su, su, su, su, su, su, su, su, su, su, su, su]) rfl k) ?_
        refine Goes.joinB (T' := T2) (fr := fun z4 => (mkF m 64 #[sI x0, sJ x1, s2, sJ x2, s2, sJ x3, s2, sI z1, sR sd, sI ((x0.toUInt32 >>> ((1 : Int32) &&& 31).toUInt32).toInt32 &&& (3 : Int32)), sI z3, su, su, su, su, su, su, su, su, su, su, su, su, su, su, su, su, su, su] [(.int z4)])) ?_ ?_
        · intro z4 hz4
          refine Goes.on (T' := T2) (g' := (mkF m 66 #[sI x0, sJ x1, s2, sJ x2, s2, sJ x3, s2, sI z1, sR sd, sI ((x0.toUInt32 >>> ((1 : Int32) &&& 31).toUInt32).toInt32 &&& (3 : Int32)), sI z3, sI z4, su, su, su, su, su, su, su, su, su, su, su, su, su, su, su, su, su] [])) (fun _ k => XS.istore X2.here hx rfl (dc at_64) rfl (l' := #[sI x0, sJ x1, s2, sJ x2, s2, sJ x3, s2, sI z1, sR sd, sI ((x0.toUInt32 >>> ((1 : Int32) &&& 31).toUInt32).toInt32 &&& (3 : Int32)), sI z3, sI z4, su, su, su, su, su, su, su, su, su, su, su, su, su, su, su, su, su]) rfl k) ?_
          refine Goes.joinB (T' := T2) (fr := fun z5 => (mkF m 79 #[sI x0, sJ x1, s2, sJ x2, s2, sJ x3, s2, sI z1, sR sd, sI ((x0.toUInt32 >>> ((1 : Int32) &&& 31).toUInt32).toInt32 &&& (3 : Int32)), sI z3, sI z4, su, su, su, su, su, su, su, su, su, su, su, su, su, su, su, su, su] [(.int z5)])) ?_ ?_
          · intro z5 hz5
            have bn := own_3 (x0.toUInt32 >>> ((1 : Int32) &&& 31).toUInt32).toInt32
            have br := own_3 (x0.toUInt32 >>> ((6 : Int32) &&& 31).toUInt32).toInt32
            refine Goes.on (T' := T2) (g' := (mkF m 89 #[sI x0, sJ x1, s2, sJ x2, s2, sJ x3, s2, sI z1, sR sd, sI ((x0.toUInt32 >>> ((1 : Int32) &&& 31).toUInt32).toInt32 &&& (3 : Int32)), sI z3, sI z4, sI z5, sI ((x0.toUInt32 >>> ((6 : Int32) &&& 31).toUInt32).toInt32 &&& (3 : Int32)), su, su, su, su, su, su, su, su, su, su, su, su, su, su, su] [])) (fun _ k => XS.istore X2.here hx rfl (dc at_79) rfl (l' := #[sI x0, sJ x1, s2, sJ x2, s2, sJ x3, s2, sI z1, sR sd, sI ((x0.toUInt32 >>> ((1 : Int32) &&& 31).toUInt32).toInt32 &&& (3 : Int32)), sI z3, sI z4, sI z5, su, su, su, su, su, su, su, su, su, su, su, su, su, su, su, su]) rfl (XS.iloadN X2.here hx rfl (dc at_81) rfl (XS.bipush X2.here hx rfl (dc at_82) (XS.iushr X2.here hx rfl (dc at_84) rfl (XS.iconst X2.here hx rfl (dc at_85) (XS.iand X2.here hx rfl (dc at_86) rfl (XS.istore X2.here hx rfl (dc at_87) rfl (l' := #[sI x0, sJ x1, s2, sJ x2, s2, sJ x3, s2, sI z1, sR sd, sI ((x0.toUInt32 >>> ((1 : Int32) &&& 31).toUInt32).toInt32 &&& (3 : Int32)), sI z3, sI z4, sI z5, sI ((x0.toUInt32 >>> ((6 : Int32) &&& 31).toUInt32).toInt32 &&& (3 : Int32)), su, su, su, su, su, su, su, su, su, su, su, su, su, su, su]) rfl k))))))) ?_
            generalize ((x0.toUInt32 >>> ((1 : Int32) &&& 31).toUInt32).toInt32 &&& (3 : Int32)) = nn at bn ⊢
            generalize ((x0.toUInt32 >>> ((6 : Int32) &&& 31).toUInt32).toInt32 &&& (3 : Int32)) = rv at br ⊢
            refine Goes.on (T' := T2) (g' := (mkF m 90 #[sI x0, sJ x1, s2, sJ x2, s2, sJ x3, s2, sI z1, sR sd, sI nn, sI z3, sI z4, sI z5, sI rv, su, su, su, su, su, su, su, su, su, su, su, su, su, su, su] [(.long x1)])) (fun _ k => XS.lloadN X2.here hx rfl (dc at_89) rfl k) ?_
            refine Goes.callS X2 hx hZ 0 hown (ow 3 rfl) (ow 4 rfl) (ow 5 rfl) (ow 6 rfl) (by decide) e2 (rmprice l Z a0 hw x1 h0 n0 Z0) (by decide) (by decide) (by decide) (by decide) rfl (by rw [hml]; rfl) (argsL := [(.long x1)]) (rest := []) rfl (lenOf pd_19 rfl) rfl (own_le20 rfl) (dc at_90) ?_
            rintro v6 T6 L6 X6 ⟨rfl, N6q, e6⟩
            show Goes p e below _ T6 (mkF m 93 #[sI x0, sJ x1, s2, sJ x2, s2, sJ x3, s2, sI z1, sR sd, sI nn, sI z3, sI z4, sI z5, sI rv, su, su, su, su, su, su, su, su, su, su, su, su, su, su, su] [(.long (Fprice x1))])
            refine Goes.on (T' := T6) (g' := (mkF m 96 #[sI x0, sJ x1, s2, sJ x2, s2, sJ x3, s2, sI z1, sR sd, sI nn, sI z3, sI z4, sI z5, sI rv, sJ (Fprice x1), s2, su, su, su, su, su, su, su, su, su, su, su, su, su] [(.long x2)])) (fun _ k => XS.lstore X6.here hx rfl (dc at_93) rfl (l' := #[sI x0, sJ x1, s2, sJ x2, s2, sJ x3, s2, sI z1, sR sd, sI nn, sI z3, sI z4, sI z5, sI rv, sJ (Fprice x1), s2, su, su, su, su, su, su, su, su, su, su, su, su, su]) rfl (XS.lloadN X6.here hx rfl (dc at_95) rfl k)) ?_
            refine Goes.callS X6 hx hZ 0 hown (ow 3 rfl) (ow 4 rfl) (ow 5 rfl) (ow 6 rfl) (by decide) e6 (rmprice l Z a0 hw x2 h0 n0 Z0) (by decide) (by decide) (by decide) (by decide) rfl (by rw [hml]; rfl) (argsL := [(.long x2)]) (rest := []) rfl (lenOf pd_19 rfl) rfl (own_le20 rfl) (dc at_96) ?_
            rintro v7 T7 L7 X7 ⟨rfl, N7q, e7⟩
            show Goes p e below _ T7 (mkF m 99 #[sI x0, sJ x1, s2, sJ x2, s2, sJ x3, s2, sI z1, sR sd, sI nn, sI z3, sI z4, sI z5, sI rv, sJ (Fprice x1), s2, su, su, su, su, su, su, su, su, su, su, su, su, su] [(.long (Fprice x2))])
            refine Goes.on (T' := T7) (g' := (mkF m 103 #[sI x0, sJ x1, s2, sJ x2, s2, sJ x3, s2, sI z1, sR sd, sI nn, sI z3, sI z4, sI z5, sI rv, sJ (Fprice x1), s2, sJ (Fprice x2), s2, su, su, su, su, su, su, su, su, su, su, su] [(.long x3)])) (fun _ k => XS.lstore X7.here hx rfl (dc at_99) rfl (l' := #[sI x0, sJ x1, s2, sJ x2, s2, sJ x3, s2, sI z1, sR sd, sI nn, sI z3, sI z4, sI z5, sI rv, sJ (Fprice x1), s2, sJ (Fprice x2), s2, su, su, su, su, su, su, su, su, su, su, su]) rfl (XS.lload X7.here hx rfl (dc at_101) rfl k)) ?_
            refine Goes.callS X7 hx hZ 0 hown (ow 3 rfl) (ow 4 rfl) (ow 5 rfl) (ow 6 rfl) (by decide) e7 (rmprice l Z a0 hw x3 h0 n0 Z0) (by decide) (by decide) (by decide) (by decide) rfl (by rw [hml]; rfl) (argsL := [(.long x3)]) (rest := []) rfl (lenOf pd_19 rfl) rfl (own_le20 rfl) (dc at_103) ?_
            rintro v8 T8 L8 X8 ⟨rfl, N8q, e8⟩
            have N8 := Fr.app (Fr.app (Fr.app (Fr.nil n0) N6q) N7q) N8q
            show Goes p e below _ T8 (mkF m 106 #[sI x0, sJ x1, s2, sJ x2, s2, sJ x3, s2, sI z1, sR sd, sI nn, sI z3, sI z4, sI z5, sI rv, sJ (Fprice x1), s2, sJ (Fprice x2), s2, su, su, su, su, su, su, su, su, su, su, su] [(.long (Fprice x3))])
            refine Goes.on (T' := T8) (g' := (mkF m 108 (lA x0 x1 x2 x3 z1 sd nn z3 z4 z5 rv su su su su su su su su su) [])) (fun _ k => XS.lstore X8.here hx rfl (dc at_106) rfl (l' := (lA x0 x1 x2 x3 z1 sd nn z3 z4 z5 rv su su su su su su su su su)) rfl k) ?_
            refine Goes.joinW (EL := consts_1) (Z := Z) (n0 := n0) (h1 := h0) (own := "com/example/uncross/uncross/engine/BookSideFirstPinLaw") (C := 16) (N := 140) (QJ := fun r h' => Keep h0 h' [] ∧ h0.size ≤ r ∧ Rst Z h' r .null .null .null ∧ Ord Z h' r z3 (Fprice x1)) X8 (fr := fun r0 => (mkF m 146 (lA x0 x1 x2 x3 z1 sd nn z3 z4 z5 rv su su su su su su su su su) [(.ref r0)])) ?_ ?_
            · rintro r0 vm9 T9 L9 k9 X9 hS9 hk9 hZ9 hown9 RR9 N9 ⟨K9, M9, RS9, OS9⟩
              show Goes p e below _ T9 (mkF m 146 (lA x0 x1 x2 x3 z1 sd nn z3 z4 z5 rv su su su su su su su su su) [(.ref r0)])
              have C10 := O0.keep K9 all0
              have Z11 := Nat.le_trans Z0 K9.1
              have gr0 : n0 ≤ r0 := Nat.le_trans Z0 M9
              refine Goes.on (T' := T9) (g' := (mkF m 148 (lA x0 x1 x2 x3 z1 sd nn z3 z4 z5 rv (sR r0) su su su su su su su su) [])) (fun _ k => XS.astore X9.here hx rfl (dc at_146) rfl rfl (l' := (lA x0 x1 x2 x3 z1 sd nn z3 z4 z5 rv (sR r0) su su su su su su su su)) rfl k) ?_
              refine Goes.joinW (EL := consts_1) (Z := Z) (n0 := n0) (h1 := h0) (own := "com/example/uncross/uncross/engine/BookSideFirstPinLaw") (C := 32) (N := 280) (QJ := fun r h' => Keep T9.heap h' [] ∧ T9.heap.size ≤ r ∧ Rst Z h' r .null .null .null ∧ Ord Z h' r z4 (Fprice x2)) X9 (fr := fun r1 => (mkF m 186 (lA x0 x1 x2 x3 z1 sd nn z3 z4 z5 rv (sR r0) su su su su su su su su) [(.ref r1)])) ?_ ?_
              · rintro r1 vm14 T14 L14 k14 X14 hS14 hk14 hZ14 hown14 RR14 N14 ⟨K14, M14, RS14, OS14⟩
                show Goes p e below _ T14 (mkF m 186 (lA x0 x1 x2 x3 z1 sd nn z3 z4 z5 rv (sR r0) su su su su su su su su) [(.ref r1)])
                have C15 := C10.keep K14 all0
                have Z16 := Nat.le_trans Z11 K14.1
                have RS14_r0 := RS9.keep K14 nin0
                have OS14_r0 := OS9.keep K14 nin0 (fun _ _ => nin0) (fun _ _ => nin0)
                have ne_r0_r1 : r0 ≠ r1 := Nat.ne_of_lt (Nat.lt_of_lt_of_le RS9.1.lt M14)
                have gr1 : n0 ≤ r1 := Nat.le_trans Z11 M14
                refine Goes.on (T' := T14) (g' := (mkF m 188 (lA x0 x1 x2 x3 z1 sd nn z3 z4 z5 rv (sR r0) (sR r1) su su su su su su su) [])) (fun _ k => XS.astore X14.here hx rfl (dc at_186) rfl rfl (l' := (lA x0 x1 x2 x3 z1 sd nn z3 z4 z5 rv (sR r0) (sR r1) su su su su su su su)) rfl k) ?_
                refine Goes.joinW (EL := consts_1) (Z := Z) (n0 := n0) (h1 := h0) (own := "com/example/uncross/uncross/engine/BookSideFirstPinLaw") (C := 48) (N := 420) (QJ := fun r h' => Keep T14.heap h' [] ∧ T14.heap.size ≤ r ∧ Rst Z h' r .null .null .null ∧ Ord Z h' r z5 (Fprice x3)) X14 (fr := fun r2 => (mkF m 228 (lA x0 x1 x2 x3 z1 sd nn z3 z4 z5 rv (sR r0) (sR r1) su su su su su su su) [(.ref r2)])) ?_ ?_
                · rintro r2 vm19 T19 L19 k19 X19 hS19 hk19 hZ19 hown19 RR19 N19 ⟨K19, M19, RS19, OS19⟩
                  show Goes p e below _ T19 (mkF m 228 (lA x0 x1 x2 x3 z1 sd nn z3 z4 z5 rv (sR r0) (sR r1) su su su su su su su) [(.ref r2)])
                  have Z21 := Nat.le_trans Z16 K19.1
                  have RS19_r0 := RS14_r0.keep K19 nin0
                  have OS19_r0 := OS14_r0.keep K19 nin0 (fun _ _ => nin0) (fun _ _ => nin0)
                  have ne_r0_r2 : r0 ≠ r2 := Nat.ne_of_lt (Nat.lt_of_lt_of_le RS14_r0.1.lt M19)
                  have RS19_r1 := RS14.keep K19 nin0
                  have OS19_r1 := OS14.keep K19 nin0 (fun _ _ => nin0) (fun _ _ => nin0)
                  have ne_r1_r2 : r1 ≠ r2 := Nat.ne_of_lt (Nat.lt_of_lt_of_le RS14.1.lt M19)
                  have gr2 : n0 ≤ r2 := Nat.le_trans Z16 M19
                  have KB := Keep.refl T19.heap ([] : List Addr)
                  obtain ⟨T24, h24, X24, e24, E24, A24, D24, U24, st24⟩ := newO X19 hx hZ19 hown19 (ow 165 rfl) (ow 166 rfl) (ow 167 rfl) rfl (g := (mkF m 230 (lA x0 x1 x2 x3 z1 sd nn z3 z4 z5 rv (sR r0) (sR r1) (sR r2) su su su su su su) [])) rfl (dc at_230) (by decide) (by decide)
                  obtain ⟨a24, g24⟩ : ∃ z, z = T19.heap.size := ⟨_, rfl⟩
                  rw [← g24] at A24 D24 U24 st24
                  have M24 : T19.heap.size ≤ a24 := Nat.le_trans KB.1 (Nat.le_of_eq g24.symm)
                  have C25 := (C15.keep K19 all0).ext E24
                  have Z29 := Nat.le_trans Z21 E24.1
                  have Z30 := Nat.le_trans hk19 E24.1
                  have RR32 := RR19.trans (CHr.ext E24 RR19.1)
                  have K33 := KB.ext E24
                  have F34 : Fld Z h24 a24 "com/example/uncross/uncross/engine/BookSide" "levels" "[Lcom/example/uncross/uncross/engine/BookSide$Level;" .null := D24 (Or.inl (ow 185 rfl)) (ty := (.array (.object "com/example/uncross/uncross/engine/BookSide$Level"))) (by decide)
                  have F35 : Fld Z h24 a24 "com/example/uncross/uncross/engine/BookSide" "keys" "[J" .null := D24 (Or.inl (ow 188 rfl)) (ty := (.array .long)) (by decide)
                  have F36 : Fld Z h24 a24 "com/example/uncross/uncross/engine/BookSide" "levelCount" "I" (.int 0) := D24 (Or.inl (ow 190 rfl)) (ty := .int) (by decide)
                  have F37 : Fld Z h24 a24 "com/example/uncross/uncross/engine/BookSide" "emptyLevels" "I" (.int 0) := D24 (Or.inl (ow 303 rfl)) (ty := .int) (by decide)
                  have F38 : Fld Z h24 a24 "com/example/uncross/uncross/engine/BookSide" "markets" "Lcom/example/uncross/uncross/engine/BookSide$Level;" .null := D24 (Or.inr (ow 182 rfl)) (ty := (.object "com/example/uncross/uncross/engine/BookSide$Level")) (by decide)
                  have F39 : Fld Z h24 a24 "com/example/uncross/uncross/engine/BookSide" "deep" "Ljava/util/TreeMap;" .null := D24 (Or.inr (ow 211 rfl)) (ty := (.object "java/util/TreeMap")) (by decide)
                  have F40 : Fld Z h24 a24 "com/example/uncross/uncross/engine/BookSide" "buying" "Z" (.int 0) := D24 (Or.inr (ow 215 rfl)) (ty := .boolean) (by decide)
                  have G24 : n0 ≤ a24 := Nat.le_trans Z21 (Nat.le_of_eq g24.symm)
                  have nSB : k0 ≠ k1 := Fld.ne FZ4 FZ5 (fun q => absurd (Value.int.inj q) (by decide))
                  have hzb : (z1 = 1 ∧ sd = k1) ∨ (z1 = 0 ∧ sd ≠ k1) := hsd.imp id (fun q => ⟨q.1, by rw [q.2]; exact nSB⟩)
                  refine Goes.on (T' := T24) (g' := (mkF m 236 (lA x0 x1 x2 x3 z1 sd nn z3 z4 z5 rv (sR r0) (sR r1) (sR r2) su su su su su su) [(.ref sd), (.ref a24), (.ref a24)])) (fun _ k => XS.astore X19.here hx rfl (dc at_228) rfl rfl (l' := (lA x0 x1 x2 x3 z1 sd nn z3 z4 z5 rv (sR r0) (sR r1) (sR r2) su su su su su su)) rfl (st24 _ (XS.dup X24.here hx rfl (dc at_233) rfl rfl (XS.aload X24.here hx rfl (dc at_234) rfl rfl k)))) ?_
                  refine Goes.callC X24 hx hZ19 1 rfl hown19 (ow 168 rfl) (ow 169 rfl) (ow 167 rfl) (ow 170 rfl) (by decide) e24 (rmBi l Z a0 hw a24 sd k1 z1 h24 n0 Z29 C25 ST_k1 A24 F34 F35 F36 F37 F38 F39 F40 G24 hzb) (by decide) (by decide) (by decide) (by decide) rfl (by rw [hml]; rfl) (a := a24) (argsL := [(.ref sd)]) (rest := [(.ref a24)]) rfl (lenOf pd_23 rfl) rfl (own_le20 rfl) (dc at_236) ?_
                  rintro v41 T41 L41 X41 ⟨ya41, yb41, yc41, yd41, ye41, rfl, N41q, K41, P41_0, P41_1, P41_2, P41_3, P41_4, P41_5, P41_6, P41_7, P41_8, P41_9, P41_10, P41_11, P41_12, P41_13, P41_14, P41_15, P41_16, P41_17, P41_18, P41_19, P41_20, M41_0, M41_1, M41_2, M41_3, M41_4, D41_0, D41_1, D41_2, D41_3, D41_4, D41_5, D41_6, D41_7, D41_8, D41_9⟩
                  have N41 := Fr.app N19 N41q
                  show Goes p e below _ T41 (mkF m 239 (lA x0 x1 x2 x3 z1 sd nn z3 z4 z5 rv (sR r0) (sR r1) (sR r2) su su su su su su) [(.ref a24)])
                  have G46 : n0 ≤ ya41 := Nat.le_trans Z29 M41_0
                  have G52 : n0 ≤ yb41 := Nat.le_trans Z29 M41_1
                  have G58 : n0 ≤ yc41 := Nat.le_trans Z29 M41_2
                  have Z74 := Nat.le_trans Z29 K41.1
                  have Z75 := Nat.le_trans Z30 K41.1
                  have RR77 := RR32.trans (CHr.keep K41 (allS (Safe.exa hZ19.alike A24 (by decide) (by decide)) all0) RR32.1)
                  have K78 := K33.trans K41 (allS (Or.inr M24) all0)
                  have RB0 := RS19_r0.keep K78 nin0
                  have OB0 := OS19_r0.keep K78 nin0 (fun _ _ => nin0) (fun _ _ => nin0)
                  have RB1 := RS19_r1.keep K78 nin0
                  have OB1 := OS19_r1.keep K78 nin0 (fun _ _ => nin0) (fun _ _ => nin0)
                  have RB2 := RS19.keep K78 nin0
                  have OB2 := OS19.keep K78 nin0 (fun _ _ => nin0) (fun _ _ => nin0)
                  have BK0 : BK Z T41.heap n0 a24 ya41 yb41 yc41 yd41 ye41 z1 [(r0, z3, (Fprice x1)), (r1, z4, (Fprice x2)), (r2, z5, (Fprice x3))] [] [] := ⟨(1 : Int32), _, _, ⟨P41_0, P41_7, P41_3, P41_6, P41_1, P41_2, P41_5, P41_4, P41_15, P41_16, P41_12, P41_14, P41_13⟩, rfl, rfl, rfl, trivial, trivial, ⟨P41_17, P41_20, P41_18, P41_19⟩, ⟨⟨P41_8, P41_11, P41_9, P41_10⟩, trivial⟩, trivial, ⟨RB0, OB0, RB1, OB1, RB2, OB2, trivial⟩, (by simp; exact D41_3), (by simp [ownAll]; exact ⟨⟨ne_r0_r1, ne_r0_r2⟩, ne_r1_r2⟩), rfl, G24, G52, G58, G46, (fun q hq => by cases hq), (fun y hy => by simp [ownAll] at hy; rcases hy with rfl | rfl | rfl; exact gr0; exact gr1; exact gr2)⟩
                  refine Goes.on (T' := T41) (g' := (mkF m 241 (lA x0 x1 x2 x3 z1 sd nn z3 z4 z5 rv (sR r0) (sR r1) (sR r2) (sR a24) su su su su su) [])) (fun _ k => XS.astore X41.here hx rfl (dc at_239) rfl rfl (l' := (lA x0 x1 x2 x3 z1 sd nn z3 z4 z5 rv (sR r0) (sR r1) (sR r2) (sR a24) su su su su su)) rfl k) ?_
                  rcases bn with rfl | rfl | rfl | rfl
                  · rcases br with rfl | rfl | rfl | rfl
                    · refine Goes.on (T' := T41) (g' := (mkF m 377 (lA x0 x1 x2 x3 z1 sd 0 z3 z4 z5 0 (sR r0) (sR r1) (sR r2) (sR a24) (sI 0) (sI 0) su su su) [(.int 0)])) (fun _ k => XS.iload X41.here hx rfl (dc at_241) rfl (XS.ifYes X41.here hx rfl (pc0 := 243) (pc' := 253) rfl (dc at_243) rfl (XT.i0_le_t (by decide)) (by decide) (by decide) (XS.iload X41.here hx rfl (dc at_253) rfl (XS.iconst X41.here hx rfl (dc at_255) (XS.icmpYes X41.here hx rfl (pc0 := 256) (pc' := 266) rfl (dc at_256) rfl (XT.ii_le_t (by decide)) (by decide) (by decide) (XS.iload X41.here hx rfl (dc at_266) rfl (XS.iconst X41.here hx rfl (dc at_268) (XS.icmpYes X41.here hx rfl (pc0 := 269) (pc' := 279) rfl (dc at_269) rfl (XT.ii_le_t (by decide)) (by decide) (by decide) (XS.iload X41.here hx rfl (dc at_279) rfl (XS.iload X41.here hx rfl (dc at_281) rfl (XS.icmpYes X41.here hx rfl (pc0 := 283) (pc' := 324) rfl (dc at_283) rfl (XT.ii_ge_t (by decide)) (by decide) (by decide) (XS.iload X41.here hx rfl (dc at_324) rfl (XS.ifYes X41.here hx rfl (pc0 := 326) (pc' := 338) rfl (dc at_326) rfl (XT.i0_le_t (by decide)) (by decide) (by decide) (XS.iconst X41.here hx rfl (dc at_338) (XS.istore X41.here hx rfl (dc at_339) rfl (l' := (lA x0 x1 x2 x3 z1 sd 0 z3 z4 z5 0 (sR r0) (sR r1) (sR r2) (sR a24) (sI 0) su su su su)) rfl (XS.iload X41.here hx rfl (dc at_341) rfl (XS.iconst X41.here hx rfl (dc at_343) (XS.icmpYes X41.here hx rfl (pc0 := 344) (pc' := 357) rfl (dc at_344) rfl (XT.ii_le_t (by decide)) (by decide) (by decide) (XS.iconst X41.here hx rfl (dc at_357) (XS.istore X41.here hx rfl (dc at_358) rfl (l' := (lA x0 x1 x2 x3 z1 sd 0 z3 z4 z5 0 (sR r0) (sR r1) (sR r2) (sR a24) (sI 0) (sI 0) su su su)) rfl (XS.iload X41.here hx rfl (dc at_360) rfl (XS.iconst X41.here hx rfl (dc at_362) (XS.icmpYes X41.here hx rfl (pc0 := 363) (pc' := 376) rfl (dc at_363) rfl (XT.ii_le_t (by decide)) (by decide) (by decide) (XS.iconst X41.here hx rfl (dc at_376) k)))))))))))))))))))))))) ?_
                      have FF79 : FB Z T41.heap a24 .null := bk_fb (by decide) BK0
                      refine Goes.on (T' := T41) (g' := (mkF m 515 (lA x0 x1 x2 x3 z1 sd 0 z3 z4 z5 0 (sR r0) (sR r1) (sR r2) (sR a24) (sI 0) (sI 0) (sI 0) (sI (-1 : Int32)) sN) [(.ref a24)])) (fun _ k => XS.istore X41.here hx rfl (dc at_377) rfl (l' := (lA x0 x1 x2 x3 z1 sd 0 z3 z4 z5 0 (sR r0) (sR r1) (sR r2) (sR a24) (sI 0) (sI 0) (sI 0) su su)) rfl (XS.iconst X41.here hx rfl (dc at_379) (XS.istore X41.here hx rfl (dc at_380) rfl (l' := (lA x0 x1 x2 x3 z1 sd 0 z3 z4 z5 0 (sR r0) (sR r1) (sR r2) (sR a24) (sI 0) (sI 0) (sI 0) (sI (-1 : Int32)) su)) rfl (XS.iload X41.here hx rfl (dc at_382) rfl (XS.ifYes X41.here hx rfl (pc0 := 384) (pc' := 390) rfl (dc at_384) rfl (XT.i0_eq_t (by decide)) (by decide) (by decide) (XS.iload X41.here hx rfl (dc at_390) rfl (XS.ifYes X41.here hx rfl (pc0 := 392) (pc' := 419) rfl (dc at_392) rfl (XT.i0_eq_t (by decide)) (by decide) (by decide) (XS.iload X41.here hx rfl (dc at_419) rfl (XS.ifYes X41.here hx rfl (pc0 := 421) (pc' := 478) rfl (dc at_421) rfl (XT.i0_eq_t (by decide)) (by decide) (by decide) (XS.iload X41.here hx rfl (dc at_478) rfl (XS.ifYes X41.here hx rfl (pc0 := 480) (pc' := 488) rfl (dc at_480) rfl (XT.i0_ne_t (by decide)) (by decide) (by decide) (XS.iload X41.here hx rfl (dc at_488) rfl (XS.iconst X41.here hx rfl (dc at_490) (XS.icmpYes X41.here hx rfl (pc0 := 491) (pc' := 499) rfl (dc at_491) rfl (XT.ii_ne_t (by decide)) (by decide) (by decide) (XS.iload X41.here hx rfl (dc at_499) rfl (XS.iconst X41.here hx rfl (dc at_501) (XS.icmpYes X41.here hx rfl (pc0 := 502) (pc' := 510) rfl (dc at_502) rfl (XT.ii_ne_t (by decide)) (by decide) (by decide) (XS.aconstNull X41.here hx rfl (dc at_510) (XS.astore X41.here hx rfl (dc at_511) rfl rfl (l' := (lA x0 x1 x2 x3 z1 sd 0 z3 z4 z5 0 (sR r0) (sR r1) (sR r2) (sR a24) (sI 0) (sI 0) (sI 0) (sI (-1 : Int32)) sN)) rfl (XS.aload X41.here hx rfl (dc at_513) rfl rfl k)))))))))))))))))))) ?_
                      refine Goes.callV X41 hx hZ19 0 hown19 (ow 218 rfl) (ow 219 rfl) (notFace_of_selects (args := #[]) (mvT hZ19 (ow 221 rfl))) (ow 221 rfl) (ow 220 rfl) (ow 167 rfl) (ow 222 rfl) (by decide) rfl (fb_exa FF79) (rmFst l Z a0 hw T41.heap Z74 FF79) (by decide) (by decide) (by decide) (by decide) rfl (by rw [hml]; rfl) (argsL := []) (rest := []) rfl (lenOf pd_24 rfl) rfl (own_le20 rfl) (dc at_515) ?_
                      rintro v80 T80 L80 X80 ⟨rfl, N80q, e80⟩
                      have N80 := Fr.app N41 N80q
                      show Goes p e below _ T80 (mkF m 518 (lA x0 x1 x2 x3 z1 sd 0 z3 z4 z5 0 (sR r0) (sR r1) (sR r2) (sR a24) (sI 0) (sI 0) (sI 0) (sI (-1 : Int32)) sN) [.null])
                      refine Goes.on (T' := T80) (g' := (mkF m 528 (lA x0 x1 x2 x3 z1 sd 0 z3 z4 z5 0 (sR r0) (sR r1) (sR r2) (sR a24) (sI 0) (sI 0) (sI 0) (sI (-1 : Int32)) sN) [(.int 1)])) (fun _ k => XS.aload X80.here hx rfl (dc at_518) rfl rfl (XT.acmpNo X80.here hx rfl (dc at_520) rfl rfl rfl (XT.aa_ne_f rfl) (XS.iconst X80.here hx rfl (dc at_523) (XS.goto X80.here hx rfl (pc0 := 524) (pc' := 528) rfl (dc at_524) (by decide) (by decide) k)))) ?_
                      exact Goes.retBW X80 hS19 (by rw [e80]; exact Z75) hZ19 hEL (by rw [e80]; exact RR77) hx hlk hret (Or.inr rfl) (dc at_528) (by decide) (by decide) ⟨rfl, N80⟩
                    · refine Goes.on (T' := T41) (g' := (mkF m 377 (lA x0 x1 x2 x3 z1 sd 0 z3 z4 z5 1 (sR r0) (sR r1) (sR r2) (sR a24) (sI 0) (sI 0) su su su) [(.int 0)])) (fun _ k => XS.iload X41.here hx rfl (dc at_241) rfl (XS.ifYes X41.here hx rfl (pc0 := 243) (pc' := 253) rfl (dc at_243) rfl (XT.i0_le_t (by decide)) (by decide) (by decide) (XS.iload X41.here hx rfl (dc at_253) rfl (XS.iconst X41.here hx rfl (dc at_255) (XS.icmpYes X41.here hx rfl (pc0 := 256) (pc' := 266) rfl (dc at_256) rfl (XT.ii_le_t (by decide)) (by decide) (by decide) (XS.iload X41.here hx rfl (dc at_266) rfl (XS.iconst X41.here hx rfl (dc at_268) (XS.icmpYes X41.here hx rfl (pc0 := 269) (pc' := 279) rfl (dc at_269) rfl (XT.ii_le_t (by decide)) (by decide) (by decide) (XS.iload X41.here hx rfl (dc at_279) rfl (XS.iload X41.here hx rfl (dc at_281) rfl (XS.icmpYes X41.here hx rfl (pc0 := 283) (pc' := 324) rfl (dc at_283) rfl (XT.ii_ge_t (by decide)) (by decide) (by decide) (XS.iload X41.here hx rfl (dc at_324) rfl (XS.ifYes X41.here hx rfl (pc0 := 326) (pc' := 338) rfl (dc at_326) rfl (XT.i0_le_t (by decide)) (by decide) (by decide) (XS.iconst X41.here hx rfl (dc at_338) (XS.istore X41.here hx rfl (dc at_339) rfl (l' := (lA x0 x1 x2 x3 z1 sd 0 z3 z4 z5 1 (sR r0) (sR r1) (sR r2) (sR a24) (sI 0) su su su su)) rfl (XS.iload X41.here hx rfl (dc at_341) rfl (XS.iconst X41.here hx rfl (dc at_343) (XS.icmpYes X41.here hx rfl (pc0 := 344) (pc' := 357) rfl (dc at_344) rfl (XT.ii_le_t (by decide)) (by decide) (by decide) (XS.iconst X41.here hx rfl (dc at_357) (XS.istore X41.here hx rfl (dc at_358) rfl (l' := (lA x0 x1 x2 x3 z1 sd 0 z3 z4 z5 1 (sR r0) (sR r1) (sR r2) (sR a24) (sI 0) (sI 0) su su su)) rfl (XS.iload X41.here hx rfl (dc at_360) rfl (XS.iconst X41.here hx rfl (dc at_362) (XS.icmpYes X41.here hx rfl (pc0 := 363) (pc' := 376) rfl (dc at_363) rfl (XT.ii_le_t (by decide)) (by decide) (by decide) (XS.iconst X41.here hx rfl (dc at_376) k)))))))))))))))))))))))) ?_
                      have FF81 : FB Z T41.heap a24 .null := bk_fb (by decide) BK0
                      refine Goes.on (T' := T41) (g' := (mkF m 515 (lA x0 x1 x2 x3 z1 sd 0 z3 z4 z5 1 (sR r0) (sR r1) (sR r2) (sR a24) (sI 0) (sI 0) (sI 0) (sI (-1 : Int32)) sN) [(.ref a24)])) (fun _ k => XS.istore X41.here hx rfl (dc at_377) rfl (l' := (lA x0 x1 x2 x3 z1 sd 0 z3 z4 z5 1 (sR r0) (sR r1) (sR r2) (sR a24) (sI 0) (sI 0) (sI 0) su su)) rfl (XS.iconst X41.here hx rfl (dc at_379) (XS.istore X41.here hx rfl (dc at_380) rfl (l' := (lA x0 x1 x2 x3 z1 sd 0 z3 z4 z5 1 (sR r0) (sR r1) (sR r2) (sR a24) (sI 0) (sI 0) (sI 0) (sI (-1 : Int32)) su)) rfl (XS.iload X41.here hx rfl (dc at_382) rfl (XS.ifYes X41.here hx rfl (pc0 := 384) (pc' := 390) rfl (dc at_384) rfl (XT.i0_eq_t (by decide)) (by decide) (by decide) (XS.iload X41.here hx rfl (dc at_390) rfl (XS.ifYes X41.here hx rfl (pc0 := 392) (pc' := 419) rfl (dc at_392) rfl (XT.i0_eq_t (by decide)) (by decide) (by decide) (XS.iload X41.here hx rfl (dc at_419) rfl (XS.ifYes X41.here hx rfl (pc0 := 421) (pc' := 478) rfl (dc at_421) rfl (XT.i0_eq_t (by decide)) (by decide) (by decide) (XS.iload X41.here hx rfl (dc at_478) rfl (XS.ifYes X41.here hx rfl (pc0 := 480) (pc' := 488) rfl (dc at_480) rfl (XT.i0_ne_t (by decide)) (by decide) (by decide) (XS.iload X41.here hx rfl (dc at_488) rfl (XS.iconst X41.here hx rfl (dc at_490) (XS.icmpYes X41.here hx rfl (pc0 := 491) (pc' := 499) rfl (dc at_491) rfl (XT.ii_ne_t (by decide)) (by decide) (by decide) (XS.iload X41.here hx rfl (dc at_499) rfl (XS.iconst X41.here hx rfl (dc at_501) (XS.icmpYes X41.here hx rfl (pc0 := 502) (pc' := 510) rfl (dc at_502) rfl (XT.ii_ne_t (by decide)) (by decide) (by decide) (XS.aconstNull X41.here hx rfl (dc at_510) (XS.astore X41.here hx rfl (dc at_511) rfl rfl (l' := (lA x0 x1 x2 x3 z1 sd 0 z3 z4 z5 1 (sR r0) (sR r1) (sR r2) (sR a24) (sI 0) (sI 0) (sI 0) (sI (-1 : Int32)) sN)) rfl (XS.aload X41.here hx rfl (dc at_513) rfl rfl k)))))))))))))))))))) ?_
                      refine Goes.callV X41 hx hZ19 0 hown19 (ow 218 rfl) (ow 219 rfl) (notFace_of_selects (args := #[]) (mvT hZ19 (ow 221 rfl))) (ow 221 rfl) (ow 220 rfl) (ow 167 rfl) (ow 222 rfl) (by decide) rfl (fb_exa FF81) (rmFst l Z a0 hw T41.heap Z74 FF81) (by decide) (by decide) (by decide) (by decide) rfl (by rw [hml]; rfl) (argsL := []) (rest := []) rfl (lenOf pd_24 rfl) rfl (own_le20 rfl) (dc at_515) ?_
                      rintro v82 T82 L82 X82 ⟨rfl, N82q, e82⟩
                      have N82 := Fr.app N41 N82q
                      show Goes p e below _ T82 (mkF m 518 (lA x0 x1 x2 x3 z1 sd 0 z3 z4 z5 1 (sR r0) (sR r1) (sR r2) (sR a24) (sI 0) (sI 0) (sI 0) (sI (-1 : Int32)) sN) [.null])
                      refine Goes.on (T' := T82) (g' := (mkF m 528 (lA x0 x1 x2 x3 z1 sd 0 z3 z4 z5 1 (sR r0) (sR r1) (sR r2) (sR a24) (sI 0) (sI 0) (sI 0) (sI (-1 : Int32)) sN) [(.int 1)])) (fun _ k => XS.aload X82.here hx rfl (dc at_518) rfl rfl (XT.acmpNo X82.here hx rfl (dc at_520) rfl rfl rfl (XT.aa_ne_f rfl) (XS.iconst X82.here hx rfl (dc at_523) (XS.goto X82.here hx rfl (pc0 := 524) (pc' := 528) rfl (dc at_524) (by decide) (by decide) k)))) ?_
                      exact Goes.retBW X82 hS19 (by rw [e82]; exact Z75) hZ19 hEL (by rw [e82]; exact RR77) hx hlk hret (Or.inr rfl) (dc at_528) (by decide) (by decide) ⟨rfl, N82⟩
                    · refine Goes.on (T' := T41) (g' := (mkF m 377 (lA x0 x1 x2 x3 z1 sd 0 z3 z4 z5 2 (sR r0) (sR r1) (sR r2) (sR a24) (sI 0) (sI 0) su su su) [(.int 0)])) (fun _ k => XS.iload X41.here hx rfl (dc at_241) rfl (XS.ifYes X41.here hx rfl (pc0 := 243) (pc' := 253) rfl (dc at_243) rfl (XT.i0_le_t (by decide)) (by decide) (by decide) (XS.iload X41.here hx rfl (dc at_253) rfl (XS.iconst X41.here hx rfl (dc at_255) (XS.icmpYes X41.here hx rfl (pc0 := 256) (pc' := 266) rfl (dc at_256) rfl (XT.ii_le_t (by decide)) (by decide) (by decide) (XS.iload X41.here hx rfl (dc at_266) rfl (XS.iconst X41.here hx rfl (dc at_268) (XS.icmpYes X41.here hx rfl (pc0 := 269) (pc' := 279) rfl (dc at_269) rfl (XT.ii_le_t (by decide)) (by decide) (by decide) (XS.iload X41.here hx rfl (dc at_279) rfl (XS.iload X41.here hx rfl (dc at_281) rfl (XS.icmpYes X41.here hx rfl (pc0 := 283) (pc' := 324) rfl (dc at_283) rfl (XT.ii_ge_t (by decide)) (by decide) (by decide) (XS.iload X41.here hx rfl (dc at_324) rfl (XS.ifYes X41.here hx rfl (pc0 := 326) (pc' := 338) rfl (dc at_326) rfl (XT.i0_le_t (by decide)) (by decide) (by decide) (XS.iconst X41.here hx rfl (dc at_338) (XS.istore X41.here hx rfl (dc at_339) rfl (l' := (lA x0 x1 x2 x3 z1 sd 0 z3 z4 z5 2 (sR r0) (sR r1) (sR r2) (sR a24) (sI 0) su su su su)) rfl (XS.iload X41.here hx rfl (dc at_341) rfl (XS.iconst X41.here hx rfl (dc at_343) (XS.icmpYes X41.here hx rfl (pc0 := 344) (pc' := 357) rfl (dc at_344) rfl (XT.ii_le_t (by decide)) (by decide) (by decide) (XS.iconst X41.here hx rfl (dc at_357) (XS.istore X41.here hx rfl (dc at_358) rfl (l' := (lA x0 x1 x2 x3 z1 sd 0 z3 z4 z5 2 (sR r0) (sR r1) (sR r2) (sR a24) (sI 0) (sI 0) su su su)) rfl (XS.iload X41.here hx rfl (dc at_360) rfl (XS.iconst X41.here hx rfl (dc at_362) (XS.icmpYes X41.here hx rfl (pc0 := 363) (pc' := 376) rfl (dc at_363) rfl (XT.ii_le_t (by decide)) (by decide) (by decide) (XS.iconst X41.here hx rfl (dc at_376) k)))))))))))))))))))))))) ?_
                      have FF83 : FB Z T41.heap a24 .null := bk_fb (by decide) BK0
                      refine Goes.on (T' := T41) (g' := (mkF m 515 (lA x0 x1 x2 x3 z1 sd 0 z3 z4 z5 2 (sR r0) (sR r1) (sR r2) (sR a24) (sI 0) (sI 0) (sI 0) (sI (-1 : Int32)) sN) [(.ref a24)])) (fun _ k => XS.istore X41.here hx rfl (dc at_377) rfl (l' := (lA x0 x1 x2 x3 z1 sd 0 z3 z4 z5 2 (sR r0) (sR r1) (sR r2) (sR a24) (sI 0) (sI 0) (sI 0) su su)) rfl (XS.iconst X41.here hx rfl (dc at_379) (XS.istore X41.here hx rfl (dc at_380) rfl (l' := (lA x0 x1 x2 x3 z1 sd 0 z3 z4 z5 2 (sR r0) (sR r1) (sR r2) (sR a24) (sI 0) (sI 0) (sI 0) (sI (-1 : Int32)) su)) rfl (XS.iload X41.here hx rfl (dc at_382) rfl (XS.ifYes X41.here hx rfl (pc0 := 384) (pc' := 390) rfl (dc at_384) rfl (XT.i0_eq_t (by decide)) (by decide) (by decide) (XS.iload X41.here hx rfl (dc at_390) rfl (XS.ifYes X41.here hx rfl (pc0 := 392) (pc' := 419) rfl (dc at_392) rfl (XT.i0_eq_t (by decide)) (by decide) (by decide) (XS.iload X41.here hx rfl (dc at_419) rfl (XS.ifYes X41.here hx rfl (pc0 := 421) (pc' := 478) rfl (dc at_421) rfl (XT.i0_eq_t (by decide)) (by decide) (by decide) (XS.iload X41.here hx rfl (dc at_478) rfl (XS.ifYes X41.here hx rfl (pc0 := 480) (pc' := 488) rfl (dc at_480) rfl (XT.i0_ne_t (by decide)) (by decide) (by decide) (XS.iload X41.here hx rfl (dc at_488) rfl (XS.iconst X41.here hx rfl (dc at_490) (XS.icmpYes X41.here hx rfl (pc0 := 491) (pc' := 499) rfl (dc at_491) rfl (XT.ii_ne_t (by decide)) (by decide) (by decide) (XS.iload X41.here hx rfl (dc at_499) rfl (XS.iconst X41.here hx rfl (dc at_501) (XS.icmpYes X41.here hx rfl (pc0 := 502) (pc' := 510) rfl (dc at_502) rfl (XT.ii_ne_t (by decide)) (by decide) (by decide) (XS.aconstNull X41.here hx rfl (dc at_510) (XS.astore X41.here hx rfl (dc at_511) rfl rfl (l' := (lA x0 x1 x2 x3 z1 sd 0 z3 z4 z5 2 (sR r0) (sR r1) (sR r2) (sR a24) (sI 0) (sI 0) (sI 0) (sI (-1 : Int32)) sN)) rfl (XS.aload X41.here hx rfl (dc at_513) rfl rfl k)))))))))))))))))))) ?_
                      refine Goes.callV X41 hx hZ19 0 hown19 (ow 218 rfl) (ow 219 rfl) (notFace_of_selects (args := #[]) (mvT hZ19 (ow 221 rfl))) (ow 221 rfl) (ow 220 rfl) (ow 167 rfl) (ow 222 rfl) (by decide) rfl (fb_exa FF83) (rmFst l Z a0 hw T41.heap Z74 FF83) (by decide) (by decide) (by decide) (by decide) rfl (by rw [hml]; rfl) (argsL := []) (rest := []) rfl (lenOf pd_24 rfl) rfl (own_le20 rfl) (dc at_515) ?_
                      rintro v84 T84 L84 X84 ⟨rfl, N84q, e84⟩
                      have N84 := Fr.app N41 N84q
                      show Goes p e below _ T84 (mkF m 518 (lA x0 x1 x2 x3 z1 sd 0 z3 z4 z5 2 (sR r0) (sR r1) (sR r2) (sR a24) (sI 0) (sI 0) (sI 0) (sI (-1 : Int32)) sN) [.null])
                      refine Goes.on (T' := T84) (g' := (mkF m 528 (lA x0 x1 x2 x3 z1 sd 0 z3 z4 z5 2 (sR r0) (sR r1) (sR r2) (sR a24) (sI 0) (sI 0) (sI 0) (sI (-1 : Int32)) sN) [(.int 1)])) (fun _ k => XS.aload X84.here hx rfl (dc at_518) rfl rfl (XT.acmpNo X84.here hx rfl (dc at_520) rfl rfl rfl (XT.aa_ne_f rfl) (XS.iconst X84.here hx rfl (dc at_523) (XS.goto X84.here hx rfl (pc0 := 524) (pc' := 528) rfl (dc at_524) (by decide) (by decide) k)))) ?_
                      exact Goes.retBW X84 hS19 (by rw [e84]; exact Z75) hZ19 hEL (by rw [e84]; exact RR77) hx hlk hret (Or.inr rfl) (dc at_528) (by decide) (by decide) ⟨rfl, N84⟩
                    · refine Goes.on (T' := T41) (g' := (mkF m 377 (lA x0 x1 x2 x3 z1 sd 0 z3 z4 z5 3 (sR r0) (sR r1) (sR r2) (sR a24) (sI 0) (sI 0) su su su) [(.int 0)])) (fun _ k => XS.iload X41.here hx rfl (dc at_241) rfl (XS.ifYes X41.here hx rfl (pc0 := 243) (pc' := 253) rfl (dc at_243) rfl (XT.i0_le_t (by decide)) (by decide) (by decide) (XS.iload X41.here hx rfl (dc at_253) rfl (XS.iconst X41.here hx rfl (dc at_255) (XS.icmpYes X41.here hx rfl (pc0 := 256) (pc' := 266) rfl (dc at_256) rfl (XT.ii_le_t (by decide)) (by decide) (by decide) (XS.iload X41.here hx rfl (dc at_266) rfl (XS.iconst X41.here hx rfl (dc at_268) (XS.icmpYes X41.here hx rfl (pc0 := 269) (pc' := 279) rfl (dc at_269) rfl (XT.ii_le_t (by decide)) (by decide) (by decide) (XS.iload X41.here hx rfl (dc at_279) rfl (XS.iload X41.here hx rfl (dc at_281) rfl (XS.icmpYes X41.here hx rfl (pc0 := 283) (pc' := 324) rfl (dc at_283) rfl (XT.ii_ge_t (by decide)) (by decide) (by decide) (XS.iload X41.here hx rfl (dc at_324) rfl (XS.ifYes X41.here hx rfl (pc0 := 326) (pc' := 338) rfl (dc at_326) rfl (XT.i0_le_t (by decide)) (by decide) (by decide) (XS.iconst X41.here hx rfl (dc at_338) (XS.istore X41.here hx rfl (dc at_339) rfl (l' := (lA x0 x1 x2 x3 z1 sd 0 z3 z4 z5 3 (sR r0) (sR r1) (sR r2) (sR a24) (sI 0) su su su su)) rfl (XS.iload X41.here hx rfl (dc at_341) rfl (XS.iconst X41.here hx rfl (dc at_343) (XS.icmpYes X41.here hx rfl (pc0 := 344) (pc' := 357) rfl (dc at_344) rfl (XT.ii_le_t (by decide)) (by decide) (by decide) (XS.iconst X41.here hx rfl (dc at_357) (XS.istore X41.here hx rfl (dc at_358) rfl (l' := (lA x0 x1 x2 x3 z1 sd 0 z3 z4 z5 3 (sR r0) (sR r1) (sR r2) (sR a24) (sI 0) (sI 0) su su su)) rfl (XS.iload X41.here hx rfl (dc at_360) rfl (XS.iconst X41.here hx rfl (dc at_362) (XS.icmpYes X41.here hx rfl (pc0 := 363) (pc' := 376) rfl (dc at_363) rfl (XT.ii_le_t (by decide)) (by decide) (by decide) (XS.iconst X41.here hx rfl (dc at_376) k)))))))))))))))))))))))) ?_
                      have FF85 : FB Z T41.heap a24 .null := bk_fb (by decide) BK0
                      refine Goes.on (T' := T41) (g' := (mkF m 515 (lA x0 x1 x2 x3 z1 sd 0 z3 z4 z5 3 (sR r0) (sR r1) (sR r2) (sR a24) (sI 0) (sI 0) (sI 0) (sI (-1 : Int32)) sN) [(.ref a24)])) (fun _ k => XS.istore X41.here hx rfl (dc at_377) rfl (l' := (lA x0 x1 x2 x3 z1 sd 0 z3 z4 z5 3 (sR r0) (sR r1) (sR r2) (sR a24) (sI 0) (sI 0) (sI 0) su su)) rfl (XS.iconst X41.here hx rfl (dc at_379) (XS.istore X41.here hx rfl (dc at_380) rfl (l' := (lA x0 x1 x2 x3 z1 sd 0 z3 z4 z5 3 (sR r0) (sR r1) (sR r2) (sR a24) (sI 0) (sI 0) (sI 0) (sI (-1 : Int32)) su)) rfl (XS.iload X41.here hx rfl (dc at_382) rfl (XS.ifYes X41.here hx rfl (pc0 := 384) (pc' := 390) rfl (dc at_384) rfl (XT.i0_eq_t (by decide)) (by decide) (by decide) (XS.iload X41.here hx rfl (dc at_390) rfl (XS.ifYes X41.here hx rfl (pc0 := 392) (pc' := 419) rfl (dc at_392) rfl (XT.i0_eq_t (by decide)) (by decide) (by decide) (XS.iload X41.here hx rfl (dc at_419) rfl (XS.ifYes X41.here hx rfl (pc0 := 421) (pc' := 478) rfl (dc at_421) rfl (XT.i0_eq_t (by decide)) (by decide) (by decide) (XS.iload X41.here hx rfl (dc at_478) rfl (XS.ifYes X41.here hx rfl (pc0 := 480) (pc' := 488) rfl (dc at_480) rfl (XT.i0_ne_t (by decide)) (by decide) (by decide) (XS.iload X41.here hx rfl (dc at_488) rfl (XS.iconst X41.here hx rfl (dc at_490) (XS.icmpYes X41.here hx rfl (pc0 := 491) (pc' := 499) rfl (dc at_491) rfl (XT.ii_ne_t (by decide)) (by decide) (by decide) (XS.iload X41.here hx rfl (dc at_499) rfl (XS.iconst X41.here hx rfl (dc at_501) (XS.icmpYes X41.here hx rfl (pc0 := 502) (pc' := 510) rfl (dc at_502) rfl (XT.ii_ne_t (by decide)) (by decide) (by decide) (XS.aconstNull X41.here hx rfl (dc at_510) (XS.astore X41.here hx rfl (dc at_511) rfl rfl (l' := (lA x0 x1 x2 x3 z1 sd 0 z3 z4 z5 3 (sR r0) (sR r1) (sR r2) (sR a24) (sI 0) (sI 0) (sI 0) (sI (-1 : Int32)) sN)) rfl (XS.aload X41.here hx rfl (dc at_513) rfl rfl k)))))))))))))))))))) ?_
                      refine Goes.callV X41 hx hZ19 0 hown19 (ow 218 rfl) (ow 219 rfl) (notFace_of_selects (args := #[]) (mvT hZ19 (ow 221 rfl))) (ow 221 rfl) (ow 220 rfl) (ow 167 rfl) (ow 222 rfl) (by decide) rfl (fb_exa FF85) (rmFst l Z a0 hw T41.heap Z74 FF85) (by decide) (by decide) (by decide) (by decide) rfl (by rw [hml]; rfl) (argsL := []) (rest := []) rfl (lenOf pd_24 rfl) rfl (own_le20 rfl) (dc at_515) ?_
                      rintro v86 T86 L86 X86 ⟨rfl, N86q, e86⟩
                      have N86 := Fr.app N41 N86q
                      show Goes p e below _ T86 (mkF m 518 (lA x0 x1 x2 x3 z1 sd 0 z3 z4 z5 3 (sR r0) (sR r1) (sR r2) (sR a24) (sI 0) (sI 0) (sI 0) (sI (-1 : Int32)) sN) [.null])
                      refine Goes.on (T' := T86) (g' := (mkF m 528 (lA x0 x1 x2 x3 z1 sd 0 z3 z4 z5 3 (sR r0) (sR r1) (sR r2) (sR a24) (sI 0) (sI 0) (sI 0) (sI (-1 : Int32)) sN) [(.int 1)])) (fun _ k => XS.aload X86.here hx rfl (dc at_518) rfl rfl (XT.acmpNo X86.here hx rfl (dc at_520) rfl rfl rfl (XT.aa_ne_f rfl) (XS.iconst X86.here hx rfl (dc at_523) (XS.goto X86.here hx rfl (pc0 := 524) (pc' := 528) rfl (dc at_524) (by decide) (by decide) k)))) ?_
                      exact Goes.retBW X86 hS19 (by rw [e86]; exact Z75) hZ19 hEL (by rw [e86]; exact RR77) hx hlk hret (Or.inr rfl) (dc at_528) (by decide) (by decide) ⟨rfl, N86⟩
                  · rcases br with rfl | rfl | rfl | rfl
                    · refine Goes.on (T' := T41) (g' := (mkF m 250 (lA x0 x1 x2 x3 z1 sd 1 z3 z4 z5 0 (sR r0) (sR r1) (sR r2) (sR a24) su su su su su) [(.ref r0), (.ref a24)])) (fun _ k => XS.iload X41.here hx rfl (dc at_241) rfl (XS.ifNo X41.here hx rfl (dc at_243) rfl (XT.i0_le_f (by decide)) (XS.aload X41.here hx rfl (dc at_246) rfl rfl (XS.aload X41.here hx rfl (dc at_248) rfl rfl k)))) ?_
                      refine Goes.callV X41 hx hZ19 0 hown19 (ow 230 rfl) (ow 231 rfl) (notFace_of_selects (args := #[]) (mvT hZ19 (ow 233 rfl))) (ow 233 rfl) (ow 232 rfl) (ow 167 rfl) (ow 234 rfl) (by decide) rfl (bk_exa BK0) (rmAddB l Z a0 hw r0 z3 (Fprice x1) T41.heap Z74 BK0 (own_price x1)) (by decide) (by decide) (by decide) (by decide) rfl (by rw [hml]; rfl) (argsL := [(.ref r0)]) (rest := []) rfl (lenOf pd_25 rfl) rfl (own_le20 rfl) (dc at_250) ?_
                      rintro v87 T87 L87 X87 ⟨rfl, N87q, OS87, mc87, qs87, eq87, BK87⟩
                      show Goes p e below _ T87 (mkF m 253 (lA x0 x1 x2 x3 z1 sd 1 z3 z4 z5 0 (sR r0) (sR r1) (sR r2) (sR a24) su su su su su) [])
                      obtain ⟨ws87, Kw87, sw87⟩ := OS87
                      have RR87 := RR77.trans (CHr.keep Kw87 (own_safeS hZ19.alike sw87) RR77.1)
                      have Z88 := Nat.le_trans Z74 Kw87.1
                      have Z89 := Nat.le_trans Z75 Kw87.1
                      have eq87 : (mc87, ownPr qs87) = (ownAdd z3 (own_key z1 (Fprice x1)).toInt r0 ([], [])) := eq87
                      refine Goes.on (T' := T87) (g' := (mkF m 295 (lA x0 x1 x2 x3 z1 sd 1 z3 z4 z5 0 (sR r0) (sR r1) (sR r2) (sR a24) su su su su su) [(.ref r0), (.ref a24)])) (fun _ k => XS.iload X87.here hx rfl (dc at_253) rfl (XS.iconst X87.here hx rfl (dc at_255) (XS.icmpYes X87.here hx rfl (pc0 := 256) (pc' := 266) rfl (dc at_256) rfl (XT.ii_le_t (by decide)) (by decide) (by decide) (XS.iload X87.here hx rfl (dc at_266) rfl (XS.iconst X87.here hx rfl (dc at_268) (XS.icmpYes X87.here hx rfl (pc0 := 269) (pc' := 279) rfl (dc at_269) rfl (XT.ii_le_t (by decide)) (by decide) (by decide) (XS.iload X87.here hx rfl (dc at_279) rfl (XS.iload X87.here hx rfl (dc at_281) rfl (XS.icmpNo X87.here hx rfl (dc at_283) rfl (XT.ii_ge_f (by decide)) (XS.iload X87.here hx rfl (dc at_286) rfl (XS.ifNo X87.here hx rfl (dc at_288) rfl (XT.i0_ne_f (by decide)) (XS.aload X87.here hx rfl (dc at_291) rfl rfl (XS.aload X87.here hx rfl (dc at_293) rfl rfl k))))))))))))) ?_
                      refine Goes.callV X87 hx hZ19 0 hown19 (ow 286 rfl) (ow 287 rfl) (notFace_of_selects (args := #[]) (mvT hZ19 (ow 289 rfl))) (ow 289 rfl) (ow 288 rfl) (ow 167 rfl) (ow 290 rfl) (by decide) rfl (bk_exa BK87) (rmRemB l Z a0 hw r0 T87.heap Z88 BK87 (own_all eq87 (own_mem_add _ _ _ _).1) (bk_len BK87)) (by decide) (by decide) (by decide) (by decide) rfl (by rw [hml]; rfl) (argsL := [(.ref r0)]) (rest := []) rfl (lenOf pd_25 rfl) rfl (own_le20 rfl) (dc at_295) ?_
                      rintro v91 T91 L91 X91 ⟨rfl, N91q, OS91, FB91⟩
                      show Goes p e below _ T91 (mkF m 298 (lA x0 x1 x2 x3 z1 sd 1 z3 z4 z5 0 (sR r0) (sR r1) (sR r2) (sR a24) su su su su su) [])
                      obtain ⟨ws91, Kw91, sw91⟩ := OS91
                      have RR91 := RR87.trans (CHr.keep Kw91 (own_safeS hZ19.alike sw91) RR87.1)
                      have Z92 := Nat.le_trans Z88 Kw91.1
                      have Z93 := Nat.le_trans Z89 Kw91.1
                      have FB91 : FB Z T91.heap a24 (ownVR r0 (ownAdd z3 (own_key z1 (Fprice x1)).toInt r0 ([], []))) := by
                        have q : FB Z T91.heap a24 (ownVR r0 (mc87, ownPr qs87)) := FB91
                        rw [eq87] at q
                        exact q
                      refine Goes.on (T' := T91) (g' := (mkF m 421 (lA x0 x1 x2 x3 z1 sd 1 z3 z4 z5 0 (sR r0) (sR r1) (sR r2) (sR a24) (sI 0) (sI 0) (sI 0) (sI (-1 : Int32)) su) [(.int 0)])) (fun _ k => XS.goto X91.here hx rfl (pc0 := 298) (pc' := 324) rfl (dc at_298) (by decide) (by decide) (XS.iload X91.here hx rfl (dc at_324) rfl (XS.ifNo X91.here hx rfl (dc at_326) rfl (XT.i0_le_f (by decide)) (XS.iload X91.here hx rfl (dc at_329) rfl (XS.ifYes X91.here hx rfl (pc0 := 331) (pc' := 338) rfl (dc at_331) rfl (XT.i0_eq_t (by decide)) (by decide) (by decide) (XS.iconst X91.here hx rfl (dc at_338) (XS.istore X91.here hx rfl (dc at_339) rfl (l' := (lA x0 x1 x2 x3 z1 sd 1 z3 z4 z5 0 (sR r0) (sR r1) (sR r2) (sR a24) (sI 0) su su su su)) rfl (XS.iload X91.here hx rfl (dc at_341) rfl (XS.iconst X91.here hx rfl (dc at_343) (XS.icmpYes X91.here hx rfl (pc0 := 344) (pc' := 357) rfl (dc at_344) rfl (XT.ii_le_t (by decide)) (by decide) (by decide) (XS.iconst X91.here hx rfl (dc at_357) (XS.istore X91.here hx rfl (dc at_358) rfl (l' := (lA x0 x1 x2 x3 z1 sd 1 z3 z4 z5 0 (sR r0) (sR r1) (sR r2) (sR a24) (sI 0) (sI 0) su su su)) rfl (XS.iload X91.here hx rfl (dc at_360) rfl (XS.iconst X91.here hx rfl (dc at_362) (XS.icmpYes X91.here hx rfl (pc0 := 363) (pc' := 376) rfl (dc at_363) rfl (XT.ii_le_t (by decide)) (by decide) (by decide) (XS.iconst X91.here hx rfl (dc at_376) (XS.istore X91.here hx rfl (dc at_377) rfl (l' := (lA x0 x1 x2 x3 z1 sd 1 z3 z4 z5 0 (sR r0) (sR r1) (sR r2) (sR a24) (sI 0) (sI 0) (sI 0) su su)) rfl (XS.iconst X91.here hx rfl (dc at_379) (XS.istore X91.here hx rfl (dc at_380) rfl (l' := (lA x0 x1 x2 x3 z1 sd 1 z3 z4 z5 0 (sR r0) (sR r1) (sR r2) (sR a24) (sI 0) (sI 0) (sI 0) (sI (-1 : Int32)) su)) rfl (XS.iload X91.here hx rfl (dc at_382) rfl (XS.ifYes X91.here hx rfl (pc0 := 384) (pc' := 390) rfl (dc at_384) rfl (XT.i0_eq_t (by decide)) (by decide) (by decide) (XS.iload X91.here hx rfl (dc at_390) rfl (XS.ifYes X91.here hx rfl (pc0 := 392) (pc' := 419) rfl (dc at_392) rfl (XT.i0_eq_t (by decide)) (by decide) (by decide) (XS.iload X91.here hx rfl (dc at_419) rfl k)))))))))))))))))))))))) ?_
                      have FF95 : FB Z T91.heap a24 .null := by
                        have q := FB91
                        rw [(own_p1 r0 z3 (own_key z1 (Fprice x1)).toInt).2] at q
                        exact q
                      refine Goes.on (T' := T91) (g' := (mkF m 515 (lA x0 x1 x2 x3 z1 sd 1 z3 z4 z5 0 (sR r0) (sR r1) (sR r2) (sR a24) (sI 0) (sI 0) (sI 0) (sI (-1 : Int32)) sN) [(.ref a24)])) (fun _ k => XS.ifYes X91.here hx rfl (pc0 := 421) (pc' := 478) rfl (dc at_421) rfl (XT.i0_eq_t (by decide)) (by decide) (by decide) (XS.iload X91.here hx rfl (dc at_478) rfl (XS.ifYes X91.here hx rfl (pc0 := 480) (pc' := 488) rfl (dc at_480) rfl (XT.i0_ne_t (by decide)) (by decide) (by decide) (XS.iload X91.here hx rfl (dc at_488) rfl (XS.iconst X91.here hx rfl (dc at_490) (XS.icmpYes X91.here hx rfl (pc0 := 491) (pc' := 499) rfl (dc at_491) rfl (XT.ii_ne_t (by decide)) (by decide) (by decide) (XS.iload X91.here hx rfl (dc at_499) rfl (XS.iconst X91.here hx rfl (dc at_501) (XS.icmpYes X91.here hx rfl (pc0 := 502) (pc' := 510) rfl (dc at_502) rfl (XT.ii_ne_t (by decide)) (by decide) (by decide) (XS.aconstNull X91.here hx rfl (dc at_510) (XS.astore X91.here hx rfl (dc at_511) rfl rfl (l' := (lA x0 x1 x2 x3 z1 sd 1 z3 z4 z5 0 (sR r0) (sR r1) (sR r2) (sR a24) (sI 0) (sI 0) (sI 0) (sI (-1 : Int32)) sN)) rfl (XS.aload X91.here hx rfl (dc at_513) rfl rfl k)))))))))))) ?_
                      refine Goes.callV X91 hx hZ19 0 hown19 (ow 218 rfl) (ow 219 rfl) (notFace_of_selects (args := #[]) (mvT hZ19 (ow 221 rfl))) (ow 221 rfl) (ow 220 rfl) (ow 167 rfl) (ow 222 rfl) (by decide) rfl (fb_exa FF95) (rmFst l Z a0 hw T91.heap Z92 FF95) (by decide) (by decide) (by decide) (by decide) rfl (by rw [hml]; rfl) (argsL := []) (rest := []) rfl (lenOf pd_24 rfl) rfl (own_le20 rfl) (dc at_515) ?_
                      rintro v96 T96 L96 X96 ⟨rfl, N96q, e96⟩
                      have N96 := Fr.app (Fr.app (Fr.app N41 N87q) N91q) N96q
                      show Goes p e below _ T96 (mkF m 518 (lA x0 x1 x2 x3 z1 sd 1 z3 z4 z5 0 (sR r0) (sR r1) (sR r2) (sR a24) (sI 0) (sI 0) (sI 0) (sI (-1 : Int32)) sN) [.null])
                      refine Goes.on (T' := T96) (g' := (mkF m 528 (lA x0 x1 x2 x3 z1 sd 1 z3 z4 z5 0 (sR r0) (sR r1) (sR r2) (sR a24) (sI 0) (sI 0) (sI 0) (sI (-1 : Int32)) sN) [(.int 1)])) (fun _ k => XS.aload X96.here hx rfl (dc at_518) rfl rfl (XT.acmpNo X96.here hx rfl (dc at_520) rfl rfl rfl (XT.aa_ne_f rfl) (XS.iconst X96.here hx rfl (dc at_523) (XS.goto X96.here hx rfl (pc0 := 524) (pc' := 528) rfl (dc at_524) (by decide) (by decide) k)))) ?_
                      exact Goes.retBW X96 hS19 (by rw [e96]; exact Z93) hZ19 hEL (by rw [e96]; exact RR91) hx hlk hret (Or.inr rfl) (dc at_528) (by decide) (by decide) ⟨rfl, N96⟩
                    · refine Goes.on (T' := T41) (g' := (mkF m 250 (lA x0 x1 x2 x3 z1 sd 1 z3 z4 z5 1 (sR r0) (sR r1) (sR r2) (sR a24) su su su su su) [(.ref r0), (.ref a24)])) (fun _ k => XS.iload X41.here hx rfl (dc at_241) rfl (XS.ifNo X41.here hx rfl (dc at_243) rfl (XT.i0_le_f (by decide)) (XS.aload X41.here hx rfl (dc at_246) rfl rfl (XS.aload X41.here hx rfl (dc at_248) rfl rfl k)))) ?_
                      refine Goes.callV X41 hx hZ19 0 hown19 (ow 230 rfl) (ow 231 rfl) (notFace_of_selects (args := #[]) (mvT hZ19 (ow 233 rfl))) (ow 233 rfl) (ow 232 rfl) (ow 167 rfl) (ow 234 rfl) (by decide) rfl (bk_exa BK0) (rmAddB l Z a0 hw r0 z3 (Fprice x1) T41.heap Z74 BK0 (own_price x1)) (by decide) (by decide) (by decide) (by decide) rfl (by rw [hml]; rfl) (argsL := [(.ref r0)]) (rest := []) rfl (lenOf pd_25 rfl) rfl (own_le20 rfl) (dc at_250) ?_
                      rintro v97 T97 L97 X97 ⟨rfl, N97q, OS97, mc97, qs97, eq97, BK97⟩
                      show Goes p e below _ T97 (mkF m 253 (lA x0 x1 x2 x3 z1 sd 1 z3 z4 z5 1 (sR r0) (sR r1) (sR r2) (sR a24) su su su su su) [])
                      obtain ⟨ws97, Kw97, sw97⟩ := OS97
                      have RR97 := RR77.trans (CHr.keep Kw97 (own_safeS hZ19.alike sw97) RR77.1)
                      have Z98 := Nat.le_trans Z74 Kw97.1
                      have Z99 := Nat.le_trans Z75 Kw97.1
                      have eq97 : (mc97, ownPr qs97) = (ownAdd z3 (own_key z1 (Fprice x1)).toInt r0 ([], [])) := eq97
                      refine Goes.on (T' := T97) (g' := (mkF m 376 (lA x0 x1 x2 x3 z1 sd 1 z3 z4 z5 1 (sR r0) (sR r1) (sR r2) (sR a24) (sI 1) (sI 0) su su su) [])) (fun _ k => XS.iload X97.here hx rfl (dc at_253) rfl (XS.iconst X97.here hx rfl (dc at_255) (XS.icmpYes X97.here hx rfl (pc0 := 256) (pc' := 266) rfl (dc at_256) rfl (XT.ii_le_t (by decide)) (by decide) (by decide) (XS.iload X97.here hx rfl (dc at_266) rfl (XS.iconst X97.here hx rfl (dc at_268) (XS.icmpYes X97.here hx rfl (pc0 := 269) (pc' := 279) rfl (dc at_269) rfl (XT.ii_le_t (by decide)) (by decide) (by decide) (XS.iload X97.here hx rfl (dc at_279) rfl (XS.iload X97.here hx rfl (dc at_281) rfl (XS.icmpYes X97.here hx rfl (pc0 := 283) (pc' := 324) rfl (dc at_283) rfl (XT.ii_ge_t (by decide)) (by decide) (by decide) (XS.iload X97.here hx rfl (dc at_324) rfl (XS.ifNo X97.here hx rfl (dc at_326) rfl (XT.i0_le_f (by decide)) (XS.iload X97.here hx rfl (dc at_329) rfl (XS.ifNo X97.here hx rfl (dc at_331) rfl (XT.i0_eq_f (by decide)) (XS.iconst X97.here hx rfl (dc at_334) (XS.goto X97.here hx rfl (pc0 := 335) (pc' := 339) rfl (dc at_335) (by decide) (by decide) (XS.istore X97.here hx rfl (dc at_339) rfl (l' := (lA x0 x1 x2 x3 z1 sd 1 z3 z4 z5 1 (sR r0) (sR r1) (sR r2) (sR a24) (sI 1) su su su su)) rfl (XS.iload X97.here hx rfl (dc at_341) rfl (XS.iconst X97.here hx rfl (dc at_343) (XS.icmpYes X97.here hx rfl (pc0 := 344) (pc' := 357) rfl (dc at_344) rfl (XT.ii_le_t (by decide)) (by decide) (by decide) (XS.iconst X97.here hx rfl (dc at_357) (XS.istore X97.here hx rfl (dc at_358) rfl (l' := (lA x0 x1 x2 x3 z1 sd 1 z3 z4 z5 1 (sR r0) (sR r1) (sR r2) (sR a24) (sI 1) (sI 0) su su su)) rfl (XS.iload X97.here hx rfl (dc at_360) rfl (XS.iconst X97.here hx rfl (dc at_362) (XS.icmpYes X97.here hx rfl (pc0 := 363) (pc' := 376) rfl (dc at_363) rfl (XT.ii_le_t (by decide)) (by decide) (by decide) k)))))))))))))))))))))))) ?_
                      have FF101 : FB Z T97.heap a24 (.ref r0) := by
                        have q : FB Z T97.heap a24 (ownV (mc97, ownPr qs97)) := bk_fb (bk_len BK97) BK97
                        rw [eq97, (own_p1 r0 z3 (own_key z1 (Fprice x1)).toInt).1] at q
                        exact q
                      refine Goes.on (T' := T97) (g' := (mkF m 515 (lA x0 x1 x2 x3 z1 sd 1 z3 z4 z5 1 (sR r0) (sR r1) (sR r2) (sR a24) (sI 1) (sI 0) (sI 0) (sI 0) (sR r0)) [(.ref a24)])) (fun _ k => XS.iconst X97.here hx rfl (dc at_376) (XS.istore X97.here hx rfl (dc at_377) rfl (l' := (lA x0 x1 x2 x3 z1 sd 1 z3 z4 z5 1 (sR r0) (sR r1) (sR r2) (sR a24) (sI 1) (sI 0) (sI 0) su su)) rfl (XS.iconst X97.here hx rfl (dc at_379) (XS.istore X97.here hx rfl (dc at_380) rfl (l' := (lA x0 x1 x2 x3 z1 sd 1 z3 z4 z5 1 (sR r0) (sR r1) (sR r2) (sR a24) (sI 1) (sI 0) (sI 0) (sI (-1 : Int32)) su)) rfl (XS.iload X97.here hx rfl (dc at_382) rfl (XS.ifNo X97.here hx rfl (dc at_384) rfl (XT.i0_eq_f (by decide)) (XS.iconst X97.here hx rfl (dc at_387) (XS.istore X97.here hx rfl (dc at_388) rfl (l' := (lA x0 x1 x2 x3 z1 sd 1 z3 z4 z5 1 (sR r0) (sR r1) (sR r2) (sR a24) (sI 1) (sI 0) (sI 0) (sI 0) su)) rfl (XS.iload X97.here hx rfl (dc at_390) rfl (XS.ifYes X97.here hx rfl (pc0 := 392) (pc' := 419) rfl (dc at_392) rfl (XT.i0_eq_t (by decide)) (by decide) (by decide) (XS.iload X97.here hx rfl (dc at_419) rfl (XS.ifYes X97.here hx rfl (pc0 := 421) (pc' := 478) rfl (dc at_421) rfl (XT.i0_eq_t (by decide)) (by decide) (by decide) (XS.iload X97.here hx rfl (dc at_478) rfl (XS.ifNo X97.here hx rfl (dc at_480) rfl (XT.i0_ne_f (by decide)) (XS.aload X97.here hx rfl (dc at_483) rfl rfl (XS.goto X97.here hx rfl (pc0 := 485) (pc' := 511) rfl (dc at_485) (by decide) (by decide) (XS.astore X97.here hx rfl (dc at_511) rfl rfl (l' := (lA x0 x1 x2 x3 z1 sd 1 z3 z4 z5 1 (sR r0) (sR r1) (sR r2) (sR a24) (sI 1) (sI 0) (sI 0) (sI 0) (sR r0))) rfl (XS.aload X97.here hx rfl (dc at_513) rfl rfl k)))))))))))))))))) ?_
                      refine Goes.callV X97 hx hZ19 0 hown19 (ow 218 rfl) (ow 219 rfl) (notFace_of_selects (args := #[]) (mvT hZ19 (ow 221 rfl))) (ow 221 rfl) (ow 220 rfl) (ow 167 rfl) (ow 222 rfl) (by decide) rfl (fb_exa FF101) (rmFst l Z a0 hw T97.heap Z98 FF101) (by decide) (by decide) (by decide) (by decide) rfl (by rw [hml]; rfl) (argsL := []) (rest := []) rfl (lenOf pd_24 rfl) rfl (own_le20 rfl) (dc at_515) ?_
                      rintro v102 T102 L102 X102 ⟨rfl, N102q, e102⟩
                      have N102 := Fr.app (Fr.app N41 N97q) N102q
                      show Goes p e below _ T102 (mkF m 518 (lA x0 x1 x2 x3 z1 sd 1 z3 z4 z5 1 (sR r0) (sR r1) (sR r2) (sR a24) (sI 1) (sI 0) (sI 0) (sI 0) (sR r0)) [(.ref r0)])
                      refine Goes.on (T' := T102) (g' := (mkF m 528 (lA x0 x1 x2 x3 z1 sd 1 z3 z4 z5 1 (sR r0) (sR r1) (sR r2) (sR a24) (sI 1) (sI 0) (sI 0) (sI 0) (sR r0)) [(.int 1)])) (fun _ k => XS.aload X102.here hx rfl (dc at_518) rfl rfl (XT.acmpNo X102.here hx rfl (dc at_520) rfl rfl rfl (XT.aa_ne_f rfl) (XS.iconst X102.here hx rfl (dc at_523) (XS.goto X102.here hx rfl (pc0 := 524) (pc' := 528) rfl (dc at_524) (by decide) (by decide) k)))) ?_
                      exact Goes.retBW X102 hS19 (by rw [e102]; exact Z99) hZ19 hEL (by rw [e102]; exact RR97) hx hlk hret (Or.inr rfl) (dc at_528) (by decide) (by decide) ⟨rfl, N102⟩
                    · refine Goes.on (T' := T41) (g' := (mkF m 250 (lA x0 x1 x2 x3 z1 sd 1 z3 z4 z5 2 (sR r0) (sR r1) (sR r2) (sR a24) su su su su su) [(.ref r0), (.ref a24)])) (fun _ k => XS.iload X41.here hx rfl (dc at_241) rfl (XS.ifNo X41.here hx rfl (dc at_243) rfl (XT.i0_le_f (by decide)) (XS.aload X41.here hx rfl (dc at_246) rfl rfl (XS.aload X41.here hx rfl (dc at_248) rfl rfl k)))) ?_
                      refine Goes.callV X41 hx hZ19 0 hown19 (ow 230 rfl) (ow 231 rfl) (notFace_of_selects (args := #[]) (mvT hZ19 (ow 233 rfl))) (ow 233 rfl) (ow 232 rfl) (ow 167 rfl) (ow 234 rfl) (by decide) rfl (bk_exa BK0) (rmAddB l Z a0 hw r0 z3 (Fprice x1) T41.heap Z74 BK0 (own_price x1)) (by decide) (by decide) (by decide) (by decide) rfl (by rw [hml]; rfl) (argsL := [(.ref r0)]) (rest := []) rfl (lenOf pd_25 rfl) rfl (own_le20 rfl) (dc at_250) ?_
                      rintro v103 T103 L103 X103 ⟨rfl, N103q, OS103, mc103, qs103, eq103, BK103⟩
                      show Goes p e below _ T103 (mkF m 253 (lA x0 x1 x2 x3 z1 sd 1 z3 z4 z5 2 (sR r0) (sR r1) (sR r2) (sR a24) su su su su su) [])
                      obtain ⟨ws103, Kw103, sw103⟩ := OS103
                      have RR103 := RR77.trans (CHr.keep Kw103 (own_safeS hZ19.alike sw103) RR77.1)
                      have Z104 := Nat.le_trans Z74 Kw103.1
                      have Z105 := Nat.le_trans Z75 Kw103.1
                      have eq103 : (mc103, ownPr qs103) = (ownAdd z3 (own_key z1 (Fprice x1)).toInt r0 ([], [])) := eq103
                      refine Goes.on (T' := T103) (g' := (mkF m 376 (lA x0 x1 x2 x3 z1 sd 1 z3 z4 z5 2 (sR r0) (sR r1) (sR r2) (sR a24) (sI 1) (sI 0) su su su) [])) (fun _ k => XS.iload X103.here hx rfl (dc at_253) rfl (XS.iconst X103.here hx rfl (dc at_255) (XS.icmpYes X103.here hx rfl (pc0 := 256) (pc' := 266) rfl (dc at_256) rfl (XT.ii_le_t (by decide)) (by decide) (by decide) (XS.iload X103.here hx rfl (dc at_266) rfl (XS.iconst X103.here hx rfl (dc at_268) (XS.icmpYes X103.here hx rfl (pc0 := 269) (pc' := 279) rfl (dc at_269) rfl (XT.ii_le_t (by decide)) (by decide) (by decide) (XS.iload X103.here hx rfl (dc at_279) rfl (XS.iload X103.here hx rfl (dc at_281) rfl (XS.icmpYes X103.here hx rfl (pc0 := 283) (pc' := 324) rfl (dc at_283) rfl (XT.ii_ge_t (by decide)) (by decide) (by decide) (XS.iload X103.here hx rfl (dc at_324) rfl (XS.ifNo X103.here hx rfl (dc at_326) rfl (XT.i0_le_f (by decide)) (XS.iload X103.here hx rfl (dc at_329) rfl (XS.ifNo X103.here hx rfl (dc at_331) rfl (XT.i0_eq_f (by decide)) (XS.iconst X103.here hx rfl (dc at_334) (XS.goto X103.here hx rfl (pc0 := 335) (pc' := 339) rfl (dc at_335) (by decide) (by decide) (XS.istore X103.here hx rfl (dc at_339) rfl (l' := (lA x0 x1 x2 x3 z1 sd 1 z3 z4 z5 2 (sR r0) (sR r1) (sR r2) (sR a24) (sI 1) su su su su)) rfl (XS.iload X103.here hx rfl (dc at_341) rfl (XS.iconst X103.here hx rfl (dc at_343) (XS.icmpYes X103.here hx rfl (pc0 := 344) (pc' := 357) rfl (dc at_344) rfl (XT.ii_le_t (by decide)) (by decide) (by decide) (XS.iconst X103.here hx rfl (dc at_357) (XS.istore X103.here hx rfl (dc at_358) rfl (l' := (lA x0 x1 x2 x3 z1 sd 1 z3 z4 z5 2 (sR r0) (sR r1) (sR r2) (sR a24) (sI 1) (sI 0) su su su)) rfl (XS.iload X103.here hx rfl (dc at_360) rfl (XS.iconst X103.here hx rfl (dc at_362) (XS.icmpYes X103.here hx rfl (pc0 := 363) (pc' := 376) rfl (dc at_363) rfl (XT.ii_le_t (by decide)) (by decide) (by decide) k)))))))))))))))))))))))) ?_
                      have FF107 : FB Z T103.heap a24 (.ref r0) := by
                        have q : FB Z T103.heap a24 (ownV (mc103, ownPr qs103)) := bk_fb (bk_len BK103) BK103
                        rw [eq103, (own_p1 r0 z3 (own_key z1 (Fprice x1)).toInt).1] at q
                        exact q
                      refine Goes.on (T' := T103) (g' := (mkF m 515 (lA x0 x1 x2 x3 z1 sd 1 z3 z4 z5 2 (sR r0) (sR r1) (sR r2) (sR a24) (sI 1) (sI 0) (sI 0) (sI 0) (sR r0)) [(.ref a24)])) (fun _ k => XS.iconst X103.here hx rfl (dc at_376) (XS.istore X103.here hx rfl (dc at_377) rfl (l' := (lA x0 x1 x2 x3 z1 sd 1 z3 z4 z5 2 (sR r0) (sR r1) (sR r2) (sR a24) (sI 1) (sI 0) (sI 0) su su)) rfl (XS.iconst X103.here hx rfl (dc at_379) (XS.istore X103.here hx rfl (dc at_380) rfl (l' := (lA x0 x1 x2 x3 z1 sd 1 z3 z4 z5 2 (sR r0) (sR r1) (sR r2) (sR a24) (sI 1) (sI 0) (sI 0) (sI (-1 : Int32)) su)) rfl (XS.iload X103.here hx rfl (dc at_382) rfl (XS.ifNo X103.here hx rfl (dc at_384) rfl (XT.i0_eq_f (by decide)) (XS.iconst X103.here hx rfl (dc at_387) (XS.istore X103.here hx rfl (dc at_388) rfl (l' := (lA x0 x1 x2 x3 z1 sd 1 z3 z4 z5 2 (sR r0) (sR r1) (sR r2) (sR a24) (sI 1) (sI 0) (sI 0) (sI 0) su)) rfl (XS.iload X103.here hx rfl (dc at_390) rfl (XS.ifYes X103.here hx rfl (pc0 := 392) (pc' := 419) rfl (dc at_392) rfl (XT.i0_eq_t (by decide)) (by decide) (by decide) (XS.iload X103.here hx rfl (dc at_419) rfl (XS.ifYes X103.here hx rfl (pc0 := 421) (pc' := 478) rfl (dc at_421) rfl (XT.i0_eq_t (by decide)) (by decide) (by decide) (XS.iload X103.here hx rfl (dc at_478) rfl (XS.ifNo X103.here hx rfl (dc at_480) rfl (XT.i0_ne_f (by decide)) (XS.aload X103.here hx rfl (dc at_483) rfl rfl (XS.goto X103.here hx rfl (pc0 := 485) (pc' := 511) rfl (dc at_485) (by decide) (by decide) (XS.astore X103.here hx rfl (dc at_511) rfl rfl (l' := (lA x0 x1 x2 x3 z1 sd 1 z3 z4 z5 2 (sR r0) (sR r1) (sR r2) (sR a24) (sI 1) (sI 0) (sI 0) (sI 0) (sR r0))) rfl (XS.aload X103.here hx rfl (dc at_513) rfl rfl k)))))))))))))))))) ?_
                      refine Goes.callV X103 hx hZ19 0 hown19 (ow 218 rfl) (ow 219 rfl) (notFace_of_selects (args := #[]) (mvT hZ19 (ow 221 rfl))) (ow 221 rfl) (ow 220 rfl) (ow 167 rfl) (ow 222 rfl) (by decide) rfl (fb_exa FF107) (rmFst l Z a0 hw T103.heap Z104 FF107) (by decide) (by decide) (by decide) (by decide) rfl (by rw [hml]; rfl) (argsL := []) (rest := []) rfl (lenOf pd_24 rfl) rfl (own_le20 rfl) (dc at_515) ?_
                      rintro v108 T108 L108 X108 ⟨rfl, N108q, e108⟩
                      have N108 := Fr.app (Fr.app N41 N103q) N108q
                      show Goes p e below _ T108 (mkF m 518 (lA x0 x1 x2 x3 z1 sd 1 z3 z4 z5 2 (sR r0) (sR r1) (sR r2) (sR a24) (sI 1) (sI 0) (sI 0) (sI 0) (sR r0)) [(.ref r0)])
                      refine Goes.on (T' := T108) (g' := (mkF m 528 (lA x0 x1 x2 x3 z1 sd 1 z3 z4 z5 2 (sR r0) (sR r1) (sR r2) (sR a24) (sI 1) (sI 0) (sI 0) (sI 0) (sR r0)) [(.int 1)])) (fun _ k => XS.aload X108.here hx rfl (dc at_518) rfl rfl (XT.acmpNo X108.here hx rfl (dc at_520) rfl rfl rfl (XT.aa_ne_f rfl) (XS.iconst X108.here hx rfl (dc at_523) (XS.goto X108.here hx rfl (pc0 := 524) (pc' := 528) rfl (dc at_524) (by decide) (by decide) k)))) ?_
                      exact Goes.retBW X108 hS19 (by rw [e108]; exact Z105) hZ19 hEL (by rw [e108]; exact RR103) hx hlk hret (Or.inr rfl) (dc at_528) (by decide) (by decide) ⟨rfl, N108⟩
                    · refine Goes.on (T' := T41) (g' := (mkF m 250 (lA x0 x1 x2 x3 z1 sd 1 z3 z4 z5 3 (sR r0) (sR r1) (sR r2) (sR a24) su su su su su) [(.ref r0), (.ref a24)])) (fun _ k => XS.iload X41.here hx rfl (dc at_241) rfl (XS.ifNo X41.here hx rfl (dc at_243) rfl (XT.i0_le_f (by decide)) (XS.aload X41.here hx rfl (dc at_246) rfl rfl (XS.aload X41.here hx rfl (dc at_248) rfl rfl k)))) ?_
                      refine Goes.callV X41 hx hZ19 0 hown19 (ow 230 rfl) (ow 231 rfl) (notFace_of_selects (args := #[]) (mvT hZ19 (ow 233 rfl))) (ow 233 rfl) (ow 232 rfl) (ow 167 rfl) (ow 234 rfl) (by decide) rfl (bk_exa BK0) (rmAddB l Z a0 hw r0 z3 (Fprice x1) T41.heap Z74 BK0 (own_price x1)) (by decide) (by decide) (by decide) (by decide) rfl (by rw [hml]; rfl) (argsL := [(.ref r0)]) (rest := []) rfl (lenOf pd_25 rfl) rfl (own_le20 rfl) (dc at_250) ?_
                      rintro v109 T109 L109 X109 ⟨rfl, N109q, OS109, mc109, qs109, eq109, BK109⟩
                      show Goes p e below _ T109 (mkF m 253 (lA x0 x1 x2 x3 z1 sd 1 z3 z4 z5 3 (sR r0) (sR r1) (sR r2) (sR a24) su su su su su) [])
                      obtain ⟨ws109, Kw109, sw109⟩ := OS109
                      have RR109 := RR77.trans (CHr.keep Kw109 (own_safeS hZ19.alike sw109) RR77.1)
                      have Z110 := Nat.le_trans Z74 Kw109.1
                      have Z111 := Nat.le_trans Z75 Kw109.1
                      have eq109 : (mc109, ownPr qs109) = (ownAdd z3 (own_key z1 (Fprice x1)).toInt r0 ([], [])) := eq109
                      refine Goes.on (T' := T109) (g' := (mkF m 376 (lA x0 x1 x2 x3 z1 sd 1 z3 z4 z5 3 (sR r0) (sR r1) (sR r2) (sR a24) (sI 1) (sI 0) su su su) [])) (fun _ k => XS.iload X109.here hx rfl (dc at_253) rfl (XS.iconst X109.here hx rfl (dc at_255) (XS.icmpYes X109.here hx rfl (pc0 := 256) (pc' := 266) rfl (dc at_256) rfl (XT.ii_le_t (by decide)) (by decide) (by decide) (XS.iload X109.here hx rfl (dc at_266) rfl (XS.iconst X109.here hx rfl (dc at_268) (XS.icmpYes X109.here hx rfl (pc0 := 269) (pc' := 279) rfl (dc at_269) rfl (XT.ii_le_t (by decide)) (by decide) (by decide) (XS.iload X109.here hx rfl (dc at_279) rfl (XS.iload X109.here hx rfl (dc at_281) rfl (XS.icmpYes X109.here hx rfl (pc0 := 283) (pc' := 324) rfl (dc at_283) rfl (XT.ii_ge_t (by decide)) (by decide) (by decide) (XS.iload X109.here hx rfl (dc at_324) rfl (XS.ifNo X109.here hx rfl (dc at_326) rfl (XT.i0_le_f (by decide)) (XS.iload X109.here hx rfl (dc at_329) rfl (XS.ifNo X109.here hx rfl (dc at_331) rfl (XT.i0_eq_f (by decide)) (XS.iconst X109.here hx rfl (dc at_334) (XS.goto X109.here hx rfl (pc0 := 335) (pc' := 339) rfl (dc at_335) (by decide) (by decide) (XS.istore X109.here hx rfl (dc at_339) rfl (l' := (lA x0 x1 x2 x3 z1 sd 1 z3 z4 z5 3 (sR r0) (sR r1) (sR r2) (sR a24) (sI 1) su su su su)) rfl (XS.iload X109.here hx rfl (dc at_341) rfl (XS.iconst X109.here hx rfl (dc at_343) (XS.icmpYes X109.here hx rfl (pc0 := 344) (pc' := 357) rfl (dc at_344) rfl (XT.ii_le_t (by decide)) (by decide) (by decide) (XS.iconst X109.here hx rfl (dc at_357) (XS.istore X109.here hx rfl (dc at_358) rfl (l' := (lA x0 x1 x2 x3 z1 sd 1 z3 z4 z5 3 (sR r0) (sR r1) (sR r2) (sR a24) (sI 1) (sI 0) su su su)) rfl (XS.iload X109.here hx rfl (dc at_360) rfl (XS.iconst X109.here hx rfl (dc at_362) (XS.icmpYes X109.here hx rfl (pc0 := 363) (pc' := 376) rfl (dc at_363) rfl (XT.ii_le_t (by decide)) (by decide) (by decide) k)))))))))))))))))))))))) ?_
                      have FF113 : FB Z T109.heap a24 (.ref r0) := by
                        have q : FB Z T109.heap a24 (ownV (mc109, ownPr qs109)) := bk_fb (bk_len BK109) BK109
                        rw [eq109, (own_p1 r0 z3 (own_key z1 (Fprice x1)).toInt).1] at q
                        exact q
                      refine Goes.on (T' := T109) (g' := (mkF m 515 (lA x0 x1 x2 x3 z1 sd 1 z3 z4 z5 3 (sR r0) (sR r1) (sR r2) (sR a24) (sI 1) (sI 0) (sI 0) (sI 0) (sR r0)) [(.ref a24)])) (fun _ k => XS.iconst X109.here hx rfl (dc at_376) (XS.istore X109.here hx rfl (dc at_377) rfl (l' := (lA x0 x1 x2 x3 z1 sd 1 z3 z4 z5 3 (sR r0) (sR r1) (sR r2) (sR a24) (sI 1) (sI 0) (sI 0) su su)) rfl (XS.iconst X109.here hx rfl (dc at_379) (XS.istore X109.here hx rfl (dc at_380) rfl (l' := (lA x0 x1 x2 x3 z1 sd 1 z3 z4 z5 3 (sR r0) (sR r1) (sR r2) (sR a24) (sI 1) (sI 0) (sI 0) (sI (-1 : Int32)) su)) rfl (XS.iload X109.here hx rfl (dc at_382) rfl (XS.ifNo X109.here hx rfl (dc at_384) rfl (XT.i0_eq_f (by decide)) (XS.iconst X109.here hx rfl (dc at_387) (XS.istore X109.here hx rfl (dc at_388) rfl (l' := (lA x0 x1 x2 x3 z1 sd 1 z3 z4 z5 3 (sR r0) (sR r1) (sR r2) (sR a24) (sI 1) (sI 0) (sI 0) (sI 0) su)) rfl (XS.iload X109.here hx rfl (dc at_390) rfl (XS.ifYes X109.here hx rfl (pc0 := 392) (pc' := 419) rfl (dc at_392) rfl (XT.i0_eq_t (by decide)) (by decide) (by decide) (XS.iload X109.here hx rfl (dc at_419) rfl (XS.ifYes X109.here hx rfl (pc0 := 421) (pc' := 478) rfl (dc at_421) rfl (XT.i0_eq_t (by decide)) (by decide) (by decide) (XS.iload X109.here hx rfl (dc at_478) rfl (XS.ifNo X109.here hx rfl (dc at_480) rfl (XT.i0_ne_f (by decide)) (XS.aload X109.here hx rfl (dc at_483) rfl rfl (XS.goto X109.here hx rfl (pc0 := 485) (pc' := 511) rfl (dc at_485) (by decide) (by decide) (XS.astore X109.here hx rfl (dc at_511) rfl rfl (l' := (lA x0 x1 x2 x3 z1 sd 1 z3 z4 z5 3 (sR r0) (sR r1) (sR r2) (sR a24) (sI 1) (sI 0) (sI 0) (sI 0) (sR r0))) rfl (XS.aload X109.here hx rfl (dc at_513) rfl rfl k)))))))))))))))))) ?_
                      refine Goes.callV X109 hx hZ19 0 hown19 (ow 218 rfl) (ow 219 rfl) (notFace_of_selects (args := #[]) (mvT hZ19 (ow 221 rfl))) (ow 221 rfl) (ow 220 rfl) (ow 167 rfl) (ow 222 rfl) (by decide) rfl (fb_exa FF113) (rmFst l Z a0 hw T109.heap Z110 FF113) (by decide) (by decide) (by decide) (by decide) rfl (by rw [hml]; rfl) (argsL := []) (rest := []) rfl (lenOf pd_24 rfl) rfl (own_le20 rfl) (dc at_515) ?_
                      rintro v114 T114 L114 X114 ⟨rfl, N114q, e114⟩
                      have N114 := Fr.app (Fr.app N41 N109q) N114q
                      show Goes p e below _ T114 (mkF m 518 (lA x0 x1 x2 x3 z1 sd 1 z3 z4 z5 3 (sR r0) (sR r1) (sR r2) (sR a24) (sI 1) (sI 0) (sI 0) (sI 0) (sR r0)) [(.ref r0)])
                      refine Goes.on (T' := T114) (g' := (mkF m 528 (lA x0 x1 x2 x3 z1 sd 1 z3 z4 z5 3 (sR r0) (sR r1) (sR r2) (sR a24) (sI 1) (sI 0) (sI 0) (sI 0) (sR r0)) [(.int 1)])) (fun _ k => XS.aload X114.here hx rfl (dc at_518) rfl rfl (XT.acmpNo X114.here hx rfl (dc at_520) rfl rfl rfl (XT.aa_ne_f rfl) (XS.iconst X114.here hx rfl (dc at_523) (XS.goto X114.here hx rfl (pc0 := 524) (pc' := 528) rfl (dc at_524) (by decide) (by decide) k)))) ?_
                      exact Goes.retBW X114 hS19 (by rw [e114]; exact Z111) hZ19 hEL (by rw [e114]; exact RR109) hx hlk hret (Or.inr rfl) (dc at_528) (by decide) (by decide) ⟨rfl, N114⟩
                  · rcases br with rfl | rfl | rfl | rfl
                    · refine Goes.on (T' := T41) (g' := (mkF m 250 (lA x0 x1 x2 x3 z1 sd 2 z3 z4 z5 0 (sR r0) (sR r1) (sR r2) (sR a24) su su su su su) [(.ref r0), (.ref a24)])) (fun _ k => XS.iload X41.here hx rfl (dc at_241) rfl (XS.ifNo X41.here hx rfl (dc at_243) rfl (XT.i0_le_f (by decide)) (XS.aload X41.here hx rfl (dc at_246) rfl rfl (XS.aload X41.here hx rfl (dc at_248) rfl rfl k)))) ?_
                      refine Goes.callV X41 hx hZ19 0 hown19 (ow 230 rfl) (ow 231 rfl) (notFace_of_selects (args := #[]) (mvT hZ19 (ow 233 rfl))) (ow 233 rfl) (ow 232 rfl) (ow 167 rfl) (ow 234 rfl) (by decide) rfl (bk_exa BK0) (rmAddB l Z a0 hw r0 z3 (Fprice x1) T41.heap Z74 BK0 (own_price x1)) (by decide) (by decide) (by decide) (by decide) rfl (by rw [hml]; rfl) (argsL := [(.ref r0)]) (rest := []) rfl (lenOf pd_25 rfl) rfl (own_le20 rfl) (dc at_250) ?_
                      rintro v115 T115 L115 X115 ⟨rfl, N115q, OS115, mc115, qs115, eq115, BK115⟩
                      show Goes p e below _ T115 (mkF m 253 (lA x0 x1 x2 x3 z1 sd 2 z3 z4 z5 0 (sR r0) (sR r1) (sR r2) (sR a24) su su su su su) [])
                      obtain ⟨ws115, Kw115, sw115⟩ := OS115
                      have RR115 := RR77.trans (CHr.keep Kw115 (own_safeS hZ19.alike sw115) RR77.1)
                      have Z116 := Nat.le_trans Z74 Kw115.1
                      have Z117 := Nat.le_trans Z75 Kw115.1
                      have eq115 : (mc115, ownPr qs115) = (ownAdd z3 (own_key z1 (Fprice x1)).toInt r0 ([], [])) := eq115
                      refine Goes.on (T' := T115) (g' := (mkF m 263 (lA x0 x1 x2 x3 z1 sd 2 z3 z4 z5 0 (sR r0) (sR r1) (sR r2) (sR a24) su su su su su) [(.ref r1), (.ref a24)])) (fun _ k => XS.iload X115.here hx rfl (dc at_253) rfl (XS.iconst X115.here hx rfl (dc at_255) (XS.icmpNo X115.here hx rfl (dc at_256) rfl (XT.ii_le_f (by decide)) (XS.aload X115.here hx rfl (dc at_259) rfl rfl (XS.aload X115.here hx rfl (dc at_261) rfl rfl k))))) ?_
                      refine Goes.callV X115 hx hZ19 0 hown19 (ow 230 rfl) (ow 231 rfl) (notFace_of_selects (args := #[]) (mvT hZ19 (ow 233 rfl))) (ow 233 rfl) (ow 232 rfl) (ow 167 rfl) (ow 234 rfl) (by decide) rfl (bk_exa BK115) (rmAddB l Z a0 hw r1 z4 (Fprice x2) T115.heap Z116 BK115 (own_price x2)) (by decide) (by decide) (by decide) (by decide) rfl (by rw [hml]; rfl) (argsL := [(.ref r1)]) (rest := []) rfl (lenOf pd_25 rfl) rfl (own_le20 rfl) (dc at_263) ?_
                      rintro v119 T119 L119 X119 ⟨rfl, N119q, OS119, mc119, qs119, eq119, BK119⟩
                      show Goes p e below _ T119 (mkF m 266 (lA x0 x1 x2 x3 z1 sd 2 z3 z4 z5 0 (sR r0) (sR r1) (sR r2) (sR a24) su su su su su) [])
                      obtain ⟨ws119, Kw119, sw119⟩ := OS119
                      have RR119 := RR115.trans (CHr.keep Kw119 (own_safeS hZ19.alike sw119) RR115.1)
                      have Z120 := Nat.le_trans Z116 Kw119.1
                      have Z121 := Nat.le_trans Z117 Kw119.1
                      rw [eq115] at eq119
                      have eq119 : (mc119, ownPr qs119) = (ownAdd z4 (own_key z1 (Fprice x2)).toInt r1 (ownAdd z3 (own_key z1 (Fprice x1)).toInt r0 ([], []))) := eq119
                      refine Goes.on (T' := T119) (g' := (mkF m 295 (lA x0 x1 x2 x3 z1 sd 2 z3 z4 z5 0 (sR r0) (sR r1) (sR r2) (sR a24) su su su su su) [(.ref r0), (.ref a24)])) (fun _ k => XS.iload X119.here hx rfl (dc at_266) rfl (XS.iconst X119.here hx rfl (dc at_268) (XS.icmpYes X119.here hx rfl (pc0 := 269) (pc' := 279) rfl (dc at_269) rfl (XT.ii_le_t (by decide)) (by decide) (by decide) (XS.iload X119.here hx rfl (dc at_279) rfl (XS.iload X119.here hx rfl (dc at_281) rfl (XS.icmpNo X119.here hx rfl (dc at_283) rfl (XT.ii_ge_f (by decide)) (XS.iload X119.here hx rfl (dc at_286) rfl (XS.ifNo X119.here hx rfl (dc at_288) rfl (XT.i0_ne_f (by decide)) (XS.aload X119.here hx rfl (dc at_291) rfl rfl (XS.aload X119.here hx rfl (dc at_293) rfl rfl k)))))))))) ?_
                      refine Goes.callV X119 hx hZ19 0 hown19 (ow 286 rfl) (ow 287 rfl) (notFace_of_selects (args := #[]) (mvT hZ19 (ow 289 rfl))) (ow 289 rfl) (ow 288 rfl) (ow 167 rfl) (ow 290 rfl) (by decide) rfl (bk_exa BK119) (rmRemB l Z a0 hw r0 T119.heap Z120 BK119 (own_all eq119 ((own_mem_add _ _ _ _).2 _ (own_mem_add _ _ _ _).1)) (bk_len BK119)) (by decide) (by decide) (by decide) (by decide) rfl (by rw [hml]; rfl) (argsL := [(.ref r0)]) (rest := []) rfl (lenOf pd_25 rfl) rfl (own_le20 rfl) (dc at_295) ?_
                      rintro v123 T123 L123 X123 ⟨rfl, N123q, OS123, FB123⟩
                      show Goes p e below _ T123 (mkF m 298 (lA x0 x1 x2 x3 z1 sd 2 z3 z4 z5 0 (sR r0) (sR r1) (sR r2) (sR a24) su su su su su) [])
                      obtain ⟨ws123, Kw123, sw123⟩ := OS123
                      have RR123 := RR119.trans (CHr.keep Kw123 (own_safeS hZ19.alike sw123) RR119.1)
                      have Z124 := Nat.le_trans Z120 Kw123.1
                      have Z125 := Nat.le_trans Z121 Kw123.1
                      have FB123 : FB Z T123.heap a24 (ownVR r0 (ownAdd z4 (own_key z1 (Fprice x2)).toInt r1 (ownAdd z3 (own_key z1 (Fprice x1)).toInt r0 ([], [])))) := by
                        have q : FB Z T123.heap a24 (ownVR r0 (mc119, ownPr qs119)) := FB123
                        rw [eq119] at q
                        exact q
                      refine Goes.on (T' := T123) (g' := (mkF m 384 (lA x0 x1 x2 x3 z1 sd 2 z3 z4 z5 0 (sR r0) (sR r1) (sR r2) (sR a24) (sI 0) (sI 1) (sI 0) (sI (-1 : Int32)) su) [(.int 0)])) (fun _ k => XS.goto X123.here hx rfl (pc0 := 298) (pc' := 324) rfl (dc at_298) (by decide) (by decide) (XS.iload X123.here hx rfl (dc at_324) rfl (XS.ifNo X123.here hx rfl (dc at_326) rfl (XT.i0_le_f (by decide)) (XS.iload X123.here hx rfl (dc at_329) rfl (XS.ifYes X123.here hx rfl (pc0 := 331) (pc' := 338) rfl (dc at_331) rfl (XT.i0_eq_t (by decide)) (by decide) (by decide) (XS.iconst X123.here hx rfl (dc at_338) (XS.istore X123.here hx rfl (dc at_339) rfl (l' := (lA x0 x1 x2 x3 z1 sd 2 z3 z4 z5 0 (sR r0) (sR r1) (sR r2) (sR a24) (sI 0) su su su su)) rfl (XS.iload X123.here hx rfl (dc at_341) rfl (XS.iconst X123.here hx rfl (dc at_343) (XS.icmpNo X123.here hx rfl (dc at_344) rfl (XT.ii_le_f (by decide)) (XS.iload X123.here hx rfl (dc at_347) rfl (XS.iconst X123.here hx rfl (dc at_349) (XS.icmpNo X123.here hx rfl (dc at_350) rfl (XT.ii_eq_f (by decide)) (XS.iconst X123.here hx rfl (dc at_353) (XS.goto X123.here hx rfl (pc0 := 354) (pc' := 358) rfl (dc at_354) (by decide) (by decide) (XS.istore X123.here hx rfl (dc at_358) rfl (l' := (lA x0 x1 x2 x3 z1 sd 2 z3 z4 z5 0 (sR r0) (sR r1) (sR r2) (sR a24) (sI 0) (sI 1) su su su)) rfl (XS.iload X123.here hx rfl (dc at_360) rfl (XS.iconst X123.here hx rfl (dc at_362) (XS.icmpYes X123.here hx rfl (pc0 := 363) (pc' := 376) rfl (dc at_363) rfl (XT.ii_le_t (by decide)) (by decide) (by decide) (XS.iconst X123.here hx rfl (dc at_376) (XS.istore X123.here hx rfl (dc at_377) rfl (l' := (lA x0 x1 x2 x3 z1 sd 2 z3 z4 z5 0 (sR r0) (sR r1) (sR r2) (sR a24) (sI 0) (sI 1) (sI 0) su su)) rfl (XS.iconst X123.here hx rfl (dc at_379) (XS.istore X123.here hx rfl (dc at_380) rfl (l' := (lA x0 x1 x2 x3 z1 sd 2 z3 z4 z5 0 (sR r0) (sR r1) (sR r2) (sR a24) (sI 0) (sI 1) (sI 0) (sI (-1 : Int32)) su)) rfl (XS.iload X123.here hx rfl (dc at_382) rfl k)))))))))))))))))))))))) ?_
                      have FF127 : FB Z T123.heap a24 (.ref r1) := by
                        have q := FB123
                        rw [(own_p2 ne_r0_r1 z3 z4 (own_key z1 (Fprice x1)).toInt (own_key z1 (Fprice x2)).toInt).2.2.1] at q
                        exact q
                      refine Goes.on (T' := T123) (g' := (mkF m 515 (lA x0 x1 x2 x3 z1 sd 2 z3 z4 z5 0 (sR r0) (sR r1) (sR r2) (sR a24) (sI 0) (sI 1) (sI 0) (sI 1) (sR r1)) [(.ref a24)])) (fun _ k => XS.ifYes X123.here hx rfl (pc0 := 384) (pc' := 390) rfl (dc at_384) rfl (XT.i0_eq_t (by decide)) (by decide) (by decide) (XS.iload X123.here hx rfl (dc at_390) rfl (XS.ifNo X123.here hx rfl (dc at_392) rfl (XT.i0_eq_f (by decide)) (XS.iload X123.here hx rfl (dc at_395) rfl (XS.ifYes X123.here hx rfl (pc0 := 397) (pc' := 416) rfl (dc at_397) rfl (XT.i0_lt_t (by decide)) (by decide) (by decide) (XS.iconst X123.here hx rfl (dc at_416) (XS.istore X123.here hx rfl (dc at_417) rfl (l' := (lA x0 x1 x2 x3 z1 sd 2 z3 z4 z5 0 (sR r0) (sR r1) (sR r2) (sR a24) (sI 0) (sI 1) (sI 0) (sI 1) su)) rfl (XS.iload X123.here hx rfl (dc at_419) rfl (XS.ifYes X123.here hx rfl (pc0 := 421) (pc' := 478) rfl (dc at_421) rfl (XT.i0_eq_t (by decide)) (by decide) (by decide) (XS.iload X123.here hx rfl (dc at_478) rfl (XS.ifYes X123.here hx rfl (pc0 := 480) (pc' := 488) rfl (dc at_480) rfl (XT.i0_ne_t (by decide)) (by decide) (by decide) (XS.iload X123.here hx rfl (dc at_488) rfl (XS.iconst X123.here hx rfl (dc at_490) (XS.icmpNo X123.here hx rfl (dc at_491) rfl (XT.ii_ne_f (by decide)) (XS.aload X123.here hx rfl (dc at_494) rfl rfl (XS.goto X123.here hx rfl (pc0 := 496) (pc' := 511) rfl (dc at_496) (by decide) (by decide) (XS.astore X123.here hx rfl (dc at_511) rfl rfl (l' := (lA x0 x1 x2 x3 z1 sd 2 z3 z4 z5 0 (sR r0) (sR r1) (sR r2) (sR a24) (sI 0) (sI 1) (sI 0) (sI 1) (sR r1))) rfl (XS.aload X123.here hx rfl (dc at_513) rfl rfl k)))))))))))))))))) ?_
                      refine Goes.callV X123 hx hZ19 0 hown19 (ow 218 rfl) (ow 219 rfl) (notFace_of_selects (args := #[]) (mvT hZ19 (ow 221 rfl))) (ow 221 rfl) (ow 220 rfl) (ow 167 rfl) (ow 222 rfl) (by decide) rfl (fb_exa FF127) (rmFst l Z a0 hw T123.heap Z124 FF127) (by decide) (by decide) (by decide) (by decide) rfl (by rw [hml]; rfl) (argsL := []) (rest := []) rfl (lenOf pd_24 rfl) rfl (own_le20 rfl) (dc at_515) ?_
                      rintro v128 T128 L128 X128 ⟨rfl, N128q, e128⟩
                      have N128 := Fr.app (Fr.app (Fr.app (Fr.app N41 N115q) N119q) N123q) N128q
                      show Goes p e below _ T128 (mkF m 518 (lA x0 x1 x2 x3 z1 sd 2 z3 z4 z5 0 (sR r0) (sR r1) (sR r2) (sR a24) (sI 0) (sI 1) (sI 0) (sI 1) (sR r1)) [(.ref r1)])
                      refine Goes.on (T' := T128) (g' := (mkF m 528 (lA x0 x1 x2 x3 z1 sd 2 z3 z4 z5 0 (sR r0) (sR r1) (sR r2) (sR a24) (sI 0) (sI 1) (sI 0) (sI 1) (sR r1)) [(.int 1)])) (fun _ k => XS.aload X128.here hx rfl (dc at_518) rfl rfl (XT.acmpNo X128.here hx rfl (dc at_520) rfl rfl rfl (XT.aa_ne_f rfl) (XS.iconst X128.here hx rfl (dc at_523) (XS.goto X128.here hx rfl (pc0 := 524) (pc' := 528) rfl (dc at_524) (by decide) (by decide) k)))) ?_
                      exact Goes.retBW X128 hS19 (by rw [e128]; exact Z125) hZ19 hEL (by rw [e128]; exact RR123) hx hlk hret (Or.inr rfl) (dc at_528) (by decide) (by decide) ⟨rfl, N128⟩
                    · refine Goes.on (T' := T41) (g' := (mkF m 250 (lA x0 x1 x2 x3 z1 sd 2 z3 z4 z5 1 (sR r0) (sR r1) (sR r2) (sR a24) su su su su su) [(.ref r0), (.ref a24)])) (fun _ k => XS.iload X41.here hx rfl (dc at_241) rfl (XS.ifNo X41.here hx rfl (dc at_243) rfl (XT.i0_le_f (by decide)) (XS.aload X41.here hx rfl (dc at_246) rfl rfl (XS.aload X41.here hx rfl (dc at_248) rfl rfl k)))) ?_
                      refine Goes.callV X41 hx hZ19 0 hown19 (ow 230 rfl) (ow 231 rfl) (notFace_of_selects (args := #[]) (mvT hZ19 (ow 233 rfl))) (ow 233 rfl) (ow 232 rfl) (ow 167 rfl) (ow 234 rfl) (by decide) rfl (bk_exa BK0) (rmAddB l Z a0 hw r0 z3 (Fprice x1) T41.heap Z74 BK0 (own_price x1)) (by decide) (by decide) (by decide) (by decide) rfl (by rw [hml]; rfl) (argsL := [(.ref r0)]) (rest := []) rfl (lenOf pd_25 rfl) rfl (own_le20 rfl) (dc at_250) ?_
                      rintro v129 T129 L129 X129 ⟨rfl, N129q, OS129, mc129, qs129, eq129, BK129⟩
                      show Goes p e below _ T129 (mkF m 253 (lA x0 x1 x2 x3 z1 sd 2 z3 z4 z5 1 (sR r0) (sR r1) (sR r2) (sR a24) su su su su su) [])
                      obtain ⟨ws129, Kw129, sw129⟩ := OS129
                      have RR129 := RR77.trans (CHr.keep Kw129 (own_safeS hZ19.alike sw129) RR77.1)
                      have Z130 := Nat.le_trans Z74 Kw129.1
                      have Z131 := Nat.le_trans Z75 Kw129.1
                      have eq129 : (mc129, ownPr qs129) = (ownAdd z3 (own_key z1 (Fprice x1)).toInt r0 ([], [])) := eq129
                      refine Goes.on (T' := T129) (g' := (mkF m 263 (lA x0 x1 x2 x3 z1 sd 2 z3 z4 z5 1 (sR r0) (sR r1) (sR r2) (sR a24) su su su su su) [(.ref r1), (.ref a24)])) (fun _ k => XS.iload X129.here hx rfl (dc at_253) rfl (XS.iconst X129.here hx rfl (dc at_255) (XS.icmpNo X129.here hx rfl (dc at_256) rfl (XT.ii_le_f (by decide)) (XS.aload X129.here hx rfl (dc at_259) rfl rfl (XS.aload X129.here hx rfl (dc at_261) rfl rfl k))))) ?_
                      refine Goes.callV X129 hx hZ19 0 hown19 (ow 230 rfl) (ow 231 rfl) (notFace_of_selects (args := #[]) (mvT hZ19 (ow 233 rfl))) (ow 233 rfl) (ow 232 rfl) (ow 167 rfl) (ow 234 rfl) (by decide) rfl (bk_exa BK129) (rmAddB l Z a0 hw r1 z4 (Fprice x2) T129.heap Z130 BK129 (own_price x2)) (by decide) (by decide) (by decide) (by decide) rfl (by rw [hml]; rfl) (argsL := [(.ref r1)]) (rest := []) rfl (lenOf pd_25 rfl) rfl (own_le20 rfl) (dc at_263) ?_
                      rintro v133 T133 L133 X133 ⟨rfl, N133q, OS133, mc133, qs133, eq133, BK133⟩
                      show Goes p e below _ T133 (mkF m 266 (lA x0 x1 x2 x3 z1 sd 2 z3 z4 z5 1 (sR r0) (sR r1) (sR r2) (sR a24) su su su su su) [])
                      obtain ⟨ws133, Kw133, sw133⟩ := OS133
                      have RR133 := RR129.trans (CHr.keep Kw133 (own_safeS hZ19.alike sw133) RR129.1)
                      have Z134 := Nat.le_trans Z130 Kw133.1
                      have Z135 := Nat.le_trans Z131 Kw133.1
                      rw [eq129] at eq133
                      have eq133 : (mc133, ownPr qs133) = (ownAdd z4 (own_key z1 (Fprice x2)).toInt r1 (ownAdd z3 (own_key z1 (Fprice x1)).toInt r0 ([], []))) := eq133
                      refine Goes.on (T' := T133) (g' := (mkF m 311 (lA x0 x1 x2 x3 z1 sd 2 z3 z4 z5 1 (sR r0) (sR r1) (sR r2) (sR a24) su su su su su) [(.ref r1), (.ref a24)])) (fun _ k => XS.iload X133.here hx rfl (dc at_266) rfl (XS.iconst X133.here hx rfl (dc at_268) (XS.icmpYes X133.here hx rfl (pc0 := 269) (pc' := 279) rfl (dc at_269) rfl (XT.ii_le_t (by decide)) (by decide) (by decide) (XS.iload X133.here hx rfl (dc at_279) rfl (XS.iload X133.here hx rfl (dc at_281) rfl (XS.icmpNo X133.here hx rfl (dc at_283) rfl (XT.ii_ge_f (by decide)) (XS.iload X133.here hx rfl (dc at_286) rfl (XS.ifYes X133.here hx rfl (pc0 := 288) (pc' := 301) rfl (dc at_288) rfl (XT.i0_ne_t (by decide)) (by decide) (by decide) (XS.iload X133.here hx rfl (dc at_301) rfl (XS.iconst X133.here hx rfl (dc at_303) (XS.icmpNo X133.here hx rfl (dc at_304) rfl (XT.ii_ne_f (by decide)) (XS.aload X133.here hx rfl (dc at_307) rfl rfl (XS.aload X133.here hx rfl (dc at_309) rfl rfl k))))))))))))) ?_
                      refine Goes.callV X133 hx hZ19 0 hown19 (ow 286 rfl) (ow 287 rfl) (notFace_of_selects (args := #[]) (mvT hZ19 (ow 289 rfl))) (ow 289 rfl) (ow 288 rfl) (ow 167 rfl) (ow 290 rfl) (by decide) rfl (bk_exa BK133) (rmRemB l Z a0 hw r1 T133.heap Z134 BK133 (own_all eq133 (own_mem_add _ _ _ _).1) (bk_len BK133)) (by decide) (by decide) (by decide) (by decide) rfl (by rw [hml]; rfl) (argsL := [(.ref r1)]) (rest := []) rfl (lenOf pd_25 rfl) rfl (own_le20 rfl) (dc at_311) ?_
                      rintro v137 T137 L137 X137 ⟨rfl, N137q, OS137, FB137⟩
                      show Goes p e below _ T137 (mkF m 314 (lA x0 x1 x2 x3 z1 sd 2 z3 z4 z5 1 (sR r0) (sR r1) (sR r2) (sR a24) su su su su su) [])
                      obtain ⟨ws137, Kw137, sw137⟩ := OS137
                      have RR137 := RR133.trans (CHr.keep Kw137 (own_safeS hZ19.alike sw137) RR133.1)
                      have Z138 := Nat.le_trans Z134 Kw137.1
                      have Z139 := Nat.le_trans Z135 Kw137.1
                      have FB137 : FB Z T137.heap a24 (ownVR r1 (ownAdd z4 (own_key z1 (Fprice x2)).toInt r1 (ownAdd z3 (own_key z1 (Fprice x1)).toInt r0 ([], [])))) := by
                        have q : FB Z T137.heap a24 (ownVR r1 (mc133, ownPr qs133)) := FB137
                        rw [eq133] at q
                        exact q
                      refine Goes.on (T' := T137) (g' := (mkF m 384 (lA x0 x1 x2 x3 z1 sd 2 z3 z4 z5 1 (sR r0) (sR r1) (sR r2) (sR a24) (sI 1) (sI 0) (sI 0) (sI (-1 : Int32)) su) [(.int 1)])) (fun _ k => XS.goto X137.here hx rfl (pc0 := 314) (pc' := 324) rfl (dc at_314) (by decide) (by decide) (XS.iload X137.here hx rfl (dc at_324) rfl (XS.ifNo X137.here hx rfl (dc at_326) rfl (XT.i0_le_f (by decide)) (XS.iload X137.here hx rfl (dc at_329) rfl (XS.ifNo X137.here hx rfl (dc at_331) rfl (XT.i0_eq_f (by decide)) (XS.iconst X137.here hx rfl (dc at_334) (XS.goto X137.here hx rfl (pc0 := 335) (pc' := 339) rfl (dc at_335) (by decide) (by decide) (XS.istore X137.here hx rfl (dc at_339) rfl (l' := (lA x0 x1 x2 x3 z1 sd 2 z3 z4 z5 1 (sR r0) (sR r1) (sR r2) (sR a24) (sI 1) su su su su)) rfl (XS.iload X137.here hx rfl (dc at_341) rfl (XS.iconst X137.here hx rfl (dc at_343) (XS.icmpNo X137.here hx rfl (dc at_344) rfl (XT.ii_le_f (by decide)) (XS.iload X137.here hx rfl (dc at_347) rfl (XS.iconst X137.here hx rfl (dc at_349) (XS.icmpYes X137.here hx rfl (pc0 := 350) (pc' := 357) rfl (dc at_350) rfl (XT.ii_eq_t (by decide)) (by decide) (by decide) (XS.iconst X137.here hx rfl (dc at_357) (XS.istore X137.here hx rfl (dc at_358) rfl (l' := (lA x0 x1 x2 x3 z1 sd 2 z3 z4 z5 1 (sR r0) (sR r1) (sR r2) (sR a24) (sI 1) (sI 0) su su su)) rfl (XS.iload X137.here hx rfl (dc at_360) rfl (XS.iconst X137.here hx rfl (dc at_362) (XS.icmpYes X137.here hx rfl (pc0 := 363) (pc' := 376) rfl (dc at_363) rfl (XT.ii_le_t (by decide)) (by decide) (by decide) (XS.iconst X137.here hx rfl (dc at_376) (XS.istore X137.here hx rfl (dc at_377) rfl (l' := (lA x0 x1 x2 x3 z1 sd 2 z3 z4 z5 1 (sR r0) (sR r1) (sR r2) (sR a24) (sI 1) (sI 0) (sI 0) su su)) rfl (XS.iconst X137.here hx rfl (dc at_379) (XS.istore X137.here hx rfl (dc at_380) rfl (l' := (lA x0 x1 x2 x3 z1 sd 2 z3 z4 z5 1 (sR r0) (sR r1) (sR r2) (sR a24) (sI 1) (sI 0) (sI 0) (sI (-1 : Int32)) su)) rfl (XS.iload X137.here hx rfl (dc at_382) rfl k)))))))))))))))))))))))) ?_
                      have FF141 : FB Z T137.heap a24 (.ref r0) := by
                        have q := FB137
                        rw [(own_p2 ne_r0_r1 z3 z4 (own_key z1 (Fprice x1)).toInt (own_key z1 (Fprice x2)).toInt).2.2.2] at q
                        exact q
                      refine Goes.on (T' := T137) (g' := (mkF m 515 (lA x0 x1 x2 x3 z1 sd 2 z3 z4 z5 1 (sR r0) (sR r1) (sR r2) (sR a24) (sI 1) (sI 0) (sI 0) (sI 0) (sR r0)) [(.ref a24)])) (fun _ k => XS.ifNo X137.here hx rfl (dc at_384) rfl (XT.i0_eq_f (by decide)) (XS.iconst X137.here hx rfl (dc at_387) (XS.istore X137.here hx rfl (dc at_388) rfl (l' := (lA x0 x1 x2 x3 z1 sd 2 z3 z4 z5 1 (sR r0) (sR r1) (sR r2) (sR a24) (sI 1) (sI 0) (sI 0) (sI 0) su)) rfl (XS.iload X137.here hx rfl (dc at_390) rfl (XS.ifYes X137.here hx rfl (pc0 := 392) (pc' := 419) rfl (dc at_392) rfl (XT.i0_eq_t (by decide)) (by decide) (by decide) (XS.iload X137.here hx rfl (dc at_419) rfl (XS.ifYes X137.here hx rfl (pc0 := 421) (pc' := 478) rfl (dc at_421) rfl (XT.i0_eq_t (by decide)) (by decide) (by decide) (XS.iload X137.here hx rfl (dc at_478) rfl (XS.ifNo X137.here hx rfl (dc at_480) rfl (XT.i0_ne_f (by decide)) (XS.aload X137.here hx rfl (dc at_483) rfl rfl (XS.goto X137.here hx rfl (pc0 := 485) (pc' := 511) rfl (dc at_485) (by decide) (by decide) (XS.astore X137.here hx rfl (dc at_511) rfl rfl (l' := (lA x0 x1 x2 x3 z1 sd 2 z3 z4 z5 1 (sR r0) (sR r1) (sR r2) (sR a24) (sI 1) (sI 0) (sI 0) (sI 0) (sR r0))) rfl (XS.aload X137.here hx rfl (dc at_513) rfl rfl k))))))))))))) ?_
                      refine Goes.callV X137 hx hZ19 0 hown19 (ow 218 rfl) (ow 219 rfl) (notFace_of_selects (args := #[]) (mvT hZ19 (ow 221 rfl))) (ow 221 rfl) (ow 220 rfl) (ow 167 rfl) (ow 222 rfl) (by decide) rfl (fb_exa FF141) (rmFst l Z a0 hw T137.heap Z138 FF141) (by decide) (by decide) (by decide) (by decide) rfl (by rw [hml]; rfl) (argsL := []) (rest := []) rfl (lenOf pd_24 rfl) rfl (own_le20 rfl) (dc at_515) ?_
                      rintro v142 T142 L142 X142 ⟨rfl, N142q, e142⟩
                      have N142 := Fr.app (Fr.app (Fr.app (Fr.app N41 N129q) N133q) N137q) N142q
                      show Goes p e below _ T142 (mkF m 518 (lA x0 x1 x2 x3 z1 sd 2 z3 z4 z5 1 (sR r0) (sR r1) (sR r2) (sR a24) (sI 1) (sI 0) (sI 0) (sI 0) (sR r0)) [(.ref r0)])
                      refine Goes.on (T' := T142) (g' := (mkF m 528 (lA x0 x1 x2 x3 z1 sd 2 z3 z4 z5 1 (sR r0) (sR r1) (sR r2) (sR a24) (sI 1) (sI 0) (sI 0) (sI 0) (sR r0)) [(.int 1)])) (fun _ k => XS.aload X142.here hx rfl (dc at_518) rfl rfl (XT.acmpNo X142.here hx rfl (dc at_520) rfl rfl rfl (XT.aa_ne_f rfl) (XS.iconst X142.here hx rfl (dc at_523) (XS.goto X142.here hx rfl (pc0 := 524) (pc' := 528) rfl (dc at_524) (by decide) (by decide) k)))) ?_
                      exact Goes.retBW X142 hS19 (by rw [e142]; exact Z139) hZ19 hEL (by rw [e142]; exact RR137) hx hlk hret (Or.inr rfl) (dc at_528) (by decide) (by decide) ⟨rfl, N142⟩
                    · refine Goes.on (T' := T41) (g' := (mkF m 250 (lA x0 x1 x2 x3 z1 sd 2 z3 z4 z5 2 (sR r0) (sR r1) (sR r2) (sR a24) su su su su su) [(.ref r0), (.ref a24)])) (fun _ k => XS.iload X41.here hx rfl (dc at_241) rfl (XS.ifNo X41.here hx rfl (dc at_243) rfl (XT.i0_le_f (by decide)) (XS.aload X41.here hx rfl (dc at_246) rfl rfl (XS.aload X41.here hx rfl (dc at_248) rfl rfl k)))) ?_
                      refine Goes.callV X41 hx hZ19 0 hown19 (ow 230 rfl) (ow 231 rfl) (notFace_of_selects (args := #[]) (mvT hZ19 (ow 233 rfl))) (ow 233 rfl) (ow 232 rfl) (ow 167 rfl) (ow 234 rfl) (by decide) rfl (bk_exa BK0) (rmAddB l Z a0 hw r0 z3 (Fprice x1) T41.heap Z74 BK0 (own_price x1)) (by decide) (by decide) (by decide) (by decide) rfl (by rw [hml]; rfl) (argsL := [(.ref r0)]) (rest := []) rfl (lenOf pd_25 rfl) rfl (own_le20 rfl) (dc at_250) ?_
                      rintro v143 T143 L143 X143 ⟨rfl, N143q, OS143, mc143, qs143, eq143, BK143⟩
                      show Goes p e below _ T143 (mkF m 253 (lA x0 x1 x2 x3 z1 sd 2 z3 z4 z5 2 (sR r0) (sR r1) (sR r2) (sR a24) su su su su su) [])
                      obtain ⟨ws143, Kw143, sw143⟩ := OS143
                      have RR143 := RR77.trans (CHr.keep Kw143 (own_safeS hZ19.alike sw143) RR77.1)
                      have Z144 := Nat.le_trans Z74 Kw143.1
                      have Z145 := Nat.le_trans Z75 Kw143.1
                      have eq143 : (mc143, ownPr qs143) = (ownAdd z3 (own_key z1 (Fprice x1)).toInt r0 ([], [])) := eq143
                      refine Goes.on (T' := T143) (g' := (mkF m 263 (lA x0 x1 x2 x3 z1 sd 2 z3 z4 z5 2 (sR r0) (sR r1) (sR r2) (sR a24) su su su su su) [(.ref r1), (.ref a24)])) (fun _ k => XS.iload X143.here hx rfl (dc at_253) rfl (XS.iconst X143.here hx rfl (dc at_255) (XS.icmpNo X143.here hx rfl (dc at_256) rfl (XT.ii_le_f (by decide)) (XS.aload X143.here hx rfl (dc at_259) rfl rfl (XS.aload X143.here hx rfl (dc at_261) rfl rfl k))))) ?_
                      refine Goes.callV X143 hx hZ19 0 hown19 (ow 230 rfl) (ow 231 rfl) (notFace_of_selects (args := #[]) (mvT hZ19 (ow 233 rfl))) (ow 233 rfl) (ow 232 rfl) (ow 167 rfl) (ow 234 rfl) (by decide) rfl (bk_exa BK143) (rmAddB l Z a0 hw r1 z4 (Fprice x2) T143.heap Z144 BK143 (own_price x2)) (by decide) (by decide) (by decide) (by decide) rfl (by rw [hml]; rfl) (argsL := [(.ref r1)]) (rest := []) rfl (lenOf pd_25 rfl) rfl (own_le20 rfl) (dc at_263) ?_
                      rintro v147 T147 L147 X147 ⟨rfl, N147q, OS147, mc147, qs147, eq147, BK147⟩
                      show Goes p e below _ T147 (mkF m 266 (lA x0 x1 x2 x3 z1 sd 2 z3 z4 z5 2 (sR r0) (sR r1) (sR r2) (sR a24) su su su su su) [])
                      obtain ⟨ws147, Kw147, sw147⟩ := OS147
                      have RR147 := RR143.trans (CHr.keep Kw147 (own_safeS hZ19.alike sw147) RR143.1)
                      have Z148 := Nat.le_trans Z144 Kw147.1
                      have Z149 := Nat.le_trans Z145 Kw147.1
                      rw [eq143] at eq147
                      have eq147 : (mc147, ownPr qs147) = (ownAdd z4 (own_key z1 (Fprice x2)).toInt r1 (ownAdd z3 (own_key z1 (Fprice x1)).toInt r0 ([], []))) := eq147
                      refine Goes.on (T' := T147) (g' := (mkF m 363 (lA x0 x1 x2 x3 z1 sd 2 z3 z4 z5 2 (sR r0) (sR r1) (sR r2) (sR a24) (sI 1) (sI 1) su su su) [(.int 2), (.int 2)])) (fun _ k => XS.iload X147.here hx rfl (dc at_266) rfl (XS.iconst X147.here hx rfl (dc at_268) (XS.icmpYes X147.here hx rfl (pc0 := 269) (pc' := 279) rfl (dc at_269) rfl (XT.ii_le_t (by decide)) (by decide) (by decide) (XS.iload X147.here hx rfl (dc at_279) rfl (XS.iload X147.here hx rfl (dc at_281) rfl (XS.icmpYes X147.here hx rfl (pc0 := 283) (pc' := 324) rfl (dc at_283) rfl (XT.ii_ge_t (by decide)) (by decide) (by decide) (XS.iload X147.here hx rfl (dc at_324) rfl (XS.ifNo X147.here hx rfl (dc at_326) rfl (XT.i0_le_f (by decide)) (XS.iload X147.here hx rfl (dc at_329) rfl (XS.ifNo X147.here hx rfl (dc at_331) rfl (XT.i0_eq_f (by decide)) (XS.iconst X147.here hx rfl (dc at_334) (XS.goto X147.here hx rfl (pc0 := 335) (pc' := 339) rfl (dc at_335) (by decide) (by decide) (XS.istore X147.here hx rfl (dc at_339) rfl (l' := (lA x0 x1 x2 x3 z1 sd 2 z3 z4 z5 2 (sR r0) (sR r1) (sR r2) (sR a24) (sI 1) su su su su)) rfl (XS.iload X147.here hx rfl (dc at_341) rfl (XS.iconst X147.here hx rfl (dc at_343) (XS.icmpNo X147.here hx rfl (dc at_344) rfl (XT.ii_le_f (by decide)) (XS.iload X147.here hx rfl (dc at_347) rfl (XS.iconst X147.here hx rfl (dc at_349) (XS.icmpNo X147.here hx rfl (dc at_350) rfl (XT.ii_eq_f (by decide)) (XS.iconst X147.here hx rfl (dc at_353) (XS.goto X147.here hx rfl (pc0 := 354) (pc' := 358) rfl (dc at_354) (by decide) (by decide) (XS.istore X147.here hx rfl (dc at_358) rfl (l' := (lA x0 x1 x2 x3 z1 sd 2 z3 z4 z5 2 (sR r0) (sR r1) (sR r2) (sR a24) (sI 1) (sI 1) su su su)) rfl (XS.iload X147.here hx rfl (dc at_360) rfl (XS.iconst X147.here hx rfl (dc at_362) k)))))))))))))))))))))))) ?_
                      refine Goes.on (T' := T147) (g' := (mkF m 410 (lA x0 x1 x2 x3 z1 sd 2 z3 z4 z5 2 (sR r0) (sR r1) (sR r2) (sR a24) (sI 1) (sI 1) (sI 0) (sI 0) su) [(.long (Fprice x1)), (.int z3), (.long (Fprice x2)), (.int z4), (.int z1)])) (fun _ k => XS.icmpYes X147.here hx rfl (pc0 := 363) (pc' := 376) rfl (dc at_363) rfl (XT.ii_le_t (by decide)) (by decide) (by decide) (XS.iconst X147.here hx rfl (dc at_376) (XS.istore X147.here hx rfl (dc at_377) rfl (l' := (lA x0 x1 x2 x3 z1 sd 2 z3 z4 z5 2 (sR r0) (sR r1) (sR r2) (sR a24) (sI 1) (sI 1) (sI 0) su su)) rfl (XS.iconst X147.here hx rfl (dc at_379) (XS.istore X147.here hx rfl (dc at_380) rfl (l' := (lA x0 x1 x2 x3 z1 sd 2 z3 z4 z5 2 (sR r0) (sR r1) (sR r2) (sR a24) (sI 1) (sI 1) (sI 0) (sI (-1 : Int32)) su)) rfl (XS.iload X147.here hx rfl (dc at_382) rfl (XS.ifNo X147.here hx rfl (dc at_384) rfl (XT.i0_eq_f (by decide)) (XS.iconst X147.here hx rfl (dc at_387) (XS.istore X147.here hx rfl (dc at_388) rfl (l' := (lA x0 x1 x2 x3 z1 sd 2 z3 z4 z5 2 (sR r0) (sR r1) (sR r2) (sR a24) (sI 1) (sI 1) (sI 0) (sI 0) su)) rfl (XS.iload X147.here hx rfl (dc at_390) rfl (XS.ifNo X147.here hx rfl (dc at_392) rfl (XT.i0_eq_f (by decide)) (XS.iload X147.here hx rfl (dc at_395) rfl (XS.ifNo X147.here hx rfl (dc at_397) rfl (XT.i0_lt_f (by decide)) (XS.iload X147.here hx rfl (dc at_400) rfl (XS.iload X147.here hx rfl (dc at_402) rfl (XS.lload X147.here hx rfl (dc at_404) rfl (XS.iload X147.here hx rfl (dc at_406) rfl (XS.lload X147.here hx rfl (dc at_408) rfl k)))))))))))))))))) ?_
                      refine Goes.callS X147 hx hZ19 0 hown19 (ow 293 rfl) (ow 294 rfl) (ow 5 rfl) (ow 295 rfl) (by decide) rfl (rmbefore l Z a0 hw z1 z4 (Fprice x2) z3 (Fprice x1) T147.heap n0 Z148) (by decide) (by decide) (by decide) (by decide) rfl (by rw [hml]; rfl) (argsL := [(.int z1), (.int z4), (.long (Fprice x2)), (.int z3), (.long (Fprice x1))]) (rest := []) rfl (lenOf pd_26 rfl) rfl (own_le20 rfl) (dc at_410) ?_
                      rintro v151 T151 L151 X151 ⟨rfl, N151q, e151⟩
                      have N151 := Fr.app (Fr.app (Fr.app N41 N143q) N147q) N151q
                      show Goes p e below _ T151 (mkF m 413 (lA x0 x1 x2 x3 z1 sd 2 z3 z4 z5 2 (sR r0) (sR r1) (sR r2) (sR a24) (sI 1) (sI 1) (sI 0) (sI 0) su) [(.int (Fbefore z1 z4 (Fprice x2) z3 (Fprice x1)))])
                      by_cases hc152 : (Fbefore z1 z4 (Fprice x2) z3 (Fprice x1)) = (0 : Int32)
                      · have FF153 : FB Z T147.heap a24 (.ref r0) := by
                          have q : FB Z T147.heap a24 (ownV (mc147, ownPr qs147)) := bk_fb (bk_len BK147) BK147
                          rw [eq147, (own_p2 ne_r0_r1 z3 z4 (own_key z1 (Fprice x1)).toInt (own_key z1 (Fprice x2)).toInt).1 ((own_bf (own_price x2) (own_price x1)).1 hc152)] at q
                          exact q
                        refine Goes.on (T' := T151) (g' := (mkF m 515 (lA x0 x1 x2 x3 z1 sd 2 z3 z4 z5 2 (sR r0) (sR r1) (sR r2) (sR a24) (sI 1) (sI 1) (sI 0) (sI 0) (sR r0)) [(.ref a24)])) (fun _ k => XS.ifYes X151.here hx rfl (pc0 := 413) (pc' := 419) rfl (dc at_413) rfl (XT.i0_eq_t hc152) (by decide) (by decide) (XS.iload X151.here hx rfl (dc at_419) rfl (XS.ifYes X151.here hx rfl (pc0 := 421) (pc' := 478) rfl (dc at_421) rfl (XT.i0_eq_t (by decide)) (by decide) (by decide) (XS.iload X151.here hx rfl (dc at_478) rfl (XS.ifNo X151.here hx rfl (dc at_480) rfl (XT.i0_ne_f (by decide)) (XS.aload X151.here hx rfl (dc at_483) rfl rfl (XS.goto X151.here hx rfl (pc0 := 485) (pc' := 511) rfl (dc at_485) (by decide) (by decide) (XS.astore X151.here hx rfl (dc at_511) rfl rfl (l' := (lA x0 x1 x2 x3 z1 sd 2 z3 z4 z5 2 (sR r0) (sR r1) (sR r2) (sR a24) (sI 1) (sI 1) (sI 0) (sI 0) (sR r0))) rfl (XS.aload X151.here hx rfl (dc at_513) rfl rfl k))))))))) ?_
                        refine Goes.callV X151 hx hZ19 0 hown19 (ow 218 rfl) (ow 219 rfl) (notFace_of_selects (args := #[]) (mvT hZ19 (ow 221 rfl))) (ow 221 rfl) (ow 220 rfl) (ow 167 rfl) (ow 222 rfl) (by decide) e151 (fb_exa FF153) (rmFst l Z a0 hw T147.heap Z148 FF153) (by decide) (by decide) (by decide) (by decide) rfl (by rw [hml]; rfl) (argsL := []) (rest := []) rfl (lenOf pd_24 rfl) rfl (own_le20 rfl) (dc at_515) ?_
                        rintro v154 T154 L154 X154 ⟨rfl, N154q, e154⟩
                        have N154 := Fr.app N151 N154q
                        show Goes p e below _ T154 (mkF m 518 (lA x0 x1 x2 x3 z1 sd 2 z3 z4 z5 2 (sR r0) (sR r1) (sR r2) (sR a24) (sI 1) (sI 1) (sI 0) (sI 0) (sR r0)) [(.ref r0)])
                        refine Goes.on (T' := T154) (g' := (mkF m 528 (lA x0 x1 x2 x3 z1 sd 2 z3 z4 z5 2 (sR r0) (sR r1) (sR r2) (sR a24) (sI 1) (sI 1) (sI 0) (sI 0) (sR r0)) [(.int 1)])) (fun _ k => XS.aload X154.here hx rfl (dc at_518) rfl rfl (XT.acmpNo X154.here hx rfl (dc at_520) rfl rfl rfl (XT.aa_ne_f rfl) (XS.iconst X154.here hx rfl (dc at_523) (XS.goto X154.here hx rfl (pc0 := 524) (pc' := 528) rfl (dc at_524) (by decide) (by decide) k)))) ?_
                        exact Goes.retBW X154 hS19 (by rw [e154]; exact Z149) hZ19 hEL (by rw [e154]; exact RR147) hx hlk hret (Or.inr rfl) (dc at_528) (by decide) (by decide) ⟨rfl, N154⟩
                      · have FF155 : FB Z T147.heap a24 (.ref r1) := by
                          have q : FB Z T147.heap a24 (ownV (mc147, ownPr qs147)) := bk_fb (bk_len BK147) BK147
                          rw [eq147, (own_p2 ne_r0_r1 z3 z4 (own_key z1 (Fprice x1)).toInt (own_key z1 (Fprice x2)).toInt).2.1 ((own_bf (own_price x2) (own_price x1)).2 hc152)] at q
                          exact q
                        refine Goes.on (T' := T151) (g' := (mkF m 515 (lA x0 x1 x2 x3 z1 sd 2 z3 z4 z5 2 (sR r0) (sR r1) (sR r2) (sR a24) (sI 1) (sI 1) (sI 0) (sI 1) (sR r1)) [(.ref a24)])) (fun _ k => XS.ifNo X151.here hx rfl (dc at_413) rfl (XT.i0_eq_f hc152) (XS.iconst X151.here hx rfl (dc at_416) (XS.istore X151.here hx rfl (dc at_417) rfl (l' := (lA x0 x1 x2 x3 z1 sd 2 z3 z4 z5 2 (sR r0) (sR r1) (sR r2) (sR a24) (sI 1) (sI 1) (sI 0) (sI 1) su)) rfl (XS.iload X151.here hx rfl (dc at_419) rfl (XS.ifYes X151.here hx rfl (pc0 := 421) (pc' := 478) rfl (dc at_421) rfl (XT.i0_eq_t (by decide)) (by decide) (by decide) (XS.iload X151.here hx rfl (dc at_478) rfl (XS.ifYes X151.here hx rfl (pc0 := 480) (pc' := 488) rfl (dc at_480) rfl (XT.i0_ne_t (by decide)) (by decide) (by decide) (XS.iload X151.here hx rfl (dc at_488) rfl (XS.iconst X151.here hx rfl (dc at_490) (XS.icmpNo X151.here hx rfl (dc at_491) rfl (XT.ii_ne_f (by decide)) (XS.aload X151.here hx rfl (dc at_494) rfl rfl (XS.goto X151.here hx rfl (pc0 := 496) (pc' := 511) rfl (dc at_496) (by decide) (by decide) (XS.astore X151.here hx rfl (dc at_511) rfl rfl (l' := (lA x0 x1 x2 x3 z1 sd 2 z3 z4 z5 2 (sR r0) (sR r1) (sR r2) (sR a24) (sI 1) (sI 1) (sI 0) (sI 1) (sR r1))) rfl (XS.aload X151.here hx rfl (dc at_513) rfl rfl k)))))))))))))) ?_
                        refine Goes.callV X151 hx hZ19 0 hown19 (ow 218 rfl) (ow 219 rfl) (notFace_of_selects (args := #[]) (mvT hZ19 (ow 221 rfl))) (ow 221 rfl) (ow 220 rfl) (ow 167 rfl) (ow 222 rfl) (by decide) e151 (fb_exa FF155) (rmFst l Z a0 hw T147.heap Z148 FF155) (by decide) (by decide) (by decide) (by decide) rfl (by rw [hml]; rfl) (argsL := []) (rest := []) rfl (lenOf pd_24 rfl) rfl (own_le20 rfl) (dc at_515) ?_
                        rintro v156 T156 L156 X156 ⟨rfl, N156q, e156⟩
                        have N156 := Fr.app N151 N156q
                        show Goes p e below _ T156 (mkF m 518 (lA x0 x1 x2 x3 z1 sd 2 z3 z4 z5 2 (sR r0) (sR r1) (sR r2) (sR a24) (sI 1) (sI 1) (sI 0) (sI 1) (sR r1)) [(.ref r1)])
                        refine Goes.on (T' := T156) (g' := (mkF m 528 (lA x0 x1 x2 x3 z1 sd 2 z3 z4 z5 2 (sR r0) (sR r1) (sR r2) (sR a24) (sI 1) (sI 1) (sI 0) (sI 1) (sR r1)) [(.int 1)])) (fun _ k => XS.aload X156.here hx rfl (dc at_518) rfl rfl (XT.acmpNo X156.here hx rfl (dc at_520) rfl rfl rfl (XT.aa_ne_f rfl) (XS.iconst X156.here hx rfl (dc at_523) (XS.goto X156.here hx rfl (pc0 := 524) (pc' := 528) rfl (dc at_524) (by decide) (by decide) k)))) ?_
                        exact Goes.retBW X156 hS19 (by rw [e156]; exact Z149) hZ19 hEL (by rw [e156]; exact RR147) hx hlk hret (Or.inr rfl) (dc at_528) (by decide) (by decide) ⟨rfl, N156⟩
                    · refine Goes.on (T' := T41) (g' := (mkF m 250 (lA x0 x1 x2 x3 z1 sd 2 z3 z4 z5 3 (sR r0) (sR r1) (sR r2) (sR a24) su su su su su) [(.ref r0), (.ref a24)])) (fun _ k => XS.iload X41.here hx rfl (dc at_241) rfl (XS.ifNo X41.here hx rfl (dc at_243) rfl (XT.i0_le_f (by decide)) (XS.aload X41.here hx rfl (dc at_246) rfl rfl (XS.aload X41.here hx rfl (dc at_248) rfl rfl k)))) ?_
                      refine Goes.callV X41 hx hZ19 0 hown19 (ow 230 rfl) (ow 231 rfl) (notFace_of_selects (args := #[]) (mvT hZ19 (ow 233 rfl))) (ow 233 rfl) (ow 232 rfl) (ow 167 rfl) (ow 234 rfl) (by decide) rfl (bk_exa BK0) (rmAddB l Z a0 hw r0 z3 (Fprice x1) T41.heap Z74 BK0 (own_price x1)) (by decide) (by decide) (by decide) (by decide) rfl (by rw [hml]; rfl) (argsL := [(.ref r0)]) (rest := []) rfl (lenOf pd_25 rfl) rfl (own_le20 rfl) (dc at_250) ?_
                      rintro v157 T157 L157 X157 ⟨rfl, N157q, OS157, mc157, qs157, eq157, BK157⟩
                      show Goes p e below _ T157 (mkF m 253 (lA x0 x1 x2 x3 z1 sd 2 z3 z4 z5 3 (sR r0) (sR r1) (sR r2) (sR a24) su su su su su) [])
                      obtain ⟨ws157, Kw157, sw157⟩ := OS157
                      have RR157 := RR77.trans (CHr.keep Kw157 (own_safeS hZ19.alike sw157) RR77.1)
                      have Z158 := Nat.le_trans Z74 Kw157.1
                      have Z159 := Nat.le_trans Z75 Kw157.1
                      have eq157 : (mc157, ownPr qs157) = (ownAdd z3 (own_key z1 (Fprice x1)).toInt r0 ([], [])) := eq157
                      refine Goes.on (T' := T157) (g' := (mkF m 263 (lA x0 x1 x2 x3 z1 sd 2 z3 z4 z5 3 (sR r0) (sR r1) (sR r2) (sR a24) su su su su su) [(.ref r1), (.ref a24)])) (fun _ k => XS.iload X157.here hx rfl (dc at_253) rfl (XS.iconst X157.here hx rfl (dc at_255) (XS.icmpNo X157.here hx rfl (dc at_256) rfl (XT.ii_le_f (by decide)) (XS.aload X157.here hx rfl (dc at_259) rfl rfl (XS.aload X157.here hx rfl (dc at_261) rfl rfl k))))) ?_
                      refine Goes.callV X157 hx hZ19 0 hown19 (ow 230 rfl) (ow 231 rfl) (notFace_of_selects (args := #[]) (mvT hZ19 (ow 233 rfl))) (ow 233 rfl) (ow 232 rfl) (ow 167 rfl) (ow 234 rfl) (by decide) rfl (bk_exa BK157) (rmAddB l Z a0 hw r1 z4 (Fprice x2) T157.heap Z158 BK157 (own_price x2)) (by decide) (by decide) (by decide) (by decide) rfl (by rw [hml]; rfl) (argsL := [(.ref r1)]) (rest := []) rfl (lenOf pd_25 rfl) rfl (own_le20 rfl) (dc at_263) ?_
                      rintro v161 T161 L161 X161 ⟨rfl, N161q, OS161, mc161, qs161, eq161, BK161⟩
                      show Goes p e below _ T161 (mkF m 266 (lA x0 x1 x2 x3 z1 sd 2 z3 z4 z5 3 (sR r0) (sR r1) (sR r2) (sR a24) su su su su su) [])
                      obtain ⟨ws161, Kw161, sw161⟩ := OS161
                      have RR161 := RR157.trans (CHr.keep Kw161 (own_safeS hZ19.alike sw161) RR157.1)
                      have Z162 := Nat.le_trans Z158 Kw161.1
                      have Z163 := Nat.le_trans Z159 Kw161.1
                      rw [eq157] at eq161
                      have eq161 : (mc161, ownPr qs161) = (ownAdd z4 (own_key z1 (Fprice x2)).toInt r1 (ownAdd z3 (own_key z1 (Fprice x1)).toInt r0 ([], []))) := eq161
                      refine Goes.on (T' := T161) (g' := (mkF m 363 (lA x0 x1 x2 x3 z1 sd 2 z3 z4 z5 3 (sR r0) (sR r1) (sR r2) (sR a24) (sI 1) (sI 1) su su su) [(.int 2), (.int 2)])) (fun _ k => XS.iload X161.here hx rfl (dc at_266) rfl (XS.iconst X161.here hx rfl (dc at_268) (XS.icmpYes X161.here hx rfl (pc0 := 269) (pc' := 279) rfl (dc at_269) rfl (XT.ii_le_t (by decide)) (by decide) (by decide) (XS.iload X161.here hx rfl (dc at_279) rfl (XS.iload X161.here hx rfl (dc at_281) rfl (XS.icmpYes X161.here hx rfl (pc0 := 283) (pc' := 324) rfl (dc at_283) rfl (XT.ii_ge_t (by decide)) (by decide) (by decide) (XS.iload X161.here hx rfl (dc at_324) rfl (XS.ifNo X161.here hx rfl (dc at_326) rfl (XT.i0_le_f (by decide)) (XS.iload X161.here hx rfl (dc at_329) rfl (XS.ifNo X161.here hx rfl (dc at_331) rfl (XT.i0_eq_f (by decide)) (XS.iconst X161.here hx rfl (dc at_334) (XS.goto X161.here hx rfl (pc0 := 335) (pc' := 339) rfl (dc at_335) (by decide) (by decide) (XS.istore X161.here hx rfl (dc at_339) rfl (l' := (lA x0 x1 x2 x3 z1 sd 2 z3 z4 z5 3 (sR r0) (sR r1) (sR r2) (sR a24) (sI 1) su su su su)) rfl (XS.iload X161.here hx rfl (dc at_341) rfl (XS.iconst X161.here hx rfl (dc at_343) (XS.icmpNo X161.here hx rfl (dc at_344) rfl (XT.ii_le_f (by decide)) (XS.iload X161.here hx rfl (dc at_347) rfl (XS.iconst X161.here hx rfl (dc at_349) (XS.icmpNo X161.here hx rfl (dc at_350) rfl (XT.ii_eq_f (by decide)) (XS.iconst X161.here hx rfl (dc at_353) (XS.goto X161.here hx rfl (pc0 := 354) (pc' := 358) rfl (dc at_354) (by decide) (by decide) (XS.istore X161.here hx rfl (dc at_358) rfl (l' := (lA x0 x1 x2 x3 z1 sd 2 z3 z4 z5 3 (sR r0) (sR r1) (sR r2) (sR a24) (sI 1) (sI 1) su su su)) rfl (XS.iload X161.here hx rfl (dc at_360) rfl (XS.iconst X161.here hx rfl (dc at_362) k)))))))))))))))))))))))) ?_
                      refine Goes.on (T' := T161) (g' := (mkF m 410 (lA x0 x1 x2 x3 z1 sd 2 z3 z4 z5 3 (sR r0) (sR r1) (sR r2) (sR a24) (sI 1) (sI 1) (sI 0) (sI 0) su) [(.long (Fprice x1)), (.int z3), (.long (Fprice x2)), (.int z4), (.int z1)])) (fun _ k => XS.icmpYes X161.here hx rfl (pc0 := 363) (pc' := 376) rfl (dc at_363) rfl (XT.ii_le_t (by decide)) (by decide) (by decide) (XS.iconst X161.here hx rfl (dc at_376) (XS.istore X161.here hx rfl (dc at_377) rfl (l' := (lA x0 x1 x2 x3 z1 sd 2 z3 z4 z5 3 (sR r0) (sR r1) (sR r2) (sR a24) (sI 1) (sI 1) (sI 0) su su)) rfl (XS.iconst X161.here hx rfl (dc at_379) (XS.istore X161.here hx rfl (dc at_380) rfl (l' := (lA x0 x1 x2 x3 z1 sd 2 z3 z4 z5 3 (sR r0) (sR r1) (sR r2) (sR a24) (sI 1) (sI 1) (sI 0) (sI (-1 : Int32)) su)) rfl (XS.iload X161.here hx rfl (dc at_382) rfl (XS.ifNo X161.here hx rfl (dc at_384) rfl (XT.i0_eq_f (by decide)) (XS.iconst X161.here hx rfl (dc at_387) (XS.istore X161.here hx rfl (dc at_388) rfl (l' := (lA x0 x1 x2 x3 z1 sd 2 z3 z4 z5 3 (sR r0) (sR r1) (sR r2) (sR a24) (sI 1) (sI 1) (sI 0) (sI 0) su)) rfl (XS.iload X161.here hx rfl (dc at_390) rfl (XS.ifNo X161.here hx rfl (dc at_392) rfl (XT.i0_eq_f (by decide)) (XS.iload X161.here hx rfl (dc at_395) rfl (XS.ifNo X161.here hx rfl (dc at_397) rfl (XT.i0_lt_f (by decide)) (XS.iload X161.here hx rfl (dc at_400) rfl (XS.iload X161.here hx rfl (dc at_402) rfl (XS.lload X161.here hx rfl (dc at_404) rfl (XS.iload X161.here hx rfl (dc at_406) rfl (XS.lload X161.here hx rfl (dc at_408) rfl k)))))))))))))))))) ?_
                      refine Goes.callS X161 hx hZ19 0 hown19 (ow 293 rfl) (ow 294 rfl) (ow 5 rfl) (ow 295 rfl) (by decide) rfl (rmbefore l Z a0 hw z1 z4 (Fprice x2) z3 (Fprice x1) T161.heap n0 Z162) (by decide) (by decide) (by decide) (by decide) rfl (by rw [hml]; rfl) (argsL := [(.int z1), (.int z4), (.long (Fprice x2)), (.int z3), (.long (Fprice x1))]) (rest := []) rfl (lenOf pd_26 rfl) rfl (own_le20 rfl) (dc at_410) ?_
                      rintro v165 T165 L165 X165 ⟨rfl, N165q, e165⟩
                      have N165 := Fr.app (Fr.app (Fr.app N41 N157q) N161q) N165q
                      show Goes p e below _ T165 (mkF m 413 (lA x0 x1 x2 x3 z1 sd 2 z3 z4 z5 3 (sR r0) (sR r1) (sR r2) (sR a24) (sI 1) (sI 1) (sI 0) (sI 0) su) [(.int (Fbefore z1 z4 (Fprice x2) z3 (Fprice x1)))])
                      by_cases hc166 : (Fbefore z1 z4 (Fprice x2) z3 (Fprice x1)) = (0 : Int32)
                      · have FF167 : FB Z T161.heap a24 (.ref r0) := by
                          have q : FB Z T161.heap a24 (ownV (mc161, ownPr qs161)) := bk_fb (bk_len BK161) BK161
                          rw [eq161, (own_p2 ne_r0_r1 z3 z4 (own_key z1 (Fprice x1)).toInt (own_key z1 (Fprice x2)).toInt).1 ((own_bf (own_price x2) (own_price x1)).1 hc166)] at q
                          exact q
                        refine Goes.on (T' := T165) (g' := (mkF m 515 (lA x0 x1 x2 x3 z1 sd 2 z3 z4 z5 3 (sR r0) (sR r1) (sR r2) (sR a24) (sI 1) (sI 1) (sI 0) (sI 0) (sR r0)) [(.ref a24)])) (fun _ k => XS.ifYes X165.here hx rfl (pc0 := 413) (pc' := 419) rfl (dc at_413) rfl (XT.i0_eq_t hc166) (by decide) (by decide) (XS.iload X165.here hx rfl (dc at_419) rfl (XS.ifYes X165.here hx rfl (pc0 := 421) (pc' := 478) rfl (dc at_421) rfl (XT.i0_eq_t (by decide)) (by decide) (by decide) (XS.iload X165.here hx rfl (dc at_478) rfl (XS.ifNo X165.here hx rfl (dc at_480) rfl (XT.i0_ne_f (by decide)) (XS.aload X165.here hx rfl (dc at_483) rfl rfl (XS.goto X165.here hx rfl (pc0 := 485) (pc' := 511) rfl (dc at_485) (by decide) (by decide) (XS.astore X165.here hx rfl (dc at_511) rfl rfl (l' := (lA x0 x1 x2 x3 z1 sd 2 z3 z4 z5 3 (sR r0) (sR r1) (sR r2) (sR a24) (sI 1) (sI 1) (sI 0) (sI 0) (sR r0))) rfl (XS.aload X165.here hx rfl (dc at_513) rfl rfl k))))))))) ?_
                        refine Goes.callV X165 hx hZ19 0 hown19 (ow 218 rfl) (ow 219 rfl) (notFace_of_selects (args := #[]) (mvT hZ19 (ow 221 rfl))) (ow 221 rfl) (ow 220 rfl) (ow 167 rfl) (ow 222 rfl) (by decide) e165 (fb_exa FF167) (rmFst l Z a0 hw T161.heap Z162 FF167) (by decide) (by decide) (by decide) (by decide) rfl (by rw [hml]; rfl) (argsL := []) (rest := []) rfl (lenOf pd_24 rfl) rfl (own_le20 rfl) (dc at_515) ?_
                        rintro v168 T168 L168 X168 ⟨rfl, N168q, e168⟩
                        have N168 := Fr.app N165 N168q
                        show Goes p e below _ T168 (mkF m 518 (lA x0 x1 x2 x3 z1 sd 2 z3 z4 z5 3 (sR r0) (sR r1) (sR r2) (sR a24) (sI 1) (sI 1) (sI 0) (sI 0) (sR r0)) [(.ref r0)])
                        refine Goes.on (T' := T168) (g' := (mkF m 528 (lA x0 x1 x2 x3 z1 sd 2 z3 z4 z5 3 (sR r0) (sR r1) (sR r2) (sR a24) (sI 1) (sI 1) (sI 0) (sI 0) (sR r0)) [(.int 1)])) (fun _ k => XS.aload X168.here hx rfl (dc at_518) rfl rfl (XT.acmpNo X168.here hx rfl (dc at_520) rfl rfl rfl (XT.aa_ne_f rfl) (XS.iconst X168.here hx rfl (dc at_523) (XS.goto X168.here hx rfl (pc0 := 524) (pc' := 528) rfl (dc at_524) (by decide) (by decide) k)))) ?_
                        exact Goes.retBW X168 hS19 (by rw [e168]; exact Z163) hZ19 hEL (by rw [e168]; exact RR161) hx hlk hret (Or.inr rfl) (dc at_528) (by decide) (by decide) ⟨rfl, N168⟩
                      · have FF169 : FB Z T161.heap a24 (.ref r1) := by
                          have q : FB Z T161.heap a24 (ownV (mc161, ownPr qs161)) := bk_fb (bk_len BK161) BK161
                          rw [eq161, (own_p2 ne_r0_r1 z3 z4 (own_key z1 (Fprice x1)).toInt (own_key z1 (Fprice x2)).toInt).2.1 ((own_bf (own_price x2) (own_price x1)).2 hc166)] at q
                          exact q
                        refine Goes.on (T' := T165) (g' := (mkF m 515 (lA x0 x1 x2 x3 z1 sd 2 z3 z4 z5 3 (sR r0) (sR r1) (sR r2) (sR a24) (sI 1) (sI 1) (sI 0) (sI 1) (sR r1)) [(.ref a24)])) (fun _ k => XS.ifNo X165.here hx rfl (dc at_413) rfl (XT.i0_eq_f hc166) (XS.iconst X165.here hx rfl (dc at_416) (XS.istore X165.here hx rfl (dc at_417) rfl (l' := (lA x0 x1 x2 x3 z1 sd 2 z3 z4 z5 3 (sR r0) (sR r1) (sR r2) (sR a24) (sI 1) (sI 1) (sI 0) (sI 1) su)) rfl (XS.iload X165.here hx rfl (dc at_419) rfl (XS.ifYes X165.here hx rfl (pc0 := 421) (pc' := 478) rfl (dc at_421) rfl (XT.i0_eq_t (by decide)) (by decide) (by decide) (XS.iload X165.here hx rfl (dc at_478) rfl (XS.ifYes X165.here hx rfl (pc0 := 480) (pc' := 488) rfl (dc at_480) rfl (XT.i0_ne_t (by decide)) (by decide) (by decide) (XS.iload X165.here hx rfl (dc at_488) rfl (XS.iconst X165.here hx rfl (dc at_490) (XS.icmpNo X165.here hx rfl (dc at_491) rfl (XT.ii_ne_f (by decide)) (XS.aload X165.here hx rfl (dc at_494) rfl rfl (XS.goto X165.here hx rfl (pc0 := 496) (pc' := 511) rfl (dc at_496) (by decide) (by decide) (XS.astore X165.here hx rfl (dc at_511) rfl rfl (l' := (lA x0 x1 x2 x3 z1 sd 2 z3 z4 z5 3 (sR r0) (sR r1) (sR r2) (sR a24) (sI 1) (sI 1) (sI 0) (sI 1) (sR r1))) rfl (XS.aload X165.here hx rfl (dc at_513) rfl rfl k)))))))))))))) ?_
                        refine Goes.callV X165 hx hZ19 0 hown19 (ow 218 rfl) (ow 219 rfl) (notFace_of_selects (args := #[]) (mvT hZ19 (ow 221 rfl))) (ow 221 rfl) (ow 220 rfl) (ow 167 rfl) (ow 222 rfl) (by decide) e165 (fb_exa FF169) (rmFst l Z a0 hw T161.heap Z162 FF169) (by decide) (by decide) (by decide) (by decide) rfl (by rw [hml]; rfl) (argsL := []) (rest := []) rfl (lenOf pd_24 rfl) rfl (own_le20 rfl) (dc at_515) ?_
                        rintro v170 T170 L170 X170 ⟨rfl, N170q, e170⟩
                        have N170 := Fr.app N165 N170q
                        show Goes p e below _ T170 (mkF m 518 (lA x0 x1 x2 x3 z1 sd 2 z3 z4 z5 3 (sR r0) (sR r1) (sR r2) (sR a24) (sI 1) (sI 1) (sI 0) (sI 1) (sR r1)) [(.ref r1)])
                        refine Goes.on (T' := T170) (g' := (mkF m 528 (lA x0 x1 x2 x3 z1 sd 2 z3 z4 z5 3 (sR r0) (sR r1) (sR r2) (sR a24) (sI 1) (sI 1) (sI 0) (sI 1) (sR r1)) [(.int 1)])) (fun _ k => XS.aload X170.here hx rfl (dc at_518) rfl rfl (XT.acmpNo X170.here hx rfl (dc at_520) rfl rfl rfl (XT.aa_ne_f rfl) (XS.iconst X170.here hx rfl (dc at_523) (XS.goto X170.here hx rfl (pc0 := 524) (pc' := 528) rfl (dc at_524) (by decide) (by decide) k)))) ?_
                        exact Goes.retBW X170 hS19 (by rw [e170]; exact Z163) hZ19 hEL (by rw [e170]; exact RR161) hx hlk hret (Or.inr rfl) (dc at_528) (by decide) (by decide) ⟨rfl, N170⟩
                  · rcases br with rfl | rfl | rfl | rfl
                    · refine Goes.on (T' := T41) (g' := (mkF m 250 (lA x0 x1 x2 x3 z1 sd 3 z3 z4 z5 0 (sR r0) (sR r1) (sR r2) (sR a24) su su su su su) [(.ref r0), (.ref a24)])) (fun _ k => XS.iload X41.here hx rfl (dc at_241) rfl (XS.ifNo X41.here hx rfl (dc at_243) rfl (XT.i0_le_f (by decide)) (XS.aload X41.here hx rfl (dc at_246) rfl rfl (XS.aload X41.here hx rfl (dc at_248) rfl rfl k)))) ?_
                      refine Goes.callV X41 hx hZ19 0 hown19 (ow 230 rfl) (ow 231 rfl) (notFace_of_selects (args := #[]) (mvT hZ19 (ow 233 rfl))) (ow 233 rfl) (ow 232 rfl) (ow 167 rfl) (ow 234 rfl) (by decide) rfl (bk_exa BK0) (rmAddB l Z a0 hw r0 z3 (Fprice x1) T41.heap Z74 BK0 (own_price x1)) (by decide) (by decide) (by decide) (by decide) rfl (by rw [hml]; rfl) (argsL := [(.ref r0)]) (rest := []) rfl (lenOf pd_25 rfl) rfl (own_le20 rfl) (dc at_250) ?_
                      rintro v171 T171 L171 X171 ⟨rfl, N171q, OS171, mc171, qs171, eq171, BK171⟩
                      show Goes p e below _ T171 (mkF m 253 (lA x0 x1 x2 x3 z1 sd 3 z3 z4 z5 0 (sR r0) (sR r1) (sR r2) (sR a24) su su su su su) [])
                      obtain ⟨ws171, Kw171, sw171⟩ := OS171
                      have RR171 := RR77.trans (CHr.keep Kw171 (own_safeS hZ19.alike sw171) RR77.1)
                      have Z172 := Nat.le_trans Z74 Kw171.1
                      have Z173 := Nat.le_trans Z75 Kw171.1
                      have eq171 : (mc171, ownPr qs171) = (ownAdd z3 (own_key z1 (Fprice x1)).toInt r0 ([], [])) := eq171
                      refine Goes.on (T' := T171) (g' := (mkF m 263 (lA x0 x1 x2 x3 z1 sd 3 z3 z4 z5 0 (sR r0) (sR r1) (sR r2) (sR a24) su su su su su) [(.ref r1), (.ref a24)])) (fun _ k => XS.iload X171.here hx rfl (dc at_253) rfl (XS.iconst X171.here hx rfl (dc at_255) (XS.icmpNo X171.here hx rfl (dc at_256) rfl (XT.ii_le_f (by decide)) (XS.aload X171.here hx rfl (dc at_259) rfl rfl (XS.aload X171.here hx rfl (dc at_261) rfl rfl k))))) ?_
                      refine Goes.callV X171 hx hZ19 0 hown19 (ow 230 rfl) (ow 231 rfl) (notFace_of_selects (args := #[]) (mvT hZ19 (ow 233 rfl))) (ow 233 rfl) (ow 232 rfl) (ow 167 rfl) (ow 234 rfl) (by decide) rfl (bk_exa BK171) (rmAddB l Z a0 hw r1 z4 (Fprice x2) T171.heap Z172 BK171 (own_price x2)) (by decide) (by decide) (by decide) (by decide) rfl (by rw [hml]; rfl) (argsL := [(.ref r1)]) (rest := []) rfl (lenOf pd_25 rfl) rfl (own_le20 rfl) (dc at_263) ?_
                      rintro v175 T175 L175 X175 ⟨rfl, N175q, OS175, mc175, qs175, eq175, BK175⟩
                      show Goes p e below _ T175 (mkF m 266 (lA x0 x1 x2 x3 z1 sd 3 z3 z4 z5 0 (sR r0) (sR r1) (sR r2) (sR a24) su su su su su) [])
                      obtain ⟨ws175, Kw175, sw175⟩ := OS175
                      have RR175 := RR171.trans (CHr.keep Kw175 (own_safeS hZ19.alike sw175) RR171.1)
                      have Z176 := Nat.le_trans Z172 Kw175.1
                      have Z177 := Nat.le_trans Z173 Kw175.1
                      rw [eq171] at eq175
                      have eq175 : (mc175, ownPr qs175) = (ownAdd z4 (own_key z1 (Fprice x2)).toInt r1 (ownAdd z3 (own_key z1 (Fprice x1)).toInt r0 ([], []))) := eq175
                      refine Goes.on (T' := T175) (g' := (mkF m 276 (lA x0 x1 x2 x3 z1 sd 3 z3 z4 z5 0 (sR r0) (sR r1) (sR r2) (sR a24) su su su su su) [(.ref r2), (.ref a24)])) (fun _ k => XS.iload X175.here hx rfl (dc at_266) rfl (XS.iconst X175.here hx rfl (dc at_268) (XS.icmpNo X175.here hx rfl (dc at_269) rfl (XT.ii_le_f (by decide)) (XS.aload X175.here hx rfl (dc at_272) rfl rfl (XS.aload X175.here hx rfl (dc at_274) rfl rfl k))))) ?_
                      refine Goes.callV X175 hx hZ19 0 hown19 (ow 230 rfl) (ow 231 rfl) (notFace_of_selects (args := #[]) (mvT hZ19 (ow 233 rfl))) (ow 233 rfl) (ow 232 rfl) (ow 167 rfl) (ow 234 rfl) (by decide) rfl (bk_exa BK175) (rmAddB l Z a0 hw r2 z5 (Fprice x3) T175.heap Z176 BK175 (own_price x3)) (by decide) (by decide) (by decide) (by decide) rfl (by rw [hml]; rfl) (argsL := [(.ref r2)]) (rest := []) rfl (lenOf pd_25 rfl) rfl (own_le20 rfl) (dc at_276) ?_
                      rintro v179 T179 L179 X179 ⟨rfl, N179q, OS179, mc179, qs179, eq179, BK179⟩
                      show Goes p e below _ T179 (mkF m 279 (lA x0 x1 x2 x3 z1 sd 3 z3 z4 z5 0 (sR r0) (sR r1) (sR r2) (sR a24) su su su su su) [])
                      obtain ⟨ws179, Kw179, sw179⟩ := OS179
                      have RR179 := RR175.trans (CHr.keep Kw179 (own_safeS hZ19.alike sw179) RR175.1)
                      have Z180 := Nat.le_trans Z176 Kw179.1
                      have Z181 := Nat.le_trans Z177 Kw179.1
                      rw [eq175] at eq179
                      have eq179 : (mc179, ownPr qs179) = (ownAdd z5 (own_key z1 (Fprice x3)).toInt r2 (ownAdd z4 (own_key z1 (Fprice x2)).toInt r1 (ownAdd z3 (own_key z1 (Fprice x1)).toInt r0 ([], [])))) := eq179
                      refine Goes.on (T' := T179) (g' := (mkF m 295 (lA x0 x1 x2 x3 z1 sd 3 z3 z4 z5 0 (sR r0) (sR r1) (sR r2) (sR a24) su su su su su) [(.ref r0), (.ref a24)])) (fun _ k => XS.iload X179.here hx rfl (dc at_279) rfl (XS.iload X179.here hx rfl (dc at_281) rfl (XS.icmpNo X179.here hx rfl (dc at_283) rfl (XT.ii_ge_f (by decide)) (XS.iload X179.here hx rfl (dc at_286) rfl (XS.ifNo X179.here hx rfl (dc at_288) rfl (XT.i0_ne_f (by decide)) (XS.aload X179.here hx rfl (dc at_291) rfl rfl (XS.aload X179.here hx rfl (dc at_293) rfl rfl k))))))) ?_
                      refine Goes.callV X179 hx hZ19 0 hown19 (ow 286 rfl) (ow 287 rfl) (notFace_of_selects (args := #[]) (mvT hZ19 (ow 289 rfl))) (ow 289 rfl) (ow 288 rfl) (ow 167 rfl) (ow 290 rfl) (by decide) rfl (bk_exa BK179) (rmRemB l Z a0 hw r0 T179.heap Z180 BK179 (own_all eq179 ((own_mem_add _ _ _ _).2 _ ((own_mem_add _ _ _ _).2 _ (own_mem_add _ _ _ _).1))) (bk_len BK179)) (by decide) (by decide) (by decide) (by decide) rfl (by rw [hml]; rfl) (argsL := [(.ref r0)]) (rest := []) rfl (lenOf pd_25 rfl) rfl (own_le20 rfl) (dc at_295) ?_
                      rintro v183 T183 L183 X183 ⟨rfl, N183q, OS183, FB183⟩
                      show Goes p e below _ T183 (mkF m 298 (lA x0 x1 x2 x3 z1 sd 3 z3 z4 z5 0 (sR r0) (sR r1) (sR r2) (sR a24) su su su su su) [])
                      obtain ⟨ws183, Kw183, sw183⟩ := OS183
                      have RR183 := RR179.trans (CHr.keep Kw183 (own_safeS hZ19.alike sw183) RR179.1)
                      have Z184 := Nat.le_trans Z180 Kw183.1
                      have Z185 := Nat.le_trans Z181 Kw183.1
                      have FB183 : FB Z T183.heap a24 (ownVR r0 (ownAdd z5 (own_key z1 (Fprice x3)).toInt r2 (ownAdd z4 (own_key z1 (Fprice x2)).toInt r1 (ownAdd z3 (own_key z1 (Fprice x1)).toInt r0 ([], []))))) := by
                        have q : FB Z T183.heap a24 (ownVR r0 (mc179, ownPr qs179)) := FB183
                        rw [eq179] at q
                        exact q
                      refine Goes.on (T' := T183) (g' := (mkF m 377 (lA x0 x1 x2 x3 z1 sd 3 z3 z4 z5 0 (sR r0) (sR r1) (sR r2) (sR a24) (sI 0) (sI 1) su su su) [(.int 1)])) (fun _ k => XS.goto X183.here hx rfl (pc0 := 298) (pc' := 324) rfl (dc at_298) (by decide) (by decide) (XS.iload X183.here hx rfl (dc at_324) rfl (XS.ifNo X183.here hx rfl (dc at_326) rfl (XT.i0_le_f (by decide)) (XS.iload X183.here hx rfl (dc at_329) rfl (XS.ifYes X183.here hx rfl (pc0 := 331) (pc' := 338) rfl (dc at_331) rfl (XT.i0_eq_t (by decide)) (by decide) (by decide) (XS.iconst X183.here hx rfl (dc at_338) (XS.istore X183.here hx rfl (dc at_339) rfl (l' := (lA x0 x1 x2 x3 z1 sd 3 z3 z4 z5 0 (sR r0) (sR r1) (sR r2) (sR a24) (sI 0) su su su su)) rfl (XS.iload X183.here hx rfl (dc at_341) rfl (XS.iconst X183.here hx rfl (dc at_343) (XS.icmpNo X183.here hx rfl (dc at_344) rfl (XT.ii_le_f (by decide)) (XS.iload X183.here hx rfl (dc at_347) rfl (XS.iconst X183.here hx rfl (dc at_349) (XS.icmpNo X183.here hx rfl (dc at_350) rfl (XT.ii_eq_f (by decide)) (XS.iconst X183.here hx rfl (dc at_353) (XS.goto X183.here hx rfl (pc0 := 354) (pc' := 358) rfl (dc at_354) (by decide) (by decide) (XS.istore X183.here hx rfl (dc at_358) rfl (l' := (lA x0 x1 x2 x3 z1 sd 3 z3 z4 z5 0 (sR r0) (sR r1) (sR r2) (sR a24) (sI 0) (sI 1) su su su)) rfl (XS.iload X183.here hx rfl (dc at_360) rfl (XS.iconst X183.here hx rfl (dc at_362) (XS.icmpNo X183.here hx rfl (dc at_363) rfl (XT.ii_le_f (by decide)) (XS.iload X183.here hx rfl (dc at_366) rfl (XS.iconst X183.here hx rfl (dc at_368) (XS.icmpNo X183.here hx rfl (dc at_369) rfl (XT.ii_eq_f (by decide)) (XS.iconst X183.here hx rfl (dc at_372) (XS.goto X183.here hx rfl (pc0 := 373) (pc' := 377) rfl (dc at_373) (by decide) (by decide) k)))))))))))))))))))))))) ?_
                      refine Goes.on (T' := T183) (g' := (mkF m 469 (lA x0 x1 x2 x3 z1 sd 3 z3 z4 z5 0 (sR r0) (sR r1) (sR r2) (sR a24) (sI 0) (sI 1) (sI 1) (sI 1) su) [(.long (Fprice x2)), (.int z4), (.long (Fprice x3)), (.int z5), (.int z1)])) (fun _ k => XS.istore X183.here hx rfl (dc at_377) rfl (l' := (lA x0 x1 x2 x3 z1 sd 3 z3 z4 z5 0 (sR r0) (sR r1) (sR r2) (sR a24) (sI 0) (sI 1) (sI 1) su su)) rfl (XS.iconst X183.here hx rfl (dc at_379) (XS.istore X183.here hx rfl (dc at_380) rfl (l' := (lA x0 x1 x2 x3 z1 sd 3 z3 z4 z5 0 (sR r0) (sR r1) (sR r2) (sR a24) (sI 0) (sI 1) (sI 1) (sI (-1 : Int32)) su)) rfl (XS.iload X183.here hx rfl (dc at_382) rfl (XS.ifYes X183.here hx rfl (pc0 := 384) (pc' := 390) rfl (dc at_384) rfl (XT.i0_eq_t (by decide)) (by decide) (by decide) (XS.iload X183.here hx rfl (dc at_390) rfl (XS.ifNo X183.here hx rfl (dc at_392) rfl (XT.i0_eq_f (by decide)) (XS.iload X183.here hx rfl (dc at_395) rfl (XS.ifYes X183.here hx rfl (pc0 := 397) (pc' := 416) rfl (dc at_397) rfl (XT.i0_lt_t (by decide)) (by decide) (by decide) (XS.iconst X183.here hx rfl (dc at_416) (XS.istore X183.here hx rfl (dc at_417) rfl (l' := (lA x0 x1 x2 x3 z1 sd 3 z3 z4 z5 0 (sR r0) (sR r1) (sR r2) (sR a24) (sI 0) (sI 1) (sI 1) (sI 1) su)) rfl (XS.iload X183.here hx rfl (dc at_419) rfl (XS.ifNo X183.here hx rfl (dc at_421) rfl (XT.i0_eq_f (by decide)) (XS.iload X183.here hx rfl (dc at_424) rfl (XS.ifYes X183.here hx rfl (pc0 := 426) (pc' := 435) rfl (dc at_426) rfl (XT.i0_ge_t (by decide)) (by decide) (by decide) (XS.iload X183.here hx rfl (dc at_435) rfl (XS.ifYes X183.here hx rfl (pc0 := 437) (pc' := 459) rfl (dc at_437) rfl (XT.i0_ne_t (by decide)) (by decide) (by decide) (XS.iload X183.here hx rfl (dc at_459) rfl (XS.iload X183.here hx rfl (dc at_461) rfl (XS.lload X183.here hx rfl (dc at_463) rfl (XS.iload X183.here hx rfl (dc at_465) rfl (XS.lload X183.here hx rfl (dc at_467) rfl k)))))))))))))))))))))) ?_
                      refine Goes.callS X183 hx hZ19 0 hown19 (ow 293 rfl) (ow 294 rfl) (ow 5 rfl) (ow 295 rfl) (by decide) rfl (rmbefore l Z a0 hw z1 z5 (Fprice x3) z4 (Fprice x2) T183.heap n0 Z184) (by decide) (by decide) (by decide) (by decide) rfl (by rw [hml]; rfl) (argsL := [(.int z1), (.int z5), (.long (Fprice x3)), (.int z4), (.long (Fprice x2))]) (rest := []) rfl (lenOf pd_26 rfl) rfl (own_le20 rfl) (dc at_469) ?_
                      rintro v187 T187 L187 X187 ⟨rfl, N187q, e187⟩
                      have N187 := Fr.app (Fr.app (Fr.app (Fr.app (Fr.app N41 N171q) N175q) N179q) N183q) N187q
                      show Goes p e below _ T187 (mkF m 472 (lA x0 x1 x2 x3 z1 sd 3 z3 z4 z5 0 (sR r0) (sR r1) (sR r2) (sR a24) (sI 0) (sI 1) (sI 1) (sI 1) su) [(.int (Fbefore z1 z5 (Fprice x3) z4 (Fprice x2)))])
                      by_cases hc188 : (Fbefore z1 z5 (Fprice x3) z4 (Fprice x2)) = (0 : Int32)
                      · have FF189 : FB Z T183.heap a24 (.ref r1) := by
                          have q := FB183
                          rw [(own_p3 ne_r0_r1 ne_r0_r2 ne_r1_r2 z3 z4 z5 (own_key z1 (Fprice x1)).toInt (own_key z1 (Fprice x2)).toInt (own_key z1 (Fprice x3)).toInt).2.2.2.2.1 ((own_bf (own_price x3) (own_price x2)).1 hc188)] at q
                          exact q
                        refine Goes.on (T' := T187) (g' := (mkF m 515 (lA x0 x1 x2 x3 z1 sd 3 z3 z4 z5 0 (sR r0) (sR r1) (sR r2) (sR a24) (sI 0) (sI 1) (sI 1) (sI 1) (sR r1)) [(.ref a24)])) (fun _ k => XS.ifYes X187.here hx rfl (pc0 := 472) (pc' := 478) rfl (dc at_472) rfl (XT.i0_eq_t hc188) (by decide) (by decide) (XS.iload X187.here hx rfl (dc at_478) rfl (XS.ifYes X187.here hx rfl (pc0 := 480) (pc' := 488) rfl (dc at_480) rfl (XT.i0_ne_t (by decide)) (by decide) (by decide) (XS.iload X187.here hx rfl (dc at_488) rfl (XS.iconst X187.here hx rfl (dc at_490) (XS.icmpNo X187.here hx rfl (dc at_491) rfl (XT.ii_ne_f (by decide)) (XS.aload X187.here hx rfl (dc at_494) rfl rfl (XS.goto X187.here hx rfl (pc0 := 496) (pc' := 511) rfl (dc at_496) (by decide) (by decide) (XS.astore X187.here hx rfl (dc at_511) rfl rfl (l' := (lA x0 x1 x2 x3 z1 sd 3 z3 z4 z5 0 (sR r0) (sR r1) (sR r2) (sR a24) (sI 0) (sI 1) (sI 1) (sI 1) (sR r1))) rfl (XS.aload X187.here hx rfl (dc at_513) rfl rfl k)))))))))) ?_
                        refine Goes.callV X187 hx hZ19 0 hown19 (ow 218 rfl) (ow 219 rfl) (notFace_of_selects (args := #[]) (mvT hZ19 (ow 221 rfl))) (ow 221 rfl) (ow 220 rfl) (ow 167 rfl) (ow 222 rfl) (by decide) e187 (fb_exa FF189) (rmFst l Z a0 hw T183.heap Z184 FF189) (by decide) (by decide) (by decide) (by decide) rfl (by rw [hml]; rfl) (argsL := []) (rest := []) rfl (lenOf pd_24 rfl) rfl (own_le20 rfl) (dc at_515) ?_
                        rintro v190 T190 L190 X190 ⟨rfl, N190q, e190⟩
                        have N190 := Fr.app N187 N190q
                        show Goes p e below _ T190 (mkF m 518 (lA x0 x1 x2 x3 z1 sd 3 z3 z4 z5 0 (sR r0) (sR r1) (sR r2) (sR a24) (sI 0) (sI 1) (sI 1) (sI 1) (sR r1)) [(.ref r1)])
                        refine Goes.on (T' := T190) (g' := (mkF m 528 (lA x0 x1 x2 x3 z1 sd 3 z3 z4 z5 0 (sR r0) (sR r1) (sR r2) (sR a24) (sI 0) (sI 1) (sI 1) (sI 1) (sR r1)) [(.int 1)])) (fun _ k => XS.aload X190.here hx rfl (dc at_518) rfl rfl (XT.acmpNo X190.here hx rfl (dc at_520) rfl rfl rfl (XT.aa_ne_f rfl) (XS.iconst X190.here hx rfl (dc at_523) (XS.goto X190.here hx rfl (pc0 := 524) (pc' := 528) rfl (dc at_524) (by decide) (by decide) k)))) ?_
                        exact Goes.retBW X190 hS19 (by rw [e190]; exact Z185) hZ19 hEL (by rw [e190]; exact RR183) hx hlk hret (Or.inr rfl) (dc at_528) (by decide) (by decide) ⟨rfl, N190⟩
                      · have FF191 : FB Z T183.heap a24 (.ref r2) := by
                          have q := FB183
                          rw [(own_p3 ne_r0_r1 ne_r0_r2 ne_r1_r2 z3 z4 z5 (own_key z1 (Fprice x1)).toInt (own_key z1 (Fprice x2)).toInt (own_key z1 (Fprice x3)).toInt).2.2.2.2.2.1 ((own_bf (own_price x3) (own_price x2)).2 hc188)] at q
                          exact q
                        refine Goes.on (T' := T187) (g' := (mkF m 515 (lA x0 x1 x2 x3 z1 sd 3 z3 z4 z5 0 (sR r0) (sR r1) (sR r2) (sR a24) (sI 0) (sI 1) (sI 1) (sI 2) (sR r2)) [(.ref a24)])) (fun _ k => XS.ifNo X187.here hx rfl (dc at_472) rfl (XT.i0_eq_f hc188) (XS.iconst X187.here hx rfl (dc at_475) (XS.istore X187.here hx rfl (dc at_476) rfl (l' := (lA x0 x1 x2 x3 z1 sd 3 z3 z4 z5 0 (sR r0) (sR r1) (sR r2) (sR a24) (sI 0) (sI 1) (sI 1) (sI 2) su)) rfl (XS.iload X187.here hx rfl (dc at_478) rfl (XS.ifYes X187.here hx rfl (pc0 := 480) (pc' := 488) rfl (dc at_480) rfl (XT.i0_ne_t (by decide)) (by decide) (by decide) (XS.iload X187.here hx rfl (dc at_488) rfl (XS.iconst X187.here hx rfl (dc at_490) (XS.icmpYes X187.here hx rfl (pc0 := 491) (pc' := 499) rfl (dc at_491) rfl (XT.ii_ne_t (by decide)) (by decide) (by decide) (XS.iload X187.here hx rfl (dc at_499) rfl (XS.iconst X187.here hx rfl (dc at_501) (XS.icmpNo X187.here hx rfl (dc at_502) rfl (XT.ii_ne_f (by decide)) (XS.aload X187.here hx rfl (dc at_505) rfl rfl (XS.goto X187.here hx rfl (pc0 := 507) (pc' := 511) rfl (dc at_507) (by decide) (by decide) (XS.astore X187.here hx rfl (dc at_511) rfl rfl (l' := (lA x0 x1 x2 x3 z1 sd 3 z3 z4 z5 0 (sR r0) (sR r1) (sR r2) (sR a24) (sI 0) (sI 1) (sI 1) (sI 2) (sR r2))) rfl (XS.aload X187.here hx rfl (dc at_513) rfl rfl k))))))))))))))) ?_
                        refine Goes.callV X187 hx hZ19 0 hown19 (ow 218 rfl) (ow 219 rfl) (notFace_of_selects (args := #[]) (mvT hZ19 (ow 221 rfl))) (ow 221 rfl) (ow 220 rfl) (ow 167 rfl) (ow 222 rfl) (by decide) e187 (fb_exa FF191) (rmFst l Z a0 hw T183.heap Z184 FF191) (by decide) (by decide) (by decide) (by decide) rfl (by rw [hml]; rfl) (argsL := []) (rest := []) rfl (lenOf pd_24 rfl) rfl (own_le20 rfl) (dc at_515) ?_
                        rintro v192 T192 L192 X192 ⟨rfl, N192q, e192⟩
                        have N192 := Fr.app N187 N192q
                        show Goes p e below _ T192 (mkF m 518 (lA x0 x1 x2 x3 z1 sd 3 z3 z4 z5 0 (sR r0) (sR r1) (sR r2) (sR a24) (sI 0) (sI 1) (sI 1) (sI 2) (sR r2)) [(.ref r2)])
                        refine Goes.on (T' := T192) (g' := (mkF m 528 (lA x0 x1 x2 x3 z1 sd 3 z3 z4 z5 0 (sR r0) (sR r1) (sR r2) (sR a24) (sI 0) (sI 1) (sI 1) (sI 2) (sR r2)) [(.int 1)])) (fun _ k => XS.aload X192.here hx rfl (dc at_518) rfl rfl (XT.acmpNo X192.here hx rfl (dc at_520) rfl rfl rfl (XT.aa_ne_f rfl) (XS.iconst X192.here hx rfl (dc at_523) (XS.goto X192.here hx rfl (pc0 := 524) (pc' := 528) rfl (dc at_524) (by decide) (by decide) k)))) ?_
                        exact Goes.retBW X192 hS19 (by rw [e192]; exact Z185) hZ19 hEL (by rw [e192]; exact RR183) hx hlk hret (Or.inr rfl) (dc at_528) (by decide) (by decide) ⟨rfl, N192⟩
                    · refine Goes.on (T' := T41) (g' := (mkF m 250 (lA x0 x1 x2 x3 z1 sd 3 z3 z4 z5 1 (sR r0) (sR r1) (sR r2) (sR a24) su su su su su) [(.ref r0), (.ref a24)])) (fun _ k => XS.iload X41.here hx rfl (dc at_241) rfl (XS.ifNo X41.here hx rfl (dc at_243) rfl (XT.i0_le_f (by decide)) (XS.aload X41.here hx rfl (dc at_246) rfl rfl (XS.aload X41.here hx rfl (dc at_248) rfl rfl k)))) ?_
                      refine Goes.callV X41 hx hZ19 0 hown19 (ow 230 rfl) (ow 231 rfl) (notFace_of_selects (args := #[]) (mvT hZ19 (ow 233 rfl))) (ow 233 rfl) (ow 232 rfl) (ow 167 rfl) (ow 234 rfl) (by decide) rfl (bk_exa BK0) (rmAddB l Z a0 hw r0 z3 (Fprice x1) T41.heap Z74 BK0 (own_price x1)) (by decide) (by decide) (by decide) (by decide) rfl (by rw [hml]; rfl) (argsL := [(.ref r0)]) (rest := []) rfl (lenOf pd_25 rfl) rfl (own_le20 rfl) (dc at_250) ?_
                      rintro v193 T193 L193 X193 ⟨rfl, N193q, OS193, mc193, qs193, eq193, BK193⟩
                      show Goes p e below _ T193 (mkF m 253 (lA x0 x1 x2 x3 z1 sd 3 z3 z4 z5 1 (sR r0) (sR r1) (sR r2) (sR a24) su su su su su) [])
                      obtain ⟨ws193, Kw193, sw193⟩ := OS193
                      have RR193 := RR77.trans (CHr.keep Kw193 (own_safeS hZ19.alike sw193) RR77.1)
                      have Z194 := Nat.le_trans Z74 Kw193.1
                      have Z195 := Nat.le_trans Z75 Kw193.1
                      have eq193 : (mc193, ownPr qs193) = (ownAdd z3 (own_key z1 (Fprice x1)).toInt r0 ([], [])) := eq193
                      refine Goes.on (T' := T193) (g' := (mkF m 263 (lA x0 x1 x2 x3 z1 sd 3 z3 z4 z5 1 (sR r0) (sR r1) (sR r2) (sR a24) su su su su su) [(.ref r1), (.ref a24)])) (fun _ k => XS.iload X193.here hx rfl (dc at_253) rfl (XS.iconst X193.here hx rfl (dc at_255) (XS.icmpNo X193.here hx rfl (dc at_256) rfl (XT.ii_le_f (by decide)) (XS.aload X193.here hx rfl (dc at_259) rfl rfl (XS.aload X193.here hx rfl (dc at_261) rfl rfl k))))) ?_
                      refine Goes.callV X193 hx hZ19 0 hown19 (ow 230 rfl) (ow 231 rfl) (notFace_of_selects (args := #[]) (mvT hZ19 (ow 233 rfl))) (ow 233 rfl) (ow 232 rfl) (ow 167 rfl) (ow 234 rfl) (by decide) rfl (bk_exa BK193) (rmAddB l Z a0 hw r1 z4 (Fprice x2) T193.heap Z194 BK193 (own_price x2)) (by decide) (by decide) (by decide) (by decide) rfl (by rw [hml]; rfl) (argsL := [(.ref r1)]) (rest := []) rfl (lenOf pd_25 rfl) rfl (own_le20 rfl) (dc at_263) ?_
                      rintro v197 T197 L197 X197 ⟨rfl, N197q, OS197, mc197, qs197, eq197, BK197⟩
                      show Goes p e below _ T197 (mkF m 266 (lA x0 x1 x2 x3 z1 sd 3 z3 z4 z5 1 (sR r0) (sR r1) (sR r2) (sR a24) su su su su su) [])
                      obtain ⟨ws197, Kw197, sw197⟩ := OS197
                      have RR197 := RR193.trans (CHr.keep Kw197 (own_safeS hZ19.alike sw197) RR193.1)
                      have Z198 := Nat.le_trans Z194 Kw197.1
                      have Z199 := Nat.le_trans Z195 Kw197.1
                      rw [eq193] at eq197
                      have eq197 : (mc197, ownPr qs197) = (ownAdd z4 (own_key z1 (Fprice x2)).toInt r1 (ownAdd z3 (own_key z1 (Fprice x1)).toInt r0 ([], []))) := eq197
                      refine Goes.on (T' := T197) (g' := (mkF m 276 (lA x0 x1 x2 x3 z1 sd 3 z3 z4 z5 1 (sR r0) (sR r1) (sR r2) (sR a24) su su su su su) [(.ref r2), (.ref a24)])) (fun _ k => XS.iload X197.here hx rfl (dc at_266) rfl (XS.iconst X197.here hx rfl (dc at_268) (XS.icmpNo X197.here hx rfl (dc at_269) rfl (XT.ii_le_f (by decide)) (XS.aload X197.here hx rfl (dc at_272) rfl rfl (XS.aload X197.here hx rfl (dc at_274) rfl rfl k))))) ?_
                      refine Goes.callV X197 hx hZ19 0 hown19 (ow 230 rfl) (ow 231 rfl) (notFace_of_selects (args := #[]) (mvT hZ19 (ow 233 rfl))) (ow 233 rfl) (ow 232 rfl) (ow 167 rfl) (ow 234 rfl) (by decide) rfl (bk_exa BK197) (rmAddB l Z a0 hw r2 z5 (Fprice x3) T197.heap Z198 BK197 (own_price x3)) (by decide) (by decide) (by decide) (by decide) rfl (by rw [hml]; rfl) (argsL := [(.ref r2)]) (rest := []) rfl (lenOf pd_25 rfl) rfl (own_le20 rfl) (dc at_276) ?_
                      rintro v201 T201 L201 X201 ⟨rfl, N201q, OS201, mc201, qs201, eq201, BK201⟩
                      show Goes p e below _ T201 (mkF m 279 (lA x0 x1 x2 x3 z1 sd 3 z3 z4 z5 1 (sR r0) (sR r1) (sR r2) (sR a24) su su su su su) [])
                      obtain ⟨ws201, Kw201, sw201⟩ := OS201
                      have RR201 := RR197.trans (CHr.keep Kw201 (own_safeS hZ19.alike sw201) RR197.1)
                      have Z202 := Nat.le_trans Z198 Kw201.1
                      have Z203 := Nat.le_trans Z199 Kw201.1
                      rw [eq197] at eq201
                      have eq201 : (mc201, ownPr qs201) = (ownAdd z5 (own_key z1 (Fprice x3)).toInt r2 (ownAdd z4 (own_key z1 (Fprice x2)).toInt r1 (ownAdd z3 (own_key z1 (Fprice x1)).toInt r0 ([], [])))) := eq201
                      refine Goes.on (T' := T201) (g' := (mkF m 311 (lA x0 x1 x2 x3 z1 sd 3 z3 z4 z5 1 (sR r0) (sR r1) (sR r2) (sR a24) su su su su su) [(.ref r1), (.ref a24)])) (fun _ k => XS.iload X201.here hx rfl (dc at_279) rfl (XS.iload X201.here hx rfl (dc at_281) rfl (XS.icmpNo X201.here hx rfl (dc at_283) rfl (XT.ii_ge_f (by decide)) (XS.iload X201.here hx rfl (dc at_286) rfl (XS.ifYes X201.here hx rfl (pc0 := 288) (pc' := 301) rfl (dc at_288) rfl (XT.i0_ne_t (by decide)) (by decide) (by decide) (XS.iload X201.here hx rfl (dc at_301) rfl (XS.iconst X201.here hx rfl (dc at_303) (XS.icmpNo X201.here hx rfl (dc at_304) rfl (XT.ii_ne_f (by decide)) (XS.aload X201.here hx rfl (dc at_307) rfl rfl (XS.aload X201.here hx rfl (dc at_309) rfl rfl k)))))))))) ?_
                      refine Goes.callV X201 hx hZ19 0 hown19 (ow 286 rfl) (ow 287 rfl) (notFace_of_selects (args := #[]) (mvT hZ19 (ow 289 rfl))) (ow 289 rfl) (ow 288 rfl) (ow 167 rfl) (ow 290 rfl) (by decide) rfl (bk_exa BK201) (rmRemB l Z a0 hw r1 T201.heap Z202 BK201 (own_all eq201 ((own_mem_add _ _ _ _).2 _ (own_mem_add _ _ _ _).1)) (bk_len BK201)) (by decide) (by decide) (by decide) (by decide) rfl (by rw [hml]; rfl) (argsL := [(.ref r1)]) (rest := []) rfl (lenOf pd_25 rfl) rfl (own_le20 rfl) (dc at_311) ?_
                      rintro v205 T205 L205 X205 ⟨rfl, N205q, OS205, FB205⟩
                      show Goes p e below _ T205 (mkF m 314 (lA x0 x1 x2 x3 z1 sd 3 z3 z4 z5 1 (sR r0) (sR r1) (sR r2) (sR a24) su su su su su) [])
                      obtain ⟨ws205, Kw205, sw205⟩ := OS205
                      have RR205 := RR201.trans (CHr.keep Kw205 (own_safeS hZ19.alike sw205) RR201.1)
                      have Z206 := Nat.le_trans Z202 Kw205.1
                      have Z207 := Nat.le_trans Z203 Kw205.1
                      have FB205 : FB Z T205.heap a24 (ownVR r1 (ownAdd z5 (own_key z1 (Fprice x3)).toInt r2 (ownAdd z4 (own_key z1 (Fprice x2)).toInt r1 (ownAdd z3 (own_key z1 (Fprice x1)).toInt r0 ([], []))))) := by
                        have q : FB Z T205.heap a24 (ownVR r1 (mc201, ownPr qs201)) := FB205
                        rw [eq201] at q
                        exact q
                      refine Goes.on (T' := T205) (g' := (mkF m 377 (lA x0 x1 x2 x3 z1 sd 3 z3 z4 z5 1 (sR r0) (sR r1) (sR r2) (sR a24) (sI 1) (sI 0) su su su) [(.int 1)])) (fun _ k => XS.goto X205.here hx rfl (pc0 := 314) (pc' := 324) rfl (dc at_314) (by decide) (by decide) (XS.iload X205.here hx rfl (dc at_324) rfl (XS.ifNo X205.here hx rfl (dc at_326) rfl (XT.i0_le_f (by decide)) (XS.iload X205.here hx rfl (dc at_329) rfl (XS.ifNo X205.here hx rfl (dc at_331) rfl (XT.i0_eq_f (by decide)) (XS.iconst X205.here hx rfl (dc at_334) (XS.goto X205.here hx rfl (pc0 := 335) (pc' := 339) rfl (dc at_335) (by decide) (by decide) (XS.istore X205.here hx rfl (dc at_339) rfl (l' := (lA x0 x1 x2 x3 z1 sd 3 z3 z4 z5 1 (sR r0) (sR r1) (sR r2) (sR a24) (sI 1) su su su su)) rfl (XS.iload X205.here hx rfl (dc at_341) rfl (XS.iconst X205.here hx rfl (dc at_343) (XS.icmpNo X205.here hx rfl (dc at_344) rfl (XT.ii_le_f (by decide)) (XS.iload X205.here hx rfl (dc at_347) rfl (XS.iconst X205.here hx rfl (dc at_349) (XS.icmpYes X205.here hx rfl (pc0 := 350) (pc' := 357) rfl (dc at_350) rfl (XT.ii_eq_t (by decide)) (by decide) (by decide) (XS.iconst X205.here hx rfl (dc at_357) (XS.istore X205.here hx rfl (dc at_358) rfl (l' := (lA x0 x1 x2 x3 z1 sd 3 z3 z4 z5 1 (sR r0) (sR r1) (sR r2) (sR a24) (sI 1) (sI 0) su su su)) rfl (XS.iload X205.here hx rfl (dc at_360) rfl (XS.iconst X205.here hx rfl (dc at_362) (XS.icmpNo X205.here hx rfl (dc at_363) rfl (XT.ii_le_f (by decide)) (XS.iload X205.here hx rfl (dc at_366) rfl (XS.iconst X205.here hx rfl (dc at_368) (XS.icmpNo X205.here hx rfl (dc at_369) rfl (XT.ii_eq_f (by decide)) (XS.iconst X205.here hx rfl (dc at_372) (XS.goto X205.here hx rfl (pc0 := 373) (pc' := 377) rfl (dc at_373) (by decide) (by decide) k)))))))))))))))))))))))) ?_
                      refine Goes.on (T' := T205) (g' := (mkF m 450 (lA x0 x1 x2 x3 z1 sd 3 z3 z4 z5 1 (sR r0) (sR r1) (sR r2) (sR a24) (sI 1) (sI 0) (sI 1) (sI 0) su) [(.long (Fprice x1)), (.int z3), (.long (Fprice x3)), (.int z5), (.int z1)])) (fun _ k => XS.istore X205.here hx rfl (dc at_377) rfl (l' := (lA x0 x1 x2 x3 z1 sd 3 z3 z4 z5 1 (sR r0) (sR r1) (sR r2) (sR a24) (sI 1) (sI 0) (sI 1) su su)) rfl (XS.iconst X205.here hx rfl (dc at_379) (XS.istore X205.here hx rfl (dc at_380) rfl (l' := (lA x0 x1 x2 x3 z1 sd 3 z3 z4 z5 1 (sR r0) (sR r1) (sR r2) (sR a24) (sI 1) (sI 0) (sI 1) (sI (-1 : Int32)) su)) rfl (XS.iload X205.here hx rfl (dc at_382) rfl (XS.ifNo X205.here hx rfl (dc at_384) rfl (XT.i0_eq_f (by decide)) (XS.iconst X205.here hx rfl (dc at_387) (XS.istore X205.here hx rfl (dc at_388) rfl (l' := (lA x0 x1 x2 x3 z1 sd 3 z3 z4 z5 1 (sR r0) (sR r1) (sR r2) (sR a24) (sI 1) (sI 0) (sI 1) (sI 0) su)) rfl (XS.iload X205.here hx rfl (dc at_390) rfl (XS.ifYes X205.here hx rfl (pc0 := 392) (pc' := 419) rfl (dc at_392) rfl (XT.i0_eq_t (by decide)) (by decide) (by decide) (XS.iload X205.here hx rfl (dc at_419) rfl (XS.ifNo X205.here hx rfl (dc at_421) rfl (XT.i0_eq_f (by decide)) (XS.iload X205.here hx rfl (dc at_424) rfl (XS.ifYes X205.here hx rfl (pc0 := 426) (pc' := 435) rfl (dc at_426) rfl (XT.i0_ge_t (by decide)) (by decide) (by decide) (XS.iload X205.here hx rfl (dc at_435) rfl (XS.ifNo X205.here hx rfl (dc at_437) rfl (XT.i0_ne_f (by decide)) (XS.iload X205.here hx rfl (dc at_440) rfl (XS.iload X205.here hx rfl (dc at_442) rfl (XS.lload X205.here hx rfl (dc at_444) rfl (XS.iload X205.here hx rfl (dc at_446) rfl (XS.lload X205.here hx rfl (dc at_448) rfl k)))))))))))))))))))) ?_
                      refine Goes.callS X205 hx hZ19 0 hown19 (ow 293 rfl) (ow 294 rfl) (ow 5 rfl) (ow 295 rfl) (by decide) rfl (rmbefore l Z a0 hw z1 z5 (Fprice x3) z3 (Fprice x1) T205.heap n0 Z206) (by decide) (by decide) (by decide) (by decide) rfl (by rw [hml]; rfl) (argsL := [(.int z1), (.int z5), (.long (Fprice x3)), (.int z3), (.long (Fprice x1))]) (rest := []) rfl (lenOf pd_26 rfl) rfl (own_le20 rfl) (dc at_450) ?_
                      rintro v209 T209 L209 X209 ⟨rfl, N209q, e209⟩
                      have N209 := Fr.app (Fr.app (Fr.app (Fr.app (Fr.app N41 N193q) N197q) N201q) N205q) N209q
                      show Goes p e below _ T209 (mkF m 453 (lA x0 x1 x2 x3 z1 sd 3 z3 z4 z5 1 (sR r0) (sR r1) (sR r2) (sR a24) (sI 1) (sI 0) (sI 1) (sI 0) su) [(.int (Fbefore z1 z5 (Fprice x3) z3 (Fprice x1)))])
                      by_cases hc210 : (Fbefore z1 z5 (Fprice x3) z3 (Fprice x1)) = (0 : Int32)
                      · have FF211 : FB Z T205.heap a24 (.ref r0) := by
                          have q := FB205
                          rw [(own_p3 ne_r0_r1 ne_r0_r2 ne_r1_r2 z3 z4 z5 (own_key z1 (Fprice x1)).toInt (own_key z1 (Fprice x2)).toInt (own_key z1 (Fprice x3)).toInt).2.2.2.2.2.2.1 ((own_bf (own_price x3) (own_price x1)).1 hc210)] at q
                          exact q
                        refine Goes.on (T' := T209) (g' := (mkF m 515 (lA x0 x1 x2 x3 z1 sd 3 z3 z4 z5 1 (sR r0) (sR r1) (sR r2) (sR a24) (sI 1) (sI 0) (sI 1) (sI 0) (sR r0)) [(.ref a24)])) (fun _ k => XS.ifYes X209.here hx rfl (pc0 := 453) (pc' := 478) rfl (dc at_453) rfl (XT.i0_eq_t hc210) (by decide) (by decide) (XS.iload X209.here hx rfl (dc at_478) rfl (XS.ifNo X209.here hx rfl (dc at_480) rfl (XT.i0_ne_f (by decide)) (XS.aload X209.here hx rfl (dc at_483) rfl rfl (XS.goto X209.here hx rfl (pc0 := 485) (pc' := 511) rfl (dc at_485) (by decide) (by decide) (XS.astore X209.here hx rfl (dc at_511) rfl rfl (l' := (lA x0 x1 x2 x3 z1 sd 3 z3 z4 z5 1 (sR r0) (sR r1) (sR r2) (sR a24) (sI 1) (sI 0) (sI 1) (sI 0) (sR r0))) rfl (XS.aload X209.here hx rfl (dc at_513) rfl rfl k))))))) ?_
                        refine Goes.callV X209 hx hZ19 0 hown19 (ow 218 rfl) (ow 219 rfl) (notFace_of_selects (args := #[]) (mvT hZ19 (ow 221 rfl))) (ow 221 rfl) (ow 220 rfl) (ow 167 rfl) (ow 222 rfl) (by decide) e209 (fb_exa FF211) (rmFst l Z a0 hw T205.heap Z206 FF211) (by decide) (by decide) (by decide) (by decide) rfl (by rw [hml]; rfl) (argsL := []) (rest := []) rfl (lenOf pd_24 rfl) rfl (own_le20 rfl) (dc at_515) ?_
                        rintro v212 T212 L212 X212 ⟨rfl, N212q, e212⟩
                        have N212 := Fr.app N209 N212q
                        show Goes p e below _ T212 (mkF m 518 (lA x0 x1 x2 x3 z1 sd 3 z3 z4 z5 1 (sR r0) (sR r1) (sR r2) (sR a24) (sI 1) (sI 0) (sI 1) (sI 0) (sR r0)) [(.ref r0)])
                        refine Goes.on (T' := T212) (g' := (mkF m 528 (lA x0 x1 x2 x3 z1 sd 3 z3 z4 z5 1 (sR r0) (sR r1) (sR r2) (sR a24) (sI 1) (sI 0) (sI 1) (sI 0) (sR r0)) [(.int 1)])) (fun _ k => XS.aload X212.here hx rfl (dc at_518) rfl rfl (XT.acmpNo X212.here hx rfl (dc at_520) rfl rfl rfl (XT.aa_ne_f rfl) (XS.iconst X212.here hx rfl (dc at_523) (XS.goto X212.here hx rfl (pc0 := 524) (pc' := 528) rfl (dc at_524) (by decide) (by decide) k)))) ?_
                        exact Goes.retBW X212 hS19 (by rw [e212]; exact Z207) hZ19 hEL (by rw [e212]; exact RR205) hx hlk hret (Or.inr rfl) (dc at_528) (by decide) (by decide) ⟨rfl, N212⟩
                      · have FF213 : FB Z T205.heap a24 (.ref r2) := by
                          have q := FB205
                          rw [(own_p3 ne_r0_r1 ne_r0_r2 ne_r1_r2 z3 z4 z5 (own_key z1 (Fprice x1)).toInt (own_key z1 (Fprice x2)).toInt (own_key z1 (Fprice x3)).toInt).2.2.2.2.2.2.2.1 ((own_bf (own_price x3) (own_price x1)).2 hc210)] at q
                          exact q
                        refine Goes.on (T' := T209) (g' := (mkF m 515 (lA x0 x1 x2 x3 z1 sd 3 z3 z4 z5 1 (sR r0) (sR r1) (sR r2) (sR a24) (sI 1) (sI 0) (sI 1) (sI 2) (sR r2)) [(.ref a24)])) (fun _ k => XS.ifNo X209.here hx rfl (dc at_453) rfl (XT.i0_eq_f hc210) (XS.goto X209.here hx rfl (pc0 := 456) (pc' := 475) rfl (dc at_456) (by decide) (by decide) (XS.iconst X209.here hx rfl (dc at_475) (XS.istore X209.here hx rfl (dc at_476) rfl (l' := (lA x0 x1 x2 x3 z1 sd 3 z3 z4 z5 1 (sR r0) (sR r1) (sR r2) (sR a24) (sI 1) (sI 0) (sI 1) (sI 2) su)) rfl (XS.iload X209.here hx rfl (dc at_478) rfl (XS.ifYes X209.here hx rfl (pc0 := 480) (pc' := 488) rfl (dc at_480) rfl (XT.i0_ne_t (by decide)) (by decide) (by decide) (XS.iload X209.here hx rfl (dc at_488) rfl (XS.iconst X209.here hx rfl (dc at_490) (XS.icmpYes X209.here hx rfl (pc0 := 491) (pc' := 499) rfl (dc at_491) rfl (XT.ii_ne_t (by decide)) (by decide) (by decide) (XS.iload X209.here hx rfl (dc at_499) rfl (XS.iconst X209.here hx rfl (dc at_501) (XS.icmpNo X209.here hx rfl (dc at_502) rfl (XT.ii_ne_f (by decide)) (XS.aload X209.here hx rfl (dc at_505) rfl rfl (XS.goto X209.here hx rfl (pc0 := 507) (pc' := 511) rfl (dc at_507) (by decide) (by decide) (XS.astore X209.here hx rfl (dc at_511) rfl rfl (l' := (lA x0 x1 x2 x3 z1 sd 3 z3 z4 z5 1 (sR r0) (sR r1) (sR r2) (sR a24) (sI 1) (sI 0) (sI 1) (sI 2) (sR r2))) rfl (XS.aload X209.here hx rfl (dc at_513) rfl rfl k)))))))))))))))) ?_
                        refine Goes.callV X209 hx hZ19 0 hown19 (ow 218 rfl) (ow 219 rfl) (notFace_of_selects (args := #[]) (mvT hZ19 (ow 221 rfl))) (ow 221 rfl) (ow 220 rfl) (ow 167 rfl) (ow 222 rfl) (by decide) e209 (fb_exa FF213) (rmFst l Z a0 hw T205.heap Z206 FF213) (by decide) (by decide) (by decide) (by decide) rfl (by rw [hml]; rfl) (argsL := []) (rest := []) rfl (lenOf pd_24 rfl) rfl (own_le20 rfl) (dc at_515) ?_
                        rintro v214 T214 L214 X214 ⟨rfl, N214q, e214⟩
                        have N214 := Fr.app N209 N214q
                        show Goes p e below _ T214 (mkF m 518 (lA x0 x1 x2 x3 z1 sd 3 z3 z4 z5 1 (sR r0) (sR r1) (sR r2) (sR a24) (sI 1) (sI 0) (sI 1) (sI 2) (sR r2)) [(.ref r2)])
                        refine Goes.on (T' := T214) (g' := (mkF m 528 (lA x0 x1 x2 x3 z1 sd 3 z3 z4 z5 1 (sR r0) (sR r1) (sR r2) (sR a24) (sI 1) (sI 0) (sI 1) (sI 2) (sR r2)) [(.int 1)])) (fun _ k => XS.aload X214.here hx rfl (dc at_518) rfl rfl (XT.acmpNo X214.here hx rfl (dc at_520) rfl rfl rfl (XT.aa_ne_f rfl) (XS.iconst X214.here hx rfl (dc at_523) (XS.goto X214.here hx rfl (pc0 := 524) (pc' := 528) rfl (dc at_524) (by decide) (by decide) k)))) ?_
                        exact Goes.retBW X214 hS19 (by rw [e214]; exact Z207) hZ19 hEL (by rw [e214]; exact RR205) hx hlk hret (Or.inr rfl) (dc at_528) (by decide) (by decide) ⟨rfl, N214⟩
                    · refine Goes.on (T' := T41) (g' := (mkF m 250 (lA x0 x1 x2 x3 z1 sd 3 z3 z4 z5 2 (sR r0) (sR r1) (sR r2) (sR a24) su su su su su) [(.ref r0), (.ref a24)])) (fun _ k => XS.iload X41.here hx rfl (dc at_241) rfl (XS.ifNo X41.here hx rfl (dc at_243) rfl (XT.i0_le_f (by decide)) (XS.aload X41.here hx rfl (dc at_246) rfl rfl (XS.aload X41.here hx rfl (dc at_248) rfl rfl k)))) ?_
                      refine Goes.callV X41 hx hZ19 0 hown19 (ow 230 rfl) (ow 231 rfl) (notFace_of_selects (args := #[]) (mvT hZ19 (ow 233 rfl))) (ow 233 rfl) (ow 232 rfl) (ow 167 rfl) (ow 234 rfl) (by decide) rfl (bk_exa BK0) (rmAddB l Z a0 hw r0 z3 (Fprice x1) T41.heap Z74 BK0 (own_price x1)) (by decide) (by decide) (by decide) (by decide) rfl (by rw [hml]; rfl) (argsL := [(.ref r0)]) (rest := []) rfl (lenOf pd_25 rfl) rfl (own_le20 rfl) (dc at_250) ?_
                      rintro v215 T215 L215 X215 ⟨rfl, N215q, OS215, mc215, qs215, eq215, BK215⟩
                      show Goes p e below _ T215 (mkF m 253 (lA x0 x1 x2 x3 z1 sd 3 z3 z4 z5 2 (sR r0) (sR r1) (sR r2) (sR a24) su su su su su) [])
                      obtain ⟨ws215, Kw215, sw215⟩ := OS215
                      have RR215 := RR77.trans (CHr.keep Kw215 (own_safeS hZ19.alike sw215) RR77.1)
                      have Z216 := Nat.le_trans Z74 Kw215.1
                      have Z217 := Nat.le_trans Z75 Kw215.1
                      have eq215 : (mc215, ownPr qs215) = (ownAdd z3 (own_key z1 (Fprice x1)).toInt r0 ([], [])) := eq215
                      refine Goes.on (T' := T215) (g' := (mkF m 263 (lA x0 x1 x2 x3 z1 sd 3 z3 z4 z5 2 (sR r0) (sR r1) (sR r2) (sR a24) su su su su su) [(.ref r1), (.ref a24)])) (fun _ k => XS.iload X215.here hx rfl (dc at_253) rfl (XS.iconst X215.here hx rfl (dc at_255) (XS.icmpNo X215.here hx rfl (dc at_256) rfl (XT.ii_le_f (by decide)) (XS.aload X215.here hx rfl (dc at_259) rfl rfl (XS.aload X215.here hx rfl (dc at_261) rfl rfl k))))) ?_
                      refine Goes.callV X215 hx hZ19 0 hown19 (ow 230 rfl) (ow 231 rfl) (notFace_of_selects (args := #[]) (mvT hZ19 (ow 233 rfl))) (ow 233 rfl) (ow 232 rfl) (ow 167 rfl) (ow 234 rfl) (by decide) rfl (bk_exa BK215) (rmAddB l Z a0 hw r1 z4 (Fprice x2) T215.heap Z216 BK215 (own_price x2)) (by decide) (by decide) (by decide) (by decide) rfl (by rw [hml]; rfl) (argsL := [(.ref r1)]) (rest := []) rfl (lenOf pd_25 rfl) rfl (own_le20 rfl) (dc at_263) ?_
                      rintro v219 T219 L219 X219 ⟨rfl, N219q, OS219, mc219, qs219, eq219, BK219⟩
                      show Goes p e below _ T219 (mkF m 266 (lA x0 x1 x2 x3 z1 sd 3 z3 z4 z5 2 (sR r0) (sR r1) (sR r2) (sR a24) su su su su su) [])
                      obtain ⟨ws219, Kw219, sw219⟩ := OS219
                      have RR219 := RR215.trans (CHr.keep Kw219 (own_safeS hZ19.alike sw219) RR215.1)
                      have Z220 := Nat.le_trans Z216 Kw219.1
                      have Z221 := Nat.le_trans Z217 Kw219.1
                      rw [eq215] at eq219
                      have eq219 : (mc219, ownPr qs219) = (ownAdd z4 (own_key z1 (Fprice x2)).toInt r1 (ownAdd z3 (own_key z1 (Fprice x1)).toInt r0 ([], []))) := eq219
                      refine Goes.on (T' := T219) (g' := (mkF m 276 (lA x0 x1 x2 x3 z1 sd 3 z3 z4 z5 2 (sR r0) (sR r1) (sR r2) (sR a24) su su su su su) [(.ref r2), (.ref a24)])) (fun _ k => XS.iload X219.here hx rfl (dc at_266) rfl (XS.iconst X219.here hx rfl (dc at_268) (XS.icmpNo X219.here hx rfl (dc at_269) rfl (XT.ii_le_f (by decide)) (XS.aload X219.here hx rfl (dc at_272) rfl rfl (XS.aload X219.here hx rfl (dc at_274) rfl rfl k))))) ?_
                      refine Goes.callV X219 hx hZ19 0 hown19 (ow 230 rfl) (ow 231 rfl) (notFace_of_selects (args := #[]) (mvT hZ19 (ow 233 rfl))) (ow 233 rfl) (ow 232 rfl) (ow 167 rfl) (ow 234 rfl) (by decide) rfl (bk_exa BK219) (rmAddB l Z a0 hw r2 z5 (Fprice x3) T219.heap Z220 BK219 (own_price x3)) (by decide) (by decide) (by decide) (by decide) rfl (by rw [hml]; rfl) (argsL := [(.ref r2)]) (rest := []) rfl (lenOf pd_25 rfl) rfl (own_le20 rfl) (dc at_276) ?_
                      rintro v223 T223 L223 X223 ⟨rfl, N223q, OS223, mc223, qs223, eq223, BK223⟩
                      show Goes p e below _ T223 (mkF m 279 (lA x0 x1 x2 x3 z1 sd 3 z3 z4 z5 2 (sR r0) (sR r1) (sR r2) (sR a24) su su su su su) [])
                      obtain ⟨ws223, Kw223, sw223⟩ := OS223
                      have RR223 := RR219.trans (CHr.keep Kw223 (own_safeS hZ19.alike sw223) RR219.1)
                      have Z224 := Nat.le_trans Z220 Kw223.1
                      have Z225 := Nat.le_trans Z221 Kw223.1
                      rw [eq219] at eq223
                      have eq223 : (mc223, ownPr qs223) = (ownAdd z5 (own_key z1 (Fprice x3)).toInt r2 (ownAdd z4 (own_key z1 (Fprice x2)).toInt r1 (ownAdd z3 (own_key z1 (Fprice x1)).toInt r0 ([], [])))) := eq223
                      refine Goes.on (T' := T223) (g' := (mkF m 321 (lA x0 x1 x2 x3 z1 sd 3 z3 z4 z5 2 (sR r0) (sR r1) (sR r2) (sR a24) su su su su su) [(.ref r2), (.ref a24)])) (fun _ k => XS.iload X223.here hx rfl (dc at_279) rfl (XS.iload X223.here hx rfl (dc at_281) rfl (XS.icmpNo X223.here hx rfl (dc at_283) rfl (XT.ii_ge_f (by decide)) (XS.iload X223.here hx rfl (dc at_286) rfl (XS.ifYes X223.here hx rfl (pc0 := 288) (pc' := 301) rfl (dc at_288) rfl (XT.i0_ne_t (by decide)) (by decide) (by decide) (XS.iload X223.here hx rfl (dc at_301) rfl (XS.iconst X223.here hx rfl (dc at_303) (XS.icmpYes X223.here hx rfl (pc0 := 304) (pc' := 317) rfl (dc at_304) rfl (XT.ii_ne_t (by decide)) (by decide) (by decide) (XS.aload X223.here hx rfl (dc at_317) rfl rfl (XS.aload X223.here hx rfl (dc at_319) rfl rfl k)))))))))) ?_
                      refine Goes.callV X223 hx hZ19 0 hown19 (ow 286 rfl) (ow 287 rfl) (notFace_of_selects (args := #[]) (mvT hZ19 (ow 289 rfl))) (ow 289 rfl) (ow 288 rfl) (ow 167 rfl) (ow 290 rfl) (by decide) rfl (bk_exa BK223) (rmRemB l Z a0 hw r2 T223.heap Z224 BK223 (own_all eq223 (own_mem_add _ _ _ _).1) (bk_len BK223)) (by decide) (by decide) (by decide) (by decide) rfl (by rw [hml]; rfl) (argsL := [(.ref r2)]) (rest := []) rfl (lenOf pd_25 rfl) rfl (own_le20 rfl) (dc at_321) ?_
                      rintro v227 T227 L227 X227 ⟨rfl, N227q, OS227, FB227⟩
                      show Goes p e below _ T227 (mkF m 324 (lA x0 x1 x2 x3 z1 sd 3 z3 z4 z5 2 (sR r0) (sR r1) (sR r2) (sR a24) su su su su su) [])
                      obtain ⟨ws227, Kw227, sw227⟩ := OS227
                      have RR227 := RR223.trans (CHr.keep Kw227 (own_safeS hZ19.alike sw227) RR223.1)
                      have Z228 := Nat.le_trans Z224 Kw227.1
                      have Z229 := Nat.le_trans Z225 Kw227.1
                      have FB227 : FB Z T227.heap a24 (ownVR r2 (ownAdd z5 (own_key z1 (Fprice x3)).toInt r2 (ownAdd z4 (own_key z1 (Fprice x2)).toInt r1 (ownAdd z3 (own_key z1 (Fprice x1)).toInt r0 ([], []))))) := by
                        have q : FB Z T227.heap a24 (ownVR r2 (mc223, ownPr qs223)) := FB227
                        rw [eq223] at q
                        exact q
                      refine Goes.on (T' := T227) (g' := (mkF m 379 (lA x0 x1 x2 x3 z1 sd 3 z3 z4 z5 2 (sR r0) (sR r1) (sR r2) (sR a24) (sI 1) (sI 1) (sI 0) su su) [])) (fun _ k => XS.iload X227.here hx rfl (dc at_324) rfl (XS.ifNo X227.here hx rfl (dc at_326) rfl (XT.i0_le_f (by decide)) (XS.iload X227.here hx rfl (dc at_329) rfl (XS.ifNo X227.here hx rfl (dc at_331) rfl (XT.i0_eq_f (by decide)) (XS.iconst X227.here hx rfl (dc at_334) (XS.goto X227.here hx rfl (pc0 := 335) (pc' := 339) rfl (dc at_335) (by decide) (by decide) (XS.istore X227.here hx rfl (dc at_339) rfl (l' := (lA x0 x1 x2 x3 z1 sd 3 z3 z4 z5 2 (sR r0) (sR r1) (sR r2) (sR a24) (sI 1) su su su su)) rfl (XS.iload X227.here hx rfl (dc at_341) rfl (XS.iconst X227.here hx rfl (dc at_343) (XS.icmpNo X227.here hx rfl (dc at_344) rfl (XT.ii_le_f (by decide)) (XS.iload X227.here hx rfl (dc at_347) rfl (XS.iconst X227.here hx rfl (dc at_349) (XS.icmpNo X227.here hx rfl (dc at_350) rfl (XT.ii_eq_f (by decide)) (XS.iconst X227.here hx rfl (dc at_353) (XS.goto X227.here hx rfl (pc0 := 354) (pc' := 358) rfl (dc at_354) (by decide) (by decide) (XS.istore X227.here hx rfl (dc at_358) rfl (l' := (lA x0 x1 x2 x3 z1 sd 3 z3 z4 z5 2 (sR r0) (sR r1) (sR r2) (sR a24) (sI 1) (sI 1) su su su)) rfl (XS.iload X227.here hx rfl (dc at_360) rfl (XS.iconst X227.here hx rfl (dc at_362) (XS.icmpNo X227.here hx rfl (dc at_363) rfl (XT.ii_le_f (by decide)) (XS.iload X227.here hx rfl (dc at_366) rfl (XS.iconst X227.here hx rfl (dc at_368) (XS.icmpYes X227.here hx rfl (pc0 := 369) (pc' := 376) rfl (dc at_369) rfl (XT.ii_eq_t (by decide)) (by decide) (by decide) (XS.iconst X227.here hx rfl (dc at_376) (XS.istore X227.here hx rfl (dc at_377) rfl (l' := (lA x0 x1 x2 x3 z1 sd 3 z3 z4 z5 2 (sR r0) (sR r1) (sR r2) (sR a24) (sI 1) (sI 1) (sI 0) su su)) rfl k)))))))))))))))))))))))) ?_
                      refine Goes.on (T' := T227) (g' := (mkF m 410 (lA x0 x1 x2 x3 z1 sd 3 z3 z4 z5 2 (sR r0) (sR r1) (sR r2) (sR a24) (sI 1) (sI 1) (sI 0) (sI 0) su) [(.long (Fprice x1)), (.int z3), (.long (Fprice x2)), (.int z4), (.int z1)])) (fun _ k => XS.iconst X227.here hx rfl (dc at_379) (XS.istore X227.here hx rfl (dc at_380) rfl (l' := (lA x0 x1 x2 x3 z1 sd 3 z3 z4 z5 2 (sR r0) (sR r1) (sR r2) (sR a24) (sI 1) (sI 1) (sI 0) (sI (-1 : Int32)) su)) rfl (XS.iload X227.here hx rfl (dc at_382) rfl (XS.ifNo X227.here hx rfl (dc at_384) rfl (XT.i0_eq_f (by decide)) (XS.iconst X227.here hx rfl (dc at_387) (XS.istore X227.here hx rfl (dc at_388) rfl (l' := (lA x0 x1 x2 x3 z1 sd 3 z3 z4 z5 2 (sR r0) (sR r1) (sR r2) (sR a24) (sI 1) (sI 1) (sI 0) (sI 0) su)) rfl (XS.iload X227.here hx rfl (dc at_390) rfl (XS.ifNo X227.here hx rfl (dc at_392) rfl (XT.i0_eq_f (by decide)) (XS.iload X227.here hx rfl (dc at_395) rfl (XS.ifNo X227.here hx rfl (dc at_397) rfl (XT.i0_lt_f (by decide)) (XS.iload X227.here hx rfl (dc at_400) rfl (XS.iload X227.here hx rfl (dc at_402) rfl (XS.lload X227.here hx rfl (dc at_404) rfl (XS.iload X227.here hx rfl (dc at_406) rfl (XS.lload X227.here hx rfl (dc at_408) rfl k))))))))))))))) ?_
                      refine Goes.callS X227 hx hZ19 0 hown19 (ow 293 rfl) (ow 294 rfl) (ow 5 rfl) (ow 295 rfl) (by decide) rfl (rmbefore l Z a0 hw z1 z4 (Fprice x2) z3 (Fprice x1) T227.heap n0 Z228) (by decide) (by decide) (by decide) (by decide) rfl (by rw [hml]; rfl) (argsL := [(.int z1), (.int z4), (.long (Fprice x2)), (.int z3), (.long (Fprice x1))]) (rest := []) rfl (lenOf pd_26 rfl) rfl (own_le20 rfl) (dc at_410) ?_
                      rintro v231 T231 L231 X231 ⟨rfl, N231q, e231⟩
                      have N231 := Fr.app (Fr.app (Fr.app (Fr.app (Fr.app N41 N215q) N219q) N223q) N227q) N231q
                      show Goes p e below _ T231 (mkF m 413 (lA x0 x1 x2 x3 z1 sd 3 z3 z4 z5 2 (sR r0) (sR r1) (sR r2) (sR a24) (sI 1) (sI 1) (sI 0) (sI 0) su) [(.int (Fbefore z1 z4 (Fprice x2) z3 (Fprice x1)))])
                      by_cases hc232 : (Fbefore z1 z4 (Fprice x2) z3 (Fprice x1)) = (0 : Int32)
                      · have FF233 : FB Z T227.heap a24 (.ref r0) := by
                          have q := FB227
                          rw [(own_p3 ne_r0_r1 ne_r0_r2 ne_r1_r2 z3 z4 z5 (own_key z1 (Fprice x1)).toInt (own_key z1 (Fprice x2)).toInt (own_key z1 (Fprice x3)).toInt).2.2.2.2.2.2.2.2.1 ((own_bf (own_price x2) (own_price x1)).1 hc232)] at q
                          exact q
                        refine Goes.on (T' := T231) (g' := (mkF m 515 (lA x0 x1 x2 x3 z1 sd 3 z3 z4 z5 2 (sR r0) (sR r1) (sR r2) (sR a24) (sI 1) (sI 1) (sI 0) (sI 0) (sR r0)) [(.ref a24)])) (fun _ k => XS.ifYes X231.here hx rfl (pc0 := 413) (pc' := 419) rfl (dc at_413) rfl (XT.i0_eq_t hc232) (by decide) (by decide) (XS.iload X231.here hx rfl (dc at_419) rfl (XS.ifYes X231.here hx rfl (pc0 := 421) (pc' := 478) rfl (dc at_421) rfl (XT.i0_eq_t (by decide)) (by decide) (by decide) (XS.iload X231.here hx rfl (dc at_478) rfl (XS.ifNo X231.here hx rfl (dc at_480) rfl (XT.i0_ne_f (by decide)) (XS.aload X231.here hx rfl (dc at_483) rfl rfl (XS.goto X231.here hx rfl (pc0 := 485) (pc' := 511) rfl (dc at_485) (by decide) (by decide) (XS.astore X231.here hx rfl (dc at_511) rfl rfl (l' := (lA x0 x1 x2 x3 z1 sd 3 z3 z4 z5 2 (sR r0) (sR r1) (sR r2) (sR a24) (sI 1) (sI 1) (sI 0) (sI 0) (sR r0))) rfl (XS.aload X231.here hx rfl (dc at_513) rfl rfl k))))))))) ?_
                        refine Goes.callV X231 hx hZ19 0 hown19 (ow 218 rfl) (ow 219 rfl) (notFace_of_selects (args := #[]) (mvT hZ19 (ow 221 rfl))) (ow 221 rfl) (ow 220 rfl) (ow 167 rfl) (ow 222 rfl) (by decide) e231 (fb_exa FF233) (rmFst l Z a0 hw T227.heap Z228 FF233) (by decide) (by decide) (by decide) (by decide) rfl (by rw [hml]; rfl) (argsL := []) (rest := []) rfl (lenOf pd_24 rfl) rfl (own_le20 rfl) (dc at_515) ?_
                        rintro v234 T234 L234 X234 ⟨rfl, N234q, e234⟩
                        have N234 := Fr.app N231 N234q
                        show Goes p e below _ T234 (mkF m 518 (lA x0 x1 x2 x3 z1 sd 3 z3 z4 z5 2 (sR r0) (sR r1) (sR r2) (sR a24) (sI 1) (sI 1) (sI 0) (sI 0) (sR r0)) [(.ref r0)])
                        refine Goes.on (T' := T234) (g' := (mkF m 528 (lA x0 x1 x2 x3 z1 sd 3 z3 z4 z5 2 (sR r0) (sR r1) (sR r2) (sR a24) (sI 1) (sI 1) (sI 0) (sI 0) (sR r0)) [(.int 1)])) (fun _ k => XS.aload X234.here hx rfl (dc at_518) rfl rfl (XT.acmpNo X234.here hx rfl (dc at_520) rfl rfl rfl (XT.aa_ne_f rfl) (XS.iconst X234.here hx rfl (dc at_523) (XS.goto X234.here hx rfl (pc0 := 524) (pc' := 528) rfl (dc at_524) (by decide) (by decide) k)))) ?_
                        exact Goes.retBW X234 hS19 (by rw [e234]; exact Z229) hZ19 hEL (by rw [e234]; exact RR227) hx hlk hret (Or.inr rfl) (dc at_528) (by decide) (by decide) ⟨rfl, N234⟩
                      · have FF235 : FB Z T227.heap a24 (.ref r1) := by
                          have q := FB227
                          rw [(own_p3 ne_r0_r1 ne_r0_r2 ne_r1_r2 z3 z4 z5 (own_key z1 (Fprice x1)).toInt (own_key z1 (Fprice x2)).toInt (own_key z1 (Fprice x3)).toInt).2.2.2.2.2.2.2.2.2 ((own_bf (own_price x2) (own_price x1)).2 hc232)] at q
                          exact q
                        refine Goes.on (T' := T231) (g' := (mkF m 515 (lA x0 x1 x2 x3 z1 sd 3 z3 z4 z5 2 (sR r0) (sR r1) (sR r2) (sR a24) (sI 1) (sI 1) (sI 0) (sI 1) (sR r1)) [(.ref a24)])) (fun _ k => XS.ifNo X231.here hx rfl (dc at_413) rfl (XT.i0_eq_f hc232) (XS.iconst X231.here hx rfl (dc at_416) (XS.istore X231.here hx rfl (dc at_417) rfl (l' := (lA x0 x1 x2 x3 z1 sd 3 z3 z4 z5 2 (sR r0) (sR r1) (sR r2) (sR a24) (sI 1) (sI 1) (sI 0) (sI 1) su)) rfl (XS.iload X231.here hx rfl (dc at_419) rfl (XS.ifYes X231.here hx rfl (pc0 := 421) (pc' := 478) rfl (dc at_421) rfl (XT.i0_eq_t (by decide)) (by decide) (by decide) (XS.iload X231.here hx rfl (dc at_478) rfl (XS.ifYes X231.here hx rfl (pc0 := 480) (pc' := 488) rfl (dc at_480) rfl (XT.i0_ne_t (by decide)) (by decide) (by decide) (XS.iload X231.here hx rfl (dc at_488) rfl (XS.iconst X231.here hx rfl (dc at_490) (XS.icmpNo X231.here hx rfl (dc at_491) rfl (XT.ii_ne_f (by decide)) (XS.aload X231.here hx rfl (dc at_494) rfl rfl (XS.goto X231.here hx rfl (pc0 := 496) (pc' := 511) rfl (dc at_496) (by decide) (by decide) (XS.astore X231.here hx rfl (dc at_511) rfl rfl (l' := (lA x0 x1 x2 x3 z1 sd 3 z3 z4 z5 2 (sR r0) (sR r1) (sR r2) (sR a24) (sI 1) (sI 1) (sI 0) (sI 1) (sR r1))) rfl (XS.aload X231.here hx rfl (dc at_513) rfl rfl k)))))))))))))) ?_
                        refine Goes.callV X231 hx hZ19 0 hown19 (ow 218 rfl) (ow 219 rfl) (notFace_of_selects (args := #[]) (mvT hZ19 (ow 221 rfl))) (ow 221 rfl) (ow 220 rfl) (ow 167 rfl) (ow 222 rfl) (by decide) e231 (fb_exa FF235) (rmFst l Z a0 hw T227.heap Z228 FF235) (by decide) (by decide) (by decide) (by decide) rfl (by rw [hml]; rfl) (argsL := []) (rest := []) rfl (lenOf pd_24 rfl) rfl (own_le20 rfl) (dc at_515) ?_
                        rintro v236 T236 L236 X236 ⟨rfl, N236q, e236⟩
                        have N236 := Fr.app N231 N236q
                        show Goes p e below _ T236 (mkF m 518 (lA x0 x1 x2 x3 z1 sd 3 z3 z4 z5 2 (sR r0) (sR r1) (sR r2) (sR a24) (sI 1) (sI 1) (sI 0) (sI 1) (sR r1)) [(.ref r1)])
                        refine Goes.on (T' := T236) (g' := (mkF m 528 (lA x0 x1 x2 x3 z1 sd 3 z3 z4 z5 2 (sR r0) (sR r1) (sR r2) (sR a24) (sI 1) (sI 1) (sI 0) (sI 1) (sR r1)) [(.int 1)])) (fun _ k => XS.aload X236.here hx rfl (dc at_518) rfl rfl (XT.acmpNo X236.here hx rfl (dc at_520) rfl rfl rfl (XT.aa_ne_f rfl) (XS.iconst X236.here hx rfl (dc at_523) (XS.goto X236.here hx rfl (pc0 := 524) (pc' := 528) rfl (dc at_524) (by decide) (by decide) k)))) ?_
                        exact Goes.retBW X236 hS19 (by rw [e236]; exact Z229) hZ19 hEL (by rw [e236]; exact RR227) hx hlk hret (Or.inr rfl) (dc at_528) (by decide) (by decide) ⟨rfl, N236⟩
                    · refine Goes.on (T' := T41) (g' := (mkF m 250 (lA x0 x1 x2 x3 z1 sd 3 z3 z4 z5 3 (sR r0) (sR r1) (sR r2) (sR a24) su su su su su) [(.ref r0), (.ref a24)])) (fun _ k => XS.iload X41.here hx rfl (dc at_241) rfl (XS.ifNo X41.here hx rfl (dc at_243) rfl (XT.i0_le_f (by decide)) (XS.aload X41.here hx rfl (dc at_246) rfl rfl (XS.aload X41.here hx rfl (dc at_248) rfl rfl k)))) ?_
                      refine Goes.callV X41 hx hZ19 0 hown19 (ow 230 rfl) (ow 231 rfl) (notFace_of_selects (args := #[]) (mvT hZ19 (ow 233 rfl))) (ow 233 rfl) (ow 232 rfl) (ow 167 rfl) (ow 234 rfl) (by decide) rfl (bk_exa BK0) (rmAddB l Z a0 hw r0 z3 (Fprice x1) T41.heap Z74 BK0 (own_price x1)) (by decide) (by decide) (by decide) (by decide) rfl (by rw [hml]; rfl) (argsL := [(.ref r0)]) (rest := []) rfl (lenOf pd_25 rfl) rfl (own_le20 rfl) (dc at_250) ?_
                      rintro v237 T237 L237 X237 ⟨rfl, N237q, OS237, mc237, qs237, eq237, BK237⟩
                      show Goes p e below _ T237 (mkF m 253 (lA x0 x1 x2 x3 z1 sd 3 z3 z4 z5 3 (sR r0) (sR r1) (sR r2) (sR a24) su su su su su) [])
                      obtain ⟨ws237, Kw237, sw237⟩ := OS237
                      have RR237 := RR77.trans (CHr.keep Kw237 (own_safeS hZ19.alike sw237) RR77.1)
                      have Z238 := Nat.le_trans Z74 Kw237.1
                      have Z239 := Nat.le_trans Z75 Kw237.1
                      have eq237 : (mc237, ownPr qs237) = (ownAdd z3 (own_key z1 (Fprice x1)).toInt r0 ([], [])) := eq237
                      refine Goes.on (T' := T237) (g' := (mkF m 263 (lA x0 x1 x2 x3 z1 sd 3 z3 z4 z5 3 (sR r0) (sR r1) (sR r2) (sR a24) su su su su su) [(.ref r1), (.ref a24)])) (fun _ k => XS.iload X237.here hx rfl (dc at_253) rfl (XS.iconst X237.here hx rfl (dc at_255) (XS.icmpNo X237.here hx rfl (dc at_256) rfl (XT.ii_le_f (by decide)) (XS.aload X237.here hx rfl (dc at_259) rfl rfl (XS.aload X237.here hx rfl (dc at_261) rfl rfl k))))) ?_
                      refine Goes.callV X237 hx hZ19 0 hown19 (ow 230 rfl) (ow 231 rfl) (notFace_of_selects (args := #[]) (mvT hZ19 (ow 233 rfl))) (ow 233 rfl) (ow 232 rfl) (ow 167 rfl) (ow 234 rfl) (by decide) rfl (bk_exa BK237) (rmAddB l Z a0 hw r1 z4 (Fprice x2) T237.heap Z238 BK237 (own_price x2)) (by decide) (by decide) (by decide) (by decide) rfl (by rw [hml]; rfl) (argsL := [(.ref r1)]) (rest := []) rfl (lenOf pd_25 rfl) rfl (own_le20 rfl) (dc at_263) ?_
                      rintro v241 T241 L241 X241 ⟨rfl, N241q, OS241, mc241, qs241, eq241, BK241⟩
                      show Goes p e below _ T241 (mkF m 266 (lA x0 x1 x2 x3 z1 sd 3 z3 z4 z5 3 (sR r0) (sR r1) (sR r2) (sR a24) su su su su su) [])
                      obtain ⟨ws241, Kw241, sw241⟩ := OS241
                      have RR241 := RR237.trans (CHr.keep Kw241 (own_safeS hZ19.alike sw241) RR237.1)
                      have Z242 := Nat.le_trans Z238 Kw241.1
                      have Z243 := Nat.le_trans Z239 Kw241.1
                      rw [eq237] at eq241
                      have eq241 : (mc241, ownPr qs241) = (ownAdd z4 (own_key z1 (Fprice x2)).toInt r1 (ownAdd z3 (own_key z1 (Fprice x1)).toInt r0 ([], []))) := eq241
                      refine Goes.on (T' := T241) (g' := (mkF m 276 (lA x0 x1 x2 x3 z1 sd 3 z3 z4 z5 3 (sR r0) (sR r1) (sR r2) (sR a24) su su su su su) [(.ref r2), (.ref a24)])) (fun _ k => XS.iload X241.here hx rfl (dc at_266) rfl (XS.iconst X241.here hx rfl (dc at_268) (XS.icmpNo X241.here hx rfl (dc at_269) rfl (XT.ii_le_f (by decide)) (XS.aload X241.here hx rfl (dc at_272) rfl rfl (XS.aload X241.here hx rfl (dc at_274) rfl rfl k))))) ?_
                      refine Goes.callV X241 hx hZ19 0 hown19 (ow 230 rfl) (ow 231 rfl) (notFace_of_selects (args := #[]) (mvT hZ19 (ow 233 rfl))) (ow 233 rfl) (ow 232 rfl) (ow 167 rfl) (ow 234 rfl) (by decide) rfl (bk_exa BK241) (rmAddB l Z a0 hw r2 z5 (Fprice x3) T241.heap Z242 BK241 (own_price x3)) (by decide) (by decide) (by decide) (by decide) rfl (by rw [hml]; rfl) (argsL := [(.ref r2)]) (rest := []) rfl (lenOf pd_25 rfl) rfl (own_le20 rfl) (dc at_276) ?_
                      rintro v245 T245 L245 X245 ⟨rfl, N245q, OS245, mc245, qs245, eq245, BK245⟩
                      show Goes p e below _ T245 (mkF m 279 (lA x0 x1 x2 x3 z1 sd 3 z3 z4 z5 3 (sR r0) (sR r1) (sR r2) (sR a24) su su su su su) [])
                      obtain ⟨ws245, Kw245, sw245⟩ := OS245
                      have RR245 := RR241.trans (CHr.keep Kw245 (own_safeS hZ19.alike sw245) RR241.1)
                      have Z246 := Nat.le_trans Z242 Kw245.1
                      have Z247 := Nat.le_trans Z243 Kw245.1
                      rw [eq241] at eq245
                      have eq245 : (mc245, ownPr qs245) = (ownAdd z5 (own_key z1 (Fprice x3)).toInt r2 (ownAdd z4 (own_key z1 (Fprice x2)).toInt r1 (ownAdd z3 (own_key z1 (Fprice x1)).toInt r0 ([], [])))) := eq245
                      refine Goes.on (T' := T245) (g' := (mkF m 369 (lA x0 x1 x2 x3 z1 sd 3 z3 z4 z5 3 (sR r0) (sR r1) (sR r2) (sR a24) (sI 1) (sI 1) su su su) [(.int 2), (.int 3)])) (fun _ k => XS.iload X245.here hx rfl (dc at_279) rfl (XS.iload X245.here hx rfl (dc at_281) rfl (XS.icmpYes X245.here hx rfl (pc0 := 283) (pc' := 324) rfl (dc at_283) rfl (XT.ii_ge_t (by decide)) (by decide) (by decide) (XS.iload X245.here hx rfl (dc at_324) rfl (XS.ifNo X245.here hx rfl (dc at_326) rfl (XT.i0_le_f (by decide)) (XS.iload X245.here hx rfl (dc at_329) rfl (XS.ifNo X245.here hx rfl (dc at_331) rfl (XT.i0_eq_f (by decide)) (XS.iconst X245.here hx rfl (dc at_334) (XS.goto X245.here hx rfl (pc0 := 335) (pc' := 339) rfl (dc at_335) (by decide) (by decide) (XS.istore X245.here hx rfl (dc at_339) rfl (l' := (lA x0 x1 x2 x3 z1 sd 3 z3 z4 z5 3 (sR r0) (sR r1) (sR r2) (sR a24) (sI 1) su su su su)) rfl (XS.iload X245.here hx rfl (dc at_341) rfl (XS.iconst X245.here hx rfl (dc at_343) (XS.icmpNo X245.here hx rfl (dc at_344) rfl (XT.ii_le_f (by decide)) (XS.iload X245.here hx rfl (dc at_347) rfl (XS.iconst X245.here hx rfl (dc at_349) (XS.icmpNo X245.here hx rfl (dc at_350) rfl (XT.ii_eq_f (by decide)) (XS.iconst X245.here hx rfl (dc at_353) (XS.goto X245.here hx rfl (pc0 := 354) (pc' := 358) rfl (dc at_354) (by decide) (by decide) (XS.istore X245.here hx rfl (dc at_358) rfl (l' := (lA x0 x1 x2 x3 z1 sd 3 z3 z4 z5 3 (sR r0) (sR r1) (sR r2) (sR a24) (sI 1) (sI 1) su su su)) rfl (XS.iload X245.here hx rfl (dc at_360) rfl (XS.iconst X245.here hx rfl (dc at_362) (XS.icmpNo X245.here hx rfl (dc at_363) rfl (XT.ii_le_f (by decide)) (XS.iload X245.here hx rfl (dc at_366) rfl (XS.iconst X245.here hx rfl (dc at_368) k)))))))))))))))))))))))) ?_
                      refine Goes.on (T' := T245) (g' := (mkF m 410 (lA x0 x1 x2 x3 z1 sd 3 z3 z4 z5 3 (sR r0) (sR r1) (sR r2) (sR a24) (sI 1) (sI 1) (sI 1) (sI 0) su) [(.long (Fprice x1)), (.int z3), (.long (Fprice x2)), (.int z4), (.int z1)])) (fun _ k => XS.icmpNo X245.here hx rfl (dc at_369) rfl (XT.ii_eq_f (by decide)) (XS.iconst X245.here hx rfl (dc at_372) (XS.goto X245.here hx rfl (pc0 := 373) (pc' := 377) rfl (dc at_373) (by decide) (by decide) (XS.istore X245.here hx rfl (dc at_377) rfl (l' := (lA x0 x1 x2 x3 z1 sd 3 z3 z4 z5 3 (sR r0) (sR r1) (sR r2) (sR a24) (sI 1) (sI 1) (sI 1) su su)) rfl (XS.iconst X245.here hx rfl (dc at_379) (XS.istore X245.here hx rfl (dc at_380) rfl (l' := (lA x0 x1 x2 x3 z1 sd 3 z3 z4 z5 3 (sR r0) (sR r1) (sR r2) (sR a24) (sI 1) (sI 1) (sI 1) (sI (-1 : Int32)) su)) rfl (XS.iload X245.here hx rfl (dc at_382) rfl (XS.ifNo X245.here hx rfl (dc at_384) rfl (XT.i0_eq_f (by decide)) (XS.iconst X245.here hx rfl (dc at_387) (XS.istore X245.here hx rfl (dc at_388) rfl (l' := (lA x0 x1 x2 x3 z1 sd 3 z3 z4 z5 3 (sR r0) (sR r1) (sR r2) (sR a24) (sI 1) (sI 1) (sI 1) (sI 0) su)) rfl (XS.iload X245.here hx rfl (dc at_390) rfl (XS.ifNo X245.here hx rfl (dc at_392) rfl (XT.i0_eq_f (by decide)) (XS.iload X245.here hx rfl (dc at_395) rfl (XS.ifNo X245.here hx rfl (dc at_397) rfl (XT.i0_lt_f (by decide)) (XS.iload X245.here hx rfl (dc at_400) rfl (XS.iload X245.here hx rfl (dc at_402) rfl (XS.lload X245.here hx rfl (dc at_404) rfl (XS.iload X245.here hx rfl (dc at_406) rfl (XS.lload X245.here hx rfl (dc at_408) rfl k))))))))))))))))))) ?_
                      refine Goes.callS X245 hx hZ19 0 hown19 (ow 293 rfl) (ow 294 rfl) (ow 5 rfl) (ow 295 rfl) (by decide) rfl (rmbefore l Z a0 hw z1 z4 (Fprice x2) z3 (Fprice x1) T245.heap n0 Z246) (by decide) (by decide) (by decide) (by decide) rfl (by rw [hml]; rfl) (argsL := [(.int z1), (.int z4), (.long (Fprice x2)), (.int z3), (.long (Fprice x1))]) (rest := []) rfl (lenOf pd_26 rfl) rfl (own_le20 rfl) (dc at_410) ?_
                      rintro v249 T249 L249 X249 ⟨rfl, N249q, e249⟩
                      have N249 := Fr.app (Fr.app (Fr.app (Fr.app N41 N237q) N241q) N245q) N249q
                      show Goes p e below _ T249 (mkF m 413 (lA x0 x1 x2 x3 z1 sd 3 z3 z4 z5 3 (sR r0) (sR r1) (sR r2) (sR a24) (sI 1) (sI 1) (sI 1) (sI 0) su) [(.int (Fbefore z1 z4 (Fprice x2) z3 (Fprice x1)))])
                      by_cases hc250 : (Fbefore z1 z4 (Fprice x2) z3 (Fprice x1)) = (0 : Int32)
                      · refine Goes.on (T' := T249) (g' := (mkF m 450 (lA x0 x1 x2 x3 z1 sd 3 z3 z4 z5 3 (sR r0) (sR r1) (sR r2) (sR a24) (sI 1) (sI 1) (sI 1) (sI 0) su) [(.long (Fprice x1)), (.int z3), (.long (Fprice x3)), (.int z5), (.int z1)])) (fun _ k => XS.ifYes X249.here hx rfl (pc0 := 413) (pc' := 419) rfl (dc at_413) rfl (XT.i0_eq_t hc250) (by decide) (by decide) (XS.iload X249.here hx rfl (dc at_419) rfl (XS.ifNo X249.here hx rfl (dc at_421) rfl (XT.i0_eq_f (by decide)) (XS.iload X249.here hx rfl (dc at_424) rfl (XS.ifYes X249.here hx rfl (pc0 := 426) (pc' := 435) rfl (dc at_426) rfl (XT.i0_ge_t (by decide)) (by decide) (by decide) (XS.iload X249.here hx rfl (dc at_435) rfl (XS.ifNo X249.here hx rfl (dc at_437) rfl (XT.i0_ne_f (by decide)) (XS.iload X249.here hx rfl (dc at_440) rfl (XS.iload X249.here hx rfl (dc at_442) rfl (XS.lload X249.here hx rfl (dc at_444) rfl (XS.iload X249.here hx rfl (dc at_446) rfl (XS.lload X249.here hx rfl (dc at_448) rfl k)))))))))))) ?_
                        refine Goes.callS X249 hx hZ19 0 hown19 (ow 293 rfl) (ow 294 rfl) (ow 5 rfl) (ow 295 rfl) (by decide) e249 (rmbefore l Z a0 hw z1 z5 (Fprice x3) z3 (Fprice x1) T245.heap n0 Z246) (by decide) (by decide) (by decide) (by decide) rfl (by rw [hml]; rfl) (argsL := [(.int z1), (.int z5), (.long (Fprice x3)), (.int z3), (.long (Fprice x1))]) (rest := []) rfl (lenOf pd_26 rfl) rfl (own_le20 rfl) (dc at_450) ?_
                        rintro v251 T251 L251 X251 ⟨rfl, N251q, e251⟩
                        have N251 := Fr.app N249 N251q
                        show Goes p e below _ T251 (mkF m 453 (lA x0 x1 x2 x3 z1 sd 3 z3 z4 z5 3 (sR r0) (sR r1) (sR r2) (sR a24) (sI 1) (sI 1) (sI 1) (sI 0) su) [(.int (Fbefore z1 z5 (Fprice x3) z3 (Fprice x1)))])
                        by_cases hc252 : (Fbefore z1 z5 (Fprice x3) z3 (Fprice x1)) = (0 : Int32)
                        · have FF253 : FB Z T245.heap a24 (.ref r0) := by
                            have q : FB Z T245.heap a24 (ownV (mc245, ownPr qs245)) := bk_fb (bk_len BK245) BK245
                            rw [eq245, (own_p3 ne_r0_r1 ne_r0_r2 ne_r1_r2 z3 z4 z5 (own_key z1 (Fprice x1)).toInt (own_key z1 (Fprice x2)).toInt (own_key z1 (Fprice x3)).toInt).1 ((own_bf (own_price x2) (own_price x1)).1 hc250) ((own_bf (own_price x3) (own_price x1)).1 hc252)] at q
                            exact q
                          refine Goes.on (T' := T251) (g' := (mkF m 515 (lA x0 x1 x2 x3 z1 sd 3 z3 z4 z5 3 (sR r0) (sR r1) (sR r2) (sR a24) (sI 1) (sI 1) (sI 1) (sI 0) (sR r0)) [(.ref a24)])) (fun _ k => XS.ifYes X251.here hx rfl (pc0 := 453) (pc' := 478) rfl (dc at_453) rfl (XT.i0_eq_t hc252) (by decide) (by decide) (XS.iload X251.here hx rfl (dc at_478) rfl (XS.ifNo X251.here hx rfl (dc at_480) rfl (XT.i0_ne_f (by decide)) (XS.aload X251.here hx rfl (dc at_483) rfl rfl (XS.goto X251.here hx rfl (pc0 := 485) (pc' := 511) rfl (dc at_485) (by decide) (by decide) (XS.astore X251.here hx rfl (dc at_511) rfl rfl (l' := (lA x0 x1 x2 x3 z1 sd 3 z3 z4 z5 3 (sR r0) (sR r1) (sR r2) (sR a24) (sI 1) (sI 1) (sI 1) (sI 0) (sR r0))) rfl (XS.aload X251.here hx rfl (dc at_513) rfl rfl k))))))) ?_
                          refine Goes.callV X251 hx hZ19 0 hown19 (ow 218 rfl) (ow 219 rfl) (notFace_of_selects (args := #[]) (mvT hZ19 (ow 221 rfl))) (ow 221 rfl) (ow 220 rfl) (ow 167 rfl) (ow 222 rfl) (by decide) e251 (fb_exa FF253) (rmFst l Z a0 hw T245.heap Z246 FF253) (by decide) (by decide) (by decide) (by decide) rfl (by rw [hml]; rfl) (argsL := []) (rest := []) rfl (lenOf pd_24 rfl) rfl (own_le20 rfl) (dc at_515) ?_
                          rintro v254 T254 L254 X254 ⟨rfl, N254q, e254⟩
                          have N254 := Fr.app N251 N254q
                          show Goes p e below _ T254 (mkF m 518 (lA x0 x1 x2 x3 z1 sd 3 z3 z4 z5 3 (sR r0) (sR r1) (sR r2) (sR a24) (sI 1) (sI 1) (sI 1) (sI 0) (sR r0)) [(.ref r0)])
                          refine Goes.on (T' := T254) (g' := (mkF m 528 (lA x0 x1 x2 x3 z1 sd 3 z3 z4 z5 3 (sR r0) (sR r1) (sR r2) (sR a24) (sI 1) (sI 1) (sI 1) (sI 0) (sR r0)) [(.int 1)])) (fun _ k => XS.aload X254.here hx rfl (dc at_518) rfl rfl (XT.acmpNo X254.here hx rfl (dc at_520) rfl rfl rfl (XT.aa_ne_f rfl) (XS.iconst X254.here hx rfl (dc at_523) (XS.goto X254.here hx rfl (pc0 := 524) (pc' := 528) rfl (dc at_524) (by decide) (by decide) k)))) ?_
                          exact Goes.retBW X254 hS19 (by rw [e254]; exact Z247) hZ19 hEL (by rw [e254]; exact RR245) hx hlk hret (Or.inr rfl) (dc at_528) (by decide) (by decide) ⟨rfl, N254⟩
                        · have FF255 : FB Z T245.heap a24 (.ref r2) := by
                            have q : FB Z T245.heap a24 (ownV (mc245, ownPr qs245)) := bk_fb (bk_len BK245) BK245
                            rw [eq245, (own_p3 ne_r0_r1 ne_r0_r2 ne_r1_r2 z3 z4 z5 (own_key z1 (Fprice x1)).toInt (own_key z1 (Fprice x2)).toInt (own_key z1 (Fprice x3)).toInt).2.1 ((own_bf (own_price x2) (own_price x1)).1 hc250) ((own_bf (own_price x3) (own_price x1)).2 hc252)] at q
                            exact q
                          refine Goes.on (T' := T251) (g' := (mkF m 515 (lA x0 x1 x2 x3 z1 sd 3 z3 z4 z5 3 (sR r0) (sR r1) (sR r2) (sR a24) (sI 1) (sI 1) (sI 1) (sI 2) (sR r2)) [(.ref a24)])) (fun _ k => XS.ifNo X251.here hx rfl (dc at_453) rfl (XT.i0_eq_f hc252) (XS.goto X251.here hx rfl (pc0 := 456) (pc' := 475) rfl (dc at_456) (by decide) (by decide) (XS.iconst X251.here hx rfl (dc at_475) (XS.istore X251.here hx rfl (dc at_476) rfl (l' := (lA x0 x1 x2 x3 z1 sd 3 z3 z4 z5 3 (sR r0) (sR r1) (sR r2) (sR a24) (sI 1) (sI 1) (sI 1) (sI 2) su)) rfl (XS.iload X251.here hx rfl (dc at_478) rfl (XS.ifYes X251.here hx rfl (pc0 := 480) (pc' := 488) rfl (dc at_480) rfl (XT.i0_ne_t (by decide)) (by decide) (by decide) (XS.iload X251.here hx rfl (dc at_488) rfl (XS.iconst X251.here hx rfl (dc at_490) (XS.icmpYes X251.here hx rfl (pc0 := 491) (pc' := 499) rfl (dc at_491) rfl (XT.ii_ne_t (by decide)) (by decide) (by decide) (XS.iload X251.here hx rfl (dc at_499) rfl (XS.iconst X251.here hx rfl (dc at_501) (XS.icmpNo X251.here hx rfl (dc at_502) rfl (XT.ii_ne_f (by decide)) (XS.aload X251.here hx rfl (dc at_505) rfl rfl (XS.goto X251.here hx rfl (pc0 := 507) (pc' := 511) rfl (dc at_507) (by decide) (by decide) (XS.astore X251.here hx rfl (dc at_511) rfl rfl (l' := (lA x0 x1 x2 x3 z1 sd 3 z3 z4 z5 3 (sR r0) (sR r1) (sR r2) (sR a24) (sI 1) (sI 1) (sI 1) (sI 2) (sR r2))) rfl (XS.aload X251.here hx rfl (dc at_513) rfl rfl k)))))))))))))))) ?_
                          refine Goes.callV X251 hx hZ19 0 hown19 (ow 218 rfl) (ow 219 rfl) (notFace_of_selects (args := #[]) (mvT hZ19 (ow 221 rfl))) (ow 221 rfl) (ow 220 rfl) (ow 167 rfl) (ow 222 rfl) (by decide) e251 (fb_exa FF255) (rmFst l Z a0 hw T245.heap Z246 FF255) (by decide) (by decide) (by decide) (by decide) rfl (by rw [hml]; rfl) (argsL := []) (rest := []) rfl (lenOf pd_24 rfl) rfl (own_le20 rfl) (dc at_515) ?_
                          rintro v256 T256 L256 X256 ⟨rfl, N256q, e256⟩
                          have N256 := Fr.app N251 N256q
                          show Goes p e below _ T256 (mkF m 518 (lA x0 x1 x2 x3 z1 sd 3 z3 z4 z5 3 (sR r0) (sR r1) (sR r2) (sR a24) (sI 1) (sI 1) (sI 1) (sI 2) (sR r2)) [(.ref r2)])
                          refine Goes.on (T' := T256) (g' := (mkF m 528 (lA x0 x1 x2 x3 z1 sd 3 z3 z4 z5 3 (sR r0) (sR r1) (sR r2) (sR a24) (sI 1) (sI 1) (sI 1) (sI 2) (sR r2)) [(.int 1)])) (fun _ k => XS.aload X256.here hx rfl (dc at_518) rfl rfl (XT.acmpNo X256.here hx rfl (dc at_520) rfl rfl rfl (XT.aa_ne_f rfl) (XS.iconst X256.here hx rfl (dc at_523) (XS.goto X256.here hx rfl (pc0 := 524) (pc' := 528) rfl (dc at_524) (by decide) (by decide) k)))) ?_
                          exact Goes.retBW X256 hS19 (by rw [e256]; exact Z247) hZ19 hEL (by rw [e256]; exact RR245) hx hlk hret (Or.inr rfl) (dc at_528) (by decide) (by decide) ⟨rfl, N256⟩
                      · refine Goes.on (T' := T249) (g' := (mkF m 469 (lA x0 x1 x2 x3 z1 sd 3 z3 z4 z5 3 (sR r0) (sR r1) (sR r2) (sR a24) (sI 1) (sI 1) (sI 1) (sI 1) su) [(.long (Fprice x2)), (.int z4), (.long (Fprice x3)), (.int z5), (.int z1)])) (fun _ k => XS.ifNo X249.here hx rfl (dc at_413) rfl (XT.i0_eq_f hc250) (XS.iconst X249.here hx rfl (dc at_416) (XS.istore X249.here hx rfl (dc at_417) rfl (l' := (lA x0 x1 x2 x3 z1 sd 3 z3 z4 z5 3 (sR r0) (sR r1) (sR r2) (sR a24) (sI 1) (sI 1) (sI 1) (sI 1) su)) rfl (XS.iload X249.here hx rfl (dc at_419) rfl (XS.ifNo X249.here hx rfl (dc at_421) rfl (XT.i0_eq_f (by decide)) (XS.iload X249.here hx rfl (dc at_424) rfl (XS.ifYes X249.here hx rfl (pc0 := 426) (pc' := 435) rfl (dc at_426) rfl (XT.i0_ge_t (by decide)) (by decide) (by decide) (XS.iload X249.here hx rfl (dc at_435) rfl (XS.ifYes X249.here hx rfl (pc0 := 437) (pc' := 459) rfl (dc at_437) rfl (XT.i0_ne_t (by decide)) (by decide) (by decide) (XS.iload X249.here hx rfl (dc at_459) rfl (XS.iload X249.here hx rfl (dc at_461) rfl (XS.lload X249.here hx rfl (dc at_463) rfl (XS.iload X249.here hx rfl (dc at_465) rfl (XS.lload X249.here hx rfl (dc at_467) rfl k)))))))))))))) ?_
                        refine Goes.callS X249 hx hZ19 0 hown19 (ow 293 rfl) (ow 294 rfl) (ow 5 rfl) (ow 295 rfl) (by decide) e249 (rmbefore l Z a0 hw z1 z5 (Fprice x3) z4 (Fprice x2) T245.heap n0 Z246) (by decide) (by decide) (by decide) (by decide) rfl (by rw [hml]; rfl) (argsL := [(.int z1), (.int z5), (.long (Fprice x3)), (.int z4), (.long (Fprice x2))]) (rest := []) rfl (lenOf pd_26 rfl) rfl (own_le20 rfl) (dc at_469) ?_
                        rintro v257 T257 L257 X257 ⟨rfl, N257q, e257⟩
                        have N257 := Fr.app N249 N257q
                        show Goes p e below _ T257 (mkF m 472 (lA x0 x1 x2 x3 z1 sd 3 z3 z4 z5 3 (sR r0) (sR r1) (sR r2) (sR a24) (sI 1) (sI 1) (sI 1) (sI 1) su) [(.int (Fbefore z1 z5 (Fprice x3) z4 (Fprice x2)))])
                        by_cases hc258 : (Fbefore z1 z5 (Fprice x3) z4 (Fprice x2)) = (0 : Int32)
                        · have FF259 : FB Z T245.heap a24 (.ref r1) := by
                            have q : FB Z T245.heap a24 (ownV (mc245, ownPr qs245)) := bk_fb (bk_len BK245) BK245
                            rw [eq245, (own_p3 ne_r0_r1 ne_r0_r2 ne_r1_r2 z3 z4 z5 (own_key z1 (Fprice x1)).toInt (own_key z1 (Fprice x2)).toInt (own_key z1 (Fprice x3)).toInt).2.2.1 ((own_bf (own_price x2) (own_price x1)).2 hc250) ((own_bf (own_price x3) (own_price x2)).1 hc258)] at q
                            exact q
                          refine Goes.on (T' := T257) (g' := (mkF m 515 (lA x0 x1 x2 x3 z1 sd 3 z3 z4 z5 3 (sR r0) (sR r1) (sR r2) (sR a24) (sI 1) (sI 1) (sI 1) (sI 1) (sR r1)) [(.ref a24)])) (fun _ k => XS.ifYes X257.here hx rfl (pc0 := 472) (pc' := 478) rfl (dc at_472) rfl (XT.i0_eq_t hc258) (by decide) (by decide) (XS.iload X257.here hx rfl (dc at_478) rfl (XS.ifYes X257.here hx rfl (pc0 := 480) (pc' := 488) rfl (dc at_480) rfl (XT.i0_ne_t (by decide)) (by decide) (by decide) (XS.iload X257.here hx rfl (dc at_488) rfl (XS.iconst X257.here hx rfl (dc at_490) (XS.icmpNo X257.here hx rfl (dc at_491) rfl (XT.ii_ne_f (by decide)) (XS.aload X257.here hx rfl (dc at_494) rfl rfl (XS.goto X257.here hx rfl (pc0 := 496) (pc' := 511) rfl (dc at_496) (by decide) (by decide) (XS.astore X257.here hx rfl (dc at_511) rfl rfl (l' := (lA x0 x1 x2 x3 z1 sd 3 z3 z4 z5 3 (sR r0) (sR r1) (sR r2) (sR a24) (sI 1) (sI 1) (sI 1) (sI 1) (sR r1))) rfl (XS.aload X257.here hx rfl (dc at_513) rfl rfl k)))))))))) ?_
                          refine Goes.callV X257 hx hZ19 0 hown19 (ow 218 rfl) (ow 219 rfl) (notFace_of_selects (args := #[]) (mvT hZ19 (ow 221 rfl))) (ow 221 rfl) (ow 220 rfl) (ow 167 rfl) (ow 222 rfl) (by decide) e257 (fb_exa FF259) (rmFst l Z a0 hw T245.heap Z246 FF259) (by decide) (by decide) (by decide) (by decide) rfl (by rw [hml]; rfl) (argsL := []) (rest := []) rfl (lenOf pd_24 rfl) rfl (own_le20 rfl) (dc at_515) ?_
                          rintro v260 T260 L260 X260 ⟨rfl, N260q, e260⟩
                          have N260 := Fr.app N257 N260q
                          show Goes p e below _ T260 (mkF m 518 (lA x0 x1 x2 x3 z1 sd 3 z3 z4 z5 3 (sR r0) (sR r1) (sR r2) (sR a24) (sI 1) (sI 1) (sI 1) (sI 1) (sR r1)) [(.ref r1)])
                          refine Goes.on (T' := T260) (g' := (mkF m 528 (lA x0 x1 x2 x3 z1 sd 3 z3 z4 z5 3 (sR r0) (sR r1) (sR r2) (sR a24) (sI 1) (sI 1) (sI 1) (sI 1) (sR r1)) [(.int 1)])) (fun _ k => XS.aload X260.here hx rfl (dc at_518) rfl rfl (XT.acmpNo X260.here hx rfl (dc at_520) rfl rfl rfl (XT.aa_ne_f rfl) (XS.iconst X260.here hx rfl (dc at_523) (XS.goto X260.here hx rfl (pc0 := 524) (pc' := 528) rfl (dc at_524) (by decide) (by decide) k)))) ?_
                          exact Goes.retBW X260 hS19 (by rw [e260]; exact Z247) hZ19 hEL (by rw [e260]; exact RR245) hx hlk hret (Or.inr rfl) (dc at_528) (by decide) (by decide) ⟨rfl, N260⟩
                        · have FF261 : FB Z T245.heap a24 (.ref r2) := by
                            have q : FB Z T245.heap a24 (ownV (mc245, ownPr qs245)) := bk_fb (bk_len BK245) BK245
                            rw [eq245, (own_p3 ne_r0_r1 ne_r0_r2 ne_r1_r2 z3 z4 z5 (own_key z1 (Fprice x1)).toInt (own_key z1 (Fprice x2)).toInt (own_key z1 (Fprice x3)).toInt).2.2.2.1 ((own_bf (own_price x2) (own_price x1)).2 hc250) ((own_bf (own_price x3) (own_price x2)).2 hc258)] at q
                            exact q
                          refine Goes.on (T' := T257) (g' := (mkF m 515 (lA x0 x1 x2 x3 z1 sd 3 z3 z4 z5 3 (sR r0) (sR r1) (sR r2) (sR a24) (sI 1) (sI 1) (sI 1) (sI 2) (sR r2)) [(.ref a24)])) (fun _ k => XS.ifNo X257.here hx rfl (dc at_472) rfl (XT.i0_eq_f hc258) (XS.iconst X257.here hx rfl (dc at_475) (XS.istore X257.here hx rfl (dc at_476) rfl (l' := (lA x0 x1 x2 x3 z1 sd 3 z3 z4 z5 3 (sR r0) (sR r1) (sR r2) (sR a24) (sI 1) (sI 1) (sI 1) (sI 2) su)) rfl (XS.iload X257.here hx rfl (dc at_478) rfl (XS.ifYes X257.here hx rfl (pc0 := 480) (pc' := 488) rfl (dc at_480) rfl (XT.i0_ne_t (by decide)) (by decide) (by decide) (XS.iload X257.here hx rfl (dc at_488) rfl (XS.iconst X257.here hx rfl (dc at_490) (XS.icmpYes X257.here hx rfl (pc0 := 491) (pc' := 499) rfl (dc at_491) rfl (XT.ii_ne_t (by decide)) (by decide) (by decide) (XS.iload X257.here hx rfl (dc at_499) rfl (XS.iconst X257.here hx rfl (dc at_501) (XS.icmpNo X257.here hx rfl (dc at_502) rfl (XT.ii_ne_f (by decide)) (XS.aload X257.here hx rfl (dc at_505) rfl rfl (XS.goto X257.here hx rfl (pc0 := 507) (pc' := 511) rfl (dc at_507) (by decide) (by decide) (XS.astore X257.here hx rfl (dc at_511) rfl rfl (l' := (lA x0 x1 x2 x3 z1 sd 3 z3 z4 z5 3 (sR r0) (sR r1) (sR r2) (sR a24) (sI 1) (sI 1) (sI 1) (sI 2) (sR r2))) rfl (XS.aload X257.here hx rfl (dc at_513) rfl rfl k))))))))))))))) ?_
                          refine Goes.callV X257 hx hZ19 0 hown19 (ow 218 rfl) (ow 219 rfl) (notFace_of_selects (args := #[]) (mvT hZ19 (ow 221 rfl))) (ow 221 rfl) (ow 220 rfl) (ow 167 rfl) (ow 222 rfl) (by decide) e257 (fb_exa FF261) (rmFst l Z a0 hw T245.heap Z246 FF261) (by decide) (by decide) (by decide) (by decide) rfl (by rw [hml]; rfl) (argsL := []) (rest := []) rfl (lenOf pd_24 rfl) rfl (own_le20 rfl) (dc at_515) ?_
                          rintro v262 T262 L262 X262 ⟨rfl, N262q, e262⟩
                          have N262 := Fr.app N257 N262q
                          show Goes p e below _ T262 (mkF m 518 (lA x0 x1 x2 x3 z1 sd 3 z3 z4 z5 3 (sR r0) (sR r1) (sR r2) (sR a24) (sI 1) (sI 1) (sI 1) (sI 2) (sR r2)) [(.ref r2)])
                          refine Goes.on (T' := T262) (g' := (mkF m 528 (lA x0 x1 x2 x3 z1 sd 3 z3 z4 z5 3 (sR r0) (sR r1) (sR r2) (sR a24) (sI 1) (sI 1) (sI 1) (sI 2) (sR r2)) [(.int 1)])) (fun _ k => XS.aload X262.here hx rfl (dc at_518) rfl rfl (XT.acmpNo X262.here hx rfl (dc at_520) rfl rfl rfl (XT.aa_ne_f rfl) (XS.iconst X262.here hx rfl (dc at_523) (XS.goto X262.here hx rfl (pc0 := 524) (pc' := 528) rfl (dc at_524) (by decide) (by decide) k)))) ?_
                          exact Goes.retBW X262 hS19 (by rw [e262]; exact Z247) hZ19 hEL (by rw [e262]; exact RR245) hx hlk hret (Or.inr rfl) (dc at_528) (by decide) (by decide) ⟨rfl, N262⟩
                · intro J19
                  have KJ19 := Keep.refl T14.heap ([] : List Addr)
                  obtain ⟨T263, h263, X263, e263, E263, A263, D263, U263, st263⟩ := newO X14 hx hZ14 hown14 (ow 9 rfl) (ow 10 rfl) (ow 11 rfl) rfl (g := (mkF m 188 (lA x0 x1 x2 x3 z1 sd nn z3 z4 z5 rv (sR r0) (sR r1) su su su su su su su) [])) rfl (dc at_188) (by decide) (by decide)
                  obtain ⟨a263, g263⟩ : ∃ z, z = T14.heap.size := ⟨_, rfl⟩
                  rw [← g263] at A263 D263 U263 st263
                  have M263 : T14.heap.size ≤ a263 := Nat.le_trans KJ19.1 (Nat.le_of_eq g263.symm)
                  have C264 := C15.ext E263
                  have Z268 := Nat.le_trans Z16 E263.1
                  have Z269 := Nat.le_trans hk14 E263.1
                  have RR271 := RR14.trans (CHr.ext E263 RR14.1)
                  have K272 := KJ19.ext E263
                  have F273 : Fld Z h263 a263 "com/example/uncross/uncross/engine/BookSide$Resting" "quantity" "J" (.long 0) := D263 (Or.inl (ow 157 rfl)) (ty := .long) (by decide)
                  have F274 : Fld Z h263 a263 "com/example/uncross/uncross/engine/BookSide$Resting" "level" "Lcom/example/uncross/uncross/engine/BookSide$Level;" .null := D263 (Or.inl (ow 247 rfl)) (ty := (.object "com/example/uncross/uncross/engine/BookSide$Level")) (by decide)
                  have F275 : Fld Z h263 a263 "com/example/uncross/uncross/engine/BookSide$Resting" "ahead" "Lcom/example/uncross/uncross/engine/BookSide$Resting;" .null := D263 (Or.inl (ow 251 rfl)) (ty := (.object "com/example/uncross/uncross/engine/BookSide$Resting")) (by decide)
                  have F276 : Fld Z h263 a263 "com/example/uncross/uncross/engine/BookSide$Resting" "behind" "Lcom/example/uncross/uncross/engine/BookSide$Resting;" .null := D263 (Or.inl (ow 292 rfl)) (ty := (.object "com/example/uncross/uncross/engine/BookSide$Resting")) (by decide)
                  have F277 : Fld Z h263 a263 "com/example/uncross/uncross/engine/BookSide$Resting" "order" "Lcom/example/uncross/uncross/model/Order;" .null := D263 (Or.inr (ow 155 rfl)) (ty := (.object "com/example/uncross/uncross/model/Order")) (by decide)
                  have F278 : Fld Z h263 a263 "com/example/uncross/uncross/engine/BookSide$Resting" "time" "J" (.long 0) := D263 (Or.inr (ow 159 rfl)) (ty := .long) (by decide)
                  have F279 : Fld Z h263 a263 "com/example/uncross/uncross/engine/BookSide$Resting" "filed" "Z" (.int 0) := D263 (Or.inr (ow 161 rfl)) (ty := .boolean) (by decide)
                  have G263 : n0 ≤ a263 := Nat.le_trans Z16 (Nat.le_of_eq g263.symm)
                  obtain ⟨T280, h280, X280, e280, E280, A280, D280, U280, st280⟩ := newO X263 hx hZ14 hown14 (ow 12 rfl) (ow 13 rfl) (ow 14 rfl) e263 (g := (mkF m 192 (lA x0 x1 x2 x3 z1 sd nn z3 z4 z5 rv (sR r0) (sR r1) su su su su su su su) [(.ref a263), (.ref a263)])) rfl (dc at_192) (by decide) (by decide)
                  obtain ⟨a280, g280⟩ : ∃ z, z = h263.size := ⟨_, rfl⟩
                  rw [← g280] at A280 D280 U280 st280
                  have M280 : T14.heap.size ≤ a280 := Nat.le_trans K272.1 (Nat.le_of_eq g280.symm)
                  have ne293 := own_neG (Exa.lt (Exa.ext C264.2 EXE)) g280
                  have ne294 := own_neG A263.lt g280
                  have Z295 := Nat.le_trans Z268 E280.1
                  have Z296 := Nat.le_trans Z269 E280.1
                  have RR298 := RR271.trans (CHr.ext E280 RR271.1)
                  have K299 := K272.ext E280
                  have F300 : Fld Z h280 a280 "com/example/uncross/uncross/model/Order" "id" "Ljava/lang/String;" .null := D280 (Or.inr (ow 143 rfl)) (ty := (.object "java/lang/String")) (by decide)
                  have F301 : Fld Z h280 a280 "com/example/uncross/uncross/model/Order" "side" "Lcom/example/uncross/uncross/model/Side;" .null := D280 (Or.inr (ow 145 rfl)) (ty := (.object "com/example/uncross/uncross/model/Side")) (by decide)
                  have F302 : Fld Z h280 a280 "com/example/uncross/uncross/model/Order" "quantity" "J" (.long 0) := D280 (Or.inr (ow 147 rfl)) (ty := .long) (by decide)
                  have F303 : Fld Z h280 a280 "com/example/uncross/uncross/model/Order" "limit" "Ljava/util/OptionalLong;" .null := D280 (Or.inr (ow 149 rfl)) (ty := (.object "java/util/OptionalLong")) (by decide)
                  have G280 : n0 ≤ a280 := Nat.le_trans Z268 (Nat.le_of_eq g280.symm)
                  obtain ⟨a304, T304, h304, k304, b304, kb304, X304, e304, E304, hS304, hk304, hZ304, hown304, A304, C304, V304, K304, lt304, lu304, R304, Lt304, sf304, st304⟩ := ldcCH X280 hx hZ14 hown14 (ow 163 rfl) wS e280 hS14 Z296 hEL (List.mem_of_getElem? (i := 2) rfl) RR298.1 (vs := [Value.int 99]) (z := Int32.ofNat 1) ⟨by decide, by decide⟩ (by decide) (by decide) (g := (mkF m 196 (lA x0 x1 x2 x3 z1 sd nn z3 z4 z5 rv (sR r0) (sR r1) su su su su su su su) [(.ref a280), (.ref a280), (.ref a263), (.ref a263)])) rfl (dc at_196) (n := 4) (by decide) (by decide) (by decide) (by decide)
                  have C305 := (C264.ext E280).ext E304
                  have C306 := (A263.ext E280).ext E304
                  have C308 := (F273.ext E280).ext E304
                  have C309 := (F274.ext E280).ext E304
                  have C310 := (F275.ext E280).ext E304
                  have C311 := (F276.ext E280).ext E304
                  have C312 := (F277.ext E280).ext E304
                  have C313 := (F278.ext E280).ext E304
                  have C314 := (F279.ext E280).ext E304
                  have C315 := A280.ext E304
                  have C317 := F300.ext E304
                  have C318 := F301.ext E304
                  have C319 := F302.ext E304
                  have C320 := F303.ext E304
                  have Z321 := Nat.le_trans Z295 E304.1
                  have K324 := K299.ext E304
                  have RR304 := RR298.trans R304
                  have Q304 : Str Z h304 a304 b304 kb304 (Int32.ofNat 1) [Value.int 99] := ⟨A304, C304, V304, K304⟩
                  refine Goes.on (T' := T304) (g' := (mkF m 203 (lA x0 x1 x2 x3 z1 sd nn z3 z4 z5 rv (sR r0) (sR r1) su su su su su su su) [(.int z5), (.long 1), (.ref sd), (.ref a304), (.ref a280), (.ref a280), (.ref a263), (.ref a263)])) (fun _ k => st263 _ (XS.dup X263.here hx rfl (dc at_191) rfl rfl (st280 _ (XS.dup X280.here hx rfl (dc at_195) rfl rfl (st304 _ (XS.aload X304.here hx rfl (dc at_198) rfl rfl (XS.lconst X304.here hx rfl (dc at_200) (XS.iload X304.here hx rfl (dc at_201) rfl k)))))))) ?_
                  by_cases hc325 : z5 = (0 : Int32)
                  · refine Goes.on (T' := T304) (g' := (mkF m 214 (lA x0 x1 x2 x3 z1 sd nn z3 z4 z5 rv (sR r0) (sR r1) su su su su su su su) [(.long (Fprice x3)), (.long 1), (.ref sd), (.ref a304), (.ref a280), (.ref a280), (.ref a263), (.ref a263)])) (fun _ k => XS.ifYes X304.here hx rfl (pc0 := 203) (pc' := 212) rfl (dc at_203) rfl (XT.i0_eq_t hc325) (by decide) (by decide) (XS.lload X304.here hx rfl (dc at_212) rfl k)) ?_
                    refine Goes.callS X304 hx hZ304 8 hown304 (ow 23 rfl) (ow 24 rfl) (ow 25 rfl) (ow 26 rfl) (by decide) e304 (rmOf l Z a0 hw (Fprice x3) h304 n0 Z321   ) (by decide) (by decide) (by decide) (by decide) rfl (by rw [hml]; rfl) (argsL := [(.long (Fprice x3))]) (rest := [(.long 1), (.ref sd), (.ref a304), (.ref a280), (.ref a280), (.ref a263), (.ref a263)]) rfl (lenOf pd_27 rfl) rfl (own_le20 rfl) (dc at_214) ?_
                    rintro v326 T326 L326 X326 ⟨ya326, rfl, N326q, K326, P326_0, P326_1, P326_2, M326_0⟩
                    show Goes p e below _ T326 (mkF m 217 (lA x0 x1 x2 x3 z1 sd nn z3 z4 z5 rv (sR r0) (sR r1) su su su su su su su) [(.ref ya326), (.long 1), (.ref sd), (.ref a304), (.ref a280), (.ref a280), (.ref a263), (.ref a263)])
                    have ne327 := own_neL C306.lt M326_0
                    have ne328 := own_neL C315.lt M326_0
                    have C336 := C305.keep K326 all0
                    have C345 := C315.keep K326
                    have C346 := C317.keep K326 nin0
                    have C347 := C318.keep K326 nin0
                    have C348 := C319.keep K326 nin0
                    have C349 := C320.keep K326 nin0
                    have C350 := Q304.keep K326 nin0 nin0
                    have Z351 := Nat.le_trans Z321 K326.1
                    have Z352 := Nat.le_trans hk304 K326.1
                    have RR354 := RR304.trans (CHr.keep K326 all0 RR304.1)
                    have K355 := K324.trans K326 all0
                    refine Goes.callCW X326 hx hZ304 hS304 Z352 hEL RR354.1 3 rfl hown304 (ow 40 rfl) (ow 41 rfl) (ow 14 rfl) (ow 42 rfl) (by decide) rfl (rmOrL l Z a0 hw a280 a304 sd ya326 b304 kb304 (99 : Int32) (Fprice x3) T326.heap n0 Z351 C336 cs SC hcs sf SF hsf ic SI icf IC hic97 hic98 hic99 hEL C345 C346 C347 C348 C349 C350 P326_0 P326_1 P326_2 ne328.symm G280 (Or.inr (Or.inr rfl)) (own_price x3).1 (own_price x3).2) (by decide) (by decide) (by decide) (by decide) rfl (by rw [hml]; rfl) (a := a280) (argsL := [(.ref a304), (.ref sd), (.long 1), (.ref ya326)]) (rest := [(.ref a280), (.ref a263), (.ref a263)]) rfl (lenOf pd_28 rfl) rfl (own_le20 rfl) (dc at_217) ?_
                    intro v358 T358 L358 k358 X358 hS358 hk358 hZ358 hown358 R358 hQ358
                    obtain ⟨rfl, N358q, K358, P358_0, P358_1, P358_2, P358_3, P358_4⟩ := hQ358
                    show Goes p e below _ T358 (mkF m 220 (lA x0 x1 x2 x3 z1 sd nn z3 z4 z5 rv (sR r0) (sR r1) su su su su su su su) [(.ref a280), (.ref a263), (.ref a263)])
                    have RR358 := RR354.trans R358
                    have C360 := (C306.keep K326).keep K358
                    have C361 := (C308.keep K326 nin0).keep K358 (ninS ne294 nin0)
                    have C362 := (C309.keep K326 nin0).keep K358 (ninS ne294 nin0)
                    have C363 := (C310.keep K326 nin0).keep K358 (ninS ne294 nin0)
                    have C364 := (C311.keep K326 nin0).keep K358 (ninS ne294 nin0)
                    have C365 := (C312.keep K326 nin0).keep K358 (ninS ne294 nin0)
                    have C366 := (C313.keep K326 nin0).keep K358 (ninS ne294 nin0)
                    have C367 := (C314.keep K326 nin0).keep K358 (ninS ne294 nin0)
                    have Z373 := Nat.le_trans Z351 K358.1
                    have K376 := K355.trans K358 (allS (Or.inr M280) all0)
                    refine Goes.on (T' := T358) (g' := (mkF m 225 (lA x0 x1 x2 x3 z1 sd nn z3 z4 z5 rv (sR r0) (sR r1) su su su su su su su) [(.int 0), (.long 2), (.long 1), (.ref a280), (.ref a263), (.ref a263)])) (fun _ k => XS.lconst X358.here hx rfl (dc at_220) (X358.ldc2Long hx hown358 (mvT hZ358 (ow 164 rfl)) (g := (mkF m 221 (lA x0 x1 x2 x3 z1 sd nn z3 z4 z5 rv (sR r0) (sR r1) su su su su su su su) [(.long 1), (.ref a280), (.ref a263), (.ref a263)])) rfl (dc at_221) _ (XS.iconst X358.here hx rfl (dc at_224) k))) ?_
                    refine Goes.callC X358 hx hZ358 1 rfl hown358 (ow 150 rfl) (ow 151 rfl) (ow 11 rfl) (ow 152 rfl) (by decide) rfl (rmRe l Z a0 hw a263 a280 (1 : Int64) (2 : Int64) (0 : Int32) T358.heap n0 Z373 C360 G263 C361 C362 C363 C364 C365 C366 C367 (Or.inl rfl)) (by decide) (by decide) (by decide) (by decide) rfl (by rw [hml]; rfl) (a := a263) (argsL := [(.ref a280), (.long 1), (.long 2), (.int 0)]) (rest := [(.ref a263)]) rfl (lenOf pd_29 rfl) rfl (own_le20 rfl) (dc at_225) ?_
                    rintro v377 T377 L377 X377 ⟨rfl, N377q, K377, A377, B377_quantity, B377_level, B377_ahead, B377_behind, B377_order, B377_time, B377_filed⟩
                    have N377 := Fr.app (Fr.app (Fr.app N14 N326q) N358q) N377q
                    show Goes p e below _ T377 (mkF m 228 (lA x0 x1 x2 x3 z1 sd nn z3 z4 z5 rv (sR r0) (sR r1) su su su su su su su) [(.ref a263)])
                    have C380 := P358_0.keep K377
                    have C381 := (P326_0.keep K358).keep K377
                    have C382 := (P326_1.keep K358 (ninS ne328.symm nin0)).keep K377 (ninS ne327.symm nin0)
                    have C383 := (P326_2.keep K358 (ninS ne328.symm nin0)).keep K377 (ninS ne327.symm nin0)
                    have C387 := P358_4.keep K377 (ninS ne294.symm nin0)
                    have Z389 := Nat.le_trans hk358 K377.1
                    have RR391 := RR358.trans (CHr.keep K377 (allS (Safe.exa hZ358.alike C360 (by decide) (by decide)) all0) RR358.1)
                    have K392 := K376.trans K377 (allS (Or.inr M263) all0)
                    exact J19 a263 _ T377 _ _ (X377.mono (by decide) (by decide)) hS358 (by exact Z389) hZ358 hown358 (by exact RR391) N377 (by exact ⟨K392, M263, ⟨A377, B377_level, B377_ahead, B377_behind⟩, ⟨a280, ya326, B377_order, C380, C387, C381, (Or.inr ⟨hc325, C382, C383⟩)⟩⟩)
                  · refine Goes.on (T' := T304) (g' := (mkF m 206 (lA x0 x1 x2 x3 z1 sd nn z3 z4 z5 rv (sR r0) (sR r1) su su su su su su su) [(.long 1), (.ref sd), (.ref a304), (.ref a280), (.ref a280), (.ref a263), (.ref a263)])) (fun _ k => XS.ifNo X304.here hx rfl (dc at_203) rfl (XT.i0_eq_f hc325) k) ?_
                    refine Goes.callS X304 hx hZ304 8 hown304 (ow 226 rfl) (ow 227 rfl) (ow 25 rfl) (ow 228 rfl) (by decide) e304 (rmOe l Z a0 hw h304 n0 Z321 C305 em SE) (by decide) (by decide) (by decide) (by decide) rfl (by rw [hml]; rfl) (argsL := []) (rest := [(.long 1), (.ref sd), (.ref a304), (.ref a280), (.ref a280), (.ref a263), (.ref a263)]) rfl (lenOf pd_21 rfl) rfl (own_le20 rfl) (dc at_206) ?_
                    rintro v393 T393 L393 X393 ⟨rfl, N393q, e393⟩
                    show Goes p e below _ T393 (mkF m 209 (lA x0 x1 x2 x3 z1 sd nn z3 z4 z5 rv (sR r0) (sR r1) su su su su su su su) [(.ref em), (.long 1), (.ref sd), (.ref a304), (.ref a280), (.ref a280), (.ref a263), (.ref a263)])
                    refine Goes.on (T' := T393) (g' := (mkF m 217 (lA x0 x1 x2 x3 z1 sd nn z3 z4 z5 rv (sR r0) (sR r1) su su su su su su su) [(.ref em), (.long 1), (.ref sd), (.ref a304), (.ref a280), (.ref a280), (.ref a263), (.ref a263)])) (fun _ k => XS.goto X393.here hx rfl (pc0 := 209) (pc' := 217) rfl (dc at_209) (by decide) (by decide) k) ?_
                    refine Goes.callCW X393 hx hZ304 hS304 hk304 hEL RR304.1 3 rfl hown304 (ow 40 rfl) (ow 41 rfl) (ow 14 rfl) (ow 42 rfl) (by decide) e393 (rmOrM l Z a0 hw a280 a304 sd em b304 kb304 (99 : Int32) h304 n0 Z321 C305 cs SC hcs sf SF hsf ic SI icf IC hic97 hic98 hic99 hEL C315 C317 C318 C319 C320 Q304 (Exa.ext C305.2 EXE) (Fld.ext C305.2 FE) ne293 G280 (Or.inr (Or.inr rfl))) (by decide) (by decide) (by decide) (by decide) rfl (by rw [hml]; rfl) (a := a280) (argsL := [(.ref a304), (.ref sd), (.long 1), (.ref em)]) (rest := [(.ref a280), (.ref a263), (.ref a263)]) rfl (lenOf pd_28 rfl) rfl (own_le20 rfl) (dc at_217) ?_
                    intro v396 T396 L396 k396 X396 hS396 hk396 hZ396 hown396 R396 hQ396
                    obtain ⟨rfl, N396q, K396, P396_0, P396_1, P396_2, P396_3, P396_4⟩ := hQ396
                    show Goes p e below _ T396 (mkF m 220 (lA x0 x1 x2 x3 z1 sd nn z3 z4 z5 rv (sR r0) (sR r1) su su su su su su su) [(.ref a280), (.ref a263), (.ref a263)])
                    have RR396 := RR304.trans R396
                    have C398 := C306.keep K396
                    have C399 := C308.keep K396 (ninS ne294 nin0)
                    have C400 := C309.keep K396 (ninS ne294 nin0)
                    have C401 := C310.keep K396 (ninS ne294 nin0)
                    have C402 := C311.keep K396 (ninS ne294 nin0)
                    have C403 := C312.keep K396 (ninS ne294 nin0)
                    have C404 := C313.keep K396 (ninS ne294 nin0)
                    have C405 := C314.keep K396 (ninS ne294 nin0)
                    have Z408 := Nat.le_trans Z321 K396.1
                    have K411 := K324.trans K396 (allS (Or.inr M280) all0)
                    refine Goes.on (T' := T396) (g' := (mkF m 225 (lA x0 x1 x2 x3 z1 sd nn z3 z4 z5 rv (sR r0) (sR r1) su su su su su su su) [(.int 0), (.long 2), (.long 1), (.ref a280), (.ref a263), (.ref a263)])) (fun _ k => XS.lconst X396.here hx rfl (dc at_220) (X396.ldc2Long hx hown396 (mvT hZ396 (ow 164 rfl)) (g := (mkF m 221 (lA x0 x1 x2 x3 z1 sd nn z3 z4 z5 rv (sR r0) (sR r1) su su su su su su su) [(.long 1), (.ref a280), (.ref a263), (.ref a263)])) rfl (dc at_221) _ (XS.iconst X396.here hx rfl (dc at_224) k))) ?_
                    refine Goes.callC X396 hx hZ396 1 rfl hown396 (ow 150 rfl) (ow 151 rfl) (ow 11 rfl) (ow 152 rfl) (by decide) rfl (rmRe l Z a0 hw a263 a280 (1 : Int64) (2 : Int64) (0 : Int32) T396.heap n0 Z408 C398 G263 C399 C400 C401 C402 C403 C404 C405 (Or.inl rfl)) (by decide) (by decide) (by decide) (by decide) rfl (by rw [hml]; rfl) (a := a263) (argsL := [(.ref a280), (.long 1), (.long 2), (.int 0)]) (rest := [(.ref a263)]) rfl (lenOf pd_29 rfl) rfl (own_le20 rfl) (dc at_225) ?_
                    rintro v412 T412 L412 X412 ⟨rfl, N412q, K412, A412, B412_quantity, B412_level, B412_ahead, B412_behind, B412_order, B412_time, B412_filed⟩
                    have N412 := Fr.app (Fr.app (Fr.app N14 N393q) N396q) N412q
                    show Goes p e below _ T412 (mkF m 228 (lA x0 x1 x2 x3 z1 sd nn z3 z4 z5 rv (sR r0) (sR r1) su su su su su su su) [(.ref a263)])
                    have C413 := (C305.keep K396 (allS G280 all0)).keep K412 (allS G263 all0)
                    have C415 := P396_0.keep K412
                    have C419 := P396_4.keep K412 (ninS ne294.symm nin0)
                    have Z421 := Nat.le_trans hk396 K412.1
                    have RR423 := RR396.trans (CHr.keep K412 (allS (Safe.exa hZ396.alike C398 (by decide) (by decide)) all0) RR396.1)
                    have K424 := K411.trans K412 (allS (Or.inr M263) all0)
                    exact J19 a263 _ T412 _ _ (X412.mono (by decide) (by decide)) hS396 (by exact Z421) hZ396 hown396 (by exact RR423) N412 (by exact ⟨K424, M263, ⟨A412, B412_level, B412_ahead, B412_behind⟩, ⟨a280, em, B412_order, C415, C419, (Exa.ext C413.2 EXE), (Or.inl ⟨hc325, (Fld.ext C413.2 FE)⟩)⟩⟩)
              · intro J14
                have KJ14 := Keep.refl T9.heap ([] : List Addr)
                obtain ⟨T425, h425, X425, e425, E425, A425, D425, U425, st425⟩ := newO X9 hx hZ9 hown9 (ow 9 rfl) (ow 10 rfl) (ow 11 rfl) rfl (g := (mkF m 148 (lA x0 x1 x2 x3 z1 sd nn z3 z4 z5 rv (sR r0) su su su su su su su su) [])) rfl (dc at_148) (by decide) (by decide)
                obtain ⟨a425, g425⟩ : ∃ z, z = T9.heap.size := ⟨_, rfl⟩
                rw [← g425] at A425 D425 U425 st425
                have M425 : T9.heap.size ≤ a425 := Nat.le_trans KJ14.1 (Nat.le_of_eq g425.symm)
                have C426 := C10.ext E425
                have Z430 := Nat.le_trans Z11 E425.1
                have Z431 := Nat.le_trans hk9 E425.1
                have RR433 := RR9.trans (CHr.ext E425 RR9.1)
                have K434 := KJ14.ext E425
                have F435 : Fld Z h425 a425 "com/example/uncross/uncross/engine/BookSide$Resting" "quantity" "J" (.long 0) := D425 (Or.inl (ow 157 rfl)) (ty := .long) (by decide)
                have F436 : Fld Z h425 a425 "com/example/uncross/uncross/engine/BookSide$Resting" "level" "Lcom/example/uncross/uncross/engine/BookSide$Level;" .null := D425 (Or.inl (ow 247 rfl)) (ty := (.object "com/example/uncross/uncross/engine/BookSide$Level")) (by decide)
                have F437 : Fld Z h425 a425 "com/example/uncross/uncross/engine/BookSide$Resting" "ahead" "Lcom/example/uncross/uncross/engine/BookSide$Resting;" .null := D425 (Or.inl (ow 251 rfl)) (ty := (.object "com/example/uncross/uncross/engine/BookSide$Resting")) (by decide)
                have F438 : Fld Z h425 a425 "com/example/uncross/uncross/engine/BookSide$Resting" "behind" "Lcom/example/uncross/uncross/engine/BookSide$Resting;" .null := D425 (Or.inl (ow 292 rfl)) (ty := (.object "com/example/uncross/uncross/engine/BookSide$Resting")) (by decide)
                have F439 : Fld Z h425 a425 "com/example/uncross/uncross/engine/BookSide$Resting" "order" "Lcom/example/uncross/uncross/model/Order;" .null := D425 (Or.inr (ow 155 rfl)) (ty := (.object "com/example/uncross/uncross/model/Order")) (by decide)
                have F440 : Fld Z h425 a425 "com/example/uncross/uncross/engine/BookSide$Resting" "time" "J" (.long 0) := D425 (Or.inr (ow 159 rfl)) (ty := .long) (by decide)
                have F441 : Fld Z h425 a425 "com/example/uncross/uncross/engine/BookSide$Resting" "filed" "Z" (.int 0) := D425 (Or.inr (ow 161 rfl)) (ty := .boolean) (by decide)
                have G425 : n0 ≤ a425 := Nat.le_trans Z11 (Nat.le_of_eq g425.symm)
                obtain ⟨T442, h442, X442, e442, E442, A442, D442, U442, st442⟩ := newO X425 hx hZ9 hown9 (ow 12 rfl) (ow 13 rfl) (ow 14 rfl) e425 (g := (mkF m 152 (lA x0 x1 x2 x3 z1 sd nn z3 z4 z5 rv (sR r0) su su su su su su su su) [(.ref a425), (.ref a425)])) rfl (dc at_152) (by decide) (by decide)
                obtain ⟨a442, g442⟩ : ∃ z, z = h425.size := ⟨_, rfl⟩
                rw [← g442] at A442 D442 U442 st442
                have M442 : T9.heap.size ≤ a442 := Nat.le_trans K434.1 (Nat.le_of_eq g442.symm)
                have ne455 := own_neG (Exa.lt (Exa.ext C426.2 EXE)) g442
                have ne456 := own_neG A425.lt g442
                have Z457 := Nat.le_trans Z430 E442.1
                have Z458 := Nat.le_trans Z431 E442.1
                have RR460 := RR433.trans (CHr.ext E442 RR433.1)
                have K461 := K434.ext E442
                have F462 : Fld Z h442 a442 "com/example/uncross/uncross/model/Order" "id" "Ljava/lang/String;" .null := D442 (Or.inr (ow 143 rfl)) (ty := (.object "java/lang/String")) (by decide)
                have F463 : Fld Z h442 a442 "com/example/uncross/uncross/model/Order" "side" "Lcom/example/uncross/uncross/model/Side;" .null := D442 (Or.inr (ow 145 rfl)) (ty := (.object "com/example/uncross/uncross/model/Side")) (by decide)
                have F464 : Fld Z h442 a442 "com/example/uncross/uncross/model/Order" "quantity" "J" (.long 0) := D442 (Or.inr (ow 147 rfl)) (ty := .long) (by decide)
                have F465 : Fld Z h442 a442 "com/example/uncross/uncross/model/Order" "limit" "Ljava/util/OptionalLong;" .null := D442 (Or.inr (ow 149 rfl)) (ty := (.object "java/util/OptionalLong")) (by decide)
                have G442 : n0 ≤ a442 := Nat.le_trans Z430 (Nat.le_of_eq g442.symm)
                obtain ⟨a466, T466, h466, k466, b466, kb466, X466, e466, E466, hS466, hk466, hZ466, hown466, A466, C466, V466, K466, lt466, lu466, R466, Lt466, sf466, st466⟩ := ldcCH X442 hx hZ9 hown9 (ow 162 rfl) wS e442 hS9 Z458 hEL (List.mem_of_getElem? (i := 1) rfl) RR460.1 (vs := [Value.int 98]) (z := Int32.ofNat 1) ⟨by decide, by decide⟩ (by decide) (by decide) (g := (mkF m 156 (lA x0 x1 x2 x3 z1 sd nn z3 z4 z5 rv (sR r0) su su su su su su su su) [(.ref a442), (.ref a442), (.ref a425), (.ref a425)])) rfl (dc at_156) (n := 4) (by decide) (by decide) (by decide) (by decide)
                have C467 := (C426.ext E442).ext E466
                have C468 := (A425.ext E442).ext E466
                have C470 := (F435.ext E442).ext E466
                have C471 := (F436.ext E442).ext E466
                have C472 := (F437.ext E442).ext E466
                have C473 := (F438.ext E442).ext E466
                have C474 := (F439.ext E442).ext E466
                have C475 := (F440.ext E442).ext E466
                have C476 := (F441.ext E442).ext E466
                have C477 := A442.ext E466
                have C479 := F462.ext E466
                have C480 := F463.ext E466
                have C481 := F464.ext E466
                have C482 := F465.ext E466
                have Z483 := Nat.le_trans Z457 E466.1
                have K486 := K461.ext E466
                have RR466 := RR460.trans R466
                have Q466 : Str Z h466 a466 b466 kb466 (Int32.ofNat 1) [Value.int 98] := ⟨A466, C466, V466, K466⟩
                refine Goes.on (T' := T466) (g' := (mkF m 163 (lA x0 x1 x2 x3 z1 sd nn z3 z4 z5 rv (sR r0) su su su su su su su su) [(.int z4), (.long 1), (.ref sd), (.ref a466), (.ref a442), (.ref a442), (.ref a425), (.ref a425)])) (fun _ k => st425 _ (XS.dup X425.here hx rfl (dc at_151) rfl rfl (st442 _ (XS.dup X442.here hx rfl (dc at_155) rfl rfl (st466 _ (XS.aload X466.here hx rfl (dc at_158) rfl rfl (XS.lconst X466.here hx rfl (dc at_160) (XS.iload X466.here hx rfl (dc at_161) rfl k)))))))) ?_
                by_cases hc487 : z4 = (0 : Int32)
                · refine Goes.on (T' := T466) (g' := (mkF m 174 (lA x0 x1 x2 x3 z1 sd nn z3 z4 z5 rv (sR r0) su su su su su su su su) [(.long (Fprice x2)), (.long 1), (.ref sd), (.ref a466), (.ref a442), (.ref a442), (.ref a425), (.ref a425)])) (fun _ k => XS.ifYes X466.here hx rfl (pc0 := 163) (pc' := 172) rfl (dc at_163) rfl (XT.i0_eq_t hc487) (by decide) (by decide) (XS.lload X466.here hx rfl (dc at_172) rfl k)) ?_
                  refine Goes.callS X466 hx hZ466 8 hown466 (ow 23 rfl) (ow 24 rfl) (ow 25 rfl) (ow 26 rfl) (by decide) e466 (rmOf l Z a0 hw (Fprice x2) h466 n0 Z483   ) (by decide) (by decide) (by decide) (by decide) rfl (by rw [hml]; rfl) (argsL := [(.long (Fprice x2))]) (rest := [(.long 1), (.ref sd), (.ref a466), (.ref a442), (.ref a442), (.ref a425), (.ref a425)]) rfl (lenOf pd_27 rfl) rfl (own_le20 rfl) (dc at_174) ?_
                  rintro v488 T488 L488 X488 ⟨ya488, rfl, N488q, K488, P488_0, P488_1, P488_2, M488_0⟩
                  show Goes p e below _ T488 (mkF m 177 (lA x0 x1 x2 x3 z1 sd nn z3 z4 z5 rv (sR r0) su su su su su su su su) [(.ref ya488), (.long 1), (.ref sd), (.ref a466), (.ref a442), (.ref a442), (.ref a425), (.ref a425)])
                  have ne489 := own_neL C468.lt M488_0
                  have ne490 := own_neL C477.lt M488_0
                  have C498 := C467.keep K488 all0
                  have C507 := C477.keep K488
                  have C508 := C479.keep K488 nin0
                  have C509 := C480.keep K488 nin0
                  have C510 := C481.keep K488 nin0
                  have C511 := C482.keep K488 nin0
                  have C512 := Q466.keep K488 nin0 nin0
                  have Z513 := Nat.le_trans Z483 K488.1
                  have Z514 := Nat.le_trans hk466 K488.1
                  have RR516 := RR466.trans (CHr.keep K488 all0 RR466.1)
                  have K517 := K486.trans K488 all0
                  refine Goes.callCW X488 hx hZ466 hS466 Z514 hEL RR516.1 3 rfl hown466 (ow 40 rfl) (ow 41 rfl) (ow 14 rfl) (ow 42 rfl) (by decide) rfl (rmOrL l Z a0 hw a442 a466 sd ya488 b466 kb466 (98 : Int32) (Fprice x2) T488.heap n0 Z513 C498 cs SC hcs sf SF hsf ic SI icf IC hic97 hic98 hic99 hEL C507 C508 C509 C510 C511 C512 P488_0 P488_1 P488_2 ne490.symm G442 (Or.inr (Or.inl rfl)) (own_price x2).1 (own_price x2).2) (by decide) (by decide) (by decide) (by decide) rfl (by rw [hml]; rfl) (a := a442) (argsL := [(.ref a466), (.ref sd), (.long 1), (.ref ya488)]) (rest := [(.ref a442), (.ref a425), (.ref a425)]) rfl (lenOf pd_28 rfl) rfl (own_le20 rfl) (dc at_177) ?_
                  intro v520 T520 L520 k520 X520 hS520 hk520 hZ520 hown520 R520 hQ520
                  obtain ⟨rfl, N520q, K520, P520_0, P520_1, P520_2, P520_3, P520_4⟩ := hQ520
                  show Goes p e below _ T520 (mkF m 180 (lA x0 x1 x2 x3 z1 sd nn z3 z4 z5 rv (sR r0) su su su su su su su su) [(.ref a442), (.ref a425), (.ref a425)])
                  have RR520 := RR516.trans R520
                  have C522 := (C468.keep K488).keep K520
                  have C523 := (C470.keep K488 nin0).keep K520 (ninS ne456 nin0)
                  have C524 := (C471.keep K488 nin0).keep K520 (ninS ne456 nin0)
                  have C525 := (C472.keep K488 nin0).keep K520 (ninS ne456 nin0)
                  have C526 := (C473.keep K488 nin0).keep K520 (ninS ne456 nin0)
                  have C527 := (C474.keep K488 nin0).keep K520 (ninS ne456 nin0)
                  have C528 := (C475.keep K488 nin0).keep K520 (ninS ne456 nin0)
                  have C529 := (C476.keep K488 nin0).keep K520 (ninS ne456 nin0)
                  have Z535 := Nat.le_trans Z513 K520.1
                  have K538 := K517.trans K520 (allS (Or.inr M442) all0)
                  refine Goes.on (T' := T520) (g' := (mkF m 183 (lA x0 x1 x2 x3 z1 sd nn z3 z4 z5 rv (sR r0) su su su su su su su su) [(.int 0), (.long 1), (.long 1), (.ref a442), (.ref a425), (.ref a425)])) (fun _ k => XS.lconst X520.here hx rfl (dc at_180) (XS.lconst X520.here hx rfl (dc at_181) (XS.iconst X520.here hx rfl (dc at_182) k))) ?_
                  refine Goes.callC X520 hx hZ520 1 rfl hown520 (ow 150 rfl) (ow 151 rfl) (ow 11 rfl) (ow 152 rfl) (by decide) rfl (rmRe l Z a0 hw a425 a442 (1 : Int64) (1 : Int64) (0 : Int32) T520.heap n0 Z535 C522 G425 C523 C524 C525 C526 C527 C528 C529 (Or.inl rfl)) (by decide) (by decide) (by decide) (by decide) rfl (by rw [hml]; rfl) (a := a425) (argsL := [(.ref a442), (.long 1), (.long 1), (.int 0)]) (rest := [(.ref a425)]) rfl (lenOf pd_29 rfl) rfl (own_le20 rfl) (dc at_183) ?_
                  rintro v539 T539 L539 X539 ⟨rfl, N539q, K539, A539, B539_quantity, B539_level, B539_ahead, B539_behind, B539_order, B539_time, B539_filed⟩
                  have N539 := Fr.app (Fr.app (Fr.app N9 N488q) N520q) N539q
                  show Goes p e below _ T539 (mkF m 186 (lA x0 x1 x2 x3 z1 sd nn z3 z4 z5 rv (sR r0) su su su su su su su su) [(.ref a425)])
                  have C542 := P520_0.keep K539
                  have C543 := (P488_0.keep K520).keep K539
                  have C544 := (P488_1.keep K520 (ninS ne490.symm nin0)).keep K539 (ninS ne489.symm nin0)
                  have C545 := (P488_2.keep K520 (ninS ne490.symm nin0)).keep K539 (ninS ne489.symm nin0)
                  have C549 := P520_4.keep K539 (ninS ne456.symm nin0)
                  have Z551 := Nat.le_trans hk520 K539.1
                  have RR553 := RR520.trans (CHr.keep K539 (allS (Safe.exa hZ520.alike C522 (by decide) (by decide)) all0) RR520.1)
                  have K554 := K538.trans K539 (allS (Or.inr M425) all0)
                  exact J14 a425 _ T539 _ _ (X539.mono (by decide) (by decide)) hS520 (by exact Z551) hZ520 hown520 (by exact RR553) N539 (by exact ⟨K554, M425, ⟨A539, B539_level, B539_ahead, B539_behind⟩, ⟨a442, ya488, B539_order, C542, C549, C543, (Or.inr ⟨hc487, C544, C545⟩)⟩⟩)
                · refine Goes.on (T' := T466) (g' := (mkF m 166 (lA x0 x1 x2 x3 z1 sd nn z3 z4 z5 rv (sR r0) su su su su su su su su) [(.long 1), (.ref sd), (.ref a466), (.ref a442), (.ref a442), (.ref a425), (.ref a425)])) (fun _ k => XS.ifNo X466.here hx rfl (dc at_163) rfl (XT.i0_eq_f hc487) k) ?_
                  refine Goes.callS X466 hx hZ466 8 hown466 (ow 226 rfl) (ow 227 rfl) (ow 25 rfl) (ow 228 rfl) (by decide) e466 (rmOe l Z a0 hw h466 n0 Z483 C467 em SE) (by decide) (by decide) (by decide) (by decide) rfl (by rw [hml]; rfl) (argsL := []) (rest := [(.long 1), (.ref sd), (.ref a466), (.ref a442), (.ref a442), (.ref a425), (.ref a425)]) rfl (lenOf pd_21 rfl) rfl (own_le20 rfl) (dc at_166) ?_
                  rintro v555 T555 L555 X555 ⟨rfl, N555q, e555⟩
                  show Goes p e below _ T555 (mkF m 169 (lA x0 x1 x2 x3 z1 sd nn z3 z4 z5 rv (sR r0) su su su su su su su su) [(.ref em), (.long 1), (.ref sd), (.ref a466), (.ref a442), (.ref a442), (.ref a425), (.ref a425)])
                  refine Goes.on (T' := T555) (g' := (mkF m 177 (lA x0 x1 x2 x3 z1 sd nn z3 z4 z5 rv (sR r0) su su su su su su su su) [(.ref em), (.long 1), (.ref sd), (.ref a466), (.ref a442), (.ref a442), (.ref a425), (.ref a425)])) (fun _ k => XS.goto X555.here hx rfl (pc0 := 169) (pc' := 177) rfl (dc at_169) (by decide) (by decide) k) ?_
                  refine Goes.callCW X555 hx hZ466 hS466 hk466 hEL RR466.1 3 rfl hown466 (ow 40 rfl) (ow 41 rfl) (ow 14 rfl) (ow 42 rfl) (by decide) e555 (rmOrM l Z a0 hw a442 a466 sd em b466 kb466 (98 : Int32) h466 n0 Z483 C467 cs SC hcs sf SF hsf ic SI icf IC hic97 hic98 hic99 hEL C477 C479 C480 C481 C482 Q466 (Exa.ext C467.2 EXE) (Fld.ext C467.2 FE) ne455 G442 (Or.inr (Or.inl rfl))) (by decide) (by decide) (by decide) (by decide) rfl (by rw [hml]; rfl) (a := a442) (argsL := [(.ref a466), (.ref sd), (.long 1), (.ref em)]) (rest := [(.ref a442), (.ref a425), (.ref a425)]) rfl (lenOf pd_28 rfl) rfl (own_le20 rfl) (dc at_177) ?_
                  intro v558 T558 L558 k558 X558 hS558 hk558 hZ558 hown558 R558 hQ558
                  obtain ⟨rfl, N558q, K558, P558_0, P558_1, P558_2, P558_3, P558_4⟩ := hQ558
                  show Goes p e below _ T558 (mkF m 180 (lA x0 x1 x2 x3 z1 sd nn z3 z4 z5 rv (sR r0) su su su su su su su su) [(.ref a442), (.ref a425), (.ref a425)])
                  have RR558 := RR466.trans R558
                  have C560 := C468.keep K558
                  have C561 := C470.keep K558 (ninS ne456 nin0)
                  have C562 := C471.keep K558 (ninS ne456 nin0)
                  have C563 := C472.keep K558 (ninS ne456 nin0)
                  have C564 := C473.keep K558 (ninS ne456 nin0)
                  have C565 := C474.keep K558 (ninS ne456 nin0)
                  have C566 := C475.keep K558 (ninS ne456 nin0)
                  have C567 := C476.keep K558 (ninS ne456 nin0)
                  have Z570 := Nat.le_trans Z483 K558.1
                  have K573 := K486.trans K558 (allS (Or.inr M442) all0)
                  refine Goes.on (T' := T558) (g' := (mkF m 183 (lA x0 x1 x2 x3 z1 sd nn z3 z4 z5 rv (sR r0) su su su su su su su su) [(.int 0), (.long 1), (.long 1), (.ref a442), (.ref a425), (.ref a425)])) (fun _ k => XS.lconst X558.here hx rfl (dc at_180) (XS.lconst X558.here hx rfl (dc at_181) (XS.iconst X558.here hx rfl (dc at_182) k))) ?_
                  refine Goes.callC X558 hx hZ558 1 rfl hown558 (ow 150 rfl) (ow 151 rfl) (ow 11 rfl) (ow 152 rfl) (by decide) rfl (rmRe l Z a0 hw a425 a442 (1 : Int64) (1 : Int64) (0 : Int32) T558.heap n0 Z570 C560 G425 C561 C562 C563 C564 C565 C566 C567 (Or.inl rfl)) (by decide) (by decide) (by decide) (by decide) rfl (by rw [hml]; rfl) (a := a425) (argsL := [(.ref a442), (.long 1), (.long 1), (.int 0)]) (rest := [(.ref a425)]) rfl (lenOf pd_29 rfl) rfl (own_le20 rfl) (dc at_183) ?_
                  rintro v574 T574 L574 X574 ⟨rfl, N574q, K574, A574, B574_quantity, B574_level, B574_ahead, B574_behind, B574_order, B574_time, B574_filed⟩
                  have N574 := Fr.app (Fr.app (Fr.app N9 N555q) N558q) N574q
                  show Goes p e below _ T574 (mkF m 186 (lA x0 x1 x2 x3 z1 sd nn z3 z4 z5 rv (sR r0) su su su su su su su su) [(.ref a425)])
                  have C575 := (C467.keep K558 (allS G442 all0)).keep K574 (allS G425 all0)
                  have C577 := P558_0.keep K574
                  have C581 := P558_4.keep K574 (ninS ne456.symm nin0)
                  have Z583 := Nat.le_trans hk558 K574.1
                  have RR585 := RR558.trans (CHr.keep K574 (allS (Safe.exa hZ558.alike C560 (by decide) (by decide)) all0) RR558.1)
                  have K586 := K573.trans K574 (allS (Or.inr M425) all0)
                  exact J14 a425 _ T574 _ _ (X574.mono (by decide) (by decide)) hS558 (by exact Z583) hZ558 hown558 (by exact RR585) N574 (by exact ⟨K586, M425, ⟨A574, B574_level, B574_ahead, B574_behind⟩, ⟨a442, em, B574_order, C577, C581, (Exa.ext C575.2 EXE), (Or.inl ⟨hc487, (Fld.ext C575.2 FE)⟩)⟩⟩)
            · intro J9
              have KJ9 := Keep.refl h0 ([] : List Addr)
              obtain ⟨T587, h587, X587, e587, E587, A587, D587, U587, st587⟩ := newO X8 hx hZ hown (ow 9 rfl) (ow 10 rfl) (ow 11 rfl) e8 (g := (mkF m 108 (lA x0 x1 x2 x3 z1 sd nn z3 z4 z5 rv su su su su su su su su su) [])) rfl (dc at_108) (by decide) (by decide)
              obtain ⟨a587, g587⟩ : ∃ z, z = h0.size := ⟨_, rfl⟩
              rw [← g587] at A587 D587 U587 st587
              have M587 : h0.size ≤ a587 := Nat.le_trans KJ9.1 (Nat.le_of_eq g587.symm)
              have C588 := O0.ext E587
              have Z592 := Nat.le_trans Z0 E587.1
              have Z593 := Nat.le_trans hk0 E587.1
              have RR595 := RR0.trans (CHr.ext E587 RR0.1)
              have K596 := KJ9.ext E587
              have F597 : Fld Z h587 a587 "com/example/uncross/uncross/engine/BookSide$Resting" "quantity" "J" (.long 0) := D587 (Or.inl (ow 157 rfl)) (ty := .long) (by decide)
              have F598 : Fld Z h587 a587 "com/example/uncross/uncross/engine/BookSide$Resting" "level" "Lcom/example/uncross/uncross/engine/BookSide$Level;" .null := D587 (Or.inl (ow 247 rfl)) (ty := (.object "com/example/uncross/uncross/engine/BookSide$Level")) (by decide)
              have F599 : Fld Z h587 a587 "com/example/uncross/uncross/engine/BookSide$Resting" "ahead" "Lcom/example/uncross/uncross/engine/BookSide$Resting;" .null := D587 (Or.inl (ow 251 rfl)) (ty := (.object "com/example/uncross/uncross/engine/BookSide$Resting")) (by decide)
              have F600 : Fld Z h587 a587 "com/example/uncross/uncross/engine/BookSide$Resting" "behind" "Lcom/example/uncross/uncross/engine/BookSide$Resting;" .null := D587 (Or.inl (ow 292 rfl)) (ty := (.object "com/example/uncross/uncross/engine/BookSide$Resting")) (by decide)
              have F601 : Fld Z h587 a587 "com/example/uncross/uncross/engine/BookSide$Resting" "order" "Lcom/example/uncross/uncross/model/Order;" .null := D587 (Or.inr (ow 155 rfl)) (ty := (.object "com/example/uncross/uncross/model/Order")) (by decide)
              have F602 : Fld Z h587 a587 "com/example/uncross/uncross/engine/BookSide$Resting" "time" "J" (.long 0) := D587 (Or.inr (ow 159 rfl)) (ty := .long) (by decide)
              have F603 : Fld Z h587 a587 "com/example/uncross/uncross/engine/BookSide$Resting" "filed" "Z" (.int 0) := D587 (Or.inr (ow 161 rfl)) (ty := .boolean) (by decide)
              have G587 : n0 ≤ a587 := Nat.le_trans Z0 (Nat.le_of_eq g587.symm)
              obtain ⟨T604, h604, X604, e604, E604, A604, D604, U604, st604⟩ := newO X587 hx hZ hown (ow 12 rfl) (ow 13 rfl) (ow 14 rfl) e587 (g := (mkF m 112 (lA x0 x1 x2 x3 z1 sd nn z3 z4 z5 rv su su su su su su su su su) [(.ref a587), (.ref a587)])) rfl (dc at_112) (by decide) (by decide)
              obtain ⟨a604, g604⟩ : ∃ z, z = h587.size := ⟨_, rfl⟩
              rw [← g604] at A604 D604 U604 st604
              have M604 : h0.size ≤ a604 := Nat.le_trans K596.1 (Nat.le_of_eq g604.symm)
              have ne617 := own_neG (Exa.lt (Exa.ext C588.2 EXE)) g604
              have ne618 := own_neG A587.lt g604
              have Z619 := Nat.le_trans Z592 E604.1
              have Z620 := Nat.le_trans Z593 E604.1
              have RR622 := RR595.trans (CHr.ext E604 RR595.1)
              have K623 := K596.ext E604
              have F624 : Fld Z h604 a604 "com/example/uncross/uncross/model/Order" "id" "Ljava/lang/String;" .null := D604 (Or.inr (ow 143 rfl)) (ty := (.object "java/lang/String")) (by decide)
              have F625 : Fld Z h604 a604 "com/example/uncross/uncross/model/Order" "side" "Lcom/example/uncross/uncross/model/Side;" .null := D604 (Or.inr (ow 145 rfl)) (ty := (.object "com/example/uncross/uncross/model/Side")) (by decide)
              have F626 : Fld Z h604 a604 "com/example/uncross/uncross/model/Order" "quantity" "J" (.long 0) := D604 (Or.inr (ow 147 rfl)) (ty := .long) (by decide)
              have F627 : Fld Z h604 a604 "com/example/uncross/uncross/model/Order" "limit" "Ljava/util/OptionalLong;" .null := D604 (Or.inr (ow 149 rfl)) (ty := (.object "java/util/OptionalLong")) (by decide)
              have G604 : n0 ≤ a604 := Nat.le_trans Z592 (Nat.le_of_eq g604.symm)
              obtain ⟨a628, T628, h628, k628, b628, kb628, X628, e628, E628, hS628, hk628, hZ628, hown628, A628, C628, V628, K628, lt628, lu628, R628, Lt628, sf628, st628⟩ := ldcCH X604 hx hZ hown (ow 15 rfl) wS e604 hS0 Z620 hEL (List.mem_of_getElem? (i := 0) rfl) RR622.1 (vs := [Value.int 97]) (z := Int32.ofNat 1) ⟨by decide, by decide⟩ (by decide) (by decide) (g := (mkF m 116 (lA x0 x1 x2 x3 z1 sd nn z3 z4 z5 rv su su su su su su su su su) [(.ref a604), (.ref a604), (.ref a587), (.ref a587)])) rfl (dc at_116) (n := 4) (by decide) (by decide) (by decide) (by decide)
              have C629 := (C588.ext E604).ext E628
              have C630 := (A587.ext E604).ext E628
              have C632 := (F597.ext E604).ext E628
              have C633 := (F598.ext E604).ext E628
              have C634 := (F599.ext E604).ext E628
              have C635 := (F600.ext E604).ext E628
              have C636 := (F601.ext E604).ext E628
              have C637 := (F602.ext E604).ext E628
              have C638 := (F603.ext E604).ext E628
              have C639 := A604.ext E628
              have C641 := F624.ext E628
              have C642 := F625.ext E628
              have C643 := F626.ext E628
              have C644 := F627.ext E628
              have Z645 := Nat.le_trans Z619 E628.1
              have K648 := K623.ext E628
              have RR628 := RR622.trans R628
              have Q628 : Str Z h628 a628 b628 kb628 (Int32.ofNat 1) [Value.int 97] := ⟨A628, C628, V628, K628⟩
              refine Goes.on (T' := T628) (g' := (mkF m 123 (lA x0 x1 x2 x3 z1 sd nn z3 z4 z5 rv su su su su su su su su su) [(.int z3), (.long 1), (.ref sd), (.ref a628), (.ref a604), (.ref a604), (.ref a587), (.ref a587)])) (fun _ k => st587 _ (XS.dup X587.here hx rfl (dc at_111) rfl rfl (st604 _ (XS.dup X604.here hx rfl (dc at_115) rfl rfl (st628 _ (XS.aload X628.here hx rfl (dc at_118) rfl rfl (XS.lconst X628.here hx rfl (dc at_120) (XS.iload X628.here hx rfl (dc at_121) rfl k)))))))) ?_
              by_cases hc649 : z3 = (0 : Int32)
              · refine Goes.on (T' := T628) (g' := (mkF m 134 (lA x0 x1 x2 x3 z1 sd nn z3 z4 z5 rv su su su su su su su su su) [(.long (Fprice x1)), (.long 1), (.ref sd), (.ref a628), (.ref a604), (.ref a604), (.ref a587), (.ref a587)])) (fun _ k => XS.ifYes X628.here hx rfl (pc0 := 123) (pc' := 132) rfl (dc at_123) rfl (XT.i0_eq_t hc649) (by decide) (by decide) (XS.lload X628.here hx rfl (dc at_132) rfl k)) ?_
                refine Goes.callS X628 hx hZ628 8 hown628 (ow 23 rfl) (ow 24 rfl) (ow 25 rfl) (ow 26 rfl) (by decide) e628 (rmOf l Z a0 hw (Fprice x1) h628 n0 Z645   ) (by decide) (by decide) (by decide) (by decide) rfl (by rw [hml]; rfl) (argsL := [(.long (Fprice x1))]) (rest := [(.long 1), (.ref sd), (.ref a628), (.ref a604), (.ref a604), (.ref a587), (.ref a587)]) rfl (lenOf pd_27 rfl) rfl (own_le20 rfl) (dc at_134) ?_
                rintro v650 T650 L650 X650 ⟨ya650, rfl, N650q, K650, P650_0, P650_1, P650_2, M650_0⟩
                show Goes p e below _ T650 (mkF m 137 (lA x0 x1 x2 x3 z1 sd nn z3 z4 z5 rv su su su su su su su su su) [(.ref ya650), (.long 1), (.ref sd), (.ref a628), (.ref a604), (.ref a604), (.ref a587), (.ref a587)])
                have ne651 := own_neL C630.lt M650_0
                have ne652 := own_neL C639.lt M650_0
                have C660 := C629.keep K650 all0
                have C669 := C639.keep K650
                have C670 := C641.keep K650 nin0
                have C671 := C642.keep K650 nin0
                have C672 := C643.keep K650 nin0
                have C673 := C644.keep K650 nin0
                have C674 := Q628.keep K650 nin0 nin0
                have Z675 := Nat.le_trans Z645 K650.1
                have Z676 := Nat.le_trans hk628 K650.1
                have RR678 := RR628.trans (CHr.keep K650 all0 RR628.1)
                have K679 := K648.trans K650 all0
                refine Goes.callCW X650 hx hZ628 hS628 Z676 hEL RR678.1 3 rfl hown628 (ow 40 rfl) (ow 41 rfl) (ow 14 rfl) (ow 42 rfl) (by decide) rfl (rmOrL l Z a0 hw a604 a628 sd ya650 b628 kb628 (97 : Int32) (Fprice x1) T650.heap n0 Z675 C660 cs SC hcs sf SF hsf ic SI icf IC hic97 hic98 hic99 hEL C669 C670 C671 C672 C673 C674 P650_0 P650_1 P650_2 ne652.symm G604 (Or.inl rfl) (own_price x1).1 (own_price x1).2) (by decide) (by decide) (by decide) (by decide) rfl (by rw [hml]; rfl) (a := a604) (argsL := [(.ref a628), (.ref sd), (.long 1), (.ref ya650)]) (rest := [(.ref a604), (.ref a587), (.ref a587)]) rfl (lenOf pd_28 rfl) rfl (own_le20 rfl) (dc at_137) ?_
                intro v682 T682 L682 k682 X682 hS682 hk682 hZ682 hown682 R682 hQ682
                obtain ⟨rfl, N682q, K682, P682_0, P682_1, P682_2, P682_3, P682_4⟩ := hQ682
                show Goes p e below _ T682 (mkF m 140 (lA x0 x1 x2 x3 z1 sd nn z3 z4 z5 rv su su su su su su su su su) [(.ref a604), (.ref a587), (.ref a587)])
                have RR682 := RR678.trans R682
                have C684 := (C630.keep K650).keep K682
                have C685 := (C632.keep K650 nin0).keep K682 (ninS ne618 nin0)
                have C686 := (C633.keep K650 nin0).keep K682 (ninS ne618 nin0)
                have C687 := (C634.keep K650 nin0).keep K682 (ninS ne618 nin0)
                have C688 := (C635.keep K650 nin0).keep K682 (ninS ne618 nin0)
                have C689 := (C636.keep K650 nin0).keep K682 (ninS ne618 nin0)
                have C690 := (C637.keep K650 nin0).keep K682 (ninS ne618 nin0)
                have C691 := (C638.keep K650 nin0).keep K682 (ninS ne618 nin0)
                have Z697 := Nat.le_trans Z675 K682.1
                have K700 := K679.trans K682 (allS (Or.inr M604) all0)
                refine Goes.on (T' := T682) (g' := (mkF m 143 (lA x0 x1 x2 x3 z1 sd nn z3 z4 z5 rv su su su su su su su su su) [(.int 0), (.long 0), (.long 1), (.ref a604), (.ref a587), (.ref a587)])) (fun _ k => XS.lconst X682.here hx rfl (dc at_140) (XS.lconst X682.here hx rfl (dc at_141) (XS.iconst X682.here hx rfl (dc at_142) k))) ?_
                refine Goes.callC X682 hx hZ682 1 rfl hown682 (ow 150 rfl) (ow 151 rfl) (ow 11 rfl) (ow 152 rfl) (by decide) rfl (rmRe l Z a0 hw a587 a604 (1 : Int64) (0 : Int64) (0 : Int32) T682.heap n0 Z697 C684 G587 C685 C686 C687 C688 C689 C690 C691 (Or.inl rfl)) (by decide) (by decide) (by decide) (by decide) rfl (by rw [hml]; rfl) (a := a587) (argsL := [(.ref a604), (.long 1), (.long 0), (.int 0)]) (rest := [(.ref a587)]) rfl (lenOf pd_29 rfl) rfl (own_le20 rfl) (dc at_143) ?_
                rintro v701 T701 L701 X701 ⟨rfl, N701q, K701, A701, B701_quantity, B701_level, B701_ahead, B701_behind, B701_order, B701_time, B701_filed⟩
                have N701 := Fr.app (Fr.app (Fr.app N8 N650q) N682q) N701q
                show Goes p e below _ T701 (mkF m 146 (lA x0 x1 x2 x3 z1 sd nn z3 z4 z5 rv su su su su su su su su su) [(.ref a587)])
                have C704 := P682_0.keep K701
                have C705 := (P650_0.keep K682).keep K701
                have C706 := (P650_1.keep K682 (ninS ne652.symm nin0)).keep K701 (ninS ne651.symm nin0)
                have C707 := (P650_2.keep K682 (ninS ne652.symm nin0)).keep K701 (ninS ne651.symm nin0)
                have C711 := P682_4.keep K701 (ninS ne618.symm nin0)
                have Z713 := Nat.le_trans hk682 K701.1
                have RR715 := RR682.trans (CHr.keep K701 (allS (Safe.exa hZ682.alike C684 (by decide) (by decide)) all0) RR682.1)
                have K716 := K700.trans K701 (allS (Or.inr M587) all0)
                exact J9 a587 _ T701 _ _ (X701.mono (by decide) (by decide)) hS682 (by exact Z713) hZ682 hown682 (by exact RR715) N701 (by exact ⟨K716, M587, ⟨A701, B701_level, B701_ahead, B701_behind⟩, ⟨a604, ya650, B701_order, C704, C711, C705, (Or.inr ⟨hc649, C706, C707⟩)⟩⟩)
              · refine Goes.on (T' := T628) (g' := (mkF m 126 (lA x0 x1 x2 x3 z1 sd nn z3 z4 z5 rv su su su su su su su su su) [(.long 1), (.ref sd), (.ref a628), (.ref a604), (.ref a604), (.ref a587), (.ref a587)])) (fun _ k => XS.ifNo X628.here hx rfl (dc at_123) rfl (XT.i0_eq_f hc649) k) ?_
                refine Goes.callS X628 hx hZ628 8 hown628 (ow 226 rfl) (ow 227 rfl) (ow 25 rfl) (ow 228 rfl) (by decide) e628 (rmOe l Z a0 hw h628 n0 Z645 C629 em SE) (by decide) (by decide) (by decide) (by decide) rfl (by rw [hml]; rfl) (argsL := []) (rest := [(.long 1), (.ref sd), (.ref a628), (.ref a604), (.ref a604), (.ref a587), (.ref a587)]) rfl (lenOf pd_21 rfl) rfl (own_le20 rfl) (dc at_126) ?_
                rintro v717 T717 L717 X717 ⟨rfl, N717q, e717⟩
                show Goes p e below _ T717 (mkF m 129 (lA x0 x1 x2 x3 z1 sd nn z3 z4 z5 rv su su su su su su su su su) [(.ref em), (.long 1), (.ref sd), (.ref a628), (.ref a604), (.ref a604), (.ref a587), (.ref a587)])
                refine Goes.on (T' := T717) (g' := (mkF m 137 (lA x0 x1 x2 x3 z1 sd nn z3 z4 z5 rv su su su su su su su su su) [(.ref em), (.long 1), (.ref sd), (.ref a628), (.ref a604), (.ref a604), (.ref a587), (.ref a587)])) (fun _ k => XS.goto X717.here hx rfl (pc0 := 129) (pc' := 137) rfl (dc at_129) (by decide) (by decide) k) ?_
                refine Goes.callCW X717 hx hZ628 hS628 hk628 hEL RR628.1 3 rfl hown628 (ow 40 rfl) (ow 41 rfl) (ow 14 rfl) (ow 42 rfl) (by decide) e717 (rmOrM l Z a0 hw a604 a628 sd em b628 kb628 (97 : Int32) h628 n0 Z645 C629 cs SC hcs sf SF hsf ic SI icf IC hic97 hic98 hic99 hEL C639 C641 C642 C643 C644 Q628 (Exa.ext C629.2 EXE) (Fld.ext C629.2 FE) ne617 G604 (Or.inl rfl)) (by decide) (by decide) (by decide) (by decide) rfl (by rw [hml]; rfl) (a := a604) (argsL := [(.ref a628), (.ref sd), (.long 1), (.ref em)]) (rest := [(.ref a604), (.ref a587), (.ref a587)]) rfl (lenOf pd_28 rfl) rfl (own_le20 rfl) (dc at_137) ?_
                intro v720 T720 L720 k720 X720 hS720 hk720 hZ720 hown720 R720 hQ720
                obtain ⟨rfl, N720q, K720, P720_0, P720_1, P720_2, P720_3, P720_4⟩ := hQ720
                show Goes p e below _ T720 (mkF m 140 (lA x0 x1 x2 x3 z1 sd nn z3 z4 z5 rv su su su su su su su su su) [(.ref a604), (.ref a587), (.ref a587)])
                have RR720 := RR628.trans R720
                have C722 := C630.keep K720
                have C723 := C632.keep K720 (ninS ne618 nin0)
                have C724 := C633.keep K720 (ninS ne618 nin0)
                have C725 := C634.keep K720 (ninS ne618 nin0)
                have C726 := C635.keep K720 (ninS ne618 nin0)
                have C727 := C636.keep K720 (ninS ne618 nin0)
                have C728 := C637.keep K720 (ninS ne618 nin0)
                have C729 := C638.keep K720 (ninS ne618 nin0)
                have Z732 := Nat.le_trans Z645 K720.1
                have K735 := K648.trans K720 (allS (Or.inr M604) all0)
                refine Goes.on (T' := T720) (g' := (mkF m 143 (lA x0 x1 x2 x3 z1 sd nn z3 z4 z5 rv su su su su su su su su su) [(.int 0), (.long 0), (.long 1), (.ref a604), (.ref a587), (.ref a587)])) (fun _ k => XS.lconst X720.here hx rfl (dc at_140) (XS.lconst X720.here hx rfl (dc at_141) (XS.iconst X720.here hx rfl (dc at_142) k))) ?_
                refine Goes.callC X720 hx hZ720 1 rfl hown720 (ow 150 rfl) (ow 151 rfl) (ow 11 rfl) (ow 152 rfl) (by decide) rfl (rmRe l Z a0 hw a587 a604 (1 : Int64) (0 : Int64) (0 : Int32) T720.heap n0 Z732 C722 G587 C723 C724 C725 C726 C727 C728 C729 (Or.inl rfl)) (by decide) (by decide) (by decide) (by decide) rfl (by rw [hml]; rfl) (a := a587) (argsL := [(.ref a604), (.long 1), (.long 0), (.int 0)]) (rest := [(.ref a587)]) rfl (lenOf pd_29 rfl) rfl (own_le20 rfl) (dc at_143) ?_
                rintro v736 T736 L736 X736 ⟨rfl, N736q, K736, A736, B736_quantity, B736_level, B736_ahead, B736_behind, B736_order, B736_time, B736_filed⟩
                have N736 := Fr.app (Fr.app (Fr.app N8 N717q) N720q) N736q
                show Goes p e below _ T736 (mkF m 146 (lA x0 x1 x2 x3 z1 sd nn z3 z4 z5 rv su su su su su su su su su) [(.ref a587)])
                have C737 := (C629.keep K720 (allS G604 all0)).keep K736 (allS G587 all0)
                have C739 := P720_0.keep K736
                have C743 := P720_4.keep K736 (ninS ne618.symm nin0)
                have Z745 := Nat.le_trans hk720 K736.1
                have RR747 := RR720.trans (CHr.keep K736 (allS (Safe.exa hZ720.alike C722 (by decide) (by decide)) all0) RR720.1)
                have K748 := K735.trans K736 (allS (Or.inr M587) all0)
                exact J9 a587 _ T736 _ _ (X736.mono (by decide) (by decide)) hS720 (by exact Z745) hZ720 hown720 (by exact RR747) N736 (by exact ⟨K748, M587, ⟨A736, B736_level, B736_ahead, B736_behind⟩, ⟨a604, em, B736_order, C739, C743, (Exa.ext C737.2 EXE), (Or.inl ⟨hc649, (Fld.ext C737.2 FE)⟩)⟩⟩)
          · intro J5
            refine Goes.on (T' := T2) (g' := (mkF m 71 #[sI x0, sJ x1, s2, sJ x2, s2, sJ x3, s2, sI z1, sR sd, sI ((x0.toUInt32 >>> ((1 : Int32) &&& 31).toUInt32).toInt32 &&& (3 : Int32)), sI z3, sI z4, su, su, su, su, su, su, su, su, su, su, su, su, su, su, su, su, su] [(.int ((x0.toUInt32 >>> ((5 : Int32) &&& 31).toUInt32).toInt32 &&& (1 : Int32)))])) (fun _ k => XS.iloadN X2.here hx rfl (dc at_66) rfl (XS.iconst X2.here hx rfl (dc at_67) (XS.iushr X2.here hx rfl (dc at_68) rfl (XS.iconst X2.here hx rfl (dc at_69) (XS.iand X2.here hx rfl (dc at_70) rfl k))))) ?_
            by_cases hc749 : ((x0.toUInt32 >>> ((5 : Int32) &&& 31).toUInt32).toInt32 &&& (1 : Int32)) = (0 : Int32)
            · refine Goes.on (T' := T2) (g' := (mkF m 79 #[sI x0, sJ x1, s2, sJ x2, s2, sJ x3, s2, sI z1, sR sd, sI ((x0.toUInt32 >>> ((1 : Int32) &&& 31).toUInt32).toInt32 &&& (3 : Int32)), sI z3, sI z4, su, su, su, su, su, su, su, su, su, su, su, su, su, su, su, su, su] [(.int 0)])) (fun _ k => XS.ifYes X2.here hx rfl (pc0 := 71) (pc' := 78) rfl (dc at_71) rfl (XT.i0_eq_t hc749) (by decide) (by decide) (XS.iconst X2.here hx rfl (dc at_78) k)) ?_
              exact J5 (0 : Int32) (Or.inl rfl)
            · refine Goes.on (T' := T2) (g' := (mkF m 79 #[sI x0, sJ x1, s2, sJ x2, s2, sJ x3, s2, sI z1, sR sd, sI ((x0.toUInt32 >>> ((1 : Int32) &&& 31).toUInt32).toInt32 &&& (3 : Int32)), sI z3, sI z4, su, su, su, su, su, su, su, su, su, su, su, su, su, su, su, su, su] [(.int 1)])) (fun _ k => XS.ifNo X2.here hx rfl (dc at_71) rfl (XT.i0_eq_f hc749) (XS.iconst X2.here hx rfl (dc at_74) (XS.goto X2.here hx rfl (pc0 := 75) (pc' := 79) rfl (dc at_75) (by decide) (by decide) k))) ?_
              exact J5 (1 : Int32) (Or.inr rfl)
        · intro J4
          refine Goes.on (T' := T2) (g' := (mkF m 56 #[sI x0, sJ x1, s2, sJ x2, s2, sJ x3, s2, sI z1, sR sd, sI ((x0.toUInt32 >>> ((1 : Int32) &&& 31).toUInt32).toInt32 &&& (3 : Int32)), sI z3, su, su, su, su, su, su, su, su, su, su, su, su, su, su, su, su, su, su] [(.int ((x0.toUInt32 >>> ((4 : Int32) &&& 31).toUInt32).toInt32 &&& (1 : Int32)))])) (fun _ k => XS.iloadN X2.here hx rfl (dc at_51) rfl (XS.iconst X2.here hx rfl (dc at_52) (XS.iushr X2.here hx rfl (dc at_53) rfl (XS.iconst X2.here hx rfl (dc at_54) (XS.iand X2.here hx rfl (dc at_55) rfl k))))) ?_
          by_cases hc750 : ((x0.toUInt32 >>> ((4 : Int32) &&& 31).toUInt32).toInt32 &&& (1 : Int32)) = (0 : Int32)
          · refine Goes.on (T' := T2) (g' := (mkF m 64 #[sI x0, sJ x1, s2, sJ x2, s2, sJ x3, s2, sI z1, sR sd, sI ((x0.toUInt32 >>> ((1 : Int32) &&& 31).toUInt32).toInt32 &&& (3 : Int32)), sI z3, su, su, su, su, su, su, su, su, su, su, su, su, su, su, su, su, su, su] [(.int 0)])) (fun _ k => XS.ifYes X2.here hx rfl (pc0 := 56) (pc' := 63) rfl (dc at_56) rfl (XT.i0_eq_t hc750) (by decide) (by decide) (XS.iconst X2.here hx rfl (dc at_63) k)) ?_
            exact J4 (0 : Int32) (Or.inl rfl)
          · refine Goes.on (T' := T2) (g' := (mkF m 64 #[sI x0, sJ x1, s2, sJ x2, s2, sJ x3, s2, sI z1, sR sd, sI ((x0.toUInt32 >>> ((1 : Int32) &&& 31).toUInt32).toInt32 &&& (3 : Int32)), sI z3, su, su, su, su, su, su, su, su, su, su, su, su, su, su, su, su, su, su] [(.int 1)])) (fun _ k => XS.ifNo X2.here hx rfl (dc at_56) rfl (XT.i0_eq_f hc750) (XS.iconst X2.here hx rfl (dc at_59) (XS.goto X2.here hx rfl (pc0 := 60) (pc' := 64) rfl (dc at_60) (by decide) (by decide) k))) ?_
            exact J4 (1 : Int32) (Or.inr rfl)
      · intro J3
        refine Goes.on (T' := T2) (g' := (mkF m 41 #[sI x0, sJ x1, s2, sJ x2, s2, sJ x3, s2, sI z1, sR sd, sI ((x0.toUInt32 >>> ((1 : Int32) &&& 31).toUInt32).toInt32 &&& (3 : Int32)), su, su, su, su, su, su, su, su, su, su, su, su, su, su, su, su, su, su, su] [(.int ((x0.toUInt32 >>> ((3 : Int32) &&& 31).toUInt32).toInt32 &&& (1 : Int32)))])) (fun _ k => XS.iloadN X2.here hx rfl (dc at_36) rfl (XS.iconst X2.here hx rfl (dc at_37) (XS.iushr X2.here hx rfl (dc at_38) rfl (XS.iconst X2.here hx rfl (dc at_39) (XS.iand X2.here hx rfl (dc at_40) rfl k))))) ?_
        by_cases hc751 : ((x0.toUInt32 >>> ((3 : Int32) &&& 31).toUInt32).toInt32 &&& (1 : Int32)) = (0 : Int32)
        · refine Goes.on (T' := T2) (g' := (mkF m 49 #[sI x0, sJ x1, s2, sJ x2, s2, sJ x3, s2, sI z1, sR sd, sI ((x0.toUInt32 >>> ((1 : Int32) &&& 31).toUInt32).toInt32 &&& (3 : Int32)), su, su, su, su, su, su, su, su, su, su, su, su, su, su, su, su, su, su, su] [(.int 0)])) (fun _ k => XS.ifYes X2.here hx rfl (pc0 := 41) (pc' := 48) rfl (dc at_41) rfl (XT.i0_eq_t hc751) (by decide) (by decide) (XS.iconst X2.here hx rfl (dc at_48) k)) ?_
          exact J3 (0 : Int32) (Or.inl rfl)
        · refine Goes.on (T' := T2) (g' := (mkF m 49 #[sI x0, sJ x1, s2, sJ x2, s2, sJ x3, s2, sI z1, sR sd, sI ((x0.toUInt32 >>> ((1 : Int32) &&& 31).toUInt32).toInt32 &&& (3 : Int32)), su, su, su, su, su, su, su, su, su, su, su, su, su, su, su, su, su, su, su] [(.int 1)])) (fun _ k => XS.ifNo X2.here hx rfl (dc at_41) rfl (XT.i0_eq_f hc751) (XS.iconst X2.here hx rfl (dc at_44) (XS.goto X2.here hx rfl (pc0 := 45) (pc' := 49) rfl (dc at_45) (by decide) (by decide) k))) ?_
          exact J3 (1 : Int32) (Or.inr rfl)
    · intro J2
      refine Goes.on (T' := T0) (g' := (mkF m 15 #[sI x0, sJ x1, s2, sJ x2, s2, sJ x3, s2, sI z1, su, su, su, su, su, su, su, su, su, su, su, su, su, su, su, su, su, su, su, su, su] [(.int z1)])) (fun _ k => XS.iload X0.here hx rfl (dc at_13) rfl k) ?_
      by_cases hc752 : z1 = (0 : Int32)
      · obtain ⟨T753, X753, e753, st753⟩ := getS (host := "") X0 hx hZ hown (ow 0 rfl) Via.refl e0 (Sta.ext O0.2 ST_k0) (g := (mkF m 24 #[sI x0, sJ x1, s2, sJ x2, s2, sJ x3, s2, sI z1, su, su, su, su, su, su, su, su, su, su, su, su, su, su, su, su, su, su, su, su, su] [])) rfl (dc at_24)
        refine Goes.on (T' := T753) (g' := (mkF m 27 #[sI x0, sJ x1, s2, sJ x2, s2, sJ x3, s2, sI z1, su, su, su, su, su, su, su, su, su, su, su, su, su, su, su, su, su, su, su, su, su] [(.ref k0)])) (fun _ k => XS.ifYes X0.here hx rfl (pc0 := 15) (pc' := 24) rfl (dc at_15) rfl (XT.i0_eq_t hc752) (by decide) (by decide) (st753 _ k)) ?_
        exact J2 k0 T753 X753 e753 (Or.inr ⟨hc752, rfl⟩)
      · obtain ⟨T754, X754, e754, st754⟩ := getS (host := "") X0 hx hZ hown (ow 225 rfl) Via.refl e0 (Sta.ext O0.2 ST_k1) (g := (mkF m 18 #[sI x0, sJ x1, s2, sJ x2, s2, sJ x3, s2, sI z1, su, su, su, su, su, su, su, su, su, su, su, su, su, su, su, su, su, su, su, su, su] [])) rfl (dc at_18)
        refine Goes.on (T' := T754) (g' := (mkF m 27 #[sI x0, sJ x1, s2, sJ x2, s2, sJ x3, s2, sI z1, su, su, su, su, su, su, su, su, su, su, su, su, su, su, su, su, su, su, su, su, su] [(.ref k1)])) (fun _ k => XS.ifNo X0.here hx rfl (dc at_15) rfl (XT.i0_eq_f hc752) (st754 _ (XS.goto X754.here hx rfl (pc0 := 21) (pc' := 27) rfl (dc at_21) (by decide) (by decide) k))) ?_
        exact J2 k1 T754 X754 e754 (Or.inl ⟨hz1.resolve_left hc752, rfl⟩)
  · intro J1
    refine Goes.on (T' := T0) (g' := (mkF m 3 #[sI x0, sJ x1, s2, sJ x2, s2, sJ x3, s2, su, su, su, su, su, su, su, su, su, su, su, su, su, su, su, su, su, su, su, su, su, su] [(.int (x0 &&& (1 : Int32)))])) (fun _ k => XS.iloadN X0.here hx rfl (dc at_0) rfl (XS.iconst X0.here hx rfl (dc at_1) (XS.iand X0.here hx rfl (dc at_2) rfl k))) ?_
    by_cases hc755 : (x0 &&& (1 : Int32)) = (0 : Int32)
    · refine Goes.on (T' := T0) (g' := (mkF m 11 #[sI x0, sJ x1, s2, sJ x2, s2, sJ x3, s2, su, su, su, su, su, su, su, su, su, su, su, su, su, su, su, su, su, su, su, su, su, su] [(.int 0)])) (fun _ k => XS.ifYes X0.here hx rfl (pc0 := 3) (pc' := 10) rfl (dc at_3) rfl (XT.i0_eq_t hc755) (by decide) (by decide) (XS.iconst X0.here hx rfl (dc at_10) k)) ?_
      exact J1 (0 : Int32) (Or.inl rfl)
    · refine Goes.on (T' := T0) (g' := (mkF m 11 #[sI x0, sJ x1, s2, sJ x2, s2, sJ x3, s2, su, su, su, su, su, su, su, su, su, su, su, su, su, su, su, su, su, su, su, su, su, su] [(.int 1)])) (fun _ k => XS.ifNo X0.here hx rfl (dc at_3) rfl (XT.i0_eq_f hc755) (XS.iconst X0.here hx rfl (dc at_6) (XS.goto X0.here hx rfl (pc0 := 7) (pc' := 11) rfl (dc at_7) (by decide) (by decide) k))) ?_
      exact J1 (1 : Int32) (Or.inr rfl)
theorem own_small {t : Jvm.Term} {args : Array Value} {first s : State} {o : Option Outcome} {idx : List Nat} {v : Value} {a : Addr} {cell : Cell} (h : (Jvm.Term.length t).eval args first o idx s = some v) (ht : t.eval args first o idx s = some (.ref a)) (hc : s.arrayAt? a = some cell) : cell.slots.size < 2 ^ 31 := by
  by_cases p : cell.slots.size < 2 ^ 31
  · exact p
  · simp [Term.eval, ht, hc, p] at h
theorem own_eqI {t : Jvm.Term} {i : Int32} {args : Array Value} {Z : State} {idx : List Nat} (hq : (Jvm.Cond.eq t (.int i)).value args Z none Z idx = some true) : t.eval args Z none idx Z = some (.int i) := by
  obtain ⟨x, y, e1, e2, -, k⟩ := cmp_v (Or.inl hq)
  cases Option.some.inj ((Term.int_eval i).symm.trans e2)
  obtain ⟨z, rfl⟩ := k
  rw [e1]
  simpa [Jvm.Cond.value, e1, e2] using hq
theorem own_ids {s : State} {args : Array Value} (hfit : Fit s)
    (h1 : (Jvm.Cond.arrayOf (Jvm.Term.static "com/example/uncross/uncross/model/Order" "ID_CHARACTERS" "[Z") .boolean).value args s none s [] = some true) (h2 : (Jvm.Cond.eq (.length (Jvm.Term.static "com/example/uncross/uncross/model/Order" "ID_CHARACTERS" "[Z")) (.int (128 : Int32))).value args s none s [] = some true)
    (h3 : (Jvm.Cond.all (Jvm.Term.static "com/example/uncross/uncross/model/Order" "ID_CHARACTERS" "[Z") (.or (.lt (.index 0) (.int (97 : Int32))) (.or (.le (.int (123 : Int32)) (.index 0)) (.eq (.elem (Jvm.Term.static "com/example/uncross/uncross/model/Order" "ID_CHARACTERS" "[Z") (.index 0)) (.int (1 : Int32)))))).value args s none s [] = some true) :
    ∃ ic, ((Jvm.Term.static "com/example/uncross/uncross/model/Order" "ID_CHARACTERS" "[Z")).eval args s none [] s = some (.ref ic) ∧ ∃ icf, Arf s s.heap ic .boolean Value.int 128 icf ∧ ∀ i, 97 ≤ i → i < 123 → icf i = (1 : Int32) := by
  obtain ⟨ic, eic⟩ := arr_v h1
  obtain ⟨cl, A⟩ := Arr.start eic h1
  have hA := A.fin (Vm.Alike.refl _)
  have h2' := eqInt h2
  obtain ⟨x', cl', e1, e2, e3⟩ := Term.length_spec h2'
  cases eic.symm.trans e1
  cases hA.symm.trans e2
  have hs0 := own_small h2' eic hA
  have hs : cl.slots.size = 128 := by
    have q := congrArg Int32.toInt (Value.int.inj e3)
    have k128 : (128 : Int32).toInt = 128 := rfl
    rw [len_toInt hs0, k128] at q
    omega
  have key : ∀ i, i < 128 → ∃ z, cl.slots[i]? = some (Value.int z) ∧ (97 ≤ i → i < 123 → z = (1 : Int32)) := by
    intro i hi
    have hi31 : i < 2 ^ 31 := by omega
    have hn : i.toInt32.toNatClampNeg = i := nat32 hi31
    have hp : ¬ i.toInt32 < 0 := pos32 hi31
    have hj : ¬ (i.toInt32 < 0 ∨ cl.slots.size ≤ i.toInt32.toNatClampNeg) := by
      rw [hn]
      intro q
      rcases q with q | q
      · exact hp q
      · omega
    obtain ⟨v, ev, fv⟩ := elem_fit hfit A hj
    rw [hn] at ev
    obtain ⟨z, rfl⟩ := fit_I fv (Or.inr (Or.inl rfl))
    refine ⟨z, ev, fun q1 q2 => ?_⟩
    have q := Cond.all_elim eic hA h3 i (by omega)
    have hx : (Jvm.Term.index 0).eval args s none [i] s = some (.int i.toInt32) := Term.index_eval i
    have ti : i.toInt32.toInt = i := len_toInt hi31
    have k97 : (97 : Int32).toInt = 97 := rfl
    have k123 : (123 : Int32).toInt = 123 := rfl
    have n1 : ¬ i.toInt32 < (97 : Int32) := by rw [Int32.lt_iff_toInt_lt, ti, k97]; omega
    have n2 : ¬ (123 : Int32) ≤ i.toInt32 := by rw [Int32.le_iff_toInt_le, ti, k123]; omega
    rw [Cond.or_of_right (nay (Cond.lt_ints hx (Term.int_eval 97)) n1), Cond.or_of_right (nay (Cond.le_ints (Term.int_eval 123) hx) n2)] at q
    have el := elem_in (own_eqI q) (show ((Jvm.Term.static "com/example/uncross/uncross/model/Order" "ID_CHARACTERS" "[Z")).eval args s none [i] s = some (.ref ic) from eic) hx A.1
    have el2 := el.2
    rw [hn, ev] at el2
    exact Value.int.inj (Option.some.inj el2)
  refine ⟨ic, eic, fun i => (match cl.slots[i]? with | some (.int z) => z | _ => 0), ⟨cl, A, hs, fun i hi => ?_⟩, fun i q1 q2 => ?_⟩
  · obtain ⟨z, e, -⟩ := key i hi
    simp only [e]
  · obtain ⟨z, e, k⟩ := key i (by omega)
    simp only [e]
    exact k q1 q2
theorem comes_1 {Post : Tables → Env → Array Value → State → Outcome → State → Prop} (hpost : ∀ tb e args s v u, (limb_1_1.after args s (.returned v) u = true ∧ limb_1_2.after args s (.returned v) u = true ∧ True) → ReturnedEndW s (.returned v) u (Jvm.fieldLocs frame_1_writes args s ++ Jvm.arrayLocs frame_1_arrays args s ++ Jvm.staticLocs frame_1_statics s) 64 7680 → Post tb e args s (.returned v) u) :
    ArmFor flags0 classFile x code maxLocals ret World_1 tables_1 room_1 Calls_1 rest_1 Pre_1 Post := by
  intro l hfl _ _ p e ha hc hk s m args below hf hA hF happ hP
  obtain ⟨hcalls, hrest, hpre⟩ := hP
  obtain ⟨-, -, -, hnamed, -, -, -, hat⟩ := (Spec.applies_iff hf).mp happ
  obtain ⟨hg, hn⟩ := and_e (Cond.before_iff.mp (show (Jvm.Cond.and given_1 narrow_1).before args s = true from hpre))
  obtain ⟨g0, r0⟩ := and_e hg
  obtain ⟨g1, r1⟩ := and_e r0
  obtain ⟨g2, r2⟩ := and_e r1
  obtain ⟨g3, r3⟩ := and_e r2
  obtain ⟨w0, w1, w2, w3, rfl⟩ : ∃ w0 w1 w2 w3 : Value, args = #[w0, w1, w2, w3] := by
    have hs : args.size = 4 := by simpa [Cond.value, given_1] using g0
    obtain ⟨L⟩ := args
    match L, hs with
    | [w0, w1, w2, w3], _ => exact ⟨w0, w1, w2, w3, rfl⟩
  have hw := fun d (hd : d ∈ tables_1) => atoms_spec (ws := Jvm.Cond.code x code maxLocals ret :: tables_1) hat d (List.mem_cons_of_mem _ hd)
  have hfit : Fit s := fun {y c} hc i hi => by
    obtain ⟨ha, rfl⟩ := Array.getElem?_eq_some_iff.mp hc
    have q := List.all_eq_true.mp ((Array.all_eq_true_iff_forall_mem.mp hF) _ (Array.getElem_mem ha)) i (List.mem_range.mpr hi)
    simpa [Array.getElem?_eq_getElem hi] using q
  obtain ⟨i0, ei0⟩ := is_v g1
  obtain rfl : w0 = (.int i0) := Option.some.inj ei0
  obtain ⟨i1, ei1⟩ := isL_v g2
  obtain rfl : w1 = (.long i1) := Option.some.inj ei1
  obtain ⟨i2, ei2⟩ := isL_v g3
  obtain rfl : w2 = (.long i2) := Option.some.inj ei2
  obtain ⟨i3, ei3⟩ := isL_v r3
  obtain rfl : w3 = (.long i3) := Option.some.inj ei3
  obtain ⟨nw0, nr0⟩ := and_e hn
  obtain ⟨nw1, nr1⟩ := and_e nr0
  obtain ⟨nw2, nr2⟩ := and_e nr1
  obtain ⟨nw3, nr3⟩ := and_e nr2
  obtain ⟨nw4, nr4⟩ := and_e nr3
  obtain ⟨nw5, nr5⟩ := and_e nr4
  obtain ⟨nw6, nr6⟩ := and_e nr5
  obtain ⟨nw7, nr7⟩ := and_e nr6
  obtain ⟨nw8, nr8⟩ := and_e nr7
  obtain ⟨nw9, nr9⟩ := and_e nr8
  obtain ⟨nw10, nr10⟩ := and_e nr9
  obtain ⟨nw11, nr11⟩ := and_e nr10
  obtain ⟨nw12, nr12⟩ := and_e nr11
  obtain ⟨nw13, nr13⟩ := and_e nr12
  obtain ⟨nw14, nr14⟩ := and_e nr13
  obtain ⟨nw15, nr15⟩ := and_e nr14
  obtain ⟨nw16, nr16⟩ := and_e nr15
  have nw17 := nr16
  obtain ⟨k0, ev_k0⟩ := exa_v nw0
  have EX_k0 := Exa.start ev_k0 nw0
  have ST_k0 := Sta.start ev_k0 (Or.inr ⟨(own_w hw 1 rfl), (own_w hw 2 rfl)⟩)
  obtain ⟨k1, ev_k1⟩ := exa_v nw3
  have EX_k1 := Exa.start ev_k1 nw3
  have ST_k1 := Sta.start ev_k1 (Or.inr ⟨(own_w hw 1 rfl), (own_w hw 213 rfl)⟩)
  have FZ4 := fldInt ev_k0 nw4
  have FZ5 := fldInt ev_k1 nw5
  obtain ⟨hsets, hown0⟩ := atoms_of _ (rest_1_c_eq ▸ (show rest_1_c.before _ s = true from hrest))
  obtain ⟨em, ev_em⟩ := exa_v (Cond.before_iff.mp (hsets _ (List.mem_of_getElem? (i := 11) rfl)))
  have EXE := Exa.start ev_em (Cond.before_iff.mp (hsets _ (List.mem_of_getElem? (i := 11) rfl)))
  have SE := Sta.start ev_em (Or.inl (hsets _ (List.mem_of_getElem? (i := 10) rfl)))
  have FE := fldInt ev_em (Cond.before_iff.mp (hsets _ (List.mem_of_getElem? (i := 12) rfl)))
  obtain ⟨cs, ecs⟩ := is_v (Cond.before_iff.mp (hsets _ (List.mem_of_getElem? (i := 1) rfl)))
  have SC := Sta.start ecs (Or.inl (hsets _ (List.mem_of_getElem? (i := 0) rfl)))
  have hcs : ¬ cs = (0 : Int32) := gotF (Cond.eq_ints ecs (Term.int_eval (0))) (not_v (Cond.before_iff.mp (hsets _ (List.mem_of_getElem? (i := 2) rfl))))
  obtain ⟨sf, esf, hsf⟩ := isR_v (Cond.before_iff.mp (hsets _ (List.mem_of_getElem? (i := 8) rfl)))
  have SF := Sta.start esf (Or.inl (hsets _ (List.mem_of_getElem? (i := 7) rfl)))
  obtain ⟨ic, eic, icf, IC, hic⟩ := own_ids hfit nw1 nw2 nw16
  have SI := Sta.start eic (Or.inr ⟨(own_w hw 14 rfl), (own_w hw 104 rfl)⟩)
  have hic97 : ¬ icf 97 = (0 : Int32) := by rw [hic 97 (by decide) (by decide)]; decide
  have hic98 : ¬ icf 98 = (0 : Int32) := by rw [hic 98 (by decide) (by decide)]; decide
  have hic99 : ¬ icf 99 = (0 : Int32) := by rw [hic 99 (by decide) (by decide)]; decide
  have hCH : CHv s consts_1 s.vm s.heap := CHv.start (own_EW hw) (fun p hp => hcalls.1 p hp) (hsets _ (List.mem_of_getElem? (i := 2) rfl)) (own_w hw 18 rfl) (own_w hw 17 rfl)
  obtain ⟨n, o, h1, h2, h3, _, L, rfl, ⟨rfl, N⟩, -, hq⟩ := rm0 l s _ hw i0 i1 i2 i3 s.heap s.heap.size (Nat.le_refl _) (Old.start s) cs SC hcs sf SF hsf ic SI icf IC hic97 hic98 hic99 (own_EW hw) em SE EXE FE k0 k1 ST_k0 EX_k0 ST_k1 EX_k1 FZ4 FZ5 p e ha hc hk s m _ below hf ((Spec.applies_iff_loose hf).mp happ).1 ⟨rfl, State.Warmed39.refl s, rfl, hCH⟩ trivial
  refine ⟨n, _, h1, h2, h3, hpost _ _ _ _ _ _ ⟨Cond.after_iff.mpr rfl, Cond.after_iff.mpr (eq_i res_at (Term.int_eval (1)) rfl), trivial⟩ ⟨hq.1, hq.2.1, hq.2.2.1, (hq.2.2.2.sift fun y hy => Or.inr (N y hy)).mono (by decide) (by decide)⟩⟩
theorem main_1_1 : Claimed_1_1 := comes_1 fun _ _ _ _ _ _ h hF => ⟨h.1, hF⟩
theorem main_1_2 : Claimed_1_2 := comes_1 fun _ _ _ _ _ _ h hF => ⟨h.2.1, hF⟩

end Jvm.Pilot.@@N@@
namespace Jvm.Pilot.@@N@@
open Jvm Jvm.ClassFile Sem Op Lib Jvm.Free Jvm.Stand Jvm.Pilot.@@N@@.Jvm.D
/-! MADE BY PROGRAM (witnessworld.py) out of the Statement's table words and the real class files: 40 classes; the members and pool entries that the words name. The judged class is class 1, her method 1. -/
namespace start1
open Jvm.ClassFile
def u (s : String) : CpInfo := .utf8 (stringToUtf16 s)
/-- a pool by its gaps: so many unusable entries, then the entry; so many at the end -/
def gap : Nat → List CpInfo → List CpInfo
  | 0, r => r
  | n + 1, r => .unusable :: gap n r
def poolList (es : List (Nat × CpInfo)) (last : Nat) : List CpInfo := es.foldr (fun e r => gap e.1 (e.2 :: r)) (gap last [])
def pool (es : List (Nat × CpInfo)) (last : Nat) : Array CpInfo := ⟨poolList es last⟩
def fileOf (pool : Array CpInfo) (this : Nat) (attrs : Array Attribute := #[]) (ms : Array MethodInfo := #[]) (fl : Nat := 33) (sup : Nat := 0) (ifs : Array Nat := #[]) (fds : Array FieldInfo := #[]) : ClassFile where
  minorVersion := 0
  majorVersion := 65
  constantPool := pool
  accessFlags := fl
  thisClass := this
  superClass := sup
  interfaces := ifs
  fields := fds
  methods := ms
  attributes := attrs
def plain (name : String) (sup : Option ClassId) : Class where
  name := name
  kind := .ordinary
  loader := none
  accessFlags := 33
  super := sup
  interfaces := #[]
  cf := none
  fields := #[]
  methods := #[]
  instanceTypes := #[]
  staticTypes := #[]
  resolved := #[]
  callSites := []
  init := .initialized
  statics := none
  mirror := none

def pool0 : Array CpInfo := pool [(5, u "<init>"), (0, u "()V"), (1, .class_ 10), (1, u "java/lang/Object")] 113

def k0c0 : Code := { maxStack := 0, maxLocals := 1, code := object_method_1_code, exceptionTable := #[], attributes := #[] }
def k0m0 : Method := { name := "<init>", desc := "()V", sig := { parameters := [], returnType := none }, accessFlags := 1, code := some k0c0 }
/-- java/lang/Object -/
def k0 : Class := { plain "java/lang/Object" none with
  accessFlags := 33
  interfaces := #[]
  cf := some (fileOf pool0 8 #[] #[{ accessFlags := 1, nameIndex := 5, descriptorIndex := 6, attributes := #[] }] 33 0 #[] #[])
  fields := #[]
  methods := #[k0m0]
  instanceTypes := #[]
  staticTypes := #[]
  resolved := Array.replicate 124 none
  statics := none }

def pool1 : Array CpInfo := pool [(2, .class_ 4), (1, u "java/lang/Object"), (0, u "<init>"), (0, u "()V"), (0, .fieldref 8 9), (0, .class_ 10), (0, .nameAndType 11 12), (0, u "com/example/uncross/uncross/model/Side"), (0, u "BUY"), (0, u "Lcom/example/uncross/uncross/model/Side;"), (0, .fieldref 8 14), (0, .nameAndType 15 12), (0, u "SELL"), (0, .methodref 17 18), (0, .class_ 19), (0, .nameAndType 20 21), (0, u "com/example/uncross/uncross/engine/BookSideFirstPinLaw"), (0, u "price"), (0, u "(J)J"), (0, .class_ 23), (0, u "com/example/uncross/uncross/engine/BookSide$Resting"), (0, .class_ 25), (0, u "com/example/uncross/uncross/model/Order"), (0, .string 27), (0, u "a"), (0, .methodref 29 30), (0, .class_ 31), (0, .nameAndType 32 33), (0, u "java/util/OptionalLong"), (0, u "empty"), (0, u "()Ljava/util/OptionalLong;"), (0, .methodref 29 35), (0, .nameAndType 36 37), (0, u "of"), (0, u "(J)Ljava/util/OptionalLong;"), (0, .methodref 24 39), (0, .nameAndType 5 40), (0, u "(Ljava/lang/String;Lcom/example/uncross/uncross/model/Side;JLjava/util/OptionalLong;)V"), (0, .methodref 22 42), (0, .nameAndType 5 43), (0, u "(Lcom/example/uncross/uncross/model/Order;JJZ)V"), (0, .string 45), (0, u "b"), (0, .string 47), (0, u "c"), (0, .long 2), (1, .class_ 51), (0, u "com/example/uncross/uncross/engine/BookSide"), (0, .methodref 50 53), (0, .nameAndType 5 54), (0, u "(Lcom/example/uncross/uncross/model/Side;)V"), (0, .methodref 50 56), (0, .nameAndType 57 58), (0, u "add"), (0, u "(Lcom/example/uncross/uncross/engine/BookSide$Resting;)V"), (0, .methodref 50 60), (0, .nameAndType 61 58), (0, u "remove"), (0, .methodref 17 63), (0, .nameAndType 64 65), (0, u "before"), (0, u "(ZZJZJ)Z"), (0, .methodref 50 67), (0, .nameAndType 68 69), (0, u "first"), (0, u "()Lcom/example/uncross/uncross/engine/BookSide$Resting;"), (2, .long 9223372036854775807), (1, .long 1000000000000), (3, u "law"), (0, u "(IJJJ)Z")] 7

def k1m0 : Method := { name := "<init>", desc := "()V", sig := { parameters := [], returnType := none }, accessFlags := 1, code := none }
def k1c1 : Code := { maxStack := 10, maxLocals := 29, code := code, exceptionTable := #[], attributes := #[] }
def k1m1 : Method := { name := "law", desc := "(IJJJ)Z", sig := { parameters := [.int, .long, .long, .long], returnType := some .boolean }, accessFlags := 9, code := some k1c1 }
def k1c2 : Code := { maxStack := 4, maxLocals := 2, code := method_3_code, exceptionTable := #[], attributes := #[] }
def k1m2 : Method := { name := "price", desc := "(J)J", sig := { parameters := [.long], returnType := some .long }, accessFlags := 10, code := some k1c2 }
def k1c3 : Code := { maxStack := 4, maxLocals := 7, code := method_4_code, exceptionTable := #[], attributes := #[] }
def k1m3 : Method := { name := "before", desc := "(ZZJZJ)Z", sig := { parameters := [.boolean, .boolean, .long, .boolean, .long], returnType := some .boolean }, accessFlags := 10, code := some k1c3 }
/-- com/example/uncross/uncross/engine/BookSideFirstPinLaw -/
def k1 : Class := { plain "com/example/uncross/uncross/engine/BookSideFirstPinLaw" (some 0) with
  accessFlags := 49
  interfaces := #[]
  cf := some (fileOf pool1 17 #[] #[{ accessFlags := 1, nameIndex := 5, descriptorIndex := 6, attributes := #[] }, { accessFlags := 9, nameIndex := 78, descriptorIndex := 79, attributes := #[] }, { accessFlags := 10, nameIndex := 20, descriptorIndex := 21, attributes := #[] }, { accessFlags := 10, nameIndex := 64, descriptorIndex := 65, attributes := #[] }] 49 2 #[] #[])
  fields := #[]
  methods := #[k1m0, k1m1, k1m2, k1m3]
  instanceTypes := #[]
  staticTypes := #[]
  resolved := Array.replicate 87 none
  statics := none }

def pool2 : Array CpInfo := pool [(1, .class_ 2), (0, u "java/lang/constant/Constable"), (0, .class_ 4), (0, u "java/lang/Object")] 6

/-- java/lang/constant/Constable -/
def k2 : Class := { plain "java/lang/constant/Constable" (some 0) with
  accessFlags := 1537
  interfaces := #[]
  cf := some (fileOf pool2 1 #[] #[] 1537 3 #[] #[])
  fields := #[]
  methods := #[]
  instanceTypes := #[]
  staticTypes := #[]
  resolved := Array.replicate 11 none
  statics := none }

def pool3 : Array CpInfo := pool [(1, .class_ 2), (0, u "java/lang/Comparable"), (0, .class_ 4), (0, u "java/lang/Object")] 7

/-- java/lang/Comparable -/
def k3 : Class := { plain "java/lang/Comparable" (some 0) with
  accessFlags := 1537
  interfaces := #[]
  cf := some (fileOf pool3 1 #[] #[] 1537 3 #[] #[])
  fields := #[]
  methods := #[]
  instanceTypes := #[]
  staticTypes := #[]
  resolved := Array.replicate 12 none
  statics := none }

def pool4 : Array CpInfo := pool [(1, .class_ 2), (0, u "java/io/Serializable"), (0, .class_ 4), (0, u "java/lang/Object")] 2

/-- java/io/Serializable -/
def k4 : Class := { plain "java/io/Serializable" (some 0) with
  accessFlags := 1537
  interfaces := #[]
  cf := some (fileOf pool4 1 #[] #[] 1537 3 #[] #[])
  fields := #[]
  methods := #[]
  instanceTypes := #[]
  staticTypes := #[]
  resolved := Array.replicate 7 none
  statics := none }

def pool5 : Array CpInfo := pool [(2, .class_ 4), (1, u "java/lang/Enum"), (0, u "name"), (0, u "Ljava/lang/String;"), (2, u "ordinal"), (0, u "I"), (1, .class_ 14), (1, u "java/lang/Object"), (4, u "hash"), (86, .class_ 108), (1, u "java/lang/Enum$EnumDesc"), (2, .class_ 112), (0, u "java/lang/constant/Constable"), (0, .class_ 114), (0, u "java/lang/Comparable"), (0, .class_ 116), (0, u "java/io/Serializable")] 87

/-- java/lang/Enum -/
def k5 : Class := { plain "java/lang/Enum" (some 0) with
  accessFlags := 1057
  interfaces := #[2, 3, 4]
  cf := some (fileOf pool5 2 #[.nestMembers #[106]] #[] 1057 12 #[111, 113, 115] #[{ accessFlags := 18, nameIndex := 5, descriptorIndex := 6, attributes := #[] }, { accessFlags := 18, nameIndex := 9, descriptorIndex := 10, attributes := #[] }, { accessFlags := 2, nameIndex := 19, descriptorIndex := 10, attributes := #[] }])
  fields := #[{ name := "name", type := (.object "java/lang/String"), accessFlags := 18, slot := 0, constantValue := 0 }, { name := "ordinal", type := .int, accessFlags := 18, slot := 1, constantValue := 0 }, { name := "hash", type := .int, accessFlags := 2, slot := 2, constantValue := 0 }]
  methods := #[]
  instanceTypes := #[(.object "java/lang/String"), .int, .int]
  staticTypes := #[]
  resolved := Array.replicate 204 none
  statics := none }

def pool6 : Array CpInfo := pool [(1, .class_ 2), (0, u "com/example/uncross/uncross/model/Side"), (2, u "BUY"), (0, u "Lcom/example/uncross/uncross/model/Side;"), (2, u "SELL"), (2, u "$VALUES"), (0, u "[Lcom/example/uncross/uncross/model/Side;"), (6, .class_ 22), (1, u "java/lang/Enum")] 24

/-- com/example/uncross/uncross/model/Side -/
def k6 : Class := { plain "com/example/uncross/uncross/model/Side" (some 5) with
  accessFlags := 16433
  interfaces := #[]
  cf := some (fileOf pool6 1 #[] #[] 16433 20 #[] #[{ accessFlags := 16409, nameIndex := 5, descriptorIndex := 6, attributes := #[] }, { accessFlags := 16409, nameIndex := 9, descriptorIndex := 6, attributes := #[] }, { accessFlags := 4122, nameIndex := 12, descriptorIndex := 13, attributes := #[] }])
  fields := #[{ name := "BUY", type := (.object "com/example/uncross/uncross/model/Side"), accessFlags := 16409, slot := 0, constantValue := 0 }, { name := "SELL", type := (.object "com/example/uncross/uncross/model/Side"), accessFlags := 16409, slot := 1, constantValue := 0 }, { name := "$VALUES", type := (.array (.object "com/example/uncross/uncross/model/Side")), accessFlags := 4122, slot := 2, constantValue := 0 }]
  methods := #[]
  instanceTypes := #[(.object "java/lang/String"), .int, .int]
  staticTypes := #[(.object "com/example/uncross/uncross/model/Side"), (.object "com/example/uncross/uncross/model/Side"), (.array (.object "com/example/uncross/uncross/model/Side"))]
  resolved := Array.replicate 47 none
  statics := some 0 }

def pool7 : Array CpInfo := pool [(1, .methodref 2 3), (0, .class_ 4), (0, .nameAndType 5 6), (0, u "java/lang/Object"), (0, u "<init>"), (0, u "()V"), (0, .fieldref 8 9), (0, .class_ 10), (0, .nameAndType 11 12), (0, u "com/example/uncross/uncross/engine/BookSide$Resting"), (0, u "order"), (0, u "Lcom/example/uncross/uncross/model/Order;"), (0, .fieldref 8 14), (0, .nameAndType 15 16), (0, u "quantity"), (0, u "J"), (0, .fieldref 8 18), (0, .nameAndType 19 16), (0, u "time"), (0, .fieldref 8 21), (0, .nameAndType 22 23), (0, u "filed"), (0, u "Z"), (2, u "level"), (0, u "Lcom/example/uncross/uncross/engine/BookSide$Level;"), (20, u "ahead"), (0, u "Lcom/example/uncross/uncross/engine/BookSide$Resting;"), (0, u "behind"), (0, u "(Lcom/example/uncross/uncross/model/Order;JJZ)V"), (10, .class_ 63), (0, u "com/example/uncross/uncross/engine/BookSide")] 5

def k7c0 : Code := { maxStack := 3, maxLocals := 7, code := prog_17_method_1_code, exceptionTable := #[], attributes := #[] }
def k7m0 : Method := { name := "<init>", desc := "(Lcom/example/uncross/uncross/model/Order;JJZ)V", sig := { parameters := [(.object "com/example/uncross/uncross/model/Order"), .long, .long, .boolean], returnType := none }, accessFlags := 0, code := some k7c0 }
/-- com/example/uncross/uncross/engine/BookSide$Resting -/
def k7 : Class := { plain "com/example/uncross/uncross/engine/BookSide$Resting" (some 0) with
  accessFlags := 48
  interfaces := #[]
  cf := some (fileOf pool7 8 #[.nestHost 62] #[{ accessFlags := 0, nameIndex := 5, descriptorIndex := 51, attributes := #[] }] 48 2 #[] #[{ accessFlags := 16, nameIndex := 11, descriptorIndex := 12, attributes := #[] }, { accessFlags := 0, nameIndex := 15, descriptorIndex := 16, attributes := #[] }, { accessFlags := 16, nameIndex := 19, descriptorIndex := 16, attributes := #[] }, { accessFlags := 16, nameIndex := 22, descriptorIndex := 23, attributes := #[] }, { accessFlags := 2, nameIndex := 26, descriptorIndex := 27, attributes := #[] }, { accessFlags := 2, nameIndex := 48, descriptorIndex := 49, attributes := #[] }, { accessFlags := 2, nameIndex := 50, descriptorIndex := 49, attributes := #[] }])
  fields := #[{ name := "order", type := (.object "com/example/uncross/uncross/model/Order"), accessFlags := 16, slot := 0, constantValue := 0 }, { name := "quantity", type := .long, accessFlags := 0, slot := 1, constantValue := 0 }, { name := "time", type := .long, accessFlags := 16, slot := 2, constantValue := 0 }, { name := "filed", type := .boolean, accessFlags := 16, slot := 3, constantValue := 0 }, { name := "level", type := (.object "com/example/uncross/uncross/engine/BookSide$Level"), accessFlags := 2, slot := 4, constantValue := 0 }, { name := "ahead", type := (.object "com/example/uncross/uncross/engine/BookSide$Resting"), accessFlags := 2, slot := 5, constantValue := 0 }, { name := "behind", type := (.object "com/example/uncross/uncross/engine/BookSide$Resting"), accessFlags := 2, slot := 6, constantValue := 0 }]
  methods := #[k7m0]
  instanceTypes := #[(.object "com/example/uncross/uncross/model/Order"), .long, .long, .boolean, (.object "com/example/uncross/uncross/engine/BookSide$Level"), (.object "com/example/uncross/uncross/engine/BookSide$Resting"), (.object "com/example/uncross/uncross/engine/BookSide$Resting")]
  staticTypes := #[]
  resolved := Array.replicate 69 none
  statics := none }

def pool8 : Array CpInfo := pool [(1, .methodref 2 3), (0, .class_ 4), (0, .nameAndType 5 6), (0, u "java/lang/Object"), (0, u "<init>"), (0, u "()V"), (0, .class_ 8), (0, u "java/lang/Record")] 13

def k8c0 : Code := { maxStack := 1, maxLocals := 1, code := jdk_30_method_1_code, exceptionTable := #[], attributes := #[] }
def k8m0 : Method := { name := "<init>", desc := "()V", sig := { parameters := [], returnType := none }, accessFlags := 4, code := some k8c0 }
/-- java/lang/Record -/
def k8 : Class := { plain "java/lang/Record" (some 0) with
  accessFlags := 1057
  interfaces := #[]
  cf := some (fileOf pool8 7 #[] #[{ accessFlags := 4, nameIndex := 5, descriptorIndex := 6, attributes := #[] }] 1057 2 #[] #[])
  fields := #[]
  methods := #[k8m0]
  instanceTypes := #[]
  staticTypes := #[]
  resolved := Array.replicate 22 none
  statics := none }

def pool9 : Array CpInfo := pool [(1, .methodref 2 3), (0, .class_ 4), (0, .nameAndType 5 6), (0, u "java/lang/Record"), (0, u "<init>"), (0, u "()V"), (0, .string 8), (0, u "side"), (0, .methodref 10 11), (0, .class_ 12), (0, .nameAndType 13 14), (0, u "java/util/Objects"), (0, u "requireNonNull"), (0, u "(Ljava/lang/Object;Ljava/lang/String;)Ljava/lang/Object;"), (0, .methodref 16 17), (0, .class_ 18), (0, .nameAndType 19 20), (0, u "com/example/uncross/uncross/model/Order"), (0, u "checkId"), (0, u "(Ljava/lang/String;)V"), (0, .methodref 16 22), (0, .nameAndType 23 24), (0, u "checkTerms"), (0, u "(JLjava/util/OptionalLong;)V"), (0, .fieldref 16 26), (0, .nameAndType 27 28), (0, u "id"), (0, u "Ljava/lang/String;"), (0, .fieldref 16 30), (0, .nameAndType 8 31), (0, u "Lcom/example/uncross/uncross/model/Side;"), (0, .fieldref 16 33), (0, .nameAndType 34 35), (0, u "quantity"), (0, u "J"), (0, .fieldref 16 37), (0, .nameAndType 38 39), (0, u "limit"), (0, u "Ljava/util/OptionalLong;"), (0, .methodref 41 42), (0, .class_ 43), (0, .nameAndType 44 45), (0, u "java/util/OptionalLong"), (0, u "isEmpty"), (0, u "()Z"), (2, u "isMarket"), (0, .methodref 41 50), (0, .nameAndType 51 52), (0, u "getAsLong"), (0, u "()J"), (5, .string 27), (0, .class_ 60), (0, u "java/lang/String"), (0, .methodref 16 62), (0, .nameAndType 63 64), (0, u "isValidId"), (0, u "(Ljava/lang/String;)Z"), (8, .string 38), (0, .methodref 75 76), (0, .class_ 77), (0, .nameAndType 78 79), (0, u "com/example/uncross/uncross/model/Quantities"), (0, u "check"), (0, u "(J)V"), (0, .methodref 41 81), (0, .nameAndType 82 45), (0, u "isPresent"), (0, .methodref 84 76), (0, .class_ 85), (0, u "com/example/uncross/uncross/model/Prices"), (0, .methodref 59 42), (0, .methodref 59 88), (0, .nameAndType 89 90), (0, u "length"), (0, u "()I"), (0, .methodref 59 92), (0, .nameAndType 93 94), (0, u "charAt"), (0, u "(I)C"), (0, .fieldref 16 96), (0, .nameAndType 97 98), (0, u "ID_CHARACTERS"), (0, u "[Z"), (22, u "MAX_ID_LENGTH"), (0, u "I"), (2, u "(Ljava/lang/String;Lcom/example/uncross/uncross/model/Side;JLjava/util/OptionalLong;)V"), (10, u "()Ljava/util/OptionalLong;")] 32

def k9c0 : Code := { maxStack := 3, maxLocals := 6, code := prog_70_method_1_code, exceptionTable := #[], attributes := #[] }
def k9m0 : Method := { name := "<init>", desc := "(Ljava/lang/String;Lcom/example/uncross/uncross/model/Side;JLjava/util/OptionalLong;)V", sig := { parameters := [(.object "java/lang/String"), (.object "com/example/uncross/uncross/model/Side"), .long, (.object "java/util/OptionalLong")], returnType := none }, accessFlags := 1, code := some k9c0 }
def k9c1 : Code := { maxStack := 1, maxLocals := 1, code := prog_70_method_2_code, exceptionTable := #[], attributes := #[] }
def k9m1 : Method := { name := "isMarket", desc := "()Z", sig := { parameters := [], returnType := some .boolean }, accessFlags := 1, code := some k9c1 }
def k9c2 : Code := { maxStack := 3, maxLocals := 1, code := prog_70_method_4_code, exceptionTable := #[], attributes := #[] }
def k9m2 : Method := { name := "checkId", desc := "(Ljava/lang/String;)V", sig := { parameters := [(.object "java/lang/String")], returnType := none }, accessFlags := 8, code := some k9c2 }
def k9c3 : Code := { maxStack := 2, maxLocals := 3, code := prog_70_method_5_code, exceptionTable := #[], attributes := #[] }
def k9m3 : Method := { name := "checkTerms", desc := "(JLjava/util/OptionalLong;)V", sig := { parameters := [.long, (.object "java/util/OptionalLong")], returnType := none }, accessFlags := 9, code := some k9c3 }
def k9c4 : Code := { maxStack := 2, maxLocals := 3, code := prog_70_method_6_code, exceptionTable := #[], attributes := #[] }
def k9m4 : Method := { name := "isValidId", desc := "(Ljava/lang/String;)Z", sig := { parameters := [(.object "java/lang/String")], returnType := some .boolean }, accessFlags := 10, code := some k9c4 }
def k9c5 : Code := { maxStack := 1, maxLocals := 1, code := prog_70_method_14_code, exceptionTable := #[], attributes := #[] }
def k9m5 : Method := { name := "limit", desc := "()Ljava/util/OptionalLong;", sig := { parameters := [], returnType := some (.object "java/util/OptionalLong") }, accessFlags := 1, code := some k9c5 }
/-- com/example/uncross/uncross/model/Order -/
def k9 : Class := { plain "com/example/uncross/uncross/model/Order" (some 8) with
  accessFlags := 49
  interfaces := #[]
  cf := some (fileOf pool9 16 #[] #[{ accessFlags := 1, nameIndex := 5, descriptorIndex := 125, attributes := #[] }, { accessFlags := 1, nameIndex := 48, descriptorIndex := 45, attributes := #[] }, { accessFlags := 8, nameIndex := 19, descriptorIndex := 20, attributes := #[] }, { accessFlags := 9, nameIndex := 23, descriptorIndex := 24, attributes := #[] }, { accessFlags := 10, nameIndex := 63, descriptorIndex := 64, attributes := #[] }, { accessFlags := 1, nameIndex := 38, descriptorIndex := 136, attributes := #[] }] 49 2 #[] #[{ accessFlags := 18, nameIndex := 27, descriptorIndex := 28, attributes := #[] }, { accessFlags := 18, nameIndex := 8, descriptorIndex := 31, attributes := #[] }, { accessFlags := 18, nameIndex := 34, descriptorIndex := 35, attributes := #[] }, { accessFlags := 18, nameIndex := 38, descriptorIndex := 39, attributes := #[] }, { accessFlags := 25, nameIndex := 121, descriptorIndex := 122, attributes := #[] }, { accessFlags := 26, nameIndex := 97, descriptorIndex := 98, attributes := #[] }])
  fields := #[{ name := "id", type := (.object "java/lang/String"), accessFlags := 18, slot := 0, constantValue := 0 }, { name := "side", type := (.object "com/example/uncross/uncross/model/Side"), accessFlags := 18, slot := 1, constantValue := 0 }, { name := "quantity", type := .long, accessFlags := 18, slot := 2, constantValue := 0 }, { name := "limit", type := (.object "java/util/OptionalLong"), accessFlags := 18, slot := 3, constantValue := 0 }, { name := "MAX_ID_LENGTH", type := .int, accessFlags := 25, slot := 0, constantValue := 0 }, { name := "ID_CHARACTERS", type := (.array .boolean), accessFlags := 26, slot := 1, constantValue := 0 }]
  methods := #[k9m0, k9m1, k9m2, k9m3, k9m4, k9m5]
  instanceTypes := #[(.object "java/lang/String"), (.object "com/example/uncross/uncross/model/Side"), .long, (.object "java/util/OptionalLong")]
  staticTypes := #[.int, (.array .boolean)]
  resolved := Array.replicate 169 none
  statics := some 1 }

def pool10 : Array CpInfo := pool [(2, .class_ 4), (1, u "java/lang/CharSequence"), (42, .class_ 48), (0, u "java/lang/CharSequence$1CodePointIterator"), (10, .class_ 60), (0, u "java/lang/CharSequence$1CharIterator"), (5, .class_ 67), (0, u "java/lang/Object")] 63

/-- java/lang/CharSequence -/
def k10 : Class := { plain "java/lang/CharSequence" (some 0) with
  accessFlags := 1537
  interfaces := #[]
  cf := some (fileOf pool10 2 #[.nestMembers #[47, 59]] #[] 1537 66 #[] #[])
  fields := #[]
  methods := #[]
  instanceTypes := #[]
  staticTypes := #[]
  resolved := Array.replicate 131 none
  statics := none }

def pool11 : Array CpInfo := pool [(1, .class_ 2), (0, u "java/lang/constant/ConstantDesc"), (0, .class_ 4), (0, u "java/lang/Object")] 32

/-- java/lang/constant/ConstantDesc -/
def k11 : Class := { plain "java/lang/constant/ConstantDesc" (some 0) with
  accessFlags := 1537
  interfaces := #[]
  cf := some (fileOf pool11 1 #[] #[] 1537 3 #[] #[])
  fields := #[]
  methods := #[]
  instanceTypes := #[]
  staticTypes := #[]
  resolved := Array.replicate 37 none
  statics := none }

def pool12 : Array CpInfo := pool [(2, .class_ 4), (1, u "java/lang/Object"), (0, u "<init>"), (0, u "()V"), (2, .fieldref 10 11), (0, .class_ 12), (0, .nameAndType 13 14), (0, u "java/lang/String"), (0, u "value"), (0, u "[B"), (0, .fieldref 10 16), (0, .nameAndType 17 18), (0, u "coder"), (0, u "B"), (2, u "hash"), (0, u "I"), (2, u "hashIsZero"), (0, u "Z"), (11, .fieldref 10 39), (0, .nameAndType 40 26), (0, u "COMPACT_STRINGS"), (66, .class_ 109), (1, u "java/lang/StringLatin1"), (32, u "()Z"), (191, u "()I"), (0, .methodref 10 336), (0, .nameAndType 17 337), (0, u "()B"), (25, u "([BI)C"), (27, u "(II)V"), (35, u "(I)C"), (64, .methodref 10 493), (0, .nameAndType 494 142), (0, u "isLatin1"), (0, .methodref 107 496), (0, .nameAndType 497 363), (0, u "charAt"), (3, u "checkIndex"), (5, u "length"), (67, .class_ 576), (0, u "java/lang/CharSequence"), (22, u "CASE_INSENSITIVE_ORDER"), (0, u "Ljava/util/Comparator;"), (91, u "isEmpty"), (360, .fieldref 1054 1055), (0, .class_ 1056), (0, .nameAndType 1057 1058), (0, u "jdk/internal/util/Preconditions"), (0, u "SIOOBE_FORMATTER"), (0, u "Ljava/util/function/BiFunction;"), (0, .methodref 1054 1060), (0, .nameAndType 501 1061), (0, u "(IILjava/util/function/BiFunction;)I"), (39, u "serialPersistentFields"), (0, u "[Ljava/io/ObjectStreamField;"), (0, .class_ 1104), (0, u "java/lang/String$CaseInsensitiveComparator"), (1, .class_ 1107), (0, u "java/io/Serializable"), (0, .class_ 1109), (0, u "java/lang/Comparable"), (0, .class_ 1111), (0, u "java/lang/constant/Constable"), (0, .class_ 1113), (0, u "java/lang/constant/ConstantDesc"), (2, u "serialVersionUID"), (0, u "J"), (3, u "REPL"), (0, u "C"), (2, u "LATIN1"), (1, u "UTF16")] 323

def k12m0 : Method := { name := "<init>", desc := "()V", sig := { parameters := [], returnType := none }, accessFlags := 1, code := none }
def k12c1 : Code := { maxStack := 2, maxLocals := 1, code := jdk_42_method_54_code, exceptionTable := #[], attributes := #[] }
def k12m1 : Method := { name := "length", desc := "()I", sig := { parameters := [], returnType := some .int }, accessFlags := 1, code := some k12c1 }
def k12c2 : Code := { maxStack := 1, maxLocals := 1, code := jdk_42_method_55_code, exceptionTable := #[], attributes := #[] }
def k12m2 : Method := { name := "isEmpty", desc := "()Z", sig := { parameters := [], returnType := some .boolean }, accessFlags := 1, code := some k12c2 }
def k12c3 : Code := { maxStack := 2, maxLocals := 2, code := jdk_42_method_56_code, exceptionTable := #[], attributes := #[] }
def k12m3 : Method := { name := "charAt", desc := "(I)C", sig := { parameters := [.int], returnType := some .char }, accessFlags := 1, code := some k12c3 }
def k12c4 : Code := { maxStack := 1, maxLocals := 1, code := jdk_42_method_152_code, exceptionTable := #[], attributes := #[] }
def k12m4 : Method := { name := "coder", desc := "()B", sig := { parameters := [], returnType := some .byte }, accessFlags := 0, code := some k12c4 }
def k12c5 : Code := { maxStack := 1, maxLocals := 1, code := jdk_42_method_154_code, exceptionTable := #[], attributes := #[] }
def k12m5 : Method := { name := "isLatin1", desc := "()Z", sig := { parameters := [], returnType := some .boolean }, accessFlags := 0, code := some k12c5 }
def k12c6 : Code := { maxStack := 3, maxLocals := 2, code := jdk_42_method_155_code, exceptionTable := #[], attributes := #[] }
def k12m6 : Method := { name := "checkIndex", desc := "(II)V", sig := { parameters := [.int, .int], returnType := none }, accessFlags := 8, code := some k12c6 }
/-- java/lang/String -/
def k12 : Class := { plain "java/lang/String" (some 0) with
  accessFlags := 49
  interfaces := #[4, 3, 10, 2, 11]
  cf := some (fileOf pool12 10 #[.nestMembers #[1103]] #[{ accessFlags := 1, nameIndex := 5, descriptorIndex := 6, attributes := #[] }, { accessFlags := 1, nameIndex := 507, descriptorIndex := 334, attributes := #[] }, { accessFlags := 1, nameIndex := 692, descriptorIndex := 142, attributes := #[] }, { accessFlags := 1, nameIndex := 497, descriptorIndex := 427, attributes := #[] }, { accessFlags := 0, nameIndex := 17, descriptorIndex := 337, attributes := #[] }, { accessFlags := 0, nameIndex := 494, descriptorIndex := 142, attributes := #[] }, { accessFlags := 8, nameIndex := 501, descriptorIndex := 391, attributes := #[] }] 49 2 #[1106, 1108, 575, 1110, 1112] #[{ accessFlags := 18, nameIndex := 13, descriptorIndex := 14, attributes := #[] }, { accessFlags := 18, nameIndex := 17, descriptorIndex := 18, attributes := #[] }, { accessFlags := 2, nameIndex := 21, descriptorIndex := 22, attributes := #[] }, { accessFlags := 2, nameIndex := 25, descriptorIndex := 26, attributes := #[] }, { accessFlags := 26, nameIndex := 1116, descriptorIndex := 1117, attributes := #[] }, { accessFlags := 24, nameIndex := 40, descriptorIndex := 26, attributes := #[] }, { accessFlags := 26, nameIndex := 1101, descriptorIndex := 1102, attributes := #[] }, { accessFlags := 26, nameIndex := 1121, descriptorIndex := 1122, attributes := #[] }, { accessFlags := 25, nameIndex := 599, descriptorIndex := 600, attributes := #[] }, { accessFlags := 24, nameIndex := 1125, descriptorIndex := 18, attributes := #[] }, { accessFlags := 24, nameIndex := 1127, descriptorIndex := 18, attributes := #[] }])
  fields := #[{ name := "value", type := (.array .byte), accessFlags := 18, slot := 0, constantValue := 0 }, { name := "coder", type := .byte, accessFlags := 18, slot := 1, constantValue := 0 }, { name := "hash", type := .int, accessFlags := 2, slot := 2, constantValue := 0 }, { name := "hashIsZero", type := .boolean, accessFlags := 2, slot := 3, constantValue := 0 }, { name := "serialVersionUID", type := .long, accessFlags := 26, slot := 0, constantValue := 0 }, { name := "COMPACT_STRINGS", type := .boolean, accessFlags := 24, slot := 1, constantValue := 0 }, { name := "serialPersistentFields", type := (.array (.object "java/io/ObjectStreamField")), accessFlags := 26, slot := 2, constantValue := 0 }, { name := "REPL", type := .char, accessFlags := 26, slot := 3, constantValue := 0 }, { name := "CASE_INSENSITIVE_ORDER", type := (.object "java/util/Comparator"), accessFlags := 25, slot := 4, constantValue := 0 }, { name := "LATIN1", type := .byte, accessFlags := 24, slot := 5, constantValue := 0 }, { name := "UTF16", type := .byte, accessFlags := 24, slot := 6, constantValue := 0 }]
  methods := #[k12m0, k12m1, k12m2, k12m3, k12m4, k12m5, k12m6]
  instanceTypes := #[(.array .byte), .byte, .int, .boolean]
  staticTypes := #[.long, .boolean, (.array (.object "java/io/ObjectStreamField")), .char, (.object "java/util/Comparator"), .byte, .byte]
  resolved := Array.replicate 1451 none
  statics := some 2 }

def pool13 : Array CpInfo := pool [(1, .methodref 2 3), (0, .class_ 4), (0, .nameAndType 5 6), (0, u "java/lang/Object"), (0, u "<init>"), (0, u "()V"), (0, .fieldref 8 9), (0, .class_ 10), (0, .nameAndType 11 12), (0, u "java/util/OptionalLong"), (0, u "isPresent"), (0, u "Z"), (0, .fieldref 8 14), (0, .nameAndType 15 16), (0, u "value"), (0, u "J"), (0, .fieldref 8 18), (0, .nameAndType 19 20), (0, u "EMPTY"), (0, u "Ljava/util/OptionalLong;"), (0, .methodref 8 22), (0, .nameAndType 5 23), (0, u "(J)V"), (21, u "of"), (3, u "empty"), (5, u "getAsLong"), (0, u "()J"), (39, u "()Ljava/util/OptionalLong;"), (0, u "(J)Ljava/util/OptionalLong;"), (1, u "()Z"), (0, u "isEmpty")] 37

def k13m0 : Method := { name := "<init>", desc := "()V", sig := { parameters := [], returnType := none }, accessFlags := 2, code := none }
def k13c1 : Code := { maxStack := 1, maxLocals := 0, code := jdk_2650_method_2_code, exceptionTable := #[], attributes := #[] }
def k13m1 : Method := { name := "empty", desc := "()Ljava/util/OptionalLong;", sig := { parameters := [], returnType := some (.object "java/util/OptionalLong") }, accessFlags := 9, code := some k13c1 }
def k13c2 : Code := { maxStack := 3, maxLocals := 3, code := jdk_2650_method_3_code, exceptionTable := #[], attributes := #[] }
def k13m2 : Method := { name := "<init>", desc := "(J)V", sig := { parameters := [.long], returnType := none }, accessFlags := 2, code := some k13c2 }
def k13c3 : Code := { maxStack := 4, maxLocals := 2, code := jdk_2650_method_4_code, exceptionTable := #[], attributes := #[] }
def k13m3 : Method := { name := "of", desc := "(J)Ljava/util/OptionalLong;", sig := { parameters := [.long], returnType := some (.object "java/util/OptionalLong") }, accessFlags := 9, code := some k13c3 }
def k13c4 : Code := { maxStack := 3, maxLocals := 1, code := jdk_2650_method_5_code, exceptionTable := #[], attributes := #[] }
def k13m4 : Method := { name := "getAsLong", desc := "()J", sig := { parameters := [], returnType := some .long }, accessFlags := 1, code := some k13c4 }
def k13c5 : Code := { maxStack := 1, maxLocals := 1, code := jdk_2650_method_6_code, exceptionTable := #[], attributes := #[] }
def k13m5 : Method := { name := "isPresent", desc := "()Z", sig := { parameters := [], returnType := some .boolean }, accessFlags := 1, code := some k13c5 }
def k13c6 : Code := { maxStack := 1, maxLocals := 1, code := jdk_2650_method_7_code, exceptionTable := #[], attributes := #[] }
def k13m6 : Method := { name := "isEmpty", desc := "()Z", sig := { parameters := [], returnType := some .boolean }, accessFlags := 1, code := some k13c6 }
/-- java/util/OptionalLong -/
def k13 : Class := { plain "java/util/OptionalLong" (some 0) with
  accessFlags := 49
  interfaces := #[]
  cf := some (fileOf pool13 8 #[] #[{ accessFlags := 2, nameIndex := 5, descriptorIndex := 6, attributes := #[] }, { accessFlags := 9, nameIndex := 49, descriptorIndex := 96, attributes := #[] }, { accessFlags := 2, nameIndex := 5, descriptorIndex := 23, attributes := #[] }, { accessFlags := 9, nameIndex := 45, descriptorIndex := 97, attributes := #[] }, { accessFlags := 1, nameIndex := 55, descriptorIndex := 56, attributes := #[] }, { accessFlags := 1, nameIndex := 11, descriptorIndex := 99, attributes := #[] }, { accessFlags := 1, nameIndex := 100, descriptorIndex := 99, attributes := #[] }] 49 2 #[] #[{ accessFlags := 26, nameIndex := 19, descriptorIndex := 20, attributes := #[] }, { accessFlags := 18, nameIndex := 11, descriptorIndex := 12, attributes := #[] }, { accessFlags := 18, nameIndex := 15, descriptorIndex := 16, attributes := #[] }])
  fields := #[{ name := "EMPTY", type := (.object "java/util/OptionalLong"), accessFlags := 26, slot := 0, constantValue := 0 }, { name := "isPresent", type := .boolean, accessFlags := 18, slot := 0, constantValue := 0 }, { name := "value", type := .long, accessFlags := 18, slot := 1, constantValue := 0 }]
  methods := #[k13m0, k13m1, k13m2, k13m3, k13m4, k13m5, k13m6]
  instanceTypes := #[.boolean, .long]
  staticTypes := #[(.object "java/util/OptionalLong")]
  resolved := Array.replicate 138 none
  statics := some 3 }

def pool14 : Array CpInfo := pool [(2, .class_ 4), (1, u "java/lang/Object"), (0, u "<init>"), (0, u "()V"), (35, .class_ 44), (1, u "java/util/Objects"), (0, u "requireNonNull"), (48, u "(Ljava/lang/Object;Ljava/lang/String;)Ljava/lang/Object;")] 89

def k14m0 : Method := { name := "<init>", desc := "()V", sig := { parameters := [], returnType := none }, accessFlags := 2, code := none }
def k14c1 : Code := { maxStack := 3, maxLocals := 2, code := jdk_31_method_11_code, exceptionTable := #[], attributes := #[] }
def k14m1 : Method := { name := "requireNonNull", desc := "(Ljava/lang/Object;Ljava/lang/String;)Ljava/lang/Object;", sig := { parameters := [(.object "java/lang/Object"), (.object "java/lang/String")], returnType := some (.object "java/lang/Object") }, accessFlags := 9, code := some k14c1 }
/-- java/util/Objects -/
def k14 : Class := { plain "java/util/Objects" (some 0) with
  accessFlags := 49
  interfaces := #[]
  cf := some (fileOf pool14 42 #[] #[{ accessFlags := 2, nameIndex := 5, descriptorIndex := 6, attributes := #[] }, { accessFlags := 9, nameIndex := 45, descriptorIndex := 94, attributes := #[] }] 49 2 #[] #[])
  fields := #[]
  methods := #[k14m0, k14m1]
  instanceTypes := #[]
  staticTypes := #[]
  resolved := Array.replicate 184 none
  statics := none }

def pool15 : Array CpInfo := pool [(1, .class_ 2), (0, u "java/lang/String"), (1, .class_ 6), (1, u "java/lang/Object"), (0, u "<init>"), (0, u "()V"), (0, .methodref 1 10), (0, .nameAndType 11 12), (0, u "checkIndex"), (0, u "(II)V"), (1, .class_ 16), (1, u "java/lang/StringLatin1"), (36, u "([BI)C"), (67, u "$assertionsDisabled"), (0, u "Z"), (98, .class_ 223), (1, u "java/lang/StringLatin1$LinesSpliterator"), (28, u "charAt"), (137, .class_ 391), (0, u "java/lang/StringLatin1$CharsSpliterator")] 3

def k15m0 : Method := { name := "<init>", desc := "()V", sig := { parameters := [], returnType := none }, accessFlags := 0, code := none }
def k15c1 : Code := { maxStack := 2, maxLocals := 2, code := jdk_43_method_2_code, exceptionTable := #[], attributes := #[] }
def k15m1 : Method := { name := "charAt", desc := "([BI)C", sig := { parameters := [(.array .byte), .int], returnType := some .char }, accessFlags := 9, code := some k15c1 }
/-- java/lang/StringLatin1 -/
def k15 : Class := { plain "java/lang/StringLatin1" (some 0) with
  accessFlags := 48
  interfaces := #[]
  cf := some (fileOf pool15 14 #[.nestMembers #[390, 221]] #[{ accessFlags := 0, nameIndex := 7, descriptorIndex := 8, attributes := #[] }, { accessFlags := 9, nameIndex := 252, descriptorIndex := 53, attributes := #[] }] 48 4 #[] #[{ accessFlags := 4120, nameIndex := 121, descriptorIndex := 122, attributes := #[] }])
  fields := #[{ name := "$assertionsDisabled", type := .boolean, accessFlags := 4120, slot := 0, constantValue := 0 }]
  methods := #[k15m0, k15m1]
  instanceTypes := #[]
  staticTypes := #[.boolean]
  resolved := Array.replicate 395 none
  statics := none }

def pool16 : Array CpInfo := pool [(2, .class_ 4), (1, u "java/lang/Object"), (0, u "<init>"), (0, u "()V"), (17, .class_ 26), (1, u "jdk/internal/util/Preconditions"), (6, u "checkIndex"), (21, .class_ 56), (0, u "jdk/internal/util/Preconditions$4"), (57, .class_ 115), (0, u "jdk/internal/util/Preconditions$1"), (7, u "SIOOBE_FORMATTER"), (0, u "Ljava/util/function/BiFunction;"), (0, .class_ 126), (0, u "jdk/internal/util/Preconditions$2"), (3, u "AIOOBE_FORMATTER"), (0, .class_ 132), (0, u "jdk/internal/util/Preconditions$3"), (3, u "IOOBE_FORMATTER"), (41, u "(IILjava/util/function/BiFunction;)I")] 15

def k16m0 : Method := { name := "<init>", desc := "()V", sig := { parameters := [], returnType := none }, accessFlags := 1, code := none }
def k16c1 : Code := { maxStack := 3, maxLocals := 3, code := jdk_41_method_11_code, exceptionTable := #[], attributes := #[] }
def k16m1 : Method := { name := "checkIndex", desc := "(IILjava/util/function/BiFunction;)I", sig := { parameters := [.int, .int, (.object "java/util/function/BiFunction")], returnType := some .int }, accessFlags := 9, code := some k16c1 }
/-- jdk/internal/util/Preconditions -/
def k16 : Class := { plain "jdk/internal/util/Preconditions" (some 0) with
  accessFlags := 33
  interfaces := #[]
  cf := some (fileOf pool16 24 #[.nestMembers #[55, 131, 125, 114]] #[{ accessFlags := 1, nameIndex := 5, descriptorIndex := 6, attributes := #[] }, { accessFlags := 9, nameIndex := 33, descriptorIndex := 178, attributes := #[] }] 33 2 #[] #[{ accessFlags := 25, nameIndex := 123, descriptorIndex := 124, attributes := #[] }, { accessFlags := 25, nameIndex := 130, descriptorIndex := 124, attributes := #[] }, { accessFlags := 25, nameIndex := 136, descriptorIndex := 124, attributes := #[] }])
  fields := #[{ name := "SIOOBE_FORMATTER", type := (.object "java/util/function/BiFunction"), accessFlags := 25, slot := 0, constantValue := 0 }, { name := "AIOOBE_FORMATTER", type := (.object "java/util/function/BiFunction"), accessFlags := 25, slot := 1, constantValue := 0 }, { name := "IOOBE_FORMATTER", type := (.object "java/util/function/BiFunction"), accessFlags := 25, slot := 2, constantValue := 0 }]
  methods := #[k16m0, k16m1]
  instanceTypes := #[]
  staticTypes := #[(.object "java/util/function/BiFunction"), (.object "java/util/function/BiFunction"), (.object "java/util/function/BiFunction")]
  resolved := Array.replicate 194 none
  statics := some 4 }

def pool17 : Array CpInfo := pool [(2, .class_ 4), (1, u "java/lang/Object"), (0, u "<init>"), (0, u "()V"), (1, .class_ 10), (1, u "com/example/uncross/uncross/model/Quantities"), (2, .methodref 8 14), (0, .nameAndType 15 16), (0, u "check"), (0, u "(JJ)V"), (0, .long 1000000000), (6, .methodref 8 25), (0, .nameAndType 26 27), (0, u "inRange"), (0, u "(JJ)Z"), (12, u "MAX"), (0, u "J"), (5, u "(J)V")] 21

def k17m0 : Method := { name := "<init>", desc := "()V", sig := { parameters := [], returnType := none }, accessFlags := 2, code := none }
def k17c1 : Code := { maxStack := 4, maxLocals := 2, code := prog_82_method_4_code, exceptionTable := #[], attributes := #[] }
def k17m1 : Method := { name := "check", desc := "(J)V", sig := { parameters := [.long], returnType := none }, accessFlags := 9, code := some k17c1 }
def k17c2 : Code := { maxStack := 6, maxLocals := 4, code := prog_82_method_7_code, exceptionTable := #[], attributes := #[] }
def k17m2 : Method := { name := "check", desc := "(JJ)V", sig := { parameters := [.long, .long], returnType := none }, accessFlags := 10, code := some k17c2 }
def k17c3 : Code := { maxStack := 4, maxLocals := 4, code := prog_82_method_8_code, exceptionTable := #[], attributes := #[] }
def k17m3 : Method := { name := "inRange", desc := "(JJ)Z", sig := { parameters := [.long, .long], returnType := some .boolean }, accessFlags := 10, code := some k17c3 }
/-- com/example/uncross/uncross/model/Quantities -/
def k17 : Class := { plain "com/example/uncross/uncross/model/Quantities" (some 0) with
  accessFlags := 49
  interfaces := #[]
  cf := some (fileOf pool17 8 #[] #[{ accessFlags := 2, nameIndex := 5, descriptorIndex := 6, attributes := #[] }, { accessFlags := 9, nameIndex := 15, descriptorIndex := 47, attributes := #[] }, { accessFlags := 10, nameIndex := 15, descriptorIndex := 16, attributes := #[] }, { accessFlags := 10, nameIndex := 26, descriptorIndex := 27, attributes := #[] }] 49 2 #[] #[{ accessFlags := 25, nameIndex := 40, descriptorIndex := 41, attributes := #[] }])
  fields := #[{ name := "MAX", type := .long, accessFlags := 25, slot := 0, constantValue := 0 }]
  methods := #[k17m0, k17m1, k17m2, k17m3]
  instanceTypes := #[]
  staticTypes := #[.long]
  resolved := Array.replicate 69 none
  statics := none }

def pool18 : Array CpInfo := pool [(1, .class_ 2), (0, u "com/example/uncross/uncross/model/Prices"), (1, .class_ 6), (1, u "java/lang/Object"), (0, u "<init>"), (0, u "()V"), (0, .string 10), (0, u "price"), (45, .methodref 1 57), (0, .nameAndType 58 59), (0, u "inRange"), (0, u "(J)Z"), (2, u "RANGE"), (0, u "Ljava/lang/String;"), (3, .methodref 1 68), (0, .nameAndType 69 70), (0, u "check"), (0, u "(Ljava/lang/String;J)V"), (16, .long 1000000000000), (14, u "DECIMALS"), (0, u "I"), (2, u "SCALE"), (0, u "J"), (0, u "MAX"), (4, u "(J)V")] 34

def k18m0 : Method := { name := "<init>", desc := "()V", sig := { parameters := [], returnType := none }, accessFlags := 2, code := none }
def k18c1 : Code := { maxStack := 3, maxLocals := 2, code := prog_81_method_4_code, exceptionTable := #[], attributes := #[] }
def k18m1 : Method := { name := "check", desc := "(J)V", sig := { parameters := [.long], returnType := none }, accessFlags := 9, code := some k18c1 }
def k18c2 : Code := { maxStack := 6, maxLocals := 3, code := prog_81_method_5_code, exceptionTable := #[], attributes := #[] }
def k18m2 : Method := { name := "check", desc := "(Ljava/lang/String;J)V", sig := { parameters := [(.object "java/lang/String"), .long], returnType := none }, accessFlags := 8, code := some k18c2 }
def k18c3 : Code := { maxStack := 4, maxLocals := 2, code := prog_81_method_9_code, exceptionTable := #[], attributes := #[] }
def k18m3 : Method := { name := "inRange", desc := "(J)Z", sig := { parameters := [.long], returnType := some .boolean }, accessFlags := 10, code := some k18c3 }
/-- com/example/uncross/uncross/model/Prices -/
def k18 : Class := { plain "com/example/uncross/uncross/model/Prices" (some 0) with
  accessFlags := 49
  interfaces := #[]
  cf := some (fileOf pool18 1 #[] #[{ accessFlags := 2, nameIndex := 7, descriptorIndex := 8, attributes := #[] }, { accessFlags := 9, nameIndex := 69, descriptorIndex := 113, attributes := #[] }, { accessFlags := 8, nameIndex := 69, descriptorIndex := 70, attributes := #[] }, { accessFlags := 10, nameIndex := 58, descriptorIndex := 59, attributes := #[] }] 49 4 #[] #[{ accessFlags := 25, nameIndex := 102, descriptorIndex := 103, attributes := #[] }, { accessFlags := 25, nameIndex := 106, descriptorIndex := 107, attributes := #[] }, { accessFlags := 25, nameIndex := 108, descriptorIndex := 107, attributes := #[] }, { accessFlags := 26, nameIndex := 62, descriptorIndex := 63, attributes := #[] }])
  fields := #[{ name := "DECIMALS", type := .int, accessFlags := 25, slot := 0, constantValue := 0 }, { name := "SCALE", type := .long, accessFlags := 25, slot := 1, constantValue := 0 }, { name := "MAX", type := .long, accessFlags := 25, slot := 2, constantValue := 0 }, { name := "RANGE", type := (.object "java/lang/String"), accessFlags := 26, slot := 3, constantValue := 0 }]
  methods := #[k18m0, k18m1, k18m2, k18m3]
  instanceTypes := #[]
  staticTypes := #[.int, .long, .long, (.object "java/lang/String")]
  resolved := Array.replicate 148 none
  statics := none }

def pool19 : Array CpInfo := pool [(1, .class_ 2), (0, u "com/example/uncross/uncross/engine/BookSide"), (0, .methodref 4 5), (0, .class_ 6), (0, .nameAndType 7 8), (0, u "java/lang/Object"), (0, u "<init>"), (0, u "()V"), (0, .class_ 10), (0, u "com/example/uncross/uncross/engine/BookSide$Level"), (0, .methodref 9 12), (0, .nameAndType 7 13), (0, u "(J)V"), (0, .fieldref 1 15), (0, .nameAndType 16 17), (0, u "markets"), (0, u "Lcom/example/uncross/uncross/engine/BookSide$Level;"), (0, .fieldref 1 19), (0, .nameAndType 20 21), (0, u "levels"), (0, u "[Lcom/example/uncross/uncross/engine/BookSide$Level;"), (0, .fieldref 1 23), (0, .nameAndType 24 25), (0, u "keys"), (0, u "[J"), (0, .fieldref 1 27), (0, .nameAndType 28 29), (0, u "levelCount"), (0, u "I"), (0, .class_ 31), (0, u "java/util/TreeMap"), (0, .methodref 30 5), (0, .fieldref 1 34), (0, .nameAndType 35 36), (0, u "deep"), (0, u "Ljava/util/TreeMap;"), (0, .fieldref 38 39), (0, .class_ 40), (0, .nameAndType 41 42), (0, u "com/example/uncross/uncross/model/Side"), (0, u "BUY"), (0, u "Lcom/example/uncross/uncross/model/Side;"), (0, .fieldref 1 44), (0, .nameAndType 45 46), (0, u "buying"), (0, u "Z"), (2, .long 9223372036854775808), (1, .fieldref 9 52), (0, .nameAndType 53 54), (0, u "first"), (0, u "Lcom/example/uncross/uncross/engine/BookSide$Resting;"), (0, .fieldref 56 57), (0, .class_ 58), (0, .nameAndType 59 54), (0, u "com/example/uncross/uncross/engine/BookSide$Resting"), (0, u "behind"), (0, .fieldref 56 61), (0, .nameAndType 62 17), (0, u "level"), (0, .fieldref 9 64), (0, .nameAndType 35 46), (0, .fieldref 9 66), (0, .nameAndType 67 68), (0, u "key"), (0, u "J"), (12, .methodref 1 82), (0, .nameAndType 83 84), (0, u "atOrBelow"), (0, u "(J)I"), (4, .methodref 90 91), (0, .class_ 92), (0, .nameAndType 93 94), (0, u "com/example/uncross/uncross/model/Order"), (0, u "isMarket"), (0, u "()Z"), (0, .methodref 90 96), (0, .nameAndType 97 98), (0, u "limit"), (0, u "()Ljava/util/OptionalLong;"), (0, .methodref 100 101), (0, .class_ 102), (0, .nameAndType 103 104), (0, u "java/util/OptionalLong"), (0, u "getAsLong"), (0, u "()J"), (0, .methodref 1 106), (0, .nameAndType 107 108), (0, u "keyOf"), (0, u "(J)J"), (10, .fieldref 56 120), (0, .nameAndType 121 122), (0, u "order"), (0, u "Lcom/example/uncross/uncross/model/Order;"), (0, .methodref 1 124), (0, .nameAndType 125 126), (0, u "levelFor"), (0, u "(J)Lcom/example/uncross/uncross/engine/BookSide$Level;"), (0, .fieldref 9 128), (0, .nameAndType 129 54), (0, u "last"), (0, .fieldref 56 131), (0, .nameAndType 132 54), (0, u "ahead"), (2, u "remove"), (1, .fieldref 1 138), (0, .nameAndType 139 29), (0, u "emptyLevels"), (3, .methodref 30 144), (0, .nameAndType 145 94), (0, u "isEmpty"), (10, .class_ 158), (1, u "java/lang/Math"), (1, u "(II)I"), (10, .methodref 172 173), (0, .class_ 174), (0, .nameAndType 175 176), (0, u "java/lang/System"), (0, u "arraycopy"), (0, u "(Ljava/lang/Object;ILjava/lang/Object;II)V"), (24, .methodref 156 202), (0, .nameAndType 203 160), (0, u "max"), (0, u "INITIAL_LEVELS"), (2, u "MIN_EMPTY_TO_COMPACT"), (1, u "MAX_LEVELS"), (1, u "LEVELS_RAISED"), (3, u "(Lcom/example/uncross/uncross/model/Side;)V"), (3, u "()Lcom/example/uncross/uncross/engine/BookSide$Resting;"), (5, u "add"), (0, u "(Lcom/example/uncross/uncross/engine/BookSide$Resting;)V")] 10

def k19c0 : Code := { maxStack := 6, maxLocals := 2, code := prog_15_method_1_code, exceptionTable := #[], attributes := #[] }
def k19m0 : Method := { name := "<init>", desc := "(Lcom/example/uncross/uncross/model/Side;)V", sig := { parameters := [(.object "com/example/uncross/uncross/model/Side")], returnType := none }, accessFlags := 0, code := some k19c0 }
def k19c1 : Code := { maxStack := 3, maxLocals := 1, code := prog_15_method_3_code, exceptionTable := #[], attributes := #[] }
def k19m1 : Method := { name := "first", desc := "()Lcom/example/uncross/uncross/engine/BookSide$Resting;", sig := { parameters := [], returnType := some (.object "com/example/uncross/uncross/engine/BookSide$Resting") }, accessFlags := 0, code := some k19c1 }
def k19c2 : Code := { maxStack := 3, maxLocals := 3, code := prog_15_method_7_code, exceptionTable := #[], attributes := #[] }
def k19m2 : Method := { name := "add", desc := "(Lcom/example/uncross/uncross/engine/BookSide$Resting;)V", sig := { parameters := [(.object "com/example/uncross/uncross/engine/BookSide$Resting")], returnType := none }, accessFlags := 0, code := some k19c2 }
def k19c3 : Code := { maxStack := 4, maxLocals := 3, code := prog_15_method_8_code, exceptionTable := #[], attributes := #[] }
def k19m3 : Method := { name := "remove", desc := "(Lcom/example/uncross/uncross/engine/BookSide$Resting;)V", sig := { parameters := [(.object "com/example/uncross/uncross/engine/BookSide$Resting")], returnType := none }, accessFlags := 0, code := some k19c3 }
def k19c4 : Code := { maxStack := 6, maxLocals := 8, code := prog_15_method_9_code, exceptionTable := #[], attributes := #[] }
def k19m4 : Method := { name := "levelFor", desc := "(J)Lcom/example/uncross/uncross/engine/BookSide$Level;", sig := { parameters := [.long], returnType := some (.object "com/example/uncross/uncross/engine/BookSide$Level") }, accessFlags := 2, code := some k19c4 }
def k19c5 : Code := { maxStack := 4, maxLocals := 7, code := prog_15_method_15_code, exceptionTable := #[], attributes := #[] }
def k19m5 : Method := { name := "atOrBelow", desc := "(J)I", sig := { parameters := [.long], returnType := some .int }, accessFlags := 2, code := some k19c5 }
def k19c6 : Code := { maxStack := 2, maxLocals := 3, code := prog_15_method_16_code, exceptionTable := #[], attributes := #[] }
def k19m6 : Method := { name := "keyOf", desc := "(J)J", sig := { parameters := [.long], returnType := some .long }, accessFlags := 2, code := some k19c6 }
/-- com/example/uncross/uncross/engine/BookSide -/
def k19 : Class := { plain "com/example/uncross/uncross/engine/BookSide" (some 0) with
  accessFlags := 48
  interfaces := #[]
  cf := some (fileOf pool19 1 #[.nestMembers #[9, 56]] #[{ accessFlags := 0, nameIndex := 7, descriptorIndex := 215, attributes := #[] }, { accessFlags := 0, nameIndex := 53, descriptorIndex := 219, attributes := #[] }, { accessFlags := 0, nameIndex := 225, descriptorIndex := 226, attributes := #[] }, { accessFlags := 0, nameIndex := 135, descriptorIndex := 226, attributes := #[] }, { accessFlags := 2, nameIndex := 125, descriptorIndex := 126, attributes := #[] }, { accessFlags := 2, nameIndex := 83, descriptorIndex := 84, attributes := #[] }, { accessFlags := 2, nameIndex := 107, descriptorIndex := 108, attributes := #[] }] 48 4 #[] #[{ accessFlags := 26, nameIndex := 204, descriptorIndex := 29, attributes := #[] }, { accessFlags := 26, nameIndex := 207, descriptorIndex := 29, attributes := #[] }, { accessFlags := 26, nameIndex := 209, descriptorIndex := 29, attributes := #[] }, { accessFlags := 26, nameIndex := 211, descriptorIndex := 29, attributes := #[] }, { accessFlags := 18, nameIndex := 45, descriptorIndex := 46, attributes := #[] }, { accessFlags := 18, nameIndex := 16, descriptorIndex := 17, attributes := #[] }, { accessFlags := 2, nameIndex := 20, descriptorIndex := 21, attributes := #[] }, { accessFlags := 2, nameIndex := 24, descriptorIndex := 25, attributes := #[] }, { accessFlags := 2, nameIndex := 28, descriptorIndex := 29, attributes := #[] }, { accessFlags := 2, nameIndex := 139, descriptorIndex := 29, attributes := #[] }, { accessFlags := 18, nameIndex := 35, descriptorIndex := 36, attributes := #[] }])
  fields := #[{ name := "INITIAL_LEVELS", type := .int, accessFlags := 26, slot := 0, constantValue := 0 }, { name := "MIN_EMPTY_TO_COMPACT", type := .int, accessFlags := 26, slot := 1, constantValue := 0 }, { name := "MAX_LEVELS", type := .int, accessFlags := 26, slot := 2, constantValue := 0 }, { name := "LEVELS_RAISED", type := .int, accessFlags := 26, slot := 3, constantValue := 0 }, { name := "buying", type := .boolean, accessFlags := 18, slot := 0, constantValue := 0 }, { name := "markets", type := (.object "com/example/uncross/uncross/engine/BookSide$Level"), accessFlags := 18, slot := 1, constantValue := 0 }, { name := "levels", type := (.array (.object "com/example/uncross/uncross/engine/BookSide$Level")), accessFlags := 2, slot := 2, constantValue := 0 }, { name := "keys", type := (.array .long), accessFlags := 2, slot := 3, constantValue := 0 }, { name := "levelCount", type := .int, accessFlags := 2, slot := 4, constantValue := 0 }, { name := "emptyLevels", type := .int, accessFlags := 2, slot := 5, constantValue := 0 }, { name := "deep", type := (.object "java/util/TreeMap"), accessFlags := 18, slot := 6, constantValue := 0 }]
  methods := #[k19m0, k19m1, k19m2, k19m3, k19m4, k19m5, k19m6]
  instanceTypes := #[.boolean, (.object "com/example/uncross/uncross/engine/BookSide$Level"), (.array (.object "com/example/uncross/uncross/engine/BookSide$Level")), (.array .long), .int, .int, (.object "java/util/TreeMap")]
  staticTypes := #[.int, .int, .int, .int]
  resolved := ⟨List.replicate 55 none ++ some (.field 7 6) :: (List.replicate 4 none ++ some (.field 7 4) :: (List.replicate 69 none ++ some (.field 7 5) :: (List.replicate 106 none)))⟩
  statics := none }

def pool20 : Array CpInfo := pool [(1, .methodref 2 3), (0, .class_ 4), (0, .nameAndType 5 6), (0, u "java/lang/Object"), (0, u "<init>"), (0, u "()V"), (0, .fieldref 8 9), (0, .class_ 10), (0, .nameAndType 11 12), (0, u "com/example/uncross/uncross/engine/BookSide$Level"), (0, u "key"), (0, u "J"), (0, u "deep"), (0, u "Z"), (0, u "first"), (0, u "Lcom/example/uncross/uncross/engine/BookSide$Resting;"), (0, u "last"), (0, u "(J)V"), (5, .class_ 25), (0, u "com/example/uncross/uncross/engine/BookSide")] 5

def k20c0 : Code := { maxStack := 3, maxLocals := 3, code := prog_16_method_1_code, exceptionTable := #[], attributes := #[] }
def k20m0 : Method := { name := "<init>", desc := "(J)V", sig := { parameters := [.long], returnType := none }, accessFlags := 0, code := some k20c0 }
/-- com/example/uncross/uncross/engine/BookSide$Level -/
def k20 : Class := { plain "com/example/uncross/uncross/engine/BookSide$Level" (some 0) with
  accessFlags := 48
  interfaces := #[]
  cf := some (fileOf pool20 8 #[.nestHost 24] #[{ accessFlags := 0, nameIndex := 5, descriptorIndex := 18, attributes := #[] }] 48 2 #[] #[{ accessFlags := 16, nameIndex := 11, descriptorIndex := 12, attributes := #[] }, { accessFlags := 0, nameIndex := 13, descriptorIndex := 14, attributes := #[] }, { accessFlags := 0, nameIndex := 15, descriptorIndex := 16, attributes := #[] }, { accessFlags := 0, nameIndex := 17, descriptorIndex := 16, attributes := #[] }])
  fields := #[{ name := "key", type := .long, accessFlags := 16, slot := 0, constantValue := 0 }, { name := "deep", type := .boolean, accessFlags := 0, slot := 1, constantValue := 0 }, { name := "first", type := (.object "com/example/uncross/uncross/engine/BookSide$Resting"), accessFlags := 0, slot := 2, constantValue := 0 }, { name := "last", type := (.object "com/example/uncross/uncross/engine/BookSide$Resting"), accessFlags := 0, slot := 3, constantValue := 0 }]
  methods := #[k20m0]
  instanceTypes := #[.long, .boolean, (.object "com/example/uncross/uncross/engine/BookSide$Resting"), (.object "com/example/uncross/uncross/engine/BookSide$Resting")]
  staticTypes := #[]
  resolved := Array.replicate 31 none
  statics := none }

def pool21 : Array CpInfo := pool [(2, .class_ 4), (1, u "java/util/Map"), (31, .class_ 37), (0, u "java/util/Map$Entry"), (55, .class_ 94), (0, u "java/lang/Object")] 168

/-- java/util/Map -/
def k21 : Class := { plain "java/util/Map" (some 0) with
  accessFlags := 1537
  interfaces := #[]
  cf := some (fileOf pool21 2 #[.nestMembers #[36]] #[] 1537 93 #[] #[])
  fields := #[]
  methods := #[]
  instanceTypes := #[]
  staticTypes := #[]
  resolved := Array.replicate 263 none
  statics := none }

def pool22 : Array CpInfo := pool [(1, .methodref 2 3), (0, .class_ 4), (0, .nameAndType 5 6), (0, u "java/lang/Object"), (0, u "<init>"), (0, u "()V"), (1, .class_ 10), (1, u "java/util/AbstractMap"), (4, .nameAndType 17 18), (1, u "size"), (0, u "()I"), (0, .methodref 8 15), (9, u "()Z"), (23, .class_ 54), (0, u "java/util/Map"), (9, u "keySet"), (0, u "Ljava/util/Set;"), (0, .class_ 67), (0, u "java/util/AbstractMap$1"), (5, u "values"), (0, u "Ljava/util/Collection;"), (0, .class_ 76), (0, u "java/util/AbstractMap$2"), (47, u "isEmpty"), (56, .class_ 182), (0, u "java/util/AbstractMap$ViewCollection"), (0, .class_ 184), (0, u "java/util/AbstractMap$SimpleImmutableEntry"), (0, .class_ 186), (0, u "java/util/AbstractMap$SimpleEntry"), (0, .class_ 188), (0, u "java/util/AbstractMap$2$1"), (0, .class_ 190), (0, u "java/util/AbstractMap$1$1")] 5

def k22c0 : Code := { maxStack := 1, maxLocals := 1, code := jdk_71_method_1_code, exceptionTable := #[], attributes := #[] }
def k22m0 : Method := { name := "<init>", desc := "()V", sig := { parameters := [], returnType := none }, accessFlags := 4, code := some k22c0 }
def k22c1 : Code := { maxStack := 1, maxLocals := 1, code := ⟨#[0x2a, 0xb6, 0x00, 0x07, 0xb9, 0x00, 0x0d, 0x01, 0x00, 0xac]⟩, exceptionTable := #[], attributes := #[] }
def k22m1 : Method := { name := "size", desc := "()I", sig := { parameters := [], returnType := some .int }, accessFlags := 1, code := some k22c1 }
def k22c2 : Code := { maxStack := 1, maxLocals := 1, code := jdk_71_method_3_code, exceptionTable := #[], attributes := #[] }
def k22m2 : Method := { name := "isEmpty", desc := "()Z", sig := { parameters := [], returnType := some .boolean }, accessFlags := 1, code := some k22c2 }
/-- java/util/AbstractMap -/
def k22 : Class := { plain "java/util/AbstractMap" (some 0) with
  accessFlags := 1057
  interfaces := #[21]
  cf := some (fileOf pool22 8 #[.nestMembers #[181, 183, 185, 75, 187, 66, 189]] #[{ accessFlags := 4, nameIndex := 5, descriptorIndex := 6, attributes := #[] }, { accessFlags := 1, nameIndex := 17, descriptorIndex := 18, attributes := #[] }, { accessFlags := 1, nameIndex := 124, descriptorIndex := 29, attributes := #[] }] 1057 2 #[53] #[{ accessFlags := 128, nameIndex := 64, descriptorIndex := 65, attributes := #[] }, { accessFlags := 128, nameIndex := 73, descriptorIndex := 74, attributes := #[] }])
  fields := #[{ name := "keySet", type := (.object "java/util/Set"), accessFlags := 128, slot := 0, constantValue := 0 }, { name := "values", type := (.object "java/util/Collection"), accessFlags := 128, slot := 1, constantValue := 0 }]
  methods := #[k22m0, k22m1, k22m2]
  instanceTypes := #[(.object "java/util/Set"), (.object "java/util/Collection")]
  staticTypes := #[]
  resolved := Array.replicate 196 none
  statics := none }

def pool23 : Array CpInfo := pool [(2, .class_ 4), (1, u "java/util/SequencedMap"), (38, .class_ 44), (0, u "java/util/SequencedMap$1SeqKeySet"), (3, .class_ 49), (0, u "java/util/SequencedMap$1SeqValues"), (1, .class_ 52), (0, u "java/util/SequencedMap$1SeqEntrySet"), (1, .class_ 55), (0, u "java/lang/Object"), (0, .class_ 57), (0, u "java/util/Map")] 48

/-- java/util/SequencedMap -/
def k23 : Class := { plain "java/util/SequencedMap" (some 0) with
  accessFlags := 1537
  interfaces := #[21]
  cf := some (fileOf pool23 2 #[.nestMembers #[51, 48, 43]] #[] 1537 54 #[56] #[])
  fields := #[]
  methods := #[]
  instanceTypes := #[]
  staticTypes := #[]
  resolved := Array.replicate 106 none
  statics := none }

def pool24 : Array CpInfo := pool [(14, .class_ 16), (1, u "java/util/SortedMap"), (2, .class_ 20), (0, u "java/lang/Object"), (0, .class_ 22), (0, u "java/util/SequencedMap")] 50

/-- java/util/SortedMap -/
def k24 : Class := { plain "java/util/SortedMap" (some 0) with
  accessFlags := 1537
  interfaces := #[23]
  cf := some (fileOf pool24 14 #[] #[] 1537 19 #[21] #[])
  fields := #[]
  methods := #[]
  instanceTypes := #[]
  staticTypes := #[]
  resolved := Array.replicate 73 none
  statics := none }

def pool25 : Array CpInfo := pool [(2, .class_ 4), (1, u "java/util/NavigableMap"), (5, .class_ 11), (0, u "java/lang/Object"), (0, .class_ 13), (0, u "java/util/SortedMap")] 53

/-- java/util/NavigableMap -/
def k25 : Class := { plain "java/util/NavigableMap" (some 0) with
  accessFlags := 1537
  interfaces := #[24]
  cf := some (fileOf pool25 2 #[] #[] 1537 10 #[12] #[])
  fields := #[]
  methods := #[]
  instanceTypes := #[]
  staticTypes := #[]
  resolved := Array.replicate 67 none
  statics := none }

def pool26 : Array CpInfo := pool [(1, .class_ 2), (0, u "java/lang/Cloneable"), (0, .class_ 4), (0, u "java/lang/Object")] 2

/-- java/lang/Cloneable -/
def k26 : Class := { plain "java/lang/Cloneable" (some 0) with
  accessFlags := 1537
  interfaces := #[]
  cf := some (fileOf pool26 1 #[] #[] 1537 3 #[] #[])
  fields := #[]
  methods := #[]
  instanceTypes := #[]
  staticTypes := #[]
  resolved := Array.replicate 7 none
  statics := none }

def pool27 : Array CpInfo := pool [(1, .methodref 2 3), (0, .class_ 4), (0, .nameAndType 5 6), (0, u "java/util/AbstractMap"), (0, u "<init>"), (0, u "()V"), (0, .fieldref 8 9), (0, .class_ 10), (0, .nameAndType 11 12), (0, u "java/util/TreeMap"), (0, u "size"), (0, u "I"), (0, .fieldref 8 14), (0, .nameAndType 15 12), (0, u "modCount"), (0, .fieldref 8 17), (0, .nameAndType 18 19), (0, u "comparator"), (0, u "Ljava/util/Comparator;"), (11, u "()I"), (2, u "entrySet"), (24, .class_ 61), (1, u "java/util/TreeMap$Entry"), (1, u "Ljava/lang/Object;"), (39, u "root"), (0, u "Ljava/util/TreeMap$Entry;"), (85, u "Ljava/util/TreeMap$EntrySet;"), (2, u "navigableKeySet"), (0, u "Ljava/util/TreeMap$KeySet;"), (2, u "descendingMap"), (0, u "Ljava/util/NavigableMap;"), (23, .class_ 223), (0, u "java/util/TreeMap$KeySet"), (7, .class_ 232), (0, u "java/util/NavigableMap"), (4, .class_ 238), (0, u "java/util/TreeMap$Values"), (3, .class_ 243), (0, u "java/util/TreeMap$EntrySet"), (1, .class_ 246), (0, u "java/util/TreeMap$DescendingSubMap"), (3, .class_ 251), (0, u "java/util/TreeMap$AscendingSubMap"), (17, .class_ 270), (0, u "java/util/TreeMap$KeyIterator"), (3, .class_ 275), (0, u "java/util/TreeMap$DescendingKeyIterator"), (17, u "Z"), (94, .class_ 389), (0, u "java/util/TreeMap$NavigableSubMap"), (1, .class_ 392), (0, u "java/util/TreeMap$KeySpliterator"), (3, .class_ 397), (0, u "java/util/TreeMap$DescendingKeySpliterator"), (4, u "UNBOUNDED"), (0, .class_ 404), (0, u "java/lang/Cloneable"), (0, .class_ 406), (0, u "java/io/Serializable"), (6, u "RED"), (2, u "BLACK"), (1, u "serialVersionUID"), (0, u "J"), (214, .class_ 635), (0, u "java/util/TreeMap$EntrySpliterator"), (0, .class_ 637), (0, u "java/util/TreeMap$ValueSpliterator"), (0, .class_ 639), (0, u "java/util/TreeMap$TreeMapSpliterator"), (0, .class_ 641), (0, u "java/util/TreeMap$SubMap"), (0, .class_ 643), (0, u "java/util/TreeMap$DescendingSubMap$DescendingEntrySetView"), (0, .class_ 645), (0, u "java/util/TreeMap$AscendingSubMap$AscendingEntrySetView"), (0, .class_ 647), (0, u "java/util/TreeMap$NavigableSubMap$DescendingSubMapKeyIterator"), (0, .class_ 649), (0, u "java/util/TreeMap$NavigableSubMap$SubMapKeyIterator"), (0, .class_ 651), (0, u "java/util/TreeMap$NavigableSubMap$DescendingSubMapEntryIterator"), (0, .class_ 653), (0, u "java/util/TreeMap$NavigableSubMap$SubMapEntryIterator"), (0, .class_ 655), (0, u "java/util/TreeMap$NavigableSubMap$SubMapIterator"), (0, .class_ 657), (0, u "java/util/TreeMap$NavigableSubMap$EntrySetView"), (0, .class_ 659), (0, u "java/util/TreeMap$ValueIterator"), (0, .class_ 661), (0, u "java/util/TreeMap$EntryIterator"), (0, .class_ 663), (0, u "java/util/TreeMap$PrivateEntryIterator")] 28

def k27c0 : Code := { maxStack := 2, maxLocals := 1, code := jdk_2729_method_1_code, exceptionTable := #[], attributes := #[] }
def k27m0 : Method := { name := "<init>", desc := "()V", sig := { parameters := [], returnType := none }, accessFlags := 1, code := some k27c0 }
def k27c1 : Code := { maxStack := 1, maxLocals := 1, code := jdk_2729_method_5_code, exceptionTable := #[], attributes := #[] }
def k27m1 : Method := { name := "size", desc := "()I", sig := { parameters := [], returnType := some .int }, accessFlags := 1, code := some k27c1 }
/-- java/util/TreeMap -/
def k27 : Class := { plain "java/util/TreeMap" (some 22) with
  accessFlags := 33
  interfaces := #[25, 26, 4]
  cf := some (fileOf pool27 8 #[.nestMembers #[634, 636, 396, 391, 638, 59, 640, 245, 642, 250, 644, 388, 646, 648, 650, 652, 654, 656, 274, 269, 658, 660, 662, 222, 242, 237]] #[{ accessFlags := 1, nameIndex := 5, descriptorIndex := 6, attributes := #[] }, { accessFlags := 1, nameIndex := 11, descriptorIndex := 31, attributes := #[] }] 33 2 #[231, 403, 405] #[{ accessFlags := 18, nameIndex := 18, descriptorIndex := 19, attributes := #[] }, { accessFlags := 130, nameIndex := 103, descriptorIndex := 104, attributes := #[] }, { accessFlags := 130, nameIndex := 11, descriptorIndex := 12, attributes := #[] }, { accessFlags := 130, nameIndex := 15, descriptorIndex := 12, attributes := #[] }, { accessFlags := 130, nameIndex := 34, descriptorIndex := 190, attributes := #[] }, { accessFlags := 130, nameIndex := 193, descriptorIndex := 194, attributes := #[] }, { accessFlags := 130, nameIndex := 197, descriptorIndex := 198, attributes := #[] }, { accessFlags := 26, nameIndex := 402, descriptorIndex := 63, attributes := #[] }, { accessFlags := 26, nameIndex := 413, descriptorIndex := 293, attributes := #[] }, { accessFlags := 26, nameIndex := 416, descriptorIndex := 293, attributes := #[] }, { accessFlags := 26, nameIndex := 418, descriptorIndex := 419, attributes := #[] }])
  fields := #[{ name := "comparator", type := (.object "java/util/Comparator"), accessFlags := 18, slot := 2, constantValue := 0 }, { name := "root", type := (.object "java/util/TreeMap$Entry"), accessFlags := 130, slot := 3, constantValue := 0 }, { name := "size", type := .int, accessFlags := 130, slot := 4, constantValue := 0 }, { name := "modCount", type := .int, accessFlags := 130, slot := 5, constantValue := 0 }, { name := "entrySet", type := (.object "java/util/TreeMap$EntrySet"), accessFlags := 130, slot := 6, constantValue := 0 }, { name := "navigableKeySet", type := (.object "java/util/TreeMap$KeySet"), accessFlags := 130, slot := 7, constantValue := 0 }, { name := "descendingMap", type := (.object "java/util/NavigableMap"), accessFlags := 130, slot := 8, constantValue := 0 }, { name := "UNBOUNDED", type := (.object "java/lang/Object"), accessFlags := 26, slot := 0, constantValue := 0 }, { name := "RED", type := .boolean, accessFlags := 26, slot := 1, constantValue := 0 }, { name := "BLACK", type := .boolean, accessFlags := 26, slot := 2, constantValue := 0 }, { name := "serialVersionUID", type := .long, accessFlags := 26, slot := 3, constantValue := 0 }]
  methods := #[k27m0, k27m1]
  instanceTypes := #[(.object "java/util/Set"), (.object "java/util/Collection"), (.object "java/util/Comparator"), (.object "java/util/TreeMap$Entry"), .int, .int, (.object "java/util/TreeMap$EntrySet"), (.object "java/util/TreeMap$KeySet"), (.object "java/util/NavigableMap")]
  staticTypes := #[(.object "java/lang/Object"), .boolean, .boolean, .long]
  resolved := Array.replicate 692 none
  statics := none }

def pool28 : Array CpInfo := pool [(2, .class_ 4), (1, u "java/lang/Object"), (0, u "<init>"), (0, u "()V"), (1, .class_ 10), (1, u "java/lang/System"), (0, u "allowSecurityManager"), (0, u "I"), (16, u "cons"), (0, u "Ljava/io/Console;"), (77, .class_ 110), (1, u "java/lang/System$CallersHolder"), (43, u "initialErrStream"), (0, u "Ljava/io/PrintStream;"), (19, u "security"), (0, u "Ljava/lang/SecurityManager;"), (31, .class_ 209), (0, u "java/lang/System$1"), (7, u "props"), (0, u "Ljava/util/Properties;"), (2, u "lineSeparator"), (0, u "Ljava/lang/String;"), (96, .class_ 321), (1, u "java/lang/System$LoggerFinder"), (5, .class_ 328), (0, u "java/lang/System$Logger"), (67, u "err"), (2, u "out"), (91, u "notSupportedJnuEncoding"), (15, u "in"), (17, u "initialIn"), (0, u "Ljava/io/InputStream;"), (35, u "bootLayer"), (0, u "Ljava/lang/ModuleLayer;"), (99, .class_ 664), (0, u "java/lang/System$2"), (9, u "NEVER"), (2, u "MAYBE"), (49, u "arraycopy"), (0, u "(Ljava/lang/Object;ILjava/lang/Object;II)V"), (72, .class_ 802), (0, u "java/lang/System$Logger$Level")] 31

def k28m0 : Method := { name := "<init>", desc := "()V", sig := { parameters := [], returnType := none }, accessFlags := 2, code := none }
def k28m1 : Method := { name := "arraycopy", desc := "(Ljava/lang/Object;ILjava/lang/Object;II)V", sig := { parameters := [(.object "java/lang/Object"), .int, (.object "java/lang/Object"), .int, .int], returnType := none }, accessFlags := 265, code := none }
/-- java/lang/System -/
def k28 : Class := { plain "java/lang/System" (some 0) with
  accessFlags := 49
  interfaces := #[]
  cf := some (fileOf pool28 8 #[.nestMembers #[319, 327, 801, 108, 663, 208]] #[{ accessFlags := 2, nameIndex := 5, descriptorIndex := 6, attributes := #[] }, { accessFlags := 265, nameIndex := 727, descriptorIndex := 728, attributes := #[] }] 49 2 #[] #[{ accessFlags := 25, nameIndex := 507, descriptorIndex := 526, attributes := #[] }, { accessFlags := 25, nameIndex := 399, descriptorIndex := 155, attributes := #[] }, { accessFlags := 25, nameIndex := 396, descriptorIndex := 155, attributes := #[] }, { accessFlags := 10, nameIndex := 525, descriptorIndex := 526, attributes := #[] }, { accessFlags := 26, nameIndex := 674, descriptorIndex := 12, attributes := #[] }, { accessFlags := 26, nameIndex := 677, descriptorIndex := 12, attributes := #[] }, { accessFlags := 10, nameIndex := 11, descriptorIndex := 12, attributes := #[] }, { accessFlags := 74, nameIndex := 175, descriptorIndex := 176, attributes := #[] }, { accessFlags := 10, nameIndex := 491, descriptorIndex := 222, attributes := #[] }, { accessFlags := 74, nameIndex := 29, descriptorIndex := 30, attributes := #[] }, { accessFlags := 74, nameIndex := 154, descriptorIndex := 155, attributes := #[] }, { accessFlags := 10, nameIndex := 217, descriptorIndex := 218, attributes := #[] }, { accessFlags := 10, nameIndex := 221, descriptorIndex := 222, attributes := #[] }, { accessFlags := 8, nameIndex := 562, descriptorIndex := 563, attributes := #[] }])
  fields := #[{ name := "in", type := (.object "java/io/InputStream"), accessFlags := 25, slot := 0, constantValue := 0 }, { name := "out", type := (.object "java/io/PrintStream"), accessFlags := 25, slot := 1, constantValue := 0 }, { name := "err", type := (.object "java/io/PrintStream"), accessFlags := 25, slot := 2, constantValue := 0 }, { name := "initialIn", type := (.object "java/io/InputStream"), accessFlags := 10, slot := 3, constantValue := 0 }, { name := "NEVER", type := .int, accessFlags := 26, slot := 4, constantValue := 0 }, { name := "MAYBE", type := .int, accessFlags := 26, slot := 5, constantValue := 0 }, { name := "allowSecurityManager", type := .int, accessFlags := 10, slot := 6, constantValue := 0 }, { name := "security", type := (.object "java/lang/SecurityManager"), accessFlags := 74, slot := 7, constantValue := 0 }, { name := "notSupportedJnuEncoding", type := (.object "java/lang/String"), accessFlags := 10, slot := 8, constantValue := 0 }, { name := "cons", type := (.object "java/io/Console"), accessFlags := 74, slot := 9, constantValue := 0 }, { name := "initialErrStream", type := (.object "java/io/PrintStream"), accessFlags := 74, slot := 10, constantValue := 0 }, { name := "props", type := (.object "java/util/Properties"), accessFlags := 10, slot := 11, constantValue := 0 }, { name := "lineSeparator", type := (.object "java/lang/String"), accessFlags := 10, slot := 12, constantValue := 0 }, { name := "bootLayer", type := (.object "java/lang/ModuleLayer"), accessFlags := 8, slot := 13, constantValue := 0 }]
  methods := #[k28m0, k28m1]
  instanceTypes := #[]
  staticTypes := #[(.object "java/io/InputStream"), (.object "java/io/PrintStream"), (.object "java/io/PrintStream"), (.object "java/io/InputStream"), .int, .int, .int, (.object "java/lang/SecurityManager"), (.object "java/lang/String"), (.object "java/io/Console"), (.object "java/io/PrintStream"), (.object "java/util/Properties"), (.object "java/lang/String"), (.object "java/lang/ModuleLayer")]
  resolved := Array.replicate 834 none
  statics := none }

def pool29 : Array CpInfo := pool [(1, .class_ 2), (0, u "java/lang/Math"), (1, .class_ 6), (1, u "java/lang/Object"), (0, u "<init>"), (0, u "()V"), (89, .class_ 100), (1, u "java/lang/Math$RandomNumberGeneratorHolder"), (71, u "negativeZeroFloatBits"), (0, u "J"), (2, u "negativeZeroDoubleBits"), (21, u "max"), (46, u "$assertionsDisabled"), (0, u "Z"), (88, u "(II)I"), (2, u "twoToTheDoubleScaleDown"), (0, u "D"), (4, u "twoToTheDoubleScaleUp"), (9, u "E"), (3, u "PI"), (2, u "TAU"), (2, u "DEGREES_TO_RADIANS"), (0, u "RADIANS_TO_DEGREES")] 94

def k29m0 : Method := { name := "<init>", desc := "()V", sig := { parameters := [], returnType := none }, accessFlags := 2, code := none }
def k29c1 : Code := { maxStack := 2, maxLocals := 2, code := jdk_29_method_65_code, exceptionTable := #[], attributes := #[] }
def k29m1 : Method := { name := "max", desc := "(II)I", sig := { parameters := [.int, .int], returnType := some .int }, accessFlags := 9, code := some k29c1 }
/-- java/lang/Math -/
def k29 : Class := { plain "java/lang/Math" (some 0) with
  accessFlags := 49
  interfaces := #[]
  cf := some (fileOf pool29 1 #[.nestMembers #[98]] #[{ accessFlags := 2, nameIndex := 7, descriptorIndex := 8, attributes := #[] }, { accessFlags := 9, nameIndex := 198, descriptorIndex := 335, attributes := #[] }] 49 4 #[] #[{ accessFlags := 25, nameIndex := 354, descriptorIndex := 339, attributes := #[] }, { accessFlags := 25, nameIndex := 358, descriptorIndex := 339, attributes := #[] }, { accessFlags := 25, nameIndex := 361, descriptorIndex := 339, attributes := #[] }, { accessFlags := 26, nameIndex := 364, descriptorIndex := 339, attributes := #[] }, { accessFlags := 26, nameIndex := 365, descriptorIndex := 339, attributes := #[] }, { accessFlags := 26, nameIndex := 172, descriptorIndex := 173, attributes := #[] }, { accessFlags := 26, nameIndex := 176, descriptorIndex := 173, attributes := #[] }, { accessFlags := 8, nameIndex := 344, descriptorIndex := 339, attributes := #[] }, { accessFlags := 8, nameIndex := 338, descriptorIndex := 339, attributes := #[] }, { accessFlags := 4120, nameIndex := 245, descriptorIndex := 246, attributes := #[] }])
  fields := #[{ name := "E", type := .double, accessFlags := 25, slot := 0, constantValue := 0 }, { name := "PI", type := .double, accessFlags := 25, slot := 1, constantValue := 0 }, { name := "TAU", type := .double, accessFlags := 25, slot := 2, constantValue := 0 }, { name := "DEGREES_TO_RADIANS", type := .double, accessFlags := 26, slot := 3, constantValue := 0 }, { name := "RADIANS_TO_DEGREES", type := .double, accessFlags := 26, slot := 4, constantValue := 0 }, { name := "negativeZeroFloatBits", type := .long, accessFlags := 26, slot := 5, constantValue := 0 }, { name := "negativeZeroDoubleBits", type := .long, accessFlags := 26, slot := 6, constantValue := 0 }, { name := "twoToTheDoubleScaleUp", type := .double, accessFlags := 8, slot := 7, constantValue := 0 }, { name := "twoToTheDoubleScaleDown", type := .double, accessFlags := 8, slot := 8, constantValue := 0 }, { name := "$assertionsDisabled", type := .boolean, accessFlags := 4120, slot := 9, constantValue := 0 }]
  methods := #[k29m0, k29m1]
  instanceTypes := #[]
  staticTypes := #[.double, .double, .double, .double, .double, .long, .long, .double, .double, .boolean]
  resolved := Array.replicate 460 none
  statics := none }

def pool30 : Array CpInfo := pool [(9, u "<init>"), (6, .class_ 18), (1, u "java/lang/Object"), (0, u "()V"), (1, .class_ 23), (1, u "jdk/internal/util/ArraysSupport"), (0, u "LOG2_ARRAY_LONG_INDEX_SCALE"), (0, u "I"), (2, u "U"), (0, u "Ljdk/internal/misc/Unsafe;"), (8, u "BIG_ENDIAN"), (0, u "Z"), (8, u "LOG2_BYTE_BIT_SIZE"), (4, u "LOG2_ARRAY_INT_INDEX_SCALE"), (54, u "JLA"), (0, u "Ljdk/internal/access/JavaLangAccess;"), (11, u "LOG2_ARRAY_BOOLEAN_INDEX_SCALE"), (9, u "LOG2_ARRAY_BYTE_INDEX_SCALE"), (5, u "LOG2_ARRAY_CHAR_INDEX_SCALE"), (5, u "LOG2_ARRAY_SHORT_INDEX_SCALE"), (18, u "LOG2_ARRAY_FLOAT_INDEX_SCALE"), (24, u "LOG2_ARRAY_DOUBLE_INDEX_SCALE"), (89, u "T_BOOLEAN"), (2, u "T_CHAR"), (1, u "T_FLOAT"), (1, u "T_DOUBLE"), (1, u "T_BYTE"), (1, u "T_SHORT"), (1, u "T_INT"), (1, u "T_LONG"), (1, u "SOFT_MAX_ARRAY_LENGTH")] 83

def k30m0 : Method := { name := "<init>", desc := "()V", sig := { parameters := [], returnType := none }, accessFlags := 2, code := none }
/-- jdk/internal/util/ArraysSupport -/
def k30 : Class := { plain "jdk/internal/util/ArraysSupport" (some 0) with
  accessFlags := 33
  interfaces := #[]
  cf := some (fileOf pool30 21 #[] #[{ accessFlags := 2, nameIndex := 9, descriptorIndex := 19, attributes := #[] }] 33 16 #[] #[{ accessFlags := 24, nameIndex := 28, descriptorIndex := 29, attributes := #[] }, { accessFlags := 26, nameIndex := 38, descriptorIndex := 39, attributes := #[] }, { accessFlags := 25, nameIndex := 121, descriptorIndex := 25, attributes := #[] }, { accessFlags := 25, nameIndex := 131, descriptorIndex := 25, attributes := #[] }, { accessFlags := 25, nameIndex := 137, descriptorIndex := 25, attributes := #[] }, { accessFlags := 25, nameIndex := 143, descriptorIndex := 25, attributes := #[] }, { accessFlags := 25, nameIndex := 53, descriptorIndex := 25, attributes := #[] }, { accessFlags := 25, nameIndex := 24, descriptorIndex := 25, attributes := #[] }, { accessFlags := 25, nameIndex := 162, descriptorIndex := 25, attributes := #[] }, { accessFlags := 25, nameIndex := 187, descriptorIndex := 25, attributes := #[] }, { accessFlags := 26, nameIndex := 48, descriptorIndex := 25, attributes := #[] }, { accessFlags := 25, nameIndex := 277, descriptorIndex := 25, attributes := #[] }, { accessFlags := 25, nameIndex := 280, descriptorIndex := 25, attributes := #[] }, { accessFlags := 25, nameIndex := 282, descriptorIndex := 25, attributes := #[] }, { accessFlags := 25, nameIndex := 284, descriptorIndex := 25, attributes := #[] }, { accessFlags := 25, nameIndex := 286, descriptorIndex := 25, attributes := #[] }, { accessFlags := 25, nameIndex := 288, descriptorIndex := 25, attributes := #[] }, { accessFlags := 25, nameIndex := 290, descriptorIndex := 25, attributes := #[] }, { accessFlags := 25, nameIndex := 292, descriptorIndex := 25, attributes := #[] }, { accessFlags := 26, nameIndex := 108, descriptorIndex := 109, attributes := #[] }, { accessFlags := 25, nameIndex := 294, descriptorIndex := 25, attributes := #[] }])
  fields := #[{ name := "U", type := (.object "jdk/internal/misc/Unsafe"), accessFlags := 24, slot := 0, constantValue := 0 }, { name := "BIG_ENDIAN", type := .boolean, accessFlags := 26, slot := 1, constantValue := 0 }, { name := "LOG2_ARRAY_BOOLEAN_INDEX_SCALE", type := .int, accessFlags := 25, slot := 2, constantValue := 0 }, { name := "LOG2_ARRAY_BYTE_INDEX_SCALE", type := .int, accessFlags := 25, slot := 3, constantValue := 0 }, { name := "LOG2_ARRAY_CHAR_INDEX_SCALE", type := .int, accessFlags := 25, slot := 4, constantValue := 0 }, { name := "LOG2_ARRAY_SHORT_INDEX_SCALE", type := .int, accessFlags := 25, slot := 5, constantValue := 0 }, { name := "LOG2_ARRAY_INT_INDEX_SCALE", type := .int, accessFlags := 25, slot := 6, constantValue := 0 }, { name := "LOG2_ARRAY_LONG_INDEX_SCALE", type := .int, accessFlags := 25, slot := 7, constantValue := 0 }, { name := "LOG2_ARRAY_FLOAT_INDEX_SCALE", type := .int, accessFlags := 25, slot := 8, constantValue := 0 }, { name := "LOG2_ARRAY_DOUBLE_INDEX_SCALE", type := .int, accessFlags := 25, slot := 9, constantValue := 0 }, { name := "LOG2_BYTE_BIT_SIZE", type := .int, accessFlags := 26, slot := 10, constantValue := 0 }, { name := "T_BOOLEAN", type := .int, accessFlags := 25, slot := 11, constantValue := 0 }, { name := "T_CHAR", type := .int, accessFlags := 25, slot := 12, constantValue := 0 }, { name := "T_FLOAT", type := .int, accessFlags := 25, slot := 13, constantValue := 0 }, { name := "T_DOUBLE", type := .int, accessFlags := 25, slot := 14, constantValue := 0 }, { name := "T_BYTE", type := .int, accessFlags := 25, slot := 15, constantValue := 0 }, { name := "T_SHORT", type := .int, accessFlags := 25, slot := 16, constantValue := 0 }, { name := "T_INT", type := .int, accessFlags := 25, slot := 17, constantValue := 0 }, { name := "T_LONG", type := .int, accessFlags := 25, slot := 18, constantValue := 0 }, { name := "JLA", type := (.object "jdk/internal/access/JavaLangAccess"), accessFlags := 26, slot := 19, constantValue := 0 }, { name := "SOFT_MAX_ARRAY_LENGTH", type := .int, accessFlags := 25, slot := 20, constantValue := 0 }]
  methods := #[k30m0]
  instanceTypes := #[]
  staticTypes := #[(.object "jdk/internal/misc/Unsafe"), .boolean, .int, .int, .int, .int, .int, .int, .int, .int, .int, .int, .int, .int, .int, .int, .int, .int, .int, (.object "jdk/internal/access/JavaLangAccess"), .int]
  resolved := Array.replicate 378 none
  statics := none }

/-- the primitive boolean -/
def k31 : Class := { plain "boolean" none with kind := .primitive 'Z', accessFlags := 0x411 }
/-- [Z -/
def k32 : Class := { plain "[Z" (some 0) with kind := .array 31 .boolean, interfaces := #[26, 4], accessFlags := 1041 }

/-- the primitive byte -/
def k33 : Class := { plain "byte" none with kind := .primitive 'B', accessFlags := 0x411 }
/-- [B -/
def k34 : Class := { plain "[B" (some 0) with kind := .array 33 .byte, interfaces := #[26, 4], accessFlags := 1041 }

/-- the primitive int -/
def k35 : Class := { plain "int" none with kind := .primitive 'I', accessFlags := 0x411 }
/-- [I -/
def k36 : Class := { plain "[I" (some 0) with kind := .array 35 .int, interfaces := #[26, 4], accessFlags := 1041 }

/-- the primitive long -/
def k37 : Class := { plain "long" none with kind := .primitive 'J', accessFlags := 0x411 }
/-- [J -/
def k38 : Class := { plain "[J" (some 0) with kind := .array 37 .long, interfaces := #[26, 4], accessFlags := 1041 }

/-- [Lcom/example/uncross/uncross/engine/BookSide$Level; -/
def k39 : Class := { plain "[Lcom/example/uncross/uncross/engine/BookSide$Level;" (some 0) with kind := .array 20 (.object "com/example/uncross/uncross/engine/BookSide$Level"), interfaces := #[26, 4], accessFlags := 1041 }

def heap : Heap := #[{ cls := 6, slots := #[.ref 6, .ref 5, .null], vm := .statics 6 },
  { cls := 9, slots := #[.int 0, .ref 7], vm := .statics 9 },
  { cls := 12, slots := #[.long 0, .int 1, .null, .int 0, .null, .int 0, .int 0], vm := .statics 12 },
  { cls := 13, slots := #[.ref 8], vm := .statics 13 },
  { cls := 16, slots := #[.null, .null, .null], vm := .statics 16 },
  { cls := 6, slots := #[.null, .int 1, .int 0], vm := .none },
  { cls := 6, slots := #[.null, .int 0, .int 0], vm := .none },
  { cls := 32, slots := #[.int 0, .int 0, .int 0, .int 0, .int 0, .int 0, .int 0, .int 0, .int 0, .int 0, .int 0, .int 0, .int 0, .int 0, .int 0, .int 0, .int 0, .int 0, .int 0, .int 0, .int 0, .int 0, .int 0, .int 0, .int 0, .int 0, .int 0, .int 0, .int 0, .int 0, .int 0, .int 0, .int 0, .int 0, .int 0, .int 0, .int 0, .int 0, .int 0, .int 0, .int 0, .int 0, .int 0, .int 0, .int 0, .int 1, .int 0, .int 0, .int 1, .int 1, .int 1, .int 1, .int 1, .int 1, .int 1, .int 1, .int 1, .int 1, .int 0, .int 0, .int 0, .int 0, .int 0, .int 0, .int 0, .int 1, .int 1, .int 1, .int 1, .int 1, .int 1, .int 1, .int 1, .int 1, .int 1, .int 1, .int 1, .int 1, .int 1, .int 1, .int 1, .int 1, .int 1, .int 1, .int 1, .int 1, .int 1, .int 1, .int 1, .int 1, .int 1, .int 0, .int 0, .int 0, .int 0, .int 1, .int 0, .int 1, .int 1, .int 1, .int 1, .int 1, .int 1, .int 1, .int 1, .int 1, .int 1, .int 1, .int 1, .int 1, .int 1, .int 1, .int 1, .int 1, .int 1, .int 1, .int 1, .int 1, .int 1, .int 1, .int 1, .int 1, .int 1, .int 0, .int 0, .int 0, .int 0, .int 0], vm := .none },
  { cls := 13, slots := #[.int 0, .long 0], vm := .none }]
def classes : Array Class := #[k0, k1, k2, k3, k4, k5, k6, k7, k8, k9, k10, k11, k12, k13, k14, k15, k16, k17, k18, k19, k20, k21, k22, k23, k24, k25, k26, k27, k28, k29, k30, k31, k32, k33, k34, k35, k36, k37, k38, k39]
def interned : List (Array UInt16 × Addr) := []
def slotsUsed : Nat := 152
def theMethod : MethodId := ⟨1, 1⟩
def args0 : Array Value := #[.int 1, .long 2, .long 3, .long 4]
def aboutOver (below : List Frame) : State where
  vm := { classes := classes, interned := interned.toArray }
  heap := heap
  slotsUsed := slotsUsed
  threads := #[{ frames := .invoking theMethod args0 :: below }]
def below0 : List Frame := [.native { method := ⟨0, 0⟩, args := #[] }]
def about1 : State := aboutOver below0
def p0 : Program := .bare "" "" ""
def e0 : Env := launch0.env 0 0 0
theorem w_frames : about1.frames = Frame.invoking theMethod args0 :: below0 := rfl
set_option maxRecDepth 65536 in
theorem w_args : argsFit about1.vm theMethod args0 = true := by decide +kernel
set_option maxRecDepth 65536 in
theorem w_heap : heapFits about1 = true := by decide +kernel
set_option maxRecDepth 65536 in
theorem w_runnable : about1.curStatus? = some .runnable := by decide +kernel
set_option maxRecDepth 65536 in
theorem w_alone : about1.alone = true := by decide +kernel
set_option maxRecDepth 65536 in
theorem w_named : about1.methodNamed? x = some theMethod := by decide +kernel
set_option maxRecDepth 65536 in
theorem w_hears : about1.hears theMethod below0 = true := by decide +kernel
set_option maxRecDepth 65536 in
theorem w_ripe : about1.ripe theMethod args0 below0 = true := by decide +kernel
theorem w_running : about1.status = .running := rfl
set_option maxRecDepth 65536 in
theorem w_room : about1.hasRoom e0.platform room_1 = true :=
  launch0.hasRoom_least _ room_1 (by decide +kernel) (by decide +kernel) (by decide +kernel) (by decide +kernel) (by decide +kernel) (by decide +kernel)
theorem allAtoms_all (ts : List Jvm.Cond) (a : Array Jvm.Value) (st : Jvm.State) : (allAtoms ts).before a st = ts.all (fun c => c.before a st) := by
  induction ts with
  | nil => rfl
  | cons c t ih =>
    show (Jvm.Cond.and c (allAtoms t)).before a st = _
    rw [Jvm.Cond.before_and, ih, List.all_cons]
def words1 : List Jvm.Cond := Jvm.Cond.code x code maxLocals ret :: tables_1
/-- a 'code' word, met by the world's own term for the bytes: nothing is compared byte by byte -/
theorem code_word {y : MethodName} {bytes : ByteArray} {mx : Nat} {rt : Option FieldType} {a : Array Value} {s : State} {m : MethodId} {meth : Method} {c : Code} (h1 : s.methodNamed? y = some m) (h2 : s.vm.method? m = some meth) (h3 : meth.code = some c) (h4 : c.code = bytes)
    (h5 : (c.maxLocals == mx && c.exceptionTable.isEmpty && decide (c.maxStack ≤ mostOperands) && decide (meth.sig.returnType = rt) && !meth.locks && decide (parseMethodDescriptor y.desc = some meth.sig)) = true) : (Jvm.Cond.code y bytes mx rt).before a s = true := by
  simp only [Bool.and_eq_true, beq_iff_eq, Bool.not_eq_true', decide_eq_true_eq] at h5
  obtain ⟨⟨⟨⟨⟨g1, g2⟩, g3⟩, g4⟩, g5⟩, g6⟩ := h5
  simp [Cond.before, Cond.holds, Cond.value, h1, h2, h3, h4, g1, g2, g3, g4, g5, g6]
def isCode : Jvm.Cond → Bool
  | .code _ _ _ _ => true
  | _ => false
theorem all_split {L : List Jvm.Cond} {P : Jvm.Cond → Bool} (h1 : L.all (fun c => isCode c || P c) = true) (h2 : ∀ c ∈ L.filter isCode, P c = true) : L.all P = true := by
  refine List.all_eq_true.mpr fun c hc => ?_
  have h := List.all_eq_true.mp h1 c hc
  rcases Bool.eq_false_or_eq_true (isCode c) with hi | hi
  · exact h2 c (List.mem_filter.mpr ⟨hc, hi⟩)
  · simpa [hi] using h
set_option maxRecDepth 65536 in
theorem w_c0 : (Jvm.Cond.code x code maxLocals ret).before args0 about1 = true := code_word (m := ⟨1, 1⟩) (meth := k1m1) (c := k1c1) (by decide +kernel) rfl rfl rfl (by decide +kernel)
set_option maxRecDepth 65536 in
theorem w_c1 : (Jvm.Cond.code ({ cls := "com/example/uncross/uncross/engine/BookSideFirstPinLaw", name := "price", desc := "(J)J" } : Jvm.MethodName) method_3_code (2 : Nat) (Option.some Jvm.ClassFile.FieldType.long)).before args0 about1 = true := code_word (m := ⟨1, 2⟩) (meth := k1m2) (c := k1c2) (by decide +kernel) rfl rfl rfl (by decide +kernel)
set_option maxRecDepth 65536 in
theorem w_c2 : (Jvm.Cond.code ({ cls := "java/util/OptionalLong", name := "of", desc := "(J)Ljava/util/OptionalLong;" } : Jvm.MethodName) jdk_2650_method_4_code (2 : Nat) (Option.some (Jvm.ClassFile.FieldType.object "java/util/OptionalLong"))).before args0 about1 = true := code_word (m := ⟨13, 3⟩) (meth := k13m3) (c := k13c3) (by decide +kernel) rfl rfl rfl (by decide +kernel)
set_option maxRecDepth 65536 in
theorem w_c3 : (Jvm.Cond.code ({ cls := "java/util/OptionalLong", name := "<init>", desc := "(J)V" } : Jvm.MethodName) jdk_2650_method_3_code (3 : Nat) (Option.none : Option Jvm.ClassFile.FieldType)).before args0 about1 = true := code_word (m := ⟨13, 2⟩) (meth := k13m2) (c := k13c2) (by decide +kernel) rfl rfl rfl (by decide +kernel)
set_option maxRecDepth 65536 in
theorem w_c4 : (Jvm.Cond.code ({ cls := "java/lang/Object", name := "<init>", desc := "()V" } : Jvm.MethodName) object_method_1_code (1 : Nat) (Option.none : Option Jvm.ClassFile.FieldType)).before args0 about1 = true := code_word (m := ⟨0, 0⟩) (meth := k0m0) (c := k0c0) (by decide +kernel) rfl rfl rfl (by decide +kernel)
set_option maxRecDepth 65536 in
theorem w_c5 : (Jvm.Cond.code ({ cls := "com/example/uncross/uncross/model/Order", name := "<init>", desc := "(Ljava/lang/String;Lcom/example/uncross/uncross/model/Side;JLjava/util/OptionalLong;)V" } : Jvm.MethodName) prog_70_method_1_code (6 : Nat) (Option.none : Option Jvm.ClassFile.FieldType)).before args0 about1 = true := code_word (m := ⟨9, 0⟩) (meth := k9m0) (c := k9c0) (by decide +kernel) rfl rfl rfl (by decide +kernel)
set_option maxRecDepth 65536 in
theorem w_c6 : (Jvm.Cond.code ({ cls := "java/lang/Record", name := "<init>", desc := "()V" } : Jvm.MethodName) jdk_30_method_1_code (1 : Nat) (Option.none : Option Jvm.ClassFile.FieldType)).before args0 about1 = true := code_word (m := ⟨8, 0⟩) (meth := k8m0) (c := k8c0) (by decide +kernel) rfl rfl rfl (by decide +kernel)
set_option maxRecDepth 65536 in
theorem w_c7 : (Jvm.Cond.code ({ cls := "java/util/Objects", name := "requireNonNull", desc := "(Ljava/lang/Object;Ljava/lang/String;)Ljava/lang/Object;" } : Jvm.MethodName) jdk_31_method_11_code (2 : Nat) (Option.some (Jvm.ClassFile.FieldType.object "java/lang/Object"))).before args0 about1 = true := code_word (m := ⟨14, 1⟩) (meth := k14m1) (c := k14c1) (by decide +kernel) rfl rfl rfl (by decide +kernel)
set_option maxRecDepth 65536 in
theorem w_c8 : (Jvm.Cond.code ({ cls := "com/example/uncross/uncross/model/Order", name := "checkId", desc := "(Ljava/lang/String;)V" } : Jvm.MethodName) prog_70_method_4_code (1 : Nat) (Option.none : Option Jvm.ClassFile.FieldType)).before args0 about1 = true := code_word (m := ⟨9, 2⟩) (meth := k9m2) (c := k9c2) (by decide +kernel) rfl rfl rfl (by decide +kernel)
set_option maxRecDepth 65536 in
theorem w_c9 : (Jvm.Cond.code ({ cls := "com/example/uncross/uncross/model/Order", name := "isValidId", desc := "(Ljava/lang/String;)Z" } : Jvm.MethodName) prog_70_method_6_code (3 : Nat) (Option.some Jvm.ClassFile.FieldType.boolean)).before args0 about1 = true := code_word (m := ⟨9, 4⟩) (meth := k9m4) (c := k9c4) (by decide +kernel) rfl rfl rfl (by decide +kernel)
set_option maxRecDepth 65536 in
theorem w_c10 : (Jvm.Cond.code ({ cls := "java/lang/String", name := "isEmpty", desc := "()Z" } : Jvm.MethodName) jdk_42_method_55_code (1 : Nat) (Option.some Jvm.ClassFile.FieldType.boolean)).before args0 about1 = true := code_word (m := ⟨12, 2⟩) (meth := k12m2) (c := k12c2) (by decide +kernel) rfl rfl rfl (by decide +kernel)
set_option maxRecDepth 65536 in
theorem w_c11 : (Jvm.Cond.code ({ cls := "java/lang/String", name := "length", desc := "()I" } : Jvm.MethodName) jdk_42_method_54_code (1 : Nat) (Option.some Jvm.ClassFile.FieldType.int)).before args0 about1 = true := code_word (m := ⟨12, 1⟩) (meth := k12m1) (c := k12c1) (by decide +kernel) rfl rfl rfl (by decide +kernel)
set_option maxRecDepth 65536 in
theorem w_c12 : (Jvm.Cond.code ({ cls := "java/lang/String", name := "coder", desc := "()B" } : Jvm.MethodName) jdk_42_method_152_code (1 : Nat) (Option.some Jvm.ClassFile.FieldType.byte)).before args0 about1 = true := code_word (m := ⟨12, 4⟩) (meth := k12m4) (c := k12c4) (by decide +kernel) rfl rfl rfl (by decide +kernel)
set_option maxRecDepth 65536 in
theorem w_c13 : (Jvm.Cond.code ({ cls := "java/lang/String", name := "charAt", desc := "(I)C" } : Jvm.MethodName) jdk_42_method_56_code (2 : Nat) (Option.some Jvm.ClassFile.FieldType.char)).before args0 about1 = true := code_word (m := ⟨12, 3⟩) (meth := k12m3) (c := k12c3) (by decide +kernel) rfl rfl rfl (by decide +kernel)
set_option maxRecDepth 65536 in
theorem w_c14 : (Jvm.Cond.code ({ cls := "java/lang/String", name := "isLatin1", desc := "()Z" } : Jvm.MethodName) jdk_42_method_154_code (1 : Nat) (Option.some Jvm.ClassFile.FieldType.boolean)).before args0 about1 = true := code_word (m := ⟨12, 5⟩) (meth := k12m5) (c := k12c5) (by decide +kernel) rfl rfl rfl (by decide +kernel)
set_option maxRecDepth 65536 in
theorem w_c15 : (Jvm.Cond.code ({ cls := "java/lang/StringLatin1", name := "charAt", desc := "([BI)C" } : Jvm.MethodName) jdk_43_method_2_code (2 : Nat) (Option.some Jvm.ClassFile.FieldType.char)).before args0 about1 = true := code_word (m := ⟨15, 1⟩) (meth := k15m1) (c := k15c1) (by decide +kernel) rfl rfl rfl (by decide +kernel)
set_option maxRecDepth 65536 in
theorem w_c16 : (Jvm.Cond.code ({ cls := "java/lang/String", name := "checkIndex", desc := "(II)V" } : Jvm.MethodName) jdk_42_method_155_code (2 : Nat) (Option.none : Option Jvm.ClassFile.FieldType)).before args0 about1 = true := code_word (m := ⟨12, 6⟩) (meth := k12m6) (c := k12c6) (by decide +kernel) rfl rfl rfl (by decide +kernel)
set_option maxRecDepth 65536 in
theorem w_c17 : (Jvm.Cond.code ({ cls := "jdk/internal/util/Preconditions", name := "checkIndex", desc := "(IILjava/util/function/BiFunction;)I" } : Jvm.MethodName) jdk_41_method_11_code (3 : Nat) (Option.some Jvm.ClassFile.FieldType.int)).before args0 about1 = true := code_word (m := ⟨16, 1⟩) (meth := k16m1) (c := k16c1) (by decide +kernel) rfl rfl rfl (by decide +kernel)
set_option maxRecDepth 65536 in
theorem w_c18 : (Jvm.Cond.code ({ cls := "com/example/uncross/uncross/model/Order", name := "checkTerms", desc := "(JLjava/util/OptionalLong;)V" } : Jvm.MethodName) prog_70_method_5_code (3 : Nat) (Option.none : Option Jvm.ClassFile.FieldType)).before args0 about1 = true := code_word (m := ⟨9, 3⟩) (meth := k9m3) (c := k9c3) (by decide +kernel) rfl rfl rfl (by decide +kernel)
set_option maxRecDepth 65536 in
theorem w_c19 : (Jvm.Cond.code ({ cls := "com/example/uncross/uncross/model/Quantities", name := "check", desc := "(J)V" } : Jvm.MethodName) prog_82_method_4_code (2 : Nat) (Option.none : Option Jvm.ClassFile.FieldType)).before args0 about1 = true := code_word (m := ⟨17, 1⟩) (meth := k17m1) (c := k17c1) (by decide +kernel) rfl rfl rfl (by decide +kernel)
set_option maxRecDepth 65536 in
theorem w_c20 : (Jvm.Cond.code ({ cls := "com/example/uncross/uncross/model/Quantities", name := "check", desc := "(JJ)V" } : Jvm.MethodName) prog_82_method_7_code (4 : Nat) (Option.none : Option Jvm.ClassFile.FieldType)).before args0 about1 = true := code_word (m := ⟨17, 2⟩) (meth := k17m2) (c := k17c2) (by decide +kernel) rfl rfl rfl (by decide +kernel)
set_option maxRecDepth 65536 in
theorem w_c21 : (Jvm.Cond.code ({ cls := "com/example/uncross/uncross/model/Quantities", name := "inRange", desc := "(JJ)Z" } : Jvm.MethodName) prog_82_method_8_code (4 : Nat) (Option.some Jvm.ClassFile.FieldType.boolean)).before args0 about1 = true := code_word (m := ⟨17, 3⟩) (meth := k17m3) (c := k17c3) (by decide +kernel) rfl rfl rfl (by decide +kernel)
set_option maxRecDepth 65536 in
theorem w_c22 : (Jvm.Cond.code ({ cls := "java/util/OptionalLong", name := "isPresent", desc := "()Z" } : Jvm.MethodName) jdk_2650_method_6_code (1 : Nat) (Option.some Jvm.ClassFile.FieldType.boolean)).before args0 about1 = true := code_word (m := ⟨13, 5⟩) (meth := k13m5) (c := k13c5) (by decide +kernel) rfl rfl rfl (by decide +kernel)
set_option maxRecDepth 65536 in
theorem w_c23 : (Jvm.Cond.code ({ cls := "java/util/OptionalLong", name := "getAsLong", desc := "()J" } : Jvm.MethodName) jdk_2650_method_5_code (1 : Nat) (Option.some Jvm.ClassFile.FieldType.long)).before args0 about1 = true := code_word (m := ⟨13, 4⟩) (meth := k13m4) (c := k13c4) (by decide +kernel) rfl rfl rfl (by decide +kernel)
set_option maxRecDepth 65536 in
theorem w_c24 : (Jvm.Cond.code ({ cls := "com/example/uncross/uncross/model/Prices", name := "check", desc := "(J)V" } : Jvm.MethodName) prog_81_method_4_code (2 : Nat) (Option.none : Option Jvm.ClassFile.FieldType)).before args0 about1 = true := code_word (m := ⟨18, 1⟩) (meth := k18m1) (c := k18c1) (by decide +kernel) rfl rfl rfl (by decide +kernel)
set_option maxRecDepth 65536 in
theorem w_c25 : (Jvm.Cond.code ({ cls := "com/example/uncross/uncross/model/Prices", name := "check", desc := "(Ljava/lang/String;J)V" } : Jvm.MethodName) prog_81_method_5_code (3 : Nat) (Option.none : Option Jvm.ClassFile.FieldType)).before args0 about1 = true := code_word (m := ⟨18, 2⟩) (meth := k18m2) (c := k18c2) (by decide +kernel) rfl rfl rfl (by decide +kernel)
set_option maxRecDepth 65536 in
theorem w_c26 : (Jvm.Cond.code ({ cls := "com/example/uncross/uncross/model/Prices", name := "inRange", desc := "(J)Z" } : Jvm.MethodName) prog_81_method_9_code (2 : Nat) (Option.some Jvm.ClassFile.FieldType.boolean)).before args0 about1 = true := code_word (m := ⟨18, 3⟩) (meth := k18m3) (c := k18c3) (by decide +kernel) rfl rfl rfl (by decide +kernel)
set_option maxRecDepth 65536 in
theorem w_c27 : (Jvm.Cond.code ({ cls := "com/example/uncross/uncross/engine/BookSide$Resting", name := "<init>", desc := "(Lcom/example/uncross/uncross/model/Order;JJZ)V" } : Jvm.MethodName) prog_17_method_1_code (7 : Nat) (Option.none : Option Jvm.ClassFile.FieldType)).before args0 about1 = true := code_word (m := ⟨7, 0⟩) (meth := k7m0) (c := k7c0) (by decide +kernel) rfl rfl rfl (by decide +kernel)
set_option maxRecDepth 65536 in
theorem w_c28 : (Jvm.Cond.code ({ cls := "com/example/uncross/uncross/engine/BookSide", name := "<init>", desc := "(Lcom/example/uncross/uncross/model/Side;)V" } : Jvm.MethodName) prog_15_method_1_code (2 : Nat) (Option.none : Option Jvm.ClassFile.FieldType)).before args0 about1 = true := code_word (m := ⟨19, 0⟩) (meth := k19m0) (c := k19c0) (by decide +kernel) rfl rfl rfl (by decide +kernel)
set_option maxRecDepth 65536 in
theorem w_c29 : (Jvm.Cond.code ({ cls := "com/example/uncross/uncross/engine/BookSide$Level", name := "<init>", desc := "(J)V" } : Jvm.MethodName) prog_16_method_1_code (3 : Nat) (Option.none : Option Jvm.ClassFile.FieldType)).before args0 about1 = true := code_word (m := ⟨20, 0⟩) (meth := k20m0) (c := k20c0) (by decide +kernel) rfl rfl rfl (by decide +kernel)
set_option maxRecDepth 65536 in
theorem w_c30 : (Jvm.Cond.code ({ cls := "java/util/TreeMap", name := "<init>", desc := "()V" } : Jvm.MethodName) jdk_2729_method_1_code (1 : Nat) (Option.none : Option Jvm.ClassFile.FieldType)).before args0 about1 = true := code_word (m := ⟨27, 0⟩) (meth := k27m0) (c := k27c0) (by decide +kernel) rfl rfl rfl (by decide +kernel)
set_option maxRecDepth 65536 in
theorem w_c31 : (Jvm.Cond.code ({ cls := "java/util/AbstractMap", name := "<init>", desc := "()V" } : Jvm.MethodName) jdk_71_method_1_code (1 : Nat) (Option.none : Option Jvm.ClassFile.FieldType)).before args0 about1 = true := code_word (m := ⟨22, 0⟩) (meth := k22m0) (c := k22c0) (by decide +kernel) rfl rfl rfl (by decide +kernel)
set_option maxRecDepth 65536 in
theorem w_c32 : (Jvm.Cond.code ({ cls := "com/example/uncross/uncross/engine/BookSide", name := "first", desc := "()Lcom/example/uncross/uncross/engine/BookSide$Resting;" } : Jvm.MethodName) prog_15_method_3_code (1 : Nat) (Option.some (Jvm.ClassFile.FieldType.object "com/example/uncross/uncross/engine/BookSide$Resting"))).before args0 about1 = true := code_word (m := ⟨19, 1⟩) (meth := k19m1) (c := k19c1) (by decide +kernel) rfl rfl rfl (by decide +kernel)
set_option maxRecDepth 65536 in
theorem w_c33 : (Jvm.Cond.code ({ cls := "java/util/OptionalLong", name := "empty", desc := "()Ljava/util/OptionalLong;" } : Jvm.MethodName) jdk_2650_method_2_code (0 : Nat) (Option.some (Jvm.ClassFile.FieldType.object "java/util/OptionalLong"))).before args0 about1 = true := code_word (m := ⟨13, 1⟩) (meth := k13m1) (c := k13c1) (by decide +kernel) rfl rfl rfl (by decide +kernel)
set_option maxRecDepth 65536 in
theorem w_c34 : (Jvm.Cond.code ({ cls := "com/example/uncross/uncross/engine/BookSide", name := "add", desc := "(Lcom/example/uncross/uncross/engine/BookSide$Resting;)V" } : Jvm.MethodName) prog_15_method_7_code (3 : Nat) (Option.none : Option Jvm.ClassFile.FieldType)).before args0 about1 = true := code_word (m := ⟨19, 2⟩) (meth := k19m2) (c := k19c2) (by decide +kernel) rfl rfl rfl (by decide +kernel)
set_option maxRecDepth 65536 in
theorem w_c35 : (Jvm.Cond.code ({ cls := "com/example/uncross/uncross/model/Order", name := "isMarket", desc := "()Z" } : Jvm.MethodName) prog_70_method_2_code (1 : Nat) (Option.some Jvm.ClassFile.FieldType.boolean)).before args0 about1 = true := code_word (m := ⟨9, 1⟩) (meth := k9m1) (c := k9c1) (by decide +kernel) rfl rfl rfl (by decide +kernel)
set_option maxRecDepth 65536 in
theorem w_c36 : (Jvm.Cond.code ({ cls := "java/util/OptionalLong", name := "isEmpty", desc := "()Z" } : Jvm.MethodName) jdk_2650_method_7_code (1 : Nat) (Option.some Jvm.ClassFile.FieldType.boolean)).before args0 about1 = true := code_word (m := ⟨13, 6⟩) (meth := k13m6) (c := k13c6) (by decide +kernel) rfl rfl rfl (by decide +kernel)
set_option maxRecDepth 65536 in
theorem w_c37 : (Jvm.Cond.code ({ cls := "com/example/uncross/uncross/model/Order", name := "limit", desc := "()Ljava/util/OptionalLong;" } : Jvm.MethodName) prog_70_method_14_code (1 : Nat) (Option.some (Jvm.ClassFile.FieldType.object "java/util/OptionalLong"))).before args0 about1 = true := code_word (m := ⟨9, 5⟩) (meth := k9m5) (c := k9c5) (by decide +kernel) rfl rfl rfl (by decide +kernel)
set_option maxRecDepth 65536 in
theorem w_c38 : (Jvm.Cond.code ({ cls := "com/example/uncross/uncross/engine/BookSide", name := "levelFor", desc := "(J)Lcom/example/uncross/uncross/engine/BookSide$Level;" } : Jvm.MethodName) prog_15_method_9_code (8 : Nat) (Option.some (Jvm.ClassFile.FieldType.object "com/example/uncross/uncross/engine/BookSide$Level"))).before args0 about1 = true := code_word (m := ⟨19, 4⟩) (meth := k19m4) (c := k19c4) (by decide +kernel) rfl rfl rfl (by decide +kernel)
set_option maxRecDepth 65536 in
theorem w_c39 : (Jvm.Cond.code ({ cls := "com/example/uncross/uncross/engine/BookSide", name := "keyOf", desc := "(J)J" } : Jvm.MethodName) prog_15_method_16_code (3 : Nat) (Option.some Jvm.ClassFile.FieldType.long)).before args0 about1 = true := code_word (m := ⟨19, 6⟩) (meth := k19m6) (c := k19c6) (by decide +kernel) rfl rfl rfl (by decide +kernel)
set_option maxRecDepth 65536 in
theorem w_c40 : (Jvm.Cond.code ({ cls := "java/util/AbstractMap", name := "isEmpty", desc := "()Z" } : Jvm.MethodName) jdk_71_method_3_code (1 : Nat) (Option.some Jvm.ClassFile.FieldType.boolean)).before args0 about1 = true := code_word (m := ⟨22, 2⟩) (meth := k22m2) (c := k22c2) (by decide +kernel) rfl rfl rfl (by decide +kernel)
set_option maxRecDepth 65536 in
theorem w_c41 : (Jvm.Cond.code ({ cls := "java/util/TreeMap", name := "size", desc := "()I" } : Jvm.MethodName) jdk_2729_method_5_code (1 : Nat) (Option.some Jvm.ClassFile.FieldType.int)).before args0 about1 = true := code_word (m := ⟨27, 1⟩) (meth := k27m1) (c := k27c1) (by decide +kernel) rfl rfl rfl (by decide +kernel)
set_option maxRecDepth 65536 in
theorem w_c42 : (Jvm.Cond.code ({ cls := "com/example/uncross/uncross/engine/BookSide", name := "atOrBelow", desc := "(J)I" } : Jvm.MethodName) prog_15_method_15_code (7 : Nat) (Option.some Jvm.ClassFile.FieldType.int)).before args0 about1 = true := code_word (m := ⟨19, 5⟩) (meth := k19m5) (c := k19c5) (by decide +kernel) rfl rfl rfl (by decide +kernel)
set_option maxRecDepth 65536 in
theorem w_c43 : (Jvm.Cond.code ({ cls := "com/example/uncross/uncross/engine/BookSide", name := "remove", desc := "(Lcom/example/uncross/uncross/engine/BookSide$Resting;)V" } : Jvm.MethodName) prog_15_method_8_code (3 : Nat) (Option.none : Option Jvm.ClassFile.FieldType)).before args0 about1 = true := code_word (m := ⟨19, 3⟩) (meth := k19m3) (c := k19c3) (by decide +kernel) rfl rfl rfl (by decide +kernel)
set_option maxRecDepth 65536 in
theorem w_c44 : (Jvm.Cond.code ({ cls := "com/example/uncross/uncross/engine/BookSideFirstPinLaw", name := "before", desc := "(ZZJZJ)Z" } : Jvm.MethodName) method_4_code (7 : Nat) (Option.some Jvm.ClassFile.FieldType.boolean)).before args0 about1 = true := code_word (m := ⟨1, 3⟩) (meth := k1m3) (c := k1c3) (by decide +kernel) rfl rfl rfl (by decide +kernel)
set_option maxRecDepth 65536 in
theorem w_c45 : (Jvm.Cond.code ({ cls := "java/lang/Math", name := "max", desc := "(II)I" } : Jvm.MethodName) jdk_29_method_65_code (2 : Nat) (Option.some Jvm.ClassFile.FieldType.int)).before args0 about1 = true := code_word (m := ⟨29, 1⟩) (meth := k29m1) (c := k29c1) (by decide +kernel) rfl rfl rfl (by decide +kernel)
def codes1 : List Jvm.Cond := [Jvm.Cond.code x code maxLocals ret, Jvm.Cond.code ({ cls := "com/example/uncross/uncross/engine/BookSideFirstPinLaw", name := "price", desc := "(J)J" } : Jvm.MethodName) method_3_code (2 : Nat) (Option.some Jvm.ClassFile.FieldType.long), Jvm.Cond.code ({ cls := "java/util/OptionalLong", name := "of", desc := "(J)Ljava/util/OptionalLong;" } : Jvm.MethodName) jdk_2650_method_4_code (2 : Nat) (Option.some (Jvm.ClassFile.FieldType.object "java/util/OptionalLong")), Jvm.Cond.code ({ cls := "java/util/OptionalLong", name := "<init>", desc := "(J)V" } : Jvm.MethodName) jdk_2650_method_3_code (3 : Nat) (Option.none : Option Jvm.ClassFile.FieldType), Jvm.Cond.code ({ cls := "java/lang/Object", name := "<init>", desc := "()V" } : Jvm.MethodName) object_method_1_code (1 : Nat) (Option.none : Option Jvm.ClassFile.FieldType), Jvm.Cond.code ({ cls := "com/example/uncross/uncross/model/Order", name := "<init>", desc := "(Ljava/lang/String;Lcom/example/uncross/uncross/model/Side;JLjava/util/OptionalLong;)V" } : Jvm.MethodName) prog_70_method_1_code (6 : Nat) (Option.none : Option Jvm.ClassFile.FieldType), Jvm.Cond.code ({ cls := "java/lang/Record", name := "<init>", desc := "()V" } : Jvm.MethodName) jdk_30_method_1_code (1 : Nat) (Option.none : Option Jvm.ClassFile.FieldType), Jvm.Cond.code ({ cls := "java/util/Objects", name := "requireNonNull", desc := "(Ljava/lang/Object;Ljava/lang/String;)Ljava/lang/Object;" } : Jvm.MethodName) jdk_31_method_11_code (2 : Nat) (Option.some (Jvm.ClassFile.FieldType.object "java/lang/Object")), Jvm.Cond.code ({ cls := "com/example/uncross/uncross/model/Order", name := "checkId", desc := "(Ljava/lang/String;)V" } : Jvm.MethodName) prog_70_method_4_code (1 : Nat) (Option.none : Option Jvm.ClassFile.FieldType), Jvm.Cond.code ({ cls := "com/example/uncross/uncross/model/Order", name := "isValidId", desc := "(Ljava/lang/String;)Z" } : Jvm.MethodName) prog_70_method_6_code (3 : Nat) (Option.some Jvm.ClassFile.FieldType.boolean), Jvm.Cond.code ({ cls := "java/lang/String", name := "isEmpty", desc := "()Z" } : Jvm.MethodName) jdk_42_method_55_code (1 : Nat) (Option.some Jvm.ClassFile.FieldType.boolean), Jvm.Cond.code ({ cls := "java/lang/String", name := "length", desc := "()I" } : Jvm.MethodName) jdk_42_method_54_code (1 : Nat) (Option.some Jvm.ClassFile.FieldType.int), Jvm.Cond.code ({ cls := "java/lang/String", name := "coder", desc := "()B" } : Jvm.MethodName) jdk_42_method_152_code (1 : Nat) (Option.some Jvm.ClassFile.FieldType.byte), Jvm.Cond.code ({ cls := "java/lang/String", name := "charAt", desc := "(I)C" } : Jvm.MethodName) jdk_42_method_56_code (2 : Nat) (Option.some Jvm.ClassFile.FieldType.char), Jvm.Cond.code ({ cls := "java/lang/String", name := "isLatin1", desc := "()Z" } : Jvm.MethodName) jdk_42_method_154_code (1 : Nat) (Option.some Jvm.ClassFile.FieldType.boolean), Jvm.Cond.code ({ cls := "java/lang/StringLatin1", name := "charAt", desc := "([BI)C" } : Jvm.MethodName) jdk_43_method_2_code (2 : Nat) (Option.some Jvm.ClassFile.FieldType.char), Jvm.Cond.code ({ cls := "java/lang/String", name := "checkIndex", desc := "(II)V" } : Jvm.MethodName) jdk_42_method_155_code (2 : Nat) (Option.none : Option Jvm.ClassFile.FieldType), Jvm.Cond.code ({ cls := "jdk/internal/util/Preconditions", name := "checkIndex", desc := "(IILjava/util/function/BiFunction;)I" } : Jvm.MethodName) jdk_41_method_11_code (3 : Nat) (Option.some Jvm.ClassFile.FieldType.int), Jvm.Cond.code ({ cls := "com/example/uncross/uncross/model/Order", name := "checkTerms", desc := "(JLjava/util/OptionalLong;)V" } : Jvm.MethodName) prog_70_method_5_code (3 : Nat) (Option.none : Option Jvm.ClassFile.FieldType), Jvm.Cond.code ({ cls := "com/example/uncross/uncross/model/Quantities", name := "check", desc := "(J)V" } : Jvm.MethodName) prog_82_method_4_code (2 : Nat) (Option.none : Option Jvm.ClassFile.FieldType), Jvm.Cond.code ({ cls := "com/example/uncross/uncross/model/Quantities", name := "check", desc := "(JJ)V" } : Jvm.MethodName) prog_82_method_7_code (4 : Nat) (Option.none : Option Jvm.ClassFile.FieldType), Jvm.Cond.code ({ cls := "com/example/uncross/uncross/model/Quantities", name := "inRange", desc := "(JJ)Z" } : Jvm.MethodName) prog_82_method_8_code (4 : Nat) (Option.some Jvm.ClassFile.FieldType.boolean), Jvm.Cond.code ({ cls := "java/util/OptionalLong", name := "isPresent", desc := "()Z" } : Jvm.MethodName) jdk_2650_method_6_code (1 : Nat) (Option.some Jvm.ClassFile.FieldType.boolean), Jvm.Cond.code ({ cls := "java/util/OptionalLong", name := "getAsLong", desc := "()J" } : Jvm.MethodName) jdk_2650_method_5_code (1 : Nat) (Option.some Jvm.ClassFile.FieldType.long), Jvm.Cond.code ({ cls := "com/example/uncross/uncross/model/Prices", name := "check", desc := "(J)V" } : Jvm.MethodName) prog_81_method_4_code (2 : Nat) (Option.none : Option Jvm.ClassFile.FieldType), Jvm.Cond.code ({ cls := "com/example/uncross/uncross/model/Prices", name := "check", desc := "(Ljava/lang/String;J)V" } : Jvm.MethodName) prog_81_method_5_code (3 : Nat) (Option.none : Option Jvm.ClassFile.FieldType), Jvm.Cond.code ({ cls := "com/example/uncross/uncross/model/Prices", name := "inRange", desc := "(J)Z" } : Jvm.MethodName) prog_81_method_9_code (2 : Nat) (Option.some Jvm.ClassFile.FieldType.boolean), Jvm.Cond.code ({ cls := "com/example/uncross/uncross/engine/BookSide$Resting", name := "<init>", desc := "(Lcom/example/uncross/uncross/model/Order;JJZ)V" } : Jvm.MethodName) prog_17_method_1_code (7 : Nat) (Option.none : Option Jvm.ClassFile.FieldType), Jvm.Cond.code ({ cls := "com/example/uncross/uncross/engine/BookSide", name := "<init>", desc := "(Lcom/example/uncross/uncross/model/Side;)V" } : Jvm.MethodName) prog_15_method_1_code (2 : Nat) (Option.none : Option Jvm.ClassFile.FieldType), Jvm.Cond.code ({ cls := "com/example/uncross/uncross/engine/BookSide$Level", name := "<init>", desc := "(J)V" } : Jvm.MethodName) prog_16_method_1_code (3 : Nat) (Option.none : Option Jvm.ClassFile.FieldType), Jvm.Cond.code ({ cls := "java/util/TreeMap", name := "<init>", desc := "()V" } : Jvm.MethodName) jdk_2729_method_1_code (1 : Nat) (Option.none : Option Jvm.ClassFile.FieldType), Jvm.Cond.code ({ cls := "java/util/AbstractMap", name := "<init>", desc := "()V" } : Jvm.MethodName) jdk_71_method_1_code (1 : Nat) (Option.none : Option Jvm.ClassFile.FieldType), Jvm.Cond.code ({ cls := "com/example/uncross/uncross/engine/BookSide", name := "first", desc := "()Lcom/example/uncross/uncross/engine/BookSide$Resting;" } : Jvm.MethodName) prog_15_method_3_code (1 : Nat) (Option.some (Jvm.ClassFile.FieldType.object "com/example/uncross/uncross/engine/BookSide$Resting")), Jvm.Cond.code ({ cls := "java/util/OptionalLong", name := "empty", desc := "()Ljava/util/OptionalLong;" } : Jvm.MethodName) jdk_2650_method_2_code (0 : Nat) (Option.some (Jvm.ClassFile.FieldType.object "java/util/OptionalLong")), Jvm.Cond.code ({ cls := "com/example/uncross/uncross/engine/BookSide", name := "add", desc := "(Lcom/example/uncross/uncross/engine/BookSide$Resting;)V" } : Jvm.MethodName) prog_15_method_7_code (3 : Nat) (Option.none : Option Jvm.ClassFile.FieldType), Jvm.Cond.code ({ cls := "com/example/uncross/uncross/model/Order", name := "isMarket", desc := "()Z" } : Jvm.MethodName) prog_70_method_2_code (1 : Nat) (Option.some Jvm.ClassFile.FieldType.boolean), Jvm.Cond.code ({ cls := "java/util/OptionalLong", name := "isEmpty", desc := "()Z" } : Jvm.MethodName) jdk_2650_method_7_code (1 : Nat) (Option.some Jvm.ClassFile.FieldType.boolean), Jvm.Cond.code ({ cls := "com/example/uncross/uncross/model/Order", name := "limit", desc := "()Ljava/util/OptionalLong;" } : Jvm.MethodName) prog_70_method_14_code (1 : Nat) (Option.some (Jvm.ClassFile.FieldType.object "java/util/OptionalLong")), Jvm.Cond.code ({ cls := "com/example/uncross/uncross/engine/BookSide", name := "levelFor", desc := "(J)Lcom/example/uncross/uncross/engine/BookSide$Level;" } : Jvm.MethodName) prog_15_method_9_code (8 : Nat) (Option.some (Jvm.ClassFile.FieldType.object "com/example/uncross/uncross/engine/BookSide$Level")), Jvm.Cond.code ({ cls := "com/example/uncross/uncross/engine/BookSide", name := "keyOf", desc := "(J)J" } : Jvm.MethodName) prog_15_method_16_code (3 : Nat) (Option.some Jvm.ClassFile.FieldType.long), Jvm.Cond.code ({ cls := "java/util/AbstractMap", name := "isEmpty", desc := "()Z" } : Jvm.MethodName) jdk_71_method_3_code (1 : Nat) (Option.some Jvm.ClassFile.FieldType.boolean), Jvm.Cond.code ({ cls := "java/util/TreeMap", name := "size", desc := "()I" } : Jvm.MethodName) jdk_2729_method_5_code (1 : Nat) (Option.some Jvm.ClassFile.FieldType.int), Jvm.Cond.code ({ cls := "com/example/uncross/uncross/engine/BookSide", name := "atOrBelow", desc := "(J)I" } : Jvm.MethodName) prog_15_method_15_code (7 : Nat) (Option.some Jvm.ClassFile.FieldType.int), Jvm.Cond.code ({ cls := "com/example/uncross/uncross/engine/BookSide", name := "remove", desc := "(Lcom/example/uncross/uncross/engine/BookSide$Resting;)V" } : Jvm.MethodName) prog_15_method_8_code (3 : Nat) (Option.none : Option Jvm.ClassFile.FieldType), Jvm.Cond.code ({ cls := "com/example/uncross/uncross/engine/BookSideFirstPinLaw", name := "before", desc := "(ZZJZJ)Z" } : Jvm.MethodName) method_4_code (7 : Nat) (Option.some Jvm.ClassFile.FieldType.boolean), Jvm.Cond.code ({ cls := "java/lang/Math", name := "max", desc := "(II)I" } : Jvm.MethodName) jdk_29_method_65_code (2 : Nat) (Option.some Jvm.ClassFile.FieldType.int)]
set_option maxRecDepth 65536 in
theorem codes_eq : words1.filter isCode = codes1 := rfl
theorem w_codes : ∀ c ∈ words1.filter isCode, c.before args0 about1 = true := by
  rw [codes_eq]
  intro c hc
  simp only [codes1, List.mem_cons, List.not_mem_nil, or_false] at hc
  rcases hc with rfl | rfl | rfl | rfl | rfl | rfl | rfl | rfl | rfl | rfl | rfl | rfl | rfl | rfl | rfl | rfl | rfl | rfl | rfl | rfl | rfl | rfl | rfl | rfl | rfl | rfl | rfl | rfl | rfl | rfl | rfl | rfl | rfl | rfl | rfl | rfl | rfl | rfl | rfl | rfl | rfl | rfl | rfl | rfl | rfl | rfl
  · exact w_c0
  · exact w_c1
  · exact w_c2
  · exact w_c3
  · exact w_c4
  · exact w_c5
  · exact w_c6
  · exact w_c7
  · exact w_c8
  · exact w_c9
  · exact w_c10
  · exact w_c11
  · exact w_c12
  · exact w_c13
  · exact w_c14
  · exact w_c15
  · exact w_c16
  · exact w_c17
  · exact w_c18
  · exact w_c19
  · exact w_c20
  · exact w_c21
  · exact w_c22
  · exact w_c23
  · exact w_c24
  · exact w_c25
  · exact w_c26
  · exact w_c27
  · exact w_c28
  · exact w_c29
  · exact w_c30
  · exact w_c31
  · exact w_c32
  · exact w_c33
  · exact w_c34
  · exact w_c35
  · exact w_c36
  · exact w_c37
  · exact w_c38
  · exact w_c39
  · exact w_c40
  · exact w_c41
  · exact w_c42
  · exact w_c43
  · exact w_c44
  · exact w_c45
set_option maxRecDepth 65536 in
theorem w_t1 : (words1.take 24).all (fun c => isCode c || c.before args0 about1) = true := by decide +kernel
set_option maxRecDepth 65536 in
theorem w_t2 : ((words1.drop 24).take 24).all (fun c => isCode c || c.before args0 about1) = true := by decide +kernel
set_option maxRecDepth 65536 in
theorem w_t3 : (((words1.drop 24).drop 24).take 24).all (fun c => isCode c || c.before args0 about1) = true := by decide +kernel
set_option maxRecDepth 65536 in
theorem w_t4 : ((((words1.drop 24).drop 24).drop 24).take 24).all (fun c => isCode c || c.before args0 about1) = true := by decide +kernel
set_option maxRecDepth 65536 in
theorem w_t5 : (((((words1.drop 24).drop 24).drop 24).drop 24).take 24).all (fun c => isCode c || c.before args0 about1) = true := by decide +kernel
set_option maxRecDepth 65536 in
theorem w_t6 : ((((((words1.drop 24).drop 24).drop 24).drop 24).drop 24).take 24).all (fun c => isCode c || c.before args0 about1) = true := by decide +kernel
set_option maxRecDepth 65536 in
theorem w_t7 : (((((((words1.drop 24).drop 24).drop 24).drop 24).drop 24).drop 24).take 24).all (fun c => isCode c || c.before args0 about1) = true := by decide +kernel
set_option maxRecDepth 65536 in
theorem w_t8 : ((((((((words1.drop 24).drop 24).drop 24).drop 24).drop 24).drop 24).drop 24).take 24).all (fun c => isCode c || c.before args0 about1) = true := by decide +kernel
set_option maxRecDepth 65536 in
theorem w_t9 : (((((((((words1.drop 24).drop 24).drop 24).drop 24).drop 24).drop 24).drop 24).drop 24).take 24).all (fun c => isCode c || c.before args0 about1) = true := by decide +kernel
set_option maxRecDepth 65536 in
theorem w_t10 : ((((((((((words1.drop 24).drop 24).drop 24).drop 24).drop 24).drop 24).drop 24).drop 24).drop 24).take 24).all (fun c => isCode c || c.before args0 about1) = true := by decide +kernel
set_option maxRecDepth 65536 in
theorem w_t11 : (((((((((((words1.drop 24).drop 24).drop 24).drop 24).drop 24).drop 24).drop 24).drop 24).drop 24).drop 24).take 24).all (fun c => isCode c || c.before args0 about1) = true := by decide +kernel
set_option maxRecDepth 65536 in
theorem w_t12 : ((((((((((((words1.drop 24).drop 24).drop 24).drop 24).drop 24).drop 24).drop 24).drop 24).drop 24).drop 24).drop 24).take 24).all (fun c => isCode c || c.before args0 about1) = true := by decide +kernel
set_option maxRecDepth 65536 in
theorem w_t13 : ((((((((((((words1.drop 24).drop 24).drop 24).drop 24).drop 24).drop 24).drop 24).drop 24).drop 24).drop 24).drop 24).drop 24).all (fun c => isCode c || c.before args0 about1) = true := by decide +kernel
theorem w_tables : (allAtoms (Jvm.Cond.code x code maxLocals ret :: tables_1)).before args0 about1 = true := by
  rw [allAtoms_all]
  show words1.all (fun c => c.before args0 about1) = true
  refine all_split ?_ w_codes
  rw [← List.take_append_drop 24 words1, List.all_append, w_t1, ← List.take_append_drop 24 (words1.drop 24), List.all_append, w_t2, ← List.take_append_drop 24 ((words1.drop 24).drop 24), List.all_append, w_t3, ← List.take_append_drop 24 (((words1.drop 24).drop 24).drop 24), List.all_append, w_t4, ← List.take_append_drop 24 ((((words1.drop 24).drop 24).drop 24).drop 24), List.all_append, w_t5, ← List.take_append_drop 24 (((((words1.drop 24).drop 24).drop 24).drop 24).drop 24), List.all_append, w_t6, ← List.take_append_drop 24 ((((((words1.drop 24).drop 24).drop 24).drop 24).drop 24).drop 24), List.all_append, w_t7, ← List.take_append_drop 24 (((((((words1.drop 24).drop 24).drop 24).drop 24).drop 24).drop 24).drop 24), List.all_append, w_t8, ← List.take_append_drop 24 ((((((((words1.drop 24).drop 24).drop 24).drop 24).drop 24).drop 24).drop 24).drop 24), List.all_append, w_t9, ← List.take_append_drop 24 (((((((((words1.drop 24).drop 24).drop 24).drop 24).drop 24).drop 24).drop 24).drop 24).drop 24), List.all_append, w_t10, ← List.take_append_drop 24 ((((((((((words1.drop 24).drop 24).drop 24).drop 24).drop 24).drop 24).drop 24).drop 24).drop 24).drop 24), List.all_append, w_t11, ← List.take_append_drop 24 (((((((((((words1.drop 24).drop 24).drop 24).drop 24).drop 24).drop 24).drop 24).drop 24).drop 24).drop 24).drop 24), List.all_append, w_t12, w_t13]
  rfl
set_option maxRecDepth 65536 in
theorem w_rest : rest_1_c.before args0 about1 = true := by decide +kernel
set_option maxRecDepth 65536 in
theorem w_case : (Jvm.Cond.and given_1 narrow_1).before args0 about1 = true := by decide +kernel
set_option maxRecDepth 65536 in
theorem w_consts : constsHeld consts_1 about1 := Jvm.Lit.constsHeldB_iff.mp (by decide +kernel)
theorem w_applies : (headSpec (Jvm.Cond.code x code maxLocals ret :: tables_1) room_1).applies x e0.platform about1 = true :=
  (Spec.applies_iff w_frames).mpr ⟨w_running, w_runnable, w_alone, w_named, w_hears, w_ripe, w_room, w_tables⟩
theorem atStart : AtStart classFile x code maxLocals ret World_1 tables_1 room_1 Calls_1 rest_1 Pre_1 launch0 p0 e0 about1 theMethod args0 below0 :=
  ⟨lists_1, trivial, launch0.admits_env _ _ _, launch0.least_env, fairChoices_fair.cas, fairChoices_fair.clock, w_frames, w_args, w_heap, w_applies, ⟨w_consts, trivial⟩, w_rest, w_case⟩
end start1
theorem witness_1 : WitnessClaimed_1 := ⟨start1.p0, start1.e0, start1.about1, start1.theMethod, start1.args0, start1.below0, start1.atStart⟩
end Jvm.Pilot.@@N@@
