import JvmDerived
import JvmDerived.Pilot.@@N@@Statement
import JvmDerived.Pilot.@@N@@Code
set_option linter.unusedVariables false
set_option linter.unusedSimpArgs false
namespace Jvm.Own
open Sem ClassFile Op Lib Jvm.Stand Jvm.Free Jvm.LawKit Jvm.RoadKit
/-- from the frame g, standing in T, the run ends in what P says -/
def Goes (p : Program) (e : Env) (below : List Frame) (P : Outcome → State → Prop) (T : State) (g : JFrame) : Prop :=
  ∃ s₂ o, Steps p.tables e below (T.setTop g) s₂ ∧ s₂.status = .running ∧ Ended s₂ below o ∧ P o s₂
/-- what a body leaves -/
abbrev Leaves (s : State) (Q : Option Value → Heap → List Loc → Prop) (C N : Nat) (o : Outcome) (U : State) : Prop := ∃ v L, o = .returned v ∧ Q v U.heap L ∧ FrameEnd s o U L C N
/-- a body's contract, asked at the arguments 'as' and the heap h0 -/
abbrev Pays (l : Launch) (Z : State) (y : MethodName) (bytes : ByteArray) (maxL : Nat) (ret : Option FieldType) (ws : List Jvm.Cond) (rm : Room) (as : Array Value) (h0 : Heap) (Q : Option Value → Heap → List Loc → Prop) : Prop :=
  MetFree l y (head1 (Jvm.Cond.code y bytes maxL ret :: ws) rm) (fun a U => a = as ∧ Z.Warmed39 U.vm ∧ U.heap = h0) (fun _ _ _ _ _ => True) (fun _ U o U' => ∃ v L, o = .returned v ∧ Q v U'.heap L ∧ FrameEnd U o U' L rm.cells rm.slots)
section Steps
variable {p : Program} {l : Launch} {e : Env} {R : Room} {s : State} {m : MethodId} {args : Array Value} {below : List Frame} {meth : Method} {c : Code} {T T' : State} {locs : List Loc} {cells slots : Nat} {Z : State} {a0 : Array Value} {h : Heap} {P : Outcome → State → Prop} {g g' : JFrame}
theorem Goes.on (st : ∀ t, Steps p.tables e below (T'.setTop g') t → Steps p.tables e below (T.setTop g) t) (k : Goes p e below P T' g') : Goes p e below P T g := by
  obtain ⟨s₂, o, h1, h2⟩ := k
  exact ⟨s₂, o, st _ h1, h2⟩
theorem Goes.out {Q : Option Value → Heap → List Loc → Prop} {C N : Nat} (X : Stand p l e R s m args below meth c T locs cells slots) {v : Option Value} (hv : meth.sig.returnType = none → v = none) (hlk : meth.locks = false) (hc : cells ≤ C) (hs : slots ≤ N) (hq : Q v T.heap locs)
    (st : ∀ fs, (∀ (f : JFrame) (acts : List Action), f.method = m → f.locked = none → f.entered = [] → (doReturn e (T.setTop f) acts v).1 = T.setFrames fs) → Steps p.tables e below (T.setTop g) (T.setFrames fs)) : Goes p e below (Leaves s Q C N) T g := by
  obtain ⟨fs, hr, hrun, hended, hW, hsame⟩ := X.leave (v := v) hv hlk
  exact ⟨_, _, st fs hr, hrun, hended, v, locs, rfl, hq, ⟨_, rfl⟩, hW, hsame.mono hc hs⟩
theorem Goes.retV {Q : Option Value → Heap → List Loc → Prop} {C N : Nat} (X : Stand p l e R s m args below meth c T locs cells slots) (hx : p.tables.exec = Jvm.exec) (hlk : meth.locks = false) (hret : meth.sig.returnType = none) {pc : Nat} {Ls : Array Slot} (hd : decode c.code pc = .ok (.return_, 1)) (hc : cells ≤ C) (hs : slots ≤ N) (hq : Q none T.heap locs) :
    Goes p e below (Leaves s Q C N) T (mkF m pc Ls []) :=
  Goes.out X (fun _ => rfl) hlk hc hs hq fun _ hr => X.returnOut hx hret hd hr
theorem Goes.retW {Q : Option Value → Heap → List Loc → Prop} {C N : Nat} (X : Stand p l e R s m args below meth c T locs cells slots) (hx : p.tables.exec = Jvm.exec) (hlk : meth.locks = false) {t : FieldType} {i : Instr} {w : Value} (hret : meth.sig.returnType = some t) {pc : Nat} {Ls : Array Slot} {rest : List Value} (hn : narrow t w = w)
    (hi : (i = .ireturn ∧ (t = .int ∨ t = .boolean ∨ t = .byte ∨ t = .char ∨ t = .short) ∧ ∃ z, w = .int z) ∨ (i = .lreturn ∧ t = .long ∧ ∃ z, w = .long z) ∨ (i = .dreturn ∧ t = .double ∧ ∃ z, w = .double z) ∨ (i = .freturn ∧ t = .float ∧ ∃ z, w = .float z) ∨ (i = .areturn ∧ t.isReference = true ∧ w.isRef = true))
    (hd : decode c.code pc = .ok (i, 1)) (hc : cells ≤ C) (hs : slots ≤ N) (hq : Q (some w) T.heap locs) : Goes p e below (Leaves s Q C N) T (mkF m pc Ls (w :: rest)) :=
  Goes.out X (fun h => by rw [hret] at h; cases h) hlk hc hs hq fun _ hr => retOut X hx hret hn hi hd hr
theorem Goes.retI {Q : Option Value → Heap → List Loc → Prop} {C N : Nat} (X : Stand p l e R s m args below meth c T locs cells slots) (hx : p.tables.exec = Jvm.exec) (hlk : meth.locks = false) {z : Int32} (hret : meth.sig.returnType = some .int) {pc : Nat} {Ls : Array Slot} {rest : List Value} (hd : decode c.code pc = .ok (.ireturn, 1)) (hc : cells ≤ C) (hs : slots ≤ N) (hq : Q (some (.int z)) T.heap locs) :
    Goes p e below (Leaves s Q C N) T (mkF m pc Ls (.int z :: rest)) := Goes.retW X hx hlk hret rfl (Or.inl ⟨rfl, Or.inl rfl, _, rfl⟩) hd hc hs hq
theorem Goes.retB {Q : Option Value → Heap → List Loc → Prop} {C N : Nat} (X : Stand p l e R s m args below meth c T locs cells slots) (hx : p.tables.exec = Jvm.exec) (hlk : meth.locks = false) {z : Int32} (hret : meth.sig.returnType = some .boolean) {pc : Nat} {Ls : Array Slot} {rest : List Value} (hz : z = 0 ∨ z = 1) (hd : decode c.code pc = .ok (.ireturn, 1)) (hc : cells ≤ C) (hs : slots ≤ N) (hq : Q (some (.int z)) T.heap locs) :
    Goes p e below (Leaves s Q C N) T (mkF m pc Ls (.int z :: rest)) := Goes.retW X hx hlk hret (by rcases hz with rfl | rfl <;> rfl) (Or.inl ⟨rfl, Or.inr (Or.inl rfl), _, rfl⟩) hd hc hs hq
theorem Goes.retJ {Q : Option Value → Heap → List Loc → Prop} {C N : Nat} (X : Stand p l e R s m args below meth c T locs cells slots) (hx : p.tables.exec = Jvm.exec) (hlk : meth.locks = false) {z : Int64} (hret : meth.sig.returnType = some .long) {pc : Nat} {Ls : Array Slot} {rest : List Value} (hd : decode c.code pc = .ok (.lreturn, 1)) (hc : cells ≤ C) (hs : slots ≤ N) (hq : Q (some (.long z)) T.heap locs) :
    Goes p e below (Leaves s Q C N) T (mkF m pc Ls (.long z :: rest)) := Goes.retW X hx hlk hret rfl (Or.inr (Or.inl ⟨rfl, rfl, _, rfl⟩)) hd hc hs hq
theorem Goes.retA {Q : Option Value → Heap → List Loc → Prop} {C N : Nat} (X : Stand p l e R s m args below meth c T locs cells slots) (hx : p.tables.exec = Jvm.exec) (hlk : meth.locks = false) {w : Value} {t : FieldType} (hret : meth.sig.returnType = some t) (ht : t.isReference = true) (hw : w.isRef = true) {pc : Nat} {Ls : Array Slot} {rest : List Value} (hd : decode c.code pc = .ok (.areturn, 1)) (hc : cells ≤ C) (hs : slots ≤ N) (hq : Q (some w) T.heap locs) :
    Goes p e below (Leaves s Q C N) T (mkF m pc Ls (w :: rest)) := Goes.retW X hx hlk hret (by cases t <;> first | rfl | cases ht) (Or.inr (Or.inr (Or.inr (Or.inr ⟨rfl, ht, hw⟩)))) hd hc hs hq
/-- a body's contract out of its walk -/
theorem Pays.walk {y : MethodName} {bytes : ByteArray} {maxL : Nat} {ret : Option FieldType} {ws : List Jvm.Cond} {rm : Room} {as : Array Value} {h0 : Heap} {Q : Option Value → Heap → List Loc → Prop} {Ls : Array Slot}
    (hn : plainFor y = true) (hef : ∀ m, entryFrame m as maxL = mkF m 0 Ls [])
    (body : ∀ (p : Program) (e : Env) (s : State) (m : MethodId) (below : List Frame) (meth : Method) (c : Code) (T : State), Stand p l e rm s m as below meth c T [] 0 0 → p.tables.exec = Jvm.exec → c.code = bytes → c.maxLocals = maxL → s.vm.findClass y.cls = some m.cls → meth.name = y.name → Z.Warmed39 s.vm → T.heap = h0 → meth.sig.returnType = ret → meth.locks = false →
      Goes p e below (Leaves s Q rm.cells rm.slots) T (mkF m 0 Ls [])) : Pays l Z y bytes maxL ret ws rm as h0 Q := by
  refine MetFree.of_bodySF hn hisR ?_
  intro p e s m args below meth c s₁ Bd hml0 hP hK
  obtain ⟨rfl, hZ, hh⟩ := hP
  have X0 : Stand p l e rm s m args below meth c s₁ [] 0 0 := Stand.of_body Bd
  obtain ⟨s₂, o, h1, h2⟩ := body p e s m below meth c s₁ X0 Bd.exec Bd.bytes hml0 (findClass_of_methodNamed Bd.named) (name_of_methodNamed Bd.named Bd.method).1 hZ (by rw [← hh, Bd.state]; rfl) Bd.returns Bd.notSynchronized
  exact ⟨s₂, o, castTop (hef m) h1, h2⟩
/-- a static call by its contract -/
theorem Goes.callS (X : Stand p l e R s m args below meth c T locs cells slots) (hx : p.tables.exec = Jvm.exec) (hZ : Z.Warmed39 s.vm) {own : String} {index : Nat} {y : MethodName} {bytes : ByteArray} {maxL : Nat} {ret : Option FieldType} {rm : Room} {as' : Array Value} {Q : Option Value → Heap → List Loc → Prop} (W : Nat)
    (hown : s.vm.findClass own = some m.cls) (w1 : (Jvm.Cond.methodLink own index y).before a0 Z = true) (w2 : (Jvm.Cond.static y).before a0 Z = true) (w3 : (Jvm.Cond.initialized y.cls).before a0 Z = true) (w4 : (Jvm.Cond.code y bytes maxL ret).before a0 Z = true) (hy : y.cls ≠ "java/lang/invoke/MethodHandle" ∧ y.cls ≠ "java/lang/invoke/VarHandle")
    (eT : T.heap = h) (hM : Pays l Z y bytes maxL ret [] rm as' h Q) (hf : rm.frames + 1 ≤ R.frames) (hl : W + (maxL + 11) + rm.locals ≤ R.locals) (hc : cells + rm.cells ≤ R.cells) (hs : slots + rm.slots ≤ R.slots)
    (hg : g.method = m) (hsize : g.locals.size = c.maxLocals) {argsL rest : List Value} (has : argsL.toArray = as') (hlen : ∀ sig, parseMethodDescriptor y.desc = some sig → argsL.length = sig.parameters.length) (hstack : g.stack = argsL.reverse ++ rest) (hW : 2 * g.monitorRoom + (rest.map fun v => v.category).sum ≤ W)
    (hd : decode c.code g.pc = .ok (.invokestatic index, 3))
    (k : ∀ v T' L, Stand p l e R s m args below meth c T' (locs ++ L) (cells + rm.cells) (slots + rm.slots) → Q v T'.heap L → Goes p e below P T' { g with pc := g.pc + 3, stack := v.toList ++ rest }) : Goes p e below P T g := by
  obtain ⟨v, _, ⟨T', L', k', n'⟩, -, X', ⟨Lc, hQ, l', y', z'⟩, st⟩ := Jvm.LawKit.callS X hx hown (mvT hZ w1) (mvT hZ w2) (mvT hZ w3) (mvT hZ w4) hy (backOf (W := W) hM hZ w4 w3 hf hl) hg hsize (argsL := argsL) (rest := rest) hlen hstack hW hd (fun _ _ => ⟨has, eT, hc, hs⟩)
  dsimp only [Pt.U, Pt.locs, Pt.cells, Pt.slots] at X' l' y' z' st hQ
  subst l' y' z'
  exact Goes.on st (k v T' Lc X' hQ)
/-- a constructor by its contract -/
theorem Goes.callC (X : Stand p l e R s m args below meth c T locs cells slots) (hx : p.tables.exec = Jvm.exec) (hZ : Z.Warmed39 s.vm) {own : String} {index : Nat} {y : MethodName} {bytes : ByteArray} {maxL : Nat} {rm : Room} {as' : Array Value} {Q : Option Value → Heap → List Loc → Prop} (W : Nat) (hy1 : y.name = "<init>")
    (hown : s.vm.findClass own = some m.cls) (w1 : (Jvm.Cond.methodLink own index y).before a0 Z = true) (w2 : (Jvm.Cond.instanceMethod y).before a0 Z = true) (w3 : (Jvm.Cond.initialized y.cls).before a0 Z = true) (w4 : (Jvm.Cond.code y bytes maxL none).before a0 Z = true) (hy : y.cls ≠ "java/lang/invoke/MethodHandle" ∧ y.cls ≠ "java/lang/invoke/VarHandle")
    (eT : T.heap = h) (hM : Pays l Z y bytes maxL none [] rm as' h Q) (hf : rm.frames + 1 ≤ R.frames) (hl : W + (maxL + 11) + rm.locals ≤ R.locals) (hc : cells + rm.cells ≤ R.cells) (hs : slots + rm.slots ≤ R.slots)
    (hg : g.method = m) (hsize : g.locals.size = c.maxLocals) {a : Addr} {argsL rest : List Value} (has : (Value.ref a :: argsL).toArray = as') (hlen : ∀ sig, parseMethodDescriptor y.desc = some sig → argsL.length = sig.parameters.length) (hstack : g.stack = argsL.reverse ++ .ref a :: rest) (hW : 2 * g.monitorRoom + (rest.map fun v => v.category).sum ≤ W)
    (hd : decode c.code g.pc = .ok (.invokespecial index, 3))
    (k : ∀ v T' L, Stand p l e R s m args below meth c T' (locs ++ L) (cells + rm.cells) (slots + rm.slots) → Q v T'.heap L → Goes p e below P T' { g with pc := g.pc + 3, stack := v.toList ++ rest }) : Goes p e below P T g := by
  obtain ⟨v, _, ⟨T', L', k', n'⟩, -, X', ⟨Lc, hQ, l', y', z'⟩, st⟩ := X.specialBack hx (y := y) hy1 hown (mvT hZ w1) (mvT hZ w2) (mvT hZ w4) hy (backOf (W := W) hM hZ w4 w3 hf hl) hg hsize (Steps.refl _) (a := a) (argsL := argsL) (rest := rest) hlen hstack hW hd (fun _ _ => ⟨has, eT, hc, hs⟩)
  dsimp only [Pt.U, Pt.locs, Pt.cells, Pt.slots] at X' l' y' z' st hQ
  subst l' y' z'
  exact Goes.on (fun _ q => st.trans q) (k v T' Lc X' hQ)
/-- an instance method by its contract, on an object of the class C -/
theorem Goes.callV (X : Stand p l e R s m args below meth c T locs cells slots) (hx : p.tables.exec = Jvm.exec) (hZ : Z.Warmed39 s.vm) {own C : String} {index : Nat} {y z : MethodName} {bytes : ByteArray} {maxL : Nat} {ret : Option FieldType} {rm : Room} {as' : Array Value} {Q : Option Value → Heap → List Loc → Prop} (W : Nat)
    (hown : s.vm.findClass own = some m.cls) (w1 : (Jvm.Cond.methodLink own index y).before a0 Z = true) (w2 : (Jvm.Cond.declares y).before a0 Z = true) (hnf : NotFace s y) (w5 : (Jvm.Cond.selects C y z).before a0 Z = true) (w6 : (Jvm.Cond.instanceMethod z).before a0 Z = true) (w3 : (Jvm.Cond.initialized z.cls).before a0 Z = true) (w4 : (Jvm.Cond.code z bytes maxL ret).before a0 Z = true) (hy : y.cls ≠ "java/lang/invoke/MethodHandle" ∧ y.cls ≠ "java/lang/invoke/VarHandle")
    (eT : T.heap = h) {a : Addr} (E : Exa Z h a C) (hM : Pays l Z z bytes maxL ret [] rm as' h Q) (hf : rm.frames + 1 ≤ R.frames) (hl : W + (maxL + 11) + rm.locals ≤ R.locals) (hc : cells + rm.cells ≤ R.cells) (hs : slots + rm.slots ≤ R.slots)
    (hg : g.method = m) (hsize : g.locals.size = c.maxLocals) {argsL rest : List Value} (has : (Value.ref a :: argsL).toArray = as') (hlen : ∀ sig, parseMethodDescriptor y.desc = some sig → argsL.length = sig.parameters.length) (hstack : g.stack = argsL.reverse ++ .ref a :: rest) (hW : 2 * g.monitorRoom + (rest.map fun v => v.category).sum ≤ W)
    (hd : decode c.code g.pc = .ok (.invokevirtual index, 3))
    (k : ∀ v T' L, Stand p l e R s m args below meth c T' (locs ++ L) (cells + rm.cells) (slots + rm.slots) → Q v T'.heap L → Goes p e below P T' { g with pc := g.pc + 3, stack := v.toList ++ rest }) : Goes p e below P T g := by
  obtain ⟨cq, kq, qa, qb, qc⟩ := isOf hZ eT E
  obtain ⟨v, _, ⟨T', L', k', n'⟩, -, X', ⟨Lc, hQ, l', y', z'⟩, st⟩ := X.virtualBack hx (y := y) (z := z) hown (mvT hZ w1) (mvT hZ w2) hnf (mvT hZ w5) (mvT hZ w6) hy (backOf (W := W) hM hZ w4 w3 hf hl) qa qc hg hsize (Steps.refl _) (argsL := argsL) (rest := rest) hlen hstack hW hd (fun _ _ => ⟨has, eT, hc, hs⟩)
  dsimp only [Pt.U, Pt.locs, Pt.cells, Pt.slots] at X' l' y' z' st hQ
  subst l' y' z'
  exact Goes.on (fun _ q => st.trans q) (k v T' Lc X' hQ)
/-- what a ready payer (Back) asks and gives -/
abbrev Payer (l : Launch) (R : Room) (p : Program) (e : Env) (below : List Frame) (s : State) (args : Array Value) (y : MethodName) (W : Nat) (as' : Array Value) (h : Heap) (C N : Nat) (Q : Option Value → Heap → List Loc → Prop) : Prop :=
  Back l R p e below s args y 3 W (fun A a => a = as' ∧ A.U.heap = h ∧ A.cells + C ≤ R.cells ∧ A.slots + N ≤ R.slots) (fun A _ v B => ∃ L, Q v B.U.heap L ∧ B.locs = A.locs ++ L ∧ B.cells = A.cells + C ∧ B.slots = A.slots + N)
/-- a private instance method (invokevirtual) by its contract -/
theorem Goes.callP (X : Stand p l e R s m args below meth c T locs cells slots) (hx : p.tables.exec = Jvm.exec) (hZ : Z.Warmed39 s.vm) {own C : String} {index ni : Nat} {y : MethodName} {bytes : ByteArray} {maxL : Nat} {ret : Option FieldType} {rm : Room} {as' : Array Value} {Q : Option Value → Heap → List Loc → Prop} (W : Nat)
    (hown : s.vm.findClass own = some m.cls) (w1 : (Jvm.Cond.methodLink own index y).before a0 Z = true) (w6 : (Jvm.Cond.instanceMethod y).before a0 Z = true) (wp : (Jvm.Cond.privateMethod y).before a0 Z = true) (wi : (Jvm.Cond.instantiable y.cls ni).before a0 Z = true) (w3 : (Jvm.Cond.initialized y.cls).before a0 Z = true) (w4 : (Jvm.Cond.code y bytes maxL ret).before a0 Z = true) (hy : y.cls ≠ "java/lang/invoke/MethodHandle" ∧ y.cls ≠ "java/lang/invoke/VarHandle")
    (eT : T.heap = h) {a : Addr} (E : Exa Z h a C) (hM : Pays l Z y bytes maxL ret [] rm as' h Q) (hf : rm.frames + 1 ≤ R.frames) (hl : W + (maxL + 11) + rm.locals ≤ R.locals) (hc : cells + rm.cells ≤ R.cells) (hs : slots + rm.slots ≤ R.slots)
    (hg : g.method = m) (hsize : g.locals.size = c.maxLocals) {argsL rest : List Value} (has : (Value.ref a :: argsL).toArray = as') (hlen : ∀ sig, parseMethodDescriptor y.desc = some sig → argsL.length = sig.parameters.length) (hstack : g.stack = argsL.reverse ++ .ref a :: rest) (hW : 2 * g.monitorRoom + (rest.map fun v => v.category).sum ≤ W)
    (hd : decode c.code g.pc = .ok (.invokevirtual index, 3))
    (k : ∀ v T' L, Stand p l e R s m args below meth c T' (locs ++ L) (cells + rm.cells) (slots + rm.slots) → Q v T'.heap L → Goes p e below P T' { g with pc := g.pc + 3, stack := v.toList ++ rest }) : Goes p e below P T g := by
  obtain ⟨ce, hce, hst⟩ := E.cell
  have hp := Cond.privateMethod_at (args := args) (mvP hZ wp)
  obtain ⟨ci, ki, i1, i2, -, i4, -⟩ := Cond.instantiable_spec (mvT (args := args) hZ wi)
  have i5 : ki.isInterface = false := by cases hq : ki.isInterface <;> simp [hq] at i4 ⊢
  have hsel := selects_self_of_private (args := args) i1 i2 i5 hp (mvT hZ w6) hy
  obtain ⟨v, _, ⟨T', L', k', n'⟩, -, X', ⟨Lc, hQ, l', y', z'⟩, st⟩ := X.privateBack hx (y := y) hown (mvT hZ w1) (mvT hZ w6) hsel hp (mvT hZ w4) hy (backOf (W := W) hM hZ w4 w3 hf hl) hg hsize (Steps.refl _) (a := a) (cell := ce) (by rw [eT]; exact hce) hst (argsL := argsL) (rest := rest) hlen hstack hW hd (fun _ _ => ⟨has, eT, hc, hs⟩)
  dsimp only [Pt.U, Pt.locs, Pt.cells, Pt.slots] at X' l' y' z' st hQ
  subst l' y' z'
  exact Goes.on (fun _ q => st.trans q) (k v T' Lc X' hQ)
end Steps
/-- an array by what its places hold -/
def Upd {α : Type} (f : Nat → α) (j : Nat) (x : α) : Nat → α := fun i => if i = j then x else f i
def Arf {α : Type} (Z : State) (h : Heap) (a : Addr) (ty : FieldType) (con : α → Value) (n : Nat) (f : Nat → α) : Prop := ∃ c : Cell, Arr Z h a c ty ∧ c.slots.size = n ∧ ∀ i, i < n → c.slots[i]? = some (con (f i))
theorem updS {α : Type} (f : Nat → α) (j : Nat) (x : α) : Upd f j x j = x := if_pos rfl
theorem updN {α : Type} (f : Nat → α) {i j : Nat} (x : α) (h : i ≠ j) : Upd f j x i = f i := if_neg h
section Arrays
variable {p : Program} {l : Launch} {e : Env} {R : Room} {s : State} {m : MethodId} {args : Array Value} {below : List Frame} {meth : Method} {c : Code} {T T' : State} {locs : List Loc} {cells slots : Nat} {Z : State} {a0 : Array Value} {h h' : Heap} {P : Outcome → State → Prop} {g g' : JFrame} {α : Type} {con : α → Value} {a b : Addr} {ty : FieldType} {n : Nat} {f : Nat → α} {j : Int32} {rest : List Value}
theorem Arf.lt (F : Arf Z h a ty con n f) : a < h.size := by obtain ⟨c, A, -⟩ := F; exact A.lt
theorem Arf.ext (F : Arf Z h a ty con n f) (E : Ext h h') : Arf Z h' a ty con n f := by obtain ⟨c, A, r⟩ := F; exact ⟨c, A.ext E, r⟩
theorem Arf.other {sl : Nat} {v : Value} (F : Arf Z h b ty con n f) (W : Wr h h' a sl v) (q : b ≠ a) : Arf Z h' b ty con n f := by obtain ⟨c, A, r⟩ := F; exact ⟨c, A.other W q, r⟩
theorem Arf.keep {ws : List Addr} (F : Arf Z h a ty con n f) (K : Keep h h' ws) (q : a ∉ ws) : Arf Z h' a ty con n f := by obtain ⟨c, A, r⟩ := F; exact ⟨c, ⟨K.2.1 a c A.1 q, A.2⟩, r⟩
theorem Arf.new {cA : ClassId} {z : Int32} {d : α} (A : Arr Z h a (newA cA ty z) ty) (hd : defaultValue ty = con d) : Arf Z h a ty con z.toNatClampNeg (fun _ => d) :=
  ⟨_, A, sz_new _ _ _, fun i hi => by simp [newA, hi, hd]⟩
theorem Arf.set (F : Arf Z h a ty con n f) {k : Nat} {v : Value} {x : α} (W : Wr h h' a k v) (hv : v = con x) : Arf Z h' a ty con n (Upd f k x) := by
  obtain ⟨c, A, S, H⟩ := F
  refine ⟨_, A.same W, (sz_set _ _ _).trans S, fun i hi => ?_⟩
  subst hv
  by_cases q : i = k
  · subst q; simp [Cell.setSlot, Upd, S, hi]
  · have : ((c.setSlot k (con x)).slots)[i]? = c.slots[i]? := Array.getElem?_setIfInBounds_ne (Ne.symm q)
    rw [this, H i hi]; simp [Upd, q]
theorem Arf.inb {c : Cell} (S : c.slots.size = n) (hj : ¬ j < 0 ∧ j.toNatClampNeg < n) : ¬ (j < 0 ∨ c.slots.size ≤ j.toNatClampNeg) := fun q => q.elim hj.1 fun r => by omega
theorem ldJ {f : Nat → Int64} (X : Stand p l e R s m args below meth c T locs cells slots) (hx : p.tables.exec = Jvm.exec) (hZ : Z.Warmed39 s.vm) (eT : T.heap = h) (F : Arf Z h a .long Value.long n f) (hj : ¬ j < 0 ∧ j.toNatClampNeg < n) (hg : g.method = m) (hs : g.stack = .int j :: .ref a :: rest) (hd : decode c.code g.pc = .ok (.laload, 1)) {t : State}
    (k : Steps p.tables e below (T.setTop { g with pc := g.pc + 1, stack := .long (f j.toNatClampNeg) :: rest }) t) : Steps p.tables e below (T.setTop g) t := by
  obtain ⟨cl, A, S, H⟩ := F
  exact X.laload hx (by rw [eT]; exact A.1) (State.isArrayOf_alike hZ.alike A.2.1) A.2.2 (Arf.inb S hj) (H _ hj.2) hg hs hd t k
theorem ldJm {f : Nat → Int64} (X : Stand p l e R s m args below meth c T locs cells slots) (hx : p.tables.exec = Jvm.exec) (hZ : Z.Warmed39 s.vm) (eT : T.heap = h) (F : Arf Z h a .long Value.long n f) (hj : ¬ j < 0 ∧ j.toNatClampNeg < n) {pc : Nat} {Ls : Array Slot} (hd : decode c.code pc = .ok (.laload, 1)) {t : State}
    (k : Steps p.tables e below (T.setTop (mkF m (pc + 1) Ls (.long (f j.toNatClampNeg) :: rest))) t) : Steps p.tables e below (T.setTop (mkF m pc Ls (.int j :: .ref a :: rest))) t :=
  ldJ (g := mkF m pc Ls (.int j :: .ref a :: rest)) X hx hZ eT F hj rfl rfl hd k
theorem ldI {f : Nat → Int32} (X : Stand p l e R s m args below meth c T locs cells slots) (hx : p.tables.exec = Jvm.exec) (hZ : Z.Warmed39 s.vm) (eT : T.heap = h) (F : Arf Z h a .int Value.int n f) (hj : ¬ j < 0 ∧ j.toNatClampNeg < n) (hg : g.method = m) (hs : g.stack = .int j :: .ref a :: rest) (hd : decode c.code g.pc = .ok (.iaload, 1)) {t : State}
    (k : Steps p.tables e below (T.setTop { g with pc := g.pc + 1, stack := .int (f j.toNatClampNeg) :: rest }) t) : Steps p.tables e below (T.setTop g) t := by
  obtain ⟨cl, A, S, H⟩ := F
  exact X.iaload hx (by rw [eT]; exact A.1) (State.isArrayOf_alike hZ.alike A.2.1) A.2.2 (Arf.inb S hj) (H _ hj.2) hg hs hd t k
theorem ldIm {f : Nat → Int32} (X : Stand p l e R s m args below meth c T locs cells slots) (hx : p.tables.exec = Jvm.exec) (hZ : Z.Warmed39 s.vm) (eT : T.heap = h) (F : Arf Z h a .int Value.int n f) (hj : ¬ j < 0 ∧ j.toNatClampNeg < n) {pc : Nat} {Ls : Array Slot} (hd : decode c.code pc = .ok (.iaload, 1)) {t : State}
    (k : Steps p.tables e below (T.setTop (mkF m (pc + 1) Ls (.int (f j.toNatClampNeg) :: rest))) t) : Steps p.tables e below (T.setTop (mkF m pc Ls (.int j :: .ref a :: rest))) t :=
  ldI (g := mkF m pc Ls (.int j :: .ref a :: rest)) X hx hZ eT F hj rfl rfl hd k
theorem ldZ {f : Nat → Int32} (X : Stand p l e R s m args below meth c T locs cells slots) (hx : p.tables.exec = Jvm.exec) (hZ : Z.Warmed39 s.vm) (eT : T.heap = h) (F : Arf Z h a .boolean Value.int n f) (hj : ¬ j < 0 ∧ j.toNatClampNeg < n) (hg : g.method = m) (hs : g.stack = .int j :: .ref a :: rest) (hd : decode c.code g.pc = .ok (.baload, 1)) {t : State}
    (k : Steps p.tables e below (T.setTop { g with pc := g.pc + 1, stack := .int (f j.toNatClampNeg) :: rest }) t) : Steps p.tables e below (T.setTop g) t := by
  obtain ⟨cl, A, S, H⟩ := F
  exact X.baloadBooleans hx (by rw [eT]; exact A.1) (State.isArrayOf_alike hZ.alike A.2.1) A.2.2 (Arf.inb S hj) (H _ hj.2) hg hs hd t k
theorem ldZm {f : Nat → Int32} (X : Stand p l e R s m args below meth c T locs cells slots) (hx : p.tables.exec = Jvm.exec) (hZ : Z.Warmed39 s.vm) (eT : T.heap = h) (F : Arf Z h a .boolean Value.int n f) (hj : ¬ j < 0 ∧ j.toNatClampNeg < n) {pc : Nat} {Ls : Array Slot} (hd : decode c.code pc = .ok (.baload, 1)) {t : State}
    (k : Steps p.tables e below (T.setTop (mkF m (pc + 1) Ls (.int (f j.toNatClampNeg) :: rest))) t) : Steps p.tables e below (T.setTop (mkF m pc Ls (.int j :: .ref a :: rest))) t :=
  ldZ (g := mkF m pc Ls (.int j :: .ref a :: rest)) X hx hZ eT F hj rfl rfl hd k
theorem aLen (X : Stand p l e R s m args below meth c T locs cells slots) (hx : p.tables.exec = Jvm.exec) (hZ : Z.Warmed39 s.vm) (eT : T.heap = h) (F : Arf Z h a ty con n f) (hg : g.method = m) (hs : g.stack = .ref a :: rest) (hd : decode c.code g.pc = .ok (.arraylength, 1)) {t : State}
    (k : Steps p.tables e below (T.setTop { g with pc := g.pc + 1, stack := .int n.toInt32 :: rest }) t) : Steps p.tables e below (T.setTop g) t := by
  obtain ⟨cl, A, S, H⟩ := F
  exact X.arraylength hx (by rw [eT]; exact A.1) (State.isArrayOf_alike hZ.alike A.2.1) hg hs hd t (by rw [S]; exact k)
theorem aLenm (X : Stand p l e R s m args below meth c T locs cells slots) (hx : p.tables.exec = Jvm.exec) (hZ : Z.Warmed39 s.vm) (eT : T.heap = h) (F : Arf Z h a ty con n f) {pc : Nat} {Ls : Array Slot} (hd : decode c.code pc = .ok (.arraylength, 1)) {t : State}
    (k : Steps p.tables e below (T.setTop (mkF m (pc + 1) Ls (.int n.toInt32 :: rest))) t) : Steps p.tables e below (T.setTop (mkF m pc Ls (.ref a :: rest))) t :=
  aLen (g := mkF m pc Ls (.ref a :: rest)) X hx hZ eT F rfl rfl hd k
theorem wrJ {f : Nat → Int64} {x : Int64} (X : Stand p l e R s m args below meth c T locs cells slots) (hx : p.tables.exec = Jvm.exec) (hZ : Z.Warmed39 s.vm) (eT : T.heap = h) (F : Arf Z h a .long Value.long n f) (hj : ¬ j < 0 ∧ j.toNatClampNeg < n) (hg : g.method = m) (hs : g.stack = .long x :: .int j :: .ref a :: rest) (hd : decode c.code g.pc = .ok (.lastore, 1)) :
    ∃ T' h', Stand p l e R s m args below meth c T' (locs ++ [⟨a, j.toNatClampNeg⟩]) cells slots ∧ T'.heap = h' ∧ Wr h h' a j.toNatClampNeg (.long x) ∧ Arf Z h' a .long Value.long n (Upd f j.toNatClampNeg x) ∧ ∀ target, Steps p.tables e below (T'.setTop { g with pc := g.pc + 1, stack := rest }) target → Steps p.tables e below (T.setTop g) target := by
  have F' := F
  obtain ⟨cl, A, S, H⟩ := F
  obtain ⟨T', h', X', e', W, st⟩ := stJ X hx hZ eT A (Arf.inb S hj) hg hs hd
  exact ⟨T', h', X', e', W, F'.set W rfl, st⟩
theorem wrI {f : Nat → Int32} {x : Int32} (X : Stand p l e R s m args below meth c T locs cells slots) (hx : p.tables.exec = Jvm.exec) (hZ : Z.Warmed39 s.vm) (eT : T.heap = h) (F : Arf Z h a .int Value.int n f) (hj : ¬ j < 0 ∧ j.toNatClampNeg < n) (hg : g.method = m) (hs : g.stack = .int x :: .int j :: .ref a :: rest) (hd : decode c.code g.pc = .ok (.iastore, 1)) :
    ∃ T' h', Stand p l e R s m args below meth c T' (locs ++ [⟨a, j.toNatClampNeg⟩]) cells slots ∧ T'.heap = h' ∧ Wr h h' a j.toNatClampNeg (.int x) ∧ Arf Z h' a .int Value.int n (Upd f j.toNatClampNeg x) ∧ ∀ target, Steps p.tables e below (T'.setTop { g with pc := g.pc + 1, stack := rest }) target → Steps p.tables e below (T.setTop g) target := by
  have F' := F
  obtain ⟨cl, A, S, H⟩ := F
  obtain ⟨T', h', X', e', W, st⟩ := stI X hx hZ eT A (Arf.inb S hj) hg hs hd
  exact ⟨T', h', X', e', W, F'.set W rfl, st⟩
theorem wrZ {f : Nat → Int32} {x : Int32} (X : Stand p l e R s m args below meth c T locs cells slots) (hx : p.tables.exec = Jvm.exec) (hZ : Z.Warmed39 s.vm) (eT : T.heap = h) (F : Arf Z h a .boolean Value.int n f) (hj : ¬ j < 0 ∧ j.toNatClampNeg < n) (hb : x = 0 ∨ x = 1) (hg : g.method = m) (hs : g.stack = .int x :: .int j :: .ref a :: rest) (hd : decode c.code g.pc = .ok (.bastore, 1)) :
    ∃ T' h', Stand p l e R s m args below meth c T' (locs ++ [⟨a, j.toNatClampNeg⟩]) cells slots ∧ T'.heap = h' ∧ Wr h h' a j.toNatClampNeg (.int x) ∧ Arf Z h' a .boolean Value.int n (Upd f j.toNatClampNeg x) ∧ ∀ target, Steps p.tables e below (T'.setTop { g with pc := g.pc + 1, stack := rest }) target → Steps p.tables e below (T.setTop g) target := by
  have F' := F
  obtain ⟨cl, A, S, H⟩ := F
  obtain ⟨T', h', X', e', W, st⟩ := stZ X hx hZ eT A (Arf.inb S hj) hg hs hd
  have q : nar .boolean x = x := by rcases hb with rfl | rfl <;> rfl
  rw [q] at W
  exact ⟨T', h', X', e', W, F'.set W rfl, st⟩
theorem nat32 {n : Nat} (hn : n < 2 ^ 31) : n.toInt32.toNatClampNeg = n := by
  have q : n.toInt32.toInt = n := len_toInt hn
  simp only [Int32.toNatClampNeg, q]; omega
theorem pos32 {n : Nat} (hn : n < 2 ^ 31) : ¬ n.toInt32 < 0 := by
  have q : n.toInt32.toInt = n := len_toInt hn
  rw [Int32.lt_iff_toInt_lt, q]; have k : (0 : Int32).toInt = 0 := rfl
  omega
theorem Arf.arv (F : Arf Z h a ty con n f) (hn : n < 2 ^ 31) (hf : ∀ x, fits ty (con x) = true) (d : Value) : ∃ k, Arv Z h a k ty n.toInt32 ((List.range n).map fun i => con (f i)) d := by
  obtain ⟨cl, A, S, H⟩ := F
  refine ⟨cl.cls, cl, A, rfl, by rw [nat32 hn, S], pos32 hn, fun i hi => ?_, fun i hi => ?_⟩
  · rw [S] at hi; rw [H i hi]; simp [List.getD, hi]
  · rw [S] at hi; simp [List.getD, hi, hf]
theorem Arv.arf {k : ClassId} {z : Int32} {vs : List Value} {d : Value} (V : Arv Z h a k ty z vs d) (hz : z.toNatClampNeg = n) (hv : ∀ i, i < n → vs.getD i d = con (f i)) : Arf Z h a ty con n f := by
  obtain ⟨cl, A, -, S, -, H, -⟩ := V
  exact ⟨cl, A, S.trans hz, fun i hi => by rw [H i (by omega), hv i hi]⟩
/-- an array of arrays, with the class that it takes -/
def Blk (Z : State) (h : Heap) (b : Addr) (ty : FieldType) (C : String) (n : Nat) (f : Nat → Value) : Prop := ∃ c : Cell, Arr Z h b c (.array ty) ∧ OvrA Z c.cls ty C ∧ c.slots.size = n ∧ ∀ i, i < n → c.slots[i]? = some (f i)
section Blks
variable {C : String} {f : Nat → Value}
theorem Blk.lt (F : Blk Z h a ty C n f) : a < h.size := by obtain ⟨c, A, -⟩ := F; exact A.lt
theorem Blk.ext (F : Blk Z h a ty C n f) (E : Ext h h') : Blk Z h' a ty C n f := by obtain ⟨c, A, r⟩ := F; exact ⟨c, A.ext E, r⟩
theorem Blk.other {sl : Nat} {v : Value} (F : Blk Z h b ty C n f) (W : Wr h h' a sl v) (q : b ≠ a) : Blk Z h' b ty C n f := by obtain ⟨c, A, r⟩ := F; exact ⟨c, A.other W q, r⟩
theorem Blk.keep {ws : List Addr} (F : Blk Z h a ty C n f) (K : Keep h h' ws) (q : a ∉ ws) : Blk Z h' a ty C n f := by obtain ⟨c, A, r⟩ := F; exact ⟨c, ⟨K.2.1 a c A.1 q, A.2⟩, r⟩
theorem Blk.new {cA : ClassId} {z : Int32} (A : Arr Z h a (newA cA (.array ty) z) (.array ty)) (O : OvrA Z cA ty C) : Blk Z h a ty C z.toNatClampNeg (fun _ => .null) :=
  ⟨_, A, O, sz_new _ _ _, fun i hi => by simp [newA, hi, defaultValue]⟩
end Blks
end Arrays
end Jvm.Own
namespace Jvm.Own
open Sem ClassFile Op Lib Jvm.Stand Jvm.Free Jvm.LawKit Jvm.RoadKit
/-- what a body leaves that may have loaded String constants -/
abbrev LeavesW (Z : State) (EL : List (String × Nat)) (h0 : Heap) (s : State) (Q : Option Value → Heap → List Loc → Prop) (C N : Nat) (o : Outcome) (U : State) : Prop := ∃ v L, o = .returned v ∧ Q v U.heap L ∧ CHr Z EL s.vm h0 U.vm U.heap ∧ ReturnedEndW s o U L C N
abbrev PaysW (l : Launch) (Z : State) (EL : List (String × Nat)) (y : MethodName) (bytes : ByteArray) (maxL : Nat) (ret : Option FieldType) (ws : List Jvm.Cond) (rm : Room) (as : Array Value) (h0 : Heap) (Q : Option Value → Heap → List Loc → Prop) : Prop :=
  MetFree l y (head1 (Jvm.Cond.code y bytes maxL ret :: ws) rm) (fun a U => a = as ∧ Z.Warmed39 U.vm ∧ U.heap = h0 ∧ CHv Z EL U.vm h0) (fun _ _ _ _ _ => True) (fun _ U o U' => ∃ v L, o = .returned v ∧ Q v U'.heap L ∧ CHr Z EL U.vm U.heap U'.vm U'.heap ∧ ReturnedEndW U o U' L rm.cells rm.slots)
/-- a String with these bytes -/
def Str (Z : State) (h : Heap) (r b : Addr) (k : ClassId) (N : Int32) (vs : List Value) : Prop := Exa Z h r "java/lang/String" ∧ Fld Z h r "java/lang/String" "coder" "B" (.int 0) ∧ Fld Z h r "java/lang/String" "value" "[B" (.ref b) ∧ Arv Z h b k .byte N vs (.int 0)
theorem Str.ext {Z : State} {h h' : Heap} {r b : Addr} {k : ClassId} {N : Int32} {vs : List Value} (F : Str Z h r b k N vs) (E : Ext h h') : Str Z h' r b k N vs := ⟨F.1.ext E, F.2.1.ext E, F.2.2.1.ext E, F.2.2.2.ext E⟩
theorem Str.keep {Z : State} {h h' : Heap} {r b : Addr} {k : ClassId} {N : Int32} {vs : List Value} {ws : List Addr} (F : Str Z h r b k N vs) (K : Keep h h' ws) (hr : r ∉ ws) (hb : b ∉ ws) : Str Z h' r b k N vs := ⟨F.1.keep K, F.2.1.keep K hr, F.2.2.1.keep K hr, F.2.2.2.keep K hb⟩
theorem Str.wr {Z : State} {h h' : Heap} {r b a : Addr} {k : ClassId} {N : Int32} {vs : List Value} {sl : Nat} {v : Value} (F : Str Z h r b k N vs) (W : Wr h h' a sl v) (hr : r ≠ a) (hb : b ≠ a) : Str Z h' r b k N vs := ⟨F.1.wr W, F.2.1.other W (Or.inl hr), F.2.2.1.other W (Or.inl hr), F.2.2.2.other W hb⟩
theorem Str.ne {Z : State} {h : Heap} {r b r' b' : Addr} {k k' : ClassId} {N N' : Int32} {vs vs' : List Value} (F : Str Z h r b k N vs) (G : Str Z h r' b' k' N' vs') (hN : 0 < N.toNatClampNeg) (hv : vs.getD 0 (.int 0) ≠ vs'.getD 0 (.int 0)) : r ≠ r' := by
  by_cases q : b = b'
  · subst q
    obtain ⟨c, A, -, S, -, H, -⟩ := F.2.2.2
    obtain ⟨c', A', -, S', -, H', -⟩ := G.2.2.2
    cases A.1.symm.trans A'.1
    exact absurd (Option.some.inj ((H 0 (by omega)).symm.trans (H' 0 (by omega)))) hv
  · exact Fld.ne F.2.2.1 G.2.2.1 (fun z => q (Value.ref.inj z))
section StepsW
variable {p : Program} {l : Launch} {e : Env} {R : Room} {s : State} {m : MethodId} {args : Array Value} {below : List Frame} {meth : Method} {c : Code} {T T' : State} {locs : List Loc} {cells slots : Nat} {Z : State} {a0 : Array Value} {h h0 : Heap} {P : Outcome → State → Prop} {g g' : JFrame} {EL : List (String × Nat)} {vm vm0 vm1 : Vm} {k0 : Nat}
theorem PaysW.walk {y : MethodName} {bytes : ByteArray} {maxL : Nat} {ret : Option FieldType} {ws : List Jvm.Cond} {rm : Room} {as : Array Value} {Q : Option Value → Heap → List Loc → Prop} {Ls : Array Slot}
    (hn : plainFor y = true) (hef : ∀ m, entryFrame m as maxL = mkF m 0 Ls [])
    (body : ∀ (p : Program) (e : Env) (s : State) (m : MethodId) (below : List Frame) (meth : Method) (c : Code) (T : State), Stand p l e rm (s.setVm s.vm) m as below meth c T [] 0 0 → p.tables.exec = Jvm.exec → c.code = bytes → c.maxLocals = maxL → (s.setVm s.vm).vm.findClass y.cls = some m.cls → meth.name = y.name → Z.Warmed39 (s.setVm s.vm).vm → T.heap = h0 → meth.sig.returnType = ret → meth.locks = false → s.Since s.vm 0 → CHr Z EL s.vm h0 s.vm h0 →
      Goes p e below (LeavesW Z EL h0 s Q rm.cells rm.slots) T (mkF m 0 Ls [])) : PaysW l Z EL y bytes maxL ret ws rm as h0 Q := by
  refine MetFree.of_bodySF hn hisR ?_
  intro p e s m args below meth c s₁ Bd hml0 hP hK
  obtain ⟨rfl, hZ, rfl, hC⟩ := hP
  have X0 : Stand p l e rm s m args below meth c s₁ [] 0 0 := Stand.of_body Bd
  obtain ⟨s₂, o, h1, h2⟩ := body p e s m below meth c s₁ X0 Bd.exec Bd.bytes hml0 (findClass_of_methodNamed Bd.named) (name_of_methodNamed Bd.named Bd.method).1 hZ (by rw [Bd.state]; rfl) Bd.returns Bd.notSynchronized ((State.WarmedH.refl s).since 0) (CHr.refl hC)
  exact ⟨s₂, o, castTop (hef m) h1, h2⟩
/-- the continuation behind a callee that may have interned -/
abbrev AfterW (p : Program) (l : Launch) (e : Env) (R : Room) (s : State) (m : MethodId) (args : Array Value) (below : List Frame) (meth : Method) (c : Code) (Z : State) (EL : List (String × Nat)) (own : String) (vm0 : Vm) (h : Heap) (Q : Option Value → Heap → List Loc → Prop) (locs : List Loc) (cells slots : Nat) (P : Outcome → State → Prop) (fr : Option Value → JFrame) : Prop :=
  ∀ v T' L k', Stand p l e R (s.setVm T'.vm) m args below meth c T' (locs ++ L) cells slots → s.Since T'.vm k' → k' ≤ T'.heap.size → Z.Warmed39 (s.setVm T'.vm).vm → (s.setVm T'.vm).vm.findClass own = some m.cls → CHr Z EL vm0 h T'.vm T'.heap → Q v T'.heap L → Goes p e below P T' (fr v)
end StepsW
end Jvm.Own
namespace Jvm.Own
open Sem ClassFile Op Lib Jvm.Stand Jvm.Free Jvm.LawKit Jvm.RoadKit
/-- the doubles that stand for an int, and +infinity -/
abbrev DK : Type := {k : Int // -2147483648 ≤ k ∧ k ≤ 2147483648}
def dv (k : DK) : UInt64 := if k.1 = 2147483648 then 9218868437227405312 else FP.l2d (Int64.ofInt k.1)
abbrev vD (k : DK) : Value := Value.double (dv k)
def dinf : DK := ⟨2147483648, by decide⟩
def dint (x : Int32) : DK := ⟨x.toInt, by have := rng32 x; omega⟩
theorem dv_fin {k : DK} (h : k.1 ≠ 2147483648) : dv k = FP.l2d (Int64.ofInt k.1) := if_neg h
theorem dv_inf {k : DK} (h : k.1 = 2147483648) : dv k = 9218868437227405312 := if_pos h
theorem ofInt_ok (k : DK) : (Int64.ofInt k.1).toInt = k.1 := Int64.toInt_ofInt_of_le (by have := k.2; omega) (by have := k.2; omega)
theorem dv_int (x : Int32) : FP.i2d x = dv (dint x) := by
  have h : (dint x).1 ≠ 2147483648 := by have := rng32 x; show x.toInt ≠ _; omega
  rw [dv_fin h, i2d_w]
  congr 1
theorem dv_zero : defaultValue .double = vD (dint 0) := by
  show Value.double 0 = Value.double (dv (dint 0))
  rw [← dv_int 0, i2d_w]
  have : FP.l2d ((0 : Int32).toInt64) = 0 := l2d_zero
  rw [this]
theorem b53_ok (k : DK) : B53 (Int64.ofInt k.1) := by
  have := k.2
  refine ⟨?_, ?_⟩ <;> rw [ofInt_ok] <;> omega
theorem dcmp_dv (a b : DK) (o : CmpOp) : cmpValue (FP.dcmp (dv a) (dv b)) o = if a.1 < b.1 then -1 else if a.1 = b.1 then 0 else 1 := by
  have ha := a.2
  have hb := b.2
  by_cases qa : a.1 = 2147483648
  · by_cases qb : b.1 = 2147483648
    · rw [dv_inf qa, dv_inf qb, if_neg (by omega), if_pos (by omega)]
      exact dcmpV_self (by decide) o
    · rw [dv_inf qa, dv_fin qb, if_neg (by omega), if_neg (by omega)]
      exact dcmp_pinf' (Jvm.Free.Fl.l2d_fin _) o
  · by_cases qb : b.1 = 2147483648
    · rw [dv_fin qa, dv_inf qb, if_pos (by omega)]
      exact dcmp_pinf (Jvm.Free.Fl.l2d_fin _) o
    · rw [dv_fin qa, dv_fin qb, dcmpV_w (b53_ok a) (b53_ok b)]
      have e1 := ofInt_ok a
      have e2 := ofInt_ok b
      unfold lcmpW
      simp only [GT.gt, Int64.lt_iff_toInt_lt, ← Int64.toInt_inj, e1, e2]
      by_cases h1 : b.1 < a.1
      · rw [if_pos h1, if_neg (by omega), if_neg (by omega)]
      · rw [if_neg h1]
        by_cases h2 : a.1 = b.1
        · rw [if_pos h2, if_neg (by omega), if_pos h2]
        · rw [if_neg h2, if_pos (by omega)]
theorem dd_ge_t {a b : DK} {o : CmpOp} (h : ¬ a.1 < b.1) : ifCond.holds .ge (cmpValue (FP.dcmp (dv a) (dv b)) o) = true := by rw [dcmp_dv, if_neg h]; split <;> decide
theorem dd_ge_f {a b : DK} {o : CmpOp} (h : a.1 < b.1) : ifCond.holds .ge (cmpValue (FP.dcmp (dv a) (dv b)) o) = false := by rw [dcmp_dv, if_pos h]; decide
theorem dd_le_t {a b : DK} {o : CmpOp} (h : ¬ b.1 < a.1) : ifCond.holds .le (cmpValue (FP.dcmp (dv a) (dv b)) o) = true := by
  rw [dcmp_dv]
  by_cases q : a.1 < b.1
  · rw [if_pos q]; decide
  · rw [if_neg q, if_pos (by omega)]; decide
theorem dd_le_f {a b : DK} {o : CmpOp} (h : b.1 < a.1) : ifCond.holds .le (cmpValue (FP.dcmp (dv a) (dv b)) o) = false := by rw [dcmp_dv, if_neg (by omega), if_neg (by omega)]; decide
theorem dd_ne_t {a b : DK} {o : CmpOp} (h : ¬ a.1 = b.1) : ifCond.holds .ne (cmpValue (FP.dcmp (dv a) (dv b)) o) = true := by
  rw [dcmp_dv]
  by_cases q : a.1 < b.1
  · rw [if_pos q]; decide
  · rw [if_neg q, if_neg h]; decide
theorem dd_ne_f {a b : DK} {o : CmpOp} (h : a.1 = b.1) : ifCond.holds .ne (cmpValue (FP.dcmp (dv a) (dv b)) o) = false := by rw [dcmp_dv, if_neg (by omega), if_pos h]; decide
section DArrays
variable {p : Program} {l : Launch} {e : Env} {R : Room} {s : State} {m : MethodId} {args : Array Value} {below : List Frame} {meth : Method} {c : Code} {T T' : State} {locs : List Loc} {cells slots : Nat} {Z : State} {a0 : Array Value} {h h' : Heap} {P : Outcome → State → Prop} {g g' : JFrame} {a b : Addr} {n : Nat} {f : Nat → DK} {j : Int32} {rest : List Value}
theorem ldK (X : Stand p l e R s m args below meth c T locs cells slots) (hx : p.tables.exec = Jvm.exec) (hZ : Z.Warmed39 s.vm) (eT : T.heap = h) (F : Arf Z h a .double vD n f) (hj : ¬ j < 0 ∧ j.toNatClampNeg < n) (hg : g.method = m) (hs : g.stack = .int j :: .ref a :: rest) (hd : decode c.code g.pc = .ok (.daload, 1)) {t : State}
    (k : Steps p.tables e below (T.setTop { g with pc := g.pc + 1, stack := .double (dv (f j.toNatClampNeg)) :: rest }) t) : Steps p.tables e below (T.setTop g) t := by
  obtain ⟨cl, A, S, H⟩ := F
  exact X.daload hx (by rw [eT]; exact A.1) (State.isArrayOf_alike hZ.alike A.2.1) A.2.2 (Arf.inb S hj) (H _ hj.2) hg hs hd t k
theorem ldKm (X : Stand p l e R s m args below meth c T locs cells slots) (hx : p.tables.exec = Jvm.exec) (hZ : Z.Warmed39 s.vm) (eT : T.heap = h) (F : Arf Z h a .double vD n f) (hj : ¬ j < 0 ∧ j.toNatClampNeg < n) {pc : Nat} {Ls : Array Slot} (hd : decode c.code pc = .ok (.daload, 1)) {t : State}
    (k : Steps p.tables e below (T.setTop (mkF m (pc + 1) Ls (.double (dv (f j.toNatClampNeg)) :: rest))) t) : Steps p.tables e below (T.setTop (mkF m pc Ls (.int j :: .ref a :: rest))) t :=
  ldK (g := mkF m pc Ls (.int j :: .ref a :: rest)) X hx hZ eT F hj rfl rfl hd k
theorem wrK {x : DK} (X : Stand p l e R s m args below meth c T locs cells slots) (hx : p.tables.exec = Jvm.exec) (hZ : Z.Warmed39 s.vm) (eT : T.heap = h) (F : Arf Z h a .double vD n f) (hj : ¬ j < 0 ∧ j.toNatClampNeg < n) (hg : g.method = m) (hs : g.stack = .double (dv x) :: .int j :: .ref a :: rest) (hd : decode c.code g.pc = .ok (.dastore, 1)) :
    ∃ T' h', Stand p l e R s m args below meth c T' (locs ++ [⟨a, j.toNatClampNeg⟩]) cells slots ∧ T'.heap = h' ∧ Wr h h' a j.toNatClampNeg (vD x) ∧ Arf Z h' a .double vD n (Upd f j.toNatClampNeg x) ∧ ∀ target, Steps p.tables e below (T'.setTop { g with pc := g.pc + 1, stack := rest }) target → Steps p.tables e below (T.setTop g) target := by
  have F' := F
  obtain ⟨cl, A, S, H⟩ := F
  obtain ⟨T', h', X', e', W, st⟩ := stD X hx hZ eT A (Arf.inb S hj) hg hs hd
  exact ⟨T', h', X', e', W, F'.set W rfl, st⟩
end DArrays
theorem Arf.congr {α : Type} {Z : State} {h : Heap} {a : Addr} {ty : FieldType} {con : α → Value} {n : Nat} {f f' : Nat → α} (F : Arf Z h a ty con n f) (q : ∀ i, i < n → f i = f' i) : Arf Z h a ty con n f' := by
  obtain ⟨c, A, S, H⟩ := F
  exact ⟨c, A, S, fun i hi => by rw [H i hi, q i hi]⟩
end Jvm.Own
namespace Jvm.Own
open Sem ClassFile Op Lib Jvm.Stand Jvm.Free Jvm.LawKit Jvm.RoadKit
abbrev sI (x : Int32) : Slot := .val (.int x)
abbrev sJ (x : Int64) : Slot := .val (.long x)
abbrev sR (x : Addr) : Slot := .val (.ref x)
abbrev sD (x : UInt64) : Slot := .val (.double x)
abbrev sN : Slot := .val .null
abbrev s2 : Slot := .second
abbrev su : Slot := .unset
section Refs
variable {p : Program} {l : Launch} {e : Env} {R : Room} {s : State} {m : MethodId} {args : Array Value} {below : List Frame} {meth : Method} {c : Code} {T T' : State} {locs : List Loc} {cells slots : Nat} {Z : State} {a0 : Array Value} {h h' : Heap} {g g' : JFrame} {a b : Addr} {j : Int32} {rest : List Value}
/-- an array of objects of the class C -/
def Rbk (Z : State) (h : Heap) (b : Addr) (C : String) (n : Nat) (f : Nat → Value) : Prop := ∃ c : Cell, Arr Z h b c (.object C) ∧ Ovr Z c.cls C ∧ c.slots.size = n ∧ (∀ i, i < n → c.slots[i]? = some (f i)) ∧ ∀ i, (f i).isRef = true
variable {C : String} {n : Nat} {f : Nat → Value}
theorem Rbk.lt (F : Rbk Z h a C n f) : a < h.size := by obtain ⟨c, A, -⟩ := F; exact A.lt
theorem Rbk.ext (F : Rbk Z h a C n f) (E : Ext h h') : Rbk Z h' a C n f := by obtain ⟨c, A, r⟩ := F; exact ⟨c, A.ext E, r⟩
theorem Rbk.other {sl : Nat} {v : Value} (F : Rbk Z h b C n f) (W : Wr h h' a sl v) (q : b ≠ a) : Rbk Z h' b C n f := by obtain ⟨c, A, r⟩ := F; exact ⟨c, A.other W q, r⟩
theorem Rbk.keep {ws : List Addr} (F : Rbk Z h a C n f) (K : Keep h h' ws) (q : a ∉ ws) : Rbk Z h' a C n f := by obtain ⟨c, A, r⟩ := F; exact ⟨c, ⟨K.2.1 a c A.1 q, A.2⟩, r⟩
theorem Rbk.new {cA : ClassId} {z : Int32} (A : Arr Z h a (newA cA (.object C) z) (.object C)) (O : Ovr Z cA C) : Rbk Z h a C z.toNatClampNeg (fun _ => .null) :=
  ⟨_, A, O, sz_new _ _ _, fun i hi => by simp [newA, hi, defaultValue], fun _ => rfl⟩
theorem Rbk.congr {f' : Nat → Value} (F : Rbk Z h b C n f) (q : ∀ i, f' i = f i) : Rbk Z h b C n f' := by
  obtain rfl : f' = f := funext q
  exact F
theorem Arf.same {α : Type} {con : α → Value} {ty : FieldType} {f f' : Nat → α} (F : Arf Z h b ty con n f) (q : ∀ i, f' i = f i) : Arf Z h b ty con n f' := by
  obtain rfl : f' = f := funext q
  exact F
theorem acZero {α : Type} {f : Nat → α} {sp dp : Nat} : ∀ i, f i = if dp ≤ i ∧ i < dp + 0 then f (sp + (i - dp)) else f i := fun i => (if_neg (by omega)).symm
theorem acOne {α : Type} {f : Nat → α} {sp dp : Nat} {v : α} (hv : f sp = v) : ∀ i, Upd f dp v i = if dp ≤ i ∧ i < dp + 1 then f (sp + (i - dp)) else f i := by
  intro i
  unfold Upd
  by_cases q : i = dp
  · subst q
    rw [if_pos rfl, if_pos ⟨Nat.le_refl _, Nat.lt_succ_self _⟩, Nat.sub_self, Nat.add_zero, hv]
  · rw [if_neg q, if_neg (by omega)]
theorem cpL {f : Nat → Value} {sp dp len i : Nat} (h5 : dp + len ≤ n) (hi : i < n) (d : Value) :
    (((List.range n).map f).take dp ++ ((List.range len).map fun i => f (sp + i)) ++ ((List.range n).map f).drop (dp + len)).getD i d = if dp ≤ i ∧ i < dp + len then f (sp + (i - dp)) else f i := by
  by_cases q : i < dp
  · rw [if_neg (by omega)]
    have q4 : min dp n = dp := by omega
    simp [List.getD, List.getElem?_append, q, hi, q4]
    done
  · by_cases q2 : i < dp + len
    · rw [if_pos ⟨by omega, q2⟩]
      have q3 : i - dp < len := by omega
      have q4 : min dp n = dp := by omega
      simp [List.getD, List.getElem?_append, q, q2, q3, q4]
    · rw [if_neg (by omega)]
      have q3 : ¬ i - dp < len := by omega
      have q4 : min dp n = dp := by omega
      have q5 : dp + len + (i - (dp + len)) = i := by omega
      have q6 : i - dp - len = i - (dp + len) := by omega
      simp [List.getD, List.getElem?_append, q, q2, q3, q4, q5, q6, hi]
/-- the same in an array of numbers -/
theorem acA {α : Type} {con : α → Value} {ty : FieldType} {f : Nat → α} (X : Stand p l e R s m args below meth c T locs cells slots) (hx : p.tables.exec = Jvm.exec) (hZ : Z.Warmed39 s.vm) {own : String} {index : Nat} (hown : s.vm.findClass own = some m.cls)
    (w1 : (Jvm.Cond.methodLink own index Jvm.Stand.acN).before a0 Z = true) (w2 : (Jvm.Cond.native Jvm.Stand.acN).before a0 Z = true) (w3 : (Jvm.Cond.static Jvm.Stand.acN).before a0 Z = true) (w4 : (Jvm.Cond.initialized "java/lang/System").before a0 Z = true) (eT : T.heap = h)
    (F : Arf Z h b ty con n f) (hty : refKind ty = false) (hf : ∀ x, fits ty (con x) = true) {sp dp nn : Int32} {sp' dp' len : Nat} (q1 : ¬ sp < 0 ∧ sp.toNatClampNeg = sp') (q2 : ¬ dp < 0 ∧ dp.toNatClampNeg = dp') (q3 : ¬ nn < 0 ∧ nn.toNatClampNeg = len) (h4 : sp' + len ≤ n) (h5 : dp' + len ≤ n) (hn : n < 2 ^ 31) {n0 : Nat} (N : Fr n0 locs) (ge : n0 ≤ b)
    (hg : g.method = m) (hsize : g.locals.size = c.maxLocals) (hs : g.stack = .int nn :: .int dp :: .ref b :: .int sp :: .ref b :: rest) (hd : decode c.code g.pc = .ok (.invokestatic index, 3))
    (hfr : 1 ≤ R.frames) {W : Nat} (hW : 2 * g.monitorRoom + (rest.map fun v => v.category).sum ≤ W) (hlo : W + (nativeFrameWords "java/lang/System" "arraycopy" 5 + 11) ≤ R.locals) :
    ∃ T' h' L, Stand p l e R s m args below meth c T' L cells slots ∧ T'.heap = h' ∧ Fr n0 L ∧ Keep h h' [b] ∧ Arf Z h' b ty con n (fun i => if dp' ≤ i ∧ i < dp' + len then f (sp' + (i - dp')) else f i) ∧
      ∀ target, Steps p.tables e below (T'.setTop { g with pc := g.pc + 3, stack := rest }) target → Steps p.tables e below (T.setTop g) target := by
  obtain ⟨k, V⟩ := F.arv hn hf .null
  obtain ⟨T', h', L, X', e', F', K', V', st⟩ := cpA X hx hZ hown w1 w2 w3 w4 eT V V (us := (List.range len).map fun i => con (f (sp' + i))) (Or.inl ⟨rfl, hty⟩) (sp := sp) (dp := dp) (nn := nn) q1.1 q2.1 q3.1 (by rw [q1.2, q3.2, nat32 hn]; exact h4) (by rw [q2.2, q3.2, nat32 hn]; exact h5)
    (by rw [q1.2, q3.2]; refine List.map_congr_left fun i hi => ?_
        have hi2 := List.mem_range.mp hi
        have q : sp' + i < n := by omega
        simp [List.getD, q]) (by rw [q2.2, q3.2]; simp; exact h5) N ge hg hsize hs hd hfr hW hlo
  refine ⟨T', h', L, X', e', F', K', Arv.arf V' (nat32 hn) fun i hi => ?_, st⟩
  rw [q2.2, q3.2, cpL (f := fun i => con (f i)) h5 hi]
  split
  · rfl
  · rfl
end Refs
end Jvm.Own
namespace Jvm.Own
open Sem ClassFile Op Lib Jvm.Stand Jvm.Free Jvm.LawKit Jvm.RoadKit
section Grow
variable {p : Program} {l : Launch} {e : Env} {R : Room} {s : State} {m : MethodId} {args : Array Value} {below : List Frame} {meth : Method} {c : Code} {T T' : State} {locs : List Loc} {cells slots : Nat} {Z : State} {a0 : Array Value} {h h' : Heap} {g g' : JFrame} {a b : Addr} {n n' : Nat} {rest : List Value}
def Cp {α : Type} (f' f : Nat → α) (sp dp len : Nat) : Nat → α := fun i => if dp ≤ i ∧ i < dp + len then f (sp + (i - dp)) else f' i
theorem cpL2 {f f' : Nat → Value} {sp dp len i : Nat} (h5 : dp + len ≤ n) (hi : i < n) (d : Value) :
    (((List.range n).map f').take dp ++ ((List.range len).map fun i => f (sp + i)) ++ ((List.range n).map f').drop (dp + len)).getD i d = if dp ≤ i ∧ i < dp + len then f (sp + (i - dp)) else f' i := by
  by_cases q : i < dp
  · rw [if_neg (by omega)]
    have q4 : min dp n = dp := by omega
    simp [List.getD, List.getElem?_append, q, hi, q4]
    done
  · by_cases q2 : i < dp + len
    · rw [if_pos ⟨by omega, q2⟩]
      have q3 : i - dp < len := by omega
      have q4 : min dp n = dp := by omega
      simp [List.getD, List.getElem?_append, q, q2, q3, q4]
    · rw [if_neg (by omega)]
      have q3 : ¬ i - dp < len := by omega
      have q4 : min dp n = dp := by omega
      have q5 : dp + len + (i - (dp + len)) = i := by omega
      have q6 : i - dp - len = i - (dp + len) := by omega
      simp [List.getD, List.getElem?_append, q, q2, q3, q4, q5, q6, hi]
/-- System.arraycopy(a, sp, b, dp, len) of two arrays of numbers -/
theorem acG {α : Type} {con : α → Value} {ty : FieldType} {f f' : Nat → α} (X : Stand p l e R s m args below meth c T locs cells slots) (hx : p.tables.exec = Jvm.exec) (hZ : Z.Warmed39 s.vm) {own : String} {index : Nat} (hown : s.vm.findClass own = some m.cls)
    (w1 : (Jvm.Cond.methodLink own index Jvm.Stand.acN).before a0 Z = true) (w2 : (Jvm.Cond.native Jvm.Stand.acN).before a0 Z = true) (w3 : (Jvm.Cond.static Jvm.Stand.acN).before a0 Z = true) (w4 : (Jvm.Cond.initialized "java/lang/System").before a0 Z = true) (eT : T.heap = h)
    (A : Arf Z h a ty con n f) (F : Arf Z h b ty con n' f') (hty : refKind ty = false) (hf : ∀ x, fits ty (con x) = true) {sp dp nn : Int32} {sp' dp' len : Nat} (q1 : ¬ sp < 0 ∧ sp.toNatClampNeg = sp') (q2 : ¬ dp < 0 ∧ dp.toNatClampNeg = dp') (q3 : ¬ nn < 0 ∧ nn.toNatClampNeg = len) (h4 : sp' + len ≤ n) (h5 : dp' + len ≤ n') (hn : n < 2 ^ 31) (hn' : n' < 2 ^ 31) {n0 : Nat} (N : Fr n0 locs) (ge : n0 ≤ b)
    (hg : g.method = m) (hsize : g.locals.size = c.maxLocals) (hs : g.stack = .int nn :: .int dp :: .ref b :: .int sp :: .ref a :: rest) (hd : decode c.code g.pc = .ok (.invokestatic index, 3))
    (hfr : 1 ≤ R.frames) {W : Nat} (hW : 2 * g.monitorRoom + (rest.map fun v => v.category).sum ≤ W) (hlo : W + (nativeFrameWords "java/lang/System" "arraycopy" 5 + 11) ≤ R.locals) :
    ∃ T' h' L, Stand p l e R s m args below meth c T' L cells slots ∧ T'.heap = h' ∧ Fr n0 L ∧ Keep h h' [b] ∧ Arf Z h' b ty con n' (Cp f' f sp' dp' len) ∧
      ∀ target, Steps p.tables e below (T'.setTop { g with pc := g.pc + 3, stack := rest }) target → Steps p.tables e below (T.setTop g) target := by
  obtain ⟨k, V⟩ := A.arv hn hf .null
  obtain ⟨k', V2⟩ := F.arv hn' hf .null
  obtain ⟨T', h', L, X', e', F', K', V', st⟩ := cpA X hx hZ hown w1 w2 w3 w4 eT V V2 (us := (List.range len).map fun i => con (f (sp' + i))) (Or.inl ⟨rfl, hty⟩) (sp := sp) (dp := dp) (nn := nn) q1.1 q2.1 q3.1 (by rw [q1.2, q3.2, nat32 hn]; exact h4) (by rw [q2.2, q3.2, nat32 hn']; exact h5)
    (by rw [q1.2, q3.2]; refine List.map_congr_left fun i hi => ?_
        have hi2 := List.mem_range.mp hi
        have q : sp' + i < n := by omega
        simp [List.getD, q]) (by rw [q2.2, q3.2]; simp; exact h5) N ge hg hsize hs hd hfr hW hlo
  refine ⟨T', h', L, X', e', F', K', Arv.arf V' (nat32 hn') fun i hi => ?_, st⟩
  rw [q2.2, q3.2, cpL2 (f := fun i => con (f i)) (f' := fun i => con (f' i)) h5 hi]
  show _ = con (if dp' ≤ i ∧ i < dp' + len then f (sp' + (i - dp')) else f' i)
  split
  · rfl
  · rfl
theorem acTwo {α : Type} {f : Nat → α} {k : Nat} : ∀ i, Upd (Upd f (k + 2) (f (k + 1))) (k + 1) (f k) i = if k + 1 ≤ i ∧ i < k + 1 + 2 then f (k + (i - (k + 1))) else f i := by
  intro i
  unfold Upd
  by_cases q1 : i = k + 1
  · subst q1
    rw [if_pos rfl, if_pos ⟨Nat.le_refl _, by omega⟩, Nat.sub_self, Nat.add_zero]
  · rw [if_neg q1]
    by_cases q2 : i = k + 2
    · subst q2
      rw [if_pos rfl, if_pos ⟨by omega, by omega⟩]
      have q3 : k + (k + 2 - (k + 1)) = k + 1 := by omega
      rw [q3]
    · rw [if_neg q2, if_neg (by omega)]
/-- a constructor at an entry that is resolved already (methodRef), by its contract -/
theorem Goes.callCR {P : Outcome → State → Prop} (X : Stand p l e R s m args below meth c T locs cells slots) (hx : p.tables.exec = Jvm.exec) (hZ : Z.Warmed39 s.vm) {own : String} {index : Nat} {y : MethodName} {bytes : ByteArray} {maxL : Nat} {rm : Room} {as' : Array Value} {Q : Option Value → Heap → List Loc → Prop} (W : Nat) (hy1 : y.name = "<init>")
    (hown : s.vm.findClass own = some m.cls) (w1 : (Jvm.Cond.methodRef own index y).before a0 Z = true) (w2 : (Jvm.Cond.instanceMethod y).before a0 Z = true) (w3 : (Jvm.Cond.initialized y.cls).before a0 Z = true) (w4 : (Jvm.Cond.code y bytes maxL none).before a0 Z = true) (hy : y.cls ≠ "java/lang/invoke/MethodHandle" ∧ y.cls ≠ "java/lang/invoke/VarHandle")
    (eT : T.heap = h) (hM : Pays l Z y bytes maxL none [] rm as' h Q) (hf : rm.frames + 1 ≤ R.frames) (hl : W + (maxL + 11) + rm.locals ≤ R.locals) (hc : cells + rm.cells ≤ R.cells) (hs : slots + rm.slots ≤ R.slots)
    (hg : g.method = m) (hsize : g.locals.size = c.maxLocals) {a : Addr} {argsL rest : List Value} (has : (Value.ref a :: argsL).toArray = as') (hlen : ∀ sig, parseMethodDescriptor y.desc = some sig → argsL.length = sig.parameters.length) (hstack : g.stack = argsL.reverse ++ .ref a :: rest) (hW : 2 * g.monitorRoom + (rest.map fun v => v.category).sum ≤ W)
    (hd : decode c.code g.pc = .ok (.invokespecial index, 3))
    (k : ∀ v T' L, Stand p l e R s m args below meth c T' (locs ++ L) (cells + rm.cells) (slots + rm.slots) → Q v T'.heap L → Goes p e below P T' { g with pc := g.pc + 3, stack := v.toList ++ rest }) : Goes p e below P T g := by
  obtain ⟨m0, meth0, hn0, -⟩ := Cond.instanceMethod_spec w2
  have hnS : (Z.setVm s.vm).methodNamed? y = some m0 := by rw [State.methodNamed?_setVm hZ.alike]; exact hn0
  have hr : ∀ (U : State) (r : MethodId), s.WarmedH U.vm → s.methodNamed? y = some r → namesResolved U.vm m.cls index r.cls ∧ U.vm.methodReady m.cls index r := by
    intro U r hU hn
    have hT : Z.Warmed39 U.vm := wtrans hZ hU
    have hnU : (Z.setVm U.vm).methodNamed? y = some m0 := by rw [State.methodNamed?_setVm hT.alike]; exact hn0
    obtain rfl : m0 = r := Option.some.inj (hnS.symm.trans (show (Z.setVm s.vm).methodNamed? y = some r from hn))
    obtain ⟨mm, c', h1, h2, h3, h4⟩ := Cond.methodRef_named e (s := Z.setVm U.vm) (cur := m.cls) (by show U.vm.findClass own = _; rw [hU.alike.findClass]; exact hown) (Cond.methodRef_warmed39 hT hn0 hy w1)
    cases (State.methodFound?_of_named hnU hy).symm.trans h1
    cases (findClass_of_methodNamed hnU).symm.trans h3
    exact ⟨h4, h2⟩
  have SC : SCall p l e R s m args below meth c index y := SCall.of_ready hx hy1 (mvT hZ w2) (mvT hZ w4) hr
  obtain ⟨v, _, ⟨T', L', k', n'⟩, -, X', ⟨Lc, hQ, l', y', z'⟩, st⟩ := SC X (backOf (W := W) hM hZ w4 w3 hf hl) hg hsize (Steps.refl _) (a := a) (argsL := argsL) (rest := rest) hlen hstack hW hd (fun _ _ => ⟨has, eT, hc, hs⟩)
  dsimp only [Pt.U, Pt.locs, Pt.cells, Pt.slots] at X' l' y' z' st hQ
  subst l' y' z'
  exact Goes.on (fun _ q => st.trans q) (k v T' Lc X' hQ)
def Shf {α : Type} (f : Nat → α) (k n : Nat) : Nat → α := fun i => if k + 1 ≤ i ∧ i < k + 1 + n then f (k + (i - (k + 1))) else f i
theorem Rbk.neE {C D : String} {f : Nat → Value} {k : Nat} (F : Rbk Z h b C n f) (E : Exa Z h a D) (wi : (Jvm.Cond.instantiable D k).before a0 Z = true) : a ≠ b := by
  obtain ⟨c, A, -⟩ := F
  exact ne_arr E wi A
theorem Arf.neE {α : Type} {con : α → Value} {ty : FieldType} {D : String} {f : Nat → α} {k : Nat} (F : Arf Z h b ty con n f) (E : Exa Z h a D) (wi : (Jvm.Cond.instantiable D k).before a0 Z = true) : a ≠ b := by
  obtain ⟨c, A, -⟩ := F
  exact ne_arr E wi A
theorem Pays.imp {y : MethodName} {bytes : ByteArray} {maxL : Nat} {ret : Option FieldType} {ws : List Jvm.Cond} {rm : Room} {as : Array Value} {h0 : Heap} {Q Q' : Option Value → Heap → List Loc → Prop} (F : Pays l Z y bytes maxL ret ws rm as h0 Q) (hq : ∀ v h L, Q v h L → Q' v h L) : Pays l Z y bytes maxL ret ws rm as h0 Q' :=
  MetFree.imp F fun _ _ _ _ ⟨v, L, e, q, r⟩ => ⟨v, L, e, hq _ _ _ q, r⟩
theorem Goes.joinA {P : Outcome → State → Prop} {n0 : Nat} {C : Prop} (X : Stand p l e R s m args below meth c T locs cells slots) {fr : JFrame} (k : C → ∀ T' locs', Stand p l e R s m args below meth c T' locs' cells slots → T'.heap = h → Fr n0 locs' → Goes p e below P T' fr) (u : (C → ∀ T' locs', Stand p l e R s m args below meth c T' locs' cells slots → T'.heap = h → Fr n0 locs' → Goes p e below P T' fr) → Goes p e below P T g) : Goes p e below P T g := u k
theorem Goes.join1 {P : Outcome → State → Prop} (k : Goes p e below P T' g') (u : Goes p e below P T' g' → Goes p e below P T g) : Goes p e below P T g := u k
theorem Goes.eqJ {P : Outcome → State → Prop} {fr : Int64 → JFrame} {x y : Int64} (q : x = y) (k : Goes p e below P T (fr x)) : Goes p e below P T (fr y) := q ▸ k
end Grow
end Jvm.Own
namespace Jvm.Pilot.@@N@@
open Jvm Jvm.ClassFile Sem Op Lib Jvm.Free Jvm.Stand Jvm.LawKit Jvm.RoadKit Bundle Jvm.Own Jvm.Pilot.@@N@@.Jvm.D
set_option maxRecDepth 65536
set_option maxHeartbeats 40000000
abbrev TW (Z : State) (a0 : Array Value) : Prop := ∀ d ∈ tables_1, d.before a0 Z = true
theorem own_le20 {W n : Nat} (h : n = W) : 2 * 0 + n ≤ W := by omega
theorem own_neG {b a n : Addr} (x : b < n) (g : a = n) : b ≠ a := Nat.ne_of_lt (Nat.lt_of_lt_of_le x (Nat.le_of_eq g.symm))
theorem own_neL {b a n : Addr} (x : b < n) (g : n ≤ a) : b ≠ a := Nat.ne_of_lt (Nat.lt_of_lt_of_le x g)
theorem own_leW {h h' : Heap} {a : Addr} {sl n : Nat} {v : Value} (W : Wr h h' a sl v) (z : n ≤ h.size) : n ≤ h'.size := by rw [W.size]; exact z
theorem own_w {Z : State} {a0 : Array Value} (hw : TW Z a0) (i : Nat) {d : Jvm.Cond} (h : tables_1[i]? = some d) : d.before a0 Z = true := hw d (List.mem_of_getElem? h)
theorem own_sm {u : Int32} (h : 0 ≤ u.toInt ∧ u.toInt ≤ 8) : u = (0 : Int32) ∨ u = (1 : Int32) ∨ u = (2 : Int32) ∨ u = (3 : Int32) ∨ u = (4 : Int32) ∨ u = (5 : Int32) ∨ u = (6 : Int32) ∨ u = (7 : Int32) ∨ u = (8 : Int32) := by
  have k0 : (0 : Int32).toInt = 0 := rfl
  have k1 : (1 : Int32).toInt = 1 := rfl
  have k2 : (2 : Int32).toInt = 2 := rfl
  have k3 : (3 : Int32).toInt = 3 := rfl
  have k4 : (4 : Int32).toInt = 4 := rfl
  have k5 : (5 : Int32).toInt = 5 := rfl
  have k6 : (6 : Int32).toInt = 6 := rfl
  have k7 : (7 : Int32).toInt = 7 := rfl
  have k8 : (8 : Int32).toInt = 8 := rfl
  simp only [← Int32.toInt_inj, k0, k1, k2, k3, k4, k5, k6, k7, k8]
  omega
theorem own_mid1 {u : Int32} (h : 0 ≤ u.toInt ∧ u.toInt ≤ 8) : ((u + (u + (1 : Int32))).toUInt32 >>> ((1 : Int32) &&& 31).toUInt32).toInt32 = u := by
  rcases own_sm h with rfl | rfl | rfl | rfl | rfl | rfl | rfl | rfl | rfl <;> decide
theorem own_mid2 {u : Int32} (h : 0 ≤ u.toInt ∧ u.toInt ≤ 8) : ((u + (u + (2 : Int32))).toUInt32 >>> ((1 : Int32) &&& 31).toUInt32).toInt32 = u + (1 : Int32) := by
  rcases own_sm h with rfl | rfl | rfl | rfl | rfl | rfl | rfl | rfl | rfl <;> decide
theorem own_a0 {u : Int32} (h : 0 ≤ u.toInt ∧ u.toInt ≤ 8) : u + (0 : Int32) = u := by
  rcases own_sm h with rfl | rfl | rfl | rfl | rfl | rfl | rfl | rfl | rfl <;> decide
theorem own_a11 {u : Int32} (h : 0 ≤ u.toInt ∧ u.toInt ≤ 8) : (u + (1 : Int32)) + (1 : Int32) = u + (2 : Int32) := by
  rcases own_sm h with rfl | rfl | rfl | rfl | rfl | rfl | rfl | rfl | rfl <;> decide
theorem own_s10 {u : Int32} (h : 0 ≤ u.toInt ∧ u.toInt ≤ 8) : (u + (1 : Int32)) - (1 : Int32) = u := by
  rcases own_sm h with rfl | rfl | rfl | rfl | rfl | rfl | rfl | rfl | rfl <;> decide
theorem own_s21 {u : Int32} (h : 0 ≤ u.toInt ∧ u.toInt ≤ 8) : (u + (2 : Int32)) - (1 : Int32) = u + (1 : Int32) := by
  rcases own_sm h with rfl | rfl | rfl | rfl | rfl | rfl | rfl | rfl | rfl <;> decide
theorem own_d00 (u : Int32) : u - u = (0 : Int32) := Int32.sub_self u
theorem own_d10 {u : Int32} (h : 0 ≤ u.toInt ∧ u.toInt ≤ 8) : (u + (1 : Int32)) - u = (1 : Int32) := by
  rcases own_sm h with rfl | rfl | rfl | rfl | rfl | rfl | rfl | rfl | rfl <;> decide
theorem own_d20 {u : Int32} (h : 0 ≤ u.toInt ∧ u.toInt ≤ 8) : (u + (2 : Int32)) - u = (2 : Int32) := by
  rcases own_sm h with rfl | rfl | rfl | rfl | rfl | rfl | rfl | rfl | rfl <;> decide
theorem own_d21 {u : Int32} (h : 0 ≤ u.toInt ∧ u.toInt ≤ 8) : (u + (2 : Int32)) - (u + (1 : Int32)) = (1 : Int32) := by
  rcases own_sm h with rfl | rfl | rfl | rfl | rfl | rfl | rfl | rfl | rfl <;> decide
theorem own_irr (u : Int32) : ¬ u < u := by rw [Int32.lt_iff_toInt_lt]; omega
theorem own_lt01 {u : Int32} (h : 0 ≤ u.toInt ∧ u.toInt ≤ 8) : u < u + (1 : Int32) := by
  rcases own_sm h with rfl | rfl | rfl | rfl | rfl | rfl | rfl | rfl | rfl <;> decide
theorem own_lt02 {u : Int32} (h : 0 ≤ u.toInt ∧ u.toInt ≤ 8) : u < u + (2 : Int32) := by
  rcases own_sm h with rfl | rfl | rfl | rfl | rfl | rfl | rfl | rfl | rfl <;> decide
theorem own_lt12 {u : Int32} (h : 0 ≤ u.toInt ∧ u.toInt ≤ 8) : u + (1 : Int32) < u + (2 : Int32) := by
  rcases own_sm h with rfl | rfl | rfl | rfl | rfl | rfl | rfl | rfl | rfl <;> decide
theorem own_lt10 {u : Int32} (h : 0 ≤ u.toInt ∧ u.toInt ≤ 8) : ¬ u + (1 : Int32) < u := by
  rcases own_sm h with rfl | rfl | rfl | rfl | rfl | rfl | rfl | rfl | rfl <;> decide
theorem own_n1 {u : Int32} (h : 0 ≤ u.toInt ∧ u.toInt ≤ 8) : (u + (1 : Int32)).toNatClampNeg = u.toNatClampNeg + 1 ∧ ¬ (u + (1 : Int32)) < 0 := by
  rcases own_sm h with rfl | rfl | rfl | rfl | rfl | rfl | rfl | rfl | rfl <;> decide
theorem own_n2 {u : Int32} (h : 0 ≤ u.toInt ∧ u.toInt ≤ 8) : (u + (2 : Int32)).toNatClampNeg = u.toNatClampNeg + 2 ∧ ¬ (u + (2 : Int32)) < 0 := by
  rcases own_sm h with rfl | rfl | rfl | rfl | rfl | rfl | rfl | rfl | rfl <;> decide
theorem own_n11 {u : Int32} (h : 0 ≤ u.toInt ∧ u.toInt ≤ 8) : ¬ ((u + (1 : Int32)) + (1 : Int32)) < 0 ∧ ((u + (1 : Int32)) + (1 : Int32)).toNatClampNeg = (u + (1 : Int32)).toNatClampNeg + 1 := by
  rcases own_sm h with rfl | rfl | rfl | rfl | rfl | rfl | rfl | rfl | rfl <;> decide
theorem own_n21 {u : Int32} (h : 0 ≤ u.toInt ∧ u.toInt ≤ 8) : ¬ ((u + (2 : Int32)) + (1 : Int32)) < 0 ∧ ((u + (2 : Int32)) + (1 : Int32)).toNatClampNeg = (u + (2 : Int32)).toNatClampNeg + 1 := by
  rcases own_sm h with rfl | rfl | rfl | rfl | rfl | rfl | rfl | rfl | rfl <;> decide
theorem own_cs {c cap : Int32} (hc : c = (0 : Int32) ∨ c = (1 : Int32) ∨ c = (2 : Int32)) (hp : cap = (1 : Int32) ∨ cap = (2 : Int32) ∨ cap = (3 : Int32)) : 0 ≤ (c * cap).toInt ∧ (c * cap).toInt ≤ 8 ∧ (c * cap).toNatClampNeg = c.toNatClampNeg * cap.toNatClampNeg ∧ ¬ (c * cap) < 0 := by
  rcases hc with rfl | rfl | rfl <;> rcases hp with rfl | rfl | rfl <;> decide
theorem own_bd {k M cp : Nat} (h : k < M) : k * cp + cp ≤ M * cp := by
  have q := Nat.mul_le_mul_right cp (Nat.succ_le_of_lt h)
  rw [Nat.succ_mul] at q
  exact q
theorem own_b0 {u k M cp NN d : Nat} (hk : u = k * cp) (hlt : k < M) (hN : NN = M * cp) (hd : d + 1 ≤ cp) : u + d < NN := by
  have q := own_bd (cp := cp) hlt
  rw [hk, hN]
  omega
theorem own_nb {M cp NN : Nat} (hM : M = 1 ∨ M = 2 ∨ M = 3) (hcp : cp ≤ 3) (hN : NN = M * cp) : NN < 2 ^ 31 := by
  rcases hM with rfl | rfl | rfl <;> omega
theorem own_cpn {cap : Int32} (hp : cap = (1 : Int32) ∨ cap = (2 : Int32) ∨ cap = (3 : Int32)) : (cap.toNatClampNeg : Int) = cap.toInt ∧ 1 ≤ cap.toNatClampNeg ∧ cap.toNatClampNeg ≤ 3 := by
  rcases hp with rfl | rfl | rfl <;> decide
def own_one (s : Int32) (p0 : DK) (i0 : Int64) (p : DK) (x : Int64) (s' : Int32) (t' p0' p1' : DK) (i0' : Int64) : Prop :=
  (s' = (1 : Int32) ∨ s' = (2 : Int32) ∨ s' = (3 : Int32)) ∧ s'.toInt ≤ s.toInt + 1 ∧ ((s = (0 : Int32) ∨ p.1 < p0.1) → p0' = p ∧ i0' = x) ∧ (¬ (s = (0 : Int32) ∨ p.1 < p0.1) → p0' = p0 ∧ i0' = i0) ∧ (s' ≠ (3 : Int32) → p0'.1 ≤ t'.1) ∧ (s' = (2 : Int32) → p0'.1 ≤ p1'.1)
theorem own_oc {s s1 s' s1' : Int32} {t' t1 p0 p p0' p1' q0 q1 : DK} {i0 x i0' j0 : Int64} (h0 : s = s1) (h1 : s' = s1') (h2 : t' = t1) (h3 : p0' = q0) (h4 : p1' = q1) (h5 : i0' = j0) (O : own_one s1 p0 i0 p x s1' t1 q0 q1 j0) : own_one s p0 i0 p x s' t' p0' p1' i0' := by
  subst h0 h1 h2 h3 h4 h5
  exact O
def own_lr (k a cp : Nat) (sz : Nat → Int32) (th pt : Nat → DK) (idn : Nat → Int64) (p : DK) (x : Int64) (sz' : Nat → Int32) (th' pt' : Nat → DK) (idn' : Nat → Int64) : Prop :=
  (∀ i, i ≠ k → sz' i = sz i ∧ th' i = th i) ∧ (∀ y, (y < a ∨ a + cp ≤ y) → pt' y = pt y ∧ idn' y = idn y) ∧ own_one (sz k) (pt a) (idn a) p x (sz' k) (th' k) (pt' a) (pt' (a + 1)) (idn' a) ∧ (sz' k).toInt ≤ (cp : Int)
def own_ir (M k : Nat) (cap l : Int32) (sz : Nat → Int32) (th pt : Nat → DK) (idn : Nat → Int64) (p : DK) (x : Int64) (cap' : Int32) (N' : Nat) (sz' : Nat → Int32) (th' pt' : Nat → DK) (idn' : Nat → Int64) : Prop :=
  N' = M * cap'.toNatClampNeg ∧ (cap' = (1 : Int32) ∨ cap' = (2 : Int32) ∨ cap' = (3 : Int32)) ∧ cap'.toInt ≤ l.toInt ∧ cap.toInt ≤ cap'.toInt ∧
  (∀ i, i < M → i ≠ k → sz' i = sz i ∧ th' i = th i ∧ (sz i ≠ (0 : Int32) → pt' (i * cap'.toNatClampNeg) = pt (i * cap.toNatClampNeg) ∧ idn' (i * cap'.toNatClampNeg) = idn (i * cap.toNatClampNeg)) ∧ (sz i = (2 : Int32) → pt' (i * cap'.toNatClampNeg + 1) = pt (i * cap.toNatClampNeg + 1))) ∧
  own_one (sz k) (pt (k * cap.toNatClampNeg)) (idn (k * cap.toNatClampNeg)) p x (sz' k) (th' k) (pt' (k * cap'.toNatClampNeg)) (pt' (k * cap'.toNatClampNeg + 1)) (idn' (k * cap'.toNatClampNeg)) ∧ (sz' k).toInt ≤ cap'.toInt
def own_gr {α : Type} (M cp cp' : Nat) (sz : Nat → Int32) (f f2 : Nat → α) : Prop := ∀ i, i < M → ∀ d, d < (sz i).toNatClampNeg → f2 (i * cp' + d) = f (i * cp + d)
theorem own_dis {i k cp d : Nat} (h : i ≠ k) (hd : d < cp) : i * cp + d < k * cp ∨ k * cp + cp ≤ i * cp + d := by
  rcases Nat.lt_or_gt_of_ne h with q | q
  · have r := own_bd (cp := cp) q
    omega
  · have r := own_bd (cp := cp) q
    omega
theorem own_dis0 {i k cp : Nat} (h : i ≠ k) (hd : 0 < cp) : i * cp < k * cp ∨ k * cp + cp ≤ i * cp := by
  have q := own_dis (d := 0) h hd
  omega
theorem own_lr_ir {M k N a : Nat} {cap l : Int32} {sz sz' : Nat → Int32} {th pt th' pt' : Nat → DK} {idn idn' : Nat → Int64} {p : DK} {x : Int64} (hN : N = M * cap.toNatClampNeg) (hcap : cap = (1 : Int32) ∨ cap = (2 : Int32) ∨ cap = (3 : Int32)) (hcl : cap.toInt ≤ l.toInt)
    (hz : ∀ i, i < M → 0 ≤ (sz i).toInt ∧ (sz i).toInt ≤ cap.toInt) (ha : a = k * cap.toNatClampNeg) (H : own_lr k a cap.toNatClampNeg sz th pt idn p x sz' th' pt' idn') : own_ir M k cap l sz th pt idn p x cap N sz' th' pt' idn' := by
  subst ha
  obtain ⟨h1, h2, h3, h4⟩ := H
  have hcn := own_cpn hcap
  refine ⟨hN, hcap, hcl, Int.le_refl _, fun i hi hik => ⟨(h1 i hik).1, (h1 i hik).2, fun _ => h2 _ (own_dis0 hik (by omega)), fun hs2 => ?_⟩, h3, by omega⟩
  have q := (hz i hi).2
  have k2 : (2 : Int32).toInt = 2 := rfl
  rw [hs2, k2] at q
  exact (h2 _ (own_dis hik (by omega))).1
theorem own_pos {s : Int32} (h : 0 ≤ s.toInt) (h0 : s ≠ (0 : Int32)) : 0 < s.toNatClampNeg := by
  have q : s.toInt ≠ 0 := fun e => h0 (Int32.toInt_inj.mp e)
  simp only [Int32.toNatClampNeg]
  omega
theorem own_gr_ir {M k N' : Nat} {cap cap' l : Int32} {a : Nat} {sz sz' : Nat → Int32} {th pt pt2 th' pt' : Nat → DK} {idn id2 idn' : Nat → Int64} {p : DK} {x : Int64} (hN : N' = M * cap'.toNatClampNeg) (hcap : cap' = (1 : Int32) ∨ cap' = (2 : Int32) ∨ cap' = (3 : Int32)) (hcl : cap'.toInt ≤ l.toInt) (hcc : cap.toInt ≤ cap'.toInt) (hk : k < M)
    (hz : ∀ i, i < M → 0 ≤ (sz i).toInt ∧ (sz i).toInt ≤ cap.toInt) (h0 : sz k ≠ (0 : Int32)) (g1 : own_gr M cap.toNatClampNeg cap'.toNatClampNeg sz pt pt2) (g2 : own_gr M cap.toNatClampNeg cap'.toNatClampNeg sz idn id2) (ha : a = k * cap'.toNatClampNeg) (H : own_lr k a cap'.toNatClampNeg sz th pt2 id2 p x sz' th' pt' idn') : own_ir M k cap l sz th pt idn p x cap' N' sz' th' pt' idn' := by
  subst ha
  obtain ⟨h1, h2, h3, h4⟩ := H
  have hcn := own_cpn hcap
  have q1 := g1 k hk 0 (own_pos (hz k hk).1 h0)
  have q2 := g2 k hk 0 (own_pos (hz k hk).1 h0)
  rw [Nat.add_zero, Nat.add_zero] at q1 q2
  rw [q1, q2] at h3
  refine ⟨hN, hcap, hcl, hcc, fun i hi hik => ⟨(h1 i hik).1, (h1 i hik).2, fun hs0 => ?_, fun hs2 => ?_⟩, h3, by omega⟩
  · have r1 := g1 i hi 0 (own_pos (hz i hi).1 hs0)
    have r2 := g2 i hi 0 (own_pos (hz i hi).1 hs0)
    rw [Nat.add_zero, Nat.add_zero] at r1 r2
    have r := h2 _ (own_dis0 hik (show 0 < cap'.toNatClampNeg by omega))
    exact ⟨r.1.trans r1, r.2.trans r2⟩
  · have q := (hz i hi).2
    have k2 : (2 : Int32).toInt = 2 := rfl
    rw [hs2, k2] at q
    have n2 : (2 : Int32).toNatClampNeg = 2 := rfl
    have r1 := g1 i hi 1 (by rw [hs2, n2]; decide)
    exact (h2 _ (own_dis hik (show 1 < cap'.toNatClampNeg by omega))).1.trans r1
theorem own_gr1 {α : Type} {z f : Nat → α} {sz : Nat → Int32} {cp cp' : Nat} : own_gr 1 cp cp' sz f (Cp z f 0 0 (sz 0).toNatClampNeg) := by
  intro i hi d hd
  obtain rfl : i = 0 := by omega
  show (if 0 ≤ 0 * cp' + d ∧ 0 * cp' + d < 0 + (sz 0).toNatClampNeg then f (0 + (0 * cp' + d - 0)) else z (0 * cp' + d)) = f (0 * cp + d)
  rw [if_pos ⟨by omega, by omega⟩]
  have q : 0 + (0 * cp' + d - 0) = 0 * cp + d := by omega
  rw [q]
theorem own_gr2 {α : Type} {z f : Nat → α} {sz : Nat → Int32} {cp cp' : Nat} (h : cp ≤ cp') (hz : ∀ i, i < 2 → (sz i).toNatClampNeg ≤ cp) : own_gr 2 cp cp' sz f (Cp (Cp z f 0 0 (sz 0).toNatClampNeg) f cp cp' (sz 1).toNatClampNeg) := by
  intro i hi d hd
  have q0 := hz 0 (by decide)
  have q1 := hz 1 (by decide)
  rcases (show i = 0 ∨ i = 1 by omega) with rfl | rfl
  · show (if cp' ≤ 0 * cp' + d ∧ 0 * cp' + d < cp' + (sz 1).toNatClampNeg then f (cp + (0 * cp' + d - cp')) else Cp z f 0 0 (sz 0).toNatClampNeg (0 * cp' + d)) = f (0 * cp + d)
    rw [if_neg (by omega)]
    exact own_gr1 (cp := cp) (cp' := cp') 0 (by decide) d hd
  · show (if cp' ≤ 1 * cp' + d ∧ 1 * cp' + d < cp' + (sz 1).toNatClampNeg then f (cp + (1 * cp' + d - cp')) else Cp z f 0 0 (sz 0).toNatClampNeg (1 * cp' + d)) = f (1 * cp + d)
    rw [if_pos ⟨by omega, by omega⟩]
    have q : cp + (1 * cp' + d - cp') = 1 * cp + d := by omega
    rw [q]
theorem own_gr3 {α : Type} {z f : Nat → α} {sz : Nat → Int32} {cp cp' : Nat} (h : cp ≤ cp') (hz : ∀ i, i < 3 → (sz i).toNatClampNeg ≤ cp) : own_gr 3 cp cp' sz f (Cp (Cp (Cp z f 0 0 (sz 0).toNatClampNeg) f cp cp' (sz 1).toNatClampNeg) f (2 * cp) (2 * cp') (sz 2).toNatClampNeg) := by
  intro i hi d hd
  have q0 := hz 0 (by decide)
  have q1 := hz 1 (by decide)
  have q2 := hz 2 (by decide)
  by_cases hi2 : i = 2
  · subst hi2
    show (if 2 * cp' ≤ 2 * cp' + d ∧ 2 * cp' + d < 2 * cp' + (sz 2).toNatClampNeg then f (2 * cp + (2 * cp' + d - 2 * cp')) else _) = f (2 * cp + d)
    rw [if_pos ⟨by omega, by omega⟩]
    have q : 2 * cp + (2 * cp' + d - 2 * cp') = 2 * cp + d := by omega
    rw [q]
  · have r := own_gr2 (z := z) (f := f) (sz := sz) h (fun i hi => hz i (by omega)) i (by omega) d hd
    have hlt : ¬ (2 * cp' ≤ i * cp' + d ∧ i * cp' + d < 2 * cp' + (sz 2).toNatClampNeg) := by
      rcases (show i = 0 ∨ i = 1 by omega) with rfl | rfl
      · omega
      · omega
    show (if 2 * cp' ≤ i * cp' + d ∧ i * cp' + d < 2 * cp' + (sz 2).toNatClampNeg then f (2 * cp + (i * cp' + d - 2 * cp')) else Cp (Cp z f 0 0 (sz 0).toNatClampNeg) f cp cp' (sz 1).toNatClampNeg (i * cp' + d)) = f (i * cp + d)
    rw [if_neg hlt]
    exact r
def own_cmp (s : Int32) (t p0 p1 : DK) (i0 : Int64) (h b : Int32) (d : Int64) : Prop :=
  (s = (0 : Int32) ∧ t = dinf ∧ h = (0 : Int32)) ∨ (s = (1 : Int32) ∧ h = (1 : Int32) ∧ p0 = dint b ∧ i0 = d ∧ p0.1 ≤ t.1) ∨ (s = (2 : Int32) ∧ h = (1 : Int32) ∧ p0 = dint b ∧ i0 = d ∧ p0.1 ≤ t.1 ∧ p0.1 ≤ p1.1) ∨ (s = (3 : Int32) ∧ h = (1 : Int32) ∧ p0 = dint b ∧ i0 = d)
def own_inv (j M N : Nat) (cap l : Int32) (sz : Nat → Int32) (th pt : Nat → DK) (idn : Nat → Int64) (hs bp : Nat → Int32) (bi : Nat → Int64) : Prop :=
  N = M * cap.toNatClampNeg ∧ (cap = (1 : Int32) ∨ cap = (2 : Int32) ∨ cap = (3 : Int32)) ∧ cap.toInt ≤ l.toInt ∧ ∀ i, i < M → (sz i).toInt ≤ (j : Int) ∧ (sz i).toInt ≤ cap.toInt ∧ own_cmp (sz i) (th i) (pt (i * cap.toNatClampNeg)) (pt (i * cap.toNatClampNeg + 1)) (idn (i * cap.toNatClampNeg)) (hs i) (bp i) (bi i)
section Inv
variable {j M N N' k : Nat} {cap cap' l : Int32} {sz sz' hs bp : Nat → Int32} {th pt th' pt' : Nat → DK} {idn idn' bi : Nat → Int64} {pp : Int32} {x : Int64}
theorem own_hz (I : own_inv j M N cap l sz th pt idn hs bp bi) : ∀ i, i < M → 0 ≤ (sz i).toInt ∧ (sz i).toInt ≤ cap.toInt := by
  intro i hi
  obtain ⟨-, s2, cm⟩ := I.2.2.2 i hi
  refine ⟨?_, s2⟩
  rcases cm with ⟨a, -⟩ | ⟨a, -⟩ | ⟨a, -⟩ | ⟨a, -⟩ <;> rw [a] <;> decide
theorem own_oth (hj : j ≤ 2) (I : own_inv j M N cap l sz th pt idn hs bp bi) (R : own_ir M k cap l sz th pt idn (dint pp) x cap' N' sz' th' pt' idn') {i : Nat} (hi : i < M) (q : i ≠ k) :
    (sz' i).toInt ≤ ((j + 1 : Nat) : Int) ∧ (sz' i).toInt ≤ cap'.toInt ∧ own_cmp (sz' i) (th' i) (pt' (i * cap'.toNatClampNeg)) (pt' (i * cap'.toNatClampNeg + 1)) (idn' (i * cap'.toNatClampNeg)) (hs i) (bp i) (bi i) := by
  obtain ⟨s1, s2, cm⟩ := I.2.2.2 i hi
  obtain ⟨-, -, -, r4, r5, -, -⟩ := R
  obtain ⟨t1, t2, t3, t4⟩ := r5 i hi q
  rw [t1, t2]
  refine ⟨by omega, by omega, ?_⟩
  rcases cm with ⟨a, b, d⟩ | ⟨a, b, d, e, f⟩ | ⟨a, b, d, e, f, g⟩ | ⟨a, -, -, -⟩
  · exact Or.inl ⟨a, b, d⟩
  · obtain ⟨u1, u2⟩ := t3 (by rw [a]; decide)
    exact Or.inr (Or.inl ⟨a, b, u1.trans d, u2.trans e, by rw [u1]; exact f⟩)
  · obtain ⟨u1, u2⟩ := t3 (by rw [a]; decide)
    exact Or.inr (Or.inr (Or.inl ⟨a, b, u1.trans d, u2.trans e, by rw [u1]; exact f, by rw [u1, t4 a]; exact g⟩))
  · exfalso
    have k3 : (3 : Int32).toInt = 3 := rfl
    rw [a, k3] at s1
    omega
theorem own_stepU (hj : j ≤ 2) (I : own_inv j M N cap l sz th pt idn hs bp bi) (hk : k < M) (R : own_ir M k cap l sz th pt idn (dint pp) x cap' N' sz' th' pt' idn') (hc : hs k = (0 : Int32) ∨ pp < bp k) :
    own_inv (j + 1) M N' cap' l sz' th' pt' idn' (Upd hs k (1 : Int32)) (Upd bp k pp) (Upd bi k x) := by
  refine ⟨R.1, R.2.1, R.2.2.1, fun i hi => ?_⟩
  by_cases q : i = k
  · subst q
    obtain ⟨s1, s2, cm⟩ := I.2.2.2 i hi
    obtain ⟨-, -, -, -, -, ⟨o1, o2, o3, o4, o5, o6⟩, r7⟩ := R
    rw [updS hs i (1 : Int32), updS bp i pp, updS bi i x]
    have hcond : sz i = (0 : Int32) ∨ (dint pp).1 < (pt (i * cap.toNatClampNeg)).1 := by
      rcases cm with ⟨a, -, -⟩ | ⟨a, b, d, -⟩ | ⟨a, b, d, -⟩ | ⟨a, b, d, -⟩
      · exact Or.inl a
      all_goals
        right
        rcases hc with hc | hc
        · rw [b] at hc
          exact absurd hc (by decide)
        · rw [d]
          exact Int32.lt_iff_toInt_lt.mp hc
    obtain ⟨e1, e2⟩ := o3 hcond
    refine ⟨by omega, r7, ?_⟩
    rcases o1 with z | z | z
    · exact Or.inr (Or.inl ⟨z, rfl, e1, e2, o5 (by rw [z]; decide)⟩)
    · exact Or.inr (Or.inr (Or.inl ⟨z, rfl, e1, e2, o5 (by rw [z]; decide), o6 z⟩))
    · exact Or.inr (Or.inr (Or.inr ⟨z, rfl, e1, e2⟩))
  · rw [updN hs (1 : Int32) q, updN bp pp q, updN bi x q]
    exact own_oth hj I R hi q
theorem own_stepN (hj : j ≤ 2) (I : own_inv j M N cap l sz th pt idn hs bp bi) (hk : k < M) (R : own_ir M k cap l sz th pt idn (dint pp) x cap' N' sz' th' pt' idn') (hc1 : ¬ hs k = (0 : Int32)) (hc2 : ¬ pp < bp k) :
    own_inv (j + 1) M N' cap' l sz' th' pt' idn' hs bp bi := by
  refine ⟨R.1, R.2.1, R.2.2.1, fun i hi => ?_⟩
  by_cases q : i = k
  · subst q
    obtain ⟨s1, s2, cm⟩ := I.2.2.2 i hi
    obtain ⟨-, -, -, -, -, ⟨o1, o2, o3, o4, o5, o6⟩, r7⟩ := R
    have base : hs i = (1 : Int32) ∧ pt (i * cap.toNatClampNeg) = dint (bp i) ∧ idn (i * cap.toNatClampNeg) = bi i ∧ sz i ≠ (0 : Int32) := by
      rcases cm with ⟨a, -, d⟩ | ⟨a, b, d, e, -⟩ | ⟨a, b, d, e, -, -⟩ | ⟨a, b, d, e⟩
      · exact absurd d hc1
      · exact ⟨b, d, e, by rw [a]; decide⟩
      · exact ⟨b, d, e, by rw [a]; decide⟩
      · exact ⟨b, d, e, by rw [a]; decide⟩
    obtain ⟨b1, b2, b3, b4⟩ := base
    have hcond : ¬ (sz i = (0 : Int32) ∨ (dint pp).1 < (pt (i * cap.toNatClampNeg)).1) := by
      intro h
      rcases h with h | h
      · exact b4 h
      · rw [b2] at h
        exact hc2 (Int32.lt_iff_toInt_lt.mpr h)
    obtain ⟨e1, e2⟩ := o4 hcond
    refine ⟨by omega, r7, ?_⟩
    rcases o1 with z | z | z
    · exact Or.inr (Or.inl ⟨z, b1, e1.trans b2, e2.trans b3, o5 (by rw [z]; decide)⟩)
    · exact Or.inr (Or.inr (Or.inl ⟨z, b1, e1.trans b2, e2.trans b3, o5 (by rw [z]; decide), o6 z⟩))
    · exact Or.inr (Or.inr (Or.inr ⟨z, b1, e1.trans b2, e2.trans b3⟩))
  · exact own_oth hj I R hi q
theorem own_fin {i : Nat} {gg : Int64} (I : own_inv j M N cap l sz th pt idn hs bp bi) (hi : i < M) (hg : gg = if (0 : Int32) < sz i then idn (i * cap.toNatClampNeg) else (0 : Int64)) : (hs i = (0 : Int32) → gg = (0 : Int64)) ∧ (¬ hs i = (0 : Int32) → gg = bi i) := by
  obtain ⟨-, -, cm⟩ := I.2.2.2 i hi
  rcases cm with ⟨a, b, d⟩ | ⟨a, b, d, e, -⟩ | ⟨a, b, d, e, -, -⟩ | ⟨a, b, d, e⟩
  · refine ⟨fun _ => ?_, fun h => absurd d h⟩
    rw [hg, a, if_neg (by decide)]
  all_goals
    refine ⟨fun h => ?_, fun _ => ?_⟩
    · rw [b] at h
      exact absurd h (by decide)
    · rw [hg, a, if_pos (by decide)]
      exact e
end Inv
theorem own_m3 {y : Int32} : ((1 : Int32) + ((y &&& (3 : Int32)) % (3 : Int32))) = (1 : Int32) ∨ ((1 : Int32) + ((y &&& (3 : Int32)) % (3 : Int32))) = (2 : Int32) ∨ ((1 : Int32) + ((y &&& (3 : Int32)) % (3 : Int32))) = (3 : Int32) := by
  have h := c_mask y (3 : Int32) 2 (by decide) (by decide)
  have h2 := (c_irem (y &&& (3 : Int32)) (3 : Int32) 3 rfl).1 (by omega)
  have a := c_iadd (1 : Int32) ((y &&& (3 : Int32)) % (3 : Int32))
  have r := rng32 ((1 : Int32) + ((y &&& (3 : Int32)) % (3 : Int32)))
  have k1 : (1 : Int32).toInt = 1 := rfl
  have k2 : (2 : Int32).toInt = 2 := rfl
  have k3 : (3 : Int32).toInt = 3 := rfl
  simp only [← Int32.toInt_inj, k1, k2, k3]
  omega
theorem own_cM {a m : Int32} {M : Nat} (hM : (m = (1 : Int32) ∧ M = 1) ∨ (m = (2 : Int32) ∧ M = 2) ∨ (m = (3 : Int32) ∧ M = 3)) : (((a &&& (3 : Int32)) % m) = (0 : Int32) ∨ ((a &&& (3 : Int32)) % m) = (1 : Int32) ∨ ((a &&& (3 : Int32)) % m) = (2 : Int32)) ∧ ¬ ((a &&& (3 : Int32)) % m) < 0 ∧ ((a &&& (3 : Int32)) % m).toNatClampNeg < M := by
  have h := c_mask a (3 : Int32) 2 (by decide) (by decide)
  have k0 : (0 : Int32).toInt = 0 := rfl
  have k1 : (1 : Int32).toInt = 1 := rfl
  have k2 : (2 : Int32).toInt = 2 := rfl
  rcases hM with ⟨rfl, rfl⟩ | ⟨rfl, rfl⟩ | ⟨rfl, rfl⟩
  · have h2 := (c_irem (a &&& (3 : Int32)) (1 : Int32) 1 rfl).1 (by omega)
    refine ⟨?_, ?_, ?_⟩
    · simp only [← Int32.toInt_inj, k0, k1, k2]
      omega
    · rw [Int32.lt_iff_toInt_lt]
      omega
    · simp only [Int32.toNatClampNeg]
      omega
  · have h2 := (c_irem (a &&& (3 : Int32)) (2 : Int32) 2 rfl).1 (by omega)
    refine ⟨?_, ?_, ?_⟩
    · simp only [← Int32.toInt_inj, k0, k1, k2]
      omega
    · rw [Int32.lt_iff_toInt_lt]
      omega
    · simp only [Int32.toNatClampNeg]
      omega
  · have h2 := (c_irem (a &&& (3 : Int32)) (3 : Int32) 3 rfl).1 (by omega)
    refine ⟨?_, ?_, ?_⟩
    · simp only [← Int32.toInt_inj, k0, k1, k2]
      omega
    · rw [Int32.lt_iff_toInt_lt]
      omega
    · simp only [Int32.toNatClampNeg]
      omega
theorem own_n3 {M k : Nat} (hM : M = 1 ∨ M = 2 ∨ M = 3) (h : k < M) : k < 3 := by omega
theorem own_dinf (x : Int32) : ¬ dinf.1 < (dint x).1 := by
  have r := rng32 x
  show ¬ (2147483648 : Int) < x.toInt
  omega
theorem own_nn {n : Int32} {a b : Int32} (h : ¬ a < n) (hab : a < b) : ¬ b < n := by
  rw [Int32.lt_iff_toInt_lt] at *
  omega
theorem own_szn {s cap : Int32} (h : 0 ≤ s.toInt ∧ s.toInt ≤ cap.toInt) : ¬ s < 0 ∧ s.toNatClampNeg ≤ cap.toNatClampNeg := by
  have k0 : (0 : Int32).toInt = 0 := rfl
  refine ⟨?_, ?_⟩
  · rw [Int32.lt_iff_toInt_lt]
    omega
  · simp only [Int32.toNatClampNeg]
    omega
theorem own_i0 {M : Nat} {l : Int32} (hl : l = (1 : Int32) ∨ l = (2 : Int32) ∨ l = (3 : Int32)) : own_inv 0 M (M * 1) (1 : Int32) l (fun _ => (0 : Int32)) (fun _ => dinf) (fun _ => dint 0) (fun _ => (0 : Int64)) (fun _ => (0 : Int32)) (fun _ => (0 : Int32)) (fun _ => (0 : Int64)) := by
  refine ⟨rfl, Or.inl rfl, ?_, fun i hi => ⟨by show (0 : Int32).toInt ≤ ((0 : Nat) : Int); decide, by show (0 : Int32).toInt ≤ (1 : Int32).toInt; decide, Or.inl ⟨rfl, rfl, rfl⟩⟩⟩
  rcases hl with rfl | rfl | rfl <;> decide
abbrev c12C := jdk_29_method_70_code
theorem d12_0 : decode c12C 0 = .ok (.lload_n 0, 1) := by decide +kernel
theorem d12_1 : decode c12C 1 = .ok (.lload_n 2, 1) := by decide +kernel
theorem d12_2 : decode c12C 2 = .ok (.lcmp, 1) := by decide +kernel
theorem d12_3 : decode c12C 3 = .ok (.ifCond .gt 7, 3) := by decide +kernel
theorem d12_10 : decode c12C 10 = .ok (.lload_n 2, 1) := by decide +kernel
theorem d12_11 : decode c12C 11 = .ok (.lreturn, 1) := by decide +kernel
theorem d12_6 : decode c12C 6 = .ok (.lload_n 0, 1) := by decide +kernel
theorem d12_7 : decode c12C 7 = .ok (.goto 4, 3) := by decide +kernel
theorem ef_0 (m : MethodId) (x0 : Int64) (x1 : Int64) : entryFrame m #[(.long x0), (.long x1)] 4 = mkF m 0 #[.val (.long x0), .second, .val (.long x1), .second] [] := by first | (simp [entryFrame, mkF, argsToLocals, Value.category]; done) | rfl
def Fmin (x0 : Int64) (x1 : Int64) : Int64 := (if x1 < x0 then x1 else x0)
theorem rmmin (l : Launch) (Z : State) (a0 : Array Value) (hw : TW Z a0) (x0 : Int64) (x1 : Int64) (h0 : Heap) (n0 : Nat) (Z0 : n0 ≤ h0.size) :
    Pays l Z (⟨"java/lang/Math", "min", "(JJ)J"⟩ : MethodName) jdk_29_method_70_code 4 (some .long) [] ({ frames := 0, cells := 0, slots := 0, locals := 0 } : Room) #[(.long x0), (.long x1)] h0 (fun v h L => v = some (.long (Fmin x0 x1)) ∧ Fr n0 L ∧ h = h0) := by
  refine Pays.walk (by decide +kernel) (fun m => ef_0 m x0 x1 ) ?_
  intro p e s m below meth c T0 X0 hx hby hml hown hnm hZ e0 hret hlk
  have dc := @Jvm.hb _ _ hby
  have N0 := Fr.nil n0
  refine Goes.on (T' := T0) (g' := (mkF m 3 #[sJ x0, s2, sJ x1, s2] [(.int (XT.cmpL x0 x1))])) (fun _ k => XS.lloadN X0.here hx rfl (dc d12_0) rfl (XS.lloadN X0.here hx rfl (dc d12_1) rfl (XT.lcmp X0.here hx rfl (dc d12_2) rfl k))) ?_
  by_cases hc1 : x1 < x0
  · refine Goes.on (T' := T0) (g' := (mkF m 11 #[sJ x0, s2, sJ x1, s2] [(.long x1)])) (fun _ k => XS.ifYes X0.here hx rfl (pc0 := 3) (pc' := 10) rfl (dc d12_3) rfl (XT.ll_gt_t hc1) (by decide) (by decide) (XS.lloadN X0.here hx rfl (dc d12_10) rfl k)) ?_
    exact Goes.retJ X0 hx hlk hret (dc d12_11) (by decide) (by decide) ⟨(by unfold Fmin; rw [if_pos hc1]), N0, e0⟩
  · refine Goes.on (T' := T0) (g' := (mkF m 11 #[sJ x0, s2, sJ x1, s2] [(.long x0)])) (fun _ k => XS.ifNo X0.here hx rfl (dc d12_3) rfl (XT.ll_gt_f hc1) (XS.lloadN X0.here hx rfl (dc d12_6) rfl (XS.goto X0.here hx rfl (pc0 := 7) (pc' := 11) rfl (dc d12_7) (by decide) (by decide) k))) ?_
    exact Goes.retJ X0 hx hlk hret (dc d12_11) (by decide) (by decide) ⟨(by unfold Fmin; rw [if_neg hc1]), N0, e0⟩
abbrev c3C := prog_29_method_1_code
theorem d3_0 : decode c3C 0 = .ok (.aload_n 0, 1) := by decide +kernel
theorem d3_1 : decode c3C 1 = .ok (.aload_n 1, 1) := by decide +kernel
theorem d3_2 : decode c3C 2 = .ok (.putfield 1, 3) := by decide +kernel
theorem d3_5 : decode c3C 5 = .ok (.aload_n 0, 1) := by decide +kernel
theorem d3_6 : decode c3C 6 = .ok (.invokespecial 7, 3) := by decide +kernel
theorem d3_9 : decode c3C 9 = .ok (.return_, 1) := by decide +kernel
theorem ef_1 (m : MethodId) (x0 : Addr) (x1 : Addr) : entryFrame m #[(.ref x0), (.ref x1)] 2 = mkF m 0 #[.val (.ref x0), .val (.ref x1)] [] := by first | (simp [entryFrame, mkF, argsToLocals, Value.category]; done) | rfl
theorem pn_0 : plainName "com/example/boceto/boceto/signature/ComponentBuffers$Insertion" = true := by first | (simp [plainName, overriddenIn]; done) | decide +kernel
theorem rmIn (l : Launch) (Z : State) (a0 : Array Value) (hw : TW Z a0) (a : Addr) (x1 : Addr) (h0 : Heap) (n0 : Nat) (Z0 : n0 ≤ h0.size) (E0 : Exa Z h0 a "com/example/boceto/boceto/signature/ComponentBuffers$Insertion") (ga : n0 ≤ a) (F_thisS0 : Fld Z h0 a "com/example/boceto/boceto/signature/ComponentBuffers$Insertion" "this$0" "Lcom/example/boceto/boceto/signature/ComponentBuffers;" .null) :
    Pays l Z (⟨"com/example/boceto/boceto/signature/ComponentBuffers$Insertion", "<init>", "(Lcom/example/boceto/boceto/signature/ComponentBuffers;)V"⟩ : MethodName) prog_29_method_1_code 2 none [] ({ frames := 1, cells := 0, slots := 0, locals := 12 } : Room) #[(.ref a), (.ref x1)] h0 (fun v h L => v = none ∧ Fr n0 L ∧ Keep h0 h [a] ∧ Exa Z h a "com/example/boceto/boceto/signature/ComponentBuffers$Insertion" ∧ Fld Z h a "com/example/boceto/boceto/signature/ComponentBuffers$Insertion" "this$0" "Lcom/example/boceto/boceto/signature/ComponentBuffers;" (.ref x1)) := by
  refine Pays.walk (plainFor_of_name pn_0) (fun m => ef_1 m a x1 ) ?_
  intro p e s m below meth c T0 X0 hx hby hml hown hnm hZ e0 hret hlk
  have K0 := Keep.refl h0 [a]
  obtain ⟨T1, h1, X1, e1, W1, st1⟩ := putF X0 hx hZ hown (host := "") (Or.inl (own_w hw 15 rfl)) Via.refl e0 F_thisS0 E0 (Or.inr ⟨(own_w hw 16 rfl), rfl, hnm⟩) (own_w hw 10 rfl) (ty := (.object "com/example/boceto/boceto/signature/ComponentBuffers")) (by decide) rfl rfl (g := (mkF m 2 #[sR a, sR x1] [(.ref x1), (.ref a)])) rfl rfl (hb hby d3_2)
  have N1 := Fr.snoc X1 (Fr.nil n0) ga
  have C2 := E0.wr W1
  have C3 := F_thisS0.same W1
  have K5 := K0.wr W1 (Or.inl (List.mem_of_getElem? (i := 0) rfl))
  obtain ⟨T6, X6, e6, st6⟩ := initO X1 hx hZ hown (own_w hw 17 rfl) (own_w hw 7 rfl) (own_w hw 8 rfl) e1 (g := (mkF m 6 #[sR a, sR x1] [(.ref a)])) rfl (by rw [hml]; rfl) rfl (hb hby d3_6) (by decide) (W := 0) (own_le20 rfl) (by decide)
  refine Goes.on (T' := T6) (g' := (mkF m 9 #[sR a, sR x1] [])) (fun _ k => XS.aloadN X0.here hx rfl (hb hby d3_0) rfl rfl (XS.aloadN X0.here hx rfl (hb hby d3_1) rfl rfl (st1 _ (XS.aloadN X1.here hx rfl (hb hby d3_5) rfl rfl (st6 _ k))))) ?_
  exact Goes.retV X6 hx hlk hret (hb hby d3_9) (by decide) (by decide) (by rw [e6]; exact ⟨rfl, N1, K5, C2, C3⟩)
abbrev c4C := prog_30_method_1_code
theorem d4_0 : decode c4C 0 = .ok (.aload_n 0, 1) := by decide +kernel
theorem d4_1 : decode c4C 1 = .ok (.aload_n 1, 1) := by decide +kernel
theorem d4_2 : decode c4C 2 = .ok (.putfield 1, 3) := by decide +kernel
theorem d4_5 : decode c4C 5 = .ok (.aload_n 0, 1) := by decide +kernel
theorem d4_6 : decode c4C 6 = .ok (.invokespecial 7, 3) := by decide +kernel
theorem d4_9 : decode c4C 9 = .ok (.return_, 1) := by decide +kernel
theorem pn_1 : plainName "com/example/boceto/boceto/signature/ComponentBuffers$Removal" = true := by first | (simp [plainName, overriddenIn]; done) | decide +kernel
theorem rmRe (l : Launch) (Z : State) (a0 : Array Value) (hw : TW Z a0) (a : Addr) (x1 : Addr) (h0 : Heap) (n0 : Nat) (Z0 : n0 ≤ h0.size) (E0 : Exa Z h0 a "com/example/boceto/boceto/signature/ComponentBuffers$Removal") (ga : n0 ≤ a) (F_thisS0 : Fld Z h0 a "com/example/boceto/boceto/signature/ComponentBuffers$Removal" "this$0" "Lcom/example/boceto/boceto/signature/ComponentBuffers;" .null) :
    Pays l Z (⟨"com/example/boceto/boceto/signature/ComponentBuffers$Removal", "<init>", "(Lcom/example/boceto/boceto/signature/ComponentBuffers;)V"⟩ : MethodName) prog_30_method_1_code 2 none [] ({ frames := 1, cells := 0, slots := 0, locals := 12 } : Room) #[(.ref a), (.ref x1)] h0 (fun v h L => v = none ∧ Fr n0 L ∧ Keep h0 h [a] ∧ Exa Z h a "com/example/boceto/boceto/signature/ComponentBuffers$Removal" ∧ Fld Z h a "com/example/boceto/boceto/signature/ComponentBuffers$Removal" "this$0" "Lcom/example/boceto/boceto/signature/ComponentBuffers;" (.ref x1)) := by
  refine Pays.walk (plainFor_of_name pn_1) (fun m => ef_1 m a x1 ) ?_
  intro p e s m below meth c T0 X0 hx hby hml hown hnm hZ e0 hret hlk
  have K0 := Keep.refl h0 [a]
  obtain ⟨T1, h1, X1, e1, W1, st1⟩ := putF X0 hx hZ hown (host := "") (Or.inl (own_w hw 26 rfl)) Via.refl e0 F_thisS0 E0 (Or.inr ⟨(own_w hw 27 rfl), rfl, hnm⟩) (own_w hw 21 rfl) (ty := (.object "com/example/boceto/boceto/signature/ComponentBuffers")) (by decide) rfl rfl (g := (mkF m 2 #[sR a, sR x1] [(.ref x1), (.ref a)])) rfl rfl (hb hby d4_2)
  have N1 := Fr.snoc X1 (Fr.nil n0) ga
  have C2 := E0.wr W1
  have C3 := F_thisS0.same W1
  have K5 := K0.wr W1 (Or.inl (List.mem_of_getElem? (i := 0) rfl))
  obtain ⟨T6, X6, e6, st6⟩ := initO X1 hx hZ hown (own_w hw 28 rfl) (own_w hw 7 rfl) (own_w hw 8 rfl) e1 (g := (mkF m 6 #[sR a, sR x1] [(.ref a)])) rfl (by rw [hml]; rfl) rfl (hb hby d4_6) (by decide) (W := 0) (own_le20 rfl) (by decide)
  refine Goes.on (T' := T6) (g' := (mkF m 9 #[sR a, sR x1] [])) (fun _ k => XS.aloadN X0.here hx rfl (hb hby d4_0) rfl rfl (XS.aloadN X0.here hx rfl (hb hby d4_1) rfl rfl (st1 _ (XS.aloadN X1.here hx rfl (hb hby d4_5) rfl rfl (st6 _ k))))) ?_
  exact Goes.retV X6 hx hlk hret (hb hby d4_9) (by decide) (by decide) (by rw [e6]; exact ⟨rfl, N1, K5, C2, C3⟩)
abbrev c5C := jdk_65_method_113_code
theorem d5_0 : decode c5C 0 = .ok (.iconst 0, 1) := by decide +kernel
theorem d5_1 : decode c5C 1 = .ok (.istore_n 3, 1) := by decide +kernel
theorem d5_2 : decode c5C 2 = .ok (.aload_n 0, 1) := by decide +kernel
theorem d5_3 : decode c5C 3 = .ok (.arraylength, 1) := by decide +kernel
theorem d5_4 : decode c5C 4 = .ok (.istore 4, 2) := by decide +kernel
theorem d5_6 : decode c5C 6 = .ok (.iload_n 3, 1) := by decide +kernel
theorem d5_7 : decode c5C 7 = .ok (.iload 4, 2) := by decide +kernel
theorem d5_9 : decode c5C 9 = .ok (.if_icmp .ge 13, 3) := by decide +kernel
theorem d5_12 : decode c5C 12 = .ok (.aload_n 0, 1) := by decide +kernel
theorem d5_13 : decode c5C 13 = .ok (.iload_n 3, 1) := by decide +kernel
theorem d5_14 : decode c5C 14 = .ok (.dload_n 1, 1) := by decide +kernel
theorem d5_15 : decode c5C 15 = .ok (.dastore, 1) := by decide +kernel
theorem d5_16 : decode c5C 16 = .ok (.iinc 3 1, 3) := by decide +kernel
theorem d5_19 : decode c5C 19 = .ok (.goto (-13), 3) := by decide +kernel
theorem d5_22 : decode c5C 22 = .ok (.return_, 1) := by decide +kernel
theorem ef_2 (m : MethodId) (x0 : Addr) (x1 : UInt64) : entryFrame m #[(.ref x0), (.double x1)] 5 = mkF m 0 #[.val (.ref x0), .val (.double x1), .second, .unset, .unset] [] := by first | (simp [entryFrame, mkF, argsToLocals, Value.category]; done) | rfl
theorem pn_2 : plainName "java/util/Arrays" = true := by first | (simp [plainName, overriddenIn]; done) | decide +kernel
theorem rmF1 (l : Launch) (Z : State) (a0 : Array Value) (hw : TW Z a0) (a : Addr) (x : DK) (f : Nat → DK) (h0 : Heap) (n0 : Nat) (Z0 : n0 ≤ h0.size) (B0 : Arf Z h0 a .double vD 1 f) (ga : n0 ≤ a) :
    Pays l Z (⟨"java/util/Arrays", "fill", "([DD)V"⟩ : MethodName) jdk_65_method_113_code 5 none [] ({ frames := 0, cells := 0, slots := 0, locals := 0 } : Room) #[(.ref a), (.double (dv x))] h0 (fun v h L => v = none ∧ Fr n0 L ∧ Keep h0 h [a] ∧ Arf Z h a .double vD 1 (fun _ => x)) := by
  refine Pays.walk (plainFor_of_name pn_2) (fun m => ef_2 m a (dv x) ) ?_
  intro p e s m below meth c T0 X0 hx hby hml hown hnm hZ e0 hret hlk
  have dc := @Jvm.hb _ _ hby
  have K0 := Keep.refl h0 [a]
  obtain ⟨T2, h2, X2, e2, W2, B2, st2⟩ := wrK X0 hx hZ e0 B0 (by decide)  (g := (mkF m 15 #[sR a, sD (dv x), s2, sI 0, sI 1] [(.double (dv x)), (.int 0), (.ref a)])) rfl rfl (dc d5_15)
  have N2 := Fr.snoc X2 (Fr.nil n0) ga
  have K4 := K0.wr W2 (Or.inl (List.mem_of_getElem? (i := 0) rfl))
  have B2 : Arf Z h2 a .double vD 1 (Upd f 0 x) := B2
  refine Goes.on (T' := T2) (g' := (mkF m 22 #[sR a, sD (dv x), s2, sI 1, sI 1] [])) (fun _ k => XS.iconst X0.here hx rfl (dc d5_0) (XS.istoreN X0.here hx rfl (dc d5_1) rfl (l' := #[sR a, sD (dv x), s2, sI 0, su]) rfl (XS.aloadN X0.here hx rfl (dc d5_2) rfl rfl (aLenm X0 hx hZ e0 B0 (dc d5_3) (XS.istore X0.here hx rfl (dc d5_4) rfl (l' := #[sR a, sD (dv x), s2, sI 0, sI 1]) rfl (XS.iloadN X0.here hx rfl (dc d5_6) rfl (XS.iload X0.here hx rfl (dc d5_7) rfl (XS.icmpNo X0.here hx rfl (dc d5_9) rfl (XT.ii_ge_f (by decide)) (XS.aloadN X0.here hx rfl (dc d5_12) rfl rfl (XS.iloadN X0.here hx rfl (dc d5_13) rfl (XS.dloadN X0.here hx rfl (dc d5_14) rfl (st2 _ (XT.iincV X2.here hx rfl (1 : Int32) (dc d5_16) (by decide) rfl (l' := #[sR a, sD (dv x), s2, sI 1, sI 1]) rfl (XS.goto X2.here hx rfl (pc0 := 19) (pc' := 6) rfl (dc d5_19) (by decide) (by decide) (XS.iloadN X2.here hx rfl (dc d5_6) rfl (XS.iload X2.here hx rfl (dc d5_7) rfl (XS.icmpYes X2.here hx rfl (pc0 := 9) (pc' := 22) rfl (dc d5_9) rfl (XT.ii_ge_t (by decide)) (by decide) (by decide) k))))))))))))))))) ?_
  exact Goes.retV X2 hx hlk hret (dc d5_22) (by decide) (by decide) (by rw [e2]; exact ⟨rfl, N2, K4, B2.congr (fun i hi => match i, hi with | 0, _ => rfl)⟩)
abbrev c1C := prog_28_method_1_code
theorem d1_0 : decode c1C 0 = .ok (.aload_n 0, 1) := by decide +kernel
theorem d1_1 : decode c1C 1 = .ok (.invokespecial 1, 3) := by decide +kernel
theorem d1_4 : decode c1C 4 = .ok (.aload_n 0, 1) := by decide +kernel
theorem d1_5 : decode c1C 5 = .ok (.new 7, 3) := by decide +kernel
theorem d1_8 : decode c1C 8 = .ok (.dup, 1) := by decide +kernel
theorem d1_9 : decode c1C 9 = .ok (.aload_n 0, 1) := by decide +kernel
theorem pd_0 : parseMethodDescriptor "(Lcom/example/boceto/boceto/signature/ComponentBuffers;)V" = some ⟨[(.object "com/example/boceto/boceto/signature/ComponentBuffers")], none⟩ := by decide +kernel
theorem d1_10 : decode c1C 10 = .ok (.invokespecial 9, 3) := by decide +kernel
theorem d1_13 : decode c1C 13 = .ok (.putfield 12, 3) := by decide +kernel
theorem d1_16 : decode c1C 16 = .ok (.aload_n 0, 1) := by decide +kernel
theorem d1_17 : decode c1C 17 = .ok (.new 18, 3) := by decide +kernel
theorem d1_20 : decode c1C 20 = .ok (.dup, 1) := by decide +kernel
theorem d1_21 : decode c1C 21 = .ok (.aload_n 0, 1) := by decide +kernel
theorem d1_22 : decode c1C 22 = .ok (.invokespecial 20, 3) := by decide +kernel
theorem d1_25 : decode c1C 25 = .ok (.putfield 21, 3) := by decide +kernel
theorem d1_28 : decode c1C 28 = .ok (.aload_n 0, 1) := by decide +kernel
theorem d1_29 : decode c1C 29 = .ok (.iload_n 2, 1) := by decide +kernel
theorem d1_30 : decode c1C 30 = .ok (.putfield 24, 3) := by decide +kernel
theorem d1_33 : decode c1C 33 = .ok (.aload_n 0, 1) := by decide +kernel
theorem d1_34 : decode c1C 34 = .ok (.iload_n 1, 1) := by decide +kernel
theorem d1_35 : decode c1C 35 = .ok (.newarray .int, 2) := by decide +kernel
theorem d1_37 : decode c1C 37 = .ok (.putfield 28, 3) := by decide +kernel
theorem d1_40 : decode c1C 40 = .ok (.aload_n 0, 1) := by decide +kernel
theorem d1_41 : decode c1C 41 = .ok (.iload_n 1, 1) := by decide +kernel
theorem d1_42 : decode c1C 42 = .ok (.newarray .double, 2) := by decide +kernel
theorem d1_44 : decode c1C 44 = .ok (.putfield 32, 3) := by decide +kernel
theorem d1_47 : decode c1C 47 = .ok (.aload_n 0, 1) := by decide +kernel
theorem d1_48 : decode c1C 48 = .ok (.getfield 32, 3) := by decide +kernel
theorem d1_51 : decode c1C 51 = .ok (.ldc2_w 38, 3) := by decide +kernel
theorem pd_1 : parseMethodDescriptor "([DD)V" = some ⟨[(.array .double), .double], none⟩ := by decide +kernel
theorem d1_54 : decode c1C 54 = .ok (.invokestatic 40, 3) := by decide +kernel
theorem d1_57 : decode c1C 57 = .ok (.aload_n 0, 1) := by decide +kernel
theorem d1_58 : decode c1C 58 = .ok (.iconst 1, 1) := by decide +kernel
theorem d1_59 : decode c1C 59 = .ok (.putfield 46, 3) := by decide +kernel
theorem d1_62 : decode c1C 62 = .ok (.aload_n 0, 1) := by decide +kernel
theorem d1_63 : decode c1C 63 = .ok (.iload_n 1, 1) := by decide +kernel
theorem d1_64 : decode c1C 64 = .ok (.newarray .double, 2) := by decide +kernel
theorem d1_66 : decode c1C 66 = .ok (.putfield 49, 3) := by decide +kernel
theorem d1_69 : decode c1C 69 = .ok (.aload_n 0, 1) := by decide +kernel
theorem d1_70 : decode c1C 70 = .ok (.iload_n 1, 1) := by decide +kernel
theorem d1_71 : decode c1C 71 = .ok (.newarray .long, 2) := by decide +kernel
theorem d1_73 : decode c1C 73 = .ok (.putfield 52, 3) := by decide +kernel
theorem d1_76 : decode c1C 76 = .ok (.return_, 1) := by decide +kernel
theorem ef_3 (m : MethodId) (x0 : Addr) (x1 : Int32) (x2 : Int32) : entryFrame m #[(.ref x0), (.int x1), (.int x2)] 3 = mkF m 0 #[.val (.ref x0), .val (.int x1), .val (.int x2)] [] := by first | (simp [entryFrame, mkF, argsToLocals, Value.category]; done) | rfl
theorem pn_3 : plainName "com/example/boceto/boceto/signature/ComponentBuffers" = true := by first | (simp [plainName, overriddenIn]; done) | decide +kernel
def sn0 {Z : State} {a0 : Array Value} (hw : TW Z a0) := slot_ne (Or.inl (own_w hw 45 rfl)) (Or.inr (own_w hw 19 rfl)) (by decide) (t := .int) (by decide) (t' := (.object "com/example/boceto/boceto/signature/PointSink")) (by decide)
def sn1 {Z : State} {a0 : Array Value} (hw : TW Z a0) := slot_ne (Or.inl (own_w hw 47 rfl)) (Or.inr (own_w hw 19 rfl)) (by decide) (t := (.array .double)) (by decide) (t' := (.object "com/example/boceto/boceto/signature/PointSink")) (by decide)
def sn2 {Z : State} {a0 : Array Value} (hw : TW Z a0) := slot_ne (Or.inl (own_w hw 50 rfl)) (Or.inr (own_w hw 19 rfl)) (by decide) (t := (.array .long)) (by decide) (t' := (.object "com/example/boceto/boceto/signature/PointSink")) (by decide)
def sn3 {Z : State} {a0 : Array Value} (hw : TW Z a0) := slot_ne (Or.inl (own_w hw 79 rfl)) (Or.inr (own_w hw 19 rfl)) (by decide) (t := .int) (by decide) (t' := (.object "com/example/boceto/boceto/signature/PointSink")) (by decide)
def sn4 {Z : State} {a0 : Array Value} (hw : TW Z a0) := slot_ne (Or.inr (own_w hw 30 rfl)) (Or.inr (own_w hw 19 rfl)) (by decide) (t := (.object "com/example/boceto/boceto/signature/PointSink")) (by decide) (t' := (.object "com/example/boceto/boceto/signature/PointSink")) (by decide)
def sn5 {Z : State} {a0 : Array Value} (hw : TW Z a0) := slot_ne (Or.inr (own_w hw 32 rfl)) (Or.inr (own_w hw 19 rfl)) (by decide) (t := .int) (by decide) (t' := (.object "com/example/boceto/boceto/signature/PointSink")) (by decide)
def sn6 {Z : State} {a0 : Array Value} (hw : TW Z a0) := slot_ne (Or.inr (own_w hw 35 rfl)) (Or.inr (own_w hw 19 rfl)) (by decide) (t := (.array .int)) (by decide) (t' := (.object "com/example/boceto/boceto/signature/PointSink")) (by decide)
def sn7 {Z : State} {a0 : Array Value} (hw : TW Z a0) := slot_ne (Or.inr (own_w hw 38 rfl)) (Or.inr (own_w hw 19 rfl)) (by decide) (t := (.array .double)) (by decide) (t' := (.object "com/example/boceto/boceto/signature/PointSink")) (by decide)
def sn8 {Z : State} {a0 : Array Value} (hw : TW Z a0) := slot_ne (Or.inl (own_w hw 45 rfl)) (Or.inr (own_w hw 30 rfl)) (by decide) (t := .int) (by decide) (t' := (.object "com/example/boceto/boceto/signature/PointSink")) (by decide)
def sn9 {Z : State} {a0 : Array Value} (hw : TW Z a0) := slot_ne (Or.inl (own_w hw 47 rfl)) (Or.inr (own_w hw 30 rfl)) (by decide) (t := (.array .double)) (by decide) (t' := (.object "com/example/boceto/boceto/signature/PointSink")) (by decide)
def sn10 {Z : State} {a0 : Array Value} (hw : TW Z a0) := slot_ne (Or.inl (own_w hw 50 rfl)) (Or.inr (own_w hw 30 rfl)) (by decide) (t := (.array .long)) (by decide) (t' := (.object "com/example/boceto/boceto/signature/PointSink")) (by decide)
def sn11 {Z : State} {a0 : Array Value} (hw : TW Z a0) := slot_ne (Or.inl (own_w hw 79 rfl)) (Or.inr (own_w hw 30 rfl)) (by decide) (t := .int) (by decide) (t' := (.object "com/example/boceto/boceto/signature/PointSink")) (by decide)
def sn12 {Z : State} {a0 : Array Value} (hw : TW Z a0) := slot_ne (Or.inr (own_w hw 32 rfl)) (Or.inr (own_w hw 30 rfl)) (by decide) (t := .int) (by decide) (t' := (.object "com/example/boceto/boceto/signature/PointSink")) (by decide)
def sn13 {Z : State} {a0 : Array Value} (hw : TW Z a0) := slot_ne (Or.inr (own_w hw 35 rfl)) (Or.inr (own_w hw 30 rfl)) (by decide) (t := (.array .int)) (by decide) (t' := (.object "com/example/boceto/boceto/signature/PointSink")) (by decide)
def sn14 {Z : State} {a0 : Array Value} (hw : TW Z a0) := slot_ne (Or.inr (own_w hw 38 rfl)) (Or.inr (own_w hw 30 rfl)) (by decide) (t := (.array .double)) (by decide) (t' := (.object "com/example/boceto/boceto/signature/PointSink")) (by decide)
def sn15 {Z : State} {a0 : Array Value} (hw : TW Z a0) := slot_ne (Or.inl (own_w hw 45 rfl)) (Or.inr (own_w hw 32 rfl)) (by decide) (t := .int) (by decide) (t' := .int) (by decide)
def sn16 {Z : State} {a0 : Array Value} (hw : TW Z a0) := slot_ne (Or.inl (own_w hw 47 rfl)) (Or.inr (own_w hw 32 rfl)) (by decide) (t := (.array .double)) (by decide) (t' := .int) (by decide)
def sn17 {Z : State} {a0 : Array Value} (hw : TW Z a0) := slot_ne (Or.inl (own_w hw 50 rfl)) (Or.inr (own_w hw 32 rfl)) (by decide) (t := (.array .long)) (by decide) (t' := .int) (by decide)
def sn18 {Z : State} {a0 : Array Value} (hw : TW Z a0) := slot_ne (Or.inl (own_w hw 79 rfl)) (Or.inr (own_w hw 32 rfl)) (by decide) (t := .int) (by decide) (t' := .int) (by decide)
def sn19 {Z : State} {a0 : Array Value} (hw : TW Z a0) := slot_ne (Or.inr (own_w hw 35 rfl)) (Or.inr (own_w hw 32 rfl)) (by decide) (t := (.array .int)) (by decide) (t' := .int) (by decide)
def sn20 {Z : State} {a0 : Array Value} (hw : TW Z a0) := slot_ne (Or.inr (own_w hw 38 rfl)) (Or.inr (own_w hw 32 rfl)) (by decide) (t := (.array .double)) (by decide) (t' := .int) (by decide)
def sn21 {Z : State} {a0 : Array Value} (hw : TW Z a0) := slot_ne (Or.inl (own_w hw 45 rfl)) (Or.inr (own_w hw 35 rfl)) (by decide) (t := .int) (by decide) (t' := (.array .int)) (by decide)
def sn22 {Z : State} {a0 : Array Value} (hw : TW Z a0) := slot_ne (Or.inl (own_w hw 47 rfl)) (Or.inr (own_w hw 35 rfl)) (by decide) (t := (.array .double)) (by decide) (t' := (.array .int)) (by decide)
def sn23 {Z : State} {a0 : Array Value} (hw : TW Z a0) := slot_ne (Or.inl (own_w hw 50 rfl)) (Or.inr (own_w hw 35 rfl)) (by decide) (t := (.array .long)) (by decide) (t' := (.array .int)) (by decide)
def sn24 {Z : State} {a0 : Array Value} (hw : TW Z a0) := slot_ne (Or.inl (own_w hw 79 rfl)) (Or.inr (own_w hw 35 rfl)) (by decide) (t := .int) (by decide) (t' := (.array .int)) (by decide)
def sn25 {Z : State} {a0 : Array Value} (hw : TW Z a0) := slot_ne (Or.inr (own_w hw 32 rfl)) (Or.inr (own_w hw 35 rfl)) (by decide) (t := .int) (by decide) (t' := (.array .int)) (by decide)
def sn26 {Z : State} {a0 : Array Value} (hw : TW Z a0) := slot_ne (Or.inr (own_w hw 38 rfl)) (Or.inr (own_w hw 35 rfl)) (by decide) (t := (.array .double)) (by decide) (t' := (.array .int)) (by decide)
def sn27 {Z : State} {a0 : Array Value} (hw : TW Z a0) := slot_ne (Or.inl (own_w hw 45 rfl)) (Or.inr (own_w hw 38 rfl)) (by decide) (t := .int) (by decide) (t' := (.array .double)) (by decide)
def sn28 {Z : State} {a0 : Array Value} (hw : TW Z a0) := slot_ne (Or.inl (own_w hw 47 rfl)) (Or.inr (own_w hw 38 rfl)) (by decide) (t := (.array .double)) (by decide) (t' := (.array .double)) (by decide)
def sn29 {Z : State} {a0 : Array Value} (hw : TW Z a0) := slot_ne (Or.inl (own_w hw 50 rfl)) (Or.inr (own_w hw 38 rfl)) (by decide) (t := (.array .long)) (by decide) (t' := (.array .double)) (by decide)
def sn30 {Z : State} {a0 : Array Value} (hw : TW Z a0) := slot_ne (Or.inl (own_w hw 79 rfl)) (Or.inr (own_w hw 38 rfl)) (by decide) (t := .int) (by decide) (t' := (.array .double)) (by decide)
def sn31 {Z : State} {a0 : Array Value} (hw : TW Z a0) := slot_ne (Or.inr (own_w hw 32 rfl)) (Or.inr (own_w hw 38 rfl)) (by decide) (t := .int) (by decide) (t' := (.array .double)) (by decide)
def sn32 {Z : State} {a0 : Array Value} (hw : TW Z a0) := slot_ne (Or.inr (own_w hw 35 rfl)) (Or.inr (own_w hw 38 rfl)) (by decide) (t := (.array .int)) (by decide) (t' := (.array .double)) (by decide)
def sn33 {Z : State} {a0 : Array Value} (hw : TW Z a0) := slot_ne (Or.inl (own_w hw 47 rfl)) (Or.inl (own_w hw 45 rfl)) (by decide) (t := (.array .double)) (by decide) (t' := .int) (by decide)
def sn34 {Z : State} {a0 : Array Value} (hw : TW Z a0) := slot_ne (Or.inl (own_w hw 50 rfl)) (Or.inl (own_w hw 45 rfl)) (by decide) (t := (.array .long)) (by decide) (t' := .int) (by decide)
def sn35 {Z : State} {a0 : Array Value} (hw : TW Z a0) := slot_ne (Or.inl (own_w hw 79 rfl)) (Or.inl (own_w hw 45 rfl)) (by decide) (t := .int) (by decide) (t' := .int) (by decide)
def sn36 {Z : State} {a0 : Array Value} (hw : TW Z a0) := slot_ne (Or.inr (own_w hw 32 rfl)) (Or.inl (own_w hw 45 rfl)) (by decide) (t := .int) (by decide) (t' := .int) (by decide)
def sn37 {Z : State} {a0 : Array Value} (hw : TW Z a0) := slot_ne (Or.inr (own_w hw 35 rfl)) (Or.inl (own_w hw 45 rfl)) (by decide) (t := (.array .int)) (by decide) (t' := .int) (by decide)
def sn38 {Z : State} {a0 : Array Value} (hw : TW Z a0) := slot_ne (Or.inr (own_w hw 38 rfl)) (Or.inl (own_w hw 45 rfl)) (by decide) (t := (.array .double)) (by decide) (t' := .int) (by decide)
def sn39 {Z : State} {a0 : Array Value} (hw : TW Z a0) := slot_ne (Or.inl (own_w hw 45 rfl)) (Or.inl (own_w hw 47 rfl)) (by decide) (t := .int) (by decide) (t' := (.array .double)) (by decide)
def sn40 {Z : State} {a0 : Array Value} (hw : TW Z a0) := slot_ne (Or.inl (own_w hw 50 rfl)) (Or.inl (own_w hw 47 rfl)) (by decide) (t := (.array .long)) (by decide) (t' := (.array .double)) (by decide)
def sn41 {Z : State} {a0 : Array Value} (hw : TW Z a0) := slot_ne (Or.inl (own_w hw 79 rfl)) (Or.inl (own_w hw 47 rfl)) (by decide) (t := .int) (by decide) (t' := (.array .double)) (by decide)
def sn42 {Z : State} {a0 : Array Value} (hw : TW Z a0) := slot_ne (Or.inr (own_w hw 32 rfl)) (Or.inl (own_w hw 47 rfl)) (by decide) (t := .int) (by decide) (t' := (.array .double)) (by decide)
def sn43 {Z : State} {a0 : Array Value} (hw : TW Z a0) := slot_ne (Or.inr (own_w hw 35 rfl)) (Or.inl (own_w hw 47 rfl)) (by decide) (t := (.array .int)) (by decide) (t' := (.array .double)) (by decide)
def sn44 {Z : State} {a0 : Array Value} (hw : TW Z a0) := slot_ne (Or.inr (own_w hw 38 rfl)) (Or.inl (own_w hw 47 rfl)) (by decide) (t := (.array .double)) (by decide) (t' := (.array .double)) (by decide)
def sn45 {Z : State} {a0 : Array Value} (hw : TW Z a0) := slot_ne (Or.inl (own_w hw 45 rfl)) (Or.inl (own_w hw 50 rfl)) (by decide) (t := .int) (by decide) (t' := (.array .long)) (by decide)
def sn46 {Z : State} {a0 : Array Value} (hw : TW Z a0) := slot_ne (Or.inl (own_w hw 47 rfl)) (Or.inl (own_w hw 50 rfl)) (by decide) (t := (.array .double)) (by decide) (t' := (.array .long)) (by decide)
def sn47 {Z : State} {a0 : Array Value} (hw : TW Z a0) := slot_ne (Or.inl (own_w hw 79 rfl)) (Or.inl (own_w hw 50 rfl)) (by decide) (t := .int) (by decide) (t' := (.array .long)) (by decide)
def sn48 {Z : State} {a0 : Array Value} (hw : TW Z a0) := slot_ne (Or.inr (own_w hw 32 rfl)) (Or.inl (own_w hw 50 rfl)) (by decide) (t := .int) (by decide) (t' := (.array .long)) (by decide)
def sn49 {Z : State} {a0 : Array Value} (hw : TW Z a0) := slot_ne (Or.inr (own_w hw 35 rfl)) (Or.inl (own_w hw 50 rfl)) (by decide) (t := (.array .int)) (by decide) (t' := (.array .long)) (by decide)
def sn50 {Z : State} {a0 : Array Value} (hw : TW Z a0) := slot_ne (Or.inr (own_w hw 38 rfl)) (Or.inl (own_w hw 50 rfl)) (by decide) (t := (.array .double)) (by decide) (t' := (.array .long)) (by decide)
theorem rmC1 (l : Launch) (Z : State) (a0 : Array Value) (hw : TW Z a0) (b_ : Addr) (l_ : Int32) (h0 : Heap) (n0 : Nat) (Z0 : n0 ≤ h0.size) (p0 : Exa Z h0 b_ "com/example/boceto/boceto/signature/ComponentBuffers") (p1 : Fld Z h0 b_ "com/example/boceto/boceto/signature/ComponentBuffers" "_capacity" "I" (.int (0 : Int32))) (p2 : Fld Z h0 b_ "com/example/boceto/boceto/signature/ComponentBuffers" "_points" "[D" .null) (p3 : Fld Z h0 b_ "com/example/boceto/boceto/signature/ComponentBuffers" "_identities" "[J" .null) (p4 : Fld Z h0 b_ "com/example/boceto/boceto/signature/ComponentBuffers" "_pointCount" "I" (.int (0 : Int32))) (p5 : Fld Z h0 b_ "com/example/boceto/boceto/signature/ComponentBuffers" "_insertion" "Lcom/example/boceto/boceto/signature/PointSink;" .null) (p6 : Fld Z h0 b_ "com/example/boceto/boceto/signature/ComponentBuffers" "_removal" "Lcom/example/boceto/boceto/signature/PointSink;" .null) (p7 : Fld Z h0 b_ "com/example/boceto/boceto/signature/ComponentBuffers" "_bufferSize" "I" (.int (0 : Int32))) (p8 : Fld Z h0 b_ "com/example/boceto/boceto/signature/ComponentBuffers" "_sizes" "[I" .null) (p9 : Fld Z h0 b_ "com/example/boceto/boceto/signature/ComponentBuffers" "_thresholds" "[D" .null) (g0 : n0 ≤ b_) :
    Pays l Z (⟨"com/example/boceto/boceto/signature/ComponentBuffers", "<init>", "(II)V"⟩ : MethodName) prog_28_method_1_code 3 none [] ({ frames := 2, cells := 6, slots := 6, locals := 40 } : Room) #[(.ref b_), (.int (1 : Int32)), (.int l_)] h0 (fun v h L => ∃ (n0_ : Addr) (n1_ : Addr) (n2_ : Addr) (n3_ : Addr), v = none ∧ Fr n0 L ∧ Keep h0 h [b_] ∧ Exa Z h b_ "com/example/boceto/boceto/signature/ComponentBuffers" ∧ Fld Z h b_ "com/example/boceto/boceto/signature/ComponentBuffers" "_capacity" "I" (.int (1 : Int32)) ∧ Fld Z h b_ "com/example/boceto/boceto/signature/ComponentBuffers" "_points" "[D" (.ref n2_) ∧ Fld Z h b_ "com/example/boceto/boceto/signature/ComponentBuffers" "_identities" "[J" (.ref n3_) ∧ Fld Z h b_ "com/example/boceto/boceto/signature/ComponentBuffers" "_pointCount" "I" (.int (0 : Int32)) ∧ Fld Z h b_ "com/example/boceto/boceto/signature/ComponentBuffers" "_bufferSize" "I" (.int l_) ∧ Fld Z h b_ "com/example/boceto/boceto/signature/ComponentBuffers" "_sizes" "[I" (.ref n0_) ∧ Fld Z h b_ "com/example/boceto/boceto/signature/ComponentBuffers" "_thresholds" "[D" (.ref n1_) ∧ Exa Z h n0_ "[I" ∧ Arf Z h n0_ .int Value.int 1 (fun _ => (0 : Int32)) ∧ Exa Z h n1_ "[D" ∧ Arf Z h n1_ .double vD 1 (fun _ => dinf) ∧ Exa Z h n2_ "[D" ∧ Arf Z h n2_ .double vD 1 (fun _ => (dint 0)) ∧ Exa Z h n3_ "[J" ∧ Arf Z h n3_ .long Value.long 1 (fun _ => (0 : Int64)) ∧ h0.size ≤ n0_ ∧ h0.size ≤ n1_ ∧ h0.size ≤ n2_ ∧ h0.size ≤ n3_ ∧ n0_ ≠ n1_ ∧ n0_ ≠ n2_ ∧ n0_ ≠ n3_ ∧ n1_ ≠ n2_ ∧ n1_ ≠ n3_ ∧ n2_ ≠ n3_) := by
  refine Pays.walk (plainFor_of_name pn_3) (fun m => ef_3 m b_ (1 : Int32) l_ ) ?_
  intro p e s m below meth c T0 X0 hx hby hml hown hnm hZ e0 hret hlk
  have dc := @Jvm.hb _ _ hby
  have ow := @own_w Z a0 hw
  have K0 := Keep.refl h0 ([b_] : List Addr)
  obtain ⟨T1, X1, e1, st1⟩ := initO X0 hx hZ hown (ow 6 rfl) (ow 7 rfl) (ow 8 rfl) e0 (g := (mkF m 1 #[sR b_, sI 1, sI l_] [(.ref b_)])) rfl (by rw [hml]; rfl) rfl (dc d1_1) (by decide) (W := 0) (own_le20 rfl) (by decide)
  obtain ⟨T2, h2, X2, e2, E2, A2, D2, U2, st2⟩ := newO X1 hx hZ hown (ow 9 rfl) (ow 10 rfl) (ow 11 rfl) e1 (g := (mkF m 5 #[sR b_, sI 1, sI l_] [(.ref b_)])) rfl (dc d1_5) (by decide) (by decide)
  obtain ⟨a2, g2⟩ : ∃ z, z = h0.size := ⟨_, rfl⟩
  rw [← g2] at A2 D2 U2 st2
  have M2 : h0.size ≤ a2 := Nat.le_trans K0.1 (Nat.le_of_eq g2.symm)
  have ne13 := own_neG p0.lt g2
  have Z14 := Nat.le_trans Z0 E2.1
  have K15 := K0.ext E2
  have F16 : Fld Z h2 a2 "com/example/boceto/boceto/signature/ComponentBuffers$Insertion" "this$0" "Lcom/example/boceto/boceto/signature/ComponentBuffers;" .null := D2 (Or.inr (ow 16 rfl)) (ty := (.object "com/example/boceto/boceto/signature/ComponentBuffers")) (by decide)
  have G2 : n0 ≤ a2 := Nat.le_trans Z0 (Nat.le_of_eq g2.symm)
  refine Goes.on (T' := T2) (g' := (mkF m 10 #[sR b_, sI 1, sI l_] [(.ref b_), (.ref a2), (.ref a2), (.ref b_)])) (fun _ k => XS.aloadN X0.here hx rfl (dc d1_0) rfl rfl (st1 _ (XS.aloadN X1.here hx rfl (dc d1_4) rfl rfl (st2 _ (XS.dup X2.here hx rfl (dc d1_8) rfl rfl (XS.aloadN X2.here hx rfl (dc d1_9) rfl rfl k)))))) ?_
  refine Goes.callCR X2 hx hZ 2 rfl hown (ow 12 rfl) (ow 13 rfl) (ow 11 rfl) (ow 14 rfl) (by decide) e2 (rmIn l Z a0 hw a2 b_ h2 n0 Z14 A2 G2 F16) (by decide) (by decide) (by decide) (by decide) rfl (by rw [hml]; rfl) (a := a2) (argsL := [(.ref b_)]) (rest := [(.ref a2), (.ref b_)]) rfl (lenOf pd_0 rfl) rfl (own_le20 rfl) (dc d1_10) ?_
  rintro v17 T17 L17 X17 ⟨rfl, N17q, K17, A17, B17_thisS0⟩
  show Goes p e below _ T17 (mkF m 13 #[sR b_, sI 1, sI l_] [(.ref a2), (.ref b_)])
  have C18 := (p0.ext E2).keep K17
  have C23 := (p5.ext E2).keep K17 (ninS ne13 nin0)
  have Z29 := Nat.le_trans Z14 K17.1
  have K30 := K15.trans K17 (allS (Or.inr M2) all0)
  obtain ⟨T31, h31, X31, e31, W31, st31⟩ := putF X17 hx hZ hown (host := "") (Or.inl (ow 18 rfl)) Via.refl rfl C23 C18 (Or.inr ⟨(ow 19 rfl), rfl, hnm⟩) (ow 1 rfl) (ty := (.object "com/example/boceto/boceto/signature/PointSink")) (by decide) rfl rfl (g := (mkF m 13 #[sR b_, sI 1, sI l_] [(.ref a2), (.ref b_)])) rfl rfl (dc d1_13)
  have C32 := C18.wr W31
  have Z44 := own_leW W31 Z29
  have K45 := K30.wr W31 (Or.inl (List.mem_of_getElem? (i := 0) rfl))
  obtain ⟨T46, h46, X46, e46, E46, A46, D46, U46, st46⟩ := newO X31 hx hZ hown (ow 20 rfl) (ow 21 rfl) (ow 22 rfl) e31 (g := (mkF m 17 #[sR b_, sI 1, sI l_] [(.ref b_)])) rfl (dc d1_17) (by decide) (by decide)
  obtain ⟨a46, g46⟩ : ∃ z, z = h31.size := ⟨_, rfl⟩
  rw [← g46] at A46 D46 U46 st46
  have M46 : h0.size ≤ a46 := Nat.le_trans K45.1 (Nat.le_of_eq g46.symm)
  have ne59 := own_neG C32.lt g46
  have Z61 := Nat.le_trans Z44 E46.1
  have K62 := K45.ext E46
  have F63 : Fld Z h46 a46 "com/example/boceto/boceto/signature/ComponentBuffers$Removal" "this$0" "Lcom/example/boceto/boceto/signature/ComponentBuffers;" .null := D46 (Or.inr (ow 27 rfl)) (ty := (.object "com/example/boceto/boceto/signature/ComponentBuffers")) (by decide)
  have G46 : n0 ≤ a46 := Nat.le_trans Z44 (Nat.le_of_eq g46.symm)
  refine Goes.on (T' := T46) (g' := (mkF m 22 #[sR b_, sI 1, sI l_] [(.ref b_), (.ref a46), (.ref a46), (.ref b_)])) (fun _ k => st31 _ (XS.aloadN X31.here hx rfl (dc d1_16) rfl rfl (st46 _ (XS.dup X46.here hx rfl (dc d1_20) rfl rfl (XS.aloadN X46.here hx rfl (dc d1_21) rfl rfl k))))) ?_
  refine Goes.callCR X46 hx hZ 2 rfl hown (ow 23 rfl) (ow 24 rfl) (ow 22 rfl) (ow 25 rfl) (by decide) e46 (rmRe l Z a0 hw a46 b_ h46 n0 Z61 A46 G46 F63) (by decide) (by decide) (by decide) (by decide) rfl (by rw [hml]; rfl) (a := a46) (argsL := [(.ref b_)]) (rest := [(.ref a46), (.ref b_)]) rfl (lenOf pd_0 rfl) rfl (own_le20 rfl) (dc d1_22) ?_
  rintro v64 T64 L64 X64 ⟨rfl, N64q, K64, A64, B64_thisS0⟩
  show Goes p e below _ T64 (mkF m 25 #[sR b_, sI 1, sI l_] [(.ref a46), (.ref b_)])
  have C65 := (C32.ext E46).keep K64
  have C71 := ((((p6.ext E2).keep K17 (ninS ne13 nin0)).other W31 (Or.inr (sn4 hw))).ext E46).keep K64 (ninS ne59 nin0)
  have Z78 := Nat.le_trans Z61 K64.1
  have K79 := K62.trans K64 (allS (Or.inr M46) all0)
  obtain ⟨T80, h80, X80, e80, W80, st80⟩ := putF X64 hx hZ hown (host := "") (Or.inl (ow 29 rfl)) Via.refl rfl C71 C65 (Or.inr ⟨(ow 30 rfl), rfl, hnm⟩) (ow 1 rfl) (ty := (.object "com/example/boceto/boceto/signature/PointSink")) (by decide) rfl rfl (g := (mkF m 25 #[sR b_, sI 1, sI l_] [(.ref a46), (.ref b_)])) rfl rfl (dc d1_25)
  have C81 := C65.wr W80
  have C88 := (((((p7.ext E2).keep K17 (ninS ne13 nin0)).other W31 (Or.inr (sn5 hw))).ext E46).keep K64 (ninS ne59 nin0)).other W80 (Or.inr (sn12 hw))
  have Z95 := own_leW W80 Z78
  have K96 := K79.wr W80 (Or.inl (List.mem_of_getElem? (i := 0) rfl))
  obtain ⟨T97, h97, X97, e97, W97, st97⟩ := putF X80 hx hZ hown (host := "") (Or.inl (ow 31 rfl)) Via.refl e80 C88 C81 (Or.inr ⟨(ow 32 rfl), rfl, hnm⟩) (ow 1 rfl) (ty := .int) (by decide) rfl rfl (g := (mkF m 30 #[sR b_, sI 1, sI l_] [(.int l_), (.ref b_)])) rfl rfl (dc d1_30)
  have C98 := C81.wr W97
  have Z112 := own_leW W97 Z95
  have K113 := K96.wr W97 (Or.inl (List.mem_of_getElem? (i := 0) rfl))
  obtain ⟨T114, h114, cA114, X114, e114, E114, A114, J114, st114⟩ := newPE X97 hx hZ (ow 33 rfl) e97 (g := (mkF m 35 #[sR b_, sI 1, sI l_] [(.int 1), (.ref b_)])) rfl (dc d1_35) rfl (by decide) (cap := 1) (by decide) (by decide) (by decide) (by decide) (ad := "[I") (by decide)
  obtain ⟨a114, g114⟩ : ∃ z, z = h97.size := ⟨_, rfl⟩
  rw [← g114] at A114 J114 st114
  have M114 : h0.size ≤ a114 := Nat.le_trans K113.1 (Nat.le_of_eq g114.symm)
  have C115 := C98.ext E114
  have C123 := (((((((p8.ext E2).keep K17 (ninS ne13 nin0)).other W31 (Or.inr (sn6 hw))).ext E46).keep K64 (ninS ne59 nin0)).other W80 (Or.inr (sn13 hw))).other W97 (Or.inr (sn19 hw))).ext E114
  have ne129 := own_neG C98.lt g114
  have Z132 := Nat.le_trans Z112 E114.1
  have K133 := K113.ext E114
  have B114 : Arf Z h114 a114 .int Value.int 1 (fun _ => (0 : Int32)) := Arf.new A114 rfl
  obtain ⟨T134, h134, X134, e134, W134, st134⟩ := putF X114 hx hZ hown (host := "") (Or.inl (ow 34 rfl)) Via.refl e114 C123 C115 (Or.inr ⟨(ow 35 rfl), rfl, hnm⟩) (ow 1 rfl) (ty := (.array .int)) (by decide) rfl rfl (g := (mkF m 37 #[sR b_, sI 1, sI l_] [(.ref a114), (.ref b_)])) rfl rfl (dc d1_37)
  have C135 := C115.wr W134
  have C149 := J114.wr W134
  have Z151 := own_leW W134 Z132
  have K152 := K133.wr W134 (Or.inl (List.mem_of_getElem? (i := 0) rfl))
  obtain ⟨T153, h153, cA153, X153, e153, E153, A153, J153, st153⟩ := newPE X134 hx hZ (ow 36 rfl) e134 (g := (mkF m 42 #[sR b_, sI 1, sI l_] [(.int 1), (.ref b_)])) rfl (dc d1_42) rfl (by decide) (cap := 1) (by decide) (by decide) (by decide) (by decide) (ad := "[D") (by decide)
  obtain ⟨a153, g153⟩ : ∃ z, z = h134.size := ⟨_, rfl⟩
  rw [← g153] at A153 J153 st153
  have M153 : h0.size ≤ a153 := Nat.le_trans K152.1 (Nat.le_of_eq g153.symm)
  have C154 := C135.ext E153
  have C163 := (((((((((p9.ext E2).keep K17 (ninS ne13 nin0)).other W31 (Or.inr (sn7 hw))).ext E46).keep K64 (ninS ne59 nin0)).other W80 (Or.inr (sn14 hw))).other W97 (Or.inr (sn20 hw))).ext E114).other W134 (Or.inr (sn26 hw))).ext E153
  have ne170 := own_neG C135.lt g153
  have ne173 := own_neG C149.lt g153
  have Z174 := Nat.le_trans Z151 E153.1
  have K175 := K152.ext E153
  have B153 : Arf Z h153 a153 .double vD 1 (fun _ => (dint 0)) := Arf.new A153 dv_zero
  have G153 : n0 ≤ a153 := Nat.le_trans Z151 (Nat.le_of_eq g153.symm)
  obtain ⟨T176, h176, X176, e176, W176, st176⟩ := putF X153 hx hZ hown (host := "") (Or.inl (ow 37 rfl)) Via.refl e153 C163 C154 (Or.inr ⟨(ow 38 rfl), rfl, hnm⟩) (ow 1 rfl) (ty := (.array .double)) (by decide) rfl rfl (g := (mkF m 44 #[sR b_, sI 1, sI l_] [(.ref a153), (.ref b_)])) rfl rfl (dc d1_44)
  have C186 := C163.same W176
  have C194 := B153.other W176 ne170.symm
  have Z195 := own_leW W176 Z174
  have K196 := K175.wr W176 (Or.inl (List.mem_of_getElem? (i := 0) rfl))
  obtain ⟨T197, X197, e197, st197⟩ := getF X176 hx hZ hown (host := "") (Or.inl (ow 37 rfl)) Via.refl e176 C186 (g := (mkF m 48 #[sR b_, sI 1, sI l_] [(.ref b_)])) rfl rfl (dc d1_48)
  refine Goes.on (T' := T197) (g' := (mkF m 54 #[sR b_, sI 1, sI l_] [(.double (dv dinf)), (.ref a153)])) (fun _ k => st80 _ (XS.aloadN X80.here hx rfl (dc d1_28) rfl rfl (XS.iloadN X80.here hx rfl (dc d1_29) rfl (st97 _ (XS.aloadN X97.here hx rfl (dc d1_33) rfl rfl (XS.iloadN X97.here hx rfl (dc d1_34) rfl (st114 _ (st134 _ (XS.aloadN X134.here hx rfl (dc d1_40) rfl rfl (XS.iloadN X134.here hx rfl (dc d1_41) rfl (st153 _ (st176 _ (XS.aloadN X176.here hx rfl (dc d1_47) rfl rfl (st197 _ (X197.ldc2DoubleC hx hown (mvT hZ (ow 39 rfl)) (g := (mkF m 51 #[sR b_, sI 1, sI l_] [(.ref a153)])) rfl (dc d1_51) _ k))))))))))))))) ?_
  refine Goes.callS X197 hx hZ 0 hown (ow 40 rfl) (ow 41 rfl) (ow 42 rfl) (ow 43 rfl) (by decide) e197 (rmF1 l Z a0 hw a153 dinf (fun _ => (dint 0)) h176 n0 Z195 C194 G153) (by decide) (by decide) (by decide) (by decide) rfl (by rw [hml]; rfl) (argsL := [(.ref a153), (.double (dv dinf))]) (rest := []) rfl (lenOf pd_1 rfl) rfl (own_le20 rfl) (dc d1_54) ?_
  rintro v198 T198 L198 X198 ⟨rfl, N198q, K198, B198⟩
  show Goes p e below _ T198 (mkF m 57 #[sR b_, sI 1, sI l_] [])
  have C199 := (C154.wr W176).keep K198
  have C200 := (((((((((((p1.ext E2).keep K17 (ninS ne13 nin0)).other W31 (Or.inr (sn0 hw))).ext E46).keep K64 (ninS ne59 nin0)).other W80 (Or.inr (sn8 hw))).other W97 (Or.inr (sn15 hw))).ext E114).other W134 (Or.inr (sn21 hw))).ext E153).other W176 (Or.inr (sn27 hw))).keep K198 (ninS ne170 nin0)
  have K217 := K196.trans K198 (allS (Or.inr M153) all0)
  obtain ⟨T218, h218, X218, e218, W218, st218⟩ := putF X198 hx hZ hown (host := "") (Or.inl (ow 44 rfl)) Via.refl rfl C200 C199 (Or.inl (ow 45 rfl)) (ow 1 rfl) (ty := .int) (by decide) rfl rfl (g := (mkF m 59 #[sR b_, sI 1, sI l_] [(.int 1), (.ref b_)])) rfl rfl (dc d1_59)
  have C219 := C199.wr W218
  have C233 := (((C149.ext E153).wr W176).keep K198).wr W218
  have C235 := ((J153.wr W176).keep K198).wr W218
  have K238 := K217.wr W218 (Or.inl (List.mem_of_getElem? (i := 0) rfl))
  obtain ⟨T239, h239, cA239, X239, e239, E239, A239, J239, st239⟩ := newPE X218 hx hZ (ow 36 rfl) e218 (g := (mkF m 64 #[sR b_, sI 1, sI l_] [(.int 1), (.ref b_)])) rfl (dc d1_64) rfl (by decide) (cap := 1) (by decide) (by decide) (by decide) (by decide) (ad := "[D") (by decide)
  obtain ⟨a239, g239⟩ : ∃ z, z = h218.size := ⟨_, rfl⟩
  rw [← g239] at A239 J239 st239
  have M239 : h0.size ≤ a239 := Nat.le_trans K238.1 (Nat.le_of_eq g239.symm)
  have C240 := C219.ext E239
  have C242 := (((((((((((((p2.ext E2).keep K17 (ninS ne13 nin0)).other W31 (Or.inr (sn1 hw))).ext E46).keep K64 (ninS ne59 nin0)).other W80 (Or.inr (sn9 hw))).other W97 (Or.inr (sn16 hw))).ext E114).other W134 (Or.inr (sn22 hw))).ext E153).other W176 (Or.inr (sn28 hw))).keep K198 (ninS ne170 nin0)).other W218 (Or.inr (sn33 hw))).ext E239
  have ne258 := own_neG C219.lt g239
  have ne261 := own_neG C233.lt g239
  have ne262 := own_neG C235.lt g239
  have K264 := K238.ext E239
  have B239 : Arf Z h239 a239 .double vD 1 (fun _ => (dint 0)) := Arf.new A239 dv_zero
  obtain ⟨T265, h265, X265, e265, W265, st265⟩ := putF X239 hx hZ hown (host := "") (Or.inl (ow 46 rfl)) Via.refl e239 C242 C240 (Or.inl (ow 47 rfl)) (ow 1 rfl) (ty := (.array .double)) (by decide) rfl rfl (g := (mkF m 66 #[sR b_, sI 1, sI l_] [(.ref a239), (.ref b_)])) rfl rfl (dc d1_66)
  have C266 := C240.wr W265
  have C280 := (C233.ext E239).wr W265
  have C282 := (C235.ext E239).wr W265
  have C284 := J239.wr W265
  have K287 := K264.wr W265 (Or.inl (List.mem_of_getElem? (i := 0) rfl))
  obtain ⟨T288, h288, cA288, X288, e288, E288, A288, J288, st288⟩ := newPE X265 hx hZ (ow 48 rfl) e265 (g := (mkF m 71 #[sR b_, sI 1, sI l_] [(.int 1), (.ref b_)])) rfl (dc d1_71) rfl (by decide) (cap := 1) (by decide) (by decide) (by decide) (by decide) (ad := "[J") (by decide)
  obtain ⟨a288, g288⟩ : ∃ z, z = h265.size := ⟨_, rfl⟩
  rw [← g288] at A288 J288 st288
  have M288 : h0.size ≤ a288 := Nat.le_trans K287.1 (Nat.le_of_eq g288.symm)
  have C289 := C266.ext E288
  have C292 := (((((((((((((((p3.ext E2).keep K17 (ninS ne13 nin0)).other W31 (Or.inr (sn2 hw))).ext E46).keep K64 (ninS ne59 nin0)).other W80 (Or.inr (sn10 hw))).other W97 (Or.inr (sn17 hw))).ext E114).other W134 (Or.inr (sn23 hw))).ext E153).other W176 (Or.inr (sn29 hw))).keep K198 (ninS ne170 nin0)).other W218 (Or.inr (sn34 hw))).ext E239).other W265 (Or.inr (sn40 hw))).ext E288
  have ne309 := own_neG C266.lt g288
  have ne312 := own_neG C280.lt g288
  have ne313 := own_neG C282.lt g288
  have ne314 := own_neG C284.lt g288
  have K316 := K287.ext E288
  have B288 : Arf Z h288 a288 .long Value.long 1 (fun _ => (0 : Int64)) := Arf.new A288 rfl
  obtain ⟨T317, h317, X317, e317, W317, st317⟩ := putF X288 hx hZ hown (host := "") (Or.inl (ow 49 rfl)) Via.refl e288 C292 C289 (Or.inl (ow 50 rfl)) (ow 1 rfl) (ty := (.array .long)) (by decide) rfl rfl (g := (mkF m 73 #[sR b_, sI 1, sI l_] [(.ref a288), (.ref b_)])) rfl rfl (dc d1_73)
  have N317 := Fr.snoc X317 (Fr.snoc X265 (Fr.snoc X218 (Fr.app (Fr.snoc X176 (Fr.snoc X134 (Fr.snoc X97 (Fr.snoc X80 (Fr.app (Fr.snoc X31 (Fr.app (Fr.nil n0) N17q) g0) N64q) g0) g0) g0) g0) N198q) g0) g0) g0
  have C318 := C289.wr W317
  have C319 := ((((C200.same W218).ext E239).other W265 (Or.inr (sn39 hw))).ext E288).other W317 (Or.inr (sn45 hw))
  have C320 := ((C242.same W265).ext E288).other W317 (Or.inr (sn46 hw))
  have C321 := C292.same W317
  have C322 := ((((((((((((((((p4.ext E2).keep K17 (ninS ne13 nin0)).other W31 (Or.inr (sn3 hw))).ext E46).keep K64 (ninS ne59 nin0)).other W80 (Or.inr (sn11 hw))).other W97 (Or.inr (sn18 hw))).ext E114).other W134 (Or.inr (sn24 hw))).ext E153).other W176 (Or.inr (sn30 hw))).keep K198 (ninS ne170 nin0)).other W218 (Or.inr (sn35 hw))).ext E239).other W265 (Or.inr (sn41 hw))).ext E288).other W317 (Or.inr (sn47 hw))
  have C325 := ((((((((((C88.same W97).ext E114).other W134 (Or.inr (sn25 hw))).ext E153).other W176 (Or.inr (sn31 hw))).keep K198 (ninS ne170 nin0)).other W218 (Or.inr (sn36 hw))).ext E239).other W265 (Or.inr (sn42 hw))).ext E288).other W317 (Or.inr (sn48 hw))
  have C326 := ((((((((C123.same W134).ext E153).other W176 (Or.inr (sn32 hw))).keep K198 (ninS ne170 nin0)).other W218 (Or.inr (sn37 hw))).ext E239).other W265 (Or.inr (sn43 hw))).ext E288).other W317 (Or.inr (sn49 hw))
  have C327 := (((((C186.keep K198 (ninS ne170 nin0)).other W218 (Or.inr (sn38 hw))).ext E239).other W265 (Or.inr (sn44 hw))).ext E288).other W317 (Or.inr (sn50 hw))
  have C332 := (C280.ext E288).wr W317
  have C333 := ((((((((B114.other W134 ne129.symm).ext E153).other W176 ne129.symm).keep K198 (ninS ne173 nin0)).other W218 ne129.symm).ext E239).other W265 ne129.symm).ext E288).other W317 ne129.symm
  have C334 := (C282.ext E288).wr W317
  have C335 := ((((B198.other W218 ne170.symm).ext E239).other W265 ne170.symm).ext E288).other W317 ne170.symm
  have C336 := (C284.ext E288).wr W317
  have C337 := ((B239.other W265 ne258.symm).ext E288).other W317 ne258.symm
  have C338 := J288.wr W317
  have C339 := B288.other W317 ne309.symm
  have K341 := K316.wr W317 (Or.inl (List.mem_of_getElem? (i := 0) rfl))
  refine Goes.on (T' := T317) (g' := (mkF m 76 #[sR b_, sI 1, sI l_] [])) (fun _ k => XS.aloadN X198.here hx rfl (dc d1_57) rfl rfl (XS.iconst X198.here hx rfl (dc d1_58) (st218 _ (XS.aloadN X218.here hx rfl (dc d1_62) rfl rfl (XS.iloadN X218.here hx rfl (dc d1_63) rfl (st239 _ (st265 _ (XS.aloadN X265.here hx rfl (dc d1_69) rfl rfl (XS.iloadN X265.here hx rfl (dc d1_70) rfl (st288 _ (st317 _ k))))))))))) ?_
  exact Goes.retV X317 hx hlk hret (dc d1_76) (by decide) (by decide) (by rw [e317]; exact ⟨a114, a153, a239, a288, rfl, N317, K341, C318, C319, C320, C321, C322, C325, C326, C327, C332, C333, C334, C335, C336, C337, C338, C339, M114, M153, M239, M288, ne173, ne261, ne312, ne262, ne313, ne314⟩)
theorem rmF2 (l : Launch) (Z : State) (a0 : Array Value) (hw : TW Z a0) (a : Addr) (x : DK) (f : Nat → DK) (h0 : Heap) (n0 : Nat) (Z0 : n0 ≤ h0.size) (B0 : Arf Z h0 a .double vD 2 f) (ga : n0 ≤ a) :
    Pays l Z (⟨"java/util/Arrays", "fill", "([DD)V"⟩ : MethodName) jdk_65_method_113_code 5 none [] ({ frames := 0, cells := 0, slots := 0, locals := 0 } : Room) #[(.ref a), (.double (dv x))] h0 (fun v h L => v = none ∧ Fr n0 L ∧ Keep h0 h [a] ∧ Arf Z h a .double vD 2 (fun _ => x)) := by
  refine Pays.walk (plainFor_of_name pn_2) (fun m => ef_2 m a (dv x) ) ?_
  intro p e s m below meth c T0 X0 hx hby hml hown hnm hZ e0 hret hlk
  have dc := @Jvm.hb _ _ hby
  have K0 := Keep.refl h0 [a]
  obtain ⟨T2, h2, X2, e2, W2, B2, st2⟩ := wrK X0 hx hZ e0 B0 (by decide)  (g := (mkF m 15 #[sR a, sD (dv x), s2, sI 0, sI 2] [(.double (dv x)), (.int 0), (.ref a)])) rfl rfl (dc d5_15)
  have K4 := K0.wr W2 (Or.inl (List.mem_of_getElem? (i := 0) rfl))
  have B2 : Arf Z h2 a .double vD 2 (Upd f 0 x) := B2
  obtain ⟨T5, h5, X5, e5, W5, B5, st5⟩ := wrK X2 hx hZ e2 B2 (by decide)  (g := (mkF m 15 #[sR a, sD (dv x), s2, sI 1, sI 2] [(.double (dv x)), (.int 1), (.ref a)])) rfl rfl (dc d5_15)
  have N5 := Fr.snoc X5 (Fr.snoc X2 (Fr.nil n0) ga) ga
  have K7 := K4.wr W5 (Or.inl (List.mem_of_getElem? (i := 0) rfl))
  have B5 : Arf Z h5 a .double vD 2 (Upd (Upd f 0 x) 1 x) := B5
  refine Goes.on (T' := T5) (g' := (mkF m 7 #[sR a, sD (dv x), s2, sI 2, sI 2] [(.int 2)])) (fun _ k => XS.iconst X0.here hx rfl (dc d5_0) (XS.istoreN X0.here hx rfl (dc d5_1) rfl (l' := #[sR a, sD (dv x), s2, sI 0, su]) rfl (XS.aloadN X0.here hx rfl (dc d5_2) rfl rfl (aLenm X0 hx hZ e0 B0 (dc d5_3) (XS.istore X0.here hx rfl (dc d5_4) rfl (l' := #[sR a, sD (dv x), s2, sI 0, sI 2]) rfl (XS.iloadN X0.here hx rfl (dc d5_6) rfl (XS.iload X0.here hx rfl (dc d5_7) rfl (XS.icmpNo X0.here hx rfl (dc d5_9) rfl (XT.ii_ge_f (by decide)) (XS.aloadN X0.here hx rfl (dc d5_12) rfl rfl (XS.iloadN X0.here hx rfl (dc d5_13) rfl (XS.dloadN X0.here hx rfl (dc d5_14) rfl (st2 _ (XT.iincV X2.here hx rfl (1 : Int32) (dc d5_16) (by decide) rfl (l' := #[sR a, sD (dv x), s2, sI 1, sI 2]) rfl (XS.goto X2.here hx rfl (pc0 := 19) (pc' := 6) rfl (dc d5_19) (by decide) (by decide) (XS.iloadN X2.here hx rfl (dc d5_6) rfl (XS.iload X2.here hx rfl (dc d5_7) rfl (XS.icmpNo X2.here hx rfl (dc d5_9) rfl (XT.ii_ge_f (by decide)) (XS.aloadN X2.here hx rfl (dc d5_12) rfl rfl (XS.iloadN X2.here hx rfl (dc d5_13) rfl (XS.dloadN X2.here hx rfl (dc d5_14) rfl (st5 _ (XT.iincV X5.here hx rfl (1 : Int32) (dc d5_16) (by decide) rfl (l' := #[sR a, sD (dv x), s2, sI 2, sI 2]) rfl (XS.goto X5.here hx rfl (pc0 := 19) (pc' := 6) rfl (dc d5_19) (by decide) (by decide) (XS.iloadN X5.here hx rfl (dc d5_6) rfl k)))))))))))))))))))))))) ?_
  refine Goes.on (T' := T5) (g' := (mkF m 22 #[sR a, sD (dv x), s2, sI 2, sI 2] [])) (fun _ k => XS.iload X5.here hx rfl (dc d5_7) rfl (XS.icmpYes X5.here hx rfl (pc0 := 9) (pc' := 22) rfl (dc d5_9) rfl (XT.ii_ge_t (by decide)) (by decide) (by decide) k)) ?_
  exact Goes.retV X5 hx hlk hret (dc d5_22) (by decide) (by decide) (by rw [e5]; exact ⟨rfl, N5, K7, B5.congr (fun i hi => match i, hi with | 0, _ => rfl | 1, _ => rfl)⟩)
theorem rmC2 (l : Launch) (Z : State) (a0 : Array Value) (hw : TW Z a0) (b_ : Addr) (l_ : Int32) (h0 : Heap) (n0 : Nat) (Z0 : n0 ≤ h0.size) (p0 : Exa Z h0 b_ "com/example/boceto/boceto/signature/ComponentBuffers") (p1 : Fld Z h0 b_ "com/example/boceto/boceto/signature/ComponentBuffers" "_capacity" "I" (.int (0 : Int32))) (p2 : Fld Z h0 b_ "com/example/boceto/boceto/signature/ComponentBuffers" "_points" "[D" .null) (p3 : Fld Z h0 b_ "com/example/boceto/boceto/signature/ComponentBuffers" "_identities" "[J" .null) (p4 : Fld Z h0 b_ "com/example/boceto/boceto/signature/ComponentBuffers" "_pointCount" "I" (.int (0 : Int32))) (p5 : Fld Z h0 b_ "com/example/boceto/boceto/signature/ComponentBuffers" "_insertion" "Lcom/example/boceto/boceto/signature/PointSink;" .null) (p6 : Fld Z h0 b_ "com/example/boceto/boceto/signature/ComponentBuffers" "_removal" "Lcom/example/boceto/boceto/signature/PointSink;" .null) (p7 : Fld Z h0 b_ "com/example/boceto/boceto/signature/ComponentBuffers" "_bufferSize" "I" (.int (0 : Int32))) (p8 : Fld Z h0 b_ "com/example/boceto/boceto/signature/ComponentBuffers" "_sizes" "[I" .null) (p9 : Fld Z h0 b_ "com/example/boceto/boceto/signature/ComponentBuffers" "_thresholds" "[D" .null) (g0 : n0 ≤ b_) :
    Pays l Z (⟨"com/example/boceto/boceto/signature/ComponentBuffers", "<init>", "(II)V"⟩ : MethodName) prog_28_method_1_code 3 none [] ({ frames := 2, cells := 6, slots := 10, locals := 40 } : Room) #[(.ref b_), (.int (2 : Int32)), (.int l_)] h0 (fun v h L => ∃ (n0_ : Addr) (n1_ : Addr) (n2_ : Addr) (n3_ : Addr), v = none ∧ Fr n0 L ∧ Keep h0 h [b_] ∧ Exa Z h b_ "com/example/boceto/boceto/signature/ComponentBuffers" ∧ Fld Z h b_ "com/example/boceto/boceto/signature/ComponentBuffers" "_capacity" "I" (.int (1 : Int32)) ∧ Fld Z h b_ "com/example/boceto/boceto/signature/ComponentBuffers" "_points" "[D" (.ref n2_) ∧ Fld Z h b_ "com/example/boceto/boceto/signature/ComponentBuffers" "_identities" "[J" (.ref n3_) ∧ Fld Z h b_ "com/example/boceto/boceto/signature/ComponentBuffers" "_pointCount" "I" (.int (0 : Int32)) ∧ Fld Z h b_ "com/example/boceto/boceto/signature/ComponentBuffers" "_bufferSize" "I" (.int l_) ∧ Fld Z h b_ "com/example/boceto/boceto/signature/ComponentBuffers" "_sizes" "[I" (.ref n0_) ∧ Fld Z h b_ "com/example/boceto/boceto/signature/ComponentBuffers" "_thresholds" "[D" (.ref n1_) ∧ Exa Z h n0_ "[I" ∧ Arf Z h n0_ .int Value.int 2 (fun _ => (0 : Int32)) ∧ Exa Z h n1_ "[D" ∧ Arf Z h n1_ .double vD 2 (fun _ => dinf) ∧ Exa Z h n2_ "[D" ∧ Arf Z h n2_ .double vD 2 (fun _ => (dint 0)) ∧ Exa Z h n3_ "[J" ∧ Arf Z h n3_ .long Value.long 2 (fun _ => (0 : Int64)) ∧ h0.size ≤ n0_ ∧ h0.size ≤ n1_ ∧ h0.size ≤ n2_ ∧ h0.size ≤ n3_ ∧ n0_ ≠ n1_ ∧ n0_ ≠ n2_ ∧ n0_ ≠ n3_ ∧ n1_ ≠ n2_ ∧ n1_ ≠ n3_ ∧ n2_ ≠ n3_) := by
  refine Pays.walk (plainFor_of_name pn_3) (fun m => ef_3 m b_ (2 : Int32) l_ ) ?_
  intro p e s m below meth c T0 X0 hx hby hml hown hnm hZ e0 hret hlk
  have dc := @Jvm.hb _ _ hby
  have ow := @own_w Z a0 hw
  have K0 := Keep.refl h0 ([b_] : List Addr)
  obtain ⟨T1, X1, e1, st1⟩ := initO X0 hx hZ hown (ow 6 rfl) (ow 7 rfl) (ow 8 rfl) e0 (g := (mkF m 1 #[sR b_, sI 2, sI l_] [(.ref b_)])) rfl (by rw [hml]; rfl) rfl (dc d1_1) (by decide) (W := 0) (own_le20 rfl) (by decide)
  obtain ⟨T2, h2, X2, e2, E2, A2, D2, U2, st2⟩ := newO X1 hx hZ hown (ow 9 rfl) (ow 10 rfl) (ow 11 rfl) e1 (g := (mkF m 5 #[sR b_, sI 2, sI l_] [(.ref b_)])) rfl (dc d1_5) (by decide) (by decide)
  obtain ⟨a2, g2⟩ : ∃ z, z = h0.size := ⟨_, rfl⟩
  rw [← g2] at A2 D2 U2 st2
  have M2 : h0.size ≤ a2 := Nat.le_trans K0.1 (Nat.le_of_eq g2.symm)
  have ne13 := own_neG p0.lt g2
  have Z14 := Nat.le_trans Z0 E2.1
  have K15 := K0.ext E2
  have F16 : Fld Z h2 a2 "com/example/boceto/boceto/signature/ComponentBuffers$Insertion" "this$0" "Lcom/example/boceto/boceto/signature/ComponentBuffers;" .null := D2 (Or.inr (ow 16 rfl)) (ty := (.object "com/example/boceto/boceto/signature/ComponentBuffers")) (by decide)
  have G2 : n0 ≤ a2 := Nat.le_trans Z0 (Nat.le_of_eq g2.symm)
  refine Goes.on (T' := T2) (g' := (mkF m 10 #[sR b_, sI 2, sI l_] [(.ref b_), (.ref a2), (.ref a2), (.ref b_)])) (fun _ k => XS.aloadN X0.here hx rfl (dc d1_0) rfl rfl (st1 _ (XS.aloadN X1.here hx rfl (dc d1_4) rfl rfl (st2 _ (XS.dup X2.here hx rfl (dc d1_8) rfl rfl (XS.aloadN X2.here hx rfl (dc d1_9) rfl rfl k)))))) ?_
  refine Goes.callCR X2 hx hZ 2 rfl hown (ow 12 rfl) (ow 13 rfl) (ow 11 rfl) (ow 14 rfl) (by decide) e2 (rmIn l Z a0 hw a2 b_ h2 n0 Z14 A2 G2 F16) (by decide) (by decide) (by decide) (by decide) rfl (by rw [hml]; rfl) (a := a2) (argsL := [(.ref b_)]) (rest := [(.ref a2), (.ref b_)]) rfl (lenOf pd_0 rfl) rfl (own_le20 rfl) (dc d1_10) ?_
  rintro v17 T17 L17 X17 ⟨rfl, N17q, K17, A17, B17_thisS0⟩
  show Goes p e below _ T17 (mkF m 13 #[sR b_, sI 2, sI l_] [(.ref a2), (.ref b_)])
  have C18 := (p0.ext E2).keep K17
  have C23 := (p5.ext E2).keep K17 (ninS ne13 nin0)
  have Z29 := Nat.le_trans Z14 K17.1
  have K30 := K15.trans K17 (allS (Or.inr M2) all0)
  obtain ⟨T31, h31, X31, e31, W31, st31⟩ := putF X17 hx hZ hown (host := "") (Or.inl (ow 18 rfl)) Via.refl rfl C23 C18 (Or.inr ⟨(ow 19 rfl), rfl, hnm⟩) (ow 1 rfl) (ty := (.object "com/example/boceto/boceto/signature/PointSink")) (by decide) rfl rfl (g := (mkF m 13 #[sR b_, sI 2, sI l_] [(.ref a2), (.ref b_)])) rfl rfl (dc d1_13)
  have C32 := C18.wr W31
  have Z44 := own_leW W31 Z29
  have K45 := K30.wr W31 (Or.inl (List.mem_of_getElem? (i := 0) rfl))
  obtain ⟨T46, h46, X46, e46, E46, A46, D46, U46, st46⟩ := newO X31 hx hZ hown (ow 20 rfl) (ow 21 rfl) (ow 22 rfl) e31 (g := (mkF m 17 #[sR b_, sI 2, sI l_] [(.ref b_)])) rfl (dc d1_17) (by decide) (by decide)
  obtain ⟨a46, g46⟩ : ∃ z, z = h31.size := ⟨_, rfl⟩
  rw [← g46] at A46 D46 U46 st46
  have M46 : h0.size ≤ a46 := Nat.le_trans K45.1 (Nat.le_of_eq g46.symm)
  have ne59 := own_neG C32.lt g46
  have Z61 := Nat.le_trans Z44 E46.1
  have K62 := K45.ext E46
  have F63 : Fld Z h46 a46 "com/example/boceto/boceto/signature/ComponentBuffers$Removal" "this$0" "Lcom/example/boceto/boceto/signature/ComponentBuffers;" .null := D46 (Or.inr (ow 27 rfl)) (ty := (.object "com/example/boceto/boceto/signature/ComponentBuffers")) (by decide)
  have G46 : n0 ≤ a46 := Nat.le_trans Z44 (Nat.le_of_eq g46.symm)
  refine Goes.on (T' := T46) (g' := (mkF m 22 #[sR b_, sI 2, sI l_] [(.ref b_), (.ref a46), (.ref a46), (.ref b_)])) (fun _ k => st31 _ (XS.aloadN X31.here hx rfl (dc d1_16) rfl rfl (st46 _ (XS.dup X46.here hx rfl (dc d1_20) rfl rfl (XS.aloadN X46.here hx rfl (dc d1_21) rfl rfl k))))) ?_
  refine Goes.callCR X46 hx hZ 2 rfl hown (ow 23 rfl) (ow 24 rfl) (ow 22 rfl) (ow 25 rfl) (by decide) e46 (rmRe l Z a0 hw a46 b_ h46 n0 Z61 A46 G46 F63) (by decide) (by decide) (by decide) (by decide) rfl (by rw [hml]; rfl) (a := a46) (argsL := [(.ref b_)]) (rest := [(.ref a46), (.ref b_)]) rfl (lenOf pd_0 rfl) rfl (own_le20 rfl) (dc d1_22) ?_
  rintro v64 T64 L64 X64 ⟨rfl, N64q, K64, A64, B64_thisS0⟩
  show Goes p e below _ T64 (mkF m 25 #[sR b_, sI 2, sI l_] [(.ref a46), (.ref b_)])
  have C65 := (C32.ext E46).keep K64
  have C71 := ((((p6.ext E2).keep K17 (ninS ne13 nin0)).other W31 (Or.inr (sn4 hw))).ext E46).keep K64 (ninS ne59 nin0)
  have Z78 := Nat.le_trans Z61 K64.1
  have K79 := K62.trans K64 (allS (Or.inr M46) all0)
  obtain ⟨T80, h80, X80, e80, W80, st80⟩ := putF X64 hx hZ hown (host := "") (Or.inl (ow 29 rfl)) Via.refl rfl C71 C65 (Or.inr ⟨(ow 30 rfl), rfl, hnm⟩) (ow 1 rfl) (ty := (.object "com/example/boceto/boceto/signature/PointSink")) (by decide) rfl rfl (g := (mkF m 25 #[sR b_, sI 2, sI l_] [(.ref a46), (.ref b_)])) rfl rfl (dc d1_25)
  have C81 := C65.wr W80
  have C88 := (((((p7.ext E2).keep K17 (ninS ne13 nin0)).other W31 (Or.inr (sn5 hw))).ext E46).keep K64 (ninS ne59 nin0)).other W80 (Or.inr (sn12 hw))
  have Z95 := own_leW W80 Z78
  have K96 := K79.wr W80 (Or.inl (List.mem_of_getElem? (i := 0) rfl))
  obtain ⟨T97, h97, X97, e97, W97, st97⟩ := putF X80 hx hZ hown (host := "") (Or.inl (ow 31 rfl)) Via.refl e80 C88 C81 (Or.inr ⟨(ow 32 rfl), rfl, hnm⟩) (ow 1 rfl) (ty := .int) (by decide) rfl rfl (g := (mkF m 30 #[sR b_, sI 2, sI l_] [(.int l_), (.ref b_)])) rfl rfl (dc d1_30)
  have C98 := C81.wr W97
  have Z112 := own_leW W97 Z95
  have K113 := K96.wr W97 (Or.inl (List.mem_of_getElem? (i := 0) rfl))
  obtain ⟨T114, h114, cA114, X114, e114, E114, A114, J114, st114⟩ := newPE X97 hx hZ (ow 33 rfl) e97 (g := (mkF m 35 #[sR b_, sI 2, sI l_] [(.int 2), (.ref b_)])) rfl (dc d1_35) rfl (by decide) (cap := 2) (by decide) (by decide) (by decide) (by decide) (ad := "[I") (by decide)
  obtain ⟨a114, g114⟩ : ∃ z, z = h97.size := ⟨_, rfl⟩
  rw [← g114] at A114 J114 st114
  have M114 : h0.size ≤ a114 := Nat.le_trans K113.1 (Nat.le_of_eq g114.symm)
  have C115 := C98.ext E114
  have C123 := (((((((p8.ext E2).keep K17 (ninS ne13 nin0)).other W31 (Or.inr (sn6 hw))).ext E46).keep K64 (ninS ne59 nin0)).other W80 (Or.inr (sn13 hw))).other W97 (Or.inr (sn19 hw))).ext E114
  have ne129 := own_neG C98.lt g114
  have Z132 := Nat.le_trans Z112 E114.1
  have K133 := K113.ext E114
  have B114 : Arf Z h114 a114 .int Value.int 2 (fun _ => (0 : Int32)) := Arf.new A114 rfl
  obtain ⟨T134, h134, X134, e134, W134, st134⟩ := putF X114 hx hZ hown (host := "") (Or.inl (ow 34 rfl)) Via.refl e114 C123 C115 (Or.inr ⟨(ow 35 rfl), rfl, hnm⟩) (ow 1 rfl) (ty := (.array .int)) (by decide) rfl rfl (g := (mkF m 37 #[sR b_, sI 2, sI l_] [(.ref a114), (.ref b_)])) rfl rfl (dc d1_37)
  have C135 := C115.wr W134
  have C149 := J114.wr W134
  have Z151 := own_leW W134 Z132
  have K152 := K133.wr W134 (Or.inl (List.mem_of_getElem? (i := 0) rfl))
  obtain ⟨T153, h153, cA153, X153, e153, E153, A153, J153, st153⟩ := newPE X134 hx hZ (ow 36 rfl) e134 (g := (mkF m 42 #[sR b_, sI 2, sI l_] [(.int 2), (.ref b_)])) rfl (dc d1_42) rfl (by decide) (cap := 2) (by decide) (by decide) (by decide) (by decide) (ad := "[D") (by decide)
  obtain ⟨a153, g153⟩ : ∃ z, z = h134.size := ⟨_, rfl⟩
  rw [← g153] at A153 J153 st153
  have M153 : h0.size ≤ a153 := Nat.le_trans K152.1 (Nat.le_of_eq g153.symm)
  have C154 := C135.ext E153
  have C163 := (((((((((p9.ext E2).keep K17 (ninS ne13 nin0)).other W31 (Or.inr (sn7 hw))).ext E46).keep K64 (ninS ne59 nin0)).other W80 (Or.inr (sn14 hw))).other W97 (Or.inr (sn20 hw))).ext E114).other W134 (Or.inr (sn26 hw))).ext E153
  have ne170 := own_neG C135.lt g153
  have ne173 := own_neG C149.lt g153
  have Z174 := Nat.le_trans Z151 E153.1
  have K175 := K152.ext E153
  have B153 : Arf Z h153 a153 .double vD 2 (fun _ => (dint 0)) := Arf.new A153 dv_zero
  have G153 : n0 ≤ a153 := Nat.le_trans Z151 (Nat.le_of_eq g153.symm)
  obtain ⟨T176, h176, X176, e176, W176, st176⟩ := putF X153 hx hZ hown (host := "") (Or.inl (ow 37 rfl)) Via.refl e153 C163 C154 (Or.inr ⟨(ow 38 rfl), rfl, hnm⟩) (ow 1 rfl) (ty := (.array .double)) (by decide) rfl rfl (g := (mkF m 44 #[sR b_, sI 2, sI l_] [(.ref a153), (.ref b_)])) rfl rfl (dc d1_44)
  have C186 := C163.same W176
  have C194 := B153.other W176 ne170.symm
  have Z195 := own_leW W176 Z174
  have K196 := K175.wr W176 (Or.inl (List.mem_of_getElem? (i := 0) rfl))
  obtain ⟨T197, X197, e197, st197⟩ := getF X176 hx hZ hown (host := "") (Or.inl (ow 37 rfl)) Via.refl e176 C186 (g := (mkF m 48 #[sR b_, sI 2, sI l_] [(.ref b_)])) rfl rfl (dc d1_48)
  refine Goes.on (T' := T197) (g' := (mkF m 54 #[sR b_, sI 2, sI l_] [(.double (dv dinf)), (.ref a153)])) (fun _ k => st80 _ (XS.aloadN X80.here hx rfl (dc d1_28) rfl rfl (XS.iloadN X80.here hx rfl (dc d1_29) rfl (st97 _ (XS.aloadN X97.here hx rfl (dc d1_33) rfl rfl (XS.iloadN X97.here hx rfl (dc d1_34) rfl (st114 _ (st134 _ (XS.aloadN X134.here hx rfl (dc d1_40) rfl rfl (XS.iloadN X134.here hx rfl (dc d1_41) rfl (st153 _ (st176 _ (XS.aloadN X176.here hx rfl (dc d1_47) rfl rfl (st197 _ (X197.ldc2DoubleC hx hown (mvT hZ (ow 39 rfl)) (g := (mkF m 51 #[sR b_, sI 2, sI l_] [(.ref a153)])) rfl (dc d1_51) _ k))))))))))))))) ?_
  refine Goes.callS X197 hx hZ 0 hown (ow 40 rfl) (ow 41 rfl) (ow 42 rfl) (ow 43 rfl) (by decide) e197 (rmF2 l Z a0 hw a153 dinf (fun _ => (dint 0)) h176 n0 Z195 C194 G153) (by decide) (by decide) (by decide) (by decide) rfl (by rw [hml]; rfl) (argsL := [(.ref a153), (.double (dv dinf))]) (rest := []) rfl (lenOf pd_1 rfl) rfl (own_le20 rfl) (dc d1_54) ?_
  rintro v198 T198 L198 X198 ⟨rfl, N198q, K198, B198⟩
  show Goes p e below _ T198 (mkF m 57 #[sR b_, sI 2, sI l_] [])
  have C199 := (C154.wr W176).keep K198
  have C200 := (((((((((((p1.ext E2).keep K17 (ninS ne13 nin0)).other W31 (Or.inr (sn0 hw))).ext E46).keep K64 (ninS ne59 nin0)).other W80 (Or.inr (sn8 hw))).other W97 (Or.inr (sn15 hw))).ext E114).other W134 (Or.inr (sn21 hw))).ext E153).other W176 (Or.inr (sn27 hw))).keep K198 (ninS ne170 nin0)
  have K217 := K196.trans K198 (allS (Or.inr M153) all0)
  obtain ⟨T218, h218, X218, e218, W218, st218⟩ := putF X198 hx hZ hown (host := "") (Or.inl (ow 44 rfl)) Via.refl rfl C200 C199 (Or.inl (ow 45 rfl)) (ow 1 rfl) (ty := .int) (by decide) rfl rfl (g := (mkF m 59 #[sR b_, sI 2, sI l_] [(.int 1), (.ref b_)])) rfl rfl (dc d1_59)
  have C219 := C199.wr W218
  have C233 := (((C149.ext E153).wr W176).keep K198).wr W218
  have C235 := ((J153.wr W176).keep K198).wr W218
  have K238 := K217.wr W218 (Or.inl (List.mem_of_getElem? (i := 0) rfl))
  obtain ⟨T239, h239, cA239, X239, e239, E239, A239, J239, st239⟩ := newPE X218 hx hZ (ow 36 rfl) e218 (g := (mkF m 64 #[sR b_, sI 2, sI l_] [(.int 2), (.ref b_)])) rfl (dc d1_64) rfl (by decide) (cap := 2) (by decide) (by decide) (by decide) (by decide) (ad := "[D") (by decide)
  obtain ⟨a239, g239⟩ : ∃ z, z = h218.size := ⟨_, rfl⟩
  rw [← g239] at A239 J239 st239
  have M239 : h0.size ≤ a239 := Nat.le_trans K238.1 (Nat.le_of_eq g239.symm)
  have C240 := C219.ext E239
  have C242 := (((((((((((((p2.ext E2).keep K17 (ninS ne13 nin0)).other W31 (Or.inr (sn1 hw))).ext E46).keep K64 (ninS ne59 nin0)).other W80 (Or.inr (sn9 hw))).other W97 (Or.inr (sn16 hw))).ext E114).other W134 (Or.inr (sn22 hw))).ext E153).other W176 (Or.inr (sn28 hw))).keep K198 (ninS ne170 nin0)).other W218 (Or.inr (sn33 hw))).ext E239
  have ne258 := own_neG C219.lt g239
  have ne261 := own_neG C233.lt g239
  have ne262 := own_neG C235.lt g239
  have K264 := K238.ext E239
  have B239 : Arf Z h239 a239 .double vD 2 (fun _ => (dint 0)) := Arf.new A239 dv_zero
  obtain ⟨T265, h265, X265, e265, W265, st265⟩ := putF X239 hx hZ hown (host := "") (Or.inl (ow 46 rfl)) Via.refl e239 C242 C240 (Or.inl (ow 47 rfl)) (ow 1 rfl) (ty := (.array .double)) (by decide) rfl rfl (g := (mkF m 66 #[sR b_, sI 2, sI l_] [(.ref a239), (.ref b_)])) rfl rfl (dc d1_66)
  have C266 := C240.wr W265
  have C280 := (C233.ext E239).wr W265
  have C282 := (C235.ext E239).wr W265
  have C284 := J239.wr W265
  have K287 := K264.wr W265 (Or.inl (List.mem_of_getElem? (i := 0) rfl))
  obtain ⟨T288, h288, cA288, X288, e288, E288, A288, J288, st288⟩ := newPE X265 hx hZ (ow 48 rfl) e265 (g := (mkF m 71 #[sR b_, sI 2, sI l_] [(.int 2), (.ref b_)])) rfl (dc d1_71) rfl (by decide) (cap := 2) (by decide) (by decide) (by decide) (by decide) (ad := "[J") (by decide)
  obtain ⟨a288, g288⟩ : ∃ z, z = h265.size := ⟨_, rfl⟩
  rw [← g288] at A288 J288 st288
  have M288 : h0.size ≤ a288 := Nat.le_trans K287.1 (Nat.le_of_eq g288.symm)
  have C289 := C266.ext E288
  have C292 := (((((((((((((((p3.ext E2).keep K17 (ninS ne13 nin0)).other W31 (Or.inr (sn2 hw))).ext E46).keep K64 (ninS ne59 nin0)).other W80 (Or.inr (sn10 hw))).other W97 (Or.inr (sn17 hw))).ext E114).other W134 (Or.inr (sn23 hw))).ext E153).other W176 (Or.inr (sn29 hw))).keep K198 (ninS ne170 nin0)).other W218 (Or.inr (sn34 hw))).ext E239).other W265 (Or.inr (sn40 hw))).ext E288
  have ne309 := own_neG C266.lt g288
  have ne312 := own_neG C280.lt g288
  have ne313 := own_neG C282.lt g288
  have ne314 := own_neG C284.lt g288
  have K316 := K287.ext E288
  have B288 : Arf Z h288 a288 .long Value.long 2 (fun _ => (0 : Int64)) := Arf.new A288 rfl
  obtain ⟨T317, h317, X317, e317, W317, st317⟩ := putF X288 hx hZ hown (host := "") (Or.inl (ow 49 rfl)) Via.refl e288 C292 C289 (Or.inl (ow 50 rfl)) (ow 1 rfl) (ty := (.array .long)) (by decide) rfl rfl (g := (mkF m 73 #[sR b_, sI 2, sI l_] [(.ref a288), (.ref b_)])) rfl rfl (dc d1_73)
  have N317 := Fr.snoc X317 (Fr.snoc X265 (Fr.snoc X218 (Fr.app (Fr.snoc X176 (Fr.snoc X134 (Fr.snoc X97 (Fr.snoc X80 (Fr.app (Fr.snoc X31 (Fr.app (Fr.nil n0) N17q) g0) N64q) g0) g0) g0) g0) N198q) g0) g0) g0
  have C318 := C289.wr W317
  have C319 := ((((C200.same W218).ext E239).other W265 (Or.inr (sn39 hw))).ext E288).other W317 (Or.inr (sn45 hw))
  have C320 := ((C242.same W265).ext E288).other W317 (Or.inr (sn46 hw))
  have C321 := C292.same W317
  have C322 := ((((((((((((((((p4.ext E2).keep K17 (ninS ne13 nin0)).other W31 (Or.inr (sn3 hw))).ext E46).keep K64 (ninS ne59 nin0)).other W80 (Or.inr (sn11 hw))).other W97 (Or.inr (sn18 hw))).ext E114).other W134 (Or.inr (sn24 hw))).ext E153).other W176 (Or.inr (sn30 hw))).keep K198 (ninS ne170 nin0)).other W218 (Or.inr (sn35 hw))).ext E239).other W265 (Or.inr (sn41 hw))).ext E288).other W317 (Or.inr (sn47 hw))
  have C325 := ((((((((((C88.same W97).ext E114).other W134 (Or.inr (sn25 hw))).ext E153).other W176 (Or.inr (sn31 hw))).keep K198 (ninS ne170 nin0)).other W218 (Or.inr (sn36 hw))).ext E239).other W265 (Or.inr (sn42 hw))).ext E288).other W317 (Or.inr (sn48 hw))
  have C326 := ((((((((C123.same W134).ext E153).other W176 (Or.inr (sn32 hw))).keep K198 (ninS ne170 nin0)).other W218 (Or.inr (sn37 hw))).ext E239).other W265 (Or.inr (sn43 hw))).ext E288).other W317 (Or.inr (sn49 hw))
  have C327 := (((((C186.keep K198 (ninS ne170 nin0)).other W218 (Or.inr (sn38 hw))).ext E239).other W265 (Or.inr (sn44 hw))).ext E288).other W317 (Or.inr (sn50 hw))
  have C332 := (C280.ext E288).wr W317
  have C333 := ((((((((B114.other W134 ne129.symm).ext E153).other W176 ne129.symm).keep K198 (ninS ne173 nin0)).other W218 ne129.symm).ext E239).other W265 ne129.symm).ext E288).other W317 ne129.symm
  have C334 := (C282.ext E288).wr W317
  have C335 := ((((B198.other W218 ne170.symm).ext E239).other W265 ne170.symm).ext E288).other W317 ne170.symm
  have C336 := (C284.ext E288).wr W317
  have C337 := ((B239.other W265 ne258.symm).ext E288).other W317 ne258.symm
  have C338 := J288.wr W317
  have C339 := B288.other W317 ne309.symm
  have K341 := K316.wr W317 (Or.inl (List.mem_of_getElem? (i := 0) rfl))
  refine Goes.on (T' := T317) (g' := (mkF m 76 #[sR b_, sI 2, sI l_] [])) (fun _ k => XS.aloadN X198.here hx rfl (dc d1_57) rfl rfl (XS.iconst X198.here hx rfl (dc d1_58) (st218 _ (XS.aloadN X218.here hx rfl (dc d1_62) rfl rfl (XS.iloadN X218.here hx rfl (dc d1_63) rfl (st239 _ (st265 _ (XS.aloadN X265.here hx rfl (dc d1_69) rfl rfl (XS.iloadN X265.here hx rfl (dc d1_70) rfl (st288 _ (st317 _ k))))))))))) ?_
  exact Goes.retV X317 hx hlk hret (dc d1_76) (by decide) (by decide) (by rw [e317]; exact ⟨a114, a153, a239, a288, rfl, N317, K341, C318, C319, C320, C321, C322, C325, C326, C327, C332, C333, C334, C335, C336, C337, C338, C339, M114, M153, M239, M288, ne173, ne261, ne312, ne262, ne313, ne314⟩)
theorem rmF3 (l : Launch) (Z : State) (a0 : Array Value) (hw : TW Z a0) (a : Addr) (x : DK) (f : Nat → DK) (h0 : Heap) (n0 : Nat) (Z0 : n0 ≤ h0.size) (B0 : Arf Z h0 a .double vD 3 f) (ga : n0 ≤ a) :
    Pays l Z (⟨"java/util/Arrays", "fill", "([DD)V"⟩ : MethodName) jdk_65_method_113_code 5 none [] ({ frames := 0, cells := 0, slots := 0, locals := 0 } : Room) #[(.ref a), (.double (dv x))] h0 (fun v h L => v = none ∧ Fr n0 L ∧ Keep h0 h [a] ∧ Arf Z h a .double vD 3 (fun _ => x)) := by
  refine Pays.walk (plainFor_of_name pn_2) (fun m => ef_2 m a (dv x) ) ?_
  intro p e s m below meth c T0 X0 hx hby hml hown hnm hZ e0 hret hlk
  have dc := @Jvm.hb _ _ hby
  have K0 := Keep.refl h0 [a]
  obtain ⟨T2, h2, X2, e2, W2, B2, st2⟩ := wrK X0 hx hZ e0 B0 (by decide)  (g := (mkF m 15 #[sR a, sD (dv x), s2, sI 0, sI 3] [(.double (dv x)), (.int 0), (.ref a)])) rfl rfl (dc d5_15)
  have K4 := K0.wr W2 (Or.inl (List.mem_of_getElem? (i := 0) rfl))
  have B2 : Arf Z h2 a .double vD 3 (Upd f 0 x) := B2
  obtain ⟨T5, h5, X5, e5, W5, B5, st5⟩ := wrK X2 hx hZ e2 B2 (by decide)  (g := (mkF m 15 #[sR a, sD (dv x), s2, sI 1, sI 3] [(.double (dv x)), (.int 1), (.ref a)])) rfl rfl (dc d5_15)
  have K7 := K4.wr W5 (Or.inl (List.mem_of_getElem? (i := 0) rfl))
  have B5 : Arf Z h5 a .double vD 3 (Upd (Upd f 0 x) 1 x) := B5
  refine Goes.on (T' := T5) (g' := (mkF m 7 #[sR a, sD (dv x), s2, sI 2, sI 3] [(.int 2)])) (fun _ k => XS.iconst X0.here hx rfl (dc d5_0) (XS.istoreN X0.here hx rfl (dc d5_1) rfl (l' := #[sR a, sD (dv x), s2, sI 0, su]) rfl (XS.aloadN X0.here hx rfl (dc d5_2) rfl rfl (aLenm X0 hx hZ e0 B0 (dc d5_3) (XS.istore X0.here hx rfl (dc d5_4) rfl (l' := #[sR a, sD (dv x), s2, sI 0, sI 3]) rfl (XS.iloadN X0.here hx rfl (dc d5_6) rfl (XS.iload X0.here hx rfl (dc d5_7) rfl (XS.icmpNo X0.here hx rfl (dc d5_9) rfl (XT.ii_ge_f (by decide)) (XS.aloadN X0.here hx rfl (dc d5_12) rfl rfl (XS.iloadN X0.here hx rfl (dc d5_13) rfl (XS.dloadN X0.here hx rfl (dc d5_14) rfl (st2 _ (XT.iincV X2.here hx rfl (1 : Int32) (dc d5_16) (by decide) rfl (l' := #[sR a, sD (dv x), s2, sI 1, sI 3]) rfl (XS.goto X2.here hx rfl (pc0 := 19) (pc' := 6) rfl (dc d5_19) (by decide) (by decide) (XS.iloadN X2.here hx rfl (dc d5_6) rfl (XS.iload X2.here hx rfl (dc d5_7) rfl (XS.icmpNo X2.here hx rfl (dc d5_9) rfl (XT.ii_ge_f (by decide)) (XS.aloadN X2.here hx rfl (dc d5_12) rfl rfl (XS.iloadN X2.here hx rfl (dc d5_13) rfl (XS.dloadN X2.here hx rfl (dc d5_14) rfl (st5 _ (XT.iincV X5.here hx rfl (1 : Int32) (dc d5_16) (by decide) rfl (l' := #[sR a, sD (dv x), s2, sI 2, sI 3]) rfl (XS.goto X5.here hx rfl (pc0 := 19) (pc' := 6) rfl (dc d5_19) (by decide) (by decide) (XS.iloadN X5.here hx rfl (dc d5_6) rfl k)))))))))))))))))))))))) ?_
  obtain ⟨T8, h8, X8, e8, W8, B8, st8⟩ := wrK X5 hx hZ e5 B5 (by decide)  (g := (mkF m 15 #[sR a, sD (dv x), s2, sI 2, sI 3] [(.double (dv x)), (.int 2), (.ref a)])) rfl rfl (dc d5_15)
  have N8 := Fr.snoc X8 (Fr.snoc X5 (Fr.snoc X2 (Fr.nil n0) ga) ga) ga
  have K10 := K7.wr W8 (Or.inl (List.mem_of_getElem? (i := 0) rfl))
  have B8 : Arf Z h8 a .double vD 3 (Upd (Upd (Upd f 0 x) 1 x) 2 x) := B8
  refine Goes.on (T' := T8) (g' := (mkF m 22 #[sR a, sD (dv x), s2, sI 3, sI 3] [])) (fun _ k => XS.iload X5.here hx rfl (dc d5_7) rfl (XS.icmpNo X5.here hx rfl (dc d5_9) rfl (XT.ii_ge_f (by decide)) (XS.aloadN X5.here hx rfl (dc d5_12) rfl rfl (XS.iloadN X5.here hx rfl (dc d5_13) rfl (XS.dloadN X5.here hx rfl (dc d5_14) rfl (st8 _ (XT.iincV X8.here hx rfl (1 : Int32) (dc d5_16) (by decide) rfl (l' := #[sR a, sD (dv x), s2, sI 3, sI 3]) rfl (XS.goto X8.here hx rfl (pc0 := 19) (pc' := 6) rfl (dc d5_19) (by decide) (by decide) (XS.iloadN X8.here hx rfl (dc d5_6) rfl (XS.iload X8.here hx rfl (dc d5_7) rfl (XS.icmpYes X8.here hx rfl (pc0 := 9) (pc' := 22) rfl (dc d5_9) rfl (XT.ii_ge_t (by decide)) (by decide) (by decide) k))))))))))) ?_
  exact Goes.retV X8 hx hlk hret (dc d5_22) (by decide) (by decide) (by rw [e8]; exact ⟨rfl, N8, K10, B8.congr (fun i hi => match i, hi with | 0, _ => rfl | 1, _ => rfl | 2, _ => rfl)⟩)
theorem rmC3 (l : Launch) (Z : State) (a0 : Array Value) (hw : TW Z a0) (b_ : Addr) (l_ : Int32) (h0 : Heap) (n0 : Nat) (Z0 : n0 ≤ h0.size) (p0 : Exa Z h0 b_ "com/example/boceto/boceto/signature/ComponentBuffers") (p1 : Fld Z h0 b_ "com/example/boceto/boceto/signature/ComponentBuffers" "_capacity" "I" (.int (0 : Int32))) (p2 : Fld Z h0 b_ "com/example/boceto/boceto/signature/ComponentBuffers" "_points" "[D" .null) (p3 : Fld Z h0 b_ "com/example/boceto/boceto/signature/ComponentBuffers" "_identities" "[J" .null) (p4 : Fld Z h0 b_ "com/example/boceto/boceto/signature/ComponentBuffers" "_pointCount" "I" (.int (0 : Int32))) (p5 : Fld Z h0 b_ "com/example/boceto/boceto/signature/ComponentBuffers" "_insertion" "Lcom/example/boceto/boceto/signature/PointSink;" .null) (p6 : Fld Z h0 b_ "com/example/boceto/boceto/signature/ComponentBuffers" "_removal" "Lcom/example/boceto/boceto/signature/PointSink;" .null) (p7 : Fld Z h0 b_ "com/example/boceto/boceto/signature/ComponentBuffers" "_bufferSize" "I" (.int (0 : Int32))) (p8 : Fld Z h0 b_ "com/example/boceto/boceto/signature/ComponentBuffers" "_sizes" "[I" .null) (p9 : Fld Z h0 b_ "com/example/boceto/boceto/signature/ComponentBuffers" "_thresholds" "[D" .null) (g0 : n0 ≤ b_) :
    Pays l Z (⟨"com/example/boceto/boceto/signature/ComponentBuffers", "<init>", "(II)V"⟩ : MethodName) prog_28_method_1_code 3 none [] ({ frames := 2, cells := 6, slots := 14, locals := 40 } : Room) #[(.ref b_), (.int (3 : Int32)), (.int l_)] h0 (fun v h L => ∃ (n0_ : Addr) (n1_ : Addr) (n2_ : Addr) (n3_ : Addr), v = none ∧ Fr n0 L ∧ Keep h0 h [b_] ∧ Exa Z h b_ "com/example/boceto/boceto/signature/ComponentBuffers" ∧ Fld Z h b_ "com/example/boceto/boceto/signature/ComponentBuffers" "_capacity" "I" (.int (1 : Int32)) ∧ Fld Z h b_ "com/example/boceto/boceto/signature/ComponentBuffers" "_points" "[D" (.ref n2_) ∧ Fld Z h b_ "com/example/boceto/boceto/signature/ComponentBuffers" "_identities" "[J" (.ref n3_) ∧ Fld Z h b_ "com/example/boceto/boceto/signature/ComponentBuffers" "_pointCount" "I" (.int (0 : Int32)) ∧ Fld Z h b_ "com/example/boceto/boceto/signature/ComponentBuffers" "_bufferSize" "I" (.int l_) ∧ Fld Z h b_ "com/example/boceto/boceto/signature/ComponentBuffers" "_sizes" "[I" (.ref n0_) ∧ Fld Z h b_ "com/example/boceto/boceto/signature/ComponentBuffers" "_thresholds" "[D" (.ref n1_) ∧ Exa Z h n0_ "[I" ∧ Arf Z h n0_ .int Value.int 3 (fun _ => (0 : Int32)) ∧ Exa Z h n1_ "[D" ∧ Arf Z h n1_ .double vD 3 (fun _ => dinf) ∧ Exa Z h n2_ "[D" ∧ Arf Z h n2_ .double vD 3 (fun _ => (dint 0)) ∧ Exa Z h n3_ "[J" ∧ Arf Z h n3_ .long Value.long 3 (fun _ => (0 : Int64)) ∧ h0.size ≤ n0_ ∧ h0.size ≤ n1_ ∧ h0.size ≤ n2_ ∧ h0.size ≤ n3_ ∧ n0_ ≠ n1_ ∧ n0_ ≠ n2_ ∧ n0_ ≠ n3_ ∧ n1_ ≠ n2_ ∧ n1_ ≠ n3_ ∧ n2_ ≠ n3_) := by
  refine Pays.walk (plainFor_of_name pn_3) (fun m => ef_3 m b_ (3 : Int32) l_ ) ?_
  intro p e s m below meth c T0 X0 hx hby hml hown hnm hZ e0 hret hlk
  have dc := @Jvm.hb _ _ hby
  have ow := @own_w Z a0 hw
  have K0 := Keep.refl h0 ([b_] : List Addr)
  obtain ⟨T1, X1, e1, st1⟩ := initO X0 hx hZ hown (ow 6 rfl) (ow 7 rfl) (ow 8 rfl) e0 (g := (mkF m 1 #[sR b_, sI 3, sI l_] [(.ref b_)])) rfl (by rw [hml]; rfl) rfl (dc d1_1) (by decide) (W := 0) (own_le20 rfl) (by decide)
  obtain ⟨T2, h2, X2, e2, E2, A2, D2, U2, st2⟩ := newO X1 hx hZ hown (ow 9 rfl) (ow 10 rfl) (ow 11 rfl) e1 (g := (mkF m 5 #[sR b_, sI 3, sI l_] [(.ref b_)])) rfl (dc d1_5) (by decide) (by decide)
  obtain ⟨a2, g2⟩ : ∃ z, z = h0.size := ⟨_, rfl⟩
  rw [← g2] at A2 D2 U2 st2
  have M2 : h0.size ≤ a2 := Nat.le_trans K0.1 (Nat.le_of_eq g2.symm)
  have ne13 := own_neG p0.lt g2
  have Z14 := Nat.le_trans Z0 E2.1
  have K15 := K0.ext E2
  have F16 : Fld Z h2 a2 "com/example/boceto/boceto/signature/ComponentBuffers$Insertion" "this$0" "Lcom/example/boceto/boceto/signature/ComponentBuffers;" .null := D2 (Or.inr (ow 16 rfl)) (ty := (.object "com/example/boceto/boceto/signature/ComponentBuffers")) (by decide)
  have G2 : n0 ≤ a2 := Nat.le_trans Z0 (Nat.le_of_eq g2.symm)
  refine Goes.on (T' := T2) (g' := (mkF m 10 #[sR b_, sI 3, sI l_] [(.ref b_), (.ref a2), (.ref a2), (.ref b_)])) (fun _ k => XS.aloadN X0.here hx rfl (dc d1_0) rfl rfl (st1 _ (XS.aloadN X1.here hx rfl (dc d1_4) rfl rfl (st2 _ (XS.dup X2.here hx rfl (dc d1_8) rfl rfl (XS.aloadN X2.here hx rfl (dc d1_9) rfl rfl k)))))) ?_
  refine Goes.callCR X2 hx hZ 2 rfl hown (ow 12 rfl) (ow 13 rfl) (ow 11 rfl) (ow 14 rfl) (by decide) e2 (rmIn l Z a0 hw a2 b_ h2 n0 Z14 A2 G2 F16) (by decide) (by decide) (by decide) (by decide) rfl (by rw [hml]; rfl) (a := a2) (argsL := [(.ref b_)]) (rest := [(.ref a2), (.ref b_)]) rfl (lenOf pd_0 rfl) rfl (own_le20 rfl) (dc d1_10) ?_
  rintro v17 T17 L17 X17 ⟨rfl, N17q, K17, A17, B17_thisS0⟩
  show Goes p e below _ T17 (mkF m 13 #[sR b_, sI 3, sI l_] [(.ref a2), (.ref b_)])
  have C18 := (p0.ext E2).keep K17
  have C23 := (p5.ext E2).keep K17 (ninS ne13 nin0)
  have Z29 := Nat.le_trans Z14 K17.1
  have K30 := K15.trans K17 (allS (Or.inr M2) all0)
  obtain ⟨T31, h31, X31, e31, W31, st31⟩ := putF X17 hx hZ hown (host := "") (Or.inl (ow 18 rfl)) Via.refl rfl C23 C18 (Or.inr ⟨(ow 19 rfl), rfl, hnm⟩) (ow 1 rfl) (ty := (.object "com/example/boceto/boceto/signature/PointSink")) (by decide) rfl rfl (g := (mkF m 13 #[sR b_, sI 3, sI l_] [(.ref a2), (.ref b_)])) rfl rfl (dc d1_13)
  have C32 := C18.wr W31
  have Z44 := own_leW W31 Z29
  have K45 := K30.wr W31 (Or.inl (List.mem_of_getElem? (i := 0) rfl))
  obtain ⟨T46, h46, X46, e46, E46, A46, D46, U46, st46⟩ := newO X31 hx hZ hown (ow 20 rfl) (ow 21 rfl) (ow 22 rfl) e31 (g := (mkF m 17 #[sR b_, sI 3, sI l_] [(.ref b_)])) rfl (dc d1_17) (by decide) (by decide)
  obtain ⟨a46, g46⟩ : ∃ z, z = h31.size := ⟨_, rfl⟩
  rw [← g46] at A46 D46 U46 st46
  have M46 : h0.size ≤ a46 := Nat.le_trans K45.1 (Nat.le_of_eq g46.symm)
  have ne59 := own_neG C32.lt g46
  have Z61 := Nat.le_trans Z44 E46.1
  have K62 := K45.ext E46
  have F63 : Fld Z h46 a46 "com/example/boceto/boceto/signature/ComponentBuffers$Removal" "this$0" "Lcom/example/boceto/boceto/signature/ComponentBuffers;" .null := D46 (Or.inr (ow 27 rfl)) (ty := (.object "com/example/boceto/boceto/signature/ComponentBuffers")) (by decide)
  have G46 : n0 ≤ a46 := Nat.le_trans Z44 (Nat.le_of_eq g46.symm)
  refine Goes.on (T' := T46) (g' := (mkF m 22 #[sR b_, sI 3, sI l_] [(.ref b_), (.ref a46), (.ref a46), (.ref b_)])) (fun _ k => st31 _ (XS.aloadN X31.here hx rfl (dc d1_16) rfl rfl (st46 _ (XS.dup X46.here hx rfl (dc d1_20) rfl rfl (XS.aloadN X46.here hx rfl (dc d1_21) rfl rfl k))))) ?_
  refine Goes.callCR X46 hx hZ 2 rfl hown (ow 23 rfl) (ow 24 rfl) (ow 22 rfl) (ow 25 rfl) (by decide) e46 (rmRe l Z a0 hw a46 b_ h46 n0 Z61 A46 G46 F63) (by decide) (by decide) (by decide) (by decide) rfl (by rw [hml]; rfl) (a := a46) (argsL := [(.ref b_)]) (rest := [(.ref a46), (.ref b_)]) rfl (lenOf pd_0 rfl) rfl (own_le20 rfl) (dc d1_22) ?_
  rintro v64 T64 L64 X64 ⟨rfl, N64q, K64, A64, B64_thisS0⟩
  show Goes p e below _ T64 (mkF m 25 #[sR b_, sI 3, sI l_] [(.ref a46), (.ref b_)])
  have C65 := (C32.ext E46).keep K64
  have C71 := ((((p6.ext E2).keep K17 (ninS ne13 nin0)).other W31 (Or.inr (sn4 hw))).ext E46).keep K64 (ninS ne59 nin0)
  have Z78 := Nat.le_trans Z61 K64.1
  have K79 := K62.trans K64 (allS (Or.inr M46) all0)
  obtain ⟨T80, h80, X80, e80, W80, st80⟩ := putF X64 hx hZ hown (host := "") (Or.inl (ow 29 rfl)) Via.refl rfl C71 C65 (Or.inr ⟨(ow 30 rfl), rfl, hnm⟩) (ow 1 rfl) (ty := (.object "com/example/boceto/boceto/signature/PointSink")) (by decide) rfl rfl (g := (mkF m 25 #[sR b_, sI 3, sI l_] [(.ref a46), (.ref b_)])) rfl rfl (dc d1_25)
  have C81 := C65.wr W80
  have C88 := (((((p7.ext E2).keep K17 (ninS ne13 nin0)).other W31 (Or.inr (sn5 hw))).ext E46).keep K64 (ninS ne59 nin0)).other W80 (Or.inr (sn12 hw))
  have Z95 := own_leW W80 Z78
  have K96 := K79.wr W80 (Or.inl (List.mem_of_getElem? (i := 0) rfl))
  obtain ⟨T97, h97, X97, e97, W97, st97⟩ := putF X80 hx hZ hown (host := "") (Or.inl (ow 31 rfl)) Via.refl e80 C88 C81 (Or.inr ⟨(ow 32 rfl), rfl, hnm⟩) (ow 1 rfl) (ty := .int) (by decide) rfl rfl (g := (mkF m 30 #[sR b_, sI 3, sI l_] [(.int l_), (.ref b_)])) rfl rfl (dc d1_30)
  have C98 := C81.wr W97
  have Z112 := own_leW W97 Z95
  have K113 := K96.wr W97 (Or.inl (List.mem_of_getElem? (i := 0) rfl))
  obtain ⟨T114, h114, cA114, X114, e114, E114, A114, J114, st114⟩ := newPE X97 hx hZ (ow 33 rfl) e97 (g := (mkF m 35 #[sR b_, sI 3, sI l_] [(.int 3), (.ref b_)])) rfl (dc d1_35) rfl (by decide) (cap := 3) (by decide) (by decide) (by decide) (by decide) (ad := "[I") (by decide)
  obtain ⟨a114, g114⟩ : ∃ z, z = h97.size := ⟨_, rfl⟩
  rw [← g114] at A114 J114 st114
  have M114 : h0.size ≤ a114 := Nat.le_trans K113.1 (Nat.le_of_eq g114.symm)
  have C115 := C98.ext E114
  have C123 := (((((((p8.ext E2).keep K17 (ninS ne13 nin0)).other W31 (Or.inr (sn6 hw))).ext E46).keep K64 (ninS ne59 nin0)).other W80 (Or.inr (sn13 hw))).other W97 (Or.inr (sn19 hw))).ext E114
  have ne129 := own_neG C98.lt g114
  have Z132 := Nat.le_trans Z112 E114.1
  have K133 := K113.ext E114
  have B114 : Arf Z h114 a114 .int Value.int 3 (fun _ => (0 : Int32)) := Arf.new A114 rfl
  obtain ⟨T134, h134, X134, e134, W134, st134⟩ := putF X114 hx hZ hown (host := "") (Or.inl (ow 34 rfl)) Via.refl e114 C123 C115 (Or.inr ⟨(ow 35 rfl), rfl, hnm⟩) (ow 1 rfl) (ty := (.array .int)) (by decide) rfl rfl (g := (mkF m 37 #[sR b_, sI 3, sI l_] [(.ref a114), (.ref b_)])) rfl rfl (dc d1_37)
  have C135 := C115.wr W134
  have C149 := J114.wr W134
  have Z151 := own_leW W134 Z132
  have K152 := K133.wr W134 (Or.inl (List.mem_of_getElem? (i := 0) rfl))
  obtain ⟨T153, h153, cA153, X153, e153, E153, A153, J153, st153⟩ := newPE X134 hx hZ (ow 36 rfl) e134 (g := (mkF m 42 #[sR b_, sI 3, sI l_] [(.int 3), (.ref b_)])) rfl (dc d1_42) rfl (by decide) (cap := 3) (by decide) (by decide) (by decide) (by decide) (ad := "[D") (by decide)
  obtain ⟨a153, g153⟩ : ∃ z, z = h134.size := ⟨_, rfl⟩
  rw [← g153] at A153 J153 st153
  have M153 : h0.size ≤ a153 := Nat.le_trans K152.1 (Nat.le_of_eq g153.symm)
  have C154 := C135.ext E153
  have C163 := (((((((((p9.ext E2).keep K17 (ninS ne13 nin0)).other W31 (Or.inr (sn7 hw))).ext E46).keep K64 (ninS ne59 nin0)).other W80 (Or.inr (sn14 hw))).other W97 (Or.inr (sn20 hw))).ext E114).other W134 (Or.inr (sn26 hw))).ext E153
  have ne170 := own_neG C135.lt g153
  have ne173 := own_neG C149.lt g153
  have Z174 := Nat.le_trans Z151 E153.1
  have K175 := K152.ext E153
  have B153 : Arf Z h153 a153 .double vD 3 (fun _ => (dint 0)) := Arf.new A153 dv_zero
  have G153 : n0 ≤ a153 := Nat.le_trans Z151 (Nat.le_of_eq g153.symm)
  obtain ⟨T176, h176, X176, e176, W176, st176⟩ := putF X153 hx hZ hown (host := "") (Or.inl (ow 37 rfl)) Via.refl e153 C163 C154 (Or.inr ⟨(ow 38 rfl), rfl, hnm⟩) (ow 1 rfl) (ty := (.array .double)) (by decide) rfl rfl (g := (mkF m 44 #[sR b_, sI 3, sI l_] [(.ref a153), (.ref b_)])) rfl rfl (dc d1_44)
  have C186 := C163.same W176
  have C194 := B153.other W176 ne170.symm
  have Z195 := own_leW W176 Z174
  have K196 := K175.wr W176 (Or.inl (List.mem_of_getElem? (i := 0) rfl))
  obtain ⟨T197, X197, e197, st197⟩ := getF X176 hx hZ hown (host := "") (Or.inl (ow 37 rfl)) Via.refl e176 C186 (g := (mkF m 48 #[sR b_, sI 3, sI l_] [(.ref b_)])) rfl rfl (dc d1_48)
  refine Goes.on (T' := T197) (g' := (mkF m 54 #[sR b_, sI 3, sI l_] [(.double (dv dinf)), (.ref a153)])) (fun _ k => st80 _ (XS.aloadN X80.here hx rfl (dc d1_28) rfl rfl (XS.iloadN X80.here hx rfl (dc d1_29) rfl (st97 _ (XS.aloadN X97.here hx rfl (dc d1_33) rfl rfl (XS.iloadN X97.here hx rfl (dc d1_34) rfl (st114 _ (st134 _ (XS.aloadN X134.here hx rfl (dc d1_40) rfl rfl (XS.iloadN X134.here hx rfl (dc d1_41) rfl (st153 _ (st176 _ (XS.aloadN X176.here hx rfl (dc d1_47) rfl rfl (st197 _ (X197.ldc2DoubleC hx hown (mvT hZ (ow 39 rfl)) (g := (mkF m 51 #[sR b_, sI 3, sI l_] [(.ref a153)])) rfl (dc d1_51) _ k))))))))))))))) ?_
  refine Goes.callS X197 hx hZ 0 hown (ow 40 rfl) (ow 41 rfl) (ow 42 rfl) (ow 43 rfl) (by decide) e197 (rmF3 l Z a0 hw a153 dinf (fun _ => (dint 0)) h176 n0 Z195 C194 G153) (by decide) (by decide) (by decide) (by decide) rfl (by rw [hml]; rfl) (argsL := [(.ref a153), (.double (dv dinf))]) (rest := []) rfl (lenOf pd_1 rfl) rfl (own_le20 rfl) (dc d1_54) ?_
  rintro v198 T198 L198 X198 ⟨rfl, N198q, K198, B198⟩
  show Goes p e below _ T198 (mkF m 57 #[sR b_, sI 3, sI l_] [])
  have C199 := (C154.wr W176).keep K198
  have C200 := (((((((((((p1.ext E2).keep K17 (ninS ne13 nin0)).other W31 (Or.inr (sn0 hw))).ext E46).keep K64 (ninS ne59 nin0)).other W80 (Or.inr (sn8 hw))).other W97 (Or.inr (sn15 hw))).ext E114).other W134 (Or.inr (sn21 hw))).ext E153).other W176 (Or.inr (sn27 hw))).keep K198 (ninS ne170 nin0)
  have K217 := K196.trans K198 (allS (Or.inr M153) all0)
  obtain ⟨T218, h218, X218, e218, W218, st218⟩ := putF X198 hx hZ hown (host := "") (Or.inl (ow 44 rfl)) Via.refl rfl C200 C199 (Or.inl (ow 45 rfl)) (ow 1 rfl) (ty := .int) (by decide) rfl rfl (g := (mkF m 59 #[sR b_, sI 3, sI l_] [(.int 1), (.ref b_)])) rfl rfl (dc d1_59)
  have C219 := C199.wr W218
  have C233 := (((C149.ext E153).wr W176).keep K198).wr W218
  have C235 := ((J153.wr W176).keep K198).wr W218
  have K238 := K217.wr W218 (Or.inl (List.mem_of_getElem? (i := 0) rfl))
  obtain ⟨T239, h239, cA239, X239, e239, E239, A239, J239, st239⟩ := newPE X218 hx hZ (ow 36 rfl) e218 (g := (mkF m 64 #[sR b_, sI 3, sI l_] [(.int 3), (.ref b_)])) rfl (dc d1_64) rfl (by decide) (cap := 3) (by decide) (by decide) (by decide) (by decide) (ad := "[D") (by decide)
  obtain ⟨a239, g239⟩ : ∃ z, z = h218.size := ⟨_, rfl⟩
  rw [← g239] at A239 J239 st239
  have M239 : h0.size ≤ a239 := Nat.le_trans K238.1 (Nat.le_of_eq g239.symm)
  have C240 := C219.ext E239
  have C242 := (((((((((((((p2.ext E2).keep K17 (ninS ne13 nin0)).other W31 (Or.inr (sn1 hw))).ext E46).keep K64 (ninS ne59 nin0)).other W80 (Or.inr (sn9 hw))).other W97 (Or.inr (sn16 hw))).ext E114).other W134 (Or.inr (sn22 hw))).ext E153).other W176 (Or.inr (sn28 hw))).keep K198 (ninS ne170 nin0)).other W218 (Or.inr (sn33 hw))).ext E239
  have ne258 := own_neG C219.lt g239
  have ne261 := own_neG C233.lt g239
  have ne262 := own_neG C235.lt g239
  have K264 := K238.ext E239
  have B239 : Arf Z h239 a239 .double vD 3 (fun _ => (dint 0)) := Arf.new A239 dv_zero
  obtain ⟨T265, h265, X265, e265, W265, st265⟩ := putF X239 hx hZ hown (host := "") (Or.inl (ow 46 rfl)) Via.refl e239 C242 C240 (Or.inl (ow 47 rfl)) (ow 1 rfl) (ty := (.array .double)) (by decide) rfl rfl (g := (mkF m 66 #[sR b_, sI 3, sI l_] [(.ref a239), (.ref b_)])) rfl rfl (dc d1_66)
  have C266 := C240.wr W265
  have C280 := (C233.ext E239).wr W265
  have C282 := (C235.ext E239).wr W265
  have C284 := J239.wr W265
  have K287 := K264.wr W265 (Or.inl (List.mem_of_getElem? (i := 0) rfl))
  obtain ⟨T288, h288, cA288, X288, e288, E288, A288, J288, st288⟩ := newPE X265 hx hZ (ow 48 rfl) e265 (g := (mkF m 71 #[sR b_, sI 3, sI l_] [(.int 3), (.ref b_)])) rfl (dc d1_71) rfl (by decide) (cap := 3) (by decide) (by decide) (by decide) (by decide) (ad := "[J") (by decide)
  obtain ⟨a288, g288⟩ : ∃ z, z = h265.size := ⟨_, rfl⟩
  rw [← g288] at A288 J288 st288
  have M288 : h0.size ≤ a288 := Nat.le_trans K287.1 (Nat.le_of_eq g288.symm)
  have C289 := C266.ext E288
  have C292 := (((((((((((((((p3.ext E2).keep K17 (ninS ne13 nin0)).other W31 (Or.inr (sn2 hw))).ext E46).keep K64 (ninS ne59 nin0)).other W80 (Or.inr (sn10 hw))).other W97 (Or.inr (sn17 hw))).ext E114).other W134 (Or.inr (sn23 hw))).ext E153).other W176 (Or.inr (sn29 hw))).keep K198 (ninS ne170 nin0)).other W218 (Or.inr (sn34 hw))).ext E239).other W265 (Or.inr (sn40 hw))).ext E288
  have ne309 := own_neG C266.lt g288
  have ne312 := own_neG C280.lt g288
  have ne313 := own_neG C282.lt g288
  have ne314 := own_neG C284.lt g288
  have K316 := K287.ext E288
  have B288 : Arf Z h288 a288 .long Value.long 3 (fun _ => (0 : Int64)) := Arf.new A288 rfl
  obtain ⟨T317, h317, X317, e317, W317, st317⟩ := putF X288 hx hZ hown (host := "") (Or.inl (ow 49 rfl)) Via.refl e288 C292 C289 (Or.inl (ow 50 rfl)) (ow 1 rfl) (ty := (.array .long)) (by decide) rfl rfl (g := (mkF m 73 #[sR b_, sI 3, sI l_] [(.ref a288), (.ref b_)])) rfl rfl (dc d1_73)
  have N317 := Fr.snoc X317 (Fr.snoc X265 (Fr.snoc X218 (Fr.app (Fr.snoc X176 (Fr.snoc X134 (Fr.snoc X97 (Fr.snoc X80 (Fr.app (Fr.snoc X31 (Fr.app (Fr.nil n0) N17q) g0) N64q) g0) g0) g0) g0) N198q) g0) g0) g0
  have C318 := C289.wr W317
  have C319 := ((((C200.same W218).ext E239).other W265 (Or.inr (sn39 hw))).ext E288).other W317 (Or.inr (sn45 hw))
  have C320 := ((C242.same W265).ext E288).other W317 (Or.inr (sn46 hw))
  have C321 := C292.same W317
  have C322 := ((((((((((((((((p4.ext E2).keep K17 (ninS ne13 nin0)).other W31 (Or.inr (sn3 hw))).ext E46).keep K64 (ninS ne59 nin0)).other W80 (Or.inr (sn11 hw))).other W97 (Or.inr (sn18 hw))).ext E114).other W134 (Or.inr (sn24 hw))).ext E153).other W176 (Or.inr (sn30 hw))).keep K198 (ninS ne170 nin0)).other W218 (Or.inr (sn35 hw))).ext E239).other W265 (Or.inr (sn41 hw))).ext E288).other W317 (Or.inr (sn47 hw))
  have C325 := ((((((((((C88.same W97).ext E114).other W134 (Or.inr (sn25 hw))).ext E153).other W176 (Or.inr (sn31 hw))).keep K198 (ninS ne170 nin0)).other W218 (Or.inr (sn36 hw))).ext E239).other W265 (Or.inr (sn42 hw))).ext E288).other W317 (Or.inr (sn48 hw))
  have C326 := ((((((((C123.same W134).ext E153).other W176 (Or.inr (sn32 hw))).keep K198 (ninS ne170 nin0)).other W218 (Or.inr (sn37 hw))).ext E239).other W265 (Or.inr (sn43 hw))).ext E288).other W317 (Or.inr (sn49 hw))
  have C327 := (((((C186.keep K198 (ninS ne170 nin0)).other W218 (Or.inr (sn38 hw))).ext E239).other W265 (Or.inr (sn44 hw))).ext E288).other W317 (Or.inr (sn50 hw))
  have C332 := (C280.ext E288).wr W317
  have C333 := ((((((((B114.other W134 ne129.symm).ext E153).other W176 ne129.symm).keep K198 (ninS ne173 nin0)).other W218 ne129.symm).ext E239).other W265 ne129.symm).ext E288).other W317 ne129.symm
  have C334 := (C282.ext E288).wr W317
  have C335 := ((((B198.other W218 ne170.symm).ext E239).other W265 ne170.symm).ext E288).other W317 ne170.symm
  have C336 := (C284.ext E288).wr W317
  have C337 := ((B239.other W265 ne258.symm).ext E288).other W317 ne258.symm
  have C338 := J288.wr W317
  have C339 := B288.other W317 ne309.symm
  have K341 := K316.wr W317 (Or.inl (List.mem_of_getElem? (i := 0) rfl))
  refine Goes.on (T' := T317) (g' := (mkF m 76 #[sR b_, sI 3, sI l_] [])) (fun _ k => XS.aloadN X198.here hx rfl (dc d1_57) rfl rfl (XS.iconst X198.here hx rfl (dc d1_58) (st218 _ (XS.aloadN X218.here hx rfl (dc d1_62) rfl rfl (XS.iloadN X218.here hx rfl (dc d1_63) rfl (st239 _ (st265 _ (XS.aloadN X265.here hx rfl (dc d1_69) rfl rfl (XS.iloadN X265.here hx rfl (dc d1_70) rfl (st288 _ (st317 _ k))))))))))) ?_
  exact Goes.retV X317 hx hlk hret (dc d1_76) (by decide) (by decide) (by rw [e317]; exact ⟨a114, a153, a239, a288, rfl, N317, K341, C318, C319, C320, C321, C322, C325, C326, C327, C332, C333, C334, C335, C336, C337, C338, C339, M114, M153, M239, M288, ne173, ne261, ne312, ne262, ne313, ne314⟩)
abbrev c9C := prog_28_method_12_code
theorem d9_0 : decode c9C 0 = .ok (.iload_n 1, 1) := by decide +kernel
theorem d9_1 : decode c9C 1 = .ok (.istore 5, 2) := by decide +kernel
theorem d9_3 : decode c9C 3 = .ok (.iload_n 2, 1) := by decide +kernel
theorem d9_4 : decode c9C 4 = .ok (.istore 6, 2) := by decide +kernel
theorem d9_6 : decode c9C 6 = .ok (.iload 5, 2) := by decide +kernel
theorem d9_8 : decode c9C 8 = .ok (.iload 6, 2) := by decide +kernel
theorem d9_10 : decode c9C 10 = .ok (.if_icmp .ge 40, 3) := by decide +kernel
theorem d9_50 : decode c9C 50 = .ok (.iload 5, 2) := by decide +kernel
theorem d9_52 : decode c9C 52 = .ok (.ireturn, 1) := by decide +kernel
theorem ef_4 (m : MethodId) (x0 : Addr) (x1 : Int32) (x2 : Int32) (x3 : UInt64) : entryFrame m #[(.ref x0), (.int x1), (.int x2), (.double x3)] 8 = mkF m 0 #[.val (.ref x0), .val (.int x1), .val (.int x2), .val (.double x3), .second, .unset, .unset, .unset] [] := by first | (simp [entryFrame, mkF, argsToLocals, Value.category]; done) | rfl
theorem rmLB0 (l : Launch) (Z : State) (a0 : Array Value) (hw : TW Z a0) (b_ : Addr) (u_ : Int32) (p_ : DK) (h0 : Heap) (n0 : Nat) (Z0 : n0 ≤ h0.size) (hS : 0 ≤ u_.toInt ∧ u_.toInt ≤ 8) :
    Pays l Z (⟨"com/example/boceto/boceto/signature/ComponentBuffers", "lowerBound", "(IID)I"⟩ : MethodName) prog_28_method_12_code 8 (some .int) [] ({ frames := 0, cells := 0, slots := 0, locals := 0 } : Room) #[(.ref b_), (.int u_), (.int u_), (.double (dv p_))] h0 (fun v h L => v = some (.int u_) ∧ Fr n0 L ∧ h = h0) := by
  refine Pays.walk (plainFor_of_name pn_3) (fun m => ef_4 m b_ u_ u_ (dv p_) ) ?_
  intro p e s m below meth c T0 X0 hx hby hml hown hnm hZ e0 hret hlk
  have dc := @Jvm.hb _ _ hby
  have N0 := Fr.nil n0
  refine Goes.on (T' := T0) (g' := (mkF m 52 #[sR b_, sI u_, sI u_, sD (dv p_), s2, sI u_, sI u_, su] [(.int u_)])) (fun _ k => XS.iloadN X0.here hx rfl (dc d9_0) rfl (XS.istore X0.here hx rfl (dc d9_1) rfl (l' := #[sR b_, sI u_, sI u_, sD (dv p_), s2, sI u_, su, su]) rfl (XS.iloadN X0.here hx rfl (dc d9_3) rfl (XS.istore X0.here hx rfl (dc d9_4) rfl (l' := #[sR b_, sI u_, sI u_, sD (dv p_), s2, sI u_, sI u_, su]) rfl (XS.iload X0.here hx rfl (dc d9_6) rfl (XS.iload X0.here hx rfl (dc d9_8) rfl (XS.icmpYes X0.here hx rfl (pc0 := 10) (pc' := 50) rfl (dc d9_10) rfl (XT.ii_ge_t (own_irr _)) (by decide) (by decide) (XS.iload X0.here hx rfl (dc d9_50) rfl k)))))))) ?_
  exact Goes.retI X0 hx hlk hret (dc d9_52) (by decide) (by decide) ⟨rfl, N0, e0⟩
theorem d9_13 : decode c9C 13 = .ok (.iload 5, 2) := by decide +kernel
theorem d9_15 : decode c9C 15 = .ok (.iload 6, 2) := by decide +kernel
theorem d9_17 : decode c9C 17 = .ok (.iadd, 1) := by decide +kernel
theorem d9_18 : decode c9C 18 = .ok (.iconst 1, 1) := by decide +kernel
theorem d9_19 : decode c9C 19 = .ok (.iushr, 1) := by decide +kernel
theorem d9_20 : decode c9C 20 = .ok (.istore 7, 2) := by decide +kernel
theorem d9_22 : decode c9C 22 = .ok (.aload_n 0, 1) := by decide +kernel
theorem d9_23 : decode c9C 23 = .ok (.getfield 49, 3) := by decide +kernel
theorem d9_26 : decode c9C 26 = .ok (.iload 7, 2) := by decide +kernel
theorem d9_28 : decode c9C 28 = .ok (.daload, 1) := by decide +kernel
theorem d9_29 : decode c9C 29 = .ok (.dload_n 3, 1) := by decide +kernel
theorem d9_30 : decode c9C 30 = .ok (.dcmp .g, 1) := by decide +kernel
theorem d9_31 : decode c9C 31 = .ok (.ifCond .ge 12, 3) := by decide +kernel
theorem d9_34 : decode c9C 34 = .ok (.iload 7, 2) := by decide +kernel
theorem d9_36 : decode c9C 36 = .ok (.iconst 1, 1) := by decide +kernel
theorem d9_37 : decode c9C 37 = .ok (.iadd, 1) := by decide +kernel
theorem d9_38 : decode c9C 38 = .ok (.istore 5, 2) := by decide +kernel
theorem d9_40 : decode c9C 40 = .ok (.goto 7, 3) := by decide +kernel
theorem d9_47 : decode c9C 47 = .ok (.goto (-41), 3) := by decide +kernel
theorem rmLB1t (l : Launch) (Z : State) (a0 : Array Value) (hw : TW Z a0) (b_ P_ : Addr) (N_ : Nat) (pt_ : Nat → DK) (u_ : Int32) (p_ : DK) (h0 : Heap) (n0 : Nat) (Z0 : n0 ≤ h0.size) (p0 : Exa Z h0 b_ "com/example/boceto/boceto/signature/ComponentBuffers") (p1 : Fld Z h0 b_ "com/example/boceto/boceto/signature/ComponentBuffers" "_points" "[D" (.ref P_)) (p2 : Arf Z h0 P_ .double vD N_ pt_) (hS : 0 ≤ u_.toInt ∧ u_.toInt ≤ 8) (b0 : ¬ u_ < 0 ∧ u_.toNatClampNeg < N_) (q0 : (pt_ u_.toNatClampNeg).1 < p_.1) :
    Pays l Z (⟨"com/example/boceto/boceto/signature/ComponentBuffers", "lowerBound", "(IID)I"⟩ : MethodName) prog_28_method_12_code 8 (some .int) [] ({ frames := 0, cells := 0, slots := 0, locals := 0 } : Room) #[(.ref b_), (.int u_), (.int (u_ + (1 : Int32))), (.double (dv p_))] h0 (fun v h L => v = some (.int (u_ + (1 : Int32))) ∧ Fr n0 L ∧ h = h0) := by
  refine Pays.walk (plainFor_of_name pn_3) (fun m => ef_4 m b_ u_ (u_ + (1 : Int32)) (dv p_) ) ?_
  intro p e s m below meth c T0 X0 hx hby hml hown hnm hZ e0 hret hlk
  have dc := @Jvm.hb _ _ hby
  have N0 := Fr.nil n0
  refine Goes.on (T' := T0) (g' := (mkF m 20 #[sR b_, sI u_, sI (u_ + (1 : Int32)), sD (dv p_), s2, sI u_, sI (u_ + (1 : Int32)), su] [(.int (((u_ + (u_ + (1 : Int32))).toUInt32 >>> ((1 : Int32) &&& 31).toUInt32).toInt32))])) (fun _ k => XS.iloadN X0.here hx rfl (dc d9_0) rfl (XS.istore X0.here hx rfl (dc d9_1) rfl (l' := #[sR b_, sI u_, sI (u_ + (1 : Int32)), sD (dv p_), s2, sI u_, su, su]) rfl (XS.iloadN X0.here hx rfl (dc d9_3) rfl (XS.istore X0.here hx rfl (dc d9_4) rfl (l' := #[sR b_, sI u_, sI (u_ + (1 : Int32)), sD (dv p_), s2, sI u_, sI (u_ + (1 : Int32)), su]) rfl (XS.iload X0.here hx rfl (dc d9_6) rfl (XS.iload X0.here hx rfl (dc d9_8) rfl (XS.icmpNo X0.here hx rfl (dc d9_10) rfl (XT.ii_ge_f (own_lt01 hS)) (XS.iload X0.here hx rfl (dc d9_13) rfl (XS.iload X0.here hx rfl (dc d9_15) rfl (XS.iadd X0.here hx rfl (dc d9_17) rfl (XS.iconst X0.here hx rfl (dc d9_18) (XS.iushr X0.here hx rfl (dc d9_19) rfl k)))))))))))) ?_
  rw [(own_mid1 hS)]
  obtain ⟨T1, X1, e1, st1⟩ := getF X0 hx hZ hown (host := "") (Or.inl (own_w hw 46 rfl)) Via.refl e0 p1 (g := (mkF m 23 #[sR b_, sI u_, sI (u_ + (1 : Int32)), sD (dv p_), s2, sI u_, sI (u_ + (1 : Int32)), sI u_] [(.ref b_)])) rfl rfl (dc d9_23)
  refine Goes.on (T' := T1) (g' := (mkF m 52 #[sR b_, sI u_, sI (u_ + (1 : Int32)), sD (dv p_), s2, sI (u_ + (1 : Int32)), sI (u_ + (1 : Int32)), sI u_] [(.int (u_ + (1 : Int32)))])) (fun _ k => XS.istore X0.here hx rfl (dc d9_20) rfl (l' := #[sR b_, sI u_, sI (u_ + (1 : Int32)), sD (dv p_), s2, sI u_, sI (u_ + (1 : Int32)), sI u_]) rfl (XS.aloadN X0.here hx rfl (dc d9_22) rfl rfl (st1 _ (XS.iload X1.here hx rfl (dc d9_26) rfl (ldKm X1 hx hZ e1 p2 b0 (dc d9_28) (XS.dloadN X1.here hx rfl (dc d9_29) rfl (XS.dcmpS X1.here hx rfl (dc d9_30) rfl rfl (XS.ifNo X1.here hx rfl (dc d9_31) rfl (dd_ge_f q0) (XS.iload X1.here hx rfl (dc d9_34) rfl (XS.iconst X1.here hx rfl (dc d9_36) (XS.iadd X1.here hx rfl (dc d9_37) rfl (XS.istore X1.here hx rfl (dc d9_38) rfl (l' := #[sR b_, sI u_, sI (u_ + (1 : Int32)), sD (dv p_), s2, sI (u_ + (1 : Int32)), sI (u_ + (1 : Int32)), sI u_]) rfl (XS.goto X1.here hx rfl (pc0 := 40) (pc' := 47) rfl (dc d9_40) (by decide) (by decide) (XS.goto X1.here hx rfl (pc0 := 47) (pc' := 6) rfl (dc d9_47) (by decide) (by decide) (XS.iload X1.here hx rfl (dc d9_6) rfl (XS.iload X1.here hx rfl (dc d9_8) rfl (XS.icmpYes X1.here hx rfl (pc0 := 10) (pc' := 50) rfl (dc d9_10) rfl (XT.ii_ge_t (own_irr _)) (by decide) (by decide) (XS.iload X1.here hx rfl (dc d9_50) rfl k)))))))))))))))))) ?_
  exact Goes.retI X1 hx hlk hret (dc d9_52) (by decide) (by decide) ⟨rfl, N0, e1⟩
theorem d9_43 : decode c9C 43 = .ok (.iload 7, 2) := by decide +kernel
theorem d9_45 : decode c9C 45 = .ok (.istore 6, 2) := by decide +kernel
theorem rmLB1f (l : Launch) (Z : State) (a0 : Array Value) (hw : TW Z a0) (b_ P_ : Addr) (N_ : Nat) (pt_ : Nat → DK) (u_ : Int32) (p_ : DK) (h0 : Heap) (n0 : Nat) (Z0 : n0 ≤ h0.size) (p0 : Exa Z h0 b_ "com/example/boceto/boceto/signature/ComponentBuffers") (p1 : Fld Z h0 b_ "com/example/boceto/boceto/signature/ComponentBuffers" "_points" "[D" (.ref P_)) (p2 : Arf Z h0 P_ .double vD N_ pt_) (hS : 0 ≤ u_.toInt ∧ u_.toInt ≤ 8) (b0 : ¬ u_ < 0 ∧ u_.toNatClampNeg < N_) (q0 : ¬ (pt_ u_.toNatClampNeg).1 < p_.1) :
    Pays l Z (⟨"com/example/boceto/boceto/signature/ComponentBuffers", "lowerBound", "(IID)I"⟩ : MethodName) prog_28_method_12_code 8 (some .int) [] ({ frames := 0, cells := 0, slots := 0, locals := 0 } : Room) #[(.ref b_), (.int u_), (.int (u_ + (1 : Int32))), (.double (dv p_))] h0 (fun v h L => v = some (.int u_) ∧ Fr n0 L ∧ h = h0) := by
  refine Pays.walk (plainFor_of_name pn_3) (fun m => ef_4 m b_ u_ (u_ + (1 : Int32)) (dv p_) ) ?_
  intro p e s m below meth c T0 X0 hx hby hml hown hnm hZ e0 hret hlk
  have dc := @Jvm.hb _ _ hby
  have N0 := Fr.nil n0
  refine Goes.on (T' := T0) (g' := (mkF m 20 #[sR b_, sI u_, sI (u_ + (1 : Int32)), sD (dv p_), s2, sI u_, sI (u_ + (1 : Int32)), su] [(.int (((u_ + (u_ + (1 : Int32))).toUInt32 >>> ((1 : Int32) &&& 31).toUInt32).toInt32))])) (fun _ k => XS.iloadN X0.here hx rfl (dc d9_0) rfl (XS.istore X0.here hx rfl (dc d9_1) rfl (l' := #[sR b_, sI u_, sI (u_ + (1 : Int32)), sD (dv p_), s2, sI u_, su, su]) rfl (XS.iloadN X0.here hx rfl (dc d9_3) rfl (XS.istore X0.here hx rfl (dc d9_4) rfl (l' := #[sR b_, sI u_, sI (u_ + (1 : Int32)), sD (dv p_), s2, sI u_, sI (u_ + (1 : Int32)), su]) rfl (XS.iload X0.here hx rfl (dc d9_6) rfl (XS.iload X0.here hx rfl (dc d9_8) rfl (XS.icmpNo X0.here hx rfl (dc d9_10) rfl (XT.ii_ge_f (own_lt01 hS)) (XS.iload X0.here hx rfl (dc d9_13) rfl (XS.iload X0.here hx rfl (dc d9_15) rfl (XS.iadd X0.here hx rfl (dc d9_17) rfl (XS.iconst X0.here hx rfl (dc d9_18) (XS.iushr X0.here hx rfl (dc d9_19) rfl k)))))))))))) ?_
  rw [(own_mid1 hS)]
  obtain ⟨T1, X1, e1, st1⟩ := getF X0 hx hZ hown (host := "") (Or.inl (own_w hw 46 rfl)) Via.refl e0 p1 (g := (mkF m 23 #[sR b_, sI u_, sI (u_ + (1 : Int32)), sD (dv p_), s2, sI u_, sI (u_ + (1 : Int32)), sI u_] [(.ref b_)])) rfl rfl (dc d9_23)
  refine Goes.on (T' := T1) (g' := (mkF m 52 #[sR b_, sI u_, sI (u_ + (1 : Int32)), sD (dv p_), s2, sI u_, sI u_, sI u_] [(.int u_)])) (fun _ k => XS.istore X0.here hx rfl (dc d9_20) rfl (l' := #[sR b_, sI u_, sI (u_ + (1 : Int32)), sD (dv p_), s2, sI u_, sI (u_ + (1 : Int32)), sI u_]) rfl (XS.aloadN X0.here hx rfl (dc d9_22) rfl rfl (st1 _ (XS.iload X1.here hx rfl (dc d9_26) rfl (ldKm X1 hx hZ e1 p2 b0 (dc d9_28) (XS.dloadN X1.here hx rfl (dc d9_29) rfl (XS.dcmpS X1.here hx rfl (dc d9_30) rfl rfl (XS.ifYes X1.here hx rfl (pc0 := 31) (pc' := 43) rfl (dc d9_31) rfl (dd_ge_t q0) (by decide) (by decide) (XS.iload X1.here hx rfl (dc d9_43) rfl (XS.istore X1.here hx rfl (dc d9_45) rfl (l' := #[sR b_, sI u_, sI (u_ + (1 : Int32)), sD (dv p_), s2, sI u_, sI u_, sI u_]) rfl (XS.goto X1.here hx rfl (pc0 := 47) (pc' := 6) rfl (dc d9_47) (by decide) (by decide) (XS.iload X1.here hx rfl (dc d9_6) rfl (XS.iload X1.here hx rfl (dc d9_8) rfl (XS.icmpYes X1.here hx rfl (pc0 := 10) (pc' := 50) rfl (dc d9_10) rfl (XT.ii_ge_t (own_irr _)) (by decide) (by decide) (XS.iload X1.here hx rfl (dc d9_50) rfl k))))))))))))))) ?_
  exact Goes.retI X1 hx hlk hret (dc d9_52) (by decide) (by decide) ⟨rfl, N0, e1⟩
theorem rmLB2t (l : Launch) (Z : State) (a0 : Array Value) (hw : TW Z a0) (b_ P_ : Addr) (N_ : Nat) (pt_ : Nat → DK) (u_ : Int32) (p_ : DK) (h0 : Heap) (n0 : Nat) (Z0 : n0 ≤ h0.size) (p0 : Exa Z h0 b_ "com/example/boceto/boceto/signature/ComponentBuffers") (p1 : Fld Z h0 b_ "com/example/boceto/boceto/signature/ComponentBuffers" "_points" "[D" (.ref P_)) (p2 : Arf Z h0 P_ .double vD N_ pt_) (hS : 0 ≤ u_.toInt ∧ u_.toInt ≤ 8) (b0 : ¬ u_ < 0 ∧ u_.toNatClampNeg < N_) (b1 : ¬ (u_ + (1 : Int32)) < 0 ∧ (u_ + (1 : Int32)).toNatClampNeg < N_) (q1 : (pt_ (u_ + (1 : Int32)).toNatClampNeg).1 < p_.1) :
    Pays l Z (⟨"com/example/boceto/boceto/signature/ComponentBuffers", "lowerBound", "(IID)I"⟩ : MethodName) prog_28_method_12_code 8 (some .int) [] ({ frames := 0, cells := 0, slots := 0, locals := 0 } : Room) #[(.ref b_), (.int u_), (.int (u_ + (2 : Int32))), (.double (dv p_))] h0 (fun v h L => v = some (.int (u_ + (2 : Int32))) ∧ Fr n0 L ∧ h = h0) := by
  refine Pays.walk (plainFor_of_name pn_3) (fun m => ef_4 m b_ u_ (u_ + (2 : Int32)) (dv p_) ) ?_
  intro p e s m below meth c T0 X0 hx hby hml hown hnm hZ e0 hret hlk
  have dc := @Jvm.hb _ _ hby
  have N0 := Fr.nil n0
  refine Goes.on (T' := T0) (g' := (mkF m 20 #[sR b_, sI u_, sI (u_ + (2 : Int32)), sD (dv p_), s2, sI u_, sI (u_ + (2 : Int32)), su] [(.int (((u_ + (u_ + (2 : Int32))).toUInt32 >>> ((1 : Int32) &&& 31).toUInt32).toInt32))])) (fun _ k => XS.iloadN X0.here hx rfl (dc d9_0) rfl (XS.istore X0.here hx rfl (dc d9_1) rfl (l' := #[sR b_, sI u_, sI (u_ + (2 : Int32)), sD (dv p_), s2, sI u_, su, su]) rfl (XS.iloadN X0.here hx rfl (dc d9_3) rfl (XS.istore X0.here hx rfl (dc d9_4) rfl (l' := #[sR b_, sI u_, sI (u_ + (2 : Int32)), sD (dv p_), s2, sI u_, sI (u_ + (2 : Int32)), su]) rfl (XS.iload X0.here hx rfl (dc d9_6) rfl (XS.iload X0.here hx rfl (dc d9_8) rfl (XS.icmpNo X0.here hx rfl (dc d9_10) rfl (XT.ii_ge_f (own_lt02 hS)) (XS.iload X0.here hx rfl (dc d9_13) rfl (XS.iload X0.here hx rfl (dc d9_15) rfl (XS.iadd X0.here hx rfl (dc d9_17) rfl (XS.iconst X0.here hx rfl (dc d9_18) (XS.iushr X0.here hx rfl (dc d9_19) rfl k)))))))))))) ?_
  rw [(own_mid2 hS)]
  obtain ⟨T1, X1, e1, st1⟩ := getF X0 hx hZ hown (host := "") (Or.inl (own_w hw 46 rfl)) Via.refl e0 p1 (g := (mkF m 23 #[sR b_, sI u_, sI (u_ + (2 : Int32)), sD (dv p_), s2, sI u_, sI (u_ + (2 : Int32)), sI (u_ + (1 : Int32))] [(.ref b_)])) rfl rfl (dc d9_23)
  refine Goes.on (T' := T1) (g' := (mkF m 38 #[sR b_, sI u_, sI (u_ + (2 : Int32)), sD (dv p_), s2, sI u_, sI (u_ + (2 : Int32)), sI (u_ + (1 : Int32))] [(.int ((u_ + (1 : Int32)) + (1 : Int32)))])) (fun _ k => XS.istore X0.here hx rfl (dc d9_20) rfl (l' := #[sR b_, sI u_, sI (u_ + (2 : Int32)), sD (dv p_), s2, sI u_, sI (u_ + (2 : Int32)), sI (u_ + (1 : Int32))]) rfl (XS.aloadN X0.here hx rfl (dc d9_22) rfl rfl (st1 _ (XS.iload X1.here hx rfl (dc d9_26) rfl (ldKm X1 hx hZ e1 p2 b1 (dc d9_28) (XS.dloadN X1.here hx rfl (dc d9_29) rfl (XS.dcmpS X1.here hx rfl (dc d9_30) rfl rfl (XS.ifNo X1.here hx rfl (dc d9_31) rfl (dd_ge_f q1) (XS.iload X1.here hx rfl (dc d9_34) rfl (XS.iconst X1.here hx rfl (dc d9_36) (XS.iadd X1.here hx rfl (dc d9_37) rfl k))))))))))) ?_
  rw [(own_a11 hS)]
  refine Goes.on (T' := T1) (g' := (mkF m 52 #[sR b_, sI u_, sI (u_ + (2 : Int32)), sD (dv p_), s2, sI (u_ + (2 : Int32)), sI (u_ + (2 : Int32)), sI (u_ + (1 : Int32))] [(.int (u_ + (2 : Int32)))])) (fun _ k => XS.istore X1.here hx rfl (dc d9_38) rfl (l' := #[sR b_, sI u_, sI (u_ + (2 : Int32)), sD (dv p_), s2, sI (u_ + (2 : Int32)), sI (u_ + (2 : Int32)), sI (u_ + (1 : Int32))]) rfl (XS.goto X1.here hx rfl (pc0 := 40) (pc' := 47) rfl (dc d9_40) (by decide) (by decide) (XS.goto X1.here hx rfl (pc0 := 47) (pc' := 6) rfl (dc d9_47) (by decide) (by decide) (XS.iload X1.here hx rfl (dc d9_6) rfl (XS.iload X1.here hx rfl (dc d9_8) rfl (XS.icmpYes X1.here hx rfl (pc0 := 10) (pc' := 50) rfl (dc d9_10) rfl (XT.ii_ge_t (own_irr _)) (by decide) (by decide) (XS.iload X1.here hx rfl (dc d9_50) rfl k))))))) ?_
  exact Goes.retI X1 hx hlk hret (dc d9_52) (by decide) (by decide) ⟨rfl, N0, e1⟩
theorem rmLB2ft (l : Launch) (Z : State) (a0 : Array Value) (hw : TW Z a0) (b_ P_ : Addr) (N_ : Nat) (pt_ : Nat → DK) (u_ : Int32) (p_ : DK) (h0 : Heap) (n0 : Nat) (Z0 : n0 ≤ h0.size) (p0 : Exa Z h0 b_ "com/example/boceto/boceto/signature/ComponentBuffers") (p1 : Fld Z h0 b_ "com/example/boceto/boceto/signature/ComponentBuffers" "_points" "[D" (.ref P_)) (p2 : Arf Z h0 P_ .double vD N_ pt_) (hS : 0 ≤ u_.toInt ∧ u_.toInt ≤ 8) (b0 : ¬ u_ < 0 ∧ u_.toNatClampNeg < N_) (b1 : ¬ (u_ + (1 : Int32)) < 0 ∧ (u_ + (1 : Int32)).toNatClampNeg < N_) (q1 : ¬ (pt_ (u_ + (1 : Int32)).toNatClampNeg).1 < p_.1) (q0 : (pt_ u_.toNatClampNeg).1 < p_.1) :
    Pays l Z (⟨"com/example/boceto/boceto/signature/ComponentBuffers", "lowerBound", "(IID)I"⟩ : MethodName) prog_28_method_12_code 8 (some .int) [] ({ frames := 0, cells := 0, slots := 0, locals := 0 } : Room) #[(.ref b_), (.int u_), (.int (u_ + (2 : Int32))), (.double (dv p_))] h0 (fun v h L => v = some (.int (u_ + (1 : Int32))) ∧ Fr n0 L ∧ h = h0) := by
  refine Pays.walk (plainFor_of_name pn_3) (fun m => ef_4 m b_ u_ (u_ + (2 : Int32)) (dv p_) ) ?_
  intro p e s m below meth c T0 X0 hx hby hml hown hnm hZ e0 hret hlk
  have dc := @Jvm.hb _ _ hby
  have N0 := Fr.nil n0
  refine Goes.on (T' := T0) (g' := (mkF m 20 #[sR b_, sI u_, sI (u_ + (2 : Int32)), sD (dv p_), s2, sI u_, sI (u_ + (2 : Int32)), su] [(.int (((u_ + (u_ + (2 : Int32))).toUInt32 >>> ((1 : Int32) &&& 31).toUInt32).toInt32))])) (fun _ k => XS.iloadN X0.here hx rfl (dc d9_0) rfl (XS.istore X0.here hx rfl (dc d9_1) rfl (l' := #[sR b_, sI u_, sI (u_ + (2 : Int32)), sD (dv p_), s2, sI u_, su, su]) rfl (XS.iloadN X0.here hx rfl (dc d9_3) rfl (XS.istore X0.here hx rfl (dc d9_4) rfl (l' := #[sR b_, sI u_, sI (u_ + (2 : Int32)), sD (dv p_), s2, sI u_, sI (u_ + (2 : Int32)), su]) rfl (XS.iload X0.here hx rfl (dc d9_6) rfl (XS.iload X0.here hx rfl (dc d9_8) rfl (XS.icmpNo X0.here hx rfl (dc d9_10) rfl (XT.ii_ge_f (own_lt02 hS)) (XS.iload X0.here hx rfl (dc d9_13) rfl (XS.iload X0.here hx rfl (dc d9_15) rfl (XS.iadd X0.here hx rfl (dc d9_17) rfl (XS.iconst X0.here hx rfl (dc d9_18) (XS.iushr X0.here hx rfl (dc d9_19) rfl k)))))))))))) ?_
  rw [(own_mid2 hS)]
  obtain ⟨T1, X1, e1, st1⟩ := getF X0 hx hZ hown (host := "") (Or.inl (own_w hw 46 rfl)) Via.refl e0 p1 (g := (mkF m 23 #[sR b_, sI u_, sI (u_ + (2 : Int32)), sD (dv p_), s2, sI u_, sI (u_ + (2 : Int32)), sI (u_ + (1 : Int32))] [(.ref b_)])) rfl rfl (dc d9_23)
  refine Goes.on (T' := T1) (g' := (mkF m 20 #[sR b_, sI u_, sI (u_ + (2 : Int32)), sD (dv p_), s2, sI u_, sI (u_ + (1 : Int32)), sI (u_ + (1 : Int32))] [(.int (((u_ + (u_ + (1 : Int32))).toUInt32 >>> ((1 : Int32) &&& 31).toUInt32).toInt32))])) (fun _ k => XS.istore X0.here hx rfl (dc d9_20) rfl (l' := #[sR b_, sI u_, sI (u_ + (2 : Int32)), sD (dv p_), s2, sI u_, sI (u_ + (2 : Int32)), sI (u_ + (1 : Int32))]) rfl (XS.aloadN X0.here hx rfl (dc d9_22) rfl rfl (st1 _ (XS.iload X1.here hx rfl (dc d9_26) rfl (ldKm X1 hx hZ e1 p2 b1 (dc d9_28) (XS.dloadN X1.here hx rfl (dc d9_29) rfl (XS.dcmpS X1.here hx rfl (dc d9_30) rfl rfl (XS.ifYes X1.here hx rfl (pc0 := 31) (pc' := 43) rfl (dc d9_31) rfl (dd_ge_t q1) (by decide) (by decide) (XS.iload X1.here hx rfl (dc d9_43) rfl (XS.istore X1.here hx rfl (dc d9_45) rfl (l' := #[sR b_, sI u_, sI (u_ + (2 : Int32)), sD (dv p_), s2, sI u_, sI (u_ + (1 : Int32)), sI (u_ + (1 : Int32))]) rfl (XS.goto X1.here hx rfl (pc0 := 47) (pc' := 6) rfl (dc d9_47) (by decide) (by decide) (XS.iload X1.here hx rfl (dc d9_6) rfl (XS.iload X1.here hx rfl (dc d9_8) rfl (XS.icmpNo X1.here hx rfl (dc d9_10) rfl (XT.ii_ge_f (own_lt01 hS)) (XS.iload X1.here hx rfl (dc d9_13) rfl (XS.iload X1.here hx rfl (dc d9_15) rfl (XS.iadd X1.here hx rfl (dc d9_17) rfl (XS.iconst X1.here hx rfl (dc d9_18) (XS.iushr X1.here hx rfl (dc d9_19) rfl k))))))))))))))))))) ?_
  rw [(own_mid1 hS)]
  obtain ⟨T3, X3, e3, st3⟩ := getF X1 hx hZ hown (host := "") (Or.inl (own_w hw 46 rfl)) Via.refl e1 p1 (g := (mkF m 23 #[sR b_, sI u_, sI (u_ + (2 : Int32)), sD (dv p_), s2, sI u_, sI (u_ + (1 : Int32)), sI u_] [(.ref b_)])) rfl rfl (dc d9_23)
  refine Goes.on (T' := T3) (g' := (mkF m 52 #[sR b_, sI u_, sI (u_ + (2 : Int32)), sD (dv p_), s2, sI (u_ + (1 : Int32)), sI (u_ + (1 : Int32)), sI u_] [(.int (u_ + (1 : Int32)))])) (fun _ k => XS.istore X1.here hx rfl (dc d9_20) rfl (l' := #[sR b_, sI u_, sI (u_ + (2 : Int32)), sD (dv p_), s2, sI u_, sI (u_ + (1 : Int32)), sI u_]) rfl (XS.aloadN X1.here hx rfl (dc d9_22) rfl rfl (st3 _ (XS.iload X3.here hx rfl (dc d9_26) rfl (ldKm X3 hx hZ e3 p2 b0 (dc d9_28) (XS.dloadN X3.here hx rfl (dc d9_29) rfl (XS.dcmpS X3.here hx rfl (dc d9_30) rfl rfl (XS.ifNo X3.here hx rfl (dc d9_31) rfl (dd_ge_f q0) (XS.iload X3.here hx rfl (dc d9_34) rfl (XS.iconst X3.here hx rfl (dc d9_36) (XS.iadd X3.here hx rfl (dc d9_37) rfl (XS.istore X3.here hx rfl (dc d9_38) rfl (l' := #[sR b_, sI u_, sI (u_ + (2 : Int32)), sD (dv p_), s2, sI (u_ + (1 : Int32)), sI (u_ + (1 : Int32)), sI u_]) rfl (XS.goto X3.here hx rfl (pc0 := 40) (pc' := 47) rfl (dc d9_40) (by decide) (by decide) (XS.goto X3.here hx rfl (pc0 := 47) (pc' := 6) rfl (dc d9_47) (by decide) (by decide) (XS.iload X3.here hx rfl (dc d9_6) rfl (XS.iload X3.here hx rfl (dc d9_8) rfl (XS.icmpYes X3.here hx rfl (pc0 := 10) (pc' := 50) rfl (dc d9_10) rfl (XT.ii_ge_t (own_irr _)) (by decide) (by decide) (XS.iload X3.here hx rfl (dc d9_50) rfl k)))))))))))))))))) ?_
  exact Goes.retI X3 hx hlk hret (dc d9_52) (by decide) (by decide) ⟨rfl, N0, e3⟩
theorem rmLB2ff (l : Launch) (Z : State) (a0 : Array Value) (hw : TW Z a0) (b_ P_ : Addr) (N_ : Nat) (pt_ : Nat → DK) (u_ : Int32) (p_ : DK) (h0 : Heap) (n0 : Nat) (Z0 : n0 ≤ h0.size) (p0 : Exa Z h0 b_ "com/example/boceto/boceto/signature/ComponentBuffers") (p1 : Fld Z h0 b_ "com/example/boceto/boceto/signature/ComponentBuffers" "_points" "[D" (.ref P_)) (p2 : Arf Z h0 P_ .double vD N_ pt_) (hS : 0 ≤ u_.toInt ∧ u_.toInt ≤ 8) (b0 : ¬ u_ < 0 ∧ u_.toNatClampNeg < N_) (b1 : ¬ (u_ + (1 : Int32)) < 0 ∧ (u_ + (1 : Int32)).toNatClampNeg < N_) (q1 : ¬ (pt_ (u_ + (1 : Int32)).toNatClampNeg).1 < p_.1) (q0 : ¬ (pt_ u_.toNatClampNeg).1 < p_.1) :
    Pays l Z (⟨"com/example/boceto/boceto/signature/ComponentBuffers", "lowerBound", "(IID)I"⟩ : MethodName) prog_28_method_12_code 8 (some .int) [] ({ frames := 0, cells := 0, slots := 0, locals := 0 } : Room) #[(.ref b_), (.int u_), (.int (u_ + (2 : Int32))), (.double (dv p_))] h0 (fun v h L => v = some (.int u_) ∧ Fr n0 L ∧ h = h0) := by
  refine Pays.walk (plainFor_of_name pn_3) (fun m => ef_4 m b_ u_ (u_ + (2 : Int32)) (dv p_) ) ?_
  intro p e s m below meth c T0 X0 hx hby hml hown hnm hZ e0 hret hlk
  have dc := @Jvm.hb _ _ hby
  have N0 := Fr.nil n0
  refine Goes.on (T' := T0) (g' := (mkF m 20 #[sR b_, sI u_, sI (u_ + (2 : Int32)), sD (dv p_), s2, sI u_, sI (u_ + (2 : Int32)), su] [(.int (((u_ + (u_ + (2 : Int32))).toUInt32 >>> ((1 : Int32) &&& 31).toUInt32).toInt32))])) (fun _ k => XS.iloadN X0.here hx rfl (dc d9_0) rfl (XS.istore X0.here hx rfl (dc d9_1) rfl (l' := #[sR b_, sI u_, sI (u_ + (2 : Int32)), sD (dv p_), s2, sI u_, su, su]) rfl (XS.iloadN X0.here hx rfl (dc d9_3) rfl (XS.istore X0.here hx rfl (dc d9_4) rfl (l' := #[sR b_, sI u_, sI (u_ + (2 : Int32)), sD (dv p_), s2, sI u_, sI (u_ + (2 : Int32)), su]) rfl (XS.iload X0.here hx rfl (dc d9_6) rfl (XS.iload X0.here hx rfl (dc d9_8) rfl (XS.icmpNo X0.here hx rfl (dc d9_10) rfl (XT.ii_ge_f (own_lt02 hS)) (XS.iload X0.here hx rfl (dc d9_13) rfl (XS.iload X0.here hx rfl (dc d9_15) rfl (XS.iadd X0.here hx rfl (dc d9_17) rfl (XS.iconst X0.here hx rfl (dc d9_18) (XS.iushr X0.here hx rfl (dc d9_19) rfl k)))))))))))) ?_
  rw [(own_mid2 hS)]
  obtain ⟨T1, X1, e1, st1⟩ := getF X0 hx hZ hown (host := "") (Or.inl (own_w hw 46 rfl)) Via.refl e0 p1 (g := (mkF m 23 #[sR b_, sI u_, sI (u_ + (2 : Int32)), sD (dv p_), s2, sI u_, sI (u_ + (2 : Int32)), sI (u_ + (1 : Int32))] [(.ref b_)])) rfl rfl (dc d9_23)
  refine Goes.on (T' := T1) (g' := (mkF m 20 #[sR b_, sI u_, sI (u_ + (2 : Int32)), sD (dv p_), s2, sI u_, sI (u_ + (1 : Int32)), sI (u_ + (1 : Int32))] [(.int (((u_ + (u_ + (1 : Int32))).toUInt32 >>> ((1 : Int32) &&& 31).toUInt32).toInt32))])) (fun _ k => XS.istore X0.here hx rfl (dc d9_20) rfl (l' := #[sR b_, sI u_, sI (u_ + (2 : Int32)), sD (dv p_), s2, sI u_, sI (u_ + (2 : Int32)), sI (u_ + (1 : Int32))]) rfl (XS.aloadN X0.here hx rfl (dc d9_22) rfl rfl (st1 _ (XS.iload X1.here hx rfl (dc d9_26) rfl (ldKm X1 hx hZ e1 p2 b1 (dc d9_28) (XS.dloadN X1.here hx rfl (dc d9_29) rfl (XS.dcmpS X1.here hx rfl (dc d9_30) rfl rfl (XS.ifYes X1.here hx rfl (pc0 := 31) (pc' := 43) rfl (dc d9_31) rfl (dd_ge_t q1) (by decide) (by decide) (XS.iload X1.here hx rfl (dc d9_43) rfl (XS.istore X1.here hx rfl (dc d9_45) rfl (l' := #[sR b_, sI u_, sI (u_ + (2 : Int32)), sD (dv p_), s2, sI u_, sI (u_ + (1 : Int32)), sI (u_ + (1 : Int32))]) rfl (XS.goto X1.here hx rfl (pc0 := 47) (pc' := 6) rfl (dc d9_47) (by decide) (by decide) (XS.iload X1.here hx rfl (dc d9_6) rfl (XS.iload X1.here hx rfl (dc d9_8) rfl (XS.icmpNo X1.here hx rfl (dc d9_10) rfl (XT.ii_ge_f (own_lt01 hS)) (XS.iload X1.here hx rfl (dc d9_13) rfl (XS.iload X1.here hx rfl (dc d9_15) rfl (XS.iadd X1.here hx rfl (dc d9_17) rfl (XS.iconst X1.here hx rfl (dc d9_18) (XS.iushr X1.here hx rfl (dc d9_19) rfl k))))))))))))))))))) ?_
  rw [(own_mid1 hS)]
  obtain ⟨T3, X3, e3, st3⟩ := getF X1 hx hZ hown (host := "") (Or.inl (own_w hw 46 rfl)) Via.refl e1 p1 (g := (mkF m 23 #[sR b_, sI u_, sI (u_ + (2 : Int32)), sD (dv p_), s2, sI u_, sI (u_ + (1 : Int32)), sI u_] [(.ref b_)])) rfl rfl (dc d9_23)
  refine Goes.on (T' := T3) (g' := (mkF m 52 #[sR b_, sI u_, sI (u_ + (2 : Int32)), sD (dv p_), s2, sI u_, sI u_, sI u_] [(.int u_)])) (fun _ k => XS.istore X1.here hx rfl (dc d9_20) rfl (l' := #[sR b_, sI u_, sI (u_ + (2 : Int32)), sD (dv p_), s2, sI u_, sI (u_ + (1 : Int32)), sI u_]) rfl (XS.aloadN X1.here hx rfl (dc d9_22) rfl rfl (st3 _ (XS.iload X3.here hx rfl (dc d9_26) rfl (ldKm X3 hx hZ e3 p2 b0 (dc d9_28) (XS.dloadN X3.here hx rfl (dc d9_29) rfl (XS.dcmpS X3.here hx rfl (dc d9_30) rfl rfl (XS.ifYes X3.here hx rfl (pc0 := 31) (pc' := 43) rfl (dc d9_31) rfl (dd_ge_t q0) (by decide) (by decide) (XS.iload X3.here hx rfl (dc d9_43) rfl (XS.istore X3.here hx rfl (dc d9_45) rfl (l' := #[sR b_, sI u_, sI (u_ + (2 : Int32)), sD (dv p_), s2, sI u_, sI u_, sI u_]) rfl (XS.goto X3.here hx rfl (pc0 := 47) (pc' := 6) rfl (dc d9_47) (by decide) (by decide) (XS.iload X3.here hx rfl (dc d9_6) rfl (XS.iload X3.here hx rfl (dc d9_8) rfl (XS.icmpYes X3.here hx rfl (pc0 := 10) (pc' := 50) rfl (dc d9_10) rfl (XT.ii_ge_t (own_irr _)) (by decide) (by decide) (XS.iload X3.here hx rfl (dc d9_50) rfl k))))))))))))))) ?_
  exact Goes.retI X3 hx hlk hret (dc d9_52) (by decide) (by decide) ⟨rfl, N0, e3⟩
abbrev c10C := prog_28_method_13_code
theorem d10_0 : decode c10C 0 = .ok (.aload_n 0, 1) := by decide +kernel
theorem d10_1 : decode c10C 1 = .ok (.getfield 49, 3) := by decide +kernel
theorem d10_4 : decode c10C 4 = .ok (.iload_n 1, 1) := by decide +kernel
theorem d10_5 : decode c10C 5 = .ok (.aload_n 0, 1) := by decide +kernel
theorem d10_6 : decode c10C 6 = .ok (.getfield 49, 3) := by decide +kernel
theorem d10_9 : decode c10C 9 = .ok (.iload_n 1, 1) := by decide +kernel
theorem d10_10 : decode c10C 10 = .ok (.iconst 1, 1) := by decide +kernel
theorem d10_11 : decode c10C 11 = .ok (.iadd, 1) := by decide +kernel
theorem d10_12 : decode c10C 12 = .ok (.iload_n 2, 1) := by decide +kernel
theorem d10_13 : decode c10C 13 = .ok (.iload_n 1, 1) := by decide +kernel
theorem d10_14 : decode c10C 14 = .ok (.isub, 1) := by decide +kernel
theorem d10_15 : decode c10C 15 = .ok (.invokestatic 70, 3) := by decide +kernel
theorem d10_18 : decode c10C 18 = .ok (.aload_n 0, 1) := by decide +kernel
theorem d10_19 : decode c10C 19 = .ok (.getfield 52, 3) := by decide +kernel
theorem d10_22 : decode c10C 22 = .ok (.iload_n 1, 1) := by decide +kernel
theorem d10_23 : decode c10C 23 = .ok (.aload_n 0, 1) := by decide +kernel
theorem d10_24 : decode c10C 24 = .ok (.getfield 52, 3) := by decide +kernel
theorem d10_27 : decode c10C 27 = .ok (.iload_n 1, 1) := by decide +kernel
theorem d10_28 : decode c10C 28 = .ok (.iconst 1, 1) := by decide +kernel
theorem d10_29 : decode c10C 29 = .ok (.iadd, 1) := by decide +kernel
theorem d10_30 : decode c10C 30 = .ok (.iload_n 2, 1) := by decide +kernel
theorem d10_31 : decode c10C 31 = .ok (.iload_n 1, 1) := by decide +kernel
theorem d10_32 : decode c10C 32 = .ok (.isub, 1) := by decide +kernel
theorem d10_33 : decode c10C 33 = .ok (.invokestatic 70, 3) := by decide +kernel
theorem d10_36 : decode c10C 36 = .ok (.return_, 1) := by decide +kernel
theorem rmSh0 (l : Launch) (Z : State) (a0 : Array Value) (hw : TW Z a0) (b_ P_ I_ : Addr) (N_ : Nat) (f_ t_ : Int32) (pt_ : Nat → DK) (id_ : Nat → Int64) (h0 : Heap) (n0 : Nat) (Z0 : n0 ≤ h0.size) (p0 : Exa Z h0 b_ "com/example/boceto/boceto/signature/ComponentBuffers") (p1 : Fld Z h0 b_ "com/example/boceto/boceto/signature/ComponentBuffers" "_points" "[D" (.ref P_)) (p2 : Fld Z h0 b_ "com/example/boceto/boceto/signature/ComponentBuffers" "_identities" "[J" (.ref I_)) (p3 : Arf Z h0 P_ .double vD N_ pt_) (p4 : Arf Z h0 I_ .long Value.long N_ id_) (q0 : b_ ≠ P_) (q1 : b_ ≠ I_) (q2 : P_ ≠ I_) (g0 : n0 ≤ P_) (g1 : n0 ≤ I_) (hd : t_ - f_ = (0 : Int32)) (hbd : ¬ f_ < 0 ∧ f_.toNatClampNeg + 1 ≤ N_) (hb2 : ¬ (f_ + (1 : Int32)) < 0 ∧ (f_ + (1 : Int32)).toNatClampNeg = f_.toNatClampNeg + 1) (hn : N_ < 2 ^ 31) :
    Pays l Z (⟨"com/example/boceto/boceto/signature/ComponentBuffers", "shiftUp", "(II)V"⟩ : MethodName) prog_28_method_13_code 3 none [] ({ frames := 1, cells := 0, slots := 0, locals := 40 } : Room) #[(.ref b_), (.int f_), (.int t_)] h0 (fun v h L => v = none ∧ Fr n0 L ∧ Keep h0 h [P_, I_] ∧ Arf Z h P_ .double vD N_ pt_ ∧ Arf Z h I_ .long Value.long N_ id_) := by
  refine Pays.walk (plainFor_of_name pn_3) (fun m => ef_3 m b_ f_ t_ ) ?_
  intro p e s m below meth c T0 X0 hx hby hml hown hnm hZ e0 hret hlk
  have dc := @Jvm.hb _ _ hby
  have ow := @own_w Z a0 hw
  have N0 := Fr.nil n0
  have K0 := Keep.refl h0 ([P_, I_] : List Addr)
  obtain ⟨T1, X1, e1, st1⟩ := getF X0 hx hZ hown (host := "") (Or.inl (ow 46 rfl)) Via.refl e0 p1 (g := (mkF m 1 #[sR b_, sI f_, sI t_] [(.ref b_)])) rfl rfl (dc d10_1)
  obtain ⟨T2, X2, e2, st2⟩ := getF X1 hx hZ hown (host := "") (Or.inl (ow 46 rfl)) Via.refl e1 p1 (g := (mkF m 6 #[sR b_, sI f_, sI t_] [(.ref b_), (.int f_), (.ref P_)])) rfl rfl (dc d10_6)
  refine Goes.on (T' := T2) (g' := (mkF m 15 #[sR b_, sI f_, sI t_] [(.int (t_ - f_)), (.int (f_ + (1 : Int32))), (.ref P_), (.int f_), (.ref P_)])) (fun _ k => XS.aloadN X0.here hx rfl (dc d10_0) rfl rfl (st1 _ (XS.iloadN X1.here hx rfl (dc d10_4) rfl (XS.aloadN X1.here hx rfl (dc d10_5) rfl rfl (st2 _ (XS.iloadN X2.here hx rfl (dc d10_9) rfl (XS.iconst X2.here hx rfl (dc d10_10) (XS.iadd X2.here hx rfl (dc d10_11) rfl (XS.iloadN X2.here hx rfl (dc d10_12) rfl (XS.iloadN X2.here hx rfl (dc d10_13) rfl (XS.isub X2.here hx rfl (dc d10_14) rfl k))))))))))) ?_
  rw [hd]
  obtain ⟨T3, h3, L3, X3, e3, N3, K3, B3, st3⟩ := acA X2 hx hZ hown (ow 74 rfl) (ow 77 rfl) (ow 75 rfl) (ow 76 rfl) e2 p3 rfl (fun _ => rfl) (sp' := f_.toNatClampNeg) (dp' := f_.toNatClampNeg + 1) (len := 0) ⟨hbd.1, rfl⟩ hb2 ⟨by decide, by decide⟩ (by omega) (by omega) hn N0 g0 (g := (mkF m 15 #[sR b_, sI f_, sI t_] [(.int 0), (.int (f_ + (1 : Int32))), (.ref P_), (.int f_), (.ref P_)])) rfl (by rw [hml]; rfl) rfl (dc d10_15) (by decide) (W := 0) (own_le20 rfl) (by decide)
  have C6 := p2.keep K3 (ninS q0 nin0)
  have C7 := p4.keep K3 (ninS q2.symm nin0)
  have K9 := K0.trans K3 (allS (Or.inl (List.mem_of_getElem? (i := 0) rfl)) all0)
  have B3 : Arf Z h3 P_ .double vD N_ pt_ := Arf.same B3 acZero
  obtain ⟨T10, X10, e10, st10⟩ := getF X3 hx hZ hown (host := "") (Or.inl (ow 49 rfl)) Via.refl e3 C6 (g := (mkF m 19 #[sR b_, sI f_, sI t_] [(.ref b_)])) rfl rfl (dc d10_19)
  obtain ⟨T11, X11, e11, st11⟩ := getF X10 hx hZ hown (host := "") (Or.inl (ow 49 rfl)) Via.refl e10 C6 (g := (mkF m 24 #[sR b_, sI f_, sI t_] [(.ref b_), (.int f_), (.ref I_)])) rfl rfl (dc d10_24)
  refine Goes.on (T' := T11) (g' := (mkF m 33 #[sR b_, sI f_, sI t_] [(.int (t_ - f_)), (.int (f_ + (1 : Int32))), (.ref I_), (.int f_), (.ref I_)])) (fun _ k => st3 _ (XS.aloadN X3.here hx rfl (dc d10_18) rfl rfl (st10 _ (XS.iloadN X10.here hx rfl (dc d10_22) rfl (XS.aloadN X10.here hx rfl (dc d10_23) rfl rfl (st11 _ (XS.iloadN X11.here hx rfl (dc d10_27) rfl (XS.iconst X11.here hx rfl (dc d10_28) (XS.iadd X11.here hx rfl (dc d10_29) rfl (XS.iloadN X11.here hx rfl (dc d10_30) rfl (XS.iloadN X11.here hx rfl (dc d10_31) rfl (XS.isub X11.here hx rfl (dc d10_32) rfl k)))))))))))) ?_
  rw [hd]
  obtain ⟨T12, h12, L12, X12, e12, N12, K12, B12, st12⟩ := acA X11 hx hZ hown (ow 74 rfl) (ow 77 rfl) (ow 75 rfl) (ow 76 rfl) e11 C7 rfl (fun _ => rfl) (sp' := f_.toNatClampNeg) (dp' := f_.toNatClampNeg + 1) (len := 0) ⟨hbd.1, rfl⟩ hb2 ⟨by decide, by decide⟩ (by omega) (by omega) hn N3 g1 (g := (mkF m 33 #[sR b_, sI f_, sI t_] [(.int 0), (.int (f_ + (1 : Int32))), (.ref I_), (.int f_), (.ref I_)])) rfl (by rw [hml]; rfl) rfl (dc d10_33) (by decide) (W := 0) (own_le20 rfl) (by decide)
  have C16 := B3.keep K12 (ninS q2 nin0)
  have K18 := K9.trans K12 (allS (Or.inl (List.mem_of_getElem? (i := 1) rfl)) all0)
  have B12 : Arf Z h12 I_ .long Value.long N_ id_ := Arf.same B12 acZero
  refine Goes.on (T' := T12) (g' := (mkF m 36 #[sR b_, sI f_, sI t_] [])) (fun _ k => st12 _ k) ?_
  exact Goes.retV X12 hx hlk hret (dc d10_36) (by decide) (by decide) (by rw [e12]; exact ⟨rfl, N12, K18, C16, B12⟩)
theorem rmSh1 (l : Launch) (Z : State) (a0 : Array Value) (hw : TW Z a0) (b_ P_ I_ : Addr) (N_ : Nat) (f_ t_ : Int32) (pt_ : Nat → DK) (id_ : Nat → Int64) (h0 : Heap) (n0 : Nat) (Z0 : n0 ≤ h0.size) (p0 : Exa Z h0 b_ "com/example/boceto/boceto/signature/ComponentBuffers") (p1 : Fld Z h0 b_ "com/example/boceto/boceto/signature/ComponentBuffers" "_points" "[D" (.ref P_)) (p2 : Fld Z h0 b_ "com/example/boceto/boceto/signature/ComponentBuffers" "_identities" "[J" (.ref I_)) (p3 : Arf Z h0 P_ .double vD N_ pt_) (p4 : Arf Z h0 I_ .long Value.long N_ id_) (q0 : b_ ≠ P_) (q1 : b_ ≠ I_) (q2 : P_ ≠ I_) (g0 : n0 ≤ P_) (g1 : n0 ≤ I_) (hd : t_ - f_ = (1 : Int32)) (hbd : ¬ f_ < 0 ∧ f_.toNatClampNeg + 2 ≤ N_) (hb2 : ¬ (f_ + (1 : Int32)) < 0 ∧ (f_ + (1 : Int32)).toNatClampNeg = f_.toNatClampNeg + 1) (hn : N_ < 2 ^ 31) :
    Pays l Z (⟨"com/example/boceto/boceto/signature/ComponentBuffers", "shiftUp", "(II)V"⟩ : MethodName) prog_28_method_13_code 3 none [] ({ frames := 1, cells := 0, slots := 0, locals := 40 } : Room) #[(.ref b_), (.int f_), (.int t_)] h0 (fun v h L => v = none ∧ Fr n0 L ∧ Keep h0 h [P_, I_] ∧ Arf Z h P_ .double vD N_ (Upd pt_ (f_.toNatClampNeg + 1) (pt_ f_.toNatClampNeg)) ∧ Arf Z h I_ .long Value.long N_ (Upd id_ (f_.toNatClampNeg + 1) (id_ f_.toNatClampNeg))) := by
  refine Pays.walk (plainFor_of_name pn_3) (fun m => ef_3 m b_ f_ t_ ) ?_
  intro p e s m below meth c T0 X0 hx hby hml hown hnm hZ e0 hret hlk
  have dc := @Jvm.hb _ _ hby
  have ow := @own_w Z a0 hw
  have N0 := Fr.nil n0
  have K0 := Keep.refl h0 ([P_, I_] : List Addr)
  obtain ⟨T1, X1, e1, st1⟩ := getF X0 hx hZ hown (host := "") (Or.inl (ow 46 rfl)) Via.refl e0 p1 (g := (mkF m 1 #[sR b_, sI f_, sI t_] [(.ref b_)])) rfl rfl (dc d10_1)
  obtain ⟨T2, X2, e2, st2⟩ := getF X1 hx hZ hown (host := "") (Or.inl (ow 46 rfl)) Via.refl e1 p1 (g := (mkF m 6 #[sR b_, sI f_, sI t_] [(.ref b_), (.int f_), (.ref P_)])) rfl rfl (dc d10_6)
  refine Goes.on (T' := T2) (g' := (mkF m 15 #[sR b_, sI f_, sI t_] [(.int (t_ - f_)), (.int (f_ + (1 : Int32))), (.ref P_), (.int f_), (.ref P_)])) (fun _ k => XS.aloadN X0.here hx rfl (dc d10_0) rfl rfl (st1 _ (XS.iloadN X1.here hx rfl (dc d10_4) rfl (XS.aloadN X1.here hx rfl (dc d10_5) rfl rfl (st2 _ (XS.iloadN X2.here hx rfl (dc d10_9) rfl (XS.iconst X2.here hx rfl (dc d10_10) (XS.iadd X2.here hx rfl (dc d10_11) rfl (XS.iloadN X2.here hx rfl (dc d10_12) rfl (XS.iloadN X2.here hx rfl (dc d10_13) rfl (XS.isub X2.here hx rfl (dc d10_14) rfl k))))))))))) ?_
  rw [hd]
  obtain ⟨T3, h3, L3, X3, e3, N3, K3, B3, st3⟩ := acA X2 hx hZ hown (ow 74 rfl) (ow 77 rfl) (ow 75 rfl) (ow 76 rfl) e2 p3 rfl (fun _ => rfl) (sp' := f_.toNatClampNeg) (dp' := f_.toNatClampNeg + 1) (len := 1) ⟨hbd.1, rfl⟩ hb2 ⟨by decide, by decide⟩ (by omega) (by omega) hn N0 g0 (g := (mkF m 15 #[sR b_, sI f_, sI t_] [(.int 1), (.int (f_ + (1 : Int32))), (.ref P_), (.int f_), (.ref P_)])) rfl (by rw [hml]; rfl) rfl (dc d10_15) (by decide) (W := 0) (own_le20 rfl) (by decide)
  have C6 := p2.keep K3 (ninS q0 nin0)
  have C7 := p4.keep K3 (ninS q2.symm nin0)
  have K9 := K0.trans K3 (allS (Or.inl (List.mem_of_getElem? (i := 0) rfl)) all0)
  have B3 : Arf Z h3 P_ .double vD N_ (Upd pt_ (f_.toNatClampNeg + 1) (pt_ f_.toNatClampNeg)) := Arf.same B3 (acOne rfl)
  obtain ⟨T10, X10, e10, st10⟩ := getF X3 hx hZ hown (host := "") (Or.inl (ow 49 rfl)) Via.refl e3 C6 (g := (mkF m 19 #[sR b_, sI f_, sI t_] [(.ref b_)])) rfl rfl (dc d10_19)
  obtain ⟨T11, X11, e11, st11⟩ := getF X10 hx hZ hown (host := "") (Or.inl (ow 49 rfl)) Via.refl e10 C6 (g := (mkF m 24 #[sR b_, sI f_, sI t_] [(.ref b_), (.int f_), (.ref I_)])) rfl rfl (dc d10_24)
  refine Goes.on (T' := T11) (g' := (mkF m 33 #[sR b_, sI f_, sI t_] [(.int (t_ - f_)), (.int (f_ + (1 : Int32))), (.ref I_), (.int f_), (.ref I_)])) (fun _ k => st3 _ (XS.aloadN X3.here hx rfl (dc d10_18) rfl rfl (st10 _ (XS.iloadN X10.here hx rfl (dc d10_22) rfl (XS.aloadN X10.here hx rfl (dc d10_23) rfl rfl (st11 _ (XS.iloadN X11.here hx rfl (dc d10_27) rfl (XS.iconst X11.here hx rfl (dc d10_28) (XS.iadd X11.here hx rfl (dc d10_29) rfl (XS.iloadN X11.here hx rfl (dc d10_30) rfl (XS.iloadN X11.here hx rfl (dc d10_31) rfl (XS.isub X11.here hx rfl (dc d10_32) rfl k)))))))))))) ?_
  rw [hd]
  obtain ⟨T12, h12, L12, X12, e12, N12, K12, B12, st12⟩ := acA X11 hx hZ hown (ow 74 rfl) (ow 77 rfl) (ow 75 rfl) (ow 76 rfl) e11 C7 rfl (fun _ => rfl) (sp' := f_.toNatClampNeg) (dp' := f_.toNatClampNeg + 1) (len := 1) ⟨hbd.1, rfl⟩ hb2 ⟨by decide, by decide⟩ (by omega) (by omega) hn N3 g1 (g := (mkF m 33 #[sR b_, sI f_, sI t_] [(.int 1), (.int (f_ + (1 : Int32))), (.ref I_), (.int f_), (.ref I_)])) rfl (by rw [hml]; rfl) rfl (dc d10_33) (by decide) (W := 0) (own_le20 rfl) (by decide)
  have C16 := B3.keep K12 (ninS q2 nin0)
  have K18 := K9.trans K12 (allS (Or.inl (List.mem_of_getElem? (i := 1) rfl)) all0)
  have B12 : Arf Z h12 I_ .long Value.long N_ (Upd id_ (f_.toNatClampNeg + 1) (id_ f_.toNatClampNeg)) := Arf.same B12 (acOne rfl)
  refine Goes.on (T' := T12) (g' := (mkF m 36 #[sR b_, sI f_, sI t_] [])) (fun _ k => st12 _ k) ?_
  exact Goes.retV X12 hx hlk hret (dc d10_36) (by decide) (by decide) (by rw [e12]; exact ⟨rfl, N12, K18, C16, B12⟩)
theorem rmSh2 (l : Launch) (Z : State) (a0 : Array Value) (hw : TW Z a0) (b_ P_ I_ : Addr) (N_ : Nat) (f_ t_ : Int32) (pt_ : Nat → DK) (id_ : Nat → Int64) (h0 : Heap) (n0 : Nat) (Z0 : n0 ≤ h0.size) (p0 : Exa Z h0 b_ "com/example/boceto/boceto/signature/ComponentBuffers") (p1 : Fld Z h0 b_ "com/example/boceto/boceto/signature/ComponentBuffers" "_points" "[D" (.ref P_)) (p2 : Fld Z h0 b_ "com/example/boceto/boceto/signature/ComponentBuffers" "_identities" "[J" (.ref I_)) (p3 : Arf Z h0 P_ .double vD N_ pt_) (p4 : Arf Z h0 I_ .long Value.long N_ id_) (q0 : b_ ≠ P_) (q1 : b_ ≠ I_) (q2 : P_ ≠ I_) (g0 : n0 ≤ P_) (g1 : n0 ≤ I_) (hd : t_ - f_ = (2 : Int32)) (hbd : ¬ f_ < 0 ∧ f_.toNatClampNeg + 3 ≤ N_) (hb2 : ¬ (f_ + (1 : Int32)) < 0 ∧ (f_ + (1 : Int32)).toNatClampNeg = f_.toNatClampNeg + 1) (hn : N_ < 2 ^ 31) :
    Pays l Z (⟨"com/example/boceto/boceto/signature/ComponentBuffers", "shiftUp", "(II)V"⟩ : MethodName) prog_28_method_13_code 3 none [] ({ frames := 1, cells := 0, slots := 0, locals := 40 } : Room) #[(.ref b_), (.int f_), (.int t_)] h0 (fun v h L => v = none ∧ Fr n0 L ∧ Keep h0 h [P_, I_] ∧ Arf Z h P_ .double vD N_ (Upd (Upd pt_ (f_.toNatClampNeg + 2) (pt_ (f_.toNatClampNeg + 1))) (f_.toNatClampNeg + 1) (pt_ f_.toNatClampNeg)) ∧ Arf Z h I_ .long Value.long N_ (Upd (Upd id_ (f_.toNatClampNeg + 2) (id_ (f_.toNatClampNeg + 1))) (f_.toNatClampNeg + 1) (id_ f_.toNatClampNeg))) := by
  refine Pays.walk (plainFor_of_name pn_3) (fun m => ef_3 m b_ f_ t_ ) ?_
  intro p e s m below meth c T0 X0 hx hby hml hown hnm hZ e0 hret hlk
  have dc := @Jvm.hb _ _ hby
  have ow := @own_w Z a0 hw
  have N0 := Fr.nil n0
  have K0 := Keep.refl h0 ([P_, I_] : List Addr)
  obtain ⟨T1, X1, e1, st1⟩ := getF X0 hx hZ hown (host := "") (Or.inl (ow 46 rfl)) Via.refl e0 p1 (g := (mkF m 1 #[sR b_, sI f_, sI t_] [(.ref b_)])) rfl rfl (dc d10_1)
  obtain ⟨T2, X2, e2, st2⟩ := getF X1 hx hZ hown (host := "") (Or.inl (ow 46 rfl)) Via.refl e1 p1 (g := (mkF m 6 #[sR b_, sI f_, sI t_] [(.ref b_), (.int f_), (.ref P_)])) rfl rfl (dc d10_6)
  refine Goes.on (T' := T2) (g' := (mkF m 15 #[sR b_, sI f_, sI t_] [(.int (t_ - f_)), (.int (f_ + (1 : Int32))), (.ref P_), (.int f_), (.ref P_)])) (fun _ k => XS.aloadN X0.here hx rfl (dc d10_0) rfl rfl (st1 _ (XS.iloadN X1.here hx rfl (dc d10_4) rfl (XS.aloadN X1.here hx rfl (dc d10_5) rfl rfl (st2 _ (XS.iloadN X2.here hx rfl (dc d10_9) rfl (XS.iconst X2.here hx rfl (dc d10_10) (XS.iadd X2.here hx rfl (dc d10_11) rfl (XS.iloadN X2.here hx rfl (dc d10_12) rfl (XS.iloadN X2.here hx rfl (dc d10_13) rfl (XS.isub X2.here hx rfl (dc d10_14) rfl k))))))))))) ?_
  rw [hd]
  obtain ⟨T3, h3, L3, X3, e3, N3, K3, B3, st3⟩ := acA X2 hx hZ hown (ow 74 rfl) (ow 77 rfl) (ow 75 rfl) (ow 76 rfl) e2 p3 rfl (fun _ => rfl) (sp' := f_.toNatClampNeg) (dp' := f_.toNatClampNeg + 1) (len := 2) ⟨hbd.1, rfl⟩ hb2 ⟨by decide, by decide⟩ (by omega) (by omega) hn N0 g0 (g := (mkF m 15 #[sR b_, sI f_, sI t_] [(.int 2), (.int (f_ + (1 : Int32))), (.ref P_), (.int f_), (.ref P_)])) rfl (by rw [hml]; rfl) rfl (dc d10_15) (by decide) (W := 0) (own_le20 rfl) (by decide)
  have C6 := p2.keep K3 (ninS q0 nin0)
  have C7 := p4.keep K3 (ninS q2.symm nin0)
  have K9 := K0.trans K3 (allS (Or.inl (List.mem_of_getElem? (i := 0) rfl)) all0)
  have B3 : Arf Z h3 P_ .double vD N_ (Upd (Upd pt_ (f_.toNatClampNeg + 2) (pt_ (f_.toNatClampNeg + 1))) (f_.toNatClampNeg + 1) (pt_ f_.toNatClampNeg)) := Arf.same B3 acTwo
  obtain ⟨T10, X10, e10, st10⟩ := getF X3 hx hZ hown (host := "") (Or.inl (ow 49 rfl)) Via.refl e3 C6 (g := (mkF m 19 #[sR b_, sI f_, sI t_] [(.ref b_)])) rfl rfl (dc d10_19)
  obtain ⟨T11, X11, e11, st11⟩ := getF X10 hx hZ hown (host := "") (Or.inl (ow 49 rfl)) Via.refl e10 C6 (g := (mkF m 24 #[sR b_, sI f_, sI t_] [(.ref b_), (.int f_), (.ref I_)])) rfl rfl (dc d10_24)
  refine Goes.on (T' := T11) (g' := (mkF m 33 #[sR b_, sI f_, sI t_] [(.int (t_ - f_)), (.int (f_ + (1 : Int32))), (.ref I_), (.int f_), (.ref I_)])) (fun _ k => st3 _ (XS.aloadN X3.here hx rfl (dc d10_18) rfl rfl (st10 _ (XS.iloadN X10.here hx rfl (dc d10_22) rfl (XS.aloadN X10.here hx rfl (dc d10_23) rfl rfl (st11 _ (XS.iloadN X11.here hx rfl (dc d10_27) rfl (XS.iconst X11.here hx rfl (dc d10_28) (XS.iadd X11.here hx rfl (dc d10_29) rfl (XS.iloadN X11.here hx rfl (dc d10_30) rfl (XS.iloadN X11.here hx rfl (dc d10_31) rfl (XS.isub X11.here hx rfl (dc d10_32) rfl k)))))))))))) ?_
  rw [hd]
  obtain ⟨T12, h12, L12, X12, e12, N12, K12, B12, st12⟩ := acA X11 hx hZ hown (ow 74 rfl) (ow 77 rfl) (ow 75 rfl) (ow 76 rfl) e11 C7 rfl (fun _ => rfl) (sp' := f_.toNatClampNeg) (dp' := f_.toNatClampNeg + 1) (len := 2) ⟨hbd.1, rfl⟩ hb2 ⟨by decide, by decide⟩ (by omega) (by omega) hn N3 g1 (g := (mkF m 33 #[sR b_, sI f_, sI t_] [(.int 2), (.int (f_ + (1 : Int32))), (.ref I_), (.int f_), (.ref I_)])) rfl (by rw [hml]; rfl) rfl (dc d10_33) (by decide) (W := 0) (own_le20 rfl) (by decide)
  have C16 := B3.keep K12 (ninS q2 nin0)
  have K18 := K9.trans K12 (allS (Or.inl (List.mem_of_getElem? (i := 1) rfl)) all0)
  have B12 : Arf Z h12 I_ .long Value.long N_ (Upd (Upd id_ (f_.toNatClampNeg + 2) (id_ (f_.toNatClampNeg + 1))) (f_.toNatClampNeg + 1) (id_ f_.toNatClampNeg)) := Arf.same B12 acTwo
  refine Goes.on (T' := T12) (g' := (mkF m 36 #[sR b_, sI f_, sI t_] [])) (fun _ k => st12 _ k) ?_
  exact Goes.retV X12 hx hlk hret (dc d10_36) (by decide) (by decide) (by rw [e12]; exact ⟨rfl, N12, K18, C16, B12⟩)
abbrev c11C := prog_28_method_14_code
theorem d11_0 : decode c11C 0 = .ok (.ldc2_w 83, 3) := by decide +kernel
theorem d11_3 : decode c11C 3 = .ok (.aload_n 0, 1) := by decide +kernel
theorem d11_4 : decode c11C 4 = .ok (.getfield 46, 3) := by decide +kernel
theorem d11_7 : decode c11C 7 = .ok (.i2l, 1) := by decide +kernel
theorem d11_8 : decode c11C 8 = .ok (.lmul, 1) := by decide +kernel
theorem d11_9 : decode c11C 9 = .ok (.aload_n 0, 1) := by decide +kernel
theorem d11_10 : decode c11C 10 = .ok (.getfield 24, 3) := by decide +kernel
theorem d11_13 : decode c11C 13 = .ok (.i2l, 1) := by decide +kernel
theorem pd_2 : parseMethodDescriptor "(JJ)J" = some ⟨[.long, .long], some .long⟩ := by decide +kernel
theorem d11_14 : decode c11C 14 = .ok (.invokestatic 85, 3) := by decide +kernel
theorem d11_17 : decode c11C 17 = .ok (.l2i, 1) := by decide +kernel
theorem d11_18 : decode c11C 18 = .ok (.istore_n 1, 1) := by decide +kernel
theorem d11_19 : decode c11C 19 = .ok (.aload_n 0, 1) := by decide +kernel
theorem d11_20 : decode c11C 20 = .ok (.getfield 28, 3) := by decide +kernel
theorem d11_23 : decode c11C 23 = .ok (.arraylength, 1) := by decide +kernel
theorem d11_24 : decode c11C 24 = .ok (.iload_n 1, 1) := by decide +kernel
theorem d11_25 : decode c11C 25 = .ok (.imul, 1) := by decide +kernel
theorem d11_26 : decode c11C 26 = .ok (.newarray .double, 2) := by decide +kernel
theorem d11_28 : decode c11C 28 = .ok (.astore_n 2, 1) := by decide +kernel
theorem d11_29 : decode c11C 29 = .ok (.aload_n 0, 1) := by decide +kernel
theorem d11_30 : decode c11C 30 = .ok (.getfield 28, 3) := by decide +kernel
theorem d11_33 : decode c11C 33 = .ok (.arraylength, 1) := by decide +kernel
theorem d11_34 : decode c11C 34 = .ok (.iload_n 1, 1) := by decide +kernel
theorem d11_35 : decode c11C 35 = .ok (.imul, 1) := by decide +kernel
theorem d11_36 : decode c11C 36 = .ok (.newarray .long, 2) := by decide +kernel
theorem d11_38 : decode c11C 38 = .ok (.astore_n 3, 1) := by decide +kernel
theorem d11_39 : decode c11C 39 = .ok (.iconst 0, 1) := by decide +kernel
theorem d11_40 : decode c11C 40 = .ok (.istore 4, 2) := by decide +kernel
theorem d11_42 : decode c11C 42 = .ok (.iload 4, 2) := by decide +kernel
theorem d11_44 : decode c11C 44 = .ok (.aload_n 0, 1) := by decide +kernel
theorem d11_45 : decode c11C 45 = .ok (.getfield 28, 3) := by decide +kernel
theorem d11_48 : decode c11C 48 = .ok (.arraylength, 1) := by decide +kernel
theorem d11_49 : decode c11C 49 = .ok (.if_icmp .ge 61, 3) := by decide +kernel
theorem d11_52 : decode c11C 52 = .ok (.aload_n 0, 1) := by decide +kernel
theorem d11_53 : decode c11C 53 = .ok (.getfield 49, 3) := by decide +kernel
theorem d11_56 : decode c11C 56 = .ok (.iload 4, 2) := by decide +kernel
theorem d11_58 : decode c11C 58 = .ok (.aload_n 0, 1) := by decide +kernel
theorem d11_59 : decode c11C 59 = .ok (.getfield 46, 3) := by decide +kernel
theorem d11_62 : decode c11C 62 = .ok (.imul, 1) := by decide +kernel
theorem d11_63 : decode c11C 63 = .ok (.aload_n 2, 1) := by decide +kernel
theorem d11_64 : decode c11C 64 = .ok (.iload 4, 2) := by decide +kernel
theorem d11_66 : decode c11C 66 = .ok (.iload_n 1, 1) := by decide +kernel
theorem d11_67 : decode c11C 67 = .ok (.imul, 1) := by decide +kernel
theorem d11_68 : decode c11C 68 = .ok (.aload_n 0, 1) := by decide +kernel
theorem d11_69 : decode c11C 69 = .ok (.getfield 28, 3) := by decide +kernel
theorem d11_72 : decode c11C 72 = .ok (.iload 4, 2) := by decide +kernel
theorem d11_74 : decode c11C 74 = .ok (.iaload, 1) := by decide +kernel
theorem d11_75 : decode c11C 75 = .ok (.invokestatic 70, 3) := by decide +kernel
theorem d11_78 : decode c11C 78 = .ok (.aload_n 0, 1) := by decide +kernel
theorem d11_79 : decode c11C 79 = .ok (.getfield 52, 3) := by decide +kernel
theorem d11_82 : decode c11C 82 = .ok (.iload 4, 2) := by decide +kernel
theorem d11_84 : decode c11C 84 = .ok (.aload_n 0, 1) := by decide +kernel
theorem d11_85 : decode c11C 85 = .ok (.getfield 46, 3) := by decide +kernel
theorem d11_88 : decode c11C 88 = .ok (.imul, 1) := by decide +kernel
theorem d11_89 : decode c11C 89 = .ok (.aload_n 3, 1) := by decide +kernel
theorem d11_90 : decode c11C 90 = .ok (.iload 4, 2) := by decide +kernel
theorem d11_92 : decode c11C 92 = .ok (.iload_n 1, 1) := by decide +kernel
theorem d11_93 : decode c11C 93 = .ok (.imul, 1) := by decide +kernel
theorem d11_94 : decode c11C 94 = .ok (.aload_n 0, 1) := by decide +kernel
theorem d11_95 : decode c11C 95 = .ok (.getfield 28, 3) := by decide +kernel
theorem d11_98 : decode c11C 98 = .ok (.iload 4, 2) := by decide +kernel
theorem d11_100 : decode c11C 100 = .ok (.iaload, 1) := by decide +kernel
theorem d11_101 : decode c11C 101 = .ok (.invokestatic 70, 3) := by decide +kernel
theorem d11_104 : decode c11C 104 = .ok (.iinc 4 1, 3) := by decide +kernel
theorem d11_107 : decode c11C 107 = .ok (.goto (-65), 3) := by decide +kernel
theorem d11_110 : decode c11C 110 = .ok (.aload_n 0, 1) := by decide +kernel
theorem d11_111 : decode c11C 111 = .ok (.iload_n 1, 1) := by decide +kernel
theorem d11_112 : decode c11C 112 = .ok (.putfield 46, 3) := by decide +kernel
theorem d11_115 : decode c11C 115 = .ok (.aload_n 0, 1) := by decide +kernel
theorem d11_116 : decode c11C 116 = .ok (.aload_n 2, 1) := by decide +kernel
theorem d11_117 : decode c11C 117 = .ok (.putfield 49, 3) := by decide +kernel
theorem d11_120 : decode c11C 120 = .ok (.aload_n 0, 1) := by decide +kernel
theorem d11_121 : decode c11C 121 = .ok (.aload_n 3, 1) := by decide +kernel
theorem d11_122 : decode c11C 122 = .ok (.putfield 52, 3) := by decide +kernel
theorem d11_125 : decode c11C 125 = .ok (.return_, 1) := by decide +kernel
theorem ef_5 (m : MethodId) (x0 : Addr) : entryFrame m #[(.ref x0)] 5 = mkF m 0 #[.val (.ref x0), .unset, .unset, .unset, .unset] [] := by first | (simp [entryFrame, mkF, argsToLocals, Value.category]; done) | rfl
theorem rmGr11 (l : Launch) (Z : State) (a0 : Array Value) (hw : TW Z a0) (b_ S_ T_ P_ I_ : Addr) (l_ q_ : Int32) (sz_ : Nat → Int32) (pt_ : Nat → DK) (id_ : Nat → Int64) (h0 : Heap) (n0 : Nat) (Z0 : n0 ≤ h0.size) (p0 : Exa Z h0 b_ "com/example/boceto/boceto/signature/ComponentBuffers") (p1 : Fld Z h0 b_ "com/example/boceto/boceto/signature/ComponentBuffers" "_bufferSize" "I" (.int l_)) (p2 : Fld Z h0 b_ "com/example/boceto/boceto/signature/ComponentBuffers" "_sizes" "[I" (.ref S_)) (p3 : Fld Z h0 b_ "com/example/boceto/boceto/signature/ComponentBuffers" "_capacity" "I" (.int (1 : Int32))) (p4 : Fld Z h0 b_ "com/example/boceto/boceto/signature/ComponentBuffers" "_points" "[D" (.ref P_)) (p5 : Fld Z h0 b_ "com/example/boceto/boceto/signature/ComponentBuffers" "_identities" "[J" (.ref I_)) (p6 : Fld Z h0 b_ "com/example/boceto/boceto/signature/ComponentBuffers" "_thresholds" "[D" (.ref T_)) (p7 : Fld Z h0 b_ "com/example/boceto/boceto/signature/ComponentBuffers" "_pointCount" "I" (.int q_)) (p8 : Arf Z h0 S_ .int Value.int 1 sz_) (p9 : Arf Z h0 P_ .double vD 1 pt_) (p10 : Arf Z h0 I_ .long Value.long 1 id_) (q0 : b_ ≠ S_) (q1 : b_ ≠ P_) (q2 : b_ ≠ I_) (g0 : n0 ≤ b_) (hl : l_ = (2 : Int32) ∨ l_ = (3 : Int32)) (hz : ∀ i, i < 1 → ¬ sz_ i < 0 ∧ (sz_ i).toNatClampNeg ≤ 1) :
    Pays l Z (⟨"com/example/boceto/boceto/signature/ComponentBuffers", "grow", "()V"⟩ : MethodName) prog_28_method_14_code 5 none [] ({ frames := 1, cells := 2, slots := 18, locals := 40 } : Room) #[(.ref b_)] h0 (fun v h L => ∃ (n0_ n1_ : Addr) (ptg_ : Nat → DK) (idg_ : Nat → Int64), v = none ∧ Fr n0 L ∧ Keep h0 h [b_] ∧ Exa Z h b_ "com/example/boceto/boceto/signature/ComponentBuffers" ∧ Fld Z h b_ "com/example/boceto/boceto/signature/ComponentBuffers" "_bufferSize" "I" (.int l_) ∧ Fld Z h b_ "com/example/boceto/boceto/signature/ComponentBuffers" "_sizes" "[I" (.ref S_) ∧ Fld Z h b_ "com/example/boceto/boceto/signature/ComponentBuffers" "_capacity" "I" (.int (2 : Int32)) ∧ Fld Z h b_ "com/example/boceto/boceto/signature/ComponentBuffers" "_points" "[D" (.ref n0_) ∧ Fld Z h b_ "com/example/boceto/boceto/signature/ComponentBuffers" "_identities" "[J" (.ref n1_) ∧ Fld Z h b_ "com/example/boceto/boceto/signature/ComponentBuffers" "_thresholds" "[D" (.ref T_) ∧ Fld Z h b_ "com/example/boceto/boceto/signature/ComponentBuffers" "_pointCount" "I" (.int q_) ∧ Exa Z h n0_ "[D" ∧ Arf Z h n0_ .double vD 2 ptg_ ∧ Exa Z h n1_ "[J" ∧ Arf Z h n1_ .long Value.long 2 idg_ ∧ h0.size ≤ n0_ ∧ h0.size ≤ n1_ ∧ n0_ ≠ n1_ ∧ own_gr 1 1 2 sz_ pt_ ptg_ ∧ own_gr 1 1 2 sz_ id_ idg_) := by
  refine Pays.walk (plainFor_of_name pn_3) (fun m => ef_5 m b_ ) ?_
  intro p e s m below meth c T0 X0 hx hby hml hown hnm hZ e0 hret hlk
  have dc := @Jvm.hb _ _ hby
  have ow := @own_w Z a0 hw
  have K0 := Keep.refl h0 [b_]
  obtain ⟨T1, X1, e1, st1⟩ := getF X0 hx hZ hown (host := "") (Or.inl (ow 44 rfl)) Via.refl e0 p3 (g := (mkF m 4 #[sR b_, su, su, su, su] [(.ref b_), (.long 2)])) rfl rfl (dc d11_4)
  obtain ⟨T2, X2, e2, st2⟩ := getF X1 hx hZ hown (host := "") (Or.inl (ow 31 rfl)) Via.refl e1 p1 (g := (mkF m 10 #[sR b_, su, su, su, su] [(.ref b_), (.long ((2 : Int64) * (1 : Int32).toInt64))])) rfl rfl (dc d11_10)
  refine Goes.on (T' := T2) (g' := (mkF m 14 #[sR b_, su, su, su, su] [(.long (l_.toInt64)), (.long ((2 : Int64) * (1 : Int32).toInt64))])) (fun _ k => X0.ldc2Long hx hown (mvT hZ (ow 84 rfl)) (g := (mkF m 0 #[sR b_, su, su, su, su] [])) rfl (dc d11_0) _ (XS.aloadN X0.here hx rfl (dc d11_3) rfl rfl (st1 _ (XS.i2l X1.here hx rfl (dc d11_7) rfl (XS.lmul X1.here hx rfl (dc d11_8) rfl (XS.aloadN X1.here hx rfl (dc d11_9) rfl rfl (st2 _ (XS.i2l X2.here hx rfl (dc d11_13) rfl k)))))))) ?_
  refine Goes.callS X2 hx hZ 0 hown (ow 85 rfl) (ow 86 rfl) (ow 87 rfl) (ow 88 rfl) (by decide) e2 (rmmin l Z a0 hw ((2 : Int64) * (1 : Int32).toInt64) (l_.toInt64) h0 n0 Z0) (by decide) (by decide) (by decide) (by decide) rfl (by rw [hml]; rfl) (argsL := [(.long ((2 : Int64) * (1 : Int32).toInt64)), (.long (l_.toInt64))]) (rest := []) rfl (lenOf pd_2 rfl) rfl (own_le20 rfl) (dc d11_14) ?_
  rintro v3 T3 L3 X3 ⟨rfl, N3q, e3⟩
  have N3 := Fr.app (Fr.nil n0) N3q
  show Goes p e below _ T3 (mkF m 17 #[sR b_, su, su, su, su] [(.long (Fmin ((2 : Int64) * (1 : Int32).toInt64) (l_.toInt64)))])
  refine Goes.on (T' := T3) (g' := (mkF m 18 #[sR b_, su, su, su, su] [(.int ((Fmin ((2 : Int64) * (1 : Int32).toInt64) (l_.toInt64)).toInt32))])) (fun _ k => XT.l2i X3.here hx rfl (dc d11_17) rfl k) ?_
  rw [show (Fmin ((2 : Int64) * (1 : Int32).toInt64) (l_.toInt64)).toInt32 = (2 : Int32) from by rcases hl with rfl | rfl <;> decide]
  obtain ⟨T4, X4, e4, st4⟩ := getF X3 hx hZ hown (host := "") (Or.inl (ow 34 rfl)) Via.refl e3 p2 (g := (mkF m 20 #[sR b_, sI 2, su, su, su] [(.ref b_)])) rfl rfl (dc d11_20)
  obtain ⟨T6, h6, cA6, X6, e6, E6, A6, J6, st6⟩ := newPE X4 hx hZ (ow 36 rfl) e4 (g := (mkF m 26 #[sR b_, sI 2, su, su, su] [(.int 2)])) rfl (dc d11_26) rfl (by decide) (cap := 2) (by decide) (by decide) (by decide) (by decide) (ad := "[D") (by decide)
  obtain ⟨a6, g6⟩ : ∃ z, z = h0.size := ⟨_, rfl⟩
  rw [← g6] at A6 J6 st6
  have M6 : h0.size ≤ a6 := Nat.le_trans K0.1 (Nat.le_of_eq g6.symm)
  have C7 := p0.ext E6
  have C9 := p2.ext E6
  have C15 := p8.ext E6
  have ne18 := own_neG p0.lt g6
  have ne19 := own_neG p8.lt g6
  have ne21 := own_neG p10.lt g6
  have Z22 := Nat.le_trans Z0 E6.1
  have K23 := K0.ext E6
  have B6 : Arf Z h6 a6 .double vD 2 (fun _ => (dint 0)) := Arf.new A6 dv_zero
  have G6 : n0 ≤ a6 := Nat.le_trans Z0 (Nat.le_of_eq g6.symm)
  obtain ⟨T24, X24, e24, st24⟩ := getF X6 hx hZ hown (host := "") (Or.inl (ow 34 rfl)) Via.refl e6 C9 (g := (mkF m 30 #[sR b_, sI 2, sR a6, su, su] [(.ref b_)])) rfl rfl (dc d11_30)
  obtain ⟨T26, h26, cA26, X26, e26, E26, A26, J26, st26⟩ := newPE X24 hx hZ (ow 48 rfl) e24 (g := (mkF m 36 #[sR b_, sI 2, sR a6, su, su] [(.int 2)])) rfl (dc d11_36) rfl (by decide) (cap := 2) (by decide) (by decide) (by decide) (by decide) (ad := "[J") (by decide)
  obtain ⟨a26, g26⟩ : ∃ z, z = h6.size := ⟨_, rfl⟩
  rw [← g26] at A26 J26 st26
  have M26 : h0.size ≤ a26 := Nat.le_trans K23.1 (Nat.le_of_eq g26.symm)
  have C29 := C9.ext E26
  have C30 := (p3.ext E6).ext E26
  have C31 := (p4.ext E6).ext E26
  have C35 := C15.ext E26
  have C36 := (p9.ext E6).ext E26
  have C39 := B6.ext E26
  have ne40 := own_neG C7.lt g26
  have ne41 := own_neG C15.lt g26
  have ne44 := own_neG J6.lt g26
  have K46 := K23.ext E26
  have B26 : Arf Z h26 a26 .long Value.long 2 (fun _ => (0 : Int64)) := Arf.new A26 rfl
  have G26 : n0 ≤ a26 := Nat.le_trans Z22 (Nat.le_of_eq g26.symm)
  obtain ⟨T47, X47, e47, st47⟩ := getF X26 hx hZ hown (host := "") (Or.inl (ow 34 rfl)) Via.refl e26 C29 (g := (mkF m 45 #[sR b_, sI 2, sR a6, sR a26, sI 0] [(.ref b_), (.int 0)])) rfl rfl (dc d11_45)
  obtain ⟨T49, X49, e49, st49⟩ := getF X47 hx hZ hown (host := "") (Or.inl (ow 46 rfl)) Via.refl e47 C31 (g := (mkF m 53 #[sR b_, sI 2, sR a6, sR a26, sI 0] [(.ref b_)])) rfl rfl (dc d11_53)
  refine Goes.on (T' := T49) (g' := (mkF m 56 #[sR b_, sI 2, sR a6, sR a26, sI 0] [(.ref P_)])) (fun _ k => XS.istoreN X3.here hx rfl (dc d11_18) rfl (l' := #[sR b_, sI 2, su, su, su]) rfl (XS.aloadN X3.here hx rfl (dc d11_19) rfl rfl (st4 _ (aLenm X4 hx hZ e4 p8 (dc d11_23) (XS.iloadN X4.here hx rfl (dc d11_24) rfl (XS.imul X4.here hx rfl (dc d11_25) rfl (st6 _ (XS.astoreN X6.here hx rfl (dc d11_28) rfl rfl (l' := #[sR b_, sI 2, sR a6, su, su]) rfl (XS.aloadN X6.here hx rfl (dc d11_29) rfl rfl (st24 _ (aLenm X24 hx hZ e24 C15 (dc d11_33) (XS.iloadN X24.here hx rfl (dc d11_34) rfl (XS.imul X24.here hx rfl (dc d11_35) rfl (st26 _ (XS.astoreN X26.here hx rfl (dc d11_38) rfl rfl (l' := #[sR b_, sI 2, sR a6, sR a26, su]) rfl (XS.iconst X26.here hx rfl (dc d11_39) (XS.istore X26.here hx rfl (dc d11_40) rfl (l' := #[sR b_, sI 2, sR a6, sR a26, sI 0]) rfl (XS.iload X26.here hx rfl (dc d11_42) rfl (XS.aloadN X26.here hx rfl (dc d11_44) rfl rfl (st47 _ (aLenm X47 hx hZ e47 C35 (dc d11_48) (XS.icmpNo X47.here hx rfl (dc d11_49) rfl (XT.ii_ge_f (by decide)) (XS.aloadN X47.here hx rfl (dc d11_52) rfl rfl (st49 _ k)))))))))))))))))))))))) ?_
  obtain ⟨T50, X50, e50, st50⟩ := getF X49 hx hZ hown (host := "") (Or.inl (ow 44 rfl)) Via.refl e49 C30 (g := (mkF m 59 #[sR b_, sI 2, sR a6, sR a26, sI 0] [(.ref b_), (.int 0), (.ref P_)])) rfl rfl (dc d11_59)
  obtain ⟨T51, X51, e51, st51⟩ := getF X50 hx hZ hown (host := "") (Or.inl (ow 34 rfl)) Via.refl e50 C29 (g := (mkF m 69 #[sR b_, sI 2, sR a6, sR a26, sI 0] [(.ref b_), (.int 0), (.ref a6), (.int 0), (.ref P_)])) rfl rfl (dc d11_69)
  obtain ⟨T53, h53, L53, X53, e53, N53, K53, B53, st53⟩ := acG X51 hx hZ hown (ow 74 rfl) (ow 77 rfl) (ow 75 rfl) (ow 76 rfl) e51 C36 C39 rfl (fun _ => rfl) (sp' := 0) (dp' := 0) (len := (sz_ 0).toNatClampNeg) ⟨by decide, by decide⟩ ⟨by decide, by decide⟩ ⟨(hz 0 (by decide)).1, rfl⟩ (by have := (hz 0 (by decide)).2; omega) (by have := (hz 0 (by decide)).2; omega) (by decide) (by decide) N3 G6 (g := (mkF m 75 #[sR b_, sI 2, sR a6, sR a26, sI 0] [(.int (sz_ 0)), (.int 0), (.ref a6), (.int 0), (.ref P_)])) rfl (by rw [hml]; rfl) rfl (dc d11_75) (by decide) (W := 0) (own_le20 rfl) (by decide)
  have C56 := C29.keep K53 (ninS ne18 nin0)
  have C57 := C30.keep K53 (ninS ne18 nin0)
  have C59 := ((p5.ext E6).ext E26).keep K53 (ninS ne18 nin0)
  have C62 := C35.keep K53 (ninS ne19 nin0)
  have C64 := ((p10.ext E6).ext E26).keep K53 (ninS ne21 nin0)
  have C67 := B26.keep K53 (ninS ne44.symm nin0)
  have K69 := K46.trans K53 (allS (Or.inr M6) all0)
  obtain ⟨T70, X70, e70, st70⟩ := getF X53 hx hZ hown (host := "") (Or.inl (ow 49 rfl)) Via.refl e53 C59 (g := (mkF m 79 #[sR b_, sI 2, sR a6, sR a26, sI 0] [(.ref b_)])) rfl rfl (dc d11_79)
  obtain ⟨T71, X71, e71, st71⟩ := getF X70 hx hZ hown (host := "") (Or.inl (ow 44 rfl)) Via.refl e70 C57 (g := (mkF m 85 #[sR b_, sI 2, sR a6, sR a26, sI 0] [(.ref b_), (.int 0), (.ref I_)])) rfl rfl (dc d11_85)
  refine Goes.on (T' := T71) (g' := (mkF m 95 #[sR b_, sI 2, sR a6, sR a26, sI 0] [(.ref b_), (.int 0), (.ref a26), (.int 0), (.ref I_)])) (fun _ k => XS.iload X49.here hx rfl (dc d11_56) rfl (XS.aloadN X49.here hx rfl (dc d11_58) rfl rfl (st50 _ (XS.imul X50.here hx rfl (dc d11_62) rfl (XS.aloadN X50.here hx rfl (dc d11_63) rfl rfl (XS.iload X50.here hx rfl (dc d11_64) rfl (XS.iloadN X50.here hx rfl (dc d11_66) rfl (XS.imul X50.here hx rfl (dc d11_67) rfl (XS.aloadN X50.here hx rfl (dc d11_68) rfl rfl (st51 _ (XS.iload X51.here hx rfl (dc d11_72) rfl (ldIm X51 hx hZ e51 C35 (by decide) (dc d11_74) (st53 _ (XS.aloadN X53.here hx rfl (dc d11_78) rfl rfl (st70 _ (XS.iload X70.here hx rfl (dc d11_82) rfl (XS.aloadN X70.here hx rfl (dc d11_84) rfl rfl (st71 _ (XS.imul X71.here hx rfl (dc d11_88) rfl (XS.aloadN X71.here hx rfl (dc d11_89) rfl rfl (XS.iload X71.here hx rfl (dc d11_90) rfl (XS.iloadN X71.here hx rfl (dc d11_92) rfl (XS.imul X71.here hx rfl (dc d11_93) rfl (XS.aloadN X71.here hx rfl (dc d11_94) rfl rfl k)))))))))))))))))))))))) ?_
  obtain ⟨T72, X72, e72, st72⟩ := getF X71 hx hZ hown (host := "") (Or.inl (ow 34 rfl)) Via.refl e71 C56 (g := (mkF m 95 #[sR b_, sI 2, sR a6, sR a26, sI 0] [(.ref b_), (.int 0), (.ref a26), (.int 0), (.ref I_)])) rfl rfl (dc d11_95)
  obtain ⟨T74, h74, L74, X74, e74, N74, K74, B74, st74⟩ := acG X72 hx hZ hown (ow 74 rfl) (ow 77 rfl) (ow 75 rfl) (ow 76 rfl) e72 C64 C67 rfl (fun _ => rfl) (sp' := 0) (dp' := 0) (len := (sz_ 0).toNatClampNeg) ⟨by decide, by decide⟩ ⟨by decide, by decide⟩ ⟨(hz 0 (by decide)).1, rfl⟩ (by have := (hz 0 (by decide)).2; omega) (by have := (hz 0 (by decide)).2; omega) (by decide) (by decide) N53 G26 (g := (mkF m 101 #[sR b_, sI 2, sR a6, sR a26, sI 0] [(.int (sz_ 0)), (.int 0), (.ref a26), (.int 0), (.ref I_)])) rfl (by rw [hml]; rfl) rfl (dc d11_101) (by decide) (W := 0) (own_le20 rfl) (by decide)
  have C75 := ((C7.ext E26).keep K53).keep K74
  have C77 := C56.keep K74 (ninS ne40 nin0)
  have C78 := C57.keep K74 (ninS ne40 nin0)
  have C83 := C62.keep K74 (ninS ne41 nin0)
  have K90 := K69.trans K74 (allS (Or.inr M26) all0)
  obtain ⟨T91, X91, e91, st91⟩ := getF X74 hx hZ hown (host := "") (Or.inl (ow 34 rfl)) Via.refl e74 C77 (g := (mkF m 45 #[sR b_, sI 2, sR a6, sR a26, sI 1] [(.ref b_), (.int 1)])) rfl rfl (dc d11_45)
  obtain ⟨T93, h93, X93, e93, W93, st93⟩ := putF X91 hx hZ hown (host := "") (Or.inl (ow 44 rfl)) Via.refl e91 C78 C75 (Or.inl (ow 45 rfl)) (ow 1 rfl) (ty := .int) (by decide) rfl rfl (g := (mkF m 112 #[sR b_, sI 2, sR a6, sR a26, sI 1] [(.int 2), (.ref b_)])) rfl rfl (dc d11_112)
  have C94 := C75.wr W93
  have C98 := ((C31.keep K53 (ninS ne18 nin0)).keep K74 (ninS ne40 nin0)).other W93 (Or.inr (sn33 hw))
  have K110 := K90.wr W93 (Or.inl (List.mem_of_getElem? (i := 0) rfl))
  obtain ⟨T111, h111, X111, e111, W111, st111⟩ := putF X93 hx hZ hown (host := "") (Or.inl (ow 46 rfl)) Via.refl e93 C98 C94 (Or.inl (ow 47 rfl)) (ow 1 rfl) (ty := (.array .double)) (by decide) rfl rfl (g := (mkF m 117 #[sR b_, sI 2, sR a6, sR a26, sI 1] [(.ref a6), (.ref b_)])) rfl rfl (dc d11_117)
  have C112 := C94.wr W111
  have C117 := ((C59.keep K74 (ninS ne40 nin0)).other W93 (Or.inr (sn34 hw))).other W111 (Or.inr (sn40 hw))
  have K128 := K110.wr W111 (Or.inl (List.mem_of_getElem? (i := 0) rfl))
  obtain ⟨T129, h129, X129, e129, W129, st129⟩ := putF X111 hx hZ hown (host := "") (Or.inl (ow 49 rfl)) Via.refl e111 C117 C112 (Or.inl (ow 50 rfl)) (ow 1 rfl) (ty := (.array .long)) (by decide) rfl rfl (g := (mkF m 122 #[sR b_, sI 2, sR a6, sR a26, sI 1] [(.ref a26), (.ref b_)])) rfl rfl (dc d11_122)
  have N129 := Fr.snoc X129 (Fr.snoc X111 (Fr.snoc X93 N74 g0) g0) g0
  have C130 := C112.wr W129
  have C131 := ((((((p1.ext E6).ext E26).keep K53 (ninS ne18 nin0)).keep K74 (ninS ne40 nin0)).other W93 (Or.inr (sn36 hw))).other W111 (Or.inr (sn42 hw))).other W129 (Or.inr (sn48 hw))
  have C132 := ((C77.other W93 (Or.inr (sn37 hw))).other W111 (Or.inr (sn43 hw))).other W129 (Or.inr (sn49 hw))
  have C133 := ((C78.same W93).other W111 (Or.inr (sn39 hw))).other W129 (Or.inr (sn45 hw))
  have C134 := (C98.same W111).other W129 (Or.inr (sn46 hw))
  have C135 := C117.same W129
  have C136 := ((((((p6.ext E6).ext E26).keep K53 (ninS ne18 nin0)).keep K74 (ninS ne40 nin0)).other W93 (Or.inr (sn38 hw))).other W111 (Or.inr (sn44 hw))).other W129 (Or.inr (sn50 hw))
  have C137 := ((((((p7.ext E6).ext E26).keep K53 (ninS ne18 nin0)).keep K74 (ninS ne40 nin0)).other W93 (Or.inr (sn35 hw))).other W111 (Or.inr (sn41 hw))).other W129 (Or.inr (sn47 hw))
  have C141 := (((((J6.ext E26).keep K53).keep K74).wr W93).wr W111).wr W129
  have C142 := ((((J26.keep K53).keep K74).wr W93).wr W111).wr W129
  have C143 := (((B53.keep K74 (ninS ne44 nin0)).other W93 ne18.symm).other W111 ne18.symm).other W129 ne18.symm
  have C144 := ((B74.other W93 ne40.symm).other W111 ne40.symm).other W129 ne40.symm
  have K146 := K128.wr W129 (Or.inl (List.mem_of_getElem? (i := 0) rfl))
  refine Goes.on (T' := T129) (g' := (mkF m 125 #[sR b_, sI 2, sR a6, sR a26, sI 1] [])) (fun _ k => st72 _ (XS.iload X72.here hx rfl (dc d11_98) rfl (ldIm X72 hx hZ e72 C62 (by decide) (dc d11_100) (st74 _ (XT.iincV X74.here hx rfl (1 : Int32) (dc d11_104) (by decide) rfl (l' := #[sR b_, sI 2, sR a6, sR a26, sI 1]) rfl (XS.goto X74.here hx rfl (pc0 := 107) (pc' := 42) rfl (dc d11_107) (by decide) (by decide) (XS.iload X74.here hx rfl (dc d11_42) rfl (XS.aloadN X74.here hx rfl (dc d11_44) rfl rfl (st91 _ (aLenm X91 hx hZ e91 C83 (dc d11_48) (XS.icmpYes X91.here hx rfl (pc0 := 49) (pc' := 110) rfl (dc d11_49) rfl (XT.ii_ge_t (by decide)) (by decide) (by decide) (XS.aloadN X91.here hx rfl (dc d11_110) rfl rfl (XS.iloadN X91.here hx rfl (dc d11_111) rfl (st93 _ (XS.aloadN X93.here hx rfl (dc d11_115) rfl rfl (XS.aloadN X93.here hx rfl (dc d11_116) rfl rfl (st111 _ (XS.aloadN X111.here hx rfl (dc d11_120) rfl rfl (XS.aloadN X111.here hx rfl (dc d11_121) rfl rfl (st129 _ k)))))))))))))))))))) ?_
  exact Goes.retV X129 hx hlk hret (dc d11_125) (by decide) (by decide) (by rw [e129]; exact ⟨a6, a26, (Cp (fun _ => (dint 0)) pt_ 0 0 (sz_ 0).toNatClampNeg), (Cp (fun _ => (0 : Int64)) id_ 0 0 (sz_ 0).toNatClampNeg), rfl, N129, K146, C130, C131, C132, C133, C134, C135, C136, C137, C141, C143, C142, C144, M6, M26, ne44, own_gr1, own_gr1⟩)
theorem rmGr21 (l : Launch) (Z : State) (a0 : Array Value) (hw : TW Z a0) (b_ S_ T_ P_ I_ : Addr) (l_ q_ : Int32) (sz_ : Nat → Int32) (pt_ : Nat → DK) (id_ : Nat → Int64) (h0 : Heap) (n0 : Nat) (Z0 : n0 ≤ h0.size) (p0 : Exa Z h0 b_ "com/example/boceto/boceto/signature/ComponentBuffers") (p1 : Fld Z h0 b_ "com/example/boceto/boceto/signature/ComponentBuffers" "_bufferSize" "I" (.int l_)) (p2 : Fld Z h0 b_ "com/example/boceto/boceto/signature/ComponentBuffers" "_sizes" "[I" (.ref S_)) (p3 : Fld Z h0 b_ "com/example/boceto/boceto/signature/ComponentBuffers" "_capacity" "I" (.int (1 : Int32))) (p4 : Fld Z h0 b_ "com/example/boceto/boceto/signature/ComponentBuffers" "_points" "[D" (.ref P_)) (p5 : Fld Z h0 b_ "com/example/boceto/boceto/signature/ComponentBuffers" "_identities" "[J" (.ref I_)) (p6 : Fld Z h0 b_ "com/example/boceto/boceto/signature/ComponentBuffers" "_thresholds" "[D" (.ref T_)) (p7 : Fld Z h0 b_ "com/example/boceto/boceto/signature/ComponentBuffers" "_pointCount" "I" (.int q_)) (p8 : Arf Z h0 S_ .int Value.int 2 sz_) (p9 : Arf Z h0 P_ .double vD 2 pt_) (p10 : Arf Z h0 I_ .long Value.long 2 id_) (q0 : b_ ≠ S_) (q1 : b_ ≠ P_) (q2 : b_ ≠ I_) (g0 : n0 ≤ b_) (hl : l_ = (2 : Int32) ∨ l_ = (3 : Int32)) (hz : ∀ i, i < 2 → ¬ sz_ i < 0 ∧ (sz_ i).toNatClampNeg ≤ 1) :
    Pays l Z (⟨"com/example/boceto/boceto/signature/ComponentBuffers", "grow", "()V"⟩ : MethodName) prog_28_method_14_code 5 none [] ({ frames := 1, cells := 2, slots := 18, locals := 40 } : Room) #[(.ref b_)] h0 (fun v h L => ∃ (n0_ n1_ : Addr) (ptg_ : Nat → DK) (idg_ : Nat → Int64), v = none ∧ Fr n0 L ∧ Keep h0 h [b_] ∧ Exa Z h b_ "com/example/boceto/boceto/signature/ComponentBuffers" ∧ Fld Z h b_ "com/example/boceto/boceto/signature/ComponentBuffers" "_bufferSize" "I" (.int l_) ∧ Fld Z h b_ "com/example/boceto/boceto/signature/ComponentBuffers" "_sizes" "[I" (.ref S_) ∧ Fld Z h b_ "com/example/boceto/boceto/signature/ComponentBuffers" "_capacity" "I" (.int (2 : Int32)) ∧ Fld Z h b_ "com/example/boceto/boceto/signature/ComponentBuffers" "_points" "[D" (.ref n0_) ∧ Fld Z h b_ "com/example/boceto/boceto/signature/ComponentBuffers" "_identities" "[J" (.ref n1_) ∧ Fld Z h b_ "com/example/boceto/boceto/signature/ComponentBuffers" "_thresholds" "[D" (.ref T_) ∧ Fld Z h b_ "com/example/boceto/boceto/signature/ComponentBuffers" "_pointCount" "I" (.int q_) ∧ Exa Z h n0_ "[D" ∧ Arf Z h n0_ .double vD 4 ptg_ ∧ Exa Z h n1_ "[J" ∧ Arf Z h n1_ .long Value.long 4 idg_ ∧ h0.size ≤ n0_ ∧ h0.size ≤ n1_ ∧ n0_ ≠ n1_ ∧ own_gr 2 1 2 sz_ pt_ ptg_ ∧ own_gr 2 1 2 sz_ id_ idg_) := by
  refine Pays.walk (plainFor_of_name pn_3) (fun m => ef_5 m b_ ) ?_
  intro p e s m below meth c T0 X0 hx hby hml hown hnm hZ e0 hret hlk
  have dc := @Jvm.hb _ _ hby
  have ow := @own_w Z a0 hw
  have K0 := Keep.refl h0 [b_]
  obtain ⟨T1, X1, e1, st1⟩ := getF X0 hx hZ hown (host := "") (Or.inl (ow 44 rfl)) Via.refl e0 p3 (g := (mkF m 4 #[sR b_, su, su, su, su] [(.ref b_), (.long 2)])) rfl rfl (dc d11_4)
  obtain ⟨T2, X2, e2, st2⟩ := getF X1 hx hZ hown (host := "") (Or.inl (ow 31 rfl)) Via.refl e1 p1 (g := (mkF m 10 #[sR b_, su, su, su, su] [(.ref b_), (.long ((2 : Int64) * (1 : Int32).toInt64))])) rfl rfl (dc d11_10)
  refine Goes.on (T' := T2) (g' := (mkF m 14 #[sR b_, su, su, su, su] [(.long (l_.toInt64)), (.long ((2 : Int64) * (1 : Int32).toInt64))])) (fun _ k => X0.ldc2Long hx hown (mvT hZ (ow 84 rfl)) (g := (mkF m 0 #[sR b_, su, su, su, su] [])) rfl (dc d11_0) _ (XS.aloadN X0.here hx rfl (dc d11_3) rfl rfl (st1 _ (XS.i2l X1.here hx rfl (dc d11_7) rfl (XS.lmul X1.here hx rfl (dc d11_8) rfl (XS.aloadN X1.here hx rfl (dc d11_9) rfl rfl (st2 _ (XS.i2l X2.here hx rfl (dc d11_13) rfl k)))))))) ?_
  refine Goes.callS X2 hx hZ 0 hown (ow 85 rfl) (ow 86 rfl) (ow 87 rfl) (ow 88 rfl) (by decide) e2 (rmmin l Z a0 hw ((2 : Int64) * (1 : Int32).toInt64) (l_.toInt64) h0 n0 Z0) (by decide) (by decide) (by decide) (by decide) rfl (by rw [hml]; rfl) (argsL := [(.long ((2 : Int64) * (1 : Int32).toInt64)), (.long (l_.toInt64))]) (rest := []) rfl (lenOf pd_2 rfl) rfl (own_le20 rfl) (dc d11_14) ?_
  rintro v3 T3 L3 X3 ⟨rfl, N3q, e3⟩
  have N3 := Fr.app (Fr.nil n0) N3q
  show Goes p e below _ T3 (mkF m 17 #[sR b_, su, su, su, su] [(.long (Fmin ((2 : Int64) * (1 : Int32).toInt64) (l_.toInt64)))])
  refine Goes.on (T' := T3) (g' := (mkF m 18 #[sR b_, su, su, su, su] [(.int ((Fmin ((2 : Int64) * (1 : Int32).toInt64) (l_.toInt64)).toInt32))])) (fun _ k => XT.l2i X3.here hx rfl (dc d11_17) rfl k) ?_
  rw [show (Fmin ((2 : Int64) * (1 : Int32).toInt64) (l_.toInt64)).toInt32 = (2 : Int32) from by rcases hl with rfl | rfl <;> decide]
  obtain ⟨T4, X4, e4, st4⟩ := getF X3 hx hZ hown (host := "") (Or.inl (ow 34 rfl)) Via.refl e3 p2 (g := (mkF m 20 #[sR b_, sI 2, su, su, su] [(.ref b_)])) rfl rfl (dc d11_20)
  obtain ⟨T6, h6, cA6, X6, e6, E6, A6, J6, st6⟩ := newPE X4 hx hZ (ow 36 rfl) e4 (g := (mkF m 26 #[sR b_, sI 2, su, su, su] [(.int 4)])) rfl (dc d11_26) rfl (by decide) (cap := 4) (by decide) (by decide) (by decide) (by decide) (ad := "[D") (by decide)
  obtain ⟨a6, g6⟩ : ∃ z, z = h0.size := ⟨_, rfl⟩
  rw [← g6] at A6 J6 st6
  have M6 : h0.size ≤ a6 := Nat.le_trans K0.1 (Nat.le_of_eq g6.symm)
  have C7 := p0.ext E6
  have C9 := p2.ext E6
  have C15 := p8.ext E6
  have C16 := p9.ext E6
  have C17 := p10.ext E6
  have ne18 := own_neG p0.lt g6
  have ne19 := own_neG p8.lt g6
  have ne20 := own_neG p9.lt g6
  have ne21 := own_neG p10.lt g6
  have Z22 := Nat.le_trans Z0 E6.1
  have K23 := K0.ext E6
  have B6 : Arf Z h6 a6 .double vD 4 (fun _ => (dint 0)) := Arf.new A6 dv_zero
  have G6 : n0 ≤ a6 := Nat.le_trans Z0 (Nat.le_of_eq g6.symm)
  obtain ⟨T24, X24, e24, st24⟩ := getF X6 hx hZ hown (host := "") (Or.inl (ow 34 rfl)) Via.refl e6 C9 (g := (mkF m 30 #[sR b_, sI 2, sR a6, su, su] [(.ref b_)])) rfl rfl (dc d11_30)
  obtain ⟨T26, h26, cA26, X26, e26, E26, A26, J26, st26⟩ := newPE X24 hx hZ (ow 48 rfl) e24 (g := (mkF m 36 #[sR b_, sI 2, sR a6, su, su] [(.int 4)])) rfl (dc d11_36) rfl (by decide) (cap := 4) (by decide) (by decide) (by decide) (by decide) (ad := "[J") (by decide)
  obtain ⟨a26, g26⟩ : ∃ z, z = h6.size := ⟨_, rfl⟩
  rw [← g26] at A26 J26 st26
  have M26 : h0.size ≤ a26 := Nat.le_trans K23.1 (Nat.le_of_eq g26.symm)
  have C29 := C9.ext E26
  have C30 := (p3.ext E6).ext E26
  have C31 := (p4.ext E6).ext E26
  have C35 := C15.ext E26
  have C36 := C16.ext E26
  have C39 := B6.ext E26
  have ne40 := own_neG C7.lt g26
  have ne41 := own_neG C15.lt g26
  have ne42 := own_neG C16.lt g26
  have ne43 := own_neG C17.lt g26
  have ne44 := own_neG J6.lt g26
  have K46 := K23.ext E26
  have B26 : Arf Z h26 a26 .long Value.long 4 (fun _ => (0 : Int64)) := Arf.new A26 rfl
  have G26 : n0 ≤ a26 := Nat.le_trans Z22 (Nat.le_of_eq g26.symm)
  obtain ⟨T47, X47, e47, st47⟩ := getF X26 hx hZ hown (host := "") (Or.inl (ow 34 rfl)) Via.refl e26 C29 (g := (mkF m 45 #[sR b_, sI 2, sR a6, sR a26, sI 0] [(.ref b_), (.int 0)])) rfl rfl (dc d11_45)
  obtain ⟨T49, X49, e49, st49⟩ := getF X47 hx hZ hown (host := "") (Or.inl (ow 46 rfl)) Via.refl e47 C31 (g := (mkF m 53 #[sR b_, sI 2, sR a6, sR a26, sI 0] [(.ref b_)])) rfl rfl (dc d11_53)
  refine Goes.on (T' := T49) (g' := (mkF m 56 #[sR b_, sI 2, sR a6, sR a26, sI 0] [(.ref P_)])) (fun _ k => XS.istoreN X3.here hx rfl (dc d11_18) rfl (l' := #[sR b_, sI 2, su, su, su]) rfl (XS.aloadN X3.here hx rfl (dc d11_19) rfl rfl (st4 _ (aLenm X4 hx hZ e4 p8 (dc d11_23) (XS.iloadN X4.here hx rfl (dc d11_24) rfl (XS.imul X4.here hx rfl (dc d11_25) rfl (st6 _ (XS.astoreN X6.here hx rfl (dc d11_28) rfl rfl (l' := #[sR b_, sI 2, sR a6, su, su]) rfl (XS.aloadN X6.here hx rfl (dc d11_29) rfl rfl (st24 _ (aLenm X24 hx hZ e24 C15 (dc d11_33) (XS.iloadN X24.here hx rfl (dc d11_34) rfl (XS.imul X24.here hx rfl (dc d11_35) rfl (st26 _ (XS.astoreN X26.here hx rfl (dc d11_38) rfl rfl (l' := #[sR b_, sI 2, sR a6, sR a26, su]) rfl (XS.iconst X26.here hx rfl (dc d11_39) (XS.istore X26.here hx rfl (dc d11_40) rfl (l' := #[sR b_, sI 2, sR a6, sR a26, sI 0]) rfl (XS.iload X26.here hx rfl (dc d11_42) rfl (XS.aloadN X26.here hx rfl (dc d11_44) rfl rfl (st47 _ (aLenm X47 hx hZ e47 C35 (dc d11_48) (XS.icmpNo X47.here hx rfl (dc d11_49) rfl (XT.ii_ge_f (by decide)) (XS.aloadN X47.here hx rfl (dc d11_52) rfl rfl (st49 _ k)))))))))))))))))))))))) ?_
  obtain ⟨T50, X50, e50, st50⟩ := getF X49 hx hZ hown (host := "") (Or.inl (ow 44 rfl)) Via.refl e49 C30 (g := (mkF m 59 #[sR b_, sI 2, sR a6, sR a26, sI 0] [(.ref b_), (.int 0), (.ref P_)])) rfl rfl (dc d11_59)
  obtain ⟨T51, X51, e51, st51⟩ := getF X50 hx hZ hown (host := "") (Or.inl (ow 34 rfl)) Via.refl e50 C29 (g := (mkF m 69 #[sR b_, sI 2, sR a6, sR a26, sI 0] [(.ref b_), (.int 0), (.ref a6), (.int 0), (.ref P_)])) rfl rfl (dc d11_69)
  obtain ⟨T53, h53, L53, X53, e53, N53, K53, B53, st53⟩ := acG X51 hx hZ hown (ow 74 rfl) (ow 77 rfl) (ow 75 rfl) (ow 76 rfl) e51 C36 C39 rfl (fun _ => rfl) (sp' := 0) (dp' := 0) (len := (sz_ 0).toNatClampNeg) ⟨by decide, by decide⟩ ⟨by decide, by decide⟩ ⟨(hz 0 (by decide)).1, rfl⟩ (by have := (hz 0 (by decide)).2; omega) (by have := (hz 0 (by decide)).2; omega) (by decide) (by decide) N3 G6 (g := (mkF m 75 #[sR b_, sI 2, sR a6, sR a26, sI 0] [(.int (sz_ 0)), (.int 0), (.ref a6), (.int 0), (.ref P_)])) rfl (by rw [hml]; rfl) rfl (dc d11_75) (by decide) (W := 0) (own_le20 rfl) (by decide)
  have C56 := C29.keep K53 (ninS ne18 nin0)
  have C57 := C30.keep K53 (ninS ne18 nin0)
  have C59 := ((p5.ext E6).ext E26).keep K53 (ninS ne18 nin0)
  have C62 := C35.keep K53 (ninS ne19 nin0)
  have C64 := (C17.ext E26).keep K53 (ninS ne21 nin0)
  have C67 := B26.keep K53 (ninS ne44.symm nin0)
  have K69 := K46.trans K53 (allS (Or.inr M6) all0)
  obtain ⟨T70, X70, e70, st70⟩ := getF X53 hx hZ hown (host := "") (Or.inl (ow 49 rfl)) Via.refl e53 C59 (g := (mkF m 79 #[sR b_, sI 2, sR a6, sR a26, sI 0] [(.ref b_)])) rfl rfl (dc d11_79)
  obtain ⟨T71, X71, e71, st71⟩ := getF X70 hx hZ hown (host := "") (Or.inl (ow 44 rfl)) Via.refl e70 C57 (g := (mkF m 85 #[sR b_, sI 2, sR a6, sR a26, sI 0] [(.ref b_), (.int 0), (.ref I_)])) rfl rfl (dc d11_85)
  refine Goes.on (T' := T71) (g' := (mkF m 95 #[sR b_, sI 2, sR a6, sR a26, sI 0] [(.ref b_), (.int 0), (.ref a26), (.int 0), (.ref I_)])) (fun _ k => XS.iload X49.here hx rfl (dc d11_56) rfl (XS.aloadN X49.here hx rfl (dc d11_58) rfl rfl (st50 _ (XS.imul X50.here hx rfl (dc d11_62) rfl (XS.aloadN X50.here hx rfl (dc d11_63) rfl rfl (XS.iload X50.here hx rfl (dc d11_64) rfl (XS.iloadN X50.here hx rfl (dc d11_66) rfl (XS.imul X50.here hx rfl (dc d11_67) rfl (XS.aloadN X50.here hx rfl (dc d11_68) rfl rfl (st51 _ (XS.iload X51.here hx rfl (dc d11_72) rfl (ldIm X51 hx hZ e51 C35 (by decide) (dc d11_74) (st53 _ (XS.aloadN X53.here hx rfl (dc d11_78) rfl rfl (st70 _ (XS.iload X70.here hx rfl (dc d11_82) rfl (XS.aloadN X70.here hx rfl (dc d11_84) rfl rfl (st71 _ (XS.imul X71.here hx rfl (dc d11_88) rfl (XS.aloadN X71.here hx rfl (dc d11_89) rfl rfl (XS.iload X71.here hx rfl (dc d11_90) rfl (XS.iloadN X71.here hx rfl (dc d11_92) rfl (XS.imul X71.here hx rfl (dc d11_93) rfl (XS.aloadN X71.here hx rfl (dc d11_94) rfl rfl k)))))))))))))))))))))))) ?_
  obtain ⟨T72, X72, e72, st72⟩ := getF X71 hx hZ hown (host := "") (Or.inl (ow 34 rfl)) Via.refl e71 C56 (g := (mkF m 95 #[sR b_, sI 2, sR a6, sR a26, sI 0] [(.ref b_), (.int 0), (.ref a26), (.int 0), (.ref I_)])) rfl rfl (dc d11_95)
  obtain ⟨T74, h74, L74, X74, e74, N74, K74, B74, st74⟩ := acG X72 hx hZ hown (ow 74 rfl) (ow 77 rfl) (ow 75 rfl) (ow 76 rfl) e72 C64 C67 rfl (fun _ => rfl) (sp' := 0) (dp' := 0) (len := (sz_ 0).toNatClampNeg) ⟨by decide, by decide⟩ ⟨by decide, by decide⟩ ⟨(hz 0 (by decide)).1, rfl⟩ (by have := (hz 0 (by decide)).2; omega) (by have := (hz 0 (by decide)).2; omega) (by decide) (by decide) N53 G26 (g := (mkF m 101 #[sR b_, sI 2, sR a6, sR a26, sI 0] [(.int (sz_ 0)), (.int 0), (.ref a26), (.int 0), (.ref I_)])) rfl (by rw [hml]; rfl) rfl (dc d11_101) (by decide) (W := 0) (own_le20 rfl) (by decide)
  have C77 := C56.keep K74 (ninS ne40 nin0)
  have C78 := C57.keep K74 (ninS ne40 nin0)
  have C79 := (C31.keep K53 (ninS ne18 nin0)).keep K74 (ninS ne40 nin0)
  have C83 := C62.keep K74 (ninS ne41 nin0)
  have C84 := (C36.keep K53 (ninS ne20 nin0)).keep K74 (ninS ne42 nin0)
  have C88 := B53.keep K74 (ninS ne44 nin0)
  have K90 := K69.trans K74 (allS (Or.inr M26) all0)
  obtain ⟨T91, X91, e91, st91⟩ := getF X74 hx hZ hown (host := "") (Or.inl (ow 34 rfl)) Via.refl e74 C77 (g := (mkF m 45 #[sR b_, sI 2, sR a6, sR a26, sI 1] [(.ref b_), (.int 1)])) rfl rfl (dc d11_45)
  obtain ⟨T93, X93, e93, st93⟩ := getF X91 hx hZ hown (host := "") (Or.inl (ow 46 rfl)) Via.refl e91 C79 (g := (mkF m 53 #[sR b_, sI 2, sR a6, sR a26, sI 1] [(.ref b_)])) rfl rfl (dc d11_53)
  obtain ⟨T94, X94, e94, st94⟩ := getF X93 hx hZ hown (host := "") (Or.inl (ow 44 rfl)) Via.refl e93 C78 (g := (mkF m 59 #[sR b_, sI 2, sR a6, sR a26, sI 1] [(.ref b_), (.int 1), (.ref P_)])) rfl rfl (dc d11_59)
  obtain ⟨T95, X95, e95, st95⟩ := getF X94 hx hZ hown (host := "") (Or.inl (ow 34 rfl)) Via.refl e94 C77 (g := (mkF m 69 #[sR b_, sI 2, sR a6, sR a26, sI 1] [(.ref b_), (.int 2), (.ref a6), (.int 1), (.ref P_)])) rfl rfl (dc d11_69)
  refine Goes.on (T' := T95) (g' := (mkF m 74 #[sR b_, sI 2, sR a6, sR a26, sI 1] [(.int 1), (.ref S_), (.int 2), (.ref a6), (.int 1), (.ref P_)])) (fun _ k => st72 _ (XS.iload X72.here hx rfl (dc d11_98) rfl (ldIm X72 hx hZ e72 C62 (by decide) (dc d11_100) (st74 _ (XT.iincV X74.here hx rfl (1 : Int32) (dc d11_104) (by decide) rfl (l' := #[sR b_, sI 2, sR a6, sR a26, sI 1]) rfl (XS.goto X74.here hx rfl (pc0 := 107) (pc' := 42) rfl (dc d11_107) (by decide) (by decide) (XS.iload X74.here hx rfl (dc d11_42) rfl (XS.aloadN X74.here hx rfl (dc d11_44) rfl rfl (st91 _ (aLenm X91 hx hZ e91 C83 (dc d11_48) (XS.icmpNo X91.here hx rfl (dc d11_49) rfl (XT.ii_ge_f (by decide)) (XS.aloadN X91.here hx rfl (dc d11_52) rfl rfl (st93 _ (XS.iload X93.here hx rfl (dc d11_56) rfl (XS.aloadN X93.here hx rfl (dc d11_58) rfl rfl (st94 _ (XS.imul X94.here hx rfl (dc d11_62) rfl (XS.aloadN X94.here hx rfl (dc d11_63) rfl rfl (XS.iload X94.here hx rfl (dc d11_64) rfl (XS.iloadN X94.here hx rfl (dc d11_66) rfl (XS.imul X94.here hx rfl (dc d11_67) rfl (XS.aloadN X94.here hx rfl (dc d11_68) rfl rfl (st95 _ (XS.iload X95.here hx rfl (dc d11_72) rfl k)))))))))))))))))))))))) ?_
  obtain ⟨T97, h97, L97, X97, e97, N97, K97, B97, st97⟩ := acG X95 hx hZ hown (ow 74 rfl) (ow 77 rfl) (ow 75 rfl) (ow 76 rfl) e95 C84 C88 rfl (fun _ => rfl) (sp' := 1) (dp' := 2) (len := (sz_ 1).toNatClampNeg) ⟨by decide, by decide⟩ ⟨by decide, by decide⟩ ⟨(hz 1 (by decide)).1, rfl⟩ (by have := (hz 1 (by decide)).2; omega) (by have := (hz 1 (by decide)).2; omega) (by decide) (by decide) N74 G6 (g := (mkF m 75 #[sR b_, sI 2, sR a6, sR a26, sI 1] [(.int (sz_ 1)), (.int 2), (.ref a6), (.int 1), (.ref P_)])) rfl (by rw [hml]; rfl) rfl (dc d11_75) (by decide) (W := 0) (own_le20 rfl) (by decide)
  have C100 := C77.keep K97 (ninS ne18 nin0)
  have C101 := C78.keep K97 (ninS ne18 nin0)
  have C103 := (C59.keep K74 (ninS ne40 nin0)).keep K97 (ninS ne18 nin0)
  have C106 := C83.keep K97 (ninS ne19 nin0)
  have C108 := (C64.keep K74 (ninS ne43 nin0)).keep K97 (ninS ne21 nin0)
  have C111 := B74.keep K97 (ninS ne44.symm nin0)
  have K113 := K90.trans K97 (allS (Or.inr M6) all0)
  obtain ⟨T114, X114, e114, st114⟩ := getF X97 hx hZ hown (host := "") (Or.inl (ow 49 rfl)) Via.refl e97 C103 (g := (mkF m 79 #[sR b_, sI 2, sR a6, sR a26, sI 1] [(.ref b_)])) rfl rfl (dc d11_79)
  obtain ⟨T115, X115, e115, st115⟩ := getF X114 hx hZ hown (host := "") (Or.inl (ow 44 rfl)) Via.refl e114 C101 (g := (mkF m 85 #[sR b_, sI 2, sR a6, sR a26, sI 1] [(.ref b_), (.int 1), (.ref I_)])) rfl rfl (dc d11_85)
  obtain ⟨T116, X116, e116, st116⟩ := getF X115 hx hZ hown (host := "") (Or.inl (ow 34 rfl)) Via.refl e115 C100 (g := (mkF m 95 #[sR b_, sI 2, sR a6, sR a26, sI 1] [(.ref b_), (.int 2), (.ref a26), (.int 1), (.ref I_)])) rfl rfl (dc d11_95)
  obtain ⟨T118, h118, L118, X118, e118, N118, K118, B118, st118⟩ := acG X116 hx hZ hown (ow 74 rfl) (ow 77 rfl) (ow 75 rfl) (ow 76 rfl) e116 C108 C111 rfl (fun _ => rfl) (sp' := 1) (dp' := 2) (len := (sz_ 1).toNatClampNeg) ⟨by decide, by decide⟩ ⟨by decide, by decide⟩ ⟨(hz 1 (by decide)).1, rfl⟩ (by have := (hz 1 (by decide)).2; omega) (by have := (hz 1 (by decide)).2; omega) (by decide) (by decide) N97 G26 (g := (mkF m 101 #[sR b_, sI 2, sR a6, sR a26, sI 1] [(.int (sz_ 1)), (.int 2), (.ref a26), (.int 1), (.ref I_)])) rfl (by rw [hml]; rfl) rfl (dc d11_101) (by decide) (W := 0) (own_le20 rfl) (by decide)
  have C119 := ((((C7.ext E26).keep K53).keep K74).keep K97).keep K118
  have C121 := C100.keep K118 (ninS ne40 nin0)
  have C122 := C101.keep K118 (ninS ne40 nin0)
  have C127 := C106.keep K118 (ninS ne41 nin0)
  have K134 := K113.trans K118 (allS (Or.inr M26) all0)
  obtain ⟨T135, X135, e135, st135⟩ := getF X118 hx hZ hown (host := "") (Or.inl (ow 34 rfl)) Via.refl e118 C121 (g := (mkF m 45 #[sR b_, sI 2, sR a6, sR a26, sI 2] [(.ref b_), (.int 2)])) rfl rfl (dc d11_45)
  refine Goes.on (T' := T135) (g' := (mkF m 110 #[sR b_, sI 2, sR a6, sR a26, sI 2] [])) (fun _ k => ldIm X95 hx hZ e95 C83 (by decide) (dc d11_74) (st97 _ (XS.aloadN X97.here hx rfl (dc d11_78) rfl rfl (st114 _ (XS.iload X114.here hx rfl (dc d11_82) rfl (XS.aloadN X114.here hx rfl (dc d11_84) rfl rfl (st115 _ (XS.imul X115.here hx rfl (dc d11_88) rfl (XS.aloadN X115.here hx rfl (dc d11_89) rfl rfl (XS.iload X115.here hx rfl (dc d11_90) rfl (XS.iloadN X115.here hx rfl (dc d11_92) rfl (XS.imul X115.here hx rfl (dc d11_93) rfl (XS.aloadN X115.here hx rfl (dc d11_94) rfl rfl (st116 _ (XS.iload X116.here hx rfl (dc d11_98) rfl (ldIm X116 hx hZ e116 C106 (by decide) (dc d11_100) (st118 _ (XT.iincV X118.here hx rfl (1 : Int32) (dc d11_104) (by decide) rfl (l' := #[sR b_, sI 2, sR a6, sR a26, sI 2]) rfl (XS.goto X118.here hx rfl (pc0 := 107) (pc' := 42) rfl (dc d11_107) (by decide) (by decide) (XS.iload X118.here hx rfl (dc d11_42) rfl (XS.aloadN X118.here hx rfl (dc d11_44) rfl rfl (st135 _ (aLenm X135 hx hZ e135 C127 (dc d11_48) (XS.icmpYes X135.here hx rfl (pc0 := 49) (pc' := 110) rfl (dc d11_49) rfl (XT.ii_ge_t (by decide)) (by decide) (by decide) k)))))))))))))))))))))))) ?_
  obtain ⟨T137, h137, X137, e137, W137, st137⟩ := putF X135 hx hZ hown (host := "") (Or.inl (ow 44 rfl)) Via.refl e135 C122 C119 (Or.inl (ow 45 rfl)) (ow 1 rfl) (ty := .int) (by decide) rfl rfl (g := (mkF m 112 #[sR b_, sI 2, sR a6, sR a26, sI 2] [(.int 2), (.ref b_)])) rfl rfl (dc d11_112)
  have C138 := C119.wr W137
  have C142 := ((C79.keep K97 (ninS ne18 nin0)).keep K118 (ninS ne40 nin0)).other W137 (Or.inr (sn33 hw))
  have K154 := K134.wr W137 (Or.inl (List.mem_of_getElem? (i := 0) rfl))
  obtain ⟨T155, h155, X155, e155, W155, st155⟩ := putF X137 hx hZ hown (host := "") (Or.inl (ow 46 rfl)) Via.refl e137 C142 C138 (Or.inl (ow 47 rfl)) (ow 1 rfl) (ty := (.array .double)) (by decide) rfl rfl (g := (mkF m 117 #[sR b_, sI 2, sR a6, sR a26, sI 2] [(.ref a6), (.ref b_)])) rfl rfl (dc d11_117)
  have C156 := C138.wr W155
  have C161 := ((C103.keep K118 (ninS ne40 nin0)).other W137 (Or.inr (sn34 hw))).other W155 (Or.inr (sn40 hw))
  have K172 := K154.wr W155 (Or.inl (List.mem_of_getElem? (i := 0) rfl))
  obtain ⟨T173, h173, X173, e173, W173, st173⟩ := putF X155 hx hZ hown (host := "") (Or.inl (ow 49 rfl)) Via.refl e155 C161 C156 (Or.inl (ow 50 rfl)) (ow 1 rfl) (ty := (.array .long)) (by decide) rfl rfl (g := (mkF m 122 #[sR b_, sI 2, sR a6, sR a26, sI 2] [(.ref a26), (.ref b_)])) rfl rfl (dc d11_122)
  have N173 := Fr.snoc X173 (Fr.snoc X155 (Fr.snoc X137 N118 g0) g0) g0
  have C174 := C156.wr W173
  have C175 := ((((((((p1.ext E6).ext E26).keep K53 (ninS ne18 nin0)).keep K74 (ninS ne40 nin0)).keep K97 (ninS ne18 nin0)).keep K118 (ninS ne40 nin0)).other W137 (Or.inr (sn36 hw))).other W155 (Or.inr (sn42 hw))).other W173 (Or.inr (sn48 hw))
  have C176 := ((C121.other W137 (Or.inr (sn37 hw))).other W155 (Or.inr (sn43 hw))).other W173 (Or.inr (sn49 hw))
  have C177 := ((C122.same W137).other W155 (Or.inr (sn39 hw))).other W173 (Or.inr (sn45 hw))
  have C178 := (C142.same W155).other W173 (Or.inr (sn46 hw))
  have C179 := C161.same W173
  have C180 := ((((((((p6.ext E6).ext E26).keep K53 (ninS ne18 nin0)).keep K74 (ninS ne40 nin0)).keep K97 (ninS ne18 nin0)).keep K118 (ninS ne40 nin0)).other W137 (Or.inr (sn38 hw))).other W155 (Or.inr (sn44 hw))).other W173 (Or.inr (sn50 hw))
  have C181 := ((((((((p7.ext E6).ext E26).keep K53 (ninS ne18 nin0)).keep K74 (ninS ne40 nin0)).keep K97 (ninS ne18 nin0)).keep K118 (ninS ne40 nin0)).other W137 (Or.inr (sn35 hw))).other W155 (Or.inr (sn41 hw))).other W173 (Or.inr (sn47 hw))
  have C185 := (((((((J6.ext E26).keep K53).keep K74).keep K97).keep K118).wr W137).wr W155).wr W173
  have C186 := ((((((J26.keep K53).keep K74).keep K97).keep K118).wr W137).wr W155).wr W173
  have C187 := (((B97.keep K118 (ninS ne44 nin0)).other W137 ne18.symm).other W155 ne18.symm).other W173 ne18.symm
  have C188 := ((B118.other W137 ne40.symm).other W155 ne40.symm).other W173 ne40.symm
  have K190 := K172.wr W173 (Or.inl (List.mem_of_getElem? (i := 0) rfl))
  refine Goes.on (T' := T173) (g' := (mkF m 125 #[sR b_, sI 2, sR a6, sR a26, sI 2] [])) (fun _ k => XS.aloadN X135.here hx rfl (dc d11_110) rfl rfl (XS.iloadN X135.here hx rfl (dc d11_111) rfl (st137 _ (XS.aloadN X137.here hx rfl (dc d11_115) rfl rfl (XS.aloadN X137.here hx rfl (dc d11_116) rfl rfl (st155 _ (XS.aloadN X155.here hx rfl (dc d11_120) rfl rfl (XS.aloadN X155.here hx rfl (dc d11_121) rfl rfl (st173 _ k))))))))) ?_
  exact Goes.retV X173 hx hlk hret (dc d11_125) (by decide) (by decide) (by rw [e173]; exact ⟨a6, a26, (Cp (Cp (fun _ => (dint 0)) pt_ 0 0 (sz_ 0).toNatClampNeg) pt_ 1 2 (sz_ 1).toNatClampNeg), (Cp (Cp (fun _ => (0 : Int64)) id_ 0 0 (sz_ 0).toNatClampNeg) id_ 1 2 (sz_ 1).toNatClampNeg), rfl, N173, K190, C174, C175, C176, C177, C178, C179, C180, C181, C185, C187, C186, C188, M6, M26, ne44, (own_gr2 (by decide) (fun i hi => (hz i hi).2)), (own_gr2 (by decide) (fun i hi => (hz i hi).2))⟩)
theorem rmGr31 (l : Launch) (Z : State) (a0 : Array Value) (hw : TW Z a0) (b_ S_ T_ P_ I_ : Addr) (l_ q_ : Int32) (sz_ : Nat → Int32) (pt_ : Nat → DK) (id_ : Nat → Int64) (h0 : Heap) (n0 : Nat) (Z0 : n0 ≤ h0.size) (p0 : Exa Z h0 b_ "com/example/boceto/boceto/signature/ComponentBuffers") (p1 : Fld Z h0 b_ "com/example/boceto/boceto/signature/ComponentBuffers" "_bufferSize" "I" (.int l_)) (p2 : Fld Z h0 b_ "com/example/boceto/boceto/signature/ComponentBuffers" "_sizes" "[I" (.ref S_)) (p3 : Fld Z h0 b_ "com/example/boceto/boceto/signature/ComponentBuffers" "_capacity" "I" (.int (1 : Int32))) (p4 : Fld Z h0 b_ "com/example/boceto/boceto/signature/ComponentBuffers" "_points" "[D" (.ref P_)) (p5 : Fld Z h0 b_ "com/example/boceto/boceto/signature/ComponentBuffers" "_identities" "[J" (.ref I_)) (p6 : Fld Z h0 b_ "com/example/boceto/boceto/signature/ComponentBuffers" "_thresholds" "[D" (.ref T_)) (p7 : Fld Z h0 b_ "com/example/boceto/boceto/signature/ComponentBuffers" "_pointCount" "I" (.int q_)) (p8 : Arf Z h0 S_ .int Value.int 3 sz_) (p9 : Arf Z h0 P_ .double vD 3 pt_) (p10 : Arf Z h0 I_ .long Value.long 3 id_) (q0 : b_ ≠ S_) (q1 : b_ ≠ P_) (q2 : b_ ≠ I_) (g0 : n0 ≤ b_) (hl : l_ = (2 : Int32) ∨ l_ = (3 : Int32)) (hz : ∀ i, i < 3 → ¬ sz_ i < 0 ∧ (sz_ i).toNatClampNeg ≤ 1) :
    Pays l Z (⟨"com/example/boceto/boceto/signature/ComponentBuffers", "grow", "()V"⟩ : MethodName) prog_28_method_14_code 5 none [] ({ frames := 1, cells := 2, slots := 18, locals := 40 } : Room) #[(.ref b_)] h0 (fun v h L => ∃ (n0_ n1_ : Addr) (ptg_ : Nat → DK) (idg_ : Nat → Int64), v = none ∧ Fr n0 L ∧ Keep h0 h [b_] ∧ Exa Z h b_ "com/example/boceto/boceto/signature/ComponentBuffers" ∧ Fld Z h b_ "com/example/boceto/boceto/signature/ComponentBuffers" "_bufferSize" "I" (.int l_) ∧ Fld Z h b_ "com/example/boceto/boceto/signature/ComponentBuffers" "_sizes" "[I" (.ref S_) ∧ Fld Z h b_ "com/example/boceto/boceto/signature/ComponentBuffers" "_capacity" "I" (.int (2 : Int32)) ∧ Fld Z h b_ "com/example/boceto/boceto/signature/ComponentBuffers" "_points" "[D" (.ref n0_) ∧ Fld Z h b_ "com/example/boceto/boceto/signature/ComponentBuffers" "_identities" "[J" (.ref n1_) ∧ Fld Z h b_ "com/example/boceto/boceto/signature/ComponentBuffers" "_thresholds" "[D" (.ref T_) ∧ Fld Z h b_ "com/example/boceto/boceto/signature/ComponentBuffers" "_pointCount" "I" (.int q_) ∧ Exa Z h n0_ "[D" ∧ Arf Z h n0_ .double vD 6 ptg_ ∧ Exa Z h n1_ "[J" ∧ Arf Z h n1_ .long Value.long 6 idg_ ∧ h0.size ≤ n0_ ∧ h0.size ≤ n1_ ∧ n0_ ≠ n1_ ∧ own_gr 3 1 2 sz_ pt_ ptg_ ∧ own_gr 3 1 2 sz_ id_ idg_) := by
  refine Pays.walk (plainFor_of_name pn_3) (fun m => ef_5 m b_ ) ?_
  intro p e s m below meth c T0 X0 hx hby hml hown hnm hZ e0 hret hlk
  have dc := @Jvm.hb _ _ hby
  have ow := @own_w Z a0 hw
  have K0 := Keep.refl h0 [b_]
  obtain ⟨T1, X1, e1, st1⟩ := getF X0 hx hZ hown (host := "") (Or.inl (ow 44 rfl)) Via.refl e0 p3 (g := (mkF m 4 #[sR b_, su, su, su, su] [(.ref b_), (.long 2)])) rfl rfl (dc d11_4)
  obtain ⟨T2, X2, e2, st2⟩ := getF X1 hx hZ hown (host := "") (Or.inl (ow 31 rfl)) Via.refl e1 p1 (g := (mkF m 10 #[sR b_, su, su, su, su] [(.ref b_), (.long ((2 : Int64) * (1 : Int32).toInt64))])) rfl rfl (dc d11_10)
  refine Goes.on (T' := T2) (g' := (mkF m 14 #[sR b_, su, su, su, su] [(.long (l_.toInt64)), (.long ((2 : Int64) * (1 : Int32).toInt64))])) (fun _ k => X0.ldc2Long hx hown (mvT hZ (ow 84 rfl)) (g := (mkF m 0 #[sR b_, su, su, su, su] [])) rfl (dc d11_0) _ (XS.aloadN X0.here hx rfl (dc d11_3) rfl rfl (st1 _ (XS.i2l X1.here hx rfl (dc d11_7) rfl (XS.lmul X1.here hx rfl (dc d11_8) rfl (XS.aloadN X1.here hx rfl (dc d11_9) rfl rfl (st2 _ (XS.i2l X2.here hx rfl (dc d11_13) rfl k)))))))) ?_
  refine Goes.callS X2 hx hZ 0 hown (ow 85 rfl) (ow 86 rfl) (ow 87 rfl) (ow 88 rfl) (by decide) e2 (rmmin l Z a0 hw ((2 : Int64) * (1 : Int32).toInt64) (l_.toInt64) h0 n0 Z0) (by decide) (by decide) (by decide) (by decide) rfl (by rw [hml]; rfl) (argsL := [(.long ((2 : Int64) * (1 : Int32).toInt64)), (.long (l_.toInt64))]) (rest := []) rfl (lenOf pd_2 rfl) rfl (own_le20 rfl) (dc d11_14) ?_
  rintro v3 T3 L3 X3 ⟨rfl, N3q, e3⟩
  have N3 := Fr.app (Fr.nil n0) N3q
  show Goes p e below _ T3 (mkF m 17 #[sR b_, su, su, su, su] [(.long (Fmin ((2 : Int64) * (1 : Int32).toInt64) (l_.toInt64)))])
  refine Goes.on (T' := T3) (g' := (mkF m 18 #[sR b_, su, su, su, su] [(.int ((Fmin ((2 : Int64) * (1 : Int32).toInt64) (l_.toInt64)).toInt32))])) (fun _ k => XT.l2i X3.here hx rfl (dc d11_17) rfl k) ?_
  rw [show (Fmin ((2 : Int64) * (1 : Int32).toInt64) (l_.toInt64)).toInt32 = (2 : Int32) from by rcases hl with rfl | rfl <;> decide]
  obtain ⟨T4, X4, e4, st4⟩ := getF X3 hx hZ hown (host := "") (Or.inl (ow 34 rfl)) Via.refl e3 p2 (g := (mkF m 20 #[sR b_, sI 2, su, su, su] [(.ref b_)])) rfl rfl (dc d11_20)
  obtain ⟨T6, h6, cA6, X6, e6, E6, A6, J6, st6⟩ := newPE X4 hx hZ (ow 36 rfl) e4 (g := (mkF m 26 #[sR b_, sI 2, su, su, su] [(.int 6)])) rfl (dc d11_26) rfl (by decide) (cap := 6) (by decide) (by decide) (by decide) (by decide) (ad := "[D") (by decide)
  obtain ⟨a6, g6⟩ : ∃ z, z = h0.size := ⟨_, rfl⟩
  rw [← g6] at A6 J6 st6
  have M6 : h0.size ≤ a6 := Nat.le_trans K0.1 (Nat.le_of_eq g6.symm)
  have C7 := p0.ext E6
  have C9 := p2.ext E6
  have C15 := p8.ext E6
  have C16 := p9.ext E6
  have C17 := p10.ext E6
  have ne18 := own_neG p0.lt g6
  have ne19 := own_neG p8.lt g6
  have ne20 := own_neG p9.lt g6
  have ne21 := own_neG p10.lt g6
  have Z22 := Nat.le_trans Z0 E6.1
  have K23 := K0.ext E6
  have B6 : Arf Z h6 a6 .double vD 6 (fun _ => (dint 0)) := Arf.new A6 dv_zero
  have G6 : n0 ≤ a6 := Nat.le_trans Z0 (Nat.le_of_eq g6.symm)
  obtain ⟨T24, X24, e24, st24⟩ := getF X6 hx hZ hown (host := "") (Or.inl (ow 34 rfl)) Via.refl e6 C9 (g := (mkF m 30 #[sR b_, sI 2, sR a6, su, su] [(.ref b_)])) rfl rfl (dc d11_30)
  obtain ⟨T26, h26, cA26, X26, e26, E26, A26, J26, st26⟩ := newPE X24 hx hZ (ow 48 rfl) e24 (g := (mkF m 36 #[sR b_, sI 2, sR a6, su, su] [(.int 6)])) rfl (dc d11_36) rfl (by decide) (cap := 6) (by decide) (by decide) (by decide) (by decide) (ad := "[J") (by decide)
  obtain ⟨a26, g26⟩ : ∃ z, z = h6.size := ⟨_, rfl⟩
  rw [← g26] at A26 J26 st26
  have M26 : h0.size ≤ a26 := Nat.le_trans K23.1 (Nat.le_of_eq g26.symm)
  have C29 := C9.ext E26
  have C30 := (p3.ext E6).ext E26
  have C31 := (p4.ext E6).ext E26
  have C35 := C15.ext E26
  have C36 := C16.ext E26
  have C39 := B6.ext E26
  have ne40 := own_neG C7.lt g26
  have ne41 := own_neG C15.lt g26
  have ne42 := own_neG C16.lt g26
  have ne43 := own_neG C17.lt g26
  have ne44 := own_neG J6.lt g26
  have K46 := K23.ext E26
  have B26 : Arf Z h26 a26 .long Value.long 6 (fun _ => (0 : Int64)) := Arf.new A26 rfl
  have G26 : n0 ≤ a26 := Nat.le_trans Z22 (Nat.le_of_eq g26.symm)
  obtain ⟨T47, X47, e47, st47⟩ := getF X26 hx hZ hown (host := "") (Or.inl (ow 34 rfl)) Via.refl e26 C29 (g := (mkF m 45 #[sR b_, sI 2, sR a6, sR a26, sI 0] [(.ref b_), (.int 0)])) rfl rfl (dc d11_45)
  obtain ⟨T49, X49, e49, st49⟩ := getF X47 hx hZ hown (host := "") (Or.inl (ow 46 rfl)) Via.refl e47 C31 (g := (mkF m 53 #[sR b_, sI 2, sR a6, sR a26, sI 0] [(.ref b_)])) rfl rfl (dc d11_53)
  refine Goes.on (T' := T49) (g' := (mkF m 56 #[sR b_, sI 2, sR a6, sR a26, sI 0] [(.ref P_)])) (fun _ k => XS.istoreN X3.here hx rfl (dc d11_18) rfl (l' := #[sR b_, sI 2, su, su, su]) rfl (XS.aloadN X3.here hx rfl (dc d11_19) rfl rfl (st4 _ (aLenm X4 hx hZ e4 p8 (dc d11_23) (XS.iloadN X4.here hx rfl (dc d11_24) rfl (XS.imul X4.here hx rfl (dc d11_25) rfl (st6 _ (XS.astoreN X6.here hx rfl (dc d11_28) rfl rfl (l' := #[sR b_, sI 2, sR a6, su, su]) rfl (XS.aloadN X6.here hx rfl (dc d11_29) rfl rfl (st24 _ (aLenm X24 hx hZ e24 C15 (dc d11_33) (XS.iloadN X24.here hx rfl (dc d11_34) rfl (XS.imul X24.here hx rfl (dc d11_35) rfl (st26 _ (XS.astoreN X26.here hx rfl (dc d11_38) rfl rfl (l' := #[sR b_, sI 2, sR a6, sR a26, su]) rfl (XS.iconst X26.here hx rfl (dc d11_39) (XS.istore X26.here hx rfl (dc d11_40) rfl (l' := #[sR b_, sI 2, sR a6, sR a26, sI 0]) rfl (XS.iload X26.here hx rfl (dc d11_42) rfl (XS.aloadN X26.here hx rfl (dc d11_44) rfl rfl (st47 _ (aLenm X47 hx hZ e47 C35 (dc d11_48) (XS.icmpNo X47.here hx rfl (dc d11_49) rfl (XT.ii_ge_f (by decide)) (XS.aloadN X47.here hx rfl (dc d11_52) rfl rfl (st49 _ k)))))))))))))))))))))))) ?_
  obtain ⟨T50, X50, e50, st50⟩ := getF X49 hx hZ hown (host := "") (Or.inl (ow 44 rfl)) Via.refl e49 C30 (g := (mkF m 59 #[sR b_, sI 2, sR a6, sR a26, sI 0] [(.ref b_), (.int 0), (.ref P_)])) rfl rfl (dc d11_59)
  obtain ⟨T51, X51, e51, st51⟩ := getF X50 hx hZ hown (host := "") (Or.inl (ow 34 rfl)) Via.refl e50 C29 (g := (mkF m 69 #[sR b_, sI 2, sR a6, sR a26, sI 0] [(.ref b_), (.int 0), (.ref a6), (.int 0), (.ref P_)])) rfl rfl (dc d11_69)
  obtain ⟨T53, h53, L53, X53, e53, N53, K53, B53, st53⟩ := acG X51 hx hZ hown (ow 74 rfl) (ow 77 rfl) (ow 75 rfl) (ow 76 rfl) e51 C36 C39 rfl (fun _ => rfl) (sp' := 0) (dp' := 0) (len := (sz_ 0).toNatClampNeg) ⟨by decide, by decide⟩ ⟨by decide, by decide⟩ ⟨(hz 0 (by decide)).1, rfl⟩ (by have := (hz 0 (by decide)).2; omega) (by have := (hz 0 (by decide)).2; omega) (by decide) (by decide) N3 G6 (g := (mkF m 75 #[sR b_, sI 2, sR a6, sR a26, sI 0] [(.int (sz_ 0)), (.int 0), (.ref a6), (.int 0), (.ref P_)])) rfl (by rw [hml]; rfl) rfl (dc d11_75) (by decide) (W := 0) (own_le20 rfl) (by decide)
  have C56 := C29.keep K53 (ninS ne18 nin0)
  have C57 := C30.keep K53 (ninS ne18 nin0)
  have C59 := ((p5.ext E6).ext E26).keep K53 (ninS ne18 nin0)
  have C62 := C35.keep K53 (ninS ne19 nin0)
  have C64 := (C17.ext E26).keep K53 (ninS ne21 nin0)
  have C67 := B26.keep K53 (ninS ne44.symm nin0)
  have K69 := K46.trans K53 (allS (Or.inr M6) all0)
  obtain ⟨T70, X70, e70, st70⟩ := getF X53 hx hZ hown (host := "") (Or.inl (ow 49 rfl)) Via.refl e53 C59 (g := (mkF m 79 #[sR b_, sI 2, sR a6, sR a26, sI 0] [(.ref b_)])) rfl rfl (dc d11_79)
  obtain ⟨T71, X71, e71, st71⟩ := getF X70 hx hZ hown (host := "") (Or.inl (ow 44 rfl)) Via.refl e70 C57 (g := (mkF m 85 #[sR b_, sI 2, sR a6, sR a26, sI 0] [(.ref b_), (.int 0), (.ref I_)])) rfl rfl (dc d11_85)
  refine Goes.on (T' := T71) (g' := (mkF m 95 #[sR b_, sI 2, sR a6, sR a26, sI 0] [(.ref b_), (.int 0), (.ref a26), (.int 0), (.ref I_)])) (fun _ k => XS.iload X49.here hx rfl (dc d11_56) rfl (XS.aloadN X49.here hx rfl (dc d11_58) rfl rfl (st50 _ (XS.imul X50.here hx rfl (dc d11_62) rfl (XS.aloadN X50.here hx rfl (dc d11_63) rfl rfl (XS.iload X50.here hx rfl (dc d11_64) rfl (XS.iloadN X50.here hx rfl (dc d11_66) rfl (XS.imul X50.here hx rfl (dc d11_67) rfl (XS.aloadN X50.here hx rfl (dc d11_68) rfl rfl (st51 _ (XS.iload X51.here hx rfl (dc d11_72) rfl (ldIm X51 hx hZ e51 C35 (by decide) (dc d11_74) (st53 _ (XS.aloadN X53.here hx rfl (dc d11_78) rfl rfl (st70 _ (XS.iload X70.here hx rfl (dc d11_82) rfl (XS.aloadN X70.here hx rfl (dc d11_84) rfl rfl (st71 _ (XS.imul X71.here hx rfl (dc d11_88) rfl (XS.aloadN X71.here hx rfl (dc d11_89) rfl rfl (XS.iload X71.here hx rfl (dc d11_90) rfl (XS.iloadN X71.here hx rfl (dc d11_92) rfl (XS.imul X71.here hx rfl (dc d11_93) rfl (XS.aloadN X71.here hx rfl (dc d11_94) rfl rfl k)))))))))))))))))))))))) ?_
  obtain ⟨T72, X72, e72, st72⟩ := getF X71 hx hZ hown (host := "") (Or.inl (ow 34 rfl)) Via.refl e71 C56 (g := (mkF m 95 #[sR b_, sI 2, sR a6, sR a26, sI 0] [(.ref b_), (.int 0), (.ref a26), (.int 0), (.ref I_)])) rfl rfl (dc d11_95)
  obtain ⟨T74, h74, L74, X74, e74, N74, K74, B74, st74⟩ := acG X72 hx hZ hown (ow 74 rfl) (ow 77 rfl) (ow 75 rfl) (ow 76 rfl) e72 C64 C67 rfl (fun _ => rfl) (sp' := 0) (dp' := 0) (len := (sz_ 0).toNatClampNeg) ⟨by decide, by decide⟩ ⟨by decide, by decide⟩ ⟨(hz 0 (by decide)).1, rfl⟩ (by have := (hz 0 (by decide)).2; omega) (by have := (hz 0 (by decide)).2; omega) (by decide) (by decide) N53 G26 (g := (mkF m 101 #[sR b_, sI 2, sR a6, sR a26, sI 0] [(.int (sz_ 0)), (.int 0), (.ref a26), (.int 0), (.ref I_)])) rfl (by rw [hml]; rfl) rfl (dc d11_101) (by decide) (W := 0) (own_le20 rfl) (by decide)
  have C77 := C56.keep K74 (ninS ne40 nin0)
  have C78 := C57.keep K74 (ninS ne40 nin0)
  have C79 := (C31.keep K53 (ninS ne18 nin0)).keep K74 (ninS ne40 nin0)
  have C83 := C62.keep K74 (ninS ne41 nin0)
  have C84 := (C36.keep K53 (ninS ne20 nin0)).keep K74 (ninS ne42 nin0)
  have C88 := B53.keep K74 (ninS ne44 nin0)
  have K90 := K69.trans K74 (allS (Or.inr M26) all0)
  obtain ⟨T91, X91, e91, st91⟩ := getF X74 hx hZ hown (host := "") (Or.inl (ow 34 rfl)) Via.refl e74 C77 (g := (mkF m 45 #[sR b_, sI 2, sR a6, sR a26, sI 1] [(.ref b_), (.int 1)])) rfl rfl (dc d11_45)
  obtain ⟨T93, X93, e93, st93⟩ := getF X91 hx hZ hown (host := "") (Or.inl (ow 46 rfl)) Via.refl e91 C79 (g := (mkF m 53 #[sR b_, sI 2, sR a6, sR a26, sI 1] [(.ref b_)])) rfl rfl (dc d11_53)
  obtain ⟨T94, X94, e94, st94⟩ := getF X93 hx hZ hown (host := "") (Or.inl (ow 44 rfl)) Via.refl e93 C78 (g := (mkF m 59 #[sR b_, sI 2, sR a6, sR a26, sI 1] [(.ref b_), (.int 1), (.ref P_)])) rfl rfl (dc d11_59)
  obtain ⟨T95, X95, e95, st95⟩ := getF X94 hx hZ hown (host := "") (Or.inl (ow 34 rfl)) Via.refl e94 C77 (g := (mkF m 69 #[sR b_, sI 2, sR a6, sR a26, sI 1] [(.ref b_), (.int 2), (.ref a6), (.int 1), (.ref P_)])) rfl rfl (dc d11_69)
  refine Goes.on (T' := T95) (g' := (mkF m 74 #[sR b_, sI 2, sR a6, sR a26, sI 1] [(.int 1), (.ref S_), (.int 2), (.ref a6), (.int 1), (.ref P_)])) (fun _ k => st72 _ (XS.iload X72.here hx rfl (dc d11_98) rfl (ldIm X72 hx hZ e72 C62 (by decide) (dc d11_100) (st74 _ (XT.iincV X74.here hx rfl (1 : Int32) (dc d11_104) (by decide) rfl (l' := #[sR b_, sI 2, sR a6, sR a26, sI 1]) rfl (XS.goto X74.here hx rfl (pc0 := 107) (pc' := 42) rfl (dc d11_107) (by decide) (by decide) (XS.iload X74.here hx rfl (dc d11_42) rfl (XS.aloadN X74.here hx rfl (dc d11_44) rfl rfl (st91 _ (aLenm X91 hx hZ e91 C83 (dc d11_48) (XS.icmpNo X91.here hx rfl (dc d11_49) rfl (XT.ii_ge_f (by decide)) (XS.aloadN X91.here hx rfl (dc d11_52) rfl rfl (st93 _ (XS.iload X93.here hx rfl (dc d11_56) rfl (XS.aloadN X93.here hx rfl (dc d11_58) rfl rfl (st94 _ (XS.imul X94.here hx rfl (dc d11_62) rfl (XS.aloadN X94.here hx rfl (dc d11_63) rfl rfl (XS.iload X94.here hx rfl (dc d11_64) rfl (XS.iloadN X94.here hx rfl (dc d11_66) rfl (XS.imul X94.here hx rfl (dc d11_67) rfl (XS.aloadN X94.here hx rfl (dc d11_68) rfl rfl (st95 _ (XS.iload X95.here hx rfl (dc d11_72) rfl k)))))))))))))))))))))))) ?_
  obtain ⟨T97, h97, L97, X97, e97, N97, K97, B97, st97⟩ := acG X95 hx hZ hown (ow 74 rfl) (ow 77 rfl) (ow 75 rfl) (ow 76 rfl) e95 C84 C88 rfl (fun _ => rfl) (sp' := 1) (dp' := 2) (len := (sz_ 1).toNatClampNeg) ⟨by decide, by decide⟩ ⟨by decide, by decide⟩ ⟨(hz 1 (by decide)).1, rfl⟩ (by have := (hz 1 (by decide)).2; omega) (by have := (hz 1 (by decide)).2; omega) (by decide) (by decide) N74 G6 (g := (mkF m 75 #[sR b_, sI 2, sR a6, sR a26, sI 1] [(.int (sz_ 1)), (.int 2), (.ref a6), (.int 1), (.ref P_)])) rfl (by rw [hml]; rfl) rfl (dc d11_75) (by decide) (W := 0) (own_le20 rfl) (by decide)
  have C100 := C77.keep K97 (ninS ne18 nin0)
  have C101 := C78.keep K97 (ninS ne18 nin0)
  have C103 := (C59.keep K74 (ninS ne40 nin0)).keep K97 (ninS ne18 nin0)
  have C106 := C83.keep K97 (ninS ne19 nin0)
  have C108 := (C64.keep K74 (ninS ne43 nin0)).keep K97 (ninS ne21 nin0)
  have C111 := B74.keep K97 (ninS ne44.symm nin0)
  have K113 := K90.trans K97 (allS (Or.inr M6) all0)
  obtain ⟨T114, X114, e114, st114⟩ := getF X97 hx hZ hown (host := "") (Or.inl (ow 49 rfl)) Via.refl e97 C103 (g := (mkF m 79 #[sR b_, sI 2, sR a6, sR a26, sI 1] [(.ref b_)])) rfl rfl (dc d11_79)
  obtain ⟨T115, X115, e115, st115⟩ := getF X114 hx hZ hown (host := "") (Or.inl (ow 44 rfl)) Via.refl e114 C101 (g := (mkF m 85 #[sR b_, sI 2, sR a6, sR a26, sI 1] [(.ref b_), (.int 1), (.ref I_)])) rfl rfl (dc d11_85)
  obtain ⟨T116, X116, e116, st116⟩ := getF X115 hx hZ hown (host := "") (Or.inl (ow 34 rfl)) Via.refl e115 C100 (g := (mkF m 95 #[sR b_, sI 2, sR a6, sR a26, sI 1] [(.ref b_), (.int 2), (.ref a26), (.int 1), (.ref I_)])) rfl rfl (dc d11_95)
  obtain ⟨T118, h118, L118, X118, e118, N118, K118, B118, st118⟩ := acG X116 hx hZ hown (ow 74 rfl) (ow 77 rfl) (ow 75 rfl) (ow 76 rfl) e116 C108 C111 rfl (fun _ => rfl) (sp' := 1) (dp' := 2) (len := (sz_ 1).toNatClampNeg) ⟨by decide, by decide⟩ ⟨by decide, by decide⟩ ⟨(hz 1 (by decide)).1, rfl⟩ (by have := (hz 1 (by decide)).2; omega) (by have := (hz 1 (by decide)).2; omega) (by decide) (by decide) N97 G26 (g := (mkF m 101 #[sR b_, sI 2, sR a6, sR a26, sI 1] [(.int (sz_ 1)), (.int 2), (.ref a26), (.int 1), (.ref I_)])) rfl (by rw [hml]; rfl) rfl (dc d11_101) (by decide) (W := 0) (own_le20 rfl) (by decide)
  have C121 := C100.keep K118 (ninS ne40 nin0)
  have C122 := C101.keep K118 (ninS ne40 nin0)
  have C123 := (C79.keep K97 (ninS ne18 nin0)).keep K118 (ninS ne40 nin0)
  have C127 := C106.keep K118 (ninS ne41 nin0)
  have C128 := (C84.keep K97 (ninS ne20 nin0)).keep K118 (ninS ne42 nin0)
  have C132 := B97.keep K118 (ninS ne44 nin0)
  have K134 := K113.trans K118 (allS (Or.inr M26) all0)
  obtain ⟨T135, X135, e135, st135⟩ := getF X118 hx hZ hown (host := "") (Or.inl (ow 34 rfl)) Via.refl e118 C121 (g := (mkF m 45 #[sR b_, sI 2, sR a6, sR a26, sI 2] [(.ref b_), (.int 2)])) rfl rfl (dc d11_45)
  refine Goes.on (T' := T135) (g' := (mkF m 52 #[sR b_, sI 2, sR a6, sR a26, sI 2] [])) (fun _ k => ldIm X95 hx hZ e95 C83 (by decide) (dc d11_74) (st97 _ (XS.aloadN X97.here hx rfl (dc d11_78) rfl rfl (st114 _ (XS.iload X114.here hx rfl (dc d11_82) rfl (XS.aloadN X114.here hx rfl (dc d11_84) rfl rfl (st115 _ (XS.imul X115.here hx rfl (dc d11_88) rfl (XS.aloadN X115.here hx rfl (dc d11_89) rfl rfl (XS.iload X115.here hx rfl (dc d11_90) rfl (XS.iloadN X115.here hx rfl (dc d11_92) rfl (XS.imul X115.here hx rfl (dc d11_93) rfl (XS.aloadN X115.here hx rfl (dc d11_94) rfl rfl (st116 _ (XS.iload X116.here hx rfl (dc d11_98) rfl (ldIm X116 hx hZ e116 C106 (by decide) (dc d11_100) (st118 _ (XT.iincV X118.here hx rfl (1 : Int32) (dc d11_104) (by decide) rfl (l' := #[sR b_, sI 2, sR a6, sR a26, sI 2]) rfl (XS.goto X118.here hx rfl (pc0 := 107) (pc' := 42) rfl (dc d11_107) (by decide) (by decide) (XS.iload X118.here hx rfl (dc d11_42) rfl (XS.aloadN X118.here hx rfl (dc d11_44) rfl rfl (st135 _ (aLenm X135 hx hZ e135 C127 (dc d11_48) (XS.icmpNo X135.here hx rfl (dc d11_49) rfl (XT.ii_ge_f (by decide)) k)))))))))))))))))))))))) ?_
  obtain ⟨T137, X137, e137, st137⟩ := getF X135 hx hZ hown (host := "") (Or.inl (ow 46 rfl)) Via.refl e135 C123 (g := (mkF m 53 #[sR b_, sI 2, sR a6, sR a26, sI 2] [(.ref b_)])) rfl rfl (dc d11_53)
  obtain ⟨T138, X138, e138, st138⟩ := getF X137 hx hZ hown (host := "") (Or.inl (ow 44 rfl)) Via.refl e137 C122 (g := (mkF m 59 #[sR b_, sI 2, sR a6, sR a26, sI 2] [(.ref b_), (.int 2), (.ref P_)])) rfl rfl (dc d11_59)
  obtain ⟨T139, X139, e139, st139⟩ := getF X138 hx hZ hown (host := "") (Or.inl (ow 34 rfl)) Via.refl e138 C121 (g := (mkF m 69 #[sR b_, sI 2, sR a6, sR a26, sI 2] [(.ref b_), (.int 4), (.ref a6), (.int 2), (.ref P_)])) rfl rfl (dc d11_69)
  obtain ⟨T141, h141, L141, X141, e141, N141, K141, B141, st141⟩ := acG X139 hx hZ hown (ow 74 rfl) (ow 77 rfl) (ow 75 rfl) (ow 76 rfl) e139 C128 C132 rfl (fun _ => rfl) (sp' := 2) (dp' := 4) (len := (sz_ 2).toNatClampNeg) ⟨by decide, by decide⟩ ⟨by decide, by decide⟩ ⟨(hz 2 (by decide)).1, rfl⟩ (by have := (hz 2 (by decide)).2; omega) (by have := (hz 2 (by decide)).2; omega) (by decide) (by decide) N118 G6 (g := (mkF m 75 #[sR b_, sI 2, sR a6, sR a26, sI 2] [(.int (sz_ 2)), (.int 4), (.ref a6), (.int 2), (.ref P_)])) rfl (by rw [hml]; rfl) rfl (dc d11_75) (by decide) (W := 0) (own_le20 rfl) (by decide)
  have C144 := C121.keep K141 (ninS ne18 nin0)
  have C145 := C122.keep K141 (ninS ne18 nin0)
  have C147 := (C103.keep K118 (ninS ne40 nin0)).keep K141 (ninS ne18 nin0)
  have C150 := C127.keep K141 (ninS ne19 nin0)
  have C152 := (C108.keep K118 (ninS ne43 nin0)).keep K141 (ninS ne21 nin0)
  have C155 := B118.keep K141 (ninS ne44.symm nin0)
  have K157 := K134.trans K141 (allS (Or.inr M6) all0)
  obtain ⟨T158, X158, e158, st158⟩ := getF X141 hx hZ hown (host := "") (Or.inl (ow 49 rfl)) Via.refl e141 C147 (g := (mkF m 79 #[sR b_, sI 2, sR a6, sR a26, sI 2] [(.ref b_)])) rfl rfl (dc d11_79)
  obtain ⟨T159, X159, e159, st159⟩ := getF X158 hx hZ hown (host := "") (Or.inl (ow 44 rfl)) Via.refl e158 C145 (g := (mkF m 85 #[sR b_, sI 2, sR a6, sR a26, sI 2] [(.ref b_), (.int 2), (.ref I_)])) rfl rfl (dc d11_85)
  refine Goes.on (T' := T159) (g' := (mkF m 93 #[sR b_, sI 2, sR a6, sR a26, sI 2] [(.int 2), (.int 2), (.ref a26), (.int 2), (.ref I_)])) (fun _ k => XS.aloadN X135.here hx rfl (dc d11_52) rfl rfl (st137 _ (XS.iload X137.here hx rfl (dc d11_56) rfl (XS.aloadN X137.here hx rfl (dc d11_58) rfl rfl (st138 _ (XS.imul X138.here hx rfl (dc d11_62) rfl (XS.aloadN X138.here hx rfl (dc d11_63) rfl rfl (XS.iload X138.here hx rfl (dc d11_64) rfl (XS.iloadN X138.here hx rfl (dc d11_66) rfl (XS.imul X138.here hx rfl (dc d11_67) rfl (XS.aloadN X138.here hx rfl (dc d11_68) rfl rfl (st139 _ (XS.iload X139.here hx rfl (dc d11_72) rfl (ldIm X139 hx hZ e139 C127 (by decide) (dc d11_74) (st141 _ (XS.aloadN X141.here hx rfl (dc d11_78) rfl rfl (st158 _ (XS.iload X158.here hx rfl (dc d11_82) rfl (XS.aloadN X158.here hx rfl (dc d11_84) rfl rfl (st159 _ (XS.imul X159.here hx rfl (dc d11_88) rfl (XS.aloadN X159.here hx rfl (dc d11_89) rfl rfl (XS.iload X159.here hx rfl (dc d11_90) rfl (XS.iloadN X159.here hx rfl (dc d11_92) rfl k)))))))))))))))))))))))) ?_
  obtain ⟨T160, X160, e160, st160⟩ := getF X159 hx hZ hown (host := "") (Or.inl (ow 34 rfl)) Via.refl e159 C144 (g := (mkF m 95 #[sR b_, sI 2, sR a6, sR a26, sI 2] [(.ref b_), (.int 4), (.ref a26), (.int 2), (.ref I_)])) rfl rfl (dc d11_95)
  obtain ⟨T162, h162, L162, X162, e162, N162, K162, B162, st162⟩ := acG X160 hx hZ hown (ow 74 rfl) (ow 77 rfl) (ow 75 rfl) (ow 76 rfl) e160 C152 C155 rfl (fun _ => rfl) (sp' := 2) (dp' := 4) (len := (sz_ 2).toNatClampNeg) ⟨by decide, by decide⟩ ⟨by decide, by decide⟩ ⟨(hz 2 (by decide)).1, rfl⟩ (by have := (hz 2 (by decide)).2; omega) (by have := (hz 2 (by decide)).2; omega) (by decide) (by decide) N141 G26 (g := (mkF m 101 #[sR b_, sI 2, sR a6, sR a26, sI 2] [(.int (sz_ 2)), (.int 4), (.ref a26), (.int 2), (.ref I_)])) rfl (by rw [hml]; rfl) rfl (dc d11_101) (by decide) (W := 0) (own_le20 rfl) (by decide)
  have C163 := ((((((C7.ext E26).keep K53).keep K74).keep K97).keep K118).keep K141).keep K162
  have C165 := C144.keep K162 (ninS ne40 nin0)
  have C166 := C145.keep K162 (ninS ne40 nin0)
  have C171 := C150.keep K162 (ninS ne41 nin0)
  have K178 := K157.trans K162 (allS (Or.inr M26) all0)
  obtain ⟨T179, X179, e179, st179⟩ := getF X162 hx hZ hown (host := "") (Or.inl (ow 34 rfl)) Via.refl e162 C165 (g := (mkF m 45 #[sR b_, sI 2, sR a6, sR a26, sI 3] [(.ref b_), (.int 3)])) rfl rfl (dc d11_45)
  obtain ⟨T181, h181, X181, e181, W181, st181⟩ := putF X179 hx hZ hown (host := "") (Or.inl (ow 44 rfl)) Via.refl e179 C166 C163 (Or.inl (ow 45 rfl)) (ow 1 rfl) (ty := .int) (by decide) rfl rfl (g := (mkF m 112 #[sR b_, sI 2, sR a6, sR a26, sI 3] [(.int 2), (.ref b_)])) rfl rfl (dc d11_112)
  have C182 := C163.wr W181
  have C186 := ((C123.keep K141 (ninS ne18 nin0)).keep K162 (ninS ne40 nin0)).other W181 (Or.inr (sn33 hw))
  have K198 := K178.wr W181 (Or.inl (List.mem_of_getElem? (i := 0) rfl))
  obtain ⟨T199, h199, X199, e199, W199, st199⟩ := putF X181 hx hZ hown (host := "") (Or.inl (ow 46 rfl)) Via.refl e181 C186 C182 (Or.inl (ow 47 rfl)) (ow 1 rfl) (ty := (.array .double)) (by decide) rfl rfl (g := (mkF m 117 #[sR b_, sI 2, sR a6, sR a26, sI 3] [(.ref a6), (.ref b_)])) rfl rfl (dc d11_117)
  have C200 := C182.wr W199
  have C205 := ((C147.keep K162 (ninS ne40 nin0)).other W181 (Or.inr (sn34 hw))).other W199 (Or.inr (sn40 hw))
  have K216 := K198.wr W199 (Or.inl (List.mem_of_getElem? (i := 0) rfl))
  obtain ⟨T217, h217, X217, e217, W217, st217⟩ := putF X199 hx hZ hown (host := "") (Or.inl (ow 49 rfl)) Via.refl e199 C205 C200 (Or.inl (ow 50 rfl)) (ow 1 rfl) (ty := (.array .long)) (by decide) rfl rfl (g := (mkF m 122 #[sR b_, sI 2, sR a6, sR a26, sI 3] [(.ref a26), (.ref b_)])) rfl rfl (dc d11_122)
  have N217 := Fr.snoc X217 (Fr.snoc X199 (Fr.snoc X181 N162 g0) g0) g0
  have C218 := C200.wr W217
  have C219 := ((((((((((p1.ext E6).ext E26).keep K53 (ninS ne18 nin0)).keep K74 (ninS ne40 nin0)).keep K97 (ninS ne18 nin0)).keep K118 (ninS ne40 nin0)).keep K141 (ninS ne18 nin0)).keep K162 (ninS ne40 nin0)).other W181 (Or.inr (sn36 hw))).other W199 (Or.inr (sn42 hw))).other W217 (Or.inr (sn48 hw))
  have C220 := ((C165.other W181 (Or.inr (sn37 hw))).other W199 (Or.inr (sn43 hw))).other W217 (Or.inr (sn49 hw))
  have C221 := ((C166.same W181).other W199 (Or.inr (sn39 hw))).other W217 (Or.inr (sn45 hw))
  have C222 := (C186.same W199).other W217 (Or.inr (sn46 hw))
  have C223 := C205.same W217
  have C224 := ((((((((((p6.ext E6).ext E26).keep K53 (ninS ne18 nin0)).keep K74 (ninS ne40 nin0)).keep K97 (ninS ne18 nin0)).keep K118 (ninS ne40 nin0)).keep K141 (ninS ne18 nin0)).keep K162 (ninS ne40 nin0)).other W181 (Or.inr (sn38 hw))).other W199 (Or.inr (sn44 hw))).other W217 (Or.inr (sn50 hw))
  have C225 := ((((((((((p7.ext E6).ext E26).keep K53 (ninS ne18 nin0)).keep K74 (ninS ne40 nin0)).keep K97 (ninS ne18 nin0)).keep K118 (ninS ne40 nin0)).keep K141 (ninS ne18 nin0)).keep K162 (ninS ne40 nin0)).other W181 (Or.inr (sn35 hw))).other W199 (Or.inr (sn41 hw))).other W217 (Or.inr (sn47 hw))
  have C229 := (((((((((J6.ext E26).keep K53).keep K74).keep K97).keep K118).keep K141).keep K162).wr W181).wr W199).wr W217
  have C230 := ((((((((J26.keep K53).keep K74).keep K97).keep K118).keep K141).keep K162).wr W181).wr W199).wr W217
  have C231 := (((B141.keep K162 (ninS ne44 nin0)).other W181 ne18.symm).other W199 ne18.symm).other W217 ne18.symm
  have C232 := ((B162.other W181 ne40.symm).other W199 ne40.symm).other W217 ne40.symm
  have K234 := K216.wr W217 (Or.inl (List.mem_of_getElem? (i := 0) rfl))
  refine Goes.on (T' := T217) (g' := (mkF m 125 #[sR b_, sI 2, sR a6, sR a26, sI 3] [])) (fun _ k => XS.imul X159.here hx rfl (dc d11_93) rfl (XS.aloadN X159.here hx rfl (dc d11_94) rfl rfl (st160 _ (XS.iload X160.here hx rfl (dc d11_98) rfl (ldIm X160 hx hZ e160 C150 (by decide) (dc d11_100) (st162 _ (XT.iincV X162.here hx rfl (1 : Int32) (dc d11_104) (by decide) rfl (l' := #[sR b_, sI 2, sR a6, sR a26, sI 3]) rfl (XS.goto X162.here hx rfl (pc0 := 107) (pc' := 42) rfl (dc d11_107) (by decide) (by decide) (XS.iload X162.here hx rfl (dc d11_42) rfl (XS.aloadN X162.here hx rfl (dc d11_44) rfl rfl (st179 _ (aLenm X179 hx hZ e179 C171 (dc d11_48) (XS.icmpYes X179.here hx rfl (pc0 := 49) (pc' := 110) rfl (dc d11_49) rfl (XT.ii_ge_t (by decide)) (by decide) (by decide) (XS.aloadN X179.here hx rfl (dc d11_110) rfl rfl (XS.iloadN X179.here hx rfl (dc d11_111) rfl (st181 _ (XS.aloadN X181.here hx rfl (dc d11_115) rfl rfl (XS.aloadN X181.here hx rfl (dc d11_116) rfl rfl (st199 _ (XS.aloadN X199.here hx rfl (dc d11_120) rfl rfl (XS.aloadN X199.here hx rfl (dc d11_121) rfl rfl (st217 _ k)))))))))))))))))))))) ?_
  exact Goes.retV X217 hx hlk hret (dc d11_125) (by decide) (by decide) (by rw [e217]; exact ⟨a6, a26, (Cp (Cp (Cp (fun _ => (dint 0)) pt_ 0 0 (sz_ 0).toNatClampNeg) pt_ 1 2 (sz_ 1).toNatClampNeg) pt_ 2 4 (sz_ 2).toNatClampNeg), (Cp (Cp (Cp (fun _ => (0 : Int64)) id_ 0 0 (sz_ 0).toNatClampNeg) id_ 1 2 (sz_ 1).toNatClampNeg) id_ 2 4 (sz_ 2).toNatClampNeg), rfl, N217, K234, C218, C219, C220, C221, C222, C223, C224, C225, C229, C231, C230, C232, M6, M26, ne44, (own_gr3 (by decide) (fun i hi => (hz i hi).2)), (own_gr3 (by decide) (fun i hi => (hz i hi).2))⟩)
theorem rmGr1 (l : Launch) (Z : State) (a0 : Array Value) (hw : TW Z a0) (M_ : Nat) (b_ S_ T_ P_ I_ : Addr) (l_ q_ : Int32) (sz_ : Nat → Int32) (pt_ : Nat → DK) (id_ : Nat → Int64) (h0 : Heap) (n0 : Nat) (Z0 : n0 ≤ h0.size) (p0 : Exa Z h0 b_ "com/example/boceto/boceto/signature/ComponentBuffers") (p1 : Fld Z h0 b_ "com/example/boceto/boceto/signature/ComponentBuffers" "_bufferSize" "I" (.int l_)) (p2 : Fld Z h0 b_ "com/example/boceto/boceto/signature/ComponentBuffers" "_sizes" "[I" (.ref S_)) (p3 : Fld Z h0 b_ "com/example/boceto/boceto/signature/ComponentBuffers" "_capacity" "I" (.int (1 : Int32))) (p4 : Fld Z h0 b_ "com/example/boceto/boceto/signature/ComponentBuffers" "_points" "[D" (.ref P_)) (p5 : Fld Z h0 b_ "com/example/boceto/boceto/signature/ComponentBuffers" "_identities" "[J" (.ref I_)) (p6 : Fld Z h0 b_ "com/example/boceto/boceto/signature/ComponentBuffers" "_thresholds" "[D" (.ref T_)) (p7 : Fld Z h0 b_ "com/example/boceto/boceto/signature/ComponentBuffers" "_pointCount" "I" (.int q_)) (p8 : Arf Z h0 S_ .int Value.int M_ sz_) (p9 : Arf Z h0 P_ .double vD (M_ * 1) pt_) (p10 : Arf Z h0 I_ .long Value.long (M_ * 1) id_) (q0 : b_ ≠ S_) (q1 : b_ ≠ P_) (q2 : b_ ≠ I_) (g0 : n0 ≤ b_) (hl : l_ = (2 : Int32) ∨ l_ = (3 : Int32)) (hz : ∀ i, i < M_ → ¬ sz_ i < 0 ∧ (sz_ i).toNatClampNeg ≤ 1) (hM : M_ = 1 ∨ M_ = 2 ∨ M_ = 3) :
    Pays l Z (⟨"com/example/boceto/boceto/signature/ComponentBuffers", "grow", "()V"⟩ : MethodName) prog_28_method_14_code 5 none [] ({ frames := 1, cells := 2, slots := 18, locals := 40 } : Room) #[(.ref b_)] h0 (fun v h L => ∃ (n0_ n1_ : Addr) (ptg_ : Nat → DK) (idg_ : Nat → Int64), v = none ∧ Fr n0 L ∧ Keep h0 h [b_] ∧ Exa Z h b_ "com/example/boceto/boceto/signature/ComponentBuffers" ∧ Fld Z h b_ "com/example/boceto/boceto/signature/ComponentBuffers" "_bufferSize" "I" (.int l_) ∧ Fld Z h b_ "com/example/boceto/boceto/signature/ComponentBuffers" "_sizes" "[I" (.ref S_) ∧ Fld Z h b_ "com/example/boceto/boceto/signature/ComponentBuffers" "_capacity" "I" (.int (2 : Int32)) ∧ Fld Z h b_ "com/example/boceto/boceto/signature/ComponentBuffers" "_points" "[D" (.ref n0_) ∧ Fld Z h b_ "com/example/boceto/boceto/signature/ComponentBuffers" "_identities" "[J" (.ref n1_) ∧ Fld Z h b_ "com/example/boceto/boceto/signature/ComponentBuffers" "_thresholds" "[D" (.ref T_) ∧ Fld Z h b_ "com/example/boceto/boceto/signature/ComponentBuffers" "_pointCount" "I" (.int q_) ∧ Exa Z h n0_ "[D" ∧ Arf Z h n0_ .double vD (M_ * 2) ptg_ ∧ Exa Z h n1_ "[J" ∧ Arf Z h n1_ .long Value.long (M_ * 2) idg_ ∧ h0.size ≤ n0_ ∧ h0.size ≤ n1_ ∧ n0_ ≠ n1_ ∧ own_gr M_ 1 2 sz_ pt_ ptg_ ∧ own_gr M_ 1 2 sz_ id_ idg_) := by
  rcases hM with rfl | rfl | rfl
  · exact rmGr11 l Z a0 hw b_ S_ T_ P_ I_ l_ q_ sz_ pt_ id_ h0 n0 Z0 p0 p1 p2 p3 p4 p5 p6 p7 p8 p9 p10 q0 q1 q2 g0 hl hz
  · exact rmGr21 l Z a0 hw b_ S_ T_ P_ I_ l_ q_ sz_ pt_ id_ h0 n0 Z0 p0 p1 p2 p3 p4 p5 p6 p7 p8 p9 p10 q0 q1 q2 g0 hl hz
  · exact rmGr31 l Z a0 hw b_ S_ T_ P_ I_ l_ q_ sz_ pt_ id_ h0 n0 Z0 p0 p1 p2 p3 p4 p5 p6 p7 p8 p9 p10 q0 q1 q2 g0 hl hz
theorem rmGr12 (l : Launch) (Z : State) (a0 : Array Value) (hw : TW Z a0) (b_ S_ T_ P_ I_ : Addr) (l_ q_ : Int32) (sz_ : Nat → Int32) (pt_ : Nat → DK) (id_ : Nat → Int64) (h0 : Heap) (n0 : Nat) (Z0 : n0 ≤ h0.size) (p0 : Exa Z h0 b_ "com/example/boceto/boceto/signature/ComponentBuffers") (p1 : Fld Z h0 b_ "com/example/boceto/boceto/signature/ComponentBuffers" "_bufferSize" "I" (.int l_)) (p2 : Fld Z h0 b_ "com/example/boceto/boceto/signature/ComponentBuffers" "_sizes" "[I" (.ref S_)) (p3 : Fld Z h0 b_ "com/example/boceto/boceto/signature/ComponentBuffers" "_capacity" "I" (.int (2 : Int32))) (p4 : Fld Z h0 b_ "com/example/boceto/boceto/signature/ComponentBuffers" "_points" "[D" (.ref P_)) (p5 : Fld Z h0 b_ "com/example/boceto/boceto/signature/ComponentBuffers" "_identities" "[J" (.ref I_)) (p6 : Fld Z h0 b_ "com/example/boceto/boceto/signature/ComponentBuffers" "_thresholds" "[D" (.ref T_)) (p7 : Fld Z h0 b_ "com/example/boceto/boceto/signature/ComponentBuffers" "_pointCount" "I" (.int q_)) (p8 : Arf Z h0 S_ .int Value.int 1 sz_) (p9 : Arf Z h0 P_ .double vD 2 pt_) (p10 : Arf Z h0 I_ .long Value.long 2 id_) (q0 : b_ ≠ S_) (q1 : b_ ≠ P_) (q2 : b_ ≠ I_) (g0 : n0 ≤ b_) (hl : l_ = (3 : Int32)) (hz : ∀ i, i < 1 → ¬ sz_ i < 0 ∧ (sz_ i).toNatClampNeg ≤ 2) :
    Pays l Z (⟨"com/example/boceto/boceto/signature/ComponentBuffers", "grow", "()V"⟩ : MethodName) prog_28_method_14_code 5 none [] ({ frames := 1, cells := 2, slots := 18, locals := 40 } : Room) #[(.ref b_)] h0 (fun v h L => ∃ (n0_ n1_ : Addr) (ptg_ : Nat → DK) (idg_ : Nat → Int64), v = none ∧ Fr n0 L ∧ Keep h0 h [b_] ∧ Exa Z h b_ "com/example/boceto/boceto/signature/ComponentBuffers" ∧ Fld Z h b_ "com/example/boceto/boceto/signature/ComponentBuffers" "_bufferSize" "I" (.int l_) ∧ Fld Z h b_ "com/example/boceto/boceto/signature/ComponentBuffers" "_sizes" "[I" (.ref S_) ∧ Fld Z h b_ "com/example/boceto/boceto/signature/ComponentBuffers" "_capacity" "I" (.int (3 : Int32)) ∧ Fld Z h b_ "com/example/boceto/boceto/signature/ComponentBuffers" "_points" "[D" (.ref n0_) ∧ Fld Z h b_ "com/example/boceto/boceto/signature/ComponentBuffers" "_identities" "[J" (.ref n1_) ∧ Fld Z h b_ "com/example/boceto/boceto/signature/ComponentBuffers" "_thresholds" "[D" (.ref T_) ∧ Fld Z h b_ "com/example/boceto/boceto/signature/ComponentBuffers" "_pointCount" "I" (.int q_) ∧ Exa Z h n0_ "[D" ∧ Arf Z h n0_ .double vD 3 ptg_ ∧ Exa Z h n1_ "[J" ∧ Arf Z h n1_ .long Value.long 3 idg_ ∧ h0.size ≤ n0_ ∧ h0.size ≤ n1_ ∧ n0_ ≠ n1_ ∧ own_gr 1 2 3 sz_ pt_ ptg_ ∧ own_gr 1 2 3 sz_ id_ idg_) := by
  refine Pays.walk (plainFor_of_name pn_3) (fun m => ef_5 m b_ ) ?_
  intro p e s m below meth c T0 X0 hx hby hml hown hnm hZ e0 hret hlk
  have dc := @Jvm.hb _ _ hby
  have ow := @own_w Z a0 hw
  have K0 := Keep.refl h0 [b_]
  obtain ⟨T1, X1, e1, st1⟩ := getF X0 hx hZ hown (host := "") (Or.inl (ow 44 rfl)) Via.refl e0 p3 (g := (mkF m 4 #[sR b_, su, su, su, su] [(.ref b_), (.long 2)])) rfl rfl (dc d11_4)
  obtain ⟨T2, X2, e2, st2⟩ := getF X1 hx hZ hown (host := "") (Or.inl (ow 31 rfl)) Via.refl e1 p1 (g := (mkF m 10 #[sR b_, su, su, su, su] [(.ref b_), (.long ((2 : Int64) * (2 : Int32).toInt64))])) rfl rfl (dc d11_10)
  refine Goes.on (T' := T2) (g' := (mkF m 14 #[sR b_, su, su, su, su] [(.long (l_.toInt64)), (.long ((2 : Int64) * (2 : Int32).toInt64))])) (fun _ k => X0.ldc2Long hx hown (mvT hZ (ow 84 rfl)) (g := (mkF m 0 #[sR b_, su, su, su, su] [])) rfl (dc d11_0) _ (XS.aloadN X0.here hx rfl (dc d11_3) rfl rfl (st1 _ (XS.i2l X1.here hx rfl (dc d11_7) rfl (XS.lmul X1.here hx rfl (dc d11_8) rfl (XS.aloadN X1.here hx rfl (dc d11_9) rfl rfl (st2 _ (XS.i2l X2.here hx rfl (dc d11_13) rfl k)))))))) ?_
  refine Goes.callS X2 hx hZ 0 hown (ow 85 rfl) (ow 86 rfl) (ow 87 rfl) (ow 88 rfl) (by decide) e2 (rmmin l Z a0 hw ((2 : Int64) * (2 : Int32).toInt64) (l_.toInt64) h0 n0 Z0) (by decide) (by decide) (by decide) (by decide) rfl (by rw [hml]; rfl) (argsL := [(.long ((2 : Int64) * (2 : Int32).toInt64)), (.long (l_.toInt64))]) (rest := []) rfl (lenOf pd_2 rfl) rfl (own_le20 rfl) (dc d11_14) ?_
  rintro v3 T3 L3 X3 ⟨rfl, N3q, e3⟩
  have N3 := Fr.app (Fr.nil n0) N3q
  show Goes p e below _ T3 (mkF m 17 #[sR b_, su, su, su, su] [(.long (Fmin ((2 : Int64) * (2 : Int32).toInt64) (l_.toInt64)))])
  refine Goes.on (T' := T3) (g' := (mkF m 18 #[sR b_, su, su, su, su] [(.int ((Fmin ((2 : Int64) * (2 : Int32).toInt64) (l_.toInt64)).toInt32))])) (fun _ k => XT.l2i X3.here hx rfl (dc d11_17) rfl k) ?_
  rw [show (Fmin ((2 : Int64) * (2 : Int32).toInt64) (l_.toInt64)).toInt32 = (3 : Int32) from by rcases hl with rfl <;> decide]
  obtain ⟨T4, X4, e4, st4⟩ := getF X3 hx hZ hown (host := "") (Or.inl (ow 34 rfl)) Via.refl e3 p2 (g := (mkF m 20 #[sR b_, sI 3, su, su, su] [(.ref b_)])) rfl rfl (dc d11_20)
  obtain ⟨T6, h6, cA6, X6, e6, E6, A6, J6, st6⟩ := newPE X4 hx hZ (ow 36 rfl) e4 (g := (mkF m 26 #[sR b_, sI 3, su, su, su] [(.int 3)])) rfl (dc d11_26) rfl (by decide) (cap := 3) (by decide) (by decide) (by decide) (by decide) (ad := "[D") (by decide)
  obtain ⟨a6, g6⟩ : ∃ z, z = h0.size := ⟨_, rfl⟩
  rw [← g6] at A6 J6 st6
  have M6 : h0.size ≤ a6 := Nat.le_trans K0.1 (Nat.le_of_eq g6.symm)
  have C7 := p0.ext E6
  have C9 := p2.ext E6
  have C15 := p8.ext E6
  have ne18 := own_neG p0.lt g6
  have ne19 := own_neG p8.lt g6
  have ne21 := own_neG p10.lt g6
  have Z22 := Nat.le_trans Z0 E6.1
  have K23 := K0.ext E6
  have B6 : Arf Z h6 a6 .double vD 3 (fun _ => (dint 0)) := Arf.new A6 dv_zero
  have G6 : n0 ≤ a6 := Nat.le_trans Z0 (Nat.le_of_eq g6.symm)
  obtain ⟨T24, X24, e24, st24⟩ := getF X6 hx hZ hown (host := "") (Or.inl (ow 34 rfl)) Via.refl e6 C9 (g := (mkF m 30 #[sR b_, sI 3, sR a6, su, su] [(.ref b_)])) rfl rfl (dc d11_30)
  obtain ⟨T26, h26, cA26, X26, e26, E26, A26, J26, st26⟩ := newPE X24 hx hZ (ow 48 rfl) e24 (g := (mkF m 36 #[sR b_, sI 3, sR a6, su, su] [(.int 3)])) rfl (dc d11_36) rfl (by decide) (cap := 3) (by decide) (by decide) (by decide) (by decide) (ad := "[J") (by decide)
  obtain ⟨a26, g26⟩ : ∃ z, z = h6.size := ⟨_, rfl⟩
  rw [← g26] at A26 J26 st26
  have M26 : h0.size ≤ a26 := Nat.le_trans K23.1 (Nat.le_of_eq g26.symm)
  have C29 := C9.ext E26
  have C30 := (p3.ext E6).ext E26
  have C31 := (p4.ext E6).ext E26
  have C35 := C15.ext E26
  have C36 := (p9.ext E6).ext E26
  have C39 := B6.ext E26
  have ne40 := own_neG C7.lt g26
  have ne41 := own_neG C15.lt g26
  have ne44 := own_neG J6.lt g26
  have K46 := K23.ext E26
  have B26 : Arf Z h26 a26 .long Value.long 3 (fun _ => (0 : Int64)) := Arf.new A26 rfl
  have G26 : n0 ≤ a26 := Nat.le_trans Z22 (Nat.le_of_eq g26.symm)
  obtain ⟨T47, X47, e47, st47⟩ := getF X26 hx hZ hown (host := "") (Or.inl (ow 34 rfl)) Via.refl e26 C29 (g := (mkF m 45 #[sR b_, sI 3, sR a6, sR a26, sI 0] [(.ref b_), (.int 0)])) rfl rfl (dc d11_45)
  obtain ⟨T49, X49, e49, st49⟩ := getF X47 hx hZ hown (host := "") (Or.inl (ow 46 rfl)) Via.refl e47 C31 (g := (mkF m 53 #[sR b_, sI 3, sR a6, sR a26, sI 0] [(.ref b_)])) rfl rfl (dc d11_53)
  refine Goes.on (T' := T49) (g' := (mkF m 56 #[sR b_, sI 3, sR a6, sR a26, sI 0] [(.ref P_)])) (fun _ k => XS.istoreN X3.here hx rfl (dc d11_18) rfl (l' := #[sR b_, sI 3, su, su, su]) rfl (XS.aloadN X3.here hx rfl (dc d11_19) rfl rfl (st4 _ (aLenm X4 hx hZ e4 p8 (dc d11_23) (XS.iloadN X4.here hx rfl (dc d11_24) rfl (XS.imul X4.here hx rfl (dc d11_25) rfl (st6 _ (XS.astoreN X6.here hx rfl (dc d11_28) rfl rfl (l' := #[sR b_, sI 3, sR a6, su, su]) rfl (XS.aloadN X6.here hx rfl (dc d11_29) rfl rfl (st24 _ (aLenm X24 hx hZ e24 C15 (dc d11_33) (XS.iloadN X24.here hx rfl (dc d11_34) rfl (XS.imul X24.here hx rfl (dc d11_35) rfl (st26 _ (XS.astoreN X26.here hx rfl (dc d11_38) rfl rfl (l' := #[sR b_, sI 3, sR a6, sR a26, su]) rfl (XS.iconst X26.here hx rfl (dc d11_39) (XS.istore X26.here hx rfl (dc d11_40) rfl (l' := #[sR b_, sI 3, sR a6, sR a26, sI 0]) rfl (XS.iload X26.here hx rfl (dc d11_42) rfl (XS.aloadN X26.here hx rfl (dc d11_44) rfl rfl (st47 _ (aLenm X47 hx hZ e47 C35 (dc d11_48) (XS.icmpNo X47.here hx rfl (dc d11_49) rfl (XT.ii_ge_f (by decide)) (XS.aloadN X47.here hx rfl (dc d11_52) rfl rfl (st49 _ k)))))))))))))))))))))))) ?_
  obtain ⟨T50, X50, e50, st50⟩ := getF X49 hx hZ hown (host := "") (Or.inl (ow 44 rfl)) Via.refl e49 C30 (g := (mkF m 59 #[sR b_, sI 3, sR a6, sR a26, sI 0] [(.ref b_), (.int 0), (.ref P_)])) rfl rfl (dc d11_59)
  obtain ⟨T51, X51, e51, st51⟩ := getF X50 hx hZ hown (host := "") (Or.inl (ow 34 rfl)) Via.refl e50 C29 (g := (mkF m 69 #[sR b_, sI 3, sR a6, sR a26, sI 0] [(.ref b_), (.int 0), (.ref a6), (.int 0), (.ref P_)])) rfl rfl (dc d11_69)
  obtain ⟨T53, h53, L53, X53, e53, N53, K53, B53, st53⟩ := acG X51 hx hZ hown (ow 74 rfl) (ow 77 rfl) (ow 75 rfl) (ow 76 rfl) e51 C36 C39 rfl (fun _ => rfl) (sp' := 0) (dp' := 0) (len := (sz_ 0).toNatClampNeg) ⟨by decide, by decide⟩ ⟨by decide, by decide⟩ ⟨(hz 0 (by decide)).1, rfl⟩ (by have := (hz 0 (by decide)).2; omega) (by have := (hz 0 (by decide)).2; omega) (by decide) (by decide) N3 G6 (g := (mkF m 75 #[sR b_, sI 3, sR a6, sR a26, sI 0] [(.int (sz_ 0)), (.int 0), (.ref a6), (.int 0), (.ref P_)])) rfl (by rw [hml]; rfl) rfl (dc d11_75) (by decide) (W := 0) (own_le20 rfl) (by decide)
  have C56 := C29.keep K53 (ninS ne18 nin0)
  have C57 := C30.keep K53 (ninS ne18 nin0)
  have C59 := ((p5.ext E6).ext E26).keep K53 (ninS ne18 nin0)
  have C62 := C35.keep K53 (ninS ne19 nin0)
  have C64 := ((p10.ext E6).ext E26).keep K53 (ninS ne21 nin0)
  have C67 := B26.keep K53 (ninS ne44.symm nin0)
  have K69 := K46.trans K53 (allS (Or.inr M6) all0)
  obtain ⟨T70, X70, e70, st70⟩ := getF X53 hx hZ hown (host := "") (Or.inl (ow 49 rfl)) Via.refl e53 C59 (g := (mkF m 79 #[sR b_, sI 3, sR a6, sR a26, sI 0] [(.ref b_)])) rfl rfl (dc d11_79)
  obtain ⟨T71, X71, e71, st71⟩ := getF X70 hx hZ hown (host := "") (Or.inl (ow 44 rfl)) Via.refl e70 C57 (g := (mkF m 85 #[sR b_, sI 3, sR a6, sR a26, sI 0] [(.ref b_), (.int 0), (.ref I_)])) rfl rfl (dc d11_85)
  refine Goes.on (T' := T71) (g' := (mkF m 95 #[sR b_, sI 3, sR a6, sR a26, sI 0] [(.ref b_), (.int 0), (.ref a26), (.int 0), (.ref I_)])) (fun _ k => XS.iload X49.here hx rfl (dc d11_56) rfl (XS.aloadN X49.here hx rfl (dc d11_58) rfl rfl (st50 _ (XS.imul X50.here hx rfl (dc d11_62) rfl (XS.aloadN X50.here hx rfl (dc d11_63) rfl rfl (XS.iload X50.here hx rfl (dc d11_64) rfl (XS.iloadN X50.here hx rfl (dc d11_66) rfl (XS.imul X50.here hx rfl (dc d11_67) rfl (XS.aloadN X50.here hx rfl (dc d11_68) rfl rfl (st51 _ (XS.iload X51.here hx rfl (dc d11_72) rfl (ldIm X51 hx hZ e51 C35 (by decide) (dc d11_74) (st53 _ (XS.aloadN X53.here hx rfl (dc d11_78) rfl rfl (st70 _ (XS.iload X70.here hx rfl (dc d11_82) rfl (XS.aloadN X70.here hx rfl (dc d11_84) rfl rfl (st71 _ (XS.imul X71.here hx rfl (dc d11_88) rfl (XS.aloadN X71.here hx rfl (dc d11_89) rfl rfl (XS.iload X71.here hx rfl (dc d11_90) rfl (XS.iloadN X71.here hx rfl (dc d11_92) rfl (XS.imul X71.here hx rfl (dc d11_93) rfl (XS.aloadN X71.here hx rfl (dc d11_94) rfl rfl k)))))))))))))))))))))))) ?_
  obtain ⟨T72, X72, e72, st72⟩ := getF X71 hx hZ hown (host := "") (Or.inl (ow 34 rfl)) Via.refl e71 C56 (g := (mkF m 95 #[sR b_, sI 3, sR a6, sR a26, sI 0] [(.ref b_), (.int 0), (.ref a26), (.int 0), (.ref I_)])) rfl rfl (dc d11_95)
  obtain ⟨T74, h74, L74, X74, e74, N74, K74, B74, st74⟩ := acG X72 hx hZ hown (ow 74 rfl) (ow 77 rfl) (ow 75 rfl) (ow 76 rfl) e72 C64 C67 rfl (fun _ => rfl) (sp' := 0) (dp' := 0) (len := (sz_ 0).toNatClampNeg) ⟨by decide, by decide⟩ ⟨by decide, by decide⟩ ⟨(hz 0 (by decide)).1, rfl⟩ (by have := (hz 0 (by decide)).2; omega) (by have := (hz 0 (by decide)).2; omega) (by decide) (by decide) N53 G26 (g := (mkF m 101 #[sR b_, sI 3, sR a6, sR a26, sI 0] [(.int (sz_ 0)), (.int 0), (.ref a26), (.int 0), (.ref I_)])) rfl (by rw [hml]; rfl) rfl (dc d11_101) (by decide) (W := 0) (own_le20 rfl) (by decide)
  have C75 := ((C7.ext E26).keep K53).keep K74
  have C77 := C56.keep K74 (ninS ne40 nin0)
  have C78 := C57.keep K74 (ninS ne40 nin0)
  have C83 := C62.keep K74 (ninS ne41 nin0)
  have K90 := K69.trans K74 (allS (Or.inr M26) all0)
  obtain ⟨T91, X91, e91, st91⟩ := getF X74 hx hZ hown (host := "") (Or.inl (ow 34 rfl)) Via.refl e74 C77 (g := (mkF m 45 #[sR b_, sI 3, sR a6, sR a26, sI 1] [(.ref b_), (.int 1)])) rfl rfl (dc d11_45)
  obtain ⟨T93, h93, X93, e93, W93, st93⟩ := putF X91 hx hZ hown (host := "") (Or.inl (ow 44 rfl)) Via.refl e91 C78 C75 (Or.inl (ow 45 rfl)) (ow 1 rfl) (ty := .int) (by decide) rfl rfl (g := (mkF m 112 #[sR b_, sI 3, sR a6, sR a26, sI 1] [(.int 3), (.ref b_)])) rfl rfl (dc d11_112)
  have C94 := C75.wr W93
  have C98 := ((C31.keep K53 (ninS ne18 nin0)).keep K74 (ninS ne40 nin0)).other W93 (Or.inr (sn33 hw))
  have K110 := K90.wr W93 (Or.inl (List.mem_of_getElem? (i := 0) rfl))
  obtain ⟨T111, h111, X111, e111, W111, st111⟩ := putF X93 hx hZ hown (host := "") (Or.inl (ow 46 rfl)) Via.refl e93 C98 C94 (Or.inl (ow 47 rfl)) (ow 1 rfl) (ty := (.array .double)) (by decide) rfl rfl (g := (mkF m 117 #[sR b_, sI 3, sR a6, sR a26, sI 1] [(.ref a6), (.ref b_)])) rfl rfl (dc d11_117)
  have C112 := C94.wr W111
  have C117 := ((C59.keep K74 (ninS ne40 nin0)).other W93 (Or.inr (sn34 hw))).other W111 (Or.inr (sn40 hw))
  have K128 := K110.wr W111 (Or.inl (List.mem_of_getElem? (i := 0) rfl))
  obtain ⟨T129, h129, X129, e129, W129, st129⟩ := putF X111 hx hZ hown (host := "") (Or.inl (ow 49 rfl)) Via.refl e111 C117 C112 (Or.inl (ow 50 rfl)) (ow 1 rfl) (ty := (.array .long)) (by decide) rfl rfl (g := (mkF m 122 #[sR b_, sI 3, sR a6, sR a26, sI 1] [(.ref a26), (.ref b_)])) rfl rfl (dc d11_122)
  have N129 := Fr.snoc X129 (Fr.snoc X111 (Fr.snoc X93 N74 g0) g0) g0
  have C130 := C112.wr W129
  have C131 := ((((((p1.ext E6).ext E26).keep K53 (ninS ne18 nin0)).keep K74 (ninS ne40 nin0)).other W93 (Or.inr (sn36 hw))).other W111 (Or.inr (sn42 hw))).other W129 (Or.inr (sn48 hw))
  have C132 := ((C77.other W93 (Or.inr (sn37 hw))).other W111 (Or.inr (sn43 hw))).other W129 (Or.inr (sn49 hw))
  have C133 := ((C78.same W93).other W111 (Or.inr (sn39 hw))).other W129 (Or.inr (sn45 hw))
  have C134 := (C98.same W111).other W129 (Or.inr (sn46 hw))
  have C135 := C117.same W129
  have C136 := ((((((p6.ext E6).ext E26).keep K53 (ninS ne18 nin0)).keep K74 (ninS ne40 nin0)).other W93 (Or.inr (sn38 hw))).other W111 (Or.inr (sn44 hw))).other W129 (Or.inr (sn50 hw))
  have C137 := ((((((p7.ext E6).ext E26).keep K53 (ninS ne18 nin0)).keep K74 (ninS ne40 nin0)).other W93 (Or.inr (sn35 hw))).other W111 (Or.inr (sn41 hw))).other W129 (Or.inr (sn47 hw))
  have C141 := (((((J6.ext E26).keep K53).keep K74).wr W93).wr W111).wr W129
  have C142 := ((((J26.keep K53).keep K74).wr W93).wr W111).wr W129
  have C143 := (((B53.keep K74 (ninS ne44 nin0)).other W93 ne18.symm).other W111 ne18.symm).other W129 ne18.symm
  have C144 := ((B74.other W93 ne40.symm).other W111 ne40.symm).other W129 ne40.symm
  have K146 := K128.wr W129 (Or.inl (List.mem_of_getElem? (i := 0) rfl))
  refine Goes.on (T' := T129) (g' := (mkF m 125 #[sR b_, sI 3, sR a6, sR a26, sI 1] [])) (fun _ k => st72 _ (XS.iload X72.here hx rfl (dc d11_98) rfl (ldIm X72 hx hZ e72 C62 (by decide) (dc d11_100) (st74 _ (XT.iincV X74.here hx rfl (1 : Int32) (dc d11_104) (by decide) rfl (l' := #[sR b_, sI 3, sR a6, sR a26, sI 1]) rfl (XS.goto X74.here hx rfl (pc0 := 107) (pc' := 42) rfl (dc d11_107) (by decide) (by decide) (XS.iload X74.here hx rfl (dc d11_42) rfl (XS.aloadN X74.here hx rfl (dc d11_44) rfl rfl (st91 _ (aLenm X91 hx hZ e91 C83 (dc d11_48) (XS.icmpYes X91.here hx rfl (pc0 := 49) (pc' := 110) rfl (dc d11_49) rfl (XT.ii_ge_t (by decide)) (by decide) (by decide) (XS.aloadN X91.here hx rfl (dc d11_110) rfl rfl (XS.iloadN X91.here hx rfl (dc d11_111) rfl (st93 _ (XS.aloadN X93.here hx rfl (dc d11_115) rfl rfl (XS.aloadN X93.here hx rfl (dc d11_116) rfl rfl (st111 _ (XS.aloadN X111.here hx rfl (dc d11_120) rfl rfl (XS.aloadN X111.here hx rfl (dc d11_121) rfl rfl (st129 _ k)))))))))))))))))))) ?_
  exact Goes.retV X129 hx hlk hret (dc d11_125) (by decide) (by decide) (by rw [e129]; exact ⟨a6, a26, (Cp (fun _ => (dint 0)) pt_ 0 0 (sz_ 0).toNatClampNeg), (Cp (fun _ => (0 : Int64)) id_ 0 0 (sz_ 0).toNatClampNeg), rfl, N129, K146, C130, C131, C132, C133, C134, C135, C136, C137, C141, C143, C142, C144, M6, M26, ne44, own_gr1, own_gr1⟩)
theorem rmGr22 (l : Launch) (Z : State) (a0 : Array Value) (hw : TW Z a0) (b_ S_ T_ P_ I_ : Addr) (l_ q_ : Int32) (sz_ : Nat → Int32) (pt_ : Nat → DK) (id_ : Nat → Int64) (h0 : Heap) (n0 : Nat) (Z0 : n0 ≤ h0.size) (p0 : Exa Z h0 b_ "com/example/boceto/boceto/signature/ComponentBuffers") (p1 : Fld Z h0 b_ "com/example/boceto/boceto/signature/ComponentBuffers" "_bufferSize" "I" (.int l_)) (p2 : Fld Z h0 b_ "com/example/boceto/boceto/signature/ComponentBuffers" "_sizes" "[I" (.ref S_)) (p3 : Fld Z h0 b_ "com/example/boceto/boceto/signature/ComponentBuffers" "_capacity" "I" (.int (2 : Int32))) (p4 : Fld Z h0 b_ "com/example/boceto/boceto/signature/ComponentBuffers" "_points" "[D" (.ref P_)) (p5 : Fld Z h0 b_ "com/example/boceto/boceto/signature/ComponentBuffers" "_identities" "[J" (.ref I_)) (p6 : Fld Z h0 b_ "com/example/boceto/boceto/signature/ComponentBuffers" "_thresholds" "[D" (.ref T_)) (p7 : Fld Z h0 b_ "com/example/boceto/boceto/signature/ComponentBuffers" "_pointCount" "I" (.int q_)) (p8 : Arf Z h0 S_ .int Value.int 2 sz_) (p9 : Arf Z h0 P_ .double vD 4 pt_) (p10 : Arf Z h0 I_ .long Value.long 4 id_) (q0 : b_ ≠ S_) (q1 : b_ ≠ P_) (q2 : b_ ≠ I_) (g0 : n0 ≤ b_) (hl : l_ = (3 : Int32)) (hz : ∀ i, i < 2 → ¬ sz_ i < 0 ∧ (sz_ i).toNatClampNeg ≤ 2) :
    Pays l Z (⟨"com/example/boceto/boceto/signature/ComponentBuffers", "grow", "()V"⟩ : MethodName) prog_28_method_14_code 5 none [] ({ frames := 1, cells := 2, slots := 18, locals := 40 } : Room) #[(.ref b_)] h0 (fun v h L => ∃ (n0_ n1_ : Addr) (ptg_ : Nat → DK) (idg_ : Nat → Int64), v = none ∧ Fr n0 L ∧ Keep h0 h [b_] ∧ Exa Z h b_ "com/example/boceto/boceto/signature/ComponentBuffers" ∧ Fld Z h b_ "com/example/boceto/boceto/signature/ComponentBuffers" "_bufferSize" "I" (.int l_) ∧ Fld Z h b_ "com/example/boceto/boceto/signature/ComponentBuffers" "_sizes" "[I" (.ref S_) ∧ Fld Z h b_ "com/example/boceto/boceto/signature/ComponentBuffers" "_capacity" "I" (.int (3 : Int32)) ∧ Fld Z h b_ "com/example/boceto/boceto/signature/ComponentBuffers" "_points" "[D" (.ref n0_) ∧ Fld Z h b_ "com/example/boceto/boceto/signature/ComponentBuffers" "_identities" "[J" (.ref n1_) ∧ Fld Z h b_ "com/example/boceto/boceto/signature/ComponentBuffers" "_thresholds" "[D" (.ref T_) ∧ Fld Z h b_ "com/example/boceto/boceto/signature/ComponentBuffers" "_pointCount" "I" (.int q_) ∧ Exa Z h n0_ "[D" ∧ Arf Z h n0_ .double vD 6 ptg_ ∧ Exa Z h n1_ "[J" ∧ Arf Z h n1_ .long Value.long 6 idg_ ∧ h0.size ≤ n0_ ∧ h0.size ≤ n1_ ∧ n0_ ≠ n1_ ∧ own_gr 2 2 3 sz_ pt_ ptg_ ∧ own_gr 2 2 3 sz_ id_ idg_) := by
  refine Pays.walk (plainFor_of_name pn_3) (fun m => ef_5 m b_ ) ?_
  intro p e s m below meth c T0 X0 hx hby hml hown hnm hZ e0 hret hlk
  have dc := @Jvm.hb _ _ hby
  have ow := @own_w Z a0 hw
  have K0 := Keep.refl h0 [b_]
  obtain ⟨T1, X1, e1, st1⟩ := getF X0 hx hZ hown (host := "") (Or.inl (ow 44 rfl)) Via.refl e0 p3 (g := (mkF m 4 #[sR b_, su, su, su, su] [(.ref b_), (.long 2)])) rfl rfl (dc d11_4)
  obtain ⟨T2, X2, e2, st2⟩ := getF X1 hx hZ hown (host := "") (Or.inl (ow 31 rfl)) Via.refl e1 p1 (g := (mkF m 10 #[sR b_, su, su, su, su] [(.ref b_), (.long ((2 : Int64) * (2 : Int32).toInt64))])) rfl rfl (dc d11_10)
  refine Goes.on (T' := T2) (g' := (mkF m 14 #[sR b_, su, su, su, su] [(.long (l_.toInt64)), (.long ((2 : Int64) * (2 : Int32).toInt64))])) (fun _ k => X0.ldc2Long hx hown (mvT hZ (ow 84 rfl)) (g := (mkF m 0 #[sR b_, su, su, su, su] [])) rfl (dc d11_0) _ (XS.aloadN X0.here hx rfl (dc d11_3) rfl rfl (st1 _ (XS.i2l X1.here hx rfl (dc d11_7) rfl (XS.lmul X1.here hx rfl (dc d11_8) rfl (XS.aloadN X1.here hx rfl (dc d11_9) rfl rfl (st2 _ (XS.i2l X2.here hx rfl (dc d11_13) rfl k)))))))) ?_
  refine Goes.callS X2 hx hZ 0 hown (ow 85 rfl) (ow 86 rfl) (ow 87 rfl) (ow 88 rfl) (by decide) e2 (rmmin l Z a0 hw ((2 : Int64) * (2 : Int32).toInt64) (l_.toInt64) h0 n0 Z0) (by decide) (by decide) (by decide) (by decide) rfl (by rw [hml]; rfl) (argsL := [(.long ((2 : Int64) * (2 : Int32).toInt64)), (.long (l_.toInt64))]) (rest := []) rfl (lenOf pd_2 rfl) rfl (own_le20 rfl) (dc d11_14) ?_
  rintro v3 T3 L3 X3 ⟨rfl, N3q, e3⟩
  have N3 := Fr.app (Fr.nil n0) N3q
  show Goes p e below _ T3 (mkF m 17 #[sR b_, su, su, su, su] [(.long (Fmin ((2 : Int64) * (2 : Int32).toInt64) (l_.toInt64)))])
  refine Goes.on (T' := T3) (g' := (mkF m 18 #[sR b_, su, su, su, su] [(.int ((Fmin ((2 : Int64) * (2 : Int32).toInt64) (l_.toInt64)).toInt32))])) (fun _ k => XT.l2i X3.here hx rfl (dc d11_17) rfl k) ?_
  rw [show (Fmin ((2 : Int64) * (2 : Int32).toInt64) (l_.toInt64)).toInt32 = (3 : Int32) from by rcases hl with rfl <;> decide]
  obtain ⟨T4, X4, e4, st4⟩ := getF X3 hx hZ hown (host := "") (Or.inl (ow 34 rfl)) Via.refl e3 p2 (g := (mkF m 20 #[sR b_, sI 3, su, su, su] [(.ref b_)])) rfl rfl (dc d11_20)
  obtain ⟨T6, h6, cA6, X6, e6, E6, A6, J6, st6⟩ := newPE X4 hx hZ (ow 36 rfl) e4 (g := (mkF m 26 #[sR b_, sI 3, su, su, su] [(.int 6)])) rfl (dc d11_26) rfl (by decide) (cap := 6) (by decide) (by decide) (by decide) (by decide) (ad := "[D") (by decide)
  obtain ⟨a6, g6⟩ : ∃ z, z = h0.size := ⟨_, rfl⟩
  rw [← g6] at A6 J6 st6
  have M6 : h0.size ≤ a6 := Nat.le_trans K0.1 (Nat.le_of_eq g6.symm)
  have C7 := p0.ext E6
  have C9 := p2.ext E6
  have C15 := p8.ext E6
  have C16 := p9.ext E6
  have C17 := p10.ext E6
  have ne18 := own_neG p0.lt g6
  have ne19 := own_neG p8.lt g6
  have ne20 := own_neG p9.lt g6
  have ne21 := own_neG p10.lt g6
  have Z22 := Nat.le_trans Z0 E6.1
  have K23 := K0.ext E6
  have B6 : Arf Z h6 a6 .double vD 6 (fun _ => (dint 0)) := Arf.new A6 dv_zero
  have G6 : n0 ≤ a6 := Nat.le_trans Z0 (Nat.le_of_eq g6.symm)
  obtain ⟨T24, X24, e24, st24⟩ := getF X6 hx hZ hown (host := "") (Or.inl (ow 34 rfl)) Via.refl e6 C9 (g := (mkF m 30 #[sR b_, sI 3, sR a6, su, su] [(.ref b_)])) rfl rfl (dc d11_30)
  obtain ⟨T26, h26, cA26, X26, e26, E26, A26, J26, st26⟩ := newPE X24 hx hZ (ow 48 rfl) e24 (g := (mkF m 36 #[sR b_, sI 3, sR a6, su, su] [(.int 6)])) rfl (dc d11_36) rfl (by decide) (cap := 6) (by decide) (by decide) (by decide) (by decide) (ad := "[J") (by decide)
  obtain ⟨a26, g26⟩ : ∃ z, z = h6.size := ⟨_, rfl⟩
  rw [← g26] at A26 J26 st26
  have M26 : h0.size ≤ a26 := Nat.le_trans K23.1 (Nat.le_of_eq g26.symm)
  have C29 := C9.ext E26
  have C30 := (p3.ext E6).ext E26
  have C31 := (p4.ext E6).ext E26
  have C35 := C15.ext E26
  have C36 := C16.ext E26
  have C39 := B6.ext E26
  have ne40 := own_neG C7.lt g26
  have ne41 := own_neG C15.lt g26
  have ne42 := own_neG C16.lt g26
  have ne43 := own_neG C17.lt g26
  have ne44 := own_neG J6.lt g26
  have K46 := K23.ext E26
  have B26 : Arf Z h26 a26 .long Value.long 6 (fun _ => (0 : Int64)) := Arf.new A26 rfl
  have G26 : n0 ≤ a26 := Nat.le_trans Z22 (Nat.le_of_eq g26.symm)
  obtain ⟨T47, X47, e47, st47⟩ := getF X26 hx hZ hown (host := "") (Or.inl (ow 34 rfl)) Via.refl e26 C29 (g := (mkF m 45 #[sR b_, sI 3, sR a6, sR a26, sI 0] [(.ref b_), (.int 0)])) rfl rfl (dc d11_45)
  obtain ⟨T49, X49, e49, st49⟩ := getF X47 hx hZ hown (host := "") (Or.inl (ow 46 rfl)) Via.refl e47 C31 (g := (mkF m 53 #[sR b_, sI 3, sR a6, sR a26, sI 0] [(.ref b_)])) rfl rfl (dc d11_53)
  refine Goes.on (T' := T49) (g' := (mkF m 56 #[sR b_, sI 3, sR a6, sR a26, sI 0] [(.ref P_)])) (fun _ k => XS.istoreN X3.here hx rfl (dc d11_18) rfl (l' := #[sR b_, sI 3, su, su, su]) rfl (XS.aloadN X3.here hx rfl (dc d11_19) rfl rfl (st4 _ (aLenm X4 hx hZ e4 p8 (dc d11_23) (XS.iloadN X4.here hx rfl (dc d11_24) rfl (XS.imul X4.here hx rfl (dc d11_25) rfl (st6 _ (XS.astoreN X6.here hx rfl (dc d11_28) rfl rfl (l' := #[sR b_, sI 3, sR a6, su, su]) rfl (XS.aloadN X6.here hx rfl (dc d11_29) rfl rfl (st24 _ (aLenm X24 hx hZ e24 C15 (dc d11_33) (XS.iloadN X24.here hx rfl (dc d11_34) rfl (XS.imul X24.here hx rfl (dc d11_35) rfl (st26 _ (XS.astoreN X26.here hx rfl (dc d11_38) rfl rfl (l' := #[sR b_, sI 3, sR a6, sR a26, su]) rfl (XS.iconst X26.here hx rfl (dc d11_39) (XS.istore X26.here hx rfl (dc d11_40) rfl (l' := #[sR b_, sI 3, sR a6, sR a26, sI 0]) rfl (XS.iload X26.here hx rfl (dc d11_42) rfl (XS.aloadN X26.here hx rfl (dc d11_44) rfl rfl (st47 _ (aLenm X47 hx hZ e47 C35 (dc d11_48) (XS.icmpNo X47.here hx rfl (dc d11_49) rfl (XT.ii_ge_f (by decide)) (XS.aloadN X47.here hx rfl (dc d11_52) rfl rfl (st49 _ k)))))))))))))))))))))))) ?_
  obtain ⟨T50, X50, e50, st50⟩ := getF X49 hx hZ hown (host := "") (Or.inl (ow 44 rfl)) Via.refl e49 C30 (g := (mkF m 59 #[sR b_, sI 3, sR a6, sR a26, sI 0] [(.ref b_), (.int 0), (.ref P_)])) rfl rfl (dc d11_59)
  obtain ⟨T51, X51, e51, st51⟩ := getF X50 hx hZ hown (host := "") (Or.inl (ow 34 rfl)) Via.refl e50 C29 (g := (mkF m 69 #[sR b_, sI 3, sR a6, sR a26, sI 0] [(.ref b_), (.int 0), (.ref a6), (.int 0), (.ref P_)])) rfl rfl (dc d11_69)
  obtain ⟨T53, h53, L53, X53, e53, N53, K53, B53, st53⟩ := acG X51 hx hZ hown (ow 74 rfl) (ow 77 rfl) (ow 75 rfl) (ow 76 rfl) e51 C36 C39 rfl (fun _ => rfl) (sp' := 0) (dp' := 0) (len := (sz_ 0).toNatClampNeg) ⟨by decide, by decide⟩ ⟨by decide, by decide⟩ ⟨(hz 0 (by decide)).1, rfl⟩ (by have := (hz 0 (by decide)).2; omega) (by have := (hz 0 (by decide)).2; omega) (by decide) (by decide) N3 G6 (g := (mkF m 75 #[sR b_, sI 3, sR a6, sR a26, sI 0] [(.int (sz_ 0)), (.int 0), (.ref a6), (.int 0), (.ref P_)])) rfl (by rw [hml]; rfl) rfl (dc d11_75) (by decide) (W := 0) (own_le20 rfl) (by decide)
  have C56 := C29.keep K53 (ninS ne18 nin0)
  have C57 := C30.keep K53 (ninS ne18 nin0)
  have C59 := ((p5.ext E6).ext E26).keep K53 (ninS ne18 nin0)
  have C62 := C35.keep K53 (ninS ne19 nin0)
  have C64 := (C17.ext E26).keep K53 (ninS ne21 nin0)
  have C67 := B26.keep K53 (ninS ne44.symm nin0)
  have K69 := K46.trans K53 (allS (Or.inr M6) all0)
  obtain ⟨T70, X70, e70, st70⟩ := getF X53 hx hZ hown (host := "") (Or.inl (ow 49 rfl)) Via.refl e53 C59 (g := (mkF m 79 #[sR b_, sI 3, sR a6, sR a26, sI 0] [(.ref b_)])) rfl rfl (dc d11_79)
  obtain ⟨T71, X71, e71, st71⟩ := getF X70 hx hZ hown (host := "") (Or.inl (ow 44 rfl)) Via.refl e70 C57 (g := (mkF m 85 #[sR b_, sI 3, sR a6, sR a26, sI 0] [(.ref b_), (.int 0), (.ref I_)])) rfl rfl (dc d11_85)
  refine Goes.on (T' := T71) (g' := (mkF m 95 #[sR b_, sI 3, sR a6, sR a26, sI 0] [(.ref b_), (.int 0), (.ref a26), (.int 0), (.ref I_)])) (fun _ k => XS.iload X49.here hx rfl (dc d11_56) rfl (XS.aloadN X49.here hx rfl (dc d11_58) rfl rfl (st50 _ (XS.imul X50.here hx rfl (dc d11_62) rfl (XS.aloadN X50.here hx rfl (dc d11_63) rfl rfl (XS.iload X50.here hx rfl (dc d11_64) rfl (XS.iloadN X50.here hx rfl (dc d11_66) rfl (XS.imul X50.here hx rfl (dc d11_67) rfl (XS.aloadN X50.here hx rfl (dc d11_68) rfl rfl (st51 _ (XS.iload X51.here hx rfl (dc d11_72) rfl (ldIm X51 hx hZ e51 C35 (by decide) (dc d11_74) (st53 _ (XS.aloadN X53.here hx rfl (dc d11_78) rfl rfl (st70 _ (XS.iload X70.here hx rfl (dc d11_82) rfl (XS.aloadN X70.here hx rfl (dc d11_84) rfl rfl (st71 _ (XS.imul X71.here hx rfl (dc d11_88) rfl (XS.aloadN X71.here hx rfl (dc d11_89) rfl rfl (XS.iload X71.here hx rfl (dc d11_90) rfl (XS.iloadN X71.here hx rfl (dc d11_92) rfl (XS.imul X71.here hx rfl (dc d11_93) rfl (XS.aloadN X71.here hx rfl (dc d11_94) rfl rfl k)))))))))))))))))))))))) ?_
  obtain ⟨T72, X72, e72, st72⟩ := getF X71 hx hZ hown (host := "") (Or.inl (ow 34 rfl)) Via.refl e71 C56 (g := (mkF m 95 #[sR b_, sI 3, sR a6, sR a26, sI 0] [(.ref b_), (.int 0), (.ref a26), (.int 0), (.ref I_)])) rfl rfl (dc d11_95)
  obtain ⟨T74, h74, L74, X74, e74, N74, K74, B74, st74⟩ := acG X72 hx hZ hown (ow 74 rfl) (ow 77 rfl) (ow 75 rfl) (ow 76 rfl) e72 C64 C67 rfl (fun _ => rfl) (sp' := 0) (dp' := 0) (len := (sz_ 0).toNatClampNeg) ⟨by decide, by decide⟩ ⟨by decide, by decide⟩ ⟨(hz 0 (by decide)).1, rfl⟩ (by have := (hz 0 (by decide)).2; omega) (by have := (hz 0 (by decide)).2; omega) (by decide) (by decide) N53 G26 (g := (mkF m 101 #[sR b_, sI 3, sR a6, sR a26, sI 0] [(.int (sz_ 0)), (.int 0), (.ref a26), (.int 0), (.ref I_)])) rfl (by rw [hml]; rfl) rfl (dc d11_101) (by decide) (W := 0) (own_le20 rfl) (by decide)
  have C77 := C56.keep K74 (ninS ne40 nin0)
  have C78 := C57.keep K74 (ninS ne40 nin0)
  have C79 := (C31.keep K53 (ninS ne18 nin0)).keep K74 (ninS ne40 nin0)
  have C83 := C62.keep K74 (ninS ne41 nin0)
  have C84 := (C36.keep K53 (ninS ne20 nin0)).keep K74 (ninS ne42 nin0)
  have C88 := B53.keep K74 (ninS ne44 nin0)
  have K90 := K69.trans K74 (allS (Or.inr M26) all0)
  obtain ⟨T91, X91, e91, st91⟩ := getF X74 hx hZ hown (host := "") (Or.inl (ow 34 rfl)) Via.refl e74 C77 (g := (mkF m 45 #[sR b_, sI 3, sR a6, sR a26, sI 1] [(.ref b_), (.int 1)])) rfl rfl (dc d11_45)
  obtain ⟨T93, X93, e93, st93⟩ := getF X91 hx hZ hown (host := "") (Or.inl (ow 46 rfl)) Via.refl e91 C79 (g := (mkF m 53 #[sR b_, sI 3, sR a6, sR a26, sI 1] [(.ref b_)])) rfl rfl (dc d11_53)
  obtain ⟨T94, X94, e94, st94⟩ := getF X93 hx hZ hown (host := "") (Or.inl (ow 44 rfl)) Via.refl e93 C78 (g := (mkF m 59 #[sR b_, sI 3, sR a6, sR a26, sI 1] [(.ref b_), (.int 1), (.ref P_)])) rfl rfl (dc d11_59)
  obtain ⟨T95, X95, e95, st95⟩ := getF X94 hx hZ hown (host := "") (Or.inl (ow 34 rfl)) Via.refl e94 C77 (g := (mkF m 69 #[sR b_, sI 3, sR a6, sR a26, sI 1] [(.ref b_), (.int 3), (.ref a6), (.int 2), (.ref P_)])) rfl rfl (dc d11_69)
  refine Goes.on (T' := T95) (g' := (mkF m 74 #[sR b_, sI 3, sR a6, sR a26, sI 1] [(.int 1), (.ref S_), (.int 3), (.ref a6), (.int 2), (.ref P_)])) (fun _ k => st72 _ (XS.iload X72.here hx rfl (dc d11_98) rfl (ldIm X72 hx hZ e72 C62 (by decide) (dc d11_100) (st74 _ (XT.iincV X74.here hx rfl (1 : Int32) (dc d11_104) (by decide) rfl (l' := #[sR b_, sI 3, sR a6, sR a26, sI 1]) rfl (XS.goto X74.here hx rfl (pc0 := 107) (pc' := 42) rfl (dc d11_107) (by decide) (by decide) (XS.iload X74.here hx rfl (dc d11_42) rfl (XS.aloadN X74.here hx rfl (dc d11_44) rfl rfl (st91 _ (aLenm X91 hx hZ e91 C83 (dc d11_48) (XS.icmpNo X91.here hx rfl (dc d11_49) rfl (XT.ii_ge_f (by decide)) (XS.aloadN X91.here hx rfl (dc d11_52) rfl rfl (st93 _ (XS.iload X93.here hx rfl (dc d11_56) rfl (XS.aloadN X93.here hx rfl (dc d11_58) rfl rfl (st94 _ (XS.imul X94.here hx rfl (dc d11_62) rfl (XS.aloadN X94.here hx rfl (dc d11_63) rfl rfl (XS.iload X94.here hx rfl (dc d11_64) rfl (XS.iloadN X94.here hx rfl (dc d11_66) rfl (XS.imul X94.here hx rfl (dc d11_67) rfl (XS.aloadN X94.here hx rfl (dc d11_68) rfl rfl (st95 _ (XS.iload X95.here hx rfl (dc d11_72) rfl k)))))))))))))))))))))))) ?_
  obtain ⟨T97, h97, L97, X97, e97, N97, K97, B97, st97⟩ := acG X95 hx hZ hown (ow 74 rfl) (ow 77 rfl) (ow 75 rfl) (ow 76 rfl) e95 C84 C88 rfl (fun _ => rfl) (sp' := 2) (dp' := 3) (len := (sz_ 1).toNatClampNeg) ⟨by decide, by decide⟩ ⟨by decide, by decide⟩ ⟨(hz 1 (by decide)).1, rfl⟩ (by have := (hz 1 (by decide)).2; omega) (by have := (hz 1 (by decide)).2; omega) (by decide) (by decide) N74 G6 (g := (mkF m 75 #[sR b_, sI 3, sR a6, sR a26, sI 1] [(.int (sz_ 1)), (.int 3), (.ref a6), (.int 2), (.ref P_)])) rfl (by rw [hml]; rfl) rfl (dc d11_75) (by decide) (W := 0) (own_le20 rfl) (by decide)
  have C100 := C77.keep K97 (ninS ne18 nin0)
  have C101 := C78.keep K97 (ninS ne18 nin0)
  have C103 := (C59.keep K74 (ninS ne40 nin0)).keep K97 (ninS ne18 nin0)
  have C106 := C83.keep K97 (ninS ne19 nin0)
  have C108 := (C64.keep K74 (ninS ne43 nin0)).keep K97 (ninS ne21 nin0)
  have C111 := B74.keep K97 (ninS ne44.symm nin0)
  have K113 := K90.trans K97 (allS (Or.inr M6) all0)
  obtain ⟨T114, X114, e114, st114⟩ := getF X97 hx hZ hown (host := "") (Or.inl (ow 49 rfl)) Via.refl e97 C103 (g := (mkF m 79 #[sR b_, sI 3, sR a6, sR a26, sI 1] [(.ref b_)])) rfl rfl (dc d11_79)
  obtain ⟨T115, X115, e115, st115⟩ := getF X114 hx hZ hown (host := "") (Or.inl (ow 44 rfl)) Via.refl e114 C101 (g := (mkF m 85 #[sR b_, sI 3, sR a6, sR a26, sI 1] [(.ref b_), (.int 1), (.ref I_)])) rfl rfl (dc d11_85)
  obtain ⟨T116, X116, e116, st116⟩ := getF X115 hx hZ hown (host := "") (Or.inl (ow 34 rfl)) Via.refl e115 C100 (g := (mkF m 95 #[sR b_, sI 3, sR a6, sR a26, sI 1] [(.ref b_), (.int 3), (.ref a26), (.int 2), (.ref I_)])) rfl rfl (dc d11_95)
  obtain ⟨T118, h118, L118, X118, e118, N118, K118, B118, st118⟩ := acG X116 hx hZ hown (ow 74 rfl) (ow 77 rfl) (ow 75 rfl) (ow 76 rfl) e116 C108 C111 rfl (fun _ => rfl) (sp' := 2) (dp' := 3) (len := (sz_ 1).toNatClampNeg) ⟨by decide, by decide⟩ ⟨by decide, by decide⟩ ⟨(hz 1 (by decide)).1, rfl⟩ (by have := (hz 1 (by decide)).2; omega) (by have := (hz 1 (by decide)).2; omega) (by decide) (by decide) N97 G26 (g := (mkF m 101 #[sR b_, sI 3, sR a6, sR a26, sI 1] [(.int (sz_ 1)), (.int 3), (.ref a26), (.int 2), (.ref I_)])) rfl (by rw [hml]; rfl) rfl (dc d11_101) (by decide) (W := 0) (own_le20 rfl) (by decide)
  have C119 := ((((C7.ext E26).keep K53).keep K74).keep K97).keep K118
  have C121 := C100.keep K118 (ninS ne40 nin0)
  have C122 := C101.keep K118 (ninS ne40 nin0)
  have C127 := C106.keep K118 (ninS ne41 nin0)
  have K134 := K113.trans K118 (allS (Or.inr M26) all0)
  obtain ⟨T135, X135, e135, st135⟩ := getF X118 hx hZ hown (host := "") (Or.inl (ow 34 rfl)) Via.refl e118 C121 (g := (mkF m 45 #[sR b_, sI 3, sR a6, sR a26, sI 2] [(.ref b_), (.int 2)])) rfl rfl (dc d11_45)
  refine Goes.on (T' := T135) (g' := (mkF m 110 #[sR b_, sI 3, sR a6, sR a26, sI 2] [])) (fun _ k => ldIm X95 hx hZ e95 C83 (by decide) (dc d11_74) (st97 _ (XS.aloadN X97.here hx rfl (dc d11_78) rfl rfl (st114 _ (XS.iload X114.here hx rfl (dc d11_82) rfl (XS.aloadN X114.here hx rfl (dc d11_84) rfl rfl (st115 _ (XS.imul X115.here hx rfl (dc d11_88) rfl (XS.aloadN X115.here hx rfl (dc d11_89) rfl rfl (XS.iload X115.here hx rfl (dc d11_90) rfl (XS.iloadN X115.here hx rfl (dc d11_92) rfl (XS.imul X115.here hx rfl (dc d11_93) rfl (XS.aloadN X115.here hx rfl (dc d11_94) rfl rfl (st116 _ (XS.iload X116.here hx rfl (dc d11_98) rfl (ldIm X116 hx hZ e116 C106 (by decide) (dc d11_100) (st118 _ (XT.iincV X118.here hx rfl (1 : Int32) (dc d11_104) (by decide) rfl (l' := #[sR b_, sI 3, sR a6, sR a26, sI 2]) rfl (XS.goto X118.here hx rfl (pc0 := 107) (pc' := 42) rfl (dc d11_107) (by decide) (by decide) (XS.iload X118.here hx rfl (dc d11_42) rfl (XS.aloadN X118.here hx rfl (dc d11_44) rfl rfl (st135 _ (aLenm X135 hx hZ e135 C127 (dc d11_48) (XS.icmpYes X135.here hx rfl (pc0 := 49) (pc' := 110) rfl (dc d11_49) rfl (XT.ii_ge_t (by decide)) (by decide) (by decide) k)))))))))))))))))))))))) ?_
  obtain ⟨T137, h137, X137, e137, W137, st137⟩ := putF X135 hx hZ hown (host := "") (Or.inl (ow 44 rfl)) Via.refl e135 C122 C119 (Or.inl (ow 45 rfl)) (ow 1 rfl) (ty := .int) (by decide) rfl rfl (g := (mkF m 112 #[sR b_, sI 3, sR a6, sR a26, sI 2] [(.int 3), (.ref b_)])) rfl rfl (dc d11_112)
  have C138 := C119.wr W137
  have C142 := ((C79.keep K97 (ninS ne18 nin0)).keep K118 (ninS ne40 nin0)).other W137 (Or.inr (sn33 hw))
  have K154 := K134.wr W137 (Or.inl (List.mem_of_getElem? (i := 0) rfl))
  obtain ⟨T155, h155, X155, e155, W155, st155⟩ := putF X137 hx hZ hown (host := "") (Or.inl (ow 46 rfl)) Via.refl e137 C142 C138 (Or.inl (ow 47 rfl)) (ow 1 rfl) (ty := (.array .double)) (by decide) rfl rfl (g := (mkF m 117 #[sR b_, sI 3, sR a6, sR a26, sI 2] [(.ref a6), (.ref b_)])) rfl rfl (dc d11_117)
  have C156 := C138.wr W155
  have C161 := ((C103.keep K118 (ninS ne40 nin0)).other W137 (Or.inr (sn34 hw))).other W155 (Or.inr (sn40 hw))
  have K172 := K154.wr W155 (Or.inl (List.mem_of_getElem? (i := 0) rfl))
  obtain ⟨T173, h173, X173, e173, W173, st173⟩ := putF X155 hx hZ hown (host := "") (Or.inl (ow 49 rfl)) Via.refl e155 C161 C156 (Or.inl (ow 50 rfl)) (ow 1 rfl) (ty := (.array .long)) (by decide) rfl rfl (g := (mkF m 122 #[sR b_, sI 3, sR a6, sR a26, sI 2] [(.ref a26), (.ref b_)])) rfl rfl (dc d11_122)
  have N173 := Fr.snoc X173 (Fr.snoc X155 (Fr.snoc X137 N118 g0) g0) g0
  have C174 := C156.wr W173
  have C175 := ((((((((p1.ext E6).ext E26).keep K53 (ninS ne18 nin0)).keep K74 (ninS ne40 nin0)).keep K97 (ninS ne18 nin0)).keep K118 (ninS ne40 nin0)).other W137 (Or.inr (sn36 hw))).other W155 (Or.inr (sn42 hw))).other W173 (Or.inr (sn48 hw))
  have C176 := ((C121.other W137 (Or.inr (sn37 hw))).other W155 (Or.inr (sn43 hw))).other W173 (Or.inr (sn49 hw))
  have C177 := ((C122.same W137).other W155 (Or.inr (sn39 hw))).other W173 (Or.inr (sn45 hw))
  have C178 := (C142.same W155).other W173 (Or.inr (sn46 hw))
  have C179 := C161.same W173
  have C180 := ((((((((p6.ext E6).ext E26).keep K53 (ninS ne18 nin0)).keep K74 (ninS ne40 nin0)).keep K97 (ninS ne18 nin0)).keep K118 (ninS ne40 nin0)).other W137 (Or.inr (sn38 hw))).other W155 (Or.inr (sn44 hw))).other W173 (Or.inr (sn50 hw))
  have C181 := ((((((((p7.ext E6).ext E26).keep K53 (ninS ne18 nin0)).keep K74 (ninS ne40 nin0)).keep K97 (ninS ne18 nin0)).keep K118 (ninS ne40 nin0)).other W137 (Or.inr (sn35 hw))).other W155 (Or.inr (sn41 hw))).other W173 (Or.inr (sn47 hw))
  have C185 := (((((((J6.ext E26).keep K53).keep K74).keep K97).keep K118).wr W137).wr W155).wr W173
  have C186 := ((((((J26.keep K53).keep K74).keep K97).keep K118).wr W137).wr W155).wr W173
  have C187 := (((B97.keep K118 (ninS ne44 nin0)).other W137 ne18.symm).other W155 ne18.symm).other W173 ne18.symm
  have C188 := ((B118.other W137 ne40.symm).other W155 ne40.symm).other W173 ne40.symm
  have K190 := K172.wr W173 (Or.inl (List.mem_of_getElem? (i := 0) rfl))
  refine Goes.on (T' := T173) (g' := (mkF m 125 #[sR b_, sI 3, sR a6, sR a26, sI 2] [])) (fun _ k => XS.aloadN X135.here hx rfl (dc d11_110) rfl rfl (XS.iloadN X135.here hx rfl (dc d11_111) rfl (st137 _ (XS.aloadN X137.here hx rfl (dc d11_115) rfl rfl (XS.aloadN X137.here hx rfl (dc d11_116) rfl rfl (st155 _ (XS.aloadN X155.here hx rfl (dc d11_120) rfl rfl (XS.aloadN X155.here hx rfl (dc d11_121) rfl rfl (st173 _ k))))))))) ?_
  exact Goes.retV X173 hx hlk hret (dc d11_125) (by decide) (by decide) (by rw [e173]; exact ⟨a6, a26, (Cp (Cp (fun _ => (dint 0)) pt_ 0 0 (sz_ 0).toNatClampNeg) pt_ 2 3 (sz_ 1).toNatClampNeg), (Cp (Cp (fun _ => (0 : Int64)) id_ 0 0 (sz_ 0).toNatClampNeg) id_ 2 3 (sz_ 1).toNatClampNeg), rfl, N173, K190, C174, C175, C176, C177, C178, C179, C180, C181, C185, C187, C186, C188, M6, M26, ne44, (own_gr2 (by decide) (fun i hi => (hz i hi).2)), (own_gr2 (by decide) (fun i hi => (hz i hi).2))⟩)
theorem rmGr32 (l : Launch) (Z : State) (a0 : Array Value) (hw : TW Z a0) (b_ S_ T_ P_ I_ : Addr) (l_ q_ : Int32) (sz_ : Nat → Int32) (pt_ : Nat → DK) (id_ : Nat → Int64) (h0 : Heap) (n0 : Nat) (Z0 : n0 ≤ h0.size) (p0 : Exa Z h0 b_ "com/example/boceto/boceto/signature/ComponentBuffers") (p1 : Fld Z h0 b_ "com/example/boceto/boceto/signature/ComponentBuffers" "_bufferSize" "I" (.int l_)) (p2 : Fld Z h0 b_ "com/example/boceto/boceto/signature/ComponentBuffers" "_sizes" "[I" (.ref S_)) (p3 : Fld Z h0 b_ "com/example/boceto/boceto/signature/ComponentBuffers" "_capacity" "I" (.int (2 : Int32))) (p4 : Fld Z h0 b_ "com/example/boceto/boceto/signature/ComponentBuffers" "_points" "[D" (.ref P_)) (p5 : Fld Z h0 b_ "com/example/boceto/boceto/signature/ComponentBuffers" "_identities" "[J" (.ref I_)) (p6 : Fld Z h0 b_ "com/example/boceto/boceto/signature/ComponentBuffers" "_thresholds" "[D" (.ref T_)) (p7 : Fld Z h0 b_ "com/example/boceto/boceto/signature/ComponentBuffers" "_pointCount" "I" (.int q_)) (p8 : Arf Z h0 S_ .int Value.int 3 sz_) (p9 : Arf Z h0 P_ .double vD 6 pt_) (p10 : Arf Z h0 I_ .long Value.long 6 id_) (q0 : b_ ≠ S_) (q1 : b_ ≠ P_) (q2 : b_ ≠ I_) (g0 : n0 ≤ b_) (hl : l_ = (3 : Int32)) (hz : ∀ i, i < 3 → ¬ sz_ i < 0 ∧ (sz_ i).toNatClampNeg ≤ 2) :
    Pays l Z (⟨"com/example/boceto/boceto/signature/ComponentBuffers", "grow", "()V"⟩ : MethodName) prog_28_method_14_code 5 none [] ({ frames := 1, cells := 2, slots := 18, locals := 40 } : Room) #[(.ref b_)] h0 (fun v h L => ∃ (n0_ n1_ : Addr) (ptg_ : Nat → DK) (idg_ : Nat → Int64), v = none ∧ Fr n0 L ∧ Keep h0 h [b_] ∧ Exa Z h b_ "com/example/boceto/boceto/signature/ComponentBuffers" ∧ Fld Z h b_ "com/example/boceto/boceto/signature/ComponentBuffers" "_bufferSize" "I" (.int l_) ∧ Fld Z h b_ "com/example/boceto/boceto/signature/ComponentBuffers" "_sizes" "[I" (.ref S_) ∧ Fld Z h b_ "com/example/boceto/boceto/signature/ComponentBuffers" "_capacity" "I" (.int (3 : Int32)) ∧ Fld Z h b_ "com/example/boceto/boceto/signature/ComponentBuffers" "_points" "[D" (.ref n0_) ∧ Fld Z h b_ "com/example/boceto/boceto/signature/ComponentBuffers" "_identities" "[J" (.ref n1_) ∧ Fld Z h b_ "com/example/boceto/boceto/signature/ComponentBuffers" "_thresholds" "[D" (.ref T_) ∧ Fld Z h b_ "com/example/boceto/boceto/signature/ComponentBuffers" "_pointCount" "I" (.int q_) ∧ Exa Z h n0_ "[D" ∧ Arf Z h n0_ .double vD 9 ptg_ ∧ Exa Z h n1_ "[J" ∧ Arf Z h n1_ .long Value.long 9 idg_ ∧ h0.size ≤ n0_ ∧ h0.size ≤ n1_ ∧ n0_ ≠ n1_ ∧ own_gr 3 2 3 sz_ pt_ ptg_ ∧ own_gr 3 2 3 sz_ id_ idg_) := by
  refine Pays.walk (plainFor_of_name pn_3) (fun m => ef_5 m b_ ) ?_
  intro p e s m below meth c T0 X0 hx hby hml hown hnm hZ e0 hret hlk
  have dc := @Jvm.hb _ _ hby
  have ow := @own_w Z a0 hw
  have K0 := Keep.refl h0 [b_]
  obtain ⟨T1, X1, e1, st1⟩ := getF X0 hx hZ hown (host := "") (Or.inl (ow 44 rfl)) Via.refl e0 p3 (g := (mkF m 4 #[sR b_, su, su, su, su] [(.ref b_), (.long 2)])) rfl rfl (dc d11_4)
  obtain ⟨T2, X2, e2, st2⟩ := getF X1 hx hZ hown (host := "") (Or.inl (ow 31 rfl)) Via.refl e1 p1 (g := (mkF m 10 #[sR b_, su, su, su, su] [(.ref b_), (.long ((2 : Int64) * (2 : Int32).toInt64))])) rfl rfl (dc d11_10)
  refine Goes.on (T' := T2) (g' := (mkF m 14 #[sR b_, su, su, su, su] [(.long (l_.toInt64)), (.long ((2 : Int64) * (2 : Int32).toInt64))])) (fun _ k => X0.ldc2Long hx hown (mvT hZ (ow 84 rfl)) (g := (mkF m 0 #[sR b_, su, su, su, su] [])) rfl (dc d11_0) _ (XS.aloadN X0.here hx rfl (dc d11_3) rfl rfl (st1 _ (XS.i2l X1.here hx rfl (dc d11_7) rfl (XS.lmul X1.here hx rfl (dc d11_8) rfl (XS.aloadN X1.here hx rfl (dc d11_9) rfl rfl (st2 _ (XS.i2l X2.here hx rfl (dc d11_13) rfl k)))))))) ?_
  refine Goes.callS X2 hx hZ 0 hown (ow 85 rfl) (ow 86 rfl) (ow 87 rfl) (ow 88 rfl) (by decide) e2 (rmmin l Z a0 hw ((2 : Int64) * (2 : Int32).toInt64) (l_.toInt64) h0 n0 Z0) (by decide) (by decide) (by decide) (by decide) rfl (by rw [hml]; rfl) (argsL := [(.long ((2 : Int64) * (2 : Int32).toInt64)), (.long (l_.toInt64))]) (rest := []) rfl (lenOf pd_2 rfl) rfl (own_le20 rfl) (dc d11_14) ?_
  rintro v3 T3 L3 X3 ⟨rfl, N3q, e3⟩
  have N3 := Fr.app (Fr.nil n0) N3q
  show Goes p e below _ T3 (mkF m 17 #[sR b_, su, su, su, su] [(.long (Fmin ((2 : Int64) * (2 : Int32).toInt64) (l_.toInt64)))])
  refine Goes.on (T' := T3) (g' := (mkF m 18 #[sR b_, su, su, su, su] [(.int ((Fmin ((2 : Int64) * (2 : Int32).toInt64) (l_.toInt64)).toInt32))])) (fun _ k => XT.l2i X3.here hx rfl (dc d11_17) rfl k) ?_
  rw [show (Fmin ((2 : Int64) * (2 : Int32).toInt64) (l_.toInt64)).toInt32 = (3 : Int32) from by rcases hl with rfl <;> decide]
  obtain ⟨T4, X4, e4, st4⟩ := getF X3 hx hZ hown (host := "") (Or.inl (ow 34 rfl)) Via.refl e3 p2 (g := (mkF m 20 #[sR b_, sI 3, su, su, su] [(.ref b_)])) rfl rfl (dc d11_20)
  obtain ⟨T6, h6, cA6, X6, e6, E6, A6, J6, st6⟩ := newPE X4 hx hZ (ow 36 rfl) e4 (g := (mkF m 26 #[sR b_, sI 3, su, su, su] [(.int 9)])) rfl (dc d11_26) rfl (by decide) (cap := 9) (by decide) (by decide) (by decide) (by decide) (ad := "[D") (by decide)
  obtain ⟨a6, g6⟩ : ∃ z, z = h0.size := ⟨_, rfl⟩
  rw [← g6] at A6 J6 st6
  have M6 : h0.size ≤ a6 := Nat.le_trans K0.1 (Nat.le_of_eq g6.symm)
  have C7 := p0.ext E6
  have C9 := p2.ext E6
  have C15 := p8.ext E6
  have C16 := p9.ext E6
  have C17 := p10.ext E6
  have ne18 := own_neG p0.lt g6
  have ne19 := own_neG p8.lt g6
  have ne20 := own_neG p9.lt g6
  have ne21 := own_neG p10.lt g6
  have Z22 := Nat.le_trans Z0 E6.1
  have K23 := K0.ext E6
  have B6 : Arf Z h6 a6 .double vD 9 (fun _ => (dint 0)) := Arf.new A6 dv_zero
  have G6 : n0 ≤ a6 := Nat.le_trans Z0 (Nat.le_of_eq g6.symm)
  obtain ⟨T24, X24, e24, st24⟩ := getF X6 hx hZ hown (host := "") (Or.inl (ow 34 rfl)) Via.refl e6 C9 (g := (mkF m 30 #[sR b_, sI 3, sR a6, su, su] [(.ref b_)])) rfl rfl (dc d11_30)
  obtain ⟨T26, h26, cA26, X26, e26, E26, A26, J26, st26⟩ := newPE X24 hx hZ (ow 48 rfl) e24 (g := (mkF m 36 #[sR b_, sI 3, sR a6, su, su] [(.int 9)])) rfl (dc d11_36) rfl (by decide) (cap := 9) (by decide) (by decide) (by decide) (by decide) (ad := "[J") (by decide)
  obtain ⟨a26, g26⟩ : ∃ z, z = h6.size := ⟨_, rfl⟩
  rw [← g26] at A26 J26 st26
  have M26 : h0.size ≤ a26 := Nat.le_trans K23.1 (Nat.le_of_eq g26.symm)
  have C29 := C9.ext E26
  have C30 := (p3.ext E6).ext E26
  have C31 := (p4.ext E6).ext E26
  have C35 := C15.ext E26
  have C36 := C16.ext E26
  have C39 := B6.ext E26
  have ne40 := own_neG C7.lt g26
  have ne41 := own_neG C15.lt g26
  have ne42 := own_neG C16.lt g26
  have ne43 := own_neG C17.lt g26
  have ne44 := own_neG J6.lt g26
  have K46 := K23.ext E26
  have B26 : Arf Z h26 a26 .long Value.long 9 (fun _ => (0 : Int64)) := Arf.new A26 rfl
  have G26 : n0 ≤ a26 := Nat.le_trans Z22 (Nat.le_of_eq g26.symm)
  obtain ⟨T47, X47, e47, st47⟩ := getF X26 hx hZ hown (host := "") (Or.inl (ow 34 rfl)) Via.refl e26 C29 (g := (mkF m 45 #[sR b_, sI 3, sR a6, sR a26, sI 0] [(.ref b_), (.int 0)])) rfl rfl (dc d11_45)
  obtain ⟨T49, X49, e49, st49⟩ := getF X47 hx hZ hown (host := "") (Or.inl (ow 46 rfl)) Via.refl e47 C31 (g := (mkF m 53 #[sR b_, sI 3, sR a6, sR a26, sI 0] [(.ref b_)])) rfl rfl (dc d11_53)
  refine Goes.on (T' := T49) (g' := (mkF m 56 #[sR b_, sI 3, sR a6, sR a26, sI 0] [(.ref P_)])) (fun _ k => XS.istoreN X3.here hx rfl (dc d11_18) rfl (l' := #[sR b_, sI 3, su, su, su]) rfl (XS.aloadN X3.here hx rfl (dc d11_19) rfl rfl (st4 _ (aLenm X4 hx hZ e4 p8 (dc d11_23) (XS.iloadN X4.here hx rfl (dc d11_24) rfl (XS.imul X4.here hx rfl (dc d11_25) rfl (st6 _ (XS.astoreN X6.here hx rfl (dc d11_28) rfl rfl (l' := #[sR b_, sI 3, sR a6, su, su]) rfl (XS.aloadN X6.here hx rfl (dc d11_29) rfl rfl (st24 _ (aLenm X24 hx hZ e24 C15 (dc d11_33) (XS.iloadN X24.here hx rfl (dc d11_34) rfl (XS.imul X24.here hx rfl (dc d11_35) rfl (st26 _ (XS.astoreN X26.here hx rfl (dc d11_38) rfl rfl (l' := #[sR b_, sI 3, sR a6, sR a26, su]) rfl (XS.iconst X26.here hx rfl (dc d11_39) (XS.istore X26.here hx rfl (dc d11_40) rfl (l' := #[sR b_, sI 3, sR a6, sR a26, sI 0]) rfl (XS.iload X26.here hx rfl (dc d11_42) rfl (XS.aloadN X26.here hx rfl (dc d11_44) rfl rfl (st47 _ (aLenm X47 hx hZ e47 C35 (dc d11_48) (XS.icmpNo X47.here hx rfl (dc d11_49) rfl (XT.ii_ge_f (by decide)) (XS.aloadN X47.here hx rfl (dc d11_52) rfl rfl (st49 _ k)))))))))))))))))))))))) ?_
  obtain ⟨T50, X50, e50, st50⟩ := getF X49 hx hZ hown (host := "") (Or.inl (ow 44 rfl)) Via.refl e49 C30 (g := (mkF m 59 #[sR b_, sI 3, sR a6, sR a26, sI 0] [(.ref b_), (.int 0), (.ref P_)])) rfl rfl (dc d11_59)
  obtain ⟨T51, X51, e51, st51⟩ := getF X50 hx hZ hown (host := "") (Or.inl (ow 34 rfl)) Via.refl e50 C29 (g := (mkF m 69 #[sR b_, sI 3, sR a6, sR a26, sI 0] [(.ref b_), (.int 0), (.ref a6), (.int 0), (.ref P_)])) rfl rfl (dc d11_69)
  obtain ⟨T53, h53, L53, X53, e53, N53, K53, B53, st53⟩ := acG X51 hx hZ hown (ow 74 rfl) (ow 77 rfl) (ow 75 rfl) (ow 76 rfl) e51 C36 C39 rfl (fun _ => rfl) (sp' := 0) (dp' := 0) (len := (sz_ 0).toNatClampNeg) ⟨by decide, by decide⟩ ⟨by decide, by decide⟩ ⟨(hz 0 (by decide)).1, rfl⟩ (by have := (hz 0 (by decide)).2; omega) (by have := (hz 0 (by decide)).2; omega) (by decide) (by decide) N3 G6 (g := (mkF m 75 #[sR b_, sI 3, sR a6, sR a26, sI 0] [(.int (sz_ 0)), (.int 0), (.ref a6), (.int 0), (.ref P_)])) rfl (by rw [hml]; rfl) rfl (dc d11_75) (by decide) (W := 0) (own_le20 rfl) (by decide)
  have C56 := C29.keep K53 (ninS ne18 nin0)
  have C57 := C30.keep K53 (ninS ne18 nin0)
  have C59 := ((p5.ext E6).ext E26).keep K53 (ninS ne18 nin0)
  have C62 := C35.keep K53 (ninS ne19 nin0)
  have C64 := (C17.ext E26).keep K53 (ninS ne21 nin0)
  have C67 := B26.keep K53 (ninS ne44.symm nin0)
  have K69 := K46.trans K53 (allS (Or.inr M6) all0)
  obtain ⟨T70, X70, e70, st70⟩ := getF X53 hx hZ hown (host := "") (Or.inl (ow 49 rfl)) Via.refl e53 C59 (g := (mkF m 79 #[sR b_, sI 3, sR a6, sR a26, sI 0] [(.ref b_)])) rfl rfl (dc d11_79)
  obtain ⟨T71, X71, e71, st71⟩ := getF X70 hx hZ hown (host := "") (Or.inl (ow 44 rfl)) Via.refl e70 C57 (g := (mkF m 85 #[sR b_, sI 3, sR a6, sR a26, sI 0] [(.ref b_), (.int 0), (.ref I_)])) rfl rfl (dc d11_85)
  refine Goes.on (T' := T71) (g' := (mkF m 95 #[sR b_, sI 3, sR a6, sR a26, sI 0] [(.ref b_), (.int 0), (.ref a26), (.int 0), (.ref I_)])) (fun _ k => XS.iload X49.here hx rfl (dc d11_56) rfl (XS.aloadN X49.here hx rfl (dc d11_58) rfl rfl (st50 _ (XS.imul X50.here hx rfl (dc d11_62) rfl (XS.aloadN X50.here hx rfl (dc d11_63) rfl rfl (XS.iload X50.here hx rfl (dc d11_64) rfl (XS.iloadN X50.here hx rfl (dc d11_66) rfl (XS.imul X50.here hx rfl (dc d11_67) rfl (XS.aloadN X50.here hx rfl (dc d11_68) rfl rfl (st51 _ (XS.iload X51.here hx rfl (dc d11_72) rfl (ldIm X51 hx hZ e51 C35 (by decide) (dc d11_74) (st53 _ (XS.aloadN X53.here hx rfl (dc d11_78) rfl rfl (st70 _ (XS.iload X70.here hx rfl (dc d11_82) rfl (XS.aloadN X70.here hx rfl (dc d11_84) rfl rfl (st71 _ (XS.imul X71.here hx rfl (dc d11_88) rfl (XS.aloadN X71.here hx rfl (dc d11_89) rfl rfl (XS.iload X71.here hx rfl (dc d11_90) rfl (XS.iloadN X71.here hx rfl (dc d11_92) rfl (XS.imul X71.here hx rfl (dc d11_93) rfl (XS.aloadN X71.here hx rfl (dc d11_94) rfl rfl k)))))))))))))))))))))))) ?_
  obtain ⟨T72, X72, e72, st72⟩ := getF X71 hx hZ hown (host := "") (Or.inl (ow 34 rfl)) Via.refl e71 C56 (g := (mkF m 95 #[sR b_, sI 3, sR a6, sR a26, sI 0] [(.ref b_), (.int 0), (.ref a26), (.int 0), (.ref I_)])) rfl rfl (dc d11_95)
  obtain ⟨T74, h74, L74, X74, e74, N74, K74, B74, st74⟩ := acG X72 hx hZ hown (ow 74 rfl) (ow 77 rfl) (ow 75 rfl) (ow 76 rfl) e72 C64 C67 rfl (fun _ => rfl) (sp' := 0) (dp' := 0) (len := (sz_ 0).toNatClampNeg) ⟨by decide, by decide⟩ ⟨by decide, by decide⟩ ⟨(hz 0 (by decide)).1, rfl⟩ (by have := (hz 0 (by decide)).2; omega) (by have := (hz 0 (by decide)).2; omega) (by decide) (by decide) N53 G26 (g := (mkF m 101 #[sR b_, sI 3, sR a6, sR a26, sI 0] [(.int (sz_ 0)), (.int 0), (.ref a26), (.int 0), (.ref I_)])) rfl (by rw [hml]; rfl) rfl (dc d11_101) (by decide) (W := 0) (own_le20 rfl) (by decide)
  have C77 := C56.keep K74 (ninS ne40 nin0)
  have C78 := C57.keep K74 (ninS ne40 nin0)
  have C79 := (C31.keep K53 (ninS ne18 nin0)).keep K74 (ninS ne40 nin0)
  have C83 := C62.keep K74 (ninS ne41 nin0)
  have C84 := (C36.keep K53 (ninS ne20 nin0)).keep K74 (ninS ne42 nin0)
  have C88 := B53.keep K74 (ninS ne44 nin0)
  have K90 := K69.trans K74 (allS (Or.inr M26) all0)
  obtain ⟨T91, X91, e91, st91⟩ := getF X74 hx hZ hown (host := "") (Or.inl (ow 34 rfl)) Via.refl e74 C77 (g := (mkF m 45 #[sR b_, sI 3, sR a6, sR a26, sI 1] [(.ref b_), (.int 1)])) rfl rfl (dc d11_45)
  obtain ⟨T93, X93, e93, st93⟩ := getF X91 hx hZ hown (host := "") (Or.inl (ow 46 rfl)) Via.refl e91 C79 (g := (mkF m 53 #[sR b_, sI 3, sR a6, sR a26, sI 1] [(.ref b_)])) rfl rfl (dc d11_53)
  obtain ⟨T94, X94, e94, st94⟩ := getF X93 hx hZ hown (host := "") (Or.inl (ow 44 rfl)) Via.refl e93 C78 (g := (mkF m 59 #[sR b_, sI 3, sR a6, sR a26, sI 1] [(.ref b_), (.int 1), (.ref P_)])) rfl rfl (dc d11_59)
  obtain ⟨T95, X95, e95, st95⟩ := getF X94 hx hZ hown (host := "") (Or.inl (ow 34 rfl)) Via.refl e94 C77 (g := (mkF m 69 #[sR b_, sI 3, sR a6, sR a26, sI 1] [(.ref b_), (.int 3), (.ref a6), (.int 2), (.ref P_)])) rfl rfl (dc d11_69)
  refine Goes.on (T' := T95) (g' := (mkF m 74 #[sR b_, sI 3, sR a6, sR a26, sI 1] [(.int 1), (.ref S_), (.int 3), (.ref a6), (.int 2), (.ref P_)])) (fun _ k => st72 _ (XS.iload X72.here hx rfl (dc d11_98) rfl (ldIm X72 hx hZ e72 C62 (by decide) (dc d11_100) (st74 _ (XT.iincV X74.here hx rfl (1 : Int32) (dc d11_104) (by decide) rfl (l' := #[sR b_, sI 3, sR a6, sR a26, sI 1]) rfl (XS.goto X74.here hx rfl (pc0 := 107) (pc' := 42) rfl (dc d11_107) (by decide) (by decide) (XS.iload X74.here hx rfl (dc d11_42) rfl (XS.aloadN X74.here hx rfl (dc d11_44) rfl rfl (st91 _ (aLenm X91 hx hZ e91 C83 (dc d11_48) (XS.icmpNo X91.here hx rfl (dc d11_49) rfl (XT.ii_ge_f (by decide)) (XS.aloadN X91.here hx rfl (dc d11_52) rfl rfl (st93 _ (XS.iload X93.here hx rfl (dc d11_56) rfl (XS.aloadN X93.here hx rfl (dc d11_58) rfl rfl (st94 _ (XS.imul X94.here hx rfl (dc d11_62) rfl (XS.aloadN X94.here hx rfl (dc d11_63) rfl rfl (XS.iload X94.here hx rfl (dc d11_64) rfl (XS.iloadN X94.here hx rfl (dc d11_66) rfl (XS.imul X94.here hx rfl (dc d11_67) rfl (XS.aloadN X94.here hx rfl (dc d11_68) rfl rfl (st95 _ (XS.iload X95.here hx rfl (dc d11_72) rfl k)))))))))))))))))))))))) ?_
  obtain ⟨T97, h97, L97, X97, e97, N97, K97, B97, st97⟩ := acG X95 hx hZ hown (ow 74 rfl) (ow 77 rfl) (ow 75 rfl) (ow 76 rfl) e95 C84 C88 rfl (fun _ => rfl) (sp' := 2) (dp' := 3) (len := (sz_ 1).toNatClampNeg) ⟨by decide, by decide⟩ ⟨by decide, by decide⟩ ⟨(hz 1 (by decide)).1, rfl⟩ (by have := (hz 1 (by decide)).2; omega) (by have := (hz 1 (by decide)).2; omega) (by decide) (by decide) N74 G6 (g := (mkF m 75 #[sR b_, sI 3, sR a6, sR a26, sI 1] [(.int (sz_ 1)), (.int 3), (.ref a6), (.int 2), (.ref P_)])) rfl (by rw [hml]; rfl) rfl (dc d11_75) (by decide) (W := 0) (own_le20 rfl) (by decide)
  have C100 := C77.keep K97 (ninS ne18 nin0)
  have C101 := C78.keep K97 (ninS ne18 nin0)
  have C103 := (C59.keep K74 (ninS ne40 nin0)).keep K97 (ninS ne18 nin0)
  have C106 := C83.keep K97 (ninS ne19 nin0)
  have C108 := (C64.keep K74 (ninS ne43 nin0)).keep K97 (ninS ne21 nin0)
  have C111 := B74.keep K97 (ninS ne44.symm nin0)
  have K113 := K90.trans K97 (allS (Or.inr M6) all0)
  obtain ⟨T114, X114, e114, st114⟩ := getF X97 hx hZ hown (host := "") (Or.inl (ow 49 rfl)) Via.refl e97 C103 (g := (mkF m 79 #[sR b_, sI 3, sR a6, sR a26, sI 1] [(.ref b_)])) rfl rfl (dc d11_79)
  obtain ⟨T115, X115, e115, st115⟩ := getF X114 hx hZ hown (host := "") (Or.inl (ow 44 rfl)) Via.refl e114 C101 (g := (mkF m 85 #[sR b_, sI 3, sR a6, sR a26, sI 1] [(.ref b_), (.int 1), (.ref I_)])) rfl rfl (dc d11_85)
  obtain ⟨T116, X116, e116, st116⟩ := getF X115 hx hZ hown (host := "") (Or.inl (ow 34 rfl)) Via.refl e115 C100 (g := (mkF m 95 #[sR b_, sI 3, sR a6, sR a26, sI 1] [(.ref b_), (.int 3), (.ref a26), (.int 2), (.ref I_)])) rfl rfl (dc d11_95)
  obtain ⟨T118, h118, L118, X118, e118, N118, K118, B118, st118⟩ := acG X116 hx hZ hown (ow 74 rfl) (ow 77 rfl) (ow 75 rfl) (ow 76 rfl) e116 C108 C111 rfl (fun _ => rfl) (sp' := 2) (dp' := 3) (len := (sz_ 1).toNatClampNeg) ⟨by decide, by decide⟩ ⟨by decide, by decide⟩ ⟨(hz 1 (by decide)).1, rfl⟩ (by have := (hz 1 (by decide)).2; omega) (by have := (hz 1 (by decide)).2; omega) (by decide) (by decide) N97 G26 (g := (mkF m 101 #[sR b_, sI 3, sR a6, sR a26, sI 1] [(.int (sz_ 1)), (.int 3), (.ref a26), (.int 2), (.ref I_)])) rfl (by rw [hml]; rfl) rfl (dc d11_101) (by decide) (W := 0) (own_le20 rfl) (by decide)
  have C121 := C100.keep K118 (ninS ne40 nin0)
  have C122 := C101.keep K118 (ninS ne40 nin0)
  have C123 := (C79.keep K97 (ninS ne18 nin0)).keep K118 (ninS ne40 nin0)
  have C127 := C106.keep K118 (ninS ne41 nin0)
  have C128 := (C84.keep K97 (ninS ne20 nin0)).keep K118 (ninS ne42 nin0)
  have C132 := B97.keep K118 (ninS ne44 nin0)
  have K134 := K113.trans K118 (allS (Or.inr M26) all0)
  obtain ⟨T135, X135, e135, st135⟩ := getF X118 hx hZ hown (host := "") (Or.inl (ow 34 rfl)) Via.refl e118 C121 (g := (mkF m 45 #[sR b_, sI 3, sR a6, sR a26, sI 2] [(.ref b_), (.int 2)])) rfl rfl (dc d11_45)
  refine Goes.on (T' := T135) (g' := (mkF m 52 #[sR b_, sI 3, sR a6, sR a26, sI 2] [])) (fun _ k => ldIm X95 hx hZ e95 C83 (by decide) (dc d11_74) (st97 _ (XS.aloadN X97.here hx rfl (dc d11_78) rfl rfl (st114 _ (XS.iload X114.here hx rfl (dc d11_82) rfl (XS.aloadN X114.here hx rfl (dc d11_84) rfl rfl (st115 _ (XS.imul X115.here hx rfl (dc d11_88) rfl (XS.aloadN X115.here hx rfl (dc d11_89) rfl rfl (XS.iload X115.here hx rfl (dc d11_90) rfl (XS.iloadN X115.here hx rfl (dc d11_92) rfl (XS.imul X115.here hx rfl (dc d11_93) rfl (XS.aloadN X115.here hx rfl (dc d11_94) rfl rfl (st116 _ (XS.iload X116.here hx rfl (dc d11_98) rfl (ldIm X116 hx hZ e116 C106 (by decide) (dc d11_100) (st118 _ (XT.iincV X118.here hx rfl (1 : Int32) (dc d11_104) (by decide) rfl (l' := #[sR b_, sI 3, sR a6, sR a26, sI 2]) rfl (XS.goto X118.here hx rfl (pc0 := 107) (pc' := 42) rfl (dc d11_107) (by decide) (by decide) (XS.iload X118.here hx rfl (dc d11_42) rfl (XS.aloadN X118.here hx rfl (dc d11_44) rfl rfl (st135 _ (aLenm X135 hx hZ e135 C127 (dc d11_48) (XS.icmpNo X135.here hx rfl (dc d11_49) rfl (XT.ii_ge_f (by decide)) k)))))))))))))))))))))))) ?_
  obtain ⟨T137, X137, e137, st137⟩ := getF X135 hx hZ hown (host := "") (Or.inl (ow 46 rfl)) Via.refl e135 C123 (g := (mkF m 53 #[sR b_, sI 3, sR a6, sR a26, sI 2] [(.ref b_)])) rfl rfl (dc d11_53)
  obtain ⟨T138, X138, e138, st138⟩ := getF X137 hx hZ hown (host := "") (Or.inl (ow 44 rfl)) Via.refl e137 C122 (g := (mkF m 59 #[sR b_, sI 3, sR a6, sR a26, sI 2] [(.ref b_), (.int 2), (.ref P_)])) rfl rfl (dc d11_59)
  obtain ⟨T139, X139, e139, st139⟩ := getF X138 hx hZ hown (host := "") (Or.inl (ow 34 rfl)) Via.refl e138 C121 (g := (mkF m 69 #[sR b_, sI 3, sR a6, sR a26, sI 2] [(.ref b_), (.int 6), (.ref a6), (.int 4), (.ref P_)])) rfl rfl (dc d11_69)
  obtain ⟨T141, h141, L141, X141, e141, N141, K141, B141, st141⟩ := acG X139 hx hZ hown (ow 74 rfl) (ow 77 rfl) (ow 75 rfl) (ow 76 rfl) e139 C128 C132 rfl (fun _ => rfl) (sp' := 4) (dp' := 6) (len := (sz_ 2).toNatClampNeg) ⟨by decide, by decide⟩ ⟨by decide, by decide⟩ ⟨(hz 2 (by decide)).1, rfl⟩ (by have := (hz 2 (by decide)).2; omega) (by have := (hz 2 (by decide)).2; omega) (by decide) (by decide) N118 G6 (g := (mkF m 75 #[sR b_, sI 3, sR a6, sR a26, sI 2] [(.int (sz_ 2)), (.int 6), (.ref a6), (.int 4), (.ref P_)])) rfl (by rw [hml]; rfl) rfl (dc d11_75) (by decide) (W := 0) (own_le20 rfl) (by decide)
  have C144 := C121.keep K141 (ninS ne18 nin0)
  have C145 := C122.keep K141 (ninS ne18 nin0)
  have C147 := (C103.keep K118 (ninS ne40 nin0)).keep K141 (ninS ne18 nin0)
  have C150 := C127.keep K141 (ninS ne19 nin0)
  have C152 := (C108.keep K118 (ninS ne43 nin0)).keep K141 (ninS ne21 nin0)
  have C155 := B118.keep K141 (ninS ne44.symm nin0)
  have K157 := K134.trans K141 (allS (Or.inr M6) all0)
  obtain ⟨T158, X158, e158, st158⟩ := getF X141 hx hZ hown (host := "") (Or.inl (ow 49 rfl)) Via.refl e141 C147 (g := (mkF m 79 #[sR b_, sI 3, sR a6, sR a26, sI 2] [(.ref b_)])) rfl rfl (dc d11_79)
  obtain ⟨T159, X159, e159, st159⟩ := getF X158 hx hZ hown (host := "") (Or.inl (ow 44 rfl)) Via.refl e158 C145 (g := (mkF m 85 #[sR b_, sI 3, sR a6, sR a26, sI 2] [(.ref b_), (.int 2), (.ref I_)])) rfl rfl (dc d11_85)
  refine Goes.on (T' := T159) (g' := (mkF m 93 #[sR b_, sI 3, sR a6, sR a26, sI 2] [(.int 3), (.int 2), (.ref a26), (.int 4), (.ref I_)])) (fun _ k => XS.aloadN X135.here hx rfl (dc d11_52) rfl rfl (st137 _ (XS.iload X137.here hx rfl (dc d11_56) rfl (XS.aloadN X137.here hx rfl (dc d11_58) rfl rfl (st138 _ (XS.imul X138.here hx rfl (dc d11_62) rfl (XS.aloadN X138.here hx rfl (dc d11_63) rfl rfl (XS.iload X138.here hx rfl (dc d11_64) rfl (XS.iloadN X138.here hx rfl (dc d11_66) rfl (XS.imul X138.here hx rfl (dc d11_67) rfl (XS.aloadN X138.here hx rfl (dc d11_68) rfl rfl (st139 _ (XS.iload X139.here hx rfl (dc d11_72) rfl (ldIm X139 hx hZ e139 C127 (by decide) (dc d11_74) (st141 _ (XS.aloadN X141.here hx rfl (dc d11_78) rfl rfl (st158 _ (XS.iload X158.here hx rfl (dc d11_82) rfl (XS.aloadN X158.here hx rfl (dc d11_84) rfl rfl (st159 _ (XS.imul X159.here hx rfl (dc d11_88) rfl (XS.aloadN X159.here hx rfl (dc d11_89) rfl rfl (XS.iload X159.here hx rfl (dc d11_90) rfl (XS.iloadN X159.here hx rfl (dc d11_92) rfl k)))))))))))))))))))))))) ?_
  obtain ⟨T160, X160, e160, st160⟩ := getF X159 hx hZ hown (host := "") (Or.inl (ow 34 rfl)) Via.refl e159 C144 (g := (mkF m 95 #[sR b_, sI 3, sR a6, sR a26, sI 2] [(.ref b_), (.int 6), (.ref a26), (.int 4), (.ref I_)])) rfl rfl (dc d11_95)
  obtain ⟨T162, h162, L162, X162, e162, N162, K162, B162, st162⟩ := acG X160 hx hZ hown (ow 74 rfl) (ow 77 rfl) (ow 75 rfl) (ow 76 rfl) e160 C152 C155 rfl (fun _ => rfl) (sp' := 4) (dp' := 6) (len := (sz_ 2).toNatClampNeg) ⟨by decide, by decide⟩ ⟨by decide, by decide⟩ ⟨(hz 2 (by decide)).1, rfl⟩ (by have := (hz 2 (by decide)).2; omega) (by have := (hz 2 (by decide)).2; omega) (by decide) (by decide) N141 G26 (g := (mkF m 101 #[sR b_, sI 3, sR a6, sR a26, sI 2] [(.int (sz_ 2)), (.int 6), (.ref a26), (.int 4), (.ref I_)])) rfl (by rw [hml]; rfl) rfl (dc d11_101) (by decide) (W := 0) (own_le20 rfl) (by decide)
  have C163 := ((((((C7.ext E26).keep K53).keep K74).keep K97).keep K118).keep K141).keep K162
  have C165 := C144.keep K162 (ninS ne40 nin0)
  have C166 := C145.keep K162 (ninS ne40 nin0)
  have C171 := C150.keep K162 (ninS ne41 nin0)
  have K178 := K157.trans K162 (allS (Or.inr M26) all0)
  obtain ⟨T179, X179, e179, st179⟩ := getF X162 hx hZ hown (host := "") (Or.inl (ow 34 rfl)) Via.refl e162 C165 (g := (mkF m 45 #[sR b_, sI 3, sR a6, sR a26, sI 3] [(.ref b_), (.int 3)])) rfl rfl (dc d11_45)
  obtain ⟨T181, h181, X181, e181, W181, st181⟩ := putF X179 hx hZ hown (host := "") (Or.inl (ow 44 rfl)) Via.refl e179 C166 C163 (Or.inl (ow 45 rfl)) (ow 1 rfl) (ty := .int) (by decide) rfl rfl (g := (mkF m 112 #[sR b_, sI 3, sR a6, sR a26, sI 3] [(.int 3), (.ref b_)])) rfl rfl (dc d11_112)
  have C182 := C163.wr W181
  have C186 := ((C123.keep K141 (ninS ne18 nin0)).keep K162 (ninS ne40 nin0)).other W181 (Or.inr (sn33 hw))
  have K198 := K178.wr W181 (Or.inl (List.mem_of_getElem? (i := 0) rfl))
  obtain ⟨T199, h199, X199, e199, W199, st199⟩ := putF X181 hx hZ hown (host := "") (Or.inl (ow 46 rfl)) Via.refl e181 C186 C182 (Or.inl (ow 47 rfl)) (ow 1 rfl) (ty := (.array .double)) (by decide) rfl rfl (g := (mkF m 117 #[sR b_, sI 3, sR a6, sR a26, sI 3] [(.ref a6), (.ref b_)])) rfl rfl (dc d11_117)
  have C200 := C182.wr W199
  have C205 := ((C147.keep K162 (ninS ne40 nin0)).other W181 (Or.inr (sn34 hw))).other W199 (Or.inr (sn40 hw))
  have K216 := K198.wr W199 (Or.inl (List.mem_of_getElem? (i := 0) rfl))
  obtain ⟨T217, h217, X217, e217, W217, st217⟩ := putF X199 hx hZ hown (host := "") (Or.inl (ow 49 rfl)) Via.refl e199 C205 C200 (Or.inl (ow 50 rfl)) (ow 1 rfl) (ty := (.array .long)) (by decide) rfl rfl (g := (mkF m 122 #[sR b_, sI 3, sR a6, sR a26, sI 3] [(.ref a26), (.ref b_)])) rfl rfl (dc d11_122)
  have N217 := Fr.snoc X217 (Fr.snoc X199 (Fr.snoc X181 N162 g0) g0) g0
  have C218 := C200.wr W217
  have C219 := ((((((((((p1.ext E6).ext E26).keep K53 (ninS ne18 nin0)).keep K74 (ninS ne40 nin0)).keep K97 (ninS ne18 nin0)).keep K118 (ninS ne40 nin0)).keep K141 (ninS ne18 nin0)).keep K162 (ninS ne40 nin0)).other W181 (Or.inr (sn36 hw))).other W199 (Or.inr (sn42 hw))).other W217 (Or.inr (sn48 hw))
  have C220 := ((C165.other W181 (Or.inr (sn37 hw))).other W199 (Or.inr (sn43 hw))).other W217 (Or.inr (sn49 hw))
  have C221 := ((C166.same W181).other W199 (Or.inr (sn39 hw))).other W217 (Or.inr (sn45 hw))
  have C222 := (C186.same W199).other W217 (Or.inr (sn46 hw))
  have C223 := C205.same W217
  have C224 := ((((((((((p6.ext E6).ext E26).keep K53 (ninS ne18 nin0)).keep K74 (ninS ne40 nin0)).keep K97 (ninS ne18 nin0)).keep K118 (ninS ne40 nin0)).keep K141 (ninS ne18 nin0)).keep K162 (ninS ne40 nin0)).other W181 (Or.inr (sn38 hw))).other W199 (Or.inr (sn44 hw))).other W217 (Or.inr (sn50 hw))
  have C225 := ((((((((((p7.ext E6).ext E26).keep K53 (ninS ne18 nin0)).keep K74 (ninS ne40 nin0)).keep K97 (ninS ne18 nin0)).keep K118 (ninS ne40 nin0)).keep K141 (ninS ne18 nin0)).keep K162 (ninS ne40 nin0)).other W181 (Or.inr (sn35 hw))).other W199 (Or.inr (sn41 hw))).other W217 (Or.inr (sn47 hw))
  have C229 := (((((((((J6.ext E26).keep K53).keep K74).keep K97).keep K118).keep K141).keep K162).wr W181).wr W199).wr W217
  have C230 := ((((((((J26.keep K53).keep K74).keep K97).keep K118).keep K141).keep K162).wr W181).wr W199).wr W217
  have C231 := (((B141.keep K162 (ninS ne44 nin0)).other W181 ne18.symm).other W199 ne18.symm).other W217 ne18.symm
  have C232 := ((B162.other W181 ne40.symm).other W199 ne40.symm).other W217 ne40.symm
  have K234 := K216.wr W217 (Or.inl (List.mem_of_getElem? (i := 0) rfl))
  refine Goes.on (T' := T217) (g' := (mkF m 125 #[sR b_, sI 3, sR a6, sR a26, sI 3] [])) (fun _ k => XS.imul X159.here hx rfl (dc d11_93) rfl (XS.aloadN X159.here hx rfl (dc d11_94) rfl rfl (st160 _ (XS.iload X160.here hx rfl (dc d11_98) rfl (ldIm X160 hx hZ e160 C150 (by decide) (dc d11_100) (st162 _ (XT.iincV X162.here hx rfl (1 : Int32) (dc d11_104) (by decide) rfl (l' := #[sR b_, sI 3, sR a6, sR a26, sI 3]) rfl (XS.goto X162.here hx rfl (pc0 := 107) (pc' := 42) rfl (dc d11_107) (by decide) (by decide) (XS.iload X162.here hx rfl (dc d11_42) rfl (XS.aloadN X162.here hx rfl (dc d11_44) rfl rfl (st179 _ (aLenm X179 hx hZ e179 C171 (dc d11_48) (XS.icmpYes X179.here hx rfl (pc0 := 49) (pc' := 110) rfl (dc d11_49) rfl (XT.ii_ge_t (by decide)) (by decide) (by decide) (XS.aloadN X179.here hx rfl (dc d11_110) rfl rfl (XS.iloadN X179.here hx rfl (dc d11_111) rfl (st181 _ (XS.aloadN X181.here hx rfl (dc d11_115) rfl rfl (XS.aloadN X181.here hx rfl (dc d11_116) rfl rfl (st199 _ (XS.aloadN X199.here hx rfl (dc d11_120) rfl rfl (XS.aloadN X199.here hx rfl (dc d11_121) rfl rfl (st217 _ k)))))))))))))))))))))) ?_
  exact Goes.retV X217 hx hlk hret (dc d11_125) (by decide) (by decide) (by rw [e217]; exact ⟨a6, a26, (Cp (Cp (Cp (fun _ => (dint 0)) pt_ 0 0 (sz_ 0).toNatClampNeg) pt_ 2 3 (sz_ 1).toNatClampNeg) pt_ 4 6 (sz_ 2).toNatClampNeg), (Cp (Cp (Cp (fun _ => (0 : Int64)) id_ 0 0 (sz_ 0).toNatClampNeg) id_ 2 3 (sz_ 1).toNatClampNeg) id_ 4 6 (sz_ 2).toNatClampNeg), rfl, N217, K234, C218, C219, C220, C221, C222, C223, C224, C225, C229, C231, C230, C232, M6, M26, ne44, (own_gr3 (by decide) (fun i hi => (hz i hi).2)), (own_gr3 (by decide) (fun i hi => (hz i hi).2))⟩)
theorem rmGr2 (l : Launch) (Z : State) (a0 : Array Value) (hw : TW Z a0) (M_ : Nat) (b_ S_ T_ P_ I_ : Addr) (l_ q_ : Int32) (sz_ : Nat → Int32) (pt_ : Nat → DK) (id_ : Nat → Int64) (h0 : Heap) (n0 : Nat) (Z0 : n0 ≤ h0.size) (p0 : Exa Z h0 b_ "com/example/boceto/boceto/signature/ComponentBuffers") (p1 : Fld Z h0 b_ "com/example/boceto/boceto/signature/ComponentBuffers" "_bufferSize" "I" (.int l_)) (p2 : Fld Z h0 b_ "com/example/boceto/boceto/signature/ComponentBuffers" "_sizes" "[I" (.ref S_)) (p3 : Fld Z h0 b_ "com/example/boceto/boceto/signature/ComponentBuffers" "_capacity" "I" (.int (2 : Int32))) (p4 : Fld Z h0 b_ "com/example/boceto/boceto/signature/ComponentBuffers" "_points" "[D" (.ref P_)) (p5 : Fld Z h0 b_ "com/example/boceto/boceto/signature/ComponentBuffers" "_identities" "[J" (.ref I_)) (p6 : Fld Z h0 b_ "com/example/boceto/boceto/signature/ComponentBuffers" "_thresholds" "[D" (.ref T_)) (p7 : Fld Z h0 b_ "com/example/boceto/boceto/signature/ComponentBuffers" "_pointCount" "I" (.int q_)) (p8 : Arf Z h0 S_ .int Value.int M_ sz_) (p9 : Arf Z h0 P_ .double vD (M_ * 2) pt_) (p10 : Arf Z h0 I_ .long Value.long (M_ * 2) id_) (q0 : b_ ≠ S_) (q1 : b_ ≠ P_) (q2 : b_ ≠ I_) (g0 : n0 ≤ b_) (hl : l_ = (3 : Int32)) (hz : ∀ i, i < M_ → ¬ sz_ i < 0 ∧ (sz_ i).toNatClampNeg ≤ 2) (hM : M_ = 1 ∨ M_ = 2 ∨ M_ = 3) :
    Pays l Z (⟨"com/example/boceto/boceto/signature/ComponentBuffers", "grow", "()V"⟩ : MethodName) prog_28_method_14_code 5 none [] ({ frames := 1, cells := 2, slots := 18, locals := 40 } : Room) #[(.ref b_)] h0 (fun v h L => ∃ (n0_ n1_ : Addr) (ptg_ : Nat → DK) (idg_ : Nat → Int64), v = none ∧ Fr n0 L ∧ Keep h0 h [b_] ∧ Exa Z h b_ "com/example/boceto/boceto/signature/ComponentBuffers" ∧ Fld Z h b_ "com/example/boceto/boceto/signature/ComponentBuffers" "_bufferSize" "I" (.int l_) ∧ Fld Z h b_ "com/example/boceto/boceto/signature/ComponentBuffers" "_sizes" "[I" (.ref S_) ∧ Fld Z h b_ "com/example/boceto/boceto/signature/ComponentBuffers" "_capacity" "I" (.int (3 : Int32)) ∧ Fld Z h b_ "com/example/boceto/boceto/signature/ComponentBuffers" "_points" "[D" (.ref n0_) ∧ Fld Z h b_ "com/example/boceto/boceto/signature/ComponentBuffers" "_identities" "[J" (.ref n1_) ∧ Fld Z h b_ "com/example/boceto/boceto/signature/ComponentBuffers" "_thresholds" "[D" (.ref T_) ∧ Fld Z h b_ "com/example/boceto/boceto/signature/ComponentBuffers" "_pointCount" "I" (.int q_) ∧ Exa Z h n0_ "[D" ∧ Arf Z h n0_ .double vD (M_ * 3) ptg_ ∧ Exa Z h n1_ "[J" ∧ Arf Z h n1_ .long Value.long (M_ * 3) idg_ ∧ h0.size ≤ n0_ ∧ h0.size ≤ n1_ ∧ n0_ ≠ n1_ ∧ own_gr M_ 2 3 sz_ pt_ ptg_ ∧ own_gr M_ 2 3 sz_ id_ idg_) := by
  rcases hM with rfl | rfl | rfl
  · exact rmGr12 l Z a0 hw b_ S_ T_ P_ I_ l_ q_ sz_ pt_ id_ h0 n0 Z0 p0 p1 p2 p3 p4 p5 p6 p7 p8 p9 p10 q0 q1 q2 g0 hl hz
  · exact rmGr22 l Z a0 hw b_ S_ T_ P_ I_ l_ q_ sz_ pt_ id_ h0 n0 Z0 p0 p1 p2 p3 p4 p5 p6 p7 p8 p9 p10 q0 q1 q2 g0 hl hz
  · exact rmGr32 l Z a0 hw b_ S_ T_ P_ I_ l_ q_ sz_ pt_ id_ h0 n0 Z0 p0 p1 p2 p3 p4 p5 p6 p7 p8 p9 p10 q0 q1 q2 g0 hl hz
abbrev c8C := prog_28_method_6_code
theorem d8_0 : decode c8C 0 = .ok (.dload_n 2, 1) := by decide +kernel
theorem d8_1 : decode c8C 1 = .ok (.aload_n 0, 1) := by decide +kernel
theorem d8_2 : decode c8C 2 = .ok (.getfield 32, 3) := by decide +kernel
theorem d8_5 : decode c8C 5 = .ok (.iload_n 1, 1) := by decide +kernel
theorem d8_6 : decode c8C 6 = .ok (.daload, 1) := by decide +kernel
theorem d8_7 : decode c8C 7 = .ok (.dcmp .l, 1) := by decide +kernel
theorem d8_8 : decode c8C 8 = .ok (.ifCond .le 4, 3) := by decide +kernel
theorem d8_12 : decode c8C 12 = .ok (.aload_n 0, 1) := by decide +kernel
theorem d8_13 : decode c8C 13 = .ok (.getfield 28, 3) := by decide +kernel
theorem d8_16 : decode c8C 16 = .ok (.iload_n 1, 1) := by decide +kernel
theorem d8_17 : decode c8C 17 = .ok (.iaload, 1) := by decide +kernel
theorem d8_18 : decode c8C 18 = .ok (.istore 6, 2) := by decide +kernel
theorem d8_20 : decode c8C 20 = .ok (.iload 6, 2) := by decide +kernel
theorem d8_22 : decode c8C 22 = .ok (.aload_n 0, 1) := by decide +kernel
theorem d8_23 : decode c8C 23 = .ok (.getfield 46, 3) := by decide +kernel
theorem d8_26 : decode c8C 26 = .ok (.if_icmp .ne 16, 3) := by decide +kernel
theorem d8_42 : decode c8C 42 = .ok (.iload_n 1, 1) := by decide +kernel
theorem d8_43 : decode c8C 43 = .ok (.aload_n 0, 1) := by decide +kernel
theorem d8_44 : decode c8C 44 = .ok (.getfield 46, 3) := by decide +kernel
theorem d8_47 : decode c8C 47 = .ok (.imul, 1) := by decide +kernel
theorem d8_48 : decode c8C 48 = .ok (.istore 7, 2) := by decide +kernel
theorem d8_50 : decode c8C 50 = .ok (.iload 7, 2) := by decide +kernel
theorem d8_52 : decode c8C 52 = .ok (.iload 6, 2) := by decide +kernel
theorem d8_54 : decode c8C 54 = .ok (.iadd, 1) := by decide +kernel
theorem d8_55 : decode c8C 55 = .ok (.istore 8, 2) := by decide +kernel
theorem d8_57 : decode c8C 57 = .ok (.aload_n 0, 1) := by decide +kernel
theorem d8_58 : decode c8C 58 = .ok (.iload 7, 2) := by decide +kernel
theorem d8_60 : decode c8C 60 = .ok (.iload 8, 2) := by decide +kernel
theorem d8_62 : decode c8C 62 = .ok (.dload_n 2, 1) := by decide +kernel
theorem pd_3 : parseMethodDescriptor "(IID)I" = some ⟨[.int, .int, .double], some .int⟩ := by decide +kernel
theorem d8_63 : decode c8C 63 = .ok (.invokevirtual 59, 3) := by decide +kernel
theorem d8_66 : decode c8C 66 = .ok (.istore 9, 2) := by decide +kernel
theorem d8_68 : decode c8C 68 = .ok (.iload 9, 2) := by decide +kernel
theorem d8_70 : decode c8C 70 = .ok (.iload 8, 2) := by decide +kernel
theorem d8_72 : decode c8C 72 = .ok (.if_icmp .ge 35, 3) := by decide +kernel
theorem d8_107 : decode c8C 107 = .ok (.iload 6, 2) := by decide +kernel
theorem d8_109 : decode c8C 109 = .ok (.aload_n 0, 1) := by decide +kernel
theorem d8_110 : decode c8C 110 = .ok (.getfield 24, 3) := by decide +kernel
theorem d8_113 : decode c8C 113 = .ok (.if_icmp .ne 57, 3) := by decide +kernel
theorem d8_170 : decode c8C 170 = .ok (.aload_n 0, 1) := by decide +kernel
theorem d8_171 : decode c8C 171 = .ok (.iload 9, 2) := by decide +kernel
theorem d8_173 : decode c8C 173 = .ok (.iload 8, 2) := by decide +kernel
theorem pd_4 : parseMethodDescriptor "(II)V" = some ⟨[.int, .int], none⟩ := by decide +kernel
theorem d8_175 : decode c8C 175 = .ok (.invokevirtual 63, 3) := by decide +kernel
theorem d8_178 : decode c8C 178 = .ok (.aload_n 0, 1) := by decide +kernel
theorem d8_179 : decode c8C 179 = .ok (.getfield 49, 3) := by decide +kernel
theorem d8_182 : decode c8C 182 = .ok (.iload 9, 2) := by decide +kernel
theorem d8_184 : decode c8C 184 = .ok (.dload_n 2, 1) := by decide +kernel
theorem d8_185 : decode c8C 185 = .ok (.dastore, 1) := by decide +kernel
theorem d8_186 : decode c8C 186 = .ok (.aload_n 0, 1) := by decide +kernel
theorem d8_187 : decode c8C 187 = .ok (.getfield 52, 3) := by decide +kernel
theorem d8_190 : decode c8C 190 = .ok (.iload 9, 2) := by decide +kernel
theorem d8_192 : decode c8C 192 = .ok (.lload 4, 2) := by decide +kernel
theorem d8_194 : decode c8C 194 = .ok (.lastore, 1) := by decide +kernel
theorem d8_195 : decode c8C 195 = .ok (.aload_n 0, 1) := by decide +kernel
theorem d8_196 : decode c8C 196 = .ok (.getfield 28, 3) := by decide +kernel
theorem d8_199 : decode c8C 199 = .ok (.iload_n 1, 1) := by decide +kernel
theorem d8_200 : decode c8C 200 = .ok (.iload 6, 2) := by decide +kernel
theorem d8_202 : decode c8C 202 = .ok (.iconst 1, 1) := by decide +kernel
theorem d8_203 : decode c8C 203 = .ok (.iadd, 1) := by decide +kernel
theorem d8_204 : decode c8C 204 = .ok (.iastore, 1) := by decide +kernel
theorem d8_205 : decode c8C 205 = .ok (.aload_n 0, 1) := by decide +kernel
theorem d8_206 : decode c8C 206 = .ok (.dup, 1) := by decide +kernel
theorem d8_207 : decode c8C 207 = .ok (.getfield 67, 3) := by decide +kernel
theorem d8_210 : decode c8C 210 = .ok (.iconst 1, 1) := by decide +kernel
theorem d8_211 : decode c8C 211 = .ok (.iadd, 1) := by decide +kernel
theorem d8_212 : decode c8C 212 = .ok (.putfield 67, 3) := by decide +kernel
theorem d8_215 : decode c8C 215 = .ok (.return_, 1) := by decide +kernel
theorem ef_6 (m : MethodId) (x0 : Addr) (x1 : Int32) (x2 : UInt64) (x3 : Int64) : entryFrame m #[(.ref x0), (.int x1), (.double x2), (.long x3)] 11 = mkF m 0 #[.val (.ref x0), .val (.int x1), .val (.double x2), .second, .val (.long x3), .second, .unset, .unset, .unset, .unset, .unset] [] := by first | (simp [entryFrame, mkF, argsToLocals, Value.category]; done) | rfl
def sn51 {Z : State} {a0 : Array Value} (hw : TW Z a0) := slot_ne (Or.inr (own_w hw 32 rfl)) (Or.inl (own_w hw 79 rfl)) (by decide) (t := .int) (by decide) (t' := .int) (by decide)
def sn52 {Z : State} {a0 : Array Value} (hw : TW Z a0) := slot_ne (Or.inr (own_w hw 35 rfl)) (Or.inl (own_w hw 79 rfl)) (by decide) (t := (.array .int)) (by decide) (t' := .int) (by decide)
def sn53 {Z : State} {a0 : Array Value} (hw : TW Z a0) := slot_ne (Or.inr (own_w hw 38 rfl)) (Or.inl (own_w hw 79 rfl)) (by decide) (t := (.array .double)) (by decide) (t' := .int) (by decide)
def sn54 {Z : State} {a0 : Array Value} (hw : TW Z a0) := slot_ne (Or.inl (own_w hw 45 rfl)) (Or.inl (own_w hw 79 rfl)) (by decide) (t := .int) (by decide) (t' := .int) (by decide)
def sn55 {Z : State} {a0 : Array Value} (hw : TW Z a0) := slot_ne (Or.inl (own_w hw 47 rfl)) (Or.inl (own_w hw 79 rfl)) (by decide) (t := (.array .double)) (by decide) (t' := .int) (by decide)
def sn56 {Z : State} {a0 : Array Value} (hw : TW Z a0) := slot_ne (Or.inl (own_w hw 50 rfl)) (Or.inl (own_w hw 79 rfl)) (by decide) (t := (.array .long)) (by decide) (t' := .int) (by decide)
theorem rmI0n (l : Launch) (Z : State) (a0 : Array Value) (hw : TW Z a0) (b_ S_ T_ P_ I_ : Addr) (M_ N_ : Nat) (c_ cap_ l_ q_ : Int32) (sz_ : Nat → Int32) (th_ pt_ : Nat → DK) (id_ : Nat → Int64) (p_ : DK) (x_ : Int64) (h0 : Heap) (n0 : Nat) (Z0 : n0 ≤ h0.size) (E0 : Exa Z h0 b_ "com/example/boceto/boceto/signature/ComponentBuffers") (F1 : Fld Z h0 b_ "com/example/boceto/boceto/signature/ComponentBuffers" "_bufferSize" "I" (.int l_)) (F2 : Fld Z h0 b_ "com/example/boceto/boceto/signature/ComponentBuffers" "_sizes" "[I" (.ref S_)) (F3 : Fld Z h0 b_ "com/example/boceto/boceto/signature/ComponentBuffers" "_thresholds" "[D" (.ref T_)) (F4 : Fld Z h0 b_ "com/example/boceto/boceto/signature/ComponentBuffers" "_capacity" "I" (.int cap_)) (F5 : Fld Z h0 b_ "com/example/boceto/boceto/signature/ComponentBuffers" "_points" "[D" (.ref P_)) (F6 : Fld Z h0 b_ "com/example/boceto/boceto/signature/ComponentBuffers" "_identities" "[J" (.ref I_)) (F7 : Fld Z h0 b_ "com/example/boceto/boceto/signature/ComponentBuffers" "_pointCount" "I" (.int q_)) (A1 : Arf Z h0 S_ .int Value.int M_ sz_) (A2 : Arf Z h0 T_ .double vD M_ th_) (A3 : Arf Z h0 P_ .double vD N_ pt_) (A4 : Arf Z h0 I_ .long Value.long N_ id_) (E1 : Exa Z h0 S_ "[I") (E2 : Exa Z h0 T_ "[D") (E3 : Exa Z h0 P_ "[D") (E4 : Exa Z h0 I_ "[J") (nTP : T_ ≠ P_) (g0 : n0 ≤ b_) (g1 : n0 ≤ S_) (g2 : n0 ≤ T_) (g3 : n0 ≤ P_) (g4 : n0 ≤ I_) (hc : ¬ c_ < 0 ∧ c_.toNatClampNeg < M_) (hcc : c_ = (0 : Int32) ∨ c_ = (1 : Int32) ∨ c_ = (2 : Int32)) (hM : M_ = 1 ∨ M_ = 2 ∨ M_ = 3) (hN : N_ = M_ * cap_.toNatClampNeg) (hcl : cap_.toInt ≤ l_.toInt) (hz : ∀ i, i < M_ → 0 ≤ (sz_ i).toInt ∧ (sz_ i).toInt ≤ cap_.toInt) (hsz : sz_ c_.toNatClampNeg = (0 : Int32)) (hcap : cap_ = (1 : Int32) ∨ cap_ = (2 : Int32) ∨ cap_ = (3 : Int32)) (ht : ¬ (th_ c_.toNatClampNeg).1 < p_.1) (hl : ¬ (0 : Int32) = l_) :
    Pays l Z (⟨"com/example/boceto/boceto/signature/ComponentBuffers", "insert", "(IDJ)V"⟩ : MethodName) prog_28_method_6_code 11 none [] ({ frames := 2, cells := 2, slots := 18, locals := 60 } : Room) #[(.ref b_), (.int c_), (.double (dv p_)), (.long x_)] h0 (fun v h L => ∃ (P2 I2 : Addr) (N2 : Nat) (cp2 q2 : Int32) (sz2 : Nat → Int32) (th2 pt2 : Nat → DK) (id2 : Nat → Int64), v = none ∧ Fr n0 L ∧ Keep h0 h [b_, S_, T_, P_, I_] ∧ Fld Z h b_ "com/example/boceto/boceto/signature/ComponentBuffers" "_bufferSize" "I" (.int l_) ∧ Fld Z h b_ "com/example/boceto/boceto/signature/ComponentBuffers" "_sizes" "[I" (.ref S_) ∧ Fld Z h b_ "com/example/boceto/boceto/signature/ComponentBuffers" "_thresholds" "[D" (.ref T_) ∧ Fld Z h b_ "com/example/boceto/boceto/signature/ComponentBuffers" "_capacity" "I" (.int cp2) ∧ Fld Z h b_ "com/example/boceto/boceto/signature/ComponentBuffers" "_points" "[D" (.ref P2) ∧ Fld Z h b_ "com/example/boceto/boceto/signature/ComponentBuffers" "_identities" "[J" (.ref I2) ∧ Fld Z h b_ "com/example/boceto/boceto/signature/ComponentBuffers" "_pointCount" "I" (.int q2) ∧ Arf Z h S_ .int Value.int M_ sz2 ∧ Arf Z h T_ .double vD M_ th2 ∧ Arf Z h P2 .double vD N2 pt2 ∧ Arf Z h I2 .long Value.long N2 id2 ∧ Exa Z h P2 "[D" ∧ Exa Z h I2 "[J" ∧ n0 ≤ P2 ∧ n0 ≤ I2 ∧ T_ ≠ P2 ∧ (I2 = I_ ∨ h0.size ≤ I2) ∧ (P2 = P_ ∨ h0.size ≤ P2) ∧ own_ir M_ c_.toNatClampNeg cap_ l_ sz_ th_ pt_ id_ p_ x_ cp2 N2 sz2 th2 pt2 id2) := by
  refine Pays.walk (plainFor_of_name pn_3) (fun m => ef_6 m b_ c_ (dv p_) x_ ) ?_
  intro p e s m below meth c T0 X0 hx hby hml hown hnm hZ e0 hret hlk
  have dc := @Jvm.hb _ _ hby
  have ow := @own_w Z a0 hw
  have ebS : b_ ≠ S_ := ne_exa E0 E1 (by decide)
  have ebT : b_ ≠ T_ := ne_exa E0 E2 (by decide)
  have ebP : b_ ≠ P_ := ne_exa E0 E3 (by decide)
  have ebI : b_ ≠ I_ := ne_exa E0 E4 (by decide)
  have eST : S_ ≠ T_ := ne_exa E1 E2 (by decide)
  have eSP : S_ ≠ P_ := ne_exa E1 E3 (by decide)
  have eSI : S_ ≠ I_ := ne_exa E1 E4 (by decide)
  have eTI : T_ ≠ I_ := ne_exa E2 E4 (by decide)
  have ePI : P_ ≠ I_ := ne_exa E3 E4 (by decide)
  have K0 := Keep.refl h0 [b_, S_, T_, P_, I_]
  have hC3 : cap_ = (1 : Int32) ∨ cap_ = (2 : Int32) ∨ cap_ = (3 : Int32) := hcap
  obtain ⟨st_, hst⟩ : ∃ z, c_ * cap_ = z := ⟨_, rfl⟩
  have hq := own_cs hcc hC3
  rw [hst] at hq
  obtain ⟨hq1, hq2, hk, hq3⟩ := hq
  have hS : 0 ≤ st_.toInt ∧ st_.toInt ≤ 8 := ⟨hq1, hq2⟩
  have hcn : 1 ≤ cap_.toNatClampNeg := by rcases hcap with rfl | rfl | rfl <;> decide
  have hNN : N_ = M_ * cap_.toNatClampNeg := hN
  have hNb : N_ < 2 ^ 31 := own_nb hM (own_cpn hC3).2.2 hNN
  have B0 := own_b0 (d := 0) hk hc.2 hNN (by omega)
  have b0 : ¬ st_ < 0 ∧ st_.toNatClampNeg < N_ := ⟨hq3, B0⟩
  have n1 := own_n1 hS
  have n2 := own_n2 hS
  have hce : ¬ (0 : Int32) = cap_ := by rcases hcap with rfl | rfl | rfl <;> decide
  obtain ⟨T1, X1, e1, st1⟩ := getF X0 hx hZ hown (host := "") (Or.inl (ow 37 rfl)) Via.refl e0 F3 (g := (mkF m 2 #[sR b_, sI c_, sD (dv p_), s2, sJ x_, s2, su, su, su, su, su] [(.ref b_), (.double (dv p_))])) rfl rfl (dc d8_2)
  obtain ⟨T3, X3, e3, st3⟩ := getF X1 hx hZ hown (host := "") (Or.inl (ow 34 rfl)) Via.refl e1 F2 (g := (mkF m 13 #[sR b_, sI c_, sD (dv p_), s2, sJ x_, s2, su, su, su, su, su] [(.ref b_)])) rfl rfl (dc d8_13)
  refine Goes.on (T' := T3) (g' := (mkF m 18 #[sR b_, sI c_, sD (dv p_), s2, sJ x_, s2, su, su, su, su, su] [(.int (sz_ c_.toNatClampNeg))])) (fun _ k => XS.dloadN X0.here hx rfl (dc d8_0) rfl (XS.aloadN X0.here hx rfl (dc d8_1) rfl rfl (st1 _ (XS.iloadN X1.here hx rfl (dc d8_5) rfl (ldKm X1 hx hZ e1 A2 hc (dc d8_6) (XS.dcmpS X1.here hx rfl (dc d8_7) rfl rfl (XS.ifYes X1.here hx rfl (pc0 := 8) (pc' := 12) rfl (dc d8_8) rfl (dd_le_t ht) (by decide) (by decide) (XS.aloadN X1.here hx rfl (dc d8_12) rfl rfl (st3 _ (XS.iloadN X3.here hx rfl (dc d8_16) rfl (ldIm X3 hx hZ e3 A1 hc (dc d8_17) k))))))))))) ?_
  rw [hsz]
  obtain ⟨T5, X5, e5, st5⟩ := getF X3 hx hZ hown (host := "") (Or.inl (ow 44 rfl)) Via.refl e3 F4 (g := (mkF m 23 #[sR b_, sI c_, sD (dv p_), s2, sJ x_, s2, sI 0, su, su, su, su] [(.ref b_), (.int 0)])) rfl rfl (dc d8_23)
  obtain ⟨T6, X6, e6, st6⟩ := getF X5 hx hZ hown (host := "") (Or.inl (ow 44 rfl)) Via.refl e5 F4 (g := (mkF m 44 #[sR b_, sI c_, sD (dv p_), s2, sJ x_, s2, sI 0, su, su, su, su] [(.ref b_), (.int c_)])) rfl rfl (dc d8_44)
  refine Goes.on (T' := T6) (g' := (mkF m 48 #[sR b_, sI c_, sD (dv p_), s2, sJ x_, s2, sI 0, su, su, su, su] [(.int (c_ * cap_))])) (fun _ k => XS.istore X3.here hx rfl (dc d8_18) rfl (l' := #[sR b_, sI c_, sD (dv p_), s2, sJ x_, s2, sI 0, su, su, su, su]) rfl (XS.iload X3.here hx rfl (dc d8_20) rfl (XS.aloadN X3.here hx rfl (dc d8_22) rfl rfl (st5 _ (XS.icmpYes X5.here hx rfl (pc0 := 26) (pc' := 42) rfl (dc d8_26) rfl (XT.ii_ne_t hce) (by decide) (by decide) (XS.iloadN X5.here hx rfl (dc d8_42) rfl (XS.aloadN X5.here hx rfl (dc d8_43) rfl rfl (st6 _ (XS.imul X6.here hx rfl (dc d8_47) rfl k))))))))) ?_
  rw [hst]
  refine Goes.on (T' := T6) (g' := (mkF m 55 #[sR b_, sI c_, sD (dv p_), s2, sJ x_, s2, sI 0, sI st_, su, su, su] [(.int (st_ + (0 : Int32)))])) (fun _ k => XS.istore X6.here hx rfl (dc d8_48) rfl (l' := #[sR b_, sI c_, sD (dv p_), s2, sJ x_, s2, sI 0, sI st_, su, su, su]) rfl (XS.iload X6.here hx rfl (dc d8_50) rfl (XS.iload X6.here hx rfl (dc d8_52) rfl (XS.iadd X6.here hx rfl (dc d8_54) rfl k)))) ?_
  rw [own_a0 hS]
  refine Goes.on (T' := T6) (g' := (mkF m 63 #[sR b_, sI c_, sD (dv p_), s2, sJ x_, s2, sI 0, sI st_, sI st_, su, su] [(.double (dv p_)), (.int st_), (.int st_), (.ref b_)])) (fun _ k => XS.istore X6.here hx rfl (dc d8_55) rfl (l' := #[sR b_, sI c_, sD (dv p_), s2, sJ x_, s2, sI 0, sI st_, sI st_, su, su]) rfl (XS.aloadN X6.here hx rfl (dc d8_57) rfl rfl (XS.iload X6.here hx rfl (dc d8_58) rfl (XS.iload X6.here hx rfl (dc d8_60) rfl (XS.dloadN X6.here hx rfl (dc d8_62) rfl k))))) ?_
  refine Goes.callP X6 hx hZ 0 hown (ow 66 rfl) (ow 67 rfl) (ow 68 rfl) (ow 1 rfl) (ow 2 rfl) (ow 69 rfl) (by decide) e6 E0 (rmLB0 l Z a0 hw b_ st_ p_ h0 n0 Z0   hS) (by decide) (by decide) (by decide) (by decide) rfl (by rw [hml]; rfl) (argsL := [(.int st_), (.int st_), (.double (dv p_))]) (rest := []) rfl (lenOf pd_3 rfl) rfl (own_le20 rfl) (dc d8_63) ?_
  rintro v7 T7 L7 X7 ⟨rfl, N7q, e7⟩
  show Goes p e below _ T7 (mkF m 66 #[sR b_, sI c_, sD (dv p_), s2, sJ x_, s2, sI 0, sI st_, sI st_, su, su] [(.int st_)])
  obtain ⟨T8, X8, e8, st8⟩ := getF X7 hx hZ hown (host := "") (Or.inl (ow 31 rfl)) Via.refl e7 F1 (g := (mkF m 110 #[sR b_, sI c_, sD (dv p_), s2, sJ x_, s2, sI 0, sI st_, sI st_, sI st_, su] [(.ref b_), (.int 0)])) rfl rfl (dc d8_110)
  refine Goes.on (T' := T8) (g' := (mkF m 175 #[sR b_, sI c_, sD (dv p_), s2, sJ x_, s2, sI 0, sI st_, sI st_, sI st_, su] [(.int st_), (.int st_), (.ref b_)])) (fun _ k => XS.istore X7.here hx rfl (dc d8_66) rfl (l' := #[sR b_, sI c_, sD (dv p_), s2, sJ x_, s2, sI 0, sI st_, sI st_, sI st_, su]) rfl (XS.iload X7.here hx rfl (dc d8_68) rfl (XS.iload X7.here hx rfl (dc d8_70) rfl (XS.icmpYes X7.here hx rfl (pc0 := 72) (pc' := 107) rfl (dc d8_72) rfl (XT.ii_ge_t (own_irr _)) (by decide) (by decide) (XS.iload X7.here hx rfl (dc d8_107) rfl (XS.aloadN X7.here hx rfl (dc d8_109) rfl rfl (st8 _ (XS.icmpYes X8.here hx rfl (pc0 := 113) (pc' := 170) rfl (dc d8_113) rfl (XT.ii_ne_t hl) (by decide) (by decide) (XS.aloadN X8.here hx rfl (dc d8_170) rfl rfl (XS.iload X8.here hx rfl (dc d8_171) rfl (XS.iload X8.here hx rfl (dc d8_173) rfl k))))))))))) ?_
  refine Goes.callP X8 hx hZ 0 hown (ow 70 rfl) (ow 71 rfl) (ow 72 rfl) (ow 1 rfl) (ow 2 rfl) (ow 73 rfl) (by decide) e8 E0 (rmSh0 l Z a0 hw b_ P_ I_ N_ st_ st_ pt_ id_ h0 n0 Z0  E0 F5 F6 A3 A4 ebP ebI ePI g3 g4 (own_d00 _) ⟨hq3, by omega⟩ ⟨n1.2, n1.1⟩ hNb) (by decide) (by decide) (by decide) (by decide) rfl (by rw [hml]; rfl) (argsL := [(.int st_), (.int st_)]) (rest := []) rfl (lenOf pd_4 rfl) rfl (own_le20 rfl) (dc d8_175) ?_
  rintro v9 T9 L9 X9 ⟨rfl, N9q, K9, P9_0, P9_1⟩
  show Goes p e below _ T9 (mkF m 178 #[sR b_, sI c_, sD (dv p_), s2, sJ x_, s2, sI 0, sI st_, sI st_, sI st_, su] [])
  have ni12 := (ninS ebP (ninS ebI nin0))
  have C16 := F5.keep K9 ni12
  have ni20 := (ninS eSP (ninS eSI nin0))
  have ni22 := (ninS nTP (ninS eTI nin0))
  have K28 := K0.trans K9 (allS (Or.inl (List.mem_of_getElem? (i := 3) rfl)) (allS (Or.inl (List.mem_of_getElem? (i := 4) rfl)) all0))
  obtain ⟨T29, X29, e29, st29⟩ := getF X9 hx hZ hown (host := "") (Or.inl (ow 46 rfl)) Via.refl rfl C16 (g := (mkF m 179 #[sR b_, sI c_, sD (dv p_), s2, sJ x_, s2, sI 0, sI st_, sI st_, sI st_, su] [(.ref b_)])) rfl rfl (dc d8_179)
  obtain ⟨T30, h30, X30, e30, W30, B30, st30⟩ := wrK X29 hx hZ e29 P9_0 b0  (g := (mkF m 185 #[sR b_, sI c_, sD (dv p_), s2, sJ x_, s2, sI 0, sI st_, sI st_, sI st_, su] [(.double (dv p_)), (.int st_), (.ref P_)])) rfl rfl (dc d8_185)
  have C37 := (F6.keep K9 ni12).other W30 (Or.inl ebP)
  have C45 := P9_1.other W30 ePI.symm
  have K47 := K28.wr W30 (Or.inl (List.mem_of_getElem? (i := 3) rfl))
  have B30 : Arf Z h30 P_ .double vD N_ (Upd pt_ st_.toNatClampNeg p_) := B30
  obtain ⟨T48, X48, e48, st48⟩ := getF X30 hx hZ hown (host := "") (Or.inl (ow 49 rfl)) Via.refl e30 C37 (g := (mkF m 187 #[sR b_, sI c_, sD (dv p_), s2, sJ x_, s2, sI 0, sI st_, sI st_, sI st_, su] [(.ref b_)])) rfl rfl (dc d8_187)
  obtain ⟨T49, h49, X49, e49, W49, B49, st49⟩ := wrJ X48 hx hZ e48 C45 b0  (g := (mkF m 194 #[sR b_, sI c_, sD (dv p_), s2, sJ x_, s2, sI 0, sI st_, sI st_, sI st_, su] [(.long x_), (.int st_), (.ref I_)])) rfl rfl (dc d8_194)
  have C52 := ((F2.keep K9 ni12).other W30 (Or.inl ebP)).other W49 (Or.inl ebI)
  have C58 := ((A1.keep K9 ni20).other W30 eSP).other W49 eSI
  have K66 := K47.wr W49 (Or.inl (List.mem_of_getElem? (i := 4) rfl))
  have B49 : Arf Z h49 I_ .long Value.long N_ (Upd id_ st_.toNatClampNeg x_) := B49
  obtain ⟨T67, X67, e67, st67⟩ := getF X49 hx hZ hown (host := "") (Or.inl (ow 34 rfl)) Via.refl e49 C52 (g := (mkF m 196 #[sR b_, sI c_, sD (dv p_), s2, sJ x_, s2, sI 0, sI st_, sI st_, sI st_, su] [(.ref b_)])) rfl rfl (dc d8_196)
  obtain ⟨T68, h68, X68, e68, W68, B68, st68⟩ := wrI X67 hx hZ e67 C58 hc  (g := (mkF m 204 #[sR b_, sI c_, sD (dv p_), s2, sJ x_, s2, sI 0, sI st_, sI st_, sI st_, su] [(.int 1), (.int c_), (.ref S_)])) rfl rfl (dc d8_204)
  have C69 := (((E0.keep K9).wr W30).wr W49).wr W68
  have C76 := (((F7.keep K9 ni12).other W30 (Or.inl ebP)).other W49 (Or.inl ebI)).other W68 (Or.inl ebS)
  have K85 := K66.wr W68 (Or.inl (List.mem_of_getElem? (i := 1) rfl))
  have B68 : Arf Z h68 S_ .int Value.int M_ (Upd sz_ c_.toNatClampNeg (1 : Int32)) := B68
  obtain ⟨T86, X86, e86, st86⟩ := getF X68 hx hZ hown (host := "") (Or.inl (ow 78 rfl)) Via.refl e68 C76 (g := (mkF m 207 #[sR b_, sI c_, sD (dv p_), s2, sJ x_, s2, sI 0, sI st_, sI st_, sI st_, su] [(.ref b_), (.ref b_)])) rfl rfl (dc d8_207)
  obtain ⟨T87, h87, X87, e87, W87, st87⟩ := putF X86 hx hZ hown (host := "") (Or.inl (ow 78 rfl)) Via.refl e86 C76 C69 (Or.inl (ow 79 rfl)) (ow 1 rfl) (ty := .int) (by decide) rfl rfl (g := (mkF m 212 #[sR b_, sI c_, sD (dv p_), s2, sJ x_, s2, sI 0, sI st_, sI st_, sI st_, su] [(.int (q_ + (1 : Int32))), (.ref b_)])) rfl rfl (dc d8_212)
  have N87 := Fr.snoc X87 (Fr.snoc X68 (Fr.snoc X49 (Fr.snoc X30 (Fr.app (Fr.app (Fr.nil n0) N7q) N9q) g3) g4) g1) g0
  have C89 := ((((F1.keep K9 ni12).other W30 (Or.inl ebP)).other W49 (Or.inl ebI)).other W68 (Or.inl ebS)).other W87 (Or.inr (sn51 hw))
  have C90 := (C52.other W68 (Or.inl ebS)).other W87 (Or.inr (sn52 hw))
  have C91 := ((((F3.keep K9 ni12).other W30 (Or.inl ebP)).other W49 (Or.inl ebI)).other W68 (Or.inl ebS)).other W87 (Or.inr (sn53 hw))
  have C92 := ((((F4.keep K9 ni12).other W30 (Or.inl ebP)).other W49 (Or.inl ebI)).other W68 (Or.inl ebS)).other W87 (Or.inr (sn54 hw))
  have C93 := (((C16.other W30 (Or.inl ebP)).other W49 (Or.inl ebI)).other W68 (Or.inl ebS)).other W87 (Or.inr (sn55 hw))
  have C94 := ((C37.other W49 (Or.inl ebI)).other W68 (Or.inl ebS)).other W87 (Or.inr (sn56 hw))
  have C95 := C76.same W87
  have C96 := B68.other W87 ebS.symm
  have C97 := ((((A2.keep K9 ni22).other W30 nTP).other W49 eTI).other W68 eST.symm).other W87 ebT.symm
  have C100 := ((((E3.keep K9).wr W30).wr W49).wr W68).wr W87
  have C101 := ((((E4.keep K9).wr W30).wr W49).wr W68).wr W87
  have C102 := ((B30.other W49 ePI).other W68 eSP.symm).other W87 ebP.symm
  have C103 := (B49.other W68 eSI.symm).other W87 ebI.symm
  have K105 := K85.wr W87 (Or.inl (List.mem_of_getElem? (i := 0) rfl))
  have O : own_one (0 : Int32) (pt_ st_.toNatClampNeg) (id_ st_.toNatClampNeg) p_ x_ (1 : Int32) (th_ c_.toNatClampNeg) p_ (pt_ (st_.toNatClampNeg + 1)) x_ := by
    refine ⟨by decide, by decide, ?_, ?_, ?_, ?_⟩
    · exact fun _ => ⟨rfl, rfl⟩
    · exact fun q => absurd (Or.inl rfl) q
    · exact fun _ => by omega
    · exact fun q => absurd q (by decide)
  have Z4 : ((1 : Int32)).toInt ≤ (cap_.toNatClampNeg : Int) := by
    have q : ((1 : Int32)).toInt = 1 := rfl
    omega
  have LR : own_lr c_.toNatClampNeg st_.toNatClampNeg cap_.toNatClampNeg sz_ th_ pt_ id_ p_ x_ (Upd sz_ c_.toNatClampNeg (1 : Int32)) th_ (Upd pt_ st_.toNatClampNeg p_) (Upd id_ st_.toNatClampNeg x_) := ⟨fun i hi => ⟨by simp [Upd, hi], rfl⟩, fun y hy => ⟨(by have y0 : y ≠ st_.toNatClampNeg := (by omega); simp [Upd, n1.1, n2.1, (own_n11 hS).2, y0]), (by have y0 : y ≠ st_.toNatClampNeg := (by omega); simp [Upd, n1.1, n2.1, (own_n11 hS).2, y0])⟩, own_oc hsz (updS _ _ _) rfl (by simp [Upd, n1.1, n2.1, (own_n11 hS).2] <;> omega) (by simp [Upd, n1.1, n2.1, (own_n11 hS).2] <;> omega) (by simp [Upd, n1.1, n2.1, (own_n11 hS).2] <;> omega) O, by rw [updS]; exact Z4⟩
  refine Goes.on (T' := T87) (g' := (mkF m 215 #[sR b_, sI c_, sD (dv p_), s2, sJ x_, s2, sI 0, sI st_, sI st_, sI st_, su] [])) (fun _ k => XS.aloadN X9.here hx rfl (dc d8_178) rfl rfl (st29 _ (XS.iload X29.here hx rfl (dc d8_182) rfl (XS.dloadN X29.here hx rfl (dc d8_184) rfl (st30 _ (XS.aloadN X30.here hx rfl (dc d8_186) rfl rfl (st48 _ (XS.iload X48.here hx rfl (dc d8_190) rfl (XS.lload X48.here hx rfl (dc d8_192) rfl (st49 _ (XS.aloadN X49.here hx rfl (dc d8_195) rfl rfl (st67 _ (XS.iloadN X67.here hx rfl (dc d8_199) rfl (XS.iload X67.here hx rfl (dc d8_200) rfl (XS.iconst X67.here hx rfl (dc d8_202) (XS.iadd X67.here hx rfl (dc d8_203) rfl (st68 _ (XS.aloadN X68.here hx rfl (dc d8_205) rfl rfl (XS.dup X68.here hx rfl (dc d8_206) rfl rfl (st86 _ (XS.iconst X86.here hx rfl (dc d8_210) (XS.iadd X86.here hx rfl (dc d8_211) rfl (st87 _ k))))))))))))))))))))))) ?_
  exact Goes.retV X87 hx hlk hret (dc d8_215) (by decide) (by decide) (by rw [e87]; exact ⟨P_, I_, N_, cap_, (q_ + (1 : Int32)), (Upd sz_ c_.toNatClampNeg (1 : Int32)), th_, (Upd pt_ st_.toNatClampNeg p_), (Upd id_ st_.toNatClampNeg x_), rfl, N87, K105, C89, C90, C91, C92, C93, C94, C95, C96, C97, C102, C103, C100, C101, g3, g4, nTP, Or.inl rfl, Or.inl rfl, own_lr_ir hN hC3 hcl hz hk LR⟩)
theorem d8_11 : decode c8C 11 = .ok (.return_, 1) := by decide +kernel
theorem d8_75 : decode c8C 75 = .ok (.aload_n 0, 1) := by decide +kernel
theorem d8_76 : decode c8C 76 = .ok (.getfield 49, 3) := by decide +kernel
theorem d8_79 : decode c8C 79 = .ok (.iload 9, 2) := by decide +kernel
theorem d8_81 : decode c8C 81 = .ok (.daload, 1) := by decide +kernel
theorem d8_82 : decode c8C 82 = .ok (.dload_n 2, 1) := by decide +kernel
theorem d8_83 : decode c8C 83 = .ok (.dcmp .l, 1) := by decide +kernel
theorem d8_84 : decode c8C 84 = .ok (.ifCond .ne 23, 3) := by decide +kernel
theorem d8_87 : decode c8C 87 = .ok (.aload_n 0, 1) := by decide +kernel
theorem d8_88 : decode c8C 88 = .ok (.getfield 52, 3) := by decide +kernel
theorem d8_91 : decode c8C 91 = .ok (.iload 9, 2) := by decide +kernel
theorem d8_93 : decode c8C 93 = .ok (.laload, 1) := by decide +kernel
theorem d8_94 : decode c8C 94 = .ok (.lload 4, 2) := by decide +kernel
theorem d8_96 : decode c8C 96 = .ok (.lcmp, 1) := by decide +kernel
theorem d8_97 : decode c8C 97 = .ok (.ifCond .ne 4, 3) := by decide +kernel
theorem d8_100 : decode c8C 100 = .ok (.return_, 1) := by decide +kernel
theorem d8_101 : decode c8C 101 = .ok (.iinc 9 1, 3) := by decide +kernel
theorem d8_104 : decode c8C 104 = .ok (.goto (-36), 3) := by decide +kernel
theorem rmI1n (l : Launch) (Z : State) (a0 : Array Value) (hw : TW Z a0) (b_ S_ T_ P_ I_ : Addr) (M_ N_ : Nat) (c_ cap_ l_ q_ : Int32) (sz_ : Nat → Int32) (th_ pt_ : Nat → DK) (id_ : Nat → Int64) (p_ : DK) (x_ : Int64) (h0 : Heap) (n0 : Nat) (Z0 : n0 ≤ h0.size) (E0 : Exa Z h0 b_ "com/example/boceto/boceto/signature/ComponentBuffers") (F1 : Fld Z h0 b_ "com/example/boceto/boceto/signature/ComponentBuffers" "_bufferSize" "I" (.int l_)) (F2 : Fld Z h0 b_ "com/example/boceto/boceto/signature/ComponentBuffers" "_sizes" "[I" (.ref S_)) (F3 : Fld Z h0 b_ "com/example/boceto/boceto/signature/ComponentBuffers" "_thresholds" "[D" (.ref T_)) (F4 : Fld Z h0 b_ "com/example/boceto/boceto/signature/ComponentBuffers" "_capacity" "I" (.int cap_)) (F5 : Fld Z h0 b_ "com/example/boceto/boceto/signature/ComponentBuffers" "_points" "[D" (.ref P_)) (F6 : Fld Z h0 b_ "com/example/boceto/boceto/signature/ComponentBuffers" "_identities" "[J" (.ref I_)) (F7 : Fld Z h0 b_ "com/example/boceto/boceto/signature/ComponentBuffers" "_pointCount" "I" (.int q_)) (A1 : Arf Z h0 S_ .int Value.int M_ sz_) (A2 : Arf Z h0 T_ .double vD M_ th_) (A3 : Arf Z h0 P_ .double vD N_ pt_) (A4 : Arf Z h0 I_ .long Value.long N_ id_) (E1 : Exa Z h0 S_ "[I") (E2 : Exa Z h0 T_ "[D") (E3 : Exa Z h0 P_ "[D") (E4 : Exa Z h0 I_ "[J") (nTP : T_ ≠ P_) (g0 : n0 ≤ b_) (g1 : n0 ≤ S_) (g2 : n0 ≤ T_) (g3 : n0 ≤ P_) (g4 : n0 ≤ I_) (hc : ¬ c_ < 0 ∧ c_.toNatClampNeg < M_) (hcc : c_ = (0 : Int32) ∨ c_ = (1 : Int32) ∨ c_ = (2 : Int32)) (hM : M_ = 1 ∨ M_ = 2 ∨ M_ = 3) (hN : N_ = M_ * cap_.toNatClampNeg) (hcl : cap_.toInt ≤ l_.toInt) (hz : ∀ i, i < M_ → 0 ≤ (sz_ i).toInt ∧ (sz_ i).toInt ≤ cap_.toInt) (hsz : sz_ c_.toNatClampNeg = (1 : Int32)) (hcap : cap_ = (2 : Int32) ∨ cap_ = (3 : Int32)) (hl : ¬ (1 : Int32) = l_) (hpt : (pt_ (c_.toNatClampNeg * cap_.toNatClampNeg)).1 ≤ (th_ c_.toNatClampNeg).1) :
    Pays l Z (⟨"com/example/boceto/boceto/signature/ComponentBuffers", "insert", "(IDJ)V"⟩ : MethodName) prog_28_method_6_code 11 none [] ({ frames := 2, cells := 2, slots := 18, locals := 60 } : Room) #[(.ref b_), (.int c_), (.double (dv p_)), (.long x_)] h0 (fun v h L => ∃ (P2 I2 : Addr) (N2 : Nat) (cp2 q2 : Int32) (sz2 : Nat → Int32) (th2 pt2 : Nat → DK) (id2 : Nat → Int64), v = none ∧ Fr n0 L ∧ Keep h0 h [b_, S_, T_, P_, I_] ∧ Fld Z h b_ "com/example/boceto/boceto/signature/ComponentBuffers" "_bufferSize" "I" (.int l_) ∧ Fld Z h b_ "com/example/boceto/boceto/signature/ComponentBuffers" "_sizes" "[I" (.ref S_) ∧ Fld Z h b_ "com/example/boceto/boceto/signature/ComponentBuffers" "_thresholds" "[D" (.ref T_) ∧ Fld Z h b_ "com/example/boceto/boceto/signature/ComponentBuffers" "_capacity" "I" (.int cp2) ∧ Fld Z h b_ "com/example/boceto/boceto/signature/ComponentBuffers" "_points" "[D" (.ref P2) ∧ Fld Z h b_ "com/example/boceto/boceto/signature/ComponentBuffers" "_identities" "[J" (.ref I2) ∧ Fld Z h b_ "com/example/boceto/boceto/signature/ComponentBuffers" "_pointCount" "I" (.int q2) ∧ Arf Z h S_ .int Value.int M_ sz2 ∧ Arf Z h T_ .double vD M_ th2 ∧ Arf Z h P2 .double vD N2 pt2 ∧ Arf Z h I2 .long Value.long N2 id2 ∧ Exa Z h P2 "[D" ∧ Exa Z h I2 "[J" ∧ n0 ≤ P2 ∧ n0 ≤ I2 ∧ T_ ≠ P2 ∧ (I2 = I_ ∨ h0.size ≤ I2) ∧ (P2 = P_ ∨ h0.size ≤ P2) ∧ own_ir M_ c_.toNatClampNeg cap_ l_ sz_ th_ pt_ id_ p_ x_ cp2 N2 sz2 th2 pt2 id2) := by
  refine Pays.walk (plainFor_of_name pn_3) (fun m => ef_6 m b_ c_ (dv p_) x_ ) ?_
  intro p e s m below meth c T0 X0 hx hby hml hown hnm hZ e0 hret hlk
  have dc := @Jvm.hb _ _ hby
  have ow := @own_w Z a0 hw
  have N0 := Fr.nil n0
  have ebS : b_ ≠ S_ := ne_exa E0 E1 (by decide)
  have ebT : b_ ≠ T_ := ne_exa E0 E2 (by decide)
  have ebP : b_ ≠ P_ := ne_exa E0 E3 (by decide)
  have ebI : b_ ≠ I_ := ne_exa E0 E4 (by decide)
  have eST : S_ ≠ T_ := ne_exa E1 E2 (by decide)
  have eSP : S_ ≠ P_ := ne_exa E1 E3 (by decide)
  have eSI : S_ ≠ I_ := ne_exa E1 E4 (by decide)
  have eTI : T_ ≠ I_ := ne_exa E2 E4 (by decide)
  have ePI : P_ ≠ I_ := ne_exa E3 E4 (by decide)
  have K0 := Keep.refl h0 [b_, S_, T_, P_, I_]
  have hC3 : cap_ = (1 : Int32) ∨ cap_ = (2 : Int32) ∨ cap_ = (3 : Int32) := (Or.inr hcap)
  obtain ⟨st_, hst⟩ : ∃ z, c_ * cap_ = z := ⟨_, rfl⟩
  have hq := own_cs hcc hC3
  rw [hst] at hq
  obtain ⟨hq1, hq2, hk, hq3⟩ := hq
  have hS : 0 ≤ st_.toInt ∧ st_.toInt ≤ 8 := ⟨hq1, hq2⟩
  have hcn : 2 ≤ cap_.toNatClampNeg := by rcases hcap with rfl | rfl <;> decide
  have hNN : N_ = M_ * cap_.toNatClampNeg := hN
  have hNb : N_ < 2 ^ 31 := own_nb hM (own_cpn hC3).2.2 hNN
  have B0 := own_b0 (d := 0) hk hc.2 hNN (by omega)
  have B1 := own_b0 (d := 1) hk hc.2 hNN (by omega)
  have b0 : ¬ st_ < 0 ∧ st_.toNatClampNeg < N_ := ⟨hq3, B0⟩
  have n1 := own_n1 hS
  have b1 : ¬ (st_ + (1 : Int32)) < 0 ∧ (st_ + (1 : Int32)).toNatClampNeg < N_ := ⟨n1.2, by rw [n1.1]; exact B1⟩
  have n2 := own_n2 hS
  have hce : ¬ (1 : Int32) = cap_ := by rcases hcap with rfl | rfl <;> decide
  have hP0 : (pt_ st_.toNatClampNeg).1 ≤ (th_ c_.toNatClampNeg).1 := by rw [hk]; exact hpt
  obtain ⟨T1, X1, e1, st1⟩ := getF X0 hx hZ hown (host := "") (Or.inl (ow 37 rfl)) Via.refl e0 F3 (g := (mkF m 2 #[sR b_, sI c_, sD (dv p_), s2, sJ x_, s2, su, su, su, su, su] [(.ref b_), (.double (dv p_))])) rfl rfl (dc d8_2)
  refine Goes.on (T' := T1) (g' := (mkF m 8 #[sR b_, sI c_, sD (dv p_), s2, sJ x_, s2, su, su, su, su, su] [(.int (cmpValue (FP.dcmp (dv p_) (dv (th_ c_.toNatClampNeg))) .l))])) (fun _ k => XS.dloadN X0.here hx rfl (dc d8_0) rfl (XS.aloadN X0.here hx rfl (dc d8_1) rfl rfl (st1 _ (XS.iloadN X1.here hx rfl (dc d8_5) rfl (ldKm X1 hx hZ e1 A2 hc (dc d8_6) (XS.dcmpS X1.here hx rfl (dc d8_7) rfl rfl k)))))) ?_
  by_cases hc3 : (th_ c_.toNatClampNeg).1 < p_.1
  · have O : own_one (1 : Int32) (pt_ st_.toNatClampNeg) (id_ st_.toNatClampNeg) p_ x_ (1 : Int32) (th_ c_.toNatClampNeg) (pt_ st_.toNatClampNeg) (pt_ (st_.toNatClampNeg + 1)) (id_ st_.toNatClampNeg) := by
      refine ⟨by decide, by decide, ?_, ?_, ?_, ?_⟩
      · exact fun q => by
         rcases q with q | q
         · exact absurd q (by decide)
         · exfalso; omega
      · exact fun _ => ⟨rfl, rfl⟩
      · exact fun _ => by omega
      · exact fun q => absurd q (by decide)
    have Z4 : ((1 : Int32)).toInt ≤ (cap_.toNatClampNeg : Int) := by
      have q : ((1 : Int32)).toInt = 1 := rfl
      omega
    have LR : own_lr c_.toNatClampNeg st_.toNatClampNeg cap_.toNatClampNeg sz_ th_ pt_ id_ p_ x_ sz_ th_ pt_ id_ := ⟨fun i hi => ⟨rfl, rfl⟩, fun y hy => ⟨rfl, rfl⟩, own_oc hsz hsz rfl rfl rfl rfl O, by rw [hsz]; exact Z4⟩
    refine Goes.on (T' := T1) (g' := (mkF m 11 #[sR b_, sI c_, sD (dv p_), s2, sJ x_, s2, su, su, su, su, su] [])) (fun _ k => XS.ifNo X1.here hx rfl (dc d8_8) rfl (dd_le_f hc3) k) ?_
    exact Goes.retV X1 hx hlk hret (dc d8_11) (by decide) (by decide) (by rw [e1]; exact ⟨P_, I_, N_, cap_, q_, sz_, th_, pt_, id_, rfl, N0, K0, F1, F2, F3, F4, F5, F6, F7, A1, A2, A3, A4, E3, E4, g3, g4, nTP, Or.inl rfl, Or.inl rfl, own_lr_ir hN hC3 hcl hz hk LR⟩)
  · obtain ⟨T4, X4, e4, st4⟩ := getF X1 hx hZ hown (host := "") (Or.inl (ow 34 rfl)) Via.refl e1 F2 (g := (mkF m 13 #[sR b_, sI c_, sD (dv p_), s2, sJ x_, s2, su, su, su, su, su] [(.ref b_)])) rfl rfl (dc d8_13)
    refine Goes.on (T' := T4) (g' := (mkF m 18 #[sR b_, sI c_, sD (dv p_), s2, sJ x_, s2, su, su, su, su, su] [(.int (sz_ c_.toNatClampNeg))])) (fun _ k => XS.ifYes X1.here hx rfl (pc0 := 8) (pc' := 12) rfl (dc d8_8) rfl (dd_le_t hc3) (by decide) (by decide) (XS.aloadN X1.here hx rfl (dc d8_12) rfl rfl (st4 _ (XS.iloadN X4.here hx rfl (dc d8_16) rfl (ldIm X4 hx hZ e4 A1 hc (dc d8_17) k))))) ?_
    rw [hsz]
    obtain ⟨T6, X6, e6, st6⟩ := getF X4 hx hZ hown (host := "") (Or.inl (ow 44 rfl)) Via.refl e4 F4 (g := (mkF m 23 #[sR b_, sI c_, sD (dv p_), s2, sJ x_, s2, sI 1, su, su, su, su] [(.ref b_), (.int 1)])) rfl rfl (dc d8_23)
    obtain ⟨T7, X7, e7, st7⟩ := getF X6 hx hZ hown (host := "") (Or.inl (ow 44 rfl)) Via.refl e6 F4 (g := (mkF m 44 #[sR b_, sI c_, sD (dv p_), s2, sJ x_, s2, sI 1, su, su, su, su] [(.ref b_), (.int c_)])) rfl rfl (dc d8_44)
    refine Goes.on (T' := T7) (g' := (mkF m 48 #[sR b_, sI c_, sD (dv p_), s2, sJ x_, s2, sI 1, su, su, su, su] [(.int (c_ * cap_))])) (fun _ k => XS.istore X4.here hx rfl (dc d8_18) rfl (l' := #[sR b_, sI c_, sD (dv p_), s2, sJ x_, s2, sI 1, su, su, su, su]) rfl (XS.iload X4.here hx rfl (dc d8_20) rfl (XS.aloadN X4.here hx rfl (dc d8_22) rfl rfl (st6 _ (XS.icmpYes X6.here hx rfl (pc0 := 26) (pc' := 42) rfl (dc d8_26) rfl (XT.ii_ne_t hce) (by decide) (by decide) (XS.iloadN X6.here hx rfl (dc d8_42) rfl (XS.aloadN X6.here hx rfl (dc d8_43) rfl rfl (st7 _ (XS.imul X7.here hx rfl (dc d8_47) rfl k))))))))) ?_
    rw [hst]
    refine Goes.on (T' := T7) (g' := (mkF m 63 #[sR b_, sI c_, sD (dv p_), s2, sJ x_, s2, sI 1, sI st_, sI (st_ + (1 : Int32)), su, su] [(.double (dv p_)), (.int (st_ + (1 : Int32))), (.int st_), (.ref b_)])) (fun _ k => XS.istore X7.here hx rfl (dc d8_48) rfl (l' := #[sR b_, sI c_, sD (dv p_), s2, sJ x_, s2, sI 1, sI st_, su, su, su]) rfl (XS.iload X7.here hx rfl (dc d8_50) rfl (XS.iload X7.here hx rfl (dc d8_52) rfl (XS.iadd X7.here hx rfl (dc d8_54) rfl (XS.istore X7.here hx rfl (dc d8_55) rfl (l' := #[sR b_, sI c_, sD (dv p_), s2, sJ x_, s2, sI 1, sI st_, sI (st_ + (1 : Int32)), su, su]) rfl (XS.aloadN X7.here hx rfl (dc d8_57) rfl rfl (XS.iload X7.here hx rfl (dc d8_58) rfl (XS.iload X7.here hx rfl (dc d8_60) rfl (XS.dloadN X7.here hx rfl (dc d8_62) rfl k))))))))) ?_
    by_cases hc8 : (pt_ st_.toNatClampNeg).1 < p_.1
    · refine Goes.callP X7 hx hZ 0 hown (ow 66 rfl) (ow 67 rfl) (ow 68 rfl) (ow 1 rfl) (ow 2 rfl) (ow 69 rfl) (by decide) e7 E0 (rmLB1t l Z a0 hw b_ P_ N_ pt_ st_ p_ h0 n0 Z0  E0 F5 A3 hS b0 hc8) (by decide) (by decide) (by decide) (by decide) rfl (by rw [hml]; rfl) (argsL := [(.int st_), (.int (st_ + (1 : Int32))), (.double (dv p_))]) (rest := []) rfl (lenOf pd_3 rfl) rfl (own_le20 rfl) (dc d8_63) ?_
      rintro v9 T9 L9 X9 ⟨rfl, N9q, e9⟩
      show Goes p e below _ T9 (mkF m 66 #[sR b_, sI c_, sD (dv p_), s2, sJ x_, s2, sI 1, sI st_, sI (st_ + (1 : Int32)), su, su] [(.int (st_ + (1 : Int32)))])
      obtain ⟨T10, X10, e10, st10⟩ := getF X9 hx hZ hown (host := "") (Or.inl (ow 31 rfl)) Via.refl e9 F1 (g := (mkF m 110 #[sR b_, sI c_, sD (dv p_), s2, sJ x_, s2, sI 1, sI st_, sI (st_ + (1 : Int32)), sI (st_ + (1 : Int32)), su] [(.ref b_), (.int 1)])) rfl rfl (dc d8_110)
      refine Goes.on (T' := T10) (g' := (mkF m 175 #[sR b_, sI c_, sD (dv p_), s2, sJ x_, s2, sI 1, sI st_, sI (st_ + (1 : Int32)), sI (st_ + (1 : Int32)), su] [(.int (st_ + (1 : Int32))), (.int (st_ + (1 : Int32))), (.ref b_)])) (fun _ k => XS.istore X9.here hx rfl (dc d8_66) rfl (l' := #[sR b_, sI c_, sD (dv p_), s2, sJ x_, s2, sI 1, sI st_, sI (st_ + (1 : Int32)), sI (st_ + (1 : Int32)), su]) rfl (XS.iload X9.here hx rfl (dc d8_68) rfl (XS.iload X9.here hx rfl (dc d8_70) rfl (XS.icmpYes X9.here hx rfl (pc0 := 72) (pc' := 107) rfl (dc d8_72) rfl (XT.ii_ge_t (own_irr _)) (by decide) (by decide) (XS.iload X9.here hx rfl (dc d8_107) rfl (XS.aloadN X9.here hx rfl (dc d8_109) rfl rfl (st10 _ (XS.icmpYes X10.here hx rfl (pc0 := 113) (pc' := 170) rfl (dc d8_113) rfl (XT.ii_ne_t hl) (by decide) (by decide) (XS.aloadN X10.here hx rfl (dc d8_170) rfl rfl (XS.iload X10.here hx rfl (dc d8_171) rfl (XS.iload X10.here hx rfl (dc d8_173) rfl k))))))))))) ?_
      refine Goes.callP X10 hx hZ 0 hown (ow 70 rfl) (ow 71 rfl) (ow 72 rfl) (ow 1 rfl) (ow 2 rfl) (ow 73 rfl) (by decide) e10 E0 (rmSh0 l Z a0 hw b_ P_ I_ N_ (st_ + (1 : Int32)) (st_ + (1 : Int32)) pt_ id_ h0 n0 Z0  E0 F5 F6 A3 A4 ebP ebI ePI g3 g4 (own_d00 _) ⟨n1.2, by rw [n1.1]; omega⟩ (own_n11 hS) hNb) (by decide) (by decide) (by decide) (by decide) rfl (by rw [hml]; rfl) (argsL := [(.int (st_ + (1 : Int32))), (.int (st_ + (1 : Int32)))]) (rest := []) rfl (lenOf pd_4 rfl) rfl (own_le20 rfl) (dc d8_175) ?_
      rintro v11 T11 L11 X11 ⟨rfl, N11q, K11, P11_0, P11_1⟩
      show Goes p e below _ T11 (mkF m 178 #[sR b_, sI c_, sD (dv p_), s2, sJ x_, s2, sI 1, sI st_, sI (st_ + (1 : Int32)), sI (st_ + (1 : Int32)), su] [])
      have ni14 := (ninS ebP (ninS ebI nin0))
      have C18 := F5.keep K11 ni14
      have ni22 := (ninS eSP (ninS eSI nin0))
      have ni24 := (ninS nTP (ninS eTI nin0))
      have K30 := K0.trans K11 (allS (Or.inl (List.mem_of_getElem? (i := 3) rfl)) (allS (Or.inl (List.mem_of_getElem? (i := 4) rfl)) all0))
      obtain ⟨T31, X31, e31, st31⟩ := getF X11 hx hZ hown (host := "") (Or.inl (ow 46 rfl)) Via.refl rfl C18 (g := (mkF m 179 #[sR b_, sI c_, sD (dv p_), s2, sJ x_, s2, sI 1, sI st_, sI (st_ + (1 : Int32)), sI (st_ + (1 : Int32)), su] [(.ref b_)])) rfl rfl (dc d8_179)
      obtain ⟨T32, h32, X32, e32, W32, B32, st32⟩ := wrK X31 hx hZ e31 P11_0 b1  (g := (mkF m 185 #[sR b_, sI c_, sD (dv p_), s2, sJ x_, s2, sI 1, sI st_, sI (st_ + (1 : Int32)), sI (st_ + (1 : Int32)), su] [(.double (dv p_)), (.int (st_ + (1 : Int32))), (.ref P_)])) rfl rfl (dc d8_185)
      have C39 := (F6.keep K11 ni14).other W32 (Or.inl ebP)
      have C47 := P11_1.other W32 ePI.symm
      have K49 := K30.wr W32 (Or.inl (List.mem_of_getElem? (i := 3) rfl))
      have B32 : Arf Z h32 P_ .double vD N_ (Upd pt_ (st_ + (1 : Int32)).toNatClampNeg p_) := B32
      obtain ⟨T50, X50, e50, st50⟩ := getF X32 hx hZ hown (host := "") (Or.inl (ow 49 rfl)) Via.refl e32 C39 (g := (mkF m 187 #[sR b_, sI c_, sD (dv p_), s2, sJ x_, s2, sI 1, sI st_, sI (st_ + (1 : Int32)), sI (st_ + (1 : Int32)), su] [(.ref b_)])) rfl rfl (dc d8_187)
      obtain ⟨T51, h51, X51, e51, W51, B51, st51⟩ := wrJ X50 hx hZ e50 C47 b1  (g := (mkF m 194 #[sR b_, sI c_, sD (dv p_), s2, sJ x_, s2, sI 1, sI st_, sI (st_ + (1 : Int32)), sI (st_ + (1 : Int32)), su] [(.long x_), (.int (st_ + (1 : Int32))), (.ref I_)])) rfl rfl (dc d8_194)
      have C54 := ((F2.keep K11 ni14).other W32 (Or.inl ebP)).other W51 (Or.inl ebI)
      have C60 := ((A1.keep K11 ni22).other W32 eSP).other W51 eSI
      have K68 := K49.wr W51 (Or.inl (List.mem_of_getElem? (i := 4) rfl))
      have B51 : Arf Z h51 I_ .long Value.long N_ (Upd id_ (st_ + (1 : Int32)).toNatClampNeg x_) := B51
      obtain ⟨T69, X69, e69, st69⟩ := getF X51 hx hZ hown (host := "") (Or.inl (ow 34 rfl)) Via.refl e51 C54 (g := (mkF m 196 #[sR b_, sI c_, sD (dv p_), s2, sJ x_, s2, sI 1, sI st_, sI (st_ + (1 : Int32)), sI (st_ + (1 : Int32)), su] [(.ref b_)])) rfl rfl (dc d8_196)
      obtain ⟨T70, h70, X70, e70, W70, B70, st70⟩ := wrI X69 hx hZ e69 C60 hc  (g := (mkF m 204 #[sR b_, sI c_, sD (dv p_), s2, sJ x_, s2, sI 1, sI st_, sI (st_ + (1 : Int32)), sI (st_ + (1 : Int32)), su] [(.int 2), (.int c_), (.ref S_)])) rfl rfl (dc d8_204)
      have C71 := (((E0.keep K11).wr W32).wr W51).wr W70
      have C78 := (((F7.keep K11 ni14).other W32 (Or.inl ebP)).other W51 (Or.inl ebI)).other W70 (Or.inl ebS)
      have K87 := K68.wr W70 (Or.inl (List.mem_of_getElem? (i := 1) rfl))
      have B70 : Arf Z h70 S_ .int Value.int M_ (Upd sz_ c_.toNatClampNeg (2 : Int32)) := B70
      obtain ⟨T88, X88, e88, st88⟩ := getF X70 hx hZ hown (host := "") (Or.inl (ow 78 rfl)) Via.refl e70 C78 (g := (mkF m 207 #[sR b_, sI c_, sD (dv p_), s2, sJ x_, s2, sI 1, sI st_, sI (st_ + (1 : Int32)), sI (st_ + (1 : Int32)), su] [(.ref b_), (.ref b_)])) rfl rfl (dc d8_207)
      obtain ⟨T89, h89, X89, e89, W89, st89⟩ := putF X88 hx hZ hown (host := "") (Or.inl (ow 78 rfl)) Via.refl e88 C78 C71 (Or.inl (ow 79 rfl)) (ow 1 rfl) (ty := .int) (by decide) rfl rfl (g := (mkF m 212 #[sR b_, sI c_, sD (dv p_), s2, sJ x_, s2, sI 1, sI st_, sI (st_ + (1 : Int32)), sI (st_ + (1 : Int32)), su] [(.int (q_ + (1 : Int32))), (.ref b_)])) rfl rfl (dc d8_212)
      have N89 := Fr.snoc X89 (Fr.snoc X70 (Fr.snoc X51 (Fr.snoc X32 (Fr.app (Fr.app N0 N9q) N11q) g3) g4) g1) g0
      have C91 := ((((F1.keep K11 ni14).other W32 (Or.inl ebP)).other W51 (Or.inl ebI)).other W70 (Or.inl ebS)).other W89 (Or.inr (sn51 hw))
      have C92 := (C54.other W70 (Or.inl ebS)).other W89 (Or.inr (sn52 hw))
      have C93 := ((((F3.keep K11 ni14).other W32 (Or.inl ebP)).other W51 (Or.inl ebI)).other W70 (Or.inl ebS)).other W89 (Or.inr (sn53 hw))
      have C94 := ((((F4.keep K11 ni14).other W32 (Or.inl ebP)).other W51 (Or.inl ebI)).other W70 (Or.inl ebS)).other W89 (Or.inr (sn54 hw))
      have C95 := (((C18.other W32 (Or.inl ebP)).other W51 (Or.inl ebI)).other W70 (Or.inl ebS)).other W89 (Or.inr (sn55 hw))
      have C96 := ((C39.other W51 (Or.inl ebI)).other W70 (Or.inl ebS)).other W89 (Or.inr (sn56 hw))
      have C97 := C78.same W89
      have C98 := B70.other W89 ebS.symm
      have C99 := ((((A2.keep K11 ni24).other W32 nTP).other W51 eTI).other W70 eST.symm).other W89 ebT.symm
      have C102 := ((((E3.keep K11).wr W32).wr W51).wr W70).wr W89
      have C103 := ((((E4.keep K11).wr W32).wr W51).wr W70).wr W89
      have C104 := ((B32.other W51 ePI).other W70 eSP.symm).other W89 ebP.symm
      have C105 := (B51.other W70 eSI.symm).other W89 ebI.symm
      have K107 := K87.wr W89 (Or.inl (List.mem_of_getElem? (i := 0) rfl))
      have O : own_one (1 : Int32) (pt_ st_.toNatClampNeg) (id_ st_.toNatClampNeg) p_ x_ (2 : Int32) (th_ c_.toNatClampNeg) (pt_ st_.toNatClampNeg) p_ (id_ st_.toNatClampNeg) := by
        refine ⟨by decide, by decide, ?_, ?_, ?_, ?_⟩
        · exact fun q => by
           rcases q with q | q
           · exact absurd q (by decide)
           · exfalso; omega
        · exact fun _ => ⟨rfl, rfl⟩
        · exact fun _ => by omega
        · exact fun _ => by omega
      have Z4 : ((2 : Int32)).toInt ≤ (cap_.toNatClampNeg : Int) := by
        have q : ((2 : Int32)).toInt = 2 := rfl
        omega
      have LR : own_lr c_.toNatClampNeg st_.toNatClampNeg cap_.toNatClampNeg sz_ th_ pt_ id_ p_ x_ (Upd sz_ c_.toNatClampNeg (2 : Int32)) th_ (Upd pt_ (st_ + (1 : Int32)).toNatClampNeg p_) (Upd id_ (st_ + (1 : Int32)).toNatClampNeg x_) := ⟨fun i hi => ⟨by simp [Upd, hi], rfl⟩, fun y hy => ⟨(by have y0 : y ≠ st_.toNatClampNeg := (by omega); have y1 : y ≠ st_.toNatClampNeg + 1 := (by omega); simp [Upd, n1.1, n2.1, (own_n11 hS).2, y0, y1]), (by have y0 : y ≠ st_.toNatClampNeg := (by omega); have y1 : y ≠ st_.toNatClampNeg + 1 := (by omega); simp [Upd, n1.1, n2.1, (own_n11 hS).2, y0, y1])⟩, own_oc hsz (updS _ _ _) rfl (by simp [Upd, n1.1, n2.1, (own_n11 hS).2] <;> omega) (by simp [Upd, n1.1, n2.1, (own_n11 hS).2] <;> omega) (by simp [Upd, n1.1, n2.1, (own_n11 hS).2] <;> omega) O, by rw [updS]; exact Z4⟩
      refine Goes.on (T' := T89) (g' := (mkF m 215 #[sR b_, sI c_, sD (dv p_), s2, sJ x_, s2, sI 1, sI st_, sI (st_ + (1 : Int32)), sI (st_ + (1 : Int32)), su] [])) (fun _ k => XS.aloadN X11.here hx rfl (dc d8_178) rfl rfl (st31 _ (XS.iload X31.here hx rfl (dc d8_182) rfl (XS.dloadN X31.here hx rfl (dc d8_184) rfl (st32 _ (XS.aloadN X32.here hx rfl (dc d8_186) rfl rfl (st50 _ (XS.iload X50.here hx rfl (dc d8_190) rfl (XS.lload X50.here hx rfl (dc d8_192) rfl (st51 _ (XS.aloadN X51.here hx rfl (dc d8_195) rfl rfl (st69 _ (XS.iloadN X69.here hx rfl (dc d8_199) rfl (XS.iload X69.here hx rfl (dc d8_200) rfl (XS.iconst X69.here hx rfl (dc d8_202) (XS.iadd X69.here hx rfl (dc d8_203) rfl (st70 _ (XS.aloadN X70.here hx rfl (dc d8_205) rfl rfl (XS.dup X70.here hx rfl (dc d8_206) rfl rfl (st88 _ (XS.iconst X88.here hx rfl (dc d8_210) (XS.iadd X88.here hx rfl (dc d8_211) rfl (st89 _ k))))))))))))))))))))))) ?_
      exact Goes.retV X89 hx hlk hret (dc d8_215) (by decide) (by decide) (by rw [e89]; exact ⟨P_, I_, N_, cap_, (q_ + (1 : Int32)), (Upd sz_ c_.toNatClampNeg (2 : Int32)), th_, (Upd pt_ (st_ + (1 : Int32)).toNatClampNeg p_), (Upd id_ (st_ + (1 : Int32)).toNatClampNeg x_), rfl, N89, K107, C91, C92, C93, C94, C95, C96, C97, C98, C99, C104, C105, C102, C103, g3, g4, nTP, Or.inl rfl, Or.inl rfl, own_lr_ir hN hC3 hcl hz hk LR⟩)
    · refine Goes.callP X7 hx hZ 0 hown (ow 66 rfl) (ow 67 rfl) (ow 68 rfl) (ow 1 rfl) (ow 2 rfl) (ow 69 rfl) (by decide) e7 E0 (rmLB1f l Z a0 hw b_ P_ N_ pt_ st_ p_ h0 n0 Z0  E0 F5 A3 hS b0 hc8) (by decide) (by decide) (by decide) (by decide) rfl (by rw [hml]; rfl) (argsL := [(.int st_), (.int (st_ + (1 : Int32))), (.double (dv p_))]) (rest := []) rfl (lenOf pd_3 rfl) rfl (own_le20 rfl) (dc d8_63) ?_
      rintro v108 T108 L108 X108 ⟨rfl, N108q, e108⟩
      have N108 := Fr.app N0 N108q
      show Goes p e below _ T108 (mkF m 66 #[sR b_, sI c_, sD (dv p_), s2, sJ x_, s2, sI 1, sI st_, sI (st_ + (1 : Int32)), su, su] [(.int st_)])
      obtain ⟨T109, X109, e109, st109⟩ := getF X108 hx hZ hown (host := "") (Or.inl (ow 46 rfl)) Via.refl e108 F5 (g := (mkF m 76 #[sR b_, sI c_, sD (dv p_), s2, sJ x_, s2, sI 1, sI st_, sI (st_ + (1 : Int32)), sI st_, su] [(.ref b_)])) rfl rfl (dc d8_76)
      refine Goes.on (T' := T109) (g' := (mkF m 84 #[sR b_, sI c_, sD (dv p_), s2, sJ x_, s2, sI 1, sI st_, sI (st_ + (1 : Int32)), sI st_, su] [(.int (cmpValue (FP.dcmp (dv (pt_ st_.toNatClampNeg)) (dv p_)) .l))])) (fun _ k => XS.istore X108.here hx rfl (dc d8_66) rfl (l' := #[sR b_, sI c_, sD (dv p_), s2, sJ x_, s2, sI 1, sI st_, sI (st_ + (1 : Int32)), sI st_, su]) rfl (XS.iload X108.here hx rfl (dc d8_68) rfl (XS.iload X108.here hx rfl (dc d8_70) rfl (XS.icmpNo X108.here hx rfl (dc d8_72) rfl (XT.ii_ge_f (own_lt01 hS)) (XS.aloadN X108.here hx rfl (dc d8_75) rfl rfl (st109 _ (XS.iload X109.here hx rfl (dc d8_79) rfl (ldKm X109 hx hZ e109 A3 b0 (dc d8_81) (XS.dloadN X109.here hx rfl (dc d8_82) rfl (XS.dcmpS X109.here hx rfl (dc d8_83) rfl rfl k)))))))))) ?_
      by_cases hc111 : (pt_ st_.toNatClampNeg).1 = p_.1
      · obtain ⟨T112, X112, e112, st112⟩ := getF X109 hx hZ hown (host := "") (Or.inl (ow 49 rfl)) Via.refl e109 F6 (g := (mkF m 88 #[sR b_, sI c_, sD (dv p_), s2, sJ x_, s2, sI 1, sI st_, sI (st_ + (1 : Int32)), sI st_, su] [(.ref b_)])) rfl rfl (dc d8_88)
        refine Goes.on (T' := T112) (g' := (mkF m 97 #[sR b_, sI c_, sD (dv p_), s2, sJ x_, s2, sI 1, sI st_, sI (st_ + (1 : Int32)), sI st_, su] [(.int (XT.cmpL (id_ st_.toNatClampNeg) x_))])) (fun _ k => XS.ifNo X109.here hx rfl (dc d8_84) rfl (dd_ne_f hc111) (XS.aloadN X109.here hx rfl (dc d8_87) rfl rfl (st112 _ (XS.iload X112.here hx rfl (dc d8_91) rfl (ldJm X112 hx hZ e112 A4 b0 (dc d8_93) (XS.lload X112.here hx rfl (dc d8_94) rfl (XT.lcmp X112.here hx rfl (dc d8_96) rfl k))))))) ?_
        by_cases hc114 : (id_ st_.toNatClampNeg) = x_
        · have O : own_one (1 : Int32) (pt_ st_.toNatClampNeg) (id_ st_.toNatClampNeg) p_ x_ (1 : Int32) (th_ c_.toNatClampNeg) (pt_ st_.toNatClampNeg) (pt_ (st_.toNatClampNeg + 1)) (id_ st_.toNatClampNeg) := by
            refine ⟨by decide, by decide, ?_, ?_, ?_, ?_⟩
            · exact fun q => by
               rcases q with q | q
               · exact absurd q (by decide)
               · exfalso; omega
            · exact fun _ => ⟨rfl, rfl⟩
            · exact fun _ => by omega
            · exact fun q => absurd q (by decide)
          have Z4 : ((1 : Int32)).toInt ≤ (cap_.toNatClampNeg : Int) := by
            have q : ((1 : Int32)).toInt = 1 := rfl
            omega
          have LR : own_lr c_.toNatClampNeg st_.toNatClampNeg cap_.toNatClampNeg sz_ th_ pt_ id_ p_ x_ sz_ th_ pt_ id_ := ⟨fun i hi => ⟨rfl, rfl⟩, fun y hy => ⟨rfl, rfl⟩, own_oc hsz hsz rfl rfl rfl rfl O, by rw [hsz]; exact Z4⟩
          refine Goes.on (T' := T112) (g' := (mkF m 100 #[sR b_, sI c_, sD (dv p_), s2, sJ x_, s2, sI 1, sI st_, sI (st_ + (1 : Int32)), sI st_, su] [])) (fun _ k => XS.ifNo X112.here hx rfl (dc d8_97) rfl (XT.ll_ne_f hc114) k) ?_
          exact Goes.retV X112 hx hlk hret (dc d8_100) (by decide) (by decide) (by rw [e112]; exact ⟨P_, I_, N_, cap_, q_, sz_, th_, pt_, id_, rfl, N108, K0, F1, F2, F3, F4, F5, F6, F7, A1, A2, A3, A4, E3, E4, g3, g4, nTP, Or.inl rfl, Or.inl rfl, own_lr_ir hN hC3 hcl hz hk LR⟩)
        · obtain ⟨T115, X115, e115, st115⟩ := getF X112 hx hZ hown (host := "") (Or.inl (ow 31 rfl)) Via.refl e112 F1 (g := (mkF m 110 #[sR b_, sI c_, sD (dv p_), s2, sJ x_, s2, sI 1, sI st_, sI (st_ + (1 : Int32)), sI (st_ + (1 : Int32)), su] [(.ref b_), (.int 1)])) rfl rfl (dc d8_110)
          refine Goes.on (T' := T115) (g' := (mkF m 175 #[sR b_, sI c_, sD (dv p_), s2, sJ x_, s2, sI 1, sI st_, sI (st_ + (1 : Int32)), sI (st_ + (1 : Int32)), su] [(.int (st_ + (1 : Int32))), (.int (st_ + (1 : Int32))), (.ref b_)])) (fun _ k => XS.ifYes X112.here hx rfl (pc0 := 97) (pc' := 101) rfl (dc d8_97) rfl (XT.ll_ne_t hc114) (by decide) (by decide) (XT.iincV X112.here hx rfl (1 : Int32) (dc d8_101) (by decide) rfl (l' := #[sR b_, sI c_, sD (dv p_), s2, sJ x_, s2, sI 1, sI st_, sI (st_ + (1 : Int32)), sI (st_ + (1 : Int32)), su]) rfl (XS.goto X112.here hx rfl (pc0 := 104) (pc' := 68) rfl (dc d8_104) (by decide) (by decide) (XS.iload X112.here hx rfl (dc d8_68) rfl (XS.iload X112.here hx rfl (dc d8_70) rfl (XS.icmpYes X112.here hx rfl (pc0 := 72) (pc' := 107) rfl (dc d8_72) rfl (XT.ii_ge_t (own_irr _)) (by decide) (by decide) (XS.iload X112.here hx rfl (dc d8_107) rfl (XS.aloadN X112.here hx rfl (dc d8_109) rfl rfl (st115 _ (XS.icmpYes X115.here hx rfl (pc0 := 113) (pc' := 170) rfl (dc d8_113) rfl (XT.ii_ne_t hl) (by decide) (by decide) (XS.aloadN X115.here hx rfl (dc d8_170) rfl rfl (XS.iload X115.here hx rfl (dc d8_171) rfl (XS.iload X115.here hx rfl (dc d8_173) rfl k))))))))))))) ?_
          refine Goes.callP X115 hx hZ 0 hown (ow 70 rfl) (ow 71 rfl) (ow 72 rfl) (ow 1 rfl) (ow 2 rfl) (ow 73 rfl) (by decide) e115 E0 (rmSh0 l Z a0 hw b_ P_ I_ N_ (st_ + (1 : Int32)) (st_ + (1 : Int32)) pt_ id_ h0 n0 Z0  E0 F5 F6 A3 A4 ebP ebI ePI g3 g4 (own_d00 _) ⟨n1.2, by rw [n1.1]; omega⟩ (own_n11 hS) hNb) (by decide) (by decide) (by decide) (by decide) rfl (by rw [hml]; rfl) (argsL := [(.int (st_ + (1 : Int32))), (.int (st_ + (1 : Int32)))]) (rest := []) rfl (lenOf pd_4 rfl) rfl (own_le20 rfl) (dc d8_175) ?_
          rintro v116 T116 L116 X116 ⟨rfl, N116q, K116, P116_0, P116_1⟩
          show Goes p e below _ T116 (mkF m 178 #[sR b_, sI c_, sD (dv p_), s2, sJ x_, s2, sI 1, sI st_, sI (st_ + (1 : Int32)), sI (st_ + (1 : Int32)), su] [])
          have ni119 := (ninS ebP (ninS ebI nin0))
          have C123 := F5.keep K116 ni119
          have ni127 := (ninS eSP (ninS eSI nin0))
          have ni129 := (ninS nTP (ninS eTI nin0))
          have K135 := K0.trans K116 (allS (Or.inl (List.mem_of_getElem? (i := 3) rfl)) (allS (Or.inl (List.mem_of_getElem? (i := 4) rfl)) all0))
          obtain ⟨T136, X136, e136, st136⟩ := getF X116 hx hZ hown (host := "") (Or.inl (ow 46 rfl)) Via.refl rfl C123 (g := (mkF m 179 #[sR b_, sI c_, sD (dv p_), s2, sJ x_, s2, sI 1, sI st_, sI (st_ + (1 : Int32)), sI (st_ + (1 : Int32)), su] [(.ref b_)])) rfl rfl (dc d8_179)
          obtain ⟨T137, h137, X137, e137, W137, B137, st137⟩ := wrK X136 hx hZ e136 P116_0 b1  (g := (mkF m 185 #[sR b_, sI c_, sD (dv p_), s2, sJ x_, s2, sI 1, sI st_, sI (st_ + (1 : Int32)), sI (st_ + (1 : Int32)), su] [(.double (dv p_)), (.int (st_ + (1 : Int32))), (.ref P_)])) rfl rfl (dc d8_185)
          have C144 := (F6.keep K116 ni119).other W137 (Or.inl ebP)
          have C152 := P116_1.other W137 ePI.symm
          have K154 := K135.wr W137 (Or.inl (List.mem_of_getElem? (i := 3) rfl))
          have B137 : Arf Z h137 P_ .double vD N_ (Upd pt_ (st_ + (1 : Int32)).toNatClampNeg p_) := B137
          obtain ⟨T155, X155, e155, st155⟩ := getF X137 hx hZ hown (host := "") (Or.inl (ow 49 rfl)) Via.refl e137 C144 (g := (mkF m 187 #[sR b_, sI c_, sD (dv p_), s2, sJ x_, s2, sI 1, sI st_, sI (st_ + (1 : Int32)), sI (st_ + (1 : Int32)), su] [(.ref b_)])) rfl rfl (dc d8_187)
          obtain ⟨T156, h156, X156, e156, W156, B156, st156⟩ := wrJ X155 hx hZ e155 C152 b1  (g := (mkF m 194 #[sR b_, sI c_, sD (dv p_), s2, sJ x_, s2, sI 1, sI st_, sI (st_ + (1 : Int32)), sI (st_ + (1 : Int32)), su] [(.long x_), (.int (st_ + (1 : Int32))), (.ref I_)])) rfl rfl (dc d8_194)
          have C159 := ((F2.keep K116 ni119).other W137 (Or.inl ebP)).other W156 (Or.inl ebI)
          have C165 := ((A1.keep K116 ni127).other W137 eSP).other W156 eSI
          have K173 := K154.wr W156 (Or.inl (List.mem_of_getElem? (i := 4) rfl))
          have B156 : Arf Z h156 I_ .long Value.long N_ (Upd id_ (st_ + (1 : Int32)).toNatClampNeg x_) := B156
          obtain ⟨T174, X174, e174, st174⟩ := getF X156 hx hZ hown (host := "") (Or.inl (ow 34 rfl)) Via.refl e156 C159 (g := (mkF m 196 #[sR b_, sI c_, sD (dv p_), s2, sJ x_, s2, sI 1, sI st_, sI (st_ + (1 : Int32)), sI (st_ + (1 : Int32)), su] [(.ref b_)])) rfl rfl (dc d8_196)
          obtain ⟨T175, h175, X175, e175, W175, B175, st175⟩ := wrI X174 hx hZ e174 C165 hc  (g := (mkF m 204 #[sR b_, sI c_, sD (dv p_), s2, sJ x_, s2, sI 1, sI st_, sI (st_ + (1 : Int32)), sI (st_ + (1 : Int32)), su] [(.int 2), (.int c_), (.ref S_)])) rfl rfl (dc d8_204)
          have C176 := (((E0.keep K116).wr W137).wr W156).wr W175
          have C183 := (((F7.keep K116 ni119).other W137 (Or.inl ebP)).other W156 (Or.inl ebI)).other W175 (Or.inl ebS)
          have K192 := K173.wr W175 (Or.inl (List.mem_of_getElem? (i := 1) rfl))
          have B175 : Arf Z h175 S_ .int Value.int M_ (Upd sz_ c_.toNatClampNeg (2 : Int32)) := B175
          obtain ⟨T193, X193, e193, st193⟩ := getF X175 hx hZ hown (host := "") (Or.inl (ow 78 rfl)) Via.refl e175 C183 (g := (mkF m 207 #[sR b_, sI c_, sD (dv p_), s2, sJ x_, s2, sI 1, sI st_, sI (st_ + (1 : Int32)), sI (st_ + (1 : Int32)), su] [(.ref b_), (.ref b_)])) rfl rfl (dc d8_207)
          obtain ⟨T194, h194, X194, e194, W194, st194⟩ := putF X193 hx hZ hown (host := "") (Or.inl (ow 78 rfl)) Via.refl e193 C183 C176 (Or.inl (ow 79 rfl)) (ow 1 rfl) (ty := .int) (by decide) rfl rfl (g := (mkF m 212 #[sR b_, sI c_, sD (dv p_), s2, sJ x_, s2, sI 1, sI st_, sI (st_ + (1 : Int32)), sI (st_ + (1 : Int32)), su] [(.int (q_ + (1 : Int32))), (.ref b_)])) rfl rfl (dc d8_212)
          have N194 := Fr.snoc X194 (Fr.snoc X175 (Fr.snoc X156 (Fr.snoc X137 (Fr.app N108 N116q) g3) g4) g1) g0
          have C196 := ((((F1.keep K116 ni119).other W137 (Or.inl ebP)).other W156 (Or.inl ebI)).other W175 (Or.inl ebS)).other W194 (Or.inr (sn51 hw))
          have C197 := (C159.other W175 (Or.inl ebS)).other W194 (Or.inr (sn52 hw))
          have C198 := ((((F3.keep K116 ni119).other W137 (Or.inl ebP)).other W156 (Or.inl ebI)).other W175 (Or.inl ebS)).other W194 (Or.inr (sn53 hw))
          have C199 := ((((F4.keep K116 ni119).other W137 (Or.inl ebP)).other W156 (Or.inl ebI)).other W175 (Or.inl ebS)).other W194 (Or.inr (sn54 hw))
          have C200 := (((C123.other W137 (Or.inl ebP)).other W156 (Or.inl ebI)).other W175 (Or.inl ebS)).other W194 (Or.inr (sn55 hw))
          have C201 := ((C144.other W156 (Or.inl ebI)).other W175 (Or.inl ebS)).other W194 (Or.inr (sn56 hw))
          have C202 := C183.same W194
          have C203 := B175.other W194 ebS.symm
          have C204 := ((((A2.keep K116 ni129).other W137 nTP).other W156 eTI).other W175 eST.symm).other W194 ebT.symm
          have C207 := ((((E3.keep K116).wr W137).wr W156).wr W175).wr W194
          have C208 := ((((E4.keep K116).wr W137).wr W156).wr W175).wr W194
          have C209 := ((B137.other W156 ePI).other W175 eSP.symm).other W194 ebP.symm
          have C210 := (B156.other W175 eSI.symm).other W194 ebI.symm
          have K212 := K192.wr W194 (Or.inl (List.mem_of_getElem? (i := 0) rfl))
          have O : own_one (1 : Int32) (pt_ st_.toNatClampNeg) (id_ st_.toNatClampNeg) p_ x_ (2 : Int32) (th_ c_.toNatClampNeg) (pt_ st_.toNatClampNeg) p_ (id_ st_.toNatClampNeg) := by
            refine ⟨by decide, by decide, ?_, ?_, ?_, ?_⟩
            · exact fun q => by
               rcases q with q | q
               · exact absurd q (by decide)
               · exfalso; omega
            · exact fun _ => ⟨rfl, rfl⟩
            · exact fun _ => by omega
            · exact fun _ => by omega
          have Z4 : ((2 : Int32)).toInt ≤ (cap_.toNatClampNeg : Int) := by
            have q : ((2 : Int32)).toInt = 2 := rfl
            omega
          have LR : own_lr c_.toNatClampNeg st_.toNatClampNeg cap_.toNatClampNeg sz_ th_ pt_ id_ p_ x_ (Upd sz_ c_.toNatClampNeg (2 : Int32)) th_ (Upd pt_ (st_ + (1 : Int32)).toNatClampNeg p_) (Upd id_ (st_ + (1 : Int32)).toNatClampNeg x_) := ⟨fun i hi => ⟨by simp [Upd, hi], rfl⟩, fun y hy => ⟨(by have y0 : y ≠ st_.toNatClampNeg := (by omega); have y1 : y ≠ st_.toNatClampNeg + 1 := (by omega); simp [Upd, n1.1, n2.1, (own_n11 hS).2, y0, y1]), (by have y0 : y ≠ st_.toNatClampNeg := (by omega); have y1 : y ≠ st_.toNatClampNeg + 1 := (by omega); simp [Upd, n1.1, n2.1, (own_n11 hS).2, y0, y1])⟩, own_oc hsz (updS _ _ _) rfl (by simp [Upd, n1.1, n2.1, (own_n11 hS).2] <;> omega) (by simp [Upd, n1.1, n2.1, (own_n11 hS).2] <;> omega) (by simp [Upd, n1.1, n2.1, (own_n11 hS).2] <;> omega) O, by rw [updS]; exact Z4⟩
          refine Goes.on (T' := T194) (g' := (mkF m 215 #[sR b_, sI c_, sD (dv p_), s2, sJ x_, s2, sI 1, sI st_, sI (st_ + (1 : Int32)), sI (st_ + (1 : Int32)), su] [])) (fun _ k => XS.aloadN X116.here hx rfl (dc d8_178) rfl rfl (st136 _ (XS.iload X136.here hx rfl (dc d8_182) rfl (XS.dloadN X136.here hx rfl (dc d8_184) rfl (st137 _ (XS.aloadN X137.here hx rfl (dc d8_186) rfl rfl (st155 _ (XS.iload X155.here hx rfl (dc d8_190) rfl (XS.lload X155.here hx rfl (dc d8_192) rfl (st156 _ (XS.aloadN X156.here hx rfl (dc d8_195) rfl rfl (st174 _ (XS.iloadN X174.here hx rfl (dc d8_199) rfl (XS.iload X174.here hx rfl (dc d8_200) rfl (XS.iconst X174.here hx rfl (dc d8_202) (XS.iadd X174.here hx rfl (dc d8_203) rfl (st175 _ (XS.aloadN X175.here hx rfl (dc d8_205) rfl rfl (XS.dup X175.here hx rfl (dc d8_206) rfl rfl (st193 _ (XS.iconst X193.here hx rfl (dc d8_210) (XS.iadd X193.here hx rfl (dc d8_211) rfl (st194 _ k))))))))))))))))))))))) ?_
          exact Goes.retV X194 hx hlk hret (dc d8_215) (by decide) (by decide) (by rw [e194]; exact ⟨P_, I_, N_, cap_, (q_ + (1 : Int32)), (Upd sz_ c_.toNatClampNeg (2 : Int32)), th_, (Upd pt_ (st_ + (1 : Int32)).toNatClampNeg p_), (Upd id_ (st_ + (1 : Int32)).toNatClampNeg x_), rfl, N194, K212, C196, C197, C198, C199, C200, C201, C202, C203, C204, C209, C210, C207, C208, g3, g4, nTP, Or.inl rfl, Or.inl rfl, own_lr_ir hN hC3 hcl hz hk LR⟩)
      · obtain ⟨T213, X213, e213, st213⟩ := getF X109 hx hZ hown (host := "") (Or.inl (ow 31 rfl)) Via.refl e109 F1 (g := (mkF m 110 #[sR b_, sI c_, sD (dv p_), s2, sJ x_, s2, sI 1, sI st_, sI (st_ + (1 : Int32)), sI st_, su] [(.ref b_), (.int 1)])) rfl rfl (dc d8_110)
        refine Goes.on (T' := T213) (g' := (mkF m 175 #[sR b_, sI c_, sD (dv p_), s2, sJ x_, s2, sI 1, sI st_, sI (st_ + (1 : Int32)), sI st_, su] [(.int (st_ + (1 : Int32))), (.int st_), (.ref b_)])) (fun _ k => XS.ifYes X109.here hx rfl (pc0 := 84) (pc' := 107) rfl (dc d8_84) rfl (dd_ne_t hc111) (by decide) (by decide) (XS.iload X109.here hx rfl (dc d8_107) rfl (XS.aloadN X109.here hx rfl (dc d8_109) rfl rfl (st213 _ (XS.icmpYes X213.here hx rfl (pc0 := 113) (pc' := 170) rfl (dc d8_113) rfl (XT.ii_ne_t hl) (by decide) (by decide) (XS.aloadN X213.here hx rfl (dc d8_170) rfl rfl (XS.iload X213.here hx rfl (dc d8_171) rfl (XS.iload X213.here hx rfl (dc d8_173) rfl k)))))))) ?_
        refine Goes.callP X213 hx hZ 0 hown (ow 70 rfl) (ow 71 rfl) (ow 72 rfl) (ow 1 rfl) (ow 2 rfl) (ow 73 rfl) (by decide) e213 E0 (rmSh1 l Z a0 hw b_ P_ I_ N_ st_ (st_ + (1 : Int32)) pt_ id_ h0 n0 Z0  E0 F5 F6 A3 A4 ebP ebI ePI g3 g4 (own_d10 hS) ⟨hq3, by omega⟩ ⟨n1.2, n1.1⟩ hNb) (by decide) (by decide) (by decide) (by decide) rfl (by rw [hml]; rfl) (argsL := [(.int st_), (.int (st_ + (1 : Int32)))]) (rest := []) rfl (lenOf pd_4 rfl) rfl (own_le20 rfl) (dc d8_175) ?_
        rintro v214 T214 L214 X214 ⟨rfl, N214q, K214, P214_0, P214_1⟩
        show Goes p e below _ T214 (mkF m 178 #[sR b_, sI c_, sD (dv p_), s2, sJ x_, s2, sI 1, sI st_, sI (st_ + (1 : Int32)), sI st_, su] [])
        have ni217 := (ninS ebP (ninS ebI nin0))
        have C221 := F5.keep K214 ni217
        have ni225 := (ninS eSP (ninS eSI nin0))
        have ni227 := (ninS nTP (ninS eTI nin0))
        have K233 := K0.trans K214 (allS (Or.inl (List.mem_of_getElem? (i := 3) rfl)) (allS (Or.inl (List.mem_of_getElem? (i := 4) rfl)) all0))
        obtain ⟨T234, X234, e234, st234⟩ := getF X214 hx hZ hown (host := "") (Or.inl (ow 46 rfl)) Via.refl rfl C221 (g := (mkF m 179 #[sR b_, sI c_, sD (dv p_), s2, sJ x_, s2, sI 1, sI st_, sI (st_ + (1 : Int32)), sI st_, su] [(.ref b_)])) rfl rfl (dc d8_179)
        obtain ⟨T235, h235, X235, e235, W235, B235, st235⟩ := wrK X234 hx hZ e234 P214_0 b0  (g := (mkF m 185 #[sR b_, sI c_, sD (dv p_), s2, sJ x_, s2, sI 1, sI st_, sI (st_ + (1 : Int32)), sI st_, su] [(.double (dv p_)), (.int st_), (.ref P_)])) rfl rfl (dc d8_185)
        have C242 := (F6.keep K214 ni217).other W235 (Or.inl ebP)
        have C250 := P214_1.other W235 ePI.symm
        have K252 := K233.wr W235 (Or.inl (List.mem_of_getElem? (i := 3) rfl))
        have B235 : Arf Z h235 P_ .double vD N_ (Upd (Upd pt_ (st_.toNatClampNeg + 1) (pt_ st_.toNatClampNeg)) st_.toNatClampNeg p_) := B235
        obtain ⟨T253, X253, e253, st253⟩ := getF X235 hx hZ hown (host := "") (Or.inl (ow 49 rfl)) Via.refl e235 C242 (g := (mkF m 187 #[sR b_, sI c_, sD (dv p_), s2, sJ x_, s2, sI 1, sI st_, sI (st_ + (1 : Int32)), sI st_, su] [(.ref b_)])) rfl rfl (dc d8_187)
        obtain ⟨T254, h254, X254, e254, W254, B254, st254⟩ := wrJ X253 hx hZ e253 C250 b0  (g := (mkF m 194 #[sR b_, sI c_, sD (dv p_), s2, sJ x_, s2, sI 1, sI st_, sI (st_ + (1 : Int32)), sI st_, su] [(.long x_), (.int st_), (.ref I_)])) rfl rfl (dc d8_194)
        have C257 := ((F2.keep K214 ni217).other W235 (Or.inl ebP)).other W254 (Or.inl ebI)
        have C263 := ((A1.keep K214 ni225).other W235 eSP).other W254 eSI
        have K271 := K252.wr W254 (Or.inl (List.mem_of_getElem? (i := 4) rfl))
        have B254 : Arf Z h254 I_ .long Value.long N_ (Upd (Upd id_ (st_.toNatClampNeg + 1) (id_ st_.toNatClampNeg)) st_.toNatClampNeg x_) := B254
        obtain ⟨T272, X272, e272, st272⟩ := getF X254 hx hZ hown (host := "") (Or.inl (ow 34 rfl)) Via.refl e254 C257 (g := (mkF m 196 #[sR b_, sI c_, sD (dv p_), s2, sJ x_, s2, sI 1, sI st_, sI (st_ + (1 : Int32)), sI st_, su] [(.ref b_)])) rfl rfl (dc d8_196)
        obtain ⟨T273, h273, X273, e273, W273, B273, st273⟩ := wrI X272 hx hZ e272 C263 hc  (g := (mkF m 204 #[sR b_, sI c_, sD (dv p_), s2, sJ x_, s2, sI 1, sI st_, sI (st_ + (1 : Int32)), sI st_, su] [(.int 2), (.int c_), (.ref S_)])) rfl rfl (dc d8_204)
        have C274 := (((E0.keep K214).wr W235).wr W254).wr W273
        have C281 := (((F7.keep K214 ni217).other W235 (Or.inl ebP)).other W254 (Or.inl ebI)).other W273 (Or.inl ebS)
        have K290 := K271.wr W273 (Or.inl (List.mem_of_getElem? (i := 1) rfl))
        have B273 : Arf Z h273 S_ .int Value.int M_ (Upd sz_ c_.toNatClampNeg (2 : Int32)) := B273
        obtain ⟨T291, X291, e291, st291⟩ := getF X273 hx hZ hown (host := "") (Or.inl (ow 78 rfl)) Via.refl e273 C281 (g := (mkF m 207 #[sR b_, sI c_, sD (dv p_), s2, sJ x_, s2, sI 1, sI st_, sI (st_ + (1 : Int32)), sI st_, su] [(.ref b_), (.ref b_)])) rfl rfl (dc d8_207)
        obtain ⟨T292, h292, X292, e292, W292, st292⟩ := putF X291 hx hZ hown (host := "") (Or.inl (ow 78 rfl)) Via.refl e291 C281 C274 (Or.inl (ow 79 rfl)) (ow 1 rfl) (ty := .int) (by decide) rfl rfl (g := (mkF m 212 #[sR b_, sI c_, sD (dv p_), s2, sJ x_, s2, sI 1, sI st_, sI (st_ + (1 : Int32)), sI st_, su] [(.int (q_ + (1 : Int32))), (.ref b_)])) rfl rfl (dc d8_212)
        have N292 := Fr.snoc X292 (Fr.snoc X273 (Fr.snoc X254 (Fr.snoc X235 (Fr.app N108 N214q) g3) g4) g1) g0
        have C294 := ((((F1.keep K214 ni217).other W235 (Or.inl ebP)).other W254 (Or.inl ebI)).other W273 (Or.inl ebS)).other W292 (Or.inr (sn51 hw))
        have C295 := (C257.other W273 (Or.inl ebS)).other W292 (Or.inr (sn52 hw))
        have C296 := ((((F3.keep K214 ni217).other W235 (Or.inl ebP)).other W254 (Or.inl ebI)).other W273 (Or.inl ebS)).other W292 (Or.inr (sn53 hw))
        have C297 := ((((F4.keep K214 ni217).other W235 (Or.inl ebP)).other W254 (Or.inl ebI)).other W273 (Or.inl ebS)).other W292 (Or.inr (sn54 hw))
        have C298 := (((C221.other W235 (Or.inl ebP)).other W254 (Or.inl ebI)).other W273 (Or.inl ebS)).other W292 (Or.inr (sn55 hw))
        have C299 := ((C242.other W254 (Or.inl ebI)).other W273 (Or.inl ebS)).other W292 (Or.inr (sn56 hw))
        have C300 := C281.same W292
        have C301 := B273.other W292 ebS.symm
        have C302 := ((((A2.keep K214 ni227).other W235 nTP).other W254 eTI).other W273 eST.symm).other W292 ebT.symm
        have C305 := ((((E3.keep K214).wr W235).wr W254).wr W273).wr W292
        have C306 := ((((E4.keep K214).wr W235).wr W254).wr W273).wr W292
        have C307 := ((B235.other W254 ePI).other W273 eSP.symm).other W292 ebP.symm
        have C308 := (B254.other W273 eSI.symm).other W292 ebI.symm
        have K310 := K290.wr W292 (Or.inl (List.mem_of_getElem? (i := 0) rfl))
        have O : own_one (1 : Int32) (pt_ st_.toNatClampNeg) (id_ st_.toNatClampNeg) p_ x_ (2 : Int32) (th_ c_.toNatClampNeg) p_ (pt_ st_.toNatClampNeg) x_ := by
          refine ⟨by decide, by decide, ?_, ?_, ?_, ?_⟩
          · exact fun _ => ⟨rfl, rfl⟩
          · exact fun q => by
             exfalso
             exact q (Or.inr (by omega))
          · exact fun _ => by omega
          · exact fun _ => by omega
        have Z4 : ((2 : Int32)).toInt ≤ (cap_.toNatClampNeg : Int) := by
          have q : ((2 : Int32)).toInt = 2 := rfl
          omega
        have LR : own_lr c_.toNatClampNeg st_.toNatClampNeg cap_.toNatClampNeg sz_ th_ pt_ id_ p_ x_ (Upd sz_ c_.toNatClampNeg (2 : Int32)) th_ (Upd (Upd pt_ (st_.toNatClampNeg + 1) (pt_ st_.toNatClampNeg)) st_.toNatClampNeg p_) (Upd (Upd id_ (st_.toNatClampNeg + 1) (id_ st_.toNatClampNeg)) st_.toNatClampNeg x_) := ⟨fun i hi => ⟨by simp [Upd, hi], rfl⟩, fun y hy => ⟨(by have y0 : y ≠ st_.toNatClampNeg := (by omega); have y1 : y ≠ st_.toNatClampNeg + 1 := (by omega); simp [Upd, n1.1, n2.1, (own_n11 hS).2, y0, y1]), (by have y0 : y ≠ st_.toNatClampNeg := (by omega); have y1 : y ≠ st_.toNatClampNeg + 1 := (by omega); simp [Upd, n1.1, n2.1, (own_n11 hS).2, y0, y1])⟩, own_oc hsz (updS _ _ _) rfl (by simp [Upd, n1.1, n2.1, (own_n11 hS).2] <;> omega) (by simp [Upd, n1.1, n2.1, (own_n11 hS).2] <;> omega) (by simp [Upd, n1.1, n2.1, (own_n11 hS).2] <;> omega) O, by rw [updS]; exact Z4⟩
        refine Goes.on (T' := T292) (g' := (mkF m 215 #[sR b_, sI c_, sD (dv p_), s2, sJ x_, s2, sI 1, sI st_, sI (st_ + (1 : Int32)), sI st_, su] [])) (fun _ k => XS.aloadN X214.here hx rfl (dc d8_178) rfl rfl (st234 _ (XS.iload X234.here hx rfl (dc d8_182) rfl (XS.dloadN X234.here hx rfl (dc d8_184) rfl (st235 _ (XS.aloadN X235.here hx rfl (dc d8_186) rfl rfl (st253 _ (XS.iload X253.here hx rfl (dc d8_190) rfl (XS.lload X253.here hx rfl (dc d8_192) rfl (st254 _ (XS.aloadN X254.here hx rfl (dc d8_195) rfl rfl (st272 _ (XS.iloadN X272.here hx rfl (dc d8_199) rfl (XS.iload X272.here hx rfl (dc d8_200) rfl (XS.iconst X272.here hx rfl (dc d8_202) (XS.iadd X272.here hx rfl (dc d8_203) rfl (st273 _ (XS.aloadN X273.here hx rfl (dc d8_205) rfl rfl (XS.dup X273.here hx rfl (dc d8_206) rfl rfl (st291 _ (XS.iconst X291.here hx rfl (dc d8_210) (XS.iadd X291.here hx rfl (dc d8_211) rfl (st292 _ k))))))))))))))))))))))) ?_
        exact Goes.retV X292 hx hlk hret (dc d8_215) (by decide) (by decide) (by rw [e292]; exact ⟨P_, I_, N_, cap_, (q_ + (1 : Int32)), (Upd sz_ c_.toNatClampNeg (2 : Int32)), th_, (Upd (Upd pt_ (st_.toNatClampNeg + 1) (pt_ st_.toNatClampNeg)) st_.toNatClampNeg p_), (Upd (Upd id_ (st_.toNatClampNeg + 1) (id_ st_.toNatClampNeg)) st_.toNatClampNeg x_), rfl, N292, K310, C294, C295, C296, C297, C298, C299, C300, C301, C302, C307, C308, C305, C306, g3, g4, nTP, Or.inl rfl, Or.inl rfl, own_lr_ir hN hC3 hcl hz hk LR⟩)
theorem d8_29 : decode c8C 29 = .ok (.iload 6, 2) := by decide +kernel
theorem d8_31 : decode c8C 31 = .ok (.aload_n 0, 1) := by decide +kernel
theorem d8_32 : decode c8C 32 = .ok (.getfield 24, 3) := by decide +kernel
theorem d8_35 : decode c8C 35 = .ok (.if_icmp .ge 7, 3) := by decide +kernel
theorem d8_116 : decode c8C 116 = .ok (.iload 8, 2) := by decide +kernel
theorem d8_118 : decode c8C 118 = .ok (.iconst 1, 1) := by decide +kernel
theorem d8_119 : decode c8C 119 = .ok (.isub, 1) := by decide +kernel
theorem d8_120 : decode c8C 120 = .ok (.istore 10, 2) := by decide +kernel
theorem d8_122 : decode c8C 122 = .ok (.iload 9, 2) := by decide +kernel
theorem d8_124 : decode c8C 124 = .ok (.iload 10, 2) := by decide +kernel
theorem d8_126 : decode c8C 126 = .ok (.if_icmp .gt 28, 3) := by decide +kernel
theorem d8_154 : decode c8C 154 = .ok (.aload_n 0, 1) := by decide +kernel
theorem d8_155 : decode c8C 155 = .ok (.getfield 32, 3) := by decide +kernel
theorem d8_158 : decode c8C 158 = .ok (.iload_n 1, 1) := by decide +kernel
theorem d8_159 : decode c8C 159 = .ok (.aload_n 0, 1) := by decide +kernel
theorem d8_160 : decode c8C 160 = .ok (.getfield 49, 3) := by decide +kernel
theorem d8_163 : decode c8C 163 = .ok (.iload 10, 2) := by decide +kernel
theorem d8_165 : decode c8C 165 = .ok (.daload, 1) := by decide +kernel
theorem d8_166 : decode c8C 166 = .ok (.dastore, 1) := by decide +kernel
theorem d8_167 : decode c8C 167 = .ok (.goto 48, 3) := by decide +kernel
theorem d8_129 : decode c8C 129 = .ok (.aload_n 0, 1) := by decide +kernel
theorem d8_130 : decode c8C 130 = .ok (.iload 9, 2) := by decide +kernel
theorem d8_132 : decode c8C 132 = .ok (.iload 10, 2) := by decide +kernel
theorem d8_134 : decode c8C 134 = .ok (.invokevirtual 63, 3) := by decide +kernel
theorem d8_137 : decode c8C 137 = .ok (.aload_n 0, 1) := by decide +kernel
theorem d8_138 : decode c8C 138 = .ok (.getfield 49, 3) := by decide +kernel
theorem d8_141 : decode c8C 141 = .ok (.iload 9, 2) := by decide +kernel
theorem d8_143 : decode c8C 143 = .ok (.dload_n 2, 1) := by decide +kernel
theorem d8_144 : decode c8C 144 = .ok (.dastore, 1) := by decide +kernel
theorem d8_145 : decode c8C 145 = .ok (.aload_n 0, 1) := by decide +kernel
theorem d8_146 : decode c8C 146 = .ok (.getfield 52, 3) := by decide +kernel
theorem d8_149 : decode c8C 149 = .ok (.iload 9, 2) := by decide +kernel
theorem d8_151 : decode c8C 151 = .ok (.lload 4, 2) := by decide +kernel
theorem d8_153 : decode c8C 153 = .ok (.lastore, 1) := by decide +kernel
theorem rmI1f (l : Launch) (Z : State) (a0 : Array Value) (hw : TW Z a0) (b_ S_ T_ P_ I_ : Addr) (M_ N_ : Nat) (c_  q_ : Int32) (sz_ : Nat → Int32) (th_ pt_ : Nat → DK) (id_ : Nat → Int64) (p_ : DK) (x_ : Int64) (h0 : Heap) (n0 : Nat) (Z0 : n0 ≤ h0.size) (E0 : Exa Z h0 b_ "com/example/boceto/boceto/signature/ComponentBuffers") (F1 : Fld Z h0 b_ "com/example/boceto/boceto/signature/ComponentBuffers" "_bufferSize" "I" (.int (1 : Int32))) (F2 : Fld Z h0 b_ "com/example/boceto/boceto/signature/ComponentBuffers" "_sizes" "[I" (.ref S_)) (F3 : Fld Z h0 b_ "com/example/boceto/boceto/signature/ComponentBuffers" "_thresholds" "[D" (.ref T_)) (F4 : Fld Z h0 b_ "com/example/boceto/boceto/signature/ComponentBuffers" "_capacity" "I" (.int (1 : Int32))) (F5 : Fld Z h0 b_ "com/example/boceto/boceto/signature/ComponentBuffers" "_points" "[D" (.ref P_)) (F6 : Fld Z h0 b_ "com/example/boceto/boceto/signature/ComponentBuffers" "_identities" "[J" (.ref I_)) (F7 : Fld Z h0 b_ "com/example/boceto/boceto/signature/ComponentBuffers" "_pointCount" "I" (.int q_)) (A1 : Arf Z h0 S_ .int Value.int M_ sz_) (A2 : Arf Z h0 T_ .double vD M_ th_) (A3 : Arf Z h0 P_ .double vD N_ pt_) (A4 : Arf Z h0 I_ .long Value.long N_ id_) (E1 : Exa Z h0 S_ "[I") (E2 : Exa Z h0 T_ "[D") (E3 : Exa Z h0 P_ "[D") (E4 : Exa Z h0 I_ "[J") (nTP : T_ ≠ P_) (g0 : n0 ≤ b_) (g1 : n0 ≤ S_) (g2 : n0 ≤ T_) (g3 : n0 ≤ P_) (g4 : n0 ≤ I_) (hc : ¬ c_ < 0 ∧ c_.toNatClampNeg < M_) (hcc : c_ = (0 : Int32) ∨ c_ = (1 : Int32) ∨ c_ = (2 : Int32)) (hM : M_ = 1 ∨ M_ = 2 ∨ M_ = 3) (hN : N_ = M_ * (1 : Int32).toNatClampNeg) (hcl : (1 : Int32).toInt ≤ (1 : Int32).toInt) (hz : ∀ i, i < M_ → 0 ≤ (sz_ i).toInt ∧ (sz_ i).toInt ≤ (1 : Int32).toInt) (hsz : sz_ c_.toNatClampNeg = (1 : Int32)) (hpt : (pt_ (c_.toNatClampNeg * (1 : Int32).toNatClampNeg)).1 ≤ (th_ c_.toNatClampNeg).1) :
    Pays l Z (⟨"com/example/boceto/boceto/signature/ComponentBuffers", "insert", "(IDJ)V"⟩ : MethodName) prog_28_method_6_code 11 none [] ({ frames := 2, cells := 2, slots := 18, locals := 60 } : Room) #[(.ref b_), (.int c_), (.double (dv p_)), (.long x_)] h0 (fun v h L => ∃ (P2 I2 : Addr) (N2 : Nat) (cp2 q2 : Int32) (sz2 : Nat → Int32) (th2 pt2 : Nat → DK) (id2 : Nat → Int64), v = none ∧ Fr n0 L ∧ Keep h0 h [b_, S_, T_, P_, I_] ∧ Fld Z h b_ "com/example/boceto/boceto/signature/ComponentBuffers" "_bufferSize" "I" (.int (1 : Int32)) ∧ Fld Z h b_ "com/example/boceto/boceto/signature/ComponentBuffers" "_sizes" "[I" (.ref S_) ∧ Fld Z h b_ "com/example/boceto/boceto/signature/ComponentBuffers" "_thresholds" "[D" (.ref T_) ∧ Fld Z h b_ "com/example/boceto/boceto/signature/ComponentBuffers" "_capacity" "I" (.int cp2) ∧ Fld Z h b_ "com/example/boceto/boceto/signature/ComponentBuffers" "_points" "[D" (.ref P2) ∧ Fld Z h b_ "com/example/boceto/boceto/signature/ComponentBuffers" "_identities" "[J" (.ref I2) ∧ Fld Z h b_ "com/example/boceto/boceto/signature/ComponentBuffers" "_pointCount" "I" (.int q2) ∧ Arf Z h S_ .int Value.int M_ sz2 ∧ Arf Z h T_ .double vD M_ th2 ∧ Arf Z h P2 .double vD N2 pt2 ∧ Arf Z h I2 .long Value.long N2 id2 ∧ Exa Z h P2 "[D" ∧ Exa Z h I2 "[J" ∧ n0 ≤ P2 ∧ n0 ≤ I2 ∧ T_ ≠ P2 ∧ (I2 = I_ ∨ h0.size ≤ I2) ∧ (P2 = P_ ∨ h0.size ≤ P2) ∧ own_ir M_ c_.toNatClampNeg (1 : Int32) (1 : Int32) sz_ th_ pt_ id_ p_ x_ cp2 N2 sz2 th2 pt2 id2) := by
  refine Pays.walk (plainFor_of_name pn_3) (fun m => ef_6 m b_ c_ (dv p_) x_ ) ?_
  intro p e s m below meth c T0 X0 hx hby hml hown hnm hZ e0 hret hlk
  have dc := @Jvm.hb _ _ hby
  have ow := @own_w Z a0 hw
  have N0 := Fr.nil n0
  have ebS : b_ ≠ S_ := ne_exa E0 E1 (by decide)
  have ebT : b_ ≠ T_ := ne_exa E0 E2 (by decide)
  have ebP : b_ ≠ P_ := ne_exa E0 E3 (by decide)
  have ebI : b_ ≠ I_ := ne_exa E0 E4 (by decide)
  have eST : S_ ≠ T_ := ne_exa E1 E2 (by decide)
  have eSP : S_ ≠ P_ := ne_exa E1 E3 (by decide)
  have eSI : S_ ≠ I_ := ne_exa E1 E4 (by decide)
  have eTI : T_ ≠ I_ := ne_exa E2 E4 (by decide)
  have ePI : P_ ≠ I_ := ne_exa E3 E4 (by decide)
  have K0 := Keep.refl h0 [b_, S_, T_, P_, I_]
  have hC3 : (1 : Int32) = (1 : Int32) ∨ (1 : Int32) = (2 : Int32) ∨ (1 : Int32) = (3 : Int32) := (by decide)
  obtain ⟨st_, hst⟩ : ∃ z, c_ * (1 : Int32) = z := ⟨_, rfl⟩
  have hq := own_cs hcc hC3
  rw [hst] at hq
  obtain ⟨hq1, hq2, hk, hq3⟩ := hq
  have hS : 0 ≤ st_.toInt ∧ st_.toInt ≤ 8 := ⟨hq1, hq2⟩
  have hcn : 1 ≤ (1 : Int32).toNatClampNeg := by decide
  have hNN : N_ = M_ * (1 : Int32).toNatClampNeg := hN
  have hNb : N_ < 2 ^ 31 := own_nb hM (own_cpn hC3).2.2 hNN
  have B0 := own_b0 (d := 0) hk hc.2 hNN (by omega)
  have b0 : ¬ st_ < 0 ∧ st_.toNatClampNeg < N_ := ⟨hq3, B0⟩
  have n1 := own_n1 hS
  have n2 := own_n2 hS
  have hP0 : (pt_ st_.toNatClampNeg).1 ≤ (th_ c_.toNatClampNeg).1 := by rw [hk]; exact hpt
  obtain ⟨T1, X1, e1, st1⟩ := getF X0 hx hZ hown (host := "") (Or.inl (ow 37 rfl)) Via.refl e0 F3 (g := (mkF m 2 #[sR b_, sI c_, sD (dv p_), s2, sJ x_, s2, su, su, su, su, su] [(.ref b_), (.double (dv p_))])) rfl rfl (dc d8_2)
  refine Goes.on (T' := T1) (g' := (mkF m 8 #[sR b_, sI c_, sD (dv p_), s2, sJ x_, s2, su, su, su, su, su] [(.int (cmpValue (FP.dcmp (dv p_) (dv (th_ c_.toNatClampNeg))) .l))])) (fun _ k => XS.dloadN X0.here hx rfl (dc d8_0) rfl (XS.aloadN X0.here hx rfl (dc d8_1) rfl rfl (st1 _ (XS.iloadN X1.here hx rfl (dc d8_5) rfl (ldKm X1 hx hZ e1 A2 hc (dc d8_6) (XS.dcmpS X1.here hx rfl (dc d8_7) rfl rfl k)))))) ?_
  by_cases hc3 : (th_ c_.toNatClampNeg).1 < p_.1
  · have O : own_one (1 : Int32) (pt_ st_.toNatClampNeg) (id_ st_.toNatClampNeg) p_ x_ (1 : Int32) (th_ c_.toNatClampNeg) (pt_ st_.toNatClampNeg) (pt_ (st_.toNatClampNeg + 1)) (id_ st_.toNatClampNeg) := by
      refine ⟨by decide, by decide, ?_, ?_, ?_, ?_⟩
      · exact fun q => by
         rcases q with q | q
         · exact absurd q (by decide)
         · exfalso; omega
      · exact fun _ => ⟨rfl, rfl⟩
      · exact fun _ => by omega
      · exact fun q => absurd q (by decide)
    have Z4 : ((1 : Int32)).toInt ≤ ((1 : Int32).toNatClampNeg : Int) := by
      have q : ((1 : Int32)).toInt = 1 := rfl
      omega
    have LR : own_lr c_.toNatClampNeg st_.toNatClampNeg (1 : Int32).toNatClampNeg sz_ th_ pt_ id_ p_ x_ sz_ th_ pt_ id_ := ⟨fun i hi => ⟨rfl, rfl⟩, fun y hy => ⟨rfl, rfl⟩, own_oc hsz hsz rfl rfl rfl rfl O, by rw [hsz]; exact Z4⟩
    refine Goes.on (T' := T1) (g' := (mkF m 11 #[sR b_, sI c_, sD (dv p_), s2, sJ x_, s2, su, su, su, su, su] [])) (fun _ k => XS.ifNo X1.here hx rfl (dc d8_8) rfl (dd_le_f hc3) k) ?_
    exact Goes.retV X1 hx hlk hret (dc d8_11) (by decide) (by decide) (by rw [e1]; exact ⟨P_, I_, N_, (1 : Int32), q_, sz_, th_, pt_, id_, rfl, N0, K0, F1, F2, F3, F4, F5, F6, F7, A1, A2, A3, A4, E3, E4, g3, g4, nTP, Or.inl rfl, Or.inl rfl, own_lr_ir hN hC3 hcl hz hk LR⟩)
  · obtain ⟨T4, X4, e4, st4⟩ := getF X1 hx hZ hown (host := "") (Or.inl (ow 34 rfl)) Via.refl e1 F2 (g := (mkF m 13 #[sR b_, sI c_, sD (dv p_), s2, sJ x_, s2, su, su, su, su, su] [(.ref b_)])) rfl rfl (dc d8_13)
    refine Goes.on (T' := T4) (g' := (mkF m 18 #[sR b_, sI c_, sD (dv p_), s2, sJ x_, s2, su, su, su, su, su] [(.int (sz_ c_.toNatClampNeg))])) (fun _ k => XS.ifYes X1.here hx rfl (pc0 := 8) (pc' := 12) rfl (dc d8_8) rfl (dd_le_t hc3) (by decide) (by decide) (XS.aloadN X1.here hx rfl (dc d8_12) rfl rfl (st4 _ (XS.iloadN X4.here hx rfl (dc d8_16) rfl (ldIm X4 hx hZ e4 A1 hc (dc d8_17) k))))) ?_
    rw [hsz]
    obtain ⟨T6, X6, e6, st6⟩ := getF X4 hx hZ hown (host := "") (Or.inl (ow 44 rfl)) Via.refl e4 F4 (g := (mkF m 23 #[sR b_, sI c_, sD (dv p_), s2, sJ x_, s2, sI 1, su, su, su, su] [(.ref b_), (.int 1)])) rfl rfl (dc d8_23)
    obtain ⟨T7, X7, e7, st7⟩ := getF X6 hx hZ hown (host := "") (Or.inl (ow 31 rfl)) Via.refl e6 F1 (g := (mkF m 32 #[sR b_, sI c_, sD (dv p_), s2, sJ x_, s2, sI 1, su, su, su, su] [(.ref b_), (.int 1)])) rfl rfl (dc d8_32)
    obtain ⟨T8, X8, e8, st8⟩ := getF X7 hx hZ hown (host := "") (Or.inl (ow 44 rfl)) Via.refl e7 F4 (g := (mkF m 44 #[sR b_, sI c_, sD (dv p_), s2, sJ x_, s2, sI 1, su, su, su, su] [(.ref b_), (.int c_)])) rfl rfl (dc d8_44)
    refine Goes.on (T' := T8) (g' := (mkF m 48 #[sR b_, sI c_, sD (dv p_), s2, sJ x_, s2, sI 1, su, su, su, su] [(.int (c_ * (1 : Int32)))])) (fun _ k => XS.istore X4.here hx rfl (dc d8_18) rfl (l' := #[sR b_, sI c_, sD (dv p_), s2, sJ x_, s2, sI 1, su, su, su, su]) rfl (XS.iload X4.here hx rfl (dc d8_20) rfl (XS.aloadN X4.here hx rfl (dc d8_22) rfl rfl (st6 _ (XS.icmpNo X6.here hx rfl (dc d8_26) rfl (XT.ii_ne_f (by decide)) (XS.iload X6.here hx rfl (dc d8_29) rfl (XS.aloadN X6.here hx rfl (dc d8_31) rfl rfl (st7 _ (XS.icmpYes X7.here hx rfl (pc0 := 35) (pc' := 42) rfl (dc d8_35) rfl (XT.ii_ge_t (by decide)) (by decide) (by decide) (XS.iloadN X7.here hx rfl (dc d8_42) rfl (XS.aloadN X7.here hx rfl (dc d8_43) rfl rfl (st8 _ (XS.imul X8.here hx rfl (dc d8_47) rfl k))))))))))))) ?_
    rw [hst]
    refine Goes.on (T' := T8) (g' := (mkF m 63 #[sR b_, sI c_, sD (dv p_), s2, sJ x_, s2, sI 1, sI st_, sI (st_ + (1 : Int32)), su, su] [(.double (dv p_)), (.int (st_ + (1 : Int32))), (.int st_), (.ref b_)])) (fun _ k => XS.istore X8.here hx rfl (dc d8_48) rfl (l' := #[sR b_, sI c_, sD (dv p_), s2, sJ x_, s2, sI 1, sI st_, su, su, su]) rfl (XS.iload X8.here hx rfl (dc d8_50) rfl (XS.iload X8.here hx rfl (dc d8_52) rfl (XS.iadd X8.here hx rfl (dc d8_54) rfl (XS.istore X8.here hx rfl (dc d8_55) rfl (l' := #[sR b_, sI c_, sD (dv p_), s2, sJ x_, s2, sI 1, sI st_, sI (st_ + (1 : Int32)), su, su]) rfl (XS.aloadN X8.here hx rfl (dc d8_57) rfl rfl (XS.iload X8.here hx rfl (dc d8_58) rfl (XS.iload X8.here hx rfl (dc d8_60) rfl (XS.dloadN X8.here hx rfl (dc d8_62) rfl k))))))))) ?_
    by_cases hc9 : (pt_ st_.toNatClampNeg).1 < p_.1
    · refine Goes.callP X8 hx hZ 0 hown (ow 66 rfl) (ow 67 rfl) (ow 68 rfl) (ow 1 rfl) (ow 2 rfl) (ow 69 rfl) (by decide) e8 E0 (rmLB1t l Z a0 hw b_ P_ N_ pt_ st_ p_ h0 n0 Z0  E0 F5 A3 hS b0 hc9) (by decide) (by decide) (by decide) (by decide) rfl (by rw [hml]; rfl) (argsL := [(.int st_), (.int (st_ + (1 : Int32))), (.double (dv p_))]) (rest := []) rfl (lenOf pd_3 rfl) rfl (own_le20 rfl) (dc d8_63) ?_
      rintro v10 T10 L10 X10 ⟨rfl, N10q, e10⟩
      show Goes p e below _ T10 (mkF m 66 #[sR b_, sI c_, sD (dv p_), s2, sJ x_, s2, sI 1, sI st_, sI (st_ + (1 : Int32)), su, su] [(.int (st_ + (1 : Int32)))])
      obtain ⟨T11, X11, e11, st11⟩ := getF X10 hx hZ hown (host := "") (Or.inl (ow 31 rfl)) Via.refl e10 F1 (g := (mkF m 110 #[sR b_, sI c_, sD (dv p_), s2, sJ x_, s2, sI 1, sI st_, sI (st_ + (1 : Int32)), sI (st_ + (1 : Int32)), su] [(.ref b_), (.int 1)])) rfl rfl (dc d8_110)
      refine Goes.on (T' := T11) (g' := (mkF m 120 #[sR b_, sI c_, sD (dv p_), s2, sJ x_, s2, sI 1, sI st_, sI (st_ + (1 : Int32)), sI (st_ + (1 : Int32)), su] [(.int ((st_ + (1 : Int32)) - (1 : Int32)))])) (fun _ k => XS.istore X10.here hx rfl (dc d8_66) rfl (l' := #[sR b_, sI c_, sD (dv p_), s2, sJ x_, s2, sI 1, sI st_, sI (st_ + (1 : Int32)), sI (st_ + (1 : Int32)), su]) rfl (XS.iload X10.here hx rfl (dc d8_68) rfl (XS.iload X10.here hx rfl (dc d8_70) rfl (XS.icmpYes X10.here hx rfl (pc0 := 72) (pc' := 107) rfl (dc d8_72) rfl (XT.ii_ge_t (own_irr _)) (by decide) (by decide) (XS.iload X10.here hx rfl (dc d8_107) rfl (XS.aloadN X10.here hx rfl (dc d8_109) rfl rfl (st11 _ (XS.icmpNo X11.here hx rfl (dc d8_113) rfl (XT.ii_ne_f (by decide)) (XS.iload X11.here hx rfl (dc d8_116) rfl (XS.iconst X11.here hx rfl (dc d8_118) (XS.isub X11.here hx rfl (dc d8_119) rfl k))))))))))) ?_
      rw [own_s10 hS]
      obtain ⟨T12, X12, e12, st12⟩ := getF X11 hx hZ hown (host := "") (Or.inl (ow 37 rfl)) Via.refl e11 F3 (g := (mkF m 155 #[sR b_, sI c_, sD (dv p_), s2, sJ x_, s2, sI 1, sI st_, sI (st_ + (1 : Int32)), sI (st_ + (1 : Int32)), sI st_] [(.ref b_)])) rfl rfl (dc d8_155)
      obtain ⟨T13, X13, e13, st13⟩ := getF X12 hx hZ hown (host := "") (Or.inl (ow 46 rfl)) Via.refl e12 F5 (g := (mkF m 160 #[sR b_, sI c_, sD (dv p_), s2, sJ x_, s2, sI 1, sI st_, sI (st_ + (1 : Int32)), sI (st_ + (1 : Int32)), sI st_] [(.ref b_), (.int c_), (.ref T_)])) rfl rfl (dc d8_160)
      obtain ⟨T15, h15, X15, e15, W15, B15, st15⟩ := wrK X13 hx hZ e13 A2 hc  (g := (mkF m 166 #[sR b_, sI c_, sD (dv p_), s2, sJ x_, s2, sI 1, sI st_, sI (st_ + (1 : Int32)), sI (st_ + (1 : Int32)), sI st_] [(.double (dv (pt_ st_.toNatClampNeg))), (.int c_), (.ref T_)])) rfl rfl (dc d8_166)
      have N15 := Fr.snoc X15 (Fr.app N0 N10q) g2
      have C17 := F1.other W15 (Or.inl ebT)
      have C18 := F2.other W15 (Or.inl ebT)
      have C19 := F3.other W15 (Or.inl ebT)
      have C20 := F4.other W15 (Or.inl ebT)
      have C21 := F5.other W15 (Or.inl ebT)
      have C22 := F6.other W15 (Or.inl ebT)
      have C23 := F7.other W15 (Or.inl ebT)
      have C24 := A1.other W15 eST
      have C25 := A3.other W15 nTP.symm
      have C26 := A4.other W15 eTI.symm
      have C29 := E3.wr W15
      have C30 := E4.wr W15
      have K32 := K0.wr W15 (Or.inl (List.mem_of_getElem? (i := 2) rfl))
      have B15 : Arf Z h15 T_ .double vD M_ (Upd th_ c_.toNatClampNeg (pt_ st_.toNatClampNeg)) := B15
      have O : own_one (1 : Int32) (pt_ st_.toNatClampNeg) (id_ st_.toNatClampNeg) p_ x_ (1 : Int32) (pt_ st_.toNatClampNeg) (pt_ st_.toNatClampNeg) (pt_ (st_.toNatClampNeg + 1)) (id_ st_.toNatClampNeg) := by
        refine ⟨by decide, by decide, ?_, ?_, ?_, ?_⟩
        · exact fun q => by
           rcases q with q | q
           · exact absurd q (by decide)
           · exfalso; omega
        · exact fun _ => ⟨rfl, rfl⟩
        · exact fun _ => by omega
        · exact fun q => absurd q (by decide)
      have Z4 : ((1 : Int32)).toInt ≤ ((1 : Int32).toNatClampNeg : Int) := by
        have q : ((1 : Int32)).toInt = 1 := rfl
        omega
      have LR : own_lr c_.toNatClampNeg st_.toNatClampNeg (1 : Int32).toNatClampNeg sz_ th_ pt_ id_ p_ x_ sz_ (Upd th_ c_.toNatClampNeg (pt_ st_.toNatClampNeg)) pt_ id_ := ⟨fun i hi => ⟨rfl, by simp [Upd, hi]⟩, fun y hy => ⟨rfl, rfl⟩, own_oc hsz hsz (by simp [Upd, n1.1, n2.1, (own_n11 hS).2] <;> omega) rfl rfl rfl O, by rw [hsz]; exact Z4⟩
      refine Goes.on (T' := T15) (g' := (mkF m 215 #[sR b_, sI c_, sD (dv p_), s2, sJ x_, s2, sI 1, sI st_, sI (st_ + (1 : Int32)), sI (st_ + (1 : Int32)), sI st_] [])) (fun _ k => XS.istore X11.here hx rfl (dc d8_120) rfl (l' := #[sR b_, sI c_, sD (dv p_), s2, sJ x_, s2, sI 1, sI st_, sI (st_ + (1 : Int32)), sI (st_ + (1 : Int32)), sI st_]) rfl (XS.iload X11.here hx rfl (dc d8_122) rfl (XS.iload X11.here hx rfl (dc d8_124) rfl (XS.icmpYes X11.here hx rfl (pc0 := 126) (pc' := 154) rfl (dc d8_126) rfl (XT.ii_gt_t (own_lt01 hS)) (by decide) (by decide) (XS.aloadN X11.here hx rfl (dc d8_154) rfl rfl (st12 _ (XS.iloadN X12.here hx rfl (dc d8_158) rfl (XS.aloadN X12.here hx rfl (dc d8_159) rfl rfl (st13 _ (XS.iload X13.here hx rfl (dc d8_163) rfl (ldKm X13 hx hZ e13 A3 b0 (dc d8_165) (st15 _ (XS.goto X15.here hx rfl (pc0 := 167) (pc' := 215) rfl (dc d8_167) (by decide) (by decide) k))))))))))))) ?_
      exact Goes.retV X15 hx hlk hret (dc d8_215) (by decide) (by decide) (by rw [e15]; exact ⟨P_, I_, N_, (1 : Int32), q_, sz_, (Upd th_ c_.toNatClampNeg (pt_ st_.toNatClampNeg)), pt_, id_, rfl, N15, K32, C17, C18, C19, C20, C21, C22, C23, C24, B15, C25, C26, C29, C30, g3, g4, nTP, Or.inl rfl, Or.inl rfl, own_lr_ir hN hC3 hcl hz hk LR⟩)
    · refine Goes.callP X8 hx hZ 0 hown (ow 66 rfl) (ow 67 rfl) (ow 68 rfl) (ow 1 rfl) (ow 2 rfl) (ow 69 rfl) (by decide) e8 E0 (rmLB1f l Z a0 hw b_ P_ N_ pt_ st_ p_ h0 n0 Z0  E0 F5 A3 hS b0 hc9) (by decide) (by decide) (by decide) (by decide) rfl (by rw [hml]; rfl) (argsL := [(.int st_), (.int (st_ + (1 : Int32))), (.double (dv p_))]) (rest := []) rfl (lenOf pd_3 rfl) rfl (own_le20 rfl) (dc d8_63) ?_
      rintro v33 T33 L33 X33 ⟨rfl, N33q, e33⟩
      have N33 := Fr.app N0 N33q
      show Goes p e below _ T33 (mkF m 66 #[sR b_, sI c_, sD (dv p_), s2, sJ x_, s2, sI 1, sI st_, sI (st_ + (1 : Int32)), su, su] [(.int st_)])
      obtain ⟨T34, X34, e34, st34⟩ := getF X33 hx hZ hown (host := "") (Or.inl (ow 46 rfl)) Via.refl e33 F5 (g := (mkF m 76 #[sR b_, sI c_, sD (dv p_), s2, sJ x_, s2, sI 1, sI st_, sI (st_ + (1 : Int32)), sI st_, su] [(.ref b_)])) rfl rfl (dc d8_76)
      refine Goes.on (T' := T34) (g' := (mkF m 84 #[sR b_, sI c_, sD (dv p_), s2, sJ x_, s2, sI 1, sI st_, sI (st_ + (1 : Int32)), sI st_, su] [(.int (cmpValue (FP.dcmp (dv (pt_ st_.toNatClampNeg)) (dv p_)) .l))])) (fun _ k => XS.istore X33.here hx rfl (dc d8_66) rfl (l' := #[sR b_, sI c_, sD (dv p_), s2, sJ x_, s2, sI 1, sI st_, sI (st_ + (1 : Int32)), sI st_, su]) rfl (XS.iload X33.here hx rfl (dc d8_68) rfl (XS.iload X33.here hx rfl (dc d8_70) rfl (XS.icmpNo X33.here hx rfl (dc d8_72) rfl (XT.ii_ge_f (own_lt01 hS)) (XS.aloadN X33.here hx rfl (dc d8_75) rfl rfl (st34 _ (XS.iload X34.here hx rfl (dc d8_79) rfl (ldKm X34 hx hZ e34 A3 b0 (dc d8_81) (XS.dloadN X34.here hx rfl (dc d8_82) rfl (XS.dcmpS X34.here hx rfl (dc d8_83) rfl rfl k)))))))))) ?_
      by_cases hc36 : (pt_ st_.toNatClampNeg).1 = p_.1
      · obtain ⟨T37, X37, e37, st37⟩ := getF X34 hx hZ hown (host := "") (Or.inl (ow 49 rfl)) Via.refl e34 F6 (g := (mkF m 88 #[sR b_, sI c_, sD (dv p_), s2, sJ x_, s2, sI 1, sI st_, sI (st_ + (1 : Int32)), sI st_, su] [(.ref b_)])) rfl rfl (dc d8_88)
        refine Goes.on (T' := T37) (g' := (mkF m 97 #[sR b_, sI c_, sD (dv p_), s2, sJ x_, s2, sI 1, sI st_, sI (st_ + (1 : Int32)), sI st_, su] [(.int (XT.cmpL (id_ st_.toNatClampNeg) x_))])) (fun _ k => XS.ifNo X34.here hx rfl (dc d8_84) rfl (dd_ne_f hc36) (XS.aloadN X34.here hx rfl (dc d8_87) rfl rfl (st37 _ (XS.iload X37.here hx rfl (dc d8_91) rfl (ldJm X37 hx hZ e37 A4 b0 (dc d8_93) (XS.lload X37.here hx rfl (dc d8_94) rfl (XT.lcmp X37.here hx rfl (dc d8_96) rfl k))))))) ?_
        by_cases hc39 : (id_ st_.toNatClampNeg) = x_
        · have O : own_one (1 : Int32) (pt_ st_.toNatClampNeg) (id_ st_.toNatClampNeg) p_ x_ (1 : Int32) (th_ c_.toNatClampNeg) (pt_ st_.toNatClampNeg) (pt_ (st_.toNatClampNeg + 1)) (id_ st_.toNatClampNeg) := by
            refine ⟨by decide, by decide, ?_, ?_, ?_, ?_⟩
            · exact fun q => by
               rcases q with q | q
               · exact absurd q (by decide)
               · exfalso; omega
            · exact fun _ => ⟨rfl, rfl⟩
            · exact fun _ => by omega
            · exact fun q => absurd q (by decide)
          have Z4 : ((1 : Int32)).toInt ≤ ((1 : Int32).toNatClampNeg : Int) := by
            have q : ((1 : Int32)).toInt = 1 := rfl
            omega
          have LR : own_lr c_.toNatClampNeg st_.toNatClampNeg (1 : Int32).toNatClampNeg sz_ th_ pt_ id_ p_ x_ sz_ th_ pt_ id_ := ⟨fun i hi => ⟨rfl, rfl⟩, fun y hy => ⟨rfl, rfl⟩, own_oc hsz hsz rfl rfl rfl rfl O, by rw [hsz]; exact Z4⟩
          refine Goes.on (T' := T37) (g' := (mkF m 100 #[sR b_, sI c_, sD (dv p_), s2, sJ x_, s2, sI 1, sI st_, sI (st_ + (1 : Int32)), sI st_, su] [])) (fun _ k => XS.ifNo X37.here hx rfl (dc d8_97) rfl (XT.ll_ne_f hc39) k) ?_
          exact Goes.retV X37 hx hlk hret (dc d8_100) (by decide) (by decide) (by rw [e37]; exact ⟨P_, I_, N_, (1 : Int32), q_, sz_, th_, pt_, id_, rfl, N33, K0, F1, F2, F3, F4, F5, F6, F7, A1, A2, A3, A4, E3, E4, g3, g4, nTP, Or.inl rfl, Or.inl rfl, own_lr_ir hN hC3 hcl hz hk LR⟩)
        · obtain ⟨T40, X40, e40, st40⟩ := getF X37 hx hZ hown (host := "") (Or.inl (ow 31 rfl)) Via.refl e37 F1 (g := (mkF m 110 #[sR b_, sI c_, sD (dv p_), s2, sJ x_, s2, sI 1, sI st_, sI (st_ + (1 : Int32)), sI (st_ + (1 : Int32)), su] [(.ref b_), (.int 1)])) rfl rfl (dc d8_110)
          refine Goes.on (T' := T40) (g' := (mkF m 120 #[sR b_, sI c_, sD (dv p_), s2, sJ x_, s2, sI 1, sI st_, sI (st_ + (1 : Int32)), sI (st_ + (1 : Int32)), su] [(.int ((st_ + (1 : Int32)) - (1 : Int32)))])) (fun _ k => XS.ifYes X37.here hx rfl (pc0 := 97) (pc' := 101) rfl (dc d8_97) rfl (XT.ll_ne_t hc39) (by decide) (by decide) (XT.iincV X37.here hx rfl (1 : Int32) (dc d8_101) (by decide) rfl (l' := #[sR b_, sI c_, sD (dv p_), s2, sJ x_, s2, sI 1, sI st_, sI (st_ + (1 : Int32)), sI (st_ + (1 : Int32)), su]) rfl (XS.goto X37.here hx rfl (pc0 := 104) (pc' := 68) rfl (dc d8_104) (by decide) (by decide) (XS.iload X37.here hx rfl (dc d8_68) rfl (XS.iload X37.here hx rfl (dc d8_70) rfl (XS.icmpYes X37.here hx rfl (pc0 := 72) (pc' := 107) rfl (dc d8_72) rfl (XT.ii_ge_t (own_irr _)) (by decide) (by decide) (XS.iload X37.here hx rfl (dc d8_107) rfl (XS.aloadN X37.here hx rfl (dc d8_109) rfl rfl (st40 _ (XS.icmpNo X40.here hx rfl (dc d8_113) rfl (XT.ii_ne_f (by decide)) (XS.iload X40.here hx rfl (dc d8_116) rfl (XS.iconst X40.here hx rfl (dc d8_118) (XS.isub X40.here hx rfl (dc d8_119) rfl k))))))))))))) ?_
          rw [own_s10 hS]
          obtain ⟨T41, X41, e41, st41⟩ := getF X40 hx hZ hown (host := "") (Or.inl (ow 37 rfl)) Via.refl e40 F3 (g := (mkF m 155 #[sR b_, sI c_, sD (dv p_), s2, sJ x_, s2, sI 1, sI st_, sI (st_ + (1 : Int32)), sI (st_ + (1 : Int32)), sI st_] [(.ref b_)])) rfl rfl (dc d8_155)
          obtain ⟨T42, X42, e42, st42⟩ := getF X41 hx hZ hown (host := "") (Or.inl (ow 46 rfl)) Via.refl e41 F5 (g := (mkF m 160 #[sR b_, sI c_, sD (dv p_), s2, sJ x_, s2, sI 1, sI st_, sI (st_ + (1 : Int32)), sI (st_ + (1 : Int32)), sI st_] [(.ref b_), (.int c_), (.ref T_)])) rfl rfl (dc d8_160)
          obtain ⟨T44, h44, X44, e44, W44, B44, st44⟩ := wrK X42 hx hZ e42 A2 hc  (g := (mkF m 166 #[sR b_, sI c_, sD (dv p_), s2, sJ x_, s2, sI 1, sI st_, sI (st_ + (1 : Int32)), sI (st_ + (1 : Int32)), sI st_] [(.double (dv (pt_ st_.toNatClampNeg))), (.int c_), (.ref T_)])) rfl rfl (dc d8_166)
          have N44 := Fr.snoc X44 N33 g2
          have C46 := F1.other W44 (Or.inl ebT)
          have C47 := F2.other W44 (Or.inl ebT)
          have C48 := F3.other W44 (Or.inl ebT)
          have C49 := F4.other W44 (Or.inl ebT)
          have C50 := F5.other W44 (Or.inl ebT)
          have C51 := F6.other W44 (Or.inl ebT)
          have C52 := F7.other W44 (Or.inl ebT)
          have C53 := A1.other W44 eST
          have C54 := A3.other W44 nTP.symm
          have C55 := A4.other W44 eTI.symm
          have C58 := E3.wr W44
          have C59 := E4.wr W44
          have K61 := K0.wr W44 (Or.inl (List.mem_of_getElem? (i := 2) rfl))
          have B44 : Arf Z h44 T_ .double vD M_ (Upd th_ c_.toNatClampNeg (pt_ st_.toNatClampNeg)) := B44
          have O : own_one (1 : Int32) (pt_ st_.toNatClampNeg) (id_ st_.toNatClampNeg) p_ x_ (1 : Int32) (pt_ st_.toNatClampNeg) (pt_ st_.toNatClampNeg) (pt_ (st_.toNatClampNeg + 1)) (id_ st_.toNatClampNeg) := by
            refine ⟨by decide, by decide, ?_, ?_, ?_, ?_⟩
            · exact fun q => by
               rcases q with q | q
               · exact absurd q (by decide)
               · exfalso; omega
            · exact fun _ => ⟨rfl, rfl⟩
            · exact fun _ => by omega
            · exact fun q => absurd q (by decide)
          have Z4 : ((1 : Int32)).toInt ≤ ((1 : Int32).toNatClampNeg : Int) := by
            have q : ((1 : Int32)).toInt = 1 := rfl
            omega
          have LR : own_lr c_.toNatClampNeg st_.toNatClampNeg (1 : Int32).toNatClampNeg sz_ th_ pt_ id_ p_ x_ sz_ (Upd th_ c_.toNatClampNeg (pt_ st_.toNatClampNeg)) pt_ id_ := ⟨fun i hi => ⟨rfl, by simp [Upd, hi]⟩, fun y hy => ⟨rfl, rfl⟩, own_oc hsz hsz (by simp [Upd, n1.1, n2.1, (own_n11 hS).2] <;> omega) rfl rfl rfl O, by rw [hsz]; exact Z4⟩
          refine Goes.on (T' := T44) (g' := (mkF m 215 #[sR b_, sI c_, sD (dv p_), s2, sJ x_, s2, sI 1, sI st_, sI (st_ + (1 : Int32)), sI (st_ + (1 : Int32)), sI st_] [])) (fun _ k => XS.istore X40.here hx rfl (dc d8_120) rfl (l' := #[sR b_, sI c_, sD (dv p_), s2, sJ x_, s2, sI 1, sI st_, sI (st_ + (1 : Int32)), sI (st_ + (1 : Int32)), sI st_]) rfl (XS.iload X40.here hx rfl (dc d8_122) rfl (XS.iload X40.here hx rfl (dc d8_124) rfl (XS.icmpYes X40.here hx rfl (pc0 := 126) (pc' := 154) rfl (dc d8_126) rfl (XT.ii_gt_t (own_lt01 hS)) (by decide) (by decide) (XS.aloadN X40.here hx rfl (dc d8_154) rfl rfl (st41 _ (XS.iloadN X41.here hx rfl (dc d8_158) rfl (XS.aloadN X41.here hx rfl (dc d8_159) rfl rfl (st42 _ (XS.iload X42.here hx rfl (dc d8_163) rfl (ldKm X42 hx hZ e42 A3 b0 (dc d8_165) (st44 _ (XS.goto X44.here hx rfl (pc0 := 167) (pc' := 215) rfl (dc d8_167) (by decide) (by decide) k))))))))))))) ?_
          exact Goes.retV X44 hx hlk hret (dc d8_215) (by decide) (by decide) (by rw [e44]; exact ⟨P_, I_, N_, (1 : Int32), q_, sz_, (Upd th_ c_.toNatClampNeg (pt_ st_.toNatClampNeg)), pt_, id_, rfl, N44, K61, C46, C47, C48, C49, C50, C51, C52, C53, B44, C54, C55, C58, C59, g3, g4, nTP, Or.inl rfl, Or.inl rfl, own_lr_ir hN hC3 hcl hz hk LR⟩)
      · obtain ⟨T62, X62, e62, st62⟩ := getF X34 hx hZ hown (host := "") (Or.inl (ow 31 rfl)) Via.refl e34 F1 (g := (mkF m 110 #[sR b_, sI c_, sD (dv p_), s2, sJ x_, s2, sI 1, sI st_, sI (st_ + (1 : Int32)), sI st_, su] [(.ref b_), (.int 1)])) rfl rfl (dc d8_110)
        refine Goes.on (T' := T62) (g' := (mkF m 120 #[sR b_, sI c_, sD (dv p_), s2, sJ x_, s2, sI 1, sI st_, sI (st_ + (1 : Int32)), sI st_, su] [(.int ((st_ + (1 : Int32)) - (1 : Int32)))])) (fun _ k => XS.ifYes X34.here hx rfl (pc0 := 84) (pc' := 107) rfl (dc d8_84) rfl (dd_ne_t hc36) (by decide) (by decide) (XS.iload X34.here hx rfl (dc d8_107) rfl (XS.aloadN X34.here hx rfl (dc d8_109) rfl rfl (st62 _ (XS.icmpNo X62.here hx rfl (dc d8_113) rfl (XT.ii_ne_f (by decide)) (XS.iload X62.here hx rfl (dc d8_116) rfl (XS.iconst X62.here hx rfl (dc d8_118) (XS.isub X62.here hx rfl (dc d8_119) rfl k)))))))) ?_
        rw [own_s10 hS]
        refine Goes.on (T' := T62) (g' := (mkF m 134 #[sR b_, sI c_, sD (dv p_), s2, sJ x_, s2, sI 1, sI st_, sI (st_ + (1 : Int32)), sI st_, sI st_] [(.int st_), (.int st_), (.ref b_)])) (fun _ k => XS.istore X62.here hx rfl (dc d8_120) rfl (l' := #[sR b_, sI c_, sD (dv p_), s2, sJ x_, s2, sI 1, sI st_, sI (st_ + (1 : Int32)), sI st_, sI st_]) rfl (XS.iload X62.here hx rfl (dc d8_122) rfl (XS.iload X62.here hx rfl (dc d8_124) rfl (XS.icmpNo X62.here hx rfl (dc d8_126) rfl (XT.ii_gt_f (own_irr _)) (XS.aloadN X62.here hx rfl (dc d8_129) rfl rfl (XS.iload X62.here hx rfl (dc d8_130) rfl (XS.iload X62.here hx rfl (dc d8_132) rfl k))))))) ?_
        refine Goes.callP X62 hx hZ 0 hown (ow 70 rfl) (ow 71 rfl) (ow 72 rfl) (ow 1 rfl) (ow 2 rfl) (ow 73 rfl) (by decide) e62 E0 (rmSh0 l Z a0 hw b_ P_ I_ N_ st_ st_ pt_ id_ h0 n0 Z0  E0 F5 F6 A3 A4 ebP ebI ePI g3 g4 (own_d00 _) ⟨hq3, by omega⟩ ⟨n1.2, n1.1⟩ hNb) (by decide) (by decide) (by decide) (by decide) rfl (by rw [hml]; rfl) (argsL := [(.int st_), (.int st_)]) (rest := []) rfl (lenOf pd_4 rfl) rfl (own_le20 rfl) (dc d8_134) ?_
        rintro v63 T63 L63 X63 ⟨rfl, N63q, K63, P63_0, P63_1⟩
        show Goes p e below _ T63 (mkF m 137 #[sR b_, sI c_, sD (dv p_), s2, sJ x_, s2, sI 1, sI st_, sI (st_ + (1 : Int32)), sI st_, sI st_] [])
        have ni66 := (ninS ebP (ninS ebI nin0))
        have C70 := F5.keep K63 ni66
        have ni74 := (ninS eSP (ninS eSI nin0))
        have ni76 := (ninS nTP (ninS eTI nin0))
        have K82 := K0.trans K63 (allS (Or.inl (List.mem_of_getElem? (i := 3) rfl)) (allS (Or.inl (List.mem_of_getElem? (i := 4) rfl)) all0))
        obtain ⟨T83, X83, e83, st83⟩ := getF X63 hx hZ hown (host := "") (Or.inl (ow 46 rfl)) Via.refl rfl C70 (g := (mkF m 138 #[sR b_, sI c_, sD (dv p_), s2, sJ x_, s2, sI 1, sI st_, sI (st_ + (1 : Int32)), sI st_, sI st_] [(.ref b_)])) rfl rfl (dc d8_138)
        obtain ⟨T84, h84, X84, e84, W84, B84, st84⟩ := wrK X83 hx hZ e83 P63_0 b0  (g := (mkF m 144 #[sR b_, sI c_, sD (dv p_), s2, sJ x_, s2, sI 1, sI st_, sI (st_ + (1 : Int32)), sI st_, sI st_] [(.double (dv p_)), (.int st_), (.ref P_)])) rfl rfl (dc d8_144)
        have C91 := (F6.keep K63 ni66).other W84 (Or.inl ebP)
        have C99 := P63_1.other W84 ePI.symm
        have K101 := K82.wr W84 (Or.inl (List.mem_of_getElem? (i := 3) rfl))
        have B84 : Arf Z h84 P_ .double vD N_ (Upd pt_ st_.toNatClampNeg p_) := B84
        obtain ⟨T102, X102, e102, st102⟩ := getF X84 hx hZ hown (host := "") (Or.inl (ow 49 rfl)) Via.refl e84 C91 (g := (mkF m 146 #[sR b_, sI c_, sD (dv p_), s2, sJ x_, s2, sI 1, sI st_, sI (st_ + (1 : Int32)), sI st_, sI st_] [(.ref b_)])) rfl rfl (dc d8_146)
        obtain ⟨T103, h103, X103, e103, W103, B103, st103⟩ := wrJ X102 hx hZ e102 C99 b0  (g := (mkF m 153 #[sR b_, sI c_, sD (dv p_), s2, sJ x_, s2, sI 1, sI st_, sI (st_ + (1 : Int32)), sI st_, sI st_] [(.long x_), (.int st_), (.ref I_)])) rfl rfl (dc d8_153)
        have C107 := ((F3.keep K63 ni66).other W84 (Or.inl ebP)).other W103 (Or.inl ebI)
        have C109 := (C70.other W84 (Or.inl ebP)).other W103 (Or.inl ebI)
        have C113 := ((A2.keep K63 ni76).other W84 nTP).other W103 eTI
        have C118 := B84.other W103 ePI
        have K120 := K101.wr W103 (Or.inl (List.mem_of_getElem? (i := 4) rfl))
        have B103 : Arf Z h103 I_ .long Value.long N_ (Upd id_ st_.toNatClampNeg x_) := B103
        obtain ⟨T121, X121, e121, st121⟩ := getF X103 hx hZ hown (host := "") (Or.inl (ow 37 rfl)) Via.refl e103 C107 (g := (mkF m 155 #[sR b_, sI c_, sD (dv p_), s2, sJ x_, s2, sI 1, sI st_, sI (st_ + (1 : Int32)), sI st_, sI st_] [(.ref b_)])) rfl rfl (dc d8_155)
        obtain ⟨T122, X122, e122, st122⟩ := getF X121 hx hZ hown (host := "") (Or.inl (ow 46 rfl)) Via.refl e121 C109 (g := (mkF m 160 #[sR b_, sI c_, sD (dv p_), s2, sJ x_, s2, sI 1, sI st_, sI (st_ + (1 : Int32)), sI st_, sI st_] [(.ref b_), (.int c_), (.ref T_)])) rfl rfl (dc d8_160)
        obtain ⟨T124, h124, X124, e124, W124, B124, st124⟩ := wrK X122 hx hZ e122 C113 hc  (g := (mkF m 166 #[sR b_, sI c_, sD (dv p_), s2, sJ x_, s2, sI 1, sI st_, sI (st_ + (1 : Int32)), sI st_, sI st_] [(.double (dv ((Upd pt_ st_.toNatClampNeg p_) st_.toNatClampNeg))), (.int c_), (.ref T_)])) rfl rfl (dc d8_166)
        have N124 := Fr.snoc X124 (Fr.snoc X103 (Fr.snoc X84 (Fr.app N33 N63q) g3) g4) g2
        have C126 := (((F1.keep K63 ni66).other W84 (Or.inl ebP)).other W103 (Or.inl ebI)).other W124 (Or.inl ebT)
        have C127 := (((F2.keep K63 ni66).other W84 (Or.inl ebP)).other W103 (Or.inl ebI)).other W124 (Or.inl ebT)
        have C128 := C107.other W124 (Or.inl ebT)
        have C129 := (((F4.keep K63 ni66).other W84 (Or.inl ebP)).other W103 (Or.inl ebI)).other W124 (Or.inl ebT)
        have C130 := C109.other W124 (Or.inl ebT)
        have C131 := (C91.other W103 (Or.inl ebI)).other W124 (Or.inl ebT)
        have C132 := (((F7.keep K63 ni66).other W84 (Or.inl ebP)).other W103 (Or.inl ebI)).other W124 (Or.inl ebT)
        have C133 := (((A1.keep K63 ni74).other W84 eSP).other W103 eSI).other W124 eST
        have C136 := (((E3.keep K63).wr W84).wr W103).wr W124
        have C137 := (((E4.keep K63).wr W84).wr W103).wr W124
        have C138 := C118.other W124 nTP.symm
        have C139 := B103.other W124 eTI.symm
        have K141 := K120.wr W124 (Or.inl (List.mem_of_getElem? (i := 2) rfl))
        have B124 : Arf Z h124 T_ .double vD M_ (Upd th_ c_.toNatClampNeg ((Upd pt_ st_.toNatClampNeg p_) st_.toNatClampNeg)) := B124
        have O : own_one (1 : Int32) (pt_ st_.toNatClampNeg) (id_ st_.toNatClampNeg) p_ x_ (1 : Int32) p_ p_ (pt_ (st_.toNatClampNeg + 1)) x_ := by
          refine ⟨by decide, by decide, ?_, ?_, ?_, ?_⟩
          · exact fun _ => ⟨rfl, rfl⟩
          · exact fun q => by
             exfalso
             exact q (Or.inr (by omega))
          · exact fun _ => by omega
          · exact fun q => absurd q (by decide)
        have Z4 : ((1 : Int32)).toInt ≤ ((1 : Int32).toNatClampNeg : Int) := by
          have q : ((1 : Int32)).toInt = 1 := rfl
          omega
        have LR : own_lr c_.toNatClampNeg st_.toNatClampNeg (1 : Int32).toNatClampNeg sz_ th_ pt_ id_ p_ x_ sz_ (Upd th_ c_.toNatClampNeg ((Upd pt_ st_.toNatClampNeg p_) st_.toNatClampNeg)) (Upd pt_ st_.toNatClampNeg p_) (Upd id_ st_.toNatClampNeg x_) := ⟨fun i hi => ⟨rfl, by simp [Upd, hi]⟩, fun y hy => ⟨(by have y0 : y ≠ st_.toNatClampNeg := (by omega); simp [Upd, n1.1, n2.1, (own_n11 hS).2, y0]), (by have y0 : y ≠ st_.toNatClampNeg := (by omega); simp [Upd, n1.1, n2.1, (own_n11 hS).2, y0])⟩, own_oc hsz hsz (by simp [Upd, n1.1, n2.1, (own_n11 hS).2] <;> omega) (by simp [Upd, n1.1, n2.1, (own_n11 hS).2] <;> omega) (by simp [Upd, n1.1, n2.1, (own_n11 hS).2] <;> omega) (by simp [Upd, n1.1, n2.1, (own_n11 hS).2] <;> omega) O, by rw [hsz]; exact Z4⟩
        refine Goes.on (T' := T124) (g' := (mkF m 215 #[sR b_, sI c_, sD (dv p_), s2, sJ x_, s2, sI 1, sI st_, sI (st_ + (1 : Int32)), sI st_, sI st_] [])) (fun _ k => XS.aloadN X63.here hx rfl (dc d8_137) rfl rfl (st83 _ (XS.iload X83.here hx rfl (dc d8_141) rfl (XS.dloadN X83.here hx rfl (dc d8_143) rfl (st84 _ (XS.aloadN X84.here hx rfl (dc d8_145) rfl rfl (st102 _ (XS.iload X102.here hx rfl (dc d8_149) rfl (XS.lload X102.here hx rfl (dc d8_151) rfl (st103 _ (XS.aloadN X103.here hx rfl (dc d8_154) rfl rfl (st121 _ (XS.iloadN X121.here hx rfl (dc d8_158) rfl (XS.aloadN X121.here hx rfl (dc d8_159) rfl rfl (st122 _ (XS.iload X122.here hx rfl (dc d8_163) rfl (ldKm X122 hx hZ e122 C118 b0 (dc d8_165) (st124 _ (XS.goto X124.here hx rfl (pc0 := 167) (pc' := 215) rfl (dc d8_167) (by decide) (by decide) k))))))))))))))))))) ?_
        exact Goes.retV X124 hx hlk hret (dc d8_215) (by decide) (by decide) (by rw [e124]; exact ⟨P_, I_, N_, (1 : Int32), q_, sz_, (Upd th_ c_.toNatClampNeg ((Upd pt_ st_.toNatClampNeg p_) st_.toNatClampNeg)), (Upd pt_ st_.toNatClampNeg p_), (Upd id_ st_.toNatClampNeg x_), rfl, N124, K141, C126, C127, C128, C129, C130, C131, C132, C133, B124, C138, C139, C136, C137, g3, g4, nTP, Or.inl rfl, Or.inl rfl, own_lr_ir hN hC3 hcl hz hk LR⟩)
theorem d8_38 : decode c8C 38 = .ok (.aload_n 0, 1) := by decide +kernel
theorem pd_5 : parseMethodDescriptor "()V" = some ⟨[], none⟩ := by decide +kernel
theorem d8_39 : decode c8C 39 = .ok (.invokevirtual 56, 3) := by decide +kernel
theorem rmI1g (l : Launch) (Z : State) (a0 : Array Value) (hw : TW Z a0) (b_ S_ T_ P_ I_ : Addr) (M_ N_ : Nat) (c_ l_ q_ : Int32) (sz_ : Nat → Int32) (th_ pt_ : Nat → DK) (id_ : Nat → Int64) (p_ : DK) (x_ : Int64) (h0 : Heap) (n0 : Nat) (Z0 : n0 ≤ h0.size) (E0 : Exa Z h0 b_ "com/example/boceto/boceto/signature/ComponentBuffers") (F1 : Fld Z h0 b_ "com/example/boceto/boceto/signature/ComponentBuffers" "_bufferSize" "I" (.int l_)) (F2 : Fld Z h0 b_ "com/example/boceto/boceto/signature/ComponentBuffers" "_sizes" "[I" (.ref S_)) (F3 : Fld Z h0 b_ "com/example/boceto/boceto/signature/ComponentBuffers" "_thresholds" "[D" (.ref T_)) (F4 : Fld Z h0 b_ "com/example/boceto/boceto/signature/ComponentBuffers" "_capacity" "I" (.int (1 : Int32))) (F5 : Fld Z h0 b_ "com/example/boceto/boceto/signature/ComponentBuffers" "_points" "[D" (.ref P_)) (F6 : Fld Z h0 b_ "com/example/boceto/boceto/signature/ComponentBuffers" "_identities" "[J" (.ref I_)) (F7 : Fld Z h0 b_ "com/example/boceto/boceto/signature/ComponentBuffers" "_pointCount" "I" (.int q_)) (A1 : Arf Z h0 S_ .int Value.int M_ sz_) (A2 : Arf Z h0 T_ .double vD M_ th_) (A3 : Arf Z h0 P_ .double vD N_ pt_) (A4 : Arf Z h0 I_ .long Value.long N_ id_) (E1 : Exa Z h0 S_ "[I") (E2 : Exa Z h0 T_ "[D") (E3 : Exa Z h0 P_ "[D") (E4 : Exa Z h0 I_ "[J") (nTP : T_ ≠ P_) (g0 : n0 ≤ b_) (g1 : n0 ≤ S_) (g2 : n0 ≤ T_) (g3 : n0 ≤ P_) (g4 : n0 ≤ I_) (hc : ¬ c_ < 0 ∧ c_.toNatClampNeg < M_) (hcc : c_ = (0 : Int32) ∨ c_ = (1 : Int32) ∨ c_ = (2 : Int32)) (hM : M_ = 1 ∨ M_ = 2 ∨ M_ = 3) (hN : N_ = M_ * (1 : Int32).toNatClampNeg) (hcl : (1 : Int32).toInt ≤ l_.toInt) (hz : ∀ i, i < M_ → 0 ≤ (sz_ i).toInt ∧ (sz_ i).toInt ≤ (1 : Int32).toInt) (hsz : sz_ c_.toNatClampNeg = (1 : Int32)) (hl : l_ = (2 : Int32) ∨ l_ = (3 : Int32)) (hpt : (pt_ (c_.toNatClampNeg * (1 : Int32).toNatClampNeg)).1 ≤ (th_ c_.toNatClampNeg).1) :
    Pays l Z (⟨"com/example/boceto/boceto/signature/ComponentBuffers", "insert", "(IDJ)V"⟩ : MethodName) prog_28_method_6_code 11 none [] ({ frames := 2, cells := 2, slots := 18, locals := 60 } : Room) #[(.ref b_), (.int c_), (.double (dv p_)), (.long x_)] h0 (fun v h L => ∃ (P2 I2 : Addr) (N2 : Nat) (cp2 q2 : Int32) (sz2 : Nat → Int32) (th2 pt2 : Nat → DK) (id2 : Nat → Int64), v = none ∧ Fr n0 L ∧ Keep h0 h [b_, S_, T_, P_, I_] ∧ Fld Z h b_ "com/example/boceto/boceto/signature/ComponentBuffers" "_bufferSize" "I" (.int l_) ∧ Fld Z h b_ "com/example/boceto/boceto/signature/ComponentBuffers" "_sizes" "[I" (.ref S_) ∧ Fld Z h b_ "com/example/boceto/boceto/signature/ComponentBuffers" "_thresholds" "[D" (.ref T_) ∧ Fld Z h b_ "com/example/boceto/boceto/signature/ComponentBuffers" "_capacity" "I" (.int cp2) ∧ Fld Z h b_ "com/example/boceto/boceto/signature/ComponentBuffers" "_points" "[D" (.ref P2) ∧ Fld Z h b_ "com/example/boceto/boceto/signature/ComponentBuffers" "_identities" "[J" (.ref I2) ∧ Fld Z h b_ "com/example/boceto/boceto/signature/ComponentBuffers" "_pointCount" "I" (.int q2) ∧ Arf Z h S_ .int Value.int M_ sz2 ∧ Arf Z h T_ .double vD M_ th2 ∧ Arf Z h P2 .double vD N2 pt2 ∧ Arf Z h I2 .long Value.long N2 id2 ∧ Exa Z h P2 "[D" ∧ Exa Z h I2 "[J" ∧ n0 ≤ P2 ∧ n0 ≤ I2 ∧ T_ ≠ P2 ∧ (I2 = I_ ∨ h0.size ≤ I2) ∧ (P2 = P_ ∨ h0.size ≤ P2) ∧ own_ir M_ c_.toNatClampNeg (1 : Int32) l_ sz_ th_ pt_ id_ p_ x_ cp2 N2 sz2 th2 pt2 id2) := by
  refine Pays.walk (plainFor_of_name pn_3) (fun m => ef_6 m b_ c_ (dv p_) x_ ) ?_
  intro p e s m below meth c T0 X0 hx hby hml hown hnm hZ e0 hret hlk
  have dc := @Jvm.hb _ _ hby
  have ow := @own_w Z a0 hw
  have N0 := Fr.nil n0
  have ebS : b_ ≠ S_ := ne_exa E0 E1 (by decide)
  have ebT : b_ ≠ T_ := ne_exa E0 E2 (by decide)
  have ebP : b_ ≠ P_ := ne_exa E0 E3 (by decide)
  have ebI : b_ ≠ I_ := ne_exa E0 E4 (by decide)
  have eST : S_ ≠ T_ := ne_exa E1 E2 (by decide)
  have eSP : S_ ≠ P_ := ne_exa E1 E3 (by decide)
  have eSI : S_ ≠ I_ := ne_exa E1 E4 (by decide)
  have eTI : T_ ≠ I_ := ne_exa E2 E4 (by decide)
  have ePI : P_ ≠ I_ := ne_exa E3 E4 (by decide)
  have K0 := Keep.refl h0 [b_, S_, T_, P_, I_]
  have hC3 : (2 : Int32) = (1 : Int32) ∨ (2 : Int32) = (2 : Int32) ∨ (2 : Int32) = (3 : Int32) := (by decide)
  obtain ⟨st_, hst⟩ : ∃ z, c_ * (2 : Int32) = z := ⟨_, rfl⟩
  have hq := own_cs hcc hC3
  rw [hst] at hq
  obtain ⟨hq1, hq2, hk, hq3⟩ := hq
  have hS : 0 ≤ st_.toInt ∧ st_.toInt ≤ 8 := ⟨hq1, hq2⟩
  have hcn : 2 ≤ (2 : Int32).toNatClampNeg := by decide
  have hNN : (M_ * 2) = M_ * (2 : Int32).toNatClampNeg := rfl
  have hNb : (M_ * 2) < 2 ^ 31 := own_nb hM (own_cpn hC3).2.2 hNN
  have B0 := own_b0 (d := 0) hk hc.2 hNN (by omega)
  have B1 := own_b0 (d := 1) hk hc.2 hNN (by omega)
  have b0 : ¬ st_ < 0 ∧ st_.toNatClampNeg < (M_ * 2) := ⟨hq3, B0⟩
  have n1 := own_n1 hS
  have b1 : ¬ (st_ + (1 : Int32)) < 0 ∧ (st_ + (1 : Int32)).toNatClampNeg < (M_ * 2) := ⟨n1.2, by rw [n1.1]; exact B1⟩
  have n2 := own_n2 hS
  have hl1 : (1 : Int32) < l_ := by rcases hl with rfl | rfl <;> decide
  have hl2 : ¬ (1 : Int32) = l_ := by rcases hl with rfl | rfl <;> decide
  have hzz : ∀ i, i < M_ → ¬ sz_ i < 0 ∧ (sz_ i).toNatClampNeg ≤ 1 := fun i hi => own_szn (hz i hi)
  obtain ⟨T1, X1, e1, st1⟩ := getF X0 hx hZ hown (host := "") (Or.inl (ow 37 rfl)) Via.refl e0 F3 (g := (mkF m 2 #[sR b_, sI c_, sD (dv p_), s2, sJ x_, s2, su, su, su, su, su] [(.ref b_), (.double (dv p_))])) rfl rfl (dc d8_2)
  refine Goes.on (T' := T1) (g' := (mkF m 8 #[sR b_, sI c_, sD (dv p_), s2, sJ x_, s2, su, su, su, su, su] [(.int (cmpValue (FP.dcmp (dv p_) (dv (th_ c_.toNatClampNeg))) .l))])) (fun _ k => XS.dloadN X0.here hx rfl (dc d8_0) rfl (XS.aloadN X0.here hx rfl (dc d8_1) rfl rfl (st1 _ (XS.iloadN X1.here hx rfl (dc d8_5) rfl (ldKm X1 hx hZ e1 A2 hc (dc d8_6) (XS.dcmpS X1.here hx rfl (dc d8_7) rfl rfl k)))))) ?_
  by_cases hc3 : (th_ c_.toNatClampNeg).1 < p_.1
  · have O : own_one (1 : Int32) (pt_ (c_.toNatClampNeg * (1 : Int32).toNatClampNeg)) (id_ (c_.toNatClampNeg * (1 : Int32).toNatClampNeg)) p_ x_ (1 : Int32) (th_ c_.toNatClampNeg) (pt_ (c_.toNatClampNeg * (1 : Int32).toNatClampNeg)) (pt_ (c_.toNatClampNeg * (1 : Int32).toNatClampNeg + 1)) (id_ (c_.toNatClampNeg * (1 : Int32).toNatClampNeg)) := by
      refine ⟨by decide, by decide, ?_, ?_, ?_, ?_⟩
      · intro q
        rcases q with q | q
        · exact absurd q (by decide)
        · exfalso; omega
      · exact fun _ => ⟨rfl, rfl⟩
      · exact fun _ => hpt
      · exact fun q => absurd q (by decide)
    have LRX : own_lr c_.toNatClampNeg (c_.toNatClampNeg * (1 : Int32).toNatClampNeg) (1 : Int32).toNatClampNeg sz_ th_ pt_ id_ p_ x_ sz_ th_ pt_ id_ := ⟨fun i hi => ⟨rfl, rfl⟩, fun y hy => ⟨rfl, rfl⟩, own_oc hsz hsz rfl rfl rfl rfl O, by rw [hsz]; decide⟩
    refine Goes.on (T' := T1) (g' := (mkF m 11 #[sR b_, sI c_, sD (dv p_), s2, sJ x_, s2, su, su, su, su, su] [])) (fun _ k => XS.ifNo X1.here hx rfl (dc d8_8) rfl (dd_le_f hc3) k) ?_
    exact Goes.retV X1 hx hlk hret (dc d8_11) (by decide) (by decide) (by rw [e1]; exact ⟨P_, I_, N_, (1 : Int32), q_, sz_, th_, pt_, id_, rfl, N0, K0, F1, F2, F3, F4, F5, F6, F7, A1, A2, A3, A4, E3, E4, g3, g4, nTP, Or.inl rfl, Or.inl rfl, own_lr_ir hN (by decide) hcl hz rfl LRX⟩)
  · obtain ⟨T4, X4, e4, st4⟩ := getF X1 hx hZ hown (host := "") (Or.inl (ow 34 rfl)) Via.refl e1 F2 (g := (mkF m 13 #[sR b_, sI c_, sD (dv p_), s2, sJ x_, s2, su, su, su, su, su] [(.ref b_)])) rfl rfl (dc d8_13)
    refine Goes.on (T' := T4) (g' := (mkF m 18 #[sR b_, sI c_, sD (dv p_), s2, sJ x_, s2, su, su, su, su, su] [(.int (sz_ c_.toNatClampNeg))])) (fun _ k => XS.ifYes X1.here hx rfl (pc0 := 8) (pc' := 12) rfl (dc d8_8) rfl (dd_le_t hc3) (by decide) (by decide) (XS.aloadN X1.here hx rfl (dc d8_12) rfl rfl (st4 _ (XS.iloadN X4.here hx rfl (dc d8_16) rfl (ldIm X4 hx hZ e4 A1 hc (dc d8_17) k))))) ?_
    rw [hsz]
    obtain ⟨T6, X6, e6, st6⟩ := getF X4 hx hZ hown (host := "") (Or.inl (ow 44 rfl)) Via.refl e4 F4 (g := (mkF m 23 #[sR b_, sI c_, sD (dv p_), s2, sJ x_, s2, sI 1, su, su, su, su] [(.ref b_), (.int 1)])) rfl rfl (dc d8_23)
    obtain ⟨T7, X7, e7, st7⟩ := getF X6 hx hZ hown (host := "") (Or.inl (ow 31 rfl)) Via.refl e6 F1 (g := (mkF m 32 #[sR b_, sI c_, sD (dv p_), s2, sJ x_, s2, sI 1, su, su, su, su] [(.ref b_), (.int 1)])) rfl rfl (dc d8_32)
    have hN1 : N_ = M_ * 1 := hN
    refine Goes.on (T' := T7) (g' := (mkF m 39 #[sR b_, sI c_, sD (dv p_), s2, sJ x_, s2, sI 1, su, su, su, su] [(.ref b_)])) (fun _ k => XS.istore X4.here hx rfl (dc d8_18) rfl (l' := #[sR b_, sI c_, sD (dv p_), s2, sJ x_, s2, sI 1, su, su, su, su]) rfl (XS.iload X4.here hx rfl (dc d8_20) rfl (XS.aloadN X4.here hx rfl (dc d8_22) rfl rfl (st6 _ (XS.icmpNo X6.here hx rfl (dc d8_26) rfl (XT.ii_ne_f (by decide)) (XS.iload X6.here hx rfl (dc d8_29) rfl (XS.aloadN X6.here hx rfl (dc d8_31) rfl rfl (st7 _ (XS.icmpNo X7.here hx rfl (dc d8_35) rfl (XT.ii_ge_f hl1) (XS.aloadN X7.here hx rfl (dc d8_38) rfl rfl k)))))))))) ?_
    subst hN1
    refine Goes.callP X7 hx hZ 0 hown (ow 80 rfl) (ow 81 rfl) (ow 82 rfl) (ow 1 rfl) (ow 2 rfl) (ow 83 rfl) (by decide) e7 E0 (rmGr1 l Z a0 hw M_ b_ S_ T_ P_ I_ l_ q_ sz_ pt_ id_ h0 n0 Z0  E0 F1 F2 F4 F5 F6 F3 F7 A1 A3 A4 ebS ebP ebI g0 hl hzz hM) (by decide) (by decide) (by decide) (by decide) rfl (by rw [hml]; rfl) (argsL := []) (rest := []) rfl (lenOf pd_5 rfl) rfl (own_le20 rfl) (dc d8_39) ?_
    rintro v8 T8 L8 X8 ⟨ya8, yb8, ptg_8, idg_8, rfl, N8q, K8, P8_0, P8_1, P8_2, P8_3, P8_4, P8_5, P8_6, P8_7, P8_8, P8_9, P8_10, P8_11, M8_0, M8_1, D8_0, R8_0, R8_1⟩
    have N8 := Fr.app N0 N8q
    show Goes p e below _ T8 (mkF m 42 #[sR b_, sI c_, sD (dv p_), s2, sJ x_, s2, sI 1, su, su, su, su] [])
    have ne9 := own_neL E0.lt M8_0
    have ne10 := own_neL A1.lt M8_0
    have ne11 := own_neL A2.lt M8_0
    have G14 : n0 ≤ ya8 := Nat.le_trans Z0 M8_0
    have M15 : h0.size ≤ ya8 := Nat.le_trans K0.1 M8_0
    have ne16 := own_neL E0.lt M8_1
    have ne17 := own_neL A1.lt M8_1
    have ne18 := own_neL A2.lt M8_1
    have G21 : n0 ≤ yb8 := Nat.le_trans Z0 M8_1
    have M22 : h0.size ≤ yb8 := Nat.le_trans K0.1 M8_1
    have C24 := A1.keep K8 (ninS ebS.symm nin0)
    have C25 := A2.keep K8 (ninS ebT.symm nin0)
    have Z32 := Nat.le_trans Z0 K8.1
    have K33 := K0.trans K8 (allS (Or.inl (List.mem_of_getElem? (i := 0) rfl)) all0)
    have hpos : ∀ d, d < 1 → d < (sz_ c_.toNatClampNeg).toNatClampNeg := fun d hd => by rw [hsz]; exact hd
    have hg0 : ptg_8 st_.toNatClampNeg = pt_ (c_.toNatClampNeg * 1) := by rw [hk]; exact R8_0 _ hc.2 0 (hpos 0 (by decide))
    have hP0 : (ptg_8 st_.toNatClampNeg).1 ≤ (th_ c_.toNatClampNeg).1 := by rw [hg0]; exact hpt
    obtain ⟨T34, X34, e34, st34⟩ := getF X8 hx hZ hown (host := "") (Or.inl (ow 44 rfl)) Via.refl rfl P8_3 (g := (mkF m 44 #[sR b_, sI c_, sD (dv p_), s2, sJ x_, s2, sI 1, su, su, su, su] [(.ref b_), (.int c_)])) rfl rfl (dc d8_44)
    refine Goes.on (T' := T34) (g' := (mkF m 48 #[sR b_, sI c_, sD (dv p_), s2, sJ x_, s2, sI 1, su, su, su, su] [(.int (c_ * (2 : Int32)))])) (fun _ k => XS.iloadN X8.here hx rfl (dc d8_42) rfl (XS.aloadN X8.here hx rfl (dc d8_43) rfl rfl (st34 _ (XS.imul X34.here hx rfl (dc d8_47) rfl k)))) ?_
    rw [hst]
    refine Goes.on (T' := T34) (g' := (mkF m 63 #[sR b_, sI c_, sD (dv p_), s2, sJ x_, s2, sI 1, sI st_, sI (st_ + (1 : Int32)), su, su] [(.double (dv p_)), (.int (st_ + (1 : Int32))), (.int st_), (.ref b_)])) (fun _ k => XS.istore X34.here hx rfl (dc d8_48) rfl (l' := #[sR b_, sI c_, sD (dv p_), s2, sJ x_, s2, sI 1, sI st_, su, su, su]) rfl (XS.iload X34.here hx rfl (dc d8_50) rfl (XS.iload X34.here hx rfl (dc d8_52) rfl (XS.iadd X34.here hx rfl (dc d8_54) rfl (XS.istore X34.here hx rfl (dc d8_55) rfl (l' := #[sR b_, sI c_, sD (dv p_), s2, sJ x_, s2, sI 1, sI st_, sI (st_ + (1 : Int32)), su, su]) rfl (XS.aloadN X34.here hx rfl (dc d8_57) rfl rfl (XS.iload X34.here hx rfl (dc d8_58) rfl (XS.iload X34.here hx rfl (dc d8_60) rfl (XS.dloadN X34.here hx rfl (dc d8_62) rfl k))))))))) ?_
    by_cases hc35 : (ptg_8 st_.toNatClampNeg).1 < p_.1
    · refine Goes.callP X34 hx hZ 0 hown (ow 66 rfl) (ow 67 rfl) (ow 68 rfl) (ow 1 rfl) (ow 2 rfl) (ow 69 rfl) (by decide) e34 P8_0 (rmLB1t l Z a0 hw b_ ya8 (M_ * 2) ptg_8 st_ p_ T8.heap n0 Z32  P8_0 P8_4 P8_9 hS b0 hc35) (by decide) (by decide) (by decide) (by decide) rfl (by rw [hml]; rfl) (argsL := [(.int st_), (.int (st_ + (1 : Int32))), (.double (dv p_))]) (rest := []) rfl (lenOf pd_3 rfl) rfl (own_le20 rfl) (dc d8_63) ?_
      rintro v36 T36 L36 X36 ⟨rfl, N36q, e36⟩
      show Goes p e below _ T36 (mkF m 66 #[sR b_, sI c_, sD (dv p_), s2, sJ x_, s2, sI 1, sI st_, sI (st_ + (1 : Int32)), su, su] [(.int (st_ + (1 : Int32)))])
      obtain ⟨T37, X37, e37, st37⟩ := getF X36 hx hZ hown (host := "") (Or.inl (ow 31 rfl)) Via.refl e36 P8_1 (g := (mkF m 110 #[sR b_, sI c_, sD (dv p_), s2, sJ x_, s2, sI 1, sI st_, sI (st_ + (1 : Int32)), sI (st_ + (1 : Int32)), su] [(.ref b_), (.int 1)])) rfl rfl (dc d8_110)
      refine Goes.on (T' := T37) (g' := (mkF m 175 #[sR b_, sI c_, sD (dv p_), s2, sJ x_, s2, sI 1, sI st_, sI (st_ + (1 : Int32)), sI (st_ + (1 : Int32)), su] [(.int (st_ + (1 : Int32))), (.int (st_ + (1 : Int32))), (.ref b_)])) (fun _ k => XS.istore X36.here hx rfl (dc d8_66) rfl (l' := #[sR b_, sI c_, sD (dv p_), s2, sJ x_, s2, sI 1, sI st_, sI (st_ + (1 : Int32)), sI (st_ + (1 : Int32)), su]) rfl (XS.iload X36.here hx rfl (dc d8_68) rfl (XS.iload X36.here hx rfl (dc d8_70) rfl (XS.icmpYes X36.here hx rfl (pc0 := 72) (pc' := 107) rfl (dc d8_72) rfl (XT.ii_ge_t (own_irr _)) (by decide) (by decide) (XS.iload X36.here hx rfl (dc d8_107) rfl (XS.aloadN X36.here hx rfl (dc d8_109) rfl rfl (st37 _ (XS.icmpYes X37.here hx rfl (pc0 := 113) (pc' := 170) rfl (dc d8_113) rfl (XT.ii_ne_t hl2) (by decide) (by decide) (XS.aloadN X37.here hx rfl (dc d8_170) rfl rfl (XS.iload X37.here hx rfl (dc d8_171) rfl (XS.iload X37.here hx rfl (dc d8_173) rfl k))))))))))) ?_
      refine Goes.callP X37 hx hZ 0 hown (ow 70 rfl) (ow 71 rfl) (ow 72 rfl) (ow 1 rfl) (ow 2 rfl) (ow 73 rfl) (by decide) e37 P8_0 (rmSh0 l Z a0 hw b_ ya8 yb8 (M_ * 2) (st_ + (1 : Int32)) (st_ + (1 : Int32)) ptg_8 idg_8 T8.heap n0 Z32  P8_0 P8_4 P8_5 P8_9 P8_11 ne9 ne16 D8_0 G14 G21 (own_d00 _) ⟨n1.2, by rw [n1.1]; omega⟩ (own_n11 hS) hNb) (by decide) (by decide) (by decide) (by decide) rfl (by rw [hml]; rfl) (argsL := [(.int (st_ + (1 : Int32))), (.int (st_ + (1 : Int32)))]) (rest := []) rfl (lenOf pd_4 rfl) rfl (own_le20 rfl) (dc d8_175) ?_
      rintro v38 T38 L38 X38 ⟨rfl, N38q, K38, P38_0, P38_1⟩
      show Goes p e below _ T38 (mkF m 178 #[sR b_, sI c_, sD (dv p_), s2, sJ x_, s2, sI 1, sI st_, sI (st_ + (1 : Int32)), sI (st_ + (1 : Int32)), su] [])
      have ni41 := (ninS ne10 (ninS ne17 nin0))
      have ni43 := (ninS ne11 (ninS ne18 nin0))
      have ni53 := (ninS ne9 (ninS ne16 nin0))
      have C56 := P8_4.keep K38 ni53
      have K63 := K33.trans K38 (allS (Or.inr M15) (allS (Or.inr M22) all0))
      obtain ⟨T64, X64, e64, st64⟩ := getF X38 hx hZ hown (host := "") (Or.inl (ow 46 rfl)) Via.refl rfl C56 (g := (mkF m 179 #[sR b_, sI c_, sD (dv p_), s2, sJ x_, s2, sI 1, sI st_, sI (st_ + (1 : Int32)), sI (st_ + (1 : Int32)), su] [(.ref b_)])) rfl rfl (dc d8_179)
      obtain ⟨T65, h65, X65, e65, W65, B65, st65⟩ := wrK X64 hx hZ e64 P38_0 b1  (g := (mkF m 185 #[sR b_, sI c_, sD (dv p_), s2, sJ x_, s2, sI 1, sI st_, sI (st_ + (1 : Int32)), sI (st_ + (1 : Int32)), su] [(.double (dv p_)), (.int (st_ + (1 : Int32))), (.ref ya8)])) rfl rfl (dc d8_185)
      have C79 := (P8_5.keep K38 ni53).other W65 (Or.inl ne9)
      have C84 := P38_1.other W65 D8_0.symm
      have K86 := K63.wr W65 (Or.inr M15)
      have B65 : Arf Z h65 ya8 .double vD (M_ * 2) (Upd ptg_8 (st_ + (1 : Int32)).toNatClampNeg p_) := B65
      obtain ⟨T87, X87, e87, st87⟩ := getF X65 hx hZ hown (host := "") (Or.inl (ow 49 rfl)) Via.refl e65 C79 (g := (mkF m 187 #[sR b_, sI c_, sD (dv p_), s2, sJ x_, s2, sI 1, sI st_, sI (st_ + (1 : Int32)), sI (st_ + (1 : Int32)), su] [(.ref b_)])) rfl rfl (dc d8_187)
      obtain ⟨T88, h88, X88, e88, W88, B88, st88⟩ := wrJ X87 hx hZ e87 C84 b1  (g := (mkF m 194 #[sR b_, sI c_, sD (dv p_), s2, sJ x_, s2, sI 1, sI st_, sI (st_ + (1 : Int32)), sI (st_ + (1 : Int32)), su] [(.long x_), (.int (st_ + (1 : Int32))), (.ref yb8)])) rfl rfl (dc d8_194)
      have C90 := ((C24.keep K38 ni41).other W65 ne10).other W88 ne17
      have C99 := ((P8_2.keep K38 ni53).other W65 (Or.inl ne9)).other W88 (Or.inl ne16)
      have K109 := K86.wr W88 (Or.inr M22)
      have B88 : Arf Z h88 yb8 .long Value.long (M_ * 2) (Upd idg_8 (st_ + (1 : Int32)).toNatClampNeg x_) := B88
      obtain ⟨T110, X110, e110, st110⟩ := getF X88 hx hZ hown (host := "") (Or.inl (ow 34 rfl)) Via.refl e88 C99 (g := (mkF m 196 #[sR b_, sI c_, sD (dv p_), s2, sJ x_, s2, sI 1, sI st_, sI (st_ + (1 : Int32)), sI (st_ + (1 : Int32)), su] [(.ref b_)])) rfl rfl (dc d8_196)
      obtain ⟨T111, h111, X111, e111, W111, B111, st111⟩ := wrI X110 hx hZ e110 C90 hc  (g := (mkF m 204 #[sR b_, sI c_, sD (dv p_), s2, sJ x_, s2, sI 1, sI st_, sI (st_ + (1 : Int32)), sI (st_ + (1 : Int32)), su] [(.int 2), (.int c_), (.ref S_)])) rfl rfl (dc d8_204)
      have C112 := (((P8_0.keep K38).wr W65).wr W88).wr W111
      have C126 := (((P8_7.keep K38 ni53).other W65 (Or.inl ne9)).other W88 (Or.inl ne16)).other W111 (Or.inl ebS)
      have K132 := K109.wr W111 (Or.inl (List.mem_of_getElem? (i := 1) rfl))
      have B111 : Arf Z h111 S_ .int Value.int M_ (Upd sz_ c_.toNatClampNeg (2 : Int32)) := B111
      obtain ⟨T133, X133, e133, st133⟩ := getF X111 hx hZ hown (host := "") (Or.inl (ow 78 rfl)) Via.refl e111 C126 (g := (mkF m 207 #[sR b_, sI c_, sD (dv p_), s2, sJ x_, s2, sI 1, sI st_, sI (st_ + (1 : Int32)), sI (st_ + (1 : Int32)), su] [(.ref b_), (.ref b_)])) rfl rfl (dc d8_207)
      obtain ⟨T134, h134, X134, e134, W134, st134⟩ := putF X133 hx hZ hown (host := "") (Or.inl (ow 78 rfl)) Via.refl e133 C126 C112 (Or.inl (ow 79 rfl)) (ow 1 rfl) (ty := .int) (by decide) rfl rfl (g := (mkF m 212 #[sR b_, sI c_, sD (dv p_), s2, sJ x_, s2, sI 1, sI st_, sI (st_ + (1 : Int32)), sI (st_ + (1 : Int32)), su] [(.int (q_ + (1 : Int32))), (.ref b_)])) rfl rfl (dc d8_212)
      have N134 := Fr.snoc X134 (Fr.snoc X111 (Fr.snoc X88 (Fr.snoc X65 (Fr.app (Fr.app N8 N36q) N38q) G14) G21) g1) g0
      have C136 := B111.other W134 ebS.symm
      have C137 := ((((C25.keep K38 ni43).other W65 ne11).other W88 ne18).other W111 eST.symm).other W134 ebT.symm
      have C144 := ((((P8_1.keep K38 ni53).other W65 (Or.inl ne9)).other W88 (Or.inl ne16)).other W111 (Or.inl ebS)).other W134 (Or.inr (sn51 hw))
      have C145 := (C99.other W111 (Or.inl ebS)).other W134 (Or.inr (sn52 hw))
      have C146 := ((((P8_3.keep K38 ni53).other W65 (Or.inl ne9)).other W88 (Or.inl ne16)).other W111 (Or.inl ebS)).other W134 (Or.inr (sn54 hw))
      have C147 := (((C56.other W65 (Or.inl ne9)).other W88 (Or.inl ne16)).other W111 (Or.inl ebS)).other W134 (Or.inr (sn55 hw))
      have C148 := ((C79.other W88 (Or.inl ne16)).other W111 (Or.inl ebS)).other W134 (Or.inr (sn56 hw))
      have C149 := ((((P8_6.keep K38 ni53).other W65 (Or.inl ne9)).other W88 (Or.inl ne16)).other W111 (Or.inl ebS)).other W134 (Or.inr (sn53 hw))
      have C150 := C126.same W134
      have C151 := ((((P8_8.keep K38).wr W65).wr W88).wr W111).wr W134
      have C152 := ((((P8_10.keep K38).wr W65).wr W88).wr W111).wr W134
      have C153 := ((B65.other W88 D8_0).other W111 ne10.symm).other W134 ne9.symm
      have C154 := (B88.other W111 ne17.symm).other W134 ne16.symm
      have K156 := K132.wr W134 (Or.inl (List.mem_of_getElem? (i := 0) rfl))
      have O : own_one (1 : Int32) (ptg_8 st_.toNatClampNeg) (idg_8 st_.toNatClampNeg) p_ x_ (2 : Int32) (th_ c_.toNatClampNeg) (ptg_8 st_.toNatClampNeg) p_ (idg_8 st_.toNatClampNeg) := by
        refine ⟨by decide, by decide, ?_, ?_, ?_, ?_⟩
        · exact fun q => by
           rcases q with q | q
           · exact absurd q (by decide)
           · exfalso; omega
        · exact fun _ => ⟨rfl, rfl⟩
        · exact fun _ => by omega
        · exact fun _ => by omega
      have Z4 : ((2 : Int32)).toInt ≤ ((2 : Int32).toNatClampNeg : Int) := by
        have q : ((2 : Int32)).toInt = 2 := rfl
        omega
      have LR : own_lr c_.toNatClampNeg st_.toNatClampNeg (2 : Int32).toNatClampNeg sz_ th_ ptg_8 idg_8 p_ x_ (Upd sz_ c_.toNatClampNeg (2 : Int32)) th_ (Upd ptg_8 (st_ + (1 : Int32)).toNatClampNeg p_) (Upd idg_8 (st_ + (1 : Int32)).toNatClampNeg x_) := ⟨fun i hi => ⟨by simp [Upd, hi], rfl⟩, fun y hy => ⟨(by have y0 : y ≠ st_.toNatClampNeg := (by omega); have y1 : y ≠ st_.toNatClampNeg + 1 := (by omega); simp [Upd, n1.1, n2.1, (own_n11 hS).2, y0, y1]), (by have y0 : y ≠ st_.toNatClampNeg := (by omega); have y1 : y ≠ st_.toNatClampNeg + 1 := (by omega); simp [Upd, n1.1, n2.1, (own_n11 hS).2, y0, y1])⟩, own_oc hsz (updS _ _ _) rfl (by simp [Upd, n1.1, n2.1, (own_n11 hS).2] <;> omega) (by simp [Upd, n1.1, n2.1, (own_n11 hS).2] <;> omega) (by simp [Upd, n1.1, n2.1, (own_n11 hS).2] <;> omega) O, by rw [updS]; exact Z4⟩
      refine Goes.on (T' := T134) (g' := (mkF m 215 #[sR b_, sI c_, sD (dv p_), s2, sJ x_, s2, sI 1, sI st_, sI (st_ + (1 : Int32)), sI (st_ + (1 : Int32)), su] [])) (fun _ k => XS.aloadN X38.here hx rfl (dc d8_178) rfl rfl (st64 _ (XS.iload X64.here hx rfl (dc d8_182) rfl (XS.dloadN X64.here hx rfl (dc d8_184) rfl (st65 _ (XS.aloadN X65.here hx rfl (dc d8_186) rfl rfl (st87 _ (XS.iload X87.here hx rfl (dc d8_190) rfl (XS.lload X87.here hx rfl (dc d8_192) rfl (st88 _ (XS.aloadN X88.here hx rfl (dc d8_195) rfl rfl (st110 _ (XS.iloadN X110.here hx rfl (dc d8_199) rfl (XS.iload X110.here hx rfl (dc d8_200) rfl (XS.iconst X110.here hx rfl (dc d8_202) (XS.iadd X110.here hx rfl (dc d8_203) rfl (st111 _ (XS.aloadN X111.here hx rfl (dc d8_205) rfl rfl (XS.dup X111.here hx rfl (dc d8_206) rfl rfl (st133 _ (XS.iconst X133.here hx rfl (dc d8_210) (XS.iadd X133.here hx rfl (dc d8_211) rfl (st134 _ k))))))))))))))))))))))) ?_
      exact Goes.retV X134 hx hlk hret (dc d8_215) (by decide) (by decide) (by rw [e134]; exact ⟨ya8, yb8, (M_ * 2), (2 : Int32), (q_ + (1 : Int32)), (Upd sz_ c_.toNatClampNeg (2 : Int32)), th_, (Upd ptg_8 (st_ + (1 : Int32)).toNatClampNeg p_), (Upd idg_8 (st_ + (1 : Int32)).toNatClampNeg x_), rfl, N134, K156, C144, C145, C149, C146, C147, C148, C150, C136, C137, C153, C154, C151, C152, G14, G21, ne11, Or.inr M22, Or.inr M15, own_gr_ir hNN hC3 (by rcases hl with rfl | rfl <;> decide) (by decide) hc.2 hz (by rw [hsz]; decide) R8_0 R8_1 hk LR⟩)
    · refine Goes.callP X34 hx hZ 0 hown (ow 66 rfl) (ow 67 rfl) (ow 68 rfl) (ow 1 rfl) (ow 2 rfl) (ow 69 rfl) (by decide) e34 P8_0 (rmLB1f l Z a0 hw b_ ya8 (M_ * 2) ptg_8 st_ p_ T8.heap n0 Z32  P8_0 P8_4 P8_9 hS b0 hc35) (by decide) (by decide) (by decide) (by decide) rfl (by rw [hml]; rfl) (argsL := [(.int st_), (.int (st_ + (1 : Int32))), (.double (dv p_))]) (rest := []) rfl (lenOf pd_3 rfl) rfl (own_le20 rfl) (dc d8_63) ?_
      rintro v157 T157 L157 X157 ⟨rfl, N157q, e157⟩
      have N157 := Fr.app N8 N157q
      show Goes p e below _ T157 (mkF m 66 #[sR b_, sI c_, sD (dv p_), s2, sJ x_, s2, sI 1, sI st_, sI (st_ + (1 : Int32)), su, su] [(.int st_)])
      obtain ⟨T158, X158, e158, st158⟩ := getF X157 hx hZ hown (host := "") (Or.inl (ow 46 rfl)) Via.refl e157 P8_4 (g := (mkF m 76 #[sR b_, sI c_, sD (dv p_), s2, sJ x_, s2, sI 1, sI st_, sI (st_ + (1 : Int32)), sI st_, su] [(.ref b_)])) rfl rfl (dc d8_76)
      refine Goes.on (T' := T158) (g' := (mkF m 84 #[sR b_, sI c_, sD (dv p_), s2, sJ x_, s2, sI 1, sI st_, sI (st_ + (1 : Int32)), sI st_, su] [(.int (cmpValue (FP.dcmp (dv (ptg_8 st_.toNatClampNeg)) (dv p_)) .l))])) (fun _ k => XS.istore X157.here hx rfl (dc d8_66) rfl (l' := #[sR b_, sI c_, sD (dv p_), s2, sJ x_, s2, sI 1, sI st_, sI (st_ + (1 : Int32)), sI st_, su]) rfl (XS.iload X157.here hx rfl (dc d8_68) rfl (XS.iload X157.here hx rfl (dc d8_70) rfl (XS.icmpNo X157.here hx rfl (dc d8_72) rfl (XT.ii_ge_f (own_lt01 hS)) (XS.aloadN X157.here hx rfl (dc d8_75) rfl rfl (st158 _ (XS.iload X158.here hx rfl (dc d8_79) rfl (ldKm X158 hx hZ e158 P8_9 b0 (dc d8_81) (XS.dloadN X158.here hx rfl (dc d8_82) rfl (XS.dcmpS X158.here hx rfl (dc d8_83) rfl rfl k)))))))))) ?_
      by_cases hc160 : (ptg_8 st_.toNatClampNeg).1 = p_.1
      · obtain ⟨T161, X161, e161, st161⟩ := getF X158 hx hZ hown (host := "") (Or.inl (ow 49 rfl)) Via.refl e158 P8_5 (g := (mkF m 88 #[sR b_, sI c_, sD (dv p_), s2, sJ x_, s2, sI 1, sI st_, sI (st_ + (1 : Int32)), sI st_, su] [(.ref b_)])) rfl rfl (dc d8_88)
        refine Goes.on (T' := T161) (g' := (mkF m 97 #[sR b_, sI c_, sD (dv p_), s2, sJ x_, s2, sI 1, sI st_, sI (st_ + (1 : Int32)), sI st_, su] [(.int (XT.cmpL (idg_8 st_.toNatClampNeg) x_))])) (fun _ k => XS.ifNo X158.here hx rfl (dc d8_84) rfl (dd_ne_f hc160) (XS.aloadN X158.here hx rfl (dc d8_87) rfl rfl (st161 _ (XS.iload X161.here hx rfl (dc d8_91) rfl (ldJm X161 hx hZ e161 P8_11 b0 (dc d8_93) (XS.lload X161.here hx rfl (dc d8_94) rfl (XT.lcmp X161.here hx rfl (dc d8_96) rfl k))))))) ?_
        by_cases hc163 : (idg_8 st_.toNatClampNeg) = x_
        · have O : own_one (1 : Int32) (ptg_8 st_.toNatClampNeg) (idg_8 st_.toNatClampNeg) p_ x_ (1 : Int32) (th_ c_.toNatClampNeg) (ptg_8 st_.toNatClampNeg) (ptg_8 (st_.toNatClampNeg + 1)) (idg_8 st_.toNatClampNeg) := by
            refine ⟨by decide, by decide, ?_, ?_, ?_, ?_⟩
            · exact fun q => by
               rcases q with q | q
               · exact absurd q (by decide)
               · exfalso; omega
            · exact fun _ => ⟨rfl, rfl⟩
            · exact fun _ => by omega
            · exact fun q => absurd q (by decide)
          have Z4 : ((1 : Int32)).toInt ≤ ((2 : Int32).toNatClampNeg : Int) := by
            have q : ((1 : Int32)).toInt = 1 := rfl
            omega
          have LR : own_lr c_.toNatClampNeg st_.toNatClampNeg (2 : Int32).toNatClampNeg sz_ th_ ptg_8 idg_8 p_ x_ sz_ th_ ptg_8 idg_8 := ⟨fun i hi => ⟨rfl, rfl⟩, fun y hy => ⟨rfl, rfl⟩, own_oc hsz hsz rfl rfl rfl rfl O, by rw [hsz]; exact Z4⟩
          refine Goes.on (T' := T161) (g' := (mkF m 100 #[sR b_, sI c_, sD (dv p_), s2, sJ x_, s2, sI 1, sI st_, sI (st_ + (1 : Int32)), sI st_, su] [])) (fun _ k => XS.ifNo X161.here hx rfl (dc d8_97) rfl (XT.ll_ne_f hc163) k) ?_
          exact Goes.retV X161 hx hlk hret (dc d8_100) (by decide) (by decide) (by rw [e161]; exact ⟨ya8, yb8, (M_ * 2), (2 : Int32), q_, sz_, th_, ptg_8, idg_8, rfl, N157, K33, P8_1, P8_2, P8_6, P8_3, P8_4, P8_5, P8_7, C24, C25, P8_9, P8_11, P8_8, P8_10, G14, G21, ne11, Or.inr M22, Or.inr M15, own_gr_ir hNN hC3 (by rcases hl with rfl | rfl <;> decide) (by decide) hc.2 hz (by rw [hsz]; decide) R8_0 R8_1 hk LR⟩)
        · obtain ⟨T164, X164, e164, st164⟩ := getF X161 hx hZ hown (host := "") (Or.inl (ow 31 rfl)) Via.refl e161 P8_1 (g := (mkF m 110 #[sR b_, sI c_, sD (dv p_), s2, sJ x_, s2, sI 1, sI st_, sI (st_ + (1 : Int32)), sI (st_ + (1 : Int32)), su] [(.ref b_), (.int 1)])) rfl rfl (dc d8_110)
          refine Goes.on (T' := T164) (g' := (mkF m 175 #[sR b_, sI c_, sD (dv p_), s2, sJ x_, s2, sI 1, sI st_, sI (st_ + (1 : Int32)), sI (st_ + (1 : Int32)), su] [(.int (st_ + (1 : Int32))), (.int (st_ + (1 : Int32))), (.ref b_)])) (fun _ k => XS.ifYes X161.here hx rfl (pc0 := 97) (pc' := 101) rfl (dc d8_97) rfl (XT.ll_ne_t hc163) (by decide) (by decide) (XT.iincV X161.here hx rfl (1 : Int32) (dc d8_101) (by decide) rfl (l' := #[sR b_, sI c_, sD (dv p_), s2, sJ x_, s2, sI 1, sI st_, sI (st_ + (1 : Int32)), sI (st_ + (1 : Int32)), su]) rfl (XS.goto X161.here hx rfl (pc0 := 104) (pc' := 68) rfl (dc d8_104) (by decide) (by decide) (XS.iload X161.here hx rfl (dc d8_68) rfl (XS.iload X161.here hx rfl (dc d8_70) rfl (XS.icmpYes X161.here hx rfl (pc0 := 72) (pc' := 107) rfl (dc d8_72) rfl (XT.ii_ge_t (own_irr _)) (by decide) (by decide) (XS.iload X161.here hx rfl (dc d8_107) rfl (XS.aloadN X161.here hx rfl (dc d8_109) rfl rfl (st164 _ (XS.icmpYes X164.here hx rfl (pc0 := 113) (pc' := 170) rfl (dc d8_113) rfl (XT.ii_ne_t hl2) (by decide) (by decide) (XS.aloadN X164.here hx rfl (dc d8_170) rfl rfl (XS.iload X164.here hx rfl (dc d8_171) rfl (XS.iload X164.here hx rfl (dc d8_173) rfl k))))))))))))) ?_
          refine Goes.callP X164 hx hZ 0 hown (ow 70 rfl) (ow 71 rfl) (ow 72 rfl) (ow 1 rfl) (ow 2 rfl) (ow 73 rfl) (by decide) e164 P8_0 (rmSh0 l Z a0 hw b_ ya8 yb8 (M_ * 2) (st_ + (1 : Int32)) (st_ + (1 : Int32)) ptg_8 idg_8 T8.heap n0 Z32  P8_0 P8_4 P8_5 P8_9 P8_11 ne9 ne16 D8_0 G14 G21 (own_d00 _) ⟨n1.2, by rw [n1.1]; omega⟩ (own_n11 hS) hNb) (by decide) (by decide) (by decide) (by decide) rfl (by rw [hml]; rfl) (argsL := [(.int (st_ + (1 : Int32))), (.int (st_ + (1 : Int32)))]) (rest := []) rfl (lenOf pd_4 rfl) rfl (own_le20 rfl) (dc d8_175) ?_
          rintro v165 T165 L165 X165 ⟨rfl, N165q, K165, P165_0, P165_1⟩
          show Goes p e below _ T165 (mkF m 178 #[sR b_, sI c_, sD (dv p_), s2, sJ x_, s2, sI 1, sI st_, sI (st_ + (1 : Int32)), sI (st_ + (1 : Int32)), su] [])
          have ni168 := (ninS ne10 (ninS ne17 nin0))
          have ni170 := (ninS ne11 (ninS ne18 nin0))
          have ni180 := (ninS ne9 (ninS ne16 nin0))
          have C183 := P8_4.keep K165 ni180
          have K190 := K33.trans K165 (allS (Or.inr M15) (allS (Or.inr M22) all0))
          obtain ⟨T191, X191, e191, st191⟩ := getF X165 hx hZ hown (host := "") (Or.inl (ow 46 rfl)) Via.refl rfl C183 (g := (mkF m 179 #[sR b_, sI c_, sD (dv p_), s2, sJ x_, s2, sI 1, sI st_, sI (st_ + (1 : Int32)), sI (st_ + (1 : Int32)), su] [(.ref b_)])) rfl rfl (dc d8_179)
          obtain ⟨T192, h192, X192, e192, W192, B192, st192⟩ := wrK X191 hx hZ e191 P165_0 b1  (g := (mkF m 185 #[sR b_, sI c_, sD (dv p_), s2, sJ x_, s2, sI 1, sI st_, sI (st_ + (1 : Int32)), sI (st_ + (1 : Int32)), su] [(.double (dv p_)), (.int (st_ + (1 : Int32))), (.ref ya8)])) rfl rfl (dc d8_185)
          have C206 := (P8_5.keep K165 ni180).other W192 (Or.inl ne9)
          have C211 := P165_1.other W192 D8_0.symm
          have K213 := K190.wr W192 (Or.inr M15)
          have B192 : Arf Z h192 ya8 .double vD (M_ * 2) (Upd ptg_8 (st_ + (1 : Int32)).toNatClampNeg p_) := B192
          obtain ⟨T214, X214, e214, st214⟩ := getF X192 hx hZ hown (host := "") (Or.inl (ow 49 rfl)) Via.refl e192 C206 (g := (mkF m 187 #[sR b_, sI c_, sD (dv p_), s2, sJ x_, s2, sI 1, sI st_, sI (st_ + (1 : Int32)), sI (st_ + (1 : Int32)), su] [(.ref b_)])) rfl rfl (dc d8_187)
          obtain ⟨T215, h215, X215, e215, W215, B215, st215⟩ := wrJ X214 hx hZ e214 C211 b1  (g := (mkF m 194 #[sR b_, sI c_, sD (dv p_), s2, sJ x_, s2, sI 1, sI st_, sI (st_ + (1 : Int32)), sI (st_ + (1 : Int32)), su] [(.long x_), (.int (st_ + (1 : Int32))), (.ref yb8)])) rfl rfl (dc d8_194)
          have C217 := ((C24.keep K165 ni168).other W192 ne10).other W215 ne17
          have C226 := ((P8_2.keep K165 ni180).other W192 (Or.inl ne9)).other W215 (Or.inl ne16)
          have K236 := K213.wr W215 (Or.inr M22)
          have B215 : Arf Z h215 yb8 .long Value.long (M_ * 2) (Upd idg_8 (st_ + (1 : Int32)).toNatClampNeg x_) := B215
          obtain ⟨T237, X237, e237, st237⟩ := getF X215 hx hZ hown (host := "") (Or.inl (ow 34 rfl)) Via.refl e215 C226 (g := (mkF m 196 #[sR b_, sI c_, sD (dv p_), s2, sJ x_, s2, sI 1, sI st_, sI (st_ + (1 : Int32)), sI (st_ + (1 : Int32)), su] [(.ref b_)])) rfl rfl (dc d8_196)
          obtain ⟨T238, h238, X238, e238, W238, B238, st238⟩ := wrI X237 hx hZ e237 C217 hc  (g := (mkF m 204 #[sR b_, sI c_, sD (dv p_), s2, sJ x_, s2, sI 1, sI st_, sI (st_ + (1 : Int32)), sI (st_ + (1 : Int32)), su] [(.int 2), (.int c_), (.ref S_)])) rfl rfl (dc d8_204)
          have C239 := (((P8_0.keep K165).wr W192).wr W215).wr W238
          have C253 := (((P8_7.keep K165 ni180).other W192 (Or.inl ne9)).other W215 (Or.inl ne16)).other W238 (Or.inl ebS)
          have K259 := K236.wr W238 (Or.inl (List.mem_of_getElem? (i := 1) rfl))
          have B238 : Arf Z h238 S_ .int Value.int M_ (Upd sz_ c_.toNatClampNeg (2 : Int32)) := B238
          obtain ⟨T260, X260, e260, st260⟩ := getF X238 hx hZ hown (host := "") (Or.inl (ow 78 rfl)) Via.refl e238 C253 (g := (mkF m 207 #[sR b_, sI c_, sD (dv p_), s2, sJ x_, s2, sI 1, sI st_, sI (st_ + (1 : Int32)), sI (st_ + (1 : Int32)), su] [(.ref b_), (.ref b_)])) rfl rfl (dc d8_207)
          obtain ⟨T261, h261, X261, e261, W261, st261⟩ := putF X260 hx hZ hown (host := "") (Or.inl (ow 78 rfl)) Via.refl e260 C253 C239 (Or.inl (ow 79 rfl)) (ow 1 rfl) (ty := .int) (by decide) rfl rfl (g := (mkF m 212 #[sR b_, sI c_, sD (dv p_), s2, sJ x_, s2, sI 1, sI st_, sI (st_ + (1 : Int32)), sI (st_ + (1 : Int32)), su] [(.int (q_ + (1 : Int32))), (.ref b_)])) rfl rfl (dc d8_212)
          have N261 := Fr.snoc X261 (Fr.snoc X238 (Fr.snoc X215 (Fr.snoc X192 (Fr.app N157 N165q) G14) G21) g1) g0
          have C263 := B238.other W261 ebS.symm
          have C264 := ((((C25.keep K165 ni170).other W192 ne11).other W215 ne18).other W238 eST.symm).other W261 ebT.symm
          have C271 := ((((P8_1.keep K165 ni180).other W192 (Or.inl ne9)).other W215 (Or.inl ne16)).other W238 (Or.inl ebS)).other W261 (Or.inr (sn51 hw))
          have C272 := (C226.other W238 (Or.inl ebS)).other W261 (Or.inr (sn52 hw))
          have C273 := ((((P8_3.keep K165 ni180).other W192 (Or.inl ne9)).other W215 (Or.inl ne16)).other W238 (Or.inl ebS)).other W261 (Or.inr (sn54 hw))
          have C274 := (((C183.other W192 (Or.inl ne9)).other W215 (Or.inl ne16)).other W238 (Or.inl ebS)).other W261 (Or.inr (sn55 hw))
          have C275 := ((C206.other W215 (Or.inl ne16)).other W238 (Or.inl ebS)).other W261 (Or.inr (sn56 hw))
          have C276 := ((((P8_6.keep K165 ni180).other W192 (Or.inl ne9)).other W215 (Or.inl ne16)).other W238 (Or.inl ebS)).other W261 (Or.inr (sn53 hw))
          have C277 := C253.same W261
          have C278 := ((((P8_8.keep K165).wr W192).wr W215).wr W238).wr W261
          have C279 := ((((P8_10.keep K165).wr W192).wr W215).wr W238).wr W261
          have C280 := ((B192.other W215 D8_0).other W238 ne10.symm).other W261 ne9.symm
          have C281 := (B215.other W238 ne17.symm).other W261 ne16.symm
          have K283 := K259.wr W261 (Or.inl (List.mem_of_getElem? (i := 0) rfl))
          have O : own_one (1 : Int32) (ptg_8 st_.toNatClampNeg) (idg_8 st_.toNatClampNeg) p_ x_ (2 : Int32) (th_ c_.toNatClampNeg) (ptg_8 st_.toNatClampNeg) p_ (idg_8 st_.toNatClampNeg) := by
            refine ⟨by decide, by decide, ?_, ?_, ?_, ?_⟩
            · exact fun q => by
               rcases q with q | q
               · exact absurd q (by decide)
               · exfalso; omega
            · exact fun _ => ⟨rfl, rfl⟩
            · exact fun _ => by omega
            · exact fun _ => by omega
          have Z4 : ((2 : Int32)).toInt ≤ ((2 : Int32).toNatClampNeg : Int) := by
            have q : ((2 : Int32)).toInt = 2 := rfl
            omega
          have LR : own_lr c_.toNatClampNeg st_.toNatClampNeg (2 : Int32).toNatClampNeg sz_ th_ ptg_8 idg_8 p_ x_ (Upd sz_ c_.toNatClampNeg (2 : Int32)) th_ (Upd ptg_8 (st_ + (1 : Int32)).toNatClampNeg p_) (Upd idg_8 (st_ + (1 : Int32)).toNatClampNeg x_) := ⟨fun i hi => ⟨by simp [Upd, hi], rfl⟩, fun y hy => ⟨(by have y0 : y ≠ st_.toNatClampNeg := (by omega); have y1 : y ≠ st_.toNatClampNeg + 1 := (by omega); simp [Upd, n1.1, n2.1, (own_n11 hS).2, y0, y1]), (by have y0 : y ≠ st_.toNatClampNeg := (by omega); have y1 : y ≠ st_.toNatClampNeg + 1 := (by omega); simp [Upd, n1.1, n2.1, (own_n11 hS).2, y0, y1])⟩, own_oc hsz (updS _ _ _) rfl (by simp [Upd, n1.1, n2.1, (own_n11 hS).2] <;> omega) (by simp [Upd, n1.1, n2.1, (own_n11 hS).2] <;> omega) (by simp [Upd, n1.1, n2.1, (own_n11 hS).2] <;> omega) O, by rw [updS]; exact Z4⟩
          refine Goes.on (T' := T261) (g' := (mkF m 215 #[sR b_, sI c_, sD (dv p_), s2, sJ x_, s2, sI 1, sI st_, sI (st_ + (1 : Int32)), sI (st_ + (1 : Int32)), su] [])) (fun _ k => XS.aloadN X165.here hx rfl (dc d8_178) rfl rfl (st191 _ (XS.iload X191.here hx rfl (dc d8_182) rfl (XS.dloadN X191.here hx rfl (dc d8_184) rfl (st192 _ (XS.aloadN X192.here hx rfl (dc d8_186) rfl rfl (st214 _ (XS.iload X214.here hx rfl (dc d8_190) rfl (XS.lload X214.here hx rfl (dc d8_192) rfl (st215 _ (XS.aloadN X215.here hx rfl (dc d8_195) rfl rfl (st237 _ (XS.iloadN X237.here hx rfl (dc d8_199) rfl (XS.iload X237.here hx rfl (dc d8_200) rfl (XS.iconst X237.here hx rfl (dc d8_202) (XS.iadd X237.here hx rfl (dc d8_203) rfl (st238 _ (XS.aloadN X238.here hx rfl (dc d8_205) rfl rfl (XS.dup X238.here hx rfl (dc d8_206) rfl rfl (st260 _ (XS.iconst X260.here hx rfl (dc d8_210) (XS.iadd X260.here hx rfl (dc d8_211) rfl (st261 _ k))))))))))))))))))))))) ?_
          exact Goes.retV X261 hx hlk hret (dc d8_215) (by decide) (by decide) (by rw [e261]; exact ⟨ya8, yb8, (M_ * 2), (2 : Int32), (q_ + (1 : Int32)), (Upd sz_ c_.toNatClampNeg (2 : Int32)), th_, (Upd ptg_8 (st_ + (1 : Int32)).toNatClampNeg p_), (Upd idg_8 (st_ + (1 : Int32)).toNatClampNeg x_), rfl, N261, K283, C271, C272, C276, C273, C274, C275, C277, C263, C264, C280, C281, C278, C279, G14, G21, ne11, Or.inr M22, Or.inr M15, own_gr_ir hNN hC3 (by rcases hl with rfl | rfl <;> decide) (by decide) hc.2 hz (by rw [hsz]; decide) R8_0 R8_1 hk LR⟩)
      · obtain ⟨T284, X284, e284, st284⟩ := getF X158 hx hZ hown (host := "") (Or.inl (ow 31 rfl)) Via.refl e158 P8_1 (g := (mkF m 110 #[sR b_, sI c_, sD (dv p_), s2, sJ x_, s2, sI 1, sI st_, sI (st_ + (1 : Int32)), sI st_, su] [(.ref b_), (.int 1)])) rfl rfl (dc d8_110)
        refine Goes.on (T' := T284) (g' := (mkF m 175 #[sR b_, sI c_, sD (dv p_), s2, sJ x_, s2, sI 1, sI st_, sI (st_ + (1 : Int32)), sI st_, su] [(.int (st_ + (1 : Int32))), (.int st_), (.ref b_)])) (fun _ k => XS.ifYes X158.here hx rfl (pc0 := 84) (pc' := 107) rfl (dc d8_84) rfl (dd_ne_t hc160) (by decide) (by decide) (XS.iload X158.here hx rfl (dc d8_107) rfl (XS.aloadN X158.here hx rfl (dc d8_109) rfl rfl (st284 _ (XS.icmpYes X284.here hx rfl (pc0 := 113) (pc' := 170) rfl (dc d8_113) rfl (XT.ii_ne_t hl2) (by decide) (by decide) (XS.aloadN X284.here hx rfl (dc d8_170) rfl rfl (XS.iload X284.here hx rfl (dc d8_171) rfl (XS.iload X284.here hx rfl (dc d8_173) rfl k)))))))) ?_
        refine Goes.callP X284 hx hZ 0 hown (ow 70 rfl) (ow 71 rfl) (ow 72 rfl) (ow 1 rfl) (ow 2 rfl) (ow 73 rfl) (by decide) e284 P8_0 (rmSh1 l Z a0 hw b_ ya8 yb8 (M_ * 2) st_ (st_ + (1 : Int32)) ptg_8 idg_8 T8.heap n0 Z32  P8_0 P8_4 P8_5 P8_9 P8_11 ne9 ne16 D8_0 G14 G21 (own_d10 hS) ⟨hq3, by omega⟩ ⟨n1.2, n1.1⟩ hNb) (by decide) (by decide) (by decide) (by decide) rfl (by rw [hml]; rfl) (argsL := [(.int st_), (.int (st_ + (1 : Int32)))]) (rest := []) rfl (lenOf pd_4 rfl) rfl (own_le20 rfl) (dc d8_175) ?_
        rintro v285 T285 L285 X285 ⟨rfl, N285q, K285, P285_0, P285_1⟩
        show Goes p e below _ T285 (mkF m 178 #[sR b_, sI c_, sD (dv p_), s2, sJ x_, s2, sI 1, sI st_, sI (st_ + (1 : Int32)), sI st_, su] [])
        have ni288 := (ninS ne10 (ninS ne17 nin0))
        have ni290 := (ninS ne11 (ninS ne18 nin0))
        have ni300 := (ninS ne9 (ninS ne16 nin0))
        have C303 := P8_4.keep K285 ni300
        have K310 := K33.trans K285 (allS (Or.inr M15) (allS (Or.inr M22) all0))
        obtain ⟨T311, X311, e311, st311⟩ := getF X285 hx hZ hown (host := "") (Or.inl (ow 46 rfl)) Via.refl rfl C303 (g := (mkF m 179 #[sR b_, sI c_, sD (dv p_), s2, sJ x_, s2, sI 1, sI st_, sI (st_ + (1 : Int32)), sI st_, su] [(.ref b_)])) rfl rfl (dc d8_179)
        obtain ⟨T312, h312, X312, e312, W312, B312, st312⟩ := wrK X311 hx hZ e311 P285_0 b0  (g := (mkF m 185 #[sR b_, sI c_, sD (dv p_), s2, sJ x_, s2, sI 1, sI st_, sI (st_ + (1 : Int32)), sI st_, su] [(.double (dv p_)), (.int st_), (.ref ya8)])) rfl rfl (dc d8_185)
        have C326 := (P8_5.keep K285 ni300).other W312 (Or.inl ne9)
        have C331 := P285_1.other W312 D8_0.symm
        have K333 := K310.wr W312 (Or.inr M15)
        have B312 : Arf Z h312 ya8 .double vD (M_ * 2) (Upd (Upd ptg_8 (st_.toNatClampNeg + 1) (ptg_8 st_.toNatClampNeg)) st_.toNatClampNeg p_) := B312
        obtain ⟨T334, X334, e334, st334⟩ := getF X312 hx hZ hown (host := "") (Or.inl (ow 49 rfl)) Via.refl e312 C326 (g := (mkF m 187 #[sR b_, sI c_, sD (dv p_), s2, sJ x_, s2, sI 1, sI st_, sI (st_ + (1 : Int32)), sI st_, su] [(.ref b_)])) rfl rfl (dc d8_187)
        obtain ⟨T335, h335, X335, e335, W335, B335, st335⟩ := wrJ X334 hx hZ e334 C331 b0  (g := (mkF m 194 #[sR b_, sI c_, sD (dv p_), s2, sJ x_, s2, sI 1, sI st_, sI (st_ + (1 : Int32)), sI st_, su] [(.long x_), (.int st_), (.ref yb8)])) rfl rfl (dc d8_194)
        have C337 := ((C24.keep K285 ni288).other W312 ne10).other W335 ne17
        have C346 := ((P8_2.keep K285 ni300).other W312 (Or.inl ne9)).other W335 (Or.inl ne16)
        have K356 := K333.wr W335 (Or.inr M22)
        have B335 : Arf Z h335 yb8 .long Value.long (M_ * 2) (Upd (Upd idg_8 (st_.toNatClampNeg + 1) (idg_8 st_.toNatClampNeg)) st_.toNatClampNeg x_) := B335
        obtain ⟨T357, X357, e357, st357⟩ := getF X335 hx hZ hown (host := "") (Or.inl (ow 34 rfl)) Via.refl e335 C346 (g := (mkF m 196 #[sR b_, sI c_, sD (dv p_), s2, sJ x_, s2, sI 1, sI st_, sI (st_ + (1 : Int32)), sI st_, su] [(.ref b_)])) rfl rfl (dc d8_196)
        obtain ⟨T358, h358, X358, e358, W358, B358, st358⟩ := wrI X357 hx hZ e357 C337 hc  (g := (mkF m 204 #[sR b_, sI c_, sD (dv p_), s2, sJ x_, s2, sI 1, sI st_, sI (st_ + (1 : Int32)), sI st_, su] [(.int 2), (.int c_), (.ref S_)])) rfl rfl (dc d8_204)
        have C359 := (((P8_0.keep K285).wr W312).wr W335).wr W358
        have C373 := (((P8_7.keep K285 ni300).other W312 (Or.inl ne9)).other W335 (Or.inl ne16)).other W358 (Or.inl ebS)
        have K379 := K356.wr W358 (Or.inl (List.mem_of_getElem? (i := 1) rfl))
        have B358 : Arf Z h358 S_ .int Value.int M_ (Upd sz_ c_.toNatClampNeg (2 : Int32)) := B358
        obtain ⟨T380, X380, e380, st380⟩ := getF X358 hx hZ hown (host := "") (Or.inl (ow 78 rfl)) Via.refl e358 C373 (g := (mkF m 207 #[sR b_, sI c_, sD (dv p_), s2, sJ x_, s2, sI 1, sI st_, sI (st_ + (1 : Int32)), sI st_, su] [(.ref b_), (.ref b_)])) rfl rfl (dc d8_207)
        obtain ⟨T381, h381, X381, e381, W381, st381⟩ := putF X380 hx hZ hown (host := "") (Or.inl (ow 78 rfl)) Via.refl e380 C373 C359 (Or.inl (ow 79 rfl)) (ow 1 rfl) (ty := .int) (by decide) rfl rfl (g := (mkF m 212 #[sR b_, sI c_, sD (dv p_), s2, sJ x_, s2, sI 1, sI st_, sI (st_ + (1 : Int32)), sI st_, su] [(.int (q_ + (1 : Int32))), (.ref b_)])) rfl rfl (dc d8_212)
        have N381 := Fr.snoc X381 (Fr.snoc X358 (Fr.snoc X335 (Fr.snoc X312 (Fr.app N157 N285q) G14) G21) g1) g0
        have C383 := B358.other W381 ebS.symm
        have C384 := ((((C25.keep K285 ni290).other W312 ne11).other W335 ne18).other W358 eST.symm).other W381 ebT.symm
        have C391 := ((((P8_1.keep K285 ni300).other W312 (Or.inl ne9)).other W335 (Or.inl ne16)).other W358 (Or.inl ebS)).other W381 (Or.inr (sn51 hw))
        have C392 := (C346.other W358 (Or.inl ebS)).other W381 (Or.inr (sn52 hw))
        have C393 := ((((P8_3.keep K285 ni300).other W312 (Or.inl ne9)).other W335 (Or.inl ne16)).other W358 (Or.inl ebS)).other W381 (Or.inr (sn54 hw))
        have C394 := (((C303.other W312 (Or.inl ne9)).other W335 (Or.inl ne16)).other W358 (Or.inl ebS)).other W381 (Or.inr (sn55 hw))
        have C395 := ((C326.other W335 (Or.inl ne16)).other W358 (Or.inl ebS)).other W381 (Or.inr (sn56 hw))
        have C396 := ((((P8_6.keep K285 ni300).other W312 (Or.inl ne9)).other W335 (Or.inl ne16)).other W358 (Or.inl ebS)).other W381 (Or.inr (sn53 hw))
        have C397 := C373.same W381
        have C398 := ((((P8_8.keep K285).wr W312).wr W335).wr W358).wr W381
        have C399 := ((((P8_10.keep K285).wr W312).wr W335).wr W358).wr W381
        have C400 := ((B312.other W335 D8_0).other W358 ne10.symm).other W381 ne9.symm
        have C401 := (B335.other W358 ne17.symm).other W381 ne16.symm
        have K403 := K379.wr W381 (Or.inl (List.mem_of_getElem? (i := 0) rfl))
        have O : own_one (1 : Int32) (ptg_8 st_.toNatClampNeg) (idg_8 st_.toNatClampNeg) p_ x_ (2 : Int32) (th_ c_.toNatClampNeg) p_ (ptg_8 st_.toNatClampNeg) x_ := by
          refine ⟨by decide, by decide, ?_, ?_, ?_, ?_⟩
          · exact fun _ => ⟨rfl, rfl⟩
          · exact fun q => by
             exfalso
             exact q (Or.inr (by omega))
          · exact fun _ => by omega
          · exact fun _ => by omega
        have Z4 : ((2 : Int32)).toInt ≤ ((2 : Int32).toNatClampNeg : Int) := by
          have q : ((2 : Int32)).toInt = 2 := rfl
          omega
        have LR : own_lr c_.toNatClampNeg st_.toNatClampNeg (2 : Int32).toNatClampNeg sz_ th_ ptg_8 idg_8 p_ x_ (Upd sz_ c_.toNatClampNeg (2 : Int32)) th_ (Upd (Upd ptg_8 (st_.toNatClampNeg + 1) (ptg_8 st_.toNatClampNeg)) st_.toNatClampNeg p_) (Upd (Upd idg_8 (st_.toNatClampNeg + 1) (idg_8 st_.toNatClampNeg)) st_.toNatClampNeg x_) := ⟨fun i hi => ⟨by simp [Upd, hi], rfl⟩, fun y hy => ⟨(by have y0 : y ≠ st_.toNatClampNeg := (by omega); have y1 : y ≠ st_.toNatClampNeg + 1 := (by omega); simp [Upd, n1.1, n2.1, (own_n11 hS).2, y0, y1]), (by have y0 : y ≠ st_.toNatClampNeg := (by omega); have y1 : y ≠ st_.toNatClampNeg + 1 := (by omega); simp [Upd, n1.1, n2.1, (own_n11 hS).2, y0, y1])⟩, own_oc hsz (updS _ _ _) rfl (by simp [Upd, n1.1, n2.1, (own_n11 hS).2] <;> omega) (by simp [Upd, n1.1, n2.1, (own_n11 hS).2] <;> omega) (by simp [Upd, n1.1, n2.1, (own_n11 hS).2] <;> omega) O, by rw [updS]; exact Z4⟩
        refine Goes.on (T' := T381) (g' := (mkF m 215 #[sR b_, sI c_, sD (dv p_), s2, sJ x_, s2, sI 1, sI st_, sI (st_ + (1 : Int32)), sI st_, su] [])) (fun _ k => XS.aloadN X285.here hx rfl (dc d8_178) rfl rfl (st311 _ (XS.iload X311.here hx rfl (dc d8_182) rfl (XS.dloadN X311.here hx rfl (dc d8_184) rfl (st312 _ (XS.aloadN X312.here hx rfl (dc d8_186) rfl rfl (st334 _ (XS.iload X334.here hx rfl (dc d8_190) rfl (XS.lload X334.here hx rfl (dc d8_192) rfl (st335 _ (XS.aloadN X335.here hx rfl (dc d8_195) rfl rfl (st357 _ (XS.iloadN X357.here hx rfl (dc d8_199) rfl (XS.iload X357.here hx rfl (dc d8_200) rfl (XS.iconst X357.here hx rfl (dc d8_202) (XS.iadd X357.here hx rfl (dc d8_203) rfl (st358 _ (XS.aloadN X358.here hx rfl (dc d8_205) rfl rfl (XS.dup X358.here hx rfl (dc d8_206) rfl rfl (st380 _ (XS.iconst X380.here hx rfl (dc d8_210) (XS.iadd X380.here hx rfl (dc d8_211) rfl (st381 _ k))))))))))))))))))))))) ?_
        exact Goes.retV X381 hx hlk hret (dc d8_215) (by decide) (by decide) (by rw [e381]; exact ⟨ya8, yb8, (M_ * 2), (2 : Int32), (q_ + (1 : Int32)), (Upd sz_ c_.toNatClampNeg (2 : Int32)), th_, (Upd (Upd ptg_8 (st_.toNatClampNeg + 1) (ptg_8 st_.toNatClampNeg)) st_.toNatClampNeg p_), (Upd (Upd idg_8 (st_.toNatClampNeg + 1) (idg_8 st_.toNatClampNeg)) st_.toNatClampNeg x_), rfl, N381, K403, C391, C392, C396, C393, C394, C395, C397, C383, C384, C400, C401, C398, C399, G14, G21, ne11, Or.inr M22, Or.inr M15, own_gr_ir hNN hC3 (by rcases hl with rfl | rfl <;> decide) (by decide) hc.2 hz (by rw [hsz]; decide) R8_0 R8_1 hk LR⟩)
theorem rmI2n (l : Launch) (Z : State) (a0 : Array Value) (hw : TW Z a0) (b_ S_ T_ P_ I_ : Addr) (M_ N_ : Nat) (c_  q_ : Int32) (sz_ : Nat → Int32) (th_ pt_ : Nat → DK) (id_ : Nat → Int64) (p_ : DK) (x_ : Int64) (h0 : Heap) (n0 : Nat) (Z0 : n0 ≤ h0.size) (E0 : Exa Z h0 b_ "com/example/boceto/boceto/signature/ComponentBuffers") (F1 : Fld Z h0 b_ "com/example/boceto/boceto/signature/ComponentBuffers" "_bufferSize" "I" (.int (3 : Int32))) (F2 : Fld Z h0 b_ "com/example/boceto/boceto/signature/ComponentBuffers" "_sizes" "[I" (.ref S_)) (F3 : Fld Z h0 b_ "com/example/boceto/boceto/signature/ComponentBuffers" "_thresholds" "[D" (.ref T_)) (F4 : Fld Z h0 b_ "com/example/boceto/boceto/signature/ComponentBuffers" "_capacity" "I" (.int (3 : Int32))) (F5 : Fld Z h0 b_ "com/example/boceto/boceto/signature/ComponentBuffers" "_points" "[D" (.ref P_)) (F6 : Fld Z h0 b_ "com/example/boceto/boceto/signature/ComponentBuffers" "_identities" "[J" (.ref I_)) (F7 : Fld Z h0 b_ "com/example/boceto/boceto/signature/ComponentBuffers" "_pointCount" "I" (.int q_)) (A1 : Arf Z h0 S_ .int Value.int M_ sz_) (A2 : Arf Z h0 T_ .double vD M_ th_) (A3 : Arf Z h0 P_ .double vD N_ pt_) (A4 : Arf Z h0 I_ .long Value.long N_ id_) (E1 : Exa Z h0 S_ "[I") (E2 : Exa Z h0 T_ "[D") (E3 : Exa Z h0 P_ "[D") (E4 : Exa Z h0 I_ "[J") (nTP : T_ ≠ P_) (g0 : n0 ≤ b_) (g1 : n0 ≤ S_) (g2 : n0 ≤ T_) (g3 : n0 ≤ P_) (g4 : n0 ≤ I_) (hc : ¬ c_ < 0 ∧ c_.toNatClampNeg < M_) (hcc : c_ = (0 : Int32) ∨ c_ = (1 : Int32) ∨ c_ = (2 : Int32)) (hM : M_ = 1 ∨ M_ = 2 ∨ M_ = 3) (hN : N_ = M_ * (3 : Int32).toNatClampNeg) (hcl : (3 : Int32).toInt ≤ (3 : Int32).toInt) (hz : ∀ i, i < M_ → 0 ≤ (sz_ i).toInt ∧ (sz_ i).toInt ≤ (3 : Int32).toInt) (hsz : sz_ c_.toNatClampNeg = (2 : Int32)) (hpt : (pt_ (c_.toNatClampNeg * (3 : Int32).toNatClampNeg)).1 ≤ (th_ c_.toNatClampNeg).1) (hso : (pt_ (c_.toNatClampNeg * (3 : Int32).toNatClampNeg)).1 ≤ (pt_ (c_.toNatClampNeg * (3 : Int32).toNatClampNeg + 1)).1) :
    Pays l Z (⟨"com/example/boceto/boceto/signature/ComponentBuffers", "insert", "(IDJ)V"⟩ : MethodName) prog_28_method_6_code 11 none [] ({ frames := 2, cells := 2, slots := 18, locals := 60 } : Room) #[(.ref b_), (.int c_), (.double (dv p_)), (.long x_)] h0 (fun v h L => ∃ (P2 I2 : Addr) (N2 : Nat) (cp2 q2 : Int32) (sz2 : Nat → Int32) (th2 pt2 : Nat → DK) (id2 : Nat → Int64), v = none ∧ Fr n0 L ∧ Keep h0 h [b_, S_, T_, P_, I_] ∧ Fld Z h b_ "com/example/boceto/boceto/signature/ComponentBuffers" "_bufferSize" "I" (.int (3 : Int32)) ∧ Fld Z h b_ "com/example/boceto/boceto/signature/ComponentBuffers" "_sizes" "[I" (.ref S_) ∧ Fld Z h b_ "com/example/boceto/boceto/signature/ComponentBuffers" "_thresholds" "[D" (.ref T_) ∧ Fld Z h b_ "com/example/boceto/boceto/signature/ComponentBuffers" "_capacity" "I" (.int cp2) ∧ Fld Z h b_ "com/example/boceto/boceto/signature/ComponentBuffers" "_points" "[D" (.ref P2) ∧ Fld Z h b_ "com/example/boceto/boceto/signature/ComponentBuffers" "_identities" "[J" (.ref I2) ∧ Fld Z h b_ "com/example/boceto/boceto/signature/ComponentBuffers" "_pointCount" "I" (.int q2) ∧ Arf Z h S_ .int Value.int M_ sz2 ∧ Arf Z h T_ .double vD M_ th2 ∧ Arf Z h P2 .double vD N2 pt2 ∧ Arf Z h I2 .long Value.long N2 id2 ∧ Exa Z h P2 "[D" ∧ Exa Z h I2 "[J" ∧ n0 ≤ P2 ∧ n0 ≤ I2 ∧ T_ ≠ P2 ∧ (I2 = I_ ∨ h0.size ≤ I2) ∧ (P2 = P_ ∨ h0.size ≤ P2) ∧ own_ir M_ c_.toNatClampNeg (3 : Int32) (3 : Int32) sz_ th_ pt_ id_ p_ x_ cp2 N2 sz2 th2 pt2 id2) := by
  refine Pays.walk (plainFor_of_name pn_3) (fun m => ef_6 m b_ c_ (dv p_) x_ ) ?_
  intro p e s m below meth c T0 X0 hx hby hml hown hnm hZ e0 hret hlk
  have dc := @Jvm.hb _ _ hby
  have ow := @own_w Z a0 hw
  have N0 := Fr.nil n0
  have ebS : b_ ≠ S_ := ne_exa E0 E1 (by decide)
  have ebT : b_ ≠ T_ := ne_exa E0 E2 (by decide)
  have ebP : b_ ≠ P_ := ne_exa E0 E3 (by decide)
  have ebI : b_ ≠ I_ := ne_exa E0 E4 (by decide)
  have eST : S_ ≠ T_ := ne_exa E1 E2 (by decide)
  have eSP : S_ ≠ P_ := ne_exa E1 E3 (by decide)
  have eSI : S_ ≠ I_ := ne_exa E1 E4 (by decide)
  have eTI : T_ ≠ I_ := ne_exa E2 E4 (by decide)
  have ePI : P_ ≠ I_ := ne_exa E3 E4 (by decide)
  have K0 := Keep.refl h0 [b_, S_, T_, P_, I_]
  have hC3 : (3 : Int32) = (1 : Int32) ∨ (3 : Int32) = (2 : Int32) ∨ (3 : Int32) = (3 : Int32) := (by decide)
  obtain ⟨st_, hst⟩ : ∃ z, c_ * (3 : Int32) = z := ⟨_, rfl⟩
  have hq := own_cs hcc hC3
  rw [hst] at hq
  obtain ⟨hq1, hq2, hk, hq3⟩ := hq
  have hS : 0 ≤ st_.toInt ∧ st_.toInt ≤ 8 := ⟨hq1, hq2⟩
  have hcn : 3 ≤ (3 : Int32).toNatClampNeg := by decide
  have hNN : N_ = M_ * (3 : Int32).toNatClampNeg := hN
  have hNb : N_ < 2 ^ 31 := own_nb hM (own_cpn hC3).2.2 hNN
  have B0 := own_b0 (d := 0) hk hc.2 hNN (by omega)
  have B1 := own_b0 (d := 1) hk hc.2 hNN (by omega)
  have B2 := own_b0 (d := 2) hk hc.2 hNN (by omega)
  have b0 : ¬ st_ < 0 ∧ st_.toNatClampNeg < N_ := ⟨hq3, B0⟩
  have n1 := own_n1 hS
  have b1 : ¬ (st_ + (1 : Int32)) < 0 ∧ (st_ + (1 : Int32)).toNatClampNeg < N_ := ⟨n1.2, by rw [n1.1]; exact B1⟩
  have n2 := own_n2 hS
  have b2 : ¬ (st_ + (2 : Int32)) < 0 ∧ (st_ + (2 : Int32)).toNatClampNeg < N_ := ⟨n2.2, by rw [n2.1]; exact B2⟩
  have hP0 : (pt_ st_.toNatClampNeg).1 ≤ (th_ c_.toNatClampNeg).1 := by rw [hk]; exact hpt
  have hP1 : (pt_ st_.toNatClampNeg).1 ≤ (pt_ (st_.toNatClampNeg + 1)).1 := by rw [hk]; exact hso
  obtain ⟨T1, X1, e1, st1⟩ := getF X0 hx hZ hown (host := "") (Or.inl (ow 37 rfl)) Via.refl e0 F3 (g := (mkF m 2 #[sR b_, sI c_, sD (dv p_), s2, sJ x_, s2, su, su, su, su, su] [(.ref b_), (.double (dv p_))])) rfl rfl (dc d8_2)
  refine Goes.on (T' := T1) (g' := (mkF m 8 #[sR b_, sI c_, sD (dv p_), s2, sJ x_, s2, su, su, su, su, su] [(.int (cmpValue (FP.dcmp (dv p_) (dv (th_ c_.toNatClampNeg))) .l))])) (fun _ k => XS.dloadN X0.here hx rfl (dc d8_0) rfl (XS.aloadN X0.here hx rfl (dc d8_1) rfl rfl (st1 _ (XS.iloadN X1.here hx rfl (dc d8_5) rfl (ldKm X1 hx hZ e1 A2 hc (dc d8_6) (XS.dcmpS X1.here hx rfl (dc d8_7) rfl rfl k)))))) ?_
  by_cases hc3 : (th_ c_.toNatClampNeg).1 < p_.1
  · have O : own_one (2 : Int32) (pt_ st_.toNatClampNeg) (id_ st_.toNatClampNeg) p_ x_ (2 : Int32) (th_ c_.toNatClampNeg) (pt_ st_.toNatClampNeg) (pt_ (st_.toNatClampNeg + 1)) (id_ st_.toNatClampNeg) := by
      refine ⟨by decide, by decide, ?_, ?_, ?_, ?_⟩
      · exact fun q => by
         rcases q with q | q
         · exact absurd q (by decide)
         · exfalso; omega
      · exact fun _ => ⟨rfl, rfl⟩
      · exact fun _ => by omega
      · exact fun _ => by omega
    have Z4 : ((2 : Int32)).toInt ≤ ((3 : Int32).toNatClampNeg : Int) := by
      have q : ((2 : Int32)).toInt = 2 := rfl
      omega
    have LR : own_lr c_.toNatClampNeg st_.toNatClampNeg (3 : Int32).toNatClampNeg sz_ th_ pt_ id_ p_ x_ sz_ th_ pt_ id_ := ⟨fun i hi => ⟨rfl, rfl⟩, fun y hy => ⟨rfl, rfl⟩, own_oc hsz hsz rfl rfl rfl rfl O, by rw [hsz]; exact Z4⟩
    refine Goes.on (T' := T1) (g' := (mkF m 11 #[sR b_, sI c_, sD (dv p_), s2, sJ x_, s2, su, su, su, su, su] [])) (fun _ k => XS.ifNo X1.here hx rfl (dc d8_8) rfl (dd_le_f hc3) k) ?_
    exact Goes.retV X1 hx hlk hret (dc d8_11) (by decide) (by decide) (by rw [e1]; exact ⟨P_, I_, N_, (3 : Int32), q_, sz_, th_, pt_, id_, rfl, N0, K0, F1, F2, F3, F4, F5, F6, F7, A1, A2, A3, A4, E3, E4, g3, g4, nTP, Or.inl rfl, Or.inl rfl, own_lr_ir hN hC3 hcl hz hk LR⟩)
  · obtain ⟨T4, X4, e4, st4⟩ := getF X1 hx hZ hown (host := "") (Or.inl (ow 34 rfl)) Via.refl e1 F2 (g := (mkF m 13 #[sR b_, sI c_, sD (dv p_), s2, sJ x_, s2, su, su, su, su, su] [(.ref b_)])) rfl rfl (dc d8_13)
    refine Goes.on (T' := T4) (g' := (mkF m 18 #[sR b_, sI c_, sD (dv p_), s2, sJ x_, s2, su, su, su, su, su] [(.int (sz_ c_.toNatClampNeg))])) (fun _ k => XS.ifYes X1.here hx rfl (pc0 := 8) (pc' := 12) rfl (dc d8_8) rfl (dd_le_t hc3) (by decide) (by decide) (XS.aloadN X1.here hx rfl (dc d8_12) rfl rfl (st4 _ (XS.iloadN X4.here hx rfl (dc d8_16) rfl (ldIm X4 hx hZ e4 A1 hc (dc d8_17) k))))) ?_
    rw [hsz]
    obtain ⟨T6, X6, e6, st6⟩ := getF X4 hx hZ hown (host := "") (Or.inl (ow 44 rfl)) Via.refl e4 F4 (g := (mkF m 23 #[sR b_, sI c_, sD (dv p_), s2, sJ x_, s2, sI 2, su, su, su, su] [(.ref b_), (.int 2)])) rfl rfl (dc d8_23)
    obtain ⟨T7, X7, e7, st7⟩ := getF X6 hx hZ hown (host := "") (Or.inl (ow 44 rfl)) Via.refl e6 F4 (g := (mkF m 44 #[sR b_, sI c_, sD (dv p_), s2, sJ x_, s2, sI 2, su, su, su, su] [(.ref b_), (.int c_)])) rfl rfl (dc d8_44)
    refine Goes.on (T' := T7) (g' := (mkF m 48 #[sR b_, sI c_, sD (dv p_), s2, sJ x_, s2, sI 2, su, su, su, su] [(.int (c_ * (3 : Int32)))])) (fun _ k => XS.istore X4.here hx rfl (dc d8_18) rfl (l' := #[sR b_, sI c_, sD (dv p_), s2, sJ x_, s2, sI 2, su, su, su, su]) rfl (XS.iload X4.here hx rfl (dc d8_20) rfl (XS.aloadN X4.here hx rfl (dc d8_22) rfl rfl (st6 _ (XS.icmpYes X6.here hx rfl (pc0 := 26) (pc' := 42) rfl (dc d8_26) rfl (XT.ii_ne_t (by decide)) (by decide) (by decide) (XS.iloadN X6.here hx rfl (dc d8_42) rfl (XS.aloadN X6.here hx rfl (dc d8_43) rfl rfl (st7 _ (XS.imul X7.here hx rfl (dc d8_47) rfl k))))))))) ?_
    rw [hst]
    have hP2 : (pt_ st_.toNatClampNeg).1 ≤ (pt_ (st_ + (1 : Int32)).toNatClampNeg).1 := by rw [n1.1]; exact hP1
    refine Goes.on (T' := T7) (g' := (mkF m 63 #[sR b_, sI c_, sD (dv p_), s2, sJ x_, s2, sI 2, sI st_, sI (st_ + (2 : Int32)), su, su] [(.double (dv p_)), (.int (st_ + (2 : Int32))), (.int st_), (.ref b_)])) (fun _ k => XS.istore X7.here hx rfl (dc d8_48) rfl (l' := #[sR b_, sI c_, sD (dv p_), s2, sJ x_, s2, sI 2, sI st_, su, su, su]) rfl (XS.iload X7.here hx rfl (dc d8_50) rfl (XS.iload X7.here hx rfl (dc d8_52) rfl (XS.iadd X7.here hx rfl (dc d8_54) rfl (XS.istore X7.here hx rfl (dc d8_55) rfl (l' := #[sR b_, sI c_, sD (dv p_), s2, sJ x_, s2, sI 2, sI st_, sI (st_ + (2 : Int32)), su, su]) rfl (XS.aloadN X7.here hx rfl (dc d8_57) rfl rfl (XS.iload X7.here hx rfl (dc d8_58) rfl (XS.iload X7.here hx rfl (dc d8_60) rfl (XS.dloadN X7.here hx rfl (dc d8_62) rfl k))))))))) ?_
    refine Goes.joinA X7 (h := h0) (n0 := n0) (C := p_.1 < (pt_ st_.toNatClampNeg).1) (fr := (mkF m 107 #[sR b_, sI c_, sD (dv p_), s2, sJ x_, s2, sI 2, sI st_, sI (st_ + (2 : Int32)), sI st_, su] [])) ?_ ?_
    · intro hA T8 L8 X8 e8 N8
      obtain ⟨T9, X9, e9, st9⟩ := getF X8 hx hZ hown (host := "") (Or.inl (ow 31 rfl)) Via.refl e8 F1 (g := (mkF m 110 #[sR b_, sI c_, sD (dv p_), s2, sJ x_, s2, sI 2, sI st_, sI (st_ + (2 : Int32)), sI st_, su] [(.ref b_), (.int 2)])) rfl rfl (dc d8_110)
      refine Goes.on (T' := T9) (g' := (mkF m 175 #[sR b_, sI c_, sD (dv p_), s2, sJ x_, s2, sI 2, sI st_, sI (st_ + (2 : Int32)), sI st_, su] [(.int (st_ + (2 : Int32))), (.int st_), (.ref b_)])) (fun _ k => XS.iload X8.here hx rfl (dc d8_107) rfl (XS.aloadN X8.here hx rfl (dc d8_109) rfl rfl (st9 _ (XS.icmpYes X9.here hx rfl (pc0 := 113) (pc' := 170) rfl (dc d8_113) rfl (XT.ii_ne_t (by decide)) (by decide) (by decide) (XS.aloadN X9.here hx rfl (dc d8_170) rfl rfl (XS.iload X9.here hx rfl (dc d8_171) rfl (XS.iload X9.here hx rfl (dc d8_173) rfl k))))))) ?_
      refine Goes.callP X9 hx hZ 0 hown (ow 70 rfl) (ow 71 rfl) (ow 72 rfl) (ow 1 rfl) (ow 2 rfl) (ow 73 rfl) (by decide) e9 E0 (rmSh2 l Z a0 hw b_ P_ I_ N_ st_ (st_ + (2 : Int32)) pt_ id_ h0 n0 Z0  E0 F5 F6 A3 A4 ebP ebI ePI g3 g4 (own_d20 hS) ⟨hq3, by omega⟩ ⟨n1.2, n1.1⟩ hNb) (by decide) (by decide) (by decide) (by decide) rfl (by rw [hml]; rfl) (argsL := [(.int st_), (.int (st_ + (2 : Int32)))]) (rest := []) rfl (lenOf pd_4 rfl) rfl (own_le20 rfl) (dc d8_175) ?_
      rintro v10 T10 L10 X10 ⟨rfl, N10q, K10, P10_0, P10_1⟩
      show Goes p e below _ T10 (mkF m 178 #[sR b_, sI c_, sD (dv p_), s2, sJ x_, s2, sI 2, sI st_, sI (st_ + (2 : Int32)), sI st_, su] [])
      have ni13 := (ninS ebP (ninS ebI nin0))
      have C17 := F5.keep K10 ni13
      have ni21 := (ninS eSP (ninS eSI nin0))
      have ni23 := (ninS nTP (ninS eTI nin0))
      have K29 := K0.trans K10 (allS (Or.inl (List.mem_of_getElem? (i := 3) rfl)) (allS (Or.inl (List.mem_of_getElem? (i := 4) rfl)) all0))
      obtain ⟨T30, X30, e30, st30⟩ := getF X10 hx hZ hown (host := "") (Or.inl (ow 46 rfl)) Via.refl rfl C17 (g := (mkF m 179 #[sR b_, sI c_, sD (dv p_), s2, sJ x_, s2, sI 2, sI st_, sI (st_ + (2 : Int32)), sI st_, su] [(.ref b_)])) rfl rfl (dc d8_179)
      obtain ⟨T31, h31, X31, e31, W31, B31, st31⟩ := wrK X30 hx hZ e30 P10_0 b0  (g := (mkF m 185 #[sR b_, sI c_, sD (dv p_), s2, sJ x_, s2, sI 2, sI st_, sI (st_ + (2 : Int32)), sI st_, su] [(.double (dv p_)), (.int st_), (.ref P_)])) rfl rfl (dc d8_185)
      have C38 := (F6.keep K10 ni13).other W31 (Or.inl ebP)
      have C46 := P10_1.other W31 ePI.symm
      have K48 := K29.wr W31 (Or.inl (List.mem_of_getElem? (i := 3) rfl))
      have B31 : Arf Z h31 P_ .double vD N_ (Upd (Upd (Upd pt_ (st_.toNatClampNeg + 2) (pt_ (st_.toNatClampNeg + 1))) (st_.toNatClampNeg + 1) (pt_ st_.toNatClampNeg)) st_.toNatClampNeg p_) := B31
      obtain ⟨T49, X49, e49, st49⟩ := getF X31 hx hZ hown (host := "") (Or.inl (ow 49 rfl)) Via.refl e31 C38 (g := (mkF m 187 #[sR b_, sI c_, sD (dv p_), s2, sJ x_, s2, sI 2, sI st_, sI (st_ + (2 : Int32)), sI st_, su] [(.ref b_)])) rfl rfl (dc d8_187)
      obtain ⟨T50, h50, X50, e50, W50, B50, st50⟩ := wrJ X49 hx hZ e49 C46 b0  (g := (mkF m 194 #[sR b_, sI c_, sD (dv p_), s2, sJ x_, s2, sI 2, sI st_, sI (st_ + (2 : Int32)), sI st_, su] [(.long x_), (.int st_), (.ref I_)])) rfl rfl (dc d8_194)
      have C53 := ((F2.keep K10 ni13).other W31 (Or.inl ebP)).other W50 (Or.inl ebI)
      have C59 := ((A1.keep K10 ni21).other W31 eSP).other W50 eSI
      have K67 := K48.wr W50 (Or.inl (List.mem_of_getElem? (i := 4) rfl))
      have B50 : Arf Z h50 I_ .long Value.long N_ (Upd (Upd (Upd id_ (st_.toNatClampNeg + 2) (id_ (st_.toNatClampNeg + 1))) (st_.toNatClampNeg + 1) (id_ st_.toNatClampNeg)) st_.toNatClampNeg x_) := B50
      obtain ⟨T68, X68, e68, st68⟩ := getF X50 hx hZ hown (host := "") (Or.inl (ow 34 rfl)) Via.refl e50 C53 (g := (mkF m 196 #[sR b_, sI c_, sD (dv p_), s2, sJ x_, s2, sI 2, sI st_, sI (st_ + (2 : Int32)), sI st_, su] [(.ref b_)])) rfl rfl (dc d8_196)
      obtain ⟨T69, h69, X69, e69, W69, B69, st69⟩ := wrI X68 hx hZ e68 C59 hc  (g := (mkF m 204 #[sR b_, sI c_, sD (dv p_), s2, sJ x_, s2, sI 2, sI st_, sI (st_ + (2 : Int32)), sI st_, su] [(.int 3), (.int c_), (.ref S_)])) rfl rfl (dc d8_204)
      have C70 := (((E0.keep K10).wr W31).wr W50).wr W69
      have C77 := (((F7.keep K10 ni13).other W31 (Or.inl ebP)).other W50 (Or.inl ebI)).other W69 (Or.inl ebS)
      have K86 := K67.wr W69 (Or.inl (List.mem_of_getElem? (i := 1) rfl))
      have B69 : Arf Z h69 S_ .int Value.int M_ (Upd sz_ c_.toNatClampNeg (3 : Int32)) := B69
      obtain ⟨T87, X87, e87, st87⟩ := getF X69 hx hZ hown (host := "") (Or.inl (ow 78 rfl)) Via.refl e69 C77 (g := (mkF m 207 #[sR b_, sI c_, sD (dv p_), s2, sJ x_, s2, sI 2, sI st_, sI (st_ + (2 : Int32)), sI st_, su] [(.ref b_), (.ref b_)])) rfl rfl (dc d8_207)
      obtain ⟨T88, h88, X88, e88, W88, st88⟩ := putF X87 hx hZ hown (host := "") (Or.inl (ow 78 rfl)) Via.refl e87 C77 C70 (Or.inl (ow 79 rfl)) (ow 1 rfl) (ty := .int) (by decide) rfl rfl (g := (mkF m 212 #[sR b_, sI c_, sD (dv p_), s2, sJ x_, s2, sI 2, sI st_, sI (st_ + (2 : Int32)), sI st_, su] [(.int (q_ + (1 : Int32))), (.ref b_)])) rfl rfl (dc d8_212)
      have N88 := Fr.snoc X88 (Fr.snoc X69 (Fr.snoc X50 (Fr.snoc X31 (Fr.app N8 N10q) g3) g4) g1) g0
      have C90 := ((((F1.keep K10 ni13).other W31 (Or.inl ebP)).other W50 (Or.inl ebI)).other W69 (Or.inl ebS)).other W88 (Or.inr (sn51 hw))
      have C91 := (C53.other W69 (Or.inl ebS)).other W88 (Or.inr (sn52 hw))
      have C92 := ((((F3.keep K10 ni13).other W31 (Or.inl ebP)).other W50 (Or.inl ebI)).other W69 (Or.inl ebS)).other W88 (Or.inr (sn53 hw))
      have C93 := ((((F4.keep K10 ni13).other W31 (Or.inl ebP)).other W50 (Or.inl ebI)).other W69 (Or.inl ebS)).other W88 (Or.inr (sn54 hw))
      have C94 := (((C17.other W31 (Or.inl ebP)).other W50 (Or.inl ebI)).other W69 (Or.inl ebS)).other W88 (Or.inr (sn55 hw))
      have C95 := ((C38.other W50 (Or.inl ebI)).other W69 (Or.inl ebS)).other W88 (Or.inr (sn56 hw))
      have C96 := C77.same W88
      have C97 := B69.other W88 ebS.symm
      have C98 := ((((A2.keep K10 ni23).other W31 nTP).other W50 eTI).other W69 eST.symm).other W88 ebT.symm
      have C101 := ((((E3.keep K10).wr W31).wr W50).wr W69).wr W88
      have C102 := ((((E4.keep K10).wr W31).wr W50).wr W69).wr W88
      have C103 := ((B31.other W50 ePI).other W69 eSP.symm).other W88 ebP.symm
      have C104 := (B50.other W69 eSI.symm).other W88 ebI.symm
      have K106 := K86.wr W88 (Or.inl (List.mem_of_getElem? (i := 0) rfl))
      have O : own_one (2 : Int32) (pt_ st_.toNatClampNeg) (id_ st_.toNatClampNeg) p_ x_ (3 : Int32) (th_ c_.toNatClampNeg) p_ (pt_ st_.toNatClampNeg) x_ := by
        refine ⟨by decide, by decide, ?_, ?_, ?_, ?_⟩
        · exact fun _ => ⟨rfl, rfl⟩
        · exact fun q => by
           exfalso
           exact q (Or.inr (by omega))
        · exact fun q => absurd rfl q
        · exact fun q => absurd q (by decide)
      have Z4 : ((3 : Int32)).toInt ≤ ((3 : Int32).toNatClampNeg : Int) := by
        have q : ((3 : Int32)).toInt = 3 := rfl
        omega
      have LR : own_lr c_.toNatClampNeg st_.toNatClampNeg (3 : Int32).toNatClampNeg sz_ th_ pt_ id_ p_ x_ (Upd sz_ c_.toNatClampNeg (3 : Int32)) th_ (Upd (Upd (Upd pt_ (st_.toNatClampNeg + 2) (pt_ (st_.toNatClampNeg + 1))) (st_.toNatClampNeg + 1) (pt_ st_.toNatClampNeg)) st_.toNatClampNeg p_) (Upd (Upd (Upd id_ (st_.toNatClampNeg + 2) (id_ (st_.toNatClampNeg + 1))) (st_.toNatClampNeg + 1) (id_ st_.toNatClampNeg)) st_.toNatClampNeg x_) := ⟨fun i hi => ⟨by simp [Upd, hi], rfl⟩, fun y hy => ⟨(by have y0 : y ≠ st_.toNatClampNeg := (by omega); have y1 : y ≠ st_.toNatClampNeg + 1 := (by omega); have y2 : y ≠ st_.toNatClampNeg + 2 := (by omega); simp [Upd, n1.1, n2.1, (own_n11 hS).2, y0, y1, y2]), (by have y0 : y ≠ st_.toNatClampNeg := (by omega); have y1 : y ≠ st_.toNatClampNeg + 1 := (by omega); have y2 : y ≠ st_.toNatClampNeg + 2 := (by omega); simp [Upd, n1.1, n2.1, (own_n11 hS).2, y0, y1, y2])⟩, own_oc hsz (updS _ _ _) rfl (by simp [Upd, n1.1, n2.1, (own_n11 hS).2] <;> omega) (by simp [Upd, n1.1, n2.1, (own_n11 hS).2] <;> omega) (by simp [Upd, n1.1, n2.1, (own_n11 hS).2] <;> omega) O, by rw [updS]; exact Z4⟩
      refine Goes.on (T' := T88) (g' := (mkF m 215 #[sR b_, sI c_, sD (dv p_), s2, sJ x_, s2, sI 2, sI st_, sI (st_ + (2 : Int32)), sI st_, su] [])) (fun _ k => XS.aloadN X10.here hx rfl (dc d8_178) rfl rfl (st30 _ (XS.iload X30.here hx rfl (dc d8_182) rfl (XS.dloadN X30.here hx rfl (dc d8_184) rfl (st31 _ (XS.aloadN X31.here hx rfl (dc d8_186) rfl rfl (st49 _ (XS.iload X49.here hx rfl (dc d8_190) rfl (XS.lload X49.here hx rfl (dc d8_192) rfl (st50 _ (XS.aloadN X50.here hx rfl (dc d8_195) rfl rfl (st68 _ (XS.iloadN X68.here hx rfl (dc d8_199) rfl (XS.iload X68.here hx rfl (dc d8_200) rfl (XS.iconst X68.here hx rfl (dc d8_202) (XS.iadd X68.here hx rfl (dc d8_203) rfl (st69 _ (XS.aloadN X69.here hx rfl (dc d8_205) rfl rfl (XS.dup X69.here hx rfl (dc d8_206) rfl rfl (st87 _ (XS.iconst X87.here hx rfl (dc d8_210) (XS.iadd X87.here hx rfl (dc d8_211) rfl (st88 _ k))))))))))))))))))))))) ?_
      exact Goes.retV X88 hx hlk hret (dc d8_215) (by decide) (by decide) (by rw [e88]; exact ⟨P_, I_, N_, (3 : Int32), (q_ + (1 : Int32)), (Upd sz_ c_.toNatClampNeg (3 : Int32)), th_, (Upd (Upd (Upd pt_ (st_.toNatClampNeg + 2) (pt_ (st_.toNatClampNeg + 1))) (st_.toNatClampNeg + 1) (pt_ st_.toNatClampNeg)) st_.toNatClampNeg p_), (Upd (Upd (Upd id_ (st_.toNatClampNeg + 2) (id_ (st_.toNatClampNeg + 1))) (st_.toNatClampNeg + 1) (id_ st_.toNatClampNeg)) st_.toNatClampNeg x_), rfl, N88, K106, C90, C91, C92, C93, C94, C95, C96, C97, C98, C103, C104, C101, C102, g3, g4, nTP, Or.inl rfl, Or.inl rfl, own_lr_ir hN hC3 hcl hz hk LR⟩)
    · intro J8
      refine Goes.joinA X7 (h := h0) (n0 := n0) (C := (pt_ st_.toNatClampNeg).1 ≤ p_.1) (fr := (mkF m 107 #[sR b_, sI c_, sD (dv p_), s2, sJ x_, s2, sI 2, sI st_, sI (st_ + (2 : Int32)), sI (st_ + (1 : Int32)), su] [])) ?_ ?_
      · intro hA T107 L107 X107 e107 N107
        obtain ⟨T108, X108, e108, st108⟩ := getF X107 hx hZ hown (host := "") (Or.inl (ow 31 rfl)) Via.refl e107 F1 (g := (mkF m 110 #[sR b_, sI c_, sD (dv p_), s2, sJ x_, s2, sI 2, sI st_, sI (st_ + (2 : Int32)), sI (st_ + (1 : Int32)), su] [(.ref b_), (.int 2)])) rfl rfl (dc d8_110)
        refine Goes.on (T' := T108) (g' := (mkF m 175 #[sR b_, sI c_, sD (dv p_), s2, sJ x_, s2, sI 2, sI st_, sI (st_ + (2 : Int32)), sI (st_ + (1 : Int32)), su] [(.int (st_ + (2 : Int32))), (.int (st_ + (1 : Int32))), (.ref b_)])) (fun _ k => XS.iload X107.here hx rfl (dc d8_107) rfl (XS.aloadN X107.here hx rfl (dc d8_109) rfl rfl (st108 _ (XS.icmpYes X108.here hx rfl (pc0 := 113) (pc' := 170) rfl (dc d8_113) rfl (XT.ii_ne_t (by decide)) (by decide) (by decide) (XS.aloadN X108.here hx rfl (dc d8_170) rfl rfl (XS.iload X108.here hx rfl (dc d8_171) rfl (XS.iload X108.here hx rfl (dc d8_173) rfl k))))))) ?_
        refine Goes.callP X108 hx hZ 0 hown (ow 70 rfl) (ow 71 rfl) (ow 72 rfl) (ow 1 rfl) (ow 2 rfl) (ow 73 rfl) (by decide) e108 E0 (rmSh1 l Z a0 hw b_ P_ I_ N_ (st_ + (1 : Int32)) (st_ + (2 : Int32)) pt_ id_ h0 n0 Z0  E0 F5 F6 A3 A4 ebP ebI ePI g3 g4 (own_d21 hS) ⟨n1.2, by rw [n1.1]; omega⟩ (own_n11 hS) hNb) (by decide) (by decide) (by decide) (by decide) rfl (by rw [hml]; rfl) (argsL := [(.int (st_ + (1 : Int32))), (.int (st_ + (2 : Int32)))]) (rest := []) rfl (lenOf pd_4 rfl) rfl (own_le20 rfl) (dc d8_175) ?_
        rintro v109 T109 L109 X109 ⟨rfl, N109q, K109, P109_0, P109_1⟩
        show Goes p e below _ T109 (mkF m 178 #[sR b_, sI c_, sD (dv p_), s2, sJ x_, s2, sI 2, sI st_, sI (st_ + (2 : Int32)), sI (st_ + (1 : Int32)), su] [])
        have ni112 := (ninS ebP (ninS ebI nin0))
        have C116 := F5.keep K109 ni112
        have ni120 := (ninS eSP (ninS eSI nin0))
        have ni122 := (ninS nTP (ninS eTI nin0))
        have K128 := K0.trans K109 (allS (Or.inl (List.mem_of_getElem? (i := 3) rfl)) (allS (Or.inl (List.mem_of_getElem? (i := 4) rfl)) all0))
        obtain ⟨T129, X129, e129, st129⟩ := getF X109 hx hZ hown (host := "") (Or.inl (ow 46 rfl)) Via.refl rfl C116 (g := (mkF m 179 #[sR b_, sI c_, sD (dv p_), s2, sJ x_, s2, sI 2, sI st_, sI (st_ + (2 : Int32)), sI (st_ + (1 : Int32)), su] [(.ref b_)])) rfl rfl (dc d8_179)
        obtain ⟨T130, h130, X130, e130, W130, B130, st130⟩ := wrK X129 hx hZ e129 P109_0 b1  (g := (mkF m 185 #[sR b_, sI c_, sD (dv p_), s2, sJ x_, s2, sI 2, sI st_, sI (st_ + (2 : Int32)), sI (st_ + (1 : Int32)), su] [(.double (dv p_)), (.int (st_ + (1 : Int32))), (.ref P_)])) rfl rfl (dc d8_185)
        have C137 := (F6.keep K109 ni112).other W130 (Or.inl ebP)
        have C145 := P109_1.other W130 ePI.symm
        have K147 := K128.wr W130 (Or.inl (List.mem_of_getElem? (i := 3) rfl))
        have B130 : Arf Z h130 P_ .double vD N_ (Upd (Upd pt_ ((st_ + (1 : Int32)).toNatClampNeg + 1) (pt_ (st_ + (1 : Int32)).toNatClampNeg)) (st_ + (1 : Int32)).toNatClampNeg p_) := B130
        obtain ⟨T148, X148, e148, st148⟩ := getF X130 hx hZ hown (host := "") (Or.inl (ow 49 rfl)) Via.refl e130 C137 (g := (mkF m 187 #[sR b_, sI c_, sD (dv p_), s2, sJ x_, s2, sI 2, sI st_, sI (st_ + (2 : Int32)), sI (st_ + (1 : Int32)), su] [(.ref b_)])) rfl rfl (dc d8_187)
        obtain ⟨T149, h149, X149, e149, W149, B149, st149⟩ := wrJ X148 hx hZ e148 C145 b1  (g := (mkF m 194 #[sR b_, sI c_, sD (dv p_), s2, sJ x_, s2, sI 2, sI st_, sI (st_ + (2 : Int32)), sI (st_ + (1 : Int32)), su] [(.long x_), (.int (st_ + (1 : Int32))), (.ref I_)])) rfl rfl (dc d8_194)
        have C152 := ((F2.keep K109 ni112).other W130 (Or.inl ebP)).other W149 (Or.inl ebI)
        have C158 := ((A1.keep K109 ni120).other W130 eSP).other W149 eSI
        have K166 := K147.wr W149 (Or.inl (List.mem_of_getElem? (i := 4) rfl))
        have B149 : Arf Z h149 I_ .long Value.long N_ (Upd (Upd id_ ((st_ + (1 : Int32)).toNatClampNeg + 1) (id_ (st_ + (1 : Int32)).toNatClampNeg)) (st_ + (1 : Int32)).toNatClampNeg x_) := B149
        obtain ⟨T167, X167, e167, st167⟩ := getF X149 hx hZ hown (host := "") (Or.inl (ow 34 rfl)) Via.refl e149 C152 (g := (mkF m 196 #[sR b_, sI c_, sD (dv p_), s2, sJ x_, s2, sI 2, sI st_, sI (st_ + (2 : Int32)), sI (st_ + (1 : Int32)), su] [(.ref b_)])) rfl rfl (dc d8_196)
        obtain ⟨T168, h168, X168, e168, W168, B168, st168⟩ := wrI X167 hx hZ e167 C158 hc  (g := (mkF m 204 #[sR b_, sI c_, sD (dv p_), s2, sJ x_, s2, sI 2, sI st_, sI (st_ + (2 : Int32)), sI (st_ + (1 : Int32)), su] [(.int 3), (.int c_), (.ref S_)])) rfl rfl (dc d8_204)
        have C169 := (((E0.keep K109).wr W130).wr W149).wr W168
        have C176 := (((F7.keep K109 ni112).other W130 (Or.inl ebP)).other W149 (Or.inl ebI)).other W168 (Or.inl ebS)
        have K185 := K166.wr W168 (Or.inl (List.mem_of_getElem? (i := 1) rfl))
        have B168 : Arf Z h168 S_ .int Value.int M_ (Upd sz_ c_.toNatClampNeg (3 : Int32)) := B168
        obtain ⟨T186, X186, e186, st186⟩ := getF X168 hx hZ hown (host := "") (Or.inl (ow 78 rfl)) Via.refl e168 C176 (g := (mkF m 207 #[sR b_, sI c_, sD (dv p_), s2, sJ x_, s2, sI 2, sI st_, sI (st_ + (2 : Int32)), sI (st_ + (1 : Int32)), su] [(.ref b_), (.ref b_)])) rfl rfl (dc d8_207)
        obtain ⟨T187, h187, X187, e187, W187, st187⟩ := putF X186 hx hZ hown (host := "") (Or.inl (ow 78 rfl)) Via.refl e186 C176 C169 (Or.inl (ow 79 rfl)) (ow 1 rfl) (ty := .int) (by decide) rfl rfl (g := (mkF m 212 #[sR b_, sI c_, sD (dv p_), s2, sJ x_, s2, sI 2, sI st_, sI (st_ + (2 : Int32)), sI (st_ + (1 : Int32)), su] [(.int (q_ + (1 : Int32))), (.ref b_)])) rfl rfl (dc d8_212)
        have N187 := Fr.snoc X187 (Fr.snoc X168 (Fr.snoc X149 (Fr.snoc X130 (Fr.app N107 N109q) g3) g4) g1) g0
        have C189 := ((((F1.keep K109 ni112).other W130 (Or.inl ebP)).other W149 (Or.inl ebI)).other W168 (Or.inl ebS)).other W187 (Or.inr (sn51 hw))
        have C190 := (C152.other W168 (Or.inl ebS)).other W187 (Or.inr (sn52 hw))
        have C191 := ((((F3.keep K109 ni112).other W130 (Or.inl ebP)).other W149 (Or.inl ebI)).other W168 (Or.inl ebS)).other W187 (Or.inr (sn53 hw))
        have C192 := ((((F4.keep K109 ni112).other W130 (Or.inl ebP)).other W149 (Or.inl ebI)).other W168 (Or.inl ebS)).other W187 (Or.inr (sn54 hw))
        have C193 := (((C116.other W130 (Or.inl ebP)).other W149 (Or.inl ebI)).other W168 (Or.inl ebS)).other W187 (Or.inr (sn55 hw))
        have C194 := ((C137.other W149 (Or.inl ebI)).other W168 (Or.inl ebS)).other W187 (Or.inr (sn56 hw))
        have C195 := C176.same W187
        have C196 := B168.other W187 ebS.symm
        have C197 := ((((A2.keep K109 ni122).other W130 nTP).other W149 eTI).other W168 eST.symm).other W187 ebT.symm
        have C200 := ((((E3.keep K109).wr W130).wr W149).wr W168).wr W187
        have C201 := ((((E4.keep K109).wr W130).wr W149).wr W168).wr W187
        have C202 := ((B130.other W149 ePI).other W168 eSP.symm).other W187 ebP.symm
        have C203 := (B149.other W168 eSI.symm).other W187 ebI.symm
        have K205 := K185.wr W187 (Or.inl (List.mem_of_getElem? (i := 0) rfl))
        have O : own_one (2 : Int32) (pt_ st_.toNatClampNeg) (id_ st_.toNatClampNeg) p_ x_ (3 : Int32) (th_ c_.toNatClampNeg) (pt_ st_.toNatClampNeg) p_ (id_ st_.toNatClampNeg) := by
          refine ⟨by decide, by decide, ?_, ?_, ?_, ?_⟩
          · exact fun q => by
             rcases q with q | q
             · exact absurd q (by decide)
             · exfalso; omega
          · exact fun _ => ⟨rfl, rfl⟩
          · exact fun q => absurd rfl q
          · exact fun q => absurd q (by decide)
        have Z4 : ((3 : Int32)).toInt ≤ ((3 : Int32).toNatClampNeg : Int) := by
          have q : ((3 : Int32)).toInt = 3 := rfl
          omega
        have LR : own_lr c_.toNatClampNeg st_.toNatClampNeg (3 : Int32).toNatClampNeg sz_ th_ pt_ id_ p_ x_ (Upd sz_ c_.toNatClampNeg (3 : Int32)) th_ (Upd (Upd pt_ ((st_ + (1 : Int32)).toNatClampNeg + 1) (pt_ (st_ + (1 : Int32)).toNatClampNeg)) (st_ + (1 : Int32)).toNatClampNeg p_) (Upd (Upd id_ ((st_ + (1 : Int32)).toNatClampNeg + 1) (id_ (st_ + (1 : Int32)).toNatClampNeg)) (st_ + (1 : Int32)).toNatClampNeg x_) := ⟨fun i hi => ⟨by simp [Upd, hi], rfl⟩, fun y hy => ⟨(by have y0 : y ≠ st_.toNatClampNeg := (by omega); have y1 : y ≠ st_.toNatClampNeg + 1 := (by omega); have y2 : y ≠ st_.toNatClampNeg + 2 := (by omega); simp [Upd, n1.1, n2.1, (own_n11 hS).2, y0, y1, y2]), (by have y0 : y ≠ st_.toNatClampNeg := (by omega); have y1 : y ≠ st_.toNatClampNeg + 1 := (by omega); have y2 : y ≠ st_.toNatClampNeg + 2 := (by omega); simp [Upd, n1.1, n2.1, (own_n11 hS).2, y0, y1, y2])⟩, own_oc hsz (updS _ _ _) rfl (by simp [Upd, n1.1, n2.1, (own_n11 hS).2] <;> omega) (by simp [Upd, n1.1, n2.1, (own_n11 hS).2] <;> omega) (by simp [Upd, n1.1, n2.1, (own_n11 hS).2] <;> omega) O, by rw [updS]; exact Z4⟩
        refine Goes.on (T' := T187) (g' := (mkF m 215 #[sR b_, sI c_, sD (dv p_), s2, sJ x_, s2, sI 2, sI st_, sI (st_ + (2 : Int32)), sI (st_ + (1 : Int32)), su] [])) (fun _ k => XS.aloadN X109.here hx rfl (dc d8_178) rfl rfl (st129 _ (XS.iload X129.here hx rfl (dc d8_182) rfl (XS.dloadN X129.here hx rfl (dc d8_184) rfl (st130 _ (XS.aloadN X130.here hx rfl (dc d8_186) rfl rfl (st148 _ (XS.iload X148.here hx rfl (dc d8_190) rfl (XS.lload X148.here hx rfl (dc d8_192) rfl (st149 _ (XS.aloadN X149.here hx rfl (dc d8_195) rfl rfl (st167 _ (XS.iloadN X167.here hx rfl (dc d8_199) rfl (XS.iload X167.here hx rfl (dc d8_200) rfl (XS.iconst X167.here hx rfl (dc d8_202) (XS.iadd X167.here hx rfl (dc d8_203) rfl (st168 _ (XS.aloadN X168.here hx rfl (dc d8_205) rfl rfl (XS.dup X168.here hx rfl (dc d8_206) rfl rfl (st186 _ (XS.iconst X186.here hx rfl (dc d8_210) (XS.iadd X186.here hx rfl (dc d8_211) rfl (st187 _ k))))))))))))))))))))))) ?_
        exact Goes.retV X187 hx hlk hret (dc d8_215) (by decide) (by decide) (by rw [e187]; exact ⟨P_, I_, N_, (3 : Int32), (q_ + (1 : Int32)), (Upd sz_ c_.toNatClampNeg (3 : Int32)), th_, (Upd (Upd pt_ ((st_ + (1 : Int32)).toNatClampNeg + 1) (pt_ (st_ + (1 : Int32)).toNatClampNeg)) (st_ + (1 : Int32)).toNatClampNeg p_), (Upd (Upd id_ ((st_ + (1 : Int32)).toNatClampNeg + 1) (id_ (st_ + (1 : Int32)).toNatClampNeg)) (st_ + (1 : Int32)).toNatClampNeg x_), rfl, N187, K205, C189, C190, C191, C192, C193, C194, C195, C196, C197, C202, C203, C200, C201, g3, g4, nTP, Or.inl rfl, Or.inl rfl, own_lr_ir hN hC3 hcl hz hk LR⟩)
      · intro J107
        refine Goes.joinA X7 (h := h0) (n0 := n0) (C := (pt_ st_.toNatClampNeg).1 ≤ p_.1) (fr := (mkF m 107 #[sR b_, sI c_, sD (dv p_), s2, sJ x_, s2, sI 2, sI st_, sI (st_ + (2 : Int32)), sI (st_ + (2 : Int32)), su] [])) ?_ ?_
        · intro hA T206 L206 X206 e206 N206
          obtain ⟨T207, X207, e207, st207⟩ := getF X206 hx hZ hown (host := "") (Or.inl (ow 31 rfl)) Via.refl e206 F1 (g := (mkF m 110 #[sR b_, sI c_, sD (dv p_), s2, sJ x_, s2, sI 2, sI st_, sI (st_ + (2 : Int32)), sI (st_ + (2 : Int32)), su] [(.ref b_), (.int 2)])) rfl rfl (dc d8_110)
          refine Goes.on (T' := T207) (g' := (mkF m 175 #[sR b_, sI c_, sD (dv p_), s2, sJ x_, s2, sI 2, sI st_, sI (st_ + (2 : Int32)), sI (st_ + (2 : Int32)), su] [(.int (st_ + (2 : Int32))), (.int (st_ + (2 : Int32))), (.ref b_)])) (fun _ k => XS.iload X206.here hx rfl (dc d8_107) rfl (XS.aloadN X206.here hx rfl (dc d8_109) rfl rfl (st207 _ (XS.icmpYes X207.here hx rfl (pc0 := 113) (pc' := 170) rfl (dc d8_113) rfl (XT.ii_ne_t (by decide)) (by decide) (by decide) (XS.aloadN X207.here hx rfl (dc d8_170) rfl rfl (XS.iload X207.here hx rfl (dc d8_171) rfl (XS.iload X207.here hx rfl (dc d8_173) rfl k))))))) ?_
          refine Goes.callP X207 hx hZ 0 hown (ow 70 rfl) (ow 71 rfl) (ow 72 rfl) (ow 1 rfl) (ow 2 rfl) (ow 73 rfl) (by decide) e207 E0 (rmSh0 l Z a0 hw b_ P_ I_ N_ (st_ + (2 : Int32)) (st_ + (2 : Int32)) pt_ id_ h0 n0 Z0  E0 F5 F6 A3 A4 ebP ebI ePI g3 g4 (own_d00 _) ⟨n2.2, by rw [n2.1]; omega⟩ (own_n21 hS) hNb) (by decide) (by decide) (by decide) (by decide) rfl (by rw [hml]; rfl) (argsL := [(.int (st_ + (2 : Int32))), (.int (st_ + (2 : Int32)))]) (rest := []) rfl (lenOf pd_4 rfl) rfl (own_le20 rfl) (dc d8_175) ?_
          rintro v208 T208 L208 X208 ⟨rfl, N208q, K208, P208_0, P208_1⟩
          show Goes p e below _ T208 (mkF m 178 #[sR b_, sI c_, sD (dv p_), s2, sJ x_, s2, sI 2, sI st_, sI (st_ + (2 : Int32)), sI (st_ + (2 : Int32)), su] [])
          have ni211 := (ninS ebP (ninS ebI nin0))
          have C215 := F5.keep K208 ni211
          have ni219 := (ninS eSP (ninS eSI nin0))
          have ni221 := (ninS nTP (ninS eTI nin0))
          have K227 := K0.trans K208 (allS (Or.inl (List.mem_of_getElem? (i := 3) rfl)) (allS (Or.inl (List.mem_of_getElem? (i := 4) rfl)) all0))
          obtain ⟨T228, X228, e228, st228⟩ := getF X208 hx hZ hown (host := "") (Or.inl (ow 46 rfl)) Via.refl rfl C215 (g := (mkF m 179 #[sR b_, sI c_, sD (dv p_), s2, sJ x_, s2, sI 2, sI st_, sI (st_ + (2 : Int32)), sI (st_ + (2 : Int32)), su] [(.ref b_)])) rfl rfl (dc d8_179)
          obtain ⟨T229, h229, X229, e229, W229, B229, st229⟩ := wrK X228 hx hZ e228 P208_0 b2  (g := (mkF m 185 #[sR b_, sI c_, sD (dv p_), s2, sJ x_, s2, sI 2, sI st_, sI (st_ + (2 : Int32)), sI (st_ + (2 : Int32)), su] [(.double (dv p_)), (.int (st_ + (2 : Int32))), (.ref P_)])) rfl rfl (dc d8_185)
          have C236 := (F6.keep K208 ni211).other W229 (Or.inl ebP)
          have C244 := P208_1.other W229 ePI.symm
          have K246 := K227.wr W229 (Or.inl (List.mem_of_getElem? (i := 3) rfl))
          have B229 : Arf Z h229 P_ .double vD N_ (Upd pt_ (st_ + (2 : Int32)).toNatClampNeg p_) := B229
          obtain ⟨T247, X247, e247, st247⟩ := getF X229 hx hZ hown (host := "") (Or.inl (ow 49 rfl)) Via.refl e229 C236 (g := (mkF m 187 #[sR b_, sI c_, sD (dv p_), s2, sJ x_, s2, sI 2, sI st_, sI (st_ + (2 : Int32)), sI (st_ + (2 : Int32)), su] [(.ref b_)])) rfl rfl (dc d8_187)
          obtain ⟨T248, h248, X248, e248, W248, B248, st248⟩ := wrJ X247 hx hZ e247 C244 b2  (g := (mkF m 194 #[sR b_, sI c_, sD (dv p_), s2, sJ x_, s2, sI 2, sI st_, sI (st_ + (2 : Int32)), sI (st_ + (2 : Int32)), su] [(.long x_), (.int (st_ + (2 : Int32))), (.ref I_)])) rfl rfl (dc d8_194)
          have C251 := ((F2.keep K208 ni211).other W229 (Or.inl ebP)).other W248 (Or.inl ebI)
          have C257 := ((A1.keep K208 ni219).other W229 eSP).other W248 eSI
          have K265 := K246.wr W248 (Or.inl (List.mem_of_getElem? (i := 4) rfl))
          have B248 : Arf Z h248 I_ .long Value.long N_ (Upd id_ (st_ + (2 : Int32)).toNatClampNeg x_) := B248
          obtain ⟨T266, X266, e266, st266⟩ := getF X248 hx hZ hown (host := "") (Or.inl (ow 34 rfl)) Via.refl e248 C251 (g := (mkF m 196 #[sR b_, sI c_, sD (dv p_), s2, sJ x_, s2, sI 2, sI st_, sI (st_ + (2 : Int32)), sI (st_ + (2 : Int32)), su] [(.ref b_)])) rfl rfl (dc d8_196)
          obtain ⟨T267, h267, X267, e267, W267, B267, st267⟩ := wrI X266 hx hZ e266 C257 hc  (g := (mkF m 204 #[sR b_, sI c_, sD (dv p_), s2, sJ x_, s2, sI 2, sI st_, sI (st_ + (2 : Int32)), sI (st_ + (2 : Int32)), su] [(.int 3), (.int c_), (.ref S_)])) rfl rfl (dc d8_204)
          have C268 := (((E0.keep K208).wr W229).wr W248).wr W267
          have C275 := (((F7.keep K208 ni211).other W229 (Or.inl ebP)).other W248 (Or.inl ebI)).other W267 (Or.inl ebS)
          have K284 := K265.wr W267 (Or.inl (List.mem_of_getElem? (i := 1) rfl))
          have B267 : Arf Z h267 S_ .int Value.int M_ (Upd sz_ c_.toNatClampNeg (3 : Int32)) := B267
          obtain ⟨T285, X285, e285, st285⟩ := getF X267 hx hZ hown (host := "") (Or.inl (ow 78 rfl)) Via.refl e267 C275 (g := (mkF m 207 #[sR b_, sI c_, sD (dv p_), s2, sJ x_, s2, sI 2, sI st_, sI (st_ + (2 : Int32)), sI (st_ + (2 : Int32)), su] [(.ref b_), (.ref b_)])) rfl rfl (dc d8_207)
          obtain ⟨T286, h286, X286, e286, W286, st286⟩ := putF X285 hx hZ hown (host := "") (Or.inl (ow 78 rfl)) Via.refl e285 C275 C268 (Or.inl (ow 79 rfl)) (ow 1 rfl) (ty := .int) (by decide) rfl rfl (g := (mkF m 212 #[sR b_, sI c_, sD (dv p_), s2, sJ x_, s2, sI 2, sI st_, sI (st_ + (2 : Int32)), sI (st_ + (2 : Int32)), su] [(.int (q_ + (1 : Int32))), (.ref b_)])) rfl rfl (dc d8_212)
          have N286 := Fr.snoc X286 (Fr.snoc X267 (Fr.snoc X248 (Fr.snoc X229 (Fr.app N206 N208q) g3) g4) g1) g0
          have C288 := ((((F1.keep K208 ni211).other W229 (Or.inl ebP)).other W248 (Or.inl ebI)).other W267 (Or.inl ebS)).other W286 (Or.inr (sn51 hw))
          have C289 := (C251.other W267 (Or.inl ebS)).other W286 (Or.inr (sn52 hw))
          have C290 := ((((F3.keep K208 ni211).other W229 (Or.inl ebP)).other W248 (Or.inl ebI)).other W267 (Or.inl ebS)).other W286 (Or.inr (sn53 hw))
          have C291 := ((((F4.keep K208 ni211).other W229 (Or.inl ebP)).other W248 (Or.inl ebI)).other W267 (Or.inl ebS)).other W286 (Or.inr (sn54 hw))
          have C292 := (((C215.other W229 (Or.inl ebP)).other W248 (Or.inl ebI)).other W267 (Or.inl ebS)).other W286 (Or.inr (sn55 hw))
          have C293 := ((C236.other W248 (Or.inl ebI)).other W267 (Or.inl ebS)).other W286 (Or.inr (sn56 hw))
          have C294 := C275.same W286
          have C295 := B267.other W286 ebS.symm
          have C296 := ((((A2.keep K208 ni221).other W229 nTP).other W248 eTI).other W267 eST.symm).other W286 ebT.symm
          have C299 := ((((E3.keep K208).wr W229).wr W248).wr W267).wr W286
          have C300 := ((((E4.keep K208).wr W229).wr W248).wr W267).wr W286
          have C301 := ((B229.other W248 ePI).other W267 eSP.symm).other W286 ebP.symm
          have C302 := (B248.other W267 eSI.symm).other W286 ebI.symm
          have K304 := K284.wr W286 (Or.inl (List.mem_of_getElem? (i := 0) rfl))
          have O : own_one (2 : Int32) (pt_ st_.toNatClampNeg) (id_ st_.toNatClampNeg) p_ x_ (3 : Int32) (th_ c_.toNatClampNeg) (pt_ st_.toNatClampNeg) (pt_ (st_.toNatClampNeg + 1)) (id_ st_.toNatClampNeg) := by
            refine ⟨by decide, by decide, ?_, ?_, ?_, ?_⟩
            · exact fun q => by
               rcases q with q | q
               · exact absurd q (by decide)
               · exfalso; omega
            · exact fun _ => ⟨rfl, rfl⟩
            · exact fun q => absurd rfl q
            · exact fun q => absurd q (by decide)
          have Z4 : ((3 : Int32)).toInt ≤ ((3 : Int32).toNatClampNeg : Int) := by
            have q : ((3 : Int32)).toInt = 3 := rfl
            omega
          have LR : own_lr c_.toNatClampNeg st_.toNatClampNeg (3 : Int32).toNatClampNeg sz_ th_ pt_ id_ p_ x_ (Upd sz_ c_.toNatClampNeg (3 : Int32)) th_ (Upd pt_ (st_ + (2 : Int32)).toNatClampNeg p_) (Upd id_ (st_ + (2 : Int32)).toNatClampNeg x_) := ⟨fun i hi => ⟨by simp [Upd, hi], rfl⟩, fun y hy => ⟨(by have y0 : y ≠ st_.toNatClampNeg := (by omega); have y1 : y ≠ st_.toNatClampNeg + 1 := (by omega); have y2 : y ≠ st_.toNatClampNeg + 2 := (by omega); simp [Upd, n1.1, n2.1, (own_n11 hS).2, y0, y1, y2]), (by have y0 : y ≠ st_.toNatClampNeg := (by omega); have y1 : y ≠ st_.toNatClampNeg + 1 := (by omega); have y2 : y ≠ st_.toNatClampNeg + 2 := (by omega); simp [Upd, n1.1, n2.1, (own_n11 hS).2, y0, y1, y2])⟩, own_oc hsz (updS _ _ _) rfl (by simp [Upd, n1.1, n2.1, (own_n11 hS).2] <;> omega) (by simp [Upd, n1.1, n2.1, (own_n11 hS).2] <;> omega) (by simp [Upd, n1.1, n2.1, (own_n11 hS).2] <;> omega) O, by rw [updS]; exact Z4⟩
          refine Goes.on (T' := T286) (g' := (mkF m 215 #[sR b_, sI c_, sD (dv p_), s2, sJ x_, s2, sI 2, sI st_, sI (st_ + (2 : Int32)), sI (st_ + (2 : Int32)), su] [])) (fun _ k => XS.aloadN X208.here hx rfl (dc d8_178) rfl rfl (st228 _ (XS.iload X228.here hx rfl (dc d8_182) rfl (XS.dloadN X228.here hx rfl (dc d8_184) rfl (st229 _ (XS.aloadN X229.here hx rfl (dc d8_186) rfl rfl (st247 _ (XS.iload X247.here hx rfl (dc d8_190) rfl (XS.lload X247.here hx rfl (dc d8_192) rfl (st248 _ (XS.aloadN X248.here hx rfl (dc d8_195) rfl rfl (st266 _ (XS.iloadN X266.here hx rfl (dc d8_199) rfl (XS.iload X266.here hx rfl (dc d8_200) rfl (XS.iconst X266.here hx rfl (dc d8_202) (XS.iadd X266.here hx rfl (dc d8_203) rfl (st267 _ (XS.aloadN X267.here hx rfl (dc d8_205) rfl rfl (XS.dup X267.here hx rfl (dc d8_206) rfl rfl (st285 _ (XS.iconst X285.here hx rfl (dc d8_210) (XS.iadd X285.here hx rfl (dc d8_211) rfl (st286 _ k))))))))))))))))))))))) ?_
          exact Goes.retV X286 hx hlk hret (dc d8_215) (by decide) (by decide) (by rw [e286]; exact ⟨P_, I_, N_, (3 : Int32), (q_ + (1 : Int32)), (Upd sz_ c_.toNatClampNeg (3 : Int32)), th_, (Upd pt_ (st_ + (2 : Int32)).toNatClampNeg p_), (Upd id_ (st_ + (2 : Int32)).toNatClampNeg x_), rfl, N286, K304, C288, C289, C290, C291, C292, C293, C294, C295, C296, C301, C302, C299, C300, g3, g4, nTP, Or.inl rfl, Or.inl rfl, own_lr_ir hN hC3 hcl hz hk LR⟩)
        · intro J206
          by_cases hc305 : (pt_ (st_ + (1 : Int32)).toNatClampNeg).1 < p_.1
          · refine Goes.callP X7 hx hZ 0 hown (ow 66 rfl) (ow 67 rfl) (ow 68 rfl) (ow 1 rfl) (ow 2 rfl) (ow 69 rfl) (by decide) e7 E0 (rmLB2t l Z a0 hw b_ P_ N_ pt_ st_ p_ h0 n0 Z0  E0 F5 A3 hS b0 b1 hc305) (by decide) (by decide) (by decide) (by decide) rfl (by rw [hml]; rfl) (argsL := [(.int st_), (.int (st_ + (2 : Int32))), (.double (dv p_))]) (rest := []) rfl (lenOf pd_3 rfl) rfl (own_le20 rfl) (dc d8_63) ?_
            rintro v306 T306 L306 X306 ⟨rfl, N306q, e306⟩
            have N306 := Fr.app N0 N306q
            show Goes p e below _ T306 (mkF m 66 #[sR b_, sI c_, sD (dv p_), s2, sJ x_, s2, sI 2, sI st_, sI (st_ + (2 : Int32)), su, su] [(.int (st_ + (2 : Int32)))])
            refine Goes.on (T' := T306) (g' := (mkF m 107 #[sR b_, sI c_, sD (dv p_), s2, sJ x_, s2, sI 2, sI st_, sI (st_ + (2 : Int32)), sI (st_ + (2 : Int32)), su] [])) (fun _ k => XS.istore X306.here hx rfl (dc d8_66) rfl (l' := #[sR b_, sI c_, sD (dv p_), s2, sJ x_, s2, sI 2, sI st_, sI (st_ + (2 : Int32)), sI (st_ + (2 : Int32)), su]) rfl (XS.iload X306.here hx rfl (dc d8_68) rfl (XS.iload X306.here hx rfl (dc d8_70) rfl (XS.icmpYes X306.here hx rfl (pc0 := 72) (pc' := 107) rfl (dc d8_72) rfl (XT.ii_ge_t (own_irr _)) (by decide) (by decide) k)))) ?_
            exact J206 (by omega) T306 _ X306 e306 N306
          · by_cases hc307 : (pt_ st_.toNatClampNeg).1 < p_.1
            · refine Goes.callP X7 hx hZ 0 hown (ow 66 rfl) (ow 67 rfl) (ow 68 rfl) (ow 1 rfl) (ow 2 rfl) (ow 69 rfl) (by decide) e7 E0 (rmLB2ft l Z a0 hw b_ P_ N_ pt_ st_ p_ h0 n0 Z0  E0 F5 A3 hS b0 b1 hc305 hc307) (by decide) (by decide) (by decide) (by decide) rfl (by rw [hml]; rfl) (argsL := [(.int st_), (.int (st_ + (2 : Int32))), (.double (dv p_))]) (rest := []) rfl (lenOf pd_3 rfl) rfl (own_le20 rfl) (dc d8_63) ?_
              rintro v308 T308 L308 X308 ⟨rfl, N308q, e308⟩
              have N308 := Fr.app N0 N308q
              show Goes p e below _ T308 (mkF m 66 #[sR b_, sI c_, sD (dv p_), s2, sJ x_, s2, sI 2, sI st_, sI (st_ + (2 : Int32)), su, su] [(.int (st_ + (1 : Int32)))])
              obtain ⟨T309, X309, e309, st309⟩ := getF X308 hx hZ hown (host := "") (Or.inl (ow 46 rfl)) Via.refl e308 F5 (g := (mkF m 76 #[sR b_, sI c_, sD (dv p_), s2, sJ x_, s2, sI 2, sI st_, sI (st_ + (2 : Int32)), sI (st_ + (1 : Int32)), su] [(.ref b_)])) rfl rfl (dc d8_76)
              refine Goes.on (T' := T309) (g' := (mkF m 84 #[sR b_, sI c_, sD (dv p_), s2, sJ x_, s2, sI 2, sI st_, sI (st_ + (2 : Int32)), sI (st_ + (1 : Int32)), su] [(.int (cmpValue (FP.dcmp (dv (pt_ (st_ + (1 : Int32)).toNatClampNeg)) (dv p_)) .l))])) (fun _ k => XS.istore X308.here hx rfl (dc d8_66) rfl (l' := #[sR b_, sI c_, sD (dv p_), s2, sJ x_, s2, sI 2, sI st_, sI (st_ + (2 : Int32)), sI (st_ + (1 : Int32)), su]) rfl (XS.iload X308.here hx rfl (dc d8_68) rfl (XS.iload X308.here hx rfl (dc d8_70) rfl (XS.icmpNo X308.here hx rfl (dc d8_72) rfl (XT.ii_ge_f (own_lt12 hS)) (XS.aloadN X308.here hx rfl (dc d8_75) rfl rfl (st309 _ (XS.iload X309.here hx rfl (dc d8_79) rfl (ldKm X309 hx hZ e309 A3 b1 (dc d8_81) (XS.dloadN X309.here hx rfl (dc d8_82) rfl (XS.dcmpS X309.here hx rfl (dc d8_83) rfl rfl k)))))))))) ?_
              by_cases hc311 : (pt_ (st_ + (1 : Int32)).toNatClampNeg).1 = p_.1
              · obtain ⟨T312, X312, e312, st312⟩ := getF X309 hx hZ hown (host := "") (Or.inl (ow 49 rfl)) Via.refl e309 F6 (g := (mkF m 88 #[sR b_, sI c_, sD (dv p_), s2, sJ x_, s2, sI 2, sI st_, sI (st_ + (2 : Int32)), sI (st_ + (1 : Int32)), su] [(.ref b_)])) rfl rfl (dc d8_88)
                refine Goes.on (T' := T312) (g' := (mkF m 97 #[sR b_, sI c_, sD (dv p_), s2, sJ x_, s2, sI 2, sI st_, sI (st_ + (2 : Int32)), sI (st_ + (1 : Int32)), su] [(.int (XT.cmpL (id_ (st_ + (1 : Int32)).toNatClampNeg) x_))])) (fun _ k => XS.ifNo X309.here hx rfl (dc d8_84) rfl (dd_ne_f hc311) (XS.aloadN X309.here hx rfl (dc d8_87) rfl rfl (st312 _ (XS.iload X312.here hx rfl (dc d8_91) rfl (ldJm X312 hx hZ e312 A4 b1 (dc d8_93) (XS.lload X312.here hx rfl (dc d8_94) rfl (XT.lcmp X312.here hx rfl (dc d8_96) rfl k))))))) ?_
                by_cases hc314 : (id_ (st_ + (1 : Int32)).toNatClampNeg) = x_
                · refine Goes.on (T' := T312) (g' := (mkF m 100 #[sR b_, sI c_, sD (dv p_), s2, sJ x_, s2, sI 2, sI st_, sI (st_ + (2 : Int32)), sI (st_ + (1 : Int32)), su] [])) (fun _ k => XS.ifNo X312.here hx rfl (dc d8_97) rfl (XT.ll_ne_f hc314) k) ?_
                  rw [n1.1] at hc305
                  rw [n1.1] at hc311
                  rw [n1.1] at hc314
                  have O : own_one (2 : Int32) (pt_ st_.toNatClampNeg) (id_ st_.toNatClampNeg) p_ x_ (2 : Int32) (th_ c_.toNatClampNeg) (pt_ st_.toNatClampNeg) (pt_ (st_.toNatClampNeg + 1)) (id_ st_.toNatClampNeg) := by
                    refine ⟨by decide, by decide, ?_, ?_, ?_, ?_⟩
                    · exact fun q => by
                       rcases q with q | q
                       · exact absurd q (by decide)
                       · exfalso; omega
                    · exact fun _ => ⟨rfl, rfl⟩
                    · exact fun _ => by omega
                    · exact fun _ => by omega
                  have Z4 : ((2 : Int32)).toInt ≤ ((3 : Int32).toNatClampNeg : Int) := by
                    have q : ((2 : Int32)).toInt = 2 := rfl
                    omega
                  have LR : own_lr c_.toNatClampNeg st_.toNatClampNeg (3 : Int32).toNatClampNeg sz_ th_ pt_ id_ p_ x_ sz_ th_ pt_ id_ := ⟨fun i hi => ⟨rfl, rfl⟩, fun y hy => ⟨rfl, rfl⟩, own_oc hsz hsz rfl rfl rfl rfl O, by rw [hsz]; exact Z4⟩
                  exact Goes.retV X312 hx hlk hret (dc d8_100) (by decide) (by decide) (by rw [e312]; exact ⟨P_, I_, N_, (3 : Int32), q_, sz_, th_, pt_, id_, rfl, N308, K0, F1, F2, F3, F4, F5, F6, F7, A1, A2, A3, A4, E3, E4, g3, g4, nTP, Or.inl rfl, Or.inl rfl, own_lr_ir hN hC3 hcl hz hk LR⟩)
                · refine Goes.on (T' := T312) (g' := (mkF m 104 #[sR b_, sI c_, sD (dv p_), s2, sJ x_, s2, sI 2, sI st_, sI (st_ + (2 : Int32)), sI ((st_ + (1 : Int32)) + (1 : Int32)), su] [])) (fun _ k => XS.ifYes X312.here hx rfl (pc0 := 97) (pc' := 101) rfl (dc d8_97) rfl (XT.ll_ne_t hc314) (by decide) (by decide) (XT.iincV X312.here hx rfl (1 : Int32) (dc d8_101) (by decide) rfl (l' := #[sR b_, sI c_, sD (dv p_), s2, sJ x_, s2, sI 2, sI st_, sI (st_ + (2 : Int32)), sI ((st_ + (1 : Int32)) + (1 : Int32)), su]) rfl k)) ?_
                  rw [own_a11 hS]
                  refine Goes.on (T' := T312) (g' := (mkF m 107 #[sR b_, sI c_, sD (dv p_), s2, sJ x_, s2, sI 2, sI st_, sI (st_ + (2 : Int32)), sI (st_ + (2 : Int32)), su] [])) (fun _ k => XS.goto X312.here hx rfl (pc0 := 104) (pc' := 68) rfl (dc d8_104) (by decide) (by decide) (XS.iload X312.here hx rfl (dc d8_68) rfl (XS.iload X312.here hx rfl (dc d8_70) rfl (XS.icmpYes X312.here hx rfl (pc0 := 72) (pc' := 107) rfl (dc d8_72) rfl (XT.ii_ge_t (own_irr _)) (by decide) (by decide) k)))) ?_
                  exact J206 (by omega) T312 _ X312 e312 N308
              · refine Goes.on (T' := T309) (g' := (mkF m 107 #[sR b_, sI c_, sD (dv p_), s2, sJ x_, s2, sI 2, sI st_, sI (st_ + (2 : Int32)), sI (st_ + (1 : Int32)), su] [])) (fun _ k => XS.ifYes X309.here hx rfl (pc0 := 84) (pc' := 107) rfl (dc d8_84) rfl (dd_ne_t hc311) (by decide) (by decide) k) ?_
                exact J107 (by omega) T309 _ X309 e309 N308
            · refine Goes.callP X7 hx hZ 0 hown (ow 66 rfl) (ow 67 rfl) (ow 68 rfl) (ow 1 rfl) (ow 2 rfl) (ow 69 rfl) (by decide) e7 E0 (rmLB2ff l Z a0 hw b_ P_ N_ pt_ st_ p_ h0 n0 Z0  E0 F5 A3 hS b0 b1 hc305 hc307) (by decide) (by decide) (by decide) (by decide) rfl (by rw [hml]; rfl) (argsL := [(.int st_), (.int (st_ + (2 : Int32))), (.double (dv p_))]) (rest := []) rfl (lenOf pd_3 rfl) rfl (own_le20 rfl) (dc d8_63) ?_
              rintro v315 T315 L315 X315 ⟨rfl, N315q, e315⟩
              have N315 := Fr.app N0 N315q
              show Goes p e below _ T315 (mkF m 66 #[sR b_, sI c_, sD (dv p_), s2, sJ x_, s2, sI 2, sI st_, sI (st_ + (2 : Int32)), su, su] [(.int st_)])
              obtain ⟨T316, X316, e316, st316⟩ := getF X315 hx hZ hown (host := "") (Or.inl (ow 46 rfl)) Via.refl e315 F5 (g := (mkF m 76 #[sR b_, sI c_, sD (dv p_), s2, sJ x_, s2, sI 2, sI st_, sI (st_ + (2 : Int32)), sI st_, su] [(.ref b_)])) rfl rfl (dc d8_76)
              refine Goes.on (T' := T316) (g' := (mkF m 84 #[sR b_, sI c_, sD (dv p_), s2, sJ x_, s2, sI 2, sI st_, sI (st_ + (2 : Int32)), sI st_, su] [(.int (cmpValue (FP.dcmp (dv (pt_ st_.toNatClampNeg)) (dv p_)) .l))])) (fun _ k => XS.istore X315.here hx rfl (dc d8_66) rfl (l' := #[sR b_, sI c_, sD (dv p_), s2, sJ x_, s2, sI 2, sI st_, sI (st_ + (2 : Int32)), sI st_, su]) rfl (XS.iload X315.here hx rfl (dc d8_68) rfl (XS.iload X315.here hx rfl (dc d8_70) rfl (XS.icmpNo X315.here hx rfl (dc d8_72) rfl (XT.ii_ge_f (own_lt02 hS)) (XS.aloadN X315.here hx rfl (dc d8_75) rfl rfl (st316 _ (XS.iload X316.here hx rfl (dc d8_79) rfl (ldKm X316 hx hZ e316 A3 b0 (dc d8_81) (XS.dloadN X316.here hx rfl (dc d8_82) rfl (XS.dcmpS X316.here hx rfl (dc d8_83) rfl rfl k)))))))))) ?_
              by_cases hc318 : (pt_ st_.toNatClampNeg).1 = p_.1
              · obtain ⟨T319, X319, e319, st319⟩ := getF X316 hx hZ hown (host := "") (Or.inl (ow 49 rfl)) Via.refl e316 F6 (g := (mkF m 88 #[sR b_, sI c_, sD (dv p_), s2, sJ x_, s2, sI 2, sI st_, sI (st_ + (2 : Int32)), sI st_, su] [(.ref b_)])) rfl rfl (dc d8_88)
                refine Goes.on (T' := T319) (g' := (mkF m 97 #[sR b_, sI c_, sD (dv p_), s2, sJ x_, s2, sI 2, sI st_, sI (st_ + (2 : Int32)), sI st_, su] [(.int (XT.cmpL (id_ st_.toNatClampNeg) x_))])) (fun _ k => XS.ifNo X316.here hx rfl (dc d8_84) rfl (dd_ne_f hc318) (XS.aloadN X316.here hx rfl (dc d8_87) rfl rfl (st319 _ (XS.iload X319.here hx rfl (dc d8_91) rfl (ldJm X319 hx hZ e319 A4 b0 (dc d8_93) (XS.lload X319.here hx rfl (dc d8_94) rfl (XT.lcmp X319.here hx rfl (dc d8_96) rfl k))))))) ?_
                by_cases hc321 : (id_ st_.toNatClampNeg) = x_
                · refine Goes.on (T' := T319) (g' := (mkF m 100 #[sR b_, sI c_, sD (dv p_), s2, sJ x_, s2, sI 2, sI st_, sI (st_ + (2 : Int32)), sI st_, su] [])) (fun _ k => XS.ifNo X319.here hx rfl (dc d8_97) rfl (XT.ll_ne_f hc321) k) ?_
                  rw [n1.1] at hc305
                  have O : own_one (2 : Int32) (pt_ st_.toNatClampNeg) (id_ st_.toNatClampNeg) p_ x_ (2 : Int32) (th_ c_.toNatClampNeg) (pt_ st_.toNatClampNeg) (pt_ (st_.toNatClampNeg + 1)) (id_ st_.toNatClampNeg) := by
                    refine ⟨by decide, by decide, ?_, ?_, ?_, ?_⟩
                    · exact fun q => by
                       rcases q with q | q
                       · exact absurd q (by decide)
                       · exfalso; omega
                    · exact fun _ => ⟨rfl, rfl⟩
                    · exact fun _ => by omega
                    · exact fun _ => by omega
                  have Z4 : ((2 : Int32)).toInt ≤ ((3 : Int32).toNatClampNeg : Int) := by
                    have q : ((2 : Int32)).toInt = 2 := rfl
                    omega
                  have LR : own_lr c_.toNatClampNeg st_.toNatClampNeg (3 : Int32).toNatClampNeg sz_ th_ pt_ id_ p_ x_ sz_ th_ pt_ id_ := ⟨fun i hi => ⟨rfl, rfl⟩, fun y hy => ⟨rfl, rfl⟩, own_oc hsz hsz rfl rfl rfl rfl O, by rw [hsz]; exact Z4⟩
                  exact Goes.retV X319 hx hlk hret (dc d8_100) (by decide) (by decide) (by rw [e319]; exact ⟨P_, I_, N_, (3 : Int32), q_, sz_, th_, pt_, id_, rfl, N315, K0, F1, F2, F3, F4, F5, F6, F7, A1, A2, A3, A4, E3, E4, g3, g4, nTP, Or.inl rfl, Or.inl rfl, own_lr_ir hN hC3 hcl hz hk LR⟩)
                · obtain ⟨T322, X322, e322, st322⟩ := getF X319 hx hZ hown (host := "") (Or.inl (ow 46 rfl)) Via.refl e319 F5 (g := (mkF m 76 #[sR b_, sI c_, sD (dv p_), s2, sJ x_, s2, sI 2, sI st_, sI (st_ + (2 : Int32)), sI (st_ + (1 : Int32)), su] [(.ref b_)])) rfl rfl (dc d8_76)
                  refine Goes.on (T' := T322) (g' := (mkF m 84 #[sR b_, sI c_, sD (dv p_), s2, sJ x_, s2, sI 2, sI st_, sI (st_ + (2 : Int32)), sI (st_ + (1 : Int32)), su] [(.int (cmpValue (FP.dcmp (dv (pt_ (st_ + (1 : Int32)).toNatClampNeg)) (dv p_)) .l))])) (fun _ k => XS.ifYes X319.here hx rfl (pc0 := 97) (pc' := 101) rfl (dc d8_97) rfl (XT.ll_ne_t hc321) (by decide) (by decide) (XT.iincV X319.here hx rfl (1 : Int32) (dc d8_101) (by decide) rfl (l' := #[sR b_, sI c_, sD (dv p_), s2, sJ x_, s2, sI 2, sI st_, sI (st_ + (2 : Int32)), sI (st_ + (1 : Int32)), su]) rfl (XS.goto X319.here hx rfl (pc0 := 104) (pc' := 68) rfl (dc d8_104) (by decide) (by decide) (XS.iload X319.here hx rfl (dc d8_68) rfl (XS.iload X319.here hx rfl (dc d8_70) rfl (XS.icmpNo X319.here hx rfl (dc d8_72) rfl (XT.ii_ge_f (own_lt12 hS)) (XS.aloadN X319.here hx rfl (dc d8_75) rfl rfl (st322 _ (XS.iload X322.here hx rfl (dc d8_79) rfl (ldKm X322 hx hZ e322 A3 b1 (dc d8_81) (XS.dloadN X322.here hx rfl (dc d8_82) rfl (XS.dcmpS X322.here hx rfl (dc d8_83) rfl rfl k)))))))))))) ?_
                  by_cases hc324 : (pt_ (st_ + (1 : Int32)).toNatClampNeg).1 = p_.1
                  · obtain ⟨T325, X325, e325, st325⟩ := getF X322 hx hZ hown (host := "") (Or.inl (ow 49 rfl)) Via.refl e322 F6 (g := (mkF m 88 #[sR b_, sI c_, sD (dv p_), s2, sJ x_, s2, sI 2, sI st_, sI (st_ + (2 : Int32)), sI (st_ + (1 : Int32)), su] [(.ref b_)])) rfl rfl (dc d8_88)
                    refine Goes.on (T' := T325) (g' := (mkF m 97 #[sR b_, sI c_, sD (dv p_), s2, sJ x_, s2, sI 2, sI st_, sI (st_ + (2 : Int32)), sI (st_ + (1 : Int32)), su] [(.int (XT.cmpL (id_ (st_ + (1 : Int32)).toNatClampNeg) x_))])) (fun _ k => XS.ifNo X322.here hx rfl (dc d8_84) rfl (dd_ne_f hc324) (XS.aloadN X322.here hx rfl (dc d8_87) rfl rfl (st325 _ (XS.iload X325.here hx rfl (dc d8_91) rfl (ldJm X325 hx hZ e325 A4 b1 (dc d8_93) (XS.lload X325.here hx rfl (dc d8_94) rfl (XT.lcmp X325.here hx rfl (dc d8_96) rfl k))))))) ?_
                    by_cases hc327 : (id_ (st_ + (1 : Int32)).toNatClampNeg) = x_
                    · refine Goes.on (T' := T325) (g' := (mkF m 100 #[sR b_, sI c_, sD (dv p_), s2, sJ x_, s2, sI 2, sI st_, sI (st_ + (2 : Int32)), sI (st_ + (1 : Int32)), su] [])) (fun _ k => XS.ifNo X325.here hx rfl (dc d8_97) rfl (XT.ll_ne_f hc327) k) ?_
                      rw [n1.1] at hc305
                      rw [n1.1] at hc324
                      rw [n1.1] at hc327
                      have O : own_one (2 : Int32) (pt_ st_.toNatClampNeg) (id_ st_.toNatClampNeg) p_ x_ (2 : Int32) (th_ c_.toNatClampNeg) (pt_ st_.toNatClampNeg) (pt_ (st_.toNatClampNeg + 1)) (id_ st_.toNatClampNeg) := by
                        refine ⟨by decide, by decide, ?_, ?_, ?_, ?_⟩
                        · exact fun q => by
                           rcases q with q | q
                           · exact absurd q (by decide)
                           · exfalso; omega
                        · exact fun _ => ⟨rfl, rfl⟩
                        · exact fun _ => by omega
                        · exact fun _ => by omega
                      have Z4 : ((2 : Int32)).toInt ≤ ((3 : Int32).toNatClampNeg : Int) := by
                        have q : ((2 : Int32)).toInt = 2 := rfl
                        omega
                      have LR : own_lr c_.toNatClampNeg st_.toNatClampNeg (3 : Int32).toNatClampNeg sz_ th_ pt_ id_ p_ x_ sz_ th_ pt_ id_ := ⟨fun i hi => ⟨rfl, rfl⟩, fun y hy => ⟨rfl, rfl⟩, own_oc hsz hsz rfl rfl rfl rfl O, by rw [hsz]; exact Z4⟩
                      exact Goes.retV X325 hx hlk hret (dc d8_100) (by decide) (by decide) (by rw [e325]; exact ⟨P_, I_, N_, (3 : Int32), q_, sz_, th_, pt_, id_, rfl, N315, K0, F1, F2, F3, F4, F5, F6, F7, A1, A2, A3, A4, E3, E4, g3, g4, nTP, Or.inl rfl, Or.inl rfl, own_lr_ir hN hC3 hcl hz hk LR⟩)
                    · refine Goes.on (T' := T325) (g' := (mkF m 104 #[sR b_, sI c_, sD (dv p_), s2, sJ x_, s2, sI 2, sI st_, sI (st_ + (2 : Int32)), sI ((st_ + (1 : Int32)) + (1 : Int32)), su] [])) (fun _ k => XS.ifYes X325.here hx rfl (pc0 := 97) (pc' := 101) rfl (dc d8_97) rfl (XT.ll_ne_t hc327) (by decide) (by decide) (XT.iincV X325.here hx rfl (1 : Int32) (dc d8_101) (by decide) rfl (l' := #[sR b_, sI c_, sD (dv p_), s2, sJ x_, s2, sI 2, sI st_, sI (st_ + (2 : Int32)), sI ((st_ + (1 : Int32)) + (1 : Int32)), su]) rfl k)) ?_
                      rw [own_a11 hS]
                      refine Goes.on (T' := T325) (g' := (mkF m 107 #[sR b_, sI c_, sD (dv p_), s2, sJ x_, s2, sI 2, sI st_, sI (st_ + (2 : Int32)), sI (st_ + (2 : Int32)), su] [])) (fun _ k => XS.goto X325.here hx rfl (pc0 := 104) (pc' := 68) rfl (dc d8_104) (by decide) (by decide) (XS.iload X325.here hx rfl (dc d8_68) rfl (XS.iload X325.here hx rfl (dc d8_70) rfl (XS.icmpYes X325.here hx rfl (pc0 := 72) (pc' := 107) rfl (dc d8_72) rfl (XT.ii_ge_t (own_irr _)) (by decide) (by decide) k)))) ?_
                      exact J206 (by omega) T325 _ X325 e325 N315
                  · refine Goes.on (T' := T322) (g' := (mkF m 107 #[sR b_, sI c_, sD (dv p_), s2, sJ x_, s2, sI 2, sI st_, sI (st_ + (2 : Int32)), sI (st_ + (1 : Int32)), su] [])) (fun _ k => XS.ifYes X322.here hx rfl (pc0 := 84) (pc' := 107) rfl (dc d8_84) rfl (dd_ne_t hc324) (by decide) (by decide) k) ?_
                    exact J107 (by omega) T322 _ X322 e322 N315
              · refine Goes.on (T' := T316) (g' := (mkF m 107 #[sR b_, sI c_, sD (dv p_), s2, sJ x_, s2, sI 2, sI st_, sI (st_ + (2 : Int32)), sI st_, su] [])) (fun _ k => XS.ifYes X316.here hx rfl (pc0 := 84) (pc' := 107) rfl (dc d8_84) rfl (dd_ne_t hc318) (by decide) (by decide) k) ?_
                exact J8 (by omega) T316 _ X316 e316 N315
theorem rmI2f (l : Launch) (Z : State) (a0 : Array Value) (hw : TW Z a0) (b_ S_ T_ P_ I_ : Addr) (M_ N_ : Nat) (c_  q_ : Int32) (sz_ : Nat → Int32) (th_ pt_ : Nat → DK) (id_ : Nat → Int64) (p_ : DK) (x_ : Int64) (h0 : Heap) (n0 : Nat) (Z0 : n0 ≤ h0.size) (E0 : Exa Z h0 b_ "com/example/boceto/boceto/signature/ComponentBuffers") (F1 : Fld Z h0 b_ "com/example/boceto/boceto/signature/ComponentBuffers" "_bufferSize" "I" (.int (2 : Int32))) (F2 : Fld Z h0 b_ "com/example/boceto/boceto/signature/ComponentBuffers" "_sizes" "[I" (.ref S_)) (F3 : Fld Z h0 b_ "com/example/boceto/boceto/signature/ComponentBuffers" "_thresholds" "[D" (.ref T_)) (F4 : Fld Z h0 b_ "com/example/boceto/boceto/signature/ComponentBuffers" "_capacity" "I" (.int (2 : Int32))) (F5 : Fld Z h0 b_ "com/example/boceto/boceto/signature/ComponentBuffers" "_points" "[D" (.ref P_)) (F6 : Fld Z h0 b_ "com/example/boceto/boceto/signature/ComponentBuffers" "_identities" "[J" (.ref I_)) (F7 : Fld Z h0 b_ "com/example/boceto/boceto/signature/ComponentBuffers" "_pointCount" "I" (.int q_)) (A1 : Arf Z h0 S_ .int Value.int M_ sz_) (A2 : Arf Z h0 T_ .double vD M_ th_) (A3 : Arf Z h0 P_ .double vD N_ pt_) (A4 : Arf Z h0 I_ .long Value.long N_ id_) (E1 : Exa Z h0 S_ "[I") (E2 : Exa Z h0 T_ "[D") (E3 : Exa Z h0 P_ "[D") (E4 : Exa Z h0 I_ "[J") (nTP : T_ ≠ P_) (g0 : n0 ≤ b_) (g1 : n0 ≤ S_) (g2 : n0 ≤ T_) (g3 : n0 ≤ P_) (g4 : n0 ≤ I_) (hc : ¬ c_ < 0 ∧ c_.toNatClampNeg < M_) (hcc : c_ = (0 : Int32) ∨ c_ = (1 : Int32) ∨ c_ = (2 : Int32)) (hM : M_ = 1 ∨ M_ = 2 ∨ M_ = 3) (hN : N_ = M_ * (2 : Int32).toNatClampNeg) (hcl : (2 : Int32).toInt ≤ (2 : Int32).toInt) (hz : ∀ i, i < M_ → 0 ≤ (sz_ i).toInt ∧ (sz_ i).toInt ≤ (2 : Int32).toInt) (hsz : sz_ c_.toNatClampNeg = (2 : Int32)) (hpt : (pt_ (c_.toNatClampNeg * (2 : Int32).toNatClampNeg)).1 ≤ (th_ c_.toNatClampNeg).1) (hso : (pt_ (c_.toNatClampNeg * (2 : Int32).toNatClampNeg)).1 ≤ (pt_ (c_.toNatClampNeg * (2 : Int32).toNatClampNeg + 1)).1) :
    Pays l Z (⟨"com/example/boceto/boceto/signature/ComponentBuffers", "insert", "(IDJ)V"⟩ : MethodName) prog_28_method_6_code 11 none [] ({ frames := 2, cells := 2, slots := 18, locals := 60 } : Room) #[(.ref b_), (.int c_), (.double (dv p_)), (.long x_)] h0 (fun v h L => ∃ (P2 I2 : Addr) (N2 : Nat) (cp2 q2 : Int32) (sz2 : Nat → Int32) (th2 pt2 : Nat → DK) (id2 : Nat → Int64), v = none ∧ Fr n0 L ∧ Keep h0 h [b_, S_, T_, P_, I_] ∧ Fld Z h b_ "com/example/boceto/boceto/signature/ComponentBuffers" "_bufferSize" "I" (.int (2 : Int32)) ∧ Fld Z h b_ "com/example/boceto/boceto/signature/ComponentBuffers" "_sizes" "[I" (.ref S_) ∧ Fld Z h b_ "com/example/boceto/boceto/signature/ComponentBuffers" "_thresholds" "[D" (.ref T_) ∧ Fld Z h b_ "com/example/boceto/boceto/signature/ComponentBuffers" "_capacity" "I" (.int cp2) ∧ Fld Z h b_ "com/example/boceto/boceto/signature/ComponentBuffers" "_points" "[D" (.ref P2) ∧ Fld Z h b_ "com/example/boceto/boceto/signature/ComponentBuffers" "_identities" "[J" (.ref I2) ∧ Fld Z h b_ "com/example/boceto/boceto/signature/ComponentBuffers" "_pointCount" "I" (.int q2) ∧ Arf Z h S_ .int Value.int M_ sz2 ∧ Arf Z h T_ .double vD M_ th2 ∧ Arf Z h P2 .double vD N2 pt2 ∧ Arf Z h I2 .long Value.long N2 id2 ∧ Exa Z h P2 "[D" ∧ Exa Z h I2 "[J" ∧ n0 ≤ P2 ∧ n0 ≤ I2 ∧ T_ ≠ P2 ∧ (I2 = I_ ∨ h0.size ≤ I2) ∧ (P2 = P_ ∨ h0.size ≤ P2) ∧ own_ir M_ c_.toNatClampNeg (2 : Int32) (2 : Int32) sz_ th_ pt_ id_ p_ x_ cp2 N2 sz2 th2 pt2 id2) := by
  refine Pays.walk (plainFor_of_name pn_3) (fun m => ef_6 m b_ c_ (dv p_) x_ ) ?_
  intro p e s m below meth c T0 X0 hx hby hml hown hnm hZ e0 hret hlk
  have dc := @Jvm.hb _ _ hby
  have ow := @own_w Z a0 hw
  have N0 := Fr.nil n0
  have ebS : b_ ≠ S_ := ne_exa E0 E1 (by decide)
  have ebT : b_ ≠ T_ := ne_exa E0 E2 (by decide)
  have ebP : b_ ≠ P_ := ne_exa E0 E3 (by decide)
  have ebI : b_ ≠ I_ := ne_exa E0 E4 (by decide)
  have eST : S_ ≠ T_ := ne_exa E1 E2 (by decide)
  have eSP : S_ ≠ P_ := ne_exa E1 E3 (by decide)
  have eSI : S_ ≠ I_ := ne_exa E1 E4 (by decide)
  have eTI : T_ ≠ I_ := ne_exa E2 E4 (by decide)
  have ePI : P_ ≠ I_ := ne_exa E3 E4 (by decide)
  have K0 := Keep.refl h0 [b_, S_, T_, P_, I_]
  have hC3 : (2 : Int32) = (1 : Int32) ∨ (2 : Int32) = (2 : Int32) ∨ (2 : Int32) = (3 : Int32) := (by decide)
  obtain ⟨st_, hst⟩ : ∃ z, c_ * (2 : Int32) = z := ⟨_, rfl⟩
  have hq := own_cs hcc hC3
  rw [hst] at hq
  obtain ⟨hq1, hq2, hk, hq3⟩ := hq
  have hS : 0 ≤ st_.toInt ∧ st_.toInt ≤ 8 := ⟨hq1, hq2⟩
  have hcn : 2 ≤ (2 : Int32).toNatClampNeg := by decide
  have hNN : N_ = M_ * (2 : Int32).toNatClampNeg := hN
  have hNb : N_ < 2 ^ 31 := own_nb hM (own_cpn hC3).2.2 hNN
  have B0 := own_b0 (d := 0) hk hc.2 hNN (by omega)
  have B1 := own_b0 (d := 1) hk hc.2 hNN (by omega)
  have b0 : ¬ st_ < 0 ∧ st_.toNatClampNeg < N_ := ⟨hq3, B0⟩
  have n1 := own_n1 hS
  have b1 : ¬ (st_ + (1 : Int32)) < 0 ∧ (st_ + (1 : Int32)).toNatClampNeg < N_ := ⟨n1.2, by rw [n1.1]; exact B1⟩
  have n2 := own_n2 hS
  have hP0 : (pt_ st_.toNatClampNeg).1 ≤ (th_ c_.toNatClampNeg).1 := by rw [hk]; exact hpt
  have hP1 : (pt_ st_.toNatClampNeg).1 ≤ (pt_ (st_.toNatClampNeg + 1)).1 := by rw [hk]; exact hso
  obtain ⟨T1, X1, e1, st1⟩ := getF X0 hx hZ hown (host := "") (Or.inl (ow 37 rfl)) Via.refl e0 F3 (g := (mkF m 2 #[sR b_, sI c_, sD (dv p_), s2, sJ x_, s2, su, su, su, su, su] [(.ref b_), (.double (dv p_))])) rfl rfl (dc d8_2)
  refine Goes.on (T' := T1) (g' := (mkF m 8 #[sR b_, sI c_, sD (dv p_), s2, sJ x_, s2, su, su, su, su, su] [(.int (cmpValue (FP.dcmp (dv p_) (dv (th_ c_.toNatClampNeg))) .l))])) (fun _ k => XS.dloadN X0.here hx rfl (dc d8_0) rfl (XS.aloadN X0.here hx rfl (dc d8_1) rfl rfl (st1 _ (XS.iloadN X1.here hx rfl (dc d8_5) rfl (ldKm X1 hx hZ e1 A2 hc (dc d8_6) (XS.dcmpS X1.here hx rfl (dc d8_7) rfl rfl k)))))) ?_
  by_cases hc3 : (th_ c_.toNatClampNeg).1 < p_.1
  · have O : own_one (2 : Int32) (pt_ st_.toNatClampNeg) (id_ st_.toNatClampNeg) p_ x_ (2 : Int32) (th_ c_.toNatClampNeg) (pt_ st_.toNatClampNeg) (pt_ (st_.toNatClampNeg + 1)) (id_ st_.toNatClampNeg) := by
      refine ⟨by decide, by decide, ?_, ?_, ?_, ?_⟩
      · exact fun q => by
         rcases q with q | q
         · exact absurd q (by decide)
         · exfalso; omega
      · exact fun _ => ⟨rfl, rfl⟩
      · exact fun _ => by omega
      · exact fun _ => by omega
    have Z4 : ((2 : Int32)).toInt ≤ ((2 : Int32).toNatClampNeg : Int) := by
      have q : ((2 : Int32)).toInt = 2 := rfl
      omega
    have LR : own_lr c_.toNatClampNeg st_.toNatClampNeg (2 : Int32).toNatClampNeg sz_ th_ pt_ id_ p_ x_ sz_ th_ pt_ id_ := ⟨fun i hi => ⟨rfl, rfl⟩, fun y hy => ⟨rfl, rfl⟩, own_oc hsz hsz rfl rfl rfl rfl O, by rw [hsz]; exact Z4⟩
    refine Goes.on (T' := T1) (g' := (mkF m 11 #[sR b_, sI c_, sD (dv p_), s2, sJ x_, s2, su, su, su, su, su] [])) (fun _ k => XS.ifNo X1.here hx rfl (dc d8_8) rfl (dd_le_f hc3) k) ?_
    exact Goes.retV X1 hx hlk hret (dc d8_11) (by decide) (by decide) (by rw [e1]; exact ⟨P_, I_, N_, (2 : Int32), q_, sz_, th_, pt_, id_, rfl, N0, K0, F1, F2, F3, F4, F5, F6, F7, A1, A2, A3, A4, E3, E4, g3, g4, nTP, Or.inl rfl, Or.inl rfl, own_lr_ir hN hC3 hcl hz hk LR⟩)
  · obtain ⟨T4, X4, e4, st4⟩ := getF X1 hx hZ hown (host := "") (Or.inl (ow 34 rfl)) Via.refl e1 F2 (g := (mkF m 13 #[sR b_, sI c_, sD (dv p_), s2, sJ x_, s2, su, su, su, su, su] [(.ref b_)])) rfl rfl (dc d8_13)
    refine Goes.on (T' := T4) (g' := (mkF m 18 #[sR b_, sI c_, sD (dv p_), s2, sJ x_, s2, su, su, su, su, su] [(.int (sz_ c_.toNatClampNeg))])) (fun _ k => XS.ifYes X1.here hx rfl (pc0 := 8) (pc' := 12) rfl (dc d8_8) rfl (dd_le_t hc3) (by decide) (by decide) (XS.aloadN X1.here hx rfl (dc d8_12) rfl rfl (st4 _ (XS.iloadN X4.here hx rfl (dc d8_16) rfl (ldIm X4 hx hZ e4 A1 hc (dc d8_17) k))))) ?_
    rw [hsz]
    obtain ⟨T6, X6, e6, st6⟩ := getF X4 hx hZ hown (host := "") (Or.inl (ow 44 rfl)) Via.refl e4 F4 (g := (mkF m 23 #[sR b_, sI c_, sD (dv p_), s2, sJ x_, s2, sI 2, su, su, su, su] [(.ref b_), (.int 2)])) rfl rfl (dc d8_23)
    obtain ⟨T7, X7, e7, st7⟩ := getF X6 hx hZ hown (host := "") (Or.inl (ow 31 rfl)) Via.refl e6 F1 (g := (mkF m 32 #[sR b_, sI c_, sD (dv p_), s2, sJ x_, s2, sI 2, su, su, su, su] [(.ref b_), (.int 2)])) rfl rfl (dc d8_32)
    obtain ⟨T8, X8, e8, st8⟩ := getF X7 hx hZ hown (host := "") (Or.inl (ow 44 rfl)) Via.refl e7 F4 (g := (mkF m 44 #[sR b_, sI c_, sD (dv p_), s2, sJ x_, s2, sI 2, su, su, su, su] [(.ref b_), (.int c_)])) rfl rfl (dc d8_44)
    refine Goes.on (T' := T8) (g' := (mkF m 48 #[sR b_, sI c_, sD (dv p_), s2, sJ x_, s2, sI 2, su, su, su, su] [(.int (c_ * (2 : Int32)))])) (fun _ k => XS.istore X4.here hx rfl (dc d8_18) rfl (l' := #[sR b_, sI c_, sD (dv p_), s2, sJ x_, s2, sI 2, su, su, su, su]) rfl (XS.iload X4.here hx rfl (dc d8_20) rfl (XS.aloadN X4.here hx rfl (dc d8_22) rfl rfl (st6 _ (XS.icmpNo X6.here hx rfl (dc d8_26) rfl (XT.ii_ne_f (by decide)) (XS.iload X6.here hx rfl (dc d8_29) rfl (XS.aloadN X6.here hx rfl (dc d8_31) rfl rfl (st7 _ (XS.icmpYes X7.here hx rfl (pc0 := 35) (pc' := 42) rfl (dc d8_35) rfl (XT.ii_ge_t (by decide)) (by decide) (by decide) (XS.iloadN X7.here hx rfl (dc d8_42) rfl (XS.aloadN X7.here hx rfl (dc d8_43) rfl rfl (st8 _ (XS.imul X8.here hx rfl (dc d8_47) rfl k))))))))))))) ?_
    rw [hst]
    have hP2 : (pt_ st_.toNatClampNeg).1 ≤ (pt_ (st_ + (1 : Int32)).toNatClampNeg).1 := by rw [n1.1]; exact hP1
    refine Goes.on (T' := T8) (g' := (mkF m 63 #[sR b_, sI c_, sD (dv p_), s2, sJ x_, s2, sI 2, sI st_, sI (st_ + (2 : Int32)), su, su] [(.double (dv p_)), (.int (st_ + (2 : Int32))), (.int st_), (.ref b_)])) (fun _ k => XS.istore X8.here hx rfl (dc d8_48) rfl (l' := #[sR b_, sI c_, sD (dv p_), s2, sJ x_, s2, sI 2, sI st_, su, su, su]) rfl (XS.iload X8.here hx rfl (dc d8_50) rfl (XS.iload X8.here hx rfl (dc d8_52) rfl (XS.iadd X8.here hx rfl (dc d8_54) rfl (XS.istore X8.here hx rfl (dc d8_55) rfl (l' := #[sR b_, sI c_, sD (dv p_), s2, sJ x_, s2, sI 2, sI st_, sI (st_ + (2 : Int32)), su, su]) rfl (XS.aloadN X8.here hx rfl (dc d8_57) rfl rfl (XS.iload X8.here hx rfl (dc d8_58) rfl (XS.iload X8.here hx rfl (dc d8_60) rfl (XS.dloadN X8.here hx rfl (dc d8_62) rfl k))))))))) ?_
    refine Goes.joinA X8 (h := h0) (n0 := n0) (C := p_.1 < (pt_ st_.toNatClampNeg).1) (fr := (mkF m 107 #[sR b_, sI c_, sD (dv p_), s2, sJ x_, s2, sI 2, sI st_, sI (st_ + (2 : Int32)), sI st_, su] [])) ?_ ?_
    · intro hA T9 L9 X9 e9 N9
      obtain ⟨T10, X10, e10, st10⟩ := getF X9 hx hZ hown (host := "") (Or.inl (ow 31 rfl)) Via.refl e9 F1 (g := (mkF m 110 #[sR b_, sI c_, sD (dv p_), s2, sJ x_, s2, sI 2, sI st_, sI (st_ + (2 : Int32)), sI st_, su] [(.ref b_), (.int 2)])) rfl rfl (dc d8_110)
      refine Goes.on (T' := T10) (g' := (mkF m 120 #[sR b_, sI c_, sD (dv p_), s2, sJ x_, s2, sI 2, sI st_, sI (st_ + (2 : Int32)), sI st_, su] [(.int ((st_ + (2 : Int32)) - (1 : Int32)))])) (fun _ k => XS.iload X9.here hx rfl (dc d8_107) rfl (XS.aloadN X9.here hx rfl (dc d8_109) rfl rfl (st10 _ (XS.icmpNo X10.here hx rfl (dc d8_113) rfl (XT.ii_ne_f (by decide)) (XS.iload X10.here hx rfl (dc d8_116) rfl (XS.iconst X10.here hx rfl (dc d8_118) (XS.isub X10.here hx rfl (dc d8_119) rfl k))))))) ?_
      rw [own_s21 hS]
      refine Goes.on (T' := T10) (g' := (mkF m 134 #[sR b_, sI c_, sD (dv p_), s2, sJ x_, s2, sI 2, sI st_, sI (st_ + (2 : Int32)), sI st_, sI (st_ + (1 : Int32))] [(.int (st_ + (1 : Int32))), (.int st_), (.ref b_)])) (fun _ k => XS.istore X10.here hx rfl (dc d8_120) rfl (l' := #[sR b_, sI c_, sD (dv p_), s2, sJ x_, s2, sI 2, sI st_, sI (st_ + (2 : Int32)), sI st_, sI (st_ + (1 : Int32))]) rfl (XS.iload X10.here hx rfl (dc d8_122) rfl (XS.iload X10.here hx rfl (dc d8_124) rfl (XS.icmpNo X10.here hx rfl (dc d8_126) rfl (XT.ii_gt_f (own_lt10 hS)) (XS.aloadN X10.here hx rfl (dc d8_129) rfl rfl (XS.iload X10.here hx rfl (dc d8_130) rfl (XS.iload X10.here hx rfl (dc d8_132) rfl k))))))) ?_
      refine Goes.callP X10 hx hZ 0 hown (ow 70 rfl) (ow 71 rfl) (ow 72 rfl) (ow 1 rfl) (ow 2 rfl) (ow 73 rfl) (by decide) e10 E0 (rmSh1 l Z a0 hw b_ P_ I_ N_ st_ (st_ + (1 : Int32)) pt_ id_ h0 n0 Z0  E0 F5 F6 A3 A4 ebP ebI ePI g3 g4 (own_d10 hS) ⟨hq3, by omega⟩ ⟨n1.2, n1.1⟩ hNb) (by decide) (by decide) (by decide) (by decide) rfl (by rw [hml]; rfl) (argsL := [(.int st_), (.int (st_ + (1 : Int32)))]) (rest := []) rfl (lenOf pd_4 rfl) rfl (own_le20 rfl) (dc d8_134) ?_
      rintro v11 T11 L11 X11 ⟨rfl, N11q, K11, P11_0, P11_1⟩
      show Goes p e below _ T11 (mkF m 137 #[sR b_, sI c_, sD (dv p_), s2, sJ x_, s2, sI 2, sI st_, sI (st_ + (2 : Int32)), sI st_, sI (st_ + (1 : Int32))] [])
      have ni14 := (ninS ebP (ninS ebI nin0))
      have C18 := F5.keep K11 ni14
      have ni22 := (ninS eSP (ninS eSI nin0))
      have ni24 := (ninS nTP (ninS eTI nin0))
      have K30 := K0.trans K11 (allS (Or.inl (List.mem_of_getElem? (i := 3) rfl)) (allS (Or.inl (List.mem_of_getElem? (i := 4) rfl)) all0))
      obtain ⟨T31, X31, e31, st31⟩ := getF X11 hx hZ hown (host := "") (Or.inl (ow 46 rfl)) Via.refl rfl C18 (g := (mkF m 138 #[sR b_, sI c_, sD (dv p_), s2, sJ x_, s2, sI 2, sI st_, sI (st_ + (2 : Int32)), sI st_, sI (st_ + (1 : Int32))] [(.ref b_)])) rfl rfl (dc d8_138)
      obtain ⟨T32, h32, X32, e32, W32, B32, st32⟩ := wrK X31 hx hZ e31 P11_0 b0  (g := (mkF m 144 #[sR b_, sI c_, sD (dv p_), s2, sJ x_, s2, sI 2, sI st_, sI (st_ + (2 : Int32)), sI st_, sI (st_ + (1 : Int32))] [(.double (dv p_)), (.int st_), (.ref P_)])) rfl rfl (dc d8_144)
      have C39 := (F6.keep K11 ni14).other W32 (Or.inl ebP)
      have C47 := P11_1.other W32 ePI.symm
      have K49 := K30.wr W32 (Or.inl (List.mem_of_getElem? (i := 3) rfl))
      have B32 : Arf Z h32 P_ .double vD N_ (Upd (Upd pt_ (st_.toNatClampNeg + 1) (pt_ st_.toNatClampNeg)) st_.toNatClampNeg p_) := B32
      obtain ⟨T50, X50, e50, st50⟩ := getF X32 hx hZ hown (host := "") (Or.inl (ow 49 rfl)) Via.refl e32 C39 (g := (mkF m 146 #[sR b_, sI c_, sD (dv p_), s2, sJ x_, s2, sI 2, sI st_, sI (st_ + (2 : Int32)), sI st_, sI (st_ + (1 : Int32))] [(.ref b_)])) rfl rfl (dc d8_146)
      obtain ⟨T51, h51, X51, e51, W51, B51, st51⟩ := wrJ X50 hx hZ e50 C47 b0  (g := (mkF m 153 #[sR b_, sI c_, sD (dv p_), s2, sJ x_, s2, sI 2, sI st_, sI (st_ + (2 : Int32)), sI st_, sI (st_ + (1 : Int32))] [(.long x_), (.int st_), (.ref I_)])) rfl rfl (dc d8_153)
      have C55 := ((F3.keep K11 ni14).other W32 (Or.inl ebP)).other W51 (Or.inl ebI)
      have C57 := (C18.other W32 (Or.inl ebP)).other W51 (Or.inl ebI)
      have C61 := ((A2.keep K11 ni24).other W32 nTP).other W51 eTI
      have C66 := B32.other W51 ePI
      have K68 := K49.wr W51 (Or.inl (List.mem_of_getElem? (i := 4) rfl))
      have B51 : Arf Z h51 I_ .long Value.long N_ (Upd (Upd id_ (st_.toNatClampNeg + 1) (id_ st_.toNatClampNeg)) st_.toNatClampNeg x_) := B51
      obtain ⟨T69, X69, e69, st69⟩ := getF X51 hx hZ hown (host := "") (Or.inl (ow 37 rfl)) Via.refl e51 C55 (g := (mkF m 155 #[sR b_, sI c_, sD (dv p_), s2, sJ x_, s2, sI 2, sI st_, sI (st_ + (2 : Int32)), sI st_, sI (st_ + (1 : Int32))] [(.ref b_)])) rfl rfl (dc d8_155)
      obtain ⟨T70, X70, e70, st70⟩ := getF X69 hx hZ hown (host := "") (Or.inl (ow 46 rfl)) Via.refl e69 C57 (g := (mkF m 160 #[sR b_, sI c_, sD (dv p_), s2, sJ x_, s2, sI 2, sI st_, sI (st_ + (2 : Int32)), sI st_, sI (st_ + (1 : Int32))] [(.ref b_), (.int c_), (.ref T_)])) rfl rfl (dc d8_160)
      obtain ⟨T72, h72, X72, e72, W72, B72, st72⟩ := wrK X70 hx hZ e70 C61 hc  (g := (mkF m 166 #[sR b_, sI c_, sD (dv p_), s2, sJ x_, s2, sI 2, sI st_, sI (st_ + (2 : Int32)), sI st_, sI (st_ + (1 : Int32))] [(.double (dv ((Upd (Upd pt_ (st_.toNatClampNeg + 1) (pt_ st_.toNatClampNeg)) st_.toNatClampNeg p_) (st_ + (1 : Int32)).toNatClampNeg))), (.int c_), (.ref T_)])) rfl rfl (dc d8_166)
      have N72 := Fr.snoc X72 (Fr.snoc X51 (Fr.snoc X32 (Fr.app N9 N11q) g3) g4) g2
      have C74 := (((F1.keep K11 ni14).other W32 (Or.inl ebP)).other W51 (Or.inl ebI)).other W72 (Or.inl ebT)
      have C75 := (((F2.keep K11 ni14).other W32 (Or.inl ebP)).other W51 (Or.inl ebI)).other W72 (Or.inl ebT)
      have C76 := C55.other W72 (Or.inl ebT)
      have C77 := (((F4.keep K11 ni14).other W32 (Or.inl ebP)).other W51 (Or.inl ebI)).other W72 (Or.inl ebT)
      have C78 := C57.other W72 (Or.inl ebT)
      have C79 := (C39.other W51 (Or.inl ebI)).other W72 (Or.inl ebT)
      have C80 := (((F7.keep K11 ni14).other W32 (Or.inl ebP)).other W51 (Or.inl ebI)).other W72 (Or.inl ebT)
      have C81 := (((A1.keep K11 ni22).other W32 eSP).other W51 eSI).other W72 eST
      have C84 := (((E3.keep K11).wr W32).wr W51).wr W72
      have C85 := (((E4.keep K11).wr W32).wr W51).wr W72
      have C86 := C66.other W72 nTP.symm
      have C87 := B51.other W72 eTI.symm
      have K89 := K68.wr W72 (Or.inl (List.mem_of_getElem? (i := 2) rfl))
      have B72 : Arf Z h72 T_ .double vD M_ (Upd th_ c_.toNatClampNeg ((Upd (Upd pt_ (st_.toNatClampNeg + 1) (pt_ st_.toNatClampNeg)) st_.toNatClampNeg p_) (st_ + (1 : Int32)).toNatClampNeg)) := B72
      have O : own_one (2 : Int32) (pt_ st_.toNatClampNeg) (id_ st_.toNatClampNeg) p_ x_ (2 : Int32) (pt_ st_.toNatClampNeg) p_ (pt_ st_.toNatClampNeg) x_ := by
        refine ⟨by decide, by decide, ?_, ?_, ?_, ?_⟩
        · exact fun _ => ⟨rfl, rfl⟩
        · exact fun q => by
           exfalso
           exact q (Or.inr (by omega))
        · exact fun _ => by omega
        · exact fun _ => by omega
      have Z4 : ((2 : Int32)).toInt ≤ ((2 : Int32).toNatClampNeg : Int) := by
        have q : ((2 : Int32)).toInt = 2 := rfl
        omega
      have LR : own_lr c_.toNatClampNeg st_.toNatClampNeg (2 : Int32).toNatClampNeg sz_ th_ pt_ id_ p_ x_ sz_ (Upd th_ c_.toNatClampNeg ((Upd (Upd pt_ (st_.toNatClampNeg + 1) (pt_ st_.toNatClampNeg)) st_.toNatClampNeg p_) (st_ + (1 : Int32)).toNatClampNeg)) (Upd (Upd pt_ (st_.toNatClampNeg + 1) (pt_ st_.toNatClampNeg)) st_.toNatClampNeg p_) (Upd (Upd id_ (st_.toNatClampNeg + 1) (id_ st_.toNatClampNeg)) st_.toNatClampNeg x_) := ⟨fun i hi => ⟨rfl, by simp [Upd, hi]⟩, fun y hy => ⟨(by have y0 : y ≠ st_.toNatClampNeg := (by omega); have y1 : y ≠ st_.toNatClampNeg + 1 := (by omega); simp [Upd, n1.1, n2.1, (own_n11 hS).2, y0, y1]), (by have y0 : y ≠ st_.toNatClampNeg := (by omega); have y1 : y ≠ st_.toNatClampNeg + 1 := (by omega); simp [Upd, n1.1, n2.1, (own_n11 hS).2, y0, y1])⟩, own_oc hsz hsz (by simp [Upd, n1.1, n2.1, (own_n11 hS).2] <;> omega) (by simp [Upd, n1.1, n2.1, (own_n11 hS).2] <;> omega) (by simp [Upd, n1.1, n2.1, (own_n11 hS).2] <;> omega) (by simp [Upd, n1.1, n2.1, (own_n11 hS).2] <;> omega) O, by rw [hsz]; exact Z4⟩
      refine Goes.on (T' := T72) (g' := (mkF m 215 #[sR b_, sI c_, sD (dv p_), s2, sJ x_, s2, sI 2, sI st_, sI (st_ + (2 : Int32)), sI st_, sI (st_ + (1 : Int32))] [])) (fun _ k => XS.aloadN X11.here hx rfl (dc d8_137) rfl rfl (st31 _ (XS.iload X31.here hx rfl (dc d8_141) rfl (XS.dloadN X31.here hx rfl (dc d8_143) rfl (st32 _ (XS.aloadN X32.here hx rfl (dc d8_145) rfl rfl (st50 _ (XS.iload X50.here hx rfl (dc d8_149) rfl (XS.lload X50.here hx rfl (dc d8_151) rfl (st51 _ (XS.aloadN X51.here hx rfl (dc d8_154) rfl rfl (st69 _ (XS.iloadN X69.here hx rfl (dc d8_158) rfl (XS.aloadN X69.here hx rfl (dc d8_159) rfl rfl (st70 _ (XS.iload X70.here hx rfl (dc d8_163) rfl (ldKm X70 hx hZ e70 C66 b1 (dc d8_165) (st72 _ (XS.goto X72.here hx rfl (pc0 := 167) (pc' := 215) rfl (dc d8_167) (by decide) (by decide) k))))))))))))))))))) ?_
      exact Goes.retV X72 hx hlk hret (dc d8_215) (by decide) (by decide) (by rw [e72]; exact ⟨P_, I_, N_, (2 : Int32), q_, sz_, (Upd th_ c_.toNatClampNeg ((Upd (Upd pt_ (st_.toNatClampNeg + 1) (pt_ st_.toNatClampNeg)) st_.toNatClampNeg p_) (st_ + (1 : Int32)).toNatClampNeg)), (Upd (Upd pt_ (st_.toNatClampNeg + 1) (pt_ st_.toNatClampNeg)) st_.toNatClampNeg p_), (Upd (Upd id_ (st_.toNatClampNeg + 1) (id_ st_.toNatClampNeg)) st_.toNatClampNeg x_), rfl, N72, K89, C74, C75, C76, C77, C78, C79, C80, C81, B72, C86, C87, C84, C85, g3, g4, nTP, Or.inl rfl, Or.inl rfl, own_lr_ir hN hC3 hcl hz hk LR⟩)
    · intro J9
      refine Goes.joinA X8 (h := h0) (n0 := n0) (C := (pt_ st_.toNatClampNeg).1 ≤ p_.1) (fr := (mkF m 107 #[sR b_, sI c_, sD (dv p_), s2, sJ x_, s2, sI 2, sI st_, sI (st_ + (2 : Int32)), sI (st_ + (1 : Int32)), su] [])) ?_ ?_
      · intro hA T90 L90 X90 e90 N90
        obtain ⟨T91, X91, e91, st91⟩ := getF X90 hx hZ hown (host := "") (Or.inl (ow 31 rfl)) Via.refl e90 F1 (g := (mkF m 110 #[sR b_, sI c_, sD (dv p_), s2, sJ x_, s2, sI 2, sI st_, sI (st_ + (2 : Int32)), sI (st_ + (1 : Int32)), su] [(.ref b_), (.int 2)])) rfl rfl (dc d8_110)
        refine Goes.on (T' := T91) (g' := (mkF m 120 #[sR b_, sI c_, sD (dv p_), s2, sJ x_, s2, sI 2, sI st_, sI (st_ + (2 : Int32)), sI (st_ + (1 : Int32)), su] [(.int ((st_ + (2 : Int32)) - (1 : Int32)))])) (fun _ k => XS.iload X90.here hx rfl (dc d8_107) rfl (XS.aloadN X90.here hx rfl (dc d8_109) rfl rfl (st91 _ (XS.icmpNo X91.here hx rfl (dc d8_113) rfl (XT.ii_ne_f (by decide)) (XS.iload X91.here hx rfl (dc d8_116) rfl (XS.iconst X91.here hx rfl (dc d8_118) (XS.isub X91.here hx rfl (dc d8_119) rfl k))))))) ?_
        rw [own_s21 hS]
        refine Goes.on (T' := T91) (g' := (mkF m 134 #[sR b_, sI c_, sD (dv p_), s2, sJ x_, s2, sI 2, sI st_, sI (st_ + (2 : Int32)), sI (st_ + (1 : Int32)), sI (st_ + (1 : Int32))] [(.int (st_ + (1 : Int32))), (.int (st_ + (1 : Int32))), (.ref b_)])) (fun _ k => XS.istore X91.here hx rfl (dc d8_120) rfl (l' := #[sR b_, sI c_, sD (dv p_), s2, sJ x_, s2, sI 2, sI st_, sI (st_ + (2 : Int32)), sI (st_ + (1 : Int32)), sI (st_ + (1 : Int32))]) rfl (XS.iload X91.here hx rfl (dc d8_122) rfl (XS.iload X91.here hx rfl (dc d8_124) rfl (XS.icmpNo X91.here hx rfl (dc d8_126) rfl (XT.ii_gt_f (own_irr _)) (XS.aloadN X91.here hx rfl (dc d8_129) rfl rfl (XS.iload X91.here hx rfl (dc d8_130) rfl (XS.iload X91.here hx rfl (dc d8_132) rfl k))))))) ?_
        refine Goes.callP X91 hx hZ 0 hown (ow 70 rfl) (ow 71 rfl) (ow 72 rfl) (ow 1 rfl) (ow 2 rfl) (ow 73 rfl) (by decide) e91 E0 (rmSh0 l Z a0 hw b_ P_ I_ N_ (st_ + (1 : Int32)) (st_ + (1 : Int32)) pt_ id_ h0 n0 Z0  E0 F5 F6 A3 A4 ebP ebI ePI g3 g4 (own_d00 _) ⟨n1.2, by rw [n1.1]; omega⟩ (own_n11 hS) hNb) (by decide) (by decide) (by decide) (by decide) rfl (by rw [hml]; rfl) (argsL := [(.int (st_ + (1 : Int32))), (.int (st_ + (1 : Int32)))]) (rest := []) rfl (lenOf pd_4 rfl) rfl (own_le20 rfl) (dc d8_134) ?_
        rintro v92 T92 L92 X92 ⟨rfl, N92q, K92, P92_0, P92_1⟩
        show Goes p e below _ T92 (mkF m 137 #[sR b_, sI c_, sD (dv p_), s2, sJ x_, s2, sI 2, sI st_, sI (st_ + (2 : Int32)), sI (st_ + (1 : Int32)), sI (st_ + (1 : Int32))] [])
        have ni95 := (ninS ebP (ninS ebI nin0))
        have C99 := F5.keep K92 ni95
        have ni103 := (ninS eSP (ninS eSI nin0))
        have ni105 := (ninS nTP (ninS eTI nin0))
        have K111 := K0.trans K92 (allS (Or.inl (List.mem_of_getElem? (i := 3) rfl)) (allS (Or.inl (List.mem_of_getElem? (i := 4) rfl)) all0))
        obtain ⟨T112, X112, e112, st112⟩ := getF X92 hx hZ hown (host := "") (Or.inl (ow 46 rfl)) Via.refl rfl C99 (g := (mkF m 138 #[sR b_, sI c_, sD (dv p_), s2, sJ x_, s2, sI 2, sI st_, sI (st_ + (2 : Int32)), sI (st_ + (1 : Int32)), sI (st_ + (1 : Int32))] [(.ref b_)])) rfl rfl (dc d8_138)
        obtain ⟨T113, h113, X113, e113, W113, B113, st113⟩ := wrK X112 hx hZ e112 P92_0 b1  (g := (mkF m 144 #[sR b_, sI c_, sD (dv p_), s2, sJ x_, s2, sI 2, sI st_, sI (st_ + (2 : Int32)), sI (st_ + (1 : Int32)), sI (st_ + (1 : Int32))] [(.double (dv p_)), (.int (st_ + (1 : Int32))), (.ref P_)])) rfl rfl (dc d8_144)
        have C120 := (F6.keep K92 ni95).other W113 (Or.inl ebP)
        have C128 := P92_1.other W113 ePI.symm
        have K130 := K111.wr W113 (Or.inl (List.mem_of_getElem? (i := 3) rfl))
        have B113 : Arf Z h113 P_ .double vD N_ (Upd pt_ (st_ + (1 : Int32)).toNatClampNeg p_) := B113
        obtain ⟨T131, X131, e131, st131⟩ := getF X113 hx hZ hown (host := "") (Or.inl (ow 49 rfl)) Via.refl e113 C120 (g := (mkF m 146 #[sR b_, sI c_, sD (dv p_), s2, sJ x_, s2, sI 2, sI st_, sI (st_ + (2 : Int32)), sI (st_ + (1 : Int32)), sI (st_ + (1 : Int32))] [(.ref b_)])) rfl rfl (dc d8_146)
        obtain ⟨T132, h132, X132, e132, W132, B132, st132⟩ := wrJ X131 hx hZ e131 C128 b1  (g := (mkF m 153 #[sR b_, sI c_, sD (dv p_), s2, sJ x_, s2, sI 2, sI st_, sI (st_ + (2 : Int32)), sI (st_ + (1 : Int32)), sI (st_ + (1 : Int32))] [(.long x_), (.int (st_ + (1 : Int32))), (.ref I_)])) rfl rfl (dc d8_153)
        have C136 := ((F3.keep K92 ni95).other W113 (Or.inl ebP)).other W132 (Or.inl ebI)
        have C138 := (C99.other W113 (Or.inl ebP)).other W132 (Or.inl ebI)
        have C142 := ((A2.keep K92 ni105).other W113 nTP).other W132 eTI
        have C147 := B113.other W132 ePI
        have K149 := K130.wr W132 (Or.inl (List.mem_of_getElem? (i := 4) rfl))
        have B132 : Arf Z h132 I_ .long Value.long N_ (Upd id_ (st_ + (1 : Int32)).toNatClampNeg x_) := B132
        obtain ⟨T150, X150, e150, st150⟩ := getF X132 hx hZ hown (host := "") (Or.inl (ow 37 rfl)) Via.refl e132 C136 (g := (mkF m 155 #[sR b_, sI c_, sD (dv p_), s2, sJ x_, s2, sI 2, sI st_, sI (st_ + (2 : Int32)), sI (st_ + (1 : Int32)), sI (st_ + (1 : Int32))] [(.ref b_)])) rfl rfl (dc d8_155)
        obtain ⟨T151, X151, e151, st151⟩ := getF X150 hx hZ hown (host := "") (Or.inl (ow 46 rfl)) Via.refl e150 C138 (g := (mkF m 160 #[sR b_, sI c_, sD (dv p_), s2, sJ x_, s2, sI 2, sI st_, sI (st_ + (2 : Int32)), sI (st_ + (1 : Int32)), sI (st_ + (1 : Int32))] [(.ref b_), (.int c_), (.ref T_)])) rfl rfl (dc d8_160)
        obtain ⟨T153, h153, X153, e153, W153, B153, st153⟩ := wrK X151 hx hZ e151 C142 hc  (g := (mkF m 166 #[sR b_, sI c_, sD (dv p_), s2, sJ x_, s2, sI 2, sI st_, sI (st_ + (2 : Int32)), sI (st_ + (1 : Int32)), sI (st_ + (1 : Int32))] [(.double (dv ((Upd pt_ (st_ + (1 : Int32)).toNatClampNeg p_) (st_ + (1 : Int32)).toNatClampNeg))), (.int c_), (.ref T_)])) rfl rfl (dc d8_166)
        have N153 := Fr.snoc X153 (Fr.snoc X132 (Fr.snoc X113 (Fr.app N90 N92q) g3) g4) g2
        have C155 := (((F1.keep K92 ni95).other W113 (Or.inl ebP)).other W132 (Or.inl ebI)).other W153 (Or.inl ebT)
        have C156 := (((F2.keep K92 ni95).other W113 (Or.inl ebP)).other W132 (Or.inl ebI)).other W153 (Or.inl ebT)
        have C157 := C136.other W153 (Or.inl ebT)
        have C158 := (((F4.keep K92 ni95).other W113 (Or.inl ebP)).other W132 (Or.inl ebI)).other W153 (Or.inl ebT)
        have C159 := C138.other W153 (Or.inl ebT)
        have C160 := (C120.other W132 (Or.inl ebI)).other W153 (Or.inl ebT)
        have C161 := (((F7.keep K92 ni95).other W113 (Or.inl ebP)).other W132 (Or.inl ebI)).other W153 (Or.inl ebT)
        have C162 := (((A1.keep K92 ni103).other W113 eSP).other W132 eSI).other W153 eST
        have C165 := (((E3.keep K92).wr W113).wr W132).wr W153
        have C166 := (((E4.keep K92).wr W113).wr W132).wr W153
        have C167 := C147.other W153 nTP.symm
        have C168 := B132.other W153 eTI.symm
        have K170 := K149.wr W153 (Or.inl (List.mem_of_getElem? (i := 2) rfl))
        have B153 : Arf Z h153 T_ .double vD M_ (Upd th_ c_.toNatClampNeg ((Upd pt_ (st_ + (1 : Int32)).toNatClampNeg p_) (st_ + (1 : Int32)).toNatClampNeg)) := B153
        have O : own_one (2 : Int32) (pt_ st_.toNatClampNeg) (id_ st_.toNatClampNeg) p_ x_ (2 : Int32) p_ (pt_ st_.toNatClampNeg) p_ (id_ st_.toNatClampNeg) := by
          refine ⟨by decide, by decide, ?_, ?_, ?_, ?_⟩
          · exact fun q => by
             rcases q with q | q
             · exact absurd q (by decide)
             · exfalso; omega
          · exact fun _ => ⟨rfl, rfl⟩
          · exact fun _ => by omega
          · exact fun _ => by omega
        have Z4 : ((2 : Int32)).toInt ≤ ((2 : Int32).toNatClampNeg : Int) := by
          have q : ((2 : Int32)).toInt = 2 := rfl
          omega
        have LR : own_lr c_.toNatClampNeg st_.toNatClampNeg (2 : Int32).toNatClampNeg sz_ th_ pt_ id_ p_ x_ sz_ (Upd th_ c_.toNatClampNeg ((Upd pt_ (st_ + (1 : Int32)).toNatClampNeg p_) (st_ + (1 : Int32)).toNatClampNeg)) (Upd pt_ (st_ + (1 : Int32)).toNatClampNeg p_) (Upd id_ (st_ + (1 : Int32)).toNatClampNeg x_) := ⟨fun i hi => ⟨rfl, by simp [Upd, hi]⟩, fun y hy => ⟨(by have y0 : y ≠ st_.toNatClampNeg := (by omega); have y1 : y ≠ st_.toNatClampNeg + 1 := (by omega); simp [Upd, n1.1, n2.1, (own_n11 hS).2, y0, y1]), (by have y0 : y ≠ st_.toNatClampNeg := (by omega); have y1 : y ≠ st_.toNatClampNeg + 1 := (by omega); simp [Upd, n1.1, n2.1, (own_n11 hS).2, y0, y1])⟩, own_oc hsz hsz (by simp [Upd, n1.1, n2.1, (own_n11 hS).2] <;> omega) (by simp [Upd, n1.1, n2.1, (own_n11 hS).2] <;> omega) (by simp [Upd, n1.1, n2.1, (own_n11 hS).2] <;> omega) (by simp [Upd, n1.1, n2.1, (own_n11 hS).2] <;> omega) O, by rw [hsz]; exact Z4⟩
        refine Goes.on (T' := T153) (g' := (mkF m 215 #[sR b_, sI c_, sD (dv p_), s2, sJ x_, s2, sI 2, sI st_, sI (st_ + (2 : Int32)), sI (st_ + (1 : Int32)), sI (st_ + (1 : Int32))] [])) (fun _ k => XS.aloadN X92.here hx rfl (dc d8_137) rfl rfl (st112 _ (XS.iload X112.here hx rfl (dc d8_141) rfl (XS.dloadN X112.here hx rfl (dc d8_143) rfl (st113 _ (XS.aloadN X113.here hx rfl (dc d8_145) rfl rfl (st131 _ (XS.iload X131.here hx rfl (dc d8_149) rfl (XS.lload X131.here hx rfl (dc d8_151) rfl (st132 _ (XS.aloadN X132.here hx rfl (dc d8_154) rfl rfl (st150 _ (XS.iloadN X150.here hx rfl (dc d8_158) rfl (XS.aloadN X150.here hx rfl (dc d8_159) rfl rfl (st151 _ (XS.iload X151.here hx rfl (dc d8_163) rfl (ldKm X151 hx hZ e151 C147 b1 (dc d8_165) (st153 _ (XS.goto X153.here hx rfl (pc0 := 167) (pc' := 215) rfl (dc d8_167) (by decide) (by decide) k))))))))))))))))))) ?_
        exact Goes.retV X153 hx hlk hret (dc d8_215) (by decide) (by decide) (by rw [e153]; exact ⟨P_, I_, N_, (2 : Int32), q_, sz_, (Upd th_ c_.toNatClampNeg ((Upd pt_ (st_ + (1 : Int32)).toNatClampNeg p_) (st_ + (1 : Int32)).toNatClampNeg)), (Upd pt_ (st_ + (1 : Int32)).toNatClampNeg p_), (Upd id_ (st_ + (1 : Int32)).toNatClampNeg x_), rfl, N153, K170, C155, C156, C157, C158, C159, C160, C161, C162, B153, C167, C168, C165, C166, g3, g4, nTP, Or.inl rfl, Or.inl rfl, own_lr_ir hN hC3 hcl hz hk LR⟩)
      · intro J90
        refine Goes.joinA X8 (h := h0) (n0 := n0) (C := (pt_ st_.toNatClampNeg).1 ≤ p_.1) (fr := (mkF m 107 #[sR b_, sI c_, sD (dv p_), s2, sJ x_, s2, sI 2, sI st_, sI (st_ + (2 : Int32)), sI (st_ + (2 : Int32)), su] [])) ?_ ?_
        · intro hA T171 L171 X171 e171 N171
          obtain ⟨T172, X172, e172, st172⟩ := getF X171 hx hZ hown (host := "") (Or.inl (ow 31 rfl)) Via.refl e171 F1 (g := (mkF m 110 #[sR b_, sI c_, sD (dv p_), s2, sJ x_, s2, sI 2, sI st_, sI (st_ + (2 : Int32)), sI (st_ + (2 : Int32)), su] [(.ref b_), (.int 2)])) rfl rfl (dc d8_110)
          refine Goes.on (T' := T172) (g' := (mkF m 120 #[sR b_, sI c_, sD (dv p_), s2, sJ x_, s2, sI 2, sI st_, sI (st_ + (2 : Int32)), sI (st_ + (2 : Int32)), su] [(.int ((st_ + (2 : Int32)) - (1 : Int32)))])) (fun _ k => XS.iload X171.here hx rfl (dc d8_107) rfl (XS.aloadN X171.here hx rfl (dc d8_109) rfl rfl (st172 _ (XS.icmpNo X172.here hx rfl (dc d8_113) rfl (XT.ii_ne_f (by decide)) (XS.iload X172.here hx rfl (dc d8_116) rfl (XS.iconst X172.here hx rfl (dc d8_118) (XS.isub X172.here hx rfl (dc d8_119) rfl k))))))) ?_
          rw [own_s21 hS]
          obtain ⟨T173, X173, e173, st173⟩ := getF X172 hx hZ hown (host := "") (Or.inl (ow 37 rfl)) Via.refl e172 F3 (g := (mkF m 155 #[sR b_, sI c_, sD (dv p_), s2, sJ x_, s2, sI 2, sI st_, sI (st_ + (2 : Int32)), sI (st_ + (2 : Int32)), sI (st_ + (1 : Int32))] [(.ref b_)])) rfl rfl (dc d8_155)
          obtain ⟨T174, X174, e174, st174⟩ := getF X173 hx hZ hown (host := "") (Or.inl (ow 46 rfl)) Via.refl e173 F5 (g := (mkF m 160 #[sR b_, sI c_, sD (dv p_), s2, sJ x_, s2, sI 2, sI st_, sI (st_ + (2 : Int32)), sI (st_ + (2 : Int32)), sI (st_ + (1 : Int32))] [(.ref b_), (.int c_), (.ref T_)])) rfl rfl (dc d8_160)
          obtain ⟨T176, h176, X176, e176, W176, B176, st176⟩ := wrK X174 hx hZ e174 A2 hc  (g := (mkF m 166 #[sR b_, sI c_, sD (dv p_), s2, sJ x_, s2, sI 2, sI st_, sI (st_ + (2 : Int32)), sI (st_ + (2 : Int32)), sI (st_ + (1 : Int32))] [(.double (dv (pt_ (st_ + (1 : Int32)).toNatClampNeg))), (.int c_), (.ref T_)])) rfl rfl (dc d8_166)
          have N176 := Fr.snoc X176 N171 g2
          have C178 := F1.other W176 (Or.inl ebT)
          have C179 := F2.other W176 (Or.inl ebT)
          have C180 := F3.other W176 (Or.inl ebT)
          have C181 := F4.other W176 (Or.inl ebT)
          have C182 := F5.other W176 (Or.inl ebT)
          have C183 := F6.other W176 (Or.inl ebT)
          have C184 := F7.other W176 (Or.inl ebT)
          have C185 := A1.other W176 eST
          have C186 := A3.other W176 nTP.symm
          have C187 := A4.other W176 eTI.symm
          have C190 := E3.wr W176
          have C191 := E4.wr W176
          have K193 := K0.wr W176 (Or.inl (List.mem_of_getElem? (i := 2) rfl))
          have B176 : Arf Z h176 T_ .double vD M_ (Upd th_ c_.toNatClampNeg (pt_ (st_ + (1 : Int32)).toNatClampNeg)) := B176
          have O : own_one (2 : Int32) (pt_ st_.toNatClampNeg) (id_ st_.toNatClampNeg) p_ x_ (2 : Int32) (pt_ (st_.toNatClampNeg + 1)) (pt_ st_.toNatClampNeg) (pt_ (st_.toNatClampNeg + 1)) (id_ st_.toNatClampNeg) := by
            refine ⟨by decide, by decide, ?_, ?_, ?_, ?_⟩
            · exact fun q => by
               rcases q with q | q
               · exact absurd q (by decide)
               · exfalso; omega
            · exact fun _ => ⟨rfl, rfl⟩
            · exact fun _ => by omega
            · exact fun _ => by omega
          have Z4 : ((2 : Int32)).toInt ≤ ((2 : Int32).toNatClampNeg : Int) := by
            have q : ((2 : Int32)).toInt = 2 := rfl
            omega
          have LR : own_lr c_.toNatClampNeg st_.toNatClampNeg (2 : Int32).toNatClampNeg sz_ th_ pt_ id_ p_ x_ sz_ (Upd th_ c_.toNatClampNeg (pt_ (st_ + (1 : Int32)).toNatClampNeg)) pt_ id_ := ⟨fun i hi => ⟨rfl, by simp [Upd, hi]⟩, fun y hy => ⟨rfl, rfl⟩, own_oc hsz hsz (by simp [Upd, n1.1, n2.1, (own_n11 hS).2] <;> omega) rfl rfl rfl O, by rw [hsz]; exact Z4⟩
          refine Goes.on (T' := T176) (g' := (mkF m 215 #[sR b_, sI c_, sD (dv p_), s2, sJ x_, s2, sI 2, sI st_, sI (st_ + (2 : Int32)), sI (st_ + (2 : Int32)), sI (st_ + (1 : Int32))] [])) (fun _ k => XS.istore X172.here hx rfl (dc d8_120) rfl (l' := #[sR b_, sI c_, sD (dv p_), s2, sJ x_, s2, sI 2, sI st_, sI (st_ + (2 : Int32)), sI (st_ + (2 : Int32)), sI (st_ + (1 : Int32))]) rfl (XS.iload X172.here hx rfl (dc d8_122) rfl (XS.iload X172.here hx rfl (dc d8_124) rfl (XS.icmpYes X172.here hx rfl (pc0 := 126) (pc' := 154) rfl (dc d8_126) rfl (XT.ii_gt_t (own_lt12 hS)) (by decide) (by decide) (XS.aloadN X172.here hx rfl (dc d8_154) rfl rfl (st173 _ (XS.iloadN X173.here hx rfl (dc d8_158) rfl (XS.aloadN X173.here hx rfl (dc d8_159) rfl rfl (st174 _ (XS.iload X174.here hx rfl (dc d8_163) rfl (ldKm X174 hx hZ e174 A3 b1 (dc d8_165) (st176 _ (XS.goto X176.here hx rfl (pc0 := 167) (pc' := 215) rfl (dc d8_167) (by decide) (by decide) k))))))))))))) ?_
          exact Goes.retV X176 hx hlk hret (dc d8_215) (by decide) (by decide) (by rw [e176]; exact ⟨P_, I_, N_, (2 : Int32), q_, sz_, (Upd th_ c_.toNatClampNeg (pt_ (st_ + (1 : Int32)).toNatClampNeg)), pt_, id_, rfl, N176, K193, C178, C179, C180, C181, C182, C183, C184, C185, B176, C186, C187, C190, C191, g3, g4, nTP, Or.inl rfl, Or.inl rfl, own_lr_ir hN hC3 hcl hz hk LR⟩)
        · intro J171
          by_cases hc194 : (pt_ (st_ + (1 : Int32)).toNatClampNeg).1 < p_.1
          · refine Goes.callP X8 hx hZ 0 hown (ow 66 rfl) (ow 67 rfl) (ow 68 rfl) (ow 1 rfl) (ow 2 rfl) (ow 69 rfl) (by decide) e8 E0 (rmLB2t l Z a0 hw b_ P_ N_ pt_ st_ p_ h0 n0 Z0  E0 F5 A3 hS b0 b1 hc194) (by decide) (by decide) (by decide) (by decide) rfl (by rw [hml]; rfl) (argsL := [(.int st_), (.int (st_ + (2 : Int32))), (.double (dv p_))]) (rest := []) rfl (lenOf pd_3 rfl) rfl (own_le20 rfl) (dc d8_63) ?_
            rintro v195 T195 L195 X195 ⟨rfl, N195q, e195⟩
            have N195 := Fr.app N0 N195q
            show Goes p e below _ T195 (mkF m 66 #[sR b_, sI c_, sD (dv p_), s2, sJ x_, s2, sI 2, sI st_, sI (st_ + (2 : Int32)), su, su] [(.int (st_ + (2 : Int32)))])
            refine Goes.on (T' := T195) (g' := (mkF m 107 #[sR b_, sI c_, sD (dv p_), s2, sJ x_, s2, sI 2, sI st_, sI (st_ + (2 : Int32)), sI (st_ + (2 : Int32)), su] [])) (fun _ k => XS.istore X195.here hx rfl (dc d8_66) rfl (l' := #[sR b_, sI c_, sD (dv p_), s2, sJ x_, s2, sI 2, sI st_, sI (st_ + (2 : Int32)), sI (st_ + (2 : Int32)), su]) rfl (XS.iload X195.here hx rfl (dc d8_68) rfl (XS.iload X195.here hx rfl (dc d8_70) rfl (XS.icmpYes X195.here hx rfl (pc0 := 72) (pc' := 107) rfl (dc d8_72) rfl (XT.ii_ge_t (own_irr _)) (by decide) (by decide) k)))) ?_
            exact J171 (by omega) T195 _ X195 e195 N195
          · by_cases hc196 : (pt_ st_.toNatClampNeg).1 < p_.1
            · refine Goes.callP X8 hx hZ 0 hown (ow 66 rfl) (ow 67 rfl) (ow 68 rfl) (ow 1 rfl) (ow 2 rfl) (ow 69 rfl) (by decide) e8 E0 (rmLB2ft l Z a0 hw b_ P_ N_ pt_ st_ p_ h0 n0 Z0  E0 F5 A3 hS b0 b1 hc194 hc196) (by decide) (by decide) (by decide) (by decide) rfl (by rw [hml]; rfl) (argsL := [(.int st_), (.int (st_ + (2 : Int32))), (.double (dv p_))]) (rest := []) rfl (lenOf pd_3 rfl) rfl (own_le20 rfl) (dc d8_63) ?_
              rintro v197 T197 L197 X197 ⟨rfl, N197q, e197⟩
              have N197 := Fr.app N0 N197q
              show Goes p e below _ T197 (mkF m 66 #[sR b_, sI c_, sD (dv p_), s2, sJ x_, s2, sI 2, sI st_, sI (st_ + (2 : Int32)), su, su] [(.int (st_ + (1 : Int32)))])
              obtain ⟨T198, X198, e198, st198⟩ := getF X197 hx hZ hown (host := "") (Or.inl (ow 46 rfl)) Via.refl e197 F5 (g := (mkF m 76 #[sR b_, sI c_, sD (dv p_), s2, sJ x_, s2, sI 2, sI st_, sI (st_ + (2 : Int32)), sI (st_ + (1 : Int32)), su] [(.ref b_)])) rfl rfl (dc d8_76)
              refine Goes.on (T' := T198) (g' := (mkF m 84 #[sR b_, sI c_, sD (dv p_), s2, sJ x_, s2, sI 2, sI st_, sI (st_ + (2 : Int32)), sI (st_ + (1 : Int32)), su] [(.int (cmpValue (FP.dcmp (dv (pt_ (st_ + (1 : Int32)).toNatClampNeg)) (dv p_)) .l))])) (fun _ k => XS.istore X197.here hx rfl (dc d8_66) rfl (l' := #[sR b_, sI c_, sD (dv p_), s2, sJ x_, s2, sI 2, sI st_, sI (st_ + (2 : Int32)), sI (st_ + (1 : Int32)), su]) rfl (XS.iload X197.here hx rfl (dc d8_68) rfl (XS.iload X197.here hx rfl (dc d8_70) rfl (XS.icmpNo X197.here hx rfl (dc d8_72) rfl (XT.ii_ge_f (own_lt12 hS)) (XS.aloadN X197.here hx rfl (dc d8_75) rfl rfl (st198 _ (XS.iload X198.here hx rfl (dc d8_79) rfl (ldKm X198 hx hZ e198 A3 b1 (dc d8_81) (XS.dloadN X198.here hx rfl (dc d8_82) rfl (XS.dcmpS X198.here hx rfl (dc d8_83) rfl rfl k)))))))))) ?_
              by_cases hc200 : (pt_ (st_ + (1 : Int32)).toNatClampNeg).1 = p_.1
              · obtain ⟨T201, X201, e201, st201⟩ := getF X198 hx hZ hown (host := "") (Or.inl (ow 49 rfl)) Via.refl e198 F6 (g := (mkF m 88 #[sR b_, sI c_, sD (dv p_), s2, sJ x_, s2, sI 2, sI st_, sI (st_ + (2 : Int32)), sI (st_ + (1 : Int32)), su] [(.ref b_)])) rfl rfl (dc d8_88)
                refine Goes.on (T' := T201) (g' := (mkF m 97 #[sR b_, sI c_, sD (dv p_), s2, sJ x_, s2, sI 2, sI st_, sI (st_ + (2 : Int32)), sI (st_ + (1 : Int32)), su] [(.int (XT.cmpL (id_ (st_ + (1 : Int32)).toNatClampNeg) x_))])) (fun _ k => XS.ifNo X198.here hx rfl (dc d8_84) rfl (dd_ne_f hc200) (XS.aloadN X198.here hx rfl (dc d8_87) rfl rfl (st201 _ (XS.iload X201.here hx rfl (dc d8_91) rfl (ldJm X201 hx hZ e201 A4 b1 (dc d8_93) (XS.lload X201.here hx rfl (dc d8_94) rfl (XT.lcmp X201.here hx rfl (dc d8_96) rfl k))))))) ?_
                by_cases hc203 : (id_ (st_ + (1 : Int32)).toNatClampNeg) = x_
                · refine Goes.on (T' := T201) (g' := (mkF m 100 #[sR b_, sI c_, sD (dv p_), s2, sJ x_, s2, sI 2, sI st_, sI (st_ + (2 : Int32)), sI (st_ + (1 : Int32)), su] [])) (fun _ k => XS.ifNo X201.here hx rfl (dc d8_97) rfl (XT.ll_ne_f hc203) k) ?_
                  rw [n1.1] at hc194
                  rw [n1.1] at hc200
                  rw [n1.1] at hc203
                  have O : own_one (2 : Int32) (pt_ st_.toNatClampNeg) (id_ st_.toNatClampNeg) p_ x_ (2 : Int32) (th_ c_.toNatClampNeg) (pt_ st_.toNatClampNeg) (pt_ (st_.toNatClampNeg + 1)) (id_ st_.toNatClampNeg) := by
                    refine ⟨by decide, by decide, ?_, ?_, ?_, ?_⟩
                    · exact fun q => by
                       rcases q with q | q
                       · exact absurd q (by decide)
                       · exfalso; omega
                    · exact fun _ => ⟨rfl, rfl⟩
                    · exact fun _ => by omega
                    · exact fun _ => by omega
                  have Z4 : ((2 : Int32)).toInt ≤ ((2 : Int32).toNatClampNeg : Int) := by
                    have q : ((2 : Int32)).toInt = 2 := rfl
                    omega
                  have LR : own_lr c_.toNatClampNeg st_.toNatClampNeg (2 : Int32).toNatClampNeg sz_ th_ pt_ id_ p_ x_ sz_ th_ pt_ id_ := ⟨fun i hi => ⟨rfl, rfl⟩, fun y hy => ⟨rfl, rfl⟩, own_oc hsz hsz rfl rfl rfl rfl O, by rw [hsz]; exact Z4⟩
                  exact Goes.retV X201 hx hlk hret (dc d8_100) (by decide) (by decide) (by rw [e201]; exact ⟨P_, I_, N_, (2 : Int32), q_, sz_, th_, pt_, id_, rfl, N197, K0, F1, F2, F3, F4, F5, F6, F7, A1, A2, A3, A4, E3, E4, g3, g4, nTP, Or.inl rfl, Or.inl rfl, own_lr_ir hN hC3 hcl hz hk LR⟩)
                · refine Goes.on (T' := T201) (g' := (mkF m 104 #[sR b_, sI c_, sD (dv p_), s2, sJ x_, s2, sI 2, sI st_, sI (st_ + (2 : Int32)), sI ((st_ + (1 : Int32)) + (1 : Int32)), su] [])) (fun _ k => XS.ifYes X201.here hx rfl (pc0 := 97) (pc' := 101) rfl (dc d8_97) rfl (XT.ll_ne_t hc203) (by decide) (by decide) (XT.iincV X201.here hx rfl (1 : Int32) (dc d8_101) (by decide) rfl (l' := #[sR b_, sI c_, sD (dv p_), s2, sJ x_, s2, sI 2, sI st_, sI (st_ + (2 : Int32)), sI ((st_ + (1 : Int32)) + (1 : Int32)), su]) rfl k)) ?_
                  rw [own_a11 hS]
                  refine Goes.on (T' := T201) (g' := (mkF m 107 #[sR b_, sI c_, sD (dv p_), s2, sJ x_, s2, sI 2, sI st_, sI (st_ + (2 : Int32)), sI (st_ + (2 : Int32)), su] [])) (fun _ k => XS.goto X201.here hx rfl (pc0 := 104) (pc' := 68) rfl (dc d8_104) (by decide) (by decide) (XS.iload X201.here hx rfl (dc d8_68) rfl (XS.iload X201.here hx rfl (dc d8_70) rfl (XS.icmpYes X201.here hx rfl (pc0 := 72) (pc' := 107) rfl (dc d8_72) rfl (XT.ii_ge_t (own_irr _)) (by decide) (by decide) k)))) ?_
                  exact J171 (by omega) T201 _ X201 e201 N197
              · refine Goes.on (T' := T198) (g' := (mkF m 107 #[sR b_, sI c_, sD (dv p_), s2, sJ x_, s2, sI 2, sI st_, sI (st_ + (2 : Int32)), sI (st_ + (1 : Int32)), su] [])) (fun _ k => XS.ifYes X198.here hx rfl (pc0 := 84) (pc' := 107) rfl (dc d8_84) rfl (dd_ne_t hc200) (by decide) (by decide) k) ?_
                exact J90 (by omega) T198 _ X198 e198 N197
            · refine Goes.callP X8 hx hZ 0 hown (ow 66 rfl) (ow 67 rfl) (ow 68 rfl) (ow 1 rfl) (ow 2 rfl) (ow 69 rfl) (by decide) e8 E0 (rmLB2ff l Z a0 hw b_ P_ N_ pt_ st_ p_ h0 n0 Z0  E0 F5 A3 hS b0 b1 hc194 hc196) (by decide) (by decide) (by decide) (by decide) rfl (by rw [hml]; rfl) (argsL := [(.int st_), (.int (st_ + (2 : Int32))), (.double (dv p_))]) (rest := []) rfl (lenOf pd_3 rfl) rfl (own_le20 rfl) (dc d8_63) ?_
              rintro v204 T204 L204 X204 ⟨rfl, N204q, e204⟩
              have N204 := Fr.app N0 N204q
              show Goes p e below _ T204 (mkF m 66 #[sR b_, sI c_, sD (dv p_), s2, sJ x_, s2, sI 2, sI st_, sI (st_ + (2 : Int32)), su, su] [(.int st_)])
              obtain ⟨T205, X205, e205, st205⟩ := getF X204 hx hZ hown (host := "") (Or.inl (ow 46 rfl)) Via.refl e204 F5 (g := (mkF m 76 #[sR b_, sI c_, sD (dv p_), s2, sJ x_, s2, sI 2, sI st_, sI (st_ + (2 : Int32)), sI st_, su] [(.ref b_)])) rfl rfl (dc d8_76)
              refine Goes.on (T' := T205) (g' := (mkF m 84 #[sR b_, sI c_, sD (dv p_), s2, sJ x_, s2, sI 2, sI st_, sI (st_ + (2 : Int32)), sI st_, su] [(.int (cmpValue (FP.dcmp (dv (pt_ st_.toNatClampNeg)) (dv p_)) .l))])) (fun _ k => XS.istore X204.here hx rfl (dc d8_66) rfl (l' := #[sR b_, sI c_, sD (dv p_), s2, sJ x_, s2, sI 2, sI st_, sI (st_ + (2 : Int32)), sI st_, su]) rfl (XS.iload X204.here hx rfl (dc d8_68) rfl (XS.iload X204.here hx rfl (dc d8_70) rfl (XS.icmpNo X204.here hx rfl (dc d8_72) rfl (XT.ii_ge_f (own_lt02 hS)) (XS.aloadN X204.here hx rfl (dc d8_75) rfl rfl (st205 _ (XS.iload X205.here hx rfl (dc d8_79) rfl (ldKm X205 hx hZ e205 A3 b0 (dc d8_81) (XS.dloadN X205.here hx rfl (dc d8_82) rfl (XS.dcmpS X205.here hx rfl (dc d8_83) rfl rfl k)))))))))) ?_
              by_cases hc207 : (pt_ st_.toNatClampNeg).1 = p_.1
              · obtain ⟨T208, X208, e208, st208⟩ := getF X205 hx hZ hown (host := "") (Or.inl (ow 49 rfl)) Via.refl e205 F6 (g := (mkF m 88 #[sR b_, sI c_, sD (dv p_), s2, sJ x_, s2, sI 2, sI st_, sI (st_ + (2 : Int32)), sI st_, su] [(.ref b_)])) rfl rfl (dc d8_88)
                refine Goes.on (T' := T208) (g' := (mkF m 97 #[sR b_, sI c_, sD (dv p_), s2, sJ x_, s2, sI 2, sI st_, sI (st_ + (2 : Int32)), sI st_, su] [(.int (XT.cmpL (id_ st_.toNatClampNeg) x_))])) (fun _ k => XS.ifNo X205.here hx rfl (dc d8_84) rfl (dd_ne_f hc207) (XS.aloadN X205.here hx rfl (dc d8_87) rfl rfl (st208 _ (XS.iload X208.here hx rfl (dc d8_91) rfl (ldJm X208 hx hZ e208 A4 b0 (dc d8_93) (XS.lload X208.here hx rfl (dc d8_94) rfl (XT.lcmp X208.here hx rfl (dc d8_96) rfl k))))))) ?_
                by_cases hc210 : (id_ st_.toNatClampNeg) = x_
                · refine Goes.on (T' := T208) (g' := (mkF m 100 #[sR b_, sI c_, sD (dv p_), s2, sJ x_, s2, sI 2, sI st_, sI (st_ + (2 : Int32)), sI st_, su] [])) (fun _ k => XS.ifNo X208.here hx rfl (dc d8_97) rfl (XT.ll_ne_f hc210) k) ?_
                  rw [n1.1] at hc194
                  have O : own_one (2 : Int32) (pt_ st_.toNatClampNeg) (id_ st_.toNatClampNeg) p_ x_ (2 : Int32) (th_ c_.toNatClampNeg) (pt_ st_.toNatClampNeg) (pt_ (st_.toNatClampNeg + 1)) (id_ st_.toNatClampNeg) := by
                    refine ⟨by decide, by decide, ?_, ?_, ?_, ?_⟩
                    · exact fun q => by
                       rcases q with q | q
                       · exact absurd q (by decide)
                       · exfalso; omega
                    · exact fun _ => ⟨rfl, rfl⟩
                    · exact fun _ => by omega
                    · exact fun _ => by omega
                  have Z4 : ((2 : Int32)).toInt ≤ ((2 : Int32).toNatClampNeg : Int) := by
                    have q : ((2 : Int32)).toInt = 2 := rfl
                    omega
                  have LR : own_lr c_.toNatClampNeg st_.toNatClampNeg (2 : Int32).toNatClampNeg sz_ th_ pt_ id_ p_ x_ sz_ th_ pt_ id_ := ⟨fun i hi => ⟨rfl, rfl⟩, fun y hy => ⟨rfl, rfl⟩, own_oc hsz hsz rfl rfl rfl rfl O, by rw [hsz]; exact Z4⟩
                  exact Goes.retV X208 hx hlk hret (dc d8_100) (by decide) (by decide) (by rw [e208]; exact ⟨P_, I_, N_, (2 : Int32), q_, sz_, th_, pt_, id_, rfl, N204, K0, F1, F2, F3, F4, F5, F6, F7, A1, A2, A3, A4, E3, E4, g3, g4, nTP, Or.inl rfl, Or.inl rfl, own_lr_ir hN hC3 hcl hz hk LR⟩)
                · obtain ⟨T211, X211, e211, st211⟩ := getF X208 hx hZ hown (host := "") (Or.inl (ow 46 rfl)) Via.refl e208 F5 (g := (mkF m 76 #[sR b_, sI c_, sD (dv p_), s2, sJ x_, s2, sI 2, sI st_, sI (st_ + (2 : Int32)), sI (st_ + (1 : Int32)), su] [(.ref b_)])) rfl rfl (dc d8_76)
                  refine Goes.on (T' := T211) (g' := (mkF m 84 #[sR b_, sI c_, sD (dv p_), s2, sJ x_, s2, sI 2, sI st_, sI (st_ + (2 : Int32)), sI (st_ + (1 : Int32)), su] [(.int (cmpValue (FP.dcmp (dv (pt_ (st_ + (1 : Int32)).toNatClampNeg)) (dv p_)) .l))])) (fun _ k => XS.ifYes X208.here hx rfl (pc0 := 97) (pc' := 101) rfl (dc d8_97) rfl (XT.ll_ne_t hc210) (by decide) (by decide) (XT.iincV X208.here hx rfl (1 : Int32) (dc d8_101) (by decide) rfl (l' := #[sR b_, sI c_, sD (dv p_), s2, sJ x_, s2, sI 2, sI st_, sI (st_ + (2 : Int32)), sI (st_ + (1 : Int32)), su]) rfl (XS.goto X208.here hx rfl (pc0 := 104) (pc' := 68) rfl (dc d8_104) (by decide) (by decide) (XS.iload X208.here hx rfl (dc d8_68) rfl (XS.iload X208.here hx rfl (dc d8_70) rfl (XS.icmpNo X208.here hx rfl (dc d8_72) rfl (XT.ii_ge_f (own_lt12 hS)) (XS.aloadN X208.here hx rfl (dc d8_75) rfl rfl (st211 _ (XS.iload X211.here hx rfl (dc d8_79) rfl (ldKm X211 hx hZ e211 A3 b1 (dc d8_81) (XS.dloadN X211.here hx rfl (dc d8_82) rfl (XS.dcmpS X211.here hx rfl (dc d8_83) rfl rfl k)))))))))))) ?_
                  by_cases hc213 : (pt_ (st_ + (1 : Int32)).toNatClampNeg).1 = p_.1
                  · obtain ⟨T214, X214, e214, st214⟩ := getF X211 hx hZ hown (host := "") (Or.inl (ow 49 rfl)) Via.refl e211 F6 (g := (mkF m 88 #[sR b_, sI c_, sD (dv p_), s2, sJ x_, s2, sI 2, sI st_, sI (st_ + (2 : Int32)), sI (st_ + (1 : Int32)), su] [(.ref b_)])) rfl rfl (dc d8_88)
                    refine Goes.on (T' := T214) (g' := (mkF m 97 #[sR b_, sI c_, sD (dv p_), s2, sJ x_, s2, sI 2, sI st_, sI (st_ + (2 : Int32)), sI (st_ + (1 : Int32)), su] [(.int (XT.cmpL (id_ (st_ + (1 : Int32)).toNatClampNeg) x_))])) (fun _ k => XS.ifNo X211.here hx rfl (dc d8_84) rfl (dd_ne_f hc213) (XS.aloadN X211.here hx rfl (dc d8_87) rfl rfl (st214 _ (XS.iload X214.here hx rfl (dc d8_91) rfl (ldJm X214 hx hZ e214 A4 b1 (dc d8_93) (XS.lload X214.here hx rfl (dc d8_94) rfl (XT.lcmp X214.here hx rfl (dc d8_96) rfl k))))))) ?_
                    by_cases hc216 : (id_ (st_ + (1 : Int32)).toNatClampNeg) = x_
                    · refine Goes.on (T' := T214) (g' := (mkF m 100 #[sR b_, sI c_, sD (dv p_), s2, sJ x_, s2, sI 2, sI st_, sI (st_ + (2 : Int32)), sI (st_ + (1 : Int32)), su] [])) (fun _ k => XS.ifNo X214.here hx rfl (dc d8_97) rfl (XT.ll_ne_f hc216) k) ?_
                      rw [n1.1] at hc194
                      rw [n1.1] at hc213
                      rw [n1.1] at hc216
                      have O : own_one (2 : Int32) (pt_ st_.toNatClampNeg) (id_ st_.toNatClampNeg) p_ x_ (2 : Int32) (th_ c_.toNatClampNeg) (pt_ st_.toNatClampNeg) (pt_ (st_.toNatClampNeg + 1)) (id_ st_.toNatClampNeg) := by
                        refine ⟨by decide, by decide, ?_, ?_, ?_, ?_⟩
                        · exact fun q => by
                           rcases q with q | q
                           · exact absurd q (by decide)
                           · exfalso; omega
                        · exact fun _ => ⟨rfl, rfl⟩
                        · exact fun _ => by omega
                        · exact fun _ => by omega
                      have Z4 : ((2 : Int32)).toInt ≤ ((2 : Int32).toNatClampNeg : Int) := by
                        have q : ((2 : Int32)).toInt = 2 := rfl
                        omega
                      have LR : own_lr c_.toNatClampNeg st_.toNatClampNeg (2 : Int32).toNatClampNeg sz_ th_ pt_ id_ p_ x_ sz_ th_ pt_ id_ := ⟨fun i hi => ⟨rfl, rfl⟩, fun y hy => ⟨rfl, rfl⟩, own_oc hsz hsz rfl rfl rfl rfl O, by rw [hsz]; exact Z4⟩
                      exact Goes.retV X214 hx hlk hret (dc d8_100) (by decide) (by decide) (by rw [e214]; exact ⟨P_, I_, N_, (2 : Int32), q_, sz_, th_, pt_, id_, rfl, N204, K0, F1, F2, F3, F4, F5, F6, F7, A1, A2, A3, A4, E3, E4, g3, g4, nTP, Or.inl rfl, Or.inl rfl, own_lr_ir hN hC3 hcl hz hk LR⟩)
                    · refine Goes.on (T' := T214) (g' := (mkF m 104 #[sR b_, sI c_, sD (dv p_), s2, sJ x_, s2, sI 2, sI st_, sI (st_ + (2 : Int32)), sI ((st_ + (1 : Int32)) + (1 : Int32)), su] [])) (fun _ k => XS.ifYes X214.here hx rfl (pc0 := 97) (pc' := 101) rfl (dc d8_97) rfl (XT.ll_ne_t hc216) (by decide) (by decide) (XT.iincV X214.here hx rfl (1 : Int32) (dc d8_101) (by decide) rfl (l' := #[sR b_, sI c_, sD (dv p_), s2, sJ x_, s2, sI 2, sI st_, sI (st_ + (2 : Int32)), sI ((st_ + (1 : Int32)) + (1 : Int32)), su]) rfl k)) ?_
                      rw [own_a11 hS]
                      refine Goes.on (T' := T214) (g' := (mkF m 107 #[sR b_, sI c_, sD (dv p_), s2, sJ x_, s2, sI 2, sI st_, sI (st_ + (2 : Int32)), sI (st_ + (2 : Int32)), su] [])) (fun _ k => XS.goto X214.here hx rfl (pc0 := 104) (pc' := 68) rfl (dc d8_104) (by decide) (by decide) (XS.iload X214.here hx rfl (dc d8_68) rfl (XS.iload X214.here hx rfl (dc d8_70) rfl (XS.icmpYes X214.here hx rfl (pc0 := 72) (pc' := 107) rfl (dc d8_72) rfl (XT.ii_ge_t (own_irr _)) (by decide) (by decide) k)))) ?_
                      exact J171 (by omega) T214 _ X214 e214 N204
                  · refine Goes.on (T' := T211) (g' := (mkF m 107 #[sR b_, sI c_, sD (dv p_), s2, sJ x_, s2, sI 2, sI st_, sI (st_ + (2 : Int32)), sI (st_ + (1 : Int32)), su] [])) (fun _ k => XS.ifYes X211.here hx rfl (pc0 := 84) (pc' := 107) rfl (dc d8_84) rfl (dd_ne_t hc213) (by decide) (by decide) k) ?_
                    exact J90 (by omega) T211 _ X211 e211 N204
              · refine Goes.on (T' := T205) (g' := (mkF m 107 #[sR b_, sI c_, sD (dv p_), s2, sJ x_, s2, sI 2, sI st_, sI (st_ + (2 : Int32)), sI st_, su] [])) (fun _ k => XS.ifYes X205.here hx rfl (pc0 := 84) (pc' := 107) rfl (dc d8_84) rfl (dd_ne_t hc207) (by decide) (by decide) k) ?_
                exact J9 (by omega) T205 _ X205 e205 N204
theorem rmI2g (l : Launch) (Z : State) (a0 : Array Value) (hw : TW Z a0) (b_ S_ T_ P_ I_ : Addr) (M_ N_ : Nat) (c_  q_ : Int32) (sz_ : Nat → Int32) (th_ pt_ : Nat → DK) (id_ : Nat → Int64) (p_ : DK) (x_ : Int64) (h0 : Heap) (n0 : Nat) (Z0 : n0 ≤ h0.size) (E0 : Exa Z h0 b_ "com/example/boceto/boceto/signature/ComponentBuffers") (F1 : Fld Z h0 b_ "com/example/boceto/boceto/signature/ComponentBuffers" "_bufferSize" "I" (.int (3 : Int32))) (F2 : Fld Z h0 b_ "com/example/boceto/boceto/signature/ComponentBuffers" "_sizes" "[I" (.ref S_)) (F3 : Fld Z h0 b_ "com/example/boceto/boceto/signature/ComponentBuffers" "_thresholds" "[D" (.ref T_)) (F4 : Fld Z h0 b_ "com/example/boceto/boceto/signature/ComponentBuffers" "_capacity" "I" (.int (2 : Int32))) (F5 : Fld Z h0 b_ "com/example/boceto/boceto/signature/ComponentBuffers" "_points" "[D" (.ref P_)) (F6 : Fld Z h0 b_ "com/example/boceto/boceto/signature/ComponentBuffers" "_identities" "[J" (.ref I_)) (F7 : Fld Z h0 b_ "com/example/boceto/boceto/signature/ComponentBuffers" "_pointCount" "I" (.int q_)) (A1 : Arf Z h0 S_ .int Value.int M_ sz_) (A2 : Arf Z h0 T_ .double vD M_ th_) (A3 : Arf Z h0 P_ .double vD N_ pt_) (A4 : Arf Z h0 I_ .long Value.long N_ id_) (E1 : Exa Z h0 S_ "[I") (E2 : Exa Z h0 T_ "[D") (E3 : Exa Z h0 P_ "[D") (E4 : Exa Z h0 I_ "[J") (nTP : T_ ≠ P_) (g0 : n0 ≤ b_) (g1 : n0 ≤ S_) (g2 : n0 ≤ T_) (g3 : n0 ≤ P_) (g4 : n0 ≤ I_) (hc : ¬ c_ < 0 ∧ c_.toNatClampNeg < M_) (hcc : c_ = (0 : Int32) ∨ c_ = (1 : Int32) ∨ c_ = (2 : Int32)) (hM : M_ = 1 ∨ M_ = 2 ∨ M_ = 3) (hN : N_ = M_ * (2 : Int32).toNatClampNeg) (hcl : (2 : Int32).toInt ≤ (3 : Int32).toInt) (hz : ∀ i, i < M_ → 0 ≤ (sz_ i).toInt ∧ (sz_ i).toInt ≤ (2 : Int32).toInt) (hsz : sz_ c_.toNatClampNeg = (2 : Int32)) (hpt : (pt_ (c_.toNatClampNeg * (2 : Int32).toNatClampNeg)).1 ≤ (th_ c_.toNatClampNeg).1) (hso : (pt_ (c_.toNatClampNeg * (2 : Int32).toNatClampNeg)).1 ≤ (pt_ (c_.toNatClampNeg * (2 : Int32).toNatClampNeg + 1)).1) :
    Pays l Z (⟨"com/example/boceto/boceto/signature/ComponentBuffers", "insert", "(IDJ)V"⟩ : MethodName) prog_28_method_6_code 11 none [] ({ frames := 2, cells := 2, slots := 18, locals := 60 } : Room) #[(.ref b_), (.int c_), (.double (dv p_)), (.long x_)] h0 (fun v h L => ∃ (P2 I2 : Addr) (N2 : Nat) (cp2 q2 : Int32) (sz2 : Nat → Int32) (th2 pt2 : Nat → DK) (id2 : Nat → Int64), v = none ∧ Fr n0 L ∧ Keep h0 h [b_, S_, T_, P_, I_] ∧ Fld Z h b_ "com/example/boceto/boceto/signature/ComponentBuffers" "_bufferSize" "I" (.int (3 : Int32)) ∧ Fld Z h b_ "com/example/boceto/boceto/signature/ComponentBuffers" "_sizes" "[I" (.ref S_) ∧ Fld Z h b_ "com/example/boceto/boceto/signature/ComponentBuffers" "_thresholds" "[D" (.ref T_) ∧ Fld Z h b_ "com/example/boceto/boceto/signature/ComponentBuffers" "_capacity" "I" (.int cp2) ∧ Fld Z h b_ "com/example/boceto/boceto/signature/ComponentBuffers" "_points" "[D" (.ref P2) ∧ Fld Z h b_ "com/example/boceto/boceto/signature/ComponentBuffers" "_identities" "[J" (.ref I2) ∧ Fld Z h b_ "com/example/boceto/boceto/signature/ComponentBuffers" "_pointCount" "I" (.int q2) ∧ Arf Z h S_ .int Value.int M_ sz2 ∧ Arf Z h T_ .double vD M_ th2 ∧ Arf Z h P2 .double vD N2 pt2 ∧ Arf Z h I2 .long Value.long N2 id2 ∧ Exa Z h P2 "[D" ∧ Exa Z h I2 "[J" ∧ n0 ≤ P2 ∧ n0 ≤ I2 ∧ T_ ≠ P2 ∧ (I2 = I_ ∨ h0.size ≤ I2) ∧ (P2 = P_ ∨ h0.size ≤ P2) ∧ own_ir M_ c_.toNatClampNeg (2 : Int32) (3 : Int32) sz_ th_ pt_ id_ p_ x_ cp2 N2 sz2 th2 pt2 id2) := by
  refine Pays.walk (plainFor_of_name pn_3) (fun m => ef_6 m b_ c_ (dv p_) x_ ) ?_
  intro p e s m below meth c T0 X0 hx hby hml hown hnm hZ e0 hret hlk
  have dc := @Jvm.hb _ _ hby
  have ow := @own_w Z a0 hw
  have N0 := Fr.nil n0
  have ebS : b_ ≠ S_ := ne_exa E0 E1 (by decide)
  have ebT : b_ ≠ T_ := ne_exa E0 E2 (by decide)
  have ebP : b_ ≠ P_ := ne_exa E0 E3 (by decide)
  have ebI : b_ ≠ I_ := ne_exa E0 E4 (by decide)
  have eST : S_ ≠ T_ := ne_exa E1 E2 (by decide)
  have eSP : S_ ≠ P_ := ne_exa E1 E3 (by decide)
  have eSI : S_ ≠ I_ := ne_exa E1 E4 (by decide)
  have eTI : T_ ≠ I_ := ne_exa E2 E4 (by decide)
  have ePI : P_ ≠ I_ := ne_exa E3 E4 (by decide)
  have K0 := Keep.refl h0 [b_, S_, T_, P_, I_]
  have hC3 : (3 : Int32) = (1 : Int32) ∨ (3 : Int32) = (2 : Int32) ∨ (3 : Int32) = (3 : Int32) := (by decide)
  obtain ⟨st_, hst⟩ : ∃ z, c_ * (3 : Int32) = z := ⟨_, rfl⟩
  have hq := own_cs hcc hC3
  rw [hst] at hq
  obtain ⟨hq1, hq2, hk, hq3⟩ := hq
  have hS : 0 ≤ st_.toInt ∧ st_.toInt ≤ 8 := ⟨hq1, hq2⟩
  have hcn : 3 ≤ (3 : Int32).toNatClampNeg := by decide
  have hNN : (M_ * 3) = M_ * (3 : Int32).toNatClampNeg := rfl
  have hNb : (M_ * 3) < 2 ^ 31 := own_nb hM (own_cpn hC3).2.2 hNN
  have B0 := own_b0 (d := 0) hk hc.2 hNN (by omega)
  have B1 := own_b0 (d := 1) hk hc.2 hNN (by omega)
  have B2 := own_b0 (d := 2) hk hc.2 hNN (by omega)
  have b0 : ¬ st_ < 0 ∧ st_.toNatClampNeg < (M_ * 3) := ⟨hq3, B0⟩
  have n1 := own_n1 hS
  have b1 : ¬ (st_ + (1 : Int32)) < 0 ∧ (st_ + (1 : Int32)).toNatClampNeg < (M_ * 3) := ⟨n1.2, by rw [n1.1]; exact B1⟩
  have n2 := own_n2 hS
  have b2 : ¬ (st_ + (2 : Int32)) < 0 ∧ (st_ + (2 : Int32)).toNatClampNeg < (M_ * 3) := ⟨n2.2, by rw [n2.1]; exact B2⟩
  have hzz : ∀ i, i < M_ → ¬ sz_ i < 0 ∧ (sz_ i).toNatClampNeg ≤ 2 := fun i hi => own_szn (hz i hi)
  obtain ⟨T1, X1, e1, st1⟩ := getF X0 hx hZ hown (host := "") (Or.inl (ow 37 rfl)) Via.refl e0 F3 (g := (mkF m 2 #[sR b_, sI c_, sD (dv p_), s2, sJ x_, s2, su, su, su, su, su] [(.ref b_), (.double (dv p_))])) rfl rfl (dc d8_2)
  refine Goes.on (T' := T1) (g' := (mkF m 8 #[sR b_, sI c_, sD (dv p_), s2, sJ x_, s2, su, su, su, su, su] [(.int (cmpValue (FP.dcmp (dv p_) (dv (th_ c_.toNatClampNeg))) .l))])) (fun _ k => XS.dloadN X0.here hx rfl (dc d8_0) rfl (XS.aloadN X0.here hx rfl (dc d8_1) rfl rfl (st1 _ (XS.iloadN X1.here hx rfl (dc d8_5) rfl (ldKm X1 hx hZ e1 A2 hc (dc d8_6) (XS.dcmpS X1.here hx rfl (dc d8_7) rfl rfl k)))))) ?_
  by_cases hc3 : (th_ c_.toNatClampNeg).1 < p_.1
  · have O : own_one (2 : Int32) (pt_ (c_.toNatClampNeg * (2 : Int32).toNatClampNeg)) (id_ (c_.toNatClampNeg * (2 : Int32).toNatClampNeg)) p_ x_ (2 : Int32) (th_ c_.toNatClampNeg) (pt_ (c_.toNatClampNeg * (2 : Int32).toNatClampNeg)) (pt_ (c_.toNatClampNeg * (2 : Int32).toNatClampNeg + 1)) (id_ (c_.toNatClampNeg * (2 : Int32).toNatClampNeg)) := by
      refine ⟨by decide, by decide, ?_, ?_, ?_, ?_⟩
      · intro q
        rcases q with q | q
        · exact absurd q (by decide)
        · exfalso; omega
      · exact fun _ => ⟨rfl, rfl⟩
      · exact fun _ => hpt
      · exact fun _ => hso
    have LRX : own_lr c_.toNatClampNeg (c_.toNatClampNeg * (2 : Int32).toNatClampNeg) (2 : Int32).toNatClampNeg sz_ th_ pt_ id_ p_ x_ sz_ th_ pt_ id_ := ⟨fun i hi => ⟨rfl, rfl⟩, fun y hy => ⟨rfl, rfl⟩, own_oc hsz hsz rfl rfl rfl rfl O, by rw [hsz]; decide⟩
    refine Goes.on (T' := T1) (g' := (mkF m 11 #[sR b_, sI c_, sD (dv p_), s2, sJ x_, s2, su, su, su, su, su] [])) (fun _ k => XS.ifNo X1.here hx rfl (dc d8_8) rfl (dd_le_f hc3) k) ?_
    exact Goes.retV X1 hx hlk hret (dc d8_11) (by decide) (by decide) (by rw [e1]; exact ⟨P_, I_, N_, (2 : Int32), q_, sz_, th_, pt_, id_, rfl, N0, K0, F1, F2, F3, F4, F5, F6, F7, A1, A2, A3, A4, E3, E4, g3, g4, nTP, Or.inl rfl, Or.inl rfl, own_lr_ir hN (by decide) hcl hz rfl LRX⟩)
  · obtain ⟨T4, X4, e4, st4⟩ := getF X1 hx hZ hown (host := "") (Or.inl (ow 34 rfl)) Via.refl e1 F2 (g := (mkF m 13 #[sR b_, sI c_, sD (dv p_), s2, sJ x_, s2, su, su, su, su, su] [(.ref b_)])) rfl rfl (dc d8_13)
    refine Goes.on (T' := T4) (g' := (mkF m 18 #[sR b_, sI c_, sD (dv p_), s2, sJ x_, s2, su, su, su, su, su] [(.int (sz_ c_.toNatClampNeg))])) (fun _ k => XS.ifYes X1.here hx rfl (pc0 := 8) (pc' := 12) rfl (dc d8_8) rfl (dd_le_t hc3) (by decide) (by decide) (XS.aloadN X1.here hx rfl (dc d8_12) rfl rfl (st4 _ (XS.iloadN X4.here hx rfl (dc d8_16) rfl (ldIm X4 hx hZ e4 A1 hc (dc d8_17) k))))) ?_
    rw [hsz]
    obtain ⟨T6, X6, e6, st6⟩ := getF X4 hx hZ hown (host := "") (Or.inl (ow 44 rfl)) Via.refl e4 F4 (g := (mkF m 23 #[sR b_, sI c_, sD (dv p_), s2, sJ x_, s2, sI 2, su, su, su, su] [(.ref b_), (.int 2)])) rfl rfl (dc d8_23)
    obtain ⟨T7, X7, e7, st7⟩ := getF X6 hx hZ hown (host := "") (Or.inl (ow 31 rfl)) Via.refl e6 F1 (g := (mkF m 32 #[sR b_, sI c_, sD (dv p_), s2, sJ x_, s2, sI 2, su, su, su, su] [(.ref b_), (.int 2)])) rfl rfl (dc d8_32)
    have hN2 : N_ = M_ * 2 := hN
    refine Goes.on (T' := T7) (g' := (mkF m 39 #[sR b_, sI c_, sD (dv p_), s2, sJ x_, s2, sI 2, su, su, su, su] [(.ref b_)])) (fun _ k => XS.istore X4.here hx rfl (dc d8_18) rfl (l' := #[sR b_, sI c_, sD (dv p_), s2, sJ x_, s2, sI 2, su, su, su, su]) rfl (XS.iload X4.here hx rfl (dc d8_20) rfl (XS.aloadN X4.here hx rfl (dc d8_22) rfl rfl (st6 _ (XS.icmpNo X6.here hx rfl (dc d8_26) rfl (XT.ii_ne_f (by decide)) (XS.iload X6.here hx rfl (dc d8_29) rfl (XS.aloadN X6.here hx rfl (dc d8_31) rfl rfl (st7 _ (XS.icmpNo X7.here hx rfl (dc d8_35) rfl (XT.ii_ge_f (by decide)) (XS.aloadN X7.here hx rfl (dc d8_38) rfl rfl k)))))))))) ?_
    subst hN2
    refine Goes.callP X7 hx hZ 0 hown (ow 80 rfl) (ow 81 rfl) (ow 82 rfl) (ow 1 rfl) (ow 2 rfl) (ow 83 rfl) (by decide) e7 E0 (rmGr2 l Z a0 hw M_ b_ S_ T_ P_ I_ (3 : Int32) q_ sz_ pt_ id_ h0 n0 Z0  E0 F1 F2 F4 F5 F6 F3 F7 A1 A3 A4 ebS ebP ebI g0 rfl hzz hM) (by decide) (by decide) (by decide) (by decide) rfl (by rw [hml]; rfl) (argsL := []) (rest := []) rfl (lenOf pd_5 rfl) rfl (own_le20 rfl) (dc d8_39) ?_
    rintro v8 T8 L8 X8 ⟨ya8, yb8, ptg_8, idg_8, rfl, N8q, K8, P8_0, P8_1, P8_2, P8_3, P8_4, P8_5, P8_6, P8_7, P8_8, P8_9, P8_10, P8_11, M8_0, M8_1, D8_0, R8_0, R8_1⟩
    have N8 := Fr.app N0 N8q
    show Goes p e below _ T8 (mkF m 42 #[sR b_, sI c_, sD (dv p_), s2, sJ x_, s2, sI 2, su, su, su, su] [])
    have ne9 := own_neL E0.lt M8_0
    have ne10 := own_neL A1.lt M8_0
    have ne11 := own_neL A2.lt M8_0
    have G14 : n0 ≤ ya8 := Nat.le_trans Z0 M8_0
    have M15 : h0.size ≤ ya8 := Nat.le_trans K0.1 M8_0
    have ne16 := own_neL E0.lt M8_1
    have ne17 := own_neL A1.lt M8_1
    have ne18 := own_neL A2.lt M8_1
    have G21 : n0 ≤ yb8 := Nat.le_trans Z0 M8_1
    have M22 : h0.size ≤ yb8 := Nat.le_trans K0.1 M8_1
    have C24 := A1.keep K8 (ninS ebS.symm nin0)
    have C25 := A2.keep K8 (ninS ebT.symm nin0)
    have Z32 := Nat.le_trans Z0 K8.1
    have K33 := K0.trans K8 (allS (Or.inl (List.mem_of_getElem? (i := 0) rfl)) all0)
    have hpos : ∀ d, d < 2 → d < (sz_ c_.toNatClampNeg).toNatClampNeg := fun d hd => by rw [hsz]; exact hd
    have hg0 : ptg_8 st_.toNatClampNeg = pt_ (c_.toNatClampNeg * 2) := by rw [hk]; exact R8_0 _ hc.2 0 (hpos 0 (by decide))
    have hg1 : ptg_8 (st_.toNatClampNeg + 1) = pt_ (c_.toNatClampNeg * 2 + 1) := by rw [hk]; exact R8_0 _ hc.2 1 (hpos 1 (by decide))
    have hP0 : (ptg_8 st_.toNatClampNeg).1 ≤ (th_ c_.toNatClampNeg).1 := by rw [hg0]; exact hpt
    have hP1 : (ptg_8 st_.toNatClampNeg).1 ≤ (ptg_8 (st_.toNatClampNeg + 1)).1 := by rw [hg0, hg1]; exact hso
    obtain ⟨T34, X34, e34, st34⟩ := getF X8 hx hZ hown (host := "") (Or.inl (ow 44 rfl)) Via.refl rfl P8_3 (g := (mkF m 44 #[sR b_, sI c_, sD (dv p_), s2, sJ x_, s2, sI 2, su, su, su, su] [(.ref b_), (.int c_)])) rfl rfl (dc d8_44)
    refine Goes.on (T' := T34) (g' := (mkF m 48 #[sR b_, sI c_, sD (dv p_), s2, sJ x_, s2, sI 2, su, su, su, su] [(.int (c_ * (3 : Int32)))])) (fun _ k => XS.iloadN X8.here hx rfl (dc d8_42) rfl (XS.aloadN X8.here hx rfl (dc d8_43) rfl rfl (st34 _ (XS.imul X34.here hx rfl (dc d8_47) rfl k)))) ?_
    rw [hst]
    have hP2 : (ptg_8 st_.toNatClampNeg).1 ≤ (ptg_8 (st_ + (1 : Int32)).toNatClampNeg).1 := by rw [n1.1]; exact hP1
    refine Goes.on (T' := T34) (g' := (mkF m 63 #[sR b_, sI c_, sD (dv p_), s2, sJ x_, s2, sI 2, sI st_, sI (st_ + (2 : Int32)), su, su] [(.double (dv p_)), (.int (st_ + (2 : Int32))), (.int st_), (.ref b_)])) (fun _ k => XS.istore X34.here hx rfl (dc d8_48) rfl (l' := #[sR b_, sI c_, sD (dv p_), s2, sJ x_, s2, sI 2, sI st_, su, su, su]) rfl (XS.iload X34.here hx rfl (dc d8_50) rfl (XS.iload X34.here hx rfl (dc d8_52) rfl (XS.iadd X34.here hx rfl (dc d8_54) rfl (XS.istore X34.here hx rfl (dc d8_55) rfl (l' := #[sR b_, sI c_, sD (dv p_), s2, sJ x_, s2, sI 2, sI st_, sI (st_ + (2 : Int32)), su, su]) rfl (XS.aloadN X34.here hx rfl (dc d8_57) rfl rfl (XS.iload X34.here hx rfl (dc d8_58) rfl (XS.iload X34.here hx rfl (dc d8_60) rfl (XS.dloadN X34.here hx rfl (dc d8_62) rfl k))))))))) ?_
    refine Goes.joinA X34 (h := T8.heap) (n0 := n0) (C := p_.1 < (ptg_8 st_.toNatClampNeg).1) (fr := (mkF m 107 #[sR b_, sI c_, sD (dv p_), s2, sJ x_, s2, sI 2, sI st_, sI (st_ + (2 : Int32)), sI st_, su] [])) ?_ ?_
    · intro hA T35 L35 X35 e35 N35
      obtain ⟨T36, X36, e36, st36⟩ := getF X35 hx hZ hown (host := "") (Or.inl (ow 31 rfl)) Via.refl e35 P8_1 (g := (mkF m 110 #[sR b_, sI c_, sD (dv p_), s2, sJ x_, s2, sI 2, sI st_, sI (st_ + (2 : Int32)), sI st_, su] [(.ref b_), (.int 2)])) rfl rfl (dc d8_110)
      refine Goes.on (T' := T36) (g' := (mkF m 175 #[sR b_, sI c_, sD (dv p_), s2, sJ x_, s2, sI 2, sI st_, sI (st_ + (2 : Int32)), sI st_, su] [(.int (st_ + (2 : Int32))), (.int st_), (.ref b_)])) (fun _ k => XS.iload X35.here hx rfl (dc d8_107) rfl (XS.aloadN X35.here hx rfl (dc d8_109) rfl rfl (st36 _ (XS.icmpYes X36.here hx rfl (pc0 := 113) (pc' := 170) rfl (dc d8_113) rfl (XT.ii_ne_t (by decide)) (by decide) (by decide) (XS.aloadN X36.here hx rfl (dc d8_170) rfl rfl (XS.iload X36.here hx rfl (dc d8_171) rfl (XS.iload X36.here hx rfl (dc d8_173) rfl k))))))) ?_
      refine Goes.callP X36 hx hZ 0 hown (ow 70 rfl) (ow 71 rfl) (ow 72 rfl) (ow 1 rfl) (ow 2 rfl) (ow 73 rfl) (by decide) e36 P8_0 (rmSh2 l Z a0 hw b_ ya8 yb8 (M_ * 3) st_ (st_ + (2 : Int32)) ptg_8 idg_8 T8.heap n0 Z32  P8_0 P8_4 P8_5 P8_9 P8_11 ne9 ne16 D8_0 G14 G21 (own_d20 hS) ⟨hq3, by omega⟩ ⟨n1.2, n1.1⟩ hNb) (by decide) (by decide) (by decide) (by decide) rfl (by rw [hml]; rfl) (argsL := [(.int st_), (.int (st_ + (2 : Int32)))]) (rest := []) rfl (lenOf pd_4 rfl) rfl (own_le20 rfl) (dc d8_175) ?_
      rintro v37 T37 L37 X37 ⟨rfl, N37q, K37, P37_0, P37_1⟩
      show Goes p e below _ T37 (mkF m 178 #[sR b_, sI c_, sD (dv p_), s2, sJ x_, s2, sI 2, sI st_, sI (st_ + (2 : Int32)), sI st_, su] [])
      have ni40 := (ninS ne10 (ninS ne17 nin0))
      have ni42 := (ninS ne11 (ninS ne18 nin0))
      have ni52 := (ninS ne9 (ninS ne16 nin0))
      have C55 := P8_4.keep K37 ni52
      have K62 := K33.trans K37 (allS (Or.inr M15) (allS (Or.inr M22) all0))
      obtain ⟨T63, X63, e63, st63⟩ := getF X37 hx hZ hown (host := "") (Or.inl (ow 46 rfl)) Via.refl rfl C55 (g := (mkF m 179 #[sR b_, sI c_, sD (dv p_), s2, sJ x_, s2, sI 2, sI st_, sI (st_ + (2 : Int32)), sI st_, su] [(.ref b_)])) rfl rfl (dc d8_179)
      obtain ⟨T64, h64, X64, e64, W64, B64, st64⟩ := wrK X63 hx hZ e63 P37_0 b0  (g := (mkF m 185 #[sR b_, sI c_, sD (dv p_), s2, sJ x_, s2, sI 2, sI st_, sI (st_ + (2 : Int32)), sI st_, su] [(.double (dv p_)), (.int st_), (.ref ya8)])) rfl rfl (dc d8_185)
      have C78 := (P8_5.keep K37 ni52).other W64 (Or.inl ne9)
      have C83 := P37_1.other W64 D8_0.symm
      have K85 := K62.wr W64 (Or.inr M15)
      have B64 : Arf Z h64 ya8 .double vD (M_ * 3) (Upd (Upd (Upd ptg_8 (st_.toNatClampNeg + 2) (ptg_8 (st_.toNatClampNeg + 1))) (st_.toNatClampNeg + 1) (ptg_8 st_.toNatClampNeg)) st_.toNatClampNeg p_) := B64
      obtain ⟨T86, X86, e86, st86⟩ := getF X64 hx hZ hown (host := "") (Or.inl (ow 49 rfl)) Via.refl e64 C78 (g := (mkF m 187 #[sR b_, sI c_, sD (dv p_), s2, sJ x_, s2, sI 2, sI st_, sI (st_ + (2 : Int32)), sI st_, su] [(.ref b_)])) rfl rfl (dc d8_187)
      obtain ⟨T87, h87, X87, e87, W87, B87, st87⟩ := wrJ X86 hx hZ e86 C83 b0  (g := (mkF m 194 #[sR b_, sI c_, sD (dv p_), s2, sJ x_, s2, sI 2, sI st_, sI (st_ + (2 : Int32)), sI st_, su] [(.long x_), (.int st_), (.ref yb8)])) rfl rfl (dc d8_194)
      have C89 := ((C24.keep K37 ni40).other W64 ne10).other W87 ne17
      have C98 := ((P8_2.keep K37 ni52).other W64 (Or.inl ne9)).other W87 (Or.inl ne16)
      have K108 := K85.wr W87 (Or.inr M22)
      have B87 : Arf Z h87 yb8 .long Value.long (M_ * 3) (Upd (Upd (Upd idg_8 (st_.toNatClampNeg + 2) (idg_8 (st_.toNatClampNeg + 1))) (st_.toNatClampNeg + 1) (idg_8 st_.toNatClampNeg)) st_.toNatClampNeg x_) := B87
      obtain ⟨T109, X109, e109, st109⟩ := getF X87 hx hZ hown (host := "") (Or.inl (ow 34 rfl)) Via.refl e87 C98 (g := (mkF m 196 #[sR b_, sI c_, sD (dv p_), s2, sJ x_, s2, sI 2, sI st_, sI (st_ + (2 : Int32)), sI st_, su] [(.ref b_)])) rfl rfl (dc d8_196)
      obtain ⟨T110, h110, X110, e110, W110, B110, st110⟩ := wrI X109 hx hZ e109 C89 hc  (g := (mkF m 204 #[sR b_, sI c_, sD (dv p_), s2, sJ x_, s2, sI 2, sI st_, sI (st_ + (2 : Int32)), sI st_, su] [(.int 3), (.int c_), (.ref S_)])) rfl rfl (dc d8_204)
      have C111 := (((P8_0.keep K37).wr W64).wr W87).wr W110
      have C125 := (((P8_7.keep K37 ni52).other W64 (Or.inl ne9)).other W87 (Or.inl ne16)).other W110 (Or.inl ebS)
      have K131 := K108.wr W110 (Or.inl (List.mem_of_getElem? (i := 1) rfl))
      have B110 : Arf Z h110 S_ .int Value.int M_ (Upd sz_ c_.toNatClampNeg (3 : Int32)) := B110
      obtain ⟨T132, X132, e132, st132⟩ := getF X110 hx hZ hown (host := "") (Or.inl (ow 78 rfl)) Via.refl e110 C125 (g := (mkF m 207 #[sR b_, sI c_, sD (dv p_), s2, sJ x_, s2, sI 2, sI st_, sI (st_ + (2 : Int32)), sI st_, su] [(.ref b_), (.ref b_)])) rfl rfl (dc d8_207)
      obtain ⟨T133, h133, X133, e133, W133, st133⟩ := putF X132 hx hZ hown (host := "") (Or.inl (ow 78 rfl)) Via.refl e132 C125 C111 (Or.inl (ow 79 rfl)) (ow 1 rfl) (ty := .int) (by decide) rfl rfl (g := (mkF m 212 #[sR b_, sI c_, sD (dv p_), s2, sJ x_, s2, sI 2, sI st_, sI (st_ + (2 : Int32)), sI st_, su] [(.int (q_ + (1 : Int32))), (.ref b_)])) rfl rfl (dc d8_212)
      have N133 := Fr.snoc X133 (Fr.snoc X110 (Fr.snoc X87 (Fr.snoc X64 (Fr.app N35 N37q) G14) G21) g1) g0
      have C135 := B110.other W133 ebS.symm
      have C136 := ((((C25.keep K37 ni42).other W64 ne11).other W87 ne18).other W110 eST.symm).other W133 ebT.symm
      have C143 := ((((P8_1.keep K37 ni52).other W64 (Or.inl ne9)).other W87 (Or.inl ne16)).other W110 (Or.inl ebS)).other W133 (Or.inr (sn51 hw))
      have C144 := (C98.other W110 (Or.inl ebS)).other W133 (Or.inr (sn52 hw))
      have C145 := ((((P8_3.keep K37 ni52).other W64 (Or.inl ne9)).other W87 (Or.inl ne16)).other W110 (Or.inl ebS)).other W133 (Or.inr (sn54 hw))
      have C146 := (((C55.other W64 (Or.inl ne9)).other W87 (Or.inl ne16)).other W110 (Or.inl ebS)).other W133 (Or.inr (sn55 hw))
      have C147 := ((C78.other W87 (Or.inl ne16)).other W110 (Or.inl ebS)).other W133 (Or.inr (sn56 hw))
      have C148 := ((((P8_6.keep K37 ni52).other W64 (Or.inl ne9)).other W87 (Or.inl ne16)).other W110 (Or.inl ebS)).other W133 (Or.inr (sn53 hw))
      have C149 := C125.same W133
      have C150 := ((((P8_8.keep K37).wr W64).wr W87).wr W110).wr W133
      have C151 := ((((P8_10.keep K37).wr W64).wr W87).wr W110).wr W133
      have C152 := ((B64.other W87 D8_0).other W110 ne10.symm).other W133 ne9.symm
      have C153 := (B87.other W110 ne17.symm).other W133 ne16.symm
      have K155 := K131.wr W133 (Or.inl (List.mem_of_getElem? (i := 0) rfl))
      have O : own_one (2 : Int32) (ptg_8 st_.toNatClampNeg) (idg_8 st_.toNatClampNeg) p_ x_ (3 : Int32) (th_ c_.toNatClampNeg) p_ (ptg_8 st_.toNatClampNeg) x_ := by
        refine ⟨by decide, by decide, ?_, ?_, ?_, ?_⟩
        · exact fun _ => ⟨rfl, rfl⟩
        · exact fun q => by
           exfalso
           exact q (Or.inr (by omega))
        · exact fun q => absurd rfl q
        · exact fun q => absurd q (by decide)
      have Z4 : ((3 : Int32)).toInt ≤ ((3 : Int32).toNatClampNeg : Int) := by
        have q : ((3 : Int32)).toInt = 3 := rfl
        omega
      have LR : own_lr c_.toNatClampNeg st_.toNatClampNeg (3 : Int32).toNatClampNeg sz_ th_ ptg_8 idg_8 p_ x_ (Upd sz_ c_.toNatClampNeg (3 : Int32)) th_ (Upd (Upd (Upd ptg_8 (st_.toNatClampNeg + 2) (ptg_8 (st_.toNatClampNeg + 1))) (st_.toNatClampNeg + 1) (ptg_8 st_.toNatClampNeg)) st_.toNatClampNeg p_) (Upd (Upd (Upd idg_8 (st_.toNatClampNeg + 2) (idg_8 (st_.toNatClampNeg + 1))) (st_.toNatClampNeg + 1) (idg_8 st_.toNatClampNeg)) st_.toNatClampNeg x_) := ⟨fun i hi => ⟨by simp [Upd, hi], rfl⟩, fun y hy => ⟨(by have y0 : y ≠ st_.toNatClampNeg := (by omega); have y1 : y ≠ st_.toNatClampNeg + 1 := (by omega); have y2 : y ≠ st_.toNatClampNeg + 2 := (by omega); simp [Upd, n1.1, n2.1, (own_n11 hS).2, y0, y1, y2]), (by have y0 : y ≠ st_.toNatClampNeg := (by omega); have y1 : y ≠ st_.toNatClampNeg + 1 := (by omega); have y2 : y ≠ st_.toNatClampNeg + 2 := (by omega); simp [Upd, n1.1, n2.1, (own_n11 hS).2, y0, y1, y2])⟩, own_oc hsz (updS _ _ _) rfl (by simp [Upd, n1.1, n2.1, (own_n11 hS).2] <;> omega) (by simp [Upd, n1.1, n2.1, (own_n11 hS).2] <;> omega) (by simp [Upd, n1.1, n2.1, (own_n11 hS).2] <;> omega) O, by rw [updS]; exact Z4⟩
      refine Goes.on (T' := T133) (g' := (mkF m 215 #[sR b_, sI c_, sD (dv p_), s2, sJ x_, s2, sI 2, sI st_, sI (st_ + (2 : Int32)), sI st_, su] [])) (fun _ k => XS.aloadN X37.here hx rfl (dc d8_178) rfl rfl (st63 _ (XS.iload X63.here hx rfl (dc d8_182) rfl (XS.dloadN X63.here hx rfl (dc d8_184) rfl (st64 _ (XS.aloadN X64.here hx rfl (dc d8_186) rfl rfl (st86 _ (XS.iload X86.here hx rfl (dc d8_190) rfl (XS.lload X86.here hx rfl (dc d8_192) rfl (st87 _ (XS.aloadN X87.here hx rfl (dc d8_195) rfl rfl (st109 _ (XS.iloadN X109.here hx rfl (dc d8_199) rfl (XS.iload X109.here hx rfl (dc d8_200) rfl (XS.iconst X109.here hx rfl (dc d8_202) (XS.iadd X109.here hx rfl (dc d8_203) rfl (st110 _ (XS.aloadN X110.here hx rfl (dc d8_205) rfl rfl (XS.dup X110.here hx rfl (dc d8_206) rfl rfl (st132 _ (XS.iconst X132.here hx rfl (dc d8_210) (XS.iadd X132.here hx rfl (dc d8_211) rfl (st133 _ k))))))))))))))))))))))) ?_
      exact Goes.retV X133 hx hlk hret (dc d8_215) (by decide) (by decide) (by rw [e133]; exact ⟨ya8, yb8, (M_ * 3), (3 : Int32), (q_ + (1 : Int32)), (Upd sz_ c_.toNatClampNeg (3 : Int32)), th_, (Upd (Upd (Upd ptg_8 (st_.toNatClampNeg + 2) (ptg_8 (st_.toNatClampNeg + 1))) (st_.toNatClampNeg + 1) (ptg_8 st_.toNatClampNeg)) st_.toNatClampNeg p_), (Upd (Upd (Upd idg_8 (st_.toNatClampNeg + 2) (idg_8 (st_.toNatClampNeg + 1))) (st_.toNatClampNeg + 1) (idg_8 st_.toNatClampNeg)) st_.toNatClampNeg x_), rfl, N133, K155, C143, C144, C148, C145, C146, C147, C149, C135, C136, C152, C153, C150, C151, G14, G21, ne11, Or.inr M22, Or.inr M15, own_gr_ir hNN hC3 (by decide) (by decide) hc.2 hz (by rw [hsz]; decide) R8_0 R8_1 hk LR⟩)
    · intro J35
      refine Goes.joinA X34 (h := T8.heap) (n0 := n0) (C := (ptg_8 st_.toNatClampNeg).1 ≤ p_.1) (fr := (mkF m 107 #[sR b_, sI c_, sD (dv p_), s2, sJ x_, s2, sI 2, sI st_, sI (st_ + (2 : Int32)), sI (st_ + (1 : Int32)), su] [])) ?_ ?_
      · intro hA T156 L156 X156 e156 N156
        obtain ⟨T157, X157, e157, st157⟩ := getF X156 hx hZ hown (host := "") (Or.inl (ow 31 rfl)) Via.refl e156 P8_1 (g := (mkF m 110 #[sR b_, sI c_, sD (dv p_), s2, sJ x_, s2, sI 2, sI st_, sI (st_ + (2 : Int32)), sI (st_ + (1 : Int32)), su] [(.ref b_), (.int 2)])) rfl rfl (dc d8_110)
        refine Goes.on (T' := T157) (g' := (mkF m 175 #[sR b_, sI c_, sD (dv p_), s2, sJ x_, s2, sI 2, sI st_, sI (st_ + (2 : Int32)), sI (st_ + (1 : Int32)), su] [(.int (st_ + (2 : Int32))), (.int (st_ + (1 : Int32))), (.ref b_)])) (fun _ k => XS.iload X156.here hx rfl (dc d8_107) rfl (XS.aloadN X156.here hx rfl (dc d8_109) rfl rfl (st157 _ (XS.icmpYes X157.here hx rfl (pc0 := 113) (pc' := 170) rfl (dc d8_113) rfl (XT.ii_ne_t (by decide)) (by decide) (by decide) (XS.aloadN X157.here hx rfl (dc d8_170) rfl rfl (XS.iload X157.here hx rfl (dc d8_171) rfl (XS.iload X157.here hx rfl (dc d8_173) rfl k))))))) ?_
        refine Goes.callP X157 hx hZ 0 hown (ow 70 rfl) (ow 71 rfl) (ow 72 rfl) (ow 1 rfl) (ow 2 rfl) (ow 73 rfl) (by decide) e157 P8_0 (rmSh1 l Z a0 hw b_ ya8 yb8 (M_ * 3) (st_ + (1 : Int32)) (st_ + (2 : Int32)) ptg_8 idg_8 T8.heap n0 Z32  P8_0 P8_4 P8_5 P8_9 P8_11 ne9 ne16 D8_0 G14 G21 (own_d21 hS) ⟨n1.2, by rw [n1.1]; omega⟩ (own_n11 hS) hNb) (by decide) (by decide) (by decide) (by decide) rfl (by rw [hml]; rfl) (argsL := [(.int (st_ + (1 : Int32))), (.int (st_ + (2 : Int32)))]) (rest := []) rfl (lenOf pd_4 rfl) rfl (own_le20 rfl) (dc d8_175) ?_
        rintro v158 T158 L158 X158 ⟨rfl, N158q, K158, P158_0, P158_1⟩
        show Goes p e below _ T158 (mkF m 178 #[sR b_, sI c_, sD (dv p_), s2, sJ x_, s2, sI 2, sI st_, sI (st_ + (2 : Int32)), sI (st_ + (1 : Int32)), su] [])
        have ni161 := (ninS ne10 (ninS ne17 nin0))
        have ni163 := (ninS ne11 (ninS ne18 nin0))
        have ni173 := (ninS ne9 (ninS ne16 nin0))
        have C176 := P8_4.keep K158 ni173
        have K183 := K33.trans K158 (allS (Or.inr M15) (allS (Or.inr M22) all0))
        obtain ⟨T184, X184, e184, st184⟩ := getF X158 hx hZ hown (host := "") (Or.inl (ow 46 rfl)) Via.refl rfl C176 (g := (mkF m 179 #[sR b_, sI c_, sD (dv p_), s2, sJ x_, s2, sI 2, sI st_, sI (st_ + (2 : Int32)), sI (st_ + (1 : Int32)), su] [(.ref b_)])) rfl rfl (dc d8_179)
        obtain ⟨T185, h185, X185, e185, W185, B185, st185⟩ := wrK X184 hx hZ e184 P158_0 b1  (g := (mkF m 185 #[sR b_, sI c_, sD (dv p_), s2, sJ x_, s2, sI 2, sI st_, sI (st_ + (2 : Int32)), sI (st_ + (1 : Int32)), su] [(.double (dv p_)), (.int (st_ + (1 : Int32))), (.ref ya8)])) rfl rfl (dc d8_185)
        have C199 := (P8_5.keep K158 ni173).other W185 (Or.inl ne9)
        have C204 := P158_1.other W185 D8_0.symm
        have K206 := K183.wr W185 (Or.inr M15)
        have B185 : Arf Z h185 ya8 .double vD (M_ * 3) (Upd (Upd ptg_8 ((st_ + (1 : Int32)).toNatClampNeg + 1) (ptg_8 (st_ + (1 : Int32)).toNatClampNeg)) (st_ + (1 : Int32)).toNatClampNeg p_) := B185
        obtain ⟨T207, X207, e207, st207⟩ := getF X185 hx hZ hown (host := "") (Or.inl (ow 49 rfl)) Via.refl e185 C199 (g := (mkF m 187 #[sR b_, sI c_, sD (dv p_), s2, sJ x_, s2, sI 2, sI st_, sI (st_ + (2 : Int32)), sI (st_ + (1 : Int32)), su] [(.ref b_)])) rfl rfl (dc d8_187)
        obtain ⟨T208, h208, X208, e208, W208, B208, st208⟩ := wrJ X207 hx hZ e207 C204 b1  (g := (mkF m 194 #[sR b_, sI c_, sD (dv p_), s2, sJ x_, s2, sI 2, sI st_, sI (st_ + (2 : Int32)), sI (st_ + (1 : Int32)), su] [(.long x_), (.int (st_ + (1 : Int32))), (.ref yb8)])) rfl rfl (dc d8_194)
        have C210 := ((C24.keep K158 ni161).other W185 ne10).other W208 ne17
        have C219 := ((P8_2.keep K158 ni173).other W185 (Or.inl ne9)).other W208 (Or.inl ne16)
        have K229 := K206.wr W208 (Or.inr M22)
        have B208 : Arf Z h208 yb8 .long Value.long (M_ * 3) (Upd (Upd idg_8 ((st_ + (1 : Int32)).toNatClampNeg + 1) (idg_8 (st_ + (1 : Int32)).toNatClampNeg)) (st_ + (1 : Int32)).toNatClampNeg x_) := B208
        obtain ⟨T230, X230, e230, st230⟩ := getF X208 hx hZ hown (host := "") (Or.inl (ow 34 rfl)) Via.refl e208 C219 (g := (mkF m 196 #[sR b_, sI c_, sD (dv p_), s2, sJ x_, s2, sI 2, sI st_, sI (st_ + (2 : Int32)), sI (st_ + (1 : Int32)), su] [(.ref b_)])) rfl rfl (dc d8_196)
        obtain ⟨T231, h231, X231, e231, W231, B231, st231⟩ := wrI X230 hx hZ e230 C210 hc  (g := (mkF m 204 #[sR b_, sI c_, sD (dv p_), s2, sJ x_, s2, sI 2, sI st_, sI (st_ + (2 : Int32)), sI (st_ + (1 : Int32)), su] [(.int 3), (.int c_), (.ref S_)])) rfl rfl (dc d8_204)
        have C232 := (((P8_0.keep K158).wr W185).wr W208).wr W231
        have C246 := (((P8_7.keep K158 ni173).other W185 (Or.inl ne9)).other W208 (Or.inl ne16)).other W231 (Or.inl ebS)
        have K252 := K229.wr W231 (Or.inl (List.mem_of_getElem? (i := 1) rfl))
        have B231 : Arf Z h231 S_ .int Value.int M_ (Upd sz_ c_.toNatClampNeg (3 : Int32)) := B231
        obtain ⟨T253, X253, e253, st253⟩ := getF X231 hx hZ hown (host := "") (Or.inl (ow 78 rfl)) Via.refl e231 C246 (g := (mkF m 207 #[sR b_, sI c_, sD (dv p_), s2, sJ x_, s2, sI 2, sI st_, sI (st_ + (2 : Int32)), sI (st_ + (1 : Int32)), su] [(.ref b_), (.ref b_)])) rfl rfl (dc d8_207)
        obtain ⟨T254, h254, X254, e254, W254, st254⟩ := putF X253 hx hZ hown (host := "") (Or.inl (ow 78 rfl)) Via.refl e253 C246 C232 (Or.inl (ow 79 rfl)) (ow 1 rfl) (ty := .int) (by decide) rfl rfl (g := (mkF m 212 #[sR b_, sI c_, sD (dv p_), s2, sJ x_, s2, sI 2, sI st_, sI (st_ + (2 : Int32)), sI (st_ + (1 : Int32)), su] [(.int (q_ + (1 : Int32))), (.ref b_)])) rfl rfl (dc d8_212)
        have N254 := Fr.snoc X254 (Fr.snoc X231 (Fr.snoc X208 (Fr.snoc X185 (Fr.app N156 N158q) G14) G21) g1) g0
        have C256 := B231.other W254 ebS.symm
        have C257 := ((((C25.keep K158 ni163).other W185 ne11).other W208 ne18).other W231 eST.symm).other W254 ebT.symm
        have C264 := ((((P8_1.keep K158 ni173).other W185 (Or.inl ne9)).other W208 (Or.inl ne16)).other W231 (Or.inl ebS)).other W254 (Or.inr (sn51 hw))
        have C265 := (C219.other W231 (Or.inl ebS)).other W254 (Or.inr (sn52 hw))
        have C266 := ((((P8_3.keep K158 ni173).other W185 (Or.inl ne9)).other W208 (Or.inl ne16)).other W231 (Or.inl ebS)).other W254 (Or.inr (sn54 hw))
        have C267 := (((C176.other W185 (Or.inl ne9)).other W208 (Or.inl ne16)).other W231 (Or.inl ebS)).other W254 (Or.inr (sn55 hw))
        have C268 := ((C199.other W208 (Or.inl ne16)).other W231 (Or.inl ebS)).other W254 (Or.inr (sn56 hw))
        have C269 := ((((P8_6.keep K158 ni173).other W185 (Or.inl ne9)).other W208 (Or.inl ne16)).other W231 (Or.inl ebS)).other W254 (Or.inr (sn53 hw))
        have C270 := C246.same W254
        have C271 := ((((P8_8.keep K158).wr W185).wr W208).wr W231).wr W254
        have C272 := ((((P8_10.keep K158).wr W185).wr W208).wr W231).wr W254
        have C273 := ((B185.other W208 D8_0).other W231 ne10.symm).other W254 ne9.symm
        have C274 := (B208.other W231 ne17.symm).other W254 ne16.symm
        have K276 := K252.wr W254 (Or.inl (List.mem_of_getElem? (i := 0) rfl))
        have O : own_one (2 : Int32) (ptg_8 st_.toNatClampNeg) (idg_8 st_.toNatClampNeg) p_ x_ (3 : Int32) (th_ c_.toNatClampNeg) (ptg_8 st_.toNatClampNeg) p_ (idg_8 st_.toNatClampNeg) := by
          refine ⟨by decide, by decide, ?_, ?_, ?_, ?_⟩
          · exact fun q => by
             rcases q with q | q
             · exact absurd q (by decide)
             · exfalso; omega
          · exact fun _ => ⟨rfl, rfl⟩
          · exact fun q => absurd rfl q
          · exact fun q => absurd q (by decide)
        have Z4 : ((3 : Int32)).toInt ≤ ((3 : Int32).toNatClampNeg : Int) := by
          have q : ((3 : Int32)).toInt = 3 := rfl
          omega
        have LR : own_lr c_.toNatClampNeg st_.toNatClampNeg (3 : Int32).toNatClampNeg sz_ th_ ptg_8 idg_8 p_ x_ (Upd sz_ c_.toNatClampNeg (3 : Int32)) th_ (Upd (Upd ptg_8 ((st_ + (1 : Int32)).toNatClampNeg + 1) (ptg_8 (st_ + (1 : Int32)).toNatClampNeg)) (st_ + (1 : Int32)).toNatClampNeg p_) (Upd (Upd idg_8 ((st_ + (1 : Int32)).toNatClampNeg + 1) (idg_8 (st_ + (1 : Int32)).toNatClampNeg)) (st_ + (1 : Int32)).toNatClampNeg x_) := ⟨fun i hi => ⟨by simp [Upd, hi], rfl⟩, fun y hy => ⟨(by have y0 : y ≠ st_.toNatClampNeg := (by omega); have y1 : y ≠ st_.toNatClampNeg + 1 := (by omega); have y2 : y ≠ st_.toNatClampNeg + 2 := (by omega); simp [Upd, n1.1, n2.1, (own_n11 hS).2, y0, y1, y2]), (by have y0 : y ≠ st_.toNatClampNeg := (by omega); have y1 : y ≠ st_.toNatClampNeg + 1 := (by omega); have y2 : y ≠ st_.toNatClampNeg + 2 := (by omega); simp [Upd, n1.1, n2.1, (own_n11 hS).2, y0, y1, y2])⟩, own_oc hsz (updS _ _ _) rfl (by simp [Upd, n1.1, n2.1, (own_n11 hS).2] <;> omega) (by simp [Upd, n1.1, n2.1, (own_n11 hS).2] <;> omega) (by simp [Upd, n1.1, n2.1, (own_n11 hS).2] <;> omega) O, by rw [updS]; exact Z4⟩
        refine Goes.on (T' := T254) (g' := (mkF m 215 #[sR b_, sI c_, sD (dv p_), s2, sJ x_, s2, sI 2, sI st_, sI (st_ + (2 : Int32)), sI (st_ + (1 : Int32)), su] [])) (fun _ k => XS.aloadN X158.here hx rfl (dc d8_178) rfl rfl (st184 _ (XS.iload X184.here hx rfl (dc d8_182) rfl (XS.dloadN X184.here hx rfl (dc d8_184) rfl (st185 _ (XS.aloadN X185.here hx rfl (dc d8_186) rfl rfl (st207 _ (XS.iload X207.here hx rfl (dc d8_190) rfl (XS.lload X207.here hx rfl (dc d8_192) rfl (st208 _ (XS.aloadN X208.here hx rfl (dc d8_195) rfl rfl (st230 _ (XS.iloadN X230.here hx rfl (dc d8_199) rfl (XS.iload X230.here hx rfl (dc d8_200) rfl (XS.iconst X230.here hx rfl (dc d8_202) (XS.iadd X230.here hx rfl (dc d8_203) rfl (st231 _ (XS.aloadN X231.here hx rfl (dc d8_205) rfl rfl (XS.dup X231.here hx rfl (dc d8_206) rfl rfl (st253 _ (XS.iconst X253.here hx rfl (dc d8_210) (XS.iadd X253.here hx rfl (dc d8_211) rfl (st254 _ k))))))))))))))))))))))) ?_
        exact Goes.retV X254 hx hlk hret (dc d8_215) (by decide) (by decide) (by rw [e254]; exact ⟨ya8, yb8, (M_ * 3), (3 : Int32), (q_ + (1 : Int32)), (Upd sz_ c_.toNatClampNeg (3 : Int32)), th_, (Upd (Upd ptg_8 ((st_ + (1 : Int32)).toNatClampNeg + 1) (ptg_8 (st_ + (1 : Int32)).toNatClampNeg)) (st_ + (1 : Int32)).toNatClampNeg p_), (Upd (Upd idg_8 ((st_ + (1 : Int32)).toNatClampNeg + 1) (idg_8 (st_ + (1 : Int32)).toNatClampNeg)) (st_ + (1 : Int32)).toNatClampNeg x_), rfl, N254, K276, C264, C265, C269, C266, C267, C268, C270, C256, C257, C273, C274, C271, C272, G14, G21, ne11, Or.inr M22, Or.inr M15, own_gr_ir hNN hC3 (by decide) (by decide) hc.2 hz (by rw [hsz]; decide) R8_0 R8_1 hk LR⟩)
      · intro J156
        refine Goes.joinA X34 (h := T8.heap) (n0 := n0) (C := (ptg_8 st_.toNatClampNeg).1 ≤ p_.1) (fr := (mkF m 107 #[sR b_, sI c_, sD (dv p_), s2, sJ x_, s2, sI 2, sI st_, sI (st_ + (2 : Int32)), sI (st_ + (2 : Int32)), su] [])) ?_ ?_
        · intro hA T277 L277 X277 e277 N277
          obtain ⟨T278, X278, e278, st278⟩ := getF X277 hx hZ hown (host := "") (Or.inl (ow 31 rfl)) Via.refl e277 P8_1 (g := (mkF m 110 #[sR b_, sI c_, sD (dv p_), s2, sJ x_, s2, sI 2, sI st_, sI (st_ + (2 : Int32)), sI (st_ + (2 : Int32)), su] [(.ref b_), (.int 2)])) rfl rfl (dc d8_110)
          refine Goes.on (T' := T278) (g' := (mkF m 175 #[sR b_, sI c_, sD (dv p_), s2, sJ x_, s2, sI 2, sI st_, sI (st_ + (2 : Int32)), sI (st_ + (2 : Int32)), su] [(.int (st_ + (2 : Int32))), (.int (st_ + (2 : Int32))), (.ref b_)])) (fun _ k => XS.iload X277.here hx rfl (dc d8_107) rfl (XS.aloadN X277.here hx rfl (dc d8_109) rfl rfl (st278 _ (XS.icmpYes X278.here hx rfl (pc0 := 113) (pc' := 170) rfl (dc d8_113) rfl (XT.ii_ne_t (by decide)) (by decide) (by decide) (XS.aloadN X278.here hx rfl (dc d8_170) rfl rfl (XS.iload X278.here hx rfl (dc d8_171) rfl (XS.iload X278.here hx rfl (dc d8_173) rfl k))))))) ?_
          refine Goes.callP X278 hx hZ 0 hown (ow 70 rfl) (ow 71 rfl) (ow 72 rfl) (ow 1 rfl) (ow 2 rfl) (ow 73 rfl) (by decide) e278 P8_0 (rmSh0 l Z a0 hw b_ ya8 yb8 (M_ * 3) (st_ + (2 : Int32)) (st_ + (2 : Int32)) ptg_8 idg_8 T8.heap n0 Z32  P8_0 P8_4 P8_5 P8_9 P8_11 ne9 ne16 D8_0 G14 G21 (own_d00 _) ⟨n2.2, by rw [n2.1]; omega⟩ (own_n21 hS) hNb) (by decide) (by decide) (by decide) (by decide) rfl (by rw [hml]; rfl) (argsL := [(.int (st_ + (2 : Int32))), (.int (st_ + (2 : Int32)))]) (rest := []) rfl (lenOf pd_4 rfl) rfl (own_le20 rfl) (dc d8_175) ?_
          rintro v279 T279 L279 X279 ⟨rfl, N279q, K279, P279_0, P279_1⟩
          show Goes p e below _ T279 (mkF m 178 #[sR b_, sI c_, sD (dv p_), s2, sJ x_, s2, sI 2, sI st_, sI (st_ + (2 : Int32)), sI (st_ + (2 : Int32)), su] [])
          have ni282 := (ninS ne10 (ninS ne17 nin0))
          have ni284 := (ninS ne11 (ninS ne18 nin0))
          have ni294 := (ninS ne9 (ninS ne16 nin0))
          have C297 := P8_4.keep K279 ni294
          have K304 := K33.trans K279 (allS (Or.inr M15) (allS (Or.inr M22) all0))
          obtain ⟨T305, X305, e305, st305⟩ := getF X279 hx hZ hown (host := "") (Or.inl (ow 46 rfl)) Via.refl rfl C297 (g := (mkF m 179 #[sR b_, sI c_, sD (dv p_), s2, sJ x_, s2, sI 2, sI st_, sI (st_ + (2 : Int32)), sI (st_ + (2 : Int32)), su] [(.ref b_)])) rfl rfl (dc d8_179)
          obtain ⟨T306, h306, X306, e306, W306, B306, st306⟩ := wrK X305 hx hZ e305 P279_0 b2  (g := (mkF m 185 #[sR b_, sI c_, sD (dv p_), s2, sJ x_, s2, sI 2, sI st_, sI (st_ + (2 : Int32)), sI (st_ + (2 : Int32)), su] [(.double (dv p_)), (.int (st_ + (2 : Int32))), (.ref ya8)])) rfl rfl (dc d8_185)
          have C320 := (P8_5.keep K279 ni294).other W306 (Or.inl ne9)
          have C325 := P279_1.other W306 D8_0.symm
          have K327 := K304.wr W306 (Or.inr M15)
          have B306 : Arf Z h306 ya8 .double vD (M_ * 3) (Upd ptg_8 (st_ + (2 : Int32)).toNatClampNeg p_) := B306
          obtain ⟨T328, X328, e328, st328⟩ := getF X306 hx hZ hown (host := "") (Or.inl (ow 49 rfl)) Via.refl e306 C320 (g := (mkF m 187 #[sR b_, sI c_, sD (dv p_), s2, sJ x_, s2, sI 2, sI st_, sI (st_ + (2 : Int32)), sI (st_ + (2 : Int32)), su] [(.ref b_)])) rfl rfl (dc d8_187)
          obtain ⟨T329, h329, X329, e329, W329, B329, st329⟩ := wrJ X328 hx hZ e328 C325 b2  (g := (mkF m 194 #[sR b_, sI c_, sD (dv p_), s2, sJ x_, s2, sI 2, sI st_, sI (st_ + (2 : Int32)), sI (st_ + (2 : Int32)), su] [(.long x_), (.int (st_ + (2 : Int32))), (.ref yb8)])) rfl rfl (dc d8_194)
          have C331 := ((C24.keep K279 ni282).other W306 ne10).other W329 ne17
          have C340 := ((P8_2.keep K279 ni294).other W306 (Or.inl ne9)).other W329 (Or.inl ne16)
          have K350 := K327.wr W329 (Or.inr M22)
          have B329 : Arf Z h329 yb8 .long Value.long (M_ * 3) (Upd idg_8 (st_ + (2 : Int32)).toNatClampNeg x_) := B329
          obtain ⟨T351, X351, e351, st351⟩ := getF X329 hx hZ hown (host := "") (Or.inl (ow 34 rfl)) Via.refl e329 C340 (g := (mkF m 196 #[sR b_, sI c_, sD (dv p_), s2, sJ x_, s2, sI 2, sI st_, sI (st_ + (2 : Int32)), sI (st_ + (2 : Int32)), su] [(.ref b_)])) rfl rfl (dc d8_196)
          obtain ⟨T352, h352, X352, e352, W352, B352, st352⟩ := wrI X351 hx hZ e351 C331 hc  (g := (mkF m 204 #[sR b_, sI c_, sD (dv p_), s2, sJ x_, s2, sI 2, sI st_, sI (st_ + (2 : Int32)), sI (st_ + (2 : Int32)), su] [(.int 3), (.int c_), (.ref S_)])) rfl rfl (dc d8_204)
          have C353 := (((P8_0.keep K279).wr W306).wr W329).wr W352
          have C367 := (((P8_7.keep K279 ni294).other W306 (Or.inl ne9)).other W329 (Or.inl ne16)).other W352 (Or.inl ebS)
          have K373 := K350.wr W352 (Or.inl (List.mem_of_getElem? (i := 1) rfl))
          have B352 : Arf Z h352 S_ .int Value.int M_ (Upd sz_ c_.toNatClampNeg (3 : Int32)) := B352
          obtain ⟨T374, X374, e374, st374⟩ := getF X352 hx hZ hown (host := "") (Or.inl (ow 78 rfl)) Via.refl e352 C367 (g := (mkF m 207 #[sR b_, sI c_, sD (dv p_), s2, sJ x_, s2, sI 2, sI st_, sI (st_ + (2 : Int32)), sI (st_ + (2 : Int32)), su] [(.ref b_), (.ref b_)])) rfl rfl (dc d8_207)
          obtain ⟨T375, h375, X375, e375, W375, st375⟩ := putF X374 hx hZ hown (host := "") (Or.inl (ow 78 rfl)) Via.refl e374 C367 C353 (Or.inl (ow 79 rfl)) (ow 1 rfl) (ty := .int) (by decide) rfl rfl (g := (mkF m 212 #[sR b_, sI c_, sD (dv p_), s2, sJ x_, s2, sI 2, sI st_, sI (st_ + (2 : Int32)), sI (st_ + (2 : Int32)), su] [(.int (q_ + (1 : Int32))), (.ref b_)])) rfl rfl (dc d8_212)
          have N375 := Fr.snoc X375 (Fr.snoc X352 (Fr.snoc X329 (Fr.snoc X306 (Fr.app N277 N279q) G14) G21) g1) g0
          have C377 := B352.other W375 ebS.symm
          have C378 := ((((C25.keep K279 ni284).other W306 ne11).other W329 ne18).other W352 eST.symm).other W375 ebT.symm
          have C385 := ((((P8_1.keep K279 ni294).other W306 (Or.inl ne9)).other W329 (Or.inl ne16)).other W352 (Or.inl ebS)).other W375 (Or.inr (sn51 hw))
          have C386 := (C340.other W352 (Or.inl ebS)).other W375 (Or.inr (sn52 hw))
          have C387 := ((((P8_3.keep K279 ni294).other W306 (Or.inl ne9)).other W329 (Or.inl ne16)).other W352 (Or.inl ebS)).other W375 (Or.inr (sn54 hw))
          have C388 := (((C297.other W306 (Or.inl ne9)).other W329 (Or.inl ne16)).other W352 (Or.inl ebS)).other W375 (Or.inr (sn55 hw))
          have C389 := ((C320.other W329 (Or.inl ne16)).other W352 (Or.inl ebS)).other W375 (Or.inr (sn56 hw))
          have C390 := ((((P8_6.keep K279 ni294).other W306 (Or.inl ne9)).other W329 (Or.inl ne16)).other W352 (Or.inl ebS)).other W375 (Or.inr (sn53 hw))
          have C391 := C367.same W375
          have C392 := ((((P8_8.keep K279).wr W306).wr W329).wr W352).wr W375
          have C393 := ((((P8_10.keep K279).wr W306).wr W329).wr W352).wr W375
          have C394 := ((B306.other W329 D8_0).other W352 ne10.symm).other W375 ne9.symm
          have C395 := (B329.other W352 ne17.symm).other W375 ne16.symm
          have K397 := K373.wr W375 (Or.inl (List.mem_of_getElem? (i := 0) rfl))
          have O : own_one (2 : Int32) (ptg_8 st_.toNatClampNeg) (idg_8 st_.toNatClampNeg) p_ x_ (3 : Int32) (th_ c_.toNatClampNeg) (ptg_8 st_.toNatClampNeg) (ptg_8 (st_.toNatClampNeg + 1)) (idg_8 st_.toNatClampNeg) := by
            refine ⟨by decide, by decide, ?_, ?_, ?_, ?_⟩
            · exact fun q => by
               rcases q with q | q
               · exact absurd q (by decide)
               · exfalso; omega
            · exact fun _ => ⟨rfl, rfl⟩
            · exact fun q => absurd rfl q
            · exact fun q => absurd q (by decide)
          have Z4 : ((3 : Int32)).toInt ≤ ((3 : Int32).toNatClampNeg : Int) := by
            have q : ((3 : Int32)).toInt = 3 := rfl
            omega
          have LR : own_lr c_.toNatClampNeg st_.toNatClampNeg (3 : Int32).toNatClampNeg sz_ th_ ptg_8 idg_8 p_ x_ (Upd sz_ c_.toNatClampNeg (3 : Int32)) th_ (Upd ptg_8 (st_ + (2 : Int32)).toNatClampNeg p_) (Upd idg_8 (st_ + (2 : Int32)).toNatClampNeg x_) := ⟨fun i hi => ⟨by simp [Upd, hi], rfl⟩, fun y hy => ⟨(by have y0 : y ≠ st_.toNatClampNeg := (by omega); have y1 : y ≠ st_.toNatClampNeg + 1 := (by omega); have y2 : y ≠ st_.toNatClampNeg + 2 := (by omega); simp [Upd, n1.1, n2.1, (own_n11 hS).2, y0, y1, y2]), (by have y0 : y ≠ st_.toNatClampNeg := (by omega); have y1 : y ≠ st_.toNatClampNeg + 1 := (by omega); have y2 : y ≠ st_.toNatClampNeg + 2 := (by omega); simp [Upd, n1.1, n2.1, (own_n11 hS).2, y0, y1, y2])⟩, own_oc hsz (updS _ _ _) rfl (by simp [Upd, n1.1, n2.1, (own_n11 hS).2] <;> omega) (by simp [Upd, n1.1, n2.1, (own_n11 hS).2] <;> omega) (by simp [Upd, n1.1, n2.1, (own_n11 hS).2] <;> omega) O, by rw [updS]; exact Z4⟩
          refine Goes.on (T' := T375) (g' := (mkF m 215 #[sR b_, sI c_, sD (dv p_), s2, sJ x_, s2, sI 2, sI st_, sI (st_ + (2 : Int32)), sI (st_ + (2 : Int32)), su] [])) (fun _ k => XS.aloadN X279.here hx rfl (dc d8_178) rfl rfl (st305 _ (XS.iload X305.here hx rfl (dc d8_182) rfl (XS.dloadN X305.here hx rfl (dc d8_184) rfl (st306 _ (XS.aloadN X306.here hx rfl (dc d8_186) rfl rfl (st328 _ (XS.iload X328.here hx rfl (dc d8_190) rfl (XS.lload X328.here hx rfl (dc d8_192) rfl (st329 _ (XS.aloadN X329.here hx rfl (dc d8_195) rfl rfl (st351 _ (XS.iloadN X351.here hx rfl (dc d8_199) rfl (XS.iload X351.here hx rfl (dc d8_200) rfl (XS.iconst X351.here hx rfl (dc d8_202) (XS.iadd X351.here hx rfl (dc d8_203) rfl (st352 _ (XS.aloadN X352.here hx rfl (dc d8_205) rfl rfl (XS.dup X352.here hx rfl (dc d8_206) rfl rfl (st374 _ (XS.iconst X374.here hx rfl (dc d8_210) (XS.iadd X374.here hx rfl (dc d8_211) rfl (st375 _ k))))))))))))))))))))))) ?_
          exact Goes.retV X375 hx hlk hret (dc d8_215) (by decide) (by decide) (by rw [e375]; exact ⟨ya8, yb8, (M_ * 3), (3 : Int32), (q_ + (1 : Int32)), (Upd sz_ c_.toNatClampNeg (3 : Int32)), th_, (Upd ptg_8 (st_ + (2 : Int32)).toNatClampNeg p_), (Upd idg_8 (st_ + (2 : Int32)).toNatClampNeg x_), rfl, N375, K397, C385, C386, C390, C387, C388, C389, C391, C377, C378, C394, C395, C392, C393, G14, G21, ne11, Or.inr M22, Or.inr M15, own_gr_ir hNN hC3 (by decide) (by decide) hc.2 hz (by rw [hsz]; decide) R8_0 R8_1 hk LR⟩)
        · intro J277
          by_cases hc398 : (ptg_8 (st_ + (1 : Int32)).toNatClampNeg).1 < p_.1
          · refine Goes.callP X34 hx hZ 0 hown (ow 66 rfl) (ow 67 rfl) (ow 68 rfl) (ow 1 rfl) (ow 2 rfl) (ow 69 rfl) (by decide) e34 P8_0 (rmLB2t l Z a0 hw b_ ya8 (M_ * 3) ptg_8 st_ p_ T8.heap n0 Z32  P8_0 P8_4 P8_9 hS b0 b1 hc398) (by decide) (by decide) (by decide) (by decide) rfl (by rw [hml]; rfl) (argsL := [(.int st_), (.int (st_ + (2 : Int32))), (.double (dv p_))]) (rest := []) rfl (lenOf pd_3 rfl) rfl (own_le20 rfl) (dc d8_63) ?_
            rintro v399 T399 L399 X399 ⟨rfl, N399q, e399⟩
            have N399 := Fr.app N8 N399q
            show Goes p e below _ T399 (mkF m 66 #[sR b_, sI c_, sD (dv p_), s2, sJ x_, s2, sI 2, sI st_, sI (st_ + (2 : Int32)), su, su] [(.int (st_ + (2 : Int32)))])
            refine Goes.on (T' := T399) (g' := (mkF m 107 #[sR b_, sI c_, sD (dv p_), s2, sJ x_, s2, sI 2, sI st_, sI (st_ + (2 : Int32)), sI (st_ + (2 : Int32)), su] [])) (fun _ k => XS.istore X399.here hx rfl (dc d8_66) rfl (l' := #[sR b_, sI c_, sD (dv p_), s2, sJ x_, s2, sI 2, sI st_, sI (st_ + (2 : Int32)), sI (st_ + (2 : Int32)), su]) rfl (XS.iload X399.here hx rfl (dc d8_68) rfl (XS.iload X399.here hx rfl (dc d8_70) rfl (XS.icmpYes X399.here hx rfl (pc0 := 72) (pc' := 107) rfl (dc d8_72) rfl (XT.ii_ge_t (own_irr _)) (by decide) (by decide) k)))) ?_
            exact J277 (by omega) T399 _ X399 e399 N399
          · by_cases hc400 : (ptg_8 st_.toNatClampNeg).1 < p_.1
            · refine Goes.callP X34 hx hZ 0 hown (ow 66 rfl) (ow 67 rfl) (ow 68 rfl) (ow 1 rfl) (ow 2 rfl) (ow 69 rfl) (by decide) e34 P8_0 (rmLB2ft l Z a0 hw b_ ya8 (M_ * 3) ptg_8 st_ p_ T8.heap n0 Z32  P8_0 P8_4 P8_9 hS b0 b1 hc398 hc400) (by decide) (by decide) (by decide) (by decide) rfl (by rw [hml]; rfl) (argsL := [(.int st_), (.int (st_ + (2 : Int32))), (.double (dv p_))]) (rest := []) rfl (lenOf pd_3 rfl) rfl (own_le20 rfl) (dc d8_63) ?_
              rintro v401 T401 L401 X401 ⟨rfl, N401q, e401⟩
              have N401 := Fr.app N8 N401q
              show Goes p e below _ T401 (mkF m 66 #[sR b_, sI c_, sD (dv p_), s2, sJ x_, s2, sI 2, sI st_, sI (st_ + (2 : Int32)), su, su] [(.int (st_ + (1 : Int32)))])
              obtain ⟨T402, X402, e402, st402⟩ := getF X401 hx hZ hown (host := "") (Or.inl (ow 46 rfl)) Via.refl e401 P8_4 (g := (mkF m 76 #[sR b_, sI c_, sD (dv p_), s2, sJ x_, s2, sI 2, sI st_, sI (st_ + (2 : Int32)), sI (st_ + (1 : Int32)), su] [(.ref b_)])) rfl rfl (dc d8_76)
              refine Goes.on (T' := T402) (g' := (mkF m 84 #[sR b_, sI c_, sD (dv p_), s2, sJ x_, s2, sI 2, sI st_, sI (st_ + (2 : Int32)), sI (st_ + (1 : Int32)), su] [(.int (cmpValue (FP.dcmp (dv (ptg_8 (st_ + (1 : Int32)).toNatClampNeg)) (dv p_)) .l))])) (fun _ k => XS.istore X401.here hx rfl (dc d8_66) rfl (l' := #[sR b_, sI c_, sD (dv p_), s2, sJ x_, s2, sI 2, sI st_, sI (st_ + (2 : Int32)), sI (st_ + (1 : Int32)), su]) rfl (XS.iload X401.here hx rfl (dc d8_68) rfl (XS.iload X401.here hx rfl (dc d8_70) rfl (XS.icmpNo X401.here hx rfl (dc d8_72) rfl (XT.ii_ge_f (own_lt12 hS)) (XS.aloadN X401.here hx rfl (dc d8_75) rfl rfl (st402 _ (XS.iload X402.here hx rfl (dc d8_79) rfl (ldKm X402 hx hZ e402 P8_9 b1 (dc d8_81) (XS.dloadN X402.here hx rfl (dc d8_82) rfl (XS.dcmpS X402.here hx rfl (dc d8_83) rfl rfl k)))))))))) ?_
              by_cases hc404 : (ptg_8 (st_ + (1 : Int32)).toNatClampNeg).1 = p_.1
              · obtain ⟨T405, X405, e405, st405⟩ := getF X402 hx hZ hown (host := "") (Or.inl (ow 49 rfl)) Via.refl e402 P8_5 (g := (mkF m 88 #[sR b_, sI c_, sD (dv p_), s2, sJ x_, s2, sI 2, sI st_, sI (st_ + (2 : Int32)), sI (st_ + (1 : Int32)), su] [(.ref b_)])) rfl rfl (dc d8_88)
                refine Goes.on (T' := T405) (g' := (mkF m 97 #[sR b_, sI c_, sD (dv p_), s2, sJ x_, s2, sI 2, sI st_, sI (st_ + (2 : Int32)), sI (st_ + (1 : Int32)), su] [(.int (XT.cmpL (idg_8 (st_ + (1 : Int32)).toNatClampNeg) x_))])) (fun _ k => XS.ifNo X402.here hx rfl (dc d8_84) rfl (dd_ne_f hc404) (XS.aloadN X402.here hx rfl (dc d8_87) rfl rfl (st405 _ (XS.iload X405.here hx rfl (dc d8_91) rfl (ldJm X405 hx hZ e405 P8_11 b1 (dc d8_93) (XS.lload X405.here hx rfl (dc d8_94) rfl (XT.lcmp X405.here hx rfl (dc d8_96) rfl k))))))) ?_
                by_cases hc407 : (idg_8 (st_ + (1 : Int32)).toNatClampNeg) = x_
                · refine Goes.on (T' := T405) (g' := (mkF m 100 #[sR b_, sI c_, sD (dv p_), s2, sJ x_, s2, sI 2, sI st_, sI (st_ + (2 : Int32)), sI (st_ + (1 : Int32)), su] [])) (fun _ k => XS.ifNo X405.here hx rfl (dc d8_97) rfl (XT.ll_ne_f hc407) k) ?_
                  rw [n1.1] at hc398
                  rw [n1.1] at hc404
                  rw [n1.1] at hc407
                  have O : own_one (2 : Int32) (ptg_8 st_.toNatClampNeg) (idg_8 st_.toNatClampNeg) p_ x_ (2 : Int32) (th_ c_.toNatClampNeg) (ptg_8 st_.toNatClampNeg) (ptg_8 (st_.toNatClampNeg + 1)) (idg_8 st_.toNatClampNeg) := by
                    refine ⟨by decide, by decide, ?_, ?_, ?_, ?_⟩
                    · exact fun q => by
                       rcases q with q | q
                       · exact absurd q (by decide)
                       · exfalso; omega
                    · exact fun _ => ⟨rfl, rfl⟩
                    · exact fun _ => by omega
                    · exact fun _ => by omega
                  have Z4 : ((2 : Int32)).toInt ≤ ((3 : Int32).toNatClampNeg : Int) := by
                    have q : ((2 : Int32)).toInt = 2 := rfl
                    omega
                  have LR : own_lr c_.toNatClampNeg st_.toNatClampNeg (3 : Int32).toNatClampNeg sz_ th_ ptg_8 idg_8 p_ x_ sz_ th_ ptg_8 idg_8 := ⟨fun i hi => ⟨rfl, rfl⟩, fun y hy => ⟨rfl, rfl⟩, own_oc hsz hsz rfl rfl rfl rfl O, by rw [hsz]; exact Z4⟩
                  exact Goes.retV X405 hx hlk hret (dc d8_100) (by decide) (by decide) (by rw [e405]; exact ⟨ya8, yb8, (M_ * 3), (3 : Int32), q_, sz_, th_, ptg_8, idg_8, rfl, N401, K33, P8_1, P8_2, P8_6, P8_3, P8_4, P8_5, P8_7, C24, C25, P8_9, P8_11, P8_8, P8_10, G14, G21, ne11, Or.inr M22, Or.inr M15, own_gr_ir hNN hC3 (by decide) (by decide) hc.2 hz (by rw [hsz]; decide) R8_0 R8_1 hk LR⟩)
                · refine Goes.on (T' := T405) (g' := (mkF m 104 #[sR b_, sI c_, sD (dv p_), s2, sJ x_, s2, sI 2, sI st_, sI (st_ + (2 : Int32)), sI ((st_ + (1 : Int32)) + (1 : Int32)), su] [])) (fun _ k => XS.ifYes X405.here hx rfl (pc0 := 97) (pc' := 101) rfl (dc d8_97) rfl (XT.ll_ne_t hc407) (by decide) (by decide) (XT.iincV X405.here hx rfl (1 : Int32) (dc d8_101) (by decide) rfl (l' := #[sR b_, sI c_, sD (dv p_), s2, sJ x_, s2, sI 2, sI st_, sI (st_ + (2 : Int32)), sI ((st_ + (1 : Int32)) + (1 : Int32)), su]) rfl k)) ?_
                  rw [own_a11 hS]
                  refine Goes.on (T' := T405) (g' := (mkF m 107 #[sR b_, sI c_, sD (dv p_), s2, sJ x_, s2, sI 2, sI st_, sI (st_ + (2 : Int32)), sI (st_ + (2 : Int32)), su] [])) (fun _ k => XS.goto X405.here hx rfl (pc0 := 104) (pc' := 68) rfl (dc d8_104) (by decide) (by decide) (XS.iload X405.here hx rfl (dc d8_68) rfl (XS.iload X405.here hx rfl (dc d8_70) rfl (XS.icmpYes X405.here hx rfl (pc0 := 72) (pc' := 107) rfl (dc d8_72) rfl (XT.ii_ge_t (own_irr _)) (by decide) (by decide) k)))) ?_
                  exact J277 (by omega) T405 _ X405 e405 N401
              · refine Goes.on (T' := T402) (g' := (mkF m 107 #[sR b_, sI c_, sD (dv p_), s2, sJ x_, s2, sI 2, sI st_, sI (st_ + (2 : Int32)), sI (st_ + (1 : Int32)), su] [])) (fun _ k => XS.ifYes X402.here hx rfl (pc0 := 84) (pc' := 107) rfl (dc d8_84) rfl (dd_ne_t hc404) (by decide) (by decide) k) ?_
                exact J156 (by omega) T402 _ X402 e402 N401
            · refine Goes.callP X34 hx hZ 0 hown (ow 66 rfl) (ow 67 rfl) (ow 68 rfl) (ow 1 rfl) (ow 2 rfl) (ow 69 rfl) (by decide) e34 P8_0 (rmLB2ff l Z a0 hw b_ ya8 (M_ * 3) ptg_8 st_ p_ T8.heap n0 Z32  P8_0 P8_4 P8_9 hS b0 b1 hc398 hc400) (by decide) (by decide) (by decide) (by decide) rfl (by rw [hml]; rfl) (argsL := [(.int st_), (.int (st_ + (2 : Int32))), (.double (dv p_))]) (rest := []) rfl (lenOf pd_3 rfl) rfl (own_le20 rfl) (dc d8_63) ?_
              rintro v408 T408 L408 X408 ⟨rfl, N408q, e408⟩
              have N408 := Fr.app N8 N408q
              show Goes p e below _ T408 (mkF m 66 #[sR b_, sI c_, sD (dv p_), s2, sJ x_, s2, sI 2, sI st_, sI (st_ + (2 : Int32)), su, su] [(.int st_)])
              obtain ⟨T409, X409, e409, st409⟩ := getF X408 hx hZ hown (host := "") (Or.inl (ow 46 rfl)) Via.refl e408 P8_4 (g := (mkF m 76 #[sR b_, sI c_, sD (dv p_), s2, sJ x_, s2, sI 2, sI st_, sI (st_ + (2 : Int32)), sI st_, su] [(.ref b_)])) rfl rfl (dc d8_76)
              refine Goes.on (T' := T409) (g' := (mkF m 84 #[sR b_, sI c_, sD (dv p_), s2, sJ x_, s2, sI 2, sI st_, sI (st_ + (2 : Int32)), sI st_, su] [(.int (cmpValue (FP.dcmp (dv (ptg_8 st_.toNatClampNeg)) (dv p_)) .l))])) (fun _ k => XS.istore X408.here hx rfl (dc d8_66) rfl (l' := #[sR b_, sI c_, sD (dv p_), s2, sJ x_, s2, sI 2, sI st_, sI (st_ + (2 : Int32)), sI st_, su]) rfl (XS.iload X408.here hx rfl (dc d8_68) rfl (XS.iload X408.here hx rfl (dc d8_70) rfl (XS.icmpNo X408.here hx rfl (dc d8_72) rfl (XT.ii_ge_f (own_lt02 hS)) (XS.aloadN X408.here hx rfl (dc d8_75) rfl rfl (st409 _ (XS.iload X409.here hx rfl (dc d8_79) rfl (ldKm X409 hx hZ e409 P8_9 b0 (dc d8_81) (XS.dloadN X409.here hx rfl (dc d8_82) rfl (XS.dcmpS X409.here hx rfl (dc d8_83) rfl rfl k)))))))))) ?_
              by_cases hc411 : (ptg_8 st_.toNatClampNeg).1 = p_.1
              · obtain ⟨T412, X412, e412, st412⟩ := getF X409 hx hZ hown (host := "") (Or.inl (ow 49 rfl)) Via.refl e409 P8_5 (g := (mkF m 88 #[sR b_, sI c_, sD (dv p_), s2, sJ x_, s2, sI 2, sI st_, sI (st_ + (2 : Int32)), sI st_, su] [(.ref b_)])) rfl rfl (dc d8_88)
                refine Goes.on (T' := T412) (g' := (mkF m 97 #[sR b_, sI c_, sD (dv p_), s2, sJ x_, s2, sI 2, sI st_, sI (st_ + (2 : Int32)), sI st_, su] [(.int (XT.cmpL (idg_8 st_.toNatClampNeg) x_))])) (fun _ k => XS.ifNo X409.here hx rfl (dc d8_84) rfl (dd_ne_f hc411) (XS.aloadN X409.here hx rfl (dc d8_87) rfl rfl (st412 _ (XS.iload X412.here hx rfl (dc d8_91) rfl (ldJm X412 hx hZ e412 P8_11 b0 (dc d8_93) (XS.lload X412.here hx rfl (dc d8_94) rfl (XT.lcmp X412.here hx rfl (dc d8_96) rfl k))))))) ?_
                by_cases hc414 : (idg_8 st_.toNatClampNeg) = x_
                · refine Goes.on (T' := T412) (g' := (mkF m 100 #[sR b_, sI c_, sD (dv p_), s2, sJ x_, s2, sI 2, sI st_, sI (st_ + (2 : Int32)), sI st_, su] [])) (fun _ k => XS.ifNo X412.here hx rfl (dc d8_97) rfl (XT.ll_ne_f hc414) k) ?_
                  rw [n1.1] at hc398
                  have O : own_one (2 : Int32) (ptg_8 st_.toNatClampNeg) (idg_8 st_.toNatClampNeg) p_ x_ (2 : Int32) (th_ c_.toNatClampNeg) (ptg_8 st_.toNatClampNeg) (ptg_8 (st_.toNatClampNeg + 1)) (idg_8 st_.toNatClampNeg) := by
                    refine ⟨by decide, by decide, ?_, ?_, ?_, ?_⟩
                    · exact fun q => by
                       rcases q with q | q
                       · exact absurd q (by decide)
                       · exfalso; omega
                    · exact fun _ => ⟨rfl, rfl⟩
                    · exact fun _ => by omega
                    · exact fun _ => by omega
                  have Z4 : ((2 : Int32)).toInt ≤ ((3 : Int32).toNatClampNeg : Int) := by
                    have q : ((2 : Int32)).toInt = 2 := rfl
                    omega
                  have LR : own_lr c_.toNatClampNeg st_.toNatClampNeg (3 : Int32).toNatClampNeg sz_ th_ ptg_8 idg_8 p_ x_ sz_ th_ ptg_8 idg_8 := ⟨fun i hi => ⟨rfl, rfl⟩, fun y hy => ⟨rfl, rfl⟩, own_oc hsz hsz rfl rfl rfl rfl O, by rw [hsz]; exact Z4⟩
                  exact Goes.retV X412 hx hlk hret (dc d8_100) (by decide) (by decide) (by rw [e412]; exact ⟨ya8, yb8, (M_ * 3), (3 : Int32), q_, sz_, th_, ptg_8, idg_8, rfl, N408, K33, P8_1, P8_2, P8_6, P8_3, P8_4, P8_5, P8_7, C24, C25, P8_9, P8_11, P8_8, P8_10, G14, G21, ne11, Or.inr M22, Or.inr M15, own_gr_ir hNN hC3 (by decide) (by decide) hc.2 hz (by rw [hsz]; decide) R8_0 R8_1 hk LR⟩)
                · obtain ⟨T415, X415, e415, st415⟩ := getF X412 hx hZ hown (host := "") (Or.inl (ow 46 rfl)) Via.refl e412 P8_4 (g := (mkF m 76 #[sR b_, sI c_, sD (dv p_), s2, sJ x_, s2, sI 2, sI st_, sI (st_ + (2 : Int32)), sI (st_ + (1 : Int32)), su] [(.ref b_)])) rfl rfl (dc d8_76)
                  refine Goes.on (T' := T415) (g' := (mkF m 84 #[sR b_, sI c_, sD (dv p_), s2, sJ x_, s2, sI 2, sI st_, sI (st_ + (2 : Int32)), sI (st_ + (1 : Int32)), su] [(.int (cmpValue (FP.dcmp (dv (ptg_8 (st_ + (1 : Int32)).toNatClampNeg)) (dv p_)) .l))])) (fun _ k => XS.ifYes X412.here hx rfl (pc0 := 97) (pc' := 101) rfl (dc d8_97) rfl (XT.ll_ne_t hc414) (by decide) (by decide) (XT.iincV X412.here hx rfl (1 : Int32) (dc d8_101) (by decide) rfl (l' := #[sR b_, sI c_, sD (dv p_), s2, sJ x_, s2, sI 2, sI st_, sI (st_ + (2 : Int32)), sI (st_ + (1 : Int32)), su]) rfl (XS.goto X412.here hx rfl (pc0 := 104) (pc' := 68) rfl (dc d8_104) (by decide) (by decide) (XS.iload X412.here hx rfl (dc d8_68) rfl (XS.iload X412.here hx rfl (dc d8_70) rfl (XS.icmpNo X412.here hx rfl (dc d8_72) rfl (XT.ii_ge_f (own_lt12 hS)) (XS.aloadN X412.here hx rfl (dc d8_75) rfl rfl (st415 _ (XS.iload X415.here hx rfl (dc d8_79) rfl (ldKm X415 hx hZ e415 P8_9 b1 (dc d8_81) (XS.dloadN X415.here hx rfl (dc d8_82) rfl (XS.dcmpS X415.here hx rfl (dc d8_83) rfl rfl k)))))))))))) ?_
                  by_cases hc417 : (ptg_8 (st_ + (1 : Int32)).toNatClampNeg).1 = p_.1
                  · obtain ⟨T418, X418, e418, st418⟩ := getF X415 hx hZ hown (host := "") (Or.inl (ow 49 rfl)) Via.refl e415 P8_5 (g := (mkF m 88 #[sR b_, sI c_, sD (dv p_), s2, sJ x_, s2, sI 2, sI st_, sI (st_ + (2 : Int32)), sI (st_ + (1 : Int32)), su] [(.ref b_)])) rfl rfl (dc d8_88)
                    refine Goes.on (T' := T418) (g' := (mkF m 97 #[sR b_, sI c_, sD (dv p_), s2, sJ x_, s2, sI 2, sI st_, sI (st_ + (2 : Int32)), sI (st_ + (1 : Int32)), su] [(.int (XT.cmpL (idg_8 (st_ + (1 : Int32)).toNatClampNeg) x_))])) (fun _ k => XS.ifNo X415.here hx rfl (dc d8_84) rfl (dd_ne_f hc417) (XS.aloadN X415.here hx rfl (dc d8_87) rfl rfl (st418 _ (XS.iload X418.here hx rfl (dc d8_91) rfl (ldJm X418 hx hZ e418 P8_11 b1 (dc d8_93) (XS.lload X418.here hx rfl (dc d8_94) rfl (XT.lcmp X418.here hx rfl (dc d8_96) rfl k))))))) ?_
                    by_cases hc420 : (idg_8 (st_ + (1 : Int32)).toNatClampNeg) = x_
                    · refine Goes.on (T' := T418) (g' := (mkF m 100 #[sR b_, sI c_, sD (dv p_), s2, sJ x_, s2, sI 2, sI st_, sI (st_ + (2 : Int32)), sI (st_ + (1 : Int32)), su] [])) (fun _ k => XS.ifNo X418.here hx rfl (dc d8_97) rfl (XT.ll_ne_f hc420) k) ?_
                      rw [n1.1] at hc398
                      rw [n1.1] at hc417
                      rw [n1.1] at hc420
                      have O : own_one (2 : Int32) (ptg_8 st_.toNatClampNeg) (idg_8 st_.toNatClampNeg) p_ x_ (2 : Int32) (th_ c_.toNatClampNeg) (ptg_8 st_.toNatClampNeg) (ptg_8 (st_.toNatClampNeg + 1)) (idg_8 st_.toNatClampNeg) := by
                        refine ⟨by decide, by decide, ?_, ?_, ?_, ?_⟩
                        · exact fun q => by
                           rcases q with q | q
                           · exact absurd q (by decide)
                           · exfalso; omega
                        · exact fun _ => ⟨rfl, rfl⟩
                        · exact fun _ => by omega
                        · exact fun _ => by omega
                      have Z4 : ((2 : Int32)).toInt ≤ ((3 : Int32).toNatClampNeg : Int) := by
                        have q : ((2 : Int32)).toInt = 2 := rfl
                        omega
                      have LR : own_lr c_.toNatClampNeg st_.toNatClampNeg (3 : Int32).toNatClampNeg sz_ th_ ptg_8 idg_8 p_ x_ sz_ th_ ptg_8 idg_8 := ⟨fun i hi => ⟨rfl, rfl⟩, fun y hy => ⟨rfl, rfl⟩, own_oc hsz hsz rfl rfl rfl rfl O, by rw [hsz]; exact Z4⟩
                      exact Goes.retV X418 hx hlk hret (dc d8_100) (by decide) (by decide) (by rw [e418]; exact ⟨ya8, yb8, (M_ * 3), (3 : Int32), q_, sz_, th_, ptg_8, idg_8, rfl, N408, K33, P8_1, P8_2, P8_6, P8_3, P8_4, P8_5, P8_7, C24, C25, P8_9, P8_11, P8_8, P8_10, G14, G21, ne11, Or.inr M22, Or.inr M15, own_gr_ir hNN hC3 (by decide) (by decide) hc.2 hz (by rw [hsz]; decide) R8_0 R8_1 hk LR⟩)
                    · refine Goes.on (T' := T418) (g' := (mkF m 104 #[sR b_, sI c_, sD (dv p_), s2, sJ x_, s2, sI 2, sI st_, sI (st_ + (2 : Int32)), sI ((st_ + (1 : Int32)) + (1 : Int32)), su] [])) (fun _ k => XS.ifYes X418.here hx rfl (pc0 := 97) (pc' := 101) rfl (dc d8_97) rfl (XT.ll_ne_t hc420) (by decide) (by decide) (XT.iincV X418.here hx rfl (1 : Int32) (dc d8_101) (by decide) rfl (l' := #[sR b_, sI c_, sD (dv p_), s2, sJ x_, s2, sI 2, sI st_, sI (st_ + (2 : Int32)), sI ((st_ + (1 : Int32)) + (1 : Int32)), su]) rfl k)) ?_
                      rw [own_a11 hS]
                      refine Goes.on (T' := T418) (g' := (mkF m 107 #[sR b_, sI c_, sD (dv p_), s2, sJ x_, s2, sI 2, sI st_, sI (st_ + (2 : Int32)), sI (st_ + (2 : Int32)), su] [])) (fun _ k => XS.goto X418.here hx rfl (pc0 := 104) (pc' := 68) rfl (dc d8_104) (by decide) (by decide) (XS.iload X418.here hx rfl (dc d8_68) rfl (XS.iload X418.here hx rfl (dc d8_70) rfl (XS.icmpYes X418.here hx rfl (pc0 := 72) (pc' := 107) rfl (dc d8_72) rfl (XT.ii_ge_t (own_irr _)) (by decide) (by decide) k)))) ?_
                      exact J277 (by omega) T418 _ X418 e418 N408
                  · refine Goes.on (T' := T415) (g' := (mkF m 107 #[sR b_, sI c_, sD (dv p_), s2, sJ x_, s2, sI 2, sI st_, sI (st_ + (2 : Int32)), sI (st_ + (1 : Int32)), su] [])) (fun _ k => XS.ifYes X415.here hx rfl (pc0 := 84) (pc' := 107) rfl (dc d8_84) rfl (dd_ne_t hc417) (by decide) (by decide) k) ?_
                    exact J156 (by omega) T415 _ X415 e415 N408
              · refine Goes.on (T' := T409) (g' := (mkF m 107 #[sR b_, sI c_, sD (dv p_), s2, sJ x_, s2, sI 2, sI st_, sI (st_ + (2 : Int32)), sI st_, su] [])) (fun _ k => XS.ifYes X409.here hx rfl (pc0 := 84) (pc' := 107) rfl (dc d8_84) rfl (dd_ne_t hc411) (by decide) (by decide) k) ?_
                exact J35 (by omega) T409 _ X409 e409 N408
theorem rmIns (l : Launch) (Z : State) (a0 : Array Value) (hw : TW Z a0) (j : Nat) (b_ S_ T_ P_ I_ : Addr) (M_ N_ : Nat) (c_ cap_ l_ q_ : Int32) (sz_ : Nat → Int32) (th_ pt_ : Nat → DK) (id_ : Nat → Int64) (pp : Int32) (x_ : Int64) (h0 : Heap) (n0 : Nat) (Z0 : n0 ≤ h0.size) (hs_ bp_ : Nat → Int32) (bi_ : Nat → Int64) (E0 : Exa Z h0 b_ "com/example/boceto/boceto/signature/ComponentBuffers") (F1 : Fld Z h0 b_ "com/example/boceto/boceto/signature/ComponentBuffers" "_bufferSize" "I" (.int l_)) (F2 : Fld Z h0 b_ "com/example/boceto/boceto/signature/ComponentBuffers" "_sizes" "[I" (.ref S_)) (F3 : Fld Z h0 b_ "com/example/boceto/boceto/signature/ComponentBuffers" "_thresholds" "[D" (.ref T_)) (F4 : Fld Z h0 b_ "com/example/boceto/boceto/signature/ComponentBuffers" "_capacity" "I" (.int cap_)) (F5 : Fld Z h0 b_ "com/example/boceto/boceto/signature/ComponentBuffers" "_points" "[D" (.ref P_)) (F6 : Fld Z h0 b_ "com/example/boceto/boceto/signature/ComponentBuffers" "_identities" "[J" (.ref I_)) (F7 : Fld Z h0 b_ "com/example/boceto/boceto/signature/ComponentBuffers" "_pointCount" "I" (.int q_)) (A1 : Arf Z h0 S_ .int Value.int M_ sz_) (A2 : Arf Z h0 T_ .double vD M_ th_) (A3 : Arf Z h0 P_ .double vD N_ pt_) (A4 : Arf Z h0 I_ .long Value.long N_ id_) (E1 : Exa Z h0 S_ "[I") (E2 : Exa Z h0 T_ "[D") (E3 : Exa Z h0 P_ "[D") (E4 : Exa Z h0 I_ "[J") (nTP : T_ ≠ P_) (g0 : n0 ≤ b_) (g1 : n0 ≤ S_) (g2 : n0 ≤ T_) (g3 : n0 ≤ P_) (g4 : n0 ≤ I_) (hc : ¬ c_ < 0 ∧ c_.toNatClampNeg < M_) (hcc : c_ = (0 : Int32) ∨ c_ = (1 : Int32) ∨ c_ = (2 : Int32)) (hM : M_ = 1 ∨ M_ = 2 ∨ M_ = 3) (hN : N_ = M_ * cap_.toNatClampNeg) (hcl : cap_.toInt ≤ l_.toInt) (hj : j ≤ 2) (hl : l_ = (1 : Int32) ∨ l_ = (2 : Int32) ∨ l_ = (3 : Int32)) (I : own_inv j M_ N_ cap_ l_ sz_ th_ pt_ id_ hs_ bp_ bi_) :
    Pays l Z (⟨"com/example/boceto/boceto/signature/ComponentBuffers", "insert", "(IDJ)V"⟩ : MethodName) prog_28_method_6_code 11 none [] ({ frames := 2, cells := 2, slots := 18, locals := 60 } : Room) #[(.ref b_), (.int c_), (.double (dv (dint pp))), (.long x_)] h0 (fun v h L => ∃ (P2 I2 : Addr) (N2 : Nat) (cp2 q2 : Int32) (sz2 : Nat → Int32) (th2 pt2 : Nat → DK) (id2 : Nat → Int64), v = none ∧ Fr n0 L ∧ Keep h0 h [b_, S_, T_, P_, I_] ∧ Fld Z h b_ "com/example/boceto/boceto/signature/ComponentBuffers" "_bufferSize" "I" (.int l_) ∧ Fld Z h b_ "com/example/boceto/boceto/signature/ComponentBuffers" "_sizes" "[I" (.ref S_) ∧ Fld Z h b_ "com/example/boceto/boceto/signature/ComponentBuffers" "_thresholds" "[D" (.ref T_) ∧ Fld Z h b_ "com/example/boceto/boceto/signature/ComponentBuffers" "_capacity" "I" (.int cp2) ∧ Fld Z h b_ "com/example/boceto/boceto/signature/ComponentBuffers" "_points" "[D" (.ref P2) ∧ Fld Z h b_ "com/example/boceto/boceto/signature/ComponentBuffers" "_identities" "[J" (.ref I2) ∧ Fld Z h b_ "com/example/boceto/boceto/signature/ComponentBuffers" "_pointCount" "I" (.int q2) ∧ Arf Z h S_ .int Value.int M_ sz2 ∧ Arf Z h T_ .double vD M_ th2 ∧ Arf Z h P2 .double vD N2 pt2 ∧ Arf Z h I2 .long Value.long N2 id2 ∧ Exa Z h P2 "[D" ∧ Exa Z h I2 "[J" ∧ n0 ≤ P2 ∧ n0 ≤ I2 ∧ T_ ≠ P2 ∧ (I2 = I_ ∨ h0.size ≤ I2) ∧ (P2 = P_ ∨ h0.size ≤ P2) ∧ own_ir M_ c_.toNatClampNeg cap_ l_ sz_ th_ pt_ id_ (dint pp) x_ cp2 N2 sz2 th2 pt2 id2) := by
  have hz := own_hz I
  obtain ⟨-, i2, -, i4⟩ := I
  obtain ⟨s1, s2, cm⟩ := i4 _ hc.2
  rcases cm with ⟨a, bb, d⟩ | ⟨a, bb, d, e, f⟩ | ⟨a, bb, d, e, f, gg⟩ | ⟨a, bb, d, e⟩
  · have ht : ¬ (th_ c_.toNatClampNeg).1 < (dint pp).1 := by rw [bb]; exact own_dinf pp
    have hl0 : ¬ (0 : Int32) = l_ := by rcases hl with rfl | rfl | rfl <;> decide
    exact rmI0n l Z a0 hw b_ S_ T_ P_ I_ M_ N_ c_ cap_ l_ q_ sz_ th_ pt_ id_ (dint pp) x_ h0 n0 Z0 E0 F1 F2 F3 F4 F5 F6 F7 A1 A2 A3 A4 E1 E2 E3 E4 nTP g0 g1 g2 g3 g4 hc hcc hM hN hcl hz a i2 ht hl0
  · rcases i2 with rfl | rfl | rfl
    · rcases hl with rfl | rfl | rfl
      · exact rmI1f l Z a0 hw b_ S_ T_ P_ I_ M_ N_ c_ q_ sz_ th_ pt_ id_ (dint pp) x_ h0 n0 Z0 E0 F1 F2 F3 F4 F5 F6 F7 A1 A2 A3 A4 E1 E2 E3 E4 nTP g0 g1 g2 g3 g4 hc hcc hM hN hcl hz a f
      · exact rmI1g l Z a0 hw b_ S_ T_ P_ I_ M_ N_ c_ (2 : Int32) q_ sz_ th_ pt_ id_ (dint pp) x_ h0 n0 Z0 E0 F1 F2 F3 F4 F5 F6 F7 A1 A2 A3 A4 E1 E2 E3 E4 nTP g0 g1 g2 g3 g4 hc hcc hM hN hcl hz a (Or.inl rfl) f
      · exact rmI1g l Z a0 hw b_ S_ T_ P_ I_ M_ N_ c_ (3 : Int32) q_ sz_ th_ pt_ id_ (dint pp) x_ h0 n0 Z0 E0 F1 F2 F3 F4 F5 F6 F7 A1 A2 A3 A4 E1 E2 E3 E4 nTP g0 g1 g2 g3 g4 hc hcc hM hN hcl hz a (Or.inr rfl) f
    · have hl0 : ¬ (1 : Int32) = l_ := by rcases hl with rfl | rfl | rfl <;> first | decide | (exfalso; revert hcl; decide)
      exact rmI1n l Z a0 hw b_ S_ T_ P_ I_ M_ N_ c_ (2 : Int32) l_ q_ sz_ th_ pt_ id_ (dint pp) x_ h0 n0 Z0 E0 F1 F2 F3 F4 F5 F6 F7 A1 A2 A3 A4 E1 E2 E3 E4 nTP g0 g1 g2 g3 g4 hc hcc hM hN hcl hz a (Or.inl rfl) hl0 f
    · have hl0 : ¬ (1 : Int32) = l_ := by rcases hl with rfl | rfl | rfl <;> first | decide | (exfalso; revert hcl; decide)
      exact rmI1n l Z a0 hw b_ S_ T_ P_ I_ M_ N_ c_ (3 : Int32) l_ q_ sz_ th_ pt_ id_ (dint pp) x_ h0 n0 Z0 E0 F1 F2 F3 F4 F5 F6 F7 A1 A2 A3 A4 E1 E2 E3 E4 nTP g0 g1 g2 g3 g4 hc hcc hM hN hcl hz a (Or.inr rfl) hl0 f
  · rcases i2 with rfl | rfl | rfl
    · exfalso
      rw [a] at s2
      revert s2
      decide
    · rcases hl with rfl | rfl | rfl
      · exfalso
        revert hcl
        decide
      · exact rmI2f l Z a0 hw b_ S_ T_ P_ I_ M_ N_ c_ q_ sz_ th_ pt_ id_ (dint pp) x_ h0 n0 Z0 E0 F1 F2 F3 F4 F5 F6 F7 A1 A2 A3 A4 E1 E2 E3 E4 nTP g0 g1 g2 g3 g4 hc hcc hM hN hcl hz a f gg
      · exact rmI2g l Z a0 hw b_ S_ T_ P_ I_ M_ N_ c_ q_ sz_ th_ pt_ id_ (dint pp) x_ h0 n0 Z0 E0 F1 F2 F3 F4 F5 F6 F7 A1 A2 A3 A4 E1 E2 E3 E4 nTP g0 g1 g2 g3 g4 hc hcc hM hN hcl hz a f gg
    · rcases hl with rfl | rfl | rfl
      · exfalso
        revert hcl
        decide
      · exfalso
        revert hcl
        decide
      · exact rmI2n l Z a0 hw b_ S_ T_ P_ I_ M_ N_ c_ q_ sz_ th_ pt_ id_ (dint pp) x_ h0 n0 Z0 E0 F1 F2 F3 F4 F5 F6 F7 A1 A2 A3 A4 E1 E2 E3 E4 nTP g0 g1 g2 g3 g4 hc hcc hM hN hcl hz a f gg
  · exfalso
    have k3 : (3 : Int32).toInt = 3 := rfl
    rw [a, k3] at s1
    omega
abbrev c7C := method_3_code
theorem d7_0 : decode c7C 0 = .ok (.iload 5, 2) := by decide +kernel
theorem d7_2 : decode c7C 2 = .ok (.iconst 3, 1) := by decide +kernel
theorem d7_3 : decode c7C 3 = .ok (.iand, 1) := by decide +kernel
theorem d7_4 : decode c7C 4 = .ok (.iload 4, 2) := by decide +kernel
theorem d7_6 : decode c7C 6 = .ok (.irem, 1) := by decide +kernel
theorem d7_7 : decode c7C 7 = .ok (.istore 8, 2) := by decide +kernel
theorem d7_9 : decode c7C 9 = .ok (.iload 5, 2) := by decide +kernel
theorem d7_11 : decode c7C 11 = .ok (.iconst 2, 1) := by decide +kernel
theorem d7_12 : decode c7C 12 = .ok (.iushr, 1) := by decide +kernel
theorem d7_13 : decode c7C 13 = .ok (.bipush 7, 2) := by decide +kernel
theorem d7_15 : decode c7C 15 = .ok (.iand, 1) := by decide +kernel
theorem d7_16 : decode c7C 16 = .ok (.iconst 4, 1) := by decide +kernel
theorem d7_17 : decode c7C 17 = .ok (.isub, 1) := by decide +kernel
theorem d7_18 : decode c7C 18 = .ok (.istore 9, 2) := by decide +kernel
theorem d7_20 : decode c7C 20 = .ok (.aload_n 0, 1) := by decide +kernel
theorem d7_21 : decode c7C 21 = .ok (.iload 8, 2) := by decide +kernel
theorem d7_23 : decode c7C 23 = .ok (.iload 9, 2) := by decide +kernel
theorem d7_25 : decode c7C 25 = .ok (.i2d, 1) := by decide +kernel
theorem d7_26 : decode c7C 26 = .ok (.lload 6, 2) := by decide +kernel
theorem pd_6 : parseMethodDescriptor "(IDJ)V" = some ⟨[.int, .double, .long], none⟩ := by decide +kernel
theorem d7_28 : decode c7C 28 = .ok (.invokevirtual 22, 3) := by decide +kernel
theorem d7_31 : decode c7C 31 = .ok (.aload_n 1, 1) := by decide +kernel
theorem d7_32 : decode c7C 32 = .ok (.iload 8, 2) := by decide +kernel
theorem d7_34 : decode c7C 34 = .ok (.baload, 1) := by decide +kernel
theorem d7_35 : decode c7C 35 = .ok (.ifCond .eq 12, 3) := by decide +kernel
theorem d7_47 : decode c7C 47 = .ok (.aload_n 1, 1) := by decide +kernel
theorem d7_48 : decode c7C 48 = .ok (.iload 8, 2) := by decide +kernel
theorem d7_50 : decode c7C 50 = .ok (.iconst 1, 1) := by decide +kernel
theorem d7_51 : decode c7C 51 = .ok (.bastore, 1) := by decide +kernel
theorem d7_52 : decode c7C 52 = .ok (.aload_n 2, 1) := by decide +kernel
theorem d7_53 : decode c7C 53 = .ok (.iload 8, 2) := by decide +kernel
theorem d7_55 : decode c7C 55 = .ok (.iload 9, 2) := by decide +kernel
theorem d7_57 : decode c7C 57 = .ok (.iastore, 1) := by decide +kernel
theorem d7_58 : decode c7C 58 = .ok (.aload_n 3, 1) := by decide +kernel
theorem d7_59 : decode c7C 59 = .ok (.iload 8, 2) := by decide +kernel
theorem d7_61 : decode c7C 61 = .ok (.lload 6, 2) := by decide +kernel
theorem d7_63 : decode c7C 63 = .ok (.lastore, 1) := by decide +kernel
theorem d7_64 : decode c7C 64 = .ok (.return_, 1) := by decide +kernel
theorem d7_38 : decode c7C 38 = .ok (.iload 9, 2) := by decide +kernel
theorem d7_40 : decode c7C 40 = .ok (.aload_n 2, 1) := by decide +kernel
theorem d7_41 : decode c7C 41 = .ok (.iload 8, 2) := by decide +kernel
theorem d7_43 : decode c7C 43 = .ok (.iaload, 1) := by decide +kernel
theorem d7_44 : decode c7C 44 = .ok (.if_icmp .ge 20, 3) := by decide +kernel
theorem ef_7 (m : MethodId) (x0 : Addr) (x1 : Addr) (x2 : Addr) (x3 : Addr) (x4 : Int32) (x5 : Int32) (x6 : Int64) : entryFrame m #[(.ref x0), (.ref x1), (.ref x2), (.ref x3), (.int x4), (.int x5), (.long x6)] 10 = mkF m 0 #[.val (.ref x0), .val (.ref x1), .val (.ref x2), .val (.ref x3), .val (.int x4), .val (.int x5), .val (.long x6), .second, .unset, .unset] [] := by first | (simp [entryFrame, mkF, argsToLocals, Value.category]; done) | rfl
theorem pn_4 : plainName "com/example/boceto/boceto/signature/ComponentBuffersMinimumIdentitiesPinLaw" = true := by first | (simp [plainName, overriddenIn]; done) | decide +kernel
theorem rmSt (l : Launch) (Z : State) (a0 : Array Value) (hw : TW Z a0) (j : Nat) (b_ S_ T_ P_ I_ H_ B_ D_ : Addr) (M_ N_ : Nat) (m_ a_ cap_ l_ q_ : Int32) (x_ : Int64) (sz_ : Nat → Int32) (th_ pt_ : Nat → DK) (id_ : Nat → Int64) (hs_ bp_ : Nat → Int32) (bi_ : Nat → Int64) (h0 : Heap) (n0 : Nat) (Z0 : n0 ≤ h0.size) (E0 : Exa Z h0 b_ "com/example/boceto/boceto/signature/ComponentBuffers") (F1 : Fld Z h0 b_ "com/example/boceto/boceto/signature/ComponentBuffers" "_bufferSize" "I" (.int l_)) (F2 : Fld Z h0 b_ "com/example/boceto/boceto/signature/ComponentBuffers" "_sizes" "[I" (.ref S_)) (F3 : Fld Z h0 b_ "com/example/boceto/boceto/signature/ComponentBuffers" "_thresholds" "[D" (.ref T_)) (F4 : Fld Z h0 b_ "com/example/boceto/boceto/signature/ComponentBuffers" "_capacity" "I" (.int cap_)) (F5 : Fld Z h0 b_ "com/example/boceto/boceto/signature/ComponentBuffers" "_points" "[D" (.ref P_)) (F6 : Fld Z h0 b_ "com/example/boceto/boceto/signature/ComponentBuffers" "_identities" "[J" (.ref I_)) (F7 : Fld Z h0 b_ "com/example/boceto/boceto/signature/ComponentBuffers" "_pointCount" "I" (.int q_)) (A1 : Arf Z h0 S_ .int Value.int M_ sz_) (A2 : Arf Z h0 T_ .double vD M_ th_) (A3 : Arf Z h0 P_ .double vD N_ pt_) (A4 : Arf Z h0 I_ .long Value.long N_ id_) (E1 : Exa Z h0 S_ "[I") (E2 : Exa Z h0 T_ "[D") (E3 : Exa Z h0 P_ "[D") (E4 : Exa Z h0 I_ "[J") (A5 : Arf Z h0 H_ .boolean Value.int 3 hs_) (A6 : Arf Z h0 B_ .int Value.int 3 bp_) (A7 : Arf Z h0 D_ .long Value.long 3 bi_) (E5 : Exa Z h0 H_ "[Z") (E6 : Exa Z h0 B_ "[I") (E7 : Exa Z h0 D_ "[J") (nTP : T_ ≠ P_) (nID : I_ ≠ D_) (nSB : S_ ≠ B_) (g0 : n0 ≤ b_) (g1 : n0 ≤ S_) (g2 : n0 ≤ T_) (g3 : n0 ≤ P_) (g4 : n0 ≤ I_) (g5 : n0 ≤ H_) (g6 : n0 ≤ B_) (g7 : n0 ≤ D_) (hj : j ≤ 2) (hl : l_ = (1 : Int32) ∨ l_ = (2 : Int32) ∨ l_ = (3 : Int32)) (hM : (m_ = (1 : Int32) ∧ M_ = 1) ∨ (m_ = (2 : Int32) ∧ M_ = 2) ∨ (m_ = (3 : Int32) ∧ M_ = 3)) (I : own_inv j M_ N_ cap_ l_ sz_ th_ pt_ id_ hs_ bp_ bi_) :
    Pays l Z (⟨"com/example/boceto/boceto/signature/ComponentBuffersMinimumIdentitiesPinLaw", "step", "(Lcom/example/boceto/boceto/signature/ComponentBuffers;[Z[I[JIIJ)V"⟩ : MethodName) method_3_code 10 none [] ({ frames := 3, cells := 2, slots := 18, locals := 84 } : Room) #[(.ref b_), (.ref H_), (.ref B_), (.ref D_), (.int m_), (.int a_), (.long x_)] h0 (fun v h L => ∃ (P2 I2 : Addr) (N2 : Nat) (cp2 q2 : Int32) (sz2 : Nat → Int32) (th2 pt2 : Nat → DK) (id2 : Nat → Int64) (hs2 bp2 : Nat → Int32) (bi2 : Nat → Int64), v = none ∧ Fr n0 L ∧ Keep h0 h [b_, S_, T_, P_, I_, H_, B_, D_] ∧ Fld Z h b_ "com/example/boceto/boceto/signature/ComponentBuffers" "_bufferSize" "I" (.int l_) ∧ Fld Z h b_ "com/example/boceto/boceto/signature/ComponentBuffers" "_sizes" "[I" (.ref S_) ∧ Fld Z h b_ "com/example/boceto/boceto/signature/ComponentBuffers" "_thresholds" "[D" (.ref T_) ∧ Fld Z h b_ "com/example/boceto/boceto/signature/ComponentBuffers" "_capacity" "I" (.int cp2) ∧ Fld Z h b_ "com/example/boceto/boceto/signature/ComponentBuffers" "_points" "[D" (.ref P2) ∧ Fld Z h b_ "com/example/boceto/boceto/signature/ComponentBuffers" "_identities" "[J" (.ref I2) ∧ Fld Z h b_ "com/example/boceto/boceto/signature/ComponentBuffers" "_pointCount" "I" (.int q2) ∧ Arf Z h S_ .int Value.int M_ sz2 ∧ Arf Z h T_ .double vD M_ th2 ∧ Arf Z h P2 .double vD N2 pt2 ∧ Arf Z h I2 .long Value.long N2 id2 ∧ Arf Z h H_ .boolean Value.int 3 hs2 ∧ Arf Z h B_ .int Value.int 3 bp2 ∧ Arf Z h D_ .long Value.long 3 bi2 ∧ Exa Z h P2 "[D" ∧ Exa Z h I2 "[J" ∧ n0 ≤ P2 ∧ n0 ≤ I2 ∧ T_ ≠ P2 ∧ I2 ≠ D_ ∧ own_inv (j + 1) M_ N2 cp2 l_ sz2 th2 pt2 id2 hs2 bp2 bi2) := by
  refine Pays.walk (plainFor_of_name pn_4) (fun m => ef_7 m b_ H_ B_ D_ m_ a_ x_ ) ?_
  intro p e s m below meth c T0 X0 hx hby hml hown hnm hZ e0 hret hlk
  have dc := @Jvm.hb _ _ hby
  have ebS : b_ ≠ S_ := ne_exa E0 E1 (by decide)
  have ebT : b_ ≠ T_ := ne_exa E0 E2 (by decide)
  have ebP : b_ ≠ P_ := ne_exa E0 E3 (by decide)
  have ebI : b_ ≠ I_ := ne_exa E0 E4 (by decide)
  have ebH : b_ ≠ H_ := ne_exa E0 E5 (by decide)
  have ebB : b_ ≠ B_ := ne_exa E0 E6 (by decide)
  have ebD : b_ ≠ D_ := ne_exa E0 E7 (by decide)
  have eST : S_ ≠ T_ := ne_exa E1 E2 (by decide)
  have eSP : S_ ≠ P_ := ne_exa E1 E3 (by decide)
  have eSI : S_ ≠ I_ := ne_exa E1 E4 (by decide)
  have eSH : S_ ≠ H_ := ne_exa E1 E5 (by decide)
  have eSD : S_ ≠ D_ := ne_exa E1 E7 (by decide)
  have eTI : T_ ≠ I_ := ne_exa E2 E4 (by decide)
  have eTH : T_ ≠ H_ := ne_exa E2 E5 (by decide)
  have eTB : T_ ≠ B_ := ne_exa E2 E6 (by decide)
  have eTD : T_ ≠ D_ := ne_exa E2 E7 (by decide)
  have ePI : P_ ≠ I_ := ne_exa E3 E4 (by decide)
  have ePH : P_ ≠ H_ := ne_exa E3 E5 (by decide)
  have ePB : P_ ≠ B_ := ne_exa E3 E6 (by decide)
  have ePD : P_ ≠ D_ := ne_exa E3 E7 (by decide)
  have eIH : I_ ≠ H_ := ne_exa E4 E5 (by decide)
  have eIB : I_ ≠ B_ := ne_exa E4 E6 (by decide)
  have eHB : H_ ≠ B_ := ne_exa E5 E6 (by decide)
  have eHD : H_ ≠ D_ := ne_exa E5 E7 (by decide)
  have eBD : B_ ≠ D_ := ne_exa E6 E7 (by decide)
  have K0 := Keep.refl h0 [b_, S_, T_, P_, I_, H_, B_, D_]
  have hnz : m_ ≠ 0 := by rcases hM with ⟨rfl, -⟩ | ⟨rfl, -⟩ | ⟨rfl, -⟩ <;> decide
  have hM3 : M_ = 1 ∨ M_ = 2 ∨ M_ = 3 := by rcases hM with ⟨-, h⟩ | ⟨-, h⟩ | ⟨-, h⟩ <;> omega
  have hI := I
  obtain ⟨hN, hcap, hcl, -⟩ := hI
  obtain ⟨hcc, hc⟩ := own_cM (a := a_) hM
  refine Goes.on (T' := T0) (g' := (mkF m 9 #[sR b_, sR H_, sR B_, sR D_, sI m_, sI a_, sJ x_, s2, sI ((a_ &&& (3 : Int32)) % m_), su] [])) (fun _ k => XS.iload X0.here hx rfl (dc d7_0) rfl (XS.iconst X0.here hx rfl (dc d7_2) (XS.iand X0.here hx rfl (dc d7_3) rfl (XS.iload X0.here hx rfl (dc d7_4) rfl (iremM X0 hx rfl (dc d7_6) rfl hnz (XS.istore X0.here hx rfl (dc d7_7) rfl (l' := #[sR b_, sR H_, sR B_, sR D_, sI m_, sI a_, sJ x_, s2, sI ((a_ &&& (3 : Int32)) % m_), su]) rfl k)))))) ?_
  generalize ((a_ &&& (3 : Int32)) % m_) = c_ at hcc hc ⊢
  refine Goes.on (T' := T0) (g' := (mkF m 20 #[sR b_, sR H_, sR B_, sR D_, sI m_, sI a_, sJ x_, s2, sI c_, sI (((a_.toUInt32 >>> ((2 : Int32) &&& 31).toUInt32).toInt32 &&& (7 : Int32)) - (4 : Int32))] [])) (fun _ k => XS.iload X0.here hx rfl (dc d7_9) rfl (XS.iconst X0.here hx rfl (dc d7_11) (XS.iushr X0.here hx rfl (dc d7_12) rfl (XS.bipush X0.here hx rfl (dc d7_13) (XS.iand X0.here hx rfl (dc d7_15) rfl (XS.iconst X0.here hx rfl (dc d7_16) (XS.isub X0.here hx rfl (dc d7_17) rfl (XS.istore X0.here hx rfl (dc d7_18) rfl (l' := #[sR b_, sR H_, sR B_, sR D_, sI m_, sI a_, sJ x_, s2, sI c_, sI (((a_.toUInt32 >>> ((2 : Int32) &&& 31).toUInt32).toInt32 &&& (7 : Int32)) - (4 : Int32))]) rfl k)))))))) ?_
  generalize (((a_.toUInt32 >>> ((2 : Int32) &&& 31).toUInt32).toInt32 &&& (7 : Int32)) - (4 : Int32)) = pp
  refine Goes.on (T' := T0) (g' := (mkF m 28 #[sR b_, sR H_, sR B_, sR D_, sI m_, sI a_, sJ x_, s2, sI c_, sI pp] [(.long x_), (.double (dv (dint pp))), (.int c_), (.ref b_)])) (fun _ k => XS.aloadN X0.here hx rfl (dc d7_20) rfl rfl (XS.iload X0.here hx rfl (dc d7_21) rfl (XS.iload X0.here hx rfl (dc d7_23) rfl (XS.i2dS X0.here hx rfl (dc d7_25) rfl (v := dv (dint pp)) (dv_int _) (XS.lload X0.here hx rfl (dc d7_26) rfl k))))) ?_
  refine Goes.callV X0 hx hZ 0 hown (own_w hw 61 rfl) (own_w hw 62 rfl) (notFace_of_selects (args := #[]) (mvT hZ (own_w hw 64 rfl))) (own_w hw 64 rfl) (own_w hw 63 rfl) (own_w hw 2 rfl) (own_w hw 65 rfl) (by decide) e0 E0 (rmIns l Z a0 hw j b_ S_ T_ P_ I_ M_ N_ c_ cap_ l_ q_ sz_ th_ pt_ id_ pp x_ h0 n0 Z0 hs_ bp_ bi_ E0 F1 F2 F3 F4 F5 F6 F7 A1 A2 A3 A4 E1 E2 E3 E4 nTP g0 g1 g2 g3 g4 hc hcc hM3 hN hcl hj hl I) (by decide) (by decide) (by decide) (by decide) rfl (by rw [hml]; rfl) (argsL := [(.int c_), (.double (dv (dint pp))), (.long x_)]) (rest := []) rfl (lenOf pd_6 rfl) rfl (own_le20 rfl) (dc d7_28) ?_
  rintro v1 T1 L1 X1 ⟨P2, I2, N2, cp2, q2, sz2, th2, pt2, id2, rfl, N1q, K1, f1, f2, f3, f4, f5, f6, f7, r1, r2, r3, r4, z1, z2, y1, y2, nTP2, oI, oP, IR⟩
  have N1 := Fr.app (Fr.nil n0) N1q
  show Goes p e below _ T1 (mkF m 31 #[sR b_, sR H_, sR B_, sR D_, sI m_, sI a_, sJ x_, s2, sI c_, sI pp] [])
  have nID2 : I2 ≠ D_ := by
    rcases oI with q | q
    · rw [q]; exact nID
    · intro e; rw [e] at q; exact Nat.not_lt.mpr q A7.lt
  have ni8 := (ninS ebH.symm (ninS eSH.symm (ninS eTH.symm (ninS ePH.symm (ninS eIH.symm nin0)))))
  have C7 := A5.keep K1 ni8
  have ni10 := (ninS ebB.symm (ninS nSB.symm (ninS eTB.symm (ninS ePB.symm (ninS eIB.symm nin0)))))
  have C9 := A6.keep K1 ni10
  have ni12 := (ninS ebD.symm (ninS eSD.symm (ninS eTD.symm (ninS ePD.symm (ninS nID.symm nin0)))))
  have C11 := A7.keep K1 ni12
  have C13 := E5.keep K1
  have C14 := E6.keep K1
  have C15 := E7.keep K1
  have K17 := K0.trans K1 (allS (Or.inl (List.mem_of_getElem? (i := 0) rfl)) (allS (Or.inl (List.mem_of_getElem? (i := 1) rfl)) (allS (Or.inl (List.mem_of_getElem? (i := 2) rfl)) (allS (Or.inl (List.mem_of_getElem? (i := 3) rfl)) (allS (Or.inl (List.mem_of_getElem? (i := 4) rfl)) all0)))))
  have vP2H : P2 ≠ H_ := ne_exa z1 C13 (by decide)
  have vP2B : P2 ≠ B_ := ne_exa z1 C14 (by decide)
  have vP2D : P2 ≠ D_ := ne_exa z1 C15 (by decide)
  have vI2H : I2 ≠ H_ := ne_exa z2 C13 (by decide)
  have vI2B : I2 ≠ B_ := ne_exa z2 C14 (by decide)
  refine Goes.on (T' := T1) (g' := (mkF m 35 #[sR b_, sR H_, sR B_, sR D_, sI m_, sI a_, sJ x_, s2, sI c_, sI pp] [(.int (hs_ c_.toNatClampNeg))])) (fun _ k => XS.aloadN X1.here hx rfl (dc d7_31) rfl rfl (XS.iload X1.here hx rfl (dc d7_32) rfl (ldZm X1 hx hZ rfl C7 ⟨hc.1, own_n3 hM3 hc.2⟩ (dc d7_34) k))) ?_
  by_cases hc19 : (hs_ c_.toNatClampNeg) = (0 : Int32)
  · obtain ⟨T20, h20, X20, e20, W20, B20, st20⟩ := wrZ X1 hx hZ rfl C7 ⟨hc.1, own_n3 hM3 hc.2⟩ (Or.inr rfl) (g := (mkF m 51 #[sR b_, sR H_, sR B_, sR D_, sI m_, sI a_, sJ x_, s2, sI c_, sI pp] [(.int 1), (.int c_), (.ref H_)])) rfl rfl (dc d7_51)
    have C24 := C9.other W20 eHB.symm
    have K43 := K17.wr W20 (Or.inl (List.mem_of_getElem? (i := 5) rfl))
    have B20 : Arf Z h20 H_ .boolean Value.int 3 (Upd hs_ c_.toNatClampNeg (1 : Int32)) := B20
    obtain ⟨T44, h44, X44, e44, W44, B44, st44⟩ := wrI X20 hx hZ e20 C24 ⟨hc.1, own_n3 hM3 hc.2⟩  (g := (mkF m 57 #[sR b_, sR H_, sR B_, sR D_, sI m_, sI a_, sJ x_, s2, sI c_, sI pp] [(.int pp), (.int c_), (.ref B_)])) rfl rfl (dc d7_57)
    have C49 := (C11.other W20 eHD.symm).other W44 eBD.symm
    have K67 := K43.wr W44 (Or.inl (List.mem_of_getElem? (i := 6) rfl))
    have B44 : Arf Z h44 B_ .int Value.int 3 (Upd bp_ c_.toNatClampNeg pp) := B44
    obtain ⟨T68, h68, X68, e68, W68, B68, st68⟩ := wrJ X44 hx hZ e44 C49 ⟨hc.1, own_n3 hM3 hc.2⟩  (g := (mkF m 63 #[sR b_, sR H_, sR B_, sR D_, sI m_, sI a_, sJ x_, s2, sI c_, sI pp] [(.long x_), (.int c_), (.ref D_)])) rfl rfl (dc d7_63)
    have N68 := Fr.snoc X68 (Fr.snoc X44 (Fr.snoc X20 N1 g5) g6) g7
    have C72 := (B20.other W44 eHB).other W68 eHD
    have C73 := B44.other W68 eBD
    have C77 := ((f1.other W20 (Or.inl ebH)).other W44 (Or.inl ebB)).other W68 (Or.inl ebD)
    have C78 := ((f2.other W20 (Or.inl ebH)).other W44 (Or.inl ebB)).other W68 (Or.inl ebD)
    have C79 := ((f3.other W20 (Or.inl ebH)).other W44 (Or.inl ebB)).other W68 (Or.inl ebD)
    have C80 := ((f4.other W20 (Or.inl ebH)).other W44 (Or.inl ebB)).other W68 (Or.inl ebD)
    have C81 := ((f5.other W20 (Or.inl ebH)).other W44 (Or.inl ebB)).other W68 (Or.inl ebD)
    have C82 := ((f6.other W20 (Or.inl ebH)).other W44 (Or.inl ebB)).other W68 (Or.inl ebD)
    have C83 := ((f7.other W20 (Or.inl ebH)).other W44 (Or.inl ebB)).other W68 (Or.inl ebD)
    have C84 := ((r1.other W20 eSH).other W44 nSB).other W68 eSD
    have C85 := ((r2.other W20 eTH).other W44 eTB).other W68 eTD
    have C86 := ((r3.other W20 vP2H).other W44 vP2B).other W68 vP2D
    have C87 := ((r4.other W20 vI2H).other W44 vI2B).other W68 nID2
    have C88 := ((z1.wr W20).wr W44).wr W68
    have C89 := ((z2.wr W20).wr W44).wr W68
    have K91 := K67.wr W68 (Or.inl (List.mem_of_getElem? (i := 7) rfl))
    have B68 : Arf Z h68 D_ .long Value.long 3 (Upd bi_ c_.toNatClampNeg x_) := B68
    refine Goes.on (T' := T68) (g' := (mkF m 64 #[sR b_, sR H_, sR B_, sR D_, sI m_, sI a_, sJ x_, s2, sI c_, sI pp] [])) (fun _ k => XS.ifYes X1.here hx rfl (pc0 := 35) (pc' := 47) rfl (dc d7_35) rfl (XT.i0_eq_t hc19) (by decide) (by decide) (XS.aloadN X1.here hx rfl (dc d7_47) rfl rfl (XS.iload X1.here hx rfl (dc d7_48) rfl (XS.iconst X1.here hx rfl (dc d7_50) (st20 _ (XS.aloadN X20.here hx rfl (dc d7_52) rfl rfl (XS.iload X20.here hx rfl (dc d7_53) rfl (XS.iload X20.here hx rfl (dc d7_55) rfl (st44 _ (XS.aloadN X44.here hx rfl (dc d7_58) rfl rfl (XS.iload X44.here hx rfl (dc d7_59) rfl (XS.lload X44.here hx rfl (dc d7_61) rfl (st68 _ k))))))))))))) ?_
    exact Goes.retV X68 hx hlk hret (dc d7_64) (by decide) (by decide) (by rw [e68]; exact ⟨P2, I2, N2, cp2, q2, sz2, th2, pt2, id2, (Upd hs_ c_.toNatClampNeg (1 : Int32)), (Upd bp_ c_.toNatClampNeg pp), (Upd bi_ c_.toNatClampNeg x_), rfl, N68, K91, C77, C78, C79, C80, C81, C82, C83, C84, C85, C86, C87, C72, C73, B68, C88, C89, y1, y2, nTP2, nID2, own_stepU hj I hc.2 IR (Or.inl hc19)⟩)
  · refine Goes.on (T' := T1) (g' := (mkF m 44 #[sR b_, sR H_, sR B_, sR D_, sI m_, sI a_, sJ x_, s2, sI c_, sI pp] [(.int (bp_ c_.toNatClampNeg)), (.int pp)])) (fun _ k => XS.ifNo X1.here hx rfl (dc d7_35) rfl (XT.i0_eq_f hc19) (XS.iload X1.here hx rfl (dc d7_38) rfl (XS.aloadN X1.here hx rfl (dc d7_40) rfl rfl (XS.iload X1.here hx rfl (dc d7_41) rfl (ldIm X1 hx hZ rfl C9 ⟨hc.1, own_n3 hM3 hc.2⟩ (dc d7_43) k))))) ?_
    by_cases hc93 : pp < (bp_ c_.toNatClampNeg)
    · obtain ⟨T94, h94, X94, e94, W94, B94, st94⟩ := wrZ X1 hx hZ rfl C7 ⟨hc.1, own_n3 hM3 hc.2⟩ (Or.inr rfl) (g := (mkF m 51 #[sR b_, sR H_, sR B_, sR D_, sI m_, sI a_, sJ x_, s2, sI c_, sI pp] [(.int 1), (.int c_), (.ref H_)])) rfl rfl (dc d7_51)
      have C98 := C9.other W94 eHB.symm
      have K117 := K17.wr W94 (Or.inl (List.mem_of_getElem? (i := 5) rfl))
      have B94 : Arf Z h94 H_ .boolean Value.int 3 (Upd hs_ c_.toNatClampNeg (1 : Int32)) := B94
      obtain ⟨T118, h118, X118, e118, W118, B118, st118⟩ := wrI X94 hx hZ e94 C98 ⟨hc.1, own_n3 hM3 hc.2⟩  (g := (mkF m 57 #[sR b_, sR H_, sR B_, sR D_, sI m_, sI a_, sJ x_, s2, sI c_, sI pp] [(.int pp), (.int c_), (.ref B_)])) rfl rfl (dc d7_57)
      have C123 := (C11.other W94 eHD.symm).other W118 eBD.symm
      have K141 := K117.wr W118 (Or.inl (List.mem_of_getElem? (i := 6) rfl))
      have B118 : Arf Z h118 B_ .int Value.int 3 (Upd bp_ c_.toNatClampNeg pp) := B118
      obtain ⟨T142, h142, X142, e142, W142, B142, st142⟩ := wrJ X118 hx hZ e118 C123 ⟨hc.1, own_n3 hM3 hc.2⟩  (g := (mkF m 63 #[sR b_, sR H_, sR B_, sR D_, sI m_, sI a_, sJ x_, s2, sI c_, sI pp] [(.long x_), (.int c_), (.ref D_)])) rfl rfl (dc d7_63)
      have N142 := Fr.snoc X142 (Fr.snoc X118 (Fr.snoc X94 N1 g5) g6) g7
      have C146 := (B94.other W118 eHB).other W142 eHD
      have C147 := B118.other W142 eBD
      have C151 := ((f1.other W94 (Or.inl ebH)).other W118 (Or.inl ebB)).other W142 (Or.inl ebD)
      have C152 := ((f2.other W94 (Or.inl ebH)).other W118 (Or.inl ebB)).other W142 (Or.inl ebD)
      have C153 := ((f3.other W94 (Or.inl ebH)).other W118 (Or.inl ebB)).other W142 (Or.inl ebD)
      have C154 := ((f4.other W94 (Or.inl ebH)).other W118 (Or.inl ebB)).other W142 (Or.inl ebD)
      have C155 := ((f5.other W94 (Or.inl ebH)).other W118 (Or.inl ebB)).other W142 (Or.inl ebD)
      have C156 := ((f6.other W94 (Or.inl ebH)).other W118 (Or.inl ebB)).other W142 (Or.inl ebD)
      have C157 := ((f7.other W94 (Or.inl ebH)).other W118 (Or.inl ebB)).other W142 (Or.inl ebD)
      have C158 := ((r1.other W94 eSH).other W118 nSB).other W142 eSD
      have C159 := ((r2.other W94 eTH).other W118 eTB).other W142 eTD
      have C160 := ((r3.other W94 vP2H).other W118 vP2B).other W142 vP2D
      have C161 := ((r4.other W94 vI2H).other W118 vI2B).other W142 nID2
      have C162 := ((z1.wr W94).wr W118).wr W142
      have C163 := ((z2.wr W94).wr W118).wr W142
      have K165 := K141.wr W142 (Or.inl (List.mem_of_getElem? (i := 7) rfl))
      have B142 : Arf Z h142 D_ .long Value.long 3 (Upd bi_ c_.toNatClampNeg x_) := B142
      refine Goes.on (T' := T142) (g' := (mkF m 64 #[sR b_, sR H_, sR B_, sR D_, sI m_, sI a_, sJ x_, s2, sI c_, sI pp] [])) (fun _ k => XS.icmpNo X1.here hx rfl (dc d7_44) rfl (XT.ii_ge_f hc93) (XS.aloadN X1.here hx rfl (dc d7_47) rfl rfl (XS.iload X1.here hx rfl (dc d7_48) rfl (XS.iconst X1.here hx rfl (dc d7_50) (st94 _ (XS.aloadN X94.here hx rfl (dc d7_52) rfl rfl (XS.iload X94.here hx rfl (dc d7_53) rfl (XS.iload X94.here hx rfl (dc d7_55) rfl (st118 _ (XS.aloadN X118.here hx rfl (dc d7_58) rfl rfl (XS.iload X118.here hx rfl (dc d7_59) rfl (XS.lload X118.here hx rfl (dc d7_61) rfl (st142 _ k))))))))))))) ?_
      exact Goes.retV X142 hx hlk hret (dc d7_64) (by decide) (by decide) (by rw [e142]; exact ⟨P2, I2, N2, cp2, q2, sz2, th2, pt2, id2, (Upd hs_ c_.toNatClampNeg (1 : Int32)), (Upd bp_ c_.toNatClampNeg pp), (Upd bi_ c_.toNatClampNeg x_), rfl, N142, K165, C151, C152, C153, C154, C155, C156, C157, C158, C159, C160, C161, C146, C147, B142, C162, C163, y1, y2, nTP2, nID2, own_stepU hj I hc.2 IR (Or.inr hc93)⟩)
    · refine Goes.on (T' := T1) (g' := (mkF m 64 #[sR b_, sR H_, sR B_, sR D_, sI m_, sI a_, sJ x_, s2, sI c_, sI pp] [])) (fun _ k => XS.icmpYes X1.here hx rfl (pc0 := 44) (pc' := 64) rfl (dc d7_44) rfl (XT.ii_ge_t hc93) (by decide) (by decide) k) ?_
      exact Goes.retV X1 hx hlk hret (dc d7_64) (by decide) (by decide) (by exact ⟨P2, I2, N2, cp2, q2, sz2, th2, pt2, id2, hs_, bp_, bi_, rfl, N1, K17, f1, f2, f3, f4, f5, f6, f7, r1, r2, r3, r4, C7, C9, C11, z1, z2, y1, y2, nTP2, nID2, own_stepN hj I hc.2 IR hc19 hc93⟩)
abbrev c6C := prog_28_method_11_code
theorem d6_0 : decode c6C 0 = .ok (.aload_n 0, 1) := by decide +kernel
theorem d6_1 : decode c6C 1 = .ok (.getfield 28, 3) := by decide +kernel
theorem d6_4 : decode c6C 4 = .ok (.arraylength, 1) := by decide +kernel
theorem d6_5 : decode c6C 5 = .ok (.newarray .long, 2) := by decide +kernel
theorem d6_7 : decode c6C 7 = .ok (.astore_n 1, 1) := by decide +kernel
theorem d6_8 : decode c6C 8 = .ok (.iconst 0, 1) := by decide +kernel
theorem d6_9 : decode c6C 9 = .ok (.istore_n 2, 1) := by decide +kernel
theorem d6_10 : decode c6C 10 = .ok (.iload_n 2, 1) := by decide +kernel
theorem d6_11 : decode c6C 11 = .ok (.aload_n 1, 1) := by decide +kernel
theorem d6_12 : decode c6C 12 = .ok (.arraylength, 1) := by decide +kernel
theorem d6_13 : decode c6C 13 = .ok (.if_icmp .ge 32, 3) := by decide +kernel
theorem d6_16 : decode c6C 16 = .ok (.aload_n 0, 1) := by decide +kernel
theorem d6_17 : decode c6C 17 = .ok (.getfield 28, 3) := by decide +kernel
theorem d6_20 : decode c6C 20 = .ok (.iload_n 2, 1) := by decide +kernel
theorem d6_21 : decode c6C 21 = .ok (.iaload, 1) := by decide +kernel
theorem d6_22 : decode c6C 22 = .ok (.ifCond .le 17, 3) := by decide +kernel
theorem d6_25 : decode c6C 25 = .ok (.aload_n 1, 1) := by decide +kernel
theorem d6_26 : decode c6C 26 = .ok (.iload_n 2, 1) := by decide +kernel
theorem d6_27 : decode c6C 27 = .ok (.aload_n 0, 1) := by decide +kernel
theorem d6_28 : decode c6C 28 = .ok (.getfield 52, 3) := by decide +kernel
theorem d6_31 : decode c6C 31 = .ok (.iload_n 2, 1) := by decide +kernel
theorem d6_32 : decode c6C 32 = .ok (.aload_n 0, 1) := by decide +kernel
theorem d6_33 : decode c6C 33 = .ok (.getfield 46, 3) := by decide +kernel
theorem d6_36 : decode c6C 36 = .ok (.imul, 1) := by decide +kernel
theorem d6_37 : decode c6C 37 = .ok (.laload, 1) := by decide +kernel
theorem d6_38 : decode c6C 38 = .ok (.lastore, 1) := by decide +kernel
theorem d6_39 : decode c6C 39 = .ok (.iinc 2 1, 3) := by decide +kernel
theorem d6_42 : decode c6C 42 = .ok (.goto (-32), 3) := by decide +kernel
theorem d6_45 : decode c6C 45 = .ok (.aload_n 1, 1) := by decide +kernel
theorem d6_46 : decode c6C 46 = .ok (.areturn, 1) := by decide +kernel
theorem ef_8 (m : MethodId) (x0 : Addr) : entryFrame m #[(.ref x0)] 3 = mkF m 0 #[.val (.ref x0), .unset, .unset] [] := by first | (simp [entryFrame, mkF, argsToLocals, Value.category]; done) | rfl
theorem rmMi1 (l : Launch) (Z : State) (a0 : Array Value) (hw : TW Z a0) (b_ S_ I_ : Addr) (N_ : Nat) (cap_ : Int32) (sz_ : Nat → Int32) (id_ : Nat → Int64) (h0 : Heap) (n0 : Nat) (Z0 : n0 ≤ h0.size) (E0 : Exa Z h0 b_ "com/example/boceto/boceto/signature/ComponentBuffers") (F2 : Fld Z h0 b_ "com/example/boceto/boceto/signature/ComponentBuffers" "_sizes" "[I" (.ref S_)) (F4 : Fld Z h0 b_ "com/example/boceto/boceto/signature/ComponentBuffers" "_capacity" "I" (.int cap_)) (F6 : Fld Z h0 b_ "com/example/boceto/boceto/signature/ComponentBuffers" "_identities" "[J" (.ref I_)) (A1 : Arf Z h0 S_ .int Value.int 1 sz_) (A4 : Arf Z h0 I_ .long Value.long N_ id_) (hN : N_ = 1 * cap_.toNatClampNeg) (hcap : cap_ = (1 : Int32) ∨ cap_ = (2 : Int32) ∨ cap_ = (3 : Int32)) :
    Pays l Z (⟨"com/example/boceto/boceto/signature/ComponentBuffers", "minimumIdentities", "()[J"⟩ : MethodName) prog_28_method_11_code 3 (some (.array .long)) [] ({ frames := 0, cells := 1, slots := 1, locals := 0 } : Room) #[(.ref b_)] h0 (fun v h L => ∃ (r_ : Addr) (gg : Nat → Int64), v = some (.ref r_) ∧ Fr n0 L ∧ Keep h0 h [] ∧ Exa Z h r_ "[J" ∧ Arf Z h r_ .long Value.long 1 gg ∧ h0.size ≤ r_ ∧ gg 0 = (if (0 : Int32) < sz_ 0 then id_ (0 * cap_.toNatClampNeg) else (0 : Int64))) := by
  refine Pays.walk (plainFor_of_name pn_3) (fun m => ef_8 m b_ ) ?_
  intro p e s m below meth c T0 X0 hx hby hml hown hnm hZ e0 hret hlk
  have dc := @Jvm.hb _ _ hby
  have N0 := Fr.nil n0
  have K0 := Keep.refl h0 ([] : List Addr)
  have ib0 : ¬ ((0 : Int32) * cap_) < 0 ∧ ((0 : Int32) * cap_).toNatClampNeg < N_ := by
    rw [hN]
    rcases hcap with rfl | rfl | rfl <;> decide
  have em0 : ((0 : Int32) * cap_).toNatClampNeg = 0 * cap_.toNatClampNeg := by rcases hcap with rfl | rfl | rfl <;> decide
  obtain ⟨T1, X1, e1, st1⟩ := getF X0 hx hZ hown (host := "") (Or.inl (own_w hw 34 rfl)) Via.refl e0 F2 (g := (mkF m 1 #[sR b_, su, su] [(.ref b_)])) rfl rfl (dc d6_1)
  obtain ⟨T3, h3, cA3, X3, e3, E3, A3, J3, st3⟩ := newPE X1 hx hZ (own_w hw 48 rfl) e1 (g := (mkF m 5 #[sR b_, su, su] [(.int 1)])) rfl (dc d6_5) rfl (by decide) (cap := 1) (by decide) (by decide) (by decide) (by decide) (ad := "[J") (by decide)
  obtain ⟨a3, g3⟩ : ∃ z, z = h0.size := ⟨_, rfl⟩
  rw [← g3] at A3 J3 st3
  have M3 : h0.size ≤ a3 := Nat.le_trans K0.1 (Nat.le_of_eq g3.symm)
  have C5 := F2.ext E3
  have C6 := F4.ext E3
  have C7 := F6.ext E3
  have C8 := A1.ext E3
  have C9 := A4.ext E3
  have K14 := K0.ext E3
  have B3 : Arf Z h3 a3 .long Value.long 1 (fun _ => (0 : Int64)) := Arf.new A3 rfl
  have G3 : n0 ≤ a3 := Nat.le_trans Z0 (Nat.le_of_eq g3.symm)
  obtain ⟨T16, X16, e16, st16⟩ := getF X3 hx hZ hown (host := "") (Or.inl (own_w hw 34 rfl)) Via.refl e3 C5 (g := (mkF m 17 #[sR b_, sR a3, sI 0] [(.ref b_)])) rfl rfl (dc d6_17)
  refine Goes.on (T' := T16) (g' := (mkF m 22 #[sR b_, sR a3, sI 0] [(.int (sz_ 0))])) (fun _ k => XS.aloadN X0.here hx rfl (dc d6_0) rfl rfl (st1 _ (aLenm X1 hx hZ e1 A1 (dc d6_4) (st3 _ (XS.astoreN X3.here hx rfl (dc d6_7) rfl rfl (l' := #[sR b_, sR a3, su]) rfl (XS.iconst X3.here hx rfl (dc d6_8) (XS.istoreN X3.here hx rfl (dc d6_9) rfl (l' := #[sR b_, sR a3, sI 0]) rfl (XS.iloadN X3.here hx rfl (dc d6_10) rfl (XS.aloadN X3.here hx rfl (dc d6_11) rfl rfl (aLenm X3 hx hZ e3 B3 (dc d6_12) (XS.icmpNo X3.here hx rfl (dc d6_13) rfl (XT.ii_ge_f (by decide)) (XS.aloadN X3.here hx rfl (dc d6_16) rfl rfl (st16 _ (XS.iloadN X16.here hx rfl (dc d6_20) rfl (ldIm X16 hx hZ e16 C8 (by decide) (dc d6_21) k))))))))))))))) ?_
  by_cases hc18 : (0 : Int32) < (sz_ 0)
  · obtain ⟨T19, X19, e19, st19⟩ := getF X16 hx hZ hown (host := "") (Or.inl (own_w hw 49 rfl)) Via.refl e16 C7 (g := (mkF m 28 #[sR b_, sR a3, sI 0] [(.ref b_), (.int 0), (.ref a3)])) rfl rfl (dc d6_28)
    obtain ⟨T20, X20, e20, st20⟩ := getF X19 hx hZ hown (host := "") (Or.inl (own_w hw 44 rfl)) Via.refl e19 C6 (g := (mkF m 33 #[sR b_, sR a3, sI 0] [(.ref b_), (.int 0), (.ref I_), (.int 0), (.ref a3)])) rfl rfl (dc d6_33)
    obtain ⟨T22, h22, X22, e22, W22, B22, st22⟩ := wrJ X20 hx hZ e20 B3 (by decide)  (g := (mkF m 38 #[sR b_, sR a3, sI 0] [(.long (id_ ((0 : Int32) * cap_).toNatClampNeg)), (.int 0), (.ref a3)])) rfl rfl (dc d6_38)
    have N22 := Fr.snoc X22 N0 G3
    have C29 := J3.wr W22
    have K31 := K14.wr W22 (Or.inr M3)
    have B22 : Arf Z h22 a3 .long Value.long 1 (Upd (fun _ => (0 : Int64)) 0 (id_ ((0 : Int32) * cap_).toNatClampNeg)) := B22
    refine Goes.on (T' := T22) (g' := (mkF m 46 #[sR b_, sR a3, sI 1] [(.ref a3)])) (fun _ k => XS.ifNo X16.here hx rfl (dc d6_22) rfl (XT.i0_le_f hc18) (XS.aloadN X16.here hx rfl (dc d6_25) rfl rfl (XS.iloadN X16.here hx rfl (dc d6_26) rfl (XS.aloadN X16.here hx rfl (dc d6_27) rfl rfl (st19 _ (XS.iloadN X19.here hx rfl (dc d6_31) rfl (XS.aloadN X19.here hx rfl (dc d6_32) rfl rfl (st20 _ (XS.imul X20.here hx rfl (dc d6_36) rfl (ldJm X20 hx hZ e20 C9 ib0 (dc d6_37) (st22 _ (XT.iincV X22.here hx rfl (1 : Int32) (dc d6_39) (by decide) rfl (l' := #[sR b_, sR a3, sI 1]) rfl (XS.goto X22.here hx rfl (pc0 := 42) (pc' := 10) rfl (dc d6_42) (by decide) (by decide) (XS.iloadN X22.here hx rfl (dc d6_10) rfl (XS.aloadN X22.here hx rfl (dc d6_11) rfl rfl (aLenm X22 hx hZ e22 B22 (dc d6_12) (XS.icmpYes X22.here hx rfl (pc0 := 13) (pc' := 45) rfl (dc d6_13) rfl (XT.ii_ge_t (by decide)) (by decide) (by decide) (XS.aloadN X22.here hx rfl (dc d6_45) rfl rfl k)))))))))))))))))) ?_
    exact Goes.retA X22 hx hlk hret rfl rfl (dc d6_46) (by decide) (by decide) (by rw [e22]; exact ⟨a3, (Upd (fun _ => (0 : Int64)) 0 (id_ ((0 : Int32) * cap_).toNatClampNeg)), rfl, N22, K31, C29, B22, M3, (by rw [if_pos hc18]; exact congrArg id_ em0)⟩)
  · refine Goes.on (T' := T16) (g' := (mkF m 46 #[sR b_, sR a3, sI 1] [(.ref a3)])) (fun _ k => XS.ifYes X16.here hx rfl (pc0 := 22) (pc' := 39) rfl (dc d6_22) rfl (XT.i0_le_t hc18) (by decide) (by decide) (XT.iincV X16.here hx rfl (1 : Int32) (dc d6_39) (by decide) rfl (l' := #[sR b_, sR a3, sI 1]) rfl (XS.goto X16.here hx rfl (pc0 := 42) (pc' := 10) rfl (dc d6_42) (by decide) (by decide) (XS.iloadN X16.here hx rfl (dc d6_10) rfl (XS.aloadN X16.here hx rfl (dc d6_11) rfl rfl (aLenm X16 hx hZ e16 B3 (dc d6_12) (XS.icmpYes X16.here hx rfl (pc0 := 13) (pc' := 45) rfl (dc d6_13) rfl (XT.ii_ge_t (by decide)) (by decide) (by decide) (XS.aloadN X16.here hx rfl (dc d6_45) rfl rfl k)))))))) ?_
    exact Goes.retA X16 hx hlk hret rfl rfl (dc d6_46) (by decide) (by decide) (by rw [e16]; exact ⟨a3, (fun _ => (0 : Int64)), rfl, N0, K14, J3, B3, M3, (by rw [if_neg hc18] <;> rfl)⟩)
theorem rmMi2 (l : Launch) (Z : State) (a0 : Array Value) (hw : TW Z a0) (b_ S_ I_ : Addr) (N_ : Nat) (cap_ : Int32) (sz_ : Nat → Int32) (id_ : Nat → Int64) (h0 : Heap) (n0 : Nat) (Z0 : n0 ≤ h0.size) (E0 : Exa Z h0 b_ "com/example/boceto/boceto/signature/ComponentBuffers") (F2 : Fld Z h0 b_ "com/example/boceto/boceto/signature/ComponentBuffers" "_sizes" "[I" (.ref S_)) (F4 : Fld Z h0 b_ "com/example/boceto/boceto/signature/ComponentBuffers" "_capacity" "I" (.int cap_)) (F6 : Fld Z h0 b_ "com/example/boceto/boceto/signature/ComponentBuffers" "_identities" "[J" (.ref I_)) (A1 : Arf Z h0 S_ .int Value.int 2 sz_) (A4 : Arf Z h0 I_ .long Value.long N_ id_) (hN : N_ = 2 * cap_.toNatClampNeg) (hcap : cap_ = (1 : Int32) ∨ cap_ = (2 : Int32) ∨ cap_ = (3 : Int32)) :
    Pays l Z (⟨"com/example/boceto/boceto/signature/ComponentBuffers", "minimumIdentities", "()[J"⟩ : MethodName) prog_28_method_11_code 3 (some (.array .long)) [] ({ frames := 0, cells := 1, slots := 2, locals := 0 } : Room) #[(.ref b_)] h0 (fun v h L => ∃ (r_ : Addr) (gg : Nat → Int64), v = some (.ref r_) ∧ Fr n0 L ∧ Keep h0 h [] ∧ Exa Z h r_ "[J" ∧ Arf Z h r_ .long Value.long 2 gg ∧ h0.size ≤ r_ ∧ gg 0 = (if (0 : Int32) < sz_ 0 then id_ (0 * cap_.toNatClampNeg) else (0 : Int64)) ∧ gg 1 = (if (0 : Int32) < sz_ 1 then id_ (1 * cap_.toNatClampNeg) else (0 : Int64))) := by
  refine Pays.walk (plainFor_of_name pn_3) (fun m => ef_8 m b_ ) ?_
  intro p e s m below meth c T0 X0 hx hby hml hown hnm hZ e0 hret hlk
  have dc := @Jvm.hb _ _ hby
  have ow := @own_w Z a0 hw
  have N0 := Fr.nil n0
  have K0 := Keep.refl h0 ([] : List Addr)
  have ib0 : ¬ ((0 : Int32) * cap_) < 0 ∧ ((0 : Int32) * cap_).toNatClampNeg < N_ := by
    rw [hN]
    rcases hcap with rfl | rfl | rfl <;> decide
  have em0 : ((0 : Int32) * cap_).toNatClampNeg = 0 * cap_.toNatClampNeg := by rcases hcap with rfl | rfl | rfl <;> decide
  have ib1 : ¬ ((1 : Int32) * cap_) < 0 ∧ ((1 : Int32) * cap_).toNatClampNeg < N_ := by
    rw [hN]
    rcases hcap with rfl | rfl | rfl <;> decide
  have em1 : ((1 : Int32) * cap_).toNatClampNeg = 1 * cap_.toNatClampNeg := by rcases hcap with rfl | rfl | rfl <;> decide
  obtain ⟨T1, X1, e1, st1⟩ := getF X0 hx hZ hown (host := "") (Or.inl (ow 34 rfl)) Via.refl e0 F2 (g := (mkF m 1 #[sR b_, su, su] [(.ref b_)])) rfl rfl (dc d6_1)
  obtain ⟨T3, h3, cA3, X3, e3, E3, A3, J3, st3⟩ := newPE X1 hx hZ (ow 48 rfl) e1 (g := (mkF m 5 #[sR b_, su, su] [(.int 2)])) rfl (dc d6_5) rfl (by decide) (cap := 2) (by decide) (by decide) (by decide) (by decide) (ad := "[J") (by decide)
  obtain ⟨a3, g3⟩ : ∃ z, z = h0.size := ⟨_, rfl⟩
  rw [← g3] at A3 J3 st3
  have M3 : h0.size ≤ a3 := Nat.le_trans K0.1 (Nat.le_of_eq g3.symm)
  have C5 := F2.ext E3
  have C6 := F4.ext E3
  have C7 := F6.ext E3
  have C8 := A1.ext E3
  have C9 := A4.ext E3
  have ne10 := own_neG E0.lt g3
  have ne11 := own_neG A1.lt g3
  have ne12 := own_neG A4.lt g3
  have K14 := K0.ext E3
  have B3 : Arf Z h3 a3 .long Value.long 2 (fun _ => (0 : Int64)) := Arf.new A3 rfl
  have G3 : n0 ≤ a3 := Nat.le_trans Z0 (Nat.le_of_eq g3.symm)
  obtain ⟨T16, X16, e16, st16⟩ := getF X3 hx hZ hown (host := "") (Or.inl (ow 34 rfl)) Via.refl e3 C5 (g := (mkF m 17 #[sR b_, sR a3, sI 0] [(.ref b_)])) rfl rfl (dc d6_17)
  refine Goes.on (T' := T16) (g' := (mkF m 22 #[sR b_, sR a3, sI 0] [(.int (sz_ 0))])) (fun _ k => XS.aloadN X0.here hx rfl (dc d6_0) rfl rfl (st1 _ (aLenm X1 hx hZ e1 A1 (dc d6_4) (st3 _ (XS.astoreN X3.here hx rfl (dc d6_7) rfl rfl (l' := #[sR b_, sR a3, su]) rfl (XS.iconst X3.here hx rfl (dc d6_8) (XS.istoreN X3.here hx rfl (dc d6_9) rfl (l' := #[sR b_, sR a3, sI 0]) rfl (XS.iloadN X3.here hx rfl (dc d6_10) rfl (XS.aloadN X3.here hx rfl (dc d6_11) rfl rfl (aLenm X3 hx hZ e3 B3 (dc d6_12) (XS.icmpNo X3.here hx rfl (dc d6_13) rfl (XT.ii_ge_f (by decide)) (XS.aloadN X3.here hx rfl (dc d6_16) rfl rfl (st16 _ (XS.iloadN X16.here hx rfl (dc d6_20) rfl (ldIm X16 hx hZ e16 C8 (by decide) (dc d6_21) k))))))))))))))) ?_
  by_cases hc18 : (0 : Int32) < (sz_ 0)
  · obtain ⟨T19, X19, e19, st19⟩ := getF X16 hx hZ hown (host := "") (Or.inl (ow 49 rfl)) Via.refl e16 C7 (g := (mkF m 28 #[sR b_, sR a3, sI 0] [(.ref b_), (.int 0), (.ref a3)])) rfl rfl (dc d6_28)
    obtain ⟨T20, X20, e20, st20⟩ := getF X19 hx hZ hown (host := "") (Or.inl (ow 44 rfl)) Via.refl e19 C6 (g := (mkF m 33 #[sR b_, sR a3, sI 0] [(.ref b_), (.int 0), (.ref I_), (.int 0), (.ref a3)])) rfl rfl (dc d6_33)
    obtain ⟨T22, h22, X22, e22, W22, B22, st22⟩ := wrJ X20 hx hZ e20 B3 (by decide)  (g := (mkF m 38 #[sR b_, sR a3, sI 0] [(.long (id_ ((0 : Int32) * cap_).toNatClampNeg)), (.int 0), (.ref a3)])) rfl rfl (dc d6_38)
    have N22 := Fr.snoc X22 N0 G3
    have C24 := C5.other W22 (Or.inl ne10)
    have C25 := C6.other W22 (Or.inl ne10)
    have C26 := C7.other W22 (Or.inl ne10)
    have C27 := C8.other W22 ne11
    have C28 := C9.other W22 ne12
    have C29 := J3.wr W22
    have K31 := K14.wr W22 (Or.inr M3)
    have B22 : Arf Z h22 a3 .long Value.long 2 (Upd (fun _ => (0 : Int64)) 0 (id_ ((0 : Int32) * cap_).toNatClampNeg)) := B22
    obtain ⟨T33, X33, e33, st33⟩ := getF X22 hx hZ hown (host := "") (Or.inl (ow 34 rfl)) Via.refl e22 C24 (g := (mkF m 17 #[sR b_, sR a3, sI 1] [(.ref b_)])) rfl rfl (dc d6_17)
    refine Goes.on (T' := T33) (g' := (mkF m 22 #[sR b_, sR a3, sI 1] [(.int (sz_ 1))])) (fun _ k => XS.ifNo X16.here hx rfl (dc d6_22) rfl (XT.i0_le_f hc18) (XS.aloadN X16.here hx rfl (dc d6_25) rfl rfl (XS.iloadN X16.here hx rfl (dc d6_26) rfl (XS.aloadN X16.here hx rfl (dc d6_27) rfl rfl (st19 _ (XS.iloadN X19.here hx rfl (dc d6_31) rfl (XS.aloadN X19.here hx rfl (dc d6_32) rfl rfl (st20 _ (XS.imul X20.here hx rfl (dc d6_36) rfl (ldJm X20 hx hZ e20 C9 ib0 (dc d6_37) (st22 _ (XT.iincV X22.here hx rfl (1 : Int32) (dc d6_39) (by decide) rfl (l' := #[sR b_, sR a3, sI 1]) rfl (XS.goto X22.here hx rfl (pc0 := 42) (pc' := 10) rfl (dc d6_42) (by decide) (by decide) (XS.iloadN X22.here hx rfl (dc d6_10) rfl (XS.aloadN X22.here hx rfl (dc d6_11) rfl rfl (aLenm X22 hx hZ e22 B22 (dc d6_12) (XS.icmpNo X22.here hx rfl (dc d6_13) rfl (XT.ii_ge_f (by decide)) (XS.aloadN X22.here hx rfl (dc d6_16) rfl rfl (st33 _ (XS.iloadN X33.here hx rfl (dc d6_20) rfl (ldIm X33 hx hZ e33 C27 (by decide) (dc d6_21) k))))))))))))))))))))) ?_
    by_cases hc35 : (0 : Int32) < (sz_ 1)
    · obtain ⟨T36, X36, e36, st36⟩ := getF X33 hx hZ hown (host := "") (Or.inl (ow 49 rfl)) Via.refl e33 C26 (g := (mkF m 28 #[sR b_, sR a3, sI 1] [(.ref b_), (.int 1), (.ref a3)])) rfl rfl (dc d6_28)
      obtain ⟨T37, X37, e37, st37⟩ := getF X36 hx hZ hown (host := "") (Or.inl (ow 44 rfl)) Via.refl e36 C25 (g := (mkF m 33 #[sR b_, sR a3, sI 1] [(.ref b_), (.int 1), (.ref I_), (.int 1), (.ref a3)])) rfl rfl (dc d6_33)
      obtain ⟨T39, h39, X39, e39, W39, B39, st39⟩ := wrJ X37 hx hZ e37 B22 (by decide)  (g := (mkF m 38 #[sR b_, sR a3, sI 1] [(.long (id_ ((1 : Int32) * cap_).toNatClampNeg)), (.int 1), (.ref a3)])) rfl rfl (dc d6_38)
      have N39 := Fr.snoc X39 N22 G3
      have C46 := C29.wr W39
      have K48 := K31.wr W39 (Or.inr M3)
      have B39 : Arf Z h39 a3 .long Value.long 2 (Upd (Upd (fun _ => (0 : Int64)) 0 (id_ ((0 : Int32) * cap_).toNatClampNeg)) 1 (id_ ((1 : Int32) * cap_).toNatClampNeg)) := B39
      refine Goes.on (T' := T39) (g' := (mkF m 46 #[sR b_, sR a3, sI 2] [(.ref a3)])) (fun _ k => XS.ifNo X33.here hx rfl (dc d6_22) rfl (XT.i0_le_f hc35) (XS.aloadN X33.here hx rfl (dc d6_25) rfl rfl (XS.iloadN X33.here hx rfl (dc d6_26) rfl (XS.aloadN X33.here hx rfl (dc d6_27) rfl rfl (st36 _ (XS.iloadN X36.here hx rfl (dc d6_31) rfl (XS.aloadN X36.here hx rfl (dc d6_32) rfl rfl (st37 _ (XS.imul X37.here hx rfl (dc d6_36) rfl (ldJm X37 hx hZ e37 C28 ib1 (dc d6_37) (st39 _ (XT.iincV X39.here hx rfl (1 : Int32) (dc d6_39) (by decide) rfl (l' := #[sR b_, sR a3, sI 2]) rfl (XS.goto X39.here hx rfl (pc0 := 42) (pc' := 10) rfl (dc d6_42) (by decide) (by decide) (XS.iloadN X39.here hx rfl (dc d6_10) rfl (XS.aloadN X39.here hx rfl (dc d6_11) rfl rfl (aLenm X39 hx hZ e39 B39 (dc d6_12) (XS.icmpYes X39.here hx rfl (pc0 := 13) (pc' := 45) rfl (dc d6_13) rfl (XT.ii_ge_t (by decide)) (by decide) (by decide) (XS.aloadN X39.here hx rfl (dc d6_45) rfl rfl k)))))))))))))))))) ?_
      exact Goes.retA X39 hx hlk hret rfl rfl (dc d6_46) (by decide) (by decide) (by rw [e39]; exact ⟨a3, (Upd (Upd (fun _ => (0 : Int64)) 0 (id_ ((0 : Int32) * cap_).toNatClampNeg)) 1 (id_ ((1 : Int32) * cap_).toNatClampNeg)), rfl, N39, K48, C46, B39, M3, (by rw [if_pos hc18]; exact congrArg id_ em0), (by rw [if_pos hc35]; exact congrArg id_ em1)⟩)
    · refine Goes.on (T' := T33) (g' := (mkF m 46 #[sR b_, sR a3, sI 2] [(.ref a3)])) (fun _ k => XS.ifYes X33.here hx rfl (pc0 := 22) (pc' := 39) rfl (dc d6_22) rfl (XT.i0_le_t hc35) (by decide) (by decide) (XT.iincV X33.here hx rfl (1 : Int32) (dc d6_39) (by decide) rfl (l' := #[sR b_, sR a3, sI 2]) rfl (XS.goto X33.here hx rfl (pc0 := 42) (pc' := 10) rfl (dc d6_42) (by decide) (by decide) (XS.iloadN X33.here hx rfl (dc d6_10) rfl (XS.aloadN X33.here hx rfl (dc d6_11) rfl rfl (aLenm X33 hx hZ e33 B22 (dc d6_12) (XS.icmpYes X33.here hx rfl (pc0 := 13) (pc' := 45) rfl (dc d6_13) rfl (XT.ii_ge_t (by decide)) (by decide) (by decide) (XS.aloadN X33.here hx rfl (dc d6_45) rfl rfl k)))))))) ?_
      exact Goes.retA X33 hx hlk hret rfl rfl (dc d6_46) (by decide) (by decide) (by rw [e33]; exact ⟨a3, (Upd (fun _ => (0 : Int64)) 0 (id_ ((0 : Int32) * cap_).toNatClampNeg)), rfl, N22, K31, C29, B22, M3, (by rw [if_pos hc18]; exact congrArg id_ em0), (by rw [if_neg hc35] <;> rfl)⟩)
  · obtain ⟨T52, X52, e52, st52⟩ := getF X16 hx hZ hown (host := "") (Or.inl (ow 34 rfl)) Via.refl e16 C5 (g := (mkF m 17 #[sR b_, sR a3, sI 1] [(.ref b_)])) rfl rfl (dc d6_17)
    refine Goes.on (T' := T52) (g' := (mkF m 22 #[sR b_, sR a3, sI 1] [(.int (sz_ 1))])) (fun _ k => XS.ifYes X16.here hx rfl (pc0 := 22) (pc' := 39) rfl (dc d6_22) rfl (XT.i0_le_t hc18) (by decide) (by decide) (XT.iincV X16.here hx rfl (1 : Int32) (dc d6_39) (by decide) rfl (l' := #[sR b_, sR a3, sI 1]) rfl (XS.goto X16.here hx rfl (pc0 := 42) (pc' := 10) rfl (dc d6_42) (by decide) (by decide) (XS.iloadN X16.here hx rfl (dc d6_10) rfl (XS.aloadN X16.here hx rfl (dc d6_11) rfl rfl (aLenm X16 hx hZ e16 B3 (dc d6_12) (XS.icmpNo X16.here hx rfl (dc d6_13) rfl (XT.ii_ge_f (by decide)) (XS.aloadN X16.here hx rfl (dc d6_16) rfl rfl (st52 _ (XS.iloadN X52.here hx rfl (dc d6_20) rfl (ldIm X52 hx hZ e52 C8 (by decide) (dc d6_21) k))))))))))) ?_
    by_cases hc54 : (0 : Int32) < (sz_ 1)
    · obtain ⟨T55, X55, e55, st55⟩ := getF X52 hx hZ hown (host := "") (Or.inl (ow 49 rfl)) Via.refl e52 C7 (g := (mkF m 28 #[sR b_, sR a3, sI 1] [(.ref b_), (.int 1), (.ref a3)])) rfl rfl (dc d6_28)
      obtain ⟨T56, X56, e56, st56⟩ := getF X55 hx hZ hown (host := "") (Or.inl (ow 44 rfl)) Via.refl e55 C6 (g := (mkF m 33 #[sR b_, sR a3, sI 1] [(.ref b_), (.int 1), (.ref I_), (.int 1), (.ref a3)])) rfl rfl (dc d6_33)
      obtain ⟨T58, h58, X58, e58, W58, B58, st58⟩ := wrJ X56 hx hZ e56 B3 (by decide)  (g := (mkF m 38 #[sR b_, sR a3, sI 1] [(.long (id_ ((1 : Int32) * cap_).toNatClampNeg)), (.int 1), (.ref a3)])) rfl rfl (dc d6_38)
      have N58 := Fr.snoc X58 N0 G3
      have C65 := J3.wr W58
      have K67 := K14.wr W58 (Or.inr M3)
      have B58 : Arf Z h58 a3 .long Value.long 2 (Upd (fun _ => (0 : Int64)) 1 (id_ ((1 : Int32) * cap_).toNatClampNeg)) := B58
      refine Goes.on (T' := T58) (g' := (mkF m 46 #[sR b_, sR a3, sI 2] [(.ref a3)])) (fun _ k => XS.ifNo X52.here hx rfl (dc d6_22) rfl (XT.i0_le_f hc54) (XS.aloadN X52.here hx rfl (dc d6_25) rfl rfl (XS.iloadN X52.here hx rfl (dc d6_26) rfl (XS.aloadN X52.here hx rfl (dc d6_27) rfl rfl (st55 _ (XS.iloadN X55.here hx rfl (dc d6_31) rfl (XS.aloadN X55.here hx rfl (dc d6_32) rfl rfl (st56 _ (XS.imul X56.here hx rfl (dc d6_36) rfl (ldJm X56 hx hZ e56 C9 ib1 (dc d6_37) (st58 _ (XT.iincV X58.here hx rfl (1 : Int32) (dc d6_39) (by decide) rfl (l' := #[sR b_, sR a3, sI 2]) rfl (XS.goto X58.here hx rfl (pc0 := 42) (pc' := 10) rfl (dc d6_42) (by decide) (by decide) (XS.iloadN X58.here hx rfl (dc d6_10) rfl (XS.aloadN X58.here hx rfl (dc d6_11) rfl rfl (aLenm X58 hx hZ e58 B58 (dc d6_12) (XS.icmpYes X58.here hx rfl (pc0 := 13) (pc' := 45) rfl (dc d6_13) rfl (XT.ii_ge_t (by decide)) (by decide) (by decide) (XS.aloadN X58.here hx rfl (dc d6_45) rfl rfl k)))))))))))))))))) ?_
      exact Goes.retA X58 hx hlk hret rfl rfl (dc d6_46) (by decide) (by decide) (by rw [e58]; exact ⟨a3, (Upd (fun _ => (0 : Int64)) 1 (id_ ((1 : Int32) * cap_).toNatClampNeg)), rfl, N58, K67, C65, B58, M3, (by rw [if_neg hc18] <;> rfl), (by rw [if_pos hc54]; exact congrArg id_ em1)⟩)
    · refine Goes.on (T' := T52) (g' := (mkF m 46 #[sR b_, sR a3, sI 2] [(.ref a3)])) (fun _ k => XS.ifYes X52.here hx rfl (pc0 := 22) (pc' := 39) rfl (dc d6_22) rfl (XT.i0_le_t hc54) (by decide) (by decide) (XT.iincV X52.here hx rfl (1 : Int32) (dc d6_39) (by decide) rfl (l' := #[sR b_, sR a3, sI 2]) rfl (XS.goto X52.here hx rfl (pc0 := 42) (pc' := 10) rfl (dc d6_42) (by decide) (by decide) (XS.iloadN X52.here hx rfl (dc d6_10) rfl (XS.aloadN X52.here hx rfl (dc d6_11) rfl rfl (aLenm X52 hx hZ e52 B3 (dc d6_12) (XS.icmpYes X52.here hx rfl (pc0 := 13) (pc' := 45) rfl (dc d6_13) rfl (XT.ii_ge_t (by decide)) (by decide) (by decide) (XS.aloadN X52.here hx rfl (dc d6_45) rfl rfl k)))))))) ?_
      exact Goes.retA X52 hx hlk hret rfl rfl (dc d6_46) (by decide) (by decide) (by rw [e52]; exact ⟨a3, (fun _ => (0 : Int64)), rfl, N0, K14, J3, B3, M3, (by rw [if_neg hc18] <;> rfl), (by rw [if_neg hc54] <;> rfl)⟩)
theorem rmMi3 (l : Launch) (Z : State) (a0 : Array Value) (hw : TW Z a0) (b_ S_ I_ : Addr) (N_ : Nat) (cap_ : Int32) (sz_ : Nat → Int32) (id_ : Nat → Int64) (h0 : Heap) (n0 : Nat) (Z0 : n0 ≤ h0.size) (E0 : Exa Z h0 b_ "com/example/boceto/boceto/signature/ComponentBuffers") (F2 : Fld Z h0 b_ "com/example/boceto/boceto/signature/ComponentBuffers" "_sizes" "[I" (.ref S_)) (F4 : Fld Z h0 b_ "com/example/boceto/boceto/signature/ComponentBuffers" "_capacity" "I" (.int cap_)) (F6 : Fld Z h0 b_ "com/example/boceto/boceto/signature/ComponentBuffers" "_identities" "[J" (.ref I_)) (A1 : Arf Z h0 S_ .int Value.int 3 sz_) (A4 : Arf Z h0 I_ .long Value.long N_ id_) (hN : N_ = 3 * cap_.toNatClampNeg) (hcap : cap_ = (1 : Int32) ∨ cap_ = (2 : Int32) ∨ cap_ = (3 : Int32)) :
    Pays l Z (⟨"com/example/boceto/boceto/signature/ComponentBuffers", "minimumIdentities", "()[J"⟩ : MethodName) prog_28_method_11_code 3 (some (.array .long)) [] ({ frames := 0, cells := 1, slots := 3, locals := 0 } : Room) #[(.ref b_)] h0 (fun v h L => ∃ (r_ : Addr) (gg : Nat → Int64), v = some (.ref r_) ∧ Fr n0 L ∧ Keep h0 h [] ∧ Exa Z h r_ "[J" ∧ Arf Z h r_ .long Value.long 3 gg ∧ h0.size ≤ r_ ∧ gg 0 = (if (0 : Int32) < sz_ 0 then id_ (0 * cap_.toNatClampNeg) else (0 : Int64)) ∧ gg 1 = (if (0 : Int32) < sz_ 1 then id_ (1 * cap_.toNatClampNeg) else (0 : Int64)) ∧ gg 2 = (if (0 : Int32) < sz_ 2 then id_ (2 * cap_.toNatClampNeg) else (0 : Int64))) := by
  refine Pays.walk (plainFor_of_name pn_3) (fun m => ef_8 m b_ ) ?_
  intro p e s m below meth c T0 X0 hx hby hml hown hnm hZ e0 hret hlk
  have dc := @Jvm.hb _ _ hby
  have ow := @own_w Z a0 hw
  have N0 := Fr.nil n0
  have K0 := Keep.refl h0 ([] : List Addr)
  have ib0 : ¬ ((0 : Int32) * cap_) < 0 ∧ ((0 : Int32) * cap_).toNatClampNeg < N_ := by
    rw [hN]
    rcases hcap with rfl | rfl | rfl <;> decide
  have em0 : ((0 : Int32) * cap_).toNatClampNeg = 0 * cap_.toNatClampNeg := by rcases hcap with rfl | rfl | rfl <;> decide
  have ib1 : ¬ ((1 : Int32) * cap_) < 0 ∧ ((1 : Int32) * cap_).toNatClampNeg < N_ := by
    rw [hN]
    rcases hcap with rfl | rfl | rfl <;> decide
  have em1 : ((1 : Int32) * cap_).toNatClampNeg = 1 * cap_.toNatClampNeg := by rcases hcap with rfl | rfl | rfl <;> decide
  have ib2 : ¬ ((2 : Int32) * cap_) < 0 ∧ ((2 : Int32) * cap_).toNatClampNeg < N_ := by
    rw [hN]
    rcases hcap with rfl | rfl | rfl <;> decide
  have em2 : ((2 : Int32) * cap_).toNatClampNeg = 2 * cap_.toNatClampNeg := by rcases hcap with rfl | rfl | rfl <;> decide
  obtain ⟨T1, X1, e1, st1⟩ := getF X0 hx hZ hown (host := "") (Or.inl (ow 34 rfl)) Via.refl e0 F2 (g := (mkF m 1 #[sR b_, su, su] [(.ref b_)])) rfl rfl (dc d6_1)
  obtain ⟨T3, h3, cA3, X3, e3, E3, A3, J3, st3⟩ := newPE X1 hx hZ (ow 48 rfl) e1 (g := (mkF m 5 #[sR b_, su, su] [(.int 3)])) rfl (dc d6_5) rfl (by decide) (cap := 3) (by decide) (by decide) (by decide) (by decide) (ad := "[J") (by decide)
  obtain ⟨a3, g3⟩ : ∃ z, z = h0.size := ⟨_, rfl⟩
  rw [← g3] at A3 J3 st3
  have M3 : h0.size ≤ a3 := Nat.le_trans K0.1 (Nat.le_of_eq g3.symm)
  have C5 := F2.ext E3
  have C6 := F4.ext E3
  have C7 := F6.ext E3
  have C8 := A1.ext E3
  have C9 := A4.ext E3
  have ne10 := own_neG E0.lt g3
  have ne11 := own_neG A1.lt g3
  have ne12 := own_neG A4.lt g3
  have K14 := K0.ext E3
  have B3 : Arf Z h3 a3 .long Value.long 3 (fun _ => (0 : Int64)) := Arf.new A3 rfl
  have G3 : n0 ≤ a3 := Nat.le_trans Z0 (Nat.le_of_eq g3.symm)
  obtain ⟨T16, X16, e16, st16⟩ := getF X3 hx hZ hown (host := "") (Or.inl (ow 34 rfl)) Via.refl e3 C5 (g := (mkF m 17 #[sR b_, sR a3, sI 0] [(.ref b_)])) rfl rfl (dc d6_17)
  refine Goes.on (T' := T16) (g' := (mkF m 22 #[sR b_, sR a3, sI 0] [(.int (sz_ 0))])) (fun _ k => XS.aloadN X0.here hx rfl (dc d6_0) rfl rfl (st1 _ (aLenm X1 hx hZ e1 A1 (dc d6_4) (st3 _ (XS.astoreN X3.here hx rfl (dc d6_7) rfl rfl (l' := #[sR b_, sR a3, su]) rfl (XS.iconst X3.here hx rfl (dc d6_8) (XS.istoreN X3.here hx rfl (dc d6_9) rfl (l' := #[sR b_, sR a3, sI 0]) rfl (XS.iloadN X3.here hx rfl (dc d6_10) rfl (XS.aloadN X3.here hx rfl (dc d6_11) rfl rfl (aLenm X3 hx hZ e3 B3 (dc d6_12) (XS.icmpNo X3.here hx rfl (dc d6_13) rfl (XT.ii_ge_f (by decide)) (XS.aloadN X3.here hx rfl (dc d6_16) rfl rfl (st16 _ (XS.iloadN X16.here hx rfl (dc d6_20) rfl (ldIm X16 hx hZ e16 C8 (by decide) (dc d6_21) k))))))))))))))) ?_
  by_cases hc18 : (0 : Int32) < (sz_ 0)
  · obtain ⟨T19, X19, e19, st19⟩ := getF X16 hx hZ hown (host := "") (Or.inl (ow 49 rfl)) Via.refl e16 C7 (g := (mkF m 28 #[sR b_, sR a3, sI 0] [(.ref b_), (.int 0), (.ref a3)])) rfl rfl (dc d6_28)
    obtain ⟨T20, X20, e20, st20⟩ := getF X19 hx hZ hown (host := "") (Or.inl (ow 44 rfl)) Via.refl e19 C6 (g := (mkF m 33 #[sR b_, sR a3, sI 0] [(.ref b_), (.int 0), (.ref I_), (.int 0), (.ref a3)])) rfl rfl (dc d6_33)
    obtain ⟨T22, h22, X22, e22, W22, B22, st22⟩ := wrJ X20 hx hZ e20 B3 (by decide)  (g := (mkF m 38 #[sR b_, sR a3, sI 0] [(.long (id_ ((0 : Int32) * cap_).toNatClampNeg)), (.int 0), (.ref a3)])) rfl rfl (dc d6_38)
    have N22 := Fr.snoc X22 N0 G3
    have C24 := C5.other W22 (Or.inl ne10)
    have C25 := C6.other W22 (Or.inl ne10)
    have C26 := C7.other W22 (Or.inl ne10)
    have C27 := C8.other W22 ne11
    have C28 := C9.other W22 ne12
    have C29 := J3.wr W22
    have K31 := K14.wr W22 (Or.inr M3)
    have B22 : Arf Z h22 a3 .long Value.long 3 (Upd (fun _ => (0 : Int64)) 0 (id_ ((0 : Int32) * cap_).toNatClampNeg)) := B22
    obtain ⟨T33, X33, e33, st33⟩ := getF X22 hx hZ hown (host := "") (Or.inl (ow 34 rfl)) Via.refl e22 C24 (g := (mkF m 17 #[sR b_, sR a3, sI 1] [(.ref b_)])) rfl rfl (dc d6_17)
    refine Goes.on (T' := T33) (g' := (mkF m 22 #[sR b_, sR a3, sI 1] [(.int (sz_ 1))])) (fun _ k => XS.ifNo X16.here hx rfl (dc d6_22) rfl (XT.i0_le_f hc18) (XS.aloadN X16.here hx rfl (dc d6_25) rfl rfl (XS.iloadN X16.here hx rfl (dc d6_26) rfl (XS.aloadN X16.here hx rfl (dc d6_27) rfl rfl (st19 _ (XS.iloadN X19.here hx rfl (dc d6_31) rfl (XS.aloadN X19.here hx rfl (dc d6_32) rfl rfl (st20 _ (XS.imul X20.here hx rfl (dc d6_36) rfl (ldJm X20 hx hZ e20 C9 ib0 (dc d6_37) (st22 _ (XT.iincV X22.here hx rfl (1 : Int32) (dc d6_39) (by decide) rfl (l' := #[sR b_, sR a3, sI 1]) rfl (XS.goto X22.here hx rfl (pc0 := 42) (pc' := 10) rfl (dc d6_42) (by decide) (by decide) (XS.iloadN X22.here hx rfl (dc d6_10) rfl (XS.aloadN X22.here hx rfl (dc d6_11) rfl rfl (aLenm X22 hx hZ e22 B22 (dc d6_12) (XS.icmpNo X22.here hx rfl (dc d6_13) rfl (XT.ii_ge_f (by decide)) (XS.aloadN X22.here hx rfl (dc d6_16) rfl rfl (st33 _ (XS.iloadN X33.here hx rfl (dc d6_20) rfl (ldIm X33 hx hZ e33 C27 (by decide) (dc d6_21) k))))))))))))))))))))) ?_
    by_cases hc35 : (0 : Int32) < (sz_ 1)
    · obtain ⟨T36, X36, e36, st36⟩ := getF X33 hx hZ hown (host := "") (Or.inl (ow 49 rfl)) Via.refl e33 C26 (g := (mkF m 28 #[sR b_, sR a3, sI 1] [(.ref b_), (.int 1), (.ref a3)])) rfl rfl (dc d6_28)
      obtain ⟨T37, X37, e37, st37⟩ := getF X36 hx hZ hown (host := "") (Or.inl (ow 44 rfl)) Via.refl e36 C25 (g := (mkF m 33 #[sR b_, sR a3, sI 1] [(.ref b_), (.int 1), (.ref I_), (.int 1), (.ref a3)])) rfl rfl (dc d6_33)
      obtain ⟨T39, h39, X39, e39, W39, B39, st39⟩ := wrJ X37 hx hZ e37 B22 (by decide)  (g := (mkF m 38 #[sR b_, sR a3, sI 1] [(.long (id_ ((1 : Int32) * cap_).toNatClampNeg)), (.int 1), (.ref a3)])) rfl rfl (dc d6_38)
      have N39 := Fr.snoc X39 N22 G3
      have C41 := C24.other W39 (Or.inl ne10)
      have C42 := C25.other W39 (Or.inl ne10)
      have C43 := C26.other W39 (Or.inl ne10)
      have C44 := C27.other W39 ne11
      have C45 := C28.other W39 ne12
      have C46 := C29.wr W39
      have K48 := K31.wr W39 (Or.inr M3)
      have B39 : Arf Z h39 a3 .long Value.long 3 (Upd (Upd (fun _ => (0 : Int64)) 0 (id_ ((0 : Int32) * cap_).toNatClampNeg)) 1 (id_ ((1 : Int32) * cap_).toNatClampNeg)) := B39
      obtain ⟨T50, X50, e50, st50⟩ := getF X39 hx hZ hown (host := "") (Or.inl (ow 34 rfl)) Via.refl e39 C41 (g := (mkF m 17 #[sR b_, sR a3, sI 2] [(.ref b_)])) rfl rfl (dc d6_17)
      refine Goes.on (T' := T50) (g' := (mkF m 22 #[sR b_, sR a3, sI 2] [(.int (sz_ 2))])) (fun _ k => XS.ifNo X33.here hx rfl (dc d6_22) rfl (XT.i0_le_f hc35) (XS.aloadN X33.here hx rfl (dc d6_25) rfl rfl (XS.iloadN X33.here hx rfl (dc d6_26) rfl (XS.aloadN X33.here hx rfl (dc d6_27) rfl rfl (st36 _ (XS.iloadN X36.here hx rfl (dc d6_31) rfl (XS.aloadN X36.here hx rfl (dc d6_32) rfl rfl (st37 _ (XS.imul X37.here hx rfl (dc d6_36) rfl (ldJm X37 hx hZ e37 C28 ib1 (dc d6_37) (st39 _ (XT.iincV X39.here hx rfl (1 : Int32) (dc d6_39) (by decide) rfl (l' := #[sR b_, sR a3, sI 2]) rfl (XS.goto X39.here hx rfl (pc0 := 42) (pc' := 10) rfl (dc d6_42) (by decide) (by decide) (XS.iloadN X39.here hx rfl (dc d6_10) rfl (XS.aloadN X39.here hx rfl (dc d6_11) rfl rfl (aLenm X39 hx hZ e39 B39 (dc d6_12) (XS.icmpNo X39.here hx rfl (dc d6_13) rfl (XT.ii_ge_f (by decide)) (XS.aloadN X39.here hx rfl (dc d6_16) rfl rfl (st50 _ (XS.iloadN X50.here hx rfl (dc d6_20) rfl (ldIm X50 hx hZ e50 C44 (by decide) (dc d6_21) k))))))))))))))))))))) ?_
      by_cases hc52 : (0 : Int32) < (sz_ 2)
      · obtain ⟨T53, X53, e53, st53⟩ := getF X50 hx hZ hown (host := "") (Or.inl (ow 49 rfl)) Via.refl e50 C43 (g := (mkF m 28 #[sR b_, sR a3, sI 2] [(.ref b_), (.int 2), (.ref a3)])) rfl rfl (dc d6_28)
        obtain ⟨T54, X54, e54, st54⟩ := getF X53 hx hZ hown (host := "") (Or.inl (ow 44 rfl)) Via.refl e53 C42 (g := (mkF m 33 #[sR b_, sR a3, sI 2] [(.ref b_), (.int 2), (.ref I_), (.int 2), (.ref a3)])) rfl rfl (dc d6_33)
        obtain ⟨T56, h56, X56, e56, W56, B56, st56⟩ := wrJ X54 hx hZ e54 B39 (by decide)  (g := (mkF m 38 #[sR b_, sR a3, sI 2] [(.long (id_ ((2 : Int32) * cap_).toNatClampNeg)), (.int 2), (.ref a3)])) rfl rfl (dc d6_38)
        have N56 := Fr.snoc X56 N39 G3
        have C63 := C46.wr W56
        have K65 := K48.wr W56 (Or.inr M3)
        have B56 : Arf Z h56 a3 .long Value.long 3 (Upd (Upd (Upd (fun _ => (0 : Int64)) 0 (id_ ((0 : Int32) * cap_).toNatClampNeg)) 1 (id_ ((1 : Int32) * cap_).toNatClampNeg)) 2 (id_ ((2 : Int32) * cap_).toNatClampNeg)) := B56
        refine Goes.on (T' := T56) (g' := (mkF m 46 #[sR b_, sR a3, sI 3] [(.ref a3)])) (fun _ k => XS.ifNo X50.here hx rfl (dc d6_22) rfl (XT.i0_le_f hc52) (XS.aloadN X50.here hx rfl (dc d6_25) rfl rfl (XS.iloadN X50.here hx rfl (dc d6_26) rfl (XS.aloadN X50.here hx rfl (dc d6_27) rfl rfl (st53 _ (XS.iloadN X53.here hx rfl (dc d6_31) rfl (XS.aloadN X53.here hx rfl (dc d6_32) rfl rfl (st54 _ (XS.imul X54.here hx rfl (dc d6_36) rfl (ldJm X54 hx hZ e54 C45 ib2 (dc d6_37) (st56 _ (XT.iincV X56.here hx rfl (1 : Int32) (dc d6_39) (by decide) rfl (l' := #[sR b_, sR a3, sI 3]) rfl (XS.goto X56.here hx rfl (pc0 := 42) (pc' := 10) rfl (dc d6_42) (by decide) (by decide) (XS.iloadN X56.here hx rfl (dc d6_10) rfl (XS.aloadN X56.here hx rfl (dc d6_11) rfl rfl (aLenm X56 hx hZ e56 B56 (dc d6_12) (XS.icmpYes X56.here hx rfl (pc0 := 13) (pc' := 45) rfl (dc d6_13) rfl (XT.ii_ge_t (by decide)) (by decide) (by decide) (XS.aloadN X56.here hx rfl (dc d6_45) rfl rfl k)))))))))))))))))) ?_
        exact Goes.retA X56 hx hlk hret rfl rfl (dc d6_46) (by decide) (by decide) (by rw [e56]; exact ⟨a3, (Upd (Upd (Upd (fun _ => (0 : Int64)) 0 (id_ ((0 : Int32) * cap_).toNatClampNeg)) 1 (id_ ((1 : Int32) * cap_).toNatClampNeg)) 2 (id_ ((2 : Int32) * cap_).toNatClampNeg)), rfl, N56, K65, C63, B56, M3, (by rw [if_pos hc18]; exact congrArg id_ em0), (by rw [if_pos hc35]; exact congrArg id_ em1), (by rw [if_pos hc52]; exact congrArg id_ em2)⟩)
      · refine Goes.on (T' := T50) (g' := (mkF m 46 #[sR b_, sR a3, sI 3] [(.ref a3)])) (fun _ k => XS.ifYes X50.here hx rfl (pc0 := 22) (pc' := 39) rfl (dc d6_22) rfl (XT.i0_le_t hc52) (by decide) (by decide) (XT.iincV X50.here hx rfl (1 : Int32) (dc d6_39) (by decide) rfl (l' := #[sR b_, sR a3, sI 3]) rfl (XS.goto X50.here hx rfl (pc0 := 42) (pc' := 10) rfl (dc d6_42) (by decide) (by decide) (XS.iloadN X50.here hx rfl (dc d6_10) rfl (XS.aloadN X50.here hx rfl (dc d6_11) rfl rfl (aLenm X50 hx hZ e50 B39 (dc d6_12) (XS.icmpYes X50.here hx rfl (pc0 := 13) (pc' := 45) rfl (dc d6_13) rfl (XT.ii_ge_t (by decide)) (by decide) (by decide) (XS.aloadN X50.here hx rfl (dc d6_45) rfl rfl k)))))))) ?_
        exact Goes.retA X50 hx hlk hret rfl rfl (dc d6_46) (by decide) (by decide) (by rw [e50]; exact ⟨a3, (Upd (Upd (fun _ => (0 : Int64)) 0 (id_ ((0 : Int32) * cap_).toNatClampNeg)) 1 (id_ ((1 : Int32) * cap_).toNatClampNeg)), rfl, N39, K48, C46, B39, M3, (by rw [if_pos hc18]; exact congrArg id_ em0), (by rw [if_pos hc35]; exact congrArg id_ em1), (by rw [if_neg hc52] <;> rfl)⟩)
    · obtain ⟨T69, X69, e69, st69⟩ := getF X33 hx hZ hown (host := "") (Or.inl (ow 34 rfl)) Via.refl e33 C24 (g := (mkF m 17 #[sR b_, sR a3, sI 2] [(.ref b_)])) rfl rfl (dc d6_17)
      refine Goes.on (T' := T69) (g' := (mkF m 22 #[sR b_, sR a3, sI 2] [(.int (sz_ 2))])) (fun _ k => XS.ifYes X33.here hx rfl (pc0 := 22) (pc' := 39) rfl (dc d6_22) rfl (XT.i0_le_t hc35) (by decide) (by decide) (XT.iincV X33.here hx rfl (1 : Int32) (dc d6_39) (by decide) rfl (l' := #[sR b_, sR a3, sI 2]) rfl (XS.goto X33.here hx rfl (pc0 := 42) (pc' := 10) rfl (dc d6_42) (by decide) (by decide) (XS.iloadN X33.here hx rfl (dc d6_10) rfl (XS.aloadN X33.here hx rfl (dc d6_11) rfl rfl (aLenm X33 hx hZ e33 B22 (dc d6_12) (XS.icmpNo X33.here hx rfl (dc d6_13) rfl (XT.ii_ge_f (by decide)) (XS.aloadN X33.here hx rfl (dc d6_16) rfl rfl (st69 _ (XS.iloadN X69.here hx rfl (dc d6_20) rfl (ldIm X69 hx hZ e69 C27 (by decide) (dc d6_21) k))))))))))) ?_
      by_cases hc71 : (0 : Int32) < (sz_ 2)
      · obtain ⟨T72, X72, e72, st72⟩ := getF X69 hx hZ hown (host := "") (Or.inl (ow 49 rfl)) Via.refl e69 C26 (g := (mkF m 28 #[sR b_, sR a3, sI 2] [(.ref b_), (.int 2), (.ref a3)])) rfl rfl (dc d6_28)
        obtain ⟨T73, X73, e73, st73⟩ := getF X72 hx hZ hown (host := "") (Or.inl (ow 44 rfl)) Via.refl e72 C25 (g := (mkF m 33 #[sR b_, sR a3, sI 2] [(.ref b_), (.int 2), (.ref I_), (.int 2), (.ref a3)])) rfl rfl (dc d6_33)
        obtain ⟨T75, h75, X75, e75, W75, B75, st75⟩ := wrJ X73 hx hZ e73 B22 (by decide)  (g := (mkF m 38 #[sR b_, sR a3, sI 2] [(.long (id_ ((2 : Int32) * cap_).toNatClampNeg)), (.int 2), (.ref a3)])) rfl rfl (dc d6_38)
        have N75 := Fr.snoc X75 N22 G3
        have C82 := C29.wr W75
        have K84 := K31.wr W75 (Or.inr M3)
        have B75 : Arf Z h75 a3 .long Value.long 3 (Upd (Upd (fun _ => (0 : Int64)) 0 (id_ ((0 : Int32) * cap_).toNatClampNeg)) 2 (id_ ((2 : Int32) * cap_).toNatClampNeg)) := B75
        refine Goes.on (T' := T75) (g' := (mkF m 46 #[sR b_, sR a3, sI 3] [(.ref a3)])) (fun _ k => XS.ifNo X69.here hx rfl (dc d6_22) rfl (XT.i0_le_f hc71) (XS.aloadN X69.here hx rfl (dc d6_25) rfl rfl (XS.iloadN X69.here hx rfl (dc d6_26) rfl (XS.aloadN X69.here hx rfl (dc d6_27) rfl rfl (st72 _ (XS.iloadN X72.here hx rfl (dc d6_31) rfl (XS.aloadN X72.here hx rfl (dc d6_32) rfl rfl (st73 _ (XS.imul X73.here hx rfl (dc d6_36) rfl (ldJm X73 hx hZ e73 C28 ib2 (dc d6_37) (st75 _ (XT.iincV X75.here hx rfl (1 : Int32) (dc d6_39) (by decide) rfl (l' := #[sR b_, sR a3, sI 3]) rfl (XS.goto X75.here hx rfl (pc0 := 42) (pc' := 10) rfl (dc d6_42) (by decide) (by decide) (XS.iloadN X75.here hx rfl (dc d6_10) rfl (XS.aloadN X75.here hx rfl (dc d6_11) rfl rfl (aLenm X75 hx hZ e75 B75 (dc d6_12) (XS.icmpYes X75.here hx rfl (pc0 := 13) (pc' := 45) rfl (dc d6_13) rfl (XT.ii_ge_t (by decide)) (by decide) (by decide) (XS.aloadN X75.here hx rfl (dc d6_45) rfl rfl k)))))))))))))))))) ?_
        exact Goes.retA X75 hx hlk hret rfl rfl (dc d6_46) (by decide) (by decide) (by rw [e75]; exact ⟨a3, (Upd (Upd (fun _ => (0 : Int64)) 0 (id_ ((0 : Int32) * cap_).toNatClampNeg)) 2 (id_ ((2 : Int32) * cap_).toNatClampNeg)), rfl, N75, K84, C82, B75, M3, (by rw [if_pos hc18]; exact congrArg id_ em0), (by rw [if_neg hc35] <;> rfl), (by rw [if_pos hc71]; exact congrArg id_ em2)⟩)
      · refine Goes.on (T' := T69) (g' := (mkF m 46 #[sR b_, sR a3, sI 3] [(.ref a3)])) (fun _ k => XS.ifYes X69.here hx rfl (pc0 := 22) (pc' := 39) rfl (dc d6_22) rfl (XT.i0_le_t hc71) (by decide) (by decide) (XT.iincV X69.here hx rfl (1 : Int32) (dc d6_39) (by decide) rfl (l' := #[sR b_, sR a3, sI 3]) rfl (XS.goto X69.here hx rfl (pc0 := 42) (pc' := 10) rfl (dc d6_42) (by decide) (by decide) (XS.iloadN X69.here hx rfl (dc d6_10) rfl (XS.aloadN X69.here hx rfl (dc d6_11) rfl rfl (aLenm X69 hx hZ e69 B22 (dc d6_12) (XS.icmpYes X69.here hx rfl (pc0 := 13) (pc' := 45) rfl (dc d6_13) rfl (XT.ii_ge_t (by decide)) (by decide) (by decide) (XS.aloadN X69.here hx rfl (dc d6_45) rfl rfl k)))))))) ?_
        exact Goes.retA X69 hx hlk hret rfl rfl (dc d6_46) (by decide) (by decide) (by rw [e69]; exact ⟨a3, (Upd (fun _ => (0 : Int64)) 0 (id_ ((0 : Int32) * cap_).toNatClampNeg)), rfl, N22, K31, C29, B22, M3, (by rw [if_pos hc18]; exact congrArg id_ em0), (by rw [if_neg hc35] <;> rfl), (by rw [if_neg hc71] <;> rfl)⟩)
  · obtain ⟨T88, X88, e88, st88⟩ := getF X16 hx hZ hown (host := "") (Or.inl (ow 34 rfl)) Via.refl e16 C5 (g := (mkF m 17 #[sR b_, sR a3, sI 1] [(.ref b_)])) rfl rfl (dc d6_17)
    refine Goes.on (T' := T88) (g' := (mkF m 22 #[sR b_, sR a3, sI 1] [(.int (sz_ 1))])) (fun _ k => XS.ifYes X16.here hx rfl (pc0 := 22) (pc' := 39) rfl (dc d6_22) rfl (XT.i0_le_t hc18) (by decide) (by decide) (XT.iincV X16.here hx rfl (1 : Int32) (dc d6_39) (by decide) rfl (l' := #[sR b_, sR a3, sI 1]) rfl (XS.goto X16.here hx rfl (pc0 := 42) (pc' := 10) rfl (dc d6_42) (by decide) (by decide) (XS.iloadN X16.here hx rfl (dc d6_10) rfl (XS.aloadN X16.here hx rfl (dc d6_11) rfl rfl (aLenm X16 hx hZ e16 B3 (dc d6_12) (XS.icmpNo X16.here hx rfl (dc d6_13) rfl (XT.ii_ge_f (by decide)) (XS.aloadN X16.here hx rfl (dc d6_16) rfl rfl (st88 _ (XS.iloadN X88.here hx rfl (dc d6_20) rfl (ldIm X88 hx hZ e88 C8 (by decide) (dc d6_21) k))))))))))) ?_
    by_cases hc90 : (0 : Int32) < (sz_ 1)
    · obtain ⟨T91, X91, e91, st91⟩ := getF X88 hx hZ hown (host := "") (Or.inl (ow 49 rfl)) Via.refl e88 C7 (g := (mkF m 28 #[sR b_, sR a3, sI 1] [(.ref b_), (.int 1), (.ref a3)])) rfl rfl (dc d6_28)
      obtain ⟨T92, X92, e92, st92⟩ := getF X91 hx hZ hown (host := "") (Or.inl (ow 44 rfl)) Via.refl e91 C6 (g := (mkF m 33 #[sR b_, sR a3, sI 1] [(.ref b_), (.int 1), (.ref I_), (.int 1), (.ref a3)])) rfl rfl (dc d6_33)
      obtain ⟨T94, h94, X94, e94, W94, B94, st94⟩ := wrJ X92 hx hZ e92 B3 (by decide)  (g := (mkF m 38 #[sR b_, sR a3, sI 1] [(.long (id_ ((1 : Int32) * cap_).toNatClampNeg)), (.int 1), (.ref a3)])) rfl rfl (dc d6_38)
      have N94 := Fr.snoc X94 N0 G3
      have C96 := C5.other W94 (Or.inl ne10)
      have C97 := C6.other W94 (Or.inl ne10)
      have C98 := C7.other W94 (Or.inl ne10)
      have C99 := C8.other W94 ne11
      have C100 := C9.other W94 ne12
      have C101 := J3.wr W94
      have K103 := K14.wr W94 (Or.inr M3)
      have B94 : Arf Z h94 a3 .long Value.long 3 (Upd (fun _ => (0 : Int64)) 1 (id_ ((1 : Int32) * cap_).toNatClampNeg)) := B94
      obtain ⟨T105, X105, e105, st105⟩ := getF X94 hx hZ hown (host := "") (Or.inl (ow 34 rfl)) Via.refl e94 C96 (g := (mkF m 17 #[sR b_, sR a3, sI 2] [(.ref b_)])) rfl rfl (dc d6_17)
      refine Goes.on (T' := T105) (g' := (mkF m 22 #[sR b_, sR a3, sI 2] [(.int (sz_ 2))])) (fun _ k => XS.ifNo X88.here hx rfl (dc d6_22) rfl (XT.i0_le_f hc90) (XS.aloadN X88.here hx rfl (dc d6_25) rfl rfl (XS.iloadN X88.here hx rfl (dc d6_26) rfl (XS.aloadN X88.here hx rfl (dc d6_27) rfl rfl (st91 _ (XS.iloadN X91.here hx rfl (dc d6_31) rfl (XS.aloadN X91.here hx rfl (dc d6_32) rfl rfl (st92 _ (XS.imul X92.here hx rfl (dc d6_36) rfl (ldJm X92 hx hZ e92 C9 ib1 (dc d6_37) (st94 _ (XT.iincV X94.here hx rfl (1 : Int32) (dc d6_39) (by decide) rfl (l' := #[sR b_, sR a3, sI 2]) rfl (XS.goto X94.here hx rfl (pc0 := 42) (pc' := 10) rfl (dc d6_42) (by decide) (by decide) (XS.iloadN X94.here hx rfl (dc d6_10) rfl (XS.aloadN X94.here hx rfl (dc d6_11) rfl rfl (aLenm X94 hx hZ e94 B94 (dc d6_12) (XS.icmpNo X94.here hx rfl (dc d6_13) rfl (XT.ii_ge_f (by decide)) (XS.aloadN X94.here hx rfl (dc d6_16) rfl rfl (st105 _ (XS.iloadN X105.here hx rfl (dc d6_20) rfl (ldIm X105 hx hZ e105 C99 (by decide) (dc d6_21) k))))))))))))))))))))) ?_
      by_cases hc107 : (0 : Int32) < (sz_ 2)
      · obtain ⟨T108, X108, e108, st108⟩ := getF X105 hx hZ hown (host := "") (Or.inl (ow 49 rfl)) Via.refl e105 C98 (g := (mkF m 28 #[sR b_, sR a3, sI 2] [(.ref b_), (.int 2), (.ref a3)])) rfl rfl (dc d6_28)
        obtain ⟨T109, X109, e109, st109⟩ := getF X108 hx hZ hown (host := "") (Or.inl (ow 44 rfl)) Via.refl e108 C97 (g := (mkF m 33 #[sR b_, sR a3, sI 2] [(.ref b_), (.int 2), (.ref I_), (.int 2), (.ref a3)])) rfl rfl (dc d6_33)
        obtain ⟨T111, h111, X111, e111, W111, B111, st111⟩ := wrJ X109 hx hZ e109 B94 (by decide)  (g := (mkF m 38 #[sR b_, sR a3, sI 2] [(.long (id_ ((2 : Int32) * cap_).toNatClampNeg)), (.int 2), (.ref a3)])) rfl rfl (dc d6_38)
        have N111 := Fr.snoc X111 N94 G3
        have C118 := C101.wr W111
        have K120 := K103.wr W111 (Or.inr M3)
        have B111 : Arf Z h111 a3 .long Value.long 3 (Upd (Upd (fun _ => (0 : Int64)) 1 (id_ ((1 : Int32) * cap_).toNatClampNeg)) 2 (id_ ((2 : Int32) * cap_).toNatClampNeg)) := B111
        refine Goes.on (T' := T111) (g' := (mkF m 46 #[sR b_, sR a3, sI 3] [(.ref a3)])) (fun _ k => XS.ifNo X105.here hx rfl (dc d6_22) rfl (XT.i0_le_f hc107) (XS.aloadN X105.here hx rfl (dc d6_25) rfl rfl (XS.iloadN X105.here hx rfl (dc d6_26) rfl (XS.aloadN X105.here hx rfl (dc d6_27) rfl rfl (st108 _ (XS.iloadN X108.here hx rfl (dc d6_31) rfl (XS.aloadN X108.here hx rfl (dc d6_32) rfl rfl (st109 _ (XS.imul X109.here hx rfl (dc d6_36) rfl (ldJm X109 hx hZ e109 C100 ib2 (dc d6_37) (st111 _ (XT.iincV X111.here hx rfl (1 : Int32) (dc d6_39) (by decide) rfl (l' := #[sR b_, sR a3, sI 3]) rfl (XS.goto X111.here hx rfl (pc0 := 42) (pc' := 10) rfl (dc d6_42) (by decide) (by decide) (XS.iloadN X111.here hx rfl (dc d6_10) rfl (XS.aloadN X111.here hx rfl (dc d6_11) rfl rfl (aLenm X111 hx hZ e111 B111 (dc d6_12) (XS.icmpYes X111.here hx rfl (pc0 := 13) (pc' := 45) rfl (dc d6_13) rfl (XT.ii_ge_t (by decide)) (by decide) (by decide) (XS.aloadN X111.here hx rfl (dc d6_45) rfl rfl k)))))))))))))))))) ?_
        exact Goes.retA X111 hx hlk hret rfl rfl (dc d6_46) (by decide) (by decide) (by rw [e111]; exact ⟨a3, (Upd (Upd (fun _ => (0 : Int64)) 1 (id_ ((1 : Int32) * cap_).toNatClampNeg)) 2 (id_ ((2 : Int32) * cap_).toNatClampNeg)), rfl, N111, K120, C118, B111, M3, (by rw [if_neg hc18] <;> rfl), (by rw [if_pos hc90]; exact congrArg id_ em1), (by rw [if_pos hc107]; exact congrArg id_ em2)⟩)
      · refine Goes.on (T' := T105) (g' := (mkF m 46 #[sR b_, sR a3, sI 3] [(.ref a3)])) (fun _ k => XS.ifYes X105.here hx rfl (pc0 := 22) (pc' := 39) rfl (dc d6_22) rfl (XT.i0_le_t hc107) (by decide) (by decide) (XT.iincV X105.here hx rfl (1 : Int32) (dc d6_39) (by decide) rfl (l' := #[sR b_, sR a3, sI 3]) rfl (XS.goto X105.here hx rfl (pc0 := 42) (pc' := 10) rfl (dc d6_42) (by decide) (by decide) (XS.iloadN X105.here hx rfl (dc d6_10) rfl (XS.aloadN X105.here hx rfl (dc d6_11) rfl rfl (aLenm X105 hx hZ e105 B94 (dc d6_12) (XS.icmpYes X105.here hx rfl (pc0 := 13) (pc' := 45) rfl (dc d6_13) rfl (XT.ii_ge_t (by decide)) (by decide) (by decide) (XS.aloadN X105.here hx rfl (dc d6_45) rfl rfl k)))))))) ?_
        exact Goes.retA X105 hx hlk hret rfl rfl (dc d6_46) (by decide) (by decide) (by rw [e105]; exact ⟨a3, (Upd (fun _ => (0 : Int64)) 1 (id_ ((1 : Int32) * cap_).toNatClampNeg)), rfl, N94, K103, C101, B94, M3, (by rw [if_neg hc18] <;> rfl), (by rw [if_pos hc90]; exact congrArg id_ em1), (by rw [if_neg hc107] <;> rfl)⟩)
    · obtain ⟨T124, X124, e124, st124⟩ := getF X88 hx hZ hown (host := "") (Or.inl (ow 34 rfl)) Via.refl e88 C5 (g := (mkF m 17 #[sR b_, sR a3, sI 2] [(.ref b_)])) rfl rfl (dc d6_17)
      refine Goes.on (T' := T124) (g' := (mkF m 22 #[sR b_, sR a3, sI 2] [(.int (sz_ 2))])) (fun _ k => XS.ifYes X88.here hx rfl (pc0 := 22) (pc' := 39) rfl (dc d6_22) rfl (XT.i0_le_t hc90) (by decide) (by decide) (XT.iincV X88.here hx rfl (1 : Int32) (dc d6_39) (by decide) rfl (l' := #[sR b_, sR a3, sI 2]) rfl (XS.goto X88.here hx rfl (pc0 := 42) (pc' := 10) rfl (dc d6_42) (by decide) (by decide) (XS.iloadN X88.here hx rfl (dc d6_10) rfl (XS.aloadN X88.here hx rfl (dc d6_11) rfl rfl (aLenm X88 hx hZ e88 B3 (dc d6_12) (XS.icmpNo X88.here hx rfl (dc d6_13) rfl (XT.ii_ge_f (by decide)) (XS.aloadN X88.here hx rfl (dc d6_16) rfl rfl (st124 _ (XS.iloadN X124.here hx rfl (dc d6_20) rfl (ldIm X124 hx hZ e124 C8 (by decide) (dc d6_21) k))))))))))) ?_
      by_cases hc126 : (0 : Int32) < (sz_ 2)
      · obtain ⟨T127, X127, e127, st127⟩ := getF X124 hx hZ hown (host := "") (Or.inl (ow 49 rfl)) Via.refl e124 C7 (g := (mkF m 28 #[sR b_, sR a3, sI 2] [(.ref b_), (.int 2), (.ref a3)])) rfl rfl (dc d6_28)
        obtain ⟨T128, X128, e128, st128⟩ := getF X127 hx hZ hown (host := "") (Or.inl (ow 44 rfl)) Via.refl e127 C6 (g := (mkF m 33 #[sR b_, sR a3, sI 2] [(.ref b_), (.int 2), (.ref I_), (.int 2), (.ref a3)])) rfl rfl (dc d6_33)
        obtain ⟨T130, h130, X130, e130, W130, B130, st130⟩ := wrJ X128 hx hZ e128 B3 (by decide)  (g := (mkF m 38 #[sR b_, sR a3, sI 2] [(.long (id_ ((2 : Int32) * cap_).toNatClampNeg)), (.int 2), (.ref a3)])) rfl rfl (dc d6_38)
        have N130 := Fr.snoc X130 N0 G3
        have C137 := J3.wr W130
        have K139 := K14.wr W130 (Or.inr M3)
        have B130 : Arf Z h130 a3 .long Value.long 3 (Upd (fun _ => (0 : Int64)) 2 (id_ ((2 : Int32) * cap_).toNatClampNeg)) := B130
        refine Goes.on (T' := T130) (g' := (mkF m 46 #[sR b_, sR a3, sI 3] [(.ref a3)])) (fun _ k => XS.ifNo X124.here hx rfl (dc d6_22) rfl (XT.i0_le_f hc126) (XS.aloadN X124.here hx rfl (dc d6_25) rfl rfl (XS.iloadN X124.here hx rfl (dc d6_26) rfl (XS.aloadN X124.here hx rfl (dc d6_27) rfl rfl (st127 _ (XS.iloadN X127.here hx rfl (dc d6_31) rfl (XS.aloadN X127.here hx rfl (dc d6_32) rfl rfl (st128 _ (XS.imul X128.here hx rfl (dc d6_36) rfl (ldJm X128 hx hZ e128 C9 ib2 (dc d6_37) (st130 _ (XT.iincV X130.here hx rfl (1 : Int32) (dc d6_39) (by decide) rfl (l' := #[sR b_, sR a3, sI 3]) rfl (XS.goto X130.here hx rfl (pc0 := 42) (pc' := 10) rfl (dc d6_42) (by decide) (by decide) (XS.iloadN X130.here hx rfl (dc d6_10) rfl (XS.aloadN X130.here hx rfl (dc d6_11) rfl rfl (aLenm X130 hx hZ e130 B130 (dc d6_12) (XS.icmpYes X130.here hx rfl (pc0 := 13) (pc' := 45) rfl (dc d6_13) rfl (XT.ii_ge_t (by decide)) (by decide) (by decide) (XS.aloadN X130.here hx rfl (dc d6_45) rfl rfl k)))))))))))))))))) ?_
        exact Goes.retA X130 hx hlk hret rfl rfl (dc d6_46) (by decide) (by decide) (by rw [e130]; exact ⟨a3, (Upd (fun _ => (0 : Int64)) 2 (id_ ((2 : Int32) * cap_).toNatClampNeg)), rfl, N130, K139, C137, B130, M3, (by rw [if_neg hc18] <;> rfl), (by rw [if_neg hc90] <;> rfl), (by rw [if_pos hc126]; exact congrArg id_ em2)⟩)
      · refine Goes.on (T' := T124) (g' := (mkF m 46 #[sR b_, sR a3, sI 3] [(.ref a3)])) (fun _ k => XS.ifYes X124.here hx rfl (pc0 := 22) (pc' := 39) rfl (dc d6_22) rfl (XT.i0_le_t hc126) (by decide) (by decide) (XT.iincV X124.here hx rfl (1 : Int32) (dc d6_39) (by decide) rfl (l' := #[sR b_, sR a3, sI 3]) rfl (XS.goto X124.here hx rfl (pc0 := 42) (pc' := 10) rfl (dc d6_42) (by decide) (by decide) (XS.iloadN X124.here hx rfl (dc d6_10) rfl (XS.aloadN X124.here hx rfl (dc d6_11) rfl rfl (aLenm X124 hx hZ e124 B3 (dc d6_12) (XS.icmpYes X124.here hx rfl (pc0 := 13) (pc' := 45) rfl (dc d6_13) rfl (XT.ii_ge_t (by decide)) (by decide) (by decide) (XS.aloadN X124.here hx rfl (dc d6_45) rfl rfl k)))))))) ?_
        exact Goes.retA X124 hx hlk hret rfl rfl (dc d6_46) (by decide) (by decide) (by rw [e124]; exact ⟨a3, (fun _ => (0 : Int64)), rfl, N0, K14, J3, B3, M3, (by rw [if_neg hc18] <;> rfl), (by rw [if_neg hc90] <;> rfl), (by rw [if_neg hc126] <;> rfl)⟩)
theorem pd_7 : parseMethodDescriptor "(Lcom/example/boceto/boceto/signature/ComponentBuffers;[Z[I[JIIJ)V" = some ⟨[(.object "com/example/boceto/boceto/signature/ComponentBuffers"), (.array .boolean), (.array .int), (.array .long), .int, .int, .long], none⟩ := by decide +kernel
theorem pd_8 : parseMethodDescriptor "()[J" = some ⟨[], some (.array .long)⟩ := by decide +kernel
theorem ef_9 (m : MethodId) (x0 : Int32) (x1 : Int32) (x2 : Int32) (x3 : Int64) (x4 : Int64) (x5 : Int64) : entryFrame m #[(.int x0), (.int x1), (.int x2), (.long x3), (.long x4), (.long x5)] maxLocals = mkF m 0 #[.val (.int x0), .val (.int x1), .val (.int x2), .val (.long x3), .second, .val (.long x4), .second, .val (.long x5), .second, .unset, .unset, .unset, .unset, .unset, .unset, .unset, .unset, .unset] [] := by first | (simp [entryFrame, mkF, argsToLocals, Value.category, maxLocals]; done) | rfl
theorem rm0 (l : Launch) (Z : State) (a0 : Array Value) (hw : TW Z a0) (x0 x1 x2 : Int32) (x3 x4 x5 : Int64) (h0 : Heap) (n0 : Nat) (Z0 : n0 ≤ h0.size) :
    Pays l Z x code maxLocals ret tables_1 room_1 #[(.int x0), (.int x1), (.int x2), (.long x3), (.long x4), (.long x5)] h0 (fun v h L => v = some (.int (1 : Int32)) ∧ Fr n0 L) := by
  refine Pays.walk (plainFor_of_name pn_4) (fun m => ef_9 m x0 x1 x2 x3 x4 x5 ) ?_
  intro p e s m below meth c T0 X0 hx hby hml hown hnm hZ e0 hret hlk
  have dc := @Jvm.hb _ _ hby
  have ow := @own_w Z a0 hw
  have hown : s.vm.findClass "com/example/boceto/boceto/signature/ComponentBuffersMinimumIdentitiesPinLaw" = some m.cls := hown
  have N0 := Fr.nil n0
  refine Goes.on (T' := T0) (g' := (mkF m 28 #[sI x0, sI x1, sI x2, sJ x3, s2, sJ x4, s2, sJ x5, s2, sI ((1 : Int32) + (((x0.toUInt32 >>> ((5 : Int32) &&& 31).toUInt32).toInt32 &&& (3 : Int32)) % (3 : Int32))), sI ((1 : Int32) + (((x0.toUInt32 >>> ((7 : Int32) &&& 31).toUInt32).toInt32 &&& (3 : Int32)) % (3 : Int32))), su, su, su, su, su, su, su] [(.int 3), (.int ((x0.toUInt32 >>> ((9 : Int32) &&& 31).toUInt32).toInt32))])) (fun _ k => XS.iconst X0.here hx rfl (dc at_0) (XS.iloadN X0.here hx rfl (dc at_1) rfl (XS.iconst X0.here hx rfl (dc at_2) (XS.iushr X0.here hx rfl (dc at_3) rfl (XS.iconst X0.here hx rfl (dc at_4) (XS.iand X0.here hx rfl (dc at_5) rfl (XS.iconst X0.here hx rfl (dc at_6) (iremM X0 hx rfl (dc at_7) rfl (by decide) (XS.iadd X0.here hx rfl (dc at_8) rfl (XS.istore X0.here hx rfl (dc at_9) rfl (l' := #[sI x0, sI x1, sI x2, sJ x3, s2, sJ x4, s2, sJ x5, s2, sI ((1 : Int32) + (((x0.toUInt32 >>> ((5 : Int32) &&& 31).toUInt32).toInt32 &&& (3 : Int32)) % (3 : Int32))), su, su, su, su, su, su, su, su]) rfl (XS.iconst X0.here hx rfl (dc at_11) (XS.iloadN X0.here hx rfl (dc at_12) rfl (XS.bipush X0.here hx rfl (dc at_13) (XS.iushr X0.here hx rfl (dc at_15) rfl (XS.iconst X0.here hx rfl (dc at_16) (XS.iand X0.here hx rfl (dc at_17) rfl (XS.iconst X0.here hx rfl (dc at_18) (iremM X0 hx rfl (dc at_19) rfl (by decide) (XS.iadd X0.here hx rfl (dc at_20) rfl (XS.istore X0.here hx rfl (dc at_21) rfl (l' := #[sI x0, sI x1, sI x2, sJ x3, s2, sJ x4, s2, sJ x5, s2, sI ((1 : Int32) + (((x0.toUInt32 >>> ((5 : Int32) &&& 31).toUInt32).toInt32 &&& (3 : Int32)) % (3 : Int32))), sI ((1 : Int32) + (((x0.toUInt32 >>> ((7 : Int32) &&& 31).toUInt32).toInt32 &&& (3 : Int32)) % (3 : Int32))), su, su, su, su, su, su, su]) rfl (XS.iloadN X0.here hx rfl (dc at_23) rfl (XS.bipush X0.here hx rfl (dc at_24) (XS.iushr X0.here hx rfl (dc at_26) rfl (XS.iconst X0.here hx rfl (dc at_27) k)))))))))))))))))))))))) ?_
  have bM := own_m3 (y := (x0.toUInt32 >>> ((5 : Int32) &&& 31).toUInt32).toInt32)
  have bL := own_m3 (y := (x0.toUInt32 >>> ((7 : Int32) &&& 31).toUInt32).toInt32)
  refine Goes.on (T' := T0) (g' := (mkF m 31 #[sI x0, sI x1, sI x2, sJ x3, s2, sJ x4, s2, sJ x5, s2, sI ((1 : Int32) + (((x0.toUInt32 >>> ((5 : Int32) &&& 31).toUInt32).toInt32 &&& (3 : Int32)) % (3 : Int32))), sI ((1 : Int32) + (((x0.toUInt32 >>> ((7 : Int32) &&& 31).toUInt32).toInt32 &&& (3 : Int32)) % (3 : Int32))), sI ((x0.toUInt32 >>> ((9 : Int32) &&& 31).toUInt32).toInt32 &&& (3 : Int32)), su, su, su, su, su, su] [])) (fun _ k => XS.iand X0.here hx rfl (dc at_28) rfl (XS.istore X0.here hx rfl (dc at_29) rfl (l' := #[sI x0, sI x1, sI x2, sJ x3, s2, sJ x4, s2, sJ x5, s2, sI ((1 : Int32) + (((x0.toUInt32 >>> ((5 : Int32) &&& 31).toUInt32).toInt32 &&& (3 : Int32)) % (3 : Int32))), sI ((1 : Int32) + (((x0.toUInt32 >>> ((7 : Int32) &&& 31).toUInt32).toInt32 &&& (3 : Int32)) % (3 : Int32))), sI ((x0.toUInt32 >>> ((9 : Int32) &&& 31).toUInt32).toInt32 &&& (3 : Int32)), su, su, su, su, su, su]) rfl k)) ?_
  generalize ((1 : Int32) + (((x0.toUInt32 >>> ((5 : Int32) &&& 31).toUInt32).toInt32 &&& (3 : Int32)) % (3 : Int32))) = M at bM ⊢
  generalize ((1 : Int32) + (((x0.toUInt32 >>> ((7 : Int32) &&& 31).toUInt32).toInt32 &&& (3 : Int32)) % (3 : Int32))) = l_ at bL ⊢
  generalize ((x0.toUInt32 >>> ((9 : Int32) &&& 31).toUInt32).toInt32 &&& (3 : Int32)) = nn
  rcases bM with rfl | rfl | rfl
  · obtain ⟨T1, h1, X1, e1, E1, A1, D1, U1, st1⟩ := newO X0 hx hZ hown (ow 0 rfl) (ow 1 rfl) (ow 2 rfl) e0 (g := (mkF m 31 #[sI x0, sI x1, sI x2, sJ x3, s2, sJ x4, s2, sJ x5, s2, sI 1, sI l_, sI nn, su, su, su, su, su, su] [])) rfl (dc at_31) (by decide) (by decide)
    obtain ⟨a1, g1⟩ : ∃ z, z = h0.size := ⟨_, rfl⟩
    rw [← g1] at A1 D1 U1 st1
    have Z2 := Nat.le_trans Z0 E1.1
    have F3 : Fld Z h1 a1 "com/example/boceto/boceto/signature/ComponentBuffers" "_capacity" "I" (.int 0) := D1 (Or.inl (ow 45 rfl)) (ty := .int) (by decide)
    have F4 : Fld Z h1 a1 "com/example/boceto/boceto/signature/ComponentBuffers" "_points" "[D" .null := D1 (Or.inl (ow 47 rfl)) (ty := (.array .double)) (by decide)
    have F5 : Fld Z h1 a1 "com/example/boceto/boceto/signature/ComponentBuffers" "_identities" "[J" .null := D1 (Or.inl (ow 50 rfl)) (ty := (.array .long)) (by decide)
    have F6 : Fld Z h1 a1 "com/example/boceto/boceto/signature/ComponentBuffers" "_pointCount" "I" (.int 0) := D1 (Or.inl (ow 79 rfl)) (ty := .int) (by decide)
    have F7 : Fld Z h1 a1 "com/example/boceto/boceto/signature/ComponentBuffers" "_insertion" "Lcom/example/boceto/boceto/signature/PointSink;" .null := D1 (Or.inr (ow 19 rfl)) (ty := (.object "com/example/boceto/boceto/signature/PointSink")) (by decide)
    have F8 : Fld Z h1 a1 "com/example/boceto/boceto/signature/ComponentBuffers" "_removal" "Lcom/example/boceto/boceto/signature/PointSink;" .null := D1 (Or.inr (ow 30 rfl)) (ty := (.object "com/example/boceto/boceto/signature/PointSink")) (by decide)
    have F9 : Fld Z h1 a1 "com/example/boceto/boceto/signature/ComponentBuffers" "_bufferSize" "I" (.int 0) := D1 (Or.inr (ow 32 rfl)) (ty := .int) (by decide)
    have F10 : Fld Z h1 a1 "com/example/boceto/boceto/signature/ComponentBuffers" "_sizes" "[I" .null := D1 (Or.inr (ow 35 rfl)) (ty := (.array .int)) (by decide)
    have F11 : Fld Z h1 a1 "com/example/boceto/boceto/signature/ComponentBuffers" "_thresholds" "[D" .null := D1 (Or.inr (ow 38 rfl)) (ty := (.array .double)) (by decide)
    have G1 : n0 ≤ a1 := Nat.le_trans Z0 (Nat.le_of_eq g1.symm)
    refine Goes.on (T' := T1) (g' := (mkF m 39 #[sI x0, sI x1, sI x2, sJ x3, s2, sJ x4, s2, sJ x5, s2, sI 1, sI l_, sI nn, su, su, su, su, su, su] [(.int l_), (.int 1), (.ref a1), (.ref a1)])) (fun _ k => st1 _ (XS.dup X1.here hx rfl (dc at_34) rfl rfl (XS.iload X1.here hx rfl (dc at_35) rfl (XS.iload X1.here hx rfl (dc at_37) rfl k)))) ?_
    refine Goes.callC X1 hx hZ 1 rfl hown (ow 3 rfl) (ow 4 rfl) (ow 2 rfl) (ow 5 rfl) (by decide) e1 (rmC1 l Z a0 hw a1 l_ h1 n0 Z2  A1 F3 F4 F5 F6 F7 F8 F9 F10 F11 G1 ) (by decide) (by decide) (by decide) (by decide) rfl (by rw [hml]; rfl) (a := a1) (argsL := [(.int 1), (.int l_)]) (rest := [(.ref a1)]) rfl (lenOf pd_4 rfl) rfl (own_le20 rfl) (dc at_39) ?_
    rintro v12 T12 L12 X12 ⟨ya12, yb12, yc12, yd12, rfl, N12q, K12, P12_0, P12_1, P12_2, P12_3, P12_4, P12_5, P12_6, P12_7, P12_8, P12_9, P12_10, P12_11, P12_12, P12_13, P12_14, P12_15, M12_0, M12_1, M12_2, M12_3, D12_0, D12_1, D12_2, D12_3, D12_4, D12_5⟩
    have N12 := Fr.app N0 N12q
    show Goes p e below _ T12 (mkF m 42 #[sI x0, sI x1, sI x2, sJ x3, s2, sJ x4, s2, sJ x5, s2, sI 1, sI l_, sI nn, su, su, su, su, su, su] [(.ref a1)])
    have G14 : n0 ≤ ya12 := Nat.le_trans Z2 M12_0
    have G16 : n0 ≤ yb12 := Nat.le_trans Z2 M12_1
    have G18 : n0 ≤ yc12 := Nat.le_trans Z2 M12_2
    have G20 : n0 ≤ yd12 := Nat.le_trans Z2 M12_3
    have Z22 := Nat.le_trans Z2 K12.1
    obtain ⟨T23, h23, cA23, X23, e23, E23, A23, J23, st23⟩ := newPE X12 hx hZ (ow 51 rfl) rfl (g := (mkF m 45 #[sI x0, sI x1, sI x2, sJ x3, s2, sJ x4, s2, sJ x5, s2, sI 1, sI l_, sI nn, sR a1, su, su, su, su, su] [(.int 3)])) rfl (dc at_45) rfl (by decide) (cap := 3) (by decide) (by decide) (by decide) (by decide) (ad := "[Z") (by decide)
    obtain ⟨a23, g23⟩ : ∃ z, z = T12.heap.size := ⟨_, rfl⟩
    rw [← g23] at A23 J23 st23
    have C32 := P12_8.ext E23
    have Z45 := Nat.le_trans Z22 E23.1
    have B23 : Arf Z h23 a23 .boolean Value.int 3 (fun _ => (0 : Int32)) := Arf.new A23 rfl
    have G23 : n0 ≤ a23 := Nat.le_trans Z22 (Nat.le_of_eq g23.symm)
    obtain ⟨T46, h46, cA46, X46, e46, E46, A46, J46, st46⟩ := newPE X23 hx hZ (ow 33 rfl) e23 (g := (mkF m 50 #[sI x0, sI x1, sI x2, sJ x3, s2, sJ x4, s2, sJ x5, s2, sI 1, sI l_, sI nn, sR a1, sR a23, su, su, su, su] [(.int 3)])) rfl (dc at_50) rfl (by decide) (cap := 3) (by decide) (by decide) (by decide) (by decide) (ad := "[I") (by decide)
    obtain ⟨a46, g46⟩ : ∃ z, z = h23.size := ⟨_, rfl⟩
    rw [← g46] at A46 J46 st46
    have C61 := (P12_14.ext E23).ext E46
    have ne66 := own_neG C32.lt g46
    have Z71 := Nat.le_trans Z45 E46.1
    have B46 : Arf Z h46 a46 .int Value.int 3 (fun _ => (0 : Int32)) := Arf.new A46 rfl
    have G46 : n0 ≤ a46 := Nat.le_trans Z45 (Nat.le_of_eq g46.symm)
    obtain ⟨T72, h72, cA72, X72, e72, E72, A72, J72, st72⟩ := newPE X46 hx hZ (ow 48 rfl) e46 (g := (mkF m 55 #[sI x0, sI x1, sI x2, sJ x3, s2, sJ x4, s2, sJ x5, s2, sI 1, sI l_, sI nn, sR a1, sR a23, sR a46, su, su, su] [(.int 3)])) rfl (dc at_55) rfl (by decide) (cap := 3) (by decide) (by decide) (by decide) (by decide) (ad := "[J") (by decide)
    obtain ⟨a72, g72⟩ : ∃ z, z = h46.size := ⟨_, rfl⟩
    rw [← g72] at A72 J72 st72
    have C73 := ((P12_0.ext E23).ext E46).ext E72
    have C74 := ((P12_1.ext E23).ext E46).ext E72
    have C75 := ((P12_2.ext E23).ext E46).ext E72
    have C76 := ((P12_3.ext E23).ext E46).ext E72
    have C77 := ((P12_4.ext E23).ext E46).ext E72
    have C78 := ((P12_5.ext E23).ext E46).ext E72
    have C79 := ((P12_6.ext E23).ext E46).ext E72
    have C80 := ((P12_7.ext E23).ext E46).ext E72
    have C81 := (C32.ext E46).ext E72
    have C82 := ((P12_9.ext E23).ext E46).ext E72
    have C83 := ((P12_10.ext E23).ext E46).ext E72
    have C84 := ((P12_11.ext E23).ext E46).ext E72
    have C85 := ((P12_12.ext E23).ext E46).ext E72
    have C86 := ((P12_13.ext E23).ext E46).ext E72
    have C87 := C61.ext E72
    have C88 := ((P12_15.ext E23).ext E46).ext E72
    have C89 := (J23.ext E46).ext E72
    have C90 := (B23.ext E46).ext E72
    have C91 := J46.ext E72
    have C92 := B46.ext E72
    have ne97 := own_neG C61.lt g72
    have Z100 := Nat.le_trans Z71 E72.1
    have B72 : Arf Z h72 a72 .long Value.long 3 (fun _ => (0 : Int64)) := Arf.new A72 rfl
    have G72 : n0 ≤ a72 := Nat.le_trans Z71 (Nat.le_of_eq g72.symm)
    refine Goes.on (T' := T72) (g' := (mkF m 61 #[sI x0, sI x1, sI x2, sJ x3, s2, sJ x4, s2, sJ x5, s2, sI 1, sI l_, sI nn, sR a1, sR a23, sR a46, sR a72, su, su] [(.int nn)])) (fun _ k => XS.astore X12.here hx rfl (dc at_42) rfl rfl (l' := #[sI x0, sI x1, sI x2, sJ x3, s2, sJ x4, s2, sJ x5, s2, sI 1, sI l_, sI nn, sR a1, su, su, su, su, su]) rfl (XS.iconst X12.here hx rfl (dc at_44) (st23 _ (XS.astore X23.here hx rfl (dc at_47) rfl rfl (l' := #[sI x0, sI x1, sI x2, sJ x3, s2, sJ x4, s2, sJ x5, s2, sI 1, sI l_, sI nn, sR a1, sR a23, su, su, su, su]) rfl (XS.iconst X23.here hx rfl (dc at_49) (st46 _ (XS.astore X46.here hx rfl (dc at_52) rfl rfl (l' := #[sI x0, sI x1, sI x2, sJ x3, s2, sJ x4, s2, sJ x5, s2, sI 1, sI l_, sI nn, sR a1, sR a23, sR a46, su, su, su]) rfl (XS.iconst X46.here hx rfl (dc at_54) (st72 _ (XS.astore X72.here hx rfl (dc at_57) rfl rfl (l' := #[sI x0, sI x1, sI x2, sJ x3, s2, sJ x4, s2, sJ x5, s2, sI 1, sI l_, sI nn, sR a1, sR a23, sR a46, sR a72, su, su]) rfl (XS.iload X72.here hx rfl (dc at_59) rfl k))))))))))) ?_
    by_cases hc101 : (0 : Int32) < nn
    · refine Goes.on (T' := T72) (g' := (mkF m 76 #[sI x0, sI x1, sI x2, sJ x3, s2, sJ x4, s2, sJ x5, s2, sI 1, sI l_, sI nn, sR a1, sR a23, sR a46, sR a72, su, su] [(.long x3), (.int x0), (.int 1), (.ref a72), (.ref a46), (.ref a23), (.ref a1)])) (fun _ k => XS.ifNo X72.here hx rfl (dc at_61) rfl (XT.i0_le_f hc101) (XS.aload X72.here hx rfl (dc at_64) rfl rfl (XS.aload X72.here hx rfl (dc at_66) rfl rfl (XS.aload X72.here hx rfl (dc at_68) rfl rfl (XS.aload X72.here hx rfl (dc at_70) rfl rfl (XS.iload X72.here hx rfl (dc at_72) rfl (XS.iloadN X72.here hx rfl (dc at_74) rfl (XS.lloadN X72.here hx rfl (dc at_75) rfl k)))))))) ?_
      refine Goes.callS X72 hx hZ 0 hown (ow 57 rfl) (ow 58 rfl) (ow 59 rfl) (ow 60 rfl) (by decide) e72 (rmSt l Z a0 hw 0 a1 ya12 yb12 yc12 yd12 a23 a46 a72 1 1 (1 : Int32) x0 (1 : Int32) l_ (0 : Int32) x3 (fun _ => (0 : Int32)) (fun _ => dinf) (fun _ => (dint 0)) (fun _ => (0 : Int64)) (fun _ => (0 : Int32)) (fun _ => (0 : Int32)) (fun _ => (0 : Int64)) h72 n0 Z100 C73 C78 C79 C80 C74 C75 C76 C77 C82 C84 C86 C88 C81 C83 C85 C87 C90 C92 B72 C89 C91 J72 D12_3 ne97 ne66 G1 G14 G16 G18 G20 G23 G46 G72 (by decide) bL (by decide) (own_i0 (M := 1) (l := l_) bL)) (by decide) (by decide) (by decide) (by decide) rfl (by rw [hml]; rfl) (argsL := [(.ref a1), (.ref a23), (.ref a46), (.ref a72), (.int 1), (.int x0), (.long x3)]) (rest := []) rfl (lenOf pd_7 rfl) rfl (own_le20 rfl) (dc at_76) ?_
      rintro v102 T102 L102 X102 ⟨P102, I102a, N102c, cp102, q102, sz102, th102, pt102, id102, hs102, bp102, bi102, rfl, N102q, K102, f1_102, f2_102, f3_102, f4_102, f5_102, f6_102, f7_102, r1_102, r2_102, r3_102, r4_102, r5_102, r6_102, r7_102, z1_102, z2_102, y1_102, y2_102, nT102, nI102, I102⟩
      have N102 := Fr.app N12 N102q
      show Goes p e below _ T102 (mkF m 79 #[sI x0, sI x1, sI x2, sJ x3, s2, sJ x4, s2, sJ x5, s2, sI 1, sI l_, sI nn, sR a1, sR a23, sR a46, sR a72, su, su] [])
      have C103 := C73.keep K102
      have C104 := C81.keep K102
      have C105 := C83.keep K102
      have C108 := C89.keep K102
      have C109 := C91.keep K102
      have C110 := J72.keep K102
      have Z111 := Nat.le_trans Z100 K102.1
      refine Goes.on (T' := T102) (g' := (mkF m 82 #[sI x0, sI x1, sI x2, sJ x3, s2, sJ x4, s2, sJ x5, s2, sI 1, sI l_, sI nn, sR a1, sR a23, sR a46, sR a72, su, su] [(.int 1), (.int nn)])) (fun _ k => XS.iload X102.here hx rfl (dc at_79) rfl (XS.iconst X102.here hx rfl (dc at_81) k)) ?_
      by_cases hc112 : (1 : Int32) < nn
      · refine Goes.on (T' := T102) (g' := (mkF m 98 #[sI x0, sI x1, sI x2, sJ x3, s2, sJ x4, s2, sJ x5, s2, sI 1, sI l_, sI nn, sR a1, sR a23, sR a46, sR a72, su, su] [(.long x4), (.int x1), (.int 1), (.ref a72), (.ref a46), (.ref a23), (.ref a1)])) (fun _ k => XS.icmpNo X102.here hx rfl (dc at_82) rfl (XT.ii_le_f hc112) (XS.aload X102.here hx rfl (dc at_85) rfl rfl (XS.aload X102.here hx rfl (dc at_87) rfl rfl (XS.aload X102.here hx rfl (dc at_89) rfl rfl (XS.aload X102.here hx rfl (dc at_91) rfl rfl (XS.iload X102.here hx rfl (dc at_93) rfl (XS.iloadN X102.here hx rfl (dc at_95) rfl (XS.lload X102.here hx rfl (dc at_96) rfl k)))))))) ?_
        refine Goes.callS X102 hx hZ 0 hown (ow 57 rfl) (ow 58 rfl) (ow 59 rfl) (ow 60 rfl) (by decide) rfl (rmSt l Z a0 hw 1 a1 ya12 yb12 P102 I102a a23 a46 a72 1 N102c (1 : Int32) x1 cp102 l_ q102 x4 sz102 th102 pt102 id102 hs102 bp102 bi102 T102.heap n0 Z111 C103 f1_102 f2_102 f3_102 f4_102 f5_102 f6_102 f7_102 r1_102 r2_102 r3_102 r4_102 C104 C105 z1_102 z2_102 r5_102 r6_102 r7_102 C108 C109 C110 nT102 nI102 ne66 G1 G14 G16 y1_102 y2_102 G23 G46 G72 (by decide) bL (by decide) I102) (by decide) (by decide) (by decide) (by decide) rfl (by rw [hml]; rfl) (argsL := [(.ref a1), (.ref a23), (.ref a46), (.ref a72), (.int 1), (.int x1), (.long x4)]) (rest := []) rfl (lenOf pd_7 rfl) rfl (own_le20 rfl) (dc at_98) ?_
        rintro v113 T113 L113 X113 ⟨P113, I113a, N113c, cp113, q113, sz113, th113, pt113, id113, hs113, bp113, bi113, rfl, N113q, K113, f1_113, f2_113, f3_113, f4_113, f5_113, f6_113, f7_113, r1_113, r2_113, r3_113, r4_113, r5_113, r6_113, r7_113, z1_113, z2_113, y1_113, y2_113, nT113, nI113, I113⟩
        have N113 := Fr.app N102 N113q
        show Goes p e below _ T113 (mkF m 101 #[sI x0, sI x1, sI x2, sJ x3, s2, sJ x4, s2, sJ x5, s2, sI 1, sI l_, sI nn, sR a1, sR a23, sR a46, sR a72, su, su] [])
        have C114 := C103.keep K113
        have C115 := C104.keep K113
        have C116 := C105.keep K113
        have C117 := C108.keep K113
        have C118 := C109.keep K113
        have C119 := C110.keep K113
        have Z122 := Nat.le_trans Z111 K113.1
        refine Goes.on (T' := T113) (g' := (mkF m 104 #[sI x0, sI x1, sI x2, sJ x3, s2, sJ x4, s2, sJ x5, s2, sI 1, sI l_, sI nn, sR a1, sR a23, sR a46, sR a72, su, su] [(.int 2), (.int nn)])) (fun _ k => XS.iload X113.here hx rfl (dc at_101) rfl (XS.iconst X113.here hx rfl (dc at_103) k)) ?_
        by_cases hc123 : (2 : Int32) < nn
        · refine Goes.on (T' := T113) (g' := (mkF m 120 #[sI x0, sI x1, sI x2, sJ x3, s2, sJ x4, s2, sJ x5, s2, sI 1, sI l_, sI nn, sR a1, sR a23, sR a46, sR a72, su, su] [(.long x5), (.int x2), (.int 1), (.ref a72), (.ref a46), (.ref a23), (.ref a1)])) (fun _ k => XS.icmpNo X113.here hx rfl (dc at_104) rfl (XT.ii_le_f hc123) (XS.aload X113.here hx rfl (dc at_107) rfl rfl (XS.aload X113.here hx rfl (dc at_109) rfl rfl (XS.aload X113.here hx rfl (dc at_111) rfl rfl (XS.aload X113.here hx rfl (dc at_113) rfl rfl (XS.iload X113.here hx rfl (dc at_115) rfl (XS.iloadN X113.here hx rfl (dc at_117) rfl (XS.lload X113.here hx rfl (dc at_118) rfl k)))))))) ?_
          refine Goes.callS X113 hx hZ 0 hown (ow 57 rfl) (ow 58 rfl) (ow 59 rfl) (ow 60 rfl) (by decide) rfl (rmSt l Z a0 hw 2 a1 ya12 yb12 P113 I113a a23 a46 a72 1 N113c (1 : Int32) x2 cp113 l_ q113 x5 sz113 th113 pt113 id113 hs113 bp113 bi113 T113.heap n0 Z122 C114 f1_113 f2_113 f3_113 f4_113 f5_113 f6_113 f7_113 r1_113 r2_113 r3_113 r4_113 C115 C116 z1_113 z2_113 r5_113 r6_113 r7_113 C117 C118 C119 nT113 nI113 ne66 G1 G14 G16 y1_113 y2_113 G23 G46 G72 (by decide) bL (by decide) I113) (by decide) (by decide) (by decide) (by decide) rfl (by rw [hml]; rfl) (argsL := [(.ref a1), (.ref a23), (.ref a46), (.ref a72), (.int 1), (.int x2), (.long x5)]) (rest := []) rfl (lenOf pd_7 rfl) rfl (own_le20 rfl) (dc at_120) ?_
          rintro v124 T124 L124 X124 ⟨P124, I124a, N124c, cp124, q124, sz124, th124, pt124, id124, hs124, bp124, bi124, rfl, N124q, K124, f1_124, f2_124, f3_124, f4_124, f5_124, f6_124, f7_124, r1_124, r2_124, r3_124, r4_124, r5_124, r6_124, r7_124, z1_124, z2_124, y1_124, y2_124, nT124, nI124, I124⟩
          show Goes p e below _ T124 (mkF m 123 #[sI x0, sI x1, sI x2, sJ x3, s2, sJ x4, s2, sJ x5, s2, sI 1, sI l_, sI nn, sR a1, sR a23, sR a46, sR a72, su, su] [])
          have C125 := C114.keep K124
          have Z133 := Nat.le_trans Z122 K124.1
          refine Goes.on (T' := T124) (g' := (mkF m 125 #[sI x0, sI x1, sI x2, sJ x3, s2, sJ x4, s2, sJ x5, s2, sI 1, sI l_, sI nn, sR a1, sR a23, sR a46, sR a72, su, su] [(.ref a1)])) (fun _ k => XS.aload X124.here hx rfl (dc at_123) rfl rfl k) ?_
          refine Goes.callV X124 hx hZ 0 hown (ow 52 rfl) (ow 53 rfl) (notFace_of_selects (args := #[]) (mvT hZ (ow 55 rfl))) (ow 55 rfl) (ow 54 rfl) (ow 2 rfl) (ow 56 rfl) (by decide) rfl C125 (rmMi1 l Z a0 hw a1 ya12 I124a N124c cp124 sz124 id124 T124.heap n0 Z133 C125 f2_124 f4_124 f6_124 r1_124 r4_124 I124.1 I124.2.1) (by decide) (by decide) (by decide) (by decide) rfl (by rw [hml]; rfl) (argsL := []) (rest := []) rfl (lenOf pd_8 rfl) rfl (own_le20 rfl) (dc at_125) ?_
          rintro v134 T134 L134 X134 ⟨r134, gg134, rfl, N134q, K134, J134, G134, M134, gq0_134⟩
          have N134 := Fr.app (Fr.app N113 N124q) N134q
          show Goes p e below _ T134 (mkF m 128 #[sI x0, sI x1, sI x2, sJ x3, s2, sJ x4, s2, sJ x5, s2, sI 1, sI l_, sI nn, sR a1, sR a23, sR a46, sR a72, su, su] [(.ref r134)])
          have C152 := r5_124.keep K134 nin0
          have C154 := r7_124.keep K134 nin0
          have fi0 := own_fin I124 (show 0 < 1 by decide) gq0_134
          refine Goes.on (T' := T134) (g' := (mkF m 148 #[sI x0, sI x1, sI x2, sJ x3, s2, sJ x4, s2, sJ x5, s2, sI 1, sI l_, sI nn, sR a1, sR a23, sR a46, sR a72, sR r134, su] [(.int (hs124 0)), (.long (gg134 0))])) (fun _ k => XS.astore X134.here hx rfl (dc at_128) rfl rfl (l' := #[sI x0, sI x1, sI x2, sJ x3, s2, sJ x4, s2, sJ x5, s2, sI 1, sI l_, sI nn, sR a1, sR a23, sR a46, sR a72, sR r134, su]) rfl (XS.aload X134.here hx rfl (dc at_130) rfl rfl (aLenm X134 hx hZ rfl G134 (dc at_132) (XS.iload X134.here hx rfl (dc at_133) rfl (XS.icmpYes X134.here hx rfl (pc0 := 135) (pc' := 140) rfl (dc at_135) rfl (XT.ii_eq_t (by decide)) (by decide) (by decide) (XS.aload X134.here hx rfl (dc at_140) rfl rfl (XS.iconst X134.here hx rfl (dc at_142) (ldJm X134 hx hZ rfl G134 (by decide) (dc at_143) (XS.aload X134.here hx rfl (dc at_144) rfl rfl (XS.iconst X134.here hx rfl (dc at_146) (ldZm X134 hx hZ rfl C152 (by decide) (dc at_147) k))))))))))) ?_
          refine Goes.join1 (T' := T134) (g' := (mkF m 159 #[sI x0, sI x1, sI x2, sJ x3, s2, sJ x4, s2, sJ x5, s2, sI 1, sI l_, sI nn, sR a1, sR a23, sR a46, sR a72, sR r134, su] [(.long (gg134 0)), (.long (gg134 0))])) ?_ ?_
          · refine Goes.on (T' := T134) (g' := (mkF m 254 #[sI x0, sI x1, sI x2, sJ x3, s2, sJ x4, s2, sJ x5, s2, sI 1, sI l_, sI nn, sR a1, sR a23, sR a46, sR a72, sR r134, sI 1] [(.int 1)])) (fun _ k => XT.lcmp X134.here hx rfl (dc at_159) rfl (XS.ifNo X134.here hx rfl (dc at_160) rfl (XT.ll_ne_f rfl) (XS.iconst X134.here hx rfl (dc at_163) (XS.goto X134.here hx rfl (pc0 := 164) (pc' := 168) rfl (dc at_164) (by decide) (by decide) (XS.istore X134.here hx rfl (dc at_168) rfl (l' := #[sI x0, sI x1, sI x2, sJ x3, s2, sJ x4, s2, sJ x5, s2, sI 1, sI l_, sI nn, sR a1, sR a23, sR a46, sR a72, sR r134, sI 1]) rfl (XS.iload X134.here hx rfl (dc at_170) rfl (XS.iconst X134.here hx rfl (dc at_172) (XS.icmpYes X134.here hx rfl (pc0 := 173) (pc' := 211) rfl (dc at_173) rfl (XT.ii_le_t (by decide)) (by decide) (by decide) (XS.iload X134.here hx rfl (dc at_211) rfl (XS.iconst X134.here hx rfl (dc at_213) (XS.icmpYes X134.here hx rfl (pc0 := 214) (pc' := 252) rfl (dc at_214) rfl (XT.ii_le_t (by decide)) (by decide) (by decide) (XS.iload X134.here hx rfl (dc at_252) rfl k)))))))))))) ?_
            exact Goes.retB X134 hx hlk hret (Or.inr rfl) (dc at_254) (by decide) (by decide) ⟨rfl, N134⟩
          · intro J161
            by_cases hc162 : (hs124 0) = (0 : Int32)
            · refine Goes.on (T' := T134) (g' := (mkF m 159 #[sI x0, sI x1, sI x2, sJ x3, s2, sJ x4, s2, sJ x5, s2, sI 1, sI l_, sI nn, sR a1, sR a23, sR a46, sR a72, sR r134, su] [(.long 0), (.long (gg134 0))])) (fun _ k => XS.ifYes X134.here hx rfl (pc0 := 148) (pc' := 158) rfl (dc at_148) rfl (XT.i0_eq_t hc162) (by decide) (by decide) (XS.lconst X134.here hx rfl (dc at_158) k)) ?_
              exact Goes.eqJ (fr := fun zz => (mkF m 159 #[sI x0, sI x1, sI x2, sJ x3, s2, sJ x4, s2, sJ x5, s2, sI 1, sI l_, sI nn, sR a1, sR a23, sR a46, sR a72, sR r134, su] [(.long zz), (.long (gg134 0))])) (fi0.1 hc162) J161
            · refine Goes.on (T' := T134) (g' := (mkF m 159 #[sI x0, sI x1, sI x2, sJ x3, s2, sJ x4, s2, sJ x5, s2, sI 1, sI l_, sI nn, sR a1, sR a23, sR a46, sR a72, sR r134, su] [(.long (bi124 0)), (.long (gg134 0))])) (fun _ k => XS.ifNo X134.here hx rfl (dc at_148) rfl (XT.i0_eq_f hc162) (XS.aload X134.here hx rfl (dc at_151) rfl rfl (XS.iconst X134.here hx rfl (dc at_153) (ldJm X134 hx hZ rfl C154 (by decide) (dc at_154) (XS.goto X134.here hx rfl (pc0 := 155) (pc' := 159) rfl (dc at_155) (by decide) (by decide) k))))) ?_
              exact Goes.eqJ (fr := fun zz => (mkF m 159 #[sI x0, sI x1, sI x2, sJ x3, s2, sJ x4, s2, sJ x5, s2, sI 1, sI l_, sI nn, sR a1, sR a23, sR a46, sR a72, sR r134, su] [(.long zz), (.long (gg134 0))])) (fi0.2 hc162) J161
        · refine Goes.on (T' := T113) (g' := (mkF m 125 #[sI x0, sI x1, sI x2, sJ x3, s2, sJ x4, s2, sJ x5, s2, sI 1, sI l_, sI nn, sR a1, sR a23, sR a46, sR a72, su, su] [(.ref a1)])) (fun _ k => XS.icmpYes X113.here hx rfl (pc0 := 104) (pc' := 123) rfl (dc at_104) rfl (XT.ii_le_t hc123) (by decide) (by decide) (XS.aload X113.here hx rfl (dc at_123) rfl rfl k)) ?_
          refine Goes.callV X113 hx hZ 0 hown (ow 52 rfl) (ow 53 rfl) (notFace_of_selects (args := #[]) (mvT hZ (ow 55 rfl))) (ow 55 rfl) (ow 54 rfl) (ow 2 rfl) (ow 56 rfl) (by decide) rfl C114 (rmMi1 l Z a0 hw a1 ya12 I113a N113c cp113 sz113 id113 T113.heap n0 Z122 C114 f2_113 f4_113 f6_113 r1_113 r4_113 I113.1 I113.2.1) (by decide) (by decide) (by decide) (by decide) rfl (by rw [hml]; rfl) (argsL := []) (rest := []) rfl (lenOf pd_8 rfl) rfl (own_le20 rfl) (dc at_125) ?_
          rintro v164 T164 L164 X164 ⟨r164, gg164, rfl, N164q, K164, J164, G164, M164, gq0_164⟩
          have N164 := Fr.app N113 N164q
          show Goes p e below _ T164 (mkF m 128 #[sI x0, sI x1, sI x2, sJ x3, s2, sJ x4, s2, sJ x5, s2, sI 1, sI l_, sI nn, sR a1, sR a23, sR a46, sR a72, su, su] [(.ref r164)])
          have C182 := r5_113.keep K164 nin0
          have C184 := r7_113.keep K164 nin0
          have fi0 := own_fin I113 (show 0 < 1 by decide) gq0_164
          refine Goes.on (T' := T164) (g' := (mkF m 148 #[sI x0, sI x1, sI x2, sJ x3, s2, sJ x4, s2, sJ x5, s2, sI 1, sI l_, sI nn, sR a1, sR a23, sR a46, sR a72, sR r164, su] [(.int (hs113 0)), (.long (gg164 0))])) (fun _ k => XS.astore X164.here hx rfl (dc at_128) rfl rfl (l' := #[sI x0, sI x1, sI x2, sJ x3, s2, sJ x4, s2, sJ x5, s2, sI 1, sI l_, sI nn, sR a1, sR a23, sR a46, sR a72, sR r164, su]) rfl (XS.aload X164.here hx rfl (dc at_130) rfl rfl (aLenm X164 hx hZ rfl G164 (dc at_132) (XS.iload X164.here hx rfl (dc at_133) rfl (XS.icmpYes X164.here hx rfl (pc0 := 135) (pc' := 140) rfl (dc at_135) rfl (XT.ii_eq_t (by decide)) (by decide) (by decide) (XS.aload X164.here hx rfl (dc at_140) rfl rfl (XS.iconst X164.here hx rfl (dc at_142) (ldJm X164 hx hZ rfl G164 (by decide) (dc at_143) (XS.aload X164.here hx rfl (dc at_144) rfl rfl (XS.iconst X164.here hx rfl (dc at_146) (ldZm X164 hx hZ rfl C182 (by decide) (dc at_147) k))))))))))) ?_
          refine Goes.join1 (T' := T164) (g' := (mkF m 159 #[sI x0, sI x1, sI x2, sJ x3, s2, sJ x4, s2, sJ x5, s2, sI 1, sI l_, sI nn, sR a1, sR a23, sR a46, sR a72, sR r164, su] [(.long (gg164 0)), (.long (gg164 0))])) ?_ ?_
          · refine Goes.on (T' := T164) (g' := (mkF m 254 #[sI x0, sI x1, sI x2, sJ x3, s2, sJ x4, s2, sJ x5, s2, sI 1, sI l_, sI nn, sR a1, sR a23, sR a46, sR a72, sR r164, sI 1] [(.int 1)])) (fun _ k => XT.lcmp X164.here hx rfl (dc at_159) rfl (XS.ifNo X164.here hx rfl (dc at_160) rfl (XT.ll_ne_f rfl) (XS.iconst X164.here hx rfl (dc at_163) (XS.goto X164.here hx rfl (pc0 := 164) (pc' := 168) rfl (dc at_164) (by decide) (by decide) (XS.istore X164.here hx rfl (dc at_168) rfl (l' := #[sI x0, sI x1, sI x2, sJ x3, s2, sJ x4, s2, sJ x5, s2, sI 1, sI l_, sI nn, sR a1, sR a23, sR a46, sR a72, sR r164, sI 1]) rfl (XS.iload X164.here hx rfl (dc at_170) rfl (XS.iconst X164.here hx rfl (dc at_172) (XS.icmpYes X164.here hx rfl (pc0 := 173) (pc' := 211) rfl (dc at_173) rfl (XT.ii_le_t (by decide)) (by decide) (by decide) (XS.iload X164.here hx rfl (dc at_211) rfl (XS.iconst X164.here hx rfl (dc at_213) (XS.icmpYes X164.here hx rfl (pc0 := 214) (pc' := 252) rfl (dc at_214) rfl (XT.ii_le_t (by decide)) (by decide) (by decide) (XS.iload X164.here hx rfl (dc at_252) rfl k)))))))))))) ?_
            exact Goes.retB X164 hx hlk hret (Or.inr rfl) (dc at_254) (by decide) (by decide) ⟨rfl, N164⟩
          · intro J191
            by_cases hc192 : (hs113 0) = (0 : Int32)
            · refine Goes.on (T' := T164) (g' := (mkF m 159 #[sI x0, sI x1, sI x2, sJ x3, s2, sJ x4, s2, sJ x5, s2, sI 1, sI l_, sI nn, sR a1, sR a23, sR a46, sR a72, sR r164, su] [(.long 0), (.long (gg164 0))])) (fun _ k => XS.ifYes X164.here hx rfl (pc0 := 148) (pc' := 158) rfl (dc at_148) rfl (XT.i0_eq_t hc192) (by decide) (by decide) (XS.lconst X164.here hx rfl (dc at_158) k)) ?_
              exact Goes.eqJ (fr := fun zz => (mkF m 159 #[sI x0, sI x1, sI x2, sJ x3, s2, sJ x4, s2, sJ x5, s2, sI 1, sI l_, sI nn, sR a1, sR a23, sR a46, sR a72, sR r164, su] [(.long zz), (.long (gg164 0))])) (fi0.1 hc192) J191
            · refine Goes.on (T' := T164) (g' := (mkF m 159 #[sI x0, sI x1, sI x2, sJ x3, s2, sJ x4, s2, sJ x5, s2, sI 1, sI l_, sI nn, sR a1, sR a23, sR a46, sR a72, sR r164, su] [(.long (bi113 0)), (.long (gg164 0))])) (fun _ k => XS.ifNo X164.here hx rfl (dc at_148) rfl (XT.i0_eq_f hc192) (XS.aload X164.here hx rfl (dc at_151) rfl rfl (XS.iconst X164.here hx rfl (dc at_153) (ldJm X164 hx hZ rfl C184 (by decide) (dc at_154) (XS.goto X164.here hx rfl (pc0 := 155) (pc' := 159) rfl (dc at_155) (by decide) (by decide) k))))) ?_
              exact Goes.eqJ (fr := fun zz => (mkF m 159 #[sI x0, sI x1, sI x2, sJ x3, s2, sJ x4, s2, sJ x5, s2, sI 1, sI l_, sI nn, sR a1, sR a23, sR a46, sR a72, sR r164, su] [(.long zz), (.long (gg164 0))])) (fi0.2 hc192) J191
      · refine Goes.on (T' := T102) (g' := (mkF m 125 #[sI x0, sI x1, sI x2, sJ x3, s2, sJ x4, s2, sJ x5, s2, sI 1, sI l_, sI nn, sR a1, sR a23, sR a46, sR a72, su, su] [(.ref a1)])) (fun _ k => XS.icmpYes X102.here hx rfl (pc0 := 82) (pc' := 101) rfl (dc at_82) rfl (XT.ii_le_t hc112) (by decide) (by decide) (XS.iload X102.here hx rfl (dc at_101) rfl (XS.iconst X102.here hx rfl (dc at_103) (XS.icmpYes X102.here hx rfl (pc0 := 104) (pc' := 123) rfl (dc at_104) rfl (XT.ii_le_t (own_nn hc112 (by decide))) (by decide) (by decide) (XS.aload X102.here hx rfl (dc at_123) rfl rfl k))))) ?_
        refine Goes.callV X102 hx hZ 0 hown (ow 52 rfl) (ow 53 rfl) (notFace_of_selects (args := #[]) (mvT hZ (ow 55 rfl))) (ow 55 rfl) (ow 54 rfl) (ow 2 rfl) (ow 56 rfl) (by decide) rfl C103 (rmMi1 l Z a0 hw a1 ya12 I102a N102c cp102 sz102 id102 T102.heap n0 Z111 C103 f2_102 f4_102 f6_102 r1_102 r4_102 I102.1 I102.2.1) (by decide) (by decide) (by decide) (by decide) rfl (by rw [hml]; rfl) (argsL := []) (rest := []) rfl (lenOf pd_8 rfl) rfl (own_le20 rfl) (dc at_125) ?_
        rintro v194 T194 L194 X194 ⟨r194, gg194, rfl, N194q, K194, J194, G194, M194, gq0_194⟩
        have N194 := Fr.app N102 N194q
        show Goes p e below _ T194 (mkF m 128 #[sI x0, sI x1, sI x2, sJ x3, s2, sJ x4, s2, sJ x5, s2, sI 1, sI l_, sI nn, sR a1, sR a23, sR a46, sR a72, su, su] [(.ref r194)])
        have C212 := r5_102.keep K194 nin0
        have C214 := r7_102.keep K194 nin0
        have fi0 := own_fin I102 (show 0 < 1 by decide) gq0_194
        refine Goes.on (T' := T194) (g' := (mkF m 148 #[sI x0, sI x1, sI x2, sJ x3, s2, sJ x4, s2, sJ x5, s2, sI 1, sI l_, sI nn, sR a1, sR a23, sR a46, sR a72, sR r194, su] [(.int (hs102 0)), (.long (gg194 0))])) (fun _ k => XS.astore X194.here hx rfl (dc at_128) rfl rfl (l' := #[sI x0, sI x1, sI x2, sJ x3, s2, sJ x4, s2, sJ x5, s2, sI 1, sI l_, sI nn, sR a1, sR a23, sR a46, sR a72, sR r194, su]) rfl (XS.aload X194.here hx rfl (dc at_130) rfl rfl (aLenm X194 hx hZ rfl G194 (dc at_132) (XS.iload X194.here hx rfl (dc at_133) rfl (XS.icmpYes X194.here hx rfl (pc0 := 135) (pc' := 140) rfl (dc at_135) rfl (XT.ii_eq_t (by decide)) (by decide) (by decide) (XS.aload X194.here hx rfl (dc at_140) rfl rfl (XS.iconst X194.here hx rfl (dc at_142) (ldJm X194 hx hZ rfl G194 (by decide) (dc at_143) (XS.aload X194.here hx rfl (dc at_144) rfl rfl (XS.iconst X194.here hx rfl (dc at_146) (ldZm X194 hx hZ rfl C212 (by decide) (dc at_147) k))))))))))) ?_
        refine Goes.join1 (T' := T194) (g' := (mkF m 159 #[sI x0, sI x1, sI x2, sJ x3, s2, sJ x4, s2, sJ x5, s2, sI 1, sI l_, sI nn, sR a1, sR a23, sR a46, sR a72, sR r194, su] [(.long (gg194 0)), (.long (gg194 0))])) ?_ ?_
        · refine Goes.on (T' := T194) (g' := (mkF m 254 #[sI x0, sI x1, sI x2, sJ x3, s2, sJ x4, s2, sJ x5, s2, sI 1, sI l_, sI nn, sR a1, sR a23, sR a46, sR a72, sR r194, sI 1] [(.int 1)])) (fun _ k => XT.lcmp X194.here hx rfl (dc at_159) rfl (XS.ifNo X194.here hx rfl (dc at_160) rfl (XT.ll_ne_f rfl) (XS.iconst X194.here hx rfl (dc at_163) (XS.goto X194.here hx rfl (pc0 := 164) (pc' := 168) rfl (dc at_164) (by decide) (by decide) (XS.istore X194.here hx rfl (dc at_168) rfl (l' := #[sI x0, sI x1, sI x2, sJ x3, s2, sJ x4, s2, sJ x5, s2, sI 1, sI l_, sI nn, sR a1, sR a23, sR a46, sR a72, sR r194, sI 1]) rfl (XS.iload X194.here hx rfl (dc at_170) rfl (XS.iconst X194.here hx rfl (dc at_172) (XS.icmpYes X194.here hx rfl (pc0 := 173) (pc' := 211) rfl (dc at_173) rfl (XT.ii_le_t (by decide)) (by decide) (by decide) (XS.iload X194.here hx rfl (dc at_211) rfl (XS.iconst X194.here hx rfl (dc at_213) (XS.icmpYes X194.here hx rfl (pc0 := 214) (pc' := 252) rfl (dc at_214) rfl (XT.ii_le_t (by decide)) (by decide) (by decide) (XS.iload X194.here hx rfl (dc at_252) rfl k)))))))))))) ?_
          exact Goes.retB X194 hx hlk hret (Or.inr rfl) (dc at_254) (by decide) (by decide) ⟨rfl, N194⟩
        · intro J221
          by_cases hc222 : (hs102 0) = (0 : Int32)
          · refine Goes.on (T' := T194) (g' := (mkF m 159 #[sI x0, sI x1, sI x2, sJ x3, s2, sJ x4, s2, sJ x5, s2, sI 1, sI l_, sI nn, sR a1, sR a23, sR a46, sR a72, sR r194, su] [(.long 0), (.long (gg194 0))])) (fun _ k => XS.ifYes X194.here hx rfl (pc0 := 148) (pc' := 158) rfl (dc at_148) rfl (XT.i0_eq_t hc222) (by decide) (by decide) (XS.lconst X194.here hx rfl (dc at_158) k)) ?_
            exact Goes.eqJ (fr := fun zz => (mkF m 159 #[sI x0, sI x1, sI x2, sJ x3, s2, sJ x4, s2, sJ x5, s2, sI 1, sI l_, sI nn, sR a1, sR a23, sR a46, sR a72, sR r194, su] [(.long zz), (.long (gg194 0))])) (fi0.1 hc222) J221
          · refine Goes.on (T' := T194) (g' := (mkF m 159 #[sI x0, sI x1, sI x2, sJ x3, s2, sJ x4, s2, sJ x5, s2, sI 1, sI l_, sI nn, sR a1, sR a23, sR a46, sR a72, sR r194, su] [(.long (bi102 0)), (.long (gg194 0))])) (fun _ k => XS.ifNo X194.here hx rfl (dc at_148) rfl (XT.i0_eq_f hc222) (XS.aload X194.here hx rfl (dc at_151) rfl rfl (XS.iconst X194.here hx rfl (dc at_153) (ldJm X194 hx hZ rfl C214 (by decide) (dc at_154) (XS.goto X194.here hx rfl (pc0 := 155) (pc' := 159) rfl (dc at_155) (by decide) (by decide) k))))) ?_
            exact Goes.eqJ (fr := fun zz => (mkF m 159 #[sI x0, sI x1, sI x2, sJ x3, s2, sJ x4, s2, sJ x5, s2, sI 1, sI l_, sI nn, sR a1, sR a23, sR a46, sR a72, sR r194, su] [(.long zz), (.long (gg194 0))])) (fi0.2 hc222) J221
    · refine Goes.on (T' := T72) (g' := (mkF m 125 #[sI x0, sI x1, sI x2, sJ x3, s2, sJ x4, s2, sJ x5, s2, sI 1, sI l_, sI nn, sR a1, sR a23, sR a46, sR a72, su, su] [(.ref a1)])) (fun _ k => XS.ifYes X72.here hx rfl (pc0 := 61) (pc' := 79) rfl (dc at_61) rfl (XT.i0_le_t hc101) (by decide) (by decide) (XS.iload X72.here hx rfl (dc at_79) rfl (XS.iconst X72.here hx rfl (dc at_81) (XS.icmpYes X72.here hx rfl (pc0 := 82) (pc' := 101) rfl (dc at_82) rfl (XT.ii_le_t (own_nn hc101 (by decide))) (by decide) (by decide) (XS.iload X72.here hx rfl (dc at_101) rfl (XS.iconst X72.here hx rfl (dc at_103) (XS.icmpYes X72.here hx rfl (pc0 := 104) (pc' := 123) rfl (dc at_104) rfl (XT.ii_le_t (own_nn hc101 (by decide))) (by decide) (by decide) (XS.aload X72.here hx rfl (dc at_123) rfl rfl k)))))))) ?_
      refine Goes.callV X72 hx hZ 0 hown (ow 52 rfl) (ow 53 rfl) (notFace_of_selects (args := #[]) (mvT hZ (ow 55 rfl))) (ow 55 rfl) (ow 54 rfl) (ow 2 rfl) (ow 56 rfl) (by decide) e72 C73 (rmMi1 l Z a0 hw a1 ya12 yd12 1 (1 : Int32) (fun _ => (0 : Int32)) (fun _ => (0 : Int64)) h72 n0 Z100 C73 C79 C74 C76 C82 C88 (own_i0 (M := 1) (l := l_) bL).1 (own_i0 (M := 1) (l := l_) bL).2.1) (by decide) (by decide) (by decide) (by decide) rfl (by rw [hml]; rfl) (argsL := []) (rest := []) rfl (lenOf pd_8 rfl) rfl (own_le20 rfl) (dc at_125) ?_
      rintro v224 T224 L224 X224 ⟨r224, gg224, rfl, N224q, K224, J224, G224, M224, gq0_224⟩
      have N224 := Fr.app N12 N224q
      show Goes p e below _ T224 (mkF m 128 #[sI x0, sI x1, sI x2, sJ x3, s2, sJ x4, s2, sJ x5, s2, sI 1, sI l_, sI nn, sR a1, sR a23, sR a46, sR a72, su, su] [(.ref r224)])
      have C242 := C90.keep K224 nin0
      have fi0 := own_fin (own_i0 (M := 1) (l := l_) bL) (show 0 < 1 by decide) gq0_224
      refine Goes.on (T' := T224) (g' := (mkF m 148 #[sI x0, sI x1, sI x2, sJ x3, s2, sJ x4, s2, sJ x5, s2, sI 1, sI l_, sI nn, sR a1, sR a23, sR a46, sR a72, sR r224, su] [(.int 0), (.long (gg224 0))])) (fun _ k => XS.astore X224.here hx rfl (dc at_128) rfl rfl (l' := #[sI x0, sI x1, sI x2, sJ x3, s2, sJ x4, s2, sJ x5, s2, sI 1, sI l_, sI nn, sR a1, sR a23, sR a46, sR a72, sR r224, su]) rfl (XS.aload X224.here hx rfl (dc at_130) rfl rfl (aLenm X224 hx hZ rfl G224 (dc at_132) (XS.iload X224.here hx rfl (dc at_133) rfl (XS.icmpYes X224.here hx rfl (pc0 := 135) (pc' := 140) rfl (dc at_135) rfl (XT.ii_eq_t (by decide)) (by decide) (by decide) (XS.aload X224.here hx rfl (dc at_140) rfl rfl (XS.iconst X224.here hx rfl (dc at_142) (ldJm X224 hx hZ rfl G224 (by decide) (dc at_143) (XS.aload X224.here hx rfl (dc at_144) rfl rfl (XS.iconst X224.here hx rfl (dc at_146) (ldZm X224 hx hZ rfl C242 (by decide) (dc at_147) k))))))))))) ?_
      refine Goes.join1 (T' := T224) (g' := (mkF m 159 #[sI x0, sI x1, sI x2, sJ x3, s2, sJ x4, s2, sJ x5, s2, sI 1, sI l_, sI nn, sR a1, sR a23, sR a46, sR a72, sR r224, su] [(.long (gg224 0)), (.long (gg224 0))])) ?_ ?_
      · refine Goes.on (T' := T224) (g' := (mkF m 254 #[sI x0, sI x1, sI x2, sJ x3, s2, sJ x4, s2, sJ x5, s2, sI 1, sI l_, sI nn, sR a1, sR a23, sR a46, sR a72, sR r224, sI 1] [(.int 1)])) (fun _ k => XT.lcmp X224.here hx rfl (dc at_159) rfl (XS.ifNo X224.here hx rfl (dc at_160) rfl (XT.ll_ne_f rfl) (XS.iconst X224.here hx rfl (dc at_163) (XS.goto X224.here hx rfl (pc0 := 164) (pc' := 168) rfl (dc at_164) (by decide) (by decide) (XS.istore X224.here hx rfl (dc at_168) rfl (l' := #[sI x0, sI x1, sI x2, sJ x3, s2, sJ x4, s2, sJ x5, s2, sI 1, sI l_, sI nn, sR a1, sR a23, sR a46, sR a72, sR r224, sI 1]) rfl (XS.iload X224.here hx rfl (dc at_170) rfl (XS.iconst X224.here hx rfl (dc at_172) (XS.icmpYes X224.here hx rfl (pc0 := 173) (pc' := 211) rfl (dc at_173) rfl (XT.ii_le_t (by decide)) (by decide) (by decide) (XS.iload X224.here hx rfl (dc at_211) rfl (XS.iconst X224.here hx rfl (dc at_213) (XS.icmpYes X224.here hx rfl (pc0 := 214) (pc' := 252) rfl (dc at_214) rfl (XT.ii_le_t (by decide)) (by decide) (by decide) (XS.iload X224.here hx rfl (dc at_252) rfl k)))))))))))) ?_
        exact Goes.retB X224 hx hlk hret (Or.inr rfl) (dc at_254) (by decide) (by decide) ⟨rfl, N224⟩
      · intro J251
        refine Goes.on (T' := T224) (g' := (mkF m 159 #[sI x0, sI x1, sI x2, sJ x3, s2, sJ x4, s2, sJ x5, s2, sI 1, sI l_, sI nn, sR a1, sR a23, sR a46, sR a72, sR r224, su] [(.long 0), (.long (gg224 0))])) (fun _ k => XS.ifYes X224.here hx rfl (pc0 := 148) (pc' := 158) rfl (dc at_148) rfl (XT.i0_eq_t (by decide)) (by decide) (by decide) (XS.lconst X224.here hx rfl (dc at_158) k)) ?_
        exact Goes.eqJ (fr := fun zz => (mkF m 159 #[sI x0, sI x1, sI x2, sJ x3, s2, sJ x4, s2, sJ x5, s2, sI 1, sI l_, sI nn, sR a1, sR a23, sR a46, sR a72, sR r224, su] [(.long zz), (.long (gg224 0))])) (fi0.1 rfl) J251
  · obtain ⟨T252, h252, X252, e252, E252, A252, D252, U252, st252⟩ := newO X0 hx hZ hown (ow 0 rfl) (ow 1 rfl) (ow 2 rfl) e0 (g := (mkF m 31 #[sI x0, sI x1, sI x2, sJ x3, s2, sJ x4, s2, sJ x5, s2, sI 2, sI l_, sI nn, su, su, su, su, su, su] [])) rfl (dc at_31) (by decide) (by decide)
    obtain ⟨a252, g252⟩ : ∃ z, z = h0.size := ⟨_, rfl⟩
    rw [← g252] at A252 D252 U252 st252
    have Z253 := Nat.le_trans Z0 E252.1
    have F254 : Fld Z h252 a252 "com/example/boceto/boceto/signature/ComponentBuffers" "_capacity" "I" (.int 0) := D252 (Or.inl (ow 45 rfl)) (ty := .int) (by decide)
    have F255 : Fld Z h252 a252 "com/example/boceto/boceto/signature/ComponentBuffers" "_points" "[D" .null := D252 (Or.inl (ow 47 rfl)) (ty := (.array .double)) (by decide)
    have F256 : Fld Z h252 a252 "com/example/boceto/boceto/signature/ComponentBuffers" "_identities" "[J" .null := D252 (Or.inl (ow 50 rfl)) (ty := (.array .long)) (by decide)
    have F257 : Fld Z h252 a252 "com/example/boceto/boceto/signature/ComponentBuffers" "_pointCount" "I" (.int 0) := D252 (Or.inl (ow 79 rfl)) (ty := .int) (by decide)
    have F258 : Fld Z h252 a252 "com/example/boceto/boceto/signature/ComponentBuffers" "_insertion" "Lcom/example/boceto/boceto/signature/PointSink;" .null := D252 (Or.inr (ow 19 rfl)) (ty := (.object "com/example/boceto/boceto/signature/PointSink")) (by decide)
    have F259 : Fld Z h252 a252 "com/example/boceto/boceto/signature/ComponentBuffers" "_removal" "Lcom/example/boceto/boceto/signature/PointSink;" .null := D252 (Or.inr (ow 30 rfl)) (ty := (.object "com/example/boceto/boceto/signature/PointSink")) (by decide)
    have F260 : Fld Z h252 a252 "com/example/boceto/boceto/signature/ComponentBuffers" "_bufferSize" "I" (.int 0) := D252 (Or.inr (ow 32 rfl)) (ty := .int) (by decide)
    have F261 : Fld Z h252 a252 "com/example/boceto/boceto/signature/ComponentBuffers" "_sizes" "[I" .null := D252 (Or.inr (ow 35 rfl)) (ty := (.array .int)) (by decide)
    have F262 : Fld Z h252 a252 "com/example/boceto/boceto/signature/ComponentBuffers" "_thresholds" "[D" .null := D252 (Or.inr (ow 38 rfl)) (ty := (.array .double)) (by decide)
    have G252 : n0 ≤ a252 := Nat.le_trans Z0 (Nat.le_of_eq g252.symm)
    refine Goes.on (T' := T252) (g' := (mkF m 39 #[sI x0, sI x1, sI x2, sJ x3, s2, sJ x4, s2, sJ x5, s2, sI 2, sI l_, sI nn, su, su, su, su, su, su] [(.int l_), (.int 2), (.ref a252), (.ref a252)])) (fun _ k => st252 _ (XS.dup X252.here hx rfl (dc at_34) rfl rfl (XS.iload X252.here hx rfl (dc at_35) rfl (XS.iload X252.here hx rfl (dc at_37) rfl k)))) ?_
    refine Goes.callC X252 hx hZ 1 rfl hown (ow 3 rfl) (ow 4 rfl) (ow 2 rfl) (ow 5 rfl) (by decide) e252 (rmC2 l Z a0 hw a252 l_ h252 n0 Z253  A252 F254 F255 F256 F257 F258 F259 F260 F261 F262 G252 ) (by decide) (by decide) (by decide) (by decide) rfl (by rw [hml]; rfl) (a := a252) (argsL := [(.int 2), (.int l_)]) (rest := [(.ref a252)]) rfl (lenOf pd_4 rfl) rfl (own_le20 rfl) (dc at_39) ?_
    rintro v263 T263 L263 X263 ⟨ya263, yb263, yc263, yd263, rfl, N263q, K263, P263_0, P263_1, P263_2, P263_3, P263_4, P263_5, P263_6, P263_7, P263_8, P263_9, P263_10, P263_11, P263_12, P263_13, P263_14, P263_15, M263_0, M263_1, M263_2, M263_3, D263_0, D263_1, D263_2, D263_3, D263_4, D263_5⟩
    have N263 := Fr.app N0 N263q
    show Goes p e below _ T263 (mkF m 42 #[sI x0, sI x1, sI x2, sJ x3, s2, sJ x4, s2, sJ x5, s2, sI 2, sI l_, sI nn, su, su, su, su, su, su] [(.ref a252)])
    have G265 : n0 ≤ ya263 := Nat.le_trans Z253 M263_0
    have G267 : n0 ≤ yb263 := Nat.le_trans Z253 M263_1
    have G269 : n0 ≤ yc263 := Nat.le_trans Z253 M263_2
    have G271 : n0 ≤ yd263 := Nat.le_trans Z253 M263_3
    have Z273 := Nat.le_trans Z253 K263.1
    obtain ⟨T274, h274, cA274, X274, e274, E274, A274, J274, st274⟩ := newPE X263 hx hZ (ow 51 rfl) rfl (g := (mkF m 45 #[sI x0, sI x1, sI x2, sJ x3, s2, sJ x4, s2, sJ x5, s2, sI 2, sI l_, sI nn, sR a252, su, su, su, su, su] [(.int 3)])) rfl (dc at_45) rfl (by decide) (cap := 3) (by decide) (by decide) (by decide) (by decide) (ad := "[Z") (by decide)
    obtain ⟨a274, g274⟩ : ∃ z, z = T263.heap.size := ⟨_, rfl⟩
    rw [← g274] at A274 J274 st274
    have C283 := P263_8.ext E274
    have Z296 := Nat.le_trans Z273 E274.1
    have B274 : Arf Z h274 a274 .boolean Value.int 3 (fun _ => (0 : Int32)) := Arf.new A274 rfl
    have G274 : n0 ≤ a274 := Nat.le_trans Z273 (Nat.le_of_eq g274.symm)
    obtain ⟨T297, h297, cA297, X297, e297, E297, A297, J297, st297⟩ := newPE X274 hx hZ (ow 33 rfl) e274 (g := (mkF m 50 #[sI x0, sI x1, sI x2, sJ x3, s2, sJ x4, s2, sJ x5, s2, sI 2, sI l_, sI nn, sR a252, sR a274, su, su, su, su] [(.int 3)])) rfl (dc at_50) rfl (by decide) (cap := 3) (by decide) (by decide) (by decide) (by decide) (ad := "[I") (by decide)
    obtain ⟨a297, g297⟩ : ∃ z, z = h274.size := ⟨_, rfl⟩
    rw [← g297] at A297 J297 st297
    have C312 := (P263_14.ext E274).ext E297
    have ne317 := own_neG C283.lt g297
    have Z322 := Nat.le_trans Z296 E297.1
    have B297 : Arf Z h297 a297 .int Value.int 3 (fun _ => (0 : Int32)) := Arf.new A297 rfl
    have G297 : n0 ≤ a297 := Nat.le_trans Z296 (Nat.le_of_eq g297.symm)
    obtain ⟨T323, h323, cA323, X323, e323, E323, A323, J323, st323⟩ := newPE X297 hx hZ (ow 48 rfl) e297 (g := (mkF m 55 #[sI x0, sI x1, sI x2, sJ x3, s2, sJ x4, s2, sJ x5, s2, sI 2, sI l_, sI nn, sR a252, sR a274, sR a297, su, su, su] [(.int 3)])) rfl (dc at_55) rfl (by decide) (cap := 3) (by decide) (by decide) (by decide) (by decide) (ad := "[J") (by decide)
    obtain ⟨a323, g323⟩ : ∃ z, z = h297.size := ⟨_, rfl⟩
    rw [← g323] at A323 J323 st323
    have C324 := ((P263_0.ext E274).ext E297).ext E323
    have C325 := ((P263_1.ext E274).ext E297).ext E323
    have C326 := ((P263_2.ext E274).ext E297).ext E323
    have C327 := ((P263_3.ext E274).ext E297).ext E323
    have C328 := ((P263_4.ext E274).ext E297).ext E323
    have C329 := ((P263_5.ext E274).ext E297).ext E323
    have C330 := ((P263_6.ext E274).ext E297).ext E323
    have C331 := ((P263_7.ext E274).ext E297).ext E323
    have C332 := (C283.ext E297).ext E323
    have C333 := ((P263_9.ext E274).ext E297).ext E323
    have C334 := ((P263_10.ext E274).ext E297).ext E323
    have C335 := ((P263_11.ext E274).ext E297).ext E323
    have C336 := ((P263_12.ext E274).ext E297).ext E323
    have C337 := ((P263_13.ext E274).ext E297).ext E323
    have C338 := C312.ext E323
    have C339 := ((P263_15.ext E274).ext E297).ext E323
    have C340 := (J274.ext E297).ext E323
    have C341 := (B274.ext E297).ext E323
    have C342 := J297.ext E323
    have C343 := B297.ext E323
    have ne348 := own_neG C312.lt g323
    have Z351 := Nat.le_trans Z322 E323.1
    have B323 : Arf Z h323 a323 .long Value.long 3 (fun _ => (0 : Int64)) := Arf.new A323 rfl
    have G323 : n0 ≤ a323 := Nat.le_trans Z322 (Nat.le_of_eq g323.symm)
    refine Goes.on (T' := T323) (g' := (mkF m 61 #[sI x0, sI x1, sI x2, sJ x3, s2, sJ x4, s2, sJ x5, s2, sI 2, sI l_, sI nn, sR a252, sR a274, sR a297, sR a323, su, su] [(.int nn)])) (fun _ k => XS.astore X263.here hx rfl (dc at_42) rfl rfl (l' := #[sI x0, sI x1, sI x2, sJ x3, s2, sJ x4, s2, sJ x5, s2, sI 2, sI l_, sI nn, sR a252, su, su, su, su, su]) rfl (XS.iconst X263.here hx rfl (dc at_44) (st274 _ (XS.astore X274.here hx rfl (dc at_47) rfl rfl (l' := #[sI x0, sI x1, sI x2, sJ x3, s2, sJ x4, s2, sJ x5, s2, sI 2, sI l_, sI nn, sR a252, sR a274, su, su, su, su]) rfl (XS.iconst X274.here hx rfl (dc at_49) (st297 _ (XS.astore X297.here hx rfl (dc at_52) rfl rfl (l' := #[sI x0, sI x1, sI x2, sJ x3, s2, sJ x4, s2, sJ x5, s2, sI 2, sI l_, sI nn, sR a252, sR a274, sR a297, su, su, su]) rfl (XS.iconst X297.here hx rfl (dc at_54) (st323 _ (XS.astore X323.here hx rfl (dc at_57) rfl rfl (l' := #[sI x0, sI x1, sI x2, sJ x3, s2, sJ x4, s2, sJ x5, s2, sI 2, sI l_, sI nn, sR a252, sR a274, sR a297, sR a323, su, su]) rfl (XS.iload X323.here hx rfl (dc at_59) rfl k))))))))))) ?_
    by_cases hc352 : (0 : Int32) < nn
    · refine Goes.on (T' := T323) (g' := (mkF m 76 #[sI x0, sI x1, sI x2, sJ x3, s2, sJ x4, s2, sJ x5, s2, sI 2, sI l_, sI nn, sR a252, sR a274, sR a297, sR a323, su, su] [(.long x3), (.int x0), (.int 2), (.ref a323), (.ref a297), (.ref a274), (.ref a252)])) (fun _ k => XS.ifNo X323.here hx rfl (dc at_61) rfl (XT.i0_le_f hc352) (XS.aload X323.here hx rfl (dc at_64) rfl rfl (XS.aload X323.here hx rfl (dc at_66) rfl rfl (XS.aload X323.here hx rfl (dc at_68) rfl rfl (XS.aload X323.here hx rfl (dc at_70) rfl rfl (XS.iload X323.here hx rfl (dc at_72) rfl (XS.iloadN X323.here hx rfl (dc at_74) rfl (XS.lloadN X323.here hx rfl (dc at_75) rfl k)))))))) ?_
      refine Goes.callS X323 hx hZ 0 hown (ow 57 rfl) (ow 58 rfl) (ow 59 rfl) (ow 60 rfl) (by decide) e323 (rmSt l Z a0 hw 0 a252 ya263 yb263 yc263 yd263 a274 a297 a323 2 2 (2 : Int32) x0 (1 : Int32) l_ (0 : Int32) x3 (fun _ => (0 : Int32)) (fun _ => dinf) (fun _ => (dint 0)) (fun _ => (0 : Int64)) (fun _ => (0 : Int32)) (fun _ => (0 : Int32)) (fun _ => (0 : Int64)) h323 n0 Z351 C324 C329 C330 C331 C325 C326 C327 C328 C333 C335 C337 C339 C332 C334 C336 C338 C341 C343 B323 C340 C342 J323 D263_3 ne348 ne317 G252 G265 G267 G269 G271 G274 G297 G323 (by decide) bL (by decide) (own_i0 (M := 2) (l := l_) bL)) (by decide) (by decide) (by decide) (by decide) rfl (by rw [hml]; rfl) (argsL := [(.ref a252), (.ref a274), (.ref a297), (.ref a323), (.int 2), (.int x0), (.long x3)]) (rest := []) rfl (lenOf pd_7 rfl) rfl (own_le20 rfl) (dc at_76) ?_
      rintro v353 T353 L353 X353 ⟨P353, I353a, N353c, cp353, q353, sz353, th353, pt353, id353, hs353, bp353, bi353, rfl, N353q, K353, f1_353, f2_353, f3_353, f4_353, f5_353, f6_353, f7_353, r1_353, r2_353, r3_353, r4_353, r5_353, r6_353, r7_353, z1_353, z2_353, y1_353, y2_353, nT353, nI353, I353⟩
      have N353 := Fr.app N263 N353q
      show Goes p e below _ T353 (mkF m 79 #[sI x0, sI x1, sI x2, sJ x3, s2, sJ x4, s2, sJ x5, s2, sI 2, sI l_, sI nn, sR a252, sR a274, sR a297, sR a323, su, su] [])
      have C354 := C324.keep K353
      have C355 := C332.keep K353
      have C356 := C334.keep K353
      have C359 := C340.keep K353
      have C360 := C342.keep K353
      have C361 := J323.keep K353
      have Z362 := Nat.le_trans Z351 K353.1
      refine Goes.on (T' := T353) (g' := (mkF m 82 #[sI x0, sI x1, sI x2, sJ x3, s2, sJ x4, s2, sJ x5, s2, sI 2, sI l_, sI nn, sR a252, sR a274, sR a297, sR a323, su, su] [(.int 1), (.int nn)])) (fun _ k => XS.iload X353.here hx rfl (dc at_79) rfl (XS.iconst X353.here hx rfl (dc at_81) k)) ?_
      by_cases hc363 : (1 : Int32) < nn
      · refine Goes.on (T' := T353) (g' := (mkF m 98 #[sI x0, sI x1, sI x2, sJ x3, s2, sJ x4, s2, sJ x5, s2, sI 2, sI l_, sI nn, sR a252, sR a274, sR a297, sR a323, su, su] [(.long x4), (.int x1), (.int 2), (.ref a323), (.ref a297), (.ref a274), (.ref a252)])) (fun _ k => XS.icmpNo X353.here hx rfl (dc at_82) rfl (XT.ii_le_f hc363) (XS.aload X353.here hx rfl (dc at_85) rfl rfl (XS.aload X353.here hx rfl (dc at_87) rfl rfl (XS.aload X353.here hx rfl (dc at_89) rfl rfl (XS.aload X353.here hx rfl (dc at_91) rfl rfl (XS.iload X353.here hx rfl (dc at_93) rfl (XS.iloadN X353.here hx rfl (dc at_95) rfl (XS.lload X353.here hx rfl (dc at_96) rfl k)))))))) ?_
        refine Goes.callS X353 hx hZ 0 hown (ow 57 rfl) (ow 58 rfl) (ow 59 rfl) (ow 60 rfl) (by decide) rfl (rmSt l Z a0 hw 1 a252 ya263 yb263 P353 I353a a274 a297 a323 2 N353c (2 : Int32) x1 cp353 l_ q353 x4 sz353 th353 pt353 id353 hs353 bp353 bi353 T353.heap n0 Z362 C354 f1_353 f2_353 f3_353 f4_353 f5_353 f6_353 f7_353 r1_353 r2_353 r3_353 r4_353 C355 C356 z1_353 z2_353 r5_353 r6_353 r7_353 C359 C360 C361 nT353 nI353 ne317 G252 G265 G267 y1_353 y2_353 G274 G297 G323 (by decide) bL (by decide) I353) (by decide) (by decide) (by decide) (by decide) rfl (by rw [hml]; rfl) (argsL := [(.ref a252), (.ref a274), (.ref a297), (.ref a323), (.int 2), (.int x1), (.long x4)]) (rest := []) rfl (lenOf pd_7 rfl) rfl (own_le20 rfl) (dc at_98) ?_
        rintro v364 T364 L364 X364 ⟨P364, I364a, N364c, cp364, q364, sz364, th364, pt364, id364, hs364, bp364, bi364, rfl, N364q, K364, f1_364, f2_364, f3_364, f4_364, f5_364, f6_364, f7_364, r1_364, r2_364, r3_364, r4_364, r5_364, r6_364, r7_364, z1_364, z2_364, y1_364, y2_364, nT364, nI364, I364⟩
        have N364 := Fr.app N353 N364q
        show Goes p e below _ T364 (mkF m 101 #[sI x0, sI x1, sI x2, sJ x3, s2, sJ x4, s2, sJ x5, s2, sI 2, sI l_, sI nn, sR a252, sR a274, sR a297, sR a323, su, su] [])
        have C365 := C354.keep K364
        have C366 := C355.keep K364
        have C367 := C356.keep K364
        have C368 := C359.keep K364
        have C369 := C360.keep K364
        have C370 := C361.keep K364
        have Z373 := Nat.le_trans Z362 K364.1
        refine Goes.on (T' := T364) (g' := (mkF m 104 #[sI x0, sI x1, sI x2, sJ x3, s2, sJ x4, s2, sJ x5, s2, sI 2, sI l_, sI nn, sR a252, sR a274, sR a297, sR a323, su, su] [(.int 2), (.int nn)])) (fun _ k => XS.iload X364.here hx rfl (dc at_101) rfl (XS.iconst X364.here hx rfl (dc at_103) k)) ?_
        by_cases hc374 : (2 : Int32) < nn
        · refine Goes.on (T' := T364) (g' := (mkF m 120 #[sI x0, sI x1, sI x2, sJ x3, s2, sJ x4, s2, sJ x5, s2, sI 2, sI l_, sI nn, sR a252, sR a274, sR a297, sR a323, su, su] [(.long x5), (.int x2), (.int 2), (.ref a323), (.ref a297), (.ref a274), (.ref a252)])) (fun _ k => XS.icmpNo X364.here hx rfl (dc at_104) rfl (XT.ii_le_f hc374) (XS.aload X364.here hx rfl (dc at_107) rfl rfl (XS.aload X364.here hx rfl (dc at_109) rfl rfl (XS.aload X364.here hx rfl (dc at_111) rfl rfl (XS.aload X364.here hx rfl (dc at_113) rfl rfl (XS.iload X364.here hx rfl (dc at_115) rfl (XS.iloadN X364.here hx rfl (dc at_117) rfl (XS.lload X364.here hx rfl (dc at_118) rfl k)))))))) ?_
          refine Goes.callS X364 hx hZ 0 hown (ow 57 rfl) (ow 58 rfl) (ow 59 rfl) (ow 60 rfl) (by decide) rfl (rmSt l Z a0 hw 2 a252 ya263 yb263 P364 I364a a274 a297 a323 2 N364c (2 : Int32) x2 cp364 l_ q364 x5 sz364 th364 pt364 id364 hs364 bp364 bi364 T364.heap n0 Z373 C365 f1_364 f2_364 f3_364 f4_364 f5_364 f6_364 f7_364 r1_364 r2_364 r3_364 r4_364 C366 C367 z1_364 z2_364 r5_364 r6_364 r7_364 C368 C369 C370 nT364 nI364 ne317 G252 G265 G267 y1_364 y2_364 G274 G297 G323 (by decide) bL (by decide) I364) (by decide) (by decide) (by decide) (by decide) rfl (by rw [hml]; rfl) (argsL := [(.ref a252), (.ref a274), (.ref a297), (.ref a323), (.int 2), (.int x2), (.long x5)]) (rest := []) rfl (lenOf pd_7 rfl) rfl (own_le20 rfl) (dc at_120) ?_
          rintro v375 T375 L375 X375 ⟨P375, I375a, N375c, cp375, q375, sz375, th375, pt375, id375, hs375, bp375, bi375, rfl, N375q, K375, f1_375, f2_375, f3_375, f4_375, f5_375, f6_375, f7_375, r1_375, r2_375, r3_375, r4_375, r5_375, r6_375, r7_375, z1_375, z2_375, y1_375, y2_375, nT375, nI375, I375⟩
          show Goes p e below _ T375 (mkF m 123 #[sI x0, sI x1, sI x2, sJ x3, s2, sJ x4, s2, sJ x5, s2, sI 2, sI l_, sI nn, sR a252, sR a274, sR a297, sR a323, su, su] [])
          have C376 := C365.keep K375
          have Z384 := Nat.le_trans Z373 K375.1
          refine Goes.on (T' := T375) (g' := (mkF m 125 #[sI x0, sI x1, sI x2, sJ x3, s2, sJ x4, s2, sJ x5, s2, sI 2, sI l_, sI nn, sR a252, sR a274, sR a297, sR a323, su, su] [(.ref a252)])) (fun _ k => XS.aload X375.here hx rfl (dc at_123) rfl rfl k) ?_
          refine Goes.callV X375 hx hZ 0 hown (ow 52 rfl) (ow 53 rfl) (notFace_of_selects (args := #[]) (mvT hZ (ow 55 rfl))) (ow 55 rfl) (ow 54 rfl) (ow 2 rfl) (ow 56 rfl) (by decide) rfl C376 (rmMi2 l Z a0 hw a252 ya263 I375a N375c cp375 sz375 id375 T375.heap n0 Z384 C376 f2_375 f4_375 f6_375 r1_375 r4_375 I375.1 I375.2.1) (by decide) (by decide) (by decide) (by decide) rfl (by rw [hml]; rfl) (argsL := []) (rest := []) rfl (lenOf pd_8 rfl) rfl (own_le20 rfl) (dc at_125) ?_
          rintro v385 T385 L385 X385 ⟨r385, gg385, rfl, N385q, K385, J385, G385, M385, gq0_385, gq1_385⟩
          have N385 := Fr.app (Fr.app N364 N375q) N385q
          show Goes p e below _ T385 (mkF m 128 #[sI x0, sI x1, sI x2, sJ x3, s2, sJ x4, s2, sJ x5, s2, sI 2, sI l_, sI nn, sR a252, sR a274, sR a297, sR a323, su, su] [(.ref r385)])
          have C403 := r5_375.keep K385 nin0
          have C405 := r7_375.keep K385 nin0
          have fi0 := own_fin I375 (show 0 < 2 by decide) gq0_385
          have fi1 := own_fin I375 (show 1 < 2 by decide) gq1_385
          refine Goes.on (T' := T385) (g' := (mkF m 148 #[sI x0, sI x1, sI x2, sJ x3, s2, sJ x4, s2, sJ x5, s2, sI 2, sI l_, sI nn, sR a252, sR a274, sR a297, sR a323, sR r385, su] [(.int (hs375 0)), (.long (gg385 0))])) (fun _ k => XS.astore X385.here hx rfl (dc at_128) rfl rfl (l' := #[sI x0, sI x1, sI x2, sJ x3, s2, sJ x4, s2, sJ x5, s2, sI 2, sI l_, sI nn, sR a252, sR a274, sR a297, sR a323, sR r385, su]) rfl (XS.aload X385.here hx rfl (dc at_130) rfl rfl (aLenm X385 hx hZ rfl G385 (dc at_132) (XS.iload X385.here hx rfl (dc at_133) rfl (XS.icmpYes X385.here hx rfl (pc0 := 135) (pc' := 140) rfl (dc at_135) rfl (XT.ii_eq_t (by decide)) (by decide) (by decide) (XS.aload X385.here hx rfl (dc at_140) rfl rfl (XS.iconst X385.here hx rfl (dc at_142) (ldJm X385 hx hZ rfl G385 (by decide) (dc at_143) (XS.aload X385.here hx rfl (dc at_144) rfl rfl (XS.iconst X385.here hx rfl (dc at_146) (ldZm X385 hx hZ rfl C403 (by decide) (dc at_147) k))))))))))) ?_
          refine Goes.join1 (T' := T385) (g' := (mkF m 159 #[sI x0, sI x1, sI x2, sJ x3, s2, sJ x4, s2, sJ x5, s2, sI 2, sI l_, sI nn, sR a252, sR a274, sR a297, sR a323, sR r385, su] [(.long (gg385 0)), (.long (gg385 0))])) ?_ ?_
          · refine Goes.on (T' := T385) (g' := (mkF m 189 #[sI x0, sI x1, sI x2, sJ x3, s2, sJ x4, s2, sJ x5, s2, sI 2, sI l_, sI nn, sR a252, sR a274, sR a297, sR a323, sR r385, sI 1] [(.int (hs375 1)), (.long (gg385 1))])) (fun _ k => XT.lcmp X385.here hx rfl (dc at_159) rfl (XS.ifNo X385.here hx rfl (dc at_160) rfl (XT.ll_ne_f rfl) (XS.iconst X385.here hx rfl (dc at_163) (XS.goto X385.here hx rfl (pc0 := 164) (pc' := 168) rfl (dc at_164) (by decide) (by decide) (XS.istore X385.here hx rfl (dc at_168) rfl (l' := #[sI x0, sI x1, sI x2, sJ x3, s2, sJ x4, s2, sJ x5, s2, sI 2, sI l_, sI nn, sR a252, sR a274, sR a297, sR a323, sR r385, sI 1]) rfl (XS.iload X385.here hx rfl (dc at_170) rfl (XS.iconst X385.here hx rfl (dc at_172) (XS.icmpNo X385.here hx rfl (dc at_173) rfl (XT.ii_le_f (by decide)) (XS.iload X385.here hx rfl (dc at_176) rfl (XS.ifNo X385.here hx rfl (dc at_178) rfl (XT.i0_eq_f (by decide)) (XS.aload X385.here hx rfl (dc at_181) rfl rfl (XS.iconst X385.here hx rfl (dc at_183) (ldJm X385 hx hZ rfl G385 (by decide) (dc at_184) (XS.aload X385.here hx rfl (dc at_185) rfl rfl (XS.iconst X385.here hx rfl (dc at_187) (ldZm X385 hx hZ rfl C403 (by decide) (dc at_188) k)))))))))))))))) ?_
            refine Goes.join1 (T' := T385) (g' := (mkF m 200 #[sI x0, sI x1, sI x2, sJ x3, s2, sJ x4, s2, sJ x5, s2, sI 2, sI l_, sI nn, sR a252, sR a274, sR a297, sR a323, sR r385, sI 1] [(.long (gg385 1)), (.long (gg385 1))])) ?_ ?_
            · refine Goes.on (T' := T385) (g' := (mkF m 254 #[sI x0, sI x1, sI x2, sJ x3, s2, sJ x4, s2, sJ x5, s2, sI 2, sI l_, sI nn, sR a252, sR a274, sR a297, sR a323, sR r385, sI 1] [(.int 1)])) (fun _ k => XT.lcmp X385.here hx rfl (dc at_200) rfl (XS.ifNo X385.here hx rfl (dc at_201) rfl (XT.ll_ne_f rfl) (XS.iconst X385.here hx rfl (dc at_204) (XS.goto X385.here hx rfl (pc0 := 205) (pc' := 209) rfl (dc at_205) (by decide) (by decide) (XS.istore X385.here hx rfl (dc at_209) rfl (l' := #[sI x0, sI x1, sI x2, sJ x3, s2, sJ x4, s2, sJ x5, s2, sI 2, sI l_, sI nn, sR a252, sR a274, sR a297, sR a323, sR r385, sI 1]) rfl (XS.iload X385.here hx rfl (dc at_211) rfl (XS.iconst X385.here hx rfl (dc at_213) (XS.icmpYes X385.here hx rfl (pc0 := 214) (pc' := 252) rfl (dc at_214) rfl (XT.ii_le_t (by decide)) (by decide) (by decide) (XS.iload X385.here hx rfl (dc at_252) rfl k))))))))) ?_
              exact Goes.retB X385 hx hlk hret (Or.inr rfl) (dc at_254) (by decide) (by decide) ⟨rfl, N385⟩
            · intro J415
              by_cases hc416 : (hs375 1) = (0 : Int32)
              · refine Goes.on (T' := T385) (g' := (mkF m 200 #[sI x0, sI x1, sI x2, sJ x3, s2, sJ x4, s2, sJ x5, s2, sI 2, sI l_, sI nn, sR a252, sR a274, sR a297, sR a323, sR r385, sI 1] [(.long 0), (.long (gg385 1))])) (fun _ k => XS.ifYes X385.here hx rfl (pc0 := 189) (pc' := 199) rfl (dc at_189) rfl (XT.i0_eq_t hc416) (by decide) (by decide) (XS.lconst X385.here hx rfl (dc at_199) k)) ?_
                exact Goes.eqJ (fr := fun zz => (mkF m 200 #[sI x0, sI x1, sI x2, sJ x3, s2, sJ x4, s2, sJ x5, s2, sI 2, sI l_, sI nn, sR a252, sR a274, sR a297, sR a323, sR r385, sI 1] [(.long zz), (.long (gg385 1))])) (fi1.1 hc416) J415
              · refine Goes.on (T' := T385) (g' := (mkF m 200 #[sI x0, sI x1, sI x2, sJ x3, s2, sJ x4, s2, sJ x5, s2, sI 2, sI l_, sI nn, sR a252, sR a274, sR a297, sR a323, sR r385, sI 1] [(.long (bi375 1)), (.long (gg385 1))])) (fun _ k => XS.ifNo X385.here hx rfl (dc at_189) rfl (XT.i0_eq_f hc416) (XS.aload X385.here hx rfl (dc at_192) rfl rfl (XS.iconst X385.here hx rfl (dc at_194) (ldJm X385 hx hZ rfl C405 (by decide) (dc at_195) (XS.goto X385.here hx rfl (pc0 := 196) (pc' := 200) rfl (dc at_196) (by decide) (by decide) k))))) ?_
                exact Goes.eqJ (fr := fun zz => (mkF m 200 #[sI x0, sI x1, sI x2, sJ x3, s2, sJ x4, s2, sJ x5, s2, sI 2, sI l_, sI nn, sR a252, sR a274, sR a297, sR a323, sR r385, sI 1] [(.long zz), (.long (gg385 1))])) (fi1.2 hc416) J415
          · intro J412
            by_cases hc418 : (hs375 0) = (0 : Int32)
            · refine Goes.on (T' := T385) (g' := (mkF m 159 #[sI x0, sI x1, sI x2, sJ x3, s2, sJ x4, s2, sJ x5, s2, sI 2, sI l_, sI nn, sR a252, sR a274, sR a297, sR a323, sR r385, su] [(.long 0), (.long (gg385 0))])) (fun _ k => XS.ifYes X385.here hx rfl (pc0 := 148) (pc' := 158) rfl (dc at_148) rfl (XT.i0_eq_t hc418) (by decide) (by decide) (XS.lconst X385.here hx rfl (dc at_158) k)) ?_
              exact Goes.eqJ (fr := fun zz => (mkF m 159 #[sI x0, sI x1, sI x2, sJ x3, s2, sJ x4, s2, sJ x5, s2, sI 2, sI l_, sI nn, sR a252, sR a274, sR a297, sR a323, sR r385, su] [(.long zz), (.long (gg385 0))])) (fi0.1 hc418) J412
            · refine Goes.on (T' := T385) (g' := (mkF m 159 #[sI x0, sI x1, sI x2, sJ x3, s2, sJ x4, s2, sJ x5, s2, sI 2, sI l_, sI nn, sR a252, sR a274, sR a297, sR a323, sR r385, su] [(.long (bi375 0)), (.long (gg385 0))])) (fun _ k => XS.ifNo X385.here hx rfl (dc at_148) rfl (XT.i0_eq_f hc418) (XS.aload X385.here hx rfl (dc at_151) rfl rfl (XS.iconst X385.here hx rfl (dc at_153) (ldJm X385 hx hZ rfl C405 (by decide) (dc at_154) (XS.goto X385.here hx rfl (pc0 := 155) (pc' := 159) rfl (dc at_155) (by decide) (by decide) k))))) ?_
              exact Goes.eqJ (fr := fun zz => (mkF m 159 #[sI x0, sI x1, sI x2, sJ x3, s2, sJ x4, s2, sJ x5, s2, sI 2, sI l_, sI nn, sR a252, sR a274, sR a297, sR a323, sR r385, su] [(.long zz), (.long (gg385 0))])) (fi0.2 hc418) J412
        · refine Goes.on (T' := T364) (g' := (mkF m 125 #[sI x0, sI x1, sI x2, sJ x3, s2, sJ x4, s2, sJ x5, s2, sI 2, sI l_, sI nn, sR a252, sR a274, sR a297, sR a323, su, su] [(.ref a252)])) (fun _ k => XS.icmpYes X364.here hx rfl (pc0 := 104) (pc' := 123) rfl (dc at_104) rfl (XT.ii_le_t hc374) (by decide) (by decide) (XS.aload X364.here hx rfl (dc at_123) rfl rfl k)) ?_
          refine Goes.callV X364 hx hZ 0 hown (ow 52 rfl) (ow 53 rfl) (notFace_of_selects (args := #[]) (mvT hZ (ow 55 rfl))) (ow 55 rfl) (ow 54 rfl) (ow 2 rfl) (ow 56 rfl) (by decide) rfl C365 (rmMi2 l Z a0 hw a252 ya263 I364a N364c cp364 sz364 id364 T364.heap n0 Z373 C365 f2_364 f4_364 f6_364 r1_364 r4_364 I364.1 I364.2.1) (by decide) (by decide) (by decide) (by decide) rfl (by rw [hml]; rfl) (argsL := []) (rest := []) rfl (lenOf pd_8 rfl) rfl (own_le20 rfl) (dc at_125) ?_
          rintro v420 T420 L420 X420 ⟨r420, gg420, rfl, N420q, K420, J420, G420, M420, gq0_420, gq1_420⟩
          have N420 := Fr.app N364 N420q
          show Goes p e below _ T420 (mkF m 128 #[sI x0, sI x1, sI x2, sJ x3, s2, sJ x4, s2, sJ x5, s2, sI 2, sI l_, sI nn, sR a252, sR a274, sR a297, sR a323, su, su] [(.ref r420)])
          have C438 := r5_364.keep K420 nin0
          have C440 := r7_364.keep K420 nin0
          have fi0 := own_fin I364 (show 0 < 2 by decide) gq0_420
          have fi1 := own_fin I364 (show 1 < 2 by decide) gq1_420
          refine Goes.on (T' := T420) (g' := (mkF m 148 #[sI x0, sI x1, sI x2, sJ x3, s2, sJ x4, s2, sJ x5, s2, sI 2, sI l_, sI nn, sR a252, sR a274, sR a297, sR a323, sR r420, su] [(.int (hs364 0)), (.long (gg420 0))])) (fun _ k => XS.astore X420.here hx rfl (dc at_128) rfl rfl (l' := #[sI x0, sI x1, sI x2, sJ x3, s2, sJ x4, s2, sJ x5, s2, sI 2, sI l_, sI nn, sR a252, sR a274, sR a297, sR a323, sR r420, su]) rfl (XS.aload X420.here hx rfl (dc at_130) rfl rfl (aLenm X420 hx hZ rfl G420 (dc at_132) (XS.iload X420.here hx rfl (dc at_133) rfl (XS.icmpYes X420.here hx rfl (pc0 := 135) (pc' := 140) rfl (dc at_135) rfl (XT.ii_eq_t (by decide)) (by decide) (by decide) (XS.aload X420.here hx rfl (dc at_140) rfl rfl (XS.iconst X420.here hx rfl (dc at_142) (ldJm X420 hx hZ rfl G420 (by decide) (dc at_143) (XS.aload X420.here hx rfl (dc at_144) rfl rfl (XS.iconst X420.here hx rfl (dc at_146) (ldZm X420 hx hZ rfl C438 (by decide) (dc at_147) k))))))))))) ?_
          refine Goes.join1 (T' := T420) (g' := (mkF m 159 #[sI x0, sI x1, sI x2, sJ x3, s2, sJ x4, s2, sJ x5, s2, sI 2, sI l_, sI nn, sR a252, sR a274, sR a297, sR a323, sR r420, su] [(.long (gg420 0)), (.long (gg420 0))])) ?_ ?_
          · refine Goes.on (T' := T420) (g' := (mkF m 189 #[sI x0, sI x1, sI x2, sJ x3, s2, sJ x4, s2, sJ x5, s2, sI 2, sI l_, sI nn, sR a252, sR a274, sR a297, sR a323, sR r420, sI 1] [(.int (hs364 1)), (.long (gg420 1))])) (fun _ k => XT.lcmp X420.here hx rfl (dc at_159) rfl (XS.ifNo X420.here hx rfl (dc at_160) rfl (XT.ll_ne_f rfl) (XS.iconst X420.here hx rfl (dc at_163) (XS.goto X420.here hx rfl (pc0 := 164) (pc' := 168) rfl (dc at_164) (by decide) (by decide) (XS.istore X420.here hx rfl (dc at_168) rfl (l' := #[sI x0, sI x1, sI x2, sJ x3, s2, sJ x4, s2, sJ x5, s2, sI 2, sI l_, sI nn, sR a252, sR a274, sR a297, sR a323, sR r420, sI 1]) rfl (XS.iload X420.here hx rfl (dc at_170) rfl (XS.iconst X420.here hx rfl (dc at_172) (XS.icmpNo X420.here hx rfl (dc at_173) rfl (XT.ii_le_f (by decide)) (XS.iload X420.here hx rfl (dc at_176) rfl (XS.ifNo X420.here hx rfl (dc at_178) rfl (XT.i0_eq_f (by decide)) (XS.aload X420.here hx rfl (dc at_181) rfl rfl (XS.iconst X420.here hx rfl (dc at_183) (ldJm X420 hx hZ rfl G420 (by decide) (dc at_184) (XS.aload X420.here hx rfl (dc at_185) rfl rfl (XS.iconst X420.here hx rfl (dc at_187) (ldZm X420 hx hZ rfl C438 (by decide) (dc at_188) k)))))))))))))))) ?_
            refine Goes.join1 (T' := T420) (g' := (mkF m 200 #[sI x0, sI x1, sI x2, sJ x3, s2, sJ x4, s2, sJ x5, s2, sI 2, sI l_, sI nn, sR a252, sR a274, sR a297, sR a323, sR r420, sI 1] [(.long (gg420 1)), (.long (gg420 1))])) ?_ ?_
            · refine Goes.on (T' := T420) (g' := (mkF m 254 #[sI x0, sI x1, sI x2, sJ x3, s2, sJ x4, s2, sJ x5, s2, sI 2, sI l_, sI nn, sR a252, sR a274, sR a297, sR a323, sR r420, sI 1] [(.int 1)])) (fun _ k => XT.lcmp X420.here hx rfl (dc at_200) rfl (XS.ifNo X420.here hx rfl (dc at_201) rfl (XT.ll_ne_f rfl) (XS.iconst X420.here hx rfl (dc at_204) (XS.goto X420.here hx rfl (pc0 := 205) (pc' := 209) rfl (dc at_205) (by decide) (by decide) (XS.istore X420.here hx rfl (dc at_209) rfl (l' := #[sI x0, sI x1, sI x2, sJ x3, s2, sJ x4, s2, sJ x5, s2, sI 2, sI l_, sI nn, sR a252, sR a274, sR a297, sR a323, sR r420, sI 1]) rfl (XS.iload X420.here hx rfl (dc at_211) rfl (XS.iconst X420.here hx rfl (dc at_213) (XS.icmpYes X420.here hx rfl (pc0 := 214) (pc' := 252) rfl (dc at_214) rfl (XT.ii_le_t (by decide)) (by decide) (by decide) (XS.iload X420.here hx rfl (dc at_252) rfl k))))))))) ?_
              exact Goes.retB X420 hx hlk hret (Or.inr rfl) (dc at_254) (by decide) (by decide) ⟨rfl, N420⟩
            · intro J450
              by_cases hc451 : (hs364 1) = (0 : Int32)
              · refine Goes.on (T' := T420) (g' := (mkF m 200 #[sI x0, sI x1, sI x2, sJ x3, s2, sJ x4, s2, sJ x5, s2, sI 2, sI l_, sI nn, sR a252, sR a274, sR a297, sR a323, sR r420, sI 1] [(.long 0), (.long (gg420 1))])) (fun _ k => XS.ifYes X420.here hx rfl (pc0 := 189) (pc' := 199) rfl (dc at_189) rfl (XT.i0_eq_t hc451) (by decide) (by decide) (XS.lconst X420.here hx rfl (dc at_199) k)) ?_
                exact Goes.eqJ (fr := fun zz => (mkF m 200 #[sI x0, sI x1, sI x2, sJ x3, s2, sJ x4, s2, sJ x5, s2, sI 2, sI l_, sI nn, sR a252, sR a274, sR a297, sR a323, sR r420, sI 1] [(.long zz), (.long (gg420 1))])) (fi1.1 hc451) J450
              · refine Goes.on (T' := T420) (g' := (mkF m 200 #[sI x0, sI x1, sI x2, sJ x3, s2, sJ x4, s2, sJ x5, s2, sI 2, sI l_, sI nn, sR a252, sR a274, sR a297, sR a323, sR r420, sI 1] [(.long (bi364 1)), (.long (gg420 1))])) (fun _ k => XS.ifNo X420.here hx rfl (dc at_189) rfl (XT.i0_eq_f hc451) (XS.aload X420.here hx rfl (dc at_192) rfl rfl (XS.iconst X420.here hx rfl (dc at_194) (ldJm X420 hx hZ rfl C440 (by decide) (dc at_195) (XS.goto X420.here hx rfl (pc0 := 196) (pc' := 200) rfl (dc at_196) (by decide) (by decide) k))))) ?_
                exact Goes.eqJ (fr := fun zz => (mkF m 200 #[sI x0, sI x1, sI x2, sJ x3, s2, sJ x4, s2, sJ x5, s2, sI 2, sI l_, sI nn, sR a252, sR a274, sR a297, sR a323, sR r420, sI 1] [(.long zz), (.long (gg420 1))])) (fi1.2 hc451) J450
          · intro J447
            by_cases hc453 : (hs364 0) = (0 : Int32)
            · refine Goes.on (T' := T420) (g' := (mkF m 159 #[sI x0, sI x1, sI x2, sJ x3, s2, sJ x4, s2, sJ x5, s2, sI 2, sI l_, sI nn, sR a252, sR a274, sR a297, sR a323, sR r420, su] [(.long 0), (.long (gg420 0))])) (fun _ k => XS.ifYes X420.here hx rfl (pc0 := 148) (pc' := 158) rfl (dc at_148) rfl (XT.i0_eq_t hc453) (by decide) (by decide) (XS.lconst X420.here hx rfl (dc at_158) k)) ?_
              exact Goes.eqJ (fr := fun zz => (mkF m 159 #[sI x0, sI x1, sI x2, sJ x3, s2, sJ x4, s2, sJ x5, s2, sI 2, sI l_, sI nn, sR a252, sR a274, sR a297, sR a323, sR r420, su] [(.long zz), (.long (gg420 0))])) (fi0.1 hc453) J447
            · refine Goes.on (T' := T420) (g' := (mkF m 159 #[sI x0, sI x1, sI x2, sJ x3, s2, sJ x4, s2, sJ x5, s2, sI 2, sI l_, sI nn, sR a252, sR a274, sR a297, sR a323, sR r420, su] [(.long (bi364 0)), (.long (gg420 0))])) (fun _ k => XS.ifNo X420.here hx rfl (dc at_148) rfl (XT.i0_eq_f hc453) (XS.aload X420.here hx rfl (dc at_151) rfl rfl (XS.iconst X420.here hx rfl (dc at_153) (ldJm X420 hx hZ rfl C440 (by decide) (dc at_154) (XS.goto X420.here hx rfl (pc0 := 155) (pc' := 159) rfl (dc at_155) (by decide) (by decide) k))))) ?_
              exact Goes.eqJ (fr := fun zz => (mkF m 159 #[sI x0, sI x1, sI x2, sJ x3, s2, sJ x4, s2, sJ x5, s2, sI 2, sI l_, sI nn, sR a252, sR a274, sR a297, sR a323, sR r420, su] [(.long zz), (.long (gg420 0))])) (fi0.2 hc453) J447
      · refine Goes.on (T' := T353) (g' := (mkF m 125 #[sI x0, sI x1, sI x2, sJ x3, s2, sJ x4, s2, sJ x5, s2, sI 2, sI l_, sI nn, sR a252, sR a274, sR a297, sR a323, su, su] [(.ref a252)])) (fun _ k => XS.icmpYes X353.here hx rfl (pc0 := 82) (pc' := 101) rfl (dc at_82) rfl (XT.ii_le_t hc363) (by decide) (by decide) (XS.iload X353.here hx rfl (dc at_101) rfl (XS.iconst X353.here hx rfl (dc at_103) (XS.icmpYes X353.here hx rfl (pc0 := 104) (pc' := 123) rfl (dc at_104) rfl (XT.ii_le_t (own_nn hc363 (by decide))) (by decide) (by decide) (XS.aload X353.here hx rfl (dc at_123) rfl rfl k))))) ?_
        refine Goes.callV X353 hx hZ 0 hown (ow 52 rfl) (ow 53 rfl) (notFace_of_selects (args := #[]) (mvT hZ (ow 55 rfl))) (ow 55 rfl) (ow 54 rfl) (ow 2 rfl) (ow 56 rfl) (by decide) rfl C354 (rmMi2 l Z a0 hw a252 ya263 I353a N353c cp353 sz353 id353 T353.heap n0 Z362 C354 f2_353 f4_353 f6_353 r1_353 r4_353 I353.1 I353.2.1) (by decide) (by decide) (by decide) (by decide) rfl (by rw [hml]; rfl) (argsL := []) (rest := []) rfl (lenOf pd_8 rfl) rfl (own_le20 rfl) (dc at_125) ?_
        rintro v455 T455 L455 X455 ⟨r455, gg455, rfl, N455q, K455, J455, G455, M455, gq0_455, gq1_455⟩
        have N455 := Fr.app N353 N455q
        show Goes p e below _ T455 (mkF m 128 #[sI x0, sI x1, sI x2, sJ x3, s2, sJ x4, s2, sJ x5, s2, sI 2, sI l_, sI nn, sR a252, sR a274, sR a297, sR a323, su, su] [(.ref r455)])
        have C473 := r5_353.keep K455 nin0
        have C475 := r7_353.keep K455 nin0
        have fi0 := own_fin I353 (show 0 < 2 by decide) gq0_455
        have fi1 := own_fin I353 (show 1 < 2 by decide) gq1_455
        refine Goes.on (T' := T455) (g' := (mkF m 148 #[sI x0, sI x1, sI x2, sJ x3, s2, sJ x4, s2, sJ x5, s2, sI 2, sI l_, sI nn, sR a252, sR a274, sR a297, sR a323, sR r455, su] [(.int (hs353 0)), (.long (gg455 0))])) (fun _ k => XS.astore X455.here hx rfl (dc at_128) rfl rfl (l' := #[sI x0, sI x1, sI x2, sJ x3, s2, sJ x4, s2, sJ x5, s2, sI 2, sI l_, sI nn, sR a252, sR a274, sR a297, sR a323, sR r455, su]) rfl (XS.aload X455.here hx rfl (dc at_130) rfl rfl (aLenm X455 hx hZ rfl G455 (dc at_132) (XS.iload X455.here hx rfl (dc at_133) rfl (XS.icmpYes X455.here hx rfl (pc0 := 135) (pc' := 140) rfl (dc at_135) rfl (XT.ii_eq_t (by decide)) (by decide) (by decide) (XS.aload X455.here hx rfl (dc at_140) rfl rfl (XS.iconst X455.here hx rfl (dc at_142) (ldJm X455 hx hZ rfl G455 (by decide) (dc at_143) (XS.aload X455.here hx rfl (dc at_144) rfl rfl (XS.iconst X455.here hx rfl (dc at_146) (ldZm X455 hx hZ rfl C473 (by decide) (dc at_147) k))))))))))) ?_
        refine Goes.join1 (T' := T455) (g' := (mkF m 159 #[sI x0, sI x1, sI x2, sJ x3, s2, sJ x4, s2, sJ x5, s2, sI 2, sI l_, sI nn, sR a252, sR a274, sR a297, sR a323, sR r455, su] [(.long (gg455 0)), (.long (gg455 0))])) ?_ ?_
        · refine Goes.on (T' := T455) (g' := (mkF m 189 #[sI x0, sI x1, sI x2, sJ x3, s2, sJ x4, s2, sJ x5, s2, sI 2, sI l_, sI nn, sR a252, sR a274, sR a297, sR a323, sR r455, sI 1] [(.int (hs353 1)), (.long (gg455 1))])) (fun _ k => XT.lcmp X455.here hx rfl (dc at_159) rfl (XS.ifNo X455.here hx rfl (dc at_160) rfl (XT.ll_ne_f rfl) (XS.iconst X455.here hx rfl (dc at_163) (XS.goto X455.here hx rfl (pc0 := 164) (pc' := 168) rfl (dc at_164) (by decide) (by decide) (XS.istore X455.here hx rfl (dc at_168) rfl (l' := #[sI x0, sI x1, sI x2, sJ x3, s2, sJ x4, s2, sJ x5, s2, sI 2, sI l_, sI nn, sR a252, sR a274, sR a297, sR a323, sR r455, sI 1]) rfl (XS.iload X455.here hx rfl (dc at_170) rfl (XS.iconst X455.here hx rfl (dc at_172) (XS.icmpNo X455.here hx rfl (dc at_173) rfl (XT.ii_le_f (by decide)) (XS.iload X455.here hx rfl (dc at_176) rfl (XS.ifNo X455.here hx rfl (dc at_178) rfl (XT.i0_eq_f (by decide)) (XS.aload X455.here hx rfl (dc at_181) rfl rfl (XS.iconst X455.here hx rfl (dc at_183) (ldJm X455 hx hZ rfl G455 (by decide) (dc at_184) (XS.aload X455.here hx rfl (dc at_185) rfl rfl (XS.iconst X455.here hx rfl (dc at_187) (ldZm X455 hx hZ rfl C473 (by decide) (dc at_188) k)))))))))))))))) ?_
          refine Goes.join1 (T' := T455) (g' := (mkF m 200 #[sI x0, sI x1, sI x2, sJ x3, s2, sJ x4, s2, sJ x5, s2, sI 2, sI l_, sI nn, sR a252, sR a274, sR a297, sR a323, sR r455, sI 1] [(.long (gg455 1)), (.long (gg455 1))])) ?_ ?_
          · refine Goes.on (T' := T455) (g' := (mkF m 254 #[sI x0, sI x1, sI x2, sJ x3, s2, sJ x4, s2, sJ x5, s2, sI 2, sI l_, sI nn, sR a252, sR a274, sR a297, sR a323, sR r455, sI 1] [(.int 1)])) (fun _ k => XT.lcmp X455.here hx rfl (dc at_200) rfl (XS.ifNo X455.here hx rfl (dc at_201) rfl (XT.ll_ne_f rfl) (XS.iconst X455.here hx rfl (dc at_204) (XS.goto X455.here hx rfl (pc0 := 205) (pc' := 209) rfl (dc at_205) (by decide) (by decide) (XS.istore X455.here hx rfl (dc at_209) rfl (l' := #[sI x0, sI x1, sI x2, sJ x3, s2, sJ x4, s2, sJ x5, s2, sI 2, sI l_, sI nn, sR a252, sR a274, sR a297, sR a323, sR r455, sI 1]) rfl (XS.iload X455.here hx rfl (dc at_211) rfl (XS.iconst X455.here hx rfl (dc at_213) (XS.icmpYes X455.here hx rfl (pc0 := 214) (pc' := 252) rfl (dc at_214) rfl (XT.ii_le_t (by decide)) (by decide) (by decide) (XS.iload X455.here hx rfl (dc at_252) rfl k))))))))) ?_
            exact Goes.retB X455 hx hlk hret (Or.inr rfl) (dc at_254) (by decide) (by decide) ⟨rfl, N455⟩
          · intro J485
            by_cases hc486 : (hs353 1) = (0 : Int32)
            · refine Goes.on (T' := T455) (g' := (mkF m 200 #[sI x0, sI x1, sI x2, sJ x3, s2, sJ x4, s2, sJ x5, s2, sI 2, sI l_, sI nn, sR a252, sR a274, sR a297, sR a323, sR r455, sI 1] [(.long 0), (.long (gg455 1))])) (fun _ k => XS.ifYes X455.here hx rfl (pc0 := 189) (pc' := 199) rfl (dc at_189) rfl (XT.i0_eq_t hc486) (by decide) (by decide) (XS.lconst X455.here hx rfl (dc at_199) k)) ?_
              exact Goes.eqJ (fr := fun zz => (mkF m 200 #[sI x0, sI x1, sI x2, sJ x3, s2, sJ x4, s2, sJ x5, s2, sI 2, sI l_, sI nn, sR a252, sR a274, sR a297, sR a323, sR r455, sI 1] [(.long zz), (.long (gg455 1))])) (fi1.1 hc486) J485
            · refine Goes.on (T' := T455) (g' := (mkF m 200 #[sI x0, sI x1, sI x2, sJ x3, s2, sJ x4, s2, sJ x5, s2, sI 2, sI l_, sI nn, sR a252, sR a274, sR a297, sR a323, sR r455, sI 1] [(.long (bi353 1)), (.long (gg455 1))])) (fun _ k => XS.ifNo X455.here hx rfl (dc at_189) rfl (XT.i0_eq_f hc486) (XS.aload X455.here hx rfl (dc at_192) rfl rfl (XS.iconst X455.here hx rfl (dc at_194) (ldJm X455 hx hZ rfl C475 (by decide) (dc at_195) (XS.goto X455.here hx rfl (pc0 := 196) (pc' := 200) rfl (dc at_196) (by decide) (by decide) k))))) ?_
              exact Goes.eqJ (fr := fun zz => (mkF m 200 #[sI x0, sI x1, sI x2, sJ x3, s2, sJ x4, s2, sJ x5, s2, sI 2, sI l_, sI nn, sR a252, sR a274, sR a297, sR a323, sR r455, sI 1] [(.long zz), (.long (gg455 1))])) (fi1.2 hc486) J485
        · intro J482
          by_cases hc488 : (hs353 0) = (0 : Int32)
          · refine Goes.on (T' := T455) (g' := (mkF m 159 #[sI x0, sI x1, sI x2, sJ x3, s2, sJ x4, s2, sJ x5, s2, sI 2, sI l_, sI nn, sR a252, sR a274, sR a297, sR a323, sR r455, su] [(.long 0), (.long (gg455 0))])) (fun _ k => XS.ifYes X455.here hx rfl (pc0 := 148) (pc' := 158) rfl (dc at_148) rfl (XT.i0_eq_t hc488) (by decide) (by decide) (XS.lconst X455.here hx rfl (dc at_158) k)) ?_
            exact Goes.eqJ (fr := fun zz => (mkF m 159 #[sI x0, sI x1, sI x2, sJ x3, s2, sJ x4, s2, sJ x5, s2, sI 2, sI l_, sI nn, sR a252, sR a274, sR a297, sR a323, sR r455, su] [(.long zz), (.long (gg455 0))])) (fi0.1 hc488) J482
          · refine Goes.on (T' := T455) (g' := (mkF m 159 #[sI x0, sI x1, sI x2, sJ x3, s2, sJ x4, s2, sJ x5, s2, sI 2, sI l_, sI nn, sR a252, sR a274, sR a297, sR a323, sR r455, su] [(.long (bi353 0)), (.long (gg455 0))])) (fun _ k => XS.ifNo X455.here hx rfl (dc at_148) rfl (XT.i0_eq_f hc488) (XS.aload X455.here hx rfl (dc at_151) rfl rfl (XS.iconst X455.here hx rfl (dc at_153) (ldJm X455 hx hZ rfl C475 (by decide) (dc at_154) (XS.goto X455.here hx rfl (pc0 := 155) (pc' := 159) rfl (dc at_155) (by decide) (by decide) k))))) ?_
            exact Goes.eqJ (fr := fun zz => (mkF m 159 #[sI x0, sI x1, sI x2, sJ x3, s2, sJ x4, s2, sJ x5, s2, sI 2, sI l_, sI nn, sR a252, sR a274, sR a297, sR a323, sR r455, su] [(.long zz), (.long (gg455 0))])) (fi0.2 hc488) J482
    · refine Goes.on (T' := T323) (g' := (mkF m 125 #[sI x0, sI x1, sI x2, sJ x3, s2, sJ x4, s2, sJ x5, s2, sI 2, sI l_, sI nn, sR a252, sR a274, sR a297, sR a323, su, su] [(.ref a252)])) (fun _ k => XS.ifYes X323.here hx rfl (pc0 := 61) (pc' := 79) rfl (dc at_61) rfl (XT.i0_le_t hc352) (by decide) (by decide) (XS.iload X323.here hx rfl (dc at_79) rfl (XS.iconst X323.here hx rfl (dc at_81) (XS.icmpYes X323.here hx rfl (pc0 := 82) (pc' := 101) rfl (dc at_82) rfl (XT.ii_le_t (own_nn hc352 (by decide))) (by decide) (by decide) (XS.iload X323.here hx rfl (dc at_101) rfl (XS.iconst X323.here hx rfl (dc at_103) (XS.icmpYes X323.here hx rfl (pc0 := 104) (pc' := 123) rfl (dc at_104) rfl (XT.ii_le_t (own_nn hc352 (by decide))) (by decide) (by decide) (XS.aload X323.here hx rfl (dc at_123) rfl rfl k)))))))) ?_
      refine Goes.callV X323 hx hZ 0 hown (ow 52 rfl) (ow 53 rfl) (notFace_of_selects (args := #[]) (mvT hZ (ow 55 rfl))) (ow 55 rfl) (ow 54 rfl) (ow 2 rfl) (ow 56 rfl) (by decide) e323 C324 (rmMi2 l Z a0 hw a252 ya263 yd263 2 (1 : Int32) (fun _ => (0 : Int32)) (fun _ => (0 : Int64)) h323 n0 Z351 C324 C330 C325 C327 C333 C339 (own_i0 (M := 2) (l := l_) bL).1 (own_i0 (M := 2) (l := l_) bL).2.1) (by decide) (by decide) (by decide) (by decide) rfl (by rw [hml]; rfl) (argsL := []) (rest := []) rfl (lenOf pd_8 rfl) rfl (own_le20 rfl) (dc at_125) ?_
      rintro v490 T490 L490 X490 ⟨r490, gg490, rfl, N490q, K490, J490, G490, M490, gq0_490, gq1_490⟩
      have N490 := Fr.app N263 N490q
      show Goes p e below _ T490 (mkF m 128 #[sI x0, sI x1, sI x2, sJ x3, s2, sJ x4, s2, sJ x5, s2, sI 2, sI l_, sI nn, sR a252, sR a274, sR a297, sR a323, su, su] [(.ref r490)])
      have C508 := C341.keep K490 nin0
      have fi0 := own_fin (own_i0 (M := 2) (l := l_) bL) (show 0 < 2 by decide) gq0_490
      have fi1 := own_fin (own_i0 (M := 2) (l := l_) bL) (show 1 < 2 by decide) gq1_490
      refine Goes.on (T' := T490) (g' := (mkF m 148 #[sI x0, sI x1, sI x2, sJ x3, s2, sJ x4, s2, sJ x5, s2, sI 2, sI l_, sI nn, sR a252, sR a274, sR a297, sR a323, sR r490, su] [(.int 0), (.long (gg490 0))])) (fun _ k => XS.astore X490.here hx rfl (dc at_128) rfl rfl (l' := #[sI x0, sI x1, sI x2, sJ x3, s2, sJ x4, s2, sJ x5, s2, sI 2, sI l_, sI nn, sR a252, sR a274, sR a297, sR a323, sR r490, su]) rfl (XS.aload X490.here hx rfl (dc at_130) rfl rfl (aLenm X490 hx hZ rfl G490 (dc at_132) (XS.iload X490.here hx rfl (dc at_133) rfl (XS.icmpYes X490.here hx rfl (pc0 := 135) (pc' := 140) rfl (dc at_135) rfl (XT.ii_eq_t (by decide)) (by decide) (by decide) (XS.aload X490.here hx rfl (dc at_140) rfl rfl (XS.iconst X490.here hx rfl (dc at_142) (ldJm X490 hx hZ rfl G490 (by decide) (dc at_143) (XS.aload X490.here hx rfl (dc at_144) rfl rfl (XS.iconst X490.here hx rfl (dc at_146) (ldZm X490 hx hZ rfl C508 (by decide) (dc at_147) k))))))))))) ?_
      refine Goes.join1 (T' := T490) (g' := (mkF m 159 #[sI x0, sI x1, sI x2, sJ x3, s2, sJ x4, s2, sJ x5, s2, sI 2, sI l_, sI nn, sR a252, sR a274, sR a297, sR a323, sR r490, su] [(.long (gg490 0)), (.long (gg490 0))])) ?_ ?_
      · refine Goes.on (T' := T490) (g' := (mkF m 189 #[sI x0, sI x1, sI x2, sJ x3, s2, sJ x4, s2, sJ x5, s2, sI 2, sI l_, sI nn, sR a252, sR a274, sR a297, sR a323, sR r490, sI 1] [(.int 0), (.long (gg490 1))])) (fun _ k => XT.lcmp X490.here hx rfl (dc at_159) rfl (XS.ifNo X490.here hx rfl (dc at_160) rfl (XT.ll_ne_f rfl) (XS.iconst X490.here hx rfl (dc at_163) (XS.goto X490.here hx rfl (pc0 := 164) (pc' := 168) rfl (dc at_164) (by decide) (by decide) (XS.istore X490.here hx rfl (dc at_168) rfl (l' := #[sI x0, sI x1, sI x2, sJ x3, s2, sJ x4, s2, sJ x5, s2, sI 2, sI l_, sI nn, sR a252, sR a274, sR a297, sR a323, sR r490, sI 1]) rfl (XS.iload X490.here hx rfl (dc at_170) rfl (XS.iconst X490.here hx rfl (dc at_172) (XS.icmpNo X490.here hx rfl (dc at_173) rfl (XT.ii_le_f (by decide)) (XS.iload X490.here hx rfl (dc at_176) rfl (XS.ifNo X490.here hx rfl (dc at_178) rfl (XT.i0_eq_f (by decide)) (XS.aload X490.here hx rfl (dc at_181) rfl rfl (XS.iconst X490.here hx rfl (dc at_183) (ldJm X490 hx hZ rfl G490 (by decide) (dc at_184) (XS.aload X490.here hx rfl (dc at_185) rfl rfl (XS.iconst X490.here hx rfl (dc at_187) (ldZm X490 hx hZ rfl C508 (by decide) (dc at_188) k)))))))))))))))) ?_
        refine Goes.join1 (T' := T490) (g' := (mkF m 200 #[sI x0, sI x1, sI x2, sJ x3, s2, sJ x4, s2, sJ x5, s2, sI 2, sI l_, sI nn, sR a252, sR a274, sR a297, sR a323, sR r490, sI 1] [(.long (gg490 1)), (.long (gg490 1))])) ?_ ?_
        · refine Goes.on (T' := T490) (g' := (mkF m 254 #[sI x0, sI x1, sI x2, sJ x3, s2, sJ x4, s2, sJ x5, s2, sI 2, sI l_, sI nn, sR a252, sR a274, sR a297, sR a323, sR r490, sI 1] [(.int 1)])) (fun _ k => XT.lcmp X490.here hx rfl (dc at_200) rfl (XS.ifNo X490.here hx rfl (dc at_201) rfl (XT.ll_ne_f rfl) (XS.iconst X490.here hx rfl (dc at_204) (XS.goto X490.here hx rfl (pc0 := 205) (pc' := 209) rfl (dc at_205) (by decide) (by decide) (XS.istore X490.here hx rfl (dc at_209) rfl (l' := #[sI x0, sI x1, sI x2, sJ x3, s2, sJ x4, s2, sJ x5, s2, sI 2, sI l_, sI nn, sR a252, sR a274, sR a297, sR a323, sR r490, sI 1]) rfl (XS.iload X490.here hx rfl (dc at_211) rfl (XS.iconst X490.here hx rfl (dc at_213) (XS.icmpYes X490.here hx rfl (pc0 := 214) (pc' := 252) rfl (dc at_214) rfl (XT.ii_le_t (by decide)) (by decide) (by decide) (XS.iload X490.here hx rfl (dc at_252) rfl k))))))))) ?_
          exact Goes.retB X490 hx hlk hret (Or.inr rfl) (dc at_254) (by decide) (by decide) ⟨rfl, N490⟩
        · intro J520
          refine Goes.on (T' := T490) (g' := (mkF m 200 #[sI x0, sI x1, sI x2, sJ x3, s2, sJ x4, s2, sJ x5, s2, sI 2, sI l_, sI nn, sR a252, sR a274, sR a297, sR a323, sR r490, sI 1] [(.long 0), (.long (gg490 1))])) (fun _ k => XS.ifYes X490.here hx rfl (pc0 := 189) (pc' := 199) rfl (dc at_189) rfl (XT.i0_eq_t (by decide)) (by decide) (by decide) (XS.lconst X490.here hx rfl (dc at_199) k)) ?_
          exact Goes.eqJ (fr := fun zz => (mkF m 200 #[sI x0, sI x1, sI x2, sJ x3, s2, sJ x4, s2, sJ x5, s2, sI 2, sI l_, sI nn, sR a252, sR a274, sR a297, sR a323, sR r490, sI 1] [(.long zz), (.long (gg490 1))])) (fi1.1 rfl) J520
      · intro J517
        refine Goes.on (T' := T490) (g' := (mkF m 159 #[sI x0, sI x1, sI x2, sJ x3, s2, sJ x4, s2, sJ x5, s2, sI 2, sI l_, sI nn, sR a252, sR a274, sR a297, sR a323, sR r490, su] [(.long 0), (.long (gg490 0))])) (fun _ k => XS.ifYes X490.here hx rfl (pc0 := 148) (pc' := 158) rfl (dc at_148) rfl (XT.i0_eq_t (by decide)) (by decide) (by decide) (XS.lconst X490.here hx rfl (dc at_158) k)) ?_
        exact Goes.eqJ (fr := fun zz => (mkF m 159 #[sI x0, sI x1, sI x2, sJ x3, s2, sJ x4, s2, sJ x5, s2, sI 2, sI l_, sI nn, sR a252, sR a274, sR a297, sR a323, sR r490, su] [(.long zz), (.long (gg490 0))])) (fi0.1 rfl) J517
  · obtain ⟨T521, h521, X521, e521, E521, A521, D521, U521, st521⟩ := newO X0 hx hZ hown (ow 0 rfl) (ow 1 rfl) (ow 2 rfl) e0 (g := (mkF m 31 #[sI x0, sI x1, sI x2, sJ x3, s2, sJ x4, s2, sJ x5, s2, sI 3, sI l_, sI nn, su, su, su, su, su, su] [])) rfl (dc at_31) (by decide) (by decide)
    obtain ⟨a521, g521⟩ : ∃ z, z = h0.size := ⟨_, rfl⟩
    rw [← g521] at A521 D521 U521 st521
    have Z522 := Nat.le_trans Z0 E521.1
    have F523 : Fld Z h521 a521 "com/example/boceto/boceto/signature/ComponentBuffers" "_capacity" "I" (.int 0) := D521 (Or.inl (ow 45 rfl)) (ty := .int) (by decide)
    have F524 : Fld Z h521 a521 "com/example/boceto/boceto/signature/ComponentBuffers" "_points" "[D" .null := D521 (Or.inl (ow 47 rfl)) (ty := (.array .double)) (by decide)
    have F525 : Fld Z h521 a521 "com/example/boceto/boceto/signature/ComponentBuffers" "_identities" "[J" .null := D521 (Or.inl (ow 50 rfl)) (ty := (.array .long)) (by decide)
    have F526 : Fld Z h521 a521 "com/example/boceto/boceto/signature/ComponentBuffers" "_pointCount" "I" (.int 0) := D521 (Or.inl (ow 79 rfl)) (ty := .int) (by decide)
    have F527 : Fld Z h521 a521 "com/example/boceto/boceto/signature/ComponentBuffers" "_insertion" "Lcom/example/boceto/boceto/signature/PointSink;" .null := D521 (Or.inr (ow 19 rfl)) (ty := (.object "com/example/boceto/boceto/signature/PointSink")) (by decide)
    have F528 : Fld Z h521 a521 "com/example/boceto/boceto/signature/ComponentBuffers" "_removal" "Lcom/example/boceto/boceto/signature/PointSink;" .null := D521 (Or.inr (ow 30 rfl)) (ty := (.object "com/example/boceto/boceto/signature/PointSink")) (by decide)
    have F529 : Fld Z h521 a521 "com/example/boceto/boceto/signature/ComponentBuffers" "_bufferSize" "I" (.int 0) := D521 (Or.inr (ow 32 rfl)) (ty := .int) (by decide)
    have F530 : Fld Z h521 a521 "com/example/boceto/boceto/signature/ComponentBuffers" "_sizes" "[I" .null := D521 (Or.inr (ow 35 rfl)) (ty := (.array .int)) (by decide)
    have F531 : Fld Z h521 a521 "com/example/boceto/boceto/signature/ComponentBuffers" "_thresholds" "[D" .null := D521 (Or.inr (ow 38 rfl)) (ty := (.array .double)) (by decide)
    have G521 : n0 ≤ a521 := Nat.le_trans Z0 (Nat.le_of_eq g521.symm)
    refine Goes.on (T' := T521) (g' := (mkF m 39 #[sI x0, sI x1, sI x2, sJ x3, s2, sJ x4, s2, sJ x5, s2, sI 3, sI l_, sI nn, su, su, su, su, su, su] [(.int l_), (.int 3), (.ref a521), (.ref a521)])) (fun _ k => st521 _ (XS.dup X521.here hx rfl (dc at_34) rfl rfl (XS.iload X521.here hx rfl (dc at_35) rfl (XS.iload X521.here hx rfl (dc at_37) rfl k)))) ?_
    refine Goes.callC X521 hx hZ 1 rfl hown (ow 3 rfl) (ow 4 rfl) (ow 2 rfl) (ow 5 rfl) (by decide) e521 (rmC3 l Z a0 hw a521 l_ h521 n0 Z522  A521 F523 F524 F525 F526 F527 F528 F529 F530 F531 G521 ) (by decide) (by decide) (by decide) (by decide) rfl (by rw [hml]; rfl) (a := a521) (argsL := [(.int 3), (.int l_)]) (rest := [(.ref a521)]) rfl (lenOf pd_4 rfl) rfl (own_le20 rfl) (dc at_39) ?_
    rintro v532 T532 L532 X532 ⟨ya532, yb532, yc532, yd532, rfl, N532q, K532, P532_0, P532_1, P532_2, P532_3, P532_4, P532_5, P532_6, P532_7, P532_8, P532_9, P532_10, P532_11, P532_12, P532_13, P532_14, P532_15, M532_0, M532_1, M532_2, M532_3, D532_0, D532_1, D532_2, D532_3, D532_4, D532_5⟩
    have N532 := Fr.app N0 N532q
    show Goes p e below _ T532 (mkF m 42 #[sI x0, sI x1, sI x2, sJ x3, s2, sJ x4, s2, sJ x5, s2, sI 3, sI l_, sI nn, su, su, su, su, su, su] [(.ref a521)])
    have G534 : n0 ≤ ya532 := Nat.le_trans Z522 M532_0
    have G536 : n0 ≤ yb532 := Nat.le_trans Z522 M532_1
    have G538 : n0 ≤ yc532 := Nat.le_trans Z522 M532_2
    have G540 : n0 ≤ yd532 := Nat.le_trans Z522 M532_3
    have Z542 := Nat.le_trans Z522 K532.1
    obtain ⟨T543, h543, cA543, X543, e543, E543, A543, J543, st543⟩ := newPE X532 hx hZ (ow 51 rfl) rfl (g := (mkF m 45 #[sI x0, sI x1, sI x2, sJ x3, s2, sJ x4, s2, sJ x5, s2, sI 3, sI l_, sI nn, sR a521, su, su, su, su, su] [(.int 3)])) rfl (dc at_45) rfl (by decide) (cap := 3) (by decide) (by decide) (by decide) (by decide) (ad := "[Z") (by decide)
    obtain ⟨a543, g543⟩ : ∃ z, z = T532.heap.size := ⟨_, rfl⟩
    rw [← g543] at A543 J543 st543
    have C552 := P532_8.ext E543
    have Z565 := Nat.le_trans Z542 E543.1
    have B543 : Arf Z h543 a543 .boolean Value.int 3 (fun _ => (0 : Int32)) := Arf.new A543 rfl
    have G543 : n0 ≤ a543 := Nat.le_trans Z542 (Nat.le_of_eq g543.symm)
    obtain ⟨T566, h566, cA566, X566, e566, E566, A566, J566, st566⟩ := newPE X543 hx hZ (ow 33 rfl) e543 (g := (mkF m 50 #[sI x0, sI x1, sI x2, sJ x3, s2, sJ x4, s2, sJ x5, s2, sI 3, sI l_, sI nn, sR a521, sR a543, su, su, su, su] [(.int 3)])) rfl (dc at_50) rfl (by decide) (cap := 3) (by decide) (by decide) (by decide) (by decide) (ad := "[I") (by decide)
    obtain ⟨a566, g566⟩ : ∃ z, z = h543.size := ⟨_, rfl⟩
    rw [← g566] at A566 J566 st566
    have C581 := (P532_14.ext E543).ext E566
    have ne586 := own_neG C552.lt g566
    have Z591 := Nat.le_trans Z565 E566.1
    have B566 : Arf Z h566 a566 .int Value.int 3 (fun _ => (0 : Int32)) := Arf.new A566 rfl
    have G566 : n0 ≤ a566 := Nat.le_trans Z565 (Nat.le_of_eq g566.symm)
    obtain ⟨T592, h592, cA592, X592, e592, E592, A592, J592, st592⟩ := newPE X566 hx hZ (ow 48 rfl) e566 (g := (mkF m 55 #[sI x0, sI x1, sI x2, sJ x3, s2, sJ x4, s2, sJ x5, s2, sI 3, sI l_, sI nn, sR a521, sR a543, sR a566, su, su, su] [(.int 3)])) rfl (dc at_55) rfl (by decide) (cap := 3) (by decide) (by decide) (by decide) (by decide) (ad := "[J") (by decide)
    obtain ⟨a592, g592⟩ : ∃ z, z = h566.size := ⟨_, rfl⟩
    rw [← g592] at A592 J592 st592
    have C593 := ((P532_0.ext E543).ext E566).ext E592
    have C594 := ((P532_1.ext E543).ext E566).ext E592
    have C595 := ((P532_2.ext E543).ext E566).ext E592
    have C596 := ((P532_3.ext E543).ext E566).ext E592
    have C597 := ((P532_4.ext E543).ext E566).ext E592
    have C598 := ((P532_5.ext E543).ext E566).ext E592
    have C599 := ((P532_6.ext E543).ext E566).ext E592
    have C600 := ((P532_7.ext E543).ext E566).ext E592
    have C601 := (C552.ext E566).ext E592
    have C602 := ((P532_9.ext E543).ext E566).ext E592
    have C603 := ((P532_10.ext E543).ext E566).ext E592
    have C604 := ((P532_11.ext E543).ext E566).ext E592
    have C605 := ((P532_12.ext E543).ext E566).ext E592
    have C606 := ((P532_13.ext E543).ext E566).ext E592
    have C607 := C581.ext E592
    have C608 := ((P532_15.ext E543).ext E566).ext E592
    have C609 := (J543.ext E566).ext E592
    have C610 := (B543.ext E566).ext E592
    have C611 := J566.ext E592
    have C612 := B566.ext E592
    have ne617 := own_neG C581.lt g592
    have Z620 := Nat.le_trans Z591 E592.1
    have B592 : Arf Z h592 a592 .long Value.long 3 (fun _ => (0 : Int64)) := Arf.new A592 rfl
    have G592 : n0 ≤ a592 := Nat.le_trans Z591 (Nat.le_of_eq g592.symm)
    refine Goes.on (T' := T592) (g' := (mkF m 61 #[sI x0, sI x1, sI x2, sJ x3, s2, sJ x4, s2, sJ x5, s2, sI 3, sI l_, sI nn, sR a521, sR a543, sR a566, sR a592, su, su] [(.int nn)])) (fun _ k => XS.astore X532.here hx rfl (dc at_42) rfl rfl (l' := #[sI x0, sI x1, sI x2, sJ x3, s2, sJ x4, s2, sJ x5, s2, sI 3, sI l_, sI nn, sR a521, su, su, su, su, su]) rfl (XS.iconst X532.here hx rfl (dc at_44) (st543 _ (XS.astore X543.here hx rfl (dc at_47) rfl rfl (l' := #[sI x0, sI x1, sI x2, sJ x3, s2, sJ x4, s2, sJ x5, s2, sI 3, sI l_, sI nn, sR a521, sR a543, su, su, su, su]) rfl (XS.iconst X543.here hx rfl (dc at_49) (st566 _ (XS.astore X566.here hx rfl (dc at_52) rfl rfl (l' := #[sI x0, sI x1, sI x2, sJ x3, s2, sJ x4, s2, sJ x5, s2, sI 3, sI l_, sI nn, sR a521, sR a543, sR a566, su, su, su]) rfl (XS.iconst X566.here hx rfl (dc at_54) (st592 _ (XS.astore X592.here hx rfl (dc at_57) rfl rfl (l' := #[sI x0, sI x1, sI x2, sJ x3, s2, sJ x4, s2, sJ x5, s2, sI 3, sI l_, sI nn, sR a521, sR a543, sR a566, sR a592, su, su]) rfl (XS.iload X592.here hx rfl (dc at_59) rfl k))))))))))) ?_
    by_cases hc621 : (0 : Int32) < nn
    · refine Goes.on (T' := T592) (g' := (mkF m 76 #[sI x0, sI x1, sI x2, sJ x3, s2, sJ x4, s2, sJ x5, s2, sI 3, sI l_, sI nn, sR a521, sR a543, sR a566, sR a592, su, su] [(.long x3), (.int x0), (.int 3), (.ref a592), (.ref a566), (.ref a543), (.ref a521)])) (fun _ k => XS.ifNo X592.here hx rfl (dc at_61) rfl (XT.i0_le_f hc621) (XS.aload X592.here hx rfl (dc at_64) rfl rfl (XS.aload X592.here hx rfl (dc at_66) rfl rfl (XS.aload X592.here hx rfl (dc at_68) rfl rfl (XS.aload X592.here hx rfl (dc at_70) rfl rfl (XS.iload X592.here hx rfl (dc at_72) rfl (XS.iloadN X592.here hx rfl (dc at_74) rfl (XS.lloadN X592.here hx rfl (dc at_75) rfl k)))))))) ?_
      refine Goes.callS X592 hx hZ 0 hown (ow 57 rfl) (ow 58 rfl) (ow 59 rfl) (ow 60 rfl) (by decide) e592 (rmSt l Z a0 hw 0 a521 ya532 yb532 yc532 yd532 a543 a566 a592 3 3 (3 : Int32) x0 (1 : Int32) l_ (0 : Int32) x3 (fun _ => (0 : Int32)) (fun _ => dinf) (fun _ => (dint 0)) (fun _ => (0 : Int64)) (fun _ => (0 : Int32)) (fun _ => (0 : Int32)) (fun _ => (0 : Int64)) h592 n0 Z620 C593 C598 C599 C600 C594 C595 C596 C597 C602 C604 C606 C608 C601 C603 C605 C607 C610 C612 B592 C609 C611 J592 D532_3 ne617 ne586 G521 G534 G536 G538 G540 G543 G566 G592 (by decide) bL (by decide) (own_i0 (M := 3) (l := l_) bL)) (by decide) (by decide) (by decide) (by decide) rfl (by rw [hml]; rfl) (argsL := [(.ref a521), (.ref a543), (.ref a566), (.ref a592), (.int 3), (.int x0), (.long x3)]) (rest := []) rfl (lenOf pd_7 rfl) rfl (own_le20 rfl) (dc at_76) ?_
      rintro v622 T622 L622 X622 ⟨P622, I622a, N622c, cp622, q622, sz622, th622, pt622, id622, hs622, bp622, bi622, rfl, N622q, K622, f1_622, f2_622, f3_622, f4_622, f5_622, f6_622, f7_622, r1_622, r2_622, r3_622, r4_622, r5_622, r6_622, r7_622, z1_622, z2_622, y1_622, y2_622, nT622, nI622, I622⟩
      have N622 := Fr.app N532 N622q
      show Goes p e below _ T622 (mkF m 79 #[sI x0, sI x1, sI x2, sJ x3, s2, sJ x4, s2, sJ x5, s2, sI 3, sI l_, sI nn, sR a521, sR a543, sR a566, sR a592, su, su] [])
      have C623 := C593.keep K622
      have C624 := C601.keep K622
      have C625 := C603.keep K622
      have C628 := C609.keep K622
      have C629 := C611.keep K622
      have C630 := J592.keep K622
      have Z631 := Nat.le_trans Z620 K622.1
      refine Goes.on (T' := T622) (g' := (mkF m 82 #[sI x0, sI x1, sI x2, sJ x3, s2, sJ x4, s2, sJ x5, s2, sI 3, sI l_, sI nn, sR a521, sR a543, sR a566, sR a592, su, su] [(.int 1), (.int nn)])) (fun _ k => XS.iload X622.here hx rfl (dc at_79) rfl (XS.iconst X622.here hx rfl (dc at_81) k)) ?_
      by_cases hc632 : (1 : Int32) < nn
      · refine Goes.on (T' := T622) (g' := (mkF m 98 #[sI x0, sI x1, sI x2, sJ x3, s2, sJ x4, s2, sJ x5, s2, sI 3, sI l_, sI nn, sR a521, sR a543, sR a566, sR a592, su, su] [(.long x4), (.int x1), (.int 3), (.ref a592), (.ref a566), (.ref a543), (.ref a521)])) (fun _ k => XS.icmpNo X622.here hx rfl (dc at_82) rfl (XT.ii_le_f hc632) (XS.aload X622.here hx rfl (dc at_85) rfl rfl (XS.aload X622.here hx rfl (dc at_87) rfl rfl (XS.aload X622.here hx rfl (dc at_89) rfl rfl (XS.aload X622.here hx rfl (dc at_91) rfl rfl (XS.iload X622.here hx rfl (dc at_93) rfl (XS.iloadN X622.here hx rfl (dc at_95) rfl (XS.lload X622.here hx rfl (dc at_96) rfl k)))))))) ?_
        refine Goes.callS X622 hx hZ 0 hown (ow 57 rfl) (ow 58 rfl) (ow 59 rfl) (ow 60 rfl) (by decide) rfl (rmSt l Z a0 hw 1 a521 ya532 yb532 P622 I622a a543 a566 a592 3 N622c (3 : Int32) x1 cp622 l_ q622 x4 sz622 th622 pt622 id622 hs622 bp622 bi622 T622.heap n0 Z631 C623 f1_622 f2_622 f3_622 f4_622 f5_622 f6_622 f7_622 r1_622 r2_622 r3_622 r4_622 C624 C625 z1_622 z2_622 r5_622 r6_622 r7_622 C628 C629 C630 nT622 nI622 ne586 G521 G534 G536 y1_622 y2_622 G543 G566 G592 (by decide) bL (by decide) I622) (by decide) (by decide) (by decide) (by decide) rfl (by rw [hml]; rfl) (argsL := [(.ref a521), (.ref a543), (.ref a566), (.ref a592), (.int 3), (.int x1), (.long x4)]) (rest := []) rfl (lenOf pd_7 rfl) rfl (own_le20 rfl) (dc at_98) ?_
        rintro v633 T633 L633 X633 ⟨P633, I633a, N633c, cp633, q633, sz633, th633, pt633, id633, hs633, bp633, bi633, rfl, N633q, K633, f1_633, f2_633, f3_633, f4_633, f5_633, f6_633, f7_633, r1_633, r2_633, r3_633, r4_633, r5_633, r6_633, r7_633, z1_633, z2_633, y1_633, y2_633, nT633, nI633, I633⟩
        have N633 := Fr.app N622 N633q
        show Goes p e below _ T633 (mkF m 101 #[sI x0, sI x1, sI x2, sJ x3, s2, sJ x4, s2, sJ x5, s2, sI 3, sI l_, sI nn, sR a521, sR a543, sR a566, sR a592, su, su] [])
        have C634 := C623.keep K633
        have C635 := C624.keep K633
        have C636 := C625.keep K633
        have C637 := C628.keep K633
        have C638 := C629.keep K633
        have C639 := C630.keep K633
        have Z642 := Nat.le_trans Z631 K633.1
        refine Goes.on (T' := T633) (g' := (mkF m 104 #[sI x0, sI x1, sI x2, sJ x3, s2, sJ x4, s2, sJ x5, s2, sI 3, sI l_, sI nn, sR a521, sR a543, sR a566, sR a592, su, su] [(.int 2), (.int nn)])) (fun _ k => XS.iload X633.here hx rfl (dc at_101) rfl (XS.iconst X633.here hx rfl (dc at_103) k)) ?_
        by_cases hc643 : (2 : Int32) < nn
        · refine Goes.on (T' := T633) (g' := (mkF m 120 #[sI x0, sI x1, sI x2, sJ x3, s2, sJ x4, s2, sJ x5, s2, sI 3, sI l_, sI nn, sR a521, sR a543, sR a566, sR a592, su, su] [(.long x5), (.int x2), (.int 3), (.ref a592), (.ref a566), (.ref a543), (.ref a521)])) (fun _ k => XS.icmpNo X633.here hx rfl (dc at_104) rfl (XT.ii_le_f hc643) (XS.aload X633.here hx rfl (dc at_107) rfl rfl (XS.aload X633.here hx rfl (dc at_109) rfl rfl (XS.aload X633.here hx rfl (dc at_111) rfl rfl (XS.aload X633.here hx rfl (dc at_113) rfl rfl (XS.iload X633.here hx rfl (dc at_115) rfl (XS.iloadN X633.here hx rfl (dc at_117) rfl (XS.lload X633.here hx rfl (dc at_118) rfl k)))))))) ?_
          refine Goes.callS X633 hx hZ 0 hown (ow 57 rfl) (ow 58 rfl) (ow 59 rfl) (ow 60 rfl) (by decide) rfl (rmSt l Z a0 hw 2 a521 ya532 yb532 P633 I633a a543 a566 a592 3 N633c (3 : Int32) x2 cp633 l_ q633 x5 sz633 th633 pt633 id633 hs633 bp633 bi633 T633.heap n0 Z642 C634 f1_633 f2_633 f3_633 f4_633 f5_633 f6_633 f7_633 r1_633 r2_633 r3_633 r4_633 C635 C636 z1_633 z2_633 r5_633 r6_633 r7_633 C637 C638 C639 nT633 nI633 ne586 G521 G534 G536 y1_633 y2_633 G543 G566 G592 (by decide) bL (by decide) I633) (by decide) (by decide) (by decide) (by decide) rfl (by rw [hml]; rfl) (argsL := [(.ref a521), (.ref a543), (.ref a566), (.ref a592), (.int 3), (.int x2), (.long x5)]) (rest := []) rfl (lenOf pd_7 rfl) rfl (own_le20 rfl) (dc at_120) ?_
          rintro v644 T644 L644 X644 ⟨P644, I644a, N644c, cp644, q644, sz644, th644, pt644, id644, hs644, bp644, bi644, rfl, N644q, K644, f1_644, f2_644, f3_644, f4_644, f5_644, f6_644, f7_644, r1_644, r2_644, r3_644, r4_644, r5_644, r6_644, r7_644, z1_644, z2_644, y1_644, y2_644, nT644, nI644, I644⟩
          show Goes p e below _ T644 (mkF m 123 #[sI x0, sI x1, sI x2, sJ x3, s2, sJ x4, s2, sJ x5, s2, sI 3, sI l_, sI nn, sR a521, sR a543, sR a566, sR a592, su, su] [])
          have C645 := C634.keep K644
          have Z653 := Nat.le_trans Z642 K644.1
          refine Goes.on (T' := T644) (g' := (mkF m 125 #[sI x0, sI x1, sI x2, sJ x3, s2, sJ x4, s2, sJ x5, s2, sI 3, sI l_, sI nn, sR a521, sR a543, sR a566, sR a592, su, su] [(.ref a521)])) (fun _ k => XS.aload X644.here hx rfl (dc at_123) rfl rfl k) ?_
          refine Goes.callV X644 hx hZ 0 hown (ow 52 rfl) (ow 53 rfl) (notFace_of_selects (args := #[]) (mvT hZ (ow 55 rfl))) (ow 55 rfl) (ow 54 rfl) (ow 2 rfl) (ow 56 rfl) (by decide) rfl C645 (rmMi3 l Z a0 hw a521 ya532 I644a N644c cp644 sz644 id644 T644.heap n0 Z653 C645 f2_644 f4_644 f6_644 r1_644 r4_644 I644.1 I644.2.1) (by decide) (by decide) (by decide) (by decide) rfl (by rw [hml]; rfl) (argsL := []) (rest := []) rfl (lenOf pd_8 rfl) rfl (own_le20 rfl) (dc at_125) ?_
          rintro v654 T654 L654 X654 ⟨r654, gg654, rfl, N654q, K654, J654, G654, M654, gq0_654, gq1_654, gq2_654⟩
          have N654 := Fr.app (Fr.app N633 N644q) N654q
          show Goes p e below _ T654 (mkF m 128 #[sI x0, sI x1, sI x2, sJ x3, s2, sJ x4, s2, sJ x5, s2, sI 3, sI l_, sI nn, sR a521, sR a543, sR a566, sR a592, su, su] [(.ref r654)])
          have C672 := r5_644.keep K654 nin0
          have C674 := r7_644.keep K654 nin0
          have fi0 := own_fin I644 (show 0 < 3 by decide) gq0_654
          have fi1 := own_fin I644 (show 1 < 3 by decide) gq1_654
          have fi2 := own_fin I644 (show 2 < 3 by decide) gq2_654
          refine Goes.on (T' := T654) (g' := (mkF m 148 #[sI x0, sI x1, sI x2, sJ x3, s2, sJ x4, s2, sJ x5, s2, sI 3, sI l_, sI nn, sR a521, sR a543, sR a566, sR a592, sR r654, su] [(.int (hs644 0)), (.long (gg654 0))])) (fun _ k => XS.astore X654.here hx rfl (dc at_128) rfl rfl (l' := #[sI x0, sI x1, sI x2, sJ x3, s2, sJ x4, s2, sJ x5, s2, sI 3, sI l_, sI nn, sR a521, sR a543, sR a566, sR a592, sR r654, su]) rfl (XS.aload X654.here hx rfl (dc at_130) rfl rfl (aLenm X654 hx hZ rfl G654 (dc at_132) (XS.iload X654.here hx rfl (dc at_133) rfl (XS.icmpYes X654.here hx rfl (pc0 := 135) (pc' := 140) rfl (dc at_135) rfl (XT.ii_eq_t (by decide)) (by decide) (by decide) (XS.aload X654.here hx rfl (dc at_140) rfl rfl (XS.iconst X654.here hx rfl (dc at_142) (ldJm X654 hx hZ rfl G654 (by decide) (dc at_143) (XS.aload X654.here hx rfl (dc at_144) rfl rfl (XS.iconst X654.here hx rfl (dc at_146) (ldZm X654 hx hZ rfl C672 (by decide) (dc at_147) k))))))))))) ?_
          refine Goes.join1 (T' := T654) (g' := (mkF m 159 #[sI x0, sI x1, sI x2, sJ x3, s2, sJ x4, s2, sJ x5, s2, sI 3, sI l_, sI nn, sR a521, sR a543, sR a566, sR a592, sR r654, su] [(.long (gg654 0)), (.long (gg654 0))])) ?_ ?_
          · refine Goes.on (T' := T654) (g' := (mkF m 189 #[sI x0, sI x1, sI x2, sJ x3, s2, sJ x4, s2, sJ x5, s2, sI 3, sI l_, sI nn, sR a521, sR a543, sR a566, sR a592, sR r654, sI 1] [(.int (hs644 1)), (.long (gg654 1))])) (fun _ k => XT.lcmp X654.here hx rfl (dc at_159) rfl (XS.ifNo X654.here hx rfl (dc at_160) rfl (XT.ll_ne_f rfl) (XS.iconst X654.here hx rfl (dc at_163) (XS.goto X654.here hx rfl (pc0 := 164) (pc' := 168) rfl (dc at_164) (by decide) (by decide) (XS.istore X654.here hx rfl (dc at_168) rfl (l' := #[sI x0, sI x1, sI x2, sJ x3, s2, sJ x4, s2, sJ x5, s2, sI 3, sI l_, sI nn, sR a521, sR a543, sR a566, sR a592, sR r654, sI 1]) rfl (XS.iload X654.here hx rfl (dc at_170) rfl (XS.iconst X654.here hx rfl (dc at_172) (XS.icmpNo X654.here hx rfl (dc at_173) rfl (XT.ii_le_f (by decide)) (XS.iload X654.here hx rfl (dc at_176) rfl (XS.ifNo X654.here hx rfl (dc at_178) rfl (XT.i0_eq_f (by decide)) (XS.aload X654.here hx rfl (dc at_181) rfl rfl (XS.iconst X654.here hx rfl (dc at_183) (ldJm X654 hx hZ rfl G654 (by decide) (dc at_184) (XS.aload X654.here hx rfl (dc at_185) rfl rfl (XS.iconst X654.here hx rfl (dc at_187) (ldZm X654 hx hZ rfl C672 (by decide) (dc at_188) k)))))))))))))))) ?_
            refine Goes.join1 (T' := T654) (g' := (mkF m 200 #[sI x0, sI x1, sI x2, sJ x3, s2, sJ x4, s2, sJ x5, s2, sI 3, sI l_, sI nn, sR a521, sR a543, sR a566, sR a592, sR r654, sI 1] [(.long (gg654 1)), (.long (gg654 1))])) ?_ ?_
            · refine Goes.on (T' := T654) (g' := (mkF m 230 #[sI x0, sI x1, sI x2, sJ x3, s2, sJ x4, s2, sJ x5, s2, sI 3, sI l_, sI nn, sR a521, sR a543, sR a566, sR a592, sR r654, sI 1] [(.int (hs644 2)), (.long (gg654 2))])) (fun _ k => XT.lcmp X654.here hx rfl (dc at_200) rfl (XS.ifNo X654.here hx rfl (dc at_201) rfl (XT.ll_ne_f rfl) (XS.iconst X654.here hx rfl (dc at_204) (XS.goto X654.here hx rfl (pc0 := 205) (pc' := 209) rfl (dc at_205) (by decide) (by decide) (XS.istore X654.here hx rfl (dc at_209) rfl (l' := #[sI x0, sI x1, sI x2, sJ x3, s2, sJ x4, s2, sJ x5, s2, sI 3, sI l_, sI nn, sR a521, sR a543, sR a566, sR a592, sR r654, sI 1]) rfl (XS.iload X654.here hx rfl (dc at_211) rfl (XS.iconst X654.here hx rfl (dc at_213) (XS.icmpNo X654.here hx rfl (dc at_214) rfl (XT.ii_le_f (by decide)) (XS.iload X654.here hx rfl (dc at_217) rfl (XS.ifNo X654.here hx rfl (dc at_219) rfl (XT.i0_eq_f (by decide)) (XS.aload X654.here hx rfl (dc at_222) rfl rfl (XS.iconst X654.here hx rfl (dc at_224) (ldJm X654 hx hZ rfl G654 (by decide) (dc at_225) (XS.aload X654.here hx rfl (dc at_226) rfl rfl (XS.iconst X654.here hx rfl (dc at_228) (ldZm X654 hx hZ rfl C672 (by decide) (dc at_229) k)))))))))))))))) ?_
              refine Goes.join1 (T' := T654) (g' := (mkF m 241 #[sI x0, sI x1, sI x2, sJ x3, s2, sJ x4, s2, sJ x5, s2, sI 3, sI l_, sI nn, sR a521, sR a543, sR a566, sR a592, sR r654, sI 1] [(.long (gg654 2)), (.long (gg654 2))])) ?_ ?_
              · refine Goes.on (T' := T654) (g' := (mkF m 254 #[sI x0, sI x1, sI x2, sJ x3, s2, sJ x4, s2, sJ x5, s2, sI 3, sI l_, sI nn, sR a521, sR a543, sR a566, sR a592, sR r654, sI 1] [(.int 1)])) (fun _ k => XT.lcmp X654.here hx rfl (dc at_241) rfl (XS.ifNo X654.here hx rfl (dc at_242) rfl (XT.ll_ne_f rfl) (XS.iconst X654.here hx rfl (dc at_245) (XS.goto X654.here hx rfl (pc0 := 246) (pc' := 250) rfl (dc at_246) (by decide) (by decide) (XS.istore X654.here hx rfl (dc at_250) rfl (l' := #[sI x0, sI x1, sI x2, sJ x3, s2, sJ x4, s2, sJ x5, s2, sI 3, sI l_, sI nn, sR a521, sR a543, sR a566, sR a592, sR r654, sI 1]) rfl (XS.iload X654.here hx rfl (dc at_252) rfl k)))))) ?_
                exact Goes.retB X654 hx hlk hret (Or.inr rfl) (dc at_254) (by decide) (by decide) ⟨rfl, N654⟩
              · intro J687
                by_cases hc688 : (hs644 2) = (0 : Int32)
                · refine Goes.on (T' := T654) (g' := (mkF m 241 #[sI x0, sI x1, sI x2, sJ x3, s2, sJ x4, s2, sJ x5, s2, sI 3, sI l_, sI nn, sR a521, sR a543, sR a566, sR a592, sR r654, sI 1] [(.long 0), (.long (gg654 2))])) (fun _ k => XS.ifYes X654.here hx rfl (pc0 := 230) (pc' := 240) rfl (dc at_230) rfl (XT.i0_eq_t hc688) (by decide) (by decide) (XS.lconst X654.here hx rfl (dc at_240) k)) ?_
                  exact Goes.eqJ (fr := fun zz => (mkF m 241 #[sI x0, sI x1, sI x2, sJ x3, s2, sJ x4, s2, sJ x5, s2, sI 3, sI l_, sI nn, sR a521, sR a543, sR a566, sR a592, sR r654, sI 1] [(.long zz), (.long (gg654 2))])) (fi2.1 hc688) J687
                · refine Goes.on (T' := T654) (g' := (mkF m 241 #[sI x0, sI x1, sI x2, sJ x3, s2, sJ x4, s2, sJ x5, s2, sI 3, sI l_, sI nn, sR a521, sR a543, sR a566, sR a592, sR r654, sI 1] [(.long (bi644 2)), (.long (gg654 2))])) (fun _ k => XS.ifNo X654.here hx rfl (dc at_230) rfl (XT.i0_eq_f hc688) (XS.aload X654.here hx rfl (dc at_233) rfl rfl (XS.iconst X654.here hx rfl (dc at_235) (ldJm X654 hx hZ rfl C674 (by decide) (dc at_236) (XS.goto X654.here hx rfl (pc0 := 237) (pc' := 241) rfl (dc at_237) (by decide) (by decide) k))))) ?_
                  exact Goes.eqJ (fr := fun zz => (mkF m 241 #[sI x0, sI x1, sI x2, sJ x3, s2, sJ x4, s2, sJ x5, s2, sI 3, sI l_, sI nn, sR a521, sR a543, sR a566, sR a592, sR r654, sI 1] [(.long zz), (.long (gg654 2))])) (fi2.2 hc688) J687
            · intro J684
              by_cases hc690 : (hs644 1) = (0 : Int32)
              · refine Goes.on (T' := T654) (g' := (mkF m 200 #[sI x0, sI x1, sI x2, sJ x3, s2, sJ x4, s2, sJ x5, s2, sI 3, sI l_, sI nn, sR a521, sR a543, sR a566, sR a592, sR r654, sI 1] [(.long 0), (.long (gg654 1))])) (fun _ k => XS.ifYes X654.here hx rfl (pc0 := 189) (pc' := 199) rfl (dc at_189) rfl (XT.i0_eq_t hc690) (by decide) (by decide) (XS.lconst X654.here hx rfl (dc at_199) k)) ?_
                exact Goes.eqJ (fr := fun zz => (mkF m 200 #[sI x0, sI x1, sI x2, sJ x3, s2, sJ x4, s2, sJ x5, s2, sI 3, sI l_, sI nn, sR a521, sR a543, sR a566, sR a592, sR r654, sI 1] [(.long zz), (.long (gg654 1))])) (fi1.1 hc690) J684
              · refine Goes.on (T' := T654) (g' := (mkF m 200 #[sI x0, sI x1, sI x2, sJ x3, s2, sJ x4, s2, sJ x5, s2, sI 3, sI l_, sI nn, sR a521, sR a543, sR a566, sR a592, sR r654, sI 1] [(.long (bi644 1)), (.long (gg654 1))])) (fun _ k => XS.ifNo X654.here hx rfl (dc at_189) rfl (XT.i0_eq_f hc690) (XS.aload X654.here hx rfl (dc at_192) rfl rfl (XS.iconst X654.here hx rfl (dc at_194) (ldJm X654 hx hZ rfl C674 (by decide) (dc at_195) (XS.goto X654.here hx rfl (pc0 := 196) (pc' := 200) rfl (dc at_196) (by decide) (by decide) k))))) ?_
                exact Goes.eqJ (fr := fun zz => (mkF m 200 #[sI x0, sI x1, sI x2, sJ x3, s2, sJ x4, s2, sJ x5, s2, sI 3, sI l_, sI nn, sR a521, sR a543, sR a566, sR a592, sR r654, sI 1] [(.long zz), (.long (gg654 1))])) (fi1.2 hc690) J684
          · intro J681
            by_cases hc692 : (hs644 0) = (0 : Int32)
            · refine Goes.on (T' := T654) (g' := (mkF m 159 #[sI x0, sI x1, sI x2, sJ x3, s2, sJ x4, s2, sJ x5, s2, sI 3, sI l_, sI nn, sR a521, sR a543, sR a566, sR a592, sR r654, su] [(.long 0), (.long (gg654 0))])) (fun _ k => XS.ifYes X654.here hx rfl (pc0 := 148) (pc' := 158) rfl (dc at_148) rfl (XT.i0_eq_t hc692) (by decide) (by decide) (XS.lconst X654.here hx rfl (dc at_158) k)) ?_
              exact Goes.eqJ (fr := fun zz => (mkF m 159 #[sI x0, sI x1, sI x2, sJ x3, s2, sJ x4, s2, sJ x5, s2, sI 3, sI l_, sI nn, sR a521, sR a543, sR a566, sR a592, sR r654, su] [(.long zz), (.long (gg654 0))])) (fi0.1 hc692) J681
            · refine Goes.on (T' := T654) (g' := (mkF m 159 #[sI x0, sI x1, sI x2, sJ x3, s2, sJ x4, s2, sJ x5, s2, sI 3, sI l_, sI nn, sR a521, sR a543, sR a566, sR a592, sR r654, su] [(.long (bi644 0)), (.long (gg654 0))])) (fun _ k => XS.ifNo X654.here hx rfl (dc at_148) rfl (XT.i0_eq_f hc692) (XS.aload X654.here hx rfl (dc at_151) rfl rfl (XS.iconst X654.here hx rfl (dc at_153) (ldJm X654 hx hZ rfl C674 (by decide) (dc at_154) (XS.goto X654.here hx rfl (pc0 := 155) (pc' := 159) rfl (dc at_155) (by decide) (by decide) k))))) ?_
              exact Goes.eqJ (fr := fun zz => (mkF m 159 #[sI x0, sI x1, sI x2, sJ x3, s2, sJ x4, s2, sJ x5, s2, sI 3, sI l_, sI nn, sR a521, sR a543, sR a566, sR a592, sR r654, su] [(.long zz), (.long (gg654 0))])) (fi0.2 hc692) J681
        · refine Goes.on (T' := T633) (g' := (mkF m 125 #[sI x0, sI x1, sI x2, sJ x3, s2, sJ x4, s2, sJ x5, s2, sI 3, sI l_, sI nn, sR a521, sR a543, sR a566, sR a592, su, su] [(.ref a521)])) (fun _ k => XS.icmpYes X633.here hx rfl (pc0 := 104) (pc' := 123) rfl (dc at_104) rfl (XT.ii_le_t hc643) (by decide) (by decide) (XS.aload X633.here hx rfl (dc at_123) rfl rfl k)) ?_
          refine Goes.callV X633 hx hZ 0 hown (ow 52 rfl) (ow 53 rfl) (notFace_of_selects (args := #[]) (mvT hZ (ow 55 rfl))) (ow 55 rfl) (ow 54 rfl) (ow 2 rfl) (ow 56 rfl) (by decide) rfl C634 (rmMi3 l Z a0 hw a521 ya532 I633a N633c cp633 sz633 id633 T633.heap n0 Z642 C634 f2_633 f4_633 f6_633 r1_633 r4_633 I633.1 I633.2.1) (by decide) (by decide) (by decide) (by decide) rfl (by rw [hml]; rfl) (argsL := []) (rest := []) rfl (lenOf pd_8 rfl) rfl (own_le20 rfl) (dc at_125) ?_
          rintro v694 T694 L694 X694 ⟨r694, gg694, rfl, N694q, K694, J694, G694, M694, gq0_694, gq1_694, gq2_694⟩
          have N694 := Fr.app N633 N694q
          show Goes p e below _ T694 (mkF m 128 #[sI x0, sI x1, sI x2, sJ x3, s2, sJ x4, s2, sJ x5, s2, sI 3, sI l_, sI nn, sR a521, sR a543, sR a566, sR a592, su, su] [(.ref r694)])
          have C712 := r5_633.keep K694 nin0
          have C714 := r7_633.keep K694 nin0
          have fi0 := own_fin I633 (show 0 < 3 by decide) gq0_694
          have fi1 := own_fin I633 (show 1 < 3 by decide) gq1_694
          have fi2 := own_fin I633 (show 2 < 3 by decide) gq2_694
          refine Goes.on (T' := T694) (g' := (mkF m 148 #[sI x0, sI x1, sI x2, sJ x3, s2, sJ x4, s2, sJ x5, s2, sI 3, sI l_, sI nn, sR a521, sR a543, sR a566, sR a592, sR r694, su] [(.int (hs633 0)), (.long (gg694 0))])) (fun _ k => XS.astore X694.here hx rfl (dc at_128) rfl rfl (l' := #[sI x0, sI x1, sI x2, sJ x3, s2, sJ x4, s2, sJ x5, s2, sI 3, sI l_, sI nn, sR a521, sR a543, sR a566, sR a592, sR r694, su]) rfl (XS.aload X694.here hx rfl (dc at_130) rfl rfl (aLenm X694 hx hZ rfl G694 (dc at_132) (XS.iload X694.here hx rfl (dc at_133) rfl (XS.icmpYes X694.here hx rfl (pc0 := 135) (pc' := 140) rfl (dc at_135) rfl (XT.ii_eq_t (by decide)) (by decide) (by decide) (XS.aload X694.here hx rfl (dc at_140) rfl rfl (XS.iconst X694.here hx rfl (dc at_142) (ldJm X694 hx hZ rfl G694 (by decide) (dc at_143) (XS.aload X694.here hx rfl (dc at_144) rfl rfl (XS.iconst X694.here hx rfl (dc at_146) (ldZm X694 hx hZ rfl C712 (by decide) (dc at_147) k))))))))))) ?_
          refine Goes.join1 (T' := T694) (g' := (mkF m 159 #[sI x0, sI x1, sI x2, sJ x3, s2, sJ x4, s2, sJ x5, s2, sI 3, sI l_, sI nn, sR a521, sR a543, sR a566, sR a592, sR r694, su] [(.long (gg694 0)), (.long (gg694 0))])) ?_ ?_
          · refine Goes.on (T' := T694) (g' := (mkF m 189 #[sI x0, sI x1, sI x2, sJ x3, s2, sJ x4, s2, sJ x5, s2, sI 3, sI l_, sI nn, sR a521, sR a543, sR a566, sR a592, sR r694, sI 1] [(.int (hs633 1)), (.long (gg694 1))])) (fun _ k => XT.lcmp X694.here hx rfl (dc at_159) rfl (XS.ifNo X694.here hx rfl (dc at_160) rfl (XT.ll_ne_f rfl) (XS.iconst X694.here hx rfl (dc at_163) (XS.goto X694.here hx rfl (pc0 := 164) (pc' := 168) rfl (dc at_164) (by decide) (by decide) (XS.istore X694.here hx rfl (dc at_168) rfl (l' := #[sI x0, sI x1, sI x2, sJ x3, s2, sJ x4, s2, sJ x5, s2, sI 3, sI l_, sI nn, sR a521, sR a543, sR a566, sR a592, sR r694, sI 1]) rfl (XS.iload X694.here hx rfl (dc at_170) rfl (XS.iconst X694.here hx rfl (dc at_172) (XS.icmpNo X694.here hx rfl (dc at_173) rfl (XT.ii_le_f (by decide)) (XS.iload X694.here hx rfl (dc at_176) rfl (XS.ifNo X694.here hx rfl (dc at_178) rfl (XT.i0_eq_f (by decide)) (XS.aload X694.here hx rfl (dc at_181) rfl rfl (XS.iconst X694.here hx rfl (dc at_183) (ldJm X694 hx hZ rfl G694 (by decide) (dc at_184) (XS.aload X694.here hx rfl (dc at_185) rfl rfl (XS.iconst X694.here hx rfl (dc at_187) (ldZm X694 hx hZ rfl C712 (by decide) (dc at_188) k)))))))))))))))) ?_
            refine Goes.join1 (T' := T694) (g' := (mkF m 200 #[sI x0, sI x1, sI x2, sJ x3, s2, sJ x4, s2, sJ x5, s2, sI 3, sI l_, sI nn, sR a521, sR a543, sR a566, sR a592, sR r694, sI 1] [(.long (gg694 1)), (.long (gg694 1))])) ?_ ?_
            · refine Goes.on (T' := T694) (g' := (mkF m 230 #[sI x0, sI x1, sI x2, sJ x3, s2, sJ x4, s2, sJ x5, s2, sI 3, sI l_, sI nn, sR a521, sR a543, sR a566, sR a592, sR r694, sI 1] [(.int (hs633 2)), (.long (gg694 2))])) (fun _ k => XT.lcmp X694.here hx rfl (dc at_200) rfl (XS.ifNo X694.here hx rfl (dc at_201) rfl (XT.ll_ne_f rfl) (XS.iconst X694.here hx rfl (dc at_204) (XS.goto X694.here hx rfl (pc0 := 205) (pc' := 209) rfl (dc at_205) (by decide) (by decide) (XS.istore X694.here hx rfl (dc at_209) rfl (l' := #[sI x0, sI x1, sI x2, sJ x3, s2, sJ x4, s2, sJ x5, s2, sI 3, sI l_, sI nn, sR a521, sR a543, sR a566, sR a592, sR r694, sI 1]) rfl (XS.iload X694.here hx rfl (dc at_211) rfl (XS.iconst X694.here hx rfl (dc at_213) (XS.icmpNo X694.here hx rfl (dc at_214) rfl (XT.ii_le_f (by decide)) (XS.iload X694.here hx rfl (dc at_217) rfl (XS.ifNo X694.here hx rfl (dc at_219) rfl (XT.i0_eq_f (by decide)) (XS.aload X694.here hx rfl (dc at_222) rfl rfl (XS.iconst X694.here hx rfl (dc at_224) (ldJm X694 hx hZ rfl G694 (by decide) (dc at_225) (XS.aload X694.here hx rfl (dc at_226) rfl rfl (XS.iconst X694.here hx rfl (dc at_228) (ldZm X694 hx hZ rfl C712 (by decide) (dc at_229) k)))))))))))))))) ?_
              refine Goes.join1 (T' := T694) (g' := (mkF m 241 #[sI x0, sI x1, sI x2, sJ x3, s2, sJ x4, s2, sJ x5, s2, sI 3, sI l_, sI nn, sR a521, sR a543, sR a566, sR a592, sR r694, sI 1] [(.long (gg694 2)), (.long (gg694 2))])) ?_ ?_
              · refine Goes.on (T' := T694) (g' := (mkF m 254 #[sI x0, sI x1, sI x2, sJ x3, s2, sJ x4, s2, sJ x5, s2, sI 3, sI l_, sI nn, sR a521, sR a543, sR a566, sR a592, sR r694, sI 1] [(.int 1)])) (fun _ k => XT.lcmp X694.here hx rfl (dc at_241) rfl (XS.ifNo X694.here hx rfl (dc at_242) rfl (XT.ll_ne_f rfl) (XS.iconst X694.here hx rfl (dc at_245) (XS.goto X694.here hx rfl (pc0 := 246) (pc' := 250) rfl (dc at_246) (by decide) (by decide) (XS.istore X694.here hx rfl (dc at_250) rfl (l' := #[sI x0, sI x1, sI x2, sJ x3, s2, sJ x4, s2, sJ x5, s2, sI 3, sI l_, sI nn, sR a521, sR a543, sR a566, sR a592, sR r694, sI 1]) rfl (XS.iload X694.here hx rfl (dc at_252) rfl k)))))) ?_
                exact Goes.retB X694 hx hlk hret (Or.inr rfl) (dc at_254) (by decide) (by decide) ⟨rfl, N694⟩
              · intro J727
                by_cases hc728 : (hs633 2) = (0 : Int32)
                · refine Goes.on (T' := T694) (g' := (mkF m 241 #[sI x0, sI x1, sI x2, sJ x3, s2, sJ x4, s2, sJ x5, s2, sI 3, sI l_, sI nn, sR a521, sR a543, sR a566, sR a592, sR r694, sI 1] [(.long 0), (.long (gg694 2))])) (fun _ k => XS.ifYes X694.here hx rfl (pc0 := 230) (pc' := 240) rfl (dc at_230) rfl (XT.i0_eq_t hc728) (by decide) (by decide) (XS.lconst X694.here hx rfl (dc at_240) k)) ?_
                  exact Goes.eqJ (fr := fun zz => (mkF m 241 #[sI x0, sI x1, sI x2, sJ x3, s2, sJ x4, s2, sJ x5, s2, sI 3, sI l_, sI nn, sR a521, sR a543, sR a566, sR a592, sR r694, sI 1] [(.long zz), (.long (gg694 2))])) (fi2.1 hc728) J727
                · refine Goes.on (T' := T694) (g' := (mkF m 241 #[sI x0, sI x1, sI x2, sJ x3, s2, sJ x4, s2, sJ x5, s2, sI 3, sI l_, sI nn, sR a521, sR a543, sR a566, sR a592, sR r694, sI 1] [(.long (bi633 2)), (.long (gg694 2))])) (fun _ k => XS.ifNo X694.here hx rfl (dc at_230) rfl (XT.i0_eq_f hc728) (XS.aload X694.here hx rfl (dc at_233) rfl rfl (XS.iconst X694.here hx rfl (dc at_235) (ldJm X694 hx hZ rfl C714 (by decide) (dc at_236) (XS.goto X694.here hx rfl (pc0 := 237) (pc' := 241) rfl (dc at_237) (by decide) (by decide) k))))) ?_
                  exact Goes.eqJ (fr := fun zz => (mkF m 241 #[sI x0, sI x1, sI x2, sJ x3, s2, sJ x4, s2, sJ x5, s2, sI 3, sI l_, sI nn, sR a521, sR a543, sR a566, sR a592, sR r694, sI 1] [(.long zz), (.long (gg694 2))])) (fi2.2 hc728) J727
            · intro J724
              by_cases hc730 : (hs633 1) = (0 : Int32)
              · refine Goes.on (T' := T694) (g' := (mkF m 200 #[sI x0, sI x1, sI x2, sJ x3, s2, sJ x4, s2, sJ x5, s2, sI 3, sI l_, sI nn, sR a521, sR a543, sR a566, sR a592, sR r694, sI 1] [(.long 0), (.long (gg694 1))])) (fun _ k => XS.ifYes X694.here hx rfl (pc0 := 189) (pc' := 199) rfl (dc at_189) rfl (XT.i0_eq_t hc730) (by decide) (by decide) (XS.lconst X694.here hx rfl (dc at_199) k)) ?_
                exact Goes.eqJ (fr := fun zz => (mkF m 200 #[sI x0, sI x1, sI x2, sJ x3, s2, sJ x4, s2, sJ x5, s2, sI 3, sI l_, sI nn, sR a521, sR a543, sR a566, sR a592, sR r694, sI 1] [(.long zz), (.long (gg694 1))])) (fi1.1 hc730) J724
              · refine Goes.on (T' := T694) (g' := (mkF m 200 #[sI x0, sI x1, sI x2, sJ x3, s2, sJ x4, s2, sJ x5, s2, sI 3, sI l_, sI nn, sR a521, sR a543, sR a566, sR a592, sR r694, sI 1] [(.long (bi633 1)), (.long (gg694 1))])) (fun _ k => XS.ifNo X694.here hx rfl (dc at_189) rfl (XT.i0_eq_f hc730) (XS.aload X694.here hx rfl (dc at_192) rfl rfl (XS.iconst X694.here hx rfl (dc at_194) (ldJm X694 hx hZ rfl C714 (by decide) (dc at_195) (XS.goto X694.here hx rfl (pc0 := 196) (pc' := 200) rfl (dc at_196) (by decide) (by decide) k))))) ?_
                exact Goes.eqJ (fr := fun zz => (mkF m 200 #[sI x0, sI x1, sI x2, sJ x3, s2, sJ x4, s2, sJ x5, s2, sI 3, sI l_, sI nn, sR a521, sR a543, sR a566, sR a592, sR r694, sI 1] [(.long zz), (.long (gg694 1))])) (fi1.2 hc730) J724
          · intro J721
            by_cases hc732 : (hs633 0) = (0 : Int32)
            · refine Goes.on (T' := T694) (g' := (mkF m 159 #[sI x0, sI x1, sI x2, sJ x3, s2, sJ x4, s2, sJ x5, s2, sI 3, sI l_, sI nn, sR a521, sR a543, sR a566, sR a592, sR r694, su] [(.long 0), (.long (gg694 0))])) (fun _ k => XS.ifYes X694.here hx rfl (pc0 := 148) (pc' := 158) rfl (dc at_148) rfl (XT.i0_eq_t hc732) (by decide) (by decide) (XS.lconst X694.here hx rfl (dc at_158) k)) ?_
              exact Goes.eqJ (fr := fun zz => (mkF m 159 #[sI x0, sI x1, sI x2, sJ x3, s2, sJ x4, s2, sJ x5, s2, sI 3, sI l_, sI nn, sR a521, sR a543, sR a566, sR a592, sR r694, su] [(.long zz), (.long (gg694 0))])) (fi0.1 hc732) J721
            · refine Goes.on (T' := T694) (g' := (mkF m 159 #[sI x0, sI x1, sI x2, sJ x3, s2, sJ x4, s2, sJ x5, s2, sI 3, sI l_, sI nn, sR a521, sR a543, sR a566, sR a592, sR r694, su] [(.long (bi633 0)), (.long (gg694 0))])) (fun _ k => XS.ifNo X694.here hx rfl (dc at_148) rfl (XT.i0_eq_f hc732) (XS.aload X694.here hx rfl (dc at_151) rfl rfl (XS.iconst X694.here hx rfl (dc at_153) (ldJm X694 hx hZ rfl C714 (by decide) (dc at_154) (XS.goto X694.here hx rfl (pc0 := 155) (pc' := 159) rfl (dc at_155) (by decide) (by decide) k))))) ?_
              exact Goes.eqJ (fr := fun zz => (mkF m 159 #[sI x0, sI x1, sI x2, sJ x3, s2, sJ x4, s2, sJ x5, s2, sI 3, sI l_, sI nn, sR a521, sR a543, sR a566, sR a592, sR r694, su] [(.long zz), (.long (gg694 0))])) (fi0.2 hc732) J721
      · refine Goes.on (T' := T622) (g' := (mkF m 125 #[sI x0, sI x1, sI x2, sJ x3, s2, sJ x4, s2, sJ x5, s2, sI 3, sI l_, sI nn, sR a521, sR a543, sR a566, sR a592, su, su] [(.ref a521)])) (fun _ k => XS.icmpYes X622.here hx rfl (pc0 := 82) (pc' := 101) rfl (dc at_82) rfl (XT.ii_le_t hc632) (by decide) (by decide) (XS.iload X622.here hx rfl (dc at_101) rfl (XS.iconst X622.here hx rfl (dc at_103) (XS.icmpYes X622.here hx rfl (pc0 := 104) (pc' := 123) rfl (dc at_104) rfl (XT.ii_le_t (own_nn hc632 (by decide))) (by decide) (by decide) (XS.aload X622.here hx rfl (dc at_123) rfl rfl k))))) ?_
        refine Goes.callV X622 hx hZ 0 hown (ow 52 rfl) (ow 53 rfl) (notFace_of_selects (args := #[]) (mvT hZ (ow 55 rfl))) (ow 55 rfl) (ow 54 rfl) (ow 2 rfl) (ow 56 rfl) (by decide) rfl C623 (rmMi3 l Z a0 hw a521 ya532 I622a N622c cp622 sz622 id622 T622.heap n0 Z631 C623 f2_622 f4_622 f6_622 r1_622 r4_622 I622.1 I622.2.1) (by decide) (by decide) (by decide) (by decide) rfl (by rw [hml]; rfl) (argsL := []) (rest := []) rfl (lenOf pd_8 rfl) rfl (own_le20 rfl) (dc at_125) ?_
        rintro v734 T734 L734 X734 ⟨r734, gg734, rfl, N734q, K734, J734, G734, M734, gq0_734, gq1_734, gq2_734⟩
        have N734 := Fr.app N622 N734q
        show Goes p e below _ T734 (mkF m 128 #[sI x0, sI x1, sI x2, sJ x3, s2, sJ x4, s2, sJ x5, s2, sI 3, sI l_, sI nn, sR a521, sR a543, sR a566, sR a592, su, su] [(.ref r734)])
        have C752 := r5_622.keep K734 nin0
        have C754 := r7_622.keep K734 nin0
        have fi0 := own_fin I622 (show 0 < 3 by decide) gq0_734
        have fi1 := own_fin I622 (show 1 < 3 by decide) gq1_734
        have fi2 := own_fin I622 (show 2 < 3 by decide) gq2_734
        refine Goes.on (T' := T734) (g' := (mkF m 148 #[sI x0, sI x1, sI x2, sJ x3, s2, sJ x4, s2, sJ x5, s2, sI 3, sI l_, sI nn, sR a521, sR a543, sR a566, sR a592, sR r734, su] [(.int (hs622 0)), (.long (gg734 0))])) (fun _ k => XS.astore X734.here hx rfl (dc at_128) rfl rfl (l' := #[sI x0, sI x1, sI x2, sJ x3, s2, sJ x4, s2, sJ x5, s2, sI 3, sI l_, sI nn, sR a521, sR a543, sR a566, sR a592, sR r734, su]) rfl (XS.aload X734.here hx rfl (dc at_130) rfl rfl (aLenm X734 hx hZ rfl G734 (dc at_132) (XS.iload X734.here hx rfl (dc at_133) rfl (XS.icmpYes X734.here hx rfl (pc0 := 135) (pc' := 140) rfl (dc at_135) rfl (XT.ii_eq_t (by decide)) (by decide) (by decide) (XS.aload X734.here hx rfl (dc at_140) rfl rfl (XS.iconst X734.here hx rfl (dc at_142) (ldJm X734 hx hZ rfl G734 (by decide) (dc at_143) (XS.aload X734.here hx rfl (dc at_144) rfl rfl (XS.iconst X734.here hx rfl (dc at_146) (ldZm X734 hx hZ rfl C752 (by decide) (dc at_147) k))))))))))) ?_
        refine Goes.join1 (T' := T734) (g' := (mkF m 159 #[sI x0, sI x1, sI x2, sJ x3, s2, sJ x4, s2, sJ x5, s2, sI 3, sI l_, sI nn, sR a521, sR a543, sR a566, sR a592, sR r734, su] [(.long (gg734 0)), (.long (gg734 0))])) ?_ ?_
        · refine Goes.on (T' := T734) (g' := (mkF m 189 #[sI x0, sI x1, sI x2, sJ x3, s2, sJ x4, s2, sJ x5, s2, sI 3, sI l_, sI nn, sR a521, sR a543, sR a566, sR a592, sR r734, sI 1] [(.int (hs622 1)), (.long (gg734 1))])) (fun _ k => XT.lcmp X734.here hx rfl (dc at_159) rfl (XS.ifNo X734.here hx rfl (dc at_160) rfl (XT.ll_ne_f rfl) (XS.iconst X734.here hx rfl (dc at_163) (XS.goto X734.here hx rfl (pc0 := 164) (pc' := 168) rfl (dc at_164) (by decide) (by decide) (XS.istore X734.here hx rfl (dc at_168) rfl (l' := #[sI x0, sI x1, sI x2, sJ x3, s2, sJ x4, s2, sJ x5, s2, sI 3, sI l_, sI nn, sR a521, sR a543, sR a566, sR a592, sR r734, sI 1]) rfl (XS.iload X734.here hx rfl (dc at_170) rfl (XS.iconst X734.here hx rfl (dc at_172) (XS.icmpNo X734.here hx rfl (dc at_173) rfl (XT.ii_le_f (by decide)) (XS.iload X734.here hx rfl (dc at_176) rfl (XS.ifNo X734.here hx rfl (dc at_178) rfl (XT.i0_eq_f (by decide)) (XS.aload X734.here hx rfl (dc at_181) rfl rfl (XS.iconst X734.here hx rfl (dc at_183) (ldJm X734 hx hZ rfl G734 (by decide) (dc at_184) (XS.aload X734.here hx rfl (dc at_185) rfl rfl (XS.iconst X734.here hx rfl (dc at_187) (ldZm X734 hx hZ rfl C752 (by decide) (dc at_188) k)))))))))))))))) ?_
          refine Goes.join1 (T' := T734) (g' := (mkF m 200 #[sI x0, sI x1, sI x2, sJ x3, s2, sJ x4, s2, sJ x5, s2, sI 3, sI l_, sI nn, sR a521, sR a543, sR a566, sR a592, sR r734, sI 1] [(.long (gg734 1)), (.long (gg734 1))])) ?_ ?_
          · refine Goes.on (T' := T734) (g' := (mkF m 230 #[sI x0, sI x1, sI x2, sJ x3, s2, sJ x4, s2, sJ x5, s2, sI 3, sI l_, sI nn, sR a521, sR a543, sR a566, sR a592, sR r734, sI 1] [(.int (hs622 2)), (.long (gg734 2))])) (fun _ k => XT.lcmp X734.here hx rfl (dc at_200) rfl (XS.ifNo X734.here hx rfl (dc at_201) rfl (XT.ll_ne_f rfl) (XS.iconst X734.here hx rfl (dc at_204) (XS.goto X734.here hx rfl (pc0 := 205) (pc' := 209) rfl (dc at_205) (by decide) (by decide) (XS.istore X734.here hx rfl (dc at_209) rfl (l' := #[sI x0, sI x1, sI x2, sJ x3, s2, sJ x4, s2, sJ x5, s2, sI 3, sI l_, sI nn, sR a521, sR a543, sR a566, sR a592, sR r734, sI 1]) rfl (XS.iload X734.here hx rfl (dc at_211) rfl (XS.iconst X734.here hx rfl (dc at_213) (XS.icmpNo X734.here hx rfl (dc at_214) rfl (XT.ii_le_f (by decide)) (XS.iload X734.here hx rfl (dc at_217) rfl (XS.ifNo X734.here hx rfl (dc at_219) rfl (XT.i0_eq_f (by decide)) (XS.aload X734.here hx rfl (dc at_222) rfl rfl (XS.iconst X734.here hx rfl (dc at_224) (ldJm X734 hx hZ rfl G734 (by decide) (dc at_225) (XS.aload X734.here hx rfl (dc at_226) rfl rfl (XS.iconst X734.here hx rfl (dc at_228) (ldZm X734 hx hZ rfl C752 (by decide) (dc at_229) k)))))))))))))))) ?_
            refine Goes.join1 (T' := T734) (g' := (mkF m 241 #[sI x0, sI x1, sI x2, sJ x3, s2, sJ x4, s2, sJ x5, s2, sI 3, sI l_, sI nn, sR a521, sR a543, sR a566, sR a592, sR r734, sI 1] [(.long (gg734 2)), (.long (gg734 2))])) ?_ ?_
            · refine Goes.on (T' := T734) (g' := (mkF m 254 #[sI x0, sI x1, sI x2, sJ x3, s2, sJ x4, s2, sJ x5, s2, sI 3, sI l_, sI nn, sR a521, sR a543, sR a566, sR a592, sR r734, sI 1] [(.int 1)])) (fun _ k => XT.lcmp X734.here hx rfl (dc at_241) rfl (XS.ifNo X734.here hx rfl (dc at_242) rfl (XT.ll_ne_f rfl) (XS.iconst X734.here hx rfl (dc at_245) (XS.goto X734.here hx rfl (pc0 := 246) (pc' := 250) rfl (dc at_246) (by decide) (by decide) (XS.istore X734.here hx rfl (dc at_250) rfl (l' := #[sI x0, sI x1, sI x2, sJ x3, s2, sJ x4, s2, sJ x5, s2, sI 3, sI l_, sI nn, sR a521, sR a543, sR a566, sR a592, sR r734, sI 1]) rfl (XS.iload X734.here hx rfl (dc at_252) rfl k)))))) ?_
              exact Goes.retB X734 hx hlk hret (Or.inr rfl) (dc at_254) (by decide) (by decide) ⟨rfl, N734⟩
            · intro J767
              by_cases hc768 : (hs622 2) = (0 : Int32)
              · refine Goes.on (T' := T734) (g' := (mkF m 241 #[sI x0, sI x1, sI x2, sJ x3, s2, sJ x4, s2, sJ x5, s2, sI 3, sI l_, sI nn, sR a521, sR a543, sR a566, sR a592, sR r734, sI 1] [(.long 0), (.long (gg734 2))])) (fun _ k => XS.ifYes X734.here hx rfl (pc0 := 230) (pc' := 240) rfl (dc at_230) rfl (XT.i0_eq_t hc768) (by decide) (by decide) (XS.lconst X734.here hx rfl (dc at_240) k)) ?_
                exact Goes.eqJ (fr := fun zz => (mkF m 241 #[sI x0, sI x1, sI x2, sJ x3, s2, sJ x4, s2, sJ x5, s2, sI 3, sI l_, sI nn, sR a521, sR a543, sR a566, sR a592, sR r734, sI 1] [(.long zz), (.long (gg734 2))])) (fi2.1 hc768) J767
              · refine Goes.on (T' := T734) (g' := (mkF m 241 #[sI x0, sI x1, sI x2, sJ x3, s2, sJ x4, s2, sJ x5, s2, sI 3, sI l_, sI nn, sR a521, sR a543, sR a566, sR a592, sR r734, sI 1] [(.long (bi622 2)), (.long (gg734 2))])) (fun _ k => XS.ifNo X734.here hx rfl (dc at_230) rfl (XT.i0_eq_f hc768) (XS.aload X734.here hx rfl (dc at_233) rfl rfl (XS.iconst X734.here hx rfl (dc at_235) (ldJm X734 hx hZ rfl C754 (by decide) (dc at_236) (XS.goto X734.here hx rfl (pc0 := 237) (pc' := 241) rfl (dc at_237) (by decide) (by decide) k))))) ?_
                exact Goes.eqJ (fr := fun zz => (mkF m 241 #[sI x0, sI x1, sI x2, sJ x3, s2, sJ x4, s2, sJ x5, s2, sI 3, sI l_, sI nn, sR a521, sR a543, sR a566, sR a592, sR r734, sI 1] [(.long zz), (.long (gg734 2))])) (fi2.2 hc768) J767
          · intro J764
            by_cases hc770 : (hs622 1) = (0 : Int32)
            · refine Goes.on (T' := T734) (g' := (mkF m 200 #[sI x0, sI x1, sI x2, sJ x3, s2, sJ x4, s2, sJ x5, s2, sI 3, sI l_, sI nn, sR a521, sR a543, sR a566, sR a592, sR r734, sI 1] [(.long 0), (.long (gg734 1))])) (fun _ k => XS.ifYes X734.here hx rfl (pc0 := 189) (pc' := 199) rfl (dc at_189) rfl (XT.i0_eq_t hc770) (by decide) (by decide) (XS.lconst X734.here hx rfl (dc at_199) k)) ?_
              exact Goes.eqJ (fr := fun zz => (mkF m 200 #[sI x0, sI x1, sI x2, sJ x3, s2, sJ x4, s2, sJ x5, s2, sI 3, sI l_, sI nn, sR a521, sR a543, sR a566, sR a592, sR r734, sI 1] [(.long zz), (.long (gg734 1))])) (fi1.1 hc770) J764
            · refine Goes.on (T' := T734) (g' := (mkF m 200 #[sI x0, sI x1, sI x2, sJ x3, s2, sJ x4, s2, sJ x5, s2, sI 3, sI l_, sI nn, sR a521, sR a543, sR a566, sR a592, sR r734, sI 1] [(.long (bi622 1)), (.long (gg734 1))])) (fun _ k => XS.ifNo X734.here hx rfl (dc at_189) rfl (XT.i0_eq_f hc770) (XS.aload X734.here hx rfl (dc at_192) rfl rfl (XS.iconst X734.here hx rfl (dc at_194) (ldJm X734 hx hZ rfl C754 (by decide) (dc at_195) (XS.goto X734.here hx rfl (pc0 := 196) (pc' := 200) rfl (dc at_196) (by decide) (by decide) k))))) ?_
              exact Goes.eqJ (fr := fun zz => (mkF m 200 #[sI x0, sI x1, sI x2, sJ x3, s2, sJ x4, s2, sJ x5, s2, sI 3, sI l_, sI nn, sR a521, sR a543, sR a566, sR a592, sR r734, sI 1] [(.long zz), (.long (gg734 1))])) (fi1.2 hc770) J764
        · intro J761
          by_cases hc772 : (hs622 0) = (0 : Int32)
          · refine Goes.on (T' := T734) (g' := (mkF m 159 #[sI x0, sI x1, sI x2, sJ x3, s2, sJ x4, s2, sJ x5, s2, sI 3, sI l_, sI nn, sR a521, sR a543, sR a566, sR a592, sR r734, su] [(.long 0), (.long (gg734 0))])) (fun _ k => XS.ifYes X734.here hx rfl (pc0 := 148) (pc' := 158) rfl (dc at_148) rfl (XT.i0_eq_t hc772) (by decide) (by decide) (XS.lconst X734.here hx rfl (dc at_158) k)) ?_
            exact Goes.eqJ (fr := fun zz => (mkF m 159 #[sI x0, sI x1, sI x2, sJ x3, s2, sJ x4, s2, sJ x5, s2, sI 3, sI l_, sI nn, sR a521, sR a543, sR a566, sR a592, sR r734, su] [(.long zz), (.long (gg734 0))])) (fi0.1 hc772) J761
          · refine Goes.on (T' := T734) (g' := (mkF m 159 #[sI x0, sI x1, sI x2, sJ x3, s2, sJ x4, s2, sJ x5, s2, sI 3, sI l_, sI nn, sR a521, sR a543, sR a566, sR a592, sR r734, su] [(.long (bi622 0)), (.long (gg734 0))])) (fun _ k => XS.ifNo X734.here hx rfl (dc at_148) rfl (XT.i0_eq_f hc772) (XS.aload X734.here hx rfl (dc at_151) rfl rfl (XS.iconst X734.here hx rfl (dc at_153) (ldJm X734 hx hZ rfl C754 (by decide) (dc at_154) (XS.goto X734.here hx rfl (pc0 := 155) (pc' := 159) rfl (dc at_155) (by decide) (by decide) k))))) ?_
            exact Goes.eqJ (fr := fun zz => (mkF m 159 #[sI x0, sI x1, sI x2, sJ x3, s2, sJ x4, s2, sJ x5, s2, sI 3, sI l_, sI nn, sR a521, sR a543, sR a566, sR a592, sR r734, su] [(.long zz), (.long (gg734 0))])) (fi0.2 hc772) J761
    · refine Goes.on (T' := T592) (g' := (mkF m 125 #[sI x0, sI x1, sI x2, sJ x3, s2, sJ x4, s2, sJ x5, s2, sI 3, sI l_, sI nn, sR a521, sR a543, sR a566, sR a592, su, su] [(.ref a521)])) (fun _ k => XS.ifYes X592.here hx rfl (pc0 := 61) (pc' := 79) rfl (dc at_61) rfl (XT.i0_le_t hc621) (by decide) (by decide) (XS.iload X592.here hx rfl (dc at_79) rfl (XS.iconst X592.here hx rfl (dc at_81) (XS.icmpYes X592.here hx rfl (pc0 := 82) (pc' := 101) rfl (dc at_82) rfl (XT.ii_le_t (own_nn hc621 (by decide))) (by decide) (by decide) (XS.iload X592.here hx rfl (dc at_101) rfl (XS.iconst X592.here hx rfl (dc at_103) (XS.icmpYes X592.here hx rfl (pc0 := 104) (pc' := 123) rfl (dc at_104) rfl (XT.ii_le_t (own_nn hc621 (by decide))) (by decide) (by decide) (XS.aload X592.here hx rfl (dc at_123) rfl rfl k)))))))) ?_
      refine Goes.callV X592 hx hZ 0 hown (ow 52 rfl) (ow 53 rfl) (notFace_of_selects (args := #[]) (mvT hZ (ow 55 rfl))) (ow 55 rfl) (ow 54 rfl) (ow 2 rfl) (ow 56 rfl) (by decide) e592 C593 (rmMi3 l Z a0 hw a521 ya532 yd532 3 (1 : Int32) (fun _ => (0 : Int32)) (fun _ => (0 : Int64)) h592 n0 Z620 C593 C599 C594 C596 C602 C608 (own_i0 (M := 3) (l := l_) bL).1 (own_i0 (M := 3) (l := l_) bL).2.1) (by decide) (by decide) (by decide) (by decide) rfl (by rw [hml]; rfl) (argsL := []) (rest := []) rfl (lenOf pd_8 rfl) rfl (own_le20 rfl) (dc at_125) ?_
      rintro v774 T774 L774 X774 ⟨r774, gg774, rfl, N774q, K774, J774, G774, M774, gq0_774, gq1_774, gq2_774⟩
      have N774 := Fr.app N532 N774q
      show Goes p e below _ T774 (mkF m 128 #[sI x0, sI x1, sI x2, sJ x3, s2, sJ x4, s2, sJ x5, s2, sI 3, sI l_, sI nn, sR a521, sR a543, sR a566, sR a592, su, su] [(.ref r774)])
      have C792 := C610.keep K774 nin0
      have fi0 := own_fin (own_i0 (M := 3) (l := l_) bL) (show 0 < 3 by decide) gq0_774
      have fi1 := own_fin (own_i0 (M := 3) (l := l_) bL) (show 1 < 3 by decide) gq1_774
      have fi2 := own_fin (own_i0 (M := 3) (l := l_) bL) (show 2 < 3 by decide) gq2_774
      refine Goes.on (T' := T774) (g' := (mkF m 148 #[sI x0, sI x1, sI x2, sJ x3, s2, sJ x4, s2, sJ x5, s2, sI 3, sI l_, sI nn, sR a521, sR a543, sR a566, sR a592, sR r774, su] [(.int 0), (.long (gg774 0))])) (fun _ k => XS.astore X774.here hx rfl (dc at_128) rfl rfl (l' := #[sI x0, sI x1, sI x2, sJ x3, s2, sJ x4, s2, sJ x5, s2, sI 3, sI l_, sI nn, sR a521, sR a543, sR a566, sR a592, sR r774, su]) rfl (XS.aload X774.here hx rfl (dc at_130) rfl rfl (aLenm X774 hx hZ rfl G774 (dc at_132) (XS.iload X774.here hx rfl (dc at_133) rfl (XS.icmpYes X774.here hx rfl (pc0 := 135) (pc' := 140) rfl (dc at_135) rfl (XT.ii_eq_t (by decide)) (by decide) (by decide) (XS.aload X774.here hx rfl (dc at_140) rfl rfl (XS.iconst X774.here hx rfl (dc at_142) (ldJm X774 hx hZ rfl G774 (by decide) (dc at_143) (XS.aload X774.here hx rfl (dc at_144) rfl rfl (XS.iconst X774.here hx rfl (dc at_146) (ldZm X774 hx hZ rfl C792 (by decide) (dc at_147) k))))))))))) ?_
      refine Goes.join1 (T' := T774) (g' := (mkF m 159 #[sI x0, sI x1, sI x2, sJ x3, s2, sJ x4, s2, sJ x5, s2, sI 3, sI l_, sI nn, sR a521, sR a543, sR a566, sR a592, sR r774, su] [(.long (gg774 0)), (.long (gg774 0))])) ?_ ?_
      · refine Goes.on (T' := T774) (g' := (mkF m 189 #[sI x0, sI x1, sI x2, sJ x3, s2, sJ x4, s2, sJ x5, s2, sI 3, sI l_, sI nn, sR a521, sR a543, sR a566, sR a592, sR r774, sI 1] [(.int 0), (.long (gg774 1))])) (fun _ k => XT.lcmp X774.here hx rfl (dc at_159) rfl (XS.ifNo X774.here hx rfl (dc at_160) rfl (XT.ll_ne_f rfl) (XS.iconst X774.here hx rfl (dc at_163) (XS.goto X774.here hx rfl (pc0 := 164) (pc' := 168) rfl (dc at_164) (by decide) (by decide) (XS.istore X774.here hx rfl (dc at_168) rfl (l' := #[sI x0, sI x1, sI x2, sJ x3, s2, sJ x4, s2, sJ x5, s2, sI 3, sI l_, sI nn, sR a521, sR a543, sR a566, sR a592, sR r774, sI 1]) rfl (XS.iload X774.here hx rfl (dc at_170) rfl (XS.iconst X774.here hx rfl (dc at_172) (XS.icmpNo X774.here hx rfl (dc at_173) rfl (XT.ii_le_f (by decide)) (XS.iload X774.here hx rfl (dc at_176) rfl (XS.ifNo X774.here hx rfl (dc at_178) rfl (XT.i0_eq_f (by decide)) (XS.aload X774.here hx rfl (dc at_181) rfl rfl (XS.iconst X774.here hx rfl (dc at_183) (ldJm X774 hx hZ rfl G774 (by decide) (dc at_184) (XS.aload X774.here hx rfl (dc at_185) rfl rfl (XS.iconst X774.here hx rfl (dc at_187) (ldZm X774 hx hZ rfl C792 (by decide) (dc at_188) k)))))))))))))))) ?_
        refine Goes.join1 (T' := T774) (g' := (mkF m 200 #[sI x0, sI x1, sI x2, sJ x3, s2, sJ x4, s2, sJ x5, s2, sI 3, sI l_, sI nn, sR a521, sR a543, sR a566, sR a592, sR r774, sI 1] [(.long (gg774 1)), (.long (gg774 1))])) ?_ ?_
        · refine Goes.on (T' := T774) (g' := (mkF m 230 #[sI x0, sI x1, sI x2, sJ x3, s2, sJ x4, s2, sJ x5, s2, sI 3, sI l_, sI nn, sR a521, sR a543, sR a566, sR a592, sR r774, sI 1] [(.int 0), (.long (gg774 2))])) (fun _ k => XT.lcmp X774.here hx rfl (dc at_200) rfl (XS.ifNo X774.here hx rfl (dc at_201) rfl (XT.ll_ne_f rfl) (XS.iconst X774.here hx rfl (dc at_204) (XS.goto X774.here hx rfl (pc0 := 205) (pc' := 209) rfl (dc at_205) (by decide) (by decide) (XS.istore X774.here hx rfl (dc at_209) rfl (l' := #[sI x0, sI x1, sI x2, sJ x3, s2, sJ x4, s2, sJ x5, s2, sI 3, sI l_, sI nn, sR a521, sR a543, sR a566, sR a592, sR r774, sI 1]) rfl (XS.iload X774.here hx rfl (dc at_211) rfl (XS.iconst X774.here hx rfl (dc at_213) (XS.icmpNo X774.here hx rfl (dc at_214) rfl (XT.ii_le_f (by decide)) (XS.iload X774.here hx rfl (dc at_217) rfl (XS.ifNo X774.here hx rfl (dc at_219) rfl (XT.i0_eq_f (by decide)) (XS.aload X774.here hx rfl (dc at_222) rfl rfl (XS.iconst X774.here hx rfl (dc at_224) (ldJm X774 hx hZ rfl G774 (by decide) (dc at_225) (XS.aload X774.here hx rfl (dc at_226) rfl rfl (XS.iconst X774.here hx rfl (dc at_228) (ldZm X774 hx hZ rfl C792 (by decide) (dc at_229) k)))))))))))))))) ?_
          refine Goes.join1 (T' := T774) (g' := (mkF m 241 #[sI x0, sI x1, sI x2, sJ x3, s2, sJ x4, s2, sJ x5, s2, sI 3, sI l_, sI nn, sR a521, sR a543, sR a566, sR a592, sR r774, sI 1] [(.long (gg774 2)), (.long (gg774 2))])) ?_ ?_
          · refine Goes.on (T' := T774) (g' := (mkF m 254 #[sI x0, sI x1, sI x2, sJ x3, s2, sJ x4, s2, sJ x5, s2, sI 3, sI l_, sI nn, sR a521, sR a543, sR a566, sR a592, sR r774, sI 1] [(.int 1)])) (fun _ k => XT.lcmp X774.here hx rfl (dc at_241) rfl (XS.ifNo X774.here hx rfl (dc at_242) rfl (XT.ll_ne_f rfl) (XS.iconst X774.here hx rfl (dc at_245) (XS.goto X774.here hx rfl (pc0 := 246) (pc' := 250) rfl (dc at_246) (by decide) (by decide) (XS.istore X774.here hx rfl (dc at_250) rfl (l' := #[sI x0, sI x1, sI x2, sJ x3, s2, sJ x4, s2, sJ x5, s2, sI 3, sI l_, sI nn, sR a521, sR a543, sR a566, sR a592, sR r774, sI 1]) rfl (XS.iload X774.here hx rfl (dc at_252) rfl k)))))) ?_
            exact Goes.retB X774 hx hlk hret (Or.inr rfl) (dc at_254) (by decide) (by decide) ⟨rfl, N774⟩
          · intro J807
            refine Goes.on (T' := T774) (g' := (mkF m 241 #[sI x0, sI x1, sI x2, sJ x3, s2, sJ x4, s2, sJ x5, s2, sI 3, sI l_, sI nn, sR a521, sR a543, sR a566, sR a592, sR r774, sI 1] [(.long 0), (.long (gg774 2))])) (fun _ k => XS.ifYes X774.here hx rfl (pc0 := 230) (pc' := 240) rfl (dc at_230) rfl (XT.i0_eq_t (by decide)) (by decide) (by decide) (XS.lconst X774.here hx rfl (dc at_240) k)) ?_
            exact Goes.eqJ (fr := fun zz => (mkF m 241 #[sI x0, sI x1, sI x2, sJ x3, s2, sJ x4, s2, sJ x5, s2, sI 3, sI l_, sI nn, sR a521, sR a543, sR a566, sR a592, sR r774, sI 1] [(.long zz), (.long (gg774 2))])) (fi2.1 rfl) J807
        · intro J804
          refine Goes.on (T' := T774) (g' := (mkF m 200 #[sI x0, sI x1, sI x2, sJ x3, s2, sJ x4, s2, sJ x5, s2, sI 3, sI l_, sI nn, sR a521, sR a543, sR a566, sR a592, sR r774, sI 1] [(.long 0), (.long (gg774 1))])) (fun _ k => XS.ifYes X774.here hx rfl (pc0 := 189) (pc' := 199) rfl (dc at_189) rfl (XT.i0_eq_t (by decide)) (by decide) (by decide) (XS.lconst X774.here hx rfl (dc at_199) k)) ?_
          exact Goes.eqJ (fr := fun zz => (mkF m 200 #[sI x0, sI x1, sI x2, sJ x3, s2, sJ x4, s2, sJ x5, s2, sI 3, sI l_, sI nn, sR a521, sR a543, sR a566, sR a592, sR r774, sI 1] [(.long zz), (.long (gg774 1))])) (fi1.1 rfl) J804
      · intro J801
        refine Goes.on (T' := T774) (g' := (mkF m 159 #[sI x0, sI x1, sI x2, sJ x3, s2, sJ x4, s2, sJ x5, s2, sI 3, sI l_, sI nn, sR a521, sR a543, sR a566, sR a592, sR r774, su] [(.long 0), (.long (gg774 0))])) (fun _ k => XS.ifYes X774.here hx rfl (pc0 := 148) (pc' := 158) rfl (dc at_148) rfl (XT.i0_eq_t (by decide)) (by decide) (by decide) (XS.lconst X774.here hx rfl (dc at_158) k)) ?_
        exact Goes.eqJ (fr := fun zz => (mkF m 159 #[sI x0, sI x1, sI x2, sJ x3, s2, sJ x4, s2, sJ x5, s2, sI 3, sI l_, sI nn, sR a521, sR a543, sR a566, sR a592, sR r774, su] [(.long zz), (.long (gg774 0))])) (fi0.1 rfl) J801
theorem comes_1 {Post : Tables → Env → Array Value → State → Outcome → State → Prop} (hpost : ∀ tb e args s v u, (limb_1_1.after args s (.returned v) u = true ∧ limb_1_2.after args s (.returned v) u = true ∧ True) → FrameEnd s (.returned v) u (Jvm.fieldLocs frame_1_writes args s ++ Jvm.arrayLocs frame_1_arrays args s ++ Jvm.staticLocs frame_1_statics s) 40 192 → Post tb e args s (.returned v) u) :
    ArmFor flags0 classFile x code maxLocals ret World_1 tables_1 room_1 Calls_1 rest_1 Pre_1 Post := by
  intro l hfl _ _ p e ha hc hk s m args below hf hA hF happ hP
  obtain ⟨hcalls, hrest, hpre⟩ := hP
  obtain ⟨-, -, -, hnamed, -, -, -, hat⟩ := (Spec.applies_iff hf).mp happ
  obtain ⟨hg, hn⟩ := and_e (Cond.before_iff.mp (show (Jvm.Cond.and given_1 narrow_1).before args s = true from hpre))
  obtain ⟨g0, r0⟩ := and_e hg
  obtain ⟨g1, r1⟩ := and_e r0
  obtain ⟨g2, r2⟩ := and_e r1
  obtain ⟨g3, r3⟩ := and_e r2
  obtain ⟨g4, r4⟩ := and_e r3
  obtain ⟨g5, r5⟩ := and_e r4
  obtain ⟨w0, w1, w2, w3, w4, w5, rfl⟩ : ∃ w0 w1 w2 w3 w4 w5 : Value, args = #[w0, w1, w2, w3, w4, w5] := by
    have hs : args.size = 6 := by simpa [Cond.value, given_1] using g0
    obtain ⟨L⟩ := args
    match L, hs with
    | [w0, w1, w2, w3, w4, w5], _ => exact ⟨w0, w1, w2, w3, w4, w5, rfl⟩
  have hw := fun d (hd : d ∈ tables_1) => atoms_spec (ws := Jvm.Cond.code x code maxLocals ret :: tables_1) hat d (List.mem_cons_of_mem _ hd)
  have hfit : Fit s := fun {y c} hc i hi => by
    obtain ⟨ha, rfl⟩ := Array.getElem?_eq_some_iff.mp hc
    have q := List.all_eq_true.mp ((Array.all_eq_true_iff_forall_mem.mp hF) _ (Array.getElem_mem ha)) i (List.mem_range.mpr hi)
    simpa [Array.getElem?_eq_getElem hi] using q
  obtain ⟨i0, ei0⟩ := is_v g1
  obtain rfl : w0 = (.int i0) := Option.some.inj ei0
  obtain ⟨i1, ei1⟩ := is_v g2
  obtain rfl : w1 = (.int i1) := Option.some.inj ei1
  obtain ⟨i2, ei2⟩ := is_v g3
  obtain rfl : w2 = (.int i2) := Option.some.inj ei2
  obtain ⟨i3, ei3⟩ := isL_v g4
  obtain rfl : w3 = (.long i3) := Option.some.inj ei3
  obtain ⟨i4, ei4⟩ := isL_v g5
  obtain rfl : w4 = (.long i4) := Option.some.inj ei4
  obtain ⟨i5, ei5⟩ := isL_v r5
  obtain rfl : w5 = (.long i5) := Option.some.inj ei5
  obtain ⟨n, o, h1, h2, h3, _, L, rfl, ⟨rfl, N⟩, hq⟩ := rm0 l s _ hw i0 i1 i2 i3 i4 i5 s.heap s.heap.size (Nat.le_refl _)  p e ha hc hk s m _ below hf ((Spec.applies_iff_loose hf).mp happ).1 ⟨rfl, State.Warmed39.refl s, rfl⟩ trivial
  refine ⟨n, _, h1, h2, h3, hpost _ _ _ _ _ _ ⟨Cond.after_iff.mpr rfl, Cond.after_iff.mpr (eq_i res_at (Term.int_eval (1)) rfl), trivial⟩ ⟨hq.1, hq.2.1, (hq.2.2.sift fun y hy => Or.inr (N y hy)).mono (by decide) (by decide)⟩⟩
theorem main_1_1 : Claimed_1_1 := comes_1 fun _ _ _ _ _ _ h hF => ⟨h.1, hF⟩
theorem main_1_2 : Claimed_1_2 := comes_1 fun _ _ _ _ _ _ h hF => ⟨h.2.1, hF⟩

end Jvm.Pilot.@@N@@
namespace Jvm.Pilot.@@N@@
open Jvm Jvm.ClassFile Sem Op Lib Jvm.Free Jvm.Stand Jvm.Pilot.@@N@@.Jvm.D
/-! MADE BY PROGRAM (witnessworld.py) out of the Statement's table words and the real class files: 19 classes; the members and pool entries that the words name. The judged class is class 1, her method 1. -/
namespace start1
open Jvm.ClassFile
def u (s : String) : CpInfo := .utf8 (stringToUtf16 s)
/-- a pool by its gaps: so many unusable entries, then the entry; so many at the end -/
def gap : Nat → List CpInfo → List CpInfo
  | 0, r => r
  | n + 1, r => .unusable :: gap n r
def poolList (es : List (Nat × CpInfo)) (last : Nat) : List CpInfo := es.foldr (fun e r => gap e.1 (e.2 :: r)) (gap last [])
def pool (es : List (Nat × CpInfo)) (last : Nat) : Array CpInfo := ⟨poolList es last⟩
def fileOf (pool : Array CpInfo) (this : Nat) (attrs : Array Attribute := #[]) (ms : Array MethodInfo := #[]) (fl : Nat := 33) (sup : Nat := 0) (ifs : Array Nat := #[]) (fds : Array FieldInfo := #[]) : ClassFile where
  minorVersion := 0
  majorVersion := 65
  constantPool := pool
  accessFlags := fl
  thisClass := this
  superClass := sup
  interfaces := ifs
  fields := fds
  methods := ms
  attributes := attrs
def plain (name : String) (sup : Option ClassId) : Class where
  name := name
  kind := .ordinary
  loader := none
  accessFlags := 33
  super := sup
  interfaces := #[]
  cf := none
  fields := #[]
  methods := #[]
  instanceTypes := #[]
  staticTypes := #[]
  resolved := #[]
  callSites := []
  init := .initialized
  statics := none
  mirror := none

def pool0 : Array CpInfo := pool [(5, u "<init>"), (0, u "()V"), (1, .class_ 10), (1, u "java/lang/Object")] 113

def k0c0 : Code := { maxStack := 0, maxLocals := 1, code := object_method_1_code, exceptionTable := #[], attributes := #[] }
def k0m0 : Method := { name := "<init>", desc := "()V", sig := { parameters := [], returnType := none }, accessFlags := 1, code := some k0c0 }
/-- java/lang/Object -/
def k0 : Class := { plain "java/lang/Object" none with
  accessFlags := 33
  interfaces := #[]
  cf := some (fileOf pool0 8 #[] #[{ accessFlags := 1, nameIndex := 5, descriptorIndex := 6, attributes := #[] }] 33 0 #[] #[])
  fields := #[]
  methods := #[k0m0]
  instanceTypes := #[]
  staticTypes := #[]
  resolved := Array.replicate 124 none
  statics := none }

def pool1 : Array CpInfo := pool [(2, .class_ 4), (1, u "java/lang/Object"), (0, u "<init>"), (0, u "()V"), (0, .class_ 8), (0, u "com/example/boceto/boceto/signature/ComponentBuffers"), (0, .methodref 7 10), (0, .nameAndType 5 11), (0, u "(II)V"), (0, .methodref 13 14), (0, .class_ 15), (0, .nameAndType 16 17), (0, u "com/example/boceto/boceto/signature/ComponentBuffersMinimumIdentitiesPinLaw"), (0, u "step"), (0, u "(Lcom/example/boceto/boceto/signature/ComponentBuffers;[Z[I[JIIJ)V"), (0, .methodref 7 19), (0, .nameAndType 20 21), (0, u "minimumIdentities"), (0, u "()[J"), (0, .methodref 7 23), (0, .nameAndType 24 25), (0, u "insert"), (0, u "(IDJ)V"), (2, u "law"), (0, u "(IIIJJJ)Z")] 9

def k1m0 : Method := { name := "<init>", desc := "()V", sig := { parameters := [], returnType := none }, accessFlags := 1, code := none }
def k1c1 : Code := { maxStack := 8, maxLocals := 18, code := code, exceptionTable := #[], attributes := #[] }
def k1m1 : Method := { name := "law", desc := "(IIIJJJ)Z", sig := { parameters := [.int, .int, .int, .long, .long, .long], returnType := some .boolean }, accessFlags := 9, code := some k1c1 }
def k1c2 : Code := { maxStack := 6, maxLocals := 10, code := method_3_code, exceptionTable := #[], attributes := #[] }
def k1m2 : Method := { name := "step", desc := "(Lcom/example/boceto/boceto/signature/ComponentBuffers;[Z[I[JIIJ)V", sig := { parameters := [(.object "com/example/boceto/boceto/signature/ComponentBuffers"), (.array .boolean), (.array .int), (.array .long), .int, .int, .long], returnType := none }, accessFlags := 10, code := some k1c2 }
/-- com/example/boceto/boceto/signature/ComponentBuffersMinimumIdentitiesPinLaw -/
def k1 : Class := { plain "com/example/boceto/boceto/signature/ComponentBuffersMinimumIdentitiesPinLaw" (some 0) with
  accessFlags := 49
  interfaces := #[]
  cf := some (fileOf pool1 13 #[] #[{ accessFlags := 1, nameIndex := 5, descriptorIndex := 6, attributes := #[] }, { accessFlags := 9, nameIndex := 28, descriptorIndex := 29, attributes := #[] }, { accessFlags := 10, nameIndex := 16, descriptorIndex := 17, attributes := #[] }] 49 2 #[] #[])
  fields := #[]
  methods := #[k1m0, k1m1, k1m2]
  instanceTypes := #[]
  staticTypes := #[]
  resolved := Array.replicate 39 none
  statics := none }

def pool2 : Array CpInfo := pool [(1, .methodref 2 3), (0, .class_ 4), (0, .nameAndType 5 6), (0, u "java/lang/Object"), (0, u "<init>"), (0, u "()V"), (0, .class_ 8), (0, u "com/example/boceto/boceto/signature/ComponentBuffers$Insertion"), (0, .methodref 7 10), (0, .nameAndType 5 11), (0, u "(Lcom/example/boceto/boceto/signature/ComponentBuffers;)V"), (0, .fieldref 13 14), (0, .class_ 15), (0, .nameAndType 16 17), (0, u "com/example/boceto/boceto/signature/ComponentBuffers"), (0, u "_insertion"), (0, u "Lcom/example/boceto/boceto/signature/PointSink;"), (0, .class_ 19), (0, u "com/example/boceto/boceto/signature/ComponentBuffers$Removal"), (0, .methodref 18 10), (0, .fieldref 13 22), (0, .nameAndType 23 17), (0, u "_removal"), (0, .fieldref 13 25), (0, .nameAndType 26 27), (0, u "_bufferSize"), (0, u "I"), (0, .fieldref 13 29), (0, .nameAndType 30 31), (0, u "_sizes"), (0, u "[I"), (0, .fieldref 13 33), (0, .nameAndType 34 35), (0, u "_thresholds"), (0, u "[D"), (2, .double 9218868437227405312), (1, .methodref 41 42), (0, .class_ 43), (0, .nameAndType 44 45), (0, u "java/util/Arrays"), (0, u "fill"), (0, u "([DD)V"), (0, .fieldref 13 47), (0, .nameAndType 48 27), (0, u "_capacity"), (0, .fieldref 13 50), (0, .nameAndType 51 35), (0, u "_points"), (0, .fieldref 13 53), (0, .nameAndType 54 55), (0, u "_identities"), (0, u "[J"), (0, .methodref 13 57), (0, .nameAndType 58 6), (0, u "grow"), (0, .methodref 13 60), (0, .nameAndType 61 62), (0, u "lowerBound"), (0, u "(IID)I"), (0, .methodref 13 64), (0, .nameAndType 65 66), (0, u "shiftUp"), (0, u "(II)V"), (0, .fieldref 13 68), (0, .nameAndType 69 27), (0, u "_pointCount"), (0, .methodref 71 72), (0, .class_ 73), (0, .nameAndType 74 75), (0, u "java/lang/System"), (0, u "arraycopy"), (0, u "(Ljava/lang/Object;ILjava/lang/Object;II)V"), (2, u "_drained"), (0, u "Z"), (3, .long 2), (1, .methodref 86 87), (0, .class_ 88), (0, .nameAndType 89 90), (0, u "java/lang/Math"), (0, u "min"), (0, u "(JJ)J"), (8, u "insert"), (0, u "(IDJ)V"), (6, u "minimumIdentities"), (0, u "()[J")] 8

def k2c0 : Code := { maxStack := 4, maxLocals := 3, code := prog_28_method_1_code, exceptionTable := #[], attributes := #[] }
def k2m0 : Method := { name := "<init>", desc := "(II)V", sig := { parameters := [.int, .int], returnType := none }, accessFlags := 0, code := some k2c0 }
def k2c1 : Code := { maxStack := 5, maxLocals := 11, code := prog_28_method_6_code, exceptionTable := #[], attributes := #[] }
def k2m1 : Method := { name := "insert", desc := "(IDJ)V", sig := { parameters := [.int, .double, .long], returnType := none }, accessFlags := 0, code := some k2c1 }
def k2c2 : Code := { maxStack := 5, maxLocals := 3, code := prog_28_method_11_code, exceptionTable := #[], attributes := #[] }
def k2m2 : Method := { name := "minimumIdentities", desc := "()[J", sig := { parameters := [], returnType := some (.array .long) }, accessFlags := 0, code := some k2c2 }
def k2c3 : Code := { maxStack := 4, maxLocals := 8, code := prog_28_method_12_code, exceptionTable := #[], attributes := #[] }
def k2m3 : Method := { name := "lowerBound", desc := "(IID)I", sig := { parameters := [.int, .int, .double], returnType := some .int }, accessFlags := 2, code := some k2c3 }
def k2c4 : Code := { maxStack := 6, maxLocals := 3, code := prog_28_method_13_code, exceptionTable := #[], attributes := #[] }
def k2m4 : Method := { name := "shiftUp", desc := "(II)V", sig := { parameters := [.int, .int], returnType := none }, accessFlags := 2, code := some k2c4 }
def k2c5 : Code := { maxStack := 6, maxLocals := 5, code := prog_28_method_14_code, exceptionTable := #[], attributes := #[] }
def k2m5 : Method := { name := "grow", desc := "()V", sig := { parameters := [], returnType := none }, accessFlags := 2, code := some k2c5 }
/-- com/example/boceto/boceto/signature/ComponentBuffers -/
def k2 : Class := { plain "com/example/boceto/boceto/signature/ComponentBuffers" (some 0) with
  accessFlags := 32
  interfaces := #[]
  cf := some (fileOf pool2 13 #[.nestMembers #[18, 7]] #[{ accessFlags := 0, nameIndex := 5, descriptorIndex := 66, attributes := #[] }, { accessFlags := 0, nameIndex := 99, descriptorIndex := 100, attributes := #[] }, { accessFlags := 0, nameIndex := 107, descriptorIndex := 108, attributes := #[] }, { accessFlags := 2, nameIndex := 61, descriptorIndex := 62, attributes := #[] }, { accessFlags := 2, nameIndex := 65, descriptorIndex := 66, attributes := #[] }, { accessFlags := 2, nameIndex := 58, descriptorIndex := 6, attributes := #[] }] 32 2 #[] #[{ accessFlags := 18, nameIndex := 26, descriptorIndex := 27, attributes := #[] }, { accessFlags := 18, nameIndex := 30, descriptorIndex := 31, attributes := #[] }, { accessFlags := 18, nameIndex := 34, descriptorIndex := 35, attributes := #[] }, { accessFlags := 2, nameIndex := 48, descriptorIndex := 27, attributes := #[] }, { accessFlags := 2, nameIndex := 51, descriptorIndex := 35, attributes := #[] }, { accessFlags := 2, nameIndex := 54, descriptorIndex := 55, attributes := #[] }, { accessFlags := 2, nameIndex := 69, descriptorIndex := 27, attributes := #[] }, { accessFlags := 2, nameIndex := 78, descriptorIndex := 79, attributes := #[] }, { accessFlags := 18, nameIndex := 16, descriptorIndex := 17, attributes := #[] }, { accessFlags := 18, nameIndex := 23, descriptorIndex := 17, attributes := #[] }])
  fields := #[{ name := "_bufferSize", type := .int, accessFlags := 18, slot := 0, constantValue := 0 }, { name := "_sizes", type := (.array .int), accessFlags := 18, slot := 1, constantValue := 0 }, { name := "_thresholds", type := (.array .double), accessFlags := 18, slot := 2, constantValue := 0 }, { name := "_capacity", type := .int, accessFlags := 2, slot := 3, constantValue := 0 }, { name := "_points", type := (.array .double), accessFlags := 2, slot := 4, constantValue := 0 }, { name := "_identities", type := (.array .long), accessFlags := 2, slot := 5, constantValue := 0 }, { name := "_pointCount", type := .int, accessFlags := 2, slot := 6, constantValue := 0 }, { name := "_drained", type := .boolean, accessFlags := 2, slot := 7, constantValue := 0 }, { name := "_insertion", type := (.object "com/example/boceto/boceto/signature/PointSink"), accessFlags := 18, slot := 8, constantValue := 0 }, { name := "_removal", type := (.object "com/example/boceto/boceto/signature/PointSink"), accessFlags := 18, slot := 9, constantValue := 0 }]
  methods := #[k2m0, k2m1, k2m2, k2m3, k2m4, k2m5]
  instanceTypes := #[.int, (.array .int), (.array .double), .int, (.array .double), (.array .long), .int, .boolean, (.object "com/example/boceto/boceto/signature/PointSink"), (.object "com/example/boceto/boceto/signature/PointSink")]
  staticTypes := #[]
  resolved := ⟨List.replicate 7 none ++ some (.cls 4) :: (List.replicate 1 none ++ some (.method ⟨4, 0⟩) :: (List.replicate 8 none ++ some (.cls 5) :: (List.replicate 1 none ++ some (.method ⟨5, 0⟩) :: (List.replicate 96 none))))⟩
  statics := none }

def pool3 : Array CpInfo := pool [(1, .class_ 2), (0, u "com/example/boceto/boceto/signature/PointSink"), (0, .class_ 4), (0, u "java/lang/Object")] 6

/-- com/example/boceto/boceto/signature/PointSink -/
def k3 : Class := { plain "com/example/boceto/boceto/signature/PointSink" (some 0) with
  accessFlags := 1536
  interfaces := #[]
  cf := some (fileOf pool3 1 #[] #[] 1536 3 #[] #[])
  fields := #[]
  methods := #[]
  instanceTypes := #[]
  staticTypes := #[]
  resolved := Array.replicate 11 none
  statics := none }

def pool4 : Array CpInfo := pool [(1, .fieldref 2 3), (0, .class_ 4), (0, .nameAndType 5 6), (0, u "com/example/boceto/boceto/signature/ComponentBuffers$Insertion"), (0, u "this$0"), (0, u "Lcom/example/boceto/boceto/signature/ComponentBuffers;"), (0, .methodref 8 9), (0, .class_ 10), (0, .nameAndType 11 12), (0, u "java/lang/Object"), (0, u "<init>"), (0, u "()V"), (1, .class_ 16), (1, u "com/example/boceto/boceto/signature/ComponentBuffers"), (6, .class_ 24), (0, u "com/example/boceto/boceto/signature/PointSink"), (0, u "(Lcom/example/boceto/boceto/signature/ComponentBuffers;)V")] 9

def k4c0 : Code := { maxStack := 2, maxLocals := 2, code := prog_29_method_1_code, exceptionTable := #[], attributes := #[] }
def k4m0 : Method := { name := "<init>", desc := "(Lcom/example/boceto/boceto/signature/ComponentBuffers;)V", sig := { parameters := [(.object "com/example/boceto/boceto/signature/ComponentBuffers")], returnType := none }, accessFlags := 2, code := some k4c0 }
/-- com/example/boceto/boceto/signature/ComponentBuffers$Insertion -/
def k4 : Class := { plain "com/example/boceto/boceto/signature/ComponentBuffers$Insertion" (some 0) with
  accessFlags := 32
  interfaces := #[3]
  cf := some (fileOf pool4 2 #[.nestHost 14] #[{ accessFlags := 2, nameIndex := 11, descriptorIndex := 25, attributes := #[] }] 32 8 #[23] #[{ accessFlags := 4112, nameIndex := 5, descriptorIndex := 6, attributes := #[] }])
  fields := #[{ name := "this$0", type := (.object "com/example/boceto/boceto/signature/ComponentBuffers"), accessFlags := 4112, slot := 0, constantValue := 0 }]
  methods := #[k4m0]
  instanceTypes := #[(.object "com/example/boceto/boceto/signature/ComponentBuffers")]
  staticTypes := #[]
  resolved := Array.replicate 35 none
  statics := none }

def pool5 : Array CpInfo := pool [(1, .fieldref 2 3), (0, .class_ 4), (0, .nameAndType 5 6), (0, u "com/example/boceto/boceto/signature/ComponentBuffers$Removal"), (0, u "this$0"), (0, u "Lcom/example/boceto/boceto/signature/ComponentBuffers;"), (0, .methodref 8 9), (0, .class_ 10), (0, .nameAndType 11 12), (0, u "java/lang/Object"), (0, u "<init>"), (0, u "()V"), (1, .class_ 16), (1, u "com/example/boceto/boceto/signature/ComponentBuffers"), (6, .class_ 24), (0, u "com/example/boceto/boceto/signature/PointSink"), (0, u "(Lcom/example/boceto/boceto/signature/ComponentBuffers;)V")] 9

def k5c0 : Code := { maxStack := 2, maxLocals := 2, code := prog_30_method_1_code, exceptionTable := #[], attributes := #[] }
def k5m0 : Method := { name := "<init>", desc := "(Lcom/example/boceto/boceto/signature/ComponentBuffers;)V", sig := { parameters := [(.object "com/example/boceto/boceto/signature/ComponentBuffers")], returnType := none }, accessFlags := 2, code := some k5c0 }
/-- com/example/boceto/boceto/signature/ComponentBuffers$Removal -/
def k5 : Class := { plain "com/example/boceto/boceto/signature/ComponentBuffers$Removal" (some 0) with
  accessFlags := 32
  interfaces := #[3]
  cf := some (fileOf pool5 2 #[.nestHost 14] #[{ accessFlags := 2, nameIndex := 11, descriptorIndex := 25, attributes := #[] }] 32 8 #[23] #[{ accessFlags := 4112, nameIndex := 5, descriptorIndex := 6, attributes := #[] }])
  fields := #[{ name := "this$0", type := (.object "com/example/boceto/boceto/signature/ComponentBuffers"), accessFlags := 4112, slot := 0, constantValue := 0 }]
  methods := #[k5m0]
  instanceTypes := #[(.object "com/example/boceto/boceto/signature/ComponentBuffers")]
  staticTypes := #[]
  resolved := Array.replicate 35 none
  statics := none }

def pool6 : Array CpInfo := pool [(2, .class_ 4), (1, u "java/lang/Object"), (0, u "<init>"), (0, u "()V"), (7, .class_ 16), (1, u "java/util/Arrays"), (57, .class_ 76), (1, u "java/util/Arrays$NaturalOrder"), (36, .class_ 115), (1, u "java/util/Arrays$LegacyMergeSort"), (1, u "Z"), (257, .class_ 376), (0, u "java/util/Arrays$ArrayList"), (68, u "$assertionsDisabled"), (269, u "MIN_ARRAY_SORT_GRAN"), (0, u "I"), (2, u "INSERTIONSORT_THRESHOLD"), (120, u "fill"), (13, u "([DD)V"), (120, .class_ 976), (0, u "java/util/Arrays$ArrayItr")] 52

def k6m0 : Method := { name := "<init>", desc := "()V", sig := { parameters := [], returnType := none }, accessFlags := 2, code := none }
def k6c1 : Code := { maxStack := 4, maxLocals := 5, code := jdk_65_method_113_code, exceptionTable := #[], attributes := #[] }
def k6m1 : Method := { name := "fill", desc := "([DD)V", sig := { parameters := [(.array .double), .double], returnType := none }, accessFlags := 9, code := some k6c1 }
/-- java/util/Arrays -/
def k6 : Class := { plain "java/util/Arrays" (some 0) with
  accessFlags := 49
  interfaces := #[]
  cf := some (fileOf pool6 14 #[.nestMembers #[975, 375, 113, 74]] #[{ accessFlags := 2, nameIndex := 5, descriptorIndex := 6, attributes := #[] }, { accessFlags := 9, nameIndex := 840, descriptorIndex := 854, attributes := #[] }] 49 2 #[] #[{ accessFlags := 26, nameIndex := 715, descriptorIndex := 716, attributes := #[] }, { accessFlags := 26, nameIndex := 719, descriptorIndex := 716, attributes := #[] }, { accessFlags := 4120, nameIndex := 445, descriptorIndex := 117, attributes := #[] }])
  fields := #[{ name := "MIN_ARRAY_SORT_GRAN", type := .int, accessFlags := 26, slot := 0, constantValue := 0 }, { name := "INSERTIONSORT_THRESHOLD", type := .int, accessFlags := 26, slot := 1, constantValue := 0 }, { name := "$assertionsDisabled", type := .boolean, accessFlags := 4120, slot := 2, constantValue := 0 }]
  methods := #[k6m0, k6m1]
  instanceTypes := #[]
  staticTypes := #[.int, .int, .boolean]
  resolved := Array.replicate 1029 none
  statics := none }

def pool7 : Array CpInfo := pool [(2, .class_ 4), (1, u "java/lang/Object"), (0, u "<init>"), (0, u "()V"), (1, .class_ 10), (1, u "java/lang/System"), (0, u "allowSecurityManager"), (0, u "I"), (16, u "cons"), (0, u "Ljava/io/Console;"), (77, .class_ 110), (1, u "java/lang/System$CallersHolder"), (43, u "initialErrStream"), (0, u "Ljava/io/PrintStream;"), (19, u "security"), (0, u "Ljava/lang/SecurityManager;"), (31, .class_ 209), (0, u "java/lang/System$1"), (7, u "props"), (0, u "Ljava/util/Properties;"), (2, u "lineSeparator"), (0, u "Ljava/lang/String;"), (96, .class_ 321), (1, u "java/lang/System$LoggerFinder"), (5, .class_ 328), (0, u "java/lang/System$Logger"), (67, u "err"), (2, u "out"), (91, u "notSupportedJnuEncoding"), (15, u "in"), (17, u "initialIn"), (0, u "Ljava/io/InputStream;"), (35, u "bootLayer"), (0, u "Ljava/lang/ModuleLayer;"), (99, .class_ 664), (0, u "java/lang/System$2"), (9, u "NEVER"), (2, u "MAYBE"), (49, u "arraycopy"), (0, u "(Ljava/lang/Object;ILjava/lang/Object;II)V"), (72, .class_ 802), (0, u "java/lang/System$Logger$Level")] 31

def k7m0 : Method := { name := "<init>", desc := "()V", sig := { parameters := [], returnType := none }, accessFlags := 2, code := none }
def k7m1 : Method := { name := "arraycopy", desc := "(Ljava/lang/Object;ILjava/lang/Object;II)V", sig := { parameters := [(.object "java/lang/Object"), .int, (.object "java/lang/Object"), .int, .int], returnType := none }, accessFlags := 265, code := none }
/-- java/lang/System -/
def k7 : Class := { plain "java/lang/System" (some 0) with
  accessFlags := 49
  interfaces := #[]
  cf := some (fileOf pool7 8 #[.nestMembers #[319, 327, 801, 108, 663, 208]] #[{ accessFlags := 2, nameIndex := 5, descriptorIndex := 6, attributes := #[] }, { accessFlags := 265, nameIndex := 727, descriptorIndex := 728, attributes := #[] }] 49 2 #[] #[{ accessFlags := 25, nameIndex := 507, descriptorIndex := 526, attributes := #[] }, { accessFlags := 25, nameIndex := 399, descriptorIndex := 155, attributes := #[] }, { accessFlags := 25, nameIndex := 396, descriptorIndex := 155, attributes := #[] }, { accessFlags := 10, nameIndex := 525, descriptorIndex := 526, attributes := #[] }, { accessFlags := 26, nameIndex := 674, descriptorIndex := 12, attributes := #[] }, { accessFlags := 26, nameIndex := 677, descriptorIndex := 12, attributes := #[] }, { accessFlags := 10, nameIndex := 11, descriptorIndex := 12, attributes := #[] }, { accessFlags := 74, nameIndex := 175, descriptorIndex := 176, attributes := #[] }, { accessFlags := 10, nameIndex := 491, descriptorIndex := 222, attributes := #[] }, { accessFlags := 74, nameIndex := 29, descriptorIndex := 30, attributes := #[] }, { accessFlags := 74, nameIndex := 154, descriptorIndex := 155, attributes := #[] }, { accessFlags := 10, nameIndex := 217, descriptorIndex := 218, attributes := #[] }, { accessFlags := 10, nameIndex := 221, descriptorIndex := 222, attributes := #[] }, { accessFlags := 8, nameIndex := 562, descriptorIndex := 563, attributes := #[] }])
  fields := #[{ name := "in", type := (.object "java/io/InputStream"), accessFlags := 25, slot := 0, constantValue := 0 }, { name := "out", type := (.object "java/io/PrintStream"), accessFlags := 25, slot := 1, constantValue := 0 }, { name := "err", type := (.object "java/io/PrintStream"), accessFlags := 25, slot := 2, constantValue := 0 }, { name := "initialIn", type := (.object "java/io/InputStream"), accessFlags := 10, slot := 3, constantValue := 0 }, { name := "NEVER", type := .int, accessFlags := 26, slot := 4, constantValue := 0 }, { name := "MAYBE", type := .int, accessFlags := 26, slot := 5, constantValue := 0 }, { name := "allowSecurityManager", type := .int, accessFlags := 10, slot := 6, constantValue := 0 }, { name := "security", type := (.object "java/lang/SecurityManager"), accessFlags := 74, slot := 7, constantValue := 0 }, { name := "notSupportedJnuEncoding", type := (.object "java/lang/String"), accessFlags := 10, slot := 8, constantValue := 0 }, { name := "cons", type := (.object "java/io/Console"), accessFlags := 74, slot := 9, constantValue := 0 }, { name := "initialErrStream", type := (.object "java/io/PrintStream"), accessFlags := 74, slot := 10, constantValue := 0 }, { name := "props", type := (.object "java/util/Properties"), accessFlags := 10, slot := 11, constantValue := 0 }, { name := "lineSeparator", type := (.object "java/lang/String"), accessFlags := 10, slot := 12, constantValue := 0 }, { name := "bootLayer", type := (.object "java/lang/ModuleLayer"), accessFlags := 8, slot := 13, constantValue := 0 }]
  methods := #[k7m0, k7m1]
  instanceTypes := #[]
  staticTypes := #[(.object "java/io/InputStream"), (.object "java/io/PrintStream"), (.object "java/io/PrintStream"), (.object "java/io/InputStream"), .int, .int, .int, (.object "java/lang/SecurityManager"), (.object "java/lang/String"), (.object "java/io/Console"), (.object "java/io/PrintStream"), (.object "java/util/Properties"), (.object "java/lang/String"), (.object "java/lang/ModuleLayer")]
  resolved := Array.replicate 834 none
  statics := none }

def pool8 : Array CpInfo := pool [(1, .class_ 2), (0, u "java/lang/Math"), (1, .class_ 6), (1, u "java/lang/Object"), (0, u "<init>"), (0, u "()V"), (89, .class_ 100), (1, u "java/lang/Math$RandomNumberGeneratorHolder"), (20, u "(JJ)J"), (50, u "negativeZeroFloatBits"), (0, u "J"), (2, u "negativeZeroDoubleBits"), (24, u "min"), (43, u "$assertionsDisabled"), (0, u "Z"), (91, u "twoToTheDoubleScaleDown"), (0, u "D"), (4, u "twoToTheDoubleScaleUp"), (9, u "E"), (3, u "PI"), (2, u "TAU"), (2, u "DEGREES_TO_RADIANS"), (0, u "RADIANS_TO_DEGREES")] 94

def k8m0 : Method := { name := "<init>", desc := "()V", sig := { parameters := [], returnType := none }, accessFlags := 2, code := none }
def k8c1 : Code := { maxStack := 4, maxLocals := 4, code := jdk_29_method_70_code, exceptionTable := #[], attributes := #[] }
def k8m1 : Method := { name := "min", desc := "(JJ)J", sig := { parameters := [.long, .long], returnType := some .long }, accessFlags := 9, code := some k8c1 }
/-- java/lang/Math -/
def k8 : Class := { plain "java/lang/Math" (some 0) with
  accessFlags := 49
  interfaces := #[]
  cf := some (fileOf pool8 1 #[.nestMembers #[98]] #[{ accessFlags := 2, nameIndex := 7, descriptorIndex := 8, attributes := #[] }, { accessFlags := 9, nameIndex := 201, descriptorIndex := 121, attributes := #[] }] 49 4 #[] #[{ accessFlags := 25, nameIndex := 354, descriptorIndex := 339, attributes := #[] }, { accessFlags := 25, nameIndex := 358, descriptorIndex := 339, attributes := #[] }, { accessFlags := 25, nameIndex := 361, descriptorIndex := 339, attributes := #[] }, { accessFlags := 26, nameIndex := 364, descriptorIndex := 339, attributes := #[] }, { accessFlags := 26, nameIndex := 365, descriptorIndex := 339, attributes := #[] }, { accessFlags := 26, nameIndex := 172, descriptorIndex := 173, attributes := #[] }, { accessFlags := 26, nameIndex := 176, descriptorIndex := 173, attributes := #[] }, { accessFlags := 8, nameIndex := 344, descriptorIndex := 339, attributes := #[] }, { accessFlags := 8, nameIndex := 338, descriptorIndex := 339, attributes := #[] }, { accessFlags := 4120, nameIndex := 245, descriptorIndex := 246, attributes := #[] }])
  fields := #[{ name := "E", type := .double, accessFlags := 25, slot := 0, constantValue := 0 }, { name := "PI", type := .double, accessFlags := 25, slot := 1, constantValue := 0 }, { name := "TAU", type := .double, accessFlags := 25, slot := 2, constantValue := 0 }, { name := "DEGREES_TO_RADIANS", type := .double, accessFlags := 26, slot := 3, constantValue := 0 }, { name := "RADIANS_TO_DEGREES", type := .double, accessFlags := 26, slot := 4, constantValue := 0 }, { name := "negativeZeroFloatBits", type := .long, accessFlags := 26, slot := 5, constantValue := 0 }, { name := "negativeZeroDoubleBits", type := .long, accessFlags := 26, slot := 6, constantValue := 0 }, { name := "twoToTheDoubleScaleUp", type := .double, accessFlags := 8, slot := 7, constantValue := 0 }, { name := "twoToTheDoubleScaleDown", type := .double, accessFlags := 8, slot := 8, constantValue := 0 }, { name := "$assertionsDisabled", type := .boolean, accessFlags := 4120, slot := 9, constantValue := 0 }]
  methods := #[k8m0, k8m1]
  instanceTypes := #[]
  staticTypes := #[.double, .double, .double, .double, .double, .long, .long, .double, .double, .boolean]
  resolved := Array.replicate 460 none
  statics := none }

def pool9 : Array CpInfo := pool [(1, u "java/lang/Cloneable"), (0, .class_ 1), (0, u "java/lang/Object"), (0, .class_ 3)] 3

/-- java/lang/Cloneable -/
def k9 : Class := { plain "java/lang/Cloneable" (some 0) with
  accessFlags := 1537
  interfaces := #[]
  cf := some (fileOf pool9 2 #[] #[] 1537 4 #[] #[])
  fields := #[]
  methods := #[]
  instanceTypes := #[]
  staticTypes := #[]
  resolved := Array.replicate 8 none
  statics := none }

def pool10 : Array CpInfo := pool [(1, u "java/io/Serializable"), (0, .class_ 1), (0, u "java/lang/Object"), (0, .class_ 3)] 3

/-- java/io/Serializable -/
def k10 : Class := { plain "java/io/Serializable" (some 0) with
  accessFlags := 1537
  interfaces := #[]
  cf := some (fileOf pool10 2 #[] #[] 1537 4 #[] #[])
  fields := #[]
  methods := #[]
  instanceTypes := #[]
  staticTypes := #[]
  resolved := Array.replicate 8 none
  statics := none }

/-- the primitive boolean -/
def k11 : Class := { plain "boolean" none with kind := .primitive 'Z', accessFlags := 0x411 }
/-- [Z -/
def k12 : Class := { plain "[Z" (some 0) with kind := .array 11 .boolean, interfaces := #[9, 10], accessFlags := 1041 }

/-- the primitive byte -/
def k13 : Class := { plain "byte" none with kind := .primitive 'B', accessFlags := 0x411 }
/-- [B -/
def k14 : Class := { plain "[B" (some 0) with kind := .array 13 .byte, interfaces := #[9, 10], accessFlags := 1041 }

/-- the primitive int -/
def k15 : Class := { plain "int" none with kind := .primitive 'I', accessFlags := 0x411 }
/-- [I -/
def k16 : Class := { plain "[I" (some 0) with kind := .array 15 .int, interfaces := #[9, 10], accessFlags := 1041 }

/-- the primitive long -/
def k17 : Class := { plain "long" none with kind := .primitive 'J', accessFlags := 0x411 }
/-- [J -/
def k18 : Class := { plain "[J" (some 0) with kind := .array 17 .long, interfaces := #[9, 10], accessFlags := 1041 }

def heap : Heap := #[]
/-- double -/
def k19 : Class := { plain "double" none with kind := .primitive 'D', accessFlags := 0x411 }
/-- [D -/
def k20 : Class := { plain "[D" (some 0) with kind := .array 19 .double, interfaces := #[9, 10], accessFlags := 1041 }
def classes : Array Class := #[k0, k1, k2, k3, k4, k5, k6, k7, k8, k9, k10, k11, k12, k13, k14, k15, k16, k17, k18, k19, k20]
def interned : List (Array UInt16 × Addr) := []
def slotsUsed : Nat := 0
def theMethod : MethodId := ⟨1, 1⟩
def args0 : Array Value := #[.int 1, .int 2, .int 3, .long 4, .long 5, .long 6]
def aboutOver (below : List Frame) : State where
  vm := { classes := classes, interned := interned.toArray }
  heap := heap
  slotsUsed := slotsUsed
  threads := #[{ frames := .invoking theMethod args0 :: below }]
def below0 : List Frame := [.native { method := ⟨0, 0⟩, args := #[] }]
def about1 : State := aboutOver below0
def p0 : Program := .bare "" "" ""
def e0 : Env := launch0.env 0 0 0
theorem w_frames : about1.frames = Frame.invoking theMethod args0 :: below0 := rfl
set_option maxRecDepth 65536 in
theorem w_args : argsFit about1.vm theMethod args0 = true := by decide +kernel
set_option maxRecDepth 65536 in
theorem w_heap : heapFits about1 = true := by decide +kernel
set_option maxRecDepth 65536 in
theorem w_runnable : about1.curStatus? = some .runnable := by decide +kernel
set_option maxRecDepth 65536 in
theorem w_alone : about1.alone = true := by decide +kernel
set_option maxRecDepth 65536 in
theorem w_named : about1.methodNamed? x = some theMethod := by decide +kernel
set_option maxRecDepth 65536 in
theorem w_hears : about1.hears theMethod below0 = true := by decide +kernel
set_option maxRecDepth 65536 in
theorem w_ripe : about1.ripe theMethod args0 below0 = true := by decide +kernel
theorem w_running : about1.status = .running := rfl
set_option maxRecDepth 65536 in
theorem w_room : about1.hasRoom e0.platform room_1 = true :=
  launch0.hasRoom_least _ room_1 (by decide +kernel) (by decide +kernel) (by decide +kernel) (by decide +kernel) (by decide +kernel) (by decide +kernel)
theorem allAtoms_all (ts : List Jvm.Cond) (a : Array Jvm.Value) (st : Jvm.State) : (allAtoms ts).before a st = ts.all (fun c => c.before a st) := by
  induction ts with
  | nil => rfl
  | cons c t ih =>
    show (Jvm.Cond.and c (allAtoms t)).before a st = _
    rw [Jvm.Cond.before_and, ih, List.all_cons]
def words1 : List Jvm.Cond := Jvm.Cond.code x code maxLocals ret :: tables_1
/-- a 'code' word, met by the world's own term for the bytes: nothing is compared byte by byte -/
theorem code_word {y : MethodName} {bytes : ByteArray} {mx : Nat} {rt : Option FieldType} {a : Array Value} {s : State} {m : MethodId} {meth : Method} {c : Code} (h1 : s.methodNamed? y = some m) (h2 : s.vm.method? m = some meth) (h3 : meth.code = some c) (h4 : c.code = bytes)
    (h5 : (c.maxLocals == mx && c.exceptionTable.isEmpty && decide (c.maxStack ≤ mostOperands) && decide (meth.sig.returnType = rt) && !meth.locks && decide (parseMethodDescriptor y.desc = some meth.sig)) = true) : (Jvm.Cond.code y bytes mx rt).before a s = true := by
  simp only [Bool.and_eq_true, beq_iff_eq, Bool.not_eq_true', decide_eq_true_eq] at h5
  obtain ⟨⟨⟨⟨⟨g1, g2⟩, g3⟩, g4⟩, g5⟩, g6⟩ := h5
  simp [Cond.before, Cond.holds, Cond.value, h1, h2, h3, h4, g1, g2, g3, g4, g5, g6]
def isCode : Jvm.Cond → Bool
  | .code _ _ _ _ => true
  | _ => false
theorem all_split {L : List Jvm.Cond} {P : Jvm.Cond → Bool} (h1 : L.all (fun c => isCode c || P c) = true) (h2 : ∀ c ∈ L.filter isCode, P c = true) : L.all P = true := by
  refine List.all_eq_true.mpr fun c hc => ?_
  have h := List.all_eq_true.mp h1 c hc
  rcases Bool.eq_false_or_eq_true (isCode c) with hi | hi
  · exact h2 c (List.mem_filter.mpr ⟨hc, hi⟩)
  · simpa [hi] using h
set_option maxRecDepth 65536 in
theorem w_c0 : (Jvm.Cond.code x code maxLocals ret).before args0 about1 = true := code_word (m := ⟨1, 1⟩) (meth := k1m1) (c := k1c1) (by decide +kernel) rfl rfl rfl (by decide +kernel)
set_option maxRecDepth 65536 in
theorem w_c1 : (Jvm.Cond.code ({ cls := "com/example/boceto/boceto/signature/ComponentBuffers", name := "<init>", desc := "(II)V" } : Jvm.MethodName) prog_28_method_1_code (3 : Nat) (Option.none : Option Jvm.ClassFile.FieldType)).before args0 about1 = true := code_word (m := ⟨2, 0⟩) (meth := k2m0) (c := k2c0) (by decide +kernel) rfl rfl rfl (by decide +kernel)
set_option maxRecDepth 65536 in
theorem w_c2 : (Jvm.Cond.code ({ cls := "java/lang/Object", name := "<init>", desc := "()V" } : Jvm.MethodName) object_method_1_code (1 : Nat) (Option.none : Option Jvm.ClassFile.FieldType)).before args0 about1 = true := code_word (m := ⟨0, 0⟩) (meth := k0m0) (c := k0c0) (by decide +kernel) rfl rfl rfl (by decide +kernel)
set_option maxRecDepth 65536 in
theorem w_c3 : (Jvm.Cond.code ({ cls := "com/example/boceto/boceto/signature/ComponentBuffers$Insertion", name := "<init>", desc := "(Lcom/example/boceto/boceto/signature/ComponentBuffers;)V" } : Jvm.MethodName) prog_29_method_1_code (2 : Nat) (Option.none : Option Jvm.ClassFile.FieldType)).before args0 about1 = true := code_word (m := ⟨4, 0⟩) (meth := k4m0) (c := k4c0) (by decide +kernel) rfl rfl rfl (by decide +kernel)
set_option maxRecDepth 65536 in
theorem w_c4 : (Jvm.Cond.code ({ cls := "com/example/boceto/boceto/signature/ComponentBuffers$Removal", name := "<init>", desc := "(Lcom/example/boceto/boceto/signature/ComponentBuffers;)V" } : Jvm.MethodName) prog_30_method_1_code (2 : Nat) (Option.none : Option Jvm.ClassFile.FieldType)).before args0 about1 = true := code_word (m := ⟨5, 0⟩) (meth := k5m0) (c := k5c0) (by decide +kernel) rfl rfl rfl (by decide +kernel)
set_option maxRecDepth 65536 in
theorem w_c5 : (Jvm.Cond.code ({ cls := "java/util/Arrays", name := "fill", desc := "([DD)V" } : Jvm.MethodName) jdk_65_method_113_code (5 : Nat) (Option.none : Option Jvm.ClassFile.FieldType)).before args0 about1 = true := code_word (m := ⟨6, 1⟩) (meth := k6m1) (c := k6c1) (by decide +kernel) rfl rfl rfl (by decide +kernel)
set_option maxRecDepth 65536 in
theorem w_c6 : (Jvm.Cond.code ({ cls := "com/example/boceto/boceto/signature/ComponentBuffers", name := "minimumIdentities", desc := "()[J" } : Jvm.MethodName) prog_28_method_11_code (3 : Nat) (Option.some (Jvm.ClassFile.FieldType.array Jvm.ClassFile.FieldType.long))).before args0 about1 = true := code_word (m := ⟨2, 2⟩) (meth := k2m2) (c := k2c2) (by decide +kernel) rfl rfl rfl (by decide +kernel)
set_option maxRecDepth 65536 in
theorem w_c7 : (Jvm.Cond.code ({ cls := "com/example/boceto/boceto/signature/ComponentBuffersMinimumIdentitiesPinLaw", name := "step", desc := "(Lcom/example/boceto/boceto/signature/ComponentBuffers;[Z[I[JIIJ)V" } : Jvm.MethodName) method_3_code (10 : Nat) (Option.none : Option Jvm.ClassFile.FieldType)).before args0 about1 = true := code_word (m := ⟨1, 2⟩) (meth := k1m2) (c := k1c2) (by decide +kernel) rfl rfl rfl (by decide +kernel)
set_option maxRecDepth 65536 in
theorem w_c8 : (Jvm.Cond.code ({ cls := "com/example/boceto/boceto/signature/ComponentBuffers", name := "insert", desc := "(IDJ)V" } : Jvm.MethodName) prog_28_method_6_code (11 : Nat) (Option.none : Option Jvm.ClassFile.FieldType)).before args0 about1 = true := code_word (m := ⟨2, 1⟩) (meth := k2m1) (c := k2c1) (by decide +kernel) rfl rfl rfl (by decide +kernel)
set_option maxRecDepth 65536 in
theorem w_c9 : (Jvm.Cond.code ({ cls := "com/example/boceto/boceto/signature/ComponentBuffers", name := "lowerBound", desc := "(IID)I" } : Jvm.MethodName) prog_28_method_12_code (8 : Nat) (Option.some Jvm.ClassFile.FieldType.int)).before args0 about1 = true := code_word (m := ⟨2, 3⟩) (meth := k2m3) (c := k2c3) (by decide +kernel) rfl rfl rfl (by decide +kernel)
set_option maxRecDepth 65536 in
theorem w_c10 : (Jvm.Cond.code ({ cls := "com/example/boceto/boceto/signature/ComponentBuffers", name := "shiftUp", desc := "(II)V" } : Jvm.MethodName) prog_28_method_13_code (3 : Nat) (Option.none : Option Jvm.ClassFile.FieldType)).before args0 about1 = true := code_word (m := ⟨2, 4⟩) (meth := k2m4) (c := k2c4) (by decide +kernel) rfl rfl rfl (by decide +kernel)
set_option maxRecDepth 65536 in
theorem w_c11 : (Jvm.Cond.code ({ cls := "com/example/boceto/boceto/signature/ComponentBuffers", name := "grow", desc := "()V" } : Jvm.MethodName) prog_28_method_14_code (5 : Nat) (Option.none : Option Jvm.ClassFile.FieldType)).before args0 about1 = true := code_word (m := ⟨2, 5⟩) (meth := k2m5) (c := k2c5) (by decide +kernel) rfl rfl rfl (by decide +kernel)
set_option maxRecDepth 65536 in
theorem w_c12 : (Jvm.Cond.code ({ cls := "java/lang/Math", name := "min", desc := "(JJ)J" } : Jvm.MethodName) jdk_29_method_70_code (4 : Nat) (Option.some Jvm.ClassFile.FieldType.long)).before args0 about1 = true := code_word (m := ⟨8, 1⟩) (meth := k8m1) (c := k8c1) (by decide +kernel) rfl rfl rfl (by decide +kernel)
def codes1 : List Jvm.Cond := [Jvm.Cond.code x code maxLocals ret, Jvm.Cond.code ({ cls := "com/example/boceto/boceto/signature/ComponentBuffers", name := "<init>", desc := "(II)V" } : Jvm.MethodName) prog_28_method_1_code (3 : Nat) (Option.none : Option Jvm.ClassFile.FieldType), Jvm.Cond.code ({ cls := "java/lang/Object", name := "<init>", desc := "()V" } : Jvm.MethodName) object_method_1_code (1 : Nat) (Option.none : Option Jvm.ClassFile.FieldType), Jvm.Cond.code ({ cls := "com/example/boceto/boceto/signature/ComponentBuffers$Insertion", name := "<init>", desc := "(Lcom/example/boceto/boceto/signature/ComponentBuffers;)V" } : Jvm.MethodName) prog_29_method_1_code (2 : Nat) (Option.none : Option Jvm.ClassFile.FieldType), Jvm.Cond.code ({ cls := "com/example/boceto/boceto/signature/ComponentBuffers$Removal", name := "<init>", desc := "(Lcom/example/boceto/boceto/signature/ComponentBuffers;)V" } : Jvm.MethodName) prog_30_method_1_code (2 : Nat) (Option.none : Option Jvm.ClassFile.FieldType), Jvm.Cond.code ({ cls := "java/util/Arrays", name := "fill", desc := "([DD)V" } : Jvm.MethodName) jdk_65_method_113_code (5 : Nat) (Option.none : Option Jvm.ClassFile.FieldType), Jvm.Cond.code ({ cls := "com/example/boceto/boceto/signature/ComponentBuffers", name := "minimumIdentities", desc := "()[J" } : Jvm.MethodName) prog_28_method_11_code (3 : Nat) (Option.some (Jvm.ClassFile.FieldType.array Jvm.ClassFile.FieldType.long)), Jvm.Cond.code ({ cls := "com/example/boceto/boceto/signature/ComponentBuffersMinimumIdentitiesPinLaw", name := "step", desc := "(Lcom/example/boceto/boceto/signature/ComponentBuffers;[Z[I[JIIJ)V" } : Jvm.MethodName) method_3_code (10 : Nat) (Option.none : Option Jvm.ClassFile.FieldType), Jvm.Cond.code ({ cls := "com/example/boceto/boceto/signature/ComponentBuffers", name := "insert", desc := "(IDJ)V" } : Jvm.MethodName) prog_28_method_6_code (11 : Nat) (Option.none : Option Jvm.ClassFile.FieldType), Jvm.Cond.code ({ cls := "com/example/boceto/boceto/signature/ComponentBuffers", name := "lowerBound", desc := "(IID)I" } : Jvm.MethodName) prog_28_method_12_code (8 : Nat) (Option.some Jvm.ClassFile.FieldType.int), Jvm.Cond.code ({ cls := "com/example/boceto/boceto/signature/ComponentBuffers", name := "shiftUp", desc := "(II)V" } : Jvm.MethodName) prog_28_method_13_code (3 : Nat) (Option.none : Option Jvm.ClassFile.FieldType), Jvm.Cond.code ({ cls := "com/example/boceto/boceto/signature/ComponentBuffers", name := "grow", desc := "()V" } : Jvm.MethodName) prog_28_method_14_code (5 : Nat) (Option.none : Option Jvm.ClassFile.FieldType), Jvm.Cond.code ({ cls := "java/lang/Math", name := "min", desc := "(JJ)J" } : Jvm.MethodName) jdk_29_method_70_code (4 : Nat) (Option.some Jvm.ClassFile.FieldType.long)]
set_option maxRecDepth 65536 in
theorem codes_eq : words1.filter isCode = codes1 := rfl
theorem w_codes : ∀ c ∈ words1.filter isCode, c.before args0 about1 = true := by
  rw [codes_eq]
  intro c hc
  simp only [codes1, List.mem_cons, List.not_mem_nil, or_false] at hc
  rcases hc with rfl | rfl | rfl | rfl | rfl | rfl | rfl | rfl | rfl | rfl | rfl | rfl | rfl
  · exact w_c0
  · exact w_c1
  · exact w_c2
  · exact w_c3
  · exact w_c4
  · exact w_c5
  · exact w_c6
  · exact w_c7
  · exact w_c8
  · exact w_c9
  · exact w_c10
  · exact w_c11
  · exact w_c12
set_option maxRecDepth 65536 in
theorem w_t1 : (words1.take 24).all (fun c => isCode c || c.before args0 about1) = true := by decide +kernel
set_option maxRecDepth 65536 in
theorem w_t2 : ((words1.drop 24).take 24).all (fun c => isCode c || c.before args0 about1) = true := by decide +kernel
set_option maxRecDepth 65536 in
theorem w_t3 : (((words1.drop 24).drop 24).take 24).all (fun c => isCode c || c.before args0 about1) = true := by decide +kernel
set_option maxRecDepth 65536 in
theorem w_t4 : (((words1.drop 24).drop 24).drop 24).all (fun c => isCode c || c.before args0 about1) = true := by decide +kernel
theorem w_tables : (allAtoms (Jvm.Cond.code x code maxLocals ret :: tables_1)).before args0 about1 = true := by
  rw [allAtoms_all]
  show words1.all (fun c => c.before args0 about1) = true
  refine all_split ?_ w_codes
  rw [← List.take_append_drop 24 words1, List.all_append, w_t1, ← List.take_append_drop 24 (words1.drop 24), List.all_append, w_t2, ← List.take_append_drop 24 ((words1.drop 24).drop 24), List.all_append, w_t3, w_t4]
  rfl
set_option maxRecDepth 65536 in
theorem w_case : (Jvm.Cond.and given_1 narrow_1).before args0 about1 = true := by decide +kernel
theorem w_applies : (headSpec (Jvm.Cond.code x code maxLocals ret :: tables_1) room_1).applies x e0.platform about1 = true :=
  (Spec.applies_iff w_frames).mpr ⟨w_running, w_runnable, w_alone, w_named, w_hears, w_ripe, w_room, w_tables⟩
theorem atStart : AtStart classFile x code maxLocals ret World_1 tables_1 room_1 Calls_1 rest_1 Pre_1 launch0 p0 e0 about1 theMethod args0 below0 :=
  ⟨lists_1, trivial, launch0.admits_env _ _ _, launch0.least_env, fairChoices_fair.cas, fairChoices_fair.clock, w_frames, w_args, w_heap, w_applies, trivial, trivial, w_case⟩
end start1
theorem witness_1 : WitnessClaimed_1 := ⟨start1.p0, start1.e0, start1.about1, start1.theMethod, start1.args0, start1.below0, start1.atStart⟩
end Jvm.Pilot.@@N@@
